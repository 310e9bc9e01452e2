import JvmDerived
import JvmDerived.Pilot.@@N@@Statement
import JvmDerived.Pilot.@@N@@Code
set_option linter.unusedVariables false
set_option linter.unusedSimpArgs false
namespace Jvm.Pilot.@@N@@
open Jvm Jvm.ClassFile Sem Op Lib Jvm.Free Jvm.Stand Jvm.LawKit Jvm.RoadKit Bundle Jvm.Pilot.@@N@@.Jvm.D
def Go (p : Program) (e : Env) (below : List Frame) (G : State → Prop) (T : State) (f : JFrame) : Prop := ∃ t, Steps p.tables e below (T.setTop f) t ∧ G t
theorem Go.step {p : Program} {e : Env} {below : List Frame} {G : State → Prop} {T T' : State} {f f' : JFrame} (k : ∀ t, Steps p.tables e below (T'.setTop f') t → Steps p.tables e below (T.setTop f) t) (h : Go p e below G T' f') : Go p e below G T f := by
  obtain ⟨t, h1, h2⟩ := h
  exact ⟨t, k t h1, h2⟩
def Fin1 (s : State) (below : List Frame) (Q : Option Value → Heap → List Loc → Prop) (k n : Nat) (t : State) : Prop := ∃ o, t.status = .running ∧ Ended t below o ∧ ∃ v L, o = .returned v ∧ Q v t.heap L ∧ FrameEnd s o t L k n
theorem of_go {p : Program} {e : Env} {below : List Frame} {s s₁ : State} {Q : Option Value → Heap → List Loc → Prop} {k n : Nat} {f f' : JFrame} (hf : f' = f) (h : Go p e below (Fin1 s below Q k n) s₁ f) :
    ∃ s₂ o, Steps p.tables e below (s₁.setTop f') s₂ ∧ s₂.status = .running ∧ Ended s₂ below o ∧ ∃ v L, o = .returned v ∧ Q v s₂.heap L ∧ FrameEnd s o s₂ L k n := by
  subst hf
  obtain ⟨t, h1, o, h2, h3, h4⟩ := h
  exact ⟨t, o, h1, h2, h3, h4⟩
section Ends
variable {p : Program} {l : Launch} {e : Env} {R : Room} {s : State} {m : MethodId} {args : Array Value} {below : List Frame} {meth : Method} {c : Code} {T : State} {locs : List Loc} {cells slots : Nat} {Q : Option Value → Heap → List Loc → Prop} {k n : Nat}
theorem goN (X : Stand p l e R s m args below meth c T locs cells slots) (hx : p.tables.exec = Jvm.exec) {pc : Nat} {Ls : Array Slot} {z : Int32} {t : FieldType} {rest : List Value} (hret : meth.sig.returnType = some t) (ht : t = .boolean ∨ t = .byte ∨ t = .char ∨ t = .short) (hlk : meth.locks = false)
    (hd : decode c.code pc = .ok (.ireturn, 1)) (hQ : Q (some (.int (nar t z))) T.heap locs) (hk : cells ≤ k) (hn : slots ≤ n) : Go p e below (Fin1 s below Q k n) T (mkF m pc Ls (.int z :: rest)) := by
  obtain ⟨fs, hr, hrun, hended, hW, hsame⟩ := X.leave (v := some (.int (nar t z))) (fun h => by rw [hret] at h; cases h) hlk
  exact ⟨_, Jvm.RoadKit.retN X hx hret ht hd hr, _, hrun, hended, _, _, rfl, hQ, ⟨_, rfl⟩, hW, hsame.mono hk hn⟩
theorem goO (X : Stand p l e R s m args below meth c T locs cells slots) (hx : p.tables.exec = Jvm.exec) {pc : Nat} {Ls : Array Slot} {w : Value} {t : FieldType} {i : Instr} {rest : List Value} (hret : meth.sig.returnType = some t) (hnw : narrow t w = w)
    (hi : (i = .ireturn ∧ (t = .int ∨ t = .boolean ∨ t = .byte ∨ t = .char ∨ t = .short) ∧ ∃ z, w = .int z) ∨ (i = .lreturn ∧ t = .long ∧ ∃ z, w = .long z) ∨ (i = .dreturn ∧ t = .double ∧ ∃ z, w = .double z) ∨ (i = .freturn ∧ t = .float ∧ ∃ z, w = .float z) ∨ (i = .areturn ∧ t.isReference = true ∧ w.isRef = true)) (hlk : meth.locks = false)
    (hd : decode c.code pc = .ok (i, 1)) (hQ : Q (some w) T.heap locs) (hk : cells ≤ k) (hn : slots ≤ n) : Go p e below (Fin1 s below Q k n) T (mkF m pc Ls (w :: rest)) := by
  obtain ⟨fs, hr, hrun, hended, hW, hsame⟩ := X.leave (v := some w) (fun h => by rw [hret] at h; cases h) hlk
  exact ⟨_, Jvm.RoadKit.retOut X hx hret hnw hi hd hr, _, hrun, hended, _, _, rfl, hQ, ⟨_, rfl⟩, hW, hsame.mono hk hn⟩
theorem goI (X : Stand p l e R s m args below meth c T locs cells slots) (hx : p.tables.exec = Jvm.exec) {pc : Nat} {Ls : Array Slot} {z : Int32} {rest : List Value} (hret : meth.sig.returnType = some .int) (hlk : meth.locks = false)
    (hd : decode c.code pc = .ok (.ireturn, 1)) (hQ : Q (some (.int z)) T.heap locs) (hk : cells ≤ k) (hn : slots ≤ n) : Go p e below (Fin1 s below Q k n) T (mkF m pc Ls (.int z :: rest)) :=
  goO X hx hret rfl (Or.inl ⟨rfl, Or.inl rfl, _, rfl⟩) hlk hd hQ hk hn
theorem goJ (X : Stand p l e R s m args below meth c T locs cells slots) (hx : p.tables.exec = Jvm.exec) {pc : Nat} {Ls : Array Slot} {z : Int64} {rest : List Value} (hret : meth.sig.returnType = some .long) (hlk : meth.locks = false)
    (hd : decode c.code pc = .ok (.lreturn, 1)) (hQ : Q (some (.long z)) T.heap locs) (hk : cells ≤ k) (hn : slots ≤ n) : Go p e below (Fin1 s below Q k n) T (mkF m pc Ls (.long z :: rest)) :=
  goO X hx hret rfl (Or.inr (Or.inl ⟨rfl, rfl, _, rfl⟩)) hlk hd hQ hk hn
theorem goA (X : Stand p l e R s m args below meth c T locs cells slots) (hx : p.tables.exec = Jvm.exec) {pc : Nat} {Ls : Array Slot} {w : Value} {t : FieldType} {rest : List Value} (hret : meth.sig.returnType = some t) (ht : t.isReference = true) (hw : w.isRef = true) (hlk : meth.locks = false)
    (hd : decode c.code pc = .ok (.areturn, 1)) (hQ : Q (some w) T.heap locs) (hk : cells ≤ k) (hn : slots ≤ n) : Go p e below (Fin1 s below Q k n) T (mkF m pc Ls (w :: rest)) :=
  goO X hx hret (by cases t <;> cases w <;> first | rfl | (simp [FieldType.isReference] at ht; done) | (simp [Value.isRef] at hw; done)) (Or.inr (Or.inr (Or.inr (Or.inr ⟨rfl, ht, hw⟩)))) hlk hd hQ hk hn
theorem goV (X : Stand p l e R s m args below meth c T locs cells slots) (hx : p.tables.exec = Jvm.exec) {pc : Nat} {Ls : Array Slot} (hret : meth.sig.returnType = none) (hlk : meth.locks = false)
    (hd : decode c.code pc = .ok (.return_, 1)) (hQ : Q none T.heap locs) (hk : cells ≤ k) (hn : slots ≤ n) : Go p e below (Fin1 s below Q k n) T (mkF m pc Ls []) := by
  obtain ⟨fs, hr, hrun, hended, hW, hsame⟩ := X.leave (v := none) (fun _ => rfl) hlk
  exact ⟨_, X.returnOut hx hret hd hr, _, hrun, hended, _, _, rfl, hQ, ⟨_, rfl⟩, hW, hsame.mono hk hn⟩
def FinW (s : State) (below : List Frame) (Q : Option Value → Heap → List Loc → Prop) (k n : Nat) (t : State) : Prop := ∃ o, t.status = .running ∧ Ended t below o ∧ ∃ v L, o = .returned v ∧ Q v t.heap L ∧ ReturnedEndW s o t L k n
theorem of_goW {p : Program} {e : Env} {below : List Frame} {s s₁ : State} {Q : Option Value → Heap → List Loc → Prop} {k n : Nat} {f f' : JFrame} (hf : f' = f) (h : Go p e below (FinW s below Q k n) s₁ f) :
    ∃ s₂ o, Steps p.tables e below (s₁.setTop f') s₂ ∧ s₂.status = .running ∧ Ended s₂ below o ∧ ∃ v L, o = .returned v ∧ Q v s₂.heap L ∧ ReturnedEndW s o s₂ L k n := by
  subst hf
  obtain ⟨t, h1, o, h2, h3, h4⟩ := h
  exact ⟨t, o, h1, h2, h3, h4⟩
theorem goNW {vm0 : Vm} {n1 : Nat} (hS : s.Since vm0 n1) (X : Stand p l e R (s.setVm vm0) m args below meth c T locs cells slots) (hkk : n1 ≤ T.heap.size) (hx : p.tables.exec = Jvm.exec) {pc : Nat} {Ls : Array Slot} {z : Int32} {t : FieldType} {rest : List Value} (hret : meth.sig.returnType = some t) (ht : t = .boolean ∨ t = .byte ∨ t = .char ∨ t = .short) (hlk : meth.locks = false)
    (hd : decode c.code pc = .ok (.ireturn, 1)) (hQ : Q (some (.int (nar t z))) T.heap locs) (hk : cells ≤ k) (hn : slots ≤ n) : Go p e below (FinW s below Q k n) T (mkF m pc Ls (.int z :: rest)) := by
  obtain ⟨fs, hr, hrun, hended, hW, hsame⟩ := X.leave (v := some (.int (nar t z))) (fun h => by rw [hret] at h; cases h) hlk
  obtain ⟨a1, a2, a3⟩ := hS.ended hW (show n1 ≤ (T.setFrames fs).heap.size from hkk) hsame
  exact ⟨_, Jvm.RoadKit.retN X hx hret ht hd hr, _, hrun, hended, _, _, rfl, hQ, ⟨_, rfl⟩, a1, a2, a3.mono hk hn⟩
theorem goOW {vm0 : Vm} {n1 : Nat} (hS : s.Since vm0 n1) (X : Stand p l e R (s.setVm vm0) m args below meth c T locs cells slots) (hkk : n1 ≤ T.heap.size) (hx : p.tables.exec = Jvm.exec) {pc : Nat} {Ls : Array Slot} {w : Value} {t : FieldType} {i : Instr} {rest : List Value} (hret : meth.sig.returnType = some t) (hnw : narrow t w = w)
    (hi : (i = .ireturn ∧ (t = .int ∨ t = .boolean ∨ t = .byte ∨ t = .char ∨ t = .short) ∧ ∃ z, w = .int z) ∨ (i = .lreturn ∧ t = .long ∧ ∃ z, w = .long z) ∨ (i = .dreturn ∧ t = .double ∧ ∃ z, w = .double z) ∨ (i = .freturn ∧ t = .float ∧ ∃ z, w = .float z) ∨ (i = .areturn ∧ t.isReference = true ∧ w.isRef = true)) (hlk : meth.locks = false)
    (hd : decode c.code pc = .ok (i, 1)) (hQ : Q (some w) T.heap locs) (hk : cells ≤ k) (hn : slots ≤ n) : Go p e below (FinW s below Q k n) T (mkF m pc Ls (w :: rest)) := by
  obtain ⟨fs, hr, hrun, hended, hW, hsame⟩ := X.leave (v := some w) (fun h => by rw [hret] at h; cases h) hlk
  obtain ⟨a1, a2, a3⟩ := hS.ended hW (show n1 ≤ (T.setFrames fs).heap.size from hkk) hsame
  exact ⟨_, Jvm.RoadKit.retOut X hx hret hnw hi hd hr, _, hrun, hended, _, _, rfl, hQ, ⟨_, rfl⟩, a1, a2, a3.mono hk hn⟩
theorem goIW {vm0 : Vm} {n1 : Nat} (hS : s.Since vm0 n1) (X : Stand p l e R (s.setVm vm0) m args below meth c T locs cells slots) (hkk : n1 ≤ T.heap.size) (hx : p.tables.exec = Jvm.exec) {pc : Nat} {Ls : Array Slot} {z : Int32} {rest : List Value} (hret : meth.sig.returnType = some .int) (hlk : meth.locks = false)
    (hd : decode c.code pc = .ok (.ireturn, 1)) (hQ : Q (some (.int z)) T.heap locs) (hk : cells ≤ k) (hn : slots ≤ n) : Go p e below (FinW s below Q k n) T (mkF m pc Ls (.int z :: rest)) :=
  goOW hS X hkk hx hret rfl (Or.inl ⟨rfl, Or.inl rfl, _, rfl⟩) hlk hd hQ hk hn
theorem goAW {vm0 : Vm} {n1 : Nat} (hS : s.Since vm0 n1) (X : Stand p l e R (s.setVm vm0) m args below meth c T locs cells slots) (hkk : n1 ≤ T.heap.size) (hx : p.tables.exec = Jvm.exec) {pc : Nat} {Ls : Array Slot} {w : Value} {t : FieldType} {rest : List Value} (hret : meth.sig.returnType = some t) (ht : t.isReference = true) (hw : w.isRef = true) (hlk : meth.locks = false)
    (hd : decode c.code pc = .ok (.areturn, 1)) (hQ : Q (some w) T.heap locs) (hk : cells ≤ k) (hn : slots ≤ n) : Go p e below (FinW s below Q k n) T (mkF m pc Ls (w :: rest)) :=
  goOW hS X hkk hx hret (by cases t <;> cases w <;> first | rfl | (simp [FieldType.isReference] at ht; done) | (simp [Value.isRef] at hw; done)) (Or.inr (Or.inr (Or.inr (Or.inr ⟨rfl, ht, hw⟩)))) hlk hd hQ hk hn
theorem goVW {vm0 : Vm} {n1 : Nat} (hS : s.Since vm0 n1) (X : Stand p l e R (s.setVm vm0) m args below meth c T locs cells slots) (hkk : n1 ≤ T.heap.size) (hx : p.tables.exec = Jvm.exec) {pc : Nat} {Ls : Array Slot} (hret : meth.sig.returnType = none) (hlk : meth.locks = false)
    (hd : decode c.code pc = .ok (.return_, 1)) (hQ : Q none T.heap locs) (hk : cells ≤ k) (hn : slots ≤ n) : Go p e below (FinW s below Q k n) T (mkF m pc Ls []) := by
  obtain ⟨fs, hr, hrun, hended, hW, hsame⟩ := X.leave (v := none) (fun _ => rfl) hlk
  obtain ⟨a1, a2, a3⟩ := hS.ended hW (show n1 ≤ (T.setFrames fs).heap.size from hkk) hsame
  exact ⟨_, X.returnOut hx hret hd hr, _, hrun, hended, _, _, rfl, hQ, ⟨_, rfl⟩, a1, a2, a3.mono hk hn⟩
theorem narB {z : Int32} (h : z = 0 ∨ z = 1) : nar .boolean z = z := by rcases h with rfl | rfl <;> rfl
end Ends
def own_ce (c : Int32) : Int32 := if c.toInt ≤ 255 then 1 else 0
theorem own_ce1 {c : Int32} (h : c.toInt ≤ 255) : own_ce c = 1 := if_pos h
theorem own_ce0 {c : Int32} (h : ¬ (c.toInt ≤ 255)) : own_ce c = 0 := if_neg h
theorem own_c255 (x : Int32) : ((x &&& (255 : Int32)).toUInt32.toUInt16.toUInt32.toInt32).toInt ≤ 255 := by
  rw [i2c_mask]
  have h := c_and x 255 (by decide)
  have h5 : (255 : Int32).toInt = 255 := rfl
  omega
theorem d2_0 : decode jdk_43_method_3_code 0 = .ok (.iload_n 0, 1) := by decide +kernel
theorem d2_1 : decode jdk_43_method_3_code 1 = .ok (.sipush 255, 3) := by decide +kernel
theorem d2_4 : decode jdk_43_method_3_code 4 = .ok (.if_icmp .gt 7, 3) := by decide +kernel
theorem d2_11 : decode jdk_43_method_3_code 11 = .ok (.iconst 0, 1) := by decide +kernel
theorem d2_12 : decode jdk_43_method_3_code 12 = .ok (.ireturn, 1) := by decide +kernel
theorem d2_7 : decode jdk_43_method_3_code 7 = .ok (.iconst 1, 1) := by decide +kernel
theorem d2_8 : decode jdk_43_method_3_code 8 = .ok (.goto 4, 3) := by decide +kernel
theorem pn_2 : plainName "java/lang/StringLatin1" = true := by first | (simp [plainName, overriddenIn]; done) | decide +kernel
theorem ef_rm2 (m : MethodId) (p1 : Int32) : entryFrame m #[(.int p1)] 1 = mkF m 0 #[.val (.int p1)] [] := by first | (simp [entryFrame, mkF, argsToLocals, Value.category]; done) | rfl
def Q_rm2 (Z : State) (p1 : Int32) (h0 : Heap) (n0 : Nat) (rv : Option Value) (hq : Heap) (Lq : List Loc) : Prop := rv = some (.int (own_ce p1)) ∧ Fr n0 Lq ∧ hq = h0
set_option maxRecDepth 65536 in
set_option maxHeartbeats 40000000 in
theorem rm2 (l : Launch) (Z : State) (a0 : Array Value) (hw : ∀ d ∈ tables_1, d.before a0 Z = true) (ws : List Jvm.Cond) (p1 : Int32) (h0 : Heap) (n0 : Nat) (Z0 : n0 ≤ h0.size) :
    MetFree l (⟨"java/lang/StringLatin1", "canEncode", "(C)Z"⟩ : MethodName) (head1 (Jvm.Cond.code (⟨"java/lang/StringLatin1", "canEncode", "(C)Z"⟩ : MethodName) jdk_43_method_3_code 1 (some .boolean) :: ws) ({ frames := 0, cells := 0, slots := 0, locals := 0 } : Room)) (fun a U => a = #[(.int p1)] ∧ Z.Warmed39 U.vm ∧ U.heap = h0) (fun _ _ _ _ _ => True) (fun _ U o U' => ∃ rv Lq, o = .returned rv ∧ Q_rm2 Z p1 h0 n0 rv U'.heap Lq ∧ FrameEnd U o U' Lq ({ frames := 0, cells := 0, slots := 0, locals := 0 } : Room).cells ({ frames := 0, cells := 0, slots := 0, locals := 0 } : Room).slots) := by
  refine MetFree.of_bodySF (plainFor_of_name pn_2) hisR ?_
  intro p e s m args below meth c s₁ Bd hml0 hP hK
  obtain ⟨rfl, hZ, hh⟩ := hP
  have hx := Bd.exec
  have hby := Bd.bytes
  have hml : c.maxLocals = 1 := hml0
  have hown : s.vm.findClass "java/lang/StringLatin1" = some m.cls := findClass_of_methodNamed Bd.named
  have hnm := (name_of_methodNamed Bd.named Bd.method).1
  have X0 : Stand p l e ({ frames := 0, cells := 0, slots := 0, locals := 0 } : Room) s m #[(.int p1)] below meth c s₁ [] 0 0 := Stand.of_body Bd
  have e0 : s₁.heap = h0 := by rw [← hh, Bd.state]; rfl
  have N0 := Fr.nil n0
  refine of_go (ef_rm2 m p1) ?_
  refine Go.step (T' := s₁) (f' := (mkF m 1 #[.val (.int p1)] [(.int p1)])) (fun _ k => XS.iloadN X0.here hx rfl (hb hby d2_0) rfl k) ?_
  refine Go.step (T' := s₁) (f' := (mkF m 4 #[.val (.int p1)] [(.int (255 : Int32)), (.int p1)])) (fun _ k => XS.sipush X0.here hx rfl (hb hby d2_1) k) ?_
  by_cases hc4 : (255 : Int32) < p1
  · refine Go.step (T' := s₁) (f' := (mkF m 11 #[.val (.int p1)] [])) (fun _ k => XS.icmpYes X0.here hx rfl (pc0 := 4) (pc' := 11) rfl (hb hby d2_4) rfl (tlt hc4).2.2.1 (by decide) (by decide) k) ?_
    refine Go.step (T' := s₁) (f' := (mkF m 12 #[.val (.int p1)] [(.int (0 : Int32))])) (fun _ k => XS.iconst X0.here hx rfl (hb hby d2_11) k) ?_
    refine goN X0 hx (t := .boolean) Bd.returns (by simp) Bd.notSynchronized (hb hby d2_12) ?_ (by decide) (by decide)
    show Q_rm2 Z p1 h0 n0 _ s₁.heap _
    rw [e0]
    exact ⟨by rw [own_ce0 (by simp only [Int32.lt_iff_toInt_lt, ← Int32.toInt_inj, Int32.reduceToInt] at hc4 <;> omega)]; rfl, N0, rfl⟩
  · refine Go.step (T' := s₁) (f' := (mkF m 7 #[.val (.int p1)] [])) (fun _ k => XS.icmpNo X0.here hx rfl (hb hby d2_4) rfl (flt hc4).2.2.1 k) ?_
    refine Go.step (T' := s₁) (f' := (mkF m 8 #[.val (.int p1)] [(.int (1 : Int32))])) (fun _ k => XS.iconst X0.here hx rfl (hb hby d2_7) k) ?_
    refine Go.step (T' := s₁) (f' := (mkF m 12 #[.val (.int p1)] [(.int (1 : Int32))])) (fun _ k => XS.goto X0.here hx rfl (pc0 := 8) (pc' := 12) rfl (hb hby d2_8) (by decide) (by decide) k) ?_
    refine goN X0 hx (t := .boolean) Bd.returns (by simp) Bd.notSynchronized (hb hby d2_12) ?_ (by decide) (by decide)
    show Q_rm2 Z p1 h0 n0 _ s₁.heap _
    rw [e0]
    exact ⟨by rw [own_ce1 (by simp only [Int32.lt_iff_toInt_lt, ← Int32.toInt_inj, Int32.reduceToInt] at hc4 <;> omega)]; rfl, N0, rfl⟩
theorem d3_0 : decode jdk_43_method_46_code 0 = .ok (.iconst 1, 1) := by decide +kernel
theorem d3_1 : decode jdk_43_method_46_code 1 = .ok (.newarray .byte, 2) := by decide +kernel
theorem d3_3 : decode jdk_43_method_46_code 3 = .ok (.dup, 1) := by decide +kernel
theorem d3_4 : decode jdk_43_method_46_code 4 = .ok (.iconst 0, 1) := by decide +kernel
theorem d3_5 : decode jdk_43_method_46_code 5 = .ok (.iload_n 0, 1) := by decide +kernel
theorem d3_6 : decode jdk_43_method_46_code 6 = .ok (.i2b, 1) := by decide +kernel
theorem d3_7 : decode jdk_43_method_46_code 7 = .ok (.bastore, 1) := by decide +kernel
theorem d3_8 : decode jdk_43_method_46_code 8 = .ok (.areturn, 1) := by decide +kernel
theorem ef_rm3 (m : MethodId) (p1 : Int32) : entryFrame m #[(.int p1)] 1 = mkF m 0 #[.val (.int p1)] [] := by first | (simp [entryFrame, mkF, argsToLocals, Value.category]; done) | rfl
def Q_rm3 (Z : State) (p1 : Int32) (h0 : Heap) (n0 : Nat) (rv : Option Value) (hq : Heap) (Lq : List Loc) : Prop := ∃ b : Addr, rv = some (.ref b) ∧ Fr n0 Lq ∧ Keep h0 hq [] ∧ h0.size ≤ b
set_option maxRecDepth 65536 in
set_option maxHeartbeats 40000000 in
theorem rm3 (l : Launch) (Z : State) (a0 : Array Value) (hw : ∀ d ∈ tables_1, d.before a0 Z = true) (ws : List Jvm.Cond) (p1 : Int32) (h0 : Heap) (n0 : Nat) (Z0 : n0 ≤ h0.size) :
    MetFree l (⟨"java/lang/StringLatin1", "toBytes", "(C)[B"⟩ : MethodName) (head1 (Jvm.Cond.code (⟨"java/lang/StringLatin1", "toBytes", "(C)[B"⟩ : MethodName) jdk_43_method_46_code 1 (some (.array .byte)) :: ws) ({ frames := 0, cells := 1, slots := 1, locals := 0 } : Room)) (fun a U => a = #[(.int p1)] ∧ Z.Warmed39 U.vm ∧ U.heap = h0) (fun _ _ _ _ _ => True) (fun _ U o U' => ∃ rv Lq, o = .returned rv ∧ Q_rm3 Z p1 h0 n0 rv U'.heap Lq ∧ FrameEnd U o U' Lq ({ frames := 0, cells := 1, slots := 1, locals := 0 } : Room).cells ({ frames := 0, cells := 1, slots := 1, locals := 0 } : Room).slots) := by
  refine MetFree.of_bodySF (plainFor_of_name pn_2) hisR ?_
  intro p e s m args below meth c s₁ Bd hml0 hP hK
  obtain ⟨rfl, hZ, hh⟩ := hP
  have hx := Bd.exec
  have hby := Bd.bytes
  have hml : c.maxLocals = 1 := hml0
  have hown : s.vm.findClass "java/lang/StringLatin1" = some m.cls := findClass_of_methodNamed Bd.named
  have hnm := (name_of_methodNamed Bd.named Bd.method).1
  have X0 : Stand p l e ({ frames := 0, cells := 1, slots := 1, locals := 0 } : Room) s m #[(.int p1)] below meth c s₁ [] 0 0 := Stand.of_body Bd
  have e0 : s₁.heap = h0 := by rw [← hh, Bd.state]; rfl
  have N0 := Fr.nil n0
  refine of_go (ef_rm3 m p1) ?_
  refine Go.step (T' := s₁) (f' := (mkF m 1 #[.val (.int p1)] [(.int (1 : Int32))])) (fun _ k => XS.iconst X0.here hx rfl (hb hby d3_0) k) ?_
  obtain ⟨T1, h1, k1, X1, e1, E1, A1, st1⟩ := newP X0 hx hZ (hw _ (List.mem_of_getElem? (i := 14) rfl)) e0 (g := (mkF m 1 #[.val (.int p1)] [(.int (1 : Int32))])) rfl (hb hby d3_1) rfl (by decide) (cap := 1) (by decide) (by decide) (by decide) (by decide)
  obtain ⟨b1, g1⟩ : ∃ z, z = h0.size := ⟨_, rfl⟩
  rw [← g1] at A1 st1
  have g_b1 : n0 ≤ b1 := Nat.le_trans Z0 (Nat.le_of_eq g1.symm)
  have sz_b1 : h0.size ≤ b1 := Nat.le_trans (Keep.refl h0 []).1 (Nat.le_of_eq g1.symm)
  have Z2 : n0 ≤ h1.size := Nat.le_trans Z0 E1.1
  have K2 : Keep h0 h1 [] := (Keep.refl h0 []).ext E1
  have V_b1 : Arv Z h1 b1 k1 .byte (1 : Int32) [(.int (0 : Int32))] (.int (0 : Int32)) := (Arv.new A1 (by decide)).pad (pad_rep [] (.int (0 : Int32)) 1)
  refine Go.step (T' := T1) (f' := (mkF m 3 #[.val (.int p1)] [(.ref b1)])) st1 ?_
  refine Go.step (T' := T1) (f' := (mkF m 4 #[.val (.int p1)] [(.ref b1), (.ref b1)])) (fun _ k => XS.dup X1.here hx rfl (hb hby d3_3) rfl rfl k) ?_
  refine Go.step (T' := T1) (f' := (mkF m 5 #[.val (.int p1)] [(.int (0 : Int32)), (.ref b1), (.ref b1)])) (fun _ k => XS.iconst X1.here hx rfl (hb hby d3_4) k) ?_
  refine Go.step (T' := T1) (f' := (mkF m 6 #[.val (.int p1)] [(.int p1), (.int (0 : Int32)), (.ref b1), (.ref b1)])) (fun _ k => XS.iloadN X1.here hx rfl (hb hby d3_5) rfl k) ?_
  refine Go.step (T' := T1) (f' := (mkF m 7 #[.val (.int p1)] [(.int (p1.toInt8.toInt32)), (.int (0 : Int32)), (.ref b1), (.ref b1)])) (fun _ k => XS.i2b X1.here hx rfl (hb hby d3_6) rfl k) ?_
  obtain ⟨cl3, Ar3, qc3, Sz3, Nn3, Hs3, Gf3⟩ := id V_b1
  have hin4 : ¬ ((0 : Int32) < 0 ∨ cl3.slots.size ≤ ((0 : Int32)).toNatClampNeg) := (inb_of Sz3 ⟨by decide, by decide⟩)
  obtain ⟨T4, h4, X4, e4, W4, st4⟩ := stB X1 hx hZ e1 Ar3 (j := (0 : Int32)) hin4 (g := (mkF m 7 #[.val (.int p1)] [(.int (p1.toInt8.toInt32)), (.int (0 : Int32)), (.ref b1), (.ref b1)])) rfl rfl (hb hby d3_7)
  have N4 := Fr.snoc X4 N0 g_b1
  have Z5 : n0 ≤ h4.size := Nat.le_trans Z2 (Keep.of_wr W4).1
  have K5 : Keep h0 h4 [] := K2.wr W4 (Or.inr sz_b1)
  have Va4 : Arv Z h4 b1 k1 .byte (1 : Int32) [(.int (nar .byte (p1.toInt8.toInt32)))] (.int (0 : Int32)) := Arv.set Ar3 qc3 Sz3 Nn3 Hs3 Gf3 (fits_nar_byte _) W4 0 rfl (Nat.le_of_ble_eq_true rfl)
  refine Go.step (T' := T4) (f' := (mkF m 8 #[.val (.int p1)] [(.ref b1)])) st4 ?_
  refine goA X4 hx Bd.returns rfl rfl Bd.notSynchronized (hb hby d3_8) ?_ (by decide) (by decide)
  show Q_rm3 Z p1 h0 n0 _ T4.heap _
  rw [e4]
  exact ⟨b1, rfl, N4, K5, sz_b1⟩
theorem d4_0 : decode jdk_42_method_151_code 0 = .ok (.aload_n 0, 1) := by decide +kernel
theorem d4_1 : decode jdk_42_method_151_code 1 = .ok (.invokespecial 1, 3) := by decide +kernel
theorem d4_4 : decode jdk_42_method_151_code 4 = .ok (.aload_n 0, 1) := by decide +kernel
theorem d4_5 : decode jdk_42_method_151_code 5 = .ok (.aload_n 1, 1) := by decide +kernel
theorem d4_6 : decode jdk_42_method_151_code 6 = .ok (.putfield 9, 3) := by decide +kernel
theorem d4_9 : decode jdk_42_method_151_code 9 = .ok (.aload_n 0, 1) := by decide +kernel
theorem d4_10 : decode jdk_42_method_151_code 10 = .ok (.iload_n 2, 1) := by decide +kernel
theorem d4_11 : decode jdk_42_method_151_code 11 = .ok (.putfield 15, 3) := by decide +kernel
theorem d4_14 : decode jdk_42_method_151_code 14 = .ok (.return_, 1) := by decide +kernel
theorem pn_4 : plainName "java/lang/String" = true := by first | (simp [plainName, overriddenIn]; done) | decide +kernel
theorem ef_rm4 (m : MethodId) (a1 : Addr) (a2 : Addr) (p3 : Int32) : entryFrame m #[(.ref a1), (.ref a2), (.int p3)] 3 = mkF m 0 #[.val (.ref a1), .val (.ref a2), .val (.int p3)] [] := by first | (simp [entryFrame, mkF, argsToLocals, Value.category]; done) | rfl
def Q_rm4 (Z : State) (a1 : Addr) (a2 : Addr) (p3 : Int32) (h0 : Heap) (n0 : Nat) (rv : Option Value) (hq : Heap) (Lq : List Loc) : Prop := rv = none ∧ Fr n0 Lq ∧ Keep h0 hq [a1]
set_option maxRecDepth 65536 in
set_option maxHeartbeats 40000000 in
theorem rm4 (l : Launch) (Z : State) (a0 : Array Value) (hw : ∀ d ∈ tables_1, d.before a0 Z = true) (ws : List Jvm.Cond) (a1 : Addr) (a2 : Addr) (p3 : Int32) (h0 : Heap) (n0 : Nat) (Z0 : n0 ≤ h0.size) (E_a1 : Exa Z h0 a1 "java/lang/String") (F_value_a1 : Fld Z h0 a1 "java/lang/String" "value" "[B" .null) (F_coder_a1 : Fld Z h0 a1 "java/lang/String" "coder" "B" (.int (0 : Int32))) (g_a1 : n0 ≤ a1) :
    MetFree l (⟨"java/lang/String", "<init>", "([BB)V"⟩ : MethodName) (head1 (Jvm.Cond.code (⟨"java/lang/String", "<init>", "([BB)V"⟩ : MethodName) jdk_42_method_151_code 3 none :: ws) ({ frames := 1, cells := 0, slots := 0, locals := 12 } : Room)) (fun a U => a = #[(.ref a1), (.ref a2), (.int p3)] ∧ Z.Warmed39 U.vm ∧ U.heap = h0) (fun _ _ _ _ _ => True) (fun _ U o U' => ∃ rv Lq, o = .returned rv ∧ Q_rm4 Z a1 a2 p3 h0 n0 rv U'.heap Lq ∧ FrameEnd U o U' Lq ({ frames := 1, cells := 0, slots := 0, locals := 12 } : Room).cells ({ frames := 1, cells := 0, slots := 0, locals := 12 } : Room).slots) := by
  refine MetFree.of_bodySF (plainFor_of_name pn_4) hisR ?_
  intro p e s m args below meth c s₁ Bd hml0 hP hK
  obtain ⟨rfl, hZ, hh⟩ := hP
  have hx := Bd.exec
  have hby := Bd.bytes
  have hml : c.maxLocals = 3 := hml0
  have hown : s.vm.findClass "java/lang/String" = some m.cls := findClass_of_methodNamed Bd.named
  have hnm := (name_of_methodNamed Bd.named Bd.method).1
  have X0 : Stand p l e ({ frames := 1, cells := 0, slots := 0, locals := 12 } : Room) s m #[(.ref a1), (.ref a2), (.int p3)] below meth c s₁ [] 0 0 := Stand.of_body Bd
  have e0 : s₁.heap = h0 := by rw [← hh, Bd.state]; rfl
  have N0 := Fr.nil n0
  refine of_go (ef_rm4 m a1 a2 p3) ?_
  refine Go.step (T' := s₁) (f' := (mkF m 1 #[.val (.ref a1), .val (.ref a2), .val (.int p3)] [(.ref a1)])) (fun _ k => XS.aloadN X0.here hx rfl (hb hby d4_0) rfl rfl k) ?_
  obtain ⟨T1, X1, e1, st1⟩ := initO X0 hx hZ hown (hw _ (List.mem_of_getElem? (i := 19) rfl)) (hw _ (List.mem_of_getElem? (i := 20) rfl)) (hw _ (List.mem_of_getElem? (i := 21) rfl)) e0 (g := (mkF m 1 #[.val (.ref a1), .val (.ref a2), .val (.int p3)] [(.ref a1)])) rfl (by rw [hml]; rfl) rfl (hb hby d4_1) (by decide) (W := 0) (by show 2 * 0 + _ ≤ _; exact Nat.le_of_eq rfl) (by decide)
  refine Go.step (T' := T1) (f' := (mkF m 4 #[.val (.ref a1), .val (.ref a2), .val (.int p3)] [])) st1 ?_
  refine Go.step (T' := T1) (f' := (mkF m 5 #[.val (.ref a1), .val (.ref a2), .val (.int p3)] [(.ref a1)])) (fun _ k => XS.aloadN X1.here hx rfl (hb hby d4_4) rfl rfl k) ?_
  refine Go.step (T' := T1) (f' := (mkF m 6 #[.val (.ref a1), .val (.ref a2), .val (.int p3)] [(.ref a2), (.ref a1)])) (fun _ k => XS.aloadN X1.here hx rfl (hb hby d4_5) rfl rfl k) ?_
  obtain ⟨T2, h2, X2, e2, W2, st2⟩ := putF X1 hx hZ hown (host := "") (Or.inl (hw _ (List.mem_of_getElem? (i := 22) rfl))) Via.refl e1 F_value_a1 E_a1 (Or.inr ⟨(hw _ (List.mem_of_getElem? (i := 23) rfl)), rfl, hnm⟩) (hw _ (List.mem_of_getElem? (i := 10) rfl)) (ty := (.array .byte)) (by decide) rfl rfl (g := (mkF m 6 #[.val (.ref a1), .val (.ref a2), .val (.int p3)] [(.ref a2), (.ref a1)])) rfl rfl (hb hby d4_6)
  have N2 := Fr.snoc X2 N0 g_a1
  have Z3 : n0 ≤ h2.size := Nat.le_trans Z0 (Keep.of_wr W2).1
  have K3 : Keep h0 h2 [a1] := (Keep.refl h0 [a1]).wr W2 (Or.inl (List.mem_of_getElem? (i := 0) rfl))
  have Fw2 := F_value_a1.same W2
  refine Go.step (T' := T2) (f' := (mkF m 9 #[.val (.ref a1), .val (.ref a2), .val (.int p3)] [])) st2 ?_
  refine Go.step (T' := T2) (f' := (mkF m 10 #[.val (.ref a1), .val (.ref a2), .val (.int p3)] [(.ref a1)])) (fun _ k => XS.aloadN X2.here hx rfl (hb hby d4_9) rfl rfl k) ?_
  refine Go.step (T' := T2) (f' := (mkF m 11 #[.val (.ref a1), .val (.ref a2), .val (.int p3)] [(.int p3), (.ref a1)])) (fun _ k => XS.iloadN X2.here hx rfl (hb hby d4_10) rfl k) ?_
  have q4 : Fld Z h2 a1 "java/lang/String" "coder" "B" (.int (0 : Int32)) := (F_coder_a1.other W2 (Or.inr (slot_ne (Or.inr (hw _ (List.mem_of_getElem? (i := 25) rfl))) (Or.inr (hw _ (List.mem_of_getElem? (i := 23) rfl))) (by decide) (t := .byte) (t' := (.array .byte)) (by decide) (by decide))))
  have q5 : Exa Z h2 a1 "java/lang/String" := (E_a1.wr W2)
  obtain ⟨T6, h6, X6, e6, W6, st6⟩ := putFN X2 hx hZ hown (hw _ (List.mem_of_getElem? (i := 24) rfl)) Via.refl e2 q4 q5 (Or.inr ⟨(hw _ (List.mem_of_getElem? (i := 25) rfl)), rfl, hnm⟩) (hw _ (List.mem_of_getElem? (i := 10) rfl)) (ty := .byte) (v := .int p3) (v' := .int (nar .byte p3)) (by decide) rfl (fits_nar_byte _) (g := (mkF m 11 #[.val (.ref a1), .val (.ref a2), .val (.int p3)] [(.int p3), (.ref a1)])) rfl rfl (hb hby d4_11)
  have N6 := Fr.snoc X6 N2 g_a1
  have Z7 : n0 ≤ h6.size := Nat.le_trans Z3 (Keep.of_wr W6).1
  have K7 : Keep h0 h6 [a1] := K3.wr W6 (Or.inl (List.mem_of_getElem? (i := 0) rfl))
  have Fw6 := q4.same W6
  refine Go.step (T' := T6) (f' := (mkF m 14 #[.val (.ref a1), .val (.ref a2), .val (.int p3)] [])) st6 ?_
  refine goV X6 hx Bd.returns Bd.notSynchronized (hb hby d4_14) ?_ (by decide) (by decide)
  show Q_rm4 Z a1 a2 p3 h0 n0 _ T6.heap _
  rw [e6]
  exact ⟨rfl, N6, K7⟩
theorem d1_0 : decode jdk_42_method_139_code 0 = .ok (.getstatic 38, 3) := by decide +kernel
theorem d1_3 : decode jdk_42_method_139_code 3 = .ok (.ifCond .eq 23, 3) := by decide +kernel
theorem d1_6 : decode jdk_42_method_139_code 6 = .ok (.iload_n 0, 1) := by decide +kernel
theorem d1_7 : decode jdk_42_method_139_code 7 = .ok (.invokestatic 1015, 3) := by decide +kernel
theorem pd_0 : parseMethodDescriptor "(C)Z" = some ⟨[.char], some .boolean⟩ := by decide +kernel
theorem d1_10 : decode jdk_42_method_139_code 10 = .ok (.ifCond .eq 16, 3) := by decide +kernel
theorem d1_13 : decode jdk_42_method_139_code 13 = .ok (.new 10, 3) := by decide +kernel
theorem d1_16 : decode jdk_42_method_139_code 16 = .ok (.dup, 1) := by decide +kernel
theorem d1_17 : decode jdk_42_method_139_code 17 = .ok (.iload_n 0, 1) := by decide +kernel
theorem d1_18 : decode jdk_42_method_139_code 18 = .ok (.invokestatic 1018, 3) := by decide +kernel
theorem pd_1 : parseMethodDescriptor "(C)[B" = some ⟨[.char], some (.array .byte)⟩ := by decide +kernel
theorem d1_21 : decode jdk_42_method_139_code 21 = .ok (.iconst 0, 1) := by decide +kernel
theorem d1_22 : decode jdk_42_method_139_code 22 = .ok (.invokespecial 209, 3) := by decide +kernel
theorem pd_2 : parseMethodDescriptor "([BB)V" = some ⟨[(.array .byte), .byte], none⟩ := by decide +kernel
theorem d1_25 : decode jdk_42_method_139_code 25 = .ok (.areturn, 1) := by decide +kernel
theorem ef_rm1 (m : MethodId) (p1 : Int32) : entryFrame m #[(.int p1)] 1 = mkF m 0 #[.val (.int p1)] [] := by first | (simp [entryFrame, mkF, argsToLocals, Value.category]; done) | rfl
def Q_rm1 (Z : State) (p1 : Int32) (cs : Int32) (h0 : Heap) (n0 : Nat) (rv : Option Value) (hq : Heap) (Lq : List Loc) : Prop := ∃ b : Addr, rv = some (.ref b) ∧ Fr n0 Lq ∧ Keep h0 hq [] ∧ h0.size ≤ b ∧ Exa Z hq b "java/lang/String"
set_option maxRecDepth 65536 in
set_option maxHeartbeats 40000000 in
theorem rm1 (l : Launch) (Z : State) (a0 : Array Value) (hw : ∀ d ∈ tables_1, d.before a0 Z = true) (ws : List Jvm.Cond) (p1 : Int32) (cs : Int32) (h0 : Heap) (n0 : Nat) (Z0 : n0 ≤ h0.size) (O0 : Old Z n0 h0) (S_COMPACT_STRINGS : Sta Z Z.heap "java/lang/String" "COMPACT_STRINGS" "Z" (.int cs)) (hcs : ¬ cs = (0 : Int32)) (hp : p1.toInt ≤ 255) :
    MetFree l (⟨"java/lang/String", "valueOf", "(C)Ljava/lang/String;"⟩ : MethodName) (head1 (Jvm.Cond.code (⟨"java/lang/String", "valueOf", "(C)Ljava/lang/String;"⟩ : MethodName) jdk_42_method_139_code 1 (some (.object "java/lang/String")) :: ws) ({ frames := 2, cells := 2, slots := 5, locals := 27 } : Room)) (fun a U => a = #[(.int p1)] ∧ Z.Warmed39 U.vm ∧ U.heap = h0) (fun _ _ _ _ _ => True) (fun _ U o U' => ∃ rv Lq, o = .returned rv ∧ Q_rm1 Z p1 cs h0 n0 rv U'.heap Lq ∧ FrameEnd U o U' Lq ({ frames := 2, cells := 2, slots := 5, locals := 27 } : Room).cells ({ frames := 2, cells := 2, slots := 5, locals := 27 } : Room).slots) := by
  refine MetFree.of_bodySF (plainFor_of_name pn_4) hisR ?_
  intro p e s m args below meth c s₁ Bd hml0 hP hK
  obtain ⟨rfl, hZ, hh⟩ := hP
  have hx := Bd.exec
  have hby := Bd.bytes
  have hml : c.maxLocals = 1 := hml0
  have hown : s.vm.findClass "java/lang/String" = some m.cls := findClass_of_methodNamed Bd.named
  have hnm := (name_of_methodNamed Bd.named Bd.method).1
  have X0 : Stand p l e ({ frames := 2, cells := 2, slots := 5, locals := 27 } : Room) s m #[(.int p1)] below meth c s₁ [] 0 0 := Stand.of_body Bd
  have e0 : s₁.heap = h0 := by rw [← hh, Bd.state]; rfl
  have N0 := Fr.nil n0
  refine of_go (ef_rm1 m p1) ?_
  obtain ⟨T1, X1, e1, st1⟩ := getS2 X0 hx hZ hown (host := "") (Or.inl (hw _ (List.mem_of_getElem? (i := 4) rfl))) Via.refl e0 (S_COMPACT_STRINGS.ext O0.2) (g := (mkF m 0 #[.val (.int p1)] [])) rfl (hb hby d1_0)
  refine Go.step (T' := T1) (f' := (mkF m 3 #[.val (.int p1)] [(.int cs)])) st1 ?_
  refine Go.step (T' := T1) (f' := (mkF m 6 #[.val (.int p1)] [])) (fun _ k => XS.ifNo X1.here hx rfl (hb hby d1_3) rfl ((if0 _ _).trans (feq hcs).1) k) ?_
  refine Go.step (T' := T1) (f' := (mkF m 7 #[.val (.int p1)] [(.int p1)])) (fun _ k => XS.iloadN X1.here hx rfl (hb hby d1_6) rfl k) ?_
  obtain ⟨_, _, ⟨T2, L2, k2, n2⟩, -, X2, ⟨Lc2, hQ2, l2, y2, z2⟩, st2⟩ := Jvm.LawKit.callS X1 hx (y := (⟨"java/lang/StringLatin1", "canEncode", "(C)Z"⟩ : MethodName)) hown (mvT hZ (hw _ (List.mem_of_getElem? (i := 5) rfl))) (mvT hZ (hw _ (List.mem_of_getElem? (i := 6) rfl))) (mvT hZ (hw _ (List.mem_of_getElem? (i := 7) rfl))) (mvT hZ (hw _ (List.mem_of_getElem? (i := 8) rfl))) (by decide) (backOf (W := 0) (rm2 l Z a0 hw [] p1 h0 n0 Z0 ) hZ (hw _ (List.mem_of_getElem? (i := 8) rfl)) (hw _ (List.mem_of_getElem? (i := 7) rfl)) (by decide) (by decide)) (g := (mkF m 7 #[.val (.int p1)] [(.int p1)])) rfl (by rw [hml]; rfl) (argsL := [(.int p1)]) (rest := []) (lenOf pd_0 rfl) rfl (by show 2 * 0 + _ ≤ _; exact Nat.le_of_eq rfl) (hb hby d1_7) (fun _ _ => ⟨rfl, e1, (by decide : 0 + 0 ≤ _), (by decide : 0 + 0 ≤ _)⟩)
  dsimp only [Pt.U, Pt.locs, Pt.cells, Pt.slots] at X2 l2 y2 z2 st2 hQ2
  subst l2 y2 z2
  obtain ⟨rfl, Nq2, eh2⟩ := hQ2
  have N2 := Fr.app N0 Nq2
  refine Go.step (T' := T2) (f' := (mkF m 10 #[.val (.int p1)] [(.int (own_ce p1))])) st2 ?_
  refine Go.step (T' := T2) (f' := (mkF m 13 #[.val (.int p1)] [])) (fun _ k => XS.ifNo X2.here hx rfl (hb hby d1_10) rfl ((if0 _ _).trans (feq (by rw [own_ce1 hp]; decide)).1) k) ?_
  obtain ⟨T3, h3, X3, e3, E3, A3, D3, -, st3⟩ := newO X2 hx hZ hown (hw _ (List.mem_of_getElem? (i := 9) rfl)) (hw _ (List.mem_of_getElem? (i := 10) rfl)) (hw _ (List.mem_of_getElem? (i := 2) rfl)) eh2 (g := (mkF m 13 #[.val (.int p1)] [])) rfl (hb hby d1_13) (by decide) (by decide)
  obtain ⟨b3, g3⟩ : ∃ z, z = h0.size := ⟨_, rfl⟩
  rw [← g3] at A3 D3 st3
  have g_b3 : n0 ≤ b3 := Nat.le_trans Z0 (Nat.le_of_eq g3.symm)
  have sz_b3 : h0.size ≤ b3 := Nat.le_trans (Keep.refl h0 []).1 (Nat.le_of_eq g3.symm)
  have Z4 : n0 ≤ h3.size := Nat.le_trans Z0 E3.1
  have O4 : Old Z n0 h3 := O0.ext E3
  have K4 : Keep h0 h3 [] := (Keep.refl h0 []).ext E3
  have F_value_b3 : Fld Z h3 b3 "java/lang/String" "value" "[B" .null := D3 (Or.inr (hw _ (List.mem_of_getElem? (i := 23) rfl))) (ty := (.array .byte)) (by decide)
  have F_coder_b3 : Fld Z h3 b3 "java/lang/String" "coder" "B" (.int (0 : Int32)) := D3 (Or.inr (hw _ (List.mem_of_getElem? (i := 25) rfl))) (ty := .byte) (by decide)
  refine Go.step (T' := T3) (f' := (mkF m 16 #[.val (.int p1)] [(.ref b3)])) st3 ?_
  refine Go.step (T' := T3) (f' := (mkF m 17 #[.val (.int p1)] [(.ref b3), (.ref b3)])) (fun _ k => XS.dup X3.here hx rfl (hb hby d1_16) rfl rfl k) ?_
  refine Go.step (T' := T3) (f' := (mkF m 18 #[.val (.int p1)] [(.int p1), (.ref b3), (.ref b3)])) (fun _ k => XS.iloadN X3.here hx rfl (hb hby d1_17) rfl k) ?_
  obtain ⟨_, _, ⟨T5, L5, k5, n5⟩, -, X5, ⟨Lc5, hQ5, l5, y5, z5⟩, st5⟩ := Jvm.LawKit.callS X3 hx (y := (⟨"java/lang/StringLatin1", "toBytes", "(C)[B"⟩ : MethodName)) hown (mvT hZ (hw _ (List.mem_of_getElem? (i := 11) rfl))) (mvT hZ (hw _ (List.mem_of_getElem? (i := 12) rfl))) (mvT hZ (hw _ (List.mem_of_getElem? (i := 7) rfl))) (mvT hZ (hw _ (List.mem_of_getElem? (i := 13) rfl))) (by decide) (backOf (W := 2) (rm3 l Z a0 hw [] p1 h3 n0 Z4 ) hZ (hw _ (List.mem_of_getElem? (i := 13) rfl)) (hw _ (List.mem_of_getElem? (i := 7) rfl)) (by decide) (by decide)) (g := (mkF m 18 #[.val (.int p1)] [(.int p1), (.ref b3), (.ref b3)])) rfl (by rw [hml]; rfl) (argsL := [(.int p1)]) (rest := [(.ref b3), (.ref b3)]) (lenOf pd_1 rfl) rfl (by show 2 * 0 + _ ≤ _; exact Nat.le_of_eq rfl) (hb hby d1_18) (fun _ _ => ⟨rfl, e3, (by decide : 1 + 1 ≤ _), (by decide : 4 + 1 ≤ _)⟩)
  dsimp only [Pt.U, Pt.locs, Pt.cells, Pt.slots] at X5 l5 y5 z5 st5 hQ5
  subst l5 y5 z5
  obtain ⟨b_5, rfl, Nq5, Kq5, r5_0⟩ := hQ5
  have N5 := Fr.app N2 Nq5
  have g_b_5 : n0 ≤ b_5 := Nat.le_trans Z4 r5_0
  have sz_b_5 : h0.size ≤ b_5 := Nat.le_trans K4.1 r5_0
  have Z6 : n0 ≤ T5.heap.size := Nat.le_trans Z4 Kq5.1
  have O6 : Old Z n0 T5.heap := O4.keep Kq5 all0
  have K6 : Keep h0 T5.heap [] := K4.trans Kq5 all0
  refine Go.step (T' := T5) (f' := (mkF m 21 #[.val (.int p1)] [(.ref b_5), (.ref b3), (.ref b3)])) st5 ?_
  refine Go.step (T' := T5) (f' := (mkF m 22 #[.val (.int p1)] [(.int (0 : Int32)), (.ref b_5), (.ref b3), (.ref b3)])) (fun _ k => XS.iconst X5.here hx rfl (hb hby d1_21) k) ?_
  have q8 : Exa Z T5.heap b3 "java/lang/String" := (A3.keep Kq5)
  have q9 : Fld Z T5.heap b3 "java/lang/String" "value" "[B" .null := (F_value_b3.keep Kq5 nin0)
  have q10 : Fld Z T5.heap b3 "java/lang/String" "coder" "B" (.int (0 : Int32)) := (F_coder_b3.keep Kq5 nin0)
  obtain ⟨_, _, ⟨T7, L7, k7, n7⟩, -, X7, ⟨Lc7, hQ7, l7, y7, z7⟩, st7⟩ := X5.specialBack hx (y := (⟨"java/lang/String", "<init>", "([BB)V"⟩ : MethodName)) rfl hown (mvT hZ (hw _ (List.mem_of_getElem? (i := 15) rfl))) (mvT hZ (hw _ (List.mem_of_getElem? (i := 16) rfl))) (mvT hZ (hw _ (List.mem_of_getElem? (i := 18) rfl))) (by decide) (backOf (W := 1) (rm4 l Z a0 hw [] b3 b_5 (0 : Int32) T5.heap n0 Z6 q8 q9 q10 g_b3) hZ (hw _ (List.mem_of_getElem? (i := 18) rfl)) (hw _ (List.mem_of_getElem? (i := 2) rfl)) (by decide) (by decide)) (g := (mkF m 22 #[.val (.int p1)] [(.int (0 : Int32)), (.ref b_5), (.ref b3), (.ref b3)])) rfl (by rw [hml]; rfl) (Steps.refl _) (a := b3) (argsL := [(.ref b_5), (.int (0 : Int32))]) (rest := [(.ref b3)]) (lenOf pd_2 rfl) rfl (by show 2 * 0 + _ ≤ _; exact Nat.le_of_eq rfl) (hb hby d1_22) (fun _ _ => ⟨rfl, rfl, (by decide : 2 + 0 ≤ _), (by decide : 5 + 0 ≤ _)⟩)
  dsimp only [Pt.U, Pt.locs, Pt.cells, Pt.slots] at X7 l7 y7 z7 st7 hQ7
  subst l7 y7 z7
  obtain ⟨rfl, Nq7, Kq7⟩ := hQ7
  have N7 := Fr.app N5 Nq7
  have Z11 : n0 ≤ T7.heap.size := Nat.le_trans Z6 Kq7.1
  have O11 : Old Z n0 T7.heap := O6.keep Kq7 (allS g_b3 all0)
  have K11 : Keep h0 T7.heap [] := K6.trans Kq7 (allS (Or.inr sz_b3) all0)
  refine Go.step (T' := T7) (f' := (mkF m 25 #[.val (.int p1)] [(.ref b3)])) (fun _ k => st7.trans k) ?_
  refine goA X7 hx Bd.returns rfl rfl Bd.notSynchronized (hb hby d1_25) ?_ (by decide) (by decide)
  show Q_rm1 Z p1 cs h0 n0 _ T7.heap _
  have q12 : Exa Z T7.heap b3 "java/lang/String" := (q8.keep Kq7)
  exact ⟨b3, rfl, N7, K11, sz_b3, q12⟩
theorem d6_0 : decode prog_8_method_1_code 0 = .ok (.aload_n 0, 1) := by decide +kernel
theorem d6_1 : decode prog_8_method_1_code 1 = .ok (.invokespecial 1, 3) := by decide +kernel
theorem d6_4 : decode prog_8_method_1_code 4 = .ok (.aload_n 0, 1) := by decide +kernel
theorem d6_5 : decode prog_8_method_1_code 5 = .ok (.bipush 8, 2) := by decide +kernel
theorem d6_7 : decode prog_8_method_1_code 7 = .ok (.anewarray 7, 3) := by decide +kernel
theorem d6_10 : decode prog_8_method_1_code 10 = .ok (.putfield 9, 3) := by decide +kernel
theorem d6_13 : decode prog_8_method_1_code 13 = .ok (.aload_n 0, 1) := by decide +kernel
theorem d6_14 : decode prog_8_method_1_code 14 = .ok (.bipush 8, 2) := by decide +kernel
theorem d6_16 : decode prog_8_method_1_code 16 = .ok (.anewarray 7, 3) := by decide +kernel
theorem d6_19 : decode prog_8_method_1_code 19 = .ok (.putfield 15, 3) := by decide +kernel
theorem d6_22 : decode prog_8_method_1_code 22 = .ok (.return_, 1) := by decide +kernel
theorem pn_6 : plainName "com/example/tenderbook/tenderbook/Fields" = true := by first | (simp [plainName, overriddenIn]; done) | decide +kernel
theorem ef_rm6 (m : MethodId) (a1 : Addr) : entryFrame m #[(.ref a1)] 1 = mkF m 0 #[.val (.ref a1)] [] := by first | (simp [entryFrame, mkF, argsToLocals, Value.category]; done) | rfl
def Q_rm6 (Z : State) (a1 : Addr) (h0 : Heap) (n0 : Nat) (rv : Option Value) (hq : Heap) (Lq : List Loc) : Prop := ∃ n : Addr, ∃ v : Addr, ∃ kn : ClassId, ∃ kv : ClassId, rv = none ∧ Fr n0 Lq ∧ Keep h0 hq [a1] ∧ h0.size ≤ n ∧ h0.size ≤ v ∧ n ≠ v ∧ Ovr Z kn "java/lang/String" ∧ Ovr Z kv "java/lang/String" ∧ Fld Z hq a1 "com/example/tenderbook/tenderbook/Fields" "names" "[Ljava/lang/String;" (.ref n) ∧ Fld Z hq a1 "com/example/tenderbook/tenderbook/Fields" "values" "[Ljava/lang/String;" (.ref v) ∧ Fld Z hq a1 "com/example/tenderbook/tenderbook/Fields" "size" "I" (.int (0 : Int32)) ∧ Arv Z hq n kn (.object "java/lang/String") (8 : Int32) [.null, .null, .null, .null, .null, .null, .null, .null] .null ∧ Arv Z hq v kv (.object "java/lang/String") (8 : Int32) [.null, .null, .null, .null, .null, .null, .null, .null] .null
set_option maxRecDepth 65536 in
set_option maxHeartbeats 40000000 in
theorem rm6 (l : Launch) (Z : State) (a0 : Array Value) (hw : ∀ d ∈ tables_1, d.before a0 Z = true) (ws : List Jvm.Cond) (a1 : Addr) (h0 : Heap) (n0 : Nat) (Z0 : n0 ≤ h0.size) (E_a1 : Exa Z h0 a1 "com/example/tenderbook/tenderbook/Fields") (F_names_a1 : Fld Z h0 a1 "com/example/tenderbook/tenderbook/Fields" "names" "[Ljava/lang/String;" .null) (F_values_a1 : Fld Z h0 a1 "com/example/tenderbook/tenderbook/Fields" "values" "[Ljava/lang/String;" .null) (F_size_a1 : Fld Z h0 a1 "com/example/tenderbook/tenderbook/Fields" "size" "I" (.int (0 : Int32))) (g_a1 : n0 ≤ a1) :
    MetFree l (⟨"com/example/tenderbook/tenderbook/Fields", "<init>", "()V"⟩ : MethodName) (head1 (Jvm.Cond.code (⟨"com/example/tenderbook/tenderbook/Fields", "<init>", "()V"⟩ : MethodName) prog_8_method_1_code 1 none :: ws) ({ frames := 1, cells := 2, slots := 16, locals := 12 } : Room)) (fun a U => a = #[(.ref a1)] ∧ Z.Warmed39 U.vm ∧ U.heap = h0) (fun _ _ _ _ _ => True) (fun _ U o U' => ∃ rv Lq, o = .returned rv ∧ Q_rm6 Z a1 h0 n0 rv U'.heap Lq ∧ FrameEnd U o U' Lq ({ frames := 1, cells := 2, slots := 16, locals := 12 } : Room).cells ({ frames := 1, cells := 2, slots := 16, locals := 12 } : Room).slots) := by
  refine MetFree.of_bodySF (plainFor_of_name pn_6) hisR ?_
  intro p e s m args below meth c s₁ Bd hml0 hP hK
  obtain ⟨rfl, hZ, hh⟩ := hP
  have hx := Bd.exec
  have hby := Bd.bytes
  have hml : c.maxLocals = 1 := hml0
  have hown : s.vm.findClass "com/example/tenderbook/tenderbook/Fields" = some m.cls := findClass_of_methodNamed Bd.named
  have hnm := (name_of_methodNamed Bd.named Bd.method).1
  have X0 : Stand p l e ({ frames := 1, cells := 2, slots := 16, locals := 12 } : Room) s m #[(.ref a1)] below meth c s₁ [] 0 0 := Stand.of_body Bd
  have e0 : s₁.heap = h0 := by rw [← hh, Bd.state]; rfl
  have N0 := Fr.nil n0
  refine of_go (ef_rm6 m a1) ?_
  refine Go.step (T' := s₁) (f' := (mkF m 1 #[.val (.ref a1)] [(.ref a1)])) (fun _ k => XS.aloadN X0.here hx rfl (hb hby d6_0) rfl rfl k) ?_
  obtain ⟨T1, X1, e1, st1⟩ := initO X0 hx hZ hown (hw _ (List.mem_of_getElem? (i := 32) rfl)) (hw _ (List.mem_of_getElem? (i := 20) rfl)) (hw _ (List.mem_of_getElem? (i := 21) rfl)) e0 (g := (mkF m 1 #[.val (.ref a1)] [(.ref a1)])) rfl (by rw [hml]; rfl) rfl (hb hby d6_1) (by decide) (W := 0) (by show 2 * 0 + _ ≤ _; exact Nat.le_of_eq rfl) (by decide)
  refine Go.step (T' := T1) (f' := (mkF m 4 #[.val (.ref a1)] [])) st1 ?_
  refine Go.step (T' := T1) (f' := (mkF m 5 #[.val (.ref a1)] [(.ref a1)])) (fun _ k => XS.aloadN X1.here hx rfl (hb hby d6_4) rfl rfl k) ?_
  refine Go.step (T' := T1) (f' := (mkF m 7 #[.val (.ref a1)] [(.int (8 : Int32)), (.ref a1)])) (fun _ k => XS.bipush X1.here hx rfl (hb hby d6_5) k) ?_
  obtain ⟨T2, h2, k2, X2, e2, E2, A2, O_2, st2⟩ := newR X1 hx hZ hown (hw _ (List.mem_of_getElem? (i := 33) rfl)) (hw _ (List.mem_of_getElem? (i := 34) rfl)) e1 (g := (mkF m 7 #[.val (.ref a1)] [(.int (8 : Int32)), (.ref a1)])) rfl (hb hby d6_7) rfl (by decide) (cap := 8) (by decide) (by decide) (by decide) (by decide)
  obtain ⟨b2, g2⟩ : ∃ z, z = h0.size := ⟨_, rfl⟩
  rw [← g2] at A2 st2
  have g_b2 : n0 ≤ b2 := Nat.le_trans Z0 (Nat.le_of_eq g2.symm)
  have sz_b2 : h0.size ≤ b2 := Nat.le_trans (Keep.refl h0 [a1]).1 (Nat.le_of_eq g2.symm)
  have Z3 : n0 ≤ h2.size := Nat.le_trans Z0 E2.1
  have K3 : Keep h0 h2 [a1] := (Keep.refl h0 [a1]).ext E2
  have V_b2 : Arv Z h2 b2 k2 (.object "java/lang/String") (8 : Int32) [.null, .null, .null, .null, .null, .null, .null, .null] .null := (Arv.new A2 (by decide)).pad (pad_rep [] .null 8)
  refine Go.step (T' := T2) (f' := (mkF m 10 #[.val (.ref a1)] [(.ref b2), (.ref a1)])) st2 ?_
  have q4 : Fld Z h2 a1 "com/example/tenderbook/tenderbook/Fields" "names" "[Ljava/lang/String;" .null := (F_names_a1.ext E2)
  have q5 : Exa Z h2 a1 "com/example/tenderbook/tenderbook/Fields" := (E_a1.ext E2)
  obtain ⟨T6, h6, X6, e6, W6, st6⟩ := putF X2 hx hZ hown (host := "") (Or.inl (hw _ (List.mem_of_getElem? (i := 35) rfl))) Via.refl e2 q4 q5 (Or.inl (hw _ (List.mem_of_getElem? (i := 36) rfl))) (hw _ (List.mem_of_getElem? (i := 27) rfl)) (ty := (.array (.object "java/lang/String"))) (by decide) rfl rfl (g := (mkF m 10 #[.val (.ref a1)] [(.ref b2), (.ref a1)])) rfl rfl (hb hby d6_10)
  have N6 := Fr.snoc X6 N0 g_a1
  have Z7 : n0 ≤ h6.size := Nat.le_trans Z3 (Keep.of_wr W6).1
  have K7 : Keep h0 h6 [a1] := K3.wr W6 (Or.inl (List.mem_of_getElem? (i := 0) rfl))
  have Fw6 := q4.same W6
  refine Go.step (T' := T6) (f' := (mkF m 13 #[.val (.ref a1)] [])) st6 ?_
  refine Go.step (T' := T6) (f' := (mkF m 14 #[.val (.ref a1)] [(.ref a1)])) (fun _ k => XS.aloadN X6.here hx rfl (hb hby d6_13) rfl rfl k) ?_
  refine Go.step (T' := T6) (f' := (mkF m 16 #[.val (.ref a1)] [(.int (8 : Int32)), (.ref a1)])) (fun _ k => XS.bipush X6.here hx rfl (hb hby d6_14) k) ?_
  obtain ⟨T8, h8, k8, X8, e8, E8, A8, O_8, st8⟩ := newR X6 hx hZ hown (hw _ (List.mem_of_getElem? (i := 33) rfl)) (hw _ (List.mem_of_getElem? (i := 34) rfl)) e6 (g := (mkF m 16 #[.val (.ref a1)] [(.int (8 : Int32)), (.ref a1)])) rfl (hb hby d6_16) rfl (by decide) (cap := 8) (by decide) (by decide) (by decide) (by decide)
  obtain ⟨b8, g8⟩ : ∃ z, z = h6.size := ⟨_, rfl⟩
  rw [← g8] at A8 st8
  have g_b8 : n0 ≤ b8 := Nat.le_trans Z7 (Nat.le_of_eq g8.symm)
  have sz_b8 : h0.size ≤ b8 := Nat.le_trans K7.1 (Nat.le_of_eq g8.symm)
  have Z9 : n0 ≤ h8.size := Nat.le_trans Z7 E8.1
  have K9 : Keep h0 h8 [a1] := K7.ext E8
  have V_b8 : Arv Z h8 b8 k8 (.object "java/lang/String") (8 : Int32) [.null, .null, .null, .null, .null, .null, .null, .null] .null := (Arv.new A8 (by decide)).pad (pad_rep [] .null 8)
  refine Go.step (T' := T8) (f' := (mkF m 19 #[.val (.ref a1)] [(.ref b8), (.ref a1)])) st8 ?_
  have q10 : Fld Z h8 a1 "com/example/tenderbook/tenderbook/Fields" "values" "[Ljava/lang/String;" .null := (((F_values_a1.ext E2).other W6 (Or.inr (slot_ne (Or.inl (hw _ (List.mem_of_getElem? (i := 38) rfl))) (Or.inl (hw _ (List.mem_of_getElem? (i := 36) rfl))) (by decide) (t := (.array (.object "java/lang/String"))) (t' := (.array (.object "java/lang/String"))) (by decide) (by decide)))).ext E8)
  have q11 : Exa Z h8 a1 "com/example/tenderbook/tenderbook/Fields" := ((q5.wr W6).ext E8)
  obtain ⟨T12, h12, X12, e12, W12, st12⟩ := putF X8 hx hZ hown (host := "") (Or.inl (hw _ (List.mem_of_getElem? (i := 37) rfl))) Via.refl e8 q10 q11 (Or.inl (hw _ (List.mem_of_getElem? (i := 38) rfl))) (hw _ (List.mem_of_getElem? (i := 27) rfl)) (ty := (.array (.object "java/lang/String"))) (by decide) rfl rfl (g := (mkF m 19 #[.val (.ref a1)] [(.ref b8), (.ref a1)])) rfl rfl (hb hby d6_19)
  have N12 := Fr.snoc X12 N6 g_a1
  have Z13 : n0 ≤ h12.size := Nat.le_trans Z9 (Keep.of_wr W12).1
  have K13 : Keep h0 h12 [a1] := K9.wr W12 (Or.inl (List.mem_of_getElem? (i := 0) rfl))
  have Fw12 := q10.same W12
  refine Go.step (T' := T12) (f' := (mkF m 22 #[.val (.ref a1)] [])) st12 ?_
  refine goV X12 hx Bd.returns Bd.notSynchronized (hb hby d6_22) ?_ (by decide) (by decide)
  show Q_rm6 Z a1 h0 n0 _ T12.heap _
  rw [e12]
  have q14 : Fld Z h12 a1 "com/example/tenderbook/tenderbook/Fields" "names" "[Ljava/lang/String;" (.ref b2) := ((Fw6.ext E8).other W12 (Or.inr (slot_ne (Or.inl (hw _ (List.mem_of_getElem? (i := 36) rfl))) (Or.inl (hw _ (List.mem_of_getElem? (i := 38) rfl))) (by decide) (t := (.array (.object "java/lang/String"))) (t' := (.array (.object "java/lang/String"))) (by decide) (by decide))))
  have q15 : Fld Z h12 a1 "com/example/tenderbook/tenderbook/Fields" "size" "I" (.int (0 : Int32)) := ((((F_size_a1.ext E2).other W6 (Or.inr (slot_ne (Or.inl (hw _ (List.mem_of_getElem? (i := 45) rfl))) (Or.inl (hw _ (List.mem_of_getElem? (i := 36) rfl))) (by decide) (t := .int) (t' := (.array (.object "java/lang/String"))) (by decide) (by decide)))).ext E8).other W12 (Or.inr (slot_ne (Or.inl (hw _ (List.mem_of_getElem? (i := 45) rfl))) (Or.inl (hw _ (List.mem_of_getElem? (i := 38) rfl))) (by decide) (t := .int) (t' := (.array (.object "java/lang/String"))) (by decide) (by decide))))
  have q16 : Arv Z h12 b2 k2 (.object "java/lang/String") (8 : Int32) [.null, .null, .null, .null, .null, .null, .null, .null] .null := (((V_b2.other W6 (Ne.symm (Nat.ne_of_lt (Nat.lt_of_lt_of_le E_a1.lt (Nat.le_of_eq g2.symm))))).ext E8).other W12 (Ne.symm (Nat.ne_of_lt (Nat.lt_of_lt_of_le E_a1.lt (Nat.le_of_eq g2.symm)))))
  have q17 : Arv Z h12 b8 k8 (.object "java/lang/String") (8 : Int32) [.null, .null, .null, .null, .null, .null, .null, .null] .null := (V_b8.other W12 (Ne.symm (Nat.ne_of_lt (Nat.lt_of_lt_of_le (q5.wr W6).lt (Nat.le_of_eq g8.symm)))))
  exact ⟨b2, b8, k2, k8, rfl, N12, K13, sz_b2, sz_b8, (Nat.ne_of_lt (Nat.lt_of_lt_of_le (V_b2.other W6 (Ne.symm (Nat.ne_of_lt (Nat.lt_of_lt_of_le E_a1.lt (Nat.le_of_eq g2.symm))))).lt (Nat.le_of_eq g8.symm))), O_2, O_8, q14, Fw12, q15, q16, q17⟩
theorem d11_0 : decode prog_8_method_5_code 0 = .ok (.aload_n 0, 1) := by decide +kernel
theorem d11_1 : decode prog_8_method_5_code 1 = .ok (.getfield 18, 3) := by decide +kernel
theorem d11_4 : decode prog_8_method_5_code 4 = .ok (.aload_n 0, 1) := by decide +kernel
theorem d11_5 : decode prog_8_method_5_code 5 = .ok (.getfield 9, 3) := by decide +kernel
theorem d11_8 : decode prog_8_method_5_code 8 = .ok (.arraylength, 1) := by decide +kernel
theorem d11_9 : decode prog_8_method_5_code 9 = .ok (.if_icmp .ne 43, 3) := by decide +kernel
theorem d11_52 : decode prog_8_method_5_code 52 = .ok (.aload_n 0, 1) := by decide +kernel
theorem d11_53 : decode prog_8_method_5_code 53 = .ok (.getfield 9, 3) := by decide +kernel
theorem d11_56 : decode prog_8_method_5_code 56 = .ok (.aload_n 0, 1) := by decide +kernel
theorem d11_57 : decode prog_8_method_5_code 57 = .ok (.getfield 18, 3) := by decide +kernel
theorem d11_60 : decode prog_8_method_5_code 60 = .ok (.aload_n 1, 1) := by decide +kernel
theorem d11_61 : decode prog_8_method_5_code 61 = .ok (.aastore, 1) := by decide +kernel
theorem d11_62 : decode prog_8_method_5_code 62 = .ok (.aload_n 0, 1) := by decide +kernel
theorem d11_63 : decode prog_8_method_5_code 63 = .ok (.getfield 15, 3) := by decide +kernel
theorem d11_66 : decode prog_8_method_5_code 66 = .ok (.aload_n 0, 1) := by decide +kernel
theorem d11_67 : decode prog_8_method_5_code 67 = .ok (.getfield 18, 3) := by decide +kernel
theorem d11_70 : decode prog_8_method_5_code 70 = .ok (.aload_n 2, 1) := by decide +kernel
theorem d11_71 : decode prog_8_method_5_code 71 = .ok (.aastore, 1) := by decide +kernel
theorem d11_72 : decode prog_8_method_5_code 72 = .ok (.aload_n 0, 1) := by decide +kernel
theorem d11_73 : decode prog_8_method_5_code 73 = .ok (.dup, 1) := by decide +kernel
theorem d11_74 : decode prog_8_method_5_code 74 = .ok (.getfield 18, 3) := by decide +kernel
theorem d11_77 : decode prog_8_method_5_code 77 = .ok (.iconst 1, 1) := by decide +kernel
theorem d11_78 : decode prog_8_method_5_code 78 = .ok (.iadd, 1) := by decide +kernel
theorem d11_79 : decode prog_8_method_5_code 79 = .ok (.putfield 18, 3) := by decide +kernel
theorem d11_82 : decode prog_8_method_5_code 82 = .ok (.return_, 1) := by decide +kernel
theorem ef_rmAdd0 (m : MethodId) (a1 : Addr) (a2 : Addr) (a3 : Addr) : entryFrame m #[(.ref a1), (.ref a2), (.ref a3)] 3 = mkF m 0 #[.val (.ref a1), .val (.ref a2), .val (.ref a3)] [] := by first | (simp [entryFrame, mkF, argsToLocals, Value.category]; done) | rfl
def Q_rmAdd0 (Z : State) (a1 : Addr) (a2 : Addr) (a3 : Addr) (n : Addr) (v : Addr) (kn : ClassId) (kv : ClassId) (h0 : Heap) (n0 : Nat) (rv : Option Value) (hq : Heap) (Lq : List Loc) : Prop := rv = none ∧ Fr n0 Lq ∧ Keep h0 hq [a1, n, v] ∧ Fld Z hq a1 "com/example/tenderbook/tenderbook/Fields" "names" "[Ljava/lang/String;" (.ref n) ∧ Fld Z hq a1 "com/example/tenderbook/tenderbook/Fields" "values" "[Ljava/lang/String;" (.ref v) ∧ Fld Z hq a1 "com/example/tenderbook/tenderbook/Fields" "size" "I" (.int (1 : Int32)) ∧ Arv Z hq n kn (.object "java/lang/String") (8 : Int32) [(.ref a2), .null, .null, .null, .null, .null, .null, .null] .null ∧ Arv Z hq v kv (.object "java/lang/String") (8 : Int32) [(.ref a3), .null, .null, .null, .null, .null, .null, .null] .null
set_option maxRecDepth 65536 in
set_option maxHeartbeats 40000000 in
theorem rmAdd0 (l : Launch) (Z : State) (a0 : Array Value) (hw : ∀ d ∈ tables_1, d.before a0 Z = true) (ws : List Jvm.Cond) (a1 : Addr) (a2 : Addr) (a3 : Addr) (n : Addr) (v : Addr) (kn : ClassId) (kv : ClassId) (h0 : Heap) (n0 : Nat) (Z0 : n0 ≤ h0.size) (E_a1 : Exa Z h0 a1 "com/example/tenderbook/tenderbook/Fields") (E_a2 : Exa Z h0 a2 "java/lang/String") (E_a3 : Exa Z h0 a3 "java/lang/String") (F_names_a1 : Fld Z h0 a1 "com/example/tenderbook/tenderbook/Fields" "names" "[Ljava/lang/String;" (.ref n)) (F_values_a1 : Fld Z h0 a1 "com/example/tenderbook/tenderbook/Fields" "values" "[Ljava/lang/String;" (.ref v)) (F_size_a1 : Fld Z h0 a1 "com/example/tenderbook/tenderbook/Fields" "size" "I" (.int (0 : Int32))) (V_n : Arv Z h0 n kn (.object "java/lang/String") (8 : Int32) [.null, .null, .null, .null, .null, .null, .null, .null] .null) (V_v : Arv Z h0 v kv (.object "java/lang/String") (8 : Int32) [.null, .null, .null, .null, .null, .null, .null, .null] .null) (hna : n ≠ a1) (hva : v ≠ a1) (hnv : n ≠ v) (ovn : Ovr Z kn "java/lang/String") (ovv : Ovr Z kv "java/lang/String") (g_a1 : n0 ≤ a1) (g_n : n0 ≤ n) (g_v : n0 ≤ v) :
    MetFree l (⟨"com/example/tenderbook/tenderbook/Fields", "add", "(Ljava/lang/String;Ljava/lang/String;)V"⟩ : MethodName) (head1 (Jvm.Cond.code (⟨"com/example/tenderbook/tenderbook/Fields", "add", "(Ljava/lang/String;Ljava/lang/String;)V"⟩ : MethodName) prog_8_method_5_code 3 none :: ws) ({ frames := 0, cells := 0, slots := 0, locals := 0 } : Room)) (fun a U => a = #[(.ref a1), (.ref a2), (.ref a3)] ∧ Z.Warmed39 U.vm ∧ U.heap = h0) (fun _ _ _ _ _ => True) (fun _ U o U' => ∃ rv Lq, o = .returned rv ∧ Q_rmAdd0 Z a1 a2 a3 n v kn kv h0 n0 rv U'.heap Lq ∧ FrameEnd U o U' Lq ({ frames := 0, cells := 0, slots := 0, locals := 0 } : Room).cells ({ frames := 0, cells := 0, slots := 0, locals := 0 } : Room).slots) := by
  refine MetFree.of_bodySF (plainFor_of_name pn_6) hisR ?_
  intro p e s m args below meth c s₁ Bd hml0 hP hK
  obtain ⟨rfl, hZ, hh⟩ := hP
  have hx := Bd.exec
  have hby := Bd.bytes
  have hml : c.maxLocals = 3 := hml0
  have hown : s.vm.findClass "com/example/tenderbook/tenderbook/Fields" = some m.cls := findClass_of_methodNamed Bd.named
  have hnm := (name_of_methodNamed Bd.named Bd.method).1
  have X0 : Stand p l e ({ frames := 0, cells := 0, slots := 0, locals := 0 } : Room) s m #[(.ref a1), (.ref a2), (.ref a3)] below meth c s₁ [] 0 0 := Stand.of_body Bd
  have e0 : s₁.heap = h0 := by rw [← hh, Bd.state]; rfl
  have N0 := Fr.nil n0
  refine of_go (ef_rmAdd0 m a1 a2 a3) ?_
  refine Go.step (T' := s₁) (f' := (mkF m 1 #[.val (.ref a1), .val (.ref a2), .val (.ref a3)] [(.ref a1)])) (fun _ k => XS.aloadN X0.here hx rfl (hb hby d11_0) rfl rfl k) ?_
  obtain ⟨T1, X1, e1, st1⟩ := getF X0 hx hZ hown (host := "") (Or.inl (hw _ (List.mem_of_getElem? (i := 44) rfl))) Via.refl e0 F_size_a1 (g := (mkF m 1 #[.val (.ref a1), .val (.ref a2), .val (.ref a3)] [(.ref a1)])) rfl rfl (hb hby d11_1)
  refine Go.step (T' := T1) (f' := (mkF m 4 #[.val (.ref a1), .val (.ref a2), .val (.ref a3)] [(.int (0 : Int32))])) st1 ?_
  refine Go.step (T' := T1) (f' := (mkF m 5 #[.val (.ref a1), .val (.ref a2), .val (.ref a3)] [(.ref a1), (.int (0 : Int32))])) (fun _ k => XS.aloadN X1.here hx rfl (hb hby d11_4) rfl rfl k) ?_
  obtain ⟨T2, X2, e2, st2⟩ := getF X1 hx hZ hown (host := "") (Or.inl (hw _ (List.mem_of_getElem? (i := 35) rfl))) Via.refl e1 F_names_a1 (g := (mkF m 5 #[.val (.ref a1), .val (.ref a2), .val (.ref a3)] [(.ref a1), (.int (0 : Int32))])) rfl rfl (hb hby d11_5)
  refine Go.step (T' := T2) (f' := (mkF m 8 #[.val (.ref a1), .val (.ref a2), .val (.ref a3)] [(.ref n), (.int (0 : Int32))])) st2 ?_
  obtain ⟨cl3, Ar3, qc3, Sz3, Nn3, Hs3, Gf3⟩ := id V_n
  have hl3 := X2.arraylength hx (by rw [e2]; exact Ar3.1) (State.isArrayOf_alike hZ.alike Ar3.2.1) (g := (mkF m 8 #[.val (.ref a1), .val (.ref a2), .val (.ref a3)] [(.ref n), (.int (0 : Int32))])) rfl rfl (hb hby d11_8)
  rw [len_of Sz3 Nn3] at hl3
  refine Go.step (T' := T2) (f' := (mkF m 9 #[.val (.ref a1), .val (.ref a2), .val (.ref a3)] [(.int (8 : Int32)), (.int (0 : Int32))])) (fun _ k => hl3 _ k) ?_
  refine Go.step (T' := T2) (f' := (mkF m 52 #[.val (.ref a1), .val (.ref a2), .val (.ref a3)] [])) (fun _ k => XS.icmpYes X2.here hx rfl (pc0 := 9) (pc' := 52) rfl (hb hby d11_9) rfl (feq (by decide : ¬ ((0 : Int32) = (8 : Int32)))).2 (by decide) (by decide) k) ?_
  refine Go.step (T' := T2) (f' := (mkF m 53 #[.val (.ref a1), .val (.ref a2), .val (.ref a3)] [(.ref a1)])) (fun _ k => XS.aloadN X2.here hx rfl (hb hby d11_52) rfl rfl k) ?_
  obtain ⟨T4, X4, e4, st4⟩ := getF X2 hx hZ hown (host := "") (Or.inl (hw _ (List.mem_of_getElem? (i := 35) rfl))) Via.refl e2 F_names_a1 (g := (mkF m 53 #[.val (.ref a1), .val (.ref a2), .val (.ref a3)] [(.ref a1)])) rfl rfl (hb hby d11_53)
  refine Go.step (T' := T4) (f' := (mkF m 56 #[.val (.ref a1), .val (.ref a2), .val (.ref a3)] [(.ref n)])) st4 ?_
  refine Go.step (T' := T4) (f' := (mkF m 57 #[.val (.ref a1), .val (.ref a2), .val (.ref a3)] [(.ref a1), (.ref n)])) (fun _ k => XS.aloadN X4.here hx rfl (hb hby d11_56) rfl rfl k) ?_
  obtain ⟨T5, X5, e5, st5⟩ := getF X4 hx hZ hown (host := "") (Or.inl (hw _ (List.mem_of_getElem? (i := 44) rfl))) Via.refl e4 F_size_a1 (g := (mkF m 57 #[.val (.ref a1), .val (.ref a2), .val (.ref a3)] [(.ref a1), (.ref n)])) rfl rfl (hb hby d11_57)
  refine Go.step (T' := T5) (f' := (mkF m 60 #[.val (.ref a1), .val (.ref a2), .val (.ref a3)] [(.int (0 : Int32)), (.ref n)])) st5 ?_
  refine Go.step (T' := T5) (f' := (mkF m 61 #[.val (.ref a1), .val (.ref a2), .val (.ref a3)] [(.ref a2), (.int (0 : Int32)), (.ref n)])) (fun _ k => XS.aloadN X5.here hx rfl (hb hby d11_60) rfl rfl k) ?_
  obtain ⟨cl6, Ar6, qc6, Sz6, Nn6, Hs6, Gf6⟩ := id V_n
  have hin7 : ¬ ((0 : Int32) < 0 ∨ cl6.slots.size ≤ ((0 : Int32)).toNatClampNeg) := (inb_of Sz6 ⟨by decide, by decide⟩)
  obtain ⟨T7, h7, X7, e7, W7, st7⟩ := stR X5 hx hZ e5 Ar6 (j := (0 : Int32)) hin7 rfl (Sto.ofV Ar6 qc6 ovn (Ins.self E_a2)) (g := (mkF m 61 #[.val (.ref a1), .val (.ref a2), .val (.ref a3)] [(.ref a2), (.int (0 : Int32)), (.ref n)])) rfl rfl (hb hby d11_61)
  have N7 := Fr.snoc X7 N0 g_n
  have Z8 : n0 ≤ h7.size := Nat.le_trans Z0 (Keep.of_wr W7).1
  have K8 : Keep h0 h7 [a1, n, v] := (Keep.refl h0 [a1, n, v]).wr W7 (Or.inl (List.mem_of_getElem? (i := 1) rfl))
  have Va7 : Arv Z h7 n kn (.object "java/lang/String") (8 : Int32) [(.ref a2), .null, .null, .null, .null, .null, .null, .null] .null := Arv.set Ar6 qc6 Sz6 Nn6 Hs6 Gf6 rfl W7 0 rfl (Nat.le_of_ble_eq_true rfl)
  refine Go.step (T' := T7) (f' := (mkF m 62 #[.val (.ref a1), .val (.ref a2), .val (.ref a3)] [])) st7 ?_
  refine Go.step (T' := T7) (f' := (mkF m 63 #[.val (.ref a1), .val (.ref a2), .val (.ref a3)] [(.ref a1)])) (fun _ k => XS.aloadN X7.here hx rfl (hb hby d11_62) rfl rfl k) ?_
  have q9 : Fld Z h7 a1 "com/example/tenderbook/tenderbook/Fields" "values" "[Ljava/lang/String;" (.ref v) := (F_values_a1.other W7 (Or.inl (Ne.symm hna)))
  obtain ⟨T10, X10, e10, st10⟩ := getF X7 hx hZ hown (host := "") (Or.inl (hw _ (List.mem_of_getElem? (i := 37) rfl))) Via.refl e7 q9 (g := (mkF m 63 #[.val (.ref a1), .val (.ref a2), .val (.ref a3)] [(.ref a1)])) rfl rfl (hb hby d11_63)
  refine Go.step (T' := T10) (f' := (mkF m 66 #[.val (.ref a1), .val (.ref a2), .val (.ref a3)] [(.ref v)])) st10 ?_
  refine Go.step (T' := T10) (f' := (mkF m 67 #[.val (.ref a1), .val (.ref a2), .val (.ref a3)] [(.ref a1), (.ref v)])) (fun _ k => XS.aloadN X10.here hx rfl (hb hby d11_66) rfl rfl k) ?_
  have q11 : Fld Z h7 a1 "com/example/tenderbook/tenderbook/Fields" "size" "I" (.int (0 : Int32)) := (F_size_a1.other W7 (Or.inl (Ne.symm hna)))
  obtain ⟨T12, X12, e12, st12⟩ := getF X10 hx hZ hown (host := "") (Or.inl (hw _ (List.mem_of_getElem? (i := 44) rfl))) Via.refl e10 q11 (g := (mkF m 67 #[.val (.ref a1), .val (.ref a2), .val (.ref a3)] [(.ref a1), (.ref v)])) rfl rfl (hb hby d11_67)
  refine Go.step (T' := T12) (f' := (mkF m 70 #[.val (.ref a1), .val (.ref a2), .val (.ref a3)] [(.int (0 : Int32)), (.ref v)])) st12 ?_
  refine Go.step (T' := T12) (f' := (mkF m 71 #[.val (.ref a1), .val (.ref a2), .val (.ref a3)] [(.ref a3), (.int (0 : Int32)), (.ref v)])) (fun _ k => XS.aloadN X12.here hx rfl (hb hby d11_70) rfl rfl k) ?_
  have q13 : Arv Z h7 v kv (.object "java/lang/String") (8 : Int32) [.null, .null, .null, .null, .null, .null, .null, .null] .null := (V_v.other W7 (Ne.symm hnv))
  obtain ⟨cl14, Ar14, qc14, Sz14, Nn14, Hs14, Gf14⟩ := id q13
  have q16 : Exa Z h7 a3 "java/lang/String" := (E_a3.wr W7)
  have hin15 : ¬ ((0 : Int32) < 0 ∨ cl14.slots.size ≤ ((0 : Int32)).toNatClampNeg) := (inb_of Sz14 ⟨by decide, by decide⟩)
  obtain ⟨T15, h15, X15, e15, W15, st15⟩ := stR X12 hx hZ e12 Ar14 (j := (0 : Int32)) hin15 rfl (Sto.ofV Ar14 qc14 ovv (Ins.self q16)) (g := (mkF m 71 #[.val (.ref a1), .val (.ref a2), .val (.ref a3)] [(.ref a3), (.int (0 : Int32)), (.ref v)])) rfl rfl (hb hby d11_71)
  have N15 := Fr.snoc X15 N7 g_v
  have Z17 : n0 ≤ h15.size := Nat.le_trans Z8 (Keep.of_wr W15).1
  have K17 : Keep h0 h15 [a1, n, v] := K8.wr W15 (Or.inl (List.mem_of_getElem? (i := 2) rfl))
  have Va15 : Arv Z h15 v kv (.object "java/lang/String") (8 : Int32) [(.ref a3), .null, .null, .null, .null, .null, .null, .null] .null := Arv.set Ar14 qc14 Sz14 Nn14 Hs14 Gf14 rfl W15 0 rfl (Nat.le_of_ble_eq_true rfl)
  refine Go.step (T' := T15) (f' := (mkF m 72 #[.val (.ref a1), .val (.ref a2), .val (.ref a3)] [])) st15 ?_
  refine Go.step (T' := T15) (f' := (mkF m 73 #[.val (.ref a1), .val (.ref a2), .val (.ref a3)] [(.ref a1)])) (fun _ k => XS.aloadN X15.here hx rfl (hb hby d11_72) rfl rfl k) ?_
  refine Go.step (T' := T15) (f' := (mkF m 74 #[.val (.ref a1), .val (.ref a2), .val (.ref a3)] [(.ref a1), (.ref a1)])) (fun _ k => XS.dup X15.here hx rfl (hb hby d11_73) rfl rfl k) ?_
  have q18 : Fld Z h15 a1 "com/example/tenderbook/tenderbook/Fields" "size" "I" (.int (0 : Int32)) := (q11.other W15 (Or.inl (Ne.symm hva)))
  obtain ⟨T19, X19, e19, st19⟩ := getF X15 hx hZ hown (host := "") (Or.inl (hw _ (List.mem_of_getElem? (i := 44) rfl))) Via.refl e15 q18 (g := (mkF m 74 #[.val (.ref a1), .val (.ref a2), .val (.ref a3)] [(.ref a1), (.ref a1)])) rfl rfl (hb hby d11_74)
  refine Go.step (T' := T19) (f' := (mkF m 77 #[.val (.ref a1), .val (.ref a2), .val (.ref a3)] [(.int (0 : Int32)), (.ref a1)])) st19 ?_
  refine Go.step (T' := T19) (f' := (mkF m 78 #[.val (.ref a1), .val (.ref a2), .val (.ref a3)] [(.int (1 : Int32)), (.int (0 : Int32)), (.ref a1)])) (fun _ k => XS.iconst X19.here hx rfl (hb hby d11_77) k) ?_
  refine Go.step (T' := T19) (f' := (mkF m 79 #[.val (.ref a1), .val (.ref a2), .val (.ref a3)] [(.int (1 : Int32)), (.ref a1)])) (fun _ k => XS.iadd X19.here hx rfl (hb hby d11_78) rfl k) ?_
  have q20 : Exa Z h15 a1 "com/example/tenderbook/tenderbook/Fields" := ((E_a1.wr W7).wr W15)
  obtain ⟨T21, h21, X21, e21, W21, st21⟩ := putF X19 hx hZ hown (host := "") (Or.inl (hw _ (List.mem_of_getElem? (i := 44) rfl))) Via.refl e19 q18 q20 (Or.inl (hw _ (List.mem_of_getElem? (i := 45) rfl))) (hw _ (List.mem_of_getElem? (i := 27) rfl)) (ty := .int) (by decide) rfl rfl (g := (mkF m 79 #[.val (.ref a1), .val (.ref a2), .val (.ref a3)] [(.int (1 : Int32)), (.ref a1)])) rfl rfl (hb hby d11_79)
  have N21 := Fr.snoc X21 N15 g_a1
  have Z22 : n0 ≤ h21.size := Nat.le_trans Z17 (Keep.of_wr W21).1
  have K22 : Keep h0 h21 [a1, n, v] := K17.wr W21 (Or.inl (List.mem_of_getElem? (i := 0) rfl))
  have Fw21 := q18.same W21
  refine Go.step (T' := T21) (f' := (mkF m 82 #[.val (.ref a1), .val (.ref a2), .val (.ref a3)] [])) st21 ?_
  refine goV X21 hx Bd.returns Bd.notSynchronized (hb hby d11_82) ?_ (by decide) (by decide)
  show Q_rmAdd0 Z a1 a2 a3 n v kn kv h0 n0 _ T21.heap _
  rw [e21]
  have q23 : Fld Z h21 a1 "com/example/tenderbook/tenderbook/Fields" "names" "[Ljava/lang/String;" (.ref n) := (((F_names_a1.other W7 (Or.inl (Ne.symm hna))).other W15 (Or.inl (Ne.symm hva))).other W21 (Or.inr (slot_ne (Or.inl (hw _ (List.mem_of_getElem? (i := 36) rfl))) (Or.inl (hw _ (List.mem_of_getElem? (i := 45) rfl))) (by decide) (t := (.array (.object "java/lang/String"))) (t' := .int) (by decide) (by decide))))
  have q24 : Fld Z h21 a1 "com/example/tenderbook/tenderbook/Fields" "values" "[Ljava/lang/String;" (.ref v) := ((q9.other W15 (Or.inl (Ne.symm hva))).other W21 (Or.inr (slot_ne (Or.inl (hw _ (List.mem_of_getElem? (i := 38) rfl))) (Or.inl (hw _ (List.mem_of_getElem? (i := 45) rfl))) (by decide) (t := (.array (.object "java/lang/String"))) (t' := .int) (by decide) (by decide))))
  have q25 : Arv Z h21 n kn (.object "java/lang/String") (8 : Int32) [(.ref a2), .null, .null, .null, .null, .null, .null, .null] .null := ((Va7.other W15 hnv).other W21 hna)
  have q26 : Arv Z h21 v kv (.object "java/lang/String") (8 : Int32) [(.ref a3), .null, .null, .null, .null, .null, .null, .null] .null := (Va15.other W21 hva)
  exact ⟨rfl, N21, K22, q23, q24, Fw21, q25, q26⟩
theorem ef_rmAdd1 (m : MethodId) (a1 : Addr) (a2 : Addr) (a3 : Addr) : entryFrame m #[(.ref a1), (.ref a2), (.ref a3)] 3 = mkF m 0 #[.val (.ref a1), .val (.ref a2), .val (.ref a3)] [] := by first | (simp [entryFrame, mkF, argsToLocals, Value.category]; done) | rfl
def Q_rmAdd1 (Z : State) (a1 : Addr) (a2 : Addr) (a3 : Addr) (n : Addr) (v : Addr) (kn : ClassId) (kv : ClassId) (x0 : Value) (y0 : Value) (h0 : Heap) (n0 : Nat) (rv : Option Value) (hq : Heap) (Lq : List Loc) : Prop := rv = none ∧ Fr n0 Lq ∧ Keep h0 hq [a1, n, v] ∧ Fld Z hq a1 "com/example/tenderbook/tenderbook/Fields" "names" "[Ljava/lang/String;" (.ref n) ∧ Fld Z hq a1 "com/example/tenderbook/tenderbook/Fields" "values" "[Ljava/lang/String;" (.ref v) ∧ Fld Z hq a1 "com/example/tenderbook/tenderbook/Fields" "size" "I" (.int (2 : Int32)) ∧ Arv Z hq n kn (.object "java/lang/String") (8 : Int32) [x0, (.ref a2), .null, .null, .null, .null, .null, .null] .null ∧ Arv Z hq v kv (.object "java/lang/String") (8 : Int32) [y0, (.ref a3), .null, .null, .null, .null, .null, .null] .null
set_option maxRecDepth 65536 in
set_option maxHeartbeats 40000000 in
theorem rmAdd1 (l : Launch) (Z : State) (a0 : Array Value) (hw : ∀ d ∈ tables_1, d.before a0 Z = true) (ws : List Jvm.Cond) (a1 : Addr) (a2 : Addr) (a3 : Addr) (n : Addr) (v : Addr) (kn : ClassId) (kv : ClassId) (x0 : Value) (y0 : Value) (h0 : Heap) (n0 : Nat) (Z0 : n0 ≤ h0.size) (E_a1 : Exa Z h0 a1 "com/example/tenderbook/tenderbook/Fields") (E_a2 : Exa Z h0 a2 "java/lang/String") (E_a3 : Exa Z h0 a3 "java/lang/String") (F_names_a1 : Fld Z h0 a1 "com/example/tenderbook/tenderbook/Fields" "names" "[Ljava/lang/String;" (.ref n)) (F_values_a1 : Fld Z h0 a1 "com/example/tenderbook/tenderbook/Fields" "values" "[Ljava/lang/String;" (.ref v)) (F_size_a1 : Fld Z h0 a1 "com/example/tenderbook/tenderbook/Fields" "size" "I" (.int (1 : Int32))) (V_n : Arv Z h0 n kn (.object "java/lang/String") (8 : Int32) [x0, .null, .null, .null, .null, .null, .null, .null] .null) (V_v : Arv Z h0 v kv (.object "java/lang/String") (8 : Int32) [y0, .null, .null, .null, .null, .null, .null, .null] .null) (hna : n ≠ a1) (hva : v ≠ a1) (hnv : n ≠ v) (ovn : Ovr Z kn "java/lang/String") (ovv : Ovr Z kv "java/lang/String") (g_a1 : n0 ≤ a1) (g_n : n0 ≤ n) (g_v : n0 ≤ v) :
    MetFree l (⟨"com/example/tenderbook/tenderbook/Fields", "add", "(Ljava/lang/String;Ljava/lang/String;)V"⟩ : MethodName) (head1 (Jvm.Cond.code (⟨"com/example/tenderbook/tenderbook/Fields", "add", "(Ljava/lang/String;Ljava/lang/String;)V"⟩ : MethodName) prog_8_method_5_code 3 none :: ws) ({ frames := 0, cells := 0, slots := 0, locals := 0 } : Room)) (fun a U => a = #[(.ref a1), (.ref a2), (.ref a3)] ∧ Z.Warmed39 U.vm ∧ U.heap = h0) (fun _ _ _ _ _ => True) (fun _ U o U' => ∃ rv Lq, o = .returned rv ∧ Q_rmAdd1 Z a1 a2 a3 n v kn kv x0 y0 h0 n0 rv U'.heap Lq ∧ FrameEnd U o U' Lq ({ frames := 0, cells := 0, slots := 0, locals := 0 } : Room).cells ({ frames := 0, cells := 0, slots := 0, locals := 0 } : Room).slots) := by
  refine MetFree.of_bodySF (plainFor_of_name pn_6) hisR ?_
  intro p e s m args below meth c s₁ Bd hml0 hP hK
  obtain ⟨rfl, hZ, hh⟩ := hP
  have hx := Bd.exec
  have hby := Bd.bytes
  have hml : c.maxLocals = 3 := hml0
  have hown : s.vm.findClass "com/example/tenderbook/tenderbook/Fields" = some m.cls := findClass_of_methodNamed Bd.named
  have hnm := (name_of_methodNamed Bd.named Bd.method).1
  have X0 : Stand p l e ({ frames := 0, cells := 0, slots := 0, locals := 0 } : Room) s m #[(.ref a1), (.ref a2), (.ref a3)] below meth c s₁ [] 0 0 := Stand.of_body Bd
  have e0 : s₁.heap = h0 := by rw [← hh, Bd.state]; rfl
  have N0 := Fr.nil n0
  refine of_go (ef_rmAdd1 m a1 a2 a3) ?_
  refine Go.step (T' := s₁) (f' := (mkF m 1 #[.val (.ref a1), .val (.ref a2), .val (.ref a3)] [(.ref a1)])) (fun _ k => XS.aloadN X0.here hx rfl (hb hby d11_0) rfl rfl k) ?_
  obtain ⟨T1, X1, e1, st1⟩ := getF X0 hx hZ hown (host := "") (Or.inl (hw _ (List.mem_of_getElem? (i := 44) rfl))) Via.refl e0 F_size_a1 (g := (mkF m 1 #[.val (.ref a1), .val (.ref a2), .val (.ref a3)] [(.ref a1)])) rfl rfl (hb hby d11_1)
  refine Go.step (T' := T1) (f' := (mkF m 4 #[.val (.ref a1), .val (.ref a2), .val (.ref a3)] [(.int (1 : Int32))])) st1 ?_
  refine Go.step (T' := T1) (f' := (mkF m 5 #[.val (.ref a1), .val (.ref a2), .val (.ref a3)] [(.ref a1), (.int (1 : Int32))])) (fun _ k => XS.aloadN X1.here hx rfl (hb hby d11_4) rfl rfl k) ?_
  obtain ⟨T2, X2, e2, st2⟩ := getF X1 hx hZ hown (host := "") (Or.inl (hw _ (List.mem_of_getElem? (i := 35) rfl))) Via.refl e1 F_names_a1 (g := (mkF m 5 #[.val (.ref a1), .val (.ref a2), .val (.ref a3)] [(.ref a1), (.int (1 : Int32))])) rfl rfl (hb hby d11_5)
  refine Go.step (T' := T2) (f' := (mkF m 8 #[.val (.ref a1), .val (.ref a2), .val (.ref a3)] [(.ref n), (.int (1 : Int32))])) st2 ?_
  obtain ⟨cl3, Ar3, qc3, Sz3, Nn3, Hs3, Gf3⟩ := id V_n
  have hl3 := X2.arraylength hx (by rw [e2]; exact Ar3.1) (State.isArrayOf_alike hZ.alike Ar3.2.1) (g := (mkF m 8 #[.val (.ref a1), .val (.ref a2), .val (.ref a3)] [(.ref n), (.int (1 : Int32))])) rfl rfl (hb hby d11_8)
  rw [len_of Sz3 Nn3] at hl3
  refine Go.step (T' := T2) (f' := (mkF m 9 #[.val (.ref a1), .val (.ref a2), .val (.ref a3)] [(.int (8 : Int32)), (.int (1 : Int32))])) (fun _ k => hl3 _ k) ?_
  refine Go.step (T' := T2) (f' := (mkF m 52 #[.val (.ref a1), .val (.ref a2), .val (.ref a3)] [])) (fun _ k => XS.icmpYes X2.here hx rfl (pc0 := 9) (pc' := 52) rfl (hb hby d11_9) rfl (feq (by decide : ¬ ((1 : Int32) = (8 : Int32)))).2 (by decide) (by decide) k) ?_
  refine Go.step (T' := T2) (f' := (mkF m 53 #[.val (.ref a1), .val (.ref a2), .val (.ref a3)] [(.ref a1)])) (fun _ k => XS.aloadN X2.here hx rfl (hb hby d11_52) rfl rfl k) ?_
  obtain ⟨T4, X4, e4, st4⟩ := getF X2 hx hZ hown (host := "") (Or.inl (hw _ (List.mem_of_getElem? (i := 35) rfl))) Via.refl e2 F_names_a1 (g := (mkF m 53 #[.val (.ref a1), .val (.ref a2), .val (.ref a3)] [(.ref a1)])) rfl rfl (hb hby d11_53)
  refine Go.step (T' := T4) (f' := (mkF m 56 #[.val (.ref a1), .val (.ref a2), .val (.ref a3)] [(.ref n)])) st4 ?_
  refine Go.step (T' := T4) (f' := (mkF m 57 #[.val (.ref a1), .val (.ref a2), .val (.ref a3)] [(.ref a1), (.ref n)])) (fun _ k => XS.aloadN X4.here hx rfl (hb hby d11_56) rfl rfl k) ?_
  obtain ⟨T5, X5, e5, st5⟩ := getF X4 hx hZ hown (host := "") (Or.inl (hw _ (List.mem_of_getElem? (i := 44) rfl))) Via.refl e4 F_size_a1 (g := (mkF m 57 #[.val (.ref a1), .val (.ref a2), .val (.ref a3)] [(.ref a1), (.ref n)])) rfl rfl (hb hby d11_57)
  refine Go.step (T' := T5) (f' := (mkF m 60 #[.val (.ref a1), .val (.ref a2), .val (.ref a3)] [(.int (1 : Int32)), (.ref n)])) st5 ?_
  refine Go.step (T' := T5) (f' := (mkF m 61 #[.val (.ref a1), .val (.ref a2), .val (.ref a3)] [(.ref a2), (.int (1 : Int32)), (.ref n)])) (fun _ k => XS.aloadN X5.here hx rfl (hb hby d11_60) rfl rfl k) ?_
  obtain ⟨cl6, Ar6, qc6, Sz6, Nn6, Hs6, Gf6⟩ := id V_n
  have hin7 : ¬ ((1 : Int32) < 0 ∨ cl6.slots.size ≤ ((1 : Int32)).toNatClampNeg) := (inb_of Sz6 ⟨by decide, by decide⟩)
  obtain ⟨T7, h7, X7, e7, W7, st7⟩ := stR X5 hx hZ e5 Ar6 (j := (1 : Int32)) hin7 rfl (Sto.ofV Ar6 qc6 ovn (Ins.self E_a2)) (g := (mkF m 61 #[.val (.ref a1), .val (.ref a2), .val (.ref a3)] [(.ref a2), (.int (1 : Int32)), (.ref n)])) rfl rfl (hb hby d11_61)
  have N7 := Fr.snoc X7 N0 g_n
  have Z8 : n0 ≤ h7.size := Nat.le_trans Z0 (Keep.of_wr W7).1
  have K8 : Keep h0 h7 [a1, n, v] := (Keep.refl h0 [a1, n, v]).wr W7 (Or.inl (List.mem_of_getElem? (i := 1) rfl))
  have Va7 : Arv Z h7 n kn (.object "java/lang/String") (8 : Int32) [x0, (.ref a2), .null, .null, .null, .null, .null, .null] .null := Arv.set Ar6 qc6 Sz6 Nn6 Hs6 Gf6 rfl W7 1 rfl (Nat.le_of_ble_eq_true rfl)
  refine Go.step (T' := T7) (f' := (mkF m 62 #[.val (.ref a1), .val (.ref a2), .val (.ref a3)] [])) st7 ?_
  refine Go.step (T' := T7) (f' := (mkF m 63 #[.val (.ref a1), .val (.ref a2), .val (.ref a3)] [(.ref a1)])) (fun _ k => XS.aloadN X7.here hx rfl (hb hby d11_62) rfl rfl k) ?_
  have q9 : Fld Z h7 a1 "com/example/tenderbook/tenderbook/Fields" "values" "[Ljava/lang/String;" (.ref v) := (F_values_a1.other W7 (Or.inl (Ne.symm hna)))
  obtain ⟨T10, X10, e10, st10⟩ := getF X7 hx hZ hown (host := "") (Or.inl (hw _ (List.mem_of_getElem? (i := 37) rfl))) Via.refl e7 q9 (g := (mkF m 63 #[.val (.ref a1), .val (.ref a2), .val (.ref a3)] [(.ref a1)])) rfl rfl (hb hby d11_63)
  refine Go.step (T' := T10) (f' := (mkF m 66 #[.val (.ref a1), .val (.ref a2), .val (.ref a3)] [(.ref v)])) st10 ?_
  refine Go.step (T' := T10) (f' := (mkF m 67 #[.val (.ref a1), .val (.ref a2), .val (.ref a3)] [(.ref a1), (.ref v)])) (fun _ k => XS.aloadN X10.here hx rfl (hb hby d11_66) rfl rfl k) ?_
  have q11 : Fld Z h7 a1 "com/example/tenderbook/tenderbook/Fields" "size" "I" (.int (1 : Int32)) := (F_size_a1.other W7 (Or.inl (Ne.symm hna)))
  obtain ⟨T12, X12, e12, st12⟩ := getF X10 hx hZ hown (host := "") (Or.inl (hw _ (List.mem_of_getElem? (i := 44) rfl))) Via.refl e10 q11 (g := (mkF m 67 #[.val (.ref a1), .val (.ref a2), .val (.ref a3)] [(.ref a1), (.ref v)])) rfl rfl (hb hby d11_67)
  refine Go.step (T' := T12) (f' := (mkF m 70 #[.val (.ref a1), .val (.ref a2), .val (.ref a3)] [(.int (1 : Int32)), (.ref v)])) st12 ?_
  refine Go.step (T' := T12) (f' := (mkF m 71 #[.val (.ref a1), .val (.ref a2), .val (.ref a3)] [(.ref a3), (.int (1 : Int32)), (.ref v)])) (fun _ k => XS.aloadN X12.here hx rfl (hb hby d11_70) rfl rfl k) ?_
  have q13 : Arv Z h7 v kv (.object "java/lang/String") (8 : Int32) [y0, .null, .null, .null, .null, .null, .null, .null] .null := (V_v.other W7 (Ne.symm hnv))
  obtain ⟨cl14, Ar14, qc14, Sz14, Nn14, Hs14, Gf14⟩ := id q13
  have q16 : Exa Z h7 a3 "java/lang/String" := (E_a3.wr W7)
  have hin15 : ¬ ((1 : Int32) < 0 ∨ cl14.slots.size ≤ ((1 : Int32)).toNatClampNeg) := (inb_of Sz14 ⟨by decide, by decide⟩)
  obtain ⟨T15, h15, X15, e15, W15, st15⟩ := stR X12 hx hZ e12 Ar14 (j := (1 : Int32)) hin15 rfl (Sto.ofV Ar14 qc14 ovv (Ins.self q16)) (g := (mkF m 71 #[.val (.ref a1), .val (.ref a2), .val (.ref a3)] [(.ref a3), (.int (1 : Int32)), (.ref v)])) rfl rfl (hb hby d11_71)
  have N15 := Fr.snoc X15 N7 g_v
  have Z17 : n0 ≤ h15.size := Nat.le_trans Z8 (Keep.of_wr W15).1
  have K17 : Keep h0 h15 [a1, n, v] := K8.wr W15 (Or.inl (List.mem_of_getElem? (i := 2) rfl))
  have Va15 : Arv Z h15 v kv (.object "java/lang/String") (8 : Int32) [y0, (.ref a3), .null, .null, .null, .null, .null, .null] .null := Arv.set Ar14 qc14 Sz14 Nn14 Hs14 Gf14 rfl W15 1 rfl (Nat.le_of_ble_eq_true rfl)
  refine Go.step (T' := T15) (f' := (mkF m 72 #[.val (.ref a1), .val (.ref a2), .val (.ref a3)] [])) st15 ?_
  refine Go.step (T' := T15) (f' := (mkF m 73 #[.val (.ref a1), .val (.ref a2), .val (.ref a3)] [(.ref a1)])) (fun _ k => XS.aloadN X15.here hx rfl (hb hby d11_72) rfl rfl k) ?_
  refine Go.step (T' := T15) (f' := (mkF m 74 #[.val (.ref a1), .val (.ref a2), .val (.ref a3)] [(.ref a1), (.ref a1)])) (fun _ k => XS.dup X15.here hx rfl (hb hby d11_73) rfl rfl k) ?_
  have q18 : Fld Z h15 a1 "com/example/tenderbook/tenderbook/Fields" "size" "I" (.int (1 : Int32)) := (q11.other W15 (Or.inl (Ne.symm hva)))
  obtain ⟨T19, X19, e19, st19⟩ := getF X15 hx hZ hown (host := "") (Or.inl (hw _ (List.mem_of_getElem? (i := 44) rfl))) Via.refl e15 q18 (g := (mkF m 74 #[.val (.ref a1), .val (.ref a2), .val (.ref a3)] [(.ref a1), (.ref a1)])) rfl rfl (hb hby d11_74)
  refine Go.step (T' := T19) (f' := (mkF m 77 #[.val (.ref a1), .val (.ref a2), .val (.ref a3)] [(.int (1 : Int32)), (.ref a1)])) st19 ?_
  refine Go.step (T' := T19) (f' := (mkF m 78 #[.val (.ref a1), .val (.ref a2), .val (.ref a3)] [(.int (1 : Int32)), (.int (1 : Int32)), (.ref a1)])) (fun _ k => XS.iconst X19.here hx rfl (hb hby d11_77) k) ?_
  refine Go.step (T' := T19) (f' := (mkF m 79 #[.val (.ref a1), .val (.ref a2), .val (.ref a3)] [(.int (2 : Int32)), (.ref a1)])) (fun _ k => XS.iadd X19.here hx rfl (hb hby d11_78) rfl k) ?_
  have q20 : Exa Z h15 a1 "com/example/tenderbook/tenderbook/Fields" := ((E_a1.wr W7).wr W15)
  obtain ⟨T21, h21, X21, e21, W21, st21⟩ := putF X19 hx hZ hown (host := "") (Or.inl (hw _ (List.mem_of_getElem? (i := 44) rfl))) Via.refl e19 q18 q20 (Or.inl (hw _ (List.mem_of_getElem? (i := 45) rfl))) (hw _ (List.mem_of_getElem? (i := 27) rfl)) (ty := .int) (by decide) rfl rfl (g := (mkF m 79 #[.val (.ref a1), .val (.ref a2), .val (.ref a3)] [(.int (2 : Int32)), (.ref a1)])) rfl rfl (hb hby d11_79)
  have N21 := Fr.snoc X21 N15 g_a1
  have Z22 : n0 ≤ h21.size := Nat.le_trans Z17 (Keep.of_wr W21).1
  have K22 : Keep h0 h21 [a1, n, v] := K17.wr W21 (Or.inl (List.mem_of_getElem? (i := 0) rfl))
  have Fw21 := q18.same W21
  refine Go.step (T' := T21) (f' := (mkF m 82 #[.val (.ref a1), .val (.ref a2), .val (.ref a3)] [])) st21 ?_
  refine goV X21 hx Bd.returns Bd.notSynchronized (hb hby d11_82) ?_ (by decide) (by decide)
  show Q_rmAdd1 Z a1 a2 a3 n v kn kv x0 y0 h0 n0 _ T21.heap _
  rw [e21]
  have q23 : Fld Z h21 a1 "com/example/tenderbook/tenderbook/Fields" "names" "[Ljava/lang/String;" (.ref n) := (((F_names_a1.other W7 (Or.inl (Ne.symm hna))).other W15 (Or.inl (Ne.symm hva))).other W21 (Or.inr (slot_ne (Or.inl (hw _ (List.mem_of_getElem? (i := 36) rfl))) (Or.inl (hw _ (List.mem_of_getElem? (i := 45) rfl))) (by decide) (t := (.array (.object "java/lang/String"))) (t' := .int) (by decide) (by decide))))
  have q24 : Fld Z h21 a1 "com/example/tenderbook/tenderbook/Fields" "values" "[Ljava/lang/String;" (.ref v) := ((q9.other W15 (Or.inl (Ne.symm hva))).other W21 (Or.inr (slot_ne (Or.inl (hw _ (List.mem_of_getElem? (i := 38) rfl))) (Or.inl (hw _ (List.mem_of_getElem? (i := 45) rfl))) (by decide) (t := (.array (.object "java/lang/String"))) (t' := .int) (by decide) (by decide))))
  have q25 : Arv Z h21 n kn (.object "java/lang/String") (8 : Int32) [x0, (.ref a2), .null, .null, .null, .null, .null, .null] .null := ((Va7.other W15 hnv).other W21 hna)
  have q26 : Arv Z h21 v kv (.object "java/lang/String") (8 : Int32) [y0, (.ref a3), .null, .null, .null, .null, .null, .null] .null := (Va15.other W21 hva)
  exact ⟨rfl, N21, K22, q23, q24, Fw21, q25, q26⟩
theorem ef_rmAdd2 (m : MethodId) (a1 : Addr) (a2 : Addr) (a3 : Addr) : entryFrame m #[(.ref a1), (.ref a2), (.ref a3)] 3 = mkF m 0 #[.val (.ref a1), .val (.ref a2), .val (.ref a3)] [] := by first | (simp [entryFrame, mkF, argsToLocals, Value.category]; done) | rfl
def Q_rmAdd2 (Z : State) (a1 : Addr) (a2 : Addr) (a3 : Addr) (n : Addr) (v : Addr) (kn : ClassId) (kv : ClassId) (x0 : Value) (x1 : Value) (y0 : Value) (y1 : Value) (h0 : Heap) (n0 : Nat) (rv : Option Value) (hq : Heap) (Lq : List Loc) : Prop := rv = none ∧ Fr n0 Lq ∧ Keep h0 hq [a1, n, v] ∧ Fld Z hq a1 "com/example/tenderbook/tenderbook/Fields" "names" "[Ljava/lang/String;" (.ref n) ∧ Fld Z hq a1 "com/example/tenderbook/tenderbook/Fields" "values" "[Ljava/lang/String;" (.ref v) ∧ Fld Z hq a1 "com/example/tenderbook/tenderbook/Fields" "size" "I" (.int (3 : Int32)) ∧ Arv Z hq n kn (.object "java/lang/String") (8 : Int32) [x0, x1, (.ref a2), .null, .null, .null, .null, .null] .null ∧ Arv Z hq v kv (.object "java/lang/String") (8 : Int32) [y0, y1, (.ref a3), .null, .null, .null, .null, .null] .null
set_option maxRecDepth 65536 in
set_option maxHeartbeats 40000000 in
theorem rmAdd2 (l : Launch) (Z : State) (a0 : Array Value) (hw : ∀ d ∈ tables_1, d.before a0 Z = true) (ws : List Jvm.Cond) (a1 : Addr) (a2 : Addr) (a3 : Addr) (n : Addr) (v : Addr) (kn : ClassId) (kv : ClassId) (x0 : Value) (x1 : Value) (y0 : Value) (y1 : Value) (h0 : Heap) (n0 : Nat) (Z0 : n0 ≤ h0.size) (E_a1 : Exa Z h0 a1 "com/example/tenderbook/tenderbook/Fields") (E_a2 : Exa Z h0 a2 "java/lang/String") (E_a3 : Exa Z h0 a3 "java/lang/String") (F_names_a1 : Fld Z h0 a1 "com/example/tenderbook/tenderbook/Fields" "names" "[Ljava/lang/String;" (.ref n)) (F_values_a1 : Fld Z h0 a1 "com/example/tenderbook/tenderbook/Fields" "values" "[Ljava/lang/String;" (.ref v)) (F_size_a1 : Fld Z h0 a1 "com/example/tenderbook/tenderbook/Fields" "size" "I" (.int (2 : Int32))) (V_n : Arv Z h0 n kn (.object "java/lang/String") (8 : Int32) [x0, x1, .null, .null, .null, .null, .null, .null] .null) (V_v : Arv Z h0 v kv (.object "java/lang/String") (8 : Int32) [y0, y1, .null, .null, .null, .null, .null, .null] .null) (hna : n ≠ a1) (hva : v ≠ a1) (hnv : n ≠ v) (ovn : Ovr Z kn "java/lang/String") (ovv : Ovr Z kv "java/lang/String") (g_a1 : n0 ≤ a1) (g_n : n0 ≤ n) (g_v : n0 ≤ v) :
    MetFree l (⟨"com/example/tenderbook/tenderbook/Fields", "add", "(Ljava/lang/String;Ljava/lang/String;)V"⟩ : MethodName) (head1 (Jvm.Cond.code (⟨"com/example/tenderbook/tenderbook/Fields", "add", "(Ljava/lang/String;Ljava/lang/String;)V"⟩ : MethodName) prog_8_method_5_code 3 none :: ws) ({ frames := 0, cells := 0, slots := 0, locals := 0 } : Room)) (fun a U => a = #[(.ref a1), (.ref a2), (.ref a3)] ∧ Z.Warmed39 U.vm ∧ U.heap = h0) (fun _ _ _ _ _ => True) (fun _ U o U' => ∃ rv Lq, o = .returned rv ∧ Q_rmAdd2 Z a1 a2 a3 n v kn kv x0 x1 y0 y1 h0 n0 rv U'.heap Lq ∧ FrameEnd U o U' Lq ({ frames := 0, cells := 0, slots := 0, locals := 0 } : Room).cells ({ frames := 0, cells := 0, slots := 0, locals := 0 } : Room).slots) := by
  refine MetFree.of_bodySF (plainFor_of_name pn_6) hisR ?_
  intro p e s m args below meth c s₁ Bd hml0 hP hK
  obtain ⟨rfl, hZ, hh⟩ := hP
  have hx := Bd.exec
  have hby := Bd.bytes
  have hml : c.maxLocals = 3 := hml0
  have hown : s.vm.findClass "com/example/tenderbook/tenderbook/Fields" = some m.cls := findClass_of_methodNamed Bd.named
  have hnm := (name_of_methodNamed Bd.named Bd.method).1
  have X0 : Stand p l e ({ frames := 0, cells := 0, slots := 0, locals := 0 } : Room) s m #[(.ref a1), (.ref a2), (.ref a3)] below meth c s₁ [] 0 0 := Stand.of_body Bd
  have e0 : s₁.heap = h0 := by rw [← hh, Bd.state]; rfl
  have N0 := Fr.nil n0
  refine of_go (ef_rmAdd2 m a1 a2 a3) ?_
  refine Go.step (T' := s₁) (f' := (mkF m 1 #[.val (.ref a1), .val (.ref a2), .val (.ref a3)] [(.ref a1)])) (fun _ k => XS.aloadN X0.here hx rfl (hb hby d11_0) rfl rfl k) ?_
  obtain ⟨T1, X1, e1, st1⟩ := getF X0 hx hZ hown (host := "") (Or.inl (hw _ (List.mem_of_getElem? (i := 44) rfl))) Via.refl e0 F_size_a1 (g := (mkF m 1 #[.val (.ref a1), .val (.ref a2), .val (.ref a3)] [(.ref a1)])) rfl rfl (hb hby d11_1)
  refine Go.step (T' := T1) (f' := (mkF m 4 #[.val (.ref a1), .val (.ref a2), .val (.ref a3)] [(.int (2 : Int32))])) st1 ?_
  refine Go.step (T' := T1) (f' := (mkF m 5 #[.val (.ref a1), .val (.ref a2), .val (.ref a3)] [(.ref a1), (.int (2 : Int32))])) (fun _ k => XS.aloadN X1.here hx rfl (hb hby d11_4) rfl rfl k) ?_
  obtain ⟨T2, X2, e2, st2⟩ := getF X1 hx hZ hown (host := "") (Or.inl (hw _ (List.mem_of_getElem? (i := 35) rfl))) Via.refl e1 F_names_a1 (g := (mkF m 5 #[.val (.ref a1), .val (.ref a2), .val (.ref a3)] [(.ref a1), (.int (2 : Int32))])) rfl rfl (hb hby d11_5)
  refine Go.step (T' := T2) (f' := (mkF m 8 #[.val (.ref a1), .val (.ref a2), .val (.ref a3)] [(.ref n), (.int (2 : Int32))])) st2 ?_
  obtain ⟨cl3, Ar3, qc3, Sz3, Nn3, Hs3, Gf3⟩ := id V_n
  have hl3 := X2.arraylength hx (by rw [e2]; exact Ar3.1) (State.isArrayOf_alike hZ.alike Ar3.2.1) (g := (mkF m 8 #[.val (.ref a1), .val (.ref a2), .val (.ref a3)] [(.ref n), (.int (2 : Int32))])) rfl rfl (hb hby d11_8)
  rw [len_of Sz3 Nn3] at hl3
  refine Go.step (T' := T2) (f' := (mkF m 9 #[.val (.ref a1), .val (.ref a2), .val (.ref a3)] [(.int (8 : Int32)), (.int (2 : Int32))])) (fun _ k => hl3 _ k) ?_
  refine Go.step (T' := T2) (f' := (mkF m 52 #[.val (.ref a1), .val (.ref a2), .val (.ref a3)] [])) (fun _ k => XS.icmpYes X2.here hx rfl (pc0 := 9) (pc' := 52) rfl (hb hby d11_9) rfl (feq (by decide : ¬ ((2 : Int32) = (8 : Int32)))).2 (by decide) (by decide) k) ?_
  refine Go.step (T' := T2) (f' := (mkF m 53 #[.val (.ref a1), .val (.ref a2), .val (.ref a3)] [(.ref a1)])) (fun _ k => XS.aloadN X2.here hx rfl (hb hby d11_52) rfl rfl k) ?_
  obtain ⟨T4, X4, e4, st4⟩ := getF X2 hx hZ hown (host := "") (Or.inl (hw _ (List.mem_of_getElem? (i := 35) rfl))) Via.refl e2 F_names_a1 (g := (mkF m 53 #[.val (.ref a1), .val (.ref a2), .val (.ref a3)] [(.ref a1)])) rfl rfl (hb hby d11_53)
  refine Go.step (T' := T4) (f' := (mkF m 56 #[.val (.ref a1), .val (.ref a2), .val (.ref a3)] [(.ref n)])) st4 ?_
  refine Go.step (T' := T4) (f' := (mkF m 57 #[.val (.ref a1), .val (.ref a2), .val (.ref a3)] [(.ref a1), (.ref n)])) (fun _ k => XS.aloadN X4.here hx rfl (hb hby d11_56) rfl rfl k) ?_
  obtain ⟨T5, X5, e5, st5⟩ := getF X4 hx hZ hown (host := "") (Or.inl (hw _ (List.mem_of_getElem? (i := 44) rfl))) Via.refl e4 F_size_a1 (g := (mkF m 57 #[.val (.ref a1), .val (.ref a2), .val (.ref a3)] [(.ref a1), (.ref n)])) rfl rfl (hb hby d11_57)
  refine Go.step (T' := T5) (f' := (mkF m 60 #[.val (.ref a1), .val (.ref a2), .val (.ref a3)] [(.int (2 : Int32)), (.ref n)])) st5 ?_
  refine Go.step (T' := T5) (f' := (mkF m 61 #[.val (.ref a1), .val (.ref a2), .val (.ref a3)] [(.ref a2), (.int (2 : Int32)), (.ref n)])) (fun _ k => XS.aloadN X5.here hx rfl (hb hby d11_60) rfl rfl k) ?_
  obtain ⟨cl6, Ar6, qc6, Sz6, Nn6, Hs6, Gf6⟩ := id V_n
  have hin7 : ¬ ((2 : Int32) < 0 ∨ cl6.slots.size ≤ ((2 : Int32)).toNatClampNeg) := (inb_of Sz6 ⟨by decide, by decide⟩)
  obtain ⟨T7, h7, X7, e7, W7, st7⟩ := stR X5 hx hZ e5 Ar6 (j := (2 : Int32)) hin7 rfl (Sto.ofV Ar6 qc6 ovn (Ins.self E_a2)) (g := (mkF m 61 #[.val (.ref a1), .val (.ref a2), .val (.ref a3)] [(.ref a2), (.int (2 : Int32)), (.ref n)])) rfl rfl (hb hby d11_61)
  have N7 := Fr.snoc X7 N0 g_n
  have Z8 : n0 ≤ h7.size := Nat.le_trans Z0 (Keep.of_wr W7).1
  have K8 : Keep h0 h7 [a1, n, v] := (Keep.refl h0 [a1, n, v]).wr W7 (Or.inl (List.mem_of_getElem? (i := 1) rfl))
  have Va7 : Arv Z h7 n kn (.object "java/lang/String") (8 : Int32) [x0, x1, (.ref a2), .null, .null, .null, .null, .null] .null := Arv.set Ar6 qc6 Sz6 Nn6 Hs6 Gf6 rfl W7 2 rfl (Nat.le_of_ble_eq_true rfl)
  refine Go.step (T' := T7) (f' := (mkF m 62 #[.val (.ref a1), .val (.ref a2), .val (.ref a3)] [])) st7 ?_
  refine Go.step (T' := T7) (f' := (mkF m 63 #[.val (.ref a1), .val (.ref a2), .val (.ref a3)] [(.ref a1)])) (fun _ k => XS.aloadN X7.here hx rfl (hb hby d11_62) rfl rfl k) ?_
  have q9 : Fld Z h7 a1 "com/example/tenderbook/tenderbook/Fields" "values" "[Ljava/lang/String;" (.ref v) := (F_values_a1.other W7 (Or.inl (Ne.symm hna)))
  obtain ⟨T10, X10, e10, st10⟩ := getF X7 hx hZ hown (host := "") (Or.inl (hw _ (List.mem_of_getElem? (i := 37) rfl))) Via.refl e7 q9 (g := (mkF m 63 #[.val (.ref a1), .val (.ref a2), .val (.ref a3)] [(.ref a1)])) rfl rfl (hb hby d11_63)
  refine Go.step (T' := T10) (f' := (mkF m 66 #[.val (.ref a1), .val (.ref a2), .val (.ref a3)] [(.ref v)])) st10 ?_
  refine Go.step (T' := T10) (f' := (mkF m 67 #[.val (.ref a1), .val (.ref a2), .val (.ref a3)] [(.ref a1), (.ref v)])) (fun _ k => XS.aloadN X10.here hx rfl (hb hby d11_66) rfl rfl k) ?_
  have q11 : Fld Z h7 a1 "com/example/tenderbook/tenderbook/Fields" "size" "I" (.int (2 : Int32)) := (F_size_a1.other W7 (Or.inl (Ne.symm hna)))
  obtain ⟨T12, X12, e12, st12⟩ := getF X10 hx hZ hown (host := "") (Or.inl (hw _ (List.mem_of_getElem? (i := 44) rfl))) Via.refl e10 q11 (g := (mkF m 67 #[.val (.ref a1), .val (.ref a2), .val (.ref a3)] [(.ref a1), (.ref v)])) rfl rfl (hb hby d11_67)
  refine Go.step (T' := T12) (f' := (mkF m 70 #[.val (.ref a1), .val (.ref a2), .val (.ref a3)] [(.int (2 : Int32)), (.ref v)])) st12 ?_
  refine Go.step (T' := T12) (f' := (mkF m 71 #[.val (.ref a1), .val (.ref a2), .val (.ref a3)] [(.ref a3), (.int (2 : Int32)), (.ref v)])) (fun _ k => XS.aloadN X12.here hx rfl (hb hby d11_70) rfl rfl k) ?_
  have q13 : Arv Z h7 v kv (.object "java/lang/String") (8 : Int32) [y0, y1, .null, .null, .null, .null, .null, .null] .null := (V_v.other W7 (Ne.symm hnv))
  obtain ⟨cl14, Ar14, qc14, Sz14, Nn14, Hs14, Gf14⟩ := id q13
  have q16 : Exa Z h7 a3 "java/lang/String" := (E_a3.wr W7)
  have hin15 : ¬ ((2 : Int32) < 0 ∨ cl14.slots.size ≤ ((2 : Int32)).toNatClampNeg) := (inb_of Sz14 ⟨by decide, by decide⟩)
  obtain ⟨T15, h15, X15, e15, W15, st15⟩ := stR X12 hx hZ e12 Ar14 (j := (2 : Int32)) hin15 rfl (Sto.ofV Ar14 qc14 ovv (Ins.self q16)) (g := (mkF m 71 #[.val (.ref a1), .val (.ref a2), .val (.ref a3)] [(.ref a3), (.int (2 : Int32)), (.ref v)])) rfl rfl (hb hby d11_71)
  have N15 := Fr.snoc X15 N7 g_v
  have Z17 : n0 ≤ h15.size := Nat.le_trans Z8 (Keep.of_wr W15).1
  have K17 : Keep h0 h15 [a1, n, v] := K8.wr W15 (Or.inl (List.mem_of_getElem? (i := 2) rfl))
  have Va15 : Arv Z h15 v kv (.object "java/lang/String") (8 : Int32) [y0, y1, (.ref a3), .null, .null, .null, .null, .null] .null := Arv.set Ar14 qc14 Sz14 Nn14 Hs14 Gf14 rfl W15 2 rfl (Nat.le_of_ble_eq_true rfl)
  refine Go.step (T' := T15) (f' := (mkF m 72 #[.val (.ref a1), .val (.ref a2), .val (.ref a3)] [])) st15 ?_
  refine Go.step (T' := T15) (f' := (mkF m 73 #[.val (.ref a1), .val (.ref a2), .val (.ref a3)] [(.ref a1)])) (fun _ k => XS.aloadN X15.here hx rfl (hb hby d11_72) rfl rfl k) ?_
  refine Go.step (T' := T15) (f' := (mkF m 74 #[.val (.ref a1), .val (.ref a2), .val (.ref a3)] [(.ref a1), (.ref a1)])) (fun _ k => XS.dup X15.here hx rfl (hb hby d11_73) rfl rfl k) ?_
  have q18 : Fld Z h15 a1 "com/example/tenderbook/tenderbook/Fields" "size" "I" (.int (2 : Int32)) := (q11.other W15 (Or.inl (Ne.symm hva)))
  obtain ⟨T19, X19, e19, st19⟩ := getF X15 hx hZ hown (host := "") (Or.inl (hw _ (List.mem_of_getElem? (i := 44) rfl))) Via.refl e15 q18 (g := (mkF m 74 #[.val (.ref a1), .val (.ref a2), .val (.ref a3)] [(.ref a1), (.ref a1)])) rfl rfl (hb hby d11_74)
  refine Go.step (T' := T19) (f' := (mkF m 77 #[.val (.ref a1), .val (.ref a2), .val (.ref a3)] [(.int (2 : Int32)), (.ref a1)])) st19 ?_
  refine Go.step (T' := T19) (f' := (mkF m 78 #[.val (.ref a1), .val (.ref a2), .val (.ref a3)] [(.int (1 : Int32)), (.int (2 : Int32)), (.ref a1)])) (fun _ k => XS.iconst X19.here hx rfl (hb hby d11_77) k) ?_
  refine Go.step (T' := T19) (f' := (mkF m 79 #[.val (.ref a1), .val (.ref a2), .val (.ref a3)] [(.int (3 : Int32)), (.ref a1)])) (fun _ k => XS.iadd X19.here hx rfl (hb hby d11_78) rfl k) ?_
  have q20 : Exa Z h15 a1 "com/example/tenderbook/tenderbook/Fields" := ((E_a1.wr W7).wr W15)
  obtain ⟨T21, h21, X21, e21, W21, st21⟩ := putF X19 hx hZ hown (host := "") (Or.inl (hw _ (List.mem_of_getElem? (i := 44) rfl))) Via.refl e19 q18 q20 (Or.inl (hw _ (List.mem_of_getElem? (i := 45) rfl))) (hw _ (List.mem_of_getElem? (i := 27) rfl)) (ty := .int) (by decide) rfl rfl (g := (mkF m 79 #[.val (.ref a1), .val (.ref a2), .val (.ref a3)] [(.int (3 : Int32)), (.ref a1)])) rfl rfl (hb hby d11_79)
  have N21 := Fr.snoc X21 N15 g_a1
  have Z22 : n0 ≤ h21.size := Nat.le_trans Z17 (Keep.of_wr W21).1
  have K22 : Keep h0 h21 [a1, n, v] := K17.wr W21 (Or.inl (List.mem_of_getElem? (i := 0) rfl))
  have Fw21 := q18.same W21
  refine Go.step (T' := T21) (f' := (mkF m 82 #[.val (.ref a1), .val (.ref a2), .val (.ref a3)] [])) st21 ?_
  refine goV X21 hx Bd.returns Bd.notSynchronized (hb hby d11_82) ?_ (by decide) (by decide)
  show Q_rmAdd2 Z a1 a2 a3 n v kn kv x0 x1 y0 y1 h0 n0 _ T21.heap _
  rw [e21]
  have q23 : Fld Z h21 a1 "com/example/tenderbook/tenderbook/Fields" "names" "[Ljava/lang/String;" (.ref n) := (((F_names_a1.other W7 (Or.inl (Ne.symm hna))).other W15 (Or.inl (Ne.symm hva))).other W21 (Or.inr (slot_ne (Or.inl (hw _ (List.mem_of_getElem? (i := 36) rfl))) (Or.inl (hw _ (List.mem_of_getElem? (i := 45) rfl))) (by decide) (t := (.array (.object "java/lang/String"))) (t' := .int) (by decide) (by decide))))
  have q24 : Fld Z h21 a1 "com/example/tenderbook/tenderbook/Fields" "values" "[Ljava/lang/String;" (.ref v) := ((q9.other W15 (Or.inl (Ne.symm hva))).other W21 (Or.inr (slot_ne (Or.inl (hw _ (List.mem_of_getElem? (i := 38) rfl))) (Or.inl (hw _ (List.mem_of_getElem? (i := 45) rfl))) (by decide) (t := (.array (.object "java/lang/String"))) (t' := .int) (by decide) (by decide))))
  have q25 : Arv Z h21 n kn (.object "java/lang/String") (8 : Int32) [x0, x1, (.ref a2), .null, .null, .null, .null, .null] .null := ((Va7.other W15 hnv).other W21 hna)
  have q26 : Arv Z h21 v kv (.object "java/lang/String") (8 : Int32) [y0, y1, (.ref a3), .null, .null, .null, .null, .null] .null := (Va15.other W21 hva)
  exact ⟨rfl, N21, K22, q23, q24, Fw21, q25, q26⟩
theorem d9_0 : decode jdk_65_method_30_code 0 = .ok (.iload_n 1, 1) := by decide +kernel
theorem d9_1 : decode jdk_65_method_30_code 1 = .ok (.iload_n 2, 1) := by decide +kernel
theorem d9_2 : decode jdk_65_method_30_code 2 = .ok (.if_icmp .le 44, 3) := by decide +kernel
theorem d9_46 : decode jdk_65_method_30_code 46 = .ok (.iload_n 1, 1) := by decide +kernel
theorem d9_47 : decode jdk_65_method_30_code 47 = .ok (.ifCond .ge 12, 3) := by decide +kernel
theorem d9_59 : decode jdk_65_method_30_code 59 = .ok (.iload_n 2, 1) := by decide +kernel
theorem d9_60 : decode jdk_65_method_30_code 60 = .ok (.iload_n 0, 1) := by decide +kernel
theorem d9_61 : decode jdk_65_method_30_code 61 = .ok (.if_icmp .le 12, 3) := by decide +kernel
theorem d9_73 : decode jdk_65_method_30_code 73 = .ok (.return_, 1) := by decide +kernel
theorem pn_9 : plainName "java/util/Arrays" = true := by first | (simp [plainName, overriddenIn]; done) | decide +kernel
theorem ef_rmRc0 (m : MethodId)  : entryFrame m #[(.int (8 : Int32)), (.int (0 : Int32)), (.int (0 : Int32))] 3 = mkF m 0 #[.val (.int (8 : Int32)), .val (.int (0 : Int32)), .val (.int (0 : Int32))] [] := by first | (simp [entryFrame, mkF, argsToLocals, Value.category]; done) | rfl
def Q_rmRc0 (Z : State)  (h0 : Heap) (n0 : Nat) (rv : Option Value) (hq : Heap) (Lq : List Loc) : Prop := rv = none ∧ Fr n0 Lq ∧ hq = h0
set_option maxRecDepth 65536 in
set_option maxHeartbeats 40000000 in
theorem rmRc0 (l : Launch) (Z : State) (a0 : Array Value) (hw : ∀ d ∈ tables_1, d.before a0 Z = true) (ws : List Jvm.Cond)  (h0 : Heap) (n0 : Nat) (Z0 : n0 ≤ h0.size) :
    MetFree l (⟨"java/util/Arrays", "rangeCheck", "(III)V"⟩ : MethodName) (head1 (Jvm.Cond.code (⟨"java/util/Arrays", "rangeCheck", "(III)V"⟩ : MethodName) jdk_65_method_30_code 3 none :: ws) ({ frames := 0, cells := 0, slots := 0, locals := 0 } : Room)) (fun a U => a = #[(.int (8 : Int32)), (.int (0 : Int32)), (.int (0 : Int32))] ∧ Z.Warmed39 U.vm ∧ U.heap = h0) (fun _ _ _ _ _ => True) (fun _ U o U' => ∃ rv Lq, o = .returned rv ∧ Q_rmRc0 Z  h0 n0 rv U'.heap Lq ∧ FrameEnd U o U' Lq ({ frames := 0, cells := 0, slots := 0, locals := 0 } : Room).cells ({ frames := 0, cells := 0, slots := 0, locals := 0 } : Room).slots) := by
  refine MetFree.of_bodySF (plainFor_of_name pn_9) hisR ?_
  intro p e s m args below meth c s₁ Bd hml0 hP hK
  obtain ⟨rfl, hZ, hh⟩ := hP
  have hx := Bd.exec
  have hby := Bd.bytes
  have hml : c.maxLocals = 3 := hml0
  have hown : s.vm.findClass "java/util/Arrays" = some m.cls := findClass_of_methodNamed Bd.named
  have hnm := (name_of_methodNamed Bd.named Bd.method).1
  have X0 : Stand p l e ({ frames := 0, cells := 0, slots := 0, locals := 0 } : Room) s m #[(.int (8 : Int32)), (.int (0 : Int32)), (.int (0 : Int32))] below meth c s₁ [] 0 0 := Stand.of_body Bd
  have e0 : s₁.heap = h0 := by rw [← hh, Bd.state]; rfl
  have N0 := Fr.nil n0
  refine of_go (ef_rmRc0 m ) ?_
  refine Go.step (T' := s₁) (f' := (mkF m 1 #[.val (.int (8 : Int32)), .val (.int (0 : Int32)), .val (.int (0 : Int32))] [(.int (0 : Int32))])) (fun _ k => XS.iloadN X0.here hx rfl (hb hby d9_0) rfl k) ?_
  refine Go.step (T' := s₁) (f' := (mkF m 2 #[.val (.int (8 : Int32)), .val (.int (0 : Int32)), .val (.int (0 : Int32))] [(.int (0 : Int32)), (.int (0 : Int32))])) (fun _ k => XS.iloadN X0.here hx rfl (hb hby d9_1) rfl k) ?_
  refine Go.step (T' := s₁) (f' := (mkF m 46 #[.val (.int (8 : Int32)), .val (.int (0 : Int32)), .val (.int (0 : Int32))] [])) (fun _ k => XS.icmpYes X0.here hx rfl (pc0 := 2) (pc' := 46) rfl (hb hby d9_2) rfl (flt (by decide : ¬ ((0 : Int32) < (0 : Int32)))).2.2.2 (by decide) (by decide) k) ?_
  refine Go.step (T' := s₁) (f' := (mkF m 47 #[.val (.int (8 : Int32)), .val (.int (0 : Int32)), .val (.int (0 : Int32))] [(.int (0 : Int32))])) (fun _ k => XS.iloadN X0.here hx rfl (hb hby d9_46) rfl k) ?_
  refine Go.step (T' := s₁) (f' := (mkF m 59 #[.val (.int (8 : Int32)), .val (.int (0 : Int32)), .val (.int (0 : Int32))] [])) (fun _ k => XS.ifYes X0.here hx rfl (pc0 := 47) (pc' := 59) rfl (hb hby d9_47) rfl ((if0 _ _).trans (flt (by decide : ¬ ((0 : Int32) < (0 : Int32)))).2.1) (by decide) (by decide) k) ?_
  refine Go.step (T' := s₁) (f' := (mkF m 60 #[.val (.int (8 : Int32)), .val (.int (0 : Int32)), .val (.int (0 : Int32))] [(.int (0 : Int32))])) (fun _ k => XS.iloadN X0.here hx rfl (hb hby d9_59) rfl k) ?_
  refine Go.step (T' := s₁) (f' := (mkF m 61 #[.val (.int (8 : Int32)), .val (.int (0 : Int32)), .val (.int (0 : Int32))] [(.int (8 : Int32)), (.int (0 : Int32))])) (fun _ k => XS.iloadN X0.here hx rfl (hb hby d9_60) rfl k) ?_
  refine Go.step (T' := s₁) (f' := (mkF m 73 #[.val (.int (8 : Int32)), .val (.int (0 : Int32)), .val (.int (0 : Int32))] [])) (fun _ k => XS.icmpYes X0.here hx rfl (pc0 := 61) (pc' := 73) rfl (hb hby d9_61) rfl (flt (by decide : ¬ ((8 : Int32) < (0 : Int32)))).2.2.2 (by decide) (by decide) k) ?_
  refine goV X0 hx Bd.returns Bd.notSynchronized (hb hby d9_73) ?_ (by decide) (by decide)
  show Q_rmRc0 Z  h0 n0 _ s₁.heap _
  rw [e0]
  exact ⟨rfl, N0, rfl⟩
theorem d8_0 : decode jdk_65_method_118_code 0 = .ok (.aload_n 0, 1) := by decide +kernel
theorem d8_1 : decode jdk_65_method_118_code 1 = .ok (.arraylength, 1) := by decide +kernel
theorem d8_2 : decode jdk_65_method_118_code 2 = .ok (.iload_n 1, 1) := by decide +kernel
theorem d8_3 : decode jdk_65_method_118_code 3 = .ok (.iload_n 2, 1) := by decide +kernel
theorem d8_4 : decode jdk_65_method_118_code 4 = .ok (.invokestatic 13, 3) := by decide +kernel
theorem pd_3 : parseMethodDescriptor "(III)V" = some ⟨[.int, .int, .int], none⟩ := by decide +kernel
theorem d8_7 : decode jdk_65_method_118_code 7 = .ok (.iload_n 1, 1) := by decide +kernel
theorem d8_8 : decode jdk_65_method_118_code 8 = .ok (.istore 4, 2) := by decide +kernel
theorem d8_10 : decode jdk_65_method_118_code 10 = .ok (.iload 4, 2) := by decide +kernel
theorem d8_12 : decode jdk_65_method_118_code 12 = .ok (.iload_n 2, 1) := by decide +kernel
theorem d8_13 : decode jdk_65_method_118_code 13 = .ok (.if_icmp .ge 14, 3) := by decide +kernel
theorem d8_27 : decode jdk_65_method_118_code 27 = .ok (.return_, 1) := by decide +kernel
theorem ef_rmFl0 (m : MethodId) (a1 : Addr) : entryFrame m #[(.ref a1), (.int (0 : Int32)), (.int (0 : Int32)), .null] 5 = mkF m 0 #[.val (.ref a1), .val (.int (0 : Int32)), .val (.int (0 : Int32)), .val .null, .unset] [] := by first | (simp [entryFrame, mkF, argsToLocals, Value.category]; done) | rfl
def Q_rmFl0 (Z : State) (a1 : Addr) (kn : ClassId) (h0 : Heap) (n0 : Nat) (rv : Option Value) (hq : Heap) (Lq : List Loc) : Prop := rv = none ∧ Fr n0 Lq ∧ Keep h0 hq [a1] ∧ Arv Z hq a1 kn (.object "java/lang/String") (8 : Int32) [.null, .null, .null, .null, .null, .null, .null, .null] .null
set_option maxRecDepth 65536 in
set_option maxHeartbeats 40000000 in
theorem rmFl0 (l : Launch) (Z : State) (a0 : Array Value) (hw : ∀ d ∈ tables_1, d.before a0 Z = true) (ws : List Jvm.Cond) (a1 : Addr) (kn : ClassId) (h0 : Heap) (n0 : Nat) (Z0 : n0 ≤ h0.size) (V_a1 : Arv Z h0 a1 kn (.object "java/lang/String") (8 : Int32) [.null, .null, .null, .null, .null, .null, .null, .null] .null) (g_a1 : n0 ≤ a1) :
    MetFree l (⟨"java/util/Arrays", "fill", "([Ljava/lang/Object;IILjava/lang/Object;)V"⟩ : MethodName) (head1 (Jvm.Cond.code (⟨"java/util/Arrays", "fill", "([Ljava/lang/Object;IILjava/lang/Object;)V"⟩ : MethodName) jdk_65_method_118_code 5 none :: ws) ({ frames := 1, cells := 0, slots := 0, locals := 14 } : Room)) (fun a U => a = #[(.ref a1), (.int (0 : Int32)), (.int (0 : Int32)), .null] ∧ Z.Warmed39 U.vm ∧ U.heap = h0) (fun _ _ _ _ _ => True) (fun _ U o U' => ∃ rv Lq, o = .returned rv ∧ Q_rmFl0 Z a1 kn h0 n0 rv U'.heap Lq ∧ FrameEnd U o U' Lq ({ frames := 1, cells := 0, slots := 0, locals := 14 } : Room).cells ({ frames := 1, cells := 0, slots := 0, locals := 14 } : Room).slots) := by
  refine MetFree.of_bodySF (plainFor_of_name pn_9) hisR ?_
  intro p e s m args below meth c s₁ Bd hml0 hP hK
  obtain ⟨rfl, hZ, hh⟩ := hP
  have hx := Bd.exec
  have hby := Bd.bytes
  have hml : c.maxLocals = 5 := hml0
  have hown : s.vm.findClass "java/util/Arrays" = some m.cls := findClass_of_methodNamed Bd.named
  have hnm := (name_of_methodNamed Bd.named Bd.method).1
  have X0 : Stand p l e ({ frames := 1, cells := 0, slots := 0, locals := 14 } : Room) s m #[(.ref a1), (.int (0 : Int32)), (.int (0 : Int32)), .null] below meth c s₁ [] 0 0 := Stand.of_body Bd
  have e0 : s₁.heap = h0 := by rw [← hh, Bd.state]; rfl
  have N0 := Fr.nil n0
  refine of_go (ef_rmFl0 m a1) ?_
  refine Go.step (T' := s₁) (f' := (mkF m 1 #[.val (.ref a1), .val (.int (0 : Int32)), .val (.int (0 : Int32)), .val .null, .unset] [(.ref a1)])) (fun _ k => XS.aloadN X0.here hx rfl (hb hby d8_0) rfl rfl k) ?_
  obtain ⟨cl1, Ar1, qc1, Sz1, Nn1, Hs1, Gf1⟩ := id V_a1
  have hl1 := X0.arraylength hx (by rw [e0]; exact Ar1.1) (State.isArrayOf_alike hZ.alike Ar1.2.1) (g := (mkF m 1 #[.val (.ref a1), .val (.int (0 : Int32)), .val (.int (0 : Int32)), .val .null, .unset] [(.ref a1)])) rfl rfl (hb hby d8_1)
  rw [len_of Sz1 Nn1] at hl1
  refine Go.step (T' := s₁) (f' := (mkF m 2 #[.val (.ref a1), .val (.int (0 : Int32)), .val (.int (0 : Int32)), .val .null, .unset] [(.int (8 : Int32))])) (fun _ k => hl1 _ k) ?_
  refine Go.step (T' := s₁) (f' := (mkF m 3 #[.val (.ref a1), .val (.int (0 : Int32)), .val (.int (0 : Int32)), .val .null, .unset] [(.int (0 : Int32)), (.int (8 : Int32))])) (fun _ k => XS.iloadN X0.here hx rfl (hb hby d8_2) rfl k) ?_
  refine Go.step (T' := s₁) (f' := (mkF m 4 #[.val (.ref a1), .val (.int (0 : Int32)), .val (.int (0 : Int32)), .val .null, .unset] [(.int (0 : Int32)), (.int (0 : Int32)), (.int (8 : Int32))])) (fun _ k => XS.iloadN X0.here hx rfl (hb hby d8_3) rfl k) ?_
  obtain ⟨_, _, ⟨T2, L2, k2, n2⟩, -, X2, ⟨Lc2, hQ2, l2, y2, z2⟩, st2⟩ := Jvm.LawKit.callS X0 hx (y := (⟨"java/util/Arrays", "rangeCheck", "(III)V"⟩ : MethodName)) hown (mvT hZ (hw _ (List.mem_of_getElem? (i := 50) rfl))) (mvT hZ (hw _ (List.mem_of_getElem? (i := 51) rfl))) (mvT hZ (hw _ (List.mem_of_getElem? (i := 48) rfl))) (mvT hZ (hw _ (List.mem_of_getElem? (i := 52) rfl))) (by decide) (backOf (W := 0) (rmRc0 l Z a0 hw []  h0 n0 Z0 ) hZ (hw _ (List.mem_of_getElem? (i := 52) rfl)) (hw _ (List.mem_of_getElem? (i := 48) rfl)) (by decide) (by decide)) (g := (mkF m 4 #[.val (.ref a1), .val (.int (0 : Int32)), .val (.int (0 : Int32)), .val .null, .unset] [(.int (0 : Int32)), (.int (0 : Int32)), (.int (8 : Int32))])) rfl (by rw [hml]; rfl) (argsL := [(.int (8 : Int32)), (.int (0 : Int32)), (.int (0 : Int32))]) (rest := []) (lenOf pd_3 rfl) rfl (by show 2 * 0 + _ ≤ _; exact Nat.le_of_eq rfl) (hb hby d8_4) (fun _ _ => ⟨rfl, e0, (by decide : 0 + 0 ≤ _), (by decide : 0 + 0 ≤ _)⟩)
  dsimp only [Pt.U, Pt.locs, Pt.cells, Pt.slots] at X2 l2 y2 z2 st2 hQ2
  subst l2 y2 z2
  obtain ⟨rfl, Nq2, eh2⟩ := hQ2
  have N2 := Fr.app N0 Nq2
  refine Go.step (T' := T2) (f' := (mkF m 7 #[.val (.ref a1), .val (.int (0 : Int32)), .val (.int (0 : Int32)), .val .null, .unset] [])) st2 ?_
  refine Go.step (T' := T2) (f' := (mkF m 8 #[.val (.ref a1), .val (.int (0 : Int32)), .val (.int (0 : Int32)), .val .null, .unset] [(.int (0 : Int32))])) (fun _ k => XS.iloadN X2.here hx rfl (hb hby d8_7) rfl k) ?_
  refine Go.step (T' := T2) (f' := (mkF m 10 #[.val (.ref a1), .val (.int (0 : Int32)), .val (.int (0 : Int32)), .val .null, .val (.int (0 : Int32))] [])) (fun _ k => XS.istore X2.here hx rfl (hb hby d8_8) rfl (l' := #[.val (.ref a1), .val (.int (0 : Int32)), .val (.int (0 : Int32)), .val .null, .val (.int (0 : Int32))]) rfl k) ?_
  refine Go.step (T' := T2) (f' := (mkF m 12 #[.val (.ref a1), .val (.int (0 : Int32)), .val (.int (0 : Int32)), .val .null, .val (.int (0 : Int32))] [(.int (0 : Int32))])) (fun _ k => XS.iload X2.here hx rfl (hb hby d8_10) rfl k) ?_
  refine Go.step (T' := T2) (f' := (mkF m 13 #[.val (.ref a1), .val (.int (0 : Int32)), .val (.int (0 : Int32)), .val .null, .val (.int (0 : Int32))] [(.int (0 : Int32)), (.int (0 : Int32))])) (fun _ k => XS.iloadN X2.here hx rfl (hb hby d8_12) rfl k) ?_
  refine Go.step (T' := T2) (f' := (mkF m 27 #[.val (.ref a1), .val (.int (0 : Int32)), .val (.int (0 : Int32)), .val .null, .val (.int (0 : Int32))] [])) (fun _ k => XS.icmpYes X2.here hx rfl (pc0 := 13) (pc' := 27) rfl (hb hby d8_13) rfl (flt (by decide : ¬ ((0 : Int32) < (0 : Int32)))).2.1 (by decide) (by decide) k) ?_
  refine goV X2 hx Bd.returns Bd.notSynchronized (hb hby d8_27) ?_ (by decide) (by decide)
  show Q_rmFl0 Z a1 kn h0 n0 _ T2.heap _
  rw [eh2]
  exact ⟨rfl, N2, (Keep.refl h0 [a1]), V_a1⟩
theorem d7_0 : decode prog_8_method_11_code 0 = .ok (.aload_n 0, 1) := by decide +kernel
theorem d7_1 : decode prog_8_method_11_code 1 = .ok (.getfield 9, 3) := by decide +kernel
theorem d7_4 : decode prog_8_method_11_code 4 = .ok (.iconst 0, 1) := by decide +kernel
theorem d7_5 : decode prog_8_method_11_code 5 = .ok (.aload_n 0, 1) := by decide +kernel
theorem d7_6 : decode prog_8_method_11_code 6 = .ok (.getfield 18, 3) := by decide +kernel
theorem d7_9 : decode prog_8_method_11_code 9 = .ok (.aconst_null, 1) := by decide +kernel
theorem d7_10 : decode prog_8_method_11_code 10 = .ok (.invokestatic 53, 3) := by decide +kernel
theorem pd_4 : parseMethodDescriptor "([Ljava/lang/Object;IILjava/lang/Object;)V" = some ⟨[(.array (.object "java/lang/Object")), .int, .int, (.object "java/lang/Object")], none⟩ := by decide +kernel
theorem d7_13 : decode prog_8_method_11_code 13 = .ok (.aload_n 0, 1) := by decide +kernel
theorem d7_14 : decode prog_8_method_11_code 14 = .ok (.getfield 15, 3) := by decide +kernel
theorem d7_17 : decode prog_8_method_11_code 17 = .ok (.iconst 0, 1) := by decide +kernel
theorem d7_18 : decode prog_8_method_11_code 18 = .ok (.aload_n 0, 1) := by decide +kernel
theorem d7_19 : decode prog_8_method_11_code 19 = .ok (.getfield 18, 3) := by decide +kernel
theorem d7_22 : decode prog_8_method_11_code 22 = .ok (.aconst_null, 1) := by decide +kernel
theorem d7_23 : decode prog_8_method_11_code 23 = .ok (.invokestatic 53, 3) := by decide +kernel
theorem d7_26 : decode prog_8_method_11_code 26 = .ok (.aload_n 0, 1) := by decide +kernel
theorem d7_27 : decode prog_8_method_11_code 27 = .ok (.iconst 0, 1) := by decide +kernel
theorem d7_28 : decode prog_8_method_11_code 28 = .ok (.putfield 18, 3) := by decide +kernel
theorem d7_31 : decode prog_8_method_11_code 31 = .ok (.return_, 1) := by decide +kernel
theorem ef_rmClr0 (m : MethodId) (a1 : Addr) : entryFrame m #[(.ref a1)] 1 = mkF m 0 #[.val (.ref a1)] [] := by first | (simp [entryFrame, mkF, argsToLocals, Value.category]; done) | rfl
def Q_rmClr0 (Z : State) (a1 : Addr) (n : Addr) (v : Addr) (kn : ClassId) (kv : ClassId) (h0 : Heap) (n0 : Nat) (rv : Option Value) (hq : Heap) (Lq : List Loc) : Prop := rv = none ∧ Fr n0 Lq ∧ Keep h0 hq [a1, n, v] ∧ Fld Z hq a1 "com/example/tenderbook/tenderbook/Fields" "names" "[Ljava/lang/String;" (.ref n) ∧ Fld Z hq a1 "com/example/tenderbook/tenderbook/Fields" "values" "[Ljava/lang/String;" (.ref v) ∧ Fld Z hq a1 "com/example/tenderbook/tenderbook/Fields" "size" "I" (.int (0 : Int32)) ∧ Arv Z hq n kn (.object "java/lang/String") (8 : Int32) [.null, .null, .null, .null, .null, .null, .null, .null] .null ∧ Arv Z hq v kv (.object "java/lang/String") (8 : Int32) [.null, .null, .null, .null, .null, .null, .null, .null] .null
set_option maxRecDepth 65536 in
set_option maxHeartbeats 40000000 in
theorem rmClr0 (l : Launch) (Z : State) (a0 : Array Value) (hw : ∀ d ∈ tables_1, d.before a0 Z = true) (ws : List Jvm.Cond) (a1 : Addr) (n : Addr) (v : Addr) (kn : ClassId) (kv : ClassId) (h0 : Heap) (n0 : Nat) (Z0 : n0 ≤ h0.size) (E_a1 : Exa Z h0 a1 "com/example/tenderbook/tenderbook/Fields") (F_names_a1 : Fld Z h0 a1 "com/example/tenderbook/tenderbook/Fields" "names" "[Ljava/lang/String;" (.ref n)) (F_values_a1 : Fld Z h0 a1 "com/example/tenderbook/tenderbook/Fields" "values" "[Ljava/lang/String;" (.ref v)) (F_size_a1 : Fld Z h0 a1 "com/example/tenderbook/tenderbook/Fields" "size" "I" (.int (0 : Int32))) (V_n : Arv Z h0 n kn (.object "java/lang/String") (8 : Int32) [.null, .null, .null, .null, .null, .null, .null, .null] .null) (V_v : Arv Z h0 v kv (.object "java/lang/String") (8 : Int32) [.null, .null, .null, .null, .null, .null, .null, .null] .null) (hna : n ≠ a1) (hva : v ≠ a1) (hnv : n ≠ v) (g_a1 : n0 ≤ a1) (g_n : n0 ≤ n) (g_v : n0 ≤ v) :
    MetFree l (⟨"com/example/tenderbook/tenderbook/Fields", "clear", "()V"⟩ : MethodName) (head1 (Jvm.Cond.code (⟨"com/example/tenderbook/tenderbook/Fields", "clear", "()V"⟩ : MethodName) prog_8_method_11_code 1 none :: ws) ({ frames := 2, cells := 0, slots := 0, locals := 30 } : Room)) (fun a U => a = #[(.ref a1)] ∧ Z.Warmed39 U.vm ∧ U.heap = h0) (fun _ _ _ _ _ => True) (fun _ U o U' => ∃ rv Lq, o = .returned rv ∧ Q_rmClr0 Z a1 n v kn kv h0 n0 rv U'.heap Lq ∧ FrameEnd U o U' Lq ({ frames := 2, cells := 0, slots := 0, locals := 30 } : Room).cells ({ frames := 2, cells := 0, slots := 0, locals := 30 } : Room).slots) := by
  refine MetFree.of_bodySF (plainFor_of_name pn_6) hisR ?_
  intro p e s m args below meth c s₁ Bd hml0 hP hK
  obtain ⟨rfl, hZ, hh⟩ := hP
  have hx := Bd.exec
  have hby := Bd.bytes
  have hml : c.maxLocals = 1 := hml0
  have hown : s.vm.findClass "com/example/tenderbook/tenderbook/Fields" = some m.cls := findClass_of_methodNamed Bd.named
  have hnm := (name_of_methodNamed Bd.named Bd.method).1
  have X0 : Stand p l e ({ frames := 2, cells := 0, slots := 0, locals := 30 } : Room) s m #[(.ref a1)] below meth c s₁ [] 0 0 := Stand.of_body Bd
  have e0 : s₁.heap = h0 := by rw [← hh, Bd.state]; rfl
  have N0 := Fr.nil n0
  refine of_go (ef_rmClr0 m a1) ?_
  refine Go.step (T' := s₁) (f' := (mkF m 1 #[.val (.ref a1)] [(.ref a1)])) (fun _ k => XS.aloadN X0.here hx rfl (hb hby d7_0) rfl rfl k) ?_
  obtain ⟨T1, X1, e1, st1⟩ := getF X0 hx hZ hown (host := "") (Or.inl (hw _ (List.mem_of_getElem? (i := 35) rfl))) Via.refl e0 F_names_a1 (g := (mkF m 1 #[.val (.ref a1)] [(.ref a1)])) rfl rfl (hb hby d7_1)
  refine Go.step (T' := T1) (f' := (mkF m 4 #[.val (.ref a1)] [(.ref n)])) st1 ?_
  refine Go.step (T' := T1) (f' := (mkF m 5 #[.val (.ref a1)] [(.int (0 : Int32)), (.ref n)])) (fun _ k => XS.iconst X1.here hx rfl (hb hby d7_4) k) ?_
  refine Go.step (T' := T1) (f' := (mkF m 6 #[.val (.ref a1)] [(.ref a1), (.int (0 : Int32)), (.ref n)])) (fun _ k => XS.aloadN X1.here hx rfl (hb hby d7_5) rfl rfl k) ?_
  obtain ⟨T2, X2, e2, st2⟩ := getF X1 hx hZ hown (host := "") (Or.inl (hw _ (List.mem_of_getElem? (i := 44) rfl))) Via.refl e1 F_size_a1 (g := (mkF m 6 #[.val (.ref a1)] [(.ref a1), (.int (0 : Int32)), (.ref n)])) rfl rfl (hb hby d7_6)
  refine Go.step (T' := T2) (f' := (mkF m 9 #[.val (.ref a1)] [(.int (0 : Int32)), (.int (0 : Int32)), (.ref n)])) st2 ?_
  refine Go.step (T' := T2) (f' := (mkF m 10 #[.val (.ref a1)] [.null, (.int (0 : Int32)), (.int (0 : Int32)), (.ref n)])) (fun _ k => XS.aconstNull X2.here hx rfl (hb hby d7_9) k) ?_
  obtain ⟨_, _, ⟨T3, L3, k3, n3⟩, -, X3, ⟨Lc3, hQ3, l3, y3, z3⟩, st3⟩ := Jvm.LawKit.callS X2 hx (y := (⟨"java/util/Arrays", "fill", "([Ljava/lang/Object;IILjava/lang/Object;)V"⟩ : MethodName)) hown (mvT hZ (hw _ (List.mem_of_getElem? (i := 46) rfl))) (mvT hZ (hw _ (List.mem_of_getElem? (i := 47) rfl))) (mvT hZ (hw _ (List.mem_of_getElem? (i := 48) rfl))) (mvT hZ (hw _ (List.mem_of_getElem? (i := 49) rfl))) (by decide) (backOf (W := 0) (rmFl0 l Z a0 hw [] n kn h0 n0 Z0 V_n g_n) hZ (hw _ (List.mem_of_getElem? (i := 49) rfl)) (hw _ (List.mem_of_getElem? (i := 48) rfl)) (by decide) (by decide)) (g := (mkF m 10 #[.val (.ref a1)] [.null, (.int (0 : Int32)), (.int (0 : Int32)), (.ref n)])) rfl (by rw [hml]; rfl) (argsL := [(.ref n), (.int (0 : Int32)), (.int (0 : Int32)), .null]) (rest := []) (lenOf pd_4 rfl) rfl (by show 2 * 0 + _ ≤ _; exact Nat.le_of_eq rfl) (hb hby d7_10) (fun _ _ => ⟨rfl, e2, (by decide : 0 + 0 ≤ _), (by decide : 0 + 0 ≤ _)⟩)
  dsimp only [Pt.U, Pt.locs, Pt.cells, Pt.slots] at X3 l3 y3 z3 st3 hQ3
  subst l3 y3 z3
  obtain ⟨rfl, Nq3, Kq3, r3_0⟩ := hQ3
  have N3 := Fr.app N0 Nq3
  have Z4 : n0 ≤ T3.heap.size := Nat.le_trans Z0 Kq3.1
  have K4 : Keep h0 T3.heap [a1, n, v] := (Keep.refl h0 [a1, n, v]).trans Kq3 (allS (Or.inl (List.mem_of_getElem? (i := 1) rfl)) all0)
  refine Go.step (T' := T3) (f' := (mkF m 13 #[.val (.ref a1)] [])) st3 ?_
  refine Go.step (T' := T3) (f' := (mkF m 14 #[.val (.ref a1)] [(.ref a1)])) (fun _ k => XS.aloadN X3.here hx rfl (hb hby d7_13) rfl rfl k) ?_
  have q5 : Fld Z T3.heap a1 "com/example/tenderbook/tenderbook/Fields" "values" "[Ljava/lang/String;" (.ref v) := (F_values_a1.keep Kq3 (ninS (Ne.symm hna) nin0))
  obtain ⟨T6, X6, e6, st6⟩ := getF X3 hx hZ hown (host := "") (Or.inl (hw _ (List.mem_of_getElem? (i := 37) rfl))) Via.refl rfl q5 (g := (mkF m 14 #[.val (.ref a1)] [(.ref a1)])) rfl rfl (hb hby d7_14)
  refine Go.step (T' := T6) (f' := (mkF m 17 #[.val (.ref a1)] [(.ref v)])) st6 ?_
  refine Go.step (T' := T6) (f' := (mkF m 18 #[.val (.ref a1)] [(.int (0 : Int32)), (.ref v)])) (fun _ k => XS.iconst X6.here hx rfl (hb hby d7_17) k) ?_
  refine Go.step (T' := T6) (f' := (mkF m 19 #[.val (.ref a1)] [(.ref a1), (.int (0 : Int32)), (.ref v)])) (fun _ k => XS.aloadN X6.here hx rfl (hb hby d7_18) rfl rfl k) ?_
  have q7 : Fld Z T3.heap a1 "com/example/tenderbook/tenderbook/Fields" "size" "I" (.int (0 : Int32)) := (F_size_a1.keep Kq3 (ninS (Ne.symm hna) nin0))
  obtain ⟨T8, X8, e8, st8⟩ := getF X6 hx hZ hown (host := "") (Or.inl (hw _ (List.mem_of_getElem? (i := 44) rfl))) Via.refl e6 q7 (g := (mkF m 19 #[.val (.ref a1)] [(.ref a1), (.int (0 : Int32)), (.ref v)])) rfl rfl (hb hby d7_19)
  refine Go.step (T' := T8) (f' := (mkF m 22 #[.val (.ref a1)] [(.int (0 : Int32)), (.int (0 : Int32)), (.ref v)])) st8 ?_
  refine Go.step (T' := T8) (f' := (mkF m 23 #[.val (.ref a1)] [.null, (.int (0 : Int32)), (.int (0 : Int32)), (.ref v)])) (fun _ k => XS.aconstNull X8.here hx rfl (hb hby d7_22) k) ?_
  have q10 : Arv Z T3.heap v kv (.object "java/lang/String") (8 : Int32) [.null, .null, .null, .null, .null, .null, .null, .null] .null := (V_v.keep Kq3 (ninS (Ne.symm hnv) nin0))
  obtain ⟨_, _, ⟨T9, L9, k9, n9⟩, -, X9, ⟨Lc9, hQ9, l9, y9, z9⟩, st9⟩ := Jvm.LawKit.callS X8 hx (y := (⟨"java/util/Arrays", "fill", "([Ljava/lang/Object;IILjava/lang/Object;)V"⟩ : MethodName)) hown (mvT hZ (hw _ (List.mem_of_getElem? (i := 46) rfl))) (mvT hZ (hw _ (List.mem_of_getElem? (i := 47) rfl))) (mvT hZ (hw _ (List.mem_of_getElem? (i := 48) rfl))) (mvT hZ (hw _ (List.mem_of_getElem? (i := 49) rfl))) (by decide) (backOf (W := 0) (rmFl0 l Z a0 hw [] v kv T3.heap n0 Z4 q10 g_v) hZ (hw _ (List.mem_of_getElem? (i := 49) rfl)) (hw _ (List.mem_of_getElem? (i := 48) rfl)) (by decide) (by decide)) (g := (mkF m 23 #[.val (.ref a1)] [.null, (.int (0 : Int32)), (.int (0 : Int32)), (.ref v)])) rfl (by rw [hml]; rfl) (argsL := [(.ref v), (.int (0 : Int32)), (.int (0 : Int32)), .null]) (rest := []) (lenOf pd_4 rfl) rfl (by show 2 * 0 + _ ≤ _; exact Nat.le_of_eq rfl) (hb hby d7_23) (fun _ _ => ⟨rfl, e8, (by decide : 0 + 0 ≤ _), (by decide : 0 + 0 ≤ _)⟩)
  dsimp only [Pt.U, Pt.locs, Pt.cells, Pt.slots] at X9 l9 y9 z9 st9 hQ9
  subst l9 y9 z9
  obtain ⟨rfl, Nq9, Kq9, r9_0⟩ := hQ9
  have N9 := Fr.app N3 Nq9
  have Z11 : n0 ≤ T9.heap.size := Nat.le_trans Z4 Kq9.1
  have K11 : Keep h0 T9.heap [a1, n, v] := K4.trans Kq9 (allS (Or.inl (List.mem_of_getElem? (i := 2) rfl)) all0)
  refine Go.step (T' := T9) (f' := (mkF m 26 #[.val (.ref a1)] [])) st9 ?_
  refine Go.step (T' := T9) (f' := (mkF m 27 #[.val (.ref a1)] [(.ref a1)])) (fun _ k => XS.aloadN X9.here hx rfl (hb hby d7_26) rfl rfl k) ?_
  refine Go.step (T' := T9) (f' := (mkF m 28 #[.val (.ref a1)] [(.int (0 : Int32)), (.ref a1)])) (fun _ k => XS.iconst X9.here hx rfl (hb hby d7_27) k) ?_
  have q12 : Fld Z T9.heap a1 "com/example/tenderbook/tenderbook/Fields" "size" "I" (.int (0 : Int32)) := (q7.keep Kq9 (ninS (Ne.symm hva) nin0))
  have q13 : Exa Z T9.heap a1 "com/example/tenderbook/tenderbook/Fields" := ((E_a1.keep Kq3).keep Kq9)
  obtain ⟨T14, h14, X14, e14, W14, st14⟩ := putF X9 hx hZ hown (host := "") (Or.inl (hw _ (List.mem_of_getElem? (i := 44) rfl))) Via.refl rfl q12 q13 (Or.inl (hw _ (List.mem_of_getElem? (i := 45) rfl))) (hw _ (List.mem_of_getElem? (i := 27) rfl)) (ty := .int) (by decide) rfl rfl (g := (mkF m 28 #[.val (.ref a1)] [(.int (0 : Int32)), (.ref a1)])) rfl rfl (hb hby d7_28)
  have N14 := Fr.snoc X14 N9 g_a1
  have Z15 : n0 ≤ h14.size := Nat.le_trans Z11 (Keep.of_wr W14).1
  have K15 : Keep h0 h14 [a1, n, v] := K11.wr W14 (Or.inl (List.mem_of_getElem? (i := 0) rfl))
  have Fw14 := q12.same W14
  refine Go.step (T' := T14) (f' := (mkF m 31 #[.val (.ref a1)] [])) st14 ?_
  refine goV X14 hx Bd.returns Bd.notSynchronized (hb hby d7_31) ?_ (by decide) (by decide)
  show Q_rmClr0 Z a1 n v kn kv h0 n0 _ T14.heap _
  rw [e14]
  have q16 : Fld Z h14 a1 "com/example/tenderbook/tenderbook/Fields" "names" "[Ljava/lang/String;" (.ref n) := (((F_names_a1.keep Kq3 (ninS (Ne.symm hna) nin0)).keep Kq9 (ninS (Ne.symm hva) nin0)).other W14 (Or.inr (slot_ne (Or.inl (hw _ (List.mem_of_getElem? (i := 36) rfl))) (Or.inl (hw _ (List.mem_of_getElem? (i := 45) rfl))) (by decide) (t := (.array (.object "java/lang/String"))) (t' := .int) (by decide) (by decide))))
  have q17 : Fld Z h14 a1 "com/example/tenderbook/tenderbook/Fields" "values" "[Ljava/lang/String;" (.ref v) := ((q5.keep Kq9 (ninS (Ne.symm hva) nin0)).other W14 (Or.inr (slot_ne (Or.inl (hw _ (List.mem_of_getElem? (i := 38) rfl))) (Or.inl (hw _ (List.mem_of_getElem? (i := 45) rfl))) (by decide) (t := (.array (.object "java/lang/String"))) (t' := .int) (by decide) (by decide))))
  have q18 : Arv Z h14 n kn (.object "java/lang/String") (8 : Int32) [.null, .null, .null, .null, .null, .null, .null, .null] .null := ((r3_0.keep Kq9 (ninS hnv nin0)).other W14 hna)
  have q19 : Arv Z h14 v kv (.object "java/lang/String") (8 : Int32) [.null, .null, .null, .null, .null, .null, .null, .null] .null := (r9_0.other W14 hva)
  exact ⟨rfl, N14, K15, q16, q17, Fw14, q18, q19⟩
theorem ef_rmRc1 (m : MethodId)  : entryFrame m #[(.int (8 : Int32)), (.int (0 : Int32)), (.int (1 : Int32))] 3 = mkF m 0 #[.val (.int (8 : Int32)), .val (.int (0 : Int32)), .val (.int (1 : Int32))] [] := by first | (simp [entryFrame, mkF, argsToLocals, Value.category]; done) | rfl
def Q_rmRc1 (Z : State)  (h0 : Heap) (n0 : Nat) (rv : Option Value) (hq : Heap) (Lq : List Loc) : Prop := rv = none ∧ Fr n0 Lq ∧ hq = h0
set_option maxRecDepth 65536 in
set_option maxHeartbeats 40000000 in
theorem rmRc1 (l : Launch) (Z : State) (a0 : Array Value) (hw : ∀ d ∈ tables_1, d.before a0 Z = true) (ws : List Jvm.Cond)  (h0 : Heap) (n0 : Nat) (Z0 : n0 ≤ h0.size) :
    MetFree l (⟨"java/util/Arrays", "rangeCheck", "(III)V"⟩ : MethodName) (head1 (Jvm.Cond.code (⟨"java/util/Arrays", "rangeCheck", "(III)V"⟩ : MethodName) jdk_65_method_30_code 3 none :: ws) ({ frames := 0, cells := 0, slots := 0, locals := 0 } : Room)) (fun a U => a = #[(.int (8 : Int32)), (.int (0 : Int32)), (.int (1 : Int32))] ∧ Z.Warmed39 U.vm ∧ U.heap = h0) (fun _ _ _ _ _ => True) (fun _ U o U' => ∃ rv Lq, o = .returned rv ∧ Q_rmRc1 Z  h0 n0 rv U'.heap Lq ∧ FrameEnd U o U' Lq ({ frames := 0, cells := 0, slots := 0, locals := 0 } : Room).cells ({ frames := 0, cells := 0, slots := 0, locals := 0 } : Room).slots) := by
  refine MetFree.of_bodySF (plainFor_of_name pn_9) hisR ?_
  intro p e s m args below meth c s₁ Bd hml0 hP hK
  obtain ⟨rfl, hZ, hh⟩ := hP
  have hx := Bd.exec
  have hby := Bd.bytes
  have hml : c.maxLocals = 3 := hml0
  have hown : s.vm.findClass "java/util/Arrays" = some m.cls := findClass_of_methodNamed Bd.named
  have hnm := (name_of_methodNamed Bd.named Bd.method).1
  have X0 : Stand p l e ({ frames := 0, cells := 0, slots := 0, locals := 0 } : Room) s m #[(.int (8 : Int32)), (.int (0 : Int32)), (.int (1 : Int32))] below meth c s₁ [] 0 0 := Stand.of_body Bd
  have e0 : s₁.heap = h0 := by rw [← hh, Bd.state]; rfl
  have N0 := Fr.nil n0
  refine of_go (ef_rmRc1 m ) ?_
  refine Go.step (T' := s₁) (f' := (mkF m 1 #[.val (.int (8 : Int32)), .val (.int (0 : Int32)), .val (.int (1 : Int32))] [(.int (0 : Int32))])) (fun _ k => XS.iloadN X0.here hx rfl (hb hby d9_0) rfl k) ?_
  refine Go.step (T' := s₁) (f' := (mkF m 2 #[.val (.int (8 : Int32)), .val (.int (0 : Int32)), .val (.int (1 : Int32))] [(.int (1 : Int32)), (.int (0 : Int32))])) (fun _ k => XS.iloadN X0.here hx rfl (hb hby d9_1) rfl k) ?_
  refine Go.step (T' := s₁) (f' := (mkF m 46 #[.val (.int (8 : Int32)), .val (.int (0 : Int32)), .val (.int (1 : Int32))] [])) (fun _ k => XS.icmpYes X0.here hx rfl (pc0 := 2) (pc' := 46) rfl (hb hby d9_2) rfl (flt (by decide : ¬ ((1 : Int32) < (0 : Int32)))).2.2.2 (by decide) (by decide) k) ?_
  refine Go.step (T' := s₁) (f' := (mkF m 47 #[.val (.int (8 : Int32)), .val (.int (0 : Int32)), .val (.int (1 : Int32))] [(.int (0 : Int32))])) (fun _ k => XS.iloadN X0.here hx rfl (hb hby d9_46) rfl k) ?_
  refine Go.step (T' := s₁) (f' := (mkF m 59 #[.val (.int (8 : Int32)), .val (.int (0 : Int32)), .val (.int (1 : Int32))] [])) (fun _ k => XS.ifYes X0.here hx rfl (pc0 := 47) (pc' := 59) rfl (hb hby d9_47) rfl ((if0 _ _).trans (flt (by decide : ¬ ((0 : Int32) < (0 : Int32)))).2.1) (by decide) (by decide) k) ?_
  refine Go.step (T' := s₁) (f' := (mkF m 60 #[.val (.int (8 : Int32)), .val (.int (0 : Int32)), .val (.int (1 : Int32))] [(.int (1 : Int32))])) (fun _ k => XS.iloadN X0.here hx rfl (hb hby d9_59) rfl k) ?_
  refine Go.step (T' := s₁) (f' := (mkF m 61 #[.val (.int (8 : Int32)), .val (.int (0 : Int32)), .val (.int (1 : Int32))] [(.int (8 : Int32)), (.int (1 : Int32))])) (fun _ k => XS.iloadN X0.here hx rfl (hb hby d9_60) rfl k) ?_
  refine Go.step (T' := s₁) (f' := (mkF m 73 #[.val (.int (8 : Int32)), .val (.int (0 : Int32)), .val (.int (1 : Int32))] [])) (fun _ k => XS.icmpYes X0.here hx rfl (pc0 := 61) (pc' := 73) rfl (hb hby d9_61) rfl (flt (by decide : ¬ ((8 : Int32) < (1 : Int32)))).2.2.2 (by decide) (by decide) k) ?_
  refine goV X0 hx Bd.returns Bd.notSynchronized (hb hby d9_73) ?_ (by decide) (by decide)
  show Q_rmRc1 Z  h0 n0 _ s₁.heap _
  rw [e0]
  exact ⟨rfl, N0, rfl⟩
theorem d8_16 : decode jdk_65_method_118_code 16 = .ok (.aload_n 0, 1) := by decide +kernel
theorem d8_17 : decode jdk_65_method_118_code 17 = .ok (.iload 4, 2) := by decide +kernel
theorem d8_19 : decode jdk_65_method_118_code 19 = .ok (.aload_n 3, 1) := by decide +kernel
theorem d8_20 : decode jdk_65_method_118_code 20 = .ok (.aastore, 1) := by decide +kernel
theorem d8_21 : decode jdk_65_method_118_code 21 = .ok (.iinc 4 1, 3) := by decide +kernel
theorem d8_24 : decode jdk_65_method_118_code 24 = .ok (.goto (-14), 3) := by decide +kernel
theorem ef_rmFl1 (m : MethodId) (a1 : Addr) : entryFrame m #[(.ref a1), (.int (0 : Int32)), (.int (1 : Int32)), .null] 5 = mkF m 0 #[.val (.ref a1), .val (.int (0 : Int32)), .val (.int (1 : Int32)), .val .null, .unset] [] := by first | (simp [entryFrame, mkF, argsToLocals, Value.category]; done) | rfl
def Q_rmFl1 (Z : State) (a1 : Addr) (kn : ClassId) (x0 : Value) (h0 : Heap) (n0 : Nat) (rv : Option Value) (hq : Heap) (Lq : List Loc) : Prop := rv = none ∧ Fr n0 Lq ∧ Keep h0 hq [a1] ∧ Arv Z hq a1 kn (.object "java/lang/String") (8 : Int32) [.null, .null, .null, .null, .null, .null, .null, .null] .null
set_option maxRecDepth 65536 in
set_option maxHeartbeats 40000000 in
theorem rmFl1 (l : Launch) (Z : State) (a0 : Array Value) (hw : ∀ d ∈ tables_1, d.before a0 Z = true) (ws : List Jvm.Cond) (a1 : Addr) (kn : ClassId) (x0 : Value) (h0 : Heap) (n0 : Nat) (Z0 : n0 ≤ h0.size) (V_a1 : Arv Z h0 a1 kn (.object "java/lang/String") (8 : Int32) [x0, .null, .null, .null, .null, .null, .null, .null] .null) (g_a1 : n0 ≤ a1) :
    MetFree l (⟨"java/util/Arrays", "fill", "([Ljava/lang/Object;IILjava/lang/Object;)V"⟩ : MethodName) (head1 (Jvm.Cond.code (⟨"java/util/Arrays", "fill", "([Ljava/lang/Object;IILjava/lang/Object;)V"⟩ : MethodName) jdk_65_method_118_code 5 none :: ws) ({ frames := 1, cells := 0, slots := 0, locals := 14 } : Room)) (fun a U => a = #[(.ref a1), (.int (0 : Int32)), (.int (1 : Int32)), .null] ∧ Z.Warmed39 U.vm ∧ U.heap = h0) (fun _ _ _ _ _ => True) (fun _ U o U' => ∃ rv Lq, o = .returned rv ∧ Q_rmFl1 Z a1 kn x0 h0 n0 rv U'.heap Lq ∧ FrameEnd U o U' Lq ({ frames := 1, cells := 0, slots := 0, locals := 14 } : Room).cells ({ frames := 1, cells := 0, slots := 0, locals := 14 } : Room).slots) := by
  refine MetFree.of_bodySF (plainFor_of_name pn_9) hisR ?_
  intro p e s m args below meth c s₁ Bd hml0 hP hK
  obtain ⟨rfl, hZ, hh⟩ := hP
  have hx := Bd.exec
  have hby := Bd.bytes
  have hml : c.maxLocals = 5 := hml0
  have hown : s.vm.findClass "java/util/Arrays" = some m.cls := findClass_of_methodNamed Bd.named
  have hnm := (name_of_methodNamed Bd.named Bd.method).1
  have X0 : Stand p l e ({ frames := 1, cells := 0, slots := 0, locals := 14 } : Room) s m #[(.ref a1), (.int (0 : Int32)), (.int (1 : Int32)), .null] below meth c s₁ [] 0 0 := Stand.of_body Bd
  have e0 : s₁.heap = h0 := by rw [← hh, Bd.state]; rfl
  have N0 := Fr.nil n0
  refine of_go (ef_rmFl1 m a1) ?_
  refine Go.step (T' := s₁) (f' := (mkF m 1 #[.val (.ref a1), .val (.int (0 : Int32)), .val (.int (1 : Int32)), .val .null, .unset] [(.ref a1)])) (fun _ k => XS.aloadN X0.here hx rfl (hb hby d8_0) rfl rfl k) ?_
  obtain ⟨cl1, Ar1, qc1, Sz1, Nn1, Hs1, Gf1⟩ := id V_a1
  have hl1 := X0.arraylength hx (by rw [e0]; exact Ar1.1) (State.isArrayOf_alike hZ.alike Ar1.2.1) (g := (mkF m 1 #[.val (.ref a1), .val (.int (0 : Int32)), .val (.int (1 : Int32)), .val .null, .unset] [(.ref a1)])) rfl rfl (hb hby d8_1)
  rw [len_of Sz1 Nn1] at hl1
  refine Go.step (T' := s₁) (f' := (mkF m 2 #[.val (.ref a1), .val (.int (0 : Int32)), .val (.int (1 : Int32)), .val .null, .unset] [(.int (8 : Int32))])) (fun _ k => hl1 _ k) ?_
  refine Go.step (T' := s₁) (f' := (mkF m 3 #[.val (.ref a1), .val (.int (0 : Int32)), .val (.int (1 : Int32)), .val .null, .unset] [(.int (0 : Int32)), (.int (8 : Int32))])) (fun _ k => XS.iloadN X0.here hx rfl (hb hby d8_2) rfl k) ?_
  refine Go.step (T' := s₁) (f' := (mkF m 4 #[.val (.ref a1), .val (.int (0 : Int32)), .val (.int (1 : Int32)), .val .null, .unset] [(.int (1 : Int32)), (.int (0 : Int32)), (.int (8 : Int32))])) (fun _ k => XS.iloadN X0.here hx rfl (hb hby d8_3) rfl k) ?_
  obtain ⟨_, _, ⟨T2, L2, k2, n2⟩, -, X2, ⟨Lc2, hQ2, l2, y2, z2⟩, st2⟩ := Jvm.LawKit.callS X0 hx (y := (⟨"java/util/Arrays", "rangeCheck", "(III)V"⟩ : MethodName)) hown (mvT hZ (hw _ (List.mem_of_getElem? (i := 50) rfl))) (mvT hZ (hw _ (List.mem_of_getElem? (i := 51) rfl))) (mvT hZ (hw _ (List.mem_of_getElem? (i := 48) rfl))) (mvT hZ (hw _ (List.mem_of_getElem? (i := 52) rfl))) (by decide) (backOf (W := 0) (rmRc1 l Z a0 hw []  h0 n0 Z0 ) hZ (hw _ (List.mem_of_getElem? (i := 52) rfl)) (hw _ (List.mem_of_getElem? (i := 48) rfl)) (by decide) (by decide)) (g := (mkF m 4 #[.val (.ref a1), .val (.int (0 : Int32)), .val (.int (1 : Int32)), .val .null, .unset] [(.int (1 : Int32)), (.int (0 : Int32)), (.int (8 : Int32))])) rfl (by rw [hml]; rfl) (argsL := [(.int (8 : Int32)), (.int (0 : Int32)), (.int (1 : Int32))]) (rest := []) (lenOf pd_3 rfl) rfl (by show 2 * 0 + _ ≤ _; exact Nat.le_of_eq rfl) (hb hby d8_4) (fun _ _ => ⟨rfl, e0, (by decide : 0 + 0 ≤ _), (by decide : 0 + 0 ≤ _)⟩)
  dsimp only [Pt.U, Pt.locs, Pt.cells, Pt.slots] at X2 l2 y2 z2 st2 hQ2
  subst l2 y2 z2
  obtain ⟨rfl, Nq2, eh2⟩ := hQ2
  have N2 := Fr.app N0 Nq2
  refine Go.step (T' := T2) (f' := (mkF m 7 #[.val (.ref a1), .val (.int (0 : Int32)), .val (.int (1 : Int32)), .val .null, .unset] [])) st2 ?_
  refine Go.step (T' := T2) (f' := (mkF m 8 #[.val (.ref a1), .val (.int (0 : Int32)), .val (.int (1 : Int32)), .val .null, .unset] [(.int (0 : Int32))])) (fun _ k => XS.iloadN X2.here hx rfl (hb hby d8_7) rfl k) ?_
  refine Go.step (T' := T2) (f' := (mkF m 10 #[.val (.ref a1), .val (.int (0 : Int32)), .val (.int (1 : Int32)), .val .null, .val (.int (0 : Int32))] [])) (fun _ k => XS.istore X2.here hx rfl (hb hby d8_8) rfl (l' := #[.val (.ref a1), .val (.int (0 : Int32)), .val (.int (1 : Int32)), .val .null, .val (.int (0 : Int32))]) rfl k) ?_
  refine Go.step (T' := T2) (f' := (mkF m 12 #[.val (.ref a1), .val (.int (0 : Int32)), .val (.int (1 : Int32)), .val .null, .val (.int (0 : Int32))] [(.int (0 : Int32))])) (fun _ k => XS.iload X2.here hx rfl (hb hby d8_10) rfl k) ?_
  refine Go.step (T' := T2) (f' := (mkF m 13 #[.val (.ref a1), .val (.int (0 : Int32)), .val (.int (1 : Int32)), .val .null, .val (.int (0 : Int32))] [(.int (1 : Int32)), (.int (0 : Int32))])) (fun _ k => XS.iloadN X2.here hx rfl (hb hby d8_12) rfl k) ?_
  refine Go.step (T' := T2) (f' := (mkF m 16 #[.val (.ref a1), .val (.int (0 : Int32)), .val (.int (1 : Int32)), .val .null, .val (.int (0 : Int32))] [])) (fun _ k => XS.icmpNo X2.here hx rfl (hb hby d8_13) rfl (tlt (by decide : (0 : Int32) < (1 : Int32))).2.1 k) ?_
  refine Go.step (T' := T2) (f' := (mkF m 17 #[.val (.ref a1), .val (.int (0 : Int32)), .val (.int (1 : Int32)), .val .null, .val (.int (0 : Int32))] [(.ref a1)])) (fun _ k => XS.aloadN X2.here hx rfl (hb hby d8_16) rfl rfl k) ?_
  refine Go.step (T' := T2) (f' := (mkF m 19 #[.val (.ref a1), .val (.int (0 : Int32)), .val (.int (1 : Int32)), .val .null, .val (.int (0 : Int32))] [(.int (0 : Int32)), (.ref a1)])) (fun _ k => XS.iload X2.here hx rfl (hb hby d8_17) rfl k) ?_
  refine Go.step (T' := T2) (f' := (mkF m 20 #[.val (.ref a1), .val (.int (0 : Int32)), .val (.int (1 : Int32)), .val .null, .val (.int (0 : Int32))] [.null, (.int (0 : Int32)), (.ref a1)])) (fun _ k => XS.aloadN X2.here hx rfl (hb hby d8_19) rfl rfl k) ?_
  obtain ⟨cl3, Ar3, qc3, Sz3, Nn3, Hs3, Gf3⟩ := id V_a1
  have hin4 : ¬ ((0 : Int32) < 0 ∨ cl3.slots.size ≤ ((0 : Int32)).toNatClampNeg) := (inb_of Sz3 ⟨by decide, by decide⟩)
  obtain ⟨T4, h4, X4, e4, W4, st4⟩ := stR X2 hx hZ eh2 Ar3 (j := (0 : Int32)) hin4 rfl (Or.inl rfl) (g := (mkF m 20 #[.val (.ref a1), .val (.int (0 : Int32)), .val (.int (1 : Int32)), .val .null, .val (.int (0 : Int32))] [.null, (.int (0 : Int32)), (.ref a1)])) rfl rfl (hb hby d8_20)
  have N4 := Fr.snoc X4 N2 g_a1
  have Z5 : n0 ≤ h4.size := Nat.le_trans Z0 (Keep.of_wr W4).1
  have K5 : Keep h0 h4 [a1] := (Keep.refl h0 [a1]).wr W4 (Or.inl (List.mem_of_getElem? (i := 0) rfl))
  have Va4 : Arv Z h4 a1 kn (.object "java/lang/String") (8 : Int32) [.null, .null, .null, .null, .null, .null, .null, .null] .null := Arv.set Ar3 qc3 Sz3 Nn3 Hs3 Gf3 rfl W4 0 rfl (Nat.le_of_ble_eq_true rfl)
  refine Go.step (T' := T4) (f' := (mkF m 21 #[.val (.ref a1), .val (.int (0 : Int32)), .val (.int (1 : Int32)), .val .null, .val (.int (0 : Int32))] [])) st4 ?_
  refine Go.step (T' := T4) (f' := (mkF m 24 #[.val (.ref a1), .val (.int (0 : Int32)), .val (.int (1 : Int32)), .val .null, .val (.int (1 : Int32))] [])) (fun _ k => XS.iinc X4.here hx rfl (hb hby d8_21) rfl (l' := #[.val (.ref a1), .val (.int (0 : Int32)), .val (.int (1 : Int32)), .val .null, .val (.int (1 : Int32))]) rfl k) ?_
  refine Go.step (T' := T4) (f' := (mkF m 10 #[.val (.ref a1), .val (.int (0 : Int32)), .val (.int (1 : Int32)), .val .null, .val (.int (1 : Int32))] [])) (fun _ k => XS.goto X4.here hx rfl (pc0 := 24) (pc' := 10) rfl (hb hby d8_24) (by decide) (by decide) k) ?_
  refine Go.step (T' := T4) (f' := (mkF m 12 #[.val (.ref a1), .val (.int (0 : Int32)), .val (.int (1 : Int32)), .val .null, .val (.int (1 : Int32))] [(.int (1 : Int32))])) (fun _ k => XS.iload X4.here hx rfl (hb hby d8_10) rfl k) ?_
  refine Go.step (T' := T4) (f' := (mkF m 13 #[.val (.ref a1), .val (.int (0 : Int32)), .val (.int (1 : Int32)), .val .null, .val (.int (1 : Int32))] [(.int (1 : Int32)), (.int (1 : Int32))])) (fun _ k => XS.iloadN X4.here hx rfl (hb hby d8_12) rfl k) ?_
  refine Go.step (T' := T4) (f' := (mkF m 27 #[.val (.ref a1), .val (.int (0 : Int32)), .val (.int (1 : Int32)), .val .null, .val (.int (1 : Int32))] [])) (fun _ k => XS.icmpYes X4.here hx rfl (pc0 := 13) (pc' := 27) rfl (hb hby d8_13) rfl (flt (by decide : ¬ ((1 : Int32) < (1 : Int32)))).2.1 (by decide) (by decide) k) ?_
  refine goV X4 hx Bd.returns Bd.notSynchronized (hb hby d8_27) ?_ (by decide) (by decide)
  show Q_rmFl1 Z a1 kn x0 h0 n0 _ T4.heap _
  rw [e4]
  exact ⟨rfl, N4, K5, Va4⟩
theorem ef_rmClr1 (m : MethodId) (a1 : Addr) : entryFrame m #[(.ref a1)] 1 = mkF m 0 #[.val (.ref a1)] [] := by first | (simp [entryFrame, mkF, argsToLocals, Value.category]; done) | rfl
def Q_rmClr1 (Z : State) (a1 : Addr) (n : Addr) (v : Addr) (kn : ClassId) (kv : ClassId) (x0 : Value) (y0 : Value) (h0 : Heap) (n0 : Nat) (rv : Option Value) (hq : Heap) (Lq : List Loc) : Prop := rv = none ∧ Fr n0 Lq ∧ Keep h0 hq [a1, n, v] ∧ Fld Z hq a1 "com/example/tenderbook/tenderbook/Fields" "names" "[Ljava/lang/String;" (.ref n) ∧ Fld Z hq a1 "com/example/tenderbook/tenderbook/Fields" "values" "[Ljava/lang/String;" (.ref v) ∧ Fld Z hq a1 "com/example/tenderbook/tenderbook/Fields" "size" "I" (.int (0 : Int32)) ∧ Arv Z hq n kn (.object "java/lang/String") (8 : Int32) [.null, .null, .null, .null, .null, .null, .null, .null] .null ∧ Arv Z hq v kv (.object "java/lang/String") (8 : Int32) [.null, .null, .null, .null, .null, .null, .null, .null] .null
set_option maxRecDepth 65536 in
set_option maxHeartbeats 40000000 in
theorem rmClr1 (l : Launch) (Z : State) (a0 : Array Value) (hw : ∀ d ∈ tables_1, d.before a0 Z = true) (ws : List Jvm.Cond) (a1 : Addr) (n : Addr) (v : Addr) (kn : ClassId) (kv : ClassId) (x0 : Value) (y0 : Value) (h0 : Heap) (n0 : Nat) (Z0 : n0 ≤ h0.size) (E_a1 : Exa Z h0 a1 "com/example/tenderbook/tenderbook/Fields") (F_names_a1 : Fld Z h0 a1 "com/example/tenderbook/tenderbook/Fields" "names" "[Ljava/lang/String;" (.ref n)) (F_values_a1 : Fld Z h0 a1 "com/example/tenderbook/tenderbook/Fields" "values" "[Ljava/lang/String;" (.ref v)) (F_size_a1 : Fld Z h0 a1 "com/example/tenderbook/tenderbook/Fields" "size" "I" (.int (1 : Int32))) (V_n : Arv Z h0 n kn (.object "java/lang/String") (8 : Int32) [x0, .null, .null, .null, .null, .null, .null, .null] .null) (V_v : Arv Z h0 v kv (.object "java/lang/String") (8 : Int32) [y0, .null, .null, .null, .null, .null, .null, .null] .null) (hna : n ≠ a1) (hva : v ≠ a1) (hnv : n ≠ v) (g_a1 : n0 ≤ a1) (g_n : n0 ≤ n) (g_v : n0 ≤ v) :
    MetFree l (⟨"com/example/tenderbook/tenderbook/Fields", "clear", "()V"⟩ : MethodName) (head1 (Jvm.Cond.code (⟨"com/example/tenderbook/tenderbook/Fields", "clear", "()V"⟩ : MethodName) prog_8_method_11_code 1 none :: ws) ({ frames := 2, cells := 0, slots := 0, locals := 30 } : Room)) (fun a U => a = #[(.ref a1)] ∧ Z.Warmed39 U.vm ∧ U.heap = h0) (fun _ _ _ _ _ => True) (fun _ U o U' => ∃ rv Lq, o = .returned rv ∧ Q_rmClr1 Z a1 n v kn kv x0 y0 h0 n0 rv U'.heap Lq ∧ FrameEnd U o U' Lq ({ frames := 2, cells := 0, slots := 0, locals := 30 } : Room).cells ({ frames := 2, cells := 0, slots := 0, locals := 30 } : Room).slots) := by
  refine MetFree.of_bodySF (plainFor_of_name pn_6) hisR ?_
  intro p e s m args below meth c s₁ Bd hml0 hP hK
  obtain ⟨rfl, hZ, hh⟩ := hP
  have hx := Bd.exec
  have hby := Bd.bytes
  have hml : c.maxLocals = 1 := hml0
  have hown : s.vm.findClass "com/example/tenderbook/tenderbook/Fields" = some m.cls := findClass_of_methodNamed Bd.named
  have hnm := (name_of_methodNamed Bd.named Bd.method).1
  have X0 : Stand p l e ({ frames := 2, cells := 0, slots := 0, locals := 30 } : Room) s m #[(.ref a1)] below meth c s₁ [] 0 0 := Stand.of_body Bd
  have e0 : s₁.heap = h0 := by rw [← hh, Bd.state]; rfl
  have N0 := Fr.nil n0
  refine of_go (ef_rmClr1 m a1) ?_
  refine Go.step (T' := s₁) (f' := (mkF m 1 #[.val (.ref a1)] [(.ref a1)])) (fun _ k => XS.aloadN X0.here hx rfl (hb hby d7_0) rfl rfl k) ?_
  obtain ⟨T1, X1, e1, st1⟩ := getF X0 hx hZ hown (host := "") (Or.inl (hw _ (List.mem_of_getElem? (i := 35) rfl))) Via.refl e0 F_names_a1 (g := (mkF m 1 #[.val (.ref a1)] [(.ref a1)])) rfl rfl (hb hby d7_1)
  refine Go.step (T' := T1) (f' := (mkF m 4 #[.val (.ref a1)] [(.ref n)])) st1 ?_
  refine Go.step (T' := T1) (f' := (mkF m 5 #[.val (.ref a1)] [(.int (0 : Int32)), (.ref n)])) (fun _ k => XS.iconst X1.here hx rfl (hb hby d7_4) k) ?_
  refine Go.step (T' := T1) (f' := (mkF m 6 #[.val (.ref a1)] [(.ref a1), (.int (0 : Int32)), (.ref n)])) (fun _ k => XS.aloadN X1.here hx rfl (hb hby d7_5) rfl rfl k) ?_
  obtain ⟨T2, X2, e2, st2⟩ := getF X1 hx hZ hown (host := "") (Or.inl (hw _ (List.mem_of_getElem? (i := 44) rfl))) Via.refl e1 F_size_a1 (g := (mkF m 6 #[.val (.ref a1)] [(.ref a1), (.int (0 : Int32)), (.ref n)])) rfl rfl (hb hby d7_6)
  refine Go.step (T' := T2) (f' := (mkF m 9 #[.val (.ref a1)] [(.int (1 : Int32)), (.int (0 : Int32)), (.ref n)])) st2 ?_
  refine Go.step (T' := T2) (f' := (mkF m 10 #[.val (.ref a1)] [.null, (.int (1 : Int32)), (.int (0 : Int32)), (.ref n)])) (fun _ k => XS.aconstNull X2.here hx rfl (hb hby d7_9) k) ?_
  obtain ⟨_, _, ⟨T3, L3, k3, n3⟩, -, X3, ⟨Lc3, hQ3, l3, y3, z3⟩, st3⟩ := Jvm.LawKit.callS X2 hx (y := (⟨"java/util/Arrays", "fill", "([Ljava/lang/Object;IILjava/lang/Object;)V"⟩ : MethodName)) hown (mvT hZ (hw _ (List.mem_of_getElem? (i := 46) rfl))) (mvT hZ (hw _ (List.mem_of_getElem? (i := 47) rfl))) (mvT hZ (hw _ (List.mem_of_getElem? (i := 48) rfl))) (mvT hZ (hw _ (List.mem_of_getElem? (i := 49) rfl))) (by decide) (backOf (W := 0) (rmFl1 l Z a0 hw [] n kn x0 h0 n0 Z0 V_n g_n) hZ (hw _ (List.mem_of_getElem? (i := 49) rfl)) (hw _ (List.mem_of_getElem? (i := 48) rfl)) (by decide) (by decide)) (g := (mkF m 10 #[.val (.ref a1)] [.null, (.int (1 : Int32)), (.int (0 : Int32)), (.ref n)])) rfl (by rw [hml]; rfl) (argsL := [(.ref n), (.int (0 : Int32)), (.int (1 : Int32)), .null]) (rest := []) (lenOf pd_4 rfl) rfl (by show 2 * 0 + _ ≤ _; exact Nat.le_of_eq rfl) (hb hby d7_10) (fun _ _ => ⟨rfl, e2, (by decide : 0 + 0 ≤ _), (by decide : 0 + 0 ≤ _)⟩)
  dsimp only [Pt.U, Pt.locs, Pt.cells, Pt.slots] at X3 l3 y3 z3 st3 hQ3
  subst l3 y3 z3
  obtain ⟨rfl, Nq3, Kq3, r3_0⟩ := hQ3
  have N3 := Fr.app N0 Nq3
  have Z4 : n0 ≤ T3.heap.size := Nat.le_trans Z0 Kq3.1
  have K4 : Keep h0 T3.heap [a1, n, v] := (Keep.refl h0 [a1, n, v]).trans Kq3 (allS (Or.inl (List.mem_of_getElem? (i := 1) rfl)) all0)
  refine Go.step (T' := T3) (f' := (mkF m 13 #[.val (.ref a1)] [])) st3 ?_
  refine Go.step (T' := T3) (f' := (mkF m 14 #[.val (.ref a1)] [(.ref a1)])) (fun _ k => XS.aloadN X3.here hx rfl (hb hby d7_13) rfl rfl k) ?_
  have q5 : Fld Z T3.heap a1 "com/example/tenderbook/tenderbook/Fields" "values" "[Ljava/lang/String;" (.ref v) := (F_values_a1.keep Kq3 (ninS (Ne.symm hna) nin0))
  obtain ⟨T6, X6, e6, st6⟩ := getF X3 hx hZ hown (host := "") (Or.inl (hw _ (List.mem_of_getElem? (i := 37) rfl))) Via.refl rfl q5 (g := (mkF m 14 #[.val (.ref a1)] [(.ref a1)])) rfl rfl (hb hby d7_14)
  refine Go.step (T' := T6) (f' := (mkF m 17 #[.val (.ref a1)] [(.ref v)])) st6 ?_
  refine Go.step (T' := T6) (f' := (mkF m 18 #[.val (.ref a1)] [(.int (0 : Int32)), (.ref v)])) (fun _ k => XS.iconst X6.here hx rfl (hb hby d7_17) k) ?_
  refine Go.step (T' := T6) (f' := (mkF m 19 #[.val (.ref a1)] [(.ref a1), (.int (0 : Int32)), (.ref v)])) (fun _ k => XS.aloadN X6.here hx rfl (hb hby d7_18) rfl rfl k) ?_
  have q7 : Fld Z T3.heap a1 "com/example/tenderbook/tenderbook/Fields" "size" "I" (.int (1 : Int32)) := (F_size_a1.keep Kq3 (ninS (Ne.symm hna) nin0))
  obtain ⟨T8, X8, e8, st8⟩ := getF X6 hx hZ hown (host := "") (Or.inl (hw _ (List.mem_of_getElem? (i := 44) rfl))) Via.refl e6 q7 (g := (mkF m 19 #[.val (.ref a1)] [(.ref a1), (.int (0 : Int32)), (.ref v)])) rfl rfl (hb hby d7_19)
  refine Go.step (T' := T8) (f' := (mkF m 22 #[.val (.ref a1)] [(.int (1 : Int32)), (.int (0 : Int32)), (.ref v)])) st8 ?_
  refine Go.step (T' := T8) (f' := (mkF m 23 #[.val (.ref a1)] [.null, (.int (1 : Int32)), (.int (0 : Int32)), (.ref v)])) (fun _ k => XS.aconstNull X8.here hx rfl (hb hby d7_22) k) ?_
  have q10 : Arv Z T3.heap v kv (.object "java/lang/String") (8 : Int32) [y0, .null, .null, .null, .null, .null, .null, .null] .null := (V_v.keep Kq3 (ninS (Ne.symm hnv) nin0))
  obtain ⟨_, _, ⟨T9, L9, k9, n9⟩, -, X9, ⟨Lc9, hQ9, l9, y9, z9⟩, st9⟩ := Jvm.LawKit.callS X8 hx (y := (⟨"java/util/Arrays", "fill", "([Ljava/lang/Object;IILjava/lang/Object;)V"⟩ : MethodName)) hown (mvT hZ (hw _ (List.mem_of_getElem? (i := 46) rfl))) (mvT hZ (hw _ (List.mem_of_getElem? (i := 47) rfl))) (mvT hZ (hw _ (List.mem_of_getElem? (i := 48) rfl))) (mvT hZ (hw _ (List.mem_of_getElem? (i := 49) rfl))) (by decide) (backOf (W := 0) (rmFl1 l Z a0 hw [] v kv y0 T3.heap n0 Z4 q10 g_v) hZ (hw _ (List.mem_of_getElem? (i := 49) rfl)) (hw _ (List.mem_of_getElem? (i := 48) rfl)) (by decide) (by decide)) (g := (mkF m 23 #[.val (.ref a1)] [.null, (.int (1 : Int32)), (.int (0 : Int32)), (.ref v)])) rfl (by rw [hml]; rfl) (argsL := [(.ref v), (.int (0 : Int32)), (.int (1 : Int32)), .null]) (rest := []) (lenOf pd_4 rfl) rfl (by show 2 * 0 + _ ≤ _; exact Nat.le_of_eq rfl) (hb hby d7_23) (fun _ _ => ⟨rfl, e8, (by decide : 0 + 0 ≤ _), (by decide : 0 + 0 ≤ _)⟩)
  dsimp only [Pt.U, Pt.locs, Pt.cells, Pt.slots] at X9 l9 y9 z9 st9 hQ9
  subst l9 y9 z9
  obtain ⟨rfl, Nq9, Kq9, r9_0⟩ := hQ9
  have N9 := Fr.app N3 Nq9
  have Z11 : n0 ≤ T9.heap.size := Nat.le_trans Z4 Kq9.1
  have K11 : Keep h0 T9.heap [a1, n, v] := K4.trans Kq9 (allS (Or.inl (List.mem_of_getElem? (i := 2) rfl)) all0)
  refine Go.step (T' := T9) (f' := (mkF m 26 #[.val (.ref a1)] [])) st9 ?_
  refine Go.step (T' := T9) (f' := (mkF m 27 #[.val (.ref a1)] [(.ref a1)])) (fun _ k => XS.aloadN X9.here hx rfl (hb hby d7_26) rfl rfl k) ?_
  refine Go.step (T' := T9) (f' := (mkF m 28 #[.val (.ref a1)] [(.int (0 : Int32)), (.ref a1)])) (fun _ k => XS.iconst X9.here hx rfl (hb hby d7_27) k) ?_
  have q12 : Fld Z T9.heap a1 "com/example/tenderbook/tenderbook/Fields" "size" "I" (.int (1 : Int32)) := (q7.keep Kq9 (ninS (Ne.symm hva) nin0))
  have q13 : Exa Z T9.heap a1 "com/example/tenderbook/tenderbook/Fields" := ((E_a1.keep Kq3).keep Kq9)
  obtain ⟨T14, h14, X14, e14, W14, st14⟩ := putF X9 hx hZ hown (host := "") (Or.inl (hw _ (List.mem_of_getElem? (i := 44) rfl))) Via.refl rfl q12 q13 (Or.inl (hw _ (List.mem_of_getElem? (i := 45) rfl))) (hw _ (List.mem_of_getElem? (i := 27) rfl)) (ty := .int) (by decide) rfl rfl (g := (mkF m 28 #[.val (.ref a1)] [(.int (0 : Int32)), (.ref a1)])) rfl rfl (hb hby d7_28)
  have N14 := Fr.snoc X14 N9 g_a1
  have Z15 : n0 ≤ h14.size := Nat.le_trans Z11 (Keep.of_wr W14).1
  have K15 : Keep h0 h14 [a1, n, v] := K11.wr W14 (Or.inl (List.mem_of_getElem? (i := 0) rfl))
  have Fw14 := q12.same W14
  refine Go.step (T' := T14) (f' := (mkF m 31 #[.val (.ref a1)] [])) st14 ?_
  refine goV X14 hx Bd.returns Bd.notSynchronized (hb hby d7_31) ?_ (by decide) (by decide)
  show Q_rmClr1 Z a1 n v kn kv x0 y0 h0 n0 _ T14.heap _
  rw [e14]
  have q16 : Fld Z h14 a1 "com/example/tenderbook/tenderbook/Fields" "names" "[Ljava/lang/String;" (.ref n) := (((F_names_a1.keep Kq3 (ninS (Ne.symm hna) nin0)).keep Kq9 (ninS (Ne.symm hva) nin0)).other W14 (Or.inr (slot_ne (Or.inl (hw _ (List.mem_of_getElem? (i := 36) rfl))) (Or.inl (hw _ (List.mem_of_getElem? (i := 45) rfl))) (by decide) (t := (.array (.object "java/lang/String"))) (t' := .int) (by decide) (by decide))))
  have q17 : Fld Z h14 a1 "com/example/tenderbook/tenderbook/Fields" "values" "[Ljava/lang/String;" (.ref v) := ((q5.keep Kq9 (ninS (Ne.symm hva) nin0)).other W14 (Or.inr (slot_ne (Or.inl (hw _ (List.mem_of_getElem? (i := 38) rfl))) (Or.inl (hw _ (List.mem_of_getElem? (i := 45) rfl))) (by decide) (t := (.array (.object "java/lang/String"))) (t' := .int) (by decide) (by decide))))
  have q18 : Arv Z h14 n kn (.object "java/lang/String") (8 : Int32) [.null, .null, .null, .null, .null, .null, .null, .null] .null := ((r3_0.keep Kq9 (ninS hnv nin0)).other W14 hna)
  have q19 : Arv Z h14 v kv (.object "java/lang/String") (8 : Int32) [.null, .null, .null, .null, .null, .null, .null, .null] .null := (r9_0.other W14 hva)
  exact ⟨rfl, N14, K15, q16, q17, Fw14, q18, q19⟩
theorem ef_rmRc2 (m : MethodId)  : entryFrame m #[(.int (8 : Int32)), (.int (0 : Int32)), (.int (2 : Int32))] 3 = mkF m 0 #[.val (.int (8 : Int32)), .val (.int (0 : Int32)), .val (.int (2 : Int32))] [] := by first | (simp [entryFrame, mkF, argsToLocals, Value.category]; done) | rfl
def Q_rmRc2 (Z : State)  (h0 : Heap) (n0 : Nat) (rv : Option Value) (hq : Heap) (Lq : List Loc) : Prop := rv = none ∧ Fr n0 Lq ∧ hq = h0
set_option maxRecDepth 65536 in
set_option maxHeartbeats 40000000 in
theorem rmRc2 (l : Launch) (Z : State) (a0 : Array Value) (hw : ∀ d ∈ tables_1, d.before a0 Z = true) (ws : List Jvm.Cond)  (h0 : Heap) (n0 : Nat) (Z0 : n0 ≤ h0.size) :
    MetFree l (⟨"java/util/Arrays", "rangeCheck", "(III)V"⟩ : MethodName) (head1 (Jvm.Cond.code (⟨"java/util/Arrays", "rangeCheck", "(III)V"⟩ : MethodName) jdk_65_method_30_code 3 none :: ws) ({ frames := 0, cells := 0, slots := 0, locals := 0 } : Room)) (fun a U => a = #[(.int (8 : Int32)), (.int (0 : Int32)), (.int (2 : Int32))] ∧ Z.Warmed39 U.vm ∧ U.heap = h0) (fun _ _ _ _ _ => True) (fun _ U o U' => ∃ rv Lq, o = .returned rv ∧ Q_rmRc2 Z  h0 n0 rv U'.heap Lq ∧ FrameEnd U o U' Lq ({ frames := 0, cells := 0, slots := 0, locals := 0 } : Room).cells ({ frames := 0, cells := 0, slots := 0, locals := 0 } : Room).slots) := by
  refine MetFree.of_bodySF (plainFor_of_name pn_9) hisR ?_
  intro p e s m args below meth c s₁ Bd hml0 hP hK
  obtain ⟨rfl, hZ, hh⟩ := hP
  have hx := Bd.exec
  have hby := Bd.bytes
  have hml : c.maxLocals = 3 := hml0
  have hown : s.vm.findClass "java/util/Arrays" = some m.cls := findClass_of_methodNamed Bd.named
  have hnm := (name_of_methodNamed Bd.named Bd.method).1
  have X0 : Stand p l e ({ frames := 0, cells := 0, slots := 0, locals := 0 } : Room) s m #[(.int (8 : Int32)), (.int (0 : Int32)), (.int (2 : Int32))] below meth c s₁ [] 0 0 := Stand.of_body Bd
  have e0 : s₁.heap = h0 := by rw [← hh, Bd.state]; rfl
  have N0 := Fr.nil n0
  refine of_go (ef_rmRc2 m ) ?_
  refine Go.step (T' := s₁) (f' := (mkF m 1 #[.val (.int (8 : Int32)), .val (.int (0 : Int32)), .val (.int (2 : Int32))] [(.int (0 : Int32))])) (fun _ k => XS.iloadN X0.here hx rfl (hb hby d9_0) rfl k) ?_
  refine Go.step (T' := s₁) (f' := (mkF m 2 #[.val (.int (8 : Int32)), .val (.int (0 : Int32)), .val (.int (2 : Int32))] [(.int (2 : Int32)), (.int (0 : Int32))])) (fun _ k => XS.iloadN X0.here hx rfl (hb hby d9_1) rfl k) ?_
  refine Go.step (T' := s₁) (f' := (mkF m 46 #[.val (.int (8 : Int32)), .val (.int (0 : Int32)), .val (.int (2 : Int32))] [])) (fun _ k => XS.icmpYes X0.here hx rfl (pc0 := 2) (pc' := 46) rfl (hb hby d9_2) rfl (flt (by decide : ¬ ((2 : Int32) < (0 : Int32)))).2.2.2 (by decide) (by decide) k) ?_
  refine Go.step (T' := s₁) (f' := (mkF m 47 #[.val (.int (8 : Int32)), .val (.int (0 : Int32)), .val (.int (2 : Int32))] [(.int (0 : Int32))])) (fun _ k => XS.iloadN X0.here hx rfl (hb hby d9_46) rfl k) ?_
  refine Go.step (T' := s₁) (f' := (mkF m 59 #[.val (.int (8 : Int32)), .val (.int (0 : Int32)), .val (.int (2 : Int32))] [])) (fun _ k => XS.ifYes X0.here hx rfl (pc0 := 47) (pc' := 59) rfl (hb hby d9_47) rfl ((if0 _ _).trans (flt (by decide : ¬ ((0 : Int32) < (0 : Int32)))).2.1) (by decide) (by decide) k) ?_
  refine Go.step (T' := s₁) (f' := (mkF m 60 #[.val (.int (8 : Int32)), .val (.int (0 : Int32)), .val (.int (2 : Int32))] [(.int (2 : Int32))])) (fun _ k => XS.iloadN X0.here hx rfl (hb hby d9_59) rfl k) ?_
  refine Go.step (T' := s₁) (f' := (mkF m 61 #[.val (.int (8 : Int32)), .val (.int (0 : Int32)), .val (.int (2 : Int32))] [(.int (8 : Int32)), (.int (2 : Int32))])) (fun _ k => XS.iloadN X0.here hx rfl (hb hby d9_60) rfl k) ?_
  refine Go.step (T' := s₁) (f' := (mkF m 73 #[.val (.int (8 : Int32)), .val (.int (0 : Int32)), .val (.int (2 : Int32))] [])) (fun _ k => XS.icmpYes X0.here hx rfl (pc0 := 61) (pc' := 73) rfl (hb hby d9_61) rfl (flt (by decide : ¬ ((8 : Int32) < (2 : Int32)))).2.2.2 (by decide) (by decide) k) ?_
  refine goV X0 hx Bd.returns Bd.notSynchronized (hb hby d9_73) ?_ (by decide) (by decide)
  show Q_rmRc2 Z  h0 n0 _ s₁.heap _
  rw [e0]
  exact ⟨rfl, N0, rfl⟩
theorem ef_rmFl2 (m : MethodId) (a1 : Addr) : entryFrame m #[(.ref a1), (.int (0 : Int32)), (.int (2 : Int32)), .null] 5 = mkF m 0 #[.val (.ref a1), .val (.int (0 : Int32)), .val (.int (2 : Int32)), .val .null, .unset] [] := by first | (simp [entryFrame, mkF, argsToLocals, Value.category]; done) | rfl
def Q_rmFl2 (Z : State) (a1 : Addr) (kn : ClassId) (x0 : Value) (x1 : Value) (h0 : Heap) (n0 : Nat) (rv : Option Value) (hq : Heap) (Lq : List Loc) : Prop := rv = none ∧ Fr n0 Lq ∧ Keep h0 hq [a1] ∧ Arv Z hq a1 kn (.object "java/lang/String") (8 : Int32) [.null, .null, .null, .null, .null, .null, .null, .null] .null
set_option maxRecDepth 65536 in
set_option maxHeartbeats 40000000 in
theorem rmFl2 (l : Launch) (Z : State) (a0 : Array Value) (hw : ∀ d ∈ tables_1, d.before a0 Z = true) (ws : List Jvm.Cond) (a1 : Addr) (kn : ClassId) (x0 : Value) (x1 : Value) (h0 : Heap) (n0 : Nat) (Z0 : n0 ≤ h0.size) (V_a1 : Arv Z h0 a1 kn (.object "java/lang/String") (8 : Int32) [x0, x1, .null, .null, .null, .null, .null, .null] .null) (g_a1 : n0 ≤ a1) :
    MetFree l (⟨"java/util/Arrays", "fill", "([Ljava/lang/Object;IILjava/lang/Object;)V"⟩ : MethodName) (head1 (Jvm.Cond.code (⟨"java/util/Arrays", "fill", "([Ljava/lang/Object;IILjava/lang/Object;)V"⟩ : MethodName) jdk_65_method_118_code 5 none :: ws) ({ frames := 1, cells := 0, slots := 0, locals := 14 } : Room)) (fun a U => a = #[(.ref a1), (.int (0 : Int32)), (.int (2 : Int32)), .null] ∧ Z.Warmed39 U.vm ∧ U.heap = h0) (fun _ _ _ _ _ => True) (fun _ U o U' => ∃ rv Lq, o = .returned rv ∧ Q_rmFl2 Z a1 kn x0 x1 h0 n0 rv U'.heap Lq ∧ FrameEnd U o U' Lq ({ frames := 1, cells := 0, slots := 0, locals := 14 } : Room).cells ({ frames := 1, cells := 0, slots := 0, locals := 14 } : Room).slots) := by
  refine MetFree.of_bodySF (plainFor_of_name pn_9) hisR ?_
  intro p e s m args below meth c s₁ Bd hml0 hP hK
  obtain ⟨rfl, hZ, hh⟩ := hP
  have hx := Bd.exec
  have hby := Bd.bytes
  have hml : c.maxLocals = 5 := hml0
  have hown : s.vm.findClass "java/util/Arrays" = some m.cls := findClass_of_methodNamed Bd.named
  have hnm := (name_of_methodNamed Bd.named Bd.method).1
  have X0 : Stand p l e ({ frames := 1, cells := 0, slots := 0, locals := 14 } : Room) s m #[(.ref a1), (.int (0 : Int32)), (.int (2 : Int32)), .null] below meth c s₁ [] 0 0 := Stand.of_body Bd
  have e0 : s₁.heap = h0 := by rw [← hh, Bd.state]; rfl
  have N0 := Fr.nil n0
  refine of_go (ef_rmFl2 m a1) ?_
  refine Go.step (T' := s₁) (f' := (mkF m 1 #[.val (.ref a1), .val (.int (0 : Int32)), .val (.int (2 : Int32)), .val .null, .unset] [(.ref a1)])) (fun _ k => XS.aloadN X0.here hx rfl (hb hby d8_0) rfl rfl k) ?_
  obtain ⟨cl1, Ar1, qc1, Sz1, Nn1, Hs1, Gf1⟩ := id V_a1
  have hl1 := X0.arraylength hx (by rw [e0]; exact Ar1.1) (State.isArrayOf_alike hZ.alike Ar1.2.1) (g := (mkF m 1 #[.val (.ref a1), .val (.int (0 : Int32)), .val (.int (2 : Int32)), .val .null, .unset] [(.ref a1)])) rfl rfl (hb hby d8_1)
  rw [len_of Sz1 Nn1] at hl1
  refine Go.step (T' := s₁) (f' := (mkF m 2 #[.val (.ref a1), .val (.int (0 : Int32)), .val (.int (2 : Int32)), .val .null, .unset] [(.int (8 : Int32))])) (fun _ k => hl1 _ k) ?_
  refine Go.step (T' := s₁) (f' := (mkF m 3 #[.val (.ref a1), .val (.int (0 : Int32)), .val (.int (2 : Int32)), .val .null, .unset] [(.int (0 : Int32)), (.int (8 : Int32))])) (fun _ k => XS.iloadN X0.here hx rfl (hb hby d8_2) rfl k) ?_
  refine Go.step (T' := s₁) (f' := (mkF m 4 #[.val (.ref a1), .val (.int (0 : Int32)), .val (.int (2 : Int32)), .val .null, .unset] [(.int (2 : Int32)), (.int (0 : Int32)), (.int (8 : Int32))])) (fun _ k => XS.iloadN X0.here hx rfl (hb hby d8_3) rfl k) ?_
  obtain ⟨_, _, ⟨T2, L2, k2, n2⟩, -, X2, ⟨Lc2, hQ2, l2, y2, z2⟩, st2⟩ := Jvm.LawKit.callS X0 hx (y := (⟨"java/util/Arrays", "rangeCheck", "(III)V"⟩ : MethodName)) hown (mvT hZ (hw _ (List.mem_of_getElem? (i := 50) rfl))) (mvT hZ (hw _ (List.mem_of_getElem? (i := 51) rfl))) (mvT hZ (hw _ (List.mem_of_getElem? (i := 48) rfl))) (mvT hZ (hw _ (List.mem_of_getElem? (i := 52) rfl))) (by decide) (backOf (W := 0) (rmRc2 l Z a0 hw []  h0 n0 Z0 ) hZ (hw _ (List.mem_of_getElem? (i := 52) rfl)) (hw _ (List.mem_of_getElem? (i := 48) rfl)) (by decide) (by decide)) (g := (mkF m 4 #[.val (.ref a1), .val (.int (0 : Int32)), .val (.int (2 : Int32)), .val .null, .unset] [(.int (2 : Int32)), (.int (0 : Int32)), (.int (8 : Int32))])) rfl (by rw [hml]; rfl) (argsL := [(.int (8 : Int32)), (.int (0 : Int32)), (.int (2 : Int32))]) (rest := []) (lenOf pd_3 rfl) rfl (by show 2 * 0 + _ ≤ _; exact Nat.le_of_eq rfl) (hb hby d8_4) (fun _ _ => ⟨rfl, e0, (by decide : 0 + 0 ≤ _), (by decide : 0 + 0 ≤ _)⟩)
  dsimp only [Pt.U, Pt.locs, Pt.cells, Pt.slots] at X2 l2 y2 z2 st2 hQ2
  subst l2 y2 z2
  obtain ⟨rfl, Nq2, eh2⟩ := hQ2
  have N2 := Fr.app N0 Nq2
  refine Go.step (T' := T2) (f' := (mkF m 7 #[.val (.ref a1), .val (.int (0 : Int32)), .val (.int (2 : Int32)), .val .null, .unset] [])) st2 ?_
  refine Go.step (T' := T2) (f' := (mkF m 8 #[.val (.ref a1), .val (.int (0 : Int32)), .val (.int (2 : Int32)), .val .null, .unset] [(.int (0 : Int32))])) (fun _ k => XS.iloadN X2.here hx rfl (hb hby d8_7) rfl k) ?_
  refine Go.step (T' := T2) (f' := (mkF m 10 #[.val (.ref a1), .val (.int (0 : Int32)), .val (.int (2 : Int32)), .val .null, .val (.int (0 : Int32))] [])) (fun _ k => XS.istore X2.here hx rfl (hb hby d8_8) rfl (l' := #[.val (.ref a1), .val (.int (0 : Int32)), .val (.int (2 : Int32)), .val .null, .val (.int (0 : Int32))]) rfl k) ?_
  refine Go.step (T' := T2) (f' := (mkF m 12 #[.val (.ref a1), .val (.int (0 : Int32)), .val (.int (2 : Int32)), .val .null, .val (.int (0 : Int32))] [(.int (0 : Int32))])) (fun _ k => XS.iload X2.here hx rfl (hb hby d8_10) rfl k) ?_
  refine Go.step (T' := T2) (f' := (mkF m 13 #[.val (.ref a1), .val (.int (0 : Int32)), .val (.int (2 : Int32)), .val .null, .val (.int (0 : Int32))] [(.int (2 : Int32)), (.int (0 : Int32))])) (fun _ k => XS.iloadN X2.here hx rfl (hb hby d8_12) rfl k) ?_
  refine Go.step (T' := T2) (f' := (mkF m 16 #[.val (.ref a1), .val (.int (0 : Int32)), .val (.int (2 : Int32)), .val .null, .val (.int (0 : Int32))] [])) (fun _ k => XS.icmpNo X2.here hx rfl (hb hby d8_13) rfl (tlt (by decide : (0 : Int32) < (2 : Int32))).2.1 k) ?_
  refine Go.step (T' := T2) (f' := (mkF m 17 #[.val (.ref a1), .val (.int (0 : Int32)), .val (.int (2 : Int32)), .val .null, .val (.int (0 : Int32))] [(.ref a1)])) (fun _ k => XS.aloadN X2.here hx rfl (hb hby d8_16) rfl rfl k) ?_
  refine Go.step (T' := T2) (f' := (mkF m 19 #[.val (.ref a1), .val (.int (0 : Int32)), .val (.int (2 : Int32)), .val .null, .val (.int (0 : Int32))] [(.int (0 : Int32)), (.ref a1)])) (fun _ k => XS.iload X2.here hx rfl (hb hby d8_17) rfl k) ?_
  refine Go.step (T' := T2) (f' := (mkF m 20 #[.val (.ref a1), .val (.int (0 : Int32)), .val (.int (2 : Int32)), .val .null, .val (.int (0 : Int32))] [.null, (.int (0 : Int32)), (.ref a1)])) (fun _ k => XS.aloadN X2.here hx rfl (hb hby d8_19) rfl rfl k) ?_
  obtain ⟨cl3, Ar3, qc3, Sz3, Nn3, Hs3, Gf3⟩ := id V_a1
  have hin4 : ¬ ((0 : Int32) < 0 ∨ cl3.slots.size ≤ ((0 : Int32)).toNatClampNeg) := (inb_of Sz3 ⟨by decide, by decide⟩)
  obtain ⟨T4, h4, X4, e4, W4, st4⟩ := stR X2 hx hZ eh2 Ar3 (j := (0 : Int32)) hin4 rfl (Or.inl rfl) (g := (mkF m 20 #[.val (.ref a1), .val (.int (0 : Int32)), .val (.int (2 : Int32)), .val .null, .val (.int (0 : Int32))] [.null, (.int (0 : Int32)), (.ref a1)])) rfl rfl (hb hby d8_20)
  have N4 := Fr.snoc X4 N2 g_a1
  have Z5 : n0 ≤ h4.size := Nat.le_trans Z0 (Keep.of_wr W4).1
  have K5 : Keep h0 h4 [a1] := (Keep.refl h0 [a1]).wr W4 (Or.inl (List.mem_of_getElem? (i := 0) rfl))
  have Va4 : Arv Z h4 a1 kn (.object "java/lang/String") (8 : Int32) [.null, x1, .null, .null, .null, .null, .null, .null] .null := Arv.set Ar3 qc3 Sz3 Nn3 Hs3 Gf3 rfl W4 0 rfl (Nat.le_of_ble_eq_true rfl)
  refine Go.step (T' := T4) (f' := (mkF m 21 #[.val (.ref a1), .val (.int (0 : Int32)), .val (.int (2 : Int32)), .val .null, .val (.int (0 : Int32))] [])) st4 ?_
  refine Go.step (T' := T4) (f' := (mkF m 24 #[.val (.ref a1), .val (.int (0 : Int32)), .val (.int (2 : Int32)), .val .null, .val (.int (1 : Int32))] [])) (fun _ k => XS.iinc X4.here hx rfl (hb hby d8_21) rfl (l' := #[.val (.ref a1), .val (.int (0 : Int32)), .val (.int (2 : Int32)), .val .null, .val (.int (1 : Int32))]) rfl k) ?_
  refine Go.step (T' := T4) (f' := (mkF m 10 #[.val (.ref a1), .val (.int (0 : Int32)), .val (.int (2 : Int32)), .val .null, .val (.int (1 : Int32))] [])) (fun _ k => XS.goto X4.here hx rfl (pc0 := 24) (pc' := 10) rfl (hb hby d8_24) (by decide) (by decide) k) ?_
  refine Go.step (T' := T4) (f' := (mkF m 12 #[.val (.ref a1), .val (.int (0 : Int32)), .val (.int (2 : Int32)), .val .null, .val (.int (1 : Int32))] [(.int (1 : Int32))])) (fun _ k => XS.iload X4.here hx rfl (hb hby d8_10) rfl k) ?_
  refine Go.step (T' := T4) (f' := (mkF m 13 #[.val (.ref a1), .val (.int (0 : Int32)), .val (.int (2 : Int32)), .val .null, .val (.int (1 : Int32))] [(.int (2 : Int32)), (.int (1 : Int32))])) (fun _ k => XS.iloadN X4.here hx rfl (hb hby d8_12) rfl k) ?_
  refine Go.step (T' := T4) (f' := (mkF m 16 #[.val (.ref a1), .val (.int (0 : Int32)), .val (.int (2 : Int32)), .val .null, .val (.int (1 : Int32))] [])) (fun _ k => XS.icmpNo X4.here hx rfl (hb hby d8_13) rfl (tlt (by decide : (1 : Int32) < (2 : Int32))).2.1 k) ?_
  refine Go.step (T' := T4) (f' := (mkF m 17 #[.val (.ref a1), .val (.int (0 : Int32)), .val (.int (2 : Int32)), .val .null, .val (.int (1 : Int32))] [(.ref a1)])) (fun _ k => XS.aloadN X4.here hx rfl (hb hby d8_16) rfl rfl k) ?_
  refine Go.step (T' := T4) (f' := (mkF m 19 #[.val (.ref a1), .val (.int (0 : Int32)), .val (.int (2 : Int32)), .val .null, .val (.int (1 : Int32))] [(.int (1 : Int32)), (.ref a1)])) (fun _ k => XS.iload X4.here hx rfl (hb hby d8_17) rfl k) ?_
  refine Go.step (T' := T4) (f' := (mkF m 20 #[.val (.ref a1), .val (.int (0 : Int32)), .val (.int (2 : Int32)), .val .null, .val (.int (1 : Int32))] [.null, (.int (1 : Int32)), (.ref a1)])) (fun _ k => XS.aloadN X4.here hx rfl (hb hby d8_19) rfl rfl k) ?_
  obtain ⟨cl6, Ar6, qc6, Sz6, Nn6, Hs6, Gf6⟩ := id Va4
  have hin7 : ¬ ((1 : Int32) < 0 ∨ cl6.slots.size ≤ ((1 : Int32)).toNatClampNeg) := (inb_of Sz6 ⟨by decide, by decide⟩)
  obtain ⟨T7, h7, X7, e7, W7, st7⟩ := stR X4 hx hZ e4 Ar6 (j := (1 : Int32)) hin7 rfl (Or.inl rfl) (g := (mkF m 20 #[.val (.ref a1), .val (.int (0 : Int32)), .val (.int (2 : Int32)), .val .null, .val (.int (1 : Int32))] [.null, (.int (1 : Int32)), (.ref a1)])) rfl rfl (hb hby d8_20)
  have N7 := Fr.snoc X7 N4 g_a1
  have Z8 : n0 ≤ h7.size := Nat.le_trans Z5 (Keep.of_wr W7).1
  have K8 : Keep h0 h7 [a1] := K5.wr W7 (Or.inl (List.mem_of_getElem? (i := 0) rfl))
  have Va7 : Arv Z h7 a1 kn (.object "java/lang/String") (8 : Int32) [.null, .null, .null, .null, .null, .null, .null, .null] .null := Arv.set Ar6 qc6 Sz6 Nn6 Hs6 Gf6 rfl W7 1 rfl (Nat.le_of_ble_eq_true rfl)
  refine Go.step (T' := T7) (f' := (mkF m 21 #[.val (.ref a1), .val (.int (0 : Int32)), .val (.int (2 : Int32)), .val .null, .val (.int (1 : Int32))] [])) st7 ?_
  refine Go.step (T' := T7) (f' := (mkF m 24 #[.val (.ref a1), .val (.int (0 : Int32)), .val (.int (2 : Int32)), .val .null, .val (.int (2 : Int32))] [])) (fun _ k => XS.iinc X7.here hx rfl (hb hby d8_21) rfl (l' := #[.val (.ref a1), .val (.int (0 : Int32)), .val (.int (2 : Int32)), .val .null, .val (.int (2 : Int32))]) rfl k) ?_
  refine Go.step (T' := T7) (f' := (mkF m 10 #[.val (.ref a1), .val (.int (0 : Int32)), .val (.int (2 : Int32)), .val .null, .val (.int (2 : Int32))] [])) (fun _ k => XS.goto X7.here hx rfl (pc0 := 24) (pc' := 10) rfl (hb hby d8_24) (by decide) (by decide) k) ?_
  refine Go.step (T' := T7) (f' := (mkF m 12 #[.val (.ref a1), .val (.int (0 : Int32)), .val (.int (2 : Int32)), .val .null, .val (.int (2 : Int32))] [(.int (2 : Int32))])) (fun _ k => XS.iload X7.here hx rfl (hb hby d8_10) rfl k) ?_
  refine Go.step (T' := T7) (f' := (mkF m 13 #[.val (.ref a1), .val (.int (0 : Int32)), .val (.int (2 : Int32)), .val .null, .val (.int (2 : Int32))] [(.int (2 : Int32)), (.int (2 : Int32))])) (fun _ k => XS.iloadN X7.here hx rfl (hb hby d8_12) rfl k) ?_
  refine Go.step (T' := T7) (f' := (mkF m 27 #[.val (.ref a1), .val (.int (0 : Int32)), .val (.int (2 : Int32)), .val .null, .val (.int (2 : Int32))] [])) (fun _ k => XS.icmpYes X7.here hx rfl (pc0 := 13) (pc' := 27) rfl (hb hby d8_13) rfl (flt (by decide : ¬ ((2 : Int32) < (2 : Int32)))).2.1 (by decide) (by decide) k) ?_
  refine goV X7 hx Bd.returns Bd.notSynchronized (hb hby d8_27) ?_ (by decide) (by decide)
  show Q_rmFl2 Z a1 kn x0 x1 h0 n0 _ T7.heap _
  rw [e7]
  exact ⟨rfl, N7, K8, Va7⟩
theorem ef_rmClr2 (m : MethodId) (a1 : Addr) : entryFrame m #[(.ref a1)] 1 = mkF m 0 #[.val (.ref a1)] [] := by first | (simp [entryFrame, mkF, argsToLocals, Value.category]; done) | rfl
def Q_rmClr2 (Z : State) (a1 : Addr) (n : Addr) (v : Addr) (kn : ClassId) (kv : ClassId) (x0 : Value) (x1 : Value) (y0 : Value) (y1 : Value) (h0 : Heap) (n0 : Nat) (rv : Option Value) (hq : Heap) (Lq : List Loc) : Prop := rv = none ∧ Fr n0 Lq ∧ Keep h0 hq [a1, n, v] ∧ Fld Z hq a1 "com/example/tenderbook/tenderbook/Fields" "names" "[Ljava/lang/String;" (.ref n) ∧ Fld Z hq a1 "com/example/tenderbook/tenderbook/Fields" "values" "[Ljava/lang/String;" (.ref v) ∧ Fld Z hq a1 "com/example/tenderbook/tenderbook/Fields" "size" "I" (.int (0 : Int32)) ∧ Arv Z hq n kn (.object "java/lang/String") (8 : Int32) [.null, .null, .null, .null, .null, .null, .null, .null] .null ∧ Arv Z hq v kv (.object "java/lang/String") (8 : Int32) [.null, .null, .null, .null, .null, .null, .null, .null] .null
set_option maxRecDepth 65536 in
set_option maxHeartbeats 40000000 in
theorem rmClr2 (l : Launch) (Z : State) (a0 : Array Value) (hw : ∀ d ∈ tables_1, d.before a0 Z = true) (ws : List Jvm.Cond) (a1 : Addr) (n : Addr) (v : Addr) (kn : ClassId) (kv : ClassId) (x0 : Value) (x1 : Value) (y0 : Value) (y1 : Value) (h0 : Heap) (n0 : Nat) (Z0 : n0 ≤ h0.size) (E_a1 : Exa Z h0 a1 "com/example/tenderbook/tenderbook/Fields") (F_names_a1 : Fld Z h0 a1 "com/example/tenderbook/tenderbook/Fields" "names" "[Ljava/lang/String;" (.ref n)) (F_values_a1 : Fld Z h0 a1 "com/example/tenderbook/tenderbook/Fields" "values" "[Ljava/lang/String;" (.ref v)) (F_size_a1 : Fld Z h0 a1 "com/example/tenderbook/tenderbook/Fields" "size" "I" (.int (2 : Int32))) (V_n : Arv Z h0 n kn (.object "java/lang/String") (8 : Int32) [x0, x1, .null, .null, .null, .null, .null, .null] .null) (V_v : Arv Z h0 v kv (.object "java/lang/String") (8 : Int32) [y0, y1, .null, .null, .null, .null, .null, .null] .null) (hna : n ≠ a1) (hva : v ≠ a1) (hnv : n ≠ v) (g_a1 : n0 ≤ a1) (g_n : n0 ≤ n) (g_v : n0 ≤ v) :
    MetFree l (⟨"com/example/tenderbook/tenderbook/Fields", "clear", "()V"⟩ : MethodName) (head1 (Jvm.Cond.code (⟨"com/example/tenderbook/tenderbook/Fields", "clear", "()V"⟩ : MethodName) prog_8_method_11_code 1 none :: ws) ({ frames := 2, cells := 0, slots := 0, locals := 30 } : Room)) (fun a U => a = #[(.ref a1)] ∧ Z.Warmed39 U.vm ∧ U.heap = h0) (fun _ _ _ _ _ => True) (fun _ U o U' => ∃ rv Lq, o = .returned rv ∧ Q_rmClr2 Z a1 n v kn kv x0 x1 y0 y1 h0 n0 rv U'.heap Lq ∧ FrameEnd U o U' Lq ({ frames := 2, cells := 0, slots := 0, locals := 30 } : Room).cells ({ frames := 2, cells := 0, slots := 0, locals := 30 } : Room).slots) := by
  refine MetFree.of_bodySF (plainFor_of_name pn_6) hisR ?_
  intro p e s m args below meth c s₁ Bd hml0 hP hK
  obtain ⟨rfl, hZ, hh⟩ := hP
  have hx := Bd.exec
  have hby := Bd.bytes
  have hml : c.maxLocals = 1 := hml0
  have hown : s.vm.findClass "com/example/tenderbook/tenderbook/Fields" = some m.cls := findClass_of_methodNamed Bd.named
  have hnm := (name_of_methodNamed Bd.named Bd.method).1
  have X0 : Stand p l e ({ frames := 2, cells := 0, slots := 0, locals := 30 } : Room) s m #[(.ref a1)] below meth c s₁ [] 0 0 := Stand.of_body Bd
  have e0 : s₁.heap = h0 := by rw [← hh, Bd.state]; rfl
  have N0 := Fr.nil n0
  refine of_go (ef_rmClr2 m a1) ?_
  refine Go.step (T' := s₁) (f' := (mkF m 1 #[.val (.ref a1)] [(.ref a1)])) (fun _ k => XS.aloadN X0.here hx rfl (hb hby d7_0) rfl rfl k) ?_
  obtain ⟨T1, X1, e1, st1⟩ := getF X0 hx hZ hown (host := "") (Or.inl (hw _ (List.mem_of_getElem? (i := 35) rfl))) Via.refl e0 F_names_a1 (g := (mkF m 1 #[.val (.ref a1)] [(.ref a1)])) rfl rfl (hb hby d7_1)
  refine Go.step (T' := T1) (f' := (mkF m 4 #[.val (.ref a1)] [(.ref n)])) st1 ?_
  refine Go.step (T' := T1) (f' := (mkF m 5 #[.val (.ref a1)] [(.int (0 : Int32)), (.ref n)])) (fun _ k => XS.iconst X1.here hx rfl (hb hby d7_4) k) ?_
  refine Go.step (T' := T1) (f' := (mkF m 6 #[.val (.ref a1)] [(.ref a1), (.int (0 : Int32)), (.ref n)])) (fun _ k => XS.aloadN X1.here hx rfl (hb hby d7_5) rfl rfl k) ?_
  obtain ⟨T2, X2, e2, st2⟩ := getF X1 hx hZ hown (host := "") (Or.inl (hw _ (List.mem_of_getElem? (i := 44) rfl))) Via.refl e1 F_size_a1 (g := (mkF m 6 #[.val (.ref a1)] [(.ref a1), (.int (0 : Int32)), (.ref n)])) rfl rfl (hb hby d7_6)
  refine Go.step (T' := T2) (f' := (mkF m 9 #[.val (.ref a1)] [(.int (2 : Int32)), (.int (0 : Int32)), (.ref n)])) st2 ?_
  refine Go.step (T' := T2) (f' := (mkF m 10 #[.val (.ref a1)] [.null, (.int (2 : Int32)), (.int (0 : Int32)), (.ref n)])) (fun _ k => XS.aconstNull X2.here hx rfl (hb hby d7_9) k) ?_
  obtain ⟨_, _, ⟨T3, L3, k3, n3⟩, -, X3, ⟨Lc3, hQ3, l3, y3, z3⟩, st3⟩ := Jvm.LawKit.callS X2 hx (y := (⟨"java/util/Arrays", "fill", "([Ljava/lang/Object;IILjava/lang/Object;)V"⟩ : MethodName)) hown (mvT hZ (hw _ (List.mem_of_getElem? (i := 46) rfl))) (mvT hZ (hw _ (List.mem_of_getElem? (i := 47) rfl))) (mvT hZ (hw _ (List.mem_of_getElem? (i := 48) rfl))) (mvT hZ (hw _ (List.mem_of_getElem? (i := 49) rfl))) (by decide) (backOf (W := 0) (rmFl2 l Z a0 hw [] n kn x0 x1 h0 n0 Z0 V_n g_n) hZ (hw _ (List.mem_of_getElem? (i := 49) rfl)) (hw _ (List.mem_of_getElem? (i := 48) rfl)) (by decide) (by decide)) (g := (mkF m 10 #[.val (.ref a1)] [.null, (.int (2 : Int32)), (.int (0 : Int32)), (.ref n)])) rfl (by rw [hml]; rfl) (argsL := [(.ref n), (.int (0 : Int32)), (.int (2 : Int32)), .null]) (rest := []) (lenOf pd_4 rfl) rfl (by show 2 * 0 + _ ≤ _; exact Nat.le_of_eq rfl) (hb hby d7_10) (fun _ _ => ⟨rfl, e2, (by decide : 0 + 0 ≤ _), (by decide : 0 + 0 ≤ _)⟩)
  dsimp only [Pt.U, Pt.locs, Pt.cells, Pt.slots] at X3 l3 y3 z3 st3 hQ3
  subst l3 y3 z3
  obtain ⟨rfl, Nq3, Kq3, r3_0⟩ := hQ3
  have N3 := Fr.app N0 Nq3
  have Z4 : n0 ≤ T3.heap.size := Nat.le_trans Z0 Kq3.1
  have K4 : Keep h0 T3.heap [a1, n, v] := (Keep.refl h0 [a1, n, v]).trans Kq3 (allS (Or.inl (List.mem_of_getElem? (i := 1) rfl)) all0)
  refine Go.step (T' := T3) (f' := (mkF m 13 #[.val (.ref a1)] [])) st3 ?_
  refine Go.step (T' := T3) (f' := (mkF m 14 #[.val (.ref a1)] [(.ref a1)])) (fun _ k => XS.aloadN X3.here hx rfl (hb hby d7_13) rfl rfl k) ?_
  have q5 : Fld Z T3.heap a1 "com/example/tenderbook/tenderbook/Fields" "values" "[Ljava/lang/String;" (.ref v) := (F_values_a1.keep Kq3 (ninS (Ne.symm hna) nin0))
  obtain ⟨T6, X6, e6, st6⟩ := getF X3 hx hZ hown (host := "") (Or.inl (hw _ (List.mem_of_getElem? (i := 37) rfl))) Via.refl rfl q5 (g := (mkF m 14 #[.val (.ref a1)] [(.ref a1)])) rfl rfl (hb hby d7_14)
  refine Go.step (T' := T6) (f' := (mkF m 17 #[.val (.ref a1)] [(.ref v)])) st6 ?_
  refine Go.step (T' := T6) (f' := (mkF m 18 #[.val (.ref a1)] [(.int (0 : Int32)), (.ref v)])) (fun _ k => XS.iconst X6.here hx rfl (hb hby d7_17) k) ?_
  refine Go.step (T' := T6) (f' := (mkF m 19 #[.val (.ref a1)] [(.ref a1), (.int (0 : Int32)), (.ref v)])) (fun _ k => XS.aloadN X6.here hx rfl (hb hby d7_18) rfl rfl k) ?_
  have q7 : Fld Z T3.heap a1 "com/example/tenderbook/tenderbook/Fields" "size" "I" (.int (2 : Int32)) := (F_size_a1.keep Kq3 (ninS (Ne.symm hna) nin0))
  obtain ⟨T8, X8, e8, st8⟩ := getF X6 hx hZ hown (host := "") (Or.inl (hw _ (List.mem_of_getElem? (i := 44) rfl))) Via.refl e6 q7 (g := (mkF m 19 #[.val (.ref a1)] [(.ref a1), (.int (0 : Int32)), (.ref v)])) rfl rfl (hb hby d7_19)
  refine Go.step (T' := T8) (f' := (mkF m 22 #[.val (.ref a1)] [(.int (2 : Int32)), (.int (0 : Int32)), (.ref v)])) st8 ?_
  refine Go.step (T' := T8) (f' := (mkF m 23 #[.val (.ref a1)] [.null, (.int (2 : Int32)), (.int (0 : Int32)), (.ref v)])) (fun _ k => XS.aconstNull X8.here hx rfl (hb hby d7_22) k) ?_
  have q10 : Arv Z T3.heap v kv (.object "java/lang/String") (8 : Int32) [y0, y1, .null, .null, .null, .null, .null, .null] .null := (V_v.keep Kq3 (ninS (Ne.symm hnv) nin0))
  obtain ⟨_, _, ⟨T9, L9, k9, n9⟩, -, X9, ⟨Lc9, hQ9, l9, y9, z9⟩, st9⟩ := Jvm.LawKit.callS X8 hx (y := (⟨"java/util/Arrays", "fill", "([Ljava/lang/Object;IILjava/lang/Object;)V"⟩ : MethodName)) hown (mvT hZ (hw _ (List.mem_of_getElem? (i := 46) rfl))) (mvT hZ (hw _ (List.mem_of_getElem? (i := 47) rfl))) (mvT hZ (hw _ (List.mem_of_getElem? (i := 48) rfl))) (mvT hZ (hw _ (List.mem_of_getElem? (i := 49) rfl))) (by decide) (backOf (W := 0) (rmFl2 l Z a0 hw [] v kv y0 y1 T3.heap n0 Z4 q10 g_v) hZ (hw _ (List.mem_of_getElem? (i := 49) rfl)) (hw _ (List.mem_of_getElem? (i := 48) rfl)) (by decide) (by decide)) (g := (mkF m 23 #[.val (.ref a1)] [.null, (.int (2 : Int32)), (.int (0 : Int32)), (.ref v)])) rfl (by rw [hml]; rfl) (argsL := [(.ref v), (.int (0 : Int32)), (.int (2 : Int32)), .null]) (rest := []) (lenOf pd_4 rfl) rfl (by show 2 * 0 + _ ≤ _; exact Nat.le_of_eq rfl) (hb hby d7_23) (fun _ _ => ⟨rfl, e8, (by decide : 0 + 0 ≤ _), (by decide : 0 + 0 ≤ _)⟩)
  dsimp only [Pt.U, Pt.locs, Pt.cells, Pt.slots] at X9 l9 y9 z9 st9 hQ9
  subst l9 y9 z9
  obtain ⟨rfl, Nq9, Kq9, r9_0⟩ := hQ9
  have N9 := Fr.app N3 Nq9
  have Z11 : n0 ≤ T9.heap.size := Nat.le_trans Z4 Kq9.1
  have K11 : Keep h0 T9.heap [a1, n, v] := K4.trans Kq9 (allS (Or.inl (List.mem_of_getElem? (i := 2) rfl)) all0)
  refine Go.step (T' := T9) (f' := (mkF m 26 #[.val (.ref a1)] [])) st9 ?_
  refine Go.step (T' := T9) (f' := (mkF m 27 #[.val (.ref a1)] [(.ref a1)])) (fun _ k => XS.aloadN X9.here hx rfl (hb hby d7_26) rfl rfl k) ?_
  refine Go.step (T' := T9) (f' := (mkF m 28 #[.val (.ref a1)] [(.int (0 : Int32)), (.ref a1)])) (fun _ k => XS.iconst X9.here hx rfl (hb hby d7_27) k) ?_
  have q12 : Fld Z T9.heap a1 "com/example/tenderbook/tenderbook/Fields" "size" "I" (.int (2 : Int32)) := (q7.keep Kq9 (ninS (Ne.symm hva) nin0))
  have q13 : Exa Z T9.heap a1 "com/example/tenderbook/tenderbook/Fields" := ((E_a1.keep Kq3).keep Kq9)
  obtain ⟨T14, h14, X14, e14, W14, st14⟩ := putF X9 hx hZ hown (host := "") (Or.inl (hw _ (List.mem_of_getElem? (i := 44) rfl))) Via.refl rfl q12 q13 (Or.inl (hw _ (List.mem_of_getElem? (i := 45) rfl))) (hw _ (List.mem_of_getElem? (i := 27) rfl)) (ty := .int) (by decide) rfl rfl (g := (mkF m 28 #[.val (.ref a1)] [(.int (0 : Int32)), (.ref a1)])) rfl rfl (hb hby d7_28)
  have N14 := Fr.snoc X14 N9 g_a1
  have Z15 : n0 ≤ h14.size := Nat.le_trans Z11 (Keep.of_wr W14).1
  have K15 : Keep h0 h14 [a1, n, v] := K11.wr W14 (Or.inl (List.mem_of_getElem? (i := 0) rfl))
  have Fw14 := q12.same W14
  refine Go.step (T' := T14) (f' := (mkF m 31 #[.val (.ref a1)] [])) st14 ?_
  refine goV X14 hx Bd.returns Bd.notSynchronized (hb hby d7_31) ?_ (by decide) (by decide)
  show Q_rmClr2 Z a1 n v kn kv x0 x1 y0 y1 h0 n0 _ T14.heap _
  rw [e14]
  have q16 : Fld Z h14 a1 "com/example/tenderbook/tenderbook/Fields" "names" "[Ljava/lang/String;" (.ref n) := (((F_names_a1.keep Kq3 (ninS (Ne.symm hna) nin0)).keep Kq9 (ninS (Ne.symm hva) nin0)).other W14 (Or.inr (slot_ne (Or.inl (hw _ (List.mem_of_getElem? (i := 36) rfl))) (Or.inl (hw _ (List.mem_of_getElem? (i := 45) rfl))) (by decide) (t := (.array (.object "java/lang/String"))) (t' := .int) (by decide) (by decide))))
  have q17 : Fld Z h14 a1 "com/example/tenderbook/tenderbook/Fields" "values" "[Ljava/lang/String;" (.ref v) := ((q5.keep Kq9 (ninS (Ne.symm hva) nin0)).other W14 (Or.inr (slot_ne (Or.inl (hw _ (List.mem_of_getElem? (i := 38) rfl))) (Or.inl (hw _ (List.mem_of_getElem? (i := 45) rfl))) (by decide) (t := (.array (.object "java/lang/String"))) (t' := .int) (by decide) (by decide))))
  have q18 : Arv Z h14 n kn (.object "java/lang/String") (8 : Int32) [.null, .null, .null, .null, .null, .null, .null, .null] .null := ((r3_0.keep Kq9 (ninS hnv nin0)).other W14 hna)
  have q19 : Arv Z h14 v kv (.object "java/lang/String") (8 : Int32) [.null, .null, .null, .null, .null, .null, .null, .null] .null := (r9_0.other W14 hva)
  exact ⟨rfl, N14, K15, q16, q17, Fw14, q18, q19⟩
theorem ef_rmRc3 (m : MethodId)  : entryFrame m #[(.int (8 : Int32)), (.int (0 : Int32)), (.int (3 : Int32))] 3 = mkF m 0 #[.val (.int (8 : Int32)), .val (.int (0 : Int32)), .val (.int (3 : Int32))] [] := by first | (simp [entryFrame, mkF, argsToLocals, Value.category]; done) | rfl
def Q_rmRc3 (Z : State)  (h0 : Heap) (n0 : Nat) (rv : Option Value) (hq : Heap) (Lq : List Loc) : Prop := rv = none ∧ Fr n0 Lq ∧ hq = h0
set_option maxRecDepth 65536 in
set_option maxHeartbeats 40000000 in
theorem rmRc3 (l : Launch) (Z : State) (a0 : Array Value) (hw : ∀ d ∈ tables_1, d.before a0 Z = true) (ws : List Jvm.Cond)  (h0 : Heap) (n0 : Nat) (Z0 : n0 ≤ h0.size) :
    MetFree l (⟨"java/util/Arrays", "rangeCheck", "(III)V"⟩ : MethodName) (head1 (Jvm.Cond.code (⟨"java/util/Arrays", "rangeCheck", "(III)V"⟩ : MethodName) jdk_65_method_30_code 3 none :: ws) ({ frames := 0, cells := 0, slots := 0, locals := 0 } : Room)) (fun a U => a = #[(.int (8 : Int32)), (.int (0 : Int32)), (.int (3 : Int32))] ∧ Z.Warmed39 U.vm ∧ U.heap = h0) (fun _ _ _ _ _ => True) (fun _ U o U' => ∃ rv Lq, o = .returned rv ∧ Q_rmRc3 Z  h0 n0 rv U'.heap Lq ∧ FrameEnd U o U' Lq ({ frames := 0, cells := 0, slots := 0, locals := 0 } : Room).cells ({ frames := 0, cells := 0, slots := 0, locals := 0 } : Room).slots) := by
  refine MetFree.of_bodySF (plainFor_of_name pn_9) hisR ?_
  intro p e s m args below meth c s₁ Bd hml0 hP hK
  obtain ⟨rfl, hZ, hh⟩ := hP
  have hx := Bd.exec
  have hby := Bd.bytes
  have hml : c.maxLocals = 3 := hml0
  have hown : s.vm.findClass "java/util/Arrays" = some m.cls := findClass_of_methodNamed Bd.named
  have hnm := (name_of_methodNamed Bd.named Bd.method).1
  have X0 : Stand p l e ({ frames := 0, cells := 0, slots := 0, locals := 0 } : Room) s m #[(.int (8 : Int32)), (.int (0 : Int32)), (.int (3 : Int32))] below meth c s₁ [] 0 0 := Stand.of_body Bd
  have e0 : s₁.heap = h0 := by rw [← hh, Bd.state]; rfl
  have N0 := Fr.nil n0
  refine of_go (ef_rmRc3 m ) ?_
  refine Go.step (T' := s₁) (f' := (mkF m 1 #[.val (.int (8 : Int32)), .val (.int (0 : Int32)), .val (.int (3 : Int32))] [(.int (0 : Int32))])) (fun _ k => XS.iloadN X0.here hx rfl (hb hby d9_0) rfl k) ?_
  refine Go.step (T' := s₁) (f' := (mkF m 2 #[.val (.int (8 : Int32)), .val (.int (0 : Int32)), .val (.int (3 : Int32))] [(.int (3 : Int32)), (.int (0 : Int32))])) (fun _ k => XS.iloadN X0.here hx rfl (hb hby d9_1) rfl k) ?_
  refine Go.step (T' := s₁) (f' := (mkF m 46 #[.val (.int (8 : Int32)), .val (.int (0 : Int32)), .val (.int (3 : Int32))] [])) (fun _ k => XS.icmpYes X0.here hx rfl (pc0 := 2) (pc' := 46) rfl (hb hby d9_2) rfl (flt (by decide : ¬ ((3 : Int32) < (0 : Int32)))).2.2.2 (by decide) (by decide) k) ?_
  refine Go.step (T' := s₁) (f' := (mkF m 47 #[.val (.int (8 : Int32)), .val (.int (0 : Int32)), .val (.int (3 : Int32))] [(.int (0 : Int32))])) (fun _ k => XS.iloadN X0.here hx rfl (hb hby d9_46) rfl k) ?_
  refine Go.step (T' := s₁) (f' := (mkF m 59 #[.val (.int (8 : Int32)), .val (.int (0 : Int32)), .val (.int (3 : Int32))] [])) (fun _ k => XS.ifYes X0.here hx rfl (pc0 := 47) (pc' := 59) rfl (hb hby d9_47) rfl ((if0 _ _).trans (flt (by decide : ¬ ((0 : Int32) < (0 : Int32)))).2.1) (by decide) (by decide) k) ?_
  refine Go.step (T' := s₁) (f' := (mkF m 60 #[.val (.int (8 : Int32)), .val (.int (0 : Int32)), .val (.int (3 : Int32))] [(.int (3 : Int32))])) (fun _ k => XS.iloadN X0.here hx rfl (hb hby d9_59) rfl k) ?_
  refine Go.step (T' := s₁) (f' := (mkF m 61 #[.val (.int (8 : Int32)), .val (.int (0 : Int32)), .val (.int (3 : Int32))] [(.int (8 : Int32)), (.int (3 : Int32))])) (fun _ k => XS.iloadN X0.here hx rfl (hb hby d9_60) rfl k) ?_
  refine Go.step (T' := s₁) (f' := (mkF m 73 #[.val (.int (8 : Int32)), .val (.int (0 : Int32)), .val (.int (3 : Int32))] [])) (fun _ k => XS.icmpYes X0.here hx rfl (pc0 := 61) (pc' := 73) rfl (hb hby d9_61) rfl (flt (by decide : ¬ ((8 : Int32) < (3 : Int32)))).2.2.2 (by decide) (by decide) k) ?_
  refine goV X0 hx Bd.returns Bd.notSynchronized (hb hby d9_73) ?_ (by decide) (by decide)
  show Q_rmRc3 Z  h0 n0 _ s₁.heap _
  rw [e0]
  exact ⟨rfl, N0, rfl⟩
theorem ef_rmFl3 (m : MethodId) (a1 : Addr) : entryFrame m #[(.ref a1), (.int (0 : Int32)), (.int (3 : Int32)), .null] 5 = mkF m 0 #[.val (.ref a1), .val (.int (0 : Int32)), .val (.int (3 : Int32)), .val .null, .unset] [] := by first | (simp [entryFrame, mkF, argsToLocals, Value.category]; done) | rfl
def Q_rmFl3 (Z : State) (a1 : Addr) (kn : ClassId) (x0 : Value) (x1 : Value) (x2 : Value) (h0 : Heap) (n0 : Nat) (rv : Option Value) (hq : Heap) (Lq : List Loc) : Prop := rv = none ∧ Fr n0 Lq ∧ Keep h0 hq [a1] ∧ Arv Z hq a1 kn (.object "java/lang/String") (8 : Int32) [.null, .null, .null, .null, .null, .null, .null, .null] .null
set_option maxRecDepth 65536 in
set_option maxHeartbeats 40000000 in
theorem rmFl3 (l : Launch) (Z : State) (a0 : Array Value) (hw : ∀ d ∈ tables_1, d.before a0 Z = true) (ws : List Jvm.Cond) (a1 : Addr) (kn : ClassId) (x0 : Value) (x1 : Value) (x2 : Value) (h0 : Heap) (n0 : Nat) (Z0 : n0 ≤ h0.size) (V_a1 : Arv Z h0 a1 kn (.object "java/lang/String") (8 : Int32) [x0, x1, x2, .null, .null, .null, .null, .null] .null) (g_a1 : n0 ≤ a1) :
    MetFree l (⟨"java/util/Arrays", "fill", "([Ljava/lang/Object;IILjava/lang/Object;)V"⟩ : MethodName) (head1 (Jvm.Cond.code (⟨"java/util/Arrays", "fill", "([Ljava/lang/Object;IILjava/lang/Object;)V"⟩ : MethodName) jdk_65_method_118_code 5 none :: ws) ({ frames := 1, cells := 0, slots := 0, locals := 14 } : Room)) (fun a U => a = #[(.ref a1), (.int (0 : Int32)), (.int (3 : Int32)), .null] ∧ Z.Warmed39 U.vm ∧ U.heap = h0) (fun _ _ _ _ _ => True) (fun _ U o U' => ∃ rv Lq, o = .returned rv ∧ Q_rmFl3 Z a1 kn x0 x1 x2 h0 n0 rv U'.heap Lq ∧ FrameEnd U o U' Lq ({ frames := 1, cells := 0, slots := 0, locals := 14 } : Room).cells ({ frames := 1, cells := 0, slots := 0, locals := 14 } : Room).slots) := by
  refine MetFree.of_bodySF (plainFor_of_name pn_9) hisR ?_
  intro p e s m args below meth c s₁ Bd hml0 hP hK
  obtain ⟨rfl, hZ, hh⟩ := hP
  have hx := Bd.exec
  have hby := Bd.bytes
  have hml : c.maxLocals = 5 := hml0
  have hown : s.vm.findClass "java/util/Arrays" = some m.cls := findClass_of_methodNamed Bd.named
  have hnm := (name_of_methodNamed Bd.named Bd.method).1
  have X0 : Stand p l e ({ frames := 1, cells := 0, slots := 0, locals := 14 } : Room) s m #[(.ref a1), (.int (0 : Int32)), (.int (3 : Int32)), .null] below meth c s₁ [] 0 0 := Stand.of_body Bd
  have e0 : s₁.heap = h0 := by rw [← hh, Bd.state]; rfl
  have N0 := Fr.nil n0
  refine of_go (ef_rmFl3 m a1) ?_
  refine Go.step (T' := s₁) (f' := (mkF m 1 #[.val (.ref a1), .val (.int (0 : Int32)), .val (.int (3 : Int32)), .val .null, .unset] [(.ref a1)])) (fun _ k => XS.aloadN X0.here hx rfl (hb hby d8_0) rfl rfl k) ?_
  obtain ⟨cl1, Ar1, qc1, Sz1, Nn1, Hs1, Gf1⟩ := id V_a1
  have hl1 := X0.arraylength hx (by rw [e0]; exact Ar1.1) (State.isArrayOf_alike hZ.alike Ar1.2.1) (g := (mkF m 1 #[.val (.ref a1), .val (.int (0 : Int32)), .val (.int (3 : Int32)), .val .null, .unset] [(.ref a1)])) rfl rfl (hb hby d8_1)
  rw [len_of Sz1 Nn1] at hl1
  refine Go.step (T' := s₁) (f' := (mkF m 2 #[.val (.ref a1), .val (.int (0 : Int32)), .val (.int (3 : Int32)), .val .null, .unset] [(.int (8 : Int32))])) (fun _ k => hl1 _ k) ?_
  refine Go.step (T' := s₁) (f' := (mkF m 3 #[.val (.ref a1), .val (.int (0 : Int32)), .val (.int (3 : Int32)), .val .null, .unset] [(.int (0 : Int32)), (.int (8 : Int32))])) (fun _ k => XS.iloadN X0.here hx rfl (hb hby d8_2) rfl k) ?_
  refine Go.step (T' := s₁) (f' := (mkF m 4 #[.val (.ref a1), .val (.int (0 : Int32)), .val (.int (3 : Int32)), .val .null, .unset] [(.int (3 : Int32)), (.int (0 : Int32)), (.int (8 : Int32))])) (fun _ k => XS.iloadN X0.here hx rfl (hb hby d8_3) rfl k) ?_
  obtain ⟨_, _, ⟨T2, L2, k2, n2⟩, -, X2, ⟨Lc2, hQ2, l2, y2, z2⟩, st2⟩ := Jvm.LawKit.callS X0 hx (y := (⟨"java/util/Arrays", "rangeCheck", "(III)V"⟩ : MethodName)) hown (mvT hZ (hw _ (List.mem_of_getElem? (i := 50) rfl))) (mvT hZ (hw _ (List.mem_of_getElem? (i := 51) rfl))) (mvT hZ (hw _ (List.mem_of_getElem? (i := 48) rfl))) (mvT hZ (hw _ (List.mem_of_getElem? (i := 52) rfl))) (by decide) (backOf (W := 0) (rmRc3 l Z a0 hw []  h0 n0 Z0 ) hZ (hw _ (List.mem_of_getElem? (i := 52) rfl)) (hw _ (List.mem_of_getElem? (i := 48) rfl)) (by decide) (by decide)) (g := (mkF m 4 #[.val (.ref a1), .val (.int (0 : Int32)), .val (.int (3 : Int32)), .val .null, .unset] [(.int (3 : Int32)), (.int (0 : Int32)), (.int (8 : Int32))])) rfl (by rw [hml]; rfl) (argsL := [(.int (8 : Int32)), (.int (0 : Int32)), (.int (3 : Int32))]) (rest := []) (lenOf pd_3 rfl) rfl (by show 2 * 0 + _ ≤ _; exact Nat.le_of_eq rfl) (hb hby d8_4) (fun _ _ => ⟨rfl, e0, (by decide : 0 + 0 ≤ _), (by decide : 0 + 0 ≤ _)⟩)
  dsimp only [Pt.U, Pt.locs, Pt.cells, Pt.slots] at X2 l2 y2 z2 st2 hQ2
  subst l2 y2 z2
  obtain ⟨rfl, Nq2, eh2⟩ := hQ2
  have N2 := Fr.app N0 Nq2
  refine Go.step (T' := T2) (f' := (mkF m 7 #[.val (.ref a1), .val (.int (0 : Int32)), .val (.int (3 : Int32)), .val .null, .unset] [])) st2 ?_
  refine Go.step (T' := T2) (f' := (mkF m 8 #[.val (.ref a1), .val (.int (0 : Int32)), .val (.int (3 : Int32)), .val .null, .unset] [(.int (0 : Int32))])) (fun _ k => XS.iloadN X2.here hx rfl (hb hby d8_7) rfl k) ?_
  refine Go.step (T' := T2) (f' := (mkF m 10 #[.val (.ref a1), .val (.int (0 : Int32)), .val (.int (3 : Int32)), .val .null, .val (.int (0 : Int32))] [])) (fun _ k => XS.istore X2.here hx rfl (hb hby d8_8) rfl (l' := #[.val (.ref a1), .val (.int (0 : Int32)), .val (.int (3 : Int32)), .val .null, .val (.int (0 : Int32))]) rfl k) ?_
  refine Go.step (T' := T2) (f' := (mkF m 12 #[.val (.ref a1), .val (.int (0 : Int32)), .val (.int (3 : Int32)), .val .null, .val (.int (0 : Int32))] [(.int (0 : Int32))])) (fun _ k => XS.iload X2.here hx rfl (hb hby d8_10) rfl k) ?_
  refine Go.step (T' := T2) (f' := (mkF m 13 #[.val (.ref a1), .val (.int (0 : Int32)), .val (.int (3 : Int32)), .val .null, .val (.int (0 : Int32))] [(.int (3 : Int32)), (.int (0 : Int32))])) (fun _ k => XS.iloadN X2.here hx rfl (hb hby d8_12) rfl k) ?_
  refine Go.step (T' := T2) (f' := (mkF m 16 #[.val (.ref a1), .val (.int (0 : Int32)), .val (.int (3 : Int32)), .val .null, .val (.int (0 : Int32))] [])) (fun _ k => XS.icmpNo X2.here hx rfl (hb hby d8_13) rfl (tlt (by decide : (0 : Int32) < (3 : Int32))).2.1 k) ?_
  refine Go.step (T' := T2) (f' := (mkF m 17 #[.val (.ref a1), .val (.int (0 : Int32)), .val (.int (3 : Int32)), .val .null, .val (.int (0 : Int32))] [(.ref a1)])) (fun _ k => XS.aloadN X2.here hx rfl (hb hby d8_16) rfl rfl k) ?_
  refine Go.step (T' := T2) (f' := (mkF m 19 #[.val (.ref a1), .val (.int (0 : Int32)), .val (.int (3 : Int32)), .val .null, .val (.int (0 : Int32))] [(.int (0 : Int32)), (.ref a1)])) (fun _ k => XS.iload X2.here hx rfl (hb hby d8_17) rfl k) ?_
  refine Go.step (T' := T2) (f' := (mkF m 20 #[.val (.ref a1), .val (.int (0 : Int32)), .val (.int (3 : Int32)), .val .null, .val (.int (0 : Int32))] [.null, (.int (0 : Int32)), (.ref a1)])) (fun _ k => XS.aloadN X2.here hx rfl (hb hby d8_19) rfl rfl k) ?_
  obtain ⟨cl3, Ar3, qc3, Sz3, Nn3, Hs3, Gf3⟩ := id V_a1
  have hin4 : ¬ ((0 : Int32) < 0 ∨ cl3.slots.size ≤ ((0 : Int32)).toNatClampNeg) := (inb_of Sz3 ⟨by decide, by decide⟩)
  obtain ⟨T4, h4, X4, e4, W4, st4⟩ := stR X2 hx hZ eh2 Ar3 (j := (0 : Int32)) hin4 rfl (Or.inl rfl) (g := (mkF m 20 #[.val (.ref a1), .val (.int (0 : Int32)), .val (.int (3 : Int32)), .val .null, .val (.int (0 : Int32))] [.null, (.int (0 : Int32)), (.ref a1)])) rfl rfl (hb hby d8_20)
  have N4 := Fr.snoc X4 N2 g_a1
  have Z5 : n0 ≤ h4.size := Nat.le_trans Z0 (Keep.of_wr W4).1
  have K5 : Keep h0 h4 [a1] := (Keep.refl h0 [a1]).wr W4 (Or.inl (List.mem_of_getElem? (i := 0) rfl))
  have Va4 : Arv Z h4 a1 kn (.object "java/lang/String") (8 : Int32) [.null, x1, x2, .null, .null, .null, .null, .null] .null := Arv.set Ar3 qc3 Sz3 Nn3 Hs3 Gf3 rfl W4 0 rfl (Nat.le_of_ble_eq_true rfl)
  refine Go.step (T' := T4) (f' := (mkF m 21 #[.val (.ref a1), .val (.int (0 : Int32)), .val (.int (3 : Int32)), .val .null, .val (.int (0 : Int32))] [])) st4 ?_
  refine Go.step (T' := T4) (f' := (mkF m 24 #[.val (.ref a1), .val (.int (0 : Int32)), .val (.int (3 : Int32)), .val .null, .val (.int (1 : Int32))] [])) (fun _ k => XS.iinc X4.here hx rfl (hb hby d8_21) rfl (l' := #[.val (.ref a1), .val (.int (0 : Int32)), .val (.int (3 : Int32)), .val .null, .val (.int (1 : Int32))]) rfl k) ?_
  refine Go.step (T' := T4) (f' := (mkF m 10 #[.val (.ref a1), .val (.int (0 : Int32)), .val (.int (3 : Int32)), .val .null, .val (.int (1 : Int32))] [])) (fun _ k => XS.goto X4.here hx rfl (pc0 := 24) (pc' := 10) rfl (hb hby d8_24) (by decide) (by decide) k) ?_
  refine Go.step (T' := T4) (f' := (mkF m 12 #[.val (.ref a1), .val (.int (0 : Int32)), .val (.int (3 : Int32)), .val .null, .val (.int (1 : Int32))] [(.int (1 : Int32))])) (fun _ k => XS.iload X4.here hx rfl (hb hby d8_10) rfl k) ?_
  refine Go.step (T' := T4) (f' := (mkF m 13 #[.val (.ref a1), .val (.int (0 : Int32)), .val (.int (3 : Int32)), .val .null, .val (.int (1 : Int32))] [(.int (3 : Int32)), (.int (1 : Int32))])) (fun _ k => XS.iloadN X4.here hx rfl (hb hby d8_12) rfl k) ?_
  refine Go.step (T' := T4) (f' := (mkF m 16 #[.val (.ref a1), .val (.int (0 : Int32)), .val (.int (3 : Int32)), .val .null, .val (.int (1 : Int32))] [])) (fun _ k => XS.icmpNo X4.here hx rfl (hb hby d8_13) rfl (tlt (by decide : (1 : Int32) < (3 : Int32))).2.1 k) ?_
  refine Go.step (T' := T4) (f' := (mkF m 17 #[.val (.ref a1), .val (.int (0 : Int32)), .val (.int (3 : Int32)), .val .null, .val (.int (1 : Int32))] [(.ref a1)])) (fun _ k => XS.aloadN X4.here hx rfl (hb hby d8_16) rfl rfl k) ?_
  refine Go.step (T' := T4) (f' := (mkF m 19 #[.val (.ref a1), .val (.int (0 : Int32)), .val (.int (3 : Int32)), .val .null, .val (.int (1 : Int32))] [(.int (1 : Int32)), (.ref a1)])) (fun _ k => XS.iload X4.here hx rfl (hb hby d8_17) rfl k) ?_
  refine Go.step (T' := T4) (f' := (mkF m 20 #[.val (.ref a1), .val (.int (0 : Int32)), .val (.int (3 : Int32)), .val .null, .val (.int (1 : Int32))] [.null, (.int (1 : Int32)), (.ref a1)])) (fun _ k => XS.aloadN X4.here hx rfl (hb hby d8_19) rfl rfl k) ?_
  obtain ⟨cl6, Ar6, qc6, Sz6, Nn6, Hs6, Gf6⟩ := id Va4
  have hin7 : ¬ ((1 : Int32) < 0 ∨ cl6.slots.size ≤ ((1 : Int32)).toNatClampNeg) := (inb_of Sz6 ⟨by decide, by decide⟩)
  obtain ⟨T7, h7, X7, e7, W7, st7⟩ := stR X4 hx hZ e4 Ar6 (j := (1 : Int32)) hin7 rfl (Or.inl rfl) (g := (mkF m 20 #[.val (.ref a1), .val (.int (0 : Int32)), .val (.int (3 : Int32)), .val .null, .val (.int (1 : Int32))] [.null, (.int (1 : Int32)), (.ref a1)])) rfl rfl (hb hby d8_20)
  have N7 := Fr.snoc X7 N4 g_a1
  have Z8 : n0 ≤ h7.size := Nat.le_trans Z5 (Keep.of_wr W7).1
  have K8 : Keep h0 h7 [a1] := K5.wr W7 (Or.inl (List.mem_of_getElem? (i := 0) rfl))
  have Va7 : Arv Z h7 a1 kn (.object "java/lang/String") (8 : Int32) [.null, .null, x2, .null, .null, .null, .null, .null] .null := Arv.set Ar6 qc6 Sz6 Nn6 Hs6 Gf6 rfl W7 1 rfl (Nat.le_of_ble_eq_true rfl)
  refine Go.step (T' := T7) (f' := (mkF m 21 #[.val (.ref a1), .val (.int (0 : Int32)), .val (.int (3 : Int32)), .val .null, .val (.int (1 : Int32))] [])) st7 ?_
  refine Go.step (T' := T7) (f' := (mkF m 24 #[.val (.ref a1), .val (.int (0 : Int32)), .val (.int (3 : Int32)), .val .null, .val (.int (2 : Int32))] [])) (fun _ k => XS.iinc X7.here hx rfl (hb hby d8_21) rfl (l' := #[.val (.ref a1), .val (.int (0 : Int32)), .val (.int (3 : Int32)), .val .null, .val (.int (2 : Int32))]) rfl k) ?_
  refine Go.step (T' := T7) (f' := (mkF m 10 #[.val (.ref a1), .val (.int (0 : Int32)), .val (.int (3 : Int32)), .val .null, .val (.int (2 : Int32))] [])) (fun _ k => XS.goto X7.here hx rfl (pc0 := 24) (pc' := 10) rfl (hb hby d8_24) (by decide) (by decide) k) ?_
  refine Go.step (T' := T7) (f' := (mkF m 12 #[.val (.ref a1), .val (.int (0 : Int32)), .val (.int (3 : Int32)), .val .null, .val (.int (2 : Int32))] [(.int (2 : Int32))])) (fun _ k => XS.iload X7.here hx rfl (hb hby d8_10) rfl k) ?_
  refine Go.step (T' := T7) (f' := (mkF m 13 #[.val (.ref a1), .val (.int (0 : Int32)), .val (.int (3 : Int32)), .val .null, .val (.int (2 : Int32))] [(.int (3 : Int32)), (.int (2 : Int32))])) (fun _ k => XS.iloadN X7.here hx rfl (hb hby d8_12) rfl k) ?_
  refine Go.step (T' := T7) (f' := (mkF m 16 #[.val (.ref a1), .val (.int (0 : Int32)), .val (.int (3 : Int32)), .val .null, .val (.int (2 : Int32))] [])) (fun _ k => XS.icmpNo X7.here hx rfl (hb hby d8_13) rfl (tlt (by decide : (2 : Int32) < (3 : Int32))).2.1 k) ?_
  refine Go.step (T' := T7) (f' := (mkF m 17 #[.val (.ref a1), .val (.int (0 : Int32)), .val (.int (3 : Int32)), .val .null, .val (.int (2 : Int32))] [(.ref a1)])) (fun _ k => XS.aloadN X7.here hx rfl (hb hby d8_16) rfl rfl k) ?_
  refine Go.step (T' := T7) (f' := (mkF m 19 #[.val (.ref a1), .val (.int (0 : Int32)), .val (.int (3 : Int32)), .val .null, .val (.int (2 : Int32))] [(.int (2 : Int32)), (.ref a1)])) (fun _ k => XS.iload X7.here hx rfl (hb hby d8_17) rfl k) ?_
  refine Go.step (T' := T7) (f' := (mkF m 20 #[.val (.ref a1), .val (.int (0 : Int32)), .val (.int (3 : Int32)), .val .null, .val (.int (2 : Int32))] [.null, (.int (2 : Int32)), (.ref a1)])) (fun _ k => XS.aloadN X7.here hx rfl (hb hby d8_19) rfl rfl k) ?_
  obtain ⟨cl9, Ar9, qc9, Sz9, Nn9, Hs9, Gf9⟩ := id Va7
  have hin10 : ¬ ((2 : Int32) < 0 ∨ cl9.slots.size ≤ ((2 : Int32)).toNatClampNeg) := (inb_of Sz9 ⟨by decide, by decide⟩)
  obtain ⟨T10, h10, X10, e10, W10, st10⟩ := stR X7 hx hZ e7 Ar9 (j := (2 : Int32)) hin10 rfl (Or.inl rfl) (g := (mkF m 20 #[.val (.ref a1), .val (.int (0 : Int32)), .val (.int (3 : Int32)), .val .null, .val (.int (2 : Int32))] [.null, (.int (2 : Int32)), (.ref a1)])) rfl rfl (hb hby d8_20)
  have N10 := Fr.snoc X10 N7 g_a1
  have Z11 : n0 ≤ h10.size := Nat.le_trans Z8 (Keep.of_wr W10).1
  have K11 : Keep h0 h10 [a1] := K8.wr W10 (Or.inl (List.mem_of_getElem? (i := 0) rfl))
  have Va10 : Arv Z h10 a1 kn (.object "java/lang/String") (8 : Int32) [.null, .null, .null, .null, .null, .null, .null, .null] .null := Arv.set Ar9 qc9 Sz9 Nn9 Hs9 Gf9 rfl W10 2 rfl (Nat.le_of_ble_eq_true rfl)
  refine Go.step (T' := T10) (f' := (mkF m 21 #[.val (.ref a1), .val (.int (0 : Int32)), .val (.int (3 : Int32)), .val .null, .val (.int (2 : Int32))] [])) st10 ?_
  refine Go.step (T' := T10) (f' := (mkF m 24 #[.val (.ref a1), .val (.int (0 : Int32)), .val (.int (3 : Int32)), .val .null, .val (.int (3 : Int32))] [])) (fun _ k => XS.iinc X10.here hx rfl (hb hby d8_21) rfl (l' := #[.val (.ref a1), .val (.int (0 : Int32)), .val (.int (3 : Int32)), .val .null, .val (.int (3 : Int32))]) rfl k) ?_
  refine Go.step (T' := T10) (f' := (mkF m 10 #[.val (.ref a1), .val (.int (0 : Int32)), .val (.int (3 : Int32)), .val .null, .val (.int (3 : Int32))] [])) (fun _ k => XS.goto X10.here hx rfl (pc0 := 24) (pc' := 10) rfl (hb hby d8_24) (by decide) (by decide) k) ?_
  refine Go.step (T' := T10) (f' := (mkF m 12 #[.val (.ref a1), .val (.int (0 : Int32)), .val (.int (3 : Int32)), .val .null, .val (.int (3 : Int32))] [(.int (3 : Int32))])) (fun _ k => XS.iload X10.here hx rfl (hb hby d8_10) rfl k) ?_
  refine Go.step (T' := T10) (f' := (mkF m 13 #[.val (.ref a1), .val (.int (0 : Int32)), .val (.int (3 : Int32)), .val .null, .val (.int (3 : Int32))] [(.int (3 : Int32)), (.int (3 : Int32))])) (fun _ k => XS.iloadN X10.here hx rfl (hb hby d8_12) rfl k) ?_
  refine Go.step (T' := T10) (f' := (mkF m 27 #[.val (.ref a1), .val (.int (0 : Int32)), .val (.int (3 : Int32)), .val .null, .val (.int (3 : Int32))] [])) (fun _ k => XS.icmpYes X10.here hx rfl (pc0 := 13) (pc' := 27) rfl (hb hby d8_13) rfl (flt (by decide : ¬ ((3 : Int32) < (3 : Int32)))).2.1 (by decide) (by decide) k) ?_
  refine goV X10 hx Bd.returns Bd.notSynchronized (hb hby d8_27) ?_ (by decide) (by decide)
  show Q_rmFl3 Z a1 kn x0 x1 x2 h0 n0 _ T10.heap _
  rw [e10]
  exact ⟨rfl, N10, K11, Va10⟩
theorem ef_rmClr3 (m : MethodId) (a1 : Addr) : entryFrame m #[(.ref a1)] 1 = mkF m 0 #[.val (.ref a1)] [] := by first | (simp [entryFrame, mkF, argsToLocals, Value.category]; done) | rfl
def Q_rmClr3 (Z : State) (a1 : Addr) (n : Addr) (v : Addr) (kn : ClassId) (kv : ClassId) (x0 : Value) (x1 : Value) (x2 : Value) (y0 : Value) (y1 : Value) (y2 : Value) (h0 : Heap) (n0 : Nat) (rv : Option Value) (hq : Heap) (Lq : List Loc) : Prop := rv = none ∧ Fr n0 Lq ∧ Keep h0 hq [a1, n, v] ∧ Fld Z hq a1 "com/example/tenderbook/tenderbook/Fields" "names" "[Ljava/lang/String;" (.ref n) ∧ Fld Z hq a1 "com/example/tenderbook/tenderbook/Fields" "values" "[Ljava/lang/String;" (.ref v) ∧ Fld Z hq a1 "com/example/tenderbook/tenderbook/Fields" "size" "I" (.int (0 : Int32)) ∧ Arv Z hq n kn (.object "java/lang/String") (8 : Int32) [.null, .null, .null, .null, .null, .null, .null, .null] .null ∧ Arv Z hq v kv (.object "java/lang/String") (8 : Int32) [.null, .null, .null, .null, .null, .null, .null, .null] .null
set_option maxRecDepth 65536 in
set_option maxHeartbeats 40000000 in
theorem rmClr3 (l : Launch) (Z : State) (a0 : Array Value) (hw : ∀ d ∈ tables_1, d.before a0 Z = true) (ws : List Jvm.Cond) (a1 : Addr) (n : Addr) (v : Addr) (kn : ClassId) (kv : ClassId) (x0 : Value) (x1 : Value) (x2 : Value) (y0 : Value) (y1 : Value) (y2 : Value) (h0 : Heap) (n0 : Nat) (Z0 : n0 ≤ h0.size) (E_a1 : Exa Z h0 a1 "com/example/tenderbook/tenderbook/Fields") (F_names_a1 : Fld Z h0 a1 "com/example/tenderbook/tenderbook/Fields" "names" "[Ljava/lang/String;" (.ref n)) (F_values_a1 : Fld Z h0 a1 "com/example/tenderbook/tenderbook/Fields" "values" "[Ljava/lang/String;" (.ref v)) (F_size_a1 : Fld Z h0 a1 "com/example/tenderbook/tenderbook/Fields" "size" "I" (.int (3 : Int32))) (V_n : Arv Z h0 n kn (.object "java/lang/String") (8 : Int32) [x0, x1, x2, .null, .null, .null, .null, .null] .null) (V_v : Arv Z h0 v kv (.object "java/lang/String") (8 : Int32) [y0, y1, y2, .null, .null, .null, .null, .null] .null) (hna : n ≠ a1) (hva : v ≠ a1) (hnv : n ≠ v) (g_a1 : n0 ≤ a1) (g_n : n0 ≤ n) (g_v : n0 ≤ v) :
    MetFree l (⟨"com/example/tenderbook/tenderbook/Fields", "clear", "()V"⟩ : MethodName) (head1 (Jvm.Cond.code (⟨"com/example/tenderbook/tenderbook/Fields", "clear", "()V"⟩ : MethodName) prog_8_method_11_code 1 none :: ws) ({ frames := 2, cells := 0, slots := 0, locals := 30 } : Room)) (fun a U => a = #[(.ref a1)] ∧ Z.Warmed39 U.vm ∧ U.heap = h0) (fun _ _ _ _ _ => True) (fun _ U o U' => ∃ rv Lq, o = .returned rv ∧ Q_rmClr3 Z a1 n v kn kv x0 x1 x2 y0 y1 y2 h0 n0 rv U'.heap Lq ∧ FrameEnd U o U' Lq ({ frames := 2, cells := 0, slots := 0, locals := 30 } : Room).cells ({ frames := 2, cells := 0, slots := 0, locals := 30 } : Room).slots) := by
  refine MetFree.of_bodySF (plainFor_of_name pn_6) hisR ?_
  intro p e s m args below meth c s₁ Bd hml0 hP hK
  obtain ⟨rfl, hZ, hh⟩ := hP
  have hx := Bd.exec
  have hby := Bd.bytes
  have hml : c.maxLocals = 1 := hml0
  have hown : s.vm.findClass "com/example/tenderbook/tenderbook/Fields" = some m.cls := findClass_of_methodNamed Bd.named
  have hnm := (name_of_methodNamed Bd.named Bd.method).1
  have X0 : Stand p l e ({ frames := 2, cells := 0, slots := 0, locals := 30 } : Room) s m #[(.ref a1)] below meth c s₁ [] 0 0 := Stand.of_body Bd
  have e0 : s₁.heap = h0 := by rw [← hh, Bd.state]; rfl
  have N0 := Fr.nil n0
  refine of_go (ef_rmClr3 m a1) ?_
  refine Go.step (T' := s₁) (f' := (mkF m 1 #[.val (.ref a1)] [(.ref a1)])) (fun _ k => XS.aloadN X0.here hx rfl (hb hby d7_0) rfl rfl k) ?_
  obtain ⟨T1, X1, e1, st1⟩ := getF X0 hx hZ hown (host := "") (Or.inl (hw _ (List.mem_of_getElem? (i := 35) rfl))) Via.refl e0 F_names_a1 (g := (mkF m 1 #[.val (.ref a1)] [(.ref a1)])) rfl rfl (hb hby d7_1)
  refine Go.step (T' := T1) (f' := (mkF m 4 #[.val (.ref a1)] [(.ref n)])) st1 ?_
  refine Go.step (T' := T1) (f' := (mkF m 5 #[.val (.ref a1)] [(.int (0 : Int32)), (.ref n)])) (fun _ k => XS.iconst X1.here hx rfl (hb hby d7_4) k) ?_
  refine Go.step (T' := T1) (f' := (mkF m 6 #[.val (.ref a1)] [(.ref a1), (.int (0 : Int32)), (.ref n)])) (fun _ k => XS.aloadN X1.here hx rfl (hb hby d7_5) rfl rfl k) ?_
  obtain ⟨T2, X2, e2, st2⟩ := getF X1 hx hZ hown (host := "") (Or.inl (hw _ (List.mem_of_getElem? (i := 44) rfl))) Via.refl e1 F_size_a1 (g := (mkF m 6 #[.val (.ref a1)] [(.ref a1), (.int (0 : Int32)), (.ref n)])) rfl rfl (hb hby d7_6)
  refine Go.step (T' := T2) (f' := (mkF m 9 #[.val (.ref a1)] [(.int (3 : Int32)), (.int (0 : Int32)), (.ref n)])) st2 ?_
  refine Go.step (T' := T2) (f' := (mkF m 10 #[.val (.ref a1)] [.null, (.int (3 : Int32)), (.int (0 : Int32)), (.ref n)])) (fun _ k => XS.aconstNull X2.here hx rfl (hb hby d7_9) k) ?_
  obtain ⟨_, _, ⟨T3, L3, k3, n3⟩, -, X3, ⟨Lc3, hQ3, l3, y3, z3⟩, st3⟩ := Jvm.LawKit.callS X2 hx (y := (⟨"java/util/Arrays", "fill", "([Ljava/lang/Object;IILjava/lang/Object;)V"⟩ : MethodName)) hown (mvT hZ (hw _ (List.mem_of_getElem? (i := 46) rfl))) (mvT hZ (hw _ (List.mem_of_getElem? (i := 47) rfl))) (mvT hZ (hw _ (List.mem_of_getElem? (i := 48) rfl))) (mvT hZ (hw _ (List.mem_of_getElem? (i := 49) rfl))) (by decide) (backOf (W := 0) (rmFl3 l Z a0 hw [] n kn x0 x1 x2 h0 n0 Z0 V_n g_n) hZ (hw _ (List.mem_of_getElem? (i := 49) rfl)) (hw _ (List.mem_of_getElem? (i := 48) rfl)) (by decide) (by decide)) (g := (mkF m 10 #[.val (.ref a1)] [.null, (.int (3 : Int32)), (.int (0 : Int32)), (.ref n)])) rfl (by rw [hml]; rfl) (argsL := [(.ref n), (.int (0 : Int32)), (.int (3 : Int32)), .null]) (rest := []) (lenOf pd_4 rfl) rfl (by show 2 * 0 + _ ≤ _; exact Nat.le_of_eq rfl) (hb hby d7_10) (fun _ _ => ⟨rfl, e2, (by decide : 0 + 0 ≤ _), (by decide : 0 + 0 ≤ _)⟩)
  dsimp only [Pt.U, Pt.locs, Pt.cells, Pt.slots] at X3 l3 y3 z3 st3 hQ3
  subst l3 y3 z3
  obtain ⟨rfl, Nq3, Kq3, r3_0⟩ := hQ3
  have N3 := Fr.app N0 Nq3
  have Z4 : n0 ≤ T3.heap.size := Nat.le_trans Z0 Kq3.1
  have K4 : Keep h0 T3.heap [a1, n, v] := (Keep.refl h0 [a1, n, v]).trans Kq3 (allS (Or.inl (List.mem_of_getElem? (i := 1) rfl)) all0)
  refine Go.step (T' := T3) (f' := (mkF m 13 #[.val (.ref a1)] [])) st3 ?_
  refine Go.step (T' := T3) (f' := (mkF m 14 #[.val (.ref a1)] [(.ref a1)])) (fun _ k => XS.aloadN X3.here hx rfl (hb hby d7_13) rfl rfl k) ?_
  have q5 : Fld Z T3.heap a1 "com/example/tenderbook/tenderbook/Fields" "values" "[Ljava/lang/String;" (.ref v) := (F_values_a1.keep Kq3 (ninS (Ne.symm hna) nin0))
  obtain ⟨T6, X6, e6, st6⟩ := getF X3 hx hZ hown (host := "") (Or.inl (hw _ (List.mem_of_getElem? (i := 37) rfl))) Via.refl rfl q5 (g := (mkF m 14 #[.val (.ref a1)] [(.ref a1)])) rfl rfl (hb hby d7_14)
  refine Go.step (T' := T6) (f' := (mkF m 17 #[.val (.ref a1)] [(.ref v)])) st6 ?_
  refine Go.step (T' := T6) (f' := (mkF m 18 #[.val (.ref a1)] [(.int (0 : Int32)), (.ref v)])) (fun _ k => XS.iconst X6.here hx rfl (hb hby d7_17) k) ?_
  refine Go.step (T' := T6) (f' := (mkF m 19 #[.val (.ref a1)] [(.ref a1), (.int (0 : Int32)), (.ref v)])) (fun _ k => XS.aloadN X6.here hx rfl (hb hby d7_18) rfl rfl k) ?_
  have q7 : Fld Z T3.heap a1 "com/example/tenderbook/tenderbook/Fields" "size" "I" (.int (3 : Int32)) := (F_size_a1.keep Kq3 (ninS (Ne.symm hna) nin0))
  obtain ⟨T8, X8, e8, st8⟩ := getF X6 hx hZ hown (host := "") (Or.inl (hw _ (List.mem_of_getElem? (i := 44) rfl))) Via.refl e6 q7 (g := (mkF m 19 #[.val (.ref a1)] [(.ref a1), (.int (0 : Int32)), (.ref v)])) rfl rfl (hb hby d7_19)
  refine Go.step (T' := T8) (f' := (mkF m 22 #[.val (.ref a1)] [(.int (3 : Int32)), (.int (0 : Int32)), (.ref v)])) st8 ?_
  refine Go.step (T' := T8) (f' := (mkF m 23 #[.val (.ref a1)] [.null, (.int (3 : Int32)), (.int (0 : Int32)), (.ref v)])) (fun _ k => XS.aconstNull X8.here hx rfl (hb hby d7_22) k) ?_
  have q10 : Arv Z T3.heap v kv (.object "java/lang/String") (8 : Int32) [y0, y1, y2, .null, .null, .null, .null, .null] .null := (V_v.keep Kq3 (ninS (Ne.symm hnv) nin0))
  obtain ⟨_, _, ⟨T9, L9, k9, n9⟩, -, X9, ⟨Lc9, hQ9, l9, y9, z9⟩, st9⟩ := Jvm.LawKit.callS X8 hx (y := (⟨"java/util/Arrays", "fill", "([Ljava/lang/Object;IILjava/lang/Object;)V"⟩ : MethodName)) hown (mvT hZ (hw _ (List.mem_of_getElem? (i := 46) rfl))) (mvT hZ (hw _ (List.mem_of_getElem? (i := 47) rfl))) (mvT hZ (hw _ (List.mem_of_getElem? (i := 48) rfl))) (mvT hZ (hw _ (List.mem_of_getElem? (i := 49) rfl))) (by decide) (backOf (W := 0) (rmFl3 l Z a0 hw [] v kv y0 y1 y2 T3.heap n0 Z4 q10 g_v) hZ (hw _ (List.mem_of_getElem? (i := 49) rfl)) (hw _ (List.mem_of_getElem? (i := 48) rfl)) (by decide) (by decide)) (g := (mkF m 23 #[.val (.ref a1)] [.null, (.int (3 : Int32)), (.int (0 : Int32)), (.ref v)])) rfl (by rw [hml]; rfl) (argsL := [(.ref v), (.int (0 : Int32)), (.int (3 : Int32)), .null]) (rest := []) (lenOf pd_4 rfl) rfl (by show 2 * 0 + _ ≤ _; exact Nat.le_of_eq rfl) (hb hby d7_23) (fun _ _ => ⟨rfl, e8, (by decide : 0 + 0 ≤ _), (by decide : 0 + 0 ≤ _)⟩)
  dsimp only [Pt.U, Pt.locs, Pt.cells, Pt.slots] at X9 l9 y9 z9 st9 hQ9
  subst l9 y9 z9
  obtain ⟨rfl, Nq9, Kq9, r9_0⟩ := hQ9
  have N9 := Fr.app N3 Nq9
  have Z11 : n0 ≤ T9.heap.size := Nat.le_trans Z4 Kq9.1
  have K11 : Keep h0 T9.heap [a1, n, v] := K4.trans Kq9 (allS (Or.inl (List.mem_of_getElem? (i := 2) rfl)) all0)
  refine Go.step (T' := T9) (f' := (mkF m 26 #[.val (.ref a1)] [])) st9 ?_
  refine Go.step (T' := T9) (f' := (mkF m 27 #[.val (.ref a1)] [(.ref a1)])) (fun _ k => XS.aloadN X9.here hx rfl (hb hby d7_26) rfl rfl k) ?_
  refine Go.step (T' := T9) (f' := (mkF m 28 #[.val (.ref a1)] [(.int (0 : Int32)), (.ref a1)])) (fun _ k => XS.iconst X9.here hx rfl (hb hby d7_27) k) ?_
  have q12 : Fld Z T9.heap a1 "com/example/tenderbook/tenderbook/Fields" "size" "I" (.int (3 : Int32)) := (q7.keep Kq9 (ninS (Ne.symm hva) nin0))
  have q13 : Exa Z T9.heap a1 "com/example/tenderbook/tenderbook/Fields" := ((E_a1.keep Kq3).keep Kq9)
  obtain ⟨T14, h14, X14, e14, W14, st14⟩ := putF X9 hx hZ hown (host := "") (Or.inl (hw _ (List.mem_of_getElem? (i := 44) rfl))) Via.refl rfl q12 q13 (Or.inl (hw _ (List.mem_of_getElem? (i := 45) rfl))) (hw _ (List.mem_of_getElem? (i := 27) rfl)) (ty := .int) (by decide) rfl rfl (g := (mkF m 28 #[.val (.ref a1)] [(.int (0 : Int32)), (.ref a1)])) rfl rfl (hb hby d7_28)
  have N14 := Fr.snoc X14 N9 g_a1
  have Z15 : n0 ≤ h14.size := Nat.le_trans Z11 (Keep.of_wr W14).1
  have K15 : Keep h0 h14 [a1, n, v] := K11.wr W14 (Or.inl (List.mem_of_getElem? (i := 0) rfl))
  have Fw14 := q12.same W14
  refine Go.step (T' := T14) (f' := (mkF m 31 #[.val (.ref a1)] [])) st14 ?_
  refine goV X14 hx Bd.returns Bd.notSynchronized (hb hby d7_31) ?_ (by decide) (by decide)
  show Q_rmClr3 Z a1 n v kn kv x0 x1 x2 y0 y1 y2 h0 n0 _ T14.heap _
  rw [e14]
  have q16 : Fld Z h14 a1 "com/example/tenderbook/tenderbook/Fields" "names" "[Ljava/lang/String;" (.ref n) := (((F_names_a1.keep Kq3 (ninS (Ne.symm hna) nin0)).keep Kq9 (ninS (Ne.symm hva) nin0)).other W14 (Or.inr (slot_ne (Or.inl (hw _ (List.mem_of_getElem? (i := 36) rfl))) (Or.inl (hw _ (List.mem_of_getElem? (i := 45) rfl))) (by decide) (t := (.array (.object "java/lang/String"))) (t' := .int) (by decide) (by decide))))
  have q17 : Fld Z h14 a1 "com/example/tenderbook/tenderbook/Fields" "values" "[Ljava/lang/String;" (.ref v) := ((q5.keep Kq9 (ninS (Ne.symm hva) nin0)).other W14 (Or.inr (slot_ne (Or.inl (hw _ (List.mem_of_getElem? (i := 38) rfl))) (Or.inl (hw _ (List.mem_of_getElem? (i := 45) rfl))) (by decide) (t := (.array (.object "java/lang/String"))) (t' := .int) (by decide) (by decide))))
  have q18 : Arv Z h14 n kn (.object "java/lang/String") (8 : Int32) [.null, .null, .null, .null, .null, .null, .null, .null] .null := ((r3_0.keep Kq9 (ninS hnv nin0)).other W14 hna)
  have q19 : Arv Z h14 v kv (.object "java/lang/String") (8 : Int32) [.null, .null, .null, .null, .null, .null, .null, .null] .null := (r9_0.other W14 hva)
  exact ⟨rfl, N14, K15, q16, q17, Fw14, q18, q19⟩
theorem d10_0 : decode prog_8_method_2_code 0 = .ok (.aload_n 0, 1) := by decide +kernel
theorem d10_1 : decode prog_8_method_2_code 1 = .ok (.getfield 18, 3) := by decide +kernel
theorem d10_4 : decode prog_8_method_2_code 4 = .ok (.ireturn, 1) := by decide +kernel
theorem ef_rm10 (m : MethodId) (a1 : Addr) : entryFrame m #[(.ref a1)] 1 = mkF m 0 #[.val (.ref a1)] [] := by first | (simp [entryFrame, mkF, argsToLocals, Value.category]; done) | rfl
def Q_rm10 (Z : State) (a1 : Addr) (w : Int32) (h0 : Heap) (n0 : Nat) (rv : Option Value) (hq : Heap) (Lq : List Loc) : Prop := rv = some (.int w) ∧ Fr n0 Lq ∧ hq = h0
set_option maxRecDepth 65536 in
set_option maxHeartbeats 40000000 in
theorem rm10 (l : Launch) (Z : State) (a0 : Array Value) (hw : ∀ d ∈ tables_1, d.before a0 Z = true) (ws : List Jvm.Cond) (a1 : Addr) (w : Int32) (h0 : Heap) (n0 : Nat) (Z0 : n0 ≤ h0.size) (F_size_a1 : Fld Z h0 a1 "com/example/tenderbook/tenderbook/Fields" "size" "I" (.int w)) :
    MetFree l (⟨"com/example/tenderbook/tenderbook/Fields", "size", "()I"⟩ : MethodName) (head1 (Jvm.Cond.code (⟨"com/example/tenderbook/tenderbook/Fields", "size", "()I"⟩ : MethodName) prog_8_method_2_code 1 (some .int) :: ws) ({ frames := 0, cells := 0, slots := 0, locals := 0 } : Room)) (fun a U => a = #[(.ref a1)] ∧ Z.Warmed39 U.vm ∧ U.heap = h0) (fun _ _ _ _ _ => True) (fun _ U o U' => ∃ rv Lq, o = .returned rv ∧ Q_rm10 Z a1 w h0 n0 rv U'.heap Lq ∧ FrameEnd U o U' Lq ({ frames := 0, cells := 0, slots := 0, locals := 0 } : Room).cells ({ frames := 0, cells := 0, slots := 0, locals := 0 } : Room).slots) := by
  refine MetFree.of_bodySF (plainFor_of_name pn_6) hisR ?_
  intro p e s m args below meth c s₁ Bd hml0 hP hK
  obtain ⟨rfl, hZ, hh⟩ := hP
  have hx := Bd.exec
  have hby := Bd.bytes
  have hml : c.maxLocals = 1 := hml0
  have hown : s.vm.findClass "com/example/tenderbook/tenderbook/Fields" = some m.cls := findClass_of_methodNamed Bd.named
  have hnm := (name_of_methodNamed Bd.named Bd.method).1
  have X0 : Stand p l e ({ frames := 0, cells := 0, slots := 0, locals := 0 } : Room) s m #[(.ref a1)] below meth c s₁ [] 0 0 := Stand.of_body Bd
  have e0 : s₁.heap = h0 := by rw [← hh, Bd.state]; rfl
  have N0 := Fr.nil n0
  refine of_go (ef_rm10 m a1) ?_
  refine Go.step (T' := s₁) (f' := (mkF m 1 #[.val (.ref a1)] [(.ref a1)])) (fun _ k => XS.aloadN X0.here hx rfl (hb hby d10_0) rfl rfl k) ?_
  obtain ⟨T1, X1, e1, st1⟩ := getF X0 hx hZ hown (host := "") (Or.inl (hw _ (List.mem_of_getElem? (i := 44) rfl))) Via.refl e0 F_size_a1 (g := (mkF m 1 #[.val (.ref a1)] [(.ref a1)])) rfl rfl (hb hby d10_1)
  refine Go.step (T' := T1) (f' := (mkF m 4 #[.val (.ref a1)] [(.int w)])) st1 ?_
  refine goI X1 hx Bd.returns Bd.notSynchronized (hb hby d10_4) ?_ (by decide) (by decide)
  show Q_rm10 Z a1 w h0 n0 _ T1.heap _
  rw [e1]
  exact ⟨rfl, N0, rfl⟩
theorem d13_0 : decode jdk_42_method_70_code 0 = .ok (.aload_n 0, 1) := by decide +kernel
theorem d13_1 : decode jdk_42_method_70_code 1 = .ok (.aload_n 1, 1) := by decide +kernel
theorem d13_2 : decode jdk_42_method_70_code 2 = .ok (.if_acmp .ne 7, 3) := by decide +kernel
theorem d13_5 : decode jdk_42_method_70_code 5 = .ok (.iconst 1, 1) := by decide +kernel
theorem d13_6 : decode jdk_42_method_70_code 6 = .ok (.goto 38, 3) := by decide +kernel
theorem d13_44 : decode jdk_42_method_70_code 44 = .ok (.ireturn, 1) := by decide +kernel
theorem ef_rm13 (m : MethodId) (a1 : Addr) : entryFrame m #[(.ref a1), (.ref a1)] 2 = mkF m 0 #[.val (.ref a1), .val (.ref a1)] [] := by first | (simp [entryFrame, mkF, argsToLocals, Value.category]; done) | rfl
def Q_rm13 (Z : State) (a1 : Addr) (h0 : Heap) (n0 : Nat) (rv : Option Value) (hq : Heap) (Lq : List Loc) : Prop := rv = some (.int (1 : Int32)) ∧ Fr n0 Lq ∧ hq = h0
set_option maxRecDepth 65536 in
set_option maxHeartbeats 40000000 in
theorem rm13 (l : Launch) (Z : State) (a0 : Array Value) (hw : ∀ d ∈ tables_1, d.before a0 Z = true) (ws : List Jvm.Cond) (a1 : Addr) (h0 : Heap) (n0 : Nat) (Z0 : n0 ≤ h0.size) :
    MetFree l (⟨"java/lang/String", "equalsIgnoreCase", "(Ljava/lang/String;)Z"⟩ : MethodName) (head1 (Jvm.Cond.code (⟨"java/lang/String", "equalsIgnoreCase", "(Ljava/lang/String;)Z"⟩ : MethodName) jdk_42_method_70_code 2 (some .boolean) :: ws) ({ frames := 0, cells := 0, slots := 0, locals := 0 } : Room)) (fun a U => a = #[(.ref a1), (.ref a1)] ∧ Z.Warmed39 U.vm ∧ U.heap = h0) (fun _ _ _ _ _ => True) (fun _ U o U' => ∃ rv Lq, o = .returned rv ∧ Q_rm13 Z a1 h0 n0 rv U'.heap Lq ∧ FrameEnd U o U' Lq ({ frames := 0, cells := 0, slots := 0, locals := 0 } : Room).cells ({ frames := 0, cells := 0, slots := 0, locals := 0 } : Room).slots) := by
  refine MetFree.of_bodySF (plainFor_of_name pn_4) hisR ?_
  intro p e s m args below meth c s₁ Bd hml0 hP hK
  obtain ⟨rfl, hZ, hh⟩ := hP
  have hx := Bd.exec
  have hby := Bd.bytes
  have hml : c.maxLocals = 2 := hml0
  have hown : s.vm.findClass "java/lang/String" = some m.cls := findClass_of_methodNamed Bd.named
  have hnm := (name_of_methodNamed Bd.named Bd.method).1
  have X0 : Stand p l e ({ frames := 0, cells := 0, slots := 0, locals := 0 } : Room) s m #[(.ref a1), (.ref a1)] below meth c s₁ [] 0 0 := Stand.of_body Bd
  have e0 : s₁.heap = h0 := by rw [← hh, Bd.state]; rfl
  have N0 := Fr.nil n0
  refine of_go (ef_rm13 m a1) ?_
  refine Go.step (T' := s₁) (f' := (mkF m 1 #[.val (.ref a1), .val (.ref a1)] [(.ref a1)])) (fun _ k => XS.aloadN X0.here hx rfl (hb hby d13_0) rfl rfl k) ?_
  refine Go.step (T' := s₁) (f' := (mkF m 2 #[.val (.ref a1), .val (.ref a1)] [(.ref a1), (.ref a1)])) (fun _ k => XS.aloadN X0.here hx rfl (hb hby d13_1) rfl rfl k) ?_
  refine Go.step (T' := s₁) (f' := (mkF m 5 #[.val (.ref a1), .val (.ref a1)] [])) (fun _ k => Jvm.RoadKit.acmp (g := (mkF m 2 #[.val (.ref a1), .val (.ref a1)] [(.ref a1), (.ref a1)])) X0 hx rfl rfl rfl (pc0 := 2) (pc' := 5) (same := true) rfl (hb hby d13_2) rfl (decide_eq_true rfl) (by decide) (by decide) k) ?_
  refine Go.step (T' := s₁) (f' := (mkF m 6 #[.val (.ref a1), .val (.ref a1)] [(.int (1 : Int32))])) (fun _ k => XS.iconst X0.here hx rfl (hb hby d13_5) k) ?_
  refine Go.step (T' := s₁) (f' := (mkF m 44 #[.val (.ref a1), .val (.ref a1)] [(.int (1 : Int32))])) (fun _ k => XS.goto X0.here hx rfl (pc0 := 6) (pc' := 44) rfl (hb hby d13_6) (by decide) (by decide) k) ?_
  refine goN X0 hx (t := .boolean) Bd.returns (by simp) Bd.notSynchronized (hb hby d13_44) ?_ (by decide) (by decide)
  show Q_rm13 Z a1 h0 n0 _ s₁.heap _
  rw [e0]
  exact ⟨rfl, N0, rfl⟩
theorem d14_0 : decode jdk_42_method_66_code 0 = .ok (.aload_n 0, 1) := by decide +kernel
theorem d14_1 : decode jdk_42_method_66_code 1 = .ok (.aload_n 1, 1) := by decide +kernel
theorem d14_2 : decode jdk_42_method_66_code 2 = .ok (.if_acmp .ne 5, 3) := by decide +kernel
theorem d14_5 : decode jdk_42_method_66_code 5 = .ok (.iconst 1, 1) := by decide +kernel
theorem d14_6 : decode jdk_42_method_66_code 6 = .ok (.ireturn, 1) := by decide +kernel
theorem ef_rm14 (m : MethodId) (a1 : Addr) : entryFrame m #[(.ref a1), (.ref a1)] 3 = mkF m 0 #[.val (.ref a1), .val (.ref a1), .unset] [] := by first | (simp [entryFrame, mkF, argsToLocals, Value.category]; done) | rfl
def Q_rm14 (Z : State) (a1 : Addr) (h0 : Heap) (n0 : Nat) (rv : Option Value) (hq : Heap) (Lq : List Loc) : Prop := rv = some (.int (1 : Int32)) ∧ Fr n0 Lq ∧ hq = h0
set_option maxRecDepth 65536 in
set_option maxHeartbeats 40000000 in
theorem rm14 (l : Launch) (Z : State) (a0 : Array Value) (hw : ∀ d ∈ tables_1, d.before a0 Z = true) (ws : List Jvm.Cond) (a1 : Addr) (h0 : Heap) (n0 : Nat) (Z0 : n0 ≤ h0.size) :
    MetFree l (⟨"java/lang/String", "equals", "(Ljava/lang/Object;)Z"⟩ : MethodName) (head1 (Jvm.Cond.code (⟨"java/lang/String", "equals", "(Ljava/lang/Object;)Z"⟩ : MethodName) jdk_42_method_66_code 3 (some .boolean) :: ws) ({ frames := 0, cells := 0, slots := 0, locals := 0 } : Room)) (fun a U => a = #[(.ref a1), (.ref a1)] ∧ Z.Warmed39 U.vm ∧ U.heap = h0) (fun _ _ _ _ _ => True) (fun _ U o U' => ∃ rv Lq, o = .returned rv ∧ Q_rm14 Z a1 h0 n0 rv U'.heap Lq ∧ FrameEnd U o U' Lq ({ frames := 0, cells := 0, slots := 0, locals := 0 } : Room).cells ({ frames := 0, cells := 0, slots := 0, locals := 0 } : Room).slots) := by
  refine MetFree.of_bodySF (plainFor_of_name pn_4) hisR ?_
  intro p e s m args below meth c s₁ Bd hml0 hP hK
  obtain ⟨rfl, hZ, hh⟩ := hP
  have hx := Bd.exec
  have hby := Bd.bytes
  have hml : c.maxLocals = 3 := hml0
  have hown : s.vm.findClass "java/lang/String" = some m.cls := findClass_of_methodNamed Bd.named
  have hnm := (name_of_methodNamed Bd.named Bd.method).1
  have X0 : Stand p l e ({ frames := 0, cells := 0, slots := 0, locals := 0 } : Room) s m #[(.ref a1), (.ref a1)] below meth c s₁ [] 0 0 := Stand.of_body Bd
  have e0 : s₁.heap = h0 := by rw [← hh, Bd.state]; rfl
  have N0 := Fr.nil n0
  refine of_go (ef_rm14 m a1) ?_
  refine Go.step (T' := s₁) (f' := (mkF m 1 #[.val (.ref a1), .val (.ref a1), .unset] [(.ref a1)])) (fun _ k => XS.aloadN X0.here hx rfl (hb hby d14_0) rfl rfl k) ?_
  refine Go.step (T' := s₁) (f' := (mkF m 2 #[.val (.ref a1), .val (.ref a1), .unset] [(.ref a1), (.ref a1)])) (fun _ k => XS.aloadN X0.here hx rfl (hb hby d14_1) rfl rfl k) ?_
  refine Go.step (T' := s₁) (f' := (mkF m 5 #[.val (.ref a1), .val (.ref a1), .unset] [])) (fun _ k => Jvm.RoadKit.acmp (g := (mkF m 2 #[.val (.ref a1), .val (.ref a1), .unset] [(.ref a1), (.ref a1)])) X0 hx rfl rfl rfl (pc0 := 2) (pc' := 5) (same := true) rfl (hb hby d14_2) rfl (decide_eq_true rfl) (by decide) (by decide) k) ?_
  refine Go.step (T' := s₁) (f' := (mkF m 6 #[.val (.ref a1), .val (.ref a1), .unset] [(.int (1 : Int32))])) (fun _ k => XS.iconst X0.here hx rfl (hb hby d14_5) k) ?_
  refine goN X0 hx (t := .boolean) Bd.returns (by simp) Bd.notSynchronized (hb hby d14_6) ?_ (by decide) (by decide)
  show Q_rm14 Z a1 h0 n0 _ s₁.heap _
  rw [e0]
  exact ⟨rfl, N0, rfl⟩
theorem d12_0 : decode prog_8_method_7_code 0 = .ok (.iconst 0, 1) := by decide +kernel
theorem d12_1 : decode prog_8_method_7_code 1 = .ok (.istore_n 2, 1) := by decide +kernel
theorem d12_2 : decode prog_8_method_7_code 2 = .ok (.iload_n 2, 1) := by decide +kernel
theorem d12_3 : decode prog_8_method_7_code 3 = .ok (.aload_n 0, 1) := by decide +kernel
theorem d12_4 : decode prog_8_method_7_code 4 = .ok (.getfield 18, 3) := by decide +kernel
theorem d12_7 : decode prog_8_method_7_code 7 = .ok (.if_icmp .ge 29, 3) := by decide +kernel
theorem d12_10 : decode prog_8_method_7_code 10 = .ok (.aload_n 0, 1) := by decide +kernel
theorem d12_11 : decode prog_8_method_7_code 11 = .ok (.getfield 9, 3) := by decide +kernel
theorem d12_14 : decode prog_8_method_7_code 14 = .ok (.iload_n 2, 1) := by decide +kernel
theorem d12_15 : decode prog_8_method_7_code 15 = .ok (.aaload, 1) := by decide +kernel
theorem d12_16 : decode prog_8_method_7_code 16 = .ok (.aload_n 1, 1) := by decide +kernel
theorem d12_17 : decode prog_8_method_7_code 17 = .ok (.invokevirtual 37, 3) := by decide +kernel
theorem pd_5 : parseMethodDescriptor "(Ljava/lang/String;)Z" = some ⟨[(.object "java/lang/String")], some .boolean⟩ := by decide +kernel
theorem d12_20 : decode prog_8_method_7_code 20 = .ok (.ifCond .eq 10, 3) := by decide +kernel
theorem d12_23 : decode prog_8_method_7_code 23 = .ok (.aload_n 0, 1) := by decide +kernel
theorem d12_24 : decode prog_8_method_7_code 24 = .ok (.getfield 15, 3) := by decide +kernel
theorem d12_27 : decode prog_8_method_7_code 27 = .ok (.iload_n 2, 1) := by decide +kernel
theorem d12_28 : decode prog_8_method_7_code 28 = .ok (.aaload, 1) := by decide +kernel
theorem d12_29 : decode prog_8_method_7_code 29 = .ok (.areturn, 1) := by decide +kernel
theorem ef_rm12 (m : MethodId) (a1 : Addr) (a2 : Addr) : entryFrame m #[(.ref a1), (.ref a2)] 3 = mkF m 0 #[.val (.ref a1), .val (.ref a2), .unset] [] := by first | (simp [entryFrame, mkF, argsToLocals, Value.category]; done) | rfl
def Q_rm12 (Z : State) (a1 : Addr) (a2 : Addr) (n : Addr) (v : Addr) (kn : ClassId) (kv : ClassId) (y : Addr) (h0 : Heap) (n0 : Nat) (rv : Option Value) (hq : Heap) (Lq : List Loc) : Prop := rv = some (.ref y) ∧ Fr n0 Lq ∧ hq = h0
set_option maxRecDepth 65536 in
set_option maxHeartbeats 40000000 in
theorem rm12 (l : Launch) (Z : State) (a0 : Array Value) (hw : ∀ d ∈ tables_1, d.before a0 Z = true) (ws : List Jvm.Cond) (a1 : Addr) (a2 : Addr) (n : Addr) (v : Addr) (kn : ClassId) (kv : ClassId) (y : Addr) (h0 : Heap) (n0 : Nat) (Z0 : n0 ≤ h0.size) (E_a2 : Exa Z h0 a2 "java/lang/String") (F_names_a1 : Fld Z h0 a1 "com/example/tenderbook/tenderbook/Fields" "names" "[Ljava/lang/String;" (.ref n)) (F_values_a1 : Fld Z h0 a1 "com/example/tenderbook/tenderbook/Fields" "values" "[Ljava/lang/String;" (.ref v)) (F_size_a1 : Fld Z h0 a1 "com/example/tenderbook/tenderbook/Fields" "size" "I" (.int (1 : Int32))) (V_n : Arv Z h0 n kn (.object "java/lang/String") (8 : Int32) [(.ref a2), .null, .null, .null, .null, .null, .null, .null] .null) (V_v : Arv Z h0 v kv (.object "java/lang/String") (8 : Int32) [(.ref y), .null, .null, .null, .null, .null, .null, .null] .null) :
    MetFree l (⟨"com/example/tenderbook/tenderbook/Fields", "getFirst", "(Ljava/lang/String;)Ljava/lang/String;"⟩ : MethodName) (head1 (Jvm.Cond.code (⟨"com/example/tenderbook/tenderbook/Fields", "getFirst", "(Ljava/lang/String;)Ljava/lang/String;"⟩ : MethodName) prog_8_method_7_code 3 (some (.object "java/lang/String")) :: ws) ({ frames := 1, cells := 0, slots := 0, locals := 13 } : Room)) (fun a U => a = #[(.ref a1), (.ref a2)] ∧ Z.Warmed39 U.vm ∧ U.heap = h0) (fun _ _ _ _ _ => True) (fun _ U o U' => ∃ rv Lq, o = .returned rv ∧ Q_rm12 Z a1 a2 n v kn kv y h0 n0 rv U'.heap Lq ∧ FrameEnd U o U' Lq ({ frames := 1, cells := 0, slots := 0, locals := 13 } : Room).cells ({ frames := 1, cells := 0, slots := 0, locals := 13 } : Room).slots) := by
  refine MetFree.of_bodySF (plainFor_of_name pn_6) hisR ?_
  intro p e s m args below meth c s₁ Bd hml0 hP hK
  obtain ⟨rfl, hZ, hh⟩ := hP
  have hx := Bd.exec
  have hby := Bd.bytes
  have hml : c.maxLocals = 3 := hml0
  have hown : s.vm.findClass "com/example/tenderbook/tenderbook/Fields" = some m.cls := findClass_of_methodNamed Bd.named
  have hnm := (name_of_methodNamed Bd.named Bd.method).1
  have X0 : Stand p l e ({ frames := 1, cells := 0, slots := 0, locals := 13 } : Room) s m #[(.ref a1), (.ref a2)] below meth c s₁ [] 0 0 := Stand.of_body Bd
  have e0 : s₁.heap = h0 := by rw [← hh, Bd.state]; rfl
  have N0 := Fr.nil n0
  refine of_go (ef_rm12 m a1 a2) ?_
  refine Go.step (T' := s₁) (f' := (mkF m 1 #[.val (.ref a1), .val (.ref a2), .unset] [(.int (0 : Int32))])) (fun _ k => XS.iconst X0.here hx rfl (hb hby d12_0) k) ?_
  refine Go.step (T' := s₁) (f' := (mkF m 2 #[.val (.ref a1), .val (.ref a2), .val (.int (0 : Int32))] [])) (fun _ k => XS.istoreN X0.here hx rfl (hb hby d12_1) rfl (l' := #[.val (.ref a1), .val (.ref a2), .val (.int (0 : Int32))]) rfl k) ?_
  refine Go.step (T' := s₁) (f' := (mkF m 3 #[.val (.ref a1), .val (.ref a2), .val (.int (0 : Int32))] [(.int (0 : Int32))])) (fun _ k => XS.iloadN X0.here hx rfl (hb hby d12_2) rfl k) ?_
  refine Go.step (T' := s₁) (f' := (mkF m 4 #[.val (.ref a1), .val (.ref a2), .val (.int (0 : Int32))] [(.ref a1), (.int (0 : Int32))])) (fun _ k => XS.aloadN X0.here hx rfl (hb hby d12_3) rfl rfl k) ?_
  obtain ⟨T1, X1, e1, st1⟩ := getF X0 hx hZ hown (host := "") (Or.inl (hw _ (List.mem_of_getElem? (i := 44) rfl))) Via.refl e0 F_size_a1 (g := (mkF m 4 #[.val (.ref a1), .val (.ref a2), .val (.int (0 : Int32))] [(.ref a1), (.int (0 : Int32))])) rfl rfl (hb hby d12_4)
  refine Go.step (T' := T1) (f' := (mkF m 7 #[.val (.ref a1), .val (.ref a2), .val (.int (0 : Int32))] [(.int (1 : Int32)), (.int (0 : Int32))])) st1 ?_
  refine Go.step (T' := T1) (f' := (mkF m 10 #[.val (.ref a1), .val (.ref a2), .val (.int (0 : Int32))] [])) (fun _ k => XS.icmpNo X1.here hx rfl (hb hby d12_7) rfl (tlt (by decide : (0 : Int32) < (1 : Int32))).2.1 k) ?_
  refine Go.step (T' := T1) (f' := (mkF m 11 #[.val (.ref a1), .val (.ref a2), .val (.int (0 : Int32))] [(.ref a1)])) (fun _ k => XS.aloadN X1.here hx rfl (hb hby d12_10) rfl rfl k) ?_
  obtain ⟨T2, X2, e2, st2⟩ := getF X1 hx hZ hown (host := "") (Or.inl (hw _ (List.mem_of_getElem? (i := 35) rfl))) Via.refl e1 F_names_a1 (g := (mkF m 11 #[.val (.ref a1), .val (.ref a2), .val (.int (0 : Int32))] [(.ref a1)])) rfl rfl (hb hby d12_11)
  refine Go.step (T' := T2) (f' := (mkF m 14 #[.val (.ref a1), .val (.ref a2), .val (.int (0 : Int32))] [(.ref n)])) st2 ?_
  refine Go.step (T' := T2) (f' := (mkF m 15 #[.val (.ref a1), .val (.ref a2), .val (.int (0 : Int32))] [(.int (0 : Int32)), (.ref n)])) (fun _ k => XS.iloadN X2.here hx rfl (hb hby d12_14) rfl k) ?_
  obtain ⟨cl3, Ar3, qc3, Sz3, Nn3, Hs3, Gf3⟩ := id V_n
  have hin4 : ¬ ((0 : Int32) < 0 ∨ cl3.slots.size ≤ ((0 : Int32)).toNatClampNeg) := (inb_of Sz3 ⟨by decide, by decide⟩)
  have hat4 : cl3.slots[((0 : Int32)).toNatClampNeg]? = some (.ref a2) := Has.at Hs3 hin4 rfl
  refine Go.step (T' := T2) (f' := (mkF m 16 #[.val (.ref a1), .val (.ref a2), .val (.int (0 : Int32))] [(.ref a2)])) (fun _ k => X2.aaload hx (j := (0 : Int32)) (v := (.ref a2)) (by rw [e2]; exact Ar3.1) (State.isArrayOf_alike hZ.alike Ar3.2.1) rfl Ar3.2.2 hin4 hat4 (g := (mkF m 15 #[.val (.ref a1), .val (.ref a2), .val (.int (0 : Int32))] [(.int (0 : Int32)), (.ref n)])) rfl rfl (hb hby d12_15) _ k) ?_
  refine Go.step (T' := T2) (f' := (mkF m 17 #[.val (.ref a1), .val (.ref a2), .val (.int (0 : Int32))] [(.ref a2), (.ref a2)])) (fun _ k => XS.aloadN X2.here hx rfl (hb hby d12_16) rfl rfl k) ?_
  obtain ⟨cq5, kq5, q5a, q5b, q5c⟩ := isOf hZ e2 E_a2
  obtain ⟨_, _, ⟨T5, L5, k5, n5⟩, -, X5, ⟨Lc5, hQ5, l5, y5, z5⟩, st5⟩ := X2.virtualBack hx (y := (⟨"java/lang/String", "equalsIgnoreCase", "(Ljava/lang/String;)Z"⟩ : MethodName)) (z := (⟨"java/lang/String", "equalsIgnoreCase", "(Ljava/lang/String;)Z"⟩ : MethodName)) hown (mvT hZ (hw _ (List.mem_of_getElem? (i := 68) rfl))) (mvT hZ (hw _ (List.mem_of_getElem? (i := 69) rfl))) (notFace_of_selects (args := #[]) (mvT hZ (hw _ (List.mem_of_getElem? (i := 71) rfl)))) (mvT hZ (hw _ (List.mem_of_getElem? (i := 71) rfl))) (mvT hZ (hw _ (List.mem_of_getElem? (i := 70) rfl))) (by decide) (backOf (W := 0) (rm13 l Z a0 hw [] a2 h0 n0 Z0 ) hZ (hw _ (List.mem_of_getElem? (i := 72) rfl)) (hw _ (List.mem_of_getElem? (i := 2) rfl)) (by decide) (by decide)) q5a q5c (g := (mkF m 17 #[.val (.ref a1), .val (.ref a2), .val (.int (0 : Int32))] [(.ref a2), (.ref a2)])) rfl (by rw [hml]; rfl) (Steps.refl _) (argsL := [(.ref a2)]) (rest := []) (lenOf pd_5 rfl) rfl (by show 2 * 0 + _ ≤ _; exact Nat.le_of_eq rfl) (hb hby d12_17) (fun _ _ => ⟨rfl, e2, (by decide : 0 + 0 ≤ _), (by decide : 0 + 0 ≤ _)⟩)
  dsimp only [Pt.U, Pt.locs, Pt.cells, Pt.slots] at X5 l5 y5 z5 st5 hQ5
  subst l5 y5 z5
  obtain ⟨rfl, Nq5, eh5⟩ := hQ5
  have N5 := Fr.app N0 Nq5
  refine Go.step (T' := T5) (f' := (mkF m 20 #[.val (.ref a1), .val (.ref a2), .val (.int (0 : Int32))] [(.int (1 : Int32))])) (fun _ k => st5.trans k) ?_
  refine Go.step (T' := T5) (f' := (mkF m 23 #[.val (.ref a1), .val (.ref a2), .val (.int (0 : Int32))] [])) (fun _ k => XS.ifNo X5.here hx rfl (hb hby d12_20) rfl ((if0 _ _).trans (feq (by decide : ¬ ((1 : Int32) = (0 : Int32)))).1) k) ?_
  refine Go.step (T' := T5) (f' := (mkF m 24 #[.val (.ref a1), .val (.ref a2), .val (.int (0 : Int32))] [(.ref a1)])) (fun _ k => XS.aloadN X5.here hx rfl (hb hby d12_23) rfl rfl k) ?_
  obtain ⟨T6, X6, e6, st6⟩ := getF X5 hx hZ hown (host := "") (Or.inl (hw _ (List.mem_of_getElem? (i := 37) rfl))) Via.refl eh5 F_values_a1 (g := (mkF m 24 #[.val (.ref a1), .val (.ref a2), .val (.int (0 : Int32))] [(.ref a1)])) rfl rfl (hb hby d12_24)
  refine Go.step (T' := T6) (f' := (mkF m 27 #[.val (.ref a1), .val (.ref a2), .val (.int (0 : Int32))] [(.ref v)])) st6 ?_
  refine Go.step (T' := T6) (f' := (mkF m 28 #[.val (.ref a1), .val (.ref a2), .val (.int (0 : Int32))] [(.int (0 : Int32)), (.ref v)])) (fun _ k => XS.iloadN X6.here hx rfl (hb hby d12_27) rfl k) ?_
  obtain ⟨cl7, Ar7, qc7, Sz7, Nn7, Hs7, Gf7⟩ := id V_v
  have hin8 : ¬ ((0 : Int32) < 0 ∨ cl7.slots.size ≤ ((0 : Int32)).toNatClampNeg) := (inb_of Sz7 ⟨by decide, by decide⟩)
  have hat8 : cl7.slots[((0 : Int32)).toNatClampNeg]? = some (.ref y) := Has.at Hs7 hin8 rfl
  refine Go.step (T' := T6) (f' := (mkF m 29 #[.val (.ref a1), .val (.ref a2), .val (.int (0 : Int32))] [(.ref y)])) (fun _ k => X6.aaload hx (j := (0 : Int32)) (v := (.ref y)) (by rw [e6]; exact Ar7.1) (State.isArrayOf_alike hZ.alike Ar7.2.1) rfl Ar7.2.2 hin8 hat8 (g := (mkF m 28 #[.val (.ref a1), .val (.ref a2), .val (.int (0 : Int32))] [(.int (0 : Int32)), (.ref v)])) rfl rfl (hb hby d12_28) _ k) ?_
  refine goA X6 hx Bd.returns rfl rfl Bd.notSynchronized (hb hby d12_29) ?_ (by decide) (by decide)
  show Q_rm12 Z a1 a2 n v kn kv y h0 n0 _ T6.heap _
  rw [e6]
  exact ⟨rfl, N5, rfl⟩
theorem d15_0 : decode prog_8_method_3_code 0 = .ok (.aload_n 0, 1) := by decide +kernel
theorem d15_1 : decode prog_8_method_3_code 1 = .ok (.getfield 9, 3) := by decide +kernel
theorem d15_4 : decode prog_8_method_3_code 4 = .ok (.iload_n 1, 1) := by decide +kernel
theorem d15_5 : decode prog_8_method_3_code 5 = .ok (.aaload, 1) := by decide +kernel
theorem d15_6 : decode prog_8_method_3_code 6 = .ok (.areturn, 1) := by decide +kernel
theorem ef_rm15 (m : MethodId) (a1 : Addr) : entryFrame m #[(.ref a1), (.int (0 : Int32))] 2 = mkF m 0 #[.val (.ref a1), .val (.int (0 : Int32))] [] := by first | (simp [entryFrame, mkF, argsToLocals, Value.category]; done) | rfl
def Q_rm15 (Z : State) (a1 : Addr) (n : Addr) (kn : ClassId) (y : Addr) (h0 : Heap) (n0 : Nat) (rv : Option Value) (hq : Heap) (Lq : List Loc) : Prop := rv = some (.ref y) ∧ Fr n0 Lq ∧ hq = h0
set_option maxRecDepth 65536 in
set_option maxHeartbeats 40000000 in
theorem rm15 (l : Launch) (Z : State) (a0 : Array Value) (hw : ∀ d ∈ tables_1, d.before a0 Z = true) (ws : List Jvm.Cond) (a1 : Addr) (n : Addr) (kn : ClassId) (y : Addr) (h0 : Heap) (n0 : Nat) (Z0 : n0 ≤ h0.size) (F_names_a1 : Fld Z h0 a1 "com/example/tenderbook/tenderbook/Fields" "names" "[Ljava/lang/String;" (.ref n)) (V_n : Arv Z h0 n kn (.object "java/lang/String") (8 : Int32) [(.ref y), .null, .null, .null, .null, .null, .null, .null] .null) :
    MetFree l (⟨"com/example/tenderbook/tenderbook/Fields", "name", "(I)Ljava/lang/String;"⟩ : MethodName) (head1 (Jvm.Cond.code (⟨"com/example/tenderbook/tenderbook/Fields", "name", "(I)Ljava/lang/String;"⟩ : MethodName) prog_8_method_3_code 2 (some (.object "java/lang/String")) :: ws) ({ frames := 0, cells := 0, slots := 0, locals := 0 } : Room)) (fun a U => a = #[(.ref a1), (.int (0 : Int32))] ∧ Z.Warmed39 U.vm ∧ U.heap = h0) (fun _ _ _ _ _ => True) (fun _ U o U' => ∃ rv Lq, o = .returned rv ∧ Q_rm15 Z a1 n kn y h0 n0 rv U'.heap Lq ∧ FrameEnd U o U' Lq ({ frames := 0, cells := 0, slots := 0, locals := 0 } : Room).cells ({ frames := 0, cells := 0, slots := 0, locals := 0 } : Room).slots) := by
  refine MetFree.of_bodySF (plainFor_of_name pn_6) hisR ?_
  intro p e s m args below meth c s₁ Bd hml0 hP hK
  obtain ⟨rfl, hZ, hh⟩ := hP
  have hx := Bd.exec
  have hby := Bd.bytes
  have hml : c.maxLocals = 2 := hml0
  have hown : s.vm.findClass "com/example/tenderbook/tenderbook/Fields" = some m.cls := findClass_of_methodNamed Bd.named
  have hnm := (name_of_methodNamed Bd.named Bd.method).1
  have X0 : Stand p l e ({ frames := 0, cells := 0, slots := 0, locals := 0 } : Room) s m #[(.ref a1), (.int (0 : Int32))] below meth c s₁ [] 0 0 := Stand.of_body Bd
  have e0 : s₁.heap = h0 := by rw [← hh, Bd.state]; rfl
  have N0 := Fr.nil n0
  refine of_go (ef_rm15 m a1) ?_
  refine Go.step (T' := s₁) (f' := (mkF m 1 #[.val (.ref a1), .val (.int (0 : Int32))] [(.ref a1)])) (fun _ k => XS.aloadN X0.here hx rfl (hb hby d15_0) rfl rfl k) ?_
  obtain ⟨T1, X1, e1, st1⟩ := getF X0 hx hZ hown (host := "") (Or.inl (hw _ (List.mem_of_getElem? (i := 35) rfl))) Via.refl e0 F_names_a1 (g := (mkF m 1 #[.val (.ref a1), .val (.int (0 : Int32))] [(.ref a1)])) rfl rfl (hb hby d15_1)
  refine Go.step (T' := T1) (f' := (mkF m 4 #[.val (.ref a1), .val (.int (0 : Int32))] [(.ref n)])) st1 ?_
  refine Go.step (T' := T1) (f' := (mkF m 5 #[.val (.ref a1), .val (.int (0 : Int32))] [(.int (0 : Int32)), (.ref n)])) (fun _ k => XS.iloadN X1.here hx rfl (hb hby d15_4) rfl k) ?_
  obtain ⟨cl2, Ar2, qc2, Sz2, Nn2, Hs2, Gf2⟩ := id V_n
  have hin3 : ¬ ((0 : Int32) < 0 ∨ cl2.slots.size ≤ ((0 : Int32)).toNatClampNeg) := (inb_of Sz2 ⟨by decide, by decide⟩)
  have hat3 : cl2.slots[((0 : Int32)).toNatClampNeg]? = some (.ref y) := Has.at Hs2 hin3 rfl
  refine Go.step (T' := T1) (f' := (mkF m 6 #[.val (.ref a1), .val (.int (0 : Int32))] [(.ref y)])) (fun _ k => X1.aaload hx (j := (0 : Int32)) (v := (.ref y)) (by rw [e1]; exact Ar2.1) (State.isArrayOf_alike hZ.alike Ar2.2.1) rfl Ar2.2.2 hin3 hat3 (g := (mkF m 5 #[.val (.ref a1), .val (.int (0 : Int32))] [(.int (0 : Int32)), (.ref n)])) rfl rfl (hb hby d15_5) _ k) ?_
  refine goA X1 hx Bd.returns rfl rfl Bd.notSynchronized (hb hby d15_6) ?_ (by decide) (by decide)
  show Q_rm15 Z a1 n kn y h0 n0 _ T1.heap _
  rw [e1]
  exact ⟨rfl, N0, rfl⟩
theorem pd_6 : parseMethodDescriptor "(C)Ljava/lang/String;" = some ⟨[.char], some (.object "java/lang/String")⟩ := by decide +kernel
theorem pd_7 : parseMethodDescriptor "()V" = some ⟨[], none⟩ := by decide +kernel
theorem pd_8 : parseMethodDescriptor "(Ljava/lang/String;Ljava/lang/String;)V" = some ⟨[(.object "java/lang/String"), (.object "java/lang/String")], none⟩ := by decide +kernel
theorem pd_9 : parseMethodDescriptor "()I" = some ⟨[], some .int⟩ := by decide +kernel
theorem pd_10 : parseMethodDescriptor "(Ljava/lang/String;)Ljava/lang/String;" = some ⟨[(.object "java/lang/String")], some (.object "java/lang/String")⟩ := by decide +kernel
theorem pd_11 : parseMethodDescriptor "(Ljava/lang/Object;)Z" = some ⟨[(.object "java/lang/Object")], some .boolean⟩ := by decide +kernel
theorem pd_12 : parseMethodDescriptor "(I)Ljava/lang/String;" = some ⟨[.int], some (.object "java/lang/String")⟩ := by decide +kernel
theorem pn_0 : plainName "com/example/tenderbook/tenderbook/FieldsClearPinLaw" = true := by first | (simp [plainName, overriddenIn]; done) | decide +kernel
theorem ef_rm0 (m : MethodId) (p1 : Int32) (p2 : Int32) (p3 : Int32) (p4 : Int32) (p5 : Int32) : entryFrame m #[(.int p1), (.int p2), (.int p3), (.int p4), (.int p5)] maxLocals = mkF m 0 #[.val (.int p1), .val (.int p2), .val (.int p3), .val (.int p4), .val (.int p5), .unset, .unset, .unset, .unset, .unset, .unset, .unset, .unset, .unset, .unset, .unset, .unset, .unset, .unset, .unset] [] := by first | (simp [entryFrame, mkF, argsToLocals, Value.category, maxLocals]; done) | rfl
def Q_rm0 (Z : State) (p1 : Int32) (p2 : Int32) (p3 : Int32) (p4 : Int32) (p5 : Int32) (cs : Int32) (h0 : Heap) (n0 : Nat) (rv : Option Value) (hq : Heap) (Lq : List Loc) : Prop := rv = some (.int (1 : Int32)) ∧ Fr n0 Lq
set_option maxRecDepth 65536 in
set_option maxHeartbeats 40000000 in
theorem rm0 (l : Launch) (Z : State) (a0 : Array Value) (hw : ∀ d ∈ tables_1, d.before a0 Z = true) (ws : List Jvm.Cond) (p1 : Int32) (p2 : Int32) (p3 : Int32) (p4 : Int32) (p5 : Int32) (cs : Int32) (h0 : Heap) (n0 : Nat) (Z0 : n0 ≤ h0.size) (O0 : Old Z n0 h0) (S_COMPACT_STRINGS : Sta Z Z.heap "java/lang/String" "COMPACT_STRINGS" "Z" (.int cs)) (hcs : ¬ cs = (0 : Int32)) :
    MetFree l x (head1 (Jvm.Cond.code x code maxLocals ret :: ws) room_1) (fun a U => a = #[(.int p1), (.int p2), (.int p3), (.int p4), (.int p5)] ∧ Z.Warmed39 U.vm ∧ U.heap = h0) (fun _ _ _ _ _ => True) (fun _ U o U' => ∃ rv Lq, o = .returned rv ∧ Q_rm0 Z p1 p2 p3 p4 p5 cs h0 n0 rv U'.heap Lq ∧ FrameEnd U o U' Lq room_1.cells room_1.slots) := by
  refine MetFree.of_bodySF (plainFor_of_name pn_0) hisR ?_
  intro p e s m args below meth c s₁ Bd hml0 hP hK
  obtain ⟨rfl, hZ, hh⟩ := hP
  have hx := Bd.exec
  have hby := Bd.bytes
  have hml : c.maxLocals = 20 := hml0
  have hown : s.vm.findClass "com/example/tenderbook/tenderbook/FieldsClearPinLaw" = some m.cls := findClass_of_methodNamed Bd.named
  have hnm := (name_of_methodNamed Bd.named Bd.method).1
  have X0 : Stand p l e room_1 s m #[(.int p1), (.int p2), (.int p3), (.int p4), (.int p5)] below meth c s₁ [] 0 0 := Stand.of_body Bd
  have e0 : s₁.heap = h0 := by rw [← hh, Bd.state]; rfl
  have N0 := Fr.nil n0
  refine of_go (ef_rm0 m p1 p2 p3 p4 p5) ?_
  refine Go.step (T' := s₁) (f' := (mkF m 1 #[.val (.int p1), .val (.int p2), .val (.int p3), .val (.int p4), .val (.int p5), .unset, .unset, .unset, .unset, .unset, .unset, .unset, .unset, .unset, .unset, .unset, .unset, .unset, .unset, .unset] [(.int p1)])) (fun _ k => XS.iloadN X0.here hx rfl (hb hby at_0) rfl k) ?_
  refine Go.step (T' := s₁) (f' := (mkF m 2 #[.val (.int p1), .val (.int p2), .val (.int p3), .val (.int p4), .val (.int p5), .unset, .unset, .unset, .unset, .unset, .unset, .unset, .unset, .unset, .unset, .unset, .unset, .unset, .unset, .unset] [(.int (3 : Int32)), (.int p1)])) (fun _ k => XS.iconst X0.here hx rfl (hb hby at_1) k) ?_
  refine Go.step (T' := s₁) (f' := (mkF m 3 #[.val (.int p1), .val (.int p2), .val (.int p3), .val (.int p4), .val (.int p5), .unset, .unset, .unset, .unset, .unset, .unset, .unset, .unset, .unset, .unset, .unset, .unset, .unset, .unset, .unset] [(.int (p1 &&& (3 : Int32)))])) (fun _ k => XS.iand X0.here hx rfl (hb hby at_2) rfl k) ?_
  refine Go.step (T' := s₁) (f' := (mkF m 5 #[.val (.int p1), .val (.int p2), .val (.int p3), .val (.int p4), .val (.int p5), .val (.int (p1 &&& (3 : Int32))), .unset, .unset, .unset, .unset, .unset, .unset, .unset, .unset, .unset, .unset, .unset, .unset, .unset, .unset] [])) (fun _ k => XS.istore X0.here hx rfl (hb hby at_3) rfl (l' := #[.val (.int p1), .val (.int p2), .val (.int p3), .val (.int p4), .val (.int p5), .val (.int (p1 &&& (3 : Int32))), .unset, .unset, .unset, .unset, .unset, .unset, .unset, .unset, .unset, .unset, .unset, .unset, .unset, .unset]) rfl k) ?_
  refine Go.step (T' := s₁) (f' := (mkF m 6 #[.val (.int p1), .val (.int p2), .val (.int p3), .val (.int p4), .val (.int p5), .val (.int (p1 &&& (3 : Int32))), .unset, .unset, .unset, .unset, .unset, .unset, .unset, .unset, .unset, .unset, .unset, .unset, .unset, .unset] [(.int p2)])) (fun _ k => XS.iloadN X0.here hx rfl (hb hby at_5) rfl k) ?_
  refine Go.step (T' := s₁) (f' := (mkF m 9 #[.val (.int p1), .val (.int p2), .val (.int p3), .val (.int p4), .val (.int p5), .val (.int (p1 &&& (3 : Int32))), .unset, .unset, .unset, .unset, .unset, .unset, .unset, .unset, .unset, .unset, .unset, .unset, .unset, .unset] [(.int (255 : Int32)), (.int p2)])) (fun _ k => XS.sipush X0.here hx rfl (hb hby at_6) k) ?_
  refine Go.step (T' := s₁) (f' := (mkF m 10 #[.val (.int p1), .val (.int p2), .val (.int p3), .val (.int p4), .val (.int p5), .val (.int (p1 &&& (3 : Int32))), .unset, .unset, .unset, .unset, .unset, .unset, .unset, .unset, .unset, .unset, .unset, .unset, .unset, .unset] [(.int (p2 &&& (255 : Int32)))])) (fun _ k => XS.iand X0.here hx rfl (hb hby at_9) rfl k) ?_
  refine Go.step (T' := s₁) (f' := (mkF m 11 #[.val (.int p1), .val (.int p2), .val (.int p3), .val (.int p4), .val (.int p5), .val (.int (p1 &&& (3 : Int32))), .unset, .unset, .unset, .unset, .unset, .unset, .unset, .unset, .unset, .unset, .unset, .unset, .unset, .unset] [(.int ((p2 &&& (255 : Int32)).toUInt32.toUInt16.toUInt32.toInt32))])) (fun _ k => XS.i2c X0.here hx rfl (hb hby at_10) rfl k) ?_
  obtain ⟨_, _, ⟨T1, L1, k1, n1⟩, -, X1, ⟨Lc1, hQ1, l1, y1, z1⟩, st1⟩ := Jvm.LawKit.callS X0 hx (y := (⟨"java/lang/String", "valueOf", "(C)Ljava/lang/String;"⟩ : MethodName)) hown (mvT hZ (hw _ (List.mem_of_getElem? (i := 0) rfl))) (mvT hZ (hw _ (List.mem_of_getElem? (i := 1) rfl))) (mvT hZ (hw _ (List.mem_of_getElem? (i := 2) rfl))) (mvT hZ (hw _ (List.mem_of_getElem? (i := 3) rfl))) (by decide) (backOf (W := 0) (rm1 l Z a0 hw [] ((p2 &&& (255 : Int32)).toUInt32.toUInt16.toUInt32.toInt32) cs h0 n0 Z0 O0 S_COMPACT_STRINGS hcs (own_c255 _)) hZ (hw _ (List.mem_of_getElem? (i := 3) rfl)) (hw _ (List.mem_of_getElem? (i := 2) rfl)) (by decide) (by decide)) (g := (mkF m 11 #[.val (.int p1), .val (.int p2), .val (.int p3), .val (.int p4), .val (.int p5), .val (.int (p1 &&& (3 : Int32))), .unset, .unset, .unset, .unset, .unset, .unset, .unset, .unset, .unset, .unset, .unset, .unset, .unset, .unset] [(.int ((p2 &&& (255 : Int32)).toUInt32.toUInt16.toUInt32.toInt32))])) rfl (by rw [hml]; rfl) (argsL := [(.int ((p2 &&& (255 : Int32)).toUInt32.toUInt16.toUInt32.toInt32))]) (rest := []) (lenOf pd_6 rfl) rfl (by show 2 * 0 + _ ≤ _; exact Nat.le_of_eq rfl) (hb hby at_11) (fun _ _ => ⟨rfl, e0, (by decide : 0 + 2 ≤ _), (by decide : 0 + 5 ≤ _)⟩)
  dsimp only [Pt.U, Pt.locs, Pt.cells, Pt.slots] at X1 l1 y1 z1 st1 hQ1
  subst l1 y1 z1
  obtain ⟨b_1, rfl, Nq1, Kq1, r1_0, r1_1⟩ := hQ1
  have N1 := Fr.app N0 Nq1
  have g_b_1 : n0 ≤ b_1 := Nat.le_trans Z0 r1_0
  have Z2 : n0 ≤ T1.heap.size := Nat.le_trans Z0 Kq1.1
  have O2 : Old Z n0 T1.heap := O0.keep Kq1 all0
  refine Go.step (T' := T1) (f' := (mkF m 14 #[.val (.int p1), .val (.int p2), .val (.int p3), .val (.int p4), .val (.int p5), .val (.int (p1 &&& (3 : Int32))), .unset, .unset, .unset, .unset, .unset, .unset, .unset, .unset, .unset, .unset, .unset, .unset, .unset, .unset] [(.ref b_1)])) st1 ?_
  refine Go.step (T' := T1) (f' := (mkF m 16 #[.val (.int p1), .val (.int p2), .val (.int p3), .val (.int p4), .val (.int p5), .val (.int (p1 &&& (3 : Int32))), .val (.ref b_1), .unset, .unset, .unset, .unset, .unset, .unset, .unset, .unset, .unset, .unset, .unset, .unset, .unset] [])) (fun _ k => XS.astore X1.here hx rfl (hb hby at_14) rfl rfl (l' := #[.val (.int p1), .val (.int p2), .val (.int p3), .val (.int p4), .val (.int p5), .val (.int (p1 &&& (3 : Int32))), .val (.ref b_1), .unset, .unset, .unset, .unset, .unset, .unset, .unset, .unset, .unset, .unset, .unset, .unset, .unset]) rfl k) ?_
  refine Go.step (T' := T1) (f' := (mkF m 17 #[.val (.int p1), .val (.int p2), .val (.int p3), .val (.int p4), .val (.int p5), .val (.int (p1 &&& (3 : Int32))), .val (.ref b_1), .unset, .unset, .unset, .unset, .unset, .unset, .unset, .unset, .unset, .unset, .unset, .unset, .unset] [(.int p2)])) (fun _ k => XS.iloadN X1.here hx rfl (hb hby at_16) rfl k) ?_
  refine Go.step (T' := T1) (f' := (mkF m 19 #[.val (.int p1), .val (.int p2), .val (.int p3), .val (.int p4), .val (.int p5), .val (.int (p1 &&& (3 : Int32))), .val (.ref b_1), .unset, .unset, .unset, .unset, .unset, .unset, .unset, .unset, .unset, .unset, .unset, .unset, .unset] [(.int (8 : Int32)), (.int p2)])) (fun _ k => XS.bipush X1.here hx rfl (hb hby at_17) k) ?_
  refine Go.step (T' := T1) (f' := (mkF m 20 #[.val (.int p1), .val (.int p2), .val (.int p3), .val (.int p4), .val (.int p5), .val (.int (p1 &&& (3 : Int32))), .val (.ref b_1), .unset, .unset, .unset, .unset, .unset, .unset, .unset, .unset, .unset, .unset, .unset, .unset, .unset] [(.int ((p2.toUInt32 >>> ((8 : Int32) &&& 31).toUInt32).toInt32))])) (fun _ k => XS.iushr X1.here hx rfl (hb hby at_19) rfl k) ?_
  refine Go.step (T' := T1) (f' := (mkF m 23 #[.val (.int p1), .val (.int p2), .val (.int p3), .val (.int p4), .val (.int p5), .val (.int (p1 &&& (3 : Int32))), .val (.ref b_1), .unset, .unset, .unset, .unset, .unset, .unset, .unset, .unset, .unset, .unset, .unset, .unset, .unset] [(.int (255 : Int32)), (.int ((p2.toUInt32 >>> ((8 : Int32) &&& 31).toUInt32).toInt32))])) (fun _ k => XS.sipush X1.here hx rfl (hb hby at_20) k) ?_
  refine Go.step (T' := T1) (f' := (mkF m 24 #[.val (.int p1), .val (.int p2), .val (.int p3), .val (.int p4), .val (.int p5), .val (.int (p1 &&& (3 : Int32))), .val (.ref b_1), .unset, .unset, .unset, .unset, .unset, .unset, .unset, .unset, .unset, .unset, .unset, .unset, .unset] [(.int (((p2.toUInt32 >>> ((8 : Int32) &&& 31).toUInt32).toInt32) &&& (255 : Int32)))])) (fun _ k => XS.iand X1.here hx rfl (hb hby at_23) rfl k) ?_
  refine Go.step (T' := T1) (f' := (mkF m 25 #[.val (.int p1), .val (.int p2), .val (.int p3), .val (.int p4), .val (.int p5), .val (.int (p1 &&& (3 : Int32))), .val (.ref b_1), .unset, .unset, .unset, .unset, .unset, .unset, .unset, .unset, .unset, .unset, .unset, .unset, .unset] [(.int ((((p2.toUInt32 >>> ((8 : Int32) &&& 31).toUInt32).toInt32) &&& (255 : Int32)).toUInt32.toUInt16.toUInt32.toInt32))])) (fun _ k => XS.i2c X1.here hx rfl (hb hby at_24) rfl k) ?_
  obtain ⟨_, _, ⟨T3, L3, k3, n3⟩, -, X3, ⟨Lc3, hQ3, l3, y3, z3⟩, st3⟩ := Jvm.LawKit.callS X1 hx (y := (⟨"java/lang/String", "valueOf", "(C)Ljava/lang/String;"⟩ : MethodName)) hown (mvT hZ (hw _ (List.mem_of_getElem? (i := 0) rfl))) (mvT hZ (hw _ (List.mem_of_getElem? (i := 1) rfl))) (mvT hZ (hw _ (List.mem_of_getElem? (i := 2) rfl))) (mvT hZ (hw _ (List.mem_of_getElem? (i := 3) rfl))) (by decide) (backOf (W := 0) (rm1 l Z a0 hw [] ((((p2.toUInt32 >>> ((8 : Int32) &&& 31).toUInt32).toInt32) &&& (255 : Int32)).toUInt32.toUInt16.toUInt32.toInt32) cs T1.heap n0 Z2 O2 S_COMPACT_STRINGS hcs (own_c255 _)) hZ (hw _ (List.mem_of_getElem? (i := 3) rfl)) (hw _ (List.mem_of_getElem? (i := 2) rfl)) (by decide) (by decide)) (g := (mkF m 25 #[.val (.int p1), .val (.int p2), .val (.int p3), .val (.int p4), .val (.int p5), .val (.int (p1 &&& (3 : Int32))), .val (.ref b_1), .unset, .unset, .unset, .unset, .unset, .unset, .unset, .unset, .unset, .unset, .unset, .unset, .unset] [(.int ((((p2.toUInt32 >>> ((8 : Int32) &&& 31).toUInt32).toInt32) &&& (255 : Int32)).toUInt32.toUInt16.toUInt32.toInt32))])) rfl (by rw [hml]; rfl) (argsL := [(.int ((((p2.toUInt32 >>> ((8 : Int32) &&& 31).toUInt32).toInt32) &&& (255 : Int32)).toUInt32.toUInt16.toUInt32.toInt32))]) (rest := []) (lenOf pd_6 rfl) rfl (by show 2 * 0 + _ ≤ _; exact Nat.le_of_eq rfl) (hb hby at_25) (fun _ _ => ⟨rfl, rfl, (by decide : 2 + 2 ≤ _), (by decide : 5 + 5 ≤ _)⟩)
  dsimp only [Pt.U, Pt.locs, Pt.cells, Pt.slots] at X3 l3 y3 z3 st3 hQ3
  subst l3 y3 z3
  obtain ⟨b_3, rfl, Nq3, Kq3, r3_0, r3_1⟩ := hQ3
  have N3 := Fr.app N1 Nq3
  have g_b_3 : n0 ≤ b_3 := Nat.le_trans Z2 r3_0
  have Z4 : n0 ≤ T3.heap.size := Nat.le_trans Z2 Kq3.1
  have O4 : Old Z n0 T3.heap := O2.keep Kq3 all0
  refine Go.step (T' := T3) (f' := (mkF m 28 #[.val (.int p1), .val (.int p2), .val (.int p3), .val (.int p4), .val (.int p5), .val (.int (p1 &&& (3 : Int32))), .val (.ref b_1), .unset, .unset, .unset, .unset, .unset, .unset, .unset, .unset, .unset, .unset, .unset, .unset, .unset] [(.ref b_3)])) st3 ?_
  refine Go.step (T' := T3) (f' := (mkF m 30 #[.val (.int p1), .val (.int p2), .val (.int p3), .val (.int p4), .val (.int p5), .val (.int (p1 &&& (3 : Int32))), .val (.ref b_1), .val (.ref b_3), .unset, .unset, .unset, .unset, .unset, .unset, .unset, .unset, .unset, .unset, .unset, .unset] [])) (fun _ k => XS.astore X3.here hx rfl (hb hby at_28) rfl rfl (l' := #[.val (.int p1), .val (.int p2), .val (.int p3), .val (.int p4), .val (.int p5), .val (.int (p1 &&& (3 : Int32))), .val (.ref b_1), .val (.ref b_3), .unset, .unset, .unset, .unset, .unset, .unset, .unset, .unset, .unset, .unset, .unset, .unset]) rfl k) ?_
  refine Go.step (T' := T3) (f' := (mkF m 31 #[.val (.int p1), .val (.int p2), .val (.int p3), .val (.int p4), .val (.int p5), .val (.int (p1 &&& (3 : Int32))), .val (.ref b_1), .val (.ref b_3), .unset, .unset, .unset, .unset, .unset, .unset, .unset, .unset, .unset, .unset, .unset, .unset] [(.int p3)])) (fun _ k => XS.iloadN X3.here hx rfl (hb hby at_30) rfl k) ?_
  refine Go.step (T' := T3) (f' := (mkF m 34 #[.val (.int p1), .val (.int p2), .val (.int p3), .val (.int p4), .val (.int p5), .val (.int (p1 &&& (3 : Int32))), .val (.ref b_1), .val (.ref b_3), .unset, .unset, .unset, .unset, .unset, .unset, .unset, .unset, .unset, .unset, .unset, .unset] [(.int (255 : Int32)), (.int p3)])) (fun _ k => XS.sipush X3.here hx rfl (hb hby at_31) k) ?_
  refine Go.step (T' := T3) (f' := (mkF m 35 #[.val (.int p1), .val (.int p2), .val (.int p3), .val (.int p4), .val (.int p5), .val (.int (p1 &&& (3 : Int32))), .val (.ref b_1), .val (.ref b_3), .unset, .unset, .unset, .unset, .unset, .unset, .unset, .unset, .unset, .unset, .unset, .unset] [(.int (p3 &&& (255 : Int32)))])) (fun _ k => XS.iand X3.here hx rfl (hb hby at_34) rfl k) ?_
  refine Go.step (T' := T3) (f' := (mkF m 36 #[.val (.int p1), .val (.int p2), .val (.int p3), .val (.int p4), .val (.int p5), .val (.int (p1 &&& (3 : Int32))), .val (.ref b_1), .val (.ref b_3), .unset, .unset, .unset, .unset, .unset, .unset, .unset, .unset, .unset, .unset, .unset, .unset] [(.int ((p3 &&& (255 : Int32)).toUInt32.toUInt16.toUInt32.toInt32))])) (fun _ k => XS.i2c X3.here hx rfl (hb hby at_35) rfl k) ?_
  obtain ⟨_, _, ⟨T5, L5, k5, n5⟩, -, X5, ⟨Lc5, hQ5, l5, y5, z5⟩, st5⟩ := Jvm.LawKit.callS X3 hx (y := (⟨"java/lang/String", "valueOf", "(C)Ljava/lang/String;"⟩ : MethodName)) hown (mvT hZ (hw _ (List.mem_of_getElem? (i := 0) rfl))) (mvT hZ (hw _ (List.mem_of_getElem? (i := 1) rfl))) (mvT hZ (hw _ (List.mem_of_getElem? (i := 2) rfl))) (mvT hZ (hw _ (List.mem_of_getElem? (i := 3) rfl))) (by decide) (backOf (W := 0) (rm1 l Z a0 hw [] ((p3 &&& (255 : Int32)).toUInt32.toUInt16.toUInt32.toInt32) cs T3.heap n0 Z4 O4 S_COMPACT_STRINGS hcs (own_c255 _)) hZ (hw _ (List.mem_of_getElem? (i := 3) rfl)) (hw _ (List.mem_of_getElem? (i := 2) rfl)) (by decide) (by decide)) (g := (mkF m 36 #[.val (.int p1), .val (.int p2), .val (.int p3), .val (.int p4), .val (.int p5), .val (.int (p1 &&& (3 : Int32))), .val (.ref b_1), .val (.ref b_3), .unset, .unset, .unset, .unset, .unset, .unset, .unset, .unset, .unset, .unset, .unset, .unset] [(.int ((p3 &&& (255 : Int32)).toUInt32.toUInt16.toUInt32.toInt32))])) rfl (by rw [hml]; rfl) (argsL := [(.int ((p3 &&& (255 : Int32)).toUInt32.toUInt16.toUInt32.toInt32))]) (rest := []) (lenOf pd_6 rfl) rfl (by show 2 * 0 + _ ≤ _; exact Nat.le_of_eq rfl) (hb hby at_36) (fun _ _ => ⟨rfl, rfl, (by decide : 4 + 2 ≤ _), (by decide : 10 + 5 ≤ _)⟩)
  dsimp only [Pt.U, Pt.locs, Pt.cells, Pt.slots] at X5 l5 y5 z5 st5 hQ5
  subst l5 y5 z5
  obtain ⟨b_5, rfl, Nq5, Kq5, r5_0, r5_1⟩ := hQ5
  have N5 := Fr.app N3 Nq5
  have g_b_5 : n0 ≤ b_5 := Nat.le_trans Z4 r5_0
  have Z6 : n0 ≤ T5.heap.size := Nat.le_trans Z4 Kq5.1
  have O6 : Old Z n0 T5.heap := O4.keep Kq5 all0
  refine Go.step (T' := T5) (f' := (mkF m 39 #[.val (.int p1), .val (.int p2), .val (.int p3), .val (.int p4), .val (.int p5), .val (.int (p1 &&& (3 : Int32))), .val (.ref b_1), .val (.ref b_3), .unset, .unset, .unset, .unset, .unset, .unset, .unset, .unset, .unset, .unset, .unset, .unset] [(.ref b_5)])) st5 ?_
  refine Go.step (T' := T5) (f' := (mkF m 41 #[.val (.int p1), .val (.int p2), .val (.int p3), .val (.int p4), .val (.int p5), .val (.int (p1 &&& (3 : Int32))), .val (.ref b_1), .val (.ref b_3), .val (.ref b_5), .unset, .unset, .unset, .unset, .unset, .unset, .unset, .unset, .unset, .unset, .unset] [])) (fun _ k => XS.astore X5.here hx rfl (hb hby at_39) rfl rfl (l' := #[.val (.int p1), .val (.int p2), .val (.int p3), .val (.int p4), .val (.int p5), .val (.int (p1 &&& (3 : Int32))), .val (.ref b_1), .val (.ref b_3), .val (.ref b_5), .unset, .unset, .unset, .unset, .unset, .unset, .unset, .unset, .unset, .unset, .unset]) rfl k) ?_
  refine Go.step (T' := T5) (f' := (mkF m 42 #[.val (.int p1), .val (.int p2), .val (.int p3), .val (.int p4), .val (.int p5), .val (.int (p1 &&& (3 : Int32))), .val (.ref b_1), .val (.ref b_3), .val (.ref b_5), .unset, .unset, .unset, .unset, .unset, .unset, .unset, .unset, .unset, .unset, .unset] [(.int p3)])) (fun _ k => XS.iloadN X5.here hx rfl (hb hby at_41) rfl k) ?_
  refine Go.step (T' := T5) (f' := (mkF m 44 #[.val (.int p1), .val (.int p2), .val (.int p3), .val (.int p4), .val (.int p5), .val (.int (p1 &&& (3 : Int32))), .val (.ref b_1), .val (.ref b_3), .val (.ref b_5), .unset, .unset, .unset, .unset, .unset, .unset, .unset, .unset, .unset, .unset, .unset] [(.int (8 : Int32)), (.int p3)])) (fun _ k => XS.bipush X5.here hx rfl (hb hby at_42) k) ?_
  refine Go.step (T' := T5) (f' := (mkF m 45 #[.val (.int p1), .val (.int p2), .val (.int p3), .val (.int p4), .val (.int p5), .val (.int (p1 &&& (3 : Int32))), .val (.ref b_1), .val (.ref b_3), .val (.ref b_5), .unset, .unset, .unset, .unset, .unset, .unset, .unset, .unset, .unset, .unset, .unset] [(.int ((p3.toUInt32 >>> ((8 : Int32) &&& 31).toUInt32).toInt32))])) (fun _ k => XS.iushr X5.here hx rfl (hb hby at_44) rfl k) ?_
  refine Go.step (T' := T5) (f' := (mkF m 48 #[.val (.int p1), .val (.int p2), .val (.int p3), .val (.int p4), .val (.int p5), .val (.int (p1 &&& (3 : Int32))), .val (.ref b_1), .val (.ref b_3), .val (.ref b_5), .unset, .unset, .unset, .unset, .unset, .unset, .unset, .unset, .unset, .unset, .unset] [(.int (255 : Int32)), (.int ((p3.toUInt32 >>> ((8 : Int32) &&& 31).toUInt32).toInt32))])) (fun _ k => XS.sipush X5.here hx rfl (hb hby at_45) k) ?_
  refine Go.step (T' := T5) (f' := (mkF m 49 #[.val (.int p1), .val (.int p2), .val (.int p3), .val (.int p4), .val (.int p5), .val (.int (p1 &&& (3 : Int32))), .val (.ref b_1), .val (.ref b_3), .val (.ref b_5), .unset, .unset, .unset, .unset, .unset, .unset, .unset, .unset, .unset, .unset, .unset] [(.int (((p3.toUInt32 >>> ((8 : Int32) &&& 31).toUInt32).toInt32) &&& (255 : Int32)))])) (fun _ k => XS.iand X5.here hx rfl (hb hby at_48) rfl k) ?_
  refine Go.step (T' := T5) (f' := (mkF m 50 #[.val (.int p1), .val (.int p2), .val (.int p3), .val (.int p4), .val (.int p5), .val (.int (p1 &&& (3 : Int32))), .val (.ref b_1), .val (.ref b_3), .val (.ref b_5), .unset, .unset, .unset, .unset, .unset, .unset, .unset, .unset, .unset, .unset, .unset] [(.int ((((p3.toUInt32 >>> ((8 : Int32) &&& 31).toUInt32).toInt32) &&& (255 : Int32)).toUInt32.toUInt16.toUInt32.toInt32))])) (fun _ k => XS.i2c X5.here hx rfl (hb hby at_49) rfl k) ?_
  obtain ⟨_, _, ⟨T7, L7, k7, n7⟩, -, X7, ⟨Lc7, hQ7, l7, y7, z7⟩, st7⟩ := Jvm.LawKit.callS X5 hx (y := (⟨"java/lang/String", "valueOf", "(C)Ljava/lang/String;"⟩ : MethodName)) hown (mvT hZ (hw _ (List.mem_of_getElem? (i := 0) rfl))) (mvT hZ (hw _ (List.mem_of_getElem? (i := 1) rfl))) (mvT hZ (hw _ (List.mem_of_getElem? (i := 2) rfl))) (mvT hZ (hw _ (List.mem_of_getElem? (i := 3) rfl))) (by decide) (backOf (W := 0) (rm1 l Z a0 hw [] ((((p3.toUInt32 >>> ((8 : Int32) &&& 31).toUInt32).toInt32) &&& (255 : Int32)).toUInt32.toUInt16.toUInt32.toInt32) cs T5.heap n0 Z6 O6 S_COMPACT_STRINGS hcs (own_c255 _)) hZ (hw _ (List.mem_of_getElem? (i := 3) rfl)) (hw _ (List.mem_of_getElem? (i := 2) rfl)) (by decide) (by decide)) (g := (mkF m 50 #[.val (.int p1), .val (.int p2), .val (.int p3), .val (.int p4), .val (.int p5), .val (.int (p1 &&& (3 : Int32))), .val (.ref b_1), .val (.ref b_3), .val (.ref b_5), .unset, .unset, .unset, .unset, .unset, .unset, .unset, .unset, .unset, .unset, .unset] [(.int ((((p3.toUInt32 >>> ((8 : Int32) &&& 31).toUInt32).toInt32) &&& (255 : Int32)).toUInt32.toUInt16.toUInt32.toInt32))])) rfl (by rw [hml]; rfl) (argsL := [(.int ((((p3.toUInt32 >>> ((8 : Int32) &&& 31).toUInt32).toInt32) &&& (255 : Int32)).toUInt32.toUInt16.toUInt32.toInt32))]) (rest := []) (lenOf pd_6 rfl) rfl (by show 2 * 0 + _ ≤ _; exact Nat.le_of_eq rfl) (hb hby at_50) (fun _ _ => ⟨rfl, rfl, (by decide : 6 + 2 ≤ _), (by decide : 15 + 5 ≤ _)⟩)
  dsimp only [Pt.U, Pt.locs, Pt.cells, Pt.slots] at X7 l7 y7 z7 st7 hQ7
  subst l7 y7 z7
  obtain ⟨b_7, rfl, Nq7, Kq7, r7_0, r7_1⟩ := hQ7
  have N7 := Fr.app N5 Nq7
  have g_b_7 : n0 ≤ b_7 := Nat.le_trans Z6 r7_0
  have Z8 : n0 ≤ T7.heap.size := Nat.le_trans Z6 Kq7.1
  have O8 : Old Z n0 T7.heap := O6.keep Kq7 all0
  refine Go.step (T' := T7) (f' := (mkF m 53 #[.val (.int p1), .val (.int p2), .val (.int p3), .val (.int p4), .val (.int p5), .val (.int (p1 &&& (3 : Int32))), .val (.ref b_1), .val (.ref b_3), .val (.ref b_5), .unset, .unset, .unset, .unset, .unset, .unset, .unset, .unset, .unset, .unset, .unset] [(.ref b_7)])) st7 ?_
  refine Go.step (T' := T7) (f' := (mkF m 55 #[.val (.int p1), .val (.int p2), .val (.int p3), .val (.int p4), .val (.int p5), .val (.int (p1 &&& (3 : Int32))), .val (.ref b_1), .val (.ref b_3), .val (.ref b_5), .val (.ref b_7), .unset, .unset, .unset, .unset, .unset, .unset, .unset, .unset, .unset, .unset] [])) (fun _ k => XS.astore X7.here hx rfl (hb hby at_53) rfl rfl (l' := #[.val (.int p1), .val (.int p2), .val (.int p3), .val (.int p4), .val (.int p5), .val (.int (p1 &&& (3 : Int32))), .val (.ref b_1), .val (.ref b_3), .val (.ref b_5), .val (.ref b_7), .unset, .unset, .unset, .unset, .unset, .unset, .unset, .unset, .unset, .unset]) rfl k) ?_
  refine Go.step (T' := T7) (f' := (mkF m 56 #[.val (.int p1), .val (.int p2), .val (.int p3), .val (.int p4), .val (.int p5), .val (.int (p1 &&& (3 : Int32))), .val (.ref b_1), .val (.ref b_3), .val (.ref b_5), .val (.ref b_7), .unset, .unset, .unset, .unset, .unset, .unset, .unset, .unset, .unset, .unset] [(.int p4)])) (fun _ k => XS.iloadN X7.here hx rfl (hb hby at_55) rfl k) ?_
  refine Go.step (T' := T7) (f' := (mkF m 59 #[.val (.int p1), .val (.int p2), .val (.int p3), .val (.int p4), .val (.int p5), .val (.int (p1 &&& (3 : Int32))), .val (.ref b_1), .val (.ref b_3), .val (.ref b_5), .val (.ref b_7), .unset, .unset, .unset, .unset, .unset, .unset, .unset, .unset, .unset, .unset] [(.int (255 : Int32)), (.int p4)])) (fun _ k => XS.sipush X7.here hx rfl (hb hby at_56) k) ?_
  refine Go.step (T' := T7) (f' := (mkF m 60 #[.val (.int p1), .val (.int p2), .val (.int p3), .val (.int p4), .val (.int p5), .val (.int (p1 &&& (3 : Int32))), .val (.ref b_1), .val (.ref b_3), .val (.ref b_5), .val (.ref b_7), .unset, .unset, .unset, .unset, .unset, .unset, .unset, .unset, .unset, .unset] [(.int (p4 &&& (255 : Int32)))])) (fun _ k => XS.iand X7.here hx rfl (hb hby at_59) rfl k) ?_
  refine Go.step (T' := T7) (f' := (mkF m 61 #[.val (.int p1), .val (.int p2), .val (.int p3), .val (.int p4), .val (.int p5), .val (.int (p1 &&& (3 : Int32))), .val (.ref b_1), .val (.ref b_3), .val (.ref b_5), .val (.ref b_7), .unset, .unset, .unset, .unset, .unset, .unset, .unset, .unset, .unset, .unset] [(.int ((p4 &&& (255 : Int32)).toUInt32.toUInt16.toUInt32.toInt32))])) (fun _ k => XS.i2c X7.here hx rfl (hb hby at_60) rfl k) ?_
  obtain ⟨_, _, ⟨T9, L9, k9, n9⟩, -, X9, ⟨Lc9, hQ9, l9, y9, z9⟩, st9⟩ := Jvm.LawKit.callS X7 hx (y := (⟨"java/lang/String", "valueOf", "(C)Ljava/lang/String;"⟩ : MethodName)) hown (mvT hZ (hw _ (List.mem_of_getElem? (i := 0) rfl))) (mvT hZ (hw _ (List.mem_of_getElem? (i := 1) rfl))) (mvT hZ (hw _ (List.mem_of_getElem? (i := 2) rfl))) (mvT hZ (hw _ (List.mem_of_getElem? (i := 3) rfl))) (by decide) (backOf (W := 0) (rm1 l Z a0 hw [] ((p4 &&& (255 : Int32)).toUInt32.toUInt16.toUInt32.toInt32) cs T7.heap n0 Z8 O8 S_COMPACT_STRINGS hcs (own_c255 _)) hZ (hw _ (List.mem_of_getElem? (i := 3) rfl)) (hw _ (List.mem_of_getElem? (i := 2) rfl)) (by decide) (by decide)) (g := (mkF m 61 #[.val (.int p1), .val (.int p2), .val (.int p3), .val (.int p4), .val (.int p5), .val (.int (p1 &&& (3 : Int32))), .val (.ref b_1), .val (.ref b_3), .val (.ref b_5), .val (.ref b_7), .unset, .unset, .unset, .unset, .unset, .unset, .unset, .unset, .unset, .unset] [(.int ((p4 &&& (255 : Int32)).toUInt32.toUInt16.toUInt32.toInt32))])) rfl (by rw [hml]; rfl) (argsL := [(.int ((p4 &&& (255 : Int32)).toUInt32.toUInt16.toUInt32.toInt32))]) (rest := []) (lenOf pd_6 rfl) rfl (by show 2 * 0 + _ ≤ _; exact Nat.le_of_eq rfl) (hb hby at_61) (fun _ _ => ⟨rfl, rfl, (by decide : 8 + 2 ≤ _), (by decide : 20 + 5 ≤ _)⟩)
  dsimp only [Pt.U, Pt.locs, Pt.cells, Pt.slots] at X9 l9 y9 z9 st9 hQ9
  subst l9 y9 z9
  obtain ⟨b_9, rfl, Nq9, Kq9, r9_0, r9_1⟩ := hQ9
  have N9 := Fr.app N7 Nq9
  have g_b_9 : n0 ≤ b_9 := Nat.le_trans Z8 r9_0
  have Z10 : n0 ≤ T9.heap.size := Nat.le_trans Z8 Kq9.1
  have O10 : Old Z n0 T9.heap := O8.keep Kq9 all0
  refine Go.step (T' := T9) (f' := (mkF m 64 #[.val (.int p1), .val (.int p2), .val (.int p3), .val (.int p4), .val (.int p5), .val (.int (p1 &&& (3 : Int32))), .val (.ref b_1), .val (.ref b_3), .val (.ref b_5), .val (.ref b_7), .unset, .unset, .unset, .unset, .unset, .unset, .unset, .unset, .unset, .unset] [(.ref b_9)])) st9 ?_
  refine Go.step (T' := T9) (f' := (mkF m 66 #[.val (.int p1), .val (.int p2), .val (.int p3), .val (.int p4), .val (.int p5), .val (.int (p1 &&& (3 : Int32))), .val (.ref b_1), .val (.ref b_3), .val (.ref b_5), .val (.ref b_7), .val (.ref b_9), .unset, .unset, .unset, .unset, .unset, .unset, .unset, .unset, .unset] [])) (fun _ k => XS.astore X9.here hx rfl (hb hby at_64) rfl rfl (l' := #[.val (.int p1), .val (.int p2), .val (.int p3), .val (.int p4), .val (.int p5), .val (.int (p1 &&& (3 : Int32))), .val (.ref b_1), .val (.ref b_3), .val (.ref b_5), .val (.ref b_7), .val (.ref b_9), .unset, .unset, .unset, .unset, .unset, .unset, .unset, .unset, .unset]) rfl k) ?_
  refine Go.step (T' := T9) (f' := (mkF m 67 #[.val (.int p1), .val (.int p2), .val (.int p3), .val (.int p4), .val (.int p5), .val (.int (p1 &&& (3 : Int32))), .val (.ref b_1), .val (.ref b_3), .val (.ref b_5), .val (.ref b_7), .val (.ref b_9), .unset, .unset, .unset, .unset, .unset, .unset, .unset, .unset, .unset] [(.int p4)])) (fun _ k => XS.iloadN X9.here hx rfl (hb hby at_66) rfl k) ?_
  refine Go.step (T' := T9) (f' := (mkF m 69 #[.val (.int p1), .val (.int p2), .val (.int p3), .val (.int p4), .val (.int p5), .val (.int (p1 &&& (3 : Int32))), .val (.ref b_1), .val (.ref b_3), .val (.ref b_5), .val (.ref b_7), .val (.ref b_9), .unset, .unset, .unset, .unset, .unset, .unset, .unset, .unset, .unset] [(.int (8 : Int32)), (.int p4)])) (fun _ k => XS.bipush X9.here hx rfl (hb hby at_67) k) ?_
  refine Go.step (T' := T9) (f' := (mkF m 70 #[.val (.int p1), .val (.int p2), .val (.int p3), .val (.int p4), .val (.int p5), .val (.int (p1 &&& (3 : Int32))), .val (.ref b_1), .val (.ref b_3), .val (.ref b_5), .val (.ref b_7), .val (.ref b_9), .unset, .unset, .unset, .unset, .unset, .unset, .unset, .unset, .unset] [(.int ((p4.toUInt32 >>> ((8 : Int32) &&& 31).toUInt32).toInt32))])) (fun _ k => XS.iushr X9.here hx rfl (hb hby at_69) rfl k) ?_
  refine Go.step (T' := T9) (f' := (mkF m 73 #[.val (.int p1), .val (.int p2), .val (.int p3), .val (.int p4), .val (.int p5), .val (.int (p1 &&& (3 : Int32))), .val (.ref b_1), .val (.ref b_3), .val (.ref b_5), .val (.ref b_7), .val (.ref b_9), .unset, .unset, .unset, .unset, .unset, .unset, .unset, .unset, .unset] [(.int (255 : Int32)), (.int ((p4.toUInt32 >>> ((8 : Int32) &&& 31).toUInt32).toInt32))])) (fun _ k => XS.sipush X9.here hx rfl (hb hby at_70) k) ?_
  refine Go.step (T' := T9) (f' := (mkF m 74 #[.val (.int p1), .val (.int p2), .val (.int p3), .val (.int p4), .val (.int p5), .val (.int (p1 &&& (3 : Int32))), .val (.ref b_1), .val (.ref b_3), .val (.ref b_5), .val (.ref b_7), .val (.ref b_9), .unset, .unset, .unset, .unset, .unset, .unset, .unset, .unset, .unset] [(.int (((p4.toUInt32 >>> ((8 : Int32) &&& 31).toUInt32).toInt32) &&& (255 : Int32)))])) (fun _ k => XS.iand X9.here hx rfl (hb hby at_73) rfl k) ?_
  refine Go.step (T' := T9) (f' := (mkF m 75 #[.val (.int p1), .val (.int p2), .val (.int p3), .val (.int p4), .val (.int p5), .val (.int (p1 &&& (3 : Int32))), .val (.ref b_1), .val (.ref b_3), .val (.ref b_5), .val (.ref b_7), .val (.ref b_9), .unset, .unset, .unset, .unset, .unset, .unset, .unset, .unset, .unset] [(.int ((((p4.toUInt32 >>> ((8 : Int32) &&& 31).toUInt32).toInt32) &&& (255 : Int32)).toUInt32.toUInt16.toUInt32.toInt32))])) (fun _ k => XS.i2c X9.here hx rfl (hb hby at_74) rfl k) ?_
  obtain ⟨_, _, ⟨T11, L11, k11, n11⟩, -, X11, ⟨Lc11, hQ11, l11, y11, z11⟩, st11⟩ := Jvm.LawKit.callS X9 hx (y := (⟨"java/lang/String", "valueOf", "(C)Ljava/lang/String;"⟩ : MethodName)) hown (mvT hZ (hw _ (List.mem_of_getElem? (i := 0) rfl))) (mvT hZ (hw _ (List.mem_of_getElem? (i := 1) rfl))) (mvT hZ (hw _ (List.mem_of_getElem? (i := 2) rfl))) (mvT hZ (hw _ (List.mem_of_getElem? (i := 3) rfl))) (by decide) (backOf (W := 0) (rm1 l Z a0 hw [] ((((p4.toUInt32 >>> ((8 : Int32) &&& 31).toUInt32).toInt32) &&& (255 : Int32)).toUInt32.toUInt16.toUInt32.toInt32) cs T9.heap n0 Z10 O10 S_COMPACT_STRINGS hcs (own_c255 _)) hZ (hw _ (List.mem_of_getElem? (i := 3) rfl)) (hw _ (List.mem_of_getElem? (i := 2) rfl)) (by decide) (by decide)) (g := (mkF m 75 #[.val (.int p1), .val (.int p2), .val (.int p3), .val (.int p4), .val (.int p5), .val (.int (p1 &&& (3 : Int32))), .val (.ref b_1), .val (.ref b_3), .val (.ref b_5), .val (.ref b_7), .val (.ref b_9), .unset, .unset, .unset, .unset, .unset, .unset, .unset, .unset, .unset] [(.int ((((p4.toUInt32 >>> ((8 : Int32) &&& 31).toUInt32).toInt32) &&& (255 : Int32)).toUInt32.toUInt16.toUInt32.toInt32))])) rfl (by rw [hml]; rfl) (argsL := [(.int ((((p4.toUInt32 >>> ((8 : Int32) &&& 31).toUInt32).toInt32) &&& (255 : Int32)).toUInt32.toUInt16.toUInt32.toInt32))]) (rest := []) (lenOf pd_6 rfl) rfl (by show 2 * 0 + _ ≤ _; exact Nat.le_of_eq rfl) (hb hby at_75) (fun _ _ => ⟨rfl, rfl, (by decide : 10 + 2 ≤ _), (by decide : 25 + 5 ≤ _)⟩)
  dsimp only [Pt.U, Pt.locs, Pt.cells, Pt.slots] at X11 l11 y11 z11 st11 hQ11
  subst l11 y11 z11
  obtain ⟨b_11, rfl, Nq11, Kq11, r11_0, r11_1⟩ := hQ11
  have N11 := Fr.app N9 Nq11
  have g_b_11 : n0 ≤ b_11 := Nat.le_trans Z10 r11_0
  have Z12 : n0 ≤ T11.heap.size := Nat.le_trans Z10 Kq11.1
  have O12 : Old Z n0 T11.heap := O10.keep Kq11 all0
  refine Go.step (T' := T11) (f' := (mkF m 78 #[.val (.int p1), .val (.int p2), .val (.int p3), .val (.int p4), .val (.int p5), .val (.int (p1 &&& (3 : Int32))), .val (.ref b_1), .val (.ref b_3), .val (.ref b_5), .val (.ref b_7), .val (.ref b_9), .unset, .unset, .unset, .unset, .unset, .unset, .unset, .unset, .unset] [(.ref b_11)])) st11 ?_
  refine Go.step (T' := T11) (f' := (mkF m 80 #[.val (.int p1), .val (.int p2), .val (.int p3), .val (.int p4), .val (.int p5), .val (.int (p1 &&& (3 : Int32))), .val (.ref b_1), .val (.ref b_3), .val (.ref b_5), .val (.ref b_7), .val (.ref b_9), .val (.ref b_11), .unset, .unset, .unset, .unset, .unset, .unset, .unset, .unset] [])) (fun _ k => XS.astore X11.here hx rfl (hb hby at_78) rfl rfl (l' := #[.val (.int p1), .val (.int p2), .val (.int p3), .val (.int p4), .val (.int p5), .val (.int (p1 &&& (3 : Int32))), .val (.ref b_1), .val (.ref b_3), .val (.ref b_5), .val (.ref b_7), .val (.ref b_9), .val (.ref b_11), .unset, .unset, .unset, .unset, .unset, .unset, .unset, .unset]) rfl k) ?_
  refine Go.step (T' := T11) (f' := (mkF m 82 #[.val (.int p1), .val (.int p2), .val (.int p3), .val (.int p4), .val (.int p5), .val (.int (p1 &&& (3 : Int32))), .val (.ref b_1), .val (.ref b_3), .val (.ref b_5), .val (.ref b_7), .val (.ref b_9), .val (.ref b_11), .unset, .unset, .unset, .unset, .unset, .unset, .unset, .unset] [(.int p5)])) (fun _ k => XS.iload X11.here hx rfl (hb hby at_80) rfl k) ?_
  refine Go.step (T' := T11) (f' := (mkF m 85 #[.val (.int p1), .val (.int p2), .val (.int p3), .val (.int p4), .val (.int p5), .val (.int (p1 &&& (3 : Int32))), .val (.ref b_1), .val (.ref b_3), .val (.ref b_5), .val (.ref b_7), .val (.ref b_9), .val (.ref b_11), .unset, .unset, .unset, .unset, .unset, .unset, .unset, .unset] [(.int (255 : Int32)), (.int p5)])) (fun _ k => XS.sipush X11.here hx rfl (hb hby at_82) k) ?_
  refine Go.step (T' := T11) (f' := (mkF m 86 #[.val (.int p1), .val (.int p2), .val (.int p3), .val (.int p4), .val (.int p5), .val (.int (p1 &&& (3 : Int32))), .val (.ref b_1), .val (.ref b_3), .val (.ref b_5), .val (.ref b_7), .val (.ref b_9), .val (.ref b_11), .unset, .unset, .unset, .unset, .unset, .unset, .unset, .unset] [(.int (p5 &&& (255 : Int32)))])) (fun _ k => XS.iand X11.here hx rfl (hb hby at_85) rfl k) ?_
  refine Go.step (T' := T11) (f' := (mkF m 87 #[.val (.int p1), .val (.int p2), .val (.int p3), .val (.int p4), .val (.int p5), .val (.int (p1 &&& (3 : Int32))), .val (.ref b_1), .val (.ref b_3), .val (.ref b_5), .val (.ref b_7), .val (.ref b_9), .val (.ref b_11), .unset, .unset, .unset, .unset, .unset, .unset, .unset, .unset] [(.int ((p5 &&& (255 : Int32)).toUInt32.toUInt16.toUInt32.toInt32))])) (fun _ k => XS.i2c X11.here hx rfl (hb hby at_86) rfl k) ?_
  obtain ⟨_, _, ⟨T13, L13, k13, n13⟩, -, X13, ⟨Lc13, hQ13, l13, y13, z13⟩, st13⟩ := Jvm.LawKit.callS X11 hx (y := (⟨"java/lang/String", "valueOf", "(C)Ljava/lang/String;"⟩ : MethodName)) hown (mvT hZ (hw _ (List.mem_of_getElem? (i := 0) rfl))) (mvT hZ (hw _ (List.mem_of_getElem? (i := 1) rfl))) (mvT hZ (hw _ (List.mem_of_getElem? (i := 2) rfl))) (mvT hZ (hw _ (List.mem_of_getElem? (i := 3) rfl))) (by decide) (backOf (W := 0) (rm1 l Z a0 hw [] ((p5 &&& (255 : Int32)).toUInt32.toUInt16.toUInt32.toInt32) cs T11.heap n0 Z12 O12 S_COMPACT_STRINGS hcs (own_c255 _)) hZ (hw _ (List.mem_of_getElem? (i := 3) rfl)) (hw _ (List.mem_of_getElem? (i := 2) rfl)) (by decide) (by decide)) (g := (mkF m 87 #[.val (.int p1), .val (.int p2), .val (.int p3), .val (.int p4), .val (.int p5), .val (.int (p1 &&& (3 : Int32))), .val (.ref b_1), .val (.ref b_3), .val (.ref b_5), .val (.ref b_7), .val (.ref b_9), .val (.ref b_11), .unset, .unset, .unset, .unset, .unset, .unset, .unset, .unset] [(.int ((p5 &&& (255 : Int32)).toUInt32.toUInt16.toUInt32.toInt32))])) rfl (by rw [hml]; rfl) (argsL := [(.int ((p5 &&& (255 : Int32)).toUInt32.toUInt16.toUInt32.toInt32))]) (rest := []) (lenOf pd_6 rfl) rfl (by show 2 * 0 + _ ≤ _; exact Nat.le_of_eq rfl) (hb hby at_87) (fun _ _ => ⟨rfl, rfl, (by decide : 12 + 2 ≤ _), (by decide : 30 + 5 ≤ _)⟩)
  dsimp only [Pt.U, Pt.locs, Pt.cells, Pt.slots] at X13 l13 y13 z13 st13 hQ13
  subst l13 y13 z13
  obtain ⟨b_13, rfl, Nq13, Kq13, r13_0, r13_1⟩ := hQ13
  have N13 := Fr.app N11 Nq13
  have g_b_13 : n0 ≤ b_13 := Nat.le_trans Z12 r13_0
  have Z14 : n0 ≤ T13.heap.size := Nat.le_trans Z12 Kq13.1
  have O14 : Old Z n0 T13.heap := O12.keep Kq13 all0
  refine Go.step (T' := T13) (f' := (mkF m 90 #[.val (.int p1), .val (.int p2), .val (.int p3), .val (.int p4), .val (.int p5), .val (.int (p1 &&& (3 : Int32))), .val (.ref b_1), .val (.ref b_3), .val (.ref b_5), .val (.ref b_7), .val (.ref b_9), .val (.ref b_11), .unset, .unset, .unset, .unset, .unset, .unset, .unset, .unset] [(.ref b_13)])) st13 ?_
  refine Go.step (T' := T13) (f' := (mkF m 92 #[.val (.int p1), .val (.int p2), .val (.int p3), .val (.int p4), .val (.int p5), .val (.int (p1 &&& (3 : Int32))), .val (.ref b_1), .val (.ref b_3), .val (.ref b_5), .val (.ref b_7), .val (.ref b_9), .val (.ref b_11), .val (.ref b_13), .unset, .unset, .unset, .unset, .unset, .unset, .unset] [])) (fun _ k => XS.astore X13.here hx rfl (hb hby at_90) rfl rfl (l' := #[.val (.int p1), .val (.int p2), .val (.int p3), .val (.int p4), .val (.int p5), .val (.int (p1 &&& (3 : Int32))), .val (.ref b_1), .val (.ref b_3), .val (.ref b_5), .val (.ref b_7), .val (.ref b_9), .val (.ref b_11), .val (.ref b_13), .unset, .unset, .unset, .unset, .unset, .unset, .unset]) rfl k) ?_
  refine Go.step (T' := T13) (f' := (mkF m 94 #[.val (.int p1), .val (.int p2), .val (.int p3), .val (.int p4), .val (.int p5), .val (.int (p1 &&& (3 : Int32))), .val (.ref b_1), .val (.ref b_3), .val (.ref b_5), .val (.ref b_7), .val (.ref b_9), .val (.ref b_11), .val (.ref b_13), .unset, .unset, .unset, .unset, .unset, .unset, .unset] [(.int p5)])) (fun _ k => XS.iload X13.here hx rfl (hb hby at_92) rfl k) ?_
  refine Go.step (T' := T13) (f' := (mkF m 96 #[.val (.int p1), .val (.int p2), .val (.int p3), .val (.int p4), .val (.int p5), .val (.int (p1 &&& (3 : Int32))), .val (.ref b_1), .val (.ref b_3), .val (.ref b_5), .val (.ref b_7), .val (.ref b_9), .val (.ref b_11), .val (.ref b_13), .unset, .unset, .unset, .unset, .unset, .unset, .unset] [(.int (8 : Int32)), (.int p5)])) (fun _ k => XS.bipush X13.here hx rfl (hb hby at_94) k) ?_
  refine Go.step (T' := T13) (f' := (mkF m 97 #[.val (.int p1), .val (.int p2), .val (.int p3), .val (.int p4), .val (.int p5), .val (.int (p1 &&& (3 : Int32))), .val (.ref b_1), .val (.ref b_3), .val (.ref b_5), .val (.ref b_7), .val (.ref b_9), .val (.ref b_11), .val (.ref b_13), .unset, .unset, .unset, .unset, .unset, .unset, .unset] [(.int ((p5.toUInt32 >>> ((8 : Int32) &&& 31).toUInt32).toInt32))])) (fun _ k => XS.iushr X13.here hx rfl (hb hby at_96) rfl k) ?_
  refine Go.step (T' := T13) (f' := (mkF m 100 #[.val (.int p1), .val (.int p2), .val (.int p3), .val (.int p4), .val (.int p5), .val (.int (p1 &&& (3 : Int32))), .val (.ref b_1), .val (.ref b_3), .val (.ref b_5), .val (.ref b_7), .val (.ref b_9), .val (.ref b_11), .val (.ref b_13), .unset, .unset, .unset, .unset, .unset, .unset, .unset] [(.int (255 : Int32)), (.int ((p5.toUInt32 >>> ((8 : Int32) &&& 31).toUInt32).toInt32))])) (fun _ k => XS.sipush X13.here hx rfl (hb hby at_97) k) ?_
  refine Go.step (T' := T13) (f' := (mkF m 101 #[.val (.int p1), .val (.int p2), .val (.int p3), .val (.int p4), .val (.int p5), .val (.int (p1 &&& (3 : Int32))), .val (.ref b_1), .val (.ref b_3), .val (.ref b_5), .val (.ref b_7), .val (.ref b_9), .val (.ref b_11), .val (.ref b_13), .unset, .unset, .unset, .unset, .unset, .unset, .unset] [(.int (((p5.toUInt32 >>> ((8 : Int32) &&& 31).toUInt32).toInt32) &&& (255 : Int32)))])) (fun _ k => XS.iand X13.here hx rfl (hb hby at_100) rfl k) ?_
  refine Go.step (T' := T13) (f' := (mkF m 102 #[.val (.int p1), .val (.int p2), .val (.int p3), .val (.int p4), .val (.int p5), .val (.int (p1 &&& (3 : Int32))), .val (.ref b_1), .val (.ref b_3), .val (.ref b_5), .val (.ref b_7), .val (.ref b_9), .val (.ref b_11), .val (.ref b_13), .unset, .unset, .unset, .unset, .unset, .unset, .unset] [(.int ((((p5.toUInt32 >>> ((8 : Int32) &&& 31).toUInt32).toInt32) &&& (255 : Int32)).toUInt32.toUInt16.toUInt32.toInt32))])) (fun _ k => XS.i2c X13.here hx rfl (hb hby at_101) rfl k) ?_
  obtain ⟨_, _, ⟨T15, L15, k15, n15⟩, -, X15, ⟨Lc15, hQ15, l15, y15, z15⟩, st15⟩ := Jvm.LawKit.callS X13 hx (y := (⟨"java/lang/String", "valueOf", "(C)Ljava/lang/String;"⟩ : MethodName)) hown (mvT hZ (hw _ (List.mem_of_getElem? (i := 0) rfl))) (mvT hZ (hw _ (List.mem_of_getElem? (i := 1) rfl))) (mvT hZ (hw _ (List.mem_of_getElem? (i := 2) rfl))) (mvT hZ (hw _ (List.mem_of_getElem? (i := 3) rfl))) (by decide) (backOf (W := 0) (rm1 l Z a0 hw [] ((((p5.toUInt32 >>> ((8 : Int32) &&& 31).toUInt32).toInt32) &&& (255 : Int32)).toUInt32.toUInt16.toUInt32.toInt32) cs T13.heap n0 Z14 O14 S_COMPACT_STRINGS hcs (own_c255 _)) hZ (hw _ (List.mem_of_getElem? (i := 3) rfl)) (hw _ (List.mem_of_getElem? (i := 2) rfl)) (by decide) (by decide)) (g := (mkF m 102 #[.val (.int p1), .val (.int p2), .val (.int p3), .val (.int p4), .val (.int p5), .val (.int (p1 &&& (3 : Int32))), .val (.ref b_1), .val (.ref b_3), .val (.ref b_5), .val (.ref b_7), .val (.ref b_9), .val (.ref b_11), .val (.ref b_13), .unset, .unset, .unset, .unset, .unset, .unset, .unset] [(.int ((((p5.toUInt32 >>> ((8 : Int32) &&& 31).toUInt32).toInt32) &&& (255 : Int32)).toUInt32.toUInt16.toUInt32.toInt32))])) rfl (by rw [hml]; rfl) (argsL := [(.int ((((p5.toUInt32 >>> ((8 : Int32) &&& 31).toUInt32).toInt32) &&& (255 : Int32)).toUInt32.toUInt16.toUInt32.toInt32))]) (rest := []) (lenOf pd_6 rfl) rfl (by show 2 * 0 + _ ≤ _; exact Nat.le_of_eq rfl) (hb hby at_102) (fun _ _ => ⟨rfl, rfl, (by decide : 14 + 2 ≤ _), (by decide : 35 + 5 ≤ _)⟩)
  dsimp only [Pt.U, Pt.locs, Pt.cells, Pt.slots] at X15 l15 y15 z15 st15 hQ15
  subst l15 y15 z15
  obtain ⟨b_15, rfl, Nq15, Kq15, r15_0, r15_1⟩ := hQ15
  have N15 := Fr.app N13 Nq15
  have g_b_15 : n0 ≤ b_15 := Nat.le_trans Z14 r15_0
  have Z16 : n0 ≤ T15.heap.size := Nat.le_trans Z14 Kq15.1
  have O16 : Old Z n0 T15.heap := O14.keep Kq15 all0
  refine Go.step (T' := T15) (f' := (mkF m 105 #[.val (.int p1), .val (.int p2), .val (.int p3), .val (.int p4), .val (.int p5), .val (.int (p1 &&& (3 : Int32))), .val (.ref b_1), .val (.ref b_3), .val (.ref b_5), .val (.ref b_7), .val (.ref b_9), .val (.ref b_11), .val (.ref b_13), .unset, .unset, .unset, .unset, .unset, .unset, .unset] [(.ref b_15)])) st15 ?_
  refine Go.step (T' := T15) (f' := (mkF m 107 #[.val (.int p1), .val (.int p2), .val (.int p3), .val (.int p4), .val (.int p5), .val (.int (p1 &&& (3 : Int32))), .val (.ref b_1), .val (.ref b_3), .val (.ref b_5), .val (.ref b_7), .val (.ref b_9), .val (.ref b_11), .val (.ref b_13), .val (.ref b_15), .unset, .unset, .unset, .unset, .unset, .unset] [])) (fun _ k => XS.astore X15.here hx rfl (hb hby at_105) rfl rfl (l' := #[.val (.int p1), .val (.int p2), .val (.int p3), .val (.int p4), .val (.int p5), .val (.int (p1 &&& (3 : Int32))), .val (.ref b_1), .val (.ref b_3), .val (.ref b_5), .val (.ref b_7), .val (.ref b_9), .val (.ref b_11), .val (.ref b_13), .val (.ref b_15), .unset, .unset, .unset, .unset, .unset, .unset]) rfl k) ?_
  obtain ⟨T17, h17, X17, e17, E17, A17, D17, -, st17⟩ := newO X15 hx hZ hown (hw _ (List.mem_of_getElem? (i := 26) rfl)) (hw _ (List.mem_of_getElem? (i := 27) rfl)) (hw _ (List.mem_of_getElem? (i := 28) rfl)) rfl (g := (mkF m 107 #[.val (.int p1), .val (.int p2), .val (.int p3), .val (.int p4), .val (.int p5), .val (.int (p1 &&& (3 : Int32))), .val (.ref b_1), .val (.ref b_3), .val (.ref b_5), .val (.ref b_7), .val (.ref b_9), .val (.ref b_11), .val (.ref b_13), .val (.ref b_15), .unset, .unset, .unset, .unset, .unset, .unset] [])) rfl (hb hby at_107) (by decide) (by decide)
  obtain ⟨b17, g17⟩ : ∃ z, z = T15.heap.size := ⟨_, rfl⟩
  rw [← g17] at A17 D17 st17
  have g_b17 : n0 ≤ b17 := Nat.le_trans Z16 (Nat.le_of_eq g17.symm)
  have Z18 : n0 ≤ h17.size := Nat.le_trans Z16 E17.1
  have O18 : Old Z n0 h17 := O16.ext E17
  have F_names_b17 : Fld Z h17 b17 "com/example/tenderbook/tenderbook/Fields" "names" "[Ljava/lang/String;" .null := D17 (Or.inl (hw _ (List.mem_of_getElem? (i := 36) rfl))) (ty := (.array (.object "java/lang/String"))) (by decide)
  have F_values_b17 : Fld Z h17 b17 "com/example/tenderbook/tenderbook/Fields" "values" "[Ljava/lang/String;" .null := D17 (Or.inl (hw _ (List.mem_of_getElem? (i := 38) rfl))) (ty := (.array (.object "java/lang/String"))) (by decide)
  have F_size_b17 : Fld Z h17 b17 "com/example/tenderbook/tenderbook/Fields" "size" "I" (.int (0 : Int32)) := D17 (Or.inl (hw _ (List.mem_of_getElem? (i := 45) rfl))) (ty := .int) (by decide)
  refine Go.step (T' := T17) (f' := (mkF m 110 #[.val (.int p1), .val (.int p2), .val (.int p3), .val (.int p4), .val (.int p5), .val (.int (p1 &&& (3 : Int32))), .val (.ref b_1), .val (.ref b_3), .val (.ref b_5), .val (.ref b_7), .val (.ref b_9), .val (.ref b_11), .val (.ref b_13), .val (.ref b_15), .unset, .unset, .unset, .unset, .unset, .unset] [(.ref b17)])) st17 ?_
  refine Go.step (T' := T17) (f' := (mkF m 111 #[.val (.int p1), .val (.int p2), .val (.int p3), .val (.int p4), .val (.int p5), .val (.int (p1 &&& (3 : Int32))), .val (.ref b_1), .val (.ref b_3), .val (.ref b_5), .val (.ref b_7), .val (.ref b_9), .val (.ref b_11), .val (.ref b_13), .val (.ref b_15), .unset, .unset, .unset, .unset, .unset, .unset] [(.ref b17), (.ref b17)])) (fun _ k => XS.dup X17.here hx rfl (hb hby at_110) rfl rfl k) ?_
  obtain ⟨_, _, ⟨T19, L19, k19, n19⟩, -, X19, ⟨Lc19, hQ19, l19, y19, z19⟩, st19⟩ := X17.specialBack hx (y := (⟨"com/example/tenderbook/tenderbook/Fields", "<init>", "()V"⟩ : MethodName)) rfl hown (mvT hZ (hw _ (List.mem_of_getElem? (i := 29) rfl))) (mvT hZ (hw _ (List.mem_of_getElem? (i := 30) rfl))) (mvT hZ (hw _ (List.mem_of_getElem? (i := 31) rfl))) (by decide) (backOf (W := 1) (rm6 l Z a0 hw [] b17 h17 n0 Z18 A17 F_names_b17 F_values_b17 F_size_b17 g_b17) hZ (hw _ (List.mem_of_getElem? (i := 31) rfl)) (hw _ (List.mem_of_getElem? (i := 28) rfl)) (by decide) (by decide)) (g := (mkF m 111 #[.val (.int p1), .val (.int p2), .val (.int p3), .val (.int p4), .val (.int p5), .val (.int (p1 &&& (3 : Int32))), .val (.ref b_1), .val (.ref b_3), .val (.ref b_5), .val (.ref b_7), .val (.ref b_9), .val (.ref b_11), .val (.ref b_13), .val (.ref b_15), .unset, .unset, .unset, .unset, .unset, .unset] [(.ref b17), (.ref b17)])) rfl (by rw [hml]; rfl) (Steps.refl _) (a := b17) (argsL := []) (rest := [(.ref b17)]) (lenOf pd_7 rfl) rfl (by show 2 * 0 + _ ≤ _; exact Nat.le_of_eq rfl) (hb hby at_111) (fun _ _ => ⟨rfl, e17, (by decide : 17 + 2 ≤ _), (by decide : 43 + 16 ≤ _)⟩)
  dsimp only [Pt.U, Pt.locs, Pt.cells, Pt.slots] at X19 l19 y19 z19 st19 hQ19
  subst l19 y19 z19
  obtain ⟨n_19, v_19, kn_19, kv_19, rfl, Nq19, Kq19, r19_0, r19_1, r19_2, r19_3, r19_4, r19_5, r19_6, r19_7, r19_8, r19_9⟩ := hQ19
  have N19 := Fr.app N15 Nq19
  have g_n_19 : n0 ≤ n_19 := Nat.le_trans Z18 r19_0
  have g_v_19 : n0 ≤ v_19 := Nat.le_trans Z18 r19_1
  have Z20 : n0 ≤ T19.heap.size := Nat.le_trans Z18 Kq19.1
  have O20 : Old Z n0 T19.heap := O18.keep Kq19 (allS g_b17 all0)
  refine Go.step (T' := T19) (f' := (mkF m 114 #[.val (.int p1), .val (.int p2), .val (.int p3), .val (.int p4), .val (.int p5), .val (.int (p1 &&& (3 : Int32))), .val (.ref b_1), .val (.ref b_3), .val (.ref b_5), .val (.ref b_7), .val (.ref b_9), .val (.ref b_11), .val (.ref b_13), .val (.ref b_15), .unset, .unset, .unset, .unset, .unset, .unset] [(.ref b17)])) (fun _ k => st19.trans k) ?_
  refine Go.step (T' := T19) (f' := (mkF m 116 #[.val (.int p1), .val (.int p2), .val (.int p3), .val (.int p4), .val (.int p5), .val (.int (p1 &&& (3 : Int32))), .val (.ref b_1), .val (.ref b_3), .val (.ref b_5), .val (.ref b_7), .val (.ref b_9), .val (.ref b_11), .val (.ref b_13), .val (.ref b_15), .val (.ref b17), .unset, .unset, .unset, .unset, .unset] [])) (fun _ k => XS.astore X19.here hx rfl (hb hby at_114) rfl rfl (l' := #[.val (.int p1), .val (.int p2), .val (.int p3), .val (.int p4), .val (.int p5), .val (.int (p1 &&& (3 : Int32))), .val (.ref b_1), .val (.ref b_3), .val (.ref b_5), .val (.ref b_7), .val (.ref b_9), .val (.ref b_11), .val (.ref b_13), .val (.ref b_15), .val (.ref b17), .unset, .unset, .unset, .unset, .unset]) rfl k) ?_
  refine Go.step (T' := T19) (f' := (mkF m 118 #[.val (.int p1), .val (.int p2), .val (.int p3), .val (.int p4), .val (.int p5), .val (.int (p1 &&& (3 : Int32))), .val (.ref b_1), .val (.ref b_3), .val (.ref b_5), .val (.ref b_7), .val (.ref b_9), .val (.ref b_11), .val (.ref b_13), .val (.ref b_15), .val (.ref b17), .unset, .unset, .unset, .unset, .unset] [(.int (p1 &&& (3 : Int32)))])) (fun _ k => XS.iload X19.here hx rfl (hb hby at_116) rfl k) ?_
  by_cases hc118 : (0 : Int32) < (p1 &&& (3 : Int32))
  · refine Go.step (T' := T19) (f' := (mkF m 121 #[.val (.int p1), .val (.int p2), .val (.int p3), .val (.int p4), .val (.int p5), .val (.int (p1 &&& (3 : Int32))), .val (.ref b_1), .val (.ref b_3), .val (.ref b_5), .val (.ref b_7), .val (.ref b_9), .val (.ref b_11), .val (.ref b_13), .val (.ref b_15), .val (.ref b17), .unset, .unset, .unset, .unset, .unset] [])) (fun _ k => XS.ifNo X19.here hx rfl (hb hby at_118) rfl ((if0 _ _).trans (tlt hc118).2.2.2) k) ?_
    refine Go.step (T' := T19) (f' := (mkF m 123 #[.val (.int p1), .val (.int p2), .val (.int p3), .val (.int p4), .val (.int p5), .val (.int (p1 &&& (3 : Int32))), .val (.ref b_1), .val (.ref b_3), .val (.ref b_5), .val (.ref b_7), .val (.ref b_9), .val (.ref b_11), .val (.ref b_13), .val (.ref b_15), .val (.ref b17), .unset, .unset, .unset, .unset, .unset] [(.ref b17)])) (fun _ k => XS.aload X19.here hx rfl (hb hby at_121) rfl rfl k) ?_
    refine Go.step (T' := T19) (f' := (mkF m 125 #[.val (.int p1), .val (.int p2), .val (.int p3), .val (.int p4), .val (.int p5), .val (.int (p1 &&& (3 : Int32))), .val (.ref b_1), .val (.ref b_3), .val (.ref b_5), .val (.ref b_7), .val (.ref b_9), .val (.ref b_11), .val (.ref b_13), .val (.ref b_15), .val (.ref b17), .unset, .unset, .unset, .unset, .unset] [(.ref b_1), (.ref b17)])) (fun _ k => XS.aload X19.here hx rfl (hb hby at_123) rfl rfl k) ?_
    refine Go.step (T' := T19) (f' := (mkF m 127 #[.val (.int p1), .val (.int p2), .val (.int p3), .val (.int p4), .val (.int p5), .val (.int (p1 &&& (3 : Int32))), .val (.ref b_1), .val (.ref b_3), .val (.ref b_5), .val (.ref b_7), .val (.ref b_9), .val (.ref b_11), .val (.ref b_13), .val (.ref b_15), .val (.ref b17), .unset, .unset, .unset, .unset, .unset] [(.ref b_3), (.ref b_1), (.ref b17)])) (fun _ k => XS.aload X19.here hx rfl (hb hby at_125) rfl rfl k) ?_
    have q22 : Exa Z T19.heap b17 "com/example/tenderbook/tenderbook/Fields" := (A17.keep Kq19)
    have q23 : Exa Z T19.heap b_1 "java/lang/String" := (((((((((r1_1.keep Kq3).keep Kq5).keep Kq7).keep Kq9).keep Kq11).keep Kq13).keep Kq15).ext E17).keep Kq19)
    have q24 : Exa Z T19.heap b_3 "java/lang/String" := ((((((((r3_1.keep Kq5).keep Kq7).keep Kq9).keep Kq11).keep Kq13).keep Kq15).ext E17).keep Kq19)
    obtain ⟨cq21, kq21, q21a, q21b, q21c⟩ := isOf hZ rfl q22
    obtain ⟨_, _, ⟨T21, L21, k21, n21⟩, -, X21, ⟨Lc21, hQ21, l21, y21, z21⟩, st21⟩ := X19.virtualBack hx (y := (⟨"com/example/tenderbook/tenderbook/Fields", "add", "(Ljava/lang/String;Ljava/lang/String;)V"⟩ : MethodName)) (z := (⟨"com/example/tenderbook/tenderbook/Fields", "add", "(Ljava/lang/String;Ljava/lang/String;)V"⟩ : MethodName)) hown (mvT hZ (hw _ (List.mem_of_getElem? (i := 58) rfl))) (mvT hZ (hw _ (List.mem_of_getElem? (i := 59) rfl))) (notFace_of_selects (args := #[]) (mvT hZ (hw _ (List.mem_of_getElem? (i := 61) rfl)))) (mvT hZ (hw _ (List.mem_of_getElem? (i := 61) rfl))) (mvT hZ (hw _ (List.mem_of_getElem? (i := 60) rfl))) (by decide) (backOf (W := 0) (rmAdd0 l Z a0 hw [] b17 b_1 b_3 n_19 v_19 kn_19 kv_19 T19.heap n0 Z20 q22 q23 q24 r19_5 r19_6 r19_7 r19_8 r19_9 (Ne.symm (Nat.ne_of_lt (Nat.lt_of_lt_of_le A17.lt r19_0))) (Ne.symm (Nat.ne_of_lt (Nat.lt_of_lt_of_le A17.lt r19_1))) r19_2 r19_3 r19_4 g_b17 g_n_19 g_v_19) hZ (hw _ (List.mem_of_getElem? (i := 62) rfl)) (hw _ (List.mem_of_getElem? (i := 28) rfl)) (by decide) (by decide)) q21a q21c (g := (mkF m 127 #[.val (.int p1), .val (.int p2), .val (.int p3), .val (.int p4), .val (.int p5), .val (.int (p1 &&& (3 : Int32))), .val (.ref b_1), .val (.ref b_3), .val (.ref b_5), .val (.ref b_7), .val (.ref b_9), .val (.ref b_11), .val (.ref b_13), .val (.ref b_15), .val (.ref b17), .unset, .unset, .unset, .unset, .unset] [(.ref b_3), (.ref b_1), (.ref b17)])) rfl (by rw [hml]; rfl) (Steps.refl _) (argsL := [(.ref b_1), (.ref b_3)]) (rest := []) (lenOf pd_8 rfl) rfl (by show 2 * 0 + _ ≤ _; exact Nat.le_of_eq rfl) (hb hby at_127) (fun _ _ => ⟨rfl, rfl, (by decide : 19 + 0 ≤ _), (by decide : 59 + 0 ≤ _)⟩)
    dsimp only [Pt.U, Pt.locs, Pt.cells, Pt.slots] at X21 l21 y21 z21 st21 hQ21
    subst l21 y21 z21
    obtain ⟨rfl, Nq21, Kq21, r21_0, r21_1, r21_2, r21_3, r21_4⟩ := hQ21
    have N21 := Fr.app N19 Nq21
    have Z25 : n0 ≤ T21.heap.size := Nat.le_trans Z20 Kq21.1
    have O25 : Old Z n0 T21.heap := O20.keep Kq21 (allS g_b17 (allS g_n_19 (allS g_v_19 all0)))
    refine Go.step (T' := T21) (f' := (mkF m 130 #[.val (.int p1), .val (.int p2), .val (.int p3), .val (.int p4), .val (.int p5), .val (.int (p1 &&& (3 : Int32))), .val (.ref b_1), .val (.ref b_3), .val (.ref b_5), .val (.ref b_7), .val (.ref b_9), .val (.ref b_11), .val (.ref b_13), .val (.ref b_15), .val (.ref b17), .unset, .unset, .unset, .unset, .unset] [])) (fun _ k => st21.trans k) ?_
    refine Go.step (T' := T21) (f' := (mkF m 132 #[.val (.int p1), .val (.int p2), .val (.int p3), .val (.int p4), .val (.int p5), .val (.int (p1 &&& (3 : Int32))), .val (.ref b_1), .val (.ref b_3), .val (.ref b_5), .val (.ref b_7), .val (.ref b_9), .val (.ref b_11), .val (.ref b_13), .val (.ref b_15), .val (.ref b17), .unset, .unset, .unset, .unset, .unset] [(.int (p1 &&& (3 : Int32)))])) (fun _ k => XS.iload X21.here hx rfl (hb hby at_130) rfl k) ?_
    refine Go.step (T' := T21) (f' := (mkF m 133 #[.val (.int p1), .val (.int p2), .val (.int p3), .val (.int p4), .val (.int p5), .val (.int (p1 &&& (3 : Int32))), .val (.ref b_1), .val (.ref b_3), .val (.ref b_5), .val (.ref b_7), .val (.ref b_9), .val (.ref b_11), .val (.ref b_13), .val (.ref b_15), .val (.ref b17), .unset, .unset, .unset, .unset, .unset] [(.int (1 : Int32)), (.int (p1 &&& (3 : Int32)))])) (fun _ k => XS.iconst X21.here hx rfl (hb hby at_132) k) ?_
    by_cases hc133 : (1 : Int32) < (p1 &&& (3 : Int32))
    · refine Go.step (T' := T21) (f' := (mkF m 136 #[.val (.int p1), .val (.int p2), .val (.int p3), .val (.int p4), .val (.int p5), .val (.int (p1 &&& (3 : Int32))), .val (.ref b_1), .val (.ref b_3), .val (.ref b_5), .val (.ref b_7), .val (.ref b_9), .val (.ref b_11), .val (.ref b_13), .val (.ref b_15), .val (.ref b17), .unset, .unset, .unset, .unset, .unset] [])) (fun _ k => XS.icmpNo X21.here hx rfl (hb hby at_133) rfl (tlt hc133).2.2.2 k) ?_
      refine Go.step (T' := T21) (f' := (mkF m 138 #[.val (.int p1), .val (.int p2), .val (.int p3), .val (.int p4), .val (.int p5), .val (.int (p1 &&& (3 : Int32))), .val (.ref b_1), .val (.ref b_3), .val (.ref b_5), .val (.ref b_7), .val (.ref b_9), .val (.ref b_11), .val (.ref b_13), .val (.ref b_15), .val (.ref b17), .unset, .unset, .unset, .unset, .unset] [(.ref b17)])) (fun _ k => XS.aload X21.here hx rfl (hb hby at_136) rfl rfl k) ?_
      refine Go.step (T' := T21) (f' := (mkF m 140 #[.val (.int p1), .val (.int p2), .val (.int p3), .val (.int p4), .val (.int p5), .val (.int (p1 &&& (3 : Int32))), .val (.ref b_1), .val (.ref b_3), .val (.ref b_5), .val (.ref b_7), .val (.ref b_9), .val (.ref b_11), .val (.ref b_13), .val (.ref b_15), .val (.ref b17), .unset, .unset, .unset, .unset, .unset] [(.ref b_5), (.ref b17)])) (fun _ k => XS.aload X21.here hx rfl (hb hby at_138) rfl rfl k) ?_
      refine Go.step (T' := T21) (f' := (mkF m 142 #[.val (.int p1), .val (.int p2), .val (.int p3), .val (.int p4), .val (.int p5), .val (.int (p1 &&& (3 : Int32))), .val (.ref b_1), .val (.ref b_3), .val (.ref b_5), .val (.ref b_7), .val (.ref b_9), .val (.ref b_11), .val (.ref b_13), .val (.ref b_15), .val (.ref b17), .unset, .unset, .unset, .unset, .unset] [(.ref b_7), (.ref b_5), (.ref b17)])) (fun _ k => XS.aload X21.here hx rfl (hb hby at_140) rfl rfl k) ?_
      have q27 : Exa Z T21.heap b17 "com/example/tenderbook/tenderbook/Fields" := (q22.keep Kq21)
      have q28 : Exa Z T21.heap b_5 "java/lang/String" := ((((((((r5_1.keep Kq7).keep Kq9).keep Kq11).keep Kq13).keep Kq15).ext E17).keep Kq19).keep Kq21)
      have q29 : Exa Z T21.heap b_7 "java/lang/String" := (((((((r7_1.keep Kq9).keep Kq11).keep Kq13).keep Kq15).ext E17).keep Kq19).keep Kq21)
      obtain ⟨cq26, kq26, q26a, q26b, q26c⟩ := isOf hZ rfl q27
      obtain ⟨_, _, ⟨T26, L26, k26, n26⟩, -, X26, ⟨Lc26, hQ26, l26, y26, z26⟩, st26⟩ := X21.virtualBack hx (y := (⟨"com/example/tenderbook/tenderbook/Fields", "add", "(Ljava/lang/String;Ljava/lang/String;)V"⟩ : MethodName)) (z := (⟨"com/example/tenderbook/tenderbook/Fields", "add", "(Ljava/lang/String;Ljava/lang/String;)V"⟩ : MethodName)) hown (mvT hZ (hw _ (List.mem_of_getElem? (i := 58) rfl))) (mvT hZ (hw _ (List.mem_of_getElem? (i := 59) rfl))) (notFace_of_selects (args := #[]) (mvT hZ (hw _ (List.mem_of_getElem? (i := 61) rfl)))) (mvT hZ (hw _ (List.mem_of_getElem? (i := 61) rfl))) (mvT hZ (hw _ (List.mem_of_getElem? (i := 60) rfl))) (by decide) (backOf (W := 0) (rmAdd1 l Z a0 hw [] b17 b_5 b_7 n_19 v_19 kn_19 kv_19 (.ref b_1) (.ref b_3) T21.heap n0 Z25 q27 q28 q29 r21_0 r21_1 r21_2 r21_3 r21_4 (Ne.symm (Nat.ne_of_lt (Nat.lt_of_lt_of_le A17.lt r19_0))) (Ne.symm (Nat.ne_of_lt (Nat.lt_of_lt_of_le A17.lt r19_1))) r19_2 r19_3 r19_4 g_b17 g_n_19 g_v_19) hZ (hw _ (List.mem_of_getElem? (i := 62) rfl)) (hw _ (List.mem_of_getElem? (i := 28) rfl)) (by decide) (by decide)) q26a q26c (g := (mkF m 142 #[.val (.int p1), .val (.int p2), .val (.int p3), .val (.int p4), .val (.int p5), .val (.int (p1 &&& (3 : Int32))), .val (.ref b_1), .val (.ref b_3), .val (.ref b_5), .val (.ref b_7), .val (.ref b_9), .val (.ref b_11), .val (.ref b_13), .val (.ref b_15), .val (.ref b17), .unset, .unset, .unset, .unset, .unset] [(.ref b_7), (.ref b_5), (.ref b17)])) rfl (by rw [hml]; rfl) (Steps.refl _) (argsL := [(.ref b_5), (.ref b_7)]) (rest := []) (lenOf pd_8 rfl) rfl (by show 2 * 0 + _ ≤ _; exact Nat.le_of_eq rfl) (hb hby at_142) (fun _ _ => ⟨rfl, rfl, (by decide : 19 + 0 ≤ _), (by decide : 59 + 0 ≤ _)⟩)
      dsimp only [Pt.U, Pt.locs, Pt.cells, Pt.slots] at X26 l26 y26 z26 st26 hQ26
      subst l26 y26 z26
      obtain ⟨rfl, Nq26, Kq26, r26_0, r26_1, r26_2, r26_3, r26_4⟩ := hQ26
      have N26 := Fr.app N21 Nq26
      have Z30 : n0 ≤ T26.heap.size := Nat.le_trans Z25 Kq26.1
      have O30 : Old Z n0 T26.heap := O25.keep Kq26 (allS g_b17 (allS g_n_19 (allS g_v_19 all0)))
      refine Go.step (T' := T26) (f' := (mkF m 145 #[.val (.int p1), .val (.int p2), .val (.int p3), .val (.int p4), .val (.int p5), .val (.int (p1 &&& (3 : Int32))), .val (.ref b_1), .val (.ref b_3), .val (.ref b_5), .val (.ref b_7), .val (.ref b_9), .val (.ref b_11), .val (.ref b_13), .val (.ref b_15), .val (.ref b17), .unset, .unset, .unset, .unset, .unset] [])) (fun _ k => st26.trans k) ?_
      refine Go.step (T' := T26) (f' := (mkF m 147 #[.val (.int p1), .val (.int p2), .val (.int p3), .val (.int p4), .val (.int p5), .val (.int (p1 &&& (3 : Int32))), .val (.ref b_1), .val (.ref b_3), .val (.ref b_5), .val (.ref b_7), .val (.ref b_9), .val (.ref b_11), .val (.ref b_13), .val (.ref b_15), .val (.ref b17), .unset, .unset, .unset, .unset, .unset] [(.int (p1 &&& (3 : Int32)))])) (fun _ k => XS.iload X26.here hx rfl (hb hby at_145) rfl k) ?_
      refine Go.step (T' := T26) (f' := (mkF m 148 #[.val (.int p1), .val (.int p2), .val (.int p3), .val (.int p4), .val (.int p5), .val (.int (p1 &&& (3 : Int32))), .val (.ref b_1), .val (.ref b_3), .val (.ref b_5), .val (.ref b_7), .val (.ref b_9), .val (.ref b_11), .val (.ref b_13), .val (.ref b_15), .val (.ref b17), .unset, .unset, .unset, .unset, .unset] [(.int (2 : Int32)), (.int (p1 &&& (3 : Int32)))])) (fun _ k => XS.iconst X26.here hx rfl (hb hby at_147) k) ?_
      by_cases hc148 : (2 : Int32) < (p1 &&& (3 : Int32))
      · refine Go.step (T' := T26) (f' := (mkF m 151 #[.val (.int p1), .val (.int p2), .val (.int p3), .val (.int p4), .val (.int p5), .val (.int (p1 &&& (3 : Int32))), .val (.ref b_1), .val (.ref b_3), .val (.ref b_5), .val (.ref b_7), .val (.ref b_9), .val (.ref b_11), .val (.ref b_13), .val (.ref b_15), .val (.ref b17), .unset, .unset, .unset, .unset, .unset] [])) (fun _ k => XS.icmpNo X26.here hx rfl (hb hby at_148) rfl (tlt hc148).2.2.2 k) ?_
        refine Go.step (T' := T26) (f' := (mkF m 153 #[.val (.int p1), .val (.int p2), .val (.int p3), .val (.int p4), .val (.int p5), .val (.int (p1 &&& (3 : Int32))), .val (.ref b_1), .val (.ref b_3), .val (.ref b_5), .val (.ref b_7), .val (.ref b_9), .val (.ref b_11), .val (.ref b_13), .val (.ref b_15), .val (.ref b17), .unset, .unset, .unset, .unset, .unset] [(.ref b17)])) (fun _ k => XS.aload X26.here hx rfl (hb hby at_151) rfl rfl k) ?_
        refine Go.step (T' := T26) (f' := (mkF m 155 #[.val (.int p1), .val (.int p2), .val (.int p3), .val (.int p4), .val (.int p5), .val (.int (p1 &&& (3 : Int32))), .val (.ref b_1), .val (.ref b_3), .val (.ref b_5), .val (.ref b_7), .val (.ref b_9), .val (.ref b_11), .val (.ref b_13), .val (.ref b_15), .val (.ref b17), .unset, .unset, .unset, .unset, .unset] [(.ref b_9), (.ref b17)])) (fun _ k => XS.aload X26.here hx rfl (hb hby at_153) rfl rfl k) ?_
        refine Go.step (T' := T26) (f' := (mkF m 157 #[.val (.int p1), .val (.int p2), .val (.int p3), .val (.int p4), .val (.int p5), .val (.int (p1 &&& (3 : Int32))), .val (.ref b_1), .val (.ref b_3), .val (.ref b_5), .val (.ref b_7), .val (.ref b_9), .val (.ref b_11), .val (.ref b_13), .val (.ref b_15), .val (.ref b17), .unset, .unset, .unset, .unset, .unset] [(.ref b_11), (.ref b_9), (.ref b17)])) (fun _ k => XS.aload X26.here hx rfl (hb hby at_155) rfl rfl k) ?_
        have q32 : Exa Z T26.heap b17 "com/example/tenderbook/tenderbook/Fields" := (q27.keep Kq26)
        have q33 : Exa Z T26.heap b_9 "java/lang/String" := (((((((r9_1.keep Kq11).keep Kq13).keep Kq15).ext E17).keep Kq19).keep Kq21).keep Kq26)
        have q34 : Exa Z T26.heap b_11 "java/lang/String" := ((((((r11_1.keep Kq13).keep Kq15).ext E17).keep Kq19).keep Kq21).keep Kq26)
        obtain ⟨cq31, kq31, q31a, q31b, q31c⟩ := isOf hZ rfl q32
        obtain ⟨_, _, ⟨T31, L31, k31, n31⟩, -, X31, ⟨Lc31, hQ31, l31, y31, z31⟩, st31⟩ := X26.virtualBack hx (y := (⟨"com/example/tenderbook/tenderbook/Fields", "add", "(Ljava/lang/String;Ljava/lang/String;)V"⟩ : MethodName)) (z := (⟨"com/example/tenderbook/tenderbook/Fields", "add", "(Ljava/lang/String;Ljava/lang/String;)V"⟩ : MethodName)) hown (mvT hZ (hw _ (List.mem_of_getElem? (i := 58) rfl))) (mvT hZ (hw _ (List.mem_of_getElem? (i := 59) rfl))) (notFace_of_selects (args := #[]) (mvT hZ (hw _ (List.mem_of_getElem? (i := 61) rfl)))) (mvT hZ (hw _ (List.mem_of_getElem? (i := 61) rfl))) (mvT hZ (hw _ (List.mem_of_getElem? (i := 60) rfl))) (by decide) (backOf (W := 0) (rmAdd2 l Z a0 hw [] b17 b_9 b_11 n_19 v_19 kn_19 kv_19 (.ref b_1) (.ref b_5) (.ref b_3) (.ref b_7) T26.heap n0 Z30 q32 q33 q34 r26_0 r26_1 r26_2 r26_3 r26_4 (Ne.symm (Nat.ne_of_lt (Nat.lt_of_lt_of_le A17.lt r19_0))) (Ne.symm (Nat.ne_of_lt (Nat.lt_of_lt_of_le A17.lt r19_1))) r19_2 r19_3 r19_4 g_b17 g_n_19 g_v_19) hZ (hw _ (List.mem_of_getElem? (i := 62) rfl)) (hw _ (List.mem_of_getElem? (i := 28) rfl)) (by decide) (by decide)) q31a q31c (g := (mkF m 157 #[.val (.int p1), .val (.int p2), .val (.int p3), .val (.int p4), .val (.int p5), .val (.int (p1 &&& (3 : Int32))), .val (.ref b_1), .val (.ref b_3), .val (.ref b_5), .val (.ref b_7), .val (.ref b_9), .val (.ref b_11), .val (.ref b_13), .val (.ref b_15), .val (.ref b17), .unset, .unset, .unset, .unset, .unset] [(.ref b_11), (.ref b_9), (.ref b17)])) rfl (by rw [hml]; rfl) (Steps.refl _) (argsL := [(.ref b_9), (.ref b_11)]) (rest := []) (lenOf pd_8 rfl) rfl (by show 2 * 0 + _ ≤ _; exact Nat.le_of_eq rfl) (hb hby at_157) (fun _ _ => ⟨rfl, rfl, (by decide : 19 + 0 ≤ _), (by decide : 59 + 0 ≤ _)⟩)
        dsimp only [Pt.U, Pt.locs, Pt.cells, Pt.slots] at X31 l31 y31 z31 st31 hQ31
        subst l31 y31 z31
        obtain ⟨rfl, Nq31, Kq31, r31_0, r31_1, r31_2, r31_3, r31_4⟩ := hQ31
        have N31 := Fr.app N26 Nq31
        have Z35 : n0 ≤ T31.heap.size := Nat.le_trans Z30 Kq31.1
        have O35 : Old Z n0 T31.heap := O30.keep Kq31 (allS g_b17 (allS g_n_19 (allS g_v_19 all0)))
        refine Go.step (T' := T31) (f' := (mkF m 160 #[.val (.int p1), .val (.int p2), .val (.int p3), .val (.int p4), .val (.int p5), .val (.int (p1 &&& (3 : Int32))), .val (.ref b_1), .val (.ref b_3), .val (.ref b_5), .val (.ref b_7), .val (.ref b_9), .val (.ref b_11), .val (.ref b_13), .val (.ref b_15), .val (.ref b17), .unset, .unset, .unset, .unset, .unset] [])) (fun _ k => st31.trans k) ?_
        refine Go.step (T' := T31) (f' := (mkF m 162 #[.val (.int p1), .val (.int p2), .val (.int p3), .val (.int p4), .val (.int p5), .val (.int (p1 &&& (3 : Int32))), .val (.ref b_1), .val (.ref b_3), .val (.ref b_5), .val (.ref b_7), .val (.ref b_9), .val (.ref b_11), .val (.ref b_13), .val (.ref b_15), .val (.ref b17), .unset, .unset, .unset, .unset, .unset] [(.ref b17)])) (fun _ k => XS.aload X31.here hx rfl (hb hby at_160) rfl rfl k) ?_
        have q37 : Exa Z T31.heap b17 "com/example/tenderbook/tenderbook/Fields" := (q32.keep Kq31)
        obtain ⟨cq36, kq36, q36a, q36b, q36c⟩ := isOf hZ rfl q37
        obtain ⟨_, _, ⟨T36, L36, k36, n36⟩, -, X36, ⟨Lc36, hQ36, l36, y36, z36⟩, st36⟩ := X31.virtualBack hx (y := (⟨"com/example/tenderbook/tenderbook/Fields", "clear", "()V"⟩ : MethodName)) (z := (⟨"com/example/tenderbook/tenderbook/Fields", "clear", "()V"⟩ : MethodName)) hown (mvT hZ (hw _ (List.mem_of_getElem? (i := 39) rfl))) (mvT hZ (hw _ (List.mem_of_getElem? (i := 40) rfl))) (notFace_of_selects (args := #[]) (mvT hZ (hw _ (List.mem_of_getElem? (i := 42) rfl)))) (mvT hZ (hw _ (List.mem_of_getElem? (i := 42) rfl))) (mvT hZ (hw _ (List.mem_of_getElem? (i := 41) rfl))) (by decide) (backOf (W := 0) (rmClr3 l Z a0 hw [] b17 n_19 v_19 kn_19 kv_19 (.ref b_1) (.ref b_5) (.ref b_9) (.ref b_3) (.ref b_7) (.ref b_11) T31.heap n0 Z35 q37 r31_0 r31_1 r31_2 r31_3 r31_4 (Ne.symm (Nat.ne_of_lt (Nat.lt_of_lt_of_le A17.lt r19_0))) (Ne.symm (Nat.ne_of_lt (Nat.lt_of_lt_of_le A17.lt r19_1))) r19_2 g_b17 g_n_19 g_v_19) hZ (hw _ (List.mem_of_getElem? (i := 43) rfl)) (hw _ (List.mem_of_getElem? (i := 28) rfl)) (by decide) (by decide)) q36a q36c (g := (mkF m 162 #[.val (.int p1), .val (.int p2), .val (.int p3), .val (.int p4), .val (.int p5), .val (.int (p1 &&& (3 : Int32))), .val (.ref b_1), .val (.ref b_3), .val (.ref b_5), .val (.ref b_7), .val (.ref b_9), .val (.ref b_11), .val (.ref b_13), .val (.ref b_15), .val (.ref b17), .unset, .unset, .unset, .unset, .unset] [(.ref b17)])) rfl (by rw [hml]; rfl) (Steps.refl _) (argsL := []) (rest := []) (lenOf pd_7 rfl) rfl (by show 2 * 0 + _ ≤ _; exact Nat.le_of_eq rfl) (hb hby at_162) (fun _ _ => ⟨rfl, rfl, (by decide : 19 + 0 ≤ _), (by decide : 59 + 0 ≤ _)⟩)
        dsimp only [Pt.U, Pt.locs, Pt.cells, Pt.slots] at X36 l36 y36 z36 st36 hQ36
        subst l36 y36 z36
        obtain ⟨rfl, Nq36, Kq36, r36_0, r36_1, r36_2, r36_3, r36_4⟩ := hQ36
        have N36 := Fr.app N31 Nq36
        have Z38 : n0 ≤ T36.heap.size := Nat.le_trans Z35 Kq36.1
        have O38 : Old Z n0 T36.heap := O35.keep Kq36 (allS g_b17 (allS g_n_19 (allS g_v_19 all0)))
        refine Go.step (T' := T36) (f' := (mkF m 165 #[.val (.int p1), .val (.int p2), .val (.int p3), .val (.int p4), .val (.int p5), .val (.int (p1 &&& (3 : Int32))), .val (.ref b_1), .val (.ref b_3), .val (.ref b_5), .val (.ref b_7), .val (.ref b_9), .val (.ref b_11), .val (.ref b_13), .val (.ref b_15), .val (.ref b17), .unset, .unset, .unset, .unset, .unset] [])) (fun _ k => st36.trans k) ?_
        refine Go.step (T' := T36) (f' := (mkF m 167 #[.val (.int p1), .val (.int p2), .val (.int p3), .val (.int p4), .val (.int p5), .val (.int (p1 &&& (3 : Int32))), .val (.ref b_1), .val (.ref b_3), .val (.ref b_5), .val (.ref b_7), .val (.ref b_9), .val (.ref b_11), .val (.ref b_13), .val (.ref b_15), .val (.ref b17), .unset, .unset, .unset, .unset, .unset] [(.ref b17)])) (fun _ k => XS.aload X36.here hx rfl (hb hby at_165) rfl rfl k) ?_
        have q40 : Exa Z T36.heap b17 "com/example/tenderbook/tenderbook/Fields" := (q37.keep Kq36)
        obtain ⟨cq39, kq39, q39a, q39b, q39c⟩ := isOf hZ rfl q40
        obtain ⟨_, _, ⟨T39, L39, k39, n39⟩, -, X39, ⟨Lc39, hQ39, l39, y39, z39⟩, st39⟩ := X36.virtualBack hx (y := (⟨"com/example/tenderbook/tenderbook/Fields", "size", "()I"⟩ : MethodName)) (z := (⟨"com/example/tenderbook/tenderbook/Fields", "size", "()I"⟩ : MethodName)) hown (mvT hZ (hw _ (List.mem_of_getElem? (i := 53) rfl))) (mvT hZ (hw _ (List.mem_of_getElem? (i := 54) rfl))) (notFace_of_selects (args := #[]) (mvT hZ (hw _ (List.mem_of_getElem? (i := 56) rfl)))) (mvT hZ (hw _ (List.mem_of_getElem? (i := 56) rfl))) (mvT hZ (hw _ (List.mem_of_getElem? (i := 55) rfl))) (by decide) (backOf (W := 0) (rm10 l Z a0 hw [] b17 (0 : Int32) T36.heap n0 Z38 r36_2) hZ (hw _ (List.mem_of_getElem? (i := 57) rfl)) (hw _ (List.mem_of_getElem? (i := 28) rfl)) (by decide) (by decide)) q39a q39c (g := (mkF m 167 #[.val (.int p1), .val (.int p2), .val (.int p3), .val (.int p4), .val (.int p5), .val (.int (p1 &&& (3 : Int32))), .val (.ref b_1), .val (.ref b_3), .val (.ref b_5), .val (.ref b_7), .val (.ref b_9), .val (.ref b_11), .val (.ref b_13), .val (.ref b_15), .val (.ref b17), .unset, .unset, .unset, .unset, .unset] [(.ref b17)])) rfl (by rw [hml]; rfl) (Steps.refl _) (argsL := []) (rest := []) (lenOf pd_9 rfl) rfl (by show 2 * 0 + _ ≤ _; exact Nat.le_of_eq rfl) (hb hby at_167) (fun _ _ => ⟨rfl, rfl, (by decide : 19 + 0 ≤ _), (by decide : 59 + 0 ≤ _)⟩)
        dsimp only [Pt.U, Pt.locs, Pt.cells, Pt.slots] at X39 l39 y39 z39 st39 hQ39
        subst l39 y39 z39
        obtain ⟨rfl, Nq39, eh39⟩ := hQ39
        have N39 := Fr.app N36 Nq39
        refine Go.step (T' := T39) (f' := (mkF m 170 #[.val (.int p1), .val (.int p2), .val (.int p3), .val (.int p4), .val (.int p5), .val (.int (p1 &&& (3 : Int32))), .val (.ref b_1), .val (.ref b_3), .val (.ref b_5), .val (.ref b_7), .val (.ref b_9), .val (.ref b_11), .val (.ref b_13), .val (.ref b_15), .val (.ref b17), .unset, .unset, .unset, .unset, .unset] [(.int (0 : Int32))])) (fun _ k => st39.trans k) ?_
        refine Go.step (T' := T39) (f' := (mkF m 173 #[.val (.int p1), .val (.int p2), .val (.int p3), .val (.int p4), .val (.int p5), .val (.int (p1 &&& (3 : Int32))), .val (.ref b_1), .val (.ref b_3), .val (.ref b_5), .val (.ref b_7), .val (.ref b_9), .val (.ref b_11), .val (.ref b_13), .val (.ref b_15), .val (.ref b17), .unset, .unset, .unset, .unset, .unset] [])) (fun _ k => XS.ifNo X39.here hx rfl (hb hby at_170) rfl ((if0 _ _).trans (teq (by decide : (0 : Int32) = (0 : Int32))).2) k) ?_
        refine Go.step (T' := T39) (f' := (mkF m 174 #[.val (.int p1), .val (.int p2), .val (.int p3), .val (.int p4), .val (.int p5), .val (.int (p1 &&& (3 : Int32))), .val (.ref b_1), .val (.ref b_3), .val (.ref b_5), .val (.ref b_7), .val (.ref b_9), .val (.ref b_11), .val (.ref b_13), .val (.ref b_15), .val (.ref b17), .unset, .unset, .unset, .unset, .unset] [(.int (1 : Int32))])) (fun _ k => XS.iconst X39.here hx rfl (hb hby at_173) k) ?_
        refine Go.step (T' := T39) (f' := (mkF m 178 #[.val (.int p1), .val (.int p2), .val (.int p3), .val (.int p4), .val (.int p5), .val (.int (p1 &&& (3 : Int32))), .val (.ref b_1), .val (.ref b_3), .val (.ref b_5), .val (.ref b_7), .val (.ref b_9), .val (.ref b_11), .val (.ref b_13), .val (.ref b_15), .val (.ref b17), .unset, .unset, .unset, .unset, .unset] [(.int (1 : Int32))])) (fun _ k => XS.goto X39.here hx rfl (pc0 := 174) (pc' := 178) rfl (hb hby at_174) (by decide) (by decide) k) ?_
        refine Go.step (T' := T39) (f' := (mkF m 180 #[.val (.int p1), .val (.int p2), .val (.int p3), .val (.int p4), .val (.int p5), .val (.int (p1 &&& (3 : Int32))), .val (.ref b_1), .val (.ref b_3), .val (.ref b_5), .val (.ref b_7), .val (.ref b_9), .val (.ref b_11), .val (.ref b_13), .val (.ref b_15), .val (.ref b17), .val (.int (1 : Int32)), .unset, .unset, .unset, .unset] [])) (fun _ k => XS.istore X39.here hx rfl (hb hby at_178) rfl (l' := #[.val (.int p1), .val (.int p2), .val (.int p3), .val (.int p4), .val (.int p5), .val (.int (p1 &&& (3 : Int32))), .val (.ref b_1), .val (.ref b_3), .val (.ref b_5), .val (.ref b_7), .val (.ref b_9), .val (.ref b_11), .val (.ref b_13), .val (.ref b_15), .val (.ref b17), .val (.int (1 : Int32)), .unset, .unset, .unset, .unset]) rfl k) ?_
        refine Go.step (T' := T39) (f' := (mkF m 182 #[.val (.int p1), .val (.int p2), .val (.int p3), .val (.int p4), .val (.int p5), .val (.int (p1 &&& (3 : Int32))), .val (.ref b_1), .val (.ref b_3), .val (.ref b_5), .val (.ref b_7), .val (.ref b_9), .val (.ref b_11), .val (.ref b_13), .val (.ref b_15), .val (.ref b17), .val (.int (1 : Int32)), .unset, .unset, .unset, .unset] [(.ref b17)])) (fun _ k => XS.aload X39.here hx rfl (hb hby at_180) rfl rfl k) ?_
        refine Go.step (T' := T39) (f' := (mkF m 184 #[.val (.int p1), .val (.int p2), .val (.int p3), .val (.int p4), .val (.int p5), .val (.int (p1 &&& (3 : Int32))), .val (.ref b_1), .val (.ref b_3), .val (.ref b_5), .val (.ref b_7), .val (.ref b_9), .val (.ref b_11), .val (.ref b_13), .val (.ref b_15), .val (.ref b17), .val (.int (1 : Int32)), .unset, .unset, .unset, .unset] [(.ref b_13), (.ref b17)])) (fun _ k => XS.aload X39.here hx rfl (hb hby at_182) rfl rfl k) ?_
        refine Go.step (T' := T39) (f' := (mkF m 186 #[.val (.int p1), .val (.int p2), .val (.int p3), .val (.int p4), .val (.int p5), .val (.int (p1 &&& (3 : Int32))), .val (.ref b_1), .val (.ref b_3), .val (.ref b_5), .val (.ref b_7), .val (.ref b_9), .val (.ref b_11), .val (.ref b_13), .val (.ref b_15), .val (.ref b17), .val (.int (1 : Int32)), .unset, .unset, .unset, .unset] [(.ref b_15), (.ref b_13), (.ref b17)])) (fun _ k => XS.aload X39.here hx rfl (hb hby at_184) rfl rfl k) ?_
        have q42 : Exa Z T36.heap b_13 "java/lang/String" := (((((((r13_1.keep Kq15).ext E17).keep Kq19).keep Kq21).keep Kq26).keep Kq31).keep Kq36)
        have q43 : Exa Z T36.heap b_15 "java/lang/String" := ((((((r15_1.ext E17).keep Kq19).keep Kq21).keep Kq26).keep Kq31).keep Kq36)
        obtain ⟨cq41, kq41, q41a, q41b, q41c⟩ := isOf hZ eh39 q40
        obtain ⟨_, _, ⟨T41, L41, k41, n41⟩, -, X41, ⟨Lc41, hQ41, l41, y41, z41⟩, st41⟩ := X39.virtualBack hx (y := (⟨"com/example/tenderbook/tenderbook/Fields", "add", "(Ljava/lang/String;Ljava/lang/String;)V"⟩ : MethodName)) (z := (⟨"com/example/tenderbook/tenderbook/Fields", "add", "(Ljava/lang/String;Ljava/lang/String;)V"⟩ : MethodName)) hown (mvT hZ (hw _ (List.mem_of_getElem? (i := 58) rfl))) (mvT hZ (hw _ (List.mem_of_getElem? (i := 59) rfl))) (notFace_of_selects (args := #[]) (mvT hZ (hw _ (List.mem_of_getElem? (i := 61) rfl)))) (mvT hZ (hw _ (List.mem_of_getElem? (i := 61) rfl))) (mvT hZ (hw _ (List.mem_of_getElem? (i := 60) rfl))) (by decide) (backOf (W := 0) (rmAdd0 l Z a0 hw [] b17 b_13 b_15 n_19 v_19 kn_19 kv_19 T36.heap n0 Z38 q40 q42 q43 r36_0 r36_1 r36_2 r36_3 r36_4 (Ne.symm (Nat.ne_of_lt (Nat.lt_of_lt_of_le A17.lt r19_0))) (Ne.symm (Nat.ne_of_lt (Nat.lt_of_lt_of_le A17.lt r19_1))) r19_2 r19_3 r19_4 g_b17 g_n_19 g_v_19) hZ (hw _ (List.mem_of_getElem? (i := 62) rfl)) (hw _ (List.mem_of_getElem? (i := 28) rfl)) (by decide) (by decide)) q41a q41c (g := (mkF m 186 #[.val (.int p1), .val (.int p2), .val (.int p3), .val (.int p4), .val (.int p5), .val (.int (p1 &&& (3 : Int32))), .val (.ref b_1), .val (.ref b_3), .val (.ref b_5), .val (.ref b_7), .val (.ref b_9), .val (.ref b_11), .val (.ref b_13), .val (.ref b_15), .val (.ref b17), .val (.int (1 : Int32)), .unset, .unset, .unset, .unset] [(.ref b_15), (.ref b_13), (.ref b17)])) rfl (by rw [hml]; rfl) (Steps.refl _) (argsL := [(.ref b_13), (.ref b_15)]) (rest := []) (lenOf pd_8 rfl) rfl (by show 2 * 0 + _ ≤ _; exact Nat.le_of_eq rfl) (hb hby at_186) (fun _ _ => ⟨rfl, eh39, (by decide : 19 + 0 ≤ _), (by decide : 59 + 0 ≤ _)⟩)
        dsimp only [Pt.U, Pt.locs, Pt.cells, Pt.slots] at X41 l41 y41 z41 st41 hQ41
        subst l41 y41 z41
        obtain ⟨rfl, Nq41, Kq41, r41_0, r41_1, r41_2, r41_3, r41_4⟩ := hQ41
        have N41 := Fr.app N39 Nq41
        have Z44 : n0 ≤ T41.heap.size := Nat.le_trans Z38 Kq41.1
        have O44 : Old Z n0 T41.heap := O38.keep Kq41 (allS g_b17 (allS g_n_19 (allS g_v_19 all0)))
        refine Go.step (T' := T41) (f' := (mkF m 189 #[.val (.int p1), .val (.int p2), .val (.int p3), .val (.int p4), .val (.int p5), .val (.int (p1 &&& (3 : Int32))), .val (.ref b_1), .val (.ref b_3), .val (.ref b_5), .val (.ref b_7), .val (.ref b_9), .val (.ref b_11), .val (.ref b_13), .val (.ref b_15), .val (.ref b17), .val (.int (1 : Int32)), .unset, .unset, .unset, .unset] [])) (fun _ k => st41.trans k) ?_
        refine Go.step (T' := T41) (f' := (mkF m 191 #[.val (.int p1), .val (.int p2), .val (.int p3), .val (.int p4), .val (.int p5), .val (.int (p1 &&& (3 : Int32))), .val (.ref b_1), .val (.ref b_3), .val (.ref b_5), .val (.ref b_7), .val (.ref b_9), .val (.ref b_11), .val (.ref b_13), .val (.ref b_15), .val (.ref b17), .val (.int (1 : Int32)), .unset, .unset, .unset, .unset] [(.ref b17)])) (fun _ k => XS.aload X41.here hx rfl (hb hby at_189) rfl rfl k) ?_
        have q46 : Exa Z T41.heap b17 "com/example/tenderbook/tenderbook/Fields" := (q40.keep Kq41)
        obtain ⟨cq45, kq45, q45a, q45b, q45c⟩ := isOf hZ rfl q46
        obtain ⟨_, _, ⟨T45, L45, k45, n45⟩, -, X45, ⟨Lc45, hQ45, l45, y45, z45⟩, st45⟩ := X41.virtualBack hx (y := (⟨"com/example/tenderbook/tenderbook/Fields", "size", "()I"⟩ : MethodName)) (z := (⟨"com/example/tenderbook/tenderbook/Fields", "size", "()I"⟩ : MethodName)) hown (mvT hZ (hw _ (List.mem_of_getElem? (i := 53) rfl))) (mvT hZ (hw _ (List.mem_of_getElem? (i := 54) rfl))) (notFace_of_selects (args := #[]) (mvT hZ (hw _ (List.mem_of_getElem? (i := 56) rfl)))) (mvT hZ (hw _ (List.mem_of_getElem? (i := 56) rfl))) (mvT hZ (hw _ (List.mem_of_getElem? (i := 55) rfl))) (by decide) (backOf (W := 0) (rm10 l Z a0 hw [] b17 (1 : Int32) T41.heap n0 Z44 r41_2) hZ (hw _ (List.mem_of_getElem? (i := 57) rfl)) (hw _ (List.mem_of_getElem? (i := 28) rfl)) (by decide) (by decide)) q45a q45c (g := (mkF m 191 #[.val (.int p1), .val (.int p2), .val (.int p3), .val (.int p4), .val (.int p5), .val (.int (p1 &&& (3 : Int32))), .val (.ref b_1), .val (.ref b_3), .val (.ref b_5), .val (.ref b_7), .val (.ref b_9), .val (.ref b_11), .val (.ref b_13), .val (.ref b_15), .val (.ref b17), .val (.int (1 : Int32)), .unset, .unset, .unset, .unset] [(.ref b17)])) rfl (by rw [hml]; rfl) (Steps.refl _) (argsL := []) (rest := []) (lenOf pd_9 rfl) rfl (by show 2 * 0 + _ ≤ _; exact Nat.le_of_eq rfl) (hb hby at_191) (fun _ _ => ⟨rfl, rfl, (by decide : 19 + 0 ≤ _), (by decide : 59 + 0 ≤ _)⟩)
        dsimp only [Pt.U, Pt.locs, Pt.cells, Pt.slots] at X45 l45 y45 z45 st45 hQ45
        subst l45 y45 z45
        obtain ⟨rfl, Nq45, eh45⟩ := hQ45
        have N45 := Fr.app N41 Nq45
        refine Go.step (T' := T45) (f' := (mkF m 194 #[.val (.int p1), .val (.int p2), .val (.int p3), .val (.int p4), .val (.int p5), .val (.int (p1 &&& (3 : Int32))), .val (.ref b_1), .val (.ref b_3), .val (.ref b_5), .val (.ref b_7), .val (.ref b_9), .val (.ref b_11), .val (.ref b_13), .val (.ref b_15), .val (.ref b17), .val (.int (1 : Int32)), .unset, .unset, .unset, .unset] [(.int (1 : Int32))])) (fun _ k => st45.trans k) ?_
        refine Go.step (T' := T45) (f' := (mkF m 195 #[.val (.int p1), .val (.int p2), .val (.int p3), .val (.int p4), .val (.int p5), .val (.int (p1 &&& (3 : Int32))), .val (.ref b_1), .val (.ref b_3), .val (.ref b_5), .val (.ref b_7), .val (.ref b_9), .val (.ref b_11), .val (.ref b_13), .val (.ref b_15), .val (.ref b17), .val (.int (1 : Int32)), .unset, .unset, .unset, .unset] [(.int (1 : Int32)), (.int (1 : Int32))])) (fun _ k => XS.iconst X45.here hx rfl (hb hby at_194) k) ?_
        refine Go.step (T' := T45) (f' := (mkF m 198 #[.val (.int p1), .val (.int p2), .val (.int p3), .val (.int p4), .val (.int p5), .val (.int (p1 &&& (3 : Int32))), .val (.ref b_1), .val (.ref b_3), .val (.ref b_5), .val (.ref b_7), .val (.ref b_9), .val (.ref b_11), .val (.ref b_13), .val (.ref b_15), .val (.ref b17), .val (.int (1 : Int32)), .unset, .unset, .unset, .unset] [])) (fun _ k => XS.icmpNo X45.here hx rfl (hb hby at_195) rfl (teq (by decide : (1 : Int32) = (1 : Int32))).2 k) ?_
        refine Go.step (T' := T45) (f' := (mkF m 199 #[.val (.int p1), .val (.int p2), .val (.int p3), .val (.int p4), .val (.int p5), .val (.int (p1 &&& (3 : Int32))), .val (.ref b_1), .val (.ref b_3), .val (.ref b_5), .val (.ref b_7), .val (.ref b_9), .val (.ref b_11), .val (.ref b_13), .val (.ref b_15), .val (.ref b17), .val (.int (1 : Int32)), .unset, .unset, .unset, .unset] [(.int (1 : Int32))])) (fun _ k => XS.iconst X45.here hx rfl (hb hby at_198) k) ?_
        refine Go.step (T' := T45) (f' := (mkF m 203 #[.val (.int p1), .val (.int p2), .val (.int p3), .val (.int p4), .val (.int p5), .val (.int (p1 &&& (3 : Int32))), .val (.ref b_1), .val (.ref b_3), .val (.ref b_5), .val (.ref b_7), .val (.ref b_9), .val (.ref b_11), .val (.ref b_13), .val (.ref b_15), .val (.ref b17), .val (.int (1 : Int32)), .unset, .unset, .unset, .unset] [(.int (1 : Int32))])) (fun _ k => XS.goto X45.here hx rfl (pc0 := 199) (pc' := 203) rfl (hb hby at_199) (by decide) (by decide) k) ?_
        refine Go.step (T' := T45) (f' := (mkF m 205 #[.val (.int p1), .val (.int p2), .val (.int p3), .val (.int p4), .val (.int p5), .val (.int (p1 &&& (3 : Int32))), .val (.ref b_1), .val (.ref b_3), .val (.ref b_5), .val (.ref b_7), .val (.ref b_9), .val (.ref b_11), .val (.ref b_13), .val (.ref b_15), .val (.ref b17), .val (.int (1 : Int32)), .val (.int (1 : Int32)), .unset, .unset, .unset] [])) (fun _ k => XS.istore X45.here hx rfl (hb hby at_203) rfl (l' := #[.val (.int p1), .val (.int p2), .val (.int p3), .val (.int p4), .val (.int p5), .val (.int (p1 &&& (3 : Int32))), .val (.ref b_1), .val (.ref b_3), .val (.ref b_5), .val (.ref b_7), .val (.ref b_9), .val (.ref b_11), .val (.ref b_13), .val (.ref b_15), .val (.ref b17), .val (.int (1 : Int32)), .val (.int (1 : Int32)), .unset, .unset, .unset]) rfl k) ?_
        refine Go.step (T' := T45) (f' := (mkF m 207 #[.val (.int p1), .val (.int p2), .val (.int p3), .val (.int p4), .val (.int p5), .val (.int (p1 &&& (3 : Int32))), .val (.ref b_1), .val (.ref b_3), .val (.ref b_5), .val (.ref b_7), .val (.ref b_9), .val (.ref b_11), .val (.ref b_13), .val (.ref b_15), .val (.ref b17), .val (.int (1 : Int32)), .val (.int (1 : Int32)), .unset, .unset, .unset] [(.ref b17)])) (fun _ k => XS.aload X45.here hx rfl (hb hby at_205) rfl rfl k) ?_
        refine Go.step (T' := T45) (f' := (mkF m 209 #[.val (.int p1), .val (.int p2), .val (.int p3), .val (.int p4), .val (.int p5), .val (.int (p1 &&& (3 : Int32))), .val (.ref b_1), .val (.ref b_3), .val (.ref b_5), .val (.ref b_7), .val (.ref b_9), .val (.ref b_11), .val (.ref b_13), .val (.ref b_15), .val (.ref b17), .val (.int (1 : Int32)), .val (.int (1 : Int32)), .unset, .unset, .unset] [(.ref b_13), (.ref b17)])) (fun _ k => XS.aload X45.here hx rfl (hb hby at_207) rfl rfl k) ?_
        have q48 : Exa Z T41.heap b_13 "java/lang/String" := (q42.keep Kq41)
        obtain ⟨cq47, kq47, q47a, q47b, q47c⟩ := isOf hZ eh45 q46
        obtain ⟨_, _, ⟨T47, L47, k47, n47⟩, -, X47, ⟨Lc47, hQ47, l47, y47, z47⟩, st47⟩ := X45.virtualBack hx (y := (⟨"com/example/tenderbook/tenderbook/Fields", "getFirst", "(Ljava/lang/String;)Ljava/lang/String;"⟩ : MethodName)) (z := (⟨"com/example/tenderbook/tenderbook/Fields", "getFirst", "(Ljava/lang/String;)Ljava/lang/String;"⟩ : MethodName)) hown (mvT hZ (hw _ (List.mem_of_getElem? (i := 63) rfl))) (mvT hZ (hw _ (List.mem_of_getElem? (i := 64) rfl))) (notFace_of_selects (args := #[]) (mvT hZ (hw _ (List.mem_of_getElem? (i := 66) rfl)))) (mvT hZ (hw _ (List.mem_of_getElem? (i := 66) rfl))) (mvT hZ (hw _ (List.mem_of_getElem? (i := 65) rfl))) (by decide) (backOf (W := 0) (rm12 l Z a0 hw [] b17 b_13 n_19 v_19 kn_19 kv_19 b_15 T41.heap n0 Z44 q48 r41_0 r41_1 r41_2 r41_3 r41_4) hZ (hw _ (List.mem_of_getElem? (i := 67) rfl)) (hw _ (List.mem_of_getElem? (i := 28) rfl)) (by decide) (by decide)) q47a q47c (g := (mkF m 209 #[.val (.int p1), .val (.int p2), .val (.int p3), .val (.int p4), .val (.int p5), .val (.int (p1 &&& (3 : Int32))), .val (.ref b_1), .val (.ref b_3), .val (.ref b_5), .val (.ref b_7), .val (.ref b_9), .val (.ref b_11), .val (.ref b_13), .val (.ref b_15), .val (.ref b17), .val (.int (1 : Int32)), .val (.int (1 : Int32)), .unset, .unset, .unset] [(.ref b_13), (.ref b17)])) rfl (by rw [hml]; rfl) (Steps.refl _) (argsL := [(.ref b_13)]) (rest := []) (lenOf pd_10 rfl) rfl (by show 2 * 0 + _ ≤ _; exact Nat.le_of_eq rfl) (hb hby at_209) (fun _ _ => ⟨rfl, eh45, (by decide : 19 + 0 ≤ _), (by decide : 59 + 0 ≤ _)⟩)
        dsimp only [Pt.U, Pt.locs, Pt.cells, Pt.slots] at X47 l47 y47 z47 st47 hQ47
        subst l47 y47 z47
        obtain ⟨rfl, Nq47, eh47⟩ := hQ47
        have N47 := Fr.app N45 Nq47
        refine Go.step (T' := T47) (f' := (mkF m 212 #[.val (.int p1), .val (.int p2), .val (.int p3), .val (.int p4), .val (.int p5), .val (.int (p1 &&& (3 : Int32))), .val (.ref b_1), .val (.ref b_3), .val (.ref b_5), .val (.ref b_7), .val (.ref b_9), .val (.ref b_11), .val (.ref b_13), .val (.ref b_15), .val (.ref b17), .val (.int (1 : Int32)), .val (.int (1 : Int32)), .unset, .unset, .unset] [(.ref b_15)])) (fun _ k => st47.trans k) ?_
        refine Go.step (T' := T47) (f' := (mkF m 214 #[.val (.int p1), .val (.int p2), .val (.int p3), .val (.int p4), .val (.int p5), .val (.int (p1 &&& (3 : Int32))), .val (.ref b_1), .val (.ref b_3), .val (.ref b_5), .val (.ref b_7), .val (.ref b_9), .val (.ref b_11), .val (.ref b_13), .val (.ref b_15), .val (.ref b17), .val (.int (1 : Int32)), .val (.int (1 : Int32)), .val (.ref b_15), .unset, .unset] [])) (fun _ k => XS.astore X47.here hx rfl (hb hby at_212) rfl rfl (l' := #[.val (.int p1), .val (.int p2), .val (.int p3), .val (.int p4), .val (.int p5), .val (.int (p1 &&& (3 : Int32))), .val (.ref b_1), .val (.ref b_3), .val (.ref b_5), .val (.ref b_7), .val (.ref b_9), .val (.ref b_11), .val (.ref b_13), .val (.ref b_15), .val (.ref b17), .val (.int (1 : Int32)), .val (.int (1 : Int32)), .val (.ref b_15), .unset, .unset]) rfl k) ?_
        refine Go.step (T' := T47) (f' := (mkF m 216 #[.val (.int p1), .val (.int p2), .val (.int p3), .val (.int p4), .val (.int p5), .val (.int (p1 &&& (3 : Int32))), .val (.ref b_1), .val (.ref b_3), .val (.ref b_5), .val (.ref b_7), .val (.ref b_9), .val (.ref b_11), .val (.ref b_13), .val (.ref b_15), .val (.ref b17), .val (.int (1 : Int32)), .val (.int (1 : Int32)), .val (.ref b_15), .unset, .unset] [(.ref b_15)])) (fun _ k => XS.aload X47.here hx rfl (hb hby at_214) rfl rfl k) ?_
        refine Go.step (T' := T47) (f' := (mkF m 219 #[.val (.int p1), .val (.int p2), .val (.int p3), .val (.int p4), .val (.int p5), .val (.int (p1 &&& (3 : Int32))), .val (.ref b_1), .val (.ref b_3), .val (.ref b_5), .val (.ref b_7), .val (.ref b_9), .val (.ref b_11), .val (.ref b_13), .val (.ref b_15), .val (.ref b17), .val (.int (1 : Int32)), .val (.int (1 : Int32)), .val (.ref b_15), .unset, .unset] [])) (fun _ k => XS.ifnullNo X47.here hx rfl (hb hby at_216) rfl k) ?_
        refine Go.step (T' := T47) (f' := (mkF m 221 #[.val (.int p1), .val (.int p2), .val (.int p3), .val (.int p4), .val (.int p5), .val (.int (p1 &&& (3 : Int32))), .val (.ref b_1), .val (.ref b_3), .val (.ref b_5), .val (.ref b_7), .val (.ref b_9), .val (.ref b_11), .val (.ref b_13), .val (.ref b_15), .val (.ref b17), .val (.int (1 : Int32)), .val (.int (1 : Int32)), .val (.ref b_15), .unset, .unset] [(.ref b_15)])) (fun _ k => XS.aload X47.here hx rfl (hb hby at_219) rfl rfl k) ?_
        refine Go.step (T' := T47) (f' := (mkF m 223 #[.val (.int p1), .val (.int p2), .val (.int p3), .val (.int p4), .val (.int p5), .val (.int (p1 &&& (3 : Int32))), .val (.ref b_1), .val (.ref b_3), .val (.ref b_5), .val (.ref b_7), .val (.ref b_9), .val (.ref b_11), .val (.ref b_13), .val (.ref b_15), .val (.ref b17), .val (.int (1 : Int32)), .val (.int (1 : Int32)), .val (.ref b_15), .unset, .unset] [(.ref b_15), (.ref b_15)])) (fun _ k => XS.aload X47.here hx rfl (hb hby at_221) rfl rfl k) ?_
        have q50 : Exa Z T41.heap b_15 "java/lang/String" := (q43.keep Kq41)
        obtain ⟨cq49, kq49, q49a, q49b, q49c⟩ := isOf hZ eh47 q50
        obtain ⟨_, _, ⟨T49, L49, k49, n49⟩, -, X49, ⟨Lc49, hQ49, l49, y49, z49⟩, st49⟩ := X47.virtualBack hx (y := (⟨"java/lang/String", "equals", "(Ljava/lang/Object;)Z"⟩ : MethodName)) (z := (⟨"java/lang/String", "equals", "(Ljava/lang/Object;)Z"⟩ : MethodName)) hown (mvT hZ (hw _ (List.mem_of_getElem? (i := 73) rfl))) (mvT hZ (hw _ (List.mem_of_getElem? (i := 74) rfl))) (notFace_of_selects (args := #[]) (mvT hZ (hw _ (List.mem_of_getElem? (i := 76) rfl)))) (mvT hZ (hw _ (List.mem_of_getElem? (i := 76) rfl))) (mvT hZ (hw _ (List.mem_of_getElem? (i := 75) rfl))) (by decide) (backOf (W := 0) (rm14 l Z a0 hw [] b_15 T41.heap n0 Z44 ) hZ (hw _ (List.mem_of_getElem? (i := 77) rfl)) (hw _ (List.mem_of_getElem? (i := 2) rfl)) (by decide) (by decide)) q49a q49c (g := (mkF m 223 #[.val (.int p1), .val (.int p2), .val (.int p3), .val (.int p4), .val (.int p5), .val (.int (p1 &&& (3 : Int32))), .val (.ref b_1), .val (.ref b_3), .val (.ref b_5), .val (.ref b_7), .val (.ref b_9), .val (.ref b_11), .val (.ref b_13), .val (.ref b_15), .val (.ref b17), .val (.int (1 : Int32)), .val (.int (1 : Int32)), .val (.ref b_15), .unset, .unset] [(.ref b_15), (.ref b_15)])) rfl (by rw [hml]; rfl) (Steps.refl _) (argsL := [(.ref b_15)]) (rest := []) (lenOf pd_11 rfl) rfl (by show 2 * 0 + _ ≤ _; exact Nat.le_of_eq rfl) (hb hby at_223) (fun _ _ => ⟨rfl, eh47, (by decide : 19 + 0 ≤ _), (by decide : 59 + 0 ≤ _)⟩)
        dsimp only [Pt.U, Pt.locs, Pt.cells, Pt.slots] at X49 l49 y49 z49 st49 hQ49
        subst l49 y49 z49
        obtain ⟨rfl, Nq49, eh49⟩ := hQ49
        have N49 := Fr.app N47 Nq49
        refine Go.step (T' := T49) (f' := (mkF m 226 #[.val (.int p1), .val (.int p2), .val (.int p3), .val (.int p4), .val (.int p5), .val (.int (p1 &&& (3 : Int32))), .val (.ref b_1), .val (.ref b_3), .val (.ref b_5), .val (.ref b_7), .val (.ref b_9), .val (.ref b_11), .val (.ref b_13), .val (.ref b_15), .val (.ref b17), .val (.int (1 : Int32)), .val (.int (1 : Int32)), .val (.ref b_15), .unset, .unset] [(.int (1 : Int32))])) (fun _ k => st49.trans k) ?_
        refine Go.step (T' := T49) (f' := (mkF m 229 #[.val (.int p1), .val (.int p2), .val (.int p3), .val (.int p4), .val (.int p5), .val (.int (p1 &&& (3 : Int32))), .val (.ref b_1), .val (.ref b_3), .val (.ref b_5), .val (.ref b_7), .val (.ref b_9), .val (.ref b_11), .val (.ref b_13), .val (.ref b_15), .val (.ref b17), .val (.int (1 : Int32)), .val (.int (1 : Int32)), .val (.ref b_15), .unset, .unset] [])) (fun _ k => XS.ifNo X49.here hx rfl (hb hby at_226) rfl ((if0 _ _).trans (feq (by decide : ¬ ((1 : Int32) = (0 : Int32)))).1) k) ?_
        refine Go.step (T' := T49) (f' := (mkF m 230 #[.val (.int p1), .val (.int p2), .val (.int p3), .val (.int p4), .val (.int p5), .val (.int (p1 &&& (3 : Int32))), .val (.ref b_1), .val (.ref b_3), .val (.ref b_5), .val (.ref b_7), .val (.ref b_9), .val (.ref b_11), .val (.ref b_13), .val (.ref b_15), .val (.ref b17), .val (.int (1 : Int32)), .val (.int (1 : Int32)), .val (.ref b_15), .unset, .unset] [(.int (1 : Int32))])) (fun _ k => XS.iconst X49.here hx rfl (hb hby at_229) k) ?_
        refine Go.step (T' := T49) (f' := (mkF m 234 #[.val (.int p1), .val (.int p2), .val (.int p3), .val (.int p4), .val (.int p5), .val (.int (p1 &&& (3 : Int32))), .val (.ref b_1), .val (.ref b_3), .val (.ref b_5), .val (.ref b_7), .val (.ref b_9), .val (.ref b_11), .val (.ref b_13), .val (.ref b_15), .val (.ref b17), .val (.int (1 : Int32)), .val (.int (1 : Int32)), .val (.ref b_15), .unset, .unset] [(.int (1 : Int32))])) (fun _ k => XS.goto X49.here hx rfl (pc0 := 230) (pc' := 234) rfl (hb hby at_230) (by decide) (by decide) k) ?_
        refine Go.step (T' := T49) (f' := (mkF m 236 #[.val (.int p1), .val (.int p2), .val (.int p3), .val (.int p4), .val (.int p5), .val (.int (p1 &&& (3 : Int32))), .val (.ref b_1), .val (.ref b_3), .val (.ref b_5), .val (.ref b_7), .val (.ref b_9), .val (.ref b_11), .val (.ref b_13), .val (.ref b_15), .val (.ref b17), .val (.int (1 : Int32)), .val (.int (1 : Int32)), .val (.ref b_15), .val (.int (1 : Int32)), .unset] [])) (fun _ k => XS.istore X49.here hx rfl (hb hby at_234) rfl (l' := #[.val (.int p1), .val (.int p2), .val (.int p3), .val (.int p4), .val (.int p5), .val (.int (p1 &&& (3 : Int32))), .val (.ref b_1), .val (.ref b_3), .val (.ref b_5), .val (.ref b_7), .val (.ref b_9), .val (.ref b_11), .val (.ref b_13), .val (.ref b_15), .val (.ref b17), .val (.int (1 : Int32)), .val (.int (1 : Int32)), .val (.ref b_15), .val (.int (1 : Int32)), .unset]) rfl k) ?_
        refine Go.step (T' := T49) (f' := (mkF m 238 #[.val (.int p1), .val (.int p2), .val (.int p3), .val (.int p4), .val (.int p5), .val (.int (p1 &&& (3 : Int32))), .val (.ref b_1), .val (.ref b_3), .val (.ref b_5), .val (.ref b_7), .val (.ref b_9), .val (.ref b_11), .val (.ref b_13), .val (.ref b_15), .val (.ref b17), .val (.int (1 : Int32)), .val (.int (1 : Int32)), .val (.ref b_15), .val (.int (1 : Int32)), .unset] [(.ref b17)])) (fun _ k => XS.aload X49.here hx rfl (hb hby at_236) rfl rfl k) ?_
        refine Go.step (T' := T49) (f' := (mkF m 239 #[.val (.int p1), .val (.int p2), .val (.int p3), .val (.int p4), .val (.int p5), .val (.int (p1 &&& (3 : Int32))), .val (.ref b_1), .val (.ref b_3), .val (.ref b_5), .val (.ref b_7), .val (.ref b_9), .val (.ref b_11), .val (.ref b_13), .val (.ref b_15), .val (.ref b17), .val (.int (1 : Int32)), .val (.int (1 : Int32)), .val (.ref b_15), .val (.int (1 : Int32)), .unset] [(.int (0 : Int32)), (.ref b17)])) (fun _ k => XS.iconst X49.here hx rfl (hb hby at_238) k) ?_
        obtain ⟨cq51, kq51, q51a, q51b, q51c⟩ := isOf hZ eh49 q46
        obtain ⟨_, _, ⟨T51, L51, k51, n51⟩, -, X51, ⟨Lc51, hQ51, l51, y51, z51⟩, st51⟩ := X49.virtualBack hx (y := (⟨"com/example/tenderbook/tenderbook/Fields", "name", "(I)Ljava/lang/String;"⟩ : MethodName)) (z := (⟨"com/example/tenderbook/tenderbook/Fields", "name", "(I)Ljava/lang/String;"⟩ : MethodName)) hown (mvT hZ (hw _ (List.mem_of_getElem? (i := 78) rfl))) (mvT hZ (hw _ (List.mem_of_getElem? (i := 79) rfl))) (notFace_of_selects (args := #[]) (mvT hZ (hw _ (List.mem_of_getElem? (i := 81) rfl)))) (mvT hZ (hw _ (List.mem_of_getElem? (i := 81) rfl))) (mvT hZ (hw _ (List.mem_of_getElem? (i := 80) rfl))) (by decide) (backOf (W := 0) (rm15 l Z a0 hw [] b17 n_19 kn_19 b_13 T41.heap n0 Z44 r41_0 r41_3) hZ (hw _ (List.mem_of_getElem? (i := 82) rfl)) (hw _ (List.mem_of_getElem? (i := 28) rfl)) (by decide) (by decide)) q51a q51c (g := (mkF m 239 #[.val (.int p1), .val (.int p2), .val (.int p3), .val (.int p4), .val (.int p5), .val (.int (p1 &&& (3 : Int32))), .val (.ref b_1), .val (.ref b_3), .val (.ref b_5), .val (.ref b_7), .val (.ref b_9), .val (.ref b_11), .val (.ref b_13), .val (.ref b_15), .val (.ref b17), .val (.int (1 : Int32)), .val (.int (1 : Int32)), .val (.ref b_15), .val (.int (1 : Int32)), .unset] [(.int (0 : Int32)), (.ref b17)])) rfl (by rw [hml]; rfl) (Steps.refl _) (argsL := [(.int (0 : Int32))]) (rest := []) (lenOf pd_12 rfl) rfl (by show 2 * 0 + _ ≤ _; exact Nat.le_of_eq rfl) (hb hby at_239) (fun _ _ => ⟨rfl, eh49, (by decide : 19 + 0 ≤ _), (by decide : 59 + 0 ≤ _)⟩)
        dsimp only [Pt.U, Pt.locs, Pt.cells, Pt.slots] at X51 l51 y51 z51 st51 hQ51
        subst l51 y51 z51
        obtain ⟨rfl, Nq51, eh51⟩ := hQ51
        have N51 := Fr.app N49 Nq51
        refine Go.step (T' := T51) (f' := (mkF m 242 #[.val (.int p1), .val (.int p2), .val (.int p3), .val (.int p4), .val (.int p5), .val (.int (p1 &&& (3 : Int32))), .val (.ref b_1), .val (.ref b_3), .val (.ref b_5), .val (.ref b_7), .val (.ref b_9), .val (.ref b_11), .val (.ref b_13), .val (.ref b_15), .val (.ref b17), .val (.int (1 : Int32)), .val (.int (1 : Int32)), .val (.ref b_15), .val (.int (1 : Int32)), .unset] [(.ref b_13)])) (fun _ k => st51.trans k) ?_
        refine Go.step (T' := T51) (f' := (mkF m 244 #[.val (.int p1), .val (.int p2), .val (.int p3), .val (.int p4), .val (.int p5), .val (.int (p1 &&& (3 : Int32))), .val (.ref b_1), .val (.ref b_3), .val (.ref b_5), .val (.ref b_7), .val (.ref b_9), .val (.ref b_11), .val (.ref b_13), .val (.ref b_15), .val (.ref b17), .val (.int (1 : Int32)), .val (.int (1 : Int32)), .val (.ref b_15), .val (.int (1 : Int32)), .unset] [(.ref b_13), (.ref b_13)])) (fun _ k => XS.aload X51.here hx rfl (hb hby at_242) rfl rfl k) ?_
        refine Go.step (T' := T51) (f' := (mkF m 247 #[.val (.int p1), .val (.int p2), .val (.int p3), .val (.int p4), .val (.int p5), .val (.int (p1 &&& (3 : Int32))), .val (.ref b_1), .val (.ref b_3), .val (.ref b_5), .val (.ref b_7), .val (.ref b_9), .val (.ref b_11), .val (.ref b_13), .val (.ref b_15), .val (.ref b17), .val (.int (1 : Int32)), .val (.int (1 : Int32)), .val (.ref b_15), .val (.int (1 : Int32)), .unset] [])) (fun _ k => Jvm.RoadKit.acmp (g := (mkF m 244 #[.val (.int p1), .val (.int p2), .val (.int p3), .val (.int p4), .val (.int p5), .val (.int (p1 &&& (3 : Int32))), .val (.ref b_1), .val (.ref b_3), .val (.ref b_5), .val (.ref b_7), .val (.ref b_9), .val (.ref b_11), .val (.ref b_13), .val (.ref b_15), .val (.ref b17), .val (.int (1 : Int32)), .val (.int (1 : Int32)), .val (.ref b_15), .val (.int (1 : Int32)), .unset] [(.ref b_13), (.ref b_13)])) X51 hx rfl rfl rfl (pc0 := 244) (pc' := 247) (same := true) rfl (hb hby at_244) rfl (decide_eq_true rfl) (by decide) (by decide) k) ?_
        refine Go.step (T' := T51) (f' := (mkF m 248 #[.val (.int p1), .val (.int p2), .val (.int p3), .val (.int p4), .val (.int p5), .val (.int (p1 &&& (3 : Int32))), .val (.ref b_1), .val (.ref b_3), .val (.ref b_5), .val (.ref b_7), .val (.ref b_9), .val (.ref b_11), .val (.ref b_13), .val (.ref b_15), .val (.ref b17), .val (.int (1 : Int32)), .val (.int (1 : Int32)), .val (.ref b_15), .val (.int (1 : Int32)), .unset] [(.int (1 : Int32))])) (fun _ k => XS.iconst X51.here hx rfl (hb hby at_247) k) ?_
        refine Go.step (T' := T51) (f' := (mkF m 252 #[.val (.int p1), .val (.int p2), .val (.int p3), .val (.int p4), .val (.int p5), .val (.int (p1 &&& (3 : Int32))), .val (.ref b_1), .val (.ref b_3), .val (.ref b_5), .val (.ref b_7), .val (.ref b_9), .val (.ref b_11), .val (.ref b_13), .val (.ref b_15), .val (.ref b17), .val (.int (1 : Int32)), .val (.int (1 : Int32)), .val (.ref b_15), .val (.int (1 : Int32)), .unset] [(.int (1 : Int32))])) (fun _ k => XS.goto X51.here hx rfl (pc0 := 248) (pc' := 252) rfl (hb hby at_248) (by decide) (by decide) k) ?_
        refine Go.step (T' := T51) (f' := (mkF m 254 #[.val (.int p1), .val (.int p2), .val (.int p3), .val (.int p4), .val (.int p5), .val (.int (p1 &&& (3 : Int32))), .val (.ref b_1), .val (.ref b_3), .val (.ref b_5), .val (.ref b_7), .val (.ref b_9), .val (.ref b_11), .val (.ref b_13), .val (.ref b_15), .val (.ref b17), .val (.int (1 : Int32)), .val (.int (1 : Int32)), .val (.ref b_15), .val (.int (1 : Int32)), .val (.int (1 : Int32))] [])) (fun _ k => XS.istore X51.here hx rfl (hb hby at_252) rfl (l' := #[.val (.int p1), .val (.int p2), .val (.int p3), .val (.int p4), .val (.int p5), .val (.int (p1 &&& (3 : Int32))), .val (.ref b_1), .val (.ref b_3), .val (.ref b_5), .val (.ref b_7), .val (.ref b_9), .val (.ref b_11), .val (.ref b_13), .val (.ref b_15), .val (.ref b17), .val (.int (1 : Int32)), .val (.int (1 : Int32)), .val (.ref b_15), .val (.int (1 : Int32)), .val (.int (1 : Int32))]) rfl k) ?_
        refine Go.step (T' := T51) (f' := (mkF m 256 #[.val (.int p1), .val (.int p2), .val (.int p3), .val (.int p4), .val (.int p5), .val (.int (p1 &&& (3 : Int32))), .val (.ref b_1), .val (.ref b_3), .val (.ref b_5), .val (.ref b_7), .val (.ref b_9), .val (.ref b_11), .val (.ref b_13), .val (.ref b_15), .val (.ref b17), .val (.int (1 : Int32)), .val (.int (1 : Int32)), .val (.ref b_15), .val (.int (1 : Int32)), .val (.int (1 : Int32))] [(.int (1 : Int32))])) (fun _ k => XS.iload X51.here hx rfl (hb hby at_254) rfl k) ?_
        refine Go.step (T' := T51) (f' := (mkF m 259 #[.val (.int p1), .val (.int p2), .val (.int p3), .val (.int p4), .val (.int p5), .val (.int (p1 &&& (3 : Int32))), .val (.ref b_1), .val (.ref b_3), .val (.ref b_5), .val (.ref b_7), .val (.ref b_9), .val (.ref b_11), .val (.ref b_13), .val (.ref b_15), .val (.ref b17), .val (.int (1 : Int32)), .val (.int (1 : Int32)), .val (.ref b_15), .val (.int (1 : Int32)), .val (.int (1 : Int32))] [])) (fun _ k => XS.ifNo X51.here hx rfl (hb hby at_256) rfl ((if0 _ _).trans (feq (by decide : ¬ ((1 : Int32) = (0 : Int32)))).1) k) ?_
        refine Go.step (T' := T51) (f' := (mkF m 261 #[.val (.int p1), .val (.int p2), .val (.int p3), .val (.int p4), .val (.int p5), .val (.int (p1 &&& (3 : Int32))), .val (.ref b_1), .val (.ref b_3), .val (.ref b_5), .val (.ref b_7), .val (.ref b_9), .val (.ref b_11), .val (.ref b_13), .val (.ref b_15), .val (.ref b17), .val (.int (1 : Int32)), .val (.int (1 : Int32)), .val (.ref b_15), .val (.int (1 : Int32)), .val (.int (1 : Int32))] [(.int (1 : Int32))])) (fun _ k => XS.iload X51.here hx rfl (hb hby at_259) rfl k) ?_
        refine Go.step (T' := T51) (f' := (mkF m 264 #[.val (.int p1), .val (.int p2), .val (.int p3), .val (.int p4), .val (.int p5), .val (.int (p1 &&& (3 : Int32))), .val (.ref b_1), .val (.ref b_3), .val (.ref b_5), .val (.ref b_7), .val (.ref b_9), .val (.ref b_11), .val (.ref b_13), .val (.ref b_15), .val (.ref b17), .val (.int (1 : Int32)), .val (.int (1 : Int32)), .val (.ref b_15), .val (.int (1 : Int32)), .val (.int (1 : Int32))] [])) (fun _ k => XS.ifNo X51.here hx rfl (hb hby at_261) rfl ((if0 _ _).trans (feq (by decide : ¬ ((1 : Int32) = (0 : Int32)))).1) k) ?_
        refine Go.step (T' := T51) (f' := (mkF m 266 #[.val (.int p1), .val (.int p2), .val (.int p3), .val (.int p4), .val (.int p5), .val (.int (p1 &&& (3 : Int32))), .val (.ref b_1), .val (.ref b_3), .val (.ref b_5), .val (.ref b_7), .val (.ref b_9), .val (.ref b_11), .val (.ref b_13), .val (.ref b_15), .val (.ref b17), .val (.int (1 : Int32)), .val (.int (1 : Int32)), .val (.ref b_15), .val (.int (1 : Int32)), .val (.int (1 : Int32))] [(.int (1 : Int32))])) (fun _ k => XS.iload X51.here hx rfl (hb hby at_264) rfl k) ?_
        refine Go.step (T' := T51) (f' := (mkF m 269 #[.val (.int p1), .val (.int p2), .val (.int p3), .val (.int p4), .val (.int p5), .val (.int (p1 &&& (3 : Int32))), .val (.ref b_1), .val (.ref b_3), .val (.ref b_5), .val (.ref b_7), .val (.ref b_9), .val (.ref b_11), .val (.ref b_13), .val (.ref b_15), .val (.ref b17), .val (.int (1 : Int32)), .val (.int (1 : Int32)), .val (.ref b_15), .val (.int (1 : Int32)), .val (.int (1 : Int32))] [])) (fun _ k => XS.ifNo X51.here hx rfl (hb hby at_266) rfl ((if0 _ _).trans (feq (by decide : ¬ ((1 : Int32) = (0 : Int32)))).1) k) ?_
        refine Go.step (T' := T51) (f' := (mkF m 271 #[.val (.int p1), .val (.int p2), .val (.int p3), .val (.int p4), .val (.int p5), .val (.int (p1 &&& (3 : Int32))), .val (.ref b_1), .val (.ref b_3), .val (.ref b_5), .val (.ref b_7), .val (.ref b_9), .val (.ref b_11), .val (.ref b_13), .val (.ref b_15), .val (.ref b17), .val (.int (1 : Int32)), .val (.int (1 : Int32)), .val (.ref b_15), .val (.int (1 : Int32)), .val (.int (1 : Int32))] [(.int (1 : Int32))])) (fun _ k => XS.iload X51.here hx rfl (hb hby at_269) rfl k) ?_
        refine Go.step (T' := T51) (f' := (mkF m 274 #[.val (.int p1), .val (.int p2), .val (.int p3), .val (.int p4), .val (.int p5), .val (.int (p1 &&& (3 : Int32))), .val (.ref b_1), .val (.ref b_3), .val (.ref b_5), .val (.ref b_7), .val (.ref b_9), .val (.ref b_11), .val (.ref b_13), .val (.ref b_15), .val (.ref b17), .val (.int (1 : Int32)), .val (.int (1 : Int32)), .val (.ref b_15), .val (.int (1 : Int32)), .val (.int (1 : Int32))] [])) (fun _ k => XS.ifNo X51.here hx rfl (hb hby at_271) rfl ((if0 _ _).trans (feq (by decide : ¬ ((1 : Int32) = (0 : Int32)))).1) k) ?_
        refine Go.step (T' := T51) (f' := (mkF m 275 #[.val (.int p1), .val (.int p2), .val (.int p3), .val (.int p4), .val (.int p5), .val (.int (p1 &&& (3 : Int32))), .val (.ref b_1), .val (.ref b_3), .val (.ref b_5), .val (.ref b_7), .val (.ref b_9), .val (.ref b_11), .val (.ref b_13), .val (.ref b_15), .val (.ref b17), .val (.int (1 : Int32)), .val (.int (1 : Int32)), .val (.ref b_15), .val (.int (1 : Int32)), .val (.int (1 : Int32))] [(.int (1 : Int32))])) (fun _ k => XS.iconst X51.here hx rfl (hb hby at_274) k) ?_
        refine Go.step (T' := T51) (f' := (mkF m 279 #[.val (.int p1), .val (.int p2), .val (.int p3), .val (.int p4), .val (.int p5), .val (.int (p1 &&& (3 : Int32))), .val (.ref b_1), .val (.ref b_3), .val (.ref b_5), .val (.ref b_7), .val (.ref b_9), .val (.ref b_11), .val (.ref b_13), .val (.ref b_15), .val (.ref b17), .val (.int (1 : Int32)), .val (.int (1 : Int32)), .val (.ref b_15), .val (.int (1 : Int32)), .val (.int (1 : Int32))] [(.int (1 : Int32))])) (fun _ k => XS.goto X51.here hx rfl (pc0 := 275) (pc' := 279) rfl (hb hby at_275) (by decide) (by decide) k) ?_
        refine goN X51 hx (t := .boolean) Bd.returns (by simp) Bd.notSynchronized (hb hby at_279) ?_ (by decide) (by decide)
        show Q_rm0 Z p1 p2 p3 p4 p5 cs h0 n0 _ T51.heap _
        rw [eh51]
        exact ⟨rfl, N51⟩
      · refine Go.step (T' := T26) (f' := (mkF m 160 #[.val (.int p1), .val (.int p2), .val (.int p3), .val (.int p4), .val (.int p5), .val (.int (p1 &&& (3 : Int32))), .val (.ref b_1), .val (.ref b_3), .val (.ref b_5), .val (.ref b_7), .val (.ref b_9), .val (.ref b_11), .val (.ref b_13), .val (.ref b_15), .val (.ref b17), .unset, .unset, .unset, .unset, .unset] [])) (fun _ k => XS.icmpYes X26.here hx rfl (pc0 := 148) (pc' := 160) rfl (hb hby at_148) rfl (flt hc148).2.2.2 (by decide) (by decide) k) ?_
        refine Go.step (T' := T26) (f' := (mkF m 162 #[.val (.int p1), .val (.int p2), .val (.int p3), .val (.int p4), .val (.int p5), .val (.int (p1 &&& (3 : Int32))), .val (.ref b_1), .val (.ref b_3), .val (.ref b_5), .val (.ref b_7), .val (.ref b_9), .val (.ref b_11), .val (.ref b_13), .val (.ref b_15), .val (.ref b17), .unset, .unset, .unset, .unset, .unset] [(.ref b17)])) (fun _ k => XS.aload X26.here hx rfl (hb hby at_160) rfl rfl k) ?_
        have q53 : Exa Z T26.heap b17 "com/example/tenderbook/tenderbook/Fields" := (q27.keep Kq26)
        obtain ⟨cq52, kq52, q52a, q52b, q52c⟩ := isOf hZ rfl q53
        obtain ⟨_, _, ⟨T52, L52, k52, n52⟩, -, X52, ⟨Lc52, hQ52, l52, y52, z52⟩, st52⟩ := X26.virtualBack hx (y := (⟨"com/example/tenderbook/tenderbook/Fields", "clear", "()V"⟩ : MethodName)) (z := (⟨"com/example/tenderbook/tenderbook/Fields", "clear", "()V"⟩ : MethodName)) hown (mvT hZ (hw _ (List.mem_of_getElem? (i := 39) rfl))) (mvT hZ (hw _ (List.mem_of_getElem? (i := 40) rfl))) (notFace_of_selects (args := #[]) (mvT hZ (hw _ (List.mem_of_getElem? (i := 42) rfl)))) (mvT hZ (hw _ (List.mem_of_getElem? (i := 42) rfl))) (mvT hZ (hw _ (List.mem_of_getElem? (i := 41) rfl))) (by decide) (backOf (W := 0) (rmClr2 l Z a0 hw [] b17 n_19 v_19 kn_19 kv_19 (.ref b_1) (.ref b_5) (.ref b_3) (.ref b_7) T26.heap n0 Z30 q53 r26_0 r26_1 r26_2 r26_3 r26_4 (Ne.symm (Nat.ne_of_lt (Nat.lt_of_lt_of_le A17.lt r19_0))) (Ne.symm (Nat.ne_of_lt (Nat.lt_of_lt_of_le A17.lt r19_1))) r19_2 g_b17 g_n_19 g_v_19) hZ (hw _ (List.mem_of_getElem? (i := 43) rfl)) (hw _ (List.mem_of_getElem? (i := 28) rfl)) (by decide) (by decide)) q52a q52c (g := (mkF m 162 #[.val (.int p1), .val (.int p2), .val (.int p3), .val (.int p4), .val (.int p5), .val (.int (p1 &&& (3 : Int32))), .val (.ref b_1), .val (.ref b_3), .val (.ref b_5), .val (.ref b_7), .val (.ref b_9), .val (.ref b_11), .val (.ref b_13), .val (.ref b_15), .val (.ref b17), .unset, .unset, .unset, .unset, .unset] [(.ref b17)])) rfl (by rw [hml]; rfl) (Steps.refl _) (argsL := []) (rest := []) (lenOf pd_7 rfl) rfl (by show 2 * 0 + _ ≤ _; exact Nat.le_of_eq rfl) (hb hby at_162) (fun _ _ => ⟨rfl, rfl, (by decide : 19 + 0 ≤ _), (by decide : 59 + 0 ≤ _)⟩)
        dsimp only [Pt.U, Pt.locs, Pt.cells, Pt.slots] at X52 l52 y52 z52 st52 hQ52
        subst l52 y52 z52
        obtain ⟨rfl, Nq52, Kq52, r52_0, r52_1, r52_2, r52_3, r52_4⟩ := hQ52
        have N52 := Fr.app N26 Nq52
        have Z54 : n0 ≤ T52.heap.size := Nat.le_trans Z30 Kq52.1
        have O54 : Old Z n0 T52.heap := O30.keep Kq52 (allS g_b17 (allS g_n_19 (allS g_v_19 all0)))
        refine Go.step (T' := T52) (f' := (mkF m 165 #[.val (.int p1), .val (.int p2), .val (.int p3), .val (.int p4), .val (.int p5), .val (.int (p1 &&& (3 : Int32))), .val (.ref b_1), .val (.ref b_3), .val (.ref b_5), .val (.ref b_7), .val (.ref b_9), .val (.ref b_11), .val (.ref b_13), .val (.ref b_15), .val (.ref b17), .unset, .unset, .unset, .unset, .unset] [])) (fun _ k => st52.trans k) ?_
        refine Go.step (T' := T52) (f' := (mkF m 167 #[.val (.int p1), .val (.int p2), .val (.int p3), .val (.int p4), .val (.int p5), .val (.int (p1 &&& (3 : Int32))), .val (.ref b_1), .val (.ref b_3), .val (.ref b_5), .val (.ref b_7), .val (.ref b_9), .val (.ref b_11), .val (.ref b_13), .val (.ref b_15), .val (.ref b17), .unset, .unset, .unset, .unset, .unset] [(.ref b17)])) (fun _ k => XS.aload X52.here hx rfl (hb hby at_165) rfl rfl k) ?_
        have q56 : Exa Z T52.heap b17 "com/example/tenderbook/tenderbook/Fields" := (q53.keep Kq52)
        obtain ⟨cq55, kq55, q55a, q55b, q55c⟩ := isOf hZ rfl q56
        obtain ⟨_, _, ⟨T55, L55, k55, n55⟩, -, X55, ⟨Lc55, hQ55, l55, y55, z55⟩, st55⟩ := X52.virtualBack hx (y := (⟨"com/example/tenderbook/tenderbook/Fields", "size", "()I"⟩ : MethodName)) (z := (⟨"com/example/tenderbook/tenderbook/Fields", "size", "()I"⟩ : MethodName)) hown (mvT hZ (hw _ (List.mem_of_getElem? (i := 53) rfl))) (mvT hZ (hw _ (List.mem_of_getElem? (i := 54) rfl))) (notFace_of_selects (args := #[]) (mvT hZ (hw _ (List.mem_of_getElem? (i := 56) rfl)))) (mvT hZ (hw _ (List.mem_of_getElem? (i := 56) rfl))) (mvT hZ (hw _ (List.mem_of_getElem? (i := 55) rfl))) (by decide) (backOf (W := 0) (rm10 l Z a0 hw [] b17 (0 : Int32) T52.heap n0 Z54 r52_2) hZ (hw _ (List.mem_of_getElem? (i := 57) rfl)) (hw _ (List.mem_of_getElem? (i := 28) rfl)) (by decide) (by decide)) q55a q55c (g := (mkF m 167 #[.val (.int p1), .val (.int p2), .val (.int p3), .val (.int p4), .val (.int p5), .val (.int (p1 &&& (3 : Int32))), .val (.ref b_1), .val (.ref b_3), .val (.ref b_5), .val (.ref b_7), .val (.ref b_9), .val (.ref b_11), .val (.ref b_13), .val (.ref b_15), .val (.ref b17), .unset, .unset, .unset, .unset, .unset] [(.ref b17)])) rfl (by rw [hml]; rfl) (Steps.refl _) (argsL := []) (rest := []) (lenOf pd_9 rfl) rfl (by show 2 * 0 + _ ≤ _; exact Nat.le_of_eq rfl) (hb hby at_167) (fun _ _ => ⟨rfl, rfl, (by decide : 19 + 0 ≤ _), (by decide : 59 + 0 ≤ _)⟩)
        dsimp only [Pt.U, Pt.locs, Pt.cells, Pt.slots] at X55 l55 y55 z55 st55 hQ55
        subst l55 y55 z55
        obtain ⟨rfl, Nq55, eh55⟩ := hQ55
        have N55 := Fr.app N52 Nq55
        refine Go.step (T' := T55) (f' := (mkF m 170 #[.val (.int p1), .val (.int p2), .val (.int p3), .val (.int p4), .val (.int p5), .val (.int (p1 &&& (3 : Int32))), .val (.ref b_1), .val (.ref b_3), .val (.ref b_5), .val (.ref b_7), .val (.ref b_9), .val (.ref b_11), .val (.ref b_13), .val (.ref b_15), .val (.ref b17), .unset, .unset, .unset, .unset, .unset] [(.int (0 : Int32))])) (fun _ k => st55.trans k) ?_
        refine Go.step (T' := T55) (f' := (mkF m 173 #[.val (.int p1), .val (.int p2), .val (.int p3), .val (.int p4), .val (.int p5), .val (.int (p1 &&& (3 : Int32))), .val (.ref b_1), .val (.ref b_3), .val (.ref b_5), .val (.ref b_7), .val (.ref b_9), .val (.ref b_11), .val (.ref b_13), .val (.ref b_15), .val (.ref b17), .unset, .unset, .unset, .unset, .unset] [])) (fun _ k => XS.ifNo X55.here hx rfl (hb hby at_170) rfl ((if0 _ _).trans (teq (by decide : (0 : Int32) = (0 : Int32))).2) k) ?_
        refine Go.step (T' := T55) (f' := (mkF m 174 #[.val (.int p1), .val (.int p2), .val (.int p3), .val (.int p4), .val (.int p5), .val (.int (p1 &&& (3 : Int32))), .val (.ref b_1), .val (.ref b_3), .val (.ref b_5), .val (.ref b_7), .val (.ref b_9), .val (.ref b_11), .val (.ref b_13), .val (.ref b_15), .val (.ref b17), .unset, .unset, .unset, .unset, .unset] [(.int (1 : Int32))])) (fun _ k => XS.iconst X55.here hx rfl (hb hby at_173) k) ?_
        refine Go.step (T' := T55) (f' := (mkF m 178 #[.val (.int p1), .val (.int p2), .val (.int p3), .val (.int p4), .val (.int p5), .val (.int (p1 &&& (3 : Int32))), .val (.ref b_1), .val (.ref b_3), .val (.ref b_5), .val (.ref b_7), .val (.ref b_9), .val (.ref b_11), .val (.ref b_13), .val (.ref b_15), .val (.ref b17), .unset, .unset, .unset, .unset, .unset] [(.int (1 : Int32))])) (fun _ k => XS.goto X55.here hx rfl (pc0 := 174) (pc' := 178) rfl (hb hby at_174) (by decide) (by decide) k) ?_
        refine Go.step (T' := T55) (f' := (mkF m 180 #[.val (.int p1), .val (.int p2), .val (.int p3), .val (.int p4), .val (.int p5), .val (.int (p1 &&& (3 : Int32))), .val (.ref b_1), .val (.ref b_3), .val (.ref b_5), .val (.ref b_7), .val (.ref b_9), .val (.ref b_11), .val (.ref b_13), .val (.ref b_15), .val (.ref b17), .val (.int (1 : Int32)), .unset, .unset, .unset, .unset] [])) (fun _ k => XS.istore X55.here hx rfl (hb hby at_178) rfl (l' := #[.val (.int p1), .val (.int p2), .val (.int p3), .val (.int p4), .val (.int p5), .val (.int (p1 &&& (3 : Int32))), .val (.ref b_1), .val (.ref b_3), .val (.ref b_5), .val (.ref b_7), .val (.ref b_9), .val (.ref b_11), .val (.ref b_13), .val (.ref b_15), .val (.ref b17), .val (.int (1 : Int32)), .unset, .unset, .unset, .unset]) rfl k) ?_
        refine Go.step (T' := T55) (f' := (mkF m 182 #[.val (.int p1), .val (.int p2), .val (.int p3), .val (.int p4), .val (.int p5), .val (.int (p1 &&& (3 : Int32))), .val (.ref b_1), .val (.ref b_3), .val (.ref b_5), .val (.ref b_7), .val (.ref b_9), .val (.ref b_11), .val (.ref b_13), .val (.ref b_15), .val (.ref b17), .val (.int (1 : Int32)), .unset, .unset, .unset, .unset] [(.ref b17)])) (fun _ k => XS.aload X55.here hx rfl (hb hby at_180) rfl rfl k) ?_
        refine Go.step (T' := T55) (f' := (mkF m 184 #[.val (.int p1), .val (.int p2), .val (.int p3), .val (.int p4), .val (.int p5), .val (.int (p1 &&& (3 : Int32))), .val (.ref b_1), .val (.ref b_3), .val (.ref b_5), .val (.ref b_7), .val (.ref b_9), .val (.ref b_11), .val (.ref b_13), .val (.ref b_15), .val (.ref b17), .val (.int (1 : Int32)), .unset, .unset, .unset, .unset] [(.ref b_13), (.ref b17)])) (fun _ k => XS.aload X55.here hx rfl (hb hby at_182) rfl rfl k) ?_
        refine Go.step (T' := T55) (f' := (mkF m 186 #[.val (.int p1), .val (.int p2), .val (.int p3), .val (.int p4), .val (.int p5), .val (.int (p1 &&& (3 : Int32))), .val (.ref b_1), .val (.ref b_3), .val (.ref b_5), .val (.ref b_7), .val (.ref b_9), .val (.ref b_11), .val (.ref b_13), .val (.ref b_15), .val (.ref b17), .val (.int (1 : Int32)), .unset, .unset, .unset, .unset] [(.ref b_15), (.ref b_13), (.ref b17)])) (fun _ k => XS.aload X55.here hx rfl (hb hby at_184) rfl rfl k) ?_
        have q58 : Exa Z T52.heap b_13 "java/lang/String" := ((((((r13_1.keep Kq15).ext E17).keep Kq19).keep Kq21).keep Kq26).keep Kq52)
        have q59 : Exa Z T52.heap b_15 "java/lang/String" := (((((r15_1.ext E17).keep Kq19).keep Kq21).keep Kq26).keep Kq52)
        obtain ⟨cq57, kq57, q57a, q57b, q57c⟩ := isOf hZ eh55 q56
        obtain ⟨_, _, ⟨T57, L57, k57, n57⟩, -, X57, ⟨Lc57, hQ57, l57, y57, z57⟩, st57⟩ := X55.virtualBack hx (y := (⟨"com/example/tenderbook/tenderbook/Fields", "add", "(Ljava/lang/String;Ljava/lang/String;)V"⟩ : MethodName)) (z := (⟨"com/example/tenderbook/tenderbook/Fields", "add", "(Ljava/lang/String;Ljava/lang/String;)V"⟩ : MethodName)) hown (mvT hZ (hw _ (List.mem_of_getElem? (i := 58) rfl))) (mvT hZ (hw _ (List.mem_of_getElem? (i := 59) rfl))) (notFace_of_selects (args := #[]) (mvT hZ (hw _ (List.mem_of_getElem? (i := 61) rfl)))) (mvT hZ (hw _ (List.mem_of_getElem? (i := 61) rfl))) (mvT hZ (hw _ (List.mem_of_getElem? (i := 60) rfl))) (by decide) (backOf (W := 0) (rmAdd0 l Z a0 hw [] b17 b_13 b_15 n_19 v_19 kn_19 kv_19 T52.heap n0 Z54 q56 q58 q59 r52_0 r52_1 r52_2 r52_3 r52_4 (Ne.symm (Nat.ne_of_lt (Nat.lt_of_lt_of_le A17.lt r19_0))) (Ne.symm (Nat.ne_of_lt (Nat.lt_of_lt_of_le A17.lt r19_1))) r19_2 r19_3 r19_4 g_b17 g_n_19 g_v_19) hZ (hw _ (List.mem_of_getElem? (i := 62) rfl)) (hw _ (List.mem_of_getElem? (i := 28) rfl)) (by decide) (by decide)) q57a q57c (g := (mkF m 186 #[.val (.int p1), .val (.int p2), .val (.int p3), .val (.int p4), .val (.int p5), .val (.int (p1 &&& (3 : Int32))), .val (.ref b_1), .val (.ref b_3), .val (.ref b_5), .val (.ref b_7), .val (.ref b_9), .val (.ref b_11), .val (.ref b_13), .val (.ref b_15), .val (.ref b17), .val (.int (1 : Int32)), .unset, .unset, .unset, .unset] [(.ref b_15), (.ref b_13), (.ref b17)])) rfl (by rw [hml]; rfl) (Steps.refl _) (argsL := [(.ref b_13), (.ref b_15)]) (rest := []) (lenOf pd_8 rfl) rfl (by show 2 * 0 + _ ≤ _; exact Nat.le_of_eq rfl) (hb hby at_186) (fun _ _ => ⟨rfl, eh55, (by decide : 19 + 0 ≤ _), (by decide : 59 + 0 ≤ _)⟩)
        dsimp only [Pt.U, Pt.locs, Pt.cells, Pt.slots] at X57 l57 y57 z57 st57 hQ57
        subst l57 y57 z57
        obtain ⟨rfl, Nq57, Kq57, r57_0, r57_1, r57_2, r57_3, r57_4⟩ := hQ57
        have N57 := Fr.app N55 Nq57
        have Z60 : n0 ≤ T57.heap.size := Nat.le_trans Z54 Kq57.1
        have O60 : Old Z n0 T57.heap := O54.keep Kq57 (allS g_b17 (allS g_n_19 (allS g_v_19 all0)))
        refine Go.step (T' := T57) (f' := (mkF m 189 #[.val (.int p1), .val (.int p2), .val (.int p3), .val (.int p4), .val (.int p5), .val (.int (p1 &&& (3 : Int32))), .val (.ref b_1), .val (.ref b_3), .val (.ref b_5), .val (.ref b_7), .val (.ref b_9), .val (.ref b_11), .val (.ref b_13), .val (.ref b_15), .val (.ref b17), .val (.int (1 : Int32)), .unset, .unset, .unset, .unset] [])) (fun _ k => st57.trans k) ?_
        refine Go.step (T' := T57) (f' := (mkF m 191 #[.val (.int p1), .val (.int p2), .val (.int p3), .val (.int p4), .val (.int p5), .val (.int (p1 &&& (3 : Int32))), .val (.ref b_1), .val (.ref b_3), .val (.ref b_5), .val (.ref b_7), .val (.ref b_9), .val (.ref b_11), .val (.ref b_13), .val (.ref b_15), .val (.ref b17), .val (.int (1 : Int32)), .unset, .unset, .unset, .unset] [(.ref b17)])) (fun _ k => XS.aload X57.here hx rfl (hb hby at_189) rfl rfl k) ?_
        have q62 : Exa Z T57.heap b17 "com/example/tenderbook/tenderbook/Fields" := (q56.keep Kq57)
        obtain ⟨cq61, kq61, q61a, q61b, q61c⟩ := isOf hZ rfl q62
        obtain ⟨_, _, ⟨T61, L61, k61, n61⟩, -, X61, ⟨Lc61, hQ61, l61, y61, z61⟩, st61⟩ := X57.virtualBack hx (y := (⟨"com/example/tenderbook/tenderbook/Fields", "size", "()I"⟩ : MethodName)) (z := (⟨"com/example/tenderbook/tenderbook/Fields", "size", "()I"⟩ : MethodName)) hown (mvT hZ (hw _ (List.mem_of_getElem? (i := 53) rfl))) (mvT hZ (hw _ (List.mem_of_getElem? (i := 54) rfl))) (notFace_of_selects (args := #[]) (mvT hZ (hw _ (List.mem_of_getElem? (i := 56) rfl)))) (mvT hZ (hw _ (List.mem_of_getElem? (i := 56) rfl))) (mvT hZ (hw _ (List.mem_of_getElem? (i := 55) rfl))) (by decide) (backOf (W := 0) (rm10 l Z a0 hw [] b17 (1 : Int32) T57.heap n0 Z60 r57_2) hZ (hw _ (List.mem_of_getElem? (i := 57) rfl)) (hw _ (List.mem_of_getElem? (i := 28) rfl)) (by decide) (by decide)) q61a q61c (g := (mkF m 191 #[.val (.int p1), .val (.int p2), .val (.int p3), .val (.int p4), .val (.int p5), .val (.int (p1 &&& (3 : Int32))), .val (.ref b_1), .val (.ref b_3), .val (.ref b_5), .val (.ref b_7), .val (.ref b_9), .val (.ref b_11), .val (.ref b_13), .val (.ref b_15), .val (.ref b17), .val (.int (1 : Int32)), .unset, .unset, .unset, .unset] [(.ref b17)])) rfl (by rw [hml]; rfl) (Steps.refl _) (argsL := []) (rest := []) (lenOf pd_9 rfl) rfl (by show 2 * 0 + _ ≤ _; exact Nat.le_of_eq rfl) (hb hby at_191) (fun _ _ => ⟨rfl, rfl, (by decide : 19 + 0 ≤ _), (by decide : 59 + 0 ≤ _)⟩)
        dsimp only [Pt.U, Pt.locs, Pt.cells, Pt.slots] at X61 l61 y61 z61 st61 hQ61
        subst l61 y61 z61
        obtain ⟨rfl, Nq61, eh61⟩ := hQ61
        have N61 := Fr.app N57 Nq61
        refine Go.step (T' := T61) (f' := (mkF m 194 #[.val (.int p1), .val (.int p2), .val (.int p3), .val (.int p4), .val (.int p5), .val (.int (p1 &&& (3 : Int32))), .val (.ref b_1), .val (.ref b_3), .val (.ref b_5), .val (.ref b_7), .val (.ref b_9), .val (.ref b_11), .val (.ref b_13), .val (.ref b_15), .val (.ref b17), .val (.int (1 : Int32)), .unset, .unset, .unset, .unset] [(.int (1 : Int32))])) (fun _ k => st61.trans k) ?_
        refine Go.step (T' := T61) (f' := (mkF m 195 #[.val (.int p1), .val (.int p2), .val (.int p3), .val (.int p4), .val (.int p5), .val (.int (p1 &&& (3 : Int32))), .val (.ref b_1), .val (.ref b_3), .val (.ref b_5), .val (.ref b_7), .val (.ref b_9), .val (.ref b_11), .val (.ref b_13), .val (.ref b_15), .val (.ref b17), .val (.int (1 : Int32)), .unset, .unset, .unset, .unset] [(.int (1 : Int32)), (.int (1 : Int32))])) (fun _ k => XS.iconst X61.here hx rfl (hb hby at_194) k) ?_
        refine Go.step (T' := T61) (f' := (mkF m 198 #[.val (.int p1), .val (.int p2), .val (.int p3), .val (.int p4), .val (.int p5), .val (.int (p1 &&& (3 : Int32))), .val (.ref b_1), .val (.ref b_3), .val (.ref b_5), .val (.ref b_7), .val (.ref b_9), .val (.ref b_11), .val (.ref b_13), .val (.ref b_15), .val (.ref b17), .val (.int (1 : Int32)), .unset, .unset, .unset, .unset] [])) (fun _ k => XS.icmpNo X61.here hx rfl (hb hby at_195) rfl (teq (by decide : (1 : Int32) = (1 : Int32))).2 k) ?_
        refine Go.step (T' := T61) (f' := (mkF m 199 #[.val (.int p1), .val (.int p2), .val (.int p3), .val (.int p4), .val (.int p5), .val (.int (p1 &&& (3 : Int32))), .val (.ref b_1), .val (.ref b_3), .val (.ref b_5), .val (.ref b_7), .val (.ref b_9), .val (.ref b_11), .val (.ref b_13), .val (.ref b_15), .val (.ref b17), .val (.int (1 : Int32)), .unset, .unset, .unset, .unset] [(.int (1 : Int32))])) (fun _ k => XS.iconst X61.here hx rfl (hb hby at_198) k) ?_
        refine Go.step (T' := T61) (f' := (mkF m 203 #[.val (.int p1), .val (.int p2), .val (.int p3), .val (.int p4), .val (.int p5), .val (.int (p1 &&& (3 : Int32))), .val (.ref b_1), .val (.ref b_3), .val (.ref b_5), .val (.ref b_7), .val (.ref b_9), .val (.ref b_11), .val (.ref b_13), .val (.ref b_15), .val (.ref b17), .val (.int (1 : Int32)), .unset, .unset, .unset, .unset] [(.int (1 : Int32))])) (fun _ k => XS.goto X61.here hx rfl (pc0 := 199) (pc' := 203) rfl (hb hby at_199) (by decide) (by decide) k) ?_
        refine Go.step (T' := T61) (f' := (mkF m 205 #[.val (.int p1), .val (.int p2), .val (.int p3), .val (.int p4), .val (.int p5), .val (.int (p1 &&& (3 : Int32))), .val (.ref b_1), .val (.ref b_3), .val (.ref b_5), .val (.ref b_7), .val (.ref b_9), .val (.ref b_11), .val (.ref b_13), .val (.ref b_15), .val (.ref b17), .val (.int (1 : Int32)), .val (.int (1 : Int32)), .unset, .unset, .unset] [])) (fun _ k => XS.istore X61.here hx rfl (hb hby at_203) rfl (l' := #[.val (.int p1), .val (.int p2), .val (.int p3), .val (.int p4), .val (.int p5), .val (.int (p1 &&& (3 : Int32))), .val (.ref b_1), .val (.ref b_3), .val (.ref b_5), .val (.ref b_7), .val (.ref b_9), .val (.ref b_11), .val (.ref b_13), .val (.ref b_15), .val (.ref b17), .val (.int (1 : Int32)), .val (.int (1 : Int32)), .unset, .unset, .unset]) rfl k) ?_
        refine Go.step (T' := T61) (f' := (mkF m 207 #[.val (.int p1), .val (.int p2), .val (.int p3), .val (.int p4), .val (.int p5), .val (.int (p1 &&& (3 : Int32))), .val (.ref b_1), .val (.ref b_3), .val (.ref b_5), .val (.ref b_7), .val (.ref b_9), .val (.ref b_11), .val (.ref b_13), .val (.ref b_15), .val (.ref b17), .val (.int (1 : Int32)), .val (.int (1 : Int32)), .unset, .unset, .unset] [(.ref b17)])) (fun _ k => XS.aload X61.here hx rfl (hb hby at_205) rfl rfl k) ?_
        refine Go.step (T' := T61) (f' := (mkF m 209 #[.val (.int p1), .val (.int p2), .val (.int p3), .val (.int p4), .val (.int p5), .val (.int (p1 &&& (3 : Int32))), .val (.ref b_1), .val (.ref b_3), .val (.ref b_5), .val (.ref b_7), .val (.ref b_9), .val (.ref b_11), .val (.ref b_13), .val (.ref b_15), .val (.ref b17), .val (.int (1 : Int32)), .val (.int (1 : Int32)), .unset, .unset, .unset] [(.ref b_13), (.ref b17)])) (fun _ k => XS.aload X61.here hx rfl (hb hby at_207) rfl rfl k) ?_
        have q64 : Exa Z T57.heap b_13 "java/lang/String" := (q58.keep Kq57)
        obtain ⟨cq63, kq63, q63a, q63b, q63c⟩ := isOf hZ eh61 q62
        obtain ⟨_, _, ⟨T63, L63, k63, n63⟩, -, X63, ⟨Lc63, hQ63, l63, y63, z63⟩, st63⟩ := X61.virtualBack hx (y := (⟨"com/example/tenderbook/tenderbook/Fields", "getFirst", "(Ljava/lang/String;)Ljava/lang/String;"⟩ : MethodName)) (z := (⟨"com/example/tenderbook/tenderbook/Fields", "getFirst", "(Ljava/lang/String;)Ljava/lang/String;"⟩ : MethodName)) hown (mvT hZ (hw _ (List.mem_of_getElem? (i := 63) rfl))) (mvT hZ (hw _ (List.mem_of_getElem? (i := 64) rfl))) (notFace_of_selects (args := #[]) (mvT hZ (hw _ (List.mem_of_getElem? (i := 66) rfl)))) (mvT hZ (hw _ (List.mem_of_getElem? (i := 66) rfl))) (mvT hZ (hw _ (List.mem_of_getElem? (i := 65) rfl))) (by decide) (backOf (W := 0) (rm12 l Z a0 hw [] b17 b_13 n_19 v_19 kn_19 kv_19 b_15 T57.heap n0 Z60 q64 r57_0 r57_1 r57_2 r57_3 r57_4) hZ (hw _ (List.mem_of_getElem? (i := 67) rfl)) (hw _ (List.mem_of_getElem? (i := 28) rfl)) (by decide) (by decide)) q63a q63c (g := (mkF m 209 #[.val (.int p1), .val (.int p2), .val (.int p3), .val (.int p4), .val (.int p5), .val (.int (p1 &&& (3 : Int32))), .val (.ref b_1), .val (.ref b_3), .val (.ref b_5), .val (.ref b_7), .val (.ref b_9), .val (.ref b_11), .val (.ref b_13), .val (.ref b_15), .val (.ref b17), .val (.int (1 : Int32)), .val (.int (1 : Int32)), .unset, .unset, .unset] [(.ref b_13), (.ref b17)])) rfl (by rw [hml]; rfl) (Steps.refl _) (argsL := [(.ref b_13)]) (rest := []) (lenOf pd_10 rfl) rfl (by show 2 * 0 + _ ≤ _; exact Nat.le_of_eq rfl) (hb hby at_209) (fun _ _ => ⟨rfl, eh61, (by decide : 19 + 0 ≤ _), (by decide : 59 + 0 ≤ _)⟩)
        dsimp only [Pt.U, Pt.locs, Pt.cells, Pt.slots] at X63 l63 y63 z63 st63 hQ63
        subst l63 y63 z63
        obtain ⟨rfl, Nq63, eh63⟩ := hQ63
        have N63 := Fr.app N61 Nq63
        refine Go.step (T' := T63) (f' := (mkF m 212 #[.val (.int p1), .val (.int p2), .val (.int p3), .val (.int p4), .val (.int p5), .val (.int (p1 &&& (3 : Int32))), .val (.ref b_1), .val (.ref b_3), .val (.ref b_5), .val (.ref b_7), .val (.ref b_9), .val (.ref b_11), .val (.ref b_13), .val (.ref b_15), .val (.ref b17), .val (.int (1 : Int32)), .val (.int (1 : Int32)), .unset, .unset, .unset] [(.ref b_15)])) (fun _ k => st63.trans k) ?_
        refine Go.step (T' := T63) (f' := (mkF m 214 #[.val (.int p1), .val (.int p2), .val (.int p3), .val (.int p4), .val (.int p5), .val (.int (p1 &&& (3 : Int32))), .val (.ref b_1), .val (.ref b_3), .val (.ref b_5), .val (.ref b_7), .val (.ref b_9), .val (.ref b_11), .val (.ref b_13), .val (.ref b_15), .val (.ref b17), .val (.int (1 : Int32)), .val (.int (1 : Int32)), .val (.ref b_15), .unset, .unset] [])) (fun _ k => XS.astore X63.here hx rfl (hb hby at_212) rfl rfl (l' := #[.val (.int p1), .val (.int p2), .val (.int p3), .val (.int p4), .val (.int p5), .val (.int (p1 &&& (3 : Int32))), .val (.ref b_1), .val (.ref b_3), .val (.ref b_5), .val (.ref b_7), .val (.ref b_9), .val (.ref b_11), .val (.ref b_13), .val (.ref b_15), .val (.ref b17), .val (.int (1 : Int32)), .val (.int (1 : Int32)), .val (.ref b_15), .unset, .unset]) rfl k) ?_
        refine Go.step (T' := T63) (f' := (mkF m 216 #[.val (.int p1), .val (.int p2), .val (.int p3), .val (.int p4), .val (.int p5), .val (.int (p1 &&& (3 : Int32))), .val (.ref b_1), .val (.ref b_3), .val (.ref b_5), .val (.ref b_7), .val (.ref b_9), .val (.ref b_11), .val (.ref b_13), .val (.ref b_15), .val (.ref b17), .val (.int (1 : Int32)), .val (.int (1 : Int32)), .val (.ref b_15), .unset, .unset] [(.ref b_15)])) (fun _ k => XS.aload X63.here hx rfl (hb hby at_214) rfl rfl k) ?_
        refine Go.step (T' := T63) (f' := (mkF m 219 #[.val (.int p1), .val (.int p2), .val (.int p3), .val (.int p4), .val (.int p5), .val (.int (p1 &&& (3 : Int32))), .val (.ref b_1), .val (.ref b_3), .val (.ref b_5), .val (.ref b_7), .val (.ref b_9), .val (.ref b_11), .val (.ref b_13), .val (.ref b_15), .val (.ref b17), .val (.int (1 : Int32)), .val (.int (1 : Int32)), .val (.ref b_15), .unset, .unset] [])) (fun _ k => XS.ifnullNo X63.here hx rfl (hb hby at_216) rfl k) ?_
        refine Go.step (T' := T63) (f' := (mkF m 221 #[.val (.int p1), .val (.int p2), .val (.int p3), .val (.int p4), .val (.int p5), .val (.int (p1 &&& (3 : Int32))), .val (.ref b_1), .val (.ref b_3), .val (.ref b_5), .val (.ref b_7), .val (.ref b_9), .val (.ref b_11), .val (.ref b_13), .val (.ref b_15), .val (.ref b17), .val (.int (1 : Int32)), .val (.int (1 : Int32)), .val (.ref b_15), .unset, .unset] [(.ref b_15)])) (fun _ k => XS.aload X63.here hx rfl (hb hby at_219) rfl rfl k) ?_
        refine Go.step (T' := T63) (f' := (mkF m 223 #[.val (.int p1), .val (.int p2), .val (.int p3), .val (.int p4), .val (.int p5), .val (.int (p1 &&& (3 : Int32))), .val (.ref b_1), .val (.ref b_3), .val (.ref b_5), .val (.ref b_7), .val (.ref b_9), .val (.ref b_11), .val (.ref b_13), .val (.ref b_15), .val (.ref b17), .val (.int (1 : Int32)), .val (.int (1 : Int32)), .val (.ref b_15), .unset, .unset] [(.ref b_15), (.ref b_15)])) (fun _ k => XS.aload X63.here hx rfl (hb hby at_221) rfl rfl k) ?_
        have q66 : Exa Z T57.heap b_15 "java/lang/String" := (q59.keep Kq57)
        obtain ⟨cq65, kq65, q65a, q65b, q65c⟩ := isOf hZ eh63 q66
        obtain ⟨_, _, ⟨T65, L65, k65, n65⟩, -, X65, ⟨Lc65, hQ65, l65, y65, z65⟩, st65⟩ := X63.virtualBack hx (y := (⟨"java/lang/String", "equals", "(Ljava/lang/Object;)Z"⟩ : MethodName)) (z := (⟨"java/lang/String", "equals", "(Ljava/lang/Object;)Z"⟩ : MethodName)) hown (mvT hZ (hw _ (List.mem_of_getElem? (i := 73) rfl))) (mvT hZ (hw _ (List.mem_of_getElem? (i := 74) rfl))) (notFace_of_selects (args := #[]) (mvT hZ (hw _ (List.mem_of_getElem? (i := 76) rfl)))) (mvT hZ (hw _ (List.mem_of_getElem? (i := 76) rfl))) (mvT hZ (hw _ (List.mem_of_getElem? (i := 75) rfl))) (by decide) (backOf (W := 0) (rm14 l Z a0 hw [] b_15 T57.heap n0 Z60 ) hZ (hw _ (List.mem_of_getElem? (i := 77) rfl)) (hw _ (List.mem_of_getElem? (i := 2) rfl)) (by decide) (by decide)) q65a q65c (g := (mkF m 223 #[.val (.int p1), .val (.int p2), .val (.int p3), .val (.int p4), .val (.int p5), .val (.int (p1 &&& (3 : Int32))), .val (.ref b_1), .val (.ref b_3), .val (.ref b_5), .val (.ref b_7), .val (.ref b_9), .val (.ref b_11), .val (.ref b_13), .val (.ref b_15), .val (.ref b17), .val (.int (1 : Int32)), .val (.int (1 : Int32)), .val (.ref b_15), .unset, .unset] [(.ref b_15), (.ref b_15)])) rfl (by rw [hml]; rfl) (Steps.refl _) (argsL := [(.ref b_15)]) (rest := []) (lenOf pd_11 rfl) rfl (by show 2 * 0 + _ ≤ _; exact Nat.le_of_eq rfl) (hb hby at_223) (fun _ _ => ⟨rfl, eh63, (by decide : 19 + 0 ≤ _), (by decide : 59 + 0 ≤ _)⟩)
        dsimp only [Pt.U, Pt.locs, Pt.cells, Pt.slots] at X65 l65 y65 z65 st65 hQ65
        subst l65 y65 z65
        obtain ⟨rfl, Nq65, eh65⟩ := hQ65
        have N65 := Fr.app N63 Nq65
        refine Go.step (T' := T65) (f' := (mkF m 226 #[.val (.int p1), .val (.int p2), .val (.int p3), .val (.int p4), .val (.int p5), .val (.int (p1 &&& (3 : Int32))), .val (.ref b_1), .val (.ref b_3), .val (.ref b_5), .val (.ref b_7), .val (.ref b_9), .val (.ref b_11), .val (.ref b_13), .val (.ref b_15), .val (.ref b17), .val (.int (1 : Int32)), .val (.int (1 : Int32)), .val (.ref b_15), .unset, .unset] [(.int (1 : Int32))])) (fun _ k => st65.trans k) ?_
        refine Go.step (T' := T65) (f' := (mkF m 229 #[.val (.int p1), .val (.int p2), .val (.int p3), .val (.int p4), .val (.int p5), .val (.int (p1 &&& (3 : Int32))), .val (.ref b_1), .val (.ref b_3), .val (.ref b_5), .val (.ref b_7), .val (.ref b_9), .val (.ref b_11), .val (.ref b_13), .val (.ref b_15), .val (.ref b17), .val (.int (1 : Int32)), .val (.int (1 : Int32)), .val (.ref b_15), .unset, .unset] [])) (fun _ k => XS.ifNo X65.here hx rfl (hb hby at_226) rfl ((if0 _ _).trans (feq (by decide : ¬ ((1 : Int32) = (0 : Int32)))).1) k) ?_
        refine Go.step (T' := T65) (f' := (mkF m 230 #[.val (.int p1), .val (.int p2), .val (.int p3), .val (.int p4), .val (.int p5), .val (.int (p1 &&& (3 : Int32))), .val (.ref b_1), .val (.ref b_3), .val (.ref b_5), .val (.ref b_7), .val (.ref b_9), .val (.ref b_11), .val (.ref b_13), .val (.ref b_15), .val (.ref b17), .val (.int (1 : Int32)), .val (.int (1 : Int32)), .val (.ref b_15), .unset, .unset] [(.int (1 : Int32))])) (fun _ k => XS.iconst X65.here hx rfl (hb hby at_229) k) ?_
        refine Go.step (T' := T65) (f' := (mkF m 234 #[.val (.int p1), .val (.int p2), .val (.int p3), .val (.int p4), .val (.int p5), .val (.int (p1 &&& (3 : Int32))), .val (.ref b_1), .val (.ref b_3), .val (.ref b_5), .val (.ref b_7), .val (.ref b_9), .val (.ref b_11), .val (.ref b_13), .val (.ref b_15), .val (.ref b17), .val (.int (1 : Int32)), .val (.int (1 : Int32)), .val (.ref b_15), .unset, .unset] [(.int (1 : Int32))])) (fun _ k => XS.goto X65.here hx rfl (pc0 := 230) (pc' := 234) rfl (hb hby at_230) (by decide) (by decide) k) ?_
        refine Go.step (T' := T65) (f' := (mkF m 236 #[.val (.int p1), .val (.int p2), .val (.int p3), .val (.int p4), .val (.int p5), .val (.int (p1 &&& (3 : Int32))), .val (.ref b_1), .val (.ref b_3), .val (.ref b_5), .val (.ref b_7), .val (.ref b_9), .val (.ref b_11), .val (.ref b_13), .val (.ref b_15), .val (.ref b17), .val (.int (1 : Int32)), .val (.int (1 : Int32)), .val (.ref b_15), .val (.int (1 : Int32)), .unset] [])) (fun _ k => XS.istore X65.here hx rfl (hb hby at_234) rfl (l' := #[.val (.int p1), .val (.int p2), .val (.int p3), .val (.int p4), .val (.int p5), .val (.int (p1 &&& (3 : Int32))), .val (.ref b_1), .val (.ref b_3), .val (.ref b_5), .val (.ref b_7), .val (.ref b_9), .val (.ref b_11), .val (.ref b_13), .val (.ref b_15), .val (.ref b17), .val (.int (1 : Int32)), .val (.int (1 : Int32)), .val (.ref b_15), .val (.int (1 : Int32)), .unset]) rfl k) ?_
        refine Go.step (T' := T65) (f' := (mkF m 238 #[.val (.int p1), .val (.int p2), .val (.int p3), .val (.int p4), .val (.int p5), .val (.int (p1 &&& (3 : Int32))), .val (.ref b_1), .val (.ref b_3), .val (.ref b_5), .val (.ref b_7), .val (.ref b_9), .val (.ref b_11), .val (.ref b_13), .val (.ref b_15), .val (.ref b17), .val (.int (1 : Int32)), .val (.int (1 : Int32)), .val (.ref b_15), .val (.int (1 : Int32)), .unset] [(.ref b17)])) (fun _ k => XS.aload X65.here hx rfl (hb hby at_236) rfl rfl k) ?_
        refine Go.step (T' := T65) (f' := (mkF m 239 #[.val (.int p1), .val (.int p2), .val (.int p3), .val (.int p4), .val (.int p5), .val (.int (p1 &&& (3 : Int32))), .val (.ref b_1), .val (.ref b_3), .val (.ref b_5), .val (.ref b_7), .val (.ref b_9), .val (.ref b_11), .val (.ref b_13), .val (.ref b_15), .val (.ref b17), .val (.int (1 : Int32)), .val (.int (1 : Int32)), .val (.ref b_15), .val (.int (1 : Int32)), .unset] [(.int (0 : Int32)), (.ref b17)])) (fun _ k => XS.iconst X65.here hx rfl (hb hby at_238) k) ?_
        obtain ⟨cq67, kq67, q67a, q67b, q67c⟩ := isOf hZ eh65 q62
        obtain ⟨_, _, ⟨T67, L67, k67, n67⟩, -, X67, ⟨Lc67, hQ67, l67, y67, z67⟩, st67⟩ := X65.virtualBack hx (y := (⟨"com/example/tenderbook/tenderbook/Fields", "name", "(I)Ljava/lang/String;"⟩ : MethodName)) (z := (⟨"com/example/tenderbook/tenderbook/Fields", "name", "(I)Ljava/lang/String;"⟩ : MethodName)) hown (mvT hZ (hw _ (List.mem_of_getElem? (i := 78) rfl))) (mvT hZ (hw _ (List.mem_of_getElem? (i := 79) rfl))) (notFace_of_selects (args := #[]) (mvT hZ (hw _ (List.mem_of_getElem? (i := 81) rfl)))) (mvT hZ (hw _ (List.mem_of_getElem? (i := 81) rfl))) (mvT hZ (hw _ (List.mem_of_getElem? (i := 80) rfl))) (by decide) (backOf (W := 0) (rm15 l Z a0 hw [] b17 n_19 kn_19 b_13 T57.heap n0 Z60 r57_0 r57_3) hZ (hw _ (List.mem_of_getElem? (i := 82) rfl)) (hw _ (List.mem_of_getElem? (i := 28) rfl)) (by decide) (by decide)) q67a q67c (g := (mkF m 239 #[.val (.int p1), .val (.int p2), .val (.int p3), .val (.int p4), .val (.int p5), .val (.int (p1 &&& (3 : Int32))), .val (.ref b_1), .val (.ref b_3), .val (.ref b_5), .val (.ref b_7), .val (.ref b_9), .val (.ref b_11), .val (.ref b_13), .val (.ref b_15), .val (.ref b17), .val (.int (1 : Int32)), .val (.int (1 : Int32)), .val (.ref b_15), .val (.int (1 : Int32)), .unset] [(.int (0 : Int32)), (.ref b17)])) rfl (by rw [hml]; rfl) (Steps.refl _) (argsL := [(.int (0 : Int32))]) (rest := []) (lenOf pd_12 rfl) rfl (by show 2 * 0 + _ ≤ _; exact Nat.le_of_eq rfl) (hb hby at_239) (fun _ _ => ⟨rfl, eh65, (by decide : 19 + 0 ≤ _), (by decide : 59 + 0 ≤ _)⟩)
        dsimp only [Pt.U, Pt.locs, Pt.cells, Pt.slots] at X67 l67 y67 z67 st67 hQ67
        subst l67 y67 z67
        obtain ⟨rfl, Nq67, eh67⟩ := hQ67
        have N67 := Fr.app N65 Nq67
        refine Go.step (T' := T67) (f' := (mkF m 242 #[.val (.int p1), .val (.int p2), .val (.int p3), .val (.int p4), .val (.int p5), .val (.int (p1 &&& (3 : Int32))), .val (.ref b_1), .val (.ref b_3), .val (.ref b_5), .val (.ref b_7), .val (.ref b_9), .val (.ref b_11), .val (.ref b_13), .val (.ref b_15), .val (.ref b17), .val (.int (1 : Int32)), .val (.int (1 : Int32)), .val (.ref b_15), .val (.int (1 : Int32)), .unset] [(.ref b_13)])) (fun _ k => st67.trans k) ?_
        refine Go.step (T' := T67) (f' := (mkF m 244 #[.val (.int p1), .val (.int p2), .val (.int p3), .val (.int p4), .val (.int p5), .val (.int (p1 &&& (3 : Int32))), .val (.ref b_1), .val (.ref b_3), .val (.ref b_5), .val (.ref b_7), .val (.ref b_9), .val (.ref b_11), .val (.ref b_13), .val (.ref b_15), .val (.ref b17), .val (.int (1 : Int32)), .val (.int (1 : Int32)), .val (.ref b_15), .val (.int (1 : Int32)), .unset] [(.ref b_13), (.ref b_13)])) (fun _ k => XS.aload X67.here hx rfl (hb hby at_242) rfl rfl k) ?_
        refine Go.step (T' := T67) (f' := (mkF m 247 #[.val (.int p1), .val (.int p2), .val (.int p3), .val (.int p4), .val (.int p5), .val (.int (p1 &&& (3 : Int32))), .val (.ref b_1), .val (.ref b_3), .val (.ref b_5), .val (.ref b_7), .val (.ref b_9), .val (.ref b_11), .val (.ref b_13), .val (.ref b_15), .val (.ref b17), .val (.int (1 : Int32)), .val (.int (1 : Int32)), .val (.ref b_15), .val (.int (1 : Int32)), .unset] [])) (fun _ k => Jvm.RoadKit.acmp (g := (mkF m 244 #[.val (.int p1), .val (.int p2), .val (.int p3), .val (.int p4), .val (.int p5), .val (.int (p1 &&& (3 : Int32))), .val (.ref b_1), .val (.ref b_3), .val (.ref b_5), .val (.ref b_7), .val (.ref b_9), .val (.ref b_11), .val (.ref b_13), .val (.ref b_15), .val (.ref b17), .val (.int (1 : Int32)), .val (.int (1 : Int32)), .val (.ref b_15), .val (.int (1 : Int32)), .unset] [(.ref b_13), (.ref b_13)])) X67 hx rfl rfl rfl (pc0 := 244) (pc' := 247) (same := true) rfl (hb hby at_244) rfl (decide_eq_true rfl) (by decide) (by decide) k) ?_
        refine Go.step (T' := T67) (f' := (mkF m 248 #[.val (.int p1), .val (.int p2), .val (.int p3), .val (.int p4), .val (.int p5), .val (.int (p1 &&& (3 : Int32))), .val (.ref b_1), .val (.ref b_3), .val (.ref b_5), .val (.ref b_7), .val (.ref b_9), .val (.ref b_11), .val (.ref b_13), .val (.ref b_15), .val (.ref b17), .val (.int (1 : Int32)), .val (.int (1 : Int32)), .val (.ref b_15), .val (.int (1 : Int32)), .unset] [(.int (1 : Int32))])) (fun _ k => XS.iconst X67.here hx rfl (hb hby at_247) k) ?_
        refine Go.step (T' := T67) (f' := (mkF m 252 #[.val (.int p1), .val (.int p2), .val (.int p3), .val (.int p4), .val (.int p5), .val (.int (p1 &&& (3 : Int32))), .val (.ref b_1), .val (.ref b_3), .val (.ref b_5), .val (.ref b_7), .val (.ref b_9), .val (.ref b_11), .val (.ref b_13), .val (.ref b_15), .val (.ref b17), .val (.int (1 : Int32)), .val (.int (1 : Int32)), .val (.ref b_15), .val (.int (1 : Int32)), .unset] [(.int (1 : Int32))])) (fun _ k => XS.goto X67.here hx rfl (pc0 := 248) (pc' := 252) rfl (hb hby at_248) (by decide) (by decide) k) ?_
        refine Go.step (T' := T67) (f' := (mkF m 254 #[.val (.int p1), .val (.int p2), .val (.int p3), .val (.int p4), .val (.int p5), .val (.int (p1 &&& (3 : Int32))), .val (.ref b_1), .val (.ref b_3), .val (.ref b_5), .val (.ref b_7), .val (.ref b_9), .val (.ref b_11), .val (.ref b_13), .val (.ref b_15), .val (.ref b17), .val (.int (1 : Int32)), .val (.int (1 : Int32)), .val (.ref b_15), .val (.int (1 : Int32)), .val (.int (1 : Int32))] [])) (fun _ k => XS.istore X67.here hx rfl (hb hby at_252) rfl (l' := #[.val (.int p1), .val (.int p2), .val (.int p3), .val (.int p4), .val (.int p5), .val (.int (p1 &&& (3 : Int32))), .val (.ref b_1), .val (.ref b_3), .val (.ref b_5), .val (.ref b_7), .val (.ref b_9), .val (.ref b_11), .val (.ref b_13), .val (.ref b_15), .val (.ref b17), .val (.int (1 : Int32)), .val (.int (1 : Int32)), .val (.ref b_15), .val (.int (1 : Int32)), .val (.int (1 : Int32))]) rfl k) ?_
        refine Go.step (T' := T67) (f' := (mkF m 256 #[.val (.int p1), .val (.int p2), .val (.int p3), .val (.int p4), .val (.int p5), .val (.int (p1 &&& (3 : Int32))), .val (.ref b_1), .val (.ref b_3), .val (.ref b_5), .val (.ref b_7), .val (.ref b_9), .val (.ref b_11), .val (.ref b_13), .val (.ref b_15), .val (.ref b17), .val (.int (1 : Int32)), .val (.int (1 : Int32)), .val (.ref b_15), .val (.int (1 : Int32)), .val (.int (1 : Int32))] [(.int (1 : Int32))])) (fun _ k => XS.iload X67.here hx rfl (hb hby at_254) rfl k) ?_
        refine Go.step (T' := T67) (f' := (mkF m 259 #[.val (.int p1), .val (.int p2), .val (.int p3), .val (.int p4), .val (.int p5), .val (.int (p1 &&& (3 : Int32))), .val (.ref b_1), .val (.ref b_3), .val (.ref b_5), .val (.ref b_7), .val (.ref b_9), .val (.ref b_11), .val (.ref b_13), .val (.ref b_15), .val (.ref b17), .val (.int (1 : Int32)), .val (.int (1 : Int32)), .val (.ref b_15), .val (.int (1 : Int32)), .val (.int (1 : Int32))] [])) (fun _ k => XS.ifNo X67.here hx rfl (hb hby at_256) rfl ((if0 _ _).trans (feq (by decide : ¬ ((1 : Int32) = (0 : Int32)))).1) k) ?_
        refine Go.step (T' := T67) (f' := (mkF m 261 #[.val (.int p1), .val (.int p2), .val (.int p3), .val (.int p4), .val (.int p5), .val (.int (p1 &&& (3 : Int32))), .val (.ref b_1), .val (.ref b_3), .val (.ref b_5), .val (.ref b_7), .val (.ref b_9), .val (.ref b_11), .val (.ref b_13), .val (.ref b_15), .val (.ref b17), .val (.int (1 : Int32)), .val (.int (1 : Int32)), .val (.ref b_15), .val (.int (1 : Int32)), .val (.int (1 : Int32))] [(.int (1 : Int32))])) (fun _ k => XS.iload X67.here hx rfl (hb hby at_259) rfl k) ?_
        refine Go.step (T' := T67) (f' := (mkF m 264 #[.val (.int p1), .val (.int p2), .val (.int p3), .val (.int p4), .val (.int p5), .val (.int (p1 &&& (3 : Int32))), .val (.ref b_1), .val (.ref b_3), .val (.ref b_5), .val (.ref b_7), .val (.ref b_9), .val (.ref b_11), .val (.ref b_13), .val (.ref b_15), .val (.ref b17), .val (.int (1 : Int32)), .val (.int (1 : Int32)), .val (.ref b_15), .val (.int (1 : Int32)), .val (.int (1 : Int32))] [])) (fun _ k => XS.ifNo X67.here hx rfl (hb hby at_261) rfl ((if0 _ _).trans (feq (by decide : ¬ ((1 : Int32) = (0 : Int32)))).1) k) ?_
        refine Go.step (T' := T67) (f' := (mkF m 266 #[.val (.int p1), .val (.int p2), .val (.int p3), .val (.int p4), .val (.int p5), .val (.int (p1 &&& (3 : Int32))), .val (.ref b_1), .val (.ref b_3), .val (.ref b_5), .val (.ref b_7), .val (.ref b_9), .val (.ref b_11), .val (.ref b_13), .val (.ref b_15), .val (.ref b17), .val (.int (1 : Int32)), .val (.int (1 : Int32)), .val (.ref b_15), .val (.int (1 : Int32)), .val (.int (1 : Int32))] [(.int (1 : Int32))])) (fun _ k => XS.iload X67.here hx rfl (hb hby at_264) rfl k) ?_
        refine Go.step (T' := T67) (f' := (mkF m 269 #[.val (.int p1), .val (.int p2), .val (.int p3), .val (.int p4), .val (.int p5), .val (.int (p1 &&& (3 : Int32))), .val (.ref b_1), .val (.ref b_3), .val (.ref b_5), .val (.ref b_7), .val (.ref b_9), .val (.ref b_11), .val (.ref b_13), .val (.ref b_15), .val (.ref b17), .val (.int (1 : Int32)), .val (.int (1 : Int32)), .val (.ref b_15), .val (.int (1 : Int32)), .val (.int (1 : Int32))] [])) (fun _ k => XS.ifNo X67.here hx rfl (hb hby at_266) rfl ((if0 _ _).trans (feq (by decide : ¬ ((1 : Int32) = (0 : Int32)))).1) k) ?_
        refine Go.step (T' := T67) (f' := (mkF m 271 #[.val (.int p1), .val (.int p2), .val (.int p3), .val (.int p4), .val (.int p5), .val (.int (p1 &&& (3 : Int32))), .val (.ref b_1), .val (.ref b_3), .val (.ref b_5), .val (.ref b_7), .val (.ref b_9), .val (.ref b_11), .val (.ref b_13), .val (.ref b_15), .val (.ref b17), .val (.int (1 : Int32)), .val (.int (1 : Int32)), .val (.ref b_15), .val (.int (1 : Int32)), .val (.int (1 : Int32))] [(.int (1 : Int32))])) (fun _ k => XS.iload X67.here hx rfl (hb hby at_269) rfl k) ?_
        refine Go.step (T' := T67) (f' := (mkF m 274 #[.val (.int p1), .val (.int p2), .val (.int p3), .val (.int p4), .val (.int p5), .val (.int (p1 &&& (3 : Int32))), .val (.ref b_1), .val (.ref b_3), .val (.ref b_5), .val (.ref b_7), .val (.ref b_9), .val (.ref b_11), .val (.ref b_13), .val (.ref b_15), .val (.ref b17), .val (.int (1 : Int32)), .val (.int (1 : Int32)), .val (.ref b_15), .val (.int (1 : Int32)), .val (.int (1 : Int32))] [])) (fun _ k => XS.ifNo X67.here hx rfl (hb hby at_271) rfl ((if0 _ _).trans (feq (by decide : ¬ ((1 : Int32) = (0 : Int32)))).1) k) ?_
        refine Go.step (T' := T67) (f' := (mkF m 275 #[.val (.int p1), .val (.int p2), .val (.int p3), .val (.int p4), .val (.int p5), .val (.int (p1 &&& (3 : Int32))), .val (.ref b_1), .val (.ref b_3), .val (.ref b_5), .val (.ref b_7), .val (.ref b_9), .val (.ref b_11), .val (.ref b_13), .val (.ref b_15), .val (.ref b17), .val (.int (1 : Int32)), .val (.int (1 : Int32)), .val (.ref b_15), .val (.int (1 : Int32)), .val (.int (1 : Int32))] [(.int (1 : Int32))])) (fun _ k => XS.iconst X67.here hx rfl (hb hby at_274) k) ?_
        refine Go.step (T' := T67) (f' := (mkF m 279 #[.val (.int p1), .val (.int p2), .val (.int p3), .val (.int p4), .val (.int p5), .val (.int (p1 &&& (3 : Int32))), .val (.ref b_1), .val (.ref b_3), .val (.ref b_5), .val (.ref b_7), .val (.ref b_9), .val (.ref b_11), .val (.ref b_13), .val (.ref b_15), .val (.ref b17), .val (.int (1 : Int32)), .val (.int (1 : Int32)), .val (.ref b_15), .val (.int (1 : Int32)), .val (.int (1 : Int32))] [(.int (1 : Int32))])) (fun _ k => XS.goto X67.here hx rfl (pc0 := 275) (pc' := 279) rfl (hb hby at_275) (by decide) (by decide) k) ?_
        refine goN X67 hx (t := .boolean) Bd.returns (by simp) Bd.notSynchronized (hb hby at_279) ?_ (by decide) (by decide)
        show Q_rm0 Z p1 p2 p3 p4 p5 cs h0 n0 _ T67.heap _
        rw [eh67]
        exact ⟨rfl, N67⟩
    · refine Go.step (T' := T21) (f' := (mkF m 145 #[.val (.int p1), .val (.int p2), .val (.int p3), .val (.int p4), .val (.int p5), .val (.int (p1 &&& (3 : Int32))), .val (.ref b_1), .val (.ref b_3), .val (.ref b_5), .val (.ref b_7), .val (.ref b_9), .val (.ref b_11), .val (.ref b_13), .val (.ref b_15), .val (.ref b17), .unset, .unset, .unset, .unset, .unset] [])) (fun _ k => XS.icmpYes X21.here hx rfl (pc0 := 133) (pc' := 145) rfl (hb hby at_133) rfl (flt hc133).2.2.2 (by decide) (by decide) k) ?_
      refine Go.step (T' := T21) (f' := (mkF m 147 #[.val (.int p1), .val (.int p2), .val (.int p3), .val (.int p4), .val (.int p5), .val (.int (p1 &&& (3 : Int32))), .val (.ref b_1), .val (.ref b_3), .val (.ref b_5), .val (.ref b_7), .val (.ref b_9), .val (.ref b_11), .val (.ref b_13), .val (.ref b_15), .val (.ref b17), .unset, .unset, .unset, .unset, .unset] [(.int (p1 &&& (3 : Int32)))])) (fun _ k => XS.iload X21.here hx rfl (hb hby at_145) rfl k) ?_
      refine Go.step (T' := T21) (f' := (mkF m 148 #[.val (.int p1), .val (.int p2), .val (.int p3), .val (.int p4), .val (.int p5), .val (.int (p1 &&& (3 : Int32))), .val (.ref b_1), .val (.ref b_3), .val (.ref b_5), .val (.ref b_7), .val (.ref b_9), .val (.ref b_11), .val (.ref b_13), .val (.ref b_15), .val (.ref b17), .unset, .unset, .unset, .unset, .unset] [(.int (2 : Int32)), (.int (p1 &&& (3 : Int32)))])) (fun _ k => XS.iconst X21.here hx rfl (hb hby at_147) k) ?_
      by_cases hc148 : (2 : Int32) < (p1 &&& (3 : Int32))
      · exact absurd (show False from (by simp only [Int32.lt_iff_toInt_lt, ← Int32.toInt_inj, Int32.reduceToInt] at hc118 hc133 hc148 <;> omega)) id
      · refine Go.step (T' := T21) (f' := (mkF m 160 #[.val (.int p1), .val (.int p2), .val (.int p3), .val (.int p4), .val (.int p5), .val (.int (p1 &&& (3 : Int32))), .val (.ref b_1), .val (.ref b_3), .val (.ref b_5), .val (.ref b_7), .val (.ref b_9), .val (.ref b_11), .val (.ref b_13), .val (.ref b_15), .val (.ref b17), .unset, .unset, .unset, .unset, .unset] [])) (fun _ k => XS.icmpYes X21.here hx rfl (pc0 := 148) (pc' := 160) rfl (hb hby at_148) rfl (flt hc148).2.2.2 (by decide) (by decide) k) ?_
        refine Go.step (T' := T21) (f' := (mkF m 162 #[.val (.int p1), .val (.int p2), .val (.int p3), .val (.int p4), .val (.int p5), .val (.int (p1 &&& (3 : Int32))), .val (.ref b_1), .val (.ref b_3), .val (.ref b_5), .val (.ref b_7), .val (.ref b_9), .val (.ref b_11), .val (.ref b_13), .val (.ref b_15), .val (.ref b17), .unset, .unset, .unset, .unset, .unset] [(.ref b17)])) (fun _ k => XS.aload X21.here hx rfl (hb hby at_160) rfl rfl k) ?_
        have q69 : Exa Z T21.heap b17 "com/example/tenderbook/tenderbook/Fields" := (q22.keep Kq21)
        obtain ⟨cq68, kq68, q68a, q68b, q68c⟩ := isOf hZ rfl q69
        obtain ⟨_, _, ⟨T68, L68, k68, n68⟩, -, X68, ⟨Lc68, hQ68, l68, y68, z68⟩, st68⟩ := X21.virtualBack hx (y := (⟨"com/example/tenderbook/tenderbook/Fields", "clear", "()V"⟩ : MethodName)) (z := (⟨"com/example/tenderbook/tenderbook/Fields", "clear", "()V"⟩ : MethodName)) hown (mvT hZ (hw _ (List.mem_of_getElem? (i := 39) rfl))) (mvT hZ (hw _ (List.mem_of_getElem? (i := 40) rfl))) (notFace_of_selects (args := #[]) (mvT hZ (hw _ (List.mem_of_getElem? (i := 42) rfl)))) (mvT hZ (hw _ (List.mem_of_getElem? (i := 42) rfl))) (mvT hZ (hw _ (List.mem_of_getElem? (i := 41) rfl))) (by decide) (backOf (W := 0) (rmClr1 l Z a0 hw [] b17 n_19 v_19 kn_19 kv_19 (.ref b_1) (.ref b_3) T21.heap n0 Z25 q69 r21_0 r21_1 r21_2 r21_3 r21_4 (Ne.symm (Nat.ne_of_lt (Nat.lt_of_lt_of_le A17.lt r19_0))) (Ne.symm (Nat.ne_of_lt (Nat.lt_of_lt_of_le A17.lt r19_1))) r19_2 g_b17 g_n_19 g_v_19) hZ (hw _ (List.mem_of_getElem? (i := 43) rfl)) (hw _ (List.mem_of_getElem? (i := 28) rfl)) (by decide) (by decide)) q68a q68c (g := (mkF m 162 #[.val (.int p1), .val (.int p2), .val (.int p3), .val (.int p4), .val (.int p5), .val (.int (p1 &&& (3 : Int32))), .val (.ref b_1), .val (.ref b_3), .val (.ref b_5), .val (.ref b_7), .val (.ref b_9), .val (.ref b_11), .val (.ref b_13), .val (.ref b_15), .val (.ref b17), .unset, .unset, .unset, .unset, .unset] [(.ref b17)])) rfl (by rw [hml]; rfl) (Steps.refl _) (argsL := []) (rest := []) (lenOf pd_7 rfl) rfl (by show 2 * 0 + _ ≤ _; exact Nat.le_of_eq rfl) (hb hby at_162) (fun _ _ => ⟨rfl, rfl, (by decide : 19 + 0 ≤ _), (by decide : 59 + 0 ≤ _)⟩)
        dsimp only [Pt.U, Pt.locs, Pt.cells, Pt.slots] at X68 l68 y68 z68 st68 hQ68
        subst l68 y68 z68
        obtain ⟨rfl, Nq68, Kq68, r68_0, r68_1, r68_2, r68_3, r68_4⟩ := hQ68
        have N68 := Fr.app N21 Nq68
        have Z70 : n0 ≤ T68.heap.size := Nat.le_trans Z25 Kq68.1
        have O70 : Old Z n0 T68.heap := O25.keep Kq68 (allS g_b17 (allS g_n_19 (allS g_v_19 all0)))
        refine Go.step (T' := T68) (f' := (mkF m 165 #[.val (.int p1), .val (.int p2), .val (.int p3), .val (.int p4), .val (.int p5), .val (.int (p1 &&& (3 : Int32))), .val (.ref b_1), .val (.ref b_3), .val (.ref b_5), .val (.ref b_7), .val (.ref b_9), .val (.ref b_11), .val (.ref b_13), .val (.ref b_15), .val (.ref b17), .unset, .unset, .unset, .unset, .unset] [])) (fun _ k => st68.trans k) ?_
        refine Go.step (T' := T68) (f' := (mkF m 167 #[.val (.int p1), .val (.int p2), .val (.int p3), .val (.int p4), .val (.int p5), .val (.int (p1 &&& (3 : Int32))), .val (.ref b_1), .val (.ref b_3), .val (.ref b_5), .val (.ref b_7), .val (.ref b_9), .val (.ref b_11), .val (.ref b_13), .val (.ref b_15), .val (.ref b17), .unset, .unset, .unset, .unset, .unset] [(.ref b17)])) (fun _ k => XS.aload X68.here hx rfl (hb hby at_165) rfl rfl k) ?_
        have q72 : Exa Z T68.heap b17 "com/example/tenderbook/tenderbook/Fields" := (q69.keep Kq68)
        obtain ⟨cq71, kq71, q71a, q71b, q71c⟩ := isOf hZ rfl q72
        obtain ⟨_, _, ⟨T71, L71, k71, n71⟩, -, X71, ⟨Lc71, hQ71, l71, y71, z71⟩, st71⟩ := X68.virtualBack hx (y := (⟨"com/example/tenderbook/tenderbook/Fields", "size", "()I"⟩ : MethodName)) (z := (⟨"com/example/tenderbook/tenderbook/Fields", "size", "()I"⟩ : MethodName)) hown (mvT hZ (hw _ (List.mem_of_getElem? (i := 53) rfl))) (mvT hZ (hw _ (List.mem_of_getElem? (i := 54) rfl))) (notFace_of_selects (args := #[]) (mvT hZ (hw _ (List.mem_of_getElem? (i := 56) rfl)))) (mvT hZ (hw _ (List.mem_of_getElem? (i := 56) rfl))) (mvT hZ (hw _ (List.mem_of_getElem? (i := 55) rfl))) (by decide) (backOf (W := 0) (rm10 l Z a0 hw [] b17 (0 : Int32) T68.heap n0 Z70 r68_2) hZ (hw _ (List.mem_of_getElem? (i := 57) rfl)) (hw _ (List.mem_of_getElem? (i := 28) rfl)) (by decide) (by decide)) q71a q71c (g := (mkF m 167 #[.val (.int p1), .val (.int p2), .val (.int p3), .val (.int p4), .val (.int p5), .val (.int (p1 &&& (3 : Int32))), .val (.ref b_1), .val (.ref b_3), .val (.ref b_5), .val (.ref b_7), .val (.ref b_9), .val (.ref b_11), .val (.ref b_13), .val (.ref b_15), .val (.ref b17), .unset, .unset, .unset, .unset, .unset] [(.ref b17)])) rfl (by rw [hml]; rfl) (Steps.refl _) (argsL := []) (rest := []) (lenOf pd_9 rfl) rfl (by show 2 * 0 + _ ≤ _; exact Nat.le_of_eq rfl) (hb hby at_167) (fun _ _ => ⟨rfl, rfl, (by decide : 19 + 0 ≤ _), (by decide : 59 + 0 ≤ _)⟩)
        dsimp only [Pt.U, Pt.locs, Pt.cells, Pt.slots] at X71 l71 y71 z71 st71 hQ71
        subst l71 y71 z71
        obtain ⟨rfl, Nq71, eh71⟩ := hQ71
        have N71 := Fr.app N68 Nq71
        refine Go.step (T' := T71) (f' := (mkF m 170 #[.val (.int p1), .val (.int p2), .val (.int p3), .val (.int p4), .val (.int p5), .val (.int (p1 &&& (3 : Int32))), .val (.ref b_1), .val (.ref b_3), .val (.ref b_5), .val (.ref b_7), .val (.ref b_9), .val (.ref b_11), .val (.ref b_13), .val (.ref b_15), .val (.ref b17), .unset, .unset, .unset, .unset, .unset] [(.int (0 : Int32))])) (fun _ k => st71.trans k) ?_
        refine Go.step (T' := T71) (f' := (mkF m 173 #[.val (.int p1), .val (.int p2), .val (.int p3), .val (.int p4), .val (.int p5), .val (.int (p1 &&& (3 : Int32))), .val (.ref b_1), .val (.ref b_3), .val (.ref b_5), .val (.ref b_7), .val (.ref b_9), .val (.ref b_11), .val (.ref b_13), .val (.ref b_15), .val (.ref b17), .unset, .unset, .unset, .unset, .unset] [])) (fun _ k => XS.ifNo X71.here hx rfl (hb hby at_170) rfl ((if0 _ _).trans (teq (by decide : (0 : Int32) = (0 : Int32))).2) k) ?_
        refine Go.step (T' := T71) (f' := (mkF m 174 #[.val (.int p1), .val (.int p2), .val (.int p3), .val (.int p4), .val (.int p5), .val (.int (p1 &&& (3 : Int32))), .val (.ref b_1), .val (.ref b_3), .val (.ref b_5), .val (.ref b_7), .val (.ref b_9), .val (.ref b_11), .val (.ref b_13), .val (.ref b_15), .val (.ref b17), .unset, .unset, .unset, .unset, .unset] [(.int (1 : Int32))])) (fun _ k => XS.iconst X71.here hx rfl (hb hby at_173) k) ?_
        refine Go.step (T' := T71) (f' := (mkF m 178 #[.val (.int p1), .val (.int p2), .val (.int p3), .val (.int p4), .val (.int p5), .val (.int (p1 &&& (3 : Int32))), .val (.ref b_1), .val (.ref b_3), .val (.ref b_5), .val (.ref b_7), .val (.ref b_9), .val (.ref b_11), .val (.ref b_13), .val (.ref b_15), .val (.ref b17), .unset, .unset, .unset, .unset, .unset] [(.int (1 : Int32))])) (fun _ k => XS.goto X71.here hx rfl (pc0 := 174) (pc' := 178) rfl (hb hby at_174) (by decide) (by decide) k) ?_
        refine Go.step (T' := T71) (f' := (mkF m 180 #[.val (.int p1), .val (.int p2), .val (.int p3), .val (.int p4), .val (.int p5), .val (.int (p1 &&& (3 : Int32))), .val (.ref b_1), .val (.ref b_3), .val (.ref b_5), .val (.ref b_7), .val (.ref b_9), .val (.ref b_11), .val (.ref b_13), .val (.ref b_15), .val (.ref b17), .val (.int (1 : Int32)), .unset, .unset, .unset, .unset] [])) (fun _ k => XS.istore X71.here hx rfl (hb hby at_178) rfl (l' := #[.val (.int p1), .val (.int p2), .val (.int p3), .val (.int p4), .val (.int p5), .val (.int (p1 &&& (3 : Int32))), .val (.ref b_1), .val (.ref b_3), .val (.ref b_5), .val (.ref b_7), .val (.ref b_9), .val (.ref b_11), .val (.ref b_13), .val (.ref b_15), .val (.ref b17), .val (.int (1 : Int32)), .unset, .unset, .unset, .unset]) rfl k) ?_
        refine Go.step (T' := T71) (f' := (mkF m 182 #[.val (.int p1), .val (.int p2), .val (.int p3), .val (.int p4), .val (.int p5), .val (.int (p1 &&& (3 : Int32))), .val (.ref b_1), .val (.ref b_3), .val (.ref b_5), .val (.ref b_7), .val (.ref b_9), .val (.ref b_11), .val (.ref b_13), .val (.ref b_15), .val (.ref b17), .val (.int (1 : Int32)), .unset, .unset, .unset, .unset] [(.ref b17)])) (fun _ k => XS.aload X71.here hx rfl (hb hby at_180) rfl rfl k) ?_
        refine Go.step (T' := T71) (f' := (mkF m 184 #[.val (.int p1), .val (.int p2), .val (.int p3), .val (.int p4), .val (.int p5), .val (.int (p1 &&& (3 : Int32))), .val (.ref b_1), .val (.ref b_3), .val (.ref b_5), .val (.ref b_7), .val (.ref b_9), .val (.ref b_11), .val (.ref b_13), .val (.ref b_15), .val (.ref b17), .val (.int (1 : Int32)), .unset, .unset, .unset, .unset] [(.ref b_13), (.ref b17)])) (fun _ k => XS.aload X71.here hx rfl (hb hby at_182) rfl rfl k) ?_
        refine Go.step (T' := T71) (f' := (mkF m 186 #[.val (.int p1), .val (.int p2), .val (.int p3), .val (.int p4), .val (.int p5), .val (.int (p1 &&& (3 : Int32))), .val (.ref b_1), .val (.ref b_3), .val (.ref b_5), .val (.ref b_7), .val (.ref b_9), .val (.ref b_11), .val (.ref b_13), .val (.ref b_15), .val (.ref b17), .val (.int (1 : Int32)), .unset, .unset, .unset, .unset] [(.ref b_15), (.ref b_13), (.ref b17)])) (fun _ k => XS.aload X71.here hx rfl (hb hby at_184) rfl rfl k) ?_
        have q74 : Exa Z T68.heap b_13 "java/lang/String" := (((((r13_1.keep Kq15).ext E17).keep Kq19).keep Kq21).keep Kq68)
        have q75 : Exa Z T68.heap b_15 "java/lang/String" := ((((r15_1.ext E17).keep Kq19).keep Kq21).keep Kq68)
        obtain ⟨cq73, kq73, q73a, q73b, q73c⟩ := isOf hZ eh71 q72
        obtain ⟨_, _, ⟨T73, L73, k73, n73⟩, -, X73, ⟨Lc73, hQ73, l73, y73, z73⟩, st73⟩ := X71.virtualBack hx (y := (⟨"com/example/tenderbook/tenderbook/Fields", "add", "(Ljava/lang/String;Ljava/lang/String;)V"⟩ : MethodName)) (z := (⟨"com/example/tenderbook/tenderbook/Fields", "add", "(Ljava/lang/String;Ljava/lang/String;)V"⟩ : MethodName)) hown (mvT hZ (hw _ (List.mem_of_getElem? (i := 58) rfl))) (mvT hZ (hw _ (List.mem_of_getElem? (i := 59) rfl))) (notFace_of_selects (args := #[]) (mvT hZ (hw _ (List.mem_of_getElem? (i := 61) rfl)))) (mvT hZ (hw _ (List.mem_of_getElem? (i := 61) rfl))) (mvT hZ (hw _ (List.mem_of_getElem? (i := 60) rfl))) (by decide) (backOf (W := 0) (rmAdd0 l Z a0 hw [] b17 b_13 b_15 n_19 v_19 kn_19 kv_19 T68.heap n0 Z70 q72 q74 q75 r68_0 r68_1 r68_2 r68_3 r68_4 (Ne.symm (Nat.ne_of_lt (Nat.lt_of_lt_of_le A17.lt r19_0))) (Ne.symm (Nat.ne_of_lt (Nat.lt_of_lt_of_le A17.lt r19_1))) r19_2 r19_3 r19_4 g_b17 g_n_19 g_v_19) hZ (hw _ (List.mem_of_getElem? (i := 62) rfl)) (hw _ (List.mem_of_getElem? (i := 28) rfl)) (by decide) (by decide)) q73a q73c (g := (mkF m 186 #[.val (.int p1), .val (.int p2), .val (.int p3), .val (.int p4), .val (.int p5), .val (.int (p1 &&& (3 : Int32))), .val (.ref b_1), .val (.ref b_3), .val (.ref b_5), .val (.ref b_7), .val (.ref b_9), .val (.ref b_11), .val (.ref b_13), .val (.ref b_15), .val (.ref b17), .val (.int (1 : Int32)), .unset, .unset, .unset, .unset] [(.ref b_15), (.ref b_13), (.ref b17)])) rfl (by rw [hml]; rfl) (Steps.refl _) (argsL := [(.ref b_13), (.ref b_15)]) (rest := []) (lenOf pd_8 rfl) rfl (by show 2 * 0 + _ ≤ _; exact Nat.le_of_eq rfl) (hb hby at_186) (fun _ _ => ⟨rfl, eh71, (by decide : 19 + 0 ≤ _), (by decide : 59 + 0 ≤ _)⟩)
        dsimp only [Pt.U, Pt.locs, Pt.cells, Pt.slots] at X73 l73 y73 z73 st73 hQ73
        subst l73 y73 z73
        obtain ⟨rfl, Nq73, Kq73, r73_0, r73_1, r73_2, r73_3, r73_4⟩ := hQ73
        have N73 := Fr.app N71 Nq73
        have Z76 : n0 ≤ T73.heap.size := Nat.le_trans Z70 Kq73.1
        have O76 : Old Z n0 T73.heap := O70.keep Kq73 (allS g_b17 (allS g_n_19 (allS g_v_19 all0)))
        refine Go.step (T' := T73) (f' := (mkF m 189 #[.val (.int p1), .val (.int p2), .val (.int p3), .val (.int p4), .val (.int p5), .val (.int (p1 &&& (3 : Int32))), .val (.ref b_1), .val (.ref b_3), .val (.ref b_5), .val (.ref b_7), .val (.ref b_9), .val (.ref b_11), .val (.ref b_13), .val (.ref b_15), .val (.ref b17), .val (.int (1 : Int32)), .unset, .unset, .unset, .unset] [])) (fun _ k => st73.trans k) ?_
        refine Go.step (T' := T73) (f' := (mkF m 191 #[.val (.int p1), .val (.int p2), .val (.int p3), .val (.int p4), .val (.int p5), .val (.int (p1 &&& (3 : Int32))), .val (.ref b_1), .val (.ref b_3), .val (.ref b_5), .val (.ref b_7), .val (.ref b_9), .val (.ref b_11), .val (.ref b_13), .val (.ref b_15), .val (.ref b17), .val (.int (1 : Int32)), .unset, .unset, .unset, .unset] [(.ref b17)])) (fun _ k => XS.aload X73.here hx rfl (hb hby at_189) rfl rfl k) ?_
        have q78 : Exa Z T73.heap b17 "com/example/tenderbook/tenderbook/Fields" := (q72.keep Kq73)
        obtain ⟨cq77, kq77, q77a, q77b, q77c⟩ := isOf hZ rfl q78
        obtain ⟨_, _, ⟨T77, L77, k77, n77⟩, -, X77, ⟨Lc77, hQ77, l77, y77, z77⟩, st77⟩ := X73.virtualBack hx (y := (⟨"com/example/tenderbook/tenderbook/Fields", "size", "()I"⟩ : MethodName)) (z := (⟨"com/example/tenderbook/tenderbook/Fields", "size", "()I"⟩ : MethodName)) hown (mvT hZ (hw _ (List.mem_of_getElem? (i := 53) rfl))) (mvT hZ (hw _ (List.mem_of_getElem? (i := 54) rfl))) (notFace_of_selects (args := #[]) (mvT hZ (hw _ (List.mem_of_getElem? (i := 56) rfl)))) (mvT hZ (hw _ (List.mem_of_getElem? (i := 56) rfl))) (mvT hZ (hw _ (List.mem_of_getElem? (i := 55) rfl))) (by decide) (backOf (W := 0) (rm10 l Z a0 hw [] b17 (1 : Int32) T73.heap n0 Z76 r73_2) hZ (hw _ (List.mem_of_getElem? (i := 57) rfl)) (hw _ (List.mem_of_getElem? (i := 28) rfl)) (by decide) (by decide)) q77a q77c (g := (mkF m 191 #[.val (.int p1), .val (.int p2), .val (.int p3), .val (.int p4), .val (.int p5), .val (.int (p1 &&& (3 : Int32))), .val (.ref b_1), .val (.ref b_3), .val (.ref b_5), .val (.ref b_7), .val (.ref b_9), .val (.ref b_11), .val (.ref b_13), .val (.ref b_15), .val (.ref b17), .val (.int (1 : Int32)), .unset, .unset, .unset, .unset] [(.ref b17)])) rfl (by rw [hml]; rfl) (Steps.refl _) (argsL := []) (rest := []) (lenOf pd_9 rfl) rfl (by show 2 * 0 + _ ≤ _; exact Nat.le_of_eq rfl) (hb hby at_191) (fun _ _ => ⟨rfl, rfl, (by decide : 19 + 0 ≤ _), (by decide : 59 + 0 ≤ _)⟩)
        dsimp only [Pt.U, Pt.locs, Pt.cells, Pt.slots] at X77 l77 y77 z77 st77 hQ77
        subst l77 y77 z77
        obtain ⟨rfl, Nq77, eh77⟩ := hQ77
        have N77 := Fr.app N73 Nq77
        refine Go.step (T' := T77) (f' := (mkF m 194 #[.val (.int p1), .val (.int p2), .val (.int p3), .val (.int p4), .val (.int p5), .val (.int (p1 &&& (3 : Int32))), .val (.ref b_1), .val (.ref b_3), .val (.ref b_5), .val (.ref b_7), .val (.ref b_9), .val (.ref b_11), .val (.ref b_13), .val (.ref b_15), .val (.ref b17), .val (.int (1 : Int32)), .unset, .unset, .unset, .unset] [(.int (1 : Int32))])) (fun _ k => st77.trans k) ?_
        refine Go.step (T' := T77) (f' := (mkF m 195 #[.val (.int p1), .val (.int p2), .val (.int p3), .val (.int p4), .val (.int p5), .val (.int (p1 &&& (3 : Int32))), .val (.ref b_1), .val (.ref b_3), .val (.ref b_5), .val (.ref b_7), .val (.ref b_9), .val (.ref b_11), .val (.ref b_13), .val (.ref b_15), .val (.ref b17), .val (.int (1 : Int32)), .unset, .unset, .unset, .unset] [(.int (1 : Int32)), (.int (1 : Int32))])) (fun _ k => XS.iconst X77.here hx rfl (hb hby at_194) k) ?_
        refine Go.step (T' := T77) (f' := (mkF m 198 #[.val (.int p1), .val (.int p2), .val (.int p3), .val (.int p4), .val (.int p5), .val (.int (p1 &&& (3 : Int32))), .val (.ref b_1), .val (.ref b_3), .val (.ref b_5), .val (.ref b_7), .val (.ref b_9), .val (.ref b_11), .val (.ref b_13), .val (.ref b_15), .val (.ref b17), .val (.int (1 : Int32)), .unset, .unset, .unset, .unset] [])) (fun _ k => XS.icmpNo X77.here hx rfl (hb hby at_195) rfl (teq (by decide : (1 : Int32) = (1 : Int32))).2 k) ?_
        refine Go.step (T' := T77) (f' := (mkF m 199 #[.val (.int p1), .val (.int p2), .val (.int p3), .val (.int p4), .val (.int p5), .val (.int (p1 &&& (3 : Int32))), .val (.ref b_1), .val (.ref b_3), .val (.ref b_5), .val (.ref b_7), .val (.ref b_9), .val (.ref b_11), .val (.ref b_13), .val (.ref b_15), .val (.ref b17), .val (.int (1 : Int32)), .unset, .unset, .unset, .unset] [(.int (1 : Int32))])) (fun _ k => XS.iconst X77.here hx rfl (hb hby at_198) k) ?_
        refine Go.step (T' := T77) (f' := (mkF m 203 #[.val (.int p1), .val (.int p2), .val (.int p3), .val (.int p4), .val (.int p5), .val (.int (p1 &&& (3 : Int32))), .val (.ref b_1), .val (.ref b_3), .val (.ref b_5), .val (.ref b_7), .val (.ref b_9), .val (.ref b_11), .val (.ref b_13), .val (.ref b_15), .val (.ref b17), .val (.int (1 : Int32)), .unset, .unset, .unset, .unset] [(.int (1 : Int32))])) (fun _ k => XS.goto X77.here hx rfl (pc0 := 199) (pc' := 203) rfl (hb hby at_199) (by decide) (by decide) k) ?_
        refine Go.step (T' := T77) (f' := (mkF m 205 #[.val (.int p1), .val (.int p2), .val (.int p3), .val (.int p4), .val (.int p5), .val (.int (p1 &&& (3 : Int32))), .val (.ref b_1), .val (.ref b_3), .val (.ref b_5), .val (.ref b_7), .val (.ref b_9), .val (.ref b_11), .val (.ref b_13), .val (.ref b_15), .val (.ref b17), .val (.int (1 : Int32)), .val (.int (1 : Int32)), .unset, .unset, .unset] [])) (fun _ k => XS.istore X77.here hx rfl (hb hby at_203) rfl (l' := #[.val (.int p1), .val (.int p2), .val (.int p3), .val (.int p4), .val (.int p5), .val (.int (p1 &&& (3 : Int32))), .val (.ref b_1), .val (.ref b_3), .val (.ref b_5), .val (.ref b_7), .val (.ref b_9), .val (.ref b_11), .val (.ref b_13), .val (.ref b_15), .val (.ref b17), .val (.int (1 : Int32)), .val (.int (1 : Int32)), .unset, .unset, .unset]) rfl k) ?_
        refine Go.step (T' := T77) (f' := (mkF m 207 #[.val (.int p1), .val (.int p2), .val (.int p3), .val (.int p4), .val (.int p5), .val (.int (p1 &&& (3 : Int32))), .val (.ref b_1), .val (.ref b_3), .val (.ref b_5), .val (.ref b_7), .val (.ref b_9), .val (.ref b_11), .val (.ref b_13), .val (.ref b_15), .val (.ref b17), .val (.int (1 : Int32)), .val (.int (1 : Int32)), .unset, .unset, .unset] [(.ref b17)])) (fun _ k => XS.aload X77.here hx rfl (hb hby at_205) rfl rfl k) ?_
        refine Go.step (T' := T77) (f' := (mkF m 209 #[.val (.int p1), .val (.int p2), .val (.int p3), .val (.int p4), .val (.int p5), .val (.int (p1 &&& (3 : Int32))), .val (.ref b_1), .val (.ref b_3), .val (.ref b_5), .val (.ref b_7), .val (.ref b_9), .val (.ref b_11), .val (.ref b_13), .val (.ref b_15), .val (.ref b17), .val (.int (1 : Int32)), .val (.int (1 : Int32)), .unset, .unset, .unset] [(.ref b_13), (.ref b17)])) (fun _ k => XS.aload X77.here hx rfl (hb hby at_207) rfl rfl k) ?_
        have q80 : Exa Z T73.heap b_13 "java/lang/String" := (q74.keep Kq73)
        obtain ⟨cq79, kq79, q79a, q79b, q79c⟩ := isOf hZ eh77 q78
        obtain ⟨_, _, ⟨T79, L79, k79, n79⟩, -, X79, ⟨Lc79, hQ79, l79, y79, z79⟩, st79⟩ := X77.virtualBack hx (y := (⟨"com/example/tenderbook/tenderbook/Fields", "getFirst", "(Ljava/lang/String;)Ljava/lang/String;"⟩ : MethodName)) (z := (⟨"com/example/tenderbook/tenderbook/Fields", "getFirst", "(Ljava/lang/String;)Ljava/lang/String;"⟩ : MethodName)) hown (mvT hZ (hw _ (List.mem_of_getElem? (i := 63) rfl))) (mvT hZ (hw _ (List.mem_of_getElem? (i := 64) rfl))) (notFace_of_selects (args := #[]) (mvT hZ (hw _ (List.mem_of_getElem? (i := 66) rfl)))) (mvT hZ (hw _ (List.mem_of_getElem? (i := 66) rfl))) (mvT hZ (hw _ (List.mem_of_getElem? (i := 65) rfl))) (by decide) (backOf (W := 0) (rm12 l Z a0 hw [] b17 b_13 n_19 v_19 kn_19 kv_19 b_15 T73.heap n0 Z76 q80 r73_0 r73_1 r73_2 r73_3 r73_4) hZ (hw _ (List.mem_of_getElem? (i := 67) rfl)) (hw _ (List.mem_of_getElem? (i := 28) rfl)) (by decide) (by decide)) q79a q79c (g := (mkF m 209 #[.val (.int p1), .val (.int p2), .val (.int p3), .val (.int p4), .val (.int p5), .val (.int (p1 &&& (3 : Int32))), .val (.ref b_1), .val (.ref b_3), .val (.ref b_5), .val (.ref b_7), .val (.ref b_9), .val (.ref b_11), .val (.ref b_13), .val (.ref b_15), .val (.ref b17), .val (.int (1 : Int32)), .val (.int (1 : Int32)), .unset, .unset, .unset] [(.ref b_13), (.ref b17)])) rfl (by rw [hml]; rfl) (Steps.refl _) (argsL := [(.ref b_13)]) (rest := []) (lenOf pd_10 rfl) rfl (by show 2 * 0 + _ ≤ _; exact Nat.le_of_eq rfl) (hb hby at_209) (fun _ _ => ⟨rfl, eh77, (by decide : 19 + 0 ≤ _), (by decide : 59 + 0 ≤ _)⟩)
        dsimp only [Pt.U, Pt.locs, Pt.cells, Pt.slots] at X79 l79 y79 z79 st79 hQ79
        subst l79 y79 z79
        obtain ⟨rfl, Nq79, eh79⟩ := hQ79
        have N79 := Fr.app N77 Nq79
        refine Go.step (T' := T79) (f' := (mkF m 212 #[.val (.int p1), .val (.int p2), .val (.int p3), .val (.int p4), .val (.int p5), .val (.int (p1 &&& (3 : Int32))), .val (.ref b_1), .val (.ref b_3), .val (.ref b_5), .val (.ref b_7), .val (.ref b_9), .val (.ref b_11), .val (.ref b_13), .val (.ref b_15), .val (.ref b17), .val (.int (1 : Int32)), .val (.int (1 : Int32)), .unset, .unset, .unset] [(.ref b_15)])) (fun _ k => st79.trans k) ?_
        refine Go.step (T' := T79) (f' := (mkF m 214 #[.val (.int p1), .val (.int p2), .val (.int p3), .val (.int p4), .val (.int p5), .val (.int (p1 &&& (3 : Int32))), .val (.ref b_1), .val (.ref b_3), .val (.ref b_5), .val (.ref b_7), .val (.ref b_9), .val (.ref b_11), .val (.ref b_13), .val (.ref b_15), .val (.ref b17), .val (.int (1 : Int32)), .val (.int (1 : Int32)), .val (.ref b_15), .unset, .unset] [])) (fun _ k => XS.astore X79.here hx rfl (hb hby at_212) rfl rfl (l' := #[.val (.int p1), .val (.int p2), .val (.int p3), .val (.int p4), .val (.int p5), .val (.int (p1 &&& (3 : Int32))), .val (.ref b_1), .val (.ref b_3), .val (.ref b_5), .val (.ref b_7), .val (.ref b_9), .val (.ref b_11), .val (.ref b_13), .val (.ref b_15), .val (.ref b17), .val (.int (1 : Int32)), .val (.int (1 : Int32)), .val (.ref b_15), .unset, .unset]) rfl k) ?_
        refine Go.step (T' := T79) (f' := (mkF m 216 #[.val (.int p1), .val (.int p2), .val (.int p3), .val (.int p4), .val (.int p5), .val (.int (p1 &&& (3 : Int32))), .val (.ref b_1), .val (.ref b_3), .val (.ref b_5), .val (.ref b_7), .val (.ref b_9), .val (.ref b_11), .val (.ref b_13), .val (.ref b_15), .val (.ref b17), .val (.int (1 : Int32)), .val (.int (1 : Int32)), .val (.ref b_15), .unset, .unset] [(.ref b_15)])) (fun _ k => XS.aload X79.here hx rfl (hb hby at_214) rfl rfl k) ?_
        refine Go.step (T' := T79) (f' := (mkF m 219 #[.val (.int p1), .val (.int p2), .val (.int p3), .val (.int p4), .val (.int p5), .val (.int (p1 &&& (3 : Int32))), .val (.ref b_1), .val (.ref b_3), .val (.ref b_5), .val (.ref b_7), .val (.ref b_9), .val (.ref b_11), .val (.ref b_13), .val (.ref b_15), .val (.ref b17), .val (.int (1 : Int32)), .val (.int (1 : Int32)), .val (.ref b_15), .unset, .unset] [])) (fun _ k => XS.ifnullNo X79.here hx rfl (hb hby at_216) rfl k) ?_
        refine Go.step (T' := T79) (f' := (mkF m 221 #[.val (.int p1), .val (.int p2), .val (.int p3), .val (.int p4), .val (.int p5), .val (.int (p1 &&& (3 : Int32))), .val (.ref b_1), .val (.ref b_3), .val (.ref b_5), .val (.ref b_7), .val (.ref b_9), .val (.ref b_11), .val (.ref b_13), .val (.ref b_15), .val (.ref b17), .val (.int (1 : Int32)), .val (.int (1 : Int32)), .val (.ref b_15), .unset, .unset] [(.ref b_15)])) (fun _ k => XS.aload X79.here hx rfl (hb hby at_219) rfl rfl k) ?_
        refine Go.step (T' := T79) (f' := (mkF m 223 #[.val (.int p1), .val (.int p2), .val (.int p3), .val (.int p4), .val (.int p5), .val (.int (p1 &&& (3 : Int32))), .val (.ref b_1), .val (.ref b_3), .val (.ref b_5), .val (.ref b_7), .val (.ref b_9), .val (.ref b_11), .val (.ref b_13), .val (.ref b_15), .val (.ref b17), .val (.int (1 : Int32)), .val (.int (1 : Int32)), .val (.ref b_15), .unset, .unset] [(.ref b_15), (.ref b_15)])) (fun _ k => XS.aload X79.here hx rfl (hb hby at_221) rfl rfl k) ?_
        have q82 : Exa Z T73.heap b_15 "java/lang/String" := (q75.keep Kq73)
        obtain ⟨cq81, kq81, q81a, q81b, q81c⟩ := isOf hZ eh79 q82
        obtain ⟨_, _, ⟨T81, L81, k81, n81⟩, -, X81, ⟨Lc81, hQ81, l81, y81, z81⟩, st81⟩ := X79.virtualBack hx (y := (⟨"java/lang/String", "equals", "(Ljava/lang/Object;)Z"⟩ : MethodName)) (z := (⟨"java/lang/String", "equals", "(Ljava/lang/Object;)Z"⟩ : MethodName)) hown (mvT hZ (hw _ (List.mem_of_getElem? (i := 73) rfl))) (mvT hZ (hw _ (List.mem_of_getElem? (i := 74) rfl))) (notFace_of_selects (args := #[]) (mvT hZ (hw _ (List.mem_of_getElem? (i := 76) rfl)))) (mvT hZ (hw _ (List.mem_of_getElem? (i := 76) rfl))) (mvT hZ (hw _ (List.mem_of_getElem? (i := 75) rfl))) (by decide) (backOf (W := 0) (rm14 l Z a0 hw [] b_15 T73.heap n0 Z76 ) hZ (hw _ (List.mem_of_getElem? (i := 77) rfl)) (hw _ (List.mem_of_getElem? (i := 2) rfl)) (by decide) (by decide)) q81a q81c (g := (mkF m 223 #[.val (.int p1), .val (.int p2), .val (.int p3), .val (.int p4), .val (.int p5), .val (.int (p1 &&& (3 : Int32))), .val (.ref b_1), .val (.ref b_3), .val (.ref b_5), .val (.ref b_7), .val (.ref b_9), .val (.ref b_11), .val (.ref b_13), .val (.ref b_15), .val (.ref b17), .val (.int (1 : Int32)), .val (.int (1 : Int32)), .val (.ref b_15), .unset, .unset] [(.ref b_15), (.ref b_15)])) rfl (by rw [hml]; rfl) (Steps.refl _) (argsL := [(.ref b_15)]) (rest := []) (lenOf pd_11 rfl) rfl (by show 2 * 0 + _ ≤ _; exact Nat.le_of_eq rfl) (hb hby at_223) (fun _ _ => ⟨rfl, eh79, (by decide : 19 + 0 ≤ _), (by decide : 59 + 0 ≤ _)⟩)
        dsimp only [Pt.U, Pt.locs, Pt.cells, Pt.slots] at X81 l81 y81 z81 st81 hQ81
        subst l81 y81 z81
        obtain ⟨rfl, Nq81, eh81⟩ := hQ81
        have N81 := Fr.app N79 Nq81
        refine Go.step (T' := T81) (f' := (mkF m 226 #[.val (.int p1), .val (.int p2), .val (.int p3), .val (.int p4), .val (.int p5), .val (.int (p1 &&& (3 : Int32))), .val (.ref b_1), .val (.ref b_3), .val (.ref b_5), .val (.ref b_7), .val (.ref b_9), .val (.ref b_11), .val (.ref b_13), .val (.ref b_15), .val (.ref b17), .val (.int (1 : Int32)), .val (.int (1 : Int32)), .val (.ref b_15), .unset, .unset] [(.int (1 : Int32))])) (fun _ k => st81.trans k) ?_
        refine Go.step (T' := T81) (f' := (mkF m 229 #[.val (.int p1), .val (.int p2), .val (.int p3), .val (.int p4), .val (.int p5), .val (.int (p1 &&& (3 : Int32))), .val (.ref b_1), .val (.ref b_3), .val (.ref b_5), .val (.ref b_7), .val (.ref b_9), .val (.ref b_11), .val (.ref b_13), .val (.ref b_15), .val (.ref b17), .val (.int (1 : Int32)), .val (.int (1 : Int32)), .val (.ref b_15), .unset, .unset] [])) (fun _ k => XS.ifNo X81.here hx rfl (hb hby at_226) rfl ((if0 _ _).trans (feq (by decide : ¬ ((1 : Int32) = (0 : Int32)))).1) k) ?_
        refine Go.step (T' := T81) (f' := (mkF m 230 #[.val (.int p1), .val (.int p2), .val (.int p3), .val (.int p4), .val (.int p5), .val (.int (p1 &&& (3 : Int32))), .val (.ref b_1), .val (.ref b_3), .val (.ref b_5), .val (.ref b_7), .val (.ref b_9), .val (.ref b_11), .val (.ref b_13), .val (.ref b_15), .val (.ref b17), .val (.int (1 : Int32)), .val (.int (1 : Int32)), .val (.ref b_15), .unset, .unset] [(.int (1 : Int32))])) (fun _ k => XS.iconst X81.here hx rfl (hb hby at_229) k) ?_
        refine Go.step (T' := T81) (f' := (mkF m 234 #[.val (.int p1), .val (.int p2), .val (.int p3), .val (.int p4), .val (.int p5), .val (.int (p1 &&& (3 : Int32))), .val (.ref b_1), .val (.ref b_3), .val (.ref b_5), .val (.ref b_7), .val (.ref b_9), .val (.ref b_11), .val (.ref b_13), .val (.ref b_15), .val (.ref b17), .val (.int (1 : Int32)), .val (.int (1 : Int32)), .val (.ref b_15), .unset, .unset] [(.int (1 : Int32))])) (fun _ k => XS.goto X81.here hx rfl (pc0 := 230) (pc' := 234) rfl (hb hby at_230) (by decide) (by decide) k) ?_
        refine Go.step (T' := T81) (f' := (mkF m 236 #[.val (.int p1), .val (.int p2), .val (.int p3), .val (.int p4), .val (.int p5), .val (.int (p1 &&& (3 : Int32))), .val (.ref b_1), .val (.ref b_3), .val (.ref b_5), .val (.ref b_7), .val (.ref b_9), .val (.ref b_11), .val (.ref b_13), .val (.ref b_15), .val (.ref b17), .val (.int (1 : Int32)), .val (.int (1 : Int32)), .val (.ref b_15), .val (.int (1 : Int32)), .unset] [])) (fun _ k => XS.istore X81.here hx rfl (hb hby at_234) rfl (l' := #[.val (.int p1), .val (.int p2), .val (.int p3), .val (.int p4), .val (.int p5), .val (.int (p1 &&& (3 : Int32))), .val (.ref b_1), .val (.ref b_3), .val (.ref b_5), .val (.ref b_7), .val (.ref b_9), .val (.ref b_11), .val (.ref b_13), .val (.ref b_15), .val (.ref b17), .val (.int (1 : Int32)), .val (.int (1 : Int32)), .val (.ref b_15), .val (.int (1 : Int32)), .unset]) rfl k) ?_
        refine Go.step (T' := T81) (f' := (mkF m 238 #[.val (.int p1), .val (.int p2), .val (.int p3), .val (.int p4), .val (.int p5), .val (.int (p1 &&& (3 : Int32))), .val (.ref b_1), .val (.ref b_3), .val (.ref b_5), .val (.ref b_7), .val (.ref b_9), .val (.ref b_11), .val (.ref b_13), .val (.ref b_15), .val (.ref b17), .val (.int (1 : Int32)), .val (.int (1 : Int32)), .val (.ref b_15), .val (.int (1 : Int32)), .unset] [(.ref b17)])) (fun _ k => XS.aload X81.here hx rfl (hb hby at_236) rfl rfl k) ?_
        refine Go.step (T' := T81) (f' := (mkF m 239 #[.val (.int p1), .val (.int p2), .val (.int p3), .val (.int p4), .val (.int p5), .val (.int (p1 &&& (3 : Int32))), .val (.ref b_1), .val (.ref b_3), .val (.ref b_5), .val (.ref b_7), .val (.ref b_9), .val (.ref b_11), .val (.ref b_13), .val (.ref b_15), .val (.ref b17), .val (.int (1 : Int32)), .val (.int (1 : Int32)), .val (.ref b_15), .val (.int (1 : Int32)), .unset] [(.int (0 : Int32)), (.ref b17)])) (fun _ k => XS.iconst X81.here hx rfl (hb hby at_238) k) ?_
        obtain ⟨cq83, kq83, q83a, q83b, q83c⟩ := isOf hZ eh81 q78
        obtain ⟨_, _, ⟨T83, L83, k83, n83⟩, -, X83, ⟨Lc83, hQ83, l83, y83, z83⟩, st83⟩ := X81.virtualBack hx (y := (⟨"com/example/tenderbook/tenderbook/Fields", "name", "(I)Ljava/lang/String;"⟩ : MethodName)) (z := (⟨"com/example/tenderbook/tenderbook/Fields", "name", "(I)Ljava/lang/String;"⟩ : MethodName)) hown (mvT hZ (hw _ (List.mem_of_getElem? (i := 78) rfl))) (mvT hZ (hw _ (List.mem_of_getElem? (i := 79) rfl))) (notFace_of_selects (args := #[]) (mvT hZ (hw _ (List.mem_of_getElem? (i := 81) rfl)))) (mvT hZ (hw _ (List.mem_of_getElem? (i := 81) rfl))) (mvT hZ (hw _ (List.mem_of_getElem? (i := 80) rfl))) (by decide) (backOf (W := 0) (rm15 l Z a0 hw [] b17 n_19 kn_19 b_13 T73.heap n0 Z76 r73_0 r73_3) hZ (hw _ (List.mem_of_getElem? (i := 82) rfl)) (hw _ (List.mem_of_getElem? (i := 28) rfl)) (by decide) (by decide)) q83a q83c (g := (mkF m 239 #[.val (.int p1), .val (.int p2), .val (.int p3), .val (.int p4), .val (.int p5), .val (.int (p1 &&& (3 : Int32))), .val (.ref b_1), .val (.ref b_3), .val (.ref b_5), .val (.ref b_7), .val (.ref b_9), .val (.ref b_11), .val (.ref b_13), .val (.ref b_15), .val (.ref b17), .val (.int (1 : Int32)), .val (.int (1 : Int32)), .val (.ref b_15), .val (.int (1 : Int32)), .unset] [(.int (0 : Int32)), (.ref b17)])) rfl (by rw [hml]; rfl) (Steps.refl _) (argsL := [(.int (0 : Int32))]) (rest := []) (lenOf pd_12 rfl) rfl (by show 2 * 0 + _ ≤ _; exact Nat.le_of_eq rfl) (hb hby at_239) (fun _ _ => ⟨rfl, eh81, (by decide : 19 + 0 ≤ _), (by decide : 59 + 0 ≤ _)⟩)
        dsimp only [Pt.U, Pt.locs, Pt.cells, Pt.slots] at X83 l83 y83 z83 st83 hQ83
        subst l83 y83 z83
        obtain ⟨rfl, Nq83, eh83⟩ := hQ83
        have N83 := Fr.app N81 Nq83
        refine Go.step (T' := T83) (f' := (mkF m 242 #[.val (.int p1), .val (.int p2), .val (.int p3), .val (.int p4), .val (.int p5), .val (.int (p1 &&& (3 : Int32))), .val (.ref b_1), .val (.ref b_3), .val (.ref b_5), .val (.ref b_7), .val (.ref b_9), .val (.ref b_11), .val (.ref b_13), .val (.ref b_15), .val (.ref b17), .val (.int (1 : Int32)), .val (.int (1 : Int32)), .val (.ref b_15), .val (.int (1 : Int32)), .unset] [(.ref b_13)])) (fun _ k => st83.trans k) ?_
        refine Go.step (T' := T83) (f' := (mkF m 244 #[.val (.int p1), .val (.int p2), .val (.int p3), .val (.int p4), .val (.int p5), .val (.int (p1 &&& (3 : Int32))), .val (.ref b_1), .val (.ref b_3), .val (.ref b_5), .val (.ref b_7), .val (.ref b_9), .val (.ref b_11), .val (.ref b_13), .val (.ref b_15), .val (.ref b17), .val (.int (1 : Int32)), .val (.int (1 : Int32)), .val (.ref b_15), .val (.int (1 : Int32)), .unset] [(.ref b_13), (.ref b_13)])) (fun _ k => XS.aload X83.here hx rfl (hb hby at_242) rfl rfl k) ?_
        refine Go.step (T' := T83) (f' := (mkF m 247 #[.val (.int p1), .val (.int p2), .val (.int p3), .val (.int p4), .val (.int p5), .val (.int (p1 &&& (3 : Int32))), .val (.ref b_1), .val (.ref b_3), .val (.ref b_5), .val (.ref b_7), .val (.ref b_9), .val (.ref b_11), .val (.ref b_13), .val (.ref b_15), .val (.ref b17), .val (.int (1 : Int32)), .val (.int (1 : Int32)), .val (.ref b_15), .val (.int (1 : Int32)), .unset] [])) (fun _ k => Jvm.RoadKit.acmp (g := (mkF m 244 #[.val (.int p1), .val (.int p2), .val (.int p3), .val (.int p4), .val (.int p5), .val (.int (p1 &&& (3 : Int32))), .val (.ref b_1), .val (.ref b_3), .val (.ref b_5), .val (.ref b_7), .val (.ref b_9), .val (.ref b_11), .val (.ref b_13), .val (.ref b_15), .val (.ref b17), .val (.int (1 : Int32)), .val (.int (1 : Int32)), .val (.ref b_15), .val (.int (1 : Int32)), .unset] [(.ref b_13), (.ref b_13)])) X83 hx rfl rfl rfl (pc0 := 244) (pc' := 247) (same := true) rfl (hb hby at_244) rfl (decide_eq_true rfl) (by decide) (by decide) k) ?_
        refine Go.step (T' := T83) (f' := (mkF m 248 #[.val (.int p1), .val (.int p2), .val (.int p3), .val (.int p4), .val (.int p5), .val (.int (p1 &&& (3 : Int32))), .val (.ref b_1), .val (.ref b_3), .val (.ref b_5), .val (.ref b_7), .val (.ref b_9), .val (.ref b_11), .val (.ref b_13), .val (.ref b_15), .val (.ref b17), .val (.int (1 : Int32)), .val (.int (1 : Int32)), .val (.ref b_15), .val (.int (1 : Int32)), .unset] [(.int (1 : Int32))])) (fun _ k => XS.iconst X83.here hx rfl (hb hby at_247) k) ?_
        refine Go.step (T' := T83) (f' := (mkF m 252 #[.val (.int p1), .val (.int p2), .val (.int p3), .val (.int p4), .val (.int p5), .val (.int (p1 &&& (3 : Int32))), .val (.ref b_1), .val (.ref b_3), .val (.ref b_5), .val (.ref b_7), .val (.ref b_9), .val (.ref b_11), .val (.ref b_13), .val (.ref b_15), .val (.ref b17), .val (.int (1 : Int32)), .val (.int (1 : Int32)), .val (.ref b_15), .val (.int (1 : Int32)), .unset] [(.int (1 : Int32))])) (fun _ k => XS.goto X83.here hx rfl (pc0 := 248) (pc' := 252) rfl (hb hby at_248) (by decide) (by decide) k) ?_
        refine Go.step (T' := T83) (f' := (mkF m 254 #[.val (.int p1), .val (.int p2), .val (.int p3), .val (.int p4), .val (.int p5), .val (.int (p1 &&& (3 : Int32))), .val (.ref b_1), .val (.ref b_3), .val (.ref b_5), .val (.ref b_7), .val (.ref b_9), .val (.ref b_11), .val (.ref b_13), .val (.ref b_15), .val (.ref b17), .val (.int (1 : Int32)), .val (.int (1 : Int32)), .val (.ref b_15), .val (.int (1 : Int32)), .val (.int (1 : Int32))] [])) (fun _ k => XS.istore X83.here hx rfl (hb hby at_252) rfl (l' := #[.val (.int p1), .val (.int p2), .val (.int p3), .val (.int p4), .val (.int p5), .val (.int (p1 &&& (3 : Int32))), .val (.ref b_1), .val (.ref b_3), .val (.ref b_5), .val (.ref b_7), .val (.ref b_9), .val (.ref b_11), .val (.ref b_13), .val (.ref b_15), .val (.ref b17), .val (.int (1 : Int32)), .val (.int (1 : Int32)), .val (.ref b_15), .val (.int (1 : Int32)), .val (.int (1 : Int32))]) rfl k) ?_
        refine Go.step (T' := T83) (f' := (mkF m 256 #[.val (.int p1), .val (.int p2), .val (.int p3), .val (.int p4), .val (.int p5), .val (.int (p1 &&& (3 : Int32))), .val (.ref b_1), .val (.ref b_3), .val (.ref b_5), .val (.ref b_7), .val (.ref b_9), .val (.ref b_11), .val (.ref b_13), .val (.ref b_15), .val (.ref b17), .val (.int (1 : Int32)), .val (.int (1 : Int32)), .val (.ref b_15), .val (.int (1 : Int32)), .val (.int (1 : Int32))] [(.int (1 : Int32))])) (fun _ k => XS.iload X83.here hx rfl (hb hby at_254) rfl k) ?_
        refine Go.step (T' := T83) (f' := (mkF m 259 #[.val (.int p1), .val (.int p2), .val (.int p3), .val (.int p4), .val (.int p5), .val (.int (p1 &&& (3 : Int32))), .val (.ref b_1), .val (.ref b_3), .val (.ref b_5), .val (.ref b_7), .val (.ref b_9), .val (.ref b_11), .val (.ref b_13), .val (.ref b_15), .val (.ref b17), .val (.int (1 : Int32)), .val (.int (1 : Int32)), .val (.ref b_15), .val (.int (1 : Int32)), .val (.int (1 : Int32))] [])) (fun _ k => XS.ifNo X83.here hx rfl (hb hby at_256) rfl ((if0 _ _).trans (feq (by decide : ¬ ((1 : Int32) = (0 : Int32)))).1) k) ?_
        refine Go.step (T' := T83) (f' := (mkF m 261 #[.val (.int p1), .val (.int p2), .val (.int p3), .val (.int p4), .val (.int p5), .val (.int (p1 &&& (3 : Int32))), .val (.ref b_1), .val (.ref b_3), .val (.ref b_5), .val (.ref b_7), .val (.ref b_9), .val (.ref b_11), .val (.ref b_13), .val (.ref b_15), .val (.ref b17), .val (.int (1 : Int32)), .val (.int (1 : Int32)), .val (.ref b_15), .val (.int (1 : Int32)), .val (.int (1 : Int32))] [(.int (1 : Int32))])) (fun _ k => XS.iload X83.here hx rfl (hb hby at_259) rfl k) ?_
        refine Go.step (T' := T83) (f' := (mkF m 264 #[.val (.int p1), .val (.int p2), .val (.int p3), .val (.int p4), .val (.int p5), .val (.int (p1 &&& (3 : Int32))), .val (.ref b_1), .val (.ref b_3), .val (.ref b_5), .val (.ref b_7), .val (.ref b_9), .val (.ref b_11), .val (.ref b_13), .val (.ref b_15), .val (.ref b17), .val (.int (1 : Int32)), .val (.int (1 : Int32)), .val (.ref b_15), .val (.int (1 : Int32)), .val (.int (1 : Int32))] [])) (fun _ k => XS.ifNo X83.here hx rfl (hb hby at_261) rfl ((if0 _ _).trans (feq (by decide : ¬ ((1 : Int32) = (0 : Int32)))).1) k) ?_
        refine Go.step (T' := T83) (f' := (mkF m 266 #[.val (.int p1), .val (.int p2), .val (.int p3), .val (.int p4), .val (.int p5), .val (.int (p1 &&& (3 : Int32))), .val (.ref b_1), .val (.ref b_3), .val (.ref b_5), .val (.ref b_7), .val (.ref b_9), .val (.ref b_11), .val (.ref b_13), .val (.ref b_15), .val (.ref b17), .val (.int (1 : Int32)), .val (.int (1 : Int32)), .val (.ref b_15), .val (.int (1 : Int32)), .val (.int (1 : Int32))] [(.int (1 : Int32))])) (fun _ k => XS.iload X83.here hx rfl (hb hby at_264) rfl k) ?_
        refine Go.step (T' := T83) (f' := (mkF m 269 #[.val (.int p1), .val (.int p2), .val (.int p3), .val (.int p4), .val (.int p5), .val (.int (p1 &&& (3 : Int32))), .val (.ref b_1), .val (.ref b_3), .val (.ref b_5), .val (.ref b_7), .val (.ref b_9), .val (.ref b_11), .val (.ref b_13), .val (.ref b_15), .val (.ref b17), .val (.int (1 : Int32)), .val (.int (1 : Int32)), .val (.ref b_15), .val (.int (1 : Int32)), .val (.int (1 : Int32))] [])) (fun _ k => XS.ifNo X83.here hx rfl (hb hby at_266) rfl ((if0 _ _).trans (feq (by decide : ¬ ((1 : Int32) = (0 : Int32)))).1) k) ?_
        refine Go.step (T' := T83) (f' := (mkF m 271 #[.val (.int p1), .val (.int p2), .val (.int p3), .val (.int p4), .val (.int p5), .val (.int (p1 &&& (3 : Int32))), .val (.ref b_1), .val (.ref b_3), .val (.ref b_5), .val (.ref b_7), .val (.ref b_9), .val (.ref b_11), .val (.ref b_13), .val (.ref b_15), .val (.ref b17), .val (.int (1 : Int32)), .val (.int (1 : Int32)), .val (.ref b_15), .val (.int (1 : Int32)), .val (.int (1 : Int32))] [(.int (1 : Int32))])) (fun _ k => XS.iload X83.here hx rfl (hb hby at_269) rfl k) ?_
        refine Go.step (T' := T83) (f' := (mkF m 274 #[.val (.int p1), .val (.int p2), .val (.int p3), .val (.int p4), .val (.int p5), .val (.int (p1 &&& (3 : Int32))), .val (.ref b_1), .val (.ref b_3), .val (.ref b_5), .val (.ref b_7), .val (.ref b_9), .val (.ref b_11), .val (.ref b_13), .val (.ref b_15), .val (.ref b17), .val (.int (1 : Int32)), .val (.int (1 : Int32)), .val (.ref b_15), .val (.int (1 : Int32)), .val (.int (1 : Int32))] [])) (fun _ k => XS.ifNo X83.here hx rfl (hb hby at_271) rfl ((if0 _ _).trans (feq (by decide : ¬ ((1 : Int32) = (0 : Int32)))).1) k) ?_
        refine Go.step (T' := T83) (f' := (mkF m 275 #[.val (.int p1), .val (.int p2), .val (.int p3), .val (.int p4), .val (.int p5), .val (.int (p1 &&& (3 : Int32))), .val (.ref b_1), .val (.ref b_3), .val (.ref b_5), .val (.ref b_7), .val (.ref b_9), .val (.ref b_11), .val (.ref b_13), .val (.ref b_15), .val (.ref b17), .val (.int (1 : Int32)), .val (.int (1 : Int32)), .val (.ref b_15), .val (.int (1 : Int32)), .val (.int (1 : Int32))] [(.int (1 : Int32))])) (fun _ k => XS.iconst X83.here hx rfl (hb hby at_274) k) ?_
        refine Go.step (T' := T83) (f' := (mkF m 279 #[.val (.int p1), .val (.int p2), .val (.int p3), .val (.int p4), .val (.int p5), .val (.int (p1 &&& (3 : Int32))), .val (.ref b_1), .val (.ref b_3), .val (.ref b_5), .val (.ref b_7), .val (.ref b_9), .val (.ref b_11), .val (.ref b_13), .val (.ref b_15), .val (.ref b17), .val (.int (1 : Int32)), .val (.int (1 : Int32)), .val (.ref b_15), .val (.int (1 : Int32)), .val (.int (1 : Int32))] [(.int (1 : Int32))])) (fun _ k => XS.goto X83.here hx rfl (pc0 := 275) (pc' := 279) rfl (hb hby at_275) (by decide) (by decide) k) ?_
        refine goN X83 hx (t := .boolean) Bd.returns (by simp) Bd.notSynchronized (hb hby at_279) ?_ (by decide) (by decide)
        show Q_rm0 Z p1 p2 p3 p4 p5 cs h0 n0 _ T83.heap _
        rw [eh83]
        exact ⟨rfl, N83⟩
  · refine Go.step (T' := T19) (f' := (mkF m 130 #[.val (.int p1), .val (.int p2), .val (.int p3), .val (.int p4), .val (.int p5), .val (.int (p1 &&& (3 : Int32))), .val (.ref b_1), .val (.ref b_3), .val (.ref b_5), .val (.ref b_7), .val (.ref b_9), .val (.ref b_11), .val (.ref b_13), .val (.ref b_15), .val (.ref b17), .unset, .unset, .unset, .unset, .unset] [])) (fun _ k => XS.ifYes X19.here hx rfl (pc0 := 118) (pc' := 130) rfl (hb hby at_118) rfl ((if0 _ _).trans (flt hc118).2.2.2) (by decide) (by decide) k) ?_
    refine Go.step (T' := T19) (f' := (mkF m 132 #[.val (.int p1), .val (.int p2), .val (.int p3), .val (.int p4), .val (.int p5), .val (.int (p1 &&& (3 : Int32))), .val (.ref b_1), .val (.ref b_3), .val (.ref b_5), .val (.ref b_7), .val (.ref b_9), .val (.ref b_11), .val (.ref b_13), .val (.ref b_15), .val (.ref b17), .unset, .unset, .unset, .unset, .unset] [(.int (p1 &&& (3 : Int32)))])) (fun _ k => XS.iload X19.here hx rfl (hb hby at_130) rfl k) ?_
    refine Go.step (T' := T19) (f' := (mkF m 133 #[.val (.int p1), .val (.int p2), .val (.int p3), .val (.int p4), .val (.int p5), .val (.int (p1 &&& (3 : Int32))), .val (.ref b_1), .val (.ref b_3), .val (.ref b_5), .val (.ref b_7), .val (.ref b_9), .val (.ref b_11), .val (.ref b_13), .val (.ref b_15), .val (.ref b17), .unset, .unset, .unset, .unset, .unset] [(.int (1 : Int32)), (.int (p1 &&& (3 : Int32)))])) (fun _ k => XS.iconst X19.here hx rfl (hb hby at_132) k) ?_
    by_cases hc133 : (1 : Int32) < (p1 &&& (3 : Int32))
    · exact absurd (show False from (by simp only [Int32.lt_iff_toInt_lt, ← Int32.toInt_inj, Int32.reduceToInt] at hc118 hc133 <;> omega)) id
    · refine Go.step (T' := T19) (f' := (mkF m 145 #[.val (.int p1), .val (.int p2), .val (.int p3), .val (.int p4), .val (.int p5), .val (.int (p1 &&& (3 : Int32))), .val (.ref b_1), .val (.ref b_3), .val (.ref b_5), .val (.ref b_7), .val (.ref b_9), .val (.ref b_11), .val (.ref b_13), .val (.ref b_15), .val (.ref b17), .unset, .unset, .unset, .unset, .unset] [])) (fun _ k => XS.icmpYes X19.here hx rfl (pc0 := 133) (pc' := 145) rfl (hb hby at_133) rfl (flt hc133).2.2.2 (by decide) (by decide) k) ?_
      refine Go.step (T' := T19) (f' := (mkF m 147 #[.val (.int p1), .val (.int p2), .val (.int p3), .val (.int p4), .val (.int p5), .val (.int (p1 &&& (3 : Int32))), .val (.ref b_1), .val (.ref b_3), .val (.ref b_5), .val (.ref b_7), .val (.ref b_9), .val (.ref b_11), .val (.ref b_13), .val (.ref b_15), .val (.ref b17), .unset, .unset, .unset, .unset, .unset] [(.int (p1 &&& (3 : Int32)))])) (fun _ k => XS.iload X19.here hx rfl (hb hby at_145) rfl k) ?_
      refine Go.step (T' := T19) (f' := (mkF m 148 #[.val (.int p1), .val (.int p2), .val (.int p3), .val (.int p4), .val (.int p5), .val (.int (p1 &&& (3 : Int32))), .val (.ref b_1), .val (.ref b_3), .val (.ref b_5), .val (.ref b_7), .val (.ref b_9), .val (.ref b_11), .val (.ref b_13), .val (.ref b_15), .val (.ref b17), .unset, .unset, .unset, .unset, .unset] [(.int (2 : Int32)), (.int (p1 &&& (3 : Int32)))])) (fun _ k => XS.iconst X19.here hx rfl (hb hby at_147) k) ?_
      by_cases hc148 : (2 : Int32) < (p1 &&& (3 : Int32))
      · exact absurd (show False from (by simp only [Int32.lt_iff_toInt_lt, ← Int32.toInt_inj, Int32.reduceToInt] at hc118 hc133 hc148 <;> omega)) id
      · refine Go.step (T' := T19) (f' := (mkF m 160 #[.val (.int p1), .val (.int p2), .val (.int p3), .val (.int p4), .val (.int p5), .val (.int (p1 &&& (3 : Int32))), .val (.ref b_1), .val (.ref b_3), .val (.ref b_5), .val (.ref b_7), .val (.ref b_9), .val (.ref b_11), .val (.ref b_13), .val (.ref b_15), .val (.ref b17), .unset, .unset, .unset, .unset, .unset] [])) (fun _ k => XS.icmpYes X19.here hx rfl (pc0 := 148) (pc' := 160) rfl (hb hby at_148) rfl (flt hc148).2.2.2 (by decide) (by decide) k) ?_
        refine Go.step (T' := T19) (f' := (mkF m 162 #[.val (.int p1), .val (.int p2), .val (.int p3), .val (.int p4), .val (.int p5), .val (.int (p1 &&& (3 : Int32))), .val (.ref b_1), .val (.ref b_3), .val (.ref b_5), .val (.ref b_7), .val (.ref b_9), .val (.ref b_11), .val (.ref b_13), .val (.ref b_15), .val (.ref b17), .unset, .unset, .unset, .unset, .unset] [(.ref b17)])) (fun _ k => XS.aload X19.here hx rfl (hb hby at_160) rfl rfl k) ?_
        have q85 : Exa Z T19.heap b17 "com/example/tenderbook/tenderbook/Fields" := (A17.keep Kq19)
        obtain ⟨cq84, kq84, q84a, q84b, q84c⟩ := isOf hZ rfl q85
        obtain ⟨_, _, ⟨T84, L84, k84, n84⟩, -, X84, ⟨Lc84, hQ84, l84, y84, z84⟩, st84⟩ := X19.virtualBack hx (y := (⟨"com/example/tenderbook/tenderbook/Fields", "clear", "()V"⟩ : MethodName)) (z := (⟨"com/example/tenderbook/tenderbook/Fields", "clear", "()V"⟩ : MethodName)) hown (mvT hZ (hw _ (List.mem_of_getElem? (i := 39) rfl))) (mvT hZ (hw _ (List.mem_of_getElem? (i := 40) rfl))) (notFace_of_selects (args := #[]) (mvT hZ (hw _ (List.mem_of_getElem? (i := 42) rfl)))) (mvT hZ (hw _ (List.mem_of_getElem? (i := 42) rfl))) (mvT hZ (hw _ (List.mem_of_getElem? (i := 41) rfl))) (by decide) (backOf (W := 0) (rmClr0 l Z a0 hw [] b17 n_19 v_19 kn_19 kv_19 T19.heap n0 Z20 q85 r19_5 r19_6 r19_7 r19_8 r19_9 (Ne.symm (Nat.ne_of_lt (Nat.lt_of_lt_of_le A17.lt r19_0))) (Ne.symm (Nat.ne_of_lt (Nat.lt_of_lt_of_le A17.lt r19_1))) r19_2 g_b17 g_n_19 g_v_19) hZ (hw _ (List.mem_of_getElem? (i := 43) rfl)) (hw _ (List.mem_of_getElem? (i := 28) rfl)) (by decide) (by decide)) q84a q84c (g := (mkF m 162 #[.val (.int p1), .val (.int p2), .val (.int p3), .val (.int p4), .val (.int p5), .val (.int (p1 &&& (3 : Int32))), .val (.ref b_1), .val (.ref b_3), .val (.ref b_5), .val (.ref b_7), .val (.ref b_9), .val (.ref b_11), .val (.ref b_13), .val (.ref b_15), .val (.ref b17), .unset, .unset, .unset, .unset, .unset] [(.ref b17)])) rfl (by rw [hml]; rfl) (Steps.refl _) (argsL := []) (rest := []) (lenOf pd_7 rfl) rfl (by show 2 * 0 + _ ≤ _; exact Nat.le_of_eq rfl) (hb hby at_162) (fun _ _ => ⟨rfl, rfl, (by decide : 19 + 0 ≤ _), (by decide : 59 + 0 ≤ _)⟩)
        dsimp only [Pt.U, Pt.locs, Pt.cells, Pt.slots] at X84 l84 y84 z84 st84 hQ84
        subst l84 y84 z84
        obtain ⟨rfl, Nq84, Kq84, r84_0, r84_1, r84_2, r84_3, r84_4⟩ := hQ84
        have N84 := Fr.app N19 Nq84
        have Z86 : n0 ≤ T84.heap.size := Nat.le_trans Z20 Kq84.1
        have O86 : Old Z n0 T84.heap := O20.keep Kq84 (allS g_b17 (allS g_n_19 (allS g_v_19 all0)))
        refine Go.step (T' := T84) (f' := (mkF m 165 #[.val (.int p1), .val (.int p2), .val (.int p3), .val (.int p4), .val (.int p5), .val (.int (p1 &&& (3 : Int32))), .val (.ref b_1), .val (.ref b_3), .val (.ref b_5), .val (.ref b_7), .val (.ref b_9), .val (.ref b_11), .val (.ref b_13), .val (.ref b_15), .val (.ref b17), .unset, .unset, .unset, .unset, .unset] [])) (fun _ k => st84.trans k) ?_
        refine Go.step (T' := T84) (f' := (mkF m 167 #[.val (.int p1), .val (.int p2), .val (.int p3), .val (.int p4), .val (.int p5), .val (.int (p1 &&& (3 : Int32))), .val (.ref b_1), .val (.ref b_3), .val (.ref b_5), .val (.ref b_7), .val (.ref b_9), .val (.ref b_11), .val (.ref b_13), .val (.ref b_15), .val (.ref b17), .unset, .unset, .unset, .unset, .unset] [(.ref b17)])) (fun _ k => XS.aload X84.here hx rfl (hb hby at_165) rfl rfl k) ?_
        have q88 : Exa Z T84.heap b17 "com/example/tenderbook/tenderbook/Fields" := (q85.keep Kq84)
        obtain ⟨cq87, kq87, q87a, q87b, q87c⟩ := isOf hZ rfl q88
        obtain ⟨_, _, ⟨T87, L87, k87, n87⟩, -, X87, ⟨Lc87, hQ87, l87, y87, z87⟩, st87⟩ := X84.virtualBack hx (y := (⟨"com/example/tenderbook/tenderbook/Fields", "size", "()I"⟩ : MethodName)) (z := (⟨"com/example/tenderbook/tenderbook/Fields", "size", "()I"⟩ : MethodName)) hown (mvT hZ (hw _ (List.mem_of_getElem? (i := 53) rfl))) (mvT hZ (hw _ (List.mem_of_getElem? (i := 54) rfl))) (notFace_of_selects (args := #[]) (mvT hZ (hw _ (List.mem_of_getElem? (i := 56) rfl)))) (mvT hZ (hw _ (List.mem_of_getElem? (i := 56) rfl))) (mvT hZ (hw _ (List.mem_of_getElem? (i := 55) rfl))) (by decide) (backOf (W := 0) (rm10 l Z a0 hw [] b17 (0 : Int32) T84.heap n0 Z86 r84_2) hZ (hw _ (List.mem_of_getElem? (i := 57) rfl)) (hw _ (List.mem_of_getElem? (i := 28) rfl)) (by decide) (by decide)) q87a q87c (g := (mkF m 167 #[.val (.int p1), .val (.int p2), .val (.int p3), .val (.int p4), .val (.int p5), .val (.int (p1 &&& (3 : Int32))), .val (.ref b_1), .val (.ref b_3), .val (.ref b_5), .val (.ref b_7), .val (.ref b_9), .val (.ref b_11), .val (.ref b_13), .val (.ref b_15), .val (.ref b17), .unset, .unset, .unset, .unset, .unset] [(.ref b17)])) rfl (by rw [hml]; rfl) (Steps.refl _) (argsL := []) (rest := []) (lenOf pd_9 rfl) rfl (by show 2 * 0 + _ ≤ _; exact Nat.le_of_eq rfl) (hb hby at_167) (fun _ _ => ⟨rfl, rfl, (by decide : 19 + 0 ≤ _), (by decide : 59 + 0 ≤ _)⟩)
        dsimp only [Pt.U, Pt.locs, Pt.cells, Pt.slots] at X87 l87 y87 z87 st87 hQ87
        subst l87 y87 z87
        obtain ⟨rfl, Nq87, eh87⟩ := hQ87
        have N87 := Fr.app N84 Nq87
        refine Go.step (T' := T87) (f' := (mkF m 170 #[.val (.int p1), .val (.int p2), .val (.int p3), .val (.int p4), .val (.int p5), .val (.int (p1 &&& (3 : Int32))), .val (.ref b_1), .val (.ref b_3), .val (.ref b_5), .val (.ref b_7), .val (.ref b_9), .val (.ref b_11), .val (.ref b_13), .val (.ref b_15), .val (.ref b17), .unset, .unset, .unset, .unset, .unset] [(.int (0 : Int32))])) (fun _ k => st87.trans k) ?_
        refine Go.step (T' := T87) (f' := (mkF m 173 #[.val (.int p1), .val (.int p2), .val (.int p3), .val (.int p4), .val (.int p5), .val (.int (p1 &&& (3 : Int32))), .val (.ref b_1), .val (.ref b_3), .val (.ref b_5), .val (.ref b_7), .val (.ref b_9), .val (.ref b_11), .val (.ref b_13), .val (.ref b_15), .val (.ref b17), .unset, .unset, .unset, .unset, .unset] [])) (fun _ k => XS.ifNo X87.here hx rfl (hb hby at_170) rfl ((if0 _ _).trans (teq (by decide : (0 : Int32) = (0 : Int32))).2) k) ?_
        refine Go.step (T' := T87) (f' := (mkF m 174 #[.val (.int p1), .val (.int p2), .val (.int p3), .val (.int p4), .val (.int p5), .val (.int (p1 &&& (3 : Int32))), .val (.ref b_1), .val (.ref b_3), .val (.ref b_5), .val (.ref b_7), .val (.ref b_9), .val (.ref b_11), .val (.ref b_13), .val (.ref b_15), .val (.ref b17), .unset, .unset, .unset, .unset, .unset] [(.int (1 : Int32))])) (fun _ k => XS.iconst X87.here hx rfl (hb hby at_173) k) ?_
        refine Go.step (T' := T87) (f' := (mkF m 178 #[.val (.int p1), .val (.int p2), .val (.int p3), .val (.int p4), .val (.int p5), .val (.int (p1 &&& (3 : Int32))), .val (.ref b_1), .val (.ref b_3), .val (.ref b_5), .val (.ref b_7), .val (.ref b_9), .val (.ref b_11), .val (.ref b_13), .val (.ref b_15), .val (.ref b17), .unset, .unset, .unset, .unset, .unset] [(.int (1 : Int32))])) (fun _ k => XS.goto X87.here hx rfl (pc0 := 174) (pc' := 178) rfl (hb hby at_174) (by decide) (by decide) k) ?_
        refine Go.step (T' := T87) (f' := (mkF m 180 #[.val (.int p1), .val (.int p2), .val (.int p3), .val (.int p4), .val (.int p5), .val (.int (p1 &&& (3 : Int32))), .val (.ref b_1), .val (.ref b_3), .val (.ref b_5), .val (.ref b_7), .val (.ref b_9), .val (.ref b_11), .val (.ref b_13), .val (.ref b_15), .val (.ref b17), .val (.int (1 : Int32)), .unset, .unset, .unset, .unset] [])) (fun _ k => XS.istore X87.here hx rfl (hb hby at_178) rfl (l' := #[.val (.int p1), .val (.int p2), .val (.int p3), .val (.int p4), .val (.int p5), .val (.int (p1 &&& (3 : Int32))), .val (.ref b_1), .val (.ref b_3), .val (.ref b_5), .val (.ref b_7), .val (.ref b_9), .val (.ref b_11), .val (.ref b_13), .val (.ref b_15), .val (.ref b17), .val (.int (1 : Int32)), .unset, .unset, .unset, .unset]) rfl k) ?_
        refine Go.step (T' := T87) (f' := (mkF m 182 #[.val (.int p1), .val (.int p2), .val (.int p3), .val (.int p4), .val (.int p5), .val (.int (p1 &&& (3 : Int32))), .val (.ref b_1), .val (.ref b_3), .val (.ref b_5), .val (.ref b_7), .val (.ref b_9), .val (.ref b_11), .val (.ref b_13), .val (.ref b_15), .val (.ref b17), .val (.int (1 : Int32)), .unset, .unset, .unset, .unset] [(.ref b17)])) (fun _ k => XS.aload X87.here hx rfl (hb hby at_180) rfl rfl k) ?_
        refine Go.step (T' := T87) (f' := (mkF m 184 #[.val (.int p1), .val (.int p2), .val (.int p3), .val (.int p4), .val (.int p5), .val (.int (p1 &&& (3 : Int32))), .val (.ref b_1), .val (.ref b_3), .val (.ref b_5), .val (.ref b_7), .val (.ref b_9), .val (.ref b_11), .val (.ref b_13), .val (.ref b_15), .val (.ref b17), .val (.int (1 : Int32)), .unset, .unset, .unset, .unset] [(.ref b_13), (.ref b17)])) (fun _ k => XS.aload X87.here hx rfl (hb hby at_182) rfl rfl k) ?_
        refine Go.step (T' := T87) (f' := (mkF m 186 #[.val (.int p1), .val (.int p2), .val (.int p3), .val (.int p4), .val (.int p5), .val (.int (p1 &&& (3 : Int32))), .val (.ref b_1), .val (.ref b_3), .val (.ref b_5), .val (.ref b_7), .val (.ref b_9), .val (.ref b_11), .val (.ref b_13), .val (.ref b_15), .val (.ref b17), .val (.int (1 : Int32)), .unset, .unset, .unset, .unset] [(.ref b_15), (.ref b_13), (.ref b17)])) (fun _ k => XS.aload X87.here hx rfl (hb hby at_184) rfl rfl k) ?_
        have q90 : Exa Z T84.heap b_13 "java/lang/String" := ((((r13_1.keep Kq15).ext E17).keep Kq19).keep Kq84)
        have q91 : Exa Z T84.heap b_15 "java/lang/String" := (((r15_1.ext E17).keep Kq19).keep Kq84)
        obtain ⟨cq89, kq89, q89a, q89b, q89c⟩ := isOf hZ eh87 q88
        obtain ⟨_, _, ⟨T89, L89, k89, n89⟩, -, X89, ⟨Lc89, hQ89, l89, y89, z89⟩, st89⟩ := X87.virtualBack hx (y := (⟨"com/example/tenderbook/tenderbook/Fields", "add", "(Ljava/lang/String;Ljava/lang/String;)V"⟩ : MethodName)) (z := (⟨"com/example/tenderbook/tenderbook/Fields", "add", "(Ljava/lang/String;Ljava/lang/String;)V"⟩ : MethodName)) hown (mvT hZ (hw _ (List.mem_of_getElem? (i := 58) rfl))) (mvT hZ (hw _ (List.mem_of_getElem? (i := 59) rfl))) (notFace_of_selects (args := #[]) (mvT hZ (hw _ (List.mem_of_getElem? (i := 61) rfl)))) (mvT hZ (hw _ (List.mem_of_getElem? (i := 61) rfl))) (mvT hZ (hw _ (List.mem_of_getElem? (i := 60) rfl))) (by decide) (backOf (W := 0) (rmAdd0 l Z a0 hw [] b17 b_13 b_15 n_19 v_19 kn_19 kv_19 T84.heap n0 Z86 q88 q90 q91 r84_0 r84_1 r84_2 r84_3 r84_4 (Ne.symm (Nat.ne_of_lt (Nat.lt_of_lt_of_le A17.lt r19_0))) (Ne.symm (Nat.ne_of_lt (Nat.lt_of_lt_of_le A17.lt r19_1))) r19_2 r19_3 r19_4 g_b17 g_n_19 g_v_19) hZ (hw _ (List.mem_of_getElem? (i := 62) rfl)) (hw _ (List.mem_of_getElem? (i := 28) rfl)) (by decide) (by decide)) q89a q89c (g := (mkF m 186 #[.val (.int p1), .val (.int p2), .val (.int p3), .val (.int p4), .val (.int p5), .val (.int (p1 &&& (3 : Int32))), .val (.ref b_1), .val (.ref b_3), .val (.ref b_5), .val (.ref b_7), .val (.ref b_9), .val (.ref b_11), .val (.ref b_13), .val (.ref b_15), .val (.ref b17), .val (.int (1 : Int32)), .unset, .unset, .unset, .unset] [(.ref b_15), (.ref b_13), (.ref b17)])) rfl (by rw [hml]; rfl) (Steps.refl _) (argsL := [(.ref b_13), (.ref b_15)]) (rest := []) (lenOf pd_8 rfl) rfl (by show 2 * 0 + _ ≤ _; exact Nat.le_of_eq rfl) (hb hby at_186) (fun _ _ => ⟨rfl, eh87, (by decide : 19 + 0 ≤ _), (by decide : 59 + 0 ≤ _)⟩)
        dsimp only [Pt.U, Pt.locs, Pt.cells, Pt.slots] at X89 l89 y89 z89 st89 hQ89
        subst l89 y89 z89
        obtain ⟨rfl, Nq89, Kq89, r89_0, r89_1, r89_2, r89_3, r89_4⟩ := hQ89
        have N89 := Fr.app N87 Nq89
        have Z92 : n0 ≤ T89.heap.size := Nat.le_trans Z86 Kq89.1
        have O92 : Old Z n0 T89.heap := O86.keep Kq89 (allS g_b17 (allS g_n_19 (allS g_v_19 all0)))
        refine Go.step (T' := T89) (f' := (mkF m 189 #[.val (.int p1), .val (.int p2), .val (.int p3), .val (.int p4), .val (.int p5), .val (.int (p1 &&& (3 : Int32))), .val (.ref b_1), .val (.ref b_3), .val (.ref b_5), .val (.ref b_7), .val (.ref b_9), .val (.ref b_11), .val (.ref b_13), .val (.ref b_15), .val (.ref b17), .val (.int (1 : Int32)), .unset, .unset, .unset, .unset] [])) (fun _ k => st89.trans k) ?_
        refine Go.step (T' := T89) (f' := (mkF m 191 #[.val (.int p1), .val (.int p2), .val (.int p3), .val (.int p4), .val (.int p5), .val (.int (p1 &&& (3 : Int32))), .val (.ref b_1), .val (.ref b_3), .val (.ref b_5), .val (.ref b_7), .val (.ref b_9), .val (.ref b_11), .val (.ref b_13), .val (.ref b_15), .val (.ref b17), .val (.int (1 : Int32)), .unset, .unset, .unset, .unset] [(.ref b17)])) (fun _ k => XS.aload X89.here hx rfl (hb hby at_189) rfl rfl k) ?_
        have q94 : Exa Z T89.heap b17 "com/example/tenderbook/tenderbook/Fields" := (q88.keep Kq89)
        obtain ⟨cq93, kq93, q93a, q93b, q93c⟩ := isOf hZ rfl q94
        obtain ⟨_, _, ⟨T93, L93, k93, n93⟩, -, X93, ⟨Lc93, hQ93, l93, y93, z93⟩, st93⟩ := X89.virtualBack hx (y := (⟨"com/example/tenderbook/tenderbook/Fields", "size", "()I"⟩ : MethodName)) (z := (⟨"com/example/tenderbook/tenderbook/Fields", "size", "()I"⟩ : MethodName)) hown (mvT hZ (hw _ (List.mem_of_getElem? (i := 53) rfl))) (mvT hZ (hw _ (List.mem_of_getElem? (i := 54) rfl))) (notFace_of_selects (args := #[]) (mvT hZ (hw _ (List.mem_of_getElem? (i := 56) rfl)))) (mvT hZ (hw _ (List.mem_of_getElem? (i := 56) rfl))) (mvT hZ (hw _ (List.mem_of_getElem? (i := 55) rfl))) (by decide) (backOf (W := 0) (rm10 l Z a0 hw [] b17 (1 : Int32) T89.heap n0 Z92 r89_2) hZ (hw _ (List.mem_of_getElem? (i := 57) rfl)) (hw _ (List.mem_of_getElem? (i := 28) rfl)) (by decide) (by decide)) q93a q93c (g := (mkF m 191 #[.val (.int p1), .val (.int p2), .val (.int p3), .val (.int p4), .val (.int p5), .val (.int (p1 &&& (3 : Int32))), .val (.ref b_1), .val (.ref b_3), .val (.ref b_5), .val (.ref b_7), .val (.ref b_9), .val (.ref b_11), .val (.ref b_13), .val (.ref b_15), .val (.ref b17), .val (.int (1 : Int32)), .unset, .unset, .unset, .unset] [(.ref b17)])) rfl (by rw [hml]; rfl) (Steps.refl _) (argsL := []) (rest := []) (lenOf pd_9 rfl) rfl (by show 2 * 0 + _ ≤ _; exact Nat.le_of_eq rfl) (hb hby at_191) (fun _ _ => ⟨rfl, rfl, (by decide : 19 + 0 ≤ _), (by decide : 59 + 0 ≤ _)⟩)
        dsimp only [Pt.U, Pt.locs, Pt.cells, Pt.slots] at X93 l93 y93 z93 st93 hQ93
        subst l93 y93 z93
        obtain ⟨rfl, Nq93, eh93⟩ := hQ93
        have N93 := Fr.app N89 Nq93
        refine Go.step (T' := T93) (f' := (mkF m 194 #[.val (.int p1), .val (.int p2), .val (.int p3), .val (.int p4), .val (.int p5), .val (.int (p1 &&& (3 : Int32))), .val (.ref b_1), .val (.ref b_3), .val (.ref b_5), .val (.ref b_7), .val (.ref b_9), .val (.ref b_11), .val (.ref b_13), .val (.ref b_15), .val (.ref b17), .val (.int (1 : Int32)), .unset, .unset, .unset, .unset] [(.int (1 : Int32))])) (fun _ k => st93.trans k) ?_
        refine Go.step (T' := T93) (f' := (mkF m 195 #[.val (.int p1), .val (.int p2), .val (.int p3), .val (.int p4), .val (.int p5), .val (.int (p1 &&& (3 : Int32))), .val (.ref b_1), .val (.ref b_3), .val (.ref b_5), .val (.ref b_7), .val (.ref b_9), .val (.ref b_11), .val (.ref b_13), .val (.ref b_15), .val (.ref b17), .val (.int (1 : Int32)), .unset, .unset, .unset, .unset] [(.int (1 : Int32)), (.int (1 : Int32))])) (fun _ k => XS.iconst X93.here hx rfl (hb hby at_194) k) ?_
        refine Go.step (T' := T93) (f' := (mkF m 198 #[.val (.int p1), .val (.int p2), .val (.int p3), .val (.int p4), .val (.int p5), .val (.int (p1 &&& (3 : Int32))), .val (.ref b_1), .val (.ref b_3), .val (.ref b_5), .val (.ref b_7), .val (.ref b_9), .val (.ref b_11), .val (.ref b_13), .val (.ref b_15), .val (.ref b17), .val (.int (1 : Int32)), .unset, .unset, .unset, .unset] [])) (fun _ k => XS.icmpNo X93.here hx rfl (hb hby at_195) rfl (teq (by decide : (1 : Int32) = (1 : Int32))).2 k) ?_
        refine Go.step (T' := T93) (f' := (mkF m 199 #[.val (.int p1), .val (.int p2), .val (.int p3), .val (.int p4), .val (.int p5), .val (.int (p1 &&& (3 : Int32))), .val (.ref b_1), .val (.ref b_3), .val (.ref b_5), .val (.ref b_7), .val (.ref b_9), .val (.ref b_11), .val (.ref b_13), .val (.ref b_15), .val (.ref b17), .val (.int (1 : Int32)), .unset, .unset, .unset, .unset] [(.int (1 : Int32))])) (fun _ k => XS.iconst X93.here hx rfl (hb hby at_198) k) ?_
        refine Go.step (T' := T93) (f' := (mkF m 203 #[.val (.int p1), .val (.int p2), .val (.int p3), .val (.int p4), .val (.int p5), .val (.int (p1 &&& (3 : Int32))), .val (.ref b_1), .val (.ref b_3), .val (.ref b_5), .val (.ref b_7), .val (.ref b_9), .val (.ref b_11), .val (.ref b_13), .val (.ref b_15), .val (.ref b17), .val (.int (1 : Int32)), .unset, .unset, .unset, .unset] [(.int (1 : Int32))])) (fun _ k => XS.goto X93.here hx rfl (pc0 := 199) (pc' := 203) rfl (hb hby at_199) (by decide) (by decide) k) ?_
        refine Go.step (T' := T93) (f' := (mkF m 205 #[.val (.int p1), .val (.int p2), .val (.int p3), .val (.int p4), .val (.int p5), .val (.int (p1 &&& (3 : Int32))), .val (.ref b_1), .val (.ref b_3), .val (.ref b_5), .val (.ref b_7), .val (.ref b_9), .val (.ref b_11), .val (.ref b_13), .val (.ref b_15), .val (.ref b17), .val (.int (1 : Int32)), .val (.int (1 : Int32)), .unset, .unset, .unset] [])) (fun _ k => XS.istore X93.here hx rfl (hb hby at_203) rfl (l' := #[.val (.int p1), .val (.int p2), .val (.int p3), .val (.int p4), .val (.int p5), .val (.int (p1 &&& (3 : Int32))), .val (.ref b_1), .val (.ref b_3), .val (.ref b_5), .val (.ref b_7), .val (.ref b_9), .val (.ref b_11), .val (.ref b_13), .val (.ref b_15), .val (.ref b17), .val (.int (1 : Int32)), .val (.int (1 : Int32)), .unset, .unset, .unset]) rfl k) ?_
        refine Go.step (T' := T93) (f' := (mkF m 207 #[.val (.int p1), .val (.int p2), .val (.int p3), .val (.int p4), .val (.int p5), .val (.int (p1 &&& (3 : Int32))), .val (.ref b_1), .val (.ref b_3), .val (.ref b_5), .val (.ref b_7), .val (.ref b_9), .val (.ref b_11), .val (.ref b_13), .val (.ref b_15), .val (.ref b17), .val (.int (1 : Int32)), .val (.int (1 : Int32)), .unset, .unset, .unset] [(.ref b17)])) (fun _ k => XS.aload X93.here hx rfl (hb hby at_205) rfl rfl k) ?_
        refine Go.step (T' := T93) (f' := (mkF m 209 #[.val (.int p1), .val (.int p2), .val (.int p3), .val (.int p4), .val (.int p5), .val (.int (p1 &&& (3 : Int32))), .val (.ref b_1), .val (.ref b_3), .val (.ref b_5), .val (.ref b_7), .val (.ref b_9), .val (.ref b_11), .val (.ref b_13), .val (.ref b_15), .val (.ref b17), .val (.int (1 : Int32)), .val (.int (1 : Int32)), .unset, .unset, .unset] [(.ref b_13), (.ref b17)])) (fun _ k => XS.aload X93.here hx rfl (hb hby at_207) rfl rfl k) ?_
        have q96 : Exa Z T89.heap b_13 "java/lang/String" := (q90.keep Kq89)
        obtain ⟨cq95, kq95, q95a, q95b, q95c⟩ := isOf hZ eh93 q94
        obtain ⟨_, _, ⟨T95, L95, k95, n95⟩, -, X95, ⟨Lc95, hQ95, l95, y95, z95⟩, st95⟩ := X93.virtualBack hx (y := (⟨"com/example/tenderbook/tenderbook/Fields", "getFirst", "(Ljava/lang/String;)Ljava/lang/String;"⟩ : MethodName)) (z := (⟨"com/example/tenderbook/tenderbook/Fields", "getFirst", "(Ljava/lang/String;)Ljava/lang/String;"⟩ : MethodName)) hown (mvT hZ (hw _ (List.mem_of_getElem? (i := 63) rfl))) (mvT hZ (hw _ (List.mem_of_getElem? (i := 64) rfl))) (notFace_of_selects (args := #[]) (mvT hZ (hw _ (List.mem_of_getElem? (i := 66) rfl)))) (mvT hZ (hw _ (List.mem_of_getElem? (i := 66) rfl))) (mvT hZ (hw _ (List.mem_of_getElem? (i := 65) rfl))) (by decide) (backOf (W := 0) (rm12 l Z a0 hw [] b17 b_13 n_19 v_19 kn_19 kv_19 b_15 T89.heap n0 Z92 q96 r89_0 r89_1 r89_2 r89_3 r89_4) hZ (hw _ (List.mem_of_getElem? (i := 67) rfl)) (hw _ (List.mem_of_getElem? (i := 28) rfl)) (by decide) (by decide)) q95a q95c (g := (mkF m 209 #[.val (.int p1), .val (.int p2), .val (.int p3), .val (.int p4), .val (.int p5), .val (.int (p1 &&& (3 : Int32))), .val (.ref b_1), .val (.ref b_3), .val (.ref b_5), .val (.ref b_7), .val (.ref b_9), .val (.ref b_11), .val (.ref b_13), .val (.ref b_15), .val (.ref b17), .val (.int (1 : Int32)), .val (.int (1 : Int32)), .unset, .unset, .unset] [(.ref b_13), (.ref b17)])) rfl (by rw [hml]; rfl) (Steps.refl _) (argsL := [(.ref b_13)]) (rest := []) (lenOf pd_10 rfl) rfl (by show 2 * 0 + _ ≤ _; exact Nat.le_of_eq rfl) (hb hby at_209) (fun _ _ => ⟨rfl, eh93, (by decide : 19 + 0 ≤ _), (by decide : 59 + 0 ≤ _)⟩)
        dsimp only [Pt.U, Pt.locs, Pt.cells, Pt.slots] at X95 l95 y95 z95 st95 hQ95
        subst l95 y95 z95
        obtain ⟨rfl, Nq95, eh95⟩ := hQ95
        have N95 := Fr.app N93 Nq95
        refine Go.step (T' := T95) (f' := (mkF m 212 #[.val (.int p1), .val (.int p2), .val (.int p3), .val (.int p4), .val (.int p5), .val (.int (p1 &&& (3 : Int32))), .val (.ref b_1), .val (.ref b_3), .val (.ref b_5), .val (.ref b_7), .val (.ref b_9), .val (.ref b_11), .val (.ref b_13), .val (.ref b_15), .val (.ref b17), .val (.int (1 : Int32)), .val (.int (1 : Int32)), .unset, .unset, .unset] [(.ref b_15)])) (fun _ k => st95.trans k) ?_
        refine Go.step (T' := T95) (f' := (mkF m 214 #[.val (.int p1), .val (.int p2), .val (.int p3), .val (.int p4), .val (.int p5), .val (.int (p1 &&& (3 : Int32))), .val (.ref b_1), .val (.ref b_3), .val (.ref b_5), .val (.ref b_7), .val (.ref b_9), .val (.ref b_11), .val (.ref b_13), .val (.ref b_15), .val (.ref b17), .val (.int (1 : Int32)), .val (.int (1 : Int32)), .val (.ref b_15), .unset, .unset] [])) (fun _ k => XS.astore X95.here hx rfl (hb hby at_212) rfl rfl (l' := #[.val (.int p1), .val (.int p2), .val (.int p3), .val (.int p4), .val (.int p5), .val (.int (p1 &&& (3 : Int32))), .val (.ref b_1), .val (.ref b_3), .val (.ref b_5), .val (.ref b_7), .val (.ref b_9), .val (.ref b_11), .val (.ref b_13), .val (.ref b_15), .val (.ref b17), .val (.int (1 : Int32)), .val (.int (1 : Int32)), .val (.ref b_15), .unset, .unset]) rfl k) ?_
        refine Go.step (T' := T95) (f' := (mkF m 216 #[.val (.int p1), .val (.int p2), .val (.int p3), .val (.int p4), .val (.int p5), .val (.int (p1 &&& (3 : Int32))), .val (.ref b_1), .val (.ref b_3), .val (.ref b_5), .val (.ref b_7), .val (.ref b_9), .val (.ref b_11), .val (.ref b_13), .val (.ref b_15), .val (.ref b17), .val (.int (1 : Int32)), .val (.int (1 : Int32)), .val (.ref b_15), .unset, .unset] [(.ref b_15)])) (fun _ k => XS.aload X95.here hx rfl (hb hby at_214) rfl rfl k) ?_
        refine Go.step (T' := T95) (f' := (mkF m 219 #[.val (.int p1), .val (.int p2), .val (.int p3), .val (.int p4), .val (.int p5), .val (.int (p1 &&& (3 : Int32))), .val (.ref b_1), .val (.ref b_3), .val (.ref b_5), .val (.ref b_7), .val (.ref b_9), .val (.ref b_11), .val (.ref b_13), .val (.ref b_15), .val (.ref b17), .val (.int (1 : Int32)), .val (.int (1 : Int32)), .val (.ref b_15), .unset, .unset] [])) (fun _ k => XS.ifnullNo X95.here hx rfl (hb hby at_216) rfl k) ?_
        refine Go.step (T' := T95) (f' := (mkF m 221 #[.val (.int p1), .val (.int p2), .val (.int p3), .val (.int p4), .val (.int p5), .val (.int (p1 &&& (3 : Int32))), .val (.ref b_1), .val (.ref b_3), .val (.ref b_5), .val (.ref b_7), .val (.ref b_9), .val (.ref b_11), .val (.ref b_13), .val (.ref b_15), .val (.ref b17), .val (.int (1 : Int32)), .val (.int (1 : Int32)), .val (.ref b_15), .unset, .unset] [(.ref b_15)])) (fun _ k => XS.aload X95.here hx rfl (hb hby at_219) rfl rfl k) ?_
        refine Go.step (T' := T95) (f' := (mkF m 223 #[.val (.int p1), .val (.int p2), .val (.int p3), .val (.int p4), .val (.int p5), .val (.int (p1 &&& (3 : Int32))), .val (.ref b_1), .val (.ref b_3), .val (.ref b_5), .val (.ref b_7), .val (.ref b_9), .val (.ref b_11), .val (.ref b_13), .val (.ref b_15), .val (.ref b17), .val (.int (1 : Int32)), .val (.int (1 : Int32)), .val (.ref b_15), .unset, .unset] [(.ref b_15), (.ref b_15)])) (fun _ k => XS.aload X95.here hx rfl (hb hby at_221) rfl rfl k) ?_
        have q98 : Exa Z T89.heap b_15 "java/lang/String" := (q91.keep Kq89)
        obtain ⟨cq97, kq97, q97a, q97b, q97c⟩ := isOf hZ eh95 q98
        obtain ⟨_, _, ⟨T97, L97, k97, n97⟩, -, X97, ⟨Lc97, hQ97, l97, y97, z97⟩, st97⟩ := X95.virtualBack hx (y := (⟨"java/lang/String", "equals", "(Ljava/lang/Object;)Z"⟩ : MethodName)) (z := (⟨"java/lang/String", "equals", "(Ljava/lang/Object;)Z"⟩ : MethodName)) hown (mvT hZ (hw _ (List.mem_of_getElem? (i := 73) rfl))) (mvT hZ (hw _ (List.mem_of_getElem? (i := 74) rfl))) (notFace_of_selects (args := #[]) (mvT hZ (hw _ (List.mem_of_getElem? (i := 76) rfl)))) (mvT hZ (hw _ (List.mem_of_getElem? (i := 76) rfl))) (mvT hZ (hw _ (List.mem_of_getElem? (i := 75) rfl))) (by decide) (backOf (W := 0) (rm14 l Z a0 hw [] b_15 T89.heap n0 Z92 ) hZ (hw _ (List.mem_of_getElem? (i := 77) rfl)) (hw _ (List.mem_of_getElem? (i := 2) rfl)) (by decide) (by decide)) q97a q97c (g := (mkF m 223 #[.val (.int p1), .val (.int p2), .val (.int p3), .val (.int p4), .val (.int p5), .val (.int (p1 &&& (3 : Int32))), .val (.ref b_1), .val (.ref b_3), .val (.ref b_5), .val (.ref b_7), .val (.ref b_9), .val (.ref b_11), .val (.ref b_13), .val (.ref b_15), .val (.ref b17), .val (.int (1 : Int32)), .val (.int (1 : Int32)), .val (.ref b_15), .unset, .unset] [(.ref b_15), (.ref b_15)])) rfl (by rw [hml]; rfl) (Steps.refl _) (argsL := [(.ref b_15)]) (rest := []) (lenOf pd_11 rfl) rfl (by show 2 * 0 + _ ≤ _; exact Nat.le_of_eq rfl) (hb hby at_223) (fun _ _ => ⟨rfl, eh95, (by decide : 19 + 0 ≤ _), (by decide : 59 + 0 ≤ _)⟩)
        dsimp only [Pt.U, Pt.locs, Pt.cells, Pt.slots] at X97 l97 y97 z97 st97 hQ97
        subst l97 y97 z97
        obtain ⟨rfl, Nq97, eh97⟩ := hQ97
        have N97 := Fr.app N95 Nq97
        refine Go.step (T' := T97) (f' := (mkF m 226 #[.val (.int p1), .val (.int p2), .val (.int p3), .val (.int p4), .val (.int p5), .val (.int (p1 &&& (3 : Int32))), .val (.ref b_1), .val (.ref b_3), .val (.ref b_5), .val (.ref b_7), .val (.ref b_9), .val (.ref b_11), .val (.ref b_13), .val (.ref b_15), .val (.ref b17), .val (.int (1 : Int32)), .val (.int (1 : Int32)), .val (.ref b_15), .unset, .unset] [(.int (1 : Int32))])) (fun _ k => st97.trans k) ?_
        refine Go.step (T' := T97) (f' := (mkF m 229 #[.val (.int p1), .val (.int p2), .val (.int p3), .val (.int p4), .val (.int p5), .val (.int (p1 &&& (3 : Int32))), .val (.ref b_1), .val (.ref b_3), .val (.ref b_5), .val (.ref b_7), .val (.ref b_9), .val (.ref b_11), .val (.ref b_13), .val (.ref b_15), .val (.ref b17), .val (.int (1 : Int32)), .val (.int (1 : Int32)), .val (.ref b_15), .unset, .unset] [])) (fun _ k => XS.ifNo X97.here hx rfl (hb hby at_226) rfl ((if0 _ _).trans (feq (by decide : ¬ ((1 : Int32) = (0 : Int32)))).1) k) ?_
        refine Go.step (T' := T97) (f' := (mkF m 230 #[.val (.int p1), .val (.int p2), .val (.int p3), .val (.int p4), .val (.int p5), .val (.int (p1 &&& (3 : Int32))), .val (.ref b_1), .val (.ref b_3), .val (.ref b_5), .val (.ref b_7), .val (.ref b_9), .val (.ref b_11), .val (.ref b_13), .val (.ref b_15), .val (.ref b17), .val (.int (1 : Int32)), .val (.int (1 : Int32)), .val (.ref b_15), .unset, .unset] [(.int (1 : Int32))])) (fun _ k => XS.iconst X97.here hx rfl (hb hby at_229) k) ?_
        refine Go.step (T' := T97) (f' := (mkF m 234 #[.val (.int p1), .val (.int p2), .val (.int p3), .val (.int p4), .val (.int p5), .val (.int (p1 &&& (3 : Int32))), .val (.ref b_1), .val (.ref b_3), .val (.ref b_5), .val (.ref b_7), .val (.ref b_9), .val (.ref b_11), .val (.ref b_13), .val (.ref b_15), .val (.ref b17), .val (.int (1 : Int32)), .val (.int (1 : Int32)), .val (.ref b_15), .unset, .unset] [(.int (1 : Int32))])) (fun _ k => XS.goto X97.here hx rfl (pc0 := 230) (pc' := 234) rfl (hb hby at_230) (by decide) (by decide) k) ?_
        refine Go.step (T' := T97) (f' := (mkF m 236 #[.val (.int p1), .val (.int p2), .val (.int p3), .val (.int p4), .val (.int p5), .val (.int (p1 &&& (3 : Int32))), .val (.ref b_1), .val (.ref b_3), .val (.ref b_5), .val (.ref b_7), .val (.ref b_9), .val (.ref b_11), .val (.ref b_13), .val (.ref b_15), .val (.ref b17), .val (.int (1 : Int32)), .val (.int (1 : Int32)), .val (.ref b_15), .val (.int (1 : Int32)), .unset] [])) (fun _ k => XS.istore X97.here hx rfl (hb hby at_234) rfl (l' := #[.val (.int p1), .val (.int p2), .val (.int p3), .val (.int p4), .val (.int p5), .val (.int (p1 &&& (3 : Int32))), .val (.ref b_1), .val (.ref b_3), .val (.ref b_5), .val (.ref b_7), .val (.ref b_9), .val (.ref b_11), .val (.ref b_13), .val (.ref b_15), .val (.ref b17), .val (.int (1 : Int32)), .val (.int (1 : Int32)), .val (.ref b_15), .val (.int (1 : Int32)), .unset]) rfl k) ?_
        refine Go.step (T' := T97) (f' := (mkF m 238 #[.val (.int p1), .val (.int p2), .val (.int p3), .val (.int p4), .val (.int p5), .val (.int (p1 &&& (3 : Int32))), .val (.ref b_1), .val (.ref b_3), .val (.ref b_5), .val (.ref b_7), .val (.ref b_9), .val (.ref b_11), .val (.ref b_13), .val (.ref b_15), .val (.ref b17), .val (.int (1 : Int32)), .val (.int (1 : Int32)), .val (.ref b_15), .val (.int (1 : Int32)), .unset] [(.ref b17)])) (fun _ k => XS.aload X97.here hx rfl (hb hby at_236) rfl rfl k) ?_
        refine Go.step (T' := T97) (f' := (mkF m 239 #[.val (.int p1), .val (.int p2), .val (.int p3), .val (.int p4), .val (.int p5), .val (.int (p1 &&& (3 : Int32))), .val (.ref b_1), .val (.ref b_3), .val (.ref b_5), .val (.ref b_7), .val (.ref b_9), .val (.ref b_11), .val (.ref b_13), .val (.ref b_15), .val (.ref b17), .val (.int (1 : Int32)), .val (.int (1 : Int32)), .val (.ref b_15), .val (.int (1 : Int32)), .unset] [(.int (0 : Int32)), (.ref b17)])) (fun _ k => XS.iconst X97.here hx rfl (hb hby at_238) k) ?_
        obtain ⟨cq99, kq99, q99a, q99b, q99c⟩ := isOf hZ eh97 q94
        obtain ⟨_, _, ⟨T99, L99, k99, n99⟩, -, X99, ⟨Lc99, hQ99, l99, y99, z99⟩, st99⟩ := X97.virtualBack hx (y := (⟨"com/example/tenderbook/tenderbook/Fields", "name", "(I)Ljava/lang/String;"⟩ : MethodName)) (z := (⟨"com/example/tenderbook/tenderbook/Fields", "name", "(I)Ljava/lang/String;"⟩ : MethodName)) hown (mvT hZ (hw _ (List.mem_of_getElem? (i := 78) rfl))) (mvT hZ (hw _ (List.mem_of_getElem? (i := 79) rfl))) (notFace_of_selects (args := #[]) (mvT hZ (hw _ (List.mem_of_getElem? (i := 81) rfl)))) (mvT hZ (hw _ (List.mem_of_getElem? (i := 81) rfl))) (mvT hZ (hw _ (List.mem_of_getElem? (i := 80) rfl))) (by decide) (backOf (W := 0) (rm15 l Z a0 hw [] b17 n_19 kn_19 b_13 T89.heap n0 Z92 r89_0 r89_3) hZ (hw _ (List.mem_of_getElem? (i := 82) rfl)) (hw _ (List.mem_of_getElem? (i := 28) rfl)) (by decide) (by decide)) q99a q99c (g := (mkF m 239 #[.val (.int p1), .val (.int p2), .val (.int p3), .val (.int p4), .val (.int p5), .val (.int (p1 &&& (3 : Int32))), .val (.ref b_1), .val (.ref b_3), .val (.ref b_5), .val (.ref b_7), .val (.ref b_9), .val (.ref b_11), .val (.ref b_13), .val (.ref b_15), .val (.ref b17), .val (.int (1 : Int32)), .val (.int (1 : Int32)), .val (.ref b_15), .val (.int (1 : Int32)), .unset] [(.int (0 : Int32)), (.ref b17)])) rfl (by rw [hml]; rfl) (Steps.refl _) (argsL := [(.int (0 : Int32))]) (rest := []) (lenOf pd_12 rfl) rfl (by show 2 * 0 + _ ≤ _; exact Nat.le_of_eq rfl) (hb hby at_239) (fun _ _ => ⟨rfl, eh97, (by decide : 19 + 0 ≤ _), (by decide : 59 + 0 ≤ _)⟩)
        dsimp only [Pt.U, Pt.locs, Pt.cells, Pt.slots] at X99 l99 y99 z99 st99 hQ99
        subst l99 y99 z99
        obtain ⟨rfl, Nq99, eh99⟩ := hQ99
        have N99 := Fr.app N97 Nq99
        refine Go.step (T' := T99) (f' := (mkF m 242 #[.val (.int p1), .val (.int p2), .val (.int p3), .val (.int p4), .val (.int p5), .val (.int (p1 &&& (3 : Int32))), .val (.ref b_1), .val (.ref b_3), .val (.ref b_5), .val (.ref b_7), .val (.ref b_9), .val (.ref b_11), .val (.ref b_13), .val (.ref b_15), .val (.ref b17), .val (.int (1 : Int32)), .val (.int (1 : Int32)), .val (.ref b_15), .val (.int (1 : Int32)), .unset] [(.ref b_13)])) (fun _ k => st99.trans k) ?_
        refine Go.step (T' := T99) (f' := (mkF m 244 #[.val (.int p1), .val (.int p2), .val (.int p3), .val (.int p4), .val (.int p5), .val (.int (p1 &&& (3 : Int32))), .val (.ref b_1), .val (.ref b_3), .val (.ref b_5), .val (.ref b_7), .val (.ref b_9), .val (.ref b_11), .val (.ref b_13), .val (.ref b_15), .val (.ref b17), .val (.int (1 : Int32)), .val (.int (1 : Int32)), .val (.ref b_15), .val (.int (1 : Int32)), .unset] [(.ref b_13), (.ref b_13)])) (fun _ k => XS.aload X99.here hx rfl (hb hby at_242) rfl rfl k) ?_
        refine Go.step (T' := T99) (f' := (mkF m 247 #[.val (.int p1), .val (.int p2), .val (.int p3), .val (.int p4), .val (.int p5), .val (.int (p1 &&& (3 : Int32))), .val (.ref b_1), .val (.ref b_3), .val (.ref b_5), .val (.ref b_7), .val (.ref b_9), .val (.ref b_11), .val (.ref b_13), .val (.ref b_15), .val (.ref b17), .val (.int (1 : Int32)), .val (.int (1 : Int32)), .val (.ref b_15), .val (.int (1 : Int32)), .unset] [])) (fun _ k => Jvm.RoadKit.acmp (g := (mkF m 244 #[.val (.int p1), .val (.int p2), .val (.int p3), .val (.int p4), .val (.int p5), .val (.int (p1 &&& (3 : Int32))), .val (.ref b_1), .val (.ref b_3), .val (.ref b_5), .val (.ref b_7), .val (.ref b_9), .val (.ref b_11), .val (.ref b_13), .val (.ref b_15), .val (.ref b17), .val (.int (1 : Int32)), .val (.int (1 : Int32)), .val (.ref b_15), .val (.int (1 : Int32)), .unset] [(.ref b_13), (.ref b_13)])) X99 hx rfl rfl rfl (pc0 := 244) (pc' := 247) (same := true) rfl (hb hby at_244) rfl (decide_eq_true rfl) (by decide) (by decide) k) ?_
        refine Go.step (T' := T99) (f' := (mkF m 248 #[.val (.int p1), .val (.int p2), .val (.int p3), .val (.int p4), .val (.int p5), .val (.int (p1 &&& (3 : Int32))), .val (.ref b_1), .val (.ref b_3), .val (.ref b_5), .val (.ref b_7), .val (.ref b_9), .val (.ref b_11), .val (.ref b_13), .val (.ref b_15), .val (.ref b17), .val (.int (1 : Int32)), .val (.int (1 : Int32)), .val (.ref b_15), .val (.int (1 : Int32)), .unset] [(.int (1 : Int32))])) (fun _ k => XS.iconst X99.here hx rfl (hb hby at_247) k) ?_
        refine Go.step (T' := T99) (f' := (mkF m 252 #[.val (.int p1), .val (.int p2), .val (.int p3), .val (.int p4), .val (.int p5), .val (.int (p1 &&& (3 : Int32))), .val (.ref b_1), .val (.ref b_3), .val (.ref b_5), .val (.ref b_7), .val (.ref b_9), .val (.ref b_11), .val (.ref b_13), .val (.ref b_15), .val (.ref b17), .val (.int (1 : Int32)), .val (.int (1 : Int32)), .val (.ref b_15), .val (.int (1 : Int32)), .unset] [(.int (1 : Int32))])) (fun _ k => XS.goto X99.here hx rfl (pc0 := 248) (pc' := 252) rfl (hb hby at_248) (by decide) (by decide) k) ?_
        refine Go.step (T' := T99) (f' := (mkF m 254 #[.val (.int p1), .val (.int p2), .val (.int p3), .val (.int p4), .val (.int p5), .val (.int (p1 &&& (3 : Int32))), .val (.ref b_1), .val (.ref b_3), .val (.ref b_5), .val (.ref b_7), .val (.ref b_9), .val (.ref b_11), .val (.ref b_13), .val (.ref b_15), .val (.ref b17), .val (.int (1 : Int32)), .val (.int (1 : Int32)), .val (.ref b_15), .val (.int (1 : Int32)), .val (.int (1 : Int32))] [])) (fun _ k => XS.istore X99.here hx rfl (hb hby at_252) rfl (l' := #[.val (.int p1), .val (.int p2), .val (.int p3), .val (.int p4), .val (.int p5), .val (.int (p1 &&& (3 : Int32))), .val (.ref b_1), .val (.ref b_3), .val (.ref b_5), .val (.ref b_7), .val (.ref b_9), .val (.ref b_11), .val (.ref b_13), .val (.ref b_15), .val (.ref b17), .val (.int (1 : Int32)), .val (.int (1 : Int32)), .val (.ref b_15), .val (.int (1 : Int32)), .val (.int (1 : Int32))]) rfl k) ?_
        refine Go.step (T' := T99) (f' := (mkF m 256 #[.val (.int p1), .val (.int p2), .val (.int p3), .val (.int p4), .val (.int p5), .val (.int (p1 &&& (3 : Int32))), .val (.ref b_1), .val (.ref b_3), .val (.ref b_5), .val (.ref b_7), .val (.ref b_9), .val (.ref b_11), .val (.ref b_13), .val (.ref b_15), .val (.ref b17), .val (.int (1 : Int32)), .val (.int (1 : Int32)), .val (.ref b_15), .val (.int (1 : Int32)), .val (.int (1 : Int32))] [(.int (1 : Int32))])) (fun _ k => XS.iload X99.here hx rfl (hb hby at_254) rfl k) ?_
        refine Go.step (T' := T99) (f' := (mkF m 259 #[.val (.int p1), .val (.int p2), .val (.int p3), .val (.int p4), .val (.int p5), .val (.int (p1 &&& (3 : Int32))), .val (.ref b_1), .val (.ref b_3), .val (.ref b_5), .val (.ref b_7), .val (.ref b_9), .val (.ref b_11), .val (.ref b_13), .val (.ref b_15), .val (.ref b17), .val (.int (1 : Int32)), .val (.int (1 : Int32)), .val (.ref b_15), .val (.int (1 : Int32)), .val (.int (1 : Int32))] [])) (fun _ k => XS.ifNo X99.here hx rfl (hb hby at_256) rfl ((if0 _ _).trans (feq (by decide : ¬ ((1 : Int32) = (0 : Int32)))).1) k) ?_
        refine Go.step (T' := T99) (f' := (mkF m 261 #[.val (.int p1), .val (.int p2), .val (.int p3), .val (.int p4), .val (.int p5), .val (.int (p1 &&& (3 : Int32))), .val (.ref b_1), .val (.ref b_3), .val (.ref b_5), .val (.ref b_7), .val (.ref b_9), .val (.ref b_11), .val (.ref b_13), .val (.ref b_15), .val (.ref b17), .val (.int (1 : Int32)), .val (.int (1 : Int32)), .val (.ref b_15), .val (.int (1 : Int32)), .val (.int (1 : Int32))] [(.int (1 : Int32))])) (fun _ k => XS.iload X99.here hx rfl (hb hby at_259) rfl k) ?_
        refine Go.step (T' := T99) (f' := (mkF m 264 #[.val (.int p1), .val (.int p2), .val (.int p3), .val (.int p4), .val (.int p5), .val (.int (p1 &&& (3 : Int32))), .val (.ref b_1), .val (.ref b_3), .val (.ref b_5), .val (.ref b_7), .val (.ref b_9), .val (.ref b_11), .val (.ref b_13), .val (.ref b_15), .val (.ref b17), .val (.int (1 : Int32)), .val (.int (1 : Int32)), .val (.ref b_15), .val (.int (1 : Int32)), .val (.int (1 : Int32))] [])) (fun _ k => XS.ifNo X99.here hx rfl (hb hby at_261) rfl ((if0 _ _).trans (feq (by decide : ¬ ((1 : Int32) = (0 : Int32)))).1) k) ?_
        refine Go.step (T' := T99) (f' := (mkF m 266 #[.val (.int p1), .val (.int p2), .val (.int p3), .val (.int p4), .val (.int p5), .val (.int (p1 &&& (3 : Int32))), .val (.ref b_1), .val (.ref b_3), .val (.ref b_5), .val (.ref b_7), .val (.ref b_9), .val (.ref b_11), .val (.ref b_13), .val (.ref b_15), .val (.ref b17), .val (.int (1 : Int32)), .val (.int (1 : Int32)), .val (.ref b_15), .val (.int (1 : Int32)), .val (.int (1 : Int32))] [(.int (1 : Int32))])) (fun _ k => XS.iload X99.here hx rfl (hb hby at_264) rfl k) ?_
        refine Go.step (T' := T99) (f' := (mkF m 269 #[.val (.int p1), .val (.int p2), .val (.int p3), .val (.int p4), .val (.int p5), .val (.int (p1 &&& (3 : Int32))), .val (.ref b_1), .val (.ref b_3), .val (.ref b_5), .val (.ref b_7), .val (.ref b_9), .val (.ref b_11), .val (.ref b_13), .val (.ref b_15), .val (.ref b17), .val (.int (1 : Int32)), .val (.int (1 : Int32)), .val (.ref b_15), .val (.int (1 : Int32)), .val (.int (1 : Int32))] [])) (fun _ k => XS.ifNo X99.here hx rfl (hb hby at_266) rfl ((if0 _ _).trans (feq (by decide : ¬ ((1 : Int32) = (0 : Int32)))).1) k) ?_
        refine Go.step (T' := T99) (f' := (mkF m 271 #[.val (.int p1), .val (.int p2), .val (.int p3), .val (.int p4), .val (.int p5), .val (.int (p1 &&& (3 : Int32))), .val (.ref b_1), .val (.ref b_3), .val (.ref b_5), .val (.ref b_7), .val (.ref b_9), .val (.ref b_11), .val (.ref b_13), .val (.ref b_15), .val (.ref b17), .val (.int (1 : Int32)), .val (.int (1 : Int32)), .val (.ref b_15), .val (.int (1 : Int32)), .val (.int (1 : Int32))] [(.int (1 : Int32))])) (fun _ k => XS.iload X99.here hx rfl (hb hby at_269) rfl k) ?_
        refine Go.step (T' := T99) (f' := (mkF m 274 #[.val (.int p1), .val (.int p2), .val (.int p3), .val (.int p4), .val (.int p5), .val (.int (p1 &&& (3 : Int32))), .val (.ref b_1), .val (.ref b_3), .val (.ref b_5), .val (.ref b_7), .val (.ref b_9), .val (.ref b_11), .val (.ref b_13), .val (.ref b_15), .val (.ref b17), .val (.int (1 : Int32)), .val (.int (1 : Int32)), .val (.ref b_15), .val (.int (1 : Int32)), .val (.int (1 : Int32))] [])) (fun _ k => XS.ifNo X99.here hx rfl (hb hby at_271) rfl ((if0 _ _).trans (feq (by decide : ¬ ((1 : Int32) = (0 : Int32)))).1) k) ?_
        refine Go.step (T' := T99) (f' := (mkF m 275 #[.val (.int p1), .val (.int p2), .val (.int p3), .val (.int p4), .val (.int p5), .val (.int (p1 &&& (3 : Int32))), .val (.ref b_1), .val (.ref b_3), .val (.ref b_5), .val (.ref b_7), .val (.ref b_9), .val (.ref b_11), .val (.ref b_13), .val (.ref b_15), .val (.ref b17), .val (.int (1 : Int32)), .val (.int (1 : Int32)), .val (.ref b_15), .val (.int (1 : Int32)), .val (.int (1 : Int32))] [(.int (1 : Int32))])) (fun _ k => XS.iconst X99.here hx rfl (hb hby at_274) k) ?_
        refine Go.step (T' := T99) (f' := (mkF m 279 #[.val (.int p1), .val (.int p2), .val (.int p3), .val (.int p4), .val (.int p5), .val (.int (p1 &&& (3 : Int32))), .val (.ref b_1), .val (.ref b_3), .val (.ref b_5), .val (.ref b_7), .val (.ref b_9), .val (.ref b_11), .val (.ref b_13), .val (.ref b_15), .val (.ref b17), .val (.int (1 : Int32)), .val (.int (1 : Int32)), .val (.ref b_15), .val (.int (1 : Int32)), .val (.int (1 : Int32))] [(.int (1 : Int32))])) (fun _ k => XS.goto X99.here hx rfl (pc0 := 275) (pc' := 279) rfl (hb hby at_275) (by decide) (by decide) k) ?_
        refine goN X99 hx (t := .boolean) Bd.returns (by simp) Bd.notSynchronized (hb hby at_279) ?_ (by decide) (by decide)
        show Q_rm0 Z p1 p2 p3 p4 p5 cs h0 n0 _ T99.heap _
        rw [eh99]
        exact ⟨rfl, N99⟩
set_option maxRecDepth 65536 in
set_option maxHeartbeats 40000000 in
theorem comes_1 {Post : Tables → Env → Array Value → State → Outcome → State → Prop} (hpost : ∀ tb e args s v u, (limb_1_1.after args s (.returned v) u = true ∧ limb_1_2.after args s (.returned v) u = true ∧ True) → FrameEnd s (.returned v) u (Jvm.fieldLocs frame_1_writes args s ++ Jvm.arrayLocs frame_1_arrays args s ++ Jvm.staticLocs frame_1_statics s) 48 192 → Post tb e args s (.returned v) u) :
    ArmFor flags0 classFile x code maxLocals ret World_1 tables_1 room_1 Calls_1 rest_1 Pre_1 Post := by
  intro l hfl _ _ p e ha hc hk s m args below hf hA hF happ hP
  obtain ⟨hcalls, hrest, hpre⟩ := hP
  obtain ⟨-, -, -, hnamed, -, -, -, hat⟩ := (Spec.applies_iff hf).mp happ
  obtain ⟨hg, hn⟩ := and_e (Cond.before_iff.mp (show (Jvm.Cond.and given_1 narrow_1).before args s = true from hpre))
  obtain ⟨g1, g2⟩ := and_e hg
  obtain ⟨g3, g4⟩ := and_e g2
  obtain ⟨g5, g6⟩ := and_e g4
  obtain ⟨g7, g8⟩ := and_e g6
  obtain ⟨g9, g10⟩ := and_e g8
  obtain ⟨w0, w1, w2, w3, w4, rfl⟩ : ∃ w0 w1 w2 w3 w4 : Value, args = #[w0, w1, w2, w3, w4] := by
    have hs : args.size = 5 := by simpa [Cond.value, given_1] using g1
    obtain ⟨L⟩ := args
    match L, hs with
    | [w0, w1, w2, w3, w4], _ => exact ⟨w0, w1, w2, w3, w4, rfl⟩
  have hw := fun d (hd : d ∈ tables_1) => atoms_spec (ws := Jvm.Cond.code x code maxLocals ret :: tables_1) hat d (List.mem_cons_of_mem _ hd)
  have hfit : Fit s := fun {y c} hc i hi => by
    obtain ⟨ha, rfl⟩ := Array.getElem?_eq_some_iff.mp hc
    have q := List.all_eq_true.mp ((Array.all_eq_true_iff_forall_mem.mp hF) _ (Array.getElem_mem ha)) i (List.mem_range.mpr hi)
    simpa [Array.getElem?_eq_getElem hi] using q
  obtain ⟨hsets, hown0⟩ := atoms_of _ (rest_1_c_eq ▸ (show rest_1_c.before _ s = true from hrest))
  have hr0 := Cond.before_iff.mp hown0
  obtain ⟨i0, ei0⟩ := is_v g3
  obtain rfl : w0 = (.int i0) := Option.some.inj ei0
  obtain ⟨i1, ei1⟩ := is_v g5
  obtain rfl : w1 = (.int i1) := Option.some.inj ei1
  obtain ⟨i2, ei2⟩ := is_v g7
  obtain rfl : w2 = (.int i2) := Option.some.inj ei2
  obtain ⟨i3, ei3⟩ := is_v g9
  obtain rfl : w3 = (.int i3) := Option.some.inj ei3
  obtain ⟨i4, ei4⟩ := is_v g10
  obtain rfl : w4 = (.int i4) := Option.some.inj ei4
  obtain ⟨cs, ev_cs⟩ := is_v (Cond.before_iff.mp (hsets _ (List.mem_of_getElem? (i := 1) rfl)))
  have S_COMPACT_STRINGS := Sta.start ev_cs (Or.inl (hsets _ (List.mem_of_getElem? (i := 0) rfl)))
  have hcs : ¬ cs = (0 : Int32) := by
    have q := not_v (Cond.before_iff.mp (hsets _ (List.mem_of_getElem? (i := 2) rfl)))
    intro e
    subst e
    simp [Cond.value, Term.eval] at q
    simp [Term.eval] at ev_cs
    simp [ev_cs] at q
  obtain ⟨n, o, h1, h2, h3, _, L, rfl, ⟨rfl, N⟩, hq⟩ := rm0 l s _ hw tables_1 i0 i1 i2 i3 i4 cs s.heap s.heap.size (Nat.le_refl _) (Old.start s) S_COMPACT_STRINGS hcs p e ha hc hk s m _ below hf ((Spec.applies_iff_loose hf).mp happ).1 ⟨rfl, State.Warmed39.refl s, rfl⟩ trivial
  refine ⟨n, _, h1, h2, h3, hpost _ _ _ _ _ _ ⟨Cond.after_iff.mpr rfl, Cond.after_iff.mpr (eq_i res_at (Term.int_eval (1)) rfl), trivial⟩ ⟨hq.1, hq.2.1, (hq.2.2.sift fun y hy => Or.inr (N y hy)).mono (by decide) (by decide)⟩⟩
theorem main_1_1 : Claimed_1_1 := comes_1 fun _ _ _ _ _ _ h hF => ⟨h.1, hF⟩
theorem main_1_2 : Claimed_1_2 := comes_1 fun _ _ _ _ _ _ h hF => ⟨h.2.1, hF⟩
end Jvm.Pilot.@@N@@
namespace Jvm.Pilot.@@N@@
open Jvm Jvm.ClassFile Sem Op Lib Jvm.Free Jvm.Stand Jvm.Pilot.@@N@@.Jvm.D
/-! MADE BY PROGRAM (witnessworld.py) out of the Statement's table words and the real class files: 19 classes; the members and pool entries that the words name. The judged class is class 1, her method 1. -/
namespace start1
open Jvm.ClassFile
def u (s : String) : CpInfo := .utf8 (stringToUtf16 s)
/-- a pool by its gaps: so many unusable entries, then the entry; so many at the end -/
def gap : Nat → List CpInfo → List CpInfo
  | 0, r => r
  | n + 1, r => .unusable :: gap n r
def poolList (es : List (Nat × CpInfo)) (last : Nat) : List CpInfo := es.foldr (fun e r => gap e.1 (e.2 :: r)) (gap last [])
def pool (es : List (Nat × CpInfo)) (last : Nat) : Array CpInfo := ⟨poolList es last⟩
def fileOf (pool : Array CpInfo) (this : Nat) (attrs : Array Attribute := #[]) (ms : Array MethodInfo := #[]) (fl : Nat := 33) (sup : Nat := 0) (ifs : Array Nat := #[]) (fds : Array FieldInfo := #[]) : ClassFile where
  minorVersion := 0
  majorVersion := 65
  constantPool := pool
  accessFlags := fl
  thisClass := this
  superClass := sup
  interfaces := ifs
  fields := fds
  methods := ms
  attributes := attrs
def plain (name : String) (sup : Option ClassId) : Class where
  name := name
  kind := .ordinary
  loader := none
  accessFlags := 33
  super := sup
  interfaces := #[]
  cf := none
  fields := #[]
  methods := #[]
  instanceTypes := #[]
  staticTypes := #[]
  resolved := #[]
  callSites := []
  init := .initialized
  statics := none
  mirror := none

def pool0 : Array CpInfo := pool [(5, u "<init>"), (0, u "()V"), (1, .class_ 10), (1, u "java/lang/Object")] 113

def k0c0 : Code := { maxStack := 0, maxLocals := 1, code := object_method_1_code, exceptionTable := #[], attributes := #[] }
def k0m0 : Method := { name := "<init>", desc := "()V", sig := { parameters := [], returnType := none }, accessFlags := 1, code := some k0c0 }
/-- java/lang/Object -/
def k0 : Class := { plain "java/lang/Object" none with
  accessFlags := 33
  interfaces := #[]
  cf := some (fileOf pool0 8 #[] #[{ accessFlags := 1, nameIndex := 5, descriptorIndex := 6, attributes := #[] }] 33 0 #[] #[])
  fields := #[]
  methods := #[k0m0]
  instanceTypes := #[]
  staticTypes := #[]
  resolved := Array.replicate 124 none
  statics := none }

def pool1 : Array CpInfo := pool [(2, .class_ 4), (0, .nameAndType 5 6), (0, u "java/lang/Object"), (0, u "<init>"), (0, u "()V"), (0, .methodref 8 9), (0, .class_ 10), (0, .nameAndType 11 12), (0, u "java/lang/String"), (0, u "valueOf"), (0, u "(C)Ljava/lang/String;"), (0, .class_ 14), (0, u "com/example/tenderbook/tenderbook/Fields"), (0, .methodref 13 3), (0, .methodref 13 17), (0, .nameAndType 18 19), (0, u "add"), (0, u "(Ljava/lang/String;Ljava/lang/String;)V"), (0, .methodref 13 21), (0, .nameAndType 22 6), (0, u "clear"), (0, .methodref 13 24), (0, .nameAndType 25 26), (0, u "size"), (0, u "()I"), (0, .methodref 13 28), (0, .nameAndType 29 30), (0, u "getFirst"), (0, u "(Ljava/lang/String;)Ljava/lang/String;"), (0, .methodref 8 32), (0, .nameAndType 33 34), (0, u "equals"), (0, u "(Ljava/lang/Object;)Z"), (0, .methodref 13 36), (0, .nameAndType 37 38), (0, u "name"), (0, u "(I)Ljava/lang/String;"), (0, .class_ 40), (0, u "com/example/tenderbook/tenderbook/FieldsClearPinLaw"), (2, u "law"), (0, u "(IIIII)Z")] 3

def k1m0 : Method := { name := "<init>", desc := "()V", sig := { parameters := [], returnType := none }, accessFlags := 1, code := none }
def k1c1 : Code := { maxStack := 3, maxLocals := 20, code := code, exceptionTable := #[], attributes := #[] }
def k1m1 : Method := { name := "law", desc := "(IIIII)Z", sig := { parameters := [.int, .int, .int, .int, .int], returnType := some .boolean }, accessFlags := 9, code := some k1c1 }
/-- com/example/tenderbook/tenderbook/FieldsClearPinLaw -/
def k1 : Class := { plain "com/example/tenderbook/tenderbook/FieldsClearPinLaw" (some 0) with
  accessFlags := 49
  interfaces := #[]
  cf := some (fileOf pool1 39 #[] #[{ accessFlags := 1, nameIndex := 5, descriptorIndex := 6, attributes := #[] }, { accessFlags := 9, nameIndex := 43, descriptorIndex := 44, attributes := #[] }] 49 2 #[] #[])
  fields := #[]
  methods := #[k1m0, k1m1]
  instanceTypes := #[]
  staticTypes := #[]
  resolved := Array.replicate 48 none
  statics := none }

def pool2 : Array CpInfo := pool [(1, .class_ 2), (0, u "java/io/Serializable"), (0, .class_ 4), (0, u "java/lang/Object")] 2

/-- java/io/Serializable -/
def k2 : Class := { plain "java/io/Serializable" (some 0) with
  accessFlags := 1537
  interfaces := #[]
  cf := some (fileOf pool2 1 #[] #[] 1537 3 #[] #[])
  fields := #[]
  methods := #[]
  instanceTypes := #[]
  staticTypes := #[]
  resolved := Array.replicate 7 none
  statics := none }

def pool3 : Array CpInfo := pool [(1, .class_ 2), (0, u "java/lang/Comparable"), (0, .class_ 4), (0, u "java/lang/Object")] 7

/-- java/lang/Comparable -/
def k3 : Class := { plain "java/lang/Comparable" (some 0) with
  accessFlags := 1537
  interfaces := #[]
  cf := some (fileOf pool3 1 #[] #[] 1537 3 #[] #[])
  fields := #[]
  methods := #[]
  instanceTypes := #[]
  staticTypes := #[]
  resolved := Array.replicate 12 none
  statics := none }

def pool4 : Array CpInfo := pool [(2, .class_ 4), (1, u "java/lang/CharSequence"), (42, .class_ 48), (0, u "java/lang/CharSequence$1CodePointIterator"), (10, .class_ 60), (0, u "java/lang/CharSequence$1CharIterator"), (5, .class_ 67), (0, u "java/lang/Object")] 63

/-- java/lang/CharSequence -/
def k4 : Class := { plain "java/lang/CharSequence" (some 0) with
  accessFlags := 1537
  interfaces := #[]
  cf := some (fileOf pool4 2 #[.nestMembers #[47, 59]] #[] 1537 66 #[] #[])
  fields := #[]
  methods := #[]
  instanceTypes := #[]
  staticTypes := #[]
  resolved := Array.replicate 131 none
  statics := none }

def pool5 : Array CpInfo := pool [(1, .class_ 2), (0, u "java/lang/constant/Constable"), (0, .class_ 4), (0, u "java/lang/Object")] 6

/-- java/lang/constant/Constable -/
def k5 : Class := { plain "java/lang/constant/Constable" (some 0) with
  accessFlags := 1537
  interfaces := #[]
  cf := some (fileOf pool5 1 #[] #[] 1537 3 #[] #[])
  fields := #[]
  methods := #[]
  instanceTypes := #[]
  staticTypes := #[]
  resolved := Array.replicate 11 none
  statics := none }

def pool6 : Array CpInfo := pool [(1, .class_ 2), (0, u "java/lang/constant/ConstantDesc"), (0, .class_ 4), (0, u "java/lang/Object")] 32

/-- java/lang/constant/ConstantDesc -/
def k6 : Class := { plain "java/lang/constant/ConstantDesc" (some 0) with
  accessFlags := 1537
  interfaces := #[]
  cf := some (fileOf pool6 1 #[] #[] 1537 3 #[] #[])
  fields := #[]
  methods := #[]
  instanceTypes := #[]
  staticTypes := #[]
  resolved := Array.replicate 37 none
  statics := none }

def pool7 : Array CpInfo := pool [(1, .methodref 2 3), (0, .class_ 4), (0, .nameAndType 5 6), (0, u "java/lang/Object"), (0, u "<init>"), (0, u "()V"), (2, .fieldref 10 11), (0, .class_ 12), (0, .nameAndType 13 14), (0, u "java/lang/String"), (0, u "value"), (0, u "[B"), (0, .fieldref 10 16), (0, .nameAndType 17 18), (0, u "coder"), (0, u "B"), (2, u "hash"), (0, u "I"), (2, u "hashIsZero"), (0, u "Z"), (11, .fieldref 10 39), (0, .nameAndType 40 26), (0, u "COMPACT_STRINGS"), (12, u "toBytes"), (53, .class_ 109), (1, u "java/lang/StringLatin1"), (99, .methodref 10 210), (0, .nameAndType 5 211), (0, u "([BB)V"), (157, u "(C)Z"), (173, u "equals"), (29, u "(Ljava/lang/Object;)Z"), (1, .class_ 576), (0, u "java/lang/CharSequence"), (22, u "CASE_INSENSITIVE_ORDER"), (0, u "Ljava/util/Comparator;"), (181, u "valueOf"), (0, u "(C)Ljava/lang/String;"), (231, .methodref 107 1016), (0, .nameAndType 1017 369), (0, u "canEncode"), (0, .methodref 107 1019), (0, .nameAndType 53 1020), (0, u "(C)[B"), (80, u "serialPersistentFields"), (0, u "[Ljava/io/ObjectStreamField;"), (0, .class_ 1104), (0, u "java/lang/String$CaseInsensitiveComparator"), (1, .class_ 1107), (0, u "java/io/Serializable"), (0, .class_ 1109), (0, u "java/lang/Comparable"), (0, .class_ 1111), (0, u "java/lang/constant/Constable"), (0, .class_ 1113), (0, u "java/lang/constant/ConstantDesc"), (2, u "serialVersionUID"), (0, u "J"), (3, u "REPL"), (0, u "C"), (2, u "LATIN1"), (1, u "UTF16"), (128, u "equalsIgnoreCase"), (0, u "(Ljava/lang/String;)Z")] 193

def k7m0 : Method := { name := "<init>", desc := "()V", sig := { parameters := [], returnType := none }, accessFlags := 1, code := none }
def k7c1 : Code := { maxStack := 2, maxLocals := 3, code := jdk_42_method_66_code, exceptionTable := #[], attributes := #[] }
def k7m1 : Method := { name := "equals", desc := "(Ljava/lang/Object;)Z", sig := { parameters := [(.object "java/lang/Object")], returnType := some .boolean }, accessFlags := 1, code := some k7c1 }
def k7c2 : Code := { maxStack := 6, maxLocals := 2, code := jdk_42_method_70_code, exceptionTable := #[], attributes := #[] }
def k7m2 : Method := { name := "equalsIgnoreCase", desc := "(Ljava/lang/String;)Z", sig := { parameters := [(.object "java/lang/String")], returnType := some .boolean }, accessFlags := 1, code := some k7c2 }
def k7c3 : Code := { maxStack := 4, maxLocals := 1, code := jdk_42_method_139_code, exceptionTable := #[], attributes := #[] }
def k7m3 : Method := { name := "valueOf", desc := "(C)Ljava/lang/String;", sig := { parameters := [.char], returnType := some (.object "java/lang/String") }, accessFlags := 9, code := some k7c3 }
def k7c4 : Code := { maxStack := 2, maxLocals := 3, code := jdk_42_method_151_code, exceptionTable := #[], attributes := #[] }
def k7m4 : Method := { name := "<init>", desc := "([BB)V", sig := { parameters := [(.array .byte), .byte], returnType := none }, accessFlags := 0, code := some k7c4 }
/-- java/lang/String -/
def k7 : Class := { plain "java/lang/String" (some 0) with
  accessFlags := 49
  interfaces := #[2, 3, 4, 5, 6]
  cf := some (fileOf pool7 10 #[.nestMembers #[1103]] #[{ accessFlags := 1, nameIndex := 5, descriptorIndex := 6, attributes := #[] }, { accessFlags := 1, nameIndex := 543, descriptorIndex := 573, attributes := #[] }, { accessFlags := 1, nameIndex := 1256, descriptorIndex := 1257, attributes := #[] }, { accessFlags := 9, nameIndex := 782, descriptorIndex := 783, attributes := #[] }, { accessFlags := 0, nameIndex := 5, descriptorIndex := 211, attributes := #[] }] 49 2 #[1106, 1108, 575, 1110, 1112] #[{ accessFlags := 18, nameIndex := 13, descriptorIndex := 14, attributes := #[] }, { accessFlags := 18, nameIndex := 17, descriptorIndex := 18, attributes := #[] }, { accessFlags := 2, nameIndex := 21, descriptorIndex := 22, attributes := #[] }, { accessFlags := 2, nameIndex := 25, descriptorIndex := 26, attributes := #[] }, { accessFlags := 26, nameIndex := 1116, descriptorIndex := 1117, attributes := #[] }, { accessFlags := 24, nameIndex := 40, descriptorIndex := 26, attributes := #[] }, { accessFlags := 26, nameIndex := 1101, descriptorIndex := 1102, attributes := #[] }, { accessFlags := 26, nameIndex := 1121, descriptorIndex := 1122, attributes := #[] }, { accessFlags := 25, nameIndex := 599, descriptorIndex := 600, attributes := #[] }, { accessFlags := 24, nameIndex := 1125, descriptorIndex := 18, attributes := #[] }, { accessFlags := 24, nameIndex := 1127, descriptorIndex := 18, attributes := #[] }])
  fields := #[{ name := "value", type := (.array .byte), accessFlags := 18, slot := 0, constantValue := 0 }, { name := "coder", type := .byte, accessFlags := 18, slot := 1, constantValue := 0 }, { name := "hash", type := .int, accessFlags := 2, slot := 2, constantValue := 0 }, { name := "hashIsZero", type := .boolean, accessFlags := 2, slot := 3, constantValue := 0 }, { name := "serialVersionUID", type := .long, accessFlags := 26, slot := 0, constantValue := 0 }, { name := "COMPACT_STRINGS", type := .boolean, accessFlags := 24, slot := 1, constantValue := 0 }, { name := "serialPersistentFields", type := (.array (.object "java/io/ObjectStreamField")), accessFlags := 26, slot := 2, constantValue := 0 }, { name := "REPL", type := .char, accessFlags := 26, slot := 3, constantValue := 0 }, { name := "CASE_INSENSITIVE_ORDER", type := (.object "java/util/Comparator"), accessFlags := 25, slot := 4, constantValue := 0 }, { name := "LATIN1", type := .byte, accessFlags := 24, slot := 5, constantValue := 0 }, { name := "UTF16", type := .byte, accessFlags := 24, slot := 6, constantValue := 0 }]
  methods := #[k7m0, k7m1, k7m2, k7m3, k7m4]
  instanceTypes := #[(.array .byte), .byte, .int, .boolean]
  staticTypes := #[.long, .boolean, (.array (.object "java/io/ObjectStreamField")), .char, (.object "java/util/Comparator"), .byte, .byte]
  resolved := Array.replicate 1451 none
  statics := some 0 }

def pool8 : Array CpInfo := pool [(4, .class_ 6), (1, u "java/lang/Object"), (0, u "<init>"), (0, u "()V"), (5, .class_ 16), (1, u "java/lang/StringLatin1"), (73, u "canEncode"), (14, u "(C)Z"), (15, u "$assertionsDisabled"), (0, u "Z"), (98, .class_ 223), (1, u "java/lang/StringLatin1$LinesSpliterator"), (156, u "toBytes"), (1, u "(C)[B"), (7, .class_ 391), (0, u "java/lang/StringLatin1$CharsSpliterator")] 3

def k8m0 : Method := { name := "<init>", desc := "()V", sig := { parameters := [], returnType := none }, accessFlags := 0, code := none }
def k8c1 : Code := { maxStack := 2, maxLocals := 1, code := jdk_43_method_3_code, exceptionTable := #[], attributes := #[] }
def k8m1 : Method := { name := "canEncode", desc := "(C)Z", sig := { parameters := [.char], returnType := some .boolean }, accessFlags := 9, code := some k8c1 }
def k8c2 : Code := { maxStack := 4, maxLocals := 1, code := jdk_43_method_46_code, exceptionTable := #[], attributes := #[] }
def k8m2 : Method := { name := "toBytes", desc := "(C)[B", sig := { parameters := [.char], returnType := some (.array .byte) }, accessFlags := 9, code := some k8c2 }
/-- java/lang/StringLatin1 -/
def k8 : Class := { plain "java/lang/StringLatin1" (some 0) with
  accessFlags := 48
  interfaces := #[]
  cf := some (fileOf pool8 14 #[.nestMembers #[390, 221]] #[{ accessFlags := 0, nameIndex := 7, descriptorIndex := 8, attributes := #[] }, { accessFlags := 9, nameIndex := 90, descriptorIndex := 105, attributes := #[] }, { accessFlags := 9, nameIndex := 380, descriptorIndex := 382, attributes := #[] }] 48 4 #[] #[{ accessFlags := 4120, nameIndex := 121, descriptorIndex := 122, attributes := #[] }])
  fields := #[{ name := "$assertionsDisabled", type := .boolean, accessFlags := 4120, slot := 0, constantValue := 0 }]
  methods := #[k8m0, k8m1, k8m2]
  instanceTypes := #[]
  staticTypes := #[.boolean]
  resolved := Array.replicate 395 none
  statics := none }

def pool9 : Array CpInfo := pool [(1, .methodref 2 3), (0, .class_ 4), (0, .nameAndType 5 6), (0, u "java/lang/Object"), (0, u "<init>"), (0, u "()V"), (0, .class_ 8), (0, u "java/lang/String"), (0, .fieldref 10 11), (0, .class_ 12), (0, .nameAndType 13 14), (0, u "com/example/tenderbook/tenderbook/Fields"), (0, u "names"), (0, u "[Ljava/lang/String;"), (0, .fieldref 10 16), (0, .nameAndType 17 14), (0, u "values"), (0, .fieldref 10 19), (0, .nameAndType 20 21), (0, u "size"), (0, u "I"), (1, .class_ 25), (1, u "java/util/Arrays"), (9, u "add"), (0, u "(Ljava/lang/String;Ljava/lang/String;)V"), (0, .methodref 7 38), (0, .nameAndType 39 40), (0, u "equalsIgnoreCase"), (0, u "(Ljava/lang/String;)Z"), (10, u "getFirst"), (0, u "(Ljava/lang/String;)Ljava/lang/String;"), (0, .methodref 23 54), (0, .nameAndType 55 56), (0, u "fill"), (0, u "([Ljava/lang/Object;IILjava/lang/Object;)V"), (2, u "()I"), (0, u "name"), (0, u "(I)Ljava/lang/String;"), (8, u "clear")] 2

def k9c0 : Code := { maxStack := 2, maxLocals := 1, code := prog_8_method_1_code, exceptionTable := #[], attributes := #[] }
def k9m0 : Method := { name := "<init>", desc := "()V", sig := { parameters := [], returnType := none }, accessFlags := 0, code := some k9c0 }
def k9c1 : Code := { maxStack := 1, maxLocals := 1, code := prog_8_method_2_code, exceptionTable := #[], attributes := #[] }
def k9m1 : Method := { name := "size", desc := "()I", sig := { parameters := [], returnType := some .int }, accessFlags := 0, code := some k9c1 }
def k9c2 : Code := { maxStack := 2, maxLocals := 2, code := prog_8_method_3_code, exceptionTable := #[], attributes := #[] }
def k9m2 : Method := { name := "name", desc := "(I)Ljava/lang/String;", sig := { parameters := [.int], returnType := some (.object "java/lang/String") }, accessFlags := 0, code := some k9c2 }
def k9c3 : Code := { maxStack := 4, maxLocals := 3, code := prog_8_method_5_code, exceptionTable := #[], attributes := #[] }
def k9m3 : Method := { name := "add", desc := "(Ljava/lang/String;Ljava/lang/String;)V", sig := { parameters := [(.object "java/lang/String"), (.object "java/lang/String")], returnType := none }, accessFlags := 0, code := some k9c3 }
def k9c4 : Code := { maxStack := 2, maxLocals := 3, code := prog_8_method_7_code, exceptionTable := #[], attributes := #[] }
def k9m4 : Method := { name := "getFirst", desc := "(Ljava/lang/String;)Ljava/lang/String;", sig := { parameters := [(.object "java/lang/String")], returnType := some (.object "java/lang/String") }, accessFlags := 0, code := some k9c4 }
def k9c5 : Code := { maxStack := 4, maxLocals := 1, code := prog_8_method_11_code, exceptionTable := #[], attributes := #[] }
def k9m5 : Method := { name := "clear", desc := "()V", sig := { parameters := [], returnType := none }, accessFlags := 0, code := some k9c5 }
/-- com/example/tenderbook/tenderbook/Fields -/
def k9 : Class := { plain "com/example/tenderbook/tenderbook/Fields" (some 0) with
  accessFlags := 48
  interfaces := #[]
  cf := some (fileOf pool9 10 #[] #[{ accessFlags := 0, nameIndex := 5, descriptorIndex := 6, attributes := #[] }, { accessFlags := 0, nameIndex := 20, descriptorIndex := 59, attributes := #[] }, { accessFlags := 0, nameIndex := 60, descriptorIndex := 61, attributes := #[] }, { accessFlags := 0, nameIndex := 35, descriptorIndex := 36, attributes := #[] }, { accessFlags := 0, nameIndex := 51, descriptorIndex := 52, attributes := #[] }, { accessFlags := 0, nameIndex := 70, descriptorIndex := 6, attributes := #[] }] 48 2 #[] #[{ accessFlags := 2, nameIndex := 13, descriptorIndex := 14, attributes := #[] }, { accessFlags := 2, nameIndex := 17, descriptorIndex := 14, attributes := #[] }, { accessFlags := 2, nameIndex := 20, descriptorIndex := 21, attributes := #[] }])
  fields := #[{ name := "names", type := (.array (.object "java/lang/String")), accessFlags := 2, slot := 0, constantValue := 0 }, { name := "values", type := (.array (.object "java/lang/String")), accessFlags := 2, slot := 1, constantValue := 0 }, { name := "size", type := .int, accessFlags := 2, slot := 2, constantValue := 0 }]
  methods := #[k9m0, k9m1, k9m2, k9m3, k9m4, k9m5]
  instanceTypes := #[(.array (.object "java/lang/String")), (.array (.object "java/lang/String")), .int]
  staticTypes := #[]
  resolved := Array.replicate 73 none
  statics := none }

def pool10 : Array CpInfo := pool [(2, .class_ 4), (1, u "java/lang/Object"), (0, u "<init>"), (0, u "()V"), (6, .methodref 14 15), (0, .class_ 16), (0, .nameAndType 17 18), (0, u "java/util/Arrays"), (0, u "rangeCheck"), (0, u "(III)V"), (55, .class_ 76), (1, u "java/util/Arrays$NaturalOrder"), (36, .class_ 115), (1, u "java/util/Arrays$LegacyMergeSort"), (1, u "Z"), (257, .class_ 376), (0, u "java/util/Arrays$ArrayList"), (68, u "$assertionsDisabled"), (269, u "MIN_ARRAY_SORT_GRAN"), (0, u "I"), (2, u "INSERTIONSORT_THRESHOLD"), (120, u "fill"), (18, u "([Ljava/lang/Object;IILjava/lang/Object;)V"), (115, .class_ 976), (0, u "java/util/Arrays$ArrayItr")] 52

def k10m0 : Method := { name := "<init>", desc := "()V", sig := { parameters := [], returnType := none }, accessFlags := 2, code := none }
def k10c1 : Code := { maxStack := 4, maxLocals := 3, code := jdk_65_method_30_code, exceptionTable := #[], attributes := #[] }
def k10m1 : Method := { name := "rangeCheck", desc := "(III)V", sig := { parameters := [.int, .int, .int], returnType := none }, accessFlags := 8, code := some k10c1 }
def k10c2 : Code := { maxStack := 3, maxLocals := 5, code := jdk_65_method_118_code, exceptionTable := #[], attributes := #[] }
def k10m2 : Method := { name := "fill", desc := "([Ljava/lang/Object;IILjava/lang/Object;)V", sig := { parameters := [(.array (.object "java/lang/Object")), .int, .int, (.object "java/lang/Object")], returnType := none }, accessFlags := 9, code := some k10c2 }
/-- java/util/Arrays -/
def k10 : Class := { plain "java/util/Arrays" (some 0) with
  accessFlags := 49
  interfaces := #[]
  cf := some (fileOf pool10 14 #[.nestMembers #[975, 375, 113, 74]] #[{ accessFlags := 2, nameIndex := 5, descriptorIndex := 6, attributes := #[] }, { accessFlags := 8, nameIndex := 17, descriptorIndex := 18, attributes := #[] }, { accessFlags := 9, nameIndex := 840, descriptorIndex := 859, attributes := #[] }] 49 2 #[] #[{ accessFlags := 26, nameIndex := 715, descriptorIndex := 716, attributes := #[] }, { accessFlags := 26, nameIndex := 719, descriptorIndex := 716, attributes := #[] }, { accessFlags := 4120, nameIndex := 445, descriptorIndex := 117, attributes := #[] }])
  fields := #[{ name := "MIN_ARRAY_SORT_GRAN", type := .int, accessFlags := 26, slot := 0, constantValue := 0 }, { name := "INSERTIONSORT_THRESHOLD", type := .int, accessFlags := 26, slot := 1, constantValue := 0 }, { name := "$assertionsDisabled", type := .boolean, accessFlags := 4120, slot := 2, constantValue := 0 }]
  methods := #[k10m0, k10m1, k10m2]
  instanceTypes := #[]
  staticTypes := #[.int, .int, .boolean]
  resolved := Array.replicate 1029 none
  statics := none }

def pool11 : Array CpInfo := pool [(2, .class_ 4), (1, u "java/lang/Object"), (0, u "<init>"), (0, u "()V"), (17, .class_ 26), (1, u "jdk/internal/util/Preconditions"), (28, .class_ 56), (0, u "jdk/internal/util/Preconditions$4"), (57, .class_ 115), (0, u "jdk/internal/util/Preconditions$1"), (7, u "SIOOBE_FORMATTER"), (0, u "Ljava/util/function/BiFunction;"), (0, .class_ 126), (0, u "jdk/internal/util/Preconditions$2"), (3, u "AIOOBE_FORMATTER"), (0, .class_ 132), (0, u "jdk/internal/util/Preconditions$3"), (3, u "IOOBE_FORMATTER")] 57

def k11m0 : Method := { name := "<init>", desc := "()V", sig := { parameters := [], returnType := none }, accessFlags := 1, code := none }
/-- jdk/internal/util/Preconditions -/
def k11 : Class := { plain "jdk/internal/util/Preconditions" (some 0) with
  accessFlags := 33
  interfaces := #[]
  cf := some (fileOf pool11 24 #[.nestMembers #[55, 131, 125, 114]] #[{ accessFlags := 1, nameIndex := 5, descriptorIndex := 6, attributes := #[] }] 33 2 #[] #[{ accessFlags := 25, nameIndex := 123, descriptorIndex := 124, attributes := #[] }, { accessFlags := 25, nameIndex := 130, descriptorIndex := 124, attributes := #[] }, { accessFlags := 25, nameIndex := 136, descriptorIndex := 124, attributes := #[] }])
  fields := #[{ name := "SIOOBE_FORMATTER", type := (.object "java/util/function/BiFunction"), accessFlags := 25, slot := 0, constantValue := 0 }, { name := "AIOOBE_FORMATTER", type := (.object "java/util/function/BiFunction"), accessFlags := 25, slot := 1, constantValue := 0 }, { name := "IOOBE_FORMATTER", type := (.object "java/util/function/BiFunction"), accessFlags := 25, slot := 2, constantValue := 0 }]
  methods := #[k11m0]
  instanceTypes := #[]
  staticTypes := #[(.object "java/util/function/BiFunction"), (.object "java/util/function/BiFunction"), (.object "java/util/function/BiFunction")]
  resolved := Array.replicate 194 none
  statics := some 1 }

def pool12 : Array CpInfo := pool [(9, u "<init>"), (6, .class_ 18), (1, u "java/lang/Object"), (0, u "()V"), (1, .class_ 23), (1, u "jdk/internal/util/ArraysSupport"), (0, u "LOG2_ARRAY_LONG_INDEX_SCALE"), (0, u "I"), (2, u "U"), (0, u "Ljdk/internal/misc/Unsafe;"), (8, u "BIG_ENDIAN"), (0, u "Z"), (8, u "LOG2_BYTE_BIT_SIZE"), (4, u "LOG2_ARRAY_INT_INDEX_SCALE"), (54, u "JLA"), (0, u "Ljdk/internal/access/JavaLangAccess;"), (11, u "LOG2_ARRAY_BOOLEAN_INDEX_SCALE"), (9, u "LOG2_ARRAY_BYTE_INDEX_SCALE"), (5, u "LOG2_ARRAY_CHAR_INDEX_SCALE"), (5, u "LOG2_ARRAY_SHORT_INDEX_SCALE"), (18, u "LOG2_ARRAY_FLOAT_INDEX_SCALE"), (24, u "LOG2_ARRAY_DOUBLE_INDEX_SCALE"), (89, u "T_BOOLEAN"), (2, u "T_CHAR"), (1, u "T_FLOAT"), (1, u "T_DOUBLE"), (1, u "T_BYTE"), (1, u "T_SHORT"), (1, u "T_INT"), (1, u "T_LONG"), (1, u "SOFT_MAX_ARRAY_LENGTH")] 83

def k12m0 : Method := { name := "<init>", desc := "()V", sig := { parameters := [], returnType := none }, accessFlags := 2, code := none }
/-- jdk/internal/util/ArraysSupport -/
def k12 : Class := { plain "jdk/internal/util/ArraysSupport" (some 0) with
  accessFlags := 33
  interfaces := #[]
  cf := some (fileOf pool12 21 #[] #[{ accessFlags := 2, nameIndex := 9, descriptorIndex := 19, attributes := #[] }] 33 16 #[] #[{ accessFlags := 24, nameIndex := 28, descriptorIndex := 29, attributes := #[] }, { accessFlags := 26, nameIndex := 38, descriptorIndex := 39, attributes := #[] }, { accessFlags := 25, nameIndex := 121, descriptorIndex := 25, attributes := #[] }, { accessFlags := 25, nameIndex := 131, descriptorIndex := 25, attributes := #[] }, { accessFlags := 25, nameIndex := 137, descriptorIndex := 25, attributes := #[] }, { accessFlags := 25, nameIndex := 143, descriptorIndex := 25, attributes := #[] }, { accessFlags := 25, nameIndex := 53, descriptorIndex := 25, attributes := #[] }, { accessFlags := 25, nameIndex := 24, descriptorIndex := 25, attributes := #[] }, { accessFlags := 25, nameIndex := 162, descriptorIndex := 25, attributes := #[] }, { accessFlags := 25, nameIndex := 187, descriptorIndex := 25, attributes := #[] }, { accessFlags := 26, nameIndex := 48, descriptorIndex := 25, attributes := #[] }, { accessFlags := 25, nameIndex := 277, descriptorIndex := 25, attributes := #[] }, { accessFlags := 25, nameIndex := 280, descriptorIndex := 25, attributes := #[] }, { accessFlags := 25, nameIndex := 282, descriptorIndex := 25, attributes := #[] }, { accessFlags := 25, nameIndex := 284, descriptorIndex := 25, attributes := #[] }, { accessFlags := 25, nameIndex := 286, descriptorIndex := 25, attributes := #[] }, { accessFlags := 25, nameIndex := 288, descriptorIndex := 25, attributes := #[] }, { accessFlags := 25, nameIndex := 290, descriptorIndex := 25, attributes := #[] }, { accessFlags := 25, nameIndex := 292, descriptorIndex := 25, attributes := #[] }, { accessFlags := 26, nameIndex := 108, descriptorIndex := 109, attributes := #[] }, { accessFlags := 25, nameIndex := 294, descriptorIndex := 25, attributes := #[] }])
  fields := #[{ name := "U", type := (.object "jdk/internal/misc/Unsafe"), accessFlags := 24, slot := 0, constantValue := 0 }, { name := "BIG_ENDIAN", type := .boolean, accessFlags := 26, slot := 1, constantValue := 0 }, { name := "LOG2_ARRAY_BOOLEAN_INDEX_SCALE", type := .int, accessFlags := 25, slot := 2, constantValue := 0 }, { name := "LOG2_ARRAY_BYTE_INDEX_SCALE", type := .int, accessFlags := 25, slot := 3, constantValue := 0 }, { name := "LOG2_ARRAY_CHAR_INDEX_SCALE", type := .int, accessFlags := 25, slot := 4, constantValue := 0 }, { name := "LOG2_ARRAY_SHORT_INDEX_SCALE", type := .int, accessFlags := 25, slot := 5, constantValue := 0 }, { name := "LOG2_ARRAY_INT_INDEX_SCALE", type := .int, accessFlags := 25, slot := 6, constantValue := 0 }, { name := "LOG2_ARRAY_LONG_INDEX_SCALE", type := .int, accessFlags := 25, slot := 7, constantValue := 0 }, { name := "LOG2_ARRAY_FLOAT_INDEX_SCALE", type := .int, accessFlags := 25, slot := 8, constantValue := 0 }, { name := "LOG2_ARRAY_DOUBLE_INDEX_SCALE", type := .int, accessFlags := 25, slot := 9, constantValue := 0 }, { name := "LOG2_BYTE_BIT_SIZE", type := .int, accessFlags := 26, slot := 10, constantValue := 0 }, { name := "T_BOOLEAN", type := .int, accessFlags := 25, slot := 11, constantValue := 0 }, { name := "T_CHAR", type := .int, accessFlags := 25, slot := 12, constantValue := 0 }, { name := "T_FLOAT", type := .int, accessFlags := 25, slot := 13, constantValue := 0 }, { name := "T_DOUBLE", type := .int, accessFlags := 25, slot := 14, constantValue := 0 }, { name := "T_BYTE", type := .int, accessFlags := 25, slot := 15, constantValue := 0 }, { name := "T_SHORT", type := .int, accessFlags := 25, slot := 16, constantValue := 0 }, { name := "T_INT", type := .int, accessFlags := 25, slot := 17, constantValue := 0 }, { name := "T_LONG", type := .int, accessFlags := 25, slot := 18, constantValue := 0 }, { name := "JLA", type := (.object "jdk/internal/access/JavaLangAccess"), accessFlags := 26, slot := 19, constantValue := 0 }, { name := "SOFT_MAX_ARRAY_LENGTH", type := .int, accessFlags := 25, slot := 20, constantValue := 0 }]
  methods := #[k12m0]
  instanceTypes := #[]
  staticTypes := #[(.object "jdk/internal/misc/Unsafe"), .boolean, .int, .int, .int, .int, .int, .int, .int, .int, .int, .int, .int, .int, .int, .int, .int, .int, .int, (.object "jdk/internal/access/JavaLangAccess"), .int]
  resolved := Array.replicate 378 none
  statics := none }

def pool13 : Array CpInfo := pool [(1, u "java/lang/Cloneable"), (0, .class_ 1), (0, u "java/lang/Object"), (0, .class_ 3)] 3

/-- java/lang/Cloneable -/
def k13 : Class := { plain "java/lang/Cloneable" (some 0) with
  accessFlags := 1537
  interfaces := #[]
  cf := some (fileOf pool13 2 #[] #[] 1537 4 #[] #[])
  fields := #[]
  methods := #[]
  instanceTypes := #[]
  staticTypes := #[]
  resolved := Array.replicate 8 none
  statics := none }

/-- the primitive byte -/
def k14 : Class := { plain "byte" none with kind := .primitive 'B', accessFlags := 0x411 }
/-- [B -/
def k15 : Class := { plain "[B" (some 0) with kind := .array 14 .byte, interfaces := #[13, 2], accessFlags := 1041 }

/-- the primitive int -/
def k16 : Class := { plain "int" none with kind := .primitive 'I', accessFlags := 0x411 }
/-- [I -/
def k17 : Class := { plain "[I" (some 0) with kind := .array 16 .int, interfaces := #[13, 2], accessFlags := 1041 }

/-- [Ljava/lang/String; -/
def k18 : Class := { plain "[Ljava/lang/String;" (some 0) with kind := .array 7 (.object "java/lang/String"), interfaces := #[13, 2], accessFlags := 1041 }

def heap : Heap := #[{ cls := 7, slots := #[.long 0, .int 1, .null, .int 0, .null, .int 0, .int 0], vm := .statics 7 },
  { cls := 11, slots := #[.null, .null, .null], vm := .statics 11 }]
def classes : Array Class := #[k0, k1, k2, k3, k4, k5, k6, k7, k8, k9, k10, k11, k12, k13, k14, k15, k16, k17, k18]
def interned : List (Array UInt16 × Addr) := []
def slotsUsed : Nat := 10
def theMethod : MethodId := ⟨1, 1⟩
def args0 : Array Value := #[.int 5, .int 7, .int 3, .int 9, .int 9]
def aboutOver (below : List Frame) : State where
  vm := { classes := classes, interned := interned.toArray }
  heap := heap
  slotsUsed := slotsUsed
  threads := #[{ frames := .invoking theMethod args0 :: below }]
def below0 : List Frame := [.native { method := ⟨0, 0⟩, args := #[] }]
def about1 : State := aboutOver below0
def p0 : Program := .bare "" "" ""
def e0 : Env := launch0.env 0 0 0
theorem w_frames : about1.frames = Frame.invoking theMethod args0 :: below0 := rfl
set_option maxRecDepth 65536 in
theorem w_args : argsFit about1.vm theMethod args0 = true := by decide +kernel
set_option maxRecDepth 65536 in
theorem w_heap : heapFits about1 = true := by decide +kernel
set_option maxRecDepth 65536 in
theorem w_runnable : about1.curStatus? = some .runnable := by decide +kernel
set_option maxRecDepth 65536 in
theorem w_alone : about1.alone = true := by decide +kernel
set_option maxRecDepth 65536 in
theorem w_named : about1.methodNamed? x = some theMethod := by decide +kernel
set_option maxRecDepth 65536 in
theorem w_hears : about1.hears theMethod below0 = true := by decide +kernel
set_option maxRecDepth 65536 in
theorem w_ripe : about1.ripe theMethod args0 below0 = true := by decide +kernel
theorem w_running : about1.status = .running := rfl
set_option maxRecDepth 65536 in
theorem w_room : about1.hasRoom e0.platform room_1 = true :=
  launch0.hasRoom_least _ room_1 (by decide +kernel) (by decide +kernel) (by decide +kernel) (by decide +kernel) (by decide +kernel) (by decide +kernel)
theorem allAtoms_all (ts : List Jvm.Cond) (a : Array Jvm.Value) (st : Jvm.State) : (allAtoms ts).before a st = ts.all (fun c => c.before a st) := by
  induction ts with
  | nil => rfl
  | cons c t ih =>
    show (Jvm.Cond.and c (allAtoms t)).before a st = _
    rw [Jvm.Cond.before_and, ih, List.all_cons]
def words1 : List Jvm.Cond := Jvm.Cond.code x code maxLocals ret :: tables_1
/-- a 'code' word, met by the world's own term for the bytes: nothing is compared byte by byte -/
theorem code_word {y : MethodName} {bytes : ByteArray} {mx : Nat} {rt : Option FieldType} {a : Array Value} {s : State} {m : MethodId} {meth : Method} {c : Code} (h1 : s.methodNamed? y = some m) (h2 : s.vm.method? m = some meth) (h3 : meth.code = some c) (h4 : c.code = bytes)
    (h5 : (c.maxLocals == mx && c.exceptionTable.isEmpty && decide (c.maxStack ≤ mostOperands) && decide (meth.sig.returnType = rt) && !meth.locks && decide (parseMethodDescriptor y.desc = some meth.sig)) = true) : (Jvm.Cond.code y bytes mx rt).before a s = true := by
  simp only [Bool.and_eq_true, beq_iff_eq, Bool.not_eq_true', decide_eq_true_eq] at h5
  obtain ⟨⟨⟨⟨⟨g1, g2⟩, g3⟩, g4⟩, g5⟩, g6⟩ := h5
  simp [Cond.before, Cond.holds, Cond.value, h1, h2, h3, h4, g1, g2, g3, g4, g5, g6]
def isCode : Jvm.Cond → Bool
  | .code _ _ _ _ => true
  | _ => false
theorem all_split {L : List Jvm.Cond} {P : Jvm.Cond → Bool} (h1 : L.all (fun c => isCode c || P c) = true) (h2 : ∀ c ∈ L.filter isCode, P c = true) : L.all P = true := by
  refine List.all_eq_true.mpr fun c hc => ?_
  have h := List.all_eq_true.mp h1 c hc
  rcases Bool.eq_false_or_eq_true (isCode c) with hi | hi
  · exact h2 c (List.mem_filter.mpr ⟨hc, hi⟩)
  · simpa [hi] using h
set_option maxRecDepth 65536 in
theorem w_c0 : (Jvm.Cond.code x code maxLocals ret).before args0 about1 = true := code_word (m := ⟨1, 1⟩) (meth := k1m1) (c := k1c1) (by decide +kernel) rfl rfl rfl (by decide +kernel)
set_option maxRecDepth 65536 in
theorem w_c1 : (Jvm.Cond.code ({ cls := "java/lang/String", name := "valueOf", desc := "(C)Ljava/lang/String;" } : Jvm.MethodName) jdk_42_method_139_code (1 : Nat) (Option.some (Jvm.ClassFile.FieldType.object "java/lang/String"))).before args0 about1 = true := code_word (m := ⟨7, 3⟩) (meth := k7m3) (c := k7c3) (by decide +kernel) rfl rfl rfl (by decide +kernel)
set_option maxRecDepth 65536 in
theorem w_c2 : (Jvm.Cond.code ({ cls := "java/lang/StringLatin1", name := "canEncode", desc := "(C)Z" } : Jvm.MethodName) jdk_43_method_3_code (1 : Nat) (Option.some Jvm.ClassFile.FieldType.boolean)).before args0 about1 = true := code_word (m := ⟨8, 1⟩) (meth := k8m1) (c := k8c1) (by decide +kernel) rfl rfl rfl (by decide +kernel)
set_option maxRecDepth 65536 in
theorem w_c3 : (Jvm.Cond.code ({ cls := "java/lang/StringLatin1", name := "toBytes", desc := "(C)[B" } : Jvm.MethodName) jdk_43_method_46_code (1 : Nat) (Option.some (Jvm.ClassFile.FieldType.array Jvm.ClassFile.FieldType.byte))).before args0 about1 = true := code_word (m := ⟨8, 2⟩) (meth := k8m2) (c := k8c2) (by decide +kernel) rfl rfl rfl (by decide +kernel)
set_option maxRecDepth 65536 in
theorem w_c4 : (Jvm.Cond.code ({ cls := "java/lang/String", name := "<init>", desc := "([BB)V" } : Jvm.MethodName) jdk_42_method_151_code (3 : Nat) (Option.none : Option Jvm.ClassFile.FieldType)).before args0 about1 = true := code_word (m := ⟨7, 4⟩) (meth := k7m4) (c := k7c4) (by decide +kernel) rfl rfl rfl (by decide +kernel)
set_option maxRecDepth 65536 in
theorem w_c5 : (Jvm.Cond.code ({ cls := "java/lang/Object", name := "<init>", desc := "()V" } : Jvm.MethodName) object_method_1_code (1 : Nat) (Option.none : Option Jvm.ClassFile.FieldType)).before args0 about1 = true := code_word (m := ⟨0, 0⟩) (meth := k0m0) (c := k0c0) (by decide +kernel) rfl rfl rfl (by decide +kernel)
set_option maxRecDepth 65536 in
theorem w_c6 : (Jvm.Cond.code ({ cls := "com/example/tenderbook/tenderbook/Fields", name := "<init>", desc := "()V" } : Jvm.MethodName) prog_8_method_1_code (1 : Nat) (Option.none : Option Jvm.ClassFile.FieldType)).before args0 about1 = true := code_word (m := ⟨9, 0⟩) (meth := k9m0) (c := k9c0) (by decide +kernel) rfl rfl rfl (by decide +kernel)
set_option maxRecDepth 65536 in
theorem w_c7 : (Jvm.Cond.code ({ cls := "com/example/tenderbook/tenderbook/Fields", name := "clear", desc := "()V" } : Jvm.MethodName) prog_8_method_11_code (1 : Nat) (Option.none : Option Jvm.ClassFile.FieldType)).before args0 about1 = true := code_word (m := ⟨9, 5⟩) (meth := k9m5) (c := k9c5) (by decide +kernel) rfl rfl rfl (by decide +kernel)
set_option maxRecDepth 65536 in
theorem w_c8 : (Jvm.Cond.code ({ cls := "java/util/Arrays", name := "fill", desc := "([Ljava/lang/Object;IILjava/lang/Object;)V" } : Jvm.MethodName) jdk_65_method_118_code (5 : Nat) (Option.none : Option Jvm.ClassFile.FieldType)).before args0 about1 = true := code_word (m := ⟨10, 2⟩) (meth := k10m2) (c := k10c2) (by decide +kernel) rfl rfl rfl (by decide +kernel)
set_option maxRecDepth 65536 in
theorem w_c9 : (Jvm.Cond.code ({ cls := "java/util/Arrays", name := "rangeCheck", desc := "(III)V" } : Jvm.MethodName) jdk_65_method_30_code (3 : Nat) (Option.none : Option Jvm.ClassFile.FieldType)).before args0 about1 = true := code_word (m := ⟨10, 1⟩) (meth := k10m1) (c := k10c1) (by decide +kernel) rfl rfl rfl (by decide +kernel)
set_option maxRecDepth 65536 in
theorem w_c10 : (Jvm.Cond.code ({ cls := "com/example/tenderbook/tenderbook/Fields", name := "size", desc := "()I" } : Jvm.MethodName) prog_8_method_2_code (1 : Nat) (Option.some Jvm.ClassFile.FieldType.int)).before args0 about1 = true := code_word (m := ⟨9, 1⟩) (meth := k9m1) (c := k9c1) (by decide +kernel) rfl rfl rfl (by decide +kernel)
set_option maxRecDepth 65536 in
theorem w_c11 : (Jvm.Cond.code ({ cls := "com/example/tenderbook/tenderbook/Fields", name := "add", desc := "(Ljava/lang/String;Ljava/lang/String;)V" } : Jvm.MethodName) prog_8_method_5_code (3 : Nat) (Option.none : Option Jvm.ClassFile.FieldType)).before args0 about1 = true := code_word (m := ⟨9, 3⟩) (meth := k9m3) (c := k9c3) (by decide +kernel) rfl rfl rfl (by decide +kernel)
set_option maxRecDepth 65536 in
theorem w_c12 : (Jvm.Cond.code ({ cls := "com/example/tenderbook/tenderbook/Fields", name := "getFirst", desc := "(Ljava/lang/String;)Ljava/lang/String;" } : Jvm.MethodName) prog_8_method_7_code (3 : Nat) (Option.some (Jvm.ClassFile.FieldType.object "java/lang/String"))).before args0 about1 = true := code_word (m := ⟨9, 4⟩) (meth := k9m4) (c := k9c4) (by decide +kernel) rfl rfl rfl (by decide +kernel)
set_option maxRecDepth 65536 in
theorem w_c13 : (Jvm.Cond.code ({ cls := "java/lang/String", name := "equalsIgnoreCase", desc := "(Ljava/lang/String;)Z" } : Jvm.MethodName) jdk_42_method_70_code (2 : Nat) (Option.some Jvm.ClassFile.FieldType.boolean)).before args0 about1 = true := code_word (m := ⟨7, 2⟩) (meth := k7m2) (c := k7c2) (by decide +kernel) rfl rfl rfl (by decide +kernel)
set_option maxRecDepth 65536 in
theorem w_c14 : (Jvm.Cond.code ({ cls := "java/lang/String", name := "equals", desc := "(Ljava/lang/Object;)Z" } : Jvm.MethodName) jdk_42_method_66_code (3 : Nat) (Option.some Jvm.ClassFile.FieldType.boolean)).before args0 about1 = true := code_word (m := ⟨7, 1⟩) (meth := k7m1) (c := k7c1) (by decide +kernel) rfl rfl rfl (by decide +kernel)
set_option maxRecDepth 65536 in
theorem w_c15 : (Jvm.Cond.code ({ cls := "com/example/tenderbook/tenderbook/Fields", name := "name", desc := "(I)Ljava/lang/String;" } : Jvm.MethodName) prog_8_method_3_code (2 : Nat) (Option.some (Jvm.ClassFile.FieldType.object "java/lang/String"))).before args0 about1 = true := code_word (m := ⟨9, 2⟩) (meth := k9m2) (c := k9c2) (by decide +kernel) rfl rfl rfl (by decide +kernel)
def codes1 : List Jvm.Cond := [Jvm.Cond.code x code maxLocals ret, Jvm.Cond.code ({ cls := "java/lang/String", name := "valueOf", desc := "(C)Ljava/lang/String;" } : Jvm.MethodName) jdk_42_method_139_code (1 : Nat) (Option.some (Jvm.ClassFile.FieldType.object "java/lang/String")), Jvm.Cond.code ({ cls := "java/lang/StringLatin1", name := "canEncode", desc := "(C)Z" } : Jvm.MethodName) jdk_43_method_3_code (1 : Nat) (Option.some Jvm.ClassFile.FieldType.boolean), Jvm.Cond.code ({ cls := "java/lang/StringLatin1", name := "toBytes", desc := "(C)[B" } : Jvm.MethodName) jdk_43_method_46_code (1 : Nat) (Option.some (Jvm.ClassFile.FieldType.array Jvm.ClassFile.FieldType.byte)), Jvm.Cond.code ({ cls := "java/lang/String", name := "<init>", desc := "([BB)V" } : Jvm.MethodName) jdk_42_method_151_code (3 : Nat) (Option.none : Option Jvm.ClassFile.FieldType), Jvm.Cond.code ({ cls := "java/lang/Object", name := "<init>", desc := "()V" } : Jvm.MethodName) object_method_1_code (1 : Nat) (Option.none : Option Jvm.ClassFile.FieldType), Jvm.Cond.code ({ cls := "com/example/tenderbook/tenderbook/Fields", name := "<init>", desc := "()V" } : Jvm.MethodName) prog_8_method_1_code (1 : Nat) (Option.none : Option Jvm.ClassFile.FieldType), Jvm.Cond.code ({ cls := "com/example/tenderbook/tenderbook/Fields", name := "clear", desc := "()V" } : Jvm.MethodName) prog_8_method_11_code (1 : Nat) (Option.none : Option Jvm.ClassFile.FieldType), Jvm.Cond.code ({ cls := "java/util/Arrays", name := "fill", desc := "([Ljava/lang/Object;IILjava/lang/Object;)V" } : Jvm.MethodName) jdk_65_method_118_code (5 : Nat) (Option.none : Option Jvm.ClassFile.FieldType), Jvm.Cond.code ({ cls := "java/util/Arrays", name := "rangeCheck", desc := "(III)V" } : Jvm.MethodName) jdk_65_method_30_code (3 : Nat) (Option.none : Option Jvm.ClassFile.FieldType), Jvm.Cond.code ({ cls := "com/example/tenderbook/tenderbook/Fields", name := "size", desc := "()I" } : Jvm.MethodName) prog_8_method_2_code (1 : Nat) (Option.some Jvm.ClassFile.FieldType.int), Jvm.Cond.code ({ cls := "com/example/tenderbook/tenderbook/Fields", name := "add", desc := "(Ljava/lang/String;Ljava/lang/String;)V" } : Jvm.MethodName) prog_8_method_5_code (3 : Nat) (Option.none : Option Jvm.ClassFile.FieldType), Jvm.Cond.code ({ cls := "com/example/tenderbook/tenderbook/Fields", name := "getFirst", desc := "(Ljava/lang/String;)Ljava/lang/String;" } : Jvm.MethodName) prog_8_method_7_code (3 : Nat) (Option.some (Jvm.ClassFile.FieldType.object "java/lang/String")), Jvm.Cond.code ({ cls := "java/lang/String", name := "equalsIgnoreCase", desc := "(Ljava/lang/String;)Z" } : Jvm.MethodName) jdk_42_method_70_code (2 : Nat) (Option.some Jvm.ClassFile.FieldType.boolean), Jvm.Cond.code ({ cls := "java/lang/String", name := "equals", desc := "(Ljava/lang/Object;)Z" } : Jvm.MethodName) jdk_42_method_66_code (3 : Nat) (Option.some Jvm.ClassFile.FieldType.boolean), Jvm.Cond.code ({ cls := "com/example/tenderbook/tenderbook/Fields", name := "name", desc := "(I)Ljava/lang/String;" } : Jvm.MethodName) prog_8_method_3_code (2 : Nat) (Option.some (Jvm.ClassFile.FieldType.object "java/lang/String"))]
set_option maxRecDepth 65536 in
theorem codes_eq : words1.filter isCode = codes1 := rfl
theorem w_codes : ∀ c ∈ words1.filter isCode, c.before args0 about1 = true := by
  rw [codes_eq]
  intro c hc
  simp only [codes1, List.mem_cons, List.not_mem_nil, or_false] at hc
  rcases hc with rfl | rfl | rfl | rfl | rfl | rfl | rfl | rfl | rfl | rfl | rfl | rfl | rfl | rfl | rfl | rfl
  · exact w_c0
  · exact w_c1
  · exact w_c2
  · exact w_c3
  · exact w_c4
  · exact w_c5
  · exact w_c6
  · exact w_c7
  · exact w_c8
  · exact w_c9
  · exact w_c10
  · exact w_c11
  · exact w_c12
  · exact w_c13
  · exact w_c14
  · exact w_c15
set_option maxRecDepth 65536 in
theorem w_t1 : (words1.take 24).all (fun c => isCode c || c.before args0 about1) = true := by decide +kernel
set_option maxRecDepth 65536 in
theorem w_t2 : ((words1.drop 24).take 24).all (fun c => isCode c || c.before args0 about1) = true := by decide +kernel
set_option maxRecDepth 65536 in
theorem w_t3 : (((words1.drop 24).drop 24).take 24).all (fun c => isCode c || c.before args0 about1) = true := by decide +kernel
set_option maxRecDepth 65536 in
theorem w_t4 : (((words1.drop 24).drop 24).drop 24).all (fun c => isCode c || c.before args0 about1) = true := by decide +kernel
theorem w_tables : (allAtoms (Jvm.Cond.code x code maxLocals ret :: tables_1)).before args0 about1 = true := by
  rw [allAtoms_all]
  show words1.all (fun c => c.before args0 about1) = true
  refine all_split ?_ w_codes
  rw [← List.take_append_drop 24 words1, List.all_append, w_t1, ← List.take_append_drop 24 (words1.drop 24), List.all_append, w_t2, ← List.take_append_drop 24 ((words1.drop 24).drop 24), List.all_append, w_t3, w_t4]
  rfl
set_option maxRecDepth 65536 in
theorem w_rest : rest_1_c.before args0 about1 = true := by decide +kernel
set_option maxRecDepth 65536 in
theorem w_case : (Jvm.Cond.and given_1 narrow_1).before args0 about1 = true := by decide +kernel
theorem w_applies : (headSpec (Jvm.Cond.code x code maxLocals ret :: tables_1) room_1).applies x e0.platform about1 = true :=
  (Spec.applies_iff w_frames).mpr ⟨w_running, w_runnable, w_alone, w_named, w_hears, w_ripe, w_room, w_tables⟩
theorem atStart : AtStart classFile x code maxLocals ret World_1 tables_1 room_1 Calls_1 rest_1 Pre_1 launch0 p0 e0 about1 theMethod args0 below0 :=
  ⟨lists_1, trivial, launch0.admits_env _ _ _, launch0.least_env, fairChoices_fair.cas, fairChoices_fair.clock, w_frames, w_args, w_heap, w_applies, trivial, w_rest, w_case⟩
end start1
theorem witness_1 : WitnessClaimed_1 := ⟨start1.p0, start1.e0, start1.about1, start1.theMethod, start1.args0, start1.below0, start1.atStart⟩
end Jvm.Pilot.@@N@@
