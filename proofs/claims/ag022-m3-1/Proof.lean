import JvmDerived
import JvmDerived.Pilot.@@N@@Statement
import JvmDerived.Pilot.@@N@@Code
set_option linter.unusedVariables false
set_option linter.unusedSimpArgs false
namespace Jvm.Pilot.@@N@@
open Jvm Jvm.ClassFile Sem Op Lib Jvm.Free Jvm.Stand Jvm.LawKit Jvm.RoadKit Bundle Jvm.Pilot.@@N@@.Jvm.D
def Go (p : Program) (e : Env) (below : List Frame) (G : State → Prop) (T : State) (f : JFrame) : Prop := ∃ t, Steps p.tables e below (T.setTop f) t ∧ G t
theorem Go.step {p : Program} {e : Env} {below : List Frame} {G : State → Prop} {T T' : State} {f f' : JFrame} (k : ∀ t, Steps p.tables e below (T'.setTop f') t → Steps p.tables e below (T.setTop f) t) (h : Go p e below G T' f') : Go p e below G T f := by
  obtain ⟨t, h1, h2⟩ := h
  exact ⟨t, k t h1, h2⟩
def Fin1 (s : State) (below : List Frame) (Q : Option Value → Heap → List Loc → Prop) (k n : Nat) (t : State) : Prop := ∃ o, t.status = .running ∧ Ended t below o ∧ ∃ v L, o = .returned v ∧ Q v t.heap L ∧ FrameEnd s o t L k n
theorem of_go {p : Program} {e : Env} {below : List Frame} {s s₁ : State} {Q : Option Value → Heap → List Loc → Prop} {k n : Nat} {f f' : JFrame} (hf : f' = f) (h : Go p e below (Fin1 s below Q k n) s₁ f) :
    ∃ s₂ o, Steps p.tables e below (s₁.setTop f') s₂ ∧ s₂.status = .running ∧ Ended s₂ below o ∧ ∃ v L, o = .returned v ∧ Q v s₂.heap L ∧ FrameEnd s o s₂ L k n := by
  subst hf
  obtain ⟨t, h1, o, h2, h3, h4⟩ := h
  exact ⟨t, o, h1, h2, h3, h4⟩
section Ends
variable {p : Program} {l : Launch} {e : Env} {R : Room} {s : State} {m : MethodId} {args : Array Value} {below : List Frame} {meth : Method} {c : Code} {T : State} {locs : List Loc} {cells slots : Nat} {Q : Option Value → Heap → List Loc → Prop} {k n : Nat}
theorem goN (X : Stand p l e R s m args below meth c T locs cells slots) (hx : p.tables.exec = Jvm.exec) {pc : Nat} {Ls : Array Slot} {z : Int32} {t : FieldType} {rest : List Value} (hret : meth.sig.returnType = some t) (ht : t = .boolean ∨ t = .byte ∨ t = .char ∨ t = .short) (hlk : meth.locks = false)
    (hd : decode c.code pc = .ok (.ireturn, 1)) (hQ : Q (some (.int (nar t z))) T.heap locs) (hk : cells ≤ k) (hn : slots ≤ n) : Go p e below (Fin1 s below Q k n) T (mkF m pc Ls (.int z :: rest)) := by
  obtain ⟨fs, hr, hrun, hended, hW, hsame⟩ := X.leave (v := some (.int (nar t z))) (fun h => by rw [hret] at h; cases h) hlk
  exact ⟨_, Jvm.RoadKit.retN X hx hret ht hd hr, _, hrun, hended, _, _, rfl, hQ, ⟨_, rfl⟩, hW, hsame.mono hk hn⟩
theorem goO (X : Stand p l e R s m args below meth c T locs cells slots) (hx : p.tables.exec = Jvm.exec) {pc : Nat} {Ls : Array Slot} {w : Value} {t : FieldType} {i : Instr} {rest : List Value} (hret : meth.sig.returnType = some t) (hnw : narrow t w = w)
    (hi : (i = .ireturn ∧ (t = .int ∨ t = .boolean ∨ t = .byte ∨ t = .char ∨ t = .short) ∧ ∃ z, w = .int z) ∨ (i = .lreturn ∧ t = .long ∧ ∃ z, w = .long z) ∨ (i = .dreturn ∧ t = .double ∧ ∃ z, w = .double z) ∨ (i = .freturn ∧ t = .float ∧ ∃ z, w = .float z) ∨ (i = .areturn ∧ t.isReference = true ∧ w.isRef = true)) (hlk : meth.locks = false)
    (hd : decode c.code pc = .ok (i, 1)) (hQ : Q (some w) T.heap locs) (hk : cells ≤ k) (hn : slots ≤ n) : Go p e below (Fin1 s below Q k n) T (mkF m pc Ls (w :: rest)) := by
  obtain ⟨fs, hr, hrun, hended, hW, hsame⟩ := X.leave (v := some w) (fun h => by rw [hret] at h; cases h) hlk
  exact ⟨_, Jvm.RoadKit.retOut X hx hret hnw hi hd hr, _, hrun, hended, _, _, rfl, hQ, ⟨_, rfl⟩, hW, hsame.mono hk hn⟩
theorem goI (X : Stand p l e R s m args below meth c T locs cells slots) (hx : p.tables.exec = Jvm.exec) {pc : Nat} {Ls : Array Slot} {z : Int32} {rest : List Value} (hret : meth.sig.returnType = some .int) (hlk : meth.locks = false)
    (hd : decode c.code pc = .ok (.ireturn, 1)) (hQ : Q (some (.int z)) T.heap locs) (hk : cells ≤ k) (hn : slots ≤ n) : Go p e below (Fin1 s below Q k n) T (mkF m pc Ls (.int z :: rest)) :=
  goO X hx hret rfl (Or.inl ⟨rfl, Or.inl rfl, _, rfl⟩) hlk hd hQ hk hn
theorem goJ (X : Stand p l e R s m args below meth c T locs cells slots) (hx : p.tables.exec = Jvm.exec) {pc : Nat} {Ls : Array Slot} {z : Int64} {rest : List Value} (hret : meth.sig.returnType = some .long) (hlk : meth.locks = false)
    (hd : decode c.code pc = .ok (.lreturn, 1)) (hQ : Q (some (.long z)) T.heap locs) (hk : cells ≤ k) (hn : slots ≤ n) : Go p e below (Fin1 s below Q k n) T (mkF m pc Ls (.long z :: rest)) :=
  goO X hx hret rfl (Or.inr (Or.inl ⟨rfl, rfl, _, rfl⟩)) hlk hd hQ hk hn
theorem goA (X : Stand p l e R s m args below meth c T locs cells slots) (hx : p.tables.exec = Jvm.exec) {pc : Nat} {Ls : Array Slot} {w : Value} {t : FieldType} {rest : List Value} (hret : meth.sig.returnType = some t) (ht : t.isReference = true) (hw : w.isRef = true) (hlk : meth.locks = false)
    (hd : decode c.code pc = .ok (.areturn, 1)) (hQ : Q (some w) T.heap locs) (hk : cells ≤ k) (hn : slots ≤ n) : Go p e below (Fin1 s below Q k n) T (mkF m pc Ls (w :: rest)) :=
  goO X hx hret (by cases t <;> cases w <;> first | rfl | (simp [FieldType.isReference] at ht; done) | (simp [Value.isRef] at hw; done)) (Or.inr (Or.inr (Or.inr (Or.inr ⟨rfl, ht, hw⟩)))) hlk hd hQ hk hn
theorem goV (X : Stand p l e R s m args below meth c T locs cells slots) (hx : p.tables.exec = Jvm.exec) {pc : Nat} {Ls : Array Slot} (hret : meth.sig.returnType = none) (hlk : meth.locks = false)
    (hd : decode c.code pc = .ok (.return_, 1)) (hQ : Q none T.heap locs) (hk : cells ≤ k) (hn : slots ≤ n) : Go p e below (Fin1 s below Q k n) T (mkF m pc Ls []) := by
  obtain ⟨fs, hr, hrun, hended, hW, hsame⟩ := X.leave (v := none) (fun _ => rfl) hlk
  exact ⟨_, X.returnOut hx hret hd hr, _, hrun, hended, _, _, rfl, hQ, ⟨_, rfl⟩, hW, hsame.mono hk hn⟩
def FinW (s : State) (below : List Frame) (Q : Option Value → Heap → List Loc → Prop) (k n : Nat) (t : State) : Prop := ∃ o, t.status = .running ∧ Ended t below o ∧ ∃ v L, o = .returned v ∧ Q v t.heap L ∧ ReturnedEndW s o t L k n
theorem of_goW {p : Program} {e : Env} {below : List Frame} {s s₁ : State} {Q : Option Value → Heap → List Loc → Prop} {k n : Nat} {f f' : JFrame} (hf : f' = f) (h : Go p e below (FinW s below Q k n) s₁ f) :
    ∃ s₂ o, Steps p.tables e below (s₁.setTop f') s₂ ∧ s₂.status = .running ∧ Ended s₂ below o ∧ ∃ v L, o = .returned v ∧ Q v s₂.heap L ∧ ReturnedEndW s o s₂ L k n := by
  subst hf
  obtain ⟨t, h1, o, h2, h3, h4⟩ := h
  exact ⟨t, o, h1, h2, h3, h4⟩
theorem goNW {vm0 : Vm} {n1 : Nat} (hS : s.Since vm0 n1) (X : Stand p l e R (s.setVm vm0) m args below meth c T locs cells slots) (hkk : n1 ≤ T.heap.size) (hx : p.tables.exec = Jvm.exec) {pc : Nat} {Ls : Array Slot} {z : Int32} {t : FieldType} {rest : List Value} (hret : meth.sig.returnType = some t) (ht : t = .boolean ∨ t = .byte ∨ t = .char ∨ t = .short) (hlk : meth.locks = false)
    (hd : decode c.code pc = .ok (.ireturn, 1)) (hQ : Q (some (.int (nar t z))) T.heap locs) (hk : cells ≤ k) (hn : slots ≤ n) : Go p e below (FinW s below Q k n) T (mkF m pc Ls (.int z :: rest)) := by
  obtain ⟨fs, hr, hrun, hended, hW, hsame⟩ := X.leave (v := some (.int (nar t z))) (fun h => by rw [hret] at h; cases h) hlk
  obtain ⟨a1, a2, a3⟩ := hS.ended hW (show n1 ≤ (T.setFrames fs).heap.size from hkk) hsame
  exact ⟨_, Jvm.RoadKit.retN X hx hret ht hd hr, _, hrun, hended, _, _, rfl, hQ, ⟨_, rfl⟩, a1, a2, a3.mono hk hn⟩
theorem goOW {vm0 : Vm} {n1 : Nat} (hS : s.Since vm0 n1) (X : Stand p l e R (s.setVm vm0) m args below meth c T locs cells slots) (hkk : n1 ≤ T.heap.size) (hx : p.tables.exec = Jvm.exec) {pc : Nat} {Ls : Array Slot} {w : Value} {t : FieldType} {i : Instr} {rest : List Value} (hret : meth.sig.returnType = some t) (hnw : narrow t w = w)
    (hi : (i = .ireturn ∧ (t = .int ∨ t = .boolean ∨ t = .byte ∨ t = .char ∨ t = .short) ∧ ∃ z, w = .int z) ∨ (i = .lreturn ∧ t = .long ∧ ∃ z, w = .long z) ∨ (i = .dreturn ∧ t = .double ∧ ∃ z, w = .double z) ∨ (i = .freturn ∧ t = .float ∧ ∃ z, w = .float z) ∨ (i = .areturn ∧ t.isReference = true ∧ w.isRef = true)) (hlk : meth.locks = false)
    (hd : decode c.code pc = .ok (i, 1)) (hQ : Q (some w) T.heap locs) (hk : cells ≤ k) (hn : slots ≤ n) : Go p e below (FinW s below Q k n) T (mkF m pc Ls (w :: rest)) := by
  obtain ⟨fs, hr, hrun, hended, hW, hsame⟩ := X.leave (v := some w) (fun h => by rw [hret] at h; cases h) hlk
  obtain ⟨a1, a2, a3⟩ := hS.ended hW (show n1 ≤ (T.setFrames fs).heap.size from hkk) hsame
  exact ⟨_, Jvm.RoadKit.retOut X hx hret hnw hi hd hr, _, hrun, hended, _, _, rfl, hQ, ⟨_, rfl⟩, a1, a2, a3.mono hk hn⟩
theorem goIW {vm0 : Vm} {n1 : Nat} (hS : s.Since vm0 n1) (X : Stand p l e R (s.setVm vm0) m args below meth c T locs cells slots) (hkk : n1 ≤ T.heap.size) (hx : p.tables.exec = Jvm.exec) {pc : Nat} {Ls : Array Slot} {z : Int32} {rest : List Value} (hret : meth.sig.returnType = some .int) (hlk : meth.locks = false)
    (hd : decode c.code pc = .ok (.ireturn, 1)) (hQ : Q (some (.int z)) T.heap locs) (hk : cells ≤ k) (hn : slots ≤ n) : Go p e below (FinW s below Q k n) T (mkF m pc Ls (.int z :: rest)) :=
  goOW hS X hkk hx hret rfl (Or.inl ⟨rfl, Or.inl rfl, _, rfl⟩) hlk hd hQ hk hn
theorem goAW {vm0 : Vm} {n1 : Nat} (hS : s.Since vm0 n1) (X : Stand p l e R (s.setVm vm0) m args below meth c T locs cells slots) (hkk : n1 ≤ T.heap.size) (hx : p.tables.exec = Jvm.exec) {pc : Nat} {Ls : Array Slot} {w : Value} {t : FieldType} {rest : List Value} (hret : meth.sig.returnType = some t) (ht : t.isReference = true) (hw : w.isRef = true) (hlk : meth.locks = false)
    (hd : decode c.code pc = .ok (.areturn, 1)) (hQ : Q (some w) T.heap locs) (hk : cells ≤ k) (hn : slots ≤ n) : Go p e below (FinW s below Q k n) T (mkF m pc Ls (w :: rest)) :=
  goOW hS X hkk hx hret (by cases t <;> cases w <;> first | rfl | (simp [FieldType.isReference] at ht; done) | (simp [Value.isRef] at hw; done)) (Or.inr (Or.inr (Or.inr (Or.inr ⟨rfl, ht, hw⟩)))) hlk hd hQ hk hn
theorem goVW {vm0 : Vm} {n1 : Nat} (hS : s.Since vm0 n1) (X : Stand p l e R (s.setVm vm0) m args below meth c T locs cells slots) (hkk : n1 ≤ T.heap.size) (hx : p.tables.exec = Jvm.exec) {pc : Nat} {Ls : Array Slot} (hret : meth.sig.returnType = none) (hlk : meth.locks = false)
    (hd : decode c.code pc = .ok (.return_, 1)) (hQ : Q none T.heap locs) (hk : cells ≤ k) (hn : slots ≤ n) : Go p e below (FinW s below Q k n) T (mkF m pc Ls []) := by
  obtain ⟨fs, hr, hrun, hended, hW, hsame⟩ := X.leave (v := none) (fun _ => rfl) hlk
  obtain ⟨a1, a2, a3⟩ := hS.ended hW (show n1 ≤ (T.setFrames fs).heap.size from hkk) hsame
  exact ⟨_, X.returnOut hx hret hd hr, _, hrun, hended, _, _, rfl, hQ, ⟨_, rfl⟩, a1, a2, a3.mono hk hn⟩
theorem narB {z : Int32} (h : z = 0 ∨ z = 1) : nar .boolean z = z := by rcases h with rfl | rfl <;> rfl
end Ends
theorem own_nb (x : Int32) : nar .byte (x.toInt8.toInt32) = x.toInt8.toInt32 := by
  apply Int32.toInt_inj.mp
  have h1 := c_i2b x
  have h2 := c_i2b (x.toInt8.toInt32)
  show (x.toInt8.toInt32.toInt8.toInt32).toInt = _
  omega
theorem own_cnt (x : Int32) : 1 ≤ ((x &&& (2147483647 : Int32)) % (15 : Int32) + (1 : Int32)).toInt ∧ ((x &&& (2147483647 : Int32)) % (15 : Int32) + (1 : Int32)).toInt ≤ 15 := by
  have h := c_and x 2147483647 (by decide)
  have h1 := (c_irem (x &&& 2147483647) 15 15 rfl).1 h.1
  have h2 := c_iadd ((x &&& 2147483647) % 15) 1
  have h3 := rng32 ((x &&& 2147483647) % 15 + 1)
  have h4 : (1 : Int32).toInt = 1 := rfl
  omega
theorem own_len {c : Int32} (h1 : 1 ≤ c.toInt) (h2 : c.toInt ≤ 15) : ((8 : Int32) + ((4 : Int32) * c)).toInt = 8 + 4 * c.toInt := by
  have a1 := c_imul 4 c
  have a2 := c_iadd 8 (4 * c)
  have a3 := rng32 (4 * c)
  have a4 := rng32 (8 + 4 * c)
  have a5 : (4 : Int32).toInt = 4 := rfl
  have a6 : (8 : Int32).toInt = 8 := rfl
  rw [a5] at a1
  omega
theorem own_sub {x : Int32} (k : Int32) (h1 : 0 ≤ k.toInt) (h2 : k.toInt ≤ x.toInt) : (x - k).toInt = x.toInt - k.toInt := by
  have a1 := c_isub x k
  have a2 := rng32 (x - k)
  have a3 := rng32 x
  omega
theorem own_255 {c : Int32} (h1 : 1 ≤ c.toInt) (h2 : c.toInt ≤ 15) : (c.toInt8.toInt32 &&& (255 : Int32)) = c := by
  apply Int32.toInt_inj.mp
  have a1 := c_i2b c
  have a2 := c_mask (c.toInt8.toInt32) 255 8 (by decide) (by decide)
  omega
theorem own_sA {Z : State} {a0 : Array Value} (hw : ∀ d ∈ tables_1, d.before a0 Z = true) : ∀ a ∈ Bundle.stringAtoms, a.before a0 Z = true := by
  intro a ha
  simp only [Bundle.stringAtoms, List.mem_cons, List.not_mem_nil, or_false] at ha
  rcases ha with rfl | rfl | rfl | rfl | rfl | rfl | rfl
  all_goals first | exact hw _ (List.mem_of_getElem? (i := 1) rfl) | exact hw _ (List.mem_of_getElem? (i := 7) rfl) | exact hw _ (List.mem_of_getElem? (i := 8) rfl) | exact hw _ (List.mem_of_getElem? (i := 9) rfl) | exact hw _ (List.mem_of_getElem? (i := 10) rfl) | exact hw _ (List.mem_of_getElem? (i := 11) rfl) | exact hw _ (List.mem_of_getElem? (i := 12) rfl)
theorem d2_0 : decode jdk_31_method_11_code 0 = .ok (.aload_n 0, 1) := by decide +kernel
theorem d2_1 : decode jdk_31_method_11_code 1 = .ok (.ifnonnull 12, 3) := by decide +kernel
theorem d2_13 : decode jdk_31_method_11_code 13 = .ok (.aload_n 0, 1) := by decide +kernel
theorem d2_14 : decode jdk_31_method_11_code 14 = .ok (.areturn, 1) := by decide +kernel
theorem pn_2 : plainName "java/util/Objects" = true := by first | (simp [plainName, overriddenIn]; done) | decide +kernel
theorem ef_rm2 (m : MethodId) (a1 : Addr) (a2 : Addr) : entryFrame m #[(.ref a1), (.ref a2)] 2 = mkF m 0 #[.val (.ref a1), .val (.ref a2)] [] := by first | (simp [entryFrame, mkF, argsToLocals, Value.category]; done) | rfl
def Q_rm2 (Z : State) (a1 : Addr) (a2 : Addr) (h0 : Heap) (n0 : Nat) (rv : Option Value) (hq : Heap) (Lq : List Loc) : Prop := rv = some (.ref a1) ∧ Fr n0 Lq ∧ hq = h0
set_option maxRecDepth 65536 in
set_option maxHeartbeats 40000000 in
theorem rm2 (l : Launch) (Z : State) (a0 : Array Value) (hw : ∀ d ∈ tables_1, d.before a0 Z = true) (ws : List Jvm.Cond) (a1 : Addr) (a2 : Addr) (h0 : Heap) (n0 : Nat) (Z0 : n0 ≤ h0.size) :
    MetFree l (⟨"java/util/Objects", "requireNonNull", "(Ljava/lang/Object;Ljava/lang/String;)Ljava/lang/Object;"⟩ : MethodName) (head1 (Jvm.Cond.code (⟨"java/util/Objects", "requireNonNull", "(Ljava/lang/Object;Ljava/lang/String;)Ljava/lang/Object;"⟩ : MethodName) jdk_31_method_11_code 2 (some (.object "java/lang/Object")) :: ws) ({ frames := 0, cells := 0, slots := 0, locals := 0 } : Room)) (fun a U => a = #[(.ref a1), (.ref a2)] ∧ Z.Warmed39 U.vm ∧ U.heap = h0) (fun _ _ _ _ _ => True) (fun _ U o U' => ∃ rv Lq, o = .returned rv ∧ Q_rm2 Z a1 a2 h0 n0 rv U'.heap Lq ∧ FrameEnd U o U' Lq ({ frames := 0, cells := 0, slots := 0, locals := 0 } : Room).cells ({ frames := 0, cells := 0, slots := 0, locals := 0 } : Room).slots) := by
  refine MetFree.of_bodySF (plainFor_of_name pn_2) hisR ?_
  intro p e s m args below meth c s₁ Bd hml0 hP hK
  obtain ⟨rfl, hZ, hh⟩ := hP
  have hx := Bd.exec
  have hby := Bd.bytes
  have hml : c.maxLocals = 2 := hml0
  have hown : s.vm.findClass "java/util/Objects" = some m.cls := findClass_of_methodNamed Bd.named
  have hnm := (name_of_methodNamed Bd.named Bd.method).1
  have X0 : Stand p l e ({ frames := 0, cells := 0, slots := 0, locals := 0 } : Room) s m #[(.ref a1), (.ref a2)] below meth c s₁ [] 0 0 := Stand.of_body Bd
  have e0 : s₁.heap = h0 := by rw [← hh, Bd.state]; rfl
  have N0 := Fr.nil n0
  refine of_go (ef_rm2 m a1 a2) ?_
  refine Go.step (T' := s₁) (f' := (mkF m 1 #[.val (.ref a1), .val (.ref a2)] [(.ref a1)])) (fun _ k => XS.aloadN X0.here hx rfl (hb hby d2_0) rfl rfl k) ?_
  refine Go.step (T' := s₁) (f' := (mkF m 13 #[.val (.ref a1), .val (.ref a2)] [])) (fun _ k => XS.ifnonnullYes X0.here hx rfl (pc0 := 1) (pc' := 13) rfl (hb hby d2_1) rfl (by decide) (by decide) k) ?_
  refine Go.step (T' := s₁) (f' := (mkF m 14 #[.val (.ref a1), .val (.ref a2)] [(.ref a1)])) (fun _ k => XS.aloadN X0.here hx rfl (hb hby d2_13) rfl rfl k) ?_
  refine goA X0 hx Bd.returns rfl rfl Bd.notSynchronized (hb hby d2_14) ?_ (by decide) (by decide)
  show Q_rm2 Z a1 a2 h0 n0 _ s₁.heap _
  rw [e0]
  exact ⟨rfl, N0, rfl⟩
theorem d4_0 : decode prog_4_method_14_code 0 = .ok (.bipush 8, 2) := by decide +kernel
theorem d4_2 : decode prog_4_method_14_code 2 = .ok (.iconst 4, 1) := by decide +kernel
theorem d4_3 : decode prog_4_method_14_code 3 = .ok (.iload_n 0, 1) := by decide +kernel
theorem d4_4 : decode prog_4_method_14_code 4 = .ok (.imul, 1) := by decide +kernel
theorem d4_5 : decode prog_4_method_14_code 5 = .ok (.iadd, 1) := by decide +kernel
theorem d4_6 : decode prog_4_method_14_code 6 = .ok (.ireturn, 1) := by decide +kernel
theorem pn_4 : plainName "com/example/strict_sid/strictsid/packet/PacketForm" = true := by first | (simp [plainName, overriddenIn]; done) | decide +kernel
theorem ef_rm4 (m : MethodId) (p1 : Int32) : entryFrame m #[(.int p1)] 1 = mkF m 0 #[.val (.int p1)] [] := by first | (simp [entryFrame, mkF, argsToLocals, Value.category]; done) | rfl
def Q_rm4 (Z : State) (p1 : Int32) (h0 : Heap) (n0 : Nat) (rv : Option Value) (hq : Heap) (Lq : List Loc) : Prop := rv = some (.int ((8 : Int32) + ((4 : Int32) * p1))) ∧ Fr n0 Lq ∧ hq = h0
set_option maxRecDepth 65536 in
set_option maxHeartbeats 40000000 in
theorem rm4 (l : Launch) (Z : State) (a0 : Array Value) (hw : ∀ d ∈ tables_1, d.before a0 Z = true) (ws : List Jvm.Cond) (p1 : Int32) (h0 : Heap) (n0 : Nat) (Z0 : n0 ≤ h0.size) :
    MetFree l (⟨"com/example/strict_sid/strictsid/packet/PacketForm", "subAuthorityOffset", "(I)I"⟩ : MethodName) (head1 (Jvm.Cond.code (⟨"com/example/strict_sid/strictsid/packet/PacketForm", "subAuthorityOffset", "(I)I"⟩ : MethodName) prog_4_method_14_code 1 (some .int) :: ws) ({ frames := 0, cells := 0, slots := 0, locals := 0 } : Room)) (fun a U => a = #[(.int p1)] ∧ Z.Warmed39 U.vm ∧ U.heap = h0) (fun _ _ _ _ _ => True) (fun _ U o U' => ∃ rv Lq, o = .returned rv ∧ Q_rm4 Z p1 h0 n0 rv U'.heap Lq ∧ FrameEnd U o U' Lq ({ frames := 0, cells := 0, slots := 0, locals := 0 } : Room).cells ({ frames := 0, cells := 0, slots := 0, locals := 0 } : Room).slots) := by
  refine MetFree.of_bodySF (plainFor_of_name pn_4) hisR ?_
  intro p e s m args below meth c s₁ Bd hml0 hP hK
  obtain ⟨rfl, hZ, hh⟩ := hP
  have hx := Bd.exec
  have hby := Bd.bytes
  have hml : c.maxLocals = 1 := hml0
  have hown : s.vm.findClass "com/example/strict_sid/strictsid/packet/PacketForm" = some m.cls := findClass_of_methodNamed Bd.named
  have hnm := (name_of_methodNamed Bd.named Bd.method).1
  have X0 : Stand p l e ({ frames := 0, cells := 0, slots := 0, locals := 0 } : Room) s m #[(.int p1)] below meth c s₁ [] 0 0 := Stand.of_body Bd
  have e0 : s₁.heap = h0 := by rw [← hh, Bd.state]; rfl
  have N0 := Fr.nil n0
  refine of_go (ef_rm4 m p1) ?_
  refine Go.step (T' := s₁) (f' := (mkF m 2 #[.val (.int p1)] [(.int (8 : Int32))])) (fun _ k => XS.bipush X0.here hx rfl (hb hby d4_0) k) ?_
  refine Go.step (T' := s₁) (f' := (mkF m 3 #[.val (.int p1)] [(.int (4 : Int32)), (.int (8 : Int32))])) (fun _ k => XS.iconst X0.here hx rfl (hb hby d4_2) k) ?_
  refine Go.step (T' := s₁) (f' := (mkF m 4 #[.val (.int p1)] [(.int p1), (.int (4 : Int32)), (.int (8 : Int32))])) (fun _ k => XS.iloadN X0.here hx rfl (hb hby d4_3) rfl k) ?_
  refine Go.step (T' := s₁) (f' := (mkF m 5 #[.val (.int p1)] [(.int ((4 : Int32) * p1)), (.int (8 : Int32))])) (fun _ k => XS.imul X0.here hx rfl (hb hby d4_4) rfl k) ?_
  refine Go.step (T' := s₁) (f' := (mkF m 6 #[.val (.int p1)] [(.int ((8 : Int32) + ((4 : Int32) * p1)))])) (fun _ k => XS.iadd X0.here hx rfl (hb hby d4_5) rfl k) ?_
  refine goI X0 hx Bd.returns Bd.notSynchronized (hb hby d4_6) ?_ (by decide) (by decide)
  show Q_rm4 Z p1 h0 n0 _ s₁.heap _
  rw [e0]
  exact ⟨rfl, N0, rfl⟩
theorem d3_0 : decode prog_4_method_13_code 0 = .ok (.iload_n 0, 1) := by decide +kernel
theorem d3_1 : decode prog_4_method_13_code 1 = .ok (.invokestatic 72, 3) := by decide +kernel
theorem pd_0 : parseMethodDescriptor "(I)I" = some ⟨[.int], some .int⟩ := by decide +kernel
theorem d3_4 : decode prog_4_method_13_code 4 = .ok (.ireturn, 1) := by decide +kernel
theorem ef_rm3 (m : MethodId) (p1 : Int32) : entryFrame m #[(.int p1)] 1 = mkF m 0 #[.val (.int p1)] [] := by first | (simp [entryFrame, mkF, argsToLocals, Value.category]; done) | rfl
def Q_rm3 (Z : State) (p1 : Int32) (h0 : Heap) (n0 : Nat) (rv : Option Value) (hq : Heap) (Lq : List Loc) : Prop := rv = some (.int ((8 : Int32) + ((4 : Int32) * p1))) ∧ Fr n0 Lq ∧ hq = h0
set_option maxRecDepth 65536 in
set_option maxHeartbeats 40000000 in
theorem rm3 (l : Launch) (Z : State) (a0 : Array Value) (hw : ∀ d ∈ tables_1, d.before a0 Z = true) (ws : List Jvm.Cond) (p1 : Int32) (h0 : Heap) (n0 : Nat) (Z0 : n0 ≤ h0.size) :
    MetFree l (⟨"com/example/strict_sid/strictsid/packet/PacketForm", "length", "(I)I"⟩ : MethodName) (head1 (Jvm.Cond.code (⟨"com/example/strict_sid/strictsid/packet/PacketForm", "length", "(I)I"⟩ : MethodName) prog_4_method_13_code 1 (some .int) :: ws) ({ frames := 1, cells := 0, slots := 0, locals := 12 } : Room)) (fun a U => a = #[(.int p1)] ∧ Z.Warmed39 U.vm ∧ U.heap = h0) (fun _ _ _ _ _ => True) (fun _ U o U' => ∃ rv Lq, o = .returned rv ∧ Q_rm3 Z p1 h0 n0 rv U'.heap Lq ∧ FrameEnd U o U' Lq ({ frames := 1, cells := 0, slots := 0, locals := 12 } : Room).cells ({ frames := 1, cells := 0, slots := 0, locals := 12 } : Room).slots) := by
  refine MetFree.of_bodySF (plainFor_of_name pn_4) hisR ?_
  intro p e s m args below meth c s₁ Bd hml0 hP hK
  obtain ⟨rfl, hZ, hh⟩ := hP
  have hx := Bd.exec
  have hby := Bd.bytes
  have hml : c.maxLocals = 1 := hml0
  have hown : s.vm.findClass "com/example/strict_sid/strictsid/packet/PacketForm" = some m.cls := findClass_of_methodNamed Bd.named
  have hnm := (name_of_methodNamed Bd.named Bd.method).1
  have X0 : Stand p l e ({ frames := 1, cells := 0, slots := 0, locals := 12 } : Room) s m #[(.int p1)] below meth c s₁ [] 0 0 := Stand.of_body Bd
  have e0 : s₁.heap = h0 := by rw [← hh, Bd.state]; rfl
  have N0 := Fr.nil n0
  refine of_go (ef_rm3 m p1) ?_
  refine Go.step (T' := s₁) (f' := (mkF m 1 #[.val (.int p1)] [(.int p1)])) (fun _ k => XS.iloadN X0.here hx rfl (hb hby d3_0) rfl k) ?_
  obtain ⟨_, _, ⟨T1, L1, k1, n1⟩, -, X1, ⟨Lc1, hQ1, l1, y1, z1⟩, st1⟩ := Jvm.LawKit.callS X0 hx (y := (⟨"com/example/strict_sid/strictsid/packet/PacketForm", "subAuthorityOffset", "(I)I"⟩ : MethodName)) hown (mvT hZ (hw _ (List.mem_of_getElem? (i := 20) rfl))) (mvT hZ (hw _ (List.mem_of_getElem? (i := 21) rfl))) (mvT hZ (hw _ (List.mem_of_getElem? (i := 4) rfl))) (mvT hZ (hw _ (List.mem_of_getElem? (i := 22) rfl))) (by decide) (backOf (W := 0) (rm4 l Z a0 hw [] p1 h0 n0 Z0 ) hZ (hw _ (List.mem_of_getElem? (i := 22) rfl)) (hw _ (List.mem_of_getElem? (i := 4) rfl)) (by decide) (by decide)) (g := (mkF m 1 #[.val (.int p1)] [(.int p1)])) rfl (by rw [hml]; rfl) (argsL := [(.int p1)]) (rest := []) (lenOf pd_0 rfl) rfl (by show 2 * 0 + _ ≤ _; exact Nat.le_of_eq rfl) (hb hby d3_1) (fun _ _ => ⟨rfl, e0, (by decide : 0 + 0 ≤ _), (by decide : 0 + 0 ≤ _)⟩)
  dsimp only [Pt.U, Pt.locs, Pt.cells, Pt.slots] at X1 l1 y1 z1 st1 hQ1
  subst l1 y1 z1
  obtain ⟨rfl, Nq1, eh1⟩ := hQ1
  have N1 := Fr.app N0 Nq1
  refine Go.step (T' := T1) (f' := (mkF m 4 #[.val (.int p1)] [(.int ((8 : Int32) + ((4 : Int32) * p1)))])) st1 ?_
  refine goI X1 hx Bd.returns Bd.notSynchronized (hb hby d3_4) ?_ (by decide) (by decide)
  show Q_rm3 Z p1 h0 n0 _ T1.heap _
  rw [eh1]
  exact ⟨rfl, N1, rfl⟩
theorem d1_0 : decode prog_4_method_2_code 0 = .ok (.aload_n 0, 1) := by decide +kernel
theorem d1_1 : decode prog_4_method_2_code 1 = .ok (.ldc 7, 2) := by decide +kernel
theorem d1_3 : decode prog_4_method_2_code 3 = .ok (.invokestatic 9, 3) := by decide +kernel
theorem pd_1 : parseMethodDescriptor "(Ljava/lang/Object;Ljava/lang/String;)Ljava/lang/Object;" = some ⟨[(.object "java/lang/Object"), (.object "java/lang/String")], some (.object "java/lang/Object")⟩ := by decide +kernel
theorem d1_6 : decode prog_4_method_2_code 6 = .ok (.pop, 1) := by decide +kernel
theorem d1_7 : decode prog_4_method_2_code 7 = .ok (.aload_n 0, 1) := by decide +kernel
theorem d1_8 : decode prog_4_method_2_code 8 = .ok (.arraylength, 1) := by decide +kernel
theorem d1_9 : decode prog_4_method_2_code 9 = .ok (.ifCond .ne 10, 3) := by decide +kernel
theorem d1_19 : decode prog_4_method_2_code 19 = .ok (.aload_n 0, 1) := by decide +kernel
theorem d1_20 : decode prog_4_method_2_code 20 = .ok (.iconst 0, 1) := by decide +kernel
theorem d1_21 : decode prog_4_method_2_code 21 = .ok (.baload, 1) := by decide +kernel
theorem d1_22 : decode prog_4_method_2_code 22 = .ok (.iconst 1, 1) := by decide +kernel
theorem d1_23 : decode prog_4_method_2_code 23 = .ok (.if_icmp .eq 20, 3) := by decide +kernel
theorem d1_43 : decode prog_4_method_2_code 43 = .ok (.aload_n 0, 1) := by decide +kernel
theorem d1_44 : decode prog_4_method_2_code 44 = .ok (.arraylength, 1) := by decide +kernel
theorem d1_45 : decode prog_4_method_2_code 45 = .ok (.iconst 1, 1) := by decide +kernel
theorem d1_46 : decode prog_4_method_2_code 46 = .ok (.if_icmp .ne 10, 3) := by decide +kernel
theorem d1_56 : decode prog_4_method_2_code 56 = .ok (.aload_n 0, 1) := by decide +kernel
theorem d1_57 : decode prog_4_method_2_code 57 = .ok (.iconst 1, 1) := by decide +kernel
theorem d1_58 : decode prog_4_method_2_code 58 = .ok (.baload, 1) := by decide +kernel
theorem d1_59 : decode prog_4_method_2_code 59 = .ok (.sipush 255, 3) := by decide +kernel
theorem d1_62 : decode prog_4_method_2_code 62 = .ok (.iand, 1) := by decide +kernel
theorem d1_63 : decode prog_4_method_2_code 63 = .ok (.istore_n 1, 1) := by decide +kernel
theorem d1_64 : decode prog_4_method_2_code 64 = .ok (.iload_n 1, 1) := by decide +kernel
theorem d1_65 : decode prog_4_method_2_code 65 = .ok (.iconst 1, 1) := by decide +kernel
theorem d1_66 : decode prog_4_method_2_code 66 = .ok (.if_icmp .lt 9, 3) := by decide +kernel
theorem d1_69 : decode prog_4_method_2_code 69 = .ok (.iload_n 1, 1) := by decide +kernel
theorem d1_70 : decode prog_4_method_2_code 70 = .ok (.bipush 15, 2) := by decide +kernel
theorem d1_72 : decode prog_4_method_2_code 72 = .ok (.if_icmp .le 14, 3) := by decide +kernel
theorem d1_86 : decode prog_4_method_2_code 86 = .ok (.iload_n 1, 1) := by decide +kernel
theorem d1_87 : decode prog_4_method_2_code 87 = .ok (.invokestatic 30, 3) := by decide +kernel
theorem d1_90 : decode prog_4_method_2_code 90 = .ok (.istore_n 2, 1) := by decide +kernel
theorem d1_91 : decode prog_4_method_2_code 91 = .ok (.aload_n 0, 1) := by decide +kernel
theorem d1_92 : decode prog_4_method_2_code 92 = .ok (.arraylength, 1) := by decide +kernel
theorem d1_93 : decode prog_4_method_2_code 93 = .ok (.iload_n 2, 1) := by decide +kernel
theorem d1_94 : decode prog_4_method_2_code 94 = .ok (.if_icmp .ge 18, 3) := by decide +kernel
theorem d1_112 : decode prog_4_method_2_code 112 = .ok (.aload_n 0, 1) := by decide +kernel
theorem d1_113 : decode prog_4_method_2_code 113 = .ok (.arraylength, 1) := by decide +kernel
theorem d1_114 : decode prog_4_method_2_code 114 = .ok (.iload_n 2, 1) := by decide +kernel
theorem d1_115 : decode prog_4_method_2_code 115 = .ok (.if_icmp .le 19, 3) := by decide +kernel
theorem d1_134 : decode prog_4_method_2_code 134 = .ok (.iload_n 1, 1) := by decide +kernel
theorem d1_135 : decode prog_4_method_2_code 135 = .ok (.ireturn, 1) := by decide +kernel
theorem ef_rm1 (m : MethodId) (a1 : Addr) : entryFrame m #[(.ref a1)] 3 = mkF m 0 #[.val (.ref a1), .unset, .unset] [] := by first | (simp [entryFrame, mkF, argsToLocals, Value.category]; done) | rfl
def Q_rm1 (Z : State) (a1 : Addr) (ka : ClassId) (len : Int32) (hs : List (Int32 × Value)) (c1 : Int32) (cnt : Int32) (h0 : Heap) (n0 : Nat) (rv : Option Value) (hq : Heap) (Lq : List Loc) : Prop := rv = some (.int cnt) ∧ Fr n0 Lq ∧ Keep h0 hq []
set_option maxRecDepth 65536 in
set_option maxHeartbeats 40000000 in
theorem rm1 (l : Launch) (Z : State) (a0 : Array Value) (hw : ∀ d ∈ tables_1, d.before a0 Z = true) (ws : List Jvm.Cond) (a1 : Addr) (ka : ClassId) (len : Int32) (hs : List (Int32 × Value)) (c1 : Int32) (cnt : Int32) (h0 : Heap) (n0 : Nat) (Z0 : n0 ≤ h0.size) (V_a1 : Arh Z h0 a1 ka .byte len hs [] (.int (0 : Int32))) (hca : 1 ≤ cnt.toInt) (hcb : cnt.toInt ≤ 15) (hc1 : c1 &&& (255 : Int32) = cnt) (hle : len = (8 : Int32) + (4 : Int32) * cnt) (hl : len.toInt = 8 + 4 * cnt.toInt) (v0 : getH hs [] (.int (0 : Int32)) (0 : Int32).toNatClampNeg = (.int (1 : Int32))) (v1 : getH hs [] (.int (0 : Int32)) (1 : Int32).toNatClampNeg = (.int c1)) :
    MetFree l (⟨"com/example/strict_sid/strictsid/packet/PacketForm", "check", "([B)I"⟩ : MethodName) (head1 (Jvm.Cond.code (⟨"com/example/strict_sid/strictsid/packet/PacketForm", "check", "([B)I"⟩ : MethodName) prog_4_method_2_code 3 (some .int) :: ws) ({ frames := 2, cells := 2, slots := 24, locals := 24 } : Room)) (fun a U => a = #[(.ref a1)] ∧ Z.Warmed39 U.vm ∧ U.heap = h0) (fun _ _ _ _ _ => True) (fun _ U o U' => ∃ rv Lq, o = .returned rv ∧ Q_rm1 Z a1 ka len hs c1 cnt h0 n0 rv U'.heap Lq ∧ ReturnedEndW U o U' Lq ({ frames := 2, cells := 2, slots := 24, locals := 24 } : Room).cells ({ frames := 2, cells := 2, slots := 24, locals := 24 } : Room).slots) := by
  refine MetFree.of_bodySF (plainFor_of_name pn_4) hisR ?_
  intro p e s m args below meth c s₁ Bd hml0 hP hK
  obtain ⟨rfl, hZ, hh⟩ := hP
  have hx := Bd.exec
  have hby := Bd.bytes
  have hml : c.maxLocals = 3 := hml0
  have hown : s.vm.findClass "com/example/strict_sid/strictsid/packet/PacketForm" = some m.cls := findClass_of_methodNamed Bd.named
  have hnm := (name_of_methodNamed Bd.named Bd.method).1
  have X0 : Stand p l e ({ frames := 2, cells := 2, slots := 24, locals := 24 } : Room) s m #[(.ref a1)] below meth c s₁ [] 0 0 := Stand.of_body Bd
  have e0 : s₁.heap = h0 := by rw [← hh, Bd.state]; rfl
  have N0 := Fr.nil n0
  have X0 : Stand p l e ({ frames := 2, cells := 2, slots := 24, locals := 24 } : Room) (s.setVm s.vm) m #[(.ref a1)] below meth c s₁ [] 0 0 := X0
  have hS : s.Since s.vm h0.size := (State.WarmedH.refl s).since _
  have hk := Nat.le_refl h0.size
  have hZ : Z.Warmed39 (s.setVm s.vm).vm := hZ
  have hown : (s.setVm s.vm).vm.findClass "com/example/strict_sid/strictsid/packet/PacketForm" = some m.cls := hown
  refine of_goW (ef_rm1 m a1) ?_
  refine Go.step (T' := s₁) (f' := (mkF m 1 #[.val (.ref a1), .unset, .unset] [(.ref a1)])) (fun _ k => XS.aloadN X0.here hx rfl (hb hby d1_0) rfl rfl k) ?_
  obtain ⟨b1, T1, h1, k1, X1, e1, E1, hS, hk, hZ, hown, st1⟩ := ldcS X0 hx hZ hown (hw _ (List.mem_of_getElem? (i := 6) rfl)) (own_sA hw) e0 hS hk (g := (mkF m 1 #[.val (.ref a1), .unset, .unset] [(.ref a1)])) rfl (hb hby d1_1) (n := 20) (by decide) (by decide) (by decide) (by decide)
  have Z2 : n0 ≤ h1.size := Nat.le_trans Z0 E1.1
  have K2 : Keep h0 h1 [] := (Keep.refl h0 []).ext E1
  refine Go.step (T' := T1) (f' := (mkF m 3 #[.val (.ref a1), .unset, .unset] [(.ref b1), (.ref a1)])) st1 ?_
  obtain ⟨_, _, ⟨T3, L3, k3, n3⟩, -, X3, ⟨Lc3, hQ3, l3, y3, z3⟩, st3⟩ := Jvm.LawKit.callS X1 hx (y := (⟨"java/util/Objects", "requireNonNull", "(Ljava/lang/Object;Ljava/lang/String;)Ljava/lang/Object;"⟩ : MethodName)) hown (mvT hZ (hw _ (List.mem_of_getElem? (i := 13) rfl))) (mvT hZ (hw _ (List.mem_of_getElem? (i := 14) rfl))) (mvT hZ (hw _ (List.mem_of_getElem? (i := 15) rfl))) (mvT hZ (hw _ (List.mem_of_getElem? (i := 16) rfl))) (by decide) (backOf (W := 0) (rm2 l Z a0 hw [] a1 b1 h1 n0 Z2 ) hZ (hw _ (List.mem_of_getElem? (i := 16) rfl)) (hw _ (List.mem_of_getElem? (i := 15) rfl)) (by decide) (by decide)) (g := (mkF m 3 #[.val (.ref a1), .unset, .unset] [(.ref b1), (.ref a1)])) rfl (by rw [hml]; rfl) (argsL := [(.ref a1), (.ref b1)]) (rest := []) (lenOf pd_1 rfl) rfl (by show 2 * 0 + _ ≤ _; exact Nat.le_of_eq rfl) (hb hby d1_3) (fun _ _ => ⟨rfl, e1, (by decide : 2 + 0 ≤ _), (by decide : 24 + 0 ≤ _)⟩)
  dsimp only [Pt.U, Pt.locs, Pt.cells, Pt.slots] at X3 l3 y3 z3 st3 hQ3
  subst l3 y3 z3
  obtain ⟨rfl, Nq3, eh3⟩ := hQ3
  have N3 := Fr.app N0 Nq3
  refine Go.step (T' := T3) (f' := (mkF m 6 #[.val (.ref a1), .unset, .unset] [(.ref a1)])) st3 ?_
  refine Go.step (T' := T3) (f' := (mkF m 7 #[.val (.ref a1), .unset, .unset] [])) (fun _ k => XS.pop X3.here hx rfl (hb hby d1_6) rfl rfl k) ?_
  refine Go.step (T' := T3) (f' := (mkF m 8 #[.val (.ref a1), .unset, .unset] [(.ref a1)])) (fun _ k => XS.aloadN X3.here hx rfl (hb hby d1_7) rfl rfl k) ?_
  have q4 : Arh Z h1 a1 ka .byte len hs [] (.int (0 : Int32)) := (V_a1.ext E1)
  obtain ⟨cl5, Ar5, qc5, Sz5, Nn5, Hs5, Gf5⟩ := id q4
  have hl5 := X3.arraylength hx (by rw [eh3]; exact Ar5.1) (State.isArrayOf_alike hZ.alike Ar5.2.1) (g := (mkF m 8 #[.val (.ref a1), .unset, .unset] [(.ref a1)])) rfl rfl (hb hby d1_8)
  rw [len_of Sz5 Nn5] at hl5
  refine Go.step (T' := T3) (f' := (mkF m 9 #[.val (.ref a1), .unset, .unset] [(.int len)])) (fun _ k => hl5 _ k) ?_
  refine Go.step (T' := T3) (f' := (mkF m 19 #[.val (.ref a1), .unset, .unset] [])) (fun _ k => XS.ifYes X3.here hx rfl (pc0 := 9) (pc' := 19) rfl (hb hby d1_9) rfl ((if0 _ _).trans (feq (by simp only [← Int32.toInt_inj, Int32.reduceToInt]; omega)).2) (by decide) (by decide) k) ?_
  refine Go.step (T' := T3) (f' := (mkF m 20 #[.val (.ref a1), .unset, .unset] [(.ref a1)])) (fun _ k => XS.aloadN X3.here hx rfl (hb hby d1_19) rfl rfl k) ?_
  refine Go.step (T' := T3) (f' := (mkF m 21 #[.val (.ref a1), .unset, .unset] [(.int (0 : Int32)), (.ref a1)])) (fun _ k => XS.iconst X3.here hx rfl (hb hby d1_20) k) ?_
  obtain ⟨cl6, Ar6, qc6, Sz6, Nn6, Hs6, Gf6⟩ := id q4
  have hin7 : ¬ ((0 : Int32) < 0 ∨ cl6.slots.size ≤ ((0 : Int32)).toNatClampNeg) := (inb_of Sz6 (by constructor <;> simp only [Int32.lt_iff_toInt_lt, Int32.reduceToInt] <;> omega))
  have hat7 : cl6.slots[((0 : Int32)).toNatClampNeg]? = some (.int (1 : Int32)) := atH Hs6 hin7 v0
  refine Go.step (T' := T3) (f' := (mkF m 22 #[.val (.ref a1), .unset, .unset] [(.int (1 : Int32))])) (fun _ k => X3.baloadBytes hx (j := (0 : Int32)) (v := (.int (1 : Int32))) (by rw [eh3]; exact Ar6.1) (State.isArrayOf_alike hZ.alike Ar6.2.1) Ar6.2.2 hin7 hat7 (g := (mkF m 21 #[.val (.ref a1), .unset, .unset] [(.int (0 : Int32)), (.ref a1)])) rfl rfl (hb hby d1_21) _ k) ?_
  refine Go.step (T' := T3) (f' := (mkF m 23 #[.val (.ref a1), .unset, .unset] [(.int (1 : Int32)), (.int (1 : Int32))])) (fun _ k => XS.iconst X3.here hx rfl (hb hby d1_22) k) ?_
  refine Go.step (T' := T3) (f' := (mkF m 43 #[.val (.ref a1), .unset, .unset] [])) (fun _ k => XS.icmpYes X3.here hx rfl (pc0 := 23) (pc' := 43) rfl (hb hby d1_23) rfl (teq (by decide : (1 : Int32) = (1 : Int32))).1 (by decide) (by decide) k) ?_
  refine Go.step (T' := T3) (f' := (mkF m 44 #[.val (.ref a1), .unset, .unset] [(.ref a1)])) (fun _ k => XS.aloadN X3.here hx rfl (hb hby d1_43) rfl rfl k) ?_
  obtain ⟨cl8, Ar8, qc8, Sz8, Nn8, Hs8, Gf8⟩ := id q4
  have hl8 := X3.arraylength hx (by rw [eh3]; exact Ar8.1) (State.isArrayOf_alike hZ.alike Ar8.2.1) (g := (mkF m 44 #[.val (.ref a1), .unset, .unset] [(.ref a1)])) rfl rfl (hb hby d1_44)
  rw [len_of Sz8 Nn8] at hl8
  refine Go.step (T' := T3) (f' := (mkF m 45 #[.val (.ref a1), .unset, .unset] [(.int len)])) (fun _ k => hl8 _ k) ?_
  refine Go.step (T' := T3) (f' := (mkF m 46 #[.val (.ref a1), .unset, .unset] [(.int (1 : Int32)), (.int len)])) (fun _ k => XS.iconst X3.here hx rfl (hb hby d1_45) k) ?_
  refine Go.step (T' := T3) (f' := (mkF m 56 #[.val (.ref a1), .unset, .unset] [])) (fun _ k => XS.icmpYes X3.here hx rfl (pc0 := 46) (pc' := 56) rfl (hb hby d1_46) rfl (feq (by simp only [← Int32.toInt_inj, Int32.reduceToInt]; omega)).2 (by decide) (by decide) k) ?_
  refine Go.step (T' := T3) (f' := (mkF m 57 #[.val (.ref a1), .unset, .unset] [(.ref a1)])) (fun _ k => XS.aloadN X3.here hx rfl (hb hby d1_56) rfl rfl k) ?_
  refine Go.step (T' := T3) (f' := (mkF m 58 #[.val (.ref a1), .unset, .unset] [(.int (1 : Int32)), (.ref a1)])) (fun _ k => XS.iconst X3.here hx rfl (hb hby d1_57) k) ?_
  obtain ⟨cl9, Ar9, qc9, Sz9, Nn9, Hs9, Gf9⟩ := id q4
  have hin10 : ¬ ((1 : Int32) < 0 ∨ cl9.slots.size ≤ ((1 : Int32)).toNatClampNeg) := (inb_of Sz9 (by constructor <;> simp only [Int32.lt_iff_toInt_lt, Int32.reduceToInt] <;> omega))
  have hat10 : cl9.slots[((1 : Int32)).toNatClampNeg]? = some (.int c1) := atH Hs9 hin10 v1
  refine Go.step (T' := T3) (f' := (mkF m 59 #[.val (.ref a1), .unset, .unset] [(.int c1)])) (fun _ k => X3.baloadBytes hx (j := (1 : Int32)) (v := (.int c1)) (by rw [eh3]; exact Ar9.1) (State.isArrayOf_alike hZ.alike Ar9.2.1) Ar9.2.2 hin10 hat10 (g := (mkF m 58 #[.val (.ref a1), .unset, .unset] [(.int (1 : Int32)), (.ref a1)])) rfl rfl (hb hby d1_58) _ k) ?_
  refine Go.step (T' := T3) (f' := (mkF m 62 #[.val (.ref a1), .unset, .unset] [(.int (255 : Int32)), (.int c1)])) (fun _ k => XS.sipush X3.here hx rfl (hb hby d1_59) k) ?_
  refine Go.step (T' := T3) (f' := (mkF m 63 #[.val (.ref a1), .unset, .unset] [(.int (c1 &&& (255 : Int32)))])) (fun _ k => XS.iand X3.here hx rfl (hb hby d1_62) rfl k) ?_
  refine Go.step (T' := T3) (f' := (mkF m 64 #[.val (.ref a1), .val (.int (c1 &&& (255 : Int32))), .unset] [])) (fun _ k => XS.istoreN X3.here hx rfl (hb hby d1_63) rfl (l' := #[.val (.ref a1), .val (.int (c1 &&& (255 : Int32))), .unset]) rfl k) ?_
  rw [hc1]
  refine Go.step (T' := T3) (f' := (mkF m 65 #[.val (.ref a1), .val (.int cnt), .unset] [(.int cnt)])) (fun _ k => XS.iloadN X3.here hx rfl (hb hby d1_64) rfl k) ?_
  refine Go.step (T' := T3) (f' := (mkF m 66 #[.val (.ref a1), .val (.int cnt), .unset] [(.int (1 : Int32)), (.int cnt)])) (fun _ k => XS.iconst X3.here hx rfl (hb hby d1_65) k) ?_
  refine Go.step (T' := T3) (f' := (mkF m 69 #[.val (.ref a1), .val (.int cnt), .unset] [])) (fun _ k => XS.icmpNo X3.here hx rfl (hb hby d1_66) rfl (flt (by simp only [Int32.lt_iff_toInt_lt, Int32.reduceToInt]; omega)).1 k) ?_
  refine Go.step (T' := T3) (f' := (mkF m 70 #[.val (.ref a1), .val (.int cnt), .unset] [(.int cnt)])) (fun _ k => XS.iloadN X3.here hx rfl (hb hby d1_69) rfl k) ?_
  refine Go.step (T' := T3) (f' := (mkF m 72 #[.val (.ref a1), .val (.int cnt), .unset] [(.int (15 : Int32)), (.int cnt)])) (fun _ k => XS.bipush X3.here hx rfl (hb hby d1_70) k) ?_
  refine Go.step (T' := T3) (f' := (mkF m 86 #[.val (.ref a1), .val (.int cnt), .unset] [])) (fun _ k => XS.icmpYes X3.here hx rfl (pc0 := 72) (pc' := 86) rfl (hb hby d1_72) rfl (flt (by simp only [Int32.lt_iff_toInt_lt, Int32.reduceToInt]; omega)).2.2.2 (by decide) (by decide) k) ?_
  refine Go.step (T' := T3) (f' := (mkF m 87 #[.val (.ref a1), .val (.int cnt), .unset] [(.int cnt)])) (fun _ k => XS.iloadN X3.here hx rfl (hb hby d1_86) rfl k) ?_
  obtain ⟨_, _, ⟨T11, L11, k11, n11⟩, -, X11, ⟨Lc11, hQ11, l11, y11, z11⟩, st11⟩ := Jvm.LawKit.callS X3 hx (y := (⟨"com/example/strict_sid/strictsid/packet/PacketForm", "length", "(I)I"⟩ : MethodName)) hown (mvT hZ (hw _ (List.mem_of_getElem? (i := 17) rfl))) (mvT hZ (hw _ (List.mem_of_getElem? (i := 18) rfl))) (mvT hZ (hw _ (List.mem_of_getElem? (i := 4) rfl))) (mvT hZ (hw _ (List.mem_of_getElem? (i := 19) rfl))) (by decide) (backOf (W := 0) (rm3 l Z a0 hw [] cnt h1 n0 Z2 ) hZ (hw _ (List.mem_of_getElem? (i := 19) rfl)) (hw _ (List.mem_of_getElem? (i := 4) rfl)) (by decide) (by decide)) (g := (mkF m 87 #[.val (.ref a1), .val (.int cnt), .unset] [(.int cnt)])) rfl (by rw [hml]; rfl) (argsL := [(.int cnt)]) (rest := []) (lenOf pd_0 rfl) rfl (by show 2 * 0 + _ ≤ _; exact Nat.le_of_eq rfl) (hb hby d1_87) (fun _ _ => ⟨rfl, eh3, (by decide : 2 + 0 ≤ _), (by decide : 24 + 0 ≤ _)⟩)
  dsimp only [Pt.U, Pt.locs, Pt.cells, Pt.slots] at X11 l11 y11 z11 st11 hQ11
  subst l11 y11 z11
  obtain ⟨rfl, Nq11, eh11⟩ := hQ11
  have N11 := Fr.app N3 Nq11
  refine Go.step (T' := T11) (f' := (mkF m 90 #[.val (.ref a1), .val (.int cnt), .unset] [(.int ((8 : Int32) + ((4 : Int32) * cnt)))])) st11 ?_
  refine Go.step (T' := T11) (f' := (mkF m 91 #[.val (.ref a1), .val (.int cnt), .val (.int ((8 : Int32) + ((4 : Int32) * cnt)))] [])) (fun _ k => XS.istoreN X11.here hx rfl (hb hby d1_90) rfl (l' := #[.val (.ref a1), .val (.int cnt), .val (.int ((8 : Int32) + ((4 : Int32) * cnt)))]) rfl k) ?_
  refine Go.step (T' := T11) (f' := (mkF m 92 #[.val (.ref a1), .val (.int cnt), .val (.int ((8 : Int32) + ((4 : Int32) * cnt)))] [(.ref a1)])) (fun _ k => XS.aloadN X11.here hx rfl (hb hby d1_91) rfl rfl k) ?_
  obtain ⟨cl12, Ar12, qc12, Sz12, Nn12, Hs12, Gf12⟩ := id q4
  have hl12 := X11.arraylength hx (by rw [eh11]; exact Ar12.1) (State.isArrayOf_alike hZ.alike Ar12.2.1) (g := (mkF m 92 #[.val (.ref a1), .val (.int cnt), .val (.int ((8 : Int32) + ((4 : Int32) * cnt)))] [(.ref a1)])) rfl rfl (hb hby d1_92)
  rw [len_of Sz12 Nn12] at hl12
  refine Go.step (T' := T11) (f' := (mkF m 93 #[.val (.ref a1), .val (.int cnt), .val (.int ((8 : Int32) + ((4 : Int32) * cnt)))] [(.int len)])) (fun _ k => hl12 _ k) ?_
  refine Go.step (T' := T11) (f' := (mkF m 94 #[.val (.ref a1), .val (.int cnt), .val (.int ((8 : Int32) + ((4 : Int32) * cnt)))] [(.int ((8 : Int32) + ((4 : Int32) * cnt))), (.int len)])) (fun _ k => XS.iloadN X11.here hx rfl (hb hby d1_93) rfl k) ?_
  refine Go.step (T' := T11) (f' := (mkF m 112 #[.val (.ref a1), .val (.int cnt), .val (.int ((8 : Int32) + ((4 : Int32) * cnt)))] [])) (fun _ k => XS.icmpYes X11.here hx rfl (pc0 := 94) (pc' := 112) rfl (hb hby d1_94) rfl (flt (by rw [hle]; exact Int32.lt_irrefl)).2.1 (by decide) (by decide) k) ?_
  refine Go.step (T' := T11) (f' := (mkF m 113 #[.val (.ref a1), .val (.int cnt), .val (.int ((8 : Int32) + ((4 : Int32) * cnt)))] [(.ref a1)])) (fun _ k => XS.aloadN X11.here hx rfl (hb hby d1_112) rfl rfl k) ?_
  obtain ⟨cl13, Ar13, qc13, Sz13, Nn13, Hs13, Gf13⟩ := id q4
  have hl13 := X11.arraylength hx (by rw [eh11]; exact Ar13.1) (State.isArrayOf_alike hZ.alike Ar13.2.1) (g := (mkF m 113 #[.val (.ref a1), .val (.int cnt), .val (.int ((8 : Int32) + ((4 : Int32) * cnt)))] [(.ref a1)])) rfl rfl (hb hby d1_113)
  rw [len_of Sz13 Nn13] at hl13
  refine Go.step (T' := T11) (f' := (mkF m 114 #[.val (.ref a1), .val (.int cnt), .val (.int ((8 : Int32) + ((4 : Int32) * cnt)))] [(.int len)])) (fun _ k => hl13 _ k) ?_
  refine Go.step (T' := T11) (f' := (mkF m 115 #[.val (.ref a1), .val (.int cnt), .val (.int ((8 : Int32) + ((4 : Int32) * cnt)))] [(.int ((8 : Int32) + ((4 : Int32) * cnt))), (.int len)])) (fun _ k => XS.iloadN X11.here hx rfl (hb hby d1_114) rfl k) ?_
  refine Go.step (T' := T11) (f' := (mkF m 134 #[.val (.ref a1), .val (.int cnt), .val (.int ((8 : Int32) + ((4 : Int32) * cnt)))] [])) (fun _ k => XS.icmpYes X11.here hx rfl (pc0 := 115) (pc' := 134) rfl (hb hby d1_115) rfl (flt (by rw [hle]; exact Int32.lt_irrefl)).2.2.2 (by decide) (by decide) k) ?_
  refine Go.step (T' := T11) (f' := (mkF m 135 #[.val (.ref a1), .val (.int cnt), .val (.int ((8 : Int32) + ((4 : Int32) * cnt)))] [(.int cnt)])) (fun _ k => XS.iloadN X11.here hx rfl (hb hby d1_134) rfl k) ?_
  refine goIW hS X11 (by rw [eh11]; exact hk) hx Bd.returns Bd.notSynchronized (hb hby d1_135) ?_ (by decide) (by decide)
  show Q_rm1 Z a1 ka len hs c1 cnt h0 n0 _ T11.heap _
  rw [eh11]
  exact ⟨rfl, N11, K2⟩
theorem pd_2 : parseMethodDescriptor "([B)I" = some ⟨[(.array .byte)], some .int⟩ := by decide +kernel
theorem pn_0 : plainName "com/example/strict_sid/strictsid/packet/PacketFormCheckPinLaw" = true := by first | (simp [plainName, overriddenIn]; done) | decide +kernel
theorem ef_rm0 (m : MethodId) (p1 : Int32) (q2 : Int64) (p3 : Int32) (p4 : Int32) : entryFrame m #[(.int p1), (.long q2), (.int p3), (.int p4)] maxLocals = mkF m 0 #[.val (.int p1), .val (.long q2), .second, .val (.int p3), .val (.int p4), .unset, .unset, .unset, .unset] [] := by first | (simp [entryFrame, mkF, argsToLocals, Value.category, maxLocals]; done) | rfl
def Q_rm0 (Z : State) (p1 : Int32) (q2 : Int64) (p3 : Int32) (p4 : Int32) (h0 : Heap) (n0 : Nat) (rv : Option Value) (hq : Heap) (Lq : List Loc) : Prop := rv = some (.int (1 : Int32)) ∧ Fr n0 Lq
set_option maxRecDepth 65536 in
set_option maxHeartbeats 40000000 in
theorem rm0 (l : Launch) (Z : State) (a0 : Array Value) (hw : ∀ d ∈ tables_1, d.before a0 Z = true) (ws : List Jvm.Cond) (p1 : Int32) (q2 : Int64) (p3 : Int32) (p4 : Int32) (h0 : Heap) (n0 : Nat) (Z0 : n0 ≤ h0.size) :
    MetFree l x (head1 (Jvm.Cond.code x code maxLocals ret :: ws) room_1) (fun a U => a = #[(.int p1), (.long q2), (.int p3), (.int p4)] ∧ Z.Warmed39 U.vm ∧ U.heap = h0) (fun _ _ _ _ _ => True) (fun _ U o U' => ∃ rv Lq, o = .returned rv ∧ Q_rm0 Z p1 q2 p3 p4 h0 n0 rv U'.heap Lq ∧ ReturnedEndW U o U' Lq room_1.cells room_1.slots) := by
  refine MetFree.of_bodySF (plainFor_of_name pn_0) hisR ?_
  intro p e s m args below meth c s₁ Bd hml0 hP hK
  obtain ⟨rfl, hZ, hh⟩ := hP
  have hx := Bd.exec
  have hby := Bd.bytes
  have hml : c.maxLocals = 9 := hml0
  have hown : s.vm.findClass "com/example/strict_sid/strictsid/packet/PacketFormCheckPinLaw" = some m.cls := findClass_of_methodNamed Bd.named
  have hnm := (name_of_methodNamed Bd.named Bd.method).1
  have X0 : Stand p l e room_1 s m #[(.int p1), (.long q2), (.int p3), (.int p4)] below meth c s₁ [] 0 0 := Stand.of_body Bd
  have e0 : s₁.heap = h0 := by rw [← hh, Bd.state]; rfl
  have N0 := Fr.nil n0
  have X0 : Stand p l e room_1 (s.setVm s.vm) m #[(.int p1), (.long q2), (.int p3), (.int p4)] below meth c s₁ [] 0 0 := X0
  have hS : s.Since s.vm h0.size := (State.WarmedH.refl s).since _
  have hk := Nat.le_refl h0.size
  have hZ : Z.Warmed39 (s.setVm s.vm).vm := hZ
  have hown : (s.setVm s.vm).vm.findClass "com/example/strict_sid/strictsid/packet/PacketFormCheckPinLaw" = some m.cls := hown
  refine of_goW (ef_rm0 m p1 q2 p3 p4) ?_
  refine Go.step (T' := s₁) (f' := (mkF m 1 #[.val (.int p1), .val (.long q2), .second, .val (.int p3), .val (.int p4), .unset, .unset, .unset, .unset] [(.int p1)])) (fun _ k => XS.iloadN X0.here hx rfl (hb hby at_0) rfl k) ?_
  refine Go.step (T' := s₁) (f' := (mkF m 3 #[.val (.int p1), .val (.long q2), .second, .val (.int p3), .val (.int p4), .unset, .unset, .unset, .unset] [(.int (2147483647 : Int32)), (.int p1)])) (fun _ k => X0.ldcInt hx hown (mvT hZ (hw _ (List.mem_of_getElem? (i := 0) rfl))) (g := (mkF m 1 #[.val (.int p1), .val (.long q2), .second, .val (.int p3), .val (.int p4), .unset, .unset, .unset, .unset] [(.int p1)])) rfl (hb hby at_1) _ k) ?_
  refine Go.step (T' := s₁) (f' := (mkF m 4 #[.val (.int p1), .val (.long q2), .second, .val (.int p3), .val (.int p4), .unset, .unset, .unset, .unset] [(.int (p1 &&& (2147483647 : Int32)))])) (fun _ k => XS.iand X0.here hx rfl (hb hby at_3) rfl k) ?_
  refine Go.step (T' := s₁) (f' := (mkF m 6 #[.val (.int p1), .val (.long q2), .second, .val (.int p3), .val (.int p4), .unset, .unset, .unset, .unset] [(.int (15 : Int32)), (.int (p1 &&& (2147483647 : Int32)))])) (fun _ k => XS.bipush X0.here hx rfl (hb hby at_4) k) ?_
  refine Go.step (T' := s₁) (f' := (mkF m 7 #[.val (.int p1), .val (.long q2), .second, .val (.int p3), .val (.int p4), .unset, .unset, .unset, .unset] [(.int ((p1 &&& (2147483647 : Int32)) % (15 : Int32)))])) (fun _ k => iremM X0 hx rfl (hb hby at_6) rfl (by decide) k) ?_
  refine Go.step (T' := s₁) (f' := (mkF m 8 #[.val (.int p1), .val (.long q2), .second, .val (.int p3), .val (.int p4), .unset, .unset, .unset, .unset] [(.int (1 : Int32)), (.int ((p1 &&& (2147483647 : Int32)) % (15 : Int32)))])) (fun _ k => XS.iconst X0.here hx rfl (hb hby at_7) k) ?_
  refine Go.step (T' := s₁) (f' := (mkF m 9 #[.val (.int p1), .val (.long q2), .second, .val (.int p3), .val (.int p4), .unset, .unset, .unset, .unset] [(.int (((p1 &&& (2147483647 : Int32)) % (15 : Int32)) + (1 : Int32)))])) (fun _ k => XS.iadd X0.here hx rfl (hb hby at_8) rfl k) ?_
  refine Go.step (T' := s₁) (f' := (mkF m 11 #[.val (.int p1), .val (.long q2), .second, .val (.int p3), .val (.int p4), .val (.int (((p1 &&& (2147483647 : Int32)) % (15 : Int32)) + (1 : Int32))), .unset, .unset, .unset] [])) (fun _ k => XS.istore X0.here hx rfl (hb hby at_9) rfl (l' := #[.val (.int p1), .val (.long q2), .second, .val (.int p3), .val (.int p4), .val (.int (((p1 &&& (2147483647 : Int32)) % (15 : Int32)) + (1 : Int32))), .unset, .unset, .unset]) rfl k) ?_
  obtain ⟨cnt, e_cnt⟩ : ∃ z, z = (((p1 &&& (2147483647 : Int32)) % (15 : Int32)) + (1 : Int32)) := ⟨_, rfl⟩
  rw [← e_cnt]
  have hcc := own_cnt p1
  have hca : 1 ≤ cnt.toInt := by rw [e_cnt]; exact hcc.1
  have hcb : cnt.toInt ≤ 15 := by rw [e_cnt]; exact hcc.2
  refine Go.step (T' := s₁) (f' := (mkF m 13 #[.val (.int p1), .val (.long q2), .second, .val (.int p3), .val (.int p4), .val (.int cnt), .unset, .unset, .unset] [(.int (8 : Int32))])) (fun _ k => XS.bipush X0.here hx rfl (hb hby at_11) k) ?_
  refine Go.step (T' := s₁) (f' := (mkF m 14 #[.val (.int p1), .val (.long q2), .second, .val (.int p3), .val (.int p4), .val (.int cnt), .unset, .unset, .unset] [(.int (4 : Int32)), (.int (8 : Int32))])) (fun _ k => XS.iconst X0.here hx rfl (hb hby at_13) k) ?_
  refine Go.step (T' := s₁) (f' := (mkF m 16 #[.val (.int p1), .val (.long q2), .second, .val (.int p3), .val (.int p4), .val (.int cnt), .unset, .unset, .unset] [(.int cnt), (.int (4 : Int32)), (.int (8 : Int32))])) (fun _ k => XS.iload X0.here hx rfl (hb hby at_14) rfl k) ?_
  refine Go.step (T' := s₁) (f' := (mkF m 17 #[.val (.int p1), .val (.long q2), .second, .val (.int p3), .val (.int p4), .val (.int cnt), .unset, .unset, .unset] [(.int ((4 : Int32) * cnt)), (.int (8 : Int32))])) (fun _ k => XS.imul X0.here hx rfl (hb hby at_16) rfl k) ?_
  refine Go.step (T' := s₁) (f' := (mkF m 18 #[.val (.int p1), .val (.long q2), .second, .val (.int p3), .val (.int p4), .val (.int cnt), .unset, .unset, .unset] [(.int ((8 : Int32) + ((4 : Int32) * cnt)))])) (fun _ k => XS.iadd X0.here hx rfl (hb hby at_17) rfl k) ?_
  refine Go.step (T' := s₁) (f' := (mkF m 20 #[.val (.int p1), .val (.long q2), .second, .val (.int p3), .val (.int p4), .val (.int cnt), .val (.int ((8 : Int32) + ((4 : Int32) * cnt))), .unset, .unset] [])) (fun _ k => XS.istore X0.here hx rfl (hb hby at_18) rfl (l' := #[.val (.int p1), .val (.long q2), .second, .val (.int p3), .val (.int p4), .val (.int cnt), .val (.int ((8 : Int32) + ((4 : Int32) * cnt))), .unset, .unset]) rfl k) ?_
  obtain ⟨len, e_len⟩ : ∃ z, z = ((8 : Int32) + ((4 : Int32) * cnt)) := ⟨_, rfl⟩
  rw [← e_len]
  have hl : len.toInt = 8 + 4 * cnt.toInt := by rw [e_len]; exact own_len hca hcb
  have hs1 : (len - (1 : Int32)).toInt = len.toInt - 1 := own_sub 1 (by decide) (by have : (1 : Int32).toInt = 1 := rfl; omega)
  have hs2 : (len - (2 : Int32)).toInt = len.toInt - 2 := own_sub 2 (by decide) (by have : (2 : Int32).toInt = 2 := rfl; omega)
  have hs3 : (len - (3 : Int32)).toInt = len.toInt - 3 := own_sub 3 (by decide) (by have : (3 : Int32).toInt = 3 := rfl; omega)
  have hs4 : (len - (4 : Int32)).toInt = len.toInt - 4 := own_sub 4 (by decide) (by have : (4 : Int32).toInt = 4 := rfl; omega)
  refine Go.step (T' := s₁) (f' := (mkF m 22 #[.val (.int p1), .val (.long q2), .second, .val (.int p3), .val (.int p4), .val (.int cnt), .val (.int len), .unset, .unset] [(.int len)])) (fun _ k => XS.iload X0.here hx rfl (hb hby at_20) rfl k) ?_
  obtain ⟨T1, h1, k1, X1, e1, E1, A1, st1⟩ := newP X0 hx hZ (hw _ (List.mem_of_getElem? (i := 1) rfl)) e0 (g := (mkF m 22 #[.val (.int p1), .val (.long q2), .second, .val (.int p3), .val (.int p4), .val (.int cnt), .val (.int len), .unset, .unset] [(.int len)])) rfl (hb hby at_22) rfl (by simp only [Int32.lt_iff_toInt_lt, Int32.reduceToInt]; omega) (cap := 68) (by simp only [Int32.toNatClampNeg]; omega) (by decide) (by decide) (by decide)
  obtain ⟨b1, g1⟩ : ∃ z, z = h0.size := ⟨_, rfl⟩
  rw [← g1] at A1 st1
  have g_b1 : n0 ≤ b1 := Nat.le_trans Z0 (Nat.le_of_eq g1.symm)
  have Z2 : n0 ≤ h1.size := Nat.le_trans Z0 E1.1
  have hk := Nat.le_trans hk E1.1
  have V_b1 : Arh Z h1 b1 k1 .byte len [] [] (.int (0 : Int32)) := (Arv.new A1 (by simp only [Int32.lt_iff_toInt_lt, Int32.reduceToInt]; omega)).arh
  refine Go.step (T' := T1) (f' := (mkF m 24 #[.val (.int p1), .val (.long q2), .second, .val (.int p3), .val (.int p4), .val (.int cnt), .val (.int len), .unset, .unset] [(.ref b1)])) st1 ?_
  refine Go.step (T' := T1) (f' := (mkF m 26 #[.val (.int p1), .val (.long q2), .second, .val (.int p3), .val (.int p4), .val (.int cnt), .val (.int len), .val (.ref b1), .unset] [])) (fun _ k => XS.astore X1.here hx rfl (hb hby at_24) rfl rfl (l' := #[.val (.int p1), .val (.long q2), .second, .val (.int p3), .val (.int p4), .val (.int cnt), .val (.int len), .val (.ref b1), .unset]) rfl k) ?_
  refine Go.step (T' := T1) (f' := (mkF m 28 #[.val (.int p1), .val (.long q2), .second, .val (.int p3), .val (.int p4), .val (.int cnt), .val (.int len), .val (.ref b1), .unset] [(.ref b1)])) (fun _ k => XS.aload X1.here hx rfl (hb hby at_26) rfl rfl k) ?_
  refine Go.step (T' := T1) (f' := (mkF m 29 #[.val (.int p1), .val (.long q2), .second, .val (.int p3), .val (.int p4), .val (.int cnt), .val (.int len), .val (.ref b1), .unset] [(.int (0 : Int32)), (.ref b1)])) (fun _ k => XS.iconst X1.here hx rfl (hb hby at_28) k) ?_
  refine Go.step (T' := T1) (f' := (mkF m 30 #[.val (.int p1), .val (.long q2), .second, .val (.int p3), .val (.int p4), .val (.int cnt), .val (.int len), .val (.ref b1), .unset] [(.int (1 : Int32)), (.int (0 : Int32)), (.ref b1)])) (fun _ k => XS.iconst X1.here hx rfl (hb hby at_29) k) ?_
  obtain ⟨cl3, Ar3, qc3, Sz3, Nn3, Hs3, Gf3⟩ := id V_b1
  have hin4 : ¬ ((0 : Int32) < 0 ∨ cl3.slots.size ≤ ((0 : Int32)).toNatClampNeg) := (inb_of Sz3 (by constructor <;> simp only [Int32.lt_iff_toInt_lt, Int32.reduceToInt] <;> omega))
  obtain ⟨T4, h4, X4, e4, W4, st4⟩ := stB X1 hx hZ e1 Ar3 (j := (0 : Int32)) hin4 (g := (mkF m 30 #[.val (.int p1), .val (.long q2), .second, .val (.int p3), .val (.int p4), .val (.int cnt), .val (.int len), .val (.ref b1), .unset] [(.int (1 : Int32)), (.int (0 : Int32)), (.ref b1)])) rfl rfl (hb hby at_30)
  have N4 := Fr.snoc X4 N0 g_b1
  have Z5 : n0 ≤ h4.size := Nat.le_trans Z2 (Keep.of_wr W4).1
  have hk := Nat.le_trans hk (Keep.of_wr W4).1
  have Va4 : Arh Z h4 b1 k1 .byte len [((0 : Int32), (.int (1 : Int32)))] [] (.int (0 : Int32)) := Arh.push Ar3 qc3 Sz3 Nn3 Hs3 Gf3 (by decide) W4 hin4
  refine Go.step (T' := T4) (f' := (mkF m 31 #[.val (.int p1), .val (.long q2), .second, .val (.int p3), .val (.int p4), .val (.int cnt), .val (.int len), .val (.ref b1), .unset] [])) st4 ?_
  refine Go.step (T' := T4) (f' := (mkF m 33 #[.val (.int p1), .val (.long q2), .second, .val (.int p3), .val (.int p4), .val (.int cnt), .val (.int len), .val (.ref b1), .unset] [(.ref b1)])) (fun _ k => XS.aload X4.here hx rfl (hb hby at_31) rfl rfl k) ?_
  refine Go.step (T' := T4) (f' := (mkF m 34 #[.val (.int p1), .val (.long q2), .second, .val (.int p3), .val (.int p4), .val (.int cnt), .val (.int len), .val (.ref b1), .unset] [(.int (1 : Int32)), (.ref b1)])) (fun _ k => XS.iconst X4.here hx rfl (hb hby at_33) k) ?_
  refine Go.step (T' := T4) (f' := (mkF m 36 #[.val (.int p1), .val (.long q2), .second, .val (.int p3), .val (.int p4), .val (.int cnt), .val (.int len), .val (.ref b1), .unset] [(.int cnt), (.int (1 : Int32)), (.ref b1)])) (fun _ k => XS.iload X4.here hx rfl (hb hby at_34) rfl k) ?_
  refine Go.step (T' := T4) (f' := (mkF m 37 #[.val (.int p1), .val (.long q2), .second, .val (.int p3), .val (.int p4), .val (.int cnt), .val (.int len), .val (.ref b1), .unset] [(.int (cnt.toInt8.toInt32)), (.int (1 : Int32)), (.ref b1)])) (fun _ k => XS.i2b X4.here hx rfl (hb hby at_36) rfl k) ?_
  obtain ⟨cl6, Ar6, qc6, Sz6, Nn6, Hs6, Gf6⟩ := id Va4
  have hin7 : ¬ ((1 : Int32) < 0 ∨ cl6.slots.size ≤ ((1 : Int32)).toNatClampNeg) := (inb_of Sz6 (by constructor <;> simp only [Int32.lt_iff_toInt_lt, Int32.reduceToInt] <;> omega))
  obtain ⟨T7, h7, X7, e7, W7, st7⟩ := stB X4 hx hZ e4 Ar6 (j := (1 : Int32)) hin7 (g := (mkF m 37 #[.val (.int p1), .val (.long q2), .second, .val (.int p3), .val (.int p4), .val (.int cnt), .val (.int len), .val (.ref b1), .unset] [(.int (cnt.toInt8.toInt32)), (.int (1 : Int32)), (.ref b1)])) rfl rfl (hb hby at_37)
  have N7 := Fr.snoc X7 N4 g_b1
  have Z8 : n0 ≤ h7.size := Nat.le_trans Z5 (Keep.of_wr W7).1
  have hk := Nat.le_trans hk (Keep.of_wr W7).1
  rw [own_nb] at W7
  have Va7 : Arh Z h7 b1 k1 .byte len [((1 : Int32), (.int (cnt.toInt8.toInt32))), ((0 : Int32), (.int (1 : Int32)))] [] (.int (0 : Int32)) := Arh.push Ar6 qc6 Sz6 Nn6 Hs6 Gf6 (fits_nar_byte _) W7 hin7
  refine Go.step (T' := T7) (f' := (mkF m 38 #[.val (.int p1), .val (.long q2), .second, .val (.int p3), .val (.int p4), .val (.int cnt), .val (.int len), .val (.ref b1), .unset] [])) st7 ?_
  refine Go.step (T' := T7) (f' := (mkF m 40 #[.val (.int p1), .val (.long q2), .second, .val (.int p3), .val (.int p4), .val (.int cnt), .val (.int len), .val (.ref b1), .unset] [(.ref b1)])) (fun _ k => XS.aload X7.here hx rfl (hb hby at_38) rfl rfl k) ?_
  refine Go.step (T' := T7) (f' := (mkF m 41 #[.val (.int p1), .val (.long q2), .second, .val (.int p3), .val (.int p4), .val (.int cnt), .val (.int len), .val (.ref b1), .unset] [(.int (2 : Int32)), (.ref b1)])) (fun _ k => XS.iconst X7.here hx rfl (hb hby at_40) k) ?_
  refine Go.step (T' := T7) (f' := (mkF m 42 #[.val (.int p1), .val (.long q2), .second, .val (.int p3), .val (.int p4), .val (.int cnt), .val (.int len), .val (.ref b1), .unset] [(.long q2), (.int (2 : Int32)), (.ref b1)])) (fun _ k => XS.lloadN X7.here hx rfl (hb hby at_41) rfl k) ?_
  refine Go.step (T' := T7) (f' := (mkF m 44 #[.val (.int p1), .val (.long q2), .second, .val (.int p3), .val (.int p4), .val (.int cnt), .val (.int len), .val (.ref b1), .unset] [(.int (40 : Int32)), (.long q2), (.int (2 : Int32)), (.ref b1)])) (fun _ k => XS.bipush X7.here hx rfl (hb hby at_42) k) ?_
  refine Go.step (T' := T7) (f' := (mkF m 45 #[.val (.int p1), .val (.long q2), .second, .val (.int p3), .val (.int p4), .val (.int cnt), .val (.int len), .val (.ref b1), .unset] [(.long ((q2.toUInt64 >>> ((40 : Int32) &&& 0x3f).toInt64.toUInt64).toInt64)), (.int (2 : Int32)), (.ref b1)])) (fun _ k => XS.lushr X7.here hx rfl (hb hby at_44) rfl k) ?_
  refine Go.step (T' := T7) (f' := (mkF m 46 #[.val (.int p1), .val (.long q2), .second, .val (.int p3), .val (.int p4), .val (.int cnt), .val (.int len), .val (.ref b1), .unset] [(.int (((q2.toUInt64 >>> ((40 : Int32) &&& 0x3f).toInt64.toUInt64).toInt64).toInt32)), (.int (2 : Int32)), (.ref b1)])) (fun _ k => XS.l2i X7.here hx rfl (hb hby at_45) rfl k) ?_
  refine Go.step (T' := T7) (f' := (mkF m 47 #[.val (.int p1), .val (.long q2), .second, .val (.int p3), .val (.int p4), .val (.int cnt), .val (.int len), .val (.ref b1), .unset] [(.int ((((q2.toUInt64 >>> ((40 : Int32) &&& 0x3f).toInt64.toUInt64).toInt64).toInt32).toInt8.toInt32)), (.int (2 : Int32)), (.ref b1)])) (fun _ k => XS.i2b X7.here hx rfl (hb hby at_46) rfl k) ?_
  obtain ⟨cl9, Ar9, qc9, Sz9, Nn9, Hs9, Gf9⟩ := id Va7
  have hin10 : ¬ ((2 : Int32) < 0 ∨ cl9.slots.size ≤ ((2 : Int32)).toNatClampNeg) := (inb_of Sz9 (by constructor <;> simp only [Int32.lt_iff_toInt_lt, Int32.reduceToInt] <;> omega))
  obtain ⟨T10, h10, X10, e10, W10, st10⟩ := stB X7 hx hZ e7 Ar9 (j := (2 : Int32)) hin10 (g := (mkF m 47 #[.val (.int p1), .val (.long q2), .second, .val (.int p3), .val (.int p4), .val (.int cnt), .val (.int len), .val (.ref b1), .unset] [(.int ((((q2.toUInt64 >>> ((40 : Int32) &&& 0x3f).toInt64.toUInt64).toInt64).toInt32).toInt8.toInt32)), (.int (2 : Int32)), (.ref b1)])) rfl rfl (hb hby at_47)
  have N10 := Fr.snoc X10 N7 g_b1
  have Z11 : n0 ≤ h10.size := Nat.le_trans Z8 (Keep.of_wr W10).1
  have hk := Nat.le_trans hk (Keep.of_wr W10).1
  rw [own_nb] at W10
  have Va10 : Arh Z h10 b1 k1 .byte len [((2 : Int32), (.int ((((q2.toUInt64 >>> ((40 : Int32) &&& 0x3f).toInt64.toUInt64).toInt64).toInt32).toInt8.toInt32))), ((1 : Int32), (.int (cnt.toInt8.toInt32))), ((0 : Int32), (.int (1 : Int32)))] [] (.int (0 : Int32)) := Arh.push Ar9 qc9 Sz9 Nn9 Hs9 Gf9 (fits_nar_byte _) W10 hin10
  refine Go.step (T' := T10) (f' := (mkF m 48 #[.val (.int p1), .val (.long q2), .second, .val (.int p3), .val (.int p4), .val (.int cnt), .val (.int len), .val (.ref b1), .unset] [])) st10 ?_
  refine Go.step (T' := T10) (f' := (mkF m 50 #[.val (.int p1), .val (.long q2), .second, .val (.int p3), .val (.int p4), .val (.int cnt), .val (.int len), .val (.ref b1), .unset] [(.ref b1)])) (fun _ k => XS.aload X10.here hx rfl (hb hby at_48) rfl rfl k) ?_
  refine Go.step (T' := T10) (f' := (mkF m 51 #[.val (.int p1), .val (.long q2), .second, .val (.int p3), .val (.int p4), .val (.int cnt), .val (.int len), .val (.ref b1), .unset] [(.int (3 : Int32)), (.ref b1)])) (fun _ k => XS.iconst X10.here hx rfl (hb hby at_50) k) ?_
  refine Go.step (T' := T10) (f' := (mkF m 52 #[.val (.int p1), .val (.long q2), .second, .val (.int p3), .val (.int p4), .val (.int cnt), .val (.int len), .val (.ref b1), .unset] [(.long q2), (.int (3 : Int32)), (.ref b1)])) (fun _ k => XS.lloadN X10.here hx rfl (hb hby at_51) rfl k) ?_
  refine Go.step (T' := T10) (f' := (mkF m 54 #[.val (.int p1), .val (.long q2), .second, .val (.int p3), .val (.int p4), .val (.int cnt), .val (.int len), .val (.ref b1), .unset] [(.int (32 : Int32)), (.long q2), (.int (3 : Int32)), (.ref b1)])) (fun _ k => XS.bipush X10.here hx rfl (hb hby at_52) k) ?_
  refine Go.step (T' := T10) (f' := (mkF m 55 #[.val (.int p1), .val (.long q2), .second, .val (.int p3), .val (.int p4), .val (.int cnt), .val (.int len), .val (.ref b1), .unset] [(.long ((q2.toUInt64 >>> ((32 : Int32) &&& 0x3f).toInt64.toUInt64).toInt64)), (.int (3 : Int32)), (.ref b1)])) (fun _ k => XS.lushr X10.here hx rfl (hb hby at_54) rfl k) ?_
  refine Go.step (T' := T10) (f' := (mkF m 56 #[.val (.int p1), .val (.long q2), .second, .val (.int p3), .val (.int p4), .val (.int cnt), .val (.int len), .val (.ref b1), .unset] [(.int (((q2.toUInt64 >>> ((32 : Int32) &&& 0x3f).toInt64.toUInt64).toInt64).toInt32)), (.int (3 : Int32)), (.ref b1)])) (fun _ k => XS.l2i X10.here hx rfl (hb hby at_55) rfl k) ?_
  refine Go.step (T' := T10) (f' := (mkF m 57 #[.val (.int p1), .val (.long q2), .second, .val (.int p3), .val (.int p4), .val (.int cnt), .val (.int len), .val (.ref b1), .unset] [(.int ((((q2.toUInt64 >>> ((32 : Int32) &&& 0x3f).toInt64.toUInt64).toInt64).toInt32).toInt8.toInt32)), (.int (3 : Int32)), (.ref b1)])) (fun _ k => XS.i2b X10.here hx rfl (hb hby at_56) rfl k) ?_
  obtain ⟨cl12, Ar12, qc12, Sz12, Nn12, Hs12, Gf12⟩ := id Va10
  have hin13 : ¬ ((3 : Int32) < 0 ∨ cl12.slots.size ≤ ((3 : Int32)).toNatClampNeg) := (inb_of Sz12 (by constructor <;> simp only [Int32.lt_iff_toInt_lt, Int32.reduceToInt] <;> omega))
  obtain ⟨T13, h13, X13, e13, W13, st13⟩ := stB X10 hx hZ e10 Ar12 (j := (3 : Int32)) hin13 (g := (mkF m 57 #[.val (.int p1), .val (.long q2), .second, .val (.int p3), .val (.int p4), .val (.int cnt), .val (.int len), .val (.ref b1), .unset] [(.int ((((q2.toUInt64 >>> ((32 : Int32) &&& 0x3f).toInt64.toUInt64).toInt64).toInt32).toInt8.toInt32)), (.int (3 : Int32)), (.ref b1)])) rfl rfl (hb hby at_57)
  have N13 := Fr.snoc X13 N10 g_b1
  have Z14 : n0 ≤ h13.size := Nat.le_trans Z11 (Keep.of_wr W13).1
  have hk := Nat.le_trans hk (Keep.of_wr W13).1
  rw [own_nb] at W13
  have Va13 : Arh Z h13 b1 k1 .byte len [((3 : Int32), (.int ((((q2.toUInt64 >>> ((32 : Int32) &&& 0x3f).toInt64.toUInt64).toInt64).toInt32).toInt8.toInt32))), ((2 : Int32), (.int ((((q2.toUInt64 >>> ((40 : Int32) &&& 0x3f).toInt64.toUInt64).toInt64).toInt32).toInt8.toInt32))), ((1 : Int32), (.int (cnt.toInt8.toInt32))), ((0 : Int32), (.int (1 : Int32)))] [] (.int (0 : Int32)) := Arh.push Ar12 qc12 Sz12 Nn12 Hs12 Gf12 (fits_nar_byte _) W13 hin13
  refine Go.step (T' := T13) (f' := (mkF m 58 #[.val (.int p1), .val (.long q2), .second, .val (.int p3), .val (.int p4), .val (.int cnt), .val (.int len), .val (.ref b1), .unset] [])) st13 ?_
  refine Go.step (T' := T13) (f' := (mkF m 60 #[.val (.int p1), .val (.long q2), .second, .val (.int p3), .val (.int p4), .val (.int cnt), .val (.int len), .val (.ref b1), .unset] [(.ref b1)])) (fun _ k => XS.aload X13.here hx rfl (hb hby at_58) rfl rfl k) ?_
  refine Go.step (T' := T13) (f' := (mkF m 61 #[.val (.int p1), .val (.long q2), .second, .val (.int p3), .val (.int p4), .val (.int cnt), .val (.int len), .val (.ref b1), .unset] [(.int (4 : Int32)), (.ref b1)])) (fun _ k => XS.iconst X13.here hx rfl (hb hby at_60) k) ?_
  refine Go.step (T' := T13) (f' := (mkF m 62 #[.val (.int p1), .val (.long q2), .second, .val (.int p3), .val (.int p4), .val (.int cnt), .val (.int len), .val (.ref b1), .unset] [(.long q2), (.int (4 : Int32)), (.ref b1)])) (fun _ k => XS.lloadN X13.here hx rfl (hb hby at_61) rfl k) ?_
  refine Go.step (T' := T13) (f' := (mkF m 64 #[.val (.int p1), .val (.long q2), .second, .val (.int p3), .val (.int p4), .val (.int cnt), .val (.int len), .val (.ref b1), .unset] [(.int (24 : Int32)), (.long q2), (.int (4 : Int32)), (.ref b1)])) (fun _ k => XS.bipush X13.here hx rfl (hb hby at_62) k) ?_
  refine Go.step (T' := T13) (f' := (mkF m 65 #[.val (.int p1), .val (.long q2), .second, .val (.int p3), .val (.int p4), .val (.int cnt), .val (.int len), .val (.ref b1), .unset] [(.long ((q2.toUInt64 >>> ((24 : Int32) &&& 0x3f).toInt64.toUInt64).toInt64)), (.int (4 : Int32)), (.ref b1)])) (fun _ k => XS.lushr X13.here hx rfl (hb hby at_64) rfl k) ?_
  refine Go.step (T' := T13) (f' := (mkF m 66 #[.val (.int p1), .val (.long q2), .second, .val (.int p3), .val (.int p4), .val (.int cnt), .val (.int len), .val (.ref b1), .unset] [(.int (((q2.toUInt64 >>> ((24 : Int32) &&& 0x3f).toInt64.toUInt64).toInt64).toInt32)), (.int (4 : Int32)), (.ref b1)])) (fun _ k => XS.l2i X13.here hx rfl (hb hby at_65) rfl k) ?_
  refine Go.step (T' := T13) (f' := (mkF m 67 #[.val (.int p1), .val (.long q2), .second, .val (.int p3), .val (.int p4), .val (.int cnt), .val (.int len), .val (.ref b1), .unset] [(.int ((((q2.toUInt64 >>> ((24 : Int32) &&& 0x3f).toInt64.toUInt64).toInt64).toInt32).toInt8.toInt32)), (.int (4 : Int32)), (.ref b1)])) (fun _ k => XS.i2b X13.here hx rfl (hb hby at_66) rfl k) ?_
  obtain ⟨cl15, Ar15, qc15, Sz15, Nn15, Hs15, Gf15⟩ := id Va13
  have hin16 : ¬ ((4 : Int32) < 0 ∨ cl15.slots.size ≤ ((4 : Int32)).toNatClampNeg) := (inb_of Sz15 (by constructor <;> simp only [Int32.lt_iff_toInt_lt, Int32.reduceToInt] <;> omega))
  obtain ⟨T16, h16, X16, e16, W16, st16⟩ := stB X13 hx hZ e13 Ar15 (j := (4 : Int32)) hin16 (g := (mkF m 67 #[.val (.int p1), .val (.long q2), .second, .val (.int p3), .val (.int p4), .val (.int cnt), .val (.int len), .val (.ref b1), .unset] [(.int ((((q2.toUInt64 >>> ((24 : Int32) &&& 0x3f).toInt64.toUInt64).toInt64).toInt32).toInt8.toInt32)), (.int (4 : Int32)), (.ref b1)])) rfl rfl (hb hby at_67)
  have N16 := Fr.snoc X16 N13 g_b1
  have Z17 : n0 ≤ h16.size := Nat.le_trans Z14 (Keep.of_wr W16).1
  have hk := Nat.le_trans hk (Keep.of_wr W16).1
  rw [own_nb] at W16
  have Va16 : Arh Z h16 b1 k1 .byte len [((4 : Int32), (.int ((((q2.toUInt64 >>> ((24 : Int32) &&& 0x3f).toInt64.toUInt64).toInt64).toInt32).toInt8.toInt32))), ((3 : Int32), (.int ((((q2.toUInt64 >>> ((32 : Int32) &&& 0x3f).toInt64.toUInt64).toInt64).toInt32).toInt8.toInt32))), ((2 : Int32), (.int ((((q2.toUInt64 >>> ((40 : Int32) &&& 0x3f).toInt64.toUInt64).toInt64).toInt32).toInt8.toInt32))), ((1 : Int32), (.int (cnt.toInt8.toInt32))), ((0 : Int32), (.int (1 : Int32)))] [] (.int (0 : Int32)) := Arh.push Ar15 qc15 Sz15 Nn15 Hs15 Gf15 (fits_nar_byte _) W16 hin16
  refine Go.step (T' := T16) (f' := (mkF m 68 #[.val (.int p1), .val (.long q2), .second, .val (.int p3), .val (.int p4), .val (.int cnt), .val (.int len), .val (.ref b1), .unset] [])) st16 ?_
  refine Go.step (T' := T16) (f' := (mkF m 70 #[.val (.int p1), .val (.long q2), .second, .val (.int p3), .val (.int p4), .val (.int cnt), .val (.int len), .val (.ref b1), .unset] [(.ref b1)])) (fun _ k => XS.aload X16.here hx rfl (hb hby at_68) rfl rfl k) ?_
  refine Go.step (T' := T16) (f' := (mkF m 71 #[.val (.int p1), .val (.long q2), .second, .val (.int p3), .val (.int p4), .val (.int cnt), .val (.int len), .val (.ref b1), .unset] [(.int (5 : Int32)), (.ref b1)])) (fun _ k => XS.iconst X16.here hx rfl (hb hby at_70) k) ?_
  refine Go.step (T' := T16) (f' := (mkF m 72 #[.val (.int p1), .val (.long q2), .second, .val (.int p3), .val (.int p4), .val (.int cnt), .val (.int len), .val (.ref b1), .unset] [(.long q2), (.int (5 : Int32)), (.ref b1)])) (fun _ k => XS.lloadN X16.here hx rfl (hb hby at_71) rfl k) ?_
  refine Go.step (T' := T16) (f' := (mkF m 74 #[.val (.int p1), .val (.long q2), .second, .val (.int p3), .val (.int p4), .val (.int cnt), .val (.int len), .val (.ref b1), .unset] [(.int (16 : Int32)), (.long q2), (.int (5 : Int32)), (.ref b1)])) (fun _ k => XS.bipush X16.here hx rfl (hb hby at_72) k) ?_
  refine Go.step (T' := T16) (f' := (mkF m 75 #[.val (.int p1), .val (.long q2), .second, .val (.int p3), .val (.int p4), .val (.int cnt), .val (.int len), .val (.ref b1), .unset] [(.long ((q2.toUInt64 >>> ((16 : Int32) &&& 0x3f).toInt64.toUInt64).toInt64)), (.int (5 : Int32)), (.ref b1)])) (fun _ k => XS.lushr X16.here hx rfl (hb hby at_74) rfl k) ?_
  refine Go.step (T' := T16) (f' := (mkF m 76 #[.val (.int p1), .val (.long q2), .second, .val (.int p3), .val (.int p4), .val (.int cnt), .val (.int len), .val (.ref b1), .unset] [(.int (((q2.toUInt64 >>> ((16 : Int32) &&& 0x3f).toInt64.toUInt64).toInt64).toInt32)), (.int (5 : Int32)), (.ref b1)])) (fun _ k => XS.l2i X16.here hx rfl (hb hby at_75) rfl k) ?_
  refine Go.step (T' := T16) (f' := (mkF m 77 #[.val (.int p1), .val (.long q2), .second, .val (.int p3), .val (.int p4), .val (.int cnt), .val (.int len), .val (.ref b1), .unset] [(.int ((((q2.toUInt64 >>> ((16 : Int32) &&& 0x3f).toInt64.toUInt64).toInt64).toInt32).toInt8.toInt32)), (.int (5 : Int32)), (.ref b1)])) (fun _ k => XS.i2b X16.here hx rfl (hb hby at_76) rfl k) ?_
  obtain ⟨cl18, Ar18, qc18, Sz18, Nn18, Hs18, Gf18⟩ := id Va16
  have hin19 : ¬ ((5 : Int32) < 0 ∨ cl18.slots.size ≤ ((5 : Int32)).toNatClampNeg) := (inb_of Sz18 (by constructor <;> simp only [Int32.lt_iff_toInt_lt, Int32.reduceToInt] <;> omega))
  obtain ⟨T19, h19, X19, e19, W19, st19⟩ := stB X16 hx hZ e16 Ar18 (j := (5 : Int32)) hin19 (g := (mkF m 77 #[.val (.int p1), .val (.long q2), .second, .val (.int p3), .val (.int p4), .val (.int cnt), .val (.int len), .val (.ref b1), .unset] [(.int ((((q2.toUInt64 >>> ((16 : Int32) &&& 0x3f).toInt64.toUInt64).toInt64).toInt32).toInt8.toInt32)), (.int (5 : Int32)), (.ref b1)])) rfl rfl (hb hby at_77)
  have N19 := Fr.snoc X19 N16 g_b1
  have Z20 : n0 ≤ h19.size := Nat.le_trans Z17 (Keep.of_wr W19).1
  have hk := Nat.le_trans hk (Keep.of_wr W19).1
  rw [own_nb] at W19
  have Va19 : Arh Z h19 b1 k1 .byte len [((5 : Int32), (.int ((((q2.toUInt64 >>> ((16 : Int32) &&& 0x3f).toInt64.toUInt64).toInt64).toInt32).toInt8.toInt32))), ((4 : Int32), (.int ((((q2.toUInt64 >>> ((24 : Int32) &&& 0x3f).toInt64.toUInt64).toInt64).toInt32).toInt8.toInt32))), ((3 : Int32), (.int ((((q2.toUInt64 >>> ((32 : Int32) &&& 0x3f).toInt64.toUInt64).toInt64).toInt32).toInt8.toInt32))), ((2 : Int32), (.int ((((q2.toUInt64 >>> ((40 : Int32) &&& 0x3f).toInt64.toUInt64).toInt64).toInt32).toInt8.toInt32))), ((1 : Int32), (.int (cnt.toInt8.toInt32))), ((0 : Int32), (.int (1 : Int32)))] [] (.int (0 : Int32)) := Arh.push Ar18 qc18 Sz18 Nn18 Hs18 Gf18 (fits_nar_byte _) W19 hin19
  refine Go.step (T' := T19) (f' := (mkF m 78 #[.val (.int p1), .val (.long q2), .second, .val (.int p3), .val (.int p4), .val (.int cnt), .val (.int len), .val (.ref b1), .unset] [])) st19 ?_
  refine Go.step (T' := T19) (f' := (mkF m 80 #[.val (.int p1), .val (.long q2), .second, .val (.int p3), .val (.int p4), .val (.int cnt), .val (.int len), .val (.ref b1), .unset] [(.ref b1)])) (fun _ k => XS.aload X19.here hx rfl (hb hby at_78) rfl rfl k) ?_
  refine Go.step (T' := T19) (f' := (mkF m 82 #[.val (.int p1), .val (.long q2), .second, .val (.int p3), .val (.int p4), .val (.int cnt), .val (.int len), .val (.ref b1), .unset] [(.int (6 : Int32)), (.ref b1)])) (fun _ k => XS.bipush X19.here hx rfl (hb hby at_80) k) ?_
  refine Go.step (T' := T19) (f' := (mkF m 83 #[.val (.int p1), .val (.long q2), .second, .val (.int p3), .val (.int p4), .val (.int cnt), .val (.int len), .val (.ref b1), .unset] [(.long q2), (.int (6 : Int32)), (.ref b1)])) (fun _ k => XS.lloadN X19.here hx rfl (hb hby at_82) rfl k) ?_
  refine Go.step (T' := T19) (f' := (mkF m 85 #[.val (.int p1), .val (.long q2), .second, .val (.int p3), .val (.int p4), .val (.int cnt), .val (.int len), .val (.ref b1), .unset] [(.int (8 : Int32)), (.long q2), (.int (6 : Int32)), (.ref b1)])) (fun _ k => XS.bipush X19.here hx rfl (hb hby at_83) k) ?_
  refine Go.step (T' := T19) (f' := (mkF m 86 #[.val (.int p1), .val (.long q2), .second, .val (.int p3), .val (.int p4), .val (.int cnt), .val (.int len), .val (.ref b1), .unset] [(.long ((q2.toUInt64 >>> ((8 : Int32) &&& 0x3f).toInt64.toUInt64).toInt64)), (.int (6 : Int32)), (.ref b1)])) (fun _ k => XS.lushr X19.here hx rfl (hb hby at_85) rfl k) ?_
  refine Go.step (T' := T19) (f' := (mkF m 87 #[.val (.int p1), .val (.long q2), .second, .val (.int p3), .val (.int p4), .val (.int cnt), .val (.int len), .val (.ref b1), .unset] [(.int (((q2.toUInt64 >>> ((8 : Int32) &&& 0x3f).toInt64.toUInt64).toInt64).toInt32)), (.int (6 : Int32)), (.ref b1)])) (fun _ k => XS.l2i X19.here hx rfl (hb hby at_86) rfl k) ?_
  refine Go.step (T' := T19) (f' := (mkF m 88 #[.val (.int p1), .val (.long q2), .second, .val (.int p3), .val (.int p4), .val (.int cnt), .val (.int len), .val (.ref b1), .unset] [(.int ((((q2.toUInt64 >>> ((8 : Int32) &&& 0x3f).toInt64.toUInt64).toInt64).toInt32).toInt8.toInt32)), (.int (6 : Int32)), (.ref b1)])) (fun _ k => XS.i2b X19.here hx rfl (hb hby at_87) rfl k) ?_
  obtain ⟨cl21, Ar21, qc21, Sz21, Nn21, Hs21, Gf21⟩ := id Va19
  have hin22 : ¬ ((6 : Int32) < 0 ∨ cl21.slots.size ≤ ((6 : Int32)).toNatClampNeg) := (inb_of Sz21 (by constructor <;> simp only [Int32.lt_iff_toInt_lt, Int32.reduceToInt] <;> omega))
  obtain ⟨T22, h22, X22, e22, W22, st22⟩ := stB X19 hx hZ e19 Ar21 (j := (6 : Int32)) hin22 (g := (mkF m 88 #[.val (.int p1), .val (.long q2), .second, .val (.int p3), .val (.int p4), .val (.int cnt), .val (.int len), .val (.ref b1), .unset] [(.int ((((q2.toUInt64 >>> ((8 : Int32) &&& 0x3f).toInt64.toUInt64).toInt64).toInt32).toInt8.toInt32)), (.int (6 : Int32)), (.ref b1)])) rfl rfl (hb hby at_88)
  have N22 := Fr.snoc X22 N19 g_b1
  have Z23 : n0 ≤ h22.size := Nat.le_trans Z20 (Keep.of_wr W22).1
  have hk := Nat.le_trans hk (Keep.of_wr W22).1
  rw [own_nb] at W22
  have Va22 : Arh Z h22 b1 k1 .byte len [((6 : Int32), (.int ((((q2.toUInt64 >>> ((8 : Int32) &&& 0x3f).toInt64.toUInt64).toInt64).toInt32).toInt8.toInt32))), ((5 : Int32), (.int ((((q2.toUInt64 >>> ((16 : Int32) &&& 0x3f).toInt64.toUInt64).toInt64).toInt32).toInt8.toInt32))), ((4 : Int32), (.int ((((q2.toUInt64 >>> ((24 : Int32) &&& 0x3f).toInt64.toUInt64).toInt64).toInt32).toInt8.toInt32))), ((3 : Int32), (.int ((((q2.toUInt64 >>> ((32 : Int32) &&& 0x3f).toInt64.toUInt64).toInt64).toInt32).toInt8.toInt32))), ((2 : Int32), (.int ((((q2.toUInt64 >>> ((40 : Int32) &&& 0x3f).toInt64.toUInt64).toInt64).toInt32).toInt8.toInt32))), ((1 : Int32), (.int (cnt.toInt8.toInt32))), ((0 : Int32), (.int (1 : Int32)))] [] (.int (0 : Int32)) := Arh.push Ar21 qc21 Sz21 Nn21 Hs21 Gf21 (fits_nar_byte _) W22 hin22
  refine Go.step (T' := T22) (f' := (mkF m 89 #[.val (.int p1), .val (.long q2), .second, .val (.int p3), .val (.int p4), .val (.int cnt), .val (.int len), .val (.ref b1), .unset] [])) st22 ?_
  refine Go.step (T' := T22) (f' := (mkF m 91 #[.val (.int p1), .val (.long q2), .second, .val (.int p3), .val (.int p4), .val (.int cnt), .val (.int len), .val (.ref b1), .unset] [(.ref b1)])) (fun _ k => XS.aload X22.here hx rfl (hb hby at_89) rfl rfl k) ?_
  refine Go.step (T' := T22) (f' := (mkF m 93 #[.val (.int p1), .val (.long q2), .second, .val (.int p3), .val (.int p4), .val (.int cnt), .val (.int len), .val (.ref b1), .unset] [(.int (7 : Int32)), (.ref b1)])) (fun _ k => XS.bipush X22.here hx rfl (hb hby at_91) k) ?_
  refine Go.step (T' := T22) (f' := (mkF m 94 #[.val (.int p1), .val (.long q2), .second, .val (.int p3), .val (.int p4), .val (.int cnt), .val (.int len), .val (.ref b1), .unset] [(.long q2), (.int (7 : Int32)), (.ref b1)])) (fun _ k => XS.lloadN X22.here hx rfl (hb hby at_93) rfl k) ?_
  refine Go.step (T' := T22) (f' := (mkF m 95 #[.val (.int p1), .val (.long q2), .second, .val (.int p3), .val (.int p4), .val (.int cnt), .val (.int len), .val (.ref b1), .unset] [(.int (q2.toInt32)), (.int (7 : Int32)), (.ref b1)])) (fun _ k => XS.l2i X22.here hx rfl (hb hby at_94) rfl k) ?_
  refine Go.step (T' := T22) (f' := (mkF m 96 #[.val (.int p1), .val (.long q2), .second, .val (.int p3), .val (.int p4), .val (.int cnt), .val (.int len), .val (.ref b1), .unset] [(.int ((q2.toInt32).toInt8.toInt32)), (.int (7 : Int32)), (.ref b1)])) (fun _ k => XS.i2b X22.here hx rfl (hb hby at_95) rfl k) ?_
  obtain ⟨cl24, Ar24, qc24, Sz24, Nn24, Hs24, Gf24⟩ := id Va22
  have hin25 : ¬ ((7 : Int32) < 0 ∨ cl24.slots.size ≤ ((7 : Int32)).toNatClampNeg) := (inb_of Sz24 (by constructor <;> simp only [Int32.lt_iff_toInt_lt, Int32.reduceToInt] <;> omega))
  obtain ⟨T25, h25, X25, e25, W25, st25⟩ := stB X22 hx hZ e22 Ar24 (j := (7 : Int32)) hin25 (g := (mkF m 96 #[.val (.int p1), .val (.long q2), .second, .val (.int p3), .val (.int p4), .val (.int cnt), .val (.int len), .val (.ref b1), .unset] [(.int ((q2.toInt32).toInt8.toInt32)), (.int (7 : Int32)), (.ref b1)])) rfl rfl (hb hby at_96)
  have N25 := Fr.snoc X25 N22 g_b1
  have Z26 : n0 ≤ h25.size := Nat.le_trans Z23 (Keep.of_wr W25).1
  have hk := Nat.le_trans hk (Keep.of_wr W25).1
  rw [own_nb] at W25
  have Va25 : Arh Z h25 b1 k1 .byte len [((7 : Int32), (.int ((q2.toInt32).toInt8.toInt32))), ((6 : Int32), (.int ((((q2.toUInt64 >>> ((8 : Int32) &&& 0x3f).toInt64.toUInt64).toInt64).toInt32).toInt8.toInt32))), ((5 : Int32), (.int ((((q2.toUInt64 >>> ((16 : Int32) &&& 0x3f).toInt64.toUInt64).toInt64).toInt32).toInt8.toInt32))), ((4 : Int32), (.int ((((q2.toUInt64 >>> ((24 : Int32) &&& 0x3f).toInt64.toUInt64).toInt64).toInt32).toInt8.toInt32))), ((3 : Int32), (.int ((((q2.toUInt64 >>> ((32 : Int32) &&& 0x3f).toInt64.toUInt64).toInt64).toInt32).toInt8.toInt32))), ((2 : Int32), (.int ((((q2.toUInt64 >>> ((40 : Int32) &&& 0x3f).toInt64.toUInt64).toInt64).toInt32).toInt8.toInt32))), ((1 : Int32), (.int (cnt.toInt8.toInt32))), ((0 : Int32), (.int (1 : Int32)))] [] (.int (0 : Int32)) := Arh.push Ar24 qc24 Sz24 Nn24 Hs24 Gf24 (fits_nar_byte _) W25 hin25
  refine Go.step (T' := T25) (f' := (mkF m 97 #[.val (.int p1), .val (.long q2), .second, .val (.int p3), .val (.int p4), .val (.int cnt), .val (.int len), .val (.ref b1), .unset] [])) st25 ?_
  refine Go.step (T' := T25) (f' := (mkF m 99 #[.val (.int p1), .val (.long q2), .second, .val (.int p3), .val (.int p4), .val (.int cnt), .val (.int len), .val (.ref b1), .unset] [(.ref b1)])) (fun _ k => XS.aload X25.here hx rfl (hb hby at_97) rfl rfl k) ?_
  refine Go.step (T' := T25) (f' := (mkF m 101 #[.val (.int p1), .val (.long q2), .second, .val (.int p3), .val (.int p4), .val (.int cnt), .val (.int len), .val (.ref b1), .unset] [(.int (8 : Int32)), (.ref b1)])) (fun _ k => XS.bipush X25.here hx rfl (hb hby at_99) k) ?_
  refine Go.step (T' := T25) (f' := (mkF m 102 #[.val (.int p1), .val (.long q2), .second, .val (.int p3), .val (.int p4), .val (.int cnt), .val (.int len), .val (.ref b1), .unset] [(.int p3), (.int (8 : Int32)), (.ref b1)])) (fun _ k => XS.iloadN X25.here hx rfl (hb hby at_101) rfl k) ?_
  refine Go.step (T' := T25) (f' := (mkF m 103 #[.val (.int p1), .val (.long q2), .second, .val (.int p3), .val (.int p4), .val (.int cnt), .val (.int len), .val (.ref b1), .unset] [(.int (p3.toInt8.toInt32)), (.int (8 : Int32)), (.ref b1)])) (fun _ k => XS.i2b X25.here hx rfl (hb hby at_102) rfl k) ?_
  obtain ⟨cl27, Ar27, qc27, Sz27, Nn27, Hs27, Gf27⟩ := id Va25
  have hin28 : ¬ ((8 : Int32) < 0 ∨ cl27.slots.size ≤ ((8 : Int32)).toNatClampNeg) := (inb_of Sz27 (by constructor <;> simp only [Int32.lt_iff_toInt_lt, Int32.reduceToInt] <;> omega))
  obtain ⟨T28, h28, X28, e28, W28, st28⟩ := stB X25 hx hZ e25 Ar27 (j := (8 : Int32)) hin28 (g := (mkF m 103 #[.val (.int p1), .val (.long q2), .second, .val (.int p3), .val (.int p4), .val (.int cnt), .val (.int len), .val (.ref b1), .unset] [(.int (p3.toInt8.toInt32)), (.int (8 : Int32)), (.ref b1)])) rfl rfl (hb hby at_103)
  have N28 := Fr.snoc X28 N25 g_b1
  have Z29 : n0 ≤ h28.size := Nat.le_trans Z26 (Keep.of_wr W28).1
  have hk := Nat.le_trans hk (Keep.of_wr W28).1
  rw [own_nb] at W28
  have Va28 : Arh Z h28 b1 k1 .byte len [((8 : Int32), (.int (p3.toInt8.toInt32))), ((7 : Int32), (.int ((q2.toInt32).toInt8.toInt32))), ((6 : Int32), (.int ((((q2.toUInt64 >>> ((8 : Int32) &&& 0x3f).toInt64.toUInt64).toInt64).toInt32).toInt8.toInt32))), ((5 : Int32), (.int ((((q2.toUInt64 >>> ((16 : Int32) &&& 0x3f).toInt64.toUInt64).toInt64).toInt32).toInt8.toInt32))), ((4 : Int32), (.int ((((q2.toUInt64 >>> ((24 : Int32) &&& 0x3f).toInt64.toUInt64).toInt64).toInt32).toInt8.toInt32))), ((3 : Int32), (.int ((((q2.toUInt64 >>> ((32 : Int32) &&& 0x3f).toInt64.toUInt64).toInt64).toInt32).toInt8.toInt32))), ((2 : Int32), (.int ((((q2.toUInt64 >>> ((40 : Int32) &&& 0x3f).toInt64.toUInt64).toInt64).toInt32).toInt8.toInt32))), ((1 : Int32), (.int (cnt.toInt8.toInt32))), ((0 : Int32), (.int (1 : Int32)))] [] (.int (0 : Int32)) := Arh.push Ar27 qc27 Sz27 Nn27 Hs27 Gf27 (fits_nar_byte _) W28 hin28
  refine Go.step (T' := T28) (f' := (mkF m 104 #[.val (.int p1), .val (.long q2), .second, .val (.int p3), .val (.int p4), .val (.int cnt), .val (.int len), .val (.ref b1), .unset] [])) st28 ?_
  refine Go.step (T' := T28) (f' := (mkF m 106 #[.val (.int p1), .val (.long q2), .second, .val (.int p3), .val (.int p4), .val (.int cnt), .val (.int len), .val (.ref b1), .unset] [(.ref b1)])) (fun _ k => XS.aload X28.here hx rfl (hb hby at_104) rfl rfl k) ?_
  refine Go.step (T' := T28) (f' := (mkF m 108 #[.val (.int p1), .val (.long q2), .second, .val (.int p3), .val (.int p4), .val (.int cnt), .val (.int len), .val (.ref b1), .unset] [(.int (9 : Int32)), (.ref b1)])) (fun _ k => XS.bipush X28.here hx rfl (hb hby at_106) k) ?_
  refine Go.step (T' := T28) (f' := (mkF m 109 #[.val (.int p1), .val (.long q2), .second, .val (.int p3), .val (.int p4), .val (.int cnt), .val (.int len), .val (.ref b1), .unset] [(.int p3), (.int (9 : Int32)), (.ref b1)])) (fun _ k => XS.iloadN X28.here hx rfl (hb hby at_108) rfl k) ?_
  refine Go.step (T' := T28) (f' := (mkF m 111 #[.val (.int p1), .val (.long q2), .second, .val (.int p3), .val (.int p4), .val (.int cnt), .val (.int len), .val (.ref b1), .unset] [(.int (8 : Int32)), (.int p3), (.int (9 : Int32)), (.ref b1)])) (fun _ k => XS.bipush X28.here hx rfl (hb hby at_109) k) ?_
  refine Go.step (T' := T28) (f' := (mkF m 112 #[.val (.int p1), .val (.long q2), .second, .val (.int p3), .val (.int p4), .val (.int cnt), .val (.int len), .val (.ref b1), .unset] [(.int ((p3.toUInt32 >>> ((8 : Int32) &&& 31).toUInt32).toInt32)), (.int (9 : Int32)), (.ref b1)])) (fun _ k => XS.iushr X28.here hx rfl (hb hby at_111) rfl k) ?_
  refine Go.step (T' := T28) (f' := (mkF m 113 #[.val (.int p1), .val (.long q2), .second, .val (.int p3), .val (.int p4), .val (.int cnt), .val (.int len), .val (.ref b1), .unset] [(.int (((p3.toUInt32 >>> ((8 : Int32) &&& 31).toUInt32).toInt32).toInt8.toInt32)), (.int (9 : Int32)), (.ref b1)])) (fun _ k => XS.i2b X28.here hx rfl (hb hby at_112) rfl k) ?_
  obtain ⟨cl30, Ar30, qc30, Sz30, Nn30, Hs30, Gf30⟩ := id Va28
  have hin31 : ¬ ((9 : Int32) < 0 ∨ cl30.slots.size ≤ ((9 : Int32)).toNatClampNeg) := (inb_of Sz30 (by constructor <;> simp only [Int32.lt_iff_toInt_lt, Int32.reduceToInt] <;> omega))
  obtain ⟨T31, h31, X31, e31, W31, st31⟩ := stB X28 hx hZ e28 Ar30 (j := (9 : Int32)) hin31 (g := (mkF m 113 #[.val (.int p1), .val (.long q2), .second, .val (.int p3), .val (.int p4), .val (.int cnt), .val (.int len), .val (.ref b1), .unset] [(.int (((p3.toUInt32 >>> ((8 : Int32) &&& 31).toUInt32).toInt32).toInt8.toInt32)), (.int (9 : Int32)), (.ref b1)])) rfl rfl (hb hby at_113)
  have N31 := Fr.snoc X31 N28 g_b1
  have Z32 : n0 ≤ h31.size := Nat.le_trans Z29 (Keep.of_wr W31).1
  have hk := Nat.le_trans hk (Keep.of_wr W31).1
  rw [own_nb] at W31
  have Va31 : Arh Z h31 b1 k1 .byte len [((9 : Int32), (.int (((p3.toUInt32 >>> ((8 : Int32) &&& 31).toUInt32).toInt32).toInt8.toInt32))), ((8 : Int32), (.int (p3.toInt8.toInt32))), ((7 : Int32), (.int ((q2.toInt32).toInt8.toInt32))), ((6 : Int32), (.int ((((q2.toUInt64 >>> ((8 : Int32) &&& 0x3f).toInt64.toUInt64).toInt64).toInt32).toInt8.toInt32))), ((5 : Int32), (.int ((((q2.toUInt64 >>> ((16 : Int32) &&& 0x3f).toInt64.toUInt64).toInt64).toInt32).toInt8.toInt32))), ((4 : Int32), (.int ((((q2.toUInt64 >>> ((24 : Int32) &&& 0x3f).toInt64.toUInt64).toInt64).toInt32).toInt8.toInt32))), ((3 : Int32), (.int ((((q2.toUInt64 >>> ((32 : Int32) &&& 0x3f).toInt64.toUInt64).toInt64).toInt32).toInt8.toInt32))), ((2 : Int32), (.int ((((q2.toUInt64 >>> ((40 : Int32) &&& 0x3f).toInt64.toUInt64).toInt64).toInt32).toInt8.toInt32))), ((1 : Int32), (.int (cnt.toInt8.toInt32))), ((0 : Int32), (.int (1 : Int32)))] [] (.int (0 : Int32)) := Arh.push Ar30 qc30 Sz30 Nn30 Hs30 Gf30 (fits_nar_byte _) W31 hin31
  refine Go.step (T' := T31) (f' := (mkF m 114 #[.val (.int p1), .val (.long q2), .second, .val (.int p3), .val (.int p4), .val (.int cnt), .val (.int len), .val (.ref b1), .unset] [])) st31 ?_
  refine Go.step (T' := T31) (f' := (mkF m 116 #[.val (.int p1), .val (.long q2), .second, .val (.int p3), .val (.int p4), .val (.int cnt), .val (.int len), .val (.ref b1), .unset] [(.ref b1)])) (fun _ k => XS.aload X31.here hx rfl (hb hby at_114) rfl rfl k) ?_
  refine Go.step (T' := T31) (f' := (mkF m 118 #[.val (.int p1), .val (.long q2), .second, .val (.int p3), .val (.int p4), .val (.int cnt), .val (.int len), .val (.ref b1), .unset] [(.int (10 : Int32)), (.ref b1)])) (fun _ k => XS.bipush X31.here hx rfl (hb hby at_116) k) ?_
  refine Go.step (T' := T31) (f' := (mkF m 119 #[.val (.int p1), .val (.long q2), .second, .val (.int p3), .val (.int p4), .val (.int cnt), .val (.int len), .val (.ref b1), .unset] [(.int p3), (.int (10 : Int32)), (.ref b1)])) (fun _ k => XS.iloadN X31.here hx rfl (hb hby at_118) rfl k) ?_
  refine Go.step (T' := T31) (f' := (mkF m 121 #[.val (.int p1), .val (.long q2), .second, .val (.int p3), .val (.int p4), .val (.int cnt), .val (.int len), .val (.ref b1), .unset] [(.int (16 : Int32)), (.int p3), (.int (10 : Int32)), (.ref b1)])) (fun _ k => XS.bipush X31.here hx rfl (hb hby at_119) k) ?_
  refine Go.step (T' := T31) (f' := (mkF m 122 #[.val (.int p1), .val (.long q2), .second, .val (.int p3), .val (.int p4), .val (.int cnt), .val (.int len), .val (.ref b1), .unset] [(.int ((p3.toUInt32 >>> ((16 : Int32) &&& 31).toUInt32).toInt32)), (.int (10 : Int32)), (.ref b1)])) (fun _ k => XS.iushr X31.here hx rfl (hb hby at_121) rfl k) ?_
  refine Go.step (T' := T31) (f' := (mkF m 123 #[.val (.int p1), .val (.long q2), .second, .val (.int p3), .val (.int p4), .val (.int cnt), .val (.int len), .val (.ref b1), .unset] [(.int (((p3.toUInt32 >>> ((16 : Int32) &&& 31).toUInt32).toInt32).toInt8.toInt32)), (.int (10 : Int32)), (.ref b1)])) (fun _ k => XS.i2b X31.here hx rfl (hb hby at_122) rfl k) ?_
  obtain ⟨cl33, Ar33, qc33, Sz33, Nn33, Hs33, Gf33⟩ := id Va31
  have hin34 : ¬ ((10 : Int32) < 0 ∨ cl33.slots.size ≤ ((10 : Int32)).toNatClampNeg) := (inb_of Sz33 (by constructor <;> simp only [Int32.lt_iff_toInt_lt, Int32.reduceToInt] <;> omega))
  obtain ⟨T34, h34, X34, e34, W34, st34⟩ := stB X31 hx hZ e31 Ar33 (j := (10 : Int32)) hin34 (g := (mkF m 123 #[.val (.int p1), .val (.long q2), .second, .val (.int p3), .val (.int p4), .val (.int cnt), .val (.int len), .val (.ref b1), .unset] [(.int (((p3.toUInt32 >>> ((16 : Int32) &&& 31).toUInt32).toInt32).toInt8.toInt32)), (.int (10 : Int32)), (.ref b1)])) rfl rfl (hb hby at_123)
  have N34 := Fr.snoc X34 N31 g_b1
  have Z35 : n0 ≤ h34.size := Nat.le_trans Z32 (Keep.of_wr W34).1
  have hk := Nat.le_trans hk (Keep.of_wr W34).1
  rw [own_nb] at W34
  have Va34 : Arh Z h34 b1 k1 .byte len [((10 : Int32), (.int (((p3.toUInt32 >>> ((16 : Int32) &&& 31).toUInt32).toInt32).toInt8.toInt32))), ((9 : Int32), (.int (((p3.toUInt32 >>> ((8 : Int32) &&& 31).toUInt32).toInt32).toInt8.toInt32))), ((8 : Int32), (.int (p3.toInt8.toInt32))), ((7 : Int32), (.int ((q2.toInt32).toInt8.toInt32))), ((6 : Int32), (.int ((((q2.toUInt64 >>> ((8 : Int32) &&& 0x3f).toInt64.toUInt64).toInt64).toInt32).toInt8.toInt32))), ((5 : Int32), (.int ((((q2.toUInt64 >>> ((16 : Int32) &&& 0x3f).toInt64.toUInt64).toInt64).toInt32).toInt8.toInt32))), ((4 : Int32), (.int ((((q2.toUInt64 >>> ((24 : Int32) &&& 0x3f).toInt64.toUInt64).toInt64).toInt32).toInt8.toInt32))), ((3 : Int32), (.int ((((q2.toUInt64 >>> ((32 : Int32) &&& 0x3f).toInt64.toUInt64).toInt64).toInt32).toInt8.toInt32))), ((2 : Int32), (.int ((((q2.toUInt64 >>> ((40 : Int32) &&& 0x3f).toInt64.toUInt64).toInt64).toInt32).toInt8.toInt32))), ((1 : Int32), (.int (cnt.toInt8.toInt32))), ((0 : Int32), (.int (1 : Int32)))] [] (.int (0 : Int32)) := Arh.push Ar33 qc33 Sz33 Nn33 Hs33 Gf33 (fits_nar_byte _) W34 hin34
  refine Go.step (T' := T34) (f' := (mkF m 124 #[.val (.int p1), .val (.long q2), .second, .val (.int p3), .val (.int p4), .val (.int cnt), .val (.int len), .val (.ref b1), .unset] [])) st34 ?_
  refine Go.step (T' := T34) (f' := (mkF m 126 #[.val (.int p1), .val (.long q2), .second, .val (.int p3), .val (.int p4), .val (.int cnt), .val (.int len), .val (.ref b1), .unset] [(.ref b1)])) (fun _ k => XS.aload X34.here hx rfl (hb hby at_124) rfl rfl k) ?_
  refine Go.step (T' := T34) (f' := (mkF m 128 #[.val (.int p1), .val (.long q2), .second, .val (.int p3), .val (.int p4), .val (.int cnt), .val (.int len), .val (.ref b1), .unset] [(.int (11 : Int32)), (.ref b1)])) (fun _ k => XS.bipush X34.here hx rfl (hb hby at_126) k) ?_
  refine Go.step (T' := T34) (f' := (mkF m 129 #[.val (.int p1), .val (.long q2), .second, .val (.int p3), .val (.int p4), .val (.int cnt), .val (.int len), .val (.ref b1), .unset] [(.int p3), (.int (11 : Int32)), (.ref b1)])) (fun _ k => XS.iloadN X34.here hx rfl (hb hby at_128) rfl k) ?_
  refine Go.step (T' := T34) (f' := (mkF m 131 #[.val (.int p1), .val (.long q2), .second, .val (.int p3), .val (.int p4), .val (.int cnt), .val (.int len), .val (.ref b1), .unset] [(.int (24 : Int32)), (.int p3), (.int (11 : Int32)), (.ref b1)])) (fun _ k => XS.bipush X34.here hx rfl (hb hby at_129) k) ?_
  refine Go.step (T' := T34) (f' := (mkF m 132 #[.val (.int p1), .val (.long q2), .second, .val (.int p3), .val (.int p4), .val (.int cnt), .val (.int len), .val (.ref b1), .unset] [(.int ((p3.toUInt32 >>> ((24 : Int32) &&& 31).toUInt32).toInt32)), (.int (11 : Int32)), (.ref b1)])) (fun _ k => XS.iushr X34.here hx rfl (hb hby at_131) rfl k) ?_
  refine Go.step (T' := T34) (f' := (mkF m 133 #[.val (.int p1), .val (.long q2), .second, .val (.int p3), .val (.int p4), .val (.int cnt), .val (.int len), .val (.ref b1), .unset] [(.int (((p3.toUInt32 >>> ((24 : Int32) &&& 31).toUInt32).toInt32).toInt8.toInt32)), (.int (11 : Int32)), (.ref b1)])) (fun _ k => XS.i2b X34.here hx rfl (hb hby at_132) rfl k) ?_
  obtain ⟨cl36, Ar36, qc36, Sz36, Nn36, Hs36, Gf36⟩ := id Va34
  have hin37 : ¬ ((11 : Int32) < 0 ∨ cl36.slots.size ≤ ((11 : Int32)).toNatClampNeg) := (inb_of Sz36 (by constructor <;> simp only [Int32.lt_iff_toInt_lt, Int32.reduceToInt] <;> omega))
  obtain ⟨T37, h37, X37, e37, W37, st37⟩ := stB X34 hx hZ e34 Ar36 (j := (11 : Int32)) hin37 (g := (mkF m 133 #[.val (.int p1), .val (.long q2), .second, .val (.int p3), .val (.int p4), .val (.int cnt), .val (.int len), .val (.ref b1), .unset] [(.int (((p3.toUInt32 >>> ((24 : Int32) &&& 31).toUInt32).toInt32).toInt8.toInt32)), (.int (11 : Int32)), (.ref b1)])) rfl rfl (hb hby at_133)
  have N37 := Fr.snoc X37 N34 g_b1
  have Z38 : n0 ≤ h37.size := Nat.le_trans Z35 (Keep.of_wr W37).1
  have hk := Nat.le_trans hk (Keep.of_wr W37).1
  rw [own_nb] at W37
  have Va37 : Arh Z h37 b1 k1 .byte len [((11 : Int32), (.int (((p3.toUInt32 >>> ((24 : Int32) &&& 31).toUInt32).toInt32).toInt8.toInt32))), ((10 : Int32), (.int (((p3.toUInt32 >>> ((16 : Int32) &&& 31).toUInt32).toInt32).toInt8.toInt32))), ((9 : Int32), (.int (((p3.toUInt32 >>> ((8 : Int32) &&& 31).toUInt32).toInt32).toInt8.toInt32))), ((8 : Int32), (.int (p3.toInt8.toInt32))), ((7 : Int32), (.int ((q2.toInt32).toInt8.toInt32))), ((6 : Int32), (.int ((((q2.toUInt64 >>> ((8 : Int32) &&& 0x3f).toInt64.toUInt64).toInt64).toInt32).toInt8.toInt32))), ((5 : Int32), (.int ((((q2.toUInt64 >>> ((16 : Int32) &&& 0x3f).toInt64.toUInt64).toInt64).toInt32).toInt8.toInt32))), ((4 : Int32), (.int ((((q2.toUInt64 >>> ((24 : Int32) &&& 0x3f).toInt64.toUInt64).toInt64).toInt32).toInt8.toInt32))), ((3 : Int32), (.int ((((q2.toUInt64 >>> ((32 : Int32) &&& 0x3f).toInt64.toUInt64).toInt64).toInt32).toInt8.toInt32))), ((2 : Int32), (.int ((((q2.toUInt64 >>> ((40 : Int32) &&& 0x3f).toInt64.toUInt64).toInt64).toInt32).toInt8.toInt32))), ((1 : Int32), (.int (cnt.toInt8.toInt32))), ((0 : Int32), (.int (1 : Int32)))] [] (.int (0 : Int32)) := Arh.push Ar36 qc36 Sz36 Nn36 Hs36 Gf36 (fits_nar_byte _) W37 hin37
  refine Go.step (T' := T37) (f' := (mkF m 134 #[.val (.int p1), .val (.long q2), .second, .val (.int p3), .val (.int p4), .val (.int cnt), .val (.int len), .val (.ref b1), .unset] [])) st37 ?_
  refine Go.step (T' := T37) (f' := (mkF m 136 #[.val (.int p1), .val (.long q2), .second, .val (.int p3), .val (.int p4), .val (.int cnt), .val (.int len), .val (.ref b1), .unset] [(.ref b1)])) (fun _ k => XS.aload X37.here hx rfl (hb hby at_134) rfl rfl k) ?_
  refine Go.step (T' := T37) (f' := (mkF m 138 #[.val (.int p1), .val (.long q2), .second, .val (.int p3), .val (.int p4), .val (.int cnt), .val (.int len), .val (.ref b1), .unset] [(.int len), (.ref b1)])) (fun _ k => XS.iload X37.here hx rfl (hb hby at_136) rfl k) ?_
  refine Go.step (T' := T37) (f' := (mkF m 139 #[.val (.int p1), .val (.long q2), .second, .val (.int p3), .val (.int p4), .val (.int cnt), .val (.int len), .val (.ref b1), .unset] [(.int (4 : Int32)), (.int len), (.ref b1)])) (fun _ k => XS.iconst X37.here hx rfl (hb hby at_138) k) ?_
  refine Go.step (T' := T37) (f' := (mkF m 140 #[.val (.int p1), .val (.long q2), .second, .val (.int p3), .val (.int p4), .val (.int cnt), .val (.int len), .val (.ref b1), .unset] [(.int (len - (4 : Int32))), (.ref b1)])) (fun _ k => XS.isub X37.here hx rfl (hb hby at_139) rfl k) ?_
  refine Go.step (T' := T37) (f' := (mkF m 142 #[.val (.int p1), .val (.long q2), .second, .val (.int p3), .val (.int p4), .val (.int cnt), .val (.int len), .val (.ref b1), .unset] [(.int p4), (.int (len - (4 : Int32))), (.ref b1)])) (fun _ k => XS.iload X37.here hx rfl (hb hby at_140) rfl k) ?_
  refine Go.step (T' := T37) (f' := (mkF m 144 #[.val (.int p1), .val (.long q2), .second, .val (.int p3), .val (.int p4), .val (.int cnt), .val (.int len), .val (.ref b1), .unset] [(.int (24 : Int32)), (.int p4), (.int (len - (4 : Int32))), (.ref b1)])) (fun _ k => XS.bipush X37.here hx rfl (hb hby at_142) k) ?_
  refine Go.step (T' := T37) (f' := (mkF m 145 #[.val (.int p1), .val (.long q2), .second, .val (.int p3), .val (.int p4), .val (.int cnt), .val (.int len), .val (.ref b1), .unset] [(.int ((p4.toUInt32 >>> ((24 : Int32) &&& 31).toUInt32).toInt32)), (.int (len - (4 : Int32))), (.ref b1)])) (fun _ k => XS.iushr X37.here hx rfl (hb hby at_144) rfl k) ?_
  refine Go.step (T' := T37) (f' := (mkF m 146 #[.val (.int p1), .val (.long q2), .second, .val (.int p3), .val (.int p4), .val (.int cnt), .val (.int len), .val (.ref b1), .unset] [(.int (((p4.toUInt32 >>> ((24 : Int32) &&& 31).toUInt32).toInt32).toInt8.toInt32)), (.int (len - (4 : Int32))), (.ref b1)])) (fun _ k => XS.i2b X37.here hx rfl (hb hby at_145) rfl k) ?_
  obtain ⟨cl39, Ar39, qc39, Sz39, Nn39, Hs39, Gf39⟩ := id Va37
  have hin40 : ¬ ((len - (4 : Int32)) < 0 ∨ cl39.slots.size ≤ ((len - (4 : Int32))).toNatClampNeg) := (inb_of Sz39 (by constructor <;> simp only [Int32.lt_iff_toInt_lt, Int32.reduceToInt] <;> omega))
  obtain ⟨T40, h40, X40, e40, W40, st40⟩ := stB X37 hx hZ e37 Ar39 (j := (len - (4 : Int32))) hin40 (g := (mkF m 146 #[.val (.int p1), .val (.long q2), .second, .val (.int p3), .val (.int p4), .val (.int cnt), .val (.int len), .val (.ref b1), .unset] [(.int (((p4.toUInt32 >>> ((24 : Int32) &&& 31).toUInt32).toInt32).toInt8.toInt32)), (.int (len - (4 : Int32))), (.ref b1)])) rfl rfl (hb hby at_146)
  have N40 := Fr.snoc X40 N37 g_b1
  have Z41 : n0 ≤ h40.size := Nat.le_trans Z38 (Keep.of_wr W40).1
  have hk := Nat.le_trans hk (Keep.of_wr W40).1
  rw [own_nb] at W40
  have Va40 : Arh Z h40 b1 k1 .byte len [((len - (4 : Int32)), (.int (((p4.toUInt32 >>> ((24 : Int32) &&& 31).toUInt32).toInt32).toInt8.toInt32))), ((11 : Int32), (.int (((p3.toUInt32 >>> ((24 : Int32) &&& 31).toUInt32).toInt32).toInt8.toInt32))), ((10 : Int32), (.int (((p3.toUInt32 >>> ((16 : Int32) &&& 31).toUInt32).toInt32).toInt8.toInt32))), ((9 : Int32), (.int (((p3.toUInt32 >>> ((8 : Int32) &&& 31).toUInt32).toInt32).toInt8.toInt32))), ((8 : Int32), (.int (p3.toInt8.toInt32))), ((7 : Int32), (.int ((q2.toInt32).toInt8.toInt32))), ((6 : Int32), (.int ((((q2.toUInt64 >>> ((8 : Int32) &&& 0x3f).toInt64.toUInt64).toInt64).toInt32).toInt8.toInt32))), ((5 : Int32), (.int ((((q2.toUInt64 >>> ((16 : Int32) &&& 0x3f).toInt64.toUInt64).toInt64).toInt32).toInt8.toInt32))), ((4 : Int32), (.int ((((q2.toUInt64 >>> ((24 : Int32) &&& 0x3f).toInt64.toUInt64).toInt64).toInt32).toInt8.toInt32))), ((3 : Int32), (.int ((((q2.toUInt64 >>> ((32 : Int32) &&& 0x3f).toInt64.toUInt64).toInt64).toInt32).toInt8.toInt32))), ((2 : Int32), (.int ((((q2.toUInt64 >>> ((40 : Int32) &&& 0x3f).toInt64.toUInt64).toInt64).toInt32).toInt8.toInt32))), ((1 : Int32), (.int (cnt.toInt8.toInt32))), ((0 : Int32), (.int (1 : Int32)))] [] (.int (0 : Int32)) := Arh.push Ar39 qc39 Sz39 Nn39 Hs39 Gf39 (fits_nar_byte _) W40 hin40
  refine Go.step (T' := T40) (f' := (mkF m 147 #[.val (.int p1), .val (.long q2), .second, .val (.int p3), .val (.int p4), .val (.int cnt), .val (.int len), .val (.ref b1), .unset] [])) st40 ?_
  refine Go.step (T' := T40) (f' := (mkF m 149 #[.val (.int p1), .val (.long q2), .second, .val (.int p3), .val (.int p4), .val (.int cnt), .val (.int len), .val (.ref b1), .unset] [(.ref b1)])) (fun _ k => XS.aload X40.here hx rfl (hb hby at_147) rfl rfl k) ?_
  refine Go.step (T' := T40) (f' := (mkF m 151 #[.val (.int p1), .val (.long q2), .second, .val (.int p3), .val (.int p4), .val (.int cnt), .val (.int len), .val (.ref b1), .unset] [(.int len), (.ref b1)])) (fun _ k => XS.iload X40.here hx rfl (hb hby at_149) rfl k) ?_
  refine Go.step (T' := T40) (f' := (mkF m 152 #[.val (.int p1), .val (.long q2), .second, .val (.int p3), .val (.int p4), .val (.int cnt), .val (.int len), .val (.ref b1), .unset] [(.int (3 : Int32)), (.int len), (.ref b1)])) (fun _ k => XS.iconst X40.here hx rfl (hb hby at_151) k) ?_
  refine Go.step (T' := T40) (f' := (mkF m 153 #[.val (.int p1), .val (.long q2), .second, .val (.int p3), .val (.int p4), .val (.int cnt), .val (.int len), .val (.ref b1), .unset] [(.int (len - (3 : Int32))), (.ref b1)])) (fun _ k => XS.isub X40.here hx rfl (hb hby at_152) rfl k) ?_
  refine Go.step (T' := T40) (f' := (mkF m 155 #[.val (.int p1), .val (.long q2), .second, .val (.int p3), .val (.int p4), .val (.int cnt), .val (.int len), .val (.ref b1), .unset] [(.int p4), (.int (len - (3 : Int32))), (.ref b1)])) (fun _ k => XS.iload X40.here hx rfl (hb hby at_153) rfl k) ?_
  refine Go.step (T' := T40) (f' := (mkF m 157 #[.val (.int p1), .val (.long q2), .second, .val (.int p3), .val (.int p4), .val (.int cnt), .val (.int len), .val (.ref b1), .unset] [(.int (16 : Int32)), (.int p4), (.int (len - (3 : Int32))), (.ref b1)])) (fun _ k => XS.bipush X40.here hx rfl (hb hby at_155) k) ?_
  refine Go.step (T' := T40) (f' := (mkF m 158 #[.val (.int p1), .val (.long q2), .second, .val (.int p3), .val (.int p4), .val (.int cnt), .val (.int len), .val (.ref b1), .unset] [(.int ((p4.toUInt32 >>> ((16 : Int32) &&& 31).toUInt32).toInt32)), (.int (len - (3 : Int32))), (.ref b1)])) (fun _ k => XS.iushr X40.here hx rfl (hb hby at_157) rfl k) ?_
  refine Go.step (T' := T40) (f' := (mkF m 159 #[.val (.int p1), .val (.long q2), .second, .val (.int p3), .val (.int p4), .val (.int cnt), .val (.int len), .val (.ref b1), .unset] [(.int (((p4.toUInt32 >>> ((16 : Int32) &&& 31).toUInt32).toInt32).toInt8.toInt32)), (.int (len - (3 : Int32))), (.ref b1)])) (fun _ k => XS.i2b X40.here hx rfl (hb hby at_158) rfl k) ?_
  obtain ⟨cl42, Ar42, qc42, Sz42, Nn42, Hs42, Gf42⟩ := id Va40
  have hin43 : ¬ ((len - (3 : Int32)) < 0 ∨ cl42.slots.size ≤ ((len - (3 : Int32))).toNatClampNeg) := (inb_of Sz42 (by constructor <;> simp only [Int32.lt_iff_toInt_lt, Int32.reduceToInt] <;> omega))
  obtain ⟨T43, h43, X43, e43, W43, st43⟩ := stB X40 hx hZ e40 Ar42 (j := (len - (3 : Int32))) hin43 (g := (mkF m 159 #[.val (.int p1), .val (.long q2), .second, .val (.int p3), .val (.int p4), .val (.int cnt), .val (.int len), .val (.ref b1), .unset] [(.int (((p4.toUInt32 >>> ((16 : Int32) &&& 31).toUInt32).toInt32).toInt8.toInt32)), (.int (len - (3 : Int32))), (.ref b1)])) rfl rfl (hb hby at_159)
  have N43 := Fr.snoc X43 N40 g_b1
  have Z44 : n0 ≤ h43.size := Nat.le_trans Z41 (Keep.of_wr W43).1
  have hk := Nat.le_trans hk (Keep.of_wr W43).1
  rw [own_nb] at W43
  have Va43 : Arh Z h43 b1 k1 .byte len [((len - (3 : Int32)), (.int (((p4.toUInt32 >>> ((16 : Int32) &&& 31).toUInt32).toInt32).toInt8.toInt32))), ((len - (4 : Int32)), (.int (((p4.toUInt32 >>> ((24 : Int32) &&& 31).toUInt32).toInt32).toInt8.toInt32))), ((11 : Int32), (.int (((p3.toUInt32 >>> ((24 : Int32) &&& 31).toUInt32).toInt32).toInt8.toInt32))), ((10 : Int32), (.int (((p3.toUInt32 >>> ((16 : Int32) &&& 31).toUInt32).toInt32).toInt8.toInt32))), ((9 : Int32), (.int (((p3.toUInt32 >>> ((8 : Int32) &&& 31).toUInt32).toInt32).toInt8.toInt32))), ((8 : Int32), (.int (p3.toInt8.toInt32))), ((7 : Int32), (.int ((q2.toInt32).toInt8.toInt32))), ((6 : Int32), (.int ((((q2.toUInt64 >>> ((8 : Int32) &&& 0x3f).toInt64.toUInt64).toInt64).toInt32).toInt8.toInt32))), ((5 : Int32), (.int ((((q2.toUInt64 >>> ((16 : Int32) &&& 0x3f).toInt64.toUInt64).toInt64).toInt32).toInt8.toInt32))), ((4 : Int32), (.int ((((q2.toUInt64 >>> ((24 : Int32) &&& 0x3f).toInt64.toUInt64).toInt64).toInt32).toInt8.toInt32))), ((3 : Int32), (.int ((((q2.toUInt64 >>> ((32 : Int32) &&& 0x3f).toInt64.toUInt64).toInt64).toInt32).toInt8.toInt32))), ((2 : Int32), (.int ((((q2.toUInt64 >>> ((40 : Int32) &&& 0x3f).toInt64.toUInt64).toInt64).toInt32).toInt8.toInt32))), ((1 : Int32), (.int (cnt.toInt8.toInt32))), ((0 : Int32), (.int (1 : Int32)))] [] (.int (0 : Int32)) := Arh.push Ar42 qc42 Sz42 Nn42 Hs42 Gf42 (fits_nar_byte _) W43 hin43
  refine Go.step (T' := T43) (f' := (mkF m 160 #[.val (.int p1), .val (.long q2), .second, .val (.int p3), .val (.int p4), .val (.int cnt), .val (.int len), .val (.ref b1), .unset] [])) st43 ?_
  refine Go.step (T' := T43) (f' := (mkF m 162 #[.val (.int p1), .val (.long q2), .second, .val (.int p3), .val (.int p4), .val (.int cnt), .val (.int len), .val (.ref b1), .unset] [(.ref b1)])) (fun _ k => XS.aload X43.here hx rfl (hb hby at_160) rfl rfl k) ?_
  refine Go.step (T' := T43) (f' := (mkF m 164 #[.val (.int p1), .val (.long q2), .second, .val (.int p3), .val (.int p4), .val (.int cnt), .val (.int len), .val (.ref b1), .unset] [(.int len), (.ref b1)])) (fun _ k => XS.iload X43.here hx rfl (hb hby at_162) rfl k) ?_
  refine Go.step (T' := T43) (f' := (mkF m 165 #[.val (.int p1), .val (.long q2), .second, .val (.int p3), .val (.int p4), .val (.int cnt), .val (.int len), .val (.ref b1), .unset] [(.int (2 : Int32)), (.int len), (.ref b1)])) (fun _ k => XS.iconst X43.here hx rfl (hb hby at_164) k) ?_
  refine Go.step (T' := T43) (f' := (mkF m 166 #[.val (.int p1), .val (.long q2), .second, .val (.int p3), .val (.int p4), .val (.int cnt), .val (.int len), .val (.ref b1), .unset] [(.int (len - (2 : Int32))), (.ref b1)])) (fun _ k => XS.isub X43.here hx rfl (hb hby at_165) rfl k) ?_
  refine Go.step (T' := T43) (f' := (mkF m 168 #[.val (.int p1), .val (.long q2), .second, .val (.int p3), .val (.int p4), .val (.int cnt), .val (.int len), .val (.ref b1), .unset] [(.int p4), (.int (len - (2 : Int32))), (.ref b1)])) (fun _ k => XS.iload X43.here hx rfl (hb hby at_166) rfl k) ?_
  refine Go.step (T' := T43) (f' := (mkF m 170 #[.val (.int p1), .val (.long q2), .second, .val (.int p3), .val (.int p4), .val (.int cnt), .val (.int len), .val (.ref b1), .unset] [(.int (8 : Int32)), (.int p4), (.int (len - (2 : Int32))), (.ref b1)])) (fun _ k => XS.bipush X43.here hx rfl (hb hby at_168) k) ?_
  refine Go.step (T' := T43) (f' := (mkF m 171 #[.val (.int p1), .val (.long q2), .second, .val (.int p3), .val (.int p4), .val (.int cnt), .val (.int len), .val (.ref b1), .unset] [(.int ((p4.toUInt32 >>> ((8 : Int32) &&& 31).toUInt32).toInt32)), (.int (len - (2 : Int32))), (.ref b1)])) (fun _ k => XS.iushr X43.here hx rfl (hb hby at_170) rfl k) ?_
  refine Go.step (T' := T43) (f' := (mkF m 172 #[.val (.int p1), .val (.long q2), .second, .val (.int p3), .val (.int p4), .val (.int cnt), .val (.int len), .val (.ref b1), .unset] [(.int (((p4.toUInt32 >>> ((8 : Int32) &&& 31).toUInt32).toInt32).toInt8.toInt32)), (.int (len - (2 : Int32))), (.ref b1)])) (fun _ k => XS.i2b X43.here hx rfl (hb hby at_171) rfl k) ?_
  obtain ⟨cl45, Ar45, qc45, Sz45, Nn45, Hs45, Gf45⟩ := id Va43
  have hin46 : ¬ ((len - (2 : Int32)) < 0 ∨ cl45.slots.size ≤ ((len - (2 : Int32))).toNatClampNeg) := (inb_of Sz45 (by constructor <;> simp only [Int32.lt_iff_toInt_lt, Int32.reduceToInt] <;> omega))
  obtain ⟨T46, h46, X46, e46, W46, st46⟩ := stB X43 hx hZ e43 Ar45 (j := (len - (2 : Int32))) hin46 (g := (mkF m 172 #[.val (.int p1), .val (.long q2), .second, .val (.int p3), .val (.int p4), .val (.int cnt), .val (.int len), .val (.ref b1), .unset] [(.int (((p4.toUInt32 >>> ((8 : Int32) &&& 31).toUInt32).toInt32).toInt8.toInt32)), (.int (len - (2 : Int32))), (.ref b1)])) rfl rfl (hb hby at_172)
  have N46 := Fr.snoc X46 N43 g_b1
  have Z47 : n0 ≤ h46.size := Nat.le_trans Z44 (Keep.of_wr W46).1
  have hk := Nat.le_trans hk (Keep.of_wr W46).1
  rw [own_nb] at W46
  have Va46 : Arh Z h46 b1 k1 .byte len [((len - (2 : Int32)), (.int (((p4.toUInt32 >>> ((8 : Int32) &&& 31).toUInt32).toInt32).toInt8.toInt32))), ((len - (3 : Int32)), (.int (((p4.toUInt32 >>> ((16 : Int32) &&& 31).toUInt32).toInt32).toInt8.toInt32))), ((len - (4 : Int32)), (.int (((p4.toUInt32 >>> ((24 : Int32) &&& 31).toUInt32).toInt32).toInt8.toInt32))), ((11 : Int32), (.int (((p3.toUInt32 >>> ((24 : Int32) &&& 31).toUInt32).toInt32).toInt8.toInt32))), ((10 : Int32), (.int (((p3.toUInt32 >>> ((16 : Int32) &&& 31).toUInt32).toInt32).toInt8.toInt32))), ((9 : Int32), (.int (((p3.toUInt32 >>> ((8 : Int32) &&& 31).toUInt32).toInt32).toInt8.toInt32))), ((8 : Int32), (.int (p3.toInt8.toInt32))), ((7 : Int32), (.int ((q2.toInt32).toInt8.toInt32))), ((6 : Int32), (.int ((((q2.toUInt64 >>> ((8 : Int32) &&& 0x3f).toInt64.toUInt64).toInt64).toInt32).toInt8.toInt32))), ((5 : Int32), (.int ((((q2.toUInt64 >>> ((16 : Int32) &&& 0x3f).toInt64.toUInt64).toInt64).toInt32).toInt8.toInt32))), ((4 : Int32), (.int ((((q2.toUInt64 >>> ((24 : Int32) &&& 0x3f).toInt64.toUInt64).toInt64).toInt32).toInt8.toInt32))), ((3 : Int32), (.int ((((q2.toUInt64 >>> ((32 : Int32) &&& 0x3f).toInt64.toUInt64).toInt64).toInt32).toInt8.toInt32))), ((2 : Int32), (.int ((((q2.toUInt64 >>> ((40 : Int32) &&& 0x3f).toInt64.toUInt64).toInt64).toInt32).toInt8.toInt32))), ((1 : Int32), (.int (cnt.toInt8.toInt32))), ((0 : Int32), (.int (1 : Int32)))] [] (.int (0 : Int32)) := Arh.push Ar45 qc45 Sz45 Nn45 Hs45 Gf45 (fits_nar_byte _) W46 hin46
  refine Go.step (T' := T46) (f' := (mkF m 173 #[.val (.int p1), .val (.long q2), .second, .val (.int p3), .val (.int p4), .val (.int cnt), .val (.int len), .val (.ref b1), .unset] [])) st46 ?_
  refine Go.step (T' := T46) (f' := (mkF m 175 #[.val (.int p1), .val (.long q2), .second, .val (.int p3), .val (.int p4), .val (.int cnt), .val (.int len), .val (.ref b1), .unset] [(.ref b1)])) (fun _ k => XS.aload X46.here hx rfl (hb hby at_173) rfl rfl k) ?_
  refine Go.step (T' := T46) (f' := (mkF m 177 #[.val (.int p1), .val (.long q2), .second, .val (.int p3), .val (.int p4), .val (.int cnt), .val (.int len), .val (.ref b1), .unset] [(.int len), (.ref b1)])) (fun _ k => XS.iload X46.here hx rfl (hb hby at_175) rfl k) ?_
  refine Go.step (T' := T46) (f' := (mkF m 178 #[.val (.int p1), .val (.long q2), .second, .val (.int p3), .val (.int p4), .val (.int cnt), .val (.int len), .val (.ref b1), .unset] [(.int (1 : Int32)), (.int len), (.ref b1)])) (fun _ k => XS.iconst X46.here hx rfl (hb hby at_177) k) ?_
  refine Go.step (T' := T46) (f' := (mkF m 179 #[.val (.int p1), .val (.long q2), .second, .val (.int p3), .val (.int p4), .val (.int cnt), .val (.int len), .val (.ref b1), .unset] [(.int (len - (1 : Int32))), (.ref b1)])) (fun _ k => XS.isub X46.here hx rfl (hb hby at_178) rfl k) ?_
  refine Go.step (T' := T46) (f' := (mkF m 181 #[.val (.int p1), .val (.long q2), .second, .val (.int p3), .val (.int p4), .val (.int cnt), .val (.int len), .val (.ref b1), .unset] [(.int p4), (.int (len - (1 : Int32))), (.ref b1)])) (fun _ k => XS.iload X46.here hx rfl (hb hby at_179) rfl k) ?_
  refine Go.step (T' := T46) (f' := (mkF m 182 #[.val (.int p1), .val (.long q2), .second, .val (.int p3), .val (.int p4), .val (.int cnt), .val (.int len), .val (.ref b1), .unset] [(.int (p4.toInt8.toInt32)), (.int (len - (1 : Int32))), (.ref b1)])) (fun _ k => XS.i2b X46.here hx rfl (hb hby at_181) rfl k) ?_
  obtain ⟨cl48, Ar48, qc48, Sz48, Nn48, Hs48, Gf48⟩ := id Va46
  have hin49 : ¬ ((len - (1 : Int32)) < 0 ∨ cl48.slots.size ≤ ((len - (1 : Int32))).toNatClampNeg) := (inb_of Sz48 (by constructor <;> simp only [Int32.lt_iff_toInt_lt, Int32.reduceToInt] <;> omega))
  obtain ⟨T49, h49, X49, e49, W49, st49⟩ := stB X46 hx hZ e46 Ar48 (j := (len - (1 : Int32))) hin49 (g := (mkF m 182 #[.val (.int p1), .val (.long q2), .second, .val (.int p3), .val (.int p4), .val (.int cnt), .val (.int len), .val (.ref b1), .unset] [(.int (p4.toInt8.toInt32)), (.int (len - (1 : Int32))), (.ref b1)])) rfl rfl (hb hby at_182)
  have N49 := Fr.snoc X49 N46 g_b1
  have Z50 : n0 ≤ h49.size := Nat.le_trans Z47 (Keep.of_wr W49).1
  have hk := Nat.le_trans hk (Keep.of_wr W49).1
  rw [own_nb] at W49
  have Va49 : Arh Z h49 b1 k1 .byte len [((len - (1 : Int32)), (.int (p4.toInt8.toInt32))), ((len - (2 : Int32)), (.int (((p4.toUInt32 >>> ((8 : Int32) &&& 31).toUInt32).toInt32).toInt8.toInt32))), ((len - (3 : Int32)), (.int (((p4.toUInt32 >>> ((16 : Int32) &&& 31).toUInt32).toInt32).toInt8.toInt32))), ((len - (4 : Int32)), (.int (((p4.toUInt32 >>> ((24 : Int32) &&& 31).toUInt32).toInt32).toInt8.toInt32))), ((11 : Int32), (.int (((p3.toUInt32 >>> ((24 : Int32) &&& 31).toUInt32).toInt32).toInt8.toInt32))), ((10 : Int32), (.int (((p3.toUInt32 >>> ((16 : Int32) &&& 31).toUInt32).toInt32).toInt8.toInt32))), ((9 : Int32), (.int (((p3.toUInt32 >>> ((8 : Int32) &&& 31).toUInt32).toInt32).toInt8.toInt32))), ((8 : Int32), (.int (p3.toInt8.toInt32))), ((7 : Int32), (.int ((q2.toInt32).toInt8.toInt32))), ((6 : Int32), (.int ((((q2.toUInt64 >>> ((8 : Int32) &&& 0x3f).toInt64.toUInt64).toInt64).toInt32).toInt8.toInt32))), ((5 : Int32), (.int ((((q2.toUInt64 >>> ((16 : Int32) &&& 0x3f).toInt64.toUInt64).toInt64).toInt32).toInt8.toInt32))), ((4 : Int32), (.int ((((q2.toUInt64 >>> ((24 : Int32) &&& 0x3f).toInt64.toUInt64).toInt64).toInt32).toInt8.toInt32))), ((3 : Int32), (.int ((((q2.toUInt64 >>> ((32 : Int32) &&& 0x3f).toInt64.toUInt64).toInt64).toInt32).toInt8.toInt32))), ((2 : Int32), (.int ((((q2.toUInt64 >>> ((40 : Int32) &&& 0x3f).toInt64.toUInt64).toInt64).toInt32).toInt8.toInt32))), ((1 : Int32), (.int (cnt.toInt8.toInt32))), ((0 : Int32), (.int (1 : Int32)))] [] (.int (0 : Int32)) := Arh.push Ar48 qc48 Sz48 Nn48 Hs48 Gf48 (fits_nar_byte _) W49 hin49
  refine Go.step (T' := T49) (f' := (mkF m 183 #[.val (.int p1), .val (.long q2), .second, .val (.int p3), .val (.int p4), .val (.int cnt), .val (.int len), .val (.ref b1), .unset] [])) st49 ?_
  refine Go.step (T' := T49) (f' := (mkF m 185 #[.val (.int p1), .val (.long q2), .second, .val (.int p3), .val (.int p4), .val (.int cnt), .val (.int len), .val (.ref b1), .unset] [(.ref b1)])) (fun _ k => XS.aload X49.here hx rfl (hb hby at_183) rfl rfl k) ?_
  obtain ⟨_, _, ⟨T51, L51, k51, n51⟩, -, X51, hS51, hG51, ⟨Lc51, hQ51, l51, y51, z51⟩, st51⟩ := callSS X49 hx (y := (⟨"com/example/strict_sid/strictsid/packet/PacketForm", "check", "([B)I"⟩ : MethodName)) hown (mvT hZ (hw _ (List.mem_of_getElem? (i := 2) rfl))) (mvT hZ (hw _ (List.mem_of_getElem? (i := 3) rfl))) (mvT hZ (hw _ (List.mem_of_getElem? (i := 4) rfl))) (mvT hZ (hw _ (List.mem_of_getElem? (i := 5) rfl))) (by decide) (backOfS (W := 0) (rm1 l Z a0 hw [] b1 k1 len [((len - (1 : Int32)), (.int (p4.toInt8.toInt32))), ((len - (2 : Int32)), (.int (((p4.toUInt32 >>> ((8 : Int32) &&& 31).toUInt32).toInt32).toInt8.toInt32))), ((len - (3 : Int32)), (.int (((p4.toUInt32 >>> ((16 : Int32) &&& 31).toUInt32).toInt32).toInt8.toInt32))), ((len - (4 : Int32)), (.int (((p4.toUInt32 >>> ((24 : Int32) &&& 31).toUInt32).toInt32).toInt8.toInt32))), ((11 : Int32), (.int (((p3.toUInt32 >>> ((24 : Int32) &&& 31).toUInt32).toInt32).toInt8.toInt32))), ((10 : Int32), (.int (((p3.toUInt32 >>> ((16 : Int32) &&& 31).toUInt32).toInt32).toInt8.toInt32))), ((9 : Int32), (.int (((p3.toUInt32 >>> ((8 : Int32) &&& 31).toUInt32).toInt32).toInt8.toInt32))), ((8 : Int32), (.int (p3.toInt8.toInt32))), ((7 : Int32), (.int ((q2.toInt32).toInt8.toInt32))), ((6 : Int32), (.int ((((q2.toUInt64 >>> ((8 : Int32) &&& 0x3f).toInt64.toUInt64).toInt64).toInt32).toInt8.toInt32))), ((5 : Int32), (.int ((((q2.toUInt64 >>> ((16 : Int32) &&& 0x3f).toInt64.toUInt64).toInt64).toInt32).toInt8.toInt32))), ((4 : Int32), (.int ((((q2.toUInt64 >>> ((24 : Int32) &&& 0x3f).toInt64.toUInt64).toInt64).toInt32).toInt8.toInt32))), ((3 : Int32), (.int ((((q2.toUInt64 >>> ((32 : Int32) &&& 0x3f).toInt64.toUInt64).toInt64).toInt32).toInt8.toInt32))), ((2 : Int32), (.int ((((q2.toUInt64 >>> ((40 : Int32) &&& 0x3f).toInt64.toUInt64).toInt64).toInt32).toInt8.toInt32))), ((1 : Int32), (.int (cnt.toInt8.toInt32))), ((0 : Int32), (.int (1 : Int32)))] (cnt.toInt8.toInt32) cnt h49 n0 Z50 Va49 hca hcb (own_255 hca hcb) e_len hl (getH_miss (by decide) (by simp only [← Int32.toInt_inj, Int32.reduceToInt]; omega) (getH_miss (by decide) (by simp only [← Int32.toInt_inj, Int32.reduceToInt]; omega) (getH_miss (by decide) (by simp only [← Int32.toInt_inj, Int32.reduceToInt]; omega) (getH_miss (by decide) (by simp only [← Int32.toInt_inj, Int32.reduceToInt]; omega) (getH_miss (by decide) (by decide) (getH_miss (by decide) (by decide) (getH_miss (by decide) (by decide) (getH_miss (by decide) (by decide) (getH_miss (by decide) (by decide) (getH_miss (by decide) (by decide) (getH_miss (by decide) (by decide) (getH_miss (by decide) (by decide) (getH_miss (by decide) (by decide) (getH_miss (by decide) (by decide) (getH_miss (by decide) (by decide) (getH_hit (by decide) rfl)))))))))))))))) (getH_miss (by decide) (by simp only [← Int32.toInt_inj, Int32.reduceToInt]; omega) (getH_miss (by decide) (by simp only [← Int32.toInt_inj, Int32.reduceToInt]; omega) (getH_miss (by decide) (by simp only [← Int32.toInt_inj, Int32.reduceToInt]; omega) (getH_miss (by decide) (by simp only [← Int32.toInt_inj, Int32.reduceToInt]; omega) (getH_miss (by decide) (by decide) (getH_miss (by decide) (by decide) (getH_miss (by decide) (by decide) (getH_miss (by decide) (by decide) (getH_miss (by decide) (by decide) (getH_miss (by decide) (by decide) (getH_miss (by decide) (by decide) (getH_miss (by decide) (by decide) (getH_miss (by decide) (by decide) (getH_miss (by decide) (by decide) (getH_hit (by decide) rfl)))))))))))))))) hZ (hw _ (List.mem_of_getElem? (i := 5) rfl)) (hw _ (List.mem_of_getElem? (i := 4) rfl)) (by decide) (by decide)) (g := (mkF m 185 #[.val (.int p1), .val (.long q2), .second, .val (.int p3), .val (.int p4), .val (.int cnt), .val (.int len), .val (.ref b1), .unset] [(.ref b1)])) rfl (by rw [hml]; rfl) (argsL := [(.ref b1)]) (rest := []) (lenOf pd_2 rfl) rfl (by show 2 * 0 + _ ≤ _; exact Nat.le_of_eq rfl) (hb hby at_185) (fun _ _ => ⟨rfl, e49, (by decide : 1 + 2 ≤ _), (by decide : 68 + 24 ≤ _)⟩)
  dsimp only [Pt.U, Pt.locs, Pt.cells, Pt.slots] at X51 l51 y51 z51 st51 hQ51 hS51 hG51
  subst l51 y51 z51
  rw [e49] at hG51
  obtain ⟨X51, hS, hZ, hown⟩ := rebS hS hk X51 hS51 hG51 hZ hown
  have hk := Nat.le_refl T51.heap.size
  obtain ⟨rfl, Nq51, Kq51⟩ := hQ51
  have N51 := Fr.app N49 Nq51
  have Z52 : n0 ≤ T51.heap.size := Nat.le_trans Z50 Kq51.1
  refine Go.step (T' := T51) (f' := (mkF m 188 #[.val (.int p1), .val (.long q2), .second, .val (.int p3), .val (.int p4), .val (.int cnt), .val (.int len), .val (.ref b1), .unset] [(.int cnt)])) (fun _ k => st51.trans k) ?_
  refine Go.step (T' := T51) (f' := (mkF m 190 #[.val (.int p1), .val (.long q2), .second, .val (.int p3), .val (.int p4), .val (.int cnt), .val (.int len), .val (.ref b1), .val (.int cnt)] [])) (fun _ k => XS.istore X51.here hx rfl (hb hby at_188) rfl (l' := #[.val (.int p1), .val (.long q2), .second, .val (.int p3), .val (.int p4), .val (.int cnt), .val (.int len), .val (.ref b1), .val (.int cnt)]) rfl k) ?_
  refine Go.step (T' := T51) (f' := (mkF m 192 #[.val (.int p1), .val (.long q2), .second, .val (.int p3), .val (.int p4), .val (.int cnt), .val (.int len), .val (.ref b1), .val (.int cnt)] [(.int cnt)])) (fun _ k => XS.iload X51.here hx rfl (hb hby at_190) rfl k) ?_
  refine Go.step (T' := T51) (f' := (mkF m 194 #[.val (.int p1), .val (.long q2), .second, .val (.int p3), .val (.int p4), .val (.int cnt), .val (.int len), .val (.ref b1), .val (.int cnt)] [(.int cnt), (.int cnt)])) (fun _ k => XS.iload X51.here hx rfl (hb hby at_192) rfl k) ?_
  refine Go.step (T' := T51) (f' := (mkF m 197 #[.val (.int p1), .val (.long q2), .second, .val (.int p3), .val (.int p4), .val (.int cnt), .val (.int len), .val (.ref b1), .val (.int cnt)] [])) (fun _ k => XS.icmpNo X51.here hx rfl (hb hby at_194) rfl (teq (rfl : cnt = cnt)).2 k) ?_
  refine Go.step (T' := T51) (f' := (mkF m 199 #[.val (.int p1), .val (.long q2), .second, .val (.int p3), .val (.int p4), .val (.int cnt), .val (.int len), .val (.ref b1), .val (.int cnt)] [(.ref b1)])) (fun _ k => XS.aload X51.here hx rfl (hb hby at_197) rfl rfl k) ?_
  have q53 : Arh Z T51.heap b1 k1 .byte len [((len - (1 : Int32)), (.int (p4.toInt8.toInt32))), ((len - (2 : Int32)), (.int (((p4.toUInt32 >>> ((8 : Int32) &&& 31).toUInt32).toInt32).toInt8.toInt32))), ((len - (3 : Int32)), (.int (((p4.toUInt32 >>> ((16 : Int32) &&& 31).toUInt32).toInt32).toInt8.toInt32))), ((len - (4 : Int32)), (.int (((p4.toUInt32 >>> ((24 : Int32) &&& 31).toUInt32).toInt32).toInt8.toInt32))), ((11 : Int32), (.int (((p3.toUInt32 >>> ((24 : Int32) &&& 31).toUInt32).toInt32).toInt8.toInt32))), ((10 : Int32), (.int (((p3.toUInt32 >>> ((16 : Int32) &&& 31).toUInt32).toInt32).toInt8.toInt32))), ((9 : Int32), (.int (((p3.toUInt32 >>> ((8 : Int32) &&& 31).toUInt32).toInt32).toInt8.toInt32))), ((8 : Int32), (.int (p3.toInt8.toInt32))), ((7 : Int32), (.int ((q2.toInt32).toInt8.toInt32))), ((6 : Int32), (.int ((((q2.toUInt64 >>> ((8 : Int32) &&& 0x3f).toInt64.toUInt64).toInt64).toInt32).toInt8.toInt32))), ((5 : Int32), (.int ((((q2.toUInt64 >>> ((16 : Int32) &&& 0x3f).toInt64.toUInt64).toInt64).toInt32).toInt8.toInt32))), ((4 : Int32), (.int ((((q2.toUInt64 >>> ((24 : Int32) &&& 0x3f).toInt64.toUInt64).toInt64).toInt32).toInt8.toInt32))), ((3 : Int32), (.int ((((q2.toUInt64 >>> ((32 : Int32) &&& 0x3f).toInt64.toUInt64).toInt64).toInt32).toInt8.toInt32))), ((2 : Int32), (.int ((((q2.toUInt64 >>> ((40 : Int32) &&& 0x3f).toInt64.toUInt64).toInt64).toInt32).toInt8.toInt32))), ((1 : Int32), (.int (cnt.toInt8.toInt32))), ((0 : Int32), (.int (1 : Int32)))] [] (.int (0 : Int32)) := (Va49.keep Kq51 nin0)
  obtain ⟨cl54, Ar54, qc54, Sz54, Nn54, Hs54, Gf54⟩ := id q53
  have hl54 := X51.arraylength hx Ar54.1 (State.isArrayOf_alike hZ.alike Ar54.2.1) (g := (mkF m 199 #[.val (.int p1), .val (.long q2), .second, .val (.int p3), .val (.int p4), .val (.int cnt), .val (.int len), .val (.ref b1), .val (.int cnt)] [(.ref b1)])) rfl rfl (hb hby at_199)
  rw [len_of Sz54 Nn54] at hl54
  refine Go.step (T' := T51) (f' := (mkF m 200 #[.val (.int p1), .val (.long q2), .second, .val (.int p3), .val (.int p4), .val (.int cnt), .val (.int len), .val (.ref b1), .val (.int cnt)] [(.int len)])) (fun _ k => hl54 _ k) ?_
  refine Go.step (T' := T51) (f' := (mkF m 202 #[.val (.int p1), .val (.long q2), .second, .val (.int p3), .val (.int p4), .val (.int cnt), .val (.int len), .val (.ref b1), .val (.int cnt)] [(.int len), (.int len)])) (fun _ k => XS.iload X51.here hx rfl (hb hby at_200) rfl k) ?_
  refine Go.step (T' := T51) (f' := (mkF m 205 #[.val (.int p1), .val (.long q2), .second, .val (.int p3), .val (.int p4), .val (.int cnt), .val (.int len), .val (.ref b1), .val (.int cnt)] [])) (fun _ k => XS.icmpNo X51.here hx rfl (hb hby at_202) rfl (teq (rfl : len = len)).2 k) ?_
  refine Go.step (T' := T51) (f' := (mkF m 207 #[.val (.int p1), .val (.long q2), .second, .val (.int p3), .val (.int p4), .val (.int cnt), .val (.int len), .val (.ref b1), .val (.int cnt)] [(.ref b1)])) (fun _ k => XS.aload X51.here hx rfl (hb hby at_205) rfl rfl k) ?_
  refine Go.step (T' := T51) (f' := (mkF m 208 #[.val (.int p1), .val (.long q2), .second, .val (.int p3), .val (.int p4), .val (.int cnt), .val (.int len), .val (.ref b1), .val (.int cnt)] [(.int (0 : Int32)), (.ref b1)])) (fun _ k => XS.iconst X51.here hx rfl (hb hby at_207) k) ?_
  obtain ⟨cl55, Ar55, qc55, Sz55, Nn55, Hs55, Gf55⟩ := id q53
  have hin56 : ¬ ((0 : Int32) < 0 ∨ cl55.slots.size ≤ ((0 : Int32)).toNatClampNeg) := (inb_of Sz55 (by constructor <;> simp only [Int32.lt_iff_toInt_lt, Int32.reduceToInt] <;> omega))
  have hat56 : cl55.slots[((0 : Int32)).toNatClampNeg]? = some (.int (1 : Int32)) := atH Hs55 hin56 (getH_miss (by decide) (by simp only [← Int32.toInt_inj, Int32.reduceToInt]; omega) (getH_miss (by decide) (by simp only [← Int32.toInt_inj, Int32.reduceToInt]; omega) (getH_miss (by decide) (by simp only [← Int32.toInt_inj, Int32.reduceToInt]; omega) (getH_miss (by decide) (by simp only [← Int32.toInt_inj, Int32.reduceToInt]; omega) (getH_miss (by decide) (by decide) (getH_miss (by decide) (by decide) (getH_miss (by decide) (by decide) (getH_miss (by decide) (by decide) (getH_miss (by decide) (by decide) (getH_miss (by decide) (by decide) (getH_miss (by decide) (by decide) (getH_miss (by decide) (by decide) (getH_miss (by decide) (by decide) (getH_miss (by decide) (by decide) (getH_miss (by decide) (by decide) (getH_hit (by decide) rfl))))))))))))))))
  refine Go.step (T' := T51) (f' := (mkF m 209 #[.val (.int p1), .val (.long q2), .second, .val (.int p3), .val (.int p4), .val (.int cnt), .val (.int len), .val (.ref b1), .val (.int cnt)] [(.int (1 : Int32))])) (fun _ k => X51.baloadBytes hx (j := (0 : Int32)) (v := (.int (1 : Int32))) Ar55.1 (State.isArrayOf_alike hZ.alike Ar55.2.1) Ar55.2.2 hin56 hat56 (g := (mkF m 208 #[.val (.int p1), .val (.long q2), .second, .val (.int p3), .val (.int p4), .val (.int cnt), .val (.int len), .val (.ref b1), .val (.int cnt)] [(.int (0 : Int32)), (.ref b1)])) rfl rfl (hb hby at_208) _ k) ?_
  refine Go.step (T' := T51) (f' := (mkF m 210 #[.val (.int p1), .val (.long q2), .second, .val (.int p3), .val (.int p4), .val (.int cnt), .val (.int len), .val (.ref b1), .val (.int cnt)] [(.int (1 : Int32)), (.int (1 : Int32))])) (fun _ k => XS.iconst X51.here hx rfl (hb hby at_209) k) ?_
  refine Go.step (T' := T51) (f' := (mkF m 213 #[.val (.int p1), .val (.long q2), .second, .val (.int p3), .val (.int p4), .val (.int cnt), .val (.int len), .val (.ref b1), .val (.int cnt)] [])) (fun _ k => XS.icmpNo X51.here hx rfl (hb hby at_210) rfl (teq (by decide : (1 : Int32) = (1 : Int32))).2 k) ?_
  refine Go.step (T' := T51) (f' := (mkF m 215 #[.val (.int p1), .val (.long q2), .second, .val (.int p3), .val (.int p4), .val (.int cnt), .val (.int len), .val (.ref b1), .val (.int cnt)] [(.ref b1)])) (fun _ k => XS.aload X51.here hx rfl (hb hby at_213) rfl rfl k) ?_
  refine Go.step (T' := T51) (f' := (mkF m 216 #[.val (.int p1), .val (.long q2), .second, .val (.int p3), .val (.int p4), .val (.int cnt), .val (.int len), .val (.ref b1), .val (.int cnt)] [(.int (1 : Int32)), (.ref b1)])) (fun _ k => XS.iconst X51.here hx rfl (hb hby at_215) k) ?_
  obtain ⟨cl57, Ar57, qc57, Sz57, Nn57, Hs57, Gf57⟩ := id q53
  have hin58 : ¬ ((1 : Int32) < 0 ∨ cl57.slots.size ≤ ((1 : Int32)).toNatClampNeg) := (inb_of Sz57 (by constructor <;> simp only [Int32.lt_iff_toInt_lt, Int32.reduceToInt] <;> omega))
  have hat58 : cl57.slots[((1 : Int32)).toNatClampNeg]? = some (.int (cnt.toInt8.toInt32)) := atH Hs57 hin58 (getH_miss (by decide) (by simp only [← Int32.toInt_inj, Int32.reduceToInt]; omega) (getH_miss (by decide) (by simp only [← Int32.toInt_inj, Int32.reduceToInt]; omega) (getH_miss (by decide) (by simp only [← Int32.toInt_inj, Int32.reduceToInt]; omega) (getH_miss (by decide) (by simp only [← Int32.toInt_inj, Int32.reduceToInt]; omega) (getH_miss (by decide) (by decide) (getH_miss (by decide) (by decide) (getH_miss (by decide) (by decide) (getH_miss (by decide) (by decide) (getH_miss (by decide) (by decide) (getH_miss (by decide) (by decide) (getH_miss (by decide) (by decide) (getH_miss (by decide) (by decide) (getH_miss (by decide) (by decide) (getH_miss (by decide) (by decide) (getH_hit (by decide) rfl)))))))))))))))
  refine Go.step (T' := T51) (f' := (mkF m 217 #[.val (.int p1), .val (.long q2), .second, .val (.int p3), .val (.int p4), .val (.int cnt), .val (.int len), .val (.ref b1), .val (.int cnt)] [(.int (cnt.toInt8.toInt32))])) (fun _ k => X51.baloadBytes hx (j := (1 : Int32)) (v := (.int (cnt.toInt8.toInt32))) Ar57.1 (State.isArrayOf_alike hZ.alike Ar57.2.1) Ar57.2.2 hin58 hat58 (g := (mkF m 216 #[.val (.int p1), .val (.long q2), .second, .val (.int p3), .val (.int p4), .val (.int cnt), .val (.int len), .val (.ref b1), .val (.int cnt)] [(.int (1 : Int32)), (.ref b1)])) rfl rfl (hb hby at_216) _ k) ?_
  refine Go.step (T' := T51) (f' := (mkF m 219 #[.val (.int p1), .val (.long q2), .second, .val (.int p3), .val (.int p4), .val (.int cnt), .val (.int len), .val (.ref b1), .val (.int cnt)] [(.int cnt), (.int (cnt.toInt8.toInt32))])) (fun _ k => XS.iload X51.here hx rfl (hb hby at_217) rfl k) ?_
  refine Go.step (T' := T51) (f' := (mkF m 220 #[.val (.int p1), .val (.long q2), .second, .val (.int p3), .val (.int p4), .val (.int cnt), .val (.int len), .val (.ref b1), .val (.int cnt)] [(.int (cnt.toInt8.toInt32)), (.int (cnt.toInt8.toInt32))])) (fun _ k => XS.i2b X51.here hx rfl (hb hby at_219) rfl k) ?_
  refine Go.step (T' := T51) (f' := (mkF m 223 #[.val (.int p1), .val (.long q2), .second, .val (.int p3), .val (.int p4), .val (.int cnt), .val (.int len), .val (.ref b1), .val (.int cnt)] [])) (fun _ k => XS.icmpNo X51.here hx rfl (hb hby at_220) rfl (teq (rfl : (cnt.toInt8.toInt32) = (cnt.toInt8.toInt32))).2 k) ?_
  refine Go.step (T' := T51) (f' := (mkF m 225 #[.val (.int p1), .val (.long q2), .second, .val (.int p3), .val (.int p4), .val (.int cnt), .val (.int len), .val (.ref b1), .val (.int cnt)] [(.ref b1)])) (fun _ k => XS.aload X51.here hx rfl (hb hby at_223) rfl rfl k) ?_
  refine Go.step (T' := T51) (f' := (mkF m 226 #[.val (.int p1), .val (.long q2), .second, .val (.int p3), .val (.int p4), .val (.int cnt), .val (.int len), .val (.ref b1), .val (.int cnt)] [(.int (2 : Int32)), (.ref b1)])) (fun _ k => XS.iconst X51.here hx rfl (hb hby at_225) k) ?_
  obtain ⟨cl59, Ar59, qc59, Sz59, Nn59, Hs59, Gf59⟩ := id q53
  have hin60 : ¬ ((2 : Int32) < 0 ∨ cl59.slots.size ≤ ((2 : Int32)).toNatClampNeg) := (inb_of Sz59 (by constructor <;> simp only [Int32.lt_iff_toInt_lt, Int32.reduceToInt] <;> omega))
  have hat60 : cl59.slots[((2 : Int32)).toNatClampNeg]? = some (.int ((((q2.toUInt64 >>> ((40 : Int32) &&& 0x3f).toInt64.toUInt64).toInt64).toInt32).toInt8.toInt32)) := atH Hs59 hin60 (getH_miss (by decide) (by simp only [← Int32.toInt_inj, Int32.reduceToInt]; omega) (getH_miss (by decide) (by simp only [← Int32.toInt_inj, Int32.reduceToInt]; omega) (getH_miss (by decide) (by simp only [← Int32.toInt_inj, Int32.reduceToInt]; omega) (getH_miss (by decide) (by simp only [← Int32.toInt_inj, Int32.reduceToInt]; omega) (getH_miss (by decide) (by decide) (getH_miss (by decide) (by decide) (getH_miss (by decide) (by decide) (getH_miss (by decide) (by decide) (getH_miss (by decide) (by decide) (getH_miss (by decide) (by decide) (getH_miss (by decide) (by decide) (getH_miss (by decide) (by decide) (getH_miss (by decide) (by decide) (getH_hit (by decide) rfl))))))))))))))
  refine Go.step (T' := T51) (f' := (mkF m 227 #[.val (.int p1), .val (.long q2), .second, .val (.int p3), .val (.int p4), .val (.int cnt), .val (.int len), .val (.ref b1), .val (.int cnt)] [(.int ((((q2.toUInt64 >>> ((40 : Int32) &&& 0x3f).toInt64.toUInt64).toInt64).toInt32).toInt8.toInt32))])) (fun _ k => X51.baloadBytes hx (j := (2 : Int32)) (v := (.int ((((q2.toUInt64 >>> ((40 : Int32) &&& 0x3f).toInt64.toUInt64).toInt64).toInt32).toInt8.toInt32))) Ar59.1 (State.isArrayOf_alike hZ.alike Ar59.2.1) Ar59.2.2 hin60 hat60 (g := (mkF m 226 #[.val (.int p1), .val (.long q2), .second, .val (.int p3), .val (.int p4), .val (.int cnt), .val (.int len), .val (.ref b1), .val (.int cnt)] [(.int (2 : Int32)), (.ref b1)])) rfl rfl (hb hby at_226) _ k) ?_
  refine Go.step (T' := T51) (f' := (mkF m 228 #[.val (.int p1), .val (.long q2), .second, .val (.int p3), .val (.int p4), .val (.int cnt), .val (.int len), .val (.ref b1), .val (.int cnt)] [(.long q2), (.int ((((q2.toUInt64 >>> ((40 : Int32) &&& 0x3f).toInt64.toUInt64).toInt64).toInt32).toInt8.toInt32))])) (fun _ k => XS.lloadN X51.here hx rfl (hb hby at_227) rfl k) ?_
  refine Go.step (T' := T51) (f' := (mkF m 230 #[.val (.int p1), .val (.long q2), .second, .val (.int p3), .val (.int p4), .val (.int cnt), .val (.int len), .val (.ref b1), .val (.int cnt)] [(.int (40 : Int32)), (.long q2), (.int ((((q2.toUInt64 >>> ((40 : Int32) &&& 0x3f).toInt64.toUInt64).toInt64).toInt32).toInt8.toInt32))])) (fun _ k => XS.bipush X51.here hx rfl (hb hby at_228) k) ?_
  refine Go.step (T' := T51) (f' := (mkF m 231 #[.val (.int p1), .val (.long q2), .second, .val (.int p3), .val (.int p4), .val (.int cnt), .val (.int len), .val (.ref b1), .val (.int cnt)] [(.long ((q2.toUInt64 >>> ((40 : Int32) &&& 0x3f).toInt64.toUInt64).toInt64)), (.int ((((q2.toUInt64 >>> ((40 : Int32) &&& 0x3f).toInt64.toUInt64).toInt64).toInt32).toInt8.toInt32))])) (fun _ k => XS.lushr X51.here hx rfl (hb hby at_230) rfl k) ?_
  refine Go.step (T' := T51) (f' := (mkF m 232 #[.val (.int p1), .val (.long q2), .second, .val (.int p3), .val (.int p4), .val (.int cnt), .val (.int len), .val (.ref b1), .val (.int cnt)] [(.int (((q2.toUInt64 >>> ((40 : Int32) &&& 0x3f).toInt64.toUInt64).toInt64).toInt32)), (.int ((((q2.toUInt64 >>> ((40 : Int32) &&& 0x3f).toInt64.toUInt64).toInt64).toInt32).toInt8.toInt32))])) (fun _ k => XS.l2i X51.here hx rfl (hb hby at_231) rfl k) ?_
  refine Go.step (T' := T51) (f' := (mkF m 233 #[.val (.int p1), .val (.long q2), .second, .val (.int p3), .val (.int p4), .val (.int cnt), .val (.int len), .val (.ref b1), .val (.int cnt)] [(.int ((((q2.toUInt64 >>> ((40 : Int32) &&& 0x3f).toInt64.toUInt64).toInt64).toInt32).toInt8.toInt32)), (.int ((((q2.toUInt64 >>> ((40 : Int32) &&& 0x3f).toInt64.toUInt64).toInt64).toInt32).toInt8.toInt32))])) (fun _ k => XS.i2b X51.here hx rfl (hb hby at_232) rfl k) ?_
  refine Go.step (T' := T51) (f' := (mkF m 236 #[.val (.int p1), .val (.long q2), .second, .val (.int p3), .val (.int p4), .val (.int cnt), .val (.int len), .val (.ref b1), .val (.int cnt)] [])) (fun _ k => XS.icmpNo X51.here hx rfl (hb hby at_233) rfl (teq (rfl : ((((q2.toUInt64 >>> ((40 : Int32) &&& 0x3f).toInt64.toUInt64).toInt64).toInt32).toInt8.toInt32) = ((((q2.toUInt64 >>> ((40 : Int32) &&& 0x3f).toInt64.toUInt64).toInt64).toInt32).toInt8.toInt32))).2 k) ?_
  refine Go.step (T' := T51) (f' := (mkF m 238 #[.val (.int p1), .val (.long q2), .second, .val (.int p3), .val (.int p4), .val (.int cnt), .val (.int len), .val (.ref b1), .val (.int cnt)] [(.ref b1)])) (fun _ k => XS.aload X51.here hx rfl (hb hby at_236) rfl rfl k) ?_
  refine Go.step (T' := T51) (f' := (mkF m 240 #[.val (.int p1), .val (.long q2), .second, .val (.int p3), .val (.int p4), .val (.int cnt), .val (.int len), .val (.ref b1), .val (.int cnt)] [(.int (7 : Int32)), (.ref b1)])) (fun _ k => XS.bipush X51.here hx rfl (hb hby at_238) k) ?_
  obtain ⟨cl61, Ar61, qc61, Sz61, Nn61, Hs61, Gf61⟩ := id q53
  have hin62 : ¬ ((7 : Int32) < 0 ∨ cl61.slots.size ≤ ((7 : Int32)).toNatClampNeg) := (inb_of Sz61 (by constructor <;> simp only [Int32.lt_iff_toInt_lt, Int32.reduceToInt] <;> omega))
  have hat62 : cl61.slots[((7 : Int32)).toNatClampNeg]? = some (.int ((q2.toInt32).toInt8.toInt32)) := atH Hs61 hin62 (getH_miss (by decide) (by simp only [← Int32.toInt_inj, Int32.reduceToInt]; omega) (getH_miss (by decide) (by simp only [← Int32.toInt_inj, Int32.reduceToInt]; omega) (getH_miss (by decide) (by simp only [← Int32.toInt_inj, Int32.reduceToInt]; omega) (getH_miss (by decide) (by simp only [← Int32.toInt_inj, Int32.reduceToInt]; omega) (getH_miss (by decide) (by decide) (getH_miss (by decide) (by decide) (getH_miss (by decide) (by decide) (getH_miss (by decide) (by decide) (getH_hit (by decide) rfl)))))))))
  refine Go.step (T' := T51) (f' := (mkF m 241 #[.val (.int p1), .val (.long q2), .second, .val (.int p3), .val (.int p4), .val (.int cnt), .val (.int len), .val (.ref b1), .val (.int cnt)] [(.int ((q2.toInt32).toInt8.toInt32))])) (fun _ k => X51.baloadBytes hx (j := (7 : Int32)) (v := (.int ((q2.toInt32).toInt8.toInt32))) Ar61.1 (State.isArrayOf_alike hZ.alike Ar61.2.1) Ar61.2.2 hin62 hat62 (g := (mkF m 240 #[.val (.int p1), .val (.long q2), .second, .val (.int p3), .val (.int p4), .val (.int cnt), .val (.int len), .val (.ref b1), .val (.int cnt)] [(.int (7 : Int32)), (.ref b1)])) rfl rfl (hb hby at_240) _ k) ?_
  refine Go.step (T' := T51) (f' := (mkF m 242 #[.val (.int p1), .val (.long q2), .second, .val (.int p3), .val (.int p4), .val (.int cnt), .val (.int len), .val (.ref b1), .val (.int cnt)] [(.long q2), (.int ((q2.toInt32).toInt8.toInt32))])) (fun _ k => XS.lloadN X51.here hx rfl (hb hby at_241) rfl k) ?_
  refine Go.step (T' := T51) (f' := (mkF m 243 #[.val (.int p1), .val (.long q2), .second, .val (.int p3), .val (.int p4), .val (.int cnt), .val (.int len), .val (.ref b1), .val (.int cnt)] [(.int (q2.toInt32)), (.int ((q2.toInt32).toInt8.toInt32))])) (fun _ k => XS.l2i X51.here hx rfl (hb hby at_242) rfl k) ?_
  refine Go.step (T' := T51) (f' := (mkF m 244 #[.val (.int p1), .val (.long q2), .second, .val (.int p3), .val (.int p4), .val (.int cnt), .val (.int len), .val (.ref b1), .val (.int cnt)] [(.int ((q2.toInt32).toInt8.toInt32)), (.int ((q2.toInt32).toInt8.toInt32))])) (fun _ k => XS.i2b X51.here hx rfl (hb hby at_243) rfl k) ?_
  refine Go.step (T' := T51) (f' := (mkF m 247 #[.val (.int p1), .val (.long q2), .second, .val (.int p3), .val (.int p4), .val (.int cnt), .val (.int len), .val (.ref b1), .val (.int cnt)] [])) (fun _ k => XS.icmpNo X51.here hx rfl (hb hby at_244) rfl (teq (rfl : ((q2.toInt32).toInt8.toInt32) = ((q2.toInt32).toInt8.toInt32))).2 k) ?_
  refine Go.step (T' := T51) (f' := (mkF m 249 #[.val (.int p1), .val (.long q2), .second, .val (.int p3), .val (.int p4), .val (.int cnt), .val (.int len), .val (.ref b1), .val (.int cnt)] [(.ref b1)])) (fun _ k => XS.aload X51.here hx rfl (hb hby at_247) rfl rfl k) ?_
  refine Go.step (T' := T51) (f' := (mkF m 251 #[.val (.int p1), .val (.long q2), .second, .val (.int p3), .val (.int p4), .val (.int cnt), .val (.int len), .val (.ref b1), .val (.int cnt)] [(.int len), (.ref b1)])) (fun _ k => XS.iload X51.here hx rfl (hb hby at_249) rfl k) ?_
  refine Go.step (T' := T51) (f' := (mkF m 252 #[.val (.int p1), .val (.long q2), .second, .val (.int p3), .val (.int p4), .val (.int cnt), .val (.int len), .val (.ref b1), .val (.int cnt)] [(.int (1 : Int32)), (.int len), (.ref b1)])) (fun _ k => XS.iconst X51.here hx rfl (hb hby at_251) k) ?_
  refine Go.step (T' := T51) (f' := (mkF m 253 #[.val (.int p1), .val (.long q2), .second, .val (.int p3), .val (.int p4), .val (.int cnt), .val (.int len), .val (.ref b1), .val (.int cnt)] [(.int (len - (1 : Int32))), (.ref b1)])) (fun _ k => XS.isub X51.here hx rfl (hb hby at_252) rfl k) ?_
  obtain ⟨cl63, Ar63, qc63, Sz63, Nn63, Hs63, Gf63⟩ := id q53
  have hin64 : ¬ ((len - (1 : Int32)) < 0 ∨ cl63.slots.size ≤ ((len - (1 : Int32))).toNatClampNeg) := (inb_of Sz63 (by constructor <;> simp only [Int32.lt_iff_toInt_lt, Int32.reduceToInt] <;> omega))
  have hat64 : cl63.slots[((len - (1 : Int32))).toNatClampNeg]? = some (.int (p4.toInt8.toInt32)) := atH Hs63 hin64 (getH_hit (by simp only [Int32.lt_iff_toInt_lt, Int32.reduceToInt]; omega) rfl)
  refine Go.step (T' := T51) (f' := (mkF m 254 #[.val (.int p1), .val (.long q2), .second, .val (.int p3), .val (.int p4), .val (.int cnt), .val (.int len), .val (.ref b1), .val (.int cnt)] [(.int (p4.toInt8.toInt32))])) (fun _ k => X51.baloadBytes hx (j := (len - (1 : Int32))) (v := (.int (p4.toInt8.toInt32))) Ar63.1 (State.isArrayOf_alike hZ.alike Ar63.2.1) Ar63.2.2 hin64 hat64 (g := (mkF m 253 #[.val (.int p1), .val (.long q2), .second, .val (.int p3), .val (.int p4), .val (.int cnt), .val (.int len), .val (.ref b1), .val (.int cnt)] [(.int (len - (1 : Int32))), (.ref b1)])) rfl rfl (hb hby at_253) _ k) ?_
  refine Go.step (T' := T51) (f' := (mkF m 256 #[.val (.int p1), .val (.long q2), .second, .val (.int p3), .val (.int p4), .val (.int cnt), .val (.int len), .val (.ref b1), .val (.int cnt)] [(.int p4), (.int (p4.toInt8.toInt32))])) (fun _ k => XS.iload X51.here hx rfl (hb hby at_254) rfl k) ?_
  refine Go.step (T' := T51) (f' := (mkF m 257 #[.val (.int p1), .val (.long q2), .second, .val (.int p3), .val (.int p4), .val (.int cnt), .val (.int len), .val (.ref b1), .val (.int cnt)] [(.int (p4.toInt8.toInt32)), (.int (p4.toInt8.toInt32))])) (fun _ k => XS.i2b X51.here hx rfl (hb hby at_256) rfl k) ?_
  refine Go.step (T' := T51) (f' := (mkF m 260 #[.val (.int p1), .val (.long q2), .second, .val (.int p3), .val (.int p4), .val (.int cnt), .val (.int len), .val (.ref b1), .val (.int cnt)] [])) (fun _ k => XS.icmpNo X51.here hx rfl (hb hby at_257) rfl (teq (rfl : (p4.toInt8.toInt32) = (p4.toInt8.toInt32))).2 k) ?_
  refine Go.step (T' := T51) (f' := (mkF m 261 #[.val (.int p1), .val (.long q2), .second, .val (.int p3), .val (.int p4), .val (.int cnt), .val (.int len), .val (.ref b1), .val (.int cnt)] [(.int (1 : Int32))])) (fun _ k => XS.iconst X51.here hx rfl (hb hby at_260) k) ?_
  refine Go.step (T' := T51) (f' := (mkF m 265 #[.val (.int p1), .val (.long q2), .second, .val (.int p3), .val (.int p4), .val (.int cnt), .val (.int len), .val (.ref b1), .val (.int cnt)] [(.int (1 : Int32))])) (fun _ k => XS.goto X51.here hx rfl (pc0 := 261) (pc' := 265) rfl (hb hby at_261) (by decide) (by decide) k) ?_
  refine goNW hS X51 hk hx (t := .boolean) Bd.returns (by simp) Bd.notSynchronized (hb hby at_265) ?_ (by decide) (by decide)
  show Q_rm0 Z p1 q2 p3 p4 h0 n0 _ T51.heap _
  exact ⟨rfl, N51⟩
set_option maxRecDepth 65536 in
set_option maxHeartbeats 40000000 in
theorem comes_1 {Post : Tables → Env → Array Value → State → Outcome → State → Prop} (hpost : ∀ tb e args s v u, (limb_1_1.after args s (.returned v) u = true ∧ limb_1_2.after args s (.returned v) u = true ∧ True) → ReturnedEndW s (.returned v) u (Jvm.fieldLocs frame_1_writes args s ++ Jvm.arrayLocs frame_1_arrays args s ++ Jvm.staticLocs frame_1_statics s) 16 1280 → Post tb e args s (.returned v) u) :
    ArmFor flags0 classFile x code maxLocals ret World_1 tables_1 room_1 Calls_1 rest_1 Pre_1 Post := by
  intro l hfl _ _ p e ha hc hk s m args below hf hA hF happ hP
  obtain ⟨hcalls, hrest, hpre⟩ := hP
  obtain ⟨-, -, -, hnamed, -, -, -, hat⟩ := (Spec.applies_iff hf).mp happ
  obtain ⟨hg, hn⟩ := and_e (Cond.before_iff.mp (show (Jvm.Cond.and given_1 narrow_1).before args s = true from hpre))
  obtain ⟨g1, g2⟩ := and_e hg
  obtain ⟨g3, g4⟩ := and_e g2
  obtain ⟨g5, g6⟩ := and_e g4
  obtain ⟨g7, g8⟩ := and_e g6
  obtain ⟨w0, w1, w2, w3, rfl⟩ : ∃ w0 w1 w2 w3 : Value, args = #[w0, w1, w2, w3] := by
    have hs : args.size = 4 := by simpa [Cond.value, given_1] using g1
    obtain ⟨L⟩ := args
    match L, hs with
    | [w0, w1, w2, w3], _ => exact ⟨w0, w1, w2, w3, rfl⟩
  have hw := fun d (hd : d ∈ tables_1) => atoms_spec (ws := Jvm.Cond.code x code maxLocals ret :: tables_1) hat d (List.mem_cons_of_mem _ hd)
  have hfit : Fit s := fun {y c} hc i hi => by
    obtain ⟨ha, rfl⟩ := Array.getElem?_eq_some_iff.mp hc
    have q := List.all_eq_true.mp ((Array.all_eq_true_iff_forall_mem.mp hF) _ (Array.getElem_mem ha)) i (List.mem_range.mpr hi)
    simpa [Array.getElem?_eq_getElem hi] using q
  obtain ⟨i0, ei0⟩ := is_v g3
  obtain rfl : w0 = (.int i0) := Option.some.inj ei0
  obtain ⟨i1, ei1⟩ := isL_v g5
  obtain rfl : w1 = (.long i1) := Option.some.inj ei1
  obtain ⟨i2, ei2⟩ := is_v g7
  obtain rfl : w2 = (.int i2) := Option.some.inj ei2
  obtain ⟨i3, ei3⟩ := is_v g8
  obtain rfl : w3 = (.int i3) := Option.some.inj ei3
  obtain ⟨n, o, h1, h2, h3, _, L, rfl, ⟨rfl, N⟩, hq⟩ := rm0 l s _ hw tables_1 i0 i1 i2 i3 s.heap s.heap.size (Nat.le_refl _)  p e ha hc hk s m _ below hf ((Spec.applies_iff_loose hf).mp happ).1 ⟨rfl, State.Warmed39.refl s, rfl⟩ trivial
  refine ⟨n, _, h1, h2, h3, hpost _ _ _ _ _ _ ⟨Cond.after_iff.mpr rfl, Cond.after_iff.mpr (eq_i res_at (Term.int_eval (1)) rfl), trivial⟩ ⟨hq.1, hq.2.1, hq.2.2.1, (hq.2.2.2.sift fun y hy => Or.inr (N y hy)).mono (by decide) (by decide)⟩⟩
theorem main_1_1 : Claimed_1_1 := comes_1 fun _ _ _ _ _ _ h hF => ⟨h.1, hF⟩
theorem main_1_2 : Claimed_1_2 := comes_1 fun _ _ _ _ _ _ h hF => ⟨h.2.1, hF⟩
end Jvm.Pilot.@@N@@
namespace Jvm.Pilot.@@N@@
open Jvm Jvm.ClassFile Sem Op Lib Jvm.Free Jvm.Stand Jvm.Pilot.@@N@@.Jvm.D
/-! MADE BY PROGRAM (witnessworld.py) out of the Statement's table words and the real class files: 15 classes; the members and pool entries that the words name. The judged class is class 1, her method 1. -/
namespace start1
open Jvm.ClassFile
def u (s : String) : CpInfo := .utf8 (stringToUtf16 s)
/-- a pool by its gaps: so many unusable entries, then the entry; so many at the end -/
def gap : Nat → List CpInfo → List CpInfo
  | 0, r => r
  | n + 1, r => .unusable :: gap n r
def poolList (es : List (Nat × CpInfo)) (last : Nat) : List CpInfo := es.foldr (fun e r => gap e.1 (e.2 :: r)) (gap last [])
def pool (es : List (Nat × CpInfo)) (last : Nat) : Array CpInfo := ⟨poolList es last⟩
def fileOf (pool : Array CpInfo) (this : Nat) (attrs : Array Attribute := #[]) (ms : Array MethodInfo := #[]) (fl : Nat := 33) (sup : Nat := 0) (ifs : Array Nat := #[]) (fds : Array FieldInfo := #[]) : ClassFile where
  minorVersion := 0
  majorVersion := 65
  constantPool := pool
  accessFlags := fl
  thisClass := this
  superClass := sup
  interfaces := ifs
  fields := fds
  methods := ms
  attributes := attrs
def plain (name : String) (sup : Option ClassId) : Class where
  name := name
  kind := .ordinary
  loader := none
  accessFlags := 33
  super := sup
  interfaces := #[]
  cf := none
  fields := #[]
  methods := #[]
  instanceTypes := #[]
  staticTypes := #[]
  resolved := #[]
  callSites := []
  init := .initialized
  statics := none
  mirror := none

def pool0 : Array CpInfo := pool [(5, u "<init>"), (0, u "()V"), (1, .class_ 10), (1, u "java/lang/Object")] 113

def k0m0 : Method := { name := "<init>", desc := "()V", sig := { parameters := [], returnType := none }, accessFlags := 1, code := none }
/-- java/lang/Object -/
def k0 : Class := { plain "java/lang/Object" none with
  accessFlags := 33
  interfaces := #[]
  cf := some (fileOf pool0 8 #[] #[{ accessFlags := 1, nameIndex := 5, descriptorIndex := 6, attributes := #[] }] 33 0 #[] #[])
  fields := #[]
  methods := #[k0m0]
  instanceTypes := #[]
  staticTypes := #[]
  resolved := Array.replicate 124 none
  statics := none }

def pool1 : Array CpInfo := pool [(2, .class_ 4), (1, u "java/lang/Object"), (0, u "<init>"), (0, u "()V"), (0, .integer 2147483647), (0, .methodref 9 10), (0, .class_ 11), (0, .nameAndType 12 13), (0, u "com/example/strict_sid/strictsid/packet/PacketForm"), (0, u "check"), (0, u "([B)I"), (0, .class_ 15), (0, u "com/example/strict_sid/strictsid/packet/PacketFormCheckPinLaw"), (2, u "law"), (0, u "(IJII)Z")] 5

def k1m0 : Method := { name := "<init>", desc := "()V", sig := { parameters := [], returnType := none }, accessFlags := 1, code := none }
def k1c1 : Code := { maxStack := 5, maxLocals := 9, code := code, exceptionTable := #[], attributes := #[] }
def k1m1 : Method := { name := "law", desc := "(IJII)Z", sig := { parameters := [.int, .long, .int, .int], returnType := some .boolean }, accessFlags := 9, code := some k1c1 }
/-- com/example/strict_sid/strictsid/packet/PacketFormCheckPinLaw -/
def k1 : Class := { plain "com/example/strict_sid/strictsid/packet/PacketFormCheckPinLaw" (some 0) with
  accessFlags := 49
  interfaces := #[]
  cf := some (fileOf pool1 14 #[] #[{ accessFlags := 1, nameIndex := 5, descriptorIndex := 6, attributes := #[] }, { accessFlags := 9, nameIndex := 18, descriptorIndex := 19, attributes := #[] }] 49 2 #[] #[])
  fields := #[]
  methods := #[k1m0, k1m1]
  instanceTypes := #[]
  staticTypes := #[]
  resolved := Array.replicate 25 none
  statics := none }

def pool2 : Array CpInfo := pool [(2, .class_ 4), (1, u "java/lang/Object"), (0, u "<init>"), (0, u "()V"), (0, .string 8), (0, u "bytes"), (0, .methodref 10 11), (0, .class_ 12), (0, .nameAndType 13 14), (0, u "java/util/Objects"), (0, u "requireNonNull"), (0, u "(Ljava/lang/Object;Ljava/lang/String;)Ljava/lang/Object;"), (3, .class_ 20), (1, u "com/example/strict_sid/strictsid/packet/PacketForm"), (9, .methodref 18 31), (0, .nameAndType 32 33), (0, u "length"), (0, u "(I)I"), (27, u "LONG_BIG_ENDIAN"), (0, u "Ljava/lang/invoke/VarHandle;"), (8, u "INT_LITTLE_ENDIAN"), (0, .methodref 18 73), (0, .nameAndType 74 33), (0, u "subAuthorityOffset"), (10, u "([B)I"), (52, u "MAX_SUB_AUTHORITIES"), (0, u "I"), (2, u "MAX_IDENTIFIER_AUTHORITY"), (0, u "J"), (0, u "MAX_SUB_AUTHORITY_VALUE"), (2, u "REVISION"), (0, u "B"), (1, u "COUNT_OFFSET"), (0, u "HEADER_LENGTH"), (1, u "SUB_AUTHORITY_LENGTH"), (3, u "check")] 36

def k2m0 : Method := { name := "<init>", desc := "()V", sig := { parameters := [], returnType := none }, accessFlags := 2, code := none }
def k2c1 : Code := { maxStack := 3, maxLocals := 3, code := prog_4_method_2_code, exceptionTable := #[], attributes := #[] }
def k2m1 : Method := { name := "check", desc := "([B)I", sig := { parameters := [(.array .byte)], returnType := some .int }, accessFlags := 9, code := some k2c1 }
def k2c2 : Code := { maxStack := 1, maxLocals := 1, code := prog_4_method_13_code, exceptionTable := #[], attributes := #[] }
def k2m2 : Method := { name := "length", desc := "(I)I", sig := { parameters := [.int], returnType := some .int }, accessFlags := 10, code := some k2c2 }
def k2c3 : Code := { maxStack := 3, maxLocals := 1, code := prog_4_method_14_code, exceptionTable := #[], attributes := #[] }
def k2m3 : Method := { name := "subAuthorityOffset", desc := "(I)I", sig := { parameters := [.int], returnType := some .int }, accessFlags := 10, code := some k2c3 }
/-- com/example/strict_sid/strictsid/packet/PacketForm -/
def k2 : Class := { plain "com/example/strict_sid/strictsid/packet/PacketForm" (some 0) with
  accessFlags := 49
  interfaces := #[]
  cf := some (fileOf pool2 18 #[] #[{ accessFlags := 2, nameIndex := 5, descriptorIndex := 6, attributes := #[] }, { accessFlags := 9, nameIndex := 157, descriptorIndex := 85, attributes := #[] }, { accessFlags := 10, nameIndex := 32, descriptorIndex := 33, attributes := #[] }, { accessFlags := 10, nameIndex := 74, descriptorIndex := 33, attributes := #[] }] 49 2 #[] #[{ accessFlags := 25, nameIndex := 138, descriptorIndex := 139, attributes := #[] }, { accessFlags := 25, nameIndex := 142, descriptorIndex := 143, attributes := #[] }, { accessFlags := 25, nameIndex := 144, descriptorIndex := 143, attributes := #[] }, { accessFlags := 26, nameIndex := 147, descriptorIndex := 148, attributes := #[] }, { accessFlags := 26, nameIndex := 150, descriptorIndex := 139, attributes := #[] }, { accessFlags := 26, nameIndex := 151, descriptorIndex := 139, attributes := #[] }, { accessFlags := 26, nameIndex := 153, descriptorIndex := 139, attributes := #[] }, { accessFlags := 26, nameIndex := 71, descriptorIndex := 62, attributes := #[] }, { accessFlags := 26, nameIndex := 61, descriptorIndex := 62, attributes := #[] }])
  fields := #[{ name := "MAX_SUB_AUTHORITIES", type := .int, accessFlags := 25, slot := 0, constantValue := 0 }, { name := "MAX_IDENTIFIER_AUTHORITY", type := .long, accessFlags := 25, slot := 1, constantValue := 0 }, { name := "MAX_SUB_AUTHORITY_VALUE", type := .long, accessFlags := 25, slot := 2, constantValue := 0 }, { name := "REVISION", type := .byte, accessFlags := 26, slot := 3, constantValue := 0 }, { name := "COUNT_OFFSET", type := .int, accessFlags := 26, slot := 4, constantValue := 0 }, { name := "HEADER_LENGTH", type := .int, accessFlags := 26, slot := 5, constantValue := 0 }, { name := "SUB_AUTHORITY_LENGTH", type := .int, accessFlags := 26, slot := 6, constantValue := 0 }, { name := "INT_LITTLE_ENDIAN", type := (.object "java/lang/invoke/VarHandle"), accessFlags := 26, slot := 7, constantValue := 0 }, { name := "LONG_BIG_ENDIAN", type := (.object "java/lang/invoke/VarHandle"), accessFlags := 26, slot := 8, constantValue := 0 }]
  methods := #[k2m0, k2m1, k2m2, k2m3]
  instanceTypes := #[]
  staticTypes := #[.int, .long, .long, .byte, .int, .int, .int, (.object "java/lang/invoke/VarHandle"), (.object "java/lang/invoke/VarHandle")]
  resolved := Array.replicate 194 none
  statics := none }

def pool3 : Array CpInfo := pool [(1, .class_ 2), (0, u "java/io/Serializable"), (0, .class_ 4), (0, u "java/lang/Object")] 2

/-- java/io/Serializable -/
def k3 : Class := { plain "java/io/Serializable" (some 0) with
  accessFlags := 1537
  interfaces := #[]
  cf := some (fileOf pool3 1 #[] #[] 1537 3 #[] #[])
  fields := #[]
  methods := #[]
  instanceTypes := #[]
  staticTypes := #[]
  resolved := Array.replicate 7 none
  statics := none }

def pool4 : Array CpInfo := pool [(1, .class_ 2), (0, u "java/lang/Comparable"), (0, .class_ 4), (0, u "java/lang/Object")] 7

/-- java/lang/Comparable -/
def k4 : Class := { plain "java/lang/Comparable" (some 0) with
  accessFlags := 1537
  interfaces := #[]
  cf := some (fileOf pool4 1 #[] #[] 1537 3 #[] #[])
  fields := #[]
  methods := #[]
  instanceTypes := #[]
  staticTypes := #[]
  resolved := Array.replicate 12 none
  statics := none }

def pool5 : Array CpInfo := pool [(2, .class_ 4), (1, u "java/lang/CharSequence"), (42, .class_ 48), (0, u "java/lang/CharSequence$1CodePointIterator"), (10, .class_ 60), (0, u "java/lang/CharSequence$1CharIterator"), (5, .class_ 67), (0, u "java/lang/Object")] 63

/-- java/lang/CharSequence -/
def k5 : Class := { plain "java/lang/CharSequence" (some 0) with
  accessFlags := 1537
  interfaces := #[]
  cf := some (fileOf pool5 2 #[.nestMembers #[47, 59]] #[] 1537 66 #[] #[])
  fields := #[]
  methods := #[]
  instanceTypes := #[]
  staticTypes := #[]
  resolved := Array.replicate 131 none
  statics := none }

def pool6 : Array CpInfo := pool [(1, .class_ 2), (0, u "java/lang/constant/Constable"), (0, .class_ 4), (0, u "java/lang/Object")] 6

/-- java/lang/constant/Constable -/
def k6 : Class := { plain "java/lang/constant/Constable" (some 0) with
  accessFlags := 1537
  interfaces := #[]
  cf := some (fileOf pool6 1 #[] #[] 1537 3 #[] #[])
  fields := #[]
  methods := #[]
  instanceTypes := #[]
  staticTypes := #[]
  resolved := Array.replicate 11 none
  statics := none }

def pool7 : Array CpInfo := pool [(1, .class_ 2), (0, u "java/lang/constant/ConstantDesc"), (0, .class_ 4), (0, u "java/lang/Object")] 32

/-- java/lang/constant/ConstantDesc -/
def k7 : Class := { plain "java/lang/constant/ConstantDesc" (some 0) with
  accessFlags := 1537
  interfaces := #[]
  cf := some (fileOf pool7 1 #[] #[] 1537 3 #[] #[])
  fields := #[]
  methods := #[]
  instanceTypes := #[]
  staticTypes := #[]
  resolved := Array.replicate 37 none
  statics := none }

def pool8 : Array CpInfo := pool [(2, .class_ 4), (1, u "java/lang/Object"), (0, u "<init>"), (0, u "()V"), (3, .class_ 12), (1, u "java/lang/String"), (0, u "value"), (0, u "[B"), (2, u "coder"), (0, u "B"), (2, u "hash"), (0, u "I"), (2, u "hashIsZero"), (0, u "Z"), (13, u "COMPACT_STRINGS"), (534, .class_ 576), (0, u "java/lang/CharSequence"), (22, u "CASE_INSENSITIVE_ORDER"), (0, u "Ljava/util/Comparator;"), (500, u "serialPersistentFields"), (0, u "[Ljava/io/ObjectStreamField;"), (0, .class_ 1104), (0, u "java/lang/String$CaseInsensitiveComparator"), (1, .class_ 1107), (0, u "java/io/Serializable"), (0, .class_ 1109), (0, u "java/lang/Comparable"), (0, .class_ 1111), (0, u "java/lang/constant/Constable"), (0, .class_ 1113), (0, u "java/lang/constant/ConstantDesc"), (2, u "serialVersionUID"), (0, u "J"), (3, u "REPL"), (0, u "C"), (2, u "LATIN1"), (1, u "UTF16")] 323

def k8m0 : Method := { name := "<init>", desc := "()V", sig := { parameters := [], returnType := none }, accessFlags := 1, code := none }
/-- java/lang/String -/
def k8 : Class := { plain "java/lang/String" (some 0) with
  accessFlags := 49
  interfaces := #[3, 4, 5, 6, 7]
  cf := some (fileOf pool8 10 #[.nestMembers #[1103]] #[{ accessFlags := 1, nameIndex := 5, descriptorIndex := 6, attributes := #[] }] 49 2 #[1106, 1108, 575, 1110, 1112] #[{ accessFlags := 18, nameIndex := 13, descriptorIndex := 14, attributes := #[] }, { accessFlags := 18, nameIndex := 17, descriptorIndex := 18, attributes := #[] }, { accessFlags := 2, nameIndex := 21, descriptorIndex := 22, attributes := #[] }, { accessFlags := 2, nameIndex := 25, descriptorIndex := 26, attributes := #[] }, { accessFlags := 26, nameIndex := 1116, descriptorIndex := 1117, attributes := #[] }, { accessFlags := 24, nameIndex := 40, descriptorIndex := 26, attributes := #[] }, { accessFlags := 26, nameIndex := 1101, descriptorIndex := 1102, attributes := #[] }, { accessFlags := 26, nameIndex := 1121, descriptorIndex := 1122, attributes := #[] }, { accessFlags := 25, nameIndex := 599, descriptorIndex := 600, attributes := #[] }, { accessFlags := 24, nameIndex := 1125, descriptorIndex := 18, attributes := #[] }, { accessFlags := 24, nameIndex := 1127, descriptorIndex := 18, attributes := #[] }])
  fields := #[{ name := "value", type := (.array .byte), accessFlags := 18, slot := 0, constantValue := 0 }, { name := "coder", type := .byte, accessFlags := 18, slot := 1, constantValue := 0 }, { name := "hash", type := .int, accessFlags := 2, slot := 2, constantValue := 0 }, { name := "hashIsZero", type := .boolean, accessFlags := 2, slot := 3, constantValue := 0 }, { name := "serialVersionUID", type := .long, accessFlags := 26, slot := 0, constantValue := 0 }, { name := "COMPACT_STRINGS", type := .boolean, accessFlags := 24, slot := 1, constantValue := 0 }, { name := "serialPersistentFields", type := (.array (.object "java/io/ObjectStreamField")), accessFlags := 26, slot := 2, constantValue := 0 }, { name := "REPL", type := .char, accessFlags := 26, slot := 3, constantValue := 0 }, { name := "CASE_INSENSITIVE_ORDER", type := (.object "java/util/Comparator"), accessFlags := 25, slot := 4, constantValue := 0 }, { name := "LATIN1", type := .byte, accessFlags := 24, slot := 5, constantValue := 0 }, { name := "UTF16", type := .byte, accessFlags := 24, slot := 6, constantValue := 0 }]
  methods := #[k8m0]
  instanceTypes := #[(.array .byte), .byte, .int, .boolean]
  staticTypes := #[.long, .boolean, (.array (.object "java/io/ObjectStreamField")), .char, (.object "java/util/Comparator"), .byte, .byte]
  resolved := Array.replicate 1451 none
  statics := none }

def pool9 : Array CpInfo := pool [(2, .class_ 4), (1, u "java/lang/Object"), (0, u "<init>"), (0, u "()V"), (35, .class_ 44), (1, u "java/util/Objects"), (0, u "requireNonNull"), (48, u "(Ljava/lang/Object;Ljava/lang/String;)Ljava/lang/Object;")] 89

def k9m0 : Method := { name := "<init>", desc := "()V", sig := { parameters := [], returnType := none }, accessFlags := 2, code := none }
def k9c1 : Code := { maxStack := 3, maxLocals := 2, code := jdk_31_method_11_code, exceptionTable := #[], attributes := #[] }
def k9m1 : Method := { name := "requireNonNull", desc := "(Ljava/lang/Object;Ljava/lang/String;)Ljava/lang/Object;", sig := { parameters := [(.object "java/lang/Object"), (.object "java/lang/String")], returnType := some (.object "java/lang/Object") }, accessFlags := 9, code := some k9c1 }
/-- java/util/Objects -/
def k9 : Class := { plain "java/util/Objects" (some 0) with
  accessFlags := 49
  interfaces := #[]
  cf := some (fileOf pool9 42 #[] #[{ accessFlags := 2, nameIndex := 5, descriptorIndex := 6, attributes := #[] }, { accessFlags := 9, nameIndex := 45, descriptorIndex := 94, attributes := #[] }] 49 2 #[] #[])
  fields := #[]
  methods := #[k9m0, k9m1]
  instanceTypes := #[]
  staticTypes := #[]
  resolved := Array.replicate 184 none
  statics := none }

def pool10 : Array CpInfo := pool [(1, u "java/lang/Cloneable"), (0, .class_ 1), (0, u "java/lang/Object"), (0, .class_ 3)] 3

/-- java/lang/Cloneable -/
def k10 : Class := { plain "java/lang/Cloneable" (some 0) with
  accessFlags := 1537
  interfaces := #[]
  cf := some (fileOf pool10 2 #[] #[] 1537 4 #[] #[])
  fields := #[]
  methods := #[]
  instanceTypes := #[]
  staticTypes := #[]
  resolved := Array.replicate 8 none
  statics := none }

/-- the primitive byte -/
def k11 : Class := { plain "byte" none with kind := .primitive 'B', accessFlags := 0x411 }
/-- [B -/
def k12 : Class := { plain "[B" (some 0) with kind := .array 11 .byte, interfaces := #[10, 3], accessFlags := 1041 }

/-- the primitive int -/
def k13 : Class := { plain "int" none with kind := .primitive 'I', accessFlags := 0x411 }
/-- [I -/
def k14 : Class := { plain "[I" (some 0) with kind := .array 13 .int, interfaces := #[10, 3], accessFlags := 1041 }

def heap : Heap := #[]
def classes : Array Class := #[k0, k1, k2, k3, k4, k5, k6, k7, k8, k9, k10, k11, k12, k13, k14]
def interned : List (Array UInt16 × Addr) := []
def slotsUsed : Nat := 0
def theMethod : MethodId := ⟨1, 1⟩
def args0 : Array Value := #[.int 5, .long 7, .int 3, .int 9]
def aboutOver (below : List Frame) : State where
  vm := { classes := classes, interned := interned.toArray }
  heap := heap
  slotsUsed := slotsUsed
  threads := #[{ frames := .invoking theMethod args0 :: below }]
def below0 : List Frame := [.native { method := ⟨0, 0⟩, args := #[] }]
def about1 : State := aboutOver below0
def p0 : Program := .bare "" "" ""
def e0 : Env := launch0.env 0 0 0
theorem w_frames : about1.frames = Frame.invoking theMethod args0 :: below0 := rfl
set_option maxRecDepth 65536 in
theorem w_args : argsFit about1.vm theMethod args0 = true := by decide +kernel
set_option maxRecDepth 65536 in
theorem w_heap : heapFits about1 = true := by decide +kernel
set_option maxRecDepth 65536 in
theorem w_runnable : about1.curStatus? = some .runnable := by decide +kernel
set_option maxRecDepth 65536 in
theorem w_alone : about1.alone = true := by decide +kernel
set_option maxRecDepth 65536 in
theorem w_named : about1.methodNamed? x = some theMethod := by decide +kernel
set_option maxRecDepth 65536 in
theorem w_hears : about1.hears theMethod below0 = true := by decide +kernel
set_option maxRecDepth 65536 in
theorem w_ripe : about1.ripe theMethod args0 below0 = true := by decide +kernel
theorem w_running : about1.status = .running := rfl
set_option maxRecDepth 65536 in
theorem w_room : about1.hasRoom e0.platform room_1 = true :=
  launch0.hasRoom_least _ room_1 (by decide +kernel) (by decide +kernel) (by decide +kernel) (by decide +kernel) (by decide +kernel) (by decide +kernel)
theorem allAtoms_all (ts : List Jvm.Cond) (a : Array Jvm.Value) (st : Jvm.State) : (allAtoms ts).before a st = ts.all (fun c => c.before a st) := by
  induction ts with
  | nil => rfl
  | cons c t ih =>
    show (Jvm.Cond.and c (allAtoms t)).before a st = _
    rw [Jvm.Cond.before_and, ih, List.all_cons]
def words1 : List Jvm.Cond := Jvm.Cond.code x code maxLocals ret :: tables_1
/-- a 'code' word, met by the world's own term for the bytes: nothing is compared byte by byte -/
theorem code_word {y : MethodName} {bytes : ByteArray} {mx : Nat} {rt : Option FieldType} {a : Array Value} {s : State} {m : MethodId} {meth : Method} {c : Code} (h1 : s.methodNamed? y = some m) (h2 : s.vm.method? m = some meth) (h3 : meth.code = some c) (h4 : c.code = bytes)
    (h5 : (c.maxLocals == mx && c.exceptionTable.isEmpty && decide (c.maxStack ≤ mostOperands) && decide (meth.sig.returnType = rt) && !meth.locks && decide (parseMethodDescriptor y.desc = some meth.sig)) = true) : (Jvm.Cond.code y bytes mx rt).before a s = true := by
  simp only [Bool.and_eq_true, beq_iff_eq, Bool.not_eq_true', decide_eq_true_eq] at h5
  obtain ⟨⟨⟨⟨⟨g1, g2⟩, g3⟩, g4⟩, g5⟩, g6⟩ := h5
  simp [Cond.before, Cond.holds, Cond.value, h1, h2, h3, h4, g1, g2, g3, g4, g5, g6]
def isCode : Jvm.Cond → Bool
  | .code _ _ _ _ => true
  | _ => false
theorem all_split {L : List Jvm.Cond} {P : Jvm.Cond → Bool} (h1 : L.all (fun c => isCode c || P c) = true) (h2 : ∀ c ∈ L.filter isCode, P c = true) : L.all P = true := by
  refine List.all_eq_true.mpr fun c hc => ?_
  have h := List.all_eq_true.mp h1 c hc
  rcases Bool.eq_false_or_eq_true (isCode c) with hi | hi
  · exact h2 c (List.mem_filter.mpr ⟨hc, hi⟩)
  · simpa [hi] using h
set_option maxRecDepth 65536 in
theorem w_c0 : (Jvm.Cond.code x code maxLocals ret).before args0 about1 = true := code_word (m := ⟨1, 1⟩) (meth := k1m1) (c := k1c1) (by decide +kernel) rfl rfl rfl (by decide +kernel)
set_option maxRecDepth 65536 in
theorem w_c1 : (Jvm.Cond.code ({ cls := "com/example/strict_sid/strictsid/packet/PacketForm", name := "check", desc := "([B)I" } : Jvm.MethodName) prog_4_method_2_code (3 : Nat) (Option.some Jvm.ClassFile.FieldType.int)).before args0 about1 = true := code_word (m := ⟨2, 1⟩) (meth := k2m1) (c := k2c1) (by decide +kernel) rfl rfl rfl (by decide +kernel)
set_option maxRecDepth 65536 in
theorem w_c2 : (Jvm.Cond.code ({ cls := "java/util/Objects", name := "requireNonNull", desc := "(Ljava/lang/Object;Ljava/lang/String;)Ljava/lang/Object;" } : Jvm.MethodName) jdk_31_method_11_code (2 : Nat) (Option.some (Jvm.ClassFile.FieldType.object "java/lang/Object"))).before args0 about1 = true := code_word (m := ⟨9, 1⟩) (meth := k9m1) (c := k9c1) (by decide +kernel) rfl rfl rfl (by decide +kernel)
set_option maxRecDepth 65536 in
theorem w_c3 : (Jvm.Cond.code ({ cls := "com/example/strict_sid/strictsid/packet/PacketForm", name := "length", desc := "(I)I" } : Jvm.MethodName) prog_4_method_13_code (1 : Nat) (Option.some Jvm.ClassFile.FieldType.int)).before args0 about1 = true := code_word (m := ⟨2, 2⟩) (meth := k2m2) (c := k2c2) (by decide +kernel) rfl rfl rfl (by decide +kernel)
set_option maxRecDepth 65536 in
theorem w_c4 : (Jvm.Cond.code ({ cls := "com/example/strict_sid/strictsid/packet/PacketForm", name := "subAuthorityOffset", desc := "(I)I" } : Jvm.MethodName) prog_4_method_14_code (1 : Nat) (Option.some Jvm.ClassFile.FieldType.int)).before args0 about1 = true := code_word (m := ⟨2, 3⟩) (meth := k2m3) (c := k2c3) (by decide +kernel) rfl rfl rfl (by decide +kernel)
def codes1 : List Jvm.Cond := [Jvm.Cond.code x code maxLocals ret, Jvm.Cond.code ({ cls := "com/example/strict_sid/strictsid/packet/PacketForm", name := "check", desc := "([B)I" } : Jvm.MethodName) prog_4_method_2_code (3 : Nat) (Option.some Jvm.ClassFile.FieldType.int), Jvm.Cond.code ({ cls := "java/util/Objects", name := "requireNonNull", desc := "(Ljava/lang/Object;Ljava/lang/String;)Ljava/lang/Object;" } : Jvm.MethodName) jdk_31_method_11_code (2 : Nat) (Option.some (Jvm.ClassFile.FieldType.object "java/lang/Object")), Jvm.Cond.code ({ cls := "com/example/strict_sid/strictsid/packet/PacketForm", name := "length", desc := "(I)I" } : Jvm.MethodName) prog_4_method_13_code (1 : Nat) (Option.some Jvm.ClassFile.FieldType.int), Jvm.Cond.code ({ cls := "com/example/strict_sid/strictsid/packet/PacketForm", name := "subAuthorityOffset", desc := "(I)I" } : Jvm.MethodName) prog_4_method_14_code (1 : Nat) (Option.some Jvm.ClassFile.FieldType.int)]
set_option maxRecDepth 65536 in
theorem codes_eq : words1.filter isCode = codes1 := rfl
theorem w_codes : ∀ c ∈ words1.filter isCode, c.before args0 about1 = true := by
  rw [codes_eq]
  intro c hc
  simp only [codes1, List.mem_cons, List.not_mem_nil, or_false] at hc
  rcases hc with rfl | rfl | rfl | rfl | rfl
  · exact w_c0
  · exact w_c1
  · exact w_c2
  · exact w_c3
  · exact w_c4
set_option maxRecDepth 65536 in
theorem w_t1 : words1.all (fun c => isCode c || c.before args0 about1) = true := by decide +kernel
theorem w_tables : (allAtoms (Jvm.Cond.code x code maxLocals ret :: tables_1)).before args0 about1 = true := by
  rw [allAtoms_all]
  show words1.all (fun c => c.before args0 about1) = true
  refine all_split ?_ w_codes
  rw [w_t1]
set_option maxRecDepth 65536 in
theorem w_case : (Jvm.Cond.and given_1 narrow_1).before args0 about1 = true := by decide +kernel
theorem w_applies : (headSpec (Jvm.Cond.code x code maxLocals ret :: tables_1) room_1).applies x e0.platform about1 = true :=
  (Spec.applies_iff w_frames).mpr ⟨w_running, w_runnable, w_alone, w_named, w_hears, w_ripe, w_room, w_tables⟩
theorem atStart : AtStart classFile x code maxLocals ret World_1 tables_1 room_1 Calls_1 rest_1 Pre_1 launch0 p0 e0 about1 theMethod args0 below0 :=
  ⟨lists_1, trivial, launch0.admits_env _ _ _, launch0.least_env, fairChoices_fair.cas, fairChoices_fair.clock, w_frames, w_args, w_heap, w_applies, trivial, trivial, w_case⟩
end start1
theorem witness_1 : WitnessClaimed_1 := ⟨start1.p0, start1.e0, start1.about1, start1.theMethod, start1.args0, start1.below0, start1.atStart⟩
end Jvm.Pilot.@@N@@
