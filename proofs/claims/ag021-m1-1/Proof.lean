import JvmDerived
import JvmDerived.Pilot.@@N@@Statement
import JvmDerived.Pilot.@@N@@Code
set_option linter.unusedVariables false
set_option linter.unusedSimpArgs false
namespace Jvm.Pilot.@@N@@
open Jvm Jvm.ClassFile Sem Op Lib Jvm.Free Jvm.Stand Jvm.LawKit Jvm.RoadKit Bundle Jvm.Pilot.@@N@@.Jvm.D
def Go (p : Program) (e : Env) (below : List Frame) (G : State → Prop) (T : State) (f : JFrame) : Prop := ∃ t, Steps p.tables e below (T.setTop f) t ∧ G t
theorem Go.step {p : Program} {e : Env} {below : List Frame} {G : State → Prop} {T T' : State} {f f' : JFrame} (k : ∀ t, Steps p.tables e below (T'.setTop f') t → Steps p.tables e below (T.setTop f) t) (h : Go p e below G T' f') : Go p e below G T f := by
  obtain ⟨t, h1, h2⟩ := h
  exact ⟨t, k t h1, h2⟩
def Fin1 (s : State) (below : List Frame) (Q : Option Value → Heap → List Loc → Prop) (k n : Nat) (t : State) : Prop := ∃ o, t.status = .running ∧ Ended t below o ∧ ∃ v L, o = .returned v ∧ Q v t.heap L ∧ FrameEnd s o t L k n
theorem of_go {p : Program} {e : Env} {below : List Frame} {s s₁ : State} {Q : Option Value → Heap → List Loc → Prop} {k n : Nat} {f f' : JFrame} (hf : f' = f) (h : Go p e below (Fin1 s below Q k n) s₁ f) :
    ∃ s₂ o, Steps p.tables e below (s₁.setTop f') s₂ ∧ s₂.status = .running ∧ Ended s₂ below o ∧ ∃ v L, o = .returned v ∧ Q v s₂.heap L ∧ FrameEnd s o s₂ L k n := by
  subst hf
  obtain ⟨t, h1, o, h2, h3, h4⟩ := h
  exact ⟨t, o, h1, h2, h3, h4⟩
section Ends
variable {p : Program} {l : Launch} {e : Env} {R : Room} {s : State} {m : MethodId} {args : Array Value} {below : List Frame} {meth : Method} {c : Code} {T : State} {locs : List Loc} {cells slots : Nat} {Q : Option Value → Heap → List Loc → Prop} {k n : Nat}
theorem goN (X : Stand p l e R s m args below meth c T locs cells slots) (hx : p.tables.exec = Jvm.exec) {pc : Nat} {Ls : Array Slot} {z : Int32} {t : FieldType} {rest : List Value} (hret : meth.sig.returnType = some t) (ht : t = .boolean ∨ t = .byte ∨ t = .char ∨ t = .short) (hlk : meth.locks = false)
    (hd : decode c.code pc = .ok (.ireturn, 1)) (hQ : Q (some (.int (nar t z))) T.heap locs) (hk : cells ≤ k) (hn : slots ≤ n) : Go p e below (Fin1 s below Q k n) T (mkF m pc Ls (.int z :: rest)) := by
  obtain ⟨fs, hr, hrun, hended, hW, hsame⟩ := X.leave (v := some (.int (nar t z))) (fun h => by rw [hret] at h; cases h) hlk
  exact ⟨_, Jvm.RoadKit.retN X hx hret ht hd hr, _, hrun, hended, _, _, rfl, hQ, ⟨_, rfl⟩, hW, hsame.mono hk hn⟩
theorem goO (X : Stand p l e R s m args below meth c T locs cells slots) (hx : p.tables.exec = Jvm.exec) {pc : Nat} {Ls : Array Slot} {w : Value} {t : FieldType} {i : Instr} {rest : List Value} (hret : meth.sig.returnType = some t) (hnw : narrow t w = w)
    (hi : (i = .ireturn ∧ (t = .int ∨ t = .boolean ∨ t = .byte ∨ t = .char ∨ t = .short) ∧ ∃ z, w = .int z) ∨ (i = .lreturn ∧ t = .long ∧ ∃ z, w = .long z) ∨ (i = .dreturn ∧ t = .double ∧ ∃ z, w = .double z) ∨ (i = .freturn ∧ t = .float ∧ ∃ z, w = .float z) ∨ (i = .areturn ∧ t.isReference = true ∧ w.isRef = true)) (hlk : meth.locks = false)
    (hd : decode c.code pc = .ok (i, 1)) (hQ : Q (some w) T.heap locs) (hk : cells ≤ k) (hn : slots ≤ n) : Go p e below (Fin1 s below Q k n) T (mkF m pc Ls (w :: rest)) := by
  obtain ⟨fs, hr, hrun, hended, hW, hsame⟩ := X.leave (v := some w) (fun h => by rw [hret] at h; cases h) hlk
  exact ⟨_, Jvm.RoadKit.retOut X hx hret hnw hi hd hr, _, hrun, hended, _, _, rfl, hQ, ⟨_, rfl⟩, hW, hsame.mono hk hn⟩
theorem goI (X : Stand p l e R s m args below meth c T locs cells slots) (hx : p.tables.exec = Jvm.exec) {pc : Nat} {Ls : Array Slot} {z : Int32} {rest : List Value} (hret : meth.sig.returnType = some .int) (hlk : meth.locks = false)
    (hd : decode c.code pc = .ok (.ireturn, 1)) (hQ : Q (some (.int z)) T.heap locs) (hk : cells ≤ k) (hn : slots ≤ n) : Go p e below (Fin1 s below Q k n) T (mkF m pc Ls (.int z :: rest)) :=
  goO X hx hret rfl (Or.inl ⟨rfl, Or.inl rfl, _, rfl⟩) hlk hd hQ hk hn
theorem goJ (X : Stand p l e R s m args below meth c T locs cells slots) (hx : p.tables.exec = Jvm.exec) {pc : Nat} {Ls : Array Slot} {z : Int64} {rest : List Value} (hret : meth.sig.returnType = some .long) (hlk : meth.locks = false)
    (hd : decode c.code pc = .ok (.lreturn, 1)) (hQ : Q (some (.long z)) T.heap locs) (hk : cells ≤ k) (hn : slots ≤ n) : Go p e below (Fin1 s below Q k n) T (mkF m pc Ls (.long z :: rest)) :=
  goO X hx hret rfl (Or.inr (Or.inl ⟨rfl, rfl, _, rfl⟩)) hlk hd hQ hk hn
theorem goA (X : Stand p l e R s m args below meth c T locs cells slots) (hx : p.tables.exec = Jvm.exec) {pc : Nat} {Ls : Array Slot} {w : Value} {t : FieldType} {rest : List Value} (hret : meth.sig.returnType = some t) (ht : t.isReference = true) (hw : w.isRef = true) (hlk : meth.locks = false)
    (hd : decode c.code pc = .ok (.areturn, 1)) (hQ : Q (some w) T.heap locs) (hk : cells ≤ k) (hn : slots ≤ n) : Go p e below (Fin1 s below Q k n) T (mkF m pc Ls (w :: rest)) :=
  goO X hx hret (by cases t <;> cases w <;> first | rfl | (simp [FieldType.isReference] at ht; done) | (simp [Value.isRef] at hw; done)) (Or.inr (Or.inr (Or.inr (Or.inr ⟨rfl, ht, hw⟩)))) hlk hd hQ hk hn
theorem goV (X : Stand p l e R s m args below meth c T locs cells slots) (hx : p.tables.exec = Jvm.exec) {pc : Nat} {Ls : Array Slot} (hret : meth.sig.returnType = none) (hlk : meth.locks = false)
    (hd : decode c.code pc = .ok (.return_, 1)) (hQ : Q none T.heap locs) (hk : cells ≤ k) (hn : slots ≤ n) : Go p e below (Fin1 s below Q k n) T (mkF m pc Ls []) := by
  obtain ⟨fs, hr, hrun, hended, hW, hsame⟩ := X.leave (v := none) (fun _ => rfl) hlk
  exact ⟨_, X.returnOut hx hret hd hr, _, hrun, hended, _, _, rfl, hQ, ⟨_, rfl⟩, hW, hsame.mono hk hn⟩
def FinW (s : State) (below : List Frame) (Q : Option Value → Heap → List Loc → Prop) (k n : Nat) (t : State) : Prop := ∃ o, t.status = .running ∧ Ended t below o ∧ ∃ v L, o = .returned v ∧ Q v t.heap L ∧ ReturnedEndW s o t L k n
theorem of_goW {p : Program} {e : Env} {below : List Frame} {s s₁ : State} {Q : Option Value → Heap → List Loc → Prop} {k n : Nat} {f f' : JFrame} (hf : f' = f) (h : Go p e below (FinW s below Q k n) s₁ f) :
    ∃ s₂ o, Steps p.tables e below (s₁.setTop f') s₂ ∧ s₂.status = .running ∧ Ended s₂ below o ∧ ∃ v L, o = .returned v ∧ Q v s₂.heap L ∧ ReturnedEndW s o s₂ L k n := by
  subst hf
  obtain ⟨t, h1, o, h2, h3, h4⟩ := h
  exact ⟨t, o, h1, h2, h3, h4⟩
theorem goNW {vm0 : Vm} {n1 : Nat} (hS : s.Since vm0 n1) (X : Stand p l e R (s.setVm vm0) m args below meth c T locs cells slots) (hkk : n1 ≤ T.heap.size) (hx : p.tables.exec = Jvm.exec) {pc : Nat} {Ls : Array Slot} {z : Int32} {t : FieldType} {rest : List Value} (hret : meth.sig.returnType = some t) (ht : t = .boolean ∨ t = .byte ∨ t = .char ∨ t = .short) (hlk : meth.locks = false)
    (hd : decode c.code pc = .ok (.ireturn, 1)) (hQ : Q (some (.int (nar t z))) T.heap locs) (hk : cells ≤ k) (hn : slots ≤ n) : Go p e below (FinW s below Q k n) T (mkF m pc Ls (.int z :: rest)) := by
  obtain ⟨fs, hr, hrun, hended, hW, hsame⟩ := X.leave (v := some (.int (nar t z))) (fun h => by rw [hret] at h; cases h) hlk
  obtain ⟨a1, a2, a3⟩ := hS.ended hW (show n1 ≤ (T.setFrames fs).heap.size from hkk) hsame
  exact ⟨_, Jvm.RoadKit.retN X hx hret ht hd hr, _, hrun, hended, _, _, rfl, hQ, ⟨_, rfl⟩, a1, a2, a3.mono hk hn⟩
theorem goOW {vm0 : Vm} {n1 : Nat} (hS : s.Since vm0 n1) (X : Stand p l e R (s.setVm vm0) m args below meth c T locs cells slots) (hkk : n1 ≤ T.heap.size) (hx : p.tables.exec = Jvm.exec) {pc : Nat} {Ls : Array Slot} {w : Value} {t : FieldType} {i : Instr} {rest : List Value} (hret : meth.sig.returnType = some t) (hnw : narrow t w = w)
    (hi : (i = .ireturn ∧ (t = .int ∨ t = .boolean ∨ t = .byte ∨ t = .char ∨ t = .short) ∧ ∃ z, w = .int z) ∨ (i = .lreturn ∧ t = .long ∧ ∃ z, w = .long z) ∨ (i = .dreturn ∧ t = .double ∧ ∃ z, w = .double z) ∨ (i = .freturn ∧ t = .float ∧ ∃ z, w = .float z) ∨ (i = .areturn ∧ t.isReference = true ∧ w.isRef = true)) (hlk : meth.locks = false)
    (hd : decode c.code pc = .ok (i, 1)) (hQ : Q (some w) T.heap locs) (hk : cells ≤ k) (hn : slots ≤ n) : Go p e below (FinW s below Q k n) T (mkF m pc Ls (w :: rest)) := by
  obtain ⟨fs, hr, hrun, hended, hW, hsame⟩ := X.leave (v := some w) (fun h => by rw [hret] at h; cases h) hlk
  obtain ⟨a1, a2, a3⟩ := hS.ended hW (show n1 ≤ (T.setFrames fs).heap.size from hkk) hsame
  exact ⟨_, Jvm.RoadKit.retOut X hx hret hnw hi hd hr, _, hrun, hended, _, _, rfl, hQ, ⟨_, rfl⟩, a1, a2, a3.mono hk hn⟩
theorem goIW {vm0 : Vm} {n1 : Nat} (hS : s.Since vm0 n1) (X : Stand p l e R (s.setVm vm0) m args below meth c T locs cells slots) (hkk : n1 ≤ T.heap.size) (hx : p.tables.exec = Jvm.exec) {pc : Nat} {Ls : Array Slot} {z : Int32} {rest : List Value} (hret : meth.sig.returnType = some .int) (hlk : meth.locks = false)
    (hd : decode c.code pc = .ok (.ireturn, 1)) (hQ : Q (some (.int z)) T.heap locs) (hk : cells ≤ k) (hn : slots ≤ n) : Go p e below (FinW s below Q k n) T (mkF m pc Ls (.int z :: rest)) :=
  goOW hS X hkk hx hret rfl (Or.inl ⟨rfl, Or.inl rfl, _, rfl⟩) hlk hd hQ hk hn
theorem goAW {vm0 : Vm} {n1 : Nat} (hS : s.Since vm0 n1) (X : Stand p l e R (s.setVm vm0) m args below meth c T locs cells slots) (hkk : n1 ≤ T.heap.size) (hx : p.tables.exec = Jvm.exec) {pc : Nat} {Ls : Array Slot} {w : Value} {t : FieldType} {rest : List Value} (hret : meth.sig.returnType = some t) (ht : t.isReference = true) (hw : w.isRef = true) (hlk : meth.locks = false)
    (hd : decode c.code pc = .ok (.areturn, 1)) (hQ : Q (some w) T.heap locs) (hk : cells ≤ k) (hn : slots ≤ n) : Go p e below (FinW s below Q k n) T (mkF m pc Ls (w :: rest)) :=
  goOW hS X hkk hx hret (by cases t <;> cases w <;> first | rfl | (simp [FieldType.isReference] at ht; done) | (simp [Value.isRef] at hw; done)) (Or.inr (Or.inr (Or.inr (Or.inr ⟨rfl, ht, hw⟩)))) hlk hd hQ hk hn
theorem goVW {vm0 : Vm} {n1 : Nat} (hS : s.Since vm0 n1) (X : Stand p l e R (s.setVm vm0) m args below meth c T locs cells slots) (hkk : n1 ≤ T.heap.size) (hx : p.tables.exec = Jvm.exec) {pc : Nat} {Ls : Array Slot} (hret : meth.sig.returnType = none) (hlk : meth.locks = false)
    (hd : decode c.code pc = .ok (.return_, 1)) (hQ : Q none T.heap locs) (hk : cells ≤ k) (hn : slots ≤ n) : Go p e below (FinW s below Q k n) T (mkF m pc Ls []) := by
  obtain ⟨fs, hr, hrun, hended, hW, hsame⟩ := X.leave (v := none) (fun _ => rfl) hlk
  obtain ⟨a1, a2, a3⟩ := hS.ended hW (show n1 ≤ (T.setFrames fs).heap.size from hkk) hsame
  exact ⟨_, X.returnOut hx hret hd hr, _, hrun, hended, _, _, rfl, hQ, ⟨_, rfl⟩, a1, a2, a3.mono hk hn⟩
theorem narB {z : Int32} (h : z = 0 ∨ z = 1) : nar .boolean z = z := by rcases h with rfl | rfl <;> rfl
end Ends
theorem own_eqk {args : Array Value} {s : State} {t : Term} {k : Int32} (h : (Jvm.Cond.eq t (Term.int k)).value args s none s [] = some true) : t.eval args s none [] s = some (.int k) := by
  simp only [Cond.value, Term.eval] at h
  cases ht : t.eval args s none [] s with
  | none => simp [ht] at h
  | some x => cases x <;> simp [ht] at h ⊢; exact h
theorem own_root {Z : State} {a0 : Array Value} {O K : String} {n : Nat} (w : (Jvm.Cond.noSuperclass O).before a0 Z = true) (wk : (Jvm.Cond.instantiable K n).before a0 Z = true) (hn : O ≠ K) : NS Z O K := by
  obtain ⟨c, k, h1, h2, h3, -, -⟩ := Cond.noSuperclass_spec w
  obtain ⟨t, k', g1, -⟩ := Cond.instantiable_spec wk
  have ne := ids_ne h1 g1 hn
  refine ⟨c, t, h1, g1, fun fuel => ?_⟩
  cases fuel with
  | zero => rfl
  | succ f => simp [Vm.isSubclassAux, ne, h2, h3]
theorem own_no {Z : State} {a0 : Array Value} {C S K : String} {n : Nat} (w : (Jvm.Cond.superclass C S).before a0 Z = true) (wk : (Jvm.Cond.instantiable K n).before a0 Z = true) (nn : NS Z C K) (hn : C ≠ K) : ∃ c t, Z.vm.findClass C = some c ∧ Z.vm.findClass K = some t ∧ Z.vm.assignable c t = false := by
  obtain ⟨c, t, h0, g0, n3⟩ := nn
  obtain ⟨p, k, kp, h1, h2, h3, h4, h5, -, h7⟩ := Cond.superclass_spec h0 w
  obtain ⟨t', k', g1, g2, g5, g6, -⟩ := Cond.instantiable_spec wk
  cases g0.symm.trans g1
  have ne := ids_ne h0 g0 hn
  have g7 : k'.isInterface = false := (Bool.or_eq_false_iff.mp g6).1
  refine ⟨c, t, h0, g0, ?_⟩
  show Z.vm.assignableAux (255 + 1) c t = false
  simp [Vm.assignableAux, ne, h2, g2, h5, g5, g7, Vm.isSubclass, n3]
def own_eq (lo hi lo2 hi2 : Int32) : Int32 := if lo.toInt = lo2.toInt ∧ hi.toInt = hi2.toInt then 1 else 0
theorem own_eq1 {lo hi lo2 hi2 : Int32} (h : lo.toInt = lo2.toInt ∧ hi.toInt = hi2.toInt) : own_eq lo hi lo2 hi2 = 1 := if_pos h
theorem own_eq0 {lo hi lo2 hi2 : Int32} (h : ¬ (lo.toInt = lo2.toInt ∧ hi.toInt = hi2.toInt)) : own_eq lo hi lo2 hi2 = 0 := if_neg h
theorem own_idx {x : Int32} (h1 : ¬ x < (-128 : Int32)) (h2 : ¬ (127 : Int32) < x) {k : Nat} (hk : k = 256) : ¬ ((x + (128 : Int32)) < 0 ∨ k ≤ (x + (128 : Int32)).toNatClampNeg) := by
  have h := c_iadd x 128
  have h3 := rng32 (x + 128)
  have h4 : (128 : Int32).toInt = 128 := rfl
  simp only [Int32.lt_iff_toInt_lt, Int32.reduceToInt, Int32.toNatClampNeg] at *
  omega
theorem d2_0 : decode jdk_30_method_1_code 0 = .ok (.aload_n 0, 1) := by decide +kernel
theorem d2_1 : decode jdk_30_method_1_code 1 = .ok (.invokespecial 1, 3) := by decide +kernel
theorem d2_4 : decode jdk_30_method_1_code 4 = .ok (.return_, 1) := by decide +kernel
theorem pn_2 : plainName "java/lang/Record" = true := by first | (simp [plainName, overriddenIn]; done) | decide +kernel
theorem ef_rm2 (m : MethodId) (a1 : Addr) : entryFrame m #[(.ref a1)] 1 = mkF m 0 #[.val (.ref a1)] [] := by first | (simp [entryFrame, mkF, argsToLocals, Value.category]; done) | rfl
def Q_rm2 (Z : State) (a1 : Addr) (h0 : Heap) (n0 : Nat) (rv : Option Value) (hq : Heap) (Lq : List Loc) : Prop := rv = none ∧ Fr n0 Lq ∧ hq = h0
set_option maxRecDepth 65536 in
set_option maxHeartbeats 40000000 in
theorem rm2 (l : Launch) (Z : State) (a0 : Array Value) (hw : ∀ d ∈ tables_1, d.before a0 Z = true) (ws : List Jvm.Cond) (a1 : Addr) (h0 : Heap) (n0 : Nat) (Z0 : n0 ≤ h0.size) :
    MetFree l (⟨"java/lang/Record", "<init>", "()V"⟩ : MethodName) (head1 (Jvm.Cond.code (⟨"java/lang/Record", "<init>", "()V"⟩ : MethodName) jdk_30_method_1_code 1 none :: ws) ({ frames := 1, cells := 0, slots := 0, locals := 12 } : Room)) (fun a U => a = #[(.ref a1)] ∧ Z.Warmed39 U.vm ∧ U.heap = h0) (fun _ _ _ _ _ => True) (fun _ U o U' => ∃ rv Lq, o = .returned rv ∧ Q_rm2 Z a1 h0 n0 rv U'.heap Lq ∧ FrameEnd U o U' Lq ({ frames := 1, cells := 0, slots := 0, locals := 12 } : Room).cells ({ frames := 1, cells := 0, slots := 0, locals := 12 } : Room).slots) := by
  refine MetFree.of_bodySF (plainFor_of_name pn_2) hisR ?_
  intro p e s m args below meth c s₁ Bd hml0 hP hK
  obtain ⟨rfl, hZ, hh⟩ := hP
  have hx := Bd.exec
  have hby := Bd.bytes
  have hml : c.maxLocals = 1 := hml0
  have hown : s.vm.findClass "java/lang/Record" = some m.cls := findClass_of_methodNamed Bd.named
  have hnm := (name_of_methodNamed Bd.named Bd.method).1
  have X0 : Stand p l e ({ frames := 1, cells := 0, slots := 0, locals := 12 } : Room) s m #[(.ref a1)] below meth c s₁ [] 0 0 := Stand.of_body Bd
  have e0 : s₁.heap = h0 := by rw [← hh, Bd.state]; rfl
  have N0 := Fr.nil n0
  refine of_go (ef_rm2 m a1) ?_
  refine Go.step (T' := s₁) (f' := (mkF m 1 #[.val (.ref a1)] [(.ref a1)])) (fun _ k => XS.aloadN X0.here hx rfl (hb hby d2_0) rfl rfl k) ?_
  obtain ⟨T1, X1, e1, st1⟩ := initO X0 hx hZ hown (hw _ (List.mem_of_getElem? (i := 11) rfl)) (hw _ (List.mem_of_getElem? (i := 12) rfl)) (hw _ (List.mem_of_getElem? (i := 13) rfl)) e0 (g := (mkF m 1 #[.val (.ref a1)] [(.ref a1)])) rfl (by rw [hml]; rfl) rfl (hb hby d2_1) (by decide) (W := 0) (by show 2 * 0 + _ ≤ _; exact Nat.le_of_eq rfl) (by decide)
  refine Go.step (T' := T1) (f' := (mkF m 4 #[.val (.ref a1)] [])) st1 ?_
  refine goV X1 hx Bd.returns Bd.notSynchronized (hb hby d2_4) ?_ (by decide) (by decide)
  show Q_rm2 Z a1 h0 n0 _ T1.heap _
  rw [e1]
  exact ⟨rfl, N0, rfl⟩
theorem d7_0 : decode jdk_18_method_1_code 0 = .ok (.aload_n 0, 1) := by decide +kernel
theorem d7_1 : decode jdk_18_method_1_code 1 = .ok (.invokespecial 1, 3) := by decide +kernel
theorem d7_4 : decode jdk_18_method_1_code 4 = .ok (.return_, 1) := by decide +kernel
theorem pn_7 : plainName "java/lang/Number" = true := by first | (simp [plainName, overriddenIn]; done) | decide +kernel
theorem ef_rm7 (m : MethodId) (a1 : Addr) : entryFrame m #[(.ref a1)] 1 = mkF m 0 #[.val (.ref a1)] [] := by first | (simp [entryFrame, mkF, argsToLocals, Value.category]; done) | rfl
def Q_rm7 (Z : State) (a1 : Addr) (h0 : Heap) (n0 : Nat) (rv : Option Value) (hq : Heap) (Lq : List Loc) : Prop := rv = none ∧ Fr n0 Lq ∧ hq = h0
set_option maxRecDepth 65536 in
set_option maxHeartbeats 40000000 in
theorem rm7 (l : Launch) (Z : State) (a0 : Array Value) (hw : ∀ d ∈ tables_1, d.before a0 Z = true) (ws : List Jvm.Cond) (a1 : Addr) (h0 : Heap) (n0 : Nat) (Z0 : n0 ≤ h0.size) :
    MetFree l (⟨"java/lang/Number", "<init>", "()V"⟩ : MethodName) (head1 (Jvm.Cond.code (⟨"java/lang/Number", "<init>", "()V"⟩ : MethodName) jdk_18_method_1_code 1 none :: ws) ({ frames := 1, cells := 0, slots := 0, locals := 12 } : Room)) (fun a U => a = #[(.ref a1)] ∧ Z.Warmed39 U.vm ∧ U.heap = h0) (fun _ _ _ _ _ => True) (fun _ U o U' => ∃ rv Lq, o = .returned rv ∧ Q_rm7 Z a1 h0 n0 rv U'.heap Lq ∧ FrameEnd U o U' Lq ({ frames := 1, cells := 0, slots := 0, locals := 12 } : Room).cells ({ frames := 1, cells := 0, slots := 0, locals := 12 } : Room).slots) := by
  refine MetFree.of_bodySF (plainFor_of_name pn_7) hisR ?_
  intro p e s m args below meth c s₁ Bd hml0 hP hK
  obtain ⟨rfl, hZ, hh⟩ := hP
  have hx := Bd.exec
  have hby := Bd.bytes
  have hml : c.maxLocals = 1 := hml0
  have hown : s.vm.findClass "java/lang/Number" = some m.cls := findClass_of_methodNamed Bd.named
  have hnm := (name_of_methodNamed Bd.named Bd.method).1
  have X0 : Stand p l e ({ frames := 1, cells := 0, slots := 0, locals := 12 } : Room) s m #[(.ref a1)] below meth c s₁ [] 0 0 := Stand.of_body Bd
  have e0 : s₁.heap = h0 := by rw [← hh, Bd.state]; rfl
  have N0 := Fr.nil n0
  refine of_go (ef_rm7 m a1) ?_
  refine Go.step (T' := s₁) (f' := (mkF m 1 #[.val (.ref a1)] [(.ref a1)])) (fun _ k => XS.aloadN X0.here hx rfl (hb hby d7_0) rfl rfl k) ?_
  obtain ⟨T1, X1, e1, st1⟩ := initO X0 hx hZ hown (hw _ (List.mem_of_getElem? (i := 41) rfl)) (hw _ (List.mem_of_getElem? (i := 12) rfl)) (hw _ (List.mem_of_getElem? (i := 13) rfl)) e0 (g := (mkF m 1 #[.val (.ref a1)] [(.ref a1)])) rfl (by rw [hml]; rfl) rfl (hb hby d7_1) (by decide) (W := 0) (by show 2 * 0 + _ ≤ _; exact Nat.le_of_eq rfl) (by decide)
  refine Go.step (T' := T1) (f' := (mkF m 4 #[.val (.ref a1)] [])) st1 ?_
  refine goV X1 hx Bd.returns Bd.notSynchronized (hb hby d7_4) ?_ (by decide) (by decide)
  show Q_rm7 Z a1 h0 n0 _ T1.heap _
  rw [e1]
  exact ⟨rfl, N0, rfl⟩
theorem d1_0 : decode prog_27_method_1_code 0 = .ok (.aload_n 0, 1) := by decide +kernel
theorem d1_1 : decode prog_27_method_1_code 1 = .ok (.invokespecial 1, 3) := by decide +kernel
theorem pd_0 : parseMethodDescriptor "()V" = some ⟨[], none⟩ := by decide +kernel
theorem d1_4 : decode prog_27_method_1_code 4 = .ok (.aload_n 0, 1) := by decide +kernel
theorem d1_5 : decode prog_27_method_1_code 5 = .ok (.iload_n 1, 1) := by decide +kernel
theorem d1_6 : decode prog_27_method_1_code 6 = .ok (.putfield 7, 3) := by decide +kernel
theorem d1_9 : decode prog_27_method_1_code 9 = .ok (.aload_n 0, 1) := by decide +kernel
theorem d1_10 : decode prog_27_method_1_code 10 = .ok (.iload_n 2, 1) := by decide +kernel
theorem d1_11 : decode prog_27_method_1_code 11 = .ok (.putfield 13, 3) := by decide +kernel
theorem d1_14 : decode prog_27_method_1_code 14 = .ok (.return_, 1) := by decide +kernel
theorem pn_1 : plainName "com/example/branchwise/branchwise/Interval" = true := by first | (simp [plainName, overriddenIn]; done) | decide +kernel
theorem ef_rm1 (m : MethodId) (a1 : Addr) (p2 : Int32) (p3 : Int32) : entryFrame m #[(.ref a1), (.int p2), (.int p3)] 3 = mkF m 0 #[.val (.ref a1), .val (.int p2), .val (.int p3)] [] := by first | (simp [entryFrame, mkF, argsToLocals, Value.category]; done) | rfl
def Q_rm1 (Z : State) (a1 : Addr) (p2 : Int32) (p3 : Int32) (h0 : Heap) (n0 : Nat) (rv : Option Value) (hq : Heap) (Lq : List Loc) : Prop := rv = none ∧ Fr n0 Lq ∧ Keep h0 hq [a1] ∧ Fld Z hq a1 "com/example/branchwise/branchwise/Interval" "lo" "I" (.int p2) ∧ Fld Z hq a1 "com/example/branchwise/branchwise/Interval" "hi" "I" (.int p3)
set_option maxRecDepth 65536 in
set_option maxHeartbeats 40000000 in
theorem rm1 (l : Launch) (Z : State) (a0 : Array Value) (hw : ∀ d ∈ tables_1, d.before a0 Z = true) (ws : List Jvm.Cond) (a1 : Addr) (p2 : Int32) (p3 : Int32) (h0 : Heap) (n0 : Nat) (Z0 : n0 ≤ h0.size) (E_a1 : Exa Z h0 a1 "com/example/branchwise/branchwise/Interval") (F_lo_a1 : Fld Z h0 a1 "com/example/branchwise/branchwise/Interval" "lo" "I" (.int (0 : Int32))) (F_hi_a1 : Fld Z h0 a1 "com/example/branchwise/branchwise/Interval" "hi" "I" (.int (0 : Int32))) (g_a1 : n0 ≤ a1) :
    MetFree l (⟨"com/example/branchwise/branchwise/Interval", "<init>", "(II)V"⟩ : MethodName) (head1 (Jvm.Cond.code (⟨"com/example/branchwise/branchwise/Interval", "<init>", "(II)V"⟩ : MethodName) prog_27_method_1_code 3 none :: ws) ({ frames := 2, cells := 0, slots := 0, locals := 24 } : Room)) (fun a U => a = #[(.ref a1), (.int p2), (.int p3)] ∧ Z.Warmed39 U.vm ∧ U.heap = h0) (fun _ _ _ _ _ => True) (fun _ U o U' => ∃ rv Lq, o = .returned rv ∧ Q_rm1 Z a1 p2 p3 h0 n0 rv U'.heap Lq ∧ FrameEnd U o U' Lq ({ frames := 2, cells := 0, slots := 0, locals := 24 } : Room).cells ({ frames := 2, cells := 0, slots := 0, locals := 24 } : Room).slots) := by
  refine MetFree.of_bodySF (plainFor_of_name pn_1) hisR ?_
  intro p e s m args below meth c s₁ Bd hml0 hP hK
  obtain ⟨rfl, hZ, hh⟩ := hP
  have hx := Bd.exec
  have hby := Bd.bytes
  have hml : c.maxLocals = 3 := hml0
  have hown : s.vm.findClass "com/example/branchwise/branchwise/Interval" = some m.cls := findClass_of_methodNamed Bd.named
  have hnm := (name_of_methodNamed Bd.named Bd.method).1
  have X0 : Stand p l e ({ frames := 2, cells := 0, slots := 0, locals := 24 } : Room) s m #[(.ref a1), (.int p2), (.int p3)] below meth c s₁ [] 0 0 := Stand.of_body Bd
  have e0 : s₁.heap = h0 := by rw [← hh, Bd.state]; rfl
  have N0 := Fr.nil n0
  refine of_go (ef_rm1 m a1 p2 p3) ?_
  refine Go.step (T' := s₁) (f' := (mkF m 1 #[.val (.ref a1), .val (.int p2), .val (.int p3)] [(.ref a1)])) (fun _ k => XS.aloadN X0.here hx rfl (hb hby d1_0) rfl rfl k) ?_
  obtain ⟨_, _, ⟨T1, L1, k1, n1⟩, -, X1, ⟨Lc1, hQ1, l1, y1, z1⟩, st1⟩ := X0.specialBack hx (y := (⟨"java/lang/Record", "<init>", "()V"⟩ : MethodName)) rfl hown (mvT hZ (hw _ (List.mem_of_getElem? (i := 6) rfl))) (mvT hZ (hw _ (List.mem_of_getElem? (i := 7) rfl))) (mvT hZ (hw _ (List.mem_of_getElem? (i := 10) rfl))) (by decide) (backOf (W := 0) (rm2 l Z a0 hw [] a1 h0 n0 Z0 ) hZ (hw _ (List.mem_of_getElem? (i := 10) rfl)) (hw _ (List.mem_of_getElem? (i := 9) rfl)) (by decide) (by decide)) (g := (mkF m 1 #[.val (.ref a1), .val (.int p2), .val (.int p3)] [(.ref a1)])) rfl (by rw [hml]; rfl) (Steps.refl _) (a := a1) (argsL := []) (rest := []) (lenOf pd_0 rfl) rfl (by show 2 * 0 + _ ≤ _; exact Nat.le_of_eq rfl) (hb hby d1_1) (fun _ _ => ⟨rfl, e0, (by decide : 0 + 0 ≤ _), (by decide : 0 + 0 ≤ _)⟩)
  dsimp only [Pt.U, Pt.locs, Pt.cells, Pt.slots] at X1 l1 y1 z1 st1 hQ1
  subst l1 y1 z1
  obtain ⟨rfl, Nq1, eh1⟩ := hQ1
  have N1 := Fr.app N0 Nq1
  refine Go.step (T' := T1) (f' := (mkF m 4 #[.val (.ref a1), .val (.int p2), .val (.int p3)] [])) (fun _ k => st1.trans k) ?_
  refine Go.step (T' := T1) (f' := (mkF m 5 #[.val (.ref a1), .val (.int p2), .val (.int p3)] [(.ref a1)])) (fun _ k => XS.aloadN X1.here hx rfl (hb hby d1_4) rfl rfl k) ?_
  refine Go.step (T' := T1) (f' := (mkF m 6 #[.val (.ref a1), .val (.int p2), .val (.int p3)] [(.int p2), (.ref a1)])) (fun _ k => XS.iloadN X1.here hx rfl (hb hby d1_5) rfl k) ?_
  obtain ⟨T2, h2, X2, e2, W2, st2⟩ := putF X1 hx hZ hown (host := "") (Or.inl (hw _ (List.mem_of_getElem? (i := 14) rfl))) Via.refl eh1 F_lo_a1 E_a1 (Or.inr ⟨(hw _ (List.mem_of_getElem? (i := 15) rfl)), rfl, hnm⟩) (hw _ (List.mem_of_getElem? (i := 1) rfl)) (ty := .int) (by decide) rfl rfl (g := (mkF m 6 #[.val (.ref a1), .val (.int p2), .val (.int p3)] [(.int p2), (.ref a1)])) rfl rfl (hb hby d1_6)
  have N2 := Fr.snoc X2 N1 g_a1
  have Z3 : n0 ≤ h2.size := Nat.le_trans Z0 (Keep.of_wr W2).1
  have K3 : Keep h0 h2 [a1] := (Keep.refl h0 [a1]).wr W2 (Or.inl (List.mem_of_getElem? (i := 0) rfl))
  have Fw2 := F_lo_a1.same W2
  refine Go.step (T' := T2) (f' := (mkF m 9 #[.val (.ref a1), .val (.int p2), .val (.int p3)] [])) st2 ?_
  refine Go.step (T' := T2) (f' := (mkF m 10 #[.val (.ref a1), .val (.int p2), .val (.int p3)] [(.ref a1)])) (fun _ k => XS.aloadN X2.here hx rfl (hb hby d1_9) rfl rfl k) ?_
  refine Go.step (T' := T2) (f' := (mkF m 11 #[.val (.ref a1), .val (.int p2), .val (.int p3)] [(.int p3), (.ref a1)])) (fun _ k => XS.iloadN X2.here hx rfl (hb hby d1_10) rfl k) ?_
  have q4 : Fld Z h2 a1 "com/example/branchwise/branchwise/Interval" "hi" "I" (.int (0 : Int32)) := (F_hi_a1.other W2 (Or.inr (slot_ne (Or.inr (hw _ (List.mem_of_getElem? (i := 17) rfl))) (Or.inr (hw _ (List.mem_of_getElem? (i := 15) rfl))) (by decide) (t := .int) (t' := .int) (by decide) (by decide))))
  have q5 : Exa Z h2 a1 "com/example/branchwise/branchwise/Interval" := (E_a1.wr W2)
  obtain ⟨T6, h6, X6, e6, W6, st6⟩ := putF X2 hx hZ hown (host := "") (Or.inl (hw _ (List.mem_of_getElem? (i := 16) rfl))) Via.refl e2 q4 q5 (Or.inr ⟨(hw _ (List.mem_of_getElem? (i := 17) rfl)), rfl, hnm⟩) (hw _ (List.mem_of_getElem? (i := 1) rfl)) (ty := .int) (by decide) rfl rfl (g := (mkF m 11 #[.val (.ref a1), .val (.int p2), .val (.int p3)] [(.int p3), (.ref a1)])) rfl rfl (hb hby d1_11)
  have N6 := Fr.snoc X6 N2 g_a1
  have Z7 : n0 ≤ h6.size := Nat.le_trans Z3 (Keep.of_wr W6).1
  have K7 : Keep h0 h6 [a1] := K3.wr W6 (Or.inl (List.mem_of_getElem? (i := 0) rfl))
  have Fw6 := q4.same W6
  refine Go.step (T' := T6) (f' := (mkF m 14 #[.val (.ref a1), .val (.int p2), .val (.int p3)] [])) st6 ?_
  refine goV X6 hx Bd.returns Bd.notSynchronized (hb hby d1_14) ?_ (by decide) (by decide)
  show Q_rm1 Z a1 p2 p3 h0 n0 _ T6.heap _
  rw [e6]
  have q8 : Fld Z h6 a1 "com/example/branchwise/branchwise/Interval" "lo" "I" (.int p2) := (Fw2.other W6 (Or.inr (slot_ne (Or.inr (hw _ (List.mem_of_getElem? (i := 15) rfl))) (Or.inr (hw _ (List.mem_of_getElem? (i := 17) rfl))) (by decide) (t := .int) (t' := .int) (by decide) (by decide))))
  exact ⟨rfl, N6, K7, q8, Fw6⟩
theorem d6_0 : decode jdk_33_method_23_code 0 = .ok (.aload_n 0, 1) := by decide +kernel
theorem d6_1 : decode jdk_33_method_23_code 1 = .ok (.invokespecial 202, 3) := by decide +kernel
theorem d6_4 : decode jdk_33_method_23_code 4 = .ok (.aload_n 0, 1) := by decide +kernel
theorem d6_5 : decode jdk_33_method_23_code 5 = .ok (.iload_n 1, 1) := by decide +kernel
theorem d6_6 : decode jdk_33_method_23_code 6 = .ok (.putfield 205, 3) := by decide +kernel
theorem d6_9 : decode jdk_33_method_23_code 9 = .ok (.return_, 1) := by decide +kernel
theorem pn_6 : plainName "java/lang/Integer" = true := by first | (simp [plainName, overriddenIn]; done) | decide +kernel
theorem ef_rm6 (m : MethodId) (a1 : Addr) (p2 : Int32) : entryFrame m #[(.ref a1), (.int p2)] 2 = mkF m 0 #[.val (.ref a1), .val (.int p2)] [] := by first | (simp [entryFrame, mkF, argsToLocals, Value.category]; done) | rfl
def Q_rm6 (Z : State) (a1 : Addr) (p2 : Int32) (h0 : Heap) (n0 : Nat) (rv : Option Value) (hq : Heap) (Lq : List Loc) : Prop := rv = none ∧ Fr n0 Lq ∧ Keep h0 hq [a1]
set_option maxRecDepth 65536 in
set_option maxHeartbeats 40000000 in
theorem rm6 (l : Launch) (Z : State) (a0 : Array Value) (hw : ∀ d ∈ tables_1, d.before a0 Z = true) (ws : List Jvm.Cond) (a1 : Addr) (p2 : Int32) (h0 : Heap) (n0 : Nat) (Z0 : n0 ≤ h0.size) (E_a1 : Exa Z h0 a1 "java/lang/Integer") (F_value_a1 : Fld Z h0 a1 "java/lang/Integer" "value" "I" (.int (0 : Int32))) (g_a1 : n0 ≤ a1) :
    MetFree l (⟨"java/lang/Integer", "<init>", "(I)V"⟩ : MethodName) (head1 (Jvm.Cond.code (⟨"java/lang/Integer", "<init>", "(I)V"⟩ : MethodName) jdk_33_method_23_code 2 none :: ws) ({ frames := 2, cells := 0, slots := 0, locals := 24 } : Room)) (fun a U => a = #[(.ref a1), (.int p2)] ∧ Z.Warmed39 U.vm ∧ U.heap = h0) (fun _ _ _ _ _ => True) (fun _ U o U' => ∃ rv Lq, o = .returned rv ∧ Q_rm6 Z a1 p2 h0 n0 rv U'.heap Lq ∧ FrameEnd U o U' Lq ({ frames := 2, cells := 0, slots := 0, locals := 24 } : Room).cells ({ frames := 2, cells := 0, slots := 0, locals := 24 } : Room).slots) := by
  refine MetFree.of_bodySF (plainFor_of_name pn_6) hisR ?_
  intro p e s m args below meth c s₁ Bd hml0 hP hK
  obtain ⟨rfl, hZ, hh⟩ := hP
  have hx := Bd.exec
  have hby := Bd.bytes
  have hml : c.maxLocals = 2 := hml0
  have hown : s.vm.findClass "java/lang/Integer" = some m.cls := findClass_of_methodNamed Bd.named
  have hnm := (name_of_methodNamed Bd.named Bd.method).1
  have X0 : Stand p l e ({ frames := 2, cells := 0, slots := 0, locals := 24 } : Room) s m #[(.ref a1), (.int p2)] below meth c s₁ [] 0 0 := Stand.of_body Bd
  have e0 : s₁.heap = h0 := by rw [← hh, Bd.state]; rfl
  have N0 := Fr.nil n0
  refine of_go (ef_rm6 m a1 p2) ?_
  refine Go.step (T' := s₁) (f' := (mkF m 1 #[.val (.ref a1), .val (.int p2)] [(.ref a1)])) (fun _ k => XS.aloadN X0.here hx rfl (hb hby d6_0) rfl rfl k) ?_
  obtain ⟨_, _, ⟨T1, L1, k1, n1⟩, -, X1, ⟨Lc1, hQ1, l1, y1, z1⟩, st1⟩ := X0.specialBack hx (y := (⟨"java/lang/Number", "<init>", "()V"⟩ : MethodName)) rfl hown (mvT hZ (hw _ (List.mem_of_getElem? (i := 35) rfl))) (mvT hZ (hw _ (List.mem_of_getElem? (i := 36) rfl))) (mvT hZ (hw _ (List.mem_of_getElem? (i := 40) rfl))) (by decide) (backOf (W := 0) (rm7 l Z a0 hw [] a1 h0 n0 Z0 ) hZ (hw _ (List.mem_of_getElem? (i := 40) rfl)) (hw _ (List.mem_of_getElem? (i := 39) rfl)) (by decide) (by decide)) (g := (mkF m 1 #[.val (.ref a1), .val (.int p2)] [(.ref a1)])) rfl (by rw [hml]; rfl) (Steps.refl _) (a := a1) (argsL := []) (rest := []) (lenOf pd_0 rfl) rfl (by show 2 * 0 + _ ≤ _; exact Nat.le_of_eq rfl) (hb hby d6_1) (fun _ _ => ⟨rfl, e0, (by decide : 0 + 0 ≤ _), (by decide : 0 + 0 ≤ _)⟩)
  dsimp only [Pt.U, Pt.locs, Pt.cells, Pt.slots] at X1 l1 y1 z1 st1 hQ1
  subst l1 y1 z1
  obtain ⟨rfl, Nq1, eh1⟩ := hQ1
  have N1 := Fr.app N0 Nq1
  refine Go.step (T' := T1) (f' := (mkF m 4 #[.val (.ref a1), .val (.int p2)] [])) (fun _ k => st1.trans k) ?_
  refine Go.step (T' := T1) (f' := (mkF m 5 #[.val (.ref a1), .val (.int p2)] [(.ref a1)])) (fun _ k => XS.aloadN X1.here hx rfl (hb hby d6_4) rfl rfl k) ?_
  refine Go.step (T' := T1) (f' := (mkF m 6 #[.val (.ref a1), .val (.int p2)] [(.int p2), (.ref a1)])) (fun _ k => XS.iloadN X1.here hx rfl (hb hby d6_5) rfl k) ?_
  obtain ⟨T2, h2, X2, e2, W2, st2⟩ := putF X1 hx hZ hown (host := "") (Or.inl (hw _ (List.mem_of_getElem? (i := 42) rfl))) Via.refl eh1 F_value_a1 E_a1 (Or.inr ⟨(hw _ (List.mem_of_getElem? (i := 43) rfl)), rfl, hnm⟩) (hw _ (List.mem_of_getElem? (i := 30) rfl)) (ty := .int) (by decide) rfl rfl (g := (mkF m 6 #[.val (.ref a1), .val (.int p2)] [(.int p2), (.ref a1)])) rfl rfl (hb hby d6_6)
  have N2 := Fr.snoc X2 N1 g_a1
  have Z3 : n0 ≤ h2.size := Nat.le_trans Z0 (Keep.of_wr W2).1
  have K3 : Keep h0 h2 [a1] := (Keep.refl h0 [a1]).wr W2 (Or.inl (List.mem_of_getElem? (i := 0) rfl))
  have Fw2 := F_value_a1.same W2
  refine Go.step (T' := T2) (f' := (mkF m 9 #[.val (.ref a1), .val (.int p2)] [])) st2 ?_
  refine goV X2 hx Bd.returns Bd.notSynchronized (hb hby d6_9) ?_ (by decide) (by decide)
  show Q_rm6 Z a1 p2 h0 n0 _ T2.heap _
  rw [e2]
  exact ⟨rfl, N2, K3⟩
theorem d5_0 : decode jdk_33_method_22_code 0 = .ok (.iload_n 0, 1) := by decide +kernel
theorem d5_1 : decode jdk_33_method_22_code 1 = .ok (.bipush (-128), 2) := by decide +kernel
theorem d5_3 : decode jdk_33_method_22_code 3 = .ok (.if_icmp .lt 20, 3) := by decide +kernel
theorem d5_23 : decode jdk_33_method_22_code 23 = .ok (.new 1, 3) := by decide +kernel
theorem d5_26 : decode jdk_33_method_22_code 26 = .ok (.dup, 1) := by decide +kernel
theorem d5_27 : decode jdk_33_method_22_code 27 = .ok (.iload_n 0, 1) := by decide +kernel
theorem d5_28 : decode jdk_33_method_22_code 28 = .ok (.invokespecial 199, 3) := by decide +kernel
theorem pd_1 : parseMethodDescriptor "(I)V" = some ⟨[.int], none⟩ := by decide +kernel
theorem d5_31 : decode jdk_33_method_22_code 31 = .ok (.areturn, 1) := by decide +kernel
theorem d5_6 : decode jdk_33_method_22_code 6 = .ok (.iload_n 0, 1) := by decide +kernel
theorem d5_7 : decode jdk_33_method_22_code 7 = .ok (.getstatic 191, 3) := by decide +kernel
theorem d5_10 : decode jdk_33_method_22_code 10 = .ok (.if_icmp .gt 13, 3) := by decide +kernel
theorem d5_13 : decode jdk_33_method_22_code 13 = .ok (.getstatic 195, 3) := by decide +kernel
theorem d5_16 : decode jdk_33_method_22_code 16 = .ok (.iload_n 0, 1) := by decide +kernel
theorem d5_17 : decode jdk_33_method_22_code 17 = .ok (.sipush 128, 3) := by decide +kernel
theorem d5_20 : decode jdk_33_method_22_code 20 = .ok (.iadd, 1) := by decide +kernel
theorem d5_21 : decode jdk_33_method_22_code 21 = .ok (.aaload, 1) := by decide +kernel
theorem d5_22 : decode jdk_33_method_22_code 22 = .ok (.areturn, 1) := by decide +kernel
theorem ef_rm5 (m : MethodId) (p1 : Int32) : entryFrame m #[(.int p1)] 1 = mkF m 0 #[.val (.int p1)] [] := by first | (simp [entryFrame, mkF, argsToLocals, Value.category]; done) | rfl
def Q_rm5 (Z : State) (p1 : Int32) (s_cache : Addr) (clc : Cell) (h0 : Heap) (n0 : Nat) (rv : Option Value) (hq : Heap) (Lq : List Loc) : Prop := ∃ r : Addr, rv = some (.ref r) ∧ Fr n0 Lq ∧ Keep h0 hq [] ∧ Exa Z hq r "java/lang/Integer"
set_option maxRecDepth 65536 in
set_option maxHeartbeats 40000000 in
theorem rm5 (l : Launch) (Z : State) (a0 : Array Value) (hw : ∀ d ∈ tables_1, d.before a0 Z = true) (ws : List Jvm.Cond) (p1 : Int32) (s_cache : Addr) (clc : Cell) (h0 : Heap) (n0 : Nat) (Z0 : n0 ≤ h0.size) (O0 : Old Z n0 h0) (S_high : Sta Z Z.heap "java/lang/Integer$IntegerCache" "high" "I" (.int (127 : Int32))) (S_cache : Sta Z Z.heap "java/lang/Integer$IntegerCache" "cache" "[Ljava/lang/Integer;" (.ref s_cache)) (Arc : Arr Z Z.heap s_cache clc (.object "java/lang/Integer")) (hsz : clc.slots.size = 256) (hC : ∀ j : Int32, ¬ (j < 0 ∨ clc.slots.size ≤ j.toNatClampNeg) → ∃ r, clc.slots[j.toNatClampNeg]? = some (.ref r) ∧ Exa Z Z.heap r "java/lang/Integer") :
    MetFree l (⟨"java/lang/Integer", "valueOf", "(I)Ljava/lang/Integer;"⟩ : MethodName) (head1 (Jvm.Cond.code (⟨"java/lang/Integer", "valueOf", "(I)Ljava/lang/Integer;"⟩ : MethodName) jdk_33_method_22_code 1 (some (.object "java/lang/Integer")) :: ws) ({ frames := 3, cells := 1, slots := 1, locals := 38 } : Room)) (fun a U => a = #[(.int p1)] ∧ Z.Warmed39 U.vm ∧ U.heap = h0) (fun _ _ _ _ _ => True) (fun _ U o U' => ∃ rv Lq, o = .returned rv ∧ Q_rm5 Z p1 s_cache clc h0 n0 rv U'.heap Lq ∧ FrameEnd U o U' Lq ({ frames := 3, cells := 1, slots := 1, locals := 38 } : Room).cells ({ frames := 3, cells := 1, slots := 1, locals := 38 } : Room).slots) := by
  refine MetFree.of_bodySF (plainFor_of_name pn_6) hisR ?_
  intro p e s m args below meth c s₁ Bd hml0 hP hK
  obtain ⟨rfl, hZ, hh⟩ := hP
  have hx := Bd.exec
  have hby := Bd.bytes
  have hml : c.maxLocals = 1 := hml0
  have hown : s.vm.findClass "java/lang/Integer" = some m.cls := findClass_of_methodNamed Bd.named
  have hnm := (name_of_methodNamed Bd.named Bd.method).1
  have X0 : Stand p l e ({ frames := 3, cells := 1, slots := 1, locals := 38 } : Room) s m #[(.int p1)] below meth c s₁ [] 0 0 := Stand.of_body Bd
  have e0 : s₁.heap = h0 := by rw [← hh, Bd.state]; rfl
  have N0 := Fr.nil n0
  refine of_go (ef_rm5 m p1) ?_
  refine Go.step (T' := s₁) (f' := (mkF m 1 #[.val (.int p1)] [(.int p1)])) (fun _ k => XS.iloadN X0.here hx rfl (hb hby d5_0) rfl k) ?_
  refine Go.step (T' := s₁) (f' := (mkF m 3 #[.val (.int p1)] [(.int (-128 : Int32)), (.int p1)])) (fun _ k => XS.bipush X0.here hx rfl (hb hby d5_1) k) ?_
  by_cases hc3 : p1 < (-128 : Int32)
  · refine Go.step (T' := s₁) (f' := (mkF m 23 #[.val (.int p1)] [])) (fun _ k => XS.icmpYes X0.here hx rfl (pc0 := 3) (pc' := 23) rfl (hb hby d5_3) rfl (tlt hc3).1 (by decide) (by decide) k) ?_
    obtain ⟨T1, h1, X1, e1, E1, A1, D1, -, st1⟩ := newO X0 hx hZ hown (hw _ (List.mem_of_getElem? (i := 29) rfl)) (hw _ (List.mem_of_getElem? (i := 30) rfl)) (hw _ (List.mem_of_getElem? (i := 27) rfl)) e0 (g := (mkF m 23 #[.val (.int p1)] [])) rfl (hb hby d5_23) (by decide) (by decide)
    obtain ⟨b1, g1⟩ : ∃ z, z = h0.size := ⟨_, rfl⟩
    rw [← g1] at A1 D1 st1
    have g_b1 : n0 ≤ b1 := Nat.le_trans Z0 (Nat.le_of_eq g1.symm)
    have sz_b1 : h0.size ≤ b1 := Nat.le_trans (Keep.refl h0 []).1 (Nat.le_of_eq g1.symm)
    have Z2 : n0 ≤ h1.size := Nat.le_trans Z0 E1.1
    have O2 : Old Z n0 h1 := O0.ext E1
    have K2 : Keep h0 h1 [] := (Keep.refl h0 []).ext E1
    have F_value_b1 : Fld Z h1 b1 "java/lang/Integer" "value" "I" (.int (0 : Int32)) := D1 (Or.inr (hw _ (List.mem_of_getElem? (i := 43) rfl))) (ty := .int) (by decide)
    refine Go.step (T' := T1) (f' := (mkF m 26 #[.val (.int p1)] [(.ref b1)])) st1 ?_
    refine Go.step (T' := T1) (f' := (mkF m 27 #[.val (.int p1)] [(.ref b1), (.ref b1)])) (fun _ k => XS.dup X1.here hx rfl (hb hby d5_26) rfl rfl k) ?_
    refine Go.step (T' := T1) (f' := (mkF m 28 #[.val (.int p1)] [(.int p1), (.ref b1), (.ref b1)])) (fun _ k => XS.iloadN X1.here hx rfl (hb hby d5_27) rfl k) ?_
    obtain ⟨_, _, ⟨T3, L3, k3, n3⟩, -, X3, ⟨Lc3, hQ3, l3, y3, z3⟩, st3⟩ := X1.specialBack hx (y := (⟨"java/lang/Integer", "<init>", "(I)V"⟩ : MethodName)) rfl hown (mvT hZ (hw _ (List.mem_of_getElem? (i := 31) rfl))) (mvT hZ (hw _ (List.mem_of_getElem? (i := 32) rfl))) (mvT hZ (hw _ (List.mem_of_getElem? (i := 34) rfl))) (by decide) (backOf (W := 1) (rm6 l Z a0 hw [] b1 p1 h1 n0 Z2 A1 F_value_b1 g_b1) hZ (hw _ (List.mem_of_getElem? (i := 34) rfl)) (hw _ (List.mem_of_getElem? (i := 27) rfl)) (by decide) (by decide)) (g := (mkF m 28 #[.val (.int p1)] [(.int p1), (.ref b1), (.ref b1)])) rfl (by rw [hml]; rfl) (Steps.refl _) (a := b1) (argsL := [(.int p1)]) (rest := [(.ref b1)]) (lenOf pd_1 rfl) rfl (by show 2 * 0 + _ ≤ _; exact Nat.le_of_eq rfl) (hb hby d5_28) (fun _ _ => ⟨rfl, e1, (by decide : 1 + 0 ≤ _), (by decide : 1 + 0 ≤ _)⟩)
    dsimp only [Pt.U, Pt.locs, Pt.cells, Pt.slots] at X3 l3 y3 z3 st3 hQ3
    subst l3 y3 z3
    obtain ⟨rfl, Nq3, Kq3⟩ := hQ3
    have N3 := Fr.app N0 Nq3
    have Z4 : n0 ≤ T3.heap.size := Nat.le_trans Z2 Kq3.1
    have O4 : Old Z n0 T3.heap := O2.keep Kq3 (allS g_b1 all0)
    have K4 : Keep h0 T3.heap [] := K2.trans Kq3 (allS (Or.inr sz_b1) all0)
    refine Go.step (T' := T3) (f' := (mkF m 31 #[.val (.int p1)] [(.ref b1)])) (fun _ k => st3.trans k) ?_
    refine goA X3 hx Bd.returns rfl rfl Bd.notSynchronized (hb hby d5_31) ?_ (by decide) (by decide)
    show Q_rm5 Z p1 s_cache clc h0 n0 _ T3.heap _
    have q5 : Exa Z T3.heap b1 "java/lang/Integer" := (A1.keep Kq3)
    exact ⟨b1, rfl, N3, K4, q5⟩
  · refine Go.step (T' := s₁) (f' := (mkF m 6 #[.val (.int p1)] [])) (fun _ k => XS.icmpNo X0.here hx rfl (hb hby d5_3) rfl (flt hc3).1 k) ?_
    refine Go.step (T' := s₁) (f' := (mkF m 7 #[.val (.int p1)] [(.int p1)])) (fun _ k => XS.iloadN X0.here hx rfl (hb hby d5_6) rfl k) ?_
    obtain ⟨T6, X6, e6, st6⟩ := getS2 X0 hx hZ hown (host := "") (Or.inl (hw _ (List.mem_of_getElem? (i := 47) rfl))) Via.refl e0 (S_high.ext O0.2) (g := (mkF m 7 #[.val (.int p1)] [(.int p1)])) rfl (hb hby d5_7)
    refine Go.step (T' := T6) (f' := (mkF m 10 #[.val (.int p1)] [(.int (127 : Int32)), (.int p1)])) st6 ?_
    by_cases hc10 : (127 : Int32) < p1
    · refine Go.step (T' := T6) (f' := (mkF m 23 #[.val (.int p1)] [])) (fun _ k => XS.icmpYes X6.here hx rfl (pc0 := 10) (pc' := 23) rfl (hb hby d5_10) rfl (tlt hc10).2.2.1 (by decide) (by decide) k) ?_
      obtain ⟨T7, h7, X7, e7, E7, A7, D7, -, st7⟩ := newO X6 hx hZ hown (hw _ (List.mem_of_getElem? (i := 29) rfl)) (hw _ (List.mem_of_getElem? (i := 30) rfl)) (hw _ (List.mem_of_getElem? (i := 27) rfl)) e6 (g := (mkF m 23 #[.val (.int p1)] [])) rfl (hb hby d5_23) (by decide) (by decide)
      obtain ⟨b7, g7⟩ : ∃ z, z = h0.size := ⟨_, rfl⟩
      rw [← g7] at A7 D7 st7
      have g_b7 : n0 ≤ b7 := Nat.le_trans Z0 (Nat.le_of_eq g7.symm)
      have sz_b7 : h0.size ≤ b7 := Nat.le_trans (Keep.refl h0 []).1 (Nat.le_of_eq g7.symm)
      have Z8 : n0 ≤ h7.size := Nat.le_trans Z0 E7.1
      have O8 : Old Z n0 h7 := O0.ext E7
      have K8 : Keep h0 h7 [] := (Keep.refl h0 []).ext E7
      have F_value_b7 : Fld Z h7 b7 "java/lang/Integer" "value" "I" (.int (0 : Int32)) := D7 (Or.inr (hw _ (List.mem_of_getElem? (i := 43) rfl))) (ty := .int) (by decide)
      refine Go.step (T' := T7) (f' := (mkF m 26 #[.val (.int p1)] [(.ref b7)])) st7 ?_
      refine Go.step (T' := T7) (f' := (mkF m 27 #[.val (.int p1)] [(.ref b7), (.ref b7)])) (fun _ k => XS.dup X7.here hx rfl (hb hby d5_26) rfl rfl k) ?_
      refine Go.step (T' := T7) (f' := (mkF m 28 #[.val (.int p1)] [(.int p1), (.ref b7), (.ref b7)])) (fun _ k => XS.iloadN X7.here hx rfl (hb hby d5_27) rfl k) ?_
      obtain ⟨_, _, ⟨T9, L9, k9, n9⟩, -, X9, ⟨Lc9, hQ9, l9, y9, z9⟩, st9⟩ := X7.specialBack hx (y := (⟨"java/lang/Integer", "<init>", "(I)V"⟩ : MethodName)) rfl hown (mvT hZ (hw _ (List.mem_of_getElem? (i := 31) rfl))) (mvT hZ (hw _ (List.mem_of_getElem? (i := 32) rfl))) (mvT hZ (hw _ (List.mem_of_getElem? (i := 34) rfl))) (by decide) (backOf (W := 1) (rm6 l Z a0 hw [] b7 p1 h7 n0 Z8 A7 F_value_b7 g_b7) hZ (hw _ (List.mem_of_getElem? (i := 34) rfl)) (hw _ (List.mem_of_getElem? (i := 27) rfl)) (by decide) (by decide)) (g := (mkF m 28 #[.val (.int p1)] [(.int p1), (.ref b7), (.ref b7)])) rfl (by rw [hml]; rfl) (Steps.refl _) (a := b7) (argsL := [(.int p1)]) (rest := [(.ref b7)]) (lenOf pd_1 rfl) rfl (by show 2 * 0 + _ ≤ _; exact Nat.le_of_eq rfl) (hb hby d5_28) (fun _ _ => ⟨rfl, e7, (by decide : 1 + 0 ≤ _), (by decide : 1 + 0 ≤ _)⟩)
      dsimp only [Pt.U, Pt.locs, Pt.cells, Pt.slots] at X9 l9 y9 z9 st9 hQ9
      subst l9 y9 z9
      obtain ⟨rfl, Nq9, Kq9⟩ := hQ9
      have N9 := Fr.app N0 Nq9
      have Z10 : n0 ≤ T9.heap.size := Nat.le_trans Z8 Kq9.1
      have O10 : Old Z n0 T9.heap := O8.keep Kq9 (allS g_b7 all0)
      have K10 : Keep h0 T9.heap [] := K8.trans Kq9 (allS (Or.inr sz_b7) all0)
      refine Go.step (T' := T9) (f' := (mkF m 31 #[.val (.int p1)] [(.ref b7)])) (fun _ k => st9.trans k) ?_
      refine goA X9 hx Bd.returns rfl rfl Bd.notSynchronized (hb hby d5_31) ?_ (by decide) (by decide)
      show Q_rm5 Z p1 s_cache clc h0 n0 _ T9.heap _
      have q11 : Exa Z T9.heap b7 "java/lang/Integer" := (A7.keep Kq9)
      exact ⟨b7, rfl, N9, K10, q11⟩
    · refine Go.step (T' := T6) (f' := (mkF m 13 #[.val (.int p1)] [])) (fun _ k => XS.icmpNo X6.here hx rfl (hb hby d5_10) rfl (flt hc10).2.2.1 k) ?_
      obtain ⟨T12, X12, e12, st12⟩ := getS2 X6 hx hZ hown (host := "") (Or.inl (hw _ (List.mem_of_getElem? (i := 49) rfl))) Via.refl e6 (S_cache.ext O0.2) (g := (mkF m 13 #[.val (.int p1)] [])) rfl (hb hby d5_13)
      refine Go.step (T' := T12) (f' := (mkF m 16 #[.val (.int p1)] [(.ref s_cache)])) st12 ?_
      refine Go.step (T' := T12) (f' := (mkF m 17 #[.val (.int p1)] [(.int p1), (.ref s_cache)])) (fun _ k => XS.iloadN X12.here hx rfl (hb hby d5_16) rfl k) ?_
      refine Go.step (T' := T12) (f' := (mkF m 20 #[.val (.int p1)] [(.int (128 : Int32)), (.int p1), (.ref s_cache)])) (fun _ k => XS.sipush X12.here hx rfl (hb hby d5_17) k) ?_
      refine Go.step (T' := T12) (f' := (mkF m 21 #[.val (.int p1)] [(.int (p1 + (128 : Int32))), (.ref s_cache)])) (fun _ k => XS.iadd X12.here hx rfl (hb hby d5_20) rfl k) ?_
      have hin := own_idx hc3 hc10 hsz
      obtain ⟨r, hat, hE⟩ := hC _ hin
      have Aq := Arc.ext O0.2
      refine Go.step (T' := T12) (f' := (mkF m 22 #[.val (.int p1)] [(.ref r)])) (fun _ k => X12.aaload hx (j := (p1 + (128 : Int32))) (v := (.ref r)) (by rw [e12]; exact Aq.1) (State.isArrayOf_alike hZ.alike Aq.2.1) rfl Aq.2.2 hin hat (g := (mkF m 21 #[.val (.int p1)] [(.int (p1 + (128 : Int32))), (.ref s_cache)])) rfl rfl (hb hby d5_21) _ k) ?_
      refine goA X12 hx Bd.returns rfl rfl Bd.notSynchronized (hb hby d5_22) ?_ (by decide) (by decide)
      show Q_rm5 Z p1 s_cache clc h0 n0 _ T12.heap _
      rw [e12]
      exact ⟨r, rfl, N0, (Keep.refl h0 []), (hE.ext O0.2)⟩
theorem d4_0 : decode prog_27_method_12_code 0 = .ok (.aload_n 1, 1) := by decide +kernel
theorem d4_1 : decode prog_27_method_12_code 1 = .ok (.instanceof 8, 3) := by decide +kernel
theorem d4_4 : decode prog_27_method_12_code 4 = .ok (.ifCond .eq 34, 3) := by decide +kernel
theorem d4_7 : decode prog_27_method_12_code 7 = .ok (.aload_n 1, 1) := by decide +kernel
theorem d4_8 : decode prog_27_method_12_code 8 = .ok (.checkcast 8, 3) := by decide +kernel
theorem d4_11 : decode prog_27_method_12_code 11 = .ok (.astore_n 2, 1) := by decide +kernel
theorem d4_12 : decode prog_27_method_12_code 12 = .ok (.aload_n 2, 1) := by decide +kernel
theorem d4_13 : decode prog_27_method_12_code 13 = .ok (.getfield 7, 3) := by decide +kernel
theorem d4_16 : decode prog_27_method_12_code 16 = .ok (.aload_n 0, 1) := by decide +kernel
theorem d4_17 : decode prog_27_method_12_code 17 = .ok (.getfield 7, 3) := by decide +kernel
theorem d4_20 : decode prog_27_method_12_code 20 = .ok (.if_icmp .ne 18, 3) := by decide +kernel
theorem d4_23 : decode prog_27_method_12_code 23 = .ok (.aload_n 2, 1) := by decide +kernel
theorem d4_24 : decode prog_27_method_12_code 24 = .ok (.getfield 13, 3) := by decide +kernel
theorem d4_27 : decode prog_27_method_12_code 27 = .ok (.aload_n 0, 1) := by decide +kernel
theorem d4_28 : decode prog_27_method_12_code 28 = .ok (.getfield 13, 3) := by decide +kernel
theorem d4_31 : decode prog_27_method_12_code 31 = .ok (.if_icmp .ne 7, 3) := by decide +kernel
theorem d4_34 : decode prog_27_method_12_code 34 = .ok (.iconst 1, 1) := by decide +kernel
theorem d4_35 : decode prog_27_method_12_code 35 = .ok (.goto 4, 3) := by decide +kernel
theorem d4_39 : decode prog_27_method_12_code 39 = .ok (.ireturn, 1) := by decide +kernel
theorem d4_38 : decode prog_27_method_12_code 38 = .ok (.iconst 0, 1) := by decide +kernel
theorem ef_rmEqI (m : MethodId) (a1 : Addr) (a2 : Addr) : entryFrame m #[(.ref a1), (.ref a2)] 3 = mkF m 0 #[.val (.ref a1), .val (.ref a2), .unset] [] := by first | (simp [entryFrame, mkF, argsToLocals, Value.category]; done) | rfl
def Q_rmEqI (Z : State) (a1 : Addr) (a2 : Addr) (lo : Int32) (hi : Int32) (lo2 : Int32) (hi2 : Int32) (h0 : Heap) (n0 : Nat) (rv : Option Value) (hq : Heap) (Lq : List Loc) : Prop := rv = some (.int (own_eq lo hi lo2 hi2)) ∧ Fr n0 Lq ∧ hq = h0
set_option maxRecDepth 65536 in
set_option maxHeartbeats 40000000 in
theorem rmEqI (l : Launch) (Z : State) (a0 : Array Value) (hw : ∀ d ∈ tables_1, d.before a0 Z = true) (ws : List Jvm.Cond) (a1 : Addr) (a2 : Addr) (lo : Int32) (hi : Int32) (lo2 : Int32) (hi2 : Int32) (h0 : Heap) (n0 : Nat) (Z0 : n0 ≤ h0.size) (E_a2 : Exa Z h0 a2 "com/example/branchwise/branchwise/Interval") (F_lo_a1 : Fld Z h0 a1 "com/example/branchwise/branchwise/Interval" "lo" "I" (.int lo)) (F_hi_a1 : Fld Z h0 a1 "com/example/branchwise/branchwise/Interval" "hi" "I" (.int hi)) (F_lo_a2 : Fld Z h0 a2 "com/example/branchwise/branchwise/Interval" "lo" "I" (.int lo2)) (F_hi_a2 : Fld Z h0 a2 "com/example/branchwise/branchwise/Interval" "hi" "I" (.int hi2)) :
    MetFree l (⟨"com/example/branchwise/branchwise/Interval", "equals", "(Ljava/lang/Object;)Z"⟩ : MethodName) (head1 (Jvm.Cond.code (⟨"com/example/branchwise/branchwise/Interval", "equals", "(Ljava/lang/Object;)Z"⟩ : MethodName) prog_27_method_12_code 3 (some .boolean) :: ws) ({ frames := 0, cells := 0, slots := 0, locals := 0 } : Room)) (fun a U => a = #[(.ref a1), (.ref a2)] ∧ Z.Warmed39 U.vm ∧ U.heap = h0) (fun _ _ _ _ _ => True) (fun _ U o U' => ∃ rv Lq, o = .returned rv ∧ Q_rmEqI Z a1 a2 lo hi lo2 hi2 h0 n0 rv U'.heap Lq ∧ FrameEnd U o U' Lq ({ frames := 0, cells := 0, slots := 0, locals := 0 } : Room).cells ({ frames := 0, cells := 0, slots := 0, locals := 0 } : Room).slots) := by
  refine MetFree.of_bodySF (plainFor_of_name pn_1) hisR ?_
  intro p e s m args below meth c s₁ Bd hml0 hP hK
  obtain ⟨rfl, hZ, hh⟩ := hP
  have hx := Bd.exec
  have hby := Bd.bytes
  have hml : c.maxLocals = 3 := hml0
  have hown : s.vm.findClass "com/example/branchwise/branchwise/Interval" = some m.cls := findClass_of_methodNamed Bd.named
  have hnm := (name_of_methodNamed Bd.named Bd.method).1
  have X0 : Stand p l e ({ frames := 0, cells := 0, slots := 0, locals := 0 } : Room) s m #[(.ref a1), (.ref a2)] below meth c s₁ [] 0 0 := Stand.of_body Bd
  have e0 : s₁.heap = h0 := by rw [← hh, Bd.state]; rfl
  have N0 := Fr.nil n0
  refine of_go (ef_rmEqI m a1 a2) ?_
  refine Go.step (T' := s₁) (f' := (mkF m 1 #[.val (.ref a1), .val (.ref a2), .unset] [(.ref a2)])) (fun _ k => XS.aloadN X0.here hx rfl (hb hby d4_0) rfl rfl k) ?_
  obtain ⟨T1, X1, e1, st1⟩ := instY X0 hx hZ hown (hw _ (List.mem_of_getElem? (i := 23) rfl)) e0 (Ins.self E_a2) (g := (mkF m 1 #[.val (.ref a1), .val (.ref a2), .unset] [(.ref a2)])) rfl rfl (hb hby d4_1)
  refine Go.step (T' := T1) (f' := (mkF m 4 #[.val (.ref a1), .val (.ref a2), .unset] [(.int (1 : Int32))])) st1 ?_
  refine Go.step (T' := T1) (f' := (mkF m 7 #[.val (.ref a1), .val (.ref a2), .unset] [])) (fun _ k => XS.ifNo X1.here hx rfl (hb hby d4_4) rfl ((if0 _ _).trans (feq (by decide : ¬ ((1 : Int32) = (0 : Int32)))).1) k) ?_
  refine Go.step (T' := T1) (f' := (mkF m 8 #[.val (.ref a1), .val (.ref a2), .unset] [(.ref a2)])) (fun _ k => XS.aloadN X1.here hx rfl (hb hby d4_7) rfl rfl k) ?_
  obtain ⟨T2, X2, e2, st2⟩ := castY X1 hx hZ hown (hw _ (List.mem_of_getElem? (i := 23) rfl)) e1 (Ins.self E_a2) (g := (mkF m 8 #[.val (.ref a1), .val (.ref a2), .unset] [(.ref a2)])) rfl rfl (hb hby d4_8)
  refine Go.step (T' := T2) (f' := (mkF m 11 #[.val (.ref a1), .val (.ref a2), .unset] [(.ref a2)])) st2 ?_
  refine Go.step (T' := T2) (f' := (mkF m 12 #[.val (.ref a1), .val (.ref a2), .val (.ref a2)] [])) (fun _ k => XS.astoreN X2.here hx rfl (hb hby d4_11) rfl rfl (l' := #[.val (.ref a1), .val (.ref a2), .val (.ref a2)]) rfl k) ?_
  refine Go.step (T' := T2) (f' := (mkF m 13 #[.val (.ref a1), .val (.ref a2), .val (.ref a2)] [(.ref a2)])) (fun _ k => XS.aloadN X2.here hx rfl (hb hby d4_12) rfl rfl k) ?_
  obtain ⟨T3, X3, e3, st3⟩ := getF X2 hx hZ hown (host := "") (Or.inl (hw _ (List.mem_of_getElem? (i := 14) rfl))) Via.refl e2 F_lo_a2 (g := (mkF m 13 #[.val (.ref a1), .val (.ref a2), .val (.ref a2)] [(.ref a2)])) rfl rfl (hb hby d4_13)
  refine Go.step (T' := T3) (f' := (mkF m 16 #[.val (.ref a1), .val (.ref a2), .val (.ref a2)] [(.int lo2)])) st3 ?_
  refine Go.step (T' := T3) (f' := (mkF m 17 #[.val (.ref a1), .val (.ref a2), .val (.ref a2)] [(.ref a1), (.int lo2)])) (fun _ k => XS.aloadN X3.here hx rfl (hb hby d4_16) rfl rfl k) ?_
  obtain ⟨T4, X4, e4, st4⟩ := getF X3 hx hZ hown (host := "") (Or.inl (hw _ (List.mem_of_getElem? (i := 14) rfl))) Via.refl e3 F_lo_a1 (g := (mkF m 17 #[.val (.ref a1), .val (.ref a2), .val (.ref a2)] [(.ref a1), (.int lo2)])) rfl rfl (hb hby d4_17)
  refine Go.step (T' := T4) (f' := (mkF m 20 #[.val (.ref a1), .val (.ref a2), .val (.ref a2)] [(.int lo), (.int lo2)])) st4 ?_
  by_cases hc20 : lo2 = lo
  · refine Go.step (T' := T4) (f' := (mkF m 23 #[.val (.ref a1), .val (.ref a2), .val (.ref a2)] [])) (fun _ k => XS.icmpNo X4.here hx rfl (hb hby d4_20) rfl (teq hc20).2 k) ?_
    refine Go.step (T' := T4) (f' := (mkF m 24 #[.val (.ref a1), .val (.ref a2), .val (.ref a2)] [(.ref a2)])) (fun _ k => XS.aloadN X4.here hx rfl (hb hby d4_23) rfl rfl k) ?_
    obtain ⟨T5, X5, e5, st5⟩ := getF X4 hx hZ hown (host := "") (Or.inl (hw _ (List.mem_of_getElem? (i := 16) rfl))) Via.refl e4 F_hi_a2 (g := (mkF m 24 #[.val (.ref a1), .val (.ref a2), .val (.ref a2)] [(.ref a2)])) rfl rfl (hb hby d4_24)
    refine Go.step (T' := T5) (f' := (mkF m 27 #[.val (.ref a1), .val (.ref a2), .val (.ref a2)] [(.int hi2)])) st5 ?_
    refine Go.step (T' := T5) (f' := (mkF m 28 #[.val (.ref a1), .val (.ref a2), .val (.ref a2)] [(.ref a1), (.int hi2)])) (fun _ k => XS.aloadN X5.here hx rfl (hb hby d4_27) rfl rfl k) ?_
    obtain ⟨T6, X6, e6, st6⟩ := getF X5 hx hZ hown (host := "") (Or.inl (hw _ (List.mem_of_getElem? (i := 16) rfl))) Via.refl e5 F_hi_a1 (g := (mkF m 28 #[.val (.ref a1), .val (.ref a2), .val (.ref a2)] [(.ref a1), (.int hi2)])) rfl rfl (hb hby d4_28)
    refine Go.step (T' := T6) (f' := (mkF m 31 #[.val (.ref a1), .val (.ref a2), .val (.ref a2)] [(.int hi), (.int hi2)])) st6 ?_
    by_cases hc31 : hi2 = hi
    · refine Go.step (T' := T6) (f' := (mkF m 34 #[.val (.ref a1), .val (.ref a2), .val (.ref a2)] [])) (fun _ k => XS.icmpNo X6.here hx rfl (hb hby d4_31) rfl (teq hc31).2 k) ?_
      refine Go.step (T' := T6) (f' := (mkF m 35 #[.val (.ref a1), .val (.ref a2), .val (.ref a2)] [(.int (1 : Int32))])) (fun _ k => XS.iconst X6.here hx rfl (hb hby d4_34) k) ?_
      refine Go.step (T' := T6) (f' := (mkF m 39 #[.val (.ref a1), .val (.ref a2), .val (.ref a2)] [(.int (1 : Int32))])) (fun _ k => XS.goto X6.here hx rfl (pc0 := 35) (pc' := 39) rfl (hb hby d4_35) (by decide) (by decide) k) ?_
      refine goN X6 hx (t := .boolean) Bd.returns (by simp) Bd.notSynchronized (hb hby d4_39) ?_ (by decide) (by decide)
      show Q_rmEqI Z a1 a2 lo hi lo2 hi2 h0 n0 _ T6.heap _
      rw [e6]
      exact ⟨by rw [own_eq1 (by simp only [Int32.lt_iff_toInt_lt, ← Int32.toInt_inj, Int32.reduceToInt] at hc20 hc31 <;> omega)]; rfl, N0, rfl⟩
    · refine Go.step (T' := T6) (f' := (mkF m 38 #[.val (.ref a1), .val (.ref a2), .val (.ref a2)] [])) (fun _ k => XS.icmpYes X6.here hx rfl (pc0 := 31) (pc' := 38) rfl (hb hby d4_31) rfl (feq hc31).2 (by decide) (by decide) k) ?_
      refine Go.step (T' := T6) (f' := (mkF m 39 #[.val (.ref a1), .val (.ref a2), .val (.ref a2)] [(.int (0 : Int32))])) (fun _ k => XS.iconst X6.here hx rfl (hb hby d4_38) k) ?_
      refine goN X6 hx (t := .boolean) Bd.returns (by simp) Bd.notSynchronized (hb hby d4_39) ?_ (by decide) (by decide)
      show Q_rmEqI Z a1 a2 lo hi lo2 hi2 h0 n0 _ T6.heap _
      rw [e6]
      exact ⟨by rw [own_eq0 (by simp only [Int32.lt_iff_toInt_lt, ← Int32.toInt_inj, Int32.reduceToInt] at hc20 hc31 <;> omega)]; rfl, N0, rfl⟩
  · refine Go.step (T' := T4) (f' := (mkF m 38 #[.val (.ref a1), .val (.ref a2), .val (.ref a2)] [])) (fun _ k => XS.icmpYes X4.here hx rfl (pc0 := 20) (pc' := 38) rfl (hb hby d4_20) rfl (feq hc20).2 (by decide) (by decide) k) ?_
    refine Go.step (T' := T4) (f' := (mkF m 39 #[.val (.ref a1), .val (.ref a2), .val (.ref a2)] [(.int (0 : Int32))])) (fun _ k => XS.iconst X4.here hx rfl (hb hby d4_38) k) ?_
    refine goN X4 hx (t := .boolean) Bd.returns (by simp) Bd.notSynchronized (hb hby d4_39) ?_ (by decide) (by decide)
    show Q_rmEqI Z a1 a2 lo hi lo2 hi2 h0 n0 _ T4.heap _
    rw [e4]
    exact ⟨by rw [own_eq0 (by simp only [Int32.lt_iff_toInt_lt, ← Int32.toInt_inj, Int32.reduceToInt] at hc20 <;> omega)]; rfl, N0, rfl⟩
theorem ef_rmEqN (m : MethodId) (a1 : Addr) : entryFrame m #[(.ref a1), .null] 3 = mkF m 0 #[.val (.ref a1), .val .null, .unset] [] := by first | (simp [entryFrame, mkF, argsToLocals, Value.category]; done) | rfl
def Q_rmEqN (Z : State) (a1 : Addr) (h0 : Heap) (n0 : Nat) (rv : Option Value) (hq : Heap) (Lq : List Loc) : Prop := rv = some (.int (0 : Int32)) ∧ Fr n0 Lq ∧ hq = h0
set_option maxRecDepth 65536 in
set_option maxHeartbeats 40000000 in
theorem rmEqN (l : Launch) (Z : State) (a0 : Array Value) (hw : ∀ d ∈ tables_1, d.before a0 Z = true) (ws : List Jvm.Cond) (a1 : Addr) (h0 : Heap) (n0 : Nat) (Z0 : n0 ≤ h0.size) :
    MetFree l (⟨"com/example/branchwise/branchwise/Interval", "equals", "(Ljava/lang/Object;)Z"⟩ : MethodName) (head1 (Jvm.Cond.code (⟨"com/example/branchwise/branchwise/Interval", "equals", "(Ljava/lang/Object;)Z"⟩ : MethodName) prog_27_method_12_code 3 (some .boolean) :: ws) ({ frames := 0, cells := 0, slots := 0, locals := 0 } : Room)) (fun a U => a = #[(.ref a1), .null] ∧ Z.Warmed39 U.vm ∧ U.heap = h0) (fun _ _ _ _ _ => True) (fun _ U o U' => ∃ rv Lq, o = .returned rv ∧ Q_rmEqN Z a1 h0 n0 rv U'.heap Lq ∧ FrameEnd U o U' Lq ({ frames := 0, cells := 0, slots := 0, locals := 0 } : Room).cells ({ frames := 0, cells := 0, slots := 0, locals := 0 } : Room).slots) := by
  refine MetFree.of_bodySF (plainFor_of_name pn_1) hisR ?_
  intro p e s m args below meth c s₁ Bd hml0 hP hK
  obtain ⟨rfl, hZ, hh⟩ := hP
  have hx := Bd.exec
  have hby := Bd.bytes
  have hml : c.maxLocals = 3 := hml0
  have hown : s.vm.findClass "com/example/branchwise/branchwise/Interval" = some m.cls := findClass_of_methodNamed Bd.named
  have hnm := (name_of_methodNamed Bd.named Bd.method).1
  have X0 : Stand p l e ({ frames := 0, cells := 0, slots := 0, locals := 0 } : Room) s m #[(.ref a1), .null] below meth c s₁ [] 0 0 := Stand.of_body Bd
  have e0 : s₁.heap = h0 := by rw [← hh, Bd.state]; rfl
  have N0 := Fr.nil n0
  refine of_go (ef_rmEqN m a1) ?_
  refine Go.step (T' := s₁) (f' := (mkF m 1 #[.val (.ref a1), .val .null, .unset] [.null])) (fun _ k => XS.aloadN X0.here hx rfl (hb hby d4_0) rfl rfl k) ?_
  refine Go.step (T' := s₁) (f' := (mkF m 4 #[.val (.ref a1), .val .null, .unset] [(.int (0 : Int32))])) (fun _ k => X0.instanceofNull hx (g := (mkF m 1 #[.val (.ref a1), .val .null, .unset] [.null])) rfl rfl (hb hby d4_1) _ k) ?_
  refine Go.step (T' := s₁) (f' := (mkF m 38 #[.val (.ref a1), .val .null, .unset] [])) (fun _ k => XS.ifYes X0.here hx rfl (pc0 := 4) (pc' := 38) rfl (hb hby d4_4) rfl ((if0 _ _).trans (teq (by decide : (0 : Int32) = (0 : Int32))).1) (by decide) (by decide) k) ?_
  refine Go.step (T' := s₁) (f' := (mkF m 39 #[.val (.ref a1), .val .null, .unset] [(.int (0 : Int32))])) (fun _ k => XS.iconst X0.here hx rfl (hb hby d4_38) k) ?_
  refine goN X0 hx (t := .boolean) Bd.returns (by simp) Bd.notSynchronized (hb hby d4_39) ?_ (by decide) (by decide)
  show Q_rmEqN Z a1 h0 n0 _ s₁.heap _
  rw [e0]
  exact ⟨rfl, N0, rfl⟩
theorem ef_rmEqX (m : MethodId) (a1 : Addr) (a2 : Addr) : entryFrame m #[(.ref a1), (.ref a2)] 3 = mkF m 0 #[.val (.ref a1), .val (.ref a2), .unset] [] := by first | (simp [entryFrame, mkF, argsToLocals, Value.category]; done) | rfl
def Q_rmEqX (Z : State) (a1 : Addr) (a2 : Addr) (h0 : Heap) (n0 : Nat) (rv : Option Value) (hq : Heap) (Lq : List Loc) : Prop := rv = some (.int (0 : Int32)) ∧ Fr n0 Lq ∧ hq = h0
set_option maxRecDepth 65536 in
set_option maxHeartbeats 40000000 in
theorem rmEqX (l : Launch) (Z : State) (a0 : Array Value) (hw : ∀ d ∈ tables_1, d.before a0 Z = true) (ws : List Jvm.Cond) (a1 : Addr) (a2 : Addr) (h0 : Heap) (n0 : Nat) (Z0 : n0 ≤ h0.size) (E_a2 : Exa Z h0 a2 "java/lang/Integer") :
    MetFree l (⟨"com/example/branchwise/branchwise/Interval", "equals", "(Ljava/lang/Object;)Z"⟩ : MethodName) (head1 (Jvm.Cond.code (⟨"com/example/branchwise/branchwise/Interval", "equals", "(Ljava/lang/Object;)Z"⟩ : MethodName) prog_27_method_12_code 3 (some .boolean) :: ws) ({ frames := 0, cells := 0, slots := 0, locals := 0 } : Room)) (fun a U => a = #[(.ref a1), (.ref a2)] ∧ Z.Warmed39 U.vm ∧ U.heap = h0) (fun _ _ _ _ _ => True) (fun _ U o U' => ∃ rv Lq, o = .returned rv ∧ Q_rmEqX Z a1 a2 h0 n0 rv U'.heap Lq ∧ FrameEnd U o U' Lq ({ frames := 0, cells := 0, slots := 0, locals := 0 } : Room).cells ({ frames := 0, cells := 0, slots := 0, locals := 0 } : Room).slots) := by
  refine MetFree.of_bodySF (plainFor_of_name pn_1) hisR ?_
  intro p e s m args below meth c s₁ Bd hml0 hP hK
  obtain ⟨rfl, hZ, hh⟩ := hP
  have hx := Bd.exec
  have hby := Bd.bytes
  have hml : c.maxLocals = 3 := hml0
  have hown : s.vm.findClass "com/example/branchwise/branchwise/Interval" = some m.cls := findClass_of_methodNamed Bd.named
  have hnm := (name_of_methodNamed Bd.named Bd.method).1
  have X0 : Stand p l e ({ frames := 0, cells := 0, slots := 0, locals := 0 } : Room) s m #[(.ref a1), (.ref a2)] below meth c s₁ [] 0 0 := Stand.of_body Bd
  have e0 : s₁.heap = h0 := by rw [← hh, Bd.state]; rfl
  have N0 := Fr.nil n0
  refine of_go (ef_rmEqX m a1 a2) ?_
  refine Go.step (T' := s₁) (f' := (mkF m 1 #[.val (.ref a1), .val (.ref a2), .unset] [(.ref a2)])) (fun _ k => XS.aloadN X0.here hx rfl (hb hby d4_0) rfl rfl k) ?_
  obtain ⟨T1, X1, e1, st1⟩ := instNo X0 hx hZ hown (hw _ (List.mem_of_getElem? (i := 23) rfl)) e0 E_a2 (own_no (hw _ (List.mem_of_getElem? (i := 44) rfl)) (hw _ (List.mem_of_getElem? (i := 1) rfl)) (NS.step (hw _ (List.mem_of_getElem? (i := 44) rfl)) (NS.step (hw _ (List.mem_of_getElem? (i := 45) rfl)) (own_root (hw _ (List.mem_of_getElem? (i := 46) rfl)) (hw _ (List.mem_of_getElem? (i := 1) rfl)) (by decide)) (by decide)) (by decide)) (by decide)) (g := (mkF m 1 #[.val (.ref a1), .val (.ref a2), .unset] [(.ref a2)])) rfl rfl (hb hby d4_1)
  refine Go.step (T' := T1) (f' := (mkF m 4 #[.val (.ref a1), .val (.ref a2), .unset] [(.int (0 : Int32))])) st1 ?_
  refine Go.step (T' := T1) (f' := (mkF m 38 #[.val (.ref a1), .val (.ref a2), .unset] [])) (fun _ k => XS.ifYes X1.here hx rfl (pc0 := 4) (pc' := 38) rfl (hb hby d4_4) rfl ((if0 _ _).trans (teq (by decide : (0 : Int32) = (0 : Int32))).1) (by decide) (by decide) k) ?_
  refine Go.step (T' := T1) (f' := (mkF m 39 #[.val (.ref a1), .val (.ref a2), .unset] [(.int (0 : Int32))])) (fun _ k => XS.iconst X1.here hx rfl (hb hby d4_38) k) ?_
  refine goN X1 hx (t := .boolean) Bd.returns (by simp) Bd.notSynchronized (hb hby d4_39) ?_ (by decide) (by decide)
  show Q_rmEqX Z a1 a2 h0 n0 _ T1.heap _
  rw [e1]
  exact ⟨rfl, N0, rfl⟩
theorem pd_2 : parseMethodDescriptor "(II)V" = some ⟨[.int, .int], none⟩ := by decide +kernel
theorem pd_3 : parseMethodDescriptor "(Ljava/lang/Object;)Z" = some ⟨[(.object "java/lang/Object")], some .boolean⟩ := by decide +kernel
theorem pd_4 : parseMethodDescriptor "(I)Ljava/lang/Integer;" = some ⟨[.int], some (.object "java/lang/Integer")⟩ := by decide +kernel
theorem pn_0 : plainName "com/example/branchwise/branchwise/IntervalEqualsPinLaw" = true := by first | (simp [plainName, overriddenIn]; done) | decide +kernel
theorem ef_rm0 (m : MethodId) (p1 : Int32) (p2 : Int32) (p3 : Int32) (p4 : Int32) (p5 : Int32) : entryFrame m #[(.int p1), (.int p2), (.int p3), (.int p4), (.int p5)] maxLocals = mkF m 0 #[.val (.int p1), .val (.int p2), .val (.int p3), .val (.int p4), .val (.int p5), .unset, .unset, .unset, .unset] [] := by first | (simp [entryFrame, mkF, argsToLocals, Value.category, maxLocals]; done) | rfl
def Q_rm0 (Z : State) (p1 : Int32) (p2 : Int32) (p3 : Int32) (p4 : Int32) (p5 : Int32) (s_cache : Addr) (clc : Cell) (h0 : Heap) (n0 : Nat) (rv : Option Value) (hq : Heap) (Lq : List Loc) : Prop := rv = some (.int (1 : Int32)) ∧ Fr n0 Lq
set_option maxRecDepth 65536 in
set_option maxHeartbeats 40000000 in
theorem rm0 (l : Launch) (Z : State) (a0 : Array Value) (hw : ∀ d ∈ tables_1, d.before a0 Z = true) (ws : List Jvm.Cond) (p1 : Int32) (p2 : Int32) (p3 : Int32) (p4 : Int32) (p5 : Int32) (s_cache : Addr) (clc : Cell) (h0 : Heap) (n0 : Nat) (Z0 : n0 ≤ h0.size) (O0 : Old Z n0 h0) (S_high : Sta Z Z.heap "java/lang/Integer$IntegerCache" "high" "I" (.int (127 : Int32))) (S_cache : Sta Z Z.heap "java/lang/Integer$IntegerCache" "cache" "[Ljava/lang/Integer;" (.ref s_cache)) (Arc : Arr Z Z.heap s_cache clc (.object "java/lang/Integer")) (hsz : clc.slots.size = 256) (hC : ∀ j : Int32, ¬ (j < 0 ∨ clc.slots.size ≤ j.toNatClampNeg) → ∃ r, clc.slots[j.toNatClampNeg]? = some (.ref r) ∧ Exa Z Z.heap r "java/lang/Integer") :
    MetFree l x (head1 (Jvm.Cond.code x code maxLocals ret :: ws) room_1) (fun a U => a = #[(.int p1), (.int p2), (.int p3), (.int p4), (.int p5)] ∧ Z.Warmed39 U.vm ∧ U.heap = h0) (fun _ _ _ _ _ => True) (fun _ U o U' => ∃ rv Lq, o = .returned rv ∧ Q_rm0 Z p1 p2 p3 p4 p5 s_cache clc h0 n0 rv U'.heap Lq ∧ FrameEnd U o U' Lq room_1.cells room_1.slots) := by
  refine MetFree.of_bodySF (plainFor_of_name pn_0) hisR ?_
  intro p e s m args below meth c s₁ Bd hml0 hP hK
  obtain ⟨rfl, hZ, hh⟩ := hP
  have hx := Bd.exec
  have hby := Bd.bytes
  have hml : c.maxLocals = 9 := hml0
  have hown : s.vm.findClass "com/example/branchwise/branchwise/IntervalEqualsPinLaw" = some m.cls := findClass_of_methodNamed Bd.named
  have hnm := (name_of_methodNamed Bd.named Bd.method).1
  have X0 : Stand p l e room_1 s m #[(.int p1), (.int p2), (.int p3), (.int p4), (.int p5)] below meth c s₁ [] 0 0 := Stand.of_body Bd
  have e0 : s₁.heap = h0 := by rw [← hh, Bd.state]; rfl
  have N0 := Fr.nil n0
  refine of_go (ef_rm0 m p1 p2 p3 p4 p5) ?_
  refine Go.step (T' := s₁) (f' := (mkF m 2 #[.val (.int p1), .val (.int p2), .val (.int p3), .val (.int p4), .val (.int p5), .unset, .unset, .unset, .unset] [(.int p5)])) (fun _ k => XS.iload X0.here hx rfl (hb hby at_0) rfl k) ?_
  refine Go.step (T' := s₁) (f' := (mkF m 4 #[.val (.int p1), .val (.int p2), .val (.int p3), .val (.int p4), .val (.int p5), .unset, .unset, .unset, .unset] [(.int (7 : Int32)), (.int p5)])) (fun _ k => XS.bipush X0.here hx rfl (hb hby at_2) k) ?_
  refine Go.step (T' := s₁) (f' := (mkF m 5 #[.val (.int p1), .val (.int p2), .val (.int p3), .val (.int p4), .val (.int p5), .unset, .unset, .unset, .unset] [(.int (p5 &&& (7 : Int32)))])) (fun _ k => XS.iand X0.here hx rfl (hb hby at_4) rfl k) ?_
  refine Go.step (T' := s₁) (f' := (mkF m 7 #[.val (.int p1), .val (.int p2), .val (.int p3), .val (.int p4), .val (.int p5), .val (.int (p5 &&& (7 : Int32))), .unset, .unset, .unset] [])) (fun _ k => XS.istore X0.here hx rfl (hb hby at_5) rfl (l' := #[.val (.int p1), .val (.int p2), .val (.int p3), .val (.int p4), .val (.int p5), .val (.int (p5 &&& (7 : Int32))), .unset, .unset, .unset]) rfl k) ?_
  obtain ⟨T1, h1, X1, e1, E1, A1, D1, -, st1⟩ := newO X0 hx hZ hown (hw _ (List.mem_of_getElem? (i := 0) rfl)) (hw _ (List.mem_of_getElem? (i := 1) rfl)) (hw _ (List.mem_of_getElem? (i := 2) rfl)) e0 (g := (mkF m 7 #[.val (.int p1), .val (.int p2), .val (.int p3), .val (.int p4), .val (.int p5), .val (.int (p5 &&& (7 : Int32))), .unset, .unset, .unset] [])) rfl (hb hby at_7) (by decide) (by decide)
  obtain ⟨b1, g1⟩ : ∃ z, z = h0.size := ⟨_, rfl⟩
  rw [← g1] at A1 D1 st1
  have g_b1 : n0 ≤ b1 := Nat.le_trans Z0 (Nat.le_of_eq g1.symm)
  have Z2 : n0 ≤ h1.size := Nat.le_trans Z0 E1.1
  have O2 : Old Z n0 h1 := O0.ext E1
  have F_lo_b1 : Fld Z h1 b1 "com/example/branchwise/branchwise/Interval" "lo" "I" (.int (0 : Int32)) := D1 (Or.inr (hw _ (List.mem_of_getElem? (i := 15) rfl))) (ty := .int) (by decide)
  have F_hi_b1 : Fld Z h1 b1 "com/example/branchwise/branchwise/Interval" "hi" "I" (.int (0 : Int32)) := D1 (Or.inr (hw _ (List.mem_of_getElem? (i := 17) rfl))) (ty := .int) (by decide)
  refine Go.step (T' := T1) (f' := (mkF m 10 #[.val (.int p1), .val (.int p2), .val (.int p3), .val (.int p4), .val (.int p5), .val (.int (p5 &&& (7 : Int32))), .unset, .unset, .unset] [(.ref b1)])) st1 ?_
  refine Go.step (T' := T1) (f' := (mkF m 11 #[.val (.int p1), .val (.int p2), .val (.int p3), .val (.int p4), .val (.int p5), .val (.int (p5 &&& (7 : Int32))), .unset, .unset, .unset] [(.ref b1), (.ref b1)])) (fun _ k => XS.dup X1.here hx rfl (hb hby at_10) rfl rfl k) ?_
  refine Go.step (T' := T1) (f' := (mkF m 12 #[.val (.int p1), .val (.int p2), .val (.int p3), .val (.int p4), .val (.int p5), .val (.int (p5 &&& (7 : Int32))), .unset, .unset, .unset] [(.int p1), (.ref b1), (.ref b1)])) (fun _ k => XS.iloadN X1.here hx rfl (hb hby at_11) rfl k) ?_
  refine Go.step (T' := T1) (f' := (mkF m 13 #[.val (.int p1), .val (.int p2), .val (.int p3), .val (.int p4), .val (.int p5), .val (.int (p5 &&& (7 : Int32))), .unset, .unset, .unset] [(.int p2), (.int p1), (.ref b1), (.ref b1)])) (fun _ k => XS.iloadN X1.here hx rfl (hb hby at_12) rfl k) ?_
  obtain ⟨_, _, ⟨T3, L3, k3, n3⟩, -, X3, ⟨Lc3, hQ3, l3, y3, z3⟩, st3⟩ := X1.specialBack hx (y := (⟨"com/example/branchwise/branchwise/Interval", "<init>", "(II)V"⟩ : MethodName)) rfl hown (mvT hZ (hw _ (List.mem_of_getElem? (i := 3) rfl))) (mvT hZ (hw _ (List.mem_of_getElem? (i := 4) rfl))) (mvT hZ (hw _ (List.mem_of_getElem? (i := 5) rfl))) (by decide) (backOf (W := 1) (rm1 l Z a0 hw [] b1 p1 p2 h1 n0 Z2 A1 F_lo_b1 F_hi_b1 g_b1) hZ (hw _ (List.mem_of_getElem? (i := 5) rfl)) (hw _ (List.mem_of_getElem? (i := 2) rfl)) (by decide) (by decide)) (g := (mkF m 13 #[.val (.int p1), .val (.int p2), .val (.int p3), .val (.int p4), .val (.int p5), .val (.int (p5 &&& (7 : Int32))), .unset, .unset, .unset] [(.int p2), (.int p1), (.ref b1), (.ref b1)])) rfl (by rw [hml]; rfl) (Steps.refl _) (a := b1) (argsL := [(.int p1), (.int p2)]) (rest := [(.ref b1)]) (lenOf pd_2 rfl) rfl (by show 2 * 0 + _ ≤ _; exact Nat.le_of_eq rfl) (hb hby at_13) (fun _ _ => ⟨rfl, e1, (by decide : 1 + 0 ≤ _), (by decide : 2 + 0 ≤ _)⟩)
  dsimp only [Pt.U, Pt.locs, Pt.cells, Pt.slots] at X3 l3 y3 z3 st3 hQ3
  subst l3 y3 z3
  obtain ⟨rfl, Nq3, Kq3, r3_0, r3_1⟩ := hQ3
  have N3 := Fr.app N0 Nq3
  have Z4 : n0 ≤ T3.heap.size := Nat.le_trans Z2 Kq3.1
  have O4 : Old Z n0 T3.heap := O2.keep Kq3 (allS g_b1 all0)
  refine Go.step (T' := T3) (f' := (mkF m 16 #[.val (.int p1), .val (.int p2), .val (.int p3), .val (.int p4), .val (.int p5), .val (.int (p5 &&& (7 : Int32))), .unset, .unset, .unset] [(.ref b1)])) (fun _ k => st3.trans k) ?_
  refine Go.step (T' := T3) (f' := (mkF m 18 #[.val (.int p1), .val (.int p2), .val (.int p3), .val (.int p4), .val (.int p5), .val (.int (p5 &&& (7 : Int32))), .val (.ref b1), .unset, .unset] [])) (fun _ k => XS.astore X3.here hx rfl (hb hby at_16) rfl rfl (l' := #[.val (.int p1), .val (.int p2), .val (.int p3), .val (.int p4), .val (.int p5), .val (.int (p5 &&& (7 : Int32))), .val (.ref b1), .unset, .unset]) rfl k) ?_
  refine Go.step (T' := T3) (f' := (mkF m 20 #[.val (.int p1), .val (.int p2), .val (.int p3), .val (.int p4), .val (.int p5), .val (.int (p5 &&& (7 : Int32))), .val (.ref b1), .unset, .unset] [(.int (p5 &&& (7 : Int32)))])) (fun _ k => XS.iload X3.here hx rfl (hb hby at_18) rfl k) ?_
  by_cases hc20 : (p5 &&& (7 : Int32)) = (0 : Int32)
  · refine Go.step (T' := T3) (f' := (mkF m 23 #[.val (.int p1), .val (.int p2), .val (.int p3), .val (.int p4), .val (.int p5), .val (.int (p5 &&& (7 : Int32))), .val (.ref b1), .unset, .unset] [])) (fun _ k => XS.ifNo X3.here hx rfl (hb hby at_20) rfl ((if0 _ _).trans (teq hc20).2) k) ?_
    obtain ⟨T5, h5, X5, e5, E5, A5, D5, -, st5⟩ := newO X3 hx hZ hown (hw _ (List.mem_of_getElem? (i := 0) rfl)) (hw _ (List.mem_of_getElem? (i := 1) rfl)) (hw _ (List.mem_of_getElem? (i := 2) rfl)) rfl (g := (mkF m 23 #[.val (.int p1), .val (.int p2), .val (.int p3), .val (.int p4), .val (.int p5), .val (.int (p5 &&& (7 : Int32))), .val (.ref b1), .unset, .unset] [])) rfl (hb hby at_23) (by decide) (by decide)
    obtain ⟨b5, g5⟩ : ∃ z, z = T3.heap.size := ⟨_, rfl⟩
    rw [← g5] at A5 D5 st5
    have g_b5 : n0 ≤ b5 := Nat.le_trans Z4 (Nat.le_of_eq g5.symm)
    have Z6 : n0 ≤ h5.size := Nat.le_trans Z4 E5.1
    have O6 : Old Z n0 h5 := O4.ext E5
    have F_lo_b5 : Fld Z h5 b5 "com/example/branchwise/branchwise/Interval" "lo" "I" (.int (0 : Int32)) := D5 (Or.inr (hw _ (List.mem_of_getElem? (i := 15) rfl))) (ty := .int) (by decide)
    have F_hi_b5 : Fld Z h5 b5 "com/example/branchwise/branchwise/Interval" "hi" "I" (.int (0 : Int32)) := D5 (Or.inr (hw _ (List.mem_of_getElem? (i := 17) rfl))) (ty := .int) (by decide)
    refine Go.step (T' := T5) (f' := (mkF m 26 #[.val (.int p1), .val (.int p2), .val (.int p3), .val (.int p4), .val (.int p5), .val (.int (p5 &&& (7 : Int32))), .val (.ref b1), .unset, .unset] [(.ref b5)])) st5 ?_
    refine Go.step (T' := T5) (f' := (mkF m 27 #[.val (.int p1), .val (.int p2), .val (.int p3), .val (.int p4), .val (.int p5), .val (.int (p5 &&& (7 : Int32))), .val (.ref b1), .unset, .unset] [(.ref b5), (.ref b5)])) (fun _ k => XS.dup X5.here hx rfl (hb hby at_26) rfl rfl k) ?_
    refine Go.step (T' := T5) (f' := (mkF m 28 #[.val (.int p1), .val (.int p2), .val (.int p3), .val (.int p4), .val (.int p5), .val (.int (p5 &&& (7 : Int32))), .val (.ref b1), .unset, .unset] [(.int p3), (.ref b5), (.ref b5)])) (fun _ k => XS.iloadN X5.here hx rfl (hb hby at_27) rfl k) ?_
    refine Go.step (T' := T5) (f' := (mkF m 29 #[.val (.int p1), .val (.int p2), .val (.int p3), .val (.int p4), .val (.int p5), .val (.int (p5 &&& (7 : Int32))), .val (.ref b1), .unset, .unset] [(.int p4), (.int p3), (.ref b5), (.ref b5)])) (fun _ k => XS.iloadN X5.here hx rfl (hb hby at_28) rfl k) ?_
    obtain ⟨_, _, ⟨T7, L7, k7, n7⟩, -, X7, ⟨Lc7, hQ7, l7, y7, z7⟩, st7⟩ := X5.specialBack hx (y := (⟨"com/example/branchwise/branchwise/Interval", "<init>", "(II)V"⟩ : MethodName)) rfl hown (mvT hZ (hw _ (List.mem_of_getElem? (i := 3) rfl))) (mvT hZ (hw _ (List.mem_of_getElem? (i := 4) rfl))) (mvT hZ (hw _ (List.mem_of_getElem? (i := 5) rfl))) (by decide) (backOf (W := 1) (rm1 l Z a0 hw [] b5 p3 p4 h5 n0 Z6 A5 F_lo_b5 F_hi_b5 g_b5) hZ (hw _ (List.mem_of_getElem? (i := 5) rfl)) (hw _ (List.mem_of_getElem? (i := 2) rfl)) (by decide) (by decide)) (g := (mkF m 29 #[.val (.int p1), .val (.int p2), .val (.int p3), .val (.int p4), .val (.int p5), .val (.int (p5 &&& (7 : Int32))), .val (.ref b1), .unset, .unset] [(.int p4), (.int p3), (.ref b5), (.ref b5)])) rfl (by rw [hml]; rfl) (Steps.refl _) (a := b5) (argsL := [(.int p3), (.int p4)]) (rest := [(.ref b5)]) (lenOf pd_2 rfl) rfl (by show 2 * 0 + _ ≤ _; exact Nat.le_of_eq rfl) (hb hby at_29) (fun _ _ => ⟨rfl, e5, (by decide : 2 + 0 ≤ _), (by decide : 4 + 0 ≤ _)⟩)
    dsimp only [Pt.U, Pt.locs, Pt.cells, Pt.slots] at X7 l7 y7 z7 st7 hQ7
    subst l7 y7 z7
    obtain ⟨rfl, Nq7, Kq7, r7_0, r7_1⟩ := hQ7
    have N7 := Fr.app N3 Nq7
    have Z8 : n0 ≤ T7.heap.size := Nat.le_trans Z6 Kq7.1
    have O8 : Old Z n0 T7.heap := O6.keep Kq7 (allS g_b5 all0)
    refine Go.step (T' := T7) (f' := (mkF m 32 #[.val (.int p1), .val (.int p2), .val (.int p3), .val (.int p4), .val (.int p5), .val (.int (p5 &&& (7 : Int32))), .val (.ref b1), .unset, .unset] [(.ref b5)])) (fun _ k => st7.trans k) ?_
    refine Go.step (T' := T7) (f' := (mkF m 34 #[.val (.int p1), .val (.int p2), .val (.int p3), .val (.int p4), .val (.int p5), .val (.int (p5 &&& (7 : Int32))), .val (.ref b1), .val (.ref b5), .unset] [])) (fun _ k => XS.astore X7.here hx rfl (hb hby at_32) rfl rfl (l' := #[.val (.int p1), .val (.int p2), .val (.int p3), .val (.int p4), .val (.int p5), .val (.int (p5 &&& (7 : Int32))), .val (.ref b1), .val (.ref b5), .unset]) rfl k) ?_
    refine Go.step (T' := T7) (f' := (mkF m 35 #[.val (.int p1), .val (.int p2), .val (.int p3), .val (.int p4), .val (.int p5), .val (.int (p5 &&& (7 : Int32))), .val (.ref b1), .val (.ref b5), .unset] [(.int p1)])) (fun _ k => XS.iloadN X7.here hx rfl (hb hby at_34) rfl k) ?_
    refine Go.step (T' := T7) (f' := (mkF m 36 #[.val (.int p1), .val (.int p2), .val (.int p3), .val (.int p4), .val (.int p5), .val (.int (p5 &&& (7 : Int32))), .val (.ref b1), .val (.ref b5), .unset] [(.int p3), (.int p1)])) (fun _ k => XS.iloadN X7.here hx rfl (hb hby at_35) rfl k) ?_
    by_cases hc36 : p1 = p3
    · refine Go.step (T' := T7) (f' := (mkF m 39 #[.val (.int p1), .val (.int p2), .val (.int p3), .val (.int p4), .val (.int p5), .val (.int (p5 &&& (7 : Int32))), .val (.ref b1), .val (.ref b5), .unset] [])) (fun _ k => XS.icmpNo X7.here hx rfl (hb hby at_36) rfl (teq hc36).2 k) ?_
      refine Go.step (T' := T7) (f' := (mkF m 40 #[.val (.int p1), .val (.int p2), .val (.int p3), .val (.int p4), .val (.int p5), .val (.int (p5 &&& (7 : Int32))), .val (.ref b1), .val (.ref b5), .unset] [(.int p2)])) (fun _ k => XS.iloadN X7.here hx rfl (hb hby at_39) rfl k) ?_
      refine Go.step (T' := T7) (f' := (mkF m 41 #[.val (.int p1), .val (.int p2), .val (.int p3), .val (.int p4), .val (.int p5), .val (.int (p5 &&& (7 : Int32))), .val (.ref b1), .val (.ref b5), .unset] [(.int p4), (.int p2)])) (fun _ k => XS.iloadN X7.here hx rfl (hb hby at_40) rfl k) ?_
      by_cases hc41 : p2 = p4
      · refine Go.step (T' := T7) (f' := (mkF m 44 #[.val (.int p1), .val (.int p2), .val (.int p3), .val (.int p4), .val (.int p5), .val (.int (p5 &&& (7 : Int32))), .val (.ref b1), .val (.ref b5), .unset] [])) (fun _ k => XS.icmpNo X7.here hx rfl (hb hby at_41) rfl (teq hc41).2 k) ?_
        refine Go.step (T' := T7) (f' := (mkF m 45 #[.val (.int p1), .val (.int p2), .val (.int p3), .val (.int p4), .val (.int p5), .val (.int (p5 &&& (7 : Int32))), .val (.ref b1), .val (.ref b5), .unset] [(.int (1 : Int32))])) (fun _ k => XS.iconst X7.here hx rfl (hb hby at_44) k) ?_
        refine Go.step (T' := T7) (f' := (mkF m 49 #[.val (.int p1), .val (.int p2), .val (.int p3), .val (.int p4), .val (.int p5), .val (.int (p5 &&& (7 : Int32))), .val (.ref b1), .val (.ref b5), .unset] [(.int (1 : Int32))])) (fun _ k => XS.goto X7.here hx rfl (pc0 := 45) (pc' := 49) rfl (hb hby at_45) (by decide) (by decide) k) ?_
        refine Go.step (T' := T7) (f' := (mkF m 51 #[.val (.int p1), .val (.int p2), .val (.int p3), .val (.int p4), .val (.int p5), .val (.int (p5 &&& (7 : Int32))), .val (.ref b1), .val (.ref b5), .val (.int (1 : Int32))] [])) (fun _ k => XS.istore X7.here hx rfl (hb hby at_49) rfl (l' := #[.val (.int p1), .val (.int p2), .val (.int p3), .val (.int p4), .val (.int p5), .val (.int (p5 &&& (7 : Int32))), .val (.ref b1), .val (.ref b5), .val (.int (1 : Int32))]) rfl k) ?_
        refine Go.step (T' := T7) (f' := (mkF m 214 #[.val (.int p1), .val (.int p2), .val (.int p3), .val (.int p4), .val (.int p5), .val (.int (p5 &&& (7 : Int32))), .val (.ref b1), .val (.ref b5), .val (.int (1 : Int32))] [])) (fun _ k => XS.goto X7.here hx rfl (pc0 := 51) (pc' := 214) rfl (hb hby at_51) (by decide) (by decide) k) ?_
        refine Go.step (T' := T7) (f' := (mkF m 216 #[.val (.int p1), .val (.int p2), .val (.int p3), .val (.int p4), .val (.int p5), .val (.int (p5 &&& (7 : Int32))), .val (.ref b1), .val (.ref b5), .val (.int (1 : Int32))] [(.ref b1)])) (fun _ k => XS.aload X7.here hx rfl (hb hby at_214) rfl rfl k) ?_
        refine Go.step (T' := T7) (f' := (mkF m 218 #[.val (.int p1), .val (.int p2), .val (.int p3), .val (.int p4), .val (.int p5), .val (.int (p5 &&& (7 : Int32))), .val (.ref b1), .val (.ref b5), .val (.int (1 : Int32))] [(.ref b5), (.ref b1)])) (fun _ k => XS.aload X7.here hx rfl (hb hby at_216) rfl rfl k) ?_
        have q10 : Exa Z T7.heap b5 "com/example/branchwise/branchwise/Interval" := (A5.keep Kq7)
        have q11 : Fld Z T7.heap b1 "com/example/branchwise/branchwise/Interval" "lo" "I" (.int p1) := ((r3_0.ext E5).keep Kq7 (ninS (Nat.ne_of_lt (Nat.lt_of_lt_of_le (A1.keep Kq3).lt (Nat.le_of_eq g5.symm))) nin0))
        have q12 : Fld Z T7.heap b1 "com/example/branchwise/branchwise/Interval" "hi" "I" (.int p2) := ((r3_1.ext E5).keep Kq7 (ninS (Nat.ne_of_lt (Nat.lt_of_lt_of_le (A1.keep Kq3).lt (Nat.le_of_eq g5.symm))) nin0))
        have q13 : Exa Z T7.heap b1 "com/example/branchwise/branchwise/Interval" := (((A1.keep Kq3).ext E5).keep Kq7)
        obtain ⟨cq9, kq9, q9a, q9b, q9c⟩ := isOf hZ rfl q13
        obtain ⟨_, _, ⟨T9, L9, k9, n9⟩, -, X9, ⟨Lc9, hQ9, l9, y9, z9⟩, st9⟩ := X7.virtualBack hx (y := (⟨"com/example/branchwise/branchwise/Interval", "equals", "(Ljava/lang/Object;)Z"⟩ : MethodName)) (z := (⟨"com/example/branchwise/branchwise/Interval", "equals", "(Ljava/lang/Object;)Z"⟩ : MethodName)) hown (mvT hZ (hw _ (List.mem_of_getElem? (i := 18) rfl))) (mvT hZ (hw _ (List.mem_of_getElem? (i := 19) rfl))) (notFace_of_selects (args := #[]) (mvT hZ (hw _ (List.mem_of_getElem? (i := 21) rfl)))) (mvT hZ (hw _ (List.mem_of_getElem? (i := 21) rfl))) (mvT hZ (hw _ (List.mem_of_getElem? (i := 20) rfl))) (by decide) (backOf (W := 0) (rmEqI l Z a0 hw [] b1 b5 p1 p2 p3 p4 T7.heap n0 Z8 q10 q11 q12 r7_0 r7_1) hZ (hw _ (List.mem_of_getElem? (i := 22) rfl)) (hw _ (List.mem_of_getElem? (i := 2) rfl)) (by decide) (by decide)) q9a q9c (g := (mkF m 218 #[.val (.int p1), .val (.int p2), .val (.int p3), .val (.int p4), .val (.int p5), .val (.int (p5 &&& (7 : Int32))), .val (.ref b1), .val (.ref b5), .val (.int (1 : Int32))] [(.ref b5), (.ref b1)])) rfl (by rw [hml]; rfl) (Steps.refl _) (argsL := [(.ref b5)]) (rest := []) (lenOf pd_3 rfl) rfl (by show 2 * 0 + _ ≤ _; exact Nat.le_of_eq rfl) (hb hby at_218) (fun _ _ => ⟨rfl, rfl, (by decide : 2 + 0 ≤ _), (by decide : 4 + 0 ≤ _)⟩)
        dsimp only [Pt.U, Pt.locs, Pt.cells, Pt.slots] at X9 l9 y9 z9 st9 hQ9
        subst l9 y9 z9
        obtain ⟨rfl, Nq9, eh9⟩ := hQ9
        have N9 := Fr.app N7 Nq9
        refine Go.step (T' := T9) (f' := (mkF m 221 #[.val (.int p1), .val (.int p2), .val (.int p3), .val (.int p4), .val (.int p5), .val (.int (p5 &&& (7 : Int32))), .val (.ref b1), .val (.ref b5), .val (.int (1 : Int32))] [(.int (own_eq p1 p2 p3 p4))])) (fun _ k => st9.trans k) ?_
        refine Go.step (T' := T9) (f' := (mkF m 223 #[.val (.int p1), .val (.int p2), .val (.int p3), .val (.int p4), .val (.int p5), .val (.int (p5 &&& (7 : Int32))), .val (.ref b1), .val (.ref b5), .val (.int (1 : Int32))] [(.int (1 : Int32)), (.int (own_eq p1 p2 p3 p4))])) (fun _ k => XS.iload X9.here hx rfl (hb hby at_221) rfl k) ?_
        refine Go.step (T' := T9) (f' := (mkF m 226 #[.val (.int p1), .val (.int p2), .val (.int p3), .val (.int p4), .val (.int p5), .val (.int (p5 &&& (7 : Int32))), .val (.ref b1), .val (.ref b5), .val (.int (1 : Int32))] [])) (fun _ k => XS.icmpNo X9.here hx rfl (hb hby at_223) rfl (teq (own_eq1 (by simp only [Int32.lt_iff_toInt_lt, ← Int32.toInt_inj, Int32.reduceToInt] at hc20 hc36 hc41 <;> omega))).2 k) ?_
        refine Go.step (T' := T9) (f' := (mkF m 227 #[.val (.int p1), .val (.int p2), .val (.int p3), .val (.int p4), .val (.int p5), .val (.int (p5 &&& (7 : Int32))), .val (.ref b1), .val (.ref b5), .val (.int (1 : Int32))] [(.int (1 : Int32))])) (fun _ k => XS.iconst X9.here hx rfl (hb hby at_226) k) ?_
        refine Go.step (T' := T9) (f' := (mkF m 231 #[.val (.int p1), .val (.int p2), .val (.int p3), .val (.int p4), .val (.int p5), .val (.int (p5 &&& (7 : Int32))), .val (.ref b1), .val (.ref b5), .val (.int (1 : Int32))] [(.int (1 : Int32))])) (fun _ k => XS.goto X9.here hx rfl (pc0 := 227) (pc' := 231) rfl (hb hby at_227) (by decide) (by decide) k) ?_
        refine goN X9 hx (t := .boolean) Bd.returns (by simp) Bd.notSynchronized (hb hby at_231) ?_ (by decide) (by decide)
        show Q_rm0 Z p1 p2 p3 p4 p5 s_cache clc h0 n0 _ T9.heap _
        rw [eh9]
        exact ⟨rfl, N9⟩
      · refine Go.step (T' := T7) (f' := (mkF m 48 #[.val (.int p1), .val (.int p2), .val (.int p3), .val (.int p4), .val (.int p5), .val (.int (p5 &&& (7 : Int32))), .val (.ref b1), .val (.ref b5), .unset] [])) (fun _ k => XS.icmpYes X7.here hx rfl (pc0 := 41) (pc' := 48) rfl (hb hby at_41) rfl (feq hc41).2 (by decide) (by decide) k) ?_
        refine Go.step (T' := T7) (f' := (mkF m 49 #[.val (.int p1), .val (.int p2), .val (.int p3), .val (.int p4), .val (.int p5), .val (.int (p5 &&& (7 : Int32))), .val (.ref b1), .val (.ref b5), .unset] [(.int (0 : Int32))])) (fun _ k => XS.iconst X7.here hx rfl (hb hby at_48) k) ?_
        refine Go.step (T' := T7) (f' := (mkF m 51 #[.val (.int p1), .val (.int p2), .val (.int p3), .val (.int p4), .val (.int p5), .val (.int (p5 &&& (7 : Int32))), .val (.ref b1), .val (.ref b5), .val (.int (0 : Int32))] [])) (fun _ k => XS.istore X7.here hx rfl (hb hby at_49) rfl (l' := #[.val (.int p1), .val (.int p2), .val (.int p3), .val (.int p4), .val (.int p5), .val (.int (p5 &&& (7 : Int32))), .val (.ref b1), .val (.ref b5), .val (.int (0 : Int32))]) rfl k) ?_
        refine Go.step (T' := T7) (f' := (mkF m 214 #[.val (.int p1), .val (.int p2), .val (.int p3), .val (.int p4), .val (.int p5), .val (.int (p5 &&& (7 : Int32))), .val (.ref b1), .val (.ref b5), .val (.int (0 : Int32))] [])) (fun _ k => XS.goto X7.here hx rfl (pc0 := 51) (pc' := 214) rfl (hb hby at_51) (by decide) (by decide) k) ?_
        refine Go.step (T' := T7) (f' := (mkF m 216 #[.val (.int p1), .val (.int p2), .val (.int p3), .val (.int p4), .val (.int p5), .val (.int (p5 &&& (7 : Int32))), .val (.ref b1), .val (.ref b5), .val (.int (0 : Int32))] [(.ref b1)])) (fun _ k => XS.aload X7.here hx rfl (hb hby at_214) rfl rfl k) ?_
        refine Go.step (T' := T7) (f' := (mkF m 218 #[.val (.int p1), .val (.int p2), .val (.int p3), .val (.int p4), .val (.int p5), .val (.int (p5 &&& (7 : Int32))), .val (.ref b1), .val (.ref b5), .val (.int (0 : Int32))] [(.ref b5), (.ref b1)])) (fun _ k => XS.aload X7.here hx rfl (hb hby at_216) rfl rfl k) ?_
        have q15 : Exa Z T7.heap b5 "com/example/branchwise/branchwise/Interval" := (A5.keep Kq7)
        have q16 : Fld Z T7.heap b1 "com/example/branchwise/branchwise/Interval" "lo" "I" (.int p1) := ((r3_0.ext E5).keep Kq7 (ninS (Nat.ne_of_lt (Nat.lt_of_lt_of_le (A1.keep Kq3).lt (Nat.le_of_eq g5.symm))) nin0))
        have q17 : Fld Z T7.heap b1 "com/example/branchwise/branchwise/Interval" "hi" "I" (.int p2) := ((r3_1.ext E5).keep Kq7 (ninS (Nat.ne_of_lt (Nat.lt_of_lt_of_le (A1.keep Kq3).lt (Nat.le_of_eq g5.symm))) nin0))
        have q18 : Exa Z T7.heap b1 "com/example/branchwise/branchwise/Interval" := (((A1.keep Kq3).ext E5).keep Kq7)
        obtain ⟨cq14, kq14, q14a, q14b, q14c⟩ := isOf hZ rfl q18
        obtain ⟨_, _, ⟨T14, L14, k14, n14⟩, -, X14, ⟨Lc14, hQ14, l14, y14, z14⟩, st14⟩ := X7.virtualBack hx (y := (⟨"com/example/branchwise/branchwise/Interval", "equals", "(Ljava/lang/Object;)Z"⟩ : MethodName)) (z := (⟨"com/example/branchwise/branchwise/Interval", "equals", "(Ljava/lang/Object;)Z"⟩ : MethodName)) hown (mvT hZ (hw _ (List.mem_of_getElem? (i := 18) rfl))) (mvT hZ (hw _ (List.mem_of_getElem? (i := 19) rfl))) (notFace_of_selects (args := #[]) (mvT hZ (hw _ (List.mem_of_getElem? (i := 21) rfl)))) (mvT hZ (hw _ (List.mem_of_getElem? (i := 21) rfl))) (mvT hZ (hw _ (List.mem_of_getElem? (i := 20) rfl))) (by decide) (backOf (W := 0) (rmEqI l Z a0 hw [] b1 b5 p1 p2 p3 p4 T7.heap n0 Z8 q15 q16 q17 r7_0 r7_1) hZ (hw _ (List.mem_of_getElem? (i := 22) rfl)) (hw _ (List.mem_of_getElem? (i := 2) rfl)) (by decide) (by decide)) q14a q14c (g := (mkF m 218 #[.val (.int p1), .val (.int p2), .val (.int p3), .val (.int p4), .val (.int p5), .val (.int (p5 &&& (7 : Int32))), .val (.ref b1), .val (.ref b5), .val (.int (0 : Int32))] [(.ref b5), (.ref b1)])) rfl (by rw [hml]; rfl) (Steps.refl _) (argsL := [(.ref b5)]) (rest := []) (lenOf pd_3 rfl) rfl (by show 2 * 0 + _ ≤ _; exact Nat.le_of_eq rfl) (hb hby at_218) (fun _ _ => ⟨rfl, rfl, (by decide : 2 + 0 ≤ _), (by decide : 4 + 0 ≤ _)⟩)
        dsimp only [Pt.U, Pt.locs, Pt.cells, Pt.slots] at X14 l14 y14 z14 st14 hQ14
        subst l14 y14 z14
        obtain ⟨rfl, Nq14, eh14⟩ := hQ14
        have N14 := Fr.app N7 Nq14
        refine Go.step (T' := T14) (f' := (mkF m 221 #[.val (.int p1), .val (.int p2), .val (.int p3), .val (.int p4), .val (.int p5), .val (.int (p5 &&& (7 : Int32))), .val (.ref b1), .val (.ref b5), .val (.int (0 : Int32))] [(.int (own_eq p1 p2 p3 p4))])) (fun _ k => st14.trans k) ?_
        refine Go.step (T' := T14) (f' := (mkF m 223 #[.val (.int p1), .val (.int p2), .val (.int p3), .val (.int p4), .val (.int p5), .val (.int (p5 &&& (7 : Int32))), .val (.ref b1), .val (.ref b5), .val (.int (0 : Int32))] [(.int (0 : Int32)), (.int (own_eq p1 p2 p3 p4))])) (fun _ k => XS.iload X14.here hx rfl (hb hby at_221) rfl k) ?_
        refine Go.step (T' := T14) (f' := (mkF m 226 #[.val (.int p1), .val (.int p2), .val (.int p3), .val (.int p4), .val (.int p5), .val (.int (p5 &&& (7 : Int32))), .val (.ref b1), .val (.ref b5), .val (.int (0 : Int32))] [])) (fun _ k => XS.icmpNo X14.here hx rfl (hb hby at_223) rfl (teq (own_eq0 (by simp only [Int32.lt_iff_toInt_lt, ← Int32.toInt_inj, Int32.reduceToInt] at hc20 hc36 hc41 <;> omega))).2 k) ?_
        refine Go.step (T' := T14) (f' := (mkF m 227 #[.val (.int p1), .val (.int p2), .val (.int p3), .val (.int p4), .val (.int p5), .val (.int (p5 &&& (7 : Int32))), .val (.ref b1), .val (.ref b5), .val (.int (0 : Int32))] [(.int (1 : Int32))])) (fun _ k => XS.iconst X14.here hx rfl (hb hby at_226) k) ?_
        refine Go.step (T' := T14) (f' := (mkF m 231 #[.val (.int p1), .val (.int p2), .val (.int p3), .val (.int p4), .val (.int p5), .val (.int (p5 &&& (7 : Int32))), .val (.ref b1), .val (.ref b5), .val (.int (0 : Int32))] [(.int (1 : Int32))])) (fun _ k => XS.goto X14.here hx rfl (pc0 := 227) (pc' := 231) rfl (hb hby at_227) (by decide) (by decide) k) ?_
        refine goN X14 hx (t := .boolean) Bd.returns (by simp) Bd.notSynchronized (hb hby at_231) ?_ (by decide) (by decide)
        show Q_rm0 Z p1 p2 p3 p4 p5 s_cache clc h0 n0 _ T14.heap _
        rw [eh14]
        exact ⟨rfl, N14⟩
    · refine Go.step (T' := T7) (f' := (mkF m 48 #[.val (.int p1), .val (.int p2), .val (.int p3), .val (.int p4), .val (.int p5), .val (.int (p5 &&& (7 : Int32))), .val (.ref b1), .val (.ref b5), .unset] [])) (fun _ k => XS.icmpYes X7.here hx rfl (pc0 := 36) (pc' := 48) rfl (hb hby at_36) rfl (feq hc36).2 (by decide) (by decide) k) ?_
      refine Go.step (T' := T7) (f' := (mkF m 49 #[.val (.int p1), .val (.int p2), .val (.int p3), .val (.int p4), .val (.int p5), .val (.int (p5 &&& (7 : Int32))), .val (.ref b1), .val (.ref b5), .unset] [(.int (0 : Int32))])) (fun _ k => XS.iconst X7.here hx rfl (hb hby at_48) k) ?_
      refine Go.step (T' := T7) (f' := (mkF m 51 #[.val (.int p1), .val (.int p2), .val (.int p3), .val (.int p4), .val (.int p5), .val (.int (p5 &&& (7 : Int32))), .val (.ref b1), .val (.ref b5), .val (.int (0 : Int32))] [])) (fun _ k => XS.istore X7.here hx rfl (hb hby at_49) rfl (l' := #[.val (.int p1), .val (.int p2), .val (.int p3), .val (.int p4), .val (.int p5), .val (.int (p5 &&& (7 : Int32))), .val (.ref b1), .val (.ref b5), .val (.int (0 : Int32))]) rfl k) ?_
      refine Go.step (T' := T7) (f' := (mkF m 214 #[.val (.int p1), .val (.int p2), .val (.int p3), .val (.int p4), .val (.int p5), .val (.int (p5 &&& (7 : Int32))), .val (.ref b1), .val (.ref b5), .val (.int (0 : Int32))] [])) (fun _ k => XS.goto X7.here hx rfl (pc0 := 51) (pc' := 214) rfl (hb hby at_51) (by decide) (by decide) k) ?_
      refine Go.step (T' := T7) (f' := (mkF m 216 #[.val (.int p1), .val (.int p2), .val (.int p3), .val (.int p4), .val (.int p5), .val (.int (p5 &&& (7 : Int32))), .val (.ref b1), .val (.ref b5), .val (.int (0 : Int32))] [(.ref b1)])) (fun _ k => XS.aload X7.here hx rfl (hb hby at_214) rfl rfl k) ?_
      refine Go.step (T' := T7) (f' := (mkF m 218 #[.val (.int p1), .val (.int p2), .val (.int p3), .val (.int p4), .val (.int p5), .val (.int (p5 &&& (7 : Int32))), .val (.ref b1), .val (.ref b5), .val (.int (0 : Int32))] [(.ref b5), (.ref b1)])) (fun _ k => XS.aload X7.here hx rfl (hb hby at_216) rfl rfl k) ?_
      have q20 : Exa Z T7.heap b5 "com/example/branchwise/branchwise/Interval" := (A5.keep Kq7)
      have q21 : Fld Z T7.heap b1 "com/example/branchwise/branchwise/Interval" "lo" "I" (.int p1) := ((r3_0.ext E5).keep Kq7 (ninS (Nat.ne_of_lt (Nat.lt_of_lt_of_le (A1.keep Kq3).lt (Nat.le_of_eq g5.symm))) nin0))
      have q22 : Fld Z T7.heap b1 "com/example/branchwise/branchwise/Interval" "hi" "I" (.int p2) := ((r3_1.ext E5).keep Kq7 (ninS (Nat.ne_of_lt (Nat.lt_of_lt_of_le (A1.keep Kq3).lt (Nat.le_of_eq g5.symm))) nin0))
      have q23 : Exa Z T7.heap b1 "com/example/branchwise/branchwise/Interval" := (((A1.keep Kq3).ext E5).keep Kq7)
      obtain ⟨cq19, kq19, q19a, q19b, q19c⟩ := isOf hZ rfl q23
      obtain ⟨_, _, ⟨T19, L19, k19, n19⟩, -, X19, ⟨Lc19, hQ19, l19, y19, z19⟩, st19⟩ := X7.virtualBack hx (y := (⟨"com/example/branchwise/branchwise/Interval", "equals", "(Ljava/lang/Object;)Z"⟩ : MethodName)) (z := (⟨"com/example/branchwise/branchwise/Interval", "equals", "(Ljava/lang/Object;)Z"⟩ : MethodName)) hown (mvT hZ (hw _ (List.mem_of_getElem? (i := 18) rfl))) (mvT hZ (hw _ (List.mem_of_getElem? (i := 19) rfl))) (notFace_of_selects (args := #[]) (mvT hZ (hw _ (List.mem_of_getElem? (i := 21) rfl)))) (mvT hZ (hw _ (List.mem_of_getElem? (i := 21) rfl))) (mvT hZ (hw _ (List.mem_of_getElem? (i := 20) rfl))) (by decide) (backOf (W := 0) (rmEqI l Z a0 hw [] b1 b5 p1 p2 p3 p4 T7.heap n0 Z8 q20 q21 q22 r7_0 r7_1) hZ (hw _ (List.mem_of_getElem? (i := 22) rfl)) (hw _ (List.mem_of_getElem? (i := 2) rfl)) (by decide) (by decide)) q19a q19c (g := (mkF m 218 #[.val (.int p1), .val (.int p2), .val (.int p3), .val (.int p4), .val (.int p5), .val (.int (p5 &&& (7 : Int32))), .val (.ref b1), .val (.ref b5), .val (.int (0 : Int32))] [(.ref b5), (.ref b1)])) rfl (by rw [hml]; rfl) (Steps.refl _) (argsL := [(.ref b5)]) (rest := []) (lenOf pd_3 rfl) rfl (by show 2 * 0 + _ ≤ _; exact Nat.le_of_eq rfl) (hb hby at_218) (fun _ _ => ⟨rfl, rfl, (by decide : 2 + 0 ≤ _), (by decide : 4 + 0 ≤ _)⟩)
      dsimp only [Pt.U, Pt.locs, Pt.cells, Pt.slots] at X19 l19 y19 z19 st19 hQ19
      subst l19 y19 z19
      obtain ⟨rfl, Nq19, eh19⟩ := hQ19
      have N19 := Fr.app N7 Nq19
      refine Go.step (T' := T19) (f' := (mkF m 221 #[.val (.int p1), .val (.int p2), .val (.int p3), .val (.int p4), .val (.int p5), .val (.int (p5 &&& (7 : Int32))), .val (.ref b1), .val (.ref b5), .val (.int (0 : Int32))] [(.int (own_eq p1 p2 p3 p4))])) (fun _ k => st19.trans k) ?_
      refine Go.step (T' := T19) (f' := (mkF m 223 #[.val (.int p1), .val (.int p2), .val (.int p3), .val (.int p4), .val (.int p5), .val (.int (p5 &&& (7 : Int32))), .val (.ref b1), .val (.ref b5), .val (.int (0 : Int32))] [(.int (0 : Int32)), (.int (own_eq p1 p2 p3 p4))])) (fun _ k => XS.iload X19.here hx rfl (hb hby at_221) rfl k) ?_
      refine Go.step (T' := T19) (f' := (mkF m 226 #[.val (.int p1), .val (.int p2), .val (.int p3), .val (.int p4), .val (.int p5), .val (.int (p5 &&& (7 : Int32))), .val (.ref b1), .val (.ref b5), .val (.int (0 : Int32))] [])) (fun _ k => XS.icmpNo X19.here hx rfl (hb hby at_223) rfl (teq (own_eq0 (by simp only [Int32.lt_iff_toInt_lt, ← Int32.toInt_inj, Int32.reduceToInt] at hc20 hc36 <;> omega))).2 k) ?_
      refine Go.step (T' := T19) (f' := (mkF m 227 #[.val (.int p1), .val (.int p2), .val (.int p3), .val (.int p4), .val (.int p5), .val (.int (p5 &&& (7 : Int32))), .val (.ref b1), .val (.ref b5), .val (.int (0 : Int32))] [(.int (1 : Int32))])) (fun _ k => XS.iconst X19.here hx rfl (hb hby at_226) k) ?_
      refine Go.step (T' := T19) (f' := (mkF m 231 #[.val (.int p1), .val (.int p2), .val (.int p3), .val (.int p4), .val (.int p5), .val (.int (p5 &&& (7 : Int32))), .val (.ref b1), .val (.ref b5), .val (.int (0 : Int32))] [(.int (1 : Int32))])) (fun _ k => XS.goto X19.here hx rfl (pc0 := 227) (pc' := 231) rfl (hb hby at_227) (by decide) (by decide) k) ?_
      refine goN X19 hx (t := .boolean) Bd.returns (by simp) Bd.notSynchronized (hb hby at_231) ?_ (by decide) (by decide)
      show Q_rm0 Z p1 p2 p3 p4 p5 s_cache clc h0 n0 _ T19.heap _
      rw [eh19]
      exact ⟨rfl, N19⟩
  · refine Go.step (T' := T3) (f' := (mkF m 54 #[.val (.int p1), .val (.int p2), .val (.int p3), .val (.int p4), .val (.int p5), .val (.int (p5 &&& (7 : Int32))), .val (.ref b1), .unset, .unset] [])) (fun _ k => XS.ifYes X3.here hx rfl (pc0 := 20) (pc' := 54) rfl (hb hby at_20) rfl ((if0 _ _).trans (feq hc20).2) (by decide) (by decide) k) ?_
    refine Go.step (T' := T3) (f' := (mkF m 56 #[.val (.int p1), .val (.int p2), .val (.int p3), .val (.int p4), .val (.int p5), .val (.int (p5 &&& (7 : Int32))), .val (.ref b1), .unset, .unset] [(.int (p5 &&& (7 : Int32)))])) (fun _ k => XS.iload X3.here hx rfl (hb hby at_54) rfl k) ?_
    refine Go.step (T' := T3) (f' := (mkF m 57 #[.val (.int p1), .val (.int p2), .val (.int p3), .val (.int p4), .val (.int p5), .val (.int (p5 &&& (7 : Int32))), .val (.ref b1), .unset, .unset] [(.int (1 : Int32)), (.int (p5 &&& (7 : Int32)))])) (fun _ k => XS.iconst X3.here hx rfl (hb hby at_56) k) ?_
    by_cases hc57 : (p5 &&& (7 : Int32)) = (1 : Int32)
    · refine Go.step (T' := T3) (f' := (mkF m 60 #[.val (.int p1), .val (.int p2), .val (.int p3), .val (.int p4), .val (.int p5), .val (.int (p5 &&& (7 : Int32))), .val (.ref b1), .unset, .unset] [])) (fun _ k => XS.icmpNo X3.here hx rfl (hb hby at_57) rfl (teq hc57).2 k) ?_
      obtain ⟨T24, h24, X24, e24, E24, A24, D24, -, st24⟩ := newO X3 hx hZ hown (hw _ (List.mem_of_getElem? (i := 0) rfl)) (hw _ (List.mem_of_getElem? (i := 1) rfl)) (hw _ (List.mem_of_getElem? (i := 2) rfl)) rfl (g := (mkF m 60 #[.val (.int p1), .val (.int p2), .val (.int p3), .val (.int p4), .val (.int p5), .val (.int (p5 &&& (7 : Int32))), .val (.ref b1), .unset, .unset] [])) rfl (hb hby at_60) (by decide) (by decide)
      obtain ⟨b24, g24⟩ : ∃ z, z = T3.heap.size := ⟨_, rfl⟩
      rw [← g24] at A24 D24 st24
      have g_b24 : n0 ≤ b24 := Nat.le_trans Z4 (Nat.le_of_eq g24.symm)
      have Z25 : n0 ≤ h24.size := Nat.le_trans Z4 E24.1
      have O25 : Old Z n0 h24 := O4.ext E24
      have F_lo_b24 : Fld Z h24 b24 "com/example/branchwise/branchwise/Interval" "lo" "I" (.int (0 : Int32)) := D24 (Or.inr (hw _ (List.mem_of_getElem? (i := 15) rfl))) (ty := .int) (by decide)
      have F_hi_b24 : Fld Z h24 b24 "com/example/branchwise/branchwise/Interval" "hi" "I" (.int (0 : Int32)) := D24 (Or.inr (hw _ (List.mem_of_getElem? (i := 17) rfl))) (ty := .int) (by decide)
      refine Go.step (T' := T24) (f' := (mkF m 63 #[.val (.int p1), .val (.int p2), .val (.int p3), .val (.int p4), .val (.int p5), .val (.int (p5 &&& (7 : Int32))), .val (.ref b1), .unset, .unset] [(.ref b24)])) st24 ?_
      refine Go.step (T' := T24) (f' := (mkF m 64 #[.val (.int p1), .val (.int p2), .val (.int p3), .val (.int p4), .val (.int p5), .val (.int (p5 &&& (7 : Int32))), .val (.ref b1), .unset, .unset] [(.ref b24), (.ref b24)])) (fun _ k => XS.dup X24.here hx rfl (hb hby at_63) rfl rfl k) ?_
      refine Go.step (T' := T24) (f' := (mkF m 65 #[.val (.int p1), .val (.int p2), .val (.int p3), .val (.int p4), .val (.int p5), .val (.int (p5 &&& (7 : Int32))), .val (.ref b1), .unset, .unset] [(.int p1), (.ref b24), (.ref b24)])) (fun _ k => XS.iloadN X24.here hx rfl (hb hby at_64) rfl k) ?_
      refine Go.step (T' := T24) (f' := (mkF m 66 #[.val (.int p1), .val (.int p2), .val (.int p3), .val (.int p4), .val (.int p5), .val (.int (p5 &&& (7 : Int32))), .val (.ref b1), .unset, .unset] [(.int p2), (.int p1), (.ref b24), (.ref b24)])) (fun _ k => XS.iloadN X24.here hx rfl (hb hby at_65) rfl k) ?_
      obtain ⟨_, _, ⟨T26, L26, k26, n26⟩, -, X26, ⟨Lc26, hQ26, l26, y26, z26⟩, st26⟩ := X24.specialBack hx (y := (⟨"com/example/branchwise/branchwise/Interval", "<init>", "(II)V"⟩ : MethodName)) rfl hown (mvT hZ (hw _ (List.mem_of_getElem? (i := 3) rfl))) (mvT hZ (hw _ (List.mem_of_getElem? (i := 4) rfl))) (mvT hZ (hw _ (List.mem_of_getElem? (i := 5) rfl))) (by decide) (backOf (W := 1) (rm1 l Z a0 hw [] b24 p1 p2 h24 n0 Z25 A24 F_lo_b24 F_hi_b24 g_b24) hZ (hw _ (List.mem_of_getElem? (i := 5) rfl)) (hw _ (List.mem_of_getElem? (i := 2) rfl)) (by decide) (by decide)) (g := (mkF m 66 #[.val (.int p1), .val (.int p2), .val (.int p3), .val (.int p4), .val (.int p5), .val (.int (p5 &&& (7 : Int32))), .val (.ref b1), .unset, .unset] [(.int p2), (.int p1), (.ref b24), (.ref b24)])) rfl (by rw [hml]; rfl) (Steps.refl _) (a := b24) (argsL := [(.int p1), (.int p2)]) (rest := [(.ref b24)]) (lenOf pd_2 rfl) rfl (by show 2 * 0 + _ ≤ _; exact Nat.le_of_eq rfl) (hb hby at_66) (fun _ _ => ⟨rfl, e24, (by decide : 2 + 0 ≤ _), (by decide : 4 + 0 ≤ _)⟩)
      dsimp only [Pt.U, Pt.locs, Pt.cells, Pt.slots] at X26 l26 y26 z26 st26 hQ26
      subst l26 y26 z26
      obtain ⟨rfl, Nq26, Kq26, r26_0, r26_1⟩ := hQ26
      have N26 := Fr.app N3 Nq26
      have Z27 : n0 ≤ T26.heap.size := Nat.le_trans Z25 Kq26.1
      have O27 : Old Z n0 T26.heap := O25.keep Kq26 (allS g_b24 all0)
      refine Go.step (T' := T26) (f' := (mkF m 69 #[.val (.int p1), .val (.int p2), .val (.int p3), .val (.int p4), .val (.int p5), .val (.int (p5 &&& (7 : Int32))), .val (.ref b1), .unset, .unset] [(.ref b24)])) (fun _ k => st26.trans k) ?_
      refine Go.step (T' := T26) (f' := (mkF m 71 #[.val (.int p1), .val (.int p2), .val (.int p3), .val (.int p4), .val (.int p5), .val (.int (p5 &&& (7 : Int32))), .val (.ref b1), .val (.ref b24), .unset] [])) (fun _ k => XS.astore X26.here hx rfl (hb hby at_69) rfl rfl (l' := #[.val (.int p1), .val (.int p2), .val (.int p3), .val (.int p4), .val (.int p5), .val (.int (p5 &&& (7 : Int32))), .val (.ref b1), .val (.ref b24), .unset]) rfl k) ?_
      refine Go.step (T' := T26) (f' := (mkF m 72 #[.val (.int p1), .val (.int p2), .val (.int p3), .val (.int p4), .val (.int p5), .val (.int (p5 &&& (7 : Int32))), .val (.ref b1), .val (.ref b24), .unset] [(.int (1 : Int32))])) (fun _ k => XS.iconst X26.here hx rfl (hb hby at_71) k) ?_
      refine Go.step (T' := T26) (f' := (mkF m 74 #[.val (.int p1), .val (.int p2), .val (.int p3), .val (.int p4), .val (.int p5), .val (.int (p5 &&& (7 : Int32))), .val (.ref b1), .val (.ref b24), .val (.int (1 : Int32))] [])) (fun _ k => XS.istore X26.here hx rfl (hb hby at_72) rfl (l' := #[.val (.int p1), .val (.int p2), .val (.int p3), .val (.int p4), .val (.int p5), .val (.int (p5 &&& (7 : Int32))), .val (.ref b1), .val (.ref b24), .val (.int (1 : Int32))]) rfl k) ?_
      refine Go.step (T' := T26) (f' := (mkF m 214 #[.val (.int p1), .val (.int p2), .val (.int p3), .val (.int p4), .val (.int p5), .val (.int (p5 &&& (7 : Int32))), .val (.ref b1), .val (.ref b24), .val (.int (1 : Int32))] [])) (fun _ k => XS.goto X26.here hx rfl (pc0 := 74) (pc' := 214) rfl (hb hby at_74) (by decide) (by decide) k) ?_
      refine Go.step (T' := T26) (f' := (mkF m 216 #[.val (.int p1), .val (.int p2), .val (.int p3), .val (.int p4), .val (.int p5), .val (.int (p5 &&& (7 : Int32))), .val (.ref b1), .val (.ref b24), .val (.int (1 : Int32))] [(.ref b1)])) (fun _ k => XS.aload X26.here hx rfl (hb hby at_214) rfl rfl k) ?_
      refine Go.step (T' := T26) (f' := (mkF m 218 #[.val (.int p1), .val (.int p2), .val (.int p3), .val (.int p4), .val (.int p5), .val (.int (p5 &&& (7 : Int32))), .val (.ref b1), .val (.ref b24), .val (.int (1 : Int32))] [(.ref b24), (.ref b1)])) (fun _ k => XS.aload X26.here hx rfl (hb hby at_216) rfl rfl k) ?_
      have q29 : Exa Z T26.heap b24 "com/example/branchwise/branchwise/Interval" := (A24.keep Kq26)
      have q30 : Fld Z T26.heap b1 "com/example/branchwise/branchwise/Interval" "lo" "I" (.int p1) := ((r3_0.ext E24).keep Kq26 (ninS (Nat.ne_of_lt (Nat.lt_of_lt_of_le (A1.keep Kq3).lt (Nat.le_of_eq g24.symm))) nin0))
      have q31 : Fld Z T26.heap b1 "com/example/branchwise/branchwise/Interval" "hi" "I" (.int p2) := ((r3_1.ext E24).keep Kq26 (ninS (Nat.ne_of_lt (Nat.lt_of_lt_of_le (A1.keep Kq3).lt (Nat.le_of_eq g24.symm))) nin0))
      have q32 : Exa Z T26.heap b1 "com/example/branchwise/branchwise/Interval" := (((A1.keep Kq3).ext E24).keep Kq26)
      obtain ⟨cq28, kq28, q28a, q28b, q28c⟩ := isOf hZ rfl q32
      obtain ⟨_, _, ⟨T28, L28, k28, n28⟩, -, X28, ⟨Lc28, hQ28, l28, y28, z28⟩, st28⟩ := X26.virtualBack hx (y := (⟨"com/example/branchwise/branchwise/Interval", "equals", "(Ljava/lang/Object;)Z"⟩ : MethodName)) (z := (⟨"com/example/branchwise/branchwise/Interval", "equals", "(Ljava/lang/Object;)Z"⟩ : MethodName)) hown (mvT hZ (hw _ (List.mem_of_getElem? (i := 18) rfl))) (mvT hZ (hw _ (List.mem_of_getElem? (i := 19) rfl))) (notFace_of_selects (args := #[]) (mvT hZ (hw _ (List.mem_of_getElem? (i := 21) rfl)))) (mvT hZ (hw _ (List.mem_of_getElem? (i := 21) rfl))) (mvT hZ (hw _ (List.mem_of_getElem? (i := 20) rfl))) (by decide) (backOf (W := 0) (rmEqI l Z a0 hw [] b1 b24 p1 p2 p1 p2 T26.heap n0 Z27 q29 q30 q31 r26_0 r26_1) hZ (hw _ (List.mem_of_getElem? (i := 22) rfl)) (hw _ (List.mem_of_getElem? (i := 2) rfl)) (by decide) (by decide)) q28a q28c (g := (mkF m 218 #[.val (.int p1), .val (.int p2), .val (.int p3), .val (.int p4), .val (.int p5), .val (.int (p5 &&& (7 : Int32))), .val (.ref b1), .val (.ref b24), .val (.int (1 : Int32))] [(.ref b24), (.ref b1)])) rfl (by rw [hml]; rfl) (Steps.refl _) (argsL := [(.ref b24)]) (rest := []) (lenOf pd_3 rfl) rfl (by show 2 * 0 + _ ≤ _; exact Nat.le_of_eq rfl) (hb hby at_218) (fun _ _ => ⟨rfl, rfl, (by decide : 2 + 0 ≤ _), (by decide : 4 + 0 ≤ _)⟩)
      dsimp only [Pt.U, Pt.locs, Pt.cells, Pt.slots] at X28 l28 y28 z28 st28 hQ28
      subst l28 y28 z28
      obtain ⟨rfl, Nq28, eh28⟩ := hQ28
      have N28 := Fr.app N26 Nq28
      refine Go.step (T' := T28) (f' := (mkF m 221 #[.val (.int p1), .val (.int p2), .val (.int p3), .val (.int p4), .val (.int p5), .val (.int (p5 &&& (7 : Int32))), .val (.ref b1), .val (.ref b24), .val (.int (1 : Int32))] [(.int (own_eq p1 p2 p1 p2))])) (fun _ k => st28.trans k) ?_
      refine Go.step (T' := T28) (f' := (mkF m 223 #[.val (.int p1), .val (.int p2), .val (.int p3), .val (.int p4), .val (.int p5), .val (.int (p5 &&& (7 : Int32))), .val (.ref b1), .val (.ref b24), .val (.int (1 : Int32))] [(.int (1 : Int32)), (.int (own_eq p1 p2 p1 p2))])) (fun _ k => XS.iload X28.here hx rfl (hb hby at_221) rfl k) ?_
      refine Go.step (T' := T28) (f' := (mkF m 226 #[.val (.int p1), .val (.int p2), .val (.int p3), .val (.int p4), .val (.int p5), .val (.int (p5 &&& (7 : Int32))), .val (.ref b1), .val (.ref b24), .val (.int (1 : Int32))] [])) (fun _ k => XS.icmpNo X28.here hx rfl (hb hby at_223) rfl (teq (own_eq1 (by simp only [Int32.lt_iff_toInt_lt, ← Int32.toInt_inj, Int32.reduceToInt] at hc20 hc57 <;> omega))).2 k) ?_
      refine Go.step (T' := T28) (f' := (mkF m 227 #[.val (.int p1), .val (.int p2), .val (.int p3), .val (.int p4), .val (.int p5), .val (.int (p5 &&& (7 : Int32))), .val (.ref b1), .val (.ref b24), .val (.int (1 : Int32))] [(.int (1 : Int32))])) (fun _ k => XS.iconst X28.here hx rfl (hb hby at_226) k) ?_
      refine Go.step (T' := T28) (f' := (mkF m 231 #[.val (.int p1), .val (.int p2), .val (.int p3), .val (.int p4), .val (.int p5), .val (.int (p5 &&& (7 : Int32))), .val (.ref b1), .val (.ref b24), .val (.int (1 : Int32))] [(.int (1 : Int32))])) (fun _ k => XS.goto X28.here hx rfl (pc0 := 227) (pc' := 231) rfl (hb hby at_227) (by decide) (by decide) k) ?_
      refine goN X28 hx (t := .boolean) Bd.returns (by simp) Bd.notSynchronized (hb hby at_231) ?_ (by decide) (by decide)
      show Q_rm0 Z p1 p2 p3 p4 p5 s_cache clc h0 n0 _ T28.heap _
      rw [eh28]
      exact ⟨rfl, N28⟩
    · refine Go.step (T' := T3) (f' := (mkF m 77 #[.val (.int p1), .val (.int p2), .val (.int p3), .val (.int p4), .val (.int p5), .val (.int (p5 &&& (7 : Int32))), .val (.ref b1), .unset, .unset] [])) (fun _ k => XS.icmpYes X3.here hx rfl (pc0 := 57) (pc' := 77) rfl (hb hby at_57) rfl (feq hc57).2 (by decide) (by decide) k) ?_
      refine Go.step (T' := T3) (f' := (mkF m 79 #[.val (.int p1), .val (.int p2), .val (.int p3), .val (.int p4), .val (.int p5), .val (.int (p5 &&& (7 : Int32))), .val (.ref b1), .unset, .unset] [(.int (p5 &&& (7 : Int32)))])) (fun _ k => XS.iload X3.here hx rfl (hb hby at_77) rfl k) ?_
      refine Go.step (T' := T3) (f' := (mkF m 80 #[.val (.int p1), .val (.int p2), .val (.int p3), .val (.int p4), .val (.int p5), .val (.int (p5 &&& (7 : Int32))), .val (.ref b1), .unset, .unset] [(.int (2 : Int32)), (.int (p5 &&& (7 : Int32)))])) (fun _ k => XS.iconst X3.here hx rfl (hb hby at_79) k) ?_
      by_cases hc80 : (p5 &&& (7 : Int32)) = (2 : Int32)
      · refine Go.step (T' := T3) (f' := (mkF m 83 #[.val (.int p1), .val (.int p2), .val (.int p3), .val (.int p4), .val (.int p5), .val (.int (p5 &&& (7 : Int32))), .val (.ref b1), .unset, .unset] [])) (fun _ k => XS.icmpNo X3.here hx rfl (hb hby at_80) rfl (teq hc80).2 k) ?_
        obtain ⟨T33, h33, X33, e33, E33, A33, D33, -, st33⟩ := newO X3 hx hZ hown (hw _ (List.mem_of_getElem? (i := 0) rfl)) (hw _ (List.mem_of_getElem? (i := 1) rfl)) (hw _ (List.mem_of_getElem? (i := 2) rfl)) rfl (g := (mkF m 83 #[.val (.int p1), .val (.int p2), .val (.int p3), .val (.int p4), .val (.int p5), .val (.int (p5 &&& (7 : Int32))), .val (.ref b1), .unset, .unset] [])) rfl (hb hby at_83) (by decide) (by decide)
        obtain ⟨b33, g33⟩ : ∃ z, z = T3.heap.size := ⟨_, rfl⟩
        rw [← g33] at A33 D33 st33
        have g_b33 : n0 ≤ b33 := Nat.le_trans Z4 (Nat.le_of_eq g33.symm)
        have Z34 : n0 ≤ h33.size := Nat.le_trans Z4 E33.1
        have O34 : Old Z n0 h33 := O4.ext E33
        have F_lo_b33 : Fld Z h33 b33 "com/example/branchwise/branchwise/Interval" "lo" "I" (.int (0 : Int32)) := D33 (Or.inr (hw _ (List.mem_of_getElem? (i := 15) rfl))) (ty := .int) (by decide)
        have F_hi_b33 : Fld Z h33 b33 "com/example/branchwise/branchwise/Interval" "hi" "I" (.int (0 : Int32)) := D33 (Or.inr (hw _ (List.mem_of_getElem? (i := 17) rfl))) (ty := .int) (by decide)
        refine Go.step (T' := T33) (f' := (mkF m 86 #[.val (.int p1), .val (.int p2), .val (.int p3), .val (.int p4), .val (.int p5), .val (.int (p5 &&& (7 : Int32))), .val (.ref b1), .unset, .unset] [(.ref b33)])) st33 ?_
        refine Go.step (T' := T33) (f' := (mkF m 87 #[.val (.int p1), .val (.int p2), .val (.int p3), .val (.int p4), .val (.int p5), .val (.int (p5 &&& (7 : Int32))), .val (.ref b1), .unset, .unset] [(.ref b33), (.ref b33)])) (fun _ k => XS.dup X33.here hx rfl (hb hby at_86) rfl rfl k) ?_
        refine Go.step (T' := T33) (f' := (mkF m 88 #[.val (.int p1), .val (.int p2), .val (.int p3), .val (.int p4), .val (.int p5), .val (.int (p5 &&& (7 : Int32))), .val (.ref b1), .unset, .unset] [(.int p1), (.ref b33), (.ref b33)])) (fun _ k => XS.iloadN X33.here hx rfl (hb hby at_87) rfl k) ?_
        refine Go.step (T' := T33) (f' := (mkF m 89 #[.val (.int p1), .val (.int p2), .val (.int p3), .val (.int p4), .val (.int p5), .val (.int (p5 &&& (7 : Int32))), .val (.ref b1), .unset, .unset] [(.int p4), (.int p1), (.ref b33), (.ref b33)])) (fun _ k => XS.iloadN X33.here hx rfl (hb hby at_88) rfl k) ?_
        obtain ⟨_, _, ⟨T35, L35, k35, n35⟩, -, X35, ⟨Lc35, hQ35, l35, y35, z35⟩, st35⟩ := X33.specialBack hx (y := (⟨"com/example/branchwise/branchwise/Interval", "<init>", "(II)V"⟩ : MethodName)) rfl hown (mvT hZ (hw _ (List.mem_of_getElem? (i := 3) rfl))) (mvT hZ (hw _ (List.mem_of_getElem? (i := 4) rfl))) (mvT hZ (hw _ (List.mem_of_getElem? (i := 5) rfl))) (by decide) (backOf (W := 1) (rm1 l Z a0 hw [] b33 p1 p4 h33 n0 Z34 A33 F_lo_b33 F_hi_b33 g_b33) hZ (hw _ (List.mem_of_getElem? (i := 5) rfl)) (hw _ (List.mem_of_getElem? (i := 2) rfl)) (by decide) (by decide)) (g := (mkF m 89 #[.val (.int p1), .val (.int p2), .val (.int p3), .val (.int p4), .val (.int p5), .val (.int (p5 &&& (7 : Int32))), .val (.ref b1), .unset, .unset] [(.int p4), (.int p1), (.ref b33), (.ref b33)])) rfl (by rw [hml]; rfl) (Steps.refl _) (a := b33) (argsL := [(.int p1), (.int p4)]) (rest := [(.ref b33)]) (lenOf pd_2 rfl) rfl (by show 2 * 0 + _ ≤ _; exact Nat.le_of_eq rfl) (hb hby at_89) (fun _ _ => ⟨rfl, e33, (by decide : 2 + 0 ≤ _), (by decide : 4 + 0 ≤ _)⟩)
        dsimp only [Pt.U, Pt.locs, Pt.cells, Pt.slots] at X35 l35 y35 z35 st35 hQ35
        subst l35 y35 z35
        obtain ⟨rfl, Nq35, Kq35, r35_0, r35_1⟩ := hQ35
        have N35 := Fr.app N3 Nq35
        have Z36 : n0 ≤ T35.heap.size := Nat.le_trans Z34 Kq35.1
        have O36 : Old Z n0 T35.heap := O34.keep Kq35 (allS g_b33 all0)
        refine Go.step (T' := T35) (f' := (mkF m 92 #[.val (.int p1), .val (.int p2), .val (.int p3), .val (.int p4), .val (.int p5), .val (.int (p5 &&& (7 : Int32))), .val (.ref b1), .unset, .unset] [(.ref b33)])) (fun _ k => st35.trans k) ?_
        refine Go.step (T' := T35) (f' := (mkF m 94 #[.val (.int p1), .val (.int p2), .val (.int p3), .val (.int p4), .val (.int p5), .val (.int (p5 &&& (7 : Int32))), .val (.ref b1), .val (.ref b33), .unset] [])) (fun _ k => XS.astore X35.here hx rfl (hb hby at_92) rfl rfl (l' := #[.val (.int p1), .val (.int p2), .val (.int p3), .val (.int p4), .val (.int p5), .val (.int (p5 &&& (7 : Int32))), .val (.ref b1), .val (.ref b33), .unset]) rfl k) ?_
        refine Go.step (T' := T35) (f' := (mkF m 95 #[.val (.int p1), .val (.int p2), .val (.int p3), .val (.int p4), .val (.int p5), .val (.int (p5 &&& (7 : Int32))), .val (.ref b1), .val (.ref b33), .unset] [(.int p2)])) (fun _ k => XS.iloadN X35.here hx rfl (hb hby at_94) rfl k) ?_
        refine Go.step (T' := T35) (f' := (mkF m 96 #[.val (.int p1), .val (.int p2), .val (.int p3), .val (.int p4), .val (.int p5), .val (.int (p5 &&& (7 : Int32))), .val (.ref b1), .val (.ref b33), .unset] [(.int p4), (.int p2)])) (fun _ k => XS.iloadN X35.here hx rfl (hb hby at_95) rfl k) ?_
        by_cases hc96 : p2 = p4
        · refine Go.step (T' := T35) (f' := (mkF m 99 #[.val (.int p1), .val (.int p2), .val (.int p3), .val (.int p4), .val (.int p5), .val (.int (p5 &&& (7 : Int32))), .val (.ref b1), .val (.ref b33), .unset] [])) (fun _ k => XS.icmpNo X35.here hx rfl (hb hby at_96) rfl (teq hc96).2 k) ?_
          refine Go.step (T' := T35) (f' := (mkF m 100 #[.val (.int p1), .val (.int p2), .val (.int p3), .val (.int p4), .val (.int p5), .val (.int (p5 &&& (7 : Int32))), .val (.ref b1), .val (.ref b33), .unset] [(.int (1 : Int32))])) (fun _ k => XS.iconst X35.here hx rfl (hb hby at_99) k) ?_
          refine Go.step (T' := T35) (f' := (mkF m 104 #[.val (.int p1), .val (.int p2), .val (.int p3), .val (.int p4), .val (.int p5), .val (.int (p5 &&& (7 : Int32))), .val (.ref b1), .val (.ref b33), .unset] [(.int (1 : Int32))])) (fun _ k => XS.goto X35.here hx rfl (pc0 := 100) (pc' := 104) rfl (hb hby at_100) (by decide) (by decide) k) ?_
          refine Go.step (T' := T35) (f' := (mkF m 106 #[.val (.int p1), .val (.int p2), .val (.int p3), .val (.int p4), .val (.int p5), .val (.int (p5 &&& (7 : Int32))), .val (.ref b1), .val (.ref b33), .val (.int (1 : Int32))] [])) (fun _ k => XS.istore X35.here hx rfl (hb hby at_104) rfl (l' := #[.val (.int p1), .val (.int p2), .val (.int p3), .val (.int p4), .val (.int p5), .val (.int (p5 &&& (7 : Int32))), .val (.ref b1), .val (.ref b33), .val (.int (1 : Int32))]) rfl k) ?_
          refine Go.step (T' := T35) (f' := (mkF m 214 #[.val (.int p1), .val (.int p2), .val (.int p3), .val (.int p4), .val (.int p5), .val (.int (p5 &&& (7 : Int32))), .val (.ref b1), .val (.ref b33), .val (.int (1 : Int32))] [])) (fun _ k => XS.goto X35.here hx rfl (pc0 := 106) (pc' := 214) rfl (hb hby at_106) (by decide) (by decide) k) ?_
          refine Go.step (T' := T35) (f' := (mkF m 216 #[.val (.int p1), .val (.int p2), .val (.int p3), .val (.int p4), .val (.int p5), .val (.int (p5 &&& (7 : Int32))), .val (.ref b1), .val (.ref b33), .val (.int (1 : Int32))] [(.ref b1)])) (fun _ k => XS.aload X35.here hx rfl (hb hby at_214) rfl rfl k) ?_
          refine Go.step (T' := T35) (f' := (mkF m 218 #[.val (.int p1), .val (.int p2), .val (.int p3), .val (.int p4), .val (.int p5), .val (.int (p5 &&& (7 : Int32))), .val (.ref b1), .val (.ref b33), .val (.int (1 : Int32))] [(.ref b33), (.ref b1)])) (fun _ k => XS.aload X35.here hx rfl (hb hby at_216) rfl rfl k) ?_
          have q38 : Exa Z T35.heap b33 "com/example/branchwise/branchwise/Interval" := (A33.keep Kq35)
          have q39 : Fld Z T35.heap b1 "com/example/branchwise/branchwise/Interval" "lo" "I" (.int p1) := ((r3_0.ext E33).keep Kq35 (ninS (Nat.ne_of_lt (Nat.lt_of_lt_of_le (A1.keep Kq3).lt (Nat.le_of_eq g33.symm))) nin0))
          have q40 : Fld Z T35.heap b1 "com/example/branchwise/branchwise/Interval" "hi" "I" (.int p2) := ((r3_1.ext E33).keep Kq35 (ninS (Nat.ne_of_lt (Nat.lt_of_lt_of_le (A1.keep Kq3).lt (Nat.le_of_eq g33.symm))) nin0))
          have q41 : Exa Z T35.heap b1 "com/example/branchwise/branchwise/Interval" := (((A1.keep Kq3).ext E33).keep Kq35)
          obtain ⟨cq37, kq37, q37a, q37b, q37c⟩ := isOf hZ rfl q41
          obtain ⟨_, _, ⟨T37, L37, k37, n37⟩, -, X37, ⟨Lc37, hQ37, l37, y37, z37⟩, st37⟩ := X35.virtualBack hx (y := (⟨"com/example/branchwise/branchwise/Interval", "equals", "(Ljava/lang/Object;)Z"⟩ : MethodName)) (z := (⟨"com/example/branchwise/branchwise/Interval", "equals", "(Ljava/lang/Object;)Z"⟩ : MethodName)) hown (mvT hZ (hw _ (List.mem_of_getElem? (i := 18) rfl))) (mvT hZ (hw _ (List.mem_of_getElem? (i := 19) rfl))) (notFace_of_selects (args := #[]) (mvT hZ (hw _ (List.mem_of_getElem? (i := 21) rfl)))) (mvT hZ (hw _ (List.mem_of_getElem? (i := 21) rfl))) (mvT hZ (hw _ (List.mem_of_getElem? (i := 20) rfl))) (by decide) (backOf (W := 0) (rmEqI l Z a0 hw [] b1 b33 p1 p2 p1 p4 T35.heap n0 Z36 q38 q39 q40 r35_0 r35_1) hZ (hw _ (List.mem_of_getElem? (i := 22) rfl)) (hw _ (List.mem_of_getElem? (i := 2) rfl)) (by decide) (by decide)) q37a q37c (g := (mkF m 218 #[.val (.int p1), .val (.int p2), .val (.int p3), .val (.int p4), .val (.int p5), .val (.int (p5 &&& (7 : Int32))), .val (.ref b1), .val (.ref b33), .val (.int (1 : Int32))] [(.ref b33), (.ref b1)])) rfl (by rw [hml]; rfl) (Steps.refl _) (argsL := [(.ref b33)]) (rest := []) (lenOf pd_3 rfl) rfl (by show 2 * 0 + _ ≤ _; exact Nat.le_of_eq rfl) (hb hby at_218) (fun _ _ => ⟨rfl, rfl, (by decide : 2 + 0 ≤ _), (by decide : 4 + 0 ≤ _)⟩)
          dsimp only [Pt.U, Pt.locs, Pt.cells, Pt.slots] at X37 l37 y37 z37 st37 hQ37
          subst l37 y37 z37
          obtain ⟨rfl, Nq37, eh37⟩ := hQ37
          have N37 := Fr.app N35 Nq37
          refine Go.step (T' := T37) (f' := (mkF m 221 #[.val (.int p1), .val (.int p2), .val (.int p3), .val (.int p4), .val (.int p5), .val (.int (p5 &&& (7 : Int32))), .val (.ref b1), .val (.ref b33), .val (.int (1 : Int32))] [(.int (own_eq p1 p2 p1 p4))])) (fun _ k => st37.trans k) ?_
          refine Go.step (T' := T37) (f' := (mkF m 223 #[.val (.int p1), .val (.int p2), .val (.int p3), .val (.int p4), .val (.int p5), .val (.int (p5 &&& (7 : Int32))), .val (.ref b1), .val (.ref b33), .val (.int (1 : Int32))] [(.int (1 : Int32)), (.int (own_eq p1 p2 p1 p4))])) (fun _ k => XS.iload X37.here hx rfl (hb hby at_221) rfl k) ?_
          refine Go.step (T' := T37) (f' := (mkF m 226 #[.val (.int p1), .val (.int p2), .val (.int p3), .val (.int p4), .val (.int p5), .val (.int (p5 &&& (7 : Int32))), .val (.ref b1), .val (.ref b33), .val (.int (1 : Int32))] [])) (fun _ k => XS.icmpNo X37.here hx rfl (hb hby at_223) rfl (teq (own_eq1 (by simp only [Int32.lt_iff_toInt_lt, ← Int32.toInt_inj, Int32.reduceToInt] at hc20 hc57 hc80 hc96 <;> omega))).2 k) ?_
          refine Go.step (T' := T37) (f' := (mkF m 227 #[.val (.int p1), .val (.int p2), .val (.int p3), .val (.int p4), .val (.int p5), .val (.int (p5 &&& (7 : Int32))), .val (.ref b1), .val (.ref b33), .val (.int (1 : Int32))] [(.int (1 : Int32))])) (fun _ k => XS.iconst X37.here hx rfl (hb hby at_226) k) ?_
          refine Go.step (T' := T37) (f' := (mkF m 231 #[.val (.int p1), .val (.int p2), .val (.int p3), .val (.int p4), .val (.int p5), .val (.int (p5 &&& (7 : Int32))), .val (.ref b1), .val (.ref b33), .val (.int (1 : Int32))] [(.int (1 : Int32))])) (fun _ k => XS.goto X37.here hx rfl (pc0 := 227) (pc' := 231) rfl (hb hby at_227) (by decide) (by decide) k) ?_
          refine goN X37 hx (t := .boolean) Bd.returns (by simp) Bd.notSynchronized (hb hby at_231) ?_ (by decide) (by decide)
          show Q_rm0 Z p1 p2 p3 p4 p5 s_cache clc h0 n0 _ T37.heap _
          rw [eh37]
          exact ⟨rfl, N37⟩
        · refine Go.step (T' := T35) (f' := (mkF m 103 #[.val (.int p1), .val (.int p2), .val (.int p3), .val (.int p4), .val (.int p5), .val (.int (p5 &&& (7 : Int32))), .val (.ref b1), .val (.ref b33), .unset] [])) (fun _ k => XS.icmpYes X35.here hx rfl (pc0 := 96) (pc' := 103) rfl (hb hby at_96) rfl (feq hc96).2 (by decide) (by decide) k) ?_
          refine Go.step (T' := T35) (f' := (mkF m 104 #[.val (.int p1), .val (.int p2), .val (.int p3), .val (.int p4), .val (.int p5), .val (.int (p5 &&& (7 : Int32))), .val (.ref b1), .val (.ref b33), .unset] [(.int (0 : Int32))])) (fun _ k => XS.iconst X35.here hx rfl (hb hby at_103) k) ?_
          refine Go.step (T' := T35) (f' := (mkF m 106 #[.val (.int p1), .val (.int p2), .val (.int p3), .val (.int p4), .val (.int p5), .val (.int (p5 &&& (7 : Int32))), .val (.ref b1), .val (.ref b33), .val (.int (0 : Int32))] [])) (fun _ k => XS.istore X35.here hx rfl (hb hby at_104) rfl (l' := #[.val (.int p1), .val (.int p2), .val (.int p3), .val (.int p4), .val (.int p5), .val (.int (p5 &&& (7 : Int32))), .val (.ref b1), .val (.ref b33), .val (.int (0 : Int32))]) rfl k) ?_
          refine Go.step (T' := T35) (f' := (mkF m 214 #[.val (.int p1), .val (.int p2), .val (.int p3), .val (.int p4), .val (.int p5), .val (.int (p5 &&& (7 : Int32))), .val (.ref b1), .val (.ref b33), .val (.int (0 : Int32))] [])) (fun _ k => XS.goto X35.here hx rfl (pc0 := 106) (pc' := 214) rfl (hb hby at_106) (by decide) (by decide) k) ?_
          refine Go.step (T' := T35) (f' := (mkF m 216 #[.val (.int p1), .val (.int p2), .val (.int p3), .val (.int p4), .val (.int p5), .val (.int (p5 &&& (7 : Int32))), .val (.ref b1), .val (.ref b33), .val (.int (0 : Int32))] [(.ref b1)])) (fun _ k => XS.aload X35.here hx rfl (hb hby at_214) rfl rfl k) ?_
          refine Go.step (T' := T35) (f' := (mkF m 218 #[.val (.int p1), .val (.int p2), .val (.int p3), .val (.int p4), .val (.int p5), .val (.int (p5 &&& (7 : Int32))), .val (.ref b1), .val (.ref b33), .val (.int (0 : Int32))] [(.ref b33), (.ref b1)])) (fun _ k => XS.aload X35.here hx rfl (hb hby at_216) rfl rfl k) ?_
          have q43 : Exa Z T35.heap b33 "com/example/branchwise/branchwise/Interval" := (A33.keep Kq35)
          have q44 : Fld Z T35.heap b1 "com/example/branchwise/branchwise/Interval" "lo" "I" (.int p1) := ((r3_0.ext E33).keep Kq35 (ninS (Nat.ne_of_lt (Nat.lt_of_lt_of_le (A1.keep Kq3).lt (Nat.le_of_eq g33.symm))) nin0))
          have q45 : Fld Z T35.heap b1 "com/example/branchwise/branchwise/Interval" "hi" "I" (.int p2) := ((r3_1.ext E33).keep Kq35 (ninS (Nat.ne_of_lt (Nat.lt_of_lt_of_le (A1.keep Kq3).lt (Nat.le_of_eq g33.symm))) nin0))
          have q46 : Exa Z T35.heap b1 "com/example/branchwise/branchwise/Interval" := (((A1.keep Kq3).ext E33).keep Kq35)
          obtain ⟨cq42, kq42, q42a, q42b, q42c⟩ := isOf hZ rfl q46
          obtain ⟨_, _, ⟨T42, L42, k42, n42⟩, -, X42, ⟨Lc42, hQ42, l42, y42, z42⟩, st42⟩ := X35.virtualBack hx (y := (⟨"com/example/branchwise/branchwise/Interval", "equals", "(Ljava/lang/Object;)Z"⟩ : MethodName)) (z := (⟨"com/example/branchwise/branchwise/Interval", "equals", "(Ljava/lang/Object;)Z"⟩ : MethodName)) hown (mvT hZ (hw _ (List.mem_of_getElem? (i := 18) rfl))) (mvT hZ (hw _ (List.mem_of_getElem? (i := 19) rfl))) (notFace_of_selects (args := #[]) (mvT hZ (hw _ (List.mem_of_getElem? (i := 21) rfl)))) (mvT hZ (hw _ (List.mem_of_getElem? (i := 21) rfl))) (mvT hZ (hw _ (List.mem_of_getElem? (i := 20) rfl))) (by decide) (backOf (W := 0) (rmEqI l Z a0 hw [] b1 b33 p1 p2 p1 p4 T35.heap n0 Z36 q43 q44 q45 r35_0 r35_1) hZ (hw _ (List.mem_of_getElem? (i := 22) rfl)) (hw _ (List.mem_of_getElem? (i := 2) rfl)) (by decide) (by decide)) q42a q42c (g := (mkF m 218 #[.val (.int p1), .val (.int p2), .val (.int p3), .val (.int p4), .val (.int p5), .val (.int (p5 &&& (7 : Int32))), .val (.ref b1), .val (.ref b33), .val (.int (0 : Int32))] [(.ref b33), (.ref b1)])) rfl (by rw [hml]; rfl) (Steps.refl _) (argsL := [(.ref b33)]) (rest := []) (lenOf pd_3 rfl) rfl (by show 2 * 0 + _ ≤ _; exact Nat.le_of_eq rfl) (hb hby at_218) (fun _ _ => ⟨rfl, rfl, (by decide : 2 + 0 ≤ _), (by decide : 4 + 0 ≤ _)⟩)
          dsimp only [Pt.U, Pt.locs, Pt.cells, Pt.slots] at X42 l42 y42 z42 st42 hQ42
          subst l42 y42 z42
          obtain ⟨rfl, Nq42, eh42⟩ := hQ42
          have N42 := Fr.app N35 Nq42
          refine Go.step (T' := T42) (f' := (mkF m 221 #[.val (.int p1), .val (.int p2), .val (.int p3), .val (.int p4), .val (.int p5), .val (.int (p5 &&& (7 : Int32))), .val (.ref b1), .val (.ref b33), .val (.int (0 : Int32))] [(.int (own_eq p1 p2 p1 p4))])) (fun _ k => st42.trans k) ?_
          refine Go.step (T' := T42) (f' := (mkF m 223 #[.val (.int p1), .val (.int p2), .val (.int p3), .val (.int p4), .val (.int p5), .val (.int (p5 &&& (7 : Int32))), .val (.ref b1), .val (.ref b33), .val (.int (0 : Int32))] [(.int (0 : Int32)), (.int (own_eq p1 p2 p1 p4))])) (fun _ k => XS.iload X42.here hx rfl (hb hby at_221) rfl k) ?_
          refine Go.step (T' := T42) (f' := (mkF m 226 #[.val (.int p1), .val (.int p2), .val (.int p3), .val (.int p4), .val (.int p5), .val (.int (p5 &&& (7 : Int32))), .val (.ref b1), .val (.ref b33), .val (.int (0 : Int32))] [])) (fun _ k => XS.icmpNo X42.here hx rfl (hb hby at_223) rfl (teq (own_eq0 (by simp only [Int32.lt_iff_toInt_lt, ← Int32.toInt_inj, Int32.reduceToInt] at hc20 hc57 hc80 hc96 <;> omega))).2 k) ?_
          refine Go.step (T' := T42) (f' := (mkF m 227 #[.val (.int p1), .val (.int p2), .val (.int p3), .val (.int p4), .val (.int p5), .val (.int (p5 &&& (7 : Int32))), .val (.ref b1), .val (.ref b33), .val (.int (0 : Int32))] [(.int (1 : Int32))])) (fun _ k => XS.iconst X42.here hx rfl (hb hby at_226) k) ?_
          refine Go.step (T' := T42) (f' := (mkF m 231 #[.val (.int p1), .val (.int p2), .val (.int p3), .val (.int p4), .val (.int p5), .val (.int (p5 &&& (7 : Int32))), .val (.ref b1), .val (.ref b33), .val (.int (0 : Int32))] [(.int (1 : Int32))])) (fun _ k => XS.goto X42.here hx rfl (pc0 := 227) (pc' := 231) rfl (hb hby at_227) (by decide) (by decide) k) ?_
          refine goN X42 hx (t := .boolean) Bd.returns (by simp) Bd.notSynchronized (hb hby at_231) ?_ (by decide) (by decide)
          show Q_rm0 Z p1 p2 p3 p4 p5 s_cache clc h0 n0 _ T42.heap _
          rw [eh42]
          exact ⟨rfl, N42⟩
      · refine Go.step (T' := T3) (f' := (mkF m 109 #[.val (.int p1), .val (.int p2), .val (.int p3), .val (.int p4), .val (.int p5), .val (.int (p5 &&& (7 : Int32))), .val (.ref b1), .unset, .unset] [])) (fun _ k => XS.icmpYes X3.here hx rfl (pc0 := 80) (pc' := 109) rfl (hb hby at_80) rfl (feq hc80).2 (by decide) (by decide) k) ?_
        refine Go.step (T' := T3) (f' := (mkF m 111 #[.val (.int p1), .val (.int p2), .val (.int p3), .val (.int p4), .val (.int p5), .val (.int (p5 &&& (7 : Int32))), .val (.ref b1), .unset, .unset] [(.int (p5 &&& (7 : Int32)))])) (fun _ k => XS.iload X3.here hx rfl (hb hby at_109) rfl k) ?_
        refine Go.step (T' := T3) (f' := (mkF m 112 #[.val (.int p1), .val (.int p2), .val (.int p3), .val (.int p4), .val (.int p5), .val (.int (p5 &&& (7 : Int32))), .val (.ref b1), .unset, .unset] [(.int (3 : Int32)), (.int (p5 &&& (7 : Int32)))])) (fun _ k => XS.iconst X3.here hx rfl (hb hby at_111) k) ?_
        by_cases hc112 : (p5 &&& (7 : Int32)) = (3 : Int32)
        · refine Go.step (T' := T3) (f' := (mkF m 115 #[.val (.int p1), .val (.int p2), .val (.int p3), .val (.int p4), .val (.int p5), .val (.int (p5 &&& (7 : Int32))), .val (.ref b1), .unset, .unset] [])) (fun _ k => XS.icmpNo X3.here hx rfl (hb hby at_112) rfl (teq hc112).2 k) ?_
          obtain ⟨T47, h47, X47, e47, E47, A47, D47, -, st47⟩ := newO X3 hx hZ hown (hw _ (List.mem_of_getElem? (i := 0) rfl)) (hw _ (List.mem_of_getElem? (i := 1) rfl)) (hw _ (List.mem_of_getElem? (i := 2) rfl)) rfl (g := (mkF m 115 #[.val (.int p1), .val (.int p2), .val (.int p3), .val (.int p4), .val (.int p5), .val (.int (p5 &&& (7 : Int32))), .val (.ref b1), .unset, .unset] [])) rfl (hb hby at_115) (by decide) (by decide)
          obtain ⟨b47, g47⟩ : ∃ z, z = T3.heap.size := ⟨_, rfl⟩
          rw [← g47] at A47 D47 st47
          have g_b47 : n0 ≤ b47 := Nat.le_trans Z4 (Nat.le_of_eq g47.symm)
          have Z48 : n0 ≤ h47.size := Nat.le_trans Z4 E47.1
          have O48 : Old Z n0 h47 := O4.ext E47
          have F_lo_b47 : Fld Z h47 b47 "com/example/branchwise/branchwise/Interval" "lo" "I" (.int (0 : Int32)) := D47 (Or.inr (hw _ (List.mem_of_getElem? (i := 15) rfl))) (ty := .int) (by decide)
          have F_hi_b47 : Fld Z h47 b47 "com/example/branchwise/branchwise/Interval" "hi" "I" (.int (0 : Int32)) := D47 (Or.inr (hw _ (List.mem_of_getElem? (i := 17) rfl))) (ty := .int) (by decide)
          refine Go.step (T' := T47) (f' := (mkF m 118 #[.val (.int p1), .val (.int p2), .val (.int p3), .val (.int p4), .val (.int p5), .val (.int (p5 &&& (7 : Int32))), .val (.ref b1), .unset, .unset] [(.ref b47)])) st47 ?_
          refine Go.step (T' := T47) (f' := (mkF m 119 #[.val (.int p1), .val (.int p2), .val (.int p3), .val (.int p4), .val (.int p5), .val (.int (p5 &&& (7 : Int32))), .val (.ref b1), .unset, .unset] [(.ref b47), (.ref b47)])) (fun _ k => XS.dup X47.here hx rfl (hb hby at_118) rfl rfl k) ?_
          refine Go.step (T' := T47) (f' := (mkF m 120 #[.val (.int p1), .val (.int p2), .val (.int p3), .val (.int p4), .val (.int p5), .val (.int (p5 &&& (7 : Int32))), .val (.ref b1), .unset, .unset] [(.int p3), (.ref b47), (.ref b47)])) (fun _ k => XS.iloadN X47.here hx rfl (hb hby at_119) rfl k) ?_
          refine Go.step (T' := T47) (f' := (mkF m 121 #[.val (.int p1), .val (.int p2), .val (.int p3), .val (.int p4), .val (.int p5), .val (.int (p5 &&& (7 : Int32))), .val (.ref b1), .unset, .unset] [(.int p2), (.int p3), (.ref b47), (.ref b47)])) (fun _ k => XS.iloadN X47.here hx rfl (hb hby at_120) rfl k) ?_
          obtain ⟨_, _, ⟨T49, L49, k49, n49⟩, -, X49, ⟨Lc49, hQ49, l49, y49, z49⟩, st49⟩ := X47.specialBack hx (y := (⟨"com/example/branchwise/branchwise/Interval", "<init>", "(II)V"⟩ : MethodName)) rfl hown (mvT hZ (hw _ (List.mem_of_getElem? (i := 3) rfl))) (mvT hZ (hw _ (List.mem_of_getElem? (i := 4) rfl))) (mvT hZ (hw _ (List.mem_of_getElem? (i := 5) rfl))) (by decide) (backOf (W := 1) (rm1 l Z a0 hw [] b47 p3 p2 h47 n0 Z48 A47 F_lo_b47 F_hi_b47 g_b47) hZ (hw _ (List.mem_of_getElem? (i := 5) rfl)) (hw _ (List.mem_of_getElem? (i := 2) rfl)) (by decide) (by decide)) (g := (mkF m 121 #[.val (.int p1), .val (.int p2), .val (.int p3), .val (.int p4), .val (.int p5), .val (.int (p5 &&& (7 : Int32))), .val (.ref b1), .unset, .unset] [(.int p2), (.int p3), (.ref b47), (.ref b47)])) rfl (by rw [hml]; rfl) (Steps.refl _) (a := b47) (argsL := [(.int p3), (.int p2)]) (rest := [(.ref b47)]) (lenOf pd_2 rfl) rfl (by show 2 * 0 + _ ≤ _; exact Nat.le_of_eq rfl) (hb hby at_121) (fun _ _ => ⟨rfl, e47, (by decide : 2 + 0 ≤ _), (by decide : 4 + 0 ≤ _)⟩)
          dsimp only [Pt.U, Pt.locs, Pt.cells, Pt.slots] at X49 l49 y49 z49 st49 hQ49
          subst l49 y49 z49
          obtain ⟨rfl, Nq49, Kq49, r49_0, r49_1⟩ := hQ49
          have N49 := Fr.app N3 Nq49
          have Z50 : n0 ≤ T49.heap.size := Nat.le_trans Z48 Kq49.1
          have O50 : Old Z n0 T49.heap := O48.keep Kq49 (allS g_b47 all0)
          refine Go.step (T' := T49) (f' := (mkF m 124 #[.val (.int p1), .val (.int p2), .val (.int p3), .val (.int p4), .val (.int p5), .val (.int (p5 &&& (7 : Int32))), .val (.ref b1), .unset, .unset] [(.ref b47)])) (fun _ k => st49.trans k) ?_
          refine Go.step (T' := T49) (f' := (mkF m 126 #[.val (.int p1), .val (.int p2), .val (.int p3), .val (.int p4), .val (.int p5), .val (.int (p5 &&& (7 : Int32))), .val (.ref b1), .val (.ref b47), .unset] [])) (fun _ k => XS.astore X49.here hx rfl (hb hby at_124) rfl rfl (l' := #[.val (.int p1), .val (.int p2), .val (.int p3), .val (.int p4), .val (.int p5), .val (.int (p5 &&& (7 : Int32))), .val (.ref b1), .val (.ref b47), .unset]) rfl k) ?_
          refine Go.step (T' := T49) (f' := (mkF m 127 #[.val (.int p1), .val (.int p2), .val (.int p3), .val (.int p4), .val (.int p5), .val (.int (p5 &&& (7 : Int32))), .val (.ref b1), .val (.ref b47), .unset] [(.int p1)])) (fun _ k => XS.iloadN X49.here hx rfl (hb hby at_126) rfl k) ?_
          refine Go.step (T' := T49) (f' := (mkF m 128 #[.val (.int p1), .val (.int p2), .val (.int p3), .val (.int p4), .val (.int p5), .val (.int (p5 &&& (7 : Int32))), .val (.ref b1), .val (.ref b47), .unset] [(.int p3), (.int p1)])) (fun _ k => XS.iloadN X49.here hx rfl (hb hby at_127) rfl k) ?_
          by_cases hc128 : p1 = p3
          · refine Go.step (T' := T49) (f' := (mkF m 131 #[.val (.int p1), .val (.int p2), .val (.int p3), .val (.int p4), .val (.int p5), .val (.int (p5 &&& (7 : Int32))), .val (.ref b1), .val (.ref b47), .unset] [])) (fun _ k => XS.icmpNo X49.here hx rfl (hb hby at_128) rfl (teq hc128).2 k) ?_
            refine Go.step (T' := T49) (f' := (mkF m 132 #[.val (.int p1), .val (.int p2), .val (.int p3), .val (.int p4), .val (.int p5), .val (.int (p5 &&& (7 : Int32))), .val (.ref b1), .val (.ref b47), .unset] [(.int (1 : Int32))])) (fun _ k => XS.iconst X49.here hx rfl (hb hby at_131) k) ?_
            refine Go.step (T' := T49) (f' := (mkF m 136 #[.val (.int p1), .val (.int p2), .val (.int p3), .val (.int p4), .val (.int p5), .val (.int (p5 &&& (7 : Int32))), .val (.ref b1), .val (.ref b47), .unset] [(.int (1 : Int32))])) (fun _ k => XS.goto X49.here hx rfl (pc0 := 132) (pc' := 136) rfl (hb hby at_132) (by decide) (by decide) k) ?_
            refine Go.step (T' := T49) (f' := (mkF m 138 #[.val (.int p1), .val (.int p2), .val (.int p3), .val (.int p4), .val (.int p5), .val (.int (p5 &&& (7 : Int32))), .val (.ref b1), .val (.ref b47), .val (.int (1 : Int32))] [])) (fun _ k => XS.istore X49.here hx rfl (hb hby at_136) rfl (l' := #[.val (.int p1), .val (.int p2), .val (.int p3), .val (.int p4), .val (.int p5), .val (.int (p5 &&& (7 : Int32))), .val (.ref b1), .val (.ref b47), .val (.int (1 : Int32))]) rfl k) ?_
            refine Go.step (T' := T49) (f' := (mkF m 214 #[.val (.int p1), .val (.int p2), .val (.int p3), .val (.int p4), .val (.int p5), .val (.int (p5 &&& (7 : Int32))), .val (.ref b1), .val (.ref b47), .val (.int (1 : Int32))] [])) (fun _ k => XS.goto X49.here hx rfl (pc0 := 138) (pc' := 214) rfl (hb hby at_138) (by decide) (by decide) k) ?_
            refine Go.step (T' := T49) (f' := (mkF m 216 #[.val (.int p1), .val (.int p2), .val (.int p3), .val (.int p4), .val (.int p5), .val (.int (p5 &&& (7 : Int32))), .val (.ref b1), .val (.ref b47), .val (.int (1 : Int32))] [(.ref b1)])) (fun _ k => XS.aload X49.here hx rfl (hb hby at_214) rfl rfl k) ?_
            refine Go.step (T' := T49) (f' := (mkF m 218 #[.val (.int p1), .val (.int p2), .val (.int p3), .val (.int p4), .val (.int p5), .val (.int (p5 &&& (7 : Int32))), .val (.ref b1), .val (.ref b47), .val (.int (1 : Int32))] [(.ref b47), (.ref b1)])) (fun _ k => XS.aload X49.here hx rfl (hb hby at_216) rfl rfl k) ?_
            have q52 : Exa Z T49.heap b47 "com/example/branchwise/branchwise/Interval" := (A47.keep Kq49)
            have q53 : Fld Z T49.heap b1 "com/example/branchwise/branchwise/Interval" "lo" "I" (.int p1) := ((r3_0.ext E47).keep Kq49 (ninS (Nat.ne_of_lt (Nat.lt_of_lt_of_le (A1.keep Kq3).lt (Nat.le_of_eq g47.symm))) nin0))
            have q54 : Fld Z T49.heap b1 "com/example/branchwise/branchwise/Interval" "hi" "I" (.int p2) := ((r3_1.ext E47).keep Kq49 (ninS (Nat.ne_of_lt (Nat.lt_of_lt_of_le (A1.keep Kq3).lt (Nat.le_of_eq g47.symm))) nin0))
            have q55 : Exa Z T49.heap b1 "com/example/branchwise/branchwise/Interval" := (((A1.keep Kq3).ext E47).keep Kq49)
            obtain ⟨cq51, kq51, q51a, q51b, q51c⟩ := isOf hZ rfl q55
            obtain ⟨_, _, ⟨T51, L51, k51, n51⟩, -, X51, ⟨Lc51, hQ51, l51, y51, z51⟩, st51⟩ := X49.virtualBack hx (y := (⟨"com/example/branchwise/branchwise/Interval", "equals", "(Ljava/lang/Object;)Z"⟩ : MethodName)) (z := (⟨"com/example/branchwise/branchwise/Interval", "equals", "(Ljava/lang/Object;)Z"⟩ : MethodName)) hown (mvT hZ (hw _ (List.mem_of_getElem? (i := 18) rfl))) (mvT hZ (hw _ (List.mem_of_getElem? (i := 19) rfl))) (notFace_of_selects (args := #[]) (mvT hZ (hw _ (List.mem_of_getElem? (i := 21) rfl)))) (mvT hZ (hw _ (List.mem_of_getElem? (i := 21) rfl))) (mvT hZ (hw _ (List.mem_of_getElem? (i := 20) rfl))) (by decide) (backOf (W := 0) (rmEqI l Z a0 hw [] b1 b47 p1 p2 p3 p2 T49.heap n0 Z50 q52 q53 q54 r49_0 r49_1) hZ (hw _ (List.mem_of_getElem? (i := 22) rfl)) (hw _ (List.mem_of_getElem? (i := 2) rfl)) (by decide) (by decide)) q51a q51c (g := (mkF m 218 #[.val (.int p1), .val (.int p2), .val (.int p3), .val (.int p4), .val (.int p5), .val (.int (p5 &&& (7 : Int32))), .val (.ref b1), .val (.ref b47), .val (.int (1 : Int32))] [(.ref b47), (.ref b1)])) rfl (by rw [hml]; rfl) (Steps.refl _) (argsL := [(.ref b47)]) (rest := []) (lenOf pd_3 rfl) rfl (by show 2 * 0 + _ ≤ _; exact Nat.le_of_eq rfl) (hb hby at_218) (fun _ _ => ⟨rfl, rfl, (by decide : 2 + 0 ≤ _), (by decide : 4 + 0 ≤ _)⟩)
            dsimp only [Pt.U, Pt.locs, Pt.cells, Pt.slots] at X51 l51 y51 z51 st51 hQ51
            subst l51 y51 z51
            obtain ⟨rfl, Nq51, eh51⟩ := hQ51
            have N51 := Fr.app N49 Nq51
            refine Go.step (T' := T51) (f' := (mkF m 221 #[.val (.int p1), .val (.int p2), .val (.int p3), .val (.int p4), .val (.int p5), .val (.int (p5 &&& (7 : Int32))), .val (.ref b1), .val (.ref b47), .val (.int (1 : Int32))] [(.int (own_eq p1 p2 p3 p2))])) (fun _ k => st51.trans k) ?_
            refine Go.step (T' := T51) (f' := (mkF m 223 #[.val (.int p1), .val (.int p2), .val (.int p3), .val (.int p4), .val (.int p5), .val (.int (p5 &&& (7 : Int32))), .val (.ref b1), .val (.ref b47), .val (.int (1 : Int32))] [(.int (1 : Int32)), (.int (own_eq p1 p2 p3 p2))])) (fun _ k => XS.iload X51.here hx rfl (hb hby at_221) rfl k) ?_
            refine Go.step (T' := T51) (f' := (mkF m 226 #[.val (.int p1), .val (.int p2), .val (.int p3), .val (.int p4), .val (.int p5), .val (.int (p5 &&& (7 : Int32))), .val (.ref b1), .val (.ref b47), .val (.int (1 : Int32))] [])) (fun _ k => XS.icmpNo X51.here hx rfl (hb hby at_223) rfl (teq (own_eq1 (by simp only [Int32.lt_iff_toInt_lt, ← Int32.toInt_inj, Int32.reduceToInt] at hc20 hc57 hc80 hc112 hc128 <;> omega))).2 k) ?_
            refine Go.step (T' := T51) (f' := (mkF m 227 #[.val (.int p1), .val (.int p2), .val (.int p3), .val (.int p4), .val (.int p5), .val (.int (p5 &&& (7 : Int32))), .val (.ref b1), .val (.ref b47), .val (.int (1 : Int32))] [(.int (1 : Int32))])) (fun _ k => XS.iconst X51.here hx rfl (hb hby at_226) k) ?_
            refine Go.step (T' := T51) (f' := (mkF m 231 #[.val (.int p1), .val (.int p2), .val (.int p3), .val (.int p4), .val (.int p5), .val (.int (p5 &&& (7 : Int32))), .val (.ref b1), .val (.ref b47), .val (.int (1 : Int32))] [(.int (1 : Int32))])) (fun _ k => XS.goto X51.here hx rfl (pc0 := 227) (pc' := 231) rfl (hb hby at_227) (by decide) (by decide) k) ?_
            refine goN X51 hx (t := .boolean) Bd.returns (by simp) Bd.notSynchronized (hb hby at_231) ?_ (by decide) (by decide)
            show Q_rm0 Z p1 p2 p3 p4 p5 s_cache clc h0 n0 _ T51.heap _
            rw [eh51]
            exact ⟨rfl, N51⟩
          · refine Go.step (T' := T49) (f' := (mkF m 135 #[.val (.int p1), .val (.int p2), .val (.int p3), .val (.int p4), .val (.int p5), .val (.int (p5 &&& (7 : Int32))), .val (.ref b1), .val (.ref b47), .unset] [])) (fun _ k => XS.icmpYes X49.here hx rfl (pc0 := 128) (pc' := 135) rfl (hb hby at_128) rfl (feq hc128).2 (by decide) (by decide) k) ?_
            refine Go.step (T' := T49) (f' := (mkF m 136 #[.val (.int p1), .val (.int p2), .val (.int p3), .val (.int p4), .val (.int p5), .val (.int (p5 &&& (7 : Int32))), .val (.ref b1), .val (.ref b47), .unset] [(.int (0 : Int32))])) (fun _ k => XS.iconst X49.here hx rfl (hb hby at_135) k) ?_
            refine Go.step (T' := T49) (f' := (mkF m 138 #[.val (.int p1), .val (.int p2), .val (.int p3), .val (.int p4), .val (.int p5), .val (.int (p5 &&& (7 : Int32))), .val (.ref b1), .val (.ref b47), .val (.int (0 : Int32))] [])) (fun _ k => XS.istore X49.here hx rfl (hb hby at_136) rfl (l' := #[.val (.int p1), .val (.int p2), .val (.int p3), .val (.int p4), .val (.int p5), .val (.int (p5 &&& (7 : Int32))), .val (.ref b1), .val (.ref b47), .val (.int (0 : Int32))]) rfl k) ?_
            refine Go.step (T' := T49) (f' := (mkF m 214 #[.val (.int p1), .val (.int p2), .val (.int p3), .val (.int p4), .val (.int p5), .val (.int (p5 &&& (7 : Int32))), .val (.ref b1), .val (.ref b47), .val (.int (0 : Int32))] [])) (fun _ k => XS.goto X49.here hx rfl (pc0 := 138) (pc' := 214) rfl (hb hby at_138) (by decide) (by decide) k) ?_
            refine Go.step (T' := T49) (f' := (mkF m 216 #[.val (.int p1), .val (.int p2), .val (.int p3), .val (.int p4), .val (.int p5), .val (.int (p5 &&& (7 : Int32))), .val (.ref b1), .val (.ref b47), .val (.int (0 : Int32))] [(.ref b1)])) (fun _ k => XS.aload X49.here hx rfl (hb hby at_214) rfl rfl k) ?_
            refine Go.step (T' := T49) (f' := (mkF m 218 #[.val (.int p1), .val (.int p2), .val (.int p3), .val (.int p4), .val (.int p5), .val (.int (p5 &&& (7 : Int32))), .val (.ref b1), .val (.ref b47), .val (.int (0 : Int32))] [(.ref b47), (.ref b1)])) (fun _ k => XS.aload X49.here hx rfl (hb hby at_216) rfl rfl k) ?_
            have q57 : Exa Z T49.heap b47 "com/example/branchwise/branchwise/Interval" := (A47.keep Kq49)
            have q58 : Fld Z T49.heap b1 "com/example/branchwise/branchwise/Interval" "lo" "I" (.int p1) := ((r3_0.ext E47).keep Kq49 (ninS (Nat.ne_of_lt (Nat.lt_of_lt_of_le (A1.keep Kq3).lt (Nat.le_of_eq g47.symm))) nin0))
            have q59 : Fld Z T49.heap b1 "com/example/branchwise/branchwise/Interval" "hi" "I" (.int p2) := ((r3_1.ext E47).keep Kq49 (ninS (Nat.ne_of_lt (Nat.lt_of_lt_of_le (A1.keep Kq3).lt (Nat.le_of_eq g47.symm))) nin0))
            have q60 : Exa Z T49.heap b1 "com/example/branchwise/branchwise/Interval" := (((A1.keep Kq3).ext E47).keep Kq49)
            obtain ⟨cq56, kq56, q56a, q56b, q56c⟩ := isOf hZ rfl q60
            obtain ⟨_, _, ⟨T56, L56, k56, n56⟩, -, X56, ⟨Lc56, hQ56, l56, y56, z56⟩, st56⟩ := X49.virtualBack hx (y := (⟨"com/example/branchwise/branchwise/Interval", "equals", "(Ljava/lang/Object;)Z"⟩ : MethodName)) (z := (⟨"com/example/branchwise/branchwise/Interval", "equals", "(Ljava/lang/Object;)Z"⟩ : MethodName)) hown (mvT hZ (hw _ (List.mem_of_getElem? (i := 18) rfl))) (mvT hZ (hw _ (List.mem_of_getElem? (i := 19) rfl))) (notFace_of_selects (args := #[]) (mvT hZ (hw _ (List.mem_of_getElem? (i := 21) rfl)))) (mvT hZ (hw _ (List.mem_of_getElem? (i := 21) rfl))) (mvT hZ (hw _ (List.mem_of_getElem? (i := 20) rfl))) (by decide) (backOf (W := 0) (rmEqI l Z a0 hw [] b1 b47 p1 p2 p3 p2 T49.heap n0 Z50 q57 q58 q59 r49_0 r49_1) hZ (hw _ (List.mem_of_getElem? (i := 22) rfl)) (hw _ (List.mem_of_getElem? (i := 2) rfl)) (by decide) (by decide)) q56a q56c (g := (mkF m 218 #[.val (.int p1), .val (.int p2), .val (.int p3), .val (.int p4), .val (.int p5), .val (.int (p5 &&& (7 : Int32))), .val (.ref b1), .val (.ref b47), .val (.int (0 : Int32))] [(.ref b47), (.ref b1)])) rfl (by rw [hml]; rfl) (Steps.refl _) (argsL := [(.ref b47)]) (rest := []) (lenOf pd_3 rfl) rfl (by show 2 * 0 + _ ≤ _; exact Nat.le_of_eq rfl) (hb hby at_218) (fun _ _ => ⟨rfl, rfl, (by decide : 2 + 0 ≤ _), (by decide : 4 + 0 ≤ _)⟩)
            dsimp only [Pt.U, Pt.locs, Pt.cells, Pt.slots] at X56 l56 y56 z56 st56 hQ56
            subst l56 y56 z56
            obtain ⟨rfl, Nq56, eh56⟩ := hQ56
            have N56 := Fr.app N49 Nq56
            refine Go.step (T' := T56) (f' := (mkF m 221 #[.val (.int p1), .val (.int p2), .val (.int p3), .val (.int p4), .val (.int p5), .val (.int (p5 &&& (7 : Int32))), .val (.ref b1), .val (.ref b47), .val (.int (0 : Int32))] [(.int (own_eq p1 p2 p3 p2))])) (fun _ k => st56.trans k) ?_
            refine Go.step (T' := T56) (f' := (mkF m 223 #[.val (.int p1), .val (.int p2), .val (.int p3), .val (.int p4), .val (.int p5), .val (.int (p5 &&& (7 : Int32))), .val (.ref b1), .val (.ref b47), .val (.int (0 : Int32))] [(.int (0 : Int32)), (.int (own_eq p1 p2 p3 p2))])) (fun _ k => XS.iload X56.here hx rfl (hb hby at_221) rfl k) ?_
            refine Go.step (T' := T56) (f' := (mkF m 226 #[.val (.int p1), .val (.int p2), .val (.int p3), .val (.int p4), .val (.int p5), .val (.int (p5 &&& (7 : Int32))), .val (.ref b1), .val (.ref b47), .val (.int (0 : Int32))] [])) (fun _ k => XS.icmpNo X56.here hx rfl (hb hby at_223) rfl (teq (own_eq0 (by simp only [Int32.lt_iff_toInt_lt, ← Int32.toInt_inj, Int32.reduceToInt] at hc20 hc57 hc80 hc112 hc128 <;> omega))).2 k) ?_
            refine Go.step (T' := T56) (f' := (mkF m 227 #[.val (.int p1), .val (.int p2), .val (.int p3), .val (.int p4), .val (.int p5), .val (.int (p5 &&& (7 : Int32))), .val (.ref b1), .val (.ref b47), .val (.int (0 : Int32))] [(.int (1 : Int32))])) (fun _ k => XS.iconst X56.here hx rfl (hb hby at_226) k) ?_
            refine Go.step (T' := T56) (f' := (mkF m 231 #[.val (.int p1), .val (.int p2), .val (.int p3), .val (.int p4), .val (.int p5), .val (.int (p5 &&& (7 : Int32))), .val (.ref b1), .val (.ref b47), .val (.int (0 : Int32))] [(.int (1 : Int32))])) (fun _ k => XS.goto X56.here hx rfl (pc0 := 227) (pc' := 231) rfl (hb hby at_227) (by decide) (by decide) k) ?_
            refine goN X56 hx (t := .boolean) Bd.returns (by simp) Bd.notSynchronized (hb hby at_231) ?_ (by decide) (by decide)
            show Q_rm0 Z p1 p2 p3 p4 p5 s_cache clc h0 n0 _ T56.heap _
            rw [eh56]
            exact ⟨rfl, N56⟩
        · refine Go.step (T' := T3) (f' := (mkF m 141 #[.val (.int p1), .val (.int p2), .val (.int p3), .val (.int p4), .val (.int p5), .val (.int (p5 &&& (7 : Int32))), .val (.ref b1), .unset, .unset] [])) (fun _ k => XS.icmpYes X3.here hx rfl (pc0 := 112) (pc' := 141) rfl (hb hby at_112) rfl (feq hc112).2 (by decide) (by decide) k) ?_
          refine Go.step (T' := T3) (f' := (mkF m 143 #[.val (.int p1), .val (.int p2), .val (.int p3), .val (.int p4), .val (.int p5), .val (.int (p5 &&& (7 : Int32))), .val (.ref b1), .unset, .unset] [(.int (p5 &&& (7 : Int32)))])) (fun _ k => XS.iload X3.here hx rfl (hb hby at_141) rfl k) ?_
          refine Go.step (T' := T3) (f' := (mkF m 144 #[.val (.int p1), .val (.int p2), .val (.int p3), .val (.int p4), .val (.int p5), .val (.int (p5 &&& (7 : Int32))), .val (.ref b1), .unset, .unset] [(.int (4 : Int32)), (.int (p5 &&& (7 : Int32)))])) (fun _ k => XS.iconst X3.here hx rfl (hb hby at_143) k) ?_
          by_cases hc144 : (p5 &&& (7 : Int32)) = (4 : Int32)
          · refine Go.step (T' := T3) (f' := (mkF m 147 #[.val (.int p1), .val (.int p2), .val (.int p3), .val (.int p4), .val (.int p5), .val (.int (p5 &&& (7 : Int32))), .val (.ref b1), .unset, .unset] [])) (fun _ k => XS.icmpNo X3.here hx rfl (hb hby at_144) rfl (teq hc144).2 k) ?_
            refine Go.step (T' := T3) (f' := (mkF m 148 #[.val (.int p1), .val (.int p2), .val (.int p3), .val (.int p4), .val (.int p5), .val (.int (p5 &&& (7 : Int32))), .val (.ref b1), .unset, .unset] [(.int p1)])) (fun _ k => XS.iloadN X3.here hx rfl (hb hby at_147) rfl k) ?_
            obtain ⟨_, _, ⟨T61, L61, k61, n61⟩, -, X61, ⟨Lc61, hQ61, l61, y61, z61⟩, st61⟩ := Jvm.LawKit.callS X3 hx (y := (⟨"java/lang/Integer", "valueOf", "(I)Ljava/lang/Integer;"⟩ : MethodName)) hown (mvT hZ (hw _ (List.mem_of_getElem? (i := 25) rfl))) (mvT hZ (hw _ (List.mem_of_getElem? (i := 26) rfl))) (mvT hZ (hw _ (List.mem_of_getElem? (i := 27) rfl))) (mvT hZ (hw _ (List.mem_of_getElem? (i := 28) rfl))) (by decide) (backOf (W := 0) (rm5 l Z a0 hw [] p1 s_cache clc T3.heap n0 Z4 O4 S_high S_cache Arc hsz hC) hZ (hw _ (List.mem_of_getElem? (i := 28) rfl)) (hw _ (List.mem_of_getElem? (i := 27) rfl)) (by decide) (by decide)) (g := (mkF m 148 #[.val (.int p1), .val (.int p2), .val (.int p3), .val (.int p4), .val (.int p5), .val (.int (p5 &&& (7 : Int32))), .val (.ref b1), .unset, .unset] [(.int p1)])) rfl (by rw [hml]; rfl) (argsL := [(.int p1)]) (rest := []) (lenOf pd_4 rfl) rfl (by show 2 * 0 + _ ≤ _; exact Nat.le_of_eq rfl) (hb hby at_148) (fun _ _ => ⟨rfl, rfl, (by decide : 1 + 1 ≤ _), (by decide : 2 + 1 ≤ _)⟩)
            dsimp only [Pt.U, Pt.locs, Pt.cells, Pt.slots] at X61 l61 y61 z61 st61 hQ61
            subst l61 y61 z61
            obtain ⟨r_61, rfl, Nq61, Kq61, r61_0⟩ := hQ61
            have N61 := Fr.app N3 Nq61
            have Z62 : n0 ≤ T61.heap.size := Nat.le_trans Z4 Kq61.1
            have O62 : Old Z n0 T61.heap := O4.keep Kq61 all0
            refine Go.step (T' := T61) (f' := (mkF m 151 #[.val (.int p1), .val (.int p2), .val (.int p3), .val (.int p4), .val (.int p5), .val (.int (p5 &&& (7 : Int32))), .val (.ref b1), .unset, .unset] [(.ref r_61)])) st61 ?_
            refine Go.step (T' := T61) (f' := (mkF m 153 #[.val (.int p1), .val (.int p2), .val (.int p3), .val (.int p4), .val (.int p5), .val (.int (p5 &&& (7 : Int32))), .val (.ref b1), .val (.ref r_61), .unset] [])) (fun _ k => XS.astore X61.here hx rfl (hb hby at_151) rfl rfl (l' := #[.val (.int p1), .val (.int p2), .val (.int p3), .val (.int p4), .val (.int p5), .val (.int (p5 &&& (7 : Int32))), .val (.ref b1), .val (.ref r_61), .unset]) rfl k) ?_
            refine Go.step (T' := T61) (f' := (mkF m 154 #[.val (.int p1), .val (.int p2), .val (.int p3), .val (.int p4), .val (.int p5), .val (.int (p5 &&& (7 : Int32))), .val (.ref b1), .val (.ref r_61), .unset] [(.int (0 : Int32))])) (fun _ k => XS.iconst X61.here hx rfl (hb hby at_153) k) ?_
            refine Go.step (T' := T61) (f' := (mkF m 156 #[.val (.int p1), .val (.int p2), .val (.int p3), .val (.int p4), .val (.int p5), .val (.int (p5 &&& (7 : Int32))), .val (.ref b1), .val (.ref r_61), .val (.int (0 : Int32))] [])) (fun _ k => XS.istore X61.here hx rfl (hb hby at_154) rfl (l' := #[.val (.int p1), .val (.int p2), .val (.int p3), .val (.int p4), .val (.int p5), .val (.int (p5 &&& (7 : Int32))), .val (.ref b1), .val (.ref r_61), .val (.int (0 : Int32))]) rfl k) ?_
            refine Go.step (T' := T61) (f' := (mkF m 214 #[.val (.int p1), .val (.int p2), .val (.int p3), .val (.int p4), .val (.int p5), .val (.int (p5 &&& (7 : Int32))), .val (.ref b1), .val (.ref r_61), .val (.int (0 : Int32))] [])) (fun _ k => XS.goto X61.here hx rfl (pc0 := 156) (pc' := 214) rfl (hb hby at_156) (by decide) (by decide) k) ?_
            refine Go.step (T' := T61) (f' := (mkF m 216 #[.val (.int p1), .val (.int p2), .val (.int p3), .val (.int p4), .val (.int p5), .val (.int (p5 &&& (7 : Int32))), .val (.ref b1), .val (.ref r_61), .val (.int (0 : Int32))] [(.ref b1)])) (fun _ k => XS.aload X61.here hx rfl (hb hby at_214) rfl rfl k) ?_
            refine Go.step (T' := T61) (f' := (mkF m 218 #[.val (.int p1), .val (.int p2), .val (.int p3), .val (.int p4), .val (.int p5), .val (.int (p5 &&& (7 : Int32))), .val (.ref b1), .val (.ref r_61), .val (.int (0 : Int32))] [(.ref r_61), (.ref b1)])) (fun _ k => XS.aload X61.here hx rfl (hb hby at_216) rfl rfl k) ?_
            have q64 : Exa Z T61.heap b1 "com/example/branchwise/branchwise/Interval" := ((A1.keep Kq3).keep Kq61)
            obtain ⟨cq63, kq63, q63a, q63b, q63c⟩ := isOf hZ rfl q64
            obtain ⟨_, _, ⟨T63, L63, k63, n63⟩, -, X63, ⟨Lc63, hQ63, l63, y63, z63⟩, st63⟩ := X61.virtualBack hx (y := (⟨"com/example/branchwise/branchwise/Interval", "equals", "(Ljava/lang/Object;)Z"⟩ : MethodName)) (z := (⟨"com/example/branchwise/branchwise/Interval", "equals", "(Ljava/lang/Object;)Z"⟩ : MethodName)) hown (mvT hZ (hw _ (List.mem_of_getElem? (i := 18) rfl))) (mvT hZ (hw _ (List.mem_of_getElem? (i := 19) rfl))) (notFace_of_selects (args := #[]) (mvT hZ (hw _ (List.mem_of_getElem? (i := 21) rfl)))) (mvT hZ (hw _ (List.mem_of_getElem? (i := 21) rfl))) (mvT hZ (hw _ (List.mem_of_getElem? (i := 20) rfl))) (by decide) (backOf (W := 0) (rmEqX l Z a0 hw [] b1 r_61 T61.heap n0 Z62 r61_0) hZ (hw _ (List.mem_of_getElem? (i := 22) rfl)) (hw _ (List.mem_of_getElem? (i := 2) rfl)) (by decide) (by decide)) q63a q63c (g := (mkF m 218 #[.val (.int p1), .val (.int p2), .val (.int p3), .val (.int p4), .val (.int p5), .val (.int (p5 &&& (7 : Int32))), .val (.ref b1), .val (.ref r_61), .val (.int (0 : Int32))] [(.ref r_61), (.ref b1)])) rfl (by rw [hml]; rfl) (Steps.refl _) (argsL := [(.ref r_61)]) (rest := []) (lenOf pd_3 rfl) rfl (by show 2 * 0 + _ ≤ _; exact Nat.le_of_eq rfl) (hb hby at_218) (fun _ _ => ⟨rfl, rfl, (by decide : 2 + 0 ≤ _), (by decide : 3 + 0 ≤ _)⟩)
            dsimp only [Pt.U, Pt.locs, Pt.cells, Pt.slots] at X63 l63 y63 z63 st63 hQ63
            subst l63 y63 z63
            obtain ⟨rfl, Nq63, eh63⟩ := hQ63
            have N63 := Fr.app N61 Nq63
            refine Go.step (T' := T63) (f' := (mkF m 221 #[.val (.int p1), .val (.int p2), .val (.int p3), .val (.int p4), .val (.int p5), .val (.int (p5 &&& (7 : Int32))), .val (.ref b1), .val (.ref r_61), .val (.int (0 : Int32))] [(.int (0 : Int32))])) (fun _ k => st63.trans k) ?_
            refine Go.step (T' := T63) (f' := (mkF m 223 #[.val (.int p1), .val (.int p2), .val (.int p3), .val (.int p4), .val (.int p5), .val (.int (p5 &&& (7 : Int32))), .val (.ref b1), .val (.ref r_61), .val (.int (0 : Int32))] [(.int (0 : Int32)), (.int (0 : Int32))])) (fun _ k => XS.iload X63.here hx rfl (hb hby at_221) rfl k) ?_
            refine Go.step (T' := T63) (f' := (mkF m 226 #[.val (.int p1), .val (.int p2), .val (.int p3), .val (.int p4), .val (.int p5), .val (.int (p5 &&& (7 : Int32))), .val (.ref b1), .val (.ref r_61), .val (.int (0 : Int32))] [])) (fun _ k => XS.icmpNo X63.here hx rfl (hb hby at_223) rfl (teq (by decide : (0 : Int32) = (0 : Int32))).2 k) ?_
            refine Go.step (T' := T63) (f' := (mkF m 227 #[.val (.int p1), .val (.int p2), .val (.int p3), .val (.int p4), .val (.int p5), .val (.int (p5 &&& (7 : Int32))), .val (.ref b1), .val (.ref r_61), .val (.int (0 : Int32))] [(.int (1 : Int32))])) (fun _ k => XS.iconst X63.here hx rfl (hb hby at_226) k) ?_
            refine Go.step (T' := T63) (f' := (mkF m 231 #[.val (.int p1), .val (.int p2), .val (.int p3), .val (.int p4), .val (.int p5), .val (.int (p5 &&& (7 : Int32))), .val (.ref b1), .val (.ref r_61), .val (.int (0 : Int32))] [(.int (1 : Int32))])) (fun _ k => XS.goto X63.here hx rfl (pc0 := 227) (pc' := 231) rfl (hb hby at_227) (by decide) (by decide) k) ?_
            refine goN X63 hx (t := .boolean) Bd.returns (by simp) Bd.notSynchronized (hb hby at_231) ?_ (by decide) (by decide)
            show Q_rm0 Z p1 p2 p3 p4 p5 s_cache clc h0 n0 _ T63.heap _
            rw [eh63]
            exact ⟨rfl, N63⟩
          · refine Go.step (T' := T3) (f' := (mkF m 159 #[.val (.int p1), .val (.int p2), .val (.int p3), .val (.int p4), .val (.int p5), .val (.int (p5 &&& (7 : Int32))), .val (.ref b1), .unset, .unset] [])) (fun _ k => XS.icmpYes X3.here hx rfl (pc0 := 144) (pc' := 159) rfl (hb hby at_144) rfl (feq hc144).2 (by decide) (by decide) k) ?_
            refine Go.step (T' := T3) (f' := (mkF m 161 #[.val (.int p1), .val (.int p2), .val (.int p3), .val (.int p4), .val (.int p5), .val (.int (p5 &&& (7 : Int32))), .val (.ref b1), .unset, .unset] [(.int (p5 &&& (7 : Int32)))])) (fun _ k => XS.iload X3.here hx rfl (hb hby at_159) rfl k) ?_
            refine Go.step (T' := T3) (f' := (mkF m 162 #[.val (.int p1), .val (.int p2), .val (.int p3), .val (.int p4), .val (.int p5), .val (.int (p5 &&& (7 : Int32))), .val (.ref b1), .unset, .unset] [(.int (5 : Int32)), (.int (p5 &&& (7 : Int32)))])) (fun _ k => XS.iconst X3.here hx rfl (hb hby at_161) k) ?_
            by_cases hc162 : (p5 &&& (7 : Int32)) = (5 : Int32)
            · refine Go.step (T' := T3) (f' := (mkF m 165 #[.val (.int p1), .val (.int p2), .val (.int p3), .val (.int p4), .val (.int p5), .val (.int (p5 &&& (7 : Int32))), .val (.ref b1), .unset, .unset] [])) (fun _ k => XS.icmpNo X3.here hx rfl (hb hby at_162) rfl (teq hc162).2 k) ?_
              refine Go.step (T' := T3) (f' := (mkF m 166 #[.val (.int p1), .val (.int p2), .val (.int p3), .val (.int p4), .val (.int p5), .val (.int (p5 &&& (7 : Int32))), .val (.ref b1), .unset, .unset] [.null])) (fun _ k => XS.aconstNull X3.here hx rfl (hb hby at_165) k) ?_
              refine Go.step (T' := T3) (f' := (mkF m 168 #[.val (.int p1), .val (.int p2), .val (.int p3), .val (.int p4), .val (.int p5), .val (.int (p5 &&& (7 : Int32))), .val (.ref b1), .val .null, .unset] [])) (fun _ k => XS.astore X3.here hx rfl (hb hby at_166) rfl rfl (l' := #[.val (.int p1), .val (.int p2), .val (.int p3), .val (.int p4), .val (.int p5), .val (.int (p5 &&& (7 : Int32))), .val (.ref b1), .val .null, .unset]) rfl k) ?_
              refine Go.step (T' := T3) (f' := (mkF m 169 #[.val (.int p1), .val (.int p2), .val (.int p3), .val (.int p4), .val (.int p5), .val (.int (p5 &&& (7 : Int32))), .val (.ref b1), .val .null, .unset] [(.int (0 : Int32))])) (fun _ k => XS.iconst X3.here hx rfl (hb hby at_168) k) ?_
              refine Go.step (T' := T3) (f' := (mkF m 171 #[.val (.int p1), .val (.int p2), .val (.int p3), .val (.int p4), .val (.int p5), .val (.int (p5 &&& (7 : Int32))), .val (.ref b1), .val .null, .val (.int (0 : Int32))] [])) (fun _ k => XS.istore X3.here hx rfl (hb hby at_169) rfl (l' := #[.val (.int p1), .val (.int p2), .val (.int p3), .val (.int p4), .val (.int p5), .val (.int (p5 &&& (7 : Int32))), .val (.ref b1), .val .null, .val (.int (0 : Int32))]) rfl k) ?_
              refine Go.step (T' := T3) (f' := (mkF m 214 #[.val (.int p1), .val (.int p2), .val (.int p3), .val (.int p4), .val (.int p5), .val (.int (p5 &&& (7 : Int32))), .val (.ref b1), .val .null, .val (.int (0 : Int32))] [])) (fun _ k => XS.goto X3.here hx rfl (pc0 := 171) (pc' := 214) rfl (hb hby at_171) (by decide) (by decide) k) ?_
              refine Go.step (T' := T3) (f' := (mkF m 216 #[.val (.int p1), .val (.int p2), .val (.int p3), .val (.int p4), .val (.int p5), .val (.int (p5 &&& (7 : Int32))), .val (.ref b1), .val .null, .val (.int (0 : Int32))] [(.ref b1)])) (fun _ k => XS.aload X3.here hx rfl (hb hby at_214) rfl rfl k) ?_
              refine Go.step (T' := T3) (f' := (mkF m 218 #[.val (.int p1), .val (.int p2), .val (.int p3), .val (.int p4), .val (.int p5), .val (.int (p5 &&& (7 : Int32))), .val (.ref b1), .val .null, .val (.int (0 : Int32))] [.null, (.ref b1)])) (fun _ k => XS.aload X3.here hx rfl (hb hby at_216) rfl rfl k) ?_
              have q66 : Exa Z T3.heap b1 "com/example/branchwise/branchwise/Interval" := (A1.keep Kq3)
              obtain ⟨cq65, kq65, q65a, q65b, q65c⟩ := isOf hZ rfl q66
              obtain ⟨_, _, ⟨T65, L65, k65, n65⟩, -, X65, ⟨Lc65, hQ65, l65, y65, z65⟩, st65⟩ := X3.virtualBack hx (y := (⟨"com/example/branchwise/branchwise/Interval", "equals", "(Ljava/lang/Object;)Z"⟩ : MethodName)) (z := (⟨"com/example/branchwise/branchwise/Interval", "equals", "(Ljava/lang/Object;)Z"⟩ : MethodName)) hown (mvT hZ (hw _ (List.mem_of_getElem? (i := 18) rfl))) (mvT hZ (hw _ (List.mem_of_getElem? (i := 19) rfl))) (notFace_of_selects (args := #[]) (mvT hZ (hw _ (List.mem_of_getElem? (i := 21) rfl)))) (mvT hZ (hw _ (List.mem_of_getElem? (i := 21) rfl))) (mvT hZ (hw _ (List.mem_of_getElem? (i := 20) rfl))) (by decide) (backOf (W := 0) (rmEqN l Z a0 hw [] b1 T3.heap n0 Z4 ) hZ (hw _ (List.mem_of_getElem? (i := 22) rfl)) (hw _ (List.mem_of_getElem? (i := 2) rfl)) (by decide) (by decide)) q65a q65c (g := (mkF m 218 #[.val (.int p1), .val (.int p2), .val (.int p3), .val (.int p4), .val (.int p5), .val (.int (p5 &&& (7 : Int32))), .val (.ref b1), .val .null, .val (.int (0 : Int32))] [.null, (.ref b1)])) rfl (by rw [hml]; rfl) (Steps.refl _) (argsL := [.null]) (rest := []) (lenOf pd_3 rfl) rfl (by show 2 * 0 + _ ≤ _; exact Nat.le_of_eq rfl) (hb hby at_218) (fun _ _ => ⟨rfl, rfl, (by decide : 1 + 0 ≤ _), (by decide : 2 + 0 ≤ _)⟩)
              dsimp only [Pt.U, Pt.locs, Pt.cells, Pt.slots] at X65 l65 y65 z65 st65 hQ65
              subst l65 y65 z65
              obtain ⟨rfl, Nq65, eh65⟩ := hQ65
              have N65 := Fr.app N3 Nq65
              refine Go.step (T' := T65) (f' := (mkF m 221 #[.val (.int p1), .val (.int p2), .val (.int p3), .val (.int p4), .val (.int p5), .val (.int (p5 &&& (7 : Int32))), .val (.ref b1), .val .null, .val (.int (0 : Int32))] [(.int (0 : Int32))])) (fun _ k => st65.trans k) ?_
              refine Go.step (T' := T65) (f' := (mkF m 223 #[.val (.int p1), .val (.int p2), .val (.int p3), .val (.int p4), .val (.int p5), .val (.int (p5 &&& (7 : Int32))), .val (.ref b1), .val .null, .val (.int (0 : Int32))] [(.int (0 : Int32)), (.int (0 : Int32))])) (fun _ k => XS.iload X65.here hx rfl (hb hby at_221) rfl k) ?_
              refine Go.step (T' := T65) (f' := (mkF m 226 #[.val (.int p1), .val (.int p2), .val (.int p3), .val (.int p4), .val (.int p5), .val (.int (p5 &&& (7 : Int32))), .val (.ref b1), .val .null, .val (.int (0 : Int32))] [])) (fun _ k => XS.icmpNo X65.here hx rfl (hb hby at_223) rfl (teq (by decide : (0 : Int32) = (0 : Int32))).2 k) ?_
              refine Go.step (T' := T65) (f' := (mkF m 227 #[.val (.int p1), .val (.int p2), .val (.int p3), .val (.int p4), .val (.int p5), .val (.int (p5 &&& (7 : Int32))), .val (.ref b1), .val .null, .val (.int (0 : Int32))] [(.int (1 : Int32))])) (fun _ k => XS.iconst X65.here hx rfl (hb hby at_226) k) ?_
              refine Go.step (T' := T65) (f' := (mkF m 231 #[.val (.int p1), .val (.int p2), .val (.int p3), .val (.int p4), .val (.int p5), .val (.int (p5 &&& (7 : Int32))), .val (.ref b1), .val .null, .val (.int (0 : Int32))] [(.int (1 : Int32))])) (fun _ k => XS.goto X65.here hx rfl (pc0 := 227) (pc' := 231) rfl (hb hby at_227) (by decide) (by decide) k) ?_
              refine goN X65 hx (t := .boolean) Bd.returns (by simp) Bd.notSynchronized (hb hby at_231) ?_ (by decide) (by decide)
              show Q_rm0 Z p1 p2 p3 p4 p5 s_cache clc h0 n0 _ T65.heap _
              rw [eh65]
              exact ⟨rfl, N65⟩
            · refine Go.step (T' := T3) (f' := (mkF m 174 #[.val (.int p1), .val (.int p2), .val (.int p3), .val (.int p4), .val (.int p5), .val (.int (p5 &&& (7 : Int32))), .val (.ref b1), .unset, .unset] [])) (fun _ k => XS.icmpYes X3.here hx rfl (pc0 := 162) (pc' := 174) rfl (hb hby at_162) rfl (feq hc162).2 (by decide) (by decide) k) ?_
              refine Go.step (T' := T3) (f' := (mkF m 176 #[.val (.int p1), .val (.int p2), .val (.int p3), .val (.int p4), .val (.int p5), .val (.int (p5 &&& (7 : Int32))), .val (.ref b1), .unset, .unset] [(.int (p5 &&& (7 : Int32)))])) (fun _ k => XS.iload X3.here hx rfl (hb hby at_174) rfl k) ?_
              refine Go.step (T' := T3) (f' := (mkF m 178 #[.val (.int p1), .val (.int p2), .val (.int p3), .val (.int p4), .val (.int p5), .val (.int (p5 &&& (7 : Int32))), .val (.ref b1), .unset, .unset] [(.int (6 : Int32)), (.int (p5 &&& (7 : Int32)))])) (fun _ k => XS.bipush X3.here hx rfl (hb hby at_176) k) ?_
              by_cases hc178 : (p5 &&& (7 : Int32)) = (6 : Int32)
              · refine Go.step (T' := T3) (f' := (mkF m 181 #[.val (.int p1), .val (.int p2), .val (.int p3), .val (.int p4), .val (.int p5), .val (.int (p5 &&& (7 : Int32))), .val (.ref b1), .unset, .unset] [])) (fun _ k => XS.icmpNo X3.here hx rfl (hb hby at_178) rfl (teq hc178).2 k) ?_
                refine Go.step (T' := T3) (f' := (mkF m 183 #[.val (.int p1), .val (.int p2), .val (.int p3), .val (.int p4), .val (.int p5), .val (.int (p5 &&& (7 : Int32))), .val (.ref b1), .unset, .unset] [(.ref b1)])) (fun _ k => XS.aload X3.here hx rfl (hb hby at_181) rfl rfl k) ?_
                refine Go.step (T' := T3) (f' := (mkF m 185 #[.val (.int p1), .val (.int p2), .val (.int p3), .val (.int p4), .val (.int p5), .val (.int (p5 &&& (7 : Int32))), .val (.ref b1), .val (.ref b1), .unset] [])) (fun _ k => XS.astore X3.here hx rfl (hb hby at_183) rfl rfl (l' := #[.val (.int p1), .val (.int p2), .val (.int p3), .val (.int p4), .val (.int p5), .val (.int (p5 &&& (7 : Int32))), .val (.ref b1), .val (.ref b1), .unset]) rfl k) ?_
                refine Go.step (T' := T3) (f' := (mkF m 186 #[.val (.int p1), .val (.int p2), .val (.int p3), .val (.int p4), .val (.int p5), .val (.int (p5 &&& (7 : Int32))), .val (.ref b1), .val (.ref b1), .unset] [(.int (1 : Int32))])) (fun _ k => XS.iconst X3.here hx rfl (hb hby at_185) k) ?_
                refine Go.step (T' := T3) (f' := (mkF m 188 #[.val (.int p1), .val (.int p2), .val (.int p3), .val (.int p4), .val (.int p5), .val (.int (p5 &&& (7 : Int32))), .val (.ref b1), .val (.ref b1), .val (.int (1 : Int32))] [])) (fun _ k => XS.istore X3.here hx rfl (hb hby at_186) rfl (l' := #[.val (.int p1), .val (.int p2), .val (.int p3), .val (.int p4), .val (.int p5), .val (.int (p5 &&& (7 : Int32))), .val (.ref b1), .val (.ref b1), .val (.int (1 : Int32))]) rfl k) ?_
                refine Go.step (T' := T3) (f' := (mkF m 214 #[.val (.int p1), .val (.int p2), .val (.int p3), .val (.int p4), .val (.int p5), .val (.int (p5 &&& (7 : Int32))), .val (.ref b1), .val (.ref b1), .val (.int (1 : Int32))] [])) (fun _ k => XS.goto X3.here hx rfl (pc0 := 188) (pc' := 214) rfl (hb hby at_188) (by decide) (by decide) k) ?_
                refine Go.step (T' := T3) (f' := (mkF m 216 #[.val (.int p1), .val (.int p2), .val (.int p3), .val (.int p4), .val (.int p5), .val (.int (p5 &&& (7 : Int32))), .val (.ref b1), .val (.ref b1), .val (.int (1 : Int32))] [(.ref b1)])) (fun _ k => XS.aload X3.here hx rfl (hb hby at_214) rfl rfl k) ?_
                refine Go.step (T' := T3) (f' := (mkF m 218 #[.val (.int p1), .val (.int p2), .val (.int p3), .val (.int p4), .val (.int p5), .val (.int (p5 &&& (7 : Int32))), .val (.ref b1), .val (.ref b1), .val (.int (1 : Int32))] [(.ref b1), (.ref b1)])) (fun _ k => XS.aload X3.here hx rfl (hb hby at_216) rfl rfl k) ?_
                have q68 : Exa Z T3.heap b1 "com/example/branchwise/branchwise/Interval" := (A1.keep Kq3)
                obtain ⟨cq67, kq67, q67a, q67b, q67c⟩ := isOf hZ rfl q68
                obtain ⟨_, _, ⟨T67, L67, k67, n67⟩, -, X67, ⟨Lc67, hQ67, l67, y67, z67⟩, st67⟩ := X3.virtualBack hx (y := (⟨"com/example/branchwise/branchwise/Interval", "equals", "(Ljava/lang/Object;)Z"⟩ : MethodName)) (z := (⟨"com/example/branchwise/branchwise/Interval", "equals", "(Ljava/lang/Object;)Z"⟩ : MethodName)) hown (mvT hZ (hw _ (List.mem_of_getElem? (i := 18) rfl))) (mvT hZ (hw _ (List.mem_of_getElem? (i := 19) rfl))) (notFace_of_selects (args := #[]) (mvT hZ (hw _ (List.mem_of_getElem? (i := 21) rfl)))) (mvT hZ (hw _ (List.mem_of_getElem? (i := 21) rfl))) (mvT hZ (hw _ (List.mem_of_getElem? (i := 20) rfl))) (by decide) (backOf (W := 0) (rmEqI l Z a0 hw [] b1 b1 p1 p2 p1 p2 T3.heap n0 Z4 q68 r3_0 r3_1 r3_0 r3_1) hZ (hw _ (List.mem_of_getElem? (i := 22) rfl)) (hw _ (List.mem_of_getElem? (i := 2) rfl)) (by decide) (by decide)) q67a q67c (g := (mkF m 218 #[.val (.int p1), .val (.int p2), .val (.int p3), .val (.int p4), .val (.int p5), .val (.int (p5 &&& (7 : Int32))), .val (.ref b1), .val (.ref b1), .val (.int (1 : Int32))] [(.ref b1), (.ref b1)])) rfl (by rw [hml]; rfl) (Steps.refl _) (argsL := [(.ref b1)]) (rest := []) (lenOf pd_3 rfl) rfl (by show 2 * 0 + _ ≤ _; exact Nat.le_of_eq rfl) (hb hby at_218) (fun _ _ => ⟨rfl, rfl, (by decide : 1 + 0 ≤ _), (by decide : 2 + 0 ≤ _)⟩)
                dsimp only [Pt.U, Pt.locs, Pt.cells, Pt.slots] at X67 l67 y67 z67 st67 hQ67
                subst l67 y67 z67
                obtain ⟨rfl, Nq67, eh67⟩ := hQ67
                have N67 := Fr.app N3 Nq67
                refine Go.step (T' := T67) (f' := (mkF m 221 #[.val (.int p1), .val (.int p2), .val (.int p3), .val (.int p4), .val (.int p5), .val (.int (p5 &&& (7 : Int32))), .val (.ref b1), .val (.ref b1), .val (.int (1 : Int32))] [(.int (own_eq p1 p2 p1 p2))])) (fun _ k => st67.trans k) ?_
                refine Go.step (T' := T67) (f' := (mkF m 223 #[.val (.int p1), .val (.int p2), .val (.int p3), .val (.int p4), .val (.int p5), .val (.int (p5 &&& (7 : Int32))), .val (.ref b1), .val (.ref b1), .val (.int (1 : Int32))] [(.int (1 : Int32)), (.int (own_eq p1 p2 p1 p2))])) (fun _ k => XS.iload X67.here hx rfl (hb hby at_221) rfl k) ?_
                refine Go.step (T' := T67) (f' := (mkF m 226 #[.val (.int p1), .val (.int p2), .val (.int p3), .val (.int p4), .val (.int p5), .val (.int (p5 &&& (7 : Int32))), .val (.ref b1), .val (.ref b1), .val (.int (1 : Int32))] [])) (fun _ k => XS.icmpNo X67.here hx rfl (hb hby at_223) rfl (teq (own_eq1 (by simp only [Int32.lt_iff_toInt_lt, ← Int32.toInt_inj, Int32.reduceToInt] at hc20 hc57 hc80 hc112 hc144 hc162 hc178 <;> omega))).2 k) ?_
                refine Go.step (T' := T67) (f' := (mkF m 227 #[.val (.int p1), .val (.int p2), .val (.int p3), .val (.int p4), .val (.int p5), .val (.int (p5 &&& (7 : Int32))), .val (.ref b1), .val (.ref b1), .val (.int (1 : Int32))] [(.int (1 : Int32))])) (fun _ k => XS.iconst X67.here hx rfl (hb hby at_226) k) ?_
                refine Go.step (T' := T67) (f' := (mkF m 231 #[.val (.int p1), .val (.int p2), .val (.int p3), .val (.int p4), .val (.int p5), .val (.int (p5 &&& (7 : Int32))), .val (.ref b1), .val (.ref b1), .val (.int (1 : Int32))] [(.int (1 : Int32))])) (fun _ k => XS.goto X67.here hx rfl (pc0 := 227) (pc' := 231) rfl (hb hby at_227) (by decide) (by decide) k) ?_
                refine goN X67 hx (t := .boolean) Bd.returns (by simp) Bd.notSynchronized (hb hby at_231) ?_ (by decide) (by decide)
                show Q_rm0 Z p1 p2 p3 p4 p5 s_cache clc h0 n0 _ T67.heap _
                rw [eh67]
                exact ⟨rfl, N67⟩
              · refine Go.step (T' := T3) (f' := (mkF m 191 #[.val (.int p1), .val (.int p2), .val (.int p3), .val (.int p4), .val (.int p5), .val (.int (p5 &&& (7 : Int32))), .val (.ref b1), .unset, .unset] [])) (fun _ k => XS.icmpYes X3.here hx rfl (pc0 := 178) (pc' := 191) rfl (hb hby at_178) rfl (feq hc178).2 (by decide) (by decide) k) ?_
                obtain ⟨T69, h69, X69, e69, E69, A69, D69, -, st69⟩ := newO X3 hx hZ hown (hw _ (List.mem_of_getElem? (i := 0) rfl)) (hw _ (List.mem_of_getElem? (i := 1) rfl)) (hw _ (List.mem_of_getElem? (i := 2) rfl)) rfl (g := (mkF m 191 #[.val (.int p1), .val (.int p2), .val (.int p3), .val (.int p4), .val (.int p5), .val (.int (p5 &&& (7 : Int32))), .val (.ref b1), .unset, .unset] [])) rfl (hb hby at_191) (by decide) (by decide)
                obtain ⟨b69, g69⟩ : ∃ z, z = T3.heap.size := ⟨_, rfl⟩
                rw [← g69] at A69 D69 st69
                have g_b69 : n0 ≤ b69 := Nat.le_trans Z4 (Nat.le_of_eq g69.symm)
                have Z70 : n0 ≤ h69.size := Nat.le_trans Z4 E69.1
                have O70 : Old Z n0 h69 := O4.ext E69
                have F_lo_b69 : Fld Z h69 b69 "com/example/branchwise/branchwise/Interval" "lo" "I" (.int (0 : Int32)) := D69 (Or.inr (hw _ (List.mem_of_getElem? (i := 15) rfl))) (ty := .int) (by decide)
                have F_hi_b69 : Fld Z h69 b69 "com/example/branchwise/branchwise/Interval" "hi" "I" (.int (0 : Int32)) := D69 (Or.inr (hw _ (List.mem_of_getElem? (i := 17) rfl))) (ty := .int) (by decide)
                refine Go.step (T' := T69) (f' := (mkF m 194 #[.val (.int p1), .val (.int p2), .val (.int p3), .val (.int p4), .val (.int p5), .val (.int (p5 &&& (7 : Int32))), .val (.ref b1), .unset, .unset] [(.ref b69)])) st69 ?_
                refine Go.step (T' := T69) (f' := (mkF m 195 #[.val (.int p1), .val (.int p2), .val (.int p3), .val (.int p4), .val (.int p5), .val (.int (p5 &&& (7 : Int32))), .val (.ref b1), .unset, .unset] [(.ref b69), (.ref b69)])) (fun _ k => XS.dup X69.here hx rfl (hb hby at_194) rfl rfl k) ?_
                refine Go.step (T' := T69) (f' := (mkF m 196 #[.val (.int p1), .val (.int p2), .val (.int p3), .val (.int p4), .val (.int p5), .val (.int (p5 &&& (7 : Int32))), .val (.ref b1), .unset, .unset] [(.int p2), (.ref b69), (.ref b69)])) (fun _ k => XS.iloadN X69.here hx rfl (hb hby at_195) rfl k) ?_
                refine Go.step (T' := T69) (f' := (mkF m 197 #[.val (.int p1), .val (.int p2), .val (.int p3), .val (.int p4), .val (.int p5), .val (.int (p5 &&& (7 : Int32))), .val (.ref b1), .unset, .unset] [(.int p1), (.int p2), (.ref b69), (.ref b69)])) (fun _ k => XS.iloadN X69.here hx rfl (hb hby at_196) rfl k) ?_
                obtain ⟨_, _, ⟨T71, L71, k71, n71⟩, -, X71, ⟨Lc71, hQ71, l71, y71, z71⟩, st71⟩ := X69.specialBack hx (y := (⟨"com/example/branchwise/branchwise/Interval", "<init>", "(II)V"⟩ : MethodName)) rfl hown (mvT hZ (hw _ (List.mem_of_getElem? (i := 3) rfl))) (mvT hZ (hw _ (List.mem_of_getElem? (i := 4) rfl))) (mvT hZ (hw _ (List.mem_of_getElem? (i := 5) rfl))) (by decide) (backOf (W := 1) (rm1 l Z a0 hw [] b69 p2 p1 h69 n0 Z70 A69 F_lo_b69 F_hi_b69 g_b69) hZ (hw _ (List.mem_of_getElem? (i := 5) rfl)) (hw _ (List.mem_of_getElem? (i := 2) rfl)) (by decide) (by decide)) (g := (mkF m 197 #[.val (.int p1), .val (.int p2), .val (.int p3), .val (.int p4), .val (.int p5), .val (.int (p5 &&& (7 : Int32))), .val (.ref b1), .unset, .unset] [(.int p1), (.int p2), (.ref b69), (.ref b69)])) rfl (by rw [hml]; rfl) (Steps.refl _) (a := b69) (argsL := [(.int p2), (.int p1)]) (rest := [(.ref b69)]) (lenOf pd_2 rfl) rfl (by show 2 * 0 + _ ≤ _; exact Nat.le_of_eq rfl) (hb hby at_197) (fun _ _ => ⟨rfl, e69, (by decide : 2 + 0 ≤ _), (by decide : 4 + 0 ≤ _)⟩)
                dsimp only [Pt.U, Pt.locs, Pt.cells, Pt.slots] at X71 l71 y71 z71 st71 hQ71
                subst l71 y71 z71
                obtain ⟨rfl, Nq71, Kq71, r71_0, r71_1⟩ := hQ71
                have N71 := Fr.app N3 Nq71
                have Z72 : n0 ≤ T71.heap.size := Nat.le_trans Z70 Kq71.1
                have O72 : Old Z n0 T71.heap := O70.keep Kq71 (allS g_b69 all0)
                refine Go.step (T' := T71) (f' := (mkF m 200 #[.val (.int p1), .val (.int p2), .val (.int p3), .val (.int p4), .val (.int p5), .val (.int (p5 &&& (7 : Int32))), .val (.ref b1), .unset, .unset] [(.ref b69)])) (fun _ k => st71.trans k) ?_
                refine Go.step (T' := T71) (f' := (mkF m 202 #[.val (.int p1), .val (.int p2), .val (.int p3), .val (.int p4), .val (.int p5), .val (.int (p5 &&& (7 : Int32))), .val (.ref b1), .val (.ref b69), .unset] [])) (fun _ k => XS.astore X71.here hx rfl (hb hby at_200) rfl rfl (l' := #[.val (.int p1), .val (.int p2), .val (.int p3), .val (.int p4), .val (.int p5), .val (.int (p5 &&& (7 : Int32))), .val (.ref b1), .val (.ref b69), .unset]) rfl k) ?_
                refine Go.step (T' := T71) (f' := (mkF m 203 #[.val (.int p1), .val (.int p2), .val (.int p3), .val (.int p4), .val (.int p5), .val (.int (p5 &&& (7 : Int32))), .val (.ref b1), .val (.ref b69), .unset] [(.int p1)])) (fun _ k => XS.iloadN X71.here hx rfl (hb hby at_202) rfl k) ?_
                refine Go.step (T' := T71) (f' := (mkF m 204 #[.val (.int p1), .val (.int p2), .val (.int p3), .val (.int p4), .val (.int p5), .val (.int (p5 &&& (7 : Int32))), .val (.ref b1), .val (.ref b69), .unset] [(.int p2), (.int p1)])) (fun _ k => XS.iloadN X71.here hx rfl (hb hby at_203) rfl k) ?_
                by_cases hc204 : p1 = p2
                · refine Go.step (T' := T71) (f' := (mkF m 207 #[.val (.int p1), .val (.int p2), .val (.int p3), .val (.int p4), .val (.int p5), .val (.int (p5 &&& (7 : Int32))), .val (.ref b1), .val (.ref b69), .unset] [])) (fun _ k => XS.icmpNo X71.here hx rfl (hb hby at_204) rfl (teq hc204).2 k) ?_
                  refine Go.step (T' := T71) (f' := (mkF m 208 #[.val (.int p1), .val (.int p2), .val (.int p3), .val (.int p4), .val (.int p5), .val (.int (p5 &&& (7 : Int32))), .val (.ref b1), .val (.ref b69), .unset] [(.int (1 : Int32))])) (fun _ k => XS.iconst X71.here hx rfl (hb hby at_207) k) ?_
                  refine Go.step (T' := T71) (f' := (mkF m 212 #[.val (.int p1), .val (.int p2), .val (.int p3), .val (.int p4), .val (.int p5), .val (.int (p5 &&& (7 : Int32))), .val (.ref b1), .val (.ref b69), .unset] [(.int (1 : Int32))])) (fun _ k => XS.goto X71.here hx rfl (pc0 := 208) (pc' := 212) rfl (hb hby at_208) (by decide) (by decide) k) ?_
                  refine Go.step (T' := T71) (f' := (mkF m 214 #[.val (.int p1), .val (.int p2), .val (.int p3), .val (.int p4), .val (.int p5), .val (.int (p5 &&& (7 : Int32))), .val (.ref b1), .val (.ref b69), .val (.int (1 : Int32))] [])) (fun _ k => XS.istore X71.here hx rfl (hb hby at_212) rfl (l' := #[.val (.int p1), .val (.int p2), .val (.int p3), .val (.int p4), .val (.int p5), .val (.int (p5 &&& (7 : Int32))), .val (.ref b1), .val (.ref b69), .val (.int (1 : Int32))]) rfl k) ?_
                  refine Go.step (T' := T71) (f' := (mkF m 216 #[.val (.int p1), .val (.int p2), .val (.int p3), .val (.int p4), .val (.int p5), .val (.int (p5 &&& (7 : Int32))), .val (.ref b1), .val (.ref b69), .val (.int (1 : Int32))] [(.ref b1)])) (fun _ k => XS.aload X71.here hx rfl (hb hby at_214) rfl rfl k) ?_
                  refine Go.step (T' := T71) (f' := (mkF m 218 #[.val (.int p1), .val (.int p2), .val (.int p3), .val (.int p4), .val (.int p5), .val (.int (p5 &&& (7 : Int32))), .val (.ref b1), .val (.ref b69), .val (.int (1 : Int32))] [(.ref b69), (.ref b1)])) (fun _ k => XS.aload X71.here hx rfl (hb hby at_216) rfl rfl k) ?_
                  have q74 : Exa Z T71.heap b69 "com/example/branchwise/branchwise/Interval" := (A69.keep Kq71)
                  have q75 : Fld Z T71.heap b1 "com/example/branchwise/branchwise/Interval" "lo" "I" (.int p1) := ((r3_0.ext E69).keep Kq71 (ninS (Nat.ne_of_lt (Nat.lt_of_lt_of_le (A1.keep Kq3).lt (Nat.le_of_eq g69.symm))) nin0))
                  have q76 : Fld Z T71.heap b1 "com/example/branchwise/branchwise/Interval" "hi" "I" (.int p2) := ((r3_1.ext E69).keep Kq71 (ninS (Nat.ne_of_lt (Nat.lt_of_lt_of_le (A1.keep Kq3).lt (Nat.le_of_eq g69.symm))) nin0))
                  have q77 : Exa Z T71.heap b1 "com/example/branchwise/branchwise/Interval" := (((A1.keep Kq3).ext E69).keep Kq71)
                  obtain ⟨cq73, kq73, q73a, q73b, q73c⟩ := isOf hZ rfl q77
                  obtain ⟨_, _, ⟨T73, L73, k73, n73⟩, -, X73, ⟨Lc73, hQ73, l73, y73, z73⟩, st73⟩ := X71.virtualBack hx (y := (⟨"com/example/branchwise/branchwise/Interval", "equals", "(Ljava/lang/Object;)Z"⟩ : MethodName)) (z := (⟨"com/example/branchwise/branchwise/Interval", "equals", "(Ljava/lang/Object;)Z"⟩ : MethodName)) hown (mvT hZ (hw _ (List.mem_of_getElem? (i := 18) rfl))) (mvT hZ (hw _ (List.mem_of_getElem? (i := 19) rfl))) (notFace_of_selects (args := #[]) (mvT hZ (hw _ (List.mem_of_getElem? (i := 21) rfl)))) (mvT hZ (hw _ (List.mem_of_getElem? (i := 21) rfl))) (mvT hZ (hw _ (List.mem_of_getElem? (i := 20) rfl))) (by decide) (backOf (W := 0) (rmEqI l Z a0 hw [] b1 b69 p1 p2 p2 p1 T71.heap n0 Z72 q74 q75 q76 r71_0 r71_1) hZ (hw _ (List.mem_of_getElem? (i := 22) rfl)) (hw _ (List.mem_of_getElem? (i := 2) rfl)) (by decide) (by decide)) q73a q73c (g := (mkF m 218 #[.val (.int p1), .val (.int p2), .val (.int p3), .val (.int p4), .val (.int p5), .val (.int (p5 &&& (7 : Int32))), .val (.ref b1), .val (.ref b69), .val (.int (1 : Int32))] [(.ref b69), (.ref b1)])) rfl (by rw [hml]; rfl) (Steps.refl _) (argsL := [(.ref b69)]) (rest := []) (lenOf pd_3 rfl) rfl (by show 2 * 0 + _ ≤ _; exact Nat.le_of_eq rfl) (hb hby at_218) (fun _ _ => ⟨rfl, rfl, (by decide : 2 + 0 ≤ _), (by decide : 4 + 0 ≤ _)⟩)
                  dsimp only [Pt.U, Pt.locs, Pt.cells, Pt.slots] at X73 l73 y73 z73 st73 hQ73
                  subst l73 y73 z73
                  obtain ⟨rfl, Nq73, eh73⟩ := hQ73
                  have N73 := Fr.app N71 Nq73
                  refine Go.step (T' := T73) (f' := (mkF m 221 #[.val (.int p1), .val (.int p2), .val (.int p3), .val (.int p4), .val (.int p5), .val (.int (p5 &&& (7 : Int32))), .val (.ref b1), .val (.ref b69), .val (.int (1 : Int32))] [(.int (own_eq p1 p2 p2 p1))])) (fun _ k => st73.trans k) ?_
                  refine Go.step (T' := T73) (f' := (mkF m 223 #[.val (.int p1), .val (.int p2), .val (.int p3), .val (.int p4), .val (.int p5), .val (.int (p5 &&& (7 : Int32))), .val (.ref b1), .val (.ref b69), .val (.int (1 : Int32))] [(.int (1 : Int32)), (.int (own_eq p1 p2 p2 p1))])) (fun _ k => XS.iload X73.here hx rfl (hb hby at_221) rfl k) ?_
                  refine Go.step (T' := T73) (f' := (mkF m 226 #[.val (.int p1), .val (.int p2), .val (.int p3), .val (.int p4), .val (.int p5), .val (.int (p5 &&& (7 : Int32))), .val (.ref b1), .val (.ref b69), .val (.int (1 : Int32))] [])) (fun _ k => XS.icmpNo X73.here hx rfl (hb hby at_223) rfl (teq (own_eq1 (by simp only [Int32.lt_iff_toInt_lt, ← Int32.toInt_inj, Int32.reduceToInt] at hc20 hc57 hc80 hc112 hc144 hc162 hc178 hc204 <;> omega))).2 k) ?_
                  refine Go.step (T' := T73) (f' := (mkF m 227 #[.val (.int p1), .val (.int p2), .val (.int p3), .val (.int p4), .val (.int p5), .val (.int (p5 &&& (7 : Int32))), .val (.ref b1), .val (.ref b69), .val (.int (1 : Int32))] [(.int (1 : Int32))])) (fun _ k => XS.iconst X73.here hx rfl (hb hby at_226) k) ?_
                  refine Go.step (T' := T73) (f' := (mkF m 231 #[.val (.int p1), .val (.int p2), .val (.int p3), .val (.int p4), .val (.int p5), .val (.int (p5 &&& (7 : Int32))), .val (.ref b1), .val (.ref b69), .val (.int (1 : Int32))] [(.int (1 : Int32))])) (fun _ k => XS.goto X73.here hx rfl (pc0 := 227) (pc' := 231) rfl (hb hby at_227) (by decide) (by decide) k) ?_
                  refine goN X73 hx (t := .boolean) Bd.returns (by simp) Bd.notSynchronized (hb hby at_231) ?_ (by decide) (by decide)
                  show Q_rm0 Z p1 p2 p3 p4 p5 s_cache clc h0 n0 _ T73.heap _
                  rw [eh73]
                  exact ⟨rfl, N73⟩
                · refine Go.step (T' := T71) (f' := (mkF m 211 #[.val (.int p1), .val (.int p2), .val (.int p3), .val (.int p4), .val (.int p5), .val (.int (p5 &&& (7 : Int32))), .val (.ref b1), .val (.ref b69), .unset] [])) (fun _ k => XS.icmpYes X71.here hx rfl (pc0 := 204) (pc' := 211) rfl (hb hby at_204) rfl (feq hc204).2 (by decide) (by decide) k) ?_
                  refine Go.step (T' := T71) (f' := (mkF m 212 #[.val (.int p1), .val (.int p2), .val (.int p3), .val (.int p4), .val (.int p5), .val (.int (p5 &&& (7 : Int32))), .val (.ref b1), .val (.ref b69), .unset] [(.int (0 : Int32))])) (fun _ k => XS.iconst X71.here hx rfl (hb hby at_211) k) ?_
                  refine Go.step (T' := T71) (f' := (mkF m 214 #[.val (.int p1), .val (.int p2), .val (.int p3), .val (.int p4), .val (.int p5), .val (.int (p5 &&& (7 : Int32))), .val (.ref b1), .val (.ref b69), .val (.int (0 : Int32))] [])) (fun _ k => XS.istore X71.here hx rfl (hb hby at_212) rfl (l' := #[.val (.int p1), .val (.int p2), .val (.int p3), .val (.int p4), .val (.int p5), .val (.int (p5 &&& (7 : Int32))), .val (.ref b1), .val (.ref b69), .val (.int (0 : Int32))]) rfl k) ?_
                  refine Go.step (T' := T71) (f' := (mkF m 216 #[.val (.int p1), .val (.int p2), .val (.int p3), .val (.int p4), .val (.int p5), .val (.int (p5 &&& (7 : Int32))), .val (.ref b1), .val (.ref b69), .val (.int (0 : Int32))] [(.ref b1)])) (fun _ k => XS.aload X71.here hx rfl (hb hby at_214) rfl rfl k) ?_
                  refine Go.step (T' := T71) (f' := (mkF m 218 #[.val (.int p1), .val (.int p2), .val (.int p3), .val (.int p4), .val (.int p5), .val (.int (p5 &&& (7 : Int32))), .val (.ref b1), .val (.ref b69), .val (.int (0 : Int32))] [(.ref b69), (.ref b1)])) (fun _ k => XS.aload X71.here hx rfl (hb hby at_216) rfl rfl k) ?_
                  have q79 : Exa Z T71.heap b69 "com/example/branchwise/branchwise/Interval" := (A69.keep Kq71)
                  have q80 : Fld Z T71.heap b1 "com/example/branchwise/branchwise/Interval" "lo" "I" (.int p1) := ((r3_0.ext E69).keep Kq71 (ninS (Nat.ne_of_lt (Nat.lt_of_lt_of_le (A1.keep Kq3).lt (Nat.le_of_eq g69.symm))) nin0))
                  have q81 : Fld Z T71.heap b1 "com/example/branchwise/branchwise/Interval" "hi" "I" (.int p2) := ((r3_1.ext E69).keep Kq71 (ninS (Nat.ne_of_lt (Nat.lt_of_lt_of_le (A1.keep Kq3).lt (Nat.le_of_eq g69.symm))) nin0))
                  have q82 : Exa Z T71.heap b1 "com/example/branchwise/branchwise/Interval" := (((A1.keep Kq3).ext E69).keep Kq71)
                  obtain ⟨cq78, kq78, q78a, q78b, q78c⟩ := isOf hZ rfl q82
                  obtain ⟨_, _, ⟨T78, L78, k78, n78⟩, -, X78, ⟨Lc78, hQ78, l78, y78, z78⟩, st78⟩ := X71.virtualBack hx (y := (⟨"com/example/branchwise/branchwise/Interval", "equals", "(Ljava/lang/Object;)Z"⟩ : MethodName)) (z := (⟨"com/example/branchwise/branchwise/Interval", "equals", "(Ljava/lang/Object;)Z"⟩ : MethodName)) hown (mvT hZ (hw _ (List.mem_of_getElem? (i := 18) rfl))) (mvT hZ (hw _ (List.mem_of_getElem? (i := 19) rfl))) (notFace_of_selects (args := #[]) (mvT hZ (hw _ (List.mem_of_getElem? (i := 21) rfl)))) (mvT hZ (hw _ (List.mem_of_getElem? (i := 21) rfl))) (mvT hZ (hw _ (List.mem_of_getElem? (i := 20) rfl))) (by decide) (backOf (W := 0) (rmEqI l Z a0 hw [] b1 b69 p1 p2 p2 p1 T71.heap n0 Z72 q79 q80 q81 r71_0 r71_1) hZ (hw _ (List.mem_of_getElem? (i := 22) rfl)) (hw _ (List.mem_of_getElem? (i := 2) rfl)) (by decide) (by decide)) q78a q78c (g := (mkF m 218 #[.val (.int p1), .val (.int p2), .val (.int p3), .val (.int p4), .val (.int p5), .val (.int (p5 &&& (7 : Int32))), .val (.ref b1), .val (.ref b69), .val (.int (0 : Int32))] [(.ref b69), (.ref b1)])) rfl (by rw [hml]; rfl) (Steps.refl _) (argsL := [(.ref b69)]) (rest := []) (lenOf pd_3 rfl) rfl (by show 2 * 0 + _ ≤ _; exact Nat.le_of_eq rfl) (hb hby at_218) (fun _ _ => ⟨rfl, rfl, (by decide : 2 + 0 ≤ _), (by decide : 4 + 0 ≤ _)⟩)
                  dsimp only [Pt.U, Pt.locs, Pt.cells, Pt.slots] at X78 l78 y78 z78 st78 hQ78
                  subst l78 y78 z78
                  obtain ⟨rfl, Nq78, eh78⟩ := hQ78
                  have N78 := Fr.app N71 Nq78
                  refine Go.step (T' := T78) (f' := (mkF m 221 #[.val (.int p1), .val (.int p2), .val (.int p3), .val (.int p4), .val (.int p5), .val (.int (p5 &&& (7 : Int32))), .val (.ref b1), .val (.ref b69), .val (.int (0 : Int32))] [(.int (own_eq p1 p2 p2 p1))])) (fun _ k => st78.trans k) ?_
                  refine Go.step (T' := T78) (f' := (mkF m 223 #[.val (.int p1), .val (.int p2), .val (.int p3), .val (.int p4), .val (.int p5), .val (.int (p5 &&& (7 : Int32))), .val (.ref b1), .val (.ref b69), .val (.int (0 : Int32))] [(.int (0 : Int32)), (.int (own_eq p1 p2 p2 p1))])) (fun _ k => XS.iload X78.here hx rfl (hb hby at_221) rfl k) ?_
                  refine Go.step (T' := T78) (f' := (mkF m 226 #[.val (.int p1), .val (.int p2), .val (.int p3), .val (.int p4), .val (.int p5), .val (.int (p5 &&& (7 : Int32))), .val (.ref b1), .val (.ref b69), .val (.int (0 : Int32))] [])) (fun _ k => XS.icmpNo X78.here hx rfl (hb hby at_223) rfl (teq (own_eq0 (by simp only [Int32.lt_iff_toInt_lt, ← Int32.toInt_inj, Int32.reduceToInt] at hc20 hc57 hc80 hc112 hc144 hc162 hc178 hc204 <;> omega))).2 k) ?_
                  refine Go.step (T' := T78) (f' := (mkF m 227 #[.val (.int p1), .val (.int p2), .val (.int p3), .val (.int p4), .val (.int p5), .val (.int (p5 &&& (7 : Int32))), .val (.ref b1), .val (.ref b69), .val (.int (0 : Int32))] [(.int (1 : Int32))])) (fun _ k => XS.iconst X78.here hx rfl (hb hby at_226) k) ?_
                  refine Go.step (T' := T78) (f' := (mkF m 231 #[.val (.int p1), .val (.int p2), .val (.int p3), .val (.int p4), .val (.int p5), .val (.int (p5 &&& (7 : Int32))), .val (.ref b1), .val (.ref b69), .val (.int (0 : Int32))] [(.int (1 : Int32))])) (fun _ k => XS.goto X78.here hx rfl (pc0 := 227) (pc' := 231) rfl (hb hby at_227) (by decide) (by decide) k) ?_
                  refine goN X78 hx (t := .boolean) Bd.returns (by simp) Bd.notSynchronized (hb hby at_231) ?_ (by decide) (by decide)
                  show Q_rm0 Z p1 p2 p3 p4 p5 s_cache clc h0 n0 _ T78.heap _
                  rw [eh78]
                  exact ⟨rfl, N78⟩
set_option maxRecDepth 65536 in
set_option maxHeartbeats 40000000 in
theorem comes_1 {Post : Tables → Env → Array Value → State → Outcome → State → Prop} (hpost : ∀ tb e args s v u, (limb_1_1.after args s (.returned v) u = true ∧ limb_1_2.after args s (.returned v) u = true ∧ True) → FrameEnd s (.returned v) u (Jvm.fieldLocs frame_1_writes args s ++ Jvm.arrayLocs frame_1_arrays args s ++ Jvm.staticLocs frame_1_statics s) 16 128 → Post tb e args s (.returned v) u) :
    ArmFor flags0 classFile x code maxLocals ret World_1 tables_1 room_1 Calls_1 rest_1 Pre_1 Post := by
  intro l hfl _ _ p e ha hc hk s m args below hf hA hF happ hP
  obtain ⟨hcalls, hrest, hpre⟩ := hP
  obtain ⟨-, -, -, hnamed, -, -, -, hat⟩ := (Spec.applies_iff hf).mp happ
  obtain ⟨hg, hn⟩ := and_e (Cond.before_iff.mp (show (Jvm.Cond.and given_1 narrow_1).before args s = true from hpre))
  obtain ⟨g1, g2⟩ := and_e hg
  obtain ⟨g3, g4⟩ := and_e g2
  obtain ⟨g5, g6⟩ := and_e g4
  obtain ⟨g7, g8⟩ := and_e g6
  obtain ⟨g9, g10⟩ := and_e g8
  obtain ⟨w0, w1, w2, w3, w4, rfl⟩ : ∃ w0 w1 w2 w3 w4 : Value, args = #[w0, w1, w2, w3, w4] := by
    have hs : args.size = 5 := by simpa [Cond.value, given_1] using g1
    obtain ⟨L⟩ := args
    match L, hs with
    | [w0, w1, w2, w3, w4], _ => exact ⟨w0, w1, w2, w3, w4, rfl⟩
  have hw := fun d (hd : d ∈ tables_1) => atoms_spec (ws := Jvm.Cond.code x code maxLocals ret :: tables_1) hat d (List.mem_cons_of_mem _ hd)
  have hfit : Fit s := fun {y c} hc i hi => by
    obtain ⟨ha, rfl⟩ := Array.getElem?_eq_some_iff.mp hc
    have q := List.all_eq_true.mp ((Array.all_eq_true_iff_forall_mem.mp hF) _ (Array.getElem_mem ha)) i (List.mem_range.mpr hi)
    simpa [Array.getElem?_eq_getElem hi] using q
  obtain ⟨hsets, hown0⟩ := atoms_of _ (rest_1_c_eq ▸ (show rest_1_c.before _ s = true from hrest))
  have hr0 := Cond.before_iff.mp hown0
  obtain ⟨i0, ei0⟩ := is_v g3
  obtain rfl : w0 = (.int i0) := Option.some.inj ei0
  obtain ⟨i1, ei1⟩ := is_v g5
  obtain rfl : w1 = (.int i1) := Option.some.inj ei1
  obtain ⟨i2, ei2⟩ := is_v g7
  obtain rfl : w2 = (.int i2) := Option.some.inj ei2
  obtain ⟨i3, ei3⟩ := is_v g9
  obtain rfl : w3 = (.int i3) := Option.some.inj ei3
  obtain ⟨i4, ei4⟩ := is_v g10
  obtain rfl : w4 = (.int i4) := Option.some.inj ei4
  have ev_high := own_eqk (Cond.before_iff.mp (hsets _ (List.mem_of_getElem? (i := 3) rfl)))
  have S_high := Sta.start ev_high (Or.inl (hsets _ (List.mem_of_getElem? (i := 1) rfl)))
  obtain ⟨s_cache, ev_cache⟩ := exa_v (Cond.before_iff.mp (hsets _ (List.mem_of_getElem? (i := 5) rfl)))
  have S_cache := Sta.start ev_cache (Or.inr ⟨(hw _ (List.mem_of_getElem? (i := 48) rfl)), (hsets _ (List.mem_of_getElem? (i := 2) rfl))⟩)
  obtain ⟨clc, Arc⟩ := Arr.start ev_cache (Cond.before_iff.mp (hsets _ (List.mem_of_getElem? (i := 4) rfl)))
  have hat0 := Arc.fin (U := s) (Vm.Alike.refl _)
  have hsz : clc.slots.size = 256 := by
    have hl := own_eqk (Cond.before_iff.mp (hsets _ (List.mem_of_getElem? (i := 6) rfl)))
    obtain ⟨a', c', q1, q2, q3⟩ := Term.length_spec hl
    cases ev_cache.symm.trans q1
    cases hat0.symm.trans q2
    have hA := Cond.before_iff.mp (hsets _ (List.mem_of_getElem? (i := 6) rfl))
    have hsm : clc.slots.size < 2 ^ 31 := by
      refine Classical.byContradiction fun hno => ?_
      rw [show (Term.length (Term.static "java/lang/Integer$IntegerCache" "cache" "[Ljava/lang/Integer;")).eval _ s none [] s = none from by simp only [Term.eval, Option.bind_eq_bind] at ev_cache ⊢; rw [ev_cache]; simp [hat0, hno]] at hl
      cases hl
    have q4 := congrArg Int32.toInt (Value.int.inj q3)
    rw [len_toInt hsm] at q4
    have q5 : (256 : Int32).toInt = 256 := rfl
    omega
  have hC : ∀ j : Int32, ¬ (j < 0 ∨ clc.slots.size ≤ j.toNatClampNeg) → ∃ r, clc.slots[j.toNatClampNeg]? = some (.ref r) ∧ Exa s s.heap r "java/lang/Integer" := by
    intro j hj
    have hall := Cond.all_elim ev_cache hat0 (Cond.before_iff.mp (hsets _ (List.mem_of_getElem? (i := 7) rfl))) j.toNatClampNeg (Nat.lt_of_not_le fun y => hj (Or.inr y))
    obtain ⟨c1, c2⟩ := and_e hall
    obtain ⟨r, er⟩ := exa_v c1
    have he := elem_in er (x := s_cache) (j := j) ev_cache (idx_at (fun q => hj (Or.inl q))) Arc.1
    exact ⟨r, he.2, exa_at er c1⟩
  obtain ⟨n, o, h1, h2, h3, _, L, rfl, ⟨rfl, N⟩, hq⟩ := rm0 l s _ hw tables_1 i0 i1 i2 i3 i4 s_cache clc s.heap s.heap.size (Nat.le_refl _) (Old.start s) S_high S_cache Arc hsz hC p e ha hc hk s m _ below hf ((Spec.applies_iff_loose hf).mp happ).1 ⟨rfl, State.Warmed39.refl s, rfl⟩ trivial
  refine ⟨n, _, h1, h2, h3, hpost _ _ _ _ _ _ ⟨Cond.after_iff.mpr rfl, Cond.after_iff.mpr (eq_i res_at (Term.int_eval (1)) rfl), trivial⟩ ⟨hq.1, hq.2.1, (hq.2.2.sift fun y hy => Or.inr (N y hy)).mono (by decide) (by decide)⟩⟩
theorem main_1_1 : Claimed_1_1 := comes_1 fun _ _ _ _ _ _ h hF => ⟨h.1, hF⟩
theorem main_1_2 : Claimed_1_2 := comes_1 fun _ _ _ _ _ _ h hF => ⟨h.2.1, hF⟩
end Jvm.Pilot.@@N@@
namespace Jvm.Pilot.@@N@@
open Jvm Jvm.ClassFile Sem Op Lib Jvm.Free Jvm.Stand Jvm.Pilot.@@N@@.Jvm.D
/-! MADE BY PROGRAM (witnessworld.py) out of the Statement's table words and the real class files: 17 classes; the members and pool entries that the words name. The judged class is class 1, her method 1. -/
namespace start1
open Jvm.ClassFile
def u (s : String) : CpInfo := .utf8 (stringToUtf16 s)
/-- a pool by its gaps: so many unusable entries, then the entry; so many at the end -/
def gap : Nat → List CpInfo → List CpInfo
  | 0, r => r
  | n + 1, r => .unusable :: gap n r
def poolList (es : List (Nat × CpInfo)) (last : Nat) : List CpInfo := es.foldr (fun e r => gap e.1 (e.2 :: r)) (gap last [])
def pool (es : List (Nat × CpInfo)) (last : Nat) : Array CpInfo := ⟨poolList es last⟩
def fileOf (pool : Array CpInfo) (this : Nat) (attrs : Array Attribute := #[]) (ms : Array MethodInfo := #[]) (fl : Nat := 33) (sup : Nat := 0) (ifs : Array Nat := #[]) (fds : Array FieldInfo := #[]) : ClassFile where
  minorVersion := 0
  majorVersion := 65
  constantPool := pool
  accessFlags := fl
  thisClass := this
  superClass := sup
  interfaces := ifs
  fields := fds
  methods := ms
  attributes := attrs
def plain (name : String) (sup : Option ClassId) : Class where
  name := name
  kind := .ordinary
  loader := none
  accessFlags := 33
  super := sup
  interfaces := #[]
  cf := none
  fields := #[]
  methods := #[]
  instanceTypes := #[]
  staticTypes := #[]
  resolved := #[]
  callSites := []
  init := .initialized
  statics := none
  mirror := none

def pool0 : Array CpInfo := pool [(5, u "<init>"), (0, u "()V"), (1, .class_ 10), (1, u "java/lang/Object")] 113

def k0c0 : Code := { maxStack := 0, maxLocals := 1, code := object_method_1_code, exceptionTable := #[], attributes := #[] }
def k0m0 : Method := { name := "<init>", desc := "()V", sig := { parameters := [], returnType := none }, accessFlags := 1, code := some k0c0 }
/-- java/lang/Object -/
def k0 : Class := { plain "java/lang/Object" none with
  accessFlags := 33
  interfaces := #[]
  cf := some (fileOf pool0 8 #[] #[{ accessFlags := 1, nameIndex := 5, descriptorIndex := 6, attributes := #[] }] 33 0 #[] #[])
  fields := #[]
  methods := #[k0m0]
  instanceTypes := #[]
  staticTypes := #[]
  resolved := Array.replicate 124 none
  statics := none }

def pool1 : Array CpInfo := pool [(2, .class_ 4), (1, u "java/lang/Object"), (0, u "<init>"), (0, u "()V"), (0, .class_ 8), (0, u "com/example/branchwise/branchwise/Interval"), (0, .methodref 7 10), (0, .nameAndType 5 11), (0, u "(II)V"), (0, .methodref 13 14), (0, .class_ 15), (0, .nameAndType 16 17), (0, u "java/lang/Integer"), (0, u "valueOf"), (0, u "(I)Ljava/lang/Integer;"), (0, .methodref 7 19), (0, .nameAndType 20 21), (0, u "equals"), (0, u "(Ljava/lang/Object;)Z"), (0, .class_ 23), (0, u "com/example/branchwise/branchwise/IntervalEqualsPinLaw"), (2, u "law"), (0, u "(IIIII)Z")] 3

def k1m0 : Method := { name := "<init>", desc := "()V", sig := { parameters := [], returnType := none }, accessFlags := 1, code := none }
def k1c1 : Code := { maxStack := 4, maxLocals := 9, code := code, exceptionTable := #[], attributes := #[] }
def k1m1 : Method := { name := "law", desc := "(IIIII)Z", sig := { parameters := [.int, .int, .int, .int, .int], returnType := some .boolean }, accessFlags := 9, code := some k1c1 }
/-- com/example/branchwise/branchwise/IntervalEqualsPinLaw -/
def k1 : Class := { plain "com/example/branchwise/branchwise/IntervalEqualsPinLaw" (some 0) with
  accessFlags := 49
  interfaces := #[]
  cf := some (fileOf pool1 22 #[] #[{ accessFlags := 1, nameIndex := 5, descriptorIndex := 6, attributes := #[] }, { accessFlags := 9, nameIndex := 26, descriptorIndex := 27, attributes := #[] }] 49 2 #[] #[])
  fields := #[]
  methods := #[k1m0, k1m1]
  instanceTypes := #[]
  staticTypes := #[]
  resolved := Array.replicate 31 none
  statics := none }

def pool2 : Array CpInfo := pool [(1, .methodref 2 3), (0, .class_ 4), (0, .nameAndType 5 6), (0, u "java/lang/Object"), (0, u "<init>"), (0, u "()V"), (0, .class_ 8), (0, u "java/lang/Record")] 13

def k2c0 : Code := { maxStack := 1, maxLocals := 1, code := jdk_30_method_1_code, exceptionTable := #[], attributes := #[] }
def k2m0 : Method := { name := "<init>", desc := "()V", sig := { parameters := [], returnType := none }, accessFlags := 4, code := some k2c0 }
/-- java/lang/Record -/
def k2 : Class := { plain "java/lang/Record" (some 0) with
  accessFlags := 1057
  interfaces := #[]
  cf := some (fileOf pool2 7 #[] #[{ accessFlags := 4, nameIndex := 5, descriptorIndex := 6, attributes := #[] }] 1057 2 #[] #[])
  fields := #[]
  methods := #[k2m0]
  instanceTypes := #[]
  staticTypes := #[]
  resolved := Array.replicate 22 none
  statics := none }

def pool3 : Array CpInfo := pool [(1, .methodref 2 3), (0, .class_ 4), (0, .nameAndType 5 6), (0, u "java/lang/Record"), (0, u "<init>"), (0, u "()V"), (0, .fieldref 8 9), (0, .class_ 10), (0, .nameAndType 11 12), (0, u "com/example/branchwise/branchwise/Interval"), (0, u "lo"), (0, u "I"), (0, .fieldref 8 14), (0, .nameAndType 15 12), (0, u "hi"), (2, u "(II)V"), (24, u "FULL"), (0, u "Lcom/example/branchwise/branchwise/Interval;"), (14, .class_ 61), (1, u "com/example/branchwise/branchwise/Interval$1"), (34, u "NATURAL"), (0, u "WRAP"), (0, u "J"), (16, u "equals"), (0, u "(Ljava/lang/Object;)Z")] 27

def k3c0 : Code := { maxStack := 2, maxLocals := 3, code := prog_27_method_1_code, exceptionTable := #[], attributes := #[] }
def k3m0 : Method := { name := "<init>", desc := "(II)V", sig := { parameters := [.int, .int], returnType := none }, accessFlags := 0, code := some k3c0 }
def k3c1 : Code := { maxStack := 2, maxLocals := 3, code := prog_27_method_12_code, exceptionTable := #[], attributes := #[] }
def k3m1 : Method := { name := "equals", desc := "(Ljava/lang/Object;)Z", sig := { parameters := [(.object "java/lang/Object")], returnType := some .boolean }, accessFlags := 1, code := some k3c1 }
/-- com/example/branchwise/branchwise/Interval -/
def k3 : Class := { plain "com/example/branchwise/branchwise/Interval" (some 2) with
  accessFlags := 48
  interfaces := #[]
  cf := some (fileOf pool3 8 #[.nestMembers #[59]] #[{ accessFlags := 0, nameIndex := 5, descriptorIndex := 18, attributes := #[] }, { accessFlags := 1, nameIndex := 115, descriptorIndex := 116, attributes := #[] }] 48 2 #[] #[{ accessFlags := 18, nameIndex := 11, descriptorIndex := 12, attributes := #[] }, { accessFlags := 18, nameIndex := 15, descriptorIndex := 12, attributes := #[] }, { accessFlags := 24, nameIndex := 43, descriptorIndex := 44, attributes := #[] }, { accessFlags := 24, nameIndex := 96, descriptorIndex := 44, attributes := #[] }, { accessFlags := 26, nameIndex := 97, descriptorIndex := 98, attributes := #[] }])
  fields := #[{ name := "lo", type := .int, accessFlags := 18, slot := 0, constantValue := 0 }, { name := "hi", type := .int, accessFlags := 18, slot := 1, constantValue := 0 }, { name := "FULL", type := (.object "com/example/branchwise/branchwise/Interval"), accessFlags := 24, slot := 0, constantValue := 0 }, { name := "NATURAL", type := (.object "com/example/branchwise/branchwise/Interval"), accessFlags := 24, slot := 1, constantValue := 0 }, { name := "WRAP", type := .long, accessFlags := 26, slot := 2, constantValue := 0 }]
  methods := #[k3m0, k3m1]
  instanceTypes := #[.int, .int]
  staticTypes := #[(.object "com/example/branchwise/branchwise/Interval"), (.object "com/example/branchwise/branchwise/Interval"), .long]
  resolved := Array.replicate 144 none
  statics := none }

def pool4 : Array CpInfo := pool [(1, .class_ 2), (0, u "java/io/Serializable"), (0, .class_ 4), (0, u "java/lang/Object")] 2

/-- java/io/Serializable -/
def k4 : Class := { plain "java/io/Serializable" (some 0) with
  accessFlags := 1537
  interfaces := #[]
  cf := some (fileOf pool4 1 #[] #[] 1537 3 #[] #[])
  fields := #[]
  methods := #[]
  instanceTypes := #[]
  staticTypes := #[]
  resolved := Array.replicate 7 none
  statics := none }

def pool5 : Array CpInfo := pool [(1, .methodref 2 3), (0, .class_ 4), (0, .nameAndType 5 6), (0, u "java/lang/Object"), (0, u "<init>"), (0, u "()V"), (1, .class_ 10), (1, u "java/lang/Number"), (2, .class_ 14), (0, u "java/io/Serializable"), (0, u "serialVersionUID"), (0, u "J")] 20

def k5c0 : Code := { maxStack := 1, maxLocals := 1, code := jdk_18_method_1_code, exceptionTable := #[], attributes := #[] }
def k5m0 : Method := { name := "<init>", desc := "()V", sig := { parameters := [], returnType := none }, accessFlags := 1, code := some k5c0 }
/-- java/lang/Number -/
def k5 : Class := { plain "java/lang/Number" (some 0) with
  accessFlags := 1057
  interfaces := #[4]
  cf := some (fileOf pool5 8 #[] #[{ accessFlags := 1, nameIndex := 5, descriptorIndex := 6, attributes := #[] }] 1057 2 #[13] #[{ accessFlags := 26, nameIndex := 15, descriptorIndex := 16, attributes := #[] }])
  fields := #[{ name := "serialVersionUID", type := .long, accessFlags := 26, slot := 0, constantValue := 0 }]
  methods := #[k5m0]
  instanceTypes := #[]
  staticTypes := #[.long]
  resolved := Array.replicate 37 none
  statics := none }

def pool6 : Array CpInfo := pool [(1, .class_ 2), (0, u "java/lang/Comparable"), (0, .class_ 4), (0, u "java/lang/Object")] 7

/-- java/lang/Comparable -/
def k6 : Class := { plain "java/lang/Comparable" (some 0) with
  accessFlags := 1537
  interfaces := #[]
  cf := some (fileOf pool6 1 #[] #[] 1537 3 #[] #[])
  fields := #[]
  methods := #[]
  instanceTypes := #[]
  staticTypes := #[]
  resolved := Array.replicate 12 none
  statics := none }

def pool7 : Array CpInfo := pool [(1, .class_ 2), (0, u "java/lang/constant/Constable"), (0, .class_ 4), (0, u "java/lang/Object")] 6

/-- java/lang/constant/Constable -/
def k7 : Class := { plain "java/lang/constant/Constable" (some 0) with
  accessFlags := 1537
  interfaces := #[]
  cf := some (fileOf pool7 1 #[] #[] 1537 3 #[] #[])
  fields := #[]
  methods := #[]
  instanceTypes := #[]
  staticTypes := #[]
  resolved := Array.replicate 11 none
  statics := none }

def pool8 : Array CpInfo := pool [(1, .class_ 2), (0, u "java/lang/constant/ConstantDesc"), (0, .class_ 4), (0, u "java/lang/Object")] 32

/-- java/lang/constant/ConstantDesc -/
def k8 : Class := { plain "java/lang/constant/ConstantDesc" (some 0) with
  accessFlags := 1537
  interfaces := #[]
  cf := some (fileOf pool8 1 #[] #[] 1537 3 #[] #[])
  fields := #[]
  methods := #[]
  instanceTypes := #[]
  staticTypes := #[]
  resolved := Array.replicate 37 none
  statics := none }

def pool9 : Array CpInfo := pool [(1, .class_ 2), (0, u "java/lang/Integer"), (16, u "digits"), (0, u "[C"), (46, u "<init>"), (17, u "DigitOnes"), (0, u "[B"), (2, u "DigitTens"), (10, .nameAndType 67 101), (0, u "()V"), (85, u "valueOf"), (0, u "(I)Ljava/lang/Integer;"), (0, .class_ 190), (0, u "java/lang/Integer$IntegerCache"), (0, .fieldref 189 192), (0, .nameAndType 193 194), (0, u "high"), (0, u "I"), (0, .fieldref 189 196), (0, .nameAndType 197 198), (0, u "cache"), (0, u "[Ljava/lang/Integer;"), (0, .methodref 1 200), (0, .nameAndType 67 201), (0, u "(I)V"), (0, .methodref 203 100), (0, .class_ 204), (0, u "java/lang/Number"), (0, .fieldref 1 206), (0, .nameAndType 207 194), (0, u "value"), (94, u "TYPE"), (0, u "Ljava/lang/Class;"), (0, .class_ 305), (0, u "java/lang/Comparable"), (0, .class_ 307), (0, u "java/lang/constant/Constable"), (0, .class_ 309), (0, u "java/lang/constant/ConstantDesc"), (0, u "MIN_VALUE"), (1, u "MAX_VALUE"), (3, u "SIZE"), (1, u "BYTES"), (1, u "serialVersionUID"), (0, u "J")] 131

def k9c0 : Code := { maxStack := 3, maxLocals := 1, code := jdk_33_method_22_code, exceptionTable := #[], attributes := #[] }
def k9m0 : Method := { name := "valueOf", desc := "(I)Ljava/lang/Integer;", sig := { parameters := [.int], returnType := some (.object "java/lang/Integer") }, accessFlags := 9, code := some k9c0 }
def k9c1 : Code := { maxStack := 2, maxLocals := 2, code := jdk_33_method_23_code, exceptionTable := #[], attributes := #[] }
def k9m1 : Method := { name := "<init>", desc := "(I)V", sig := { parameters := [.int], returnType := none }, accessFlags := 1, code := some k9c1 }
/-- java/lang/Integer -/
def k9 : Class := { plain "java/lang/Integer" (some 5) with
  accessFlags := 49
  interfaces := #[6, 7, 8]
  cf := some (fileOf pool9 1 #[.nestMembers #[189]] #[{ accessFlags := 9, nameIndex := 187, descriptorIndex := 188, attributes := #[] }, { accessFlags := 1, nameIndex := 67, descriptorIndex := 201, attributes := #[] }] 49 203 #[304, 306, 308] #[{ accessFlags := 25, nameIndex := 310, descriptorIndex := 194, attributes := #[] }, { accessFlags := 25, nameIndex := 312, descriptorIndex := 194, attributes := #[] }, { accessFlags := 25, nameIndex := 302, descriptorIndex := 303, attributes := #[] }, { accessFlags := 24, nameIndex := 19, descriptorIndex := 20, attributes := #[] }, { accessFlags := 24, nameIndex := 89, descriptorIndex := 86, attributes := #[] }, { accessFlags := 24, nameIndex := 85, descriptorIndex := 86, attributes := #[] }, { accessFlags := 18, nameIndex := 207, descriptorIndex := 194, attributes := #[] }, { accessFlags := 25, nameIndex := 316, descriptorIndex := 194, attributes := #[] }, { accessFlags := 25, nameIndex := 318, descriptorIndex := 194, attributes := #[] }, { accessFlags := 26, nameIndex := 320, descriptorIndex := 321, attributes := #[] }])
  fields := #[{ name := "MIN_VALUE", type := .int, accessFlags := 25, slot := 0, constantValue := 0 }, { name := "MAX_VALUE", type := .int, accessFlags := 25, slot := 1, constantValue := 0 }, { name := "TYPE", type := (.object "java/lang/Class"), accessFlags := 25, slot := 2, constantValue := 0 }, { name := "digits", type := (.array .char), accessFlags := 24, slot := 3, constantValue := 0 }, { name := "DigitTens", type := (.array .byte), accessFlags := 24, slot := 4, constantValue := 0 }, { name := "DigitOnes", type := (.array .byte), accessFlags := 24, slot := 5, constantValue := 0 }, { name := "value", type := .int, accessFlags := 18, slot := 0, constantValue := 0 }, { name := "SIZE", type := .int, accessFlags := 25, slot := 6, constantValue := 0 }, { name := "BYTES", type := .int, accessFlags := 25, slot := 7, constantValue := 0 }, { name := "serialVersionUID", type := .long, accessFlags := 26, slot := 8, constantValue := 0 }]
  methods := #[k9m0, k9m1]
  instanceTypes := #[.int]
  staticTypes := #[.int, .int, (.object "java/lang/Class"), (.array .char), (.array .byte), (.array .byte), .int, .int, .long]
  resolved := Array.replicate 453 none
  statics := none }

def pool10 : Array CpInfo := pool [(2, .class_ 4), (1, u "java/lang/Object"), (0, u "<init>"), (0, u "()V"), (0, .class_ 8), (0, u "java/lang/Integer"), (7, .class_ 18), (1, u "java/lang/Integer$IntegerCache"), (0, u "$assertionsDisabled"), (0, u "Z"), (26, u "high"), (0, u "I"), (8, u "archivedCache"), (0, u "[Ljava/lang/Integer;"), (12, u "cache"), (0, u "low")] 27

def k10m0 : Method := { name := "<init>", desc := "()V", sig := { parameters := [], returnType := none }, accessFlags := 2, code := none }
/-- java/lang/Integer$IntegerCache -/
def k10 : Class := { plain "java/lang/Integer$IntegerCache" (some 0) with
  accessFlags := 48
  interfaces := #[]
  cf := some (fileOf pool10 16 #[.nestHost 7] #[{ accessFlags := 2, nameIndex := 5, descriptorIndex := 6, attributes := #[] }] 48 2 #[] #[{ accessFlags := 24, nameIndex := 72, descriptorIndex := 48, attributes := #[] }, { accessFlags := 24, nameIndex := 47, descriptorIndex := 48, attributes := #[] }, { accessFlags := 24, nameIndex := 71, descriptorIndex := 58, attributes := #[] }, { accessFlags := 8, nameIndex := 57, descriptorIndex := 58, attributes := #[] }, { accessFlags := 4120, nameIndex := 19, descriptorIndex := 20, attributes := #[] }])
  fields := #[{ name := "low", type := .int, accessFlags := 24, slot := 0, constantValue := 0 }, { name := "high", type := .int, accessFlags := 24, slot := 1, constantValue := 0 }, { name := "cache", type := (.array (.object "java/lang/Integer")), accessFlags := 24, slot := 2, constantValue := 0 }, { name := "archivedCache", type := (.array (.object "java/lang/Integer")), accessFlags := 8, slot := 3, constantValue := 0 }, { name := "$assertionsDisabled", type := .boolean, accessFlags := 4120, slot := 4, constantValue := 0 }]
  methods := #[k10m0]
  instanceTypes := #[]
  staticTypes := #[.int, .int, (.array (.object "java/lang/Integer")), (.array (.object "java/lang/Integer")), .boolean]
  resolved := Array.replicate 100 none
  statics := some 0 }

def pool11 : Array CpInfo := pool [(1, u "java/lang/Cloneable"), (0, .class_ 1), (0, u "java/lang/Object"), (0, .class_ 3)] 3

/-- java/lang/Cloneable -/
def k11 : Class := { plain "java/lang/Cloneable" (some 0) with
  accessFlags := 1537
  interfaces := #[]
  cf := some (fileOf pool11 2 #[] #[] 1537 4 #[] #[])
  fields := #[]
  methods := #[]
  instanceTypes := #[]
  staticTypes := #[]
  resolved := Array.replicate 8 none
  statics := none }

/-- the primitive byte -/
def k12 : Class := { plain "byte" none with kind := .primitive 'B', accessFlags := 0x411 }
/-- [B -/
def k13 : Class := { plain "[B" (some 0) with kind := .array 12 .byte, interfaces := #[11, 4], accessFlags := 1041 }

/-- the primitive int -/
def k14 : Class := { plain "int" none with kind := .primitive 'I', accessFlags := 0x411 }
/-- [I -/
def k15 : Class := { plain "[I" (some 0) with kind := .array 14 .int, interfaces := #[11, 4], accessFlags := 1041 }

/-- [Ljava/lang/Integer; -/
def k16 : Class := { plain "[Ljava/lang/Integer;" (some 0) with kind := .array 9 (.object "java/lang/Integer"), interfaces := #[11, 4], accessFlags := 1041 }

def heap : Heap := #[{ cls := 10, slots := #[.int 0, .int 127, .ref 1, .null, .int 0], vm := .statics 10 },
  { cls := 16, slots := #[.ref 2, .ref 3, .ref 4, .ref 5, .ref 6, .ref 7, .ref 8, .ref 9, .ref 10, .ref 11, .ref 12, .ref 13, .ref 14, .ref 15, .ref 16, .ref 17, .ref 18, .ref 19, .ref 20, .ref 21, .ref 22, .ref 23, .ref 24, .ref 25, .ref 26, .ref 27, .ref 28, .ref 29, .ref 30, .ref 31, .ref 32, .ref 33, .ref 34, .ref 35, .ref 36, .ref 37, .ref 38, .ref 39, .ref 40, .ref 41, .ref 42, .ref 43, .ref 44, .ref 45, .ref 46, .ref 47, .ref 48, .ref 49, .ref 50, .ref 51, .ref 52, .ref 53, .ref 54, .ref 55, .ref 56, .ref 57, .ref 58, .ref 59, .ref 60, .ref 61, .ref 62, .ref 63, .ref 64, .ref 65, .ref 66, .ref 67, .ref 68, .ref 69, .ref 70, .ref 71, .ref 72, .ref 73, .ref 74, .ref 75, .ref 76, .ref 77, .ref 78, .ref 79, .ref 80, .ref 81, .ref 82, .ref 83, .ref 84, .ref 85, .ref 86, .ref 87, .ref 88, .ref 89, .ref 90, .ref 91, .ref 92, .ref 93, .ref 94, .ref 95, .ref 96, .ref 97, .ref 98, .ref 99, .ref 100, .ref 101, .ref 102, .ref 103, .ref 104, .ref 105, .ref 106, .ref 107, .ref 108, .ref 109, .ref 110, .ref 111, .ref 112, .ref 113, .ref 114, .ref 115, .ref 116, .ref 117, .ref 118, .ref 119, .ref 120, .ref 121, .ref 122, .ref 123, .ref 124, .ref 125, .ref 126, .ref 127, .ref 128, .ref 129, .ref 130, .ref 131, .ref 132, .ref 133, .ref 134, .ref 135, .ref 136, .ref 137, .ref 138, .ref 139, .ref 140, .ref 141, .ref 142, .ref 143, .ref 144, .ref 145, .ref 146, .ref 147, .ref 148, .ref 149, .ref 150, .ref 151, .ref 152, .ref 153, .ref 154, .ref 155, .ref 156, .ref 157, .ref 158, .ref 159, .ref 160, .ref 161, .ref 162, .ref 163, .ref 164, .ref 165, .ref 166, .ref 167, .ref 168, .ref 169, .ref 170, .ref 171, .ref 172, .ref 173, .ref 174, .ref 175, .ref 176, .ref 177, .ref 178, .ref 179, .ref 180, .ref 181, .ref 182, .ref 183, .ref 184, .ref 185, .ref 186, .ref 187, .ref 188, .ref 189, .ref 190, .ref 191, .ref 192, .ref 193, .ref 194, .ref 195, .ref 196, .ref 197, .ref 198, .ref 199, .ref 200, .ref 201, .ref 202, .ref 203, .ref 204, .ref 205, .ref 206, .ref 207, .ref 208, .ref 209, .ref 210, .ref 211, .ref 212, .ref 213, .ref 214, .ref 215, .ref 216, .ref 217, .ref 218, .ref 219, .ref 220, .ref 221, .ref 222, .ref 223, .ref 224, .ref 225, .ref 226, .ref 227, .ref 228, .ref 229, .ref 230, .ref 231, .ref 232, .ref 233, .ref 234, .ref 235, .ref 236, .ref 237, .ref 238, .ref 239, .ref 240, .ref 241, .ref 242, .ref 243, .ref 244, .ref 245, .ref 246, .ref 247, .ref 248, .ref 249, .ref 250, .ref 251, .ref 252, .ref 253, .ref 254, .ref 255, .ref 256, .ref 257], vm := .none },
  { cls := 9, slots := #[.int (-128)], vm := .none },
  { cls := 9, slots := #[.int (-127)], vm := .none },
  { cls := 9, slots := #[.int (-126)], vm := .none },
  { cls := 9, slots := #[.int (-125)], vm := .none },
  { cls := 9, slots := #[.int (-124)], vm := .none },
  { cls := 9, slots := #[.int (-123)], vm := .none },
  { cls := 9, slots := #[.int (-122)], vm := .none },
  { cls := 9, slots := #[.int (-121)], vm := .none },
  { cls := 9, slots := #[.int (-120)], vm := .none },
  { cls := 9, slots := #[.int (-119)], vm := .none },
  { cls := 9, slots := #[.int (-118)], vm := .none },
  { cls := 9, slots := #[.int (-117)], vm := .none },
  { cls := 9, slots := #[.int (-116)], vm := .none },
  { cls := 9, slots := #[.int (-115)], vm := .none },
  { cls := 9, slots := #[.int (-114)], vm := .none },
  { cls := 9, slots := #[.int (-113)], vm := .none },
  { cls := 9, slots := #[.int (-112)], vm := .none },
  { cls := 9, slots := #[.int (-111)], vm := .none },
  { cls := 9, slots := #[.int (-110)], vm := .none },
  { cls := 9, slots := #[.int (-109)], vm := .none },
  { cls := 9, slots := #[.int (-108)], vm := .none },
  { cls := 9, slots := #[.int (-107)], vm := .none },
  { cls := 9, slots := #[.int (-106)], vm := .none },
  { cls := 9, slots := #[.int (-105)], vm := .none },
  { cls := 9, slots := #[.int (-104)], vm := .none },
  { cls := 9, slots := #[.int (-103)], vm := .none },
  { cls := 9, slots := #[.int (-102)], vm := .none },
  { cls := 9, slots := #[.int (-101)], vm := .none },
  { cls := 9, slots := #[.int (-100)], vm := .none },
  { cls := 9, slots := #[.int (-99)], vm := .none },
  { cls := 9, slots := #[.int (-98)], vm := .none },
  { cls := 9, slots := #[.int (-97)], vm := .none },
  { cls := 9, slots := #[.int (-96)], vm := .none },
  { cls := 9, slots := #[.int (-95)], vm := .none },
  { cls := 9, slots := #[.int (-94)], vm := .none },
  { cls := 9, slots := #[.int (-93)], vm := .none },
  { cls := 9, slots := #[.int (-92)], vm := .none },
  { cls := 9, slots := #[.int (-91)], vm := .none },
  { cls := 9, slots := #[.int (-90)], vm := .none },
  { cls := 9, slots := #[.int (-89)], vm := .none },
  { cls := 9, slots := #[.int (-88)], vm := .none },
  { cls := 9, slots := #[.int (-87)], vm := .none },
  { cls := 9, slots := #[.int (-86)], vm := .none },
  { cls := 9, slots := #[.int (-85)], vm := .none },
  { cls := 9, slots := #[.int (-84)], vm := .none },
  { cls := 9, slots := #[.int (-83)], vm := .none },
  { cls := 9, slots := #[.int (-82)], vm := .none },
  { cls := 9, slots := #[.int (-81)], vm := .none },
  { cls := 9, slots := #[.int (-80)], vm := .none },
  { cls := 9, slots := #[.int (-79)], vm := .none },
  { cls := 9, slots := #[.int (-78)], vm := .none },
  { cls := 9, slots := #[.int (-77)], vm := .none },
  { cls := 9, slots := #[.int (-76)], vm := .none },
  { cls := 9, slots := #[.int (-75)], vm := .none },
  { cls := 9, slots := #[.int (-74)], vm := .none },
  { cls := 9, slots := #[.int (-73)], vm := .none },
  { cls := 9, slots := #[.int (-72)], vm := .none },
  { cls := 9, slots := #[.int (-71)], vm := .none },
  { cls := 9, slots := #[.int (-70)], vm := .none },
  { cls := 9, slots := #[.int (-69)], vm := .none },
  { cls := 9, slots := #[.int (-68)], vm := .none },
  { cls := 9, slots := #[.int (-67)], vm := .none },
  { cls := 9, slots := #[.int (-66)], vm := .none },
  { cls := 9, slots := #[.int (-65)], vm := .none },
  { cls := 9, slots := #[.int (-64)], vm := .none },
  { cls := 9, slots := #[.int (-63)], vm := .none },
  { cls := 9, slots := #[.int (-62)], vm := .none },
  { cls := 9, slots := #[.int (-61)], vm := .none },
  { cls := 9, slots := #[.int (-60)], vm := .none },
  { cls := 9, slots := #[.int (-59)], vm := .none },
  { cls := 9, slots := #[.int (-58)], vm := .none },
  { cls := 9, slots := #[.int (-57)], vm := .none },
  { cls := 9, slots := #[.int (-56)], vm := .none },
  { cls := 9, slots := #[.int (-55)], vm := .none },
  { cls := 9, slots := #[.int (-54)], vm := .none },
  { cls := 9, slots := #[.int (-53)], vm := .none },
  { cls := 9, slots := #[.int (-52)], vm := .none },
  { cls := 9, slots := #[.int (-51)], vm := .none },
  { cls := 9, slots := #[.int (-50)], vm := .none },
  { cls := 9, slots := #[.int (-49)], vm := .none },
  { cls := 9, slots := #[.int (-48)], vm := .none },
  { cls := 9, slots := #[.int (-47)], vm := .none },
  { cls := 9, slots := #[.int (-46)], vm := .none },
  { cls := 9, slots := #[.int (-45)], vm := .none },
  { cls := 9, slots := #[.int (-44)], vm := .none },
  { cls := 9, slots := #[.int (-43)], vm := .none },
  { cls := 9, slots := #[.int (-42)], vm := .none },
  { cls := 9, slots := #[.int (-41)], vm := .none },
  { cls := 9, slots := #[.int (-40)], vm := .none },
  { cls := 9, slots := #[.int (-39)], vm := .none },
  { cls := 9, slots := #[.int (-38)], vm := .none },
  { cls := 9, slots := #[.int (-37)], vm := .none },
  { cls := 9, slots := #[.int (-36)], vm := .none },
  { cls := 9, slots := #[.int (-35)], vm := .none },
  { cls := 9, slots := #[.int (-34)], vm := .none },
  { cls := 9, slots := #[.int (-33)], vm := .none },
  { cls := 9, slots := #[.int (-32)], vm := .none },
  { cls := 9, slots := #[.int (-31)], vm := .none },
  { cls := 9, slots := #[.int (-30)], vm := .none },
  { cls := 9, slots := #[.int (-29)], vm := .none },
  { cls := 9, slots := #[.int (-28)], vm := .none },
  { cls := 9, slots := #[.int (-27)], vm := .none },
  { cls := 9, slots := #[.int (-26)], vm := .none },
  { cls := 9, slots := #[.int (-25)], vm := .none },
  { cls := 9, slots := #[.int (-24)], vm := .none },
  { cls := 9, slots := #[.int (-23)], vm := .none },
  { cls := 9, slots := #[.int (-22)], vm := .none },
  { cls := 9, slots := #[.int (-21)], vm := .none },
  { cls := 9, slots := #[.int (-20)], vm := .none },
  { cls := 9, slots := #[.int (-19)], vm := .none },
  { cls := 9, slots := #[.int (-18)], vm := .none },
  { cls := 9, slots := #[.int (-17)], vm := .none },
  { cls := 9, slots := #[.int (-16)], vm := .none },
  { cls := 9, slots := #[.int (-15)], vm := .none },
  { cls := 9, slots := #[.int (-14)], vm := .none },
  { cls := 9, slots := #[.int (-13)], vm := .none },
  { cls := 9, slots := #[.int (-12)], vm := .none },
  { cls := 9, slots := #[.int (-11)], vm := .none },
  { cls := 9, slots := #[.int (-10)], vm := .none },
  { cls := 9, slots := #[.int (-9)], vm := .none },
  { cls := 9, slots := #[.int (-8)], vm := .none },
  { cls := 9, slots := #[.int (-7)], vm := .none },
  { cls := 9, slots := #[.int (-6)], vm := .none },
  { cls := 9, slots := #[.int (-5)], vm := .none },
  { cls := 9, slots := #[.int (-4)], vm := .none },
  { cls := 9, slots := #[.int (-3)], vm := .none },
  { cls := 9, slots := #[.int (-2)], vm := .none },
  { cls := 9, slots := #[.int (-1)], vm := .none },
  { cls := 9, slots := #[.int 0], vm := .none },
  { cls := 9, slots := #[.int 1], vm := .none },
  { cls := 9, slots := #[.int 2], vm := .none },
  { cls := 9, slots := #[.int 3], vm := .none },
  { cls := 9, slots := #[.int 4], vm := .none },
  { cls := 9, slots := #[.int 5], vm := .none },
  { cls := 9, slots := #[.int 6], vm := .none },
  { cls := 9, slots := #[.int 7], vm := .none },
  { cls := 9, slots := #[.int 8], vm := .none },
  { cls := 9, slots := #[.int 9], vm := .none },
  { cls := 9, slots := #[.int 10], vm := .none },
  { cls := 9, slots := #[.int 11], vm := .none },
  { cls := 9, slots := #[.int 12], vm := .none },
  { cls := 9, slots := #[.int 13], vm := .none },
  { cls := 9, slots := #[.int 14], vm := .none },
  { cls := 9, slots := #[.int 15], vm := .none },
  { cls := 9, slots := #[.int 16], vm := .none },
  { cls := 9, slots := #[.int 17], vm := .none },
  { cls := 9, slots := #[.int 18], vm := .none },
  { cls := 9, slots := #[.int 19], vm := .none },
  { cls := 9, slots := #[.int 20], vm := .none },
  { cls := 9, slots := #[.int 21], vm := .none },
  { cls := 9, slots := #[.int 22], vm := .none },
  { cls := 9, slots := #[.int 23], vm := .none },
  { cls := 9, slots := #[.int 24], vm := .none },
  { cls := 9, slots := #[.int 25], vm := .none },
  { cls := 9, slots := #[.int 26], vm := .none },
  { cls := 9, slots := #[.int 27], vm := .none },
  { cls := 9, slots := #[.int 28], vm := .none },
  { cls := 9, slots := #[.int 29], vm := .none },
  { cls := 9, slots := #[.int 30], vm := .none },
  { cls := 9, slots := #[.int 31], vm := .none },
  { cls := 9, slots := #[.int 32], vm := .none },
  { cls := 9, slots := #[.int 33], vm := .none },
  { cls := 9, slots := #[.int 34], vm := .none },
  { cls := 9, slots := #[.int 35], vm := .none },
  { cls := 9, slots := #[.int 36], vm := .none },
  { cls := 9, slots := #[.int 37], vm := .none },
  { cls := 9, slots := #[.int 38], vm := .none },
  { cls := 9, slots := #[.int 39], vm := .none },
  { cls := 9, slots := #[.int 40], vm := .none },
  { cls := 9, slots := #[.int 41], vm := .none },
  { cls := 9, slots := #[.int 42], vm := .none },
  { cls := 9, slots := #[.int 43], vm := .none },
  { cls := 9, slots := #[.int 44], vm := .none },
  { cls := 9, slots := #[.int 45], vm := .none },
  { cls := 9, slots := #[.int 46], vm := .none },
  { cls := 9, slots := #[.int 47], vm := .none },
  { cls := 9, slots := #[.int 48], vm := .none },
  { cls := 9, slots := #[.int 49], vm := .none },
  { cls := 9, slots := #[.int 50], vm := .none },
  { cls := 9, slots := #[.int 51], vm := .none },
  { cls := 9, slots := #[.int 52], vm := .none },
  { cls := 9, slots := #[.int 53], vm := .none },
  { cls := 9, slots := #[.int 54], vm := .none },
  { cls := 9, slots := #[.int 55], vm := .none },
  { cls := 9, slots := #[.int 56], vm := .none },
  { cls := 9, slots := #[.int 57], vm := .none },
  { cls := 9, slots := #[.int 58], vm := .none },
  { cls := 9, slots := #[.int 59], vm := .none },
  { cls := 9, slots := #[.int 60], vm := .none },
  { cls := 9, slots := #[.int 61], vm := .none },
  { cls := 9, slots := #[.int 62], vm := .none },
  { cls := 9, slots := #[.int 63], vm := .none },
  { cls := 9, slots := #[.int 64], vm := .none },
  { cls := 9, slots := #[.int 65], vm := .none },
  { cls := 9, slots := #[.int 66], vm := .none },
  { cls := 9, slots := #[.int 67], vm := .none },
  { cls := 9, slots := #[.int 68], vm := .none },
  { cls := 9, slots := #[.int 69], vm := .none },
  { cls := 9, slots := #[.int 70], vm := .none },
  { cls := 9, slots := #[.int 71], vm := .none },
  { cls := 9, slots := #[.int 72], vm := .none },
  { cls := 9, slots := #[.int 73], vm := .none },
  { cls := 9, slots := #[.int 74], vm := .none },
  { cls := 9, slots := #[.int 75], vm := .none },
  { cls := 9, slots := #[.int 76], vm := .none },
  { cls := 9, slots := #[.int 77], vm := .none },
  { cls := 9, slots := #[.int 78], vm := .none },
  { cls := 9, slots := #[.int 79], vm := .none },
  { cls := 9, slots := #[.int 80], vm := .none },
  { cls := 9, slots := #[.int 81], vm := .none },
  { cls := 9, slots := #[.int 82], vm := .none },
  { cls := 9, slots := #[.int 83], vm := .none },
  { cls := 9, slots := #[.int 84], vm := .none },
  { cls := 9, slots := #[.int 85], vm := .none },
  { cls := 9, slots := #[.int 86], vm := .none },
  { cls := 9, slots := #[.int 87], vm := .none },
  { cls := 9, slots := #[.int 88], vm := .none },
  { cls := 9, slots := #[.int 89], vm := .none },
  { cls := 9, slots := #[.int 90], vm := .none },
  { cls := 9, slots := #[.int 91], vm := .none },
  { cls := 9, slots := #[.int 92], vm := .none },
  { cls := 9, slots := #[.int 93], vm := .none },
  { cls := 9, slots := #[.int 94], vm := .none },
  { cls := 9, slots := #[.int 95], vm := .none },
  { cls := 9, slots := #[.int 96], vm := .none },
  { cls := 9, slots := #[.int 97], vm := .none },
  { cls := 9, slots := #[.int 98], vm := .none },
  { cls := 9, slots := #[.int 99], vm := .none },
  { cls := 9, slots := #[.int 100], vm := .none },
  { cls := 9, slots := #[.int 101], vm := .none },
  { cls := 9, slots := #[.int 102], vm := .none },
  { cls := 9, slots := #[.int 103], vm := .none },
  { cls := 9, slots := #[.int 104], vm := .none },
  { cls := 9, slots := #[.int 105], vm := .none },
  { cls := 9, slots := #[.int 106], vm := .none },
  { cls := 9, slots := #[.int 107], vm := .none },
  { cls := 9, slots := #[.int 108], vm := .none },
  { cls := 9, slots := #[.int 109], vm := .none },
  { cls := 9, slots := #[.int 110], vm := .none },
  { cls := 9, slots := #[.int 111], vm := .none },
  { cls := 9, slots := #[.int 112], vm := .none },
  { cls := 9, slots := #[.int 113], vm := .none },
  { cls := 9, slots := #[.int 114], vm := .none },
  { cls := 9, slots := #[.int 115], vm := .none },
  { cls := 9, slots := #[.int 116], vm := .none },
  { cls := 9, slots := #[.int 117], vm := .none },
  { cls := 9, slots := #[.int 118], vm := .none },
  { cls := 9, slots := #[.int 119], vm := .none },
  { cls := 9, slots := #[.int 120], vm := .none },
  { cls := 9, slots := #[.int 121], vm := .none },
  { cls := 9, slots := #[.int 122], vm := .none },
  { cls := 9, slots := #[.int 123], vm := .none },
  { cls := 9, slots := #[.int 124], vm := .none },
  { cls := 9, slots := #[.int 125], vm := .none },
  { cls := 9, slots := #[.int 126], vm := .none },
  { cls := 9, slots := #[.int 127], vm := .none }]
def classes : Array Class := #[k0, k1, k2, k3, k4, k5, k6, k7, k8, k9, k10, k11, k12, k13, k14, k15, k16]
def interned : List (Array UInt16 × Addr) := []
def slotsUsed : Nat := 517
def theMethod : MethodId := ⟨1, 1⟩
def args0 : Array Value := #[.int 5, .int 7, .int 3, .int 4, .int 2]
def aboutOver (below : List Frame) : State where
  vm := { classes := classes, interned := interned.toArray }
  heap := heap
  slotsUsed := slotsUsed
  threads := #[{ frames := .invoking theMethod args0 :: below }]
def below0 : List Frame := [.native { method := ⟨0, 0⟩, args := #[] }]
def about1 : State := aboutOver below0
def p0 : Program := .bare "" "" ""
def e0 : Env := launch0.env 0 0 0
theorem w_frames : about1.frames = Frame.invoking theMethod args0 :: below0 := rfl
set_option maxRecDepth 65536 in
theorem w_args : argsFit about1.vm theMethod args0 = true := by decide +kernel
set_option maxRecDepth 65536 in
theorem w_heap : heapFits about1 = true := by decide +kernel
set_option maxRecDepth 65536 in
theorem w_runnable : about1.curStatus? = some .runnable := by decide +kernel
set_option maxRecDepth 65536 in
theorem w_alone : about1.alone = true := by decide +kernel
set_option maxRecDepth 65536 in
theorem w_named : about1.methodNamed? x = some theMethod := by decide +kernel
set_option maxRecDepth 65536 in
theorem w_hears : about1.hears theMethod below0 = true := by decide +kernel
set_option maxRecDepth 65536 in
theorem w_ripe : about1.ripe theMethod args0 below0 = true := by decide +kernel
theorem w_running : about1.status = .running := rfl
set_option maxRecDepth 65536 in
theorem w_room : about1.hasRoom e0.platform room_1 = true :=
  launch0.hasRoom_least _ room_1 (by decide +kernel) (by decide +kernel) (by decide +kernel) (by decide +kernel) (by decide +kernel) (by decide +kernel)
theorem allAtoms_all (ts : List Jvm.Cond) (a : Array Jvm.Value) (st : Jvm.State) : (allAtoms ts).before a st = ts.all (fun c => c.before a st) := by
  induction ts with
  | nil => rfl
  | cons c t ih =>
    show (Jvm.Cond.and c (allAtoms t)).before a st = _
    rw [Jvm.Cond.before_and, ih, List.all_cons]
def words1 : List Jvm.Cond := Jvm.Cond.code x code maxLocals ret :: tables_1
/-- a 'code' word, met by the world's own term for the bytes: nothing is compared byte by byte -/
theorem code_word {y : MethodName} {bytes : ByteArray} {mx : Nat} {rt : Option FieldType} {a : Array Value} {s : State} {m : MethodId} {meth : Method} {c : Code} (h1 : s.methodNamed? y = some m) (h2 : s.vm.method? m = some meth) (h3 : meth.code = some c) (h4 : c.code = bytes)
    (h5 : (c.maxLocals == mx && c.exceptionTable.isEmpty && decide (c.maxStack ≤ mostOperands) && decide (meth.sig.returnType = rt) && !meth.locks && decide (parseMethodDescriptor y.desc = some meth.sig)) = true) : (Jvm.Cond.code y bytes mx rt).before a s = true := by
  simp only [Bool.and_eq_true, beq_iff_eq, Bool.not_eq_true', decide_eq_true_eq] at h5
  obtain ⟨⟨⟨⟨⟨g1, g2⟩, g3⟩, g4⟩, g5⟩, g6⟩ := h5
  simp [Cond.before, Cond.holds, Cond.value, h1, h2, h3, h4, g1, g2, g3, g4, g5, g6]
def isCode : Jvm.Cond → Bool
  | .code _ _ _ _ => true
  | _ => false
theorem all_split {L : List Jvm.Cond} {P : Jvm.Cond → Bool} (h1 : L.all (fun c => isCode c || P c) = true) (h2 : ∀ c ∈ L.filter isCode, P c = true) : L.all P = true := by
  refine List.all_eq_true.mpr fun c hc => ?_
  have h := List.all_eq_true.mp h1 c hc
  rcases Bool.eq_false_or_eq_true (isCode c) with hi | hi
  · exact h2 c (List.mem_filter.mpr ⟨hc, hi⟩)
  · simpa [hi] using h
set_option maxRecDepth 65536 in
theorem w_c0 : (Jvm.Cond.code x code maxLocals ret).before args0 about1 = true := code_word (m := ⟨1, 1⟩) (meth := k1m1) (c := k1c1) (by decide +kernel) rfl rfl rfl (by decide +kernel)
set_option maxRecDepth 65536 in
theorem w_c1 : (Jvm.Cond.code ({ cls := "com/example/branchwise/branchwise/Interval", name := "<init>", desc := "(II)V" } : Jvm.MethodName) prog_27_method_1_code (3 : Nat) (Option.none : Option Jvm.ClassFile.FieldType)).before args0 about1 = true := code_word (m := ⟨3, 0⟩) (meth := k3m0) (c := k3c0) (by decide +kernel) rfl rfl rfl (by decide +kernel)
set_option maxRecDepth 65536 in
theorem w_c2 : (Jvm.Cond.code ({ cls := "java/lang/Record", name := "<init>", desc := "()V" } : Jvm.MethodName) jdk_30_method_1_code (1 : Nat) (Option.none : Option Jvm.ClassFile.FieldType)).before args0 about1 = true := code_word (m := ⟨2, 0⟩) (meth := k2m0) (c := k2c0) (by decide +kernel) rfl rfl rfl (by decide +kernel)
set_option maxRecDepth 65536 in
theorem w_c3 : (Jvm.Cond.code ({ cls := "java/lang/Object", name := "<init>", desc := "()V" } : Jvm.MethodName) object_method_1_code (1 : Nat) (Option.none : Option Jvm.ClassFile.FieldType)).before args0 about1 = true := code_word (m := ⟨0, 0⟩) (meth := k0m0) (c := k0c0) (by decide +kernel) rfl rfl rfl (by decide +kernel)
set_option maxRecDepth 65536 in
theorem w_c4 : (Jvm.Cond.code ({ cls := "com/example/branchwise/branchwise/Interval", name := "equals", desc := "(Ljava/lang/Object;)Z" } : Jvm.MethodName) prog_27_method_12_code (3 : Nat) (Option.some Jvm.ClassFile.FieldType.boolean)).before args0 about1 = true := code_word (m := ⟨3, 1⟩) (meth := k3m1) (c := k3c1) (by decide +kernel) rfl rfl rfl (by decide +kernel)
set_option maxRecDepth 65536 in
theorem w_c5 : (Jvm.Cond.code ({ cls := "java/lang/Integer", name := "valueOf", desc := "(I)Ljava/lang/Integer;" } : Jvm.MethodName) jdk_33_method_22_code (1 : Nat) (Option.some (Jvm.ClassFile.FieldType.object "java/lang/Integer"))).before args0 about1 = true := code_word (m := ⟨9, 0⟩) (meth := k9m0) (c := k9c0) (by decide +kernel) rfl rfl rfl (by decide +kernel)
set_option maxRecDepth 65536 in
theorem w_c6 : (Jvm.Cond.code ({ cls := "java/lang/Integer", name := "<init>", desc := "(I)V" } : Jvm.MethodName) jdk_33_method_23_code (2 : Nat) (Option.none : Option Jvm.ClassFile.FieldType)).before args0 about1 = true := code_word (m := ⟨9, 1⟩) (meth := k9m1) (c := k9c1) (by decide +kernel) rfl rfl rfl (by decide +kernel)
set_option maxRecDepth 65536 in
theorem w_c7 : (Jvm.Cond.code ({ cls := "java/lang/Number", name := "<init>", desc := "()V" } : Jvm.MethodName) jdk_18_method_1_code (1 : Nat) (Option.none : Option Jvm.ClassFile.FieldType)).before args0 about1 = true := code_word (m := ⟨5, 0⟩) (meth := k5m0) (c := k5c0) (by decide +kernel) rfl rfl rfl (by decide +kernel)
def codes1 : List Jvm.Cond := [Jvm.Cond.code x code maxLocals ret, Jvm.Cond.code ({ cls := "com/example/branchwise/branchwise/Interval", name := "<init>", desc := "(II)V" } : Jvm.MethodName) prog_27_method_1_code (3 : Nat) (Option.none : Option Jvm.ClassFile.FieldType), Jvm.Cond.code ({ cls := "java/lang/Record", name := "<init>", desc := "()V" } : Jvm.MethodName) jdk_30_method_1_code (1 : Nat) (Option.none : Option Jvm.ClassFile.FieldType), Jvm.Cond.code ({ cls := "java/lang/Object", name := "<init>", desc := "()V" } : Jvm.MethodName) object_method_1_code (1 : Nat) (Option.none : Option Jvm.ClassFile.FieldType), Jvm.Cond.code ({ cls := "com/example/branchwise/branchwise/Interval", name := "equals", desc := "(Ljava/lang/Object;)Z" } : Jvm.MethodName) prog_27_method_12_code (3 : Nat) (Option.some Jvm.ClassFile.FieldType.boolean), Jvm.Cond.code ({ cls := "java/lang/Integer", name := "valueOf", desc := "(I)Ljava/lang/Integer;" } : Jvm.MethodName) jdk_33_method_22_code (1 : Nat) (Option.some (Jvm.ClassFile.FieldType.object "java/lang/Integer")), Jvm.Cond.code ({ cls := "java/lang/Integer", name := "<init>", desc := "(I)V" } : Jvm.MethodName) jdk_33_method_23_code (2 : Nat) (Option.none : Option Jvm.ClassFile.FieldType), Jvm.Cond.code ({ cls := "java/lang/Number", name := "<init>", desc := "()V" } : Jvm.MethodName) jdk_18_method_1_code (1 : Nat) (Option.none : Option Jvm.ClassFile.FieldType)]
set_option maxRecDepth 65536 in
theorem codes_eq : words1.filter isCode = codes1 := rfl
theorem w_codes : ∀ c ∈ words1.filter isCode, c.before args0 about1 = true := by
  rw [codes_eq]
  intro c hc
  simp only [codes1, List.mem_cons, List.not_mem_nil, or_false] at hc
  rcases hc with rfl | rfl | rfl | rfl | rfl | rfl | rfl | rfl
  · exact w_c0
  · exact w_c1
  · exact w_c2
  · exact w_c3
  · exact w_c4
  · exact w_c5
  · exact w_c6
  · exact w_c7
set_option maxRecDepth 65536 in
theorem w_t1 : (words1.take 24).all (fun c => isCode c || c.before args0 about1) = true := by decide +kernel
set_option maxRecDepth 65536 in
theorem w_t2 : ((words1.drop 24).take 24).all (fun c => isCode c || c.before args0 about1) = true := by decide +kernel
set_option maxRecDepth 65536 in
theorem w_t3 : ((words1.drop 24).drop 24).all (fun c => isCode c || c.before args0 about1) = true := by decide +kernel
theorem w_tables : (allAtoms (Jvm.Cond.code x code maxLocals ret :: tables_1)).before args0 about1 = true := by
  rw [allAtoms_all]
  show words1.all (fun c => c.before args0 about1) = true
  refine all_split ?_ w_codes
  rw [← List.take_append_drop 24 words1, List.all_append, w_t1, ← List.take_append_drop 24 (words1.drop 24), List.all_append, w_t2, w_t3]
  rfl
set_option maxRecDepth 65536 in
theorem w_rest : rest_1_c.before args0 about1 = true := by decide +kernel
set_option maxRecDepth 65536 in
theorem w_case : (Jvm.Cond.and given_1 narrow_1).before args0 about1 = true := by decide +kernel
theorem w_applies : (headSpec (Jvm.Cond.code x code maxLocals ret :: tables_1) room_1).applies x e0.platform about1 = true :=
  (Spec.applies_iff w_frames).mpr ⟨w_running, w_runnable, w_alone, w_named, w_hears, w_ripe, w_room, w_tables⟩
theorem atStart : AtStart classFile x code maxLocals ret World_1 tables_1 room_1 Calls_1 rest_1 Pre_1 launch0 p0 e0 about1 theMethod args0 below0 :=
  ⟨lists_1, trivial, launch0.admits_env _ _ _, launch0.least_env, fairChoices_fair.cas, fairChoices_fair.clock, w_frames, w_args, w_heap, w_applies, trivial, w_rest, w_case⟩
end start1
theorem witness_1 : WitnessClaimed_1 := ⟨start1.p0, start1.e0, start1.about1, start1.theMethod, start1.args0, start1.below0, start1.atStart⟩
end Jvm.Pilot.@@N@@
