import JvmDerived
import JvmDerived.Pilot.@@N@@Statement
import JvmDerived.Pilot.@@N@@Code
set_option linter.unusedVariables false
set_option linter.unusedSimpArgs false
namespace Jvm.Pilot.@@N@@
open Jvm Jvm.ClassFile Sem Op Lib Jvm.Free Jvm.Stand Jvm.LawKit Jvm.RoadKit Bundle Jvm.Pilot.@@N@@.Jvm.D
def Go (p : Program) (e : Env) (below : List Frame) (G : State → Prop) (T : State) (f : JFrame) : Prop := ∃ t, Steps p.tables e below (T.setTop f) t ∧ G t
theorem Go.step {p : Program} {e : Env} {below : List Frame} {G : State → Prop} {T T' : State} {f f' : JFrame} (k : ∀ t, Steps p.tables e below (T'.setTop f') t → Steps p.tables e below (T.setTop f) t) (h : Go p e below G T' f') : Go p e below G T f := by
  obtain ⟨t, h1, h2⟩ := h
  exact ⟨t, k t h1, h2⟩
def Fin1 (s : State) (below : List Frame) (Q : Option Value → Heap → List Loc → Prop) (k n : Nat) (t : State) : Prop := ∃ o, t.status = .running ∧ Ended t below o ∧ ∃ v L, o = .returned v ∧ Q v t.heap L ∧ FrameEnd s o t L k n
theorem of_go {p : Program} {e : Env} {below : List Frame} {s s₁ : State} {Q : Option Value → Heap → List Loc → Prop} {k n : Nat} {f f' : JFrame} (hf : f' = f) (h : Go p e below (Fin1 s below Q k n) s₁ f) :
    ∃ s₂ o, Steps p.tables e below (s₁.setTop f') s₂ ∧ s₂.status = .running ∧ Ended s₂ below o ∧ ∃ v L, o = .returned v ∧ Q v s₂.heap L ∧ FrameEnd s o s₂ L k n := by
  subst hf
  obtain ⟨t, h1, o, h2, h3, h4⟩ := h
  exact ⟨t, o, h1, h2, h3, h4⟩
section Ends
variable {p : Program} {l : Launch} {e : Env} {R : Room} {s : State} {m : MethodId} {args : Array Value} {below : List Frame} {meth : Method} {c : Code} {T : State} {locs : List Loc} {cells slots : Nat} {Q : Option Value → Heap → List Loc → Prop} {k n : Nat}
theorem goN (X : Stand p l e R s m args below meth c T locs cells slots) (hx : p.tables.exec = Jvm.exec) {pc : Nat} {Ls : Array Slot} {z : Int32} {t : FieldType} {rest : List Value} (hret : meth.sig.returnType = some t) (ht : t = .boolean ∨ t = .byte ∨ t = .char ∨ t = .short) (hlk : meth.locks = false)
    (hd : decode c.code pc = .ok (.ireturn, 1)) (hQ : Q (some (.int (nar t z))) T.heap locs) (hk : cells ≤ k) (hn : slots ≤ n) : Go p e below (Fin1 s below Q k n) T (mkF m pc Ls (.int z :: rest)) := by
  obtain ⟨fs, hr, hrun, hended, hW, hsame⟩ := X.leave (v := some (.int (nar t z))) (fun h => by rw [hret] at h; cases h) hlk
  exact ⟨_, Jvm.RoadKit.retN X hx hret ht hd hr, _, hrun, hended, _, _, rfl, hQ, ⟨_, rfl⟩, hW, hsame.mono hk hn⟩
theorem goO (X : Stand p l e R s m args below meth c T locs cells slots) (hx : p.tables.exec = Jvm.exec) {pc : Nat} {Ls : Array Slot} {w : Value} {t : FieldType} {i : Instr} {rest : List Value} (hret : meth.sig.returnType = some t) (hnw : narrow t w = w)
    (hi : (i = .ireturn ∧ (t = .int ∨ t = .boolean ∨ t = .byte ∨ t = .char ∨ t = .short) ∧ ∃ z, w = .int z) ∨ (i = .lreturn ∧ t = .long ∧ ∃ z, w = .long z) ∨ (i = .dreturn ∧ t = .double ∧ ∃ z, w = .double z) ∨ (i = .freturn ∧ t = .float ∧ ∃ z, w = .float z) ∨ (i = .areturn ∧ t.isReference = true ∧ w.isRef = true)) (hlk : meth.locks = false)
    (hd : decode c.code pc = .ok (i, 1)) (hQ : Q (some w) T.heap locs) (hk : cells ≤ k) (hn : slots ≤ n) : Go p e below (Fin1 s below Q k n) T (mkF m pc Ls (w :: rest)) := by
  obtain ⟨fs, hr, hrun, hended, hW, hsame⟩ := X.leave (v := some w) (fun h => by rw [hret] at h; cases h) hlk
  exact ⟨_, Jvm.RoadKit.retOut X hx hret hnw hi hd hr, _, hrun, hended, _, _, rfl, hQ, ⟨_, rfl⟩, hW, hsame.mono hk hn⟩
theorem goI (X : Stand p l e R s m args below meth c T locs cells slots) (hx : p.tables.exec = Jvm.exec) {pc : Nat} {Ls : Array Slot} {z : Int32} {rest : List Value} (hret : meth.sig.returnType = some .int) (hlk : meth.locks = false)
    (hd : decode c.code pc = .ok (.ireturn, 1)) (hQ : Q (some (.int z)) T.heap locs) (hk : cells ≤ k) (hn : slots ≤ n) : Go p e below (Fin1 s below Q k n) T (mkF m pc Ls (.int z :: rest)) :=
  goO X hx hret rfl (Or.inl ⟨rfl, Or.inl rfl, _, rfl⟩) hlk hd hQ hk hn
theorem goJ (X : Stand p l e R s m args below meth c T locs cells slots) (hx : p.tables.exec = Jvm.exec) {pc : Nat} {Ls : Array Slot} {z : Int64} {rest : List Value} (hret : meth.sig.returnType = some .long) (hlk : meth.locks = false)
    (hd : decode c.code pc = .ok (.lreturn, 1)) (hQ : Q (some (.long z)) T.heap locs) (hk : cells ≤ k) (hn : slots ≤ n) : Go p e below (Fin1 s below Q k n) T (mkF m pc Ls (.long z :: rest)) :=
  goO X hx hret rfl (Or.inr (Or.inl ⟨rfl, rfl, _, rfl⟩)) hlk hd hQ hk hn
theorem goA (X : Stand p l e R s m args below meth c T locs cells slots) (hx : p.tables.exec = Jvm.exec) {pc : Nat} {Ls : Array Slot} {w : Value} {t : FieldType} {rest : List Value} (hret : meth.sig.returnType = some t) (ht : t.isReference = true) (hw : w.isRef = true) (hlk : meth.locks = false)
    (hd : decode c.code pc = .ok (.areturn, 1)) (hQ : Q (some w) T.heap locs) (hk : cells ≤ k) (hn : slots ≤ n) : Go p e below (Fin1 s below Q k n) T (mkF m pc Ls (w :: rest)) :=
  goO X hx hret (by cases t <;> cases w <;> first | rfl | (simp [FieldType.isReference] at ht; done) | (simp [Value.isRef] at hw; done)) (Or.inr (Or.inr (Or.inr (Or.inr ⟨rfl, ht, hw⟩)))) hlk hd hQ hk hn
theorem goV (X : Stand p l e R s m args below meth c T locs cells slots) (hx : p.tables.exec = Jvm.exec) {pc : Nat} {Ls : Array Slot} (hret : meth.sig.returnType = none) (hlk : meth.locks = false)
    (hd : decode c.code pc = .ok (.return_, 1)) (hQ : Q none T.heap locs) (hk : cells ≤ k) (hn : slots ≤ n) : Go p e below (Fin1 s below Q k n) T (mkF m pc Ls []) := by
  obtain ⟨fs, hr, hrun, hended, hW, hsame⟩ := X.leave (v := none) (fun _ => rfl) hlk
  exact ⟨_, X.returnOut hx hret hd hr, _, hrun, hended, _, _, rfl, hQ, ⟨_, rfl⟩, hW, hsame.mono hk hn⟩
def FinW (s : State) (below : List Frame) (Q : Option Value → Heap → List Loc → Prop) (k n : Nat) (t : State) : Prop := ∃ o, t.status = .running ∧ Ended t below o ∧ ∃ v L, o = .returned v ∧ Q v t.heap L ∧ ReturnedEndW s o t L k n
theorem of_goW {p : Program} {e : Env} {below : List Frame} {s s₁ : State} {Q : Option Value → Heap → List Loc → Prop} {k n : Nat} {f f' : JFrame} (hf : f' = f) (h : Go p e below (FinW s below Q k n) s₁ f) :
    ∃ s₂ o, Steps p.tables e below (s₁.setTop f') s₂ ∧ s₂.status = .running ∧ Ended s₂ below o ∧ ∃ v L, o = .returned v ∧ Q v s₂.heap L ∧ ReturnedEndW s o s₂ L k n := by
  subst hf
  obtain ⟨t, h1, o, h2, h3, h4⟩ := h
  exact ⟨t, o, h1, h2, h3, h4⟩
theorem goNW {vm0 : Vm} {n1 : Nat} (hS : s.Since vm0 n1) (X : Stand p l e R (s.setVm vm0) m args below meth c T locs cells slots) (hkk : n1 ≤ T.heap.size) (hx : p.tables.exec = Jvm.exec) {pc : Nat} {Ls : Array Slot} {z : Int32} {t : FieldType} {rest : List Value} (hret : meth.sig.returnType = some t) (ht : t = .boolean ∨ t = .byte ∨ t = .char ∨ t = .short) (hlk : meth.locks = false)
    (hd : decode c.code pc = .ok (.ireturn, 1)) (hQ : Q (some (.int (nar t z))) T.heap locs) (hk : cells ≤ k) (hn : slots ≤ n) : Go p e below (FinW s below Q k n) T (mkF m pc Ls (.int z :: rest)) := by
  obtain ⟨fs, hr, hrun, hended, hW, hsame⟩ := X.leave (v := some (.int (nar t z))) (fun h => by rw [hret] at h; cases h) hlk
  obtain ⟨a1, a2, a3⟩ := hS.ended hW (show n1 ≤ (T.setFrames fs).heap.size from hkk) hsame
  exact ⟨_, Jvm.RoadKit.retN X hx hret ht hd hr, _, hrun, hended, _, _, rfl, hQ, ⟨_, rfl⟩, a1, a2, a3.mono hk hn⟩
theorem goOW {vm0 : Vm} {n1 : Nat} (hS : s.Since vm0 n1) (X : Stand p l e R (s.setVm vm0) m args below meth c T locs cells slots) (hkk : n1 ≤ T.heap.size) (hx : p.tables.exec = Jvm.exec) {pc : Nat} {Ls : Array Slot} {w : Value} {t : FieldType} {i : Instr} {rest : List Value} (hret : meth.sig.returnType = some t) (hnw : narrow t w = w)
    (hi : (i = .ireturn ∧ (t = .int ∨ t = .boolean ∨ t = .byte ∨ t = .char ∨ t = .short) ∧ ∃ z, w = .int z) ∨ (i = .lreturn ∧ t = .long ∧ ∃ z, w = .long z) ∨ (i = .dreturn ∧ t = .double ∧ ∃ z, w = .double z) ∨ (i = .freturn ∧ t = .float ∧ ∃ z, w = .float z) ∨ (i = .areturn ∧ t.isReference = true ∧ w.isRef = true)) (hlk : meth.locks = false)
    (hd : decode c.code pc = .ok (i, 1)) (hQ : Q (some w) T.heap locs) (hk : cells ≤ k) (hn : slots ≤ n) : Go p e below (FinW s below Q k n) T (mkF m pc Ls (w :: rest)) := by
  obtain ⟨fs, hr, hrun, hended, hW, hsame⟩ := X.leave (v := some w) (fun h => by rw [hret] at h; cases h) hlk
  obtain ⟨a1, a2, a3⟩ := hS.ended hW (show n1 ≤ (T.setFrames fs).heap.size from hkk) hsame
  exact ⟨_, Jvm.RoadKit.retOut X hx hret hnw hi hd hr, _, hrun, hended, _, _, rfl, hQ, ⟨_, rfl⟩, a1, a2, a3.mono hk hn⟩
theorem goIW {vm0 : Vm} {n1 : Nat} (hS : s.Since vm0 n1) (X : Stand p l e R (s.setVm vm0) m args below meth c T locs cells slots) (hkk : n1 ≤ T.heap.size) (hx : p.tables.exec = Jvm.exec) {pc : Nat} {Ls : Array Slot} {z : Int32} {rest : List Value} (hret : meth.sig.returnType = some .int) (hlk : meth.locks = false)
    (hd : decode c.code pc = .ok (.ireturn, 1)) (hQ : Q (some (.int z)) T.heap locs) (hk : cells ≤ k) (hn : slots ≤ n) : Go p e below (FinW s below Q k n) T (mkF m pc Ls (.int z :: rest)) :=
  goOW hS X hkk hx hret rfl (Or.inl ⟨rfl, Or.inl rfl, _, rfl⟩) hlk hd hQ hk hn
theorem goAW {vm0 : Vm} {n1 : Nat} (hS : s.Since vm0 n1) (X : Stand p l e R (s.setVm vm0) m args below meth c T locs cells slots) (hkk : n1 ≤ T.heap.size) (hx : p.tables.exec = Jvm.exec) {pc : Nat} {Ls : Array Slot} {w : Value} {t : FieldType} {rest : List Value} (hret : meth.sig.returnType = some t) (ht : t.isReference = true) (hw : w.isRef = true) (hlk : meth.locks = false)
    (hd : decode c.code pc = .ok (.areturn, 1)) (hQ : Q (some w) T.heap locs) (hk : cells ≤ k) (hn : slots ≤ n) : Go p e below (FinW s below Q k n) T (mkF m pc Ls (w :: rest)) :=
  goOW hS X hkk hx hret (by cases t <;> cases w <;> first | rfl | (simp [FieldType.isReference] at ht; done) | (simp [Value.isRef] at hw; done)) (Or.inr (Or.inr (Or.inr (Or.inr ⟨rfl, ht, hw⟩)))) hlk hd hQ hk hn
theorem goVW {vm0 : Vm} {n1 : Nat} (hS : s.Since vm0 n1) (X : Stand p l e R (s.setVm vm0) m args below meth c T locs cells slots) (hkk : n1 ≤ T.heap.size) (hx : p.tables.exec = Jvm.exec) {pc : Nat} {Ls : Array Slot} (hret : meth.sig.returnType = none) (hlk : meth.locks = false)
    (hd : decode c.code pc = .ok (.return_, 1)) (hQ : Q none T.heap locs) (hk : cells ≤ k) (hn : slots ≤ n) : Go p e below (FinW s below Q k n) T (mkF m pc Ls []) := by
  obtain ⟨fs, hr, hrun, hended, hW, hsame⟩ := X.leave (v := none) (fun _ => rfl) hlk
  obtain ⟨a1, a2, a3⟩ := hS.ended hW (show n1 ≤ (T.setFrames fs).heap.size from hkk) hsame
  exact ⟨_, X.returnOut hx hret hd hr, _, hrun, hended, _, _, rfl, hQ, ⟨_, rfl⟩, a1, a2, a3.mono hk hn⟩
theorem narB {z : Int32} (h : z = 0 ∨ z = 1) : nar .boolean z = z := by rcases h with rfl | rfl <;> rfl
end Ends
theorem own_eqk {args : Array Value} {s : State} {t : Term} {k : Int32} (h : (Jvm.Cond.eq t (Term.int k)).value args s none s [] = some true) : t.eval args s none [] s = some (.int k) := by
  simp only [Cond.value, Term.eval] at h
  cases ht : t.eval args s none [] s with
  | none => simp [ht] at h
  | some x => cases x <;> simp [ht] at h ⊢; exact h
def own_min (a b : Int32) : Int32 := if b < a then b else a
def own_max (a b : Int32) : Int32 := if a < b then b else a
def own_pick (F E T : Addr) (i : Int32) : Addr := if i = 0 then F else if i = 1 then E else T
def own_and (F E T : Addr) (x y : Addr) : Addr := if x = F ∨ y = F then F else if x = E ∨ y = E then E else T
def own_or (F E T : Addr) (x y : Addr) : Addr := if x = T ∨ y = T then T else if x = E ∨ y = E then E else F
def own_rank (F E T : Addr) (x : Addr) : Int32 := if x = F then 0 else if x = E then 1 else if x = T then 2 else -1
theorem own_E {Z : State} {h : Heap} {C : String} {F E T : Addr} (i : Int32) (h1 : Exa Z h F C) (h2 : Exa Z h E C) (h3 : Exa Z h T C) : Exa Z h (own_pick F E T i) C := by
  unfold own_pick; split
  · exact h1
  · split
    · exact h2
    · exact h3
theorem own_mod3 (x : Int32) : (x &&& (2147483647 : Int32)) % (3 : Int32) = 0 ∨ (x &&& (2147483647 : Int32)) % (3 : Int32) = 1 ∨ (x &&& (2147483647 : Int32)) % (3 : Int32) = 2 := by
  have h := c_and x 2147483647 (by decide)
  have h1 := (c_irem (x &&& 2147483647) 3 3 rfl).1 h.1
  simp only [← Int32.toInt_inj, Int32.reduceToInt]
  omega
theorem own_fin {F E T : Addr} (hFE : F ≠ E) (hFT : F ≠ T) (hET : E ≠ T) {i j : Int32} (hi : i = 0 ∨ i = 1 ∨ i = 2) (hj : j = 0 ∨ j = 1 ∨ j = 2) : own_rank F E T (own_and F E T (own_pick F E T i) (own_pick F E T j)) = own_min i j := by
  rcases hi with rfl | rfl | rfl <;> rcases hj with rfl | rfl | rfl <;> simp [own_rank, own_and, own_pick, own_min, hFE, hFT, hET, hFE.symm, hFT.symm, hET.symm]
theorem own_finO {F E T : Addr} (hFE : F ≠ E) (hFT : F ≠ T) (hET : E ≠ T) {i j : Int32} (hi : i = 0 ∨ i = 1 ∨ i = 2) (hj : j = 0 ∨ j = 1 ∨ j = 2) : own_rank F E T (own_or F E T (own_pick F E T i) (own_pick F E T j)) = own_max (own_rank F E T (own_pick F E T i)) (own_rank F E T (own_pick F E T j)) := by
  rcases hi with rfl | rfl | rfl <;> rcases hj with rfl | rfl | rfl <;> simp [own_rank, own_or, own_pick, own_max, hFE, hFT, hET, hFE.symm, hFT.symm, hET.symm]
theorem d1_0 : decode method_2_code 0 = .ok (.iload_n 0, 1) := by decide +kernel
theorem d1_1 : decode method_2_code 1 = .ok (.ldc 7, 2) := by decide +kernel
theorem d1_3 : decode method_2_code 3 = .ok (.iand, 1) := by decide +kernel
theorem d1_4 : decode method_2_code 4 = .ok (.iconst 3, 1) := by decide +kernel
theorem d1_5 : decode method_2_code 5 = .ok (.irem, 1) := by decide +kernel
theorem d1_6 : decode method_2_code 6 = .ok (.istore_n 1, 1) := by decide +kernel
theorem d1_7 : decode method_2_code 7 = .ok (.iload_n 1, 1) := by decide +kernel
theorem d1_8 : decode method_2_code 8 = .ok (.ifCond .ne 7, 3) := by decide +kernel
theorem d1_11 : decode method_2_code 11 = .ok (.getstatic 8, 3) := by decide +kernel
theorem d1_14 : decode method_2_code 14 = .ok (.areturn, 1) := by decide +kernel
theorem d1_15 : decode method_2_code 15 = .ok (.iload_n 1, 1) := by decide +kernel
theorem d1_16 : decode method_2_code 16 = .ok (.iconst 1, 1) := by decide +kernel
theorem d1_17 : decode method_2_code 17 = .ok (.if_icmp .ne 7, 3) := by decide +kernel
theorem d1_20 : decode method_2_code 20 = .ok (.getstatic 14, 3) := by decide +kernel
theorem d1_23 : decode method_2_code 23 = .ok (.areturn, 1) := by decide +kernel
theorem d1_24 : decode method_2_code 24 = .ok (.getstatic 17, 3) := by decide +kernel
theorem d1_27 : decode method_2_code 27 = .ok (.areturn, 1) := by decide +kernel
theorem pn_1 : plainName "com/example/bagwise/bagwise/engine/TruthOrPinLaw" = true := by first | (simp [plainName, overriddenIn]; done) | decide +kernel
theorem ef_rm1 (m : MethodId) (p1 : Int32) : entryFrame m #[(.int p1)] 2 = mkF m 0 #[.val (.int p1), .unset] [] := by first | (simp [entryFrame, mkF, argsToLocals, Value.category]; done) | rfl
def Q_rm1 (Z : State) (p1 : Int32) (s_FALSE : Addr) (s_ERROR : Addr) (s_TRUE : Addr) (h0 : Heap) (n0 : Nat) (rv : Option Value) (hq : Heap) (Lq : List Loc) : Prop := rv = some (.ref (own_pick s_FALSE s_ERROR s_TRUE ((p1 &&& (2147483647 : Int32)) % (3 : Int32)))) ∧ Fr n0 Lq ∧ hq = h0
set_option maxRecDepth 65536 in
set_option maxHeartbeats 40000000 in
theorem rm1 (l : Launch) (Z : State) (a0 : Array Value) (hw : ∀ d ∈ tables_1, d.before a0 Z = true) (ws : List Jvm.Cond) (p1 : Int32) (s_FALSE : Addr) (s_ERROR : Addr) (s_TRUE : Addr) (h0 : Heap) (n0 : Nat) (Z0 : n0 ≤ h0.size) (O0 : Old Z n0 h0) (S_FALSE : Sta Z Z.heap "com/example/bagwise/bagwise/engine/Truth" "FALSE" "Lcom/example/bagwise/bagwise/engine/Truth;" (.ref s_FALSE)) (S_TRUE : Sta Z Z.heap "com/example/bagwise/bagwise/engine/Truth" "TRUE" "Lcom/example/bagwise/bagwise/engine/Truth;" (.ref s_TRUE)) (S_ERROR : Sta Z Z.heap "com/example/bagwise/bagwise/engine/Truth" "ERROR" "Lcom/example/bagwise/bagwise/engine/Truth;" (.ref s_ERROR)) :
    MetFree l (⟨"com/example/bagwise/bagwise/engine/TruthOrPinLaw", "pick", "(I)Lcom/example/bagwise/bagwise/engine/Truth;"⟩ : MethodName) (head1 (Jvm.Cond.code (⟨"com/example/bagwise/bagwise/engine/TruthOrPinLaw", "pick", "(I)Lcom/example/bagwise/bagwise/engine/Truth;"⟩ : MethodName) method_2_code 2 (some (.object "com/example/bagwise/bagwise/engine/Truth")) :: ws) ({ frames := 0, cells := 0, slots := 0, locals := 0 } : Room)) (fun a U => a = #[(.int p1)] ∧ Z.Warmed39 U.vm ∧ U.heap = h0) (fun _ _ _ _ _ => True) (fun _ U o U' => ∃ rv Lq, o = .returned rv ∧ Q_rm1 Z p1 s_FALSE s_ERROR s_TRUE h0 n0 rv U'.heap Lq ∧ FrameEnd U o U' Lq ({ frames := 0, cells := 0, slots := 0, locals := 0 } : Room).cells ({ frames := 0, cells := 0, slots := 0, locals := 0 } : Room).slots) := by
  refine MetFree.of_bodySF (plainFor_of_name pn_1) hisR ?_
  intro p e s m args below meth c s₁ Bd hml0 hP hK
  obtain ⟨rfl, hZ, hh⟩ := hP
  have hx := Bd.exec
  have hby := Bd.bytes
  have hml : c.maxLocals = 2 := hml0
  have hown : s.vm.findClass "com/example/bagwise/bagwise/engine/TruthOrPinLaw" = some m.cls := findClass_of_methodNamed Bd.named
  have hnm := (name_of_methodNamed Bd.named Bd.method).1
  have X0 : Stand p l e ({ frames := 0, cells := 0, slots := 0, locals := 0 } : Room) s m #[(.int p1)] below meth c s₁ [] 0 0 := Stand.of_body Bd
  have e0 : s₁.heap = h0 := by rw [← hh, Bd.state]; rfl
  have N0 := Fr.nil n0
  refine of_go (ef_rm1 m p1) ?_
  refine Go.step (T' := s₁) (f' := (mkF m 1 #[.val (.int p1), .unset] [(.int p1)])) (fun _ k => XS.iloadN X0.here hx rfl (hb hby d1_0) rfl k) ?_
  refine Go.step (T' := s₁) (f' := (mkF m 3 #[.val (.int p1), .unset] [(.int (2147483647 : Int32)), (.int p1)])) (fun _ k => X0.ldcInt hx hown (mvT hZ (hw _ (List.mem_of_getElem? (i := 4) rfl))) (g := (mkF m 1 #[.val (.int p1), .unset] [(.int p1)])) rfl (hb hby d1_1) _ k) ?_
  refine Go.step (T' := s₁) (f' := (mkF m 4 #[.val (.int p1), .unset] [(.int (p1 &&& (2147483647 : Int32)))])) (fun _ k => XS.iand X0.here hx rfl (hb hby d1_3) rfl k) ?_
  refine Go.step (T' := s₁) (f' := (mkF m 5 #[.val (.int p1), .unset] [(.int (3 : Int32)), (.int (p1 &&& (2147483647 : Int32)))])) (fun _ k => XS.iconst X0.here hx rfl (hb hby d1_4) k) ?_
  refine Go.step (T' := s₁) (f' := (mkF m 6 #[.val (.int p1), .unset] [(.int ((p1 &&& (2147483647 : Int32)) % (3 : Int32)))])) (fun _ k => iremM X0 hx rfl (hb hby d1_5) rfl (by decide) k) ?_
  refine Go.step (T' := s₁) (f' := (mkF m 7 #[.val (.int p1), .val (.int ((p1 &&& (2147483647 : Int32)) % (3 : Int32)))] [])) (fun _ k => XS.istoreN X0.here hx rfl (hb hby d1_6) rfl (l' := #[.val (.int p1), .val (.int ((p1 &&& (2147483647 : Int32)) % (3 : Int32)))]) rfl k) ?_
  refine Go.step (T' := s₁) (f' := (mkF m 8 #[.val (.int p1), .val (.int ((p1 &&& (2147483647 : Int32)) % (3 : Int32)))] [(.int ((p1 &&& (2147483647 : Int32)) % (3 : Int32)))])) (fun _ k => XS.iloadN X0.here hx rfl (hb hby d1_7) rfl k) ?_
  by_cases hc8 : ((p1 &&& (2147483647 : Int32)) % (3 : Int32)) = (0 : Int32)
  · refine Go.step (T' := s₁) (f' := (mkF m 11 #[.val (.int p1), .val (.int ((p1 &&& (2147483647 : Int32)) % (3 : Int32)))] [])) (fun _ k => XS.ifNo X0.here hx rfl (hb hby d1_8) rfl ((if0 _ _).trans (teq hc8).2) k) ?_
    obtain ⟨T1, X1, e1, st1⟩ := getS2 X0 hx hZ hown (host := "") (Or.inl (hw _ (List.mem_of_getElem? (i := 5) rfl))) Via.refl e0 (S_FALSE.ext O0.2) (g := (mkF m 11 #[.val (.int p1), .val (.int ((p1 &&& (2147483647 : Int32)) % (3 : Int32)))] [])) rfl (hb hby d1_11)
    refine Go.step (T' := T1) (f' := (mkF m 14 #[.val (.int p1), .val (.int ((p1 &&& (2147483647 : Int32)) % (3 : Int32)))] [(.ref s_FALSE)])) st1 ?_
    refine goA X1 hx Bd.returns rfl rfl Bd.notSynchronized (hb hby d1_14) ?_ (by decide) (by decide)
    show Q_rm1 Z p1 s_FALSE s_ERROR s_TRUE h0 n0 _ T1.heap _
    rw [e1]
    exact ⟨by simp [own_pick, hc8], N0, rfl⟩
  · refine Go.step (T' := s₁) (f' := (mkF m 15 #[.val (.int p1), .val (.int ((p1 &&& (2147483647 : Int32)) % (3 : Int32)))] [])) (fun _ k => XS.ifYes X0.here hx rfl (pc0 := 8) (pc' := 15) rfl (hb hby d1_8) rfl ((if0 _ _).trans (feq hc8).2) (by decide) (by decide) k) ?_
    refine Go.step (T' := s₁) (f' := (mkF m 16 #[.val (.int p1), .val (.int ((p1 &&& (2147483647 : Int32)) % (3 : Int32)))] [(.int ((p1 &&& (2147483647 : Int32)) % (3 : Int32)))])) (fun _ k => XS.iloadN X0.here hx rfl (hb hby d1_15) rfl k) ?_
    refine Go.step (T' := s₁) (f' := (mkF m 17 #[.val (.int p1), .val (.int ((p1 &&& (2147483647 : Int32)) % (3 : Int32)))] [(.int (1 : Int32)), (.int ((p1 &&& (2147483647 : Int32)) % (3 : Int32)))])) (fun _ k => XS.iconst X0.here hx rfl (hb hby d1_16) k) ?_
    by_cases hc17 : ((p1 &&& (2147483647 : Int32)) % (3 : Int32)) = (1 : Int32)
    · refine Go.step (T' := s₁) (f' := (mkF m 20 #[.val (.int p1), .val (.int ((p1 &&& (2147483647 : Int32)) % (3 : Int32)))] [])) (fun _ k => XS.icmpNo X0.here hx rfl (hb hby d1_17) rfl (teq hc17).2 k) ?_
      obtain ⟨T2, X2, e2, st2⟩ := getS2 X0 hx hZ hown (host := "") (Or.inl (hw _ (List.mem_of_getElem? (i := 26) rfl))) Via.refl e0 (S_ERROR.ext O0.2) (g := (mkF m 20 #[.val (.int p1), .val (.int ((p1 &&& (2147483647 : Int32)) % (3 : Int32)))] [])) rfl (hb hby d1_20)
      refine Go.step (T' := T2) (f' := (mkF m 23 #[.val (.int p1), .val (.int ((p1 &&& (2147483647 : Int32)) % (3 : Int32)))] [(.ref s_ERROR)])) st2 ?_
      refine goA X2 hx Bd.returns rfl rfl Bd.notSynchronized (hb hby d1_23) ?_ (by decide) (by decide)
      show Q_rm1 Z p1 s_FALSE s_ERROR s_TRUE h0 n0 _ T2.heap _
      rw [e2]
      exact ⟨by simp [own_pick, hc8, hc17], N0, rfl⟩
    · refine Go.step (T' := s₁) (f' := (mkF m 24 #[.val (.int p1), .val (.int ((p1 &&& (2147483647 : Int32)) % (3 : Int32)))] [])) (fun _ k => XS.icmpYes X0.here hx rfl (pc0 := 17) (pc' := 24) rfl (hb hby d1_17) rfl (feq hc17).2 (by decide) (by decide) k) ?_
      obtain ⟨T3, X3, e3, st3⟩ := getS2 X0 hx hZ hown (host := "") (Or.inl (hw _ (List.mem_of_getElem? (i := 25) rfl))) Via.refl e0 (S_TRUE.ext O0.2) (g := (mkF m 24 #[.val (.int p1), .val (.int ((p1 &&& (2147483647 : Int32)) % (3 : Int32)))] [])) rfl (hb hby d1_24)
      refine Go.step (T' := T3) (f' := (mkF m 27 #[.val (.int p1), .val (.int ((p1 &&& (2147483647 : Int32)) % (3 : Int32)))] [(.ref s_TRUE)])) st3 ?_
      refine goA X3 hx Bd.returns rfl rfl Bd.notSynchronized (hb hby d1_27) ?_ (by decide) (by decide)
      show Q_rm1 Z p1 s_FALSE s_ERROR s_TRUE h0 n0 _ T3.heap _
      rw [e3]
      exact ⟨by simp [own_pick, hc8, hc17], N0, rfl⟩
theorem d2_0 : decode prog_92_method_7_code 0 = .ok (.aload_n 0, 1) := by decide +kernel
theorem d2_1 : decode prog_92_method_7_code 1 = .ok (.getstatic 3, 3) := by decide +kernel
theorem d2_4 : decode prog_92_method_7_code 4 = .ok (.if_acmp .eq 10, 3) := by decide +kernel
theorem d2_14 : decode prog_92_method_7_code 14 = .ok (.getstatic 3, 3) := by decide +kernel
theorem d2_17 : decode prog_92_method_7_code 17 = .ok (.astore_n 2, 1) := by decide +kernel
theorem d2_18 : decode prog_92_method_7_code 18 = .ok (.goto 28, 3) := by decide +kernel
theorem d2_46 : decode prog_92_method_7_code 46 = .ok (.aload_n 2, 1) := by decide +kernel
theorem d2_47 : decode prog_92_method_7_code 47 = .ok (.areturn, 1) := by decide +kernel
theorem d2_7 : decode prog_92_method_7_code 7 = .ok (.aload_n 1, 1) := by decide +kernel
theorem d2_8 : decode prog_92_method_7_code 8 = .ok (.getstatic 3, 3) := by decide +kernel
theorem d2_11 : decode prog_92_method_7_code 11 = .ok (.if_acmp .ne 10, 3) := by decide +kernel
theorem d2_21 : decode prog_92_method_7_code 21 = .ok (.aload_n 0, 1) := by decide +kernel
theorem d2_22 : decode prog_92_method_7_code 22 = .ok (.getstatic 10, 3) := by decide +kernel
theorem d2_25 : decode prog_92_method_7_code 25 = .ok (.if_acmp .eq 10, 3) := by decide +kernel
theorem d2_35 : decode prog_92_method_7_code 35 = .ok (.getstatic 10, 3) := by decide +kernel
theorem d2_38 : decode prog_92_method_7_code 38 = .ok (.astore_n 2, 1) := by decide +kernel
theorem d2_39 : decode prog_92_method_7_code 39 = .ok (.goto 7, 3) := by decide +kernel
theorem d2_28 : decode prog_92_method_7_code 28 = .ok (.aload_n 1, 1) := by decide +kernel
theorem d2_29 : decode prog_92_method_7_code 29 = .ok (.getstatic 10, 3) := by decide +kernel
theorem d2_32 : decode prog_92_method_7_code 32 = .ok (.if_acmp .ne 10, 3) := by decide +kernel
theorem d2_42 : decode prog_92_method_7_code 42 = .ok (.getstatic 7, 3) := by decide +kernel
theorem d2_45 : decode prog_92_method_7_code 45 = .ok (.astore_n 2, 1) := by decide +kernel
theorem pn_2 : plainName "com/example/bagwise/bagwise/engine/Truth" = true := by first | (simp [plainName, overriddenIn]; done) | decide +kernel
theorem ef_rm2 (m : MethodId) (a1 : Addr) (a2 : Addr) : entryFrame m #[(.ref a1), (.ref a2)] 3 = mkF m 0 #[.val (.ref a1), .val (.ref a2), .unset] [] := by first | (simp [entryFrame, mkF, argsToLocals, Value.category]; done) | rfl
def Q_rm2 (Z : State) (a1 : Addr) (a2 : Addr) (s_FALSE : Addr) (s_ERROR : Addr) (s_TRUE : Addr) (h0 : Heap) (n0 : Nat) (rv : Option Value) (hq : Heap) (Lq : List Loc) : Prop := rv = some (.ref (own_or s_FALSE s_ERROR s_TRUE a1 a2)) ∧ Fr n0 Lq ∧ hq = h0
set_option maxRecDepth 65536 in
set_option maxHeartbeats 40000000 in
theorem rm2 (l : Launch) (Z : State) (a0 : Array Value) (hw : ∀ d ∈ tables_1, d.before a0 Z = true) (ws : List Jvm.Cond) (a1 : Addr) (a2 : Addr) (s_FALSE : Addr) (s_ERROR : Addr) (s_TRUE : Addr) (h0 : Heap) (n0 : Nat) (Z0 : n0 ≤ h0.size) (O0 : Old Z n0 h0) (S_FALSE : Sta Z Z.heap "com/example/bagwise/bagwise/engine/Truth" "FALSE" "Lcom/example/bagwise/bagwise/engine/Truth;" (.ref s_FALSE)) (S_TRUE : Sta Z Z.heap "com/example/bagwise/bagwise/engine/Truth" "TRUE" "Lcom/example/bagwise/bagwise/engine/Truth;" (.ref s_TRUE)) (S_ERROR : Sta Z Z.heap "com/example/bagwise/bagwise/engine/Truth" "ERROR" "Lcom/example/bagwise/bagwise/engine/Truth;" (.ref s_ERROR)) :
    MetFree l (⟨"com/example/bagwise/bagwise/engine/Truth", "or", "(Lcom/example/bagwise/bagwise/engine/Truth;)Lcom/example/bagwise/bagwise/engine/Truth;"⟩ : MethodName) (head1 (Jvm.Cond.code (⟨"com/example/bagwise/bagwise/engine/Truth", "or", "(Lcom/example/bagwise/bagwise/engine/Truth;)Lcom/example/bagwise/bagwise/engine/Truth;"⟩ : MethodName) prog_92_method_7_code 3 (some (.object "com/example/bagwise/bagwise/engine/Truth")) :: ws) ({ frames := 0, cells := 0, slots := 0, locals := 0 } : Room)) (fun a U => a = #[(.ref a1), (.ref a2)] ∧ Z.Warmed39 U.vm ∧ U.heap = h0) (fun _ _ _ _ _ => True) (fun _ U o U' => ∃ rv Lq, o = .returned rv ∧ Q_rm2 Z a1 a2 s_FALSE s_ERROR s_TRUE h0 n0 rv U'.heap Lq ∧ FrameEnd U o U' Lq ({ frames := 0, cells := 0, slots := 0, locals := 0 } : Room).cells ({ frames := 0, cells := 0, slots := 0, locals := 0 } : Room).slots) := by
  refine MetFree.of_bodySF (plainFor_of_name pn_2) hisR ?_
  intro p e s m args below meth c s₁ Bd hml0 hP hK
  obtain ⟨rfl, hZ, hh⟩ := hP
  have hx := Bd.exec
  have hby := Bd.bytes
  have hml : c.maxLocals = 3 := hml0
  have hown : s.vm.findClass "com/example/bagwise/bagwise/engine/Truth" = some m.cls := findClass_of_methodNamed Bd.named
  have hnm := (name_of_methodNamed Bd.named Bd.method).1
  have X0 : Stand p l e ({ frames := 0, cells := 0, slots := 0, locals := 0 } : Room) s m #[(.ref a1), (.ref a2)] below meth c s₁ [] 0 0 := Stand.of_body Bd
  have e0 : s₁.heap = h0 := by rw [← hh, Bd.state]; rfl
  have N0 := Fr.nil n0
  refine of_go (ef_rm2 m a1 a2) ?_
  refine Go.step (T' := s₁) (f' := (mkF m 1 #[.val (.ref a1), .val (.ref a2), .unset] [(.ref a1)])) (fun _ k => XS.aloadN X0.here hx rfl (hb hby d2_0) rfl rfl k) ?_
  obtain ⟨T1, X1, e1, st1⟩ := getS2 X0 hx hZ hown (host := "") (Or.inl (hw _ (List.mem_of_getElem? (i := 13) rfl))) Via.refl e0 (S_TRUE.ext O0.2) (g := (mkF m 1 #[.val (.ref a1), .val (.ref a2), .unset] [(.ref a1)])) rfl (hb hby d2_1)
  refine Go.step (T' := T1) (f' := (mkF m 4 #[.val (.ref a1), .val (.ref a2), .unset] [(.ref s_TRUE), (.ref a1)])) st1 ?_
  by_cases ha4 : a1 = s_TRUE
  · refine Go.step (T' := T1) (f' := (mkF m 14 #[.val (.ref a1), .val (.ref a2), .unset] [])) (fun _ k => Jvm.RoadKit.acmp (g := (mkF m 4 #[.val (.ref a1), .val (.ref a2), .unset] [(.ref s_TRUE), (.ref a1)])) X1 hx rfl rfl rfl (pc0 := 4) (pc' := 14) (same := true) rfl (hb hby d2_4) rfl (decide_eq_true (congrArg Value.ref ha4)) (by decide) (by decide) k) ?_
    obtain ⟨T2, X2, e2, st2⟩ := getS2 X1 hx hZ hown (host := "") (Or.inl (hw _ (List.mem_of_getElem? (i := 13) rfl))) Via.refl e1 (S_TRUE.ext O0.2) (g := (mkF m 14 #[.val (.ref a1), .val (.ref a2), .unset] [])) rfl (hb hby d2_14)
    refine Go.step (T' := T2) (f' := (mkF m 17 #[.val (.ref a1), .val (.ref a2), .unset] [(.ref s_TRUE)])) st2 ?_
    refine Go.step (T' := T2) (f' := (mkF m 18 #[.val (.ref a1), .val (.ref a2), .val (.ref s_TRUE)] [])) (fun _ k => XS.astoreN X2.here hx rfl (hb hby d2_17) rfl rfl (l' := #[.val (.ref a1), .val (.ref a2), .val (.ref s_TRUE)]) rfl k) ?_
    refine Go.step (T' := T2) (f' := (mkF m 46 #[.val (.ref a1), .val (.ref a2), .val (.ref s_TRUE)] [])) (fun _ k => XS.goto X2.here hx rfl (pc0 := 18) (pc' := 46) rfl (hb hby d2_18) (by decide) (by decide) k) ?_
    refine Go.step (T' := T2) (f' := (mkF m 47 #[.val (.ref a1), .val (.ref a2), .val (.ref s_TRUE)] [(.ref s_TRUE)])) (fun _ k => XS.aloadN X2.here hx rfl (hb hby d2_46) rfl rfl k) ?_
    refine goA X2 hx Bd.returns rfl rfl Bd.notSynchronized (hb hby d2_47) ?_ (by decide) (by decide)
    show Q_rm2 Z a1 a2 s_FALSE s_ERROR s_TRUE h0 n0 _ T2.heap _
    rw [e2]
    exact ⟨by simp [own_or, ha4], N0, rfl⟩
  · refine Go.step (T' := T1) (f' := (mkF m 7 #[.val (.ref a1), .val (.ref a2), .unset] [])) (fun _ k => Jvm.RoadKit.acmp (g := (mkF m 4 #[.val (.ref a1), .val (.ref a2), .unset] [(.ref s_TRUE), (.ref a1)])) X1 hx rfl rfl rfl (pc0 := 4) (pc' := 7) (same := false) rfl (hb hby d2_4) rfl (decide_eq_false fun q => ha4 (Value.ref.inj q)) (by decide) (by decide) k) ?_
    refine Go.step (T' := T1) (f' := (mkF m 8 #[.val (.ref a1), .val (.ref a2), .unset] [(.ref a2)])) (fun _ k => XS.aloadN X1.here hx rfl (hb hby d2_7) rfl rfl k) ?_
    obtain ⟨T3, X3, e3, st3⟩ := getS2 X1 hx hZ hown (host := "") (Or.inl (hw _ (List.mem_of_getElem? (i := 13) rfl))) Via.refl e1 (S_TRUE.ext O0.2) (g := (mkF m 8 #[.val (.ref a1), .val (.ref a2), .unset] [(.ref a2)])) rfl (hb hby d2_8)
    refine Go.step (T' := T3) (f' := (mkF m 11 #[.val (.ref a1), .val (.ref a2), .unset] [(.ref s_TRUE), (.ref a2)])) st3 ?_
    by_cases ha11 : a2 = s_TRUE
    · refine Go.step (T' := T3) (f' := (mkF m 14 #[.val (.ref a1), .val (.ref a2), .unset] [])) (fun _ k => Jvm.RoadKit.acmp (g := (mkF m 11 #[.val (.ref a1), .val (.ref a2), .unset] [(.ref s_TRUE), (.ref a2)])) X3 hx rfl rfl rfl (pc0 := 11) (pc' := 14) (same := true) rfl (hb hby d2_11) rfl (decide_eq_true (congrArg Value.ref ha11)) (by decide) (by decide) k) ?_
      obtain ⟨T4, X4, e4, st4⟩ := getS2 X3 hx hZ hown (host := "") (Or.inl (hw _ (List.mem_of_getElem? (i := 13) rfl))) Via.refl e3 (S_TRUE.ext O0.2) (g := (mkF m 14 #[.val (.ref a1), .val (.ref a2), .unset] [])) rfl (hb hby d2_14)
      refine Go.step (T' := T4) (f' := (mkF m 17 #[.val (.ref a1), .val (.ref a2), .unset] [(.ref s_TRUE)])) st4 ?_
      refine Go.step (T' := T4) (f' := (mkF m 18 #[.val (.ref a1), .val (.ref a2), .val (.ref s_TRUE)] [])) (fun _ k => XS.astoreN X4.here hx rfl (hb hby d2_17) rfl rfl (l' := #[.val (.ref a1), .val (.ref a2), .val (.ref s_TRUE)]) rfl k) ?_
      refine Go.step (T' := T4) (f' := (mkF m 46 #[.val (.ref a1), .val (.ref a2), .val (.ref s_TRUE)] [])) (fun _ k => XS.goto X4.here hx rfl (pc0 := 18) (pc' := 46) rfl (hb hby d2_18) (by decide) (by decide) k) ?_
      refine Go.step (T' := T4) (f' := (mkF m 47 #[.val (.ref a1), .val (.ref a2), .val (.ref s_TRUE)] [(.ref s_TRUE)])) (fun _ k => XS.aloadN X4.here hx rfl (hb hby d2_46) rfl rfl k) ?_
      refine goA X4 hx Bd.returns rfl rfl Bd.notSynchronized (hb hby d2_47) ?_ (by decide) (by decide)
      show Q_rm2 Z a1 a2 s_FALSE s_ERROR s_TRUE h0 n0 _ T4.heap _
      rw [e4]
      exact ⟨by simp [own_or, ha4, ha11], N0, rfl⟩
    · refine Go.step (T' := T3) (f' := (mkF m 21 #[.val (.ref a1), .val (.ref a2), .unset] [])) (fun _ k => Jvm.RoadKit.acmp (g := (mkF m 11 #[.val (.ref a1), .val (.ref a2), .unset] [(.ref s_TRUE), (.ref a2)])) X3 hx rfl rfl rfl (pc0 := 11) (pc' := 21) (same := false) rfl (hb hby d2_11) rfl (decide_eq_false fun q => ha11 (Value.ref.inj q)) (by decide) (by decide) k) ?_
      refine Go.step (T' := T3) (f' := (mkF m 22 #[.val (.ref a1), .val (.ref a2), .unset] [(.ref a1)])) (fun _ k => XS.aloadN X3.here hx rfl (hb hby d2_21) rfl rfl k) ?_
      obtain ⟨T5, X5, e5, st5⟩ := getS2 X3 hx hZ hown (host := "") (Or.inl (hw _ (List.mem_of_getElem? (i := 15) rfl))) Via.refl e3 (S_ERROR.ext O0.2) (g := (mkF m 22 #[.val (.ref a1), .val (.ref a2), .unset] [(.ref a1)])) rfl (hb hby d2_22)
      refine Go.step (T' := T5) (f' := (mkF m 25 #[.val (.ref a1), .val (.ref a2), .unset] [(.ref s_ERROR), (.ref a1)])) st5 ?_
      by_cases ha25 : a1 = s_ERROR
      · refine Go.step (T' := T5) (f' := (mkF m 35 #[.val (.ref a1), .val (.ref a2), .unset] [])) (fun _ k => Jvm.RoadKit.acmp (g := (mkF m 25 #[.val (.ref a1), .val (.ref a2), .unset] [(.ref s_ERROR), (.ref a1)])) X5 hx rfl rfl rfl (pc0 := 25) (pc' := 35) (same := true) rfl (hb hby d2_25) rfl (decide_eq_true (congrArg Value.ref ha25)) (by decide) (by decide) k) ?_
        obtain ⟨T6, X6, e6, st6⟩ := getS2 X5 hx hZ hown (host := "") (Or.inl (hw _ (List.mem_of_getElem? (i := 15) rfl))) Via.refl e5 (S_ERROR.ext O0.2) (g := (mkF m 35 #[.val (.ref a1), .val (.ref a2), .unset] [])) rfl (hb hby d2_35)
        refine Go.step (T' := T6) (f' := (mkF m 38 #[.val (.ref a1), .val (.ref a2), .unset] [(.ref s_ERROR)])) st6 ?_
        refine Go.step (T' := T6) (f' := (mkF m 39 #[.val (.ref a1), .val (.ref a2), .val (.ref s_ERROR)] [])) (fun _ k => XS.astoreN X6.here hx rfl (hb hby d2_38) rfl rfl (l' := #[.val (.ref a1), .val (.ref a2), .val (.ref s_ERROR)]) rfl k) ?_
        refine Go.step (T' := T6) (f' := (mkF m 46 #[.val (.ref a1), .val (.ref a2), .val (.ref s_ERROR)] [])) (fun _ k => XS.goto X6.here hx rfl (pc0 := 39) (pc' := 46) rfl (hb hby d2_39) (by decide) (by decide) k) ?_
        refine Go.step (T' := T6) (f' := (mkF m 47 #[.val (.ref a1), .val (.ref a2), .val (.ref s_ERROR)] [(.ref s_ERROR)])) (fun _ k => XS.aloadN X6.here hx rfl (hb hby d2_46) rfl rfl k) ?_
        refine goA X6 hx Bd.returns rfl rfl Bd.notSynchronized (hb hby d2_47) ?_ (by decide) (by decide)
        show Q_rm2 Z a1 a2 s_FALSE s_ERROR s_TRUE h0 n0 _ T6.heap _
        rw [e6]
        exact ⟨by simp [own_or, ha4, ha11, ha25], N0, rfl⟩
      · refine Go.step (T' := T5) (f' := (mkF m 28 #[.val (.ref a1), .val (.ref a2), .unset] [])) (fun _ k => Jvm.RoadKit.acmp (g := (mkF m 25 #[.val (.ref a1), .val (.ref a2), .unset] [(.ref s_ERROR), (.ref a1)])) X5 hx rfl rfl rfl (pc0 := 25) (pc' := 28) (same := false) rfl (hb hby d2_25) rfl (decide_eq_false fun q => ha25 (Value.ref.inj q)) (by decide) (by decide) k) ?_
        refine Go.step (T' := T5) (f' := (mkF m 29 #[.val (.ref a1), .val (.ref a2), .unset] [(.ref a2)])) (fun _ k => XS.aloadN X5.here hx rfl (hb hby d2_28) rfl rfl k) ?_
        obtain ⟨T7, X7, e7, st7⟩ := getS2 X5 hx hZ hown (host := "") (Or.inl (hw _ (List.mem_of_getElem? (i := 15) rfl))) Via.refl e5 (S_ERROR.ext O0.2) (g := (mkF m 29 #[.val (.ref a1), .val (.ref a2), .unset] [(.ref a2)])) rfl (hb hby d2_29)
        refine Go.step (T' := T7) (f' := (mkF m 32 #[.val (.ref a1), .val (.ref a2), .unset] [(.ref s_ERROR), (.ref a2)])) st7 ?_
        by_cases ha32 : a2 = s_ERROR
        · refine Go.step (T' := T7) (f' := (mkF m 35 #[.val (.ref a1), .val (.ref a2), .unset] [])) (fun _ k => Jvm.RoadKit.acmp (g := (mkF m 32 #[.val (.ref a1), .val (.ref a2), .unset] [(.ref s_ERROR), (.ref a2)])) X7 hx rfl rfl rfl (pc0 := 32) (pc' := 35) (same := true) rfl (hb hby d2_32) rfl (decide_eq_true (congrArg Value.ref ha32)) (by decide) (by decide) k) ?_
          obtain ⟨T8, X8, e8, st8⟩ := getS2 X7 hx hZ hown (host := "") (Or.inl (hw _ (List.mem_of_getElem? (i := 15) rfl))) Via.refl e7 (S_ERROR.ext O0.2) (g := (mkF m 35 #[.val (.ref a1), .val (.ref a2), .unset] [])) rfl (hb hby d2_35)
          refine Go.step (T' := T8) (f' := (mkF m 38 #[.val (.ref a1), .val (.ref a2), .unset] [(.ref s_ERROR)])) st8 ?_
          refine Go.step (T' := T8) (f' := (mkF m 39 #[.val (.ref a1), .val (.ref a2), .val (.ref s_ERROR)] [])) (fun _ k => XS.astoreN X8.here hx rfl (hb hby d2_38) rfl rfl (l' := #[.val (.ref a1), .val (.ref a2), .val (.ref s_ERROR)]) rfl k) ?_
          refine Go.step (T' := T8) (f' := (mkF m 46 #[.val (.ref a1), .val (.ref a2), .val (.ref s_ERROR)] [])) (fun _ k => XS.goto X8.here hx rfl (pc0 := 39) (pc' := 46) rfl (hb hby d2_39) (by decide) (by decide) k) ?_
          refine Go.step (T' := T8) (f' := (mkF m 47 #[.val (.ref a1), .val (.ref a2), .val (.ref s_ERROR)] [(.ref s_ERROR)])) (fun _ k => XS.aloadN X8.here hx rfl (hb hby d2_46) rfl rfl k) ?_
          refine goA X8 hx Bd.returns rfl rfl Bd.notSynchronized (hb hby d2_47) ?_ (by decide) (by decide)
          show Q_rm2 Z a1 a2 s_FALSE s_ERROR s_TRUE h0 n0 _ T8.heap _
          rw [e8]
          exact ⟨by simp [own_or, ha4, ha11, ha25, ha32], N0, rfl⟩
        · refine Go.step (T' := T7) (f' := (mkF m 42 #[.val (.ref a1), .val (.ref a2), .unset] [])) (fun _ k => Jvm.RoadKit.acmp (g := (mkF m 32 #[.val (.ref a1), .val (.ref a2), .unset] [(.ref s_ERROR), (.ref a2)])) X7 hx rfl rfl rfl (pc0 := 32) (pc' := 42) (same := false) rfl (hb hby d2_32) rfl (decide_eq_false fun q => ha32 (Value.ref.inj q)) (by decide) (by decide) k) ?_
          obtain ⟨T9, X9, e9, st9⟩ := getS2 X7 hx hZ hown (host := "") (Or.inl (hw _ (List.mem_of_getElem? (i := 17) rfl))) Via.refl e7 (S_FALSE.ext O0.2) (g := (mkF m 42 #[.val (.ref a1), .val (.ref a2), .unset] [])) rfl (hb hby d2_42)
          refine Go.step (T' := T9) (f' := (mkF m 45 #[.val (.ref a1), .val (.ref a2), .unset] [(.ref s_FALSE)])) st9 ?_
          refine Go.step (T' := T9) (f' := (mkF m 46 #[.val (.ref a1), .val (.ref a2), .val (.ref s_FALSE)] [])) (fun _ k => XS.astoreN X9.here hx rfl (hb hby d2_45) rfl rfl (l' := #[.val (.ref a1), .val (.ref a2), .val (.ref s_FALSE)]) rfl k) ?_
          refine Go.step (T' := T9) (f' := (mkF m 47 #[.val (.ref a1), .val (.ref a2), .val (.ref s_FALSE)] [(.ref s_FALSE)])) (fun _ k => XS.aloadN X9.here hx rfl (hb hby d2_46) rfl rfl k) ?_
          refine goA X9 hx Bd.returns rfl rfl Bd.notSynchronized (hb hby d2_47) ?_ (by decide) (by decide)
          show Q_rm2 Z a1 a2 s_FALSE s_ERROR s_TRUE h0 n0 _ T9.heap _
          rw [e9]
          exact ⟨by simp [own_or, ha4, ha11, ha25, ha32], N0, rfl⟩
theorem d3_0 : decode method_3_code 0 = .ok (.aload_n 0, 1) := by decide +kernel
theorem d3_1 : decode method_3_code 1 = .ok (.getstatic 8, 3) := by decide +kernel
theorem d3_4 : decode method_3_code 4 = .ok (.if_acmp .ne 5, 3) := by decide +kernel
theorem d3_7 : decode method_3_code 7 = .ok (.iconst 0, 1) := by decide +kernel
theorem d3_8 : decode method_3_code 8 = .ok (.ireturn, 1) := by decide +kernel
theorem d3_9 : decode method_3_code 9 = .ok (.aload_n 0, 1) := by decide +kernel
theorem d3_10 : decode method_3_code 10 = .ok (.getstatic 14, 3) := by decide +kernel
theorem d3_13 : decode method_3_code 13 = .ok (.if_acmp .ne 5, 3) := by decide +kernel
theorem d3_16 : decode method_3_code 16 = .ok (.iconst 1, 1) := by decide +kernel
theorem d3_17 : decode method_3_code 17 = .ok (.ireturn, 1) := by decide +kernel
theorem d3_18 : decode method_3_code 18 = .ok (.aload_n 0, 1) := by decide +kernel
theorem d3_19 : decode method_3_code 19 = .ok (.getstatic 17, 3) := by decide +kernel
theorem d3_22 : decode method_3_code 22 = .ok (.if_acmp .ne 5, 3) := by decide +kernel
theorem d3_25 : decode method_3_code 25 = .ok (.iconst 2, 1) := by decide +kernel
theorem d3_26 : decode method_3_code 26 = .ok (.ireturn, 1) := by decide +kernel
theorem d3_27 : decode method_3_code 27 = .ok (.iconst (-1), 1) := by decide +kernel
theorem d3_28 : decode method_3_code 28 = .ok (.ireturn, 1) := by decide +kernel
theorem ef_rm3 (m : MethodId) (a1 : Addr) : entryFrame m #[(.ref a1)] 1 = mkF m 0 #[.val (.ref a1)] [] := by first | (simp [entryFrame, mkF, argsToLocals, Value.category]; done) | rfl
def Q_rm3 (Z : State) (a1 : Addr) (s_FALSE : Addr) (s_ERROR : Addr) (s_TRUE : Addr) (h0 : Heap) (n0 : Nat) (rv : Option Value) (hq : Heap) (Lq : List Loc) : Prop := rv = some (.int (own_rank s_FALSE s_ERROR s_TRUE a1)) ∧ Fr n0 Lq ∧ hq = h0
set_option maxRecDepth 65536 in
set_option maxHeartbeats 40000000 in
theorem rm3 (l : Launch) (Z : State) (a0 : Array Value) (hw : ∀ d ∈ tables_1, d.before a0 Z = true) (ws : List Jvm.Cond) (a1 : Addr) (s_FALSE : Addr) (s_ERROR : Addr) (s_TRUE : Addr) (h0 : Heap) (n0 : Nat) (Z0 : n0 ≤ h0.size) (O0 : Old Z n0 h0) (S_FALSE : Sta Z Z.heap "com/example/bagwise/bagwise/engine/Truth" "FALSE" "Lcom/example/bagwise/bagwise/engine/Truth;" (.ref s_FALSE)) (S_TRUE : Sta Z Z.heap "com/example/bagwise/bagwise/engine/Truth" "TRUE" "Lcom/example/bagwise/bagwise/engine/Truth;" (.ref s_TRUE)) (S_ERROR : Sta Z Z.heap "com/example/bagwise/bagwise/engine/Truth" "ERROR" "Lcom/example/bagwise/bagwise/engine/Truth;" (.ref s_ERROR)) :
    MetFree l (⟨"com/example/bagwise/bagwise/engine/TruthOrPinLaw", "rank", "(Lcom/example/bagwise/bagwise/engine/Truth;)I"⟩ : MethodName) (head1 (Jvm.Cond.code (⟨"com/example/bagwise/bagwise/engine/TruthOrPinLaw", "rank", "(Lcom/example/bagwise/bagwise/engine/Truth;)I"⟩ : MethodName) method_3_code 1 (some .int) :: ws) ({ frames := 0, cells := 0, slots := 0, locals := 0 } : Room)) (fun a U => a = #[(.ref a1)] ∧ Z.Warmed39 U.vm ∧ U.heap = h0) (fun _ _ _ _ _ => True) (fun _ U o U' => ∃ rv Lq, o = .returned rv ∧ Q_rm3 Z a1 s_FALSE s_ERROR s_TRUE h0 n0 rv U'.heap Lq ∧ FrameEnd U o U' Lq ({ frames := 0, cells := 0, slots := 0, locals := 0 } : Room).cells ({ frames := 0, cells := 0, slots := 0, locals := 0 } : Room).slots) := by
  refine MetFree.of_bodySF (plainFor_of_name pn_1) hisR ?_
  intro p e s m args below meth c s₁ Bd hml0 hP hK
  obtain ⟨rfl, hZ, hh⟩ := hP
  have hx := Bd.exec
  have hby := Bd.bytes
  have hml : c.maxLocals = 1 := hml0
  have hown : s.vm.findClass "com/example/bagwise/bagwise/engine/TruthOrPinLaw" = some m.cls := findClass_of_methodNamed Bd.named
  have hnm := (name_of_methodNamed Bd.named Bd.method).1
  have X0 : Stand p l e ({ frames := 0, cells := 0, slots := 0, locals := 0 } : Room) s m #[(.ref a1)] below meth c s₁ [] 0 0 := Stand.of_body Bd
  have e0 : s₁.heap = h0 := by rw [← hh, Bd.state]; rfl
  have N0 := Fr.nil n0
  refine of_go (ef_rm3 m a1) ?_
  refine Go.step (T' := s₁) (f' := (mkF m 1 #[.val (.ref a1)] [(.ref a1)])) (fun _ k => XS.aloadN X0.here hx rfl (hb hby d3_0) rfl rfl k) ?_
  obtain ⟨T1, X1, e1, st1⟩ := getS2 X0 hx hZ hown (host := "") (Or.inl (hw _ (List.mem_of_getElem? (i := 5) rfl))) Via.refl e0 (S_FALSE.ext O0.2) (g := (mkF m 1 #[.val (.ref a1)] [(.ref a1)])) rfl (hb hby d3_1)
  refine Go.step (T' := T1) (f' := (mkF m 4 #[.val (.ref a1)] [(.ref s_FALSE), (.ref a1)])) st1 ?_
  by_cases ha4 : a1 = s_FALSE
  · refine Go.step (T' := T1) (f' := (mkF m 7 #[.val (.ref a1)] [])) (fun _ k => Jvm.RoadKit.acmp (g := (mkF m 4 #[.val (.ref a1)] [(.ref s_FALSE), (.ref a1)])) X1 hx rfl rfl rfl (pc0 := 4) (pc' := 7) (same := true) rfl (hb hby d3_4) rfl (decide_eq_true (congrArg Value.ref ha4)) (by decide) (by decide) k) ?_
    refine Go.step (T' := T1) (f' := (mkF m 8 #[.val (.ref a1)] [(.int (0 : Int32))])) (fun _ k => XS.iconst X1.here hx rfl (hb hby d3_7) k) ?_
    refine goI X1 hx Bd.returns Bd.notSynchronized (hb hby d3_8) ?_ (by decide) (by decide)
    show Q_rm3 Z a1 s_FALSE s_ERROR s_TRUE h0 n0 _ T1.heap _
    rw [e1]
    exact ⟨by rw [own_rank, if_pos ha4], N0, rfl⟩
  · refine Go.step (T' := T1) (f' := (mkF m 9 #[.val (.ref a1)] [])) (fun _ k => Jvm.RoadKit.acmp (g := (mkF m 4 #[.val (.ref a1)] [(.ref s_FALSE), (.ref a1)])) X1 hx rfl rfl rfl (pc0 := 4) (pc' := 9) (same := false) rfl (hb hby d3_4) rfl (decide_eq_false fun q => ha4 (Value.ref.inj q)) (by decide) (by decide) k) ?_
    refine Go.step (T' := T1) (f' := (mkF m 10 #[.val (.ref a1)] [(.ref a1)])) (fun _ k => XS.aloadN X1.here hx rfl (hb hby d3_9) rfl rfl k) ?_
    obtain ⟨T2, X2, e2, st2⟩ := getS2 X1 hx hZ hown (host := "") (Or.inl (hw _ (List.mem_of_getElem? (i := 26) rfl))) Via.refl e1 (S_ERROR.ext O0.2) (g := (mkF m 10 #[.val (.ref a1)] [(.ref a1)])) rfl (hb hby d3_10)
    refine Go.step (T' := T2) (f' := (mkF m 13 #[.val (.ref a1)] [(.ref s_ERROR), (.ref a1)])) st2 ?_
    by_cases ha13 : a1 = s_ERROR
    · refine Go.step (T' := T2) (f' := (mkF m 16 #[.val (.ref a1)] [])) (fun _ k => Jvm.RoadKit.acmp (g := (mkF m 13 #[.val (.ref a1)] [(.ref s_ERROR), (.ref a1)])) X2 hx rfl rfl rfl (pc0 := 13) (pc' := 16) (same := true) rfl (hb hby d3_13) rfl (decide_eq_true (congrArg Value.ref ha13)) (by decide) (by decide) k) ?_
      refine Go.step (T' := T2) (f' := (mkF m 17 #[.val (.ref a1)] [(.int (1 : Int32))])) (fun _ k => XS.iconst X2.here hx rfl (hb hby d3_16) k) ?_
      refine goI X2 hx Bd.returns Bd.notSynchronized (hb hby d3_17) ?_ (by decide) (by decide)
      show Q_rm3 Z a1 s_FALSE s_ERROR s_TRUE h0 n0 _ T2.heap _
      rw [e2]
      exact ⟨by rw [own_rank, if_neg ha4, if_pos ha13], N0, rfl⟩
    · refine Go.step (T' := T2) (f' := (mkF m 18 #[.val (.ref a1)] [])) (fun _ k => Jvm.RoadKit.acmp (g := (mkF m 13 #[.val (.ref a1)] [(.ref s_ERROR), (.ref a1)])) X2 hx rfl rfl rfl (pc0 := 13) (pc' := 18) (same := false) rfl (hb hby d3_13) rfl (decide_eq_false fun q => ha13 (Value.ref.inj q)) (by decide) (by decide) k) ?_
      refine Go.step (T' := T2) (f' := (mkF m 19 #[.val (.ref a1)] [(.ref a1)])) (fun _ k => XS.aloadN X2.here hx rfl (hb hby d3_18) rfl rfl k) ?_
      obtain ⟨T3, X3, e3, st3⟩ := getS2 X2 hx hZ hown (host := "") (Or.inl (hw _ (List.mem_of_getElem? (i := 25) rfl))) Via.refl e2 (S_TRUE.ext O0.2) (g := (mkF m 19 #[.val (.ref a1)] [(.ref a1)])) rfl (hb hby d3_19)
      refine Go.step (T' := T3) (f' := (mkF m 22 #[.val (.ref a1)] [(.ref s_TRUE), (.ref a1)])) st3 ?_
      by_cases ha22 : a1 = s_TRUE
      · refine Go.step (T' := T3) (f' := (mkF m 25 #[.val (.ref a1)] [])) (fun _ k => Jvm.RoadKit.acmp (g := (mkF m 22 #[.val (.ref a1)] [(.ref s_TRUE), (.ref a1)])) X3 hx rfl rfl rfl (pc0 := 22) (pc' := 25) (same := true) rfl (hb hby d3_22) rfl (decide_eq_true (congrArg Value.ref ha22)) (by decide) (by decide) k) ?_
        refine Go.step (T' := T3) (f' := (mkF m 26 #[.val (.ref a1)] [(.int (2 : Int32))])) (fun _ k => XS.iconst X3.here hx rfl (hb hby d3_25) k) ?_
        refine goI X3 hx Bd.returns Bd.notSynchronized (hb hby d3_26) ?_ (by decide) (by decide)
        show Q_rm3 Z a1 s_FALSE s_ERROR s_TRUE h0 n0 _ T3.heap _
        rw [e3]
        exact ⟨by rw [own_rank, if_neg ha4, if_neg ha13, if_pos ha22], N0, rfl⟩
      · refine Go.step (T' := T3) (f' := (mkF m 27 #[.val (.ref a1)] [])) (fun _ k => Jvm.RoadKit.acmp (g := (mkF m 22 #[.val (.ref a1)] [(.ref s_TRUE), (.ref a1)])) X3 hx rfl rfl rfl (pc0 := 22) (pc' := 27) (same := false) rfl (hb hby d3_22) rfl (decide_eq_false fun q => ha22 (Value.ref.inj q)) (by decide) (by decide) k) ?_
        refine Go.step (T' := T3) (f' := (mkF m 28 #[.val (.ref a1)] [(.int (-1 : Int32))])) (fun _ k => XS.iconst X3.here hx rfl (hb hby d3_27) k) ?_
        refine goI X3 hx Bd.returns Bd.notSynchronized (hb hby d3_28) ?_ (by decide) (by decide)
        show Q_rm3 Z a1 s_FALSE s_ERROR s_TRUE h0 n0 _ T3.heap _
        rw [e3]
        exact ⟨by rw [own_rank, if_neg ha4, if_neg ha13, if_neg ha22], N0, rfl⟩
theorem d4_0 : decode jdk_29_method_65_code 0 = .ok (.iload_n 0, 1) := by decide +kernel
theorem d4_1 : decode jdk_29_method_65_code 1 = .ok (.iload_n 1, 1) := by decide +kernel
theorem d4_2 : decode jdk_29_method_65_code 2 = .ok (.if_icmp .lt 7, 3) := by decide +kernel
theorem d4_9 : decode jdk_29_method_65_code 9 = .ok (.iload_n 1, 1) := by decide +kernel
theorem d4_10 : decode jdk_29_method_65_code 10 = .ok (.ireturn, 1) := by decide +kernel
theorem d4_5 : decode jdk_29_method_65_code 5 = .ok (.iload_n 0, 1) := by decide +kernel
theorem d4_6 : decode jdk_29_method_65_code 6 = .ok (.goto 4, 3) := by decide +kernel
theorem ef_rm4 (m : MethodId) (p1 : Int32) (p2 : Int32) : entryFrame m #[(.int p1), (.int p2)] 2 = mkF m 0 #[.val (.int p1), .val (.int p2)] [] := by first | (simp [entryFrame, mkF, argsToLocals, Value.category]; done) | rfl
def Q_rm4 (Z : State) (p1 : Int32) (p2 : Int32) (h0 : Heap) (n0 : Nat) (rv : Option Value) (hq : Heap) (Lq : List Loc) : Prop := rv = some (.int (own_max p1 p2)) ∧ Fr n0 Lq ∧ hq = h0
set_option maxRecDepth 65536 in
set_option maxHeartbeats 40000000 in
theorem rm4 (l : Launch) (Z : State) (a0 : Array Value) (hw : ∀ d ∈ tables_1, d.before a0 Z = true) (ws : List Jvm.Cond) (p1 : Int32) (p2 : Int32) (h0 : Heap) (n0 : Nat) (Z0 : n0 ≤ h0.size) :
    MetFree l (⟨"java/lang/Math", "max", "(II)I"⟩ : MethodName) (head1 (Jvm.Cond.code (⟨"java/lang/Math", "max", "(II)I"⟩ : MethodName) jdk_29_method_65_code 2 (some .int) :: ws) ({ frames := 0, cells := 0, slots := 0, locals := 0 } : Room)) (fun a U => a = #[(.int p1), (.int p2)] ∧ Z.Warmed39 U.vm ∧ U.heap = h0) (fun _ _ _ _ _ => True) (fun _ U o U' => ∃ rv Lq, o = .returned rv ∧ Q_rm4 Z p1 p2 h0 n0 rv U'.heap Lq ∧ FrameEnd U o U' Lq ({ frames := 0, cells := 0, slots := 0, locals := 0 } : Room).cells ({ frames := 0, cells := 0, slots := 0, locals := 0 } : Room).slots) := by
  refine MetFree.of_bodySF (Jvm.Free.JP.mathPlain rfl (by decide +kernel)) hisR ?_
  intro p e s m args below meth c s₁ Bd hml0 hP hK
  obtain ⟨rfl, hZ, hh⟩ := hP
  have hx := Bd.exec
  have hby := Bd.bytes
  have hml : c.maxLocals = 2 := hml0
  have hown : s.vm.findClass "java/lang/Math" = some m.cls := findClass_of_methodNamed Bd.named
  have hnm := (name_of_methodNamed Bd.named Bd.method).1
  have X0 : Stand p l e ({ frames := 0, cells := 0, slots := 0, locals := 0 } : Room) s m #[(.int p1), (.int p2)] below meth c s₁ [] 0 0 := Stand.of_body Bd
  have e0 : s₁.heap = h0 := by rw [← hh, Bd.state]; rfl
  have N0 := Fr.nil n0
  refine of_go (ef_rm4 m p1 p2) ?_
  refine Go.step (T' := s₁) (f' := (mkF m 1 #[.val (.int p1), .val (.int p2)] [(.int p1)])) (fun _ k => XS.iloadN X0.here hx rfl (hb hby d4_0) rfl k) ?_
  refine Go.step (T' := s₁) (f' := (mkF m 2 #[.val (.int p1), .val (.int p2)] [(.int p2), (.int p1)])) (fun _ k => XS.iloadN X0.here hx rfl (hb hby d4_1) rfl k) ?_
  by_cases hc2 : p1 < p2
  · refine Go.step (T' := s₁) (f' := (mkF m 9 #[.val (.int p1), .val (.int p2)] [])) (fun _ k => XS.icmpYes X0.here hx rfl (pc0 := 2) (pc' := 9) rfl (hb hby d4_2) rfl (tlt hc2).1 (by decide) (by decide) k) ?_
    refine Go.step (T' := s₁) (f' := (mkF m 10 #[.val (.int p1), .val (.int p2)] [(.int p2)])) (fun _ k => XS.iloadN X0.here hx rfl (hb hby d4_9) rfl k) ?_
    refine goI X0 hx Bd.returns Bd.notSynchronized (hb hby d4_10) ?_ (by decide) (by decide)
    show Q_rm4 Z p1 p2 h0 n0 _ s₁.heap _
    rw [e0]
    exact ⟨by simp [own_max, hc2], N0, rfl⟩
  · refine Go.step (T' := s₁) (f' := (mkF m 5 #[.val (.int p1), .val (.int p2)] [])) (fun _ k => XS.icmpNo X0.here hx rfl (hb hby d4_2) rfl (flt hc2).1 k) ?_
    refine Go.step (T' := s₁) (f' := (mkF m 6 #[.val (.int p1), .val (.int p2)] [(.int p1)])) (fun _ k => XS.iloadN X0.here hx rfl (hb hby d4_5) rfl k) ?_
    refine Go.step (T' := s₁) (f' := (mkF m 10 #[.val (.int p1), .val (.int p2)] [(.int p1)])) (fun _ k => XS.goto X0.here hx rfl (pc0 := 6) (pc' := 10) rfl (hb hby d4_6) (by decide) (by decide) k) ?_
    refine goI X0 hx Bd.returns Bd.notSynchronized (hb hby d4_10) ?_ (by decide) (by decide)
    show Q_rm4 Z p1 p2 h0 n0 _ s₁.heap _
    rw [e0]
    exact ⟨by simp [own_max, hc2], N0, rfl⟩
theorem pd_0 : parseMethodDescriptor "(I)Lcom/example/bagwise/bagwise/engine/Truth;" = some ⟨[.int], some (.object "com/example/bagwise/bagwise/engine/Truth")⟩ := by decide +kernel
theorem pd_1 : parseMethodDescriptor "(Lcom/example/bagwise/bagwise/engine/Truth;)Lcom/example/bagwise/bagwise/engine/Truth;" = some ⟨[(.object "com/example/bagwise/bagwise/engine/Truth")], some (.object "com/example/bagwise/bagwise/engine/Truth")⟩ := by decide +kernel
theorem pd_2 : parseMethodDescriptor "(Lcom/example/bagwise/bagwise/engine/Truth;)I" = some ⟨[(.object "com/example/bagwise/bagwise/engine/Truth")], some .int⟩ := by decide +kernel
theorem pd_3 : parseMethodDescriptor "(II)I" = some ⟨[.int, .int], some .int⟩ := by decide +kernel
theorem ef_rm0 (m : MethodId) (p1 : Int32) (p2 : Int32) : entryFrame m #[(.int p1), (.int p2)] maxLocals = mkF m 0 #[.val (.int p1), .val (.int p2), .unset, .unset, .unset] [] := by first | (simp [entryFrame, mkF, argsToLocals, Value.category, maxLocals]; done) | rfl
def Q_rm0 (Z : State) (p1 : Int32) (p2 : Int32) (s_FALSE : Addr) (s_ERROR : Addr) (s_TRUE : Addr) (h0 : Heap) (n0 : Nat) (rv : Option Value) (hq : Heap) (Lq : List Loc) : Prop := rv = some (.int (1 : Int32)) ∧ Fr n0 Lq
set_option maxRecDepth 65536 in
set_option maxHeartbeats 40000000 in
theorem rm0 (l : Launch) (Z : State) (a0 : Array Value) (hw : ∀ d ∈ tables_1, d.before a0 Z = true) (ws : List Jvm.Cond) (p1 : Int32) (p2 : Int32) (s_FALSE : Addr) (s_ERROR : Addr) (s_TRUE : Addr) (h0 : Heap) (n0 : Nat) (Z0 : n0 ≤ h0.size) (E_s_FALSE : Exa Z h0 s_FALSE "com/example/bagwise/bagwise/engine/Truth") (E_s_ERROR : Exa Z h0 s_ERROR "com/example/bagwise/bagwise/engine/Truth") (E_s_TRUE : Exa Z h0 s_TRUE "com/example/bagwise/bagwise/engine/Truth") (O0 : Old Z n0 h0) (S_FALSE : Sta Z Z.heap "com/example/bagwise/bagwise/engine/Truth" "FALSE" "Lcom/example/bagwise/bagwise/engine/Truth;" (.ref s_FALSE)) (S_TRUE : Sta Z Z.heap "com/example/bagwise/bagwise/engine/Truth" "TRUE" "Lcom/example/bagwise/bagwise/engine/Truth;" (.ref s_TRUE)) (S_ERROR : Sta Z Z.heap "com/example/bagwise/bagwise/engine/Truth" "ERROR" "Lcom/example/bagwise/bagwise/engine/Truth;" (.ref s_ERROR)) (hFE : s_FALSE ≠ s_ERROR) (hFT : s_FALSE ≠ s_TRUE) (hET : s_ERROR ≠ s_TRUE) :
    MetFree l x (head1 (Jvm.Cond.code x code maxLocals ret :: ws) room_1) (fun a U => a = #[(.int p1), (.int p2)] ∧ Z.Warmed39 U.vm ∧ U.heap = h0) (fun _ _ _ _ _ => True) (fun _ U o U' => ∃ rv Lq, o = .returned rv ∧ Q_rm0 Z p1 p2 s_FALSE s_ERROR s_TRUE h0 n0 rv U'.heap Lq ∧ FrameEnd U o U' Lq room_1.cells room_1.slots) := by
  refine MetFree.of_bodySF (plainFor_of_name pn_1) hisR ?_
  intro p e s m args below meth c s₁ Bd hml0 hP hK
  obtain ⟨rfl, hZ, hh⟩ := hP
  have hx := Bd.exec
  have hby := Bd.bytes
  have hml : c.maxLocals = 5 := hml0
  have hown : s.vm.findClass "com/example/bagwise/bagwise/engine/TruthOrPinLaw" = some m.cls := findClass_of_methodNamed Bd.named
  have hnm := (name_of_methodNamed Bd.named Bd.method).1
  have X0 : Stand p l e room_1 s m #[(.int p1), (.int p2)] below meth c s₁ [] 0 0 := Stand.of_body Bd
  have e0 : s₁.heap = h0 := by rw [← hh, Bd.state]; rfl
  have N0 := Fr.nil n0
  refine of_go (ef_rm0 m p1 p2) ?_
  refine Go.step (T' := s₁) (f' := (mkF m 1 #[.val (.int p1), .val (.int p2), .unset, .unset, .unset] [(.int p1)])) (fun _ k => XS.iloadN X0.here hx rfl (hb hby at_0) rfl k) ?_
  obtain ⟨_, _, ⟨T1, L1, k1, n1⟩, -, X1, ⟨Lc1, hQ1, l1, y1, z1⟩, st1⟩ := Jvm.LawKit.callS X0 hx (y := (⟨"com/example/bagwise/bagwise/engine/TruthOrPinLaw", "pick", "(I)Lcom/example/bagwise/bagwise/engine/Truth;"⟩ : MethodName)) hown (mvT hZ (hw _ (List.mem_of_getElem? (i := 0) rfl))) (mvT hZ (hw _ (List.mem_of_getElem? (i := 1) rfl))) (mvT hZ (hw _ (List.mem_of_getElem? (i := 2) rfl))) (mvT hZ (hw _ (List.mem_of_getElem? (i := 3) rfl))) (by decide) (backOf (W := 0) (rm1 l Z a0 hw [] p1 s_FALSE s_ERROR s_TRUE h0 n0 Z0 O0 S_FALSE S_TRUE S_ERROR) hZ (hw _ (List.mem_of_getElem? (i := 3) rfl)) (hw _ (List.mem_of_getElem? (i := 2) rfl)) (by decide) (by decide)) (g := (mkF m 1 #[.val (.int p1), .val (.int p2), .unset, .unset, .unset] [(.int p1)])) rfl (by rw [hml]; rfl) (argsL := [(.int p1)]) (rest := []) (lenOf pd_0 rfl) rfl (by show 2 * 0 + _ ≤ _; exact Nat.le_of_eq rfl) (hb hby at_1) (fun _ _ => ⟨rfl, e0, (by decide : 0 + 0 ≤ _), (by decide : 0 + 0 ≤ _)⟩)
  dsimp only [Pt.U, Pt.locs, Pt.cells, Pt.slots] at X1 l1 y1 z1 st1 hQ1
  subst l1 y1 z1
  obtain ⟨rfl, Nq1, eh1⟩ := hQ1
  have N1 := Fr.app N0 Nq1
  refine Go.step (T' := T1) (f' := (mkF m 4 #[.val (.int p1), .val (.int p2), .unset, .unset, .unset] [(.ref (own_pick s_FALSE s_ERROR s_TRUE ((p1 &&& (2147483647 : Int32)) % (3 : Int32))))])) st1 ?_
  refine Go.step (T' := T1) (f' := (mkF m 5 #[.val (.int p1), .val (.int p2), .val (.ref (own_pick s_FALSE s_ERROR s_TRUE ((p1 &&& (2147483647 : Int32)) % (3 : Int32)))), .unset, .unset] [])) (fun _ k => XS.astoreN X1.here hx rfl (hb hby at_4) rfl rfl (l' := #[.val (.int p1), .val (.int p2), .val (.ref (own_pick s_FALSE s_ERROR s_TRUE ((p1 &&& (2147483647 : Int32)) % (3 : Int32)))), .unset, .unset]) rfl k) ?_
  refine Go.step (T' := T1) (f' := (mkF m 6 #[.val (.int p1), .val (.int p2), .val (.ref (own_pick s_FALSE s_ERROR s_TRUE ((p1 &&& (2147483647 : Int32)) % (3 : Int32)))), .unset, .unset] [(.int p2)])) (fun _ k => XS.iloadN X1.here hx rfl (hb hby at_5) rfl k) ?_
  obtain ⟨_, _, ⟨T2, L2, k2, n2⟩, -, X2, ⟨Lc2, hQ2, l2, y2, z2⟩, st2⟩ := Jvm.LawKit.callS X1 hx (y := (⟨"com/example/bagwise/bagwise/engine/TruthOrPinLaw", "pick", "(I)Lcom/example/bagwise/bagwise/engine/Truth;"⟩ : MethodName)) hown (mvT hZ (hw _ (List.mem_of_getElem? (i := 0) rfl))) (mvT hZ (hw _ (List.mem_of_getElem? (i := 1) rfl))) (mvT hZ (hw _ (List.mem_of_getElem? (i := 2) rfl))) (mvT hZ (hw _ (List.mem_of_getElem? (i := 3) rfl))) (by decide) (backOf (W := 0) (rm1 l Z a0 hw [] p2 s_FALSE s_ERROR s_TRUE h0 n0 Z0 O0 S_FALSE S_TRUE S_ERROR) hZ (hw _ (List.mem_of_getElem? (i := 3) rfl)) (hw _ (List.mem_of_getElem? (i := 2) rfl)) (by decide) (by decide)) (g := (mkF m 6 #[.val (.int p1), .val (.int p2), .val (.ref (own_pick s_FALSE s_ERROR s_TRUE ((p1 &&& (2147483647 : Int32)) % (3 : Int32)))), .unset, .unset] [(.int p2)])) rfl (by rw [hml]; rfl) (argsL := [(.int p2)]) (rest := []) (lenOf pd_0 rfl) rfl (by show 2 * 0 + _ ≤ _; exact Nat.le_of_eq rfl) (hb hby at_6) (fun _ _ => ⟨rfl, eh1, (by decide : 0 + 0 ≤ _), (by decide : 0 + 0 ≤ _)⟩)
  dsimp only [Pt.U, Pt.locs, Pt.cells, Pt.slots] at X2 l2 y2 z2 st2 hQ2
  subst l2 y2 z2
  obtain ⟨rfl, Nq2, eh2⟩ := hQ2
  have N2 := Fr.app N1 Nq2
  refine Go.step (T' := T2) (f' := (mkF m 9 #[.val (.int p1), .val (.int p2), .val (.ref (own_pick s_FALSE s_ERROR s_TRUE ((p1 &&& (2147483647 : Int32)) % (3 : Int32)))), .unset, .unset] [(.ref (own_pick s_FALSE s_ERROR s_TRUE ((p2 &&& (2147483647 : Int32)) % (3 : Int32))))])) st2 ?_
  refine Go.step (T' := T2) (f' := (mkF m 10 #[.val (.int p1), .val (.int p2), .val (.ref (own_pick s_FALSE s_ERROR s_TRUE ((p1 &&& (2147483647 : Int32)) % (3 : Int32)))), .val (.ref (own_pick s_FALSE s_ERROR s_TRUE ((p2 &&& (2147483647 : Int32)) % (3 : Int32)))), .unset] [])) (fun _ k => XS.astoreN X2.here hx rfl (hb hby at_9) rfl rfl (l' := #[.val (.int p1), .val (.int p2), .val (.ref (own_pick s_FALSE s_ERROR s_TRUE ((p1 &&& (2147483647 : Int32)) % (3 : Int32)))), .val (.ref (own_pick s_FALSE s_ERROR s_TRUE ((p2 &&& (2147483647 : Int32)) % (3 : Int32)))), .unset]) rfl k) ?_
  refine Go.step (T' := T2) (f' := (mkF m 11 #[.val (.int p1), .val (.int p2), .val (.ref (own_pick s_FALSE s_ERROR s_TRUE ((p1 &&& (2147483647 : Int32)) % (3 : Int32)))), .val (.ref (own_pick s_FALSE s_ERROR s_TRUE ((p2 &&& (2147483647 : Int32)) % (3 : Int32)))), .unset] [(.ref (own_pick s_FALSE s_ERROR s_TRUE ((p1 &&& (2147483647 : Int32)) % (3 : Int32))))])) (fun _ k => XS.aloadN X2.here hx rfl (hb hby at_10) rfl rfl k) ?_
  refine Go.step (T' := T2) (f' := (mkF m 12 #[.val (.int p1), .val (.int p2), .val (.ref (own_pick s_FALSE s_ERROR s_TRUE ((p1 &&& (2147483647 : Int32)) % (3 : Int32)))), .val (.ref (own_pick s_FALSE s_ERROR s_TRUE ((p2 &&& (2147483647 : Int32)) % (3 : Int32)))), .unset] [(.ref (own_pick s_FALSE s_ERROR s_TRUE ((p2 &&& (2147483647 : Int32)) % (3 : Int32)))), (.ref (own_pick s_FALSE s_ERROR s_TRUE ((p1 &&& (2147483647 : Int32)) % (3 : Int32))))])) (fun _ k => XS.aloadN X2.here hx rfl (hb hby at_11) rfl rfl k) ?_
  obtain ⟨cq3, kq3, q3a, q3b, q3c⟩ := isOf hZ eh2 (own_E _ E_s_FALSE E_s_ERROR E_s_TRUE)
  obtain ⟨_, _, ⟨T3, L3, k3, n3⟩, -, X3, ⟨Lc3, hQ3, l3, y3, z3⟩, st3⟩ := X2.virtualBack hx (y := (⟨"com/example/bagwise/bagwise/engine/Truth", "or", "(Lcom/example/bagwise/bagwise/engine/Truth;)Lcom/example/bagwise/bagwise/engine/Truth;"⟩ : MethodName)) (z := (⟨"com/example/bagwise/bagwise/engine/Truth", "or", "(Lcom/example/bagwise/bagwise/engine/Truth;)Lcom/example/bagwise/bagwise/engine/Truth;"⟩ : MethodName)) hown (mvT hZ (hw _ (List.mem_of_getElem? (i := 8) rfl))) (mvT hZ (hw _ (List.mem_of_getElem? (i := 9) rfl))) (notFace_of_selects (args := #[]) (mvT hZ (hw _ (List.mem_of_getElem? (i := 11) rfl)))) (mvT hZ (hw _ (List.mem_of_getElem? (i := 11) rfl))) (mvT hZ (hw _ (List.mem_of_getElem? (i := 10) rfl))) (by decide) (backOf (W := 0) (rm2 l Z a0 hw [] (own_pick s_FALSE s_ERROR s_TRUE ((p1 &&& (2147483647 : Int32)) % (3 : Int32))) (own_pick s_FALSE s_ERROR s_TRUE ((p2 &&& (2147483647 : Int32)) % (3 : Int32))) s_FALSE s_ERROR s_TRUE h0 n0 Z0 O0 S_FALSE S_TRUE S_ERROR) hZ (hw _ (List.mem_of_getElem? (i := 12) rfl)) (hw _ (List.mem_of_getElem? (i := 6) rfl)) (by decide) (by decide)) q3a q3c (g := (mkF m 12 #[.val (.int p1), .val (.int p2), .val (.ref (own_pick s_FALSE s_ERROR s_TRUE ((p1 &&& (2147483647 : Int32)) % (3 : Int32)))), .val (.ref (own_pick s_FALSE s_ERROR s_TRUE ((p2 &&& (2147483647 : Int32)) % (3 : Int32)))), .unset] [(.ref (own_pick s_FALSE s_ERROR s_TRUE ((p2 &&& (2147483647 : Int32)) % (3 : Int32)))), (.ref (own_pick s_FALSE s_ERROR s_TRUE ((p1 &&& (2147483647 : Int32)) % (3 : Int32))))])) rfl (by rw [hml]; rfl) (Steps.refl _) (argsL := [(.ref (own_pick s_FALSE s_ERROR s_TRUE ((p2 &&& (2147483647 : Int32)) % (3 : Int32))))]) (rest := []) (lenOf pd_1 rfl) rfl (by show 2 * 0 + _ ≤ _; exact Nat.le_of_eq rfl) (hb hby at_12) (fun _ _ => ⟨rfl, eh2, (by decide : 0 + 0 ≤ _), (by decide : 0 + 0 ≤ _)⟩)
  dsimp only [Pt.U, Pt.locs, Pt.cells, Pt.slots] at X3 l3 y3 z3 st3 hQ3
  subst l3 y3 z3
  obtain ⟨rfl, Nq3, eh3⟩ := hQ3
  have N3 := Fr.app N2 Nq3
  refine Go.step (T' := T3) (f' := (mkF m 15 #[.val (.int p1), .val (.int p2), .val (.ref (own_pick s_FALSE s_ERROR s_TRUE ((p1 &&& (2147483647 : Int32)) % (3 : Int32)))), .val (.ref (own_pick s_FALSE s_ERROR s_TRUE ((p2 &&& (2147483647 : Int32)) % (3 : Int32)))), .unset] [(.ref (own_or s_FALSE s_ERROR s_TRUE (own_pick s_FALSE s_ERROR s_TRUE ((p1 &&& (2147483647 : Int32)) % (3 : Int32))) (own_pick s_FALSE s_ERROR s_TRUE ((p2 &&& (2147483647 : Int32)) % (3 : Int32)))))])) (fun _ k => st3.trans k) ?_
  refine Go.step (T' := T3) (f' := (mkF m 17 #[.val (.int p1), .val (.int p2), .val (.ref (own_pick s_FALSE s_ERROR s_TRUE ((p1 &&& (2147483647 : Int32)) % (3 : Int32)))), .val (.ref (own_pick s_FALSE s_ERROR s_TRUE ((p2 &&& (2147483647 : Int32)) % (3 : Int32)))), .val (.ref (own_or s_FALSE s_ERROR s_TRUE (own_pick s_FALSE s_ERROR s_TRUE ((p1 &&& (2147483647 : Int32)) % (3 : Int32))) (own_pick s_FALSE s_ERROR s_TRUE ((p2 &&& (2147483647 : Int32)) % (3 : Int32)))))] [])) (fun _ k => XS.astore X3.here hx rfl (hb hby at_15) rfl rfl (l' := #[.val (.int p1), .val (.int p2), .val (.ref (own_pick s_FALSE s_ERROR s_TRUE ((p1 &&& (2147483647 : Int32)) % (3 : Int32)))), .val (.ref (own_pick s_FALSE s_ERROR s_TRUE ((p2 &&& (2147483647 : Int32)) % (3 : Int32)))), .val (.ref (own_or s_FALSE s_ERROR s_TRUE (own_pick s_FALSE s_ERROR s_TRUE ((p1 &&& (2147483647 : Int32)) % (3 : Int32))) (own_pick s_FALSE s_ERROR s_TRUE ((p2 &&& (2147483647 : Int32)) % (3 : Int32)))))]) rfl k) ?_
  refine Go.step (T' := T3) (f' := (mkF m 19 #[.val (.int p1), .val (.int p2), .val (.ref (own_pick s_FALSE s_ERROR s_TRUE ((p1 &&& (2147483647 : Int32)) % (3 : Int32)))), .val (.ref (own_pick s_FALSE s_ERROR s_TRUE ((p2 &&& (2147483647 : Int32)) % (3 : Int32)))), .val (.ref (own_or s_FALSE s_ERROR s_TRUE (own_pick s_FALSE s_ERROR s_TRUE ((p1 &&& (2147483647 : Int32)) % (3 : Int32))) (own_pick s_FALSE s_ERROR s_TRUE ((p2 &&& (2147483647 : Int32)) % (3 : Int32)))))] [(.ref (own_or s_FALSE s_ERROR s_TRUE (own_pick s_FALSE s_ERROR s_TRUE ((p1 &&& (2147483647 : Int32)) % (3 : Int32))) (own_pick s_FALSE s_ERROR s_TRUE ((p2 &&& (2147483647 : Int32)) % (3 : Int32)))))])) (fun _ k => XS.aload X3.here hx rfl (hb hby at_17) rfl rfl k) ?_
  obtain ⟨_, _, ⟨T4, L4, k4, n4⟩, -, X4, ⟨Lc4, hQ4, l4, y4, z4⟩, st4⟩ := Jvm.LawKit.callS X3 hx (y := (⟨"com/example/bagwise/bagwise/engine/TruthOrPinLaw", "rank", "(Lcom/example/bagwise/bagwise/engine/Truth;)I"⟩ : MethodName)) hown (mvT hZ (hw _ (List.mem_of_getElem? (i := 18) rfl))) (mvT hZ (hw _ (List.mem_of_getElem? (i := 19) rfl))) (mvT hZ (hw _ (List.mem_of_getElem? (i := 2) rfl))) (mvT hZ (hw _ (List.mem_of_getElem? (i := 20) rfl))) (by decide) (backOf (W := 0) (rm3 l Z a0 hw [] (own_or s_FALSE s_ERROR s_TRUE (own_pick s_FALSE s_ERROR s_TRUE ((p1 &&& (2147483647 : Int32)) % (3 : Int32))) (own_pick s_FALSE s_ERROR s_TRUE ((p2 &&& (2147483647 : Int32)) % (3 : Int32)))) s_FALSE s_ERROR s_TRUE h0 n0 Z0 O0 S_FALSE S_TRUE S_ERROR) hZ (hw _ (List.mem_of_getElem? (i := 20) rfl)) (hw _ (List.mem_of_getElem? (i := 2) rfl)) (by decide) (by decide)) (g := (mkF m 19 #[.val (.int p1), .val (.int p2), .val (.ref (own_pick s_FALSE s_ERROR s_TRUE ((p1 &&& (2147483647 : Int32)) % (3 : Int32)))), .val (.ref (own_pick s_FALSE s_ERROR s_TRUE ((p2 &&& (2147483647 : Int32)) % (3 : Int32)))), .val (.ref (own_or s_FALSE s_ERROR s_TRUE (own_pick s_FALSE s_ERROR s_TRUE ((p1 &&& (2147483647 : Int32)) % (3 : Int32))) (own_pick s_FALSE s_ERROR s_TRUE ((p2 &&& (2147483647 : Int32)) % (3 : Int32)))))] [(.ref (own_or s_FALSE s_ERROR s_TRUE (own_pick s_FALSE s_ERROR s_TRUE ((p1 &&& (2147483647 : Int32)) % (3 : Int32))) (own_pick s_FALSE s_ERROR s_TRUE ((p2 &&& (2147483647 : Int32)) % (3 : Int32)))))])) rfl (by rw [hml]; rfl) (argsL := [(.ref (own_or s_FALSE s_ERROR s_TRUE (own_pick s_FALSE s_ERROR s_TRUE ((p1 &&& (2147483647 : Int32)) % (3 : Int32))) (own_pick s_FALSE s_ERROR s_TRUE ((p2 &&& (2147483647 : Int32)) % (3 : Int32)))))]) (rest := []) (lenOf pd_2 rfl) rfl (by show 2 * 0 + _ ≤ _; exact Nat.le_of_eq rfl) (hb hby at_19) (fun _ _ => ⟨rfl, eh3, (by decide : 0 + 0 ≤ _), (by decide : 0 + 0 ≤ _)⟩)
  dsimp only [Pt.U, Pt.locs, Pt.cells, Pt.slots] at X4 l4 y4 z4 st4 hQ4
  subst l4 y4 z4
  obtain ⟨rfl, Nq4, eh4⟩ := hQ4
  have N4 := Fr.app N3 Nq4
  refine Go.step (T' := T4) (f' := (mkF m 22 #[.val (.int p1), .val (.int p2), .val (.ref (own_pick s_FALSE s_ERROR s_TRUE ((p1 &&& (2147483647 : Int32)) % (3 : Int32)))), .val (.ref (own_pick s_FALSE s_ERROR s_TRUE ((p2 &&& (2147483647 : Int32)) % (3 : Int32)))), .val (.ref (own_or s_FALSE s_ERROR s_TRUE (own_pick s_FALSE s_ERROR s_TRUE ((p1 &&& (2147483647 : Int32)) % (3 : Int32))) (own_pick s_FALSE s_ERROR s_TRUE ((p2 &&& (2147483647 : Int32)) % (3 : Int32)))))] [(.int (own_rank s_FALSE s_ERROR s_TRUE (own_or s_FALSE s_ERROR s_TRUE (own_pick s_FALSE s_ERROR s_TRUE ((p1 &&& (2147483647 : Int32)) % (3 : Int32))) (own_pick s_FALSE s_ERROR s_TRUE ((p2 &&& (2147483647 : Int32)) % (3 : Int32))))))])) st4 ?_
  refine Go.step (T' := T4) (f' := (mkF m 23 #[.val (.int p1), .val (.int p2), .val (.ref (own_pick s_FALSE s_ERROR s_TRUE ((p1 &&& (2147483647 : Int32)) % (3 : Int32)))), .val (.ref (own_pick s_FALSE s_ERROR s_TRUE ((p2 &&& (2147483647 : Int32)) % (3 : Int32)))), .val (.ref (own_or s_FALSE s_ERROR s_TRUE (own_pick s_FALSE s_ERROR s_TRUE ((p1 &&& (2147483647 : Int32)) % (3 : Int32))) (own_pick s_FALSE s_ERROR s_TRUE ((p2 &&& (2147483647 : Int32)) % (3 : Int32)))))] [(.ref (own_pick s_FALSE s_ERROR s_TRUE ((p1 &&& (2147483647 : Int32)) % (3 : Int32)))), (.int (own_rank s_FALSE s_ERROR s_TRUE (own_or s_FALSE s_ERROR s_TRUE (own_pick s_FALSE s_ERROR s_TRUE ((p1 &&& (2147483647 : Int32)) % (3 : Int32))) (own_pick s_FALSE s_ERROR s_TRUE ((p2 &&& (2147483647 : Int32)) % (3 : Int32))))))])) (fun _ k => XS.aloadN X4.here hx rfl (hb hby at_22) rfl rfl k) ?_
  obtain ⟨_, _, ⟨T5, L5, k5, n5⟩, -, X5, ⟨Lc5, hQ5, l5, y5, z5⟩, st5⟩ := Jvm.LawKit.callS X4 hx (y := (⟨"com/example/bagwise/bagwise/engine/TruthOrPinLaw", "rank", "(Lcom/example/bagwise/bagwise/engine/Truth;)I"⟩ : MethodName)) hown (mvT hZ (hw _ (List.mem_of_getElem? (i := 18) rfl))) (mvT hZ (hw _ (List.mem_of_getElem? (i := 19) rfl))) (mvT hZ (hw _ (List.mem_of_getElem? (i := 2) rfl))) (mvT hZ (hw _ (List.mem_of_getElem? (i := 20) rfl))) (by decide) (backOf (W := 1) (rm3 l Z a0 hw [] (own_pick s_FALSE s_ERROR s_TRUE ((p1 &&& (2147483647 : Int32)) % (3 : Int32))) s_FALSE s_ERROR s_TRUE h0 n0 Z0 O0 S_FALSE S_TRUE S_ERROR) hZ (hw _ (List.mem_of_getElem? (i := 20) rfl)) (hw _ (List.mem_of_getElem? (i := 2) rfl)) (by decide) (by decide)) (g := (mkF m 23 #[.val (.int p1), .val (.int p2), .val (.ref (own_pick s_FALSE s_ERROR s_TRUE ((p1 &&& (2147483647 : Int32)) % (3 : Int32)))), .val (.ref (own_pick s_FALSE s_ERROR s_TRUE ((p2 &&& (2147483647 : Int32)) % (3 : Int32)))), .val (.ref (own_or s_FALSE s_ERROR s_TRUE (own_pick s_FALSE s_ERROR s_TRUE ((p1 &&& (2147483647 : Int32)) % (3 : Int32))) (own_pick s_FALSE s_ERROR s_TRUE ((p2 &&& (2147483647 : Int32)) % (3 : Int32)))))] [(.ref (own_pick s_FALSE s_ERROR s_TRUE ((p1 &&& (2147483647 : Int32)) % (3 : Int32)))), (.int (own_rank s_FALSE s_ERROR s_TRUE (own_or s_FALSE s_ERROR s_TRUE (own_pick s_FALSE s_ERROR s_TRUE ((p1 &&& (2147483647 : Int32)) % (3 : Int32))) (own_pick s_FALSE s_ERROR s_TRUE ((p2 &&& (2147483647 : Int32)) % (3 : Int32))))))])) rfl (by rw [hml]; rfl) (argsL := [(.ref (own_pick s_FALSE s_ERROR s_TRUE ((p1 &&& (2147483647 : Int32)) % (3 : Int32))))]) (rest := [(.int (own_rank s_FALSE s_ERROR s_TRUE (own_or s_FALSE s_ERROR s_TRUE (own_pick s_FALSE s_ERROR s_TRUE ((p1 &&& (2147483647 : Int32)) % (3 : Int32))) (own_pick s_FALSE s_ERROR s_TRUE ((p2 &&& (2147483647 : Int32)) % (3 : Int32))))))]) (lenOf pd_2 rfl) rfl (by show 2 * 0 + _ ≤ _; exact Nat.le_of_eq rfl) (hb hby at_23) (fun _ _ => ⟨rfl, eh4, (by decide : 0 + 0 ≤ _), (by decide : 0 + 0 ≤ _)⟩)
  dsimp only [Pt.U, Pt.locs, Pt.cells, Pt.slots] at X5 l5 y5 z5 st5 hQ5
  subst l5 y5 z5
  obtain ⟨rfl, Nq5, eh5⟩ := hQ5
  have N5 := Fr.app N4 Nq5
  refine Go.step (T' := T5) (f' := (mkF m 26 #[.val (.int p1), .val (.int p2), .val (.ref (own_pick s_FALSE s_ERROR s_TRUE ((p1 &&& (2147483647 : Int32)) % (3 : Int32)))), .val (.ref (own_pick s_FALSE s_ERROR s_TRUE ((p2 &&& (2147483647 : Int32)) % (3 : Int32)))), .val (.ref (own_or s_FALSE s_ERROR s_TRUE (own_pick s_FALSE s_ERROR s_TRUE ((p1 &&& (2147483647 : Int32)) % (3 : Int32))) (own_pick s_FALSE s_ERROR s_TRUE ((p2 &&& (2147483647 : Int32)) % (3 : Int32)))))] [(.int (own_rank s_FALSE s_ERROR s_TRUE (own_pick s_FALSE s_ERROR s_TRUE ((p1 &&& (2147483647 : Int32)) % (3 : Int32))))), (.int (own_rank s_FALSE s_ERROR s_TRUE (own_or s_FALSE s_ERROR s_TRUE (own_pick s_FALSE s_ERROR s_TRUE ((p1 &&& (2147483647 : Int32)) % (3 : Int32))) (own_pick s_FALSE s_ERROR s_TRUE ((p2 &&& (2147483647 : Int32)) % (3 : Int32))))))])) st5 ?_
  refine Go.step (T' := T5) (f' := (mkF m 27 #[.val (.int p1), .val (.int p2), .val (.ref (own_pick s_FALSE s_ERROR s_TRUE ((p1 &&& (2147483647 : Int32)) % (3 : Int32)))), .val (.ref (own_pick s_FALSE s_ERROR s_TRUE ((p2 &&& (2147483647 : Int32)) % (3 : Int32)))), .val (.ref (own_or s_FALSE s_ERROR s_TRUE (own_pick s_FALSE s_ERROR s_TRUE ((p1 &&& (2147483647 : Int32)) % (3 : Int32))) (own_pick s_FALSE s_ERROR s_TRUE ((p2 &&& (2147483647 : Int32)) % (3 : Int32)))))] [(.ref (own_pick s_FALSE s_ERROR s_TRUE ((p2 &&& (2147483647 : Int32)) % (3 : Int32)))), (.int (own_rank s_FALSE s_ERROR s_TRUE (own_pick s_FALSE s_ERROR s_TRUE ((p1 &&& (2147483647 : Int32)) % (3 : Int32))))), (.int (own_rank s_FALSE s_ERROR s_TRUE (own_or s_FALSE s_ERROR s_TRUE (own_pick s_FALSE s_ERROR s_TRUE ((p1 &&& (2147483647 : Int32)) % (3 : Int32))) (own_pick s_FALSE s_ERROR s_TRUE ((p2 &&& (2147483647 : Int32)) % (3 : Int32))))))])) (fun _ k => XS.aloadN X5.here hx rfl (hb hby at_26) rfl rfl k) ?_
  obtain ⟨_, _, ⟨T6, L6, k6, n6⟩, -, X6, ⟨Lc6, hQ6, l6, y6, z6⟩, st6⟩ := Jvm.LawKit.callS X5 hx (y := (⟨"com/example/bagwise/bagwise/engine/TruthOrPinLaw", "rank", "(Lcom/example/bagwise/bagwise/engine/Truth;)I"⟩ : MethodName)) hown (mvT hZ (hw _ (List.mem_of_getElem? (i := 18) rfl))) (mvT hZ (hw _ (List.mem_of_getElem? (i := 19) rfl))) (mvT hZ (hw _ (List.mem_of_getElem? (i := 2) rfl))) (mvT hZ (hw _ (List.mem_of_getElem? (i := 20) rfl))) (by decide) (backOf (W := 2) (rm3 l Z a0 hw [] (own_pick s_FALSE s_ERROR s_TRUE ((p2 &&& (2147483647 : Int32)) % (3 : Int32))) s_FALSE s_ERROR s_TRUE h0 n0 Z0 O0 S_FALSE S_TRUE S_ERROR) hZ (hw _ (List.mem_of_getElem? (i := 20) rfl)) (hw _ (List.mem_of_getElem? (i := 2) rfl)) (by decide) (by decide)) (g := (mkF m 27 #[.val (.int p1), .val (.int p2), .val (.ref (own_pick s_FALSE s_ERROR s_TRUE ((p1 &&& (2147483647 : Int32)) % (3 : Int32)))), .val (.ref (own_pick s_FALSE s_ERROR s_TRUE ((p2 &&& (2147483647 : Int32)) % (3 : Int32)))), .val (.ref (own_or s_FALSE s_ERROR s_TRUE (own_pick s_FALSE s_ERROR s_TRUE ((p1 &&& (2147483647 : Int32)) % (3 : Int32))) (own_pick s_FALSE s_ERROR s_TRUE ((p2 &&& (2147483647 : Int32)) % (3 : Int32)))))] [(.ref (own_pick s_FALSE s_ERROR s_TRUE ((p2 &&& (2147483647 : Int32)) % (3 : Int32)))), (.int (own_rank s_FALSE s_ERROR s_TRUE (own_pick s_FALSE s_ERROR s_TRUE ((p1 &&& (2147483647 : Int32)) % (3 : Int32))))), (.int (own_rank s_FALSE s_ERROR s_TRUE (own_or s_FALSE s_ERROR s_TRUE (own_pick s_FALSE s_ERROR s_TRUE ((p1 &&& (2147483647 : Int32)) % (3 : Int32))) (own_pick s_FALSE s_ERROR s_TRUE ((p2 &&& (2147483647 : Int32)) % (3 : Int32))))))])) rfl (by rw [hml]; rfl) (argsL := [(.ref (own_pick s_FALSE s_ERROR s_TRUE ((p2 &&& (2147483647 : Int32)) % (3 : Int32))))]) (rest := [(.int (own_rank s_FALSE s_ERROR s_TRUE (own_pick s_FALSE s_ERROR s_TRUE ((p1 &&& (2147483647 : Int32)) % (3 : Int32))))), (.int (own_rank s_FALSE s_ERROR s_TRUE (own_or s_FALSE s_ERROR s_TRUE (own_pick s_FALSE s_ERROR s_TRUE ((p1 &&& (2147483647 : Int32)) % (3 : Int32))) (own_pick s_FALSE s_ERROR s_TRUE ((p2 &&& (2147483647 : Int32)) % (3 : Int32))))))]) (lenOf pd_2 rfl) rfl (by show 2 * 0 + _ ≤ _; exact Nat.le_of_eq rfl) (hb hby at_27) (fun _ _ => ⟨rfl, eh5, (by decide : 0 + 0 ≤ _), (by decide : 0 + 0 ≤ _)⟩)
  dsimp only [Pt.U, Pt.locs, Pt.cells, Pt.slots] at X6 l6 y6 z6 st6 hQ6
  subst l6 y6 z6
  obtain ⟨rfl, Nq6, eh6⟩ := hQ6
  have N6 := Fr.app N5 Nq6
  refine Go.step (T' := T6) (f' := (mkF m 30 #[.val (.int p1), .val (.int p2), .val (.ref (own_pick s_FALSE s_ERROR s_TRUE ((p1 &&& (2147483647 : Int32)) % (3 : Int32)))), .val (.ref (own_pick s_FALSE s_ERROR s_TRUE ((p2 &&& (2147483647 : Int32)) % (3 : Int32)))), .val (.ref (own_or s_FALSE s_ERROR s_TRUE (own_pick s_FALSE s_ERROR s_TRUE ((p1 &&& (2147483647 : Int32)) % (3 : Int32))) (own_pick s_FALSE s_ERROR s_TRUE ((p2 &&& (2147483647 : Int32)) % (3 : Int32)))))] [(.int (own_rank s_FALSE s_ERROR s_TRUE (own_pick s_FALSE s_ERROR s_TRUE ((p2 &&& (2147483647 : Int32)) % (3 : Int32))))), (.int (own_rank s_FALSE s_ERROR s_TRUE (own_pick s_FALSE s_ERROR s_TRUE ((p1 &&& (2147483647 : Int32)) % (3 : Int32))))), (.int (own_rank s_FALSE s_ERROR s_TRUE (own_or s_FALSE s_ERROR s_TRUE (own_pick s_FALSE s_ERROR s_TRUE ((p1 &&& (2147483647 : Int32)) % (3 : Int32))) (own_pick s_FALSE s_ERROR s_TRUE ((p2 &&& (2147483647 : Int32)) % (3 : Int32))))))])) st6 ?_
  obtain ⟨_, _, ⟨T7, L7, k7, n7⟩, -, X7, ⟨Lc7, hQ7, l7, y7, z7⟩, st7⟩ := Jvm.LawKit.callS X6 hx (y := (⟨"java/lang/Math", "max", "(II)I"⟩ : MethodName)) hown (mvT hZ (hw _ (List.mem_of_getElem? (i := 21) rfl))) (mvT hZ (hw _ (List.mem_of_getElem? (i := 22) rfl))) (mvT hZ (hw _ (List.mem_of_getElem? (i := 23) rfl))) (mvT hZ (hw _ (List.mem_of_getElem? (i := 24) rfl))) (by decide) (backOf (W := 1) (rm4 l Z a0 hw [] (own_rank s_FALSE s_ERROR s_TRUE (own_pick s_FALSE s_ERROR s_TRUE ((p1 &&& (2147483647 : Int32)) % (3 : Int32)))) (own_rank s_FALSE s_ERROR s_TRUE (own_pick s_FALSE s_ERROR s_TRUE ((p2 &&& (2147483647 : Int32)) % (3 : Int32)))) h0 n0 Z0 ) hZ (hw _ (List.mem_of_getElem? (i := 24) rfl)) (hw _ (List.mem_of_getElem? (i := 23) rfl)) (by decide) (by decide)) (g := (mkF m 30 #[.val (.int p1), .val (.int p2), .val (.ref (own_pick s_FALSE s_ERROR s_TRUE ((p1 &&& (2147483647 : Int32)) % (3 : Int32)))), .val (.ref (own_pick s_FALSE s_ERROR s_TRUE ((p2 &&& (2147483647 : Int32)) % (3 : Int32)))), .val (.ref (own_or s_FALSE s_ERROR s_TRUE (own_pick s_FALSE s_ERROR s_TRUE ((p1 &&& (2147483647 : Int32)) % (3 : Int32))) (own_pick s_FALSE s_ERROR s_TRUE ((p2 &&& (2147483647 : Int32)) % (3 : Int32)))))] [(.int (own_rank s_FALSE s_ERROR s_TRUE (own_pick s_FALSE s_ERROR s_TRUE ((p2 &&& (2147483647 : Int32)) % (3 : Int32))))), (.int (own_rank s_FALSE s_ERROR s_TRUE (own_pick s_FALSE s_ERROR s_TRUE ((p1 &&& (2147483647 : Int32)) % (3 : Int32))))), (.int (own_rank s_FALSE s_ERROR s_TRUE (own_or s_FALSE s_ERROR s_TRUE (own_pick s_FALSE s_ERROR s_TRUE ((p1 &&& (2147483647 : Int32)) % (3 : Int32))) (own_pick s_FALSE s_ERROR s_TRUE ((p2 &&& (2147483647 : Int32)) % (3 : Int32))))))])) rfl (by rw [hml]; rfl) (argsL := [(.int (own_rank s_FALSE s_ERROR s_TRUE (own_pick s_FALSE s_ERROR s_TRUE ((p1 &&& (2147483647 : Int32)) % (3 : Int32))))), (.int (own_rank s_FALSE s_ERROR s_TRUE (own_pick s_FALSE s_ERROR s_TRUE ((p2 &&& (2147483647 : Int32)) % (3 : Int32)))))]) (rest := [(.int (own_rank s_FALSE s_ERROR s_TRUE (own_or s_FALSE s_ERROR s_TRUE (own_pick s_FALSE s_ERROR s_TRUE ((p1 &&& (2147483647 : Int32)) % (3 : Int32))) (own_pick s_FALSE s_ERROR s_TRUE ((p2 &&& (2147483647 : Int32)) % (3 : Int32))))))]) (lenOf pd_3 rfl) rfl (by show 2 * 0 + _ ≤ _; exact Nat.le_of_eq rfl) (hb hby at_30) (fun _ _ => ⟨rfl, eh6, (by decide : 0 + 0 ≤ _), (by decide : 0 + 0 ≤ _)⟩)
  dsimp only [Pt.U, Pt.locs, Pt.cells, Pt.slots] at X7 l7 y7 z7 st7 hQ7
  subst l7 y7 z7
  obtain ⟨rfl, Nq7, eh7⟩ := hQ7
  have N7 := Fr.app N6 Nq7
  refine Go.step (T' := T7) (f' := (mkF m 33 #[.val (.int p1), .val (.int p2), .val (.ref (own_pick s_FALSE s_ERROR s_TRUE ((p1 &&& (2147483647 : Int32)) % (3 : Int32)))), .val (.ref (own_pick s_FALSE s_ERROR s_TRUE ((p2 &&& (2147483647 : Int32)) % (3 : Int32)))), .val (.ref (own_or s_FALSE s_ERROR s_TRUE (own_pick s_FALSE s_ERROR s_TRUE ((p1 &&& (2147483647 : Int32)) % (3 : Int32))) (own_pick s_FALSE s_ERROR s_TRUE ((p2 &&& (2147483647 : Int32)) % (3 : Int32)))))] [(.int (own_max (own_rank s_FALSE s_ERROR s_TRUE (own_pick s_FALSE s_ERROR s_TRUE ((p1 &&& (2147483647 : Int32)) % (3 : Int32)))) (own_rank s_FALSE s_ERROR s_TRUE (own_pick s_FALSE s_ERROR s_TRUE ((p2 &&& (2147483647 : Int32)) % (3 : Int32)))))), (.int (own_rank s_FALSE s_ERROR s_TRUE (own_or s_FALSE s_ERROR s_TRUE (own_pick s_FALSE s_ERROR s_TRUE ((p1 &&& (2147483647 : Int32)) % (3 : Int32))) (own_pick s_FALSE s_ERROR s_TRUE ((p2 &&& (2147483647 : Int32)) % (3 : Int32))))))])) st7 ?_
  refine Go.step (T' := T7) (f' := (mkF m 36 #[.val (.int p1), .val (.int p2), .val (.ref (own_pick s_FALSE s_ERROR s_TRUE ((p1 &&& (2147483647 : Int32)) % (3 : Int32)))), .val (.ref (own_pick s_FALSE s_ERROR s_TRUE ((p2 &&& (2147483647 : Int32)) % (3 : Int32)))), .val (.ref (own_or s_FALSE s_ERROR s_TRUE (own_pick s_FALSE s_ERROR s_TRUE ((p1 &&& (2147483647 : Int32)) % (3 : Int32))) (own_pick s_FALSE s_ERROR s_TRUE ((p2 &&& (2147483647 : Int32)) % (3 : Int32)))))] [])) (fun _ k => XS.icmpNo X7.here hx rfl (hb hby at_33) rfl (teq (own_finO hFE hFT hET (own_mod3 _) (own_mod3 _))).2 k) ?_
  refine Go.step (T' := T7) (f' := (mkF m 37 #[.val (.int p1), .val (.int p2), .val (.ref (own_pick s_FALSE s_ERROR s_TRUE ((p1 &&& (2147483647 : Int32)) % (3 : Int32)))), .val (.ref (own_pick s_FALSE s_ERROR s_TRUE ((p2 &&& (2147483647 : Int32)) % (3 : Int32)))), .val (.ref (own_or s_FALSE s_ERROR s_TRUE (own_pick s_FALSE s_ERROR s_TRUE ((p1 &&& (2147483647 : Int32)) % (3 : Int32))) (own_pick s_FALSE s_ERROR s_TRUE ((p2 &&& (2147483647 : Int32)) % (3 : Int32)))))] [(.int (1 : Int32))])) (fun _ k => XS.iconst X7.here hx rfl (hb hby at_36) k) ?_
  refine Go.step (T' := T7) (f' := (mkF m 41 #[.val (.int p1), .val (.int p2), .val (.ref (own_pick s_FALSE s_ERROR s_TRUE ((p1 &&& (2147483647 : Int32)) % (3 : Int32)))), .val (.ref (own_pick s_FALSE s_ERROR s_TRUE ((p2 &&& (2147483647 : Int32)) % (3 : Int32)))), .val (.ref (own_or s_FALSE s_ERROR s_TRUE (own_pick s_FALSE s_ERROR s_TRUE ((p1 &&& (2147483647 : Int32)) % (3 : Int32))) (own_pick s_FALSE s_ERROR s_TRUE ((p2 &&& (2147483647 : Int32)) % (3 : Int32)))))] [(.int (1 : Int32))])) (fun _ k => XS.goto X7.here hx rfl (pc0 := 37) (pc' := 41) rfl (hb hby at_37) (by decide) (by decide) k) ?_
  refine goN X7 hx (t := .boolean) Bd.returns (by simp) Bd.notSynchronized (hb hby at_41) ?_ (by decide) (by decide)
  show Q_rm0 Z p1 p2 s_FALSE s_ERROR s_TRUE h0 n0 _ T7.heap _
  rw [eh7]
  exact ⟨rfl, N7⟩
set_option maxRecDepth 65536 in
set_option maxHeartbeats 40000000 in
theorem comes_1 {Post : Tables → Env → Array Value → State → Outcome → State → Prop} (hpost : ∀ tb e args s v u, (limb_1_1.after args s (.returned v) u = true ∧ limb_1_2.after args s (.returned v) u = true ∧ True) → FrameEnd s (.returned v) u (Jvm.fieldLocs frame_1_writes args s ++ Jvm.arrayLocs frame_1_arrays args s ++ Jvm.staticLocs frame_1_statics s) 0 0 → Post tb e args s (.returned v) u) :
    ArmFor flags0 classFile x code maxLocals ret World_1 tables_1 room_1 Calls_1 rest_1 Pre_1 Post := by
  intro l hfl _ _ p e ha hc hk s m args below hf hA hF happ hP
  obtain ⟨hcalls, hrest, hpre⟩ := hP
  obtain ⟨-, -, -, hnamed, -, -, -, hat⟩ := (Spec.applies_iff hf).mp happ
  obtain ⟨hg, hn⟩ := and_e (Cond.before_iff.mp (show (Jvm.Cond.and given_1 narrow_1).before args s = true from hpre))
  obtain ⟨g1, g2⟩ := and_e hg
  obtain ⟨g3, g4⟩ := and_e g2
  obtain ⟨w0, w1, rfl⟩ : ∃ w0 w1 : Value, args = #[w0, w1] := by
    have hs : args.size = 2 := by simpa [Cond.value, given_1] using g1
    obtain ⟨L⟩ := args
    match L, hs with
    | [w0, w1], _ => exact ⟨w0, w1, rfl⟩
  have hw := fun d (hd : d ∈ tables_1) => atoms_spec (ws := Jvm.Cond.code x code maxLocals ret :: tables_1) hat d (List.mem_cons_of_mem _ hd)
  have hfit : Fit s := fun {y c} hc i hi => by
    obtain ⟨ha, rfl⟩ := Array.getElem?_eq_some_iff.mp hc
    have q := List.all_eq_true.mp ((Array.all_eq_true_iff_forall_mem.mp hF) _ (Array.getElem_mem ha)) i (List.mem_range.mpr hi)
    simpa [Array.getElem?_eq_getElem hi] using q
  obtain ⟨i0, ei0⟩ := is_v g3
  obtain rfl : w0 = (.int i0) := Option.some.inj ei0
  obtain ⟨i1, ei1⟩ := is_v g4
  obtain rfl : w1 = (.int i1) := Option.some.inj ei1
  obtain ⟨n1, m1⟩ := and_e hn
  obtain ⟨n2, m2⟩ := and_e m1
  obtain ⟨n3, m3⟩ := and_e m2
  obtain ⟨n4, m4⟩ := and_e m3
  obtain ⟨n5, n6⟩ := and_e m4
  obtain ⟨s_FALSE, ev_FALSE⟩ := exa_v n1
  have E_s_FALSE := Exa.start ev_FALSE n1
  have S_FALSE := Sta.start ev_FALSE (Or.inr ⟨(hw _ (List.mem_of_getElem? (i := 6) rfl)), (hw _ (List.mem_of_getElem? (i := 7) rfl))⟩)
  obtain ⟨s_TRUE, ev_TRUE⟩ := exa_v n2
  have E_s_TRUE := Exa.start ev_TRUE n2
  have S_TRUE := Sta.start ev_TRUE (Or.inr ⟨(hw _ (List.mem_of_getElem? (i := 6) rfl)), (hw _ (List.mem_of_getElem? (i := 14) rfl))⟩)
  obtain ⟨s_ERROR, ev_ERROR⟩ := exa_v n5
  have E_s_ERROR := Exa.start ev_ERROR n5
  have S_ERROR := Sta.start ev_ERROR (Or.inr ⟨(hw _ (List.mem_of_getElem? (i := 6) rfl)), (hw _ (List.mem_of_getElem? (i := 16) rfl))⟩)
  have F_ordinal_s_FALSE := Fld.start ((fld_at ev_FALSE).symm.trans (own_eqk n3))
  have F_ordinal_s_TRUE := Fld.start ((fld_at ev_TRUE).symm.trans (own_eqk n4))
  have F_ordinal_s_ERROR := Fld.start ((fld_at ev_ERROR).symm.trans (own_eqk n6))
  have hFE := Fld.ne F_ordinal_s_FALSE F_ordinal_s_ERROR (by decide)
  have hFT := Fld.ne F_ordinal_s_FALSE F_ordinal_s_TRUE (by decide)
  have hET := Fld.ne F_ordinal_s_ERROR F_ordinal_s_TRUE (by decide)
  obtain ⟨n, o, h1, h2, h3, _, L, rfl, ⟨rfl, N⟩, hq⟩ := rm0 l s _ hw tables_1 i0 i1 s_FALSE s_ERROR s_TRUE s.heap s.heap.size (Nat.le_refl _) E_s_FALSE E_s_ERROR E_s_TRUE (Old.start s) S_FALSE S_TRUE S_ERROR hFE hFT hET p e ha hc hk s m _ below hf ((Spec.applies_iff_loose hf).mp happ).1 ⟨rfl, State.Warmed39.refl s, rfl⟩ trivial
  refine ⟨n, _, h1, h2, h3, hpost _ _ _ _ _ _ ⟨Cond.after_iff.mpr rfl, Cond.after_iff.mpr (eq_i res_at (Term.int_eval (1)) rfl), trivial⟩ ⟨hq.1, hq.2.1, (hq.2.2.sift fun y hy => Or.inr (N y hy)).mono (by decide) (by decide)⟩⟩
theorem main_1_1 : Claimed_1_1 := comes_1 fun _ _ _ _ _ _ h hF => ⟨h.1, hF⟩
theorem main_1_2 : Claimed_1_2 := comes_1 fun _ _ _ _ _ _ h hF => ⟨h.2.1, hF⟩
end Jvm.Pilot.@@N@@
namespace Jvm.Pilot.@@N@@
open Jvm Jvm.ClassFile Sem Op Lib Jvm.Free Jvm.Stand Jvm.Pilot.@@N@@.Jvm.D
/-! MADE BY PROGRAM (witnessworld.py) out of the Statement's table words and the real class files: 13 classes; the members and pool entries that the words name. The judged class is class 1, her method 3. -/
namespace start1
open Jvm.ClassFile
def u (s : String) : CpInfo := .utf8 (stringToUtf16 s)
/-- a pool by its gaps: so many unusable entries, then the entry; so many at the end -/
def gap : Nat → List CpInfo → List CpInfo
  | 0, r => r
  | n + 1, r => .unusable :: gap n r
def poolList (es : List (Nat × CpInfo)) (last : Nat) : List CpInfo := es.foldr (fun e r => gap e.1 (e.2 :: r)) (gap last [])
def pool (es : List (Nat × CpInfo)) (last : Nat) : Array CpInfo := ⟨poolList es last⟩
def fileOf (pool : Array CpInfo) (this : Nat) (attrs : Array Attribute := #[]) (ms : Array MethodInfo := #[]) (fl : Nat := 33) (sup : Nat := 0) (ifs : Array Nat := #[]) (fds : Array FieldInfo := #[]) : ClassFile where
  minorVersion := 0
  majorVersion := 65
  constantPool := pool
  accessFlags := fl
  thisClass := this
  superClass := sup
  interfaces := ifs
  fields := fds
  methods := ms
  attributes := attrs
def plain (name : String) (sup : Option ClassId) : Class where
  name := name
  kind := .ordinary
  loader := none
  accessFlags := 33
  super := sup
  interfaces := #[]
  cf := none
  fields := #[]
  methods := #[]
  instanceTypes := #[]
  staticTypes := #[]
  resolved := #[]
  callSites := []
  init := .initialized
  statics := none
  mirror := none

def pool0 : Array CpInfo := pool [(5, u "<init>"), (0, u "()V"), (1, .class_ 10), (1, u "java/lang/Object")] 113

def k0m0 : Method := { name := "<init>", desc := "()V", sig := { parameters := [], returnType := none }, accessFlags := 1, code := none }
/-- java/lang/Object -/
def k0 : Class := { plain "java/lang/Object" none with
  accessFlags := 33
  interfaces := #[]
  cf := some (fileOf pool0 8 #[] #[{ accessFlags := 1, nameIndex := 5, descriptorIndex := 6, attributes := #[] }] 33 0 #[] #[])
  fields := #[]
  methods := #[k0m0]
  instanceTypes := #[]
  staticTypes := #[]
  resolved := Array.replicate 124 none
  statics := none }

def pool1 : Array CpInfo := pool [(2, .class_ 4), (1, u "java/lang/Object"), (0, u "<init>"), (0, u "()V"), (0, .integer 2147483647), (0, .fieldref 9 10), (0, .class_ 11), (0, .nameAndType 12 13), (0, u "com/example/bagwise/bagwise/engine/Truth"), (0, u "FALSE"), (0, u "Lcom/example/bagwise/bagwise/engine/Truth;"), (0, .fieldref 9 15), (0, .nameAndType 16 13), (0, u "ERROR"), (0, .fieldref 9 18), (0, .nameAndType 19 13), (0, u "TRUE"), (0, .methodref 21 22), (0, .class_ 23), (0, .nameAndType 24 25), (0, u "com/example/bagwise/bagwise/engine/TruthOrPinLaw"), (0, u "pick"), (0, u "(I)Lcom/example/bagwise/bagwise/engine/Truth;"), (0, .methodref 9 27), (0, .nameAndType 28 29), (0, u "or"), (0, u "(Lcom/example/bagwise/bagwise/engine/Truth;)Lcom/example/bagwise/bagwise/engine/Truth;"), (0, .methodref 21 31), (0, .nameAndType 32 33), (0, u "rank"), (0, u "(Lcom/example/bagwise/bagwise/engine/Truth;)I"), (0, .methodref 35 36), (0, .class_ 37), (0, .nameAndType 38 39), (0, u "java/lang/Math"), (0, u "max"), (0, u "(II)I"), (3, u "law"), (0, u "(II)Z")] 2

def k1m0 : Method := { name := "<init>", desc := "()V", sig := { parameters := [], returnType := none }, accessFlags := 2, code := none }
def k1c1 : Code := { maxStack := 2, maxLocals := 2, code := method_2_code, exceptionTable := #[], attributes := #[] }
def k1m1 : Method := { name := "pick", desc := "(I)Lcom/example/bagwise/bagwise/engine/Truth;", sig := { parameters := [.int], returnType := some (.object "com/example/bagwise/bagwise/engine/Truth") }, accessFlags := 10, code := some k1c1 }
def k1c2 : Code := { maxStack := 2, maxLocals := 1, code := method_3_code, exceptionTable := #[], attributes := #[] }
def k1m2 : Method := { name := "rank", desc := "(Lcom/example/bagwise/bagwise/engine/Truth;)I", sig := { parameters := [(.object "com/example/bagwise/bagwise/engine/Truth")], returnType := some .int }, accessFlags := 10, code := some k1c2 }
def k1c3 : Code := { maxStack := 3, maxLocals := 5, code := code, exceptionTable := #[], attributes := #[] }
def k1m3 : Method := { name := "law", desc := "(II)Z", sig := { parameters := [.int, .int], returnType := some .boolean }, accessFlags := 9, code := some k1c3 }
/-- com/example/bagwise/bagwise/engine/TruthOrPinLaw -/
def k1 : Class := { plain "com/example/bagwise/bagwise/engine/TruthOrPinLaw" (some 0) with
  accessFlags := 49
  interfaces := #[]
  cf := some (fileOf pool1 21 #[] #[{ accessFlags := 2, nameIndex := 5, descriptorIndex := 6, attributes := #[] }, { accessFlags := 10, nameIndex := 24, descriptorIndex := 25, attributes := #[] }, { accessFlags := 10, nameIndex := 32, descriptorIndex := 33, attributes := #[] }, { accessFlags := 9, nameIndex := 43, descriptorIndex := 44, attributes := #[] }] 49 2 #[] #[])
  fields := #[]
  methods := #[k1m0, k1m1, k1m2, k1m3]
  instanceTypes := #[]
  staticTypes := #[]
  resolved := Array.replicate 47 none
  statics := none }

def pool2 : Array CpInfo := pool [(1, .class_ 2), (0, u "java/lang/constant/Constable"), (0, .class_ 4), (0, u "java/lang/Object")] 6

/-- java/lang/constant/Constable -/
def k2 : Class := { plain "java/lang/constant/Constable" (some 0) with
  accessFlags := 1537
  interfaces := #[]
  cf := some (fileOf pool2 1 #[] #[] 1537 3 #[] #[])
  fields := #[]
  methods := #[]
  instanceTypes := #[]
  staticTypes := #[]
  resolved := Array.replicate 11 none
  statics := none }

def pool3 : Array CpInfo := pool [(1, .class_ 2), (0, u "java/lang/Comparable"), (0, .class_ 4), (0, u "java/lang/Object")] 7

/-- java/lang/Comparable -/
def k3 : Class := { plain "java/lang/Comparable" (some 0) with
  accessFlags := 1537
  interfaces := #[]
  cf := some (fileOf pool3 1 #[] #[] 1537 3 #[] #[])
  fields := #[]
  methods := #[]
  instanceTypes := #[]
  staticTypes := #[]
  resolved := Array.replicate 12 none
  statics := none }

def pool4 : Array CpInfo := pool [(1, .class_ 2), (0, u "java/io/Serializable"), (0, .class_ 4), (0, u "java/lang/Object")] 2

/-- java/io/Serializable -/
def k4 : Class := { plain "java/io/Serializable" (some 0) with
  accessFlags := 1537
  interfaces := #[]
  cf := some (fileOf pool4 1 #[] #[] 1537 3 #[] #[])
  fields := #[]
  methods := #[]
  instanceTypes := #[]
  staticTypes := #[]
  resolved := Array.replicate 7 none
  statics := none }

def pool5 : Array CpInfo := pool [(2, .class_ 4), (1, u "java/lang/Enum"), (0, u "name"), (0, u "Ljava/lang/String;"), (2, u "ordinal"), (0, u "I"), (1, .class_ 14), (1, u "java/lang/Object"), (4, u "hash"), (86, .class_ 108), (1, u "java/lang/Enum$EnumDesc"), (2, .class_ 112), (0, u "java/lang/constant/Constable"), (0, .class_ 114), (0, u "java/lang/Comparable"), (0, .class_ 116), (0, u "java/io/Serializable")] 87

/-- java/lang/Enum -/
def k5 : Class := { plain "java/lang/Enum" (some 0) with
  accessFlags := 1057
  interfaces := #[2, 3, 4]
  cf := some (fileOf pool5 2 #[.nestMembers #[106]] #[] 1057 12 #[111, 113, 115] #[{ accessFlags := 18, nameIndex := 5, descriptorIndex := 6, attributes := #[] }, { accessFlags := 18, nameIndex := 9, descriptorIndex := 10, attributes := #[] }, { accessFlags := 2, nameIndex := 19, descriptorIndex := 10, attributes := #[] }])
  fields := #[{ name := "name", type := (.object "java/lang/String"), accessFlags := 18, slot := 0, constantValue := 0 }, { name := "ordinal", type := .int, accessFlags := 18, slot := 1, constantValue := 0 }, { name := "hash", type := .int, accessFlags := 2, slot := 2, constantValue := 0 }]
  methods := #[]
  instanceTypes := #[(.object "java/lang/String"), .int, .int]
  staticTypes := #[]
  resolved := Array.replicate 204 none
  statics := none }

def pool6 : Array CpInfo := pool [(1, .class_ 2), (0, u "com/example/bagwise/bagwise/engine/Truth"), (0, .fieldref 1 4), (0, .nameAndType 5 6), (0, u "TRUE"), (0, u "Lcom/example/bagwise/bagwise/engine/Truth;"), (0, .fieldref 1 8), (0, .nameAndType 9 6), (0, u "FALSE"), (0, .fieldref 1 11), (0, .nameAndType 12 6), (0, u "ERROR"), (2, u "$VALUES"), (0, u "[Lcom/example/bagwise/bagwise/engine/Truth;"), (6, .class_ 25), (1, u "java/lang/Enum"), (31, u "(Lcom/example/bagwise/bagwise/engine/Truth;)Lcom/example/bagwise/bagwise/engine/Truth;"), (0, u "or")] 4

def k6c0 : Code := { maxStack := 2, maxLocals := 3, code := prog_92_method_7_code, exceptionTable := #[], attributes := #[] }
def k6m0 : Method := { name := "or", desc := "(Lcom/example/bagwise/bagwise/engine/Truth;)Lcom/example/bagwise/bagwise/engine/Truth;", sig := { parameters := [(.object "com/example/bagwise/bagwise/engine/Truth")], returnType := some (.object "com/example/bagwise/bagwise/engine/Truth") }, accessFlags := 0, code := some k6c0 }
/-- com/example/bagwise/bagwise/engine/Truth -/
def k6 : Class := { plain "com/example/bagwise/bagwise/engine/Truth" (some 5) with
  accessFlags := 16432
  interfaces := #[]
  cf := some (fileOf pool6 1 #[] #[{ accessFlags := 0, nameIndex := 58, descriptorIndex := 57, attributes := #[] }] 16432 23 #[] #[{ accessFlags := 16409, nameIndex := 5, descriptorIndex := 6, attributes := #[] }, { accessFlags := 16409, nameIndex := 9, descriptorIndex := 6, attributes := #[] }, { accessFlags := 16409, nameIndex := 12, descriptorIndex := 6, attributes := #[] }, { accessFlags := 4122, nameIndex := 15, descriptorIndex := 16, attributes := #[] }])
  fields := #[{ name := "TRUE", type := (.object "com/example/bagwise/bagwise/engine/Truth"), accessFlags := 16409, slot := 0, constantValue := 0 }, { name := "FALSE", type := (.object "com/example/bagwise/bagwise/engine/Truth"), accessFlags := 16409, slot := 1, constantValue := 0 }, { name := "ERROR", type := (.object "com/example/bagwise/bagwise/engine/Truth"), accessFlags := 16409, slot := 2, constantValue := 0 }, { name := "$VALUES", type := (.array (.object "com/example/bagwise/bagwise/engine/Truth")), accessFlags := 4122, slot := 3, constantValue := 0 }]
  methods := #[k6m0]
  instanceTypes := #[(.object "java/lang/String"), .int, .int]
  staticTypes := #[(.object "com/example/bagwise/bagwise/engine/Truth"), (.object "com/example/bagwise/bagwise/engine/Truth"), (.object "com/example/bagwise/bagwise/engine/Truth"), (.array (.object "com/example/bagwise/bagwise/engine/Truth"))]
  resolved := Array.replicate 63 none
  statics := some 0 }

def pool7 : Array CpInfo := pool [(1, .class_ 2), (0, u "java/lang/Math"), (1, .class_ 6), (1, u "java/lang/Object"), (0, u "<init>"), (0, u "()V"), (89, .class_ 100), (1, u "java/lang/Math$RandomNumberGeneratorHolder"), (71, u "negativeZeroFloatBits"), (0, u "J"), (2, u "negativeZeroDoubleBits"), (21, u "max"), (46, u "$assertionsDisabled"), (0, u "Z"), (88, u "(II)I"), (2, u "twoToTheDoubleScaleDown"), (0, u "D"), (4, u "twoToTheDoubleScaleUp"), (9, u "E"), (3, u "PI"), (2, u "TAU"), (2, u "DEGREES_TO_RADIANS"), (0, u "RADIANS_TO_DEGREES")] 94

def k7m0 : Method := { name := "<init>", desc := "()V", sig := { parameters := [], returnType := none }, accessFlags := 2, code := none }
def k7c1 : Code := { maxStack := 2, maxLocals := 2, code := jdk_29_method_65_code, exceptionTable := #[], attributes := #[] }
def k7m1 : Method := { name := "max", desc := "(II)I", sig := { parameters := [.int, .int], returnType := some .int }, accessFlags := 9, code := some k7c1 }
/-- java/lang/Math -/
def k7 : Class := { plain "java/lang/Math" (some 0) with
  accessFlags := 49
  interfaces := #[]
  cf := some (fileOf pool7 1 #[.nestMembers #[98]] #[{ accessFlags := 2, nameIndex := 7, descriptorIndex := 8, attributes := #[] }, { accessFlags := 9, nameIndex := 198, descriptorIndex := 335, attributes := #[] }] 49 4 #[] #[{ accessFlags := 25, nameIndex := 354, descriptorIndex := 339, attributes := #[] }, { accessFlags := 25, nameIndex := 358, descriptorIndex := 339, attributes := #[] }, { accessFlags := 25, nameIndex := 361, descriptorIndex := 339, attributes := #[] }, { accessFlags := 26, nameIndex := 364, descriptorIndex := 339, attributes := #[] }, { accessFlags := 26, nameIndex := 365, descriptorIndex := 339, attributes := #[] }, { accessFlags := 26, nameIndex := 172, descriptorIndex := 173, attributes := #[] }, { accessFlags := 26, nameIndex := 176, descriptorIndex := 173, attributes := #[] }, { accessFlags := 8, nameIndex := 344, descriptorIndex := 339, attributes := #[] }, { accessFlags := 8, nameIndex := 338, descriptorIndex := 339, attributes := #[] }, { accessFlags := 4120, nameIndex := 245, descriptorIndex := 246, attributes := #[] }])
  fields := #[{ name := "E", type := .double, accessFlags := 25, slot := 0, constantValue := 0 }, { name := "PI", type := .double, accessFlags := 25, slot := 1, constantValue := 0 }, { name := "TAU", type := .double, accessFlags := 25, slot := 2, constantValue := 0 }, { name := "DEGREES_TO_RADIANS", type := .double, accessFlags := 26, slot := 3, constantValue := 0 }, { name := "RADIANS_TO_DEGREES", type := .double, accessFlags := 26, slot := 4, constantValue := 0 }, { name := "negativeZeroFloatBits", type := .long, accessFlags := 26, slot := 5, constantValue := 0 }, { name := "negativeZeroDoubleBits", type := .long, accessFlags := 26, slot := 6, constantValue := 0 }, { name := "twoToTheDoubleScaleUp", type := .double, accessFlags := 8, slot := 7, constantValue := 0 }, { name := "twoToTheDoubleScaleDown", type := .double, accessFlags := 8, slot := 8, constantValue := 0 }, { name := "$assertionsDisabled", type := .boolean, accessFlags := 4120, slot := 9, constantValue := 0 }]
  methods := #[k7m0, k7m1]
  instanceTypes := #[]
  staticTypes := #[.double, .double, .double, .double, .double, .long, .long, .double, .double, .boolean]
  resolved := Array.replicate 460 none
  statics := none }

def pool8 : Array CpInfo := pool [(1, u "java/lang/Cloneable"), (0, .class_ 1), (0, u "java/lang/Object"), (0, .class_ 3)] 3

/-- java/lang/Cloneable -/
def k8 : Class := { plain "java/lang/Cloneable" (some 0) with
  accessFlags := 1537
  interfaces := #[]
  cf := some (fileOf pool8 2 #[] #[] 1537 4 #[] #[])
  fields := #[]
  methods := #[]
  instanceTypes := #[]
  staticTypes := #[]
  resolved := Array.replicate 8 none
  statics := none }

/-- the primitive byte -/
def k9 : Class := { plain "byte" none with kind := .primitive 'B', accessFlags := 0x411 }
/-- [B -/
def k10 : Class := { plain "[B" (some 0) with kind := .array 9 .byte, interfaces := #[8, 4], accessFlags := 1041 }

/-- the primitive int -/
def k11 : Class := { plain "int" none with kind := .primitive 'I', accessFlags := 0x411 }
/-- [I -/
def k12 : Class := { plain "[I" (some 0) with kind := .array 11 .int, interfaces := #[8, 4], accessFlags := 1041 }

def heap : Heap := #[{ cls := 6, slots := #[.ref 1, .ref 2, .ref 3, .null], vm := .statics 6 },
  { cls := 6, slots := #[.null, .int 0, .int 0], vm := .none },
  { cls := 6, slots := #[.null, .int 1, .int 0], vm := .none },
  { cls := 6, slots := #[.null, .int 2, .int 0], vm := .none }]
def classes : Array Class := #[k0, k1, k2, k3, k4, k5, k6, k7, k8, k9, k10, k11, k12]
def interned : List (Array UInt16 × Addr) := []
def slotsUsed : Nat := 13
def theMethod : MethodId := ⟨1, 3⟩
def args0 : Array Value := #[.int 5, .int 7]
def aboutOver (below : List Frame) : State where
  vm := { classes := classes, interned := interned.toArray }
  heap := heap
  slotsUsed := slotsUsed
  threads := #[{ frames := .invoking theMethod args0 :: below }]
def below0 : List Frame := [.native { method := ⟨0, 0⟩, args := #[] }]
def about1 : State := aboutOver below0
def p0 : Program := .bare "" "" ""
def e0 : Env := launch0.env 0 0 0
theorem w_frames : about1.frames = Frame.invoking theMethod args0 :: below0 := rfl
set_option maxRecDepth 65536 in
theorem w_args : argsFit about1.vm theMethod args0 = true := by decide +kernel
set_option maxRecDepth 65536 in
theorem w_heap : heapFits about1 = true := by decide +kernel
set_option maxRecDepth 65536 in
theorem w_runnable : about1.curStatus? = some .runnable := by decide +kernel
set_option maxRecDepth 65536 in
theorem w_alone : about1.alone = true := by decide +kernel
set_option maxRecDepth 65536 in
theorem w_named : about1.methodNamed? x = some theMethod := by decide +kernel
set_option maxRecDepth 65536 in
theorem w_hears : about1.hears theMethod below0 = true := by decide +kernel
set_option maxRecDepth 65536 in
theorem w_ripe : about1.ripe theMethod args0 below0 = true := by decide +kernel
theorem w_running : about1.status = .running := rfl
set_option maxRecDepth 65536 in
theorem w_room : about1.hasRoom e0.platform room_1 = true :=
  launch0.hasRoom_least _ room_1 (by decide +kernel) (by decide +kernel) (by decide +kernel) (by decide +kernel) (by decide +kernel) (by decide +kernel)
theorem allAtoms_all (ts : List Jvm.Cond) (a : Array Jvm.Value) (st : Jvm.State) : (allAtoms ts).before a st = ts.all (fun c => c.before a st) := by
  induction ts with
  | nil => rfl
  | cons c t ih =>
    show (Jvm.Cond.and c (allAtoms t)).before a st = _
    rw [Jvm.Cond.before_and, ih, List.all_cons]
def words1 : List Jvm.Cond := Jvm.Cond.code x code maxLocals ret :: tables_1
/-- a 'code' word, met by the world's own term for the bytes: nothing is compared byte by byte -/
theorem code_word {y : MethodName} {bytes : ByteArray} {mx : Nat} {rt : Option FieldType} {a : Array Value} {s : State} {m : MethodId} {meth : Method} {c : Code} (h1 : s.methodNamed? y = some m) (h2 : s.vm.method? m = some meth) (h3 : meth.code = some c) (h4 : c.code = bytes)
    (h5 : (c.maxLocals == mx && c.exceptionTable.isEmpty && decide (c.maxStack ≤ mostOperands) && decide (meth.sig.returnType = rt) && !meth.locks && decide (parseMethodDescriptor y.desc = some meth.sig)) = true) : (Jvm.Cond.code y bytes mx rt).before a s = true := by
  simp only [Bool.and_eq_true, beq_iff_eq, Bool.not_eq_true', decide_eq_true_eq] at h5
  obtain ⟨⟨⟨⟨⟨g1, g2⟩, g3⟩, g4⟩, g5⟩, g6⟩ := h5
  simp [Cond.before, Cond.holds, Cond.value, h1, h2, h3, h4, g1, g2, g3, g4, g5, g6]
def isCode : Jvm.Cond → Bool
  | .code _ _ _ _ => true
  | _ => false
theorem all_split {L : List Jvm.Cond} {P : Jvm.Cond → Bool} (h1 : L.all (fun c => isCode c || P c) = true) (h2 : ∀ c ∈ L.filter isCode, P c = true) : L.all P = true := by
  refine List.all_eq_true.mpr fun c hc => ?_
  have h := List.all_eq_true.mp h1 c hc
  rcases Bool.eq_false_or_eq_true (isCode c) with hi | hi
  · exact h2 c (List.mem_filter.mpr ⟨hc, hi⟩)
  · simpa [hi] using h
set_option maxRecDepth 65536 in
theorem w_c0 : (Jvm.Cond.code x code maxLocals ret).before args0 about1 = true := code_word (m := ⟨1, 3⟩) (meth := k1m3) (c := k1c3) (by decide +kernel) rfl rfl rfl (by decide +kernel)
set_option maxRecDepth 65536 in
theorem w_c1 : (Jvm.Cond.code ({ cls := "com/example/bagwise/bagwise/engine/TruthOrPinLaw", name := "pick", desc := "(I)Lcom/example/bagwise/bagwise/engine/Truth;" } : Jvm.MethodName) method_2_code (2 : Nat) (Option.some (Jvm.ClassFile.FieldType.object "com/example/bagwise/bagwise/engine/Truth"))).before args0 about1 = true := code_word (m := ⟨1, 1⟩) (meth := k1m1) (c := k1c1) (by decide +kernel) rfl rfl rfl (by decide +kernel)
set_option maxRecDepth 65536 in
theorem w_c2 : (Jvm.Cond.code ({ cls := "com/example/bagwise/bagwise/engine/Truth", name := "or", desc := "(Lcom/example/bagwise/bagwise/engine/Truth;)Lcom/example/bagwise/bagwise/engine/Truth;" } : Jvm.MethodName) prog_92_method_7_code (3 : Nat) (Option.some (Jvm.ClassFile.FieldType.object "com/example/bagwise/bagwise/engine/Truth"))).before args0 about1 = true := code_word (m := ⟨6, 0⟩) (meth := k6m0) (c := k6c0) (by decide +kernel) rfl rfl rfl (by decide +kernel)
set_option maxRecDepth 65536 in
theorem w_c3 : (Jvm.Cond.code ({ cls := "com/example/bagwise/bagwise/engine/TruthOrPinLaw", name := "rank", desc := "(Lcom/example/bagwise/bagwise/engine/Truth;)I" } : Jvm.MethodName) method_3_code (1 : Nat) (Option.some Jvm.ClassFile.FieldType.int)).before args0 about1 = true := code_word (m := ⟨1, 2⟩) (meth := k1m2) (c := k1c2) (by decide +kernel) rfl rfl rfl (by decide +kernel)
set_option maxRecDepth 65536 in
theorem w_c4 : (Jvm.Cond.code ({ cls := "java/lang/Math", name := "max", desc := "(II)I" } : Jvm.MethodName) jdk_29_method_65_code (2 : Nat) (Option.some Jvm.ClassFile.FieldType.int)).before args0 about1 = true := code_word (m := ⟨7, 1⟩) (meth := k7m1) (c := k7c1) (by decide +kernel) rfl rfl rfl (by decide +kernel)
def codes1 : List Jvm.Cond := [Jvm.Cond.code x code maxLocals ret, Jvm.Cond.code ({ cls := "com/example/bagwise/bagwise/engine/TruthOrPinLaw", name := "pick", desc := "(I)Lcom/example/bagwise/bagwise/engine/Truth;" } : Jvm.MethodName) method_2_code (2 : Nat) (Option.some (Jvm.ClassFile.FieldType.object "com/example/bagwise/bagwise/engine/Truth")), Jvm.Cond.code ({ cls := "com/example/bagwise/bagwise/engine/Truth", name := "or", desc := "(Lcom/example/bagwise/bagwise/engine/Truth;)Lcom/example/bagwise/bagwise/engine/Truth;" } : Jvm.MethodName) prog_92_method_7_code (3 : Nat) (Option.some (Jvm.ClassFile.FieldType.object "com/example/bagwise/bagwise/engine/Truth")), Jvm.Cond.code ({ cls := "com/example/bagwise/bagwise/engine/TruthOrPinLaw", name := "rank", desc := "(Lcom/example/bagwise/bagwise/engine/Truth;)I" } : Jvm.MethodName) method_3_code (1 : Nat) (Option.some Jvm.ClassFile.FieldType.int), Jvm.Cond.code ({ cls := "java/lang/Math", name := "max", desc := "(II)I" } : Jvm.MethodName) jdk_29_method_65_code (2 : Nat) (Option.some Jvm.ClassFile.FieldType.int)]
set_option maxRecDepth 65536 in
theorem codes_eq : words1.filter isCode = codes1 := rfl
theorem w_codes : ∀ c ∈ words1.filter isCode, c.before args0 about1 = true := by
  rw [codes_eq]
  intro c hc
  simp only [codes1, List.mem_cons, List.not_mem_nil, or_false] at hc
  rcases hc with rfl | rfl | rfl | rfl | rfl
  · exact w_c0
  · exact w_c1
  · exact w_c2
  · exact w_c3
  · exact w_c4
set_option maxRecDepth 65536 in
theorem w_t1 : (words1.take 24).all (fun c => isCode c || c.before args0 about1) = true := by decide +kernel
set_option maxRecDepth 65536 in
theorem w_t2 : (words1.drop 24).all (fun c => isCode c || c.before args0 about1) = true := by decide +kernel
theorem w_tables : (allAtoms (Jvm.Cond.code x code maxLocals ret :: tables_1)).before args0 about1 = true := by
  rw [allAtoms_all]
  show words1.all (fun c => c.before args0 about1) = true
  refine all_split ?_ w_codes
  rw [← List.take_append_drop 24 words1, List.all_append, w_t1, w_t2]
  rfl
set_option maxRecDepth 65536 in
theorem w_case : (Jvm.Cond.and given_1 narrow_1).before args0 about1 = true := by decide +kernel
theorem w_applies : (headSpec (Jvm.Cond.code x code maxLocals ret :: tables_1) room_1).applies x e0.platform about1 = true :=
  (Spec.applies_iff w_frames).mpr ⟨w_running, w_runnable, w_alone, w_named, w_hears, w_ripe, w_room, w_tables⟩
theorem atStart : AtStart classFile x code maxLocals ret World_1 tables_1 room_1 Calls_1 rest_1 Pre_1 launch0 p0 e0 about1 theMethod args0 below0 :=
  ⟨lists_1, trivial, launch0.admits_env _ _ _, launch0.least_env, fairChoices_fair.cas, fairChoices_fair.clock, w_frames, w_args, w_heap, w_applies, trivial, trivial, w_case⟩
end start1
theorem witness_1 : WitnessClaimed_1 := ⟨start1.p0, start1.e0, start1.about1, start1.theMethod, start1.args0, start1.below0, start1.atStart⟩
end Jvm.Pilot.@@N@@
