import JvmDerived
import JvmDerived.Pilot.@@N@@Statement
import JvmDerived.Pilot.@@N@@Code
set_option linter.unusedVariables false
set_option linter.unusedSimpArgs false
namespace Jvm.Pilot.@@N@@
open Jvm Jvm.ClassFile Sem Op Lib Jvm.Free Jvm.Stand Jvm.LawKit Jvm.RoadKit Bundle Jvm.Pilot.@@N@@.Jvm.D
def Go (p : Program) (e : Env) (below : List Frame) (G : State → Prop) (T : State) (f : JFrame) : Prop := ∃ t, Steps p.tables e below (T.setTop f) t ∧ G t
theorem Go.step {p : Program} {e : Env} {below : List Frame} {G : State → Prop} {T T' : State} {f f' : JFrame} (k : ∀ t, Steps p.tables e below (T'.setTop f') t → Steps p.tables e below (T.setTop f) t) (h : Go p e below G T' f') : Go p e below G T f := by
  obtain ⟨t, h1, h2⟩ := h
  exact ⟨t, k t h1, h2⟩
def Fin1 (s : State) (below : List Frame) (Q : Option Value → Heap → List Loc → Prop) (k n : Nat) (t : State) : Prop := ∃ o, t.status = .running ∧ Ended t below o ∧ ∃ v L, o = .returned v ∧ Q v t.heap L ∧ FrameEnd s o t L k n
theorem of_go {p : Program} {e : Env} {below : List Frame} {s s₁ : State} {Q : Option Value → Heap → List Loc → Prop} {k n : Nat} {f f' : JFrame} (hf : f' = f) (h : Go p e below (Fin1 s below Q k n) s₁ f) :
    ∃ s₂ o, Steps p.tables e below (s₁.setTop f') s₂ ∧ s₂.status = .running ∧ Ended s₂ below o ∧ ∃ v L, o = .returned v ∧ Q v s₂.heap L ∧ FrameEnd s o s₂ L k n := by
  subst hf
  obtain ⟨t, h1, o, h2, h3, h4⟩ := h
  exact ⟨t, o, h1, h2, h3, h4⟩
section Ends
variable {p : Program} {l : Launch} {e : Env} {R : Room} {s : State} {m : MethodId} {args : Array Value} {below : List Frame} {meth : Method} {c : Code} {T : State} {locs : List Loc} {cells slots : Nat} {Q : Option Value → Heap → List Loc → Prop} {k n : Nat}
theorem goN (X : Stand p l e R s m args below meth c T locs cells slots) (hx : p.tables.exec = Jvm.exec) {pc : Nat} {Ls : Array Slot} {z : Int32} {t : FieldType} {rest : List Value} (hret : meth.sig.returnType = some t) (ht : t = .boolean ∨ t = .byte ∨ t = .char ∨ t = .short) (hlk : meth.locks = false)
    (hd : decode c.code pc = .ok (.ireturn, 1)) (hQ : Q (some (.int (nar t z))) T.heap locs) (hk : cells ≤ k) (hn : slots ≤ n) : Go p e below (Fin1 s below Q k n) T (mkF m pc Ls (.int z :: rest)) := by
  obtain ⟨fs, hr, hrun, hended, hW, hsame⟩ := X.leave (v := some (.int (nar t z))) (fun h => by rw [hret] at h; cases h) hlk
  exact ⟨_, Jvm.RoadKit.retN X hx hret ht hd hr, _, hrun, hended, _, _, rfl, hQ, ⟨_, rfl⟩, hW, hsame.mono hk hn⟩
theorem goO (X : Stand p l e R s m args below meth c T locs cells slots) (hx : p.tables.exec = Jvm.exec) {pc : Nat} {Ls : Array Slot} {w : Value} {t : FieldType} {i : Instr} {rest : List Value} (hret : meth.sig.returnType = some t) (hnw : narrow t w = w)
    (hi : (i = .ireturn ∧ (t = .int ∨ t = .boolean ∨ t = .byte ∨ t = .char ∨ t = .short) ∧ ∃ z, w = .int z) ∨ (i = .lreturn ∧ t = .long ∧ ∃ z, w = .long z) ∨ (i = .dreturn ∧ t = .double ∧ ∃ z, w = .double z) ∨ (i = .freturn ∧ t = .float ∧ ∃ z, w = .float z) ∨ (i = .areturn ∧ t.isReference = true ∧ w.isRef = true)) (hlk : meth.locks = false)
    (hd : decode c.code pc = .ok (i, 1)) (hQ : Q (some w) T.heap locs) (hk : cells ≤ k) (hn : slots ≤ n) : Go p e below (Fin1 s below Q k n) T (mkF m pc Ls (w :: rest)) := by
  obtain ⟨fs, hr, hrun, hended, hW, hsame⟩ := X.leave (v := some w) (fun h => by rw [hret] at h; cases h) hlk
  exact ⟨_, Jvm.RoadKit.retOut X hx hret hnw hi hd hr, _, hrun, hended, _, _, rfl, hQ, ⟨_, rfl⟩, hW, hsame.mono hk hn⟩
theorem goI (X : Stand p l e R s m args below meth c T locs cells slots) (hx : p.tables.exec = Jvm.exec) {pc : Nat} {Ls : Array Slot} {z : Int32} {rest : List Value} (hret : meth.sig.returnType = some .int) (hlk : meth.locks = false)
    (hd : decode c.code pc = .ok (.ireturn, 1)) (hQ : Q (some (.int z)) T.heap locs) (hk : cells ≤ k) (hn : slots ≤ n) : Go p e below (Fin1 s below Q k n) T (mkF m pc Ls (.int z :: rest)) :=
  goO X hx hret rfl (Or.inl ⟨rfl, Or.inl rfl, _, rfl⟩) hlk hd hQ hk hn
theorem goJ (X : Stand p l e R s m args below meth c T locs cells slots) (hx : p.tables.exec = Jvm.exec) {pc : Nat} {Ls : Array Slot} {z : Int64} {rest : List Value} (hret : meth.sig.returnType = some .long) (hlk : meth.locks = false)
    (hd : decode c.code pc = .ok (.lreturn, 1)) (hQ : Q (some (.long z)) T.heap locs) (hk : cells ≤ k) (hn : slots ≤ n) : Go p e below (Fin1 s below Q k n) T (mkF m pc Ls (.long z :: rest)) :=
  goO X hx hret rfl (Or.inr (Or.inl ⟨rfl, rfl, _, rfl⟩)) hlk hd hQ hk hn
theorem goA (X : Stand p l e R s m args below meth c T locs cells slots) (hx : p.tables.exec = Jvm.exec) {pc : Nat} {Ls : Array Slot} {w : Value} {t : FieldType} {rest : List Value} (hret : meth.sig.returnType = some t) (ht : t.isReference = true) (hw : w.isRef = true) (hlk : meth.locks = false)
    (hd : decode c.code pc = .ok (.areturn, 1)) (hQ : Q (some w) T.heap locs) (hk : cells ≤ k) (hn : slots ≤ n) : Go p e below (Fin1 s below Q k n) T (mkF m pc Ls (w :: rest)) :=
  goO X hx hret (by cases t <;> cases w <;> first | rfl | (simp [FieldType.isReference] at ht; done) | (simp [Value.isRef] at hw; done)) (Or.inr (Or.inr (Or.inr (Or.inr ⟨rfl, ht, hw⟩)))) hlk hd hQ hk hn
theorem goV (X : Stand p l e R s m args below meth c T locs cells slots) (hx : p.tables.exec = Jvm.exec) {pc : Nat} {Ls : Array Slot} (hret : meth.sig.returnType = none) (hlk : meth.locks = false)
    (hd : decode c.code pc = .ok (.return_, 1)) (hQ : Q none T.heap locs) (hk : cells ≤ k) (hn : slots ≤ n) : Go p e below (Fin1 s below Q k n) T (mkF m pc Ls []) := by
  obtain ⟨fs, hr, hrun, hended, hW, hsame⟩ := X.leave (v := none) (fun _ => rfl) hlk
  exact ⟨_, X.returnOut hx hret hd hr, _, hrun, hended, _, _, rfl, hQ, ⟨_, rfl⟩, hW, hsame.mono hk hn⟩
def FinW (s : State) (below : List Frame) (Q : Option Value → Heap → List Loc → Prop) (k n : Nat) (t : State) : Prop := ∃ o, t.status = .running ∧ Ended t below o ∧ ∃ v L, o = .returned v ∧ Q v t.heap L ∧ ReturnedEndW s o t L k n
theorem of_goW {p : Program} {e : Env} {below : List Frame} {s s₁ : State} {Q : Option Value → Heap → List Loc → Prop} {k n : Nat} {f f' : JFrame} (hf : f' = f) (h : Go p e below (FinW s below Q k n) s₁ f) :
    ∃ s₂ o, Steps p.tables e below (s₁.setTop f') s₂ ∧ s₂.status = .running ∧ Ended s₂ below o ∧ ∃ v L, o = .returned v ∧ Q v s₂.heap L ∧ ReturnedEndW s o s₂ L k n := by
  subst hf
  obtain ⟨t, h1, o, h2, h3, h4⟩ := h
  exact ⟨t, o, h1, h2, h3, h4⟩
theorem goNW {vm0 : Vm} {n1 : Nat} (hS : s.Since vm0 n1) (X : Stand p l e R (s.setVm vm0) m args below meth c T locs cells slots) (hkk : n1 ≤ T.heap.size) (hx : p.tables.exec = Jvm.exec) {pc : Nat} {Ls : Array Slot} {z : Int32} {t : FieldType} {rest : List Value} (hret : meth.sig.returnType = some t) (ht : t = .boolean ∨ t = .byte ∨ t = .char ∨ t = .short) (hlk : meth.locks = false)
    (hd : decode c.code pc = .ok (.ireturn, 1)) (hQ : Q (some (.int (nar t z))) T.heap locs) (hk : cells ≤ k) (hn : slots ≤ n) : Go p e below (FinW s below Q k n) T (mkF m pc Ls (.int z :: rest)) := by
  obtain ⟨fs, hr, hrun, hended, hW, hsame⟩ := X.leave (v := some (.int (nar t z))) (fun h => by rw [hret] at h; cases h) hlk
  obtain ⟨a1, a2, a3⟩ := hS.ended hW (show n1 ≤ (T.setFrames fs).heap.size from hkk) hsame
  exact ⟨_, Jvm.RoadKit.retN X hx hret ht hd hr, _, hrun, hended, _, _, rfl, hQ, ⟨_, rfl⟩, a1, a2, a3.mono hk hn⟩
theorem goOW {vm0 : Vm} {n1 : Nat} (hS : s.Since vm0 n1) (X : Stand p l e R (s.setVm vm0) m args below meth c T locs cells slots) (hkk : n1 ≤ T.heap.size) (hx : p.tables.exec = Jvm.exec) {pc : Nat} {Ls : Array Slot} {w : Value} {t : FieldType} {i : Instr} {rest : List Value} (hret : meth.sig.returnType = some t) (hnw : narrow t w = w)
    (hi : (i = .ireturn ∧ (t = .int ∨ t = .boolean ∨ t = .byte ∨ t = .char ∨ t = .short) ∧ ∃ z, w = .int z) ∨ (i = .lreturn ∧ t = .long ∧ ∃ z, w = .long z) ∨ (i = .dreturn ∧ t = .double ∧ ∃ z, w = .double z) ∨ (i = .freturn ∧ t = .float ∧ ∃ z, w = .float z) ∨ (i = .areturn ∧ t.isReference = true ∧ w.isRef = true)) (hlk : meth.locks = false)
    (hd : decode c.code pc = .ok (i, 1)) (hQ : Q (some w) T.heap locs) (hk : cells ≤ k) (hn : slots ≤ n) : Go p e below (FinW s below Q k n) T (mkF m pc Ls (w :: rest)) := by
  obtain ⟨fs, hr, hrun, hended, hW, hsame⟩ := X.leave (v := some w) (fun h => by rw [hret] at h; cases h) hlk
  obtain ⟨a1, a2, a3⟩ := hS.ended hW (show n1 ≤ (T.setFrames fs).heap.size from hkk) hsame
  exact ⟨_, Jvm.RoadKit.retOut X hx hret hnw hi hd hr, _, hrun, hended, _, _, rfl, hQ, ⟨_, rfl⟩, a1, a2, a3.mono hk hn⟩
theorem goIW {vm0 : Vm} {n1 : Nat} (hS : s.Since vm0 n1) (X : Stand p l e R (s.setVm vm0) m args below meth c T locs cells slots) (hkk : n1 ≤ T.heap.size) (hx : p.tables.exec = Jvm.exec) {pc : Nat} {Ls : Array Slot} {z : Int32} {rest : List Value} (hret : meth.sig.returnType = some .int) (hlk : meth.locks = false)
    (hd : decode c.code pc = .ok (.ireturn, 1)) (hQ : Q (some (.int z)) T.heap locs) (hk : cells ≤ k) (hn : slots ≤ n) : Go p e below (FinW s below Q k n) T (mkF m pc Ls (.int z :: rest)) :=
  goOW hS X hkk hx hret rfl (Or.inl ⟨rfl, Or.inl rfl, _, rfl⟩) hlk hd hQ hk hn
theorem goAW {vm0 : Vm} {n1 : Nat} (hS : s.Since vm0 n1) (X : Stand p l e R (s.setVm vm0) m args below meth c T locs cells slots) (hkk : n1 ≤ T.heap.size) (hx : p.tables.exec = Jvm.exec) {pc : Nat} {Ls : Array Slot} {w : Value} {t : FieldType} {rest : List Value} (hret : meth.sig.returnType = some t) (ht : t.isReference = true) (hw : w.isRef = true) (hlk : meth.locks = false)
    (hd : decode c.code pc = .ok (.areturn, 1)) (hQ : Q (some w) T.heap locs) (hk : cells ≤ k) (hn : slots ≤ n) : Go p e below (FinW s below Q k n) T (mkF m pc Ls (w :: rest)) :=
  goOW hS X hkk hx hret (by cases t <;> cases w <;> first | rfl | (simp [FieldType.isReference] at ht; done) | (simp [Value.isRef] at hw; done)) (Or.inr (Or.inr (Or.inr (Or.inr ⟨rfl, ht, hw⟩)))) hlk hd hQ hk hn
theorem goVW {vm0 : Vm} {n1 : Nat} (hS : s.Since vm0 n1) (X : Stand p l e R (s.setVm vm0) m args below meth c T locs cells slots) (hkk : n1 ≤ T.heap.size) (hx : p.tables.exec = Jvm.exec) {pc : Nat} {Ls : Array Slot} (hret : meth.sig.returnType = none) (hlk : meth.locks = false)
    (hd : decode c.code pc = .ok (.return_, 1)) (hQ : Q none T.heap locs) (hk : cells ≤ k) (hn : slots ≤ n) : Go p e below (FinW s below Q k n) T (mkF m pc Ls []) := by
  obtain ⟨fs, hr, hrun, hended, hW, hsame⟩ := X.leave (v := none) (fun _ => rfl) hlk
  obtain ⟨a1, a2, a3⟩ := hS.ended hW (show n1 ≤ (T.setFrames fs).heap.size from hkk) hsame
  exact ⟨_, X.returnOut hx hret hd hr, _, hrun, hended, _, _, rfl, hQ, ⟨_, rfl⟩, a1, a2, a3.mono hk hn⟩
theorem narB {z : Int32} (h : z = 0 ∨ z = 1) : nar .boolean z = z := by rcases h with rfl | rfl <;> rfl
end Ends
theorem own_nb (x : Int32) : nar .byte (x.toInt8.toInt32) = x.toInt8.toInt32 := by
  apply Int32.toInt_inj.mp
  have h1 := c_i2b x
  have h2 := c_i2b (x.toInt8.toInt32)
  show (x.toInt8.toInt32.toInt8.toInt32).toInt = _
  omega
theorem own_ch (x : Int32) : ¬ (255 : Int32) < (x &&& (255 : Int32)).toUInt32.toUInt16.toUInt32.toInt32 ∧ nar .char ((x &&& (255 : Int32)).toUInt32.toUInt16.toUInt32.toInt32) = (x &&& (255 : Int32)).toUInt32.toUInt16.toUInt32.toInt32 ∧ fits .char (.int ((x &&& (255 : Int32)).toUInt32.toUInt16.toUInt32.toInt32)) = true ∧ 0 ≤ ((x &&& (255 : Int32)).toUInt32.toUInt16.toUInt32.toInt32).toInt := by
  refine ⟨?_, ?_, fits_nar_char (x &&& 255), ?_⟩
  · rw [i2c_mask]
    have h := c_and x 255 (by decide)
    have h5 : (255 : Int32).toInt = 255 := rfl
    simp only [Int32.lt_iff_toInt_lt, Int32.reduceToInt]
    omega
  · show (_ : Int32).toUInt32.toUInt16.toUInt32.toInt32 = _
    rw [i2c_mask, i2c_mask]
  · rw [i2c_mask]
    exact (c_and x 255 (by decide)).1
theorem own_eqk {args : Array Value} {s : State} {t : Term} {k : Int32} (h : (Jvm.Cond.eq t (Term.int k)).value args s none s [] = some true) : t.eval args s none [] s = some (.int k) := by
  simp only [Cond.value, Term.eval] at h
  cases ht : t.eval args s none [] s with
  | none => simp [ht] at h
  | some x => cases x <;> simp [ht] at h ⊢; exact h
theorem own_eqr {args : Array Value} {s : State} {a b : Term} {x : Addr} (h : (Jvm.Cond.eq a b).value args s none s [] = some true) (hb : b.eval args s none [] s = some (.ref x)) : a.eval args s none [] s = some (.ref x) := by
  simp only [Cond.value] at h
  cases ha : a.eval args s none [] s with
  | none => simp [ha] at h
  | some y => cases y <;> simp [ha, hb] at h ⊢; exact h
theorem own_size {args : Array Value} {s : State} {t : Term} {x : Addr} {cl : Cell} {ty : FieldType} {k : Int32} (ev : t.eval args s none [] s = some (.ref x)) (A : Arr s s.heap x cl ty) (h : (Jvm.Cond.eq (Term.length t) (Term.int k)).value args s none s [] = some true) : cl.slots.size < 2 ^ 31 ∧ cl.slots.size.toInt32 = k := by
  have hl := own_eqk h
  have hat := A.fin (U := s) (Vm.Alike.refl _)
  refine ⟨Classical.byContradiction fun hno => ?_, ?_⟩
  · simp [Term.eval, ev, hat, hno] at hl
  · obtain ⟨a', c', q1, q2, q3⟩ := Term.length_spec hl
    cases ev.symm.trans q1
    cases hat.symm.trans q2
    exact (Value.int.inj q3).symm
theorem d5_0 : decode jdk_52_method_21_code 0 = .ok (.iconst 0, 1) := by decide +kernel
theorem d5_1 : decode jdk_52_method_21_code 1 = .ok (.istore 5, 2) := by decide +kernel
theorem d5_3 : decode jdk_52_method_21_code 3 = .ok (.iload 5, 2) := by decide +kernel
theorem d5_5 : decode jdk_52_method_21_code 5 = .ok (.iload 4, 2) := by decide +kernel
theorem d5_7 : decode jdk_52_method_21_code 7 = .ok (.if_icmp .ge 37, 3) := by decide +kernel
theorem d5_10 : decode jdk_52_method_21_code 10 = .ok (.aload_n 0, 1) := by decide +kernel
theorem d5_11 : decode jdk_52_method_21_code 11 = .ok (.iload_n 1, 1) := by decide +kernel
theorem d5_12 : decode jdk_52_method_21_code 12 = .ok (.caload, 1) := by decide +kernel
theorem d5_13 : decode jdk_52_method_21_code 13 = .ok (.istore 6, 2) := by decide +kernel
theorem d5_15 : decode jdk_52_method_21_code 15 = .ok (.iload 6, 2) := by decide +kernel
theorem d5_17 : decode jdk_52_method_21_code 17 = .ok (.sipush 255, 3) := by decide +kernel
theorem d5_20 : decode jdk_52_method_21_code 20 = .ok (.if_icmp .le 6, 3) := by decide +kernel
theorem d5_26 : decode jdk_52_method_21_code 26 = .ok (.aload_n 2, 1) := by decide +kernel
theorem d5_27 : decode jdk_52_method_21_code 27 = .ok (.iload_n 3, 1) := by decide +kernel
theorem d5_28 : decode jdk_52_method_21_code 28 = .ok (.iload 6, 2) := by decide +kernel
theorem d5_30 : decode jdk_52_method_21_code 30 = .ok (.i2b, 1) := by decide +kernel
theorem d5_31 : decode jdk_52_method_21_code 31 = .ok (.bastore, 1) := by decide +kernel
theorem d5_32 : decode jdk_52_method_21_code 32 = .ok (.iinc 1 1, 3) := by decide +kernel
theorem d5_35 : decode jdk_52_method_21_code 35 = .ok (.iinc 3 1, 3) := by decide +kernel
theorem d5_38 : decode jdk_52_method_21_code 38 = .ok (.iinc 5 1, 3) := by decide +kernel
theorem d5_41 : decode jdk_52_method_21_code 41 = .ok (.goto (-38), 3) := by decide +kernel
theorem d5_44 : decode jdk_52_method_21_code 44 = .ok (.iload 4, 2) := by decide +kernel
theorem d5_46 : decode jdk_52_method_21_code 46 = .ok (.ireturn, 1) := by decide +kernel
theorem pn_5 : plainName "java/lang/StringUTF16" = true := by first | (simp [plainName, overriddenIn]; done) | decide +kernel
theorem ef_rmCpA8 (m : MethodId) (a1 : Addr) (a3 : Addr) : entryFrame m #[(.ref a1), (.int (0 : Int32)), (.ref a3), (.int (0 : Int32)), (.int (8 : Int32))] 7 = mkF m 0 #[.val (.ref a1), .val (.int (0 : Int32)), .val (.ref a3), .val (.int (0 : Int32)), .val (.int (8 : Int32)), .unset, .unset] [] := by first | (simp [entryFrame, mkF, argsToLocals, Value.category]; done) | rfl
def Q_rmCpA8 (Z : State) (a1 : Addr) (a3 : Addr) (kc : ClassId) (c0 : Int32) (c1 : Int32) (c2 : Int32) (c3 : Int32) (c4 : Int32) (c5 : Int32) (c6 : Int32) (c7 : Int32) (kb : ClassId) (h0 : Heap) (n0 : Nat) (rv : Option Value) (hq : Heap) (Lq : List Loc) : Prop := rv = some (.int (8 : Int32)) ∧ Fr n0 Lq ∧ Keep h0 hq [a3] ∧ Arv Z hq a3 kb .byte (8 : Int32) [(.int (c0.toInt8.toInt32)), (.int (c1.toInt8.toInt32)), (.int (c2.toInt8.toInt32)), (.int (c3.toInt8.toInt32)), (.int (c4.toInt8.toInt32)), (.int (c5.toInt8.toInt32)), (.int (c6.toInt8.toInt32)), (.int (c7.toInt8.toInt32))] (.int (0 : Int32))
set_option maxRecDepth 65536 in
set_option maxHeartbeats 40000000 in
theorem rmCpA8 (l : Launch) (Z : State) (a0 : Array Value) (hw : ∀ d ∈ tables_1, d.before a0 Z = true) (ws : List Jvm.Cond) (a1 : Addr) (a3 : Addr) (kc : ClassId) (c0 : Int32) (c1 : Int32) (c2 : Int32) (c3 : Int32) (c4 : Int32) (c5 : Int32) (c6 : Int32) (c7 : Int32) (kb : ClassId) (h0 : Heap) (n0 : Nat) (Z0 : n0 ≤ h0.size) (V_a1 : Arv Z h0 a1 kc .char (8 : Int32) [(.int c0), (.int c1), (.int c2), (.int c3), (.int c4), (.int c5), (.int c6), (.int c7)] (.int (0 : Int32))) (V_a3 : Arv Z h0 a3 kb .byte (8 : Int32) [(.int (0 : Int32)), (.int (0 : Int32)), (.int (0 : Int32)), (.int (0 : Int32)), (.int (0 : Int32)), (.int (0 : Int32)), (.int (0 : Int32)), (.int (0 : Int32))] (.int (0 : Int32))) (hne : a1 ≠ a3) (hl0 : ¬ (255 : Int32) < c0) (hl1 : ¬ (255 : Int32) < c1) (hl2 : ¬ (255 : Int32) < c2) (hl3 : ¬ (255 : Int32) < c3) (hl4 : ¬ (255 : Int32) < c4) (hl5 : ¬ (255 : Int32) < c5) (hl6 : ¬ (255 : Int32) < c6) (hl7 : ¬ (255 : Int32) < c7) (g_a3 : n0 ≤ a3) :
    MetFree l (⟨"java/lang/StringUTF16", "compress", "([CI[BII)I"⟩ : MethodName) (head1 (Jvm.Cond.code (⟨"java/lang/StringUTF16", "compress", "([CI[BII)I"⟩ : MethodName) jdk_52_method_21_code 7 (some .int) :: ws) ({ frames := 0, cells := 0, slots := 0, locals := 0 } : Room)) (fun a U => a = #[(.ref a1), (.int (0 : Int32)), (.ref a3), (.int (0 : Int32)), (.int (8 : Int32))] ∧ Z.Warmed39 U.vm ∧ U.heap = h0) (fun _ _ _ _ _ => True) (fun _ U o U' => ∃ rv Lq, o = .returned rv ∧ Q_rmCpA8 Z a1 a3 kc c0 c1 c2 c3 c4 c5 c6 c7 kb h0 n0 rv U'.heap Lq ∧ FrameEnd U o U' Lq ({ frames := 0, cells := 0, slots := 0, locals := 0 } : Room).cells ({ frames := 0, cells := 0, slots := 0, locals := 0 } : Room).slots) := by
  refine MetFree.of_bodySF (plainFor_of_name pn_5) hisR ?_
  intro p e s m args below meth c s₁ Bd hml0 hP hK
  obtain ⟨rfl, hZ, hh⟩ := hP
  have hx := Bd.exec
  have hby := Bd.bytes
  have hml : c.maxLocals = 7 := hml0
  have hown : s.vm.findClass "java/lang/StringUTF16" = some m.cls := findClass_of_methodNamed Bd.named
  have hnm := (name_of_methodNamed Bd.named Bd.method).1
  have X0 : Stand p l e ({ frames := 0, cells := 0, slots := 0, locals := 0 } : Room) s m #[(.ref a1), (.int (0 : Int32)), (.ref a3), (.int (0 : Int32)), (.int (8 : Int32))] below meth c s₁ [] 0 0 := Stand.of_body Bd
  have e0 : s₁.heap = h0 := by rw [← hh, Bd.state]; rfl
  have N0 := Fr.nil n0
  refine of_go (ef_rmCpA8 m a1 a3) ?_
  refine Go.step (T' := s₁) (f' := (mkF m 1 #[.val (.ref a1), .val (.int (0 : Int32)), .val (.ref a3), .val (.int (0 : Int32)), .val (.int (8 : Int32)), .unset, .unset] [(.int (0 : Int32))])) (fun _ k => XS.iconst X0.here hx rfl (hb hby d5_0) k) ?_
  refine Go.step (T' := s₁) (f' := (mkF m 3 #[.val (.ref a1), .val (.int (0 : Int32)), .val (.ref a3), .val (.int (0 : Int32)), .val (.int (8 : Int32)), .val (.int (0 : Int32)), .unset] [])) (fun _ k => XS.istore X0.here hx rfl (hb hby d5_1) rfl (l' := #[.val (.ref a1), .val (.int (0 : Int32)), .val (.ref a3), .val (.int (0 : Int32)), .val (.int (8 : Int32)), .val (.int (0 : Int32)), .unset]) rfl k) ?_
  refine Go.step (T' := s₁) (f' := (mkF m 5 #[.val (.ref a1), .val (.int (0 : Int32)), .val (.ref a3), .val (.int (0 : Int32)), .val (.int (8 : Int32)), .val (.int (0 : Int32)), .unset] [(.int (0 : Int32))])) (fun _ k => XS.iload X0.here hx rfl (hb hby d5_3) rfl k) ?_
  refine Go.step (T' := s₁) (f' := (mkF m 7 #[.val (.ref a1), .val (.int (0 : Int32)), .val (.ref a3), .val (.int (0 : Int32)), .val (.int (8 : Int32)), .val (.int (0 : Int32)), .unset] [(.int (8 : Int32)), (.int (0 : Int32))])) (fun _ k => XS.iload X0.here hx rfl (hb hby d5_5) rfl k) ?_
  refine Go.step (T' := s₁) (f' := (mkF m 10 #[.val (.ref a1), .val (.int (0 : Int32)), .val (.ref a3), .val (.int (0 : Int32)), .val (.int (8 : Int32)), .val (.int (0 : Int32)), .unset] [])) (fun _ k => XS.icmpNo X0.here hx rfl (hb hby d5_7) rfl (tlt (by decide : (0 : Int32) < (8 : Int32))).2.1 k) ?_
  refine Go.step (T' := s₁) (f' := (mkF m 11 #[.val (.ref a1), .val (.int (0 : Int32)), .val (.ref a3), .val (.int (0 : Int32)), .val (.int (8 : Int32)), .val (.int (0 : Int32)), .unset] [(.ref a1)])) (fun _ k => XS.aloadN X0.here hx rfl (hb hby d5_10) rfl rfl k) ?_
  refine Go.step (T' := s₁) (f' := (mkF m 12 #[.val (.ref a1), .val (.int (0 : Int32)), .val (.ref a3), .val (.int (0 : Int32)), .val (.int (8 : Int32)), .val (.int (0 : Int32)), .unset] [(.int (0 : Int32)), (.ref a1)])) (fun _ k => XS.iloadN X0.here hx rfl (hb hby d5_11) rfl k) ?_
  obtain ⟨cl1, Ar1, qc1, Sz1, Nn1, Hs1, Gf1⟩ := id V_a1
  have hin2 : ¬ ((0 : Int32) < 0 ∨ cl1.slots.size ≤ ((0 : Int32)).toNatClampNeg) := (inb_of Sz1 ⟨by decide, by decide⟩)
  have hat2 : cl1.slots[((0 : Int32)).toNatClampNeg]? = some (.int c0) := Has.at Hs1 hin2 rfl
  refine Go.step (T' := s₁) (f' := (mkF m 13 #[.val (.ref a1), .val (.int (0 : Int32)), .val (.ref a3), .val (.int (0 : Int32)), .val (.int (8 : Int32)), .val (.int (0 : Int32)), .unset] [(.int c0)])) (fun _ k => X0.caload hx (j := (0 : Int32)) (v := (.int c0)) (by rw [e0]; exact Ar1.1) (State.isArrayOf_alike hZ.alike Ar1.2.1) Ar1.2.2 hin2 hat2 (g := (mkF m 12 #[.val (.ref a1), .val (.int (0 : Int32)), .val (.ref a3), .val (.int (0 : Int32)), .val (.int (8 : Int32)), .val (.int (0 : Int32)), .unset] [(.int (0 : Int32)), (.ref a1)])) rfl rfl (hb hby d5_12) _ k) ?_
  refine Go.step (T' := s₁) (f' := (mkF m 15 #[.val (.ref a1), .val (.int (0 : Int32)), .val (.ref a3), .val (.int (0 : Int32)), .val (.int (8 : Int32)), .val (.int (0 : Int32)), .val (.int c0)] [])) (fun _ k => XS.istore X0.here hx rfl (hb hby d5_13) rfl (l' := #[.val (.ref a1), .val (.int (0 : Int32)), .val (.ref a3), .val (.int (0 : Int32)), .val (.int (8 : Int32)), .val (.int (0 : Int32)), .val (.int c0)]) rfl k) ?_
  refine Go.step (T' := s₁) (f' := (mkF m 17 #[.val (.ref a1), .val (.int (0 : Int32)), .val (.ref a3), .val (.int (0 : Int32)), .val (.int (8 : Int32)), .val (.int (0 : Int32)), .val (.int c0)] [(.int c0)])) (fun _ k => XS.iload X0.here hx rfl (hb hby d5_15) rfl k) ?_
  refine Go.step (T' := s₁) (f' := (mkF m 20 #[.val (.ref a1), .val (.int (0 : Int32)), .val (.ref a3), .val (.int (0 : Int32)), .val (.int (8 : Int32)), .val (.int (0 : Int32)), .val (.int c0)] [(.int (255 : Int32)), (.int c0)])) (fun _ k => XS.sipush X0.here hx rfl (hb hby d5_17) k) ?_
  refine Go.step (T' := s₁) (f' := (mkF m 26 #[.val (.ref a1), .val (.int (0 : Int32)), .val (.ref a3), .val (.int (0 : Int32)), .val (.int (8 : Int32)), .val (.int (0 : Int32)), .val (.int c0)] [])) (fun _ k => XS.icmpYes X0.here hx rfl (pc0 := 20) (pc' := 26) rfl (hb hby d5_20) rfl (flt hl0).2.2.2 (by decide) (by decide) k) ?_
  refine Go.step (T' := s₁) (f' := (mkF m 27 #[.val (.ref a1), .val (.int (0 : Int32)), .val (.ref a3), .val (.int (0 : Int32)), .val (.int (8 : Int32)), .val (.int (0 : Int32)), .val (.int c0)] [(.ref a3)])) (fun _ k => XS.aloadN X0.here hx rfl (hb hby d5_26) rfl rfl k) ?_
  refine Go.step (T' := s₁) (f' := (mkF m 28 #[.val (.ref a1), .val (.int (0 : Int32)), .val (.ref a3), .val (.int (0 : Int32)), .val (.int (8 : Int32)), .val (.int (0 : Int32)), .val (.int c0)] [(.int (0 : Int32)), (.ref a3)])) (fun _ k => XS.iloadN X0.here hx rfl (hb hby d5_27) rfl k) ?_
  refine Go.step (T' := s₁) (f' := (mkF m 30 #[.val (.ref a1), .val (.int (0 : Int32)), .val (.ref a3), .val (.int (0 : Int32)), .val (.int (8 : Int32)), .val (.int (0 : Int32)), .val (.int c0)] [(.int c0), (.int (0 : Int32)), (.ref a3)])) (fun _ k => XS.iload X0.here hx rfl (hb hby d5_28) rfl k) ?_
  refine Go.step (T' := s₁) (f' := (mkF m 31 #[.val (.ref a1), .val (.int (0 : Int32)), .val (.ref a3), .val (.int (0 : Int32)), .val (.int (8 : Int32)), .val (.int (0 : Int32)), .val (.int c0)] [(.int (c0.toInt8.toInt32)), (.int (0 : Int32)), (.ref a3)])) (fun _ k => XS.i2b X0.here hx rfl (hb hby d5_30) rfl k) ?_
  obtain ⟨cl3, Ar3, qc3, Sz3, Nn3, Hs3, Gf3⟩ := id V_a3
  have hin4 : ¬ ((0 : Int32) < 0 ∨ cl3.slots.size ≤ ((0 : Int32)).toNatClampNeg) := (inb_of Sz3 ⟨by decide, by decide⟩)
  obtain ⟨T4, h4, X4, e4, W4, st4⟩ := stB X0 hx hZ e0 Ar3 (j := (0 : Int32)) hin4 (g := (mkF m 31 #[.val (.ref a1), .val (.int (0 : Int32)), .val (.ref a3), .val (.int (0 : Int32)), .val (.int (8 : Int32)), .val (.int (0 : Int32)), .val (.int c0)] [(.int (c0.toInt8.toInt32)), (.int (0 : Int32)), (.ref a3)])) rfl rfl (hb hby d5_31)
  have N4 := Fr.snoc X4 N0 g_a3
  have Z5 : n0 ≤ h4.size := Nat.le_trans Z0 (Keep.of_wr W4).1
  have K5 : Keep h0 h4 [a3] := (Keep.refl h0 [a3]).wr W4 (Or.inl (List.mem_of_getElem? (i := 0) rfl))
  rw [own_nb] at W4
  have Va4 : Arv Z h4 a3 kb .byte (8 : Int32) [(.int (c0.toInt8.toInt32)), (.int (0 : Int32)), (.int (0 : Int32)), (.int (0 : Int32)), (.int (0 : Int32)), (.int (0 : Int32)), (.int (0 : Int32)), (.int (0 : Int32))] (.int (0 : Int32)) := Arv.set Ar3 qc3 Sz3 Nn3 Hs3 Gf3 (fits_nar_byte _) W4 0 rfl (Nat.le_of_ble_eq_true rfl)
  refine Go.step (T' := T4) (f' := (mkF m 32 #[.val (.ref a1), .val (.int (0 : Int32)), .val (.ref a3), .val (.int (0 : Int32)), .val (.int (8 : Int32)), .val (.int (0 : Int32)), .val (.int c0)] [])) st4 ?_
  refine Go.step (T' := T4) (f' := (mkF m 35 #[.val (.ref a1), .val (.int (1 : Int32)), .val (.ref a3), .val (.int (0 : Int32)), .val (.int (8 : Int32)), .val (.int (0 : Int32)), .val (.int c0)] [])) (fun _ k => XS.iinc X4.here hx rfl (hb hby d5_32) rfl (l' := #[.val (.ref a1), .val (.int (1 : Int32)), .val (.ref a3), .val (.int (0 : Int32)), .val (.int (8 : Int32)), .val (.int (0 : Int32)), .val (.int c0)]) rfl k) ?_
  refine Go.step (T' := T4) (f' := (mkF m 38 #[.val (.ref a1), .val (.int (1 : Int32)), .val (.ref a3), .val (.int (1 : Int32)), .val (.int (8 : Int32)), .val (.int (0 : Int32)), .val (.int c0)] [])) (fun _ k => XS.iinc X4.here hx rfl (hb hby d5_35) rfl (l' := #[.val (.ref a1), .val (.int (1 : Int32)), .val (.ref a3), .val (.int (1 : Int32)), .val (.int (8 : Int32)), .val (.int (0 : Int32)), .val (.int c0)]) rfl k) ?_
  refine Go.step (T' := T4) (f' := (mkF m 41 #[.val (.ref a1), .val (.int (1 : Int32)), .val (.ref a3), .val (.int (1 : Int32)), .val (.int (8 : Int32)), .val (.int (1 : Int32)), .val (.int c0)] [])) (fun _ k => XS.iinc X4.here hx rfl (hb hby d5_38) rfl (l' := #[.val (.ref a1), .val (.int (1 : Int32)), .val (.ref a3), .val (.int (1 : Int32)), .val (.int (8 : Int32)), .val (.int (1 : Int32)), .val (.int c0)]) rfl k) ?_
  refine Go.step (T' := T4) (f' := (mkF m 3 #[.val (.ref a1), .val (.int (1 : Int32)), .val (.ref a3), .val (.int (1 : Int32)), .val (.int (8 : Int32)), .val (.int (1 : Int32)), .val (.int c0)] [])) (fun _ k => XS.goto X4.here hx rfl (pc0 := 41) (pc' := 3) rfl (hb hby d5_41) (by decide) (by decide) k) ?_
  refine Go.step (T' := T4) (f' := (mkF m 5 #[.val (.ref a1), .val (.int (1 : Int32)), .val (.ref a3), .val (.int (1 : Int32)), .val (.int (8 : Int32)), .val (.int (1 : Int32)), .val (.int c0)] [(.int (1 : Int32))])) (fun _ k => XS.iload X4.here hx rfl (hb hby d5_3) rfl k) ?_
  refine Go.step (T' := T4) (f' := (mkF m 7 #[.val (.ref a1), .val (.int (1 : Int32)), .val (.ref a3), .val (.int (1 : Int32)), .val (.int (8 : Int32)), .val (.int (1 : Int32)), .val (.int c0)] [(.int (8 : Int32)), (.int (1 : Int32))])) (fun _ k => XS.iload X4.here hx rfl (hb hby d5_5) rfl k) ?_
  refine Go.step (T' := T4) (f' := (mkF m 10 #[.val (.ref a1), .val (.int (1 : Int32)), .val (.ref a3), .val (.int (1 : Int32)), .val (.int (8 : Int32)), .val (.int (1 : Int32)), .val (.int c0)] [])) (fun _ k => XS.icmpNo X4.here hx rfl (hb hby d5_7) rfl (tlt (by decide : (1 : Int32) < (8 : Int32))).2.1 k) ?_
  refine Go.step (T' := T4) (f' := (mkF m 11 #[.val (.ref a1), .val (.int (1 : Int32)), .val (.ref a3), .val (.int (1 : Int32)), .val (.int (8 : Int32)), .val (.int (1 : Int32)), .val (.int c0)] [(.ref a1)])) (fun _ k => XS.aloadN X4.here hx rfl (hb hby d5_10) rfl rfl k) ?_
  refine Go.step (T' := T4) (f' := (mkF m 12 #[.val (.ref a1), .val (.int (1 : Int32)), .val (.ref a3), .val (.int (1 : Int32)), .val (.int (8 : Int32)), .val (.int (1 : Int32)), .val (.int c0)] [(.int (1 : Int32)), (.ref a1)])) (fun _ k => XS.iloadN X4.here hx rfl (hb hby d5_11) rfl k) ?_
  have q6 : Arv Z h4 a1 kc .char (8 : Int32) [(.int c0), (.int c1), (.int c2), (.int c3), (.int c4), (.int c5), (.int c6), (.int c7)] (.int (0 : Int32)) := (V_a1.other W4 hne)
  obtain ⟨cl7, Ar7, qc7, Sz7, Nn7, Hs7, Gf7⟩ := id q6
  have hin8 : ¬ ((1 : Int32) < 0 ∨ cl7.slots.size ≤ ((1 : Int32)).toNatClampNeg) := (inb_of Sz7 ⟨by decide, by decide⟩)
  have hat8 : cl7.slots[((1 : Int32)).toNatClampNeg]? = some (.int c1) := Has.at Hs7 hin8 rfl
  refine Go.step (T' := T4) (f' := (mkF m 13 #[.val (.ref a1), .val (.int (1 : Int32)), .val (.ref a3), .val (.int (1 : Int32)), .val (.int (8 : Int32)), .val (.int (1 : Int32)), .val (.int c0)] [(.int c1)])) (fun _ k => X4.caload hx (j := (1 : Int32)) (v := (.int c1)) (by rw [e4]; exact Ar7.1) (State.isArrayOf_alike hZ.alike Ar7.2.1) Ar7.2.2 hin8 hat8 (g := (mkF m 12 #[.val (.ref a1), .val (.int (1 : Int32)), .val (.ref a3), .val (.int (1 : Int32)), .val (.int (8 : Int32)), .val (.int (1 : Int32)), .val (.int c0)] [(.int (1 : Int32)), (.ref a1)])) rfl rfl (hb hby d5_12) _ k) ?_
  refine Go.step (T' := T4) (f' := (mkF m 15 #[.val (.ref a1), .val (.int (1 : Int32)), .val (.ref a3), .val (.int (1 : Int32)), .val (.int (8 : Int32)), .val (.int (1 : Int32)), .val (.int c1)] [])) (fun _ k => XS.istore X4.here hx rfl (hb hby d5_13) rfl (l' := #[.val (.ref a1), .val (.int (1 : Int32)), .val (.ref a3), .val (.int (1 : Int32)), .val (.int (8 : Int32)), .val (.int (1 : Int32)), .val (.int c1)]) rfl k) ?_
  refine Go.step (T' := T4) (f' := (mkF m 17 #[.val (.ref a1), .val (.int (1 : Int32)), .val (.ref a3), .val (.int (1 : Int32)), .val (.int (8 : Int32)), .val (.int (1 : Int32)), .val (.int c1)] [(.int c1)])) (fun _ k => XS.iload X4.here hx rfl (hb hby d5_15) rfl k) ?_
  refine Go.step (T' := T4) (f' := (mkF m 20 #[.val (.ref a1), .val (.int (1 : Int32)), .val (.ref a3), .val (.int (1 : Int32)), .val (.int (8 : Int32)), .val (.int (1 : Int32)), .val (.int c1)] [(.int (255 : Int32)), (.int c1)])) (fun _ k => XS.sipush X4.here hx rfl (hb hby d5_17) k) ?_
  refine Go.step (T' := T4) (f' := (mkF m 26 #[.val (.ref a1), .val (.int (1 : Int32)), .val (.ref a3), .val (.int (1 : Int32)), .val (.int (8 : Int32)), .val (.int (1 : Int32)), .val (.int c1)] [])) (fun _ k => XS.icmpYes X4.here hx rfl (pc0 := 20) (pc' := 26) rfl (hb hby d5_20) rfl (flt hl1).2.2.2 (by decide) (by decide) k) ?_
  refine Go.step (T' := T4) (f' := (mkF m 27 #[.val (.ref a1), .val (.int (1 : Int32)), .val (.ref a3), .val (.int (1 : Int32)), .val (.int (8 : Int32)), .val (.int (1 : Int32)), .val (.int c1)] [(.ref a3)])) (fun _ k => XS.aloadN X4.here hx rfl (hb hby d5_26) rfl rfl k) ?_
  refine Go.step (T' := T4) (f' := (mkF m 28 #[.val (.ref a1), .val (.int (1 : Int32)), .val (.ref a3), .val (.int (1 : Int32)), .val (.int (8 : Int32)), .val (.int (1 : Int32)), .val (.int c1)] [(.int (1 : Int32)), (.ref a3)])) (fun _ k => XS.iloadN X4.here hx rfl (hb hby d5_27) rfl k) ?_
  refine Go.step (T' := T4) (f' := (mkF m 30 #[.val (.ref a1), .val (.int (1 : Int32)), .val (.ref a3), .val (.int (1 : Int32)), .val (.int (8 : Int32)), .val (.int (1 : Int32)), .val (.int c1)] [(.int c1), (.int (1 : Int32)), (.ref a3)])) (fun _ k => XS.iload X4.here hx rfl (hb hby d5_28) rfl k) ?_
  refine Go.step (T' := T4) (f' := (mkF m 31 #[.val (.ref a1), .val (.int (1 : Int32)), .val (.ref a3), .val (.int (1 : Int32)), .val (.int (8 : Int32)), .val (.int (1 : Int32)), .val (.int c1)] [(.int (c1.toInt8.toInt32)), (.int (1 : Int32)), (.ref a3)])) (fun _ k => XS.i2b X4.here hx rfl (hb hby d5_30) rfl k) ?_
  obtain ⟨cl9, Ar9, qc9, Sz9, Nn9, Hs9, Gf9⟩ := id Va4
  have hin10 : ¬ ((1 : Int32) < 0 ∨ cl9.slots.size ≤ ((1 : Int32)).toNatClampNeg) := (inb_of Sz9 ⟨by decide, by decide⟩)
  obtain ⟨T10, h10, X10, e10, W10, st10⟩ := stB X4 hx hZ e4 Ar9 (j := (1 : Int32)) hin10 (g := (mkF m 31 #[.val (.ref a1), .val (.int (1 : Int32)), .val (.ref a3), .val (.int (1 : Int32)), .val (.int (8 : Int32)), .val (.int (1 : Int32)), .val (.int c1)] [(.int (c1.toInt8.toInt32)), (.int (1 : Int32)), (.ref a3)])) rfl rfl (hb hby d5_31)
  have N10 := Fr.snoc X10 N4 g_a3
  have Z11 : n0 ≤ h10.size := Nat.le_trans Z5 (Keep.of_wr W10).1
  have K11 : Keep h0 h10 [a3] := K5.wr W10 (Or.inl (List.mem_of_getElem? (i := 0) rfl))
  rw [own_nb] at W10
  have Va10 : Arv Z h10 a3 kb .byte (8 : Int32) [(.int (c0.toInt8.toInt32)), (.int (c1.toInt8.toInt32)), (.int (0 : Int32)), (.int (0 : Int32)), (.int (0 : Int32)), (.int (0 : Int32)), (.int (0 : Int32)), (.int (0 : Int32))] (.int (0 : Int32)) := Arv.set Ar9 qc9 Sz9 Nn9 Hs9 Gf9 (fits_nar_byte _) W10 1 rfl (Nat.le_of_ble_eq_true rfl)
  refine Go.step (T' := T10) (f' := (mkF m 32 #[.val (.ref a1), .val (.int (1 : Int32)), .val (.ref a3), .val (.int (1 : Int32)), .val (.int (8 : Int32)), .val (.int (1 : Int32)), .val (.int c1)] [])) st10 ?_
  refine Go.step (T' := T10) (f' := (mkF m 35 #[.val (.ref a1), .val (.int (2 : Int32)), .val (.ref a3), .val (.int (1 : Int32)), .val (.int (8 : Int32)), .val (.int (1 : Int32)), .val (.int c1)] [])) (fun _ k => XS.iinc X10.here hx rfl (hb hby d5_32) rfl (l' := #[.val (.ref a1), .val (.int (2 : Int32)), .val (.ref a3), .val (.int (1 : Int32)), .val (.int (8 : Int32)), .val (.int (1 : Int32)), .val (.int c1)]) rfl k) ?_
  refine Go.step (T' := T10) (f' := (mkF m 38 #[.val (.ref a1), .val (.int (2 : Int32)), .val (.ref a3), .val (.int (2 : Int32)), .val (.int (8 : Int32)), .val (.int (1 : Int32)), .val (.int c1)] [])) (fun _ k => XS.iinc X10.here hx rfl (hb hby d5_35) rfl (l' := #[.val (.ref a1), .val (.int (2 : Int32)), .val (.ref a3), .val (.int (2 : Int32)), .val (.int (8 : Int32)), .val (.int (1 : Int32)), .val (.int c1)]) rfl k) ?_
  refine Go.step (T' := T10) (f' := (mkF m 41 #[.val (.ref a1), .val (.int (2 : Int32)), .val (.ref a3), .val (.int (2 : Int32)), .val (.int (8 : Int32)), .val (.int (2 : Int32)), .val (.int c1)] [])) (fun _ k => XS.iinc X10.here hx rfl (hb hby d5_38) rfl (l' := #[.val (.ref a1), .val (.int (2 : Int32)), .val (.ref a3), .val (.int (2 : Int32)), .val (.int (8 : Int32)), .val (.int (2 : Int32)), .val (.int c1)]) rfl k) ?_
  refine Go.step (T' := T10) (f' := (mkF m 3 #[.val (.ref a1), .val (.int (2 : Int32)), .val (.ref a3), .val (.int (2 : Int32)), .val (.int (8 : Int32)), .val (.int (2 : Int32)), .val (.int c1)] [])) (fun _ k => XS.goto X10.here hx rfl (pc0 := 41) (pc' := 3) rfl (hb hby d5_41) (by decide) (by decide) k) ?_
  refine Go.step (T' := T10) (f' := (mkF m 5 #[.val (.ref a1), .val (.int (2 : Int32)), .val (.ref a3), .val (.int (2 : Int32)), .val (.int (8 : Int32)), .val (.int (2 : Int32)), .val (.int c1)] [(.int (2 : Int32))])) (fun _ k => XS.iload X10.here hx rfl (hb hby d5_3) rfl k) ?_
  refine Go.step (T' := T10) (f' := (mkF m 7 #[.val (.ref a1), .val (.int (2 : Int32)), .val (.ref a3), .val (.int (2 : Int32)), .val (.int (8 : Int32)), .val (.int (2 : Int32)), .val (.int c1)] [(.int (8 : Int32)), (.int (2 : Int32))])) (fun _ k => XS.iload X10.here hx rfl (hb hby d5_5) rfl k) ?_
  refine Go.step (T' := T10) (f' := (mkF m 10 #[.val (.ref a1), .val (.int (2 : Int32)), .val (.ref a3), .val (.int (2 : Int32)), .val (.int (8 : Int32)), .val (.int (2 : Int32)), .val (.int c1)] [])) (fun _ k => XS.icmpNo X10.here hx rfl (hb hby d5_7) rfl (tlt (by decide : (2 : Int32) < (8 : Int32))).2.1 k) ?_
  refine Go.step (T' := T10) (f' := (mkF m 11 #[.val (.ref a1), .val (.int (2 : Int32)), .val (.ref a3), .val (.int (2 : Int32)), .val (.int (8 : Int32)), .val (.int (2 : Int32)), .val (.int c1)] [(.ref a1)])) (fun _ k => XS.aloadN X10.here hx rfl (hb hby d5_10) rfl rfl k) ?_
  refine Go.step (T' := T10) (f' := (mkF m 12 #[.val (.ref a1), .val (.int (2 : Int32)), .val (.ref a3), .val (.int (2 : Int32)), .val (.int (8 : Int32)), .val (.int (2 : Int32)), .val (.int c1)] [(.int (2 : Int32)), (.ref a1)])) (fun _ k => XS.iloadN X10.here hx rfl (hb hby d5_11) rfl k) ?_
  have q12 : Arv Z h10 a1 kc .char (8 : Int32) [(.int c0), (.int c1), (.int c2), (.int c3), (.int c4), (.int c5), (.int c6), (.int c7)] (.int (0 : Int32)) := (q6.other W10 hne)
  obtain ⟨cl13, Ar13, qc13, Sz13, Nn13, Hs13, Gf13⟩ := id q12
  have hin14 : ¬ ((2 : Int32) < 0 ∨ cl13.slots.size ≤ ((2 : Int32)).toNatClampNeg) := (inb_of Sz13 ⟨by decide, by decide⟩)
  have hat14 : cl13.slots[((2 : Int32)).toNatClampNeg]? = some (.int c2) := Has.at Hs13 hin14 rfl
  refine Go.step (T' := T10) (f' := (mkF m 13 #[.val (.ref a1), .val (.int (2 : Int32)), .val (.ref a3), .val (.int (2 : Int32)), .val (.int (8 : Int32)), .val (.int (2 : Int32)), .val (.int c1)] [(.int c2)])) (fun _ k => X10.caload hx (j := (2 : Int32)) (v := (.int c2)) (by rw [e10]; exact Ar13.1) (State.isArrayOf_alike hZ.alike Ar13.2.1) Ar13.2.2 hin14 hat14 (g := (mkF m 12 #[.val (.ref a1), .val (.int (2 : Int32)), .val (.ref a3), .val (.int (2 : Int32)), .val (.int (8 : Int32)), .val (.int (2 : Int32)), .val (.int c1)] [(.int (2 : Int32)), (.ref a1)])) rfl rfl (hb hby d5_12) _ k) ?_
  refine Go.step (T' := T10) (f' := (mkF m 15 #[.val (.ref a1), .val (.int (2 : Int32)), .val (.ref a3), .val (.int (2 : Int32)), .val (.int (8 : Int32)), .val (.int (2 : Int32)), .val (.int c2)] [])) (fun _ k => XS.istore X10.here hx rfl (hb hby d5_13) rfl (l' := #[.val (.ref a1), .val (.int (2 : Int32)), .val (.ref a3), .val (.int (2 : Int32)), .val (.int (8 : Int32)), .val (.int (2 : Int32)), .val (.int c2)]) rfl k) ?_
  refine Go.step (T' := T10) (f' := (mkF m 17 #[.val (.ref a1), .val (.int (2 : Int32)), .val (.ref a3), .val (.int (2 : Int32)), .val (.int (8 : Int32)), .val (.int (2 : Int32)), .val (.int c2)] [(.int c2)])) (fun _ k => XS.iload X10.here hx rfl (hb hby d5_15) rfl k) ?_
  refine Go.step (T' := T10) (f' := (mkF m 20 #[.val (.ref a1), .val (.int (2 : Int32)), .val (.ref a3), .val (.int (2 : Int32)), .val (.int (8 : Int32)), .val (.int (2 : Int32)), .val (.int c2)] [(.int (255 : Int32)), (.int c2)])) (fun _ k => XS.sipush X10.here hx rfl (hb hby d5_17) k) ?_
  refine Go.step (T' := T10) (f' := (mkF m 26 #[.val (.ref a1), .val (.int (2 : Int32)), .val (.ref a3), .val (.int (2 : Int32)), .val (.int (8 : Int32)), .val (.int (2 : Int32)), .val (.int c2)] [])) (fun _ k => XS.icmpYes X10.here hx rfl (pc0 := 20) (pc' := 26) rfl (hb hby d5_20) rfl (flt hl2).2.2.2 (by decide) (by decide) k) ?_
  refine Go.step (T' := T10) (f' := (mkF m 27 #[.val (.ref a1), .val (.int (2 : Int32)), .val (.ref a3), .val (.int (2 : Int32)), .val (.int (8 : Int32)), .val (.int (2 : Int32)), .val (.int c2)] [(.ref a3)])) (fun _ k => XS.aloadN X10.here hx rfl (hb hby d5_26) rfl rfl k) ?_
  refine Go.step (T' := T10) (f' := (mkF m 28 #[.val (.ref a1), .val (.int (2 : Int32)), .val (.ref a3), .val (.int (2 : Int32)), .val (.int (8 : Int32)), .val (.int (2 : Int32)), .val (.int c2)] [(.int (2 : Int32)), (.ref a3)])) (fun _ k => XS.iloadN X10.here hx rfl (hb hby d5_27) rfl k) ?_
  refine Go.step (T' := T10) (f' := (mkF m 30 #[.val (.ref a1), .val (.int (2 : Int32)), .val (.ref a3), .val (.int (2 : Int32)), .val (.int (8 : Int32)), .val (.int (2 : Int32)), .val (.int c2)] [(.int c2), (.int (2 : Int32)), (.ref a3)])) (fun _ k => XS.iload X10.here hx rfl (hb hby d5_28) rfl k) ?_
  refine Go.step (T' := T10) (f' := (mkF m 31 #[.val (.ref a1), .val (.int (2 : Int32)), .val (.ref a3), .val (.int (2 : Int32)), .val (.int (8 : Int32)), .val (.int (2 : Int32)), .val (.int c2)] [(.int (c2.toInt8.toInt32)), (.int (2 : Int32)), (.ref a3)])) (fun _ k => XS.i2b X10.here hx rfl (hb hby d5_30) rfl k) ?_
  obtain ⟨cl15, Ar15, qc15, Sz15, Nn15, Hs15, Gf15⟩ := id Va10
  have hin16 : ¬ ((2 : Int32) < 0 ∨ cl15.slots.size ≤ ((2 : Int32)).toNatClampNeg) := (inb_of Sz15 ⟨by decide, by decide⟩)
  obtain ⟨T16, h16, X16, e16, W16, st16⟩ := stB X10 hx hZ e10 Ar15 (j := (2 : Int32)) hin16 (g := (mkF m 31 #[.val (.ref a1), .val (.int (2 : Int32)), .val (.ref a3), .val (.int (2 : Int32)), .val (.int (8 : Int32)), .val (.int (2 : Int32)), .val (.int c2)] [(.int (c2.toInt8.toInt32)), (.int (2 : Int32)), (.ref a3)])) rfl rfl (hb hby d5_31)
  have N16 := Fr.snoc X16 N10 g_a3
  have Z17 : n0 ≤ h16.size := Nat.le_trans Z11 (Keep.of_wr W16).1
  have K17 : Keep h0 h16 [a3] := K11.wr W16 (Or.inl (List.mem_of_getElem? (i := 0) rfl))
  rw [own_nb] at W16
  have Va16 : Arv Z h16 a3 kb .byte (8 : Int32) [(.int (c0.toInt8.toInt32)), (.int (c1.toInt8.toInt32)), (.int (c2.toInt8.toInt32)), (.int (0 : Int32)), (.int (0 : Int32)), (.int (0 : Int32)), (.int (0 : Int32)), (.int (0 : Int32))] (.int (0 : Int32)) := Arv.set Ar15 qc15 Sz15 Nn15 Hs15 Gf15 (fits_nar_byte _) W16 2 rfl (Nat.le_of_ble_eq_true rfl)
  refine Go.step (T' := T16) (f' := (mkF m 32 #[.val (.ref a1), .val (.int (2 : Int32)), .val (.ref a3), .val (.int (2 : Int32)), .val (.int (8 : Int32)), .val (.int (2 : Int32)), .val (.int c2)] [])) st16 ?_
  refine Go.step (T' := T16) (f' := (mkF m 35 #[.val (.ref a1), .val (.int (3 : Int32)), .val (.ref a3), .val (.int (2 : Int32)), .val (.int (8 : Int32)), .val (.int (2 : Int32)), .val (.int c2)] [])) (fun _ k => XS.iinc X16.here hx rfl (hb hby d5_32) rfl (l' := #[.val (.ref a1), .val (.int (3 : Int32)), .val (.ref a3), .val (.int (2 : Int32)), .val (.int (8 : Int32)), .val (.int (2 : Int32)), .val (.int c2)]) rfl k) ?_
  refine Go.step (T' := T16) (f' := (mkF m 38 #[.val (.ref a1), .val (.int (3 : Int32)), .val (.ref a3), .val (.int (3 : Int32)), .val (.int (8 : Int32)), .val (.int (2 : Int32)), .val (.int c2)] [])) (fun _ k => XS.iinc X16.here hx rfl (hb hby d5_35) rfl (l' := #[.val (.ref a1), .val (.int (3 : Int32)), .val (.ref a3), .val (.int (3 : Int32)), .val (.int (8 : Int32)), .val (.int (2 : Int32)), .val (.int c2)]) rfl k) ?_
  refine Go.step (T' := T16) (f' := (mkF m 41 #[.val (.ref a1), .val (.int (3 : Int32)), .val (.ref a3), .val (.int (3 : Int32)), .val (.int (8 : Int32)), .val (.int (3 : Int32)), .val (.int c2)] [])) (fun _ k => XS.iinc X16.here hx rfl (hb hby d5_38) rfl (l' := #[.val (.ref a1), .val (.int (3 : Int32)), .val (.ref a3), .val (.int (3 : Int32)), .val (.int (8 : Int32)), .val (.int (3 : Int32)), .val (.int c2)]) rfl k) ?_
  refine Go.step (T' := T16) (f' := (mkF m 3 #[.val (.ref a1), .val (.int (3 : Int32)), .val (.ref a3), .val (.int (3 : Int32)), .val (.int (8 : Int32)), .val (.int (3 : Int32)), .val (.int c2)] [])) (fun _ k => XS.goto X16.here hx rfl (pc0 := 41) (pc' := 3) rfl (hb hby d5_41) (by decide) (by decide) k) ?_
  refine Go.step (T' := T16) (f' := (mkF m 5 #[.val (.ref a1), .val (.int (3 : Int32)), .val (.ref a3), .val (.int (3 : Int32)), .val (.int (8 : Int32)), .val (.int (3 : Int32)), .val (.int c2)] [(.int (3 : Int32))])) (fun _ k => XS.iload X16.here hx rfl (hb hby d5_3) rfl k) ?_
  refine Go.step (T' := T16) (f' := (mkF m 7 #[.val (.ref a1), .val (.int (3 : Int32)), .val (.ref a3), .val (.int (3 : Int32)), .val (.int (8 : Int32)), .val (.int (3 : Int32)), .val (.int c2)] [(.int (8 : Int32)), (.int (3 : Int32))])) (fun _ k => XS.iload X16.here hx rfl (hb hby d5_5) rfl k) ?_
  refine Go.step (T' := T16) (f' := (mkF m 10 #[.val (.ref a1), .val (.int (3 : Int32)), .val (.ref a3), .val (.int (3 : Int32)), .val (.int (8 : Int32)), .val (.int (3 : Int32)), .val (.int c2)] [])) (fun _ k => XS.icmpNo X16.here hx rfl (hb hby d5_7) rfl (tlt (by decide : (3 : Int32) < (8 : Int32))).2.1 k) ?_
  refine Go.step (T' := T16) (f' := (mkF m 11 #[.val (.ref a1), .val (.int (3 : Int32)), .val (.ref a3), .val (.int (3 : Int32)), .val (.int (8 : Int32)), .val (.int (3 : Int32)), .val (.int c2)] [(.ref a1)])) (fun _ k => XS.aloadN X16.here hx rfl (hb hby d5_10) rfl rfl k) ?_
  refine Go.step (T' := T16) (f' := (mkF m 12 #[.val (.ref a1), .val (.int (3 : Int32)), .val (.ref a3), .val (.int (3 : Int32)), .val (.int (8 : Int32)), .val (.int (3 : Int32)), .val (.int c2)] [(.int (3 : Int32)), (.ref a1)])) (fun _ k => XS.iloadN X16.here hx rfl (hb hby d5_11) rfl k) ?_
  have q18 : Arv Z h16 a1 kc .char (8 : Int32) [(.int c0), (.int c1), (.int c2), (.int c3), (.int c4), (.int c5), (.int c6), (.int c7)] (.int (0 : Int32)) := (q12.other W16 hne)
  obtain ⟨cl19, Ar19, qc19, Sz19, Nn19, Hs19, Gf19⟩ := id q18
  have hin20 : ¬ ((3 : Int32) < 0 ∨ cl19.slots.size ≤ ((3 : Int32)).toNatClampNeg) := (inb_of Sz19 ⟨by decide, by decide⟩)
  have hat20 : cl19.slots[((3 : Int32)).toNatClampNeg]? = some (.int c3) := Has.at Hs19 hin20 rfl
  refine Go.step (T' := T16) (f' := (mkF m 13 #[.val (.ref a1), .val (.int (3 : Int32)), .val (.ref a3), .val (.int (3 : Int32)), .val (.int (8 : Int32)), .val (.int (3 : Int32)), .val (.int c2)] [(.int c3)])) (fun _ k => X16.caload hx (j := (3 : Int32)) (v := (.int c3)) (by rw [e16]; exact Ar19.1) (State.isArrayOf_alike hZ.alike Ar19.2.1) Ar19.2.2 hin20 hat20 (g := (mkF m 12 #[.val (.ref a1), .val (.int (3 : Int32)), .val (.ref a3), .val (.int (3 : Int32)), .val (.int (8 : Int32)), .val (.int (3 : Int32)), .val (.int c2)] [(.int (3 : Int32)), (.ref a1)])) rfl rfl (hb hby d5_12) _ k) ?_
  refine Go.step (T' := T16) (f' := (mkF m 15 #[.val (.ref a1), .val (.int (3 : Int32)), .val (.ref a3), .val (.int (3 : Int32)), .val (.int (8 : Int32)), .val (.int (3 : Int32)), .val (.int c3)] [])) (fun _ k => XS.istore X16.here hx rfl (hb hby d5_13) rfl (l' := #[.val (.ref a1), .val (.int (3 : Int32)), .val (.ref a3), .val (.int (3 : Int32)), .val (.int (8 : Int32)), .val (.int (3 : Int32)), .val (.int c3)]) rfl k) ?_
  refine Go.step (T' := T16) (f' := (mkF m 17 #[.val (.ref a1), .val (.int (3 : Int32)), .val (.ref a3), .val (.int (3 : Int32)), .val (.int (8 : Int32)), .val (.int (3 : Int32)), .val (.int c3)] [(.int c3)])) (fun _ k => XS.iload X16.here hx rfl (hb hby d5_15) rfl k) ?_
  refine Go.step (T' := T16) (f' := (mkF m 20 #[.val (.ref a1), .val (.int (3 : Int32)), .val (.ref a3), .val (.int (3 : Int32)), .val (.int (8 : Int32)), .val (.int (3 : Int32)), .val (.int c3)] [(.int (255 : Int32)), (.int c3)])) (fun _ k => XS.sipush X16.here hx rfl (hb hby d5_17) k) ?_
  refine Go.step (T' := T16) (f' := (mkF m 26 #[.val (.ref a1), .val (.int (3 : Int32)), .val (.ref a3), .val (.int (3 : Int32)), .val (.int (8 : Int32)), .val (.int (3 : Int32)), .val (.int c3)] [])) (fun _ k => XS.icmpYes X16.here hx rfl (pc0 := 20) (pc' := 26) rfl (hb hby d5_20) rfl (flt hl3).2.2.2 (by decide) (by decide) k) ?_
  refine Go.step (T' := T16) (f' := (mkF m 27 #[.val (.ref a1), .val (.int (3 : Int32)), .val (.ref a3), .val (.int (3 : Int32)), .val (.int (8 : Int32)), .val (.int (3 : Int32)), .val (.int c3)] [(.ref a3)])) (fun _ k => XS.aloadN X16.here hx rfl (hb hby d5_26) rfl rfl k) ?_
  refine Go.step (T' := T16) (f' := (mkF m 28 #[.val (.ref a1), .val (.int (3 : Int32)), .val (.ref a3), .val (.int (3 : Int32)), .val (.int (8 : Int32)), .val (.int (3 : Int32)), .val (.int c3)] [(.int (3 : Int32)), (.ref a3)])) (fun _ k => XS.iloadN X16.here hx rfl (hb hby d5_27) rfl k) ?_
  refine Go.step (T' := T16) (f' := (mkF m 30 #[.val (.ref a1), .val (.int (3 : Int32)), .val (.ref a3), .val (.int (3 : Int32)), .val (.int (8 : Int32)), .val (.int (3 : Int32)), .val (.int c3)] [(.int c3), (.int (3 : Int32)), (.ref a3)])) (fun _ k => XS.iload X16.here hx rfl (hb hby d5_28) rfl k) ?_
  refine Go.step (T' := T16) (f' := (mkF m 31 #[.val (.ref a1), .val (.int (3 : Int32)), .val (.ref a3), .val (.int (3 : Int32)), .val (.int (8 : Int32)), .val (.int (3 : Int32)), .val (.int c3)] [(.int (c3.toInt8.toInt32)), (.int (3 : Int32)), (.ref a3)])) (fun _ k => XS.i2b X16.here hx rfl (hb hby d5_30) rfl k) ?_
  obtain ⟨cl21, Ar21, qc21, Sz21, Nn21, Hs21, Gf21⟩ := id Va16
  have hin22 : ¬ ((3 : Int32) < 0 ∨ cl21.slots.size ≤ ((3 : Int32)).toNatClampNeg) := (inb_of Sz21 ⟨by decide, by decide⟩)
  obtain ⟨T22, h22, X22, e22, W22, st22⟩ := stB X16 hx hZ e16 Ar21 (j := (3 : Int32)) hin22 (g := (mkF m 31 #[.val (.ref a1), .val (.int (3 : Int32)), .val (.ref a3), .val (.int (3 : Int32)), .val (.int (8 : Int32)), .val (.int (3 : Int32)), .val (.int c3)] [(.int (c3.toInt8.toInt32)), (.int (3 : Int32)), (.ref a3)])) rfl rfl (hb hby d5_31)
  have N22 := Fr.snoc X22 N16 g_a3
  have Z23 : n0 ≤ h22.size := Nat.le_trans Z17 (Keep.of_wr W22).1
  have K23 : Keep h0 h22 [a3] := K17.wr W22 (Or.inl (List.mem_of_getElem? (i := 0) rfl))
  rw [own_nb] at W22
  have Va22 : Arv Z h22 a3 kb .byte (8 : Int32) [(.int (c0.toInt8.toInt32)), (.int (c1.toInt8.toInt32)), (.int (c2.toInt8.toInt32)), (.int (c3.toInt8.toInt32)), (.int (0 : Int32)), (.int (0 : Int32)), (.int (0 : Int32)), (.int (0 : Int32))] (.int (0 : Int32)) := Arv.set Ar21 qc21 Sz21 Nn21 Hs21 Gf21 (fits_nar_byte _) W22 3 rfl (Nat.le_of_ble_eq_true rfl)
  refine Go.step (T' := T22) (f' := (mkF m 32 #[.val (.ref a1), .val (.int (3 : Int32)), .val (.ref a3), .val (.int (3 : Int32)), .val (.int (8 : Int32)), .val (.int (3 : Int32)), .val (.int c3)] [])) st22 ?_
  refine Go.step (T' := T22) (f' := (mkF m 35 #[.val (.ref a1), .val (.int (4 : Int32)), .val (.ref a3), .val (.int (3 : Int32)), .val (.int (8 : Int32)), .val (.int (3 : Int32)), .val (.int c3)] [])) (fun _ k => XS.iinc X22.here hx rfl (hb hby d5_32) rfl (l' := #[.val (.ref a1), .val (.int (4 : Int32)), .val (.ref a3), .val (.int (3 : Int32)), .val (.int (8 : Int32)), .val (.int (3 : Int32)), .val (.int c3)]) rfl k) ?_
  refine Go.step (T' := T22) (f' := (mkF m 38 #[.val (.ref a1), .val (.int (4 : Int32)), .val (.ref a3), .val (.int (4 : Int32)), .val (.int (8 : Int32)), .val (.int (3 : Int32)), .val (.int c3)] [])) (fun _ k => XS.iinc X22.here hx rfl (hb hby d5_35) rfl (l' := #[.val (.ref a1), .val (.int (4 : Int32)), .val (.ref a3), .val (.int (4 : Int32)), .val (.int (8 : Int32)), .val (.int (3 : Int32)), .val (.int c3)]) rfl k) ?_
  refine Go.step (T' := T22) (f' := (mkF m 41 #[.val (.ref a1), .val (.int (4 : Int32)), .val (.ref a3), .val (.int (4 : Int32)), .val (.int (8 : Int32)), .val (.int (4 : Int32)), .val (.int c3)] [])) (fun _ k => XS.iinc X22.here hx rfl (hb hby d5_38) rfl (l' := #[.val (.ref a1), .val (.int (4 : Int32)), .val (.ref a3), .val (.int (4 : Int32)), .val (.int (8 : Int32)), .val (.int (4 : Int32)), .val (.int c3)]) rfl k) ?_
  refine Go.step (T' := T22) (f' := (mkF m 3 #[.val (.ref a1), .val (.int (4 : Int32)), .val (.ref a3), .val (.int (4 : Int32)), .val (.int (8 : Int32)), .val (.int (4 : Int32)), .val (.int c3)] [])) (fun _ k => XS.goto X22.here hx rfl (pc0 := 41) (pc' := 3) rfl (hb hby d5_41) (by decide) (by decide) k) ?_
  refine Go.step (T' := T22) (f' := (mkF m 5 #[.val (.ref a1), .val (.int (4 : Int32)), .val (.ref a3), .val (.int (4 : Int32)), .val (.int (8 : Int32)), .val (.int (4 : Int32)), .val (.int c3)] [(.int (4 : Int32))])) (fun _ k => XS.iload X22.here hx rfl (hb hby d5_3) rfl k) ?_
  refine Go.step (T' := T22) (f' := (mkF m 7 #[.val (.ref a1), .val (.int (4 : Int32)), .val (.ref a3), .val (.int (4 : Int32)), .val (.int (8 : Int32)), .val (.int (4 : Int32)), .val (.int c3)] [(.int (8 : Int32)), (.int (4 : Int32))])) (fun _ k => XS.iload X22.here hx rfl (hb hby d5_5) rfl k) ?_
  refine Go.step (T' := T22) (f' := (mkF m 10 #[.val (.ref a1), .val (.int (4 : Int32)), .val (.ref a3), .val (.int (4 : Int32)), .val (.int (8 : Int32)), .val (.int (4 : Int32)), .val (.int c3)] [])) (fun _ k => XS.icmpNo X22.here hx rfl (hb hby d5_7) rfl (tlt (by decide : (4 : Int32) < (8 : Int32))).2.1 k) ?_
  refine Go.step (T' := T22) (f' := (mkF m 11 #[.val (.ref a1), .val (.int (4 : Int32)), .val (.ref a3), .val (.int (4 : Int32)), .val (.int (8 : Int32)), .val (.int (4 : Int32)), .val (.int c3)] [(.ref a1)])) (fun _ k => XS.aloadN X22.here hx rfl (hb hby d5_10) rfl rfl k) ?_
  refine Go.step (T' := T22) (f' := (mkF m 12 #[.val (.ref a1), .val (.int (4 : Int32)), .val (.ref a3), .val (.int (4 : Int32)), .val (.int (8 : Int32)), .val (.int (4 : Int32)), .val (.int c3)] [(.int (4 : Int32)), (.ref a1)])) (fun _ k => XS.iloadN X22.here hx rfl (hb hby d5_11) rfl k) ?_
  have q24 : Arv Z h22 a1 kc .char (8 : Int32) [(.int c0), (.int c1), (.int c2), (.int c3), (.int c4), (.int c5), (.int c6), (.int c7)] (.int (0 : Int32)) := (q18.other W22 hne)
  obtain ⟨cl25, Ar25, qc25, Sz25, Nn25, Hs25, Gf25⟩ := id q24
  have hin26 : ¬ ((4 : Int32) < 0 ∨ cl25.slots.size ≤ ((4 : Int32)).toNatClampNeg) := (inb_of Sz25 ⟨by decide, by decide⟩)
  have hat26 : cl25.slots[((4 : Int32)).toNatClampNeg]? = some (.int c4) := Has.at Hs25 hin26 rfl
  refine Go.step (T' := T22) (f' := (mkF m 13 #[.val (.ref a1), .val (.int (4 : Int32)), .val (.ref a3), .val (.int (4 : Int32)), .val (.int (8 : Int32)), .val (.int (4 : Int32)), .val (.int c3)] [(.int c4)])) (fun _ k => X22.caload hx (j := (4 : Int32)) (v := (.int c4)) (by rw [e22]; exact Ar25.1) (State.isArrayOf_alike hZ.alike Ar25.2.1) Ar25.2.2 hin26 hat26 (g := (mkF m 12 #[.val (.ref a1), .val (.int (4 : Int32)), .val (.ref a3), .val (.int (4 : Int32)), .val (.int (8 : Int32)), .val (.int (4 : Int32)), .val (.int c3)] [(.int (4 : Int32)), (.ref a1)])) rfl rfl (hb hby d5_12) _ k) ?_
  refine Go.step (T' := T22) (f' := (mkF m 15 #[.val (.ref a1), .val (.int (4 : Int32)), .val (.ref a3), .val (.int (4 : Int32)), .val (.int (8 : Int32)), .val (.int (4 : Int32)), .val (.int c4)] [])) (fun _ k => XS.istore X22.here hx rfl (hb hby d5_13) rfl (l' := #[.val (.ref a1), .val (.int (4 : Int32)), .val (.ref a3), .val (.int (4 : Int32)), .val (.int (8 : Int32)), .val (.int (4 : Int32)), .val (.int c4)]) rfl k) ?_
  refine Go.step (T' := T22) (f' := (mkF m 17 #[.val (.ref a1), .val (.int (4 : Int32)), .val (.ref a3), .val (.int (4 : Int32)), .val (.int (8 : Int32)), .val (.int (4 : Int32)), .val (.int c4)] [(.int c4)])) (fun _ k => XS.iload X22.here hx rfl (hb hby d5_15) rfl k) ?_
  refine Go.step (T' := T22) (f' := (mkF m 20 #[.val (.ref a1), .val (.int (4 : Int32)), .val (.ref a3), .val (.int (4 : Int32)), .val (.int (8 : Int32)), .val (.int (4 : Int32)), .val (.int c4)] [(.int (255 : Int32)), (.int c4)])) (fun _ k => XS.sipush X22.here hx rfl (hb hby d5_17) k) ?_
  refine Go.step (T' := T22) (f' := (mkF m 26 #[.val (.ref a1), .val (.int (4 : Int32)), .val (.ref a3), .val (.int (4 : Int32)), .val (.int (8 : Int32)), .val (.int (4 : Int32)), .val (.int c4)] [])) (fun _ k => XS.icmpYes X22.here hx rfl (pc0 := 20) (pc' := 26) rfl (hb hby d5_20) rfl (flt hl4).2.2.2 (by decide) (by decide) k) ?_
  refine Go.step (T' := T22) (f' := (mkF m 27 #[.val (.ref a1), .val (.int (4 : Int32)), .val (.ref a3), .val (.int (4 : Int32)), .val (.int (8 : Int32)), .val (.int (4 : Int32)), .val (.int c4)] [(.ref a3)])) (fun _ k => XS.aloadN X22.here hx rfl (hb hby d5_26) rfl rfl k) ?_
  refine Go.step (T' := T22) (f' := (mkF m 28 #[.val (.ref a1), .val (.int (4 : Int32)), .val (.ref a3), .val (.int (4 : Int32)), .val (.int (8 : Int32)), .val (.int (4 : Int32)), .val (.int c4)] [(.int (4 : Int32)), (.ref a3)])) (fun _ k => XS.iloadN X22.here hx rfl (hb hby d5_27) rfl k) ?_
  refine Go.step (T' := T22) (f' := (mkF m 30 #[.val (.ref a1), .val (.int (4 : Int32)), .val (.ref a3), .val (.int (4 : Int32)), .val (.int (8 : Int32)), .val (.int (4 : Int32)), .val (.int c4)] [(.int c4), (.int (4 : Int32)), (.ref a3)])) (fun _ k => XS.iload X22.here hx rfl (hb hby d5_28) rfl k) ?_
  refine Go.step (T' := T22) (f' := (mkF m 31 #[.val (.ref a1), .val (.int (4 : Int32)), .val (.ref a3), .val (.int (4 : Int32)), .val (.int (8 : Int32)), .val (.int (4 : Int32)), .val (.int c4)] [(.int (c4.toInt8.toInt32)), (.int (4 : Int32)), (.ref a3)])) (fun _ k => XS.i2b X22.here hx rfl (hb hby d5_30) rfl k) ?_
  obtain ⟨cl27, Ar27, qc27, Sz27, Nn27, Hs27, Gf27⟩ := id Va22
  have hin28 : ¬ ((4 : Int32) < 0 ∨ cl27.slots.size ≤ ((4 : Int32)).toNatClampNeg) := (inb_of Sz27 ⟨by decide, by decide⟩)
  obtain ⟨T28, h28, X28, e28, W28, st28⟩ := stB X22 hx hZ e22 Ar27 (j := (4 : Int32)) hin28 (g := (mkF m 31 #[.val (.ref a1), .val (.int (4 : Int32)), .val (.ref a3), .val (.int (4 : Int32)), .val (.int (8 : Int32)), .val (.int (4 : Int32)), .val (.int c4)] [(.int (c4.toInt8.toInt32)), (.int (4 : Int32)), (.ref a3)])) rfl rfl (hb hby d5_31)
  have N28 := Fr.snoc X28 N22 g_a3
  have Z29 : n0 ≤ h28.size := Nat.le_trans Z23 (Keep.of_wr W28).1
  have K29 : Keep h0 h28 [a3] := K23.wr W28 (Or.inl (List.mem_of_getElem? (i := 0) rfl))
  rw [own_nb] at W28
  have Va28 : Arv Z h28 a3 kb .byte (8 : Int32) [(.int (c0.toInt8.toInt32)), (.int (c1.toInt8.toInt32)), (.int (c2.toInt8.toInt32)), (.int (c3.toInt8.toInt32)), (.int (c4.toInt8.toInt32)), (.int (0 : Int32)), (.int (0 : Int32)), (.int (0 : Int32))] (.int (0 : Int32)) := Arv.set Ar27 qc27 Sz27 Nn27 Hs27 Gf27 (fits_nar_byte _) W28 4 rfl (Nat.le_of_ble_eq_true rfl)
  refine Go.step (T' := T28) (f' := (mkF m 32 #[.val (.ref a1), .val (.int (4 : Int32)), .val (.ref a3), .val (.int (4 : Int32)), .val (.int (8 : Int32)), .val (.int (4 : Int32)), .val (.int c4)] [])) st28 ?_
  refine Go.step (T' := T28) (f' := (mkF m 35 #[.val (.ref a1), .val (.int (5 : Int32)), .val (.ref a3), .val (.int (4 : Int32)), .val (.int (8 : Int32)), .val (.int (4 : Int32)), .val (.int c4)] [])) (fun _ k => XS.iinc X28.here hx rfl (hb hby d5_32) rfl (l' := #[.val (.ref a1), .val (.int (5 : Int32)), .val (.ref a3), .val (.int (4 : Int32)), .val (.int (8 : Int32)), .val (.int (4 : Int32)), .val (.int c4)]) rfl k) ?_
  refine Go.step (T' := T28) (f' := (mkF m 38 #[.val (.ref a1), .val (.int (5 : Int32)), .val (.ref a3), .val (.int (5 : Int32)), .val (.int (8 : Int32)), .val (.int (4 : Int32)), .val (.int c4)] [])) (fun _ k => XS.iinc X28.here hx rfl (hb hby d5_35) rfl (l' := #[.val (.ref a1), .val (.int (5 : Int32)), .val (.ref a3), .val (.int (5 : Int32)), .val (.int (8 : Int32)), .val (.int (4 : Int32)), .val (.int c4)]) rfl k) ?_
  refine Go.step (T' := T28) (f' := (mkF m 41 #[.val (.ref a1), .val (.int (5 : Int32)), .val (.ref a3), .val (.int (5 : Int32)), .val (.int (8 : Int32)), .val (.int (5 : Int32)), .val (.int c4)] [])) (fun _ k => XS.iinc X28.here hx rfl (hb hby d5_38) rfl (l' := #[.val (.ref a1), .val (.int (5 : Int32)), .val (.ref a3), .val (.int (5 : Int32)), .val (.int (8 : Int32)), .val (.int (5 : Int32)), .val (.int c4)]) rfl k) ?_
  refine Go.step (T' := T28) (f' := (mkF m 3 #[.val (.ref a1), .val (.int (5 : Int32)), .val (.ref a3), .val (.int (5 : Int32)), .val (.int (8 : Int32)), .val (.int (5 : Int32)), .val (.int c4)] [])) (fun _ k => XS.goto X28.here hx rfl (pc0 := 41) (pc' := 3) rfl (hb hby d5_41) (by decide) (by decide) k) ?_
  refine Go.step (T' := T28) (f' := (mkF m 5 #[.val (.ref a1), .val (.int (5 : Int32)), .val (.ref a3), .val (.int (5 : Int32)), .val (.int (8 : Int32)), .val (.int (5 : Int32)), .val (.int c4)] [(.int (5 : Int32))])) (fun _ k => XS.iload X28.here hx rfl (hb hby d5_3) rfl k) ?_
  refine Go.step (T' := T28) (f' := (mkF m 7 #[.val (.ref a1), .val (.int (5 : Int32)), .val (.ref a3), .val (.int (5 : Int32)), .val (.int (8 : Int32)), .val (.int (5 : Int32)), .val (.int c4)] [(.int (8 : Int32)), (.int (5 : Int32))])) (fun _ k => XS.iload X28.here hx rfl (hb hby d5_5) rfl k) ?_
  refine Go.step (T' := T28) (f' := (mkF m 10 #[.val (.ref a1), .val (.int (5 : Int32)), .val (.ref a3), .val (.int (5 : Int32)), .val (.int (8 : Int32)), .val (.int (5 : Int32)), .val (.int c4)] [])) (fun _ k => XS.icmpNo X28.here hx rfl (hb hby d5_7) rfl (tlt (by decide : (5 : Int32) < (8 : Int32))).2.1 k) ?_
  refine Go.step (T' := T28) (f' := (mkF m 11 #[.val (.ref a1), .val (.int (5 : Int32)), .val (.ref a3), .val (.int (5 : Int32)), .val (.int (8 : Int32)), .val (.int (5 : Int32)), .val (.int c4)] [(.ref a1)])) (fun _ k => XS.aloadN X28.here hx rfl (hb hby d5_10) rfl rfl k) ?_
  refine Go.step (T' := T28) (f' := (mkF m 12 #[.val (.ref a1), .val (.int (5 : Int32)), .val (.ref a3), .val (.int (5 : Int32)), .val (.int (8 : Int32)), .val (.int (5 : Int32)), .val (.int c4)] [(.int (5 : Int32)), (.ref a1)])) (fun _ k => XS.iloadN X28.here hx rfl (hb hby d5_11) rfl k) ?_
  have q30 : Arv Z h28 a1 kc .char (8 : Int32) [(.int c0), (.int c1), (.int c2), (.int c3), (.int c4), (.int c5), (.int c6), (.int c7)] (.int (0 : Int32)) := (q24.other W28 hne)
  obtain ⟨cl31, Ar31, qc31, Sz31, Nn31, Hs31, Gf31⟩ := id q30
  have hin32 : ¬ ((5 : Int32) < 0 ∨ cl31.slots.size ≤ ((5 : Int32)).toNatClampNeg) := (inb_of Sz31 ⟨by decide, by decide⟩)
  have hat32 : cl31.slots[((5 : Int32)).toNatClampNeg]? = some (.int c5) := Has.at Hs31 hin32 rfl
  refine Go.step (T' := T28) (f' := (mkF m 13 #[.val (.ref a1), .val (.int (5 : Int32)), .val (.ref a3), .val (.int (5 : Int32)), .val (.int (8 : Int32)), .val (.int (5 : Int32)), .val (.int c4)] [(.int c5)])) (fun _ k => X28.caload hx (j := (5 : Int32)) (v := (.int c5)) (by rw [e28]; exact Ar31.1) (State.isArrayOf_alike hZ.alike Ar31.2.1) Ar31.2.2 hin32 hat32 (g := (mkF m 12 #[.val (.ref a1), .val (.int (5 : Int32)), .val (.ref a3), .val (.int (5 : Int32)), .val (.int (8 : Int32)), .val (.int (5 : Int32)), .val (.int c4)] [(.int (5 : Int32)), (.ref a1)])) rfl rfl (hb hby d5_12) _ k) ?_
  refine Go.step (T' := T28) (f' := (mkF m 15 #[.val (.ref a1), .val (.int (5 : Int32)), .val (.ref a3), .val (.int (5 : Int32)), .val (.int (8 : Int32)), .val (.int (5 : Int32)), .val (.int c5)] [])) (fun _ k => XS.istore X28.here hx rfl (hb hby d5_13) rfl (l' := #[.val (.ref a1), .val (.int (5 : Int32)), .val (.ref a3), .val (.int (5 : Int32)), .val (.int (8 : Int32)), .val (.int (5 : Int32)), .val (.int c5)]) rfl k) ?_
  refine Go.step (T' := T28) (f' := (mkF m 17 #[.val (.ref a1), .val (.int (5 : Int32)), .val (.ref a3), .val (.int (5 : Int32)), .val (.int (8 : Int32)), .val (.int (5 : Int32)), .val (.int c5)] [(.int c5)])) (fun _ k => XS.iload X28.here hx rfl (hb hby d5_15) rfl k) ?_
  refine Go.step (T' := T28) (f' := (mkF m 20 #[.val (.ref a1), .val (.int (5 : Int32)), .val (.ref a3), .val (.int (5 : Int32)), .val (.int (8 : Int32)), .val (.int (5 : Int32)), .val (.int c5)] [(.int (255 : Int32)), (.int c5)])) (fun _ k => XS.sipush X28.here hx rfl (hb hby d5_17) k) ?_
  refine Go.step (T' := T28) (f' := (mkF m 26 #[.val (.ref a1), .val (.int (5 : Int32)), .val (.ref a3), .val (.int (5 : Int32)), .val (.int (8 : Int32)), .val (.int (5 : Int32)), .val (.int c5)] [])) (fun _ k => XS.icmpYes X28.here hx rfl (pc0 := 20) (pc' := 26) rfl (hb hby d5_20) rfl (flt hl5).2.2.2 (by decide) (by decide) k) ?_
  refine Go.step (T' := T28) (f' := (mkF m 27 #[.val (.ref a1), .val (.int (5 : Int32)), .val (.ref a3), .val (.int (5 : Int32)), .val (.int (8 : Int32)), .val (.int (5 : Int32)), .val (.int c5)] [(.ref a3)])) (fun _ k => XS.aloadN X28.here hx rfl (hb hby d5_26) rfl rfl k) ?_
  refine Go.step (T' := T28) (f' := (mkF m 28 #[.val (.ref a1), .val (.int (5 : Int32)), .val (.ref a3), .val (.int (5 : Int32)), .val (.int (8 : Int32)), .val (.int (5 : Int32)), .val (.int c5)] [(.int (5 : Int32)), (.ref a3)])) (fun _ k => XS.iloadN X28.here hx rfl (hb hby d5_27) rfl k) ?_
  refine Go.step (T' := T28) (f' := (mkF m 30 #[.val (.ref a1), .val (.int (5 : Int32)), .val (.ref a3), .val (.int (5 : Int32)), .val (.int (8 : Int32)), .val (.int (5 : Int32)), .val (.int c5)] [(.int c5), (.int (5 : Int32)), (.ref a3)])) (fun _ k => XS.iload X28.here hx rfl (hb hby d5_28) rfl k) ?_
  refine Go.step (T' := T28) (f' := (mkF m 31 #[.val (.ref a1), .val (.int (5 : Int32)), .val (.ref a3), .val (.int (5 : Int32)), .val (.int (8 : Int32)), .val (.int (5 : Int32)), .val (.int c5)] [(.int (c5.toInt8.toInt32)), (.int (5 : Int32)), (.ref a3)])) (fun _ k => XS.i2b X28.here hx rfl (hb hby d5_30) rfl k) ?_
  obtain ⟨cl33, Ar33, qc33, Sz33, Nn33, Hs33, Gf33⟩ := id Va28
  have hin34 : ¬ ((5 : Int32) < 0 ∨ cl33.slots.size ≤ ((5 : Int32)).toNatClampNeg) := (inb_of Sz33 ⟨by decide, by decide⟩)
  obtain ⟨T34, h34, X34, e34, W34, st34⟩ := stB X28 hx hZ e28 Ar33 (j := (5 : Int32)) hin34 (g := (mkF m 31 #[.val (.ref a1), .val (.int (5 : Int32)), .val (.ref a3), .val (.int (5 : Int32)), .val (.int (8 : Int32)), .val (.int (5 : Int32)), .val (.int c5)] [(.int (c5.toInt8.toInt32)), (.int (5 : Int32)), (.ref a3)])) rfl rfl (hb hby d5_31)
  have N34 := Fr.snoc X34 N28 g_a3
  have Z35 : n0 ≤ h34.size := Nat.le_trans Z29 (Keep.of_wr W34).1
  have K35 : Keep h0 h34 [a3] := K29.wr W34 (Or.inl (List.mem_of_getElem? (i := 0) rfl))
  rw [own_nb] at W34
  have Va34 : Arv Z h34 a3 kb .byte (8 : Int32) [(.int (c0.toInt8.toInt32)), (.int (c1.toInt8.toInt32)), (.int (c2.toInt8.toInt32)), (.int (c3.toInt8.toInt32)), (.int (c4.toInt8.toInt32)), (.int (c5.toInt8.toInt32)), (.int (0 : Int32)), (.int (0 : Int32))] (.int (0 : Int32)) := Arv.set Ar33 qc33 Sz33 Nn33 Hs33 Gf33 (fits_nar_byte _) W34 5 rfl (Nat.le_of_ble_eq_true rfl)
  refine Go.step (T' := T34) (f' := (mkF m 32 #[.val (.ref a1), .val (.int (5 : Int32)), .val (.ref a3), .val (.int (5 : Int32)), .val (.int (8 : Int32)), .val (.int (5 : Int32)), .val (.int c5)] [])) st34 ?_
  refine Go.step (T' := T34) (f' := (mkF m 35 #[.val (.ref a1), .val (.int (6 : Int32)), .val (.ref a3), .val (.int (5 : Int32)), .val (.int (8 : Int32)), .val (.int (5 : Int32)), .val (.int c5)] [])) (fun _ k => XS.iinc X34.here hx rfl (hb hby d5_32) rfl (l' := #[.val (.ref a1), .val (.int (6 : Int32)), .val (.ref a3), .val (.int (5 : Int32)), .val (.int (8 : Int32)), .val (.int (5 : Int32)), .val (.int c5)]) rfl k) ?_
  refine Go.step (T' := T34) (f' := (mkF m 38 #[.val (.ref a1), .val (.int (6 : Int32)), .val (.ref a3), .val (.int (6 : Int32)), .val (.int (8 : Int32)), .val (.int (5 : Int32)), .val (.int c5)] [])) (fun _ k => XS.iinc X34.here hx rfl (hb hby d5_35) rfl (l' := #[.val (.ref a1), .val (.int (6 : Int32)), .val (.ref a3), .val (.int (6 : Int32)), .val (.int (8 : Int32)), .val (.int (5 : Int32)), .val (.int c5)]) rfl k) ?_
  refine Go.step (T' := T34) (f' := (mkF m 41 #[.val (.ref a1), .val (.int (6 : Int32)), .val (.ref a3), .val (.int (6 : Int32)), .val (.int (8 : Int32)), .val (.int (6 : Int32)), .val (.int c5)] [])) (fun _ k => XS.iinc X34.here hx rfl (hb hby d5_38) rfl (l' := #[.val (.ref a1), .val (.int (6 : Int32)), .val (.ref a3), .val (.int (6 : Int32)), .val (.int (8 : Int32)), .val (.int (6 : Int32)), .val (.int c5)]) rfl k) ?_
  refine Go.step (T' := T34) (f' := (mkF m 3 #[.val (.ref a1), .val (.int (6 : Int32)), .val (.ref a3), .val (.int (6 : Int32)), .val (.int (8 : Int32)), .val (.int (6 : Int32)), .val (.int c5)] [])) (fun _ k => XS.goto X34.here hx rfl (pc0 := 41) (pc' := 3) rfl (hb hby d5_41) (by decide) (by decide) k) ?_
  refine Go.step (T' := T34) (f' := (mkF m 5 #[.val (.ref a1), .val (.int (6 : Int32)), .val (.ref a3), .val (.int (6 : Int32)), .val (.int (8 : Int32)), .val (.int (6 : Int32)), .val (.int c5)] [(.int (6 : Int32))])) (fun _ k => XS.iload X34.here hx rfl (hb hby d5_3) rfl k) ?_
  refine Go.step (T' := T34) (f' := (mkF m 7 #[.val (.ref a1), .val (.int (6 : Int32)), .val (.ref a3), .val (.int (6 : Int32)), .val (.int (8 : Int32)), .val (.int (6 : Int32)), .val (.int c5)] [(.int (8 : Int32)), (.int (6 : Int32))])) (fun _ k => XS.iload X34.here hx rfl (hb hby d5_5) rfl k) ?_
  refine Go.step (T' := T34) (f' := (mkF m 10 #[.val (.ref a1), .val (.int (6 : Int32)), .val (.ref a3), .val (.int (6 : Int32)), .val (.int (8 : Int32)), .val (.int (6 : Int32)), .val (.int c5)] [])) (fun _ k => XS.icmpNo X34.here hx rfl (hb hby d5_7) rfl (tlt (by decide : (6 : Int32) < (8 : Int32))).2.1 k) ?_
  refine Go.step (T' := T34) (f' := (mkF m 11 #[.val (.ref a1), .val (.int (6 : Int32)), .val (.ref a3), .val (.int (6 : Int32)), .val (.int (8 : Int32)), .val (.int (6 : Int32)), .val (.int c5)] [(.ref a1)])) (fun _ k => XS.aloadN X34.here hx rfl (hb hby d5_10) rfl rfl k) ?_
  refine Go.step (T' := T34) (f' := (mkF m 12 #[.val (.ref a1), .val (.int (6 : Int32)), .val (.ref a3), .val (.int (6 : Int32)), .val (.int (8 : Int32)), .val (.int (6 : Int32)), .val (.int c5)] [(.int (6 : Int32)), (.ref a1)])) (fun _ k => XS.iloadN X34.here hx rfl (hb hby d5_11) rfl k) ?_
  have q36 : Arv Z h34 a1 kc .char (8 : Int32) [(.int c0), (.int c1), (.int c2), (.int c3), (.int c4), (.int c5), (.int c6), (.int c7)] (.int (0 : Int32)) := (q30.other W34 hne)
  obtain ⟨cl37, Ar37, qc37, Sz37, Nn37, Hs37, Gf37⟩ := id q36
  have hin38 : ¬ ((6 : Int32) < 0 ∨ cl37.slots.size ≤ ((6 : Int32)).toNatClampNeg) := (inb_of Sz37 ⟨by decide, by decide⟩)
  have hat38 : cl37.slots[((6 : Int32)).toNatClampNeg]? = some (.int c6) := Has.at Hs37 hin38 rfl
  refine Go.step (T' := T34) (f' := (mkF m 13 #[.val (.ref a1), .val (.int (6 : Int32)), .val (.ref a3), .val (.int (6 : Int32)), .val (.int (8 : Int32)), .val (.int (6 : Int32)), .val (.int c5)] [(.int c6)])) (fun _ k => X34.caload hx (j := (6 : Int32)) (v := (.int c6)) (by rw [e34]; exact Ar37.1) (State.isArrayOf_alike hZ.alike Ar37.2.1) Ar37.2.2 hin38 hat38 (g := (mkF m 12 #[.val (.ref a1), .val (.int (6 : Int32)), .val (.ref a3), .val (.int (6 : Int32)), .val (.int (8 : Int32)), .val (.int (6 : Int32)), .val (.int c5)] [(.int (6 : Int32)), (.ref a1)])) rfl rfl (hb hby d5_12) _ k) ?_
  refine Go.step (T' := T34) (f' := (mkF m 15 #[.val (.ref a1), .val (.int (6 : Int32)), .val (.ref a3), .val (.int (6 : Int32)), .val (.int (8 : Int32)), .val (.int (6 : Int32)), .val (.int c6)] [])) (fun _ k => XS.istore X34.here hx rfl (hb hby d5_13) rfl (l' := #[.val (.ref a1), .val (.int (6 : Int32)), .val (.ref a3), .val (.int (6 : Int32)), .val (.int (8 : Int32)), .val (.int (6 : Int32)), .val (.int c6)]) rfl k) ?_
  refine Go.step (T' := T34) (f' := (mkF m 17 #[.val (.ref a1), .val (.int (6 : Int32)), .val (.ref a3), .val (.int (6 : Int32)), .val (.int (8 : Int32)), .val (.int (6 : Int32)), .val (.int c6)] [(.int c6)])) (fun _ k => XS.iload X34.here hx rfl (hb hby d5_15) rfl k) ?_
  refine Go.step (T' := T34) (f' := (mkF m 20 #[.val (.ref a1), .val (.int (6 : Int32)), .val (.ref a3), .val (.int (6 : Int32)), .val (.int (8 : Int32)), .val (.int (6 : Int32)), .val (.int c6)] [(.int (255 : Int32)), (.int c6)])) (fun _ k => XS.sipush X34.here hx rfl (hb hby d5_17) k) ?_
  refine Go.step (T' := T34) (f' := (mkF m 26 #[.val (.ref a1), .val (.int (6 : Int32)), .val (.ref a3), .val (.int (6 : Int32)), .val (.int (8 : Int32)), .val (.int (6 : Int32)), .val (.int c6)] [])) (fun _ k => XS.icmpYes X34.here hx rfl (pc0 := 20) (pc' := 26) rfl (hb hby d5_20) rfl (flt hl6).2.2.2 (by decide) (by decide) k) ?_
  refine Go.step (T' := T34) (f' := (mkF m 27 #[.val (.ref a1), .val (.int (6 : Int32)), .val (.ref a3), .val (.int (6 : Int32)), .val (.int (8 : Int32)), .val (.int (6 : Int32)), .val (.int c6)] [(.ref a3)])) (fun _ k => XS.aloadN X34.here hx rfl (hb hby d5_26) rfl rfl k) ?_
  refine Go.step (T' := T34) (f' := (mkF m 28 #[.val (.ref a1), .val (.int (6 : Int32)), .val (.ref a3), .val (.int (6 : Int32)), .val (.int (8 : Int32)), .val (.int (6 : Int32)), .val (.int c6)] [(.int (6 : Int32)), (.ref a3)])) (fun _ k => XS.iloadN X34.here hx rfl (hb hby d5_27) rfl k) ?_
  refine Go.step (T' := T34) (f' := (mkF m 30 #[.val (.ref a1), .val (.int (6 : Int32)), .val (.ref a3), .val (.int (6 : Int32)), .val (.int (8 : Int32)), .val (.int (6 : Int32)), .val (.int c6)] [(.int c6), (.int (6 : Int32)), (.ref a3)])) (fun _ k => XS.iload X34.here hx rfl (hb hby d5_28) rfl k) ?_
  refine Go.step (T' := T34) (f' := (mkF m 31 #[.val (.ref a1), .val (.int (6 : Int32)), .val (.ref a3), .val (.int (6 : Int32)), .val (.int (8 : Int32)), .val (.int (6 : Int32)), .val (.int c6)] [(.int (c6.toInt8.toInt32)), (.int (6 : Int32)), (.ref a3)])) (fun _ k => XS.i2b X34.here hx rfl (hb hby d5_30) rfl k) ?_
  obtain ⟨cl39, Ar39, qc39, Sz39, Nn39, Hs39, Gf39⟩ := id Va34
  have hin40 : ¬ ((6 : Int32) < 0 ∨ cl39.slots.size ≤ ((6 : Int32)).toNatClampNeg) := (inb_of Sz39 ⟨by decide, by decide⟩)
  obtain ⟨T40, h40, X40, e40, W40, st40⟩ := stB X34 hx hZ e34 Ar39 (j := (6 : Int32)) hin40 (g := (mkF m 31 #[.val (.ref a1), .val (.int (6 : Int32)), .val (.ref a3), .val (.int (6 : Int32)), .val (.int (8 : Int32)), .val (.int (6 : Int32)), .val (.int c6)] [(.int (c6.toInt8.toInt32)), (.int (6 : Int32)), (.ref a3)])) rfl rfl (hb hby d5_31)
  have N40 := Fr.snoc X40 N34 g_a3
  have Z41 : n0 ≤ h40.size := Nat.le_trans Z35 (Keep.of_wr W40).1
  have K41 : Keep h0 h40 [a3] := K35.wr W40 (Or.inl (List.mem_of_getElem? (i := 0) rfl))
  rw [own_nb] at W40
  have Va40 : Arv Z h40 a3 kb .byte (8 : Int32) [(.int (c0.toInt8.toInt32)), (.int (c1.toInt8.toInt32)), (.int (c2.toInt8.toInt32)), (.int (c3.toInt8.toInt32)), (.int (c4.toInt8.toInt32)), (.int (c5.toInt8.toInt32)), (.int (c6.toInt8.toInt32)), (.int (0 : Int32))] (.int (0 : Int32)) := Arv.set Ar39 qc39 Sz39 Nn39 Hs39 Gf39 (fits_nar_byte _) W40 6 rfl (Nat.le_of_ble_eq_true rfl)
  refine Go.step (T' := T40) (f' := (mkF m 32 #[.val (.ref a1), .val (.int (6 : Int32)), .val (.ref a3), .val (.int (6 : Int32)), .val (.int (8 : Int32)), .val (.int (6 : Int32)), .val (.int c6)] [])) st40 ?_
  refine Go.step (T' := T40) (f' := (mkF m 35 #[.val (.ref a1), .val (.int (7 : Int32)), .val (.ref a3), .val (.int (6 : Int32)), .val (.int (8 : Int32)), .val (.int (6 : Int32)), .val (.int c6)] [])) (fun _ k => XS.iinc X40.here hx rfl (hb hby d5_32) rfl (l' := #[.val (.ref a1), .val (.int (7 : Int32)), .val (.ref a3), .val (.int (6 : Int32)), .val (.int (8 : Int32)), .val (.int (6 : Int32)), .val (.int c6)]) rfl k) ?_
  refine Go.step (T' := T40) (f' := (mkF m 38 #[.val (.ref a1), .val (.int (7 : Int32)), .val (.ref a3), .val (.int (7 : Int32)), .val (.int (8 : Int32)), .val (.int (6 : Int32)), .val (.int c6)] [])) (fun _ k => XS.iinc X40.here hx rfl (hb hby d5_35) rfl (l' := #[.val (.ref a1), .val (.int (7 : Int32)), .val (.ref a3), .val (.int (7 : Int32)), .val (.int (8 : Int32)), .val (.int (6 : Int32)), .val (.int c6)]) rfl k) ?_
  refine Go.step (T' := T40) (f' := (mkF m 41 #[.val (.ref a1), .val (.int (7 : Int32)), .val (.ref a3), .val (.int (7 : Int32)), .val (.int (8 : Int32)), .val (.int (7 : Int32)), .val (.int c6)] [])) (fun _ k => XS.iinc X40.here hx rfl (hb hby d5_38) rfl (l' := #[.val (.ref a1), .val (.int (7 : Int32)), .val (.ref a3), .val (.int (7 : Int32)), .val (.int (8 : Int32)), .val (.int (7 : Int32)), .val (.int c6)]) rfl k) ?_
  refine Go.step (T' := T40) (f' := (mkF m 3 #[.val (.ref a1), .val (.int (7 : Int32)), .val (.ref a3), .val (.int (7 : Int32)), .val (.int (8 : Int32)), .val (.int (7 : Int32)), .val (.int c6)] [])) (fun _ k => XS.goto X40.here hx rfl (pc0 := 41) (pc' := 3) rfl (hb hby d5_41) (by decide) (by decide) k) ?_
  refine Go.step (T' := T40) (f' := (mkF m 5 #[.val (.ref a1), .val (.int (7 : Int32)), .val (.ref a3), .val (.int (7 : Int32)), .val (.int (8 : Int32)), .val (.int (7 : Int32)), .val (.int c6)] [(.int (7 : Int32))])) (fun _ k => XS.iload X40.here hx rfl (hb hby d5_3) rfl k) ?_
  refine Go.step (T' := T40) (f' := (mkF m 7 #[.val (.ref a1), .val (.int (7 : Int32)), .val (.ref a3), .val (.int (7 : Int32)), .val (.int (8 : Int32)), .val (.int (7 : Int32)), .val (.int c6)] [(.int (8 : Int32)), (.int (7 : Int32))])) (fun _ k => XS.iload X40.here hx rfl (hb hby d5_5) rfl k) ?_
  refine Go.step (T' := T40) (f' := (mkF m 10 #[.val (.ref a1), .val (.int (7 : Int32)), .val (.ref a3), .val (.int (7 : Int32)), .val (.int (8 : Int32)), .val (.int (7 : Int32)), .val (.int c6)] [])) (fun _ k => XS.icmpNo X40.here hx rfl (hb hby d5_7) rfl (tlt (by decide : (7 : Int32) < (8 : Int32))).2.1 k) ?_
  refine Go.step (T' := T40) (f' := (mkF m 11 #[.val (.ref a1), .val (.int (7 : Int32)), .val (.ref a3), .val (.int (7 : Int32)), .val (.int (8 : Int32)), .val (.int (7 : Int32)), .val (.int c6)] [(.ref a1)])) (fun _ k => XS.aloadN X40.here hx rfl (hb hby d5_10) rfl rfl k) ?_
  refine Go.step (T' := T40) (f' := (mkF m 12 #[.val (.ref a1), .val (.int (7 : Int32)), .val (.ref a3), .val (.int (7 : Int32)), .val (.int (8 : Int32)), .val (.int (7 : Int32)), .val (.int c6)] [(.int (7 : Int32)), (.ref a1)])) (fun _ k => XS.iloadN X40.here hx rfl (hb hby d5_11) rfl k) ?_
  have q42 : Arv Z h40 a1 kc .char (8 : Int32) [(.int c0), (.int c1), (.int c2), (.int c3), (.int c4), (.int c5), (.int c6), (.int c7)] (.int (0 : Int32)) := (q36.other W40 hne)
  obtain ⟨cl43, Ar43, qc43, Sz43, Nn43, Hs43, Gf43⟩ := id q42
  have hin44 : ¬ ((7 : Int32) < 0 ∨ cl43.slots.size ≤ ((7 : Int32)).toNatClampNeg) := (inb_of Sz43 ⟨by decide, by decide⟩)
  have hat44 : cl43.slots[((7 : Int32)).toNatClampNeg]? = some (.int c7) := Has.at Hs43 hin44 rfl
  refine Go.step (T' := T40) (f' := (mkF m 13 #[.val (.ref a1), .val (.int (7 : Int32)), .val (.ref a3), .val (.int (7 : Int32)), .val (.int (8 : Int32)), .val (.int (7 : Int32)), .val (.int c6)] [(.int c7)])) (fun _ k => X40.caload hx (j := (7 : Int32)) (v := (.int c7)) (by rw [e40]; exact Ar43.1) (State.isArrayOf_alike hZ.alike Ar43.2.1) Ar43.2.2 hin44 hat44 (g := (mkF m 12 #[.val (.ref a1), .val (.int (7 : Int32)), .val (.ref a3), .val (.int (7 : Int32)), .val (.int (8 : Int32)), .val (.int (7 : Int32)), .val (.int c6)] [(.int (7 : Int32)), (.ref a1)])) rfl rfl (hb hby d5_12) _ k) ?_
  refine Go.step (T' := T40) (f' := (mkF m 15 #[.val (.ref a1), .val (.int (7 : Int32)), .val (.ref a3), .val (.int (7 : Int32)), .val (.int (8 : Int32)), .val (.int (7 : Int32)), .val (.int c7)] [])) (fun _ k => XS.istore X40.here hx rfl (hb hby d5_13) rfl (l' := #[.val (.ref a1), .val (.int (7 : Int32)), .val (.ref a3), .val (.int (7 : Int32)), .val (.int (8 : Int32)), .val (.int (7 : Int32)), .val (.int c7)]) rfl k) ?_
  refine Go.step (T' := T40) (f' := (mkF m 17 #[.val (.ref a1), .val (.int (7 : Int32)), .val (.ref a3), .val (.int (7 : Int32)), .val (.int (8 : Int32)), .val (.int (7 : Int32)), .val (.int c7)] [(.int c7)])) (fun _ k => XS.iload X40.here hx rfl (hb hby d5_15) rfl k) ?_
  refine Go.step (T' := T40) (f' := (mkF m 20 #[.val (.ref a1), .val (.int (7 : Int32)), .val (.ref a3), .val (.int (7 : Int32)), .val (.int (8 : Int32)), .val (.int (7 : Int32)), .val (.int c7)] [(.int (255 : Int32)), (.int c7)])) (fun _ k => XS.sipush X40.here hx rfl (hb hby d5_17) k) ?_
  refine Go.step (T' := T40) (f' := (mkF m 26 #[.val (.ref a1), .val (.int (7 : Int32)), .val (.ref a3), .val (.int (7 : Int32)), .val (.int (8 : Int32)), .val (.int (7 : Int32)), .val (.int c7)] [])) (fun _ k => XS.icmpYes X40.here hx rfl (pc0 := 20) (pc' := 26) rfl (hb hby d5_20) rfl (flt hl7).2.2.2 (by decide) (by decide) k) ?_
  refine Go.step (T' := T40) (f' := (mkF m 27 #[.val (.ref a1), .val (.int (7 : Int32)), .val (.ref a3), .val (.int (7 : Int32)), .val (.int (8 : Int32)), .val (.int (7 : Int32)), .val (.int c7)] [(.ref a3)])) (fun _ k => XS.aloadN X40.here hx rfl (hb hby d5_26) rfl rfl k) ?_
  refine Go.step (T' := T40) (f' := (mkF m 28 #[.val (.ref a1), .val (.int (7 : Int32)), .val (.ref a3), .val (.int (7 : Int32)), .val (.int (8 : Int32)), .val (.int (7 : Int32)), .val (.int c7)] [(.int (7 : Int32)), (.ref a3)])) (fun _ k => XS.iloadN X40.here hx rfl (hb hby d5_27) rfl k) ?_
  refine Go.step (T' := T40) (f' := (mkF m 30 #[.val (.ref a1), .val (.int (7 : Int32)), .val (.ref a3), .val (.int (7 : Int32)), .val (.int (8 : Int32)), .val (.int (7 : Int32)), .val (.int c7)] [(.int c7), (.int (7 : Int32)), (.ref a3)])) (fun _ k => XS.iload X40.here hx rfl (hb hby d5_28) rfl k) ?_
  refine Go.step (T' := T40) (f' := (mkF m 31 #[.val (.ref a1), .val (.int (7 : Int32)), .val (.ref a3), .val (.int (7 : Int32)), .val (.int (8 : Int32)), .val (.int (7 : Int32)), .val (.int c7)] [(.int (c7.toInt8.toInt32)), (.int (7 : Int32)), (.ref a3)])) (fun _ k => XS.i2b X40.here hx rfl (hb hby d5_30) rfl k) ?_
  obtain ⟨cl45, Ar45, qc45, Sz45, Nn45, Hs45, Gf45⟩ := id Va40
  have hin46 : ¬ ((7 : Int32) < 0 ∨ cl45.slots.size ≤ ((7 : Int32)).toNatClampNeg) := (inb_of Sz45 ⟨by decide, by decide⟩)
  obtain ⟨T46, h46, X46, e46, W46, st46⟩ := stB X40 hx hZ e40 Ar45 (j := (7 : Int32)) hin46 (g := (mkF m 31 #[.val (.ref a1), .val (.int (7 : Int32)), .val (.ref a3), .val (.int (7 : Int32)), .val (.int (8 : Int32)), .val (.int (7 : Int32)), .val (.int c7)] [(.int (c7.toInt8.toInt32)), (.int (7 : Int32)), (.ref a3)])) rfl rfl (hb hby d5_31)
  have N46 := Fr.snoc X46 N40 g_a3
  have Z47 : n0 ≤ h46.size := Nat.le_trans Z41 (Keep.of_wr W46).1
  have K47 : Keep h0 h46 [a3] := K41.wr W46 (Or.inl (List.mem_of_getElem? (i := 0) rfl))
  rw [own_nb] at W46
  have Va46 : Arv Z h46 a3 kb .byte (8 : Int32) [(.int (c0.toInt8.toInt32)), (.int (c1.toInt8.toInt32)), (.int (c2.toInt8.toInt32)), (.int (c3.toInt8.toInt32)), (.int (c4.toInt8.toInt32)), (.int (c5.toInt8.toInt32)), (.int (c6.toInt8.toInt32)), (.int (c7.toInt8.toInt32))] (.int (0 : Int32)) := Arv.set Ar45 qc45 Sz45 Nn45 Hs45 Gf45 (fits_nar_byte _) W46 7 rfl (Nat.le_of_ble_eq_true rfl)
  refine Go.step (T' := T46) (f' := (mkF m 32 #[.val (.ref a1), .val (.int (7 : Int32)), .val (.ref a3), .val (.int (7 : Int32)), .val (.int (8 : Int32)), .val (.int (7 : Int32)), .val (.int c7)] [])) st46 ?_
  refine Go.step (T' := T46) (f' := (mkF m 35 #[.val (.ref a1), .val (.int (8 : Int32)), .val (.ref a3), .val (.int (7 : Int32)), .val (.int (8 : Int32)), .val (.int (7 : Int32)), .val (.int c7)] [])) (fun _ k => XS.iinc X46.here hx rfl (hb hby d5_32) rfl (l' := #[.val (.ref a1), .val (.int (8 : Int32)), .val (.ref a3), .val (.int (7 : Int32)), .val (.int (8 : Int32)), .val (.int (7 : Int32)), .val (.int c7)]) rfl k) ?_
  refine Go.step (T' := T46) (f' := (mkF m 38 #[.val (.ref a1), .val (.int (8 : Int32)), .val (.ref a3), .val (.int (8 : Int32)), .val (.int (8 : Int32)), .val (.int (7 : Int32)), .val (.int c7)] [])) (fun _ k => XS.iinc X46.here hx rfl (hb hby d5_35) rfl (l' := #[.val (.ref a1), .val (.int (8 : Int32)), .val (.ref a3), .val (.int (8 : Int32)), .val (.int (8 : Int32)), .val (.int (7 : Int32)), .val (.int c7)]) rfl k) ?_
  refine Go.step (T' := T46) (f' := (mkF m 41 #[.val (.ref a1), .val (.int (8 : Int32)), .val (.ref a3), .val (.int (8 : Int32)), .val (.int (8 : Int32)), .val (.int (8 : Int32)), .val (.int c7)] [])) (fun _ k => XS.iinc X46.here hx rfl (hb hby d5_38) rfl (l' := #[.val (.ref a1), .val (.int (8 : Int32)), .val (.ref a3), .val (.int (8 : Int32)), .val (.int (8 : Int32)), .val (.int (8 : Int32)), .val (.int c7)]) rfl k) ?_
  refine Go.step (T' := T46) (f' := (mkF m 3 #[.val (.ref a1), .val (.int (8 : Int32)), .val (.ref a3), .val (.int (8 : Int32)), .val (.int (8 : Int32)), .val (.int (8 : Int32)), .val (.int c7)] [])) (fun _ k => XS.goto X46.here hx rfl (pc0 := 41) (pc' := 3) rfl (hb hby d5_41) (by decide) (by decide) k) ?_
  refine Go.step (T' := T46) (f' := (mkF m 5 #[.val (.ref a1), .val (.int (8 : Int32)), .val (.ref a3), .val (.int (8 : Int32)), .val (.int (8 : Int32)), .val (.int (8 : Int32)), .val (.int c7)] [(.int (8 : Int32))])) (fun _ k => XS.iload X46.here hx rfl (hb hby d5_3) rfl k) ?_
  refine Go.step (T' := T46) (f' := (mkF m 7 #[.val (.ref a1), .val (.int (8 : Int32)), .val (.ref a3), .val (.int (8 : Int32)), .val (.int (8 : Int32)), .val (.int (8 : Int32)), .val (.int c7)] [(.int (8 : Int32)), (.int (8 : Int32))])) (fun _ k => XS.iload X46.here hx rfl (hb hby d5_5) rfl k) ?_
  refine Go.step (T' := T46) (f' := (mkF m 44 #[.val (.ref a1), .val (.int (8 : Int32)), .val (.ref a3), .val (.int (8 : Int32)), .val (.int (8 : Int32)), .val (.int (8 : Int32)), .val (.int c7)] [])) (fun _ k => XS.icmpYes X46.here hx rfl (pc0 := 7) (pc' := 44) rfl (hb hby d5_7) rfl (flt (by decide : ¬ ((8 : Int32) < (8 : Int32)))).2.1 (by decide) (by decide) k) ?_
  refine Go.step (T' := T46) (f' := (mkF m 46 #[.val (.ref a1), .val (.int (8 : Int32)), .val (.ref a3), .val (.int (8 : Int32)), .val (.int (8 : Int32)), .val (.int (8 : Int32)), .val (.int c7)] [(.int (8 : Int32))])) (fun _ k => XS.iload X46.here hx rfl (hb hby d5_44) rfl k) ?_
  refine goI X46 hx Bd.returns Bd.notSynchronized (hb hby d5_46) ?_ (by decide) (by decide)
  show Q_rmCpA8 Z a1 a3 kc c0 c1 c2 c3 c4 c5 c6 c7 kb h0 n0 _ T46.heap _
  rw [e46]
  exact ⟨rfl, N46, K47, Va46⟩
theorem d4_0 : decode jdk_52_method_16_code 0 = .ok (.iload_n 2, 1) := by decide +kernel
theorem d4_1 : decode jdk_52_method_16_code 1 = .ok (.newarray .byte, 2) := by decide +kernel
theorem d4_3 : decode jdk_52_method_16_code 3 = .ok (.astore_n 3, 1) := by decide +kernel
theorem d4_4 : decode jdk_52_method_16_code 4 = .ok (.aload_n 0, 1) := by decide +kernel
theorem d4_5 : decode jdk_52_method_16_code 5 = .ok (.iload_n 1, 1) := by decide +kernel
theorem d4_6 : decode jdk_52_method_16_code 6 = .ok (.aload_n 3, 1) := by decide +kernel
theorem d4_7 : decode jdk_52_method_16_code 7 = .ok (.iconst 0, 1) := by decide +kernel
theorem d4_8 : decode jdk_52_method_16_code 8 = .ok (.iload_n 2, 1) := by decide +kernel
theorem d4_9 : decode jdk_52_method_16_code 9 = .ok (.invokestatic 115, 3) := by decide +kernel
theorem pd_0 : parseMethodDescriptor "([CI[BII)I" = some ⟨[(.array .char), .int, (.array .byte), .int, .int], some .int⟩ := by decide +kernel
theorem d4_12 : decode jdk_52_method_16_code 12 = .ok (.istore 4, 2) := by decide +kernel
theorem d4_14 : decode jdk_52_method_16_code 14 = .ok (.iload 4, 2) := by decide +kernel
theorem d4_16 : decode jdk_52_method_16_code 16 = .ok (.iload_n 2, 1) := by decide +kernel
theorem d4_17 : decode jdk_52_method_16_code 17 = .ok (.if_icmp .eq 40, 3) := by decide +kernel
theorem d4_57 : decode jdk_52_method_16_code 57 = .ok (.aload_n 3, 1) := by decide +kernel
theorem d4_58 : decode jdk_52_method_16_code 58 = .ok (.areturn, 1) := by decide +kernel
theorem ef_rmCpB8 (m : MethodId) (a1 : Addr) : entryFrame m #[(.ref a1), (.int (0 : Int32)), (.int (8 : Int32))] 6 = mkF m 0 #[.val (.ref a1), .val (.int (0 : Int32)), .val (.int (8 : Int32)), .unset, .unset, .unset] [] := by first | (simp [entryFrame, mkF, argsToLocals, Value.category]; done) | rfl
def Q_rmCpB8 (Z : State) (a1 : Addr) (kc : ClassId) (c0 : Int32) (c1 : Int32) (c2 : Int32) (c3 : Int32) (c4 : Int32) (c5 : Int32) (c6 : Int32) (c7 : Int32) (h0 : Heap) (n0 : Nat) (rv : Option Value) (hq : Heap) (Lq : List Loc) : Prop := ∃ b : Addr, ∃ kb : ClassId, rv = some (.ref b) ∧ Fr n0 Lq ∧ Keep h0 hq [] ∧ h0.size ≤ b ∧ Arv Z hq b kb .byte (8 : Int32) [(.int (c0.toInt8.toInt32)), (.int (c1.toInt8.toInt32)), (.int (c2.toInt8.toInt32)), (.int (c3.toInt8.toInt32)), (.int (c4.toInt8.toInt32)), (.int (c5.toInt8.toInt32)), (.int (c6.toInt8.toInt32)), (.int (c7.toInt8.toInt32))] (.int (0 : Int32))
set_option maxRecDepth 65536 in
set_option maxHeartbeats 40000000 in
theorem rmCpB8 (l : Launch) (Z : State) (a0 : Array Value) (hw : ∀ d ∈ tables_1, d.before a0 Z = true) (ws : List Jvm.Cond) (a1 : Addr) (kc : ClassId) (c0 : Int32) (c1 : Int32) (c2 : Int32) (c3 : Int32) (c4 : Int32) (c5 : Int32) (c6 : Int32) (c7 : Int32) (h0 : Heap) (n0 : Nat) (Z0 : n0 ≤ h0.size) (V_a1 : Arv Z h0 a1 kc .char (8 : Int32) [(.int c0), (.int c1), (.int c2), (.int c3), (.int c4), (.int c5), (.int c6), (.int c7)] (.int (0 : Int32))) (hl0 : ¬ (255 : Int32) < c0) (hl1 : ¬ (255 : Int32) < c1) (hl2 : ¬ (255 : Int32) < c2) (hl3 : ¬ (255 : Int32) < c3) (hl4 : ¬ (255 : Int32) < c4) (hl5 : ¬ (255 : Int32) < c5) (hl6 : ¬ (255 : Int32) < c6) (hl7 : ¬ (255 : Int32) < c7) :
    MetFree l (⟨"java/lang/StringUTF16", "compress", "([CII)[B"⟩ : MethodName) (head1 (Jvm.Cond.code (⟨"java/lang/StringUTF16", "compress", "([CII)[B"⟩ : MethodName) jdk_52_method_16_code 6 (some (.array .byte)) :: ws) ({ frames := 1, cells := 1, slots := 8, locals := 18 } : Room)) (fun a U => a = #[(.ref a1), (.int (0 : Int32)), (.int (8 : Int32))] ∧ Z.Warmed39 U.vm ∧ U.heap = h0) (fun _ _ _ _ _ => True) (fun _ U o U' => ∃ rv Lq, o = .returned rv ∧ Q_rmCpB8 Z a1 kc c0 c1 c2 c3 c4 c5 c6 c7 h0 n0 rv U'.heap Lq ∧ FrameEnd U o U' Lq ({ frames := 1, cells := 1, slots := 8, locals := 18 } : Room).cells ({ frames := 1, cells := 1, slots := 8, locals := 18 } : Room).slots) := by
  refine MetFree.of_bodySF (plainFor_of_name pn_5) hisR ?_
  intro p e s m args below meth c s₁ Bd hml0 hP hK
  obtain ⟨rfl, hZ, hh⟩ := hP
  have hx := Bd.exec
  have hby := Bd.bytes
  have hml : c.maxLocals = 6 := hml0
  have hown : s.vm.findClass "java/lang/StringUTF16" = some m.cls := findClass_of_methodNamed Bd.named
  have hnm := (name_of_methodNamed Bd.named Bd.method).1
  have X0 : Stand p l e ({ frames := 1, cells := 1, slots := 8, locals := 18 } : Room) s m #[(.ref a1), (.int (0 : Int32)), (.int (8 : Int32))] below meth c s₁ [] 0 0 := Stand.of_body Bd
  have e0 : s₁.heap = h0 := by rw [← hh, Bd.state]; rfl
  have N0 := Fr.nil n0
  refine of_go (ef_rmCpB8 m a1) ?_
  refine Go.step (T' := s₁) (f' := (mkF m 1 #[.val (.ref a1), .val (.int (0 : Int32)), .val (.int (8 : Int32)), .unset, .unset, .unset] [(.int (8 : Int32))])) (fun _ k => XS.iloadN X0.here hx rfl (hb hby d4_0) rfl k) ?_
  obtain ⟨T1, h1, k1, X1, e1, E1, A1, st1⟩ := newP X0 hx hZ (hw _ (List.mem_of_getElem? (i := 23) rfl)) e0 (g := (mkF m 1 #[.val (.ref a1), .val (.int (0 : Int32)), .val (.int (8 : Int32)), .unset, .unset, .unset] [(.int (8 : Int32))])) rfl (hb hby d4_1) rfl (by decide) (cap := 8) (by decide) (by decide) (by decide) (by decide)
  obtain ⟨b1, g1⟩ : ∃ z, z = h0.size := ⟨_, rfl⟩
  rw [← g1] at A1 st1
  have g_b1 : n0 ≤ b1 := Nat.le_trans Z0 (Nat.le_of_eq g1.symm)
  have sz_b1 : h0.size ≤ b1 := Nat.le_trans (Keep.refl h0 []).1 (Nat.le_of_eq g1.symm)
  have Z2 : n0 ≤ h1.size := Nat.le_trans Z0 E1.1
  have K2 : Keep h0 h1 [] := (Keep.refl h0 []).ext E1
  have V_b1 : Arv Z h1 b1 k1 .byte (8 : Int32) [(.int (0 : Int32)), (.int (0 : Int32)), (.int (0 : Int32)), (.int (0 : Int32)), (.int (0 : Int32)), (.int (0 : Int32)), (.int (0 : Int32)), (.int (0 : Int32))] (.int (0 : Int32)) := (Arv.new A1 (by decide)).pad (pad_rep [] (.int (0 : Int32)) 8)
  refine Go.step (T' := T1) (f' := (mkF m 3 #[.val (.ref a1), .val (.int (0 : Int32)), .val (.int (8 : Int32)), .unset, .unset, .unset] [(.ref b1)])) st1 ?_
  refine Go.step (T' := T1) (f' := (mkF m 4 #[.val (.ref a1), .val (.int (0 : Int32)), .val (.int (8 : Int32)), .val (.ref b1), .unset, .unset] [])) (fun _ k => XS.astoreN X1.here hx rfl (hb hby d4_3) rfl rfl (l' := #[.val (.ref a1), .val (.int (0 : Int32)), .val (.int (8 : Int32)), .val (.ref b1), .unset, .unset]) rfl k) ?_
  refine Go.step (T' := T1) (f' := (mkF m 5 #[.val (.ref a1), .val (.int (0 : Int32)), .val (.int (8 : Int32)), .val (.ref b1), .unset, .unset] [(.ref a1)])) (fun _ k => XS.aloadN X1.here hx rfl (hb hby d4_4) rfl rfl k) ?_
  refine Go.step (T' := T1) (f' := (mkF m 6 #[.val (.ref a1), .val (.int (0 : Int32)), .val (.int (8 : Int32)), .val (.ref b1), .unset, .unset] [(.int (0 : Int32)), (.ref a1)])) (fun _ k => XS.iloadN X1.here hx rfl (hb hby d4_5) rfl k) ?_
  refine Go.step (T' := T1) (f' := (mkF m 7 #[.val (.ref a1), .val (.int (0 : Int32)), .val (.int (8 : Int32)), .val (.ref b1), .unset, .unset] [(.ref b1), (.int (0 : Int32)), (.ref a1)])) (fun _ k => XS.aloadN X1.here hx rfl (hb hby d4_6) rfl rfl k) ?_
  refine Go.step (T' := T1) (f' := (mkF m 8 #[.val (.ref a1), .val (.int (0 : Int32)), .val (.int (8 : Int32)), .val (.ref b1), .unset, .unset] [(.int (0 : Int32)), (.ref b1), (.int (0 : Int32)), (.ref a1)])) (fun _ k => XS.iconst X1.here hx rfl (hb hby d4_7) k) ?_
  refine Go.step (T' := T1) (f' := (mkF m 9 #[.val (.ref a1), .val (.int (0 : Int32)), .val (.int (8 : Int32)), .val (.ref b1), .unset, .unset] [(.int (8 : Int32)), (.int (0 : Int32)), (.ref b1), (.int (0 : Int32)), (.ref a1)])) (fun _ k => XS.iloadN X1.here hx rfl (hb hby d4_8) rfl k) ?_
  have q4 : Arv Z h1 a1 kc .char (8 : Int32) [(.int c0), (.int c1), (.int c2), (.int c3), (.int c4), (.int c5), (.int c6), (.int c7)] (.int (0 : Int32)) := (V_a1.ext E1)
  obtain ⟨_, _, ⟨T3, L3, kk3, nn3⟩, -, X3, ⟨Lc3, hQ3, lq3, yq3, zq3⟩, st3⟩ := Jvm.LawKit.callS X1 hx (y := (⟨"java/lang/StringUTF16", "compress", "([CI[BII)I"⟩ : MethodName)) hown (mvT hZ (hw _ (List.mem_of_getElem? (i := 24) rfl))) (mvT hZ (hw _ (List.mem_of_getElem? (i := 25) rfl))) (mvT hZ (hw _ (List.mem_of_getElem? (i := 21) rfl))) (mvT hZ (hw _ (List.mem_of_getElem? (i := 26) rfl))) (by decide) (backOf (W := 0) (rmCpA8 l Z a0 hw [] a1 b1 kc c0 c1 c2 c3 c4 c5 c6 c7 k1 h1 n0 Z2 q4 V_b1 (Nat.ne_of_lt (Nat.lt_of_lt_of_le V_a1.lt (Nat.le_of_eq g1.symm))) hl0 hl1 hl2 hl3 hl4 hl5 hl6 hl7 g_b1) hZ (hw _ (List.mem_of_getElem? (i := 26) rfl)) (hw _ (List.mem_of_getElem? (i := 21) rfl)) (by decide) (by decide)) (g := (mkF m 9 #[.val (.ref a1), .val (.int (0 : Int32)), .val (.int (8 : Int32)), .val (.ref b1), .unset, .unset] [(.int (8 : Int32)), (.int (0 : Int32)), (.ref b1), (.int (0 : Int32)), (.ref a1)])) rfl (by rw [hml]; rfl) (argsL := [(.ref a1), (.int (0 : Int32)), (.ref b1), (.int (0 : Int32)), (.int (8 : Int32))]) (rest := []) (lenOf pd_0 rfl) rfl (by show 2 * 0 + _ ≤ _; exact Nat.le_of_eq rfl) (hb hby d4_9) (fun _ _ => ⟨rfl, e1, (by decide : 1 + 0 ≤ _), (by decide : 8 + 0 ≤ _)⟩)
  dsimp only [Pt.U, Pt.locs, Pt.cells, Pt.slots] at X3 lq3 yq3 zq3 st3 hQ3
  subst yq3 zq3
  obtain ⟨rfl, Nq3, Kq3, r3_0⟩ := hQ3
  have N3 : Fr n0 L3 := by rw [lq3]; exact Fr.app N0 Nq3
  have Z5 : n0 ≤ T3.heap.size := Nat.le_trans Z2 Kq3.1
  have K5 : Keep h0 T3.heap [] := K2.trans Kq3 (allS (Or.inr sz_b1) all0)
  refine Go.step (T' := T3) (f' := (mkF m 12 #[.val (.ref a1), .val (.int (0 : Int32)), .val (.int (8 : Int32)), .val (.ref b1), .unset, .unset] [(.int (8 : Int32))])) st3 ?_
  refine Go.step (T' := T3) (f' := (mkF m 14 #[.val (.ref a1), .val (.int (0 : Int32)), .val (.int (8 : Int32)), .val (.ref b1), .val (.int (8 : Int32)), .unset] [])) (fun _ k => XS.istore X3.here hx rfl (hb hby d4_12) rfl (l' := #[.val (.ref a1), .val (.int (0 : Int32)), .val (.int (8 : Int32)), .val (.ref b1), .val (.int (8 : Int32)), .unset]) rfl k) ?_
  refine Go.step (T' := T3) (f' := (mkF m 16 #[.val (.ref a1), .val (.int (0 : Int32)), .val (.int (8 : Int32)), .val (.ref b1), .val (.int (8 : Int32)), .unset] [(.int (8 : Int32))])) (fun _ k => XS.iload X3.here hx rfl (hb hby d4_14) rfl k) ?_
  refine Go.step (T' := T3) (f' := (mkF m 17 #[.val (.ref a1), .val (.int (0 : Int32)), .val (.int (8 : Int32)), .val (.ref b1), .val (.int (8 : Int32)), .unset] [(.int (8 : Int32)), (.int (8 : Int32))])) (fun _ k => XS.iloadN X3.here hx rfl (hb hby d4_16) rfl k) ?_
  refine Go.step (T' := T3) (f' := (mkF m 57 #[.val (.ref a1), .val (.int (0 : Int32)), .val (.int (8 : Int32)), .val (.ref b1), .val (.int (8 : Int32)), .unset] [])) (fun _ k => XS.icmpYes X3.here hx rfl (pc0 := 17) (pc' := 57) rfl (hb hby d4_17) rfl (teq (by decide : (8 : Int32) = (8 : Int32))).1 (by decide) (by decide) k) ?_
  refine Go.step (T' := T3) (f' := (mkF m 58 #[.val (.ref a1), .val (.int (0 : Int32)), .val (.int (8 : Int32)), .val (.ref b1), .val (.int (8 : Int32)), .unset] [(.ref b1)])) (fun _ k => XS.aloadN X3.here hx rfl (hb hby d4_57) rfl rfl k) ?_
  refine goA X3 hx Bd.returns rfl rfl Bd.notSynchronized (hb hby d4_58) ?_ (by decide) (by decide)
  show Q_rmCpB8 Z a1 kc c0 c1 c2 c3 c4 c5 c6 c7 h0 n0 _ T3.heap _
  exact ⟨b1, k1, rfl, N3, K5, sz_b1, r3_0⟩
theorem d6_0 : decode jdk_52_method_15_code 0 = .ok (.iload_n 1, 1) := by decide +kernel
theorem d6_1 : decode jdk_52_method_15_code 1 = .ok (.aload_n 0, 1) := by decide +kernel
theorem d6_2 : decode jdk_52_method_15_code 2 = .ok (.arraylength, 1) := by decide +kernel
theorem d6_3 : decode jdk_52_method_15_code 3 = .ok (.isub, 1) := by decide +kernel
theorem d6_4 : decode jdk_52_method_15_code 4 = .ok (.bipush 31, 2) := by decide +kernel
theorem d6_6 : decode jdk_52_method_15_code 6 = .ok (.iushr, 1) := by decide +kernel
theorem d6_7 : decode jdk_52_method_15_code 7 = .ok (.i2b, 1) := by decide +kernel
theorem d6_8 : decode jdk_52_method_15_code 8 = .ok (.ireturn, 1) := by decide +kernel
theorem ef_rmCfl8 (m : MethodId) (a1 : Addr) : entryFrame m #[(.ref a1), (.int (8 : Int32))] 2 = mkF m 0 #[.val (.ref a1), .val (.int (8 : Int32))] [] := by first | (simp [entryFrame, mkF, argsToLocals, Value.category]; done) | rfl
def Q_rmCfl8 (Z : State) (a1 : Addr) (kb : ClassId) (vs : List Value) (h0 : Heap) (n0 : Nat) (rv : Option Value) (hq : Heap) (Lq : List Loc) : Prop := rv = some (.int (0 : Int32)) ∧ Fr n0 Lq ∧ hq = h0
set_option maxRecDepth 65536 in
set_option maxHeartbeats 40000000 in
theorem rmCfl8 (l : Launch) (Z : State) (a0 : Array Value) (hw : ∀ d ∈ tables_1, d.before a0 Z = true) (ws : List Jvm.Cond) (a1 : Addr) (kb : ClassId) (vs : List Value) (h0 : Heap) (n0 : Nat) (Z0 : n0 ≤ h0.size) (V_a1 : Arv Z h0 a1 kb .byte (8 : Int32) vs (.int (0 : Int32))) :
    MetFree l (⟨"java/lang/StringUTF16", "coderFromArrayLen", "([BI)B"⟩ : MethodName) (head1 (Jvm.Cond.code (⟨"java/lang/StringUTF16", "coderFromArrayLen", "([BI)B"⟩ : MethodName) jdk_52_method_15_code 2 (some .byte) :: ws) ({ frames := 0, cells := 0, slots := 0, locals := 0 } : Room)) (fun a U => a = #[(.ref a1), (.int (8 : Int32))] ∧ Z.Warmed39 U.vm ∧ U.heap = h0) (fun _ _ _ _ _ => True) (fun _ U o U' => ∃ rv Lq, o = .returned rv ∧ Q_rmCfl8 Z a1 kb vs h0 n0 rv U'.heap Lq ∧ FrameEnd U o U' Lq ({ frames := 0, cells := 0, slots := 0, locals := 0 } : Room).cells ({ frames := 0, cells := 0, slots := 0, locals := 0 } : Room).slots) := by
  refine MetFree.of_bodySF (plainFor_of_name pn_5) hisR ?_
  intro p e s m args below meth c s₁ Bd hml0 hP hK
  obtain ⟨rfl, hZ, hh⟩ := hP
  have hx := Bd.exec
  have hby := Bd.bytes
  have hml : c.maxLocals = 2 := hml0
  have hown : s.vm.findClass "java/lang/StringUTF16" = some m.cls := findClass_of_methodNamed Bd.named
  have hnm := (name_of_methodNamed Bd.named Bd.method).1
  have X0 : Stand p l e ({ frames := 0, cells := 0, slots := 0, locals := 0 } : Room) s m #[(.ref a1), (.int (8 : Int32))] below meth c s₁ [] 0 0 := Stand.of_body Bd
  have e0 : s₁.heap = h0 := by rw [← hh, Bd.state]; rfl
  have N0 := Fr.nil n0
  refine of_go (ef_rmCfl8 m a1) ?_
  refine Go.step (T' := s₁) (f' := (mkF m 1 #[.val (.ref a1), .val (.int (8 : Int32))] [(.int (8 : Int32))])) (fun _ k => XS.iloadN X0.here hx rfl (hb hby d6_0) rfl k) ?_
  refine Go.step (T' := s₁) (f' := (mkF m 2 #[.val (.ref a1), .val (.int (8 : Int32))] [(.ref a1), (.int (8 : Int32))])) (fun _ k => XS.aloadN X0.here hx rfl (hb hby d6_1) rfl rfl k) ?_
  obtain ⟨cl1, Ar1, qc1, Sz1, Nn1, Hs1, Gf1⟩ := id V_a1
  have hlen1 := X0.arraylength hx (by rw [e0]; exact Ar1.1) (State.isArrayOf_alike hZ.alike Ar1.2.1) (g := (mkF m 2 #[.val (.ref a1), .val (.int (8 : Int32))] [(.ref a1), (.int (8 : Int32))])) rfl rfl (hb hby d6_2)
  rw [len_of Sz1 Nn1] at hlen1
  refine Go.step (T' := s₁) (f' := (mkF m 3 #[.val (.ref a1), .val (.int (8 : Int32))] [(.int (8 : Int32)), (.int (8 : Int32))])) (fun _ k => hlen1 _ k) ?_
  refine Go.step (T' := s₁) (f' := (mkF m 4 #[.val (.ref a1), .val (.int (8 : Int32))] [(.int (0 : Int32))])) (fun _ k => XS.isub X0.here hx rfl (hb hby d6_3) rfl k) ?_
  refine Go.step (T' := s₁) (f' := (mkF m 6 #[.val (.ref a1), .val (.int (8 : Int32))] [(.int (31 : Int32)), (.int (0 : Int32))])) (fun _ k => XS.bipush X0.here hx rfl (hb hby d6_4) k) ?_
  refine Go.step (T' := s₁) (f' := (mkF m 7 #[.val (.ref a1), .val (.int (8 : Int32))] [(.int (0 : Int32))])) (fun _ k => XS.iushr X0.here hx rfl (hb hby d6_6) rfl k) ?_
  refine Go.step (T' := s₁) (f' := (mkF m 8 #[.val (.ref a1), .val (.int (8 : Int32))] [(.int (0 : Int32))])) (fun _ k => XS.i2b X0.here hx rfl (hb hby d6_7) rfl k) ?_
  refine goN X0 hx (t := .byte) Bd.returns (by simp) Bd.notSynchronized (hb hby d6_8) ?_ (by decide) (by decide)
  show Q_rmCfl8 Z a1 kb vs h0 n0 _ s₁.heap _
  rw [e0]
  exact ⟨rfl, N0, rfl⟩
theorem d2_0 : decode jdk_42_method_149_code 0 = .ok (.aload_n 0, 1) := by decide +kernel
theorem d2_1 : decode jdk_42_method_149_code 1 = .ok (.invokespecial 1, 3) := by decide +kernel
theorem d2_4 : decode jdk_42_method_149_code 4 = .ok (.iload_n 3, 1) := by decide +kernel
theorem d2_5 : decode jdk_42_method_149_code 5 = .ok (.ifCond .ne 22, 3) := by decide +kernel
theorem d2_27 : decode jdk_42_method_149_code 27 = .ok (.getstatic 38, 3) := by decide +kernel
theorem d2_30 : decode jdk_42_method_149_code 30 = .ok (.ifCond .eq 28, 3) := by decide +kernel
theorem d2_33 : decode jdk_42_method_149_code 33 = .ok (.aload_n 1, 1) := by decide +kernel
theorem d2_34 : decode jdk_42_method_149_code 34 = .ok (.iload_n 2, 1) := by decide +kernel
theorem d2_35 : decode jdk_42_method_149_code 35 = .ok (.iload_n 3, 1) := by decide +kernel
theorem d2_36 : decode jdk_42_method_149_code 36 = .ok (.invokestatic 177, 3) := by decide +kernel
theorem pd_1 : parseMethodDescriptor "([CII)[B" = some ⟨[(.array .char), .int, .int], some (.array .byte)⟩ := by decide +kernel
theorem d2_39 : decode jdk_42_method_149_code 39 = .ok (.astore 5, 2) := by decide +kernel
theorem d2_41 : decode jdk_42_method_149_code 41 = .ok (.aload_n 0, 1) := by decide +kernel
theorem d2_42 : decode jdk_42_method_149_code 42 = .ok (.aload 5, 2) := by decide +kernel
theorem d2_44 : decode jdk_42_method_149_code 44 = .ok (.iload_n 3, 1) := by decide +kernel
theorem d2_45 : decode jdk_42_method_149_code 45 = .ok (.invokestatic 47, 3) := by decide +kernel
theorem pd_2 : parseMethodDescriptor "([BI)B" = some ⟨[(.array .byte), .int], some .byte⟩ := by decide +kernel
theorem d2_48 : decode jdk_42_method_149_code 48 = .ok (.putfield 15, 3) := by decide +kernel
theorem d2_51 : decode jdk_42_method_149_code 51 = .ok (.aload_n 0, 1) := by decide +kernel
theorem d2_52 : decode jdk_42_method_149_code 52 = .ok (.aload 5, 2) := by decide +kernel
theorem d2_54 : decode jdk_42_method_149_code 54 = .ok (.putfield 9, 3) := by decide +kernel
theorem d2_57 : decode jdk_42_method_149_code 57 = .ok (.return_, 1) := by decide +kernel
theorem pn_2 : plainName "java/lang/String" = true := by first | (simp [plainName, overriddenIn]; done) | decide +kernel
theorem ef_rmSi4_8 (m : MethodId) (a1 : Addr) (a2 : Addr) : entryFrame m #[(.ref a1), (.ref a2), (.int (0 : Int32)), (.int (8 : Int32)), .null] 6 = mkF m 0 #[.val (.ref a1), .val (.ref a2), .val (.int (0 : Int32)), .val (.int (8 : Int32)), .val .null, .unset] [] := by first | (simp [entryFrame, mkF, argsToLocals, Value.category]; done) | rfl
def Q_rmSi4_8 (Z : State) (a1 : Addr) (a2 : Addr) (cs : Int32) (kc : ClassId) (c0 : Int32) (c1 : Int32) (c2 : Int32) (c3 : Int32) (c4 : Int32) (c5 : Int32) (c6 : Int32) (c7 : Int32) (h0 : Heap) (n0 : Nat) (rv : Option Value) (hq : Heap) (Lq : List Loc) : Prop := ∃ b : Addr, ∃ kb : ClassId, rv = none ∧ Fr n0 Lq ∧ Keep h0 hq [a1] ∧ h0.size ≤ b ∧ Fld Z hq a1 "java/lang/String" "value" "[B" (.ref b) ∧ Fld Z hq a1 "java/lang/String" "coder" "B" (.int (0 : Int32)) ∧ Arv Z hq b kb .byte (8 : Int32) [(.int (c0.toInt8.toInt32)), (.int (c1.toInt8.toInt32)), (.int (c2.toInt8.toInt32)), (.int (c3.toInt8.toInt32)), (.int (c4.toInt8.toInt32)), (.int (c5.toInt8.toInt32)), (.int (c6.toInt8.toInt32)), (.int (c7.toInt8.toInt32))] (.int (0 : Int32))
set_option maxRecDepth 65536 in
set_option maxHeartbeats 40000000 in
theorem rmSi4_8 (l : Launch) (Z : State) (a0 : Array Value) (hw : ∀ d ∈ tables_1, d.before a0 Z = true) (ws : List Jvm.Cond) (a1 : Addr) (a2 : Addr) (cs : Int32) (kc : ClassId) (c0 : Int32) (c1 : Int32) (c2 : Int32) (c3 : Int32) (c4 : Int32) (c5 : Int32) (c6 : Int32) (c7 : Int32) (h0 : Heap) (n0 : Nat) (Z0 : n0 ≤ h0.size) (E_a1 : Exa Z h0 a1 "java/lang/String") (F_value_a1 : Fld Z h0 a1 "java/lang/String" "value" "[B" .null) (F_coder_a1 : Fld Z h0 a1 "java/lang/String" "coder" "B" (.int (0 : Int32))) (V_a2 : Arv Z h0 a2 kc .char (8 : Int32) [(.int c0), (.int c1), (.int c2), (.int c3), (.int c4), (.int c5), (.int c6), (.int c7)] (.int (0 : Int32))) (O0 : Old Z n0 h0) (S_COMPACT_STRINGS : Sta Z Z.heap "java/lang/String" "COMPACT_STRINGS" "Z" (.int cs)) (hcs : ¬ cs = (0 : Int32)) (hl0 : ¬ (255 : Int32) < c0) (hl1 : ¬ (255 : Int32) < c1) (hl2 : ¬ (255 : Int32) < c2) (hl3 : ¬ (255 : Int32) < c3) (hl4 : ¬ (255 : Int32) < c4) (hl5 : ¬ (255 : Int32) < c5) (hl6 : ¬ (255 : Int32) < c6) (hl7 : ¬ (255 : Int32) < c7) (g_a1 : n0 ≤ a1) :
    MetFree l (⟨"java/lang/String", "<init>", "([CIILjava/lang/Void;)V"⟩ : MethodName) (head1 (Jvm.Cond.code (⟨"java/lang/String", "<init>", "([CIILjava/lang/Void;)V"⟩ : MethodName) jdk_42_method_149_code 6 none :: ws) ({ frames := 2, cells := 1, slots := 8, locals := 35 } : Room)) (fun a U => a = #[(.ref a1), (.ref a2), (.int (0 : Int32)), (.int (8 : Int32)), .null] ∧ Z.Warmed39 U.vm ∧ U.heap = h0) (fun _ _ _ _ _ => True) (fun _ U o U' => ∃ rv Lq, o = .returned rv ∧ Q_rmSi4_8 Z a1 a2 cs kc c0 c1 c2 c3 c4 c5 c6 c7 h0 n0 rv U'.heap Lq ∧ FrameEnd U o U' Lq ({ frames := 2, cells := 1, slots := 8, locals := 35 } : Room).cells ({ frames := 2, cells := 1, slots := 8, locals := 35 } : Room).slots) := by
  refine MetFree.of_bodySF (plainFor_of_name pn_2) hisR ?_
  intro p e s m args below meth c s₁ Bd hml0 hP hK
  obtain ⟨rfl, hZ, hh⟩ := hP
  have hx := Bd.exec
  have hby := Bd.bytes
  have hml : c.maxLocals = 6 := hml0
  have hown : s.vm.findClass "java/lang/String" = some m.cls := findClass_of_methodNamed Bd.named
  have hnm := (name_of_methodNamed Bd.named Bd.method).1
  have X0 : Stand p l e ({ frames := 2, cells := 1, slots := 8, locals := 35 } : Room) s m #[(.ref a1), (.ref a2), (.int (0 : Int32)), (.int (8 : Int32)), .null] below meth c s₁ [] 0 0 := Stand.of_body Bd
  have e0 : s₁.heap = h0 := by rw [← hh, Bd.state]; rfl
  have N0 := Fr.nil n0
  refine of_go (ef_rmSi4_8 m a1 a2) ?_
  refine Go.step (T' := s₁) (f' := (mkF m 1 #[.val (.ref a1), .val (.ref a2), .val (.int (0 : Int32)), .val (.int (8 : Int32)), .val .null, .unset] [(.ref a1)])) (fun _ k => XS.aloadN X0.here hx rfl (hb hby d2_0) rfl rfl k) ?_
  obtain ⟨T1, X1, e1, st1⟩ := initO X0 hx hZ hown (hw _ (List.mem_of_getElem? (i := 15) rfl)) (hw _ (List.mem_of_getElem? (i := 16) rfl)) (hw _ (List.mem_of_getElem? (i := 17) rfl)) e0 (g := (mkF m 1 #[.val (.ref a1), .val (.ref a2), .val (.int (0 : Int32)), .val (.int (8 : Int32)), .val .null, .unset] [(.ref a1)])) rfl (by rw [hml]; rfl) rfl (hb hby d2_1) (by decide) (W := 0) (by show 2 * 0 + _ ≤ _; exact Nat.le_of_eq rfl) (by decide)
  refine Go.step (T' := T1) (f' := (mkF m 4 #[.val (.ref a1), .val (.ref a2), .val (.int (0 : Int32)), .val (.int (8 : Int32)), .val .null, .unset] [])) st1 ?_
  refine Go.step (T' := T1) (f' := (mkF m 5 #[.val (.ref a1), .val (.ref a2), .val (.int (0 : Int32)), .val (.int (8 : Int32)), .val .null, .unset] [(.int (8 : Int32))])) (fun _ k => XS.iloadN X1.here hx rfl (hb hby d2_4) rfl k) ?_
  refine Go.step (T' := T1) (f' := (mkF m 27 #[.val (.ref a1), .val (.ref a2), .val (.int (0 : Int32)), .val (.int (8 : Int32)), .val .null, .unset] [])) (fun _ k => XS.ifYes X1.here hx rfl (pc0 := 5) (pc' := 27) rfl (hb hby d2_5) rfl ((if0 _ _).trans (feq (by decide : ¬ ((8 : Int32) = (0 : Int32)))).2) (by decide) (by decide) k) ?_
  obtain ⟨T2, X2, e2, st2⟩ := getS2 X1 hx hZ hown (host := "") (Or.inl (hw _ (List.mem_of_getElem? (i := 18) rfl))) Via.refl e1 (S_COMPACT_STRINGS.ext O0.2) (g := (mkF m 27 #[.val (.ref a1), .val (.ref a2), .val (.int (0 : Int32)), .val (.int (8 : Int32)), .val .null, .unset] [])) rfl (hb hby d2_27)
  refine Go.step (T' := T2) (f' := (mkF m 30 #[.val (.ref a1), .val (.ref a2), .val (.int (0 : Int32)), .val (.int (8 : Int32)), .val .null, .unset] [(.int cs)])) st2 ?_
  refine Go.step (T' := T2) (f' := (mkF m 33 #[.val (.ref a1), .val (.ref a2), .val (.int (0 : Int32)), .val (.int (8 : Int32)), .val .null, .unset] [])) (fun _ k => XS.ifNo X2.here hx rfl (hb hby d2_30) rfl ((if0 _ _).trans (feq hcs).1) k) ?_
  refine Go.step (T' := T2) (f' := (mkF m 34 #[.val (.ref a1), .val (.ref a2), .val (.int (0 : Int32)), .val (.int (8 : Int32)), .val .null, .unset] [(.ref a2)])) (fun _ k => XS.aloadN X2.here hx rfl (hb hby d2_33) rfl rfl k) ?_
  refine Go.step (T' := T2) (f' := (mkF m 35 #[.val (.ref a1), .val (.ref a2), .val (.int (0 : Int32)), .val (.int (8 : Int32)), .val .null, .unset] [(.int (0 : Int32)), (.ref a2)])) (fun _ k => XS.iloadN X2.here hx rfl (hb hby d2_34) rfl k) ?_
  refine Go.step (T' := T2) (f' := (mkF m 36 #[.val (.ref a1), .val (.ref a2), .val (.int (0 : Int32)), .val (.int (8 : Int32)), .val .null, .unset] [(.int (8 : Int32)), (.int (0 : Int32)), (.ref a2)])) (fun _ k => XS.iloadN X2.here hx rfl (hb hby d2_35) rfl k) ?_
  obtain ⟨_, _, ⟨T3, L3, kk3, nn3⟩, -, X3, ⟨Lc3, hQ3, lq3, yq3, zq3⟩, st3⟩ := Jvm.LawKit.callS X2 hx (y := (⟨"java/lang/StringUTF16", "compress", "([CII)[B"⟩ : MethodName)) hown (mvT hZ (hw _ (List.mem_of_getElem? (i := 19) rfl))) (mvT hZ (hw _ (List.mem_of_getElem? (i := 20) rfl))) (mvT hZ (hw _ (List.mem_of_getElem? (i := 21) rfl))) (mvT hZ (hw _ (List.mem_of_getElem? (i := 22) rfl))) (by decide) (backOf (W := 0) (rmCpB8 l Z a0 hw [] a2 kc c0 c1 c2 c3 c4 c5 c6 c7 h0 n0 Z0 V_a2 hl0 hl1 hl2 hl3 hl4 hl5 hl6 hl7) hZ (hw _ (List.mem_of_getElem? (i := 22) rfl)) (hw _ (List.mem_of_getElem? (i := 21) rfl)) (by decide) (by decide)) (g := (mkF m 36 #[.val (.ref a1), .val (.ref a2), .val (.int (0 : Int32)), .val (.int (8 : Int32)), .val .null, .unset] [(.int (8 : Int32)), (.int (0 : Int32)), (.ref a2)])) rfl (by rw [hml]; rfl) (argsL := [(.ref a2), (.int (0 : Int32)), (.int (8 : Int32))]) (rest := []) (lenOf pd_1 rfl) rfl (by show 2 * 0 + _ ≤ _; exact Nat.le_of_eq rfl) (hb hby d2_36) (fun _ _ => ⟨rfl, e2, (by decide : 0 + 1 ≤ _), (by decide : 0 + 8 ≤ _)⟩)
  dsimp only [Pt.U, Pt.locs, Pt.cells, Pt.slots] at X3 lq3 yq3 zq3 st3 hQ3
  subst yq3 zq3
  obtain ⟨b_3, kb_3, rfl, Nq3, Kq3, r3_0, r3_1⟩ := hQ3
  have N3 : Fr n0 L3 := by rw [lq3]; exact Fr.app N0 Nq3
  have g_b_3 : n0 ≤ b_3 := Nat.le_trans Z0 r3_0
  have sz_b_3 : h0.size ≤ b_3 := Nat.le_trans (Keep.refl h0 [a1]).1 r3_0
  have Z4 : n0 ≤ T3.heap.size := Nat.le_trans Z0 Kq3.1
  have O4 : Old Z n0 T3.heap := O0.keep Kq3 all0
  have K4 : Keep h0 T3.heap [a1] := (Keep.refl h0 [a1]).trans Kq3 all0
  refine Go.step (T' := T3) (f' := (mkF m 39 #[.val (.ref a1), .val (.ref a2), .val (.int (0 : Int32)), .val (.int (8 : Int32)), .val .null, .unset] [(.ref b_3)])) st3 ?_
  refine Go.step (T' := T3) (f' := (mkF m 41 #[.val (.ref a1), .val (.ref a2), .val (.int (0 : Int32)), .val (.int (8 : Int32)), .val .null, .val (.ref b_3)] [])) (fun _ k => XS.astore X3.here hx rfl (hb hby d2_39) rfl rfl (l' := #[.val (.ref a1), .val (.ref a2), .val (.int (0 : Int32)), .val (.int (8 : Int32)), .val .null, .val (.ref b_3)]) rfl k) ?_
  refine Go.step (T' := T3) (f' := (mkF m 42 #[.val (.ref a1), .val (.ref a2), .val (.int (0 : Int32)), .val (.int (8 : Int32)), .val .null, .val (.ref b_3)] [(.ref a1)])) (fun _ k => XS.aloadN X3.here hx rfl (hb hby d2_41) rfl rfl k) ?_
  refine Go.step (T' := T3) (f' := (mkF m 44 #[.val (.ref a1), .val (.ref a2), .val (.int (0 : Int32)), .val (.int (8 : Int32)), .val .null, .val (.ref b_3)] [(.ref b_3), (.ref a1)])) (fun _ k => XS.aload X3.here hx rfl (hb hby d2_42) rfl rfl k) ?_
  refine Go.step (T' := T3) (f' := (mkF m 45 #[.val (.ref a1), .val (.ref a2), .val (.int (0 : Int32)), .val (.int (8 : Int32)), .val .null, .val (.ref b_3)] [(.int (8 : Int32)), (.ref b_3), (.ref a1)])) (fun _ k => XS.iloadN X3.here hx rfl (hb hby d2_44) rfl k) ?_
  obtain ⟨_, _, ⟨T5, L5, kk5, nn5⟩, -, X5, ⟨Lc5, hQ5, lq5, yq5, zq5⟩, st5⟩ := Jvm.LawKit.callS X3 hx (y := (⟨"java/lang/StringUTF16", "coderFromArrayLen", "([BI)B"⟩ : MethodName)) hown (mvT hZ (hw _ (List.mem_of_getElem? (i := 27) rfl))) (mvT hZ (hw _ (List.mem_of_getElem? (i := 28) rfl))) (mvT hZ (hw _ (List.mem_of_getElem? (i := 21) rfl))) (mvT hZ (hw _ (List.mem_of_getElem? (i := 29) rfl))) (by decide) (backOf (W := 1) (rmCfl8 l Z a0 hw [] b_3 kb_3 [(.int (c0.toInt8.toInt32)), (.int (c1.toInt8.toInt32)), (.int (c2.toInt8.toInt32)), (.int (c3.toInt8.toInt32)), (.int (c4.toInt8.toInt32)), (.int (c5.toInt8.toInt32)), (.int (c6.toInt8.toInt32)), (.int (c7.toInt8.toInt32))] T3.heap n0 Z4 r3_1) hZ (hw _ (List.mem_of_getElem? (i := 29) rfl)) (hw _ (List.mem_of_getElem? (i := 21) rfl)) (by decide) (by decide)) (g := (mkF m 45 #[.val (.ref a1), .val (.ref a2), .val (.int (0 : Int32)), .val (.int (8 : Int32)), .val .null, .val (.ref b_3)] [(.int (8 : Int32)), (.ref b_3), (.ref a1)])) rfl (by rw [hml]; rfl) (argsL := [(.ref b_3), (.int (8 : Int32))]) (rest := [(.ref a1)]) (lenOf pd_2 rfl) rfl (by show 2 * 0 + _ ≤ _; exact Nat.le_of_eq rfl) (hb hby d2_45) (fun _ _ => ⟨rfl, rfl, (by decide : 1 + 0 ≤ _), (by decide : 8 + 0 ≤ _)⟩)
  dsimp only [Pt.U, Pt.locs, Pt.cells, Pt.slots] at X5 lq5 yq5 zq5 st5 hQ5
  subst yq5 zq5
  obtain ⟨rfl, Nq5, eh5⟩ := hQ5
  have N5 : Fr n0 L5 := by rw [lq5]; exact Fr.app N3 Nq5
  refine Go.step (T' := T5) (f' := (mkF m 48 #[.val (.ref a1), .val (.ref a2), .val (.int (0 : Int32)), .val (.int (8 : Int32)), .val .null, .val (.ref b_3)] [(.int (0 : Int32)), (.ref a1)])) st5 ?_
  have q6 : Fld Z T3.heap a1 "java/lang/String" "coder" "B" (.int (0 : Int32)) := (F_coder_a1.keep Kq3 nin0)
  have q7 : Exa Z T3.heap a1 "java/lang/String" := (E_a1.keep Kq3)
  obtain ⟨T8, h8, X8, e8, W8, st8⟩ := putFN X5 hx hZ hown (hw _ (List.mem_of_getElem? (i := 30) rfl)) Via.refl eh5 q6 q7 (Or.inr ⟨(hw _ (List.mem_of_getElem? (i := 31) rfl)), rfl, hnm⟩) (hw _ (List.mem_of_getElem? (i := 6) rfl)) (ty := .byte) (v := .int (0 : Int32)) (v' := .int (0 : Int32)) (by decide) rfl (by decide) (g := (mkF m 48 #[.val (.ref a1), .val (.ref a2), .val (.int (0 : Int32)), .val (.int (8 : Int32)), .val .null, .val (.ref b_3)] [(.int (0 : Int32)), (.ref a1)])) rfl rfl (hb hby d2_48)
  have N8 := Fr.snoc X8 N5 g_a1
  have Z9 : n0 ≤ h8.size := Nat.le_trans Z4 (Keep.of_wr W8).1
  have O9 : Old Z n0 h8 := O4.wr W8 g_a1
  have K9 : Keep h0 h8 [a1] := K4.wr W8 (Or.inl (List.mem_of_getElem? (i := 0) rfl))
  have Fw8 := q6.same W8
  refine Go.step (T' := T8) (f' := (mkF m 51 #[.val (.ref a1), .val (.ref a2), .val (.int (0 : Int32)), .val (.int (8 : Int32)), .val .null, .val (.ref b_3)] [])) st8 ?_
  refine Go.step (T' := T8) (f' := (mkF m 52 #[.val (.ref a1), .val (.ref a2), .val (.int (0 : Int32)), .val (.int (8 : Int32)), .val .null, .val (.ref b_3)] [(.ref a1)])) (fun _ k => XS.aloadN X8.here hx rfl (hb hby d2_51) rfl rfl k) ?_
  refine Go.step (T' := T8) (f' := (mkF m 54 #[.val (.ref a1), .val (.ref a2), .val (.int (0 : Int32)), .val (.int (8 : Int32)), .val .null, .val (.ref b_3)] [(.ref b_3), (.ref a1)])) (fun _ k => XS.aload X8.here hx rfl (hb hby d2_52) rfl rfl k) ?_
  have q10 : Fld Z h8 a1 "java/lang/String" "value" "[B" .null := ((F_value_a1.keep Kq3 nin0).other W8 (Or.inr (slot_ne (Or.inr (hw _ (List.mem_of_getElem? (i := 33) rfl))) (Or.inr (hw _ (List.mem_of_getElem? (i := 31) rfl))) (by decide) (t := (.array .byte)) (t' := .byte) (by decide) (by decide))))
  have q11 : Exa Z h8 a1 "java/lang/String" := (q7.wr W8)
  obtain ⟨T12, h12, X12, e12, W12, st12⟩ := putF X8 hx hZ hown (host := "") (Or.inl (hw _ (List.mem_of_getElem? (i := 32) rfl))) Via.refl e8 q10 q11 (Or.inr ⟨(hw _ (List.mem_of_getElem? (i := 33) rfl)), rfl, hnm⟩) (hw _ (List.mem_of_getElem? (i := 6) rfl)) (ty := (.array .byte)) (by decide) rfl rfl (g := (mkF m 54 #[.val (.ref a1), .val (.ref a2), .val (.int (0 : Int32)), .val (.int (8 : Int32)), .val .null, .val (.ref b_3)] [(.ref b_3), (.ref a1)])) rfl rfl (hb hby d2_54)
  have N12 := Fr.snoc X12 N8 g_a1
  have Z13 : n0 ≤ h12.size := Nat.le_trans Z9 (Keep.of_wr W12).1
  have O13 : Old Z n0 h12 := O9.wr W12 g_a1
  have K13 : Keep h0 h12 [a1] := K9.wr W12 (Or.inl (List.mem_of_getElem? (i := 0) rfl))
  have Fw12 := q10.same W12
  refine Go.step (T' := T12) (f' := (mkF m 57 #[.val (.ref a1), .val (.ref a2), .val (.int (0 : Int32)), .val (.int (8 : Int32)), .val .null, .val (.ref b_3)] [])) st12 ?_
  refine goV X12 hx Bd.returns Bd.notSynchronized (hb hby d2_57) ?_ (by decide) (by decide)
  show Q_rmSi4_8 Z a1 a2 cs kc c0 c1 c2 c3 c4 c5 c6 c7 h0 n0 _ T12.heap _
  rw [e12]
  have q14 : Fld Z h12 a1 "java/lang/String" "coder" "B" (.int (0 : Int32)) := (Fw8.other W12 (Or.inr (slot_ne (Or.inr (hw _ (List.mem_of_getElem? (i := 31) rfl))) (Or.inr (hw _ (List.mem_of_getElem? (i := 33) rfl))) (by decide) (t := .byte) (t' := (.array .byte)) (by decide) (by decide))))
  have q15 : Arv Z h12 b_3 kb_3 .byte (8 : Int32) [(.int (c0.toInt8.toInt32)), (.int (c1.toInt8.toInt32)), (.int (c2.toInt8.toInt32)), (.int (c3.toInt8.toInt32)), (.int (c4.toInt8.toInt32)), (.int (c5.toInt8.toInt32)), (.int (c6.toInt8.toInt32)), (.int (c7.toInt8.toInt32))] (.int (0 : Int32)) := ((r3_1.other W8 (Ne.symm (Nat.ne_of_lt (Nat.lt_of_lt_of_le E_a1.lt r3_0)))).other W12 (Ne.symm (Nat.ne_of_lt (Nat.lt_of_lt_of_le E_a1.lt r3_0))))
  exact ⟨b_3, kb_3, rfl, N12, K13, sz_b_3, Fw12, q14, q15⟩
theorem d1_0 : decode jdk_42_method_3_code 0 = .ok (.aload_n 0, 1) := by decide +kernel
theorem d1_1 : decode jdk_42_method_3_code 1 = .ok (.aload_n 1, 1) := by decide +kernel
theorem d1_2 : decode jdk_42_method_3_code 2 = .ok (.iconst 0, 1) := by decide +kernel
theorem d1_3 : decode jdk_42_method_3_code 3 = .ok (.aload_n 1, 1) := by decide +kernel
theorem d1_4 : decode jdk_42_method_3_code 4 = .ok (.arraylength, 1) := by decide +kernel
theorem d1_5 : decode jdk_42_method_3_code 5 = .ok (.aconst_null, 1) := by decide +kernel
theorem d1_6 : decode jdk_42_method_3_code 6 = .ok (.invokespecial 27, 3) := by decide +kernel
theorem pd_3 : parseMethodDescriptor "([CIILjava/lang/Void;)V" = some ⟨[(.array .char), .int, .int, (.object "java/lang/Void")], none⟩ := by decide +kernel
theorem d1_9 : decode jdk_42_method_3_code 9 = .ok (.return_, 1) := by decide +kernel
theorem ef_rmSi_8 (m : MethodId) (a1 : Addr) (a2 : Addr) : entryFrame m #[(.ref a1), (.ref a2)] 2 = mkF m 0 #[.val (.ref a1), .val (.ref a2)] [] := by first | (simp [entryFrame, mkF, argsToLocals, Value.category]; done) | rfl
def Q_rmSi_8 (Z : State) (a1 : Addr) (a2 : Addr) (cs : Int32) (kc : ClassId) (c0 : Int32) (c1 : Int32) (c2 : Int32) (c3 : Int32) (c4 : Int32) (c5 : Int32) (c6 : Int32) (c7 : Int32) (h0 : Heap) (n0 : Nat) (rv : Option Value) (hq : Heap) (Lq : List Loc) : Prop := ∃ b : Addr, ∃ kb : ClassId, rv = none ∧ Fr n0 Lq ∧ Keep h0 hq [a1] ∧ h0.size ≤ b ∧ Fld Z hq a1 "java/lang/String" "value" "[B" (.ref b) ∧ Fld Z hq a1 "java/lang/String" "coder" "B" (.int (0 : Int32)) ∧ Arv Z hq b kb .byte (8 : Int32) [(.int (c0.toInt8.toInt32)), (.int (c1.toInt8.toInt32)), (.int (c2.toInt8.toInt32)), (.int (c3.toInt8.toInt32)), (.int (c4.toInt8.toInt32)), (.int (c5.toInt8.toInt32)), (.int (c6.toInt8.toInt32)), (.int (c7.toInt8.toInt32))] (.int (0 : Int32))
set_option maxRecDepth 65536 in
set_option maxHeartbeats 40000000 in
theorem rmSi_8 (l : Launch) (Z : State) (a0 : Array Value) (hw : ∀ d ∈ tables_1, d.before a0 Z = true) (ws : List Jvm.Cond) (a1 : Addr) (a2 : Addr) (cs : Int32) (kc : ClassId) (c0 : Int32) (c1 : Int32) (c2 : Int32) (c3 : Int32) (c4 : Int32) (c5 : Int32) (c6 : Int32) (c7 : Int32) (h0 : Heap) (n0 : Nat) (Z0 : n0 ≤ h0.size) (E_a1 : Exa Z h0 a1 "java/lang/String") (F_value_a1 : Fld Z h0 a1 "java/lang/String" "value" "[B" .null) (F_coder_a1 : Fld Z h0 a1 "java/lang/String" "coder" "B" (.int (0 : Int32))) (V_a2 : Arv Z h0 a2 kc .char (8 : Int32) [(.int c0), (.int c1), (.int c2), (.int c3), (.int c4), (.int c5), (.int c6), (.int c7)] (.int (0 : Int32))) (O0 : Old Z n0 h0) (S_COMPACT_STRINGS : Sta Z Z.heap "java/lang/String" "COMPACT_STRINGS" "Z" (.int cs)) (hcs : ¬ cs = (0 : Int32)) (hl0 : ¬ (255 : Int32) < c0) (hl1 : ¬ (255 : Int32) < c1) (hl2 : ¬ (255 : Int32) < c2) (hl3 : ¬ (255 : Int32) < c3) (hl4 : ¬ (255 : Int32) < c4) (hl5 : ¬ (255 : Int32) < c5) (hl6 : ¬ (255 : Int32) < c6) (hl7 : ¬ (255 : Int32) < c7) (g_a1 : n0 ≤ a1) :
    MetFree l (⟨"java/lang/String", "<init>", "([C)V"⟩ : MethodName) (head1 (Jvm.Cond.code (⟨"java/lang/String", "<init>", "([C)V"⟩ : MethodName) jdk_42_method_3_code 2 none :: ws) ({ frames := 3, cells := 1, slots := 8, locals := 52 } : Room)) (fun a U => a = #[(.ref a1), (.ref a2)] ∧ Z.Warmed39 U.vm ∧ U.heap = h0) (fun _ _ _ _ _ => True) (fun _ U o U' => ∃ rv Lq, o = .returned rv ∧ Q_rmSi_8 Z a1 a2 cs kc c0 c1 c2 c3 c4 c5 c6 c7 h0 n0 rv U'.heap Lq ∧ FrameEnd U o U' Lq ({ frames := 3, cells := 1, slots := 8, locals := 52 } : Room).cells ({ frames := 3, cells := 1, slots := 8, locals := 52 } : Room).slots) := by
  refine MetFree.of_bodySF (plainFor_of_name pn_2) hisR ?_
  intro p e s m args below meth c s₁ Bd hml0 hP hK
  obtain ⟨rfl, hZ, hh⟩ := hP
  have hx := Bd.exec
  have hby := Bd.bytes
  have hml : c.maxLocals = 2 := hml0
  have hown : s.vm.findClass "java/lang/String" = some m.cls := findClass_of_methodNamed Bd.named
  have hnm := (name_of_methodNamed Bd.named Bd.method).1
  have X0 : Stand p l e ({ frames := 3, cells := 1, slots := 8, locals := 52 } : Room) s m #[(.ref a1), (.ref a2)] below meth c s₁ [] 0 0 := Stand.of_body Bd
  have e0 : s₁.heap = h0 := by rw [← hh, Bd.state]; rfl
  have N0 := Fr.nil n0
  refine of_go (ef_rmSi_8 m a1 a2) ?_
  refine Go.step (T' := s₁) (f' := (mkF m 1 #[.val (.ref a1), .val (.ref a2)] [(.ref a1)])) (fun _ k => XS.aloadN X0.here hx rfl (hb hby d1_0) rfl rfl k) ?_
  refine Go.step (T' := s₁) (f' := (mkF m 2 #[.val (.ref a1), .val (.ref a2)] [(.ref a2), (.ref a1)])) (fun _ k => XS.aloadN X0.here hx rfl (hb hby d1_1) rfl rfl k) ?_
  refine Go.step (T' := s₁) (f' := (mkF m 3 #[.val (.ref a1), .val (.ref a2)] [(.int (0 : Int32)), (.ref a2), (.ref a1)])) (fun _ k => XS.iconst X0.here hx rfl (hb hby d1_2) k) ?_
  refine Go.step (T' := s₁) (f' := (mkF m 4 #[.val (.ref a1), .val (.ref a2)] [(.ref a2), (.int (0 : Int32)), (.ref a2), (.ref a1)])) (fun _ k => XS.aloadN X0.here hx rfl (hb hby d1_3) rfl rfl k) ?_
  obtain ⟨cl1, Ar1, qc1, Sz1, Nn1, Hs1, Gf1⟩ := id V_a2
  have hlen1 := X0.arraylength hx (by rw [e0]; exact Ar1.1) (State.isArrayOf_alike hZ.alike Ar1.2.1) (g := (mkF m 4 #[.val (.ref a1), .val (.ref a2)] [(.ref a2), (.int (0 : Int32)), (.ref a2), (.ref a1)])) rfl rfl (hb hby d1_4)
  rw [len_of Sz1 Nn1] at hlen1
  refine Go.step (T' := s₁) (f' := (mkF m 5 #[.val (.ref a1), .val (.ref a2)] [(.int (8 : Int32)), (.int (0 : Int32)), (.ref a2), (.ref a1)])) (fun _ k => hlen1 _ k) ?_
  refine Go.step (T' := s₁) (f' := (mkF m 6 #[.val (.ref a1), .val (.ref a2)] [.null, (.int (8 : Int32)), (.int (0 : Int32)), (.ref a2), (.ref a1)])) (fun _ k => XS.aconstNull X0.here hx rfl (hb hby d1_5) k) ?_
  obtain ⟨_, _, ⟨T2, L2, kk2, nn2⟩, -, X2, ⟨Lc2, hQ2, lq2, yq2, zq2⟩, st2⟩ := X0.specialBack hx (y := (⟨"java/lang/String", "<init>", "([CIILjava/lang/Void;)V"⟩ : MethodName)) rfl hown (mvT hZ (hw _ (List.mem_of_getElem? (i := 11) rfl))) (mvT hZ (hw _ (List.mem_of_getElem? (i := 12) rfl))) (mvT hZ (hw _ (List.mem_of_getElem? (i := 14) rfl))) (by decide) (backOf (W := 0) (rmSi4_8 l Z a0 hw [] a1 a2 cs kc c0 c1 c2 c3 c4 c5 c6 c7 h0 n0 Z0 E_a1 F_value_a1 F_coder_a1 V_a2 O0 S_COMPACT_STRINGS hcs hl0 hl1 hl2 hl3 hl4 hl5 hl6 hl7 g_a1) hZ (hw _ (List.mem_of_getElem? (i := 14) rfl)) (hw _ (List.mem_of_getElem? (i := 7) rfl)) (by decide) (by decide)) (g := (mkF m 6 #[.val (.ref a1), .val (.ref a2)] [.null, (.int (8 : Int32)), (.int (0 : Int32)), (.ref a2), (.ref a1)])) rfl (by rw [hml]; rfl) (Steps.refl _) (a := a1) (argsL := [(.ref a2), (.int (0 : Int32)), (.int (8 : Int32)), .null]) (rest := []) (lenOf pd_3 rfl) rfl (by show 2 * 0 + _ ≤ _; exact Nat.le_of_eq rfl) (hb hby d1_6) (fun _ _ => ⟨rfl, e0, (by decide : 0 + 1 ≤ _), (by decide : 0 + 8 ≤ _)⟩)
  dsimp only [Pt.U, Pt.locs, Pt.cells, Pt.slots] at X2 lq2 yq2 zq2 st2 hQ2
  subst yq2 zq2
  obtain ⟨b_2, kb_2, rfl, Nq2, Kq2, r2_0, r2_1, r2_2, r2_3⟩ := hQ2
  have N2 : Fr n0 L2 := by rw [lq2]; exact Fr.app N0 Nq2
  have g_b_2 : n0 ≤ b_2 := Nat.le_trans Z0 r2_0
  have sz_b_2 : h0.size ≤ b_2 := Nat.le_trans (Keep.refl h0 [a1]).1 r2_0
  have Z3 : n0 ≤ T2.heap.size := Nat.le_trans Z0 Kq2.1
  have O3 : Old Z n0 T2.heap := O0.keep Kq2 (allS g_a1 all0)
  have K3 : Keep h0 T2.heap [a1] := (Keep.refl h0 [a1]).trans Kq2 (allS (Or.inl (List.mem_of_getElem? (i := 0) rfl)) all0)
  refine Go.step (T' := T2) (f' := (mkF m 9 #[.val (.ref a1), .val (.ref a2)] [])) (fun _ k => st2.trans k) ?_
  refine goV X2 hx Bd.returns Bd.notSynchronized (hb hby d1_9) ?_ (by decide) (by decide)
  show Q_rmSi_8 Z a1 a2 cs kc c0 c1 c2 c3 c4 c5 c6 c7 h0 n0 _ T2.heap _
  exact ⟨b_2, kb_2, rfl, N2, K3, sz_b_2, r2_1, r2_2, r2_3⟩
theorem ef_rmCpA9 (m : MethodId) (a1 : Addr) (a3 : Addr) : entryFrame m #[(.ref a1), (.int (0 : Int32)), (.ref a3), (.int (0 : Int32)), (.int (9 : Int32))] 7 = mkF m 0 #[.val (.ref a1), .val (.int (0 : Int32)), .val (.ref a3), .val (.int (0 : Int32)), .val (.int (9 : Int32)), .unset, .unset] [] := by first | (simp [entryFrame, mkF, argsToLocals, Value.category]; done) | rfl
def Q_rmCpA9 (Z : State) (a1 : Addr) (a3 : Addr) (kc : ClassId) (c0 : Int32) (c1 : Int32) (c2 : Int32) (c3 : Int32) (c4 : Int32) (c5 : Int32) (c6 : Int32) (c7 : Int32) (c8 : Int32) (kb : ClassId) (h0 : Heap) (n0 : Nat) (rv : Option Value) (hq : Heap) (Lq : List Loc) : Prop := rv = some (.int (9 : Int32)) ∧ Fr n0 Lq ∧ Keep h0 hq [a3] ∧ Arv Z hq a3 kb .byte (9 : Int32) [(.int (c0.toInt8.toInt32)), (.int (c1.toInt8.toInt32)), (.int (c2.toInt8.toInt32)), (.int (c3.toInt8.toInt32)), (.int (c4.toInt8.toInt32)), (.int (c5.toInt8.toInt32)), (.int (c6.toInt8.toInt32)), (.int (c7.toInt8.toInt32)), (.int (c8.toInt8.toInt32))] (.int (0 : Int32))
set_option maxRecDepth 65536 in
set_option maxHeartbeats 40000000 in
theorem rmCpA9 (l : Launch) (Z : State) (a0 : Array Value) (hw : ∀ d ∈ tables_1, d.before a0 Z = true) (ws : List Jvm.Cond) (a1 : Addr) (a3 : Addr) (kc : ClassId) (c0 : Int32) (c1 : Int32) (c2 : Int32) (c3 : Int32) (c4 : Int32) (c5 : Int32) (c6 : Int32) (c7 : Int32) (c8 : Int32) (kb : ClassId) (h0 : Heap) (n0 : Nat) (Z0 : n0 ≤ h0.size) (V_a1 : Arv Z h0 a1 kc .char (9 : Int32) [(.int c0), (.int c1), (.int c2), (.int c3), (.int c4), (.int c5), (.int c6), (.int c7), (.int c8)] (.int (0 : Int32))) (V_a3 : Arv Z h0 a3 kb .byte (9 : Int32) [(.int (0 : Int32)), (.int (0 : Int32)), (.int (0 : Int32)), (.int (0 : Int32)), (.int (0 : Int32)), (.int (0 : Int32)), (.int (0 : Int32)), (.int (0 : Int32)), (.int (0 : Int32))] (.int (0 : Int32))) (hne : a1 ≠ a3) (hl0 : ¬ (255 : Int32) < c0) (hl1 : ¬ (255 : Int32) < c1) (hl2 : ¬ (255 : Int32) < c2) (hl3 : ¬ (255 : Int32) < c3) (hl4 : ¬ (255 : Int32) < c4) (hl5 : ¬ (255 : Int32) < c5) (hl6 : ¬ (255 : Int32) < c6) (hl7 : ¬ (255 : Int32) < c7) (hl8 : ¬ (255 : Int32) < c8) (g_a3 : n0 ≤ a3) :
    MetFree l (⟨"java/lang/StringUTF16", "compress", "([CI[BII)I"⟩ : MethodName) (head1 (Jvm.Cond.code (⟨"java/lang/StringUTF16", "compress", "([CI[BII)I"⟩ : MethodName) jdk_52_method_21_code 7 (some .int) :: ws) ({ frames := 0, cells := 0, slots := 0, locals := 0 } : Room)) (fun a U => a = #[(.ref a1), (.int (0 : Int32)), (.ref a3), (.int (0 : Int32)), (.int (9 : Int32))] ∧ Z.Warmed39 U.vm ∧ U.heap = h0) (fun _ _ _ _ _ => True) (fun _ U o U' => ∃ rv Lq, o = .returned rv ∧ Q_rmCpA9 Z a1 a3 kc c0 c1 c2 c3 c4 c5 c6 c7 c8 kb h0 n0 rv U'.heap Lq ∧ FrameEnd U o U' Lq ({ frames := 0, cells := 0, slots := 0, locals := 0 } : Room).cells ({ frames := 0, cells := 0, slots := 0, locals := 0 } : Room).slots) := by
  refine MetFree.of_bodySF (plainFor_of_name pn_5) hisR ?_
  intro p e s m args below meth c s₁ Bd hml0 hP hK
  obtain ⟨rfl, hZ, hh⟩ := hP
  have hx := Bd.exec
  have hby := Bd.bytes
  have hml : c.maxLocals = 7 := hml0
  have hown : s.vm.findClass "java/lang/StringUTF16" = some m.cls := findClass_of_methodNamed Bd.named
  have hnm := (name_of_methodNamed Bd.named Bd.method).1
  have X0 : Stand p l e ({ frames := 0, cells := 0, slots := 0, locals := 0 } : Room) s m #[(.ref a1), (.int (0 : Int32)), (.ref a3), (.int (0 : Int32)), (.int (9 : Int32))] below meth c s₁ [] 0 0 := Stand.of_body Bd
  have e0 : s₁.heap = h0 := by rw [← hh, Bd.state]; rfl
  have N0 := Fr.nil n0
  refine of_go (ef_rmCpA9 m a1 a3) ?_
  refine Go.step (T' := s₁) (f' := (mkF m 1 #[.val (.ref a1), .val (.int (0 : Int32)), .val (.ref a3), .val (.int (0 : Int32)), .val (.int (9 : Int32)), .unset, .unset] [(.int (0 : Int32))])) (fun _ k => XS.iconst X0.here hx rfl (hb hby d5_0) k) ?_
  refine Go.step (T' := s₁) (f' := (mkF m 3 #[.val (.ref a1), .val (.int (0 : Int32)), .val (.ref a3), .val (.int (0 : Int32)), .val (.int (9 : Int32)), .val (.int (0 : Int32)), .unset] [])) (fun _ k => XS.istore X0.here hx rfl (hb hby d5_1) rfl (l' := #[.val (.ref a1), .val (.int (0 : Int32)), .val (.ref a3), .val (.int (0 : Int32)), .val (.int (9 : Int32)), .val (.int (0 : Int32)), .unset]) rfl k) ?_
  refine Go.step (T' := s₁) (f' := (mkF m 5 #[.val (.ref a1), .val (.int (0 : Int32)), .val (.ref a3), .val (.int (0 : Int32)), .val (.int (9 : Int32)), .val (.int (0 : Int32)), .unset] [(.int (0 : Int32))])) (fun _ k => XS.iload X0.here hx rfl (hb hby d5_3) rfl k) ?_
  refine Go.step (T' := s₁) (f' := (mkF m 7 #[.val (.ref a1), .val (.int (0 : Int32)), .val (.ref a3), .val (.int (0 : Int32)), .val (.int (9 : Int32)), .val (.int (0 : Int32)), .unset] [(.int (9 : Int32)), (.int (0 : Int32))])) (fun _ k => XS.iload X0.here hx rfl (hb hby d5_5) rfl k) ?_
  refine Go.step (T' := s₁) (f' := (mkF m 10 #[.val (.ref a1), .val (.int (0 : Int32)), .val (.ref a3), .val (.int (0 : Int32)), .val (.int (9 : Int32)), .val (.int (0 : Int32)), .unset] [])) (fun _ k => XS.icmpNo X0.here hx rfl (hb hby d5_7) rfl (tlt (by decide : (0 : Int32) < (9 : Int32))).2.1 k) ?_
  refine Go.step (T' := s₁) (f' := (mkF m 11 #[.val (.ref a1), .val (.int (0 : Int32)), .val (.ref a3), .val (.int (0 : Int32)), .val (.int (9 : Int32)), .val (.int (0 : Int32)), .unset] [(.ref a1)])) (fun _ k => XS.aloadN X0.here hx rfl (hb hby d5_10) rfl rfl k) ?_
  refine Go.step (T' := s₁) (f' := (mkF m 12 #[.val (.ref a1), .val (.int (0 : Int32)), .val (.ref a3), .val (.int (0 : Int32)), .val (.int (9 : Int32)), .val (.int (0 : Int32)), .unset] [(.int (0 : Int32)), (.ref a1)])) (fun _ k => XS.iloadN X0.here hx rfl (hb hby d5_11) rfl k) ?_
  obtain ⟨cl1, Ar1, qc1, Sz1, Nn1, Hs1, Gf1⟩ := id V_a1
  have hin2 : ¬ ((0 : Int32) < 0 ∨ cl1.slots.size ≤ ((0 : Int32)).toNatClampNeg) := (inb_of Sz1 ⟨by decide, by decide⟩)
  have hat2 : cl1.slots[((0 : Int32)).toNatClampNeg]? = some (.int c0) := Has.at Hs1 hin2 rfl
  refine Go.step (T' := s₁) (f' := (mkF m 13 #[.val (.ref a1), .val (.int (0 : Int32)), .val (.ref a3), .val (.int (0 : Int32)), .val (.int (9 : Int32)), .val (.int (0 : Int32)), .unset] [(.int c0)])) (fun _ k => X0.caload hx (j := (0 : Int32)) (v := (.int c0)) (by rw [e0]; exact Ar1.1) (State.isArrayOf_alike hZ.alike Ar1.2.1) Ar1.2.2 hin2 hat2 (g := (mkF m 12 #[.val (.ref a1), .val (.int (0 : Int32)), .val (.ref a3), .val (.int (0 : Int32)), .val (.int (9 : Int32)), .val (.int (0 : Int32)), .unset] [(.int (0 : Int32)), (.ref a1)])) rfl rfl (hb hby d5_12) _ k) ?_
  refine Go.step (T' := s₁) (f' := (mkF m 15 #[.val (.ref a1), .val (.int (0 : Int32)), .val (.ref a3), .val (.int (0 : Int32)), .val (.int (9 : Int32)), .val (.int (0 : Int32)), .val (.int c0)] [])) (fun _ k => XS.istore X0.here hx rfl (hb hby d5_13) rfl (l' := #[.val (.ref a1), .val (.int (0 : Int32)), .val (.ref a3), .val (.int (0 : Int32)), .val (.int (9 : Int32)), .val (.int (0 : Int32)), .val (.int c0)]) rfl k) ?_
  refine Go.step (T' := s₁) (f' := (mkF m 17 #[.val (.ref a1), .val (.int (0 : Int32)), .val (.ref a3), .val (.int (0 : Int32)), .val (.int (9 : Int32)), .val (.int (0 : Int32)), .val (.int c0)] [(.int c0)])) (fun _ k => XS.iload X0.here hx rfl (hb hby d5_15) rfl k) ?_
  refine Go.step (T' := s₁) (f' := (mkF m 20 #[.val (.ref a1), .val (.int (0 : Int32)), .val (.ref a3), .val (.int (0 : Int32)), .val (.int (9 : Int32)), .val (.int (0 : Int32)), .val (.int c0)] [(.int (255 : Int32)), (.int c0)])) (fun _ k => XS.sipush X0.here hx rfl (hb hby d5_17) k) ?_
  refine Go.step (T' := s₁) (f' := (mkF m 26 #[.val (.ref a1), .val (.int (0 : Int32)), .val (.ref a3), .val (.int (0 : Int32)), .val (.int (9 : Int32)), .val (.int (0 : Int32)), .val (.int c0)] [])) (fun _ k => XS.icmpYes X0.here hx rfl (pc0 := 20) (pc' := 26) rfl (hb hby d5_20) rfl (flt hl0).2.2.2 (by decide) (by decide) k) ?_
  refine Go.step (T' := s₁) (f' := (mkF m 27 #[.val (.ref a1), .val (.int (0 : Int32)), .val (.ref a3), .val (.int (0 : Int32)), .val (.int (9 : Int32)), .val (.int (0 : Int32)), .val (.int c0)] [(.ref a3)])) (fun _ k => XS.aloadN X0.here hx rfl (hb hby d5_26) rfl rfl k) ?_
  refine Go.step (T' := s₁) (f' := (mkF m 28 #[.val (.ref a1), .val (.int (0 : Int32)), .val (.ref a3), .val (.int (0 : Int32)), .val (.int (9 : Int32)), .val (.int (0 : Int32)), .val (.int c0)] [(.int (0 : Int32)), (.ref a3)])) (fun _ k => XS.iloadN X0.here hx rfl (hb hby d5_27) rfl k) ?_
  refine Go.step (T' := s₁) (f' := (mkF m 30 #[.val (.ref a1), .val (.int (0 : Int32)), .val (.ref a3), .val (.int (0 : Int32)), .val (.int (9 : Int32)), .val (.int (0 : Int32)), .val (.int c0)] [(.int c0), (.int (0 : Int32)), (.ref a3)])) (fun _ k => XS.iload X0.here hx rfl (hb hby d5_28) rfl k) ?_
  refine Go.step (T' := s₁) (f' := (mkF m 31 #[.val (.ref a1), .val (.int (0 : Int32)), .val (.ref a3), .val (.int (0 : Int32)), .val (.int (9 : Int32)), .val (.int (0 : Int32)), .val (.int c0)] [(.int (c0.toInt8.toInt32)), (.int (0 : Int32)), (.ref a3)])) (fun _ k => XS.i2b X0.here hx rfl (hb hby d5_30) rfl k) ?_
  obtain ⟨cl3, Ar3, qc3, Sz3, Nn3, Hs3, Gf3⟩ := id V_a3
  have hin4 : ¬ ((0 : Int32) < 0 ∨ cl3.slots.size ≤ ((0 : Int32)).toNatClampNeg) := (inb_of Sz3 ⟨by decide, by decide⟩)
  obtain ⟨T4, h4, X4, e4, W4, st4⟩ := stB X0 hx hZ e0 Ar3 (j := (0 : Int32)) hin4 (g := (mkF m 31 #[.val (.ref a1), .val (.int (0 : Int32)), .val (.ref a3), .val (.int (0 : Int32)), .val (.int (9 : Int32)), .val (.int (0 : Int32)), .val (.int c0)] [(.int (c0.toInt8.toInt32)), (.int (0 : Int32)), (.ref a3)])) rfl rfl (hb hby d5_31)
  have N4 := Fr.snoc X4 N0 g_a3
  have Z5 : n0 ≤ h4.size := Nat.le_trans Z0 (Keep.of_wr W4).1
  have K5 : Keep h0 h4 [a3] := (Keep.refl h0 [a3]).wr W4 (Or.inl (List.mem_of_getElem? (i := 0) rfl))
  rw [own_nb] at W4
  have Va4 : Arv Z h4 a3 kb .byte (9 : Int32) [(.int (c0.toInt8.toInt32)), (.int (0 : Int32)), (.int (0 : Int32)), (.int (0 : Int32)), (.int (0 : Int32)), (.int (0 : Int32)), (.int (0 : Int32)), (.int (0 : Int32)), (.int (0 : Int32))] (.int (0 : Int32)) := Arv.set Ar3 qc3 Sz3 Nn3 Hs3 Gf3 (fits_nar_byte _) W4 0 rfl (Nat.le_of_ble_eq_true rfl)
  refine Go.step (T' := T4) (f' := (mkF m 32 #[.val (.ref a1), .val (.int (0 : Int32)), .val (.ref a3), .val (.int (0 : Int32)), .val (.int (9 : Int32)), .val (.int (0 : Int32)), .val (.int c0)] [])) st4 ?_
  refine Go.step (T' := T4) (f' := (mkF m 35 #[.val (.ref a1), .val (.int (1 : Int32)), .val (.ref a3), .val (.int (0 : Int32)), .val (.int (9 : Int32)), .val (.int (0 : Int32)), .val (.int c0)] [])) (fun _ k => XS.iinc X4.here hx rfl (hb hby d5_32) rfl (l' := #[.val (.ref a1), .val (.int (1 : Int32)), .val (.ref a3), .val (.int (0 : Int32)), .val (.int (9 : Int32)), .val (.int (0 : Int32)), .val (.int c0)]) rfl k) ?_
  refine Go.step (T' := T4) (f' := (mkF m 38 #[.val (.ref a1), .val (.int (1 : Int32)), .val (.ref a3), .val (.int (1 : Int32)), .val (.int (9 : Int32)), .val (.int (0 : Int32)), .val (.int c0)] [])) (fun _ k => XS.iinc X4.here hx rfl (hb hby d5_35) rfl (l' := #[.val (.ref a1), .val (.int (1 : Int32)), .val (.ref a3), .val (.int (1 : Int32)), .val (.int (9 : Int32)), .val (.int (0 : Int32)), .val (.int c0)]) rfl k) ?_
  refine Go.step (T' := T4) (f' := (mkF m 41 #[.val (.ref a1), .val (.int (1 : Int32)), .val (.ref a3), .val (.int (1 : Int32)), .val (.int (9 : Int32)), .val (.int (1 : Int32)), .val (.int c0)] [])) (fun _ k => XS.iinc X4.here hx rfl (hb hby d5_38) rfl (l' := #[.val (.ref a1), .val (.int (1 : Int32)), .val (.ref a3), .val (.int (1 : Int32)), .val (.int (9 : Int32)), .val (.int (1 : Int32)), .val (.int c0)]) rfl k) ?_
  refine Go.step (T' := T4) (f' := (mkF m 3 #[.val (.ref a1), .val (.int (1 : Int32)), .val (.ref a3), .val (.int (1 : Int32)), .val (.int (9 : Int32)), .val (.int (1 : Int32)), .val (.int c0)] [])) (fun _ k => XS.goto X4.here hx rfl (pc0 := 41) (pc' := 3) rfl (hb hby d5_41) (by decide) (by decide) k) ?_
  refine Go.step (T' := T4) (f' := (mkF m 5 #[.val (.ref a1), .val (.int (1 : Int32)), .val (.ref a3), .val (.int (1 : Int32)), .val (.int (9 : Int32)), .val (.int (1 : Int32)), .val (.int c0)] [(.int (1 : Int32))])) (fun _ k => XS.iload X4.here hx rfl (hb hby d5_3) rfl k) ?_
  refine Go.step (T' := T4) (f' := (mkF m 7 #[.val (.ref a1), .val (.int (1 : Int32)), .val (.ref a3), .val (.int (1 : Int32)), .val (.int (9 : Int32)), .val (.int (1 : Int32)), .val (.int c0)] [(.int (9 : Int32)), (.int (1 : Int32))])) (fun _ k => XS.iload X4.here hx rfl (hb hby d5_5) rfl k) ?_
  refine Go.step (T' := T4) (f' := (mkF m 10 #[.val (.ref a1), .val (.int (1 : Int32)), .val (.ref a3), .val (.int (1 : Int32)), .val (.int (9 : Int32)), .val (.int (1 : Int32)), .val (.int c0)] [])) (fun _ k => XS.icmpNo X4.here hx rfl (hb hby d5_7) rfl (tlt (by decide : (1 : Int32) < (9 : Int32))).2.1 k) ?_
  refine Go.step (T' := T4) (f' := (mkF m 11 #[.val (.ref a1), .val (.int (1 : Int32)), .val (.ref a3), .val (.int (1 : Int32)), .val (.int (9 : Int32)), .val (.int (1 : Int32)), .val (.int c0)] [(.ref a1)])) (fun _ k => XS.aloadN X4.here hx rfl (hb hby d5_10) rfl rfl k) ?_
  refine Go.step (T' := T4) (f' := (mkF m 12 #[.val (.ref a1), .val (.int (1 : Int32)), .val (.ref a3), .val (.int (1 : Int32)), .val (.int (9 : Int32)), .val (.int (1 : Int32)), .val (.int c0)] [(.int (1 : Int32)), (.ref a1)])) (fun _ k => XS.iloadN X4.here hx rfl (hb hby d5_11) rfl k) ?_
  have q6 : Arv Z h4 a1 kc .char (9 : Int32) [(.int c0), (.int c1), (.int c2), (.int c3), (.int c4), (.int c5), (.int c6), (.int c7), (.int c8)] (.int (0 : Int32)) := (V_a1.other W4 hne)
  obtain ⟨cl7, Ar7, qc7, Sz7, Nn7, Hs7, Gf7⟩ := id q6
  have hin8 : ¬ ((1 : Int32) < 0 ∨ cl7.slots.size ≤ ((1 : Int32)).toNatClampNeg) := (inb_of Sz7 ⟨by decide, by decide⟩)
  have hat8 : cl7.slots[((1 : Int32)).toNatClampNeg]? = some (.int c1) := Has.at Hs7 hin8 rfl
  refine Go.step (T' := T4) (f' := (mkF m 13 #[.val (.ref a1), .val (.int (1 : Int32)), .val (.ref a3), .val (.int (1 : Int32)), .val (.int (9 : Int32)), .val (.int (1 : Int32)), .val (.int c0)] [(.int c1)])) (fun _ k => X4.caload hx (j := (1 : Int32)) (v := (.int c1)) (by rw [e4]; exact Ar7.1) (State.isArrayOf_alike hZ.alike Ar7.2.1) Ar7.2.2 hin8 hat8 (g := (mkF m 12 #[.val (.ref a1), .val (.int (1 : Int32)), .val (.ref a3), .val (.int (1 : Int32)), .val (.int (9 : Int32)), .val (.int (1 : Int32)), .val (.int c0)] [(.int (1 : Int32)), (.ref a1)])) rfl rfl (hb hby d5_12) _ k) ?_
  refine Go.step (T' := T4) (f' := (mkF m 15 #[.val (.ref a1), .val (.int (1 : Int32)), .val (.ref a3), .val (.int (1 : Int32)), .val (.int (9 : Int32)), .val (.int (1 : Int32)), .val (.int c1)] [])) (fun _ k => XS.istore X4.here hx rfl (hb hby d5_13) rfl (l' := #[.val (.ref a1), .val (.int (1 : Int32)), .val (.ref a3), .val (.int (1 : Int32)), .val (.int (9 : Int32)), .val (.int (1 : Int32)), .val (.int c1)]) rfl k) ?_
  refine Go.step (T' := T4) (f' := (mkF m 17 #[.val (.ref a1), .val (.int (1 : Int32)), .val (.ref a3), .val (.int (1 : Int32)), .val (.int (9 : Int32)), .val (.int (1 : Int32)), .val (.int c1)] [(.int c1)])) (fun _ k => XS.iload X4.here hx rfl (hb hby d5_15) rfl k) ?_
  refine Go.step (T' := T4) (f' := (mkF m 20 #[.val (.ref a1), .val (.int (1 : Int32)), .val (.ref a3), .val (.int (1 : Int32)), .val (.int (9 : Int32)), .val (.int (1 : Int32)), .val (.int c1)] [(.int (255 : Int32)), (.int c1)])) (fun _ k => XS.sipush X4.here hx rfl (hb hby d5_17) k) ?_
  refine Go.step (T' := T4) (f' := (mkF m 26 #[.val (.ref a1), .val (.int (1 : Int32)), .val (.ref a3), .val (.int (1 : Int32)), .val (.int (9 : Int32)), .val (.int (1 : Int32)), .val (.int c1)] [])) (fun _ k => XS.icmpYes X4.here hx rfl (pc0 := 20) (pc' := 26) rfl (hb hby d5_20) rfl (flt hl1).2.2.2 (by decide) (by decide) k) ?_
  refine Go.step (T' := T4) (f' := (mkF m 27 #[.val (.ref a1), .val (.int (1 : Int32)), .val (.ref a3), .val (.int (1 : Int32)), .val (.int (9 : Int32)), .val (.int (1 : Int32)), .val (.int c1)] [(.ref a3)])) (fun _ k => XS.aloadN X4.here hx rfl (hb hby d5_26) rfl rfl k) ?_
  refine Go.step (T' := T4) (f' := (mkF m 28 #[.val (.ref a1), .val (.int (1 : Int32)), .val (.ref a3), .val (.int (1 : Int32)), .val (.int (9 : Int32)), .val (.int (1 : Int32)), .val (.int c1)] [(.int (1 : Int32)), (.ref a3)])) (fun _ k => XS.iloadN X4.here hx rfl (hb hby d5_27) rfl k) ?_
  refine Go.step (T' := T4) (f' := (mkF m 30 #[.val (.ref a1), .val (.int (1 : Int32)), .val (.ref a3), .val (.int (1 : Int32)), .val (.int (9 : Int32)), .val (.int (1 : Int32)), .val (.int c1)] [(.int c1), (.int (1 : Int32)), (.ref a3)])) (fun _ k => XS.iload X4.here hx rfl (hb hby d5_28) rfl k) ?_
  refine Go.step (T' := T4) (f' := (mkF m 31 #[.val (.ref a1), .val (.int (1 : Int32)), .val (.ref a3), .val (.int (1 : Int32)), .val (.int (9 : Int32)), .val (.int (1 : Int32)), .val (.int c1)] [(.int (c1.toInt8.toInt32)), (.int (1 : Int32)), (.ref a3)])) (fun _ k => XS.i2b X4.here hx rfl (hb hby d5_30) rfl k) ?_
  obtain ⟨cl9, Ar9, qc9, Sz9, Nn9, Hs9, Gf9⟩ := id Va4
  have hin10 : ¬ ((1 : Int32) < 0 ∨ cl9.slots.size ≤ ((1 : Int32)).toNatClampNeg) := (inb_of Sz9 ⟨by decide, by decide⟩)
  obtain ⟨T10, h10, X10, e10, W10, st10⟩ := stB X4 hx hZ e4 Ar9 (j := (1 : Int32)) hin10 (g := (mkF m 31 #[.val (.ref a1), .val (.int (1 : Int32)), .val (.ref a3), .val (.int (1 : Int32)), .val (.int (9 : Int32)), .val (.int (1 : Int32)), .val (.int c1)] [(.int (c1.toInt8.toInt32)), (.int (1 : Int32)), (.ref a3)])) rfl rfl (hb hby d5_31)
  have N10 := Fr.snoc X10 N4 g_a3
  have Z11 : n0 ≤ h10.size := Nat.le_trans Z5 (Keep.of_wr W10).1
  have K11 : Keep h0 h10 [a3] := K5.wr W10 (Or.inl (List.mem_of_getElem? (i := 0) rfl))
  rw [own_nb] at W10
  have Va10 : Arv Z h10 a3 kb .byte (9 : Int32) [(.int (c0.toInt8.toInt32)), (.int (c1.toInt8.toInt32)), (.int (0 : Int32)), (.int (0 : Int32)), (.int (0 : Int32)), (.int (0 : Int32)), (.int (0 : Int32)), (.int (0 : Int32)), (.int (0 : Int32))] (.int (0 : Int32)) := Arv.set Ar9 qc9 Sz9 Nn9 Hs9 Gf9 (fits_nar_byte _) W10 1 rfl (Nat.le_of_ble_eq_true rfl)
  refine Go.step (T' := T10) (f' := (mkF m 32 #[.val (.ref a1), .val (.int (1 : Int32)), .val (.ref a3), .val (.int (1 : Int32)), .val (.int (9 : Int32)), .val (.int (1 : Int32)), .val (.int c1)] [])) st10 ?_
  refine Go.step (T' := T10) (f' := (mkF m 35 #[.val (.ref a1), .val (.int (2 : Int32)), .val (.ref a3), .val (.int (1 : Int32)), .val (.int (9 : Int32)), .val (.int (1 : Int32)), .val (.int c1)] [])) (fun _ k => XS.iinc X10.here hx rfl (hb hby d5_32) rfl (l' := #[.val (.ref a1), .val (.int (2 : Int32)), .val (.ref a3), .val (.int (1 : Int32)), .val (.int (9 : Int32)), .val (.int (1 : Int32)), .val (.int c1)]) rfl k) ?_
  refine Go.step (T' := T10) (f' := (mkF m 38 #[.val (.ref a1), .val (.int (2 : Int32)), .val (.ref a3), .val (.int (2 : Int32)), .val (.int (9 : Int32)), .val (.int (1 : Int32)), .val (.int c1)] [])) (fun _ k => XS.iinc X10.here hx rfl (hb hby d5_35) rfl (l' := #[.val (.ref a1), .val (.int (2 : Int32)), .val (.ref a3), .val (.int (2 : Int32)), .val (.int (9 : Int32)), .val (.int (1 : Int32)), .val (.int c1)]) rfl k) ?_
  refine Go.step (T' := T10) (f' := (mkF m 41 #[.val (.ref a1), .val (.int (2 : Int32)), .val (.ref a3), .val (.int (2 : Int32)), .val (.int (9 : Int32)), .val (.int (2 : Int32)), .val (.int c1)] [])) (fun _ k => XS.iinc X10.here hx rfl (hb hby d5_38) rfl (l' := #[.val (.ref a1), .val (.int (2 : Int32)), .val (.ref a3), .val (.int (2 : Int32)), .val (.int (9 : Int32)), .val (.int (2 : Int32)), .val (.int c1)]) rfl k) ?_
  refine Go.step (T' := T10) (f' := (mkF m 3 #[.val (.ref a1), .val (.int (2 : Int32)), .val (.ref a3), .val (.int (2 : Int32)), .val (.int (9 : Int32)), .val (.int (2 : Int32)), .val (.int c1)] [])) (fun _ k => XS.goto X10.here hx rfl (pc0 := 41) (pc' := 3) rfl (hb hby d5_41) (by decide) (by decide) k) ?_
  refine Go.step (T' := T10) (f' := (mkF m 5 #[.val (.ref a1), .val (.int (2 : Int32)), .val (.ref a3), .val (.int (2 : Int32)), .val (.int (9 : Int32)), .val (.int (2 : Int32)), .val (.int c1)] [(.int (2 : Int32))])) (fun _ k => XS.iload X10.here hx rfl (hb hby d5_3) rfl k) ?_
  refine Go.step (T' := T10) (f' := (mkF m 7 #[.val (.ref a1), .val (.int (2 : Int32)), .val (.ref a3), .val (.int (2 : Int32)), .val (.int (9 : Int32)), .val (.int (2 : Int32)), .val (.int c1)] [(.int (9 : Int32)), (.int (2 : Int32))])) (fun _ k => XS.iload X10.here hx rfl (hb hby d5_5) rfl k) ?_
  refine Go.step (T' := T10) (f' := (mkF m 10 #[.val (.ref a1), .val (.int (2 : Int32)), .val (.ref a3), .val (.int (2 : Int32)), .val (.int (9 : Int32)), .val (.int (2 : Int32)), .val (.int c1)] [])) (fun _ k => XS.icmpNo X10.here hx rfl (hb hby d5_7) rfl (tlt (by decide : (2 : Int32) < (9 : Int32))).2.1 k) ?_
  refine Go.step (T' := T10) (f' := (mkF m 11 #[.val (.ref a1), .val (.int (2 : Int32)), .val (.ref a3), .val (.int (2 : Int32)), .val (.int (9 : Int32)), .val (.int (2 : Int32)), .val (.int c1)] [(.ref a1)])) (fun _ k => XS.aloadN X10.here hx rfl (hb hby d5_10) rfl rfl k) ?_
  refine Go.step (T' := T10) (f' := (mkF m 12 #[.val (.ref a1), .val (.int (2 : Int32)), .val (.ref a3), .val (.int (2 : Int32)), .val (.int (9 : Int32)), .val (.int (2 : Int32)), .val (.int c1)] [(.int (2 : Int32)), (.ref a1)])) (fun _ k => XS.iloadN X10.here hx rfl (hb hby d5_11) rfl k) ?_
  have q12 : Arv Z h10 a1 kc .char (9 : Int32) [(.int c0), (.int c1), (.int c2), (.int c3), (.int c4), (.int c5), (.int c6), (.int c7), (.int c8)] (.int (0 : Int32)) := (q6.other W10 hne)
  obtain ⟨cl13, Ar13, qc13, Sz13, Nn13, Hs13, Gf13⟩ := id q12
  have hin14 : ¬ ((2 : Int32) < 0 ∨ cl13.slots.size ≤ ((2 : Int32)).toNatClampNeg) := (inb_of Sz13 ⟨by decide, by decide⟩)
  have hat14 : cl13.slots[((2 : Int32)).toNatClampNeg]? = some (.int c2) := Has.at Hs13 hin14 rfl
  refine Go.step (T' := T10) (f' := (mkF m 13 #[.val (.ref a1), .val (.int (2 : Int32)), .val (.ref a3), .val (.int (2 : Int32)), .val (.int (9 : Int32)), .val (.int (2 : Int32)), .val (.int c1)] [(.int c2)])) (fun _ k => X10.caload hx (j := (2 : Int32)) (v := (.int c2)) (by rw [e10]; exact Ar13.1) (State.isArrayOf_alike hZ.alike Ar13.2.1) Ar13.2.2 hin14 hat14 (g := (mkF m 12 #[.val (.ref a1), .val (.int (2 : Int32)), .val (.ref a3), .val (.int (2 : Int32)), .val (.int (9 : Int32)), .val (.int (2 : Int32)), .val (.int c1)] [(.int (2 : Int32)), (.ref a1)])) rfl rfl (hb hby d5_12) _ k) ?_
  refine Go.step (T' := T10) (f' := (mkF m 15 #[.val (.ref a1), .val (.int (2 : Int32)), .val (.ref a3), .val (.int (2 : Int32)), .val (.int (9 : Int32)), .val (.int (2 : Int32)), .val (.int c2)] [])) (fun _ k => XS.istore X10.here hx rfl (hb hby d5_13) rfl (l' := #[.val (.ref a1), .val (.int (2 : Int32)), .val (.ref a3), .val (.int (2 : Int32)), .val (.int (9 : Int32)), .val (.int (2 : Int32)), .val (.int c2)]) rfl k) ?_
  refine Go.step (T' := T10) (f' := (mkF m 17 #[.val (.ref a1), .val (.int (2 : Int32)), .val (.ref a3), .val (.int (2 : Int32)), .val (.int (9 : Int32)), .val (.int (2 : Int32)), .val (.int c2)] [(.int c2)])) (fun _ k => XS.iload X10.here hx rfl (hb hby d5_15) rfl k) ?_
  refine Go.step (T' := T10) (f' := (mkF m 20 #[.val (.ref a1), .val (.int (2 : Int32)), .val (.ref a3), .val (.int (2 : Int32)), .val (.int (9 : Int32)), .val (.int (2 : Int32)), .val (.int c2)] [(.int (255 : Int32)), (.int c2)])) (fun _ k => XS.sipush X10.here hx rfl (hb hby d5_17) k) ?_
  refine Go.step (T' := T10) (f' := (mkF m 26 #[.val (.ref a1), .val (.int (2 : Int32)), .val (.ref a3), .val (.int (2 : Int32)), .val (.int (9 : Int32)), .val (.int (2 : Int32)), .val (.int c2)] [])) (fun _ k => XS.icmpYes X10.here hx rfl (pc0 := 20) (pc' := 26) rfl (hb hby d5_20) rfl (flt hl2).2.2.2 (by decide) (by decide) k) ?_
  refine Go.step (T' := T10) (f' := (mkF m 27 #[.val (.ref a1), .val (.int (2 : Int32)), .val (.ref a3), .val (.int (2 : Int32)), .val (.int (9 : Int32)), .val (.int (2 : Int32)), .val (.int c2)] [(.ref a3)])) (fun _ k => XS.aloadN X10.here hx rfl (hb hby d5_26) rfl rfl k) ?_
  refine Go.step (T' := T10) (f' := (mkF m 28 #[.val (.ref a1), .val (.int (2 : Int32)), .val (.ref a3), .val (.int (2 : Int32)), .val (.int (9 : Int32)), .val (.int (2 : Int32)), .val (.int c2)] [(.int (2 : Int32)), (.ref a3)])) (fun _ k => XS.iloadN X10.here hx rfl (hb hby d5_27) rfl k) ?_
  refine Go.step (T' := T10) (f' := (mkF m 30 #[.val (.ref a1), .val (.int (2 : Int32)), .val (.ref a3), .val (.int (2 : Int32)), .val (.int (9 : Int32)), .val (.int (2 : Int32)), .val (.int c2)] [(.int c2), (.int (2 : Int32)), (.ref a3)])) (fun _ k => XS.iload X10.here hx rfl (hb hby d5_28) rfl k) ?_
  refine Go.step (T' := T10) (f' := (mkF m 31 #[.val (.ref a1), .val (.int (2 : Int32)), .val (.ref a3), .val (.int (2 : Int32)), .val (.int (9 : Int32)), .val (.int (2 : Int32)), .val (.int c2)] [(.int (c2.toInt8.toInt32)), (.int (2 : Int32)), (.ref a3)])) (fun _ k => XS.i2b X10.here hx rfl (hb hby d5_30) rfl k) ?_
  obtain ⟨cl15, Ar15, qc15, Sz15, Nn15, Hs15, Gf15⟩ := id Va10
  have hin16 : ¬ ((2 : Int32) < 0 ∨ cl15.slots.size ≤ ((2 : Int32)).toNatClampNeg) := (inb_of Sz15 ⟨by decide, by decide⟩)
  obtain ⟨T16, h16, X16, e16, W16, st16⟩ := stB X10 hx hZ e10 Ar15 (j := (2 : Int32)) hin16 (g := (mkF m 31 #[.val (.ref a1), .val (.int (2 : Int32)), .val (.ref a3), .val (.int (2 : Int32)), .val (.int (9 : Int32)), .val (.int (2 : Int32)), .val (.int c2)] [(.int (c2.toInt8.toInt32)), (.int (2 : Int32)), (.ref a3)])) rfl rfl (hb hby d5_31)
  have N16 := Fr.snoc X16 N10 g_a3
  have Z17 : n0 ≤ h16.size := Nat.le_trans Z11 (Keep.of_wr W16).1
  have K17 : Keep h0 h16 [a3] := K11.wr W16 (Or.inl (List.mem_of_getElem? (i := 0) rfl))
  rw [own_nb] at W16
  have Va16 : Arv Z h16 a3 kb .byte (9 : Int32) [(.int (c0.toInt8.toInt32)), (.int (c1.toInt8.toInt32)), (.int (c2.toInt8.toInt32)), (.int (0 : Int32)), (.int (0 : Int32)), (.int (0 : Int32)), (.int (0 : Int32)), (.int (0 : Int32)), (.int (0 : Int32))] (.int (0 : Int32)) := Arv.set Ar15 qc15 Sz15 Nn15 Hs15 Gf15 (fits_nar_byte _) W16 2 rfl (Nat.le_of_ble_eq_true rfl)
  refine Go.step (T' := T16) (f' := (mkF m 32 #[.val (.ref a1), .val (.int (2 : Int32)), .val (.ref a3), .val (.int (2 : Int32)), .val (.int (9 : Int32)), .val (.int (2 : Int32)), .val (.int c2)] [])) st16 ?_
  refine Go.step (T' := T16) (f' := (mkF m 35 #[.val (.ref a1), .val (.int (3 : Int32)), .val (.ref a3), .val (.int (2 : Int32)), .val (.int (9 : Int32)), .val (.int (2 : Int32)), .val (.int c2)] [])) (fun _ k => XS.iinc X16.here hx rfl (hb hby d5_32) rfl (l' := #[.val (.ref a1), .val (.int (3 : Int32)), .val (.ref a3), .val (.int (2 : Int32)), .val (.int (9 : Int32)), .val (.int (2 : Int32)), .val (.int c2)]) rfl k) ?_
  refine Go.step (T' := T16) (f' := (mkF m 38 #[.val (.ref a1), .val (.int (3 : Int32)), .val (.ref a3), .val (.int (3 : Int32)), .val (.int (9 : Int32)), .val (.int (2 : Int32)), .val (.int c2)] [])) (fun _ k => XS.iinc X16.here hx rfl (hb hby d5_35) rfl (l' := #[.val (.ref a1), .val (.int (3 : Int32)), .val (.ref a3), .val (.int (3 : Int32)), .val (.int (9 : Int32)), .val (.int (2 : Int32)), .val (.int c2)]) rfl k) ?_
  refine Go.step (T' := T16) (f' := (mkF m 41 #[.val (.ref a1), .val (.int (3 : Int32)), .val (.ref a3), .val (.int (3 : Int32)), .val (.int (9 : Int32)), .val (.int (3 : Int32)), .val (.int c2)] [])) (fun _ k => XS.iinc X16.here hx rfl (hb hby d5_38) rfl (l' := #[.val (.ref a1), .val (.int (3 : Int32)), .val (.ref a3), .val (.int (3 : Int32)), .val (.int (9 : Int32)), .val (.int (3 : Int32)), .val (.int c2)]) rfl k) ?_
  refine Go.step (T' := T16) (f' := (mkF m 3 #[.val (.ref a1), .val (.int (3 : Int32)), .val (.ref a3), .val (.int (3 : Int32)), .val (.int (9 : Int32)), .val (.int (3 : Int32)), .val (.int c2)] [])) (fun _ k => XS.goto X16.here hx rfl (pc0 := 41) (pc' := 3) rfl (hb hby d5_41) (by decide) (by decide) k) ?_
  refine Go.step (T' := T16) (f' := (mkF m 5 #[.val (.ref a1), .val (.int (3 : Int32)), .val (.ref a3), .val (.int (3 : Int32)), .val (.int (9 : Int32)), .val (.int (3 : Int32)), .val (.int c2)] [(.int (3 : Int32))])) (fun _ k => XS.iload X16.here hx rfl (hb hby d5_3) rfl k) ?_
  refine Go.step (T' := T16) (f' := (mkF m 7 #[.val (.ref a1), .val (.int (3 : Int32)), .val (.ref a3), .val (.int (3 : Int32)), .val (.int (9 : Int32)), .val (.int (3 : Int32)), .val (.int c2)] [(.int (9 : Int32)), (.int (3 : Int32))])) (fun _ k => XS.iload X16.here hx rfl (hb hby d5_5) rfl k) ?_
  refine Go.step (T' := T16) (f' := (mkF m 10 #[.val (.ref a1), .val (.int (3 : Int32)), .val (.ref a3), .val (.int (3 : Int32)), .val (.int (9 : Int32)), .val (.int (3 : Int32)), .val (.int c2)] [])) (fun _ k => XS.icmpNo X16.here hx rfl (hb hby d5_7) rfl (tlt (by decide : (3 : Int32) < (9 : Int32))).2.1 k) ?_
  refine Go.step (T' := T16) (f' := (mkF m 11 #[.val (.ref a1), .val (.int (3 : Int32)), .val (.ref a3), .val (.int (3 : Int32)), .val (.int (9 : Int32)), .val (.int (3 : Int32)), .val (.int c2)] [(.ref a1)])) (fun _ k => XS.aloadN X16.here hx rfl (hb hby d5_10) rfl rfl k) ?_
  refine Go.step (T' := T16) (f' := (mkF m 12 #[.val (.ref a1), .val (.int (3 : Int32)), .val (.ref a3), .val (.int (3 : Int32)), .val (.int (9 : Int32)), .val (.int (3 : Int32)), .val (.int c2)] [(.int (3 : Int32)), (.ref a1)])) (fun _ k => XS.iloadN X16.here hx rfl (hb hby d5_11) rfl k) ?_
  have q18 : Arv Z h16 a1 kc .char (9 : Int32) [(.int c0), (.int c1), (.int c2), (.int c3), (.int c4), (.int c5), (.int c6), (.int c7), (.int c8)] (.int (0 : Int32)) := (q12.other W16 hne)
  obtain ⟨cl19, Ar19, qc19, Sz19, Nn19, Hs19, Gf19⟩ := id q18
  have hin20 : ¬ ((3 : Int32) < 0 ∨ cl19.slots.size ≤ ((3 : Int32)).toNatClampNeg) := (inb_of Sz19 ⟨by decide, by decide⟩)
  have hat20 : cl19.slots[((3 : Int32)).toNatClampNeg]? = some (.int c3) := Has.at Hs19 hin20 rfl
  refine Go.step (T' := T16) (f' := (mkF m 13 #[.val (.ref a1), .val (.int (3 : Int32)), .val (.ref a3), .val (.int (3 : Int32)), .val (.int (9 : Int32)), .val (.int (3 : Int32)), .val (.int c2)] [(.int c3)])) (fun _ k => X16.caload hx (j := (3 : Int32)) (v := (.int c3)) (by rw [e16]; exact Ar19.1) (State.isArrayOf_alike hZ.alike Ar19.2.1) Ar19.2.2 hin20 hat20 (g := (mkF m 12 #[.val (.ref a1), .val (.int (3 : Int32)), .val (.ref a3), .val (.int (3 : Int32)), .val (.int (9 : Int32)), .val (.int (3 : Int32)), .val (.int c2)] [(.int (3 : Int32)), (.ref a1)])) rfl rfl (hb hby d5_12) _ k) ?_
  refine Go.step (T' := T16) (f' := (mkF m 15 #[.val (.ref a1), .val (.int (3 : Int32)), .val (.ref a3), .val (.int (3 : Int32)), .val (.int (9 : Int32)), .val (.int (3 : Int32)), .val (.int c3)] [])) (fun _ k => XS.istore X16.here hx rfl (hb hby d5_13) rfl (l' := #[.val (.ref a1), .val (.int (3 : Int32)), .val (.ref a3), .val (.int (3 : Int32)), .val (.int (9 : Int32)), .val (.int (3 : Int32)), .val (.int c3)]) rfl k) ?_
  refine Go.step (T' := T16) (f' := (mkF m 17 #[.val (.ref a1), .val (.int (3 : Int32)), .val (.ref a3), .val (.int (3 : Int32)), .val (.int (9 : Int32)), .val (.int (3 : Int32)), .val (.int c3)] [(.int c3)])) (fun _ k => XS.iload X16.here hx rfl (hb hby d5_15) rfl k) ?_
  refine Go.step (T' := T16) (f' := (mkF m 20 #[.val (.ref a1), .val (.int (3 : Int32)), .val (.ref a3), .val (.int (3 : Int32)), .val (.int (9 : Int32)), .val (.int (3 : Int32)), .val (.int c3)] [(.int (255 : Int32)), (.int c3)])) (fun _ k => XS.sipush X16.here hx rfl (hb hby d5_17) k) ?_
  refine Go.step (T' := T16) (f' := (mkF m 26 #[.val (.ref a1), .val (.int (3 : Int32)), .val (.ref a3), .val (.int (3 : Int32)), .val (.int (9 : Int32)), .val (.int (3 : Int32)), .val (.int c3)] [])) (fun _ k => XS.icmpYes X16.here hx rfl (pc0 := 20) (pc' := 26) rfl (hb hby d5_20) rfl (flt hl3).2.2.2 (by decide) (by decide) k) ?_
  refine Go.step (T' := T16) (f' := (mkF m 27 #[.val (.ref a1), .val (.int (3 : Int32)), .val (.ref a3), .val (.int (3 : Int32)), .val (.int (9 : Int32)), .val (.int (3 : Int32)), .val (.int c3)] [(.ref a3)])) (fun _ k => XS.aloadN X16.here hx rfl (hb hby d5_26) rfl rfl k) ?_
  refine Go.step (T' := T16) (f' := (mkF m 28 #[.val (.ref a1), .val (.int (3 : Int32)), .val (.ref a3), .val (.int (3 : Int32)), .val (.int (9 : Int32)), .val (.int (3 : Int32)), .val (.int c3)] [(.int (3 : Int32)), (.ref a3)])) (fun _ k => XS.iloadN X16.here hx rfl (hb hby d5_27) rfl k) ?_
  refine Go.step (T' := T16) (f' := (mkF m 30 #[.val (.ref a1), .val (.int (3 : Int32)), .val (.ref a3), .val (.int (3 : Int32)), .val (.int (9 : Int32)), .val (.int (3 : Int32)), .val (.int c3)] [(.int c3), (.int (3 : Int32)), (.ref a3)])) (fun _ k => XS.iload X16.here hx rfl (hb hby d5_28) rfl k) ?_
  refine Go.step (T' := T16) (f' := (mkF m 31 #[.val (.ref a1), .val (.int (3 : Int32)), .val (.ref a3), .val (.int (3 : Int32)), .val (.int (9 : Int32)), .val (.int (3 : Int32)), .val (.int c3)] [(.int (c3.toInt8.toInt32)), (.int (3 : Int32)), (.ref a3)])) (fun _ k => XS.i2b X16.here hx rfl (hb hby d5_30) rfl k) ?_
  obtain ⟨cl21, Ar21, qc21, Sz21, Nn21, Hs21, Gf21⟩ := id Va16
  have hin22 : ¬ ((3 : Int32) < 0 ∨ cl21.slots.size ≤ ((3 : Int32)).toNatClampNeg) := (inb_of Sz21 ⟨by decide, by decide⟩)
  obtain ⟨T22, h22, X22, e22, W22, st22⟩ := stB X16 hx hZ e16 Ar21 (j := (3 : Int32)) hin22 (g := (mkF m 31 #[.val (.ref a1), .val (.int (3 : Int32)), .val (.ref a3), .val (.int (3 : Int32)), .val (.int (9 : Int32)), .val (.int (3 : Int32)), .val (.int c3)] [(.int (c3.toInt8.toInt32)), (.int (3 : Int32)), (.ref a3)])) rfl rfl (hb hby d5_31)
  have N22 := Fr.snoc X22 N16 g_a3
  have Z23 : n0 ≤ h22.size := Nat.le_trans Z17 (Keep.of_wr W22).1
  have K23 : Keep h0 h22 [a3] := K17.wr W22 (Or.inl (List.mem_of_getElem? (i := 0) rfl))
  rw [own_nb] at W22
  have Va22 : Arv Z h22 a3 kb .byte (9 : Int32) [(.int (c0.toInt8.toInt32)), (.int (c1.toInt8.toInt32)), (.int (c2.toInt8.toInt32)), (.int (c3.toInt8.toInt32)), (.int (0 : Int32)), (.int (0 : Int32)), (.int (0 : Int32)), (.int (0 : Int32)), (.int (0 : Int32))] (.int (0 : Int32)) := Arv.set Ar21 qc21 Sz21 Nn21 Hs21 Gf21 (fits_nar_byte _) W22 3 rfl (Nat.le_of_ble_eq_true rfl)
  refine Go.step (T' := T22) (f' := (mkF m 32 #[.val (.ref a1), .val (.int (3 : Int32)), .val (.ref a3), .val (.int (3 : Int32)), .val (.int (9 : Int32)), .val (.int (3 : Int32)), .val (.int c3)] [])) st22 ?_
  refine Go.step (T' := T22) (f' := (mkF m 35 #[.val (.ref a1), .val (.int (4 : Int32)), .val (.ref a3), .val (.int (3 : Int32)), .val (.int (9 : Int32)), .val (.int (3 : Int32)), .val (.int c3)] [])) (fun _ k => XS.iinc X22.here hx rfl (hb hby d5_32) rfl (l' := #[.val (.ref a1), .val (.int (4 : Int32)), .val (.ref a3), .val (.int (3 : Int32)), .val (.int (9 : Int32)), .val (.int (3 : Int32)), .val (.int c3)]) rfl k) ?_
  refine Go.step (T' := T22) (f' := (mkF m 38 #[.val (.ref a1), .val (.int (4 : Int32)), .val (.ref a3), .val (.int (4 : Int32)), .val (.int (9 : Int32)), .val (.int (3 : Int32)), .val (.int c3)] [])) (fun _ k => XS.iinc X22.here hx rfl (hb hby d5_35) rfl (l' := #[.val (.ref a1), .val (.int (4 : Int32)), .val (.ref a3), .val (.int (4 : Int32)), .val (.int (9 : Int32)), .val (.int (3 : Int32)), .val (.int c3)]) rfl k) ?_
  refine Go.step (T' := T22) (f' := (mkF m 41 #[.val (.ref a1), .val (.int (4 : Int32)), .val (.ref a3), .val (.int (4 : Int32)), .val (.int (9 : Int32)), .val (.int (4 : Int32)), .val (.int c3)] [])) (fun _ k => XS.iinc X22.here hx rfl (hb hby d5_38) rfl (l' := #[.val (.ref a1), .val (.int (4 : Int32)), .val (.ref a3), .val (.int (4 : Int32)), .val (.int (9 : Int32)), .val (.int (4 : Int32)), .val (.int c3)]) rfl k) ?_
  refine Go.step (T' := T22) (f' := (mkF m 3 #[.val (.ref a1), .val (.int (4 : Int32)), .val (.ref a3), .val (.int (4 : Int32)), .val (.int (9 : Int32)), .val (.int (4 : Int32)), .val (.int c3)] [])) (fun _ k => XS.goto X22.here hx rfl (pc0 := 41) (pc' := 3) rfl (hb hby d5_41) (by decide) (by decide) k) ?_
  refine Go.step (T' := T22) (f' := (mkF m 5 #[.val (.ref a1), .val (.int (4 : Int32)), .val (.ref a3), .val (.int (4 : Int32)), .val (.int (9 : Int32)), .val (.int (4 : Int32)), .val (.int c3)] [(.int (4 : Int32))])) (fun _ k => XS.iload X22.here hx rfl (hb hby d5_3) rfl k) ?_
  refine Go.step (T' := T22) (f' := (mkF m 7 #[.val (.ref a1), .val (.int (4 : Int32)), .val (.ref a3), .val (.int (4 : Int32)), .val (.int (9 : Int32)), .val (.int (4 : Int32)), .val (.int c3)] [(.int (9 : Int32)), (.int (4 : Int32))])) (fun _ k => XS.iload X22.here hx rfl (hb hby d5_5) rfl k) ?_
  refine Go.step (T' := T22) (f' := (mkF m 10 #[.val (.ref a1), .val (.int (4 : Int32)), .val (.ref a3), .val (.int (4 : Int32)), .val (.int (9 : Int32)), .val (.int (4 : Int32)), .val (.int c3)] [])) (fun _ k => XS.icmpNo X22.here hx rfl (hb hby d5_7) rfl (tlt (by decide : (4 : Int32) < (9 : Int32))).2.1 k) ?_
  refine Go.step (T' := T22) (f' := (mkF m 11 #[.val (.ref a1), .val (.int (4 : Int32)), .val (.ref a3), .val (.int (4 : Int32)), .val (.int (9 : Int32)), .val (.int (4 : Int32)), .val (.int c3)] [(.ref a1)])) (fun _ k => XS.aloadN X22.here hx rfl (hb hby d5_10) rfl rfl k) ?_
  refine Go.step (T' := T22) (f' := (mkF m 12 #[.val (.ref a1), .val (.int (4 : Int32)), .val (.ref a3), .val (.int (4 : Int32)), .val (.int (9 : Int32)), .val (.int (4 : Int32)), .val (.int c3)] [(.int (4 : Int32)), (.ref a1)])) (fun _ k => XS.iloadN X22.here hx rfl (hb hby d5_11) rfl k) ?_
  have q24 : Arv Z h22 a1 kc .char (9 : Int32) [(.int c0), (.int c1), (.int c2), (.int c3), (.int c4), (.int c5), (.int c6), (.int c7), (.int c8)] (.int (0 : Int32)) := (q18.other W22 hne)
  obtain ⟨cl25, Ar25, qc25, Sz25, Nn25, Hs25, Gf25⟩ := id q24
  have hin26 : ¬ ((4 : Int32) < 0 ∨ cl25.slots.size ≤ ((4 : Int32)).toNatClampNeg) := (inb_of Sz25 ⟨by decide, by decide⟩)
  have hat26 : cl25.slots[((4 : Int32)).toNatClampNeg]? = some (.int c4) := Has.at Hs25 hin26 rfl
  refine Go.step (T' := T22) (f' := (mkF m 13 #[.val (.ref a1), .val (.int (4 : Int32)), .val (.ref a3), .val (.int (4 : Int32)), .val (.int (9 : Int32)), .val (.int (4 : Int32)), .val (.int c3)] [(.int c4)])) (fun _ k => X22.caload hx (j := (4 : Int32)) (v := (.int c4)) (by rw [e22]; exact Ar25.1) (State.isArrayOf_alike hZ.alike Ar25.2.1) Ar25.2.2 hin26 hat26 (g := (mkF m 12 #[.val (.ref a1), .val (.int (4 : Int32)), .val (.ref a3), .val (.int (4 : Int32)), .val (.int (9 : Int32)), .val (.int (4 : Int32)), .val (.int c3)] [(.int (4 : Int32)), (.ref a1)])) rfl rfl (hb hby d5_12) _ k) ?_
  refine Go.step (T' := T22) (f' := (mkF m 15 #[.val (.ref a1), .val (.int (4 : Int32)), .val (.ref a3), .val (.int (4 : Int32)), .val (.int (9 : Int32)), .val (.int (4 : Int32)), .val (.int c4)] [])) (fun _ k => XS.istore X22.here hx rfl (hb hby d5_13) rfl (l' := #[.val (.ref a1), .val (.int (4 : Int32)), .val (.ref a3), .val (.int (4 : Int32)), .val (.int (9 : Int32)), .val (.int (4 : Int32)), .val (.int c4)]) rfl k) ?_
  refine Go.step (T' := T22) (f' := (mkF m 17 #[.val (.ref a1), .val (.int (4 : Int32)), .val (.ref a3), .val (.int (4 : Int32)), .val (.int (9 : Int32)), .val (.int (4 : Int32)), .val (.int c4)] [(.int c4)])) (fun _ k => XS.iload X22.here hx rfl (hb hby d5_15) rfl k) ?_
  refine Go.step (T' := T22) (f' := (mkF m 20 #[.val (.ref a1), .val (.int (4 : Int32)), .val (.ref a3), .val (.int (4 : Int32)), .val (.int (9 : Int32)), .val (.int (4 : Int32)), .val (.int c4)] [(.int (255 : Int32)), (.int c4)])) (fun _ k => XS.sipush X22.here hx rfl (hb hby d5_17) k) ?_
  refine Go.step (T' := T22) (f' := (mkF m 26 #[.val (.ref a1), .val (.int (4 : Int32)), .val (.ref a3), .val (.int (4 : Int32)), .val (.int (9 : Int32)), .val (.int (4 : Int32)), .val (.int c4)] [])) (fun _ k => XS.icmpYes X22.here hx rfl (pc0 := 20) (pc' := 26) rfl (hb hby d5_20) rfl (flt hl4).2.2.2 (by decide) (by decide) k) ?_
  refine Go.step (T' := T22) (f' := (mkF m 27 #[.val (.ref a1), .val (.int (4 : Int32)), .val (.ref a3), .val (.int (4 : Int32)), .val (.int (9 : Int32)), .val (.int (4 : Int32)), .val (.int c4)] [(.ref a3)])) (fun _ k => XS.aloadN X22.here hx rfl (hb hby d5_26) rfl rfl k) ?_
  refine Go.step (T' := T22) (f' := (mkF m 28 #[.val (.ref a1), .val (.int (4 : Int32)), .val (.ref a3), .val (.int (4 : Int32)), .val (.int (9 : Int32)), .val (.int (4 : Int32)), .val (.int c4)] [(.int (4 : Int32)), (.ref a3)])) (fun _ k => XS.iloadN X22.here hx rfl (hb hby d5_27) rfl k) ?_
  refine Go.step (T' := T22) (f' := (mkF m 30 #[.val (.ref a1), .val (.int (4 : Int32)), .val (.ref a3), .val (.int (4 : Int32)), .val (.int (9 : Int32)), .val (.int (4 : Int32)), .val (.int c4)] [(.int c4), (.int (4 : Int32)), (.ref a3)])) (fun _ k => XS.iload X22.here hx rfl (hb hby d5_28) rfl k) ?_
  refine Go.step (T' := T22) (f' := (mkF m 31 #[.val (.ref a1), .val (.int (4 : Int32)), .val (.ref a3), .val (.int (4 : Int32)), .val (.int (9 : Int32)), .val (.int (4 : Int32)), .val (.int c4)] [(.int (c4.toInt8.toInt32)), (.int (4 : Int32)), (.ref a3)])) (fun _ k => XS.i2b X22.here hx rfl (hb hby d5_30) rfl k) ?_
  obtain ⟨cl27, Ar27, qc27, Sz27, Nn27, Hs27, Gf27⟩ := id Va22
  have hin28 : ¬ ((4 : Int32) < 0 ∨ cl27.slots.size ≤ ((4 : Int32)).toNatClampNeg) := (inb_of Sz27 ⟨by decide, by decide⟩)
  obtain ⟨T28, h28, X28, e28, W28, st28⟩ := stB X22 hx hZ e22 Ar27 (j := (4 : Int32)) hin28 (g := (mkF m 31 #[.val (.ref a1), .val (.int (4 : Int32)), .val (.ref a3), .val (.int (4 : Int32)), .val (.int (9 : Int32)), .val (.int (4 : Int32)), .val (.int c4)] [(.int (c4.toInt8.toInt32)), (.int (4 : Int32)), (.ref a3)])) rfl rfl (hb hby d5_31)
  have N28 := Fr.snoc X28 N22 g_a3
  have Z29 : n0 ≤ h28.size := Nat.le_trans Z23 (Keep.of_wr W28).1
  have K29 : Keep h0 h28 [a3] := K23.wr W28 (Or.inl (List.mem_of_getElem? (i := 0) rfl))
  rw [own_nb] at W28
  have Va28 : Arv Z h28 a3 kb .byte (9 : Int32) [(.int (c0.toInt8.toInt32)), (.int (c1.toInt8.toInt32)), (.int (c2.toInt8.toInt32)), (.int (c3.toInt8.toInt32)), (.int (c4.toInt8.toInt32)), (.int (0 : Int32)), (.int (0 : Int32)), (.int (0 : Int32)), (.int (0 : Int32))] (.int (0 : Int32)) := Arv.set Ar27 qc27 Sz27 Nn27 Hs27 Gf27 (fits_nar_byte _) W28 4 rfl (Nat.le_of_ble_eq_true rfl)
  refine Go.step (T' := T28) (f' := (mkF m 32 #[.val (.ref a1), .val (.int (4 : Int32)), .val (.ref a3), .val (.int (4 : Int32)), .val (.int (9 : Int32)), .val (.int (4 : Int32)), .val (.int c4)] [])) st28 ?_
  refine Go.step (T' := T28) (f' := (mkF m 35 #[.val (.ref a1), .val (.int (5 : Int32)), .val (.ref a3), .val (.int (4 : Int32)), .val (.int (9 : Int32)), .val (.int (4 : Int32)), .val (.int c4)] [])) (fun _ k => XS.iinc X28.here hx rfl (hb hby d5_32) rfl (l' := #[.val (.ref a1), .val (.int (5 : Int32)), .val (.ref a3), .val (.int (4 : Int32)), .val (.int (9 : Int32)), .val (.int (4 : Int32)), .val (.int c4)]) rfl k) ?_
  refine Go.step (T' := T28) (f' := (mkF m 38 #[.val (.ref a1), .val (.int (5 : Int32)), .val (.ref a3), .val (.int (5 : Int32)), .val (.int (9 : Int32)), .val (.int (4 : Int32)), .val (.int c4)] [])) (fun _ k => XS.iinc X28.here hx rfl (hb hby d5_35) rfl (l' := #[.val (.ref a1), .val (.int (5 : Int32)), .val (.ref a3), .val (.int (5 : Int32)), .val (.int (9 : Int32)), .val (.int (4 : Int32)), .val (.int c4)]) rfl k) ?_
  refine Go.step (T' := T28) (f' := (mkF m 41 #[.val (.ref a1), .val (.int (5 : Int32)), .val (.ref a3), .val (.int (5 : Int32)), .val (.int (9 : Int32)), .val (.int (5 : Int32)), .val (.int c4)] [])) (fun _ k => XS.iinc X28.here hx rfl (hb hby d5_38) rfl (l' := #[.val (.ref a1), .val (.int (5 : Int32)), .val (.ref a3), .val (.int (5 : Int32)), .val (.int (9 : Int32)), .val (.int (5 : Int32)), .val (.int c4)]) rfl k) ?_
  refine Go.step (T' := T28) (f' := (mkF m 3 #[.val (.ref a1), .val (.int (5 : Int32)), .val (.ref a3), .val (.int (5 : Int32)), .val (.int (9 : Int32)), .val (.int (5 : Int32)), .val (.int c4)] [])) (fun _ k => XS.goto X28.here hx rfl (pc0 := 41) (pc' := 3) rfl (hb hby d5_41) (by decide) (by decide) k) ?_
  refine Go.step (T' := T28) (f' := (mkF m 5 #[.val (.ref a1), .val (.int (5 : Int32)), .val (.ref a3), .val (.int (5 : Int32)), .val (.int (9 : Int32)), .val (.int (5 : Int32)), .val (.int c4)] [(.int (5 : Int32))])) (fun _ k => XS.iload X28.here hx rfl (hb hby d5_3) rfl k) ?_
  refine Go.step (T' := T28) (f' := (mkF m 7 #[.val (.ref a1), .val (.int (5 : Int32)), .val (.ref a3), .val (.int (5 : Int32)), .val (.int (9 : Int32)), .val (.int (5 : Int32)), .val (.int c4)] [(.int (9 : Int32)), (.int (5 : Int32))])) (fun _ k => XS.iload X28.here hx rfl (hb hby d5_5) rfl k) ?_
  refine Go.step (T' := T28) (f' := (mkF m 10 #[.val (.ref a1), .val (.int (5 : Int32)), .val (.ref a3), .val (.int (5 : Int32)), .val (.int (9 : Int32)), .val (.int (5 : Int32)), .val (.int c4)] [])) (fun _ k => XS.icmpNo X28.here hx rfl (hb hby d5_7) rfl (tlt (by decide : (5 : Int32) < (9 : Int32))).2.1 k) ?_
  refine Go.step (T' := T28) (f' := (mkF m 11 #[.val (.ref a1), .val (.int (5 : Int32)), .val (.ref a3), .val (.int (5 : Int32)), .val (.int (9 : Int32)), .val (.int (5 : Int32)), .val (.int c4)] [(.ref a1)])) (fun _ k => XS.aloadN X28.here hx rfl (hb hby d5_10) rfl rfl k) ?_
  refine Go.step (T' := T28) (f' := (mkF m 12 #[.val (.ref a1), .val (.int (5 : Int32)), .val (.ref a3), .val (.int (5 : Int32)), .val (.int (9 : Int32)), .val (.int (5 : Int32)), .val (.int c4)] [(.int (5 : Int32)), (.ref a1)])) (fun _ k => XS.iloadN X28.here hx rfl (hb hby d5_11) rfl k) ?_
  have q30 : Arv Z h28 a1 kc .char (9 : Int32) [(.int c0), (.int c1), (.int c2), (.int c3), (.int c4), (.int c5), (.int c6), (.int c7), (.int c8)] (.int (0 : Int32)) := (q24.other W28 hne)
  obtain ⟨cl31, Ar31, qc31, Sz31, Nn31, Hs31, Gf31⟩ := id q30
  have hin32 : ¬ ((5 : Int32) < 0 ∨ cl31.slots.size ≤ ((5 : Int32)).toNatClampNeg) := (inb_of Sz31 ⟨by decide, by decide⟩)
  have hat32 : cl31.slots[((5 : Int32)).toNatClampNeg]? = some (.int c5) := Has.at Hs31 hin32 rfl
  refine Go.step (T' := T28) (f' := (mkF m 13 #[.val (.ref a1), .val (.int (5 : Int32)), .val (.ref a3), .val (.int (5 : Int32)), .val (.int (9 : Int32)), .val (.int (5 : Int32)), .val (.int c4)] [(.int c5)])) (fun _ k => X28.caload hx (j := (5 : Int32)) (v := (.int c5)) (by rw [e28]; exact Ar31.1) (State.isArrayOf_alike hZ.alike Ar31.2.1) Ar31.2.2 hin32 hat32 (g := (mkF m 12 #[.val (.ref a1), .val (.int (5 : Int32)), .val (.ref a3), .val (.int (5 : Int32)), .val (.int (9 : Int32)), .val (.int (5 : Int32)), .val (.int c4)] [(.int (5 : Int32)), (.ref a1)])) rfl rfl (hb hby d5_12) _ k) ?_
  refine Go.step (T' := T28) (f' := (mkF m 15 #[.val (.ref a1), .val (.int (5 : Int32)), .val (.ref a3), .val (.int (5 : Int32)), .val (.int (9 : Int32)), .val (.int (5 : Int32)), .val (.int c5)] [])) (fun _ k => XS.istore X28.here hx rfl (hb hby d5_13) rfl (l' := #[.val (.ref a1), .val (.int (5 : Int32)), .val (.ref a3), .val (.int (5 : Int32)), .val (.int (9 : Int32)), .val (.int (5 : Int32)), .val (.int c5)]) rfl k) ?_
  refine Go.step (T' := T28) (f' := (mkF m 17 #[.val (.ref a1), .val (.int (5 : Int32)), .val (.ref a3), .val (.int (5 : Int32)), .val (.int (9 : Int32)), .val (.int (5 : Int32)), .val (.int c5)] [(.int c5)])) (fun _ k => XS.iload X28.here hx rfl (hb hby d5_15) rfl k) ?_
  refine Go.step (T' := T28) (f' := (mkF m 20 #[.val (.ref a1), .val (.int (5 : Int32)), .val (.ref a3), .val (.int (5 : Int32)), .val (.int (9 : Int32)), .val (.int (5 : Int32)), .val (.int c5)] [(.int (255 : Int32)), (.int c5)])) (fun _ k => XS.sipush X28.here hx rfl (hb hby d5_17) k) ?_
  refine Go.step (T' := T28) (f' := (mkF m 26 #[.val (.ref a1), .val (.int (5 : Int32)), .val (.ref a3), .val (.int (5 : Int32)), .val (.int (9 : Int32)), .val (.int (5 : Int32)), .val (.int c5)] [])) (fun _ k => XS.icmpYes X28.here hx rfl (pc0 := 20) (pc' := 26) rfl (hb hby d5_20) rfl (flt hl5).2.2.2 (by decide) (by decide) k) ?_
  refine Go.step (T' := T28) (f' := (mkF m 27 #[.val (.ref a1), .val (.int (5 : Int32)), .val (.ref a3), .val (.int (5 : Int32)), .val (.int (9 : Int32)), .val (.int (5 : Int32)), .val (.int c5)] [(.ref a3)])) (fun _ k => XS.aloadN X28.here hx rfl (hb hby d5_26) rfl rfl k) ?_
  refine Go.step (T' := T28) (f' := (mkF m 28 #[.val (.ref a1), .val (.int (5 : Int32)), .val (.ref a3), .val (.int (5 : Int32)), .val (.int (9 : Int32)), .val (.int (5 : Int32)), .val (.int c5)] [(.int (5 : Int32)), (.ref a3)])) (fun _ k => XS.iloadN X28.here hx rfl (hb hby d5_27) rfl k) ?_
  refine Go.step (T' := T28) (f' := (mkF m 30 #[.val (.ref a1), .val (.int (5 : Int32)), .val (.ref a3), .val (.int (5 : Int32)), .val (.int (9 : Int32)), .val (.int (5 : Int32)), .val (.int c5)] [(.int c5), (.int (5 : Int32)), (.ref a3)])) (fun _ k => XS.iload X28.here hx rfl (hb hby d5_28) rfl k) ?_
  refine Go.step (T' := T28) (f' := (mkF m 31 #[.val (.ref a1), .val (.int (5 : Int32)), .val (.ref a3), .val (.int (5 : Int32)), .val (.int (9 : Int32)), .val (.int (5 : Int32)), .val (.int c5)] [(.int (c5.toInt8.toInt32)), (.int (5 : Int32)), (.ref a3)])) (fun _ k => XS.i2b X28.here hx rfl (hb hby d5_30) rfl k) ?_
  obtain ⟨cl33, Ar33, qc33, Sz33, Nn33, Hs33, Gf33⟩ := id Va28
  have hin34 : ¬ ((5 : Int32) < 0 ∨ cl33.slots.size ≤ ((5 : Int32)).toNatClampNeg) := (inb_of Sz33 ⟨by decide, by decide⟩)
  obtain ⟨T34, h34, X34, e34, W34, st34⟩ := stB X28 hx hZ e28 Ar33 (j := (5 : Int32)) hin34 (g := (mkF m 31 #[.val (.ref a1), .val (.int (5 : Int32)), .val (.ref a3), .val (.int (5 : Int32)), .val (.int (9 : Int32)), .val (.int (5 : Int32)), .val (.int c5)] [(.int (c5.toInt8.toInt32)), (.int (5 : Int32)), (.ref a3)])) rfl rfl (hb hby d5_31)
  have N34 := Fr.snoc X34 N28 g_a3
  have Z35 : n0 ≤ h34.size := Nat.le_trans Z29 (Keep.of_wr W34).1
  have K35 : Keep h0 h34 [a3] := K29.wr W34 (Or.inl (List.mem_of_getElem? (i := 0) rfl))
  rw [own_nb] at W34
  have Va34 : Arv Z h34 a3 kb .byte (9 : Int32) [(.int (c0.toInt8.toInt32)), (.int (c1.toInt8.toInt32)), (.int (c2.toInt8.toInt32)), (.int (c3.toInt8.toInt32)), (.int (c4.toInt8.toInt32)), (.int (c5.toInt8.toInt32)), (.int (0 : Int32)), (.int (0 : Int32)), (.int (0 : Int32))] (.int (0 : Int32)) := Arv.set Ar33 qc33 Sz33 Nn33 Hs33 Gf33 (fits_nar_byte _) W34 5 rfl (Nat.le_of_ble_eq_true rfl)
  refine Go.step (T' := T34) (f' := (mkF m 32 #[.val (.ref a1), .val (.int (5 : Int32)), .val (.ref a3), .val (.int (5 : Int32)), .val (.int (9 : Int32)), .val (.int (5 : Int32)), .val (.int c5)] [])) st34 ?_
  refine Go.step (T' := T34) (f' := (mkF m 35 #[.val (.ref a1), .val (.int (6 : Int32)), .val (.ref a3), .val (.int (5 : Int32)), .val (.int (9 : Int32)), .val (.int (5 : Int32)), .val (.int c5)] [])) (fun _ k => XS.iinc X34.here hx rfl (hb hby d5_32) rfl (l' := #[.val (.ref a1), .val (.int (6 : Int32)), .val (.ref a3), .val (.int (5 : Int32)), .val (.int (9 : Int32)), .val (.int (5 : Int32)), .val (.int c5)]) rfl k) ?_
  refine Go.step (T' := T34) (f' := (mkF m 38 #[.val (.ref a1), .val (.int (6 : Int32)), .val (.ref a3), .val (.int (6 : Int32)), .val (.int (9 : Int32)), .val (.int (5 : Int32)), .val (.int c5)] [])) (fun _ k => XS.iinc X34.here hx rfl (hb hby d5_35) rfl (l' := #[.val (.ref a1), .val (.int (6 : Int32)), .val (.ref a3), .val (.int (6 : Int32)), .val (.int (9 : Int32)), .val (.int (5 : Int32)), .val (.int c5)]) rfl k) ?_
  refine Go.step (T' := T34) (f' := (mkF m 41 #[.val (.ref a1), .val (.int (6 : Int32)), .val (.ref a3), .val (.int (6 : Int32)), .val (.int (9 : Int32)), .val (.int (6 : Int32)), .val (.int c5)] [])) (fun _ k => XS.iinc X34.here hx rfl (hb hby d5_38) rfl (l' := #[.val (.ref a1), .val (.int (6 : Int32)), .val (.ref a3), .val (.int (6 : Int32)), .val (.int (9 : Int32)), .val (.int (6 : Int32)), .val (.int c5)]) rfl k) ?_
  refine Go.step (T' := T34) (f' := (mkF m 3 #[.val (.ref a1), .val (.int (6 : Int32)), .val (.ref a3), .val (.int (6 : Int32)), .val (.int (9 : Int32)), .val (.int (6 : Int32)), .val (.int c5)] [])) (fun _ k => XS.goto X34.here hx rfl (pc0 := 41) (pc' := 3) rfl (hb hby d5_41) (by decide) (by decide) k) ?_
  refine Go.step (T' := T34) (f' := (mkF m 5 #[.val (.ref a1), .val (.int (6 : Int32)), .val (.ref a3), .val (.int (6 : Int32)), .val (.int (9 : Int32)), .val (.int (6 : Int32)), .val (.int c5)] [(.int (6 : Int32))])) (fun _ k => XS.iload X34.here hx rfl (hb hby d5_3) rfl k) ?_
  refine Go.step (T' := T34) (f' := (mkF m 7 #[.val (.ref a1), .val (.int (6 : Int32)), .val (.ref a3), .val (.int (6 : Int32)), .val (.int (9 : Int32)), .val (.int (6 : Int32)), .val (.int c5)] [(.int (9 : Int32)), (.int (6 : Int32))])) (fun _ k => XS.iload X34.here hx rfl (hb hby d5_5) rfl k) ?_
  refine Go.step (T' := T34) (f' := (mkF m 10 #[.val (.ref a1), .val (.int (6 : Int32)), .val (.ref a3), .val (.int (6 : Int32)), .val (.int (9 : Int32)), .val (.int (6 : Int32)), .val (.int c5)] [])) (fun _ k => XS.icmpNo X34.here hx rfl (hb hby d5_7) rfl (tlt (by decide : (6 : Int32) < (9 : Int32))).2.1 k) ?_
  refine Go.step (T' := T34) (f' := (mkF m 11 #[.val (.ref a1), .val (.int (6 : Int32)), .val (.ref a3), .val (.int (6 : Int32)), .val (.int (9 : Int32)), .val (.int (6 : Int32)), .val (.int c5)] [(.ref a1)])) (fun _ k => XS.aloadN X34.here hx rfl (hb hby d5_10) rfl rfl k) ?_
  refine Go.step (T' := T34) (f' := (mkF m 12 #[.val (.ref a1), .val (.int (6 : Int32)), .val (.ref a3), .val (.int (6 : Int32)), .val (.int (9 : Int32)), .val (.int (6 : Int32)), .val (.int c5)] [(.int (6 : Int32)), (.ref a1)])) (fun _ k => XS.iloadN X34.here hx rfl (hb hby d5_11) rfl k) ?_
  have q36 : Arv Z h34 a1 kc .char (9 : Int32) [(.int c0), (.int c1), (.int c2), (.int c3), (.int c4), (.int c5), (.int c6), (.int c7), (.int c8)] (.int (0 : Int32)) := (q30.other W34 hne)
  obtain ⟨cl37, Ar37, qc37, Sz37, Nn37, Hs37, Gf37⟩ := id q36
  have hin38 : ¬ ((6 : Int32) < 0 ∨ cl37.slots.size ≤ ((6 : Int32)).toNatClampNeg) := (inb_of Sz37 ⟨by decide, by decide⟩)
  have hat38 : cl37.slots[((6 : Int32)).toNatClampNeg]? = some (.int c6) := Has.at Hs37 hin38 rfl
  refine Go.step (T' := T34) (f' := (mkF m 13 #[.val (.ref a1), .val (.int (6 : Int32)), .val (.ref a3), .val (.int (6 : Int32)), .val (.int (9 : Int32)), .val (.int (6 : Int32)), .val (.int c5)] [(.int c6)])) (fun _ k => X34.caload hx (j := (6 : Int32)) (v := (.int c6)) (by rw [e34]; exact Ar37.1) (State.isArrayOf_alike hZ.alike Ar37.2.1) Ar37.2.2 hin38 hat38 (g := (mkF m 12 #[.val (.ref a1), .val (.int (6 : Int32)), .val (.ref a3), .val (.int (6 : Int32)), .val (.int (9 : Int32)), .val (.int (6 : Int32)), .val (.int c5)] [(.int (6 : Int32)), (.ref a1)])) rfl rfl (hb hby d5_12) _ k) ?_
  refine Go.step (T' := T34) (f' := (mkF m 15 #[.val (.ref a1), .val (.int (6 : Int32)), .val (.ref a3), .val (.int (6 : Int32)), .val (.int (9 : Int32)), .val (.int (6 : Int32)), .val (.int c6)] [])) (fun _ k => XS.istore X34.here hx rfl (hb hby d5_13) rfl (l' := #[.val (.ref a1), .val (.int (6 : Int32)), .val (.ref a3), .val (.int (6 : Int32)), .val (.int (9 : Int32)), .val (.int (6 : Int32)), .val (.int c6)]) rfl k) ?_
  refine Go.step (T' := T34) (f' := (mkF m 17 #[.val (.ref a1), .val (.int (6 : Int32)), .val (.ref a3), .val (.int (6 : Int32)), .val (.int (9 : Int32)), .val (.int (6 : Int32)), .val (.int c6)] [(.int c6)])) (fun _ k => XS.iload X34.here hx rfl (hb hby d5_15) rfl k) ?_
  refine Go.step (T' := T34) (f' := (mkF m 20 #[.val (.ref a1), .val (.int (6 : Int32)), .val (.ref a3), .val (.int (6 : Int32)), .val (.int (9 : Int32)), .val (.int (6 : Int32)), .val (.int c6)] [(.int (255 : Int32)), (.int c6)])) (fun _ k => XS.sipush X34.here hx rfl (hb hby d5_17) k) ?_
  refine Go.step (T' := T34) (f' := (mkF m 26 #[.val (.ref a1), .val (.int (6 : Int32)), .val (.ref a3), .val (.int (6 : Int32)), .val (.int (9 : Int32)), .val (.int (6 : Int32)), .val (.int c6)] [])) (fun _ k => XS.icmpYes X34.here hx rfl (pc0 := 20) (pc' := 26) rfl (hb hby d5_20) rfl (flt hl6).2.2.2 (by decide) (by decide) k) ?_
  refine Go.step (T' := T34) (f' := (mkF m 27 #[.val (.ref a1), .val (.int (6 : Int32)), .val (.ref a3), .val (.int (6 : Int32)), .val (.int (9 : Int32)), .val (.int (6 : Int32)), .val (.int c6)] [(.ref a3)])) (fun _ k => XS.aloadN X34.here hx rfl (hb hby d5_26) rfl rfl k) ?_
  refine Go.step (T' := T34) (f' := (mkF m 28 #[.val (.ref a1), .val (.int (6 : Int32)), .val (.ref a3), .val (.int (6 : Int32)), .val (.int (9 : Int32)), .val (.int (6 : Int32)), .val (.int c6)] [(.int (6 : Int32)), (.ref a3)])) (fun _ k => XS.iloadN X34.here hx rfl (hb hby d5_27) rfl k) ?_
  refine Go.step (T' := T34) (f' := (mkF m 30 #[.val (.ref a1), .val (.int (6 : Int32)), .val (.ref a3), .val (.int (6 : Int32)), .val (.int (9 : Int32)), .val (.int (6 : Int32)), .val (.int c6)] [(.int c6), (.int (6 : Int32)), (.ref a3)])) (fun _ k => XS.iload X34.here hx rfl (hb hby d5_28) rfl k) ?_
  refine Go.step (T' := T34) (f' := (mkF m 31 #[.val (.ref a1), .val (.int (6 : Int32)), .val (.ref a3), .val (.int (6 : Int32)), .val (.int (9 : Int32)), .val (.int (6 : Int32)), .val (.int c6)] [(.int (c6.toInt8.toInt32)), (.int (6 : Int32)), (.ref a3)])) (fun _ k => XS.i2b X34.here hx rfl (hb hby d5_30) rfl k) ?_
  obtain ⟨cl39, Ar39, qc39, Sz39, Nn39, Hs39, Gf39⟩ := id Va34
  have hin40 : ¬ ((6 : Int32) < 0 ∨ cl39.slots.size ≤ ((6 : Int32)).toNatClampNeg) := (inb_of Sz39 ⟨by decide, by decide⟩)
  obtain ⟨T40, h40, X40, e40, W40, st40⟩ := stB X34 hx hZ e34 Ar39 (j := (6 : Int32)) hin40 (g := (mkF m 31 #[.val (.ref a1), .val (.int (6 : Int32)), .val (.ref a3), .val (.int (6 : Int32)), .val (.int (9 : Int32)), .val (.int (6 : Int32)), .val (.int c6)] [(.int (c6.toInt8.toInt32)), (.int (6 : Int32)), (.ref a3)])) rfl rfl (hb hby d5_31)
  have N40 := Fr.snoc X40 N34 g_a3
  have Z41 : n0 ≤ h40.size := Nat.le_trans Z35 (Keep.of_wr W40).1
  have K41 : Keep h0 h40 [a3] := K35.wr W40 (Or.inl (List.mem_of_getElem? (i := 0) rfl))
  rw [own_nb] at W40
  have Va40 : Arv Z h40 a3 kb .byte (9 : Int32) [(.int (c0.toInt8.toInt32)), (.int (c1.toInt8.toInt32)), (.int (c2.toInt8.toInt32)), (.int (c3.toInt8.toInt32)), (.int (c4.toInt8.toInt32)), (.int (c5.toInt8.toInt32)), (.int (c6.toInt8.toInt32)), (.int (0 : Int32)), (.int (0 : Int32))] (.int (0 : Int32)) := Arv.set Ar39 qc39 Sz39 Nn39 Hs39 Gf39 (fits_nar_byte _) W40 6 rfl (Nat.le_of_ble_eq_true rfl)
  refine Go.step (T' := T40) (f' := (mkF m 32 #[.val (.ref a1), .val (.int (6 : Int32)), .val (.ref a3), .val (.int (6 : Int32)), .val (.int (9 : Int32)), .val (.int (6 : Int32)), .val (.int c6)] [])) st40 ?_
  refine Go.step (T' := T40) (f' := (mkF m 35 #[.val (.ref a1), .val (.int (7 : Int32)), .val (.ref a3), .val (.int (6 : Int32)), .val (.int (9 : Int32)), .val (.int (6 : Int32)), .val (.int c6)] [])) (fun _ k => XS.iinc X40.here hx rfl (hb hby d5_32) rfl (l' := #[.val (.ref a1), .val (.int (7 : Int32)), .val (.ref a3), .val (.int (6 : Int32)), .val (.int (9 : Int32)), .val (.int (6 : Int32)), .val (.int c6)]) rfl k) ?_
  refine Go.step (T' := T40) (f' := (mkF m 38 #[.val (.ref a1), .val (.int (7 : Int32)), .val (.ref a3), .val (.int (7 : Int32)), .val (.int (9 : Int32)), .val (.int (6 : Int32)), .val (.int c6)] [])) (fun _ k => XS.iinc X40.here hx rfl (hb hby d5_35) rfl (l' := #[.val (.ref a1), .val (.int (7 : Int32)), .val (.ref a3), .val (.int (7 : Int32)), .val (.int (9 : Int32)), .val (.int (6 : Int32)), .val (.int c6)]) rfl k) ?_
  refine Go.step (T' := T40) (f' := (mkF m 41 #[.val (.ref a1), .val (.int (7 : Int32)), .val (.ref a3), .val (.int (7 : Int32)), .val (.int (9 : Int32)), .val (.int (7 : Int32)), .val (.int c6)] [])) (fun _ k => XS.iinc X40.here hx rfl (hb hby d5_38) rfl (l' := #[.val (.ref a1), .val (.int (7 : Int32)), .val (.ref a3), .val (.int (7 : Int32)), .val (.int (9 : Int32)), .val (.int (7 : Int32)), .val (.int c6)]) rfl k) ?_
  refine Go.step (T' := T40) (f' := (mkF m 3 #[.val (.ref a1), .val (.int (7 : Int32)), .val (.ref a3), .val (.int (7 : Int32)), .val (.int (9 : Int32)), .val (.int (7 : Int32)), .val (.int c6)] [])) (fun _ k => XS.goto X40.here hx rfl (pc0 := 41) (pc' := 3) rfl (hb hby d5_41) (by decide) (by decide) k) ?_
  refine Go.step (T' := T40) (f' := (mkF m 5 #[.val (.ref a1), .val (.int (7 : Int32)), .val (.ref a3), .val (.int (7 : Int32)), .val (.int (9 : Int32)), .val (.int (7 : Int32)), .val (.int c6)] [(.int (7 : Int32))])) (fun _ k => XS.iload X40.here hx rfl (hb hby d5_3) rfl k) ?_
  refine Go.step (T' := T40) (f' := (mkF m 7 #[.val (.ref a1), .val (.int (7 : Int32)), .val (.ref a3), .val (.int (7 : Int32)), .val (.int (9 : Int32)), .val (.int (7 : Int32)), .val (.int c6)] [(.int (9 : Int32)), (.int (7 : Int32))])) (fun _ k => XS.iload X40.here hx rfl (hb hby d5_5) rfl k) ?_
  refine Go.step (T' := T40) (f' := (mkF m 10 #[.val (.ref a1), .val (.int (7 : Int32)), .val (.ref a3), .val (.int (7 : Int32)), .val (.int (9 : Int32)), .val (.int (7 : Int32)), .val (.int c6)] [])) (fun _ k => XS.icmpNo X40.here hx rfl (hb hby d5_7) rfl (tlt (by decide : (7 : Int32) < (9 : Int32))).2.1 k) ?_
  refine Go.step (T' := T40) (f' := (mkF m 11 #[.val (.ref a1), .val (.int (7 : Int32)), .val (.ref a3), .val (.int (7 : Int32)), .val (.int (9 : Int32)), .val (.int (7 : Int32)), .val (.int c6)] [(.ref a1)])) (fun _ k => XS.aloadN X40.here hx rfl (hb hby d5_10) rfl rfl k) ?_
  refine Go.step (T' := T40) (f' := (mkF m 12 #[.val (.ref a1), .val (.int (7 : Int32)), .val (.ref a3), .val (.int (7 : Int32)), .val (.int (9 : Int32)), .val (.int (7 : Int32)), .val (.int c6)] [(.int (7 : Int32)), (.ref a1)])) (fun _ k => XS.iloadN X40.here hx rfl (hb hby d5_11) rfl k) ?_
  have q42 : Arv Z h40 a1 kc .char (9 : Int32) [(.int c0), (.int c1), (.int c2), (.int c3), (.int c4), (.int c5), (.int c6), (.int c7), (.int c8)] (.int (0 : Int32)) := (q36.other W40 hne)
  obtain ⟨cl43, Ar43, qc43, Sz43, Nn43, Hs43, Gf43⟩ := id q42
  have hin44 : ¬ ((7 : Int32) < 0 ∨ cl43.slots.size ≤ ((7 : Int32)).toNatClampNeg) := (inb_of Sz43 ⟨by decide, by decide⟩)
  have hat44 : cl43.slots[((7 : Int32)).toNatClampNeg]? = some (.int c7) := Has.at Hs43 hin44 rfl
  refine Go.step (T' := T40) (f' := (mkF m 13 #[.val (.ref a1), .val (.int (7 : Int32)), .val (.ref a3), .val (.int (7 : Int32)), .val (.int (9 : Int32)), .val (.int (7 : Int32)), .val (.int c6)] [(.int c7)])) (fun _ k => X40.caload hx (j := (7 : Int32)) (v := (.int c7)) (by rw [e40]; exact Ar43.1) (State.isArrayOf_alike hZ.alike Ar43.2.1) Ar43.2.2 hin44 hat44 (g := (mkF m 12 #[.val (.ref a1), .val (.int (7 : Int32)), .val (.ref a3), .val (.int (7 : Int32)), .val (.int (9 : Int32)), .val (.int (7 : Int32)), .val (.int c6)] [(.int (7 : Int32)), (.ref a1)])) rfl rfl (hb hby d5_12) _ k) ?_
  refine Go.step (T' := T40) (f' := (mkF m 15 #[.val (.ref a1), .val (.int (7 : Int32)), .val (.ref a3), .val (.int (7 : Int32)), .val (.int (9 : Int32)), .val (.int (7 : Int32)), .val (.int c7)] [])) (fun _ k => XS.istore X40.here hx rfl (hb hby d5_13) rfl (l' := #[.val (.ref a1), .val (.int (7 : Int32)), .val (.ref a3), .val (.int (7 : Int32)), .val (.int (9 : Int32)), .val (.int (7 : Int32)), .val (.int c7)]) rfl k) ?_
  refine Go.step (T' := T40) (f' := (mkF m 17 #[.val (.ref a1), .val (.int (7 : Int32)), .val (.ref a3), .val (.int (7 : Int32)), .val (.int (9 : Int32)), .val (.int (7 : Int32)), .val (.int c7)] [(.int c7)])) (fun _ k => XS.iload X40.here hx rfl (hb hby d5_15) rfl k) ?_
  refine Go.step (T' := T40) (f' := (mkF m 20 #[.val (.ref a1), .val (.int (7 : Int32)), .val (.ref a3), .val (.int (7 : Int32)), .val (.int (9 : Int32)), .val (.int (7 : Int32)), .val (.int c7)] [(.int (255 : Int32)), (.int c7)])) (fun _ k => XS.sipush X40.here hx rfl (hb hby d5_17) k) ?_
  refine Go.step (T' := T40) (f' := (mkF m 26 #[.val (.ref a1), .val (.int (7 : Int32)), .val (.ref a3), .val (.int (7 : Int32)), .val (.int (9 : Int32)), .val (.int (7 : Int32)), .val (.int c7)] [])) (fun _ k => XS.icmpYes X40.here hx rfl (pc0 := 20) (pc' := 26) rfl (hb hby d5_20) rfl (flt hl7).2.2.2 (by decide) (by decide) k) ?_
  refine Go.step (T' := T40) (f' := (mkF m 27 #[.val (.ref a1), .val (.int (7 : Int32)), .val (.ref a3), .val (.int (7 : Int32)), .val (.int (9 : Int32)), .val (.int (7 : Int32)), .val (.int c7)] [(.ref a3)])) (fun _ k => XS.aloadN X40.here hx rfl (hb hby d5_26) rfl rfl k) ?_
  refine Go.step (T' := T40) (f' := (mkF m 28 #[.val (.ref a1), .val (.int (7 : Int32)), .val (.ref a3), .val (.int (7 : Int32)), .val (.int (9 : Int32)), .val (.int (7 : Int32)), .val (.int c7)] [(.int (7 : Int32)), (.ref a3)])) (fun _ k => XS.iloadN X40.here hx rfl (hb hby d5_27) rfl k) ?_
  refine Go.step (T' := T40) (f' := (mkF m 30 #[.val (.ref a1), .val (.int (7 : Int32)), .val (.ref a3), .val (.int (7 : Int32)), .val (.int (9 : Int32)), .val (.int (7 : Int32)), .val (.int c7)] [(.int c7), (.int (7 : Int32)), (.ref a3)])) (fun _ k => XS.iload X40.here hx rfl (hb hby d5_28) rfl k) ?_
  refine Go.step (T' := T40) (f' := (mkF m 31 #[.val (.ref a1), .val (.int (7 : Int32)), .val (.ref a3), .val (.int (7 : Int32)), .val (.int (9 : Int32)), .val (.int (7 : Int32)), .val (.int c7)] [(.int (c7.toInt8.toInt32)), (.int (7 : Int32)), (.ref a3)])) (fun _ k => XS.i2b X40.here hx rfl (hb hby d5_30) rfl k) ?_
  obtain ⟨cl45, Ar45, qc45, Sz45, Nn45, Hs45, Gf45⟩ := id Va40
  have hin46 : ¬ ((7 : Int32) < 0 ∨ cl45.slots.size ≤ ((7 : Int32)).toNatClampNeg) := (inb_of Sz45 ⟨by decide, by decide⟩)
  obtain ⟨T46, h46, X46, e46, W46, st46⟩ := stB X40 hx hZ e40 Ar45 (j := (7 : Int32)) hin46 (g := (mkF m 31 #[.val (.ref a1), .val (.int (7 : Int32)), .val (.ref a3), .val (.int (7 : Int32)), .val (.int (9 : Int32)), .val (.int (7 : Int32)), .val (.int c7)] [(.int (c7.toInt8.toInt32)), (.int (7 : Int32)), (.ref a3)])) rfl rfl (hb hby d5_31)
  have N46 := Fr.snoc X46 N40 g_a3
  have Z47 : n0 ≤ h46.size := Nat.le_trans Z41 (Keep.of_wr W46).1
  have K47 : Keep h0 h46 [a3] := K41.wr W46 (Or.inl (List.mem_of_getElem? (i := 0) rfl))
  rw [own_nb] at W46
  have Va46 : Arv Z h46 a3 kb .byte (9 : Int32) [(.int (c0.toInt8.toInt32)), (.int (c1.toInt8.toInt32)), (.int (c2.toInt8.toInt32)), (.int (c3.toInt8.toInt32)), (.int (c4.toInt8.toInt32)), (.int (c5.toInt8.toInt32)), (.int (c6.toInt8.toInt32)), (.int (c7.toInt8.toInt32)), (.int (0 : Int32))] (.int (0 : Int32)) := Arv.set Ar45 qc45 Sz45 Nn45 Hs45 Gf45 (fits_nar_byte _) W46 7 rfl (Nat.le_of_ble_eq_true rfl)
  refine Go.step (T' := T46) (f' := (mkF m 32 #[.val (.ref a1), .val (.int (7 : Int32)), .val (.ref a3), .val (.int (7 : Int32)), .val (.int (9 : Int32)), .val (.int (7 : Int32)), .val (.int c7)] [])) st46 ?_
  refine Go.step (T' := T46) (f' := (mkF m 35 #[.val (.ref a1), .val (.int (8 : Int32)), .val (.ref a3), .val (.int (7 : Int32)), .val (.int (9 : Int32)), .val (.int (7 : Int32)), .val (.int c7)] [])) (fun _ k => XS.iinc X46.here hx rfl (hb hby d5_32) rfl (l' := #[.val (.ref a1), .val (.int (8 : Int32)), .val (.ref a3), .val (.int (7 : Int32)), .val (.int (9 : Int32)), .val (.int (7 : Int32)), .val (.int c7)]) rfl k) ?_
  refine Go.step (T' := T46) (f' := (mkF m 38 #[.val (.ref a1), .val (.int (8 : Int32)), .val (.ref a3), .val (.int (8 : Int32)), .val (.int (9 : Int32)), .val (.int (7 : Int32)), .val (.int c7)] [])) (fun _ k => XS.iinc X46.here hx rfl (hb hby d5_35) rfl (l' := #[.val (.ref a1), .val (.int (8 : Int32)), .val (.ref a3), .val (.int (8 : Int32)), .val (.int (9 : Int32)), .val (.int (7 : Int32)), .val (.int c7)]) rfl k) ?_
  refine Go.step (T' := T46) (f' := (mkF m 41 #[.val (.ref a1), .val (.int (8 : Int32)), .val (.ref a3), .val (.int (8 : Int32)), .val (.int (9 : Int32)), .val (.int (8 : Int32)), .val (.int c7)] [])) (fun _ k => XS.iinc X46.here hx rfl (hb hby d5_38) rfl (l' := #[.val (.ref a1), .val (.int (8 : Int32)), .val (.ref a3), .val (.int (8 : Int32)), .val (.int (9 : Int32)), .val (.int (8 : Int32)), .val (.int c7)]) rfl k) ?_
  refine Go.step (T' := T46) (f' := (mkF m 3 #[.val (.ref a1), .val (.int (8 : Int32)), .val (.ref a3), .val (.int (8 : Int32)), .val (.int (9 : Int32)), .val (.int (8 : Int32)), .val (.int c7)] [])) (fun _ k => XS.goto X46.here hx rfl (pc0 := 41) (pc' := 3) rfl (hb hby d5_41) (by decide) (by decide) k) ?_
  refine Go.step (T' := T46) (f' := (mkF m 5 #[.val (.ref a1), .val (.int (8 : Int32)), .val (.ref a3), .val (.int (8 : Int32)), .val (.int (9 : Int32)), .val (.int (8 : Int32)), .val (.int c7)] [(.int (8 : Int32))])) (fun _ k => XS.iload X46.here hx rfl (hb hby d5_3) rfl k) ?_
  refine Go.step (T' := T46) (f' := (mkF m 7 #[.val (.ref a1), .val (.int (8 : Int32)), .val (.ref a3), .val (.int (8 : Int32)), .val (.int (9 : Int32)), .val (.int (8 : Int32)), .val (.int c7)] [(.int (9 : Int32)), (.int (8 : Int32))])) (fun _ k => XS.iload X46.here hx rfl (hb hby d5_5) rfl k) ?_
  refine Go.step (T' := T46) (f' := (mkF m 10 #[.val (.ref a1), .val (.int (8 : Int32)), .val (.ref a3), .val (.int (8 : Int32)), .val (.int (9 : Int32)), .val (.int (8 : Int32)), .val (.int c7)] [])) (fun _ k => XS.icmpNo X46.here hx rfl (hb hby d5_7) rfl (tlt (by decide : (8 : Int32) < (9 : Int32))).2.1 k) ?_
  refine Go.step (T' := T46) (f' := (mkF m 11 #[.val (.ref a1), .val (.int (8 : Int32)), .val (.ref a3), .val (.int (8 : Int32)), .val (.int (9 : Int32)), .val (.int (8 : Int32)), .val (.int c7)] [(.ref a1)])) (fun _ k => XS.aloadN X46.here hx rfl (hb hby d5_10) rfl rfl k) ?_
  refine Go.step (T' := T46) (f' := (mkF m 12 #[.val (.ref a1), .val (.int (8 : Int32)), .val (.ref a3), .val (.int (8 : Int32)), .val (.int (9 : Int32)), .val (.int (8 : Int32)), .val (.int c7)] [(.int (8 : Int32)), (.ref a1)])) (fun _ k => XS.iloadN X46.here hx rfl (hb hby d5_11) rfl k) ?_
  have q48 : Arv Z h46 a1 kc .char (9 : Int32) [(.int c0), (.int c1), (.int c2), (.int c3), (.int c4), (.int c5), (.int c6), (.int c7), (.int c8)] (.int (0 : Int32)) := (q42.other W46 hne)
  obtain ⟨cl49, Ar49, qc49, Sz49, Nn49, Hs49, Gf49⟩ := id q48
  have hin50 : ¬ ((8 : Int32) < 0 ∨ cl49.slots.size ≤ ((8 : Int32)).toNatClampNeg) := (inb_of Sz49 ⟨by decide, by decide⟩)
  have hat50 : cl49.slots[((8 : Int32)).toNatClampNeg]? = some (.int c8) := Has.at Hs49 hin50 rfl
  refine Go.step (T' := T46) (f' := (mkF m 13 #[.val (.ref a1), .val (.int (8 : Int32)), .val (.ref a3), .val (.int (8 : Int32)), .val (.int (9 : Int32)), .val (.int (8 : Int32)), .val (.int c7)] [(.int c8)])) (fun _ k => X46.caload hx (j := (8 : Int32)) (v := (.int c8)) (by rw [e46]; exact Ar49.1) (State.isArrayOf_alike hZ.alike Ar49.2.1) Ar49.2.2 hin50 hat50 (g := (mkF m 12 #[.val (.ref a1), .val (.int (8 : Int32)), .val (.ref a3), .val (.int (8 : Int32)), .val (.int (9 : Int32)), .val (.int (8 : Int32)), .val (.int c7)] [(.int (8 : Int32)), (.ref a1)])) rfl rfl (hb hby d5_12) _ k) ?_
  refine Go.step (T' := T46) (f' := (mkF m 15 #[.val (.ref a1), .val (.int (8 : Int32)), .val (.ref a3), .val (.int (8 : Int32)), .val (.int (9 : Int32)), .val (.int (8 : Int32)), .val (.int c8)] [])) (fun _ k => XS.istore X46.here hx rfl (hb hby d5_13) rfl (l' := #[.val (.ref a1), .val (.int (8 : Int32)), .val (.ref a3), .val (.int (8 : Int32)), .val (.int (9 : Int32)), .val (.int (8 : Int32)), .val (.int c8)]) rfl k) ?_
  refine Go.step (T' := T46) (f' := (mkF m 17 #[.val (.ref a1), .val (.int (8 : Int32)), .val (.ref a3), .val (.int (8 : Int32)), .val (.int (9 : Int32)), .val (.int (8 : Int32)), .val (.int c8)] [(.int c8)])) (fun _ k => XS.iload X46.here hx rfl (hb hby d5_15) rfl k) ?_
  refine Go.step (T' := T46) (f' := (mkF m 20 #[.val (.ref a1), .val (.int (8 : Int32)), .val (.ref a3), .val (.int (8 : Int32)), .val (.int (9 : Int32)), .val (.int (8 : Int32)), .val (.int c8)] [(.int (255 : Int32)), (.int c8)])) (fun _ k => XS.sipush X46.here hx rfl (hb hby d5_17) k) ?_
  refine Go.step (T' := T46) (f' := (mkF m 26 #[.val (.ref a1), .val (.int (8 : Int32)), .val (.ref a3), .val (.int (8 : Int32)), .val (.int (9 : Int32)), .val (.int (8 : Int32)), .val (.int c8)] [])) (fun _ k => XS.icmpYes X46.here hx rfl (pc0 := 20) (pc' := 26) rfl (hb hby d5_20) rfl (flt hl8).2.2.2 (by decide) (by decide) k) ?_
  refine Go.step (T' := T46) (f' := (mkF m 27 #[.val (.ref a1), .val (.int (8 : Int32)), .val (.ref a3), .val (.int (8 : Int32)), .val (.int (9 : Int32)), .val (.int (8 : Int32)), .val (.int c8)] [(.ref a3)])) (fun _ k => XS.aloadN X46.here hx rfl (hb hby d5_26) rfl rfl k) ?_
  refine Go.step (T' := T46) (f' := (mkF m 28 #[.val (.ref a1), .val (.int (8 : Int32)), .val (.ref a3), .val (.int (8 : Int32)), .val (.int (9 : Int32)), .val (.int (8 : Int32)), .val (.int c8)] [(.int (8 : Int32)), (.ref a3)])) (fun _ k => XS.iloadN X46.here hx rfl (hb hby d5_27) rfl k) ?_
  refine Go.step (T' := T46) (f' := (mkF m 30 #[.val (.ref a1), .val (.int (8 : Int32)), .val (.ref a3), .val (.int (8 : Int32)), .val (.int (9 : Int32)), .val (.int (8 : Int32)), .val (.int c8)] [(.int c8), (.int (8 : Int32)), (.ref a3)])) (fun _ k => XS.iload X46.here hx rfl (hb hby d5_28) rfl k) ?_
  refine Go.step (T' := T46) (f' := (mkF m 31 #[.val (.ref a1), .val (.int (8 : Int32)), .val (.ref a3), .val (.int (8 : Int32)), .val (.int (9 : Int32)), .val (.int (8 : Int32)), .val (.int c8)] [(.int (c8.toInt8.toInt32)), (.int (8 : Int32)), (.ref a3)])) (fun _ k => XS.i2b X46.here hx rfl (hb hby d5_30) rfl k) ?_
  obtain ⟨cl51, Ar51, qc51, Sz51, Nn51, Hs51, Gf51⟩ := id Va46
  have hin52 : ¬ ((8 : Int32) < 0 ∨ cl51.slots.size ≤ ((8 : Int32)).toNatClampNeg) := (inb_of Sz51 ⟨by decide, by decide⟩)
  obtain ⟨T52, h52, X52, e52, W52, st52⟩ := stB X46 hx hZ e46 Ar51 (j := (8 : Int32)) hin52 (g := (mkF m 31 #[.val (.ref a1), .val (.int (8 : Int32)), .val (.ref a3), .val (.int (8 : Int32)), .val (.int (9 : Int32)), .val (.int (8 : Int32)), .val (.int c8)] [(.int (c8.toInt8.toInt32)), (.int (8 : Int32)), (.ref a3)])) rfl rfl (hb hby d5_31)
  have N52 := Fr.snoc X52 N46 g_a3
  have Z53 : n0 ≤ h52.size := Nat.le_trans Z47 (Keep.of_wr W52).1
  have K53 : Keep h0 h52 [a3] := K47.wr W52 (Or.inl (List.mem_of_getElem? (i := 0) rfl))
  rw [own_nb] at W52
  have Va52 : Arv Z h52 a3 kb .byte (9 : Int32) [(.int (c0.toInt8.toInt32)), (.int (c1.toInt8.toInt32)), (.int (c2.toInt8.toInt32)), (.int (c3.toInt8.toInt32)), (.int (c4.toInt8.toInt32)), (.int (c5.toInt8.toInt32)), (.int (c6.toInt8.toInt32)), (.int (c7.toInt8.toInt32)), (.int (c8.toInt8.toInt32))] (.int (0 : Int32)) := Arv.set Ar51 qc51 Sz51 Nn51 Hs51 Gf51 (fits_nar_byte _) W52 8 rfl (Nat.le_of_ble_eq_true rfl)
  refine Go.step (T' := T52) (f' := (mkF m 32 #[.val (.ref a1), .val (.int (8 : Int32)), .val (.ref a3), .val (.int (8 : Int32)), .val (.int (9 : Int32)), .val (.int (8 : Int32)), .val (.int c8)] [])) st52 ?_
  refine Go.step (T' := T52) (f' := (mkF m 35 #[.val (.ref a1), .val (.int (9 : Int32)), .val (.ref a3), .val (.int (8 : Int32)), .val (.int (9 : Int32)), .val (.int (8 : Int32)), .val (.int c8)] [])) (fun _ k => XS.iinc X52.here hx rfl (hb hby d5_32) rfl (l' := #[.val (.ref a1), .val (.int (9 : Int32)), .val (.ref a3), .val (.int (8 : Int32)), .val (.int (9 : Int32)), .val (.int (8 : Int32)), .val (.int c8)]) rfl k) ?_
  refine Go.step (T' := T52) (f' := (mkF m 38 #[.val (.ref a1), .val (.int (9 : Int32)), .val (.ref a3), .val (.int (9 : Int32)), .val (.int (9 : Int32)), .val (.int (8 : Int32)), .val (.int c8)] [])) (fun _ k => XS.iinc X52.here hx rfl (hb hby d5_35) rfl (l' := #[.val (.ref a1), .val (.int (9 : Int32)), .val (.ref a3), .val (.int (9 : Int32)), .val (.int (9 : Int32)), .val (.int (8 : Int32)), .val (.int c8)]) rfl k) ?_
  refine Go.step (T' := T52) (f' := (mkF m 41 #[.val (.ref a1), .val (.int (9 : Int32)), .val (.ref a3), .val (.int (9 : Int32)), .val (.int (9 : Int32)), .val (.int (9 : Int32)), .val (.int c8)] [])) (fun _ k => XS.iinc X52.here hx rfl (hb hby d5_38) rfl (l' := #[.val (.ref a1), .val (.int (9 : Int32)), .val (.ref a3), .val (.int (9 : Int32)), .val (.int (9 : Int32)), .val (.int (9 : Int32)), .val (.int c8)]) rfl k) ?_
  refine Go.step (T' := T52) (f' := (mkF m 3 #[.val (.ref a1), .val (.int (9 : Int32)), .val (.ref a3), .val (.int (9 : Int32)), .val (.int (9 : Int32)), .val (.int (9 : Int32)), .val (.int c8)] [])) (fun _ k => XS.goto X52.here hx rfl (pc0 := 41) (pc' := 3) rfl (hb hby d5_41) (by decide) (by decide) k) ?_
  refine Go.step (T' := T52) (f' := (mkF m 5 #[.val (.ref a1), .val (.int (9 : Int32)), .val (.ref a3), .val (.int (9 : Int32)), .val (.int (9 : Int32)), .val (.int (9 : Int32)), .val (.int c8)] [(.int (9 : Int32))])) (fun _ k => XS.iload X52.here hx rfl (hb hby d5_3) rfl k) ?_
  refine Go.step (T' := T52) (f' := (mkF m 7 #[.val (.ref a1), .val (.int (9 : Int32)), .val (.ref a3), .val (.int (9 : Int32)), .val (.int (9 : Int32)), .val (.int (9 : Int32)), .val (.int c8)] [(.int (9 : Int32)), (.int (9 : Int32))])) (fun _ k => XS.iload X52.here hx rfl (hb hby d5_5) rfl k) ?_
  refine Go.step (T' := T52) (f' := (mkF m 44 #[.val (.ref a1), .val (.int (9 : Int32)), .val (.ref a3), .val (.int (9 : Int32)), .val (.int (9 : Int32)), .val (.int (9 : Int32)), .val (.int c8)] [])) (fun _ k => XS.icmpYes X52.here hx rfl (pc0 := 7) (pc' := 44) rfl (hb hby d5_7) rfl (flt (by decide : ¬ ((9 : Int32) < (9 : Int32)))).2.1 (by decide) (by decide) k) ?_
  refine Go.step (T' := T52) (f' := (mkF m 46 #[.val (.ref a1), .val (.int (9 : Int32)), .val (.ref a3), .val (.int (9 : Int32)), .val (.int (9 : Int32)), .val (.int (9 : Int32)), .val (.int c8)] [(.int (9 : Int32))])) (fun _ k => XS.iload X52.here hx rfl (hb hby d5_44) rfl k) ?_
  refine goI X52 hx Bd.returns Bd.notSynchronized (hb hby d5_46) ?_ (by decide) (by decide)
  show Q_rmCpA9 Z a1 a3 kc c0 c1 c2 c3 c4 c5 c6 c7 c8 kb h0 n0 _ T52.heap _
  rw [e52]
  exact ⟨rfl, N52, K53, Va52⟩
theorem ef_rmCpB9 (m : MethodId) (a1 : Addr) : entryFrame m #[(.ref a1), (.int (0 : Int32)), (.int (9 : Int32))] 6 = mkF m 0 #[.val (.ref a1), .val (.int (0 : Int32)), .val (.int (9 : Int32)), .unset, .unset, .unset] [] := by first | (simp [entryFrame, mkF, argsToLocals, Value.category]; done) | rfl
def Q_rmCpB9 (Z : State) (a1 : Addr) (kc : ClassId) (c0 : Int32) (c1 : Int32) (c2 : Int32) (c3 : Int32) (c4 : Int32) (c5 : Int32) (c6 : Int32) (c7 : Int32) (c8 : Int32) (h0 : Heap) (n0 : Nat) (rv : Option Value) (hq : Heap) (Lq : List Loc) : Prop := ∃ b : Addr, ∃ kb : ClassId, rv = some (.ref b) ∧ Fr n0 Lq ∧ Keep h0 hq [] ∧ h0.size ≤ b ∧ Arv Z hq b kb .byte (9 : Int32) [(.int (c0.toInt8.toInt32)), (.int (c1.toInt8.toInt32)), (.int (c2.toInt8.toInt32)), (.int (c3.toInt8.toInt32)), (.int (c4.toInt8.toInt32)), (.int (c5.toInt8.toInt32)), (.int (c6.toInt8.toInt32)), (.int (c7.toInt8.toInt32)), (.int (c8.toInt8.toInt32))] (.int (0 : Int32))
set_option maxRecDepth 65536 in
set_option maxHeartbeats 40000000 in
theorem rmCpB9 (l : Launch) (Z : State) (a0 : Array Value) (hw : ∀ d ∈ tables_1, d.before a0 Z = true) (ws : List Jvm.Cond) (a1 : Addr) (kc : ClassId) (c0 : Int32) (c1 : Int32) (c2 : Int32) (c3 : Int32) (c4 : Int32) (c5 : Int32) (c6 : Int32) (c7 : Int32) (c8 : Int32) (h0 : Heap) (n0 : Nat) (Z0 : n0 ≤ h0.size) (V_a1 : Arv Z h0 a1 kc .char (9 : Int32) [(.int c0), (.int c1), (.int c2), (.int c3), (.int c4), (.int c5), (.int c6), (.int c7), (.int c8)] (.int (0 : Int32))) (hl0 : ¬ (255 : Int32) < c0) (hl1 : ¬ (255 : Int32) < c1) (hl2 : ¬ (255 : Int32) < c2) (hl3 : ¬ (255 : Int32) < c3) (hl4 : ¬ (255 : Int32) < c4) (hl5 : ¬ (255 : Int32) < c5) (hl6 : ¬ (255 : Int32) < c6) (hl7 : ¬ (255 : Int32) < c7) (hl8 : ¬ (255 : Int32) < c8) :
    MetFree l (⟨"java/lang/StringUTF16", "compress", "([CII)[B"⟩ : MethodName) (head1 (Jvm.Cond.code (⟨"java/lang/StringUTF16", "compress", "([CII)[B"⟩ : MethodName) jdk_52_method_16_code 6 (some (.array .byte)) :: ws) ({ frames := 1, cells := 1, slots := 9, locals := 18 } : Room)) (fun a U => a = #[(.ref a1), (.int (0 : Int32)), (.int (9 : Int32))] ∧ Z.Warmed39 U.vm ∧ U.heap = h0) (fun _ _ _ _ _ => True) (fun _ U o U' => ∃ rv Lq, o = .returned rv ∧ Q_rmCpB9 Z a1 kc c0 c1 c2 c3 c4 c5 c6 c7 c8 h0 n0 rv U'.heap Lq ∧ FrameEnd U o U' Lq ({ frames := 1, cells := 1, slots := 9, locals := 18 } : Room).cells ({ frames := 1, cells := 1, slots := 9, locals := 18 } : Room).slots) := by
  refine MetFree.of_bodySF (plainFor_of_name pn_5) hisR ?_
  intro p e s m args below meth c s₁ Bd hml0 hP hK
  obtain ⟨rfl, hZ, hh⟩ := hP
  have hx := Bd.exec
  have hby := Bd.bytes
  have hml : c.maxLocals = 6 := hml0
  have hown : s.vm.findClass "java/lang/StringUTF16" = some m.cls := findClass_of_methodNamed Bd.named
  have hnm := (name_of_methodNamed Bd.named Bd.method).1
  have X0 : Stand p l e ({ frames := 1, cells := 1, slots := 9, locals := 18 } : Room) s m #[(.ref a1), (.int (0 : Int32)), (.int (9 : Int32))] below meth c s₁ [] 0 0 := Stand.of_body Bd
  have e0 : s₁.heap = h0 := by rw [← hh, Bd.state]; rfl
  have N0 := Fr.nil n0
  refine of_go (ef_rmCpB9 m a1) ?_
  refine Go.step (T' := s₁) (f' := (mkF m 1 #[.val (.ref a1), .val (.int (0 : Int32)), .val (.int (9 : Int32)), .unset, .unset, .unset] [(.int (9 : Int32))])) (fun _ k => XS.iloadN X0.here hx rfl (hb hby d4_0) rfl k) ?_
  obtain ⟨T1, h1, k1, X1, e1, E1, A1, st1⟩ := newP X0 hx hZ (hw _ (List.mem_of_getElem? (i := 23) rfl)) e0 (g := (mkF m 1 #[.val (.ref a1), .val (.int (0 : Int32)), .val (.int (9 : Int32)), .unset, .unset, .unset] [(.int (9 : Int32))])) rfl (hb hby d4_1) rfl (by decide) (cap := 9) (by decide) (by decide) (by decide) (by decide)
  obtain ⟨b1, g1⟩ : ∃ z, z = h0.size := ⟨_, rfl⟩
  rw [← g1] at A1 st1
  have g_b1 : n0 ≤ b1 := Nat.le_trans Z0 (Nat.le_of_eq g1.symm)
  have sz_b1 : h0.size ≤ b1 := Nat.le_trans (Keep.refl h0 []).1 (Nat.le_of_eq g1.symm)
  have Z2 : n0 ≤ h1.size := Nat.le_trans Z0 E1.1
  have K2 : Keep h0 h1 [] := (Keep.refl h0 []).ext E1
  have V_b1 : Arv Z h1 b1 k1 .byte (9 : Int32) [(.int (0 : Int32)), (.int (0 : Int32)), (.int (0 : Int32)), (.int (0 : Int32)), (.int (0 : Int32)), (.int (0 : Int32)), (.int (0 : Int32)), (.int (0 : Int32)), (.int (0 : Int32))] (.int (0 : Int32)) := (Arv.new A1 (by decide)).pad (pad_rep [] (.int (0 : Int32)) 9)
  refine Go.step (T' := T1) (f' := (mkF m 3 #[.val (.ref a1), .val (.int (0 : Int32)), .val (.int (9 : Int32)), .unset, .unset, .unset] [(.ref b1)])) st1 ?_
  refine Go.step (T' := T1) (f' := (mkF m 4 #[.val (.ref a1), .val (.int (0 : Int32)), .val (.int (9 : Int32)), .val (.ref b1), .unset, .unset] [])) (fun _ k => XS.astoreN X1.here hx rfl (hb hby d4_3) rfl rfl (l' := #[.val (.ref a1), .val (.int (0 : Int32)), .val (.int (9 : Int32)), .val (.ref b1), .unset, .unset]) rfl k) ?_
  refine Go.step (T' := T1) (f' := (mkF m 5 #[.val (.ref a1), .val (.int (0 : Int32)), .val (.int (9 : Int32)), .val (.ref b1), .unset, .unset] [(.ref a1)])) (fun _ k => XS.aloadN X1.here hx rfl (hb hby d4_4) rfl rfl k) ?_
  refine Go.step (T' := T1) (f' := (mkF m 6 #[.val (.ref a1), .val (.int (0 : Int32)), .val (.int (9 : Int32)), .val (.ref b1), .unset, .unset] [(.int (0 : Int32)), (.ref a1)])) (fun _ k => XS.iloadN X1.here hx rfl (hb hby d4_5) rfl k) ?_
  refine Go.step (T' := T1) (f' := (mkF m 7 #[.val (.ref a1), .val (.int (0 : Int32)), .val (.int (9 : Int32)), .val (.ref b1), .unset, .unset] [(.ref b1), (.int (0 : Int32)), (.ref a1)])) (fun _ k => XS.aloadN X1.here hx rfl (hb hby d4_6) rfl rfl k) ?_
  refine Go.step (T' := T1) (f' := (mkF m 8 #[.val (.ref a1), .val (.int (0 : Int32)), .val (.int (9 : Int32)), .val (.ref b1), .unset, .unset] [(.int (0 : Int32)), (.ref b1), (.int (0 : Int32)), (.ref a1)])) (fun _ k => XS.iconst X1.here hx rfl (hb hby d4_7) k) ?_
  refine Go.step (T' := T1) (f' := (mkF m 9 #[.val (.ref a1), .val (.int (0 : Int32)), .val (.int (9 : Int32)), .val (.ref b1), .unset, .unset] [(.int (9 : Int32)), (.int (0 : Int32)), (.ref b1), (.int (0 : Int32)), (.ref a1)])) (fun _ k => XS.iloadN X1.here hx rfl (hb hby d4_8) rfl k) ?_
  have q4 : Arv Z h1 a1 kc .char (9 : Int32) [(.int c0), (.int c1), (.int c2), (.int c3), (.int c4), (.int c5), (.int c6), (.int c7), (.int c8)] (.int (0 : Int32)) := (V_a1.ext E1)
  obtain ⟨_, _, ⟨T3, L3, kk3, nn3⟩, -, X3, ⟨Lc3, hQ3, lq3, yq3, zq3⟩, st3⟩ := Jvm.LawKit.callS X1 hx (y := (⟨"java/lang/StringUTF16", "compress", "([CI[BII)I"⟩ : MethodName)) hown (mvT hZ (hw _ (List.mem_of_getElem? (i := 24) rfl))) (mvT hZ (hw _ (List.mem_of_getElem? (i := 25) rfl))) (mvT hZ (hw _ (List.mem_of_getElem? (i := 21) rfl))) (mvT hZ (hw _ (List.mem_of_getElem? (i := 26) rfl))) (by decide) (backOf (W := 0) (rmCpA9 l Z a0 hw [] a1 b1 kc c0 c1 c2 c3 c4 c5 c6 c7 c8 k1 h1 n0 Z2 q4 V_b1 (Nat.ne_of_lt (Nat.lt_of_lt_of_le V_a1.lt (Nat.le_of_eq g1.symm))) hl0 hl1 hl2 hl3 hl4 hl5 hl6 hl7 hl8 g_b1) hZ (hw _ (List.mem_of_getElem? (i := 26) rfl)) (hw _ (List.mem_of_getElem? (i := 21) rfl)) (by decide) (by decide)) (g := (mkF m 9 #[.val (.ref a1), .val (.int (0 : Int32)), .val (.int (9 : Int32)), .val (.ref b1), .unset, .unset] [(.int (9 : Int32)), (.int (0 : Int32)), (.ref b1), (.int (0 : Int32)), (.ref a1)])) rfl (by rw [hml]; rfl) (argsL := [(.ref a1), (.int (0 : Int32)), (.ref b1), (.int (0 : Int32)), (.int (9 : Int32))]) (rest := []) (lenOf pd_0 rfl) rfl (by show 2 * 0 + _ ≤ _; exact Nat.le_of_eq rfl) (hb hby d4_9) (fun _ _ => ⟨rfl, e1, (by decide : 1 + 0 ≤ _), (by decide : 9 + 0 ≤ _)⟩)
  dsimp only [Pt.U, Pt.locs, Pt.cells, Pt.slots] at X3 lq3 yq3 zq3 st3 hQ3
  subst yq3 zq3
  obtain ⟨rfl, Nq3, Kq3, r3_0⟩ := hQ3
  have N3 : Fr n0 L3 := by rw [lq3]; exact Fr.app N0 Nq3
  have Z5 : n0 ≤ T3.heap.size := Nat.le_trans Z2 Kq3.1
  have K5 : Keep h0 T3.heap [] := K2.trans Kq3 (allS (Or.inr sz_b1) all0)
  refine Go.step (T' := T3) (f' := (mkF m 12 #[.val (.ref a1), .val (.int (0 : Int32)), .val (.int (9 : Int32)), .val (.ref b1), .unset, .unset] [(.int (9 : Int32))])) st3 ?_
  refine Go.step (T' := T3) (f' := (mkF m 14 #[.val (.ref a1), .val (.int (0 : Int32)), .val (.int (9 : Int32)), .val (.ref b1), .val (.int (9 : Int32)), .unset] [])) (fun _ k => XS.istore X3.here hx rfl (hb hby d4_12) rfl (l' := #[.val (.ref a1), .val (.int (0 : Int32)), .val (.int (9 : Int32)), .val (.ref b1), .val (.int (9 : Int32)), .unset]) rfl k) ?_
  refine Go.step (T' := T3) (f' := (mkF m 16 #[.val (.ref a1), .val (.int (0 : Int32)), .val (.int (9 : Int32)), .val (.ref b1), .val (.int (9 : Int32)), .unset] [(.int (9 : Int32))])) (fun _ k => XS.iload X3.here hx rfl (hb hby d4_14) rfl k) ?_
  refine Go.step (T' := T3) (f' := (mkF m 17 #[.val (.ref a1), .val (.int (0 : Int32)), .val (.int (9 : Int32)), .val (.ref b1), .val (.int (9 : Int32)), .unset] [(.int (9 : Int32)), (.int (9 : Int32))])) (fun _ k => XS.iloadN X3.here hx rfl (hb hby d4_16) rfl k) ?_
  refine Go.step (T' := T3) (f' := (mkF m 57 #[.val (.ref a1), .val (.int (0 : Int32)), .val (.int (9 : Int32)), .val (.ref b1), .val (.int (9 : Int32)), .unset] [])) (fun _ k => XS.icmpYes X3.here hx rfl (pc0 := 17) (pc' := 57) rfl (hb hby d4_17) rfl (teq (by decide : (9 : Int32) = (9 : Int32))).1 (by decide) (by decide) k) ?_
  refine Go.step (T' := T3) (f' := (mkF m 58 #[.val (.ref a1), .val (.int (0 : Int32)), .val (.int (9 : Int32)), .val (.ref b1), .val (.int (9 : Int32)), .unset] [(.ref b1)])) (fun _ k => XS.aloadN X3.here hx rfl (hb hby d4_57) rfl rfl k) ?_
  refine goA X3 hx Bd.returns rfl rfl Bd.notSynchronized (hb hby d4_58) ?_ (by decide) (by decide)
  show Q_rmCpB9 Z a1 kc c0 c1 c2 c3 c4 c5 c6 c7 c8 h0 n0 _ T3.heap _
  exact ⟨b1, k1, rfl, N3, K5, sz_b1, r3_0⟩
theorem ef_rmCfl9 (m : MethodId) (a1 : Addr) : entryFrame m #[(.ref a1), (.int (9 : Int32))] 2 = mkF m 0 #[.val (.ref a1), .val (.int (9 : Int32))] [] := by first | (simp [entryFrame, mkF, argsToLocals, Value.category]; done) | rfl
def Q_rmCfl9 (Z : State) (a1 : Addr) (kb : ClassId) (vs : List Value) (h0 : Heap) (n0 : Nat) (rv : Option Value) (hq : Heap) (Lq : List Loc) : Prop := rv = some (.int (0 : Int32)) ∧ Fr n0 Lq ∧ hq = h0
set_option maxRecDepth 65536 in
set_option maxHeartbeats 40000000 in
theorem rmCfl9 (l : Launch) (Z : State) (a0 : Array Value) (hw : ∀ d ∈ tables_1, d.before a0 Z = true) (ws : List Jvm.Cond) (a1 : Addr) (kb : ClassId) (vs : List Value) (h0 : Heap) (n0 : Nat) (Z0 : n0 ≤ h0.size) (V_a1 : Arv Z h0 a1 kb .byte (9 : Int32) vs (.int (0 : Int32))) :
    MetFree l (⟨"java/lang/StringUTF16", "coderFromArrayLen", "([BI)B"⟩ : MethodName) (head1 (Jvm.Cond.code (⟨"java/lang/StringUTF16", "coderFromArrayLen", "([BI)B"⟩ : MethodName) jdk_52_method_15_code 2 (some .byte) :: ws) ({ frames := 0, cells := 0, slots := 0, locals := 0 } : Room)) (fun a U => a = #[(.ref a1), (.int (9 : Int32))] ∧ Z.Warmed39 U.vm ∧ U.heap = h0) (fun _ _ _ _ _ => True) (fun _ U o U' => ∃ rv Lq, o = .returned rv ∧ Q_rmCfl9 Z a1 kb vs h0 n0 rv U'.heap Lq ∧ FrameEnd U o U' Lq ({ frames := 0, cells := 0, slots := 0, locals := 0 } : Room).cells ({ frames := 0, cells := 0, slots := 0, locals := 0 } : Room).slots) := by
  refine MetFree.of_bodySF (plainFor_of_name pn_5) hisR ?_
  intro p e s m args below meth c s₁ Bd hml0 hP hK
  obtain ⟨rfl, hZ, hh⟩ := hP
  have hx := Bd.exec
  have hby := Bd.bytes
  have hml : c.maxLocals = 2 := hml0
  have hown : s.vm.findClass "java/lang/StringUTF16" = some m.cls := findClass_of_methodNamed Bd.named
  have hnm := (name_of_methodNamed Bd.named Bd.method).1
  have X0 : Stand p l e ({ frames := 0, cells := 0, slots := 0, locals := 0 } : Room) s m #[(.ref a1), (.int (9 : Int32))] below meth c s₁ [] 0 0 := Stand.of_body Bd
  have e0 : s₁.heap = h0 := by rw [← hh, Bd.state]; rfl
  have N0 := Fr.nil n0
  refine of_go (ef_rmCfl9 m a1) ?_
  refine Go.step (T' := s₁) (f' := (mkF m 1 #[.val (.ref a1), .val (.int (9 : Int32))] [(.int (9 : Int32))])) (fun _ k => XS.iloadN X0.here hx rfl (hb hby d6_0) rfl k) ?_
  refine Go.step (T' := s₁) (f' := (mkF m 2 #[.val (.ref a1), .val (.int (9 : Int32))] [(.ref a1), (.int (9 : Int32))])) (fun _ k => XS.aloadN X0.here hx rfl (hb hby d6_1) rfl rfl k) ?_
  obtain ⟨cl1, Ar1, qc1, Sz1, Nn1, Hs1, Gf1⟩ := id V_a1
  have hlen1 := X0.arraylength hx (by rw [e0]; exact Ar1.1) (State.isArrayOf_alike hZ.alike Ar1.2.1) (g := (mkF m 2 #[.val (.ref a1), .val (.int (9 : Int32))] [(.ref a1), (.int (9 : Int32))])) rfl rfl (hb hby d6_2)
  rw [len_of Sz1 Nn1] at hlen1
  refine Go.step (T' := s₁) (f' := (mkF m 3 #[.val (.ref a1), .val (.int (9 : Int32))] [(.int (9 : Int32)), (.int (9 : Int32))])) (fun _ k => hlen1 _ k) ?_
  refine Go.step (T' := s₁) (f' := (mkF m 4 #[.val (.ref a1), .val (.int (9 : Int32))] [(.int (0 : Int32))])) (fun _ k => XS.isub X0.here hx rfl (hb hby d6_3) rfl k) ?_
  refine Go.step (T' := s₁) (f' := (mkF m 6 #[.val (.ref a1), .val (.int (9 : Int32))] [(.int (31 : Int32)), (.int (0 : Int32))])) (fun _ k => XS.bipush X0.here hx rfl (hb hby d6_4) k) ?_
  refine Go.step (T' := s₁) (f' := (mkF m 7 #[.val (.ref a1), .val (.int (9 : Int32))] [(.int (0 : Int32))])) (fun _ k => XS.iushr X0.here hx rfl (hb hby d6_6) rfl k) ?_
  refine Go.step (T' := s₁) (f' := (mkF m 8 #[.val (.ref a1), .val (.int (9 : Int32))] [(.int (0 : Int32))])) (fun _ k => XS.i2b X0.here hx rfl (hb hby d6_7) rfl k) ?_
  refine goN X0 hx (t := .byte) Bd.returns (by simp) Bd.notSynchronized (hb hby d6_8) ?_ (by decide) (by decide)
  show Q_rmCfl9 Z a1 kb vs h0 n0 _ s₁.heap _
  rw [e0]
  exact ⟨rfl, N0, rfl⟩
theorem ef_rmSi4_9 (m : MethodId) (a1 : Addr) (a2 : Addr) : entryFrame m #[(.ref a1), (.ref a2), (.int (0 : Int32)), (.int (9 : Int32)), .null] 6 = mkF m 0 #[.val (.ref a1), .val (.ref a2), .val (.int (0 : Int32)), .val (.int (9 : Int32)), .val .null, .unset] [] := by first | (simp [entryFrame, mkF, argsToLocals, Value.category]; done) | rfl
def Q_rmSi4_9 (Z : State) (a1 : Addr) (a2 : Addr) (cs : Int32) (kc : ClassId) (c0 : Int32) (c1 : Int32) (c2 : Int32) (c3 : Int32) (c4 : Int32) (c5 : Int32) (c6 : Int32) (c7 : Int32) (c8 : Int32) (h0 : Heap) (n0 : Nat) (rv : Option Value) (hq : Heap) (Lq : List Loc) : Prop := ∃ b : Addr, ∃ kb : ClassId, rv = none ∧ Fr n0 Lq ∧ Keep h0 hq [a1] ∧ h0.size ≤ b ∧ Fld Z hq a1 "java/lang/String" "value" "[B" (.ref b) ∧ Fld Z hq a1 "java/lang/String" "coder" "B" (.int (0 : Int32)) ∧ Arv Z hq b kb .byte (9 : Int32) [(.int (c0.toInt8.toInt32)), (.int (c1.toInt8.toInt32)), (.int (c2.toInt8.toInt32)), (.int (c3.toInt8.toInt32)), (.int (c4.toInt8.toInt32)), (.int (c5.toInt8.toInt32)), (.int (c6.toInt8.toInt32)), (.int (c7.toInt8.toInt32)), (.int (c8.toInt8.toInt32))] (.int (0 : Int32))
set_option maxRecDepth 65536 in
set_option maxHeartbeats 40000000 in
theorem rmSi4_9 (l : Launch) (Z : State) (a0 : Array Value) (hw : ∀ d ∈ tables_1, d.before a0 Z = true) (ws : List Jvm.Cond) (a1 : Addr) (a2 : Addr) (cs : Int32) (kc : ClassId) (c0 : Int32) (c1 : Int32) (c2 : Int32) (c3 : Int32) (c4 : Int32) (c5 : Int32) (c6 : Int32) (c7 : Int32) (c8 : Int32) (h0 : Heap) (n0 : Nat) (Z0 : n0 ≤ h0.size) (E_a1 : Exa Z h0 a1 "java/lang/String") (F_value_a1 : Fld Z h0 a1 "java/lang/String" "value" "[B" .null) (F_coder_a1 : Fld Z h0 a1 "java/lang/String" "coder" "B" (.int (0 : Int32))) (V_a2 : Arv Z h0 a2 kc .char (9 : Int32) [(.int c0), (.int c1), (.int c2), (.int c3), (.int c4), (.int c5), (.int c6), (.int c7), (.int c8)] (.int (0 : Int32))) (O0 : Old Z n0 h0) (S_COMPACT_STRINGS : Sta Z Z.heap "java/lang/String" "COMPACT_STRINGS" "Z" (.int cs)) (hcs : ¬ cs = (0 : Int32)) (hl0 : ¬ (255 : Int32) < c0) (hl1 : ¬ (255 : Int32) < c1) (hl2 : ¬ (255 : Int32) < c2) (hl3 : ¬ (255 : Int32) < c3) (hl4 : ¬ (255 : Int32) < c4) (hl5 : ¬ (255 : Int32) < c5) (hl6 : ¬ (255 : Int32) < c6) (hl7 : ¬ (255 : Int32) < c7) (hl8 : ¬ (255 : Int32) < c8) (g_a1 : n0 ≤ a1) :
    MetFree l (⟨"java/lang/String", "<init>", "([CIILjava/lang/Void;)V"⟩ : MethodName) (head1 (Jvm.Cond.code (⟨"java/lang/String", "<init>", "([CIILjava/lang/Void;)V"⟩ : MethodName) jdk_42_method_149_code 6 none :: ws) ({ frames := 2, cells := 1, slots := 9, locals := 35 } : Room)) (fun a U => a = #[(.ref a1), (.ref a2), (.int (0 : Int32)), (.int (9 : Int32)), .null] ∧ Z.Warmed39 U.vm ∧ U.heap = h0) (fun _ _ _ _ _ => True) (fun _ U o U' => ∃ rv Lq, o = .returned rv ∧ Q_rmSi4_9 Z a1 a2 cs kc c0 c1 c2 c3 c4 c5 c6 c7 c8 h0 n0 rv U'.heap Lq ∧ FrameEnd U o U' Lq ({ frames := 2, cells := 1, slots := 9, locals := 35 } : Room).cells ({ frames := 2, cells := 1, slots := 9, locals := 35 } : Room).slots) := by
  refine MetFree.of_bodySF (plainFor_of_name pn_2) hisR ?_
  intro p e s m args below meth c s₁ Bd hml0 hP hK
  obtain ⟨rfl, hZ, hh⟩ := hP
  have hx := Bd.exec
  have hby := Bd.bytes
  have hml : c.maxLocals = 6 := hml0
  have hown : s.vm.findClass "java/lang/String" = some m.cls := findClass_of_methodNamed Bd.named
  have hnm := (name_of_methodNamed Bd.named Bd.method).1
  have X0 : Stand p l e ({ frames := 2, cells := 1, slots := 9, locals := 35 } : Room) s m #[(.ref a1), (.ref a2), (.int (0 : Int32)), (.int (9 : Int32)), .null] below meth c s₁ [] 0 0 := Stand.of_body Bd
  have e0 : s₁.heap = h0 := by rw [← hh, Bd.state]; rfl
  have N0 := Fr.nil n0
  refine of_go (ef_rmSi4_9 m a1 a2) ?_
  refine Go.step (T' := s₁) (f' := (mkF m 1 #[.val (.ref a1), .val (.ref a2), .val (.int (0 : Int32)), .val (.int (9 : Int32)), .val .null, .unset] [(.ref a1)])) (fun _ k => XS.aloadN X0.here hx rfl (hb hby d2_0) rfl rfl k) ?_
  obtain ⟨T1, X1, e1, st1⟩ := initO X0 hx hZ hown (hw _ (List.mem_of_getElem? (i := 15) rfl)) (hw _ (List.mem_of_getElem? (i := 16) rfl)) (hw _ (List.mem_of_getElem? (i := 17) rfl)) e0 (g := (mkF m 1 #[.val (.ref a1), .val (.ref a2), .val (.int (0 : Int32)), .val (.int (9 : Int32)), .val .null, .unset] [(.ref a1)])) rfl (by rw [hml]; rfl) rfl (hb hby d2_1) (by decide) (W := 0) (by show 2 * 0 + _ ≤ _; exact Nat.le_of_eq rfl) (by decide)
  refine Go.step (T' := T1) (f' := (mkF m 4 #[.val (.ref a1), .val (.ref a2), .val (.int (0 : Int32)), .val (.int (9 : Int32)), .val .null, .unset] [])) st1 ?_
  refine Go.step (T' := T1) (f' := (mkF m 5 #[.val (.ref a1), .val (.ref a2), .val (.int (0 : Int32)), .val (.int (9 : Int32)), .val .null, .unset] [(.int (9 : Int32))])) (fun _ k => XS.iloadN X1.here hx rfl (hb hby d2_4) rfl k) ?_
  refine Go.step (T' := T1) (f' := (mkF m 27 #[.val (.ref a1), .val (.ref a2), .val (.int (0 : Int32)), .val (.int (9 : Int32)), .val .null, .unset] [])) (fun _ k => XS.ifYes X1.here hx rfl (pc0 := 5) (pc' := 27) rfl (hb hby d2_5) rfl ((if0 _ _).trans (feq (by decide : ¬ ((9 : Int32) = (0 : Int32)))).2) (by decide) (by decide) k) ?_
  obtain ⟨T2, X2, e2, st2⟩ := getS2 X1 hx hZ hown (host := "") (Or.inl (hw _ (List.mem_of_getElem? (i := 18) rfl))) Via.refl e1 (S_COMPACT_STRINGS.ext O0.2) (g := (mkF m 27 #[.val (.ref a1), .val (.ref a2), .val (.int (0 : Int32)), .val (.int (9 : Int32)), .val .null, .unset] [])) rfl (hb hby d2_27)
  refine Go.step (T' := T2) (f' := (mkF m 30 #[.val (.ref a1), .val (.ref a2), .val (.int (0 : Int32)), .val (.int (9 : Int32)), .val .null, .unset] [(.int cs)])) st2 ?_
  refine Go.step (T' := T2) (f' := (mkF m 33 #[.val (.ref a1), .val (.ref a2), .val (.int (0 : Int32)), .val (.int (9 : Int32)), .val .null, .unset] [])) (fun _ k => XS.ifNo X2.here hx rfl (hb hby d2_30) rfl ((if0 _ _).trans (feq hcs).1) k) ?_
  refine Go.step (T' := T2) (f' := (mkF m 34 #[.val (.ref a1), .val (.ref a2), .val (.int (0 : Int32)), .val (.int (9 : Int32)), .val .null, .unset] [(.ref a2)])) (fun _ k => XS.aloadN X2.here hx rfl (hb hby d2_33) rfl rfl k) ?_
  refine Go.step (T' := T2) (f' := (mkF m 35 #[.val (.ref a1), .val (.ref a2), .val (.int (0 : Int32)), .val (.int (9 : Int32)), .val .null, .unset] [(.int (0 : Int32)), (.ref a2)])) (fun _ k => XS.iloadN X2.here hx rfl (hb hby d2_34) rfl k) ?_
  refine Go.step (T' := T2) (f' := (mkF m 36 #[.val (.ref a1), .val (.ref a2), .val (.int (0 : Int32)), .val (.int (9 : Int32)), .val .null, .unset] [(.int (9 : Int32)), (.int (0 : Int32)), (.ref a2)])) (fun _ k => XS.iloadN X2.here hx rfl (hb hby d2_35) rfl k) ?_
  obtain ⟨_, _, ⟨T3, L3, kk3, nn3⟩, -, X3, ⟨Lc3, hQ3, lq3, yq3, zq3⟩, st3⟩ := Jvm.LawKit.callS X2 hx (y := (⟨"java/lang/StringUTF16", "compress", "([CII)[B"⟩ : MethodName)) hown (mvT hZ (hw _ (List.mem_of_getElem? (i := 19) rfl))) (mvT hZ (hw _ (List.mem_of_getElem? (i := 20) rfl))) (mvT hZ (hw _ (List.mem_of_getElem? (i := 21) rfl))) (mvT hZ (hw _ (List.mem_of_getElem? (i := 22) rfl))) (by decide) (backOf (W := 0) (rmCpB9 l Z a0 hw [] a2 kc c0 c1 c2 c3 c4 c5 c6 c7 c8 h0 n0 Z0 V_a2 hl0 hl1 hl2 hl3 hl4 hl5 hl6 hl7 hl8) hZ (hw _ (List.mem_of_getElem? (i := 22) rfl)) (hw _ (List.mem_of_getElem? (i := 21) rfl)) (by decide) (by decide)) (g := (mkF m 36 #[.val (.ref a1), .val (.ref a2), .val (.int (0 : Int32)), .val (.int (9 : Int32)), .val .null, .unset] [(.int (9 : Int32)), (.int (0 : Int32)), (.ref a2)])) rfl (by rw [hml]; rfl) (argsL := [(.ref a2), (.int (0 : Int32)), (.int (9 : Int32))]) (rest := []) (lenOf pd_1 rfl) rfl (by show 2 * 0 + _ ≤ _; exact Nat.le_of_eq rfl) (hb hby d2_36) (fun _ _ => ⟨rfl, e2, (by decide : 0 + 1 ≤ _), (by decide : 0 + 9 ≤ _)⟩)
  dsimp only [Pt.U, Pt.locs, Pt.cells, Pt.slots] at X3 lq3 yq3 zq3 st3 hQ3
  subst yq3 zq3
  obtain ⟨b_3, kb_3, rfl, Nq3, Kq3, r3_0, r3_1⟩ := hQ3
  have N3 : Fr n0 L3 := by rw [lq3]; exact Fr.app N0 Nq3
  have g_b_3 : n0 ≤ b_3 := Nat.le_trans Z0 r3_0
  have sz_b_3 : h0.size ≤ b_3 := Nat.le_trans (Keep.refl h0 [a1]).1 r3_0
  have Z4 : n0 ≤ T3.heap.size := Nat.le_trans Z0 Kq3.1
  have O4 : Old Z n0 T3.heap := O0.keep Kq3 all0
  have K4 : Keep h0 T3.heap [a1] := (Keep.refl h0 [a1]).trans Kq3 all0
  refine Go.step (T' := T3) (f' := (mkF m 39 #[.val (.ref a1), .val (.ref a2), .val (.int (0 : Int32)), .val (.int (9 : Int32)), .val .null, .unset] [(.ref b_3)])) st3 ?_
  refine Go.step (T' := T3) (f' := (mkF m 41 #[.val (.ref a1), .val (.ref a2), .val (.int (0 : Int32)), .val (.int (9 : Int32)), .val .null, .val (.ref b_3)] [])) (fun _ k => XS.astore X3.here hx rfl (hb hby d2_39) rfl rfl (l' := #[.val (.ref a1), .val (.ref a2), .val (.int (0 : Int32)), .val (.int (9 : Int32)), .val .null, .val (.ref b_3)]) rfl k) ?_
  refine Go.step (T' := T3) (f' := (mkF m 42 #[.val (.ref a1), .val (.ref a2), .val (.int (0 : Int32)), .val (.int (9 : Int32)), .val .null, .val (.ref b_3)] [(.ref a1)])) (fun _ k => XS.aloadN X3.here hx rfl (hb hby d2_41) rfl rfl k) ?_
  refine Go.step (T' := T3) (f' := (mkF m 44 #[.val (.ref a1), .val (.ref a2), .val (.int (0 : Int32)), .val (.int (9 : Int32)), .val .null, .val (.ref b_3)] [(.ref b_3), (.ref a1)])) (fun _ k => XS.aload X3.here hx rfl (hb hby d2_42) rfl rfl k) ?_
  refine Go.step (T' := T3) (f' := (mkF m 45 #[.val (.ref a1), .val (.ref a2), .val (.int (0 : Int32)), .val (.int (9 : Int32)), .val .null, .val (.ref b_3)] [(.int (9 : Int32)), (.ref b_3), (.ref a1)])) (fun _ k => XS.iloadN X3.here hx rfl (hb hby d2_44) rfl k) ?_
  obtain ⟨_, _, ⟨T5, L5, kk5, nn5⟩, -, X5, ⟨Lc5, hQ5, lq5, yq5, zq5⟩, st5⟩ := Jvm.LawKit.callS X3 hx (y := (⟨"java/lang/StringUTF16", "coderFromArrayLen", "([BI)B"⟩ : MethodName)) hown (mvT hZ (hw _ (List.mem_of_getElem? (i := 27) rfl))) (mvT hZ (hw _ (List.mem_of_getElem? (i := 28) rfl))) (mvT hZ (hw _ (List.mem_of_getElem? (i := 21) rfl))) (mvT hZ (hw _ (List.mem_of_getElem? (i := 29) rfl))) (by decide) (backOf (W := 1) (rmCfl9 l Z a0 hw [] b_3 kb_3 [(.int (c0.toInt8.toInt32)), (.int (c1.toInt8.toInt32)), (.int (c2.toInt8.toInt32)), (.int (c3.toInt8.toInt32)), (.int (c4.toInt8.toInt32)), (.int (c5.toInt8.toInt32)), (.int (c6.toInt8.toInt32)), (.int (c7.toInt8.toInt32)), (.int (c8.toInt8.toInt32))] T3.heap n0 Z4 r3_1) hZ (hw _ (List.mem_of_getElem? (i := 29) rfl)) (hw _ (List.mem_of_getElem? (i := 21) rfl)) (by decide) (by decide)) (g := (mkF m 45 #[.val (.ref a1), .val (.ref a2), .val (.int (0 : Int32)), .val (.int (9 : Int32)), .val .null, .val (.ref b_3)] [(.int (9 : Int32)), (.ref b_3), (.ref a1)])) rfl (by rw [hml]; rfl) (argsL := [(.ref b_3), (.int (9 : Int32))]) (rest := [(.ref a1)]) (lenOf pd_2 rfl) rfl (by show 2 * 0 + _ ≤ _; exact Nat.le_of_eq rfl) (hb hby d2_45) (fun _ _ => ⟨rfl, rfl, (by decide : 1 + 0 ≤ _), (by decide : 9 + 0 ≤ _)⟩)
  dsimp only [Pt.U, Pt.locs, Pt.cells, Pt.slots] at X5 lq5 yq5 zq5 st5 hQ5
  subst yq5 zq5
  obtain ⟨rfl, Nq5, eh5⟩ := hQ5
  have N5 : Fr n0 L5 := by rw [lq5]; exact Fr.app N3 Nq5
  refine Go.step (T' := T5) (f' := (mkF m 48 #[.val (.ref a1), .val (.ref a2), .val (.int (0 : Int32)), .val (.int (9 : Int32)), .val .null, .val (.ref b_3)] [(.int (0 : Int32)), (.ref a1)])) st5 ?_
  have q6 : Fld Z T3.heap a1 "java/lang/String" "coder" "B" (.int (0 : Int32)) := (F_coder_a1.keep Kq3 nin0)
  have q7 : Exa Z T3.heap a1 "java/lang/String" := (E_a1.keep Kq3)
  obtain ⟨T8, h8, X8, e8, W8, st8⟩ := putFN X5 hx hZ hown (hw _ (List.mem_of_getElem? (i := 30) rfl)) Via.refl eh5 q6 q7 (Or.inr ⟨(hw _ (List.mem_of_getElem? (i := 31) rfl)), rfl, hnm⟩) (hw _ (List.mem_of_getElem? (i := 6) rfl)) (ty := .byte) (v := .int (0 : Int32)) (v' := .int (0 : Int32)) (by decide) rfl (by decide) (g := (mkF m 48 #[.val (.ref a1), .val (.ref a2), .val (.int (0 : Int32)), .val (.int (9 : Int32)), .val .null, .val (.ref b_3)] [(.int (0 : Int32)), (.ref a1)])) rfl rfl (hb hby d2_48)
  have N8 := Fr.snoc X8 N5 g_a1
  have Z9 : n0 ≤ h8.size := Nat.le_trans Z4 (Keep.of_wr W8).1
  have O9 : Old Z n0 h8 := O4.wr W8 g_a1
  have K9 : Keep h0 h8 [a1] := K4.wr W8 (Or.inl (List.mem_of_getElem? (i := 0) rfl))
  have Fw8 := q6.same W8
  refine Go.step (T' := T8) (f' := (mkF m 51 #[.val (.ref a1), .val (.ref a2), .val (.int (0 : Int32)), .val (.int (9 : Int32)), .val .null, .val (.ref b_3)] [])) st8 ?_
  refine Go.step (T' := T8) (f' := (mkF m 52 #[.val (.ref a1), .val (.ref a2), .val (.int (0 : Int32)), .val (.int (9 : Int32)), .val .null, .val (.ref b_3)] [(.ref a1)])) (fun _ k => XS.aloadN X8.here hx rfl (hb hby d2_51) rfl rfl k) ?_
  refine Go.step (T' := T8) (f' := (mkF m 54 #[.val (.ref a1), .val (.ref a2), .val (.int (0 : Int32)), .val (.int (9 : Int32)), .val .null, .val (.ref b_3)] [(.ref b_3), (.ref a1)])) (fun _ k => XS.aload X8.here hx rfl (hb hby d2_52) rfl rfl k) ?_
  have q10 : Fld Z h8 a1 "java/lang/String" "value" "[B" .null := ((F_value_a1.keep Kq3 nin0).other W8 (Or.inr (slot_ne (Or.inr (hw _ (List.mem_of_getElem? (i := 33) rfl))) (Or.inr (hw _ (List.mem_of_getElem? (i := 31) rfl))) (by decide) (t := (.array .byte)) (t' := .byte) (by decide) (by decide))))
  have q11 : Exa Z h8 a1 "java/lang/String" := (q7.wr W8)
  obtain ⟨T12, h12, X12, e12, W12, st12⟩ := putF X8 hx hZ hown (host := "") (Or.inl (hw _ (List.mem_of_getElem? (i := 32) rfl))) Via.refl e8 q10 q11 (Or.inr ⟨(hw _ (List.mem_of_getElem? (i := 33) rfl)), rfl, hnm⟩) (hw _ (List.mem_of_getElem? (i := 6) rfl)) (ty := (.array .byte)) (by decide) rfl rfl (g := (mkF m 54 #[.val (.ref a1), .val (.ref a2), .val (.int (0 : Int32)), .val (.int (9 : Int32)), .val .null, .val (.ref b_3)] [(.ref b_3), (.ref a1)])) rfl rfl (hb hby d2_54)
  have N12 := Fr.snoc X12 N8 g_a1
  have Z13 : n0 ≤ h12.size := Nat.le_trans Z9 (Keep.of_wr W12).1
  have O13 : Old Z n0 h12 := O9.wr W12 g_a1
  have K13 : Keep h0 h12 [a1] := K9.wr W12 (Or.inl (List.mem_of_getElem? (i := 0) rfl))
  have Fw12 := q10.same W12
  refine Go.step (T' := T12) (f' := (mkF m 57 #[.val (.ref a1), .val (.ref a2), .val (.int (0 : Int32)), .val (.int (9 : Int32)), .val .null, .val (.ref b_3)] [])) st12 ?_
  refine goV X12 hx Bd.returns Bd.notSynchronized (hb hby d2_57) ?_ (by decide) (by decide)
  show Q_rmSi4_9 Z a1 a2 cs kc c0 c1 c2 c3 c4 c5 c6 c7 c8 h0 n0 _ T12.heap _
  rw [e12]
  have q14 : Fld Z h12 a1 "java/lang/String" "coder" "B" (.int (0 : Int32)) := (Fw8.other W12 (Or.inr (slot_ne (Or.inr (hw _ (List.mem_of_getElem? (i := 31) rfl))) (Or.inr (hw _ (List.mem_of_getElem? (i := 33) rfl))) (by decide) (t := .byte) (t' := (.array .byte)) (by decide) (by decide))))
  have q15 : Arv Z h12 b_3 kb_3 .byte (9 : Int32) [(.int (c0.toInt8.toInt32)), (.int (c1.toInt8.toInt32)), (.int (c2.toInt8.toInt32)), (.int (c3.toInt8.toInt32)), (.int (c4.toInt8.toInt32)), (.int (c5.toInt8.toInt32)), (.int (c6.toInt8.toInt32)), (.int (c7.toInt8.toInt32)), (.int (c8.toInt8.toInt32))] (.int (0 : Int32)) := ((r3_1.other W8 (Ne.symm (Nat.ne_of_lt (Nat.lt_of_lt_of_le E_a1.lt r3_0)))).other W12 (Ne.symm (Nat.ne_of_lt (Nat.lt_of_lt_of_le E_a1.lt r3_0))))
  exact ⟨b_3, kb_3, rfl, N12, K13, sz_b_3, Fw12, q14, q15⟩
theorem ef_rmSi_9 (m : MethodId) (a1 : Addr) (a2 : Addr) : entryFrame m #[(.ref a1), (.ref a2)] 2 = mkF m 0 #[.val (.ref a1), .val (.ref a2)] [] := by first | (simp [entryFrame, mkF, argsToLocals, Value.category]; done) | rfl
def Q_rmSi_9 (Z : State) (a1 : Addr) (a2 : Addr) (cs : Int32) (kc : ClassId) (c0 : Int32) (c1 : Int32) (c2 : Int32) (c3 : Int32) (c4 : Int32) (c5 : Int32) (c6 : Int32) (c7 : Int32) (c8 : Int32) (h0 : Heap) (n0 : Nat) (rv : Option Value) (hq : Heap) (Lq : List Loc) : Prop := ∃ b : Addr, ∃ kb : ClassId, rv = none ∧ Fr n0 Lq ∧ Keep h0 hq [a1] ∧ h0.size ≤ b ∧ Fld Z hq a1 "java/lang/String" "value" "[B" (.ref b) ∧ Fld Z hq a1 "java/lang/String" "coder" "B" (.int (0 : Int32)) ∧ Arv Z hq b kb .byte (9 : Int32) [(.int (c0.toInt8.toInt32)), (.int (c1.toInt8.toInt32)), (.int (c2.toInt8.toInt32)), (.int (c3.toInt8.toInt32)), (.int (c4.toInt8.toInt32)), (.int (c5.toInt8.toInt32)), (.int (c6.toInt8.toInt32)), (.int (c7.toInt8.toInt32)), (.int (c8.toInt8.toInt32))] (.int (0 : Int32))
set_option maxRecDepth 65536 in
set_option maxHeartbeats 40000000 in
theorem rmSi_9 (l : Launch) (Z : State) (a0 : Array Value) (hw : ∀ d ∈ tables_1, d.before a0 Z = true) (ws : List Jvm.Cond) (a1 : Addr) (a2 : Addr) (cs : Int32) (kc : ClassId) (c0 : Int32) (c1 : Int32) (c2 : Int32) (c3 : Int32) (c4 : Int32) (c5 : Int32) (c6 : Int32) (c7 : Int32) (c8 : Int32) (h0 : Heap) (n0 : Nat) (Z0 : n0 ≤ h0.size) (E_a1 : Exa Z h0 a1 "java/lang/String") (F_value_a1 : Fld Z h0 a1 "java/lang/String" "value" "[B" .null) (F_coder_a1 : Fld Z h0 a1 "java/lang/String" "coder" "B" (.int (0 : Int32))) (V_a2 : Arv Z h0 a2 kc .char (9 : Int32) [(.int c0), (.int c1), (.int c2), (.int c3), (.int c4), (.int c5), (.int c6), (.int c7), (.int c8)] (.int (0 : Int32))) (O0 : Old Z n0 h0) (S_COMPACT_STRINGS : Sta Z Z.heap "java/lang/String" "COMPACT_STRINGS" "Z" (.int cs)) (hcs : ¬ cs = (0 : Int32)) (hl0 : ¬ (255 : Int32) < c0) (hl1 : ¬ (255 : Int32) < c1) (hl2 : ¬ (255 : Int32) < c2) (hl3 : ¬ (255 : Int32) < c3) (hl4 : ¬ (255 : Int32) < c4) (hl5 : ¬ (255 : Int32) < c5) (hl6 : ¬ (255 : Int32) < c6) (hl7 : ¬ (255 : Int32) < c7) (hl8 : ¬ (255 : Int32) < c8) (g_a1 : n0 ≤ a1) :
    MetFree l (⟨"java/lang/String", "<init>", "([C)V"⟩ : MethodName) (head1 (Jvm.Cond.code (⟨"java/lang/String", "<init>", "([C)V"⟩ : MethodName) jdk_42_method_3_code 2 none :: ws) ({ frames := 3, cells := 1, slots := 9, locals := 52 } : Room)) (fun a U => a = #[(.ref a1), (.ref a2)] ∧ Z.Warmed39 U.vm ∧ U.heap = h0) (fun _ _ _ _ _ => True) (fun _ U o U' => ∃ rv Lq, o = .returned rv ∧ Q_rmSi_9 Z a1 a2 cs kc c0 c1 c2 c3 c4 c5 c6 c7 c8 h0 n0 rv U'.heap Lq ∧ FrameEnd U o U' Lq ({ frames := 3, cells := 1, slots := 9, locals := 52 } : Room).cells ({ frames := 3, cells := 1, slots := 9, locals := 52 } : Room).slots) := by
  refine MetFree.of_bodySF (plainFor_of_name pn_2) hisR ?_
  intro p e s m args below meth c s₁ Bd hml0 hP hK
  obtain ⟨rfl, hZ, hh⟩ := hP
  have hx := Bd.exec
  have hby := Bd.bytes
  have hml : c.maxLocals = 2 := hml0
  have hown : s.vm.findClass "java/lang/String" = some m.cls := findClass_of_methodNamed Bd.named
  have hnm := (name_of_methodNamed Bd.named Bd.method).1
  have X0 : Stand p l e ({ frames := 3, cells := 1, slots := 9, locals := 52 } : Room) s m #[(.ref a1), (.ref a2)] below meth c s₁ [] 0 0 := Stand.of_body Bd
  have e0 : s₁.heap = h0 := by rw [← hh, Bd.state]; rfl
  have N0 := Fr.nil n0
  refine of_go (ef_rmSi_9 m a1 a2) ?_
  refine Go.step (T' := s₁) (f' := (mkF m 1 #[.val (.ref a1), .val (.ref a2)] [(.ref a1)])) (fun _ k => XS.aloadN X0.here hx rfl (hb hby d1_0) rfl rfl k) ?_
  refine Go.step (T' := s₁) (f' := (mkF m 2 #[.val (.ref a1), .val (.ref a2)] [(.ref a2), (.ref a1)])) (fun _ k => XS.aloadN X0.here hx rfl (hb hby d1_1) rfl rfl k) ?_
  refine Go.step (T' := s₁) (f' := (mkF m 3 #[.val (.ref a1), .val (.ref a2)] [(.int (0 : Int32)), (.ref a2), (.ref a1)])) (fun _ k => XS.iconst X0.here hx rfl (hb hby d1_2) k) ?_
  refine Go.step (T' := s₁) (f' := (mkF m 4 #[.val (.ref a1), .val (.ref a2)] [(.ref a2), (.int (0 : Int32)), (.ref a2), (.ref a1)])) (fun _ k => XS.aloadN X0.here hx rfl (hb hby d1_3) rfl rfl k) ?_
  obtain ⟨cl1, Ar1, qc1, Sz1, Nn1, Hs1, Gf1⟩ := id V_a2
  have hlen1 := X0.arraylength hx (by rw [e0]; exact Ar1.1) (State.isArrayOf_alike hZ.alike Ar1.2.1) (g := (mkF m 4 #[.val (.ref a1), .val (.ref a2)] [(.ref a2), (.int (0 : Int32)), (.ref a2), (.ref a1)])) rfl rfl (hb hby d1_4)
  rw [len_of Sz1 Nn1] at hlen1
  refine Go.step (T' := s₁) (f' := (mkF m 5 #[.val (.ref a1), .val (.ref a2)] [(.int (9 : Int32)), (.int (0 : Int32)), (.ref a2), (.ref a1)])) (fun _ k => hlen1 _ k) ?_
  refine Go.step (T' := s₁) (f' := (mkF m 6 #[.val (.ref a1), .val (.ref a2)] [.null, (.int (9 : Int32)), (.int (0 : Int32)), (.ref a2), (.ref a1)])) (fun _ k => XS.aconstNull X0.here hx rfl (hb hby d1_5) k) ?_
  obtain ⟨_, _, ⟨T2, L2, kk2, nn2⟩, -, X2, ⟨Lc2, hQ2, lq2, yq2, zq2⟩, st2⟩ := X0.specialBack hx (y := (⟨"java/lang/String", "<init>", "([CIILjava/lang/Void;)V"⟩ : MethodName)) rfl hown (mvT hZ (hw _ (List.mem_of_getElem? (i := 11) rfl))) (mvT hZ (hw _ (List.mem_of_getElem? (i := 12) rfl))) (mvT hZ (hw _ (List.mem_of_getElem? (i := 14) rfl))) (by decide) (backOf (W := 0) (rmSi4_9 l Z a0 hw [] a1 a2 cs kc c0 c1 c2 c3 c4 c5 c6 c7 c8 h0 n0 Z0 E_a1 F_value_a1 F_coder_a1 V_a2 O0 S_COMPACT_STRINGS hcs hl0 hl1 hl2 hl3 hl4 hl5 hl6 hl7 hl8 g_a1) hZ (hw _ (List.mem_of_getElem? (i := 14) rfl)) (hw _ (List.mem_of_getElem? (i := 7) rfl)) (by decide) (by decide)) (g := (mkF m 6 #[.val (.ref a1), .val (.ref a2)] [.null, (.int (9 : Int32)), (.int (0 : Int32)), (.ref a2), (.ref a1)])) rfl (by rw [hml]; rfl) (Steps.refl _) (a := a1) (argsL := [(.ref a2), (.int (0 : Int32)), (.int (9 : Int32)), .null]) (rest := []) (lenOf pd_3 rfl) rfl (by show 2 * 0 + _ ≤ _; exact Nat.le_of_eq rfl) (hb hby d1_6) (fun _ _ => ⟨rfl, e0, (by decide : 0 + 1 ≤ _), (by decide : 0 + 9 ≤ _)⟩)
  dsimp only [Pt.U, Pt.locs, Pt.cells, Pt.slots] at X2 lq2 yq2 zq2 st2 hQ2
  subst yq2 zq2
  obtain ⟨b_2, kb_2, rfl, Nq2, Kq2, r2_0, r2_1, r2_2, r2_3⟩ := hQ2
  have N2 : Fr n0 L2 := by rw [lq2]; exact Fr.app N0 Nq2
  have g_b_2 : n0 ≤ b_2 := Nat.le_trans Z0 r2_0
  have sz_b_2 : h0.size ≤ b_2 := Nat.le_trans (Keep.refl h0 [a1]).1 r2_0
  have Z3 : n0 ≤ T2.heap.size := Nat.le_trans Z0 Kq2.1
  have O3 : Old Z n0 T2.heap := O0.keep Kq2 (allS g_a1 all0)
  have K3 : Keep h0 T2.heap [a1] := (Keep.refl h0 [a1]).trans Kq2 (allS (Or.inl (List.mem_of_getElem? (i := 0) rfl)) all0)
  refine Go.step (T' := T2) (f' := (mkF m 9 #[.val (.ref a1), .val (.ref a2)] [])) (fun _ k => st2.trans k) ?_
  refine goV X2 hx Bd.returns Bd.notSynchronized (hb hby d1_9) ?_ (by decide) (by decide)
  show Q_rmSi_9 Z a1 a2 cs kc c0 c1 c2 c3 c4 c5 c6 c7 c8 h0 n0 _ T2.heap _
  exact ⟨b_2, kb_2, rfl, N2, K3, sz_b_2, r2_1, r2_2, r2_3⟩
theorem ef_rmCpA11 (m : MethodId) (a1 : Addr) (a3 : Addr) : entryFrame m #[(.ref a1), (.int (0 : Int32)), (.ref a3), (.int (0 : Int32)), (.int (11 : Int32))] 7 = mkF m 0 #[.val (.ref a1), .val (.int (0 : Int32)), .val (.ref a3), .val (.int (0 : Int32)), .val (.int (11 : Int32)), .unset, .unset] [] := by first | (simp [entryFrame, mkF, argsToLocals, Value.category]; done) | rfl
def Q_rmCpA11 (Z : State) (a1 : Addr) (a3 : Addr) (kc : ClassId) (c0 : Int32) (c1 : Int32) (c2 : Int32) (c3 : Int32) (c4 : Int32) (c5 : Int32) (c6 : Int32) (c7 : Int32) (c8 : Int32) (c9 : Int32) (c10 : Int32) (kb : ClassId) (h0 : Heap) (n0 : Nat) (rv : Option Value) (hq : Heap) (Lq : List Loc) : Prop := rv = some (.int (11 : Int32)) ∧ Fr n0 Lq ∧ Keep h0 hq [a3] ∧ Arv Z hq a3 kb .byte (11 : Int32) [(.int (c0.toInt8.toInt32)), (.int (c1.toInt8.toInt32)), (.int (c2.toInt8.toInt32)), (.int (c3.toInt8.toInt32)), (.int (c4.toInt8.toInt32)), (.int (c5.toInt8.toInt32)), (.int (c6.toInt8.toInt32)), (.int (c7.toInt8.toInt32)), (.int (c8.toInt8.toInt32)), (.int (c9.toInt8.toInt32)), (.int (c10.toInt8.toInt32))] (.int (0 : Int32))
set_option maxRecDepth 65536 in
set_option maxHeartbeats 40000000 in
theorem rmCpA11 (l : Launch) (Z : State) (a0 : Array Value) (hw : ∀ d ∈ tables_1, d.before a0 Z = true) (ws : List Jvm.Cond) (a1 : Addr) (a3 : Addr) (kc : ClassId) (c0 : Int32) (c1 : Int32) (c2 : Int32) (c3 : Int32) (c4 : Int32) (c5 : Int32) (c6 : Int32) (c7 : Int32) (c8 : Int32) (c9 : Int32) (c10 : Int32) (kb : ClassId) (h0 : Heap) (n0 : Nat) (Z0 : n0 ≤ h0.size) (V_a1 : Arv Z h0 a1 kc .char (11 : Int32) [(.int c0), (.int c1), (.int c2), (.int c3), (.int c4), (.int c5), (.int c6), (.int c7), (.int c8), (.int c9), (.int c10)] (.int (0 : Int32))) (V_a3 : Arv Z h0 a3 kb .byte (11 : Int32) [(.int (0 : Int32)), (.int (0 : Int32)), (.int (0 : Int32)), (.int (0 : Int32)), (.int (0 : Int32)), (.int (0 : Int32)), (.int (0 : Int32)), (.int (0 : Int32)), (.int (0 : Int32)), (.int (0 : Int32)), (.int (0 : Int32))] (.int (0 : Int32))) (hne : a1 ≠ a3) (hl0 : ¬ (255 : Int32) < c0) (hl1 : ¬ (255 : Int32) < c1) (hl2 : ¬ (255 : Int32) < c2) (hl3 : ¬ (255 : Int32) < c3) (hl4 : ¬ (255 : Int32) < c4) (hl5 : ¬ (255 : Int32) < c5) (hl6 : ¬ (255 : Int32) < c6) (hl7 : ¬ (255 : Int32) < c7) (hl8 : ¬ (255 : Int32) < c8) (hl9 : ¬ (255 : Int32) < c9) (hl10 : ¬ (255 : Int32) < c10) (g_a3 : n0 ≤ a3) :
    MetFree l (⟨"java/lang/StringUTF16", "compress", "([CI[BII)I"⟩ : MethodName) (head1 (Jvm.Cond.code (⟨"java/lang/StringUTF16", "compress", "([CI[BII)I"⟩ : MethodName) jdk_52_method_21_code 7 (some .int) :: ws) ({ frames := 0, cells := 0, slots := 0, locals := 0 } : Room)) (fun a U => a = #[(.ref a1), (.int (0 : Int32)), (.ref a3), (.int (0 : Int32)), (.int (11 : Int32))] ∧ Z.Warmed39 U.vm ∧ U.heap = h0) (fun _ _ _ _ _ => True) (fun _ U o U' => ∃ rv Lq, o = .returned rv ∧ Q_rmCpA11 Z a1 a3 kc c0 c1 c2 c3 c4 c5 c6 c7 c8 c9 c10 kb h0 n0 rv U'.heap Lq ∧ FrameEnd U o U' Lq ({ frames := 0, cells := 0, slots := 0, locals := 0 } : Room).cells ({ frames := 0, cells := 0, slots := 0, locals := 0 } : Room).slots) := by
  refine MetFree.of_bodySF (plainFor_of_name pn_5) hisR ?_
  intro p e s m args below meth c s₁ Bd hml0 hP hK
  obtain ⟨rfl, hZ, hh⟩ := hP
  have hx := Bd.exec
  have hby := Bd.bytes
  have hml : c.maxLocals = 7 := hml0
  have hown : s.vm.findClass "java/lang/StringUTF16" = some m.cls := findClass_of_methodNamed Bd.named
  have hnm := (name_of_methodNamed Bd.named Bd.method).1
  have X0 : Stand p l e ({ frames := 0, cells := 0, slots := 0, locals := 0 } : Room) s m #[(.ref a1), (.int (0 : Int32)), (.ref a3), (.int (0 : Int32)), (.int (11 : Int32))] below meth c s₁ [] 0 0 := Stand.of_body Bd
  have e0 : s₁.heap = h0 := by rw [← hh, Bd.state]; rfl
  have N0 := Fr.nil n0
  refine of_go (ef_rmCpA11 m a1 a3) ?_
  refine Go.step (T' := s₁) (f' := (mkF m 1 #[.val (.ref a1), .val (.int (0 : Int32)), .val (.ref a3), .val (.int (0 : Int32)), .val (.int (11 : Int32)), .unset, .unset] [(.int (0 : Int32))])) (fun _ k => XS.iconst X0.here hx rfl (hb hby d5_0) k) ?_
  refine Go.step (T' := s₁) (f' := (mkF m 3 #[.val (.ref a1), .val (.int (0 : Int32)), .val (.ref a3), .val (.int (0 : Int32)), .val (.int (11 : Int32)), .val (.int (0 : Int32)), .unset] [])) (fun _ k => XS.istore X0.here hx rfl (hb hby d5_1) rfl (l' := #[.val (.ref a1), .val (.int (0 : Int32)), .val (.ref a3), .val (.int (0 : Int32)), .val (.int (11 : Int32)), .val (.int (0 : Int32)), .unset]) rfl k) ?_
  refine Go.step (T' := s₁) (f' := (mkF m 5 #[.val (.ref a1), .val (.int (0 : Int32)), .val (.ref a3), .val (.int (0 : Int32)), .val (.int (11 : Int32)), .val (.int (0 : Int32)), .unset] [(.int (0 : Int32))])) (fun _ k => XS.iload X0.here hx rfl (hb hby d5_3) rfl k) ?_
  refine Go.step (T' := s₁) (f' := (mkF m 7 #[.val (.ref a1), .val (.int (0 : Int32)), .val (.ref a3), .val (.int (0 : Int32)), .val (.int (11 : Int32)), .val (.int (0 : Int32)), .unset] [(.int (11 : Int32)), (.int (0 : Int32))])) (fun _ k => XS.iload X0.here hx rfl (hb hby d5_5) rfl k) ?_
  refine Go.step (T' := s₁) (f' := (mkF m 10 #[.val (.ref a1), .val (.int (0 : Int32)), .val (.ref a3), .val (.int (0 : Int32)), .val (.int (11 : Int32)), .val (.int (0 : Int32)), .unset] [])) (fun _ k => XS.icmpNo X0.here hx rfl (hb hby d5_7) rfl (tlt (by decide : (0 : Int32) < (11 : Int32))).2.1 k) ?_
  refine Go.step (T' := s₁) (f' := (mkF m 11 #[.val (.ref a1), .val (.int (0 : Int32)), .val (.ref a3), .val (.int (0 : Int32)), .val (.int (11 : Int32)), .val (.int (0 : Int32)), .unset] [(.ref a1)])) (fun _ k => XS.aloadN X0.here hx rfl (hb hby d5_10) rfl rfl k) ?_
  refine Go.step (T' := s₁) (f' := (mkF m 12 #[.val (.ref a1), .val (.int (0 : Int32)), .val (.ref a3), .val (.int (0 : Int32)), .val (.int (11 : Int32)), .val (.int (0 : Int32)), .unset] [(.int (0 : Int32)), (.ref a1)])) (fun _ k => XS.iloadN X0.here hx rfl (hb hby d5_11) rfl k) ?_
  obtain ⟨cl1, Ar1, qc1, Sz1, Nn1, Hs1, Gf1⟩ := id V_a1
  have hin2 : ¬ ((0 : Int32) < 0 ∨ cl1.slots.size ≤ ((0 : Int32)).toNatClampNeg) := (inb_of Sz1 ⟨by decide, by decide⟩)
  have hat2 : cl1.slots[((0 : Int32)).toNatClampNeg]? = some (.int c0) := Has.at Hs1 hin2 rfl
  refine Go.step (T' := s₁) (f' := (mkF m 13 #[.val (.ref a1), .val (.int (0 : Int32)), .val (.ref a3), .val (.int (0 : Int32)), .val (.int (11 : Int32)), .val (.int (0 : Int32)), .unset] [(.int c0)])) (fun _ k => X0.caload hx (j := (0 : Int32)) (v := (.int c0)) (by rw [e0]; exact Ar1.1) (State.isArrayOf_alike hZ.alike Ar1.2.1) Ar1.2.2 hin2 hat2 (g := (mkF m 12 #[.val (.ref a1), .val (.int (0 : Int32)), .val (.ref a3), .val (.int (0 : Int32)), .val (.int (11 : Int32)), .val (.int (0 : Int32)), .unset] [(.int (0 : Int32)), (.ref a1)])) rfl rfl (hb hby d5_12) _ k) ?_
  refine Go.step (T' := s₁) (f' := (mkF m 15 #[.val (.ref a1), .val (.int (0 : Int32)), .val (.ref a3), .val (.int (0 : Int32)), .val (.int (11 : Int32)), .val (.int (0 : Int32)), .val (.int c0)] [])) (fun _ k => XS.istore X0.here hx rfl (hb hby d5_13) rfl (l' := #[.val (.ref a1), .val (.int (0 : Int32)), .val (.ref a3), .val (.int (0 : Int32)), .val (.int (11 : Int32)), .val (.int (0 : Int32)), .val (.int c0)]) rfl k) ?_
  refine Go.step (T' := s₁) (f' := (mkF m 17 #[.val (.ref a1), .val (.int (0 : Int32)), .val (.ref a3), .val (.int (0 : Int32)), .val (.int (11 : Int32)), .val (.int (0 : Int32)), .val (.int c0)] [(.int c0)])) (fun _ k => XS.iload X0.here hx rfl (hb hby d5_15) rfl k) ?_
  refine Go.step (T' := s₁) (f' := (mkF m 20 #[.val (.ref a1), .val (.int (0 : Int32)), .val (.ref a3), .val (.int (0 : Int32)), .val (.int (11 : Int32)), .val (.int (0 : Int32)), .val (.int c0)] [(.int (255 : Int32)), (.int c0)])) (fun _ k => XS.sipush X0.here hx rfl (hb hby d5_17) k) ?_
  refine Go.step (T' := s₁) (f' := (mkF m 26 #[.val (.ref a1), .val (.int (0 : Int32)), .val (.ref a3), .val (.int (0 : Int32)), .val (.int (11 : Int32)), .val (.int (0 : Int32)), .val (.int c0)] [])) (fun _ k => XS.icmpYes X0.here hx rfl (pc0 := 20) (pc' := 26) rfl (hb hby d5_20) rfl (flt hl0).2.2.2 (by decide) (by decide) k) ?_
  refine Go.step (T' := s₁) (f' := (mkF m 27 #[.val (.ref a1), .val (.int (0 : Int32)), .val (.ref a3), .val (.int (0 : Int32)), .val (.int (11 : Int32)), .val (.int (0 : Int32)), .val (.int c0)] [(.ref a3)])) (fun _ k => XS.aloadN X0.here hx rfl (hb hby d5_26) rfl rfl k) ?_
  refine Go.step (T' := s₁) (f' := (mkF m 28 #[.val (.ref a1), .val (.int (0 : Int32)), .val (.ref a3), .val (.int (0 : Int32)), .val (.int (11 : Int32)), .val (.int (0 : Int32)), .val (.int c0)] [(.int (0 : Int32)), (.ref a3)])) (fun _ k => XS.iloadN X0.here hx rfl (hb hby d5_27) rfl k) ?_
  refine Go.step (T' := s₁) (f' := (mkF m 30 #[.val (.ref a1), .val (.int (0 : Int32)), .val (.ref a3), .val (.int (0 : Int32)), .val (.int (11 : Int32)), .val (.int (0 : Int32)), .val (.int c0)] [(.int c0), (.int (0 : Int32)), (.ref a3)])) (fun _ k => XS.iload X0.here hx rfl (hb hby d5_28) rfl k) ?_
  refine Go.step (T' := s₁) (f' := (mkF m 31 #[.val (.ref a1), .val (.int (0 : Int32)), .val (.ref a3), .val (.int (0 : Int32)), .val (.int (11 : Int32)), .val (.int (0 : Int32)), .val (.int c0)] [(.int (c0.toInt8.toInt32)), (.int (0 : Int32)), (.ref a3)])) (fun _ k => XS.i2b X0.here hx rfl (hb hby d5_30) rfl k) ?_
  obtain ⟨cl3, Ar3, qc3, Sz3, Nn3, Hs3, Gf3⟩ := id V_a3
  have hin4 : ¬ ((0 : Int32) < 0 ∨ cl3.slots.size ≤ ((0 : Int32)).toNatClampNeg) := (inb_of Sz3 ⟨by decide, by decide⟩)
  obtain ⟨T4, h4, X4, e4, W4, st4⟩ := stB X0 hx hZ e0 Ar3 (j := (0 : Int32)) hin4 (g := (mkF m 31 #[.val (.ref a1), .val (.int (0 : Int32)), .val (.ref a3), .val (.int (0 : Int32)), .val (.int (11 : Int32)), .val (.int (0 : Int32)), .val (.int c0)] [(.int (c0.toInt8.toInt32)), (.int (0 : Int32)), (.ref a3)])) rfl rfl (hb hby d5_31)
  have N4 := Fr.snoc X4 N0 g_a3
  have Z5 : n0 ≤ h4.size := Nat.le_trans Z0 (Keep.of_wr W4).1
  have K5 : Keep h0 h4 [a3] := (Keep.refl h0 [a3]).wr W4 (Or.inl (List.mem_of_getElem? (i := 0) rfl))
  rw [own_nb] at W4
  have Va4 : Arv Z h4 a3 kb .byte (11 : Int32) [(.int (c0.toInt8.toInt32)), (.int (0 : Int32)), (.int (0 : Int32)), (.int (0 : Int32)), (.int (0 : Int32)), (.int (0 : Int32)), (.int (0 : Int32)), (.int (0 : Int32)), (.int (0 : Int32)), (.int (0 : Int32)), (.int (0 : Int32))] (.int (0 : Int32)) := Arv.set Ar3 qc3 Sz3 Nn3 Hs3 Gf3 (fits_nar_byte _) W4 0 rfl (Nat.le_of_ble_eq_true rfl)
  refine Go.step (T' := T4) (f' := (mkF m 32 #[.val (.ref a1), .val (.int (0 : Int32)), .val (.ref a3), .val (.int (0 : Int32)), .val (.int (11 : Int32)), .val (.int (0 : Int32)), .val (.int c0)] [])) st4 ?_
  refine Go.step (T' := T4) (f' := (mkF m 35 #[.val (.ref a1), .val (.int (1 : Int32)), .val (.ref a3), .val (.int (0 : Int32)), .val (.int (11 : Int32)), .val (.int (0 : Int32)), .val (.int c0)] [])) (fun _ k => XS.iinc X4.here hx rfl (hb hby d5_32) rfl (l' := #[.val (.ref a1), .val (.int (1 : Int32)), .val (.ref a3), .val (.int (0 : Int32)), .val (.int (11 : Int32)), .val (.int (0 : Int32)), .val (.int c0)]) rfl k) ?_
  refine Go.step (T' := T4) (f' := (mkF m 38 #[.val (.ref a1), .val (.int (1 : Int32)), .val (.ref a3), .val (.int (1 : Int32)), .val (.int (11 : Int32)), .val (.int (0 : Int32)), .val (.int c0)] [])) (fun _ k => XS.iinc X4.here hx rfl (hb hby d5_35) rfl (l' := #[.val (.ref a1), .val (.int (1 : Int32)), .val (.ref a3), .val (.int (1 : Int32)), .val (.int (11 : Int32)), .val (.int (0 : Int32)), .val (.int c0)]) rfl k) ?_
  refine Go.step (T' := T4) (f' := (mkF m 41 #[.val (.ref a1), .val (.int (1 : Int32)), .val (.ref a3), .val (.int (1 : Int32)), .val (.int (11 : Int32)), .val (.int (1 : Int32)), .val (.int c0)] [])) (fun _ k => XS.iinc X4.here hx rfl (hb hby d5_38) rfl (l' := #[.val (.ref a1), .val (.int (1 : Int32)), .val (.ref a3), .val (.int (1 : Int32)), .val (.int (11 : Int32)), .val (.int (1 : Int32)), .val (.int c0)]) rfl k) ?_
  refine Go.step (T' := T4) (f' := (mkF m 3 #[.val (.ref a1), .val (.int (1 : Int32)), .val (.ref a3), .val (.int (1 : Int32)), .val (.int (11 : Int32)), .val (.int (1 : Int32)), .val (.int c0)] [])) (fun _ k => XS.goto X4.here hx rfl (pc0 := 41) (pc' := 3) rfl (hb hby d5_41) (by decide) (by decide) k) ?_
  refine Go.step (T' := T4) (f' := (mkF m 5 #[.val (.ref a1), .val (.int (1 : Int32)), .val (.ref a3), .val (.int (1 : Int32)), .val (.int (11 : Int32)), .val (.int (1 : Int32)), .val (.int c0)] [(.int (1 : Int32))])) (fun _ k => XS.iload X4.here hx rfl (hb hby d5_3) rfl k) ?_
  refine Go.step (T' := T4) (f' := (mkF m 7 #[.val (.ref a1), .val (.int (1 : Int32)), .val (.ref a3), .val (.int (1 : Int32)), .val (.int (11 : Int32)), .val (.int (1 : Int32)), .val (.int c0)] [(.int (11 : Int32)), (.int (1 : Int32))])) (fun _ k => XS.iload X4.here hx rfl (hb hby d5_5) rfl k) ?_
  refine Go.step (T' := T4) (f' := (mkF m 10 #[.val (.ref a1), .val (.int (1 : Int32)), .val (.ref a3), .val (.int (1 : Int32)), .val (.int (11 : Int32)), .val (.int (1 : Int32)), .val (.int c0)] [])) (fun _ k => XS.icmpNo X4.here hx rfl (hb hby d5_7) rfl (tlt (by decide : (1 : Int32) < (11 : Int32))).2.1 k) ?_
  refine Go.step (T' := T4) (f' := (mkF m 11 #[.val (.ref a1), .val (.int (1 : Int32)), .val (.ref a3), .val (.int (1 : Int32)), .val (.int (11 : Int32)), .val (.int (1 : Int32)), .val (.int c0)] [(.ref a1)])) (fun _ k => XS.aloadN X4.here hx rfl (hb hby d5_10) rfl rfl k) ?_
  refine Go.step (T' := T4) (f' := (mkF m 12 #[.val (.ref a1), .val (.int (1 : Int32)), .val (.ref a3), .val (.int (1 : Int32)), .val (.int (11 : Int32)), .val (.int (1 : Int32)), .val (.int c0)] [(.int (1 : Int32)), (.ref a1)])) (fun _ k => XS.iloadN X4.here hx rfl (hb hby d5_11) rfl k) ?_
  have q6 : Arv Z h4 a1 kc .char (11 : Int32) [(.int c0), (.int c1), (.int c2), (.int c3), (.int c4), (.int c5), (.int c6), (.int c7), (.int c8), (.int c9), (.int c10)] (.int (0 : Int32)) := (V_a1.other W4 hne)
  obtain ⟨cl7, Ar7, qc7, Sz7, Nn7, Hs7, Gf7⟩ := id q6
  have hin8 : ¬ ((1 : Int32) < 0 ∨ cl7.slots.size ≤ ((1 : Int32)).toNatClampNeg) := (inb_of Sz7 ⟨by decide, by decide⟩)
  have hat8 : cl7.slots[((1 : Int32)).toNatClampNeg]? = some (.int c1) := Has.at Hs7 hin8 rfl
  refine Go.step (T' := T4) (f' := (mkF m 13 #[.val (.ref a1), .val (.int (1 : Int32)), .val (.ref a3), .val (.int (1 : Int32)), .val (.int (11 : Int32)), .val (.int (1 : Int32)), .val (.int c0)] [(.int c1)])) (fun _ k => X4.caload hx (j := (1 : Int32)) (v := (.int c1)) (by rw [e4]; exact Ar7.1) (State.isArrayOf_alike hZ.alike Ar7.2.1) Ar7.2.2 hin8 hat8 (g := (mkF m 12 #[.val (.ref a1), .val (.int (1 : Int32)), .val (.ref a3), .val (.int (1 : Int32)), .val (.int (11 : Int32)), .val (.int (1 : Int32)), .val (.int c0)] [(.int (1 : Int32)), (.ref a1)])) rfl rfl (hb hby d5_12) _ k) ?_
  refine Go.step (T' := T4) (f' := (mkF m 15 #[.val (.ref a1), .val (.int (1 : Int32)), .val (.ref a3), .val (.int (1 : Int32)), .val (.int (11 : Int32)), .val (.int (1 : Int32)), .val (.int c1)] [])) (fun _ k => XS.istore X4.here hx rfl (hb hby d5_13) rfl (l' := #[.val (.ref a1), .val (.int (1 : Int32)), .val (.ref a3), .val (.int (1 : Int32)), .val (.int (11 : Int32)), .val (.int (1 : Int32)), .val (.int c1)]) rfl k) ?_
  refine Go.step (T' := T4) (f' := (mkF m 17 #[.val (.ref a1), .val (.int (1 : Int32)), .val (.ref a3), .val (.int (1 : Int32)), .val (.int (11 : Int32)), .val (.int (1 : Int32)), .val (.int c1)] [(.int c1)])) (fun _ k => XS.iload X4.here hx rfl (hb hby d5_15) rfl k) ?_
  refine Go.step (T' := T4) (f' := (mkF m 20 #[.val (.ref a1), .val (.int (1 : Int32)), .val (.ref a3), .val (.int (1 : Int32)), .val (.int (11 : Int32)), .val (.int (1 : Int32)), .val (.int c1)] [(.int (255 : Int32)), (.int c1)])) (fun _ k => XS.sipush X4.here hx rfl (hb hby d5_17) k) ?_
  refine Go.step (T' := T4) (f' := (mkF m 26 #[.val (.ref a1), .val (.int (1 : Int32)), .val (.ref a3), .val (.int (1 : Int32)), .val (.int (11 : Int32)), .val (.int (1 : Int32)), .val (.int c1)] [])) (fun _ k => XS.icmpYes X4.here hx rfl (pc0 := 20) (pc' := 26) rfl (hb hby d5_20) rfl (flt hl1).2.2.2 (by decide) (by decide) k) ?_
  refine Go.step (T' := T4) (f' := (mkF m 27 #[.val (.ref a1), .val (.int (1 : Int32)), .val (.ref a3), .val (.int (1 : Int32)), .val (.int (11 : Int32)), .val (.int (1 : Int32)), .val (.int c1)] [(.ref a3)])) (fun _ k => XS.aloadN X4.here hx rfl (hb hby d5_26) rfl rfl k) ?_
  refine Go.step (T' := T4) (f' := (mkF m 28 #[.val (.ref a1), .val (.int (1 : Int32)), .val (.ref a3), .val (.int (1 : Int32)), .val (.int (11 : Int32)), .val (.int (1 : Int32)), .val (.int c1)] [(.int (1 : Int32)), (.ref a3)])) (fun _ k => XS.iloadN X4.here hx rfl (hb hby d5_27) rfl k) ?_
  refine Go.step (T' := T4) (f' := (mkF m 30 #[.val (.ref a1), .val (.int (1 : Int32)), .val (.ref a3), .val (.int (1 : Int32)), .val (.int (11 : Int32)), .val (.int (1 : Int32)), .val (.int c1)] [(.int c1), (.int (1 : Int32)), (.ref a3)])) (fun _ k => XS.iload X4.here hx rfl (hb hby d5_28) rfl k) ?_
  refine Go.step (T' := T4) (f' := (mkF m 31 #[.val (.ref a1), .val (.int (1 : Int32)), .val (.ref a3), .val (.int (1 : Int32)), .val (.int (11 : Int32)), .val (.int (1 : Int32)), .val (.int c1)] [(.int (c1.toInt8.toInt32)), (.int (1 : Int32)), (.ref a3)])) (fun _ k => XS.i2b X4.here hx rfl (hb hby d5_30) rfl k) ?_
  obtain ⟨cl9, Ar9, qc9, Sz9, Nn9, Hs9, Gf9⟩ := id Va4
  have hin10 : ¬ ((1 : Int32) < 0 ∨ cl9.slots.size ≤ ((1 : Int32)).toNatClampNeg) := (inb_of Sz9 ⟨by decide, by decide⟩)
  obtain ⟨T10, h10, X10, e10, W10, st10⟩ := stB X4 hx hZ e4 Ar9 (j := (1 : Int32)) hin10 (g := (mkF m 31 #[.val (.ref a1), .val (.int (1 : Int32)), .val (.ref a3), .val (.int (1 : Int32)), .val (.int (11 : Int32)), .val (.int (1 : Int32)), .val (.int c1)] [(.int (c1.toInt8.toInt32)), (.int (1 : Int32)), (.ref a3)])) rfl rfl (hb hby d5_31)
  have N10 := Fr.snoc X10 N4 g_a3
  have Z11 : n0 ≤ h10.size := Nat.le_trans Z5 (Keep.of_wr W10).1
  have K11 : Keep h0 h10 [a3] := K5.wr W10 (Or.inl (List.mem_of_getElem? (i := 0) rfl))
  rw [own_nb] at W10
  have Va10 : Arv Z h10 a3 kb .byte (11 : Int32) [(.int (c0.toInt8.toInt32)), (.int (c1.toInt8.toInt32)), (.int (0 : Int32)), (.int (0 : Int32)), (.int (0 : Int32)), (.int (0 : Int32)), (.int (0 : Int32)), (.int (0 : Int32)), (.int (0 : Int32)), (.int (0 : Int32)), (.int (0 : Int32))] (.int (0 : Int32)) := Arv.set Ar9 qc9 Sz9 Nn9 Hs9 Gf9 (fits_nar_byte _) W10 1 rfl (Nat.le_of_ble_eq_true rfl)
  refine Go.step (T' := T10) (f' := (mkF m 32 #[.val (.ref a1), .val (.int (1 : Int32)), .val (.ref a3), .val (.int (1 : Int32)), .val (.int (11 : Int32)), .val (.int (1 : Int32)), .val (.int c1)] [])) st10 ?_
  refine Go.step (T' := T10) (f' := (mkF m 35 #[.val (.ref a1), .val (.int (2 : Int32)), .val (.ref a3), .val (.int (1 : Int32)), .val (.int (11 : Int32)), .val (.int (1 : Int32)), .val (.int c1)] [])) (fun _ k => XS.iinc X10.here hx rfl (hb hby d5_32) rfl (l' := #[.val (.ref a1), .val (.int (2 : Int32)), .val (.ref a3), .val (.int (1 : Int32)), .val (.int (11 : Int32)), .val (.int (1 : Int32)), .val (.int c1)]) rfl k) ?_
  refine Go.step (T' := T10) (f' := (mkF m 38 #[.val (.ref a1), .val (.int (2 : Int32)), .val (.ref a3), .val (.int (2 : Int32)), .val (.int (11 : Int32)), .val (.int (1 : Int32)), .val (.int c1)] [])) (fun _ k => XS.iinc X10.here hx rfl (hb hby d5_35) rfl (l' := #[.val (.ref a1), .val (.int (2 : Int32)), .val (.ref a3), .val (.int (2 : Int32)), .val (.int (11 : Int32)), .val (.int (1 : Int32)), .val (.int c1)]) rfl k) ?_
  refine Go.step (T' := T10) (f' := (mkF m 41 #[.val (.ref a1), .val (.int (2 : Int32)), .val (.ref a3), .val (.int (2 : Int32)), .val (.int (11 : Int32)), .val (.int (2 : Int32)), .val (.int c1)] [])) (fun _ k => XS.iinc X10.here hx rfl (hb hby d5_38) rfl (l' := #[.val (.ref a1), .val (.int (2 : Int32)), .val (.ref a3), .val (.int (2 : Int32)), .val (.int (11 : Int32)), .val (.int (2 : Int32)), .val (.int c1)]) rfl k) ?_
  refine Go.step (T' := T10) (f' := (mkF m 3 #[.val (.ref a1), .val (.int (2 : Int32)), .val (.ref a3), .val (.int (2 : Int32)), .val (.int (11 : Int32)), .val (.int (2 : Int32)), .val (.int c1)] [])) (fun _ k => XS.goto X10.here hx rfl (pc0 := 41) (pc' := 3) rfl (hb hby d5_41) (by decide) (by decide) k) ?_
  refine Go.step (T' := T10) (f' := (mkF m 5 #[.val (.ref a1), .val (.int (2 : Int32)), .val (.ref a3), .val (.int (2 : Int32)), .val (.int (11 : Int32)), .val (.int (2 : Int32)), .val (.int c1)] [(.int (2 : Int32))])) (fun _ k => XS.iload X10.here hx rfl (hb hby d5_3) rfl k) ?_
  refine Go.step (T' := T10) (f' := (mkF m 7 #[.val (.ref a1), .val (.int (2 : Int32)), .val (.ref a3), .val (.int (2 : Int32)), .val (.int (11 : Int32)), .val (.int (2 : Int32)), .val (.int c1)] [(.int (11 : Int32)), (.int (2 : Int32))])) (fun _ k => XS.iload X10.here hx rfl (hb hby d5_5) rfl k) ?_
  refine Go.step (T' := T10) (f' := (mkF m 10 #[.val (.ref a1), .val (.int (2 : Int32)), .val (.ref a3), .val (.int (2 : Int32)), .val (.int (11 : Int32)), .val (.int (2 : Int32)), .val (.int c1)] [])) (fun _ k => XS.icmpNo X10.here hx rfl (hb hby d5_7) rfl (tlt (by decide : (2 : Int32) < (11 : Int32))).2.1 k) ?_
  refine Go.step (T' := T10) (f' := (mkF m 11 #[.val (.ref a1), .val (.int (2 : Int32)), .val (.ref a3), .val (.int (2 : Int32)), .val (.int (11 : Int32)), .val (.int (2 : Int32)), .val (.int c1)] [(.ref a1)])) (fun _ k => XS.aloadN X10.here hx rfl (hb hby d5_10) rfl rfl k) ?_
  refine Go.step (T' := T10) (f' := (mkF m 12 #[.val (.ref a1), .val (.int (2 : Int32)), .val (.ref a3), .val (.int (2 : Int32)), .val (.int (11 : Int32)), .val (.int (2 : Int32)), .val (.int c1)] [(.int (2 : Int32)), (.ref a1)])) (fun _ k => XS.iloadN X10.here hx rfl (hb hby d5_11) rfl k) ?_
  have q12 : Arv Z h10 a1 kc .char (11 : Int32) [(.int c0), (.int c1), (.int c2), (.int c3), (.int c4), (.int c5), (.int c6), (.int c7), (.int c8), (.int c9), (.int c10)] (.int (0 : Int32)) := (q6.other W10 hne)
  obtain ⟨cl13, Ar13, qc13, Sz13, Nn13, Hs13, Gf13⟩ := id q12
  have hin14 : ¬ ((2 : Int32) < 0 ∨ cl13.slots.size ≤ ((2 : Int32)).toNatClampNeg) := (inb_of Sz13 ⟨by decide, by decide⟩)
  have hat14 : cl13.slots[((2 : Int32)).toNatClampNeg]? = some (.int c2) := Has.at Hs13 hin14 rfl
  refine Go.step (T' := T10) (f' := (mkF m 13 #[.val (.ref a1), .val (.int (2 : Int32)), .val (.ref a3), .val (.int (2 : Int32)), .val (.int (11 : Int32)), .val (.int (2 : Int32)), .val (.int c1)] [(.int c2)])) (fun _ k => X10.caload hx (j := (2 : Int32)) (v := (.int c2)) (by rw [e10]; exact Ar13.1) (State.isArrayOf_alike hZ.alike Ar13.2.1) Ar13.2.2 hin14 hat14 (g := (mkF m 12 #[.val (.ref a1), .val (.int (2 : Int32)), .val (.ref a3), .val (.int (2 : Int32)), .val (.int (11 : Int32)), .val (.int (2 : Int32)), .val (.int c1)] [(.int (2 : Int32)), (.ref a1)])) rfl rfl (hb hby d5_12) _ k) ?_
  refine Go.step (T' := T10) (f' := (mkF m 15 #[.val (.ref a1), .val (.int (2 : Int32)), .val (.ref a3), .val (.int (2 : Int32)), .val (.int (11 : Int32)), .val (.int (2 : Int32)), .val (.int c2)] [])) (fun _ k => XS.istore X10.here hx rfl (hb hby d5_13) rfl (l' := #[.val (.ref a1), .val (.int (2 : Int32)), .val (.ref a3), .val (.int (2 : Int32)), .val (.int (11 : Int32)), .val (.int (2 : Int32)), .val (.int c2)]) rfl k) ?_
  refine Go.step (T' := T10) (f' := (mkF m 17 #[.val (.ref a1), .val (.int (2 : Int32)), .val (.ref a3), .val (.int (2 : Int32)), .val (.int (11 : Int32)), .val (.int (2 : Int32)), .val (.int c2)] [(.int c2)])) (fun _ k => XS.iload X10.here hx rfl (hb hby d5_15) rfl k) ?_
  refine Go.step (T' := T10) (f' := (mkF m 20 #[.val (.ref a1), .val (.int (2 : Int32)), .val (.ref a3), .val (.int (2 : Int32)), .val (.int (11 : Int32)), .val (.int (2 : Int32)), .val (.int c2)] [(.int (255 : Int32)), (.int c2)])) (fun _ k => XS.sipush X10.here hx rfl (hb hby d5_17) k) ?_
  refine Go.step (T' := T10) (f' := (mkF m 26 #[.val (.ref a1), .val (.int (2 : Int32)), .val (.ref a3), .val (.int (2 : Int32)), .val (.int (11 : Int32)), .val (.int (2 : Int32)), .val (.int c2)] [])) (fun _ k => XS.icmpYes X10.here hx rfl (pc0 := 20) (pc' := 26) rfl (hb hby d5_20) rfl (flt hl2).2.2.2 (by decide) (by decide) k) ?_
  refine Go.step (T' := T10) (f' := (mkF m 27 #[.val (.ref a1), .val (.int (2 : Int32)), .val (.ref a3), .val (.int (2 : Int32)), .val (.int (11 : Int32)), .val (.int (2 : Int32)), .val (.int c2)] [(.ref a3)])) (fun _ k => XS.aloadN X10.here hx rfl (hb hby d5_26) rfl rfl k) ?_
  refine Go.step (T' := T10) (f' := (mkF m 28 #[.val (.ref a1), .val (.int (2 : Int32)), .val (.ref a3), .val (.int (2 : Int32)), .val (.int (11 : Int32)), .val (.int (2 : Int32)), .val (.int c2)] [(.int (2 : Int32)), (.ref a3)])) (fun _ k => XS.iloadN X10.here hx rfl (hb hby d5_27) rfl k) ?_
  refine Go.step (T' := T10) (f' := (mkF m 30 #[.val (.ref a1), .val (.int (2 : Int32)), .val (.ref a3), .val (.int (2 : Int32)), .val (.int (11 : Int32)), .val (.int (2 : Int32)), .val (.int c2)] [(.int c2), (.int (2 : Int32)), (.ref a3)])) (fun _ k => XS.iload X10.here hx rfl (hb hby d5_28) rfl k) ?_
  refine Go.step (T' := T10) (f' := (mkF m 31 #[.val (.ref a1), .val (.int (2 : Int32)), .val (.ref a3), .val (.int (2 : Int32)), .val (.int (11 : Int32)), .val (.int (2 : Int32)), .val (.int c2)] [(.int (c2.toInt8.toInt32)), (.int (2 : Int32)), (.ref a3)])) (fun _ k => XS.i2b X10.here hx rfl (hb hby d5_30) rfl k) ?_
  obtain ⟨cl15, Ar15, qc15, Sz15, Nn15, Hs15, Gf15⟩ := id Va10
  have hin16 : ¬ ((2 : Int32) < 0 ∨ cl15.slots.size ≤ ((2 : Int32)).toNatClampNeg) := (inb_of Sz15 ⟨by decide, by decide⟩)
  obtain ⟨T16, h16, X16, e16, W16, st16⟩ := stB X10 hx hZ e10 Ar15 (j := (2 : Int32)) hin16 (g := (mkF m 31 #[.val (.ref a1), .val (.int (2 : Int32)), .val (.ref a3), .val (.int (2 : Int32)), .val (.int (11 : Int32)), .val (.int (2 : Int32)), .val (.int c2)] [(.int (c2.toInt8.toInt32)), (.int (2 : Int32)), (.ref a3)])) rfl rfl (hb hby d5_31)
  have N16 := Fr.snoc X16 N10 g_a3
  have Z17 : n0 ≤ h16.size := Nat.le_trans Z11 (Keep.of_wr W16).1
  have K17 : Keep h0 h16 [a3] := K11.wr W16 (Or.inl (List.mem_of_getElem? (i := 0) rfl))
  rw [own_nb] at W16
  have Va16 : Arv Z h16 a3 kb .byte (11 : Int32) [(.int (c0.toInt8.toInt32)), (.int (c1.toInt8.toInt32)), (.int (c2.toInt8.toInt32)), (.int (0 : Int32)), (.int (0 : Int32)), (.int (0 : Int32)), (.int (0 : Int32)), (.int (0 : Int32)), (.int (0 : Int32)), (.int (0 : Int32)), (.int (0 : Int32))] (.int (0 : Int32)) := Arv.set Ar15 qc15 Sz15 Nn15 Hs15 Gf15 (fits_nar_byte _) W16 2 rfl (Nat.le_of_ble_eq_true rfl)
  refine Go.step (T' := T16) (f' := (mkF m 32 #[.val (.ref a1), .val (.int (2 : Int32)), .val (.ref a3), .val (.int (2 : Int32)), .val (.int (11 : Int32)), .val (.int (2 : Int32)), .val (.int c2)] [])) st16 ?_
  refine Go.step (T' := T16) (f' := (mkF m 35 #[.val (.ref a1), .val (.int (3 : Int32)), .val (.ref a3), .val (.int (2 : Int32)), .val (.int (11 : Int32)), .val (.int (2 : Int32)), .val (.int c2)] [])) (fun _ k => XS.iinc X16.here hx rfl (hb hby d5_32) rfl (l' := #[.val (.ref a1), .val (.int (3 : Int32)), .val (.ref a3), .val (.int (2 : Int32)), .val (.int (11 : Int32)), .val (.int (2 : Int32)), .val (.int c2)]) rfl k) ?_
  refine Go.step (T' := T16) (f' := (mkF m 38 #[.val (.ref a1), .val (.int (3 : Int32)), .val (.ref a3), .val (.int (3 : Int32)), .val (.int (11 : Int32)), .val (.int (2 : Int32)), .val (.int c2)] [])) (fun _ k => XS.iinc X16.here hx rfl (hb hby d5_35) rfl (l' := #[.val (.ref a1), .val (.int (3 : Int32)), .val (.ref a3), .val (.int (3 : Int32)), .val (.int (11 : Int32)), .val (.int (2 : Int32)), .val (.int c2)]) rfl k) ?_
  refine Go.step (T' := T16) (f' := (mkF m 41 #[.val (.ref a1), .val (.int (3 : Int32)), .val (.ref a3), .val (.int (3 : Int32)), .val (.int (11 : Int32)), .val (.int (3 : Int32)), .val (.int c2)] [])) (fun _ k => XS.iinc X16.here hx rfl (hb hby d5_38) rfl (l' := #[.val (.ref a1), .val (.int (3 : Int32)), .val (.ref a3), .val (.int (3 : Int32)), .val (.int (11 : Int32)), .val (.int (3 : Int32)), .val (.int c2)]) rfl k) ?_
  refine Go.step (T' := T16) (f' := (mkF m 3 #[.val (.ref a1), .val (.int (3 : Int32)), .val (.ref a3), .val (.int (3 : Int32)), .val (.int (11 : Int32)), .val (.int (3 : Int32)), .val (.int c2)] [])) (fun _ k => XS.goto X16.here hx rfl (pc0 := 41) (pc' := 3) rfl (hb hby d5_41) (by decide) (by decide) k) ?_
  refine Go.step (T' := T16) (f' := (mkF m 5 #[.val (.ref a1), .val (.int (3 : Int32)), .val (.ref a3), .val (.int (3 : Int32)), .val (.int (11 : Int32)), .val (.int (3 : Int32)), .val (.int c2)] [(.int (3 : Int32))])) (fun _ k => XS.iload X16.here hx rfl (hb hby d5_3) rfl k) ?_
  refine Go.step (T' := T16) (f' := (mkF m 7 #[.val (.ref a1), .val (.int (3 : Int32)), .val (.ref a3), .val (.int (3 : Int32)), .val (.int (11 : Int32)), .val (.int (3 : Int32)), .val (.int c2)] [(.int (11 : Int32)), (.int (3 : Int32))])) (fun _ k => XS.iload X16.here hx rfl (hb hby d5_5) rfl k) ?_
  refine Go.step (T' := T16) (f' := (mkF m 10 #[.val (.ref a1), .val (.int (3 : Int32)), .val (.ref a3), .val (.int (3 : Int32)), .val (.int (11 : Int32)), .val (.int (3 : Int32)), .val (.int c2)] [])) (fun _ k => XS.icmpNo X16.here hx rfl (hb hby d5_7) rfl (tlt (by decide : (3 : Int32) < (11 : Int32))).2.1 k) ?_
  refine Go.step (T' := T16) (f' := (mkF m 11 #[.val (.ref a1), .val (.int (3 : Int32)), .val (.ref a3), .val (.int (3 : Int32)), .val (.int (11 : Int32)), .val (.int (3 : Int32)), .val (.int c2)] [(.ref a1)])) (fun _ k => XS.aloadN X16.here hx rfl (hb hby d5_10) rfl rfl k) ?_
  refine Go.step (T' := T16) (f' := (mkF m 12 #[.val (.ref a1), .val (.int (3 : Int32)), .val (.ref a3), .val (.int (3 : Int32)), .val (.int (11 : Int32)), .val (.int (3 : Int32)), .val (.int c2)] [(.int (3 : Int32)), (.ref a1)])) (fun _ k => XS.iloadN X16.here hx rfl (hb hby d5_11) rfl k) ?_
  have q18 : Arv Z h16 a1 kc .char (11 : Int32) [(.int c0), (.int c1), (.int c2), (.int c3), (.int c4), (.int c5), (.int c6), (.int c7), (.int c8), (.int c9), (.int c10)] (.int (0 : Int32)) := (q12.other W16 hne)
  obtain ⟨cl19, Ar19, qc19, Sz19, Nn19, Hs19, Gf19⟩ := id q18
  have hin20 : ¬ ((3 : Int32) < 0 ∨ cl19.slots.size ≤ ((3 : Int32)).toNatClampNeg) := (inb_of Sz19 ⟨by decide, by decide⟩)
  have hat20 : cl19.slots[((3 : Int32)).toNatClampNeg]? = some (.int c3) := Has.at Hs19 hin20 rfl
  refine Go.step (T' := T16) (f' := (mkF m 13 #[.val (.ref a1), .val (.int (3 : Int32)), .val (.ref a3), .val (.int (3 : Int32)), .val (.int (11 : Int32)), .val (.int (3 : Int32)), .val (.int c2)] [(.int c3)])) (fun _ k => X16.caload hx (j := (3 : Int32)) (v := (.int c3)) (by rw [e16]; exact Ar19.1) (State.isArrayOf_alike hZ.alike Ar19.2.1) Ar19.2.2 hin20 hat20 (g := (mkF m 12 #[.val (.ref a1), .val (.int (3 : Int32)), .val (.ref a3), .val (.int (3 : Int32)), .val (.int (11 : Int32)), .val (.int (3 : Int32)), .val (.int c2)] [(.int (3 : Int32)), (.ref a1)])) rfl rfl (hb hby d5_12) _ k) ?_
  refine Go.step (T' := T16) (f' := (mkF m 15 #[.val (.ref a1), .val (.int (3 : Int32)), .val (.ref a3), .val (.int (3 : Int32)), .val (.int (11 : Int32)), .val (.int (3 : Int32)), .val (.int c3)] [])) (fun _ k => XS.istore X16.here hx rfl (hb hby d5_13) rfl (l' := #[.val (.ref a1), .val (.int (3 : Int32)), .val (.ref a3), .val (.int (3 : Int32)), .val (.int (11 : Int32)), .val (.int (3 : Int32)), .val (.int c3)]) rfl k) ?_
  refine Go.step (T' := T16) (f' := (mkF m 17 #[.val (.ref a1), .val (.int (3 : Int32)), .val (.ref a3), .val (.int (3 : Int32)), .val (.int (11 : Int32)), .val (.int (3 : Int32)), .val (.int c3)] [(.int c3)])) (fun _ k => XS.iload X16.here hx rfl (hb hby d5_15) rfl k) ?_
  refine Go.step (T' := T16) (f' := (mkF m 20 #[.val (.ref a1), .val (.int (3 : Int32)), .val (.ref a3), .val (.int (3 : Int32)), .val (.int (11 : Int32)), .val (.int (3 : Int32)), .val (.int c3)] [(.int (255 : Int32)), (.int c3)])) (fun _ k => XS.sipush X16.here hx rfl (hb hby d5_17) k) ?_
  refine Go.step (T' := T16) (f' := (mkF m 26 #[.val (.ref a1), .val (.int (3 : Int32)), .val (.ref a3), .val (.int (3 : Int32)), .val (.int (11 : Int32)), .val (.int (3 : Int32)), .val (.int c3)] [])) (fun _ k => XS.icmpYes X16.here hx rfl (pc0 := 20) (pc' := 26) rfl (hb hby d5_20) rfl (flt hl3).2.2.2 (by decide) (by decide) k) ?_
  refine Go.step (T' := T16) (f' := (mkF m 27 #[.val (.ref a1), .val (.int (3 : Int32)), .val (.ref a3), .val (.int (3 : Int32)), .val (.int (11 : Int32)), .val (.int (3 : Int32)), .val (.int c3)] [(.ref a3)])) (fun _ k => XS.aloadN X16.here hx rfl (hb hby d5_26) rfl rfl k) ?_
  refine Go.step (T' := T16) (f' := (mkF m 28 #[.val (.ref a1), .val (.int (3 : Int32)), .val (.ref a3), .val (.int (3 : Int32)), .val (.int (11 : Int32)), .val (.int (3 : Int32)), .val (.int c3)] [(.int (3 : Int32)), (.ref a3)])) (fun _ k => XS.iloadN X16.here hx rfl (hb hby d5_27) rfl k) ?_
  refine Go.step (T' := T16) (f' := (mkF m 30 #[.val (.ref a1), .val (.int (3 : Int32)), .val (.ref a3), .val (.int (3 : Int32)), .val (.int (11 : Int32)), .val (.int (3 : Int32)), .val (.int c3)] [(.int c3), (.int (3 : Int32)), (.ref a3)])) (fun _ k => XS.iload X16.here hx rfl (hb hby d5_28) rfl k) ?_
  refine Go.step (T' := T16) (f' := (mkF m 31 #[.val (.ref a1), .val (.int (3 : Int32)), .val (.ref a3), .val (.int (3 : Int32)), .val (.int (11 : Int32)), .val (.int (3 : Int32)), .val (.int c3)] [(.int (c3.toInt8.toInt32)), (.int (3 : Int32)), (.ref a3)])) (fun _ k => XS.i2b X16.here hx rfl (hb hby d5_30) rfl k) ?_
  obtain ⟨cl21, Ar21, qc21, Sz21, Nn21, Hs21, Gf21⟩ := id Va16
  have hin22 : ¬ ((3 : Int32) < 0 ∨ cl21.slots.size ≤ ((3 : Int32)).toNatClampNeg) := (inb_of Sz21 ⟨by decide, by decide⟩)
  obtain ⟨T22, h22, X22, e22, W22, st22⟩ := stB X16 hx hZ e16 Ar21 (j := (3 : Int32)) hin22 (g := (mkF m 31 #[.val (.ref a1), .val (.int (3 : Int32)), .val (.ref a3), .val (.int (3 : Int32)), .val (.int (11 : Int32)), .val (.int (3 : Int32)), .val (.int c3)] [(.int (c3.toInt8.toInt32)), (.int (3 : Int32)), (.ref a3)])) rfl rfl (hb hby d5_31)
  have N22 := Fr.snoc X22 N16 g_a3
  have Z23 : n0 ≤ h22.size := Nat.le_trans Z17 (Keep.of_wr W22).1
  have K23 : Keep h0 h22 [a3] := K17.wr W22 (Or.inl (List.mem_of_getElem? (i := 0) rfl))
  rw [own_nb] at W22
  have Va22 : Arv Z h22 a3 kb .byte (11 : Int32) [(.int (c0.toInt8.toInt32)), (.int (c1.toInt8.toInt32)), (.int (c2.toInt8.toInt32)), (.int (c3.toInt8.toInt32)), (.int (0 : Int32)), (.int (0 : Int32)), (.int (0 : Int32)), (.int (0 : Int32)), (.int (0 : Int32)), (.int (0 : Int32)), (.int (0 : Int32))] (.int (0 : Int32)) := Arv.set Ar21 qc21 Sz21 Nn21 Hs21 Gf21 (fits_nar_byte _) W22 3 rfl (Nat.le_of_ble_eq_true rfl)
  refine Go.step (T' := T22) (f' := (mkF m 32 #[.val (.ref a1), .val (.int (3 : Int32)), .val (.ref a3), .val (.int (3 : Int32)), .val (.int (11 : Int32)), .val (.int (3 : Int32)), .val (.int c3)] [])) st22 ?_
  refine Go.step (T' := T22) (f' := (mkF m 35 #[.val (.ref a1), .val (.int (4 : Int32)), .val (.ref a3), .val (.int (3 : Int32)), .val (.int (11 : Int32)), .val (.int (3 : Int32)), .val (.int c3)] [])) (fun _ k => XS.iinc X22.here hx rfl (hb hby d5_32) rfl (l' := #[.val (.ref a1), .val (.int (4 : Int32)), .val (.ref a3), .val (.int (3 : Int32)), .val (.int (11 : Int32)), .val (.int (3 : Int32)), .val (.int c3)]) rfl k) ?_
  refine Go.step (T' := T22) (f' := (mkF m 38 #[.val (.ref a1), .val (.int (4 : Int32)), .val (.ref a3), .val (.int (4 : Int32)), .val (.int (11 : Int32)), .val (.int (3 : Int32)), .val (.int c3)] [])) (fun _ k => XS.iinc X22.here hx rfl (hb hby d5_35) rfl (l' := #[.val (.ref a1), .val (.int (4 : Int32)), .val (.ref a3), .val (.int (4 : Int32)), .val (.int (11 : Int32)), .val (.int (3 : Int32)), .val (.int c3)]) rfl k) ?_
  refine Go.step (T' := T22) (f' := (mkF m 41 #[.val (.ref a1), .val (.int (4 : Int32)), .val (.ref a3), .val (.int (4 : Int32)), .val (.int (11 : Int32)), .val (.int (4 : Int32)), .val (.int c3)] [])) (fun _ k => XS.iinc X22.here hx rfl (hb hby d5_38) rfl (l' := #[.val (.ref a1), .val (.int (4 : Int32)), .val (.ref a3), .val (.int (4 : Int32)), .val (.int (11 : Int32)), .val (.int (4 : Int32)), .val (.int c3)]) rfl k) ?_
  refine Go.step (T' := T22) (f' := (mkF m 3 #[.val (.ref a1), .val (.int (4 : Int32)), .val (.ref a3), .val (.int (4 : Int32)), .val (.int (11 : Int32)), .val (.int (4 : Int32)), .val (.int c3)] [])) (fun _ k => XS.goto X22.here hx rfl (pc0 := 41) (pc' := 3) rfl (hb hby d5_41) (by decide) (by decide) k) ?_
  refine Go.step (T' := T22) (f' := (mkF m 5 #[.val (.ref a1), .val (.int (4 : Int32)), .val (.ref a3), .val (.int (4 : Int32)), .val (.int (11 : Int32)), .val (.int (4 : Int32)), .val (.int c3)] [(.int (4 : Int32))])) (fun _ k => XS.iload X22.here hx rfl (hb hby d5_3) rfl k) ?_
  refine Go.step (T' := T22) (f' := (mkF m 7 #[.val (.ref a1), .val (.int (4 : Int32)), .val (.ref a3), .val (.int (4 : Int32)), .val (.int (11 : Int32)), .val (.int (4 : Int32)), .val (.int c3)] [(.int (11 : Int32)), (.int (4 : Int32))])) (fun _ k => XS.iload X22.here hx rfl (hb hby d5_5) rfl k) ?_
  refine Go.step (T' := T22) (f' := (mkF m 10 #[.val (.ref a1), .val (.int (4 : Int32)), .val (.ref a3), .val (.int (4 : Int32)), .val (.int (11 : Int32)), .val (.int (4 : Int32)), .val (.int c3)] [])) (fun _ k => XS.icmpNo X22.here hx rfl (hb hby d5_7) rfl (tlt (by decide : (4 : Int32) < (11 : Int32))).2.1 k) ?_
  refine Go.step (T' := T22) (f' := (mkF m 11 #[.val (.ref a1), .val (.int (4 : Int32)), .val (.ref a3), .val (.int (4 : Int32)), .val (.int (11 : Int32)), .val (.int (4 : Int32)), .val (.int c3)] [(.ref a1)])) (fun _ k => XS.aloadN X22.here hx rfl (hb hby d5_10) rfl rfl k) ?_
  refine Go.step (T' := T22) (f' := (mkF m 12 #[.val (.ref a1), .val (.int (4 : Int32)), .val (.ref a3), .val (.int (4 : Int32)), .val (.int (11 : Int32)), .val (.int (4 : Int32)), .val (.int c3)] [(.int (4 : Int32)), (.ref a1)])) (fun _ k => XS.iloadN X22.here hx rfl (hb hby d5_11) rfl k) ?_
  have q24 : Arv Z h22 a1 kc .char (11 : Int32) [(.int c0), (.int c1), (.int c2), (.int c3), (.int c4), (.int c5), (.int c6), (.int c7), (.int c8), (.int c9), (.int c10)] (.int (0 : Int32)) := (q18.other W22 hne)
  obtain ⟨cl25, Ar25, qc25, Sz25, Nn25, Hs25, Gf25⟩ := id q24
  have hin26 : ¬ ((4 : Int32) < 0 ∨ cl25.slots.size ≤ ((4 : Int32)).toNatClampNeg) := (inb_of Sz25 ⟨by decide, by decide⟩)
  have hat26 : cl25.slots[((4 : Int32)).toNatClampNeg]? = some (.int c4) := Has.at Hs25 hin26 rfl
  refine Go.step (T' := T22) (f' := (mkF m 13 #[.val (.ref a1), .val (.int (4 : Int32)), .val (.ref a3), .val (.int (4 : Int32)), .val (.int (11 : Int32)), .val (.int (4 : Int32)), .val (.int c3)] [(.int c4)])) (fun _ k => X22.caload hx (j := (4 : Int32)) (v := (.int c4)) (by rw [e22]; exact Ar25.1) (State.isArrayOf_alike hZ.alike Ar25.2.1) Ar25.2.2 hin26 hat26 (g := (mkF m 12 #[.val (.ref a1), .val (.int (4 : Int32)), .val (.ref a3), .val (.int (4 : Int32)), .val (.int (11 : Int32)), .val (.int (4 : Int32)), .val (.int c3)] [(.int (4 : Int32)), (.ref a1)])) rfl rfl (hb hby d5_12) _ k) ?_
  refine Go.step (T' := T22) (f' := (mkF m 15 #[.val (.ref a1), .val (.int (4 : Int32)), .val (.ref a3), .val (.int (4 : Int32)), .val (.int (11 : Int32)), .val (.int (4 : Int32)), .val (.int c4)] [])) (fun _ k => XS.istore X22.here hx rfl (hb hby d5_13) rfl (l' := #[.val (.ref a1), .val (.int (4 : Int32)), .val (.ref a3), .val (.int (4 : Int32)), .val (.int (11 : Int32)), .val (.int (4 : Int32)), .val (.int c4)]) rfl k) ?_
  refine Go.step (T' := T22) (f' := (mkF m 17 #[.val (.ref a1), .val (.int (4 : Int32)), .val (.ref a3), .val (.int (4 : Int32)), .val (.int (11 : Int32)), .val (.int (4 : Int32)), .val (.int c4)] [(.int c4)])) (fun _ k => XS.iload X22.here hx rfl (hb hby d5_15) rfl k) ?_
  refine Go.step (T' := T22) (f' := (mkF m 20 #[.val (.ref a1), .val (.int (4 : Int32)), .val (.ref a3), .val (.int (4 : Int32)), .val (.int (11 : Int32)), .val (.int (4 : Int32)), .val (.int c4)] [(.int (255 : Int32)), (.int c4)])) (fun _ k => XS.sipush X22.here hx rfl (hb hby d5_17) k) ?_
  refine Go.step (T' := T22) (f' := (mkF m 26 #[.val (.ref a1), .val (.int (4 : Int32)), .val (.ref a3), .val (.int (4 : Int32)), .val (.int (11 : Int32)), .val (.int (4 : Int32)), .val (.int c4)] [])) (fun _ k => XS.icmpYes X22.here hx rfl (pc0 := 20) (pc' := 26) rfl (hb hby d5_20) rfl (flt hl4).2.2.2 (by decide) (by decide) k) ?_
  refine Go.step (T' := T22) (f' := (mkF m 27 #[.val (.ref a1), .val (.int (4 : Int32)), .val (.ref a3), .val (.int (4 : Int32)), .val (.int (11 : Int32)), .val (.int (4 : Int32)), .val (.int c4)] [(.ref a3)])) (fun _ k => XS.aloadN X22.here hx rfl (hb hby d5_26) rfl rfl k) ?_
  refine Go.step (T' := T22) (f' := (mkF m 28 #[.val (.ref a1), .val (.int (4 : Int32)), .val (.ref a3), .val (.int (4 : Int32)), .val (.int (11 : Int32)), .val (.int (4 : Int32)), .val (.int c4)] [(.int (4 : Int32)), (.ref a3)])) (fun _ k => XS.iloadN X22.here hx rfl (hb hby d5_27) rfl k) ?_
  refine Go.step (T' := T22) (f' := (mkF m 30 #[.val (.ref a1), .val (.int (4 : Int32)), .val (.ref a3), .val (.int (4 : Int32)), .val (.int (11 : Int32)), .val (.int (4 : Int32)), .val (.int c4)] [(.int c4), (.int (4 : Int32)), (.ref a3)])) (fun _ k => XS.iload X22.here hx rfl (hb hby d5_28) rfl k) ?_
  refine Go.step (T' := T22) (f' := (mkF m 31 #[.val (.ref a1), .val (.int (4 : Int32)), .val (.ref a3), .val (.int (4 : Int32)), .val (.int (11 : Int32)), .val (.int (4 : Int32)), .val (.int c4)] [(.int (c4.toInt8.toInt32)), (.int (4 : Int32)), (.ref a3)])) (fun _ k => XS.i2b X22.here hx rfl (hb hby d5_30) rfl k) ?_
  obtain ⟨cl27, Ar27, qc27, Sz27, Nn27, Hs27, Gf27⟩ := id Va22
  have hin28 : ¬ ((4 : Int32) < 0 ∨ cl27.slots.size ≤ ((4 : Int32)).toNatClampNeg) := (inb_of Sz27 ⟨by decide, by decide⟩)
  obtain ⟨T28, h28, X28, e28, W28, st28⟩ := stB X22 hx hZ e22 Ar27 (j := (4 : Int32)) hin28 (g := (mkF m 31 #[.val (.ref a1), .val (.int (4 : Int32)), .val (.ref a3), .val (.int (4 : Int32)), .val (.int (11 : Int32)), .val (.int (4 : Int32)), .val (.int c4)] [(.int (c4.toInt8.toInt32)), (.int (4 : Int32)), (.ref a3)])) rfl rfl (hb hby d5_31)
  have N28 := Fr.snoc X28 N22 g_a3
  have Z29 : n0 ≤ h28.size := Nat.le_trans Z23 (Keep.of_wr W28).1
  have K29 : Keep h0 h28 [a3] := K23.wr W28 (Or.inl (List.mem_of_getElem? (i := 0) rfl))
  rw [own_nb] at W28
  have Va28 : Arv Z h28 a3 kb .byte (11 : Int32) [(.int (c0.toInt8.toInt32)), (.int (c1.toInt8.toInt32)), (.int (c2.toInt8.toInt32)), (.int (c3.toInt8.toInt32)), (.int (c4.toInt8.toInt32)), (.int (0 : Int32)), (.int (0 : Int32)), (.int (0 : Int32)), (.int (0 : Int32)), (.int (0 : Int32)), (.int (0 : Int32))] (.int (0 : Int32)) := Arv.set Ar27 qc27 Sz27 Nn27 Hs27 Gf27 (fits_nar_byte _) W28 4 rfl (Nat.le_of_ble_eq_true rfl)
  refine Go.step (T' := T28) (f' := (mkF m 32 #[.val (.ref a1), .val (.int (4 : Int32)), .val (.ref a3), .val (.int (4 : Int32)), .val (.int (11 : Int32)), .val (.int (4 : Int32)), .val (.int c4)] [])) st28 ?_
  refine Go.step (T' := T28) (f' := (mkF m 35 #[.val (.ref a1), .val (.int (5 : Int32)), .val (.ref a3), .val (.int (4 : Int32)), .val (.int (11 : Int32)), .val (.int (4 : Int32)), .val (.int c4)] [])) (fun _ k => XS.iinc X28.here hx rfl (hb hby d5_32) rfl (l' := #[.val (.ref a1), .val (.int (5 : Int32)), .val (.ref a3), .val (.int (4 : Int32)), .val (.int (11 : Int32)), .val (.int (4 : Int32)), .val (.int c4)]) rfl k) ?_
  refine Go.step (T' := T28) (f' := (mkF m 38 #[.val (.ref a1), .val (.int (5 : Int32)), .val (.ref a3), .val (.int (5 : Int32)), .val (.int (11 : Int32)), .val (.int (4 : Int32)), .val (.int c4)] [])) (fun _ k => XS.iinc X28.here hx rfl (hb hby d5_35) rfl (l' := #[.val (.ref a1), .val (.int (5 : Int32)), .val (.ref a3), .val (.int (5 : Int32)), .val (.int (11 : Int32)), .val (.int (4 : Int32)), .val (.int c4)]) rfl k) ?_
  refine Go.step (T' := T28) (f' := (mkF m 41 #[.val (.ref a1), .val (.int (5 : Int32)), .val (.ref a3), .val (.int (5 : Int32)), .val (.int (11 : Int32)), .val (.int (5 : Int32)), .val (.int c4)] [])) (fun _ k => XS.iinc X28.here hx rfl (hb hby d5_38) rfl (l' := #[.val (.ref a1), .val (.int (5 : Int32)), .val (.ref a3), .val (.int (5 : Int32)), .val (.int (11 : Int32)), .val (.int (5 : Int32)), .val (.int c4)]) rfl k) ?_
  refine Go.step (T' := T28) (f' := (mkF m 3 #[.val (.ref a1), .val (.int (5 : Int32)), .val (.ref a3), .val (.int (5 : Int32)), .val (.int (11 : Int32)), .val (.int (5 : Int32)), .val (.int c4)] [])) (fun _ k => XS.goto X28.here hx rfl (pc0 := 41) (pc' := 3) rfl (hb hby d5_41) (by decide) (by decide) k) ?_
  refine Go.step (T' := T28) (f' := (mkF m 5 #[.val (.ref a1), .val (.int (5 : Int32)), .val (.ref a3), .val (.int (5 : Int32)), .val (.int (11 : Int32)), .val (.int (5 : Int32)), .val (.int c4)] [(.int (5 : Int32))])) (fun _ k => XS.iload X28.here hx rfl (hb hby d5_3) rfl k) ?_
  refine Go.step (T' := T28) (f' := (mkF m 7 #[.val (.ref a1), .val (.int (5 : Int32)), .val (.ref a3), .val (.int (5 : Int32)), .val (.int (11 : Int32)), .val (.int (5 : Int32)), .val (.int c4)] [(.int (11 : Int32)), (.int (5 : Int32))])) (fun _ k => XS.iload X28.here hx rfl (hb hby d5_5) rfl k) ?_
  refine Go.step (T' := T28) (f' := (mkF m 10 #[.val (.ref a1), .val (.int (5 : Int32)), .val (.ref a3), .val (.int (5 : Int32)), .val (.int (11 : Int32)), .val (.int (5 : Int32)), .val (.int c4)] [])) (fun _ k => XS.icmpNo X28.here hx rfl (hb hby d5_7) rfl (tlt (by decide : (5 : Int32) < (11 : Int32))).2.1 k) ?_
  refine Go.step (T' := T28) (f' := (mkF m 11 #[.val (.ref a1), .val (.int (5 : Int32)), .val (.ref a3), .val (.int (5 : Int32)), .val (.int (11 : Int32)), .val (.int (5 : Int32)), .val (.int c4)] [(.ref a1)])) (fun _ k => XS.aloadN X28.here hx rfl (hb hby d5_10) rfl rfl k) ?_
  refine Go.step (T' := T28) (f' := (mkF m 12 #[.val (.ref a1), .val (.int (5 : Int32)), .val (.ref a3), .val (.int (5 : Int32)), .val (.int (11 : Int32)), .val (.int (5 : Int32)), .val (.int c4)] [(.int (5 : Int32)), (.ref a1)])) (fun _ k => XS.iloadN X28.here hx rfl (hb hby d5_11) rfl k) ?_
  have q30 : Arv Z h28 a1 kc .char (11 : Int32) [(.int c0), (.int c1), (.int c2), (.int c3), (.int c4), (.int c5), (.int c6), (.int c7), (.int c8), (.int c9), (.int c10)] (.int (0 : Int32)) := (q24.other W28 hne)
  obtain ⟨cl31, Ar31, qc31, Sz31, Nn31, Hs31, Gf31⟩ := id q30
  have hin32 : ¬ ((5 : Int32) < 0 ∨ cl31.slots.size ≤ ((5 : Int32)).toNatClampNeg) := (inb_of Sz31 ⟨by decide, by decide⟩)
  have hat32 : cl31.slots[((5 : Int32)).toNatClampNeg]? = some (.int c5) := Has.at Hs31 hin32 rfl
  refine Go.step (T' := T28) (f' := (mkF m 13 #[.val (.ref a1), .val (.int (5 : Int32)), .val (.ref a3), .val (.int (5 : Int32)), .val (.int (11 : Int32)), .val (.int (5 : Int32)), .val (.int c4)] [(.int c5)])) (fun _ k => X28.caload hx (j := (5 : Int32)) (v := (.int c5)) (by rw [e28]; exact Ar31.1) (State.isArrayOf_alike hZ.alike Ar31.2.1) Ar31.2.2 hin32 hat32 (g := (mkF m 12 #[.val (.ref a1), .val (.int (5 : Int32)), .val (.ref a3), .val (.int (5 : Int32)), .val (.int (11 : Int32)), .val (.int (5 : Int32)), .val (.int c4)] [(.int (5 : Int32)), (.ref a1)])) rfl rfl (hb hby d5_12) _ k) ?_
  refine Go.step (T' := T28) (f' := (mkF m 15 #[.val (.ref a1), .val (.int (5 : Int32)), .val (.ref a3), .val (.int (5 : Int32)), .val (.int (11 : Int32)), .val (.int (5 : Int32)), .val (.int c5)] [])) (fun _ k => XS.istore X28.here hx rfl (hb hby d5_13) rfl (l' := #[.val (.ref a1), .val (.int (5 : Int32)), .val (.ref a3), .val (.int (5 : Int32)), .val (.int (11 : Int32)), .val (.int (5 : Int32)), .val (.int c5)]) rfl k) ?_
  refine Go.step (T' := T28) (f' := (mkF m 17 #[.val (.ref a1), .val (.int (5 : Int32)), .val (.ref a3), .val (.int (5 : Int32)), .val (.int (11 : Int32)), .val (.int (5 : Int32)), .val (.int c5)] [(.int c5)])) (fun _ k => XS.iload X28.here hx rfl (hb hby d5_15) rfl k) ?_
  refine Go.step (T' := T28) (f' := (mkF m 20 #[.val (.ref a1), .val (.int (5 : Int32)), .val (.ref a3), .val (.int (5 : Int32)), .val (.int (11 : Int32)), .val (.int (5 : Int32)), .val (.int c5)] [(.int (255 : Int32)), (.int c5)])) (fun _ k => XS.sipush X28.here hx rfl (hb hby d5_17) k) ?_
  refine Go.step (T' := T28) (f' := (mkF m 26 #[.val (.ref a1), .val (.int (5 : Int32)), .val (.ref a3), .val (.int (5 : Int32)), .val (.int (11 : Int32)), .val (.int (5 : Int32)), .val (.int c5)] [])) (fun _ k => XS.icmpYes X28.here hx rfl (pc0 := 20) (pc' := 26) rfl (hb hby d5_20) rfl (flt hl5).2.2.2 (by decide) (by decide) k) ?_
  refine Go.step (T' := T28) (f' := (mkF m 27 #[.val (.ref a1), .val (.int (5 : Int32)), .val (.ref a3), .val (.int (5 : Int32)), .val (.int (11 : Int32)), .val (.int (5 : Int32)), .val (.int c5)] [(.ref a3)])) (fun _ k => XS.aloadN X28.here hx rfl (hb hby d5_26) rfl rfl k) ?_
  refine Go.step (T' := T28) (f' := (mkF m 28 #[.val (.ref a1), .val (.int (5 : Int32)), .val (.ref a3), .val (.int (5 : Int32)), .val (.int (11 : Int32)), .val (.int (5 : Int32)), .val (.int c5)] [(.int (5 : Int32)), (.ref a3)])) (fun _ k => XS.iloadN X28.here hx rfl (hb hby d5_27) rfl k) ?_
  refine Go.step (T' := T28) (f' := (mkF m 30 #[.val (.ref a1), .val (.int (5 : Int32)), .val (.ref a3), .val (.int (5 : Int32)), .val (.int (11 : Int32)), .val (.int (5 : Int32)), .val (.int c5)] [(.int c5), (.int (5 : Int32)), (.ref a3)])) (fun _ k => XS.iload X28.here hx rfl (hb hby d5_28) rfl k) ?_
  refine Go.step (T' := T28) (f' := (mkF m 31 #[.val (.ref a1), .val (.int (5 : Int32)), .val (.ref a3), .val (.int (5 : Int32)), .val (.int (11 : Int32)), .val (.int (5 : Int32)), .val (.int c5)] [(.int (c5.toInt8.toInt32)), (.int (5 : Int32)), (.ref a3)])) (fun _ k => XS.i2b X28.here hx rfl (hb hby d5_30) rfl k) ?_
  obtain ⟨cl33, Ar33, qc33, Sz33, Nn33, Hs33, Gf33⟩ := id Va28
  have hin34 : ¬ ((5 : Int32) < 0 ∨ cl33.slots.size ≤ ((5 : Int32)).toNatClampNeg) := (inb_of Sz33 ⟨by decide, by decide⟩)
  obtain ⟨T34, h34, X34, e34, W34, st34⟩ := stB X28 hx hZ e28 Ar33 (j := (5 : Int32)) hin34 (g := (mkF m 31 #[.val (.ref a1), .val (.int (5 : Int32)), .val (.ref a3), .val (.int (5 : Int32)), .val (.int (11 : Int32)), .val (.int (5 : Int32)), .val (.int c5)] [(.int (c5.toInt8.toInt32)), (.int (5 : Int32)), (.ref a3)])) rfl rfl (hb hby d5_31)
  have N34 := Fr.snoc X34 N28 g_a3
  have Z35 : n0 ≤ h34.size := Nat.le_trans Z29 (Keep.of_wr W34).1
  have K35 : Keep h0 h34 [a3] := K29.wr W34 (Or.inl (List.mem_of_getElem? (i := 0) rfl))
  rw [own_nb] at W34
  have Va34 : Arv Z h34 a3 kb .byte (11 : Int32) [(.int (c0.toInt8.toInt32)), (.int (c1.toInt8.toInt32)), (.int (c2.toInt8.toInt32)), (.int (c3.toInt8.toInt32)), (.int (c4.toInt8.toInt32)), (.int (c5.toInt8.toInt32)), (.int (0 : Int32)), (.int (0 : Int32)), (.int (0 : Int32)), (.int (0 : Int32)), (.int (0 : Int32))] (.int (0 : Int32)) := Arv.set Ar33 qc33 Sz33 Nn33 Hs33 Gf33 (fits_nar_byte _) W34 5 rfl (Nat.le_of_ble_eq_true rfl)
  refine Go.step (T' := T34) (f' := (mkF m 32 #[.val (.ref a1), .val (.int (5 : Int32)), .val (.ref a3), .val (.int (5 : Int32)), .val (.int (11 : Int32)), .val (.int (5 : Int32)), .val (.int c5)] [])) st34 ?_
  refine Go.step (T' := T34) (f' := (mkF m 35 #[.val (.ref a1), .val (.int (6 : Int32)), .val (.ref a3), .val (.int (5 : Int32)), .val (.int (11 : Int32)), .val (.int (5 : Int32)), .val (.int c5)] [])) (fun _ k => XS.iinc X34.here hx rfl (hb hby d5_32) rfl (l' := #[.val (.ref a1), .val (.int (6 : Int32)), .val (.ref a3), .val (.int (5 : Int32)), .val (.int (11 : Int32)), .val (.int (5 : Int32)), .val (.int c5)]) rfl k) ?_
  refine Go.step (T' := T34) (f' := (mkF m 38 #[.val (.ref a1), .val (.int (6 : Int32)), .val (.ref a3), .val (.int (6 : Int32)), .val (.int (11 : Int32)), .val (.int (5 : Int32)), .val (.int c5)] [])) (fun _ k => XS.iinc X34.here hx rfl (hb hby d5_35) rfl (l' := #[.val (.ref a1), .val (.int (6 : Int32)), .val (.ref a3), .val (.int (6 : Int32)), .val (.int (11 : Int32)), .val (.int (5 : Int32)), .val (.int c5)]) rfl k) ?_
  refine Go.step (T' := T34) (f' := (mkF m 41 #[.val (.ref a1), .val (.int (6 : Int32)), .val (.ref a3), .val (.int (6 : Int32)), .val (.int (11 : Int32)), .val (.int (6 : Int32)), .val (.int c5)] [])) (fun _ k => XS.iinc X34.here hx rfl (hb hby d5_38) rfl (l' := #[.val (.ref a1), .val (.int (6 : Int32)), .val (.ref a3), .val (.int (6 : Int32)), .val (.int (11 : Int32)), .val (.int (6 : Int32)), .val (.int c5)]) rfl k) ?_
  refine Go.step (T' := T34) (f' := (mkF m 3 #[.val (.ref a1), .val (.int (6 : Int32)), .val (.ref a3), .val (.int (6 : Int32)), .val (.int (11 : Int32)), .val (.int (6 : Int32)), .val (.int c5)] [])) (fun _ k => XS.goto X34.here hx rfl (pc0 := 41) (pc' := 3) rfl (hb hby d5_41) (by decide) (by decide) k) ?_
  refine Go.step (T' := T34) (f' := (mkF m 5 #[.val (.ref a1), .val (.int (6 : Int32)), .val (.ref a3), .val (.int (6 : Int32)), .val (.int (11 : Int32)), .val (.int (6 : Int32)), .val (.int c5)] [(.int (6 : Int32))])) (fun _ k => XS.iload X34.here hx rfl (hb hby d5_3) rfl k) ?_
  refine Go.step (T' := T34) (f' := (mkF m 7 #[.val (.ref a1), .val (.int (6 : Int32)), .val (.ref a3), .val (.int (6 : Int32)), .val (.int (11 : Int32)), .val (.int (6 : Int32)), .val (.int c5)] [(.int (11 : Int32)), (.int (6 : Int32))])) (fun _ k => XS.iload X34.here hx rfl (hb hby d5_5) rfl k) ?_
  refine Go.step (T' := T34) (f' := (mkF m 10 #[.val (.ref a1), .val (.int (6 : Int32)), .val (.ref a3), .val (.int (6 : Int32)), .val (.int (11 : Int32)), .val (.int (6 : Int32)), .val (.int c5)] [])) (fun _ k => XS.icmpNo X34.here hx rfl (hb hby d5_7) rfl (tlt (by decide : (6 : Int32) < (11 : Int32))).2.1 k) ?_
  refine Go.step (T' := T34) (f' := (mkF m 11 #[.val (.ref a1), .val (.int (6 : Int32)), .val (.ref a3), .val (.int (6 : Int32)), .val (.int (11 : Int32)), .val (.int (6 : Int32)), .val (.int c5)] [(.ref a1)])) (fun _ k => XS.aloadN X34.here hx rfl (hb hby d5_10) rfl rfl k) ?_
  refine Go.step (T' := T34) (f' := (mkF m 12 #[.val (.ref a1), .val (.int (6 : Int32)), .val (.ref a3), .val (.int (6 : Int32)), .val (.int (11 : Int32)), .val (.int (6 : Int32)), .val (.int c5)] [(.int (6 : Int32)), (.ref a1)])) (fun _ k => XS.iloadN X34.here hx rfl (hb hby d5_11) rfl k) ?_
  have q36 : Arv Z h34 a1 kc .char (11 : Int32) [(.int c0), (.int c1), (.int c2), (.int c3), (.int c4), (.int c5), (.int c6), (.int c7), (.int c8), (.int c9), (.int c10)] (.int (0 : Int32)) := (q30.other W34 hne)
  obtain ⟨cl37, Ar37, qc37, Sz37, Nn37, Hs37, Gf37⟩ := id q36
  have hin38 : ¬ ((6 : Int32) < 0 ∨ cl37.slots.size ≤ ((6 : Int32)).toNatClampNeg) := (inb_of Sz37 ⟨by decide, by decide⟩)
  have hat38 : cl37.slots[((6 : Int32)).toNatClampNeg]? = some (.int c6) := Has.at Hs37 hin38 rfl
  refine Go.step (T' := T34) (f' := (mkF m 13 #[.val (.ref a1), .val (.int (6 : Int32)), .val (.ref a3), .val (.int (6 : Int32)), .val (.int (11 : Int32)), .val (.int (6 : Int32)), .val (.int c5)] [(.int c6)])) (fun _ k => X34.caload hx (j := (6 : Int32)) (v := (.int c6)) (by rw [e34]; exact Ar37.1) (State.isArrayOf_alike hZ.alike Ar37.2.1) Ar37.2.2 hin38 hat38 (g := (mkF m 12 #[.val (.ref a1), .val (.int (6 : Int32)), .val (.ref a3), .val (.int (6 : Int32)), .val (.int (11 : Int32)), .val (.int (6 : Int32)), .val (.int c5)] [(.int (6 : Int32)), (.ref a1)])) rfl rfl (hb hby d5_12) _ k) ?_
  refine Go.step (T' := T34) (f' := (mkF m 15 #[.val (.ref a1), .val (.int (6 : Int32)), .val (.ref a3), .val (.int (6 : Int32)), .val (.int (11 : Int32)), .val (.int (6 : Int32)), .val (.int c6)] [])) (fun _ k => XS.istore X34.here hx rfl (hb hby d5_13) rfl (l' := #[.val (.ref a1), .val (.int (6 : Int32)), .val (.ref a3), .val (.int (6 : Int32)), .val (.int (11 : Int32)), .val (.int (6 : Int32)), .val (.int c6)]) rfl k) ?_
  refine Go.step (T' := T34) (f' := (mkF m 17 #[.val (.ref a1), .val (.int (6 : Int32)), .val (.ref a3), .val (.int (6 : Int32)), .val (.int (11 : Int32)), .val (.int (6 : Int32)), .val (.int c6)] [(.int c6)])) (fun _ k => XS.iload X34.here hx rfl (hb hby d5_15) rfl k) ?_
  refine Go.step (T' := T34) (f' := (mkF m 20 #[.val (.ref a1), .val (.int (6 : Int32)), .val (.ref a3), .val (.int (6 : Int32)), .val (.int (11 : Int32)), .val (.int (6 : Int32)), .val (.int c6)] [(.int (255 : Int32)), (.int c6)])) (fun _ k => XS.sipush X34.here hx rfl (hb hby d5_17) k) ?_
  refine Go.step (T' := T34) (f' := (mkF m 26 #[.val (.ref a1), .val (.int (6 : Int32)), .val (.ref a3), .val (.int (6 : Int32)), .val (.int (11 : Int32)), .val (.int (6 : Int32)), .val (.int c6)] [])) (fun _ k => XS.icmpYes X34.here hx rfl (pc0 := 20) (pc' := 26) rfl (hb hby d5_20) rfl (flt hl6).2.2.2 (by decide) (by decide) k) ?_
  refine Go.step (T' := T34) (f' := (mkF m 27 #[.val (.ref a1), .val (.int (6 : Int32)), .val (.ref a3), .val (.int (6 : Int32)), .val (.int (11 : Int32)), .val (.int (6 : Int32)), .val (.int c6)] [(.ref a3)])) (fun _ k => XS.aloadN X34.here hx rfl (hb hby d5_26) rfl rfl k) ?_
  refine Go.step (T' := T34) (f' := (mkF m 28 #[.val (.ref a1), .val (.int (6 : Int32)), .val (.ref a3), .val (.int (6 : Int32)), .val (.int (11 : Int32)), .val (.int (6 : Int32)), .val (.int c6)] [(.int (6 : Int32)), (.ref a3)])) (fun _ k => XS.iloadN X34.here hx rfl (hb hby d5_27) rfl k) ?_
  refine Go.step (T' := T34) (f' := (mkF m 30 #[.val (.ref a1), .val (.int (6 : Int32)), .val (.ref a3), .val (.int (6 : Int32)), .val (.int (11 : Int32)), .val (.int (6 : Int32)), .val (.int c6)] [(.int c6), (.int (6 : Int32)), (.ref a3)])) (fun _ k => XS.iload X34.here hx rfl (hb hby d5_28) rfl k) ?_
  refine Go.step (T' := T34) (f' := (mkF m 31 #[.val (.ref a1), .val (.int (6 : Int32)), .val (.ref a3), .val (.int (6 : Int32)), .val (.int (11 : Int32)), .val (.int (6 : Int32)), .val (.int c6)] [(.int (c6.toInt8.toInt32)), (.int (6 : Int32)), (.ref a3)])) (fun _ k => XS.i2b X34.here hx rfl (hb hby d5_30) rfl k) ?_
  obtain ⟨cl39, Ar39, qc39, Sz39, Nn39, Hs39, Gf39⟩ := id Va34
  have hin40 : ¬ ((6 : Int32) < 0 ∨ cl39.slots.size ≤ ((6 : Int32)).toNatClampNeg) := (inb_of Sz39 ⟨by decide, by decide⟩)
  obtain ⟨T40, h40, X40, e40, W40, st40⟩ := stB X34 hx hZ e34 Ar39 (j := (6 : Int32)) hin40 (g := (mkF m 31 #[.val (.ref a1), .val (.int (6 : Int32)), .val (.ref a3), .val (.int (6 : Int32)), .val (.int (11 : Int32)), .val (.int (6 : Int32)), .val (.int c6)] [(.int (c6.toInt8.toInt32)), (.int (6 : Int32)), (.ref a3)])) rfl rfl (hb hby d5_31)
  have N40 := Fr.snoc X40 N34 g_a3
  have Z41 : n0 ≤ h40.size := Nat.le_trans Z35 (Keep.of_wr W40).1
  have K41 : Keep h0 h40 [a3] := K35.wr W40 (Or.inl (List.mem_of_getElem? (i := 0) rfl))
  rw [own_nb] at W40
  have Va40 : Arv Z h40 a3 kb .byte (11 : Int32) [(.int (c0.toInt8.toInt32)), (.int (c1.toInt8.toInt32)), (.int (c2.toInt8.toInt32)), (.int (c3.toInt8.toInt32)), (.int (c4.toInt8.toInt32)), (.int (c5.toInt8.toInt32)), (.int (c6.toInt8.toInt32)), (.int (0 : Int32)), (.int (0 : Int32)), (.int (0 : Int32)), (.int (0 : Int32))] (.int (0 : Int32)) := Arv.set Ar39 qc39 Sz39 Nn39 Hs39 Gf39 (fits_nar_byte _) W40 6 rfl (Nat.le_of_ble_eq_true rfl)
  refine Go.step (T' := T40) (f' := (mkF m 32 #[.val (.ref a1), .val (.int (6 : Int32)), .val (.ref a3), .val (.int (6 : Int32)), .val (.int (11 : Int32)), .val (.int (6 : Int32)), .val (.int c6)] [])) st40 ?_
  refine Go.step (T' := T40) (f' := (mkF m 35 #[.val (.ref a1), .val (.int (7 : Int32)), .val (.ref a3), .val (.int (6 : Int32)), .val (.int (11 : Int32)), .val (.int (6 : Int32)), .val (.int c6)] [])) (fun _ k => XS.iinc X40.here hx rfl (hb hby d5_32) rfl (l' := #[.val (.ref a1), .val (.int (7 : Int32)), .val (.ref a3), .val (.int (6 : Int32)), .val (.int (11 : Int32)), .val (.int (6 : Int32)), .val (.int c6)]) rfl k) ?_
  refine Go.step (T' := T40) (f' := (mkF m 38 #[.val (.ref a1), .val (.int (7 : Int32)), .val (.ref a3), .val (.int (7 : Int32)), .val (.int (11 : Int32)), .val (.int (6 : Int32)), .val (.int c6)] [])) (fun _ k => XS.iinc X40.here hx rfl (hb hby d5_35) rfl (l' := #[.val (.ref a1), .val (.int (7 : Int32)), .val (.ref a3), .val (.int (7 : Int32)), .val (.int (11 : Int32)), .val (.int (6 : Int32)), .val (.int c6)]) rfl k) ?_
  refine Go.step (T' := T40) (f' := (mkF m 41 #[.val (.ref a1), .val (.int (7 : Int32)), .val (.ref a3), .val (.int (7 : Int32)), .val (.int (11 : Int32)), .val (.int (7 : Int32)), .val (.int c6)] [])) (fun _ k => XS.iinc X40.here hx rfl (hb hby d5_38) rfl (l' := #[.val (.ref a1), .val (.int (7 : Int32)), .val (.ref a3), .val (.int (7 : Int32)), .val (.int (11 : Int32)), .val (.int (7 : Int32)), .val (.int c6)]) rfl k) ?_
  refine Go.step (T' := T40) (f' := (mkF m 3 #[.val (.ref a1), .val (.int (7 : Int32)), .val (.ref a3), .val (.int (7 : Int32)), .val (.int (11 : Int32)), .val (.int (7 : Int32)), .val (.int c6)] [])) (fun _ k => XS.goto X40.here hx rfl (pc0 := 41) (pc' := 3) rfl (hb hby d5_41) (by decide) (by decide) k) ?_
  refine Go.step (T' := T40) (f' := (mkF m 5 #[.val (.ref a1), .val (.int (7 : Int32)), .val (.ref a3), .val (.int (7 : Int32)), .val (.int (11 : Int32)), .val (.int (7 : Int32)), .val (.int c6)] [(.int (7 : Int32))])) (fun _ k => XS.iload X40.here hx rfl (hb hby d5_3) rfl k) ?_
  refine Go.step (T' := T40) (f' := (mkF m 7 #[.val (.ref a1), .val (.int (7 : Int32)), .val (.ref a3), .val (.int (7 : Int32)), .val (.int (11 : Int32)), .val (.int (7 : Int32)), .val (.int c6)] [(.int (11 : Int32)), (.int (7 : Int32))])) (fun _ k => XS.iload X40.here hx rfl (hb hby d5_5) rfl k) ?_
  refine Go.step (T' := T40) (f' := (mkF m 10 #[.val (.ref a1), .val (.int (7 : Int32)), .val (.ref a3), .val (.int (7 : Int32)), .val (.int (11 : Int32)), .val (.int (7 : Int32)), .val (.int c6)] [])) (fun _ k => XS.icmpNo X40.here hx rfl (hb hby d5_7) rfl (tlt (by decide : (7 : Int32) < (11 : Int32))).2.1 k) ?_
  refine Go.step (T' := T40) (f' := (mkF m 11 #[.val (.ref a1), .val (.int (7 : Int32)), .val (.ref a3), .val (.int (7 : Int32)), .val (.int (11 : Int32)), .val (.int (7 : Int32)), .val (.int c6)] [(.ref a1)])) (fun _ k => XS.aloadN X40.here hx rfl (hb hby d5_10) rfl rfl k) ?_
  refine Go.step (T' := T40) (f' := (mkF m 12 #[.val (.ref a1), .val (.int (7 : Int32)), .val (.ref a3), .val (.int (7 : Int32)), .val (.int (11 : Int32)), .val (.int (7 : Int32)), .val (.int c6)] [(.int (7 : Int32)), (.ref a1)])) (fun _ k => XS.iloadN X40.here hx rfl (hb hby d5_11) rfl k) ?_
  have q42 : Arv Z h40 a1 kc .char (11 : Int32) [(.int c0), (.int c1), (.int c2), (.int c3), (.int c4), (.int c5), (.int c6), (.int c7), (.int c8), (.int c9), (.int c10)] (.int (0 : Int32)) := (q36.other W40 hne)
  obtain ⟨cl43, Ar43, qc43, Sz43, Nn43, Hs43, Gf43⟩ := id q42
  have hin44 : ¬ ((7 : Int32) < 0 ∨ cl43.slots.size ≤ ((7 : Int32)).toNatClampNeg) := (inb_of Sz43 ⟨by decide, by decide⟩)
  have hat44 : cl43.slots[((7 : Int32)).toNatClampNeg]? = some (.int c7) := Has.at Hs43 hin44 rfl
  refine Go.step (T' := T40) (f' := (mkF m 13 #[.val (.ref a1), .val (.int (7 : Int32)), .val (.ref a3), .val (.int (7 : Int32)), .val (.int (11 : Int32)), .val (.int (7 : Int32)), .val (.int c6)] [(.int c7)])) (fun _ k => X40.caload hx (j := (7 : Int32)) (v := (.int c7)) (by rw [e40]; exact Ar43.1) (State.isArrayOf_alike hZ.alike Ar43.2.1) Ar43.2.2 hin44 hat44 (g := (mkF m 12 #[.val (.ref a1), .val (.int (7 : Int32)), .val (.ref a3), .val (.int (7 : Int32)), .val (.int (11 : Int32)), .val (.int (7 : Int32)), .val (.int c6)] [(.int (7 : Int32)), (.ref a1)])) rfl rfl (hb hby d5_12) _ k) ?_
  refine Go.step (T' := T40) (f' := (mkF m 15 #[.val (.ref a1), .val (.int (7 : Int32)), .val (.ref a3), .val (.int (7 : Int32)), .val (.int (11 : Int32)), .val (.int (7 : Int32)), .val (.int c7)] [])) (fun _ k => XS.istore X40.here hx rfl (hb hby d5_13) rfl (l' := #[.val (.ref a1), .val (.int (7 : Int32)), .val (.ref a3), .val (.int (7 : Int32)), .val (.int (11 : Int32)), .val (.int (7 : Int32)), .val (.int c7)]) rfl k) ?_
  refine Go.step (T' := T40) (f' := (mkF m 17 #[.val (.ref a1), .val (.int (7 : Int32)), .val (.ref a3), .val (.int (7 : Int32)), .val (.int (11 : Int32)), .val (.int (7 : Int32)), .val (.int c7)] [(.int c7)])) (fun _ k => XS.iload X40.here hx rfl (hb hby d5_15) rfl k) ?_
  refine Go.step (T' := T40) (f' := (mkF m 20 #[.val (.ref a1), .val (.int (7 : Int32)), .val (.ref a3), .val (.int (7 : Int32)), .val (.int (11 : Int32)), .val (.int (7 : Int32)), .val (.int c7)] [(.int (255 : Int32)), (.int c7)])) (fun _ k => XS.sipush X40.here hx rfl (hb hby d5_17) k) ?_
  refine Go.step (T' := T40) (f' := (mkF m 26 #[.val (.ref a1), .val (.int (7 : Int32)), .val (.ref a3), .val (.int (7 : Int32)), .val (.int (11 : Int32)), .val (.int (7 : Int32)), .val (.int c7)] [])) (fun _ k => XS.icmpYes X40.here hx rfl (pc0 := 20) (pc' := 26) rfl (hb hby d5_20) rfl (flt hl7).2.2.2 (by decide) (by decide) k) ?_
  refine Go.step (T' := T40) (f' := (mkF m 27 #[.val (.ref a1), .val (.int (7 : Int32)), .val (.ref a3), .val (.int (7 : Int32)), .val (.int (11 : Int32)), .val (.int (7 : Int32)), .val (.int c7)] [(.ref a3)])) (fun _ k => XS.aloadN X40.here hx rfl (hb hby d5_26) rfl rfl k) ?_
  refine Go.step (T' := T40) (f' := (mkF m 28 #[.val (.ref a1), .val (.int (7 : Int32)), .val (.ref a3), .val (.int (7 : Int32)), .val (.int (11 : Int32)), .val (.int (7 : Int32)), .val (.int c7)] [(.int (7 : Int32)), (.ref a3)])) (fun _ k => XS.iloadN X40.here hx rfl (hb hby d5_27) rfl k) ?_
  refine Go.step (T' := T40) (f' := (mkF m 30 #[.val (.ref a1), .val (.int (7 : Int32)), .val (.ref a3), .val (.int (7 : Int32)), .val (.int (11 : Int32)), .val (.int (7 : Int32)), .val (.int c7)] [(.int c7), (.int (7 : Int32)), (.ref a3)])) (fun _ k => XS.iload X40.here hx rfl (hb hby d5_28) rfl k) ?_
  refine Go.step (T' := T40) (f' := (mkF m 31 #[.val (.ref a1), .val (.int (7 : Int32)), .val (.ref a3), .val (.int (7 : Int32)), .val (.int (11 : Int32)), .val (.int (7 : Int32)), .val (.int c7)] [(.int (c7.toInt8.toInt32)), (.int (7 : Int32)), (.ref a3)])) (fun _ k => XS.i2b X40.here hx rfl (hb hby d5_30) rfl k) ?_
  obtain ⟨cl45, Ar45, qc45, Sz45, Nn45, Hs45, Gf45⟩ := id Va40
  have hin46 : ¬ ((7 : Int32) < 0 ∨ cl45.slots.size ≤ ((7 : Int32)).toNatClampNeg) := (inb_of Sz45 ⟨by decide, by decide⟩)
  obtain ⟨T46, h46, X46, e46, W46, st46⟩ := stB X40 hx hZ e40 Ar45 (j := (7 : Int32)) hin46 (g := (mkF m 31 #[.val (.ref a1), .val (.int (7 : Int32)), .val (.ref a3), .val (.int (7 : Int32)), .val (.int (11 : Int32)), .val (.int (7 : Int32)), .val (.int c7)] [(.int (c7.toInt8.toInt32)), (.int (7 : Int32)), (.ref a3)])) rfl rfl (hb hby d5_31)
  have N46 := Fr.snoc X46 N40 g_a3
  have Z47 : n0 ≤ h46.size := Nat.le_trans Z41 (Keep.of_wr W46).1
  have K47 : Keep h0 h46 [a3] := K41.wr W46 (Or.inl (List.mem_of_getElem? (i := 0) rfl))
  rw [own_nb] at W46
  have Va46 : Arv Z h46 a3 kb .byte (11 : Int32) [(.int (c0.toInt8.toInt32)), (.int (c1.toInt8.toInt32)), (.int (c2.toInt8.toInt32)), (.int (c3.toInt8.toInt32)), (.int (c4.toInt8.toInt32)), (.int (c5.toInt8.toInt32)), (.int (c6.toInt8.toInt32)), (.int (c7.toInt8.toInt32)), (.int (0 : Int32)), (.int (0 : Int32)), (.int (0 : Int32))] (.int (0 : Int32)) := Arv.set Ar45 qc45 Sz45 Nn45 Hs45 Gf45 (fits_nar_byte _) W46 7 rfl (Nat.le_of_ble_eq_true rfl)
  refine Go.step (T' := T46) (f' := (mkF m 32 #[.val (.ref a1), .val (.int (7 : Int32)), .val (.ref a3), .val (.int (7 : Int32)), .val (.int (11 : Int32)), .val (.int (7 : Int32)), .val (.int c7)] [])) st46 ?_
  refine Go.step (T' := T46) (f' := (mkF m 35 #[.val (.ref a1), .val (.int (8 : Int32)), .val (.ref a3), .val (.int (7 : Int32)), .val (.int (11 : Int32)), .val (.int (7 : Int32)), .val (.int c7)] [])) (fun _ k => XS.iinc X46.here hx rfl (hb hby d5_32) rfl (l' := #[.val (.ref a1), .val (.int (8 : Int32)), .val (.ref a3), .val (.int (7 : Int32)), .val (.int (11 : Int32)), .val (.int (7 : Int32)), .val (.int c7)]) rfl k) ?_
  refine Go.step (T' := T46) (f' := (mkF m 38 #[.val (.ref a1), .val (.int (8 : Int32)), .val (.ref a3), .val (.int (8 : Int32)), .val (.int (11 : Int32)), .val (.int (7 : Int32)), .val (.int c7)] [])) (fun _ k => XS.iinc X46.here hx rfl (hb hby d5_35) rfl (l' := #[.val (.ref a1), .val (.int (8 : Int32)), .val (.ref a3), .val (.int (8 : Int32)), .val (.int (11 : Int32)), .val (.int (7 : Int32)), .val (.int c7)]) rfl k) ?_
  refine Go.step (T' := T46) (f' := (mkF m 41 #[.val (.ref a1), .val (.int (8 : Int32)), .val (.ref a3), .val (.int (8 : Int32)), .val (.int (11 : Int32)), .val (.int (8 : Int32)), .val (.int c7)] [])) (fun _ k => XS.iinc X46.here hx rfl (hb hby d5_38) rfl (l' := #[.val (.ref a1), .val (.int (8 : Int32)), .val (.ref a3), .val (.int (8 : Int32)), .val (.int (11 : Int32)), .val (.int (8 : Int32)), .val (.int c7)]) rfl k) ?_
  refine Go.step (T' := T46) (f' := (mkF m 3 #[.val (.ref a1), .val (.int (8 : Int32)), .val (.ref a3), .val (.int (8 : Int32)), .val (.int (11 : Int32)), .val (.int (8 : Int32)), .val (.int c7)] [])) (fun _ k => XS.goto X46.here hx rfl (pc0 := 41) (pc' := 3) rfl (hb hby d5_41) (by decide) (by decide) k) ?_
  refine Go.step (T' := T46) (f' := (mkF m 5 #[.val (.ref a1), .val (.int (8 : Int32)), .val (.ref a3), .val (.int (8 : Int32)), .val (.int (11 : Int32)), .val (.int (8 : Int32)), .val (.int c7)] [(.int (8 : Int32))])) (fun _ k => XS.iload X46.here hx rfl (hb hby d5_3) rfl k) ?_
  refine Go.step (T' := T46) (f' := (mkF m 7 #[.val (.ref a1), .val (.int (8 : Int32)), .val (.ref a3), .val (.int (8 : Int32)), .val (.int (11 : Int32)), .val (.int (8 : Int32)), .val (.int c7)] [(.int (11 : Int32)), (.int (8 : Int32))])) (fun _ k => XS.iload X46.here hx rfl (hb hby d5_5) rfl k) ?_
  refine Go.step (T' := T46) (f' := (mkF m 10 #[.val (.ref a1), .val (.int (8 : Int32)), .val (.ref a3), .val (.int (8 : Int32)), .val (.int (11 : Int32)), .val (.int (8 : Int32)), .val (.int c7)] [])) (fun _ k => XS.icmpNo X46.here hx rfl (hb hby d5_7) rfl (tlt (by decide : (8 : Int32) < (11 : Int32))).2.1 k) ?_
  refine Go.step (T' := T46) (f' := (mkF m 11 #[.val (.ref a1), .val (.int (8 : Int32)), .val (.ref a3), .val (.int (8 : Int32)), .val (.int (11 : Int32)), .val (.int (8 : Int32)), .val (.int c7)] [(.ref a1)])) (fun _ k => XS.aloadN X46.here hx rfl (hb hby d5_10) rfl rfl k) ?_
  refine Go.step (T' := T46) (f' := (mkF m 12 #[.val (.ref a1), .val (.int (8 : Int32)), .val (.ref a3), .val (.int (8 : Int32)), .val (.int (11 : Int32)), .val (.int (8 : Int32)), .val (.int c7)] [(.int (8 : Int32)), (.ref a1)])) (fun _ k => XS.iloadN X46.here hx rfl (hb hby d5_11) rfl k) ?_
  have q48 : Arv Z h46 a1 kc .char (11 : Int32) [(.int c0), (.int c1), (.int c2), (.int c3), (.int c4), (.int c5), (.int c6), (.int c7), (.int c8), (.int c9), (.int c10)] (.int (0 : Int32)) := (q42.other W46 hne)
  obtain ⟨cl49, Ar49, qc49, Sz49, Nn49, Hs49, Gf49⟩ := id q48
  have hin50 : ¬ ((8 : Int32) < 0 ∨ cl49.slots.size ≤ ((8 : Int32)).toNatClampNeg) := (inb_of Sz49 ⟨by decide, by decide⟩)
  have hat50 : cl49.slots[((8 : Int32)).toNatClampNeg]? = some (.int c8) := Has.at Hs49 hin50 rfl
  refine Go.step (T' := T46) (f' := (mkF m 13 #[.val (.ref a1), .val (.int (8 : Int32)), .val (.ref a3), .val (.int (8 : Int32)), .val (.int (11 : Int32)), .val (.int (8 : Int32)), .val (.int c7)] [(.int c8)])) (fun _ k => X46.caload hx (j := (8 : Int32)) (v := (.int c8)) (by rw [e46]; exact Ar49.1) (State.isArrayOf_alike hZ.alike Ar49.2.1) Ar49.2.2 hin50 hat50 (g := (mkF m 12 #[.val (.ref a1), .val (.int (8 : Int32)), .val (.ref a3), .val (.int (8 : Int32)), .val (.int (11 : Int32)), .val (.int (8 : Int32)), .val (.int c7)] [(.int (8 : Int32)), (.ref a1)])) rfl rfl (hb hby d5_12) _ k) ?_
  refine Go.step (T' := T46) (f' := (mkF m 15 #[.val (.ref a1), .val (.int (8 : Int32)), .val (.ref a3), .val (.int (8 : Int32)), .val (.int (11 : Int32)), .val (.int (8 : Int32)), .val (.int c8)] [])) (fun _ k => XS.istore X46.here hx rfl (hb hby d5_13) rfl (l' := #[.val (.ref a1), .val (.int (8 : Int32)), .val (.ref a3), .val (.int (8 : Int32)), .val (.int (11 : Int32)), .val (.int (8 : Int32)), .val (.int c8)]) rfl k) ?_
  refine Go.step (T' := T46) (f' := (mkF m 17 #[.val (.ref a1), .val (.int (8 : Int32)), .val (.ref a3), .val (.int (8 : Int32)), .val (.int (11 : Int32)), .val (.int (8 : Int32)), .val (.int c8)] [(.int c8)])) (fun _ k => XS.iload X46.here hx rfl (hb hby d5_15) rfl k) ?_
  refine Go.step (T' := T46) (f' := (mkF m 20 #[.val (.ref a1), .val (.int (8 : Int32)), .val (.ref a3), .val (.int (8 : Int32)), .val (.int (11 : Int32)), .val (.int (8 : Int32)), .val (.int c8)] [(.int (255 : Int32)), (.int c8)])) (fun _ k => XS.sipush X46.here hx rfl (hb hby d5_17) k) ?_
  refine Go.step (T' := T46) (f' := (mkF m 26 #[.val (.ref a1), .val (.int (8 : Int32)), .val (.ref a3), .val (.int (8 : Int32)), .val (.int (11 : Int32)), .val (.int (8 : Int32)), .val (.int c8)] [])) (fun _ k => XS.icmpYes X46.here hx rfl (pc0 := 20) (pc' := 26) rfl (hb hby d5_20) rfl (flt hl8).2.2.2 (by decide) (by decide) k) ?_
  refine Go.step (T' := T46) (f' := (mkF m 27 #[.val (.ref a1), .val (.int (8 : Int32)), .val (.ref a3), .val (.int (8 : Int32)), .val (.int (11 : Int32)), .val (.int (8 : Int32)), .val (.int c8)] [(.ref a3)])) (fun _ k => XS.aloadN X46.here hx rfl (hb hby d5_26) rfl rfl k) ?_
  refine Go.step (T' := T46) (f' := (mkF m 28 #[.val (.ref a1), .val (.int (8 : Int32)), .val (.ref a3), .val (.int (8 : Int32)), .val (.int (11 : Int32)), .val (.int (8 : Int32)), .val (.int c8)] [(.int (8 : Int32)), (.ref a3)])) (fun _ k => XS.iloadN X46.here hx rfl (hb hby d5_27) rfl k) ?_
  refine Go.step (T' := T46) (f' := (mkF m 30 #[.val (.ref a1), .val (.int (8 : Int32)), .val (.ref a3), .val (.int (8 : Int32)), .val (.int (11 : Int32)), .val (.int (8 : Int32)), .val (.int c8)] [(.int c8), (.int (8 : Int32)), (.ref a3)])) (fun _ k => XS.iload X46.here hx rfl (hb hby d5_28) rfl k) ?_
  refine Go.step (T' := T46) (f' := (mkF m 31 #[.val (.ref a1), .val (.int (8 : Int32)), .val (.ref a3), .val (.int (8 : Int32)), .val (.int (11 : Int32)), .val (.int (8 : Int32)), .val (.int c8)] [(.int (c8.toInt8.toInt32)), (.int (8 : Int32)), (.ref a3)])) (fun _ k => XS.i2b X46.here hx rfl (hb hby d5_30) rfl k) ?_
  obtain ⟨cl51, Ar51, qc51, Sz51, Nn51, Hs51, Gf51⟩ := id Va46
  have hin52 : ¬ ((8 : Int32) < 0 ∨ cl51.slots.size ≤ ((8 : Int32)).toNatClampNeg) := (inb_of Sz51 ⟨by decide, by decide⟩)
  obtain ⟨T52, h52, X52, e52, W52, st52⟩ := stB X46 hx hZ e46 Ar51 (j := (8 : Int32)) hin52 (g := (mkF m 31 #[.val (.ref a1), .val (.int (8 : Int32)), .val (.ref a3), .val (.int (8 : Int32)), .val (.int (11 : Int32)), .val (.int (8 : Int32)), .val (.int c8)] [(.int (c8.toInt8.toInt32)), (.int (8 : Int32)), (.ref a3)])) rfl rfl (hb hby d5_31)
  have N52 := Fr.snoc X52 N46 g_a3
  have Z53 : n0 ≤ h52.size := Nat.le_trans Z47 (Keep.of_wr W52).1
  have K53 : Keep h0 h52 [a3] := K47.wr W52 (Or.inl (List.mem_of_getElem? (i := 0) rfl))
  rw [own_nb] at W52
  have Va52 : Arv Z h52 a3 kb .byte (11 : Int32) [(.int (c0.toInt8.toInt32)), (.int (c1.toInt8.toInt32)), (.int (c2.toInt8.toInt32)), (.int (c3.toInt8.toInt32)), (.int (c4.toInt8.toInt32)), (.int (c5.toInt8.toInt32)), (.int (c6.toInt8.toInt32)), (.int (c7.toInt8.toInt32)), (.int (c8.toInt8.toInt32)), (.int (0 : Int32)), (.int (0 : Int32))] (.int (0 : Int32)) := Arv.set Ar51 qc51 Sz51 Nn51 Hs51 Gf51 (fits_nar_byte _) W52 8 rfl (Nat.le_of_ble_eq_true rfl)
  refine Go.step (T' := T52) (f' := (mkF m 32 #[.val (.ref a1), .val (.int (8 : Int32)), .val (.ref a3), .val (.int (8 : Int32)), .val (.int (11 : Int32)), .val (.int (8 : Int32)), .val (.int c8)] [])) st52 ?_
  refine Go.step (T' := T52) (f' := (mkF m 35 #[.val (.ref a1), .val (.int (9 : Int32)), .val (.ref a3), .val (.int (8 : Int32)), .val (.int (11 : Int32)), .val (.int (8 : Int32)), .val (.int c8)] [])) (fun _ k => XS.iinc X52.here hx rfl (hb hby d5_32) rfl (l' := #[.val (.ref a1), .val (.int (9 : Int32)), .val (.ref a3), .val (.int (8 : Int32)), .val (.int (11 : Int32)), .val (.int (8 : Int32)), .val (.int c8)]) rfl k) ?_
  refine Go.step (T' := T52) (f' := (mkF m 38 #[.val (.ref a1), .val (.int (9 : Int32)), .val (.ref a3), .val (.int (9 : Int32)), .val (.int (11 : Int32)), .val (.int (8 : Int32)), .val (.int c8)] [])) (fun _ k => XS.iinc X52.here hx rfl (hb hby d5_35) rfl (l' := #[.val (.ref a1), .val (.int (9 : Int32)), .val (.ref a3), .val (.int (9 : Int32)), .val (.int (11 : Int32)), .val (.int (8 : Int32)), .val (.int c8)]) rfl k) ?_
  refine Go.step (T' := T52) (f' := (mkF m 41 #[.val (.ref a1), .val (.int (9 : Int32)), .val (.ref a3), .val (.int (9 : Int32)), .val (.int (11 : Int32)), .val (.int (9 : Int32)), .val (.int c8)] [])) (fun _ k => XS.iinc X52.here hx rfl (hb hby d5_38) rfl (l' := #[.val (.ref a1), .val (.int (9 : Int32)), .val (.ref a3), .val (.int (9 : Int32)), .val (.int (11 : Int32)), .val (.int (9 : Int32)), .val (.int c8)]) rfl k) ?_
  refine Go.step (T' := T52) (f' := (mkF m 3 #[.val (.ref a1), .val (.int (9 : Int32)), .val (.ref a3), .val (.int (9 : Int32)), .val (.int (11 : Int32)), .val (.int (9 : Int32)), .val (.int c8)] [])) (fun _ k => XS.goto X52.here hx rfl (pc0 := 41) (pc' := 3) rfl (hb hby d5_41) (by decide) (by decide) k) ?_
  refine Go.step (T' := T52) (f' := (mkF m 5 #[.val (.ref a1), .val (.int (9 : Int32)), .val (.ref a3), .val (.int (9 : Int32)), .val (.int (11 : Int32)), .val (.int (9 : Int32)), .val (.int c8)] [(.int (9 : Int32))])) (fun _ k => XS.iload X52.here hx rfl (hb hby d5_3) rfl k) ?_
  refine Go.step (T' := T52) (f' := (mkF m 7 #[.val (.ref a1), .val (.int (9 : Int32)), .val (.ref a3), .val (.int (9 : Int32)), .val (.int (11 : Int32)), .val (.int (9 : Int32)), .val (.int c8)] [(.int (11 : Int32)), (.int (9 : Int32))])) (fun _ k => XS.iload X52.here hx rfl (hb hby d5_5) rfl k) ?_
  refine Go.step (T' := T52) (f' := (mkF m 10 #[.val (.ref a1), .val (.int (9 : Int32)), .val (.ref a3), .val (.int (9 : Int32)), .val (.int (11 : Int32)), .val (.int (9 : Int32)), .val (.int c8)] [])) (fun _ k => XS.icmpNo X52.here hx rfl (hb hby d5_7) rfl (tlt (by decide : (9 : Int32) < (11 : Int32))).2.1 k) ?_
  refine Go.step (T' := T52) (f' := (mkF m 11 #[.val (.ref a1), .val (.int (9 : Int32)), .val (.ref a3), .val (.int (9 : Int32)), .val (.int (11 : Int32)), .val (.int (9 : Int32)), .val (.int c8)] [(.ref a1)])) (fun _ k => XS.aloadN X52.here hx rfl (hb hby d5_10) rfl rfl k) ?_
  refine Go.step (T' := T52) (f' := (mkF m 12 #[.val (.ref a1), .val (.int (9 : Int32)), .val (.ref a3), .val (.int (9 : Int32)), .val (.int (11 : Int32)), .val (.int (9 : Int32)), .val (.int c8)] [(.int (9 : Int32)), (.ref a1)])) (fun _ k => XS.iloadN X52.here hx rfl (hb hby d5_11) rfl k) ?_
  have q54 : Arv Z h52 a1 kc .char (11 : Int32) [(.int c0), (.int c1), (.int c2), (.int c3), (.int c4), (.int c5), (.int c6), (.int c7), (.int c8), (.int c9), (.int c10)] (.int (0 : Int32)) := (q48.other W52 hne)
  obtain ⟨cl55, Ar55, qc55, Sz55, Nn55, Hs55, Gf55⟩ := id q54
  have hin56 : ¬ ((9 : Int32) < 0 ∨ cl55.slots.size ≤ ((9 : Int32)).toNatClampNeg) := (inb_of Sz55 ⟨by decide, by decide⟩)
  have hat56 : cl55.slots[((9 : Int32)).toNatClampNeg]? = some (.int c9) := Has.at Hs55 hin56 rfl
  refine Go.step (T' := T52) (f' := (mkF m 13 #[.val (.ref a1), .val (.int (9 : Int32)), .val (.ref a3), .val (.int (9 : Int32)), .val (.int (11 : Int32)), .val (.int (9 : Int32)), .val (.int c8)] [(.int c9)])) (fun _ k => X52.caload hx (j := (9 : Int32)) (v := (.int c9)) (by rw [e52]; exact Ar55.1) (State.isArrayOf_alike hZ.alike Ar55.2.1) Ar55.2.2 hin56 hat56 (g := (mkF m 12 #[.val (.ref a1), .val (.int (9 : Int32)), .val (.ref a3), .val (.int (9 : Int32)), .val (.int (11 : Int32)), .val (.int (9 : Int32)), .val (.int c8)] [(.int (9 : Int32)), (.ref a1)])) rfl rfl (hb hby d5_12) _ k) ?_
  refine Go.step (T' := T52) (f' := (mkF m 15 #[.val (.ref a1), .val (.int (9 : Int32)), .val (.ref a3), .val (.int (9 : Int32)), .val (.int (11 : Int32)), .val (.int (9 : Int32)), .val (.int c9)] [])) (fun _ k => XS.istore X52.here hx rfl (hb hby d5_13) rfl (l' := #[.val (.ref a1), .val (.int (9 : Int32)), .val (.ref a3), .val (.int (9 : Int32)), .val (.int (11 : Int32)), .val (.int (9 : Int32)), .val (.int c9)]) rfl k) ?_
  refine Go.step (T' := T52) (f' := (mkF m 17 #[.val (.ref a1), .val (.int (9 : Int32)), .val (.ref a3), .val (.int (9 : Int32)), .val (.int (11 : Int32)), .val (.int (9 : Int32)), .val (.int c9)] [(.int c9)])) (fun _ k => XS.iload X52.here hx rfl (hb hby d5_15) rfl k) ?_
  refine Go.step (T' := T52) (f' := (mkF m 20 #[.val (.ref a1), .val (.int (9 : Int32)), .val (.ref a3), .val (.int (9 : Int32)), .val (.int (11 : Int32)), .val (.int (9 : Int32)), .val (.int c9)] [(.int (255 : Int32)), (.int c9)])) (fun _ k => XS.sipush X52.here hx rfl (hb hby d5_17) k) ?_
  refine Go.step (T' := T52) (f' := (mkF m 26 #[.val (.ref a1), .val (.int (9 : Int32)), .val (.ref a3), .val (.int (9 : Int32)), .val (.int (11 : Int32)), .val (.int (9 : Int32)), .val (.int c9)] [])) (fun _ k => XS.icmpYes X52.here hx rfl (pc0 := 20) (pc' := 26) rfl (hb hby d5_20) rfl (flt hl9).2.2.2 (by decide) (by decide) k) ?_
  refine Go.step (T' := T52) (f' := (mkF m 27 #[.val (.ref a1), .val (.int (9 : Int32)), .val (.ref a3), .val (.int (9 : Int32)), .val (.int (11 : Int32)), .val (.int (9 : Int32)), .val (.int c9)] [(.ref a3)])) (fun _ k => XS.aloadN X52.here hx rfl (hb hby d5_26) rfl rfl k) ?_
  refine Go.step (T' := T52) (f' := (mkF m 28 #[.val (.ref a1), .val (.int (9 : Int32)), .val (.ref a3), .val (.int (9 : Int32)), .val (.int (11 : Int32)), .val (.int (9 : Int32)), .val (.int c9)] [(.int (9 : Int32)), (.ref a3)])) (fun _ k => XS.iloadN X52.here hx rfl (hb hby d5_27) rfl k) ?_
  refine Go.step (T' := T52) (f' := (mkF m 30 #[.val (.ref a1), .val (.int (9 : Int32)), .val (.ref a3), .val (.int (9 : Int32)), .val (.int (11 : Int32)), .val (.int (9 : Int32)), .val (.int c9)] [(.int c9), (.int (9 : Int32)), (.ref a3)])) (fun _ k => XS.iload X52.here hx rfl (hb hby d5_28) rfl k) ?_
  refine Go.step (T' := T52) (f' := (mkF m 31 #[.val (.ref a1), .val (.int (9 : Int32)), .val (.ref a3), .val (.int (9 : Int32)), .val (.int (11 : Int32)), .val (.int (9 : Int32)), .val (.int c9)] [(.int (c9.toInt8.toInt32)), (.int (9 : Int32)), (.ref a3)])) (fun _ k => XS.i2b X52.here hx rfl (hb hby d5_30) rfl k) ?_
  obtain ⟨cl57, Ar57, qc57, Sz57, Nn57, Hs57, Gf57⟩ := id Va52
  have hin58 : ¬ ((9 : Int32) < 0 ∨ cl57.slots.size ≤ ((9 : Int32)).toNatClampNeg) := (inb_of Sz57 ⟨by decide, by decide⟩)
  obtain ⟨T58, h58, X58, e58, W58, st58⟩ := stB X52 hx hZ e52 Ar57 (j := (9 : Int32)) hin58 (g := (mkF m 31 #[.val (.ref a1), .val (.int (9 : Int32)), .val (.ref a3), .val (.int (9 : Int32)), .val (.int (11 : Int32)), .val (.int (9 : Int32)), .val (.int c9)] [(.int (c9.toInt8.toInt32)), (.int (9 : Int32)), (.ref a3)])) rfl rfl (hb hby d5_31)
  have N58 := Fr.snoc X58 N52 g_a3
  have Z59 : n0 ≤ h58.size := Nat.le_trans Z53 (Keep.of_wr W58).1
  have K59 : Keep h0 h58 [a3] := K53.wr W58 (Or.inl (List.mem_of_getElem? (i := 0) rfl))
  rw [own_nb] at W58
  have Va58 : Arv Z h58 a3 kb .byte (11 : Int32) [(.int (c0.toInt8.toInt32)), (.int (c1.toInt8.toInt32)), (.int (c2.toInt8.toInt32)), (.int (c3.toInt8.toInt32)), (.int (c4.toInt8.toInt32)), (.int (c5.toInt8.toInt32)), (.int (c6.toInt8.toInt32)), (.int (c7.toInt8.toInt32)), (.int (c8.toInt8.toInt32)), (.int (c9.toInt8.toInt32)), (.int (0 : Int32))] (.int (0 : Int32)) := Arv.set Ar57 qc57 Sz57 Nn57 Hs57 Gf57 (fits_nar_byte _) W58 9 rfl (Nat.le_of_ble_eq_true rfl)
  refine Go.step (T' := T58) (f' := (mkF m 32 #[.val (.ref a1), .val (.int (9 : Int32)), .val (.ref a3), .val (.int (9 : Int32)), .val (.int (11 : Int32)), .val (.int (9 : Int32)), .val (.int c9)] [])) st58 ?_
  refine Go.step (T' := T58) (f' := (mkF m 35 #[.val (.ref a1), .val (.int (10 : Int32)), .val (.ref a3), .val (.int (9 : Int32)), .val (.int (11 : Int32)), .val (.int (9 : Int32)), .val (.int c9)] [])) (fun _ k => XS.iinc X58.here hx rfl (hb hby d5_32) rfl (l' := #[.val (.ref a1), .val (.int (10 : Int32)), .val (.ref a3), .val (.int (9 : Int32)), .val (.int (11 : Int32)), .val (.int (9 : Int32)), .val (.int c9)]) rfl k) ?_
  refine Go.step (T' := T58) (f' := (mkF m 38 #[.val (.ref a1), .val (.int (10 : Int32)), .val (.ref a3), .val (.int (10 : Int32)), .val (.int (11 : Int32)), .val (.int (9 : Int32)), .val (.int c9)] [])) (fun _ k => XS.iinc X58.here hx rfl (hb hby d5_35) rfl (l' := #[.val (.ref a1), .val (.int (10 : Int32)), .val (.ref a3), .val (.int (10 : Int32)), .val (.int (11 : Int32)), .val (.int (9 : Int32)), .val (.int c9)]) rfl k) ?_
  refine Go.step (T' := T58) (f' := (mkF m 41 #[.val (.ref a1), .val (.int (10 : Int32)), .val (.ref a3), .val (.int (10 : Int32)), .val (.int (11 : Int32)), .val (.int (10 : Int32)), .val (.int c9)] [])) (fun _ k => XS.iinc X58.here hx rfl (hb hby d5_38) rfl (l' := #[.val (.ref a1), .val (.int (10 : Int32)), .val (.ref a3), .val (.int (10 : Int32)), .val (.int (11 : Int32)), .val (.int (10 : Int32)), .val (.int c9)]) rfl k) ?_
  refine Go.step (T' := T58) (f' := (mkF m 3 #[.val (.ref a1), .val (.int (10 : Int32)), .val (.ref a3), .val (.int (10 : Int32)), .val (.int (11 : Int32)), .val (.int (10 : Int32)), .val (.int c9)] [])) (fun _ k => XS.goto X58.here hx rfl (pc0 := 41) (pc' := 3) rfl (hb hby d5_41) (by decide) (by decide) k) ?_
  refine Go.step (T' := T58) (f' := (mkF m 5 #[.val (.ref a1), .val (.int (10 : Int32)), .val (.ref a3), .val (.int (10 : Int32)), .val (.int (11 : Int32)), .val (.int (10 : Int32)), .val (.int c9)] [(.int (10 : Int32))])) (fun _ k => XS.iload X58.here hx rfl (hb hby d5_3) rfl k) ?_
  refine Go.step (T' := T58) (f' := (mkF m 7 #[.val (.ref a1), .val (.int (10 : Int32)), .val (.ref a3), .val (.int (10 : Int32)), .val (.int (11 : Int32)), .val (.int (10 : Int32)), .val (.int c9)] [(.int (11 : Int32)), (.int (10 : Int32))])) (fun _ k => XS.iload X58.here hx rfl (hb hby d5_5) rfl k) ?_
  refine Go.step (T' := T58) (f' := (mkF m 10 #[.val (.ref a1), .val (.int (10 : Int32)), .val (.ref a3), .val (.int (10 : Int32)), .val (.int (11 : Int32)), .val (.int (10 : Int32)), .val (.int c9)] [])) (fun _ k => XS.icmpNo X58.here hx rfl (hb hby d5_7) rfl (tlt (by decide : (10 : Int32) < (11 : Int32))).2.1 k) ?_
  refine Go.step (T' := T58) (f' := (mkF m 11 #[.val (.ref a1), .val (.int (10 : Int32)), .val (.ref a3), .val (.int (10 : Int32)), .val (.int (11 : Int32)), .val (.int (10 : Int32)), .val (.int c9)] [(.ref a1)])) (fun _ k => XS.aloadN X58.here hx rfl (hb hby d5_10) rfl rfl k) ?_
  refine Go.step (T' := T58) (f' := (mkF m 12 #[.val (.ref a1), .val (.int (10 : Int32)), .val (.ref a3), .val (.int (10 : Int32)), .val (.int (11 : Int32)), .val (.int (10 : Int32)), .val (.int c9)] [(.int (10 : Int32)), (.ref a1)])) (fun _ k => XS.iloadN X58.here hx rfl (hb hby d5_11) rfl k) ?_
  have q60 : Arv Z h58 a1 kc .char (11 : Int32) [(.int c0), (.int c1), (.int c2), (.int c3), (.int c4), (.int c5), (.int c6), (.int c7), (.int c8), (.int c9), (.int c10)] (.int (0 : Int32)) := (q54.other W58 hne)
  obtain ⟨cl61, Ar61, qc61, Sz61, Nn61, Hs61, Gf61⟩ := id q60
  have hin62 : ¬ ((10 : Int32) < 0 ∨ cl61.slots.size ≤ ((10 : Int32)).toNatClampNeg) := (inb_of Sz61 ⟨by decide, by decide⟩)
  have hat62 : cl61.slots[((10 : Int32)).toNatClampNeg]? = some (.int c10) := Has.at Hs61 hin62 rfl
  refine Go.step (T' := T58) (f' := (mkF m 13 #[.val (.ref a1), .val (.int (10 : Int32)), .val (.ref a3), .val (.int (10 : Int32)), .val (.int (11 : Int32)), .val (.int (10 : Int32)), .val (.int c9)] [(.int c10)])) (fun _ k => X58.caload hx (j := (10 : Int32)) (v := (.int c10)) (by rw [e58]; exact Ar61.1) (State.isArrayOf_alike hZ.alike Ar61.2.1) Ar61.2.2 hin62 hat62 (g := (mkF m 12 #[.val (.ref a1), .val (.int (10 : Int32)), .val (.ref a3), .val (.int (10 : Int32)), .val (.int (11 : Int32)), .val (.int (10 : Int32)), .val (.int c9)] [(.int (10 : Int32)), (.ref a1)])) rfl rfl (hb hby d5_12) _ k) ?_
  refine Go.step (T' := T58) (f' := (mkF m 15 #[.val (.ref a1), .val (.int (10 : Int32)), .val (.ref a3), .val (.int (10 : Int32)), .val (.int (11 : Int32)), .val (.int (10 : Int32)), .val (.int c10)] [])) (fun _ k => XS.istore X58.here hx rfl (hb hby d5_13) rfl (l' := #[.val (.ref a1), .val (.int (10 : Int32)), .val (.ref a3), .val (.int (10 : Int32)), .val (.int (11 : Int32)), .val (.int (10 : Int32)), .val (.int c10)]) rfl k) ?_
  refine Go.step (T' := T58) (f' := (mkF m 17 #[.val (.ref a1), .val (.int (10 : Int32)), .val (.ref a3), .val (.int (10 : Int32)), .val (.int (11 : Int32)), .val (.int (10 : Int32)), .val (.int c10)] [(.int c10)])) (fun _ k => XS.iload X58.here hx rfl (hb hby d5_15) rfl k) ?_
  refine Go.step (T' := T58) (f' := (mkF m 20 #[.val (.ref a1), .val (.int (10 : Int32)), .val (.ref a3), .val (.int (10 : Int32)), .val (.int (11 : Int32)), .val (.int (10 : Int32)), .val (.int c10)] [(.int (255 : Int32)), (.int c10)])) (fun _ k => XS.sipush X58.here hx rfl (hb hby d5_17) k) ?_
  refine Go.step (T' := T58) (f' := (mkF m 26 #[.val (.ref a1), .val (.int (10 : Int32)), .val (.ref a3), .val (.int (10 : Int32)), .val (.int (11 : Int32)), .val (.int (10 : Int32)), .val (.int c10)] [])) (fun _ k => XS.icmpYes X58.here hx rfl (pc0 := 20) (pc' := 26) rfl (hb hby d5_20) rfl (flt hl10).2.2.2 (by decide) (by decide) k) ?_
  refine Go.step (T' := T58) (f' := (mkF m 27 #[.val (.ref a1), .val (.int (10 : Int32)), .val (.ref a3), .val (.int (10 : Int32)), .val (.int (11 : Int32)), .val (.int (10 : Int32)), .val (.int c10)] [(.ref a3)])) (fun _ k => XS.aloadN X58.here hx rfl (hb hby d5_26) rfl rfl k) ?_
  refine Go.step (T' := T58) (f' := (mkF m 28 #[.val (.ref a1), .val (.int (10 : Int32)), .val (.ref a3), .val (.int (10 : Int32)), .val (.int (11 : Int32)), .val (.int (10 : Int32)), .val (.int c10)] [(.int (10 : Int32)), (.ref a3)])) (fun _ k => XS.iloadN X58.here hx rfl (hb hby d5_27) rfl k) ?_
  refine Go.step (T' := T58) (f' := (mkF m 30 #[.val (.ref a1), .val (.int (10 : Int32)), .val (.ref a3), .val (.int (10 : Int32)), .val (.int (11 : Int32)), .val (.int (10 : Int32)), .val (.int c10)] [(.int c10), (.int (10 : Int32)), (.ref a3)])) (fun _ k => XS.iload X58.here hx rfl (hb hby d5_28) rfl k) ?_
  refine Go.step (T' := T58) (f' := (mkF m 31 #[.val (.ref a1), .val (.int (10 : Int32)), .val (.ref a3), .val (.int (10 : Int32)), .val (.int (11 : Int32)), .val (.int (10 : Int32)), .val (.int c10)] [(.int (c10.toInt8.toInt32)), (.int (10 : Int32)), (.ref a3)])) (fun _ k => XS.i2b X58.here hx rfl (hb hby d5_30) rfl k) ?_
  obtain ⟨cl63, Ar63, qc63, Sz63, Nn63, Hs63, Gf63⟩ := id Va58
  have hin64 : ¬ ((10 : Int32) < 0 ∨ cl63.slots.size ≤ ((10 : Int32)).toNatClampNeg) := (inb_of Sz63 ⟨by decide, by decide⟩)
  obtain ⟨T64, h64, X64, e64, W64, st64⟩ := stB X58 hx hZ e58 Ar63 (j := (10 : Int32)) hin64 (g := (mkF m 31 #[.val (.ref a1), .val (.int (10 : Int32)), .val (.ref a3), .val (.int (10 : Int32)), .val (.int (11 : Int32)), .val (.int (10 : Int32)), .val (.int c10)] [(.int (c10.toInt8.toInt32)), (.int (10 : Int32)), (.ref a3)])) rfl rfl (hb hby d5_31)
  have N64 := Fr.snoc X64 N58 g_a3
  have Z65 : n0 ≤ h64.size := Nat.le_trans Z59 (Keep.of_wr W64).1
  have K65 : Keep h0 h64 [a3] := K59.wr W64 (Or.inl (List.mem_of_getElem? (i := 0) rfl))
  rw [own_nb] at W64
  have Va64 : Arv Z h64 a3 kb .byte (11 : Int32) [(.int (c0.toInt8.toInt32)), (.int (c1.toInt8.toInt32)), (.int (c2.toInt8.toInt32)), (.int (c3.toInt8.toInt32)), (.int (c4.toInt8.toInt32)), (.int (c5.toInt8.toInt32)), (.int (c6.toInt8.toInt32)), (.int (c7.toInt8.toInt32)), (.int (c8.toInt8.toInt32)), (.int (c9.toInt8.toInt32)), (.int (c10.toInt8.toInt32))] (.int (0 : Int32)) := Arv.set Ar63 qc63 Sz63 Nn63 Hs63 Gf63 (fits_nar_byte _) W64 10 rfl (Nat.le_of_ble_eq_true rfl)
  refine Go.step (T' := T64) (f' := (mkF m 32 #[.val (.ref a1), .val (.int (10 : Int32)), .val (.ref a3), .val (.int (10 : Int32)), .val (.int (11 : Int32)), .val (.int (10 : Int32)), .val (.int c10)] [])) st64 ?_
  refine Go.step (T' := T64) (f' := (mkF m 35 #[.val (.ref a1), .val (.int (11 : Int32)), .val (.ref a3), .val (.int (10 : Int32)), .val (.int (11 : Int32)), .val (.int (10 : Int32)), .val (.int c10)] [])) (fun _ k => XS.iinc X64.here hx rfl (hb hby d5_32) rfl (l' := #[.val (.ref a1), .val (.int (11 : Int32)), .val (.ref a3), .val (.int (10 : Int32)), .val (.int (11 : Int32)), .val (.int (10 : Int32)), .val (.int c10)]) rfl k) ?_
  refine Go.step (T' := T64) (f' := (mkF m 38 #[.val (.ref a1), .val (.int (11 : Int32)), .val (.ref a3), .val (.int (11 : Int32)), .val (.int (11 : Int32)), .val (.int (10 : Int32)), .val (.int c10)] [])) (fun _ k => XS.iinc X64.here hx rfl (hb hby d5_35) rfl (l' := #[.val (.ref a1), .val (.int (11 : Int32)), .val (.ref a3), .val (.int (11 : Int32)), .val (.int (11 : Int32)), .val (.int (10 : Int32)), .val (.int c10)]) rfl k) ?_
  refine Go.step (T' := T64) (f' := (mkF m 41 #[.val (.ref a1), .val (.int (11 : Int32)), .val (.ref a3), .val (.int (11 : Int32)), .val (.int (11 : Int32)), .val (.int (11 : Int32)), .val (.int c10)] [])) (fun _ k => XS.iinc X64.here hx rfl (hb hby d5_38) rfl (l' := #[.val (.ref a1), .val (.int (11 : Int32)), .val (.ref a3), .val (.int (11 : Int32)), .val (.int (11 : Int32)), .val (.int (11 : Int32)), .val (.int c10)]) rfl k) ?_
  refine Go.step (T' := T64) (f' := (mkF m 3 #[.val (.ref a1), .val (.int (11 : Int32)), .val (.ref a3), .val (.int (11 : Int32)), .val (.int (11 : Int32)), .val (.int (11 : Int32)), .val (.int c10)] [])) (fun _ k => XS.goto X64.here hx rfl (pc0 := 41) (pc' := 3) rfl (hb hby d5_41) (by decide) (by decide) k) ?_
  refine Go.step (T' := T64) (f' := (mkF m 5 #[.val (.ref a1), .val (.int (11 : Int32)), .val (.ref a3), .val (.int (11 : Int32)), .val (.int (11 : Int32)), .val (.int (11 : Int32)), .val (.int c10)] [(.int (11 : Int32))])) (fun _ k => XS.iload X64.here hx rfl (hb hby d5_3) rfl k) ?_
  refine Go.step (T' := T64) (f' := (mkF m 7 #[.val (.ref a1), .val (.int (11 : Int32)), .val (.ref a3), .val (.int (11 : Int32)), .val (.int (11 : Int32)), .val (.int (11 : Int32)), .val (.int c10)] [(.int (11 : Int32)), (.int (11 : Int32))])) (fun _ k => XS.iload X64.here hx rfl (hb hby d5_5) rfl k) ?_
  refine Go.step (T' := T64) (f' := (mkF m 44 #[.val (.ref a1), .val (.int (11 : Int32)), .val (.ref a3), .val (.int (11 : Int32)), .val (.int (11 : Int32)), .val (.int (11 : Int32)), .val (.int c10)] [])) (fun _ k => XS.icmpYes X64.here hx rfl (pc0 := 7) (pc' := 44) rfl (hb hby d5_7) rfl (flt (by decide : ¬ ((11 : Int32) < (11 : Int32)))).2.1 (by decide) (by decide) k) ?_
  refine Go.step (T' := T64) (f' := (mkF m 46 #[.val (.ref a1), .val (.int (11 : Int32)), .val (.ref a3), .val (.int (11 : Int32)), .val (.int (11 : Int32)), .val (.int (11 : Int32)), .val (.int c10)] [(.int (11 : Int32))])) (fun _ k => XS.iload X64.here hx rfl (hb hby d5_44) rfl k) ?_
  refine goI X64 hx Bd.returns Bd.notSynchronized (hb hby d5_46) ?_ (by decide) (by decide)
  show Q_rmCpA11 Z a1 a3 kc c0 c1 c2 c3 c4 c5 c6 c7 c8 c9 c10 kb h0 n0 _ T64.heap _
  rw [e64]
  exact ⟨rfl, N64, K65, Va64⟩
theorem ef_rmCpB11 (m : MethodId) (a1 : Addr) : entryFrame m #[(.ref a1), (.int (0 : Int32)), (.int (11 : Int32))] 6 = mkF m 0 #[.val (.ref a1), .val (.int (0 : Int32)), .val (.int (11 : Int32)), .unset, .unset, .unset] [] := by first | (simp [entryFrame, mkF, argsToLocals, Value.category]; done) | rfl
def Q_rmCpB11 (Z : State) (a1 : Addr) (kc : ClassId) (c0 : Int32) (c1 : Int32) (c2 : Int32) (c3 : Int32) (c4 : Int32) (c5 : Int32) (c6 : Int32) (c7 : Int32) (c8 : Int32) (c9 : Int32) (c10 : Int32) (h0 : Heap) (n0 : Nat) (rv : Option Value) (hq : Heap) (Lq : List Loc) : Prop := ∃ b : Addr, ∃ kb : ClassId, rv = some (.ref b) ∧ Fr n0 Lq ∧ Keep h0 hq [] ∧ h0.size ≤ b ∧ Arv Z hq b kb .byte (11 : Int32) [(.int (c0.toInt8.toInt32)), (.int (c1.toInt8.toInt32)), (.int (c2.toInt8.toInt32)), (.int (c3.toInt8.toInt32)), (.int (c4.toInt8.toInt32)), (.int (c5.toInt8.toInt32)), (.int (c6.toInt8.toInt32)), (.int (c7.toInt8.toInt32)), (.int (c8.toInt8.toInt32)), (.int (c9.toInt8.toInt32)), (.int (c10.toInt8.toInt32))] (.int (0 : Int32))
set_option maxRecDepth 65536 in
set_option maxHeartbeats 40000000 in
theorem rmCpB11 (l : Launch) (Z : State) (a0 : Array Value) (hw : ∀ d ∈ tables_1, d.before a0 Z = true) (ws : List Jvm.Cond) (a1 : Addr) (kc : ClassId) (c0 : Int32) (c1 : Int32) (c2 : Int32) (c3 : Int32) (c4 : Int32) (c5 : Int32) (c6 : Int32) (c7 : Int32) (c8 : Int32) (c9 : Int32) (c10 : Int32) (h0 : Heap) (n0 : Nat) (Z0 : n0 ≤ h0.size) (V_a1 : Arv Z h0 a1 kc .char (11 : Int32) [(.int c0), (.int c1), (.int c2), (.int c3), (.int c4), (.int c5), (.int c6), (.int c7), (.int c8), (.int c9), (.int c10)] (.int (0 : Int32))) (hl0 : ¬ (255 : Int32) < c0) (hl1 : ¬ (255 : Int32) < c1) (hl2 : ¬ (255 : Int32) < c2) (hl3 : ¬ (255 : Int32) < c3) (hl4 : ¬ (255 : Int32) < c4) (hl5 : ¬ (255 : Int32) < c5) (hl6 : ¬ (255 : Int32) < c6) (hl7 : ¬ (255 : Int32) < c7) (hl8 : ¬ (255 : Int32) < c8) (hl9 : ¬ (255 : Int32) < c9) (hl10 : ¬ (255 : Int32) < c10) :
    MetFree l (⟨"java/lang/StringUTF16", "compress", "([CII)[B"⟩ : MethodName) (head1 (Jvm.Cond.code (⟨"java/lang/StringUTF16", "compress", "([CII)[B"⟩ : MethodName) jdk_52_method_16_code 6 (some (.array .byte)) :: ws) ({ frames := 1, cells := 1, slots := 11, locals := 18 } : Room)) (fun a U => a = #[(.ref a1), (.int (0 : Int32)), (.int (11 : Int32))] ∧ Z.Warmed39 U.vm ∧ U.heap = h0) (fun _ _ _ _ _ => True) (fun _ U o U' => ∃ rv Lq, o = .returned rv ∧ Q_rmCpB11 Z a1 kc c0 c1 c2 c3 c4 c5 c6 c7 c8 c9 c10 h0 n0 rv U'.heap Lq ∧ FrameEnd U o U' Lq ({ frames := 1, cells := 1, slots := 11, locals := 18 } : Room).cells ({ frames := 1, cells := 1, slots := 11, locals := 18 } : Room).slots) := by
  refine MetFree.of_bodySF (plainFor_of_name pn_5) hisR ?_
  intro p e s m args below meth c s₁ Bd hml0 hP hK
  obtain ⟨rfl, hZ, hh⟩ := hP
  have hx := Bd.exec
  have hby := Bd.bytes
  have hml : c.maxLocals = 6 := hml0
  have hown : s.vm.findClass "java/lang/StringUTF16" = some m.cls := findClass_of_methodNamed Bd.named
  have hnm := (name_of_methodNamed Bd.named Bd.method).1
  have X0 : Stand p l e ({ frames := 1, cells := 1, slots := 11, locals := 18 } : Room) s m #[(.ref a1), (.int (0 : Int32)), (.int (11 : Int32))] below meth c s₁ [] 0 0 := Stand.of_body Bd
  have e0 : s₁.heap = h0 := by rw [← hh, Bd.state]; rfl
  have N0 := Fr.nil n0
  refine of_go (ef_rmCpB11 m a1) ?_
  refine Go.step (T' := s₁) (f' := (mkF m 1 #[.val (.ref a1), .val (.int (0 : Int32)), .val (.int (11 : Int32)), .unset, .unset, .unset] [(.int (11 : Int32))])) (fun _ k => XS.iloadN X0.here hx rfl (hb hby d4_0) rfl k) ?_
  obtain ⟨T1, h1, k1, X1, e1, E1, A1, st1⟩ := newP X0 hx hZ (hw _ (List.mem_of_getElem? (i := 23) rfl)) e0 (g := (mkF m 1 #[.val (.ref a1), .val (.int (0 : Int32)), .val (.int (11 : Int32)), .unset, .unset, .unset] [(.int (11 : Int32))])) rfl (hb hby d4_1) rfl (by decide) (cap := 11) (by decide) (by decide) (by decide) (by decide)
  obtain ⟨b1, g1⟩ : ∃ z, z = h0.size := ⟨_, rfl⟩
  rw [← g1] at A1 st1
  have g_b1 : n0 ≤ b1 := Nat.le_trans Z0 (Nat.le_of_eq g1.symm)
  have sz_b1 : h0.size ≤ b1 := Nat.le_trans (Keep.refl h0 []).1 (Nat.le_of_eq g1.symm)
  have Z2 : n0 ≤ h1.size := Nat.le_trans Z0 E1.1
  have K2 : Keep h0 h1 [] := (Keep.refl h0 []).ext E1
  have V_b1 : Arv Z h1 b1 k1 .byte (11 : Int32) [(.int (0 : Int32)), (.int (0 : Int32)), (.int (0 : Int32)), (.int (0 : Int32)), (.int (0 : Int32)), (.int (0 : Int32)), (.int (0 : Int32)), (.int (0 : Int32)), (.int (0 : Int32)), (.int (0 : Int32)), (.int (0 : Int32))] (.int (0 : Int32)) := (Arv.new A1 (by decide)).pad (pad_rep [] (.int (0 : Int32)) 11)
  refine Go.step (T' := T1) (f' := (mkF m 3 #[.val (.ref a1), .val (.int (0 : Int32)), .val (.int (11 : Int32)), .unset, .unset, .unset] [(.ref b1)])) st1 ?_
  refine Go.step (T' := T1) (f' := (mkF m 4 #[.val (.ref a1), .val (.int (0 : Int32)), .val (.int (11 : Int32)), .val (.ref b1), .unset, .unset] [])) (fun _ k => XS.astoreN X1.here hx rfl (hb hby d4_3) rfl rfl (l' := #[.val (.ref a1), .val (.int (0 : Int32)), .val (.int (11 : Int32)), .val (.ref b1), .unset, .unset]) rfl k) ?_
  refine Go.step (T' := T1) (f' := (mkF m 5 #[.val (.ref a1), .val (.int (0 : Int32)), .val (.int (11 : Int32)), .val (.ref b1), .unset, .unset] [(.ref a1)])) (fun _ k => XS.aloadN X1.here hx rfl (hb hby d4_4) rfl rfl k) ?_
  refine Go.step (T' := T1) (f' := (mkF m 6 #[.val (.ref a1), .val (.int (0 : Int32)), .val (.int (11 : Int32)), .val (.ref b1), .unset, .unset] [(.int (0 : Int32)), (.ref a1)])) (fun _ k => XS.iloadN X1.here hx rfl (hb hby d4_5) rfl k) ?_
  refine Go.step (T' := T1) (f' := (mkF m 7 #[.val (.ref a1), .val (.int (0 : Int32)), .val (.int (11 : Int32)), .val (.ref b1), .unset, .unset] [(.ref b1), (.int (0 : Int32)), (.ref a1)])) (fun _ k => XS.aloadN X1.here hx rfl (hb hby d4_6) rfl rfl k) ?_
  refine Go.step (T' := T1) (f' := (mkF m 8 #[.val (.ref a1), .val (.int (0 : Int32)), .val (.int (11 : Int32)), .val (.ref b1), .unset, .unset] [(.int (0 : Int32)), (.ref b1), (.int (0 : Int32)), (.ref a1)])) (fun _ k => XS.iconst X1.here hx rfl (hb hby d4_7) k) ?_
  refine Go.step (T' := T1) (f' := (mkF m 9 #[.val (.ref a1), .val (.int (0 : Int32)), .val (.int (11 : Int32)), .val (.ref b1), .unset, .unset] [(.int (11 : Int32)), (.int (0 : Int32)), (.ref b1), (.int (0 : Int32)), (.ref a1)])) (fun _ k => XS.iloadN X1.here hx rfl (hb hby d4_8) rfl k) ?_
  have q4 : Arv Z h1 a1 kc .char (11 : Int32) [(.int c0), (.int c1), (.int c2), (.int c3), (.int c4), (.int c5), (.int c6), (.int c7), (.int c8), (.int c9), (.int c10)] (.int (0 : Int32)) := (V_a1.ext E1)
  obtain ⟨_, _, ⟨T3, L3, kk3, nn3⟩, -, X3, ⟨Lc3, hQ3, lq3, yq3, zq3⟩, st3⟩ := Jvm.LawKit.callS X1 hx (y := (⟨"java/lang/StringUTF16", "compress", "([CI[BII)I"⟩ : MethodName)) hown (mvT hZ (hw _ (List.mem_of_getElem? (i := 24) rfl))) (mvT hZ (hw _ (List.mem_of_getElem? (i := 25) rfl))) (mvT hZ (hw _ (List.mem_of_getElem? (i := 21) rfl))) (mvT hZ (hw _ (List.mem_of_getElem? (i := 26) rfl))) (by decide) (backOf (W := 0) (rmCpA11 l Z a0 hw [] a1 b1 kc c0 c1 c2 c3 c4 c5 c6 c7 c8 c9 c10 k1 h1 n0 Z2 q4 V_b1 (Nat.ne_of_lt (Nat.lt_of_lt_of_le V_a1.lt (Nat.le_of_eq g1.symm))) hl0 hl1 hl2 hl3 hl4 hl5 hl6 hl7 hl8 hl9 hl10 g_b1) hZ (hw _ (List.mem_of_getElem? (i := 26) rfl)) (hw _ (List.mem_of_getElem? (i := 21) rfl)) (by decide) (by decide)) (g := (mkF m 9 #[.val (.ref a1), .val (.int (0 : Int32)), .val (.int (11 : Int32)), .val (.ref b1), .unset, .unset] [(.int (11 : Int32)), (.int (0 : Int32)), (.ref b1), (.int (0 : Int32)), (.ref a1)])) rfl (by rw [hml]; rfl) (argsL := [(.ref a1), (.int (0 : Int32)), (.ref b1), (.int (0 : Int32)), (.int (11 : Int32))]) (rest := []) (lenOf pd_0 rfl) rfl (by show 2 * 0 + _ ≤ _; exact Nat.le_of_eq rfl) (hb hby d4_9) (fun _ _ => ⟨rfl, e1, (by decide : 1 + 0 ≤ _), (by decide : 11 + 0 ≤ _)⟩)
  dsimp only [Pt.U, Pt.locs, Pt.cells, Pt.slots] at X3 lq3 yq3 zq3 st3 hQ3
  subst yq3 zq3
  obtain ⟨rfl, Nq3, Kq3, r3_0⟩ := hQ3
  have N3 : Fr n0 L3 := by rw [lq3]; exact Fr.app N0 Nq3
  have Z5 : n0 ≤ T3.heap.size := Nat.le_trans Z2 Kq3.1
  have K5 : Keep h0 T3.heap [] := K2.trans Kq3 (allS (Or.inr sz_b1) all0)
  refine Go.step (T' := T3) (f' := (mkF m 12 #[.val (.ref a1), .val (.int (0 : Int32)), .val (.int (11 : Int32)), .val (.ref b1), .unset, .unset] [(.int (11 : Int32))])) st3 ?_
  refine Go.step (T' := T3) (f' := (mkF m 14 #[.val (.ref a1), .val (.int (0 : Int32)), .val (.int (11 : Int32)), .val (.ref b1), .val (.int (11 : Int32)), .unset] [])) (fun _ k => XS.istore X3.here hx rfl (hb hby d4_12) rfl (l' := #[.val (.ref a1), .val (.int (0 : Int32)), .val (.int (11 : Int32)), .val (.ref b1), .val (.int (11 : Int32)), .unset]) rfl k) ?_
  refine Go.step (T' := T3) (f' := (mkF m 16 #[.val (.ref a1), .val (.int (0 : Int32)), .val (.int (11 : Int32)), .val (.ref b1), .val (.int (11 : Int32)), .unset] [(.int (11 : Int32))])) (fun _ k => XS.iload X3.here hx rfl (hb hby d4_14) rfl k) ?_
  refine Go.step (T' := T3) (f' := (mkF m 17 #[.val (.ref a1), .val (.int (0 : Int32)), .val (.int (11 : Int32)), .val (.ref b1), .val (.int (11 : Int32)), .unset] [(.int (11 : Int32)), (.int (11 : Int32))])) (fun _ k => XS.iloadN X3.here hx rfl (hb hby d4_16) rfl k) ?_
  refine Go.step (T' := T3) (f' := (mkF m 57 #[.val (.ref a1), .val (.int (0 : Int32)), .val (.int (11 : Int32)), .val (.ref b1), .val (.int (11 : Int32)), .unset] [])) (fun _ k => XS.icmpYes X3.here hx rfl (pc0 := 17) (pc' := 57) rfl (hb hby d4_17) rfl (teq (by decide : (11 : Int32) = (11 : Int32))).1 (by decide) (by decide) k) ?_
  refine Go.step (T' := T3) (f' := (mkF m 58 #[.val (.ref a1), .val (.int (0 : Int32)), .val (.int (11 : Int32)), .val (.ref b1), .val (.int (11 : Int32)), .unset] [(.ref b1)])) (fun _ k => XS.aloadN X3.here hx rfl (hb hby d4_57) rfl rfl k) ?_
  refine goA X3 hx Bd.returns rfl rfl Bd.notSynchronized (hb hby d4_58) ?_ (by decide) (by decide)
  show Q_rmCpB11 Z a1 kc c0 c1 c2 c3 c4 c5 c6 c7 c8 c9 c10 h0 n0 _ T3.heap _
  exact ⟨b1, k1, rfl, N3, K5, sz_b1, r3_0⟩
theorem ef_rmCfl11 (m : MethodId) (a1 : Addr) : entryFrame m #[(.ref a1), (.int (11 : Int32))] 2 = mkF m 0 #[.val (.ref a1), .val (.int (11 : Int32))] [] := by first | (simp [entryFrame, mkF, argsToLocals, Value.category]; done) | rfl
def Q_rmCfl11 (Z : State) (a1 : Addr) (kb : ClassId) (vs : List Value) (h0 : Heap) (n0 : Nat) (rv : Option Value) (hq : Heap) (Lq : List Loc) : Prop := rv = some (.int (0 : Int32)) ∧ Fr n0 Lq ∧ hq = h0
set_option maxRecDepth 65536 in
set_option maxHeartbeats 40000000 in
theorem rmCfl11 (l : Launch) (Z : State) (a0 : Array Value) (hw : ∀ d ∈ tables_1, d.before a0 Z = true) (ws : List Jvm.Cond) (a1 : Addr) (kb : ClassId) (vs : List Value) (h0 : Heap) (n0 : Nat) (Z0 : n0 ≤ h0.size) (V_a1 : Arv Z h0 a1 kb .byte (11 : Int32) vs (.int (0 : Int32))) :
    MetFree l (⟨"java/lang/StringUTF16", "coderFromArrayLen", "([BI)B"⟩ : MethodName) (head1 (Jvm.Cond.code (⟨"java/lang/StringUTF16", "coderFromArrayLen", "([BI)B"⟩ : MethodName) jdk_52_method_15_code 2 (some .byte) :: ws) ({ frames := 0, cells := 0, slots := 0, locals := 0 } : Room)) (fun a U => a = #[(.ref a1), (.int (11 : Int32))] ∧ Z.Warmed39 U.vm ∧ U.heap = h0) (fun _ _ _ _ _ => True) (fun _ U o U' => ∃ rv Lq, o = .returned rv ∧ Q_rmCfl11 Z a1 kb vs h0 n0 rv U'.heap Lq ∧ FrameEnd U o U' Lq ({ frames := 0, cells := 0, slots := 0, locals := 0 } : Room).cells ({ frames := 0, cells := 0, slots := 0, locals := 0 } : Room).slots) := by
  refine MetFree.of_bodySF (plainFor_of_name pn_5) hisR ?_
  intro p e s m args below meth c s₁ Bd hml0 hP hK
  obtain ⟨rfl, hZ, hh⟩ := hP
  have hx := Bd.exec
  have hby := Bd.bytes
  have hml : c.maxLocals = 2 := hml0
  have hown : s.vm.findClass "java/lang/StringUTF16" = some m.cls := findClass_of_methodNamed Bd.named
  have hnm := (name_of_methodNamed Bd.named Bd.method).1
  have X0 : Stand p l e ({ frames := 0, cells := 0, slots := 0, locals := 0 } : Room) s m #[(.ref a1), (.int (11 : Int32))] below meth c s₁ [] 0 0 := Stand.of_body Bd
  have e0 : s₁.heap = h0 := by rw [← hh, Bd.state]; rfl
  have N0 := Fr.nil n0
  refine of_go (ef_rmCfl11 m a1) ?_
  refine Go.step (T' := s₁) (f' := (mkF m 1 #[.val (.ref a1), .val (.int (11 : Int32))] [(.int (11 : Int32))])) (fun _ k => XS.iloadN X0.here hx rfl (hb hby d6_0) rfl k) ?_
  refine Go.step (T' := s₁) (f' := (mkF m 2 #[.val (.ref a1), .val (.int (11 : Int32))] [(.ref a1), (.int (11 : Int32))])) (fun _ k => XS.aloadN X0.here hx rfl (hb hby d6_1) rfl rfl k) ?_
  obtain ⟨cl1, Ar1, qc1, Sz1, Nn1, Hs1, Gf1⟩ := id V_a1
  have hlen1 := X0.arraylength hx (by rw [e0]; exact Ar1.1) (State.isArrayOf_alike hZ.alike Ar1.2.1) (g := (mkF m 2 #[.val (.ref a1), .val (.int (11 : Int32))] [(.ref a1), (.int (11 : Int32))])) rfl rfl (hb hby d6_2)
  rw [len_of Sz1 Nn1] at hlen1
  refine Go.step (T' := s₁) (f' := (mkF m 3 #[.val (.ref a1), .val (.int (11 : Int32))] [(.int (11 : Int32)), (.int (11 : Int32))])) (fun _ k => hlen1 _ k) ?_
  refine Go.step (T' := s₁) (f' := (mkF m 4 #[.val (.ref a1), .val (.int (11 : Int32))] [(.int (0 : Int32))])) (fun _ k => XS.isub X0.here hx rfl (hb hby d6_3) rfl k) ?_
  refine Go.step (T' := s₁) (f' := (mkF m 6 #[.val (.ref a1), .val (.int (11 : Int32))] [(.int (31 : Int32)), (.int (0 : Int32))])) (fun _ k => XS.bipush X0.here hx rfl (hb hby d6_4) k) ?_
  refine Go.step (T' := s₁) (f' := (mkF m 7 #[.val (.ref a1), .val (.int (11 : Int32))] [(.int (0 : Int32))])) (fun _ k => XS.iushr X0.here hx rfl (hb hby d6_6) rfl k) ?_
  refine Go.step (T' := s₁) (f' := (mkF m 8 #[.val (.ref a1), .val (.int (11 : Int32))] [(.int (0 : Int32))])) (fun _ k => XS.i2b X0.here hx rfl (hb hby d6_7) rfl k) ?_
  refine goN X0 hx (t := .byte) Bd.returns (by simp) Bd.notSynchronized (hb hby d6_8) ?_ (by decide) (by decide)
  show Q_rmCfl11 Z a1 kb vs h0 n0 _ s₁.heap _
  rw [e0]
  exact ⟨rfl, N0, rfl⟩
theorem ef_rmSi4_11 (m : MethodId) (a1 : Addr) (a2 : Addr) : entryFrame m #[(.ref a1), (.ref a2), (.int (0 : Int32)), (.int (11 : Int32)), .null] 6 = mkF m 0 #[.val (.ref a1), .val (.ref a2), .val (.int (0 : Int32)), .val (.int (11 : Int32)), .val .null, .unset] [] := by first | (simp [entryFrame, mkF, argsToLocals, Value.category]; done) | rfl
def Q_rmSi4_11 (Z : State) (a1 : Addr) (a2 : Addr) (cs : Int32) (kc : ClassId) (c0 : Int32) (c1 : Int32) (c2 : Int32) (c3 : Int32) (c4 : Int32) (c5 : Int32) (c6 : Int32) (c7 : Int32) (c8 : Int32) (c9 : Int32) (c10 : Int32) (h0 : Heap) (n0 : Nat) (rv : Option Value) (hq : Heap) (Lq : List Loc) : Prop := ∃ b : Addr, ∃ kb : ClassId, rv = none ∧ Fr n0 Lq ∧ Keep h0 hq [a1] ∧ h0.size ≤ b ∧ Fld Z hq a1 "java/lang/String" "value" "[B" (.ref b) ∧ Fld Z hq a1 "java/lang/String" "coder" "B" (.int (0 : Int32)) ∧ Arv Z hq b kb .byte (11 : Int32) [(.int (c0.toInt8.toInt32)), (.int (c1.toInt8.toInt32)), (.int (c2.toInt8.toInt32)), (.int (c3.toInt8.toInt32)), (.int (c4.toInt8.toInt32)), (.int (c5.toInt8.toInt32)), (.int (c6.toInt8.toInt32)), (.int (c7.toInt8.toInt32)), (.int (c8.toInt8.toInt32)), (.int (c9.toInt8.toInt32)), (.int (c10.toInt8.toInt32))] (.int (0 : Int32))
set_option maxRecDepth 65536 in
set_option maxHeartbeats 40000000 in
theorem rmSi4_11 (l : Launch) (Z : State) (a0 : Array Value) (hw : ∀ d ∈ tables_1, d.before a0 Z = true) (ws : List Jvm.Cond) (a1 : Addr) (a2 : Addr) (cs : Int32) (kc : ClassId) (c0 : Int32) (c1 : Int32) (c2 : Int32) (c3 : Int32) (c4 : Int32) (c5 : Int32) (c6 : Int32) (c7 : Int32) (c8 : Int32) (c9 : Int32) (c10 : Int32) (h0 : Heap) (n0 : Nat) (Z0 : n0 ≤ h0.size) (E_a1 : Exa Z h0 a1 "java/lang/String") (F_value_a1 : Fld Z h0 a1 "java/lang/String" "value" "[B" .null) (F_coder_a1 : Fld Z h0 a1 "java/lang/String" "coder" "B" (.int (0 : Int32))) (V_a2 : Arv Z h0 a2 kc .char (11 : Int32) [(.int c0), (.int c1), (.int c2), (.int c3), (.int c4), (.int c5), (.int c6), (.int c7), (.int c8), (.int c9), (.int c10)] (.int (0 : Int32))) (O0 : Old Z n0 h0) (S_COMPACT_STRINGS : Sta Z Z.heap "java/lang/String" "COMPACT_STRINGS" "Z" (.int cs)) (hcs : ¬ cs = (0 : Int32)) (hl0 : ¬ (255 : Int32) < c0) (hl1 : ¬ (255 : Int32) < c1) (hl2 : ¬ (255 : Int32) < c2) (hl3 : ¬ (255 : Int32) < c3) (hl4 : ¬ (255 : Int32) < c4) (hl5 : ¬ (255 : Int32) < c5) (hl6 : ¬ (255 : Int32) < c6) (hl7 : ¬ (255 : Int32) < c7) (hl8 : ¬ (255 : Int32) < c8) (hl9 : ¬ (255 : Int32) < c9) (hl10 : ¬ (255 : Int32) < c10) (g_a1 : n0 ≤ a1) :
    MetFree l (⟨"java/lang/String", "<init>", "([CIILjava/lang/Void;)V"⟩ : MethodName) (head1 (Jvm.Cond.code (⟨"java/lang/String", "<init>", "([CIILjava/lang/Void;)V"⟩ : MethodName) jdk_42_method_149_code 6 none :: ws) ({ frames := 2, cells := 1, slots := 11, locals := 35 } : Room)) (fun a U => a = #[(.ref a1), (.ref a2), (.int (0 : Int32)), (.int (11 : Int32)), .null] ∧ Z.Warmed39 U.vm ∧ U.heap = h0) (fun _ _ _ _ _ => True) (fun _ U o U' => ∃ rv Lq, o = .returned rv ∧ Q_rmSi4_11 Z a1 a2 cs kc c0 c1 c2 c3 c4 c5 c6 c7 c8 c9 c10 h0 n0 rv U'.heap Lq ∧ FrameEnd U o U' Lq ({ frames := 2, cells := 1, slots := 11, locals := 35 } : Room).cells ({ frames := 2, cells := 1, slots := 11, locals := 35 } : Room).slots) := by
  refine MetFree.of_bodySF (plainFor_of_name pn_2) hisR ?_
  intro p e s m args below meth c s₁ Bd hml0 hP hK
  obtain ⟨rfl, hZ, hh⟩ := hP
  have hx := Bd.exec
  have hby := Bd.bytes
  have hml : c.maxLocals = 6 := hml0
  have hown : s.vm.findClass "java/lang/String" = some m.cls := findClass_of_methodNamed Bd.named
  have hnm := (name_of_methodNamed Bd.named Bd.method).1
  have X0 : Stand p l e ({ frames := 2, cells := 1, slots := 11, locals := 35 } : Room) s m #[(.ref a1), (.ref a2), (.int (0 : Int32)), (.int (11 : Int32)), .null] below meth c s₁ [] 0 0 := Stand.of_body Bd
  have e0 : s₁.heap = h0 := by rw [← hh, Bd.state]; rfl
  have N0 := Fr.nil n0
  refine of_go (ef_rmSi4_11 m a1 a2) ?_
  refine Go.step (T' := s₁) (f' := (mkF m 1 #[.val (.ref a1), .val (.ref a2), .val (.int (0 : Int32)), .val (.int (11 : Int32)), .val .null, .unset] [(.ref a1)])) (fun _ k => XS.aloadN X0.here hx rfl (hb hby d2_0) rfl rfl k) ?_
  obtain ⟨T1, X1, e1, st1⟩ := initO X0 hx hZ hown (hw _ (List.mem_of_getElem? (i := 15) rfl)) (hw _ (List.mem_of_getElem? (i := 16) rfl)) (hw _ (List.mem_of_getElem? (i := 17) rfl)) e0 (g := (mkF m 1 #[.val (.ref a1), .val (.ref a2), .val (.int (0 : Int32)), .val (.int (11 : Int32)), .val .null, .unset] [(.ref a1)])) rfl (by rw [hml]; rfl) rfl (hb hby d2_1) (by decide) (W := 0) (by show 2 * 0 + _ ≤ _; exact Nat.le_of_eq rfl) (by decide)
  refine Go.step (T' := T1) (f' := (mkF m 4 #[.val (.ref a1), .val (.ref a2), .val (.int (0 : Int32)), .val (.int (11 : Int32)), .val .null, .unset] [])) st1 ?_
  refine Go.step (T' := T1) (f' := (mkF m 5 #[.val (.ref a1), .val (.ref a2), .val (.int (0 : Int32)), .val (.int (11 : Int32)), .val .null, .unset] [(.int (11 : Int32))])) (fun _ k => XS.iloadN X1.here hx rfl (hb hby d2_4) rfl k) ?_
  refine Go.step (T' := T1) (f' := (mkF m 27 #[.val (.ref a1), .val (.ref a2), .val (.int (0 : Int32)), .val (.int (11 : Int32)), .val .null, .unset] [])) (fun _ k => XS.ifYes X1.here hx rfl (pc0 := 5) (pc' := 27) rfl (hb hby d2_5) rfl ((if0 _ _).trans (feq (by decide : ¬ ((11 : Int32) = (0 : Int32)))).2) (by decide) (by decide) k) ?_
  obtain ⟨T2, X2, e2, st2⟩ := getS2 X1 hx hZ hown (host := "") (Or.inl (hw _ (List.mem_of_getElem? (i := 18) rfl))) Via.refl e1 (S_COMPACT_STRINGS.ext O0.2) (g := (mkF m 27 #[.val (.ref a1), .val (.ref a2), .val (.int (0 : Int32)), .val (.int (11 : Int32)), .val .null, .unset] [])) rfl (hb hby d2_27)
  refine Go.step (T' := T2) (f' := (mkF m 30 #[.val (.ref a1), .val (.ref a2), .val (.int (0 : Int32)), .val (.int (11 : Int32)), .val .null, .unset] [(.int cs)])) st2 ?_
  refine Go.step (T' := T2) (f' := (mkF m 33 #[.val (.ref a1), .val (.ref a2), .val (.int (0 : Int32)), .val (.int (11 : Int32)), .val .null, .unset] [])) (fun _ k => XS.ifNo X2.here hx rfl (hb hby d2_30) rfl ((if0 _ _).trans (feq hcs).1) k) ?_
  refine Go.step (T' := T2) (f' := (mkF m 34 #[.val (.ref a1), .val (.ref a2), .val (.int (0 : Int32)), .val (.int (11 : Int32)), .val .null, .unset] [(.ref a2)])) (fun _ k => XS.aloadN X2.here hx rfl (hb hby d2_33) rfl rfl k) ?_
  refine Go.step (T' := T2) (f' := (mkF m 35 #[.val (.ref a1), .val (.ref a2), .val (.int (0 : Int32)), .val (.int (11 : Int32)), .val .null, .unset] [(.int (0 : Int32)), (.ref a2)])) (fun _ k => XS.iloadN X2.here hx rfl (hb hby d2_34) rfl k) ?_
  refine Go.step (T' := T2) (f' := (mkF m 36 #[.val (.ref a1), .val (.ref a2), .val (.int (0 : Int32)), .val (.int (11 : Int32)), .val .null, .unset] [(.int (11 : Int32)), (.int (0 : Int32)), (.ref a2)])) (fun _ k => XS.iloadN X2.here hx rfl (hb hby d2_35) rfl k) ?_
  obtain ⟨_, _, ⟨T3, L3, kk3, nn3⟩, -, X3, ⟨Lc3, hQ3, lq3, yq3, zq3⟩, st3⟩ := Jvm.LawKit.callS X2 hx (y := (⟨"java/lang/StringUTF16", "compress", "([CII)[B"⟩ : MethodName)) hown (mvT hZ (hw _ (List.mem_of_getElem? (i := 19) rfl))) (mvT hZ (hw _ (List.mem_of_getElem? (i := 20) rfl))) (mvT hZ (hw _ (List.mem_of_getElem? (i := 21) rfl))) (mvT hZ (hw _ (List.mem_of_getElem? (i := 22) rfl))) (by decide) (backOf (W := 0) (rmCpB11 l Z a0 hw [] a2 kc c0 c1 c2 c3 c4 c5 c6 c7 c8 c9 c10 h0 n0 Z0 V_a2 hl0 hl1 hl2 hl3 hl4 hl5 hl6 hl7 hl8 hl9 hl10) hZ (hw _ (List.mem_of_getElem? (i := 22) rfl)) (hw _ (List.mem_of_getElem? (i := 21) rfl)) (by decide) (by decide)) (g := (mkF m 36 #[.val (.ref a1), .val (.ref a2), .val (.int (0 : Int32)), .val (.int (11 : Int32)), .val .null, .unset] [(.int (11 : Int32)), (.int (0 : Int32)), (.ref a2)])) rfl (by rw [hml]; rfl) (argsL := [(.ref a2), (.int (0 : Int32)), (.int (11 : Int32))]) (rest := []) (lenOf pd_1 rfl) rfl (by show 2 * 0 + _ ≤ _; exact Nat.le_of_eq rfl) (hb hby d2_36) (fun _ _ => ⟨rfl, e2, (by decide : 0 + 1 ≤ _), (by decide : 0 + 11 ≤ _)⟩)
  dsimp only [Pt.U, Pt.locs, Pt.cells, Pt.slots] at X3 lq3 yq3 zq3 st3 hQ3
  subst yq3 zq3
  obtain ⟨b_3, kb_3, rfl, Nq3, Kq3, r3_0, r3_1⟩ := hQ3
  have N3 : Fr n0 L3 := by rw [lq3]; exact Fr.app N0 Nq3
  have g_b_3 : n0 ≤ b_3 := Nat.le_trans Z0 r3_0
  have sz_b_3 : h0.size ≤ b_3 := Nat.le_trans (Keep.refl h0 [a1]).1 r3_0
  have Z4 : n0 ≤ T3.heap.size := Nat.le_trans Z0 Kq3.1
  have O4 : Old Z n0 T3.heap := O0.keep Kq3 all0
  have K4 : Keep h0 T3.heap [a1] := (Keep.refl h0 [a1]).trans Kq3 all0
  refine Go.step (T' := T3) (f' := (mkF m 39 #[.val (.ref a1), .val (.ref a2), .val (.int (0 : Int32)), .val (.int (11 : Int32)), .val .null, .unset] [(.ref b_3)])) st3 ?_
  refine Go.step (T' := T3) (f' := (mkF m 41 #[.val (.ref a1), .val (.ref a2), .val (.int (0 : Int32)), .val (.int (11 : Int32)), .val .null, .val (.ref b_3)] [])) (fun _ k => XS.astore X3.here hx rfl (hb hby d2_39) rfl rfl (l' := #[.val (.ref a1), .val (.ref a2), .val (.int (0 : Int32)), .val (.int (11 : Int32)), .val .null, .val (.ref b_3)]) rfl k) ?_
  refine Go.step (T' := T3) (f' := (mkF m 42 #[.val (.ref a1), .val (.ref a2), .val (.int (0 : Int32)), .val (.int (11 : Int32)), .val .null, .val (.ref b_3)] [(.ref a1)])) (fun _ k => XS.aloadN X3.here hx rfl (hb hby d2_41) rfl rfl k) ?_
  refine Go.step (T' := T3) (f' := (mkF m 44 #[.val (.ref a1), .val (.ref a2), .val (.int (0 : Int32)), .val (.int (11 : Int32)), .val .null, .val (.ref b_3)] [(.ref b_3), (.ref a1)])) (fun _ k => XS.aload X3.here hx rfl (hb hby d2_42) rfl rfl k) ?_
  refine Go.step (T' := T3) (f' := (mkF m 45 #[.val (.ref a1), .val (.ref a2), .val (.int (0 : Int32)), .val (.int (11 : Int32)), .val .null, .val (.ref b_3)] [(.int (11 : Int32)), (.ref b_3), (.ref a1)])) (fun _ k => XS.iloadN X3.here hx rfl (hb hby d2_44) rfl k) ?_
  obtain ⟨_, _, ⟨T5, L5, kk5, nn5⟩, -, X5, ⟨Lc5, hQ5, lq5, yq5, zq5⟩, st5⟩ := Jvm.LawKit.callS X3 hx (y := (⟨"java/lang/StringUTF16", "coderFromArrayLen", "([BI)B"⟩ : MethodName)) hown (mvT hZ (hw _ (List.mem_of_getElem? (i := 27) rfl))) (mvT hZ (hw _ (List.mem_of_getElem? (i := 28) rfl))) (mvT hZ (hw _ (List.mem_of_getElem? (i := 21) rfl))) (mvT hZ (hw _ (List.mem_of_getElem? (i := 29) rfl))) (by decide) (backOf (W := 1) (rmCfl11 l Z a0 hw [] b_3 kb_3 [(.int (c0.toInt8.toInt32)), (.int (c1.toInt8.toInt32)), (.int (c2.toInt8.toInt32)), (.int (c3.toInt8.toInt32)), (.int (c4.toInt8.toInt32)), (.int (c5.toInt8.toInt32)), (.int (c6.toInt8.toInt32)), (.int (c7.toInt8.toInt32)), (.int (c8.toInt8.toInt32)), (.int (c9.toInt8.toInt32)), (.int (c10.toInt8.toInt32))] T3.heap n0 Z4 r3_1) hZ (hw _ (List.mem_of_getElem? (i := 29) rfl)) (hw _ (List.mem_of_getElem? (i := 21) rfl)) (by decide) (by decide)) (g := (mkF m 45 #[.val (.ref a1), .val (.ref a2), .val (.int (0 : Int32)), .val (.int (11 : Int32)), .val .null, .val (.ref b_3)] [(.int (11 : Int32)), (.ref b_3), (.ref a1)])) rfl (by rw [hml]; rfl) (argsL := [(.ref b_3), (.int (11 : Int32))]) (rest := [(.ref a1)]) (lenOf pd_2 rfl) rfl (by show 2 * 0 + _ ≤ _; exact Nat.le_of_eq rfl) (hb hby d2_45) (fun _ _ => ⟨rfl, rfl, (by decide : 1 + 0 ≤ _), (by decide : 11 + 0 ≤ _)⟩)
  dsimp only [Pt.U, Pt.locs, Pt.cells, Pt.slots] at X5 lq5 yq5 zq5 st5 hQ5
  subst yq5 zq5
  obtain ⟨rfl, Nq5, eh5⟩ := hQ5
  have N5 : Fr n0 L5 := by rw [lq5]; exact Fr.app N3 Nq5
  refine Go.step (T' := T5) (f' := (mkF m 48 #[.val (.ref a1), .val (.ref a2), .val (.int (0 : Int32)), .val (.int (11 : Int32)), .val .null, .val (.ref b_3)] [(.int (0 : Int32)), (.ref a1)])) st5 ?_
  have q6 : Fld Z T3.heap a1 "java/lang/String" "coder" "B" (.int (0 : Int32)) := (F_coder_a1.keep Kq3 nin0)
  have q7 : Exa Z T3.heap a1 "java/lang/String" := (E_a1.keep Kq3)
  obtain ⟨T8, h8, X8, e8, W8, st8⟩ := putFN X5 hx hZ hown (hw _ (List.mem_of_getElem? (i := 30) rfl)) Via.refl eh5 q6 q7 (Or.inr ⟨(hw _ (List.mem_of_getElem? (i := 31) rfl)), rfl, hnm⟩) (hw _ (List.mem_of_getElem? (i := 6) rfl)) (ty := .byte) (v := .int (0 : Int32)) (v' := .int (0 : Int32)) (by decide) rfl (by decide) (g := (mkF m 48 #[.val (.ref a1), .val (.ref a2), .val (.int (0 : Int32)), .val (.int (11 : Int32)), .val .null, .val (.ref b_3)] [(.int (0 : Int32)), (.ref a1)])) rfl rfl (hb hby d2_48)
  have N8 := Fr.snoc X8 N5 g_a1
  have Z9 : n0 ≤ h8.size := Nat.le_trans Z4 (Keep.of_wr W8).1
  have O9 : Old Z n0 h8 := O4.wr W8 g_a1
  have K9 : Keep h0 h8 [a1] := K4.wr W8 (Or.inl (List.mem_of_getElem? (i := 0) rfl))
  have Fw8 := q6.same W8
  refine Go.step (T' := T8) (f' := (mkF m 51 #[.val (.ref a1), .val (.ref a2), .val (.int (0 : Int32)), .val (.int (11 : Int32)), .val .null, .val (.ref b_3)] [])) st8 ?_
  refine Go.step (T' := T8) (f' := (mkF m 52 #[.val (.ref a1), .val (.ref a2), .val (.int (0 : Int32)), .val (.int (11 : Int32)), .val .null, .val (.ref b_3)] [(.ref a1)])) (fun _ k => XS.aloadN X8.here hx rfl (hb hby d2_51) rfl rfl k) ?_
  refine Go.step (T' := T8) (f' := (mkF m 54 #[.val (.ref a1), .val (.ref a2), .val (.int (0 : Int32)), .val (.int (11 : Int32)), .val .null, .val (.ref b_3)] [(.ref b_3), (.ref a1)])) (fun _ k => XS.aload X8.here hx rfl (hb hby d2_52) rfl rfl k) ?_
  have q10 : Fld Z h8 a1 "java/lang/String" "value" "[B" .null := ((F_value_a1.keep Kq3 nin0).other W8 (Or.inr (slot_ne (Or.inr (hw _ (List.mem_of_getElem? (i := 33) rfl))) (Or.inr (hw _ (List.mem_of_getElem? (i := 31) rfl))) (by decide) (t := (.array .byte)) (t' := .byte) (by decide) (by decide))))
  have q11 : Exa Z h8 a1 "java/lang/String" := (q7.wr W8)
  obtain ⟨T12, h12, X12, e12, W12, st12⟩ := putF X8 hx hZ hown (host := "") (Or.inl (hw _ (List.mem_of_getElem? (i := 32) rfl))) Via.refl e8 q10 q11 (Or.inr ⟨(hw _ (List.mem_of_getElem? (i := 33) rfl)), rfl, hnm⟩) (hw _ (List.mem_of_getElem? (i := 6) rfl)) (ty := (.array .byte)) (by decide) rfl rfl (g := (mkF m 54 #[.val (.ref a1), .val (.ref a2), .val (.int (0 : Int32)), .val (.int (11 : Int32)), .val .null, .val (.ref b_3)] [(.ref b_3), (.ref a1)])) rfl rfl (hb hby d2_54)
  have N12 := Fr.snoc X12 N8 g_a1
  have Z13 : n0 ≤ h12.size := Nat.le_trans Z9 (Keep.of_wr W12).1
  have O13 : Old Z n0 h12 := O9.wr W12 g_a1
  have K13 : Keep h0 h12 [a1] := K9.wr W12 (Or.inl (List.mem_of_getElem? (i := 0) rfl))
  have Fw12 := q10.same W12
  refine Go.step (T' := T12) (f' := (mkF m 57 #[.val (.ref a1), .val (.ref a2), .val (.int (0 : Int32)), .val (.int (11 : Int32)), .val .null, .val (.ref b_3)] [])) st12 ?_
  refine goV X12 hx Bd.returns Bd.notSynchronized (hb hby d2_57) ?_ (by decide) (by decide)
  show Q_rmSi4_11 Z a1 a2 cs kc c0 c1 c2 c3 c4 c5 c6 c7 c8 c9 c10 h0 n0 _ T12.heap _
  rw [e12]
  have q14 : Fld Z h12 a1 "java/lang/String" "coder" "B" (.int (0 : Int32)) := (Fw8.other W12 (Or.inr (slot_ne (Or.inr (hw _ (List.mem_of_getElem? (i := 31) rfl))) (Or.inr (hw _ (List.mem_of_getElem? (i := 33) rfl))) (by decide) (t := .byte) (t' := (.array .byte)) (by decide) (by decide))))
  have q15 : Arv Z h12 b_3 kb_3 .byte (11 : Int32) [(.int (c0.toInt8.toInt32)), (.int (c1.toInt8.toInt32)), (.int (c2.toInt8.toInt32)), (.int (c3.toInt8.toInt32)), (.int (c4.toInt8.toInt32)), (.int (c5.toInt8.toInt32)), (.int (c6.toInt8.toInt32)), (.int (c7.toInt8.toInt32)), (.int (c8.toInt8.toInt32)), (.int (c9.toInt8.toInt32)), (.int (c10.toInt8.toInt32))] (.int (0 : Int32)) := ((r3_1.other W8 (Ne.symm (Nat.ne_of_lt (Nat.lt_of_lt_of_le E_a1.lt r3_0)))).other W12 (Ne.symm (Nat.ne_of_lt (Nat.lt_of_lt_of_le E_a1.lt r3_0))))
  exact ⟨b_3, kb_3, rfl, N12, K13, sz_b_3, Fw12, q14, q15⟩
theorem ef_rmSi_11 (m : MethodId) (a1 : Addr) (a2 : Addr) : entryFrame m #[(.ref a1), (.ref a2)] 2 = mkF m 0 #[.val (.ref a1), .val (.ref a2)] [] := by first | (simp [entryFrame, mkF, argsToLocals, Value.category]; done) | rfl
def Q_rmSi_11 (Z : State) (a1 : Addr) (a2 : Addr) (cs : Int32) (kc : ClassId) (c0 : Int32) (c1 : Int32) (c2 : Int32) (c3 : Int32) (c4 : Int32) (c5 : Int32) (c6 : Int32) (c7 : Int32) (c8 : Int32) (c9 : Int32) (c10 : Int32) (h0 : Heap) (n0 : Nat) (rv : Option Value) (hq : Heap) (Lq : List Loc) : Prop := ∃ b : Addr, ∃ kb : ClassId, rv = none ∧ Fr n0 Lq ∧ Keep h0 hq [a1] ∧ h0.size ≤ b ∧ Fld Z hq a1 "java/lang/String" "value" "[B" (.ref b) ∧ Fld Z hq a1 "java/lang/String" "coder" "B" (.int (0 : Int32)) ∧ Arv Z hq b kb .byte (11 : Int32) [(.int (c0.toInt8.toInt32)), (.int (c1.toInt8.toInt32)), (.int (c2.toInt8.toInt32)), (.int (c3.toInt8.toInt32)), (.int (c4.toInt8.toInt32)), (.int (c5.toInt8.toInt32)), (.int (c6.toInt8.toInt32)), (.int (c7.toInt8.toInt32)), (.int (c8.toInt8.toInt32)), (.int (c9.toInt8.toInt32)), (.int (c10.toInt8.toInt32))] (.int (0 : Int32))
set_option maxRecDepth 65536 in
set_option maxHeartbeats 40000000 in
theorem rmSi_11 (l : Launch) (Z : State) (a0 : Array Value) (hw : ∀ d ∈ tables_1, d.before a0 Z = true) (ws : List Jvm.Cond) (a1 : Addr) (a2 : Addr) (cs : Int32) (kc : ClassId) (c0 : Int32) (c1 : Int32) (c2 : Int32) (c3 : Int32) (c4 : Int32) (c5 : Int32) (c6 : Int32) (c7 : Int32) (c8 : Int32) (c9 : Int32) (c10 : Int32) (h0 : Heap) (n0 : Nat) (Z0 : n0 ≤ h0.size) (E_a1 : Exa Z h0 a1 "java/lang/String") (F_value_a1 : Fld Z h0 a1 "java/lang/String" "value" "[B" .null) (F_coder_a1 : Fld Z h0 a1 "java/lang/String" "coder" "B" (.int (0 : Int32))) (V_a2 : Arv Z h0 a2 kc .char (11 : Int32) [(.int c0), (.int c1), (.int c2), (.int c3), (.int c4), (.int c5), (.int c6), (.int c7), (.int c8), (.int c9), (.int c10)] (.int (0 : Int32))) (O0 : Old Z n0 h0) (S_COMPACT_STRINGS : Sta Z Z.heap "java/lang/String" "COMPACT_STRINGS" "Z" (.int cs)) (hcs : ¬ cs = (0 : Int32)) (hl0 : ¬ (255 : Int32) < c0) (hl1 : ¬ (255 : Int32) < c1) (hl2 : ¬ (255 : Int32) < c2) (hl3 : ¬ (255 : Int32) < c3) (hl4 : ¬ (255 : Int32) < c4) (hl5 : ¬ (255 : Int32) < c5) (hl6 : ¬ (255 : Int32) < c6) (hl7 : ¬ (255 : Int32) < c7) (hl8 : ¬ (255 : Int32) < c8) (hl9 : ¬ (255 : Int32) < c9) (hl10 : ¬ (255 : Int32) < c10) (g_a1 : n0 ≤ a1) :
    MetFree l (⟨"java/lang/String", "<init>", "([C)V"⟩ : MethodName) (head1 (Jvm.Cond.code (⟨"java/lang/String", "<init>", "([C)V"⟩ : MethodName) jdk_42_method_3_code 2 none :: ws) ({ frames := 3, cells := 1, slots := 11, locals := 52 } : Room)) (fun a U => a = #[(.ref a1), (.ref a2)] ∧ Z.Warmed39 U.vm ∧ U.heap = h0) (fun _ _ _ _ _ => True) (fun _ U o U' => ∃ rv Lq, o = .returned rv ∧ Q_rmSi_11 Z a1 a2 cs kc c0 c1 c2 c3 c4 c5 c6 c7 c8 c9 c10 h0 n0 rv U'.heap Lq ∧ FrameEnd U o U' Lq ({ frames := 3, cells := 1, slots := 11, locals := 52 } : Room).cells ({ frames := 3, cells := 1, slots := 11, locals := 52 } : Room).slots) := by
  refine MetFree.of_bodySF (plainFor_of_name pn_2) hisR ?_
  intro p e s m args below meth c s₁ Bd hml0 hP hK
  obtain ⟨rfl, hZ, hh⟩ := hP
  have hx := Bd.exec
  have hby := Bd.bytes
  have hml : c.maxLocals = 2 := hml0
  have hown : s.vm.findClass "java/lang/String" = some m.cls := findClass_of_methodNamed Bd.named
  have hnm := (name_of_methodNamed Bd.named Bd.method).1
  have X0 : Stand p l e ({ frames := 3, cells := 1, slots := 11, locals := 52 } : Room) s m #[(.ref a1), (.ref a2)] below meth c s₁ [] 0 0 := Stand.of_body Bd
  have e0 : s₁.heap = h0 := by rw [← hh, Bd.state]; rfl
  have N0 := Fr.nil n0
  refine of_go (ef_rmSi_11 m a1 a2) ?_
  refine Go.step (T' := s₁) (f' := (mkF m 1 #[.val (.ref a1), .val (.ref a2)] [(.ref a1)])) (fun _ k => XS.aloadN X0.here hx rfl (hb hby d1_0) rfl rfl k) ?_
  refine Go.step (T' := s₁) (f' := (mkF m 2 #[.val (.ref a1), .val (.ref a2)] [(.ref a2), (.ref a1)])) (fun _ k => XS.aloadN X0.here hx rfl (hb hby d1_1) rfl rfl k) ?_
  refine Go.step (T' := s₁) (f' := (mkF m 3 #[.val (.ref a1), .val (.ref a2)] [(.int (0 : Int32)), (.ref a2), (.ref a1)])) (fun _ k => XS.iconst X0.here hx rfl (hb hby d1_2) k) ?_
  refine Go.step (T' := s₁) (f' := (mkF m 4 #[.val (.ref a1), .val (.ref a2)] [(.ref a2), (.int (0 : Int32)), (.ref a2), (.ref a1)])) (fun _ k => XS.aloadN X0.here hx rfl (hb hby d1_3) rfl rfl k) ?_
  obtain ⟨cl1, Ar1, qc1, Sz1, Nn1, Hs1, Gf1⟩ := id V_a2
  have hlen1 := X0.arraylength hx (by rw [e0]; exact Ar1.1) (State.isArrayOf_alike hZ.alike Ar1.2.1) (g := (mkF m 4 #[.val (.ref a1), .val (.ref a2)] [(.ref a2), (.int (0 : Int32)), (.ref a2), (.ref a1)])) rfl rfl (hb hby d1_4)
  rw [len_of Sz1 Nn1] at hlen1
  refine Go.step (T' := s₁) (f' := (mkF m 5 #[.val (.ref a1), .val (.ref a2)] [(.int (11 : Int32)), (.int (0 : Int32)), (.ref a2), (.ref a1)])) (fun _ k => hlen1 _ k) ?_
  refine Go.step (T' := s₁) (f' := (mkF m 6 #[.val (.ref a1), .val (.ref a2)] [.null, (.int (11 : Int32)), (.int (0 : Int32)), (.ref a2), (.ref a1)])) (fun _ k => XS.aconstNull X0.here hx rfl (hb hby d1_5) k) ?_
  obtain ⟨_, _, ⟨T2, L2, kk2, nn2⟩, -, X2, ⟨Lc2, hQ2, lq2, yq2, zq2⟩, st2⟩ := X0.specialBack hx (y := (⟨"java/lang/String", "<init>", "([CIILjava/lang/Void;)V"⟩ : MethodName)) rfl hown (mvT hZ (hw _ (List.mem_of_getElem? (i := 11) rfl))) (mvT hZ (hw _ (List.mem_of_getElem? (i := 12) rfl))) (mvT hZ (hw _ (List.mem_of_getElem? (i := 14) rfl))) (by decide) (backOf (W := 0) (rmSi4_11 l Z a0 hw [] a1 a2 cs kc c0 c1 c2 c3 c4 c5 c6 c7 c8 c9 c10 h0 n0 Z0 E_a1 F_value_a1 F_coder_a1 V_a2 O0 S_COMPACT_STRINGS hcs hl0 hl1 hl2 hl3 hl4 hl5 hl6 hl7 hl8 hl9 hl10 g_a1) hZ (hw _ (List.mem_of_getElem? (i := 14) rfl)) (hw _ (List.mem_of_getElem? (i := 7) rfl)) (by decide) (by decide)) (g := (mkF m 6 #[.val (.ref a1), .val (.ref a2)] [.null, (.int (11 : Int32)), (.int (0 : Int32)), (.ref a2), (.ref a1)])) rfl (by rw [hml]; rfl) (Steps.refl _) (a := a1) (argsL := [(.ref a2), (.int (0 : Int32)), (.int (11 : Int32)), .null]) (rest := []) (lenOf pd_3 rfl) rfl (by show 2 * 0 + _ ≤ _; exact Nat.le_of_eq rfl) (hb hby d1_6) (fun _ _ => ⟨rfl, e0, (by decide : 0 + 1 ≤ _), (by decide : 0 + 11 ≤ _)⟩)
  dsimp only [Pt.U, Pt.locs, Pt.cells, Pt.slots] at X2 lq2 yq2 zq2 st2 hQ2
  subst yq2 zq2
  obtain ⟨b_2, kb_2, rfl, Nq2, Kq2, r2_0, r2_1, r2_2, r2_3⟩ := hQ2
  have N2 : Fr n0 L2 := by rw [lq2]; exact Fr.app N0 Nq2
  have g_b_2 : n0 ≤ b_2 := Nat.le_trans Z0 r2_0
  have sz_b_2 : h0.size ≤ b_2 := Nat.le_trans (Keep.refl h0 [a1]).1 r2_0
  have Z3 : n0 ≤ T2.heap.size := Nat.le_trans Z0 Kq2.1
  have O3 : Old Z n0 T2.heap := O0.keep Kq2 (allS g_a1 all0)
  have K3 : Keep h0 T2.heap [a1] := (Keep.refl h0 [a1]).trans Kq2 (allS (Or.inl (List.mem_of_getElem? (i := 0) rfl)) all0)
  refine Go.step (T' := T2) (f' := (mkF m 9 #[.val (.ref a1), .val (.ref a2)] [])) (fun _ k => st2.trans k) ?_
  refine goV X2 hx Bd.returns Bd.notSynchronized (hb hby d1_9) ?_ (by decide) (by decide)
  show Q_rmSi_11 Z a1 a2 cs kc c0 c1 c2 c3 c4 c5 c6 c7 c8 c9 c10 h0 n0 _ T2.heap _
  exact ⟨b_2, kb_2, rfl, N2, K3, sz_b_2, r2_1, r2_2, r2_3⟩
theorem d12_0 : decode jdk_43_method_13_code 0 = .ok (.aload_n 0, 1) := by decide +kernel
theorem d12_1 : decode jdk_43_method_13_code 1 = .ok (.arraylength, 1) := by decide +kernel
theorem d12_2 : decode jdk_43_method_13_code 2 = .ok (.aload_n 1, 1) := by decide +kernel
theorem d12_3 : decode jdk_43_method_13_code 3 = .ok (.arraylength, 1) := by decide +kernel
theorem d12_4 : decode jdk_43_method_13_code 4 = .ok (.if_icmp .ne 30, 3) := by decide +kernel
theorem d12_7 : decode jdk_43_method_13_code 7 = .ok (.iconst 0, 1) := by decide +kernel
theorem d12_8 : decode jdk_43_method_13_code 8 = .ok (.istore_n 2, 1) := by decide +kernel
theorem d12_9 : decode jdk_43_method_13_code 9 = .ok (.iload_n 2, 1) := by decide +kernel
theorem d12_10 : decode jdk_43_method_13_code 10 = .ok (.aload_n 0, 1) := by decide +kernel
theorem d12_11 : decode jdk_43_method_13_code 11 = .ok (.arraylength, 1) := by decide +kernel
theorem d12_12 : decode jdk_43_method_13_code 12 = .ok (.if_icmp .ge 20, 3) := by decide +kernel
theorem d12_15 : decode jdk_43_method_13_code 15 = .ok (.aload_n 0, 1) := by decide +kernel
theorem d12_16 : decode jdk_43_method_13_code 16 = .ok (.iload_n 2, 1) := by decide +kernel
theorem d12_17 : decode jdk_43_method_13_code 17 = .ok (.baload, 1) := by decide +kernel
theorem d12_18 : decode jdk_43_method_13_code 18 = .ok (.aload_n 1, 1) := by decide +kernel
theorem d12_19 : decode jdk_43_method_13_code 19 = .ok (.iload_n 2, 1) := by decide +kernel
theorem d12_20 : decode jdk_43_method_13_code 20 = .ok (.baload, 1) := by decide +kernel
theorem d12_21 : decode jdk_43_method_13_code 21 = .ok (.if_icmp .eq 5, 3) := by decide +kernel
theorem d12_26 : decode jdk_43_method_13_code 26 = .ok (.iinc 2 1, 3) := by decide +kernel
theorem d12_29 : decode jdk_43_method_13_code 29 = .ok (.goto (-20), 3) := by decide +kernel
theorem d12_32 : decode jdk_43_method_13_code 32 = .ok (.iconst 1, 1) := by decide +kernel
theorem d12_33 : decode jdk_43_method_13_code 33 = .ok (.ireturn, 1) := by decide +kernel
theorem pn_12 : plainName "java/lang/StringLatin1" = true := by first | (simp [plainName, overriddenIn]; done) | decide +kernel
theorem ef_rmLe8_8 (m : MethodId) (a1 : Addr) (a2 : Addr) : entryFrame m #[(.ref a1), (.ref a2)] 3 = mkF m 0 #[.val (.ref a1), .val (.ref a2), .unset] [] := by first | (simp [entryFrame, mkF, argsToLocals, Value.category]; done) | rfl
def Q_rmLe8_8 (Z : State) (a1 : Addr) (a2 : Addr) (k1 : ClassId) (k2 : ClassId) (x0 : Int32) (x1 : Int32) (x2 : Int32) (x3 : Int32) (x4 : Int32) (x5 : Int32) (x6 : Int32) (x7 : Int32) (h0 : Heap) (n0 : Nat) (rv : Option Value) (hq : Heap) (Lq : List Loc) : Prop := rv = some (.int (1 : Int32)) ∧ Fr n0 Lq ∧ hq = h0
set_option maxRecDepth 65536 in
set_option maxHeartbeats 40000000 in
theorem rmLe8_8 (l : Launch) (Z : State) (a0 : Array Value) (hw : ∀ d ∈ tables_1, d.before a0 Z = true) (ws : List Jvm.Cond) (a1 : Addr) (a2 : Addr) (k1 : ClassId) (k2 : ClassId) (x0 : Int32) (x1 : Int32) (x2 : Int32) (x3 : Int32) (x4 : Int32) (x5 : Int32) (x6 : Int32) (x7 : Int32) (h0 : Heap) (n0 : Nat) (Z0 : n0 ≤ h0.size) (V_a1 : Arv Z h0 a1 k1 .byte (8 : Int32) [(.int x0), (.int x1), (.int x2), (.int x3), (.int x4), (.int x5), (.int x6), (.int x7)] (.int (0 : Int32))) (V_a2 : Arv Z h0 a2 k2 .byte (8 : Int32) [(.int x0), (.int x1), (.int x2), (.int x3), (.int x4), (.int x5), (.int x6), (.int x7)] (.int (0 : Int32))) :
    MetFree l (⟨"java/lang/StringLatin1", "equals", "([B[B)Z"⟩ : MethodName) (head1 (Jvm.Cond.code (⟨"java/lang/StringLatin1", "equals", "([B[B)Z"⟩ : MethodName) jdk_43_method_13_code 3 (some .boolean) :: ws) ({ frames := 0, cells := 0, slots := 0, locals := 0 } : Room)) (fun a U => a = #[(.ref a1), (.ref a2)] ∧ Z.Warmed39 U.vm ∧ U.heap = h0) (fun _ _ _ _ _ => True) (fun _ U o U' => ∃ rv Lq, o = .returned rv ∧ Q_rmLe8_8 Z a1 a2 k1 k2 x0 x1 x2 x3 x4 x5 x6 x7 h0 n0 rv U'.heap Lq ∧ FrameEnd U o U' Lq ({ frames := 0, cells := 0, slots := 0, locals := 0 } : Room).cells ({ frames := 0, cells := 0, slots := 0, locals := 0 } : Room).slots) := by
  refine MetFree.of_bodySF (plainFor_of_name pn_12) hisR ?_
  intro p e s m args below meth c s₁ Bd hml0 hP hK
  obtain ⟨rfl, hZ, hh⟩ := hP
  have hx := Bd.exec
  have hby := Bd.bytes
  have hml : c.maxLocals = 3 := hml0
  have hown : s.vm.findClass "java/lang/StringLatin1" = some m.cls := findClass_of_methodNamed Bd.named
  have hnm := (name_of_methodNamed Bd.named Bd.method).1
  have X0 : Stand p l e ({ frames := 0, cells := 0, slots := 0, locals := 0 } : Room) s m #[(.ref a1), (.ref a2)] below meth c s₁ [] 0 0 := Stand.of_body Bd
  have e0 : s₁.heap = h0 := by rw [← hh, Bd.state]; rfl
  have N0 := Fr.nil n0
  refine of_go (ef_rmLe8_8 m a1 a2) ?_
  refine Go.step (T' := s₁) (f' := (mkF m 1 #[.val (.ref a1), .val (.ref a2), .unset] [(.ref a1)])) (fun _ k => XS.aloadN X0.here hx rfl (hb hby d12_0) rfl rfl k) ?_
  obtain ⟨cl1, Ar1, qc1, Sz1, Nn1, Hs1, Gf1⟩ := id V_a1
  have hlen1 := X0.arraylength hx (by rw [e0]; exact Ar1.1) (State.isArrayOf_alike hZ.alike Ar1.2.1) (g := (mkF m 1 #[.val (.ref a1), .val (.ref a2), .unset] [(.ref a1)])) rfl rfl (hb hby d12_1)
  rw [len_of Sz1 Nn1] at hlen1
  refine Go.step (T' := s₁) (f' := (mkF m 2 #[.val (.ref a1), .val (.ref a2), .unset] [(.int (8 : Int32))])) (fun _ k => hlen1 _ k) ?_
  refine Go.step (T' := s₁) (f' := (mkF m 3 #[.val (.ref a1), .val (.ref a2), .unset] [(.ref a2), (.int (8 : Int32))])) (fun _ k => XS.aloadN X0.here hx rfl (hb hby d12_2) rfl rfl k) ?_
  obtain ⟨cl2, Ar2, qc2, Sz2, Nn2, Hs2, Gf2⟩ := id V_a2
  have hlen2 := X0.arraylength hx (by rw [e0]; exact Ar2.1) (State.isArrayOf_alike hZ.alike Ar2.2.1) (g := (mkF m 3 #[.val (.ref a1), .val (.ref a2), .unset] [(.ref a2), (.int (8 : Int32))])) rfl rfl (hb hby d12_3)
  rw [len_of Sz2 Nn2] at hlen2
  refine Go.step (T' := s₁) (f' := (mkF m 4 #[.val (.ref a1), .val (.ref a2), .unset] [(.int (8 : Int32)), (.int (8 : Int32))])) (fun _ k => hlen2 _ k) ?_
  refine Go.step (T' := s₁) (f' := (mkF m 7 #[.val (.ref a1), .val (.ref a2), .unset] [])) (fun _ k => XS.icmpNo X0.here hx rfl (hb hby d12_4) rfl (teq (by decide : (8 : Int32) = (8 : Int32))).2 k) ?_
  refine Go.step (T' := s₁) (f' := (mkF m 8 #[.val (.ref a1), .val (.ref a2), .unset] [(.int (0 : Int32))])) (fun _ k => XS.iconst X0.here hx rfl (hb hby d12_7) k) ?_
  refine Go.step (T' := s₁) (f' := (mkF m 9 #[.val (.ref a1), .val (.ref a2), .val (.int (0 : Int32))] [])) (fun _ k => XS.istoreN X0.here hx rfl (hb hby d12_8) rfl (l' := #[.val (.ref a1), .val (.ref a2), .val (.int (0 : Int32))]) rfl k) ?_
  refine Go.step (T' := s₁) (f' := (mkF m 10 #[.val (.ref a1), .val (.ref a2), .val (.int (0 : Int32))] [(.int (0 : Int32))])) (fun _ k => XS.iloadN X0.here hx rfl (hb hby d12_9) rfl k) ?_
  refine Go.step (T' := s₁) (f' := (mkF m 11 #[.val (.ref a1), .val (.ref a2), .val (.int (0 : Int32))] [(.ref a1), (.int (0 : Int32))])) (fun _ k => XS.aloadN X0.here hx rfl (hb hby d12_10) rfl rfl k) ?_
  obtain ⟨cl3, Ar3, qc3, Sz3, Nn3, Hs3, Gf3⟩ := id V_a1
  have hlen3 := X0.arraylength hx (by rw [e0]; exact Ar3.1) (State.isArrayOf_alike hZ.alike Ar3.2.1) (g := (mkF m 11 #[.val (.ref a1), .val (.ref a2), .val (.int (0 : Int32))] [(.ref a1), (.int (0 : Int32))])) rfl rfl (hb hby d12_11)
  rw [len_of Sz3 Nn3] at hlen3
  refine Go.step (T' := s₁) (f' := (mkF m 12 #[.val (.ref a1), .val (.ref a2), .val (.int (0 : Int32))] [(.int (8 : Int32)), (.int (0 : Int32))])) (fun _ k => hlen3 _ k) ?_
  refine Go.step (T' := s₁) (f' := (mkF m 15 #[.val (.ref a1), .val (.ref a2), .val (.int (0 : Int32))] [])) (fun _ k => XS.icmpNo X0.here hx rfl (hb hby d12_12) rfl (tlt (by decide : (0 : Int32) < (8 : Int32))).2.1 k) ?_
  refine Go.step (T' := s₁) (f' := (mkF m 16 #[.val (.ref a1), .val (.ref a2), .val (.int (0 : Int32))] [(.ref a1)])) (fun _ k => XS.aloadN X0.here hx rfl (hb hby d12_15) rfl rfl k) ?_
  refine Go.step (T' := s₁) (f' := (mkF m 17 #[.val (.ref a1), .val (.ref a2), .val (.int (0 : Int32))] [(.int (0 : Int32)), (.ref a1)])) (fun _ k => XS.iloadN X0.here hx rfl (hb hby d12_16) rfl k) ?_
  obtain ⟨cl4, Ar4, qc4, Sz4, Nn4, Hs4, Gf4⟩ := id V_a1
  have hin5 : ¬ ((0 : Int32) < 0 ∨ cl4.slots.size ≤ ((0 : Int32)).toNatClampNeg) := (inb_of Sz4 ⟨by decide, by decide⟩)
  have hat5 : cl4.slots[((0 : Int32)).toNatClampNeg]? = some (.int x0) := Has.at Hs4 hin5 rfl
  refine Go.step (T' := s₁) (f' := (mkF m 18 #[.val (.ref a1), .val (.ref a2), .val (.int (0 : Int32))] [(.int x0)])) (fun _ k => X0.baloadBytes hx (j := (0 : Int32)) (v := (.int x0)) (by rw [e0]; exact Ar4.1) (State.isArrayOf_alike hZ.alike Ar4.2.1) Ar4.2.2 hin5 hat5 (g := (mkF m 17 #[.val (.ref a1), .val (.ref a2), .val (.int (0 : Int32))] [(.int (0 : Int32)), (.ref a1)])) rfl rfl (hb hby d12_17) _ k) ?_
  refine Go.step (T' := s₁) (f' := (mkF m 19 #[.val (.ref a1), .val (.ref a2), .val (.int (0 : Int32))] [(.ref a2), (.int x0)])) (fun _ k => XS.aloadN X0.here hx rfl (hb hby d12_18) rfl rfl k) ?_
  refine Go.step (T' := s₁) (f' := (mkF m 20 #[.val (.ref a1), .val (.ref a2), .val (.int (0 : Int32))] [(.int (0 : Int32)), (.ref a2), (.int x0)])) (fun _ k => XS.iloadN X0.here hx rfl (hb hby d12_19) rfl k) ?_
  obtain ⟨cl6, Ar6, qc6, Sz6, Nn6, Hs6, Gf6⟩ := id V_a2
  have hin7 : ¬ ((0 : Int32) < 0 ∨ cl6.slots.size ≤ ((0 : Int32)).toNatClampNeg) := (inb_of Sz6 ⟨by decide, by decide⟩)
  have hat7 : cl6.slots[((0 : Int32)).toNatClampNeg]? = some (.int x0) := Has.at Hs6 hin7 rfl
  refine Go.step (T' := s₁) (f' := (mkF m 21 #[.val (.ref a1), .val (.ref a2), .val (.int (0 : Int32))] [(.int x0), (.int x0)])) (fun _ k => X0.baloadBytes hx (j := (0 : Int32)) (v := (.int x0)) (by rw [e0]; exact Ar6.1) (State.isArrayOf_alike hZ.alike Ar6.2.1) Ar6.2.2 hin7 hat7 (g := (mkF m 20 #[.val (.ref a1), .val (.ref a2), .val (.int (0 : Int32))] [(.int (0 : Int32)), (.ref a2), (.int x0)])) rfl rfl (hb hby d12_20) _ k) ?_
  refine Go.step (T' := s₁) (f' := (mkF m 26 #[.val (.ref a1), .val (.ref a2), .val (.int (0 : Int32))] [])) (fun _ k => XS.icmpYes X0.here hx rfl (pc0 := 21) (pc' := 26) rfl (hb hby d12_21) rfl (teq (rfl : x0 = x0)).1 (by decide) (by decide) k) ?_
  refine Go.step (T' := s₁) (f' := (mkF m 29 #[.val (.ref a1), .val (.ref a2), .val (.int (1 : Int32))] [])) (fun _ k => XS.iinc X0.here hx rfl (hb hby d12_26) rfl (l' := #[.val (.ref a1), .val (.ref a2), .val (.int (1 : Int32))]) rfl k) ?_
  refine Go.step (T' := s₁) (f' := (mkF m 9 #[.val (.ref a1), .val (.ref a2), .val (.int (1 : Int32))] [])) (fun _ k => XS.goto X0.here hx rfl (pc0 := 29) (pc' := 9) rfl (hb hby d12_29) (by decide) (by decide) k) ?_
  refine Go.step (T' := s₁) (f' := (mkF m 10 #[.val (.ref a1), .val (.ref a2), .val (.int (1 : Int32))] [(.int (1 : Int32))])) (fun _ k => XS.iloadN X0.here hx rfl (hb hby d12_9) rfl k) ?_
  refine Go.step (T' := s₁) (f' := (mkF m 11 #[.val (.ref a1), .val (.ref a2), .val (.int (1 : Int32))] [(.ref a1), (.int (1 : Int32))])) (fun _ k => XS.aloadN X0.here hx rfl (hb hby d12_10) rfl rfl k) ?_
  obtain ⟨cl8, Ar8, qc8, Sz8, Nn8, Hs8, Gf8⟩ := id V_a1
  have hlen8 := X0.arraylength hx (by rw [e0]; exact Ar8.1) (State.isArrayOf_alike hZ.alike Ar8.2.1) (g := (mkF m 11 #[.val (.ref a1), .val (.ref a2), .val (.int (1 : Int32))] [(.ref a1), (.int (1 : Int32))])) rfl rfl (hb hby d12_11)
  rw [len_of Sz8 Nn8] at hlen8
  refine Go.step (T' := s₁) (f' := (mkF m 12 #[.val (.ref a1), .val (.ref a2), .val (.int (1 : Int32))] [(.int (8 : Int32)), (.int (1 : Int32))])) (fun _ k => hlen8 _ k) ?_
  refine Go.step (T' := s₁) (f' := (mkF m 15 #[.val (.ref a1), .val (.ref a2), .val (.int (1 : Int32))] [])) (fun _ k => XS.icmpNo X0.here hx rfl (hb hby d12_12) rfl (tlt (by decide : (1 : Int32) < (8 : Int32))).2.1 k) ?_
  refine Go.step (T' := s₁) (f' := (mkF m 16 #[.val (.ref a1), .val (.ref a2), .val (.int (1 : Int32))] [(.ref a1)])) (fun _ k => XS.aloadN X0.here hx rfl (hb hby d12_15) rfl rfl k) ?_
  refine Go.step (T' := s₁) (f' := (mkF m 17 #[.val (.ref a1), .val (.ref a2), .val (.int (1 : Int32))] [(.int (1 : Int32)), (.ref a1)])) (fun _ k => XS.iloadN X0.here hx rfl (hb hby d12_16) rfl k) ?_
  obtain ⟨cl9, Ar9, qc9, Sz9, Nn9, Hs9, Gf9⟩ := id V_a1
  have hin10 : ¬ ((1 : Int32) < 0 ∨ cl9.slots.size ≤ ((1 : Int32)).toNatClampNeg) := (inb_of Sz9 ⟨by decide, by decide⟩)
  have hat10 : cl9.slots[((1 : Int32)).toNatClampNeg]? = some (.int x1) := Has.at Hs9 hin10 rfl
  refine Go.step (T' := s₁) (f' := (mkF m 18 #[.val (.ref a1), .val (.ref a2), .val (.int (1 : Int32))] [(.int x1)])) (fun _ k => X0.baloadBytes hx (j := (1 : Int32)) (v := (.int x1)) (by rw [e0]; exact Ar9.1) (State.isArrayOf_alike hZ.alike Ar9.2.1) Ar9.2.2 hin10 hat10 (g := (mkF m 17 #[.val (.ref a1), .val (.ref a2), .val (.int (1 : Int32))] [(.int (1 : Int32)), (.ref a1)])) rfl rfl (hb hby d12_17) _ k) ?_
  refine Go.step (T' := s₁) (f' := (mkF m 19 #[.val (.ref a1), .val (.ref a2), .val (.int (1 : Int32))] [(.ref a2), (.int x1)])) (fun _ k => XS.aloadN X0.here hx rfl (hb hby d12_18) rfl rfl k) ?_
  refine Go.step (T' := s₁) (f' := (mkF m 20 #[.val (.ref a1), .val (.ref a2), .val (.int (1 : Int32))] [(.int (1 : Int32)), (.ref a2), (.int x1)])) (fun _ k => XS.iloadN X0.here hx rfl (hb hby d12_19) rfl k) ?_
  obtain ⟨cl11, Ar11, qc11, Sz11, Nn11, Hs11, Gf11⟩ := id V_a2
  have hin12 : ¬ ((1 : Int32) < 0 ∨ cl11.slots.size ≤ ((1 : Int32)).toNatClampNeg) := (inb_of Sz11 ⟨by decide, by decide⟩)
  have hat12 : cl11.slots[((1 : Int32)).toNatClampNeg]? = some (.int x1) := Has.at Hs11 hin12 rfl
  refine Go.step (T' := s₁) (f' := (mkF m 21 #[.val (.ref a1), .val (.ref a2), .val (.int (1 : Int32))] [(.int x1), (.int x1)])) (fun _ k => X0.baloadBytes hx (j := (1 : Int32)) (v := (.int x1)) (by rw [e0]; exact Ar11.1) (State.isArrayOf_alike hZ.alike Ar11.2.1) Ar11.2.2 hin12 hat12 (g := (mkF m 20 #[.val (.ref a1), .val (.ref a2), .val (.int (1 : Int32))] [(.int (1 : Int32)), (.ref a2), (.int x1)])) rfl rfl (hb hby d12_20) _ k) ?_
  refine Go.step (T' := s₁) (f' := (mkF m 26 #[.val (.ref a1), .val (.ref a2), .val (.int (1 : Int32))] [])) (fun _ k => XS.icmpYes X0.here hx rfl (pc0 := 21) (pc' := 26) rfl (hb hby d12_21) rfl (teq (rfl : x1 = x1)).1 (by decide) (by decide) k) ?_
  refine Go.step (T' := s₁) (f' := (mkF m 29 #[.val (.ref a1), .val (.ref a2), .val (.int (2 : Int32))] [])) (fun _ k => XS.iinc X0.here hx rfl (hb hby d12_26) rfl (l' := #[.val (.ref a1), .val (.ref a2), .val (.int (2 : Int32))]) rfl k) ?_
  refine Go.step (T' := s₁) (f' := (mkF m 9 #[.val (.ref a1), .val (.ref a2), .val (.int (2 : Int32))] [])) (fun _ k => XS.goto X0.here hx rfl (pc0 := 29) (pc' := 9) rfl (hb hby d12_29) (by decide) (by decide) k) ?_
  refine Go.step (T' := s₁) (f' := (mkF m 10 #[.val (.ref a1), .val (.ref a2), .val (.int (2 : Int32))] [(.int (2 : Int32))])) (fun _ k => XS.iloadN X0.here hx rfl (hb hby d12_9) rfl k) ?_
  refine Go.step (T' := s₁) (f' := (mkF m 11 #[.val (.ref a1), .val (.ref a2), .val (.int (2 : Int32))] [(.ref a1), (.int (2 : Int32))])) (fun _ k => XS.aloadN X0.here hx rfl (hb hby d12_10) rfl rfl k) ?_
  obtain ⟨cl13, Ar13, qc13, Sz13, Nn13, Hs13, Gf13⟩ := id V_a1
  have hlen13 := X0.arraylength hx (by rw [e0]; exact Ar13.1) (State.isArrayOf_alike hZ.alike Ar13.2.1) (g := (mkF m 11 #[.val (.ref a1), .val (.ref a2), .val (.int (2 : Int32))] [(.ref a1), (.int (2 : Int32))])) rfl rfl (hb hby d12_11)
  rw [len_of Sz13 Nn13] at hlen13
  refine Go.step (T' := s₁) (f' := (mkF m 12 #[.val (.ref a1), .val (.ref a2), .val (.int (2 : Int32))] [(.int (8 : Int32)), (.int (2 : Int32))])) (fun _ k => hlen13 _ k) ?_
  refine Go.step (T' := s₁) (f' := (mkF m 15 #[.val (.ref a1), .val (.ref a2), .val (.int (2 : Int32))] [])) (fun _ k => XS.icmpNo X0.here hx rfl (hb hby d12_12) rfl (tlt (by decide : (2 : Int32) < (8 : Int32))).2.1 k) ?_
  refine Go.step (T' := s₁) (f' := (mkF m 16 #[.val (.ref a1), .val (.ref a2), .val (.int (2 : Int32))] [(.ref a1)])) (fun _ k => XS.aloadN X0.here hx rfl (hb hby d12_15) rfl rfl k) ?_
  refine Go.step (T' := s₁) (f' := (mkF m 17 #[.val (.ref a1), .val (.ref a2), .val (.int (2 : Int32))] [(.int (2 : Int32)), (.ref a1)])) (fun _ k => XS.iloadN X0.here hx rfl (hb hby d12_16) rfl k) ?_
  obtain ⟨cl14, Ar14, qc14, Sz14, Nn14, Hs14, Gf14⟩ := id V_a1
  have hin15 : ¬ ((2 : Int32) < 0 ∨ cl14.slots.size ≤ ((2 : Int32)).toNatClampNeg) := (inb_of Sz14 ⟨by decide, by decide⟩)
  have hat15 : cl14.slots[((2 : Int32)).toNatClampNeg]? = some (.int x2) := Has.at Hs14 hin15 rfl
  refine Go.step (T' := s₁) (f' := (mkF m 18 #[.val (.ref a1), .val (.ref a2), .val (.int (2 : Int32))] [(.int x2)])) (fun _ k => X0.baloadBytes hx (j := (2 : Int32)) (v := (.int x2)) (by rw [e0]; exact Ar14.1) (State.isArrayOf_alike hZ.alike Ar14.2.1) Ar14.2.2 hin15 hat15 (g := (mkF m 17 #[.val (.ref a1), .val (.ref a2), .val (.int (2 : Int32))] [(.int (2 : Int32)), (.ref a1)])) rfl rfl (hb hby d12_17) _ k) ?_
  refine Go.step (T' := s₁) (f' := (mkF m 19 #[.val (.ref a1), .val (.ref a2), .val (.int (2 : Int32))] [(.ref a2), (.int x2)])) (fun _ k => XS.aloadN X0.here hx rfl (hb hby d12_18) rfl rfl k) ?_
  refine Go.step (T' := s₁) (f' := (mkF m 20 #[.val (.ref a1), .val (.ref a2), .val (.int (2 : Int32))] [(.int (2 : Int32)), (.ref a2), (.int x2)])) (fun _ k => XS.iloadN X0.here hx rfl (hb hby d12_19) rfl k) ?_
  obtain ⟨cl16, Ar16, qc16, Sz16, Nn16, Hs16, Gf16⟩ := id V_a2
  have hin17 : ¬ ((2 : Int32) < 0 ∨ cl16.slots.size ≤ ((2 : Int32)).toNatClampNeg) := (inb_of Sz16 ⟨by decide, by decide⟩)
  have hat17 : cl16.slots[((2 : Int32)).toNatClampNeg]? = some (.int x2) := Has.at Hs16 hin17 rfl
  refine Go.step (T' := s₁) (f' := (mkF m 21 #[.val (.ref a1), .val (.ref a2), .val (.int (2 : Int32))] [(.int x2), (.int x2)])) (fun _ k => X0.baloadBytes hx (j := (2 : Int32)) (v := (.int x2)) (by rw [e0]; exact Ar16.1) (State.isArrayOf_alike hZ.alike Ar16.2.1) Ar16.2.2 hin17 hat17 (g := (mkF m 20 #[.val (.ref a1), .val (.ref a2), .val (.int (2 : Int32))] [(.int (2 : Int32)), (.ref a2), (.int x2)])) rfl rfl (hb hby d12_20) _ k) ?_
  refine Go.step (T' := s₁) (f' := (mkF m 26 #[.val (.ref a1), .val (.ref a2), .val (.int (2 : Int32))] [])) (fun _ k => XS.icmpYes X0.here hx rfl (pc0 := 21) (pc' := 26) rfl (hb hby d12_21) rfl (teq (rfl : x2 = x2)).1 (by decide) (by decide) k) ?_
  refine Go.step (T' := s₁) (f' := (mkF m 29 #[.val (.ref a1), .val (.ref a2), .val (.int (3 : Int32))] [])) (fun _ k => XS.iinc X0.here hx rfl (hb hby d12_26) rfl (l' := #[.val (.ref a1), .val (.ref a2), .val (.int (3 : Int32))]) rfl k) ?_
  refine Go.step (T' := s₁) (f' := (mkF m 9 #[.val (.ref a1), .val (.ref a2), .val (.int (3 : Int32))] [])) (fun _ k => XS.goto X0.here hx rfl (pc0 := 29) (pc' := 9) rfl (hb hby d12_29) (by decide) (by decide) k) ?_
  refine Go.step (T' := s₁) (f' := (mkF m 10 #[.val (.ref a1), .val (.ref a2), .val (.int (3 : Int32))] [(.int (3 : Int32))])) (fun _ k => XS.iloadN X0.here hx rfl (hb hby d12_9) rfl k) ?_
  refine Go.step (T' := s₁) (f' := (mkF m 11 #[.val (.ref a1), .val (.ref a2), .val (.int (3 : Int32))] [(.ref a1), (.int (3 : Int32))])) (fun _ k => XS.aloadN X0.here hx rfl (hb hby d12_10) rfl rfl k) ?_
  obtain ⟨cl18, Ar18, qc18, Sz18, Nn18, Hs18, Gf18⟩ := id V_a1
  have hlen18 := X0.arraylength hx (by rw [e0]; exact Ar18.1) (State.isArrayOf_alike hZ.alike Ar18.2.1) (g := (mkF m 11 #[.val (.ref a1), .val (.ref a2), .val (.int (3 : Int32))] [(.ref a1), (.int (3 : Int32))])) rfl rfl (hb hby d12_11)
  rw [len_of Sz18 Nn18] at hlen18
  refine Go.step (T' := s₁) (f' := (mkF m 12 #[.val (.ref a1), .val (.ref a2), .val (.int (3 : Int32))] [(.int (8 : Int32)), (.int (3 : Int32))])) (fun _ k => hlen18 _ k) ?_
  refine Go.step (T' := s₁) (f' := (mkF m 15 #[.val (.ref a1), .val (.ref a2), .val (.int (3 : Int32))] [])) (fun _ k => XS.icmpNo X0.here hx rfl (hb hby d12_12) rfl (tlt (by decide : (3 : Int32) < (8 : Int32))).2.1 k) ?_
  refine Go.step (T' := s₁) (f' := (mkF m 16 #[.val (.ref a1), .val (.ref a2), .val (.int (3 : Int32))] [(.ref a1)])) (fun _ k => XS.aloadN X0.here hx rfl (hb hby d12_15) rfl rfl k) ?_
  refine Go.step (T' := s₁) (f' := (mkF m 17 #[.val (.ref a1), .val (.ref a2), .val (.int (3 : Int32))] [(.int (3 : Int32)), (.ref a1)])) (fun _ k => XS.iloadN X0.here hx rfl (hb hby d12_16) rfl k) ?_
  obtain ⟨cl19, Ar19, qc19, Sz19, Nn19, Hs19, Gf19⟩ := id V_a1
  have hin20 : ¬ ((3 : Int32) < 0 ∨ cl19.slots.size ≤ ((3 : Int32)).toNatClampNeg) := (inb_of Sz19 ⟨by decide, by decide⟩)
  have hat20 : cl19.slots[((3 : Int32)).toNatClampNeg]? = some (.int x3) := Has.at Hs19 hin20 rfl
  refine Go.step (T' := s₁) (f' := (mkF m 18 #[.val (.ref a1), .val (.ref a2), .val (.int (3 : Int32))] [(.int x3)])) (fun _ k => X0.baloadBytes hx (j := (3 : Int32)) (v := (.int x3)) (by rw [e0]; exact Ar19.1) (State.isArrayOf_alike hZ.alike Ar19.2.1) Ar19.2.2 hin20 hat20 (g := (mkF m 17 #[.val (.ref a1), .val (.ref a2), .val (.int (3 : Int32))] [(.int (3 : Int32)), (.ref a1)])) rfl rfl (hb hby d12_17) _ k) ?_
  refine Go.step (T' := s₁) (f' := (mkF m 19 #[.val (.ref a1), .val (.ref a2), .val (.int (3 : Int32))] [(.ref a2), (.int x3)])) (fun _ k => XS.aloadN X0.here hx rfl (hb hby d12_18) rfl rfl k) ?_
  refine Go.step (T' := s₁) (f' := (mkF m 20 #[.val (.ref a1), .val (.ref a2), .val (.int (3 : Int32))] [(.int (3 : Int32)), (.ref a2), (.int x3)])) (fun _ k => XS.iloadN X0.here hx rfl (hb hby d12_19) rfl k) ?_
  obtain ⟨cl21, Ar21, qc21, Sz21, Nn21, Hs21, Gf21⟩ := id V_a2
  have hin22 : ¬ ((3 : Int32) < 0 ∨ cl21.slots.size ≤ ((3 : Int32)).toNatClampNeg) := (inb_of Sz21 ⟨by decide, by decide⟩)
  have hat22 : cl21.slots[((3 : Int32)).toNatClampNeg]? = some (.int x3) := Has.at Hs21 hin22 rfl
  refine Go.step (T' := s₁) (f' := (mkF m 21 #[.val (.ref a1), .val (.ref a2), .val (.int (3 : Int32))] [(.int x3), (.int x3)])) (fun _ k => X0.baloadBytes hx (j := (3 : Int32)) (v := (.int x3)) (by rw [e0]; exact Ar21.1) (State.isArrayOf_alike hZ.alike Ar21.2.1) Ar21.2.2 hin22 hat22 (g := (mkF m 20 #[.val (.ref a1), .val (.ref a2), .val (.int (3 : Int32))] [(.int (3 : Int32)), (.ref a2), (.int x3)])) rfl rfl (hb hby d12_20) _ k) ?_
  refine Go.step (T' := s₁) (f' := (mkF m 26 #[.val (.ref a1), .val (.ref a2), .val (.int (3 : Int32))] [])) (fun _ k => XS.icmpYes X0.here hx rfl (pc0 := 21) (pc' := 26) rfl (hb hby d12_21) rfl (teq (rfl : x3 = x3)).1 (by decide) (by decide) k) ?_
  refine Go.step (T' := s₁) (f' := (mkF m 29 #[.val (.ref a1), .val (.ref a2), .val (.int (4 : Int32))] [])) (fun _ k => XS.iinc X0.here hx rfl (hb hby d12_26) rfl (l' := #[.val (.ref a1), .val (.ref a2), .val (.int (4 : Int32))]) rfl k) ?_
  refine Go.step (T' := s₁) (f' := (mkF m 9 #[.val (.ref a1), .val (.ref a2), .val (.int (4 : Int32))] [])) (fun _ k => XS.goto X0.here hx rfl (pc0 := 29) (pc' := 9) rfl (hb hby d12_29) (by decide) (by decide) k) ?_
  refine Go.step (T' := s₁) (f' := (mkF m 10 #[.val (.ref a1), .val (.ref a2), .val (.int (4 : Int32))] [(.int (4 : Int32))])) (fun _ k => XS.iloadN X0.here hx rfl (hb hby d12_9) rfl k) ?_
  refine Go.step (T' := s₁) (f' := (mkF m 11 #[.val (.ref a1), .val (.ref a2), .val (.int (4 : Int32))] [(.ref a1), (.int (4 : Int32))])) (fun _ k => XS.aloadN X0.here hx rfl (hb hby d12_10) rfl rfl k) ?_
  obtain ⟨cl23, Ar23, qc23, Sz23, Nn23, Hs23, Gf23⟩ := id V_a1
  have hlen23 := X0.arraylength hx (by rw [e0]; exact Ar23.1) (State.isArrayOf_alike hZ.alike Ar23.2.1) (g := (mkF m 11 #[.val (.ref a1), .val (.ref a2), .val (.int (4 : Int32))] [(.ref a1), (.int (4 : Int32))])) rfl rfl (hb hby d12_11)
  rw [len_of Sz23 Nn23] at hlen23
  refine Go.step (T' := s₁) (f' := (mkF m 12 #[.val (.ref a1), .val (.ref a2), .val (.int (4 : Int32))] [(.int (8 : Int32)), (.int (4 : Int32))])) (fun _ k => hlen23 _ k) ?_
  refine Go.step (T' := s₁) (f' := (mkF m 15 #[.val (.ref a1), .val (.ref a2), .val (.int (4 : Int32))] [])) (fun _ k => XS.icmpNo X0.here hx rfl (hb hby d12_12) rfl (tlt (by decide : (4 : Int32) < (8 : Int32))).2.1 k) ?_
  refine Go.step (T' := s₁) (f' := (mkF m 16 #[.val (.ref a1), .val (.ref a2), .val (.int (4 : Int32))] [(.ref a1)])) (fun _ k => XS.aloadN X0.here hx rfl (hb hby d12_15) rfl rfl k) ?_
  refine Go.step (T' := s₁) (f' := (mkF m 17 #[.val (.ref a1), .val (.ref a2), .val (.int (4 : Int32))] [(.int (4 : Int32)), (.ref a1)])) (fun _ k => XS.iloadN X0.here hx rfl (hb hby d12_16) rfl k) ?_
  obtain ⟨cl24, Ar24, qc24, Sz24, Nn24, Hs24, Gf24⟩ := id V_a1
  have hin25 : ¬ ((4 : Int32) < 0 ∨ cl24.slots.size ≤ ((4 : Int32)).toNatClampNeg) := (inb_of Sz24 ⟨by decide, by decide⟩)
  have hat25 : cl24.slots[((4 : Int32)).toNatClampNeg]? = some (.int x4) := Has.at Hs24 hin25 rfl
  refine Go.step (T' := s₁) (f' := (mkF m 18 #[.val (.ref a1), .val (.ref a2), .val (.int (4 : Int32))] [(.int x4)])) (fun _ k => X0.baloadBytes hx (j := (4 : Int32)) (v := (.int x4)) (by rw [e0]; exact Ar24.1) (State.isArrayOf_alike hZ.alike Ar24.2.1) Ar24.2.2 hin25 hat25 (g := (mkF m 17 #[.val (.ref a1), .val (.ref a2), .val (.int (4 : Int32))] [(.int (4 : Int32)), (.ref a1)])) rfl rfl (hb hby d12_17) _ k) ?_
  refine Go.step (T' := s₁) (f' := (mkF m 19 #[.val (.ref a1), .val (.ref a2), .val (.int (4 : Int32))] [(.ref a2), (.int x4)])) (fun _ k => XS.aloadN X0.here hx rfl (hb hby d12_18) rfl rfl k) ?_
  refine Go.step (T' := s₁) (f' := (mkF m 20 #[.val (.ref a1), .val (.ref a2), .val (.int (4 : Int32))] [(.int (4 : Int32)), (.ref a2), (.int x4)])) (fun _ k => XS.iloadN X0.here hx rfl (hb hby d12_19) rfl k) ?_
  obtain ⟨cl26, Ar26, qc26, Sz26, Nn26, Hs26, Gf26⟩ := id V_a2
  have hin27 : ¬ ((4 : Int32) < 0 ∨ cl26.slots.size ≤ ((4 : Int32)).toNatClampNeg) := (inb_of Sz26 ⟨by decide, by decide⟩)
  have hat27 : cl26.slots[((4 : Int32)).toNatClampNeg]? = some (.int x4) := Has.at Hs26 hin27 rfl
  refine Go.step (T' := s₁) (f' := (mkF m 21 #[.val (.ref a1), .val (.ref a2), .val (.int (4 : Int32))] [(.int x4), (.int x4)])) (fun _ k => X0.baloadBytes hx (j := (4 : Int32)) (v := (.int x4)) (by rw [e0]; exact Ar26.1) (State.isArrayOf_alike hZ.alike Ar26.2.1) Ar26.2.2 hin27 hat27 (g := (mkF m 20 #[.val (.ref a1), .val (.ref a2), .val (.int (4 : Int32))] [(.int (4 : Int32)), (.ref a2), (.int x4)])) rfl rfl (hb hby d12_20) _ k) ?_
  refine Go.step (T' := s₁) (f' := (mkF m 26 #[.val (.ref a1), .val (.ref a2), .val (.int (4 : Int32))] [])) (fun _ k => XS.icmpYes X0.here hx rfl (pc0 := 21) (pc' := 26) rfl (hb hby d12_21) rfl (teq (rfl : x4 = x4)).1 (by decide) (by decide) k) ?_
  refine Go.step (T' := s₁) (f' := (mkF m 29 #[.val (.ref a1), .val (.ref a2), .val (.int (5 : Int32))] [])) (fun _ k => XS.iinc X0.here hx rfl (hb hby d12_26) rfl (l' := #[.val (.ref a1), .val (.ref a2), .val (.int (5 : Int32))]) rfl k) ?_
  refine Go.step (T' := s₁) (f' := (mkF m 9 #[.val (.ref a1), .val (.ref a2), .val (.int (5 : Int32))] [])) (fun _ k => XS.goto X0.here hx rfl (pc0 := 29) (pc' := 9) rfl (hb hby d12_29) (by decide) (by decide) k) ?_
  refine Go.step (T' := s₁) (f' := (mkF m 10 #[.val (.ref a1), .val (.ref a2), .val (.int (5 : Int32))] [(.int (5 : Int32))])) (fun _ k => XS.iloadN X0.here hx rfl (hb hby d12_9) rfl k) ?_
  refine Go.step (T' := s₁) (f' := (mkF m 11 #[.val (.ref a1), .val (.ref a2), .val (.int (5 : Int32))] [(.ref a1), (.int (5 : Int32))])) (fun _ k => XS.aloadN X0.here hx rfl (hb hby d12_10) rfl rfl k) ?_
  obtain ⟨cl28, Ar28, qc28, Sz28, Nn28, Hs28, Gf28⟩ := id V_a1
  have hlen28 := X0.arraylength hx (by rw [e0]; exact Ar28.1) (State.isArrayOf_alike hZ.alike Ar28.2.1) (g := (mkF m 11 #[.val (.ref a1), .val (.ref a2), .val (.int (5 : Int32))] [(.ref a1), (.int (5 : Int32))])) rfl rfl (hb hby d12_11)
  rw [len_of Sz28 Nn28] at hlen28
  refine Go.step (T' := s₁) (f' := (mkF m 12 #[.val (.ref a1), .val (.ref a2), .val (.int (5 : Int32))] [(.int (8 : Int32)), (.int (5 : Int32))])) (fun _ k => hlen28 _ k) ?_
  refine Go.step (T' := s₁) (f' := (mkF m 15 #[.val (.ref a1), .val (.ref a2), .val (.int (5 : Int32))] [])) (fun _ k => XS.icmpNo X0.here hx rfl (hb hby d12_12) rfl (tlt (by decide : (5 : Int32) < (8 : Int32))).2.1 k) ?_
  refine Go.step (T' := s₁) (f' := (mkF m 16 #[.val (.ref a1), .val (.ref a2), .val (.int (5 : Int32))] [(.ref a1)])) (fun _ k => XS.aloadN X0.here hx rfl (hb hby d12_15) rfl rfl k) ?_
  refine Go.step (T' := s₁) (f' := (mkF m 17 #[.val (.ref a1), .val (.ref a2), .val (.int (5 : Int32))] [(.int (5 : Int32)), (.ref a1)])) (fun _ k => XS.iloadN X0.here hx rfl (hb hby d12_16) rfl k) ?_
  obtain ⟨cl29, Ar29, qc29, Sz29, Nn29, Hs29, Gf29⟩ := id V_a1
  have hin30 : ¬ ((5 : Int32) < 0 ∨ cl29.slots.size ≤ ((5 : Int32)).toNatClampNeg) := (inb_of Sz29 ⟨by decide, by decide⟩)
  have hat30 : cl29.slots[((5 : Int32)).toNatClampNeg]? = some (.int x5) := Has.at Hs29 hin30 rfl
  refine Go.step (T' := s₁) (f' := (mkF m 18 #[.val (.ref a1), .val (.ref a2), .val (.int (5 : Int32))] [(.int x5)])) (fun _ k => X0.baloadBytes hx (j := (5 : Int32)) (v := (.int x5)) (by rw [e0]; exact Ar29.1) (State.isArrayOf_alike hZ.alike Ar29.2.1) Ar29.2.2 hin30 hat30 (g := (mkF m 17 #[.val (.ref a1), .val (.ref a2), .val (.int (5 : Int32))] [(.int (5 : Int32)), (.ref a1)])) rfl rfl (hb hby d12_17) _ k) ?_
  refine Go.step (T' := s₁) (f' := (mkF m 19 #[.val (.ref a1), .val (.ref a2), .val (.int (5 : Int32))] [(.ref a2), (.int x5)])) (fun _ k => XS.aloadN X0.here hx rfl (hb hby d12_18) rfl rfl k) ?_
  refine Go.step (T' := s₁) (f' := (mkF m 20 #[.val (.ref a1), .val (.ref a2), .val (.int (5 : Int32))] [(.int (5 : Int32)), (.ref a2), (.int x5)])) (fun _ k => XS.iloadN X0.here hx rfl (hb hby d12_19) rfl k) ?_
  obtain ⟨cl31, Ar31, qc31, Sz31, Nn31, Hs31, Gf31⟩ := id V_a2
  have hin32 : ¬ ((5 : Int32) < 0 ∨ cl31.slots.size ≤ ((5 : Int32)).toNatClampNeg) := (inb_of Sz31 ⟨by decide, by decide⟩)
  have hat32 : cl31.slots[((5 : Int32)).toNatClampNeg]? = some (.int x5) := Has.at Hs31 hin32 rfl
  refine Go.step (T' := s₁) (f' := (mkF m 21 #[.val (.ref a1), .val (.ref a2), .val (.int (5 : Int32))] [(.int x5), (.int x5)])) (fun _ k => X0.baloadBytes hx (j := (5 : Int32)) (v := (.int x5)) (by rw [e0]; exact Ar31.1) (State.isArrayOf_alike hZ.alike Ar31.2.1) Ar31.2.2 hin32 hat32 (g := (mkF m 20 #[.val (.ref a1), .val (.ref a2), .val (.int (5 : Int32))] [(.int (5 : Int32)), (.ref a2), (.int x5)])) rfl rfl (hb hby d12_20) _ k) ?_
  refine Go.step (T' := s₁) (f' := (mkF m 26 #[.val (.ref a1), .val (.ref a2), .val (.int (5 : Int32))] [])) (fun _ k => XS.icmpYes X0.here hx rfl (pc0 := 21) (pc' := 26) rfl (hb hby d12_21) rfl (teq (rfl : x5 = x5)).1 (by decide) (by decide) k) ?_
  refine Go.step (T' := s₁) (f' := (mkF m 29 #[.val (.ref a1), .val (.ref a2), .val (.int (6 : Int32))] [])) (fun _ k => XS.iinc X0.here hx rfl (hb hby d12_26) rfl (l' := #[.val (.ref a1), .val (.ref a2), .val (.int (6 : Int32))]) rfl k) ?_
  refine Go.step (T' := s₁) (f' := (mkF m 9 #[.val (.ref a1), .val (.ref a2), .val (.int (6 : Int32))] [])) (fun _ k => XS.goto X0.here hx rfl (pc0 := 29) (pc' := 9) rfl (hb hby d12_29) (by decide) (by decide) k) ?_
  refine Go.step (T' := s₁) (f' := (mkF m 10 #[.val (.ref a1), .val (.ref a2), .val (.int (6 : Int32))] [(.int (6 : Int32))])) (fun _ k => XS.iloadN X0.here hx rfl (hb hby d12_9) rfl k) ?_
  refine Go.step (T' := s₁) (f' := (mkF m 11 #[.val (.ref a1), .val (.ref a2), .val (.int (6 : Int32))] [(.ref a1), (.int (6 : Int32))])) (fun _ k => XS.aloadN X0.here hx rfl (hb hby d12_10) rfl rfl k) ?_
  obtain ⟨cl33, Ar33, qc33, Sz33, Nn33, Hs33, Gf33⟩ := id V_a1
  have hlen33 := X0.arraylength hx (by rw [e0]; exact Ar33.1) (State.isArrayOf_alike hZ.alike Ar33.2.1) (g := (mkF m 11 #[.val (.ref a1), .val (.ref a2), .val (.int (6 : Int32))] [(.ref a1), (.int (6 : Int32))])) rfl rfl (hb hby d12_11)
  rw [len_of Sz33 Nn33] at hlen33
  refine Go.step (T' := s₁) (f' := (mkF m 12 #[.val (.ref a1), .val (.ref a2), .val (.int (6 : Int32))] [(.int (8 : Int32)), (.int (6 : Int32))])) (fun _ k => hlen33 _ k) ?_
  refine Go.step (T' := s₁) (f' := (mkF m 15 #[.val (.ref a1), .val (.ref a2), .val (.int (6 : Int32))] [])) (fun _ k => XS.icmpNo X0.here hx rfl (hb hby d12_12) rfl (tlt (by decide : (6 : Int32) < (8 : Int32))).2.1 k) ?_
  refine Go.step (T' := s₁) (f' := (mkF m 16 #[.val (.ref a1), .val (.ref a2), .val (.int (6 : Int32))] [(.ref a1)])) (fun _ k => XS.aloadN X0.here hx rfl (hb hby d12_15) rfl rfl k) ?_
  refine Go.step (T' := s₁) (f' := (mkF m 17 #[.val (.ref a1), .val (.ref a2), .val (.int (6 : Int32))] [(.int (6 : Int32)), (.ref a1)])) (fun _ k => XS.iloadN X0.here hx rfl (hb hby d12_16) rfl k) ?_
  obtain ⟨cl34, Ar34, qc34, Sz34, Nn34, Hs34, Gf34⟩ := id V_a1
  have hin35 : ¬ ((6 : Int32) < 0 ∨ cl34.slots.size ≤ ((6 : Int32)).toNatClampNeg) := (inb_of Sz34 ⟨by decide, by decide⟩)
  have hat35 : cl34.slots[((6 : Int32)).toNatClampNeg]? = some (.int x6) := Has.at Hs34 hin35 rfl
  refine Go.step (T' := s₁) (f' := (mkF m 18 #[.val (.ref a1), .val (.ref a2), .val (.int (6 : Int32))] [(.int x6)])) (fun _ k => X0.baloadBytes hx (j := (6 : Int32)) (v := (.int x6)) (by rw [e0]; exact Ar34.1) (State.isArrayOf_alike hZ.alike Ar34.2.1) Ar34.2.2 hin35 hat35 (g := (mkF m 17 #[.val (.ref a1), .val (.ref a2), .val (.int (6 : Int32))] [(.int (6 : Int32)), (.ref a1)])) rfl rfl (hb hby d12_17) _ k) ?_
  refine Go.step (T' := s₁) (f' := (mkF m 19 #[.val (.ref a1), .val (.ref a2), .val (.int (6 : Int32))] [(.ref a2), (.int x6)])) (fun _ k => XS.aloadN X0.here hx rfl (hb hby d12_18) rfl rfl k) ?_
  refine Go.step (T' := s₁) (f' := (mkF m 20 #[.val (.ref a1), .val (.ref a2), .val (.int (6 : Int32))] [(.int (6 : Int32)), (.ref a2), (.int x6)])) (fun _ k => XS.iloadN X0.here hx rfl (hb hby d12_19) rfl k) ?_
  obtain ⟨cl36, Ar36, qc36, Sz36, Nn36, Hs36, Gf36⟩ := id V_a2
  have hin37 : ¬ ((6 : Int32) < 0 ∨ cl36.slots.size ≤ ((6 : Int32)).toNatClampNeg) := (inb_of Sz36 ⟨by decide, by decide⟩)
  have hat37 : cl36.slots[((6 : Int32)).toNatClampNeg]? = some (.int x6) := Has.at Hs36 hin37 rfl
  refine Go.step (T' := s₁) (f' := (mkF m 21 #[.val (.ref a1), .val (.ref a2), .val (.int (6 : Int32))] [(.int x6), (.int x6)])) (fun _ k => X0.baloadBytes hx (j := (6 : Int32)) (v := (.int x6)) (by rw [e0]; exact Ar36.1) (State.isArrayOf_alike hZ.alike Ar36.2.1) Ar36.2.2 hin37 hat37 (g := (mkF m 20 #[.val (.ref a1), .val (.ref a2), .val (.int (6 : Int32))] [(.int (6 : Int32)), (.ref a2), (.int x6)])) rfl rfl (hb hby d12_20) _ k) ?_
  refine Go.step (T' := s₁) (f' := (mkF m 26 #[.val (.ref a1), .val (.ref a2), .val (.int (6 : Int32))] [])) (fun _ k => XS.icmpYes X0.here hx rfl (pc0 := 21) (pc' := 26) rfl (hb hby d12_21) rfl (teq (rfl : x6 = x6)).1 (by decide) (by decide) k) ?_
  refine Go.step (T' := s₁) (f' := (mkF m 29 #[.val (.ref a1), .val (.ref a2), .val (.int (7 : Int32))] [])) (fun _ k => XS.iinc X0.here hx rfl (hb hby d12_26) rfl (l' := #[.val (.ref a1), .val (.ref a2), .val (.int (7 : Int32))]) rfl k) ?_
  refine Go.step (T' := s₁) (f' := (mkF m 9 #[.val (.ref a1), .val (.ref a2), .val (.int (7 : Int32))] [])) (fun _ k => XS.goto X0.here hx rfl (pc0 := 29) (pc' := 9) rfl (hb hby d12_29) (by decide) (by decide) k) ?_
  refine Go.step (T' := s₁) (f' := (mkF m 10 #[.val (.ref a1), .val (.ref a2), .val (.int (7 : Int32))] [(.int (7 : Int32))])) (fun _ k => XS.iloadN X0.here hx rfl (hb hby d12_9) rfl k) ?_
  refine Go.step (T' := s₁) (f' := (mkF m 11 #[.val (.ref a1), .val (.ref a2), .val (.int (7 : Int32))] [(.ref a1), (.int (7 : Int32))])) (fun _ k => XS.aloadN X0.here hx rfl (hb hby d12_10) rfl rfl k) ?_
  obtain ⟨cl38, Ar38, qc38, Sz38, Nn38, Hs38, Gf38⟩ := id V_a1
  have hlen38 := X0.arraylength hx (by rw [e0]; exact Ar38.1) (State.isArrayOf_alike hZ.alike Ar38.2.1) (g := (mkF m 11 #[.val (.ref a1), .val (.ref a2), .val (.int (7 : Int32))] [(.ref a1), (.int (7 : Int32))])) rfl rfl (hb hby d12_11)
  rw [len_of Sz38 Nn38] at hlen38
  refine Go.step (T' := s₁) (f' := (mkF m 12 #[.val (.ref a1), .val (.ref a2), .val (.int (7 : Int32))] [(.int (8 : Int32)), (.int (7 : Int32))])) (fun _ k => hlen38 _ k) ?_
  refine Go.step (T' := s₁) (f' := (mkF m 15 #[.val (.ref a1), .val (.ref a2), .val (.int (7 : Int32))] [])) (fun _ k => XS.icmpNo X0.here hx rfl (hb hby d12_12) rfl (tlt (by decide : (7 : Int32) < (8 : Int32))).2.1 k) ?_
  refine Go.step (T' := s₁) (f' := (mkF m 16 #[.val (.ref a1), .val (.ref a2), .val (.int (7 : Int32))] [(.ref a1)])) (fun _ k => XS.aloadN X0.here hx rfl (hb hby d12_15) rfl rfl k) ?_
  refine Go.step (T' := s₁) (f' := (mkF m 17 #[.val (.ref a1), .val (.ref a2), .val (.int (7 : Int32))] [(.int (7 : Int32)), (.ref a1)])) (fun _ k => XS.iloadN X0.here hx rfl (hb hby d12_16) rfl k) ?_
  obtain ⟨cl39, Ar39, qc39, Sz39, Nn39, Hs39, Gf39⟩ := id V_a1
  have hin40 : ¬ ((7 : Int32) < 0 ∨ cl39.slots.size ≤ ((7 : Int32)).toNatClampNeg) := (inb_of Sz39 ⟨by decide, by decide⟩)
  have hat40 : cl39.slots[((7 : Int32)).toNatClampNeg]? = some (.int x7) := Has.at Hs39 hin40 rfl
  refine Go.step (T' := s₁) (f' := (mkF m 18 #[.val (.ref a1), .val (.ref a2), .val (.int (7 : Int32))] [(.int x7)])) (fun _ k => X0.baloadBytes hx (j := (7 : Int32)) (v := (.int x7)) (by rw [e0]; exact Ar39.1) (State.isArrayOf_alike hZ.alike Ar39.2.1) Ar39.2.2 hin40 hat40 (g := (mkF m 17 #[.val (.ref a1), .val (.ref a2), .val (.int (7 : Int32))] [(.int (7 : Int32)), (.ref a1)])) rfl rfl (hb hby d12_17) _ k) ?_
  refine Go.step (T' := s₁) (f' := (mkF m 19 #[.val (.ref a1), .val (.ref a2), .val (.int (7 : Int32))] [(.ref a2), (.int x7)])) (fun _ k => XS.aloadN X0.here hx rfl (hb hby d12_18) rfl rfl k) ?_
  refine Go.step (T' := s₁) (f' := (mkF m 20 #[.val (.ref a1), .val (.ref a2), .val (.int (7 : Int32))] [(.int (7 : Int32)), (.ref a2), (.int x7)])) (fun _ k => XS.iloadN X0.here hx rfl (hb hby d12_19) rfl k) ?_
  obtain ⟨cl41, Ar41, qc41, Sz41, Nn41, Hs41, Gf41⟩ := id V_a2
  have hin42 : ¬ ((7 : Int32) < 0 ∨ cl41.slots.size ≤ ((7 : Int32)).toNatClampNeg) := (inb_of Sz41 ⟨by decide, by decide⟩)
  have hat42 : cl41.slots[((7 : Int32)).toNatClampNeg]? = some (.int x7) := Has.at Hs41 hin42 rfl
  refine Go.step (T' := s₁) (f' := (mkF m 21 #[.val (.ref a1), .val (.ref a2), .val (.int (7 : Int32))] [(.int x7), (.int x7)])) (fun _ k => X0.baloadBytes hx (j := (7 : Int32)) (v := (.int x7)) (by rw [e0]; exact Ar41.1) (State.isArrayOf_alike hZ.alike Ar41.2.1) Ar41.2.2 hin42 hat42 (g := (mkF m 20 #[.val (.ref a1), .val (.ref a2), .val (.int (7 : Int32))] [(.int (7 : Int32)), (.ref a2), (.int x7)])) rfl rfl (hb hby d12_20) _ k) ?_
  refine Go.step (T' := s₁) (f' := (mkF m 26 #[.val (.ref a1), .val (.ref a2), .val (.int (7 : Int32))] [])) (fun _ k => XS.icmpYes X0.here hx rfl (pc0 := 21) (pc' := 26) rfl (hb hby d12_21) rfl (teq (rfl : x7 = x7)).1 (by decide) (by decide) k) ?_
  refine Go.step (T' := s₁) (f' := (mkF m 29 #[.val (.ref a1), .val (.ref a2), .val (.int (8 : Int32))] [])) (fun _ k => XS.iinc X0.here hx rfl (hb hby d12_26) rfl (l' := #[.val (.ref a1), .val (.ref a2), .val (.int (8 : Int32))]) rfl k) ?_
  refine Go.step (T' := s₁) (f' := (mkF m 9 #[.val (.ref a1), .val (.ref a2), .val (.int (8 : Int32))] [])) (fun _ k => XS.goto X0.here hx rfl (pc0 := 29) (pc' := 9) rfl (hb hby d12_29) (by decide) (by decide) k) ?_
  refine Go.step (T' := s₁) (f' := (mkF m 10 #[.val (.ref a1), .val (.ref a2), .val (.int (8 : Int32))] [(.int (8 : Int32))])) (fun _ k => XS.iloadN X0.here hx rfl (hb hby d12_9) rfl k) ?_
  refine Go.step (T' := s₁) (f' := (mkF m 11 #[.val (.ref a1), .val (.ref a2), .val (.int (8 : Int32))] [(.ref a1), (.int (8 : Int32))])) (fun _ k => XS.aloadN X0.here hx rfl (hb hby d12_10) rfl rfl k) ?_
  obtain ⟨cl43, Ar43, qc43, Sz43, Nn43, Hs43, Gf43⟩ := id V_a1
  have hlen43 := X0.arraylength hx (by rw [e0]; exact Ar43.1) (State.isArrayOf_alike hZ.alike Ar43.2.1) (g := (mkF m 11 #[.val (.ref a1), .val (.ref a2), .val (.int (8 : Int32))] [(.ref a1), (.int (8 : Int32))])) rfl rfl (hb hby d12_11)
  rw [len_of Sz43 Nn43] at hlen43
  refine Go.step (T' := s₁) (f' := (mkF m 12 #[.val (.ref a1), .val (.ref a2), .val (.int (8 : Int32))] [(.int (8 : Int32)), (.int (8 : Int32))])) (fun _ k => hlen43 _ k) ?_
  refine Go.step (T' := s₁) (f' := (mkF m 32 #[.val (.ref a1), .val (.ref a2), .val (.int (8 : Int32))] [])) (fun _ k => XS.icmpYes X0.here hx rfl (pc0 := 12) (pc' := 32) rfl (hb hby d12_12) rfl (flt (by decide : ¬ ((8 : Int32) < (8 : Int32)))).2.1 (by decide) (by decide) k) ?_
  refine Go.step (T' := s₁) (f' := (mkF m 33 #[.val (.ref a1), .val (.ref a2), .val (.int (8 : Int32))] [(.int (1 : Int32))])) (fun _ k => XS.iconst X0.here hx rfl (hb hby d12_32) k) ?_
  refine goN X0 hx (t := .boolean) Bd.returns (by simp) Bd.notSynchronized (hb hby d12_33) ?_ (by decide) (by decide)
  show Q_rmLe8_8 Z a1 a2 k1 k2 x0 x1 x2 x3 x4 x5 x6 x7 h0 n0 _ s₁.heap _
  rw [e0]
  exact ⟨rfl, N0, rfl⟩
theorem d11_0 : decode jdk_42_method_66_code 0 = .ok (.aload_n 0, 1) := by decide +kernel
theorem d11_1 : decode jdk_42_method_66_code 1 = .ok (.aload_n 1, 1) := by decide +kernel
theorem d11_2 : decode jdk_42_method_66_code 2 = .ok (.if_acmp .ne 5, 3) := by decide +kernel
theorem d11_7 : decode jdk_42_method_66_code 7 = .ok (.aload_n 1, 1) := by decide +kernel
theorem d11_8 : decode jdk_42_method_66_code 8 = .ok (.instanceof 10, 3) := by decide +kernel
theorem d11_11 : decode jdk_42_method_66_code 11 = .ok (.ifCond .eq 43, 3) := by decide +kernel
theorem d11_14 : decode jdk_42_method_66_code 14 = .ok (.aload_n 1, 1) := by decide +kernel
theorem d11_15 : decode jdk_42_method_66_code 15 = .ok (.checkcast 10, 3) := by decide +kernel
theorem d11_18 : decode jdk_42_method_66_code 18 = .ok (.astore_n 2, 1) := by decide +kernel
theorem d11_19 : decode jdk_42_method_66_code 19 = .ok (.getstatic 38, 3) := by decide +kernel
theorem d11_22 : decode jdk_42_method_66_code 22 = .ok (.ifCond .eq 14, 3) := by decide +kernel
theorem d11_25 : decode jdk_42_method_66_code 25 = .ok (.aload_n 0, 1) := by decide +kernel
theorem d11_26 : decode jdk_42_method_66_code 26 = .ok (.getfield 15, 3) := by decide +kernel
theorem d11_29 : decode jdk_42_method_66_code 29 = .ok (.aload_n 2, 1) := by decide +kernel
theorem d11_30 : decode jdk_42_method_66_code 30 = .ok (.getfield 15, 3) := by decide +kernel
theorem d11_33 : decode jdk_42_method_66_code 33 = .ok (.if_icmp .ne 21, 3) := by decide +kernel
theorem d11_36 : decode jdk_42_method_66_code 36 = .ok (.aload_n 0, 1) := by decide +kernel
theorem d11_37 : decode jdk_42_method_66_code 37 = .ok (.getfield 9, 3) := by decide +kernel
theorem d11_40 : decode jdk_42_method_66_code 40 = .ok (.aload_n 2, 1) := by decide +kernel
theorem d11_41 : decode jdk_42_method_66_code 41 = .ok (.getfield 9, 3) := by decide +kernel
theorem d11_44 : decode jdk_42_method_66_code 44 = .ok (.invokestatic 541, 3) := by decide +kernel
theorem pd_4 : parseMethodDescriptor "([B[B)Z" = some ⟨[(.array .byte), (.array .byte)], some .boolean⟩ := by decide +kernel
theorem d11_47 : decode jdk_42_method_66_code 47 = .ok (.ifCond .eq 7, 3) := by decide +kernel
theorem d11_50 : decode jdk_42_method_66_code 50 = .ok (.iconst 1, 1) := by decide +kernel
theorem d11_51 : decode jdk_42_method_66_code 51 = .ok (.goto 4, 3) := by decide +kernel
theorem d11_55 : decode jdk_42_method_66_code 55 = .ok (.ireturn, 1) := by decide +kernel
theorem ef_rmSe8_8 (m : MethodId) (a1 : Addr) (a2 : Addr) : entryFrame m #[(.ref a1), (.ref a2)] 3 = mkF m 0 #[.val (.ref a1), .val (.ref a2), .unset] [] := by first | (simp [entryFrame, mkF, argsToLocals, Value.category]; done) | rfl
def Q_rmSe8_8 (Z : State) (a1 : Addr) (a2 : Addr) (cs : Int32) (v1 : Addr) (v2 : Addr) (k1 : ClassId) (k2 : ClassId) (x0 : Int32) (x1 : Int32) (x2 : Int32) (x3 : Int32) (x4 : Int32) (x5 : Int32) (x6 : Int32) (x7 : Int32) (h0 : Heap) (n0 : Nat) (rv : Option Value) (hq : Heap) (Lq : List Loc) : Prop := rv = some (.int (1 : Int32)) ∧ Fr n0 Lq ∧ hq = h0
set_option maxRecDepth 65536 in
set_option maxHeartbeats 40000000 in
theorem rmSe8_8 (l : Launch) (Z : State) (a0 : Array Value) (hw : ∀ d ∈ tables_1, d.before a0 Z = true) (ws : List Jvm.Cond) (a1 : Addr) (a2 : Addr) (cs : Int32) (v1 : Addr) (v2 : Addr) (k1 : ClassId) (k2 : ClassId) (x0 : Int32) (x1 : Int32) (x2 : Int32) (x3 : Int32) (x4 : Int32) (x5 : Int32) (x6 : Int32) (x7 : Int32) (h0 : Heap) (n0 : Nat) (Z0 : n0 ≤ h0.size) (E_a1 : Exa Z h0 a1 "java/lang/String") (F_coder_a1 : Fld Z h0 a1 "java/lang/String" "coder" "B" (.int (0 : Int32))) (F_value_a1 : Fld Z h0 a1 "java/lang/String" "value" "[B" (.ref v1)) (V_v1 : Arv Z h0 v1 k1 .byte (8 : Int32) [(.int x0), (.int x1), (.int x2), (.int x3), (.int x4), (.int x5), (.int x6), (.int x7)] (.int (0 : Int32))) (E_a2 : Exa Z h0 a2 "java/lang/String") (F_coder_a2 : Fld Z h0 a2 "java/lang/String" "coder" "B" (.int (0 : Int32))) (F_value_a2 : Fld Z h0 a2 "java/lang/String" "value" "[B" (.ref v2)) (V_v2 : Arv Z h0 v2 k2 .byte (8 : Int32) [(.int x0), (.int x1), (.int x2), (.int x3), (.int x4), (.int x5), (.int x6), (.int x7)] (.int (0 : Int32))) (O0 : Old Z n0 h0) (S_COMPACT_STRINGS : Sta Z Z.heap "java/lang/String" "COMPACT_STRINGS" "Z" (.int cs)) (hcs : ¬ cs = (0 : Int32)) (hne : a1 ≠ a2) :
    MetFree l (⟨"java/lang/String", "equals", "(Ljava/lang/Object;)Z"⟩ : MethodName) (head1 (Jvm.Cond.code (⟨"java/lang/String", "equals", "(Ljava/lang/Object;)Z"⟩ : MethodName) jdk_42_method_66_code 3 (some .boolean) :: ws) ({ frames := 1, cells := 0, slots := 0, locals := 14 } : Room)) (fun a U => a = #[(.ref a1), (.ref a2)] ∧ Z.Warmed39 U.vm ∧ U.heap = h0) (fun _ _ _ _ _ => True) (fun _ U o U' => ∃ rv Lq, o = .returned rv ∧ Q_rmSe8_8 Z a1 a2 cs v1 v2 k1 k2 x0 x1 x2 x3 x4 x5 x6 x7 h0 n0 rv U'.heap Lq ∧ FrameEnd U o U' Lq ({ frames := 1, cells := 0, slots := 0, locals := 14 } : Room).cells ({ frames := 1, cells := 0, slots := 0, locals := 14 } : Room).slots) := by
  refine MetFree.of_bodySF (plainFor_of_name pn_2) hisR ?_
  intro p e s m args below meth c s₁ Bd hml0 hP hK
  obtain ⟨rfl, hZ, hh⟩ := hP
  have hx := Bd.exec
  have hby := Bd.bytes
  have hml : c.maxLocals = 3 := hml0
  have hown : s.vm.findClass "java/lang/String" = some m.cls := findClass_of_methodNamed Bd.named
  have hnm := (name_of_methodNamed Bd.named Bd.method).1
  have X0 : Stand p l e ({ frames := 1, cells := 0, slots := 0, locals := 14 } : Room) s m #[(.ref a1), (.ref a2)] below meth c s₁ [] 0 0 := Stand.of_body Bd
  have e0 : s₁.heap = h0 := by rw [← hh, Bd.state]; rfl
  have N0 := Fr.nil n0
  refine of_go (ef_rmSe8_8 m a1 a2) ?_
  refine Go.step (T' := s₁) (f' := (mkF m 1 #[.val (.ref a1), .val (.ref a2), .unset] [(.ref a1)])) (fun _ k => XS.aloadN X0.here hx rfl (hb hby d11_0) rfl rfl k) ?_
  refine Go.step (T' := s₁) (f' := (mkF m 2 #[.val (.ref a1), .val (.ref a2), .unset] [(.ref a2), (.ref a1)])) (fun _ k => XS.aloadN X0.here hx rfl (hb hby d11_1) rfl rfl k) ?_
  refine Go.step (T' := s₁) (f' := (mkF m 7 #[.val (.ref a1), .val (.ref a2), .unset] [])) (fun _ k => Jvm.RoadKit.acmp (g := (mkF m 2 #[.val (.ref a1), .val (.ref a2), .unset] [(.ref a2), (.ref a1)])) X0 hx rfl rfl rfl (pc0 := 2) (pc' := 7) (same := false) rfl (hb hby d11_2) rfl (decide_eq_false fun q => hne (Value.ref.inj q)) (by decide) (by decide) k) ?_
  refine Go.step (T' := s₁) (f' := (mkF m 8 #[.val (.ref a1), .val (.ref a2), .unset] [(.ref a2)])) (fun _ k => XS.aloadN X0.here hx rfl (hb hby d11_7) rfl rfl k) ?_
  obtain ⟨T1, X1, e1, st1⟩ := instY X0 hx hZ hown (hw _ (List.mem_of_getElem? (i := 74) rfl)) e0 (Ins.self E_a2) (g := (mkF m 8 #[.val (.ref a1), .val (.ref a2), .unset] [(.ref a2)])) rfl rfl (hb hby d11_8)
  refine Go.step (T' := T1) (f' := (mkF m 11 #[.val (.ref a1), .val (.ref a2), .unset] [(.int (1 : Int32))])) st1 ?_
  refine Go.step (T' := T1) (f' := (mkF m 14 #[.val (.ref a1), .val (.ref a2), .unset] [])) (fun _ k => XS.ifNo X1.here hx rfl (hb hby d11_11) rfl ((if0 _ _).trans (feq (by decide : ¬ ((1 : Int32) = (0 : Int32)))).1) k) ?_
  refine Go.step (T' := T1) (f' := (mkF m 15 #[.val (.ref a1), .val (.ref a2), .unset] [(.ref a2)])) (fun _ k => XS.aloadN X1.here hx rfl (hb hby d11_14) rfl rfl k) ?_
  obtain ⟨T2, X2, e2, st2⟩ := castY X1 hx hZ hown (hw _ (List.mem_of_getElem? (i := 74) rfl)) e1 (Ins.self E_a2) (g := (mkF m 15 #[.val (.ref a1), .val (.ref a2), .unset] [(.ref a2)])) rfl rfl (hb hby d11_15)
  refine Go.step (T' := T2) (f' := (mkF m 18 #[.val (.ref a1), .val (.ref a2), .unset] [(.ref a2)])) st2 ?_
  refine Go.step (T' := T2) (f' := (mkF m 19 #[.val (.ref a1), .val (.ref a2), .val (.ref a2)] [])) (fun _ k => XS.astoreN X2.here hx rfl (hb hby d11_18) rfl rfl (l' := #[.val (.ref a1), .val (.ref a2), .val (.ref a2)]) rfl k) ?_
  obtain ⟨T3, X3, e3, st3⟩ := getS2 X2 hx hZ hown (host := "") (Or.inl (hw _ (List.mem_of_getElem? (i := 18) rfl))) Via.refl e2 (S_COMPACT_STRINGS.ext O0.2) (g := (mkF m 19 #[.val (.ref a1), .val (.ref a2), .val (.ref a2)] [])) rfl (hb hby d11_19)
  refine Go.step (T' := T3) (f' := (mkF m 22 #[.val (.ref a1), .val (.ref a2), .val (.ref a2)] [(.int cs)])) st3 ?_
  refine Go.step (T' := T3) (f' := (mkF m 25 #[.val (.ref a1), .val (.ref a2), .val (.ref a2)] [])) (fun _ k => XS.ifNo X3.here hx rfl (hb hby d11_22) rfl ((if0 _ _).trans (feq hcs).1) k) ?_
  refine Go.step (T' := T3) (f' := (mkF m 26 #[.val (.ref a1), .val (.ref a2), .val (.ref a2)] [(.ref a1)])) (fun _ k => XS.aloadN X3.here hx rfl (hb hby d11_25) rfl rfl k) ?_
  obtain ⟨T4, X4, e4, st4⟩ := getF X3 hx hZ hown (host := "") (Or.inl (hw _ (List.mem_of_getElem? (i := 30) rfl))) Via.refl e3 F_coder_a1 (g := (mkF m 26 #[.val (.ref a1), .val (.ref a2), .val (.ref a2)] [(.ref a1)])) rfl rfl (hb hby d11_26)
  refine Go.step (T' := T4) (f' := (mkF m 29 #[.val (.ref a1), .val (.ref a2), .val (.ref a2)] [(.int (0 : Int32))])) st4 ?_
  refine Go.step (T' := T4) (f' := (mkF m 30 #[.val (.ref a1), .val (.ref a2), .val (.ref a2)] [(.ref a2), (.int (0 : Int32))])) (fun _ k => XS.aloadN X4.here hx rfl (hb hby d11_29) rfl rfl k) ?_
  obtain ⟨T5, X5, e5, st5⟩ := getF X4 hx hZ hown (host := "") (Or.inl (hw _ (List.mem_of_getElem? (i := 30) rfl))) Via.refl e4 F_coder_a2 (g := (mkF m 30 #[.val (.ref a1), .val (.ref a2), .val (.ref a2)] [(.ref a2), (.int (0 : Int32))])) rfl rfl (hb hby d11_30)
  refine Go.step (T' := T5) (f' := (mkF m 33 #[.val (.ref a1), .val (.ref a2), .val (.ref a2)] [(.int (0 : Int32)), (.int (0 : Int32))])) st5 ?_
  refine Go.step (T' := T5) (f' := (mkF m 36 #[.val (.ref a1), .val (.ref a2), .val (.ref a2)] [])) (fun _ k => XS.icmpNo X5.here hx rfl (hb hby d11_33) rfl (teq (by decide : (0 : Int32) = (0 : Int32))).2 k) ?_
  refine Go.step (T' := T5) (f' := (mkF m 37 #[.val (.ref a1), .val (.ref a2), .val (.ref a2)] [(.ref a1)])) (fun _ k => XS.aloadN X5.here hx rfl (hb hby d11_36) rfl rfl k) ?_
  obtain ⟨T6, X6, e6, st6⟩ := getF X5 hx hZ hown (host := "") (Or.inl (hw _ (List.mem_of_getElem? (i := 32) rfl))) Via.refl e5 F_value_a1 (g := (mkF m 37 #[.val (.ref a1), .val (.ref a2), .val (.ref a2)] [(.ref a1)])) rfl rfl (hb hby d11_37)
  refine Go.step (T' := T6) (f' := (mkF m 40 #[.val (.ref a1), .val (.ref a2), .val (.ref a2)] [(.ref v1)])) st6 ?_
  refine Go.step (T' := T6) (f' := (mkF m 41 #[.val (.ref a1), .val (.ref a2), .val (.ref a2)] [(.ref a2), (.ref v1)])) (fun _ k => XS.aloadN X6.here hx rfl (hb hby d11_40) rfl rfl k) ?_
  obtain ⟨T7, X7, e7, st7⟩ := getF X6 hx hZ hown (host := "") (Or.inl (hw _ (List.mem_of_getElem? (i := 32) rfl))) Via.refl e6 F_value_a2 (g := (mkF m 41 #[.val (.ref a1), .val (.ref a2), .val (.ref a2)] [(.ref a2), (.ref v1)])) rfl rfl (hb hby d11_41)
  refine Go.step (T' := T7) (f' := (mkF m 44 #[.val (.ref a1), .val (.ref a2), .val (.ref a2)] [(.ref v2), (.ref v1)])) st7 ?_
  obtain ⟨_, _, ⟨T8, L8, kk8, nn8⟩, -, X8, ⟨Lc8, hQ8, lq8, yq8, zq8⟩, st8⟩ := Jvm.LawKit.callS X7 hx (y := (⟨"java/lang/StringLatin1", "equals", "([B[B)Z"⟩ : MethodName)) hown (mvT hZ (hw _ (List.mem_of_getElem? (i := 75) rfl))) (mvT hZ (hw _ (List.mem_of_getElem? (i := 76) rfl))) (mvT hZ (hw _ (List.mem_of_getElem? (i := 77) rfl))) (mvT hZ (hw _ (List.mem_of_getElem? (i := 78) rfl))) (by decide) (backOf (W := 0) (rmLe8_8 l Z a0 hw [] v1 v2 k1 k2 x0 x1 x2 x3 x4 x5 x6 x7 h0 n0 Z0 V_v1 V_v2) hZ (hw _ (List.mem_of_getElem? (i := 78) rfl)) (hw _ (List.mem_of_getElem? (i := 77) rfl)) (by decide) (by decide)) (g := (mkF m 44 #[.val (.ref a1), .val (.ref a2), .val (.ref a2)] [(.ref v2), (.ref v1)])) rfl (by rw [hml]; rfl) (argsL := [(.ref v1), (.ref v2)]) (rest := []) (lenOf pd_4 rfl) rfl (by show 2 * 0 + _ ≤ _; exact Nat.le_of_eq rfl) (hb hby d11_44) (fun _ _ => ⟨rfl, e7, (by decide : 0 + 0 ≤ _), (by decide : 0 + 0 ≤ _)⟩)
  dsimp only [Pt.U, Pt.locs, Pt.cells, Pt.slots] at X8 lq8 yq8 zq8 st8 hQ8
  subst yq8 zq8
  obtain ⟨rfl, Nq8, eh8⟩ := hQ8
  have N8 : Fr n0 L8 := by rw [lq8]; exact Fr.app N0 Nq8
  refine Go.step (T' := T8) (f' := (mkF m 47 #[.val (.ref a1), .val (.ref a2), .val (.ref a2)] [(.int (1 : Int32))])) st8 ?_
  refine Go.step (T' := T8) (f' := (mkF m 50 #[.val (.ref a1), .val (.ref a2), .val (.ref a2)] [])) (fun _ k => XS.ifNo X8.here hx rfl (hb hby d11_47) rfl ((if0 _ _).trans (feq (by decide : ¬ ((1 : Int32) = (0 : Int32)))).1) k) ?_
  refine Go.step (T' := T8) (f' := (mkF m 51 #[.val (.ref a1), .val (.ref a2), .val (.ref a2)] [(.int (1 : Int32))])) (fun _ k => XS.iconst X8.here hx rfl (hb hby d11_50) k) ?_
  refine Go.step (T' := T8) (f' := (mkF m 55 #[.val (.ref a1), .val (.ref a2), .val (.ref a2)] [(.int (1 : Int32))])) (fun _ k => XS.goto X8.here hx rfl (pc0 := 51) (pc' := 55) rfl (hb hby d11_51) (by decide) (by decide) k) ?_
  refine goN X8 hx (t := .boolean) Bd.returns (by simp) Bd.notSynchronized (hb hby d11_55) ?_ (by decide) (by decide)
  show Q_rmSe8_8 Z a1 a2 cs v1 v2 k1 k2 x0 x1 x2 x3 x4 x5 x6 x7 h0 n0 _ T8.heap _
  rw [eh8]
  exact ⟨rfl, N8, rfl⟩
theorem d12_34 : decode jdk_43_method_13_code 34 = .ok (.iconst 0, 1) := by decide +kernel
theorem d12_35 : decode jdk_43_method_13_code 35 = .ok (.ireturn, 1) := by decide +kernel
theorem ef_rmLe8_9 (m : MethodId) (a1 : Addr) (a2 : Addr) : entryFrame m #[(.ref a1), (.ref a2)] 3 = mkF m 0 #[.val (.ref a1), .val (.ref a2), .unset] [] := by first | (simp [entryFrame, mkF, argsToLocals, Value.category]; done) | rfl
def Q_rmLe8_9 (Z : State) (a1 : Addr) (a2 : Addr) (k1 : ClassId) (k2 : ClassId) (x0 : Int32) (x1 : Int32) (x2 : Int32) (x3 : Int32) (x4 : Int32) (x5 : Int32) (x6 : Int32) (x7 : Int32) (y0 : Int32) (y1 : Int32) (y2 : Int32) (y3 : Int32) (y4 : Int32) (y5 : Int32) (y6 : Int32) (y7 : Int32) (y8 : Int32) (h0 : Heap) (n0 : Nat) (rv : Option Value) (hq : Heap) (Lq : List Loc) : Prop := rv = some (.int (0 : Int32)) ∧ Fr n0 Lq ∧ hq = h0
set_option maxRecDepth 65536 in
set_option maxHeartbeats 40000000 in
theorem rmLe8_9 (l : Launch) (Z : State) (a0 : Array Value) (hw : ∀ d ∈ tables_1, d.before a0 Z = true) (ws : List Jvm.Cond) (a1 : Addr) (a2 : Addr) (k1 : ClassId) (k2 : ClassId) (x0 : Int32) (x1 : Int32) (x2 : Int32) (x3 : Int32) (x4 : Int32) (x5 : Int32) (x6 : Int32) (x7 : Int32) (y0 : Int32) (y1 : Int32) (y2 : Int32) (y3 : Int32) (y4 : Int32) (y5 : Int32) (y6 : Int32) (y7 : Int32) (y8 : Int32) (h0 : Heap) (n0 : Nat) (Z0 : n0 ≤ h0.size) (V_a1 : Arv Z h0 a1 k1 .byte (8 : Int32) [(.int x0), (.int x1), (.int x2), (.int x3), (.int x4), (.int x5), (.int x6), (.int x7)] (.int (0 : Int32))) (V_a2 : Arv Z h0 a2 k2 .byte (9 : Int32) [(.int y0), (.int y1), (.int y2), (.int y3), (.int y4), (.int y5), (.int y6), (.int y7), (.int y8)] (.int (0 : Int32))) :
    MetFree l (⟨"java/lang/StringLatin1", "equals", "([B[B)Z"⟩ : MethodName) (head1 (Jvm.Cond.code (⟨"java/lang/StringLatin1", "equals", "([B[B)Z"⟩ : MethodName) jdk_43_method_13_code 3 (some .boolean) :: ws) ({ frames := 0, cells := 0, slots := 0, locals := 0 } : Room)) (fun a U => a = #[(.ref a1), (.ref a2)] ∧ Z.Warmed39 U.vm ∧ U.heap = h0) (fun _ _ _ _ _ => True) (fun _ U o U' => ∃ rv Lq, o = .returned rv ∧ Q_rmLe8_9 Z a1 a2 k1 k2 x0 x1 x2 x3 x4 x5 x6 x7 y0 y1 y2 y3 y4 y5 y6 y7 y8 h0 n0 rv U'.heap Lq ∧ FrameEnd U o U' Lq ({ frames := 0, cells := 0, slots := 0, locals := 0 } : Room).cells ({ frames := 0, cells := 0, slots := 0, locals := 0 } : Room).slots) := by
  refine MetFree.of_bodySF (plainFor_of_name pn_12) hisR ?_
  intro p e s m args below meth c s₁ Bd hml0 hP hK
  obtain ⟨rfl, hZ, hh⟩ := hP
  have hx := Bd.exec
  have hby := Bd.bytes
  have hml : c.maxLocals = 3 := hml0
  have hown : s.vm.findClass "java/lang/StringLatin1" = some m.cls := findClass_of_methodNamed Bd.named
  have hnm := (name_of_methodNamed Bd.named Bd.method).1
  have X0 : Stand p l e ({ frames := 0, cells := 0, slots := 0, locals := 0 } : Room) s m #[(.ref a1), (.ref a2)] below meth c s₁ [] 0 0 := Stand.of_body Bd
  have e0 : s₁.heap = h0 := by rw [← hh, Bd.state]; rfl
  have N0 := Fr.nil n0
  refine of_go (ef_rmLe8_9 m a1 a2) ?_
  refine Go.step (T' := s₁) (f' := (mkF m 1 #[.val (.ref a1), .val (.ref a2), .unset] [(.ref a1)])) (fun _ k => XS.aloadN X0.here hx rfl (hb hby d12_0) rfl rfl k) ?_
  obtain ⟨cl1, Ar1, qc1, Sz1, Nn1, Hs1, Gf1⟩ := id V_a1
  have hlen1 := X0.arraylength hx (by rw [e0]; exact Ar1.1) (State.isArrayOf_alike hZ.alike Ar1.2.1) (g := (mkF m 1 #[.val (.ref a1), .val (.ref a2), .unset] [(.ref a1)])) rfl rfl (hb hby d12_1)
  rw [len_of Sz1 Nn1] at hlen1
  refine Go.step (T' := s₁) (f' := (mkF m 2 #[.val (.ref a1), .val (.ref a2), .unset] [(.int (8 : Int32))])) (fun _ k => hlen1 _ k) ?_
  refine Go.step (T' := s₁) (f' := (mkF m 3 #[.val (.ref a1), .val (.ref a2), .unset] [(.ref a2), (.int (8 : Int32))])) (fun _ k => XS.aloadN X0.here hx rfl (hb hby d12_2) rfl rfl k) ?_
  obtain ⟨cl2, Ar2, qc2, Sz2, Nn2, Hs2, Gf2⟩ := id V_a2
  have hlen2 := X0.arraylength hx (by rw [e0]; exact Ar2.1) (State.isArrayOf_alike hZ.alike Ar2.2.1) (g := (mkF m 3 #[.val (.ref a1), .val (.ref a2), .unset] [(.ref a2), (.int (8 : Int32))])) rfl rfl (hb hby d12_3)
  rw [len_of Sz2 Nn2] at hlen2
  refine Go.step (T' := s₁) (f' := (mkF m 4 #[.val (.ref a1), .val (.ref a2), .unset] [(.int (9 : Int32)), (.int (8 : Int32))])) (fun _ k => hlen2 _ k) ?_
  refine Go.step (T' := s₁) (f' := (mkF m 34 #[.val (.ref a1), .val (.ref a2), .unset] [])) (fun _ k => XS.icmpYes X0.here hx rfl (pc0 := 4) (pc' := 34) rfl (hb hby d12_4) rfl (feq (by decide : ¬ ((8 : Int32) = (9 : Int32)))).2 (by decide) (by decide) k) ?_
  refine Go.step (T' := s₁) (f' := (mkF m 35 #[.val (.ref a1), .val (.ref a2), .unset] [(.int (0 : Int32))])) (fun _ k => XS.iconst X0.here hx rfl (hb hby d12_34) k) ?_
  refine goN X0 hx (t := .boolean) Bd.returns (by simp) Bd.notSynchronized (hb hby d12_35) ?_ (by decide) (by decide)
  show Q_rmLe8_9 Z a1 a2 k1 k2 x0 x1 x2 x3 x4 x5 x6 x7 y0 y1 y2 y3 y4 y5 y6 y7 y8 h0 n0 _ s₁.heap _
  rw [e0]
  exact ⟨rfl, N0, rfl⟩
theorem d11_54 : decode jdk_42_method_66_code 54 = .ok (.iconst 0, 1) := by decide +kernel
theorem ef_rmSe8_9 (m : MethodId) (a1 : Addr) (a2 : Addr) : entryFrame m #[(.ref a1), (.ref a2)] 3 = mkF m 0 #[.val (.ref a1), .val (.ref a2), .unset] [] := by first | (simp [entryFrame, mkF, argsToLocals, Value.category]; done) | rfl
def Q_rmSe8_9 (Z : State) (a1 : Addr) (a2 : Addr) (cs : Int32) (v1 : Addr) (v2 : Addr) (k1 : ClassId) (k2 : ClassId) (x0 : Int32) (x1 : Int32) (x2 : Int32) (x3 : Int32) (x4 : Int32) (x5 : Int32) (x6 : Int32) (x7 : Int32) (y0 : Int32) (y1 : Int32) (y2 : Int32) (y3 : Int32) (y4 : Int32) (y5 : Int32) (y6 : Int32) (y7 : Int32) (y8 : Int32) (h0 : Heap) (n0 : Nat) (rv : Option Value) (hq : Heap) (Lq : List Loc) : Prop := rv = some (.int (0 : Int32)) ∧ Fr n0 Lq ∧ hq = h0
set_option maxRecDepth 65536 in
set_option maxHeartbeats 40000000 in
theorem rmSe8_9 (l : Launch) (Z : State) (a0 : Array Value) (hw : ∀ d ∈ tables_1, d.before a0 Z = true) (ws : List Jvm.Cond) (a1 : Addr) (a2 : Addr) (cs : Int32) (v1 : Addr) (v2 : Addr) (k1 : ClassId) (k2 : ClassId) (x0 : Int32) (x1 : Int32) (x2 : Int32) (x3 : Int32) (x4 : Int32) (x5 : Int32) (x6 : Int32) (x7 : Int32) (y0 : Int32) (y1 : Int32) (y2 : Int32) (y3 : Int32) (y4 : Int32) (y5 : Int32) (y6 : Int32) (y7 : Int32) (y8 : Int32) (h0 : Heap) (n0 : Nat) (Z0 : n0 ≤ h0.size) (E_a1 : Exa Z h0 a1 "java/lang/String") (F_coder_a1 : Fld Z h0 a1 "java/lang/String" "coder" "B" (.int (0 : Int32))) (F_value_a1 : Fld Z h0 a1 "java/lang/String" "value" "[B" (.ref v1)) (V_v1 : Arv Z h0 v1 k1 .byte (8 : Int32) [(.int x0), (.int x1), (.int x2), (.int x3), (.int x4), (.int x5), (.int x6), (.int x7)] (.int (0 : Int32))) (E_a2 : Exa Z h0 a2 "java/lang/String") (F_coder_a2 : Fld Z h0 a2 "java/lang/String" "coder" "B" (.int (0 : Int32))) (F_value_a2 : Fld Z h0 a2 "java/lang/String" "value" "[B" (.ref v2)) (V_v2 : Arv Z h0 v2 k2 .byte (9 : Int32) [(.int y0), (.int y1), (.int y2), (.int y3), (.int y4), (.int y5), (.int y6), (.int y7), (.int y8)] (.int (0 : Int32))) (O0 : Old Z n0 h0) (S_COMPACT_STRINGS : Sta Z Z.heap "java/lang/String" "COMPACT_STRINGS" "Z" (.int cs)) (hcs : ¬ cs = (0 : Int32)) (hne : a1 ≠ a2) :
    MetFree l (⟨"java/lang/String", "equals", "(Ljava/lang/Object;)Z"⟩ : MethodName) (head1 (Jvm.Cond.code (⟨"java/lang/String", "equals", "(Ljava/lang/Object;)Z"⟩ : MethodName) jdk_42_method_66_code 3 (some .boolean) :: ws) ({ frames := 1, cells := 0, slots := 0, locals := 14 } : Room)) (fun a U => a = #[(.ref a1), (.ref a2)] ∧ Z.Warmed39 U.vm ∧ U.heap = h0) (fun _ _ _ _ _ => True) (fun _ U o U' => ∃ rv Lq, o = .returned rv ∧ Q_rmSe8_9 Z a1 a2 cs v1 v2 k1 k2 x0 x1 x2 x3 x4 x5 x6 x7 y0 y1 y2 y3 y4 y5 y6 y7 y8 h0 n0 rv U'.heap Lq ∧ FrameEnd U o U' Lq ({ frames := 1, cells := 0, slots := 0, locals := 14 } : Room).cells ({ frames := 1, cells := 0, slots := 0, locals := 14 } : Room).slots) := by
  refine MetFree.of_bodySF (plainFor_of_name pn_2) hisR ?_
  intro p e s m args below meth c s₁ Bd hml0 hP hK
  obtain ⟨rfl, hZ, hh⟩ := hP
  have hx := Bd.exec
  have hby := Bd.bytes
  have hml : c.maxLocals = 3 := hml0
  have hown : s.vm.findClass "java/lang/String" = some m.cls := findClass_of_methodNamed Bd.named
  have hnm := (name_of_methodNamed Bd.named Bd.method).1
  have X0 : Stand p l e ({ frames := 1, cells := 0, slots := 0, locals := 14 } : Room) s m #[(.ref a1), (.ref a2)] below meth c s₁ [] 0 0 := Stand.of_body Bd
  have e0 : s₁.heap = h0 := by rw [← hh, Bd.state]; rfl
  have N0 := Fr.nil n0
  refine of_go (ef_rmSe8_9 m a1 a2) ?_
  refine Go.step (T' := s₁) (f' := (mkF m 1 #[.val (.ref a1), .val (.ref a2), .unset] [(.ref a1)])) (fun _ k => XS.aloadN X0.here hx rfl (hb hby d11_0) rfl rfl k) ?_
  refine Go.step (T' := s₁) (f' := (mkF m 2 #[.val (.ref a1), .val (.ref a2), .unset] [(.ref a2), (.ref a1)])) (fun _ k => XS.aloadN X0.here hx rfl (hb hby d11_1) rfl rfl k) ?_
  refine Go.step (T' := s₁) (f' := (mkF m 7 #[.val (.ref a1), .val (.ref a2), .unset] [])) (fun _ k => Jvm.RoadKit.acmp (g := (mkF m 2 #[.val (.ref a1), .val (.ref a2), .unset] [(.ref a2), (.ref a1)])) X0 hx rfl rfl rfl (pc0 := 2) (pc' := 7) (same := false) rfl (hb hby d11_2) rfl (decide_eq_false fun q => hne (Value.ref.inj q)) (by decide) (by decide) k) ?_
  refine Go.step (T' := s₁) (f' := (mkF m 8 #[.val (.ref a1), .val (.ref a2), .unset] [(.ref a2)])) (fun _ k => XS.aloadN X0.here hx rfl (hb hby d11_7) rfl rfl k) ?_
  obtain ⟨T1, X1, e1, st1⟩ := instY X0 hx hZ hown (hw _ (List.mem_of_getElem? (i := 74) rfl)) e0 (Ins.self E_a2) (g := (mkF m 8 #[.val (.ref a1), .val (.ref a2), .unset] [(.ref a2)])) rfl rfl (hb hby d11_8)
  refine Go.step (T' := T1) (f' := (mkF m 11 #[.val (.ref a1), .val (.ref a2), .unset] [(.int (1 : Int32))])) st1 ?_
  refine Go.step (T' := T1) (f' := (mkF m 14 #[.val (.ref a1), .val (.ref a2), .unset] [])) (fun _ k => XS.ifNo X1.here hx rfl (hb hby d11_11) rfl ((if0 _ _).trans (feq (by decide : ¬ ((1 : Int32) = (0 : Int32)))).1) k) ?_
  refine Go.step (T' := T1) (f' := (mkF m 15 #[.val (.ref a1), .val (.ref a2), .unset] [(.ref a2)])) (fun _ k => XS.aloadN X1.here hx rfl (hb hby d11_14) rfl rfl k) ?_
  obtain ⟨T2, X2, e2, st2⟩ := castY X1 hx hZ hown (hw _ (List.mem_of_getElem? (i := 74) rfl)) e1 (Ins.self E_a2) (g := (mkF m 15 #[.val (.ref a1), .val (.ref a2), .unset] [(.ref a2)])) rfl rfl (hb hby d11_15)
  refine Go.step (T' := T2) (f' := (mkF m 18 #[.val (.ref a1), .val (.ref a2), .unset] [(.ref a2)])) st2 ?_
  refine Go.step (T' := T2) (f' := (mkF m 19 #[.val (.ref a1), .val (.ref a2), .val (.ref a2)] [])) (fun _ k => XS.astoreN X2.here hx rfl (hb hby d11_18) rfl rfl (l' := #[.val (.ref a1), .val (.ref a2), .val (.ref a2)]) rfl k) ?_
  obtain ⟨T3, X3, e3, st3⟩ := getS2 X2 hx hZ hown (host := "") (Or.inl (hw _ (List.mem_of_getElem? (i := 18) rfl))) Via.refl e2 (S_COMPACT_STRINGS.ext O0.2) (g := (mkF m 19 #[.val (.ref a1), .val (.ref a2), .val (.ref a2)] [])) rfl (hb hby d11_19)
  refine Go.step (T' := T3) (f' := (mkF m 22 #[.val (.ref a1), .val (.ref a2), .val (.ref a2)] [(.int cs)])) st3 ?_
  refine Go.step (T' := T3) (f' := (mkF m 25 #[.val (.ref a1), .val (.ref a2), .val (.ref a2)] [])) (fun _ k => XS.ifNo X3.here hx rfl (hb hby d11_22) rfl ((if0 _ _).trans (feq hcs).1) k) ?_
  refine Go.step (T' := T3) (f' := (mkF m 26 #[.val (.ref a1), .val (.ref a2), .val (.ref a2)] [(.ref a1)])) (fun _ k => XS.aloadN X3.here hx rfl (hb hby d11_25) rfl rfl k) ?_
  obtain ⟨T4, X4, e4, st4⟩ := getF X3 hx hZ hown (host := "") (Or.inl (hw _ (List.mem_of_getElem? (i := 30) rfl))) Via.refl e3 F_coder_a1 (g := (mkF m 26 #[.val (.ref a1), .val (.ref a2), .val (.ref a2)] [(.ref a1)])) rfl rfl (hb hby d11_26)
  refine Go.step (T' := T4) (f' := (mkF m 29 #[.val (.ref a1), .val (.ref a2), .val (.ref a2)] [(.int (0 : Int32))])) st4 ?_
  refine Go.step (T' := T4) (f' := (mkF m 30 #[.val (.ref a1), .val (.ref a2), .val (.ref a2)] [(.ref a2), (.int (0 : Int32))])) (fun _ k => XS.aloadN X4.here hx rfl (hb hby d11_29) rfl rfl k) ?_
  obtain ⟨T5, X5, e5, st5⟩ := getF X4 hx hZ hown (host := "") (Or.inl (hw _ (List.mem_of_getElem? (i := 30) rfl))) Via.refl e4 F_coder_a2 (g := (mkF m 30 #[.val (.ref a1), .val (.ref a2), .val (.ref a2)] [(.ref a2), (.int (0 : Int32))])) rfl rfl (hb hby d11_30)
  refine Go.step (T' := T5) (f' := (mkF m 33 #[.val (.ref a1), .val (.ref a2), .val (.ref a2)] [(.int (0 : Int32)), (.int (0 : Int32))])) st5 ?_
  refine Go.step (T' := T5) (f' := (mkF m 36 #[.val (.ref a1), .val (.ref a2), .val (.ref a2)] [])) (fun _ k => XS.icmpNo X5.here hx rfl (hb hby d11_33) rfl (teq (by decide : (0 : Int32) = (0 : Int32))).2 k) ?_
  refine Go.step (T' := T5) (f' := (mkF m 37 #[.val (.ref a1), .val (.ref a2), .val (.ref a2)] [(.ref a1)])) (fun _ k => XS.aloadN X5.here hx rfl (hb hby d11_36) rfl rfl k) ?_
  obtain ⟨T6, X6, e6, st6⟩ := getF X5 hx hZ hown (host := "") (Or.inl (hw _ (List.mem_of_getElem? (i := 32) rfl))) Via.refl e5 F_value_a1 (g := (mkF m 37 #[.val (.ref a1), .val (.ref a2), .val (.ref a2)] [(.ref a1)])) rfl rfl (hb hby d11_37)
  refine Go.step (T' := T6) (f' := (mkF m 40 #[.val (.ref a1), .val (.ref a2), .val (.ref a2)] [(.ref v1)])) st6 ?_
  refine Go.step (T' := T6) (f' := (mkF m 41 #[.val (.ref a1), .val (.ref a2), .val (.ref a2)] [(.ref a2), (.ref v1)])) (fun _ k => XS.aloadN X6.here hx rfl (hb hby d11_40) rfl rfl k) ?_
  obtain ⟨T7, X7, e7, st7⟩ := getF X6 hx hZ hown (host := "") (Or.inl (hw _ (List.mem_of_getElem? (i := 32) rfl))) Via.refl e6 F_value_a2 (g := (mkF m 41 #[.val (.ref a1), .val (.ref a2), .val (.ref a2)] [(.ref a2), (.ref v1)])) rfl rfl (hb hby d11_41)
  refine Go.step (T' := T7) (f' := (mkF m 44 #[.val (.ref a1), .val (.ref a2), .val (.ref a2)] [(.ref v2), (.ref v1)])) st7 ?_
  obtain ⟨_, _, ⟨T8, L8, kk8, nn8⟩, -, X8, ⟨Lc8, hQ8, lq8, yq8, zq8⟩, st8⟩ := Jvm.LawKit.callS X7 hx (y := (⟨"java/lang/StringLatin1", "equals", "([B[B)Z"⟩ : MethodName)) hown (mvT hZ (hw _ (List.mem_of_getElem? (i := 75) rfl))) (mvT hZ (hw _ (List.mem_of_getElem? (i := 76) rfl))) (mvT hZ (hw _ (List.mem_of_getElem? (i := 77) rfl))) (mvT hZ (hw _ (List.mem_of_getElem? (i := 78) rfl))) (by decide) (backOf (W := 0) (rmLe8_9 l Z a0 hw [] v1 v2 k1 k2 x0 x1 x2 x3 x4 x5 x6 x7 y0 y1 y2 y3 y4 y5 y6 y7 y8 h0 n0 Z0 V_v1 V_v2) hZ (hw _ (List.mem_of_getElem? (i := 78) rfl)) (hw _ (List.mem_of_getElem? (i := 77) rfl)) (by decide) (by decide)) (g := (mkF m 44 #[.val (.ref a1), .val (.ref a2), .val (.ref a2)] [(.ref v2), (.ref v1)])) rfl (by rw [hml]; rfl) (argsL := [(.ref v1), (.ref v2)]) (rest := []) (lenOf pd_4 rfl) rfl (by show 2 * 0 + _ ≤ _; exact Nat.le_of_eq rfl) (hb hby d11_44) (fun _ _ => ⟨rfl, e7, (by decide : 0 + 0 ≤ _), (by decide : 0 + 0 ≤ _)⟩)
  dsimp only [Pt.U, Pt.locs, Pt.cells, Pt.slots] at X8 lq8 yq8 zq8 st8 hQ8
  subst yq8 zq8
  obtain ⟨rfl, Nq8, eh8⟩ := hQ8
  have N8 : Fr n0 L8 := by rw [lq8]; exact Fr.app N0 Nq8
  refine Go.step (T' := T8) (f' := (mkF m 47 #[.val (.ref a1), .val (.ref a2), .val (.ref a2)] [(.int (0 : Int32))])) st8 ?_
  refine Go.step (T' := T8) (f' := (mkF m 54 #[.val (.ref a1), .val (.ref a2), .val (.ref a2)] [])) (fun _ k => XS.ifYes X8.here hx rfl (pc0 := 47) (pc' := 54) rfl (hb hby d11_47) rfl ((if0 _ _).trans (teq (by decide : (0 : Int32) = (0 : Int32))).1) (by decide) (by decide) k) ?_
  refine Go.step (T' := T8) (f' := (mkF m 55 #[.val (.ref a1), .val (.ref a2), .val (.ref a2)] [(.int (0 : Int32))])) (fun _ k => XS.iconst X8.here hx rfl (hb hby d11_54) k) ?_
  refine goN X8 hx (t := .boolean) Bd.returns (by simp) Bd.notSynchronized (hb hby d11_55) ?_ (by decide) (by decide)
  show Q_rmSe8_9 Z a1 a2 cs v1 v2 k1 k2 x0 x1 x2 x3 x4 x5 x6 x7 y0 y1 y2 y3 y4 y5 y6 y7 y8 h0 n0 _ T8.heap _
  rw [eh8]
  exact ⟨rfl, N8, rfl⟩
theorem ef_rmLe8_11 (m : MethodId) (a1 : Addr) (a2 : Addr) : entryFrame m #[(.ref a1), (.ref a2)] 3 = mkF m 0 #[.val (.ref a1), .val (.ref a2), .unset] [] := by first | (simp [entryFrame, mkF, argsToLocals, Value.category]; done) | rfl
def Q_rmLe8_11 (Z : State) (a1 : Addr) (a2 : Addr) (k1 : ClassId) (k2 : ClassId) (x0 : Int32) (x1 : Int32) (x2 : Int32) (x3 : Int32) (x4 : Int32) (x5 : Int32) (x6 : Int32) (x7 : Int32) (y0 : Int32) (y1 : Int32) (y2 : Int32) (y3 : Int32) (y4 : Int32) (y5 : Int32) (y6 : Int32) (y7 : Int32) (y8 : Int32) (y9 : Int32) (y10 : Int32) (h0 : Heap) (n0 : Nat) (rv : Option Value) (hq : Heap) (Lq : List Loc) : Prop := rv = some (.int (0 : Int32)) ∧ Fr n0 Lq ∧ hq = h0
set_option maxRecDepth 65536 in
set_option maxHeartbeats 40000000 in
theorem rmLe8_11 (l : Launch) (Z : State) (a0 : Array Value) (hw : ∀ d ∈ tables_1, d.before a0 Z = true) (ws : List Jvm.Cond) (a1 : Addr) (a2 : Addr) (k1 : ClassId) (k2 : ClassId) (x0 : Int32) (x1 : Int32) (x2 : Int32) (x3 : Int32) (x4 : Int32) (x5 : Int32) (x6 : Int32) (x7 : Int32) (y0 : Int32) (y1 : Int32) (y2 : Int32) (y3 : Int32) (y4 : Int32) (y5 : Int32) (y6 : Int32) (y7 : Int32) (y8 : Int32) (y9 : Int32) (y10 : Int32) (h0 : Heap) (n0 : Nat) (Z0 : n0 ≤ h0.size) (V_a1 : Arv Z h0 a1 k1 .byte (8 : Int32) [(.int x0), (.int x1), (.int x2), (.int x3), (.int x4), (.int x5), (.int x6), (.int x7)] (.int (0 : Int32))) (V_a2 : Arv Z h0 a2 k2 .byte (11 : Int32) [(.int y0), (.int y1), (.int y2), (.int y3), (.int y4), (.int y5), (.int y6), (.int y7), (.int y8), (.int y9), (.int y10)] (.int (0 : Int32))) :
    MetFree l (⟨"java/lang/StringLatin1", "equals", "([B[B)Z"⟩ : MethodName) (head1 (Jvm.Cond.code (⟨"java/lang/StringLatin1", "equals", "([B[B)Z"⟩ : MethodName) jdk_43_method_13_code 3 (some .boolean) :: ws) ({ frames := 0, cells := 0, slots := 0, locals := 0 } : Room)) (fun a U => a = #[(.ref a1), (.ref a2)] ∧ Z.Warmed39 U.vm ∧ U.heap = h0) (fun _ _ _ _ _ => True) (fun _ U o U' => ∃ rv Lq, o = .returned rv ∧ Q_rmLe8_11 Z a1 a2 k1 k2 x0 x1 x2 x3 x4 x5 x6 x7 y0 y1 y2 y3 y4 y5 y6 y7 y8 y9 y10 h0 n0 rv U'.heap Lq ∧ FrameEnd U o U' Lq ({ frames := 0, cells := 0, slots := 0, locals := 0 } : Room).cells ({ frames := 0, cells := 0, slots := 0, locals := 0 } : Room).slots) := by
  refine MetFree.of_bodySF (plainFor_of_name pn_12) hisR ?_
  intro p e s m args below meth c s₁ Bd hml0 hP hK
  obtain ⟨rfl, hZ, hh⟩ := hP
  have hx := Bd.exec
  have hby := Bd.bytes
  have hml : c.maxLocals = 3 := hml0
  have hown : s.vm.findClass "java/lang/StringLatin1" = some m.cls := findClass_of_methodNamed Bd.named
  have hnm := (name_of_methodNamed Bd.named Bd.method).1
  have X0 : Stand p l e ({ frames := 0, cells := 0, slots := 0, locals := 0 } : Room) s m #[(.ref a1), (.ref a2)] below meth c s₁ [] 0 0 := Stand.of_body Bd
  have e0 : s₁.heap = h0 := by rw [← hh, Bd.state]; rfl
  have N0 := Fr.nil n0
  refine of_go (ef_rmLe8_11 m a1 a2) ?_
  refine Go.step (T' := s₁) (f' := (mkF m 1 #[.val (.ref a1), .val (.ref a2), .unset] [(.ref a1)])) (fun _ k => XS.aloadN X0.here hx rfl (hb hby d12_0) rfl rfl k) ?_
  obtain ⟨cl1, Ar1, qc1, Sz1, Nn1, Hs1, Gf1⟩ := id V_a1
  have hlen1 := X0.arraylength hx (by rw [e0]; exact Ar1.1) (State.isArrayOf_alike hZ.alike Ar1.2.1) (g := (mkF m 1 #[.val (.ref a1), .val (.ref a2), .unset] [(.ref a1)])) rfl rfl (hb hby d12_1)
  rw [len_of Sz1 Nn1] at hlen1
  refine Go.step (T' := s₁) (f' := (mkF m 2 #[.val (.ref a1), .val (.ref a2), .unset] [(.int (8 : Int32))])) (fun _ k => hlen1 _ k) ?_
  refine Go.step (T' := s₁) (f' := (mkF m 3 #[.val (.ref a1), .val (.ref a2), .unset] [(.ref a2), (.int (8 : Int32))])) (fun _ k => XS.aloadN X0.here hx rfl (hb hby d12_2) rfl rfl k) ?_
  obtain ⟨cl2, Ar2, qc2, Sz2, Nn2, Hs2, Gf2⟩ := id V_a2
  have hlen2 := X0.arraylength hx (by rw [e0]; exact Ar2.1) (State.isArrayOf_alike hZ.alike Ar2.2.1) (g := (mkF m 3 #[.val (.ref a1), .val (.ref a2), .unset] [(.ref a2), (.int (8 : Int32))])) rfl rfl (hb hby d12_3)
  rw [len_of Sz2 Nn2] at hlen2
  refine Go.step (T' := s₁) (f' := (mkF m 4 #[.val (.ref a1), .val (.ref a2), .unset] [(.int (11 : Int32)), (.int (8 : Int32))])) (fun _ k => hlen2 _ k) ?_
  refine Go.step (T' := s₁) (f' := (mkF m 34 #[.val (.ref a1), .val (.ref a2), .unset] [])) (fun _ k => XS.icmpYes X0.here hx rfl (pc0 := 4) (pc' := 34) rfl (hb hby d12_4) rfl (feq (by decide : ¬ ((8 : Int32) = (11 : Int32)))).2 (by decide) (by decide) k) ?_
  refine Go.step (T' := s₁) (f' := (mkF m 35 #[.val (.ref a1), .val (.ref a2), .unset] [(.int (0 : Int32))])) (fun _ k => XS.iconst X0.here hx rfl (hb hby d12_34) k) ?_
  refine goN X0 hx (t := .boolean) Bd.returns (by simp) Bd.notSynchronized (hb hby d12_35) ?_ (by decide) (by decide)
  show Q_rmLe8_11 Z a1 a2 k1 k2 x0 x1 x2 x3 x4 x5 x6 x7 y0 y1 y2 y3 y4 y5 y6 y7 y8 y9 y10 h0 n0 _ s₁.heap _
  rw [e0]
  exact ⟨rfl, N0, rfl⟩
theorem ef_rmSe8_11 (m : MethodId) (a1 : Addr) (a2 : Addr) : entryFrame m #[(.ref a1), (.ref a2)] 3 = mkF m 0 #[.val (.ref a1), .val (.ref a2), .unset] [] := by first | (simp [entryFrame, mkF, argsToLocals, Value.category]; done) | rfl
def Q_rmSe8_11 (Z : State) (a1 : Addr) (a2 : Addr) (cs : Int32) (v1 : Addr) (v2 : Addr) (k1 : ClassId) (k2 : ClassId) (x0 : Int32) (x1 : Int32) (x2 : Int32) (x3 : Int32) (x4 : Int32) (x5 : Int32) (x6 : Int32) (x7 : Int32) (y0 : Int32) (y1 : Int32) (y2 : Int32) (y3 : Int32) (y4 : Int32) (y5 : Int32) (y6 : Int32) (y7 : Int32) (y8 : Int32) (y9 : Int32) (y10 : Int32) (h0 : Heap) (n0 : Nat) (rv : Option Value) (hq : Heap) (Lq : List Loc) : Prop := rv = some (.int (0 : Int32)) ∧ Fr n0 Lq ∧ hq = h0
set_option maxRecDepth 65536 in
set_option maxHeartbeats 40000000 in
theorem rmSe8_11 (l : Launch) (Z : State) (a0 : Array Value) (hw : ∀ d ∈ tables_1, d.before a0 Z = true) (ws : List Jvm.Cond) (a1 : Addr) (a2 : Addr) (cs : Int32) (v1 : Addr) (v2 : Addr) (k1 : ClassId) (k2 : ClassId) (x0 : Int32) (x1 : Int32) (x2 : Int32) (x3 : Int32) (x4 : Int32) (x5 : Int32) (x6 : Int32) (x7 : Int32) (y0 : Int32) (y1 : Int32) (y2 : Int32) (y3 : Int32) (y4 : Int32) (y5 : Int32) (y6 : Int32) (y7 : Int32) (y8 : Int32) (y9 : Int32) (y10 : Int32) (h0 : Heap) (n0 : Nat) (Z0 : n0 ≤ h0.size) (E_a1 : Exa Z h0 a1 "java/lang/String") (F_coder_a1 : Fld Z h0 a1 "java/lang/String" "coder" "B" (.int (0 : Int32))) (F_value_a1 : Fld Z h0 a1 "java/lang/String" "value" "[B" (.ref v1)) (V_v1 : Arv Z h0 v1 k1 .byte (8 : Int32) [(.int x0), (.int x1), (.int x2), (.int x3), (.int x4), (.int x5), (.int x6), (.int x7)] (.int (0 : Int32))) (E_a2 : Exa Z h0 a2 "java/lang/String") (F_coder_a2 : Fld Z h0 a2 "java/lang/String" "coder" "B" (.int (0 : Int32))) (F_value_a2 : Fld Z h0 a2 "java/lang/String" "value" "[B" (.ref v2)) (V_v2 : Arv Z h0 v2 k2 .byte (11 : Int32) [(.int y0), (.int y1), (.int y2), (.int y3), (.int y4), (.int y5), (.int y6), (.int y7), (.int y8), (.int y9), (.int y10)] (.int (0 : Int32))) (O0 : Old Z n0 h0) (S_COMPACT_STRINGS : Sta Z Z.heap "java/lang/String" "COMPACT_STRINGS" "Z" (.int cs)) (hcs : ¬ cs = (0 : Int32)) (hne : a1 ≠ a2) :
    MetFree l (⟨"java/lang/String", "equals", "(Ljava/lang/Object;)Z"⟩ : MethodName) (head1 (Jvm.Cond.code (⟨"java/lang/String", "equals", "(Ljava/lang/Object;)Z"⟩ : MethodName) jdk_42_method_66_code 3 (some .boolean) :: ws) ({ frames := 1, cells := 0, slots := 0, locals := 14 } : Room)) (fun a U => a = #[(.ref a1), (.ref a2)] ∧ Z.Warmed39 U.vm ∧ U.heap = h0) (fun _ _ _ _ _ => True) (fun _ U o U' => ∃ rv Lq, o = .returned rv ∧ Q_rmSe8_11 Z a1 a2 cs v1 v2 k1 k2 x0 x1 x2 x3 x4 x5 x6 x7 y0 y1 y2 y3 y4 y5 y6 y7 y8 y9 y10 h0 n0 rv U'.heap Lq ∧ FrameEnd U o U' Lq ({ frames := 1, cells := 0, slots := 0, locals := 14 } : Room).cells ({ frames := 1, cells := 0, slots := 0, locals := 14 } : Room).slots) := by
  refine MetFree.of_bodySF (plainFor_of_name pn_2) hisR ?_
  intro p e s m args below meth c s₁ Bd hml0 hP hK
  obtain ⟨rfl, hZ, hh⟩ := hP
  have hx := Bd.exec
  have hby := Bd.bytes
  have hml : c.maxLocals = 3 := hml0
  have hown : s.vm.findClass "java/lang/String" = some m.cls := findClass_of_methodNamed Bd.named
  have hnm := (name_of_methodNamed Bd.named Bd.method).1
  have X0 : Stand p l e ({ frames := 1, cells := 0, slots := 0, locals := 14 } : Room) s m #[(.ref a1), (.ref a2)] below meth c s₁ [] 0 0 := Stand.of_body Bd
  have e0 : s₁.heap = h0 := by rw [← hh, Bd.state]; rfl
  have N0 := Fr.nil n0
  refine of_go (ef_rmSe8_11 m a1 a2) ?_
  refine Go.step (T' := s₁) (f' := (mkF m 1 #[.val (.ref a1), .val (.ref a2), .unset] [(.ref a1)])) (fun _ k => XS.aloadN X0.here hx rfl (hb hby d11_0) rfl rfl k) ?_
  refine Go.step (T' := s₁) (f' := (mkF m 2 #[.val (.ref a1), .val (.ref a2), .unset] [(.ref a2), (.ref a1)])) (fun _ k => XS.aloadN X0.here hx rfl (hb hby d11_1) rfl rfl k) ?_
  refine Go.step (T' := s₁) (f' := (mkF m 7 #[.val (.ref a1), .val (.ref a2), .unset] [])) (fun _ k => Jvm.RoadKit.acmp (g := (mkF m 2 #[.val (.ref a1), .val (.ref a2), .unset] [(.ref a2), (.ref a1)])) X0 hx rfl rfl rfl (pc0 := 2) (pc' := 7) (same := false) rfl (hb hby d11_2) rfl (decide_eq_false fun q => hne (Value.ref.inj q)) (by decide) (by decide) k) ?_
  refine Go.step (T' := s₁) (f' := (mkF m 8 #[.val (.ref a1), .val (.ref a2), .unset] [(.ref a2)])) (fun _ k => XS.aloadN X0.here hx rfl (hb hby d11_7) rfl rfl k) ?_
  obtain ⟨T1, X1, e1, st1⟩ := instY X0 hx hZ hown (hw _ (List.mem_of_getElem? (i := 74) rfl)) e0 (Ins.self E_a2) (g := (mkF m 8 #[.val (.ref a1), .val (.ref a2), .unset] [(.ref a2)])) rfl rfl (hb hby d11_8)
  refine Go.step (T' := T1) (f' := (mkF m 11 #[.val (.ref a1), .val (.ref a2), .unset] [(.int (1 : Int32))])) st1 ?_
  refine Go.step (T' := T1) (f' := (mkF m 14 #[.val (.ref a1), .val (.ref a2), .unset] [])) (fun _ k => XS.ifNo X1.here hx rfl (hb hby d11_11) rfl ((if0 _ _).trans (feq (by decide : ¬ ((1 : Int32) = (0 : Int32)))).1) k) ?_
  refine Go.step (T' := T1) (f' := (mkF m 15 #[.val (.ref a1), .val (.ref a2), .unset] [(.ref a2)])) (fun _ k => XS.aloadN X1.here hx rfl (hb hby d11_14) rfl rfl k) ?_
  obtain ⟨T2, X2, e2, st2⟩ := castY X1 hx hZ hown (hw _ (List.mem_of_getElem? (i := 74) rfl)) e1 (Ins.self E_a2) (g := (mkF m 15 #[.val (.ref a1), .val (.ref a2), .unset] [(.ref a2)])) rfl rfl (hb hby d11_15)
  refine Go.step (T' := T2) (f' := (mkF m 18 #[.val (.ref a1), .val (.ref a2), .unset] [(.ref a2)])) st2 ?_
  refine Go.step (T' := T2) (f' := (mkF m 19 #[.val (.ref a1), .val (.ref a2), .val (.ref a2)] [])) (fun _ k => XS.astoreN X2.here hx rfl (hb hby d11_18) rfl rfl (l' := #[.val (.ref a1), .val (.ref a2), .val (.ref a2)]) rfl k) ?_
  obtain ⟨T3, X3, e3, st3⟩ := getS2 X2 hx hZ hown (host := "") (Or.inl (hw _ (List.mem_of_getElem? (i := 18) rfl))) Via.refl e2 (S_COMPACT_STRINGS.ext O0.2) (g := (mkF m 19 #[.val (.ref a1), .val (.ref a2), .val (.ref a2)] [])) rfl (hb hby d11_19)
  refine Go.step (T' := T3) (f' := (mkF m 22 #[.val (.ref a1), .val (.ref a2), .val (.ref a2)] [(.int cs)])) st3 ?_
  refine Go.step (T' := T3) (f' := (mkF m 25 #[.val (.ref a1), .val (.ref a2), .val (.ref a2)] [])) (fun _ k => XS.ifNo X3.here hx rfl (hb hby d11_22) rfl ((if0 _ _).trans (feq hcs).1) k) ?_
  refine Go.step (T' := T3) (f' := (mkF m 26 #[.val (.ref a1), .val (.ref a2), .val (.ref a2)] [(.ref a1)])) (fun _ k => XS.aloadN X3.here hx rfl (hb hby d11_25) rfl rfl k) ?_
  obtain ⟨T4, X4, e4, st4⟩ := getF X3 hx hZ hown (host := "") (Or.inl (hw _ (List.mem_of_getElem? (i := 30) rfl))) Via.refl e3 F_coder_a1 (g := (mkF m 26 #[.val (.ref a1), .val (.ref a2), .val (.ref a2)] [(.ref a1)])) rfl rfl (hb hby d11_26)
  refine Go.step (T' := T4) (f' := (mkF m 29 #[.val (.ref a1), .val (.ref a2), .val (.ref a2)] [(.int (0 : Int32))])) st4 ?_
  refine Go.step (T' := T4) (f' := (mkF m 30 #[.val (.ref a1), .val (.ref a2), .val (.ref a2)] [(.ref a2), (.int (0 : Int32))])) (fun _ k => XS.aloadN X4.here hx rfl (hb hby d11_29) rfl rfl k) ?_
  obtain ⟨T5, X5, e5, st5⟩ := getF X4 hx hZ hown (host := "") (Or.inl (hw _ (List.mem_of_getElem? (i := 30) rfl))) Via.refl e4 F_coder_a2 (g := (mkF m 30 #[.val (.ref a1), .val (.ref a2), .val (.ref a2)] [(.ref a2), (.int (0 : Int32))])) rfl rfl (hb hby d11_30)
  refine Go.step (T' := T5) (f' := (mkF m 33 #[.val (.ref a1), .val (.ref a2), .val (.ref a2)] [(.int (0 : Int32)), (.int (0 : Int32))])) st5 ?_
  refine Go.step (T' := T5) (f' := (mkF m 36 #[.val (.ref a1), .val (.ref a2), .val (.ref a2)] [])) (fun _ k => XS.icmpNo X5.here hx rfl (hb hby d11_33) rfl (teq (by decide : (0 : Int32) = (0 : Int32))).2 k) ?_
  refine Go.step (T' := T5) (f' := (mkF m 37 #[.val (.ref a1), .val (.ref a2), .val (.ref a2)] [(.ref a1)])) (fun _ k => XS.aloadN X5.here hx rfl (hb hby d11_36) rfl rfl k) ?_
  obtain ⟨T6, X6, e6, st6⟩ := getF X5 hx hZ hown (host := "") (Or.inl (hw _ (List.mem_of_getElem? (i := 32) rfl))) Via.refl e5 F_value_a1 (g := (mkF m 37 #[.val (.ref a1), .val (.ref a2), .val (.ref a2)] [(.ref a1)])) rfl rfl (hb hby d11_37)
  refine Go.step (T' := T6) (f' := (mkF m 40 #[.val (.ref a1), .val (.ref a2), .val (.ref a2)] [(.ref v1)])) st6 ?_
  refine Go.step (T' := T6) (f' := (mkF m 41 #[.val (.ref a1), .val (.ref a2), .val (.ref a2)] [(.ref a2), (.ref v1)])) (fun _ k => XS.aloadN X6.here hx rfl (hb hby d11_40) rfl rfl k) ?_
  obtain ⟨T7, X7, e7, st7⟩ := getF X6 hx hZ hown (host := "") (Or.inl (hw _ (List.mem_of_getElem? (i := 32) rfl))) Via.refl e6 F_value_a2 (g := (mkF m 41 #[.val (.ref a1), .val (.ref a2), .val (.ref a2)] [(.ref a2), (.ref v1)])) rfl rfl (hb hby d11_41)
  refine Go.step (T' := T7) (f' := (mkF m 44 #[.val (.ref a1), .val (.ref a2), .val (.ref a2)] [(.ref v2), (.ref v1)])) st7 ?_
  obtain ⟨_, _, ⟨T8, L8, kk8, nn8⟩, -, X8, ⟨Lc8, hQ8, lq8, yq8, zq8⟩, st8⟩ := Jvm.LawKit.callS X7 hx (y := (⟨"java/lang/StringLatin1", "equals", "([B[B)Z"⟩ : MethodName)) hown (mvT hZ (hw _ (List.mem_of_getElem? (i := 75) rfl))) (mvT hZ (hw _ (List.mem_of_getElem? (i := 76) rfl))) (mvT hZ (hw _ (List.mem_of_getElem? (i := 77) rfl))) (mvT hZ (hw _ (List.mem_of_getElem? (i := 78) rfl))) (by decide) (backOf (W := 0) (rmLe8_11 l Z a0 hw [] v1 v2 k1 k2 x0 x1 x2 x3 x4 x5 x6 x7 y0 y1 y2 y3 y4 y5 y6 y7 y8 y9 y10 h0 n0 Z0 V_v1 V_v2) hZ (hw _ (List.mem_of_getElem? (i := 78) rfl)) (hw _ (List.mem_of_getElem? (i := 77) rfl)) (by decide) (by decide)) (g := (mkF m 44 #[.val (.ref a1), .val (.ref a2), .val (.ref a2)] [(.ref v2), (.ref v1)])) rfl (by rw [hml]; rfl) (argsL := [(.ref v1), (.ref v2)]) (rest := []) (lenOf pd_4 rfl) rfl (by show 2 * 0 + _ ≤ _; exact Nat.le_of_eq rfl) (hb hby d11_44) (fun _ _ => ⟨rfl, e7, (by decide : 0 + 0 ≤ _), (by decide : 0 + 0 ≤ _)⟩)
  dsimp only [Pt.U, Pt.locs, Pt.cells, Pt.slots] at X8 lq8 yq8 zq8 st8 hQ8
  subst yq8 zq8
  obtain ⟨rfl, Nq8, eh8⟩ := hQ8
  have N8 : Fr n0 L8 := by rw [lq8]; exact Fr.app N0 Nq8
  refine Go.step (T' := T8) (f' := (mkF m 47 #[.val (.ref a1), .val (.ref a2), .val (.ref a2)] [(.int (0 : Int32))])) st8 ?_
  refine Go.step (T' := T8) (f' := (mkF m 54 #[.val (.ref a1), .val (.ref a2), .val (.ref a2)] [])) (fun _ k => XS.ifYes X8.here hx rfl (pc0 := 47) (pc' := 54) rfl (hb hby d11_47) rfl ((if0 _ _).trans (teq (by decide : (0 : Int32) = (0 : Int32))).1) (by decide) (by decide) k) ?_
  refine Go.step (T' := T8) (f' := (mkF m 55 #[.val (.ref a1), .val (.ref a2), .val (.ref a2)] [(.int (0 : Int32))])) (fun _ k => XS.iconst X8.here hx rfl (hb hby d11_54) k) ?_
  refine goN X8 hx (t := .boolean) Bd.returns (by simp) Bd.notSynchronized (hb hby d11_55) ?_ (by decide) (by decide)
  show Q_rmSe8_11 Z a1 a2 cs v1 v2 k1 k2 x0 x1 x2 x3 x4 x5 x6 x7 y0 y1 y2 y3 y4 y5 y6 y7 y8 y9 y10 h0 n0 _ T8.heap _
  rw [eh8]
  exact ⟨rfl, N8, rfl⟩
theorem ef_rmLe9_8 (m : MethodId) (a1 : Addr) (a2 : Addr) : entryFrame m #[(.ref a1), (.ref a2)] 3 = mkF m 0 #[.val (.ref a1), .val (.ref a2), .unset] [] := by first | (simp [entryFrame, mkF, argsToLocals, Value.category]; done) | rfl
def Q_rmLe9_8 (Z : State) (a1 : Addr) (a2 : Addr) (k1 : ClassId) (k2 : ClassId) (x0 : Int32) (x1 : Int32) (x2 : Int32) (x3 : Int32) (x4 : Int32) (x5 : Int32) (x6 : Int32) (x7 : Int32) (x8 : Int32) (y0 : Int32) (y1 : Int32) (y2 : Int32) (y3 : Int32) (y4 : Int32) (y5 : Int32) (y6 : Int32) (y7 : Int32) (h0 : Heap) (n0 : Nat) (rv : Option Value) (hq : Heap) (Lq : List Loc) : Prop := rv = some (.int (0 : Int32)) ∧ Fr n0 Lq ∧ hq = h0
set_option maxRecDepth 65536 in
set_option maxHeartbeats 40000000 in
theorem rmLe9_8 (l : Launch) (Z : State) (a0 : Array Value) (hw : ∀ d ∈ tables_1, d.before a0 Z = true) (ws : List Jvm.Cond) (a1 : Addr) (a2 : Addr) (k1 : ClassId) (k2 : ClassId) (x0 : Int32) (x1 : Int32) (x2 : Int32) (x3 : Int32) (x4 : Int32) (x5 : Int32) (x6 : Int32) (x7 : Int32) (x8 : Int32) (y0 : Int32) (y1 : Int32) (y2 : Int32) (y3 : Int32) (y4 : Int32) (y5 : Int32) (y6 : Int32) (y7 : Int32) (h0 : Heap) (n0 : Nat) (Z0 : n0 ≤ h0.size) (V_a1 : Arv Z h0 a1 k1 .byte (9 : Int32) [(.int x0), (.int x1), (.int x2), (.int x3), (.int x4), (.int x5), (.int x6), (.int x7), (.int x8)] (.int (0 : Int32))) (V_a2 : Arv Z h0 a2 k2 .byte (8 : Int32) [(.int y0), (.int y1), (.int y2), (.int y3), (.int y4), (.int y5), (.int y6), (.int y7)] (.int (0 : Int32))) :
    MetFree l (⟨"java/lang/StringLatin1", "equals", "([B[B)Z"⟩ : MethodName) (head1 (Jvm.Cond.code (⟨"java/lang/StringLatin1", "equals", "([B[B)Z"⟩ : MethodName) jdk_43_method_13_code 3 (some .boolean) :: ws) ({ frames := 0, cells := 0, slots := 0, locals := 0 } : Room)) (fun a U => a = #[(.ref a1), (.ref a2)] ∧ Z.Warmed39 U.vm ∧ U.heap = h0) (fun _ _ _ _ _ => True) (fun _ U o U' => ∃ rv Lq, o = .returned rv ∧ Q_rmLe9_8 Z a1 a2 k1 k2 x0 x1 x2 x3 x4 x5 x6 x7 x8 y0 y1 y2 y3 y4 y5 y6 y7 h0 n0 rv U'.heap Lq ∧ FrameEnd U o U' Lq ({ frames := 0, cells := 0, slots := 0, locals := 0 } : Room).cells ({ frames := 0, cells := 0, slots := 0, locals := 0 } : Room).slots) := by
  refine MetFree.of_bodySF (plainFor_of_name pn_12) hisR ?_
  intro p e s m args below meth c s₁ Bd hml0 hP hK
  obtain ⟨rfl, hZ, hh⟩ := hP
  have hx := Bd.exec
  have hby := Bd.bytes
  have hml : c.maxLocals = 3 := hml0
  have hown : s.vm.findClass "java/lang/StringLatin1" = some m.cls := findClass_of_methodNamed Bd.named
  have hnm := (name_of_methodNamed Bd.named Bd.method).1
  have X0 : Stand p l e ({ frames := 0, cells := 0, slots := 0, locals := 0 } : Room) s m #[(.ref a1), (.ref a2)] below meth c s₁ [] 0 0 := Stand.of_body Bd
  have e0 : s₁.heap = h0 := by rw [← hh, Bd.state]; rfl
  have N0 := Fr.nil n0
  refine of_go (ef_rmLe9_8 m a1 a2) ?_
  refine Go.step (T' := s₁) (f' := (mkF m 1 #[.val (.ref a1), .val (.ref a2), .unset] [(.ref a1)])) (fun _ k => XS.aloadN X0.here hx rfl (hb hby d12_0) rfl rfl k) ?_
  obtain ⟨cl1, Ar1, qc1, Sz1, Nn1, Hs1, Gf1⟩ := id V_a1
  have hlen1 := X0.arraylength hx (by rw [e0]; exact Ar1.1) (State.isArrayOf_alike hZ.alike Ar1.2.1) (g := (mkF m 1 #[.val (.ref a1), .val (.ref a2), .unset] [(.ref a1)])) rfl rfl (hb hby d12_1)
  rw [len_of Sz1 Nn1] at hlen1
  refine Go.step (T' := s₁) (f' := (mkF m 2 #[.val (.ref a1), .val (.ref a2), .unset] [(.int (9 : Int32))])) (fun _ k => hlen1 _ k) ?_
  refine Go.step (T' := s₁) (f' := (mkF m 3 #[.val (.ref a1), .val (.ref a2), .unset] [(.ref a2), (.int (9 : Int32))])) (fun _ k => XS.aloadN X0.here hx rfl (hb hby d12_2) rfl rfl k) ?_
  obtain ⟨cl2, Ar2, qc2, Sz2, Nn2, Hs2, Gf2⟩ := id V_a2
  have hlen2 := X0.arraylength hx (by rw [e0]; exact Ar2.1) (State.isArrayOf_alike hZ.alike Ar2.2.1) (g := (mkF m 3 #[.val (.ref a1), .val (.ref a2), .unset] [(.ref a2), (.int (9 : Int32))])) rfl rfl (hb hby d12_3)
  rw [len_of Sz2 Nn2] at hlen2
  refine Go.step (T' := s₁) (f' := (mkF m 4 #[.val (.ref a1), .val (.ref a2), .unset] [(.int (8 : Int32)), (.int (9 : Int32))])) (fun _ k => hlen2 _ k) ?_
  refine Go.step (T' := s₁) (f' := (mkF m 34 #[.val (.ref a1), .val (.ref a2), .unset] [])) (fun _ k => XS.icmpYes X0.here hx rfl (pc0 := 4) (pc' := 34) rfl (hb hby d12_4) rfl (feq (by decide : ¬ ((9 : Int32) = (8 : Int32)))).2 (by decide) (by decide) k) ?_
  refine Go.step (T' := s₁) (f' := (mkF m 35 #[.val (.ref a1), .val (.ref a2), .unset] [(.int (0 : Int32))])) (fun _ k => XS.iconst X0.here hx rfl (hb hby d12_34) k) ?_
  refine goN X0 hx (t := .boolean) Bd.returns (by simp) Bd.notSynchronized (hb hby d12_35) ?_ (by decide) (by decide)
  show Q_rmLe9_8 Z a1 a2 k1 k2 x0 x1 x2 x3 x4 x5 x6 x7 x8 y0 y1 y2 y3 y4 y5 y6 y7 h0 n0 _ s₁.heap _
  rw [e0]
  exact ⟨rfl, N0, rfl⟩
theorem ef_rmSe9_8 (m : MethodId) (a1 : Addr) (a2 : Addr) : entryFrame m #[(.ref a1), (.ref a2)] 3 = mkF m 0 #[.val (.ref a1), .val (.ref a2), .unset] [] := by first | (simp [entryFrame, mkF, argsToLocals, Value.category]; done) | rfl
def Q_rmSe9_8 (Z : State) (a1 : Addr) (a2 : Addr) (cs : Int32) (v1 : Addr) (v2 : Addr) (k1 : ClassId) (k2 : ClassId) (x0 : Int32) (x1 : Int32) (x2 : Int32) (x3 : Int32) (x4 : Int32) (x5 : Int32) (x6 : Int32) (x7 : Int32) (x8 : Int32) (y0 : Int32) (y1 : Int32) (y2 : Int32) (y3 : Int32) (y4 : Int32) (y5 : Int32) (y6 : Int32) (y7 : Int32) (h0 : Heap) (n0 : Nat) (rv : Option Value) (hq : Heap) (Lq : List Loc) : Prop := rv = some (.int (0 : Int32)) ∧ Fr n0 Lq ∧ hq = h0
set_option maxRecDepth 65536 in
set_option maxHeartbeats 40000000 in
theorem rmSe9_8 (l : Launch) (Z : State) (a0 : Array Value) (hw : ∀ d ∈ tables_1, d.before a0 Z = true) (ws : List Jvm.Cond) (a1 : Addr) (a2 : Addr) (cs : Int32) (v1 : Addr) (v2 : Addr) (k1 : ClassId) (k2 : ClassId) (x0 : Int32) (x1 : Int32) (x2 : Int32) (x3 : Int32) (x4 : Int32) (x5 : Int32) (x6 : Int32) (x7 : Int32) (x8 : Int32) (y0 : Int32) (y1 : Int32) (y2 : Int32) (y3 : Int32) (y4 : Int32) (y5 : Int32) (y6 : Int32) (y7 : Int32) (h0 : Heap) (n0 : Nat) (Z0 : n0 ≤ h0.size) (E_a1 : Exa Z h0 a1 "java/lang/String") (F_coder_a1 : Fld Z h0 a1 "java/lang/String" "coder" "B" (.int (0 : Int32))) (F_value_a1 : Fld Z h0 a1 "java/lang/String" "value" "[B" (.ref v1)) (V_v1 : Arv Z h0 v1 k1 .byte (9 : Int32) [(.int x0), (.int x1), (.int x2), (.int x3), (.int x4), (.int x5), (.int x6), (.int x7), (.int x8)] (.int (0 : Int32))) (E_a2 : Exa Z h0 a2 "java/lang/String") (F_coder_a2 : Fld Z h0 a2 "java/lang/String" "coder" "B" (.int (0 : Int32))) (F_value_a2 : Fld Z h0 a2 "java/lang/String" "value" "[B" (.ref v2)) (V_v2 : Arv Z h0 v2 k2 .byte (8 : Int32) [(.int y0), (.int y1), (.int y2), (.int y3), (.int y4), (.int y5), (.int y6), (.int y7)] (.int (0 : Int32))) (O0 : Old Z n0 h0) (S_COMPACT_STRINGS : Sta Z Z.heap "java/lang/String" "COMPACT_STRINGS" "Z" (.int cs)) (hcs : ¬ cs = (0 : Int32)) (hne : a1 ≠ a2) :
    MetFree l (⟨"java/lang/String", "equals", "(Ljava/lang/Object;)Z"⟩ : MethodName) (head1 (Jvm.Cond.code (⟨"java/lang/String", "equals", "(Ljava/lang/Object;)Z"⟩ : MethodName) jdk_42_method_66_code 3 (some .boolean) :: ws) ({ frames := 1, cells := 0, slots := 0, locals := 14 } : Room)) (fun a U => a = #[(.ref a1), (.ref a2)] ∧ Z.Warmed39 U.vm ∧ U.heap = h0) (fun _ _ _ _ _ => True) (fun _ U o U' => ∃ rv Lq, o = .returned rv ∧ Q_rmSe9_8 Z a1 a2 cs v1 v2 k1 k2 x0 x1 x2 x3 x4 x5 x6 x7 x8 y0 y1 y2 y3 y4 y5 y6 y7 h0 n0 rv U'.heap Lq ∧ FrameEnd U o U' Lq ({ frames := 1, cells := 0, slots := 0, locals := 14 } : Room).cells ({ frames := 1, cells := 0, slots := 0, locals := 14 } : Room).slots) := by
  refine MetFree.of_bodySF (plainFor_of_name pn_2) hisR ?_
  intro p e s m args below meth c s₁ Bd hml0 hP hK
  obtain ⟨rfl, hZ, hh⟩ := hP
  have hx := Bd.exec
  have hby := Bd.bytes
  have hml : c.maxLocals = 3 := hml0
  have hown : s.vm.findClass "java/lang/String" = some m.cls := findClass_of_methodNamed Bd.named
  have hnm := (name_of_methodNamed Bd.named Bd.method).1
  have X0 : Stand p l e ({ frames := 1, cells := 0, slots := 0, locals := 14 } : Room) s m #[(.ref a1), (.ref a2)] below meth c s₁ [] 0 0 := Stand.of_body Bd
  have e0 : s₁.heap = h0 := by rw [← hh, Bd.state]; rfl
  have N0 := Fr.nil n0
  refine of_go (ef_rmSe9_8 m a1 a2) ?_
  refine Go.step (T' := s₁) (f' := (mkF m 1 #[.val (.ref a1), .val (.ref a2), .unset] [(.ref a1)])) (fun _ k => XS.aloadN X0.here hx rfl (hb hby d11_0) rfl rfl k) ?_
  refine Go.step (T' := s₁) (f' := (mkF m 2 #[.val (.ref a1), .val (.ref a2), .unset] [(.ref a2), (.ref a1)])) (fun _ k => XS.aloadN X0.here hx rfl (hb hby d11_1) rfl rfl k) ?_
  refine Go.step (T' := s₁) (f' := (mkF m 7 #[.val (.ref a1), .val (.ref a2), .unset] [])) (fun _ k => Jvm.RoadKit.acmp (g := (mkF m 2 #[.val (.ref a1), .val (.ref a2), .unset] [(.ref a2), (.ref a1)])) X0 hx rfl rfl rfl (pc0 := 2) (pc' := 7) (same := false) rfl (hb hby d11_2) rfl (decide_eq_false fun q => hne (Value.ref.inj q)) (by decide) (by decide) k) ?_
  refine Go.step (T' := s₁) (f' := (mkF m 8 #[.val (.ref a1), .val (.ref a2), .unset] [(.ref a2)])) (fun _ k => XS.aloadN X0.here hx rfl (hb hby d11_7) rfl rfl k) ?_
  obtain ⟨T1, X1, e1, st1⟩ := instY X0 hx hZ hown (hw _ (List.mem_of_getElem? (i := 74) rfl)) e0 (Ins.self E_a2) (g := (mkF m 8 #[.val (.ref a1), .val (.ref a2), .unset] [(.ref a2)])) rfl rfl (hb hby d11_8)
  refine Go.step (T' := T1) (f' := (mkF m 11 #[.val (.ref a1), .val (.ref a2), .unset] [(.int (1 : Int32))])) st1 ?_
  refine Go.step (T' := T1) (f' := (mkF m 14 #[.val (.ref a1), .val (.ref a2), .unset] [])) (fun _ k => XS.ifNo X1.here hx rfl (hb hby d11_11) rfl ((if0 _ _).trans (feq (by decide : ¬ ((1 : Int32) = (0 : Int32)))).1) k) ?_
  refine Go.step (T' := T1) (f' := (mkF m 15 #[.val (.ref a1), .val (.ref a2), .unset] [(.ref a2)])) (fun _ k => XS.aloadN X1.here hx rfl (hb hby d11_14) rfl rfl k) ?_
  obtain ⟨T2, X2, e2, st2⟩ := castY X1 hx hZ hown (hw _ (List.mem_of_getElem? (i := 74) rfl)) e1 (Ins.self E_a2) (g := (mkF m 15 #[.val (.ref a1), .val (.ref a2), .unset] [(.ref a2)])) rfl rfl (hb hby d11_15)
  refine Go.step (T' := T2) (f' := (mkF m 18 #[.val (.ref a1), .val (.ref a2), .unset] [(.ref a2)])) st2 ?_
  refine Go.step (T' := T2) (f' := (mkF m 19 #[.val (.ref a1), .val (.ref a2), .val (.ref a2)] [])) (fun _ k => XS.astoreN X2.here hx rfl (hb hby d11_18) rfl rfl (l' := #[.val (.ref a1), .val (.ref a2), .val (.ref a2)]) rfl k) ?_
  obtain ⟨T3, X3, e3, st3⟩ := getS2 X2 hx hZ hown (host := "") (Or.inl (hw _ (List.mem_of_getElem? (i := 18) rfl))) Via.refl e2 (S_COMPACT_STRINGS.ext O0.2) (g := (mkF m 19 #[.val (.ref a1), .val (.ref a2), .val (.ref a2)] [])) rfl (hb hby d11_19)
  refine Go.step (T' := T3) (f' := (mkF m 22 #[.val (.ref a1), .val (.ref a2), .val (.ref a2)] [(.int cs)])) st3 ?_
  refine Go.step (T' := T3) (f' := (mkF m 25 #[.val (.ref a1), .val (.ref a2), .val (.ref a2)] [])) (fun _ k => XS.ifNo X3.here hx rfl (hb hby d11_22) rfl ((if0 _ _).trans (feq hcs).1) k) ?_
  refine Go.step (T' := T3) (f' := (mkF m 26 #[.val (.ref a1), .val (.ref a2), .val (.ref a2)] [(.ref a1)])) (fun _ k => XS.aloadN X3.here hx rfl (hb hby d11_25) rfl rfl k) ?_
  obtain ⟨T4, X4, e4, st4⟩ := getF X3 hx hZ hown (host := "") (Or.inl (hw _ (List.mem_of_getElem? (i := 30) rfl))) Via.refl e3 F_coder_a1 (g := (mkF m 26 #[.val (.ref a1), .val (.ref a2), .val (.ref a2)] [(.ref a1)])) rfl rfl (hb hby d11_26)
  refine Go.step (T' := T4) (f' := (mkF m 29 #[.val (.ref a1), .val (.ref a2), .val (.ref a2)] [(.int (0 : Int32))])) st4 ?_
  refine Go.step (T' := T4) (f' := (mkF m 30 #[.val (.ref a1), .val (.ref a2), .val (.ref a2)] [(.ref a2), (.int (0 : Int32))])) (fun _ k => XS.aloadN X4.here hx rfl (hb hby d11_29) rfl rfl k) ?_
  obtain ⟨T5, X5, e5, st5⟩ := getF X4 hx hZ hown (host := "") (Or.inl (hw _ (List.mem_of_getElem? (i := 30) rfl))) Via.refl e4 F_coder_a2 (g := (mkF m 30 #[.val (.ref a1), .val (.ref a2), .val (.ref a2)] [(.ref a2), (.int (0 : Int32))])) rfl rfl (hb hby d11_30)
  refine Go.step (T' := T5) (f' := (mkF m 33 #[.val (.ref a1), .val (.ref a2), .val (.ref a2)] [(.int (0 : Int32)), (.int (0 : Int32))])) st5 ?_
  refine Go.step (T' := T5) (f' := (mkF m 36 #[.val (.ref a1), .val (.ref a2), .val (.ref a2)] [])) (fun _ k => XS.icmpNo X5.here hx rfl (hb hby d11_33) rfl (teq (by decide : (0 : Int32) = (0 : Int32))).2 k) ?_
  refine Go.step (T' := T5) (f' := (mkF m 37 #[.val (.ref a1), .val (.ref a2), .val (.ref a2)] [(.ref a1)])) (fun _ k => XS.aloadN X5.here hx rfl (hb hby d11_36) rfl rfl k) ?_
  obtain ⟨T6, X6, e6, st6⟩ := getF X5 hx hZ hown (host := "") (Or.inl (hw _ (List.mem_of_getElem? (i := 32) rfl))) Via.refl e5 F_value_a1 (g := (mkF m 37 #[.val (.ref a1), .val (.ref a2), .val (.ref a2)] [(.ref a1)])) rfl rfl (hb hby d11_37)
  refine Go.step (T' := T6) (f' := (mkF m 40 #[.val (.ref a1), .val (.ref a2), .val (.ref a2)] [(.ref v1)])) st6 ?_
  refine Go.step (T' := T6) (f' := (mkF m 41 #[.val (.ref a1), .val (.ref a2), .val (.ref a2)] [(.ref a2), (.ref v1)])) (fun _ k => XS.aloadN X6.here hx rfl (hb hby d11_40) rfl rfl k) ?_
  obtain ⟨T7, X7, e7, st7⟩ := getF X6 hx hZ hown (host := "") (Or.inl (hw _ (List.mem_of_getElem? (i := 32) rfl))) Via.refl e6 F_value_a2 (g := (mkF m 41 #[.val (.ref a1), .val (.ref a2), .val (.ref a2)] [(.ref a2), (.ref v1)])) rfl rfl (hb hby d11_41)
  refine Go.step (T' := T7) (f' := (mkF m 44 #[.val (.ref a1), .val (.ref a2), .val (.ref a2)] [(.ref v2), (.ref v1)])) st7 ?_
  obtain ⟨_, _, ⟨T8, L8, kk8, nn8⟩, -, X8, ⟨Lc8, hQ8, lq8, yq8, zq8⟩, st8⟩ := Jvm.LawKit.callS X7 hx (y := (⟨"java/lang/StringLatin1", "equals", "([B[B)Z"⟩ : MethodName)) hown (mvT hZ (hw _ (List.mem_of_getElem? (i := 75) rfl))) (mvT hZ (hw _ (List.mem_of_getElem? (i := 76) rfl))) (mvT hZ (hw _ (List.mem_of_getElem? (i := 77) rfl))) (mvT hZ (hw _ (List.mem_of_getElem? (i := 78) rfl))) (by decide) (backOf (W := 0) (rmLe9_8 l Z a0 hw [] v1 v2 k1 k2 x0 x1 x2 x3 x4 x5 x6 x7 x8 y0 y1 y2 y3 y4 y5 y6 y7 h0 n0 Z0 V_v1 V_v2) hZ (hw _ (List.mem_of_getElem? (i := 78) rfl)) (hw _ (List.mem_of_getElem? (i := 77) rfl)) (by decide) (by decide)) (g := (mkF m 44 #[.val (.ref a1), .val (.ref a2), .val (.ref a2)] [(.ref v2), (.ref v1)])) rfl (by rw [hml]; rfl) (argsL := [(.ref v1), (.ref v2)]) (rest := []) (lenOf pd_4 rfl) rfl (by show 2 * 0 + _ ≤ _; exact Nat.le_of_eq rfl) (hb hby d11_44) (fun _ _ => ⟨rfl, e7, (by decide : 0 + 0 ≤ _), (by decide : 0 + 0 ≤ _)⟩)
  dsimp only [Pt.U, Pt.locs, Pt.cells, Pt.slots] at X8 lq8 yq8 zq8 st8 hQ8
  subst yq8 zq8
  obtain ⟨rfl, Nq8, eh8⟩ := hQ8
  have N8 : Fr n0 L8 := by rw [lq8]; exact Fr.app N0 Nq8
  refine Go.step (T' := T8) (f' := (mkF m 47 #[.val (.ref a1), .val (.ref a2), .val (.ref a2)] [(.int (0 : Int32))])) st8 ?_
  refine Go.step (T' := T8) (f' := (mkF m 54 #[.val (.ref a1), .val (.ref a2), .val (.ref a2)] [])) (fun _ k => XS.ifYes X8.here hx rfl (pc0 := 47) (pc' := 54) rfl (hb hby d11_47) rfl ((if0 _ _).trans (teq (by decide : (0 : Int32) = (0 : Int32))).1) (by decide) (by decide) k) ?_
  refine Go.step (T' := T8) (f' := (mkF m 55 #[.val (.ref a1), .val (.ref a2), .val (.ref a2)] [(.int (0 : Int32))])) (fun _ k => XS.iconst X8.here hx rfl (hb hby d11_54) k) ?_
  refine goN X8 hx (t := .boolean) Bd.returns (by simp) Bd.notSynchronized (hb hby d11_55) ?_ (by decide) (by decide)
  show Q_rmSe9_8 Z a1 a2 cs v1 v2 k1 k2 x0 x1 x2 x3 x4 x5 x6 x7 x8 y0 y1 y2 y3 y4 y5 y6 y7 h0 n0 _ T8.heap _
  rw [eh8]
  exact ⟨rfl, N8, rfl⟩
theorem ef_rmLe9_9 (m : MethodId) (a1 : Addr) (a2 : Addr) : entryFrame m #[(.ref a1), (.ref a2)] 3 = mkF m 0 #[.val (.ref a1), .val (.ref a2), .unset] [] := by first | (simp [entryFrame, mkF, argsToLocals, Value.category]; done) | rfl
def Q_rmLe9_9 (Z : State) (a1 : Addr) (a2 : Addr) (k1 : ClassId) (k2 : ClassId) (x0 : Int32) (x1 : Int32) (x2 : Int32) (x3 : Int32) (x4 : Int32) (x5 : Int32) (x6 : Int32) (x7 : Int32) (x8 : Int32) (h0 : Heap) (n0 : Nat) (rv : Option Value) (hq : Heap) (Lq : List Loc) : Prop := rv = some (.int (1 : Int32)) ∧ Fr n0 Lq ∧ hq = h0
set_option maxRecDepth 65536 in
set_option maxHeartbeats 40000000 in
theorem rmLe9_9 (l : Launch) (Z : State) (a0 : Array Value) (hw : ∀ d ∈ tables_1, d.before a0 Z = true) (ws : List Jvm.Cond) (a1 : Addr) (a2 : Addr) (k1 : ClassId) (k2 : ClassId) (x0 : Int32) (x1 : Int32) (x2 : Int32) (x3 : Int32) (x4 : Int32) (x5 : Int32) (x6 : Int32) (x7 : Int32) (x8 : Int32) (h0 : Heap) (n0 : Nat) (Z0 : n0 ≤ h0.size) (V_a1 : Arv Z h0 a1 k1 .byte (9 : Int32) [(.int x0), (.int x1), (.int x2), (.int x3), (.int x4), (.int x5), (.int x6), (.int x7), (.int x8)] (.int (0 : Int32))) (V_a2 : Arv Z h0 a2 k2 .byte (9 : Int32) [(.int x0), (.int x1), (.int x2), (.int x3), (.int x4), (.int x5), (.int x6), (.int x7), (.int x8)] (.int (0 : Int32))) :
    MetFree l (⟨"java/lang/StringLatin1", "equals", "([B[B)Z"⟩ : MethodName) (head1 (Jvm.Cond.code (⟨"java/lang/StringLatin1", "equals", "([B[B)Z"⟩ : MethodName) jdk_43_method_13_code 3 (some .boolean) :: ws) ({ frames := 0, cells := 0, slots := 0, locals := 0 } : Room)) (fun a U => a = #[(.ref a1), (.ref a2)] ∧ Z.Warmed39 U.vm ∧ U.heap = h0) (fun _ _ _ _ _ => True) (fun _ U o U' => ∃ rv Lq, o = .returned rv ∧ Q_rmLe9_9 Z a1 a2 k1 k2 x0 x1 x2 x3 x4 x5 x6 x7 x8 h0 n0 rv U'.heap Lq ∧ FrameEnd U o U' Lq ({ frames := 0, cells := 0, slots := 0, locals := 0 } : Room).cells ({ frames := 0, cells := 0, slots := 0, locals := 0 } : Room).slots) := by
  refine MetFree.of_bodySF (plainFor_of_name pn_12) hisR ?_
  intro p e s m args below meth c s₁ Bd hml0 hP hK
  obtain ⟨rfl, hZ, hh⟩ := hP
  have hx := Bd.exec
  have hby := Bd.bytes
  have hml : c.maxLocals = 3 := hml0
  have hown : s.vm.findClass "java/lang/StringLatin1" = some m.cls := findClass_of_methodNamed Bd.named
  have hnm := (name_of_methodNamed Bd.named Bd.method).1
  have X0 : Stand p l e ({ frames := 0, cells := 0, slots := 0, locals := 0 } : Room) s m #[(.ref a1), (.ref a2)] below meth c s₁ [] 0 0 := Stand.of_body Bd
  have e0 : s₁.heap = h0 := by rw [← hh, Bd.state]; rfl
  have N0 := Fr.nil n0
  refine of_go (ef_rmLe9_9 m a1 a2) ?_
  refine Go.step (T' := s₁) (f' := (mkF m 1 #[.val (.ref a1), .val (.ref a2), .unset] [(.ref a1)])) (fun _ k => XS.aloadN X0.here hx rfl (hb hby d12_0) rfl rfl k) ?_
  obtain ⟨cl1, Ar1, qc1, Sz1, Nn1, Hs1, Gf1⟩ := id V_a1
  have hlen1 := X0.arraylength hx (by rw [e0]; exact Ar1.1) (State.isArrayOf_alike hZ.alike Ar1.2.1) (g := (mkF m 1 #[.val (.ref a1), .val (.ref a2), .unset] [(.ref a1)])) rfl rfl (hb hby d12_1)
  rw [len_of Sz1 Nn1] at hlen1
  refine Go.step (T' := s₁) (f' := (mkF m 2 #[.val (.ref a1), .val (.ref a2), .unset] [(.int (9 : Int32))])) (fun _ k => hlen1 _ k) ?_
  refine Go.step (T' := s₁) (f' := (mkF m 3 #[.val (.ref a1), .val (.ref a2), .unset] [(.ref a2), (.int (9 : Int32))])) (fun _ k => XS.aloadN X0.here hx rfl (hb hby d12_2) rfl rfl k) ?_
  obtain ⟨cl2, Ar2, qc2, Sz2, Nn2, Hs2, Gf2⟩ := id V_a2
  have hlen2 := X0.arraylength hx (by rw [e0]; exact Ar2.1) (State.isArrayOf_alike hZ.alike Ar2.2.1) (g := (mkF m 3 #[.val (.ref a1), .val (.ref a2), .unset] [(.ref a2), (.int (9 : Int32))])) rfl rfl (hb hby d12_3)
  rw [len_of Sz2 Nn2] at hlen2
  refine Go.step (T' := s₁) (f' := (mkF m 4 #[.val (.ref a1), .val (.ref a2), .unset] [(.int (9 : Int32)), (.int (9 : Int32))])) (fun _ k => hlen2 _ k) ?_
  refine Go.step (T' := s₁) (f' := (mkF m 7 #[.val (.ref a1), .val (.ref a2), .unset] [])) (fun _ k => XS.icmpNo X0.here hx rfl (hb hby d12_4) rfl (teq (by decide : (9 : Int32) = (9 : Int32))).2 k) ?_
  refine Go.step (T' := s₁) (f' := (mkF m 8 #[.val (.ref a1), .val (.ref a2), .unset] [(.int (0 : Int32))])) (fun _ k => XS.iconst X0.here hx rfl (hb hby d12_7) k) ?_
  refine Go.step (T' := s₁) (f' := (mkF m 9 #[.val (.ref a1), .val (.ref a2), .val (.int (0 : Int32))] [])) (fun _ k => XS.istoreN X0.here hx rfl (hb hby d12_8) rfl (l' := #[.val (.ref a1), .val (.ref a2), .val (.int (0 : Int32))]) rfl k) ?_
  refine Go.step (T' := s₁) (f' := (mkF m 10 #[.val (.ref a1), .val (.ref a2), .val (.int (0 : Int32))] [(.int (0 : Int32))])) (fun _ k => XS.iloadN X0.here hx rfl (hb hby d12_9) rfl k) ?_
  refine Go.step (T' := s₁) (f' := (mkF m 11 #[.val (.ref a1), .val (.ref a2), .val (.int (0 : Int32))] [(.ref a1), (.int (0 : Int32))])) (fun _ k => XS.aloadN X0.here hx rfl (hb hby d12_10) rfl rfl k) ?_
  obtain ⟨cl3, Ar3, qc3, Sz3, Nn3, Hs3, Gf3⟩ := id V_a1
  have hlen3 := X0.arraylength hx (by rw [e0]; exact Ar3.1) (State.isArrayOf_alike hZ.alike Ar3.2.1) (g := (mkF m 11 #[.val (.ref a1), .val (.ref a2), .val (.int (0 : Int32))] [(.ref a1), (.int (0 : Int32))])) rfl rfl (hb hby d12_11)
  rw [len_of Sz3 Nn3] at hlen3
  refine Go.step (T' := s₁) (f' := (mkF m 12 #[.val (.ref a1), .val (.ref a2), .val (.int (0 : Int32))] [(.int (9 : Int32)), (.int (0 : Int32))])) (fun _ k => hlen3 _ k) ?_
  refine Go.step (T' := s₁) (f' := (mkF m 15 #[.val (.ref a1), .val (.ref a2), .val (.int (0 : Int32))] [])) (fun _ k => XS.icmpNo X0.here hx rfl (hb hby d12_12) rfl (tlt (by decide : (0 : Int32) < (9 : Int32))).2.1 k) ?_
  refine Go.step (T' := s₁) (f' := (mkF m 16 #[.val (.ref a1), .val (.ref a2), .val (.int (0 : Int32))] [(.ref a1)])) (fun _ k => XS.aloadN X0.here hx rfl (hb hby d12_15) rfl rfl k) ?_
  refine Go.step (T' := s₁) (f' := (mkF m 17 #[.val (.ref a1), .val (.ref a2), .val (.int (0 : Int32))] [(.int (0 : Int32)), (.ref a1)])) (fun _ k => XS.iloadN X0.here hx rfl (hb hby d12_16) rfl k) ?_
  obtain ⟨cl4, Ar4, qc4, Sz4, Nn4, Hs4, Gf4⟩ := id V_a1
  have hin5 : ¬ ((0 : Int32) < 0 ∨ cl4.slots.size ≤ ((0 : Int32)).toNatClampNeg) := (inb_of Sz4 ⟨by decide, by decide⟩)
  have hat5 : cl4.slots[((0 : Int32)).toNatClampNeg]? = some (.int x0) := Has.at Hs4 hin5 rfl
  refine Go.step (T' := s₁) (f' := (mkF m 18 #[.val (.ref a1), .val (.ref a2), .val (.int (0 : Int32))] [(.int x0)])) (fun _ k => X0.baloadBytes hx (j := (0 : Int32)) (v := (.int x0)) (by rw [e0]; exact Ar4.1) (State.isArrayOf_alike hZ.alike Ar4.2.1) Ar4.2.2 hin5 hat5 (g := (mkF m 17 #[.val (.ref a1), .val (.ref a2), .val (.int (0 : Int32))] [(.int (0 : Int32)), (.ref a1)])) rfl rfl (hb hby d12_17) _ k) ?_
  refine Go.step (T' := s₁) (f' := (mkF m 19 #[.val (.ref a1), .val (.ref a2), .val (.int (0 : Int32))] [(.ref a2), (.int x0)])) (fun _ k => XS.aloadN X0.here hx rfl (hb hby d12_18) rfl rfl k) ?_
  refine Go.step (T' := s₁) (f' := (mkF m 20 #[.val (.ref a1), .val (.ref a2), .val (.int (0 : Int32))] [(.int (0 : Int32)), (.ref a2), (.int x0)])) (fun _ k => XS.iloadN X0.here hx rfl (hb hby d12_19) rfl k) ?_
  obtain ⟨cl6, Ar6, qc6, Sz6, Nn6, Hs6, Gf6⟩ := id V_a2
  have hin7 : ¬ ((0 : Int32) < 0 ∨ cl6.slots.size ≤ ((0 : Int32)).toNatClampNeg) := (inb_of Sz6 ⟨by decide, by decide⟩)
  have hat7 : cl6.slots[((0 : Int32)).toNatClampNeg]? = some (.int x0) := Has.at Hs6 hin7 rfl
  refine Go.step (T' := s₁) (f' := (mkF m 21 #[.val (.ref a1), .val (.ref a2), .val (.int (0 : Int32))] [(.int x0), (.int x0)])) (fun _ k => X0.baloadBytes hx (j := (0 : Int32)) (v := (.int x0)) (by rw [e0]; exact Ar6.1) (State.isArrayOf_alike hZ.alike Ar6.2.1) Ar6.2.2 hin7 hat7 (g := (mkF m 20 #[.val (.ref a1), .val (.ref a2), .val (.int (0 : Int32))] [(.int (0 : Int32)), (.ref a2), (.int x0)])) rfl rfl (hb hby d12_20) _ k) ?_
  refine Go.step (T' := s₁) (f' := (mkF m 26 #[.val (.ref a1), .val (.ref a2), .val (.int (0 : Int32))] [])) (fun _ k => XS.icmpYes X0.here hx rfl (pc0 := 21) (pc' := 26) rfl (hb hby d12_21) rfl (teq (rfl : x0 = x0)).1 (by decide) (by decide) k) ?_
  refine Go.step (T' := s₁) (f' := (mkF m 29 #[.val (.ref a1), .val (.ref a2), .val (.int (1 : Int32))] [])) (fun _ k => XS.iinc X0.here hx rfl (hb hby d12_26) rfl (l' := #[.val (.ref a1), .val (.ref a2), .val (.int (1 : Int32))]) rfl k) ?_
  refine Go.step (T' := s₁) (f' := (mkF m 9 #[.val (.ref a1), .val (.ref a2), .val (.int (1 : Int32))] [])) (fun _ k => XS.goto X0.here hx rfl (pc0 := 29) (pc' := 9) rfl (hb hby d12_29) (by decide) (by decide) k) ?_
  refine Go.step (T' := s₁) (f' := (mkF m 10 #[.val (.ref a1), .val (.ref a2), .val (.int (1 : Int32))] [(.int (1 : Int32))])) (fun _ k => XS.iloadN X0.here hx rfl (hb hby d12_9) rfl k) ?_
  refine Go.step (T' := s₁) (f' := (mkF m 11 #[.val (.ref a1), .val (.ref a2), .val (.int (1 : Int32))] [(.ref a1), (.int (1 : Int32))])) (fun _ k => XS.aloadN X0.here hx rfl (hb hby d12_10) rfl rfl k) ?_
  obtain ⟨cl8, Ar8, qc8, Sz8, Nn8, Hs8, Gf8⟩ := id V_a1
  have hlen8 := X0.arraylength hx (by rw [e0]; exact Ar8.1) (State.isArrayOf_alike hZ.alike Ar8.2.1) (g := (mkF m 11 #[.val (.ref a1), .val (.ref a2), .val (.int (1 : Int32))] [(.ref a1), (.int (1 : Int32))])) rfl rfl (hb hby d12_11)
  rw [len_of Sz8 Nn8] at hlen8
  refine Go.step (T' := s₁) (f' := (mkF m 12 #[.val (.ref a1), .val (.ref a2), .val (.int (1 : Int32))] [(.int (9 : Int32)), (.int (1 : Int32))])) (fun _ k => hlen8 _ k) ?_
  refine Go.step (T' := s₁) (f' := (mkF m 15 #[.val (.ref a1), .val (.ref a2), .val (.int (1 : Int32))] [])) (fun _ k => XS.icmpNo X0.here hx rfl (hb hby d12_12) rfl (tlt (by decide : (1 : Int32) < (9 : Int32))).2.1 k) ?_
  refine Go.step (T' := s₁) (f' := (mkF m 16 #[.val (.ref a1), .val (.ref a2), .val (.int (1 : Int32))] [(.ref a1)])) (fun _ k => XS.aloadN X0.here hx rfl (hb hby d12_15) rfl rfl k) ?_
  refine Go.step (T' := s₁) (f' := (mkF m 17 #[.val (.ref a1), .val (.ref a2), .val (.int (1 : Int32))] [(.int (1 : Int32)), (.ref a1)])) (fun _ k => XS.iloadN X0.here hx rfl (hb hby d12_16) rfl k) ?_
  obtain ⟨cl9, Ar9, qc9, Sz9, Nn9, Hs9, Gf9⟩ := id V_a1
  have hin10 : ¬ ((1 : Int32) < 0 ∨ cl9.slots.size ≤ ((1 : Int32)).toNatClampNeg) := (inb_of Sz9 ⟨by decide, by decide⟩)
  have hat10 : cl9.slots[((1 : Int32)).toNatClampNeg]? = some (.int x1) := Has.at Hs9 hin10 rfl
  refine Go.step (T' := s₁) (f' := (mkF m 18 #[.val (.ref a1), .val (.ref a2), .val (.int (1 : Int32))] [(.int x1)])) (fun _ k => X0.baloadBytes hx (j := (1 : Int32)) (v := (.int x1)) (by rw [e0]; exact Ar9.1) (State.isArrayOf_alike hZ.alike Ar9.2.1) Ar9.2.2 hin10 hat10 (g := (mkF m 17 #[.val (.ref a1), .val (.ref a2), .val (.int (1 : Int32))] [(.int (1 : Int32)), (.ref a1)])) rfl rfl (hb hby d12_17) _ k) ?_
  refine Go.step (T' := s₁) (f' := (mkF m 19 #[.val (.ref a1), .val (.ref a2), .val (.int (1 : Int32))] [(.ref a2), (.int x1)])) (fun _ k => XS.aloadN X0.here hx rfl (hb hby d12_18) rfl rfl k) ?_
  refine Go.step (T' := s₁) (f' := (mkF m 20 #[.val (.ref a1), .val (.ref a2), .val (.int (1 : Int32))] [(.int (1 : Int32)), (.ref a2), (.int x1)])) (fun _ k => XS.iloadN X0.here hx rfl (hb hby d12_19) rfl k) ?_
  obtain ⟨cl11, Ar11, qc11, Sz11, Nn11, Hs11, Gf11⟩ := id V_a2
  have hin12 : ¬ ((1 : Int32) < 0 ∨ cl11.slots.size ≤ ((1 : Int32)).toNatClampNeg) := (inb_of Sz11 ⟨by decide, by decide⟩)
  have hat12 : cl11.slots[((1 : Int32)).toNatClampNeg]? = some (.int x1) := Has.at Hs11 hin12 rfl
  refine Go.step (T' := s₁) (f' := (mkF m 21 #[.val (.ref a1), .val (.ref a2), .val (.int (1 : Int32))] [(.int x1), (.int x1)])) (fun _ k => X0.baloadBytes hx (j := (1 : Int32)) (v := (.int x1)) (by rw [e0]; exact Ar11.1) (State.isArrayOf_alike hZ.alike Ar11.2.1) Ar11.2.2 hin12 hat12 (g := (mkF m 20 #[.val (.ref a1), .val (.ref a2), .val (.int (1 : Int32))] [(.int (1 : Int32)), (.ref a2), (.int x1)])) rfl rfl (hb hby d12_20) _ k) ?_
  refine Go.step (T' := s₁) (f' := (mkF m 26 #[.val (.ref a1), .val (.ref a2), .val (.int (1 : Int32))] [])) (fun _ k => XS.icmpYes X0.here hx rfl (pc0 := 21) (pc' := 26) rfl (hb hby d12_21) rfl (teq (rfl : x1 = x1)).1 (by decide) (by decide) k) ?_
  refine Go.step (T' := s₁) (f' := (mkF m 29 #[.val (.ref a1), .val (.ref a2), .val (.int (2 : Int32))] [])) (fun _ k => XS.iinc X0.here hx rfl (hb hby d12_26) rfl (l' := #[.val (.ref a1), .val (.ref a2), .val (.int (2 : Int32))]) rfl k) ?_
  refine Go.step (T' := s₁) (f' := (mkF m 9 #[.val (.ref a1), .val (.ref a2), .val (.int (2 : Int32))] [])) (fun _ k => XS.goto X0.here hx rfl (pc0 := 29) (pc' := 9) rfl (hb hby d12_29) (by decide) (by decide) k) ?_
  refine Go.step (T' := s₁) (f' := (mkF m 10 #[.val (.ref a1), .val (.ref a2), .val (.int (2 : Int32))] [(.int (2 : Int32))])) (fun _ k => XS.iloadN X0.here hx rfl (hb hby d12_9) rfl k) ?_
  refine Go.step (T' := s₁) (f' := (mkF m 11 #[.val (.ref a1), .val (.ref a2), .val (.int (2 : Int32))] [(.ref a1), (.int (2 : Int32))])) (fun _ k => XS.aloadN X0.here hx rfl (hb hby d12_10) rfl rfl k) ?_
  obtain ⟨cl13, Ar13, qc13, Sz13, Nn13, Hs13, Gf13⟩ := id V_a1
  have hlen13 := X0.arraylength hx (by rw [e0]; exact Ar13.1) (State.isArrayOf_alike hZ.alike Ar13.2.1) (g := (mkF m 11 #[.val (.ref a1), .val (.ref a2), .val (.int (2 : Int32))] [(.ref a1), (.int (2 : Int32))])) rfl rfl (hb hby d12_11)
  rw [len_of Sz13 Nn13] at hlen13
  refine Go.step (T' := s₁) (f' := (mkF m 12 #[.val (.ref a1), .val (.ref a2), .val (.int (2 : Int32))] [(.int (9 : Int32)), (.int (2 : Int32))])) (fun _ k => hlen13 _ k) ?_
  refine Go.step (T' := s₁) (f' := (mkF m 15 #[.val (.ref a1), .val (.ref a2), .val (.int (2 : Int32))] [])) (fun _ k => XS.icmpNo X0.here hx rfl (hb hby d12_12) rfl (tlt (by decide : (2 : Int32) < (9 : Int32))).2.1 k) ?_
  refine Go.step (T' := s₁) (f' := (mkF m 16 #[.val (.ref a1), .val (.ref a2), .val (.int (2 : Int32))] [(.ref a1)])) (fun _ k => XS.aloadN X0.here hx rfl (hb hby d12_15) rfl rfl k) ?_
  refine Go.step (T' := s₁) (f' := (mkF m 17 #[.val (.ref a1), .val (.ref a2), .val (.int (2 : Int32))] [(.int (2 : Int32)), (.ref a1)])) (fun _ k => XS.iloadN X0.here hx rfl (hb hby d12_16) rfl k) ?_
  obtain ⟨cl14, Ar14, qc14, Sz14, Nn14, Hs14, Gf14⟩ := id V_a1
  have hin15 : ¬ ((2 : Int32) < 0 ∨ cl14.slots.size ≤ ((2 : Int32)).toNatClampNeg) := (inb_of Sz14 ⟨by decide, by decide⟩)
  have hat15 : cl14.slots[((2 : Int32)).toNatClampNeg]? = some (.int x2) := Has.at Hs14 hin15 rfl
  refine Go.step (T' := s₁) (f' := (mkF m 18 #[.val (.ref a1), .val (.ref a2), .val (.int (2 : Int32))] [(.int x2)])) (fun _ k => X0.baloadBytes hx (j := (2 : Int32)) (v := (.int x2)) (by rw [e0]; exact Ar14.1) (State.isArrayOf_alike hZ.alike Ar14.2.1) Ar14.2.2 hin15 hat15 (g := (mkF m 17 #[.val (.ref a1), .val (.ref a2), .val (.int (2 : Int32))] [(.int (2 : Int32)), (.ref a1)])) rfl rfl (hb hby d12_17) _ k) ?_
  refine Go.step (T' := s₁) (f' := (mkF m 19 #[.val (.ref a1), .val (.ref a2), .val (.int (2 : Int32))] [(.ref a2), (.int x2)])) (fun _ k => XS.aloadN X0.here hx rfl (hb hby d12_18) rfl rfl k) ?_
  refine Go.step (T' := s₁) (f' := (mkF m 20 #[.val (.ref a1), .val (.ref a2), .val (.int (2 : Int32))] [(.int (2 : Int32)), (.ref a2), (.int x2)])) (fun _ k => XS.iloadN X0.here hx rfl (hb hby d12_19) rfl k) ?_
  obtain ⟨cl16, Ar16, qc16, Sz16, Nn16, Hs16, Gf16⟩ := id V_a2
  have hin17 : ¬ ((2 : Int32) < 0 ∨ cl16.slots.size ≤ ((2 : Int32)).toNatClampNeg) := (inb_of Sz16 ⟨by decide, by decide⟩)
  have hat17 : cl16.slots[((2 : Int32)).toNatClampNeg]? = some (.int x2) := Has.at Hs16 hin17 rfl
  refine Go.step (T' := s₁) (f' := (mkF m 21 #[.val (.ref a1), .val (.ref a2), .val (.int (2 : Int32))] [(.int x2), (.int x2)])) (fun _ k => X0.baloadBytes hx (j := (2 : Int32)) (v := (.int x2)) (by rw [e0]; exact Ar16.1) (State.isArrayOf_alike hZ.alike Ar16.2.1) Ar16.2.2 hin17 hat17 (g := (mkF m 20 #[.val (.ref a1), .val (.ref a2), .val (.int (2 : Int32))] [(.int (2 : Int32)), (.ref a2), (.int x2)])) rfl rfl (hb hby d12_20) _ k) ?_
  refine Go.step (T' := s₁) (f' := (mkF m 26 #[.val (.ref a1), .val (.ref a2), .val (.int (2 : Int32))] [])) (fun _ k => XS.icmpYes X0.here hx rfl (pc0 := 21) (pc' := 26) rfl (hb hby d12_21) rfl (teq (rfl : x2 = x2)).1 (by decide) (by decide) k) ?_
  refine Go.step (T' := s₁) (f' := (mkF m 29 #[.val (.ref a1), .val (.ref a2), .val (.int (3 : Int32))] [])) (fun _ k => XS.iinc X0.here hx rfl (hb hby d12_26) rfl (l' := #[.val (.ref a1), .val (.ref a2), .val (.int (3 : Int32))]) rfl k) ?_
  refine Go.step (T' := s₁) (f' := (mkF m 9 #[.val (.ref a1), .val (.ref a2), .val (.int (3 : Int32))] [])) (fun _ k => XS.goto X0.here hx rfl (pc0 := 29) (pc' := 9) rfl (hb hby d12_29) (by decide) (by decide) k) ?_
  refine Go.step (T' := s₁) (f' := (mkF m 10 #[.val (.ref a1), .val (.ref a2), .val (.int (3 : Int32))] [(.int (3 : Int32))])) (fun _ k => XS.iloadN X0.here hx rfl (hb hby d12_9) rfl k) ?_
  refine Go.step (T' := s₁) (f' := (mkF m 11 #[.val (.ref a1), .val (.ref a2), .val (.int (3 : Int32))] [(.ref a1), (.int (3 : Int32))])) (fun _ k => XS.aloadN X0.here hx rfl (hb hby d12_10) rfl rfl k) ?_
  obtain ⟨cl18, Ar18, qc18, Sz18, Nn18, Hs18, Gf18⟩ := id V_a1
  have hlen18 := X0.arraylength hx (by rw [e0]; exact Ar18.1) (State.isArrayOf_alike hZ.alike Ar18.2.1) (g := (mkF m 11 #[.val (.ref a1), .val (.ref a2), .val (.int (3 : Int32))] [(.ref a1), (.int (3 : Int32))])) rfl rfl (hb hby d12_11)
  rw [len_of Sz18 Nn18] at hlen18
  refine Go.step (T' := s₁) (f' := (mkF m 12 #[.val (.ref a1), .val (.ref a2), .val (.int (3 : Int32))] [(.int (9 : Int32)), (.int (3 : Int32))])) (fun _ k => hlen18 _ k) ?_
  refine Go.step (T' := s₁) (f' := (mkF m 15 #[.val (.ref a1), .val (.ref a2), .val (.int (3 : Int32))] [])) (fun _ k => XS.icmpNo X0.here hx rfl (hb hby d12_12) rfl (tlt (by decide : (3 : Int32) < (9 : Int32))).2.1 k) ?_
  refine Go.step (T' := s₁) (f' := (mkF m 16 #[.val (.ref a1), .val (.ref a2), .val (.int (3 : Int32))] [(.ref a1)])) (fun _ k => XS.aloadN X0.here hx rfl (hb hby d12_15) rfl rfl k) ?_
  refine Go.step (T' := s₁) (f' := (mkF m 17 #[.val (.ref a1), .val (.ref a2), .val (.int (3 : Int32))] [(.int (3 : Int32)), (.ref a1)])) (fun _ k => XS.iloadN X0.here hx rfl (hb hby d12_16) rfl k) ?_
  obtain ⟨cl19, Ar19, qc19, Sz19, Nn19, Hs19, Gf19⟩ := id V_a1
  have hin20 : ¬ ((3 : Int32) < 0 ∨ cl19.slots.size ≤ ((3 : Int32)).toNatClampNeg) := (inb_of Sz19 ⟨by decide, by decide⟩)
  have hat20 : cl19.slots[((3 : Int32)).toNatClampNeg]? = some (.int x3) := Has.at Hs19 hin20 rfl
  refine Go.step (T' := s₁) (f' := (mkF m 18 #[.val (.ref a1), .val (.ref a2), .val (.int (3 : Int32))] [(.int x3)])) (fun _ k => X0.baloadBytes hx (j := (3 : Int32)) (v := (.int x3)) (by rw [e0]; exact Ar19.1) (State.isArrayOf_alike hZ.alike Ar19.2.1) Ar19.2.2 hin20 hat20 (g := (mkF m 17 #[.val (.ref a1), .val (.ref a2), .val (.int (3 : Int32))] [(.int (3 : Int32)), (.ref a1)])) rfl rfl (hb hby d12_17) _ k) ?_
  refine Go.step (T' := s₁) (f' := (mkF m 19 #[.val (.ref a1), .val (.ref a2), .val (.int (3 : Int32))] [(.ref a2), (.int x3)])) (fun _ k => XS.aloadN X0.here hx rfl (hb hby d12_18) rfl rfl k) ?_
  refine Go.step (T' := s₁) (f' := (mkF m 20 #[.val (.ref a1), .val (.ref a2), .val (.int (3 : Int32))] [(.int (3 : Int32)), (.ref a2), (.int x3)])) (fun _ k => XS.iloadN X0.here hx rfl (hb hby d12_19) rfl k) ?_
  obtain ⟨cl21, Ar21, qc21, Sz21, Nn21, Hs21, Gf21⟩ := id V_a2
  have hin22 : ¬ ((3 : Int32) < 0 ∨ cl21.slots.size ≤ ((3 : Int32)).toNatClampNeg) := (inb_of Sz21 ⟨by decide, by decide⟩)
  have hat22 : cl21.slots[((3 : Int32)).toNatClampNeg]? = some (.int x3) := Has.at Hs21 hin22 rfl
  refine Go.step (T' := s₁) (f' := (mkF m 21 #[.val (.ref a1), .val (.ref a2), .val (.int (3 : Int32))] [(.int x3), (.int x3)])) (fun _ k => X0.baloadBytes hx (j := (3 : Int32)) (v := (.int x3)) (by rw [e0]; exact Ar21.1) (State.isArrayOf_alike hZ.alike Ar21.2.1) Ar21.2.2 hin22 hat22 (g := (mkF m 20 #[.val (.ref a1), .val (.ref a2), .val (.int (3 : Int32))] [(.int (3 : Int32)), (.ref a2), (.int x3)])) rfl rfl (hb hby d12_20) _ k) ?_
  refine Go.step (T' := s₁) (f' := (mkF m 26 #[.val (.ref a1), .val (.ref a2), .val (.int (3 : Int32))] [])) (fun _ k => XS.icmpYes X0.here hx rfl (pc0 := 21) (pc' := 26) rfl (hb hby d12_21) rfl (teq (rfl : x3 = x3)).1 (by decide) (by decide) k) ?_
  refine Go.step (T' := s₁) (f' := (mkF m 29 #[.val (.ref a1), .val (.ref a2), .val (.int (4 : Int32))] [])) (fun _ k => XS.iinc X0.here hx rfl (hb hby d12_26) rfl (l' := #[.val (.ref a1), .val (.ref a2), .val (.int (4 : Int32))]) rfl k) ?_
  refine Go.step (T' := s₁) (f' := (mkF m 9 #[.val (.ref a1), .val (.ref a2), .val (.int (4 : Int32))] [])) (fun _ k => XS.goto X0.here hx rfl (pc0 := 29) (pc' := 9) rfl (hb hby d12_29) (by decide) (by decide) k) ?_
  refine Go.step (T' := s₁) (f' := (mkF m 10 #[.val (.ref a1), .val (.ref a2), .val (.int (4 : Int32))] [(.int (4 : Int32))])) (fun _ k => XS.iloadN X0.here hx rfl (hb hby d12_9) rfl k) ?_
  refine Go.step (T' := s₁) (f' := (mkF m 11 #[.val (.ref a1), .val (.ref a2), .val (.int (4 : Int32))] [(.ref a1), (.int (4 : Int32))])) (fun _ k => XS.aloadN X0.here hx rfl (hb hby d12_10) rfl rfl k) ?_
  obtain ⟨cl23, Ar23, qc23, Sz23, Nn23, Hs23, Gf23⟩ := id V_a1
  have hlen23 := X0.arraylength hx (by rw [e0]; exact Ar23.1) (State.isArrayOf_alike hZ.alike Ar23.2.1) (g := (mkF m 11 #[.val (.ref a1), .val (.ref a2), .val (.int (4 : Int32))] [(.ref a1), (.int (4 : Int32))])) rfl rfl (hb hby d12_11)
  rw [len_of Sz23 Nn23] at hlen23
  refine Go.step (T' := s₁) (f' := (mkF m 12 #[.val (.ref a1), .val (.ref a2), .val (.int (4 : Int32))] [(.int (9 : Int32)), (.int (4 : Int32))])) (fun _ k => hlen23 _ k) ?_
  refine Go.step (T' := s₁) (f' := (mkF m 15 #[.val (.ref a1), .val (.ref a2), .val (.int (4 : Int32))] [])) (fun _ k => XS.icmpNo X0.here hx rfl (hb hby d12_12) rfl (tlt (by decide : (4 : Int32) < (9 : Int32))).2.1 k) ?_
  refine Go.step (T' := s₁) (f' := (mkF m 16 #[.val (.ref a1), .val (.ref a2), .val (.int (4 : Int32))] [(.ref a1)])) (fun _ k => XS.aloadN X0.here hx rfl (hb hby d12_15) rfl rfl k) ?_
  refine Go.step (T' := s₁) (f' := (mkF m 17 #[.val (.ref a1), .val (.ref a2), .val (.int (4 : Int32))] [(.int (4 : Int32)), (.ref a1)])) (fun _ k => XS.iloadN X0.here hx rfl (hb hby d12_16) rfl k) ?_
  obtain ⟨cl24, Ar24, qc24, Sz24, Nn24, Hs24, Gf24⟩ := id V_a1
  have hin25 : ¬ ((4 : Int32) < 0 ∨ cl24.slots.size ≤ ((4 : Int32)).toNatClampNeg) := (inb_of Sz24 ⟨by decide, by decide⟩)
  have hat25 : cl24.slots[((4 : Int32)).toNatClampNeg]? = some (.int x4) := Has.at Hs24 hin25 rfl
  refine Go.step (T' := s₁) (f' := (mkF m 18 #[.val (.ref a1), .val (.ref a2), .val (.int (4 : Int32))] [(.int x4)])) (fun _ k => X0.baloadBytes hx (j := (4 : Int32)) (v := (.int x4)) (by rw [e0]; exact Ar24.1) (State.isArrayOf_alike hZ.alike Ar24.2.1) Ar24.2.2 hin25 hat25 (g := (mkF m 17 #[.val (.ref a1), .val (.ref a2), .val (.int (4 : Int32))] [(.int (4 : Int32)), (.ref a1)])) rfl rfl (hb hby d12_17) _ k) ?_
  refine Go.step (T' := s₁) (f' := (mkF m 19 #[.val (.ref a1), .val (.ref a2), .val (.int (4 : Int32))] [(.ref a2), (.int x4)])) (fun _ k => XS.aloadN X0.here hx rfl (hb hby d12_18) rfl rfl k) ?_
  refine Go.step (T' := s₁) (f' := (mkF m 20 #[.val (.ref a1), .val (.ref a2), .val (.int (4 : Int32))] [(.int (4 : Int32)), (.ref a2), (.int x4)])) (fun _ k => XS.iloadN X0.here hx rfl (hb hby d12_19) rfl k) ?_
  obtain ⟨cl26, Ar26, qc26, Sz26, Nn26, Hs26, Gf26⟩ := id V_a2
  have hin27 : ¬ ((4 : Int32) < 0 ∨ cl26.slots.size ≤ ((4 : Int32)).toNatClampNeg) := (inb_of Sz26 ⟨by decide, by decide⟩)
  have hat27 : cl26.slots[((4 : Int32)).toNatClampNeg]? = some (.int x4) := Has.at Hs26 hin27 rfl
  refine Go.step (T' := s₁) (f' := (mkF m 21 #[.val (.ref a1), .val (.ref a2), .val (.int (4 : Int32))] [(.int x4), (.int x4)])) (fun _ k => X0.baloadBytes hx (j := (4 : Int32)) (v := (.int x4)) (by rw [e0]; exact Ar26.1) (State.isArrayOf_alike hZ.alike Ar26.2.1) Ar26.2.2 hin27 hat27 (g := (mkF m 20 #[.val (.ref a1), .val (.ref a2), .val (.int (4 : Int32))] [(.int (4 : Int32)), (.ref a2), (.int x4)])) rfl rfl (hb hby d12_20) _ k) ?_
  refine Go.step (T' := s₁) (f' := (mkF m 26 #[.val (.ref a1), .val (.ref a2), .val (.int (4 : Int32))] [])) (fun _ k => XS.icmpYes X0.here hx rfl (pc0 := 21) (pc' := 26) rfl (hb hby d12_21) rfl (teq (rfl : x4 = x4)).1 (by decide) (by decide) k) ?_
  refine Go.step (T' := s₁) (f' := (mkF m 29 #[.val (.ref a1), .val (.ref a2), .val (.int (5 : Int32))] [])) (fun _ k => XS.iinc X0.here hx rfl (hb hby d12_26) rfl (l' := #[.val (.ref a1), .val (.ref a2), .val (.int (5 : Int32))]) rfl k) ?_
  refine Go.step (T' := s₁) (f' := (mkF m 9 #[.val (.ref a1), .val (.ref a2), .val (.int (5 : Int32))] [])) (fun _ k => XS.goto X0.here hx rfl (pc0 := 29) (pc' := 9) rfl (hb hby d12_29) (by decide) (by decide) k) ?_
  refine Go.step (T' := s₁) (f' := (mkF m 10 #[.val (.ref a1), .val (.ref a2), .val (.int (5 : Int32))] [(.int (5 : Int32))])) (fun _ k => XS.iloadN X0.here hx rfl (hb hby d12_9) rfl k) ?_
  refine Go.step (T' := s₁) (f' := (mkF m 11 #[.val (.ref a1), .val (.ref a2), .val (.int (5 : Int32))] [(.ref a1), (.int (5 : Int32))])) (fun _ k => XS.aloadN X0.here hx rfl (hb hby d12_10) rfl rfl k) ?_
  obtain ⟨cl28, Ar28, qc28, Sz28, Nn28, Hs28, Gf28⟩ := id V_a1
  have hlen28 := X0.arraylength hx (by rw [e0]; exact Ar28.1) (State.isArrayOf_alike hZ.alike Ar28.2.1) (g := (mkF m 11 #[.val (.ref a1), .val (.ref a2), .val (.int (5 : Int32))] [(.ref a1), (.int (5 : Int32))])) rfl rfl (hb hby d12_11)
  rw [len_of Sz28 Nn28] at hlen28
  refine Go.step (T' := s₁) (f' := (mkF m 12 #[.val (.ref a1), .val (.ref a2), .val (.int (5 : Int32))] [(.int (9 : Int32)), (.int (5 : Int32))])) (fun _ k => hlen28 _ k) ?_
  refine Go.step (T' := s₁) (f' := (mkF m 15 #[.val (.ref a1), .val (.ref a2), .val (.int (5 : Int32))] [])) (fun _ k => XS.icmpNo X0.here hx rfl (hb hby d12_12) rfl (tlt (by decide : (5 : Int32) < (9 : Int32))).2.1 k) ?_
  refine Go.step (T' := s₁) (f' := (mkF m 16 #[.val (.ref a1), .val (.ref a2), .val (.int (5 : Int32))] [(.ref a1)])) (fun _ k => XS.aloadN X0.here hx rfl (hb hby d12_15) rfl rfl k) ?_
  refine Go.step (T' := s₁) (f' := (mkF m 17 #[.val (.ref a1), .val (.ref a2), .val (.int (5 : Int32))] [(.int (5 : Int32)), (.ref a1)])) (fun _ k => XS.iloadN X0.here hx rfl (hb hby d12_16) rfl k) ?_
  obtain ⟨cl29, Ar29, qc29, Sz29, Nn29, Hs29, Gf29⟩ := id V_a1
  have hin30 : ¬ ((5 : Int32) < 0 ∨ cl29.slots.size ≤ ((5 : Int32)).toNatClampNeg) := (inb_of Sz29 ⟨by decide, by decide⟩)
  have hat30 : cl29.slots[((5 : Int32)).toNatClampNeg]? = some (.int x5) := Has.at Hs29 hin30 rfl
  refine Go.step (T' := s₁) (f' := (mkF m 18 #[.val (.ref a1), .val (.ref a2), .val (.int (5 : Int32))] [(.int x5)])) (fun _ k => X0.baloadBytes hx (j := (5 : Int32)) (v := (.int x5)) (by rw [e0]; exact Ar29.1) (State.isArrayOf_alike hZ.alike Ar29.2.1) Ar29.2.2 hin30 hat30 (g := (mkF m 17 #[.val (.ref a1), .val (.ref a2), .val (.int (5 : Int32))] [(.int (5 : Int32)), (.ref a1)])) rfl rfl (hb hby d12_17) _ k) ?_
  refine Go.step (T' := s₁) (f' := (mkF m 19 #[.val (.ref a1), .val (.ref a2), .val (.int (5 : Int32))] [(.ref a2), (.int x5)])) (fun _ k => XS.aloadN X0.here hx rfl (hb hby d12_18) rfl rfl k) ?_
  refine Go.step (T' := s₁) (f' := (mkF m 20 #[.val (.ref a1), .val (.ref a2), .val (.int (5 : Int32))] [(.int (5 : Int32)), (.ref a2), (.int x5)])) (fun _ k => XS.iloadN X0.here hx rfl (hb hby d12_19) rfl k) ?_
  obtain ⟨cl31, Ar31, qc31, Sz31, Nn31, Hs31, Gf31⟩ := id V_a2
  have hin32 : ¬ ((5 : Int32) < 0 ∨ cl31.slots.size ≤ ((5 : Int32)).toNatClampNeg) := (inb_of Sz31 ⟨by decide, by decide⟩)
  have hat32 : cl31.slots[((5 : Int32)).toNatClampNeg]? = some (.int x5) := Has.at Hs31 hin32 rfl
  refine Go.step (T' := s₁) (f' := (mkF m 21 #[.val (.ref a1), .val (.ref a2), .val (.int (5 : Int32))] [(.int x5), (.int x5)])) (fun _ k => X0.baloadBytes hx (j := (5 : Int32)) (v := (.int x5)) (by rw [e0]; exact Ar31.1) (State.isArrayOf_alike hZ.alike Ar31.2.1) Ar31.2.2 hin32 hat32 (g := (mkF m 20 #[.val (.ref a1), .val (.ref a2), .val (.int (5 : Int32))] [(.int (5 : Int32)), (.ref a2), (.int x5)])) rfl rfl (hb hby d12_20) _ k) ?_
  refine Go.step (T' := s₁) (f' := (mkF m 26 #[.val (.ref a1), .val (.ref a2), .val (.int (5 : Int32))] [])) (fun _ k => XS.icmpYes X0.here hx rfl (pc0 := 21) (pc' := 26) rfl (hb hby d12_21) rfl (teq (rfl : x5 = x5)).1 (by decide) (by decide) k) ?_
  refine Go.step (T' := s₁) (f' := (mkF m 29 #[.val (.ref a1), .val (.ref a2), .val (.int (6 : Int32))] [])) (fun _ k => XS.iinc X0.here hx rfl (hb hby d12_26) rfl (l' := #[.val (.ref a1), .val (.ref a2), .val (.int (6 : Int32))]) rfl k) ?_
  refine Go.step (T' := s₁) (f' := (mkF m 9 #[.val (.ref a1), .val (.ref a2), .val (.int (6 : Int32))] [])) (fun _ k => XS.goto X0.here hx rfl (pc0 := 29) (pc' := 9) rfl (hb hby d12_29) (by decide) (by decide) k) ?_
  refine Go.step (T' := s₁) (f' := (mkF m 10 #[.val (.ref a1), .val (.ref a2), .val (.int (6 : Int32))] [(.int (6 : Int32))])) (fun _ k => XS.iloadN X0.here hx rfl (hb hby d12_9) rfl k) ?_
  refine Go.step (T' := s₁) (f' := (mkF m 11 #[.val (.ref a1), .val (.ref a2), .val (.int (6 : Int32))] [(.ref a1), (.int (6 : Int32))])) (fun _ k => XS.aloadN X0.here hx rfl (hb hby d12_10) rfl rfl k) ?_
  obtain ⟨cl33, Ar33, qc33, Sz33, Nn33, Hs33, Gf33⟩ := id V_a1
  have hlen33 := X0.arraylength hx (by rw [e0]; exact Ar33.1) (State.isArrayOf_alike hZ.alike Ar33.2.1) (g := (mkF m 11 #[.val (.ref a1), .val (.ref a2), .val (.int (6 : Int32))] [(.ref a1), (.int (6 : Int32))])) rfl rfl (hb hby d12_11)
  rw [len_of Sz33 Nn33] at hlen33
  refine Go.step (T' := s₁) (f' := (mkF m 12 #[.val (.ref a1), .val (.ref a2), .val (.int (6 : Int32))] [(.int (9 : Int32)), (.int (6 : Int32))])) (fun _ k => hlen33 _ k) ?_
  refine Go.step (T' := s₁) (f' := (mkF m 15 #[.val (.ref a1), .val (.ref a2), .val (.int (6 : Int32))] [])) (fun _ k => XS.icmpNo X0.here hx rfl (hb hby d12_12) rfl (tlt (by decide : (6 : Int32) < (9 : Int32))).2.1 k) ?_
  refine Go.step (T' := s₁) (f' := (mkF m 16 #[.val (.ref a1), .val (.ref a2), .val (.int (6 : Int32))] [(.ref a1)])) (fun _ k => XS.aloadN X0.here hx rfl (hb hby d12_15) rfl rfl k) ?_
  refine Go.step (T' := s₁) (f' := (mkF m 17 #[.val (.ref a1), .val (.ref a2), .val (.int (6 : Int32))] [(.int (6 : Int32)), (.ref a1)])) (fun _ k => XS.iloadN X0.here hx rfl (hb hby d12_16) rfl k) ?_
  obtain ⟨cl34, Ar34, qc34, Sz34, Nn34, Hs34, Gf34⟩ := id V_a1
  have hin35 : ¬ ((6 : Int32) < 0 ∨ cl34.slots.size ≤ ((6 : Int32)).toNatClampNeg) := (inb_of Sz34 ⟨by decide, by decide⟩)
  have hat35 : cl34.slots[((6 : Int32)).toNatClampNeg]? = some (.int x6) := Has.at Hs34 hin35 rfl
  refine Go.step (T' := s₁) (f' := (mkF m 18 #[.val (.ref a1), .val (.ref a2), .val (.int (6 : Int32))] [(.int x6)])) (fun _ k => X0.baloadBytes hx (j := (6 : Int32)) (v := (.int x6)) (by rw [e0]; exact Ar34.1) (State.isArrayOf_alike hZ.alike Ar34.2.1) Ar34.2.2 hin35 hat35 (g := (mkF m 17 #[.val (.ref a1), .val (.ref a2), .val (.int (6 : Int32))] [(.int (6 : Int32)), (.ref a1)])) rfl rfl (hb hby d12_17) _ k) ?_
  refine Go.step (T' := s₁) (f' := (mkF m 19 #[.val (.ref a1), .val (.ref a2), .val (.int (6 : Int32))] [(.ref a2), (.int x6)])) (fun _ k => XS.aloadN X0.here hx rfl (hb hby d12_18) rfl rfl k) ?_
  refine Go.step (T' := s₁) (f' := (mkF m 20 #[.val (.ref a1), .val (.ref a2), .val (.int (6 : Int32))] [(.int (6 : Int32)), (.ref a2), (.int x6)])) (fun _ k => XS.iloadN X0.here hx rfl (hb hby d12_19) rfl k) ?_
  obtain ⟨cl36, Ar36, qc36, Sz36, Nn36, Hs36, Gf36⟩ := id V_a2
  have hin37 : ¬ ((6 : Int32) < 0 ∨ cl36.slots.size ≤ ((6 : Int32)).toNatClampNeg) := (inb_of Sz36 ⟨by decide, by decide⟩)
  have hat37 : cl36.slots[((6 : Int32)).toNatClampNeg]? = some (.int x6) := Has.at Hs36 hin37 rfl
  refine Go.step (T' := s₁) (f' := (mkF m 21 #[.val (.ref a1), .val (.ref a2), .val (.int (6 : Int32))] [(.int x6), (.int x6)])) (fun _ k => X0.baloadBytes hx (j := (6 : Int32)) (v := (.int x6)) (by rw [e0]; exact Ar36.1) (State.isArrayOf_alike hZ.alike Ar36.2.1) Ar36.2.2 hin37 hat37 (g := (mkF m 20 #[.val (.ref a1), .val (.ref a2), .val (.int (6 : Int32))] [(.int (6 : Int32)), (.ref a2), (.int x6)])) rfl rfl (hb hby d12_20) _ k) ?_
  refine Go.step (T' := s₁) (f' := (mkF m 26 #[.val (.ref a1), .val (.ref a2), .val (.int (6 : Int32))] [])) (fun _ k => XS.icmpYes X0.here hx rfl (pc0 := 21) (pc' := 26) rfl (hb hby d12_21) rfl (teq (rfl : x6 = x6)).1 (by decide) (by decide) k) ?_
  refine Go.step (T' := s₁) (f' := (mkF m 29 #[.val (.ref a1), .val (.ref a2), .val (.int (7 : Int32))] [])) (fun _ k => XS.iinc X0.here hx rfl (hb hby d12_26) rfl (l' := #[.val (.ref a1), .val (.ref a2), .val (.int (7 : Int32))]) rfl k) ?_
  refine Go.step (T' := s₁) (f' := (mkF m 9 #[.val (.ref a1), .val (.ref a2), .val (.int (7 : Int32))] [])) (fun _ k => XS.goto X0.here hx rfl (pc0 := 29) (pc' := 9) rfl (hb hby d12_29) (by decide) (by decide) k) ?_
  refine Go.step (T' := s₁) (f' := (mkF m 10 #[.val (.ref a1), .val (.ref a2), .val (.int (7 : Int32))] [(.int (7 : Int32))])) (fun _ k => XS.iloadN X0.here hx rfl (hb hby d12_9) rfl k) ?_
  refine Go.step (T' := s₁) (f' := (mkF m 11 #[.val (.ref a1), .val (.ref a2), .val (.int (7 : Int32))] [(.ref a1), (.int (7 : Int32))])) (fun _ k => XS.aloadN X0.here hx rfl (hb hby d12_10) rfl rfl k) ?_
  obtain ⟨cl38, Ar38, qc38, Sz38, Nn38, Hs38, Gf38⟩ := id V_a1
  have hlen38 := X0.arraylength hx (by rw [e0]; exact Ar38.1) (State.isArrayOf_alike hZ.alike Ar38.2.1) (g := (mkF m 11 #[.val (.ref a1), .val (.ref a2), .val (.int (7 : Int32))] [(.ref a1), (.int (7 : Int32))])) rfl rfl (hb hby d12_11)
  rw [len_of Sz38 Nn38] at hlen38
  refine Go.step (T' := s₁) (f' := (mkF m 12 #[.val (.ref a1), .val (.ref a2), .val (.int (7 : Int32))] [(.int (9 : Int32)), (.int (7 : Int32))])) (fun _ k => hlen38 _ k) ?_
  refine Go.step (T' := s₁) (f' := (mkF m 15 #[.val (.ref a1), .val (.ref a2), .val (.int (7 : Int32))] [])) (fun _ k => XS.icmpNo X0.here hx rfl (hb hby d12_12) rfl (tlt (by decide : (7 : Int32) < (9 : Int32))).2.1 k) ?_
  refine Go.step (T' := s₁) (f' := (mkF m 16 #[.val (.ref a1), .val (.ref a2), .val (.int (7 : Int32))] [(.ref a1)])) (fun _ k => XS.aloadN X0.here hx rfl (hb hby d12_15) rfl rfl k) ?_
  refine Go.step (T' := s₁) (f' := (mkF m 17 #[.val (.ref a1), .val (.ref a2), .val (.int (7 : Int32))] [(.int (7 : Int32)), (.ref a1)])) (fun _ k => XS.iloadN X0.here hx rfl (hb hby d12_16) rfl k) ?_
  obtain ⟨cl39, Ar39, qc39, Sz39, Nn39, Hs39, Gf39⟩ := id V_a1
  have hin40 : ¬ ((7 : Int32) < 0 ∨ cl39.slots.size ≤ ((7 : Int32)).toNatClampNeg) := (inb_of Sz39 ⟨by decide, by decide⟩)
  have hat40 : cl39.slots[((7 : Int32)).toNatClampNeg]? = some (.int x7) := Has.at Hs39 hin40 rfl
  refine Go.step (T' := s₁) (f' := (mkF m 18 #[.val (.ref a1), .val (.ref a2), .val (.int (7 : Int32))] [(.int x7)])) (fun _ k => X0.baloadBytes hx (j := (7 : Int32)) (v := (.int x7)) (by rw [e0]; exact Ar39.1) (State.isArrayOf_alike hZ.alike Ar39.2.1) Ar39.2.2 hin40 hat40 (g := (mkF m 17 #[.val (.ref a1), .val (.ref a2), .val (.int (7 : Int32))] [(.int (7 : Int32)), (.ref a1)])) rfl rfl (hb hby d12_17) _ k) ?_
  refine Go.step (T' := s₁) (f' := (mkF m 19 #[.val (.ref a1), .val (.ref a2), .val (.int (7 : Int32))] [(.ref a2), (.int x7)])) (fun _ k => XS.aloadN X0.here hx rfl (hb hby d12_18) rfl rfl k) ?_
  refine Go.step (T' := s₁) (f' := (mkF m 20 #[.val (.ref a1), .val (.ref a2), .val (.int (7 : Int32))] [(.int (7 : Int32)), (.ref a2), (.int x7)])) (fun _ k => XS.iloadN X0.here hx rfl (hb hby d12_19) rfl k) ?_
  obtain ⟨cl41, Ar41, qc41, Sz41, Nn41, Hs41, Gf41⟩ := id V_a2
  have hin42 : ¬ ((7 : Int32) < 0 ∨ cl41.slots.size ≤ ((7 : Int32)).toNatClampNeg) := (inb_of Sz41 ⟨by decide, by decide⟩)
  have hat42 : cl41.slots[((7 : Int32)).toNatClampNeg]? = some (.int x7) := Has.at Hs41 hin42 rfl
  refine Go.step (T' := s₁) (f' := (mkF m 21 #[.val (.ref a1), .val (.ref a2), .val (.int (7 : Int32))] [(.int x7), (.int x7)])) (fun _ k => X0.baloadBytes hx (j := (7 : Int32)) (v := (.int x7)) (by rw [e0]; exact Ar41.1) (State.isArrayOf_alike hZ.alike Ar41.2.1) Ar41.2.2 hin42 hat42 (g := (mkF m 20 #[.val (.ref a1), .val (.ref a2), .val (.int (7 : Int32))] [(.int (7 : Int32)), (.ref a2), (.int x7)])) rfl rfl (hb hby d12_20) _ k) ?_
  refine Go.step (T' := s₁) (f' := (mkF m 26 #[.val (.ref a1), .val (.ref a2), .val (.int (7 : Int32))] [])) (fun _ k => XS.icmpYes X0.here hx rfl (pc0 := 21) (pc' := 26) rfl (hb hby d12_21) rfl (teq (rfl : x7 = x7)).1 (by decide) (by decide) k) ?_
  refine Go.step (T' := s₁) (f' := (mkF m 29 #[.val (.ref a1), .val (.ref a2), .val (.int (8 : Int32))] [])) (fun _ k => XS.iinc X0.here hx rfl (hb hby d12_26) rfl (l' := #[.val (.ref a1), .val (.ref a2), .val (.int (8 : Int32))]) rfl k) ?_
  refine Go.step (T' := s₁) (f' := (mkF m 9 #[.val (.ref a1), .val (.ref a2), .val (.int (8 : Int32))] [])) (fun _ k => XS.goto X0.here hx rfl (pc0 := 29) (pc' := 9) rfl (hb hby d12_29) (by decide) (by decide) k) ?_
  refine Go.step (T' := s₁) (f' := (mkF m 10 #[.val (.ref a1), .val (.ref a2), .val (.int (8 : Int32))] [(.int (8 : Int32))])) (fun _ k => XS.iloadN X0.here hx rfl (hb hby d12_9) rfl k) ?_
  refine Go.step (T' := s₁) (f' := (mkF m 11 #[.val (.ref a1), .val (.ref a2), .val (.int (8 : Int32))] [(.ref a1), (.int (8 : Int32))])) (fun _ k => XS.aloadN X0.here hx rfl (hb hby d12_10) rfl rfl k) ?_
  obtain ⟨cl43, Ar43, qc43, Sz43, Nn43, Hs43, Gf43⟩ := id V_a1
  have hlen43 := X0.arraylength hx (by rw [e0]; exact Ar43.1) (State.isArrayOf_alike hZ.alike Ar43.2.1) (g := (mkF m 11 #[.val (.ref a1), .val (.ref a2), .val (.int (8 : Int32))] [(.ref a1), (.int (8 : Int32))])) rfl rfl (hb hby d12_11)
  rw [len_of Sz43 Nn43] at hlen43
  refine Go.step (T' := s₁) (f' := (mkF m 12 #[.val (.ref a1), .val (.ref a2), .val (.int (8 : Int32))] [(.int (9 : Int32)), (.int (8 : Int32))])) (fun _ k => hlen43 _ k) ?_
  refine Go.step (T' := s₁) (f' := (mkF m 15 #[.val (.ref a1), .val (.ref a2), .val (.int (8 : Int32))] [])) (fun _ k => XS.icmpNo X0.here hx rfl (hb hby d12_12) rfl (tlt (by decide : (8 : Int32) < (9 : Int32))).2.1 k) ?_
  refine Go.step (T' := s₁) (f' := (mkF m 16 #[.val (.ref a1), .val (.ref a2), .val (.int (8 : Int32))] [(.ref a1)])) (fun _ k => XS.aloadN X0.here hx rfl (hb hby d12_15) rfl rfl k) ?_
  refine Go.step (T' := s₁) (f' := (mkF m 17 #[.val (.ref a1), .val (.ref a2), .val (.int (8 : Int32))] [(.int (8 : Int32)), (.ref a1)])) (fun _ k => XS.iloadN X0.here hx rfl (hb hby d12_16) rfl k) ?_
  obtain ⟨cl44, Ar44, qc44, Sz44, Nn44, Hs44, Gf44⟩ := id V_a1
  have hin45 : ¬ ((8 : Int32) < 0 ∨ cl44.slots.size ≤ ((8 : Int32)).toNatClampNeg) := (inb_of Sz44 ⟨by decide, by decide⟩)
  have hat45 : cl44.slots[((8 : Int32)).toNatClampNeg]? = some (.int x8) := Has.at Hs44 hin45 rfl
  refine Go.step (T' := s₁) (f' := (mkF m 18 #[.val (.ref a1), .val (.ref a2), .val (.int (8 : Int32))] [(.int x8)])) (fun _ k => X0.baloadBytes hx (j := (8 : Int32)) (v := (.int x8)) (by rw [e0]; exact Ar44.1) (State.isArrayOf_alike hZ.alike Ar44.2.1) Ar44.2.2 hin45 hat45 (g := (mkF m 17 #[.val (.ref a1), .val (.ref a2), .val (.int (8 : Int32))] [(.int (8 : Int32)), (.ref a1)])) rfl rfl (hb hby d12_17) _ k) ?_
  refine Go.step (T' := s₁) (f' := (mkF m 19 #[.val (.ref a1), .val (.ref a2), .val (.int (8 : Int32))] [(.ref a2), (.int x8)])) (fun _ k => XS.aloadN X0.here hx rfl (hb hby d12_18) rfl rfl k) ?_
  refine Go.step (T' := s₁) (f' := (mkF m 20 #[.val (.ref a1), .val (.ref a2), .val (.int (8 : Int32))] [(.int (8 : Int32)), (.ref a2), (.int x8)])) (fun _ k => XS.iloadN X0.here hx rfl (hb hby d12_19) rfl k) ?_
  obtain ⟨cl46, Ar46, qc46, Sz46, Nn46, Hs46, Gf46⟩ := id V_a2
  have hin47 : ¬ ((8 : Int32) < 0 ∨ cl46.slots.size ≤ ((8 : Int32)).toNatClampNeg) := (inb_of Sz46 ⟨by decide, by decide⟩)
  have hat47 : cl46.slots[((8 : Int32)).toNatClampNeg]? = some (.int x8) := Has.at Hs46 hin47 rfl
  refine Go.step (T' := s₁) (f' := (mkF m 21 #[.val (.ref a1), .val (.ref a2), .val (.int (8 : Int32))] [(.int x8), (.int x8)])) (fun _ k => X0.baloadBytes hx (j := (8 : Int32)) (v := (.int x8)) (by rw [e0]; exact Ar46.1) (State.isArrayOf_alike hZ.alike Ar46.2.1) Ar46.2.2 hin47 hat47 (g := (mkF m 20 #[.val (.ref a1), .val (.ref a2), .val (.int (8 : Int32))] [(.int (8 : Int32)), (.ref a2), (.int x8)])) rfl rfl (hb hby d12_20) _ k) ?_
  refine Go.step (T' := s₁) (f' := (mkF m 26 #[.val (.ref a1), .val (.ref a2), .val (.int (8 : Int32))] [])) (fun _ k => XS.icmpYes X0.here hx rfl (pc0 := 21) (pc' := 26) rfl (hb hby d12_21) rfl (teq (rfl : x8 = x8)).1 (by decide) (by decide) k) ?_
  refine Go.step (T' := s₁) (f' := (mkF m 29 #[.val (.ref a1), .val (.ref a2), .val (.int (9 : Int32))] [])) (fun _ k => XS.iinc X0.here hx rfl (hb hby d12_26) rfl (l' := #[.val (.ref a1), .val (.ref a2), .val (.int (9 : Int32))]) rfl k) ?_
  refine Go.step (T' := s₁) (f' := (mkF m 9 #[.val (.ref a1), .val (.ref a2), .val (.int (9 : Int32))] [])) (fun _ k => XS.goto X0.here hx rfl (pc0 := 29) (pc' := 9) rfl (hb hby d12_29) (by decide) (by decide) k) ?_
  refine Go.step (T' := s₁) (f' := (mkF m 10 #[.val (.ref a1), .val (.ref a2), .val (.int (9 : Int32))] [(.int (9 : Int32))])) (fun _ k => XS.iloadN X0.here hx rfl (hb hby d12_9) rfl k) ?_
  refine Go.step (T' := s₁) (f' := (mkF m 11 #[.val (.ref a1), .val (.ref a2), .val (.int (9 : Int32))] [(.ref a1), (.int (9 : Int32))])) (fun _ k => XS.aloadN X0.here hx rfl (hb hby d12_10) rfl rfl k) ?_
  obtain ⟨cl48, Ar48, qc48, Sz48, Nn48, Hs48, Gf48⟩ := id V_a1
  have hlen48 := X0.arraylength hx (by rw [e0]; exact Ar48.1) (State.isArrayOf_alike hZ.alike Ar48.2.1) (g := (mkF m 11 #[.val (.ref a1), .val (.ref a2), .val (.int (9 : Int32))] [(.ref a1), (.int (9 : Int32))])) rfl rfl (hb hby d12_11)
  rw [len_of Sz48 Nn48] at hlen48
  refine Go.step (T' := s₁) (f' := (mkF m 12 #[.val (.ref a1), .val (.ref a2), .val (.int (9 : Int32))] [(.int (9 : Int32)), (.int (9 : Int32))])) (fun _ k => hlen48 _ k) ?_
  refine Go.step (T' := s₁) (f' := (mkF m 32 #[.val (.ref a1), .val (.ref a2), .val (.int (9 : Int32))] [])) (fun _ k => XS.icmpYes X0.here hx rfl (pc0 := 12) (pc' := 32) rfl (hb hby d12_12) rfl (flt (by decide : ¬ ((9 : Int32) < (9 : Int32)))).2.1 (by decide) (by decide) k) ?_
  refine Go.step (T' := s₁) (f' := (mkF m 33 #[.val (.ref a1), .val (.ref a2), .val (.int (9 : Int32))] [(.int (1 : Int32))])) (fun _ k => XS.iconst X0.here hx rfl (hb hby d12_32) k) ?_
  refine goN X0 hx (t := .boolean) Bd.returns (by simp) Bd.notSynchronized (hb hby d12_33) ?_ (by decide) (by decide)
  show Q_rmLe9_9 Z a1 a2 k1 k2 x0 x1 x2 x3 x4 x5 x6 x7 x8 h0 n0 _ s₁.heap _
  rw [e0]
  exact ⟨rfl, N0, rfl⟩
theorem ef_rmSe9_9 (m : MethodId) (a1 : Addr) (a2 : Addr) : entryFrame m #[(.ref a1), (.ref a2)] 3 = mkF m 0 #[.val (.ref a1), .val (.ref a2), .unset] [] := by first | (simp [entryFrame, mkF, argsToLocals, Value.category]; done) | rfl
def Q_rmSe9_9 (Z : State) (a1 : Addr) (a2 : Addr) (cs : Int32) (v1 : Addr) (v2 : Addr) (k1 : ClassId) (k2 : ClassId) (x0 : Int32) (x1 : Int32) (x2 : Int32) (x3 : Int32) (x4 : Int32) (x5 : Int32) (x6 : Int32) (x7 : Int32) (x8 : Int32) (h0 : Heap) (n0 : Nat) (rv : Option Value) (hq : Heap) (Lq : List Loc) : Prop := rv = some (.int (1 : Int32)) ∧ Fr n0 Lq ∧ hq = h0
set_option maxRecDepth 65536 in
set_option maxHeartbeats 40000000 in
theorem rmSe9_9 (l : Launch) (Z : State) (a0 : Array Value) (hw : ∀ d ∈ tables_1, d.before a0 Z = true) (ws : List Jvm.Cond) (a1 : Addr) (a2 : Addr) (cs : Int32) (v1 : Addr) (v2 : Addr) (k1 : ClassId) (k2 : ClassId) (x0 : Int32) (x1 : Int32) (x2 : Int32) (x3 : Int32) (x4 : Int32) (x5 : Int32) (x6 : Int32) (x7 : Int32) (x8 : Int32) (h0 : Heap) (n0 : Nat) (Z0 : n0 ≤ h0.size) (E_a1 : Exa Z h0 a1 "java/lang/String") (F_coder_a1 : Fld Z h0 a1 "java/lang/String" "coder" "B" (.int (0 : Int32))) (F_value_a1 : Fld Z h0 a1 "java/lang/String" "value" "[B" (.ref v1)) (V_v1 : Arv Z h0 v1 k1 .byte (9 : Int32) [(.int x0), (.int x1), (.int x2), (.int x3), (.int x4), (.int x5), (.int x6), (.int x7), (.int x8)] (.int (0 : Int32))) (E_a2 : Exa Z h0 a2 "java/lang/String") (F_coder_a2 : Fld Z h0 a2 "java/lang/String" "coder" "B" (.int (0 : Int32))) (F_value_a2 : Fld Z h0 a2 "java/lang/String" "value" "[B" (.ref v2)) (V_v2 : Arv Z h0 v2 k2 .byte (9 : Int32) [(.int x0), (.int x1), (.int x2), (.int x3), (.int x4), (.int x5), (.int x6), (.int x7), (.int x8)] (.int (0 : Int32))) (O0 : Old Z n0 h0) (S_COMPACT_STRINGS : Sta Z Z.heap "java/lang/String" "COMPACT_STRINGS" "Z" (.int cs)) (hcs : ¬ cs = (0 : Int32)) (hne : a1 ≠ a2) :
    MetFree l (⟨"java/lang/String", "equals", "(Ljava/lang/Object;)Z"⟩ : MethodName) (head1 (Jvm.Cond.code (⟨"java/lang/String", "equals", "(Ljava/lang/Object;)Z"⟩ : MethodName) jdk_42_method_66_code 3 (some .boolean) :: ws) ({ frames := 1, cells := 0, slots := 0, locals := 14 } : Room)) (fun a U => a = #[(.ref a1), (.ref a2)] ∧ Z.Warmed39 U.vm ∧ U.heap = h0) (fun _ _ _ _ _ => True) (fun _ U o U' => ∃ rv Lq, o = .returned rv ∧ Q_rmSe9_9 Z a1 a2 cs v1 v2 k1 k2 x0 x1 x2 x3 x4 x5 x6 x7 x8 h0 n0 rv U'.heap Lq ∧ FrameEnd U o U' Lq ({ frames := 1, cells := 0, slots := 0, locals := 14 } : Room).cells ({ frames := 1, cells := 0, slots := 0, locals := 14 } : Room).slots) := by
  refine MetFree.of_bodySF (plainFor_of_name pn_2) hisR ?_
  intro p e s m args below meth c s₁ Bd hml0 hP hK
  obtain ⟨rfl, hZ, hh⟩ := hP
  have hx := Bd.exec
  have hby := Bd.bytes
  have hml : c.maxLocals = 3 := hml0
  have hown : s.vm.findClass "java/lang/String" = some m.cls := findClass_of_methodNamed Bd.named
  have hnm := (name_of_methodNamed Bd.named Bd.method).1
  have X0 : Stand p l e ({ frames := 1, cells := 0, slots := 0, locals := 14 } : Room) s m #[(.ref a1), (.ref a2)] below meth c s₁ [] 0 0 := Stand.of_body Bd
  have e0 : s₁.heap = h0 := by rw [← hh, Bd.state]; rfl
  have N0 := Fr.nil n0
  refine of_go (ef_rmSe9_9 m a1 a2) ?_
  refine Go.step (T' := s₁) (f' := (mkF m 1 #[.val (.ref a1), .val (.ref a2), .unset] [(.ref a1)])) (fun _ k => XS.aloadN X0.here hx rfl (hb hby d11_0) rfl rfl k) ?_
  refine Go.step (T' := s₁) (f' := (mkF m 2 #[.val (.ref a1), .val (.ref a2), .unset] [(.ref a2), (.ref a1)])) (fun _ k => XS.aloadN X0.here hx rfl (hb hby d11_1) rfl rfl k) ?_
  refine Go.step (T' := s₁) (f' := (mkF m 7 #[.val (.ref a1), .val (.ref a2), .unset] [])) (fun _ k => Jvm.RoadKit.acmp (g := (mkF m 2 #[.val (.ref a1), .val (.ref a2), .unset] [(.ref a2), (.ref a1)])) X0 hx rfl rfl rfl (pc0 := 2) (pc' := 7) (same := false) rfl (hb hby d11_2) rfl (decide_eq_false fun q => hne (Value.ref.inj q)) (by decide) (by decide) k) ?_
  refine Go.step (T' := s₁) (f' := (mkF m 8 #[.val (.ref a1), .val (.ref a2), .unset] [(.ref a2)])) (fun _ k => XS.aloadN X0.here hx rfl (hb hby d11_7) rfl rfl k) ?_
  obtain ⟨T1, X1, e1, st1⟩ := instY X0 hx hZ hown (hw _ (List.mem_of_getElem? (i := 74) rfl)) e0 (Ins.self E_a2) (g := (mkF m 8 #[.val (.ref a1), .val (.ref a2), .unset] [(.ref a2)])) rfl rfl (hb hby d11_8)
  refine Go.step (T' := T1) (f' := (mkF m 11 #[.val (.ref a1), .val (.ref a2), .unset] [(.int (1 : Int32))])) st1 ?_
  refine Go.step (T' := T1) (f' := (mkF m 14 #[.val (.ref a1), .val (.ref a2), .unset] [])) (fun _ k => XS.ifNo X1.here hx rfl (hb hby d11_11) rfl ((if0 _ _).trans (feq (by decide : ¬ ((1 : Int32) = (0 : Int32)))).1) k) ?_
  refine Go.step (T' := T1) (f' := (mkF m 15 #[.val (.ref a1), .val (.ref a2), .unset] [(.ref a2)])) (fun _ k => XS.aloadN X1.here hx rfl (hb hby d11_14) rfl rfl k) ?_
  obtain ⟨T2, X2, e2, st2⟩ := castY X1 hx hZ hown (hw _ (List.mem_of_getElem? (i := 74) rfl)) e1 (Ins.self E_a2) (g := (mkF m 15 #[.val (.ref a1), .val (.ref a2), .unset] [(.ref a2)])) rfl rfl (hb hby d11_15)
  refine Go.step (T' := T2) (f' := (mkF m 18 #[.val (.ref a1), .val (.ref a2), .unset] [(.ref a2)])) st2 ?_
  refine Go.step (T' := T2) (f' := (mkF m 19 #[.val (.ref a1), .val (.ref a2), .val (.ref a2)] [])) (fun _ k => XS.astoreN X2.here hx rfl (hb hby d11_18) rfl rfl (l' := #[.val (.ref a1), .val (.ref a2), .val (.ref a2)]) rfl k) ?_
  obtain ⟨T3, X3, e3, st3⟩ := getS2 X2 hx hZ hown (host := "") (Or.inl (hw _ (List.mem_of_getElem? (i := 18) rfl))) Via.refl e2 (S_COMPACT_STRINGS.ext O0.2) (g := (mkF m 19 #[.val (.ref a1), .val (.ref a2), .val (.ref a2)] [])) rfl (hb hby d11_19)
  refine Go.step (T' := T3) (f' := (mkF m 22 #[.val (.ref a1), .val (.ref a2), .val (.ref a2)] [(.int cs)])) st3 ?_
  refine Go.step (T' := T3) (f' := (mkF m 25 #[.val (.ref a1), .val (.ref a2), .val (.ref a2)] [])) (fun _ k => XS.ifNo X3.here hx rfl (hb hby d11_22) rfl ((if0 _ _).trans (feq hcs).1) k) ?_
  refine Go.step (T' := T3) (f' := (mkF m 26 #[.val (.ref a1), .val (.ref a2), .val (.ref a2)] [(.ref a1)])) (fun _ k => XS.aloadN X3.here hx rfl (hb hby d11_25) rfl rfl k) ?_
  obtain ⟨T4, X4, e4, st4⟩ := getF X3 hx hZ hown (host := "") (Or.inl (hw _ (List.mem_of_getElem? (i := 30) rfl))) Via.refl e3 F_coder_a1 (g := (mkF m 26 #[.val (.ref a1), .val (.ref a2), .val (.ref a2)] [(.ref a1)])) rfl rfl (hb hby d11_26)
  refine Go.step (T' := T4) (f' := (mkF m 29 #[.val (.ref a1), .val (.ref a2), .val (.ref a2)] [(.int (0 : Int32))])) st4 ?_
  refine Go.step (T' := T4) (f' := (mkF m 30 #[.val (.ref a1), .val (.ref a2), .val (.ref a2)] [(.ref a2), (.int (0 : Int32))])) (fun _ k => XS.aloadN X4.here hx rfl (hb hby d11_29) rfl rfl k) ?_
  obtain ⟨T5, X5, e5, st5⟩ := getF X4 hx hZ hown (host := "") (Or.inl (hw _ (List.mem_of_getElem? (i := 30) rfl))) Via.refl e4 F_coder_a2 (g := (mkF m 30 #[.val (.ref a1), .val (.ref a2), .val (.ref a2)] [(.ref a2), (.int (0 : Int32))])) rfl rfl (hb hby d11_30)
  refine Go.step (T' := T5) (f' := (mkF m 33 #[.val (.ref a1), .val (.ref a2), .val (.ref a2)] [(.int (0 : Int32)), (.int (0 : Int32))])) st5 ?_
  refine Go.step (T' := T5) (f' := (mkF m 36 #[.val (.ref a1), .val (.ref a2), .val (.ref a2)] [])) (fun _ k => XS.icmpNo X5.here hx rfl (hb hby d11_33) rfl (teq (by decide : (0 : Int32) = (0 : Int32))).2 k) ?_
  refine Go.step (T' := T5) (f' := (mkF m 37 #[.val (.ref a1), .val (.ref a2), .val (.ref a2)] [(.ref a1)])) (fun _ k => XS.aloadN X5.here hx rfl (hb hby d11_36) rfl rfl k) ?_
  obtain ⟨T6, X6, e6, st6⟩ := getF X5 hx hZ hown (host := "") (Or.inl (hw _ (List.mem_of_getElem? (i := 32) rfl))) Via.refl e5 F_value_a1 (g := (mkF m 37 #[.val (.ref a1), .val (.ref a2), .val (.ref a2)] [(.ref a1)])) rfl rfl (hb hby d11_37)
  refine Go.step (T' := T6) (f' := (mkF m 40 #[.val (.ref a1), .val (.ref a2), .val (.ref a2)] [(.ref v1)])) st6 ?_
  refine Go.step (T' := T6) (f' := (mkF m 41 #[.val (.ref a1), .val (.ref a2), .val (.ref a2)] [(.ref a2), (.ref v1)])) (fun _ k => XS.aloadN X6.here hx rfl (hb hby d11_40) rfl rfl k) ?_
  obtain ⟨T7, X7, e7, st7⟩ := getF X6 hx hZ hown (host := "") (Or.inl (hw _ (List.mem_of_getElem? (i := 32) rfl))) Via.refl e6 F_value_a2 (g := (mkF m 41 #[.val (.ref a1), .val (.ref a2), .val (.ref a2)] [(.ref a2), (.ref v1)])) rfl rfl (hb hby d11_41)
  refine Go.step (T' := T7) (f' := (mkF m 44 #[.val (.ref a1), .val (.ref a2), .val (.ref a2)] [(.ref v2), (.ref v1)])) st7 ?_
  obtain ⟨_, _, ⟨T8, L8, kk8, nn8⟩, -, X8, ⟨Lc8, hQ8, lq8, yq8, zq8⟩, st8⟩ := Jvm.LawKit.callS X7 hx (y := (⟨"java/lang/StringLatin1", "equals", "([B[B)Z"⟩ : MethodName)) hown (mvT hZ (hw _ (List.mem_of_getElem? (i := 75) rfl))) (mvT hZ (hw _ (List.mem_of_getElem? (i := 76) rfl))) (mvT hZ (hw _ (List.mem_of_getElem? (i := 77) rfl))) (mvT hZ (hw _ (List.mem_of_getElem? (i := 78) rfl))) (by decide) (backOf (W := 0) (rmLe9_9 l Z a0 hw [] v1 v2 k1 k2 x0 x1 x2 x3 x4 x5 x6 x7 x8 h0 n0 Z0 V_v1 V_v2) hZ (hw _ (List.mem_of_getElem? (i := 78) rfl)) (hw _ (List.mem_of_getElem? (i := 77) rfl)) (by decide) (by decide)) (g := (mkF m 44 #[.val (.ref a1), .val (.ref a2), .val (.ref a2)] [(.ref v2), (.ref v1)])) rfl (by rw [hml]; rfl) (argsL := [(.ref v1), (.ref v2)]) (rest := []) (lenOf pd_4 rfl) rfl (by show 2 * 0 + _ ≤ _; exact Nat.le_of_eq rfl) (hb hby d11_44) (fun _ _ => ⟨rfl, e7, (by decide : 0 + 0 ≤ _), (by decide : 0 + 0 ≤ _)⟩)
  dsimp only [Pt.U, Pt.locs, Pt.cells, Pt.slots] at X8 lq8 yq8 zq8 st8 hQ8
  subst yq8 zq8
  obtain ⟨rfl, Nq8, eh8⟩ := hQ8
  have N8 : Fr n0 L8 := by rw [lq8]; exact Fr.app N0 Nq8
  refine Go.step (T' := T8) (f' := (mkF m 47 #[.val (.ref a1), .val (.ref a2), .val (.ref a2)] [(.int (1 : Int32))])) st8 ?_
  refine Go.step (T' := T8) (f' := (mkF m 50 #[.val (.ref a1), .val (.ref a2), .val (.ref a2)] [])) (fun _ k => XS.ifNo X8.here hx rfl (hb hby d11_47) rfl ((if0 _ _).trans (feq (by decide : ¬ ((1 : Int32) = (0 : Int32)))).1) k) ?_
  refine Go.step (T' := T8) (f' := (mkF m 51 #[.val (.ref a1), .val (.ref a2), .val (.ref a2)] [(.int (1 : Int32))])) (fun _ k => XS.iconst X8.here hx rfl (hb hby d11_50) k) ?_
  refine Go.step (T' := T8) (f' := (mkF m 55 #[.val (.ref a1), .val (.ref a2), .val (.ref a2)] [(.int (1 : Int32))])) (fun _ k => XS.goto X8.here hx rfl (pc0 := 51) (pc' := 55) rfl (hb hby d11_51) (by decide) (by decide) k) ?_
  refine goN X8 hx (t := .boolean) Bd.returns (by simp) Bd.notSynchronized (hb hby d11_55) ?_ (by decide) (by decide)
  show Q_rmSe9_9 Z a1 a2 cs v1 v2 k1 k2 x0 x1 x2 x3 x4 x5 x6 x7 x8 h0 n0 _ T8.heap _
  rw [eh8]
  exact ⟨rfl, N8, rfl⟩
theorem ef_rmLe9_11 (m : MethodId) (a1 : Addr) (a2 : Addr) : entryFrame m #[(.ref a1), (.ref a2)] 3 = mkF m 0 #[.val (.ref a1), .val (.ref a2), .unset] [] := by first | (simp [entryFrame, mkF, argsToLocals, Value.category]; done) | rfl
def Q_rmLe9_11 (Z : State) (a1 : Addr) (a2 : Addr) (k1 : ClassId) (k2 : ClassId) (x0 : Int32) (x1 : Int32) (x2 : Int32) (x3 : Int32) (x4 : Int32) (x5 : Int32) (x6 : Int32) (x7 : Int32) (x8 : Int32) (y0 : Int32) (y1 : Int32) (y2 : Int32) (y3 : Int32) (y4 : Int32) (y5 : Int32) (y6 : Int32) (y7 : Int32) (y8 : Int32) (y9 : Int32) (y10 : Int32) (h0 : Heap) (n0 : Nat) (rv : Option Value) (hq : Heap) (Lq : List Loc) : Prop := rv = some (.int (0 : Int32)) ∧ Fr n0 Lq ∧ hq = h0
set_option maxRecDepth 65536 in
set_option maxHeartbeats 40000000 in
theorem rmLe9_11 (l : Launch) (Z : State) (a0 : Array Value) (hw : ∀ d ∈ tables_1, d.before a0 Z = true) (ws : List Jvm.Cond) (a1 : Addr) (a2 : Addr) (k1 : ClassId) (k2 : ClassId) (x0 : Int32) (x1 : Int32) (x2 : Int32) (x3 : Int32) (x4 : Int32) (x5 : Int32) (x6 : Int32) (x7 : Int32) (x8 : Int32) (y0 : Int32) (y1 : Int32) (y2 : Int32) (y3 : Int32) (y4 : Int32) (y5 : Int32) (y6 : Int32) (y7 : Int32) (y8 : Int32) (y9 : Int32) (y10 : Int32) (h0 : Heap) (n0 : Nat) (Z0 : n0 ≤ h0.size) (V_a1 : Arv Z h0 a1 k1 .byte (9 : Int32) [(.int x0), (.int x1), (.int x2), (.int x3), (.int x4), (.int x5), (.int x6), (.int x7), (.int x8)] (.int (0 : Int32))) (V_a2 : Arv Z h0 a2 k2 .byte (11 : Int32) [(.int y0), (.int y1), (.int y2), (.int y3), (.int y4), (.int y5), (.int y6), (.int y7), (.int y8), (.int y9), (.int y10)] (.int (0 : Int32))) :
    MetFree l (⟨"java/lang/StringLatin1", "equals", "([B[B)Z"⟩ : MethodName) (head1 (Jvm.Cond.code (⟨"java/lang/StringLatin1", "equals", "([B[B)Z"⟩ : MethodName) jdk_43_method_13_code 3 (some .boolean) :: ws) ({ frames := 0, cells := 0, slots := 0, locals := 0 } : Room)) (fun a U => a = #[(.ref a1), (.ref a2)] ∧ Z.Warmed39 U.vm ∧ U.heap = h0) (fun _ _ _ _ _ => True) (fun _ U o U' => ∃ rv Lq, o = .returned rv ∧ Q_rmLe9_11 Z a1 a2 k1 k2 x0 x1 x2 x3 x4 x5 x6 x7 x8 y0 y1 y2 y3 y4 y5 y6 y7 y8 y9 y10 h0 n0 rv U'.heap Lq ∧ FrameEnd U o U' Lq ({ frames := 0, cells := 0, slots := 0, locals := 0 } : Room).cells ({ frames := 0, cells := 0, slots := 0, locals := 0 } : Room).slots) := by
  refine MetFree.of_bodySF (plainFor_of_name pn_12) hisR ?_
  intro p e s m args below meth c s₁ Bd hml0 hP hK
  obtain ⟨rfl, hZ, hh⟩ := hP
  have hx := Bd.exec
  have hby := Bd.bytes
  have hml : c.maxLocals = 3 := hml0
  have hown : s.vm.findClass "java/lang/StringLatin1" = some m.cls := findClass_of_methodNamed Bd.named
  have hnm := (name_of_methodNamed Bd.named Bd.method).1
  have X0 : Stand p l e ({ frames := 0, cells := 0, slots := 0, locals := 0 } : Room) s m #[(.ref a1), (.ref a2)] below meth c s₁ [] 0 0 := Stand.of_body Bd
  have e0 : s₁.heap = h0 := by rw [← hh, Bd.state]; rfl
  have N0 := Fr.nil n0
  refine of_go (ef_rmLe9_11 m a1 a2) ?_
  refine Go.step (T' := s₁) (f' := (mkF m 1 #[.val (.ref a1), .val (.ref a2), .unset] [(.ref a1)])) (fun _ k => XS.aloadN X0.here hx rfl (hb hby d12_0) rfl rfl k) ?_
  obtain ⟨cl1, Ar1, qc1, Sz1, Nn1, Hs1, Gf1⟩ := id V_a1
  have hlen1 := X0.arraylength hx (by rw [e0]; exact Ar1.1) (State.isArrayOf_alike hZ.alike Ar1.2.1) (g := (mkF m 1 #[.val (.ref a1), .val (.ref a2), .unset] [(.ref a1)])) rfl rfl (hb hby d12_1)
  rw [len_of Sz1 Nn1] at hlen1
  refine Go.step (T' := s₁) (f' := (mkF m 2 #[.val (.ref a1), .val (.ref a2), .unset] [(.int (9 : Int32))])) (fun _ k => hlen1 _ k) ?_
  refine Go.step (T' := s₁) (f' := (mkF m 3 #[.val (.ref a1), .val (.ref a2), .unset] [(.ref a2), (.int (9 : Int32))])) (fun _ k => XS.aloadN X0.here hx rfl (hb hby d12_2) rfl rfl k) ?_
  obtain ⟨cl2, Ar2, qc2, Sz2, Nn2, Hs2, Gf2⟩ := id V_a2
  have hlen2 := X0.arraylength hx (by rw [e0]; exact Ar2.1) (State.isArrayOf_alike hZ.alike Ar2.2.1) (g := (mkF m 3 #[.val (.ref a1), .val (.ref a2), .unset] [(.ref a2), (.int (9 : Int32))])) rfl rfl (hb hby d12_3)
  rw [len_of Sz2 Nn2] at hlen2
  refine Go.step (T' := s₁) (f' := (mkF m 4 #[.val (.ref a1), .val (.ref a2), .unset] [(.int (11 : Int32)), (.int (9 : Int32))])) (fun _ k => hlen2 _ k) ?_
  refine Go.step (T' := s₁) (f' := (mkF m 34 #[.val (.ref a1), .val (.ref a2), .unset] [])) (fun _ k => XS.icmpYes X0.here hx rfl (pc0 := 4) (pc' := 34) rfl (hb hby d12_4) rfl (feq (by decide : ¬ ((9 : Int32) = (11 : Int32)))).2 (by decide) (by decide) k) ?_
  refine Go.step (T' := s₁) (f' := (mkF m 35 #[.val (.ref a1), .val (.ref a2), .unset] [(.int (0 : Int32))])) (fun _ k => XS.iconst X0.here hx rfl (hb hby d12_34) k) ?_
  refine goN X0 hx (t := .boolean) Bd.returns (by simp) Bd.notSynchronized (hb hby d12_35) ?_ (by decide) (by decide)
  show Q_rmLe9_11 Z a1 a2 k1 k2 x0 x1 x2 x3 x4 x5 x6 x7 x8 y0 y1 y2 y3 y4 y5 y6 y7 y8 y9 y10 h0 n0 _ s₁.heap _
  rw [e0]
  exact ⟨rfl, N0, rfl⟩
theorem ef_rmSe9_11 (m : MethodId) (a1 : Addr) (a2 : Addr) : entryFrame m #[(.ref a1), (.ref a2)] 3 = mkF m 0 #[.val (.ref a1), .val (.ref a2), .unset] [] := by first | (simp [entryFrame, mkF, argsToLocals, Value.category]; done) | rfl
def Q_rmSe9_11 (Z : State) (a1 : Addr) (a2 : Addr) (cs : Int32) (v1 : Addr) (v2 : Addr) (k1 : ClassId) (k2 : ClassId) (x0 : Int32) (x1 : Int32) (x2 : Int32) (x3 : Int32) (x4 : Int32) (x5 : Int32) (x6 : Int32) (x7 : Int32) (x8 : Int32) (y0 : Int32) (y1 : Int32) (y2 : Int32) (y3 : Int32) (y4 : Int32) (y5 : Int32) (y6 : Int32) (y7 : Int32) (y8 : Int32) (y9 : Int32) (y10 : Int32) (h0 : Heap) (n0 : Nat) (rv : Option Value) (hq : Heap) (Lq : List Loc) : Prop := rv = some (.int (0 : Int32)) ∧ Fr n0 Lq ∧ hq = h0
set_option maxRecDepth 65536 in
set_option maxHeartbeats 40000000 in
theorem rmSe9_11 (l : Launch) (Z : State) (a0 : Array Value) (hw : ∀ d ∈ tables_1, d.before a0 Z = true) (ws : List Jvm.Cond) (a1 : Addr) (a2 : Addr) (cs : Int32) (v1 : Addr) (v2 : Addr) (k1 : ClassId) (k2 : ClassId) (x0 : Int32) (x1 : Int32) (x2 : Int32) (x3 : Int32) (x4 : Int32) (x5 : Int32) (x6 : Int32) (x7 : Int32) (x8 : Int32) (y0 : Int32) (y1 : Int32) (y2 : Int32) (y3 : Int32) (y4 : Int32) (y5 : Int32) (y6 : Int32) (y7 : Int32) (y8 : Int32) (y9 : Int32) (y10 : Int32) (h0 : Heap) (n0 : Nat) (Z0 : n0 ≤ h0.size) (E_a1 : Exa Z h0 a1 "java/lang/String") (F_coder_a1 : Fld Z h0 a1 "java/lang/String" "coder" "B" (.int (0 : Int32))) (F_value_a1 : Fld Z h0 a1 "java/lang/String" "value" "[B" (.ref v1)) (V_v1 : Arv Z h0 v1 k1 .byte (9 : Int32) [(.int x0), (.int x1), (.int x2), (.int x3), (.int x4), (.int x5), (.int x6), (.int x7), (.int x8)] (.int (0 : Int32))) (E_a2 : Exa Z h0 a2 "java/lang/String") (F_coder_a2 : Fld Z h0 a2 "java/lang/String" "coder" "B" (.int (0 : Int32))) (F_value_a2 : Fld Z h0 a2 "java/lang/String" "value" "[B" (.ref v2)) (V_v2 : Arv Z h0 v2 k2 .byte (11 : Int32) [(.int y0), (.int y1), (.int y2), (.int y3), (.int y4), (.int y5), (.int y6), (.int y7), (.int y8), (.int y9), (.int y10)] (.int (0 : Int32))) (O0 : Old Z n0 h0) (S_COMPACT_STRINGS : Sta Z Z.heap "java/lang/String" "COMPACT_STRINGS" "Z" (.int cs)) (hcs : ¬ cs = (0 : Int32)) (hne : a1 ≠ a2) :
    MetFree l (⟨"java/lang/String", "equals", "(Ljava/lang/Object;)Z"⟩ : MethodName) (head1 (Jvm.Cond.code (⟨"java/lang/String", "equals", "(Ljava/lang/Object;)Z"⟩ : MethodName) jdk_42_method_66_code 3 (some .boolean) :: ws) ({ frames := 1, cells := 0, slots := 0, locals := 14 } : Room)) (fun a U => a = #[(.ref a1), (.ref a2)] ∧ Z.Warmed39 U.vm ∧ U.heap = h0) (fun _ _ _ _ _ => True) (fun _ U o U' => ∃ rv Lq, o = .returned rv ∧ Q_rmSe9_11 Z a1 a2 cs v1 v2 k1 k2 x0 x1 x2 x3 x4 x5 x6 x7 x8 y0 y1 y2 y3 y4 y5 y6 y7 y8 y9 y10 h0 n0 rv U'.heap Lq ∧ FrameEnd U o U' Lq ({ frames := 1, cells := 0, slots := 0, locals := 14 } : Room).cells ({ frames := 1, cells := 0, slots := 0, locals := 14 } : Room).slots) := by
  refine MetFree.of_bodySF (plainFor_of_name pn_2) hisR ?_
  intro p e s m args below meth c s₁ Bd hml0 hP hK
  obtain ⟨rfl, hZ, hh⟩ := hP
  have hx := Bd.exec
  have hby := Bd.bytes
  have hml : c.maxLocals = 3 := hml0
  have hown : s.vm.findClass "java/lang/String" = some m.cls := findClass_of_methodNamed Bd.named
  have hnm := (name_of_methodNamed Bd.named Bd.method).1
  have X0 : Stand p l e ({ frames := 1, cells := 0, slots := 0, locals := 14 } : Room) s m #[(.ref a1), (.ref a2)] below meth c s₁ [] 0 0 := Stand.of_body Bd
  have e0 : s₁.heap = h0 := by rw [← hh, Bd.state]; rfl
  have N0 := Fr.nil n0
  refine of_go (ef_rmSe9_11 m a1 a2) ?_
  refine Go.step (T' := s₁) (f' := (mkF m 1 #[.val (.ref a1), .val (.ref a2), .unset] [(.ref a1)])) (fun _ k => XS.aloadN X0.here hx rfl (hb hby d11_0) rfl rfl k) ?_
  refine Go.step (T' := s₁) (f' := (mkF m 2 #[.val (.ref a1), .val (.ref a2), .unset] [(.ref a2), (.ref a1)])) (fun _ k => XS.aloadN X0.here hx rfl (hb hby d11_1) rfl rfl k) ?_
  refine Go.step (T' := s₁) (f' := (mkF m 7 #[.val (.ref a1), .val (.ref a2), .unset] [])) (fun _ k => Jvm.RoadKit.acmp (g := (mkF m 2 #[.val (.ref a1), .val (.ref a2), .unset] [(.ref a2), (.ref a1)])) X0 hx rfl rfl rfl (pc0 := 2) (pc' := 7) (same := false) rfl (hb hby d11_2) rfl (decide_eq_false fun q => hne (Value.ref.inj q)) (by decide) (by decide) k) ?_
  refine Go.step (T' := s₁) (f' := (mkF m 8 #[.val (.ref a1), .val (.ref a2), .unset] [(.ref a2)])) (fun _ k => XS.aloadN X0.here hx rfl (hb hby d11_7) rfl rfl k) ?_
  obtain ⟨T1, X1, e1, st1⟩ := instY X0 hx hZ hown (hw _ (List.mem_of_getElem? (i := 74) rfl)) e0 (Ins.self E_a2) (g := (mkF m 8 #[.val (.ref a1), .val (.ref a2), .unset] [(.ref a2)])) rfl rfl (hb hby d11_8)
  refine Go.step (T' := T1) (f' := (mkF m 11 #[.val (.ref a1), .val (.ref a2), .unset] [(.int (1 : Int32))])) st1 ?_
  refine Go.step (T' := T1) (f' := (mkF m 14 #[.val (.ref a1), .val (.ref a2), .unset] [])) (fun _ k => XS.ifNo X1.here hx rfl (hb hby d11_11) rfl ((if0 _ _).trans (feq (by decide : ¬ ((1 : Int32) = (0 : Int32)))).1) k) ?_
  refine Go.step (T' := T1) (f' := (mkF m 15 #[.val (.ref a1), .val (.ref a2), .unset] [(.ref a2)])) (fun _ k => XS.aloadN X1.here hx rfl (hb hby d11_14) rfl rfl k) ?_
  obtain ⟨T2, X2, e2, st2⟩ := castY X1 hx hZ hown (hw _ (List.mem_of_getElem? (i := 74) rfl)) e1 (Ins.self E_a2) (g := (mkF m 15 #[.val (.ref a1), .val (.ref a2), .unset] [(.ref a2)])) rfl rfl (hb hby d11_15)
  refine Go.step (T' := T2) (f' := (mkF m 18 #[.val (.ref a1), .val (.ref a2), .unset] [(.ref a2)])) st2 ?_
  refine Go.step (T' := T2) (f' := (mkF m 19 #[.val (.ref a1), .val (.ref a2), .val (.ref a2)] [])) (fun _ k => XS.astoreN X2.here hx rfl (hb hby d11_18) rfl rfl (l' := #[.val (.ref a1), .val (.ref a2), .val (.ref a2)]) rfl k) ?_
  obtain ⟨T3, X3, e3, st3⟩ := getS2 X2 hx hZ hown (host := "") (Or.inl (hw _ (List.mem_of_getElem? (i := 18) rfl))) Via.refl e2 (S_COMPACT_STRINGS.ext O0.2) (g := (mkF m 19 #[.val (.ref a1), .val (.ref a2), .val (.ref a2)] [])) rfl (hb hby d11_19)
  refine Go.step (T' := T3) (f' := (mkF m 22 #[.val (.ref a1), .val (.ref a2), .val (.ref a2)] [(.int cs)])) st3 ?_
  refine Go.step (T' := T3) (f' := (mkF m 25 #[.val (.ref a1), .val (.ref a2), .val (.ref a2)] [])) (fun _ k => XS.ifNo X3.here hx rfl (hb hby d11_22) rfl ((if0 _ _).trans (feq hcs).1) k) ?_
  refine Go.step (T' := T3) (f' := (mkF m 26 #[.val (.ref a1), .val (.ref a2), .val (.ref a2)] [(.ref a1)])) (fun _ k => XS.aloadN X3.here hx rfl (hb hby d11_25) rfl rfl k) ?_
  obtain ⟨T4, X4, e4, st4⟩ := getF X3 hx hZ hown (host := "") (Or.inl (hw _ (List.mem_of_getElem? (i := 30) rfl))) Via.refl e3 F_coder_a1 (g := (mkF m 26 #[.val (.ref a1), .val (.ref a2), .val (.ref a2)] [(.ref a1)])) rfl rfl (hb hby d11_26)
  refine Go.step (T' := T4) (f' := (mkF m 29 #[.val (.ref a1), .val (.ref a2), .val (.ref a2)] [(.int (0 : Int32))])) st4 ?_
  refine Go.step (T' := T4) (f' := (mkF m 30 #[.val (.ref a1), .val (.ref a2), .val (.ref a2)] [(.ref a2), (.int (0 : Int32))])) (fun _ k => XS.aloadN X4.here hx rfl (hb hby d11_29) rfl rfl k) ?_
  obtain ⟨T5, X5, e5, st5⟩ := getF X4 hx hZ hown (host := "") (Or.inl (hw _ (List.mem_of_getElem? (i := 30) rfl))) Via.refl e4 F_coder_a2 (g := (mkF m 30 #[.val (.ref a1), .val (.ref a2), .val (.ref a2)] [(.ref a2), (.int (0 : Int32))])) rfl rfl (hb hby d11_30)
  refine Go.step (T' := T5) (f' := (mkF m 33 #[.val (.ref a1), .val (.ref a2), .val (.ref a2)] [(.int (0 : Int32)), (.int (0 : Int32))])) st5 ?_
  refine Go.step (T' := T5) (f' := (mkF m 36 #[.val (.ref a1), .val (.ref a2), .val (.ref a2)] [])) (fun _ k => XS.icmpNo X5.here hx rfl (hb hby d11_33) rfl (teq (by decide : (0 : Int32) = (0 : Int32))).2 k) ?_
  refine Go.step (T' := T5) (f' := (mkF m 37 #[.val (.ref a1), .val (.ref a2), .val (.ref a2)] [(.ref a1)])) (fun _ k => XS.aloadN X5.here hx rfl (hb hby d11_36) rfl rfl k) ?_
  obtain ⟨T6, X6, e6, st6⟩ := getF X5 hx hZ hown (host := "") (Or.inl (hw _ (List.mem_of_getElem? (i := 32) rfl))) Via.refl e5 F_value_a1 (g := (mkF m 37 #[.val (.ref a1), .val (.ref a2), .val (.ref a2)] [(.ref a1)])) rfl rfl (hb hby d11_37)
  refine Go.step (T' := T6) (f' := (mkF m 40 #[.val (.ref a1), .val (.ref a2), .val (.ref a2)] [(.ref v1)])) st6 ?_
  refine Go.step (T' := T6) (f' := (mkF m 41 #[.val (.ref a1), .val (.ref a2), .val (.ref a2)] [(.ref a2), (.ref v1)])) (fun _ k => XS.aloadN X6.here hx rfl (hb hby d11_40) rfl rfl k) ?_
  obtain ⟨T7, X7, e7, st7⟩ := getF X6 hx hZ hown (host := "") (Or.inl (hw _ (List.mem_of_getElem? (i := 32) rfl))) Via.refl e6 F_value_a2 (g := (mkF m 41 #[.val (.ref a1), .val (.ref a2), .val (.ref a2)] [(.ref a2), (.ref v1)])) rfl rfl (hb hby d11_41)
  refine Go.step (T' := T7) (f' := (mkF m 44 #[.val (.ref a1), .val (.ref a2), .val (.ref a2)] [(.ref v2), (.ref v1)])) st7 ?_
  obtain ⟨_, _, ⟨T8, L8, kk8, nn8⟩, -, X8, ⟨Lc8, hQ8, lq8, yq8, zq8⟩, st8⟩ := Jvm.LawKit.callS X7 hx (y := (⟨"java/lang/StringLatin1", "equals", "([B[B)Z"⟩ : MethodName)) hown (mvT hZ (hw _ (List.mem_of_getElem? (i := 75) rfl))) (mvT hZ (hw _ (List.mem_of_getElem? (i := 76) rfl))) (mvT hZ (hw _ (List.mem_of_getElem? (i := 77) rfl))) (mvT hZ (hw _ (List.mem_of_getElem? (i := 78) rfl))) (by decide) (backOf (W := 0) (rmLe9_11 l Z a0 hw [] v1 v2 k1 k2 x0 x1 x2 x3 x4 x5 x6 x7 x8 y0 y1 y2 y3 y4 y5 y6 y7 y8 y9 y10 h0 n0 Z0 V_v1 V_v2) hZ (hw _ (List.mem_of_getElem? (i := 78) rfl)) (hw _ (List.mem_of_getElem? (i := 77) rfl)) (by decide) (by decide)) (g := (mkF m 44 #[.val (.ref a1), .val (.ref a2), .val (.ref a2)] [(.ref v2), (.ref v1)])) rfl (by rw [hml]; rfl) (argsL := [(.ref v1), (.ref v2)]) (rest := []) (lenOf pd_4 rfl) rfl (by show 2 * 0 + _ ≤ _; exact Nat.le_of_eq rfl) (hb hby d11_44) (fun _ _ => ⟨rfl, e7, (by decide : 0 + 0 ≤ _), (by decide : 0 + 0 ≤ _)⟩)
  dsimp only [Pt.U, Pt.locs, Pt.cells, Pt.slots] at X8 lq8 yq8 zq8 st8 hQ8
  subst yq8 zq8
  obtain ⟨rfl, Nq8, eh8⟩ := hQ8
  have N8 : Fr n0 L8 := by rw [lq8]; exact Fr.app N0 Nq8
  refine Go.step (T' := T8) (f' := (mkF m 47 #[.val (.ref a1), .val (.ref a2), .val (.ref a2)] [(.int (0 : Int32))])) st8 ?_
  refine Go.step (T' := T8) (f' := (mkF m 54 #[.val (.ref a1), .val (.ref a2), .val (.ref a2)] [])) (fun _ k => XS.ifYes X8.here hx rfl (pc0 := 47) (pc' := 54) rfl (hb hby d11_47) rfl ((if0 _ _).trans (teq (by decide : (0 : Int32) = (0 : Int32))).1) (by decide) (by decide) k) ?_
  refine Go.step (T' := T8) (f' := (mkF m 55 #[.val (.ref a1), .val (.ref a2), .val (.ref a2)] [(.int (0 : Int32))])) (fun _ k => XS.iconst X8.here hx rfl (hb hby d11_54) k) ?_
  refine goN X8 hx (t := .boolean) Bd.returns (by simp) Bd.notSynchronized (hb hby d11_55) ?_ (by decide) (by decide)
  show Q_rmSe9_11 Z a1 a2 cs v1 v2 k1 k2 x0 x1 x2 x3 x4 x5 x6 x7 x8 y0 y1 y2 y3 y4 y5 y6 y7 y8 y9 y10 h0 n0 _ T8.heap _
  rw [eh8]
  exact ⟨rfl, N8, rfl⟩
theorem ef_rmLe11_8 (m : MethodId) (a1 : Addr) (a2 : Addr) : entryFrame m #[(.ref a1), (.ref a2)] 3 = mkF m 0 #[.val (.ref a1), .val (.ref a2), .unset] [] := by first | (simp [entryFrame, mkF, argsToLocals, Value.category]; done) | rfl
def Q_rmLe11_8 (Z : State) (a1 : Addr) (a2 : Addr) (k1 : ClassId) (k2 : ClassId) (x0 : Int32) (x1 : Int32) (x2 : Int32) (x3 : Int32) (x4 : Int32) (x5 : Int32) (x6 : Int32) (x7 : Int32) (x8 : Int32) (x9 : Int32) (x10 : Int32) (y0 : Int32) (y1 : Int32) (y2 : Int32) (y3 : Int32) (y4 : Int32) (y5 : Int32) (y6 : Int32) (y7 : Int32) (h0 : Heap) (n0 : Nat) (rv : Option Value) (hq : Heap) (Lq : List Loc) : Prop := rv = some (.int (0 : Int32)) ∧ Fr n0 Lq ∧ hq = h0
set_option maxRecDepth 65536 in
set_option maxHeartbeats 40000000 in
theorem rmLe11_8 (l : Launch) (Z : State) (a0 : Array Value) (hw : ∀ d ∈ tables_1, d.before a0 Z = true) (ws : List Jvm.Cond) (a1 : Addr) (a2 : Addr) (k1 : ClassId) (k2 : ClassId) (x0 : Int32) (x1 : Int32) (x2 : Int32) (x3 : Int32) (x4 : Int32) (x5 : Int32) (x6 : Int32) (x7 : Int32) (x8 : Int32) (x9 : Int32) (x10 : Int32) (y0 : Int32) (y1 : Int32) (y2 : Int32) (y3 : Int32) (y4 : Int32) (y5 : Int32) (y6 : Int32) (y7 : Int32) (h0 : Heap) (n0 : Nat) (Z0 : n0 ≤ h0.size) (V_a1 : Arv Z h0 a1 k1 .byte (11 : Int32) [(.int x0), (.int x1), (.int x2), (.int x3), (.int x4), (.int x5), (.int x6), (.int x7), (.int x8), (.int x9), (.int x10)] (.int (0 : Int32))) (V_a2 : Arv Z h0 a2 k2 .byte (8 : Int32) [(.int y0), (.int y1), (.int y2), (.int y3), (.int y4), (.int y5), (.int y6), (.int y7)] (.int (0 : Int32))) :
    MetFree l (⟨"java/lang/StringLatin1", "equals", "([B[B)Z"⟩ : MethodName) (head1 (Jvm.Cond.code (⟨"java/lang/StringLatin1", "equals", "([B[B)Z"⟩ : MethodName) jdk_43_method_13_code 3 (some .boolean) :: ws) ({ frames := 0, cells := 0, slots := 0, locals := 0 } : Room)) (fun a U => a = #[(.ref a1), (.ref a2)] ∧ Z.Warmed39 U.vm ∧ U.heap = h0) (fun _ _ _ _ _ => True) (fun _ U o U' => ∃ rv Lq, o = .returned rv ∧ Q_rmLe11_8 Z a1 a2 k1 k2 x0 x1 x2 x3 x4 x5 x6 x7 x8 x9 x10 y0 y1 y2 y3 y4 y5 y6 y7 h0 n0 rv U'.heap Lq ∧ FrameEnd U o U' Lq ({ frames := 0, cells := 0, slots := 0, locals := 0 } : Room).cells ({ frames := 0, cells := 0, slots := 0, locals := 0 } : Room).slots) := by
  refine MetFree.of_bodySF (plainFor_of_name pn_12) hisR ?_
  intro p e s m args below meth c s₁ Bd hml0 hP hK
  obtain ⟨rfl, hZ, hh⟩ := hP
  have hx := Bd.exec
  have hby := Bd.bytes
  have hml : c.maxLocals = 3 := hml0
  have hown : s.vm.findClass "java/lang/StringLatin1" = some m.cls := findClass_of_methodNamed Bd.named
  have hnm := (name_of_methodNamed Bd.named Bd.method).1
  have X0 : Stand p l e ({ frames := 0, cells := 0, slots := 0, locals := 0 } : Room) s m #[(.ref a1), (.ref a2)] below meth c s₁ [] 0 0 := Stand.of_body Bd
  have e0 : s₁.heap = h0 := by rw [← hh, Bd.state]; rfl
  have N0 := Fr.nil n0
  refine of_go (ef_rmLe11_8 m a1 a2) ?_
  refine Go.step (T' := s₁) (f' := (mkF m 1 #[.val (.ref a1), .val (.ref a2), .unset] [(.ref a1)])) (fun _ k => XS.aloadN X0.here hx rfl (hb hby d12_0) rfl rfl k) ?_
  obtain ⟨cl1, Ar1, qc1, Sz1, Nn1, Hs1, Gf1⟩ := id V_a1
  have hlen1 := X0.arraylength hx (by rw [e0]; exact Ar1.1) (State.isArrayOf_alike hZ.alike Ar1.2.1) (g := (mkF m 1 #[.val (.ref a1), .val (.ref a2), .unset] [(.ref a1)])) rfl rfl (hb hby d12_1)
  rw [len_of Sz1 Nn1] at hlen1
  refine Go.step (T' := s₁) (f' := (mkF m 2 #[.val (.ref a1), .val (.ref a2), .unset] [(.int (11 : Int32))])) (fun _ k => hlen1 _ k) ?_
  refine Go.step (T' := s₁) (f' := (mkF m 3 #[.val (.ref a1), .val (.ref a2), .unset] [(.ref a2), (.int (11 : Int32))])) (fun _ k => XS.aloadN X0.here hx rfl (hb hby d12_2) rfl rfl k) ?_
  obtain ⟨cl2, Ar2, qc2, Sz2, Nn2, Hs2, Gf2⟩ := id V_a2
  have hlen2 := X0.arraylength hx (by rw [e0]; exact Ar2.1) (State.isArrayOf_alike hZ.alike Ar2.2.1) (g := (mkF m 3 #[.val (.ref a1), .val (.ref a2), .unset] [(.ref a2), (.int (11 : Int32))])) rfl rfl (hb hby d12_3)
  rw [len_of Sz2 Nn2] at hlen2
  refine Go.step (T' := s₁) (f' := (mkF m 4 #[.val (.ref a1), .val (.ref a2), .unset] [(.int (8 : Int32)), (.int (11 : Int32))])) (fun _ k => hlen2 _ k) ?_
  refine Go.step (T' := s₁) (f' := (mkF m 34 #[.val (.ref a1), .val (.ref a2), .unset] [])) (fun _ k => XS.icmpYes X0.here hx rfl (pc0 := 4) (pc' := 34) rfl (hb hby d12_4) rfl (feq (by decide : ¬ ((11 : Int32) = (8 : Int32)))).2 (by decide) (by decide) k) ?_
  refine Go.step (T' := s₁) (f' := (mkF m 35 #[.val (.ref a1), .val (.ref a2), .unset] [(.int (0 : Int32))])) (fun _ k => XS.iconst X0.here hx rfl (hb hby d12_34) k) ?_
  refine goN X0 hx (t := .boolean) Bd.returns (by simp) Bd.notSynchronized (hb hby d12_35) ?_ (by decide) (by decide)
  show Q_rmLe11_8 Z a1 a2 k1 k2 x0 x1 x2 x3 x4 x5 x6 x7 x8 x9 x10 y0 y1 y2 y3 y4 y5 y6 y7 h0 n0 _ s₁.heap _
  rw [e0]
  exact ⟨rfl, N0, rfl⟩
theorem ef_rmSe11_8 (m : MethodId) (a1 : Addr) (a2 : Addr) : entryFrame m #[(.ref a1), (.ref a2)] 3 = mkF m 0 #[.val (.ref a1), .val (.ref a2), .unset] [] := by first | (simp [entryFrame, mkF, argsToLocals, Value.category]; done) | rfl
def Q_rmSe11_8 (Z : State) (a1 : Addr) (a2 : Addr) (cs : Int32) (v1 : Addr) (v2 : Addr) (k1 : ClassId) (k2 : ClassId) (x0 : Int32) (x1 : Int32) (x2 : Int32) (x3 : Int32) (x4 : Int32) (x5 : Int32) (x6 : Int32) (x7 : Int32) (x8 : Int32) (x9 : Int32) (x10 : Int32) (y0 : Int32) (y1 : Int32) (y2 : Int32) (y3 : Int32) (y4 : Int32) (y5 : Int32) (y6 : Int32) (y7 : Int32) (h0 : Heap) (n0 : Nat) (rv : Option Value) (hq : Heap) (Lq : List Loc) : Prop := rv = some (.int (0 : Int32)) ∧ Fr n0 Lq ∧ hq = h0
set_option maxRecDepth 65536 in
set_option maxHeartbeats 40000000 in
theorem rmSe11_8 (l : Launch) (Z : State) (a0 : Array Value) (hw : ∀ d ∈ tables_1, d.before a0 Z = true) (ws : List Jvm.Cond) (a1 : Addr) (a2 : Addr) (cs : Int32) (v1 : Addr) (v2 : Addr) (k1 : ClassId) (k2 : ClassId) (x0 : Int32) (x1 : Int32) (x2 : Int32) (x3 : Int32) (x4 : Int32) (x5 : Int32) (x6 : Int32) (x7 : Int32) (x8 : Int32) (x9 : Int32) (x10 : Int32) (y0 : Int32) (y1 : Int32) (y2 : Int32) (y3 : Int32) (y4 : Int32) (y5 : Int32) (y6 : Int32) (y7 : Int32) (h0 : Heap) (n0 : Nat) (Z0 : n0 ≤ h0.size) (E_a1 : Exa Z h0 a1 "java/lang/String") (F_coder_a1 : Fld Z h0 a1 "java/lang/String" "coder" "B" (.int (0 : Int32))) (F_value_a1 : Fld Z h0 a1 "java/lang/String" "value" "[B" (.ref v1)) (V_v1 : Arv Z h0 v1 k1 .byte (11 : Int32) [(.int x0), (.int x1), (.int x2), (.int x3), (.int x4), (.int x5), (.int x6), (.int x7), (.int x8), (.int x9), (.int x10)] (.int (0 : Int32))) (E_a2 : Exa Z h0 a2 "java/lang/String") (F_coder_a2 : Fld Z h0 a2 "java/lang/String" "coder" "B" (.int (0 : Int32))) (F_value_a2 : Fld Z h0 a2 "java/lang/String" "value" "[B" (.ref v2)) (V_v2 : Arv Z h0 v2 k2 .byte (8 : Int32) [(.int y0), (.int y1), (.int y2), (.int y3), (.int y4), (.int y5), (.int y6), (.int y7)] (.int (0 : Int32))) (O0 : Old Z n0 h0) (S_COMPACT_STRINGS : Sta Z Z.heap "java/lang/String" "COMPACT_STRINGS" "Z" (.int cs)) (hcs : ¬ cs = (0 : Int32)) (hne : a1 ≠ a2) :
    MetFree l (⟨"java/lang/String", "equals", "(Ljava/lang/Object;)Z"⟩ : MethodName) (head1 (Jvm.Cond.code (⟨"java/lang/String", "equals", "(Ljava/lang/Object;)Z"⟩ : MethodName) jdk_42_method_66_code 3 (some .boolean) :: ws) ({ frames := 1, cells := 0, slots := 0, locals := 14 } : Room)) (fun a U => a = #[(.ref a1), (.ref a2)] ∧ Z.Warmed39 U.vm ∧ U.heap = h0) (fun _ _ _ _ _ => True) (fun _ U o U' => ∃ rv Lq, o = .returned rv ∧ Q_rmSe11_8 Z a1 a2 cs v1 v2 k1 k2 x0 x1 x2 x3 x4 x5 x6 x7 x8 x9 x10 y0 y1 y2 y3 y4 y5 y6 y7 h0 n0 rv U'.heap Lq ∧ FrameEnd U o U' Lq ({ frames := 1, cells := 0, slots := 0, locals := 14 } : Room).cells ({ frames := 1, cells := 0, slots := 0, locals := 14 } : Room).slots) := by
  refine MetFree.of_bodySF (plainFor_of_name pn_2) hisR ?_
  intro p e s m args below meth c s₁ Bd hml0 hP hK
  obtain ⟨rfl, hZ, hh⟩ := hP
  have hx := Bd.exec
  have hby := Bd.bytes
  have hml : c.maxLocals = 3 := hml0
  have hown : s.vm.findClass "java/lang/String" = some m.cls := findClass_of_methodNamed Bd.named
  have hnm := (name_of_methodNamed Bd.named Bd.method).1
  have X0 : Stand p l e ({ frames := 1, cells := 0, slots := 0, locals := 14 } : Room) s m #[(.ref a1), (.ref a2)] below meth c s₁ [] 0 0 := Stand.of_body Bd
  have e0 : s₁.heap = h0 := by rw [← hh, Bd.state]; rfl
  have N0 := Fr.nil n0
  refine of_go (ef_rmSe11_8 m a1 a2) ?_
  refine Go.step (T' := s₁) (f' := (mkF m 1 #[.val (.ref a1), .val (.ref a2), .unset] [(.ref a1)])) (fun _ k => XS.aloadN X0.here hx rfl (hb hby d11_0) rfl rfl k) ?_
  refine Go.step (T' := s₁) (f' := (mkF m 2 #[.val (.ref a1), .val (.ref a2), .unset] [(.ref a2), (.ref a1)])) (fun _ k => XS.aloadN X0.here hx rfl (hb hby d11_1) rfl rfl k) ?_
  refine Go.step (T' := s₁) (f' := (mkF m 7 #[.val (.ref a1), .val (.ref a2), .unset] [])) (fun _ k => Jvm.RoadKit.acmp (g := (mkF m 2 #[.val (.ref a1), .val (.ref a2), .unset] [(.ref a2), (.ref a1)])) X0 hx rfl rfl rfl (pc0 := 2) (pc' := 7) (same := false) rfl (hb hby d11_2) rfl (decide_eq_false fun q => hne (Value.ref.inj q)) (by decide) (by decide) k) ?_
  refine Go.step (T' := s₁) (f' := (mkF m 8 #[.val (.ref a1), .val (.ref a2), .unset] [(.ref a2)])) (fun _ k => XS.aloadN X0.here hx rfl (hb hby d11_7) rfl rfl k) ?_
  obtain ⟨T1, X1, e1, st1⟩ := instY X0 hx hZ hown (hw _ (List.mem_of_getElem? (i := 74) rfl)) e0 (Ins.self E_a2) (g := (mkF m 8 #[.val (.ref a1), .val (.ref a2), .unset] [(.ref a2)])) rfl rfl (hb hby d11_8)
  refine Go.step (T' := T1) (f' := (mkF m 11 #[.val (.ref a1), .val (.ref a2), .unset] [(.int (1 : Int32))])) st1 ?_
  refine Go.step (T' := T1) (f' := (mkF m 14 #[.val (.ref a1), .val (.ref a2), .unset] [])) (fun _ k => XS.ifNo X1.here hx rfl (hb hby d11_11) rfl ((if0 _ _).trans (feq (by decide : ¬ ((1 : Int32) = (0 : Int32)))).1) k) ?_
  refine Go.step (T' := T1) (f' := (mkF m 15 #[.val (.ref a1), .val (.ref a2), .unset] [(.ref a2)])) (fun _ k => XS.aloadN X1.here hx rfl (hb hby d11_14) rfl rfl k) ?_
  obtain ⟨T2, X2, e2, st2⟩ := castY X1 hx hZ hown (hw _ (List.mem_of_getElem? (i := 74) rfl)) e1 (Ins.self E_a2) (g := (mkF m 15 #[.val (.ref a1), .val (.ref a2), .unset] [(.ref a2)])) rfl rfl (hb hby d11_15)
  refine Go.step (T' := T2) (f' := (mkF m 18 #[.val (.ref a1), .val (.ref a2), .unset] [(.ref a2)])) st2 ?_
  refine Go.step (T' := T2) (f' := (mkF m 19 #[.val (.ref a1), .val (.ref a2), .val (.ref a2)] [])) (fun _ k => XS.astoreN X2.here hx rfl (hb hby d11_18) rfl rfl (l' := #[.val (.ref a1), .val (.ref a2), .val (.ref a2)]) rfl k) ?_
  obtain ⟨T3, X3, e3, st3⟩ := getS2 X2 hx hZ hown (host := "") (Or.inl (hw _ (List.mem_of_getElem? (i := 18) rfl))) Via.refl e2 (S_COMPACT_STRINGS.ext O0.2) (g := (mkF m 19 #[.val (.ref a1), .val (.ref a2), .val (.ref a2)] [])) rfl (hb hby d11_19)
  refine Go.step (T' := T3) (f' := (mkF m 22 #[.val (.ref a1), .val (.ref a2), .val (.ref a2)] [(.int cs)])) st3 ?_
  refine Go.step (T' := T3) (f' := (mkF m 25 #[.val (.ref a1), .val (.ref a2), .val (.ref a2)] [])) (fun _ k => XS.ifNo X3.here hx rfl (hb hby d11_22) rfl ((if0 _ _).trans (feq hcs).1) k) ?_
  refine Go.step (T' := T3) (f' := (mkF m 26 #[.val (.ref a1), .val (.ref a2), .val (.ref a2)] [(.ref a1)])) (fun _ k => XS.aloadN X3.here hx rfl (hb hby d11_25) rfl rfl k) ?_
  obtain ⟨T4, X4, e4, st4⟩ := getF X3 hx hZ hown (host := "") (Or.inl (hw _ (List.mem_of_getElem? (i := 30) rfl))) Via.refl e3 F_coder_a1 (g := (mkF m 26 #[.val (.ref a1), .val (.ref a2), .val (.ref a2)] [(.ref a1)])) rfl rfl (hb hby d11_26)
  refine Go.step (T' := T4) (f' := (mkF m 29 #[.val (.ref a1), .val (.ref a2), .val (.ref a2)] [(.int (0 : Int32))])) st4 ?_
  refine Go.step (T' := T4) (f' := (mkF m 30 #[.val (.ref a1), .val (.ref a2), .val (.ref a2)] [(.ref a2), (.int (0 : Int32))])) (fun _ k => XS.aloadN X4.here hx rfl (hb hby d11_29) rfl rfl k) ?_
  obtain ⟨T5, X5, e5, st5⟩ := getF X4 hx hZ hown (host := "") (Or.inl (hw _ (List.mem_of_getElem? (i := 30) rfl))) Via.refl e4 F_coder_a2 (g := (mkF m 30 #[.val (.ref a1), .val (.ref a2), .val (.ref a2)] [(.ref a2), (.int (0 : Int32))])) rfl rfl (hb hby d11_30)
  refine Go.step (T' := T5) (f' := (mkF m 33 #[.val (.ref a1), .val (.ref a2), .val (.ref a2)] [(.int (0 : Int32)), (.int (0 : Int32))])) st5 ?_
  refine Go.step (T' := T5) (f' := (mkF m 36 #[.val (.ref a1), .val (.ref a2), .val (.ref a2)] [])) (fun _ k => XS.icmpNo X5.here hx rfl (hb hby d11_33) rfl (teq (by decide : (0 : Int32) = (0 : Int32))).2 k) ?_
  refine Go.step (T' := T5) (f' := (mkF m 37 #[.val (.ref a1), .val (.ref a2), .val (.ref a2)] [(.ref a1)])) (fun _ k => XS.aloadN X5.here hx rfl (hb hby d11_36) rfl rfl k) ?_
  obtain ⟨T6, X6, e6, st6⟩ := getF X5 hx hZ hown (host := "") (Or.inl (hw _ (List.mem_of_getElem? (i := 32) rfl))) Via.refl e5 F_value_a1 (g := (mkF m 37 #[.val (.ref a1), .val (.ref a2), .val (.ref a2)] [(.ref a1)])) rfl rfl (hb hby d11_37)
  refine Go.step (T' := T6) (f' := (mkF m 40 #[.val (.ref a1), .val (.ref a2), .val (.ref a2)] [(.ref v1)])) st6 ?_
  refine Go.step (T' := T6) (f' := (mkF m 41 #[.val (.ref a1), .val (.ref a2), .val (.ref a2)] [(.ref a2), (.ref v1)])) (fun _ k => XS.aloadN X6.here hx rfl (hb hby d11_40) rfl rfl k) ?_
  obtain ⟨T7, X7, e7, st7⟩ := getF X6 hx hZ hown (host := "") (Or.inl (hw _ (List.mem_of_getElem? (i := 32) rfl))) Via.refl e6 F_value_a2 (g := (mkF m 41 #[.val (.ref a1), .val (.ref a2), .val (.ref a2)] [(.ref a2), (.ref v1)])) rfl rfl (hb hby d11_41)
  refine Go.step (T' := T7) (f' := (mkF m 44 #[.val (.ref a1), .val (.ref a2), .val (.ref a2)] [(.ref v2), (.ref v1)])) st7 ?_
  obtain ⟨_, _, ⟨T8, L8, kk8, nn8⟩, -, X8, ⟨Lc8, hQ8, lq8, yq8, zq8⟩, st8⟩ := Jvm.LawKit.callS X7 hx (y := (⟨"java/lang/StringLatin1", "equals", "([B[B)Z"⟩ : MethodName)) hown (mvT hZ (hw _ (List.mem_of_getElem? (i := 75) rfl))) (mvT hZ (hw _ (List.mem_of_getElem? (i := 76) rfl))) (mvT hZ (hw _ (List.mem_of_getElem? (i := 77) rfl))) (mvT hZ (hw _ (List.mem_of_getElem? (i := 78) rfl))) (by decide) (backOf (W := 0) (rmLe11_8 l Z a0 hw [] v1 v2 k1 k2 x0 x1 x2 x3 x4 x5 x6 x7 x8 x9 x10 y0 y1 y2 y3 y4 y5 y6 y7 h0 n0 Z0 V_v1 V_v2) hZ (hw _ (List.mem_of_getElem? (i := 78) rfl)) (hw _ (List.mem_of_getElem? (i := 77) rfl)) (by decide) (by decide)) (g := (mkF m 44 #[.val (.ref a1), .val (.ref a2), .val (.ref a2)] [(.ref v2), (.ref v1)])) rfl (by rw [hml]; rfl) (argsL := [(.ref v1), (.ref v2)]) (rest := []) (lenOf pd_4 rfl) rfl (by show 2 * 0 + _ ≤ _; exact Nat.le_of_eq rfl) (hb hby d11_44) (fun _ _ => ⟨rfl, e7, (by decide : 0 + 0 ≤ _), (by decide : 0 + 0 ≤ _)⟩)
  dsimp only [Pt.U, Pt.locs, Pt.cells, Pt.slots] at X8 lq8 yq8 zq8 st8 hQ8
  subst yq8 zq8
  obtain ⟨rfl, Nq8, eh8⟩ := hQ8
  have N8 : Fr n0 L8 := by rw [lq8]; exact Fr.app N0 Nq8
  refine Go.step (T' := T8) (f' := (mkF m 47 #[.val (.ref a1), .val (.ref a2), .val (.ref a2)] [(.int (0 : Int32))])) st8 ?_
  refine Go.step (T' := T8) (f' := (mkF m 54 #[.val (.ref a1), .val (.ref a2), .val (.ref a2)] [])) (fun _ k => XS.ifYes X8.here hx rfl (pc0 := 47) (pc' := 54) rfl (hb hby d11_47) rfl ((if0 _ _).trans (teq (by decide : (0 : Int32) = (0 : Int32))).1) (by decide) (by decide) k) ?_
  refine Go.step (T' := T8) (f' := (mkF m 55 #[.val (.ref a1), .val (.ref a2), .val (.ref a2)] [(.int (0 : Int32))])) (fun _ k => XS.iconst X8.here hx rfl (hb hby d11_54) k) ?_
  refine goN X8 hx (t := .boolean) Bd.returns (by simp) Bd.notSynchronized (hb hby d11_55) ?_ (by decide) (by decide)
  show Q_rmSe11_8 Z a1 a2 cs v1 v2 k1 k2 x0 x1 x2 x3 x4 x5 x6 x7 x8 x9 x10 y0 y1 y2 y3 y4 y5 y6 y7 h0 n0 _ T8.heap _
  rw [eh8]
  exact ⟨rfl, N8, rfl⟩
theorem ef_rmLe11_9 (m : MethodId) (a1 : Addr) (a2 : Addr) : entryFrame m #[(.ref a1), (.ref a2)] 3 = mkF m 0 #[.val (.ref a1), .val (.ref a2), .unset] [] := by first | (simp [entryFrame, mkF, argsToLocals, Value.category]; done) | rfl
def Q_rmLe11_9 (Z : State) (a1 : Addr) (a2 : Addr) (k1 : ClassId) (k2 : ClassId) (x0 : Int32) (x1 : Int32) (x2 : Int32) (x3 : Int32) (x4 : Int32) (x5 : Int32) (x6 : Int32) (x7 : Int32) (x8 : Int32) (x9 : Int32) (x10 : Int32) (y0 : Int32) (y1 : Int32) (y2 : Int32) (y3 : Int32) (y4 : Int32) (y5 : Int32) (y6 : Int32) (y7 : Int32) (y8 : Int32) (h0 : Heap) (n0 : Nat) (rv : Option Value) (hq : Heap) (Lq : List Loc) : Prop := rv = some (.int (0 : Int32)) ∧ Fr n0 Lq ∧ hq = h0
set_option maxRecDepth 65536 in
set_option maxHeartbeats 40000000 in
theorem rmLe11_9 (l : Launch) (Z : State) (a0 : Array Value) (hw : ∀ d ∈ tables_1, d.before a0 Z = true) (ws : List Jvm.Cond) (a1 : Addr) (a2 : Addr) (k1 : ClassId) (k2 : ClassId) (x0 : Int32) (x1 : Int32) (x2 : Int32) (x3 : Int32) (x4 : Int32) (x5 : Int32) (x6 : Int32) (x7 : Int32) (x8 : Int32) (x9 : Int32) (x10 : Int32) (y0 : Int32) (y1 : Int32) (y2 : Int32) (y3 : Int32) (y4 : Int32) (y5 : Int32) (y6 : Int32) (y7 : Int32) (y8 : Int32) (h0 : Heap) (n0 : Nat) (Z0 : n0 ≤ h0.size) (V_a1 : Arv Z h0 a1 k1 .byte (11 : Int32) [(.int x0), (.int x1), (.int x2), (.int x3), (.int x4), (.int x5), (.int x6), (.int x7), (.int x8), (.int x9), (.int x10)] (.int (0 : Int32))) (V_a2 : Arv Z h0 a2 k2 .byte (9 : Int32) [(.int y0), (.int y1), (.int y2), (.int y3), (.int y4), (.int y5), (.int y6), (.int y7), (.int y8)] (.int (0 : Int32))) :
    MetFree l (⟨"java/lang/StringLatin1", "equals", "([B[B)Z"⟩ : MethodName) (head1 (Jvm.Cond.code (⟨"java/lang/StringLatin1", "equals", "([B[B)Z"⟩ : MethodName) jdk_43_method_13_code 3 (some .boolean) :: ws) ({ frames := 0, cells := 0, slots := 0, locals := 0 } : Room)) (fun a U => a = #[(.ref a1), (.ref a2)] ∧ Z.Warmed39 U.vm ∧ U.heap = h0) (fun _ _ _ _ _ => True) (fun _ U o U' => ∃ rv Lq, o = .returned rv ∧ Q_rmLe11_9 Z a1 a2 k1 k2 x0 x1 x2 x3 x4 x5 x6 x7 x8 x9 x10 y0 y1 y2 y3 y4 y5 y6 y7 y8 h0 n0 rv U'.heap Lq ∧ FrameEnd U o U' Lq ({ frames := 0, cells := 0, slots := 0, locals := 0 } : Room).cells ({ frames := 0, cells := 0, slots := 0, locals := 0 } : Room).slots) := by
  refine MetFree.of_bodySF (plainFor_of_name pn_12) hisR ?_
  intro p e s m args below meth c s₁ Bd hml0 hP hK
  obtain ⟨rfl, hZ, hh⟩ := hP
  have hx := Bd.exec
  have hby := Bd.bytes
  have hml : c.maxLocals = 3 := hml0
  have hown : s.vm.findClass "java/lang/StringLatin1" = some m.cls := findClass_of_methodNamed Bd.named
  have hnm := (name_of_methodNamed Bd.named Bd.method).1
  have X0 : Stand p l e ({ frames := 0, cells := 0, slots := 0, locals := 0 } : Room) s m #[(.ref a1), (.ref a2)] below meth c s₁ [] 0 0 := Stand.of_body Bd
  have e0 : s₁.heap = h0 := by rw [← hh, Bd.state]; rfl
  have N0 := Fr.nil n0
  refine of_go (ef_rmLe11_9 m a1 a2) ?_
  refine Go.step (T' := s₁) (f' := (mkF m 1 #[.val (.ref a1), .val (.ref a2), .unset] [(.ref a1)])) (fun _ k => XS.aloadN X0.here hx rfl (hb hby d12_0) rfl rfl k) ?_
  obtain ⟨cl1, Ar1, qc1, Sz1, Nn1, Hs1, Gf1⟩ := id V_a1
  have hlen1 := X0.arraylength hx (by rw [e0]; exact Ar1.1) (State.isArrayOf_alike hZ.alike Ar1.2.1) (g := (mkF m 1 #[.val (.ref a1), .val (.ref a2), .unset] [(.ref a1)])) rfl rfl (hb hby d12_1)
  rw [len_of Sz1 Nn1] at hlen1
  refine Go.step (T' := s₁) (f' := (mkF m 2 #[.val (.ref a1), .val (.ref a2), .unset] [(.int (11 : Int32))])) (fun _ k => hlen1 _ k) ?_
  refine Go.step (T' := s₁) (f' := (mkF m 3 #[.val (.ref a1), .val (.ref a2), .unset] [(.ref a2), (.int (11 : Int32))])) (fun _ k => XS.aloadN X0.here hx rfl (hb hby d12_2) rfl rfl k) ?_
  obtain ⟨cl2, Ar2, qc2, Sz2, Nn2, Hs2, Gf2⟩ := id V_a2
  have hlen2 := X0.arraylength hx (by rw [e0]; exact Ar2.1) (State.isArrayOf_alike hZ.alike Ar2.2.1) (g := (mkF m 3 #[.val (.ref a1), .val (.ref a2), .unset] [(.ref a2), (.int (11 : Int32))])) rfl rfl (hb hby d12_3)
  rw [len_of Sz2 Nn2] at hlen2
  refine Go.step (T' := s₁) (f' := (mkF m 4 #[.val (.ref a1), .val (.ref a2), .unset] [(.int (9 : Int32)), (.int (11 : Int32))])) (fun _ k => hlen2 _ k) ?_
  refine Go.step (T' := s₁) (f' := (mkF m 34 #[.val (.ref a1), .val (.ref a2), .unset] [])) (fun _ k => XS.icmpYes X0.here hx rfl (pc0 := 4) (pc' := 34) rfl (hb hby d12_4) rfl (feq (by decide : ¬ ((11 : Int32) = (9 : Int32)))).2 (by decide) (by decide) k) ?_
  refine Go.step (T' := s₁) (f' := (mkF m 35 #[.val (.ref a1), .val (.ref a2), .unset] [(.int (0 : Int32))])) (fun _ k => XS.iconst X0.here hx rfl (hb hby d12_34) k) ?_
  refine goN X0 hx (t := .boolean) Bd.returns (by simp) Bd.notSynchronized (hb hby d12_35) ?_ (by decide) (by decide)
  show Q_rmLe11_9 Z a1 a2 k1 k2 x0 x1 x2 x3 x4 x5 x6 x7 x8 x9 x10 y0 y1 y2 y3 y4 y5 y6 y7 y8 h0 n0 _ s₁.heap _
  rw [e0]
  exact ⟨rfl, N0, rfl⟩
theorem ef_rmSe11_9 (m : MethodId) (a1 : Addr) (a2 : Addr) : entryFrame m #[(.ref a1), (.ref a2)] 3 = mkF m 0 #[.val (.ref a1), .val (.ref a2), .unset] [] := by first | (simp [entryFrame, mkF, argsToLocals, Value.category]; done) | rfl
def Q_rmSe11_9 (Z : State) (a1 : Addr) (a2 : Addr) (cs : Int32) (v1 : Addr) (v2 : Addr) (k1 : ClassId) (k2 : ClassId) (x0 : Int32) (x1 : Int32) (x2 : Int32) (x3 : Int32) (x4 : Int32) (x5 : Int32) (x6 : Int32) (x7 : Int32) (x8 : Int32) (x9 : Int32) (x10 : Int32) (y0 : Int32) (y1 : Int32) (y2 : Int32) (y3 : Int32) (y4 : Int32) (y5 : Int32) (y6 : Int32) (y7 : Int32) (y8 : Int32) (h0 : Heap) (n0 : Nat) (rv : Option Value) (hq : Heap) (Lq : List Loc) : Prop := rv = some (.int (0 : Int32)) ∧ Fr n0 Lq ∧ hq = h0
set_option maxRecDepth 65536 in
set_option maxHeartbeats 40000000 in
theorem rmSe11_9 (l : Launch) (Z : State) (a0 : Array Value) (hw : ∀ d ∈ tables_1, d.before a0 Z = true) (ws : List Jvm.Cond) (a1 : Addr) (a2 : Addr) (cs : Int32) (v1 : Addr) (v2 : Addr) (k1 : ClassId) (k2 : ClassId) (x0 : Int32) (x1 : Int32) (x2 : Int32) (x3 : Int32) (x4 : Int32) (x5 : Int32) (x6 : Int32) (x7 : Int32) (x8 : Int32) (x9 : Int32) (x10 : Int32) (y0 : Int32) (y1 : Int32) (y2 : Int32) (y3 : Int32) (y4 : Int32) (y5 : Int32) (y6 : Int32) (y7 : Int32) (y8 : Int32) (h0 : Heap) (n0 : Nat) (Z0 : n0 ≤ h0.size) (E_a1 : Exa Z h0 a1 "java/lang/String") (F_coder_a1 : Fld Z h0 a1 "java/lang/String" "coder" "B" (.int (0 : Int32))) (F_value_a1 : Fld Z h0 a1 "java/lang/String" "value" "[B" (.ref v1)) (V_v1 : Arv Z h0 v1 k1 .byte (11 : Int32) [(.int x0), (.int x1), (.int x2), (.int x3), (.int x4), (.int x5), (.int x6), (.int x7), (.int x8), (.int x9), (.int x10)] (.int (0 : Int32))) (E_a2 : Exa Z h0 a2 "java/lang/String") (F_coder_a2 : Fld Z h0 a2 "java/lang/String" "coder" "B" (.int (0 : Int32))) (F_value_a2 : Fld Z h0 a2 "java/lang/String" "value" "[B" (.ref v2)) (V_v2 : Arv Z h0 v2 k2 .byte (9 : Int32) [(.int y0), (.int y1), (.int y2), (.int y3), (.int y4), (.int y5), (.int y6), (.int y7), (.int y8)] (.int (0 : Int32))) (O0 : Old Z n0 h0) (S_COMPACT_STRINGS : Sta Z Z.heap "java/lang/String" "COMPACT_STRINGS" "Z" (.int cs)) (hcs : ¬ cs = (0 : Int32)) (hne : a1 ≠ a2) :
    MetFree l (⟨"java/lang/String", "equals", "(Ljava/lang/Object;)Z"⟩ : MethodName) (head1 (Jvm.Cond.code (⟨"java/lang/String", "equals", "(Ljava/lang/Object;)Z"⟩ : MethodName) jdk_42_method_66_code 3 (some .boolean) :: ws) ({ frames := 1, cells := 0, slots := 0, locals := 14 } : Room)) (fun a U => a = #[(.ref a1), (.ref a2)] ∧ Z.Warmed39 U.vm ∧ U.heap = h0) (fun _ _ _ _ _ => True) (fun _ U o U' => ∃ rv Lq, o = .returned rv ∧ Q_rmSe11_9 Z a1 a2 cs v1 v2 k1 k2 x0 x1 x2 x3 x4 x5 x6 x7 x8 x9 x10 y0 y1 y2 y3 y4 y5 y6 y7 y8 h0 n0 rv U'.heap Lq ∧ FrameEnd U o U' Lq ({ frames := 1, cells := 0, slots := 0, locals := 14 } : Room).cells ({ frames := 1, cells := 0, slots := 0, locals := 14 } : Room).slots) := by
  refine MetFree.of_bodySF (plainFor_of_name pn_2) hisR ?_
  intro p e s m args below meth c s₁ Bd hml0 hP hK
  obtain ⟨rfl, hZ, hh⟩ := hP
  have hx := Bd.exec
  have hby := Bd.bytes
  have hml : c.maxLocals = 3 := hml0
  have hown : s.vm.findClass "java/lang/String" = some m.cls := findClass_of_methodNamed Bd.named
  have hnm := (name_of_methodNamed Bd.named Bd.method).1
  have X0 : Stand p l e ({ frames := 1, cells := 0, slots := 0, locals := 14 } : Room) s m #[(.ref a1), (.ref a2)] below meth c s₁ [] 0 0 := Stand.of_body Bd
  have e0 : s₁.heap = h0 := by rw [← hh, Bd.state]; rfl
  have N0 := Fr.nil n0
  refine of_go (ef_rmSe11_9 m a1 a2) ?_
  refine Go.step (T' := s₁) (f' := (mkF m 1 #[.val (.ref a1), .val (.ref a2), .unset] [(.ref a1)])) (fun _ k => XS.aloadN X0.here hx rfl (hb hby d11_0) rfl rfl k) ?_
  refine Go.step (T' := s₁) (f' := (mkF m 2 #[.val (.ref a1), .val (.ref a2), .unset] [(.ref a2), (.ref a1)])) (fun _ k => XS.aloadN X0.here hx rfl (hb hby d11_1) rfl rfl k) ?_
  refine Go.step (T' := s₁) (f' := (mkF m 7 #[.val (.ref a1), .val (.ref a2), .unset] [])) (fun _ k => Jvm.RoadKit.acmp (g := (mkF m 2 #[.val (.ref a1), .val (.ref a2), .unset] [(.ref a2), (.ref a1)])) X0 hx rfl rfl rfl (pc0 := 2) (pc' := 7) (same := false) rfl (hb hby d11_2) rfl (decide_eq_false fun q => hne (Value.ref.inj q)) (by decide) (by decide) k) ?_
  refine Go.step (T' := s₁) (f' := (mkF m 8 #[.val (.ref a1), .val (.ref a2), .unset] [(.ref a2)])) (fun _ k => XS.aloadN X0.here hx rfl (hb hby d11_7) rfl rfl k) ?_
  obtain ⟨T1, X1, e1, st1⟩ := instY X0 hx hZ hown (hw _ (List.mem_of_getElem? (i := 74) rfl)) e0 (Ins.self E_a2) (g := (mkF m 8 #[.val (.ref a1), .val (.ref a2), .unset] [(.ref a2)])) rfl rfl (hb hby d11_8)
  refine Go.step (T' := T1) (f' := (mkF m 11 #[.val (.ref a1), .val (.ref a2), .unset] [(.int (1 : Int32))])) st1 ?_
  refine Go.step (T' := T1) (f' := (mkF m 14 #[.val (.ref a1), .val (.ref a2), .unset] [])) (fun _ k => XS.ifNo X1.here hx rfl (hb hby d11_11) rfl ((if0 _ _).trans (feq (by decide : ¬ ((1 : Int32) = (0 : Int32)))).1) k) ?_
  refine Go.step (T' := T1) (f' := (mkF m 15 #[.val (.ref a1), .val (.ref a2), .unset] [(.ref a2)])) (fun _ k => XS.aloadN X1.here hx rfl (hb hby d11_14) rfl rfl k) ?_
  obtain ⟨T2, X2, e2, st2⟩ := castY X1 hx hZ hown (hw _ (List.mem_of_getElem? (i := 74) rfl)) e1 (Ins.self E_a2) (g := (mkF m 15 #[.val (.ref a1), .val (.ref a2), .unset] [(.ref a2)])) rfl rfl (hb hby d11_15)
  refine Go.step (T' := T2) (f' := (mkF m 18 #[.val (.ref a1), .val (.ref a2), .unset] [(.ref a2)])) st2 ?_
  refine Go.step (T' := T2) (f' := (mkF m 19 #[.val (.ref a1), .val (.ref a2), .val (.ref a2)] [])) (fun _ k => XS.astoreN X2.here hx rfl (hb hby d11_18) rfl rfl (l' := #[.val (.ref a1), .val (.ref a2), .val (.ref a2)]) rfl k) ?_
  obtain ⟨T3, X3, e3, st3⟩ := getS2 X2 hx hZ hown (host := "") (Or.inl (hw _ (List.mem_of_getElem? (i := 18) rfl))) Via.refl e2 (S_COMPACT_STRINGS.ext O0.2) (g := (mkF m 19 #[.val (.ref a1), .val (.ref a2), .val (.ref a2)] [])) rfl (hb hby d11_19)
  refine Go.step (T' := T3) (f' := (mkF m 22 #[.val (.ref a1), .val (.ref a2), .val (.ref a2)] [(.int cs)])) st3 ?_
  refine Go.step (T' := T3) (f' := (mkF m 25 #[.val (.ref a1), .val (.ref a2), .val (.ref a2)] [])) (fun _ k => XS.ifNo X3.here hx rfl (hb hby d11_22) rfl ((if0 _ _).trans (feq hcs).1) k) ?_
  refine Go.step (T' := T3) (f' := (mkF m 26 #[.val (.ref a1), .val (.ref a2), .val (.ref a2)] [(.ref a1)])) (fun _ k => XS.aloadN X3.here hx rfl (hb hby d11_25) rfl rfl k) ?_
  obtain ⟨T4, X4, e4, st4⟩ := getF X3 hx hZ hown (host := "") (Or.inl (hw _ (List.mem_of_getElem? (i := 30) rfl))) Via.refl e3 F_coder_a1 (g := (mkF m 26 #[.val (.ref a1), .val (.ref a2), .val (.ref a2)] [(.ref a1)])) rfl rfl (hb hby d11_26)
  refine Go.step (T' := T4) (f' := (mkF m 29 #[.val (.ref a1), .val (.ref a2), .val (.ref a2)] [(.int (0 : Int32))])) st4 ?_
  refine Go.step (T' := T4) (f' := (mkF m 30 #[.val (.ref a1), .val (.ref a2), .val (.ref a2)] [(.ref a2), (.int (0 : Int32))])) (fun _ k => XS.aloadN X4.here hx rfl (hb hby d11_29) rfl rfl k) ?_
  obtain ⟨T5, X5, e5, st5⟩ := getF X4 hx hZ hown (host := "") (Or.inl (hw _ (List.mem_of_getElem? (i := 30) rfl))) Via.refl e4 F_coder_a2 (g := (mkF m 30 #[.val (.ref a1), .val (.ref a2), .val (.ref a2)] [(.ref a2), (.int (0 : Int32))])) rfl rfl (hb hby d11_30)
  refine Go.step (T' := T5) (f' := (mkF m 33 #[.val (.ref a1), .val (.ref a2), .val (.ref a2)] [(.int (0 : Int32)), (.int (0 : Int32))])) st5 ?_
  refine Go.step (T' := T5) (f' := (mkF m 36 #[.val (.ref a1), .val (.ref a2), .val (.ref a2)] [])) (fun _ k => XS.icmpNo X5.here hx rfl (hb hby d11_33) rfl (teq (by decide : (0 : Int32) = (0 : Int32))).2 k) ?_
  refine Go.step (T' := T5) (f' := (mkF m 37 #[.val (.ref a1), .val (.ref a2), .val (.ref a2)] [(.ref a1)])) (fun _ k => XS.aloadN X5.here hx rfl (hb hby d11_36) rfl rfl k) ?_
  obtain ⟨T6, X6, e6, st6⟩ := getF X5 hx hZ hown (host := "") (Or.inl (hw _ (List.mem_of_getElem? (i := 32) rfl))) Via.refl e5 F_value_a1 (g := (mkF m 37 #[.val (.ref a1), .val (.ref a2), .val (.ref a2)] [(.ref a1)])) rfl rfl (hb hby d11_37)
  refine Go.step (T' := T6) (f' := (mkF m 40 #[.val (.ref a1), .val (.ref a2), .val (.ref a2)] [(.ref v1)])) st6 ?_
  refine Go.step (T' := T6) (f' := (mkF m 41 #[.val (.ref a1), .val (.ref a2), .val (.ref a2)] [(.ref a2), (.ref v1)])) (fun _ k => XS.aloadN X6.here hx rfl (hb hby d11_40) rfl rfl k) ?_
  obtain ⟨T7, X7, e7, st7⟩ := getF X6 hx hZ hown (host := "") (Or.inl (hw _ (List.mem_of_getElem? (i := 32) rfl))) Via.refl e6 F_value_a2 (g := (mkF m 41 #[.val (.ref a1), .val (.ref a2), .val (.ref a2)] [(.ref a2), (.ref v1)])) rfl rfl (hb hby d11_41)
  refine Go.step (T' := T7) (f' := (mkF m 44 #[.val (.ref a1), .val (.ref a2), .val (.ref a2)] [(.ref v2), (.ref v1)])) st7 ?_
  obtain ⟨_, _, ⟨T8, L8, kk8, nn8⟩, -, X8, ⟨Lc8, hQ8, lq8, yq8, zq8⟩, st8⟩ := Jvm.LawKit.callS X7 hx (y := (⟨"java/lang/StringLatin1", "equals", "([B[B)Z"⟩ : MethodName)) hown (mvT hZ (hw _ (List.mem_of_getElem? (i := 75) rfl))) (mvT hZ (hw _ (List.mem_of_getElem? (i := 76) rfl))) (mvT hZ (hw _ (List.mem_of_getElem? (i := 77) rfl))) (mvT hZ (hw _ (List.mem_of_getElem? (i := 78) rfl))) (by decide) (backOf (W := 0) (rmLe11_9 l Z a0 hw [] v1 v2 k1 k2 x0 x1 x2 x3 x4 x5 x6 x7 x8 x9 x10 y0 y1 y2 y3 y4 y5 y6 y7 y8 h0 n0 Z0 V_v1 V_v2) hZ (hw _ (List.mem_of_getElem? (i := 78) rfl)) (hw _ (List.mem_of_getElem? (i := 77) rfl)) (by decide) (by decide)) (g := (mkF m 44 #[.val (.ref a1), .val (.ref a2), .val (.ref a2)] [(.ref v2), (.ref v1)])) rfl (by rw [hml]; rfl) (argsL := [(.ref v1), (.ref v2)]) (rest := []) (lenOf pd_4 rfl) rfl (by show 2 * 0 + _ ≤ _; exact Nat.le_of_eq rfl) (hb hby d11_44) (fun _ _ => ⟨rfl, e7, (by decide : 0 + 0 ≤ _), (by decide : 0 + 0 ≤ _)⟩)
  dsimp only [Pt.U, Pt.locs, Pt.cells, Pt.slots] at X8 lq8 yq8 zq8 st8 hQ8
  subst yq8 zq8
  obtain ⟨rfl, Nq8, eh8⟩ := hQ8
  have N8 : Fr n0 L8 := by rw [lq8]; exact Fr.app N0 Nq8
  refine Go.step (T' := T8) (f' := (mkF m 47 #[.val (.ref a1), .val (.ref a2), .val (.ref a2)] [(.int (0 : Int32))])) st8 ?_
  refine Go.step (T' := T8) (f' := (mkF m 54 #[.val (.ref a1), .val (.ref a2), .val (.ref a2)] [])) (fun _ k => XS.ifYes X8.here hx rfl (pc0 := 47) (pc' := 54) rfl (hb hby d11_47) rfl ((if0 _ _).trans (teq (by decide : (0 : Int32) = (0 : Int32))).1) (by decide) (by decide) k) ?_
  refine Go.step (T' := T8) (f' := (mkF m 55 #[.val (.ref a1), .val (.ref a2), .val (.ref a2)] [(.int (0 : Int32))])) (fun _ k => XS.iconst X8.here hx rfl (hb hby d11_54) k) ?_
  refine goN X8 hx (t := .boolean) Bd.returns (by simp) Bd.notSynchronized (hb hby d11_55) ?_ (by decide) (by decide)
  show Q_rmSe11_9 Z a1 a2 cs v1 v2 k1 k2 x0 x1 x2 x3 x4 x5 x6 x7 x8 x9 x10 y0 y1 y2 y3 y4 y5 y6 y7 y8 h0 n0 _ T8.heap _
  rw [eh8]
  exact ⟨rfl, N8, rfl⟩
theorem ef_rmLe11_11 (m : MethodId) (a1 : Addr) (a2 : Addr) : entryFrame m #[(.ref a1), (.ref a2)] 3 = mkF m 0 #[.val (.ref a1), .val (.ref a2), .unset] [] := by first | (simp [entryFrame, mkF, argsToLocals, Value.category]; done) | rfl
def Q_rmLe11_11 (Z : State) (a1 : Addr) (a2 : Addr) (k1 : ClassId) (k2 : ClassId) (x0 : Int32) (x1 : Int32) (x2 : Int32) (x3 : Int32) (x4 : Int32) (x5 : Int32) (x6 : Int32) (x7 : Int32) (x8 : Int32) (x9 : Int32) (x10 : Int32) (h0 : Heap) (n0 : Nat) (rv : Option Value) (hq : Heap) (Lq : List Loc) : Prop := rv = some (.int (1 : Int32)) ∧ Fr n0 Lq ∧ hq = h0
set_option maxRecDepth 65536 in
set_option maxHeartbeats 40000000 in
theorem rmLe11_11 (l : Launch) (Z : State) (a0 : Array Value) (hw : ∀ d ∈ tables_1, d.before a0 Z = true) (ws : List Jvm.Cond) (a1 : Addr) (a2 : Addr) (k1 : ClassId) (k2 : ClassId) (x0 : Int32) (x1 : Int32) (x2 : Int32) (x3 : Int32) (x4 : Int32) (x5 : Int32) (x6 : Int32) (x7 : Int32) (x8 : Int32) (x9 : Int32) (x10 : Int32) (h0 : Heap) (n0 : Nat) (Z0 : n0 ≤ h0.size) (V_a1 : Arv Z h0 a1 k1 .byte (11 : Int32) [(.int x0), (.int x1), (.int x2), (.int x3), (.int x4), (.int x5), (.int x6), (.int x7), (.int x8), (.int x9), (.int x10)] (.int (0 : Int32))) (V_a2 : Arv Z h0 a2 k2 .byte (11 : Int32) [(.int x0), (.int x1), (.int x2), (.int x3), (.int x4), (.int x5), (.int x6), (.int x7), (.int x8), (.int x9), (.int x10)] (.int (0 : Int32))) :
    MetFree l (⟨"java/lang/StringLatin1", "equals", "([B[B)Z"⟩ : MethodName) (head1 (Jvm.Cond.code (⟨"java/lang/StringLatin1", "equals", "([B[B)Z"⟩ : MethodName) jdk_43_method_13_code 3 (some .boolean) :: ws) ({ frames := 0, cells := 0, slots := 0, locals := 0 } : Room)) (fun a U => a = #[(.ref a1), (.ref a2)] ∧ Z.Warmed39 U.vm ∧ U.heap = h0) (fun _ _ _ _ _ => True) (fun _ U o U' => ∃ rv Lq, o = .returned rv ∧ Q_rmLe11_11 Z a1 a2 k1 k2 x0 x1 x2 x3 x4 x5 x6 x7 x8 x9 x10 h0 n0 rv U'.heap Lq ∧ FrameEnd U o U' Lq ({ frames := 0, cells := 0, slots := 0, locals := 0 } : Room).cells ({ frames := 0, cells := 0, slots := 0, locals := 0 } : Room).slots) := by
  refine MetFree.of_bodySF (plainFor_of_name pn_12) hisR ?_
  intro p e s m args below meth c s₁ Bd hml0 hP hK
  obtain ⟨rfl, hZ, hh⟩ := hP
  have hx := Bd.exec
  have hby := Bd.bytes
  have hml : c.maxLocals = 3 := hml0
  have hown : s.vm.findClass "java/lang/StringLatin1" = some m.cls := findClass_of_methodNamed Bd.named
  have hnm := (name_of_methodNamed Bd.named Bd.method).1
  have X0 : Stand p l e ({ frames := 0, cells := 0, slots := 0, locals := 0 } : Room) s m #[(.ref a1), (.ref a2)] below meth c s₁ [] 0 0 := Stand.of_body Bd
  have e0 : s₁.heap = h0 := by rw [← hh, Bd.state]; rfl
  have N0 := Fr.nil n0
  refine of_go (ef_rmLe11_11 m a1 a2) ?_
  refine Go.step (T' := s₁) (f' := (mkF m 1 #[.val (.ref a1), .val (.ref a2), .unset] [(.ref a1)])) (fun _ k => XS.aloadN X0.here hx rfl (hb hby d12_0) rfl rfl k) ?_
  obtain ⟨cl1, Ar1, qc1, Sz1, Nn1, Hs1, Gf1⟩ := id V_a1
  have hlen1 := X0.arraylength hx (by rw [e0]; exact Ar1.1) (State.isArrayOf_alike hZ.alike Ar1.2.1) (g := (mkF m 1 #[.val (.ref a1), .val (.ref a2), .unset] [(.ref a1)])) rfl rfl (hb hby d12_1)
  rw [len_of Sz1 Nn1] at hlen1
  refine Go.step (T' := s₁) (f' := (mkF m 2 #[.val (.ref a1), .val (.ref a2), .unset] [(.int (11 : Int32))])) (fun _ k => hlen1 _ k) ?_
  refine Go.step (T' := s₁) (f' := (mkF m 3 #[.val (.ref a1), .val (.ref a2), .unset] [(.ref a2), (.int (11 : Int32))])) (fun _ k => XS.aloadN X0.here hx rfl (hb hby d12_2) rfl rfl k) ?_
  obtain ⟨cl2, Ar2, qc2, Sz2, Nn2, Hs2, Gf2⟩ := id V_a2
  have hlen2 := X0.arraylength hx (by rw [e0]; exact Ar2.1) (State.isArrayOf_alike hZ.alike Ar2.2.1) (g := (mkF m 3 #[.val (.ref a1), .val (.ref a2), .unset] [(.ref a2), (.int (11 : Int32))])) rfl rfl (hb hby d12_3)
  rw [len_of Sz2 Nn2] at hlen2
  refine Go.step (T' := s₁) (f' := (mkF m 4 #[.val (.ref a1), .val (.ref a2), .unset] [(.int (11 : Int32)), (.int (11 : Int32))])) (fun _ k => hlen2 _ k) ?_
  refine Go.step (T' := s₁) (f' := (mkF m 7 #[.val (.ref a1), .val (.ref a2), .unset] [])) (fun _ k => XS.icmpNo X0.here hx rfl (hb hby d12_4) rfl (teq (by decide : (11 : Int32) = (11 : Int32))).2 k) ?_
  refine Go.step (T' := s₁) (f' := (mkF m 8 #[.val (.ref a1), .val (.ref a2), .unset] [(.int (0 : Int32))])) (fun _ k => XS.iconst X0.here hx rfl (hb hby d12_7) k) ?_
  refine Go.step (T' := s₁) (f' := (mkF m 9 #[.val (.ref a1), .val (.ref a2), .val (.int (0 : Int32))] [])) (fun _ k => XS.istoreN X0.here hx rfl (hb hby d12_8) rfl (l' := #[.val (.ref a1), .val (.ref a2), .val (.int (0 : Int32))]) rfl k) ?_
  refine Go.step (T' := s₁) (f' := (mkF m 10 #[.val (.ref a1), .val (.ref a2), .val (.int (0 : Int32))] [(.int (0 : Int32))])) (fun _ k => XS.iloadN X0.here hx rfl (hb hby d12_9) rfl k) ?_
  refine Go.step (T' := s₁) (f' := (mkF m 11 #[.val (.ref a1), .val (.ref a2), .val (.int (0 : Int32))] [(.ref a1), (.int (0 : Int32))])) (fun _ k => XS.aloadN X0.here hx rfl (hb hby d12_10) rfl rfl k) ?_
  obtain ⟨cl3, Ar3, qc3, Sz3, Nn3, Hs3, Gf3⟩ := id V_a1
  have hlen3 := X0.arraylength hx (by rw [e0]; exact Ar3.1) (State.isArrayOf_alike hZ.alike Ar3.2.1) (g := (mkF m 11 #[.val (.ref a1), .val (.ref a2), .val (.int (0 : Int32))] [(.ref a1), (.int (0 : Int32))])) rfl rfl (hb hby d12_11)
  rw [len_of Sz3 Nn3] at hlen3
  refine Go.step (T' := s₁) (f' := (mkF m 12 #[.val (.ref a1), .val (.ref a2), .val (.int (0 : Int32))] [(.int (11 : Int32)), (.int (0 : Int32))])) (fun _ k => hlen3 _ k) ?_
  refine Go.step (T' := s₁) (f' := (mkF m 15 #[.val (.ref a1), .val (.ref a2), .val (.int (0 : Int32))] [])) (fun _ k => XS.icmpNo X0.here hx rfl (hb hby d12_12) rfl (tlt (by decide : (0 : Int32) < (11 : Int32))).2.1 k) ?_
  refine Go.step (T' := s₁) (f' := (mkF m 16 #[.val (.ref a1), .val (.ref a2), .val (.int (0 : Int32))] [(.ref a1)])) (fun _ k => XS.aloadN X0.here hx rfl (hb hby d12_15) rfl rfl k) ?_
  refine Go.step (T' := s₁) (f' := (mkF m 17 #[.val (.ref a1), .val (.ref a2), .val (.int (0 : Int32))] [(.int (0 : Int32)), (.ref a1)])) (fun _ k => XS.iloadN X0.here hx rfl (hb hby d12_16) rfl k) ?_
  obtain ⟨cl4, Ar4, qc4, Sz4, Nn4, Hs4, Gf4⟩ := id V_a1
  have hin5 : ¬ ((0 : Int32) < 0 ∨ cl4.slots.size ≤ ((0 : Int32)).toNatClampNeg) := (inb_of Sz4 ⟨by decide, by decide⟩)
  have hat5 : cl4.slots[((0 : Int32)).toNatClampNeg]? = some (.int x0) := Has.at Hs4 hin5 rfl
  refine Go.step (T' := s₁) (f' := (mkF m 18 #[.val (.ref a1), .val (.ref a2), .val (.int (0 : Int32))] [(.int x0)])) (fun _ k => X0.baloadBytes hx (j := (0 : Int32)) (v := (.int x0)) (by rw [e0]; exact Ar4.1) (State.isArrayOf_alike hZ.alike Ar4.2.1) Ar4.2.2 hin5 hat5 (g := (mkF m 17 #[.val (.ref a1), .val (.ref a2), .val (.int (0 : Int32))] [(.int (0 : Int32)), (.ref a1)])) rfl rfl (hb hby d12_17) _ k) ?_
  refine Go.step (T' := s₁) (f' := (mkF m 19 #[.val (.ref a1), .val (.ref a2), .val (.int (0 : Int32))] [(.ref a2), (.int x0)])) (fun _ k => XS.aloadN X0.here hx rfl (hb hby d12_18) rfl rfl k) ?_
  refine Go.step (T' := s₁) (f' := (mkF m 20 #[.val (.ref a1), .val (.ref a2), .val (.int (0 : Int32))] [(.int (0 : Int32)), (.ref a2), (.int x0)])) (fun _ k => XS.iloadN X0.here hx rfl (hb hby d12_19) rfl k) ?_
  obtain ⟨cl6, Ar6, qc6, Sz6, Nn6, Hs6, Gf6⟩ := id V_a2
  have hin7 : ¬ ((0 : Int32) < 0 ∨ cl6.slots.size ≤ ((0 : Int32)).toNatClampNeg) := (inb_of Sz6 ⟨by decide, by decide⟩)
  have hat7 : cl6.slots[((0 : Int32)).toNatClampNeg]? = some (.int x0) := Has.at Hs6 hin7 rfl
  refine Go.step (T' := s₁) (f' := (mkF m 21 #[.val (.ref a1), .val (.ref a2), .val (.int (0 : Int32))] [(.int x0), (.int x0)])) (fun _ k => X0.baloadBytes hx (j := (0 : Int32)) (v := (.int x0)) (by rw [e0]; exact Ar6.1) (State.isArrayOf_alike hZ.alike Ar6.2.1) Ar6.2.2 hin7 hat7 (g := (mkF m 20 #[.val (.ref a1), .val (.ref a2), .val (.int (0 : Int32))] [(.int (0 : Int32)), (.ref a2), (.int x0)])) rfl rfl (hb hby d12_20) _ k) ?_
  refine Go.step (T' := s₁) (f' := (mkF m 26 #[.val (.ref a1), .val (.ref a2), .val (.int (0 : Int32))] [])) (fun _ k => XS.icmpYes X0.here hx rfl (pc0 := 21) (pc' := 26) rfl (hb hby d12_21) rfl (teq (rfl : x0 = x0)).1 (by decide) (by decide) k) ?_
  refine Go.step (T' := s₁) (f' := (mkF m 29 #[.val (.ref a1), .val (.ref a2), .val (.int (1 : Int32))] [])) (fun _ k => XS.iinc X0.here hx rfl (hb hby d12_26) rfl (l' := #[.val (.ref a1), .val (.ref a2), .val (.int (1 : Int32))]) rfl k) ?_
  refine Go.step (T' := s₁) (f' := (mkF m 9 #[.val (.ref a1), .val (.ref a2), .val (.int (1 : Int32))] [])) (fun _ k => XS.goto X0.here hx rfl (pc0 := 29) (pc' := 9) rfl (hb hby d12_29) (by decide) (by decide) k) ?_
  refine Go.step (T' := s₁) (f' := (mkF m 10 #[.val (.ref a1), .val (.ref a2), .val (.int (1 : Int32))] [(.int (1 : Int32))])) (fun _ k => XS.iloadN X0.here hx rfl (hb hby d12_9) rfl k) ?_
  refine Go.step (T' := s₁) (f' := (mkF m 11 #[.val (.ref a1), .val (.ref a2), .val (.int (1 : Int32))] [(.ref a1), (.int (1 : Int32))])) (fun _ k => XS.aloadN X0.here hx rfl (hb hby d12_10) rfl rfl k) ?_
  obtain ⟨cl8, Ar8, qc8, Sz8, Nn8, Hs8, Gf8⟩ := id V_a1
  have hlen8 := X0.arraylength hx (by rw [e0]; exact Ar8.1) (State.isArrayOf_alike hZ.alike Ar8.2.1) (g := (mkF m 11 #[.val (.ref a1), .val (.ref a2), .val (.int (1 : Int32))] [(.ref a1), (.int (1 : Int32))])) rfl rfl (hb hby d12_11)
  rw [len_of Sz8 Nn8] at hlen8
  refine Go.step (T' := s₁) (f' := (mkF m 12 #[.val (.ref a1), .val (.ref a2), .val (.int (1 : Int32))] [(.int (11 : Int32)), (.int (1 : Int32))])) (fun _ k => hlen8 _ k) ?_
  refine Go.step (T' := s₁) (f' := (mkF m 15 #[.val (.ref a1), .val (.ref a2), .val (.int (1 : Int32))] [])) (fun _ k => XS.icmpNo X0.here hx rfl (hb hby d12_12) rfl (tlt (by decide : (1 : Int32) < (11 : Int32))).2.1 k) ?_
  refine Go.step (T' := s₁) (f' := (mkF m 16 #[.val (.ref a1), .val (.ref a2), .val (.int (1 : Int32))] [(.ref a1)])) (fun _ k => XS.aloadN X0.here hx rfl (hb hby d12_15) rfl rfl k) ?_
  refine Go.step (T' := s₁) (f' := (mkF m 17 #[.val (.ref a1), .val (.ref a2), .val (.int (1 : Int32))] [(.int (1 : Int32)), (.ref a1)])) (fun _ k => XS.iloadN X0.here hx rfl (hb hby d12_16) rfl k) ?_
  obtain ⟨cl9, Ar9, qc9, Sz9, Nn9, Hs9, Gf9⟩ := id V_a1
  have hin10 : ¬ ((1 : Int32) < 0 ∨ cl9.slots.size ≤ ((1 : Int32)).toNatClampNeg) := (inb_of Sz9 ⟨by decide, by decide⟩)
  have hat10 : cl9.slots[((1 : Int32)).toNatClampNeg]? = some (.int x1) := Has.at Hs9 hin10 rfl
  refine Go.step (T' := s₁) (f' := (mkF m 18 #[.val (.ref a1), .val (.ref a2), .val (.int (1 : Int32))] [(.int x1)])) (fun _ k => X0.baloadBytes hx (j := (1 : Int32)) (v := (.int x1)) (by rw [e0]; exact Ar9.1) (State.isArrayOf_alike hZ.alike Ar9.2.1) Ar9.2.2 hin10 hat10 (g := (mkF m 17 #[.val (.ref a1), .val (.ref a2), .val (.int (1 : Int32))] [(.int (1 : Int32)), (.ref a1)])) rfl rfl (hb hby d12_17) _ k) ?_
  refine Go.step (T' := s₁) (f' := (mkF m 19 #[.val (.ref a1), .val (.ref a2), .val (.int (1 : Int32))] [(.ref a2), (.int x1)])) (fun _ k => XS.aloadN X0.here hx rfl (hb hby d12_18) rfl rfl k) ?_
  refine Go.step (T' := s₁) (f' := (mkF m 20 #[.val (.ref a1), .val (.ref a2), .val (.int (1 : Int32))] [(.int (1 : Int32)), (.ref a2), (.int x1)])) (fun _ k => XS.iloadN X0.here hx rfl (hb hby d12_19) rfl k) ?_
  obtain ⟨cl11, Ar11, qc11, Sz11, Nn11, Hs11, Gf11⟩ := id V_a2
  have hin12 : ¬ ((1 : Int32) < 0 ∨ cl11.slots.size ≤ ((1 : Int32)).toNatClampNeg) := (inb_of Sz11 ⟨by decide, by decide⟩)
  have hat12 : cl11.slots[((1 : Int32)).toNatClampNeg]? = some (.int x1) := Has.at Hs11 hin12 rfl
  refine Go.step (T' := s₁) (f' := (mkF m 21 #[.val (.ref a1), .val (.ref a2), .val (.int (1 : Int32))] [(.int x1), (.int x1)])) (fun _ k => X0.baloadBytes hx (j := (1 : Int32)) (v := (.int x1)) (by rw [e0]; exact Ar11.1) (State.isArrayOf_alike hZ.alike Ar11.2.1) Ar11.2.2 hin12 hat12 (g := (mkF m 20 #[.val (.ref a1), .val (.ref a2), .val (.int (1 : Int32))] [(.int (1 : Int32)), (.ref a2), (.int x1)])) rfl rfl (hb hby d12_20) _ k) ?_
  refine Go.step (T' := s₁) (f' := (mkF m 26 #[.val (.ref a1), .val (.ref a2), .val (.int (1 : Int32))] [])) (fun _ k => XS.icmpYes X0.here hx rfl (pc0 := 21) (pc' := 26) rfl (hb hby d12_21) rfl (teq (rfl : x1 = x1)).1 (by decide) (by decide) k) ?_
  refine Go.step (T' := s₁) (f' := (mkF m 29 #[.val (.ref a1), .val (.ref a2), .val (.int (2 : Int32))] [])) (fun _ k => XS.iinc X0.here hx rfl (hb hby d12_26) rfl (l' := #[.val (.ref a1), .val (.ref a2), .val (.int (2 : Int32))]) rfl k) ?_
  refine Go.step (T' := s₁) (f' := (mkF m 9 #[.val (.ref a1), .val (.ref a2), .val (.int (2 : Int32))] [])) (fun _ k => XS.goto X0.here hx rfl (pc0 := 29) (pc' := 9) rfl (hb hby d12_29) (by decide) (by decide) k) ?_
  refine Go.step (T' := s₁) (f' := (mkF m 10 #[.val (.ref a1), .val (.ref a2), .val (.int (2 : Int32))] [(.int (2 : Int32))])) (fun _ k => XS.iloadN X0.here hx rfl (hb hby d12_9) rfl k) ?_
  refine Go.step (T' := s₁) (f' := (mkF m 11 #[.val (.ref a1), .val (.ref a2), .val (.int (2 : Int32))] [(.ref a1), (.int (2 : Int32))])) (fun _ k => XS.aloadN X0.here hx rfl (hb hby d12_10) rfl rfl k) ?_
  obtain ⟨cl13, Ar13, qc13, Sz13, Nn13, Hs13, Gf13⟩ := id V_a1
  have hlen13 := X0.arraylength hx (by rw [e0]; exact Ar13.1) (State.isArrayOf_alike hZ.alike Ar13.2.1) (g := (mkF m 11 #[.val (.ref a1), .val (.ref a2), .val (.int (2 : Int32))] [(.ref a1), (.int (2 : Int32))])) rfl rfl (hb hby d12_11)
  rw [len_of Sz13 Nn13] at hlen13
  refine Go.step (T' := s₁) (f' := (mkF m 12 #[.val (.ref a1), .val (.ref a2), .val (.int (2 : Int32))] [(.int (11 : Int32)), (.int (2 : Int32))])) (fun _ k => hlen13 _ k) ?_
  refine Go.step (T' := s₁) (f' := (mkF m 15 #[.val (.ref a1), .val (.ref a2), .val (.int (2 : Int32))] [])) (fun _ k => XS.icmpNo X0.here hx rfl (hb hby d12_12) rfl (tlt (by decide : (2 : Int32) < (11 : Int32))).2.1 k) ?_
  refine Go.step (T' := s₁) (f' := (mkF m 16 #[.val (.ref a1), .val (.ref a2), .val (.int (2 : Int32))] [(.ref a1)])) (fun _ k => XS.aloadN X0.here hx rfl (hb hby d12_15) rfl rfl k) ?_
  refine Go.step (T' := s₁) (f' := (mkF m 17 #[.val (.ref a1), .val (.ref a2), .val (.int (2 : Int32))] [(.int (2 : Int32)), (.ref a1)])) (fun _ k => XS.iloadN X0.here hx rfl (hb hby d12_16) rfl k) ?_
  obtain ⟨cl14, Ar14, qc14, Sz14, Nn14, Hs14, Gf14⟩ := id V_a1
  have hin15 : ¬ ((2 : Int32) < 0 ∨ cl14.slots.size ≤ ((2 : Int32)).toNatClampNeg) := (inb_of Sz14 ⟨by decide, by decide⟩)
  have hat15 : cl14.slots[((2 : Int32)).toNatClampNeg]? = some (.int x2) := Has.at Hs14 hin15 rfl
  refine Go.step (T' := s₁) (f' := (mkF m 18 #[.val (.ref a1), .val (.ref a2), .val (.int (2 : Int32))] [(.int x2)])) (fun _ k => X0.baloadBytes hx (j := (2 : Int32)) (v := (.int x2)) (by rw [e0]; exact Ar14.1) (State.isArrayOf_alike hZ.alike Ar14.2.1) Ar14.2.2 hin15 hat15 (g := (mkF m 17 #[.val (.ref a1), .val (.ref a2), .val (.int (2 : Int32))] [(.int (2 : Int32)), (.ref a1)])) rfl rfl (hb hby d12_17) _ k) ?_
  refine Go.step (T' := s₁) (f' := (mkF m 19 #[.val (.ref a1), .val (.ref a2), .val (.int (2 : Int32))] [(.ref a2), (.int x2)])) (fun _ k => XS.aloadN X0.here hx rfl (hb hby d12_18) rfl rfl k) ?_
  refine Go.step (T' := s₁) (f' := (mkF m 20 #[.val (.ref a1), .val (.ref a2), .val (.int (2 : Int32))] [(.int (2 : Int32)), (.ref a2), (.int x2)])) (fun _ k => XS.iloadN X0.here hx rfl (hb hby d12_19) rfl k) ?_
  obtain ⟨cl16, Ar16, qc16, Sz16, Nn16, Hs16, Gf16⟩ := id V_a2
  have hin17 : ¬ ((2 : Int32) < 0 ∨ cl16.slots.size ≤ ((2 : Int32)).toNatClampNeg) := (inb_of Sz16 ⟨by decide, by decide⟩)
  have hat17 : cl16.slots[((2 : Int32)).toNatClampNeg]? = some (.int x2) := Has.at Hs16 hin17 rfl
  refine Go.step (T' := s₁) (f' := (mkF m 21 #[.val (.ref a1), .val (.ref a2), .val (.int (2 : Int32))] [(.int x2), (.int x2)])) (fun _ k => X0.baloadBytes hx (j := (2 : Int32)) (v := (.int x2)) (by rw [e0]; exact Ar16.1) (State.isArrayOf_alike hZ.alike Ar16.2.1) Ar16.2.2 hin17 hat17 (g := (mkF m 20 #[.val (.ref a1), .val (.ref a2), .val (.int (2 : Int32))] [(.int (2 : Int32)), (.ref a2), (.int x2)])) rfl rfl (hb hby d12_20) _ k) ?_
  refine Go.step (T' := s₁) (f' := (mkF m 26 #[.val (.ref a1), .val (.ref a2), .val (.int (2 : Int32))] [])) (fun _ k => XS.icmpYes X0.here hx rfl (pc0 := 21) (pc' := 26) rfl (hb hby d12_21) rfl (teq (rfl : x2 = x2)).1 (by decide) (by decide) k) ?_
  refine Go.step (T' := s₁) (f' := (mkF m 29 #[.val (.ref a1), .val (.ref a2), .val (.int (3 : Int32))] [])) (fun _ k => XS.iinc X0.here hx rfl (hb hby d12_26) rfl (l' := #[.val (.ref a1), .val (.ref a2), .val (.int (3 : Int32))]) rfl k) ?_
  refine Go.step (T' := s₁) (f' := (mkF m 9 #[.val (.ref a1), .val (.ref a2), .val (.int (3 : Int32))] [])) (fun _ k => XS.goto X0.here hx rfl (pc0 := 29) (pc' := 9) rfl (hb hby d12_29) (by decide) (by decide) k) ?_
  refine Go.step (T' := s₁) (f' := (mkF m 10 #[.val (.ref a1), .val (.ref a2), .val (.int (3 : Int32))] [(.int (3 : Int32))])) (fun _ k => XS.iloadN X0.here hx rfl (hb hby d12_9) rfl k) ?_
  refine Go.step (T' := s₁) (f' := (mkF m 11 #[.val (.ref a1), .val (.ref a2), .val (.int (3 : Int32))] [(.ref a1), (.int (3 : Int32))])) (fun _ k => XS.aloadN X0.here hx rfl (hb hby d12_10) rfl rfl k) ?_
  obtain ⟨cl18, Ar18, qc18, Sz18, Nn18, Hs18, Gf18⟩ := id V_a1
  have hlen18 := X0.arraylength hx (by rw [e0]; exact Ar18.1) (State.isArrayOf_alike hZ.alike Ar18.2.1) (g := (mkF m 11 #[.val (.ref a1), .val (.ref a2), .val (.int (3 : Int32))] [(.ref a1), (.int (3 : Int32))])) rfl rfl (hb hby d12_11)
  rw [len_of Sz18 Nn18] at hlen18
  refine Go.step (T' := s₁) (f' := (mkF m 12 #[.val (.ref a1), .val (.ref a2), .val (.int (3 : Int32))] [(.int (11 : Int32)), (.int (3 : Int32))])) (fun _ k => hlen18 _ k) ?_
  refine Go.step (T' := s₁) (f' := (mkF m 15 #[.val (.ref a1), .val (.ref a2), .val (.int (3 : Int32))] [])) (fun _ k => XS.icmpNo X0.here hx rfl (hb hby d12_12) rfl (tlt (by decide : (3 : Int32) < (11 : Int32))).2.1 k) ?_
  refine Go.step (T' := s₁) (f' := (mkF m 16 #[.val (.ref a1), .val (.ref a2), .val (.int (3 : Int32))] [(.ref a1)])) (fun _ k => XS.aloadN X0.here hx rfl (hb hby d12_15) rfl rfl k) ?_
  refine Go.step (T' := s₁) (f' := (mkF m 17 #[.val (.ref a1), .val (.ref a2), .val (.int (3 : Int32))] [(.int (3 : Int32)), (.ref a1)])) (fun _ k => XS.iloadN X0.here hx rfl (hb hby d12_16) rfl k) ?_
  obtain ⟨cl19, Ar19, qc19, Sz19, Nn19, Hs19, Gf19⟩ := id V_a1
  have hin20 : ¬ ((3 : Int32) < 0 ∨ cl19.slots.size ≤ ((3 : Int32)).toNatClampNeg) := (inb_of Sz19 ⟨by decide, by decide⟩)
  have hat20 : cl19.slots[((3 : Int32)).toNatClampNeg]? = some (.int x3) := Has.at Hs19 hin20 rfl
  refine Go.step (T' := s₁) (f' := (mkF m 18 #[.val (.ref a1), .val (.ref a2), .val (.int (3 : Int32))] [(.int x3)])) (fun _ k => X0.baloadBytes hx (j := (3 : Int32)) (v := (.int x3)) (by rw [e0]; exact Ar19.1) (State.isArrayOf_alike hZ.alike Ar19.2.1) Ar19.2.2 hin20 hat20 (g := (mkF m 17 #[.val (.ref a1), .val (.ref a2), .val (.int (3 : Int32))] [(.int (3 : Int32)), (.ref a1)])) rfl rfl (hb hby d12_17) _ k) ?_
  refine Go.step (T' := s₁) (f' := (mkF m 19 #[.val (.ref a1), .val (.ref a2), .val (.int (3 : Int32))] [(.ref a2), (.int x3)])) (fun _ k => XS.aloadN X0.here hx rfl (hb hby d12_18) rfl rfl k) ?_
  refine Go.step (T' := s₁) (f' := (mkF m 20 #[.val (.ref a1), .val (.ref a2), .val (.int (3 : Int32))] [(.int (3 : Int32)), (.ref a2), (.int x3)])) (fun _ k => XS.iloadN X0.here hx rfl (hb hby d12_19) rfl k) ?_
  obtain ⟨cl21, Ar21, qc21, Sz21, Nn21, Hs21, Gf21⟩ := id V_a2
  have hin22 : ¬ ((3 : Int32) < 0 ∨ cl21.slots.size ≤ ((3 : Int32)).toNatClampNeg) := (inb_of Sz21 ⟨by decide, by decide⟩)
  have hat22 : cl21.slots[((3 : Int32)).toNatClampNeg]? = some (.int x3) := Has.at Hs21 hin22 rfl
  refine Go.step (T' := s₁) (f' := (mkF m 21 #[.val (.ref a1), .val (.ref a2), .val (.int (3 : Int32))] [(.int x3), (.int x3)])) (fun _ k => X0.baloadBytes hx (j := (3 : Int32)) (v := (.int x3)) (by rw [e0]; exact Ar21.1) (State.isArrayOf_alike hZ.alike Ar21.2.1) Ar21.2.2 hin22 hat22 (g := (mkF m 20 #[.val (.ref a1), .val (.ref a2), .val (.int (3 : Int32))] [(.int (3 : Int32)), (.ref a2), (.int x3)])) rfl rfl (hb hby d12_20) _ k) ?_
  refine Go.step (T' := s₁) (f' := (mkF m 26 #[.val (.ref a1), .val (.ref a2), .val (.int (3 : Int32))] [])) (fun _ k => XS.icmpYes X0.here hx rfl (pc0 := 21) (pc' := 26) rfl (hb hby d12_21) rfl (teq (rfl : x3 = x3)).1 (by decide) (by decide) k) ?_
  refine Go.step (T' := s₁) (f' := (mkF m 29 #[.val (.ref a1), .val (.ref a2), .val (.int (4 : Int32))] [])) (fun _ k => XS.iinc X0.here hx rfl (hb hby d12_26) rfl (l' := #[.val (.ref a1), .val (.ref a2), .val (.int (4 : Int32))]) rfl k) ?_
  refine Go.step (T' := s₁) (f' := (mkF m 9 #[.val (.ref a1), .val (.ref a2), .val (.int (4 : Int32))] [])) (fun _ k => XS.goto X0.here hx rfl (pc0 := 29) (pc' := 9) rfl (hb hby d12_29) (by decide) (by decide) k) ?_
  refine Go.step (T' := s₁) (f' := (mkF m 10 #[.val (.ref a1), .val (.ref a2), .val (.int (4 : Int32))] [(.int (4 : Int32))])) (fun _ k => XS.iloadN X0.here hx rfl (hb hby d12_9) rfl k) ?_
  refine Go.step (T' := s₁) (f' := (mkF m 11 #[.val (.ref a1), .val (.ref a2), .val (.int (4 : Int32))] [(.ref a1), (.int (4 : Int32))])) (fun _ k => XS.aloadN X0.here hx rfl (hb hby d12_10) rfl rfl k) ?_
  obtain ⟨cl23, Ar23, qc23, Sz23, Nn23, Hs23, Gf23⟩ := id V_a1
  have hlen23 := X0.arraylength hx (by rw [e0]; exact Ar23.1) (State.isArrayOf_alike hZ.alike Ar23.2.1) (g := (mkF m 11 #[.val (.ref a1), .val (.ref a2), .val (.int (4 : Int32))] [(.ref a1), (.int (4 : Int32))])) rfl rfl (hb hby d12_11)
  rw [len_of Sz23 Nn23] at hlen23
  refine Go.step (T' := s₁) (f' := (mkF m 12 #[.val (.ref a1), .val (.ref a2), .val (.int (4 : Int32))] [(.int (11 : Int32)), (.int (4 : Int32))])) (fun _ k => hlen23 _ k) ?_
  refine Go.step (T' := s₁) (f' := (mkF m 15 #[.val (.ref a1), .val (.ref a2), .val (.int (4 : Int32))] [])) (fun _ k => XS.icmpNo X0.here hx rfl (hb hby d12_12) rfl (tlt (by decide : (4 : Int32) < (11 : Int32))).2.1 k) ?_
  refine Go.step (T' := s₁) (f' := (mkF m 16 #[.val (.ref a1), .val (.ref a2), .val (.int (4 : Int32))] [(.ref a1)])) (fun _ k => XS.aloadN X0.here hx rfl (hb hby d12_15) rfl rfl k) ?_
  refine Go.step (T' := s₁) (f' := (mkF m 17 #[.val (.ref a1), .val (.ref a2), .val (.int (4 : Int32))] [(.int (4 : Int32)), (.ref a1)])) (fun _ k => XS.iloadN X0.here hx rfl (hb hby d12_16) rfl k) ?_
  obtain ⟨cl24, Ar24, qc24, Sz24, Nn24, Hs24, Gf24⟩ := id V_a1
  have hin25 : ¬ ((4 : Int32) < 0 ∨ cl24.slots.size ≤ ((4 : Int32)).toNatClampNeg) := (inb_of Sz24 ⟨by decide, by decide⟩)
  have hat25 : cl24.slots[((4 : Int32)).toNatClampNeg]? = some (.int x4) := Has.at Hs24 hin25 rfl
  refine Go.step (T' := s₁) (f' := (mkF m 18 #[.val (.ref a1), .val (.ref a2), .val (.int (4 : Int32))] [(.int x4)])) (fun _ k => X0.baloadBytes hx (j := (4 : Int32)) (v := (.int x4)) (by rw [e0]; exact Ar24.1) (State.isArrayOf_alike hZ.alike Ar24.2.1) Ar24.2.2 hin25 hat25 (g := (mkF m 17 #[.val (.ref a1), .val (.ref a2), .val (.int (4 : Int32))] [(.int (4 : Int32)), (.ref a1)])) rfl rfl (hb hby d12_17) _ k) ?_
  refine Go.step (T' := s₁) (f' := (mkF m 19 #[.val (.ref a1), .val (.ref a2), .val (.int (4 : Int32))] [(.ref a2), (.int x4)])) (fun _ k => XS.aloadN X0.here hx rfl (hb hby d12_18) rfl rfl k) ?_
  refine Go.step (T' := s₁) (f' := (mkF m 20 #[.val (.ref a1), .val (.ref a2), .val (.int (4 : Int32))] [(.int (4 : Int32)), (.ref a2), (.int x4)])) (fun _ k => XS.iloadN X0.here hx rfl (hb hby d12_19) rfl k) ?_
  obtain ⟨cl26, Ar26, qc26, Sz26, Nn26, Hs26, Gf26⟩ := id V_a2
  have hin27 : ¬ ((4 : Int32) < 0 ∨ cl26.slots.size ≤ ((4 : Int32)).toNatClampNeg) := (inb_of Sz26 ⟨by decide, by decide⟩)
  have hat27 : cl26.slots[((4 : Int32)).toNatClampNeg]? = some (.int x4) := Has.at Hs26 hin27 rfl
  refine Go.step (T' := s₁) (f' := (mkF m 21 #[.val (.ref a1), .val (.ref a2), .val (.int (4 : Int32))] [(.int x4), (.int x4)])) (fun _ k => X0.baloadBytes hx (j := (4 : Int32)) (v := (.int x4)) (by rw [e0]; exact Ar26.1) (State.isArrayOf_alike hZ.alike Ar26.2.1) Ar26.2.2 hin27 hat27 (g := (mkF m 20 #[.val (.ref a1), .val (.ref a2), .val (.int (4 : Int32))] [(.int (4 : Int32)), (.ref a2), (.int x4)])) rfl rfl (hb hby d12_20) _ k) ?_
  refine Go.step (T' := s₁) (f' := (mkF m 26 #[.val (.ref a1), .val (.ref a2), .val (.int (4 : Int32))] [])) (fun _ k => XS.icmpYes X0.here hx rfl (pc0 := 21) (pc' := 26) rfl (hb hby d12_21) rfl (teq (rfl : x4 = x4)).1 (by decide) (by decide) k) ?_
  refine Go.step (T' := s₁) (f' := (mkF m 29 #[.val (.ref a1), .val (.ref a2), .val (.int (5 : Int32))] [])) (fun _ k => XS.iinc X0.here hx rfl (hb hby d12_26) rfl (l' := #[.val (.ref a1), .val (.ref a2), .val (.int (5 : Int32))]) rfl k) ?_
  refine Go.step (T' := s₁) (f' := (mkF m 9 #[.val (.ref a1), .val (.ref a2), .val (.int (5 : Int32))] [])) (fun _ k => XS.goto X0.here hx rfl (pc0 := 29) (pc' := 9) rfl (hb hby d12_29) (by decide) (by decide) k) ?_
  refine Go.step (T' := s₁) (f' := (mkF m 10 #[.val (.ref a1), .val (.ref a2), .val (.int (5 : Int32))] [(.int (5 : Int32))])) (fun _ k => XS.iloadN X0.here hx rfl (hb hby d12_9) rfl k) ?_
  refine Go.step (T' := s₁) (f' := (mkF m 11 #[.val (.ref a1), .val (.ref a2), .val (.int (5 : Int32))] [(.ref a1), (.int (5 : Int32))])) (fun _ k => XS.aloadN X0.here hx rfl (hb hby d12_10) rfl rfl k) ?_
  obtain ⟨cl28, Ar28, qc28, Sz28, Nn28, Hs28, Gf28⟩ := id V_a1
  have hlen28 := X0.arraylength hx (by rw [e0]; exact Ar28.1) (State.isArrayOf_alike hZ.alike Ar28.2.1) (g := (mkF m 11 #[.val (.ref a1), .val (.ref a2), .val (.int (5 : Int32))] [(.ref a1), (.int (5 : Int32))])) rfl rfl (hb hby d12_11)
  rw [len_of Sz28 Nn28] at hlen28
  refine Go.step (T' := s₁) (f' := (mkF m 12 #[.val (.ref a1), .val (.ref a2), .val (.int (5 : Int32))] [(.int (11 : Int32)), (.int (5 : Int32))])) (fun _ k => hlen28 _ k) ?_
  refine Go.step (T' := s₁) (f' := (mkF m 15 #[.val (.ref a1), .val (.ref a2), .val (.int (5 : Int32))] [])) (fun _ k => XS.icmpNo X0.here hx rfl (hb hby d12_12) rfl (tlt (by decide : (5 : Int32) < (11 : Int32))).2.1 k) ?_
  refine Go.step (T' := s₁) (f' := (mkF m 16 #[.val (.ref a1), .val (.ref a2), .val (.int (5 : Int32))] [(.ref a1)])) (fun _ k => XS.aloadN X0.here hx rfl (hb hby d12_15) rfl rfl k) ?_
  refine Go.step (T' := s₁) (f' := (mkF m 17 #[.val (.ref a1), .val (.ref a2), .val (.int (5 : Int32))] [(.int (5 : Int32)), (.ref a1)])) (fun _ k => XS.iloadN X0.here hx rfl (hb hby d12_16) rfl k) ?_
  obtain ⟨cl29, Ar29, qc29, Sz29, Nn29, Hs29, Gf29⟩ := id V_a1
  have hin30 : ¬ ((5 : Int32) < 0 ∨ cl29.slots.size ≤ ((5 : Int32)).toNatClampNeg) := (inb_of Sz29 ⟨by decide, by decide⟩)
  have hat30 : cl29.slots[((5 : Int32)).toNatClampNeg]? = some (.int x5) := Has.at Hs29 hin30 rfl
  refine Go.step (T' := s₁) (f' := (mkF m 18 #[.val (.ref a1), .val (.ref a2), .val (.int (5 : Int32))] [(.int x5)])) (fun _ k => X0.baloadBytes hx (j := (5 : Int32)) (v := (.int x5)) (by rw [e0]; exact Ar29.1) (State.isArrayOf_alike hZ.alike Ar29.2.1) Ar29.2.2 hin30 hat30 (g := (mkF m 17 #[.val (.ref a1), .val (.ref a2), .val (.int (5 : Int32))] [(.int (5 : Int32)), (.ref a1)])) rfl rfl (hb hby d12_17) _ k) ?_
  refine Go.step (T' := s₁) (f' := (mkF m 19 #[.val (.ref a1), .val (.ref a2), .val (.int (5 : Int32))] [(.ref a2), (.int x5)])) (fun _ k => XS.aloadN X0.here hx rfl (hb hby d12_18) rfl rfl k) ?_
  refine Go.step (T' := s₁) (f' := (mkF m 20 #[.val (.ref a1), .val (.ref a2), .val (.int (5 : Int32))] [(.int (5 : Int32)), (.ref a2), (.int x5)])) (fun _ k => XS.iloadN X0.here hx rfl (hb hby d12_19) rfl k) ?_
  obtain ⟨cl31, Ar31, qc31, Sz31, Nn31, Hs31, Gf31⟩ := id V_a2
  have hin32 : ¬ ((5 : Int32) < 0 ∨ cl31.slots.size ≤ ((5 : Int32)).toNatClampNeg) := (inb_of Sz31 ⟨by decide, by decide⟩)
  have hat32 : cl31.slots[((5 : Int32)).toNatClampNeg]? = some (.int x5) := Has.at Hs31 hin32 rfl
  refine Go.step (T' := s₁) (f' := (mkF m 21 #[.val (.ref a1), .val (.ref a2), .val (.int (5 : Int32))] [(.int x5), (.int x5)])) (fun _ k => X0.baloadBytes hx (j := (5 : Int32)) (v := (.int x5)) (by rw [e0]; exact Ar31.1) (State.isArrayOf_alike hZ.alike Ar31.2.1) Ar31.2.2 hin32 hat32 (g := (mkF m 20 #[.val (.ref a1), .val (.ref a2), .val (.int (5 : Int32))] [(.int (5 : Int32)), (.ref a2), (.int x5)])) rfl rfl (hb hby d12_20) _ k) ?_
  refine Go.step (T' := s₁) (f' := (mkF m 26 #[.val (.ref a1), .val (.ref a2), .val (.int (5 : Int32))] [])) (fun _ k => XS.icmpYes X0.here hx rfl (pc0 := 21) (pc' := 26) rfl (hb hby d12_21) rfl (teq (rfl : x5 = x5)).1 (by decide) (by decide) k) ?_
  refine Go.step (T' := s₁) (f' := (mkF m 29 #[.val (.ref a1), .val (.ref a2), .val (.int (6 : Int32))] [])) (fun _ k => XS.iinc X0.here hx rfl (hb hby d12_26) rfl (l' := #[.val (.ref a1), .val (.ref a2), .val (.int (6 : Int32))]) rfl k) ?_
  refine Go.step (T' := s₁) (f' := (mkF m 9 #[.val (.ref a1), .val (.ref a2), .val (.int (6 : Int32))] [])) (fun _ k => XS.goto X0.here hx rfl (pc0 := 29) (pc' := 9) rfl (hb hby d12_29) (by decide) (by decide) k) ?_
  refine Go.step (T' := s₁) (f' := (mkF m 10 #[.val (.ref a1), .val (.ref a2), .val (.int (6 : Int32))] [(.int (6 : Int32))])) (fun _ k => XS.iloadN X0.here hx rfl (hb hby d12_9) rfl k) ?_
  refine Go.step (T' := s₁) (f' := (mkF m 11 #[.val (.ref a1), .val (.ref a2), .val (.int (6 : Int32))] [(.ref a1), (.int (6 : Int32))])) (fun _ k => XS.aloadN X0.here hx rfl (hb hby d12_10) rfl rfl k) ?_
  obtain ⟨cl33, Ar33, qc33, Sz33, Nn33, Hs33, Gf33⟩ := id V_a1
  have hlen33 := X0.arraylength hx (by rw [e0]; exact Ar33.1) (State.isArrayOf_alike hZ.alike Ar33.2.1) (g := (mkF m 11 #[.val (.ref a1), .val (.ref a2), .val (.int (6 : Int32))] [(.ref a1), (.int (6 : Int32))])) rfl rfl (hb hby d12_11)
  rw [len_of Sz33 Nn33] at hlen33
  refine Go.step (T' := s₁) (f' := (mkF m 12 #[.val (.ref a1), .val (.ref a2), .val (.int (6 : Int32))] [(.int (11 : Int32)), (.int (6 : Int32))])) (fun _ k => hlen33 _ k) ?_
  refine Go.step (T' := s₁) (f' := (mkF m 15 #[.val (.ref a1), .val (.ref a2), .val (.int (6 : Int32))] [])) (fun _ k => XS.icmpNo X0.here hx rfl (hb hby d12_12) rfl (tlt (by decide : (6 : Int32) < (11 : Int32))).2.1 k) ?_
  refine Go.step (T' := s₁) (f' := (mkF m 16 #[.val (.ref a1), .val (.ref a2), .val (.int (6 : Int32))] [(.ref a1)])) (fun _ k => XS.aloadN X0.here hx rfl (hb hby d12_15) rfl rfl k) ?_
  refine Go.step (T' := s₁) (f' := (mkF m 17 #[.val (.ref a1), .val (.ref a2), .val (.int (6 : Int32))] [(.int (6 : Int32)), (.ref a1)])) (fun _ k => XS.iloadN X0.here hx rfl (hb hby d12_16) rfl k) ?_
  obtain ⟨cl34, Ar34, qc34, Sz34, Nn34, Hs34, Gf34⟩ := id V_a1
  have hin35 : ¬ ((6 : Int32) < 0 ∨ cl34.slots.size ≤ ((6 : Int32)).toNatClampNeg) := (inb_of Sz34 ⟨by decide, by decide⟩)
  have hat35 : cl34.slots[((6 : Int32)).toNatClampNeg]? = some (.int x6) := Has.at Hs34 hin35 rfl
  refine Go.step (T' := s₁) (f' := (mkF m 18 #[.val (.ref a1), .val (.ref a2), .val (.int (6 : Int32))] [(.int x6)])) (fun _ k => X0.baloadBytes hx (j := (6 : Int32)) (v := (.int x6)) (by rw [e0]; exact Ar34.1) (State.isArrayOf_alike hZ.alike Ar34.2.1) Ar34.2.2 hin35 hat35 (g := (mkF m 17 #[.val (.ref a1), .val (.ref a2), .val (.int (6 : Int32))] [(.int (6 : Int32)), (.ref a1)])) rfl rfl (hb hby d12_17) _ k) ?_
  refine Go.step (T' := s₁) (f' := (mkF m 19 #[.val (.ref a1), .val (.ref a2), .val (.int (6 : Int32))] [(.ref a2), (.int x6)])) (fun _ k => XS.aloadN X0.here hx rfl (hb hby d12_18) rfl rfl k) ?_
  refine Go.step (T' := s₁) (f' := (mkF m 20 #[.val (.ref a1), .val (.ref a2), .val (.int (6 : Int32))] [(.int (6 : Int32)), (.ref a2), (.int x6)])) (fun _ k => XS.iloadN X0.here hx rfl (hb hby d12_19) rfl k) ?_
  obtain ⟨cl36, Ar36, qc36, Sz36, Nn36, Hs36, Gf36⟩ := id V_a2
  have hin37 : ¬ ((6 : Int32) < 0 ∨ cl36.slots.size ≤ ((6 : Int32)).toNatClampNeg) := (inb_of Sz36 ⟨by decide, by decide⟩)
  have hat37 : cl36.slots[((6 : Int32)).toNatClampNeg]? = some (.int x6) := Has.at Hs36 hin37 rfl
  refine Go.step (T' := s₁) (f' := (mkF m 21 #[.val (.ref a1), .val (.ref a2), .val (.int (6 : Int32))] [(.int x6), (.int x6)])) (fun _ k => X0.baloadBytes hx (j := (6 : Int32)) (v := (.int x6)) (by rw [e0]; exact Ar36.1) (State.isArrayOf_alike hZ.alike Ar36.2.1) Ar36.2.2 hin37 hat37 (g := (mkF m 20 #[.val (.ref a1), .val (.ref a2), .val (.int (6 : Int32))] [(.int (6 : Int32)), (.ref a2), (.int x6)])) rfl rfl (hb hby d12_20) _ k) ?_
  refine Go.step (T' := s₁) (f' := (mkF m 26 #[.val (.ref a1), .val (.ref a2), .val (.int (6 : Int32))] [])) (fun _ k => XS.icmpYes X0.here hx rfl (pc0 := 21) (pc' := 26) rfl (hb hby d12_21) rfl (teq (rfl : x6 = x6)).1 (by decide) (by decide) k) ?_
  refine Go.step (T' := s₁) (f' := (mkF m 29 #[.val (.ref a1), .val (.ref a2), .val (.int (7 : Int32))] [])) (fun _ k => XS.iinc X0.here hx rfl (hb hby d12_26) rfl (l' := #[.val (.ref a1), .val (.ref a2), .val (.int (7 : Int32))]) rfl k) ?_
  refine Go.step (T' := s₁) (f' := (mkF m 9 #[.val (.ref a1), .val (.ref a2), .val (.int (7 : Int32))] [])) (fun _ k => XS.goto X0.here hx rfl (pc0 := 29) (pc' := 9) rfl (hb hby d12_29) (by decide) (by decide) k) ?_
  refine Go.step (T' := s₁) (f' := (mkF m 10 #[.val (.ref a1), .val (.ref a2), .val (.int (7 : Int32))] [(.int (7 : Int32))])) (fun _ k => XS.iloadN X0.here hx rfl (hb hby d12_9) rfl k) ?_
  refine Go.step (T' := s₁) (f' := (mkF m 11 #[.val (.ref a1), .val (.ref a2), .val (.int (7 : Int32))] [(.ref a1), (.int (7 : Int32))])) (fun _ k => XS.aloadN X0.here hx rfl (hb hby d12_10) rfl rfl k) ?_
  obtain ⟨cl38, Ar38, qc38, Sz38, Nn38, Hs38, Gf38⟩ := id V_a1
  have hlen38 := X0.arraylength hx (by rw [e0]; exact Ar38.1) (State.isArrayOf_alike hZ.alike Ar38.2.1) (g := (mkF m 11 #[.val (.ref a1), .val (.ref a2), .val (.int (7 : Int32))] [(.ref a1), (.int (7 : Int32))])) rfl rfl (hb hby d12_11)
  rw [len_of Sz38 Nn38] at hlen38
  refine Go.step (T' := s₁) (f' := (mkF m 12 #[.val (.ref a1), .val (.ref a2), .val (.int (7 : Int32))] [(.int (11 : Int32)), (.int (7 : Int32))])) (fun _ k => hlen38 _ k) ?_
  refine Go.step (T' := s₁) (f' := (mkF m 15 #[.val (.ref a1), .val (.ref a2), .val (.int (7 : Int32))] [])) (fun _ k => XS.icmpNo X0.here hx rfl (hb hby d12_12) rfl (tlt (by decide : (7 : Int32) < (11 : Int32))).2.1 k) ?_
  refine Go.step (T' := s₁) (f' := (mkF m 16 #[.val (.ref a1), .val (.ref a2), .val (.int (7 : Int32))] [(.ref a1)])) (fun _ k => XS.aloadN X0.here hx rfl (hb hby d12_15) rfl rfl k) ?_
  refine Go.step (T' := s₁) (f' := (mkF m 17 #[.val (.ref a1), .val (.ref a2), .val (.int (7 : Int32))] [(.int (7 : Int32)), (.ref a1)])) (fun _ k => XS.iloadN X0.here hx rfl (hb hby d12_16) rfl k) ?_
  obtain ⟨cl39, Ar39, qc39, Sz39, Nn39, Hs39, Gf39⟩ := id V_a1
  have hin40 : ¬ ((7 : Int32) < 0 ∨ cl39.slots.size ≤ ((7 : Int32)).toNatClampNeg) := (inb_of Sz39 ⟨by decide, by decide⟩)
  have hat40 : cl39.slots[((7 : Int32)).toNatClampNeg]? = some (.int x7) := Has.at Hs39 hin40 rfl
  refine Go.step (T' := s₁) (f' := (mkF m 18 #[.val (.ref a1), .val (.ref a2), .val (.int (7 : Int32))] [(.int x7)])) (fun _ k => X0.baloadBytes hx (j := (7 : Int32)) (v := (.int x7)) (by rw [e0]; exact Ar39.1) (State.isArrayOf_alike hZ.alike Ar39.2.1) Ar39.2.2 hin40 hat40 (g := (mkF m 17 #[.val (.ref a1), .val (.ref a2), .val (.int (7 : Int32))] [(.int (7 : Int32)), (.ref a1)])) rfl rfl (hb hby d12_17) _ k) ?_
  refine Go.step (T' := s₁) (f' := (mkF m 19 #[.val (.ref a1), .val (.ref a2), .val (.int (7 : Int32))] [(.ref a2), (.int x7)])) (fun _ k => XS.aloadN X0.here hx rfl (hb hby d12_18) rfl rfl k) ?_
  refine Go.step (T' := s₁) (f' := (mkF m 20 #[.val (.ref a1), .val (.ref a2), .val (.int (7 : Int32))] [(.int (7 : Int32)), (.ref a2), (.int x7)])) (fun _ k => XS.iloadN X0.here hx rfl (hb hby d12_19) rfl k) ?_
  obtain ⟨cl41, Ar41, qc41, Sz41, Nn41, Hs41, Gf41⟩ := id V_a2
  have hin42 : ¬ ((7 : Int32) < 0 ∨ cl41.slots.size ≤ ((7 : Int32)).toNatClampNeg) := (inb_of Sz41 ⟨by decide, by decide⟩)
  have hat42 : cl41.slots[((7 : Int32)).toNatClampNeg]? = some (.int x7) := Has.at Hs41 hin42 rfl
  refine Go.step (T' := s₁) (f' := (mkF m 21 #[.val (.ref a1), .val (.ref a2), .val (.int (7 : Int32))] [(.int x7), (.int x7)])) (fun _ k => X0.baloadBytes hx (j := (7 : Int32)) (v := (.int x7)) (by rw [e0]; exact Ar41.1) (State.isArrayOf_alike hZ.alike Ar41.2.1) Ar41.2.2 hin42 hat42 (g := (mkF m 20 #[.val (.ref a1), .val (.ref a2), .val (.int (7 : Int32))] [(.int (7 : Int32)), (.ref a2), (.int x7)])) rfl rfl (hb hby d12_20) _ k) ?_
  refine Go.step (T' := s₁) (f' := (mkF m 26 #[.val (.ref a1), .val (.ref a2), .val (.int (7 : Int32))] [])) (fun _ k => XS.icmpYes X0.here hx rfl (pc0 := 21) (pc' := 26) rfl (hb hby d12_21) rfl (teq (rfl : x7 = x7)).1 (by decide) (by decide) k) ?_
  refine Go.step (T' := s₁) (f' := (mkF m 29 #[.val (.ref a1), .val (.ref a2), .val (.int (8 : Int32))] [])) (fun _ k => XS.iinc X0.here hx rfl (hb hby d12_26) rfl (l' := #[.val (.ref a1), .val (.ref a2), .val (.int (8 : Int32))]) rfl k) ?_
  refine Go.step (T' := s₁) (f' := (mkF m 9 #[.val (.ref a1), .val (.ref a2), .val (.int (8 : Int32))] [])) (fun _ k => XS.goto X0.here hx rfl (pc0 := 29) (pc' := 9) rfl (hb hby d12_29) (by decide) (by decide) k) ?_
  refine Go.step (T' := s₁) (f' := (mkF m 10 #[.val (.ref a1), .val (.ref a2), .val (.int (8 : Int32))] [(.int (8 : Int32))])) (fun _ k => XS.iloadN X0.here hx rfl (hb hby d12_9) rfl k) ?_
  refine Go.step (T' := s₁) (f' := (mkF m 11 #[.val (.ref a1), .val (.ref a2), .val (.int (8 : Int32))] [(.ref a1), (.int (8 : Int32))])) (fun _ k => XS.aloadN X0.here hx rfl (hb hby d12_10) rfl rfl k) ?_
  obtain ⟨cl43, Ar43, qc43, Sz43, Nn43, Hs43, Gf43⟩ := id V_a1
  have hlen43 := X0.arraylength hx (by rw [e0]; exact Ar43.1) (State.isArrayOf_alike hZ.alike Ar43.2.1) (g := (mkF m 11 #[.val (.ref a1), .val (.ref a2), .val (.int (8 : Int32))] [(.ref a1), (.int (8 : Int32))])) rfl rfl (hb hby d12_11)
  rw [len_of Sz43 Nn43] at hlen43
  refine Go.step (T' := s₁) (f' := (mkF m 12 #[.val (.ref a1), .val (.ref a2), .val (.int (8 : Int32))] [(.int (11 : Int32)), (.int (8 : Int32))])) (fun _ k => hlen43 _ k) ?_
  refine Go.step (T' := s₁) (f' := (mkF m 15 #[.val (.ref a1), .val (.ref a2), .val (.int (8 : Int32))] [])) (fun _ k => XS.icmpNo X0.here hx rfl (hb hby d12_12) rfl (tlt (by decide : (8 : Int32) < (11 : Int32))).2.1 k) ?_
  refine Go.step (T' := s₁) (f' := (mkF m 16 #[.val (.ref a1), .val (.ref a2), .val (.int (8 : Int32))] [(.ref a1)])) (fun _ k => XS.aloadN X0.here hx rfl (hb hby d12_15) rfl rfl k) ?_
  refine Go.step (T' := s₁) (f' := (mkF m 17 #[.val (.ref a1), .val (.ref a2), .val (.int (8 : Int32))] [(.int (8 : Int32)), (.ref a1)])) (fun _ k => XS.iloadN X0.here hx rfl (hb hby d12_16) rfl k) ?_
  obtain ⟨cl44, Ar44, qc44, Sz44, Nn44, Hs44, Gf44⟩ := id V_a1
  have hin45 : ¬ ((8 : Int32) < 0 ∨ cl44.slots.size ≤ ((8 : Int32)).toNatClampNeg) := (inb_of Sz44 ⟨by decide, by decide⟩)
  have hat45 : cl44.slots[((8 : Int32)).toNatClampNeg]? = some (.int x8) := Has.at Hs44 hin45 rfl
  refine Go.step (T' := s₁) (f' := (mkF m 18 #[.val (.ref a1), .val (.ref a2), .val (.int (8 : Int32))] [(.int x8)])) (fun _ k => X0.baloadBytes hx (j := (8 : Int32)) (v := (.int x8)) (by rw [e0]; exact Ar44.1) (State.isArrayOf_alike hZ.alike Ar44.2.1) Ar44.2.2 hin45 hat45 (g := (mkF m 17 #[.val (.ref a1), .val (.ref a2), .val (.int (8 : Int32))] [(.int (8 : Int32)), (.ref a1)])) rfl rfl (hb hby d12_17) _ k) ?_
  refine Go.step (T' := s₁) (f' := (mkF m 19 #[.val (.ref a1), .val (.ref a2), .val (.int (8 : Int32))] [(.ref a2), (.int x8)])) (fun _ k => XS.aloadN X0.here hx rfl (hb hby d12_18) rfl rfl k) ?_
  refine Go.step (T' := s₁) (f' := (mkF m 20 #[.val (.ref a1), .val (.ref a2), .val (.int (8 : Int32))] [(.int (8 : Int32)), (.ref a2), (.int x8)])) (fun _ k => XS.iloadN X0.here hx rfl (hb hby d12_19) rfl k) ?_
  obtain ⟨cl46, Ar46, qc46, Sz46, Nn46, Hs46, Gf46⟩ := id V_a2
  have hin47 : ¬ ((8 : Int32) < 0 ∨ cl46.slots.size ≤ ((8 : Int32)).toNatClampNeg) := (inb_of Sz46 ⟨by decide, by decide⟩)
  have hat47 : cl46.slots[((8 : Int32)).toNatClampNeg]? = some (.int x8) := Has.at Hs46 hin47 rfl
  refine Go.step (T' := s₁) (f' := (mkF m 21 #[.val (.ref a1), .val (.ref a2), .val (.int (8 : Int32))] [(.int x8), (.int x8)])) (fun _ k => X0.baloadBytes hx (j := (8 : Int32)) (v := (.int x8)) (by rw [e0]; exact Ar46.1) (State.isArrayOf_alike hZ.alike Ar46.2.1) Ar46.2.2 hin47 hat47 (g := (mkF m 20 #[.val (.ref a1), .val (.ref a2), .val (.int (8 : Int32))] [(.int (8 : Int32)), (.ref a2), (.int x8)])) rfl rfl (hb hby d12_20) _ k) ?_
  refine Go.step (T' := s₁) (f' := (mkF m 26 #[.val (.ref a1), .val (.ref a2), .val (.int (8 : Int32))] [])) (fun _ k => XS.icmpYes X0.here hx rfl (pc0 := 21) (pc' := 26) rfl (hb hby d12_21) rfl (teq (rfl : x8 = x8)).1 (by decide) (by decide) k) ?_
  refine Go.step (T' := s₁) (f' := (mkF m 29 #[.val (.ref a1), .val (.ref a2), .val (.int (9 : Int32))] [])) (fun _ k => XS.iinc X0.here hx rfl (hb hby d12_26) rfl (l' := #[.val (.ref a1), .val (.ref a2), .val (.int (9 : Int32))]) rfl k) ?_
  refine Go.step (T' := s₁) (f' := (mkF m 9 #[.val (.ref a1), .val (.ref a2), .val (.int (9 : Int32))] [])) (fun _ k => XS.goto X0.here hx rfl (pc0 := 29) (pc' := 9) rfl (hb hby d12_29) (by decide) (by decide) k) ?_
  refine Go.step (T' := s₁) (f' := (mkF m 10 #[.val (.ref a1), .val (.ref a2), .val (.int (9 : Int32))] [(.int (9 : Int32))])) (fun _ k => XS.iloadN X0.here hx rfl (hb hby d12_9) rfl k) ?_
  refine Go.step (T' := s₁) (f' := (mkF m 11 #[.val (.ref a1), .val (.ref a2), .val (.int (9 : Int32))] [(.ref a1), (.int (9 : Int32))])) (fun _ k => XS.aloadN X0.here hx rfl (hb hby d12_10) rfl rfl k) ?_
  obtain ⟨cl48, Ar48, qc48, Sz48, Nn48, Hs48, Gf48⟩ := id V_a1
  have hlen48 := X0.arraylength hx (by rw [e0]; exact Ar48.1) (State.isArrayOf_alike hZ.alike Ar48.2.1) (g := (mkF m 11 #[.val (.ref a1), .val (.ref a2), .val (.int (9 : Int32))] [(.ref a1), (.int (9 : Int32))])) rfl rfl (hb hby d12_11)
  rw [len_of Sz48 Nn48] at hlen48
  refine Go.step (T' := s₁) (f' := (mkF m 12 #[.val (.ref a1), .val (.ref a2), .val (.int (9 : Int32))] [(.int (11 : Int32)), (.int (9 : Int32))])) (fun _ k => hlen48 _ k) ?_
  refine Go.step (T' := s₁) (f' := (mkF m 15 #[.val (.ref a1), .val (.ref a2), .val (.int (9 : Int32))] [])) (fun _ k => XS.icmpNo X0.here hx rfl (hb hby d12_12) rfl (tlt (by decide : (9 : Int32) < (11 : Int32))).2.1 k) ?_
  refine Go.step (T' := s₁) (f' := (mkF m 16 #[.val (.ref a1), .val (.ref a2), .val (.int (9 : Int32))] [(.ref a1)])) (fun _ k => XS.aloadN X0.here hx rfl (hb hby d12_15) rfl rfl k) ?_
  refine Go.step (T' := s₁) (f' := (mkF m 17 #[.val (.ref a1), .val (.ref a2), .val (.int (9 : Int32))] [(.int (9 : Int32)), (.ref a1)])) (fun _ k => XS.iloadN X0.here hx rfl (hb hby d12_16) rfl k) ?_
  obtain ⟨cl49, Ar49, qc49, Sz49, Nn49, Hs49, Gf49⟩ := id V_a1
  have hin50 : ¬ ((9 : Int32) < 0 ∨ cl49.slots.size ≤ ((9 : Int32)).toNatClampNeg) := (inb_of Sz49 ⟨by decide, by decide⟩)
  have hat50 : cl49.slots[((9 : Int32)).toNatClampNeg]? = some (.int x9) := Has.at Hs49 hin50 rfl
  refine Go.step (T' := s₁) (f' := (mkF m 18 #[.val (.ref a1), .val (.ref a2), .val (.int (9 : Int32))] [(.int x9)])) (fun _ k => X0.baloadBytes hx (j := (9 : Int32)) (v := (.int x9)) (by rw [e0]; exact Ar49.1) (State.isArrayOf_alike hZ.alike Ar49.2.1) Ar49.2.2 hin50 hat50 (g := (mkF m 17 #[.val (.ref a1), .val (.ref a2), .val (.int (9 : Int32))] [(.int (9 : Int32)), (.ref a1)])) rfl rfl (hb hby d12_17) _ k) ?_
  refine Go.step (T' := s₁) (f' := (mkF m 19 #[.val (.ref a1), .val (.ref a2), .val (.int (9 : Int32))] [(.ref a2), (.int x9)])) (fun _ k => XS.aloadN X0.here hx rfl (hb hby d12_18) rfl rfl k) ?_
  refine Go.step (T' := s₁) (f' := (mkF m 20 #[.val (.ref a1), .val (.ref a2), .val (.int (9 : Int32))] [(.int (9 : Int32)), (.ref a2), (.int x9)])) (fun _ k => XS.iloadN X0.here hx rfl (hb hby d12_19) rfl k) ?_
  obtain ⟨cl51, Ar51, qc51, Sz51, Nn51, Hs51, Gf51⟩ := id V_a2
  have hin52 : ¬ ((9 : Int32) < 0 ∨ cl51.slots.size ≤ ((9 : Int32)).toNatClampNeg) := (inb_of Sz51 ⟨by decide, by decide⟩)
  have hat52 : cl51.slots[((9 : Int32)).toNatClampNeg]? = some (.int x9) := Has.at Hs51 hin52 rfl
  refine Go.step (T' := s₁) (f' := (mkF m 21 #[.val (.ref a1), .val (.ref a2), .val (.int (9 : Int32))] [(.int x9), (.int x9)])) (fun _ k => X0.baloadBytes hx (j := (9 : Int32)) (v := (.int x9)) (by rw [e0]; exact Ar51.1) (State.isArrayOf_alike hZ.alike Ar51.2.1) Ar51.2.2 hin52 hat52 (g := (mkF m 20 #[.val (.ref a1), .val (.ref a2), .val (.int (9 : Int32))] [(.int (9 : Int32)), (.ref a2), (.int x9)])) rfl rfl (hb hby d12_20) _ k) ?_
  refine Go.step (T' := s₁) (f' := (mkF m 26 #[.val (.ref a1), .val (.ref a2), .val (.int (9 : Int32))] [])) (fun _ k => XS.icmpYes X0.here hx rfl (pc0 := 21) (pc' := 26) rfl (hb hby d12_21) rfl (teq (rfl : x9 = x9)).1 (by decide) (by decide) k) ?_
  refine Go.step (T' := s₁) (f' := (mkF m 29 #[.val (.ref a1), .val (.ref a2), .val (.int (10 : Int32))] [])) (fun _ k => XS.iinc X0.here hx rfl (hb hby d12_26) rfl (l' := #[.val (.ref a1), .val (.ref a2), .val (.int (10 : Int32))]) rfl k) ?_
  refine Go.step (T' := s₁) (f' := (mkF m 9 #[.val (.ref a1), .val (.ref a2), .val (.int (10 : Int32))] [])) (fun _ k => XS.goto X0.here hx rfl (pc0 := 29) (pc' := 9) rfl (hb hby d12_29) (by decide) (by decide) k) ?_
  refine Go.step (T' := s₁) (f' := (mkF m 10 #[.val (.ref a1), .val (.ref a2), .val (.int (10 : Int32))] [(.int (10 : Int32))])) (fun _ k => XS.iloadN X0.here hx rfl (hb hby d12_9) rfl k) ?_
  refine Go.step (T' := s₁) (f' := (mkF m 11 #[.val (.ref a1), .val (.ref a2), .val (.int (10 : Int32))] [(.ref a1), (.int (10 : Int32))])) (fun _ k => XS.aloadN X0.here hx rfl (hb hby d12_10) rfl rfl k) ?_
  obtain ⟨cl53, Ar53, qc53, Sz53, Nn53, Hs53, Gf53⟩ := id V_a1
  have hlen53 := X0.arraylength hx (by rw [e0]; exact Ar53.1) (State.isArrayOf_alike hZ.alike Ar53.2.1) (g := (mkF m 11 #[.val (.ref a1), .val (.ref a2), .val (.int (10 : Int32))] [(.ref a1), (.int (10 : Int32))])) rfl rfl (hb hby d12_11)
  rw [len_of Sz53 Nn53] at hlen53
  refine Go.step (T' := s₁) (f' := (mkF m 12 #[.val (.ref a1), .val (.ref a2), .val (.int (10 : Int32))] [(.int (11 : Int32)), (.int (10 : Int32))])) (fun _ k => hlen53 _ k) ?_
  refine Go.step (T' := s₁) (f' := (mkF m 15 #[.val (.ref a1), .val (.ref a2), .val (.int (10 : Int32))] [])) (fun _ k => XS.icmpNo X0.here hx rfl (hb hby d12_12) rfl (tlt (by decide : (10 : Int32) < (11 : Int32))).2.1 k) ?_
  refine Go.step (T' := s₁) (f' := (mkF m 16 #[.val (.ref a1), .val (.ref a2), .val (.int (10 : Int32))] [(.ref a1)])) (fun _ k => XS.aloadN X0.here hx rfl (hb hby d12_15) rfl rfl k) ?_
  refine Go.step (T' := s₁) (f' := (mkF m 17 #[.val (.ref a1), .val (.ref a2), .val (.int (10 : Int32))] [(.int (10 : Int32)), (.ref a1)])) (fun _ k => XS.iloadN X0.here hx rfl (hb hby d12_16) rfl k) ?_
  obtain ⟨cl54, Ar54, qc54, Sz54, Nn54, Hs54, Gf54⟩ := id V_a1
  have hin55 : ¬ ((10 : Int32) < 0 ∨ cl54.slots.size ≤ ((10 : Int32)).toNatClampNeg) := (inb_of Sz54 ⟨by decide, by decide⟩)
  have hat55 : cl54.slots[((10 : Int32)).toNatClampNeg]? = some (.int x10) := Has.at Hs54 hin55 rfl
  refine Go.step (T' := s₁) (f' := (mkF m 18 #[.val (.ref a1), .val (.ref a2), .val (.int (10 : Int32))] [(.int x10)])) (fun _ k => X0.baloadBytes hx (j := (10 : Int32)) (v := (.int x10)) (by rw [e0]; exact Ar54.1) (State.isArrayOf_alike hZ.alike Ar54.2.1) Ar54.2.2 hin55 hat55 (g := (mkF m 17 #[.val (.ref a1), .val (.ref a2), .val (.int (10 : Int32))] [(.int (10 : Int32)), (.ref a1)])) rfl rfl (hb hby d12_17) _ k) ?_
  refine Go.step (T' := s₁) (f' := (mkF m 19 #[.val (.ref a1), .val (.ref a2), .val (.int (10 : Int32))] [(.ref a2), (.int x10)])) (fun _ k => XS.aloadN X0.here hx rfl (hb hby d12_18) rfl rfl k) ?_
  refine Go.step (T' := s₁) (f' := (mkF m 20 #[.val (.ref a1), .val (.ref a2), .val (.int (10 : Int32))] [(.int (10 : Int32)), (.ref a2), (.int x10)])) (fun _ k => XS.iloadN X0.here hx rfl (hb hby d12_19) rfl k) ?_
  obtain ⟨cl56, Ar56, qc56, Sz56, Nn56, Hs56, Gf56⟩ := id V_a2
  have hin57 : ¬ ((10 : Int32) < 0 ∨ cl56.slots.size ≤ ((10 : Int32)).toNatClampNeg) := (inb_of Sz56 ⟨by decide, by decide⟩)
  have hat57 : cl56.slots[((10 : Int32)).toNatClampNeg]? = some (.int x10) := Has.at Hs56 hin57 rfl
  refine Go.step (T' := s₁) (f' := (mkF m 21 #[.val (.ref a1), .val (.ref a2), .val (.int (10 : Int32))] [(.int x10), (.int x10)])) (fun _ k => X0.baloadBytes hx (j := (10 : Int32)) (v := (.int x10)) (by rw [e0]; exact Ar56.1) (State.isArrayOf_alike hZ.alike Ar56.2.1) Ar56.2.2 hin57 hat57 (g := (mkF m 20 #[.val (.ref a1), .val (.ref a2), .val (.int (10 : Int32))] [(.int (10 : Int32)), (.ref a2), (.int x10)])) rfl rfl (hb hby d12_20) _ k) ?_
  refine Go.step (T' := s₁) (f' := (mkF m 26 #[.val (.ref a1), .val (.ref a2), .val (.int (10 : Int32))] [])) (fun _ k => XS.icmpYes X0.here hx rfl (pc0 := 21) (pc' := 26) rfl (hb hby d12_21) rfl (teq (rfl : x10 = x10)).1 (by decide) (by decide) k) ?_
  refine Go.step (T' := s₁) (f' := (mkF m 29 #[.val (.ref a1), .val (.ref a2), .val (.int (11 : Int32))] [])) (fun _ k => XS.iinc X0.here hx rfl (hb hby d12_26) rfl (l' := #[.val (.ref a1), .val (.ref a2), .val (.int (11 : Int32))]) rfl k) ?_
  refine Go.step (T' := s₁) (f' := (mkF m 9 #[.val (.ref a1), .val (.ref a2), .val (.int (11 : Int32))] [])) (fun _ k => XS.goto X0.here hx rfl (pc0 := 29) (pc' := 9) rfl (hb hby d12_29) (by decide) (by decide) k) ?_
  refine Go.step (T' := s₁) (f' := (mkF m 10 #[.val (.ref a1), .val (.ref a2), .val (.int (11 : Int32))] [(.int (11 : Int32))])) (fun _ k => XS.iloadN X0.here hx rfl (hb hby d12_9) rfl k) ?_
  refine Go.step (T' := s₁) (f' := (mkF m 11 #[.val (.ref a1), .val (.ref a2), .val (.int (11 : Int32))] [(.ref a1), (.int (11 : Int32))])) (fun _ k => XS.aloadN X0.here hx rfl (hb hby d12_10) rfl rfl k) ?_
  obtain ⟨cl58, Ar58, qc58, Sz58, Nn58, Hs58, Gf58⟩ := id V_a1
  have hlen58 := X0.arraylength hx (by rw [e0]; exact Ar58.1) (State.isArrayOf_alike hZ.alike Ar58.2.1) (g := (mkF m 11 #[.val (.ref a1), .val (.ref a2), .val (.int (11 : Int32))] [(.ref a1), (.int (11 : Int32))])) rfl rfl (hb hby d12_11)
  rw [len_of Sz58 Nn58] at hlen58
  refine Go.step (T' := s₁) (f' := (mkF m 12 #[.val (.ref a1), .val (.ref a2), .val (.int (11 : Int32))] [(.int (11 : Int32)), (.int (11 : Int32))])) (fun _ k => hlen58 _ k) ?_
  refine Go.step (T' := s₁) (f' := (mkF m 32 #[.val (.ref a1), .val (.ref a2), .val (.int (11 : Int32))] [])) (fun _ k => XS.icmpYes X0.here hx rfl (pc0 := 12) (pc' := 32) rfl (hb hby d12_12) rfl (flt (by decide : ¬ ((11 : Int32) < (11 : Int32)))).2.1 (by decide) (by decide) k) ?_
  refine Go.step (T' := s₁) (f' := (mkF m 33 #[.val (.ref a1), .val (.ref a2), .val (.int (11 : Int32))] [(.int (1 : Int32))])) (fun _ k => XS.iconst X0.here hx rfl (hb hby d12_32) k) ?_
  refine goN X0 hx (t := .boolean) Bd.returns (by simp) Bd.notSynchronized (hb hby d12_33) ?_ (by decide) (by decide)
  show Q_rmLe11_11 Z a1 a2 k1 k2 x0 x1 x2 x3 x4 x5 x6 x7 x8 x9 x10 h0 n0 _ s₁.heap _
  rw [e0]
  exact ⟨rfl, N0, rfl⟩
theorem ef_rmSe11_11 (m : MethodId) (a1 : Addr) (a2 : Addr) : entryFrame m #[(.ref a1), (.ref a2)] 3 = mkF m 0 #[.val (.ref a1), .val (.ref a2), .unset] [] := by first | (simp [entryFrame, mkF, argsToLocals, Value.category]; done) | rfl
def Q_rmSe11_11 (Z : State) (a1 : Addr) (a2 : Addr) (cs : Int32) (v1 : Addr) (v2 : Addr) (k1 : ClassId) (k2 : ClassId) (x0 : Int32) (x1 : Int32) (x2 : Int32) (x3 : Int32) (x4 : Int32) (x5 : Int32) (x6 : Int32) (x7 : Int32) (x8 : Int32) (x9 : Int32) (x10 : Int32) (h0 : Heap) (n0 : Nat) (rv : Option Value) (hq : Heap) (Lq : List Loc) : Prop := rv = some (.int (1 : Int32)) ∧ Fr n0 Lq ∧ hq = h0
set_option maxRecDepth 65536 in
set_option maxHeartbeats 40000000 in
theorem rmSe11_11 (l : Launch) (Z : State) (a0 : Array Value) (hw : ∀ d ∈ tables_1, d.before a0 Z = true) (ws : List Jvm.Cond) (a1 : Addr) (a2 : Addr) (cs : Int32) (v1 : Addr) (v2 : Addr) (k1 : ClassId) (k2 : ClassId) (x0 : Int32) (x1 : Int32) (x2 : Int32) (x3 : Int32) (x4 : Int32) (x5 : Int32) (x6 : Int32) (x7 : Int32) (x8 : Int32) (x9 : Int32) (x10 : Int32) (h0 : Heap) (n0 : Nat) (Z0 : n0 ≤ h0.size) (E_a1 : Exa Z h0 a1 "java/lang/String") (F_coder_a1 : Fld Z h0 a1 "java/lang/String" "coder" "B" (.int (0 : Int32))) (F_value_a1 : Fld Z h0 a1 "java/lang/String" "value" "[B" (.ref v1)) (V_v1 : Arv Z h0 v1 k1 .byte (11 : Int32) [(.int x0), (.int x1), (.int x2), (.int x3), (.int x4), (.int x5), (.int x6), (.int x7), (.int x8), (.int x9), (.int x10)] (.int (0 : Int32))) (E_a2 : Exa Z h0 a2 "java/lang/String") (F_coder_a2 : Fld Z h0 a2 "java/lang/String" "coder" "B" (.int (0 : Int32))) (F_value_a2 : Fld Z h0 a2 "java/lang/String" "value" "[B" (.ref v2)) (V_v2 : Arv Z h0 v2 k2 .byte (11 : Int32) [(.int x0), (.int x1), (.int x2), (.int x3), (.int x4), (.int x5), (.int x6), (.int x7), (.int x8), (.int x9), (.int x10)] (.int (0 : Int32))) (O0 : Old Z n0 h0) (S_COMPACT_STRINGS : Sta Z Z.heap "java/lang/String" "COMPACT_STRINGS" "Z" (.int cs)) (hcs : ¬ cs = (0 : Int32)) (hne : a1 ≠ a2) :
    MetFree l (⟨"java/lang/String", "equals", "(Ljava/lang/Object;)Z"⟩ : MethodName) (head1 (Jvm.Cond.code (⟨"java/lang/String", "equals", "(Ljava/lang/Object;)Z"⟩ : MethodName) jdk_42_method_66_code 3 (some .boolean) :: ws) ({ frames := 1, cells := 0, slots := 0, locals := 14 } : Room)) (fun a U => a = #[(.ref a1), (.ref a2)] ∧ Z.Warmed39 U.vm ∧ U.heap = h0) (fun _ _ _ _ _ => True) (fun _ U o U' => ∃ rv Lq, o = .returned rv ∧ Q_rmSe11_11 Z a1 a2 cs v1 v2 k1 k2 x0 x1 x2 x3 x4 x5 x6 x7 x8 x9 x10 h0 n0 rv U'.heap Lq ∧ FrameEnd U o U' Lq ({ frames := 1, cells := 0, slots := 0, locals := 14 } : Room).cells ({ frames := 1, cells := 0, slots := 0, locals := 14 } : Room).slots) := by
  refine MetFree.of_bodySF (plainFor_of_name pn_2) hisR ?_
  intro p e s m args below meth c s₁ Bd hml0 hP hK
  obtain ⟨rfl, hZ, hh⟩ := hP
  have hx := Bd.exec
  have hby := Bd.bytes
  have hml : c.maxLocals = 3 := hml0
  have hown : s.vm.findClass "java/lang/String" = some m.cls := findClass_of_methodNamed Bd.named
  have hnm := (name_of_methodNamed Bd.named Bd.method).1
  have X0 : Stand p l e ({ frames := 1, cells := 0, slots := 0, locals := 14 } : Room) s m #[(.ref a1), (.ref a2)] below meth c s₁ [] 0 0 := Stand.of_body Bd
  have e0 : s₁.heap = h0 := by rw [← hh, Bd.state]; rfl
  have N0 := Fr.nil n0
  refine of_go (ef_rmSe11_11 m a1 a2) ?_
  refine Go.step (T' := s₁) (f' := (mkF m 1 #[.val (.ref a1), .val (.ref a2), .unset] [(.ref a1)])) (fun _ k => XS.aloadN X0.here hx rfl (hb hby d11_0) rfl rfl k) ?_
  refine Go.step (T' := s₁) (f' := (mkF m 2 #[.val (.ref a1), .val (.ref a2), .unset] [(.ref a2), (.ref a1)])) (fun _ k => XS.aloadN X0.here hx rfl (hb hby d11_1) rfl rfl k) ?_
  refine Go.step (T' := s₁) (f' := (mkF m 7 #[.val (.ref a1), .val (.ref a2), .unset] [])) (fun _ k => Jvm.RoadKit.acmp (g := (mkF m 2 #[.val (.ref a1), .val (.ref a2), .unset] [(.ref a2), (.ref a1)])) X0 hx rfl rfl rfl (pc0 := 2) (pc' := 7) (same := false) rfl (hb hby d11_2) rfl (decide_eq_false fun q => hne (Value.ref.inj q)) (by decide) (by decide) k) ?_
  refine Go.step (T' := s₁) (f' := (mkF m 8 #[.val (.ref a1), .val (.ref a2), .unset] [(.ref a2)])) (fun _ k => XS.aloadN X0.here hx rfl (hb hby d11_7) rfl rfl k) ?_
  obtain ⟨T1, X1, e1, st1⟩ := instY X0 hx hZ hown (hw _ (List.mem_of_getElem? (i := 74) rfl)) e0 (Ins.self E_a2) (g := (mkF m 8 #[.val (.ref a1), .val (.ref a2), .unset] [(.ref a2)])) rfl rfl (hb hby d11_8)
  refine Go.step (T' := T1) (f' := (mkF m 11 #[.val (.ref a1), .val (.ref a2), .unset] [(.int (1 : Int32))])) st1 ?_
  refine Go.step (T' := T1) (f' := (mkF m 14 #[.val (.ref a1), .val (.ref a2), .unset] [])) (fun _ k => XS.ifNo X1.here hx rfl (hb hby d11_11) rfl ((if0 _ _).trans (feq (by decide : ¬ ((1 : Int32) = (0 : Int32)))).1) k) ?_
  refine Go.step (T' := T1) (f' := (mkF m 15 #[.val (.ref a1), .val (.ref a2), .unset] [(.ref a2)])) (fun _ k => XS.aloadN X1.here hx rfl (hb hby d11_14) rfl rfl k) ?_
  obtain ⟨T2, X2, e2, st2⟩ := castY X1 hx hZ hown (hw _ (List.mem_of_getElem? (i := 74) rfl)) e1 (Ins.self E_a2) (g := (mkF m 15 #[.val (.ref a1), .val (.ref a2), .unset] [(.ref a2)])) rfl rfl (hb hby d11_15)
  refine Go.step (T' := T2) (f' := (mkF m 18 #[.val (.ref a1), .val (.ref a2), .unset] [(.ref a2)])) st2 ?_
  refine Go.step (T' := T2) (f' := (mkF m 19 #[.val (.ref a1), .val (.ref a2), .val (.ref a2)] [])) (fun _ k => XS.astoreN X2.here hx rfl (hb hby d11_18) rfl rfl (l' := #[.val (.ref a1), .val (.ref a2), .val (.ref a2)]) rfl k) ?_
  obtain ⟨T3, X3, e3, st3⟩ := getS2 X2 hx hZ hown (host := "") (Or.inl (hw _ (List.mem_of_getElem? (i := 18) rfl))) Via.refl e2 (S_COMPACT_STRINGS.ext O0.2) (g := (mkF m 19 #[.val (.ref a1), .val (.ref a2), .val (.ref a2)] [])) rfl (hb hby d11_19)
  refine Go.step (T' := T3) (f' := (mkF m 22 #[.val (.ref a1), .val (.ref a2), .val (.ref a2)] [(.int cs)])) st3 ?_
  refine Go.step (T' := T3) (f' := (mkF m 25 #[.val (.ref a1), .val (.ref a2), .val (.ref a2)] [])) (fun _ k => XS.ifNo X3.here hx rfl (hb hby d11_22) rfl ((if0 _ _).trans (feq hcs).1) k) ?_
  refine Go.step (T' := T3) (f' := (mkF m 26 #[.val (.ref a1), .val (.ref a2), .val (.ref a2)] [(.ref a1)])) (fun _ k => XS.aloadN X3.here hx rfl (hb hby d11_25) rfl rfl k) ?_
  obtain ⟨T4, X4, e4, st4⟩ := getF X3 hx hZ hown (host := "") (Or.inl (hw _ (List.mem_of_getElem? (i := 30) rfl))) Via.refl e3 F_coder_a1 (g := (mkF m 26 #[.val (.ref a1), .val (.ref a2), .val (.ref a2)] [(.ref a1)])) rfl rfl (hb hby d11_26)
  refine Go.step (T' := T4) (f' := (mkF m 29 #[.val (.ref a1), .val (.ref a2), .val (.ref a2)] [(.int (0 : Int32))])) st4 ?_
  refine Go.step (T' := T4) (f' := (mkF m 30 #[.val (.ref a1), .val (.ref a2), .val (.ref a2)] [(.ref a2), (.int (0 : Int32))])) (fun _ k => XS.aloadN X4.here hx rfl (hb hby d11_29) rfl rfl k) ?_
  obtain ⟨T5, X5, e5, st5⟩ := getF X4 hx hZ hown (host := "") (Or.inl (hw _ (List.mem_of_getElem? (i := 30) rfl))) Via.refl e4 F_coder_a2 (g := (mkF m 30 #[.val (.ref a1), .val (.ref a2), .val (.ref a2)] [(.ref a2), (.int (0 : Int32))])) rfl rfl (hb hby d11_30)
  refine Go.step (T' := T5) (f' := (mkF m 33 #[.val (.ref a1), .val (.ref a2), .val (.ref a2)] [(.int (0 : Int32)), (.int (0 : Int32))])) st5 ?_
  refine Go.step (T' := T5) (f' := (mkF m 36 #[.val (.ref a1), .val (.ref a2), .val (.ref a2)] [])) (fun _ k => XS.icmpNo X5.here hx rfl (hb hby d11_33) rfl (teq (by decide : (0 : Int32) = (0 : Int32))).2 k) ?_
  refine Go.step (T' := T5) (f' := (mkF m 37 #[.val (.ref a1), .val (.ref a2), .val (.ref a2)] [(.ref a1)])) (fun _ k => XS.aloadN X5.here hx rfl (hb hby d11_36) rfl rfl k) ?_
  obtain ⟨T6, X6, e6, st6⟩ := getF X5 hx hZ hown (host := "") (Or.inl (hw _ (List.mem_of_getElem? (i := 32) rfl))) Via.refl e5 F_value_a1 (g := (mkF m 37 #[.val (.ref a1), .val (.ref a2), .val (.ref a2)] [(.ref a1)])) rfl rfl (hb hby d11_37)
  refine Go.step (T' := T6) (f' := (mkF m 40 #[.val (.ref a1), .val (.ref a2), .val (.ref a2)] [(.ref v1)])) st6 ?_
  refine Go.step (T' := T6) (f' := (mkF m 41 #[.val (.ref a1), .val (.ref a2), .val (.ref a2)] [(.ref a2), (.ref v1)])) (fun _ k => XS.aloadN X6.here hx rfl (hb hby d11_40) rfl rfl k) ?_
  obtain ⟨T7, X7, e7, st7⟩ := getF X6 hx hZ hown (host := "") (Or.inl (hw _ (List.mem_of_getElem? (i := 32) rfl))) Via.refl e6 F_value_a2 (g := (mkF m 41 #[.val (.ref a1), .val (.ref a2), .val (.ref a2)] [(.ref a2), (.ref v1)])) rfl rfl (hb hby d11_41)
  refine Go.step (T' := T7) (f' := (mkF m 44 #[.val (.ref a1), .val (.ref a2), .val (.ref a2)] [(.ref v2), (.ref v1)])) st7 ?_
  obtain ⟨_, _, ⟨T8, L8, kk8, nn8⟩, -, X8, ⟨Lc8, hQ8, lq8, yq8, zq8⟩, st8⟩ := Jvm.LawKit.callS X7 hx (y := (⟨"java/lang/StringLatin1", "equals", "([B[B)Z"⟩ : MethodName)) hown (mvT hZ (hw _ (List.mem_of_getElem? (i := 75) rfl))) (mvT hZ (hw _ (List.mem_of_getElem? (i := 76) rfl))) (mvT hZ (hw _ (List.mem_of_getElem? (i := 77) rfl))) (mvT hZ (hw _ (List.mem_of_getElem? (i := 78) rfl))) (by decide) (backOf (W := 0) (rmLe11_11 l Z a0 hw [] v1 v2 k1 k2 x0 x1 x2 x3 x4 x5 x6 x7 x8 x9 x10 h0 n0 Z0 V_v1 V_v2) hZ (hw _ (List.mem_of_getElem? (i := 78) rfl)) (hw _ (List.mem_of_getElem? (i := 77) rfl)) (by decide) (by decide)) (g := (mkF m 44 #[.val (.ref a1), .val (.ref a2), .val (.ref a2)] [(.ref v2), (.ref v1)])) rfl (by rw [hml]; rfl) (argsL := [(.ref v1), (.ref v2)]) (rest := []) (lenOf pd_4 rfl) rfl (by show 2 * 0 + _ ≤ _; exact Nat.le_of_eq rfl) (hb hby d11_44) (fun _ _ => ⟨rfl, e7, (by decide : 0 + 0 ≤ _), (by decide : 0 + 0 ≤ _)⟩)
  dsimp only [Pt.U, Pt.locs, Pt.cells, Pt.slots] at X8 lq8 yq8 zq8 st8 hQ8
  subst yq8 zq8
  obtain ⟨rfl, Nq8, eh8⟩ := hQ8
  have N8 : Fr n0 L8 := by rw [lq8]; exact Fr.app N0 Nq8
  refine Go.step (T' := T8) (f' := (mkF m 47 #[.val (.ref a1), .val (.ref a2), .val (.ref a2)] [(.int (1 : Int32))])) st8 ?_
  refine Go.step (T' := T8) (f' := (mkF m 50 #[.val (.ref a1), .val (.ref a2), .val (.ref a2)] [])) (fun _ k => XS.ifNo X8.here hx rfl (hb hby d11_47) rfl ((if0 _ _).trans (feq (by decide : ¬ ((1 : Int32) = (0 : Int32)))).1) k) ?_
  refine Go.step (T' := T8) (f' := (mkF m 51 #[.val (.ref a1), .val (.ref a2), .val (.ref a2)] [(.int (1 : Int32))])) (fun _ k => XS.iconst X8.here hx rfl (hb hby d11_50) k) ?_
  refine Go.step (T' := T8) (f' := (mkF m 55 #[.val (.ref a1), .val (.ref a2), .val (.ref a2)] [(.int (1 : Int32))])) (fun _ k => XS.goto X8.here hx rfl (pc0 := 51) (pc' := 55) rfl (hb hby d11_51) (by decide) (by decide) k) ?_
  refine goN X8 hx (t := .boolean) Bd.returns (by simp) Bd.notSynchronized (hb hby d11_55) ?_ (by decide) (by decide)
  show Q_rmSe11_11 Z a1 a2 cs v1 v2 k1 k2 x0 x1 x2 x3 x4 x5 x6 x7 x8 x9 x10 h0 n0 _ T8.heap _
  rw [eh8]
  exact ⟨rfl, N8, rfl⟩
theorem d10_0 : decode prog_17_method_4_code 0 = .ok (.aload_n 0, 1) := by decide +kernel
theorem d10_1 : decode prog_17_method_4_code 1 = .ok (.getfield 32, 3) := by decide +kernel
theorem d10_4 : decode prog_17_method_4_code 4 = .ok (.areturn, 1) := by decide +kernel
theorem pn_10 : plainName "com/example/tenderbook/tenderbook/Role" = true := by first | (simp [plainName, overriddenIn]; done) | decide +kernel
theorem ef_rm10 (m : MethodId) (a1 : Addr) : entryFrame m #[(.ref a1)] 1 = mkF m 0 #[.val (.ref a1)] [] := by first | (simp [entryFrame, mkF, argsToLocals, Value.category]; done) | rfl
def Q_rm10 (Z : State) (a1 : Addr) (t : Addr) (h0 : Heap) (n0 : Nat) (rv : Option Value) (hq : Heap) (Lq : List Loc) : Prop := rv = some (.ref t) ∧ Fr n0 Lq ∧ hq = h0
set_option maxRecDepth 65536 in
set_option maxHeartbeats 40000000 in
theorem rm10 (l : Launch) (Z : State) (a0 : Array Value) (hw : ∀ d ∈ tables_1, d.before a0 Z = true) (ws : List Jvm.Cond) (a1 : Addr) (t : Addr) (h0 : Heap) (n0 : Nat) (Z0 : n0 ≤ h0.size) (F_code_a1 : Fld Z h0 a1 "com/example/tenderbook/tenderbook/Role" "code" "Ljava/lang/String;" (.ref t)) :
    MetFree l (⟨"com/example/tenderbook/tenderbook/Role", "code", "()Ljava/lang/String;"⟩ : MethodName) (head1 (Jvm.Cond.code (⟨"com/example/tenderbook/tenderbook/Role", "code", "()Ljava/lang/String;"⟩ : MethodName) prog_17_method_4_code 1 (some (.object "java/lang/String")) :: ws) ({ frames := 0, cells := 0, slots := 0, locals := 0 } : Room)) (fun a U => a = #[(.ref a1)] ∧ Z.Warmed39 U.vm ∧ U.heap = h0) (fun _ _ _ _ _ => True) (fun _ U o U' => ∃ rv Lq, o = .returned rv ∧ Q_rm10 Z a1 t h0 n0 rv U'.heap Lq ∧ FrameEnd U o U' Lq ({ frames := 0, cells := 0, slots := 0, locals := 0 } : Room).cells ({ frames := 0, cells := 0, slots := 0, locals := 0 } : Room).slots) := by
  refine MetFree.of_bodySF (plainFor_of_name pn_10) hisR ?_
  intro p e s m args below meth c s₁ Bd hml0 hP hK
  obtain ⟨rfl, hZ, hh⟩ := hP
  have hx := Bd.exec
  have hby := Bd.bytes
  have hml : c.maxLocals = 1 := hml0
  have hown : s.vm.findClass "com/example/tenderbook/tenderbook/Role" = some m.cls := findClass_of_methodNamed Bd.named
  have hnm := (name_of_methodNamed Bd.named Bd.method).1
  have X0 : Stand p l e ({ frames := 0, cells := 0, slots := 0, locals := 0 } : Room) s m #[(.ref a1)] below meth c s₁ [] 0 0 := Stand.of_body Bd
  have e0 : s₁.heap = h0 := by rw [← hh, Bd.state]; rfl
  have N0 := Fr.nil n0
  refine of_go (ef_rm10 m a1) ?_
  refine Go.step (T' := s₁) (f' := (mkF m 1 #[.val (.ref a1)] [(.ref a1)])) (fun _ k => XS.aloadN X0.here hx rfl (hb hby d10_0) rfl rfl k) ?_
  obtain ⟨T1, X1, e1, st1⟩ := getF X0 hx hZ hown (host := "") (Or.inl (hw _ (List.mem_of_getElem? (i := 67) rfl))) Via.refl e0 F_code_a1 (g := (mkF m 1 #[.val (.ref a1)] [(.ref a1)])) rfl rfl (hb hby d10_1)
  refine Go.step (T' := T1) (f' := (mkF m 4 #[.val (.ref a1)] [(.ref t)])) st1 ?_
  refine goA X1 hx Bd.returns rfl rfl Bd.notSynchronized (hb hby d10_4) ?_ (by decide) (by decide)
  show Q_rm10 Z a1 t h0 n0 _ T1.heap _
  rw [e1]
  exact ⟨rfl, N0, rfl⟩
theorem d14_0 : decode jdk_31_method_10_code 0 = .ok (.aload_n 0, 1) := by decide +kernel
theorem d14_1 : decode jdk_31_method_10_code 1 = .ok (.ifnonnull 11, 3) := by decide +kernel
theorem d14_12 : decode jdk_31_method_10_code 12 = .ok (.aload_n 0, 1) := by decide +kernel
theorem d14_13 : decode jdk_31_method_10_code 13 = .ok (.areturn, 1) := by decide +kernel
theorem pn_14 : plainName "java/util/Objects" = true := by first | (simp [plainName, overriddenIn]; done) | decide +kernel
theorem ef_rm14 (m : MethodId) (a1 : Addr) : entryFrame m #[(.ref a1)] 1 = mkF m 0 #[.val (.ref a1)] [] := by first | (simp [entryFrame, mkF, argsToLocals, Value.category]; done) | rfl
def Q_rm14 (Z : State) (a1 : Addr) (h0 : Heap) (n0 : Nat) (rv : Option Value) (hq : Heap) (Lq : List Loc) : Prop := rv = some (.ref a1) ∧ Fr n0 Lq ∧ hq = h0
set_option maxRecDepth 65536 in
set_option maxHeartbeats 40000000 in
theorem rm14 (l : Launch) (Z : State) (a0 : Array Value) (hw : ∀ d ∈ tables_1, d.before a0 Z = true) (ws : List Jvm.Cond) (a1 : Addr) (h0 : Heap) (n0 : Nat) (Z0 : n0 ≤ h0.size) :
    MetFree l (⟨"java/util/Objects", "requireNonNull", "(Ljava/lang/Object;)Ljava/lang/Object;"⟩ : MethodName) (head1 (Jvm.Cond.code (⟨"java/util/Objects", "requireNonNull", "(Ljava/lang/Object;)Ljava/lang/Object;"⟩ : MethodName) jdk_31_method_10_code 1 (some (.object "java/lang/Object")) :: ws) ({ frames := 0, cells := 0, slots := 0, locals := 0 } : Room)) (fun a U => a = #[(.ref a1)] ∧ Z.Warmed39 U.vm ∧ U.heap = h0) (fun _ _ _ _ _ => True) (fun _ U o U' => ∃ rv Lq, o = .returned rv ∧ Q_rm14 Z a1 h0 n0 rv U'.heap Lq ∧ FrameEnd U o U' Lq ({ frames := 0, cells := 0, slots := 0, locals := 0 } : Room).cells ({ frames := 0, cells := 0, slots := 0, locals := 0 } : Room).slots) := by
  refine MetFree.of_bodySF (plainFor_of_name pn_14) hisR ?_
  intro p e s m args below meth c s₁ Bd hml0 hP hK
  obtain ⟨rfl, hZ, hh⟩ := hP
  have hx := Bd.exec
  have hby := Bd.bytes
  have hml : c.maxLocals = 1 := hml0
  have hown : s.vm.findClass "java/util/Objects" = some m.cls := findClass_of_methodNamed Bd.named
  have hnm := (name_of_methodNamed Bd.named Bd.method).1
  have X0 : Stand p l e ({ frames := 0, cells := 0, slots := 0, locals := 0 } : Room) s m #[(.ref a1)] below meth c s₁ [] 0 0 := Stand.of_body Bd
  have e0 : s₁.heap = h0 := by rw [← hh, Bd.state]; rfl
  have N0 := Fr.nil n0
  refine of_go (ef_rm14 m a1) ?_
  refine Go.step (T' := s₁) (f' := (mkF m 1 #[.val (.ref a1)] [(.ref a1)])) (fun _ k => XS.aloadN X0.here hx rfl (hb hby d14_0) rfl rfl k) ?_
  refine Go.step (T' := s₁) (f' := (mkF m 12 #[.val (.ref a1)] [])) (fun _ k => XS.ifnonnullYes X0.here hx rfl (pc0 := 1) (pc' := 12) rfl (hb hby d14_1) rfl (by decide) (by decide) k) ?_
  refine Go.step (T' := s₁) (f' := (mkF m 13 #[.val (.ref a1)] [(.ref a1)])) (fun _ k => XS.aloadN X0.here hx rfl (hb hby d14_12) rfl rfl k) ?_
  refine goA X0 hx Bd.returns rfl rfl Bd.notSynchronized (hb hby d14_13) ?_ (by decide) (by decide)
  show Q_rm14 Z a1 h0 n0 _ s₁.heap _
  rw [e0]
  exact ⟨rfl, N0, rfl⟩
theorem d15_0 : decode jdk_32_method_2_code 0 = .ok (.aload_n 0, 1) := by decide +kernel
theorem d15_1 : decode jdk_32_method_2_code 1 = .ok (.invokespecial 7, 3) := by decide +kernel
theorem d15_4 : decode jdk_32_method_2_code 4 = .ok (.aload_n 0, 1) := by decide +kernel
theorem d15_5 : decode jdk_32_method_2_code 5 = .ok (.aload_n 1, 1) := by decide +kernel
theorem d15_6 : decode jdk_32_method_2_code 6 = .ok (.putfield 13, 3) := by decide +kernel
theorem d15_9 : decode jdk_32_method_2_code 9 = .ok (.return_, 1) := by decide +kernel
theorem pn_15 : plainName "java/util/Optional" = true := by first | (simp [plainName, overriddenIn]; done) | decide +kernel
theorem ef_rm15 (m : MethodId) (a1 : Addr) (a2 : Addr) : entryFrame m #[(.ref a1), (.ref a2)] 2 = mkF m 0 #[.val (.ref a1), .val (.ref a2)] [] := by first | (simp [entryFrame, mkF, argsToLocals, Value.category]; done) | rfl
def Q_rm15 (Z : State) (a1 : Addr) (a2 : Addr) (h0 : Heap) (n0 : Nat) (rv : Option Value) (hq : Heap) (Lq : List Loc) : Prop := rv = none ∧ Fr n0 Lq ∧ Keep h0 hq [a1] ∧ Fld Z hq a1 "java/util/Optional" "value" "Ljava/lang/Object;" (.ref a2)
set_option maxRecDepth 65536 in
set_option maxHeartbeats 40000000 in
theorem rm15 (l : Launch) (Z : State) (a0 : Array Value) (hw : ∀ d ∈ tables_1, d.before a0 Z = true) (ws : List Jvm.Cond) (a1 : Addr) (a2 : Addr) (h0 : Heap) (n0 : Nat) (Z0 : n0 ≤ h0.size) (E_a1 : Exa Z h0 a1 "java/util/Optional") (F_value_a1 : Fld Z h0 a1 "java/util/Optional" "value" "Ljava/lang/Object;" .null) (g_a1 : n0 ≤ a1) :
    MetFree l (⟨"java/util/Optional", "<init>", "(Ljava/lang/Object;)V"⟩ : MethodName) (head1 (Jvm.Cond.code (⟨"java/util/Optional", "<init>", "(Ljava/lang/Object;)V"⟩ : MethodName) jdk_32_method_2_code 2 none :: ws) ({ frames := 1, cells := 0, slots := 0, locals := 12 } : Room)) (fun a U => a = #[(.ref a1), (.ref a2)] ∧ Z.Warmed39 U.vm ∧ U.heap = h0) (fun _ _ _ _ _ => True) (fun _ U o U' => ∃ rv Lq, o = .returned rv ∧ Q_rm15 Z a1 a2 h0 n0 rv U'.heap Lq ∧ FrameEnd U o U' Lq ({ frames := 1, cells := 0, slots := 0, locals := 12 } : Room).cells ({ frames := 1, cells := 0, slots := 0, locals := 12 } : Room).slots) := by
  refine MetFree.of_bodySF (plainFor_of_name pn_15) hisR ?_
  intro p e s m args below meth c s₁ Bd hml0 hP hK
  obtain ⟨rfl, hZ, hh⟩ := hP
  have hx := Bd.exec
  have hby := Bd.bytes
  have hml : c.maxLocals = 2 := hml0
  have hown : s.vm.findClass "java/util/Optional" = some m.cls := findClass_of_methodNamed Bd.named
  have hnm := (name_of_methodNamed Bd.named Bd.method).1
  have X0 : Stand p l e ({ frames := 1, cells := 0, slots := 0, locals := 12 } : Room) s m #[(.ref a1), (.ref a2)] below meth c s₁ [] 0 0 := Stand.of_body Bd
  have e0 : s₁.heap = h0 := by rw [← hh, Bd.state]; rfl
  have N0 := Fr.nil n0
  refine of_go (ef_rm15 m a1 a2) ?_
  refine Go.step (T' := s₁) (f' := (mkF m 1 #[.val (.ref a1), .val (.ref a2)] [(.ref a1)])) (fun _ k => XS.aloadN X0.here hx rfl (hb hby d15_0) rfl rfl k) ?_
  obtain ⟨T1, X1, e1, st1⟩ := initO X0 hx hZ hown (hw _ (List.mem_of_getElem? (i := 93) rfl)) (hw _ (List.mem_of_getElem? (i := 16) rfl)) (hw _ (List.mem_of_getElem? (i := 17) rfl)) e0 (g := (mkF m 1 #[.val (.ref a1), .val (.ref a2)] [(.ref a1)])) rfl (by rw [hml]; rfl) rfl (hb hby d15_1) (by decide) (W := 0) (by show 2 * 0 + _ ≤ _; exact Nat.le_of_eq rfl) (by decide)
  refine Go.step (T' := T1) (f' := (mkF m 4 #[.val (.ref a1), .val (.ref a2)] [])) st1 ?_
  refine Go.step (T' := T1) (f' := (mkF m 5 #[.val (.ref a1), .val (.ref a2)] [(.ref a1)])) (fun _ k => XS.aloadN X1.here hx rfl (hb hby d15_4) rfl rfl k) ?_
  refine Go.step (T' := T1) (f' := (mkF m 6 #[.val (.ref a1), .val (.ref a2)] [(.ref a2), (.ref a1)])) (fun _ k => XS.aloadN X1.here hx rfl (hb hby d15_5) rfl rfl k) ?_
  obtain ⟨T2, h2, X2, e2, W2, st2⟩ := putF X1 hx hZ hown (host := "") (Or.inl (hw _ (List.mem_of_getElem? (i := 94) rfl))) Via.refl e1 F_value_a1 E_a1 (Or.inr ⟨(hw _ (List.mem_of_getElem? (i := 95) rfl)), rfl, hnm⟩) (hw _ (List.mem_of_getElem? (i := 84) rfl)) (ty := (.object "java/lang/Object")) (by decide) rfl rfl (g := (mkF m 6 #[.val (.ref a1), .val (.ref a2)] [(.ref a2), (.ref a1)])) rfl rfl (hb hby d15_6)
  have N2 := Fr.snoc X2 N0 g_a1
  have Z3 : n0 ≤ h2.size := Nat.le_trans Z0 (Keep.of_wr W2).1
  have K3 : Keep h0 h2 [a1] := (Keep.refl h0 [a1]).wr W2 (Or.inl (List.mem_of_getElem? (i := 0) rfl))
  have Fw2 := F_value_a1.same W2
  refine Go.step (T' := T2) (f' := (mkF m 9 #[.val (.ref a1), .val (.ref a2)] [])) st2 ?_
  refine goV X2 hx Bd.returns Bd.notSynchronized (hb hby d15_9) ?_ (by decide) (by decide)
  show Q_rm15 Z a1 a2 h0 n0 _ T2.heap _
  rw [e2]
  exact ⟨rfl, N2, K3, Fw2⟩
theorem d13_0 : decode jdk_32_method_3_code 0 = .ok (.new 2, 3) := by decide +kernel
theorem d13_3 : decode jdk_32_method_3_code 3 = .ok (.dup, 1) := by decide +kernel
theorem d13_4 : decode jdk_32_method_3_code 4 = .ok (.aload_n 0, 1) := by decide +kernel
theorem d13_5 : decode jdk_32_method_3_code 5 = .ok (.invokestatic 17, 3) := by decide +kernel
theorem pd_5 : parseMethodDescriptor "(Ljava/lang/Object;)Ljava/lang/Object;" = some ⟨[(.object "java/lang/Object")], some (.object "java/lang/Object")⟩ := by decide +kernel
theorem d13_8 : decode jdk_32_method_3_code 8 = .ok (.invokespecial 23, 3) := by decide +kernel
theorem pd_6 : parseMethodDescriptor "(Ljava/lang/Object;)V" = some ⟨[(.object "java/lang/Object")], none⟩ := by decide +kernel
theorem d13_11 : decode jdk_32_method_3_code 11 = .ok (.areturn, 1) := by decide +kernel
theorem ef_rm13 (m : MethodId) (a1 : Addr) : entryFrame m #[(.ref a1)] 1 = mkF m 0 #[.val (.ref a1)] [] := by first | (simp [entryFrame, mkF, argsToLocals, Value.category]; done) | rfl
def Q_rm13 (Z : State) (a1 : Addr) (h0 : Heap) (n0 : Nat) (rv : Option Value) (hq : Heap) (Lq : List Loc) : Prop := ∃ q : Addr, rv = some (.ref q) ∧ Fr n0 Lq ∧ Keep h0 hq [] ∧ h0.size ≤ q ∧ Exa Z hq q "java/util/Optional" ∧ Fld Z hq q "java/util/Optional" "value" "Ljava/lang/Object;" (.ref a1)
set_option maxRecDepth 65536 in
set_option maxHeartbeats 40000000 in
theorem rm13 (l : Launch) (Z : State) (a0 : Array Value) (hw : ∀ d ∈ tables_1, d.before a0 Z = true) (ws : List Jvm.Cond) (a1 : Addr) (h0 : Heap) (n0 : Nat) (Z0 : n0 ≤ h0.size) :
    MetFree l (⟨"java/util/Optional", "of", "(Ljava/lang/Object;)Ljava/util/Optional;"⟩ : MethodName) (head1 (Jvm.Cond.code (⟨"java/util/Optional", "of", "(Ljava/lang/Object;)Ljava/util/Optional;"⟩ : MethodName) jdk_32_method_3_code 1 (some (.object "java/util/Optional")) :: ws) ({ frames := 2, cells := 1, slots := 1, locals := 26 } : Room)) (fun a U => a = #[(.ref a1)] ∧ Z.Warmed39 U.vm ∧ U.heap = h0) (fun _ _ _ _ _ => True) (fun _ U o U' => ∃ rv Lq, o = .returned rv ∧ Q_rm13 Z a1 h0 n0 rv U'.heap Lq ∧ FrameEnd U o U' Lq ({ frames := 2, cells := 1, slots := 1, locals := 26 } : Room).cells ({ frames := 2, cells := 1, slots := 1, locals := 26 } : Room).slots) := by
  refine MetFree.of_bodySF (plainFor_of_name pn_15) hisR ?_
  intro p e s m args below meth c s₁ Bd hml0 hP hK
  obtain ⟨rfl, hZ, hh⟩ := hP
  have hx := Bd.exec
  have hby := Bd.bytes
  have hml : c.maxLocals = 1 := hml0
  have hown : s.vm.findClass "java/util/Optional" = some m.cls := findClass_of_methodNamed Bd.named
  have hnm := (name_of_methodNamed Bd.named Bd.method).1
  have X0 : Stand p l e ({ frames := 2, cells := 1, slots := 1, locals := 26 } : Room) s m #[(.ref a1)] below meth c s₁ [] 0 0 := Stand.of_body Bd
  have e0 : s₁.heap = h0 := by rw [← hh, Bd.state]; rfl
  have N0 := Fr.nil n0
  refine of_go (ef_rm13 m a1) ?_
  obtain ⟨T1, h1, X1, e1, E1, A1, D1, -, st1⟩ := newO X0 hx hZ hown (hw _ (List.mem_of_getElem? (i := 83) rfl)) (hw _ (List.mem_of_getElem? (i := 84) rfl)) (hw _ (List.mem_of_getElem? (i := 81) rfl)) e0 (g := (mkF m 0 #[.val (.ref a1)] [])) rfl (hb hby d13_0) (by decide) (by decide)
  obtain ⟨b1, g1⟩ : ∃ z, z = h0.size := ⟨_, rfl⟩
  rw [← g1] at A1 D1 st1
  have g_b1 : n0 ≤ b1 := Nat.le_trans Z0 (Nat.le_of_eq g1.symm)
  have sz_b1 : h0.size ≤ b1 := Nat.le_trans (Keep.refl h0 []).1 (Nat.le_of_eq g1.symm)
  have Z2 : n0 ≤ h1.size := Nat.le_trans Z0 E1.1
  have K2 : Keep h0 h1 [] := (Keep.refl h0 []).ext E1
  have F_value_b1 : Fld Z h1 b1 "java/util/Optional" "value" "Ljava/lang/Object;" .null := D1 (Or.inr (hw _ (List.mem_of_getElem? (i := 95) rfl))) (ty := (.object "java/lang/Object")) (by decide)
  refine Go.step (T' := T1) (f' := (mkF m 3 #[.val (.ref a1)] [(.ref b1)])) st1 ?_
  refine Go.step (T' := T1) (f' := (mkF m 4 #[.val (.ref a1)] [(.ref b1), (.ref b1)])) (fun _ k => XS.dup X1.here hx rfl (hb hby d13_3) rfl rfl k) ?_
  refine Go.step (T' := T1) (f' := (mkF m 5 #[.val (.ref a1)] [(.ref a1), (.ref b1), (.ref b1)])) (fun _ k => XS.aloadN X1.here hx rfl (hb hby d13_4) rfl rfl k) ?_
  obtain ⟨_, _, ⟨T3, L3, kk3, nn3⟩, -, X3, ⟨Lc3, hQ3, lq3, yq3, zq3⟩, st3⟩ := Jvm.LawKit.callS X1 hx (y := (⟨"java/util/Objects", "requireNonNull", "(Ljava/lang/Object;)Ljava/lang/Object;"⟩ : MethodName)) hown (mvT hZ (hw _ (List.mem_of_getElem? (i := 85) rfl))) (mvT hZ (hw _ (List.mem_of_getElem? (i := 86) rfl))) (mvT hZ (hw _ (List.mem_of_getElem? (i := 87) rfl))) (mvT hZ (hw _ (List.mem_of_getElem? (i := 88) rfl))) (by decide) (backOf (W := 2) (rm14 l Z a0 hw [] a1 h1 n0 Z2 ) hZ (hw _ (List.mem_of_getElem? (i := 88) rfl)) (hw _ (List.mem_of_getElem? (i := 87) rfl)) (by decide) (by decide)) (g := (mkF m 5 #[.val (.ref a1)] [(.ref a1), (.ref b1), (.ref b1)])) rfl (by rw [hml]; rfl) (argsL := [(.ref a1)]) (rest := [(.ref b1), (.ref b1)]) (lenOf pd_5 rfl) rfl (by show 2 * 0 + _ ≤ _; exact Nat.le_of_eq rfl) (hb hby d13_5) (fun _ _ => ⟨rfl, e1, (by decide : 1 + 0 ≤ _), (by decide : 1 + 0 ≤ _)⟩)
  dsimp only [Pt.U, Pt.locs, Pt.cells, Pt.slots] at X3 lq3 yq3 zq3 st3 hQ3
  subst yq3 zq3
  obtain ⟨rfl, Nq3, eh3⟩ := hQ3
  have N3 : Fr n0 L3 := by rw [lq3]; exact Fr.app N0 Nq3
  refine Go.step (T' := T3) (f' := (mkF m 8 #[.val (.ref a1)] [(.ref a1), (.ref b1), (.ref b1)])) st3 ?_
  obtain ⟨_, _, ⟨T4, L4, kk4, nn4⟩, -, X4, ⟨Lc4, hQ4, lq4, yq4, zq4⟩, st4⟩ := X3.specialBack hx (y := (⟨"java/util/Optional", "<init>", "(Ljava/lang/Object;)V"⟩ : MethodName)) rfl hown (mvT hZ (hw _ (List.mem_of_getElem? (i := 89) rfl))) (mvT hZ (hw _ (List.mem_of_getElem? (i := 90) rfl))) (mvT hZ (hw _ (List.mem_of_getElem? (i := 92) rfl))) (by decide) (backOf (W := 1) (rm15 l Z a0 hw [] b1 a1 h1 n0 Z2 A1 F_value_b1 g_b1) hZ (hw _ (List.mem_of_getElem? (i := 92) rfl)) (hw _ (List.mem_of_getElem? (i := 81) rfl)) (by decide) (by decide)) (g := (mkF m 8 #[.val (.ref a1)] [(.ref a1), (.ref b1), (.ref b1)])) rfl (by rw [hml]; rfl) (Steps.refl _) (a := b1) (argsL := [(.ref a1)]) (rest := [(.ref b1)]) (lenOf pd_6 rfl) rfl (by show 2 * 0 + _ ≤ _; exact Nat.le_of_eq rfl) (hb hby d13_8) (fun _ _ => ⟨rfl, eh3, (by decide : 1 + 0 ≤ _), (by decide : 1 + 0 ≤ _)⟩)
  dsimp only [Pt.U, Pt.locs, Pt.cells, Pt.slots] at X4 lq4 yq4 zq4 st4 hQ4
  subst yq4 zq4
  obtain ⟨rfl, Nq4, Kq4, r4_0⟩ := hQ4
  have N4 : Fr n0 L4 := by rw [lq4]; exact Fr.app N3 Nq4
  have Z5 : n0 ≤ T4.heap.size := Nat.le_trans Z2 Kq4.1
  have K5 : Keep h0 T4.heap [] := K2.trans Kq4 (allS (Or.inr sz_b1) all0)
  refine Go.step (T' := T4) (f' := (mkF m 11 #[.val (.ref a1)] [(.ref b1)])) (fun _ k => st4.trans k) ?_
  refine goA X4 hx Bd.returns rfl rfl Bd.notSynchronized (hb hby d13_11) ?_ (by decide) (by decide)
  show Q_rm13 Z a1 h0 n0 _ T4.heap _
  have q6 : Exa Z T4.heap b1 "java/util/Optional" := (A1.keep Kq4)
  exact ⟨b1, rfl, N4, K5, sz_b1, q6, r4_0⟩
theorem d16_0 : decode jdk_32_method_7_code 0 = .ok (.aload_n 0, 1) := by decide +kernel
theorem d16_1 : decode jdk_32_method_7_code 1 = .ok (.getfield 13, 3) := by decide +kernel
theorem d16_4 : decode jdk_32_method_7_code 4 = .ok (.ifnonnull 7, 3) := by decide +kernel
theorem d16_11 : decode jdk_32_method_7_code 11 = .ok (.iconst 0, 1) := by decide +kernel
theorem d16_12 : decode jdk_32_method_7_code 12 = .ok (.ireturn, 1) := by decide +kernel
theorem ef_rm16 (m : MethodId) (a1 : Addr) : entryFrame m #[(.ref a1)] 1 = mkF m 0 #[.val (.ref a1)] [] := by first | (simp [entryFrame, mkF, argsToLocals, Value.category]; done) | rfl
def Q_rm16 (Z : State) (a1 : Addr) (w : Addr) (h0 : Heap) (n0 : Nat) (rv : Option Value) (hq : Heap) (Lq : List Loc) : Prop := rv = some (.int (0 : Int32)) ∧ Fr n0 Lq ∧ hq = h0
set_option maxRecDepth 65536 in
set_option maxHeartbeats 40000000 in
theorem rm16 (l : Launch) (Z : State) (a0 : Array Value) (hw : ∀ d ∈ tables_1, d.before a0 Z = true) (ws : List Jvm.Cond) (a1 : Addr) (w : Addr) (h0 : Heap) (n0 : Nat) (Z0 : n0 ≤ h0.size) (F_value_a1 : Fld Z h0 a1 "java/util/Optional" "value" "Ljava/lang/Object;" (.ref w)) :
    MetFree l (⟨"java/util/Optional", "isEmpty", "()Z"⟩ : MethodName) (head1 (Jvm.Cond.code (⟨"java/util/Optional", "isEmpty", "()Z"⟩ : MethodName) jdk_32_method_7_code 1 (some .boolean) :: ws) ({ frames := 0, cells := 0, slots := 0, locals := 0 } : Room)) (fun a U => a = #[(.ref a1)] ∧ Z.Warmed39 U.vm ∧ U.heap = h0) (fun _ _ _ _ _ => True) (fun _ U o U' => ∃ rv Lq, o = .returned rv ∧ Q_rm16 Z a1 w h0 n0 rv U'.heap Lq ∧ FrameEnd U o U' Lq ({ frames := 0, cells := 0, slots := 0, locals := 0 } : Room).cells ({ frames := 0, cells := 0, slots := 0, locals := 0 } : Room).slots) := by
  refine MetFree.of_bodySF (plainFor_of_name pn_15) hisR ?_
  intro p e s m args below meth c s₁ Bd hml0 hP hK
  obtain ⟨rfl, hZ, hh⟩ := hP
  have hx := Bd.exec
  have hby := Bd.bytes
  have hml : c.maxLocals = 1 := hml0
  have hown : s.vm.findClass "java/util/Optional" = some m.cls := findClass_of_methodNamed Bd.named
  have hnm := (name_of_methodNamed Bd.named Bd.method).1
  have X0 : Stand p l e ({ frames := 0, cells := 0, slots := 0, locals := 0 } : Room) s m #[(.ref a1)] below meth c s₁ [] 0 0 := Stand.of_body Bd
  have e0 : s₁.heap = h0 := by rw [← hh, Bd.state]; rfl
  have N0 := Fr.nil n0
  refine of_go (ef_rm16 m a1) ?_
  refine Go.step (T' := s₁) (f' := (mkF m 1 #[.val (.ref a1)] [(.ref a1)])) (fun _ k => XS.aloadN X0.here hx rfl (hb hby d16_0) rfl rfl k) ?_
  obtain ⟨T1, X1, e1, st1⟩ := getF X0 hx hZ hown (host := "") (Or.inl (hw _ (List.mem_of_getElem? (i := 94) rfl))) Via.refl e0 F_value_a1 (g := (mkF m 1 #[.val (.ref a1)] [(.ref a1)])) rfl rfl (hb hby d16_1)
  refine Go.step (T' := T1) (f' := (mkF m 4 #[.val (.ref a1)] [(.ref w)])) st1 ?_
  refine Go.step (T' := T1) (f' := (mkF m 11 #[.val (.ref a1)] [])) (fun _ k => XS.ifnonnullYes X1.here hx rfl (pc0 := 4) (pc' := 11) rfl (hb hby d16_4) rfl (by decide) (by decide) k) ?_
  refine Go.step (T' := T1) (f' := (mkF m 12 #[.val (.ref a1)] [(.int (0 : Int32))])) (fun _ k => XS.iconst X1.here hx rfl (hb hby d16_11) k) ?_
  refine goN X1 hx (t := .boolean) Bd.returns (by simp) Bd.notSynchronized (hb hby d16_12) ?_ (by decide) (by decide)
  show Q_rm16 Z a1 w h0 n0 _ T1.heap _
  rw [e1]
  exact ⟨rfl, N0, rfl⟩
theorem d17_0 : decode jdk_32_method_5_code 0 = .ok (.aload_n 0, 1) := by decide +kernel
theorem d17_1 : decode jdk_32_method_5_code 1 = .ok (.getfield 13, 3) := by decide +kernel
theorem d17_4 : decode jdk_32_method_5_code 4 = .ok (.ifnonnull 13, 3) := by decide +kernel
theorem d17_17 : decode jdk_32_method_5_code 17 = .ok (.aload_n 0, 1) := by decide +kernel
theorem d17_18 : decode jdk_32_method_5_code 18 = .ok (.getfield 13, 3) := by decide +kernel
theorem d17_21 : decode jdk_32_method_5_code 21 = .ok (.areturn, 1) := by decide +kernel
theorem ef_rm17 (m : MethodId) (a1 : Addr) : entryFrame m #[(.ref a1)] 1 = mkF m 0 #[.val (.ref a1)] [] := by first | (simp [entryFrame, mkF, argsToLocals, Value.category]; done) | rfl
def Q_rm17 (Z : State) (a1 : Addr) (w : Addr) (h0 : Heap) (n0 : Nat) (rv : Option Value) (hq : Heap) (Lq : List Loc) : Prop := rv = some (.ref w) ∧ Fr n0 Lq ∧ hq = h0
set_option maxRecDepth 65536 in
set_option maxHeartbeats 40000000 in
theorem rm17 (l : Launch) (Z : State) (a0 : Array Value) (hw : ∀ d ∈ tables_1, d.before a0 Z = true) (ws : List Jvm.Cond) (a1 : Addr) (w : Addr) (h0 : Heap) (n0 : Nat) (Z0 : n0 ≤ h0.size) (F_value_a1 : Fld Z h0 a1 "java/util/Optional" "value" "Ljava/lang/Object;" (.ref w)) :
    MetFree l (⟨"java/util/Optional", "get", "()Ljava/lang/Object;"⟩ : MethodName) (head1 (Jvm.Cond.code (⟨"java/util/Optional", "get", "()Ljava/lang/Object;"⟩ : MethodName) jdk_32_method_5_code 1 (some (.object "java/lang/Object")) :: ws) ({ frames := 0, cells := 0, slots := 0, locals := 0 } : Room)) (fun a U => a = #[(.ref a1)] ∧ Z.Warmed39 U.vm ∧ U.heap = h0) (fun _ _ _ _ _ => True) (fun _ U o U' => ∃ rv Lq, o = .returned rv ∧ Q_rm17 Z a1 w h0 n0 rv U'.heap Lq ∧ FrameEnd U o U' Lq ({ frames := 0, cells := 0, slots := 0, locals := 0 } : Room).cells ({ frames := 0, cells := 0, slots := 0, locals := 0 } : Room).slots) := by
  refine MetFree.of_bodySF (plainFor_of_name pn_15) hisR ?_
  intro p e s m args below meth c s₁ Bd hml0 hP hK
  obtain ⟨rfl, hZ, hh⟩ := hP
  have hx := Bd.exec
  have hby := Bd.bytes
  have hml : c.maxLocals = 1 := hml0
  have hown : s.vm.findClass "java/util/Optional" = some m.cls := findClass_of_methodNamed Bd.named
  have hnm := (name_of_methodNamed Bd.named Bd.method).1
  have X0 : Stand p l e ({ frames := 0, cells := 0, slots := 0, locals := 0 } : Room) s m #[(.ref a1)] below meth c s₁ [] 0 0 := Stand.of_body Bd
  have e0 : s₁.heap = h0 := by rw [← hh, Bd.state]; rfl
  have N0 := Fr.nil n0
  refine of_go (ef_rm17 m a1) ?_
  refine Go.step (T' := s₁) (f' := (mkF m 1 #[.val (.ref a1)] [(.ref a1)])) (fun _ k => XS.aloadN X0.here hx rfl (hb hby d17_0) rfl rfl k) ?_
  obtain ⟨T1, X1, e1, st1⟩ := getF X0 hx hZ hown (host := "") (Or.inl (hw _ (List.mem_of_getElem? (i := 94) rfl))) Via.refl e0 F_value_a1 (g := (mkF m 1 #[.val (.ref a1)] [(.ref a1)])) rfl rfl (hb hby d17_1)
  refine Go.step (T' := T1) (f' := (mkF m 4 #[.val (.ref a1)] [(.ref w)])) st1 ?_
  refine Go.step (T' := T1) (f' := (mkF m 17 #[.val (.ref a1)] [])) (fun _ k => XS.ifnonnullYes X1.here hx rfl (pc0 := 4) (pc' := 17) rfl (hb hby d17_4) rfl (by decide) (by decide) k) ?_
  refine Go.step (T' := T1) (f' := (mkF m 18 #[.val (.ref a1)] [(.ref a1)])) (fun _ k => XS.aloadN X1.here hx rfl (hb hby d17_17) rfl rfl k) ?_
  obtain ⟨T2, X2, e2, st2⟩ := getF X1 hx hZ hown (host := "") (Or.inl (hw _ (List.mem_of_getElem? (i := 94) rfl))) Via.refl e1 F_value_a1 (g := (mkF m 18 #[.val (.ref a1)] [(.ref a1)])) rfl rfl (hb hby d17_18)
  refine Go.step (T' := T2) (f' := (mkF m 21 #[.val (.ref a1)] [(.ref w)])) st2 ?_
  refine goA X2 hx Bd.returns rfl rfl Bd.notSynchronized (hb hby d17_21) ?_ (by decide) (by decide)
  show Q_rm17 Z a1 w h0 n0 _ T2.heap _
  rw [e2]
  exact ⟨rfl, N0, rfl⟩
theorem d8_0 : decode prog_17_method_1_code 0 = .ok (.getstatic 13, 3) := by decide +kernel
theorem d8_3 : decode prog_17_method_1_code 3 = .ok (.invokevirtual 17, 3) := by decide +kernel
theorem d8_6 : decode prog_17_method_1_code 6 = .ok (.checkcast 18, 3) := by decide +kernel
theorem d8_9 : decode prog_17_method_1_code 9 = .ok (.areturn, 1) := by decide +kernel
theorem ef_rm8 (m : MethodId)  : entryFrame m #[] 0 = mkF m 0 #[] [] := by first | (simp [entryFrame, mkF, argsToLocals, Value.category]; done) | rfl
def Q_rm8 (Z : State) (sv : Addr) (kv : ClassId) (s0 : Addr) (s1 : Addr) (s2 : Addr) (h0 : Heap) (n0 : Nat) (rv : Option Value) (hq : Heap) (Lq : List Loc) : Prop := ∃ b : Addr, rv = some (.ref b) ∧ Fr n0 Lq ∧ Keep h0 hq [] ∧ h0.size ≤ b ∧ Arv Z hq b kv (.object "com/example/tenderbook/tenderbook/Role") (3 : Int32) [(.ref s0), (.ref s1), (.ref s2)] .null
set_option maxRecDepth 65536 in
set_option maxHeartbeats 40000000 in
theorem rm8 (l : Launch) (Z : State) (a0 : Array Value) (hw : ∀ d ∈ tables_1, d.before a0 Z = true) (ws : List Jvm.Cond) (sv : Addr) (kv : ClassId) (s0 : Addr) (s1 : Addr) (s2 : Addr) (h0 : Heap) (n0 : Nat) (Z0 : n0 ≤ h0.size) (E_sv : Exa Z h0 sv "[Lcom/example/tenderbook/tenderbook/Role;") (V_sv : Arv Z h0 sv kv (.object "com/example/tenderbook/tenderbook/Role") (3 : Int32) [(.ref s0), (.ref s1), (.ref s2)] .null) (O0 : Old Z n0 h0) (S__VALUES : Sta Z Z.heap "com/example/tenderbook/tenderbook/Role" "$VALUES" "[Lcom/example/tenderbook/tenderbook/Role;" (.ref sv)) :
    MetFree l (⟨"com/example/tenderbook/tenderbook/Role", "values", "()[Lcom/example/tenderbook/tenderbook/Role;"⟩ : MethodName) (head1 (Jvm.Cond.code (⟨"com/example/tenderbook/tenderbook/Role", "values", "()[Lcom/example/tenderbook/tenderbook/Role;"⟩ : MethodName) prog_17_method_1_code 0 (some (.array (.object "com/example/tenderbook/tenderbook/Role"))) :: ws) ({ frames := 1, cells := 1, slots := 3, locals := 14 } : Room)) (fun a U => a = #[] ∧ Z.Warmed39 U.vm ∧ U.heap = h0) (fun _ _ _ _ _ => True) (fun _ U o U' => ∃ rv Lq, o = .returned rv ∧ Q_rm8 Z sv kv s0 s1 s2 h0 n0 rv U'.heap Lq ∧ FrameEnd U o U' Lq ({ frames := 1, cells := 1, slots := 3, locals := 14 } : Room).cells ({ frames := 1, cells := 1, slots := 3, locals := 14 } : Room).slots) := by
  refine MetFree.of_bodySF (plainFor_of_name pn_10) hisR ?_
  intro p e s m args below meth c s₁ Bd hml0 hP hK
  obtain ⟨rfl, hZ, hh⟩ := hP
  have hx := Bd.exec
  have hby := Bd.bytes
  have hml : c.maxLocals = 0 := hml0
  have hown : s.vm.findClass "com/example/tenderbook/tenderbook/Role" = some m.cls := findClass_of_methodNamed Bd.named
  have hnm := (name_of_methodNamed Bd.named Bd.method).1
  have X0 : Stand p l e ({ frames := 1, cells := 1, slots := 3, locals := 14 } : Room) s m #[] below meth c s₁ [] 0 0 := Stand.of_body Bd
  have e0 : s₁.heap = h0 := by rw [← hh, Bd.state]; rfl
  have N0 := Fr.nil n0
  refine of_go (ef_rm8 m ) ?_
  obtain ⟨T1, X1, e1, st1⟩ := getS2 X0 hx hZ hown (host := "") (Or.inl (hw _ (List.mem_of_getElem? (i := 40) rfl))) Via.refl e0 (S__VALUES.ext O0.2) (g := (mkF m 0 #[] [])) rfl (hb hby d8_0)
  refine Go.step (T' := T1) (f' := (mkF m 3 #[] [(.ref sv)])) st1 ?_
  obtain ⟨T2, h2, X2, e2, E2, A2, B2, st2⟩ := cloneH X1 hx hZ hown (hw _ (List.mem_of_getElem? (i := 42) rfl)) (hw _ (List.mem_of_getElem? (i := 43) rfl)) (hw _ (List.mem_of_getElem? (i := 47) rfl)) (hw _ (List.mem_of_getElem? (i := 45) rfl)) (hw _ (List.mem_of_getElem? (i := 46) rfl)) (hw _ (List.mem_of_getElem? (i := 48) rfl)) e1 (Arv.arh V_sv) E_sv (g := (mkF m 3 #[] [(.ref sv)])) rfl (by rw [hml]; rfl) rfl (hb hby d8_3) (by decide) (W := 0) (cap := 3) (by show 2 * 0 + _ ≤ _; exact Nat.le_of_eq rfl) (by decide) (by decide) (by decide) (by decide)
  obtain ⟨b2, g2⟩ : ∃ z, z = h0.size := ⟨_, rfl⟩
  rw [← g2] at A2 B2 st2
  have g_b2 : n0 ≤ b2 := Nat.le_trans Z0 (Nat.le_of_eq g2.symm)
  have sz_b2 : h0.size ≤ b2 := Nat.le_trans (Keep.refl h0 []).1 (Nat.le_of_eq g2.symm)
  have Z3 : n0 ≤ h2.size := Nat.le_trans Z0 E2.1
  have O3 : Old Z n0 h2 := O0.ext E2
  have K3 : Keep h0 h2 [] := (Keep.refl h0 []).ext E2
  have V_b2 : Arv Z h2 b2 kv (.object "com/example/tenderbook/tenderbook/Role") (3 : Int32) [(.ref s0), (.ref s1), (.ref s2)] .null := A2
  refine Go.step (T' := T2) (f' := (mkF m 6 #[] [(.ref b2)])) st2 ?_
  obtain ⟨T4, X4, e4, st4⟩ := castY X2 hx hZ hown (hw _ (List.mem_of_getElem? (i := 52) rfl)) e2 (Ins.self B2) (g := (mkF m 6 #[] [(.ref b2)])) rfl rfl (hb hby d8_6)
  refine Go.step (T' := T4) (f' := (mkF m 9 #[] [(.ref b2)])) st4 ?_
  refine goA X4 hx Bd.returns rfl rfl Bd.notSynchronized (hb hby d8_9) ?_ (by decide) (by decide)
  show Q_rm8 Z sv kv s0 s1 s2 h0 n0 _ T4.heap _
  rw [e4]
  exact ⟨b2, rfl, N0, K3, sz_b2, V_b2⟩
theorem d9_0 : decode prog_4_method_2_code 0 = .ok (.aload_n 0, 1) := by decide +kernel
theorem d9_1 : decode prog_4_method_2_code 1 = .ok (.astore_n 2, 1) := by decide +kernel
theorem d9_2 : decode prog_4_method_2_code 2 = .ok (.aload_n 2, 1) := by decide +kernel
theorem d9_3 : decode prog_4_method_2_code 3 = .ok (.arraylength, 1) := by decide +kernel
theorem d9_4 : decode prog_4_method_2_code 4 = .ok (.istore_n 3, 1) := by decide +kernel
theorem d9_5 : decode prog_4_method_2_code 5 = .ok (.iconst 0, 1) := by decide +kernel
theorem d9_6 : decode prog_4_method_2_code 6 = .ok (.istore 4, 2) := by decide +kernel
theorem d9_8 : decode prog_4_method_2_code 8 = .ok (.iload 4, 2) := by decide +kernel
theorem d9_10 : decode prog_4_method_2_code 10 = .ok (.iload_n 3, 1) := by decide +kernel
theorem d9_11 : decode prog_4_method_2_code 11 = .ok (.if_icmp .ge 35, 3) := by decide +kernel
theorem d9_14 : decode prog_4_method_2_code 14 = .ok (.aload_n 2, 1) := by decide +kernel
theorem d9_15 : decode prog_4_method_2_code 15 = .ok (.iload 4, 2) := by decide +kernel
theorem d9_17 : decode prog_4_method_2_code 17 = .ok (.aaload, 1) := by decide +kernel
theorem d9_18 : decode prog_4_method_2_code 18 = .ok (.astore 5, 2) := by decide +kernel
theorem d9_20 : decode prog_4_method_2_code 20 = .ok (.aload 5, 2) := by decide +kernel
theorem d9_22 : decode prog_4_method_2_code 22 = .ok (.invokeinterface 1 1, 5) := by decide +kernel
theorem pd_7 : parseMethodDescriptor "()Ljava/lang/String;" = some ⟨[], some (.object "java/lang/String")⟩ := by decide +kernel
theorem d9_27 : decode prog_4_method_2_code 27 = .ok (.aload_n 1, 1) := by decide +kernel
theorem d9_28 : decode prog_4_method_2_code 28 = .ok (.invokevirtual 7, 3) := by decide +kernel
theorem pd_8 : parseMethodDescriptor "(Ljava/lang/Object;)Z" = some ⟨[(.object "java/lang/Object")], some .boolean⟩ := by decide +kernel
theorem d9_31 : decode prog_4_method_2_code 31 = .ok (.ifCond .eq 9, 3) := by decide +kernel
theorem d9_34 : decode prog_4_method_2_code 34 = .ok (.aload 5, 2) := by decide +kernel
theorem d9_36 : decode prog_4_method_2_code 36 = .ok (.invokestatic 13, 3) := by decide +kernel
theorem pd_9 : parseMethodDescriptor "(Ljava/lang/Object;)Ljava/util/Optional;" = some ⟨[(.object "java/lang/Object")], some (.object "java/util/Optional")⟩ := by decide +kernel
theorem d9_39 : decode prog_4_method_2_code 39 = .ok (.areturn, 1) := by decide +kernel
theorem pn_9 : plainName "com/example/tenderbook/tenderbook/Coded" = true := by first | (simp [plainName, overriddenIn]; done) | decide +kernel
theorem ef_rmFd0 (m : MethodId) (a1 : Addr) (a2 : Addr) : entryFrame m #[(.ref a1), (.ref a2)] 6 = mkF m 0 #[.val (.ref a1), .val (.ref a2), .unset, .unset, .unset, .unset] [] := by first | (simp [entryFrame, mkF, argsToLocals, Value.category]; done) | rfl
def Q_rmFd0 (Z : State) (a1 : Addr) (a2 : Addr) (cs : Int32) (kv : ClassId) (s0 : Addr) (s1 : Addr) (s2 : Addr) (t0 : Addr) (v0 : Addr) (kv0 : ClassId) (va : Addr) (ka : ClassId) (h0 : Heap) (n0 : Nat) (rv : Option Value) (hq : Heap) (Lq : List Loc) : Prop := ∃ q : Addr, rv = some (.ref q) ∧ Fr n0 Lq ∧ Keep h0 hq [] ∧ h0.size ≤ q ∧ Exa Z hq q "java/util/Optional" ∧ Fld Z hq q "java/util/Optional" "value" "Ljava/lang/Object;" (.ref s0)
set_option maxRecDepth 65536 in
set_option maxHeartbeats 40000000 in
theorem rmFd0 (l : Launch) (Z : State) (a0 : Array Value) (hw : ∀ d ∈ tables_1, d.before a0 Z = true) (ws : List Jvm.Cond) (a1 : Addr) (a2 : Addr) (cs : Int32) (kv : ClassId) (s0 : Addr) (s1 : Addr) (s2 : Addr) (t0 : Addr) (v0 : Addr) (kv0 : ClassId) (va : Addr) (ka : ClassId) (h0 : Heap) (n0 : Nat) (Z0 : n0 ≤ h0.size) (V_a1 : Arv Z h0 a1 kv (.object "com/example/tenderbook/tenderbook/Role") (3 : Int32) [(.ref s0), (.ref s1), (.ref s2)] .null) (E_s0 : Exa Z h0 s0 "com/example/tenderbook/tenderbook/Role") (F_code_s0 : Fld Z h0 s0 "com/example/tenderbook/tenderbook/Role" "code" "Ljava/lang/String;" (.ref t0)) (E_t0 : Exa Z h0 t0 "java/lang/String") (F_coder_t0 : Fld Z h0 t0 "java/lang/String" "coder" "B" (.int (0 : Int32))) (F_value_t0 : Fld Z h0 t0 "java/lang/String" "value" "[B" (.ref v0)) (V_v0 : Arv Z h0 v0 kv0 .byte (8 : Int32) [(.int (111 : Int32)), (.int (112 : Int32)), (.int (101 : Int32)), (.int (114 : Int32)), (.int (97 : Int32)), (.int (116 : Int32)), (.int (111 : Int32)), (.int (114 : Int32))] (.int (0 : Int32))) (E_a2 : Exa Z h0 a2 "java/lang/String") (F_coder_a2 : Fld Z h0 a2 "java/lang/String" "coder" "B" (.int (0 : Int32))) (F_value_a2 : Fld Z h0 a2 "java/lang/String" "value" "[B" (.ref va)) (V_va : Arv Z h0 va ka .byte (8 : Int32) [(.int ((111 : Int32).toInt8.toInt32)), (.int ((112 : Int32).toInt8.toInt32)), (.int ((101 : Int32).toInt8.toInt32)), (.int ((114 : Int32).toInt8.toInt32)), (.int ((97 : Int32).toInt8.toInt32)), (.int ((116 : Int32).toInt8.toInt32)), (.int ((111 : Int32).toInt8.toInt32)), (.int ((114 : Int32).toInt8.toInt32))] (.int (0 : Int32))) (O0 : Old Z n0 h0) (S_COMPACT_STRINGS : Sta Z Z.heap "java/lang/String" "COMPACT_STRINGS" "Z" (.int cs)) (hcs : ¬ cs = (0 : Int32)) (hne0 : t0 ≠ a2) :
    MetFree l (⟨"com/example/tenderbook/tenderbook/Coded", "find", "([Lcom/example/tenderbook/tenderbook/Coded;Ljava/lang/String;)Ljava/util/Optional;"⟩ : MethodName) (head1 (Jvm.Cond.code (⟨"com/example/tenderbook/tenderbook/Coded", "find", "([Lcom/example/tenderbook/tenderbook/Coded;Ljava/lang/String;)Ljava/util/Optional;"⟩ : MethodName) prog_4_method_2_code 6 (some (.object "java/util/Optional")) :: ws) ({ frames := 3, cells := 1, slots := 1, locals := 38 } : Room)) (fun a U => a = #[(.ref a1), (.ref a2)] ∧ Z.Warmed39 U.vm ∧ U.heap = h0) (fun _ _ _ _ _ => True) (fun _ U o U' => ∃ rv Lq, o = .returned rv ∧ Q_rmFd0 Z a1 a2 cs kv s0 s1 s2 t0 v0 kv0 va ka h0 n0 rv U'.heap Lq ∧ FrameEnd U o U' Lq ({ frames := 3, cells := 1, slots := 1, locals := 38 } : Room).cells ({ frames := 3, cells := 1, slots := 1, locals := 38 } : Room).slots) := by
  refine MetFree.of_bodySF (plainFor_of_name pn_9) hisR ?_
  intro p e s m args below meth c s₁ Bd hml0 hP hK
  obtain ⟨rfl, hZ, hh⟩ := hP
  have hx := Bd.exec
  have hby := Bd.bytes
  have hml : c.maxLocals = 6 := hml0
  have hown : s.vm.findClass "com/example/tenderbook/tenderbook/Coded" = some m.cls := findClass_of_methodNamed Bd.named
  have hnm := (name_of_methodNamed Bd.named Bd.method).1
  have X0 : Stand p l e ({ frames := 3, cells := 1, slots := 1, locals := 38 } : Room) s m #[(.ref a1), (.ref a2)] below meth c s₁ [] 0 0 := Stand.of_body Bd
  have e0 : s₁.heap = h0 := by rw [← hh, Bd.state]; rfl
  have N0 := Fr.nil n0
  refine of_go (ef_rmFd0 m a1 a2) ?_
  refine Go.step (T' := s₁) (f' := (mkF m 1 #[.val (.ref a1), .val (.ref a2), .unset, .unset, .unset, .unset] [(.ref a1)])) (fun _ k => XS.aloadN X0.here hx rfl (hb hby d9_0) rfl rfl k) ?_
  refine Go.step (T' := s₁) (f' := (mkF m 2 #[.val (.ref a1), .val (.ref a2), .val (.ref a1), .unset, .unset, .unset] [])) (fun _ k => XS.astoreN X0.here hx rfl (hb hby d9_1) rfl rfl (l' := #[.val (.ref a1), .val (.ref a2), .val (.ref a1), .unset, .unset, .unset]) rfl k) ?_
  refine Go.step (T' := s₁) (f' := (mkF m 3 #[.val (.ref a1), .val (.ref a2), .val (.ref a1), .unset, .unset, .unset] [(.ref a1)])) (fun _ k => XS.aloadN X0.here hx rfl (hb hby d9_2) rfl rfl k) ?_
  obtain ⟨cl1, Ar1, qc1, Sz1, Nn1, Hs1, Gf1⟩ := id V_a1
  have hlen1 := X0.arraylength hx (by rw [e0]; exact Ar1.1) (State.isArrayOf_alike hZ.alike Ar1.2.1) (g := (mkF m 3 #[.val (.ref a1), .val (.ref a2), .val (.ref a1), .unset, .unset, .unset] [(.ref a1)])) rfl rfl (hb hby d9_3)
  rw [len_of Sz1 Nn1] at hlen1
  refine Go.step (T' := s₁) (f' := (mkF m 4 #[.val (.ref a1), .val (.ref a2), .val (.ref a1), .unset, .unset, .unset] [(.int (3 : Int32))])) (fun _ k => hlen1 _ k) ?_
  refine Go.step (T' := s₁) (f' := (mkF m 5 #[.val (.ref a1), .val (.ref a2), .val (.ref a1), .val (.int (3 : Int32)), .unset, .unset] [])) (fun _ k => XS.istoreN X0.here hx rfl (hb hby d9_4) rfl (l' := #[.val (.ref a1), .val (.ref a2), .val (.ref a1), .val (.int (3 : Int32)), .unset, .unset]) rfl k) ?_
  refine Go.step (T' := s₁) (f' := (mkF m 6 #[.val (.ref a1), .val (.ref a2), .val (.ref a1), .val (.int (3 : Int32)), .unset, .unset] [(.int (0 : Int32))])) (fun _ k => XS.iconst X0.here hx rfl (hb hby d9_5) k) ?_
  refine Go.step (T' := s₁) (f' := (mkF m 8 #[.val (.ref a1), .val (.ref a2), .val (.ref a1), .val (.int (3 : Int32)), .val (.int (0 : Int32)), .unset] [])) (fun _ k => XS.istore X0.here hx rfl (hb hby d9_6) rfl (l' := #[.val (.ref a1), .val (.ref a2), .val (.ref a1), .val (.int (3 : Int32)), .val (.int (0 : Int32)), .unset]) rfl k) ?_
  refine Go.step (T' := s₁) (f' := (mkF m 10 #[.val (.ref a1), .val (.ref a2), .val (.ref a1), .val (.int (3 : Int32)), .val (.int (0 : Int32)), .unset] [(.int (0 : Int32))])) (fun _ k => XS.iload X0.here hx rfl (hb hby d9_8) rfl k) ?_
  refine Go.step (T' := s₁) (f' := (mkF m 11 #[.val (.ref a1), .val (.ref a2), .val (.ref a1), .val (.int (3 : Int32)), .val (.int (0 : Int32)), .unset] [(.int (3 : Int32)), (.int (0 : Int32))])) (fun _ k => XS.iloadN X0.here hx rfl (hb hby d9_10) rfl k) ?_
  refine Go.step (T' := s₁) (f' := (mkF m 14 #[.val (.ref a1), .val (.ref a2), .val (.ref a1), .val (.int (3 : Int32)), .val (.int (0 : Int32)), .unset] [])) (fun _ k => XS.icmpNo X0.here hx rfl (hb hby d9_11) rfl (tlt (by decide : (0 : Int32) < (3 : Int32))).2.1 k) ?_
  refine Go.step (T' := s₁) (f' := (mkF m 15 #[.val (.ref a1), .val (.ref a2), .val (.ref a1), .val (.int (3 : Int32)), .val (.int (0 : Int32)), .unset] [(.ref a1)])) (fun _ k => XS.aloadN X0.here hx rfl (hb hby d9_14) rfl rfl k) ?_
  refine Go.step (T' := s₁) (f' := (mkF m 17 #[.val (.ref a1), .val (.ref a2), .val (.ref a1), .val (.int (3 : Int32)), .val (.int (0 : Int32)), .unset] [(.int (0 : Int32)), (.ref a1)])) (fun _ k => XS.iload X0.here hx rfl (hb hby d9_15) rfl k) ?_
  obtain ⟨cl2, Ar2, qc2, Sz2, Nn2, Hs2, Gf2⟩ := id V_a1
  have hin3 : ¬ ((0 : Int32) < 0 ∨ cl2.slots.size ≤ ((0 : Int32)).toNatClampNeg) := (inb_of Sz2 ⟨by decide, by decide⟩)
  have hat3 : cl2.slots[((0 : Int32)).toNatClampNeg]? = some (.ref s0) := Has.at Hs2 hin3 rfl
  refine Go.step (T' := s₁) (f' := (mkF m 18 #[.val (.ref a1), .val (.ref a2), .val (.ref a1), .val (.int (3 : Int32)), .val (.int (0 : Int32)), .unset] [(.ref s0)])) (fun _ k => X0.aaload hx (j := (0 : Int32)) (v := (.ref s0)) (by rw [e0]; exact Ar2.1) (State.isArrayOf_alike hZ.alike Ar2.2.1) rfl Ar2.2.2 hin3 hat3 (g := (mkF m 17 #[.val (.ref a1), .val (.ref a2), .val (.ref a1), .val (.int (3 : Int32)), .val (.int (0 : Int32)), .unset] [(.int (0 : Int32)), (.ref a1)])) rfl rfl (hb hby d9_17) _ k) ?_
  refine Go.step (T' := s₁) (f' := (mkF m 20 #[.val (.ref a1), .val (.ref a2), .val (.ref a1), .val (.int (3 : Int32)), .val (.int (0 : Int32)), .val (.ref s0)] [])) (fun _ k => XS.astore X0.here hx rfl (hb hby d9_18) rfl rfl (l' := #[.val (.ref a1), .val (.ref a2), .val (.ref a1), .val (.int (3 : Int32)), .val (.int (0 : Int32)), .val (.ref s0)]) rfl k) ?_
  refine Go.step (T' := s₁) (f' := (mkF m 22 #[.val (.ref a1), .val (.ref a2), .val (.ref a1), .val (.int (3 : Int32)), .val (.int (0 : Int32)), .val (.ref s0)] [(.ref s0)])) (fun _ k => XS.aload X0.here hx rfl (hb hby d9_20) rfl rfl k) ?_
  obtain ⟨cq4, kq4, q4a, q4b, q4c⟩ := isOf hZ e0 E_s0
  obtain ⟨_, _, ⟨T4, L4, kk4, nn4⟩, -, X4, ⟨Lc4, hQ4, lq4, yq4, zq4⟩, st4⟩ := X0.interfaceBack hx (xi := (⟨"com/example/tenderbook/tenderbook/Coded", "code", "()Ljava/lang/String;"⟩ : MethodName)) (y := (⟨"com/example/tenderbook/tenderbook/Role", "code", "()Ljava/lang/String;"⟩ : MethodName)) hown (mvT hZ (hw _ (List.mem_of_getElem? (i := 58) rfl))) (mvT hZ (hw _ (List.mem_of_getElem? (i := 59) rfl))) (mvT hZ (hw _ (List.mem_of_getElem? (i := 60) rfl))) (mvT hZ (hw _ (List.mem_of_getElem? (i := 61) rfl))) (mvT hZ (hw _ (List.mem_of_getElem? (i := 62) rfl))) (mvT hZ (hw _ (List.mem_of_getElem? (i := 63) rfl))) (mvT hZ (hw _ (List.mem_of_getElem? (i := 64) rfl))) (mvT hZ (hw _ (List.mem_of_getElem? (i := 65) rfl))) (by decide) (backOf (W := 0) (rm10 l Z a0 hw [] s0 t0 h0 n0 Z0 F_code_s0) hZ (hw _ (List.mem_of_getElem? (i := 66) rfl)) (hw _ (List.mem_of_getElem? (i := 3) rfl)) (by decide) (by decide)) q4a q4b q4c (g := (mkF m 22 #[.val (.ref a1), .val (.ref a2), .val (.ref a1), .val (.int (3 : Int32)), .val (.int (0 : Int32)), .val (.ref s0)] [(.ref s0)])) rfl (by rw [hml]; rfl) (Steps.refl _) (argsL := []) (rest := []) (lenOf pd_7 rfl) rfl (by show 2 * 0 + _ ≤ _; exact Nat.le_of_eq rfl) (hb hby d9_22) (fun _ _ => ⟨rfl, e0, (by decide : 0 + 0 ≤ _), (by decide : 0 + 0 ≤ _)⟩)
  dsimp only [Pt.U, Pt.locs, Pt.cells, Pt.slots] at X4 lq4 yq4 zq4 st4 hQ4
  subst yq4 zq4
  obtain ⟨rfl, Nq4, eh4⟩ := hQ4
  have N4 : Fr n0 L4 := by rw [lq4]; exact Fr.app N0 Nq4
  refine Go.step (T' := T4) (f' := (mkF m 27 #[.val (.ref a1), .val (.ref a2), .val (.ref a1), .val (.int (3 : Int32)), .val (.int (0 : Int32)), .val (.ref s0)] [(.ref t0)])) (fun _ k => st4.trans k) ?_
  refine Go.step (T' := T4) (f' := (mkF m 28 #[.val (.ref a1), .val (.ref a2), .val (.ref a1), .val (.int (3 : Int32)), .val (.int (0 : Int32)), .val (.ref s0)] [(.ref a2), (.ref t0)])) (fun _ k => XS.aloadN X4.here hx rfl (hb hby d9_27) rfl rfl k) ?_
  obtain ⟨cq5, kq5, q5a, q5b, q5c⟩ := isOf hZ eh4 E_t0
  obtain ⟨_, _, ⟨T5, L5, kk5, nn5⟩, -, X5, ⟨Lc5, hQ5, lq5, yq5, zq5⟩, st5⟩ := X4.virtualBack hx (y := (⟨"java/lang/String", "equals", "(Ljava/lang/Object;)Z"⟩ : MethodName)) (z := (⟨"java/lang/String", "equals", "(Ljava/lang/Object;)Z"⟩ : MethodName)) hown (mvT hZ (hw _ (List.mem_of_getElem? (i := 69) rfl))) (mvT hZ (hw _ (List.mem_of_getElem? (i := 70) rfl))) (notFace_of_selects (args := #[]) (mvT hZ (hw _ (List.mem_of_getElem? (i := 72) rfl)))) (mvT hZ (hw _ (List.mem_of_getElem? (i := 72) rfl))) (mvT hZ (hw _ (List.mem_of_getElem? (i := 71) rfl))) (by decide) (backOf (W := 0) (rmSe8_8 l Z a0 hw [] t0 a2 cs v0 va kv0 ka (111 : Int32) (112 : Int32) (101 : Int32) (114 : Int32) (97 : Int32) (116 : Int32) (111 : Int32) (114 : Int32) h0 n0 Z0 E_t0 F_coder_t0 F_value_t0 V_v0 E_a2 F_coder_a2 F_value_a2 V_va O0 S_COMPACT_STRINGS hcs hne0) hZ (hw _ (List.mem_of_getElem? (i := 73) rfl)) (hw _ (List.mem_of_getElem? (i := 7) rfl)) (by decide) (by decide)) q5a q5c (g := (mkF m 28 #[.val (.ref a1), .val (.ref a2), .val (.ref a1), .val (.int (3 : Int32)), .val (.int (0 : Int32)), .val (.ref s0)] [(.ref a2), (.ref t0)])) rfl (by rw [hml]; rfl) (Steps.refl _) (argsL := [(.ref a2)]) (rest := []) (lenOf pd_8 rfl) rfl (by show 2 * 0 + _ ≤ _; exact Nat.le_of_eq rfl) (hb hby d9_28) (fun _ _ => ⟨rfl, eh4, (by decide : 0 + 0 ≤ _), (by decide : 0 + 0 ≤ _)⟩)
  dsimp only [Pt.U, Pt.locs, Pt.cells, Pt.slots] at X5 lq5 yq5 zq5 st5 hQ5
  subst yq5 zq5
  obtain ⟨rfl, Nq5, eh5⟩ := hQ5
  have N5 : Fr n0 L5 := by rw [lq5]; exact Fr.app N4 Nq5
  refine Go.step (T' := T5) (f' := (mkF m 31 #[.val (.ref a1), .val (.ref a2), .val (.ref a1), .val (.int (3 : Int32)), .val (.int (0 : Int32)), .val (.ref s0)] [(.int (1 : Int32))])) (fun _ k => st5.trans k) ?_
  refine Go.step (T' := T5) (f' := (mkF m 34 #[.val (.ref a1), .val (.ref a2), .val (.ref a1), .val (.int (3 : Int32)), .val (.int (0 : Int32)), .val (.ref s0)] [])) (fun _ k => XS.ifNo X5.here hx rfl (hb hby d9_31) rfl ((if0 _ _).trans (feq (by decide : ¬ ((1 : Int32) = (0 : Int32)))).1) k) ?_
  refine Go.step (T' := T5) (f' := (mkF m 36 #[.val (.ref a1), .val (.ref a2), .val (.ref a1), .val (.int (3 : Int32)), .val (.int (0 : Int32)), .val (.ref s0)] [(.ref s0)])) (fun _ k => XS.aload X5.here hx rfl (hb hby d9_34) rfl rfl k) ?_
  obtain ⟨_, _, ⟨T6, L6, kk6, nn6⟩, -, X6, ⟨Lc6, hQ6, lq6, yq6, zq6⟩, st6⟩ := Jvm.LawKit.callS X5 hx (y := (⟨"java/util/Optional", "of", "(Ljava/lang/Object;)Ljava/util/Optional;"⟩ : MethodName)) hown (mvT hZ (hw _ (List.mem_of_getElem? (i := 79) rfl))) (mvT hZ (hw _ (List.mem_of_getElem? (i := 80) rfl))) (mvT hZ (hw _ (List.mem_of_getElem? (i := 81) rfl))) (mvT hZ (hw _ (List.mem_of_getElem? (i := 82) rfl))) (by decide) (backOf (W := 0) (rm13 l Z a0 hw [] s0 h0 n0 Z0 ) hZ (hw _ (List.mem_of_getElem? (i := 82) rfl)) (hw _ (List.mem_of_getElem? (i := 81) rfl)) (by decide) (by decide)) (g := (mkF m 36 #[.val (.ref a1), .val (.ref a2), .val (.ref a1), .val (.int (3 : Int32)), .val (.int (0 : Int32)), .val (.ref s0)] [(.ref s0)])) rfl (by rw [hml]; rfl) (argsL := [(.ref s0)]) (rest := []) (lenOf pd_9 rfl) rfl (by show 2 * 0 + _ ≤ _; exact Nat.le_of_eq rfl) (hb hby d9_36) (fun _ _ => ⟨rfl, eh5, (by decide : 0 + 1 ≤ _), (by decide : 0 + 1 ≤ _)⟩)
  dsimp only [Pt.U, Pt.locs, Pt.cells, Pt.slots] at X6 lq6 yq6 zq6 st6 hQ6
  subst yq6 zq6
  obtain ⟨q_6, rfl, Nq6, Kq6, r6_0, r6_1, r6_2⟩ := hQ6
  have N6 : Fr n0 L6 := by rw [lq6]; exact Fr.app N5 Nq6
  have g_q_6 : n0 ≤ q_6 := Nat.le_trans Z0 r6_0
  have sz_q_6 : h0.size ≤ q_6 := Nat.le_trans (Keep.refl h0 []).1 r6_0
  have Z7 : n0 ≤ T6.heap.size := Nat.le_trans Z0 Kq6.1
  have O7 : Old Z n0 T6.heap := O0.keep Kq6 all0
  have K7 : Keep h0 T6.heap [] := (Keep.refl h0 []).trans Kq6 all0
  refine Go.step (T' := T6) (f' := (mkF m 39 #[.val (.ref a1), .val (.ref a2), .val (.ref a1), .val (.int (3 : Int32)), .val (.int (0 : Int32)), .val (.ref s0)] [(.ref q_6)])) st6 ?_
  refine goA X6 hx Bd.returns rfl rfl Bd.notSynchronized (hb hby d9_39) ?_ (by decide) (by decide)
  show Q_rmFd0 Z a1 a2 cs kv s0 s1 s2 t0 v0 kv0 va ka h0 n0 _ T6.heap _
  exact ⟨q_6, rfl, N6, K7, sz_q_6, r6_1, r6_2⟩
theorem d7_0 : decode prog_17_method_5_code 0 = .ok (.invokestatic 36, 3) := by decide +kernel
theorem pd_10 : parseMethodDescriptor "()[Lcom/example/tenderbook/tenderbook/Role;" = some ⟨[], some (.array (.object "com/example/tenderbook/tenderbook/Role"))⟩ := by decide +kernel
theorem d7_3 : decode prog_17_method_5_code 3 = .ok (.aload_n 0, 1) := by decide +kernel
theorem d7_4 : decode prog_17_method_5_code 4 = .ok (.invokestatic 40, 3) := by decide +kernel
theorem pd_11 : parseMethodDescriptor "([Lcom/example/tenderbook/tenderbook/Coded;Ljava/lang/String;)Ljava/util/Optional;" = some ⟨[(.array (.object "com/example/tenderbook/tenderbook/Coded")), (.object "java/lang/String")], some (.object "java/util/Optional")⟩ := by decide +kernel
theorem d7_7 : decode prog_17_method_5_code 7 = .ok (.astore_n 1, 1) := by decide +kernel
theorem d7_8 : decode prog_17_method_5_code 8 = .ok (.aload_n 1, 1) := by decide +kernel
theorem d7_9 : decode prog_17_method_5_code 9 = .ok (.invokevirtual 46, 3) := by decide +kernel
theorem pd_12 : parseMethodDescriptor "()Z" = some ⟨[], some .boolean⟩ := by decide +kernel
theorem d7_12 : decode prog_17_method_5_code 12 = .ok (.ifCond .eq 17, 3) := by decide +kernel
theorem d7_29 : decode prog_17_method_5_code 29 = .ok (.aload_n 1, 1) := by decide +kernel
theorem d7_30 : decode prog_17_method_5_code 30 = .ok (.invokevirtual 61, 3) := by decide +kernel
theorem pd_13 : parseMethodDescriptor "()Ljava/lang/Object;" = some ⟨[], some (.object "java/lang/Object")⟩ := by decide +kernel
theorem d7_33 : decode prog_17_method_5_code 33 = .ok (.checkcast 1, 3) := by decide +kernel
theorem d7_36 : decode prog_17_method_5_code 36 = .ok (.areturn, 1) := by decide +kernel
theorem ef_rmOc0 (m : MethodId) (a1 : Addr) : entryFrame m #[(.ref a1)] 2 = mkF m 0 #[.val (.ref a1), .unset] [] := by first | (simp [entryFrame, mkF, argsToLocals, Value.category]; done) | rfl
def Q_rmOc0 (Z : State) (a1 : Addr) (cs : Int32) (kv : ClassId) (s0 : Addr) (s1 : Addr) (s2 : Addr) (t0 : Addr) (v0 : Addr) (kv0 : ClassId) (va : Addr) (ka : ClassId) (sv : Addr) (h0 : Heap) (n0 : Nat) (rv : Option Value) (hq : Heap) (Lq : List Loc) : Prop := rv = some (.ref s0) ∧ Fr n0 Lq ∧ Keep h0 hq []
set_option maxRecDepth 65536 in
set_option maxHeartbeats 40000000 in
theorem rmOc0 (l : Launch) (Z : State) (a0 : Array Value) (hw : ∀ d ∈ tables_1, d.before a0 Z = true) (ws : List Jvm.Cond) (a1 : Addr) (cs : Int32) (kv : ClassId) (s0 : Addr) (s1 : Addr) (s2 : Addr) (t0 : Addr) (v0 : Addr) (kv0 : ClassId) (va : Addr) (ka : ClassId) (sv : Addr) (h0 : Heap) (n0 : Nat) (Z0 : n0 ≤ h0.size) (E_sv : Exa Z h0 sv "[Lcom/example/tenderbook/tenderbook/Role;") (V_sv : Arv Z h0 sv kv (.object "com/example/tenderbook/tenderbook/Role") (3 : Int32) [(.ref s0), (.ref s1), (.ref s2)] .null) (E_s0 : Exa Z h0 s0 "com/example/tenderbook/tenderbook/Role") (F_code_s0 : Fld Z h0 s0 "com/example/tenderbook/tenderbook/Role" "code" "Ljava/lang/String;" (.ref t0)) (E_t0 : Exa Z h0 t0 "java/lang/String") (F_coder_t0 : Fld Z h0 t0 "java/lang/String" "coder" "B" (.int (0 : Int32))) (F_value_t0 : Fld Z h0 t0 "java/lang/String" "value" "[B" (.ref v0)) (V_v0 : Arv Z h0 v0 kv0 .byte (8 : Int32) [(.int (111 : Int32)), (.int (112 : Int32)), (.int (101 : Int32)), (.int (114 : Int32)), (.int (97 : Int32)), (.int (116 : Int32)), (.int (111 : Int32)), (.int (114 : Int32))] (.int (0 : Int32))) (E_a1 : Exa Z h0 a1 "java/lang/String") (F_coder_a1 : Fld Z h0 a1 "java/lang/String" "coder" "B" (.int (0 : Int32))) (F_value_a1 : Fld Z h0 a1 "java/lang/String" "value" "[B" (.ref va)) (V_va : Arv Z h0 va ka .byte (8 : Int32) [(.int ((111 : Int32).toInt8.toInt32)), (.int ((112 : Int32).toInt8.toInt32)), (.int ((101 : Int32).toInt8.toInt32)), (.int ((114 : Int32).toInt8.toInt32)), (.int ((97 : Int32).toInt8.toInt32)), (.int ((116 : Int32).toInt8.toInt32)), (.int ((111 : Int32).toInt8.toInt32)), (.int ((114 : Int32).toInt8.toInt32))] (.int (0 : Int32))) (O0 : Old Z n0 h0) (S_COMPACT_STRINGS : Sta Z Z.heap "java/lang/String" "COMPACT_STRINGS" "Z" (.int cs)) (hcs : ¬ cs = (0 : Int32)) (S__VALUES : Sta Z Z.heap "com/example/tenderbook/tenderbook/Role" "$VALUES" "[Lcom/example/tenderbook/tenderbook/Role;" (.ref sv)) (hne0 : t0 ≠ a1) :
    MetFree l (⟨"com/example/tenderbook/tenderbook/Role", "ofCode", "(Ljava/lang/String;)Lcom/example/tenderbook/tenderbook/Role;"⟩ : MethodName) (head1 (Jvm.Cond.code (⟨"com/example/tenderbook/tenderbook/Role", "ofCode", "(Ljava/lang/String;)Lcom/example/tenderbook/tenderbook/Role;"⟩ : MethodName) prog_17_method_5_code 2 (some (.object "com/example/tenderbook/tenderbook/Role")) :: ws) ({ frames := 4, cells := 2, slots := 4, locals := 55 } : Room)) (fun a U => a = #[(.ref a1)] ∧ Z.Warmed39 U.vm ∧ U.heap = h0) (fun _ _ _ _ _ => True) (fun _ U o U' => ∃ rv Lq, o = .returned rv ∧ Q_rmOc0 Z a1 cs kv s0 s1 s2 t0 v0 kv0 va ka sv h0 n0 rv U'.heap Lq ∧ FrameEnd U o U' Lq ({ frames := 4, cells := 2, slots := 4, locals := 55 } : Room).cells ({ frames := 4, cells := 2, slots := 4, locals := 55 } : Room).slots) := by
  refine MetFree.of_bodySF (plainFor_of_name pn_10) hisR ?_
  intro p e s m args below meth c s₁ Bd hml0 hP hK
  obtain ⟨rfl, hZ, hh⟩ := hP
  have hx := Bd.exec
  have hby := Bd.bytes
  have hml : c.maxLocals = 2 := hml0
  have hown : s.vm.findClass "com/example/tenderbook/tenderbook/Role" = some m.cls := findClass_of_methodNamed Bd.named
  have hnm := (name_of_methodNamed Bd.named Bd.method).1
  have X0 : Stand p l e ({ frames := 4, cells := 2, slots := 4, locals := 55 } : Room) s m #[(.ref a1)] below meth c s₁ [] 0 0 := Stand.of_body Bd
  have e0 : s₁.heap = h0 := by rw [← hh, Bd.state]; rfl
  have N0 := Fr.nil n0
  refine of_go (ef_rmOc0 m a1) ?_
  obtain ⟨_, _, ⟨T1, L1, kk1, nn1⟩, -, X1, ⟨Lc1, hQ1, lq1, yq1, zq1⟩, st1⟩ := Jvm.LawKit.callS X0 hx (y := (⟨"com/example/tenderbook/tenderbook/Role", "values", "()[Lcom/example/tenderbook/tenderbook/Role;"⟩ : MethodName)) hown (mvT hZ (hw _ (List.mem_of_getElem? (i := 37) rfl))) (mvT hZ (hw _ (List.mem_of_getElem? (i := 38) rfl))) (mvT hZ (hw _ (List.mem_of_getElem? (i := 3) rfl))) (mvT hZ (hw _ (List.mem_of_getElem? (i := 39) rfl))) (by decide) (backOf (W := 0) (rm8 l Z a0 hw [] sv kv s0 s1 s2 h0 n0 Z0 E_sv V_sv O0 S__VALUES) hZ (hw _ (List.mem_of_getElem? (i := 39) rfl)) (hw _ (List.mem_of_getElem? (i := 3) rfl)) (by decide) (by decide)) (g := (mkF m 0 #[.val (.ref a1), .unset] [])) rfl (by rw [hml]; rfl) (argsL := []) (rest := []) (lenOf pd_10 rfl) rfl (by show 2 * 0 + _ ≤ _; exact Nat.le_of_eq rfl) (hb hby d7_0) (fun _ _ => ⟨rfl, e0, (by decide : 0 + 1 ≤ _), (by decide : 0 + 3 ≤ _)⟩)
  dsimp only [Pt.U, Pt.locs, Pt.cells, Pt.slots] at X1 lq1 yq1 zq1 st1 hQ1
  subst yq1 zq1
  obtain ⟨b_1, rfl, Nq1, Kq1, r1_0, r1_1⟩ := hQ1
  have N1 : Fr n0 L1 := by rw [lq1]; exact Fr.app N0 Nq1
  have g_b_1 : n0 ≤ b_1 := Nat.le_trans Z0 r1_0
  have sz_b_1 : h0.size ≤ b_1 := Nat.le_trans (Keep.refl h0 []).1 r1_0
  have Z2 : n0 ≤ T1.heap.size := Nat.le_trans Z0 Kq1.1
  have O2 : Old Z n0 T1.heap := O0.keep Kq1 all0
  have K2 : Keep h0 T1.heap [] := (Keep.refl h0 []).trans Kq1 all0
  refine Go.step (T' := T1) (f' := (mkF m 3 #[.val (.ref a1), .unset] [(.ref b_1)])) st1 ?_
  refine Go.step (T' := T1) (f' := (mkF m 4 #[.val (.ref a1), .unset] [(.ref a1), (.ref b_1)])) (fun _ k => XS.aloadN X1.here hx rfl (hb hby d7_3) rfl rfl k) ?_
  have q4 : Exa Z T1.heap s0 "com/example/tenderbook/tenderbook/Role" := (E_s0.keep Kq1)
  have q5 : Fld Z T1.heap s0 "com/example/tenderbook/tenderbook/Role" "code" "Ljava/lang/String;" (.ref t0) := (F_code_s0.keep Kq1 nin0)
  have q6 : Exa Z T1.heap t0 "java/lang/String" := (E_t0.keep Kq1)
  have q7 : Fld Z T1.heap t0 "java/lang/String" "coder" "B" (.int (0 : Int32)) := (F_coder_t0.keep Kq1 nin0)
  have q8 : Fld Z T1.heap t0 "java/lang/String" "value" "[B" (.ref v0) := (F_value_t0.keep Kq1 nin0)
  have q9 : Arv Z T1.heap v0 kv0 .byte (8 : Int32) [(.int (111 : Int32)), (.int (112 : Int32)), (.int (101 : Int32)), (.int (114 : Int32)), (.int (97 : Int32)), (.int (116 : Int32)), (.int (111 : Int32)), (.int (114 : Int32))] (.int (0 : Int32)) := (V_v0.keep Kq1 nin0)
  have q10 : Exa Z T1.heap a1 "java/lang/String" := (E_a1.keep Kq1)
  have q11 : Fld Z T1.heap a1 "java/lang/String" "coder" "B" (.int (0 : Int32)) := (F_coder_a1.keep Kq1 nin0)
  have q12 : Fld Z T1.heap a1 "java/lang/String" "value" "[B" (.ref va) := (F_value_a1.keep Kq1 nin0)
  have q13 : Arv Z T1.heap va ka .byte (8 : Int32) [(.int ((111 : Int32).toInt8.toInt32)), (.int ((112 : Int32).toInt8.toInt32)), (.int ((101 : Int32).toInt8.toInt32)), (.int ((114 : Int32).toInt8.toInt32)), (.int ((97 : Int32).toInt8.toInt32)), (.int ((116 : Int32).toInt8.toInt32)), (.int ((111 : Int32).toInt8.toInt32)), (.int ((114 : Int32).toInt8.toInt32))] (.int (0 : Int32)) := (V_va.keep Kq1 nin0)
  obtain ⟨_, _, ⟨T3, L3, kk3, nn3⟩, -, X3, ⟨Lc3, hQ3, lq3, yq3, zq3⟩, st3⟩ := Jvm.LawKit.callS X1 hx (y := (⟨"com/example/tenderbook/tenderbook/Coded", "find", "([Lcom/example/tenderbook/tenderbook/Coded;Ljava/lang/String;)Ljava/util/Optional;"⟩ : MethodName)) hown (mvT hZ (hw _ (List.mem_of_getElem? (i := 54) rfl))) (mvT hZ (hw _ (List.mem_of_getElem? (i := 55) rfl))) (mvT hZ (hw _ (List.mem_of_getElem? (i := 56) rfl))) (mvT hZ (hw _ (List.mem_of_getElem? (i := 57) rfl))) (by decide) (backOf (W := 0) (rmFd0 l Z a0 hw [] b_1 a1 cs kv s0 s1 s2 t0 v0 kv0 va ka T1.heap n0 Z2 r1_1 q4 q5 q6 q7 q8 q9 q10 q11 q12 q13 O2 S_COMPACT_STRINGS hcs hne0) hZ (hw _ (List.mem_of_getElem? (i := 57) rfl)) (hw _ (List.mem_of_getElem? (i := 56) rfl)) (by decide) (by decide)) (g := (mkF m 4 #[.val (.ref a1), .unset] [(.ref a1), (.ref b_1)])) rfl (by rw [hml]; rfl) (argsL := [(.ref b_1), (.ref a1)]) (rest := []) (lenOf pd_11 rfl) rfl (by show 2 * 0 + _ ≤ _; exact Nat.le_of_eq rfl) (hb hby d7_4) (fun _ _ => ⟨rfl, rfl, (by decide : 1 + 1 ≤ _), (by decide : 3 + 1 ≤ _)⟩)
  dsimp only [Pt.U, Pt.locs, Pt.cells, Pt.slots] at X3 lq3 yq3 zq3 st3 hQ3
  subst yq3 zq3
  obtain ⟨q_3, rfl, Nq3, Kq3, r3_0, r3_1, r3_2⟩ := hQ3
  have N3 : Fr n0 L3 := by rw [lq3]; exact Fr.app N1 Nq3
  have g_q_3 : n0 ≤ q_3 := Nat.le_trans Z2 r3_0
  have sz_q_3 : h0.size ≤ q_3 := Nat.le_trans K2.1 r3_0
  have Z14 : n0 ≤ T3.heap.size := Nat.le_trans Z2 Kq3.1
  have O14 : Old Z n0 T3.heap := O2.keep Kq3 all0
  have K14 : Keep h0 T3.heap [] := K2.trans Kq3 all0
  refine Go.step (T' := T3) (f' := (mkF m 7 #[.val (.ref a1), .unset] [(.ref q_3)])) st3 ?_
  refine Go.step (T' := T3) (f' := (mkF m 8 #[.val (.ref a1), .val (.ref q_3)] [])) (fun _ k => XS.astoreN X3.here hx rfl (hb hby d7_7) rfl rfl (l' := #[.val (.ref a1), .val (.ref q_3)]) rfl k) ?_
  refine Go.step (T' := T3) (f' := (mkF m 9 #[.val (.ref a1), .val (.ref q_3)] [(.ref q_3)])) (fun _ k => XS.aloadN X3.here hx rfl (hb hby d7_8) rfl rfl k) ?_
  obtain ⟨cq15, kq15, q15a, q15b, q15c⟩ := isOf hZ rfl r3_1
  obtain ⟨_, _, ⟨T15, L15, kk15, nn15⟩, -, X15, ⟨Lc15, hQ15, lq15, yq15, zq15⟩, st15⟩ := X3.virtualBack hx (y := (⟨"java/util/Optional", "isEmpty", "()Z"⟩ : MethodName)) (z := (⟨"java/util/Optional", "isEmpty", "()Z"⟩ : MethodName)) hown (mvT hZ (hw _ (List.mem_of_getElem? (i := 96) rfl))) (mvT hZ (hw _ (List.mem_of_getElem? (i := 97) rfl))) (notFace_of_selects (args := #[]) (mvT hZ (hw _ (List.mem_of_getElem? (i := 99) rfl)))) (mvT hZ (hw _ (List.mem_of_getElem? (i := 99) rfl))) (mvT hZ (hw _ (List.mem_of_getElem? (i := 98) rfl))) (by decide) (backOf (W := 0) (rm16 l Z a0 hw [] q_3 s0 T3.heap n0 Z14 r3_2) hZ (hw _ (List.mem_of_getElem? (i := 100) rfl)) (hw _ (List.mem_of_getElem? (i := 81) rfl)) (by decide) (by decide)) q15a q15c (g := (mkF m 9 #[.val (.ref a1), .val (.ref q_3)] [(.ref q_3)])) rfl (by rw [hml]; rfl) (Steps.refl _) (argsL := []) (rest := []) (lenOf pd_12 rfl) rfl (by show 2 * 0 + _ ≤ _; exact Nat.le_of_eq rfl) (hb hby d7_9) (fun _ _ => ⟨rfl, rfl, (by decide : 2 + 0 ≤ _), (by decide : 4 + 0 ≤ _)⟩)
  dsimp only [Pt.U, Pt.locs, Pt.cells, Pt.slots] at X15 lq15 yq15 zq15 st15 hQ15
  subst yq15 zq15
  obtain ⟨rfl, Nq15, eh15⟩ := hQ15
  have N15 : Fr n0 L15 := by rw [lq15]; exact Fr.app N3 Nq15
  refine Go.step (T' := T15) (f' := (mkF m 12 #[.val (.ref a1), .val (.ref q_3)] [(.int (0 : Int32))])) (fun _ k => st15.trans k) ?_
  refine Go.step (T' := T15) (f' := (mkF m 29 #[.val (.ref a1), .val (.ref q_3)] [])) (fun _ k => XS.ifYes X15.here hx rfl (pc0 := 12) (pc' := 29) rfl (hb hby d7_12) rfl ((if0 _ _).trans (teq (by decide : (0 : Int32) = (0 : Int32))).1) (by decide) (by decide) k) ?_
  refine Go.step (T' := T15) (f' := (mkF m 30 #[.val (.ref a1), .val (.ref q_3)] [(.ref q_3)])) (fun _ k => XS.aloadN X15.here hx rfl (hb hby d7_29) rfl rfl k) ?_
  obtain ⟨cq16, kq16, q16a, q16b, q16c⟩ := isOf hZ eh15 r3_1
  obtain ⟨_, _, ⟨T16, L16, kk16, nn16⟩, -, X16, ⟨Lc16, hQ16, lq16, yq16, zq16⟩, st16⟩ := X15.virtualBack hx (y := (⟨"java/util/Optional", "get", "()Ljava/lang/Object;"⟩ : MethodName)) (z := (⟨"java/util/Optional", "get", "()Ljava/lang/Object;"⟩ : MethodName)) hown (mvT hZ (hw _ (List.mem_of_getElem? (i := 101) rfl))) (mvT hZ (hw _ (List.mem_of_getElem? (i := 102) rfl))) (notFace_of_selects (args := #[]) (mvT hZ (hw _ (List.mem_of_getElem? (i := 104) rfl)))) (mvT hZ (hw _ (List.mem_of_getElem? (i := 104) rfl))) (mvT hZ (hw _ (List.mem_of_getElem? (i := 103) rfl))) (by decide) (backOf (W := 0) (rm17 l Z a0 hw [] q_3 s0 T3.heap n0 Z14 r3_2) hZ (hw _ (List.mem_of_getElem? (i := 105) rfl)) (hw _ (List.mem_of_getElem? (i := 81) rfl)) (by decide) (by decide)) q16a q16c (g := (mkF m 30 #[.val (.ref a1), .val (.ref q_3)] [(.ref q_3)])) rfl (by rw [hml]; rfl) (Steps.refl _) (argsL := []) (rest := []) (lenOf pd_13 rfl) rfl (by show 2 * 0 + _ ≤ _; exact Nat.le_of_eq rfl) (hb hby d7_30) (fun _ _ => ⟨rfl, eh15, (by decide : 2 + 0 ≤ _), (by decide : 4 + 0 ≤ _)⟩)
  dsimp only [Pt.U, Pt.locs, Pt.cells, Pt.slots] at X16 lq16 yq16 zq16 st16 hQ16
  subst yq16 zq16
  obtain ⟨rfl, Nq16, eh16⟩ := hQ16
  have N16 : Fr n0 L16 := by rw [lq16]; exact Fr.app N15 Nq16
  refine Go.step (T' := T16) (f' := (mkF m 33 #[.val (.ref a1), .val (.ref q_3)] [(.ref s0)])) (fun _ k => st16.trans k) ?_
  have q17 : Exa Z T3.heap s0 "com/example/tenderbook/tenderbook/Role" := (q4.keep Kq3)
  obtain ⟨T18, X18, e18, st18⟩ := castY X16 hx hZ hown (hw _ (List.mem_of_getElem? (i := 106) rfl)) eh16 (Ins.self q17) (g := (mkF m 33 #[.val (.ref a1), .val (.ref q_3)] [(.ref s0)])) rfl rfl (hb hby d7_33)
  refine Go.step (T' := T18) (f' := (mkF m 36 #[.val (.ref a1), .val (.ref q_3)] [(.ref s0)])) st18 ?_
  refine goA X18 hx Bd.returns rfl rfl Bd.notSynchronized (hb hby d7_36) ?_ (by decide) (by decide)
  show Q_rmOc0 Z a1 cs kv s0 s1 s2 t0 v0 kv0 va ka sv h0 n0 _ T18.heap _
  rw [e18]
  exact ⟨rfl, N16, K14⟩
theorem d9_40 : decode prog_4_method_2_code 40 = .ok (.iinc 4 1, 3) := by decide +kernel
theorem d9_43 : decode prog_4_method_2_code 43 = .ok (.goto (-35), 3) := by decide +kernel
theorem ef_rmFd1 (m : MethodId) (a1 : Addr) (a2 : Addr) : entryFrame m #[(.ref a1), (.ref a2)] 6 = mkF m 0 #[.val (.ref a1), .val (.ref a2), .unset, .unset, .unset, .unset] [] := by first | (simp [entryFrame, mkF, argsToLocals, Value.category]; done) | rfl
def Q_rmFd1 (Z : State) (a1 : Addr) (a2 : Addr) (cs : Int32) (kv : ClassId) (s0 : Addr) (s1 : Addr) (s2 : Addr) (t0 : Addr) (v0 : Addr) (kv0 : ClassId) (t1 : Addr) (v1 : Addr) (kv1 : ClassId) (va : Addr) (ka : ClassId) (h0 : Heap) (n0 : Nat) (rv : Option Value) (hq : Heap) (Lq : List Loc) : Prop := ∃ q : Addr, rv = some (.ref q) ∧ Fr n0 Lq ∧ Keep h0 hq [] ∧ h0.size ≤ q ∧ Exa Z hq q "java/util/Optional" ∧ Fld Z hq q "java/util/Optional" "value" "Ljava/lang/Object;" (.ref s1)
set_option maxRecDepth 65536 in
set_option maxHeartbeats 40000000 in
theorem rmFd1 (l : Launch) (Z : State) (a0 : Array Value) (hw : ∀ d ∈ tables_1, d.before a0 Z = true) (ws : List Jvm.Cond) (a1 : Addr) (a2 : Addr) (cs : Int32) (kv : ClassId) (s0 : Addr) (s1 : Addr) (s2 : Addr) (t0 : Addr) (v0 : Addr) (kv0 : ClassId) (t1 : Addr) (v1 : Addr) (kv1 : ClassId) (va : Addr) (ka : ClassId) (h0 : Heap) (n0 : Nat) (Z0 : n0 ≤ h0.size) (V_a1 : Arv Z h0 a1 kv (.object "com/example/tenderbook/tenderbook/Role") (3 : Int32) [(.ref s0), (.ref s1), (.ref s2)] .null) (E_s0 : Exa Z h0 s0 "com/example/tenderbook/tenderbook/Role") (F_code_s0 : Fld Z h0 s0 "com/example/tenderbook/tenderbook/Role" "code" "Ljava/lang/String;" (.ref t0)) (E_t0 : Exa Z h0 t0 "java/lang/String") (F_coder_t0 : Fld Z h0 t0 "java/lang/String" "coder" "B" (.int (0 : Int32))) (F_value_t0 : Fld Z h0 t0 "java/lang/String" "value" "[B" (.ref v0)) (V_v0 : Arv Z h0 v0 kv0 .byte (8 : Int32) [(.int (111 : Int32)), (.int (112 : Int32)), (.int (101 : Int32)), (.int (114 : Int32)), (.int (97 : Int32)), (.int (116 : Int32)), (.int (111 : Int32)), (.int (114 : Int32))] (.int (0 : Int32))) (E_s1 : Exa Z h0 s1 "com/example/tenderbook/tenderbook/Role") (F_code_s1 : Fld Z h0 s1 "com/example/tenderbook/tenderbook/Role" "code" "Ljava/lang/String;" (.ref t1)) (E_t1 : Exa Z h0 t1 "java/lang/String") (F_coder_t1 : Fld Z h0 t1 "java/lang/String" "coder" "B" (.int (0 : Int32))) (F_value_t1 : Fld Z h0 t1 "java/lang/String" "value" "[B" (.ref v1)) (V_v1 : Arv Z h0 v1 kv1 .byte (9 : Int32) [(.int (105 : Int32)), (.int (110 : Int32)), (.int (105 : Int32)), (.int (116 : Int32)), (.int (105 : Int32)), (.int (97 : Int32)), (.int (116 : Int32)), (.int (111 : Int32)), (.int (114 : Int32))] (.int (0 : Int32))) (E_a2 : Exa Z h0 a2 "java/lang/String") (F_coder_a2 : Fld Z h0 a2 "java/lang/String" "coder" "B" (.int (0 : Int32))) (F_value_a2 : Fld Z h0 a2 "java/lang/String" "value" "[B" (.ref va)) (V_va : Arv Z h0 va ka .byte (9 : Int32) [(.int ((105 : Int32).toInt8.toInt32)), (.int ((110 : Int32).toInt8.toInt32)), (.int ((105 : Int32).toInt8.toInt32)), (.int ((116 : Int32).toInt8.toInt32)), (.int ((105 : Int32).toInt8.toInt32)), (.int ((97 : Int32).toInt8.toInt32)), (.int ((116 : Int32).toInt8.toInt32)), (.int ((111 : Int32).toInt8.toInt32)), (.int ((114 : Int32).toInt8.toInt32))] (.int (0 : Int32))) (O0 : Old Z n0 h0) (S_COMPACT_STRINGS : Sta Z Z.heap "java/lang/String" "COMPACT_STRINGS" "Z" (.int cs)) (hcs : ¬ cs = (0 : Int32)) (hne0 : t0 ≠ a2) (hne1 : t1 ≠ a2) :
    MetFree l (⟨"com/example/tenderbook/tenderbook/Coded", "find", "([Lcom/example/tenderbook/tenderbook/Coded;Ljava/lang/String;)Ljava/util/Optional;"⟩ : MethodName) (head1 (Jvm.Cond.code (⟨"com/example/tenderbook/tenderbook/Coded", "find", "([Lcom/example/tenderbook/tenderbook/Coded;Ljava/lang/String;)Ljava/util/Optional;"⟩ : MethodName) prog_4_method_2_code 6 (some (.object "java/util/Optional")) :: ws) ({ frames := 3, cells := 1, slots := 1, locals := 38 } : Room)) (fun a U => a = #[(.ref a1), (.ref a2)] ∧ Z.Warmed39 U.vm ∧ U.heap = h0) (fun _ _ _ _ _ => True) (fun _ U o U' => ∃ rv Lq, o = .returned rv ∧ Q_rmFd1 Z a1 a2 cs kv s0 s1 s2 t0 v0 kv0 t1 v1 kv1 va ka h0 n0 rv U'.heap Lq ∧ FrameEnd U o U' Lq ({ frames := 3, cells := 1, slots := 1, locals := 38 } : Room).cells ({ frames := 3, cells := 1, slots := 1, locals := 38 } : Room).slots) := by
  refine MetFree.of_bodySF (plainFor_of_name pn_9) hisR ?_
  intro p e s m args below meth c s₁ Bd hml0 hP hK
  obtain ⟨rfl, hZ, hh⟩ := hP
  have hx := Bd.exec
  have hby := Bd.bytes
  have hml : c.maxLocals = 6 := hml0
  have hown : s.vm.findClass "com/example/tenderbook/tenderbook/Coded" = some m.cls := findClass_of_methodNamed Bd.named
  have hnm := (name_of_methodNamed Bd.named Bd.method).1
  have X0 : Stand p l e ({ frames := 3, cells := 1, slots := 1, locals := 38 } : Room) s m #[(.ref a1), (.ref a2)] below meth c s₁ [] 0 0 := Stand.of_body Bd
  have e0 : s₁.heap = h0 := by rw [← hh, Bd.state]; rfl
  have N0 := Fr.nil n0
  refine of_go (ef_rmFd1 m a1 a2) ?_
  refine Go.step (T' := s₁) (f' := (mkF m 1 #[.val (.ref a1), .val (.ref a2), .unset, .unset, .unset, .unset] [(.ref a1)])) (fun _ k => XS.aloadN X0.here hx rfl (hb hby d9_0) rfl rfl k) ?_
  refine Go.step (T' := s₁) (f' := (mkF m 2 #[.val (.ref a1), .val (.ref a2), .val (.ref a1), .unset, .unset, .unset] [])) (fun _ k => XS.astoreN X0.here hx rfl (hb hby d9_1) rfl rfl (l' := #[.val (.ref a1), .val (.ref a2), .val (.ref a1), .unset, .unset, .unset]) rfl k) ?_
  refine Go.step (T' := s₁) (f' := (mkF m 3 #[.val (.ref a1), .val (.ref a2), .val (.ref a1), .unset, .unset, .unset] [(.ref a1)])) (fun _ k => XS.aloadN X0.here hx rfl (hb hby d9_2) rfl rfl k) ?_
  obtain ⟨cl1, Ar1, qc1, Sz1, Nn1, Hs1, Gf1⟩ := id V_a1
  have hlen1 := X0.arraylength hx (by rw [e0]; exact Ar1.1) (State.isArrayOf_alike hZ.alike Ar1.2.1) (g := (mkF m 3 #[.val (.ref a1), .val (.ref a2), .val (.ref a1), .unset, .unset, .unset] [(.ref a1)])) rfl rfl (hb hby d9_3)
  rw [len_of Sz1 Nn1] at hlen1
  refine Go.step (T' := s₁) (f' := (mkF m 4 #[.val (.ref a1), .val (.ref a2), .val (.ref a1), .unset, .unset, .unset] [(.int (3 : Int32))])) (fun _ k => hlen1 _ k) ?_
  refine Go.step (T' := s₁) (f' := (mkF m 5 #[.val (.ref a1), .val (.ref a2), .val (.ref a1), .val (.int (3 : Int32)), .unset, .unset] [])) (fun _ k => XS.istoreN X0.here hx rfl (hb hby d9_4) rfl (l' := #[.val (.ref a1), .val (.ref a2), .val (.ref a1), .val (.int (3 : Int32)), .unset, .unset]) rfl k) ?_
  refine Go.step (T' := s₁) (f' := (mkF m 6 #[.val (.ref a1), .val (.ref a2), .val (.ref a1), .val (.int (3 : Int32)), .unset, .unset] [(.int (0 : Int32))])) (fun _ k => XS.iconst X0.here hx rfl (hb hby d9_5) k) ?_
  refine Go.step (T' := s₁) (f' := (mkF m 8 #[.val (.ref a1), .val (.ref a2), .val (.ref a1), .val (.int (3 : Int32)), .val (.int (0 : Int32)), .unset] [])) (fun _ k => XS.istore X0.here hx rfl (hb hby d9_6) rfl (l' := #[.val (.ref a1), .val (.ref a2), .val (.ref a1), .val (.int (3 : Int32)), .val (.int (0 : Int32)), .unset]) rfl k) ?_
  refine Go.step (T' := s₁) (f' := (mkF m 10 #[.val (.ref a1), .val (.ref a2), .val (.ref a1), .val (.int (3 : Int32)), .val (.int (0 : Int32)), .unset] [(.int (0 : Int32))])) (fun _ k => XS.iload X0.here hx rfl (hb hby d9_8) rfl k) ?_
  refine Go.step (T' := s₁) (f' := (mkF m 11 #[.val (.ref a1), .val (.ref a2), .val (.ref a1), .val (.int (3 : Int32)), .val (.int (0 : Int32)), .unset] [(.int (3 : Int32)), (.int (0 : Int32))])) (fun _ k => XS.iloadN X0.here hx rfl (hb hby d9_10) rfl k) ?_
  refine Go.step (T' := s₁) (f' := (mkF m 14 #[.val (.ref a1), .val (.ref a2), .val (.ref a1), .val (.int (3 : Int32)), .val (.int (0 : Int32)), .unset] [])) (fun _ k => XS.icmpNo X0.here hx rfl (hb hby d9_11) rfl (tlt (by decide : (0 : Int32) < (3 : Int32))).2.1 k) ?_
  refine Go.step (T' := s₁) (f' := (mkF m 15 #[.val (.ref a1), .val (.ref a2), .val (.ref a1), .val (.int (3 : Int32)), .val (.int (0 : Int32)), .unset] [(.ref a1)])) (fun _ k => XS.aloadN X0.here hx rfl (hb hby d9_14) rfl rfl k) ?_
  refine Go.step (T' := s₁) (f' := (mkF m 17 #[.val (.ref a1), .val (.ref a2), .val (.ref a1), .val (.int (3 : Int32)), .val (.int (0 : Int32)), .unset] [(.int (0 : Int32)), (.ref a1)])) (fun _ k => XS.iload X0.here hx rfl (hb hby d9_15) rfl k) ?_
  obtain ⟨cl2, Ar2, qc2, Sz2, Nn2, Hs2, Gf2⟩ := id V_a1
  have hin3 : ¬ ((0 : Int32) < 0 ∨ cl2.slots.size ≤ ((0 : Int32)).toNatClampNeg) := (inb_of Sz2 ⟨by decide, by decide⟩)
  have hat3 : cl2.slots[((0 : Int32)).toNatClampNeg]? = some (.ref s0) := Has.at Hs2 hin3 rfl
  refine Go.step (T' := s₁) (f' := (mkF m 18 #[.val (.ref a1), .val (.ref a2), .val (.ref a1), .val (.int (3 : Int32)), .val (.int (0 : Int32)), .unset] [(.ref s0)])) (fun _ k => X0.aaload hx (j := (0 : Int32)) (v := (.ref s0)) (by rw [e0]; exact Ar2.1) (State.isArrayOf_alike hZ.alike Ar2.2.1) rfl Ar2.2.2 hin3 hat3 (g := (mkF m 17 #[.val (.ref a1), .val (.ref a2), .val (.ref a1), .val (.int (3 : Int32)), .val (.int (0 : Int32)), .unset] [(.int (0 : Int32)), (.ref a1)])) rfl rfl (hb hby d9_17) _ k) ?_
  refine Go.step (T' := s₁) (f' := (mkF m 20 #[.val (.ref a1), .val (.ref a2), .val (.ref a1), .val (.int (3 : Int32)), .val (.int (0 : Int32)), .val (.ref s0)] [])) (fun _ k => XS.astore X0.here hx rfl (hb hby d9_18) rfl rfl (l' := #[.val (.ref a1), .val (.ref a2), .val (.ref a1), .val (.int (3 : Int32)), .val (.int (0 : Int32)), .val (.ref s0)]) rfl k) ?_
  refine Go.step (T' := s₁) (f' := (mkF m 22 #[.val (.ref a1), .val (.ref a2), .val (.ref a1), .val (.int (3 : Int32)), .val (.int (0 : Int32)), .val (.ref s0)] [(.ref s0)])) (fun _ k => XS.aload X0.here hx rfl (hb hby d9_20) rfl rfl k) ?_
  obtain ⟨cq4, kq4, q4a, q4b, q4c⟩ := isOf hZ e0 E_s0
  obtain ⟨_, _, ⟨T4, L4, kk4, nn4⟩, -, X4, ⟨Lc4, hQ4, lq4, yq4, zq4⟩, st4⟩ := X0.interfaceBack hx (xi := (⟨"com/example/tenderbook/tenderbook/Coded", "code", "()Ljava/lang/String;"⟩ : MethodName)) (y := (⟨"com/example/tenderbook/tenderbook/Role", "code", "()Ljava/lang/String;"⟩ : MethodName)) hown (mvT hZ (hw _ (List.mem_of_getElem? (i := 58) rfl))) (mvT hZ (hw _ (List.mem_of_getElem? (i := 59) rfl))) (mvT hZ (hw _ (List.mem_of_getElem? (i := 60) rfl))) (mvT hZ (hw _ (List.mem_of_getElem? (i := 61) rfl))) (mvT hZ (hw _ (List.mem_of_getElem? (i := 62) rfl))) (mvT hZ (hw _ (List.mem_of_getElem? (i := 63) rfl))) (mvT hZ (hw _ (List.mem_of_getElem? (i := 64) rfl))) (mvT hZ (hw _ (List.mem_of_getElem? (i := 65) rfl))) (by decide) (backOf (W := 0) (rm10 l Z a0 hw [] s0 t0 h0 n0 Z0 F_code_s0) hZ (hw _ (List.mem_of_getElem? (i := 66) rfl)) (hw _ (List.mem_of_getElem? (i := 3) rfl)) (by decide) (by decide)) q4a q4b q4c (g := (mkF m 22 #[.val (.ref a1), .val (.ref a2), .val (.ref a1), .val (.int (3 : Int32)), .val (.int (0 : Int32)), .val (.ref s0)] [(.ref s0)])) rfl (by rw [hml]; rfl) (Steps.refl _) (argsL := []) (rest := []) (lenOf pd_7 rfl) rfl (by show 2 * 0 + _ ≤ _; exact Nat.le_of_eq rfl) (hb hby d9_22) (fun _ _ => ⟨rfl, e0, (by decide : 0 + 0 ≤ _), (by decide : 0 + 0 ≤ _)⟩)
  dsimp only [Pt.U, Pt.locs, Pt.cells, Pt.slots] at X4 lq4 yq4 zq4 st4 hQ4
  subst yq4 zq4
  obtain ⟨rfl, Nq4, eh4⟩ := hQ4
  have N4 : Fr n0 L4 := by rw [lq4]; exact Fr.app N0 Nq4
  refine Go.step (T' := T4) (f' := (mkF m 27 #[.val (.ref a1), .val (.ref a2), .val (.ref a1), .val (.int (3 : Int32)), .val (.int (0 : Int32)), .val (.ref s0)] [(.ref t0)])) (fun _ k => st4.trans k) ?_
  refine Go.step (T' := T4) (f' := (mkF m 28 #[.val (.ref a1), .val (.ref a2), .val (.ref a1), .val (.int (3 : Int32)), .val (.int (0 : Int32)), .val (.ref s0)] [(.ref a2), (.ref t0)])) (fun _ k => XS.aloadN X4.here hx rfl (hb hby d9_27) rfl rfl k) ?_
  obtain ⟨cq5, kq5, q5a, q5b, q5c⟩ := isOf hZ eh4 E_t0
  obtain ⟨_, _, ⟨T5, L5, kk5, nn5⟩, -, X5, ⟨Lc5, hQ5, lq5, yq5, zq5⟩, st5⟩ := X4.virtualBack hx (y := (⟨"java/lang/String", "equals", "(Ljava/lang/Object;)Z"⟩ : MethodName)) (z := (⟨"java/lang/String", "equals", "(Ljava/lang/Object;)Z"⟩ : MethodName)) hown (mvT hZ (hw _ (List.mem_of_getElem? (i := 69) rfl))) (mvT hZ (hw _ (List.mem_of_getElem? (i := 70) rfl))) (notFace_of_selects (args := #[]) (mvT hZ (hw _ (List.mem_of_getElem? (i := 72) rfl)))) (mvT hZ (hw _ (List.mem_of_getElem? (i := 72) rfl))) (mvT hZ (hw _ (List.mem_of_getElem? (i := 71) rfl))) (by decide) (backOf (W := 0) (rmSe8_9 l Z a0 hw [] t0 a2 cs v0 va kv0 ka (111 : Int32) (112 : Int32) (101 : Int32) (114 : Int32) (97 : Int32) (116 : Int32) (111 : Int32) (114 : Int32) ((105 : Int32).toInt8.toInt32) ((110 : Int32).toInt8.toInt32) ((105 : Int32).toInt8.toInt32) ((116 : Int32).toInt8.toInt32) ((105 : Int32).toInt8.toInt32) ((97 : Int32).toInt8.toInt32) ((116 : Int32).toInt8.toInt32) ((111 : Int32).toInt8.toInt32) ((114 : Int32).toInt8.toInt32) h0 n0 Z0 E_t0 F_coder_t0 F_value_t0 V_v0 E_a2 F_coder_a2 F_value_a2 V_va O0 S_COMPACT_STRINGS hcs hne0) hZ (hw _ (List.mem_of_getElem? (i := 73) rfl)) (hw _ (List.mem_of_getElem? (i := 7) rfl)) (by decide) (by decide)) q5a q5c (g := (mkF m 28 #[.val (.ref a1), .val (.ref a2), .val (.ref a1), .val (.int (3 : Int32)), .val (.int (0 : Int32)), .val (.ref s0)] [(.ref a2), (.ref t0)])) rfl (by rw [hml]; rfl) (Steps.refl _) (argsL := [(.ref a2)]) (rest := []) (lenOf pd_8 rfl) rfl (by show 2 * 0 + _ ≤ _; exact Nat.le_of_eq rfl) (hb hby d9_28) (fun _ _ => ⟨rfl, eh4, (by decide : 0 + 0 ≤ _), (by decide : 0 + 0 ≤ _)⟩)
  dsimp only [Pt.U, Pt.locs, Pt.cells, Pt.slots] at X5 lq5 yq5 zq5 st5 hQ5
  subst yq5 zq5
  obtain ⟨rfl, Nq5, eh5⟩ := hQ5
  have N5 : Fr n0 L5 := by rw [lq5]; exact Fr.app N4 Nq5
  refine Go.step (T' := T5) (f' := (mkF m 31 #[.val (.ref a1), .val (.ref a2), .val (.ref a1), .val (.int (3 : Int32)), .val (.int (0 : Int32)), .val (.ref s0)] [(.int (0 : Int32))])) (fun _ k => st5.trans k) ?_
  refine Go.step (T' := T5) (f' := (mkF m 40 #[.val (.ref a1), .val (.ref a2), .val (.ref a1), .val (.int (3 : Int32)), .val (.int (0 : Int32)), .val (.ref s0)] [])) (fun _ k => XS.ifYes X5.here hx rfl (pc0 := 31) (pc' := 40) rfl (hb hby d9_31) rfl ((if0 _ _).trans (teq (by decide : (0 : Int32) = (0 : Int32))).1) (by decide) (by decide) k) ?_
  refine Go.step (T' := T5) (f' := (mkF m 43 #[.val (.ref a1), .val (.ref a2), .val (.ref a1), .val (.int (3 : Int32)), .val (.int (1 : Int32)), .val (.ref s0)] [])) (fun _ k => XS.iinc X5.here hx rfl (hb hby d9_40) rfl (l' := #[.val (.ref a1), .val (.ref a2), .val (.ref a1), .val (.int (3 : Int32)), .val (.int (1 : Int32)), .val (.ref s0)]) rfl k) ?_
  refine Go.step (T' := T5) (f' := (mkF m 8 #[.val (.ref a1), .val (.ref a2), .val (.ref a1), .val (.int (3 : Int32)), .val (.int (1 : Int32)), .val (.ref s0)] [])) (fun _ k => XS.goto X5.here hx rfl (pc0 := 43) (pc' := 8) rfl (hb hby d9_43) (by decide) (by decide) k) ?_
  refine Go.step (T' := T5) (f' := (mkF m 10 #[.val (.ref a1), .val (.ref a2), .val (.ref a1), .val (.int (3 : Int32)), .val (.int (1 : Int32)), .val (.ref s0)] [(.int (1 : Int32))])) (fun _ k => XS.iload X5.here hx rfl (hb hby d9_8) rfl k) ?_
  refine Go.step (T' := T5) (f' := (mkF m 11 #[.val (.ref a1), .val (.ref a2), .val (.ref a1), .val (.int (3 : Int32)), .val (.int (1 : Int32)), .val (.ref s0)] [(.int (3 : Int32)), (.int (1 : Int32))])) (fun _ k => XS.iloadN X5.here hx rfl (hb hby d9_10) rfl k) ?_
  refine Go.step (T' := T5) (f' := (mkF m 14 #[.val (.ref a1), .val (.ref a2), .val (.ref a1), .val (.int (3 : Int32)), .val (.int (1 : Int32)), .val (.ref s0)] [])) (fun _ k => XS.icmpNo X5.here hx rfl (hb hby d9_11) rfl (tlt (by decide : (1 : Int32) < (3 : Int32))).2.1 k) ?_
  refine Go.step (T' := T5) (f' := (mkF m 15 #[.val (.ref a1), .val (.ref a2), .val (.ref a1), .val (.int (3 : Int32)), .val (.int (1 : Int32)), .val (.ref s0)] [(.ref a1)])) (fun _ k => XS.aloadN X5.here hx rfl (hb hby d9_14) rfl rfl k) ?_
  refine Go.step (T' := T5) (f' := (mkF m 17 #[.val (.ref a1), .val (.ref a2), .val (.ref a1), .val (.int (3 : Int32)), .val (.int (1 : Int32)), .val (.ref s0)] [(.int (1 : Int32)), (.ref a1)])) (fun _ k => XS.iload X5.here hx rfl (hb hby d9_15) rfl k) ?_
  obtain ⟨cl6, Ar6, qc6, Sz6, Nn6, Hs6, Gf6⟩ := id V_a1
  have hin7 : ¬ ((1 : Int32) < 0 ∨ cl6.slots.size ≤ ((1 : Int32)).toNatClampNeg) := (inb_of Sz6 ⟨by decide, by decide⟩)
  have hat7 : cl6.slots[((1 : Int32)).toNatClampNeg]? = some (.ref s1) := Has.at Hs6 hin7 rfl
  refine Go.step (T' := T5) (f' := (mkF m 18 #[.val (.ref a1), .val (.ref a2), .val (.ref a1), .val (.int (3 : Int32)), .val (.int (1 : Int32)), .val (.ref s0)] [(.ref s1)])) (fun _ k => X5.aaload hx (j := (1 : Int32)) (v := (.ref s1)) (by rw [eh5]; exact Ar6.1) (State.isArrayOf_alike hZ.alike Ar6.2.1) rfl Ar6.2.2 hin7 hat7 (g := (mkF m 17 #[.val (.ref a1), .val (.ref a2), .val (.ref a1), .val (.int (3 : Int32)), .val (.int (1 : Int32)), .val (.ref s0)] [(.int (1 : Int32)), (.ref a1)])) rfl rfl (hb hby d9_17) _ k) ?_
  refine Go.step (T' := T5) (f' := (mkF m 20 #[.val (.ref a1), .val (.ref a2), .val (.ref a1), .val (.int (3 : Int32)), .val (.int (1 : Int32)), .val (.ref s1)] [])) (fun _ k => XS.astore X5.here hx rfl (hb hby d9_18) rfl rfl (l' := #[.val (.ref a1), .val (.ref a2), .val (.ref a1), .val (.int (3 : Int32)), .val (.int (1 : Int32)), .val (.ref s1)]) rfl k) ?_
  refine Go.step (T' := T5) (f' := (mkF m 22 #[.val (.ref a1), .val (.ref a2), .val (.ref a1), .val (.int (3 : Int32)), .val (.int (1 : Int32)), .val (.ref s1)] [(.ref s1)])) (fun _ k => XS.aload X5.here hx rfl (hb hby d9_20) rfl rfl k) ?_
  obtain ⟨cq8, kq8, q8a, q8b, q8c⟩ := isOf hZ eh5 E_s1
  obtain ⟨_, _, ⟨T8, L8, kk8, nn8⟩, -, X8, ⟨Lc8, hQ8, lq8, yq8, zq8⟩, st8⟩ := X5.interfaceBack hx (xi := (⟨"com/example/tenderbook/tenderbook/Coded", "code", "()Ljava/lang/String;"⟩ : MethodName)) (y := (⟨"com/example/tenderbook/tenderbook/Role", "code", "()Ljava/lang/String;"⟩ : MethodName)) hown (mvT hZ (hw _ (List.mem_of_getElem? (i := 58) rfl))) (mvT hZ (hw _ (List.mem_of_getElem? (i := 59) rfl))) (mvT hZ (hw _ (List.mem_of_getElem? (i := 60) rfl))) (mvT hZ (hw _ (List.mem_of_getElem? (i := 61) rfl))) (mvT hZ (hw _ (List.mem_of_getElem? (i := 62) rfl))) (mvT hZ (hw _ (List.mem_of_getElem? (i := 63) rfl))) (mvT hZ (hw _ (List.mem_of_getElem? (i := 64) rfl))) (mvT hZ (hw _ (List.mem_of_getElem? (i := 65) rfl))) (by decide) (backOf (W := 0) (rm10 l Z a0 hw [] s1 t1 h0 n0 Z0 F_code_s1) hZ (hw _ (List.mem_of_getElem? (i := 66) rfl)) (hw _ (List.mem_of_getElem? (i := 3) rfl)) (by decide) (by decide)) q8a q8b q8c (g := (mkF m 22 #[.val (.ref a1), .val (.ref a2), .val (.ref a1), .val (.int (3 : Int32)), .val (.int (1 : Int32)), .val (.ref s1)] [(.ref s1)])) rfl (by rw [hml]; rfl) (Steps.refl _) (argsL := []) (rest := []) (lenOf pd_7 rfl) rfl (by show 2 * 0 + _ ≤ _; exact Nat.le_of_eq rfl) (hb hby d9_22) (fun _ _ => ⟨rfl, eh5, (by decide : 0 + 0 ≤ _), (by decide : 0 + 0 ≤ _)⟩)
  dsimp only [Pt.U, Pt.locs, Pt.cells, Pt.slots] at X8 lq8 yq8 zq8 st8 hQ8
  subst yq8 zq8
  obtain ⟨rfl, Nq8, eh8⟩ := hQ8
  have N8 : Fr n0 L8 := by rw [lq8]; exact Fr.app N5 Nq8
  refine Go.step (T' := T8) (f' := (mkF m 27 #[.val (.ref a1), .val (.ref a2), .val (.ref a1), .val (.int (3 : Int32)), .val (.int (1 : Int32)), .val (.ref s1)] [(.ref t1)])) (fun _ k => st8.trans k) ?_
  refine Go.step (T' := T8) (f' := (mkF m 28 #[.val (.ref a1), .val (.ref a2), .val (.ref a1), .val (.int (3 : Int32)), .val (.int (1 : Int32)), .val (.ref s1)] [(.ref a2), (.ref t1)])) (fun _ k => XS.aloadN X8.here hx rfl (hb hby d9_27) rfl rfl k) ?_
  obtain ⟨cq9, kq9, q9a, q9b, q9c⟩ := isOf hZ eh8 E_t1
  obtain ⟨_, _, ⟨T9, L9, kk9, nn9⟩, -, X9, ⟨Lc9, hQ9, lq9, yq9, zq9⟩, st9⟩ := X8.virtualBack hx (y := (⟨"java/lang/String", "equals", "(Ljava/lang/Object;)Z"⟩ : MethodName)) (z := (⟨"java/lang/String", "equals", "(Ljava/lang/Object;)Z"⟩ : MethodName)) hown (mvT hZ (hw _ (List.mem_of_getElem? (i := 69) rfl))) (mvT hZ (hw _ (List.mem_of_getElem? (i := 70) rfl))) (notFace_of_selects (args := #[]) (mvT hZ (hw _ (List.mem_of_getElem? (i := 72) rfl)))) (mvT hZ (hw _ (List.mem_of_getElem? (i := 72) rfl))) (mvT hZ (hw _ (List.mem_of_getElem? (i := 71) rfl))) (by decide) (backOf (W := 0) (rmSe9_9 l Z a0 hw [] t1 a2 cs v1 va kv1 ka (105 : Int32) (110 : Int32) (105 : Int32) (116 : Int32) (105 : Int32) (97 : Int32) (116 : Int32) (111 : Int32) (114 : Int32) h0 n0 Z0 E_t1 F_coder_t1 F_value_t1 V_v1 E_a2 F_coder_a2 F_value_a2 V_va O0 S_COMPACT_STRINGS hcs hne1) hZ (hw _ (List.mem_of_getElem? (i := 73) rfl)) (hw _ (List.mem_of_getElem? (i := 7) rfl)) (by decide) (by decide)) q9a q9c (g := (mkF m 28 #[.val (.ref a1), .val (.ref a2), .val (.ref a1), .val (.int (3 : Int32)), .val (.int (1 : Int32)), .val (.ref s1)] [(.ref a2), (.ref t1)])) rfl (by rw [hml]; rfl) (Steps.refl _) (argsL := [(.ref a2)]) (rest := []) (lenOf pd_8 rfl) rfl (by show 2 * 0 + _ ≤ _; exact Nat.le_of_eq rfl) (hb hby d9_28) (fun _ _ => ⟨rfl, eh8, (by decide : 0 + 0 ≤ _), (by decide : 0 + 0 ≤ _)⟩)
  dsimp only [Pt.U, Pt.locs, Pt.cells, Pt.slots] at X9 lq9 yq9 zq9 st9 hQ9
  subst yq9 zq9
  obtain ⟨rfl, Nq9, eh9⟩ := hQ9
  have N9 : Fr n0 L9 := by rw [lq9]; exact Fr.app N8 Nq9
  refine Go.step (T' := T9) (f' := (mkF m 31 #[.val (.ref a1), .val (.ref a2), .val (.ref a1), .val (.int (3 : Int32)), .val (.int (1 : Int32)), .val (.ref s1)] [(.int (1 : Int32))])) (fun _ k => st9.trans k) ?_
  refine Go.step (T' := T9) (f' := (mkF m 34 #[.val (.ref a1), .val (.ref a2), .val (.ref a1), .val (.int (3 : Int32)), .val (.int (1 : Int32)), .val (.ref s1)] [])) (fun _ k => XS.ifNo X9.here hx rfl (hb hby d9_31) rfl ((if0 _ _).trans (feq (by decide : ¬ ((1 : Int32) = (0 : Int32)))).1) k) ?_
  refine Go.step (T' := T9) (f' := (mkF m 36 #[.val (.ref a1), .val (.ref a2), .val (.ref a1), .val (.int (3 : Int32)), .val (.int (1 : Int32)), .val (.ref s1)] [(.ref s1)])) (fun _ k => XS.aload X9.here hx rfl (hb hby d9_34) rfl rfl k) ?_
  obtain ⟨_, _, ⟨T10, L10, kk10, nn10⟩, -, X10, ⟨Lc10, hQ10, lq10, yq10, zq10⟩, st10⟩ := Jvm.LawKit.callS X9 hx (y := (⟨"java/util/Optional", "of", "(Ljava/lang/Object;)Ljava/util/Optional;"⟩ : MethodName)) hown (mvT hZ (hw _ (List.mem_of_getElem? (i := 79) rfl))) (mvT hZ (hw _ (List.mem_of_getElem? (i := 80) rfl))) (mvT hZ (hw _ (List.mem_of_getElem? (i := 81) rfl))) (mvT hZ (hw _ (List.mem_of_getElem? (i := 82) rfl))) (by decide) (backOf (W := 0) (rm13 l Z a0 hw [] s1 h0 n0 Z0 ) hZ (hw _ (List.mem_of_getElem? (i := 82) rfl)) (hw _ (List.mem_of_getElem? (i := 81) rfl)) (by decide) (by decide)) (g := (mkF m 36 #[.val (.ref a1), .val (.ref a2), .val (.ref a1), .val (.int (3 : Int32)), .val (.int (1 : Int32)), .val (.ref s1)] [(.ref s1)])) rfl (by rw [hml]; rfl) (argsL := [(.ref s1)]) (rest := []) (lenOf pd_9 rfl) rfl (by show 2 * 0 + _ ≤ _; exact Nat.le_of_eq rfl) (hb hby d9_36) (fun _ _ => ⟨rfl, eh9, (by decide : 0 + 1 ≤ _), (by decide : 0 + 1 ≤ _)⟩)
  dsimp only [Pt.U, Pt.locs, Pt.cells, Pt.slots] at X10 lq10 yq10 zq10 st10 hQ10
  subst yq10 zq10
  obtain ⟨q_10, rfl, Nq10, Kq10, r10_0, r10_1, r10_2⟩ := hQ10
  have N10 : Fr n0 L10 := by rw [lq10]; exact Fr.app N9 Nq10
  have g_q_10 : n0 ≤ q_10 := Nat.le_trans Z0 r10_0
  have sz_q_10 : h0.size ≤ q_10 := Nat.le_trans (Keep.refl h0 []).1 r10_0
  have Z11 : n0 ≤ T10.heap.size := Nat.le_trans Z0 Kq10.1
  have O11 : Old Z n0 T10.heap := O0.keep Kq10 all0
  have K11 : Keep h0 T10.heap [] := (Keep.refl h0 []).trans Kq10 all0
  refine Go.step (T' := T10) (f' := (mkF m 39 #[.val (.ref a1), .val (.ref a2), .val (.ref a1), .val (.int (3 : Int32)), .val (.int (1 : Int32)), .val (.ref s1)] [(.ref q_10)])) st10 ?_
  refine goA X10 hx Bd.returns rfl rfl Bd.notSynchronized (hb hby d9_39) ?_ (by decide) (by decide)
  show Q_rmFd1 Z a1 a2 cs kv s0 s1 s2 t0 v0 kv0 t1 v1 kv1 va ka h0 n0 _ T10.heap _
  exact ⟨q_10, rfl, N10, K11, sz_q_10, r10_1, r10_2⟩
theorem ef_rmOc1 (m : MethodId) (a1 : Addr) : entryFrame m #[(.ref a1)] 2 = mkF m 0 #[.val (.ref a1), .unset] [] := by first | (simp [entryFrame, mkF, argsToLocals, Value.category]; done) | rfl
def Q_rmOc1 (Z : State) (a1 : Addr) (cs : Int32) (kv : ClassId) (s0 : Addr) (s1 : Addr) (s2 : Addr) (t0 : Addr) (v0 : Addr) (kv0 : ClassId) (t1 : Addr) (v1 : Addr) (kv1 : ClassId) (va : Addr) (ka : ClassId) (sv : Addr) (h0 : Heap) (n0 : Nat) (rv : Option Value) (hq : Heap) (Lq : List Loc) : Prop := rv = some (.ref s1) ∧ Fr n0 Lq ∧ Keep h0 hq []
set_option maxRecDepth 65536 in
set_option maxHeartbeats 40000000 in
theorem rmOc1 (l : Launch) (Z : State) (a0 : Array Value) (hw : ∀ d ∈ tables_1, d.before a0 Z = true) (ws : List Jvm.Cond) (a1 : Addr) (cs : Int32) (kv : ClassId) (s0 : Addr) (s1 : Addr) (s2 : Addr) (t0 : Addr) (v0 : Addr) (kv0 : ClassId) (t1 : Addr) (v1 : Addr) (kv1 : ClassId) (va : Addr) (ka : ClassId) (sv : Addr) (h0 : Heap) (n0 : Nat) (Z0 : n0 ≤ h0.size) (E_sv : Exa Z h0 sv "[Lcom/example/tenderbook/tenderbook/Role;") (V_sv : Arv Z h0 sv kv (.object "com/example/tenderbook/tenderbook/Role") (3 : Int32) [(.ref s0), (.ref s1), (.ref s2)] .null) (E_s0 : Exa Z h0 s0 "com/example/tenderbook/tenderbook/Role") (F_code_s0 : Fld Z h0 s0 "com/example/tenderbook/tenderbook/Role" "code" "Ljava/lang/String;" (.ref t0)) (E_t0 : Exa Z h0 t0 "java/lang/String") (F_coder_t0 : Fld Z h0 t0 "java/lang/String" "coder" "B" (.int (0 : Int32))) (F_value_t0 : Fld Z h0 t0 "java/lang/String" "value" "[B" (.ref v0)) (V_v0 : Arv Z h0 v0 kv0 .byte (8 : Int32) [(.int (111 : Int32)), (.int (112 : Int32)), (.int (101 : Int32)), (.int (114 : Int32)), (.int (97 : Int32)), (.int (116 : Int32)), (.int (111 : Int32)), (.int (114 : Int32))] (.int (0 : Int32))) (E_s1 : Exa Z h0 s1 "com/example/tenderbook/tenderbook/Role") (F_code_s1 : Fld Z h0 s1 "com/example/tenderbook/tenderbook/Role" "code" "Ljava/lang/String;" (.ref t1)) (E_t1 : Exa Z h0 t1 "java/lang/String") (F_coder_t1 : Fld Z h0 t1 "java/lang/String" "coder" "B" (.int (0 : Int32))) (F_value_t1 : Fld Z h0 t1 "java/lang/String" "value" "[B" (.ref v1)) (V_v1 : Arv Z h0 v1 kv1 .byte (9 : Int32) [(.int (105 : Int32)), (.int (110 : Int32)), (.int (105 : Int32)), (.int (116 : Int32)), (.int (105 : Int32)), (.int (97 : Int32)), (.int (116 : Int32)), (.int (111 : Int32)), (.int (114 : Int32))] (.int (0 : Int32))) (E_a1 : Exa Z h0 a1 "java/lang/String") (F_coder_a1 : Fld Z h0 a1 "java/lang/String" "coder" "B" (.int (0 : Int32))) (F_value_a1 : Fld Z h0 a1 "java/lang/String" "value" "[B" (.ref va)) (V_va : Arv Z h0 va ka .byte (9 : Int32) [(.int ((105 : Int32).toInt8.toInt32)), (.int ((110 : Int32).toInt8.toInt32)), (.int ((105 : Int32).toInt8.toInt32)), (.int ((116 : Int32).toInt8.toInt32)), (.int ((105 : Int32).toInt8.toInt32)), (.int ((97 : Int32).toInt8.toInt32)), (.int ((116 : Int32).toInt8.toInt32)), (.int ((111 : Int32).toInt8.toInt32)), (.int ((114 : Int32).toInt8.toInt32))] (.int (0 : Int32))) (O0 : Old Z n0 h0) (S_COMPACT_STRINGS : Sta Z Z.heap "java/lang/String" "COMPACT_STRINGS" "Z" (.int cs)) (hcs : ¬ cs = (0 : Int32)) (S__VALUES : Sta Z Z.heap "com/example/tenderbook/tenderbook/Role" "$VALUES" "[Lcom/example/tenderbook/tenderbook/Role;" (.ref sv)) (hne0 : t0 ≠ a1) (hne1 : t1 ≠ a1) :
    MetFree l (⟨"com/example/tenderbook/tenderbook/Role", "ofCode", "(Ljava/lang/String;)Lcom/example/tenderbook/tenderbook/Role;"⟩ : MethodName) (head1 (Jvm.Cond.code (⟨"com/example/tenderbook/tenderbook/Role", "ofCode", "(Ljava/lang/String;)Lcom/example/tenderbook/tenderbook/Role;"⟩ : MethodName) prog_17_method_5_code 2 (some (.object "com/example/tenderbook/tenderbook/Role")) :: ws) ({ frames := 4, cells := 2, slots := 4, locals := 55 } : Room)) (fun a U => a = #[(.ref a1)] ∧ Z.Warmed39 U.vm ∧ U.heap = h0) (fun _ _ _ _ _ => True) (fun _ U o U' => ∃ rv Lq, o = .returned rv ∧ Q_rmOc1 Z a1 cs kv s0 s1 s2 t0 v0 kv0 t1 v1 kv1 va ka sv h0 n0 rv U'.heap Lq ∧ FrameEnd U o U' Lq ({ frames := 4, cells := 2, slots := 4, locals := 55 } : Room).cells ({ frames := 4, cells := 2, slots := 4, locals := 55 } : Room).slots) := by
  refine MetFree.of_bodySF (plainFor_of_name pn_10) hisR ?_
  intro p e s m args below meth c s₁ Bd hml0 hP hK
  obtain ⟨rfl, hZ, hh⟩ := hP
  have hx := Bd.exec
  have hby := Bd.bytes
  have hml : c.maxLocals = 2 := hml0
  have hown : s.vm.findClass "com/example/tenderbook/tenderbook/Role" = some m.cls := findClass_of_methodNamed Bd.named
  have hnm := (name_of_methodNamed Bd.named Bd.method).1
  have X0 : Stand p l e ({ frames := 4, cells := 2, slots := 4, locals := 55 } : Room) s m #[(.ref a1)] below meth c s₁ [] 0 0 := Stand.of_body Bd
  have e0 : s₁.heap = h0 := by rw [← hh, Bd.state]; rfl
  have N0 := Fr.nil n0
  refine of_go (ef_rmOc1 m a1) ?_
  obtain ⟨_, _, ⟨T1, L1, kk1, nn1⟩, -, X1, ⟨Lc1, hQ1, lq1, yq1, zq1⟩, st1⟩ := Jvm.LawKit.callS X0 hx (y := (⟨"com/example/tenderbook/tenderbook/Role", "values", "()[Lcom/example/tenderbook/tenderbook/Role;"⟩ : MethodName)) hown (mvT hZ (hw _ (List.mem_of_getElem? (i := 37) rfl))) (mvT hZ (hw _ (List.mem_of_getElem? (i := 38) rfl))) (mvT hZ (hw _ (List.mem_of_getElem? (i := 3) rfl))) (mvT hZ (hw _ (List.mem_of_getElem? (i := 39) rfl))) (by decide) (backOf (W := 0) (rm8 l Z a0 hw [] sv kv s0 s1 s2 h0 n0 Z0 E_sv V_sv O0 S__VALUES) hZ (hw _ (List.mem_of_getElem? (i := 39) rfl)) (hw _ (List.mem_of_getElem? (i := 3) rfl)) (by decide) (by decide)) (g := (mkF m 0 #[.val (.ref a1), .unset] [])) rfl (by rw [hml]; rfl) (argsL := []) (rest := []) (lenOf pd_10 rfl) rfl (by show 2 * 0 + _ ≤ _; exact Nat.le_of_eq rfl) (hb hby d7_0) (fun _ _ => ⟨rfl, e0, (by decide : 0 + 1 ≤ _), (by decide : 0 + 3 ≤ _)⟩)
  dsimp only [Pt.U, Pt.locs, Pt.cells, Pt.slots] at X1 lq1 yq1 zq1 st1 hQ1
  subst yq1 zq1
  obtain ⟨b_1, rfl, Nq1, Kq1, r1_0, r1_1⟩ := hQ1
  have N1 : Fr n0 L1 := by rw [lq1]; exact Fr.app N0 Nq1
  have g_b_1 : n0 ≤ b_1 := Nat.le_trans Z0 r1_0
  have sz_b_1 : h0.size ≤ b_1 := Nat.le_trans (Keep.refl h0 []).1 r1_0
  have Z2 : n0 ≤ T1.heap.size := Nat.le_trans Z0 Kq1.1
  have O2 : Old Z n0 T1.heap := O0.keep Kq1 all0
  have K2 : Keep h0 T1.heap [] := (Keep.refl h0 []).trans Kq1 all0
  refine Go.step (T' := T1) (f' := (mkF m 3 #[.val (.ref a1), .unset] [(.ref b_1)])) st1 ?_
  refine Go.step (T' := T1) (f' := (mkF m 4 #[.val (.ref a1), .unset] [(.ref a1), (.ref b_1)])) (fun _ k => XS.aloadN X1.here hx rfl (hb hby d7_3) rfl rfl k) ?_
  have q4 : Exa Z T1.heap s0 "com/example/tenderbook/tenderbook/Role" := (E_s0.keep Kq1)
  have q5 : Fld Z T1.heap s0 "com/example/tenderbook/tenderbook/Role" "code" "Ljava/lang/String;" (.ref t0) := (F_code_s0.keep Kq1 nin0)
  have q6 : Exa Z T1.heap t0 "java/lang/String" := (E_t0.keep Kq1)
  have q7 : Fld Z T1.heap t0 "java/lang/String" "coder" "B" (.int (0 : Int32)) := (F_coder_t0.keep Kq1 nin0)
  have q8 : Fld Z T1.heap t0 "java/lang/String" "value" "[B" (.ref v0) := (F_value_t0.keep Kq1 nin0)
  have q9 : Arv Z T1.heap v0 kv0 .byte (8 : Int32) [(.int (111 : Int32)), (.int (112 : Int32)), (.int (101 : Int32)), (.int (114 : Int32)), (.int (97 : Int32)), (.int (116 : Int32)), (.int (111 : Int32)), (.int (114 : Int32))] (.int (0 : Int32)) := (V_v0.keep Kq1 nin0)
  have q10 : Exa Z T1.heap s1 "com/example/tenderbook/tenderbook/Role" := (E_s1.keep Kq1)
  have q11 : Fld Z T1.heap s1 "com/example/tenderbook/tenderbook/Role" "code" "Ljava/lang/String;" (.ref t1) := (F_code_s1.keep Kq1 nin0)
  have q12 : Exa Z T1.heap t1 "java/lang/String" := (E_t1.keep Kq1)
  have q13 : Fld Z T1.heap t1 "java/lang/String" "coder" "B" (.int (0 : Int32)) := (F_coder_t1.keep Kq1 nin0)
  have q14 : Fld Z T1.heap t1 "java/lang/String" "value" "[B" (.ref v1) := (F_value_t1.keep Kq1 nin0)
  have q15 : Arv Z T1.heap v1 kv1 .byte (9 : Int32) [(.int (105 : Int32)), (.int (110 : Int32)), (.int (105 : Int32)), (.int (116 : Int32)), (.int (105 : Int32)), (.int (97 : Int32)), (.int (116 : Int32)), (.int (111 : Int32)), (.int (114 : Int32))] (.int (0 : Int32)) := (V_v1.keep Kq1 nin0)
  have q16 : Exa Z T1.heap a1 "java/lang/String" := (E_a1.keep Kq1)
  have q17 : Fld Z T1.heap a1 "java/lang/String" "coder" "B" (.int (0 : Int32)) := (F_coder_a1.keep Kq1 nin0)
  have q18 : Fld Z T1.heap a1 "java/lang/String" "value" "[B" (.ref va) := (F_value_a1.keep Kq1 nin0)
  have q19 : Arv Z T1.heap va ka .byte (9 : Int32) [(.int ((105 : Int32).toInt8.toInt32)), (.int ((110 : Int32).toInt8.toInt32)), (.int ((105 : Int32).toInt8.toInt32)), (.int ((116 : Int32).toInt8.toInt32)), (.int ((105 : Int32).toInt8.toInt32)), (.int ((97 : Int32).toInt8.toInt32)), (.int ((116 : Int32).toInt8.toInt32)), (.int ((111 : Int32).toInt8.toInt32)), (.int ((114 : Int32).toInt8.toInt32))] (.int (0 : Int32)) := (V_va.keep Kq1 nin0)
  obtain ⟨_, _, ⟨T3, L3, kk3, nn3⟩, -, X3, ⟨Lc3, hQ3, lq3, yq3, zq3⟩, st3⟩ := Jvm.LawKit.callS X1 hx (y := (⟨"com/example/tenderbook/tenderbook/Coded", "find", "([Lcom/example/tenderbook/tenderbook/Coded;Ljava/lang/String;)Ljava/util/Optional;"⟩ : MethodName)) hown (mvT hZ (hw _ (List.mem_of_getElem? (i := 54) rfl))) (mvT hZ (hw _ (List.mem_of_getElem? (i := 55) rfl))) (mvT hZ (hw _ (List.mem_of_getElem? (i := 56) rfl))) (mvT hZ (hw _ (List.mem_of_getElem? (i := 57) rfl))) (by decide) (backOf (W := 0) (rmFd1 l Z a0 hw [] b_1 a1 cs kv s0 s1 s2 t0 v0 kv0 t1 v1 kv1 va ka T1.heap n0 Z2 r1_1 q4 q5 q6 q7 q8 q9 q10 q11 q12 q13 q14 q15 q16 q17 q18 q19 O2 S_COMPACT_STRINGS hcs hne0 hne1) hZ (hw _ (List.mem_of_getElem? (i := 57) rfl)) (hw _ (List.mem_of_getElem? (i := 56) rfl)) (by decide) (by decide)) (g := (mkF m 4 #[.val (.ref a1), .unset] [(.ref a1), (.ref b_1)])) rfl (by rw [hml]; rfl) (argsL := [(.ref b_1), (.ref a1)]) (rest := []) (lenOf pd_11 rfl) rfl (by show 2 * 0 + _ ≤ _; exact Nat.le_of_eq rfl) (hb hby d7_4) (fun _ _ => ⟨rfl, rfl, (by decide : 1 + 1 ≤ _), (by decide : 3 + 1 ≤ _)⟩)
  dsimp only [Pt.U, Pt.locs, Pt.cells, Pt.slots] at X3 lq3 yq3 zq3 st3 hQ3
  subst yq3 zq3
  obtain ⟨q_3, rfl, Nq3, Kq3, r3_0, r3_1, r3_2⟩ := hQ3
  have N3 : Fr n0 L3 := by rw [lq3]; exact Fr.app N1 Nq3
  have g_q_3 : n0 ≤ q_3 := Nat.le_trans Z2 r3_0
  have sz_q_3 : h0.size ≤ q_3 := Nat.le_trans K2.1 r3_0
  have Z20 : n0 ≤ T3.heap.size := Nat.le_trans Z2 Kq3.1
  have O20 : Old Z n0 T3.heap := O2.keep Kq3 all0
  have K20 : Keep h0 T3.heap [] := K2.trans Kq3 all0
  refine Go.step (T' := T3) (f' := (mkF m 7 #[.val (.ref a1), .unset] [(.ref q_3)])) st3 ?_
  refine Go.step (T' := T3) (f' := (mkF m 8 #[.val (.ref a1), .val (.ref q_3)] [])) (fun _ k => XS.astoreN X3.here hx rfl (hb hby d7_7) rfl rfl (l' := #[.val (.ref a1), .val (.ref q_3)]) rfl k) ?_
  refine Go.step (T' := T3) (f' := (mkF m 9 #[.val (.ref a1), .val (.ref q_3)] [(.ref q_3)])) (fun _ k => XS.aloadN X3.here hx rfl (hb hby d7_8) rfl rfl k) ?_
  obtain ⟨cq21, kq21, q21a, q21b, q21c⟩ := isOf hZ rfl r3_1
  obtain ⟨_, _, ⟨T21, L21, kk21, nn21⟩, -, X21, ⟨Lc21, hQ21, lq21, yq21, zq21⟩, st21⟩ := X3.virtualBack hx (y := (⟨"java/util/Optional", "isEmpty", "()Z"⟩ : MethodName)) (z := (⟨"java/util/Optional", "isEmpty", "()Z"⟩ : MethodName)) hown (mvT hZ (hw _ (List.mem_of_getElem? (i := 96) rfl))) (mvT hZ (hw _ (List.mem_of_getElem? (i := 97) rfl))) (notFace_of_selects (args := #[]) (mvT hZ (hw _ (List.mem_of_getElem? (i := 99) rfl)))) (mvT hZ (hw _ (List.mem_of_getElem? (i := 99) rfl))) (mvT hZ (hw _ (List.mem_of_getElem? (i := 98) rfl))) (by decide) (backOf (W := 0) (rm16 l Z a0 hw [] q_3 s1 T3.heap n0 Z20 r3_2) hZ (hw _ (List.mem_of_getElem? (i := 100) rfl)) (hw _ (List.mem_of_getElem? (i := 81) rfl)) (by decide) (by decide)) q21a q21c (g := (mkF m 9 #[.val (.ref a1), .val (.ref q_3)] [(.ref q_3)])) rfl (by rw [hml]; rfl) (Steps.refl _) (argsL := []) (rest := []) (lenOf pd_12 rfl) rfl (by show 2 * 0 + _ ≤ _; exact Nat.le_of_eq rfl) (hb hby d7_9) (fun _ _ => ⟨rfl, rfl, (by decide : 2 + 0 ≤ _), (by decide : 4 + 0 ≤ _)⟩)
  dsimp only [Pt.U, Pt.locs, Pt.cells, Pt.slots] at X21 lq21 yq21 zq21 st21 hQ21
  subst yq21 zq21
  obtain ⟨rfl, Nq21, eh21⟩ := hQ21
  have N21 : Fr n0 L21 := by rw [lq21]; exact Fr.app N3 Nq21
  refine Go.step (T' := T21) (f' := (mkF m 12 #[.val (.ref a1), .val (.ref q_3)] [(.int (0 : Int32))])) (fun _ k => st21.trans k) ?_
  refine Go.step (T' := T21) (f' := (mkF m 29 #[.val (.ref a1), .val (.ref q_3)] [])) (fun _ k => XS.ifYes X21.here hx rfl (pc0 := 12) (pc' := 29) rfl (hb hby d7_12) rfl ((if0 _ _).trans (teq (by decide : (0 : Int32) = (0 : Int32))).1) (by decide) (by decide) k) ?_
  refine Go.step (T' := T21) (f' := (mkF m 30 #[.val (.ref a1), .val (.ref q_3)] [(.ref q_3)])) (fun _ k => XS.aloadN X21.here hx rfl (hb hby d7_29) rfl rfl k) ?_
  obtain ⟨cq22, kq22, q22a, q22b, q22c⟩ := isOf hZ eh21 r3_1
  obtain ⟨_, _, ⟨T22, L22, kk22, nn22⟩, -, X22, ⟨Lc22, hQ22, lq22, yq22, zq22⟩, st22⟩ := X21.virtualBack hx (y := (⟨"java/util/Optional", "get", "()Ljava/lang/Object;"⟩ : MethodName)) (z := (⟨"java/util/Optional", "get", "()Ljava/lang/Object;"⟩ : MethodName)) hown (mvT hZ (hw _ (List.mem_of_getElem? (i := 101) rfl))) (mvT hZ (hw _ (List.mem_of_getElem? (i := 102) rfl))) (notFace_of_selects (args := #[]) (mvT hZ (hw _ (List.mem_of_getElem? (i := 104) rfl)))) (mvT hZ (hw _ (List.mem_of_getElem? (i := 104) rfl))) (mvT hZ (hw _ (List.mem_of_getElem? (i := 103) rfl))) (by decide) (backOf (W := 0) (rm17 l Z a0 hw [] q_3 s1 T3.heap n0 Z20 r3_2) hZ (hw _ (List.mem_of_getElem? (i := 105) rfl)) (hw _ (List.mem_of_getElem? (i := 81) rfl)) (by decide) (by decide)) q22a q22c (g := (mkF m 30 #[.val (.ref a1), .val (.ref q_3)] [(.ref q_3)])) rfl (by rw [hml]; rfl) (Steps.refl _) (argsL := []) (rest := []) (lenOf pd_13 rfl) rfl (by show 2 * 0 + _ ≤ _; exact Nat.le_of_eq rfl) (hb hby d7_30) (fun _ _ => ⟨rfl, eh21, (by decide : 2 + 0 ≤ _), (by decide : 4 + 0 ≤ _)⟩)
  dsimp only [Pt.U, Pt.locs, Pt.cells, Pt.slots] at X22 lq22 yq22 zq22 st22 hQ22
  subst yq22 zq22
  obtain ⟨rfl, Nq22, eh22⟩ := hQ22
  have N22 : Fr n0 L22 := by rw [lq22]; exact Fr.app N21 Nq22
  refine Go.step (T' := T22) (f' := (mkF m 33 #[.val (.ref a1), .val (.ref q_3)] [(.ref s1)])) (fun _ k => st22.trans k) ?_
  have q23 : Exa Z T3.heap s1 "com/example/tenderbook/tenderbook/Role" := (q10.keep Kq3)
  obtain ⟨T24, X24, e24, st24⟩ := castY X22 hx hZ hown (hw _ (List.mem_of_getElem? (i := 106) rfl)) eh22 (Ins.self q23) (g := (mkF m 33 #[.val (.ref a1), .val (.ref q_3)] [(.ref s1)])) rfl rfl (hb hby d7_33)
  refine Go.step (T' := T24) (f' := (mkF m 36 #[.val (.ref a1), .val (.ref q_3)] [(.ref s1)])) st24 ?_
  refine goA X24 hx Bd.returns rfl rfl Bd.notSynchronized (hb hby d7_36) ?_ (by decide) (by decide)
  show Q_rmOc1 Z a1 cs kv s0 s1 s2 t0 v0 kv0 t1 v1 kv1 va ka sv h0 n0 _ T24.heap _
  rw [e24]
  exact ⟨rfl, N22, K20⟩
theorem ef_rmFd2 (m : MethodId) (a1 : Addr) (a2 : Addr) : entryFrame m #[(.ref a1), (.ref a2)] 6 = mkF m 0 #[.val (.ref a1), .val (.ref a2), .unset, .unset, .unset, .unset] [] := by first | (simp [entryFrame, mkF, argsToLocals, Value.category]; done) | rfl
def Q_rmFd2 (Z : State) (a1 : Addr) (a2 : Addr) (cs : Int32) (kv : ClassId) (s0 : Addr) (s1 : Addr) (s2 : Addr) (t0 : Addr) (v0 : Addr) (kv0 : ClassId) (t1 : Addr) (v1 : Addr) (kv1 : ClassId) (t2 : Addr) (v2 : Addr) (kv2 : ClassId) (va : Addr) (ka : ClassId) (h0 : Heap) (n0 : Nat) (rv : Option Value) (hq : Heap) (Lq : List Loc) : Prop := ∃ q : Addr, rv = some (.ref q) ∧ Fr n0 Lq ∧ Keep h0 hq [] ∧ h0.size ≤ q ∧ Exa Z hq q "java/util/Optional" ∧ Fld Z hq q "java/util/Optional" "value" "Ljava/lang/Object;" (.ref s2)
set_option maxRecDepth 65536 in
set_option maxHeartbeats 40000000 in
theorem rmFd2 (l : Launch) (Z : State) (a0 : Array Value) (hw : ∀ d ∈ tables_1, d.before a0 Z = true) (ws : List Jvm.Cond) (a1 : Addr) (a2 : Addr) (cs : Int32) (kv : ClassId) (s0 : Addr) (s1 : Addr) (s2 : Addr) (t0 : Addr) (v0 : Addr) (kv0 : ClassId) (t1 : Addr) (v1 : Addr) (kv1 : ClassId) (t2 : Addr) (v2 : Addr) (kv2 : ClassId) (va : Addr) (ka : ClassId) (h0 : Heap) (n0 : Nat) (Z0 : n0 ≤ h0.size) (V_a1 : Arv Z h0 a1 kv (.object "com/example/tenderbook/tenderbook/Role") (3 : Int32) [(.ref s0), (.ref s1), (.ref s2)] .null) (E_s0 : Exa Z h0 s0 "com/example/tenderbook/tenderbook/Role") (F_code_s0 : Fld Z h0 s0 "com/example/tenderbook/tenderbook/Role" "code" "Ljava/lang/String;" (.ref t0)) (E_t0 : Exa Z h0 t0 "java/lang/String") (F_coder_t0 : Fld Z h0 t0 "java/lang/String" "coder" "B" (.int (0 : Int32))) (F_value_t0 : Fld Z h0 t0 "java/lang/String" "value" "[B" (.ref v0)) (V_v0 : Arv Z h0 v0 kv0 .byte (8 : Int32) [(.int (111 : Int32)), (.int (112 : Int32)), (.int (101 : Int32)), (.int (114 : Int32)), (.int (97 : Int32)), (.int (116 : Int32)), (.int (111 : Int32)), (.int (114 : Int32))] (.int (0 : Int32))) (E_s1 : Exa Z h0 s1 "com/example/tenderbook/tenderbook/Role") (F_code_s1 : Fld Z h0 s1 "com/example/tenderbook/tenderbook/Role" "code" "Ljava/lang/String;" (.ref t1)) (E_t1 : Exa Z h0 t1 "java/lang/String") (F_coder_t1 : Fld Z h0 t1 "java/lang/String" "coder" "B" (.int (0 : Int32))) (F_value_t1 : Fld Z h0 t1 "java/lang/String" "value" "[B" (.ref v1)) (V_v1 : Arv Z h0 v1 kv1 .byte (9 : Int32) [(.int (105 : Int32)), (.int (110 : Int32)), (.int (105 : Int32)), (.int (116 : Int32)), (.int (105 : Int32)), (.int (97 : Int32)), (.int (116 : Int32)), (.int (111 : Int32)), (.int (114 : Int32))] (.int (0 : Int32))) (E_s2 : Exa Z h0 s2 "com/example/tenderbook/tenderbook/Role") (F_code_s2 : Fld Z h0 s2 "com/example/tenderbook/tenderbook/Role" "code" "Ljava/lang/String;" (.ref t2)) (E_t2 : Exa Z h0 t2 "java/lang/String") (F_coder_t2 : Fld Z h0 t2 "java/lang/String" "coder" "B" (.int (0 : Int32))) (F_value_t2 : Fld Z h0 t2 "java/lang/String" "value" "[B" (.ref v2)) (V_v2 : Arv Z h0 v2 kv2 .byte (11 : Int32) [(.int (112 : Int32)), (.int (97 : Int32)), (.int (114 : Int32)), (.int (116 : Int32)), (.int (105 : Int32)), (.int (99 : Int32)), (.int (105 : Int32)), (.int (112 : Int32)), (.int (97 : Int32)), (.int (110 : Int32)), (.int (116 : Int32))] (.int (0 : Int32))) (E_a2 : Exa Z h0 a2 "java/lang/String") (F_coder_a2 : Fld Z h0 a2 "java/lang/String" "coder" "B" (.int (0 : Int32))) (F_value_a2 : Fld Z h0 a2 "java/lang/String" "value" "[B" (.ref va)) (V_va : Arv Z h0 va ka .byte (11 : Int32) [(.int ((112 : Int32).toInt8.toInt32)), (.int ((97 : Int32).toInt8.toInt32)), (.int ((114 : Int32).toInt8.toInt32)), (.int ((116 : Int32).toInt8.toInt32)), (.int ((105 : Int32).toInt8.toInt32)), (.int ((99 : Int32).toInt8.toInt32)), (.int ((105 : Int32).toInt8.toInt32)), (.int ((112 : Int32).toInt8.toInt32)), (.int ((97 : Int32).toInt8.toInt32)), (.int ((110 : Int32).toInt8.toInt32)), (.int ((116 : Int32).toInt8.toInt32))] (.int (0 : Int32))) (O0 : Old Z n0 h0) (S_COMPACT_STRINGS : Sta Z Z.heap "java/lang/String" "COMPACT_STRINGS" "Z" (.int cs)) (hcs : ¬ cs = (0 : Int32)) (hne0 : t0 ≠ a2) (hne1 : t1 ≠ a2) (hne2 : t2 ≠ a2) :
    MetFree l (⟨"com/example/tenderbook/tenderbook/Coded", "find", "([Lcom/example/tenderbook/tenderbook/Coded;Ljava/lang/String;)Ljava/util/Optional;"⟩ : MethodName) (head1 (Jvm.Cond.code (⟨"com/example/tenderbook/tenderbook/Coded", "find", "([Lcom/example/tenderbook/tenderbook/Coded;Ljava/lang/String;)Ljava/util/Optional;"⟩ : MethodName) prog_4_method_2_code 6 (some (.object "java/util/Optional")) :: ws) ({ frames := 3, cells := 1, slots := 1, locals := 38 } : Room)) (fun a U => a = #[(.ref a1), (.ref a2)] ∧ Z.Warmed39 U.vm ∧ U.heap = h0) (fun _ _ _ _ _ => True) (fun _ U o U' => ∃ rv Lq, o = .returned rv ∧ Q_rmFd2 Z a1 a2 cs kv s0 s1 s2 t0 v0 kv0 t1 v1 kv1 t2 v2 kv2 va ka h0 n0 rv U'.heap Lq ∧ FrameEnd U o U' Lq ({ frames := 3, cells := 1, slots := 1, locals := 38 } : Room).cells ({ frames := 3, cells := 1, slots := 1, locals := 38 } : Room).slots) := by
  refine MetFree.of_bodySF (plainFor_of_name pn_9) hisR ?_
  intro p e s m args below meth c s₁ Bd hml0 hP hK
  obtain ⟨rfl, hZ, hh⟩ := hP
  have hx := Bd.exec
  have hby := Bd.bytes
  have hml : c.maxLocals = 6 := hml0
  have hown : s.vm.findClass "com/example/tenderbook/tenderbook/Coded" = some m.cls := findClass_of_methodNamed Bd.named
  have hnm := (name_of_methodNamed Bd.named Bd.method).1
  have X0 : Stand p l e ({ frames := 3, cells := 1, slots := 1, locals := 38 } : Room) s m #[(.ref a1), (.ref a2)] below meth c s₁ [] 0 0 := Stand.of_body Bd
  have e0 : s₁.heap = h0 := by rw [← hh, Bd.state]; rfl
  have N0 := Fr.nil n0
  refine of_go (ef_rmFd2 m a1 a2) ?_
  refine Go.step (T' := s₁) (f' := (mkF m 1 #[.val (.ref a1), .val (.ref a2), .unset, .unset, .unset, .unset] [(.ref a1)])) (fun _ k => XS.aloadN X0.here hx rfl (hb hby d9_0) rfl rfl k) ?_
  refine Go.step (T' := s₁) (f' := (mkF m 2 #[.val (.ref a1), .val (.ref a2), .val (.ref a1), .unset, .unset, .unset] [])) (fun _ k => XS.astoreN X0.here hx rfl (hb hby d9_1) rfl rfl (l' := #[.val (.ref a1), .val (.ref a2), .val (.ref a1), .unset, .unset, .unset]) rfl k) ?_
  refine Go.step (T' := s₁) (f' := (mkF m 3 #[.val (.ref a1), .val (.ref a2), .val (.ref a1), .unset, .unset, .unset] [(.ref a1)])) (fun _ k => XS.aloadN X0.here hx rfl (hb hby d9_2) rfl rfl k) ?_
  obtain ⟨cl1, Ar1, qc1, Sz1, Nn1, Hs1, Gf1⟩ := id V_a1
  have hlen1 := X0.arraylength hx (by rw [e0]; exact Ar1.1) (State.isArrayOf_alike hZ.alike Ar1.2.1) (g := (mkF m 3 #[.val (.ref a1), .val (.ref a2), .val (.ref a1), .unset, .unset, .unset] [(.ref a1)])) rfl rfl (hb hby d9_3)
  rw [len_of Sz1 Nn1] at hlen1
  refine Go.step (T' := s₁) (f' := (mkF m 4 #[.val (.ref a1), .val (.ref a2), .val (.ref a1), .unset, .unset, .unset] [(.int (3 : Int32))])) (fun _ k => hlen1 _ k) ?_
  refine Go.step (T' := s₁) (f' := (mkF m 5 #[.val (.ref a1), .val (.ref a2), .val (.ref a1), .val (.int (3 : Int32)), .unset, .unset] [])) (fun _ k => XS.istoreN X0.here hx rfl (hb hby d9_4) rfl (l' := #[.val (.ref a1), .val (.ref a2), .val (.ref a1), .val (.int (3 : Int32)), .unset, .unset]) rfl k) ?_
  refine Go.step (T' := s₁) (f' := (mkF m 6 #[.val (.ref a1), .val (.ref a2), .val (.ref a1), .val (.int (3 : Int32)), .unset, .unset] [(.int (0 : Int32))])) (fun _ k => XS.iconst X0.here hx rfl (hb hby d9_5) k) ?_
  refine Go.step (T' := s₁) (f' := (mkF m 8 #[.val (.ref a1), .val (.ref a2), .val (.ref a1), .val (.int (3 : Int32)), .val (.int (0 : Int32)), .unset] [])) (fun _ k => XS.istore X0.here hx rfl (hb hby d9_6) rfl (l' := #[.val (.ref a1), .val (.ref a2), .val (.ref a1), .val (.int (3 : Int32)), .val (.int (0 : Int32)), .unset]) rfl k) ?_
  refine Go.step (T' := s₁) (f' := (mkF m 10 #[.val (.ref a1), .val (.ref a2), .val (.ref a1), .val (.int (3 : Int32)), .val (.int (0 : Int32)), .unset] [(.int (0 : Int32))])) (fun _ k => XS.iload X0.here hx rfl (hb hby d9_8) rfl k) ?_
  refine Go.step (T' := s₁) (f' := (mkF m 11 #[.val (.ref a1), .val (.ref a2), .val (.ref a1), .val (.int (3 : Int32)), .val (.int (0 : Int32)), .unset] [(.int (3 : Int32)), (.int (0 : Int32))])) (fun _ k => XS.iloadN X0.here hx rfl (hb hby d9_10) rfl k) ?_
  refine Go.step (T' := s₁) (f' := (mkF m 14 #[.val (.ref a1), .val (.ref a2), .val (.ref a1), .val (.int (3 : Int32)), .val (.int (0 : Int32)), .unset] [])) (fun _ k => XS.icmpNo X0.here hx rfl (hb hby d9_11) rfl (tlt (by decide : (0 : Int32) < (3 : Int32))).2.1 k) ?_
  refine Go.step (T' := s₁) (f' := (mkF m 15 #[.val (.ref a1), .val (.ref a2), .val (.ref a1), .val (.int (3 : Int32)), .val (.int (0 : Int32)), .unset] [(.ref a1)])) (fun _ k => XS.aloadN X0.here hx rfl (hb hby d9_14) rfl rfl k) ?_
  refine Go.step (T' := s₁) (f' := (mkF m 17 #[.val (.ref a1), .val (.ref a2), .val (.ref a1), .val (.int (3 : Int32)), .val (.int (0 : Int32)), .unset] [(.int (0 : Int32)), (.ref a1)])) (fun _ k => XS.iload X0.here hx rfl (hb hby d9_15) rfl k) ?_
  obtain ⟨cl2, Ar2, qc2, Sz2, Nn2, Hs2, Gf2⟩ := id V_a1
  have hin3 : ¬ ((0 : Int32) < 0 ∨ cl2.slots.size ≤ ((0 : Int32)).toNatClampNeg) := (inb_of Sz2 ⟨by decide, by decide⟩)
  have hat3 : cl2.slots[((0 : Int32)).toNatClampNeg]? = some (.ref s0) := Has.at Hs2 hin3 rfl
  refine Go.step (T' := s₁) (f' := (mkF m 18 #[.val (.ref a1), .val (.ref a2), .val (.ref a1), .val (.int (3 : Int32)), .val (.int (0 : Int32)), .unset] [(.ref s0)])) (fun _ k => X0.aaload hx (j := (0 : Int32)) (v := (.ref s0)) (by rw [e0]; exact Ar2.1) (State.isArrayOf_alike hZ.alike Ar2.2.1) rfl Ar2.2.2 hin3 hat3 (g := (mkF m 17 #[.val (.ref a1), .val (.ref a2), .val (.ref a1), .val (.int (3 : Int32)), .val (.int (0 : Int32)), .unset] [(.int (0 : Int32)), (.ref a1)])) rfl rfl (hb hby d9_17) _ k) ?_
  refine Go.step (T' := s₁) (f' := (mkF m 20 #[.val (.ref a1), .val (.ref a2), .val (.ref a1), .val (.int (3 : Int32)), .val (.int (0 : Int32)), .val (.ref s0)] [])) (fun _ k => XS.astore X0.here hx rfl (hb hby d9_18) rfl rfl (l' := #[.val (.ref a1), .val (.ref a2), .val (.ref a1), .val (.int (3 : Int32)), .val (.int (0 : Int32)), .val (.ref s0)]) rfl k) ?_
  refine Go.step (T' := s₁) (f' := (mkF m 22 #[.val (.ref a1), .val (.ref a2), .val (.ref a1), .val (.int (3 : Int32)), .val (.int (0 : Int32)), .val (.ref s0)] [(.ref s0)])) (fun _ k => XS.aload X0.here hx rfl (hb hby d9_20) rfl rfl k) ?_
  obtain ⟨cq4, kq4, q4a, q4b, q4c⟩ := isOf hZ e0 E_s0
  obtain ⟨_, _, ⟨T4, L4, kk4, nn4⟩, -, X4, ⟨Lc4, hQ4, lq4, yq4, zq4⟩, st4⟩ := X0.interfaceBack hx (xi := (⟨"com/example/tenderbook/tenderbook/Coded", "code", "()Ljava/lang/String;"⟩ : MethodName)) (y := (⟨"com/example/tenderbook/tenderbook/Role", "code", "()Ljava/lang/String;"⟩ : MethodName)) hown (mvT hZ (hw _ (List.mem_of_getElem? (i := 58) rfl))) (mvT hZ (hw _ (List.mem_of_getElem? (i := 59) rfl))) (mvT hZ (hw _ (List.mem_of_getElem? (i := 60) rfl))) (mvT hZ (hw _ (List.mem_of_getElem? (i := 61) rfl))) (mvT hZ (hw _ (List.mem_of_getElem? (i := 62) rfl))) (mvT hZ (hw _ (List.mem_of_getElem? (i := 63) rfl))) (mvT hZ (hw _ (List.mem_of_getElem? (i := 64) rfl))) (mvT hZ (hw _ (List.mem_of_getElem? (i := 65) rfl))) (by decide) (backOf (W := 0) (rm10 l Z a0 hw [] s0 t0 h0 n0 Z0 F_code_s0) hZ (hw _ (List.mem_of_getElem? (i := 66) rfl)) (hw _ (List.mem_of_getElem? (i := 3) rfl)) (by decide) (by decide)) q4a q4b q4c (g := (mkF m 22 #[.val (.ref a1), .val (.ref a2), .val (.ref a1), .val (.int (3 : Int32)), .val (.int (0 : Int32)), .val (.ref s0)] [(.ref s0)])) rfl (by rw [hml]; rfl) (Steps.refl _) (argsL := []) (rest := []) (lenOf pd_7 rfl) rfl (by show 2 * 0 + _ ≤ _; exact Nat.le_of_eq rfl) (hb hby d9_22) (fun _ _ => ⟨rfl, e0, (by decide : 0 + 0 ≤ _), (by decide : 0 + 0 ≤ _)⟩)
  dsimp only [Pt.U, Pt.locs, Pt.cells, Pt.slots] at X4 lq4 yq4 zq4 st4 hQ4
  subst yq4 zq4
  obtain ⟨rfl, Nq4, eh4⟩ := hQ4
  have N4 : Fr n0 L4 := by rw [lq4]; exact Fr.app N0 Nq4
  refine Go.step (T' := T4) (f' := (mkF m 27 #[.val (.ref a1), .val (.ref a2), .val (.ref a1), .val (.int (3 : Int32)), .val (.int (0 : Int32)), .val (.ref s0)] [(.ref t0)])) (fun _ k => st4.trans k) ?_
  refine Go.step (T' := T4) (f' := (mkF m 28 #[.val (.ref a1), .val (.ref a2), .val (.ref a1), .val (.int (3 : Int32)), .val (.int (0 : Int32)), .val (.ref s0)] [(.ref a2), (.ref t0)])) (fun _ k => XS.aloadN X4.here hx rfl (hb hby d9_27) rfl rfl k) ?_
  obtain ⟨cq5, kq5, q5a, q5b, q5c⟩ := isOf hZ eh4 E_t0
  obtain ⟨_, _, ⟨T5, L5, kk5, nn5⟩, -, X5, ⟨Lc5, hQ5, lq5, yq5, zq5⟩, st5⟩ := X4.virtualBack hx (y := (⟨"java/lang/String", "equals", "(Ljava/lang/Object;)Z"⟩ : MethodName)) (z := (⟨"java/lang/String", "equals", "(Ljava/lang/Object;)Z"⟩ : MethodName)) hown (mvT hZ (hw _ (List.mem_of_getElem? (i := 69) rfl))) (mvT hZ (hw _ (List.mem_of_getElem? (i := 70) rfl))) (notFace_of_selects (args := #[]) (mvT hZ (hw _ (List.mem_of_getElem? (i := 72) rfl)))) (mvT hZ (hw _ (List.mem_of_getElem? (i := 72) rfl))) (mvT hZ (hw _ (List.mem_of_getElem? (i := 71) rfl))) (by decide) (backOf (W := 0) (rmSe8_11 l Z a0 hw [] t0 a2 cs v0 va kv0 ka (111 : Int32) (112 : Int32) (101 : Int32) (114 : Int32) (97 : Int32) (116 : Int32) (111 : Int32) (114 : Int32) ((112 : Int32).toInt8.toInt32) ((97 : Int32).toInt8.toInt32) ((114 : Int32).toInt8.toInt32) ((116 : Int32).toInt8.toInt32) ((105 : Int32).toInt8.toInt32) ((99 : Int32).toInt8.toInt32) ((105 : Int32).toInt8.toInt32) ((112 : Int32).toInt8.toInt32) ((97 : Int32).toInt8.toInt32) ((110 : Int32).toInt8.toInt32) ((116 : Int32).toInt8.toInt32) h0 n0 Z0 E_t0 F_coder_t0 F_value_t0 V_v0 E_a2 F_coder_a2 F_value_a2 V_va O0 S_COMPACT_STRINGS hcs hne0) hZ (hw _ (List.mem_of_getElem? (i := 73) rfl)) (hw _ (List.mem_of_getElem? (i := 7) rfl)) (by decide) (by decide)) q5a q5c (g := (mkF m 28 #[.val (.ref a1), .val (.ref a2), .val (.ref a1), .val (.int (3 : Int32)), .val (.int (0 : Int32)), .val (.ref s0)] [(.ref a2), (.ref t0)])) rfl (by rw [hml]; rfl) (Steps.refl _) (argsL := [(.ref a2)]) (rest := []) (lenOf pd_8 rfl) rfl (by show 2 * 0 + _ ≤ _; exact Nat.le_of_eq rfl) (hb hby d9_28) (fun _ _ => ⟨rfl, eh4, (by decide : 0 + 0 ≤ _), (by decide : 0 + 0 ≤ _)⟩)
  dsimp only [Pt.U, Pt.locs, Pt.cells, Pt.slots] at X5 lq5 yq5 zq5 st5 hQ5
  subst yq5 zq5
  obtain ⟨rfl, Nq5, eh5⟩ := hQ5
  have N5 : Fr n0 L5 := by rw [lq5]; exact Fr.app N4 Nq5
  refine Go.step (T' := T5) (f' := (mkF m 31 #[.val (.ref a1), .val (.ref a2), .val (.ref a1), .val (.int (3 : Int32)), .val (.int (0 : Int32)), .val (.ref s0)] [(.int (0 : Int32))])) (fun _ k => st5.trans k) ?_
  refine Go.step (T' := T5) (f' := (mkF m 40 #[.val (.ref a1), .val (.ref a2), .val (.ref a1), .val (.int (3 : Int32)), .val (.int (0 : Int32)), .val (.ref s0)] [])) (fun _ k => XS.ifYes X5.here hx rfl (pc0 := 31) (pc' := 40) rfl (hb hby d9_31) rfl ((if0 _ _).trans (teq (by decide : (0 : Int32) = (0 : Int32))).1) (by decide) (by decide) k) ?_
  refine Go.step (T' := T5) (f' := (mkF m 43 #[.val (.ref a1), .val (.ref a2), .val (.ref a1), .val (.int (3 : Int32)), .val (.int (1 : Int32)), .val (.ref s0)] [])) (fun _ k => XS.iinc X5.here hx rfl (hb hby d9_40) rfl (l' := #[.val (.ref a1), .val (.ref a2), .val (.ref a1), .val (.int (3 : Int32)), .val (.int (1 : Int32)), .val (.ref s0)]) rfl k) ?_
  refine Go.step (T' := T5) (f' := (mkF m 8 #[.val (.ref a1), .val (.ref a2), .val (.ref a1), .val (.int (3 : Int32)), .val (.int (1 : Int32)), .val (.ref s0)] [])) (fun _ k => XS.goto X5.here hx rfl (pc0 := 43) (pc' := 8) rfl (hb hby d9_43) (by decide) (by decide) k) ?_
  refine Go.step (T' := T5) (f' := (mkF m 10 #[.val (.ref a1), .val (.ref a2), .val (.ref a1), .val (.int (3 : Int32)), .val (.int (1 : Int32)), .val (.ref s0)] [(.int (1 : Int32))])) (fun _ k => XS.iload X5.here hx rfl (hb hby d9_8) rfl k) ?_
  refine Go.step (T' := T5) (f' := (mkF m 11 #[.val (.ref a1), .val (.ref a2), .val (.ref a1), .val (.int (3 : Int32)), .val (.int (1 : Int32)), .val (.ref s0)] [(.int (3 : Int32)), (.int (1 : Int32))])) (fun _ k => XS.iloadN X5.here hx rfl (hb hby d9_10) rfl k) ?_
  refine Go.step (T' := T5) (f' := (mkF m 14 #[.val (.ref a1), .val (.ref a2), .val (.ref a1), .val (.int (3 : Int32)), .val (.int (1 : Int32)), .val (.ref s0)] [])) (fun _ k => XS.icmpNo X5.here hx rfl (hb hby d9_11) rfl (tlt (by decide : (1 : Int32) < (3 : Int32))).2.1 k) ?_
  refine Go.step (T' := T5) (f' := (mkF m 15 #[.val (.ref a1), .val (.ref a2), .val (.ref a1), .val (.int (3 : Int32)), .val (.int (1 : Int32)), .val (.ref s0)] [(.ref a1)])) (fun _ k => XS.aloadN X5.here hx rfl (hb hby d9_14) rfl rfl k) ?_
  refine Go.step (T' := T5) (f' := (mkF m 17 #[.val (.ref a1), .val (.ref a2), .val (.ref a1), .val (.int (3 : Int32)), .val (.int (1 : Int32)), .val (.ref s0)] [(.int (1 : Int32)), (.ref a1)])) (fun _ k => XS.iload X5.here hx rfl (hb hby d9_15) rfl k) ?_
  obtain ⟨cl6, Ar6, qc6, Sz6, Nn6, Hs6, Gf6⟩ := id V_a1
  have hin7 : ¬ ((1 : Int32) < 0 ∨ cl6.slots.size ≤ ((1 : Int32)).toNatClampNeg) := (inb_of Sz6 ⟨by decide, by decide⟩)
  have hat7 : cl6.slots[((1 : Int32)).toNatClampNeg]? = some (.ref s1) := Has.at Hs6 hin7 rfl
  refine Go.step (T' := T5) (f' := (mkF m 18 #[.val (.ref a1), .val (.ref a2), .val (.ref a1), .val (.int (3 : Int32)), .val (.int (1 : Int32)), .val (.ref s0)] [(.ref s1)])) (fun _ k => X5.aaload hx (j := (1 : Int32)) (v := (.ref s1)) (by rw [eh5]; exact Ar6.1) (State.isArrayOf_alike hZ.alike Ar6.2.1) rfl Ar6.2.2 hin7 hat7 (g := (mkF m 17 #[.val (.ref a1), .val (.ref a2), .val (.ref a1), .val (.int (3 : Int32)), .val (.int (1 : Int32)), .val (.ref s0)] [(.int (1 : Int32)), (.ref a1)])) rfl rfl (hb hby d9_17) _ k) ?_
  refine Go.step (T' := T5) (f' := (mkF m 20 #[.val (.ref a1), .val (.ref a2), .val (.ref a1), .val (.int (3 : Int32)), .val (.int (1 : Int32)), .val (.ref s1)] [])) (fun _ k => XS.astore X5.here hx rfl (hb hby d9_18) rfl rfl (l' := #[.val (.ref a1), .val (.ref a2), .val (.ref a1), .val (.int (3 : Int32)), .val (.int (1 : Int32)), .val (.ref s1)]) rfl k) ?_
  refine Go.step (T' := T5) (f' := (mkF m 22 #[.val (.ref a1), .val (.ref a2), .val (.ref a1), .val (.int (3 : Int32)), .val (.int (1 : Int32)), .val (.ref s1)] [(.ref s1)])) (fun _ k => XS.aload X5.here hx rfl (hb hby d9_20) rfl rfl k) ?_
  obtain ⟨cq8, kq8, q8a, q8b, q8c⟩ := isOf hZ eh5 E_s1
  obtain ⟨_, _, ⟨T8, L8, kk8, nn8⟩, -, X8, ⟨Lc8, hQ8, lq8, yq8, zq8⟩, st8⟩ := X5.interfaceBack hx (xi := (⟨"com/example/tenderbook/tenderbook/Coded", "code", "()Ljava/lang/String;"⟩ : MethodName)) (y := (⟨"com/example/tenderbook/tenderbook/Role", "code", "()Ljava/lang/String;"⟩ : MethodName)) hown (mvT hZ (hw _ (List.mem_of_getElem? (i := 58) rfl))) (mvT hZ (hw _ (List.mem_of_getElem? (i := 59) rfl))) (mvT hZ (hw _ (List.mem_of_getElem? (i := 60) rfl))) (mvT hZ (hw _ (List.mem_of_getElem? (i := 61) rfl))) (mvT hZ (hw _ (List.mem_of_getElem? (i := 62) rfl))) (mvT hZ (hw _ (List.mem_of_getElem? (i := 63) rfl))) (mvT hZ (hw _ (List.mem_of_getElem? (i := 64) rfl))) (mvT hZ (hw _ (List.mem_of_getElem? (i := 65) rfl))) (by decide) (backOf (W := 0) (rm10 l Z a0 hw [] s1 t1 h0 n0 Z0 F_code_s1) hZ (hw _ (List.mem_of_getElem? (i := 66) rfl)) (hw _ (List.mem_of_getElem? (i := 3) rfl)) (by decide) (by decide)) q8a q8b q8c (g := (mkF m 22 #[.val (.ref a1), .val (.ref a2), .val (.ref a1), .val (.int (3 : Int32)), .val (.int (1 : Int32)), .val (.ref s1)] [(.ref s1)])) rfl (by rw [hml]; rfl) (Steps.refl _) (argsL := []) (rest := []) (lenOf pd_7 rfl) rfl (by show 2 * 0 + _ ≤ _; exact Nat.le_of_eq rfl) (hb hby d9_22) (fun _ _ => ⟨rfl, eh5, (by decide : 0 + 0 ≤ _), (by decide : 0 + 0 ≤ _)⟩)
  dsimp only [Pt.U, Pt.locs, Pt.cells, Pt.slots] at X8 lq8 yq8 zq8 st8 hQ8
  subst yq8 zq8
  obtain ⟨rfl, Nq8, eh8⟩ := hQ8
  have N8 : Fr n0 L8 := by rw [lq8]; exact Fr.app N5 Nq8
  refine Go.step (T' := T8) (f' := (mkF m 27 #[.val (.ref a1), .val (.ref a2), .val (.ref a1), .val (.int (3 : Int32)), .val (.int (1 : Int32)), .val (.ref s1)] [(.ref t1)])) (fun _ k => st8.trans k) ?_
  refine Go.step (T' := T8) (f' := (mkF m 28 #[.val (.ref a1), .val (.ref a2), .val (.ref a1), .val (.int (3 : Int32)), .val (.int (1 : Int32)), .val (.ref s1)] [(.ref a2), (.ref t1)])) (fun _ k => XS.aloadN X8.here hx rfl (hb hby d9_27) rfl rfl k) ?_
  obtain ⟨cq9, kq9, q9a, q9b, q9c⟩ := isOf hZ eh8 E_t1
  obtain ⟨_, _, ⟨T9, L9, kk9, nn9⟩, -, X9, ⟨Lc9, hQ9, lq9, yq9, zq9⟩, st9⟩ := X8.virtualBack hx (y := (⟨"java/lang/String", "equals", "(Ljava/lang/Object;)Z"⟩ : MethodName)) (z := (⟨"java/lang/String", "equals", "(Ljava/lang/Object;)Z"⟩ : MethodName)) hown (mvT hZ (hw _ (List.mem_of_getElem? (i := 69) rfl))) (mvT hZ (hw _ (List.mem_of_getElem? (i := 70) rfl))) (notFace_of_selects (args := #[]) (mvT hZ (hw _ (List.mem_of_getElem? (i := 72) rfl)))) (mvT hZ (hw _ (List.mem_of_getElem? (i := 72) rfl))) (mvT hZ (hw _ (List.mem_of_getElem? (i := 71) rfl))) (by decide) (backOf (W := 0) (rmSe9_11 l Z a0 hw [] t1 a2 cs v1 va kv1 ka (105 : Int32) (110 : Int32) (105 : Int32) (116 : Int32) (105 : Int32) (97 : Int32) (116 : Int32) (111 : Int32) (114 : Int32) ((112 : Int32).toInt8.toInt32) ((97 : Int32).toInt8.toInt32) ((114 : Int32).toInt8.toInt32) ((116 : Int32).toInt8.toInt32) ((105 : Int32).toInt8.toInt32) ((99 : Int32).toInt8.toInt32) ((105 : Int32).toInt8.toInt32) ((112 : Int32).toInt8.toInt32) ((97 : Int32).toInt8.toInt32) ((110 : Int32).toInt8.toInt32) ((116 : Int32).toInt8.toInt32) h0 n0 Z0 E_t1 F_coder_t1 F_value_t1 V_v1 E_a2 F_coder_a2 F_value_a2 V_va O0 S_COMPACT_STRINGS hcs hne1) hZ (hw _ (List.mem_of_getElem? (i := 73) rfl)) (hw _ (List.mem_of_getElem? (i := 7) rfl)) (by decide) (by decide)) q9a q9c (g := (mkF m 28 #[.val (.ref a1), .val (.ref a2), .val (.ref a1), .val (.int (3 : Int32)), .val (.int (1 : Int32)), .val (.ref s1)] [(.ref a2), (.ref t1)])) rfl (by rw [hml]; rfl) (Steps.refl _) (argsL := [(.ref a2)]) (rest := []) (lenOf pd_8 rfl) rfl (by show 2 * 0 + _ ≤ _; exact Nat.le_of_eq rfl) (hb hby d9_28) (fun _ _ => ⟨rfl, eh8, (by decide : 0 + 0 ≤ _), (by decide : 0 + 0 ≤ _)⟩)
  dsimp only [Pt.U, Pt.locs, Pt.cells, Pt.slots] at X9 lq9 yq9 zq9 st9 hQ9
  subst yq9 zq9
  obtain ⟨rfl, Nq9, eh9⟩ := hQ9
  have N9 : Fr n0 L9 := by rw [lq9]; exact Fr.app N8 Nq9
  refine Go.step (T' := T9) (f' := (mkF m 31 #[.val (.ref a1), .val (.ref a2), .val (.ref a1), .val (.int (3 : Int32)), .val (.int (1 : Int32)), .val (.ref s1)] [(.int (0 : Int32))])) (fun _ k => st9.trans k) ?_
  refine Go.step (T' := T9) (f' := (mkF m 40 #[.val (.ref a1), .val (.ref a2), .val (.ref a1), .val (.int (3 : Int32)), .val (.int (1 : Int32)), .val (.ref s1)] [])) (fun _ k => XS.ifYes X9.here hx rfl (pc0 := 31) (pc' := 40) rfl (hb hby d9_31) rfl ((if0 _ _).trans (teq (by decide : (0 : Int32) = (0 : Int32))).1) (by decide) (by decide) k) ?_
  refine Go.step (T' := T9) (f' := (mkF m 43 #[.val (.ref a1), .val (.ref a2), .val (.ref a1), .val (.int (3 : Int32)), .val (.int (2 : Int32)), .val (.ref s1)] [])) (fun _ k => XS.iinc X9.here hx rfl (hb hby d9_40) rfl (l' := #[.val (.ref a1), .val (.ref a2), .val (.ref a1), .val (.int (3 : Int32)), .val (.int (2 : Int32)), .val (.ref s1)]) rfl k) ?_
  refine Go.step (T' := T9) (f' := (mkF m 8 #[.val (.ref a1), .val (.ref a2), .val (.ref a1), .val (.int (3 : Int32)), .val (.int (2 : Int32)), .val (.ref s1)] [])) (fun _ k => XS.goto X9.here hx rfl (pc0 := 43) (pc' := 8) rfl (hb hby d9_43) (by decide) (by decide) k) ?_
  refine Go.step (T' := T9) (f' := (mkF m 10 #[.val (.ref a1), .val (.ref a2), .val (.ref a1), .val (.int (3 : Int32)), .val (.int (2 : Int32)), .val (.ref s1)] [(.int (2 : Int32))])) (fun _ k => XS.iload X9.here hx rfl (hb hby d9_8) rfl k) ?_
  refine Go.step (T' := T9) (f' := (mkF m 11 #[.val (.ref a1), .val (.ref a2), .val (.ref a1), .val (.int (3 : Int32)), .val (.int (2 : Int32)), .val (.ref s1)] [(.int (3 : Int32)), (.int (2 : Int32))])) (fun _ k => XS.iloadN X9.here hx rfl (hb hby d9_10) rfl k) ?_
  refine Go.step (T' := T9) (f' := (mkF m 14 #[.val (.ref a1), .val (.ref a2), .val (.ref a1), .val (.int (3 : Int32)), .val (.int (2 : Int32)), .val (.ref s1)] [])) (fun _ k => XS.icmpNo X9.here hx rfl (hb hby d9_11) rfl (tlt (by decide : (2 : Int32) < (3 : Int32))).2.1 k) ?_
  refine Go.step (T' := T9) (f' := (mkF m 15 #[.val (.ref a1), .val (.ref a2), .val (.ref a1), .val (.int (3 : Int32)), .val (.int (2 : Int32)), .val (.ref s1)] [(.ref a1)])) (fun _ k => XS.aloadN X9.here hx rfl (hb hby d9_14) rfl rfl k) ?_
  refine Go.step (T' := T9) (f' := (mkF m 17 #[.val (.ref a1), .val (.ref a2), .val (.ref a1), .val (.int (3 : Int32)), .val (.int (2 : Int32)), .val (.ref s1)] [(.int (2 : Int32)), (.ref a1)])) (fun _ k => XS.iload X9.here hx rfl (hb hby d9_15) rfl k) ?_
  obtain ⟨cl10, Ar10, qc10, Sz10, Nn10, Hs10, Gf10⟩ := id V_a1
  have hin11 : ¬ ((2 : Int32) < 0 ∨ cl10.slots.size ≤ ((2 : Int32)).toNatClampNeg) := (inb_of Sz10 ⟨by decide, by decide⟩)
  have hat11 : cl10.slots[((2 : Int32)).toNatClampNeg]? = some (.ref s2) := Has.at Hs10 hin11 rfl
  refine Go.step (T' := T9) (f' := (mkF m 18 #[.val (.ref a1), .val (.ref a2), .val (.ref a1), .val (.int (3 : Int32)), .val (.int (2 : Int32)), .val (.ref s1)] [(.ref s2)])) (fun _ k => X9.aaload hx (j := (2 : Int32)) (v := (.ref s2)) (by rw [eh9]; exact Ar10.1) (State.isArrayOf_alike hZ.alike Ar10.2.1) rfl Ar10.2.2 hin11 hat11 (g := (mkF m 17 #[.val (.ref a1), .val (.ref a2), .val (.ref a1), .val (.int (3 : Int32)), .val (.int (2 : Int32)), .val (.ref s1)] [(.int (2 : Int32)), (.ref a1)])) rfl rfl (hb hby d9_17) _ k) ?_
  refine Go.step (T' := T9) (f' := (mkF m 20 #[.val (.ref a1), .val (.ref a2), .val (.ref a1), .val (.int (3 : Int32)), .val (.int (2 : Int32)), .val (.ref s2)] [])) (fun _ k => XS.astore X9.here hx rfl (hb hby d9_18) rfl rfl (l' := #[.val (.ref a1), .val (.ref a2), .val (.ref a1), .val (.int (3 : Int32)), .val (.int (2 : Int32)), .val (.ref s2)]) rfl k) ?_
  refine Go.step (T' := T9) (f' := (mkF m 22 #[.val (.ref a1), .val (.ref a2), .val (.ref a1), .val (.int (3 : Int32)), .val (.int (2 : Int32)), .val (.ref s2)] [(.ref s2)])) (fun _ k => XS.aload X9.here hx rfl (hb hby d9_20) rfl rfl k) ?_
  obtain ⟨cq12, kq12, q12a, q12b, q12c⟩ := isOf hZ eh9 E_s2
  obtain ⟨_, _, ⟨T12, L12, kk12, nn12⟩, -, X12, ⟨Lc12, hQ12, lq12, yq12, zq12⟩, st12⟩ := X9.interfaceBack hx (xi := (⟨"com/example/tenderbook/tenderbook/Coded", "code", "()Ljava/lang/String;"⟩ : MethodName)) (y := (⟨"com/example/tenderbook/tenderbook/Role", "code", "()Ljava/lang/String;"⟩ : MethodName)) hown (mvT hZ (hw _ (List.mem_of_getElem? (i := 58) rfl))) (mvT hZ (hw _ (List.mem_of_getElem? (i := 59) rfl))) (mvT hZ (hw _ (List.mem_of_getElem? (i := 60) rfl))) (mvT hZ (hw _ (List.mem_of_getElem? (i := 61) rfl))) (mvT hZ (hw _ (List.mem_of_getElem? (i := 62) rfl))) (mvT hZ (hw _ (List.mem_of_getElem? (i := 63) rfl))) (mvT hZ (hw _ (List.mem_of_getElem? (i := 64) rfl))) (mvT hZ (hw _ (List.mem_of_getElem? (i := 65) rfl))) (by decide) (backOf (W := 0) (rm10 l Z a0 hw [] s2 t2 h0 n0 Z0 F_code_s2) hZ (hw _ (List.mem_of_getElem? (i := 66) rfl)) (hw _ (List.mem_of_getElem? (i := 3) rfl)) (by decide) (by decide)) q12a q12b q12c (g := (mkF m 22 #[.val (.ref a1), .val (.ref a2), .val (.ref a1), .val (.int (3 : Int32)), .val (.int (2 : Int32)), .val (.ref s2)] [(.ref s2)])) rfl (by rw [hml]; rfl) (Steps.refl _) (argsL := []) (rest := []) (lenOf pd_7 rfl) rfl (by show 2 * 0 + _ ≤ _; exact Nat.le_of_eq rfl) (hb hby d9_22) (fun _ _ => ⟨rfl, eh9, (by decide : 0 + 0 ≤ _), (by decide : 0 + 0 ≤ _)⟩)
  dsimp only [Pt.U, Pt.locs, Pt.cells, Pt.slots] at X12 lq12 yq12 zq12 st12 hQ12
  subst yq12 zq12
  obtain ⟨rfl, Nq12, eh12⟩ := hQ12
  have N12 : Fr n0 L12 := by rw [lq12]; exact Fr.app N9 Nq12
  refine Go.step (T' := T12) (f' := (mkF m 27 #[.val (.ref a1), .val (.ref a2), .val (.ref a1), .val (.int (3 : Int32)), .val (.int (2 : Int32)), .val (.ref s2)] [(.ref t2)])) (fun _ k => st12.trans k) ?_
  refine Go.step (T' := T12) (f' := (mkF m 28 #[.val (.ref a1), .val (.ref a2), .val (.ref a1), .val (.int (3 : Int32)), .val (.int (2 : Int32)), .val (.ref s2)] [(.ref a2), (.ref t2)])) (fun _ k => XS.aloadN X12.here hx rfl (hb hby d9_27) rfl rfl k) ?_
  obtain ⟨cq13, kq13, q13a, q13b, q13c⟩ := isOf hZ eh12 E_t2
  obtain ⟨_, _, ⟨T13, L13, kk13, nn13⟩, -, X13, ⟨Lc13, hQ13, lq13, yq13, zq13⟩, st13⟩ := X12.virtualBack hx (y := (⟨"java/lang/String", "equals", "(Ljava/lang/Object;)Z"⟩ : MethodName)) (z := (⟨"java/lang/String", "equals", "(Ljava/lang/Object;)Z"⟩ : MethodName)) hown (mvT hZ (hw _ (List.mem_of_getElem? (i := 69) rfl))) (mvT hZ (hw _ (List.mem_of_getElem? (i := 70) rfl))) (notFace_of_selects (args := #[]) (mvT hZ (hw _ (List.mem_of_getElem? (i := 72) rfl)))) (mvT hZ (hw _ (List.mem_of_getElem? (i := 72) rfl))) (mvT hZ (hw _ (List.mem_of_getElem? (i := 71) rfl))) (by decide) (backOf (W := 0) (rmSe11_11 l Z a0 hw [] t2 a2 cs v2 va kv2 ka (112 : Int32) (97 : Int32) (114 : Int32) (116 : Int32) (105 : Int32) (99 : Int32) (105 : Int32) (112 : Int32) (97 : Int32) (110 : Int32) (116 : Int32) h0 n0 Z0 E_t2 F_coder_t2 F_value_t2 V_v2 E_a2 F_coder_a2 F_value_a2 V_va O0 S_COMPACT_STRINGS hcs hne2) hZ (hw _ (List.mem_of_getElem? (i := 73) rfl)) (hw _ (List.mem_of_getElem? (i := 7) rfl)) (by decide) (by decide)) q13a q13c (g := (mkF m 28 #[.val (.ref a1), .val (.ref a2), .val (.ref a1), .val (.int (3 : Int32)), .val (.int (2 : Int32)), .val (.ref s2)] [(.ref a2), (.ref t2)])) rfl (by rw [hml]; rfl) (Steps.refl _) (argsL := [(.ref a2)]) (rest := []) (lenOf pd_8 rfl) rfl (by show 2 * 0 + _ ≤ _; exact Nat.le_of_eq rfl) (hb hby d9_28) (fun _ _ => ⟨rfl, eh12, (by decide : 0 + 0 ≤ _), (by decide : 0 + 0 ≤ _)⟩)
  dsimp only [Pt.U, Pt.locs, Pt.cells, Pt.slots] at X13 lq13 yq13 zq13 st13 hQ13
  subst yq13 zq13
  obtain ⟨rfl, Nq13, eh13⟩ := hQ13
  have N13 : Fr n0 L13 := by rw [lq13]; exact Fr.app N12 Nq13
  refine Go.step (T' := T13) (f' := (mkF m 31 #[.val (.ref a1), .val (.ref a2), .val (.ref a1), .val (.int (3 : Int32)), .val (.int (2 : Int32)), .val (.ref s2)] [(.int (1 : Int32))])) (fun _ k => st13.trans k) ?_
  refine Go.step (T' := T13) (f' := (mkF m 34 #[.val (.ref a1), .val (.ref a2), .val (.ref a1), .val (.int (3 : Int32)), .val (.int (2 : Int32)), .val (.ref s2)] [])) (fun _ k => XS.ifNo X13.here hx rfl (hb hby d9_31) rfl ((if0 _ _).trans (feq (by decide : ¬ ((1 : Int32) = (0 : Int32)))).1) k) ?_
  refine Go.step (T' := T13) (f' := (mkF m 36 #[.val (.ref a1), .val (.ref a2), .val (.ref a1), .val (.int (3 : Int32)), .val (.int (2 : Int32)), .val (.ref s2)] [(.ref s2)])) (fun _ k => XS.aload X13.here hx rfl (hb hby d9_34) rfl rfl k) ?_
  obtain ⟨_, _, ⟨T14, L14, kk14, nn14⟩, -, X14, ⟨Lc14, hQ14, lq14, yq14, zq14⟩, st14⟩ := Jvm.LawKit.callS X13 hx (y := (⟨"java/util/Optional", "of", "(Ljava/lang/Object;)Ljava/util/Optional;"⟩ : MethodName)) hown (mvT hZ (hw _ (List.mem_of_getElem? (i := 79) rfl))) (mvT hZ (hw _ (List.mem_of_getElem? (i := 80) rfl))) (mvT hZ (hw _ (List.mem_of_getElem? (i := 81) rfl))) (mvT hZ (hw _ (List.mem_of_getElem? (i := 82) rfl))) (by decide) (backOf (W := 0) (rm13 l Z a0 hw [] s2 h0 n0 Z0 ) hZ (hw _ (List.mem_of_getElem? (i := 82) rfl)) (hw _ (List.mem_of_getElem? (i := 81) rfl)) (by decide) (by decide)) (g := (mkF m 36 #[.val (.ref a1), .val (.ref a2), .val (.ref a1), .val (.int (3 : Int32)), .val (.int (2 : Int32)), .val (.ref s2)] [(.ref s2)])) rfl (by rw [hml]; rfl) (argsL := [(.ref s2)]) (rest := []) (lenOf pd_9 rfl) rfl (by show 2 * 0 + _ ≤ _; exact Nat.le_of_eq rfl) (hb hby d9_36) (fun _ _ => ⟨rfl, eh13, (by decide : 0 + 1 ≤ _), (by decide : 0 + 1 ≤ _)⟩)
  dsimp only [Pt.U, Pt.locs, Pt.cells, Pt.slots] at X14 lq14 yq14 zq14 st14 hQ14
  subst yq14 zq14
  obtain ⟨q_14, rfl, Nq14, Kq14, r14_0, r14_1, r14_2⟩ := hQ14
  have N14 : Fr n0 L14 := by rw [lq14]; exact Fr.app N13 Nq14
  have g_q_14 : n0 ≤ q_14 := Nat.le_trans Z0 r14_0
  have sz_q_14 : h0.size ≤ q_14 := Nat.le_trans (Keep.refl h0 []).1 r14_0
  have Z15 : n0 ≤ T14.heap.size := Nat.le_trans Z0 Kq14.1
  have O15 : Old Z n0 T14.heap := O0.keep Kq14 all0
  have K15 : Keep h0 T14.heap [] := (Keep.refl h0 []).trans Kq14 all0
  refine Go.step (T' := T14) (f' := (mkF m 39 #[.val (.ref a1), .val (.ref a2), .val (.ref a1), .val (.int (3 : Int32)), .val (.int (2 : Int32)), .val (.ref s2)] [(.ref q_14)])) st14 ?_
  refine goA X14 hx Bd.returns rfl rfl Bd.notSynchronized (hb hby d9_39) ?_ (by decide) (by decide)
  show Q_rmFd2 Z a1 a2 cs kv s0 s1 s2 t0 v0 kv0 t1 v1 kv1 t2 v2 kv2 va ka h0 n0 _ T14.heap _
  exact ⟨q_14, rfl, N14, K15, sz_q_14, r14_1, r14_2⟩
theorem ef_rmOc2 (m : MethodId) (a1 : Addr) : entryFrame m #[(.ref a1)] 2 = mkF m 0 #[.val (.ref a1), .unset] [] := by first | (simp [entryFrame, mkF, argsToLocals, Value.category]; done) | rfl
def Q_rmOc2 (Z : State) (a1 : Addr) (cs : Int32) (kv : ClassId) (s0 : Addr) (s1 : Addr) (s2 : Addr) (t0 : Addr) (v0 : Addr) (kv0 : ClassId) (t1 : Addr) (v1 : Addr) (kv1 : ClassId) (t2 : Addr) (v2 : Addr) (kv2 : ClassId) (va : Addr) (ka : ClassId) (sv : Addr) (h0 : Heap) (n0 : Nat) (rv : Option Value) (hq : Heap) (Lq : List Loc) : Prop := rv = some (.ref s2) ∧ Fr n0 Lq ∧ Keep h0 hq []
set_option maxRecDepth 65536 in
set_option maxHeartbeats 40000000 in
theorem rmOc2 (l : Launch) (Z : State) (a0 : Array Value) (hw : ∀ d ∈ tables_1, d.before a0 Z = true) (ws : List Jvm.Cond) (a1 : Addr) (cs : Int32) (kv : ClassId) (s0 : Addr) (s1 : Addr) (s2 : Addr) (t0 : Addr) (v0 : Addr) (kv0 : ClassId) (t1 : Addr) (v1 : Addr) (kv1 : ClassId) (t2 : Addr) (v2 : Addr) (kv2 : ClassId) (va : Addr) (ka : ClassId) (sv : Addr) (h0 : Heap) (n0 : Nat) (Z0 : n0 ≤ h0.size) (E_sv : Exa Z h0 sv "[Lcom/example/tenderbook/tenderbook/Role;") (V_sv : Arv Z h0 sv kv (.object "com/example/tenderbook/tenderbook/Role") (3 : Int32) [(.ref s0), (.ref s1), (.ref s2)] .null) (E_s0 : Exa Z h0 s0 "com/example/tenderbook/tenderbook/Role") (F_code_s0 : Fld Z h0 s0 "com/example/tenderbook/tenderbook/Role" "code" "Ljava/lang/String;" (.ref t0)) (E_t0 : Exa Z h0 t0 "java/lang/String") (F_coder_t0 : Fld Z h0 t0 "java/lang/String" "coder" "B" (.int (0 : Int32))) (F_value_t0 : Fld Z h0 t0 "java/lang/String" "value" "[B" (.ref v0)) (V_v0 : Arv Z h0 v0 kv0 .byte (8 : Int32) [(.int (111 : Int32)), (.int (112 : Int32)), (.int (101 : Int32)), (.int (114 : Int32)), (.int (97 : Int32)), (.int (116 : Int32)), (.int (111 : Int32)), (.int (114 : Int32))] (.int (0 : Int32))) (E_s1 : Exa Z h0 s1 "com/example/tenderbook/tenderbook/Role") (F_code_s1 : Fld Z h0 s1 "com/example/tenderbook/tenderbook/Role" "code" "Ljava/lang/String;" (.ref t1)) (E_t1 : Exa Z h0 t1 "java/lang/String") (F_coder_t1 : Fld Z h0 t1 "java/lang/String" "coder" "B" (.int (0 : Int32))) (F_value_t1 : Fld Z h0 t1 "java/lang/String" "value" "[B" (.ref v1)) (V_v1 : Arv Z h0 v1 kv1 .byte (9 : Int32) [(.int (105 : Int32)), (.int (110 : Int32)), (.int (105 : Int32)), (.int (116 : Int32)), (.int (105 : Int32)), (.int (97 : Int32)), (.int (116 : Int32)), (.int (111 : Int32)), (.int (114 : Int32))] (.int (0 : Int32))) (E_s2 : Exa Z h0 s2 "com/example/tenderbook/tenderbook/Role") (F_code_s2 : Fld Z h0 s2 "com/example/tenderbook/tenderbook/Role" "code" "Ljava/lang/String;" (.ref t2)) (E_t2 : Exa Z h0 t2 "java/lang/String") (F_coder_t2 : Fld Z h0 t2 "java/lang/String" "coder" "B" (.int (0 : Int32))) (F_value_t2 : Fld Z h0 t2 "java/lang/String" "value" "[B" (.ref v2)) (V_v2 : Arv Z h0 v2 kv2 .byte (11 : Int32) [(.int (112 : Int32)), (.int (97 : Int32)), (.int (114 : Int32)), (.int (116 : Int32)), (.int (105 : Int32)), (.int (99 : Int32)), (.int (105 : Int32)), (.int (112 : Int32)), (.int (97 : Int32)), (.int (110 : Int32)), (.int (116 : Int32))] (.int (0 : Int32))) (E_a1 : Exa Z h0 a1 "java/lang/String") (F_coder_a1 : Fld Z h0 a1 "java/lang/String" "coder" "B" (.int (0 : Int32))) (F_value_a1 : Fld Z h0 a1 "java/lang/String" "value" "[B" (.ref va)) (V_va : Arv Z h0 va ka .byte (11 : Int32) [(.int ((112 : Int32).toInt8.toInt32)), (.int ((97 : Int32).toInt8.toInt32)), (.int ((114 : Int32).toInt8.toInt32)), (.int ((116 : Int32).toInt8.toInt32)), (.int ((105 : Int32).toInt8.toInt32)), (.int ((99 : Int32).toInt8.toInt32)), (.int ((105 : Int32).toInt8.toInt32)), (.int ((112 : Int32).toInt8.toInt32)), (.int ((97 : Int32).toInt8.toInt32)), (.int ((110 : Int32).toInt8.toInt32)), (.int ((116 : Int32).toInt8.toInt32))] (.int (0 : Int32))) (O0 : Old Z n0 h0) (S_COMPACT_STRINGS : Sta Z Z.heap "java/lang/String" "COMPACT_STRINGS" "Z" (.int cs)) (hcs : ¬ cs = (0 : Int32)) (S__VALUES : Sta Z Z.heap "com/example/tenderbook/tenderbook/Role" "$VALUES" "[Lcom/example/tenderbook/tenderbook/Role;" (.ref sv)) (hne0 : t0 ≠ a1) (hne1 : t1 ≠ a1) (hne2 : t2 ≠ a1) :
    MetFree l (⟨"com/example/tenderbook/tenderbook/Role", "ofCode", "(Ljava/lang/String;)Lcom/example/tenderbook/tenderbook/Role;"⟩ : MethodName) (head1 (Jvm.Cond.code (⟨"com/example/tenderbook/tenderbook/Role", "ofCode", "(Ljava/lang/String;)Lcom/example/tenderbook/tenderbook/Role;"⟩ : MethodName) prog_17_method_5_code 2 (some (.object "com/example/tenderbook/tenderbook/Role")) :: ws) ({ frames := 4, cells := 2, slots := 4, locals := 55 } : Room)) (fun a U => a = #[(.ref a1)] ∧ Z.Warmed39 U.vm ∧ U.heap = h0) (fun _ _ _ _ _ => True) (fun _ U o U' => ∃ rv Lq, o = .returned rv ∧ Q_rmOc2 Z a1 cs kv s0 s1 s2 t0 v0 kv0 t1 v1 kv1 t2 v2 kv2 va ka sv h0 n0 rv U'.heap Lq ∧ FrameEnd U o U' Lq ({ frames := 4, cells := 2, slots := 4, locals := 55 } : Room).cells ({ frames := 4, cells := 2, slots := 4, locals := 55 } : Room).slots) := by
  refine MetFree.of_bodySF (plainFor_of_name pn_10) hisR ?_
  intro p e s m args below meth c s₁ Bd hml0 hP hK
  obtain ⟨rfl, hZ, hh⟩ := hP
  have hx := Bd.exec
  have hby := Bd.bytes
  have hml : c.maxLocals = 2 := hml0
  have hown : s.vm.findClass "com/example/tenderbook/tenderbook/Role" = some m.cls := findClass_of_methodNamed Bd.named
  have hnm := (name_of_methodNamed Bd.named Bd.method).1
  have X0 : Stand p l e ({ frames := 4, cells := 2, slots := 4, locals := 55 } : Room) s m #[(.ref a1)] below meth c s₁ [] 0 0 := Stand.of_body Bd
  have e0 : s₁.heap = h0 := by rw [← hh, Bd.state]; rfl
  have N0 := Fr.nil n0
  refine of_go (ef_rmOc2 m a1) ?_
  obtain ⟨_, _, ⟨T1, L1, kk1, nn1⟩, -, X1, ⟨Lc1, hQ1, lq1, yq1, zq1⟩, st1⟩ := Jvm.LawKit.callS X0 hx (y := (⟨"com/example/tenderbook/tenderbook/Role", "values", "()[Lcom/example/tenderbook/tenderbook/Role;"⟩ : MethodName)) hown (mvT hZ (hw _ (List.mem_of_getElem? (i := 37) rfl))) (mvT hZ (hw _ (List.mem_of_getElem? (i := 38) rfl))) (mvT hZ (hw _ (List.mem_of_getElem? (i := 3) rfl))) (mvT hZ (hw _ (List.mem_of_getElem? (i := 39) rfl))) (by decide) (backOf (W := 0) (rm8 l Z a0 hw [] sv kv s0 s1 s2 h0 n0 Z0 E_sv V_sv O0 S__VALUES) hZ (hw _ (List.mem_of_getElem? (i := 39) rfl)) (hw _ (List.mem_of_getElem? (i := 3) rfl)) (by decide) (by decide)) (g := (mkF m 0 #[.val (.ref a1), .unset] [])) rfl (by rw [hml]; rfl) (argsL := []) (rest := []) (lenOf pd_10 rfl) rfl (by show 2 * 0 + _ ≤ _; exact Nat.le_of_eq rfl) (hb hby d7_0) (fun _ _ => ⟨rfl, e0, (by decide : 0 + 1 ≤ _), (by decide : 0 + 3 ≤ _)⟩)
  dsimp only [Pt.U, Pt.locs, Pt.cells, Pt.slots] at X1 lq1 yq1 zq1 st1 hQ1
  subst yq1 zq1
  obtain ⟨b_1, rfl, Nq1, Kq1, r1_0, r1_1⟩ := hQ1
  have N1 : Fr n0 L1 := by rw [lq1]; exact Fr.app N0 Nq1
  have g_b_1 : n0 ≤ b_1 := Nat.le_trans Z0 r1_0
  have sz_b_1 : h0.size ≤ b_1 := Nat.le_trans (Keep.refl h0 []).1 r1_0
  have Z2 : n0 ≤ T1.heap.size := Nat.le_trans Z0 Kq1.1
  have O2 : Old Z n0 T1.heap := O0.keep Kq1 all0
  have K2 : Keep h0 T1.heap [] := (Keep.refl h0 []).trans Kq1 all0
  refine Go.step (T' := T1) (f' := (mkF m 3 #[.val (.ref a1), .unset] [(.ref b_1)])) st1 ?_
  refine Go.step (T' := T1) (f' := (mkF m 4 #[.val (.ref a1), .unset] [(.ref a1), (.ref b_1)])) (fun _ k => XS.aloadN X1.here hx rfl (hb hby d7_3) rfl rfl k) ?_
  have q4 : Exa Z T1.heap s0 "com/example/tenderbook/tenderbook/Role" := (E_s0.keep Kq1)
  have q5 : Fld Z T1.heap s0 "com/example/tenderbook/tenderbook/Role" "code" "Ljava/lang/String;" (.ref t0) := (F_code_s0.keep Kq1 nin0)
  have q6 : Exa Z T1.heap t0 "java/lang/String" := (E_t0.keep Kq1)
  have q7 : Fld Z T1.heap t0 "java/lang/String" "coder" "B" (.int (0 : Int32)) := (F_coder_t0.keep Kq1 nin0)
  have q8 : Fld Z T1.heap t0 "java/lang/String" "value" "[B" (.ref v0) := (F_value_t0.keep Kq1 nin0)
  have q9 : Arv Z T1.heap v0 kv0 .byte (8 : Int32) [(.int (111 : Int32)), (.int (112 : Int32)), (.int (101 : Int32)), (.int (114 : Int32)), (.int (97 : Int32)), (.int (116 : Int32)), (.int (111 : Int32)), (.int (114 : Int32))] (.int (0 : Int32)) := (V_v0.keep Kq1 nin0)
  have q10 : Exa Z T1.heap s1 "com/example/tenderbook/tenderbook/Role" := (E_s1.keep Kq1)
  have q11 : Fld Z T1.heap s1 "com/example/tenderbook/tenderbook/Role" "code" "Ljava/lang/String;" (.ref t1) := (F_code_s1.keep Kq1 nin0)
  have q12 : Exa Z T1.heap t1 "java/lang/String" := (E_t1.keep Kq1)
  have q13 : Fld Z T1.heap t1 "java/lang/String" "coder" "B" (.int (0 : Int32)) := (F_coder_t1.keep Kq1 nin0)
  have q14 : Fld Z T1.heap t1 "java/lang/String" "value" "[B" (.ref v1) := (F_value_t1.keep Kq1 nin0)
  have q15 : Arv Z T1.heap v1 kv1 .byte (9 : Int32) [(.int (105 : Int32)), (.int (110 : Int32)), (.int (105 : Int32)), (.int (116 : Int32)), (.int (105 : Int32)), (.int (97 : Int32)), (.int (116 : Int32)), (.int (111 : Int32)), (.int (114 : Int32))] (.int (0 : Int32)) := (V_v1.keep Kq1 nin0)
  have q16 : Exa Z T1.heap s2 "com/example/tenderbook/tenderbook/Role" := (E_s2.keep Kq1)
  have q17 : Fld Z T1.heap s2 "com/example/tenderbook/tenderbook/Role" "code" "Ljava/lang/String;" (.ref t2) := (F_code_s2.keep Kq1 nin0)
  have q18 : Exa Z T1.heap t2 "java/lang/String" := (E_t2.keep Kq1)
  have q19 : Fld Z T1.heap t2 "java/lang/String" "coder" "B" (.int (0 : Int32)) := (F_coder_t2.keep Kq1 nin0)
  have q20 : Fld Z T1.heap t2 "java/lang/String" "value" "[B" (.ref v2) := (F_value_t2.keep Kq1 nin0)
  have q21 : Arv Z T1.heap v2 kv2 .byte (11 : Int32) [(.int (112 : Int32)), (.int (97 : Int32)), (.int (114 : Int32)), (.int (116 : Int32)), (.int (105 : Int32)), (.int (99 : Int32)), (.int (105 : Int32)), (.int (112 : Int32)), (.int (97 : Int32)), (.int (110 : Int32)), (.int (116 : Int32))] (.int (0 : Int32)) := (V_v2.keep Kq1 nin0)
  have q22 : Exa Z T1.heap a1 "java/lang/String" := (E_a1.keep Kq1)
  have q23 : Fld Z T1.heap a1 "java/lang/String" "coder" "B" (.int (0 : Int32)) := (F_coder_a1.keep Kq1 nin0)
  have q24 : Fld Z T1.heap a1 "java/lang/String" "value" "[B" (.ref va) := (F_value_a1.keep Kq1 nin0)
  have q25 : Arv Z T1.heap va ka .byte (11 : Int32) [(.int ((112 : Int32).toInt8.toInt32)), (.int ((97 : Int32).toInt8.toInt32)), (.int ((114 : Int32).toInt8.toInt32)), (.int ((116 : Int32).toInt8.toInt32)), (.int ((105 : Int32).toInt8.toInt32)), (.int ((99 : Int32).toInt8.toInt32)), (.int ((105 : Int32).toInt8.toInt32)), (.int ((112 : Int32).toInt8.toInt32)), (.int ((97 : Int32).toInt8.toInt32)), (.int ((110 : Int32).toInt8.toInt32)), (.int ((116 : Int32).toInt8.toInt32))] (.int (0 : Int32)) := (V_va.keep Kq1 nin0)
  obtain ⟨_, _, ⟨T3, L3, kk3, nn3⟩, -, X3, ⟨Lc3, hQ3, lq3, yq3, zq3⟩, st3⟩ := Jvm.LawKit.callS X1 hx (y := (⟨"com/example/tenderbook/tenderbook/Coded", "find", "([Lcom/example/tenderbook/tenderbook/Coded;Ljava/lang/String;)Ljava/util/Optional;"⟩ : MethodName)) hown (mvT hZ (hw _ (List.mem_of_getElem? (i := 54) rfl))) (mvT hZ (hw _ (List.mem_of_getElem? (i := 55) rfl))) (mvT hZ (hw _ (List.mem_of_getElem? (i := 56) rfl))) (mvT hZ (hw _ (List.mem_of_getElem? (i := 57) rfl))) (by decide) (backOf (W := 0) (rmFd2 l Z a0 hw [] b_1 a1 cs kv s0 s1 s2 t0 v0 kv0 t1 v1 kv1 t2 v2 kv2 va ka T1.heap n0 Z2 r1_1 q4 q5 q6 q7 q8 q9 q10 q11 q12 q13 q14 q15 q16 q17 q18 q19 q20 q21 q22 q23 q24 q25 O2 S_COMPACT_STRINGS hcs hne0 hne1 hne2) hZ (hw _ (List.mem_of_getElem? (i := 57) rfl)) (hw _ (List.mem_of_getElem? (i := 56) rfl)) (by decide) (by decide)) (g := (mkF m 4 #[.val (.ref a1), .unset] [(.ref a1), (.ref b_1)])) rfl (by rw [hml]; rfl) (argsL := [(.ref b_1), (.ref a1)]) (rest := []) (lenOf pd_11 rfl) rfl (by show 2 * 0 + _ ≤ _; exact Nat.le_of_eq rfl) (hb hby d7_4) (fun _ _ => ⟨rfl, rfl, (by decide : 1 + 1 ≤ _), (by decide : 3 + 1 ≤ _)⟩)
  dsimp only [Pt.U, Pt.locs, Pt.cells, Pt.slots] at X3 lq3 yq3 zq3 st3 hQ3
  subst yq3 zq3
  obtain ⟨q_3, rfl, Nq3, Kq3, r3_0, r3_1, r3_2⟩ := hQ3
  have N3 : Fr n0 L3 := by rw [lq3]; exact Fr.app N1 Nq3
  have g_q_3 : n0 ≤ q_3 := Nat.le_trans Z2 r3_0
  have sz_q_3 : h0.size ≤ q_3 := Nat.le_trans K2.1 r3_0
  have Z26 : n0 ≤ T3.heap.size := Nat.le_trans Z2 Kq3.1
  have O26 : Old Z n0 T3.heap := O2.keep Kq3 all0
  have K26 : Keep h0 T3.heap [] := K2.trans Kq3 all0
  refine Go.step (T' := T3) (f' := (mkF m 7 #[.val (.ref a1), .unset] [(.ref q_3)])) st3 ?_
  refine Go.step (T' := T3) (f' := (mkF m 8 #[.val (.ref a1), .val (.ref q_3)] [])) (fun _ k => XS.astoreN X3.here hx rfl (hb hby d7_7) rfl rfl (l' := #[.val (.ref a1), .val (.ref q_3)]) rfl k) ?_
  refine Go.step (T' := T3) (f' := (mkF m 9 #[.val (.ref a1), .val (.ref q_3)] [(.ref q_3)])) (fun _ k => XS.aloadN X3.here hx rfl (hb hby d7_8) rfl rfl k) ?_
  obtain ⟨cq27, kq27, q27a, q27b, q27c⟩ := isOf hZ rfl r3_1
  obtain ⟨_, _, ⟨T27, L27, kk27, nn27⟩, -, X27, ⟨Lc27, hQ27, lq27, yq27, zq27⟩, st27⟩ := X3.virtualBack hx (y := (⟨"java/util/Optional", "isEmpty", "()Z"⟩ : MethodName)) (z := (⟨"java/util/Optional", "isEmpty", "()Z"⟩ : MethodName)) hown (mvT hZ (hw _ (List.mem_of_getElem? (i := 96) rfl))) (mvT hZ (hw _ (List.mem_of_getElem? (i := 97) rfl))) (notFace_of_selects (args := #[]) (mvT hZ (hw _ (List.mem_of_getElem? (i := 99) rfl)))) (mvT hZ (hw _ (List.mem_of_getElem? (i := 99) rfl))) (mvT hZ (hw _ (List.mem_of_getElem? (i := 98) rfl))) (by decide) (backOf (W := 0) (rm16 l Z a0 hw [] q_3 s2 T3.heap n0 Z26 r3_2) hZ (hw _ (List.mem_of_getElem? (i := 100) rfl)) (hw _ (List.mem_of_getElem? (i := 81) rfl)) (by decide) (by decide)) q27a q27c (g := (mkF m 9 #[.val (.ref a1), .val (.ref q_3)] [(.ref q_3)])) rfl (by rw [hml]; rfl) (Steps.refl _) (argsL := []) (rest := []) (lenOf pd_12 rfl) rfl (by show 2 * 0 + _ ≤ _; exact Nat.le_of_eq rfl) (hb hby d7_9) (fun _ _ => ⟨rfl, rfl, (by decide : 2 + 0 ≤ _), (by decide : 4 + 0 ≤ _)⟩)
  dsimp only [Pt.U, Pt.locs, Pt.cells, Pt.slots] at X27 lq27 yq27 zq27 st27 hQ27
  subst yq27 zq27
  obtain ⟨rfl, Nq27, eh27⟩ := hQ27
  have N27 : Fr n0 L27 := by rw [lq27]; exact Fr.app N3 Nq27
  refine Go.step (T' := T27) (f' := (mkF m 12 #[.val (.ref a1), .val (.ref q_3)] [(.int (0 : Int32))])) (fun _ k => st27.trans k) ?_
  refine Go.step (T' := T27) (f' := (mkF m 29 #[.val (.ref a1), .val (.ref q_3)] [])) (fun _ k => XS.ifYes X27.here hx rfl (pc0 := 12) (pc' := 29) rfl (hb hby d7_12) rfl ((if0 _ _).trans (teq (by decide : (0 : Int32) = (0 : Int32))).1) (by decide) (by decide) k) ?_
  refine Go.step (T' := T27) (f' := (mkF m 30 #[.val (.ref a1), .val (.ref q_3)] [(.ref q_3)])) (fun _ k => XS.aloadN X27.here hx rfl (hb hby d7_29) rfl rfl k) ?_
  obtain ⟨cq28, kq28, q28a, q28b, q28c⟩ := isOf hZ eh27 r3_1
  obtain ⟨_, _, ⟨T28, L28, kk28, nn28⟩, -, X28, ⟨Lc28, hQ28, lq28, yq28, zq28⟩, st28⟩ := X27.virtualBack hx (y := (⟨"java/util/Optional", "get", "()Ljava/lang/Object;"⟩ : MethodName)) (z := (⟨"java/util/Optional", "get", "()Ljava/lang/Object;"⟩ : MethodName)) hown (mvT hZ (hw _ (List.mem_of_getElem? (i := 101) rfl))) (mvT hZ (hw _ (List.mem_of_getElem? (i := 102) rfl))) (notFace_of_selects (args := #[]) (mvT hZ (hw _ (List.mem_of_getElem? (i := 104) rfl)))) (mvT hZ (hw _ (List.mem_of_getElem? (i := 104) rfl))) (mvT hZ (hw _ (List.mem_of_getElem? (i := 103) rfl))) (by decide) (backOf (W := 0) (rm17 l Z a0 hw [] q_3 s2 T3.heap n0 Z26 r3_2) hZ (hw _ (List.mem_of_getElem? (i := 105) rfl)) (hw _ (List.mem_of_getElem? (i := 81) rfl)) (by decide) (by decide)) q28a q28c (g := (mkF m 30 #[.val (.ref a1), .val (.ref q_3)] [(.ref q_3)])) rfl (by rw [hml]; rfl) (Steps.refl _) (argsL := []) (rest := []) (lenOf pd_13 rfl) rfl (by show 2 * 0 + _ ≤ _; exact Nat.le_of_eq rfl) (hb hby d7_30) (fun _ _ => ⟨rfl, eh27, (by decide : 2 + 0 ≤ _), (by decide : 4 + 0 ≤ _)⟩)
  dsimp only [Pt.U, Pt.locs, Pt.cells, Pt.slots] at X28 lq28 yq28 zq28 st28 hQ28
  subst yq28 zq28
  obtain ⟨rfl, Nq28, eh28⟩ := hQ28
  have N28 : Fr n0 L28 := by rw [lq28]; exact Fr.app N27 Nq28
  refine Go.step (T' := T28) (f' := (mkF m 33 #[.val (.ref a1), .val (.ref q_3)] [(.ref s2)])) (fun _ k => st28.trans k) ?_
  have q29 : Exa Z T3.heap s2 "com/example/tenderbook/tenderbook/Role" := (q16.keep Kq3)
  obtain ⟨T30, X30, e30, st30⟩ := castY X28 hx hZ hown (hw _ (List.mem_of_getElem? (i := 106) rfl)) eh28 (Ins.self q29) (g := (mkF m 33 #[.val (.ref a1), .val (.ref q_3)] [(.ref s2)])) rfl rfl (hb hby d7_33)
  refine Go.step (T' := T30) (f' := (mkF m 36 #[.val (.ref a1), .val (.ref q_3)] [(.ref s2)])) st30 ?_
  refine goA X30 hx Bd.returns rfl rfl Bd.notSynchronized (hb hby d7_36) ?_ (by decide) (by decide)
  show Q_rmOc2 Z a1 cs kv s0 s1 s2 t0 v0 kv0 t1 v1 kv1 t2 v2 kv2 va ka sv h0 n0 _ T30.heap _
  rw [e30]
  exact ⟨rfl, N28, K26⟩
theorem pd_14 : parseMethodDescriptor "([C)V" = some ⟨[(.array .char)], none⟩ := by decide +kernel
theorem pd_15 : parseMethodDescriptor "(Ljava/lang/String;)Lcom/example/tenderbook/tenderbook/Role;" = some ⟨[(.object "java/lang/String")], some (.object "com/example/tenderbook/tenderbook/Role")⟩ := by decide +kernel
theorem pn_0 : plainName "com/example/tenderbook/tenderbook/RoleOfCodePinLaw" = true := by first | (simp [plainName, overriddenIn]; done) | decide +kernel
theorem ef_rm0 (m : MethodId) (p1 : Int32) : entryFrame m #[(.int p1)] maxLocals = mkF m 0 #[.val (.int p1), .unset, .unset, .unset, .unset] [] := by first | (simp [entryFrame, mkF, argsToLocals, Value.category, maxLocals]; done) | rfl
def Q_rm0 (Z : State) (p1 : Int32) (cs : Int32) (sv : Addr) (kv : ClassId) (s0 : Addr) (s1 : Addr) (s2 : Addr) (t0 : Addr) (v0 : Addr) (kv0 : ClassId) (t1 : Addr) (v1 : Addr) (kv1 : ClassId) (t2 : Addr) (v2 : Addr) (kv2 : ClassId) (h0 : Heap) (n0 : Nat) (rv : Option Value) (hq : Heap) (Lq : List Loc) : Prop := rv = some (.int (1 : Int32)) ∧ Fr n0 Lq
set_option maxRecDepth 65536 in
set_option maxHeartbeats 40000000 in
theorem rm0 (l : Launch) (Z : State) (a0 : Array Value) (hw : ∀ d ∈ tables_1, d.before a0 Z = true) (ws : List Jvm.Cond) (p1 : Int32) (cs : Int32) (sv : Addr) (kv : ClassId) (s0 : Addr) (s1 : Addr) (s2 : Addr) (t0 : Addr) (v0 : Addr) (kv0 : ClassId) (t1 : Addr) (v1 : Addr) (kv1 : ClassId) (t2 : Addr) (v2 : Addr) (kv2 : ClassId) (h0 : Heap) (n0 : Nat) (Z0 : n0 ≤ h0.size) (E_sv : Exa Z h0 sv "[Lcom/example/tenderbook/tenderbook/Role;") (V_sv : Arv Z h0 sv kv (.object "com/example/tenderbook/tenderbook/Role") (3 : Int32) [(.ref s0), (.ref s1), (.ref s2)] .null) (E_s0 : Exa Z h0 s0 "com/example/tenderbook/tenderbook/Role") (F_code_s0 : Fld Z h0 s0 "com/example/tenderbook/tenderbook/Role" "code" "Ljava/lang/String;" (.ref t0)) (E_t0 : Exa Z h0 t0 "java/lang/String") (F_coder_t0 : Fld Z h0 t0 "java/lang/String" "coder" "B" (.int (0 : Int32))) (F_value_t0 : Fld Z h0 t0 "java/lang/String" "value" "[B" (.ref v0)) (V_v0 : Arv Z h0 v0 kv0 .byte (8 : Int32) [(.int (111 : Int32)), (.int (112 : Int32)), (.int (101 : Int32)), (.int (114 : Int32)), (.int (97 : Int32)), (.int (116 : Int32)), (.int (111 : Int32)), (.int (114 : Int32))] (.int (0 : Int32))) (E_s1 : Exa Z h0 s1 "com/example/tenderbook/tenderbook/Role") (F_code_s1 : Fld Z h0 s1 "com/example/tenderbook/tenderbook/Role" "code" "Ljava/lang/String;" (.ref t1)) (E_t1 : Exa Z h0 t1 "java/lang/String") (F_coder_t1 : Fld Z h0 t1 "java/lang/String" "coder" "B" (.int (0 : Int32))) (F_value_t1 : Fld Z h0 t1 "java/lang/String" "value" "[B" (.ref v1)) (V_v1 : Arv Z h0 v1 kv1 .byte (9 : Int32) [(.int (105 : Int32)), (.int (110 : Int32)), (.int (105 : Int32)), (.int (116 : Int32)), (.int (105 : Int32)), (.int (97 : Int32)), (.int (116 : Int32)), (.int (111 : Int32)), (.int (114 : Int32))] (.int (0 : Int32))) (E_s2 : Exa Z h0 s2 "com/example/tenderbook/tenderbook/Role") (F_code_s2 : Fld Z h0 s2 "com/example/tenderbook/tenderbook/Role" "code" "Ljava/lang/String;" (.ref t2)) (E_t2 : Exa Z h0 t2 "java/lang/String") (F_coder_t2 : Fld Z h0 t2 "java/lang/String" "coder" "B" (.int (0 : Int32))) (F_value_t2 : Fld Z h0 t2 "java/lang/String" "value" "[B" (.ref v2)) (V_v2 : Arv Z h0 v2 kv2 .byte (11 : Int32) [(.int (112 : Int32)), (.int (97 : Int32)), (.int (114 : Int32)), (.int (116 : Int32)), (.int (105 : Int32)), (.int (99 : Int32)), (.int (105 : Int32)), (.int (112 : Int32)), (.int (97 : Int32)), (.int (110 : Int32)), (.int (116 : Int32))] (.int (0 : Int32))) (O0 : Old Z n0 h0) (S_COMPACT_STRINGS : Sta Z Z.heap "java/lang/String" "COMPACT_STRINGS" "Z" (.int cs)) (hcs : ¬ cs = (0 : Int32)) (S_OPERATOR : Sta Z Z.heap "com/example/tenderbook/tenderbook/Role" "OPERATOR" "Lcom/example/tenderbook/tenderbook/Role;" (.ref s0)) (S_INITIATOR : Sta Z Z.heap "com/example/tenderbook/tenderbook/Role" "INITIATOR" "Lcom/example/tenderbook/tenderbook/Role;" (.ref s1)) (S_PARTICIPANT : Sta Z Z.heap "com/example/tenderbook/tenderbook/Role" "PARTICIPANT" "Lcom/example/tenderbook/tenderbook/Role;" (.ref s2)) (S__VALUES : Sta Z Z.heap "com/example/tenderbook/tenderbook/Role" "$VALUES" "[Lcom/example/tenderbook/tenderbook/Role;" (.ref sv)) :
    MetFree l x (head1 (Jvm.Cond.code x code maxLocals ret :: ws) room_1) (fun a U => a = #[(.int p1)] ∧ Z.Warmed39 U.vm ∧ U.heap = h0) (fun _ _ _ _ _ => True) (fun _ U o U' => ∃ rv Lq, o = .returned rv ∧ Q_rm0 Z p1 cs sv kv s0 s1 s2 t0 v0 kv0 t1 v1 kv1 t2 v2 kv2 h0 n0 rv U'.heap Lq ∧ FrameEnd U o U' Lq room_1.cells room_1.slots) := by
  refine MetFree.of_bodySF (plainFor_of_name pn_0) hisR ?_
  intro p e s m args below meth c s₁ Bd hml0 hP hK
  obtain ⟨rfl, hZ, hh⟩ := hP
  have hx := Bd.exec
  have hby := Bd.bytes
  have hml : c.maxLocals = 5 := hml0
  have hown : s.vm.findClass "com/example/tenderbook/tenderbook/RoleOfCodePinLaw" = some m.cls := findClass_of_methodNamed Bd.named
  have hnm := (name_of_methodNamed Bd.named Bd.method).1
  have X0 : Stand p l e room_1 s m #[(.int p1)] below meth c s₁ [] 0 0 := Stand.of_body Bd
  have e0 : s₁.heap = h0 := by rw [← hh, Bd.state]; rfl
  have N0 := Fr.nil n0
  refine of_go (ef_rm0 m p1) ?_
  refine Go.step (T' := s₁) (f' := (mkF m 1 #[.val (.int p1), .unset, .unset, .unset, .unset] [(.int p1)])) (fun _ k => XS.iloadN X0.here hx rfl (hb hby at_0) rfl k) ?_
  refine Go.step (T' := s₁) (f' := (mkF m 3 #[.val (.int p1), .unset, .unset, .unset, .unset] [(.int (2147483647 : Int32)), (.int p1)])) (fun _ k => X0.ldcInt hx hown (mvT hZ (hw _ (List.mem_of_getElem? (i := 0) rfl))) (g := (mkF m 1 #[.val (.int p1), .unset, .unset, .unset, .unset] [(.int p1)])) rfl (hb hby at_1) _ k) ?_
  refine Go.step (T' := s₁) (f' := (mkF m 4 #[.val (.int p1), .unset, .unset, .unset, .unset] [(.int (p1 &&& (2147483647 : Int32)))])) (fun _ k => XS.iand X0.here hx rfl (hb hby at_3) rfl k) ?_
  refine Go.step (T' := s₁) (f' := (mkF m 5 #[.val (.int p1), .unset, .unset, .unset, .unset] [(.int (3 : Int32)), (.int (p1 &&& (2147483647 : Int32)))])) (fun _ k => XS.iconst X0.here hx rfl (hb hby at_4) k) ?_
  refine Go.step (T' := s₁) (f' := (mkF m 6 #[.val (.int p1), .unset, .unset, .unset, .unset] [(.int ((p1 &&& (2147483647 : Int32)) % (3 : Int32)))])) (fun _ k => iremM X0 hx rfl (hb hby at_5) rfl (by decide) k) ?_
  refine Go.step (T' := s₁) (f' := (mkF m 7 #[.val (.int p1), .val (.int ((p1 &&& (2147483647 : Int32)) % (3 : Int32))), .unset, .unset, .unset] [])) (fun _ k => XS.istoreN X0.here hx rfl (hb hby at_6) rfl (l' := #[.val (.int p1), .val (.int ((p1 &&& (2147483647 : Int32)) % (3 : Int32))), .unset, .unset, .unset]) rfl k) ?_
  refine Go.step (T' := s₁) (f' := (mkF m 8 #[.val (.int p1), .val (.int ((p1 &&& (2147483647 : Int32)) % (3 : Int32))), .unset, .unset, .unset] [(.int ((p1 &&& (2147483647 : Int32)) % (3 : Int32)))])) (fun _ k => XS.iloadN X0.here hx rfl (hb hby at_7) rfl k) ?_
  by_cases hc8 : ((p1 &&& (2147483647 : Int32)) % (3 : Int32)) = (0 : Int32)
  · refine Go.step (T' := s₁) (f' := (mkF m 11 #[.val (.int p1), .val (.int ((p1 &&& (2147483647 : Int32)) % (3 : Int32))), .unset, .unset, .unset] [])) (fun _ k => XS.ifNo X0.here hx rfl (hb hby at_8) rfl ((if0 _ _).trans (teq hc8).2) k) ?_
    refine Go.step (T' := s₁) (f' := (mkF m 13 #[.val (.int p1), .val (.int ((p1 &&& (2147483647 : Int32)) % (3 : Int32))), .unset, .unset, .unset] [(.int (8 : Int32))])) (fun _ k => XS.bipush X0.here hx rfl (hb hby at_11) k) ?_
    obtain ⟨T1, h1, k1, X1, e1, E1, A1, st1⟩ := newP X0 hx hZ (hw _ (List.mem_of_getElem? (i := 1) rfl)) e0 (g := (mkF m 13 #[.val (.int p1), .val (.int ((p1 &&& (2147483647 : Int32)) % (3 : Int32))), .unset, .unset, .unset] [(.int (8 : Int32))])) rfl (hb hby at_13) rfl (by decide) (cap := 8) (by decide) (by decide) (by decide) (by decide)
    obtain ⟨b1, g1⟩ : ∃ z, z = h0.size := ⟨_, rfl⟩
    rw [← g1] at A1 st1
    have g_b1 : n0 ≤ b1 := Nat.le_trans Z0 (Nat.le_of_eq g1.symm)
    have Z2 : n0 ≤ h1.size := Nat.le_trans Z0 E1.1
    have O2 : Old Z n0 h1 := O0.ext E1
    have V_b1 : Arv Z h1 b1 k1 .char (8 : Int32) [(.int (0 : Int32)), (.int (0 : Int32)), (.int (0 : Int32)), (.int (0 : Int32)), (.int (0 : Int32)), (.int (0 : Int32)), (.int (0 : Int32)), (.int (0 : Int32))] (.int (0 : Int32)) := (Arv.new A1 (by decide)).pad (pad_rep [] (.int (0 : Int32)) 8)
    refine Go.step (T' := T1) (f' := (mkF m 15 #[.val (.int p1), .val (.int ((p1 &&& (2147483647 : Int32)) % (3 : Int32))), .unset, .unset, .unset] [(.ref b1)])) st1 ?_
    refine Go.step (T' := T1) (f' := (mkF m 16 #[.val (.int p1), .val (.int ((p1 &&& (2147483647 : Int32)) % (3 : Int32))), .unset, .unset, .unset] [(.ref b1), (.ref b1)])) (fun _ k => XS.dup X1.here hx rfl (hb hby at_15) rfl rfl k) ?_
    refine Go.step (T' := T1) (f' := (mkF m 17 #[.val (.int p1), .val (.int ((p1 &&& (2147483647 : Int32)) % (3 : Int32))), .unset, .unset, .unset] [(.int (0 : Int32)), (.ref b1), (.ref b1)])) (fun _ k => XS.iconst X1.here hx rfl (hb hby at_16) k) ?_
    refine Go.step (T' := T1) (f' := (mkF m 19 #[.val (.int p1), .val (.int ((p1 &&& (2147483647 : Int32)) % (3 : Int32))), .unset, .unset, .unset] [(.int (111 : Int32)), (.int (0 : Int32)), (.ref b1), (.ref b1)])) (fun _ k => XS.bipush X1.here hx rfl (hb hby at_17) k) ?_
    obtain ⟨cl3, Ar3, qc3, Sz3, Nn3, Hs3, Gf3⟩ := id V_b1
    have hin4 : ¬ ((0 : Int32) < 0 ∨ cl3.slots.size ≤ ((0 : Int32)).toNatClampNeg) := (inb_of Sz3 ⟨by decide, by decide⟩)
    obtain ⟨T4, h4, X4, e4, W4, st4⟩ := stC X1 hx hZ e1 Ar3 (j := (0 : Int32)) hin4 (g := (mkF m 19 #[.val (.int p1), .val (.int ((p1 &&& (2147483647 : Int32)) % (3 : Int32))), .unset, .unset, .unset] [(.int (111 : Int32)), (.int (0 : Int32)), (.ref b1), (.ref b1)])) rfl rfl (hb hby at_19)
    have N4 := Fr.snoc X4 N0 g_b1
    have Z5 : n0 ≤ h4.size := Nat.le_trans Z2 (Keep.of_wr W4).1
    have O5 : Old Z n0 h4 := O2.wr W4 g_b1
    have Va4 : Arv Z h4 b1 k1 .char (8 : Int32) [(.int (111 : Int32)), (.int (0 : Int32)), (.int (0 : Int32)), (.int (0 : Int32)), (.int (0 : Int32)), (.int (0 : Int32)), (.int (0 : Int32)), (.int (0 : Int32))] (.int (0 : Int32)) := Arv.set Ar3 qc3 Sz3 Nn3 Hs3 Gf3 (by decide) W4 0 rfl (Nat.le_of_ble_eq_true rfl)
    refine Go.step (T' := T4) (f' := (mkF m 20 #[.val (.int p1), .val (.int ((p1 &&& (2147483647 : Int32)) % (3 : Int32))), .unset, .unset, .unset] [(.ref b1)])) st4 ?_
    refine Go.step (T' := T4) (f' := (mkF m 21 #[.val (.int p1), .val (.int ((p1 &&& (2147483647 : Int32)) % (3 : Int32))), .unset, .unset, .unset] [(.ref b1), (.ref b1)])) (fun _ k => XS.dup X4.here hx rfl (hb hby at_20) rfl rfl k) ?_
    refine Go.step (T' := T4) (f' := (mkF m 22 #[.val (.int p1), .val (.int ((p1 &&& (2147483647 : Int32)) % (3 : Int32))), .unset, .unset, .unset] [(.int (1 : Int32)), (.ref b1), (.ref b1)])) (fun _ k => XS.iconst X4.here hx rfl (hb hby at_21) k) ?_
    refine Go.step (T' := T4) (f' := (mkF m 24 #[.val (.int p1), .val (.int ((p1 &&& (2147483647 : Int32)) % (3 : Int32))), .unset, .unset, .unset] [(.int (112 : Int32)), (.int (1 : Int32)), (.ref b1), (.ref b1)])) (fun _ k => XS.bipush X4.here hx rfl (hb hby at_22) k) ?_
    obtain ⟨cl6, Ar6, qc6, Sz6, Nn6, Hs6, Gf6⟩ := id Va4
    have hin7 : ¬ ((1 : Int32) < 0 ∨ cl6.slots.size ≤ ((1 : Int32)).toNatClampNeg) := (inb_of Sz6 ⟨by decide, by decide⟩)
    obtain ⟨T7, h7, X7, e7, W7, st7⟩ := stC X4 hx hZ e4 Ar6 (j := (1 : Int32)) hin7 (g := (mkF m 24 #[.val (.int p1), .val (.int ((p1 &&& (2147483647 : Int32)) % (3 : Int32))), .unset, .unset, .unset] [(.int (112 : Int32)), (.int (1 : Int32)), (.ref b1), (.ref b1)])) rfl rfl (hb hby at_24)
    have N7 := Fr.snoc X7 N4 g_b1
    have Z8 : n0 ≤ h7.size := Nat.le_trans Z5 (Keep.of_wr W7).1
    have O8 : Old Z n0 h7 := O5.wr W7 g_b1
    have Va7 : Arv Z h7 b1 k1 .char (8 : Int32) [(.int (111 : Int32)), (.int (112 : Int32)), (.int (0 : Int32)), (.int (0 : Int32)), (.int (0 : Int32)), (.int (0 : Int32)), (.int (0 : Int32)), (.int (0 : Int32))] (.int (0 : Int32)) := Arv.set Ar6 qc6 Sz6 Nn6 Hs6 Gf6 (by decide) W7 1 rfl (Nat.le_of_ble_eq_true rfl)
    refine Go.step (T' := T7) (f' := (mkF m 25 #[.val (.int p1), .val (.int ((p1 &&& (2147483647 : Int32)) % (3 : Int32))), .unset, .unset, .unset] [(.ref b1)])) st7 ?_
    refine Go.step (T' := T7) (f' := (mkF m 26 #[.val (.int p1), .val (.int ((p1 &&& (2147483647 : Int32)) % (3 : Int32))), .unset, .unset, .unset] [(.ref b1), (.ref b1)])) (fun _ k => XS.dup X7.here hx rfl (hb hby at_25) rfl rfl k) ?_
    refine Go.step (T' := T7) (f' := (mkF m 27 #[.val (.int p1), .val (.int ((p1 &&& (2147483647 : Int32)) % (3 : Int32))), .unset, .unset, .unset] [(.int (2 : Int32)), (.ref b1), (.ref b1)])) (fun _ k => XS.iconst X7.here hx rfl (hb hby at_26) k) ?_
    refine Go.step (T' := T7) (f' := (mkF m 29 #[.val (.int p1), .val (.int ((p1 &&& (2147483647 : Int32)) % (3 : Int32))), .unset, .unset, .unset] [(.int (101 : Int32)), (.int (2 : Int32)), (.ref b1), (.ref b1)])) (fun _ k => XS.bipush X7.here hx rfl (hb hby at_27) k) ?_
    obtain ⟨cl9, Ar9, qc9, Sz9, Nn9, Hs9, Gf9⟩ := id Va7
    have hin10 : ¬ ((2 : Int32) < 0 ∨ cl9.slots.size ≤ ((2 : Int32)).toNatClampNeg) := (inb_of Sz9 ⟨by decide, by decide⟩)
    obtain ⟨T10, h10, X10, e10, W10, st10⟩ := stC X7 hx hZ e7 Ar9 (j := (2 : Int32)) hin10 (g := (mkF m 29 #[.val (.int p1), .val (.int ((p1 &&& (2147483647 : Int32)) % (3 : Int32))), .unset, .unset, .unset] [(.int (101 : Int32)), (.int (2 : Int32)), (.ref b1), (.ref b1)])) rfl rfl (hb hby at_29)
    have N10 := Fr.snoc X10 N7 g_b1
    have Z11 : n0 ≤ h10.size := Nat.le_trans Z8 (Keep.of_wr W10).1
    have O11 : Old Z n0 h10 := O8.wr W10 g_b1
    have Va10 : Arv Z h10 b1 k1 .char (8 : Int32) [(.int (111 : Int32)), (.int (112 : Int32)), (.int (101 : Int32)), (.int (0 : Int32)), (.int (0 : Int32)), (.int (0 : Int32)), (.int (0 : Int32)), (.int (0 : Int32))] (.int (0 : Int32)) := Arv.set Ar9 qc9 Sz9 Nn9 Hs9 Gf9 (by decide) W10 2 rfl (Nat.le_of_ble_eq_true rfl)
    refine Go.step (T' := T10) (f' := (mkF m 30 #[.val (.int p1), .val (.int ((p1 &&& (2147483647 : Int32)) % (3 : Int32))), .unset, .unset, .unset] [(.ref b1)])) st10 ?_
    refine Go.step (T' := T10) (f' := (mkF m 31 #[.val (.int p1), .val (.int ((p1 &&& (2147483647 : Int32)) % (3 : Int32))), .unset, .unset, .unset] [(.ref b1), (.ref b1)])) (fun _ k => XS.dup X10.here hx rfl (hb hby at_30) rfl rfl k) ?_
    refine Go.step (T' := T10) (f' := (mkF m 32 #[.val (.int p1), .val (.int ((p1 &&& (2147483647 : Int32)) % (3 : Int32))), .unset, .unset, .unset] [(.int (3 : Int32)), (.ref b1), (.ref b1)])) (fun _ k => XS.iconst X10.here hx rfl (hb hby at_31) k) ?_
    refine Go.step (T' := T10) (f' := (mkF m 34 #[.val (.int p1), .val (.int ((p1 &&& (2147483647 : Int32)) % (3 : Int32))), .unset, .unset, .unset] [(.int (114 : Int32)), (.int (3 : Int32)), (.ref b1), (.ref b1)])) (fun _ k => XS.bipush X10.here hx rfl (hb hby at_32) k) ?_
    obtain ⟨cl12, Ar12, qc12, Sz12, Nn12, Hs12, Gf12⟩ := id Va10
    have hin13 : ¬ ((3 : Int32) < 0 ∨ cl12.slots.size ≤ ((3 : Int32)).toNatClampNeg) := (inb_of Sz12 ⟨by decide, by decide⟩)
    obtain ⟨T13, h13, X13, e13, W13, st13⟩ := stC X10 hx hZ e10 Ar12 (j := (3 : Int32)) hin13 (g := (mkF m 34 #[.val (.int p1), .val (.int ((p1 &&& (2147483647 : Int32)) % (3 : Int32))), .unset, .unset, .unset] [(.int (114 : Int32)), (.int (3 : Int32)), (.ref b1), (.ref b1)])) rfl rfl (hb hby at_34)
    have N13 := Fr.snoc X13 N10 g_b1
    have Z14 : n0 ≤ h13.size := Nat.le_trans Z11 (Keep.of_wr W13).1
    have O14 : Old Z n0 h13 := O11.wr W13 g_b1
    have Va13 : Arv Z h13 b1 k1 .char (8 : Int32) [(.int (111 : Int32)), (.int (112 : Int32)), (.int (101 : Int32)), (.int (114 : Int32)), (.int (0 : Int32)), (.int (0 : Int32)), (.int (0 : Int32)), (.int (0 : Int32))] (.int (0 : Int32)) := Arv.set Ar12 qc12 Sz12 Nn12 Hs12 Gf12 (by decide) W13 3 rfl (Nat.le_of_ble_eq_true rfl)
    refine Go.step (T' := T13) (f' := (mkF m 35 #[.val (.int p1), .val (.int ((p1 &&& (2147483647 : Int32)) % (3 : Int32))), .unset, .unset, .unset] [(.ref b1)])) st13 ?_
    refine Go.step (T' := T13) (f' := (mkF m 36 #[.val (.int p1), .val (.int ((p1 &&& (2147483647 : Int32)) % (3 : Int32))), .unset, .unset, .unset] [(.ref b1), (.ref b1)])) (fun _ k => XS.dup X13.here hx rfl (hb hby at_35) rfl rfl k) ?_
    refine Go.step (T' := T13) (f' := (mkF m 37 #[.val (.int p1), .val (.int ((p1 &&& (2147483647 : Int32)) % (3 : Int32))), .unset, .unset, .unset] [(.int (4 : Int32)), (.ref b1), (.ref b1)])) (fun _ k => XS.iconst X13.here hx rfl (hb hby at_36) k) ?_
    refine Go.step (T' := T13) (f' := (mkF m 39 #[.val (.int p1), .val (.int ((p1 &&& (2147483647 : Int32)) % (3 : Int32))), .unset, .unset, .unset] [(.int (97 : Int32)), (.int (4 : Int32)), (.ref b1), (.ref b1)])) (fun _ k => XS.bipush X13.here hx rfl (hb hby at_37) k) ?_
    obtain ⟨cl15, Ar15, qc15, Sz15, Nn15, Hs15, Gf15⟩ := id Va13
    have hin16 : ¬ ((4 : Int32) < 0 ∨ cl15.slots.size ≤ ((4 : Int32)).toNatClampNeg) := (inb_of Sz15 ⟨by decide, by decide⟩)
    obtain ⟨T16, h16, X16, e16, W16, st16⟩ := stC X13 hx hZ e13 Ar15 (j := (4 : Int32)) hin16 (g := (mkF m 39 #[.val (.int p1), .val (.int ((p1 &&& (2147483647 : Int32)) % (3 : Int32))), .unset, .unset, .unset] [(.int (97 : Int32)), (.int (4 : Int32)), (.ref b1), (.ref b1)])) rfl rfl (hb hby at_39)
    have N16 := Fr.snoc X16 N13 g_b1
    have Z17 : n0 ≤ h16.size := Nat.le_trans Z14 (Keep.of_wr W16).1
    have O17 : Old Z n0 h16 := O14.wr W16 g_b1
    have Va16 : Arv Z h16 b1 k1 .char (8 : Int32) [(.int (111 : Int32)), (.int (112 : Int32)), (.int (101 : Int32)), (.int (114 : Int32)), (.int (97 : Int32)), (.int (0 : Int32)), (.int (0 : Int32)), (.int (0 : Int32))] (.int (0 : Int32)) := Arv.set Ar15 qc15 Sz15 Nn15 Hs15 Gf15 (by decide) W16 4 rfl (Nat.le_of_ble_eq_true rfl)
    refine Go.step (T' := T16) (f' := (mkF m 40 #[.val (.int p1), .val (.int ((p1 &&& (2147483647 : Int32)) % (3 : Int32))), .unset, .unset, .unset] [(.ref b1)])) st16 ?_
    refine Go.step (T' := T16) (f' := (mkF m 41 #[.val (.int p1), .val (.int ((p1 &&& (2147483647 : Int32)) % (3 : Int32))), .unset, .unset, .unset] [(.ref b1), (.ref b1)])) (fun _ k => XS.dup X16.here hx rfl (hb hby at_40) rfl rfl k) ?_
    refine Go.step (T' := T16) (f' := (mkF m 42 #[.val (.int p1), .val (.int ((p1 &&& (2147483647 : Int32)) % (3 : Int32))), .unset, .unset, .unset] [(.int (5 : Int32)), (.ref b1), (.ref b1)])) (fun _ k => XS.iconst X16.here hx rfl (hb hby at_41) k) ?_
    refine Go.step (T' := T16) (f' := (mkF m 44 #[.val (.int p1), .val (.int ((p1 &&& (2147483647 : Int32)) % (3 : Int32))), .unset, .unset, .unset] [(.int (116 : Int32)), (.int (5 : Int32)), (.ref b1), (.ref b1)])) (fun _ k => XS.bipush X16.here hx rfl (hb hby at_42) k) ?_
    obtain ⟨cl18, Ar18, qc18, Sz18, Nn18, Hs18, Gf18⟩ := id Va16
    have hin19 : ¬ ((5 : Int32) < 0 ∨ cl18.slots.size ≤ ((5 : Int32)).toNatClampNeg) := (inb_of Sz18 ⟨by decide, by decide⟩)
    obtain ⟨T19, h19, X19, e19, W19, st19⟩ := stC X16 hx hZ e16 Ar18 (j := (5 : Int32)) hin19 (g := (mkF m 44 #[.val (.int p1), .val (.int ((p1 &&& (2147483647 : Int32)) % (3 : Int32))), .unset, .unset, .unset] [(.int (116 : Int32)), (.int (5 : Int32)), (.ref b1), (.ref b1)])) rfl rfl (hb hby at_44)
    have N19 := Fr.snoc X19 N16 g_b1
    have Z20 : n0 ≤ h19.size := Nat.le_trans Z17 (Keep.of_wr W19).1
    have O20 : Old Z n0 h19 := O17.wr W19 g_b1
    have Va19 : Arv Z h19 b1 k1 .char (8 : Int32) [(.int (111 : Int32)), (.int (112 : Int32)), (.int (101 : Int32)), (.int (114 : Int32)), (.int (97 : Int32)), (.int (116 : Int32)), (.int (0 : Int32)), (.int (0 : Int32))] (.int (0 : Int32)) := Arv.set Ar18 qc18 Sz18 Nn18 Hs18 Gf18 (by decide) W19 5 rfl (Nat.le_of_ble_eq_true rfl)
    refine Go.step (T' := T19) (f' := (mkF m 45 #[.val (.int p1), .val (.int ((p1 &&& (2147483647 : Int32)) % (3 : Int32))), .unset, .unset, .unset] [(.ref b1)])) st19 ?_
    refine Go.step (T' := T19) (f' := (mkF m 46 #[.val (.int p1), .val (.int ((p1 &&& (2147483647 : Int32)) % (3 : Int32))), .unset, .unset, .unset] [(.ref b1), (.ref b1)])) (fun _ k => XS.dup X19.here hx rfl (hb hby at_45) rfl rfl k) ?_
    refine Go.step (T' := T19) (f' := (mkF m 48 #[.val (.int p1), .val (.int ((p1 &&& (2147483647 : Int32)) % (3 : Int32))), .unset, .unset, .unset] [(.int (6 : Int32)), (.ref b1), (.ref b1)])) (fun _ k => XS.bipush X19.here hx rfl (hb hby at_46) k) ?_
    refine Go.step (T' := T19) (f' := (mkF m 50 #[.val (.int p1), .val (.int ((p1 &&& (2147483647 : Int32)) % (3 : Int32))), .unset, .unset, .unset] [(.int (111 : Int32)), (.int (6 : Int32)), (.ref b1), (.ref b1)])) (fun _ k => XS.bipush X19.here hx rfl (hb hby at_48) k) ?_
    obtain ⟨cl21, Ar21, qc21, Sz21, Nn21, Hs21, Gf21⟩ := id Va19
    have hin22 : ¬ ((6 : Int32) < 0 ∨ cl21.slots.size ≤ ((6 : Int32)).toNatClampNeg) := (inb_of Sz21 ⟨by decide, by decide⟩)
    obtain ⟨T22, h22, X22, e22, W22, st22⟩ := stC X19 hx hZ e19 Ar21 (j := (6 : Int32)) hin22 (g := (mkF m 50 #[.val (.int p1), .val (.int ((p1 &&& (2147483647 : Int32)) % (3 : Int32))), .unset, .unset, .unset] [(.int (111 : Int32)), (.int (6 : Int32)), (.ref b1), (.ref b1)])) rfl rfl (hb hby at_50)
    have N22 := Fr.snoc X22 N19 g_b1
    have Z23 : n0 ≤ h22.size := Nat.le_trans Z20 (Keep.of_wr W22).1
    have O23 : Old Z n0 h22 := O20.wr W22 g_b1
    have Va22 : Arv Z h22 b1 k1 .char (8 : Int32) [(.int (111 : Int32)), (.int (112 : Int32)), (.int (101 : Int32)), (.int (114 : Int32)), (.int (97 : Int32)), (.int (116 : Int32)), (.int (111 : Int32)), (.int (0 : Int32))] (.int (0 : Int32)) := Arv.set Ar21 qc21 Sz21 Nn21 Hs21 Gf21 (by decide) W22 6 rfl (Nat.le_of_ble_eq_true rfl)
    refine Go.step (T' := T22) (f' := (mkF m 51 #[.val (.int p1), .val (.int ((p1 &&& (2147483647 : Int32)) % (3 : Int32))), .unset, .unset, .unset] [(.ref b1)])) st22 ?_
    refine Go.step (T' := T22) (f' := (mkF m 52 #[.val (.int p1), .val (.int ((p1 &&& (2147483647 : Int32)) % (3 : Int32))), .unset, .unset, .unset] [(.ref b1), (.ref b1)])) (fun _ k => XS.dup X22.here hx rfl (hb hby at_51) rfl rfl k) ?_
    refine Go.step (T' := T22) (f' := (mkF m 54 #[.val (.int p1), .val (.int ((p1 &&& (2147483647 : Int32)) % (3 : Int32))), .unset, .unset, .unset] [(.int (7 : Int32)), (.ref b1), (.ref b1)])) (fun _ k => XS.bipush X22.here hx rfl (hb hby at_52) k) ?_
    refine Go.step (T' := T22) (f' := (mkF m 56 #[.val (.int p1), .val (.int ((p1 &&& (2147483647 : Int32)) % (3 : Int32))), .unset, .unset, .unset] [(.int (114 : Int32)), (.int (7 : Int32)), (.ref b1), (.ref b1)])) (fun _ k => XS.bipush X22.here hx rfl (hb hby at_54) k) ?_
    obtain ⟨cl24, Ar24, qc24, Sz24, Nn24, Hs24, Gf24⟩ := id Va22
    have hin25 : ¬ ((7 : Int32) < 0 ∨ cl24.slots.size ≤ ((7 : Int32)).toNatClampNeg) := (inb_of Sz24 ⟨by decide, by decide⟩)
    obtain ⟨T25, h25, X25, e25, W25, st25⟩ := stC X22 hx hZ e22 Ar24 (j := (7 : Int32)) hin25 (g := (mkF m 56 #[.val (.int p1), .val (.int ((p1 &&& (2147483647 : Int32)) % (3 : Int32))), .unset, .unset, .unset] [(.int (114 : Int32)), (.int (7 : Int32)), (.ref b1), (.ref b1)])) rfl rfl (hb hby at_56)
    have N25 := Fr.snoc X25 N22 g_b1
    have Z26 : n0 ≤ h25.size := Nat.le_trans Z23 (Keep.of_wr W25).1
    have O26 : Old Z n0 h25 := O23.wr W25 g_b1
    have Va25 : Arv Z h25 b1 k1 .char (8 : Int32) [(.int (111 : Int32)), (.int (112 : Int32)), (.int (101 : Int32)), (.int (114 : Int32)), (.int (97 : Int32)), (.int (116 : Int32)), (.int (111 : Int32)), (.int (114 : Int32))] (.int (0 : Int32)) := Arv.set Ar24 qc24 Sz24 Nn24 Hs24 Gf24 (by decide) W25 7 rfl (Nat.le_of_ble_eq_true rfl)
    refine Go.step (T' := T25) (f' := (mkF m 57 #[.val (.int p1), .val (.int ((p1 &&& (2147483647 : Int32)) % (3 : Int32))), .unset, .unset, .unset] [(.ref b1)])) st25 ?_
    refine Go.step (T' := T25) (f' := (mkF m 58 #[.val (.int p1), .val (.int ((p1 &&& (2147483647 : Int32)) % (3 : Int32))), .val (.ref b1), .unset, .unset] [])) (fun _ k => XS.astoreN X25.here hx rfl (hb hby at_57) rfl rfl (l' := #[.val (.int p1), .val (.int ((p1 &&& (2147483647 : Int32)) % (3 : Int32))), .val (.ref b1), .unset, .unset]) rfl k) ?_
    obtain ⟨T27, X27, e27, st27⟩ := getS2 X25 hx hZ hown (host := "") (Or.inl (hw _ (List.mem_of_getElem? (i := 2) rfl))) Via.refl e25 (S_OPERATOR.ext O26.2) (g := (mkF m 58 #[.val (.int p1), .val (.int ((p1 &&& (2147483647 : Int32)) % (3 : Int32))), .val (.ref b1), .unset, .unset] [])) rfl (hb hby at_58)
    refine Go.step (T' := T27) (f' := (mkF m 61 #[.val (.int p1), .val (.int ((p1 &&& (2147483647 : Int32)) % (3 : Int32))), .val (.ref b1), .unset, .unset] [(.ref s0)])) st27 ?_
    refine Go.step (T' := T27) (f' := (mkF m 62 #[.val (.int p1), .val (.int ((p1 &&& (2147483647 : Int32)) % (3 : Int32))), .val (.ref b1), .val (.ref s0), .unset] [])) (fun _ k => XS.astoreN X27.here hx rfl (hb hby at_61) rfl rfl (l' := #[.val (.int p1), .val (.int ((p1 &&& (2147483647 : Int32)) % (3 : Int32))), .val (.ref b1), .val (.ref s0), .unset]) rfl k) ?_
    refine Go.step (T' := T27) (f' := (mkF m 199 #[.val (.int p1), .val (.int ((p1 &&& (2147483647 : Int32)) % (3 : Int32))), .val (.ref b1), .val (.ref s0), .unset] [])) (fun _ k => XS.goto X27.here hx rfl (pc0 := 62) (pc' := 199) rfl (hb hby at_62) (by decide) (by decide) k) ?_
    obtain ⟨T28, h28, X28, e28, E28, A28, D28, -, st28⟩ := newO X27 hx hZ hown (hw _ (List.mem_of_getElem? (i := 5) rfl)) (hw _ (List.mem_of_getElem? (i := 6) rfl)) (hw _ (List.mem_of_getElem? (i := 7) rfl)) e27 (g := (mkF m 199 #[.val (.int p1), .val (.int ((p1 &&& (2147483647 : Int32)) % (3 : Int32))), .val (.ref b1), .val (.ref s0), .unset] [])) rfl (hb hby at_199) (by decide) (by decide)
    obtain ⟨b28, g28⟩ : ∃ z, z = h25.size := ⟨_, rfl⟩
    rw [← g28] at A28 D28 st28
    have g_b28 : n0 ≤ b28 := Nat.le_trans Z26 (Nat.le_of_eq g28.symm)
    have Z29 : n0 ≤ h28.size := Nat.le_trans Z26 E28.1
    have O29 : Old Z n0 h28 := O26.ext E28
    have F_coder_b28 : Fld Z h28 b28 "java/lang/String" "coder" "B" (.int (0 : Int32)) := D28 (Or.inr (hw _ (List.mem_of_getElem? (i := 31) rfl))) (ty := .byte) (by decide)
    have F_value_b28 : Fld Z h28 b28 "java/lang/String" "value" "[B" .null := D28 (Or.inr (hw _ (List.mem_of_getElem? (i := 33) rfl))) (ty := (.array .byte)) (by decide)
    refine Go.step (T' := T28) (f' := (mkF m 202 #[.val (.int p1), .val (.int ((p1 &&& (2147483647 : Int32)) % (3 : Int32))), .val (.ref b1), .val (.ref s0), .unset] [(.ref b28)])) st28 ?_
    refine Go.step (T' := T28) (f' := (mkF m 203 #[.val (.int p1), .val (.int ((p1 &&& (2147483647 : Int32)) % (3 : Int32))), .val (.ref b1), .val (.ref s0), .unset] [(.ref b28), (.ref b28)])) (fun _ k => XS.dup X28.here hx rfl (hb hby at_202) rfl rfl k) ?_
    refine Go.step (T' := T28) (f' := (mkF m 204 #[.val (.int p1), .val (.int ((p1 &&& (2147483647 : Int32)) % (3 : Int32))), .val (.ref b1), .val (.ref s0), .unset] [(.ref b1), (.ref b28), (.ref b28)])) (fun _ k => XS.aloadN X28.here hx rfl (hb hby at_203) rfl rfl k) ?_
    have q31 : Arv Z h28 b1 k1 .char (8 : Int32) [(.int (111 : Int32)), (.int (112 : Int32)), (.int (101 : Int32)), (.int (114 : Int32)), (.int (97 : Int32)), (.int (116 : Int32)), (.int (111 : Int32)), (.int (114 : Int32))] (.int (0 : Int32)) := (Va25.ext E28)
    obtain ⟨_, _, ⟨T30, L30, kk30, nn30⟩, -, X30, ⟨Lc30, hQ30, lq30, yq30, zq30⟩, st30⟩ := X28.specialBack hx (y := (⟨"java/lang/String", "<init>", "([C)V"⟩ : MethodName)) rfl hown (mvT hZ (hw _ (List.mem_of_getElem? (i := 8) rfl))) (mvT hZ (hw _ (List.mem_of_getElem? (i := 9) rfl))) (mvT hZ (hw _ (List.mem_of_getElem? (i := 10) rfl))) (by decide) (backOf (W := 1) (rmSi_8 l Z a0 hw [] b28 b1 cs k1 (111 : Int32) (112 : Int32) (101 : Int32) (114 : Int32) (97 : Int32) (116 : Int32) (111 : Int32) (114 : Int32) h28 n0 Z29 A28 F_value_b28 F_coder_b28 q31 O29 S_COMPACT_STRINGS hcs (by decide) (by decide) (by decide) (by decide) (by decide) (by decide) (by decide) (by decide) g_b28) hZ (hw _ (List.mem_of_getElem? (i := 10) rfl)) (hw _ (List.mem_of_getElem? (i := 7) rfl)) (by decide) (by decide)) (g := (mkF m 204 #[.val (.int p1), .val (.int ((p1 &&& (2147483647 : Int32)) % (3 : Int32))), .val (.ref b1), .val (.ref s0), .unset] [(.ref b1), (.ref b28), (.ref b28)])) rfl (by rw [hml]; rfl) (Steps.refl _) (a := b28) (argsL := [(.ref b1)]) (rest := [(.ref b28)]) (lenOf pd_14 rfl) rfl (by show 2 * 0 + _ ≤ _; exact Nat.le_of_eq rfl) (hb hby at_204) (fun _ _ => ⟨rfl, e28, (by decide : 2 + 1 ≤ _), (by decide : 12 + 8 ≤ _)⟩)
    dsimp only [Pt.U, Pt.locs, Pt.cells, Pt.slots] at X30 lq30 yq30 zq30 st30 hQ30
    subst yq30 zq30
    obtain ⟨b_30, kb_30, rfl, Nq30, Kq30, r30_0, r30_1, r30_2, r30_3⟩ := hQ30
    have N30 : Fr n0 L30 := by rw [lq30]; exact Fr.app N25 Nq30
    have g_b_30 : n0 ≤ b_30 := Nat.le_trans Z29 r30_0
    have Z32 : n0 ≤ T30.heap.size := Nat.le_trans Z29 Kq30.1
    have O32 : Old Z n0 T30.heap := O29.keep Kq30 (allS g_b28 all0)
    refine Go.step (T' := T30) (f' := (mkF m 207 #[.val (.int p1), .val (.int ((p1 &&& (2147483647 : Int32)) % (3 : Int32))), .val (.ref b1), .val (.ref s0), .unset] [(.ref b28)])) (fun _ k => st30.trans k) ?_
    have q34 : Exa Z T30.heap sv "[Lcom/example/tenderbook/tenderbook/Role;" := (((((((((((E_sv.ext E1).wr W4).wr W7).wr W10).wr W13).wr W16).wr W19).wr W22).wr W25).ext E28).keep Kq30)
    have q35 : Arv Z T30.heap sv kv (.object "com/example/tenderbook/tenderbook/Role") (3 : Int32) [(.ref s0), (.ref s1), (.ref s2)] .null := (((((((((((V_sv.ext E1).other W4 (Nat.ne_of_lt (Nat.lt_of_lt_of_le E_sv.lt (Nat.le_of_eq g1.symm)))).other W7 (Nat.ne_of_lt (Nat.lt_of_lt_of_le E_sv.lt (Nat.le_of_eq g1.symm)))).other W10 (Nat.ne_of_lt (Nat.lt_of_lt_of_le E_sv.lt (Nat.le_of_eq g1.symm)))).other W13 (Nat.ne_of_lt (Nat.lt_of_lt_of_le E_sv.lt (Nat.le_of_eq g1.symm)))).other W16 (Nat.ne_of_lt (Nat.lt_of_lt_of_le E_sv.lt (Nat.le_of_eq g1.symm)))).other W19 (Nat.ne_of_lt (Nat.lt_of_lt_of_le E_sv.lt (Nat.le_of_eq g1.symm)))).other W22 (Nat.ne_of_lt (Nat.lt_of_lt_of_le E_sv.lt (Nat.le_of_eq g1.symm)))).other W25 (Nat.ne_of_lt (Nat.lt_of_lt_of_le E_sv.lt (Nat.le_of_eq g1.symm)))).ext E28).keep Kq30 (ninS (Nat.ne_of_lt (Nat.lt_of_lt_of_le (((((((((E_sv.ext E1).wr W4).wr W7).wr W10).wr W13).wr W16).wr W19).wr W22).wr W25).lt (Nat.le_of_eq g28.symm))) nin0))
    have q36 : Exa Z T30.heap s0 "com/example/tenderbook/tenderbook/Role" := (((((((((((E_s0.ext E1).wr W4).wr W7).wr W10).wr W13).wr W16).wr W19).wr W22).wr W25).ext E28).keep Kq30)
    have q37 : Fld Z T30.heap s0 "com/example/tenderbook/tenderbook/Role" "code" "Ljava/lang/String;" (.ref t0) := (((((((((((F_code_s0.ext E1).other W4 (Or.inl (Nat.ne_of_lt (Nat.lt_of_lt_of_le E_s0.lt (Nat.le_of_eq g1.symm))))).other W7 (Or.inl (Nat.ne_of_lt (Nat.lt_of_lt_of_le E_s0.lt (Nat.le_of_eq g1.symm))))).other W10 (Or.inl (Nat.ne_of_lt (Nat.lt_of_lt_of_le E_s0.lt (Nat.le_of_eq g1.symm))))).other W13 (Or.inl (Nat.ne_of_lt (Nat.lt_of_lt_of_le E_s0.lt (Nat.le_of_eq g1.symm))))).other W16 (Or.inl (Nat.ne_of_lt (Nat.lt_of_lt_of_le E_s0.lt (Nat.le_of_eq g1.symm))))).other W19 (Or.inl (Nat.ne_of_lt (Nat.lt_of_lt_of_le E_s0.lt (Nat.le_of_eq g1.symm))))).other W22 (Or.inl (Nat.ne_of_lt (Nat.lt_of_lt_of_le E_s0.lt (Nat.le_of_eq g1.symm))))).other W25 (Or.inl (Nat.ne_of_lt (Nat.lt_of_lt_of_le E_s0.lt (Nat.le_of_eq g1.symm))))).ext E28).keep Kq30 (ninS (Nat.ne_of_lt (Nat.lt_of_lt_of_le (((((((((E_s0.ext E1).wr W4).wr W7).wr W10).wr W13).wr W16).wr W19).wr W22).wr W25).lt (Nat.le_of_eq g28.symm))) nin0))
    have q38 : Exa Z T30.heap t0 "java/lang/String" := (((((((((((E_t0.ext E1).wr W4).wr W7).wr W10).wr W13).wr W16).wr W19).wr W22).wr W25).ext E28).keep Kq30)
    have q39 : Fld Z T30.heap t0 "java/lang/String" "coder" "B" (.int (0 : Int32)) := (((((((((((F_coder_t0.ext E1).other W4 (Or.inl (Nat.ne_of_lt (Nat.lt_of_lt_of_le E_t0.lt (Nat.le_of_eq g1.symm))))).other W7 (Or.inl (Nat.ne_of_lt (Nat.lt_of_lt_of_le E_t0.lt (Nat.le_of_eq g1.symm))))).other W10 (Or.inl (Nat.ne_of_lt (Nat.lt_of_lt_of_le E_t0.lt (Nat.le_of_eq g1.symm))))).other W13 (Or.inl (Nat.ne_of_lt (Nat.lt_of_lt_of_le E_t0.lt (Nat.le_of_eq g1.symm))))).other W16 (Or.inl (Nat.ne_of_lt (Nat.lt_of_lt_of_le E_t0.lt (Nat.le_of_eq g1.symm))))).other W19 (Or.inl (Nat.ne_of_lt (Nat.lt_of_lt_of_le E_t0.lt (Nat.le_of_eq g1.symm))))).other W22 (Or.inl (Nat.ne_of_lt (Nat.lt_of_lt_of_le E_t0.lt (Nat.le_of_eq g1.symm))))).other W25 (Or.inl (Nat.ne_of_lt (Nat.lt_of_lt_of_le E_t0.lt (Nat.le_of_eq g1.symm))))).ext E28).keep Kq30 (ninS (Nat.ne_of_lt (Nat.lt_of_lt_of_le (((((((((E_t0.ext E1).wr W4).wr W7).wr W10).wr W13).wr W16).wr W19).wr W22).wr W25).lt (Nat.le_of_eq g28.symm))) nin0))
    have q40 : Fld Z T30.heap t0 "java/lang/String" "value" "[B" (.ref v0) := (((((((((((F_value_t0.ext E1).other W4 (Or.inl (Nat.ne_of_lt (Nat.lt_of_lt_of_le E_t0.lt (Nat.le_of_eq g1.symm))))).other W7 (Or.inl (Nat.ne_of_lt (Nat.lt_of_lt_of_le E_t0.lt (Nat.le_of_eq g1.symm))))).other W10 (Or.inl (Nat.ne_of_lt (Nat.lt_of_lt_of_le E_t0.lt (Nat.le_of_eq g1.symm))))).other W13 (Or.inl (Nat.ne_of_lt (Nat.lt_of_lt_of_le E_t0.lt (Nat.le_of_eq g1.symm))))).other W16 (Or.inl (Nat.ne_of_lt (Nat.lt_of_lt_of_le E_t0.lt (Nat.le_of_eq g1.symm))))).other W19 (Or.inl (Nat.ne_of_lt (Nat.lt_of_lt_of_le E_t0.lt (Nat.le_of_eq g1.symm))))).other W22 (Or.inl (Nat.ne_of_lt (Nat.lt_of_lt_of_le E_t0.lt (Nat.le_of_eq g1.symm))))).other W25 (Or.inl (Nat.ne_of_lt (Nat.lt_of_lt_of_le E_t0.lt (Nat.le_of_eq g1.symm))))).ext E28).keep Kq30 (ninS (Nat.ne_of_lt (Nat.lt_of_lt_of_le (((((((((E_t0.ext E1).wr W4).wr W7).wr W10).wr W13).wr W16).wr W19).wr W22).wr W25).lt (Nat.le_of_eq g28.symm))) nin0))
    have q41 : Arv Z T30.heap v0 kv0 .byte (8 : Int32) [(.int (111 : Int32)), (.int (112 : Int32)), (.int (101 : Int32)), (.int (114 : Int32)), (.int (97 : Int32)), (.int (116 : Int32)), (.int (111 : Int32)), (.int (114 : Int32))] (.int (0 : Int32)) := (((((((((((V_v0.ext E1).other W4 (Nat.ne_of_lt (Nat.lt_of_lt_of_le V_v0.lt (Nat.le_of_eq g1.symm)))).other W7 (Nat.ne_of_lt (Nat.lt_of_lt_of_le V_v0.lt (Nat.le_of_eq g1.symm)))).other W10 (Nat.ne_of_lt (Nat.lt_of_lt_of_le V_v0.lt (Nat.le_of_eq g1.symm)))).other W13 (Nat.ne_of_lt (Nat.lt_of_lt_of_le V_v0.lt (Nat.le_of_eq g1.symm)))).other W16 (Nat.ne_of_lt (Nat.lt_of_lt_of_le V_v0.lt (Nat.le_of_eq g1.symm)))).other W19 (Nat.ne_of_lt (Nat.lt_of_lt_of_le V_v0.lt (Nat.le_of_eq g1.symm)))).other W22 (Nat.ne_of_lt (Nat.lt_of_lt_of_le V_v0.lt (Nat.le_of_eq g1.symm)))).other W25 (Nat.ne_of_lt (Nat.lt_of_lt_of_le V_v0.lt (Nat.le_of_eq g1.symm)))).ext E28).keep Kq30 (ninS (Nat.ne_of_lt (Nat.lt_of_lt_of_le (((((((((V_v0.ext E1).other W4 (Nat.ne_of_lt (Nat.lt_of_lt_of_le V_v0.lt (Nat.le_of_eq g1.symm)))).other W7 (Nat.ne_of_lt (Nat.lt_of_lt_of_le V_v0.lt (Nat.le_of_eq g1.symm)))).other W10 (Nat.ne_of_lt (Nat.lt_of_lt_of_le V_v0.lt (Nat.le_of_eq g1.symm)))).other W13 (Nat.ne_of_lt (Nat.lt_of_lt_of_le V_v0.lt (Nat.le_of_eq g1.symm)))).other W16 (Nat.ne_of_lt (Nat.lt_of_lt_of_le V_v0.lt (Nat.le_of_eq g1.symm)))).other W19 (Nat.ne_of_lt (Nat.lt_of_lt_of_le V_v0.lt (Nat.le_of_eq g1.symm)))).other W22 (Nat.ne_of_lt (Nat.lt_of_lt_of_le V_v0.lt (Nat.le_of_eq g1.symm)))).other W25 (Nat.ne_of_lt (Nat.lt_of_lt_of_le V_v0.lt (Nat.le_of_eq g1.symm)))).lt (Nat.le_of_eq g28.symm))) nin0))
    have q42 : Exa Z T30.heap b28 "java/lang/String" := (A28.keep Kq30)
    obtain ⟨_, _, ⟨T33, L33, kk33, nn33⟩, -, X33, ⟨Lc33, hQ33, lq33, yq33, zq33⟩, st33⟩ := Jvm.LawKit.callS X30 hx (y := (⟨"com/example/tenderbook/tenderbook/Role", "ofCode", "(Ljava/lang/String;)Lcom/example/tenderbook/tenderbook/Role;"⟩ : MethodName)) hown (mvT hZ (hw _ (List.mem_of_getElem? (i := 34) rfl))) (mvT hZ (hw _ (List.mem_of_getElem? (i := 35) rfl))) (mvT hZ (hw _ (List.mem_of_getElem? (i := 3) rfl))) (mvT hZ (hw _ (List.mem_of_getElem? (i := 36) rfl))) (by decide) (backOf (W := 0) (rmOc0 l Z a0 hw [] b28 cs kv s0 s1 s2 t0 v0 kv0 b_30 kb_30 sv T30.heap n0 Z32 q34 q35 q36 q37 q38 q39 q40 q41 q42 r30_2 r30_1 r30_3 O32 S_COMPACT_STRINGS hcs S__VALUES (Nat.ne_of_lt (Nat.lt_of_lt_of_le (((((((((E_t0.ext E1).wr W4).wr W7).wr W10).wr W13).wr W16).wr W19).wr W22).wr W25).lt (Nat.le_of_eq g28.symm)))) hZ (hw _ (List.mem_of_getElem? (i := 36) rfl)) (hw _ (List.mem_of_getElem? (i := 3) rfl)) (by decide) (by decide)) (g := (mkF m 207 #[.val (.int p1), .val (.int ((p1 &&& (2147483647 : Int32)) % (3 : Int32))), .val (.ref b1), .val (.ref s0), .unset] [(.ref b28)])) rfl (by rw [hml]; rfl) (argsL := [(.ref b28)]) (rest := []) (lenOf pd_15 rfl) rfl (by show 2 * 0 + _ ≤ _; exact Nat.le_of_eq rfl) (hb hby at_207) (fun _ _ => ⟨rfl, rfl, (by decide : 3 + 2 ≤ _), (by decide : 20 + 4 ≤ _)⟩)
    dsimp only [Pt.U, Pt.locs, Pt.cells, Pt.slots] at X33 lq33 yq33 zq33 st33 hQ33
    subst yq33 zq33
    obtain ⟨rfl, Nq33, Kq33⟩ := hQ33
    have N33 : Fr n0 L33 := by rw [lq33]; exact Fr.app N30 Nq33
    have Z43 : n0 ≤ T33.heap.size := Nat.le_trans Z32 Kq33.1
    have O43 : Old Z n0 T33.heap := O32.keep Kq33 all0
    refine Go.step (T' := T33) (f' := (mkF m 210 #[.val (.int p1), .val (.int ((p1 &&& (2147483647 : Int32)) % (3 : Int32))), .val (.ref b1), .val (.ref s0), .unset] [(.ref s0)])) st33 ?_
    refine Go.step (T' := T33) (f' := (mkF m 212 #[.val (.int p1), .val (.int ((p1 &&& (2147483647 : Int32)) % (3 : Int32))), .val (.ref b1), .val (.ref s0), .val (.ref s0)] [])) (fun _ k => XS.astore X33.here hx rfl (hb hby at_210) rfl rfl (l' := #[.val (.int p1), .val (.int ((p1 &&& (2147483647 : Int32)) % (3 : Int32))), .val (.ref b1), .val (.ref s0), .val (.ref s0)]) rfl k) ?_
    refine Go.step (T' := T33) (f' := (mkF m 214 #[.val (.int p1), .val (.int ((p1 &&& (2147483647 : Int32)) % (3 : Int32))), .val (.ref b1), .val (.ref s0), .val (.ref s0)] [(.ref s0)])) (fun _ k => XS.aload X33.here hx rfl (hb hby at_212) rfl rfl k) ?_
    refine Go.step (T' := T33) (f' := (mkF m 215 #[.val (.int p1), .val (.int ((p1 &&& (2147483647 : Int32)) % (3 : Int32))), .val (.ref b1), .val (.ref s0), .val (.ref s0)] [(.ref s0), (.ref s0)])) (fun _ k => XS.aloadN X33.here hx rfl (hb hby at_214) rfl rfl k) ?_
    refine Go.step (T' := T33) (f' := (mkF m 218 #[.val (.int p1), .val (.int ((p1 &&& (2147483647 : Int32)) % (3 : Int32))), .val (.ref b1), .val (.ref s0), .val (.ref s0)] [])) (fun _ k => Jvm.RoadKit.acmp (g := (mkF m 215 #[.val (.int p1), .val (.int ((p1 &&& (2147483647 : Int32)) % (3 : Int32))), .val (.ref b1), .val (.ref s0), .val (.ref s0)] [(.ref s0), (.ref s0)])) X33 hx rfl rfl rfl (pc0 := 215) (pc' := 218) (same := true) rfl (hb hby at_215) rfl (decide_eq_true rfl) (by decide) (by decide) k) ?_
    refine Go.step (T' := T33) (f' := (mkF m 219 #[.val (.int p1), .val (.int ((p1 &&& (2147483647 : Int32)) % (3 : Int32))), .val (.ref b1), .val (.ref s0), .val (.ref s0)] [(.int (1 : Int32))])) (fun _ k => XS.iconst X33.here hx rfl (hb hby at_218) k) ?_
    refine Go.step (T' := T33) (f' := (mkF m 223 #[.val (.int p1), .val (.int ((p1 &&& (2147483647 : Int32)) % (3 : Int32))), .val (.ref b1), .val (.ref s0), .val (.ref s0)] [(.int (1 : Int32))])) (fun _ k => XS.goto X33.here hx rfl (pc0 := 219) (pc' := 223) rfl (hb hby at_219) (by decide) (by decide) k) ?_
    refine goN X33 hx (t := .boolean) Bd.returns (by simp) Bd.notSynchronized (hb hby at_223) ?_ (by decide) (by decide)
    show Q_rm0 Z p1 cs sv kv s0 s1 s2 t0 v0 kv0 t1 v1 kv1 t2 v2 kv2 h0 n0 _ T33.heap _
    exact ⟨rfl, N33⟩
  · refine Go.step (T' := s₁) (f' := (mkF m 65 #[.val (.int p1), .val (.int ((p1 &&& (2147483647 : Int32)) % (3 : Int32))), .unset, .unset, .unset] [])) (fun _ k => XS.ifYes X0.here hx rfl (pc0 := 8) (pc' := 65) rfl (hb hby at_8) rfl ((if0 _ _).trans (feq hc8).2) (by decide) (by decide) k) ?_
    refine Go.step (T' := s₁) (f' := (mkF m 66 #[.val (.int p1), .val (.int ((p1 &&& (2147483647 : Int32)) % (3 : Int32))), .unset, .unset, .unset] [(.int ((p1 &&& (2147483647 : Int32)) % (3 : Int32)))])) (fun _ k => XS.iloadN X0.here hx rfl (hb hby at_65) rfl k) ?_
    refine Go.step (T' := s₁) (f' := (mkF m 67 #[.val (.int p1), .val (.int ((p1 &&& (2147483647 : Int32)) % (3 : Int32))), .unset, .unset, .unset] [(.int (1 : Int32)), (.int ((p1 &&& (2147483647 : Int32)) % (3 : Int32)))])) (fun _ k => XS.iconst X0.here hx rfl (hb hby at_66) k) ?_
    by_cases hc67 : ((p1 &&& (2147483647 : Int32)) % (3 : Int32)) = (1 : Int32)
    · refine Go.step (T' := s₁) (f' := (mkF m 70 #[.val (.int p1), .val (.int ((p1 &&& (2147483647 : Int32)) % (3 : Int32))), .unset, .unset, .unset] [])) (fun _ k => XS.icmpNo X0.here hx rfl (hb hby at_67) rfl (teq hc67).2 k) ?_
      refine Go.step (T' := s₁) (f' := (mkF m 72 #[.val (.int p1), .val (.int ((p1 &&& (2147483647 : Int32)) % (3 : Int32))), .unset, .unset, .unset] [(.int (9 : Int32))])) (fun _ k => XS.bipush X0.here hx rfl (hb hby at_70) k) ?_
      obtain ⟨T44, h44, k44, X44, e44, E44, A44, st44⟩ := newP X0 hx hZ (hw _ (List.mem_of_getElem? (i := 1) rfl)) e0 (g := (mkF m 72 #[.val (.int p1), .val (.int ((p1 &&& (2147483647 : Int32)) % (3 : Int32))), .unset, .unset, .unset] [(.int (9 : Int32))])) rfl (hb hby at_72) rfl (by decide) (cap := 9) (by decide) (by decide) (by decide) (by decide)
      obtain ⟨b44, g44⟩ : ∃ z, z = h0.size := ⟨_, rfl⟩
      rw [← g44] at A44 st44
      have g_b44 : n0 ≤ b44 := Nat.le_trans Z0 (Nat.le_of_eq g44.symm)
      have Z45 : n0 ≤ h44.size := Nat.le_trans Z0 E44.1
      have O45 : Old Z n0 h44 := O0.ext E44
      have V_b44 : Arv Z h44 b44 k44 .char (9 : Int32) [(.int (0 : Int32)), (.int (0 : Int32)), (.int (0 : Int32)), (.int (0 : Int32)), (.int (0 : Int32)), (.int (0 : Int32)), (.int (0 : Int32)), (.int (0 : Int32)), (.int (0 : Int32))] (.int (0 : Int32)) := (Arv.new A44 (by decide)).pad (pad_rep [] (.int (0 : Int32)) 9)
      refine Go.step (T' := T44) (f' := (mkF m 74 #[.val (.int p1), .val (.int ((p1 &&& (2147483647 : Int32)) % (3 : Int32))), .unset, .unset, .unset] [(.ref b44)])) st44 ?_
      refine Go.step (T' := T44) (f' := (mkF m 75 #[.val (.int p1), .val (.int ((p1 &&& (2147483647 : Int32)) % (3 : Int32))), .unset, .unset, .unset] [(.ref b44), (.ref b44)])) (fun _ k => XS.dup X44.here hx rfl (hb hby at_74) rfl rfl k) ?_
      refine Go.step (T' := T44) (f' := (mkF m 76 #[.val (.int p1), .val (.int ((p1 &&& (2147483647 : Int32)) % (3 : Int32))), .unset, .unset, .unset] [(.int (0 : Int32)), (.ref b44), (.ref b44)])) (fun _ k => XS.iconst X44.here hx rfl (hb hby at_75) k) ?_
      refine Go.step (T' := T44) (f' := (mkF m 78 #[.val (.int p1), .val (.int ((p1 &&& (2147483647 : Int32)) % (3 : Int32))), .unset, .unset, .unset] [(.int (105 : Int32)), (.int (0 : Int32)), (.ref b44), (.ref b44)])) (fun _ k => XS.bipush X44.here hx rfl (hb hby at_76) k) ?_
      obtain ⟨cl46, Ar46, qc46, Sz46, Nn46, Hs46, Gf46⟩ := id V_b44
      have hin47 : ¬ ((0 : Int32) < 0 ∨ cl46.slots.size ≤ ((0 : Int32)).toNatClampNeg) := (inb_of Sz46 ⟨by decide, by decide⟩)
      obtain ⟨T47, h47, X47, e47, W47, st47⟩ := stC X44 hx hZ e44 Ar46 (j := (0 : Int32)) hin47 (g := (mkF m 78 #[.val (.int p1), .val (.int ((p1 &&& (2147483647 : Int32)) % (3 : Int32))), .unset, .unset, .unset] [(.int (105 : Int32)), (.int (0 : Int32)), (.ref b44), (.ref b44)])) rfl rfl (hb hby at_78)
      have N47 := Fr.snoc X47 N0 g_b44
      have Z48 : n0 ≤ h47.size := Nat.le_trans Z45 (Keep.of_wr W47).1
      have O48 : Old Z n0 h47 := O45.wr W47 g_b44
      have Va47 : Arv Z h47 b44 k44 .char (9 : Int32) [(.int (105 : Int32)), (.int (0 : Int32)), (.int (0 : Int32)), (.int (0 : Int32)), (.int (0 : Int32)), (.int (0 : Int32)), (.int (0 : Int32)), (.int (0 : Int32)), (.int (0 : Int32))] (.int (0 : Int32)) := Arv.set Ar46 qc46 Sz46 Nn46 Hs46 Gf46 (by decide) W47 0 rfl (Nat.le_of_ble_eq_true rfl)
      refine Go.step (T' := T47) (f' := (mkF m 79 #[.val (.int p1), .val (.int ((p1 &&& (2147483647 : Int32)) % (3 : Int32))), .unset, .unset, .unset] [(.ref b44)])) st47 ?_
      refine Go.step (T' := T47) (f' := (mkF m 80 #[.val (.int p1), .val (.int ((p1 &&& (2147483647 : Int32)) % (3 : Int32))), .unset, .unset, .unset] [(.ref b44), (.ref b44)])) (fun _ k => XS.dup X47.here hx rfl (hb hby at_79) rfl rfl k) ?_
      refine Go.step (T' := T47) (f' := (mkF m 81 #[.val (.int p1), .val (.int ((p1 &&& (2147483647 : Int32)) % (3 : Int32))), .unset, .unset, .unset] [(.int (1 : Int32)), (.ref b44), (.ref b44)])) (fun _ k => XS.iconst X47.here hx rfl (hb hby at_80) k) ?_
      refine Go.step (T' := T47) (f' := (mkF m 83 #[.val (.int p1), .val (.int ((p1 &&& (2147483647 : Int32)) % (3 : Int32))), .unset, .unset, .unset] [(.int (110 : Int32)), (.int (1 : Int32)), (.ref b44), (.ref b44)])) (fun _ k => XS.bipush X47.here hx rfl (hb hby at_81) k) ?_
      obtain ⟨cl49, Ar49, qc49, Sz49, Nn49, Hs49, Gf49⟩ := id Va47
      have hin50 : ¬ ((1 : Int32) < 0 ∨ cl49.slots.size ≤ ((1 : Int32)).toNatClampNeg) := (inb_of Sz49 ⟨by decide, by decide⟩)
      obtain ⟨T50, h50, X50, e50, W50, st50⟩ := stC X47 hx hZ e47 Ar49 (j := (1 : Int32)) hin50 (g := (mkF m 83 #[.val (.int p1), .val (.int ((p1 &&& (2147483647 : Int32)) % (3 : Int32))), .unset, .unset, .unset] [(.int (110 : Int32)), (.int (1 : Int32)), (.ref b44), (.ref b44)])) rfl rfl (hb hby at_83)
      have N50 := Fr.snoc X50 N47 g_b44
      have Z51 : n0 ≤ h50.size := Nat.le_trans Z48 (Keep.of_wr W50).1
      have O51 : Old Z n0 h50 := O48.wr W50 g_b44
      have Va50 : Arv Z h50 b44 k44 .char (9 : Int32) [(.int (105 : Int32)), (.int (110 : Int32)), (.int (0 : Int32)), (.int (0 : Int32)), (.int (0 : Int32)), (.int (0 : Int32)), (.int (0 : Int32)), (.int (0 : Int32)), (.int (0 : Int32))] (.int (0 : Int32)) := Arv.set Ar49 qc49 Sz49 Nn49 Hs49 Gf49 (by decide) W50 1 rfl (Nat.le_of_ble_eq_true rfl)
      refine Go.step (T' := T50) (f' := (mkF m 84 #[.val (.int p1), .val (.int ((p1 &&& (2147483647 : Int32)) % (3 : Int32))), .unset, .unset, .unset] [(.ref b44)])) st50 ?_
      refine Go.step (T' := T50) (f' := (mkF m 85 #[.val (.int p1), .val (.int ((p1 &&& (2147483647 : Int32)) % (3 : Int32))), .unset, .unset, .unset] [(.ref b44), (.ref b44)])) (fun _ k => XS.dup X50.here hx rfl (hb hby at_84) rfl rfl k) ?_
      refine Go.step (T' := T50) (f' := (mkF m 86 #[.val (.int p1), .val (.int ((p1 &&& (2147483647 : Int32)) % (3 : Int32))), .unset, .unset, .unset] [(.int (2 : Int32)), (.ref b44), (.ref b44)])) (fun _ k => XS.iconst X50.here hx rfl (hb hby at_85) k) ?_
      refine Go.step (T' := T50) (f' := (mkF m 88 #[.val (.int p1), .val (.int ((p1 &&& (2147483647 : Int32)) % (3 : Int32))), .unset, .unset, .unset] [(.int (105 : Int32)), (.int (2 : Int32)), (.ref b44), (.ref b44)])) (fun _ k => XS.bipush X50.here hx rfl (hb hby at_86) k) ?_
      obtain ⟨cl52, Ar52, qc52, Sz52, Nn52, Hs52, Gf52⟩ := id Va50
      have hin53 : ¬ ((2 : Int32) < 0 ∨ cl52.slots.size ≤ ((2 : Int32)).toNatClampNeg) := (inb_of Sz52 ⟨by decide, by decide⟩)
      obtain ⟨T53, h53, X53, e53, W53, st53⟩ := stC X50 hx hZ e50 Ar52 (j := (2 : Int32)) hin53 (g := (mkF m 88 #[.val (.int p1), .val (.int ((p1 &&& (2147483647 : Int32)) % (3 : Int32))), .unset, .unset, .unset] [(.int (105 : Int32)), (.int (2 : Int32)), (.ref b44), (.ref b44)])) rfl rfl (hb hby at_88)
      have N53 := Fr.snoc X53 N50 g_b44
      have Z54 : n0 ≤ h53.size := Nat.le_trans Z51 (Keep.of_wr W53).1
      have O54 : Old Z n0 h53 := O51.wr W53 g_b44
      have Va53 : Arv Z h53 b44 k44 .char (9 : Int32) [(.int (105 : Int32)), (.int (110 : Int32)), (.int (105 : Int32)), (.int (0 : Int32)), (.int (0 : Int32)), (.int (0 : Int32)), (.int (0 : Int32)), (.int (0 : Int32)), (.int (0 : Int32))] (.int (0 : Int32)) := Arv.set Ar52 qc52 Sz52 Nn52 Hs52 Gf52 (by decide) W53 2 rfl (Nat.le_of_ble_eq_true rfl)
      refine Go.step (T' := T53) (f' := (mkF m 89 #[.val (.int p1), .val (.int ((p1 &&& (2147483647 : Int32)) % (3 : Int32))), .unset, .unset, .unset] [(.ref b44)])) st53 ?_
      refine Go.step (T' := T53) (f' := (mkF m 90 #[.val (.int p1), .val (.int ((p1 &&& (2147483647 : Int32)) % (3 : Int32))), .unset, .unset, .unset] [(.ref b44), (.ref b44)])) (fun _ k => XS.dup X53.here hx rfl (hb hby at_89) rfl rfl k) ?_
      refine Go.step (T' := T53) (f' := (mkF m 91 #[.val (.int p1), .val (.int ((p1 &&& (2147483647 : Int32)) % (3 : Int32))), .unset, .unset, .unset] [(.int (3 : Int32)), (.ref b44), (.ref b44)])) (fun _ k => XS.iconst X53.here hx rfl (hb hby at_90) k) ?_
      refine Go.step (T' := T53) (f' := (mkF m 93 #[.val (.int p1), .val (.int ((p1 &&& (2147483647 : Int32)) % (3 : Int32))), .unset, .unset, .unset] [(.int (116 : Int32)), (.int (3 : Int32)), (.ref b44), (.ref b44)])) (fun _ k => XS.bipush X53.here hx rfl (hb hby at_91) k) ?_
      obtain ⟨cl55, Ar55, qc55, Sz55, Nn55, Hs55, Gf55⟩ := id Va53
      have hin56 : ¬ ((3 : Int32) < 0 ∨ cl55.slots.size ≤ ((3 : Int32)).toNatClampNeg) := (inb_of Sz55 ⟨by decide, by decide⟩)
      obtain ⟨T56, h56, X56, e56, W56, st56⟩ := stC X53 hx hZ e53 Ar55 (j := (3 : Int32)) hin56 (g := (mkF m 93 #[.val (.int p1), .val (.int ((p1 &&& (2147483647 : Int32)) % (3 : Int32))), .unset, .unset, .unset] [(.int (116 : Int32)), (.int (3 : Int32)), (.ref b44), (.ref b44)])) rfl rfl (hb hby at_93)
      have N56 := Fr.snoc X56 N53 g_b44
      have Z57 : n0 ≤ h56.size := Nat.le_trans Z54 (Keep.of_wr W56).1
      have O57 : Old Z n0 h56 := O54.wr W56 g_b44
      have Va56 : Arv Z h56 b44 k44 .char (9 : Int32) [(.int (105 : Int32)), (.int (110 : Int32)), (.int (105 : Int32)), (.int (116 : Int32)), (.int (0 : Int32)), (.int (0 : Int32)), (.int (0 : Int32)), (.int (0 : Int32)), (.int (0 : Int32))] (.int (0 : Int32)) := Arv.set Ar55 qc55 Sz55 Nn55 Hs55 Gf55 (by decide) W56 3 rfl (Nat.le_of_ble_eq_true rfl)
      refine Go.step (T' := T56) (f' := (mkF m 94 #[.val (.int p1), .val (.int ((p1 &&& (2147483647 : Int32)) % (3 : Int32))), .unset, .unset, .unset] [(.ref b44)])) st56 ?_
      refine Go.step (T' := T56) (f' := (mkF m 95 #[.val (.int p1), .val (.int ((p1 &&& (2147483647 : Int32)) % (3 : Int32))), .unset, .unset, .unset] [(.ref b44), (.ref b44)])) (fun _ k => XS.dup X56.here hx rfl (hb hby at_94) rfl rfl k) ?_
      refine Go.step (T' := T56) (f' := (mkF m 96 #[.val (.int p1), .val (.int ((p1 &&& (2147483647 : Int32)) % (3 : Int32))), .unset, .unset, .unset] [(.int (4 : Int32)), (.ref b44), (.ref b44)])) (fun _ k => XS.iconst X56.here hx rfl (hb hby at_95) k) ?_
      refine Go.step (T' := T56) (f' := (mkF m 98 #[.val (.int p1), .val (.int ((p1 &&& (2147483647 : Int32)) % (3 : Int32))), .unset, .unset, .unset] [(.int (105 : Int32)), (.int (4 : Int32)), (.ref b44), (.ref b44)])) (fun _ k => XS.bipush X56.here hx rfl (hb hby at_96) k) ?_
      obtain ⟨cl58, Ar58, qc58, Sz58, Nn58, Hs58, Gf58⟩ := id Va56
      have hin59 : ¬ ((4 : Int32) < 0 ∨ cl58.slots.size ≤ ((4 : Int32)).toNatClampNeg) := (inb_of Sz58 ⟨by decide, by decide⟩)
      obtain ⟨T59, h59, X59, e59, W59, st59⟩ := stC X56 hx hZ e56 Ar58 (j := (4 : Int32)) hin59 (g := (mkF m 98 #[.val (.int p1), .val (.int ((p1 &&& (2147483647 : Int32)) % (3 : Int32))), .unset, .unset, .unset] [(.int (105 : Int32)), (.int (4 : Int32)), (.ref b44), (.ref b44)])) rfl rfl (hb hby at_98)
      have N59 := Fr.snoc X59 N56 g_b44
      have Z60 : n0 ≤ h59.size := Nat.le_trans Z57 (Keep.of_wr W59).1
      have O60 : Old Z n0 h59 := O57.wr W59 g_b44
      have Va59 : Arv Z h59 b44 k44 .char (9 : Int32) [(.int (105 : Int32)), (.int (110 : Int32)), (.int (105 : Int32)), (.int (116 : Int32)), (.int (105 : Int32)), (.int (0 : Int32)), (.int (0 : Int32)), (.int (0 : Int32)), (.int (0 : Int32))] (.int (0 : Int32)) := Arv.set Ar58 qc58 Sz58 Nn58 Hs58 Gf58 (by decide) W59 4 rfl (Nat.le_of_ble_eq_true rfl)
      refine Go.step (T' := T59) (f' := (mkF m 99 #[.val (.int p1), .val (.int ((p1 &&& (2147483647 : Int32)) % (3 : Int32))), .unset, .unset, .unset] [(.ref b44)])) st59 ?_
      refine Go.step (T' := T59) (f' := (mkF m 100 #[.val (.int p1), .val (.int ((p1 &&& (2147483647 : Int32)) % (3 : Int32))), .unset, .unset, .unset] [(.ref b44), (.ref b44)])) (fun _ k => XS.dup X59.here hx rfl (hb hby at_99) rfl rfl k) ?_
      refine Go.step (T' := T59) (f' := (mkF m 101 #[.val (.int p1), .val (.int ((p1 &&& (2147483647 : Int32)) % (3 : Int32))), .unset, .unset, .unset] [(.int (5 : Int32)), (.ref b44), (.ref b44)])) (fun _ k => XS.iconst X59.here hx rfl (hb hby at_100) k) ?_
      refine Go.step (T' := T59) (f' := (mkF m 103 #[.val (.int p1), .val (.int ((p1 &&& (2147483647 : Int32)) % (3 : Int32))), .unset, .unset, .unset] [(.int (97 : Int32)), (.int (5 : Int32)), (.ref b44), (.ref b44)])) (fun _ k => XS.bipush X59.here hx rfl (hb hby at_101) k) ?_
      obtain ⟨cl61, Ar61, qc61, Sz61, Nn61, Hs61, Gf61⟩ := id Va59
      have hin62 : ¬ ((5 : Int32) < 0 ∨ cl61.slots.size ≤ ((5 : Int32)).toNatClampNeg) := (inb_of Sz61 ⟨by decide, by decide⟩)
      obtain ⟨T62, h62, X62, e62, W62, st62⟩ := stC X59 hx hZ e59 Ar61 (j := (5 : Int32)) hin62 (g := (mkF m 103 #[.val (.int p1), .val (.int ((p1 &&& (2147483647 : Int32)) % (3 : Int32))), .unset, .unset, .unset] [(.int (97 : Int32)), (.int (5 : Int32)), (.ref b44), (.ref b44)])) rfl rfl (hb hby at_103)
      have N62 := Fr.snoc X62 N59 g_b44
      have Z63 : n0 ≤ h62.size := Nat.le_trans Z60 (Keep.of_wr W62).1
      have O63 : Old Z n0 h62 := O60.wr W62 g_b44
      have Va62 : Arv Z h62 b44 k44 .char (9 : Int32) [(.int (105 : Int32)), (.int (110 : Int32)), (.int (105 : Int32)), (.int (116 : Int32)), (.int (105 : Int32)), (.int (97 : Int32)), (.int (0 : Int32)), (.int (0 : Int32)), (.int (0 : Int32))] (.int (0 : Int32)) := Arv.set Ar61 qc61 Sz61 Nn61 Hs61 Gf61 (by decide) W62 5 rfl (Nat.le_of_ble_eq_true rfl)
      refine Go.step (T' := T62) (f' := (mkF m 104 #[.val (.int p1), .val (.int ((p1 &&& (2147483647 : Int32)) % (3 : Int32))), .unset, .unset, .unset] [(.ref b44)])) st62 ?_
      refine Go.step (T' := T62) (f' := (mkF m 105 #[.val (.int p1), .val (.int ((p1 &&& (2147483647 : Int32)) % (3 : Int32))), .unset, .unset, .unset] [(.ref b44), (.ref b44)])) (fun _ k => XS.dup X62.here hx rfl (hb hby at_104) rfl rfl k) ?_
      refine Go.step (T' := T62) (f' := (mkF m 107 #[.val (.int p1), .val (.int ((p1 &&& (2147483647 : Int32)) % (3 : Int32))), .unset, .unset, .unset] [(.int (6 : Int32)), (.ref b44), (.ref b44)])) (fun _ k => XS.bipush X62.here hx rfl (hb hby at_105) k) ?_
      refine Go.step (T' := T62) (f' := (mkF m 109 #[.val (.int p1), .val (.int ((p1 &&& (2147483647 : Int32)) % (3 : Int32))), .unset, .unset, .unset] [(.int (116 : Int32)), (.int (6 : Int32)), (.ref b44), (.ref b44)])) (fun _ k => XS.bipush X62.here hx rfl (hb hby at_107) k) ?_
      obtain ⟨cl64, Ar64, qc64, Sz64, Nn64, Hs64, Gf64⟩ := id Va62
      have hin65 : ¬ ((6 : Int32) < 0 ∨ cl64.slots.size ≤ ((6 : Int32)).toNatClampNeg) := (inb_of Sz64 ⟨by decide, by decide⟩)
      obtain ⟨T65, h65, X65, e65, W65, st65⟩ := stC X62 hx hZ e62 Ar64 (j := (6 : Int32)) hin65 (g := (mkF m 109 #[.val (.int p1), .val (.int ((p1 &&& (2147483647 : Int32)) % (3 : Int32))), .unset, .unset, .unset] [(.int (116 : Int32)), (.int (6 : Int32)), (.ref b44), (.ref b44)])) rfl rfl (hb hby at_109)
      have N65 := Fr.snoc X65 N62 g_b44
      have Z66 : n0 ≤ h65.size := Nat.le_trans Z63 (Keep.of_wr W65).1
      have O66 : Old Z n0 h65 := O63.wr W65 g_b44
      have Va65 : Arv Z h65 b44 k44 .char (9 : Int32) [(.int (105 : Int32)), (.int (110 : Int32)), (.int (105 : Int32)), (.int (116 : Int32)), (.int (105 : Int32)), (.int (97 : Int32)), (.int (116 : Int32)), (.int (0 : Int32)), (.int (0 : Int32))] (.int (0 : Int32)) := Arv.set Ar64 qc64 Sz64 Nn64 Hs64 Gf64 (by decide) W65 6 rfl (Nat.le_of_ble_eq_true rfl)
      refine Go.step (T' := T65) (f' := (mkF m 110 #[.val (.int p1), .val (.int ((p1 &&& (2147483647 : Int32)) % (3 : Int32))), .unset, .unset, .unset] [(.ref b44)])) st65 ?_
      refine Go.step (T' := T65) (f' := (mkF m 111 #[.val (.int p1), .val (.int ((p1 &&& (2147483647 : Int32)) % (3 : Int32))), .unset, .unset, .unset] [(.ref b44), (.ref b44)])) (fun _ k => XS.dup X65.here hx rfl (hb hby at_110) rfl rfl k) ?_
      refine Go.step (T' := T65) (f' := (mkF m 113 #[.val (.int p1), .val (.int ((p1 &&& (2147483647 : Int32)) % (3 : Int32))), .unset, .unset, .unset] [(.int (7 : Int32)), (.ref b44), (.ref b44)])) (fun _ k => XS.bipush X65.here hx rfl (hb hby at_111) k) ?_
      refine Go.step (T' := T65) (f' := (mkF m 115 #[.val (.int p1), .val (.int ((p1 &&& (2147483647 : Int32)) % (3 : Int32))), .unset, .unset, .unset] [(.int (111 : Int32)), (.int (7 : Int32)), (.ref b44), (.ref b44)])) (fun _ k => XS.bipush X65.here hx rfl (hb hby at_113) k) ?_
      obtain ⟨cl67, Ar67, qc67, Sz67, Nn67, Hs67, Gf67⟩ := id Va65
      have hin68 : ¬ ((7 : Int32) < 0 ∨ cl67.slots.size ≤ ((7 : Int32)).toNatClampNeg) := (inb_of Sz67 ⟨by decide, by decide⟩)
      obtain ⟨T68, h68, X68, e68, W68, st68⟩ := stC X65 hx hZ e65 Ar67 (j := (7 : Int32)) hin68 (g := (mkF m 115 #[.val (.int p1), .val (.int ((p1 &&& (2147483647 : Int32)) % (3 : Int32))), .unset, .unset, .unset] [(.int (111 : Int32)), (.int (7 : Int32)), (.ref b44), (.ref b44)])) rfl rfl (hb hby at_115)
      have N68 := Fr.snoc X68 N65 g_b44
      have Z69 : n0 ≤ h68.size := Nat.le_trans Z66 (Keep.of_wr W68).1
      have O69 : Old Z n0 h68 := O66.wr W68 g_b44
      have Va68 : Arv Z h68 b44 k44 .char (9 : Int32) [(.int (105 : Int32)), (.int (110 : Int32)), (.int (105 : Int32)), (.int (116 : Int32)), (.int (105 : Int32)), (.int (97 : Int32)), (.int (116 : Int32)), (.int (111 : Int32)), (.int (0 : Int32))] (.int (0 : Int32)) := Arv.set Ar67 qc67 Sz67 Nn67 Hs67 Gf67 (by decide) W68 7 rfl (Nat.le_of_ble_eq_true rfl)
      refine Go.step (T' := T68) (f' := (mkF m 116 #[.val (.int p1), .val (.int ((p1 &&& (2147483647 : Int32)) % (3 : Int32))), .unset, .unset, .unset] [(.ref b44)])) st68 ?_
      refine Go.step (T' := T68) (f' := (mkF m 117 #[.val (.int p1), .val (.int ((p1 &&& (2147483647 : Int32)) % (3 : Int32))), .unset, .unset, .unset] [(.ref b44), (.ref b44)])) (fun _ k => XS.dup X68.here hx rfl (hb hby at_116) rfl rfl k) ?_
      refine Go.step (T' := T68) (f' := (mkF m 119 #[.val (.int p1), .val (.int ((p1 &&& (2147483647 : Int32)) % (3 : Int32))), .unset, .unset, .unset] [(.int (8 : Int32)), (.ref b44), (.ref b44)])) (fun _ k => XS.bipush X68.here hx rfl (hb hby at_117) k) ?_
      refine Go.step (T' := T68) (f' := (mkF m 121 #[.val (.int p1), .val (.int ((p1 &&& (2147483647 : Int32)) % (3 : Int32))), .unset, .unset, .unset] [(.int (114 : Int32)), (.int (8 : Int32)), (.ref b44), (.ref b44)])) (fun _ k => XS.bipush X68.here hx rfl (hb hby at_119) k) ?_
      obtain ⟨cl70, Ar70, qc70, Sz70, Nn70, Hs70, Gf70⟩ := id Va68
      have hin71 : ¬ ((8 : Int32) < 0 ∨ cl70.slots.size ≤ ((8 : Int32)).toNatClampNeg) := (inb_of Sz70 ⟨by decide, by decide⟩)
      obtain ⟨T71, h71, X71, e71, W71, st71⟩ := stC X68 hx hZ e68 Ar70 (j := (8 : Int32)) hin71 (g := (mkF m 121 #[.val (.int p1), .val (.int ((p1 &&& (2147483647 : Int32)) % (3 : Int32))), .unset, .unset, .unset] [(.int (114 : Int32)), (.int (8 : Int32)), (.ref b44), (.ref b44)])) rfl rfl (hb hby at_121)
      have N71 := Fr.snoc X71 N68 g_b44
      have Z72 : n0 ≤ h71.size := Nat.le_trans Z69 (Keep.of_wr W71).1
      have O72 : Old Z n0 h71 := O69.wr W71 g_b44
      have Va71 : Arv Z h71 b44 k44 .char (9 : Int32) [(.int (105 : Int32)), (.int (110 : Int32)), (.int (105 : Int32)), (.int (116 : Int32)), (.int (105 : Int32)), (.int (97 : Int32)), (.int (116 : Int32)), (.int (111 : Int32)), (.int (114 : Int32))] (.int (0 : Int32)) := Arv.set Ar70 qc70 Sz70 Nn70 Hs70 Gf70 (by decide) W71 8 rfl (Nat.le_of_ble_eq_true rfl)
      refine Go.step (T' := T71) (f' := (mkF m 122 #[.val (.int p1), .val (.int ((p1 &&& (2147483647 : Int32)) % (3 : Int32))), .unset, .unset, .unset] [(.ref b44)])) st71 ?_
      refine Go.step (T' := T71) (f' := (mkF m 123 #[.val (.int p1), .val (.int ((p1 &&& (2147483647 : Int32)) % (3 : Int32))), .val (.ref b44), .unset, .unset] [])) (fun _ k => XS.astoreN X71.here hx rfl (hb hby at_122) rfl rfl (l' := #[.val (.int p1), .val (.int ((p1 &&& (2147483647 : Int32)) % (3 : Int32))), .val (.ref b44), .unset, .unset]) rfl k) ?_
      obtain ⟨T73, X73, e73, st73⟩ := getS2 X71 hx hZ hown (host := "") (Or.inl (hw _ (List.mem_of_getElem? (i := 109) rfl))) Via.refl e71 (S_INITIATOR.ext O72.2) (g := (mkF m 123 #[.val (.int p1), .val (.int ((p1 &&& (2147483647 : Int32)) % (3 : Int32))), .val (.ref b44), .unset, .unset] [])) rfl (hb hby at_123)
      refine Go.step (T' := T73) (f' := (mkF m 126 #[.val (.int p1), .val (.int ((p1 &&& (2147483647 : Int32)) % (3 : Int32))), .val (.ref b44), .unset, .unset] [(.ref s1)])) st73 ?_
      refine Go.step (T' := T73) (f' := (mkF m 127 #[.val (.int p1), .val (.int ((p1 &&& (2147483647 : Int32)) % (3 : Int32))), .val (.ref b44), .val (.ref s1), .unset] [])) (fun _ k => XS.astoreN X73.here hx rfl (hb hby at_126) rfl rfl (l' := #[.val (.int p1), .val (.int ((p1 &&& (2147483647 : Int32)) % (3 : Int32))), .val (.ref b44), .val (.ref s1), .unset]) rfl k) ?_
      refine Go.step (T' := T73) (f' := (mkF m 199 #[.val (.int p1), .val (.int ((p1 &&& (2147483647 : Int32)) % (3 : Int32))), .val (.ref b44), .val (.ref s1), .unset] [])) (fun _ k => XS.goto X73.here hx rfl (pc0 := 127) (pc' := 199) rfl (hb hby at_127) (by decide) (by decide) k) ?_
      obtain ⟨T74, h74, X74, e74, E74, A74, D74, -, st74⟩ := newO X73 hx hZ hown (hw _ (List.mem_of_getElem? (i := 5) rfl)) (hw _ (List.mem_of_getElem? (i := 6) rfl)) (hw _ (List.mem_of_getElem? (i := 7) rfl)) e73 (g := (mkF m 199 #[.val (.int p1), .val (.int ((p1 &&& (2147483647 : Int32)) % (3 : Int32))), .val (.ref b44), .val (.ref s1), .unset] [])) rfl (hb hby at_199) (by decide) (by decide)
      obtain ⟨b74, g74⟩ : ∃ z, z = h71.size := ⟨_, rfl⟩
      rw [← g74] at A74 D74 st74
      have g_b74 : n0 ≤ b74 := Nat.le_trans Z72 (Nat.le_of_eq g74.symm)
      have Z75 : n0 ≤ h74.size := Nat.le_trans Z72 E74.1
      have O75 : Old Z n0 h74 := O72.ext E74
      have F_coder_b74 : Fld Z h74 b74 "java/lang/String" "coder" "B" (.int (0 : Int32)) := D74 (Or.inr (hw _ (List.mem_of_getElem? (i := 31) rfl))) (ty := .byte) (by decide)
      have F_value_b74 : Fld Z h74 b74 "java/lang/String" "value" "[B" .null := D74 (Or.inr (hw _ (List.mem_of_getElem? (i := 33) rfl))) (ty := (.array .byte)) (by decide)
      refine Go.step (T' := T74) (f' := (mkF m 202 #[.val (.int p1), .val (.int ((p1 &&& (2147483647 : Int32)) % (3 : Int32))), .val (.ref b44), .val (.ref s1), .unset] [(.ref b74)])) st74 ?_
      refine Go.step (T' := T74) (f' := (mkF m 203 #[.val (.int p1), .val (.int ((p1 &&& (2147483647 : Int32)) % (3 : Int32))), .val (.ref b44), .val (.ref s1), .unset] [(.ref b74), (.ref b74)])) (fun _ k => XS.dup X74.here hx rfl (hb hby at_202) rfl rfl k) ?_
      refine Go.step (T' := T74) (f' := (mkF m 204 #[.val (.int p1), .val (.int ((p1 &&& (2147483647 : Int32)) % (3 : Int32))), .val (.ref b44), .val (.ref s1), .unset] [(.ref b44), (.ref b74), (.ref b74)])) (fun _ k => XS.aloadN X74.here hx rfl (hb hby at_203) rfl rfl k) ?_
      have q77 : Arv Z h74 b44 k44 .char (9 : Int32) [(.int (105 : Int32)), (.int (110 : Int32)), (.int (105 : Int32)), (.int (116 : Int32)), (.int (105 : Int32)), (.int (97 : Int32)), (.int (116 : Int32)), (.int (111 : Int32)), (.int (114 : Int32))] (.int (0 : Int32)) := (Va71.ext E74)
      obtain ⟨_, _, ⟨T76, L76, kk76, nn76⟩, -, X76, ⟨Lc76, hQ76, lq76, yq76, zq76⟩, st76⟩ := X74.specialBack hx (y := (⟨"java/lang/String", "<init>", "([C)V"⟩ : MethodName)) rfl hown (mvT hZ (hw _ (List.mem_of_getElem? (i := 8) rfl))) (mvT hZ (hw _ (List.mem_of_getElem? (i := 9) rfl))) (mvT hZ (hw _ (List.mem_of_getElem? (i := 10) rfl))) (by decide) (backOf (W := 1) (rmSi_9 l Z a0 hw [] b74 b44 cs k44 (105 : Int32) (110 : Int32) (105 : Int32) (116 : Int32) (105 : Int32) (97 : Int32) (116 : Int32) (111 : Int32) (114 : Int32) h74 n0 Z75 A74 F_value_b74 F_coder_b74 q77 O75 S_COMPACT_STRINGS hcs (by decide) (by decide) (by decide) (by decide) (by decide) (by decide) (by decide) (by decide) (by decide) g_b74) hZ (hw _ (List.mem_of_getElem? (i := 10) rfl)) (hw _ (List.mem_of_getElem? (i := 7) rfl)) (by decide) (by decide)) (g := (mkF m 204 #[.val (.int p1), .val (.int ((p1 &&& (2147483647 : Int32)) % (3 : Int32))), .val (.ref b44), .val (.ref s1), .unset] [(.ref b44), (.ref b74), (.ref b74)])) rfl (by rw [hml]; rfl) (Steps.refl _) (a := b74) (argsL := [(.ref b44)]) (rest := [(.ref b74)]) (lenOf pd_14 rfl) rfl (by show 2 * 0 + _ ≤ _; exact Nat.le_of_eq rfl) (hb hby at_204) (fun _ _ => ⟨rfl, e74, (by decide : 2 + 1 ≤ _), (by decide : 13 + 9 ≤ _)⟩)
      dsimp only [Pt.U, Pt.locs, Pt.cells, Pt.slots] at X76 lq76 yq76 zq76 st76 hQ76
      subst yq76 zq76
      obtain ⟨b_76, kb_76, rfl, Nq76, Kq76, r76_0, r76_1, r76_2, r76_3⟩ := hQ76
      have N76 : Fr n0 L76 := by rw [lq76]; exact Fr.app N71 Nq76
      have g_b_76 : n0 ≤ b_76 := Nat.le_trans Z75 r76_0
      have Z78 : n0 ≤ T76.heap.size := Nat.le_trans Z75 Kq76.1
      have O78 : Old Z n0 T76.heap := O75.keep Kq76 (allS g_b74 all0)
      refine Go.step (T' := T76) (f' := (mkF m 207 #[.val (.int p1), .val (.int ((p1 &&& (2147483647 : Int32)) % (3 : Int32))), .val (.ref b44), .val (.ref s1), .unset] [(.ref b74)])) (fun _ k => st76.trans k) ?_
      have q80 : Exa Z T76.heap sv "[Lcom/example/tenderbook/tenderbook/Role;" := ((((((((((((E_sv.ext E44).wr W47).wr W50).wr W53).wr W56).wr W59).wr W62).wr W65).wr W68).wr W71).ext E74).keep Kq76)
      have q81 : Arv Z T76.heap sv kv (.object "com/example/tenderbook/tenderbook/Role") (3 : Int32) [(.ref s0), (.ref s1), (.ref s2)] .null := ((((((((((((V_sv.ext E44).other W47 (Nat.ne_of_lt (Nat.lt_of_lt_of_le E_sv.lt (Nat.le_of_eq g44.symm)))).other W50 (Nat.ne_of_lt (Nat.lt_of_lt_of_le E_sv.lt (Nat.le_of_eq g44.symm)))).other W53 (Nat.ne_of_lt (Nat.lt_of_lt_of_le E_sv.lt (Nat.le_of_eq g44.symm)))).other W56 (Nat.ne_of_lt (Nat.lt_of_lt_of_le E_sv.lt (Nat.le_of_eq g44.symm)))).other W59 (Nat.ne_of_lt (Nat.lt_of_lt_of_le E_sv.lt (Nat.le_of_eq g44.symm)))).other W62 (Nat.ne_of_lt (Nat.lt_of_lt_of_le E_sv.lt (Nat.le_of_eq g44.symm)))).other W65 (Nat.ne_of_lt (Nat.lt_of_lt_of_le E_sv.lt (Nat.le_of_eq g44.symm)))).other W68 (Nat.ne_of_lt (Nat.lt_of_lt_of_le E_sv.lt (Nat.le_of_eq g44.symm)))).other W71 (Nat.ne_of_lt (Nat.lt_of_lt_of_le E_sv.lt (Nat.le_of_eq g44.symm)))).ext E74).keep Kq76 (ninS (Nat.ne_of_lt (Nat.lt_of_lt_of_le ((((((((((E_sv.ext E44).wr W47).wr W50).wr W53).wr W56).wr W59).wr W62).wr W65).wr W68).wr W71).lt (Nat.le_of_eq g74.symm))) nin0))
      have q82 : Exa Z T76.heap s0 "com/example/tenderbook/tenderbook/Role" := ((((((((((((E_s0.ext E44).wr W47).wr W50).wr W53).wr W56).wr W59).wr W62).wr W65).wr W68).wr W71).ext E74).keep Kq76)
      have q83 : Fld Z T76.heap s0 "com/example/tenderbook/tenderbook/Role" "code" "Ljava/lang/String;" (.ref t0) := ((((((((((((F_code_s0.ext E44).other W47 (Or.inl (Nat.ne_of_lt (Nat.lt_of_lt_of_le E_s0.lt (Nat.le_of_eq g44.symm))))).other W50 (Or.inl (Nat.ne_of_lt (Nat.lt_of_lt_of_le E_s0.lt (Nat.le_of_eq g44.symm))))).other W53 (Or.inl (Nat.ne_of_lt (Nat.lt_of_lt_of_le E_s0.lt (Nat.le_of_eq g44.symm))))).other W56 (Or.inl (Nat.ne_of_lt (Nat.lt_of_lt_of_le E_s0.lt (Nat.le_of_eq g44.symm))))).other W59 (Or.inl (Nat.ne_of_lt (Nat.lt_of_lt_of_le E_s0.lt (Nat.le_of_eq g44.symm))))).other W62 (Or.inl (Nat.ne_of_lt (Nat.lt_of_lt_of_le E_s0.lt (Nat.le_of_eq g44.symm))))).other W65 (Or.inl (Nat.ne_of_lt (Nat.lt_of_lt_of_le E_s0.lt (Nat.le_of_eq g44.symm))))).other W68 (Or.inl (Nat.ne_of_lt (Nat.lt_of_lt_of_le E_s0.lt (Nat.le_of_eq g44.symm))))).other W71 (Or.inl (Nat.ne_of_lt (Nat.lt_of_lt_of_le E_s0.lt (Nat.le_of_eq g44.symm))))).ext E74).keep Kq76 (ninS (Nat.ne_of_lt (Nat.lt_of_lt_of_le ((((((((((E_s0.ext E44).wr W47).wr W50).wr W53).wr W56).wr W59).wr W62).wr W65).wr W68).wr W71).lt (Nat.le_of_eq g74.symm))) nin0))
      have q84 : Exa Z T76.heap t0 "java/lang/String" := ((((((((((((E_t0.ext E44).wr W47).wr W50).wr W53).wr W56).wr W59).wr W62).wr W65).wr W68).wr W71).ext E74).keep Kq76)
      have q85 : Fld Z T76.heap t0 "java/lang/String" "coder" "B" (.int (0 : Int32)) := ((((((((((((F_coder_t0.ext E44).other W47 (Or.inl (Nat.ne_of_lt (Nat.lt_of_lt_of_le E_t0.lt (Nat.le_of_eq g44.symm))))).other W50 (Or.inl (Nat.ne_of_lt (Nat.lt_of_lt_of_le E_t0.lt (Nat.le_of_eq g44.symm))))).other W53 (Or.inl (Nat.ne_of_lt (Nat.lt_of_lt_of_le E_t0.lt (Nat.le_of_eq g44.symm))))).other W56 (Or.inl (Nat.ne_of_lt (Nat.lt_of_lt_of_le E_t0.lt (Nat.le_of_eq g44.symm))))).other W59 (Or.inl (Nat.ne_of_lt (Nat.lt_of_lt_of_le E_t0.lt (Nat.le_of_eq g44.symm))))).other W62 (Or.inl (Nat.ne_of_lt (Nat.lt_of_lt_of_le E_t0.lt (Nat.le_of_eq g44.symm))))).other W65 (Or.inl (Nat.ne_of_lt (Nat.lt_of_lt_of_le E_t0.lt (Nat.le_of_eq g44.symm))))).other W68 (Or.inl (Nat.ne_of_lt (Nat.lt_of_lt_of_le E_t0.lt (Nat.le_of_eq g44.symm))))).other W71 (Or.inl (Nat.ne_of_lt (Nat.lt_of_lt_of_le E_t0.lt (Nat.le_of_eq g44.symm))))).ext E74).keep Kq76 (ninS (Nat.ne_of_lt (Nat.lt_of_lt_of_le ((((((((((E_t0.ext E44).wr W47).wr W50).wr W53).wr W56).wr W59).wr W62).wr W65).wr W68).wr W71).lt (Nat.le_of_eq g74.symm))) nin0))
      have q86 : Fld Z T76.heap t0 "java/lang/String" "value" "[B" (.ref v0) := ((((((((((((F_value_t0.ext E44).other W47 (Or.inl (Nat.ne_of_lt (Nat.lt_of_lt_of_le E_t0.lt (Nat.le_of_eq g44.symm))))).other W50 (Or.inl (Nat.ne_of_lt (Nat.lt_of_lt_of_le E_t0.lt (Nat.le_of_eq g44.symm))))).other W53 (Or.inl (Nat.ne_of_lt (Nat.lt_of_lt_of_le E_t0.lt (Nat.le_of_eq g44.symm))))).other W56 (Or.inl (Nat.ne_of_lt (Nat.lt_of_lt_of_le E_t0.lt (Nat.le_of_eq g44.symm))))).other W59 (Or.inl (Nat.ne_of_lt (Nat.lt_of_lt_of_le E_t0.lt (Nat.le_of_eq g44.symm))))).other W62 (Or.inl (Nat.ne_of_lt (Nat.lt_of_lt_of_le E_t0.lt (Nat.le_of_eq g44.symm))))).other W65 (Or.inl (Nat.ne_of_lt (Nat.lt_of_lt_of_le E_t0.lt (Nat.le_of_eq g44.symm))))).other W68 (Or.inl (Nat.ne_of_lt (Nat.lt_of_lt_of_le E_t0.lt (Nat.le_of_eq g44.symm))))).other W71 (Or.inl (Nat.ne_of_lt (Nat.lt_of_lt_of_le E_t0.lt (Nat.le_of_eq g44.symm))))).ext E74).keep Kq76 (ninS (Nat.ne_of_lt (Nat.lt_of_lt_of_le ((((((((((E_t0.ext E44).wr W47).wr W50).wr W53).wr W56).wr W59).wr W62).wr W65).wr W68).wr W71).lt (Nat.le_of_eq g74.symm))) nin0))
      have q87 : Arv Z T76.heap v0 kv0 .byte (8 : Int32) [(.int (111 : Int32)), (.int (112 : Int32)), (.int (101 : Int32)), (.int (114 : Int32)), (.int (97 : Int32)), (.int (116 : Int32)), (.int (111 : Int32)), (.int (114 : Int32))] (.int (0 : Int32)) := ((((((((((((V_v0.ext E44).other W47 (Nat.ne_of_lt (Nat.lt_of_lt_of_le V_v0.lt (Nat.le_of_eq g44.symm)))).other W50 (Nat.ne_of_lt (Nat.lt_of_lt_of_le V_v0.lt (Nat.le_of_eq g44.symm)))).other W53 (Nat.ne_of_lt (Nat.lt_of_lt_of_le V_v0.lt (Nat.le_of_eq g44.symm)))).other W56 (Nat.ne_of_lt (Nat.lt_of_lt_of_le V_v0.lt (Nat.le_of_eq g44.symm)))).other W59 (Nat.ne_of_lt (Nat.lt_of_lt_of_le V_v0.lt (Nat.le_of_eq g44.symm)))).other W62 (Nat.ne_of_lt (Nat.lt_of_lt_of_le V_v0.lt (Nat.le_of_eq g44.symm)))).other W65 (Nat.ne_of_lt (Nat.lt_of_lt_of_le V_v0.lt (Nat.le_of_eq g44.symm)))).other W68 (Nat.ne_of_lt (Nat.lt_of_lt_of_le V_v0.lt (Nat.le_of_eq g44.symm)))).other W71 (Nat.ne_of_lt (Nat.lt_of_lt_of_le V_v0.lt (Nat.le_of_eq g44.symm)))).ext E74).keep Kq76 (ninS (Nat.ne_of_lt (Nat.lt_of_lt_of_le ((((((((((V_v0.ext E44).other W47 (Nat.ne_of_lt (Nat.lt_of_lt_of_le V_v0.lt (Nat.le_of_eq g44.symm)))).other W50 (Nat.ne_of_lt (Nat.lt_of_lt_of_le V_v0.lt (Nat.le_of_eq g44.symm)))).other W53 (Nat.ne_of_lt (Nat.lt_of_lt_of_le V_v0.lt (Nat.le_of_eq g44.symm)))).other W56 (Nat.ne_of_lt (Nat.lt_of_lt_of_le V_v0.lt (Nat.le_of_eq g44.symm)))).other W59 (Nat.ne_of_lt (Nat.lt_of_lt_of_le V_v0.lt (Nat.le_of_eq g44.symm)))).other W62 (Nat.ne_of_lt (Nat.lt_of_lt_of_le V_v0.lt (Nat.le_of_eq g44.symm)))).other W65 (Nat.ne_of_lt (Nat.lt_of_lt_of_le V_v0.lt (Nat.le_of_eq g44.symm)))).other W68 (Nat.ne_of_lt (Nat.lt_of_lt_of_le V_v0.lt (Nat.le_of_eq g44.symm)))).other W71 (Nat.ne_of_lt (Nat.lt_of_lt_of_le V_v0.lt (Nat.le_of_eq g44.symm)))).lt (Nat.le_of_eq g74.symm))) nin0))
      have q88 : Exa Z T76.heap s1 "com/example/tenderbook/tenderbook/Role" := ((((((((((((E_s1.ext E44).wr W47).wr W50).wr W53).wr W56).wr W59).wr W62).wr W65).wr W68).wr W71).ext E74).keep Kq76)
      have q89 : Fld Z T76.heap s1 "com/example/tenderbook/tenderbook/Role" "code" "Ljava/lang/String;" (.ref t1) := ((((((((((((F_code_s1.ext E44).other W47 (Or.inl (Nat.ne_of_lt (Nat.lt_of_lt_of_le E_s1.lt (Nat.le_of_eq g44.symm))))).other W50 (Or.inl (Nat.ne_of_lt (Nat.lt_of_lt_of_le E_s1.lt (Nat.le_of_eq g44.symm))))).other W53 (Or.inl (Nat.ne_of_lt (Nat.lt_of_lt_of_le E_s1.lt (Nat.le_of_eq g44.symm))))).other W56 (Or.inl (Nat.ne_of_lt (Nat.lt_of_lt_of_le E_s1.lt (Nat.le_of_eq g44.symm))))).other W59 (Or.inl (Nat.ne_of_lt (Nat.lt_of_lt_of_le E_s1.lt (Nat.le_of_eq g44.symm))))).other W62 (Or.inl (Nat.ne_of_lt (Nat.lt_of_lt_of_le E_s1.lt (Nat.le_of_eq g44.symm))))).other W65 (Or.inl (Nat.ne_of_lt (Nat.lt_of_lt_of_le E_s1.lt (Nat.le_of_eq g44.symm))))).other W68 (Or.inl (Nat.ne_of_lt (Nat.lt_of_lt_of_le E_s1.lt (Nat.le_of_eq g44.symm))))).other W71 (Or.inl (Nat.ne_of_lt (Nat.lt_of_lt_of_le E_s1.lt (Nat.le_of_eq g44.symm))))).ext E74).keep Kq76 (ninS (Nat.ne_of_lt (Nat.lt_of_lt_of_le ((((((((((E_s1.ext E44).wr W47).wr W50).wr W53).wr W56).wr W59).wr W62).wr W65).wr W68).wr W71).lt (Nat.le_of_eq g74.symm))) nin0))
      have q90 : Exa Z T76.heap t1 "java/lang/String" := ((((((((((((E_t1.ext E44).wr W47).wr W50).wr W53).wr W56).wr W59).wr W62).wr W65).wr W68).wr W71).ext E74).keep Kq76)
      have q91 : Fld Z T76.heap t1 "java/lang/String" "coder" "B" (.int (0 : Int32)) := ((((((((((((F_coder_t1.ext E44).other W47 (Or.inl (Nat.ne_of_lt (Nat.lt_of_lt_of_le E_t1.lt (Nat.le_of_eq g44.symm))))).other W50 (Or.inl (Nat.ne_of_lt (Nat.lt_of_lt_of_le E_t1.lt (Nat.le_of_eq g44.symm))))).other W53 (Or.inl (Nat.ne_of_lt (Nat.lt_of_lt_of_le E_t1.lt (Nat.le_of_eq g44.symm))))).other W56 (Or.inl (Nat.ne_of_lt (Nat.lt_of_lt_of_le E_t1.lt (Nat.le_of_eq g44.symm))))).other W59 (Or.inl (Nat.ne_of_lt (Nat.lt_of_lt_of_le E_t1.lt (Nat.le_of_eq g44.symm))))).other W62 (Or.inl (Nat.ne_of_lt (Nat.lt_of_lt_of_le E_t1.lt (Nat.le_of_eq g44.symm))))).other W65 (Or.inl (Nat.ne_of_lt (Nat.lt_of_lt_of_le E_t1.lt (Nat.le_of_eq g44.symm))))).other W68 (Or.inl (Nat.ne_of_lt (Nat.lt_of_lt_of_le E_t1.lt (Nat.le_of_eq g44.symm))))).other W71 (Or.inl (Nat.ne_of_lt (Nat.lt_of_lt_of_le E_t1.lt (Nat.le_of_eq g44.symm))))).ext E74).keep Kq76 (ninS (Nat.ne_of_lt (Nat.lt_of_lt_of_le ((((((((((E_t1.ext E44).wr W47).wr W50).wr W53).wr W56).wr W59).wr W62).wr W65).wr W68).wr W71).lt (Nat.le_of_eq g74.symm))) nin0))
      have q92 : Fld Z T76.heap t1 "java/lang/String" "value" "[B" (.ref v1) := ((((((((((((F_value_t1.ext E44).other W47 (Or.inl (Nat.ne_of_lt (Nat.lt_of_lt_of_le E_t1.lt (Nat.le_of_eq g44.symm))))).other W50 (Or.inl (Nat.ne_of_lt (Nat.lt_of_lt_of_le E_t1.lt (Nat.le_of_eq g44.symm))))).other W53 (Or.inl (Nat.ne_of_lt (Nat.lt_of_lt_of_le E_t1.lt (Nat.le_of_eq g44.symm))))).other W56 (Or.inl (Nat.ne_of_lt (Nat.lt_of_lt_of_le E_t1.lt (Nat.le_of_eq g44.symm))))).other W59 (Or.inl (Nat.ne_of_lt (Nat.lt_of_lt_of_le E_t1.lt (Nat.le_of_eq g44.symm))))).other W62 (Or.inl (Nat.ne_of_lt (Nat.lt_of_lt_of_le E_t1.lt (Nat.le_of_eq g44.symm))))).other W65 (Or.inl (Nat.ne_of_lt (Nat.lt_of_lt_of_le E_t1.lt (Nat.le_of_eq g44.symm))))).other W68 (Or.inl (Nat.ne_of_lt (Nat.lt_of_lt_of_le E_t1.lt (Nat.le_of_eq g44.symm))))).other W71 (Or.inl (Nat.ne_of_lt (Nat.lt_of_lt_of_le E_t1.lt (Nat.le_of_eq g44.symm))))).ext E74).keep Kq76 (ninS (Nat.ne_of_lt (Nat.lt_of_lt_of_le ((((((((((E_t1.ext E44).wr W47).wr W50).wr W53).wr W56).wr W59).wr W62).wr W65).wr W68).wr W71).lt (Nat.le_of_eq g74.symm))) nin0))
      have q93 : Arv Z T76.heap v1 kv1 .byte (9 : Int32) [(.int (105 : Int32)), (.int (110 : Int32)), (.int (105 : Int32)), (.int (116 : Int32)), (.int (105 : Int32)), (.int (97 : Int32)), (.int (116 : Int32)), (.int (111 : Int32)), (.int (114 : Int32))] (.int (0 : Int32)) := ((((((((((((V_v1.ext E44).other W47 (Nat.ne_of_lt (Nat.lt_of_lt_of_le V_v1.lt (Nat.le_of_eq g44.symm)))).other W50 (Nat.ne_of_lt (Nat.lt_of_lt_of_le V_v1.lt (Nat.le_of_eq g44.symm)))).other W53 (Nat.ne_of_lt (Nat.lt_of_lt_of_le V_v1.lt (Nat.le_of_eq g44.symm)))).other W56 (Nat.ne_of_lt (Nat.lt_of_lt_of_le V_v1.lt (Nat.le_of_eq g44.symm)))).other W59 (Nat.ne_of_lt (Nat.lt_of_lt_of_le V_v1.lt (Nat.le_of_eq g44.symm)))).other W62 (Nat.ne_of_lt (Nat.lt_of_lt_of_le V_v1.lt (Nat.le_of_eq g44.symm)))).other W65 (Nat.ne_of_lt (Nat.lt_of_lt_of_le V_v1.lt (Nat.le_of_eq g44.symm)))).other W68 (Nat.ne_of_lt (Nat.lt_of_lt_of_le V_v1.lt (Nat.le_of_eq g44.symm)))).other W71 (Nat.ne_of_lt (Nat.lt_of_lt_of_le V_v1.lt (Nat.le_of_eq g44.symm)))).ext E74).keep Kq76 (ninS (Nat.ne_of_lt (Nat.lt_of_lt_of_le ((((((((((V_v1.ext E44).other W47 (Nat.ne_of_lt (Nat.lt_of_lt_of_le V_v1.lt (Nat.le_of_eq g44.symm)))).other W50 (Nat.ne_of_lt (Nat.lt_of_lt_of_le V_v1.lt (Nat.le_of_eq g44.symm)))).other W53 (Nat.ne_of_lt (Nat.lt_of_lt_of_le V_v1.lt (Nat.le_of_eq g44.symm)))).other W56 (Nat.ne_of_lt (Nat.lt_of_lt_of_le V_v1.lt (Nat.le_of_eq g44.symm)))).other W59 (Nat.ne_of_lt (Nat.lt_of_lt_of_le V_v1.lt (Nat.le_of_eq g44.symm)))).other W62 (Nat.ne_of_lt (Nat.lt_of_lt_of_le V_v1.lt (Nat.le_of_eq g44.symm)))).other W65 (Nat.ne_of_lt (Nat.lt_of_lt_of_le V_v1.lt (Nat.le_of_eq g44.symm)))).other W68 (Nat.ne_of_lt (Nat.lt_of_lt_of_le V_v1.lt (Nat.le_of_eq g44.symm)))).other W71 (Nat.ne_of_lt (Nat.lt_of_lt_of_le V_v1.lt (Nat.le_of_eq g44.symm)))).lt (Nat.le_of_eq g74.symm))) nin0))
      have q94 : Exa Z T76.heap b74 "java/lang/String" := (A74.keep Kq76)
      obtain ⟨_, _, ⟨T79, L79, kk79, nn79⟩, -, X79, ⟨Lc79, hQ79, lq79, yq79, zq79⟩, st79⟩ := Jvm.LawKit.callS X76 hx (y := (⟨"com/example/tenderbook/tenderbook/Role", "ofCode", "(Ljava/lang/String;)Lcom/example/tenderbook/tenderbook/Role;"⟩ : MethodName)) hown (mvT hZ (hw _ (List.mem_of_getElem? (i := 34) rfl))) (mvT hZ (hw _ (List.mem_of_getElem? (i := 35) rfl))) (mvT hZ (hw _ (List.mem_of_getElem? (i := 3) rfl))) (mvT hZ (hw _ (List.mem_of_getElem? (i := 36) rfl))) (by decide) (backOf (W := 0) (rmOc1 l Z a0 hw [] b74 cs kv s0 s1 s2 t0 v0 kv0 t1 v1 kv1 b_76 kb_76 sv T76.heap n0 Z78 q80 q81 q82 q83 q84 q85 q86 q87 q88 q89 q90 q91 q92 q93 q94 r76_2 r76_1 r76_3 O78 S_COMPACT_STRINGS hcs S__VALUES (Nat.ne_of_lt (Nat.lt_of_lt_of_le ((((((((((E_t0.ext E44).wr W47).wr W50).wr W53).wr W56).wr W59).wr W62).wr W65).wr W68).wr W71).lt (Nat.le_of_eq g74.symm))) (Nat.ne_of_lt (Nat.lt_of_lt_of_le ((((((((((E_t1.ext E44).wr W47).wr W50).wr W53).wr W56).wr W59).wr W62).wr W65).wr W68).wr W71).lt (Nat.le_of_eq g74.symm)))) hZ (hw _ (List.mem_of_getElem? (i := 36) rfl)) (hw _ (List.mem_of_getElem? (i := 3) rfl)) (by decide) (by decide)) (g := (mkF m 207 #[.val (.int p1), .val (.int ((p1 &&& (2147483647 : Int32)) % (3 : Int32))), .val (.ref b44), .val (.ref s1), .unset] [(.ref b74)])) rfl (by rw [hml]; rfl) (argsL := [(.ref b74)]) (rest := []) (lenOf pd_15 rfl) rfl (by show 2 * 0 + _ ≤ _; exact Nat.le_of_eq rfl) (hb hby at_207) (fun _ _ => ⟨rfl, rfl, (by decide : 3 + 2 ≤ _), (by decide : 22 + 4 ≤ _)⟩)
      dsimp only [Pt.U, Pt.locs, Pt.cells, Pt.slots] at X79 lq79 yq79 zq79 st79 hQ79
      subst yq79 zq79
      obtain ⟨rfl, Nq79, Kq79⟩ := hQ79
      have N79 : Fr n0 L79 := by rw [lq79]; exact Fr.app N76 Nq79
      have Z95 : n0 ≤ T79.heap.size := Nat.le_trans Z78 Kq79.1
      have O95 : Old Z n0 T79.heap := O78.keep Kq79 all0
      refine Go.step (T' := T79) (f' := (mkF m 210 #[.val (.int p1), .val (.int ((p1 &&& (2147483647 : Int32)) % (3 : Int32))), .val (.ref b44), .val (.ref s1), .unset] [(.ref s1)])) st79 ?_
      refine Go.step (T' := T79) (f' := (mkF m 212 #[.val (.int p1), .val (.int ((p1 &&& (2147483647 : Int32)) % (3 : Int32))), .val (.ref b44), .val (.ref s1), .val (.ref s1)] [])) (fun _ k => XS.astore X79.here hx rfl (hb hby at_210) rfl rfl (l' := #[.val (.int p1), .val (.int ((p1 &&& (2147483647 : Int32)) % (3 : Int32))), .val (.ref b44), .val (.ref s1), .val (.ref s1)]) rfl k) ?_
      refine Go.step (T' := T79) (f' := (mkF m 214 #[.val (.int p1), .val (.int ((p1 &&& (2147483647 : Int32)) % (3 : Int32))), .val (.ref b44), .val (.ref s1), .val (.ref s1)] [(.ref s1)])) (fun _ k => XS.aload X79.here hx rfl (hb hby at_212) rfl rfl k) ?_
      refine Go.step (T' := T79) (f' := (mkF m 215 #[.val (.int p1), .val (.int ((p1 &&& (2147483647 : Int32)) % (3 : Int32))), .val (.ref b44), .val (.ref s1), .val (.ref s1)] [(.ref s1), (.ref s1)])) (fun _ k => XS.aloadN X79.here hx rfl (hb hby at_214) rfl rfl k) ?_
      refine Go.step (T' := T79) (f' := (mkF m 218 #[.val (.int p1), .val (.int ((p1 &&& (2147483647 : Int32)) % (3 : Int32))), .val (.ref b44), .val (.ref s1), .val (.ref s1)] [])) (fun _ k => Jvm.RoadKit.acmp (g := (mkF m 215 #[.val (.int p1), .val (.int ((p1 &&& (2147483647 : Int32)) % (3 : Int32))), .val (.ref b44), .val (.ref s1), .val (.ref s1)] [(.ref s1), (.ref s1)])) X79 hx rfl rfl rfl (pc0 := 215) (pc' := 218) (same := true) rfl (hb hby at_215) rfl (decide_eq_true rfl) (by decide) (by decide) k) ?_
      refine Go.step (T' := T79) (f' := (mkF m 219 #[.val (.int p1), .val (.int ((p1 &&& (2147483647 : Int32)) % (3 : Int32))), .val (.ref b44), .val (.ref s1), .val (.ref s1)] [(.int (1 : Int32))])) (fun _ k => XS.iconst X79.here hx rfl (hb hby at_218) k) ?_
      refine Go.step (T' := T79) (f' := (mkF m 223 #[.val (.int p1), .val (.int ((p1 &&& (2147483647 : Int32)) % (3 : Int32))), .val (.ref b44), .val (.ref s1), .val (.ref s1)] [(.int (1 : Int32))])) (fun _ k => XS.goto X79.here hx rfl (pc0 := 219) (pc' := 223) rfl (hb hby at_219) (by decide) (by decide) k) ?_
      refine goN X79 hx (t := .boolean) Bd.returns (by simp) Bd.notSynchronized (hb hby at_223) ?_ (by decide) (by decide)
      show Q_rm0 Z p1 cs sv kv s0 s1 s2 t0 v0 kv0 t1 v1 kv1 t2 v2 kv2 h0 n0 _ T79.heap _
      exact ⟨rfl, N79⟩
    · refine Go.step (T' := s₁) (f' := (mkF m 130 #[.val (.int p1), .val (.int ((p1 &&& (2147483647 : Int32)) % (3 : Int32))), .unset, .unset, .unset] [])) (fun _ k => XS.icmpYes X0.here hx rfl (pc0 := 67) (pc' := 130) rfl (hb hby at_67) rfl (feq hc67).2 (by decide) (by decide) k) ?_
      refine Go.step (T' := s₁) (f' := (mkF m 132 #[.val (.int p1), .val (.int ((p1 &&& (2147483647 : Int32)) % (3 : Int32))), .unset, .unset, .unset] [(.int (11 : Int32))])) (fun _ k => XS.bipush X0.here hx rfl (hb hby at_130) k) ?_
      obtain ⟨T96, h96, k96, X96, e96, E96, A96, st96⟩ := newP X0 hx hZ (hw _ (List.mem_of_getElem? (i := 1) rfl)) e0 (g := (mkF m 132 #[.val (.int p1), .val (.int ((p1 &&& (2147483647 : Int32)) % (3 : Int32))), .unset, .unset, .unset] [(.int (11 : Int32))])) rfl (hb hby at_132) rfl (by decide) (cap := 11) (by decide) (by decide) (by decide) (by decide)
      obtain ⟨b96, g96⟩ : ∃ z, z = h0.size := ⟨_, rfl⟩
      rw [← g96] at A96 st96
      have g_b96 : n0 ≤ b96 := Nat.le_trans Z0 (Nat.le_of_eq g96.symm)
      have Z97 : n0 ≤ h96.size := Nat.le_trans Z0 E96.1
      have O97 : Old Z n0 h96 := O0.ext E96
      have V_b96 : Arv Z h96 b96 k96 .char (11 : Int32) [(.int (0 : Int32)), (.int (0 : Int32)), (.int (0 : Int32)), (.int (0 : Int32)), (.int (0 : Int32)), (.int (0 : Int32)), (.int (0 : Int32)), (.int (0 : Int32)), (.int (0 : Int32)), (.int (0 : Int32)), (.int (0 : Int32))] (.int (0 : Int32)) := (Arv.new A96 (by decide)).pad (pad_rep [] (.int (0 : Int32)) 11)
      refine Go.step (T' := T96) (f' := (mkF m 134 #[.val (.int p1), .val (.int ((p1 &&& (2147483647 : Int32)) % (3 : Int32))), .unset, .unset, .unset] [(.ref b96)])) st96 ?_
      refine Go.step (T' := T96) (f' := (mkF m 135 #[.val (.int p1), .val (.int ((p1 &&& (2147483647 : Int32)) % (3 : Int32))), .unset, .unset, .unset] [(.ref b96), (.ref b96)])) (fun _ k => XS.dup X96.here hx rfl (hb hby at_134) rfl rfl k) ?_
      refine Go.step (T' := T96) (f' := (mkF m 136 #[.val (.int p1), .val (.int ((p1 &&& (2147483647 : Int32)) % (3 : Int32))), .unset, .unset, .unset] [(.int (0 : Int32)), (.ref b96), (.ref b96)])) (fun _ k => XS.iconst X96.here hx rfl (hb hby at_135) k) ?_
      refine Go.step (T' := T96) (f' := (mkF m 138 #[.val (.int p1), .val (.int ((p1 &&& (2147483647 : Int32)) % (3 : Int32))), .unset, .unset, .unset] [(.int (112 : Int32)), (.int (0 : Int32)), (.ref b96), (.ref b96)])) (fun _ k => XS.bipush X96.here hx rfl (hb hby at_136) k) ?_
      obtain ⟨cl98, Ar98, qc98, Sz98, Nn98, Hs98, Gf98⟩ := id V_b96
      have hin99 : ¬ ((0 : Int32) < 0 ∨ cl98.slots.size ≤ ((0 : Int32)).toNatClampNeg) := (inb_of Sz98 ⟨by decide, by decide⟩)
      obtain ⟨T99, h99, X99, e99, W99, st99⟩ := stC X96 hx hZ e96 Ar98 (j := (0 : Int32)) hin99 (g := (mkF m 138 #[.val (.int p1), .val (.int ((p1 &&& (2147483647 : Int32)) % (3 : Int32))), .unset, .unset, .unset] [(.int (112 : Int32)), (.int (0 : Int32)), (.ref b96), (.ref b96)])) rfl rfl (hb hby at_138)
      have N99 := Fr.snoc X99 N0 g_b96
      have Z100 : n0 ≤ h99.size := Nat.le_trans Z97 (Keep.of_wr W99).1
      have O100 : Old Z n0 h99 := O97.wr W99 g_b96
      have Va99 : Arv Z h99 b96 k96 .char (11 : Int32) [(.int (112 : Int32)), (.int (0 : Int32)), (.int (0 : Int32)), (.int (0 : Int32)), (.int (0 : Int32)), (.int (0 : Int32)), (.int (0 : Int32)), (.int (0 : Int32)), (.int (0 : Int32)), (.int (0 : Int32)), (.int (0 : Int32))] (.int (0 : Int32)) := Arv.set Ar98 qc98 Sz98 Nn98 Hs98 Gf98 (by decide) W99 0 rfl (Nat.le_of_ble_eq_true rfl)
      refine Go.step (T' := T99) (f' := (mkF m 139 #[.val (.int p1), .val (.int ((p1 &&& (2147483647 : Int32)) % (3 : Int32))), .unset, .unset, .unset] [(.ref b96)])) st99 ?_
      refine Go.step (T' := T99) (f' := (mkF m 140 #[.val (.int p1), .val (.int ((p1 &&& (2147483647 : Int32)) % (3 : Int32))), .unset, .unset, .unset] [(.ref b96), (.ref b96)])) (fun _ k => XS.dup X99.here hx rfl (hb hby at_139) rfl rfl k) ?_
      refine Go.step (T' := T99) (f' := (mkF m 141 #[.val (.int p1), .val (.int ((p1 &&& (2147483647 : Int32)) % (3 : Int32))), .unset, .unset, .unset] [(.int (1 : Int32)), (.ref b96), (.ref b96)])) (fun _ k => XS.iconst X99.here hx rfl (hb hby at_140) k) ?_
      refine Go.step (T' := T99) (f' := (mkF m 143 #[.val (.int p1), .val (.int ((p1 &&& (2147483647 : Int32)) % (3 : Int32))), .unset, .unset, .unset] [(.int (97 : Int32)), (.int (1 : Int32)), (.ref b96), (.ref b96)])) (fun _ k => XS.bipush X99.here hx rfl (hb hby at_141) k) ?_
      obtain ⟨cl101, Ar101, qc101, Sz101, Nn101, Hs101, Gf101⟩ := id Va99
      have hin102 : ¬ ((1 : Int32) < 0 ∨ cl101.slots.size ≤ ((1 : Int32)).toNatClampNeg) := (inb_of Sz101 ⟨by decide, by decide⟩)
      obtain ⟨T102, h102, X102, e102, W102, st102⟩ := stC X99 hx hZ e99 Ar101 (j := (1 : Int32)) hin102 (g := (mkF m 143 #[.val (.int p1), .val (.int ((p1 &&& (2147483647 : Int32)) % (3 : Int32))), .unset, .unset, .unset] [(.int (97 : Int32)), (.int (1 : Int32)), (.ref b96), (.ref b96)])) rfl rfl (hb hby at_143)
      have N102 := Fr.snoc X102 N99 g_b96
      have Z103 : n0 ≤ h102.size := Nat.le_trans Z100 (Keep.of_wr W102).1
      have O103 : Old Z n0 h102 := O100.wr W102 g_b96
      have Va102 : Arv Z h102 b96 k96 .char (11 : Int32) [(.int (112 : Int32)), (.int (97 : Int32)), (.int (0 : Int32)), (.int (0 : Int32)), (.int (0 : Int32)), (.int (0 : Int32)), (.int (0 : Int32)), (.int (0 : Int32)), (.int (0 : Int32)), (.int (0 : Int32)), (.int (0 : Int32))] (.int (0 : Int32)) := Arv.set Ar101 qc101 Sz101 Nn101 Hs101 Gf101 (by decide) W102 1 rfl (Nat.le_of_ble_eq_true rfl)
      refine Go.step (T' := T102) (f' := (mkF m 144 #[.val (.int p1), .val (.int ((p1 &&& (2147483647 : Int32)) % (3 : Int32))), .unset, .unset, .unset] [(.ref b96)])) st102 ?_
      refine Go.step (T' := T102) (f' := (mkF m 145 #[.val (.int p1), .val (.int ((p1 &&& (2147483647 : Int32)) % (3 : Int32))), .unset, .unset, .unset] [(.ref b96), (.ref b96)])) (fun _ k => XS.dup X102.here hx rfl (hb hby at_144) rfl rfl k) ?_
      refine Go.step (T' := T102) (f' := (mkF m 146 #[.val (.int p1), .val (.int ((p1 &&& (2147483647 : Int32)) % (3 : Int32))), .unset, .unset, .unset] [(.int (2 : Int32)), (.ref b96), (.ref b96)])) (fun _ k => XS.iconst X102.here hx rfl (hb hby at_145) k) ?_
      refine Go.step (T' := T102) (f' := (mkF m 148 #[.val (.int p1), .val (.int ((p1 &&& (2147483647 : Int32)) % (3 : Int32))), .unset, .unset, .unset] [(.int (114 : Int32)), (.int (2 : Int32)), (.ref b96), (.ref b96)])) (fun _ k => XS.bipush X102.here hx rfl (hb hby at_146) k) ?_
      obtain ⟨cl104, Ar104, qc104, Sz104, Nn104, Hs104, Gf104⟩ := id Va102
      have hin105 : ¬ ((2 : Int32) < 0 ∨ cl104.slots.size ≤ ((2 : Int32)).toNatClampNeg) := (inb_of Sz104 ⟨by decide, by decide⟩)
      obtain ⟨T105, h105, X105, e105, W105, st105⟩ := stC X102 hx hZ e102 Ar104 (j := (2 : Int32)) hin105 (g := (mkF m 148 #[.val (.int p1), .val (.int ((p1 &&& (2147483647 : Int32)) % (3 : Int32))), .unset, .unset, .unset] [(.int (114 : Int32)), (.int (2 : Int32)), (.ref b96), (.ref b96)])) rfl rfl (hb hby at_148)
      have N105 := Fr.snoc X105 N102 g_b96
      have Z106 : n0 ≤ h105.size := Nat.le_trans Z103 (Keep.of_wr W105).1
      have O106 : Old Z n0 h105 := O103.wr W105 g_b96
      have Va105 : Arv Z h105 b96 k96 .char (11 : Int32) [(.int (112 : Int32)), (.int (97 : Int32)), (.int (114 : Int32)), (.int (0 : Int32)), (.int (0 : Int32)), (.int (0 : Int32)), (.int (0 : Int32)), (.int (0 : Int32)), (.int (0 : Int32)), (.int (0 : Int32)), (.int (0 : Int32))] (.int (0 : Int32)) := Arv.set Ar104 qc104 Sz104 Nn104 Hs104 Gf104 (by decide) W105 2 rfl (Nat.le_of_ble_eq_true rfl)
      refine Go.step (T' := T105) (f' := (mkF m 149 #[.val (.int p1), .val (.int ((p1 &&& (2147483647 : Int32)) % (3 : Int32))), .unset, .unset, .unset] [(.ref b96)])) st105 ?_
      refine Go.step (T' := T105) (f' := (mkF m 150 #[.val (.int p1), .val (.int ((p1 &&& (2147483647 : Int32)) % (3 : Int32))), .unset, .unset, .unset] [(.ref b96), (.ref b96)])) (fun _ k => XS.dup X105.here hx rfl (hb hby at_149) rfl rfl k) ?_
      refine Go.step (T' := T105) (f' := (mkF m 151 #[.val (.int p1), .val (.int ((p1 &&& (2147483647 : Int32)) % (3 : Int32))), .unset, .unset, .unset] [(.int (3 : Int32)), (.ref b96), (.ref b96)])) (fun _ k => XS.iconst X105.here hx rfl (hb hby at_150) k) ?_
      refine Go.step (T' := T105) (f' := (mkF m 153 #[.val (.int p1), .val (.int ((p1 &&& (2147483647 : Int32)) % (3 : Int32))), .unset, .unset, .unset] [(.int (116 : Int32)), (.int (3 : Int32)), (.ref b96), (.ref b96)])) (fun _ k => XS.bipush X105.here hx rfl (hb hby at_151) k) ?_
      obtain ⟨cl107, Ar107, qc107, Sz107, Nn107, Hs107, Gf107⟩ := id Va105
      have hin108 : ¬ ((3 : Int32) < 0 ∨ cl107.slots.size ≤ ((3 : Int32)).toNatClampNeg) := (inb_of Sz107 ⟨by decide, by decide⟩)
      obtain ⟨T108, h108, X108, e108, W108, st108⟩ := stC X105 hx hZ e105 Ar107 (j := (3 : Int32)) hin108 (g := (mkF m 153 #[.val (.int p1), .val (.int ((p1 &&& (2147483647 : Int32)) % (3 : Int32))), .unset, .unset, .unset] [(.int (116 : Int32)), (.int (3 : Int32)), (.ref b96), (.ref b96)])) rfl rfl (hb hby at_153)
      have N108 := Fr.snoc X108 N105 g_b96
      have Z109 : n0 ≤ h108.size := Nat.le_trans Z106 (Keep.of_wr W108).1
      have O109 : Old Z n0 h108 := O106.wr W108 g_b96
      have Va108 : Arv Z h108 b96 k96 .char (11 : Int32) [(.int (112 : Int32)), (.int (97 : Int32)), (.int (114 : Int32)), (.int (116 : Int32)), (.int (0 : Int32)), (.int (0 : Int32)), (.int (0 : Int32)), (.int (0 : Int32)), (.int (0 : Int32)), (.int (0 : Int32)), (.int (0 : Int32))] (.int (0 : Int32)) := Arv.set Ar107 qc107 Sz107 Nn107 Hs107 Gf107 (by decide) W108 3 rfl (Nat.le_of_ble_eq_true rfl)
      refine Go.step (T' := T108) (f' := (mkF m 154 #[.val (.int p1), .val (.int ((p1 &&& (2147483647 : Int32)) % (3 : Int32))), .unset, .unset, .unset] [(.ref b96)])) st108 ?_
      refine Go.step (T' := T108) (f' := (mkF m 155 #[.val (.int p1), .val (.int ((p1 &&& (2147483647 : Int32)) % (3 : Int32))), .unset, .unset, .unset] [(.ref b96), (.ref b96)])) (fun _ k => XS.dup X108.here hx rfl (hb hby at_154) rfl rfl k) ?_
      refine Go.step (T' := T108) (f' := (mkF m 156 #[.val (.int p1), .val (.int ((p1 &&& (2147483647 : Int32)) % (3 : Int32))), .unset, .unset, .unset] [(.int (4 : Int32)), (.ref b96), (.ref b96)])) (fun _ k => XS.iconst X108.here hx rfl (hb hby at_155) k) ?_
      refine Go.step (T' := T108) (f' := (mkF m 158 #[.val (.int p1), .val (.int ((p1 &&& (2147483647 : Int32)) % (3 : Int32))), .unset, .unset, .unset] [(.int (105 : Int32)), (.int (4 : Int32)), (.ref b96), (.ref b96)])) (fun _ k => XS.bipush X108.here hx rfl (hb hby at_156) k) ?_
      obtain ⟨cl110, Ar110, qc110, Sz110, Nn110, Hs110, Gf110⟩ := id Va108
      have hin111 : ¬ ((4 : Int32) < 0 ∨ cl110.slots.size ≤ ((4 : Int32)).toNatClampNeg) := (inb_of Sz110 ⟨by decide, by decide⟩)
      obtain ⟨T111, h111, X111, e111, W111, st111⟩ := stC X108 hx hZ e108 Ar110 (j := (4 : Int32)) hin111 (g := (mkF m 158 #[.val (.int p1), .val (.int ((p1 &&& (2147483647 : Int32)) % (3 : Int32))), .unset, .unset, .unset] [(.int (105 : Int32)), (.int (4 : Int32)), (.ref b96), (.ref b96)])) rfl rfl (hb hby at_158)
      have N111 := Fr.snoc X111 N108 g_b96
      have Z112 : n0 ≤ h111.size := Nat.le_trans Z109 (Keep.of_wr W111).1
      have O112 : Old Z n0 h111 := O109.wr W111 g_b96
      have Va111 : Arv Z h111 b96 k96 .char (11 : Int32) [(.int (112 : Int32)), (.int (97 : Int32)), (.int (114 : Int32)), (.int (116 : Int32)), (.int (105 : Int32)), (.int (0 : Int32)), (.int (0 : Int32)), (.int (0 : Int32)), (.int (0 : Int32)), (.int (0 : Int32)), (.int (0 : Int32))] (.int (0 : Int32)) := Arv.set Ar110 qc110 Sz110 Nn110 Hs110 Gf110 (by decide) W111 4 rfl (Nat.le_of_ble_eq_true rfl)
      refine Go.step (T' := T111) (f' := (mkF m 159 #[.val (.int p1), .val (.int ((p1 &&& (2147483647 : Int32)) % (3 : Int32))), .unset, .unset, .unset] [(.ref b96)])) st111 ?_
      refine Go.step (T' := T111) (f' := (mkF m 160 #[.val (.int p1), .val (.int ((p1 &&& (2147483647 : Int32)) % (3 : Int32))), .unset, .unset, .unset] [(.ref b96), (.ref b96)])) (fun _ k => XS.dup X111.here hx rfl (hb hby at_159) rfl rfl k) ?_
      refine Go.step (T' := T111) (f' := (mkF m 161 #[.val (.int p1), .val (.int ((p1 &&& (2147483647 : Int32)) % (3 : Int32))), .unset, .unset, .unset] [(.int (5 : Int32)), (.ref b96), (.ref b96)])) (fun _ k => XS.iconst X111.here hx rfl (hb hby at_160) k) ?_
      refine Go.step (T' := T111) (f' := (mkF m 163 #[.val (.int p1), .val (.int ((p1 &&& (2147483647 : Int32)) % (3 : Int32))), .unset, .unset, .unset] [(.int (99 : Int32)), (.int (5 : Int32)), (.ref b96), (.ref b96)])) (fun _ k => XS.bipush X111.here hx rfl (hb hby at_161) k) ?_
      obtain ⟨cl113, Ar113, qc113, Sz113, Nn113, Hs113, Gf113⟩ := id Va111
      have hin114 : ¬ ((5 : Int32) < 0 ∨ cl113.slots.size ≤ ((5 : Int32)).toNatClampNeg) := (inb_of Sz113 ⟨by decide, by decide⟩)
      obtain ⟨T114, h114, X114, e114, W114, st114⟩ := stC X111 hx hZ e111 Ar113 (j := (5 : Int32)) hin114 (g := (mkF m 163 #[.val (.int p1), .val (.int ((p1 &&& (2147483647 : Int32)) % (3 : Int32))), .unset, .unset, .unset] [(.int (99 : Int32)), (.int (5 : Int32)), (.ref b96), (.ref b96)])) rfl rfl (hb hby at_163)
      have N114 := Fr.snoc X114 N111 g_b96
      have Z115 : n0 ≤ h114.size := Nat.le_trans Z112 (Keep.of_wr W114).1
      have O115 : Old Z n0 h114 := O112.wr W114 g_b96
      have Va114 : Arv Z h114 b96 k96 .char (11 : Int32) [(.int (112 : Int32)), (.int (97 : Int32)), (.int (114 : Int32)), (.int (116 : Int32)), (.int (105 : Int32)), (.int (99 : Int32)), (.int (0 : Int32)), (.int (0 : Int32)), (.int (0 : Int32)), (.int (0 : Int32)), (.int (0 : Int32))] (.int (0 : Int32)) := Arv.set Ar113 qc113 Sz113 Nn113 Hs113 Gf113 (by decide) W114 5 rfl (Nat.le_of_ble_eq_true rfl)
      refine Go.step (T' := T114) (f' := (mkF m 164 #[.val (.int p1), .val (.int ((p1 &&& (2147483647 : Int32)) % (3 : Int32))), .unset, .unset, .unset] [(.ref b96)])) st114 ?_
      refine Go.step (T' := T114) (f' := (mkF m 165 #[.val (.int p1), .val (.int ((p1 &&& (2147483647 : Int32)) % (3 : Int32))), .unset, .unset, .unset] [(.ref b96), (.ref b96)])) (fun _ k => XS.dup X114.here hx rfl (hb hby at_164) rfl rfl k) ?_
      refine Go.step (T' := T114) (f' := (mkF m 167 #[.val (.int p1), .val (.int ((p1 &&& (2147483647 : Int32)) % (3 : Int32))), .unset, .unset, .unset] [(.int (6 : Int32)), (.ref b96), (.ref b96)])) (fun _ k => XS.bipush X114.here hx rfl (hb hby at_165) k) ?_
      refine Go.step (T' := T114) (f' := (mkF m 169 #[.val (.int p1), .val (.int ((p1 &&& (2147483647 : Int32)) % (3 : Int32))), .unset, .unset, .unset] [(.int (105 : Int32)), (.int (6 : Int32)), (.ref b96), (.ref b96)])) (fun _ k => XS.bipush X114.here hx rfl (hb hby at_167) k) ?_
      obtain ⟨cl116, Ar116, qc116, Sz116, Nn116, Hs116, Gf116⟩ := id Va114
      have hin117 : ¬ ((6 : Int32) < 0 ∨ cl116.slots.size ≤ ((6 : Int32)).toNatClampNeg) := (inb_of Sz116 ⟨by decide, by decide⟩)
      obtain ⟨T117, h117, X117, e117, W117, st117⟩ := stC X114 hx hZ e114 Ar116 (j := (6 : Int32)) hin117 (g := (mkF m 169 #[.val (.int p1), .val (.int ((p1 &&& (2147483647 : Int32)) % (3 : Int32))), .unset, .unset, .unset] [(.int (105 : Int32)), (.int (6 : Int32)), (.ref b96), (.ref b96)])) rfl rfl (hb hby at_169)
      have N117 := Fr.snoc X117 N114 g_b96
      have Z118 : n0 ≤ h117.size := Nat.le_trans Z115 (Keep.of_wr W117).1
      have O118 : Old Z n0 h117 := O115.wr W117 g_b96
      have Va117 : Arv Z h117 b96 k96 .char (11 : Int32) [(.int (112 : Int32)), (.int (97 : Int32)), (.int (114 : Int32)), (.int (116 : Int32)), (.int (105 : Int32)), (.int (99 : Int32)), (.int (105 : Int32)), (.int (0 : Int32)), (.int (0 : Int32)), (.int (0 : Int32)), (.int (0 : Int32))] (.int (0 : Int32)) := Arv.set Ar116 qc116 Sz116 Nn116 Hs116 Gf116 (by decide) W117 6 rfl (Nat.le_of_ble_eq_true rfl)
      refine Go.step (T' := T117) (f' := (mkF m 170 #[.val (.int p1), .val (.int ((p1 &&& (2147483647 : Int32)) % (3 : Int32))), .unset, .unset, .unset] [(.ref b96)])) st117 ?_
      refine Go.step (T' := T117) (f' := (mkF m 171 #[.val (.int p1), .val (.int ((p1 &&& (2147483647 : Int32)) % (3 : Int32))), .unset, .unset, .unset] [(.ref b96), (.ref b96)])) (fun _ k => XS.dup X117.here hx rfl (hb hby at_170) rfl rfl k) ?_
      refine Go.step (T' := T117) (f' := (mkF m 173 #[.val (.int p1), .val (.int ((p1 &&& (2147483647 : Int32)) % (3 : Int32))), .unset, .unset, .unset] [(.int (7 : Int32)), (.ref b96), (.ref b96)])) (fun _ k => XS.bipush X117.here hx rfl (hb hby at_171) k) ?_
      refine Go.step (T' := T117) (f' := (mkF m 175 #[.val (.int p1), .val (.int ((p1 &&& (2147483647 : Int32)) % (3 : Int32))), .unset, .unset, .unset] [(.int (112 : Int32)), (.int (7 : Int32)), (.ref b96), (.ref b96)])) (fun _ k => XS.bipush X117.here hx rfl (hb hby at_173) k) ?_
      obtain ⟨cl119, Ar119, qc119, Sz119, Nn119, Hs119, Gf119⟩ := id Va117
      have hin120 : ¬ ((7 : Int32) < 0 ∨ cl119.slots.size ≤ ((7 : Int32)).toNatClampNeg) := (inb_of Sz119 ⟨by decide, by decide⟩)
      obtain ⟨T120, h120, X120, e120, W120, st120⟩ := stC X117 hx hZ e117 Ar119 (j := (7 : Int32)) hin120 (g := (mkF m 175 #[.val (.int p1), .val (.int ((p1 &&& (2147483647 : Int32)) % (3 : Int32))), .unset, .unset, .unset] [(.int (112 : Int32)), (.int (7 : Int32)), (.ref b96), (.ref b96)])) rfl rfl (hb hby at_175)
      have N120 := Fr.snoc X120 N117 g_b96
      have Z121 : n0 ≤ h120.size := Nat.le_trans Z118 (Keep.of_wr W120).1
      have O121 : Old Z n0 h120 := O118.wr W120 g_b96
      have Va120 : Arv Z h120 b96 k96 .char (11 : Int32) [(.int (112 : Int32)), (.int (97 : Int32)), (.int (114 : Int32)), (.int (116 : Int32)), (.int (105 : Int32)), (.int (99 : Int32)), (.int (105 : Int32)), (.int (112 : Int32)), (.int (0 : Int32)), (.int (0 : Int32)), (.int (0 : Int32))] (.int (0 : Int32)) := Arv.set Ar119 qc119 Sz119 Nn119 Hs119 Gf119 (by decide) W120 7 rfl (Nat.le_of_ble_eq_true rfl)
      refine Go.step (T' := T120) (f' := (mkF m 176 #[.val (.int p1), .val (.int ((p1 &&& (2147483647 : Int32)) % (3 : Int32))), .unset, .unset, .unset] [(.ref b96)])) st120 ?_
      refine Go.step (T' := T120) (f' := (mkF m 177 #[.val (.int p1), .val (.int ((p1 &&& (2147483647 : Int32)) % (3 : Int32))), .unset, .unset, .unset] [(.ref b96), (.ref b96)])) (fun _ k => XS.dup X120.here hx rfl (hb hby at_176) rfl rfl k) ?_
      refine Go.step (T' := T120) (f' := (mkF m 179 #[.val (.int p1), .val (.int ((p1 &&& (2147483647 : Int32)) % (3 : Int32))), .unset, .unset, .unset] [(.int (8 : Int32)), (.ref b96), (.ref b96)])) (fun _ k => XS.bipush X120.here hx rfl (hb hby at_177) k) ?_
      refine Go.step (T' := T120) (f' := (mkF m 181 #[.val (.int p1), .val (.int ((p1 &&& (2147483647 : Int32)) % (3 : Int32))), .unset, .unset, .unset] [(.int (97 : Int32)), (.int (8 : Int32)), (.ref b96), (.ref b96)])) (fun _ k => XS.bipush X120.here hx rfl (hb hby at_179) k) ?_
      obtain ⟨cl122, Ar122, qc122, Sz122, Nn122, Hs122, Gf122⟩ := id Va120
      have hin123 : ¬ ((8 : Int32) < 0 ∨ cl122.slots.size ≤ ((8 : Int32)).toNatClampNeg) := (inb_of Sz122 ⟨by decide, by decide⟩)
      obtain ⟨T123, h123, X123, e123, W123, st123⟩ := stC X120 hx hZ e120 Ar122 (j := (8 : Int32)) hin123 (g := (mkF m 181 #[.val (.int p1), .val (.int ((p1 &&& (2147483647 : Int32)) % (3 : Int32))), .unset, .unset, .unset] [(.int (97 : Int32)), (.int (8 : Int32)), (.ref b96), (.ref b96)])) rfl rfl (hb hby at_181)
      have N123 := Fr.snoc X123 N120 g_b96
      have Z124 : n0 ≤ h123.size := Nat.le_trans Z121 (Keep.of_wr W123).1
      have O124 : Old Z n0 h123 := O121.wr W123 g_b96
      have Va123 : Arv Z h123 b96 k96 .char (11 : Int32) [(.int (112 : Int32)), (.int (97 : Int32)), (.int (114 : Int32)), (.int (116 : Int32)), (.int (105 : Int32)), (.int (99 : Int32)), (.int (105 : Int32)), (.int (112 : Int32)), (.int (97 : Int32)), (.int (0 : Int32)), (.int (0 : Int32))] (.int (0 : Int32)) := Arv.set Ar122 qc122 Sz122 Nn122 Hs122 Gf122 (by decide) W123 8 rfl (Nat.le_of_ble_eq_true rfl)
      refine Go.step (T' := T123) (f' := (mkF m 182 #[.val (.int p1), .val (.int ((p1 &&& (2147483647 : Int32)) % (3 : Int32))), .unset, .unset, .unset] [(.ref b96)])) st123 ?_
      refine Go.step (T' := T123) (f' := (mkF m 183 #[.val (.int p1), .val (.int ((p1 &&& (2147483647 : Int32)) % (3 : Int32))), .unset, .unset, .unset] [(.ref b96), (.ref b96)])) (fun _ k => XS.dup X123.here hx rfl (hb hby at_182) rfl rfl k) ?_
      refine Go.step (T' := T123) (f' := (mkF m 185 #[.val (.int p1), .val (.int ((p1 &&& (2147483647 : Int32)) % (3 : Int32))), .unset, .unset, .unset] [(.int (9 : Int32)), (.ref b96), (.ref b96)])) (fun _ k => XS.bipush X123.here hx rfl (hb hby at_183) k) ?_
      refine Go.step (T' := T123) (f' := (mkF m 187 #[.val (.int p1), .val (.int ((p1 &&& (2147483647 : Int32)) % (3 : Int32))), .unset, .unset, .unset] [(.int (110 : Int32)), (.int (9 : Int32)), (.ref b96), (.ref b96)])) (fun _ k => XS.bipush X123.here hx rfl (hb hby at_185) k) ?_
      obtain ⟨cl125, Ar125, qc125, Sz125, Nn125, Hs125, Gf125⟩ := id Va123
      have hin126 : ¬ ((9 : Int32) < 0 ∨ cl125.slots.size ≤ ((9 : Int32)).toNatClampNeg) := (inb_of Sz125 ⟨by decide, by decide⟩)
      obtain ⟨T126, h126, X126, e126, W126, st126⟩ := stC X123 hx hZ e123 Ar125 (j := (9 : Int32)) hin126 (g := (mkF m 187 #[.val (.int p1), .val (.int ((p1 &&& (2147483647 : Int32)) % (3 : Int32))), .unset, .unset, .unset] [(.int (110 : Int32)), (.int (9 : Int32)), (.ref b96), (.ref b96)])) rfl rfl (hb hby at_187)
      have N126 := Fr.snoc X126 N123 g_b96
      have Z127 : n0 ≤ h126.size := Nat.le_trans Z124 (Keep.of_wr W126).1
      have O127 : Old Z n0 h126 := O124.wr W126 g_b96
      have Va126 : Arv Z h126 b96 k96 .char (11 : Int32) [(.int (112 : Int32)), (.int (97 : Int32)), (.int (114 : Int32)), (.int (116 : Int32)), (.int (105 : Int32)), (.int (99 : Int32)), (.int (105 : Int32)), (.int (112 : Int32)), (.int (97 : Int32)), (.int (110 : Int32)), (.int (0 : Int32))] (.int (0 : Int32)) := Arv.set Ar125 qc125 Sz125 Nn125 Hs125 Gf125 (by decide) W126 9 rfl (Nat.le_of_ble_eq_true rfl)
      refine Go.step (T' := T126) (f' := (mkF m 188 #[.val (.int p1), .val (.int ((p1 &&& (2147483647 : Int32)) % (3 : Int32))), .unset, .unset, .unset] [(.ref b96)])) st126 ?_
      refine Go.step (T' := T126) (f' := (mkF m 189 #[.val (.int p1), .val (.int ((p1 &&& (2147483647 : Int32)) % (3 : Int32))), .unset, .unset, .unset] [(.ref b96), (.ref b96)])) (fun _ k => XS.dup X126.here hx rfl (hb hby at_188) rfl rfl k) ?_
      refine Go.step (T' := T126) (f' := (mkF m 191 #[.val (.int p1), .val (.int ((p1 &&& (2147483647 : Int32)) % (3 : Int32))), .unset, .unset, .unset] [(.int (10 : Int32)), (.ref b96), (.ref b96)])) (fun _ k => XS.bipush X126.here hx rfl (hb hby at_189) k) ?_
      refine Go.step (T' := T126) (f' := (mkF m 193 #[.val (.int p1), .val (.int ((p1 &&& (2147483647 : Int32)) % (3 : Int32))), .unset, .unset, .unset] [(.int (116 : Int32)), (.int (10 : Int32)), (.ref b96), (.ref b96)])) (fun _ k => XS.bipush X126.here hx rfl (hb hby at_191) k) ?_
      obtain ⟨cl128, Ar128, qc128, Sz128, Nn128, Hs128, Gf128⟩ := id Va126
      have hin129 : ¬ ((10 : Int32) < 0 ∨ cl128.slots.size ≤ ((10 : Int32)).toNatClampNeg) := (inb_of Sz128 ⟨by decide, by decide⟩)
      obtain ⟨T129, h129, X129, e129, W129, st129⟩ := stC X126 hx hZ e126 Ar128 (j := (10 : Int32)) hin129 (g := (mkF m 193 #[.val (.int p1), .val (.int ((p1 &&& (2147483647 : Int32)) % (3 : Int32))), .unset, .unset, .unset] [(.int (116 : Int32)), (.int (10 : Int32)), (.ref b96), (.ref b96)])) rfl rfl (hb hby at_193)
      have N129 := Fr.snoc X129 N126 g_b96
      have Z130 : n0 ≤ h129.size := Nat.le_trans Z127 (Keep.of_wr W129).1
      have O130 : Old Z n0 h129 := O127.wr W129 g_b96
      have Va129 : Arv Z h129 b96 k96 .char (11 : Int32) [(.int (112 : Int32)), (.int (97 : Int32)), (.int (114 : Int32)), (.int (116 : Int32)), (.int (105 : Int32)), (.int (99 : Int32)), (.int (105 : Int32)), (.int (112 : Int32)), (.int (97 : Int32)), (.int (110 : Int32)), (.int (116 : Int32))] (.int (0 : Int32)) := Arv.set Ar128 qc128 Sz128 Nn128 Hs128 Gf128 (by decide) W129 10 rfl (Nat.le_of_ble_eq_true rfl)
      refine Go.step (T' := T129) (f' := (mkF m 194 #[.val (.int p1), .val (.int ((p1 &&& (2147483647 : Int32)) % (3 : Int32))), .unset, .unset, .unset] [(.ref b96)])) st129 ?_
      refine Go.step (T' := T129) (f' := (mkF m 195 #[.val (.int p1), .val (.int ((p1 &&& (2147483647 : Int32)) % (3 : Int32))), .val (.ref b96), .unset, .unset] [])) (fun _ k => XS.astoreN X129.here hx rfl (hb hby at_194) rfl rfl (l' := #[.val (.int p1), .val (.int ((p1 &&& (2147483647 : Int32)) % (3 : Int32))), .val (.ref b96), .unset, .unset]) rfl k) ?_
      obtain ⟨T131, X131, e131, st131⟩ := getS2 X129 hx hZ hown (host := "") (Or.inl (hw _ (List.mem_of_getElem? (i := 108) rfl))) Via.refl e129 (S_PARTICIPANT.ext O130.2) (g := (mkF m 195 #[.val (.int p1), .val (.int ((p1 &&& (2147483647 : Int32)) % (3 : Int32))), .val (.ref b96), .unset, .unset] [])) rfl (hb hby at_195)
      refine Go.step (T' := T131) (f' := (mkF m 198 #[.val (.int p1), .val (.int ((p1 &&& (2147483647 : Int32)) % (3 : Int32))), .val (.ref b96), .unset, .unset] [(.ref s2)])) st131 ?_
      refine Go.step (T' := T131) (f' := (mkF m 199 #[.val (.int p1), .val (.int ((p1 &&& (2147483647 : Int32)) % (3 : Int32))), .val (.ref b96), .val (.ref s2), .unset] [])) (fun _ k => XS.astoreN X131.here hx rfl (hb hby at_198) rfl rfl (l' := #[.val (.int p1), .val (.int ((p1 &&& (2147483647 : Int32)) % (3 : Int32))), .val (.ref b96), .val (.ref s2), .unset]) rfl k) ?_
      obtain ⟨T132, h132, X132, e132, E132, A132, D132, -, st132⟩ := newO X131 hx hZ hown (hw _ (List.mem_of_getElem? (i := 5) rfl)) (hw _ (List.mem_of_getElem? (i := 6) rfl)) (hw _ (List.mem_of_getElem? (i := 7) rfl)) e131 (g := (mkF m 199 #[.val (.int p1), .val (.int ((p1 &&& (2147483647 : Int32)) % (3 : Int32))), .val (.ref b96), .val (.ref s2), .unset] [])) rfl (hb hby at_199) (by decide) (by decide)
      obtain ⟨b132, g132⟩ : ∃ z, z = h129.size := ⟨_, rfl⟩
      rw [← g132] at A132 D132 st132
      have g_b132 : n0 ≤ b132 := Nat.le_trans Z130 (Nat.le_of_eq g132.symm)
      have Z133 : n0 ≤ h132.size := Nat.le_trans Z130 E132.1
      have O133 : Old Z n0 h132 := O130.ext E132
      have F_coder_b132 : Fld Z h132 b132 "java/lang/String" "coder" "B" (.int (0 : Int32)) := D132 (Or.inr (hw _ (List.mem_of_getElem? (i := 31) rfl))) (ty := .byte) (by decide)
      have F_value_b132 : Fld Z h132 b132 "java/lang/String" "value" "[B" .null := D132 (Or.inr (hw _ (List.mem_of_getElem? (i := 33) rfl))) (ty := (.array .byte)) (by decide)
      refine Go.step (T' := T132) (f' := (mkF m 202 #[.val (.int p1), .val (.int ((p1 &&& (2147483647 : Int32)) % (3 : Int32))), .val (.ref b96), .val (.ref s2), .unset] [(.ref b132)])) st132 ?_
      refine Go.step (T' := T132) (f' := (mkF m 203 #[.val (.int p1), .val (.int ((p1 &&& (2147483647 : Int32)) % (3 : Int32))), .val (.ref b96), .val (.ref s2), .unset] [(.ref b132), (.ref b132)])) (fun _ k => XS.dup X132.here hx rfl (hb hby at_202) rfl rfl k) ?_
      refine Go.step (T' := T132) (f' := (mkF m 204 #[.val (.int p1), .val (.int ((p1 &&& (2147483647 : Int32)) % (3 : Int32))), .val (.ref b96), .val (.ref s2), .unset] [(.ref b96), (.ref b132), (.ref b132)])) (fun _ k => XS.aloadN X132.here hx rfl (hb hby at_203) rfl rfl k) ?_
      have q135 : Arv Z h132 b96 k96 .char (11 : Int32) [(.int (112 : Int32)), (.int (97 : Int32)), (.int (114 : Int32)), (.int (116 : Int32)), (.int (105 : Int32)), (.int (99 : Int32)), (.int (105 : Int32)), (.int (112 : Int32)), (.int (97 : Int32)), (.int (110 : Int32)), (.int (116 : Int32))] (.int (0 : Int32)) := (Va129.ext E132)
      obtain ⟨_, _, ⟨T134, L134, kk134, nn134⟩, -, X134, ⟨Lc134, hQ134, lq134, yq134, zq134⟩, st134⟩ := X132.specialBack hx (y := (⟨"java/lang/String", "<init>", "([C)V"⟩ : MethodName)) rfl hown (mvT hZ (hw _ (List.mem_of_getElem? (i := 8) rfl))) (mvT hZ (hw _ (List.mem_of_getElem? (i := 9) rfl))) (mvT hZ (hw _ (List.mem_of_getElem? (i := 10) rfl))) (by decide) (backOf (W := 1) (rmSi_11 l Z a0 hw [] b132 b96 cs k96 (112 : Int32) (97 : Int32) (114 : Int32) (116 : Int32) (105 : Int32) (99 : Int32) (105 : Int32) (112 : Int32) (97 : Int32) (110 : Int32) (116 : Int32) h132 n0 Z133 A132 F_value_b132 F_coder_b132 q135 O133 S_COMPACT_STRINGS hcs (by decide) (by decide) (by decide) (by decide) (by decide) (by decide) (by decide) (by decide) (by decide) (by decide) (by decide) g_b132) hZ (hw _ (List.mem_of_getElem? (i := 10) rfl)) (hw _ (List.mem_of_getElem? (i := 7) rfl)) (by decide) (by decide)) (g := (mkF m 204 #[.val (.int p1), .val (.int ((p1 &&& (2147483647 : Int32)) % (3 : Int32))), .val (.ref b96), .val (.ref s2), .unset] [(.ref b96), (.ref b132), (.ref b132)])) rfl (by rw [hml]; rfl) (Steps.refl _) (a := b132) (argsL := [(.ref b96)]) (rest := [(.ref b132)]) (lenOf pd_14 rfl) rfl (by show 2 * 0 + _ ≤ _; exact Nat.le_of_eq rfl) (hb hby at_204) (fun _ _ => ⟨rfl, e132, (by decide : 2 + 1 ≤ _), (by decide : 15 + 11 ≤ _)⟩)
      dsimp only [Pt.U, Pt.locs, Pt.cells, Pt.slots] at X134 lq134 yq134 zq134 st134 hQ134
      subst yq134 zq134
      obtain ⟨b_134, kb_134, rfl, Nq134, Kq134, r134_0, r134_1, r134_2, r134_3⟩ := hQ134
      have N134 : Fr n0 L134 := by rw [lq134]; exact Fr.app N129 Nq134
      have g_b_134 : n0 ≤ b_134 := Nat.le_trans Z133 r134_0
      have Z136 : n0 ≤ T134.heap.size := Nat.le_trans Z133 Kq134.1
      have O136 : Old Z n0 T134.heap := O133.keep Kq134 (allS g_b132 all0)
      refine Go.step (T' := T134) (f' := (mkF m 207 #[.val (.int p1), .val (.int ((p1 &&& (2147483647 : Int32)) % (3 : Int32))), .val (.ref b96), .val (.ref s2), .unset] [(.ref b132)])) (fun _ k => st134.trans k) ?_
      have q138 : Exa Z T134.heap sv "[Lcom/example/tenderbook/tenderbook/Role;" := ((((((((((((((E_sv.ext E96).wr W99).wr W102).wr W105).wr W108).wr W111).wr W114).wr W117).wr W120).wr W123).wr W126).wr W129).ext E132).keep Kq134)
      have q139 : Arv Z T134.heap sv kv (.object "com/example/tenderbook/tenderbook/Role") (3 : Int32) [(.ref s0), (.ref s1), (.ref s2)] .null := ((((((((((((((V_sv.ext E96).other W99 (Nat.ne_of_lt (Nat.lt_of_lt_of_le E_sv.lt (Nat.le_of_eq g96.symm)))).other W102 (Nat.ne_of_lt (Nat.lt_of_lt_of_le E_sv.lt (Nat.le_of_eq g96.symm)))).other W105 (Nat.ne_of_lt (Nat.lt_of_lt_of_le E_sv.lt (Nat.le_of_eq g96.symm)))).other W108 (Nat.ne_of_lt (Nat.lt_of_lt_of_le E_sv.lt (Nat.le_of_eq g96.symm)))).other W111 (Nat.ne_of_lt (Nat.lt_of_lt_of_le E_sv.lt (Nat.le_of_eq g96.symm)))).other W114 (Nat.ne_of_lt (Nat.lt_of_lt_of_le E_sv.lt (Nat.le_of_eq g96.symm)))).other W117 (Nat.ne_of_lt (Nat.lt_of_lt_of_le E_sv.lt (Nat.le_of_eq g96.symm)))).other W120 (Nat.ne_of_lt (Nat.lt_of_lt_of_le E_sv.lt (Nat.le_of_eq g96.symm)))).other W123 (Nat.ne_of_lt (Nat.lt_of_lt_of_le E_sv.lt (Nat.le_of_eq g96.symm)))).other W126 (Nat.ne_of_lt (Nat.lt_of_lt_of_le E_sv.lt (Nat.le_of_eq g96.symm)))).other W129 (Nat.ne_of_lt (Nat.lt_of_lt_of_le E_sv.lt (Nat.le_of_eq g96.symm)))).ext E132).keep Kq134 (ninS (Nat.ne_of_lt (Nat.lt_of_lt_of_le ((((((((((((E_sv.ext E96).wr W99).wr W102).wr W105).wr W108).wr W111).wr W114).wr W117).wr W120).wr W123).wr W126).wr W129).lt (Nat.le_of_eq g132.symm))) nin0))
      have q140 : Exa Z T134.heap s0 "com/example/tenderbook/tenderbook/Role" := ((((((((((((((E_s0.ext E96).wr W99).wr W102).wr W105).wr W108).wr W111).wr W114).wr W117).wr W120).wr W123).wr W126).wr W129).ext E132).keep Kq134)
      have q141 : Fld Z T134.heap s0 "com/example/tenderbook/tenderbook/Role" "code" "Ljava/lang/String;" (.ref t0) := ((((((((((((((F_code_s0.ext E96).other W99 (Or.inl (Nat.ne_of_lt (Nat.lt_of_lt_of_le E_s0.lt (Nat.le_of_eq g96.symm))))).other W102 (Or.inl (Nat.ne_of_lt (Nat.lt_of_lt_of_le E_s0.lt (Nat.le_of_eq g96.symm))))).other W105 (Or.inl (Nat.ne_of_lt (Nat.lt_of_lt_of_le E_s0.lt (Nat.le_of_eq g96.symm))))).other W108 (Or.inl (Nat.ne_of_lt (Nat.lt_of_lt_of_le E_s0.lt (Nat.le_of_eq g96.symm))))).other W111 (Or.inl (Nat.ne_of_lt (Nat.lt_of_lt_of_le E_s0.lt (Nat.le_of_eq g96.symm))))).other W114 (Or.inl (Nat.ne_of_lt (Nat.lt_of_lt_of_le E_s0.lt (Nat.le_of_eq g96.symm))))).other W117 (Or.inl (Nat.ne_of_lt (Nat.lt_of_lt_of_le E_s0.lt (Nat.le_of_eq g96.symm))))).other W120 (Or.inl (Nat.ne_of_lt (Nat.lt_of_lt_of_le E_s0.lt (Nat.le_of_eq g96.symm))))).other W123 (Or.inl (Nat.ne_of_lt (Nat.lt_of_lt_of_le E_s0.lt (Nat.le_of_eq g96.symm))))).other W126 (Or.inl (Nat.ne_of_lt (Nat.lt_of_lt_of_le E_s0.lt (Nat.le_of_eq g96.symm))))).other W129 (Or.inl (Nat.ne_of_lt (Nat.lt_of_lt_of_le E_s0.lt (Nat.le_of_eq g96.symm))))).ext E132).keep Kq134 (ninS (Nat.ne_of_lt (Nat.lt_of_lt_of_le ((((((((((((E_s0.ext E96).wr W99).wr W102).wr W105).wr W108).wr W111).wr W114).wr W117).wr W120).wr W123).wr W126).wr W129).lt (Nat.le_of_eq g132.symm))) nin0))
      have q142 : Exa Z T134.heap t0 "java/lang/String" := ((((((((((((((E_t0.ext E96).wr W99).wr W102).wr W105).wr W108).wr W111).wr W114).wr W117).wr W120).wr W123).wr W126).wr W129).ext E132).keep Kq134)
      have q143 : Fld Z T134.heap t0 "java/lang/String" "coder" "B" (.int (0 : Int32)) := ((((((((((((((F_coder_t0.ext E96).other W99 (Or.inl (Nat.ne_of_lt (Nat.lt_of_lt_of_le E_t0.lt (Nat.le_of_eq g96.symm))))).other W102 (Or.inl (Nat.ne_of_lt (Nat.lt_of_lt_of_le E_t0.lt (Nat.le_of_eq g96.symm))))).other W105 (Or.inl (Nat.ne_of_lt (Nat.lt_of_lt_of_le E_t0.lt (Nat.le_of_eq g96.symm))))).other W108 (Or.inl (Nat.ne_of_lt (Nat.lt_of_lt_of_le E_t0.lt (Nat.le_of_eq g96.symm))))).other W111 (Or.inl (Nat.ne_of_lt (Nat.lt_of_lt_of_le E_t0.lt (Nat.le_of_eq g96.symm))))).other W114 (Or.inl (Nat.ne_of_lt (Nat.lt_of_lt_of_le E_t0.lt (Nat.le_of_eq g96.symm))))).other W117 (Or.inl (Nat.ne_of_lt (Nat.lt_of_lt_of_le E_t0.lt (Nat.le_of_eq g96.symm))))).other W120 (Or.inl (Nat.ne_of_lt (Nat.lt_of_lt_of_le E_t0.lt (Nat.le_of_eq g96.symm))))).other W123 (Or.inl (Nat.ne_of_lt (Nat.lt_of_lt_of_le E_t0.lt (Nat.le_of_eq g96.symm))))).other W126 (Or.inl (Nat.ne_of_lt (Nat.lt_of_lt_of_le E_t0.lt (Nat.le_of_eq g96.symm))))).other W129 (Or.inl (Nat.ne_of_lt (Nat.lt_of_lt_of_le E_t0.lt (Nat.le_of_eq g96.symm))))).ext E132).keep Kq134 (ninS (Nat.ne_of_lt (Nat.lt_of_lt_of_le ((((((((((((E_t0.ext E96).wr W99).wr W102).wr W105).wr W108).wr W111).wr W114).wr W117).wr W120).wr W123).wr W126).wr W129).lt (Nat.le_of_eq g132.symm))) nin0))
      have q144 : Fld Z T134.heap t0 "java/lang/String" "value" "[B" (.ref v0) := ((((((((((((((F_value_t0.ext E96).other W99 (Or.inl (Nat.ne_of_lt (Nat.lt_of_lt_of_le E_t0.lt (Nat.le_of_eq g96.symm))))).other W102 (Or.inl (Nat.ne_of_lt (Nat.lt_of_lt_of_le E_t0.lt (Nat.le_of_eq g96.symm))))).other W105 (Or.inl (Nat.ne_of_lt (Nat.lt_of_lt_of_le E_t0.lt (Nat.le_of_eq g96.symm))))).other W108 (Or.inl (Nat.ne_of_lt (Nat.lt_of_lt_of_le E_t0.lt (Nat.le_of_eq g96.symm))))).other W111 (Or.inl (Nat.ne_of_lt (Nat.lt_of_lt_of_le E_t0.lt (Nat.le_of_eq g96.symm))))).other W114 (Or.inl (Nat.ne_of_lt (Nat.lt_of_lt_of_le E_t0.lt (Nat.le_of_eq g96.symm))))).other W117 (Or.inl (Nat.ne_of_lt (Nat.lt_of_lt_of_le E_t0.lt (Nat.le_of_eq g96.symm))))).other W120 (Or.inl (Nat.ne_of_lt (Nat.lt_of_lt_of_le E_t0.lt (Nat.le_of_eq g96.symm))))).other W123 (Or.inl (Nat.ne_of_lt (Nat.lt_of_lt_of_le E_t0.lt (Nat.le_of_eq g96.symm))))).other W126 (Or.inl (Nat.ne_of_lt (Nat.lt_of_lt_of_le E_t0.lt (Nat.le_of_eq g96.symm))))).other W129 (Or.inl (Nat.ne_of_lt (Nat.lt_of_lt_of_le E_t0.lt (Nat.le_of_eq g96.symm))))).ext E132).keep Kq134 (ninS (Nat.ne_of_lt (Nat.lt_of_lt_of_le ((((((((((((E_t0.ext E96).wr W99).wr W102).wr W105).wr W108).wr W111).wr W114).wr W117).wr W120).wr W123).wr W126).wr W129).lt (Nat.le_of_eq g132.symm))) nin0))
      have q145 : Arv Z T134.heap v0 kv0 .byte (8 : Int32) [(.int (111 : Int32)), (.int (112 : Int32)), (.int (101 : Int32)), (.int (114 : Int32)), (.int (97 : Int32)), (.int (116 : Int32)), (.int (111 : Int32)), (.int (114 : Int32))] (.int (0 : Int32)) := ((((((((((((((V_v0.ext E96).other W99 (Nat.ne_of_lt (Nat.lt_of_lt_of_le V_v0.lt (Nat.le_of_eq g96.symm)))).other W102 (Nat.ne_of_lt (Nat.lt_of_lt_of_le V_v0.lt (Nat.le_of_eq g96.symm)))).other W105 (Nat.ne_of_lt (Nat.lt_of_lt_of_le V_v0.lt (Nat.le_of_eq g96.symm)))).other W108 (Nat.ne_of_lt (Nat.lt_of_lt_of_le V_v0.lt (Nat.le_of_eq g96.symm)))).other W111 (Nat.ne_of_lt (Nat.lt_of_lt_of_le V_v0.lt (Nat.le_of_eq g96.symm)))).other W114 (Nat.ne_of_lt (Nat.lt_of_lt_of_le V_v0.lt (Nat.le_of_eq g96.symm)))).other W117 (Nat.ne_of_lt (Nat.lt_of_lt_of_le V_v0.lt (Nat.le_of_eq g96.symm)))).other W120 (Nat.ne_of_lt (Nat.lt_of_lt_of_le V_v0.lt (Nat.le_of_eq g96.symm)))).other W123 (Nat.ne_of_lt (Nat.lt_of_lt_of_le V_v0.lt (Nat.le_of_eq g96.symm)))).other W126 (Nat.ne_of_lt (Nat.lt_of_lt_of_le V_v0.lt (Nat.le_of_eq g96.symm)))).other W129 (Nat.ne_of_lt (Nat.lt_of_lt_of_le V_v0.lt (Nat.le_of_eq g96.symm)))).ext E132).keep Kq134 (ninS (Nat.ne_of_lt (Nat.lt_of_lt_of_le ((((((((((((V_v0.ext E96).other W99 (Nat.ne_of_lt (Nat.lt_of_lt_of_le V_v0.lt (Nat.le_of_eq g96.symm)))).other W102 (Nat.ne_of_lt (Nat.lt_of_lt_of_le V_v0.lt (Nat.le_of_eq g96.symm)))).other W105 (Nat.ne_of_lt (Nat.lt_of_lt_of_le V_v0.lt (Nat.le_of_eq g96.symm)))).other W108 (Nat.ne_of_lt (Nat.lt_of_lt_of_le V_v0.lt (Nat.le_of_eq g96.symm)))).other W111 (Nat.ne_of_lt (Nat.lt_of_lt_of_le V_v0.lt (Nat.le_of_eq g96.symm)))).other W114 (Nat.ne_of_lt (Nat.lt_of_lt_of_le V_v0.lt (Nat.le_of_eq g96.symm)))).other W117 (Nat.ne_of_lt (Nat.lt_of_lt_of_le V_v0.lt (Nat.le_of_eq g96.symm)))).other W120 (Nat.ne_of_lt (Nat.lt_of_lt_of_le V_v0.lt (Nat.le_of_eq g96.symm)))).other W123 (Nat.ne_of_lt (Nat.lt_of_lt_of_le V_v0.lt (Nat.le_of_eq g96.symm)))).other W126 (Nat.ne_of_lt (Nat.lt_of_lt_of_le V_v0.lt (Nat.le_of_eq g96.symm)))).other W129 (Nat.ne_of_lt (Nat.lt_of_lt_of_le V_v0.lt (Nat.le_of_eq g96.symm)))).lt (Nat.le_of_eq g132.symm))) nin0))
      have q146 : Exa Z T134.heap s1 "com/example/tenderbook/tenderbook/Role" := ((((((((((((((E_s1.ext E96).wr W99).wr W102).wr W105).wr W108).wr W111).wr W114).wr W117).wr W120).wr W123).wr W126).wr W129).ext E132).keep Kq134)
      have q147 : Fld Z T134.heap s1 "com/example/tenderbook/tenderbook/Role" "code" "Ljava/lang/String;" (.ref t1) := ((((((((((((((F_code_s1.ext E96).other W99 (Or.inl (Nat.ne_of_lt (Nat.lt_of_lt_of_le E_s1.lt (Nat.le_of_eq g96.symm))))).other W102 (Or.inl (Nat.ne_of_lt (Nat.lt_of_lt_of_le E_s1.lt (Nat.le_of_eq g96.symm))))).other W105 (Or.inl (Nat.ne_of_lt (Nat.lt_of_lt_of_le E_s1.lt (Nat.le_of_eq g96.symm))))).other W108 (Or.inl (Nat.ne_of_lt (Nat.lt_of_lt_of_le E_s1.lt (Nat.le_of_eq g96.symm))))).other W111 (Or.inl (Nat.ne_of_lt (Nat.lt_of_lt_of_le E_s1.lt (Nat.le_of_eq g96.symm))))).other W114 (Or.inl (Nat.ne_of_lt (Nat.lt_of_lt_of_le E_s1.lt (Nat.le_of_eq g96.symm))))).other W117 (Or.inl (Nat.ne_of_lt (Nat.lt_of_lt_of_le E_s1.lt (Nat.le_of_eq g96.symm))))).other W120 (Or.inl (Nat.ne_of_lt (Nat.lt_of_lt_of_le E_s1.lt (Nat.le_of_eq g96.symm))))).other W123 (Or.inl (Nat.ne_of_lt (Nat.lt_of_lt_of_le E_s1.lt (Nat.le_of_eq g96.symm))))).other W126 (Or.inl (Nat.ne_of_lt (Nat.lt_of_lt_of_le E_s1.lt (Nat.le_of_eq g96.symm))))).other W129 (Or.inl (Nat.ne_of_lt (Nat.lt_of_lt_of_le E_s1.lt (Nat.le_of_eq g96.symm))))).ext E132).keep Kq134 (ninS (Nat.ne_of_lt (Nat.lt_of_lt_of_le ((((((((((((E_s1.ext E96).wr W99).wr W102).wr W105).wr W108).wr W111).wr W114).wr W117).wr W120).wr W123).wr W126).wr W129).lt (Nat.le_of_eq g132.symm))) nin0))
      have q148 : Exa Z T134.heap t1 "java/lang/String" := ((((((((((((((E_t1.ext E96).wr W99).wr W102).wr W105).wr W108).wr W111).wr W114).wr W117).wr W120).wr W123).wr W126).wr W129).ext E132).keep Kq134)
      have q149 : Fld Z T134.heap t1 "java/lang/String" "coder" "B" (.int (0 : Int32)) := ((((((((((((((F_coder_t1.ext E96).other W99 (Or.inl (Nat.ne_of_lt (Nat.lt_of_lt_of_le E_t1.lt (Nat.le_of_eq g96.symm))))).other W102 (Or.inl (Nat.ne_of_lt (Nat.lt_of_lt_of_le E_t1.lt (Nat.le_of_eq g96.symm))))).other W105 (Or.inl (Nat.ne_of_lt (Nat.lt_of_lt_of_le E_t1.lt (Nat.le_of_eq g96.symm))))).other W108 (Or.inl (Nat.ne_of_lt (Nat.lt_of_lt_of_le E_t1.lt (Nat.le_of_eq g96.symm))))).other W111 (Or.inl (Nat.ne_of_lt (Nat.lt_of_lt_of_le E_t1.lt (Nat.le_of_eq g96.symm))))).other W114 (Or.inl (Nat.ne_of_lt (Nat.lt_of_lt_of_le E_t1.lt (Nat.le_of_eq g96.symm))))).other W117 (Or.inl (Nat.ne_of_lt (Nat.lt_of_lt_of_le E_t1.lt (Nat.le_of_eq g96.symm))))).other W120 (Or.inl (Nat.ne_of_lt (Nat.lt_of_lt_of_le E_t1.lt (Nat.le_of_eq g96.symm))))).other W123 (Or.inl (Nat.ne_of_lt (Nat.lt_of_lt_of_le E_t1.lt (Nat.le_of_eq g96.symm))))).other W126 (Or.inl (Nat.ne_of_lt (Nat.lt_of_lt_of_le E_t1.lt (Nat.le_of_eq g96.symm))))).other W129 (Or.inl (Nat.ne_of_lt (Nat.lt_of_lt_of_le E_t1.lt (Nat.le_of_eq g96.symm))))).ext E132).keep Kq134 (ninS (Nat.ne_of_lt (Nat.lt_of_lt_of_le ((((((((((((E_t1.ext E96).wr W99).wr W102).wr W105).wr W108).wr W111).wr W114).wr W117).wr W120).wr W123).wr W126).wr W129).lt (Nat.le_of_eq g132.symm))) nin0))
      have q150 : Fld Z T134.heap t1 "java/lang/String" "value" "[B" (.ref v1) := ((((((((((((((F_value_t1.ext E96).other W99 (Or.inl (Nat.ne_of_lt (Nat.lt_of_lt_of_le E_t1.lt (Nat.le_of_eq g96.symm))))).other W102 (Or.inl (Nat.ne_of_lt (Nat.lt_of_lt_of_le E_t1.lt (Nat.le_of_eq g96.symm))))).other W105 (Or.inl (Nat.ne_of_lt (Nat.lt_of_lt_of_le E_t1.lt (Nat.le_of_eq g96.symm))))).other W108 (Or.inl (Nat.ne_of_lt (Nat.lt_of_lt_of_le E_t1.lt (Nat.le_of_eq g96.symm))))).other W111 (Or.inl (Nat.ne_of_lt (Nat.lt_of_lt_of_le E_t1.lt (Nat.le_of_eq g96.symm))))).other W114 (Or.inl (Nat.ne_of_lt (Nat.lt_of_lt_of_le E_t1.lt (Nat.le_of_eq g96.symm))))).other W117 (Or.inl (Nat.ne_of_lt (Nat.lt_of_lt_of_le E_t1.lt (Nat.le_of_eq g96.symm))))).other W120 (Or.inl (Nat.ne_of_lt (Nat.lt_of_lt_of_le E_t1.lt (Nat.le_of_eq g96.symm))))).other W123 (Or.inl (Nat.ne_of_lt (Nat.lt_of_lt_of_le E_t1.lt (Nat.le_of_eq g96.symm))))).other W126 (Or.inl (Nat.ne_of_lt (Nat.lt_of_lt_of_le E_t1.lt (Nat.le_of_eq g96.symm))))).other W129 (Or.inl (Nat.ne_of_lt (Nat.lt_of_lt_of_le E_t1.lt (Nat.le_of_eq g96.symm))))).ext E132).keep Kq134 (ninS (Nat.ne_of_lt (Nat.lt_of_lt_of_le ((((((((((((E_t1.ext E96).wr W99).wr W102).wr W105).wr W108).wr W111).wr W114).wr W117).wr W120).wr W123).wr W126).wr W129).lt (Nat.le_of_eq g132.symm))) nin0))
      have q151 : Arv Z T134.heap v1 kv1 .byte (9 : Int32) [(.int (105 : Int32)), (.int (110 : Int32)), (.int (105 : Int32)), (.int (116 : Int32)), (.int (105 : Int32)), (.int (97 : Int32)), (.int (116 : Int32)), (.int (111 : Int32)), (.int (114 : Int32))] (.int (0 : Int32)) := ((((((((((((((V_v1.ext E96).other W99 (Nat.ne_of_lt (Nat.lt_of_lt_of_le V_v1.lt (Nat.le_of_eq g96.symm)))).other W102 (Nat.ne_of_lt (Nat.lt_of_lt_of_le V_v1.lt (Nat.le_of_eq g96.symm)))).other W105 (Nat.ne_of_lt (Nat.lt_of_lt_of_le V_v1.lt (Nat.le_of_eq g96.symm)))).other W108 (Nat.ne_of_lt (Nat.lt_of_lt_of_le V_v1.lt (Nat.le_of_eq g96.symm)))).other W111 (Nat.ne_of_lt (Nat.lt_of_lt_of_le V_v1.lt (Nat.le_of_eq g96.symm)))).other W114 (Nat.ne_of_lt (Nat.lt_of_lt_of_le V_v1.lt (Nat.le_of_eq g96.symm)))).other W117 (Nat.ne_of_lt (Nat.lt_of_lt_of_le V_v1.lt (Nat.le_of_eq g96.symm)))).other W120 (Nat.ne_of_lt (Nat.lt_of_lt_of_le V_v1.lt (Nat.le_of_eq g96.symm)))).other W123 (Nat.ne_of_lt (Nat.lt_of_lt_of_le V_v1.lt (Nat.le_of_eq g96.symm)))).other W126 (Nat.ne_of_lt (Nat.lt_of_lt_of_le V_v1.lt (Nat.le_of_eq g96.symm)))).other W129 (Nat.ne_of_lt (Nat.lt_of_lt_of_le V_v1.lt (Nat.le_of_eq g96.symm)))).ext E132).keep Kq134 (ninS (Nat.ne_of_lt (Nat.lt_of_lt_of_le ((((((((((((V_v1.ext E96).other W99 (Nat.ne_of_lt (Nat.lt_of_lt_of_le V_v1.lt (Nat.le_of_eq g96.symm)))).other W102 (Nat.ne_of_lt (Nat.lt_of_lt_of_le V_v1.lt (Nat.le_of_eq g96.symm)))).other W105 (Nat.ne_of_lt (Nat.lt_of_lt_of_le V_v1.lt (Nat.le_of_eq g96.symm)))).other W108 (Nat.ne_of_lt (Nat.lt_of_lt_of_le V_v1.lt (Nat.le_of_eq g96.symm)))).other W111 (Nat.ne_of_lt (Nat.lt_of_lt_of_le V_v1.lt (Nat.le_of_eq g96.symm)))).other W114 (Nat.ne_of_lt (Nat.lt_of_lt_of_le V_v1.lt (Nat.le_of_eq g96.symm)))).other W117 (Nat.ne_of_lt (Nat.lt_of_lt_of_le V_v1.lt (Nat.le_of_eq g96.symm)))).other W120 (Nat.ne_of_lt (Nat.lt_of_lt_of_le V_v1.lt (Nat.le_of_eq g96.symm)))).other W123 (Nat.ne_of_lt (Nat.lt_of_lt_of_le V_v1.lt (Nat.le_of_eq g96.symm)))).other W126 (Nat.ne_of_lt (Nat.lt_of_lt_of_le V_v1.lt (Nat.le_of_eq g96.symm)))).other W129 (Nat.ne_of_lt (Nat.lt_of_lt_of_le V_v1.lt (Nat.le_of_eq g96.symm)))).lt (Nat.le_of_eq g132.symm))) nin0))
      have q152 : Exa Z T134.heap s2 "com/example/tenderbook/tenderbook/Role" := ((((((((((((((E_s2.ext E96).wr W99).wr W102).wr W105).wr W108).wr W111).wr W114).wr W117).wr W120).wr W123).wr W126).wr W129).ext E132).keep Kq134)
      have q153 : Fld Z T134.heap s2 "com/example/tenderbook/tenderbook/Role" "code" "Ljava/lang/String;" (.ref t2) := ((((((((((((((F_code_s2.ext E96).other W99 (Or.inl (Nat.ne_of_lt (Nat.lt_of_lt_of_le E_s2.lt (Nat.le_of_eq g96.symm))))).other W102 (Or.inl (Nat.ne_of_lt (Nat.lt_of_lt_of_le E_s2.lt (Nat.le_of_eq g96.symm))))).other W105 (Or.inl (Nat.ne_of_lt (Nat.lt_of_lt_of_le E_s2.lt (Nat.le_of_eq g96.symm))))).other W108 (Or.inl (Nat.ne_of_lt (Nat.lt_of_lt_of_le E_s2.lt (Nat.le_of_eq g96.symm))))).other W111 (Or.inl (Nat.ne_of_lt (Nat.lt_of_lt_of_le E_s2.lt (Nat.le_of_eq g96.symm))))).other W114 (Or.inl (Nat.ne_of_lt (Nat.lt_of_lt_of_le E_s2.lt (Nat.le_of_eq g96.symm))))).other W117 (Or.inl (Nat.ne_of_lt (Nat.lt_of_lt_of_le E_s2.lt (Nat.le_of_eq g96.symm))))).other W120 (Or.inl (Nat.ne_of_lt (Nat.lt_of_lt_of_le E_s2.lt (Nat.le_of_eq g96.symm))))).other W123 (Or.inl (Nat.ne_of_lt (Nat.lt_of_lt_of_le E_s2.lt (Nat.le_of_eq g96.symm))))).other W126 (Or.inl (Nat.ne_of_lt (Nat.lt_of_lt_of_le E_s2.lt (Nat.le_of_eq g96.symm))))).other W129 (Or.inl (Nat.ne_of_lt (Nat.lt_of_lt_of_le E_s2.lt (Nat.le_of_eq g96.symm))))).ext E132).keep Kq134 (ninS (Nat.ne_of_lt (Nat.lt_of_lt_of_le ((((((((((((E_s2.ext E96).wr W99).wr W102).wr W105).wr W108).wr W111).wr W114).wr W117).wr W120).wr W123).wr W126).wr W129).lt (Nat.le_of_eq g132.symm))) nin0))
      have q154 : Exa Z T134.heap t2 "java/lang/String" := ((((((((((((((E_t2.ext E96).wr W99).wr W102).wr W105).wr W108).wr W111).wr W114).wr W117).wr W120).wr W123).wr W126).wr W129).ext E132).keep Kq134)
      have q155 : Fld Z T134.heap t2 "java/lang/String" "coder" "B" (.int (0 : Int32)) := ((((((((((((((F_coder_t2.ext E96).other W99 (Or.inl (Nat.ne_of_lt (Nat.lt_of_lt_of_le E_t2.lt (Nat.le_of_eq g96.symm))))).other W102 (Or.inl (Nat.ne_of_lt (Nat.lt_of_lt_of_le E_t2.lt (Nat.le_of_eq g96.symm))))).other W105 (Or.inl (Nat.ne_of_lt (Nat.lt_of_lt_of_le E_t2.lt (Nat.le_of_eq g96.symm))))).other W108 (Or.inl (Nat.ne_of_lt (Nat.lt_of_lt_of_le E_t2.lt (Nat.le_of_eq g96.symm))))).other W111 (Or.inl (Nat.ne_of_lt (Nat.lt_of_lt_of_le E_t2.lt (Nat.le_of_eq g96.symm))))).other W114 (Or.inl (Nat.ne_of_lt (Nat.lt_of_lt_of_le E_t2.lt (Nat.le_of_eq g96.symm))))).other W117 (Or.inl (Nat.ne_of_lt (Nat.lt_of_lt_of_le E_t2.lt (Nat.le_of_eq g96.symm))))).other W120 (Or.inl (Nat.ne_of_lt (Nat.lt_of_lt_of_le E_t2.lt (Nat.le_of_eq g96.symm))))).other W123 (Or.inl (Nat.ne_of_lt (Nat.lt_of_lt_of_le E_t2.lt (Nat.le_of_eq g96.symm))))).other W126 (Or.inl (Nat.ne_of_lt (Nat.lt_of_lt_of_le E_t2.lt (Nat.le_of_eq g96.symm))))).other W129 (Or.inl (Nat.ne_of_lt (Nat.lt_of_lt_of_le E_t2.lt (Nat.le_of_eq g96.symm))))).ext E132).keep Kq134 (ninS (Nat.ne_of_lt (Nat.lt_of_lt_of_le ((((((((((((E_t2.ext E96).wr W99).wr W102).wr W105).wr W108).wr W111).wr W114).wr W117).wr W120).wr W123).wr W126).wr W129).lt (Nat.le_of_eq g132.symm))) nin0))
      have q156 : Fld Z T134.heap t2 "java/lang/String" "value" "[B" (.ref v2) := ((((((((((((((F_value_t2.ext E96).other W99 (Or.inl (Nat.ne_of_lt (Nat.lt_of_lt_of_le E_t2.lt (Nat.le_of_eq g96.symm))))).other W102 (Or.inl (Nat.ne_of_lt (Nat.lt_of_lt_of_le E_t2.lt (Nat.le_of_eq g96.symm))))).other W105 (Or.inl (Nat.ne_of_lt (Nat.lt_of_lt_of_le E_t2.lt (Nat.le_of_eq g96.symm))))).other W108 (Or.inl (Nat.ne_of_lt (Nat.lt_of_lt_of_le E_t2.lt (Nat.le_of_eq g96.symm))))).other W111 (Or.inl (Nat.ne_of_lt (Nat.lt_of_lt_of_le E_t2.lt (Nat.le_of_eq g96.symm))))).other W114 (Or.inl (Nat.ne_of_lt (Nat.lt_of_lt_of_le E_t2.lt (Nat.le_of_eq g96.symm))))).other W117 (Or.inl (Nat.ne_of_lt (Nat.lt_of_lt_of_le E_t2.lt (Nat.le_of_eq g96.symm))))).other W120 (Or.inl (Nat.ne_of_lt (Nat.lt_of_lt_of_le E_t2.lt (Nat.le_of_eq g96.symm))))).other W123 (Or.inl (Nat.ne_of_lt (Nat.lt_of_lt_of_le E_t2.lt (Nat.le_of_eq g96.symm))))).other W126 (Or.inl (Nat.ne_of_lt (Nat.lt_of_lt_of_le E_t2.lt (Nat.le_of_eq g96.symm))))).other W129 (Or.inl (Nat.ne_of_lt (Nat.lt_of_lt_of_le E_t2.lt (Nat.le_of_eq g96.symm))))).ext E132).keep Kq134 (ninS (Nat.ne_of_lt (Nat.lt_of_lt_of_le ((((((((((((E_t2.ext E96).wr W99).wr W102).wr W105).wr W108).wr W111).wr W114).wr W117).wr W120).wr W123).wr W126).wr W129).lt (Nat.le_of_eq g132.symm))) nin0))
      have q157 : Arv Z T134.heap v2 kv2 .byte (11 : Int32) [(.int (112 : Int32)), (.int (97 : Int32)), (.int (114 : Int32)), (.int (116 : Int32)), (.int (105 : Int32)), (.int (99 : Int32)), (.int (105 : Int32)), (.int (112 : Int32)), (.int (97 : Int32)), (.int (110 : Int32)), (.int (116 : Int32))] (.int (0 : Int32)) := ((((((((((((((V_v2.ext E96).other W99 (Nat.ne_of_lt (Nat.lt_of_lt_of_le V_v2.lt (Nat.le_of_eq g96.symm)))).other W102 (Nat.ne_of_lt (Nat.lt_of_lt_of_le V_v2.lt (Nat.le_of_eq g96.symm)))).other W105 (Nat.ne_of_lt (Nat.lt_of_lt_of_le V_v2.lt (Nat.le_of_eq g96.symm)))).other W108 (Nat.ne_of_lt (Nat.lt_of_lt_of_le V_v2.lt (Nat.le_of_eq g96.symm)))).other W111 (Nat.ne_of_lt (Nat.lt_of_lt_of_le V_v2.lt (Nat.le_of_eq g96.symm)))).other W114 (Nat.ne_of_lt (Nat.lt_of_lt_of_le V_v2.lt (Nat.le_of_eq g96.symm)))).other W117 (Nat.ne_of_lt (Nat.lt_of_lt_of_le V_v2.lt (Nat.le_of_eq g96.symm)))).other W120 (Nat.ne_of_lt (Nat.lt_of_lt_of_le V_v2.lt (Nat.le_of_eq g96.symm)))).other W123 (Nat.ne_of_lt (Nat.lt_of_lt_of_le V_v2.lt (Nat.le_of_eq g96.symm)))).other W126 (Nat.ne_of_lt (Nat.lt_of_lt_of_le V_v2.lt (Nat.le_of_eq g96.symm)))).other W129 (Nat.ne_of_lt (Nat.lt_of_lt_of_le V_v2.lt (Nat.le_of_eq g96.symm)))).ext E132).keep Kq134 (ninS (Nat.ne_of_lt (Nat.lt_of_lt_of_le ((((((((((((V_v2.ext E96).other W99 (Nat.ne_of_lt (Nat.lt_of_lt_of_le V_v2.lt (Nat.le_of_eq g96.symm)))).other W102 (Nat.ne_of_lt (Nat.lt_of_lt_of_le V_v2.lt (Nat.le_of_eq g96.symm)))).other W105 (Nat.ne_of_lt (Nat.lt_of_lt_of_le V_v2.lt (Nat.le_of_eq g96.symm)))).other W108 (Nat.ne_of_lt (Nat.lt_of_lt_of_le V_v2.lt (Nat.le_of_eq g96.symm)))).other W111 (Nat.ne_of_lt (Nat.lt_of_lt_of_le V_v2.lt (Nat.le_of_eq g96.symm)))).other W114 (Nat.ne_of_lt (Nat.lt_of_lt_of_le V_v2.lt (Nat.le_of_eq g96.symm)))).other W117 (Nat.ne_of_lt (Nat.lt_of_lt_of_le V_v2.lt (Nat.le_of_eq g96.symm)))).other W120 (Nat.ne_of_lt (Nat.lt_of_lt_of_le V_v2.lt (Nat.le_of_eq g96.symm)))).other W123 (Nat.ne_of_lt (Nat.lt_of_lt_of_le V_v2.lt (Nat.le_of_eq g96.symm)))).other W126 (Nat.ne_of_lt (Nat.lt_of_lt_of_le V_v2.lt (Nat.le_of_eq g96.symm)))).other W129 (Nat.ne_of_lt (Nat.lt_of_lt_of_le V_v2.lt (Nat.le_of_eq g96.symm)))).lt (Nat.le_of_eq g132.symm))) nin0))
      have q158 : Exa Z T134.heap b132 "java/lang/String" := (A132.keep Kq134)
      obtain ⟨_, _, ⟨T137, L137, kk137, nn137⟩, -, X137, ⟨Lc137, hQ137, lq137, yq137, zq137⟩, st137⟩ := Jvm.LawKit.callS X134 hx (y := (⟨"com/example/tenderbook/tenderbook/Role", "ofCode", "(Ljava/lang/String;)Lcom/example/tenderbook/tenderbook/Role;"⟩ : MethodName)) hown (mvT hZ (hw _ (List.mem_of_getElem? (i := 34) rfl))) (mvT hZ (hw _ (List.mem_of_getElem? (i := 35) rfl))) (mvT hZ (hw _ (List.mem_of_getElem? (i := 3) rfl))) (mvT hZ (hw _ (List.mem_of_getElem? (i := 36) rfl))) (by decide) (backOf (W := 0) (rmOc2 l Z a0 hw [] b132 cs kv s0 s1 s2 t0 v0 kv0 t1 v1 kv1 t2 v2 kv2 b_134 kb_134 sv T134.heap n0 Z136 q138 q139 q140 q141 q142 q143 q144 q145 q146 q147 q148 q149 q150 q151 q152 q153 q154 q155 q156 q157 q158 r134_2 r134_1 r134_3 O136 S_COMPACT_STRINGS hcs S__VALUES (Nat.ne_of_lt (Nat.lt_of_lt_of_le ((((((((((((E_t0.ext E96).wr W99).wr W102).wr W105).wr W108).wr W111).wr W114).wr W117).wr W120).wr W123).wr W126).wr W129).lt (Nat.le_of_eq g132.symm))) (Nat.ne_of_lt (Nat.lt_of_lt_of_le ((((((((((((E_t1.ext E96).wr W99).wr W102).wr W105).wr W108).wr W111).wr W114).wr W117).wr W120).wr W123).wr W126).wr W129).lt (Nat.le_of_eq g132.symm))) (Nat.ne_of_lt (Nat.lt_of_lt_of_le ((((((((((((E_t2.ext E96).wr W99).wr W102).wr W105).wr W108).wr W111).wr W114).wr W117).wr W120).wr W123).wr W126).wr W129).lt (Nat.le_of_eq g132.symm)))) hZ (hw _ (List.mem_of_getElem? (i := 36) rfl)) (hw _ (List.mem_of_getElem? (i := 3) rfl)) (by decide) (by decide)) (g := (mkF m 207 #[.val (.int p1), .val (.int ((p1 &&& (2147483647 : Int32)) % (3 : Int32))), .val (.ref b96), .val (.ref s2), .unset] [(.ref b132)])) rfl (by rw [hml]; rfl) (argsL := [(.ref b132)]) (rest := []) (lenOf pd_15 rfl) rfl (by show 2 * 0 + _ ≤ _; exact Nat.le_of_eq rfl) (hb hby at_207) (fun _ _ => ⟨rfl, rfl, (by decide : 3 + 2 ≤ _), (by decide : 26 + 4 ≤ _)⟩)
      dsimp only [Pt.U, Pt.locs, Pt.cells, Pt.slots] at X137 lq137 yq137 zq137 st137 hQ137
      subst yq137 zq137
      obtain ⟨rfl, Nq137, Kq137⟩ := hQ137
      have N137 : Fr n0 L137 := by rw [lq137]; exact Fr.app N134 Nq137
      have Z159 : n0 ≤ T137.heap.size := Nat.le_trans Z136 Kq137.1
      have O159 : Old Z n0 T137.heap := O136.keep Kq137 all0
      refine Go.step (T' := T137) (f' := (mkF m 210 #[.val (.int p1), .val (.int ((p1 &&& (2147483647 : Int32)) % (3 : Int32))), .val (.ref b96), .val (.ref s2), .unset] [(.ref s2)])) st137 ?_
      refine Go.step (T' := T137) (f' := (mkF m 212 #[.val (.int p1), .val (.int ((p1 &&& (2147483647 : Int32)) % (3 : Int32))), .val (.ref b96), .val (.ref s2), .val (.ref s2)] [])) (fun _ k => XS.astore X137.here hx rfl (hb hby at_210) rfl rfl (l' := #[.val (.int p1), .val (.int ((p1 &&& (2147483647 : Int32)) % (3 : Int32))), .val (.ref b96), .val (.ref s2), .val (.ref s2)]) rfl k) ?_
      refine Go.step (T' := T137) (f' := (mkF m 214 #[.val (.int p1), .val (.int ((p1 &&& (2147483647 : Int32)) % (3 : Int32))), .val (.ref b96), .val (.ref s2), .val (.ref s2)] [(.ref s2)])) (fun _ k => XS.aload X137.here hx rfl (hb hby at_212) rfl rfl k) ?_
      refine Go.step (T' := T137) (f' := (mkF m 215 #[.val (.int p1), .val (.int ((p1 &&& (2147483647 : Int32)) % (3 : Int32))), .val (.ref b96), .val (.ref s2), .val (.ref s2)] [(.ref s2), (.ref s2)])) (fun _ k => XS.aloadN X137.here hx rfl (hb hby at_214) rfl rfl k) ?_
      refine Go.step (T' := T137) (f' := (mkF m 218 #[.val (.int p1), .val (.int ((p1 &&& (2147483647 : Int32)) % (3 : Int32))), .val (.ref b96), .val (.ref s2), .val (.ref s2)] [])) (fun _ k => Jvm.RoadKit.acmp (g := (mkF m 215 #[.val (.int p1), .val (.int ((p1 &&& (2147483647 : Int32)) % (3 : Int32))), .val (.ref b96), .val (.ref s2), .val (.ref s2)] [(.ref s2), (.ref s2)])) X137 hx rfl rfl rfl (pc0 := 215) (pc' := 218) (same := true) rfl (hb hby at_215) rfl (decide_eq_true rfl) (by decide) (by decide) k) ?_
      refine Go.step (T' := T137) (f' := (mkF m 219 #[.val (.int p1), .val (.int ((p1 &&& (2147483647 : Int32)) % (3 : Int32))), .val (.ref b96), .val (.ref s2), .val (.ref s2)] [(.int (1 : Int32))])) (fun _ k => XS.iconst X137.here hx rfl (hb hby at_218) k) ?_
      refine Go.step (T' := T137) (f' := (mkF m 223 #[.val (.int p1), .val (.int ((p1 &&& (2147483647 : Int32)) % (3 : Int32))), .val (.ref b96), .val (.ref s2), .val (.ref s2)] [(.int (1 : Int32))])) (fun _ k => XS.goto X137.here hx rfl (pc0 := 219) (pc' := 223) rfl (hb hby at_219) (by decide) (by decide) k) ?_
      refine goN X137 hx (t := .boolean) Bd.returns (by simp) Bd.notSynchronized (hb hby at_223) ?_ (by decide) (by decide)
      show Q_rm0 Z p1 cs sv kv s0 s1 s2 t0 v0 kv0 t1 v1 kv1 t2 v2 kv2 h0 n0 _ T137.heap _
      exact ⟨rfl, N137⟩
set_option maxRecDepth 65536 in
set_option maxHeartbeats 40000000 in
theorem comes_1 {Post : Tables → Env → Array Value → State → Outcome → State → Prop} (hpost : ∀ tb e args s v u, (limb_1_1.after args s (.returned v) u = true ∧ limb_1_2.after args s (.returned v) u = true ∧ True) → FrameEnd s (.returned v) u (Jvm.fieldLocs frame_1_writes args s ++ Jvm.arrayLocs frame_1_arrays args s ++ Jvm.staticLocs frame_1_statics s) 24 128 → Post tb e args s (.returned v) u) :
    ArmFor flags0 classFile x code maxLocals ret World_1 tables_1 room_1 Calls_1 rest_1 Pre_1 Post := by
  intro l hfl _ _ p e ha hc hk s m args below hf hA hF happ hP
  obtain ⟨hcalls, hrest, hpre⟩ := hP
  obtain ⟨-, -, -, hnamed, -, -, -, hat⟩ := (Spec.applies_iff hf).mp happ
  obtain ⟨hg, hn⟩ := and_e (Cond.before_iff.mp (show (Jvm.Cond.and given_1 narrow_1).before args s = true from hpre))
  obtain ⟨g1, g2⟩ := and_e hg
  obtain ⟨w0, rfl⟩ : ∃ w0 : Value, args = #[w0] := by
    have hs : args.size = 1 := by simpa [Cond.value, given_1] using g1
    obtain ⟨L⟩ := args
    match L, hs with
    | [w0], _ => exact ⟨w0, rfl⟩
  have hw := fun d (hd : d ∈ tables_1) => atoms_spec (ws := Jvm.Cond.code x code maxLocals ret :: tables_1) hat d (List.mem_cons_of_mem _ hd)
  have hfit : Fit s := fun {y c} hc i hi => by
    obtain ⟨ha, rfl⟩ := Array.getElem?_eq_some_iff.mp hc
    have q := List.all_eq_true.mp ((Array.all_eq_true_iff_forall_mem.mp hF) _ (Array.getElem_mem ha)) i (List.mem_range.mpr hi)
    simpa [Array.getElem?_eq_getElem hi] using q
  obtain ⟨hsets, hown0⟩ := atoms_of _ (rest_1_c_eq ▸ (show rest_1_c.before _ s = true from hrest))
  have hr0 := Cond.before_iff.mp hown0
  obtain ⟨i0, ei0⟩ := is_v g2
  obtain rfl : w0 = (.int i0) := Option.some.inj ei0
  obtain ⟨cs, ev_cs⟩ := is_v (Cond.before_iff.mp (hsets _ (List.mem_of_getElem? (i := 1) rfl)))
  have S_COMPACT_STRINGS := Sta.start ev_cs (Or.inl (hsets _ (List.mem_of_getElem? (i := 0) rfl)))
  have hcs : ¬ cs = (0 : Int32) := by
    have q := not_v (Cond.before_iff.mp (hsets _ (List.mem_of_getElem? (i := 2) rfl)))
    intro e
    subst e
    simp [Cond.value, Term.eval] at q
    simp [Term.eval] at ev_cs
    simp [ev_cs] at q
  obtain ⟨n1, m1⟩ := and_e hn
  obtain ⟨n2, m2⟩ := and_e m1
  obtain ⟨n3, m3⟩ := and_e m2
  obtain ⟨n4, m4⟩ := and_e m3
  obtain ⟨n5, m5⟩ := and_e m4
  obtain ⟨n6, m6⟩ := and_e m5
  obtain ⟨n7, m7⟩ := and_e m6
  obtain ⟨n8, m8⟩ := and_e m7
  obtain ⟨n9, m9⟩ := and_e m8
  obtain ⟨n10, m10⟩ := and_e m9
  obtain ⟨n11, m11⟩ := and_e m10
  obtain ⟨n12, m12⟩ := and_e m11
  obtain ⟨n13, m13⟩ := and_e m12
  obtain ⟨n14, m14⟩ := and_e m13
  obtain ⟨n15, m15⟩ := and_e m14
  obtain ⟨n16, m16⟩ := and_e m15
  obtain ⟨n17, m17⟩ := and_e m16
  obtain ⟨n18, m18⟩ := and_e m17
  obtain ⟨n19, m19⟩ := and_e m18
  obtain ⟨n20, m20⟩ := and_e m19
  obtain ⟨n21, m21⟩ := and_e m20
  obtain ⟨n22, m22⟩ := and_e m21
  obtain ⟨n23, m23⟩ := and_e m22
  obtain ⟨n24, m24⟩ := and_e m23
  obtain ⟨n25, m25⟩ := and_e m24
  obtain ⟨n26, m26⟩ := and_e m25
  obtain ⟨n27, m27⟩ := and_e m26
  obtain ⟨n28, m28⟩ := and_e m27
  obtain ⟨n29, m29⟩ := and_e m28
  obtain ⟨n30, m30⟩ := and_e m29
  obtain ⟨n31, m31⟩ := and_e m30
  obtain ⟨n32, m32⟩ := and_e m31
  obtain ⟨n33, m33⟩ := and_e m32
  obtain ⟨n34, m34⟩ := and_e m33
  obtain ⟨n35, m35⟩ := and_e m34
  obtain ⟨n36, m36⟩ := and_e m35
  obtain ⟨n37, m37⟩ := and_e m36
  obtain ⟨n38, m38⟩ := and_e m37
  obtain ⟨n39, m39⟩ := and_e m38
  obtain ⟨n40, m40⟩ := and_e m39
  obtain ⟨n41, m41⟩ := and_e m40
  obtain ⟨n42, m42⟩ := and_e m41
  obtain ⟨n43, m43⟩ := and_e m42
  obtain ⟨n44, m44⟩ := and_e m43
  obtain ⟨n45, m45⟩ := and_e m44
  obtain ⟨n46, m46⟩ := and_e m45
  obtain ⟨n47, m47⟩ := and_e m46
  obtain ⟨n48, n49⟩ := and_e m47
  obtain ⟨s0, ev0⟩ := exa_v n1
  have E_s0 := Exa.start ev0 n1
  have S_OPERATOR := Sta.start ev0 (Or.inr ⟨(hw _ (List.mem_of_getElem? (i := 3) rfl)), (hw _ (List.mem_of_getElem? (i := 4) rfl))⟩)
  obtain ⟨t0, et0⟩ := exa_v n10
  have E_t0 := Exa.start et0 n10
  have F_code_s0 := Fld.start ((fld_at ev0).symm.trans et0)
  have F_coder_t0 := Fld.start ((fld_at et0).symm.trans (own_eqk n11))
  obtain ⟨v0, evv0⟩ := arr_v n12
  have F_value_t0 := Fld.start ((fld_at et0).symm.trans evv0)
  obtain ⟨cl0, Ar0⟩ := Arr.start evv0 n12
  obtain ⟨sz0, sk0⟩ := own_size evv0 Ar0 n13
  have q0_0 := (elem_in (own_eqk n22) evv0 (Term.int_eval _) Ar0.1).2
  have q0_1 := (elem_in (own_eqk n23) evv0 (Term.int_eval _) Ar0.1).2
  have q0_2 := (elem_in (own_eqk n24) evv0 (Term.int_eval _) Ar0.1).2
  have q0_3 := (elem_in (own_eqk n25) evv0 (Term.int_eval _) Ar0.1).2
  have q0_4 := (elem_in (own_eqk n26) evv0 (Term.int_eval _) Ar0.1).2
  have q0_5 := (elem_in (own_eqk n27) evv0 (Term.int_eval _) Ar0.1).2
  have q0_6 := (elem_in (own_eqk n28) evv0 (Term.int_eval _) Ar0.1).2
  have q0_7 := (elem_in (own_eqk n29) evv0 (Term.int_eval _) Ar0.1).2
  have V_v0 : Arv s s.heap v0 cl0.cls .byte (8 : Int32) [(.int (111 : Int32)), (.int (112 : Int32)), (.int (101 : Int32)), (.int (114 : Int32)), (.int (97 : Int32)), (.int (116 : Int32)), (.int (111 : Int32)), (.int (114 : Int32))] (.int (0 : Int32)) := Arv.start hfit Ar0 sz0 sk0 (by decide) rfl ⟨q0_0, q0_1, q0_2, q0_3, q0_4, q0_5, q0_6, q0_7, trivial⟩
  obtain ⟨s1, ev1⟩ := exa_v n6
  have E_s1 := Exa.start ev1 n6
  have S_INITIATOR := Sta.start ev1 (Or.inr ⟨(hw _ (List.mem_of_getElem? (i := 3) rfl)), (hw _ (List.mem_of_getElem? (i := 49) rfl))⟩)
  obtain ⟨t1, et1⟩ := exa_v n14
  have E_t1 := Exa.start et1 n14
  have F_code_s1 := Fld.start ((fld_at ev1).symm.trans et1)
  have F_coder_t1 := Fld.start ((fld_at et1).symm.trans (own_eqk n15))
  obtain ⟨v1, evv1⟩ := arr_v n16
  have F_value_t1 := Fld.start ((fld_at et1).symm.trans evv1)
  obtain ⟨cl1, Ar1⟩ := Arr.start evv1 n16
  obtain ⟨sz1, sk1⟩ := own_size evv1 Ar1 n17
  have q1_0 := (elem_in (own_eqk n30) evv1 (Term.int_eval _) Ar1.1).2
  have q1_1 := (elem_in (own_eqk n31) evv1 (Term.int_eval _) Ar1.1).2
  have q1_2 := (elem_in (own_eqk n32) evv1 (Term.int_eval _) Ar1.1).2
  have q1_3 := (elem_in (own_eqk n33) evv1 (Term.int_eval _) Ar1.1).2
  have q1_4 := (elem_in (own_eqk n34) evv1 (Term.int_eval _) Ar1.1).2
  have q1_5 := (elem_in (own_eqk n35) evv1 (Term.int_eval _) Ar1.1).2
  have q1_6 := (elem_in (own_eqk n36) evv1 (Term.int_eval _) Ar1.1).2
  have q1_7 := (elem_in (own_eqk n37) evv1 (Term.int_eval _) Ar1.1).2
  have q1_8 := (elem_in (own_eqk n38) evv1 (Term.int_eval _) Ar1.1).2
  have V_v1 : Arv s s.heap v1 cl1.cls .byte (9 : Int32) [(.int (105 : Int32)), (.int (110 : Int32)), (.int (105 : Int32)), (.int (116 : Int32)), (.int (105 : Int32)), (.int (97 : Int32)), (.int (116 : Int32)), (.int (111 : Int32)), (.int (114 : Int32))] (.int (0 : Int32)) := Arv.start hfit Ar1 sz1 sk1 (by decide) rfl ⟨q1_0, q1_1, q1_2, q1_3, q1_4, q1_5, q1_6, q1_7, q1_8, trivial⟩
  obtain ⟨s2, ev2⟩ := exa_v n8
  have E_s2 := Exa.start ev2 n8
  have S_PARTICIPANT := Sta.start ev2 (Or.inr ⟨(hw _ (List.mem_of_getElem? (i := 3) rfl)), (hw _ (List.mem_of_getElem? (i := 50) rfl))⟩)
  obtain ⟨t2, et2⟩ := exa_v n18
  have E_t2 := Exa.start et2 n18
  have F_code_s2 := Fld.start ((fld_at ev2).symm.trans et2)
  have F_coder_t2 := Fld.start ((fld_at et2).symm.trans (own_eqk n19))
  obtain ⟨v2, evv2⟩ := arr_v n20
  have F_value_t2 := Fld.start ((fld_at et2).symm.trans evv2)
  obtain ⟨cl2, Ar2⟩ := Arr.start evv2 n20
  obtain ⟨sz2, sk2⟩ := own_size evv2 Ar2 n21
  have q2_0 := (elem_in (own_eqk n39) evv2 (Term.int_eval _) Ar2.1).2
  have q2_1 := (elem_in (own_eqk n40) evv2 (Term.int_eval _) Ar2.1).2
  have q2_2 := (elem_in (own_eqk n41) evv2 (Term.int_eval _) Ar2.1).2
  have q2_3 := (elem_in (own_eqk n42) evv2 (Term.int_eval _) Ar2.1).2
  have q2_4 := (elem_in (own_eqk n43) evv2 (Term.int_eval _) Ar2.1).2
  have q2_5 := (elem_in (own_eqk n44) evv2 (Term.int_eval _) Ar2.1).2
  have q2_6 := (elem_in (own_eqk n45) evv2 (Term.int_eval _) Ar2.1).2
  have q2_7 := (elem_in (own_eqk n46) evv2 (Term.int_eval _) Ar2.1).2
  have q2_8 := (elem_in (own_eqk n47) evv2 (Term.int_eval _) Ar2.1).2
  have q2_9 := (elem_in (own_eqk n48) evv2 (Term.int_eval _) Ar2.1).2
  have q2_10 := (elem_in (own_eqk n49) evv2 (Term.int_eval _) Ar2.1).2
  have V_v2 : Arv s s.heap v2 cl2.cls .byte (11 : Int32) [(.int (112 : Int32)), (.int (97 : Int32)), (.int (114 : Int32)), (.int (116 : Int32)), (.int (105 : Int32)), (.int (99 : Int32)), (.int (105 : Int32)), (.int (112 : Int32)), (.int (97 : Int32)), (.int (110 : Int32)), (.int (116 : Int32))] (.int (0 : Int32)) := Arv.start hfit Ar2 sz2 sk2 (by decide) rfl ⟨q2_0, q2_1, q2_2, q2_3, q2_4, q2_5, q2_6, q2_7, q2_8, q2_9, q2_10, trivial⟩
  obtain ⟨sv, evs⟩ := exa_v n3
  have E_sv := Exa.start evs n3
  have S__VALUES := Sta.start evs (Or.inl (hw _ (List.mem_of_getElem? (i := 51) rfl)))
  obtain ⟨clv, Arv_⟩ := Arr.start evs n2
  obtain ⟨szv, skv⟩ := own_size evs Arv_ n4
  have qv_0 := (elem_in (own_eqr n5 ev0) evs (Term.int_eval _) Arv_.1).2
  have qv_1 := (elem_in (own_eqr n7 ev1) evs (Term.int_eval _) Arv_.1).2
  have qv_2 := (elem_in (own_eqr n9 ev2) evs (Term.int_eval _) Arv_.1).2
  have V_sv : Arv s s.heap sv clv.cls (.object "com/example/tenderbook/tenderbook/Role") (3 : Int32) [(.ref s0), (.ref s1), (.ref s2)] .null := Arv.start hfit Arv_ szv skv (by decide) rfl ⟨qv_0, qv_1, qv_2, trivial⟩
  obtain ⟨n, o, h1, h2, h3, _, L, rfl, ⟨rfl, N⟩, hq⟩ := rm0 l s _ hw tables_1 i0 cs sv clv.cls s0 s1 s2 t0 v0 cl0.cls t1 v1 cl1.cls t2 v2 cl2.cls s.heap s.heap.size (Nat.le_refl _) E_sv V_sv E_s0 F_code_s0 E_t0 F_coder_t0 F_value_t0 V_v0 E_s1 F_code_s1 E_t1 F_coder_t1 F_value_t1 V_v1 E_s2 F_code_s2 E_t2 F_coder_t2 F_value_t2 V_v2 (Old.start s) S_COMPACT_STRINGS hcs S_OPERATOR S_INITIATOR S_PARTICIPANT S__VALUES p e ha hc hk s m _ below hf ((Spec.applies_iff_loose hf).mp happ).1 ⟨rfl, State.Warmed39.refl s, rfl⟩ trivial
  refine ⟨n, _, h1, h2, h3, hpost _ _ _ _ _ _ ⟨Cond.after_iff.mpr rfl, Cond.after_iff.mpr (eq_i res_at (Term.int_eval (1)) rfl), trivial⟩ ⟨hq.1, hq.2.1, (hq.2.2.sift fun y hy => Or.inr (N y hy)).mono (by decide) (by decide)⟩⟩
theorem main_1_1 : Claimed_1_1 := comes_1 fun _ _ _ _ _ _ h hF => ⟨h.1, hF⟩
theorem main_1_2 : Claimed_1_2 := comes_1 fun _ _ _ _ _ _ h hF => ⟨h.2.1, hF⟩
end Jvm.Pilot.@@N@@
namespace Jvm.Pilot.@@N@@
open Jvm Jvm.ClassFile Sem Op Lib Jvm.Free Jvm.Stand Jvm.Pilot.@@N@@.Jvm.D
/-! MADE BY PROGRAM (witnessworld.py) out of the Statement's table words and the real class files: 25 classes; the members and pool entries that the words name. The judged class is class 1, her method 1. -/
namespace start1
open Jvm.ClassFile
def u (s : String) : CpInfo := .utf8 (stringToUtf16 s)
/-- a pool by its gaps: so many unusable entries, then the entry; so many at the end -/
def gap : Nat → List CpInfo → List CpInfo
  | 0, r => r
  | n + 1, r => .unusable :: gap n r
def poolList (es : List (Nat × CpInfo)) (last : Nat) : List CpInfo := es.foldr (fun e r => gap e.1 (e.2 :: r)) (gap last [])
def pool (es : List (Nat × CpInfo)) (last : Nat) : Array CpInfo := ⟨poolList es last⟩
def fileOf (pool : Array CpInfo) (this : Nat) (attrs : Array Attribute := #[]) (ms : Array MethodInfo := #[]) (fl : Nat := 33) (sup : Nat := 0) (ifs : Array Nat := #[]) (fds : Array FieldInfo := #[]) : ClassFile where
  minorVersion := 0
  majorVersion := 65
  constantPool := pool
  accessFlags := fl
  thisClass := this
  superClass := sup
  interfaces := ifs
  fields := fds
  methods := ms
  attributes := attrs
def plain (name : String) (sup : Option ClassId) : Class where
  name := name
  kind := .ordinary
  loader := none
  accessFlags := 33
  super := sup
  interfaces := #[]
  cf := none
  fields := #[]
  methods := #[]
  instanceTypes := #[]
  staticTypes := #[]
  resolved := #[]
  callSites := []
  init := .initialized
  statics := none
  mirror := none

def pool0 : Array CpInfo := pool [(5, u "<init>"), (0, u "()V"), (1, .class_ 10), (1, u "java/lang/Object"), (85, u "clone"), (0, u "()Ljava/lang/Object;")] 26

def k0c0 : Code := { maxStack := 0, maxLocals := 1, code := object_method_1_code, exceptionTable := #[], attributes := #[] }
def k0m0 : Method := { name := "<init>", desc := "()V", sig := { parameters := [], returnType := none }, accessFlags := 1, code := some k0c0 }
def k0m1 : Method := { name := "clone", desc := "()Ljava/lang/Object;", sig := { parameters := [], returnType := some (.object "java/lang/Object") }, accessFlags := 260, code := none }
/-- java/lang/Object -/
def k0 : Class := { plain "java/lang/Object" none with
  accessFlags := 33
  interfaces := #[]
  cf := some (fileOf pool0 8 #[] #[{ accessFlags := 1, nameIndex := 5, descriptorIndex := 6, attributes := #[] }, { accessFlags := 260, nameIndex := 96, descriptorIndex := 97, attributes := #[] }] 33 0 #[] #[])
  fields := #[]
  methods := #[k0m0, k0m1]
  instanceTypes := #[]
  staticTypes := #[]
  resolved := Array.replicate 124 none
  statics := none }

def pool1 : Array CpInfo := pool [(2, .class_ 4), (1, u "java/lang/Object"), (0, u "<init>"), (0, u "()V"), (0, .integer 2147483647), (0, .fieldref 9 10), (0, .class_ 11), (0, .nameAndType 12 13), (0, u "com/example/tenderbook/tenderbook/Role"), (0, u "OPERATOR"), (0, u "Lcom/example/tenderbook/tenderbook/Role;"), (0, .fieldref 9 15), (0, .nameAndType 16 13), (0, u "INITIATOR"), (0, .fieldref 9 18), (0, .nameAndType 19 13), (0, u "PARTICIPANT"), (0, .class_ 21), (0, u "java/lang/String"), (0, .methodref 20 23), (0, .nameAndType 5 24), (0, u "([C)V"), (0, .methodref 9 26), (0, .nameAndType 27 28), (0, u "ofCode"), (0, u "(Ljava/lang/String;)Lcom/example/tenderbook/tenderbook/Role;"), (0, .class_ 30), (0, u "com/example/tenderbook/tenderbook/RoleOfCodePinLaw"), (2, u "law"), (0, u "(I)Z")] 5

def k1m0 : Method := { name := "<init>", desc := "()V", sig := { parameters := [], returnType := none }, accessFlags := 1, code := none }
def k1c1 : Code := { maxStack := 4, maxLocals := 5, code := code, exceptionTable := #[], attributes := #[] }
def k1m1 : Method := { name := "law", desc := "(I)Z", sig := { parameters := [.int], returnType := some .boolean }, accessFlags := 9, code := some k1c1 }
/-- com/example/tenderbook/tenderbook/RoleOfCodePinLaw -/
def k1 : Class := { plain "com/example/tenderbook/tenderbook/RoleOfCodePinLaw" (some 0) with
  accessFlags := 49
  interfaces := #[]
  cf := some (fileOf pool1 29 #[] #[{ accessFlags := 1, nameIndex := 5, descriptorIndex := 6, attributes := #[] }, { accessFlags := 9, nameIndex := 33, descriptorIndex := 34, attributes := #[] }] 49 2 #[] #[])
  fields := #[]
  methods := #[k1m0, k1m1]
  instanceTypes := #[]
  staticTypes := #[]
  resolved := Array.replicate 40 none
  statics := none }

def pool2 : Array CpInfo := pool [(1, .class_ 2), (0, u "java/lang/constant/Constable"), (0, .class_ 4), (0, u "java/lang/Object")] 6

/-- java/lang/constant/Constable -/
def k2 : Class := { plain "java/lang/constant/Constable" (some 0) with
  accessFlags := 1537
  interfaces := #[]
  cf := some (fileOf pool2 1 #[] #[] 1537 3 #[] #[])
  fields := #[]
  methods := #[]
  instanceTypes := #[]
  staticTypes := #[]
  resolved := Array.replicate 11 none
  statics := none }

def pool3 : Array CpInfo := pool [(1, .class_ 2), (0, u "java/lang/Comparable"), (0, .class_ 4), (0, u "java/lang/Object")] 7

/-- java/lang/Comparable -/
def k3 : Class := { plain "java/lang/Comparable" (some 0) with
  accessFlags := 1537
  interfaces := #[]
  cf := some (fileOf pool3 1 #[] #[] 1537 3 #[] #[])
  fields := #[]
  methods := #[]
  instanceTypes := #[]
  staticTypes := #[]
  resolved := Array.replicate 12 none
  statics := none }

def pool4 : Array CpInfo := pool [(1, .class_ 2), (0, u "java/io/Serializable"), (0, .class_ 4), (0, u "java/lang/Object")] 2

/-- java/io/Serializable -/
def k4 : Class := { plain "java/io/Serializable" (some 0) with
  accessFlags := 1537
  interfaces := #[]
  cf := some (fileOf pool4 1 #[] #[] 1537 3 #[] #[])
  fields := #[]
  methods := #[]
  instanceTypes := #[]
  staticTypes := #[]
  resolved := Array.replicate 7 none
  statics := none }

def pool5 : Array CpInfo := pool [(2, .class_ 4), (1, u "java/lang/Enum"), (0, u "name"), (0, u "Ljava/lang/String;"), (2, u "ordinal"), (0, u "I"), (1, .class_ 14), (1, u "java/lang/Object"), (4, u "hash"), (86, .class_ 108), (1, u "java/lang/Enum$EnumDesc"), (2, .class_ 112), (0, u "java/lang/constant/Constable"), (0, .class_ 114), (0, u "java/lang/Comparable"), (0, .class_ 116), (0, u "java/io/Serializable")] 87

/-- java/lang/Enum -/
def k5 : Class := { plain "java/lang/Enum" (some 0) with
  accessFlags := 1057
  interfaces := #[2, 3, 4]
  cf := some (fileOf pool5 2 #[.nestMembers #[106]] #[] 1057 12 #[111, 113, 115] #[{ accessFlags := 18, nameIndex := 5, descriptorIndex := 6, attributes := #[] }, { accessFlags := 18, nameIndex := 9, descriptorIndex := 10, attributes := #[] }, { accessFlags := 2, nameIndex := 19, descriptorIndex := 10, attributes := #[] }])
  fields := #[{ name := "name", type := (.object "java/lang/String"), accessFlags := 18, slot := 0, constantValue := 0 }, { name := "ordinal", type := .int, accessFlags := 18, slot := 1, constantValue := 0 }, { name := "hash", type := .int, accessFlags := 2, slot := 2, constantValue := 0 }]
  methods := #[]
  instanceTypes := #[(.object "java/lang/String"), .int, .int]
  staticTypes := #[]
  resolved := Array.replicate 204 none
  statics := none }

def pool6 : Array CpInfo := pool [(1, .interfaceMethodref 2 3), (0, .class_ 4), (0, .nameAndType 5 6), (0, u "com/example/tenderbook/tenderbook/Coded"), (0, u "code"), (0, u "()Ljava/lang/String;"), (0, .methodref 8 9), (0, .class_ 10), (0, .nameAndType 11 12), (0, u "java/lang/String"), (0, u "equals"), (0, u "(Ljava/lang/Object;)Z"), (0, .methodref 14 15), (0, .class_ 16), (0, .nameAndType 17 18), (0, u "java/util/Optional"), (0, u "of"), (0, u "(Ljava/lang/Object;)Ljava/util/Optional;"), (4, .class_ 24), (0, u "java/lang/Object"), (0, u "find"), (0, u "([Lcom/example/tenderbook/tenderbook/Coded;Ljava/lang/String;)Ljava/util/Optional;")] 9

def k6m0 : Method := { name := "code", desc := "()Ljava/lang/String;", sig := { parameters := [], returnType := some (.object "java/lang/String") }, accessFlags := 1025, code := none }
def k6c1 : Code := { maxStack := 2, maxLocals := 6, code := prog_4_method_2_code, exceptionTable := #[], attributes := #[] }
def k6m1 : Method := { name := "find", desc := "([Lcom/example/tenderbook/tenderbook/Coded;Ljava/lang/String;)Ljava/util/Optional;", sig := { parameters := [(.array (.object "com/example/tenderbook/tenderbook/Coded")), (.object "java/lang/String")], returnType := some (.object "java/util/Optional") }, accessFlags := 9, code := some k6c1 }
/-- com/example/tenderbook/tenderbook/Coded -/
def k6 : Class := { plain "com/example/tenderbook/tenderbook/Coded" (some 0) with
  accessFlags := 1536
  interfaces := #[]
  cf := some (fileOf pool6 2 #[] #[{ accessFlags := 1025, nameIndex := 5, descriptorIndex := 6, attributes := #[] }, { accessFlags := 9, nameIndex := 25, descriptorIndex := 26, attributes := #[] }] 1536 23 #[] #[])
  fields := #[]
  methods := #[k6m0, k6m1]
  instanceTypes := #[]
  staticTypes := #[]
  resolved := Array.replicate 36 none
  statics := none }

def pool7 : Array CpInfo := pool [(1, .class_ 2), (0, u "com/example/tenderbook/tenderbook/Role"), (2, u "OPERATOR"), (0, u "Lcom/example/tenderbook/tenderbook/Role;"), (2, u "INITIATOR"), (2, u "PARTICIPANT"), (0, .fieldref 1 14), (0, .nameAndType 15 16), (0, u "$VALUES"), (0, u "[Lcom/example/tenderbook/tenderbook/Role;"), (0, .methodref 18 19), (0, .class_ 16), (0, .nameAndType 20 21), (0, u "clone"), (0, u "()Ljava/lang/Object;"), (1, .class_ 25), (1, u "java/lang/Enum"), (6, .fieldref 1 33), (0, .nameAndType 34 35), (0, u "code"), (0, u "Ljava/lang/String;"), (0, .methodref 1 37), (0, .nameAndType 38 39), (0, u "values"), (0, u "()[Lcom/example/tenderbook/tenderbook/Role;"), (0, .interfaceMethodref 41 42), (0, .class_ 43), (0, .nameAndType 44 45), (0, u "com/example/tenderbook/tenderbook/Coded"), (0, u "find"), (0, u "([Lcom/example/tenderbook/tenderbook/Coded;Ljava/lang/String;)Ljava/util/Optional;"), (0, .methodref 47 48), (0, .class_ 49), (0, .nameAndType 50 51), (0, u "java/util/Optional"), (0, u "isEmpty"), (0, u "()Z"), (9, .methodref 47 62), (0, .nameAndType 63 21), (0, u "get"), (17, u "(Ljava/lang/String;)Lcom/example/tenderbook/tenderbook/Role;"), (2, u "()Ljava/lang/String;"), (0, u "ofCode")] 21

def k7c0 : Code := { maxStack := 1, maxLocals := 0, code := prog_17_method_1_code, exceptionTable := #[], attributes := #[] }
def k7m0 : Method := { name := "values", desc := "()[Lcom/example/tenderbook/tenderbook/Role;", sig := { parameters := [], returnType := some (.array (.object "com/example/tenderbook/tenderbook/Role")) }, accessFlags := 9, code := some k7c0 }
def k7c1 : Code := { maxStack := 1, maxLocals := 1, code := prog_17_method_4_code, exceptionTable := #[], attributes := #[] }
def k7m1 : Method := { name := "code", desc := "()Ljava/lang/String;", sig := { parameters := [], returnType := some (.object "java/lang/String") }, accessFlags := 1, code := some k7c1 }
def k7c2 : Code := { maxStack := 3, maxLocals := 2, code := prog_17_method_5_code, exceptionTable := #[], attributes := #[] }
def k7m2 : Method := { name := "ofCode", desc := "(Ljava/lang/String;)Lcom/example/tenderbook/tenderbook/Role;", sig := { parameters := [(.object "java/lang/String")], returnType := some (.object "com/example/tenderbook/tenderbook/Role") }, accessFlags := 8, code := some k7c2 }
/-- com/example/tenderbook/tenderbook/Role -/
def k7 : Class := { plain "com/example/tenderbook/tenderbook/Role" (some 5) with
  accessFlags := 16432
  interfaces := #[6]
  cf := some (fileOf pool7 1 #[] #[{ accessFlags := 9, nameIndex := 38, descriptorIndex := 39, attributes := #[] }, { accessFlags := 1, nameIndex := 34, descriptorIndex := 84, attributes := #[] }, { accessFlags := 8, nameIndex := 85, descriptorIndex := 81, attributes := #[] }] 16432 23 #[41] #[{ accessFlags := 16409, nameIndex := 5, descriptorIndex := 6, attributes := #[] }, { accessFlags := 16409, nameIndex := 9, descriptorIndex := 6, attributes := #[] }, { accessFlags := 16409, nameIndex := 12, descriptorIndex := 6, attributes := #[] }, { accessFlags := 18, nameIndex := 34, descriptorIndex := 35, attributes := #[] }, { accessFlags := 4122, nameIndex := 15, descriptorIndex := 16, attributes := #[] }])
  fields := #[{ name := "OPERATOR", type := (.object "com/example/tenderbook/tenderbook/Role"), accessFlags := 16409, slot := 0, constantValue := 0 }, { name := "INITIATOR", type := (.object "com/example/tenderbook/tenderbook/Role"), accessFlags := 16409, slot := 1, constantValue := 0 }, { name := "PARTICIPANT", type := (.object "com/example/tenderbook/tenderbook/Role"), accessFlags := 16409, slot := 2, constantValue := 0 }, { name := "code", type := (.object "java/lang/String"), accessFlags := 18, slot := 3, constantValue := 0 }, { name := "$VALUES", type := (.array (.object "com/example/tenderbook/tenderbook/Role")), accessFlags := 4122, slot := 3, constantValue := 0 }]
  methods := #[k7m0, k7m1, k7m2]
  instanceTypes := #[(.object "java/lang/String"), .int, .int, (.object "java/lang/String")]
  staticTypes := #[(.object "com/example/tenderbook/tenderbook/Role"), (.object "com/example/tenderbook/tenderbook/Role"), (.object "com/example/tenderbook/tenderbook/Role"), (.array (.object "com/example/tenderbook/tenderbook/Role"))]
  resolved := Array.replicate 107 none
  statics := some 0 }

def pool8 : Array CpInfo := pool [(2, .class_ 4), (1, u "java/lang/CharSequence"), (42, .class_ 48), (0, u "java/lang/CharSequence$1CodePointIterator"), (10, .class_ 60), (0, u "java/lang/CharSequence$1CharIterator"), (5, .class_ 67), (0, u "java/lang/Object")] 63

/-- java/lang/CharSequence -/
def k8 : Class := { plain "java/lang/CharSequence" (some 0) with
  accessFlags := 1537
  interfaces := #[]
  cf := some (fileOf pool8 2 #[.nestMembers #[47, 59]] #[] 1537 66 #[] #[])
  fields := #[]
  methods := #[]
  instanceTypes := #[]
  staticTypes := #[]
  resolved := Array.replicate 131 none
  statics := none }

def pool9 : Array CpInfo := pool [(1, .class_ 2), (0, u "java/lang/constant/ConstantDesc"), (0, .class_ 4), (0, u "java/lang/Object")] 32

/-- java/lang/constant/ConstantDesc -/
def k9 : Class := { plain "java/lang/constant/ConstantDesc" (some 0) with
  accessFlags := 1537
  interfaces := #[]
  cf := some (fileOf pool9 1 #[] #[] 1537 3 #[] #[])
  fields := #[]
  methods := #[]
  instanceTypes := #[]
  staticTypes := #[]
  resolved := Array.replicate 37 none
  statics := none }

def pool10 : Array CpInfo := pool [(1, .methodref 2 3), (0, .class_ 4), (0, .nameAndType 5 6), (0, u "java/lang/Object"), (0, u "<init>"), (0, u "()V"), (2, .fieldref 10 11), (0, .class_ 12), (0, .nameAndType 13 14), (0, u "java/lang/String"), (0, u "value"), (0, u "[B"), (0, .fieldref 10 16), (0, .nameAndType 17 18), (0, u "coder"), (0, u "B"), (2, u "hash"), (0, u "I"), (2, u "hashIsZero"), (0, u "Z"), (0, .methodref 10 28), (0, .nameAndType 5 29), (0, u "([CIILjava/lang/Void;)V"), (8, .fieldref 10 39), (0, .nameAndType 40 26), (0, u "COMPACT_STRINGS"), (1, .class_ 44), (1, u "java/lang/StringUTF16"), (0, u "compress"), (1, .methodref 42 48), (0, .nameAndType 49 50), (0, u "coderFromArrayLen"), (0, u "([BI)B"), (56, .class_ 109), (1, u "java/lang/StringLatin1"), (67, .methodref 42 178), (0, .nameAndType 45 179), (0, u "([CII)[B"), (361, .methodref 107 542), (0, .nameAndType 543 544), (0, u "equals"), (0, u "([B[B)Z"), (28, u "(Ljava/lang/Object;)Z"), (1, .class_ 576), (0, u "java/lang/CharSequence"), (22, u "CASE_INSENSITIVE_ORDER"), (0, u "Ljava/util/Comparator;"), (409, u "([C)V"), (90, u "serialPersistentFields"), (0, u "[Ljava/io/ObjectStreamField;"), (0, .class_ 1104), (0, u "java/lang/String$CaseInsensitiveComparator"), (1, .class_ 1107), (0, u "java/io/Serializable"), (0, .class_ 1109), (0, u "java/lang/Comparable"), (0, .class_ 1111), (0, u "java/lang/constant/Constable"), (0, .class_ 1113), (0, u "java/lang/constant/ConstantDesc"), (2, u "serialVersionUID"), (0, u "J"), (3, u "REPL"), (0, u "C"), (2, u "LATIN1"), (1, u "UTF16")] 323

def k10m0 : Method := { name := "<init>", desc := "()V", sig := { parameters := [], returnType := none }, accessFlags := 1, code := none }
def k10c1 : Code := { maxStack := 5, maxLocals := 2, code := jdk_42_method_3_code, exceptionTable := #[], attributes := #[] }
def k10m1 : Method := { name := "<init>", desc := "([C)V", sig := { parameters := [(.array .char)], returnType := none }, accessFlags := 1, code := some k10c1 }
def k10c2 : Code := { maxStack := 2, maxLocals := 3, code := jdk_42_method_66_code, exceptionTable := #[], attributes := #[] }
def k10m2 : Method := { name := "equals", desc := "(Ljava/lang/Object;)Z", sig := { parameters := [(.object "java/lang/Object")], returnType := some .boolean }, accessFlags := 1, code := some k10c2 }
def k10c3 : Code := { maxStack := 4, maxLocals := 6, code := jdk_42_method_149_code, exceptionTable := #[], attributes := #[] }
def k10m3 : Method := { name := "<init>", desc := "([CIILjava/lang/Void;)V", sig := { parameters := [(.array .char), .int, .int, (.object "java/lang/Void")], returnType := none }, accessFlags := 2, code := some k10c3 }
/-- java/lang/String -/
def k10 : Class := { plain "java/lang/String" (some 0) with
  accessFlags := 49
  interfaces := #[4, 3, 8, 2, 9]
  cf := some (fileOf pool10 10 #[.nestMembers #[1103]] #[{ accessFlags := 1, nameIndex := 5, descriptorIndex := 6, attributes := #[] }, { accessFlags := 1, nameIndex := 5, descriptorIndex := 1010, attributes := #[] }, { accessFlags := 1, nameIndex := 543, descriptorIndex := 573, attributes := #[] }, { accessFlags := 2, nameIndex := 5, descriptorIndex := 29, attributes := #[] }] 49 2 #[1106, 1108, 575, 1110, 1112] #[{ accessFlags := 18, nameIndex := 13, descriptorIndex := 14, attributes := #[] }, { accessFlags := 18, nameIndex := 17, descriptorIndex := 18, attributes := #[] }, { accessFlags := 2, nameIndex := 21, descriptorIndex := 22, attributes := #[] }, { accessFlags := 2, nameIndex := 25, descriptorIndex := 26, attributes := #[] }, { accessFlags := 26, nameIndex := 1116, descriptorIndex := 1117, attributes := #[] }, { accessFlags := 24, nameIndex := 40, descriptorIndex := 26, attributes := #[] }, { accessFlags := 26, nameIndex := 1101, descriptorIndex := 1102, attributes := #[] }, { accessFlags := 26, nameIndex := 1121, descriptorIndex := 1122, attributes := #[] }, { accessFlags := 25, nameIndex := 599, descriptorIndex := 600, attributes := #[] }, { accessFlags := 24, nameIndex := 1125, descriptorIndex := 18, attributes := #[] }, { accessFlags := 24, nameIndex := 1127, descriptorIndex := 18, attributes := #[] }])
  fields := #[{ name := "value", type := (.array .byte), accessFlags := 18, slot := 0, constantValue := 0 }, { name := "coder", type := .byte, accessFlags := 18, slot := 1, constantValue := 0 }, { name := "hash", type := .int, accessFlags := 2, slot := 2, constantValue := 0 }, { name := "hashIsZero", type := .boolean, accessFlags := 2, slot := 3, constantValue := 0 }, { name := "serialVersionUID", type := .long, accessFlags := 26, slot := 0, constantValue := 0 }, { name := "COMPACT_STRINGS", type := .boolean, accessFlags := 24, slot := 1, constantValue := 0 }, { name := "serialPersistentFields", type := (.array (.object "java/io/ObjectStreamField")), accessFlags := 26, slot := 2, constantValue := 0 }, { name := "REPL", type := .char, accessFlags := 26, slot := 3, constantValue := 0 }, { name := "CASE_INSENSITIVE_ORDER", type := (.object "java/util/Comparator"), accessFlags := 25, slot := 4, constantValue := 0 }, { name := "LATIN1", type := .byte, accessFlags := 24, slot := 5, constantValue := 0 }, { name := "UTF16", type := .byte, accessFlags := 24, slot := 6, constantValue := 0 }]
  methods := #[k10m0, k10m1, k10m2, k10m3]
  instanceTypes := #[(.array .byte), .byte, .int, .boolean]
  staticTypes := #[.long, .boolean, (.array (.object "java/io/ObjectStreamField")), .char, (.object "java/util/Comparator"), .byte, .byte]
  resolved := Array.replicate 1451 none
  statics := some 1 }

def pool11 : Array CpInfo := pool [(6, .class_ 8), (1, u "java/lang/Object"), (0, u "<init>"), (0, u "()V"), (1, .class_ 14), (1, u "java/lang/StringUTF16"), (31, u "$assertionsDisabled"), (0, u "Z"), (13, u "HI_BYTE_SHIFT"), (0, u "I"), (2, u "LO_BYTE_SHIFT"), (49, .methodref 12 116), (0, .nameAndType 117 118), (0, u "compress"), (0, u "([CI[BII)I"), (3, u "([CII)[B"), (138, u "coderFromArrayLen"), (0, u "([BI)B"), (106, .class_ 371), (1, u "java/lang/StringUTF16$LinesSpliterator"), (58, u "MAX_LENGTH"), (196, .class_ 628), (0, u "java/lang/StringUTF16$CodePointsSpliterator"), (0, .class_ 630), (0, u "java/lang/StringUTF16$CharsSpliterator")] 4

def k11m0 : Method := { name := "<init>", desc := "()V", sig := { parameters := [], returnType := none }, accessFlags := 0, code := none }
def k11c1 : Code := { maxStack := 2, maxLocals := 2, code := jdk_52_method_15_code, exceptionTable := #[], attributes := #[] }
def k11m1 : Method := { name := "coderFromArrayLen", desc := "([BI)B", sig := { parameters := [(.array .byte), .int], returnType := some .byte }, accessFlags := 8, code := some k11c1 }
def k11c2 : Code := { maxStack := 5, maxLocals := 6, code := jdk_52_method_16_code, exceptionTable := #[], attributes := #[] }
def k11m2 : Method := { name := "compress", desc := "([CII)[B", sig := { parameters := [(.array .char), .int, .int], returnType := some (.array .byte) }, accessFlags := 9, code := some k11c2 }
def k11c3 : Code := { maxStack := 3, maxLocals := 7, code := jdk_52_method_21_code, exceptionTable := #[], attributes := #[] }
def k11m3 : Method := { name := "compress", desc := "([CI[BII)I", sig := { parameters := [(.array .char), .int, (.array .byte), .int, .int], returnType := some .int }, accessFlags := 9, code := some k11c3 }
/-- java/lang/StringUTF16 -/
def k11 : Class := { plain "java/lang/StringUTF16" (some 0) with
  accessFlags := 48
  interfaces := #[]
  cf := some (fileOf pool11 12 #[.nestMembers #[627, 629, 369]] #[{ accessFlags := 0, nameIndex := 9, descriptorIndex := 10, attributes := #[] }, { accessFlags := 8, nameIndex := 261, descriptorIndex := 262, attributes := #[] }, { accessFlags := 9, nameIndex := 117, descriptorIndex := 122, attributes := #[] }, { accessFlags := 9, nameIndex := 117, descriptorIndex := 118, attributes := #[] }] 48 6 #[] #[{ accessFlags := 26, nameIndex := 61, descriptorIndex := 62, attributes := #[] }, { accessFlags := 26, nameIndex := 65, descriptorIndex := 62, attributes := #[] }, { accessFlags := 24, nameIndex := 430, descriptorIndex := 62, attributes := #[] }, { accessFlags := 4120, nameIndex := 46, descriptorIndex := 47, attributes := #[] }])
  fields := #[{ name := "HI_BYTE_SHIFT", type := .int, accessFlags := 26, slot := 0, constantValue := 0 }, { name := "LO_BYTE_SHIFT", type := .int, accessFlags := 26, slot := 1, constantValue := 0 }, { name := "MAX_LENGTH", type := .int, accessFlags := 24, slot := 2, constantValue := 0 }, { name := "$assertionsDisabled", type := .boolean, accessFlags := 4120, slot := 3, constantValue := 0 }]
  methods := #[k11m0, k11m1, k11m2, k11m3]
  instanceTypes := #[]
  staticTypes := #[.int, .int, .int, .boolean]
  resolved := Array.replicate 635 none
  statics := none }

def pool12 : Array CpInfo := pool [(1, .class_ 2), (0, u "java/lang/Cloneable"), (0, .class_ 4), (0, u "java/lang/Object")] 2

/-- java/lang/Cloneable -/
def k12 : Class := { plain "java/lang/Cloneable" (some 0) with
  accessFlags := 1537
  interfaces := #[]
  cf := some (fileOf pool12 1 #[] #[] 1537 3 #[] #[])
  fields := #[]
  methods := #[]
  instanceTypes := #[]
  staticTypes := #[]
  resolved := Array.replicate 7 none
  statics := none }

def pool13 : Array CpInfo := pool [(4, .class_ 6), (1, u "java/lang/Object"), (0, u "<init>"), (0, u "()V"), (5, .class_ 16), (1, u "java/lang/StringLatin1"), (104, u "$assertionsDisabled"), (0, u "Z"), (98, .class_ 223), (1, u "java/lang/StringLatin1$LinesSpliterator"), (57, u "equals"), (0, u "([B[B)Z"), (107, .class_ 391), (0, u "java/lang/StringLatin1$CharsSpliterator")] 3

def k13m0 : Method := { name := "<init>", desc := "()V", sig := { parameters := [], returnType := none }, accessFlags := 0, code := none }
def k13c1 : Code := { maxStack := 3, maxLocals := 3, code := jdk_43_method_13_code, exceptionTable := #[], attributes := #[] }
def k13m1 : Method := { name := "equals", desc := "([B[B)Z", sig := { parameters := [(.array .byte), (.array .byte)], returnType := some .boolean }, accessFlags := 9, code := some k13c1 }
/-- java/lang/StringLatin1 -/
def k13 : Class := { plain "java/lang/StringLatin1" (some 0) with
  accessFlags := 48
  interfaces := #[]
  cf := some (fileOf pool13 14 #[.nestMembers #[390, 221]] #[{ accessFlags := 0, nameIndex := 7, descriptorIndex := 8, attributes := #[] }, { accessFlags := 9, nameIndex := 281, descriptorIndex := 282, attributes := #[] }] 48 4 #[] #[{ accessFlags := 4120, nameIndex := 121, descriptorIndex := 122, attributes := #[] }])
  fields := #[{ name := "$assertionsDisabled", type := .boolean, accessFlags := 4120, slot := 0, constantValue := 0 }]
  methods := #[k13m0, k13m1]
  instanceTypes := #[]
  staticTypes := #[.boolean]
  resolved := Array.replicate 395 none
  statics := none }

def pool14 : Array CpInfo := pool [(2, .class_ 4), (1, u "java/util/Optional"), (0, u "EMPTY"), (0, u "Ljava/util/Optional;"), (0, .methodref 8 9), (0, .class_ 10), (0, .nameAndType 11 12), (0, u "java/lang/Object"), (0, u "<init>"), (0, u "()V"), (0, .fieldref 2 14), (0, .nameAndType 15 16), (0, u "value"), (0, u "Ljava/lang/Object;"), (0, .methodref 18 19), (0, .class_ 20), (0, .nameAndType 21 22), (0, u "java/util/Objects"), (0, u "requireNonNull"), (0, u "(Ljava/lang/Object;)Ljava/lang/Object;"), (0, .methodref 2 24), (0, .nameAndType 11 25), (0, u "(Ljava/lang/Object;)V"), (19, u "isEmpty"), (0, u "()Z"), (18, u "(Ljava/lang/Object;)Ljava/util/Optional;"), (7, u "get"), (0, u "()Ljava/lang/Object;"), (7, u "of")] 104

def k14c0 : Code := { maxStack := 2, maxLocals := 2, code := jdk_32_method_2_code, exceptionTable := #[], attributes := #[] }
def k14m0 : Method := { name := "<init>", desc := "(Ljava/lang/Object;)V", sig := { parameters := [(.object "java/lang/Object")], returnType := none }, accessFlags := 2, code := some k14c0 }
def k14c1 : Code := { maxStack := 3, maxLocals := 1, code := jdk_32_method_3_code, exceptionTable := #[], attributes := #[] }
def k14m1 : Method := { name := "of", desc := "(Ljava/lang/Object;)Ljava/util/Optional;", sig := { parameters := [(.object "java/lang/Object")], returnType := some (.object "java/util/Optional") }, accessFlags := 9, code := some k14c1 }
def k14c2 : Code := { maxStack := 3, maxLocals := 1, code := jdk_32_method_5_code, exceptionTable := #[], attributes := #[] }
def k14m2 : Method := { name := "get", desc := "()Ljava/lang/Object;", sig := { parameters := [], returnType := some (.object "java/lang/Object") }, accessFlags := 1, code := some k14c2 }
def k14c3 : Code := { maxStack := 1, maxLocals := 1, code := jdk_32_method_7_code, exceptionTable := #[], attributes := #[] }
def k14m3 : Method := { name := "isEmpty", desc := "()Z", sig := { parameters := [], returnType := some .boolean }, accessFlags := 1, code := some k14c3 }
/-- java/util/Optional -/
def k14 : Class := { plain "java/util/Optional" (some 0) with
  accessFlags := 49
  interfaces := #[]
  cf := some (fileOf pool14 2 #[] #[{ accessFlags := 2, nameIndex := 11, descriptorIndex := 25, attributes := #[] }, { accessFlags := 9, nameIndex := 82, descriptorIndex := 65, attributes := #[] }, { accessFlags := 1, nameIndex := 73, descriptorIndex := 74, attributes := #[] }, { accessFlags := 1, nameIndex := 45, descriptorIndex := 46, attributes := #[] }] 49 8 #[] #[{ accessFlags := 26, nameIndex := 5, descriptorIndex := 6, attributes := #[] }, { accessFlags := 18, nameIndex := 15, descriptorIndex := 16, attributes := #[] }])
  fields := #[{ name := "EMPTY", type := (.object "java/util/Optional"), accessFlags := 26, slot := 0, constantValue := 0 }, { name := "value", type := (.object "java/lang/Object"), accessFlags := 18, slot := 0, constantValue := 0 }]
  methods := #[k14m0, k14m1, k14m2, k14m3]
  instanceTypes := #[(.object "java/lang/Object")]
  staticTypes := #[(.object "java/util/Optional")]
  resolved := Array.replicate 187 none
  statics := none }

def pool15 : Array CpInfo := pool [(2, .class_ 4), (1, u "java/lang/Object"), (0, u "<init>"), (0, u "()V"), (35, .class_ 44), (1, u "java/util/Objects"), (0, u "requireNonNull"), (0, u "(Ljava/lang/Object;)Ljava/lang/Object;")] 137

def k15m0 : Method := { name := "<init>", desc := "()V", sig := { parameters := [], returnType := none }, accessFlags := 2, code := none }
def k15c1 : Code := { maxStack := 2, maxLocals := 1, code := jdk_31_method_10_code, exceptionTable := #[], attributes := #[] }
def k15m1 : Method := { name := "requireNonNull", desc := "(Ljava/lang/Object;)Ljava/lang/Object;", sig := { parameters := [(.object "java/lang/Object")], returnType := some (.object "java/lang/Object") }, accessFlags := 9, code := some k15c1 }
/-- java/util/Objects -/
def k15 : Class := { plain "java/util/Objects" (some 0) with
  accessFlags := 49
  interfaces := #[]
  cf := some (fileOf pool15 42 #[] #[{ accessFlags := 2, nameIndex := 5, descriptorIndex := 6, attributes := #[] }, { accessFlags := 9, nameIndex := 45, descriptorIndex := 46, attributes := #[] }] 49 2 #[] #[])
  fields := #[]
  methods := #[k15m0, k15m1]
  instanceTypes := #[]
  staticTypes := #[]
  resolved := Array.replicate 184 none
  statics := none }

def pool16 : Array CpInfo := pool [(2, .class_ 4), (1, u "java/lang/Object"), (0, u "<init>"), (0, u "()V"), (17, .class_ 26), (1, u "jdk/internal/util/Preconditions"), (28, .class_ 56), (0, u "jdk/internal/util/Preconditions$4"), (57, .class_ 115), (0, u "jdk/internal/util/Preconditions$1"), (7, u "SIOOBE_FORMATTER"), (0, u "Ljava/util/function/BiFunction;"), (0, .class_ 126), (0, u "jdk/internal/util/Preconditions$2"), (3, u "AIOOBE_FORMATTER"), (0, .class_ 132), (0, u "jdk/internal/util/Preconditions$3"), (3, u "IOOBE_FORMATTER")] 57

def k16m0 : Method := { name := "<init>", desc := "()V", sig := { parameters := [], returnType := none }, accessFlags := 1, code := none }
/-- jdk/internal/util/Preconditions -/
def k16 : Class := { plain "jdk/internal/util/Preconditions" (some 0) with
  accessFlags := 33
  interfaces := #[]
  cf := some (fileOf pool16 24 #[.nestMembers #[55, 131, 125, 114]] #[{ accessFlags := 1, nameIndex := 5, descriptorIndex := 6, attributes := #[] }] 33 2 #[] #[{ accessFlags := 25, nameIndex := 123, descriptorIndex := 124, attributes := #[] }, { accessFlags := 25, nameIndex := 130, descriptorIndex := 124, attributes := #[] }, { accessFlags := 25, nameIndex := 136, descriptorIndex := 124, attributes := #[] }])
  fields := #[{ name := "SIOOBE_FORMATTER", type := (.object "java/util/function/BiFunction"), accessFlags := 25, slot := 0, constantValue := 0 }, { name := "AIOOBE_FORMATTER", type := (.object "java/util/function/BiFunction"), accessFlags := 25, slot := 1, constantValue := 0 }, { name := "IOOBE_FORMATTER", type := (.object "java/util/function/BiFunction"), accessFlags := 25, slot := 2, constantValue := 0 }]
  methods := #[k16m0]
  instanceTypes := #[]
  staticTypes := #[(.object "java/util/function/BiFunction"), (.object "java/util/function/BiFunction"), (.object "java/util/function/BiFunction")]
  resolved := Array.replicate 194 none
  statics := some 2 }

def pool17 : Array CpInfo := pool [(9, u "<init>"), (6, .class_ 18), (1, u "java/lang/Object"), (0, u "()V"), (1, .class_ 23), (1, u "jdk/internal/util/ArraysSupport"), (0, u "LOG2_ARRAY_LONG_INDEX_SCALE"), (0, u "I"), (2, u "U"), (0, u "Ljdk/internal/misc/Unsafe;"), (8, u "BIG_ENDIAN"), (0, u "Z"), (8, u "LOG2_BYTE_BIT_SIZE"), (4, u "LOG2_ARRAY_INT_INDEX_SCALE"), (54, u "JLA"), (0, u "Ljdk/internal/access/JavaLangAccess;"), (11, u "LOG2_ARRAY_BOOLEAN_INDEX_SCALE"), (9, u "LOG2_ARRAY_BYTE_INDEX_SCALE"), (5, u "LOG2_ARRAY_CHAR_INDEX_SCALE"), (5, u "LOG2_ARRAY_SHORT_INDEX_SCALE"), (18, u "LOG2_ARRAY_FLOAT_INDEX_SCALE"), (24, u "LOG2_ARRAY_DOUBLE_INDEX_SCALE"), (89, u "T_BOOLEAN"), (2, u "T_CHAR"), (1, u "T_FLOAT"), (1, u "T_DOUBLE"), (1, u "T_BYTE"), (1, u "T_SHORT"), (1, u "T_INT"), (1, u "T_LONG"), (1, u "SOFT_MAX_ARRAY_LENGTH")] 83

def k17m0 : Method := { name := "<init>", desc := "()V", sig := { parameters := [], returnType := none }, accessFlags := 2, code := none }
/-- jdk/internal/util/ArraysSupport -/
def k17 : Class := { plain "jdk/internal/util/ArraysSupport" (some 0) with
  accessFlags := 33
  interfaces := #[]
  cf := some (fileOf pool17 21 #[] #[{ accessFlags := 2, nameIndex := 9, descriptorIndex := 19, attributes := #[] }] 33 16 #[] #[{ accessFlags := 24, nameIndex := 28, descriptorIndex := 29, attributes := #[] }, { accessFlags := 26, nameIndex := 38, descriptorIndex := 39, attributes := #[] }, { accessFlags := 25, nameIndex := 121, descriptorIndex := 25, attributes := #[] }, { accessFlags := 25, nameIndex := 131, descriptorIndex := 25, attributes := #[] }, { accessFlags := 25, nameIndex := 137, descriptorIndex := 25, attributes := #[] }, { accessFlags := 25, nameIndex := 143, descriptorIndex := 25, attributes := #[] }, { accessFlags := 25, nameIndex := 53, descriptorIndex := 25, attributes := #[] }, { accessFlags := 25, nameIndex := 24, descriptorIndex := 25, attributes := #[] }, { accessFlags := 25, nameIndex := 162, descriptorIndex := 25, attributes := #[] }, { accessFlags := 25, nameIndex := 187, descriptorIndex := 25, attributes := #[] }, { accessFlags := 26, nameIndex := 48, descriptorIndex := 25, attributes := #[] }, { accessFlags := 25, nameIndex := 277, descriptorIndex := 25, attributes := #[] }, { accessFlags := 25, nameIndex := 280, descriptorIndex := 25, attributes := #[] }, { accessFlags := 25, nameIndex := 282, descriptorIndex := 25, attributes := #[] }, { accessFlags := 25, nameIndex := 284, descriptorIndex := 25, attributes := #[] }, { accessFlags := 25, nameIndex := 286, descriptorIndex := 25, attributes := #[] }, { accessFlags := 25, nameIndex := 288, descriptorIndex := 25, attributes := #[] }, { accessFlags := 25, nameIndex := 290, descriptorIndex := 25, attributes := #[] }, { accessFlags := 25, nameIndex := 292, descriptorIndex := 25, attributes := #[] }, { accessFlags := 26, nameIndex := 108, descriptorIndex := 109, attributes := #[] }, { accessFlags := 25, nameIndex := 294, descriptorIndex := 25, attributes := #[] }])
  fields := #[{ name := "U", type := (.object "jdk/internal/misc/Unsafe"), accessFlags := 24, slot := 0, constantValue := 0 }, { name := "BIG_ENDIAN", type := .boolean, accessFlags := 26, slot := 1, constantValue := 0 }, { name := "LOG2_ARRAY_BOOLEAN_INDEX_SCALE", type := .int, accessFlags := 25, slot := 2, constantValue := 0 }, { name := "LOG2_ARRAY_BYTE_INDEX_SCALE", type := .int, accessFlags := 25, slot := 3, constantValue := 0 }, { name := "LOG2_ARRAY_CHAR_INDEX_SCALE", type := .int, accessFlags := 25, slot := 4, constantValue := 0 }, { name := "LOG2_ARRAY_SHORT_INDEX_SCALE", type := .int, accessFlags := 25, slot := 5, constantValue := 0 }, { name := "LOG2_ARRAY_INT_INDEX_SCALE", type := .int, accessFlags := 25, slot := 6, constantValue := 0 }, { name := "LOG2_ARRAY_LONG_INDEX_SCALE", type := .int, accessFlags := 25, slot := 7, constantValue := 0 }, { name := "LOG2_ARRAY_FLOAT_INDEX_SCALE", type := .int, accessFlags := 25, slot := 8, constantValue := 0 }, { name := "LOG2_ARRAY_DOUBLE_INDEX_SCALE", type := .int, accessFlags := 25, slot := 9, constantValue := 0 }, { name := "LOG2_BYTE_BIT_SIZE", type := .int, accessFlags := 26, slot := 10, constantValue := 0 }, { name := "T_BOOLEAN", type := .int, accessFlags := 25, slot := 11, constantValue := 0 }, { name := "T_CHAR", type := .int, accessFlags := 25, slot := 12, constantValue := 0 }, { name := "T_FLOAT", type := .int, accessFlags := 25, slot := 13, constantValue := 0 }, { name := "T_DOUBLE", type := .int, accessFlags := 25, slot := 14, constantValue := 0 }, { name := "T_BYTE", type := .int, accessFlags := 25, slot := 15, constantValue := 0 }, { name := "T_SHORT", type := .int, accessFlags := 25, slot := 16, constantValue := 0 }, { name := "T_INT", type := .int, accessFlags := 25, slot := 17, constantValue := 0 }, { name := "T_LONG", type := .int, accessFlags := 25, slot := 18, constantValue := 0 }, { name := "JLA", type := (.object "jdk/internal/access/JavaLangAccess"), accessFlags := 26, slot := 19, constantValue := 0 }, { name := "SOFT_MAX_ARRAY_LENGTH", type := .int, accessFlags := 25, slot := 20, constantValue := 0 }]
  methods := #[k17m0]
  instanceTypes := #[]
  staticTypes := #[(.object "jdk/internal/misc/Unsafe"), .boolean, .int, .int, .int, .int, .int, .int, .int, .int, .int, .int, .int, .int, .int, .int, .int, .int, .int, (.object "jdk/internal/access/JavaLangAccess"), .int]
  resolved := Array.replicate 378 none
  statics := none }

/-- the primitive byte -/
def k18 : Class := { plain "byte" none with kind := .primitive 'B', accessFlags := 0x411 }
/-- [B -/
def k19 : Class := { plain "[B" (some 0) with kind := .array 18 .byte, interfaces := #[12, 4], accessFlags := 1041 }

/-- the primitive char -/
def k20 : Class := { plain "char" none with kind := .primitive 'C', accessFlags := 0x411 }
/-- [C -/
def k21 : Class := { plain "[C" (some 0) with kind := .array 20 .char, interfaces := #[12, 4], accessFlags := 1041 }

/-- the primitive int -/
def k22 : Class := { plain "int" none with kind := .primitive 'I', accessFlags := 0x411 }
/-- [I -/
def k23 : Class := { plain "[I" (some 0) with kind := .array 22 .int, interfaces := #[12, 4], accessFlags := 1041 }

/-- [Lcom/example/tenderbook/tenderbook/Role; -/
def k24 : Class := { plain "[Lcom/example/tenderbook/tenderbook/Role;" (some 0) with kind := .array 7 (.object "com/example/tenderbook/tenderbook/Role"), interfaces := #[12, 4], accessFlags := 1041 }

def heap : Heap := #[{ cls := 7, slots := #[.ref 4, .ref 5, .ref 6, .ref 3], vm := .statics 7 },
  { cls := 10, slots := #[.long 0, .int 1, .null, .int 0, .null, .int 0, .int 0], vm := .statics 10 },
  { cls := 16, slots := #[.null, .null, .null], vm := .statics 16 },
  { cls := 24, slots := #[.ref 4, .ref 5, .ref 6], vm := .none },
  { cls := 7, slots := #[.null, .int 0, .int 0, .ref 7], vm := .none },
  { cls := 7, slots := #[.null, .int 1, .int 0, .ref 8], vm := .none },
  { cls := 7, slots := #[.null, .int 2, .int 0, .ref 9], vm := .none },
  { cls := 10, slots := #[.ref 10, .int 0, .int 0, .int 0], vm := .none },
  { cls := 10, slots := #[.ref 11, .int 0, .int 0, .int 0], vm := .none },
  { cls := 10, slots := #[.ref 12, .int 0, .int 0, .int 0], vm := .none },
  { cls := 19, slots := #[.int 111, .int 112, .int 101, .int 114, .int 97, .int 116, .int 111, .int 114], vm := .none },
  { cls := 19, slots := #[.int 105, .int 110, .int 105, .int 116, .int 105, .int 97, .int 116, .int 111, .int 114], vm := .none },
  { cls := 19, slots := #[.int 112, .int 97, .int 114, .int 116, .int 105, .int 99, .int 105, .int 112, .int 97, .int 110, .int 116], vm := .none }]
def classes : Array Class := #[k0, k1, k2, k3, k4, k5, k6, k7, k8, k9, k10, k11, k12, k13, k14, k15, k16, k17, k18, k19, k20, k21, k22, k23, k24]
def interned : List (Array UInt16 × Addr) := []
def slotsUsed : Nat := 69
def theMethod : MethodId := ⟨1, 1⟩
def args0 : Array Value := #[.int 5]
def aboutOver (below : List Frame) : State where
  vm := { classes := classes, interned := interned.toArray }
  heap := heap
  slotsUsed := slotsUsed
  threads := #[{ frames := .invoking theMethod args0 :: below }]
def below0 : List Frame := [.native { method := ⟨0, 0⟩, args := #[] }]
def about1 : State := aboutOver below0
def p0 : Program := .bare "" "" ""
def e0 : Env := launch0.env 0 0 0
theorem w_frames : about1.frames = Frame.invoking theMethod args0 :: below0 := rfl
set_option maxRecDepth 65536 in
theorem w_args : argsFit about1.vm theMethod args0 = true := by decide +kernel
set_option maxRecDepth 65536 in
theorem w_heap : heapFits about1 = true := by decide +kernel
set_option maxRecDepth 65536 in
theorem w_runnable : about1.curStatus? = some .runnable := by decide +kernel
set_option maxRecDepth 65536 in
theorem w_alone : about1.alone = true := by decide +kernel
set_option maxRecDepth 65536 in
theorem w_named : about1.methodNamed? x = some theMethod := by decide +kernel
set_option maxRecDepth 65536 in
theorem w_hears : about1.hears theMethod below0 = true := by decide +kernel
set_option maxRecDepth 65536 in
theorem w_ripe : about1.ripe theMethod args0 below0 = true := by decide +kernel
theorem w_running : about1.status = .running := rfl
set_option maxRecDepth 65536 in
theorem w_room : about1.hasRoom e0.platform room_1 = true :=
  launch0.hasRoom_least _ room_1 (by decide +kernel) (by decide +kernel) (by decide +kernel) (by decide +kernel) (by decide +kernel) (by decide +kernel)
theorem allAtoms_all (ts : List Jvm.Cond) (a : Array Jvm.Value) (st : Jvm.State) : (allAtoms ts).before a st = ts.all (fun c => c.before a st) := by
  induction ts with
  | nil => rfl
  | cons c t ih =>
    show (Jvm.Cond.and c (allAtoms t)).before a st = _
    rw [Jvm.Cond.before_and, ih, List.all_cons]
def words1 : List Jvm.Cond := Jvm.Cond.code x code maxLocals ret :: tables_1
/-- a 'code' word, met by the world's own term for the bytes: nothing is compared byte by byte -/
theorem code_word {y : MethodName} {bytes : ByteArray} {mx : Nat} {rt : Option FieldType} {a : Array Value} {s : State} {m : MethodId} {meth : Method} {c : Code} (h1 : s.methodNamed? y = some m) (h2 : s.vm.method? m = some meth) (h3 : meth.code = some c) (h4 : c.code = bytes)
    (h5 : (c.maxLocals == mx && c.exceptionTable.isEmpty && decide (c.maxStack ≤ mostOperands) && decide (meth.sig.returnType = rt) && !meth.locks && decide (parseMethodDescriptor y.desc = some meth.sig)) = true) : (Jvm.Cond.code y bytes mx rt).before a s = true := by
  simp only [Bool.and_eq_true, beq_iff_eq, Bool.not_eq_true', decide_eq_true_eq] at h5
  obtain ⟨⟨⟨⟨⟨g1, g2⟩, g3⟩, g4⟩, g5⟩, g6⟩ := h5
  simp [Cond.before, Cond.holds, Cond.value, h1, h2, h3, h4, g1, g2, g3, g4, g5, g6]
def isCode : Jvm.Cond → Bool
  | .code _ _ _ _ => true
  | _ => false
theorem all_split {L : List Jvm.Cond} {P : Jvm.Cond → Bool} (h1 : L.all (fun c => isCode c || P c) = true) (h2 : ∀ c ∈ L.filter isCode, P c = true) : L.all P = true := by
  refine List.all_eq_true.mpr fun c hc => ?_
  have h := List.all_eq_true.mp h1 c hc
  rcases Bool.eq_false_or_eq_true (isCode c) with hi | hi
  · exact h2 c (List.mem_filter.mpr ⟨hc, hi⟩)
  · simpa [hi] using h
set_option maxRecDepth 65536 in
theorem w_c0 : (Jvm.Cond.code x code maxLocals ret).before args0 about1 = true := code_word (m := ⟨1, 1⟩) (meth := k1m1) (c := k1c1) (by decide +kernel) rfl rfl rfl (by decide +kernel)
set_option maxRecDepth 65536 in
theorem w_c1 : (Jvm.Cond.code ({ cls := "java/lang/String", name := "<init>", desc := "([C)V" } : Jvm.MethodName) jdk_42_method_3_code (2 : Nat) (Option.none : Option Jvm.ClassFile.FieldType)).before args0 about1 = true := code_word (m := ⟨10, 1⟩) (meth := k10m1) (c := k10c1) (by decide +kernel) rfl rfl rfl (by decide +kernel)
set_option maxRecDepth 65536 in
theorem w_c2 : (Jvm.Cond.code ({ cls := "java/lang/String", name := "<init>", desc := "([CIILjava/lang/Void;)V" } : Jvm.MethodName) jdk_42_method_149_code (6 : Nat) (Option.none : Option Jvm.ClassFile.FieldType)).before args0 about1 = true := code_word (m := ⟨10, 3⟩) (meth := k10m3) (c := k10c3) (by decide +kernel) rfl rfl rfl (by decide +kernel)
set_option maxRecDepth 65536 in
theorem w_c3 : (Jvm.Cond.code ({ cls := "java/lang/Object", name := "<init>", desc := "()V" } : Jvm.MethodName) object_method_1_code (1 : Nat) (Option.none : Option Jvm.ClassFile.FieldType)).before args0 about1 = true := code_word (m := ⟨0, 0⟩) (meth := k0m0) (c := k0c0) (by decide +kernel) rfl rfl rfl (by decide +kernel)
set_option maxRecDepth 65536 in
theorem w_c4 : (Jvm.Cond.code ({ cls := "java/lang/StringUTF16", name := "compress", desc := "([CII)[B" } : Jvm.MethodName) jdk_52_method_16_code (6 : Nat) (Option.some (Jvm.ClassFile.FieldType.array Jvm.ClassFile.FieldType.byte))).before args0 about1 = true := code_word (m := ⟨11, 2⟩) (meth := k11m2) (c := k11c2) (by decide +kernel) rfl rfl rfl (by decide +kernel)
set_option maxRecDepth 65536 in
theorem w_c5 : (Jvm.Cond.code ({ cls := "java/lang/StringUTF16", name := "compress", desc := "([CI[BII)I" } : Jvm.MethodName) jdk_52_method_21_code (7 : Nat) (Option.some Jvm.ClassFile.FieldType.int)).before args0 about1 = true := code_word (m := ⟨11, 3⟩) (meth := k11m3) (c := k11c3) (by decide +kernel) rfl rfl rfl (by decide +kernel)
set_option maxRecDepth 65536 in
theorem w_c6 : (Jvm.Cond.code ({ cls := "java/lang/StringUTF16", name := "coderFromArrayLen", desc := "([BI)B" } : Jvm.MethodName) jdk_52_method_15_code (2 : Nat) (Option.some Jvm.ClassFile.FieldType.byte)).before args0 about1 = true := code_word (m := ⟨11, 1⟩) (meth := k11m1) (c := k11c1) (by decide +kernel) rfl rfl rfl (by decide +kernel)
set_option maxRecDepth 65536 in
theorem w_c7 : (Jvm.Cond.code ({ cls := "com/example/tenderbook/tenderbook/Role", name := "ofCode", desc := "(Ljava/lang/String;)Lcom/example/tenderbook/tenderbook/Role;" } : Jvm.MethodName) prog_17_method_5_code (2 : Nat) (Option.some (Jvm.ClassFile.FieldType.object "com/example/tenderbook/tenderbook/Role"))).before args0 about1 = true := code_word (m := ⟨7, 2⟩) (meth := k7m2) (c := k7c2) (by decide +kernel) rfl rfl rfl (by decide +kernel)
set_option maxRecDepth 65536 in
theorem w_c8 : (Jvm.Cond.code ({ cls := "com/example/tenderbook/tenderbook/Role", name := "values", desc := "()[Lcom/example/tenderbook/tenderbook/Role;" } : Jvm.MethodName) prog_17_method_1_code (0 : Nat) (Option.some (Jvm.ClassFile.FieldType.array (Jvm.ClassFile.FieldType.object "com/example/tenderbook/tenderbook/Role")))).before args0 about1 = true := code_word (m := ⟨7, 0⟩) (meth := k7m0) (c := k7c0) (by decide +kernel) rfl rfl rfl (by decide +kernel)
set_option maxRecDepth 65536 in
theorem w_c9 : (Jvm.Cond.code ({ cls := "com/example/tenderbook/tenderbook/Coded", name := "find", desc := "([Lcom/example/tenderbook/tenderbook/Coded;Ljava/lang/String;)Ljava/util/Optional;" } : Jvm.MethodName) prog_4_method_2_code (6 : Nat) (Option.some (Jvm.ClassFile.FieldType.object "java/util/Optional"))).before args0 about1 = true := code_word (m := ⟨6, 1⟩) (meth := k6m1) (c := k6c1) (by decide +kernel) rfl rfl rfl (by decide +kernel)
set_option maxRecDepth 65536 in
theorem w_c10 : (Jvm.Cond.code ({ cls := "com/example/tenderbook/tenderbook/Role", name := "code", desc := "()Ljava/lang/String;" } : Jvm.MethodName) prog_17_method_4_code (1 : Nat) (Option.some (Jvm.ClassFile.FieldType.object "java/lang/String"))).before args0 about1 = true := code_word (m := ⟨7, 1⟩) (meth := k7m1) (c := k7c1) (by decide +kernel) rfl rfl rfl (by decide +kernel)
set_option maxRecDepth 65536 in
theorem w_c11 : (Jvm.Cond.code ({ cls := "java/lang/String", name := "equals", desc := "(Ljava/lang/Object;)Z" } : Jvm.MethodName) jdk_42_method_66_code (3 : Nat) (Option.some Jvm.ClassFile.FieldType.boolean)).before args0 about1 = true := code_word (m := ⟨10, 2⟩) (meth := k10m2) (c := k10c2) (by decide +kernel) rfl rfl rfl (by decide +kernel)
set_option maxRecDepth 65536 in
theorem w_c12 : (Jvm.Cond.code ({ cls := "java/lang/StringLatin1", name := "equals", desc := "([B[B)Z" } : Jvm.MethodName) jdk_43_method_13_code (3 : Nat) (Option.some Jvm.ClassFile.FieldType.boolean)).before args0 about1 = true := code_word (m := ⟨13, 1⟩) (meth := k13m1) (c := k13c1) (by decide +kernel) rfl rfl rfl (by decide +kernel)
set_option maxRecDepth 65536 in
theorem w_c13 : (Jvm.Cond.code ({ cls := "java/util/Optional", name := "of", desc := "(Ljava/lang/Object;)Ljava/util/Optional;" } : Jvm.MethodName) jdk_32_method_3_code (1 : Nat) (Option.some (Jvm.ClassFile.FieldType.object "java/util/Optional"))).before args0 about1 = true := code_word (m := ⟨14, 1⟩) (meth := k14m1) (c := k14c1) (by decide +kernel) rfl rfl rfl (by decide +kernel)
set_option maxRecDepth 65536 in
theorem w_c14 : (Jvm.Cond.code ({ cls := "java/util/Objects", name := "requireNonNull", desc := "(Ljava/lang/Object;)Ljava/lang/Object;" } : Jvm.MethodName) jdk_31_method_10_code (1 : Nat) (Option.some (Jvm.ClassFile.FieldType.object "java/lang/Object"))).before args0 about1 = true := code_word (m := ⟨15, 1⟩) (meth := k15m1) (c := k15c1) (by decide +kernel) rfl rfl rfl (by decide +kernel)
set_option maxRecDepth 65536 in
theorem w_c15 : (Jvm.Cond.code ({ cls := "java/util/Optional", name := "<init>", desc := "(Ljava/lang/Object;)V" } : Jvm.MethodName) jdk_32_method_2_code (2 : Nat) (Option.none : Option Jvm.ClassFile.FieldType)).before args0 about1 = true := code_word (m := ⟨14, 0⟩) (meth := k14m0) (c := k14c0) (by decide +kernel) rfl rfl rfl (by decide +kernel)
set_option maxRecDepth 65536 in
theorem w_c16 : (Jvm.Cond.code ({ cls := "java/util/Optional", name := "isEmpty", desc := "()Z" } : Jvm.MethodName) jdk_32_method_7_code (1 : Nat) (Option.some Jvm.ClassFile.FieldType.boolean)).before args0 about1 = true := code_word (m := ⟨14, 3⟩) (meth := k14m3) (c := k14c3) (by decide +kernel) rfl rfl rfl (by decide +kernel)
set_option maxRecDepth 65536 in
theorem w_c17 : (Jvm.Cond.code ({ cls := "java/util/Optional", name := "get", desc := "()Ljava/lang/Object;" } : Jvm.MethodName) jdk_32_method_5_code (1 : Nat) (Option.some (Jvm.ClassFile.FieldType.object "java/lang/Object"))).before args0 about1 = true := code_word (m := ⟨14, 2⟩) (meth := k14m2) (c := k14c2) (by decide +kernel) rfl rfl rfl (by decide +kernel)
def codes1 : List Jvm.Cond := [Jvm.Cond.code x code maxLocals ret, Jvm.Cond.code ({ cls := "java/lang/String", name := "<init>", desc := "([C)V" } : Jvm.MethodName) jdk_42_method_3_code (2 : Nat) (Option.none : Option Jvm.ClassFile.FieldType), Jvm.Cond.code ({ cls := "java/lang/String", name := "<init>", desc := "([CIILjava/lang/Void;)V" } : Jvm.MethodName) jdk_42_method_149_code (6 : Nat) (Option.none : Option Jvm.ClassFile.FieldType), Jvm.Cond.code ({ cls := "java/lang/Object", name := "<init>", desc := "()V" } : Jvm.MethodName) object_method_1_code (1 : Nat) (Option.none : Option Jvm.ClassFile.FieldType), Jvm.Cond.code ({ cls := "java/lang/StringUTF16", name := "compress", desc := "([CII)[B" } : Jvm.MethodName) jdk_52_method_16_code (6 : Nat) (Option.some (Jvm.ClassFile.FieldType.array Jvm.ClassFile.FieldType.byte)), Jvm.Cond.code ({ cls := "java/lang/StringUTF16", name := "compress", desc := "([CI[BII)I" } : Jvm.MethodName) jdk_52_method_21_code (7 : Nat) (Option.some Jvm.ClassFile.FieldType.int), Jvm.Cond.code ({ cls := "java/lang/StringUTF16", name := "coderFromArrayLen", desc := "([BI)B" } : Jvm.MethodName) jdk_52_method_15_code (2 : Nat) (Option.some Jvm.ClassFile.FieldType.byte), Jvm.Cond.code ({ cls := "com/example/tenderbook/tenderbook/Role", name := "ofCode", desc := "(Ljava/lang/String;)Lcom/example/tenderbook/tenderbook/Role;" } : Jvm.MethodName) prog_17_method_5_code (2 : Nat) (Option.some (Jvm.ClassFile.FieldType.object "com/example/tenderbook/tenderbook/Role")), Jvm.Cond.code ({ cls := "com/example/tenderbook/tenderbook/Role", name := "values", desc := "()[Lcom/example/tenderbook/tenderbook/Role;" } : Jvm.MethodName) prog_17_method_1_code (0 : Nat) (Option.some (Jvm.ClassFile.FieldType.array (Jvm.ClassFile.FieldType.object "com/example/tenderbook/tenderbook/Role"))), Jvm.Cond.code ({ cls := "com/example/tenderbook/tenderbook/Coded", name := "find", desc := "([Lcom/example/tenderbook/tenderbook/Coded;Ljava/lang/String;)Ljava/util/Optional;" } : Jvm.MethodName) prog_4_method_2_code (6 : Nat) (Option.some (Jvm.ClassFile.FieldType.object "java/util/Optional")), Jvm.Cond.code ({ cls := "com/example/tenderbook/tenderbook/Role", name := "code", desc := "()Ljava/lang/String;" } : Jvm.MethodName) prog_17_method_4_code (1 : Nat) (Option.some (Jvm.ClassFile.FieldType.object "java/lang/String")), Jvm.Cond.code ({ cls := "java/lang/String", name := "equals", desc := "(Ljava/lang/Object;)Z" } : Jvm.MethodName) jdk_42_method_66_code (3 : Nat) (Option.some Jvm.ClassFile.FieldType.boolean), Jvm.Cond.code ({ cls := "java/lang/StringLatin1", name := "equals", desc := "([B[B)Z" } : Jvm.MethodName) jdk_43_method_13_code (3 : Nat) (Option.some Jvm.ClassFile.FieldType.boolean), Jvm.Cond.code ({ cls := "java/util/Optional", name := "of", desc := "(Ljava/lang/Object;)Ljava/util/Optional;" } : Jvm.MethodName) jdk_32_method_3_code (1 : Nat) (Option.some (Jvm.ClassFile.FieldType.object "java/util/Optional")), Jvm.Cond.code ({ cls := "java/util/Objects", name := "requireNonNull", desc := "(Ljava/lang/Object;)Ljava/lang/Object;" } : Jvm.MethodName) jdk_31_method_10_code (1 : Nat) (Option.some (Jvm.ClassFile.FieldType.object "java/lang/Object")), Jvm.Cond.code ({ cls := "java/util/Optional", name := "<init>", desc := "(Ljava/lang/Object;)V" } : Jvm.MethodName) jdk_32_method_2_code (2 : Nat) (Option.none : Option Jvm.ClassFile.FieldType), Jvm.Cond.code ({ cls := "java/util/Optional", name := "isEmpty", desc := "()Z" } : Jvm.MethodName) jdk_32_method_7_code (1 : Nat) (Option.some Jvm.ClassFile.FieldType.boolean), Jvm.Cond.code ({ cls := "java/util/Optional", name := "get", desc := "()Ljava/lang/Object;" } : Jvm.MethodName) jdk_32_method_5_code (1 : Nat) (Option.some (Jvm.ClassFile.FieldType.object "java/lang/Object"))]
set_option maxRecDepth 65536 in
theorem codes_eq : words1.filter isCode = codes1 := rfl
theorem w_codes : ∀ c ∈ words1.filter isCode, c.before args0 about1 = true := by
  rw [codes_eq]
  intro c hc
  simp only [codes1, List.mem_cons, List.not_mem_nil, or_false] at hc
  rcases hc with rfl | rfl | rfl | rfl | rfl | rfl | rfl | rfl | rfl | rfl | rfl | rfl | rfl | rfl | rfl | rfl | rfl | rfl
  · exact w_c0
  · exact w_c1
  · exact w_c2
  · exact w_c3
  · exact w_c4
  · exact w_c5
  · exact w_c6
  · exact w_c7
  · exact w_c8
  · exact w_c9
  · exact w_c10
  · exact w_c11
  · exact w_c12
  · exact w_c13
  · exact w_c14
  · exact w_c15
  · exact w_c16
  · exact w_c17
set_option maxRecDepth 65536 in
theorem w_t1 : (words1.take 24).all (fun c => isCode c || c.before args0 about1) = true := by decide +kernel
set_option maxRecDepth 65536 in
theorem w_t2 : ((words1.drop 24).take 24).all (fun c => isCode c || c.before args0 about1) = true := by decide +kernel
set_option maxRecDepth 65536 in
theorem w_t3 : (((words1.drop 24).drop 24).take 24).all (fun c => isCode c || c.before args0 about1) = true := by decide +kernel
set_option maxRecDepth 65536 in
theorem w_t4 : ((((words1.drop 24).drop 24).drop 24).take 24).all (fun c => isCode c || c.before args0 about1) = true := by decide +kernel
set_option maxRecDepth 65536 in
theorem w_t5 : ((((words1.drop 24).drop 24).drop 24).drop 24).all (fun c => isCode c || c.before args0 about1) = true := by decide +kernel
theorem w_tables : (allAtoms (Jvm.Cond.code x code maxLocals ret :: tables_1)).before args0 about1 = true := by
  rw [allAtoms_all]
  show words1.all (fun c => c.before args0 about1) = true
  refine all_split ?_ w_codes
  rw [← List.take_append_drop 24 words1, List.all_append, w_t1, ← List.take_append_drop 24 (words1.drop 24), List.all_append, w_t2, ← List.take_append_drop 24 ((words1.drop 24).drop 24), List.all_append, w_t3, ← List.take_append_drop 24 (((words1.drop 24).drop 24).drop 24), List.all_append, w_t4, w_t5]
  rfl
set_option maxRecDepth 65536 in
theorem w_rest : rest_1_c.before args0 about1 = true := by decide +kernel
set_option maxRecDepth 65536 in
theorem w_case : (Jvm.Cond.and given_1 narrow_1).before args0 about1 = true := by decide +kernel
theorem w_applies : (headSpec (Jvm.Cond.code x code maxLocals ret :: tables_1) room_1).applies x e0.platform about1 = true :=
  (Spec.applies_iff w_frames).mpr ⟨w_running, w_runnable, w_alone, w_named, w_hears, w_ripe, w_room, w_tables⟩
theorem atStart : AtStart classFile x code maxLocals ret World_1 tables_1 room_1 Calls_1 rest_1 Pre_1 launch0 p0 e0 about1 theMethod args0 below0 :=
  ⟨lists_1, trivial, launch0.admits_env _ _ _, launch0.least_env, fairChoices_fair.cas, fairChoices_fair.clock, w_frames, w_args, w_heap, w_applies, trivial, w_rest, w_case⟩
end start1
theorem witness_1 : WitnessClaimed_1 := ⟨start1.p0, start1.e0, start1.about1, start1.theMethod, start1.args0, start1.below0, start1.atStart⟩
end Jvm.Pilot.@@N@@
