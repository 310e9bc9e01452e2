import JvmDerived
import JvmDerived.Pilot.@@N@@Statement
import JvmDerived.Pilot.@@N@@Code
set_option linter.unusedVariables false
set_option linter.unusedSimpArgs false
namespace Jvm.Pilot.@@N@@
open Jvm Jvm.ClassFile Sem Op Lib Jvm.Free Jvm.Stand Jvm.LawKit Jvm.RoadKit Bundle Jvm.Pilot.@@N@@.Jvm.D
def Go (p : Program) (e : Env) (below : List Frame) (G : State → Prop) (T : State) (f : JFrame) : Prop := ∃ t, Steps p.tables e below (T.setTop f) t ∧ G t
theorem Go.step {p : Program} {e : Env} {below : List Frame} {G : State → Prop} {T T' : State} {f f' : JFrame} (k : ∀ t, Steps p.tables e below (T'.setTop f') t → Steps p.tables e below (T.setTop f) t) (h : Go p e below G T' f') : Go p e below G T f := by
  obtain ⟨t, h1, h2⟩ := h
  exact ⟨t, k t h1, h2⟩
def Fin1 (s : State) (below : List Frame) (Q : Option Value → Heap → List Loc → Prop) (k n : Nat) (t : State) : Prop := ∃ o, t.status = .running ∧ Ended t below o ∧ ∃ v L, o = .returned v ∧ Q v t.heap L ∧ FrameEnd s o t L k n
theorem of_go {p : Program} {e : Env} {below : List Frame} {s s₁ : State} {Q : Option Value → Heap → List Loc → Prop} {k n : Nat} {f f' : JFrame} (hf : f' = f) (h : Go p e below (Fin1 s below Q k n) s₁ f) :
    ∃ s₂ o, Steps p.tables e below (s₁.setTop f') s₂ ∧ s₂.status = .running ∧ Ended s₂ below o ∧ ∃ v L, o = .returned v ∧ Q v s₂.heap L ∧ FrameEnd s o s₂ L k n := by
  subst hf
  obtain ⟨t, h1, o, h2, h3, h4⟩ := h
  exact ⟨t, o, h1, h2, h3, h4⟩
section Ends
variable {p : Program} {l : Launch} {e : Env} {R : Room} {s : State} {m : MethodId} {args : Array Value} {below : List Frame} {meth : Method} {c : Code} {T : State} {locs : List Loc} {cells slots : Nat} {Q : Option Value → Heap → List Loc → Prop} {k n : Nat}
theorem goN (X : Stand p l e R s m args below meth c T locs cells slots) (hx : p.tables.exec = Jvm.exec) {pc : Nat} {Ls : Array Slot} {z : Int32} {t : FieldType} {rest : List Value} (hret : meth.sig.returnType = some t) (ht : t = .boolean ∨ t = .byte ∨ t = .char ∨ t = .short) (hlk : meth.locks = false)
    (hd : decode c.code pc = .ok (.ireturn, 1)) (hQ : Q (some (.int (nar t z))) T.heap locs) (hk : cells ≤ k) (hn : slots ≤ n) : Go p e below (Fin1 s below Q k n) T (mkF m pc Ls (.int z :: rest)) := by
  obtain ⟨fs, hr, hrun, hended, hW, hsame⟩ := X.leave (v := some (.int (nar t z))) (fun h => by rw [hret] at h; cases h) hlk
  exact ⟨_, Jvm.RoadKit.retN X hx hret ht hd hr, _, hrun, hended, _, _, rfl, hQ, ⟨_, rfl⟩, hW, hsame.mono hk hn⟩
theorem goO (X : Stand p l e R s m args below meth c T locs cells slots) (hx : p.tables.exec = Jvm.exec) {pc : Nat} {Ls : Array Slot} {w : Value} {t : FieldType} {i : Instr} {rest : List Value} (hret : meth.sig.returnType = some t) (hnw : narrow t w = w)
    (hi : (i = .ireturn ∧ (t = .int ∨ t = .boolean ∨ t = .byte ∨ t = .char ∨ t = .short) ∧ ∃ z, w = .int z) ∨ (i = .lreturn ∧ t = .long ∧ ∃ z, w = .long z) ∨ (i = .dreturn ∧ t = .double ∧ ∃ z, w = .double z) ∨ (i = .freturn ∧ t = .float ∧ ∃ z, w = .float z) ∨ (i = .areturn ∧ t.isReference = true ∧ w.isRef = true)) (hlk : meth.locks = false)
    (hd : decode c.code pc = .ok (i, 1)) (hQ : Q (some w) T.heap locs) (hk : cells ≤ k) (hn : slots ≤ n) : Go p e below (Fin1 s below Q k n) T (mkF m pc Ls (w :: rest)) := by
  obtain ⟨fs, hr, hrun, hended, hW, hsame⟩ := X.leave (v := some w) (fun h => by rw [hret] at h; cases h) hlk
  exact ⟨_, Jvm.RoadKit.retOut X hx hret hnw hi hd hr, _, hrun, hended, _, _, rfl, hQ, ⟨_, rfl⟩, hW, hsame.mono hk hn⟩
theorem goI (X : Stand p l e R s m args below meth c T locs cells slots) (hx : p.tables.exec = Jvm.exec) {pc : Nat} {Ls : Array Slot} {z : Int32} {rest : List Value} (hret : meth.sig.returnType = some .int) (hlk : meth.locks = false)
    (hd : decode c.code pc = .ok (.ireturn, 1)) (hQ : Q (some (.int z)) T.heap locs) (hk : cells ≤ k) (hn : slots ≤ n) : Go p e below (Fin1 s below Q k n) T (mkF m pc Ls (.int z :: rest)) :=
  goO X hx hret rfl (Or.inl ⟨rfl, Or.inl rfl, _, rfl⟩) hlk hd hQ hk hn
theorem goJ (X : Stand p l e R s m args below meth c T locs cells slots) (hx : p.tables.exec = Jvm.exec) {pc : Nat} {Ls : Array Slot} {z : Int64} {rest : List Value} (hret : meth.sig.returnType = some .long) (hlk : meth.locks = false)
    (hd : decode c.code pc = .ok (.lreturn, 1)) (hQ : Q (some (.long z)) T.heap locs) (hk : cells ≤ k) (hn : slots ≤ n) : Go p e below (Fin1 s below Q k n) T (mkF m pc Ls (.long z :: rest)) :=
  goO X hx hret rfl (Or.inr (Or.inl ⟨rfl, rfl, _, rfl⟩)) hlk hd hQ hk hn
theorem goA (X : Stand p l e R s m args below meth c T locs cells slots) (hx : p.tables.exec = Jvm.exec) {pc : Nat} {Ls : Array Slot} {w : Value} {t : FieldType} {rest : List Value} (hret : meth.sig.returnType = some t) (ht : t.isReference = true) (hw : w.isRef = true) (hlk : meth.locks = false)
    (hd : decode c.code pc = .ok (.areturn, 1)) (hQ : Q (some w) T.heap locs) (hk : cells ≤ k) (hn : slots ≤ n) : Go p e below (Fin1 s below Q k n) T (mkF m pc Ls (w :: rest)) :=
  goO X hx hret (by cases t <;> cases w <;> first | rfl | (simp [FieldType.isReference] at ht; done) | (simp [Value.isRef] at hw; done)) (Or.inr (Or.inr (Or.inr (Or.inr ⟨rfl, ht, hw⟩)))) hlk hd hQ hk hn
theorem goV (X : Stand p l e R s m args below meth c T locs cells slots) (hx : p.tables.exec = Jvm.exec) {pc : Nat} {Ls : Array Slot} (hret : meth.sig.returnType = none) (hlk : meth.locks = false)
    (hd : decode c.code pc = .ok (.return_, 1)) (hQ : Q none T.heap locs) (hk : cells ≤ k) (hn : slots ≤ n) : Go p e below (Fin1 s below Q k n) T (mkF m pc Ls []) := by
  obtain ⟨fs, hr, hrun, hended, hW, hsame⟩ := X.leave (v := none) (fun _ => rfl) hlk
  exact ⟨_, X.returnOut hx hret hd hr, _, hrun, hended, _, _, rfl, hQ, ⟨_, rfl⟩, hW, hsame.mono hk hn⟩
def FinW (s : State) (below : List Frame) (Q : Option Value → Heap → List Loc → Prop) (k n : Nat) (t : State) : Prop := ∃ o, t.status = .running ∧ Ended t below o ∧ ∃ v L, o = .returned v ∧ Q v t.heap L ∧ ReturnedEndW s o t L k n
theorem of_goW {p : Program} {e : Env} {below : List Frame} {s s₁ : State} {Q : Option Value → Heap → List Loc → Prop} {k n : Nat} {f f' : JFrame} (hf : f' = f) (h : Go p e below (FinW s below Q k n) s₁ f) :
    ∃ s₂ o, Steps p.tables e below (s₁.setTop f') s₂ ∧ s₂.status = .running ∧ Ended s₂ below o ∧ ∃ v L, o = .returned v ∧ Q v s₂.heap L ∧ ReturnedEndW s o s₂ L k n := by
  subst hf
  obtain ⟨t, h1, o, h2, h3, h4⟩ := h
  exact ⟨t, o, h1, h2, h3, h4⟩
theorem goNW {vm0 : Vm} {n1 : Nat} (hS : s.Since vm0 n1) (X : Stand p l e R (s.setVm vm0) m args below meth c T locs cells slots) (hkk : n1 ≤ T.heap.size) (hx : p.tables.exec = Jvm.exec) {pc : Nat} {Ls : Array Slot} {z : Int32} {t : FieldType} {rest : List Value} (hret : meth.sig.returnType = some t) (ht : t = .boolean ∨ t = .byte ∨ t = .char ∨ t = .short) (hlk : meth.locks = false)
    (hd : decode c.code pc = .ok (.ireturn, 1)) (hQ : Q (some (.int (nar t z))) T.heap locs) (hk : cells ≤ k) (hn : slots ≤ n) : Go p e below (FinW s below Q k n) T (mkF m pc Ls (.int z :: rest)) := by
  obtain ⟨fs, hr, hrun, hended, hW, hsame⟩ := X.leave (v := some (.int (nar t z))) (fun h => by rw [hret] at h; cases h) hlk
  obtain ⟨a1, a2, a3⟩ := hS.ended hW (show n1 ≤ (T.setFrames fs).heap.size from hkk) hsame
  exact ⟨_, Jvm.RoadKit.retN X hx hret ht hd hr, _, hrun, hended, _, _, rfl, hQ, ⟨_, rfl⟩, a1, a2, a3.mono hk hn⟩
theorem goOW {vm0 : Vm} {n1 : Nat} (hS : s.Since vm0 n1) (X : Stand p l e R (s.setVm vm0) m args below meth c T locs cells slots) (hkk : n1 ≤ T.heap.size) (hx : p.tables.exec = Jvm.exec) {pc : Nat} {Ls : Array Slot} {w : Value} {t : FieldType} {i : Instr} {rest : List Value} (hret : meth.sig.returnType = some t) (hnw : narrow t w = w)
    (hi : (i = .ireturn ∧ (t = .int ∨ t = .boolean ∨ t = .byte ∨ t = .char ∨ t = .short) ∧ ∃ z, w = .int z) ∨ (i = .lreturn ∧ t = .long ∧ ∃ z, w = .long z) ∨ (i = .dreturn ∧ t = .double ∧ ∃ z, w = .double z) ∨ (i = .freturn ∧ t = .float ∧ ∃ z, w = .float z) ∨ (i = .areturn ∧ t.isReference = true ∧ w.isRef = true)) (hlk : meth.locks = false)
    (hd : decode c.code pc = .ok (i, 1)) (hQ : Q (some w) T.heap locs) (hk : cells ≤ k) (hn : slots ≤ n) : Go p e below (FinW s below Q k n) T (mkF m pc Ls (w :: rest)) := by
  obtain ⟨fs, hr, hrun, hended, hW, hsame⟩ := X.leave (v := some w) (fun h => by rw [hret] at h; cases h) hlk
  obtain ⟨a1, a2, a3⟩ := hS.ended hW (show n1 ≤ (T.setFrames fs).heap.size from hkk) hsame
  exact ⟨_, Jvm.RoadKit.retOut X hx hret hnw hi hd hr, _, hrun, hended, _, _, rfl, hQ, ⟨_, rfl⟩, a1, a2, a3.mono hk hn⟩
theorem goIW {vm0 : Vm} {n1 : Nat} (hS : s.Since vm0 n1) (X : Stand p l e R (s.setVm vm0) m args below meth c T locs cells slots) (hkk : n1 ≤ T.heap.size) (hx : p.tables.exec = Jvm.exec) {pc : Nat} {Ls : Array Slot} {z : Int32} {rest : List Value} (hret : meth.sig.returnType = some .int) (hlk : meth.locks = false)
    (hd : decode c.code pc = .ok (.ireturn, 1)) (hQ : Q (some (.int z)) T.heap locs) (hk : cells ≤ k) (hn : slots ≤ n) : Go p e below (FinW s below Q k n) T (mkF m pc Ls (.int z :: rest)) :=
  goOW hS X hkk hx hret rfl (Or.inl ⟨rfl, Or.inl rfl, _, rfl⟩) hlk hd hQ hk hn
theorem goAW {vm0 : Vm} {n1 : Nat} (hS : s.Since vm0 n1) (X : Stand p l e R (s.setVm vm0) m args below meth c T locs cells slots) (hkk : n1 ≤ T.heap.size) (hx : p.tables.exec = Jvm.exec) {pc : Nat} {Ls : Array Slot} {w : Value} {t : FieldType} {rest : List Value} (hret : meth.sig.returnType = some t) (ht : t.isReference = true) (hw : w.isRef = true) (hlk : meth.locks = false)
    (hd : decode c.code pc = .ok (.areturn, 1)) (hQ : Q (some w) T.heap locs) (hk : cells ≤ k) (hn : slots ≤ n) : Go p e below (FinW s below Q k n) T (mkF m pc Ls (w :: rest)) :=
  goOW hS X hkk hx hret (by cases t <;> cases w <;> first | rfl | (simp [FieldType.isReference] at ht; done) | (simp [Value.isRef] at hw; done)) (Or.inr (Or.inr (Or.inr (Or.inr ⟨rfl, ht, hw⟩)))) hlk hd hQ hk hn
theorem goVW {vm0 : Vm} {n1 : Nat} (hS : s.Since vm0 n1) (X : Stand p l e R (s.setVm vm0) m args below meth c T locs cells slots) (hkk : n1 ≤ T.heap.size) (hx : p.tables.exec = Jvm.exec) {pc : Nat} {Ls : Array Slot} (hret : meth.sig.returnType = none) (hlk : meth.locks = false)
    (hd : decode c.code pc = .ok (.return_, 1)) (hQ : Q none T.heap locs) (hk : cells ≤ k) (hn : slots ≤ n) : Go p e below (FinW s below Q k n) T (mkF m pc Ls []) := by
  obtain ⟨fs, hr, hrun, hended, hW, hsame⟩ := X.leave (v := none) (fun _ => rfl) hlk
  obtain ⟨a1, a2, a3⟩ := hS.ended hW (show n1 ≤ (T.setFrames fs).heap.size from hkk) hsame
  exact ⟨_, X.returnOut hx hret hd hr, _, hrun, hended, _, _, rfl, hQ, ⟨_, rfl⟩, a1, a2, a3.mono hk hn⟩
theorem narB {z : Int32} (h : z = 0 ∨ z = 1) : nar .boolean z = z := by rcases h with rfl | rfl <;> rfl
end Ends
theorem own_eqk {args : Array Value} {s : State} {t : Term} {k : Int32} (h : (Jvm.Cond.eq t (Term.int k)).value args s none s [] = some true) : t.eval args s none [] s = some (.int k) := by
  simp only [Cond.value, Term.eval] at h
  cases ht : t.eval args s none [] s with
  | none => simp [ht] at h
  | some x => cases x <;> simp [ht] at h ⊢; exact h
def own_exp (c : Int32) : Int32 := if c.toInt = 8 ∨ c.toInt = 11 ∨ c.toInt = 12 ∨ c.toInt = 13 ∨ c.toInt = 14 ∨ c.toInt = 15 ∨ c.toInt = 16 ∨ c.toInt = 19 ∨ c.toInt = 21 ∨ c.toInt = 22 ∨ c.toInt = 31 ∨ c.toInt = 35 then 1 else 0
theorem own_exp1 {c : Int32} (h : c.toInt = 8 ∨ c.toInt = 11 ∨ c.toInt = 12 ∨ c.toInt = 13 ∨ c.toInt = 14 ∨ c.toInt = 15 ∨ c.toInt = 16 ∨ c.toInt = 19 ∨ c.toInt = 21 ∨ c.toInt = 22 ∨ c.toInt = 31 ∨ c.toInt = 35) : own_exp c = 1 := if_pos h
theorem own_exp0 {c : Int32} (h : ¬ (c.toInt = 8 ∨ c.toInt = 11 ∨ c.toInt = 12 ∨ c.toInt = 13 ∨ c.toInt = 14 ∨ c.toInt = 15 ∨ c.toInt = 16 ∨ c.toInt = 19 ∨ c.toInt = 21 ∨ c.toInt = 22 ∨ c.toInt = 31 ∨ c.toInt = 35)) : own_exp c = 0 := if_neg h
def own_nul : Value → Int32
  | .null => 1
  | _ => 0
theorem own_nul0 {v : Value} (h : ¬ v = .null) : own_nul v = 0 := by
  cases v <;> first | rfl | exact absurd rfl h
theorem own_38 {x : Int32} (h : 0 ≤ x.toInt ∧ x.toInt < 38) : x = 0 ∨ x = 1 ∨ x = 2 ∨ x = 3 ∨ x = 4 ∨ x = 5 ∨ x = 6 ∨ x = 7 ∨ x = 8 ∨ x = 9 ∨ x = 10 ∨ x = 11 ∨ x = 12 ∨ x = 13 ∨ x = 14 ∨ x = 15 ∨ x = 16 ∨ x = 17 ∨ x = 18 ∨ x = 19 ∨ x = 20 ∨ x = 21 ∨ x = 22 ∨ x = 23 ∨ x = 24 ∨ x = 25 ∨ x = 26 ∨ x = 27 ∨ x = 28 ∨ x = 29 ∨ x = 30 ∨ x = 31 ∨ x = 32 ∨ x = 33 ∨ x = 34 ∨ x = 35 ∨ x = 36 ∨ x = 37 := by
  simp only [← Int32.toInt_inj, Int32.reduceToInt]
  omega
theorem own_38i {x : Int} (h0 : 0 ≤ x) (h1 : x < 38) : x = 0 ∨ x = 1 ∨ x = 2 ∨ x = 3 ∨ x = 4 ∨ x = 5 ∨ x = 6 ∨ x = 7 ∨ x = 8 ∨ x = 9 ∨ x = 10 ∨ x = 11 ∨ x = 12 ∨ x = 13 ∨ x = 14 ∨ x = 15 ∨ x = 16 ∨ x = 17 ∨ x = 18 ∨ x = 19 ∨ x = 20 ∨ x = 21 ∨ x = 22 ∨ x = 23 ∨ x = 24 ∨ x = 25 ∨ x = 26 ∨ x = 27 ∨ x = 28 ∨ x = 29 ∨ x = 30 ∨ x = 31 ∨ x = 32 ∨ x = 33 ∨ x = 34 ∨ x = 35 ∨ x = 36 ∨ x = 37 := by omega
theorem own_38r (x : Int32) : 0 ≤ ((x &&& (2147483647 : Int32)) % (38 : Int32)).toInt ∧ ((x &&& (2147483647 : Int32)) % (38 : Int32)).toInt < 38 := by
  have h := c_and x 2147483647 (by decide)
  have h1 := (c_irem (x &&& 2147483647) 38 38 rfl).1 h.1
  omega
theorem d1_0 : decode method_4_code 0 = .ok (.iload_n 0, 1) := by decide +kernel
theorem d1_1 : decode method_4_code 1 = .ok (.tableswitch 311 0 36 #[163, 167, 171, 175, 179, 183, 187, 191, 195, 199, 203, 207, 211, 215, 219, 223, 227, 231, 235, 239, 243, 247, 251, 255, 259, 263, 267, 271, 275, 279, 283, 287, 291, 295, 299, 303, 307], 163) := by decide +kernel
theorem d1_164 : decode method_4_code 164 = .ok (.getstatic 24, 3) := by decide +kernel
theorem d1_167 : decode method_4_code 167 = .ok (.areturn, 1) := by decide +kernel
theorem d1_168 : decode method_4_code 168 = .ok (.getstatic 28, 3) := by decide +kernel
theorem d1_171 : decode method_4_code 171 = .ok (.areturn, 1) := by decide +kernel
theorem d1_172 : decode method_4_code 172 = .ok (.getstatic 31, 3) := by decide +kernel
theorem d1_175 : decode method_4_code 175 = .ok (.areturn, 1) := by decide +kernel
theorem d1_176 : decode method_4_code 176 = .ok (.getstatic 34, 3) := by decide +kernel
theorem d1_179 : decode method_4_code 179 = .ok (.areturn, 1) := by decide +kernel
theorem d1_180 : decode method_4_code 180 = .ok (.getstatic 37, 3) := by decide +kernel
theorem d1_183 : decode method_4_code 183 = .ok (.areturn, 1) := by decide +kernel
theorem d1_184 : decode method_4_code 184 = .ok (.getstatic 40, 3) := by decide +kernel
theorem d1_187 : decode method_4_code 187 = .ok (.areturn, 1) := by decide +kernel
theorem d1_188 : decode method_4_code 188 = .ok (.getstatic 43, 3) := by decide +kernel
theorem d1_191 : decode method_4_code 191 = .ok (.areturn, 1) := by decide +kernel
theorem d1_192 : decode method_4_code 192 = .ok (.getstatic 46, 3) := by decide +kernel
theorem d1_195 : decode method_4_code 195 = .ok (.areturn, 1) := by decide +kernel
theorem d1_196 : decode method_4_code 196 = .ok (.getstatic 49, 3) := by decide +kernel
theorem d1_199 : decode method_4_code 199 = .ok (.areturn, 1) := by decide +kernel
theorem d1_200 : decode method_4_code 200 = .ok (.getstatic 52, 3) := by decide +kernel
theorem d1_203 : decode method_4_code 203 = .ok (.areturn, 1) := by decide +kernel
theorem d1_204 : decode method_4_code 204 = .ok (.getstatic 55, 3) := by decide +kernel
theorem d1_207 : decode method_4_code 207 = .ok (.areturn, 1) := by decide +kernel
theorem d1_208 : decode method_4_code 208 = .ok (.getstatic 58, 3) := by decide +kernel
theorem d1_211 : decode method_4_code 211 = .ok (.areturn, 1) := by decide +kernel
theorem d1_212 : decode method_4_code 212 = .ok (.getstatic 61, 3) := by decide +kernel
theorem d1_215 : decode method_4_code 215 = .ok (.areturn, 1) := by decide +kernel
theorem d1_216 : decode method_4_code 216 = .ok (.getstatic 64, 3) := by decide +kernel
theorem d1_219 : decode method_4_code 219 = .ok (.areturn, 1) := by decide +kernel
theorem d1_220 : decode method_4_code 220 = .ok (.getstatic 67, 3) := by decide +kernel
theorem d1_223 : decode method_4_code 223 = .ok (.areturn, 1) := by decide +kernel
theorem d1_224 : decode method_4_code 224 = .ok (.getstatic 70, 3) := by decide +kernel
theorem d1_227 : decode method_4_code 227 = .ok (.areturn, 1) := by decide +kernel
theorem d1_228 : decode method_4_code 228 = .ok (.getstatic 73, 3) := by decide +kernel
theorem d1_231 : decode method_4_code 231 = .ok (.areturn, 1) := by decide +kernel
theorem d1_232 : decode method_4_code 232 = .ok (.getstatic 76, 3) := by decide +kernel
theorem d1_235 : decode method_4_code 235 = .ok (.areturn, 1) := by decide +kernel
theorem d1_236 : decode method_4_code 236 = .ok (.getstatic 79, 3) := by decide +kernel
theorem d1_239 : decode method_4_code 239 = .ok (.areturn, 1) := by decide +kernel
theorem d1_240 : decode method_4_code 240 = .ok (.getstatic 82, 3) := by decide +kernel
theorem d1_243 : decode method_4_code 243 = .ok (.areturn, 1) := by decide +kernel
theorem d1_244 : decode method_4_code 244 = .ok (.getstatic 85, 3) := by decide +kernel
theorem d1_247 : decode method_4_code 247 = .ok (.areturn, 1) := by decide +kernel
theorem d1_248 : decode method_4_code 248 = .ok (.getstatic 88, 3) := by decide +kernel
theorem d1_251 : decode method_4_code 251 = .ok (.areturn, 1) := by decide +kernel
theorem d1_252 : decode method_4_code 252 = .ok (.getstatic 91, 3) := by decide +kernel
theorem d1_255 : decode method_4_code 255 = .ok (.areturn, 1) := by decide +kernel
theorem d1_256 : decode method_4_code 256 = .ok (.getstatic 94, 3) := by decide +kernel
theorem d1_259 : decode method_4_code 259 = .ok (.areturn, 1) := by decide +kernel
theorem d1_260 : decode method_4_code 260 = .ok (.getstatic 97, 3) := by decide +kernel
theorem d1_263 : decode method_4_code 263 = .ok (.areturn, 1) := by decide +kernel
theorem d1_264 : decode method_4_code 264 = .ok (.getstatic 100, 3) := by decide +kernel
theorem d1_267 : decode method_4_code 267 = .ok (.areturn, 1) := by decide +kernel
theorem d1_268 : decode method_4_code 268 = .ok (.getstatic 103, 3) := by decide +kernel
theorem d1_271 : decode method_4_code 271 = .ok (.areturn, 1) := by decide +kernel
theorem d1_272 : decode method_4_code 272 = .ok (.getstatic 106, 3) := by decide +kernel
theorem d1_275 : decode method_4_code 275 = .ok (.areturn, 1) := by decide +kernel
theorem d1_276 : decode method_4_code 276 = .ok (.getstatic 109, 3) := by decide +kernel
theorem d1_279 : decode method_4_code 279 = .ok (.areturn, 1) := by decide +kernel
theorem d1_280 : decode method_4_code 280 = .ok (.getstatic 112, 3) := by decide +kernel
theorem d1_283 : decode method_4_code 283 = .ok (.areturn, 1) := by decide +kernel
theorem d1_284 : decode method_4_code 284 = .ok (.getstatic 115, 3) := by decide +kernel
theorem d1_287 : decode method_4_code 287 = .ok (.areturn, 1) := by decide +kernel
theorem d1_288 : decode method_4_code 288 = .ok (.getstatic 118, 3) := by decide +kernel
theorem d1_291 : decode method_4_code 291 = .ok (.areturn, 1) := by decide +kernel
theorem d1_292 : decode method_4_code 292 = .ok (.getstatic 121, 3) := by decide +kernel
theorem d1_295 : decode method_4_code 295 = .ok (.areturn, 1) := by decide +kernel
theorem d1_296 : decode method_4_code 296 = .ok (.getstatic 124, 3) := by decide +kernel
theorem d1_299 : decode method_4_code 299 = .ok (.areturn, 1) := by decide +kernel
theorem d1_300 : decode method_4_code 300 = .ok (.getstatic 127, 3) := by decide +kernel
theorem d1_303 : decode method_4_code 303 = .ok (.areturn, 1) := by decide +kernel
theorem d1_304 : decode method_4_code 304 = .ok (.getstatic 130, 3) := by decide +kernel
theorem d1_307 : decode method_4_code 307 = .ok (.areturn, 1) := by decide +kernel
theorem d1_308 : decode method_4_code 308 = .ok (.getstatic 133, 3) := by decide +kernel
theorem d1_311 : decode method_4_code 311 = .ok (.areturn, 1) := by decide +kernel
theorem d1_312 : decode method_4_code 312 = .ok (.getstatic 136, 3) := by decide +kernel
theorem d1_315 : decode method_4_code 315 = .ok (.areturn, 1) := by decide +kernel
theorem pn_1 : plainName "com/example/strict_sid/strictsid/known/WellKnownSidIsDomainRelativePinLaw" = true := by first | (simp [plainName, overriddenIn]; done) | decide +kernel
theorem ef_rm1 (m : MethodId) (p1 : Int32) : entryFrame m #[(.int p1)] 1 = mkF m 0 #[.val (.int p1)] [] := by first | (simp [entryFrame, mkF, argsToLocals, Value.category]; done) | rfl
def Q_rm1 (Z : State) (p1 : Int32) (A : Int → Addr) (h0 : Heap) (n0 : Nat) (rv : Option Value) (hq : Heap) (Lq : List Loc) : Prop := rv = some (.ref (A p1.toInt)) ∧ Fr n0 Lq ∧ hq = h0
set_option maxRecDepth 65536 in
set_option maxHeartbeats 40000000 in
theorem rm1 (l : Launch) (Z : State) (a0 : Array Value) (hw : ∀ d ∈ tables_1, d.before a0 Z = true) (ws : List Jvm.Cond) (p1 : Int32) (A : Int → Addr) (h0 : Heap) (n0 : Nat) (Z0 : n0 ≤ h0.size) (O0 : Old Z n0 h0) (S_ACCOUNT_OPERATORS : Sta Z Z.heap "com/example/strict_sid/strictsid/known/WellKnownSid" "ACCOUNT_OPERATORS" "Lcom/example/strict_sid/strictsid/known/WellKnownSid;" (.ref (A 0))) (S_ALIAS_PREW2KCOMPACC : Sta Z Z.heap "com/example/strict_sid/strictsid/known/WellKnownSid" "ALIAS_PREW2KCOMPACC" "Lcom/example/strict_sid/strictsid/known/WellKnownSid;" (.ref (A 1))) (S_ANONYMOUS : Sta Z Z.heap "com/example/strict_sid/strictsid/known/WellKnownSid" "ANONYMOUS" "Lcom/example/strict_sid/strictsid/known/WellKnownSid;" (.ref (A 2))) (S_AUTHENTICATED_USERS : Sta Z Z.heap "com/example/strict_sid/strictsid/known/WellKnownSid" "AUTHENTICATED_USERS" "Lcom/example/strict_sid/strictsid/known/WellKnownSid;" (.ref (A 3))) (S_BUILTIN_ADMINISTRATORS : Sta Z Z.heap "com/example/strict_sid/strictsid/known/WellKnownSid" "BUILTIN_ADMINISTRATORS" "Lcom/example/strict_sid/strictsid/known/WellKnownSid;" (.ref (A 4))) (S_BUILTIN_GUESTS : Sta Z Z.heap "com/example/strict_sid/strictsid/known/WellKnownSid" "BUILTIN_GUESTS" "Lcom/example/strict_sid/strictsid/known/WellKnownSid;" (.ref (A 5))) (S_BACKUP_OPERATORS : Sta Z Z.heap "com/example/strict_sid/strictsid/known/WellKnownSid" "BACKUP_OPERATORS" "Lcom/example/strict_sid/strictsid/known/WellKnownSid;" (.ref (A 6))) (S_BUILTIN_USERS : Sta Z Z.heap "com/example/strict_sid/strictsid/known/WellKnownSid" "BUILTIN_USERS" "Lcom/example/strict_sid/strictsid/known/WellKnownSid;" (.ref (A 7))) (S_CERT_SERV_ADMINISTRATORS : Sta Z Z.heap "com/example/strict_sid/strictsid/known/WellKnownSid" "CERT_SERV_ADMINISTRATORS" "Lcom/example/strict_sid/strictsid/known/WellKnownSid;" (.ref (A 8))) (S_CREATOR_GROUP : Sta Z Z.heap "com/example/strict_sid/strictsid/known/WellKnownSid" "CREATOR_GROUP" "Lcom/example/strict_sid/strictsid/known/WellKnownSid;" (.ref (A 9))) (S_CREATOR_OWNER : Sta Z Z.heap "com/example/strict_sid/strictsid/known/WellKnownSid" "CREATOR_OWNER" "Lcom/example/strict_sid/strictsid/known/WellKnownSid;" (.ref (A 10))) (S_DOMAIN_ADMINISTRATORS : Sta Z Z.heap "com/example/strict_sid/strictsid/known/WellKnownSid" "DOMAIN_ADMINISTRATORS" "Lcom/example/strict_sid/strictsid/known/WellKnownSid;" (.ref (A 11))) (S_DOMAIN_COMPUTERS : Sta Z Z.heap "com/example/strict_sid/strictsid/known/WellKnownSid" "DOMAIN_COMPUTERS" "Lcom/example/strict_sid/strictsid/known/WellKnownSid;" (.ref (A 12))) (S_DOMAIN_DOMAIN_CONTROLLERS : Sta Z Z.heap "com/example/strict_sid/strictsid/known/WellKnownSid" "DOMAIN_DOMAIN_CONTROLLERS" "Lcom/example/strict_sid/strictsid/known/WellKnownSid;" (.ref (A 13))) (S_DOMAIN_GUESTS : Sta Z Z.heap "com/example/strict_sid/strictsid/known/WellKnownSid" "DOMAIN_GUESTS" "Lcom/example/strict_sid/strictsid/known/WellKnownSid;" (.ref (A 14))) (S_DOMAIN_USERS : Sta Z Z.heap "com/example/strict_sid/strictsid/known/WellKnownSid" "DOMAIN_USERS" "Lcom/example/strict_sid/strictsid/known/WellKnownSid;" (.ref (A 15))) (S_ENTERPRISE_ADMINS : Sta Z Z.heap "com/example/strict_sid/strictsid/known/WellKnownSid" "ENTERPRISE_ADMINS" "Lcom/example/strict_sid/strictsid/known/WellKnownSid;" (.ref (A 16))) (S_ENTERPRISE_DOMAIN_CONTROLLERS : Sta Z Z.heap "com/example/strict_sid/strictsid/known/WellKnownSid" "ENTERPRISE_DOMAIN_CONTROLLERS" "Lcom/example/strict_sid/strictsid/known/WellKnownSid;" (.ref (A 17))) (S_EVERYONE : Sta Z Z.heap "com/example/strict_sid/strictsid/known/WellKnownSid" "EVERYONE" "Lcom/example/strict_sid/strictsid/known/WellKnownSid;" (.ref (A 18))) (S_GROUP_POLICY_ADMINS : Sta Z Z.heap "com/example/strict_sid/strictsid/known/WellKnownSid" "GROUP_POLICY_ADMINS" "Lcom/example/strict_sid/strictsid/known/WellKnownSid;" (.ref (A 19))) (S_INTERACTIVE : Sta Z Z.heap "com/example/strict_sid/strictsid/known/WellKnownSid" "INTERACTIVE" "Lcom/example/strict_sid/strictsid/known/WellKnownSid;" (.ref (A 20))) (S_LOCAL_ADMIN : Sta Z Z.heap "com/example/strict_sid/strictsid/known/WellKnownSid" "LOCAL_ADMIN" "Lcom/example/strict_sid/strictsid/known/WellKnownSid;" (.ref (A 21))) (S_LOCAL_GUEST : Sta Z Z.heap "com/example/strict_sid/strictsid/known/WellKnownSid" "LOCAL_GUEST" "Lcom/example/strict_sid/strictsid/known/WellKnownSid;" (.ref (A 22))) (S_LOCAL_SERVICE : Sta Z Z.heap "com/example/strict_sid/strictsid/known/WellKnownSid" "LOCAL_SERVICE" "Lcom/example/strict_sid/strictsid/known/WellKnownSid;" (.ref (A 23))) (S_LOCAL_SYSTEM : Sta Z Z.heap "com/example/strict_sid/strictsid/known/WellKnownSid" "LOCAL_SYSTEM" "Lcom/example/strict_sid/strictsid/known/WellKnownSid;" (.ref (A 24))) (S_NETWORK : Sta Z Z.heap "com/example/strict_sid/strictsid/known/WellKnownSid" "NETWORK" "Lcom/example/strict_sid/strictsid/known/WellKnownSid;" (.ref (A 25))) (S_NETWORK_CONFIGURATION_OPS : Sta Z Z.heap "com/example/strict_sid/strictsid/known/WellKnownSid" "NETWORK_CONFIGURATION_OPS" "Lcom/example/strict_sid/strictsid/known/WellKnownSid;" (.ref (A 26))) (S_NETWORK_SERVICE : Sta Z Z.heap "com/example/strict_sid/strictsid/known/WellKnownSid" "NETWORK_SERVICE" "Lcom/example/strict_sid/strictsid/known/WellKnownSid;" (.ref (A 27))) (S_PRINTER_OPERATORS : Sta Z Z.heap "com/example/strict_sid/strictsid/known/WellKnownSid" "PRINTER_OPERATORS" "Lcom/example/strict_sid/strictsid/known/WellKnownSid;" (.ref (A 28))) (S_PERSONAL_SELF : Sta Z Z.heap "com/example/strict_sid/strictsid/known/WellKnownSid" "PERSONAL_SELF" "Lcom/example/strict_sid/strictsid/known/WellKnownSid;" (.ref (A 29))) (S_POWER_USERS : Sta Z Z.heap "com/example/strict_sid/strictsid/known/WellKnownSid" "POWER_USERS" "Lcom/example/strict_sid/strictsid/known/WellKnownSid;" (.ref (A 30))) (S_RAS_SERVERS : Sta Z Z.heap "com/example/strict_sid/strictsid/known/WellKnownSid" "RAS_SERVERS" "Lcom/example/strict_sid/strictsid/known/WellKnownSid;" (.ref (A 31))) (S_REMOTE_DESKTOP : Sta Z Z.heap "com/example/strict_sid/strictsid/known/WellKnownSid" "REMOTE_DESKTOP" "Lcom/example/strict_sid/strictsid/known/WellKnownSid;" (.ref (A 32))) (S_REPLICATOR : Sta Z Z.heap "com/example/strict_sid/strictsid/known/WellKnownSid" "REPLICATOR" "Lcom/example/strict_sid/strictsid/known/WellKnownSid;" (.ref (A 33))) (S_RESTRICTED_CODE : Sta Z Z.heap "com/example/strict_sid/strictsid/known/WellKnownSid" "RESTRICTED_CODE" "Lcom/example/strict_sid/strictsid/known/WellKnownSid;" (.ref (A 34))) (S_SCHEMA_ADMINISTRATORS : Sta Z Z.heap "com/example/strict_sid/strictsid/known/WellKnownSid" "SCHEMA_ADMINISTRATORS" "Lcom/example/strict_sid/strictsid/known/WellKnownSid;" (.ref (A 35))) (S_SERVER_OPERATORS : Sta Z Z.heap "com/example/strict_sid/strictsid/known/WellKnownSid" "SERVER_OPERATORS" "Lcom/example/strict_sid/strictsid/known/WellKnownSid;" (.ref (A 36))) (S_SERVICE : Sta Z Z.heap "com/example/strict_sid/strictsid/known/WellKnownSid" "SERVICE" "Lcom/example/strict_sid/strictsid/known/WellKnownSid;" (.ref (A 37))) (hp : 0 ≤ p1.toInt ∧ p1.toInt < 38) :
    MetFree l (⟨"com/example/strict_sid/strictsid/known/WellKnownSidIsDomainRelativePinLaw", "pick", "(I)Lcom/example/strict_sid/strictsid/known/WellKnownSid;"⟩ : MethodName) (head1 (Jvm.Cond.code (⟨"com/example/strict_sid/strictsid/known/WellKnownSidIsDomainRelativePinLaw", "pick", "(I)Lcom/example/strict_sid/strictsid/known/WellKnownSid;"⟩ : MethodName) method_4_code 1 (some (.object "com/example/strict_sid/strictsid/known/WellKnownSid")) :: ws) ({ frames := 0, cells := 0, slots := 0, locals := 0 } : Room)) (fun a U => a = #[(.int p1)] ∧ Z.Warmed39 U.vm ∧ U.heap = h0) (fun _ _ _ _ _ => True) (fun _ U o U' => ∃ rv Lq, o = .returned rv ∧ Q_rm1 Z p1 A h0 n0 rv U'.heap Lq ∧ FrameEnd U o U' Lq ({ frames := 0, cells := 0, slots := 0, locals := 0 } : Room).cells ({ frames := 0, cells := 0, slots := 0, locals := 0 } : Room).slots) := by
  refine MetFree.of_bodySF (plainFor_of_name pn_1) hisR ?_
  intro p e s m args below meth c s₁ Bd hml0 hP hK
  obtain ⟨rfl, hZ, hh⟩ := hP
  have hx := Bd.exec
  have hby := Bd.bytes
  have hml : c.maxLocals = 1 := hml0
  have hown : s.vm.findClass "com/example/strict_sid/strictsid/known/WellKnownSidIsDomainRelativePinLaw" = some m.cls := findClass_of_methodNamed Bd.named
  have hnm := (name_of_methodNamed Bd.named Bd.method).1
  have X0 : Stand p l e ({ frames := 0, cells := 0, slots := 0, locals := 0 } : Room) s m #[(.int p1)] below meth c s₁ [] 0 0 := Stand.of_body Bd
  have e0 : s₁.heap = h0 := by rw [← hh, Bd.state]; rfl
  have N0 := Fr.nil n0
  refine of_go (ef_rm1 m p1) ?_
  refine Go.step (T' := s₁) (f' := (mkF m 1 #[.val (.int p1)] [(.int p1)])) (fun _ k => XS.iloadN X0.here hx rfl (hb hby d1_0) rfl k) ?_
  rcases (own_38 hp) with hs1 | hs1 | hs1 | hs1 | hs1 | hs1 | hs1 | hs1 | hs1 | hs1 | hs1 | hs1 | hs1 | hs1 | hs1 | hs1 | hs1 | hs1 | hs1 | hs1 | hs1 | hs1 | hs1 | hs1 | hs1 | hs1 | hs1 | hs1 | hs1 | hs1 | hs1 | hs1 | hs1 | hs1 | hs1 | hs1 | hs1 | hs1
  · refine Go.step (T' := s₁) (f' := (mkF m 164 #[.val (.int p1)] [])) (fun _ k => XS.tswIn (i := p1) X0.here hx rfl (pc0 := 1) (pc' := 164) rfl (hb hby d1_1) rfl (by rw [hs1]; decide) (o := 163) (by rw [hs1]; rfl) (by decide) (by decide) k) ?_
    obtain ⟨T2, X2, e2, st2⟩ := getS2 X0 hx hZ hown (host := "") (Or.inl (hw _ (List.mem_of_getElem? (i := 5) rfl))) Via.refl e0 (S_ACCOUNT_OPERATORS.ext O0.2) (g := (mkF m 164 #[.val (.int p1)] [])) rfl (hb hby d1_164)
    refine Go.step (T' := T2) (f' := (mkF m 167 #[.val (.int p1)] [(.ref (A 0))])) st2 ?_
    refine goA X2 hx Bd.returns rfl rfl Bd.notSynchronized (hb hby d1_167) ?_ (by decide) (by decide)
    show Q_rm1 Z p1 A h0 n0 _ T2.heap _
    rw [e2]
    exact ⟨by rw [hs1]; rfl, N0, rfl⟩
  · refine Go.step (T' := s₁) (f' := (mkF m 168 #[.val (.int p1)] [])) (fun _ k => XS.tswIn (i := p1) X0.here hx rfl (pc0 := 1) (pc' := 168) rfl (hb hby d1_1) rfl (by rw [hs1]; decide) (o := 167) (by rw [hs1]; rfl) (by decide) (by decide) k) ?_
    obtain ⟨T3, X3, e3, st3⟩ := getS2 X0 hx hZ hown (host := "") (Or.inl (hw _ (List.mem_of_getElem? (i := 36) rfl))) Via.refl e0 (S_ALIAS_PREW2KCOMPACC.ext O0.2) (g := (mkF m 168 #[.val (.int p1)] [])) rfl (hb hby d1_168)
    refine Go.step (T' := T3) (f' := (mkF m 171 #[.val (.int p1)] [(.ref (A 1))])) st3 ?_
    refine goA X3 hx Bd.returns rfl rfl Bd.notSynchronized (hb hby d1_171) ?_ (by decide) (by decide)
    show Q_rm1 Z p1 A h0 n0 _ T3.heap _
    rw [e3]
    exact ⟨by rw [hs1]; rfl, N0, rfl⟩
  · refine Go.step (T' := s₁) (f' := (mkF m 172 #[.val (.int p1)] [])) (fun _ k => XS.tswIn (i := p1) X0.here hx rfl (pc0 := 1) (pc' := 172) rfl (hb hby d1_1) rfl (by rw [hs1]; decide) (o := 171) (by rw [hs1]; rfl) (by decide) (by decide) k) ?_
    obtain ⟨T4, X4, e4, st4⟩ := getS2 X0 hx hZ hown (host := "") (Or.inl (hw _ (List.mem_of_getElem? (i := 28) rfl))) Via.refl e0 (S_ANONYMOUS.ext O0.2) (g := (mkF m 172 #[.val (.int p1)] [])) rfl (hb hby d1_172)
    refine Go.step (T' := T4) (f' := (mkF m 175 #[.val (.int p1)] [(.ref (A 2))])) st4 ?_
    refine goA X4 hx Bd.returns rfl rfl Bd.notSynchronized (hb hby d1_175) ?_ (by decide) (by decide)
    show Q_rm1 Z p1 A h0 n0 _ T4.heap _
    rw [e4]
    exact ⟨by rw [hs1]; rfl, N0, rfl⟩
  · refine Go.step (T' := s₁) (f' := (mkF m 176 #[.val (.int p1)] [])) (fun _ k => XS.tswIn (i := p1) X0.here hx rfl (pc0 := 1) (pc' := 176) rfl (hb hby d1_1) rfl (by rw [hs1]; decide) (o := 175) (by rw [hs1]; rfl) (by decide) (by decide) k) ?_
    obtain ⟨T5, X5, e5, st5⟩ := getS2 X0 hx hZ hown (host := "") (Or.inl (hw _ (List.mem_of_getElem? (i := 18) rfl))) Via.refl e0 (S_AUTHENTICATED_USERS.ext O0.2) (g := (mkF m 176 #[.val (.int p1)] [])) rfl (hb hby d1_176)
    refine Go.step (T' := T5) (f' := (mkF m 179 #[.val (.int p1)] [(.ref (A 3))])) st5 ?_
    refine goA X5 hx Bd.returns rfl rfl Bd.notSynchronized (hb hby d1_179) ?_ (by decide) (by decide)
    show Q_rm1 Z p1 A h0 n0 _ T5.heap _
    rw [e5]
    exact ⟨by rw [hs1]; rfl, N0, rfl⟩
  · refine Go.step (T' := s₁) (f' := (mkF m 180 #[.val (.int p1)] [])) (fun _ k => XS.tswIn (i := p1) X0.here hx rfl (pc0 := 1) (pc' := 180) rfl (hb hby d1_1) rfl (by rw [hs1]; decide) (o := 179) (by rw [hs1]; rfl) (by decide) (by decide) k) ?_
    obtain ⟨T6, X6, e6, st6⟩ := getS2 X0 hx hZ hown (host := "") (Or.inl (hw _ (List.mem_of_getElem? (i := 76) rfl))) Via.refl e0 (S_BUILTIN_ADMINISTRATORS.ext O0.2) (g := (mkF m 180 #[.val (.int p1)] [])) rfl (hb hby d1_180)
    refine Go.step (T' := T6) (f' := (mkF m 183 #[.val (.int p1)] [(.ref (A 4))])) st6 ?_
    refine goA X6 hx Bd.returns rfl rfl Bd.notSynchronized (hb hby d1_183) ?_ (by decide) (by decide)
    show Q_rm1 Z p1 A h0 n0 _ T6.heap _
    rw [e6]
    exact ⟨by rw [hs1]; rfl, N0, rfl⟩
  · refine Go.step (T' := s₁) (f' := (mkF m 184 #[.val (.int p1)] [])) (fun _ k => XS.tswIn (i := p1) X0.here hx rfl (pc0 := 1) (pc' := 184) rfl (hb hby d1_1) rfl (by rw [hs1]; decide) (o := 183) (by rw [hs1]; rfl) (by decide) (by decide) k) ?_
    obtain ⟨T7, X7, e7, st7⟩ := getS2 X0 hx hZ hown (host := "") (Or.inl (hw _ (List.mem_of_getElem? (i := 22) rfl))) Via.refl e0 (S_BUILTIN_GUESTS.ext O0.2) (g := (mkF m 184 #[.val (.int p1)] [])) rfl (hb hby d1_184)
    refine Go.step (T' := T7) (f' := (mkF m 187 #[.val (.int p1)] [(.ref (A 5))])) st7 ?_
    refine goA X7 hx Bd.returns rfl rfl Bd.notSynchronized (hb hby d1_187) ?_ (by decide) (by decide)
    show Q_rm1 Z p1 A h0 n0 _ T7.heap _
    rw [e7]
    exact ⟨by rw [hs1]; rfl, N0, rfl⟩
  · refine Go.step (T' := s₁) (f' := (mkF m 188 #[.val (.int p1)] [])) (fun _ k => XS.tswIn (i := p1) X0.here hx rfl (pc0 := 1) (pc' := 188) rfl (hb hby d1_1) rfl (by rw [hs1]; decide) (o := 187) (by rw [hs1]; rfl) (by decide) (by decide) k) ?_
    obtain ⟨T8, X8, e8, st8⟩ := getS2 X0 hx hZ hown (host := "") (Or.inl (hw _ (List.mem_of_getElem? (i := 62) rfl))) Via.refl e0 (S_BACKUP_OPERATORS.ext O0.2) (g := (mkF m 188 #[.val (.int p1)] [])) rfl (hb hby d1_188)
    refine Go.step (T' := T8) (f' := (mkF m 191 #[.val (.int p1)] [(.ref (A 6))])) st8 ?_
    refine goA X8 hx Bd.returns rfl rfl Bd.notSynchronized (hb hby d1_191) ?_ (by decide) (by decide)
    show Q_rm1 Z p1 A h0 n0 _ T8.heap _
    rw [e8]
    exact ⟨by rw [hs1]; rfl, N0, rfl⟩
  · refine Go.step (T' := s₁) (f' := (mkF m 192 #[.val (.int p1)] [])) (fun _ k => XS.tswIn (i := p1) X0.here hx rfl (pc0 := 1) (pc' := 192) rfl (hb hby d1_1) rfl (by rw [hs1]; decide) (o := 191) (by rw [hs1]; rfl) (by decide) (by decide) k) ?_
    obtain ⟨T9, X9, e9, st9⟩ := getS2 X0 hx hZ hown (host := "") (Or.inl (hw _ (List.mem_of_getElem? (i := 26) rfl))) Via.refl e0 (S_BUILTIN_USERS.ext O0.2) (g := (mkF m 192 #[.val (.int p1)] [])) rfl (hb hby d1_192)
    refine Go.step (T' := T9) (f' := (mkF m 195 #[.val (.int p1)] [(.ref (A 7))])) st9 ?_
    refine goA X9 hx Bd.returns rfl rfl Bd.notSynchronized (hb hby d1_195) ?_ (by decide) (by decide)
    show Q_rm1 Z p1 A h0 n0 _ T9.heap _
    rw [e9]
    exact ⟨by rw [hs1]; rfl, N0, rfl⟩
  · refine Go.step (T' := s₁) (f' := (mkF m 196 #[.val (.int p1)] [])) (fun _ k => XS.tswIn (i := p1) X0.here hx rfl (pc0 := 1) (pc' := 196) rfl (hb hby d1_1) rfl (by rw [hs1]; decide) (o := 195) (by rw [hs1]; rfl) (by decide) (by decide) k) ?_
    obtain ⟨T10, X10, e10, st10⟩ := getS2 X0 hx hZ hown (host := "") (Or.inl (hw _ (List.mem_of_getElem? (i := 34) rfl))) Via.refl e0 (S_CERT_SERV_ADMINISTRATORS.ext O0.2) (g := (mkF m 196 #[.val (.int p1)] [])) rfl (hb hby d1_196)
    refine Go.step (T' := T10) (f' := (mkF m 199 #[.val (.int p1)] [(.ref (A 8))])) st10 ?_
    refine goA X10 hx Bd.returns rfl rfl Bd.notSynchronized (hb hby d1_199) ?_ (by decide) (by decide)
    show Q_rm1 Z p1 A h0 n0 _ T10.heap _
    rw [e10]
    exact ⟨by rw [hs1]; rfl, N0, rfl⟩
  · refine Go.step (T' := s₁) (f' := (mkF m 200 #[.val (.int p1)] [])) (fun _ k => XS.tswIn (i := p1) X0.here hx rfl (pc0 := 1) (pc' := 200) rfl (hb hby d1_1) rfl (by rw [hs1]; decide) (o := 199) (by rw [hs1]; rfl) (by decide) (by decide) k) ?_
    obtain ⟨T11, X11, e11, st11⟩ := getS2 X0 hx hZ hown (host := "") (Or.inl (hw _ (List.mem_of_getElem? (i := 66) rfl))) Via.refl e0 (S_CREATOR_GROUP.ext O0.2) (g := (mkF m 200 #[.val (.int p1)] [])) rfl (hb hby d1_200)
    refine Go.step (T' := T11) (f' := (mkF m 203 #[.val (.int p1)] [(.ref (A 9))])) st11 ?_
    refine goA X11 hx Bd.returns rfl rfl Bd.notSynchronized (hb hby d1_203) ?_ (by decide) (by decide)
    show Q_rm1 Z p1 A h0 n0 _ T11.heap _
    rw [e11]
    exact ⟨by rw [hs1]; rfl, N0, rfl⟩
  · refine Go.step (T' := s₁) (f' := (mkF m 204 #[.val (.int p1)] [])) (fun _ k => XS.tswIn (i := p1) X0.here hx rfl (pc0 := 1) (pc' := 204) rfl (hb hby d1_1) rfl (by rw [hs1]; decide) (o := 203) (by rw [hs1]; rfl) (by decide) (by decide) k) ?_
    obtain ⟨T12, X12, e12, st12⟩ := getS2 X0 hx hZ hown (host := "") (Or.inl (hw _ (List.mem_of_getElem? (i := 32) rfl))) Via.refl e0 (S_CREATOR_OWNER.ext O0.2) (g := (mkF m 204 #[.val (.int p1)] [])) rfl (hb hby d1_204)
    refine Go.step (T' := T12) (f' := (mkF m 207 #[.val (.int p1)] [(.ref (A 10))])) st12 ?_
    refine goA X12 hx Bd.returns rfl rfl Bd.notSynchronized (hb hby d1_207) ?_ (by decide) (by decide)
    show Q_rm1 Z p1 A h0 n0 _ T12.heap _
    rw [e12]
    exact ⟨by rw [hs1]; rfl, N0, rfl⟩
  · refine Go.step (T' := s₁) (f' := (mkF m 208 #[.val (.int p1)] [])) (fun _ k => XS.tswIn (i := p1) X0.here hx rfl (pc0 := 1) (pc' := 208) rfl (hb hby d1_1) rfl (by rw [hs1]; decide) (o := 207) (by rw [hs1]; rfl) (by decide) (by decide) k) ?_
    obtain ⟨T13, X13, e13, st13⟩ := getS2 X0 hx hZ hown (host := "") (Or.inl (hw _ (List.mem_of_getElem? (i := 30) rfl))) Via.refl e0 (S_DOMAIN_ADMINISTRATORS.ext O0.2) (g := (mkF m 208 #[.val (.int p1)] [])) rfl (hb hby d1_208)
    refine Go.step (T' := T13) (f' := (mkF m 211 #[.val (.int p1)] [(.ref (A 11))])) st13 ?_
    refine goA X13 hx Bd.returns rfl rfl Bd.notSynchronized (hb hby d1_211) ?_ (by decide) (by decide)
    show Q_rm1 Z p1 A h0 n0 _ T13.heap _
    rw [e13]
    exact ⟨by rw [hs1]; rfl, N0, rfl⟩
  · refine Go.step (T' := s₁) (f' := (mkF m 212 #[.val (.int p1)] [])) (fun _ k => XS.tswIn (i := p1) X0.here hx rfl (pc0 := 1) (pc' := 212) rfl (hb hby d1_1) rfl (by rw [hs1]; decide) (o := 211) (by rw [hs1]; rfl) (by decide) (by decide) k) ?_
    obtain ⟨T14, X14, e14, st14⟩ := getS2 X0 hx hZ hown (host := "") (Or.inl (hw _ (List.mem_of_getElem? (i := 68) rfl))) Via.refl e0 (S_DOMAIN_COMPUTERS.ext O0.2) (g := (mkF m 212 #[.val (.int p1)] [])) rfl (hb hby d1_212)
    refine Go.step (T' := T14) (f' := (mkF m 215 #[.val (.int p1)] [(.ref (A 12))])) st14 ?_
    refine goA X14 hx Bd.returns rfl rfl Bd.notSynchronized (hb hby d1_215) ?_ (by decide) (by decide)
    show Q_rm1 Z p1 A h0 n0 _ T14.heap _
    rw [e14]
    exact ⟨by rw [hs1]; rfl, N0, rfl⟩
  · refine Go.step (T' := s₁) (f' := (mkF m 216 #[.val (.int p1)] [])) (fun _ k => XS.tswIn (i := p1) X0.here hx rfl (pc0 := 1) (pc' := 216) rfl (hb hby d1_1) rfl (by rw [hs1]; decide) (o := 215) (by rw [hs1]; rfl) (by decide) (by decide) k) ?_
    obtain ⟨T15, X15, e15, st15⟩ := getS2 X0 hx hZ hown (host := "") (Or.inl (hw _ (List.mem_of_getElem? (i := 72) rfl))) Via.refl e0 (S_DOMAIN_DOMAIN_CONTROLLERS.ext O0.2) (g := (mkF m 216 #[.val (.int p1)] [])) rfl (hb hby d1_216)
    refine Go.step (T' := T15) (f' := (mkF m 219 #[.val (.int p1)] [(.ref (A 13))])) st15 ?_
    refine goA X15 hx Bd.returns rfl rfl Bd.notSynchronized (hb hby d1_219) ?_ (by decide) (by decide)
    show Q_rm1 Z p1 A h0 n0 _ T15.heap _
    rw [e15]
    exact ⟨by rw [hs1]; rfl, N0, rfl⟩
  · refine Go.step (T' := s₁) (f' := (mkF m 220 #[.val (.int p1)] [])) (fun _ k => XS.tswIn (i := p1) X0.here hx rfl (pc0 := 1) (pc' := 220) rfl (hb hby d1_1) rfl (by rw [hs1]; decide) (o := 219) (by rw [hs1]; rfl) (by decide) (by decide) k) ?_
    obtain ⟨T16, X16, e16, st16⟩ := getS2 X0 hx hZ hown (host := "") (Or.inl (hw _ (List.mem_of_getElem? (i := 38) rfl))) Via.refl e0 (S_DOMAIN_GUESTS.ext O0.2) (g := (mkF m 220 #[.val (.int p1)] [])) rfl (hb hby d1_220)
    refine Go.step (T' := T16) (f' := (mkF m 223 #[.val (.int p1)] [(.ref (A 14))])) st16 ?_
    refine goA X16 hx Bd.returns rfl rfl Bd.notSynchronized (hb hby d1_223) ?_ (by decide) (by decide)
    show Q_rm1 Z p1 A h0 n0 _ T16.heap _
    rw [e16]
    exact ⟨by rw [hs1]; rfl, N0, rfl⟩
  · refine Go.step (T' := s₁) (f' := (mkF m 224 #[.val (.int p1)] [])) (fun _ k => XS.tswIn (i := p1) X0.here hx rfl (pc0 := 1) (pc' := 224) rfl (hb hby d1_1) rfl (by rw [hs1]; decide) (o := 223) (by rw [hs1]; rfl) (by decide) (by decide) k) ?_
    obtain ⟨T17, X17, e17, st17⟩ := getS2 X0 hx hZ hown (host := "") (Or.inl (hw _ (List.mem_of_getElem? (i := 54) rfl))) Via.refl e0 (S_DOMAIN_USERS.ext O0.2) (g := (mkF m 224 #[.val (.int p1)] [])) rfl (hb hby d1_224)
    refine Go.step (T' := T17) (f' := (mkF m 227 #[.val (.int p1)] [(.ref (A 15))])) st17 ?_
    refine goA X17 hx Bd.returns rfl rfl Bd.notSynchronized (hb hby d1_227) ?_ (by decide) (by decide)
    show Q_rm1 Z p1 A h0 n0 _ T17.heap _
    rw [e17]
    exact ⟨by rw [hs1]; rfl, N0, rfl⟩
  · refine Go.step (T' := s₁) (f' := (mkF m 228 #[.val (.int p1)] [])) (fun _ k => XS.tswIn (i := p1) X0.here hx rfl (pc0 := 1) (pc' := 228) rfl (hb hby d1_1) rfl (by rw [hs1]; decide) (o := 227) (by rw [hs1]; rfl) (by decide) (by decide) k) ?_
    obtain ⟨T18, X18, e18, st18⟩ := getS2 X0 hx hZ hown (host := "") (Or.inl (hw _ (List.mem_of_getElem? (i := 46) rfl))) Via.refl e0 (S_ENTERPRISE_ADMINS.ext O0.2) (g := (mkF m 228 #[.val (.int p1)] [])) rfl (hb hby d1_228)
    refine Go.step (T' := T18) (f' := (mkF m 231 #[.val (.int p1)] [(.ref (A 16))])) st18 ?_
    refine goA X18 hx Bd.returns rfl rfl Bd.notSynchronized (hb hby d1_231) ?_ (by decide) (by decide)
    show Q_rm1 Z p1 A h0 n0 _ T18.heap _
    rw [e18]
    exact ⟨by rw [hs1]; rfl, N0, rfl⟩
  · refine Go.step (T' := s₁) (f' := (mkF m 232 #[.val (.int p1)] [])) (fun _ k => XS.tswIn (i := p1) X0.here hx rfl (pc0 := 1) (pc' := 232) rfl (hb hby d1_1) rfl (by rw [hs1]; decide) (o := 231) (by rw [hs1]; rfl) (by decide) (by decide) k) ?_
    obtain ⟨T19, X19, e19, st19⟩ := getS2 X0 hx hZ hown (host := "") (Or.inl (hw _ (List.mem_of_getElem? (i := 70) rfl))) Via.refl e0 (S_ENTERPRISE_DOMAIN_CONTROLLERS.ext O0.2) (g := (mkF m 232 #[.val (.int p1)] [])) rfl (hb hby d1_232)
    refine Go.step (T' := T19) (f' := (mkF m 235 #[.val (.int p1)] [(.ref (A 17))])) st19 ?_
    refine goA X19 hx Bd.returns rfl rfl Bd.notSynchronized (hb hby d1_235) ?_ (by decide) (by decide)
    show Q_rm1 Z p1 A h0 n0 _ T19.heap _
    rw [e19]
    exact ⟨by rw [hs1]; rfl, N0, rfl⟩
  · refine Go.step (T' := s₁) (f' := (mkF m 236 #[.val (.int p1)] [])) (fun _ k => XS.tswIn (i := p1) X0.here hx rfl (pc0 := 1) (pc' := 236) rfl (hb hby d1_1) rfl (by rw [hs1]; decide) (o := 235) (by rw [hs1]; rfl) (by decide) (by decide) k) ?_
    obtain ⟨T20, X20, e20, st20⟩ := getS2 X0 hx hZ hown (host := "") (Or.inl (hw _ (List.mem_of_getElem? (i := 40) rfl))) Via.refl e0 (S_EVERYONE.ext O0.2) (g := (mkF m 236 #[.val (.int p1)] [])) rfl (hb hby d1_236)
    refine Go.step (T' := T20) (f' := (mkF m 239 #[.val (.int p1)] [(.ref (A 18))])) st20 ?_
    refine goA X20 hx Bd.returns rfl rfl Bd.notSynchronized (hb hby d1_239) ?_ (by decide) (by decide)
    show Q_rm1 Z p1 A h0 n0 _ T20.heap _
    rw [e20]
    exact ⟨by rw [hs1]; rfl, N0, rfl⟩
  · refine Go.step (T' := s₁) (f' := (mkF m 240 #[.val (.int p1)] [])) (fun _ k => XS.tswIn (i := p1) X0.here hx rfl (pc0 := 1) (pc' := 240) rfl (hb hby d1_1) rfl (by rw [hs1]; decide) (o := 239) (by rw [hs1]; rfl) (by decide) (by decide) k) ?_
    obtain ⟨T21, X21, e21, st21⟩ := getS2 X0 hx hZ hown (host := "") (Or.inl (hw _ (List.mem_of_getElem? (i := 52) rfl))) Via.refl e0 (S_GROUP_POLICY_ADMINS.ext O0.2) (g := (mkF m 240 #[.val (.int p1)] [])) rfl (hb hby d1_240)
    refine Go.step (T' := T21) (f' := (mkF m 243 #[.val (.int p1)] [(.ref (A 19))])) st21 ?_
    refine goA X21 hx Bd.returns rfl rfl Bd.notSynchronized (hb hby d1_243) ?_ (by decide) (by decide)
    show Q_rm1 Z p1 A h0 n0 _ T21.heap _
    rw [e21]
    exact ⟨by rw [hs1]; rfl, N0, rfl⟩
  · refine Go.step (T' := s₁) (f' := (mkF m 244 #[.val (.int p1)] [])) (fun _ k => XS.tswIn (i := p1) X0.here hx rfl (pc0 := 1) (pc' := 244) rfl (hb hby d1_1) rfl (by rw [hs1]; decide) (o := 243) (by rw [hs1]; rfl) (by decide) (by decide) k) ?_
    obtain ⟨T22, X22, e22, st22⟩ := getS2 X0 hx hZ hown (host := "") (Or.inl (hw _ (List.mem_of_getElem? (i := 64) rfl))) Via.refl e0 (S_INTERACTIVE.ext O0.2) (g := (mkF m 244 #[.val (.int p1)] [])) rfl (hb hby d1_244)
    refine Go.step (T' := T22) (f' := (mkF m 247 #[.val (.int p1)] [(.ref (A 20))])) st22 ?_
    refine goA X22 hx Bd.returns rfl rfl Bd.notSynchronized (hb hby d1_247) ?_ (by decide) (by decide)
    show Q_rm1 Z p1 A h0 n0 _ T22.heap _
    rw [e22]
    exact ⟨by rw [hs1]; rfl, N0, rfl⟩
  · refine Go.step (T' := s₁) (f' := (mkF m 248 #[.val (.int p1)] [])) (fun _ k => XS.tswIn (i := p1) X0.here hx rfl (pc0 := 1) (pc' := 248) rfl (hb hby d1_1) rfl (by rw [hs1]; decide) (o := 247) (by rw [hs1]; rfl) (by decide) (by decide) k) ?_
    obtain ⟨T23, X23, e23, st23⟩ := getS2 X0 hx hZ hown (host := "") (Or.inl (hw _ (List.mem_of_getElem? (i := 82) rfl))) Via.refl e0 (S_LOCAL_ADMIN.ext O0.2) (g := (mkF m 248 #[.val (.int p1)] [])) rfl (hb hby d1_248)
    refine Go.step (T' := T23) (f' := (mkF m 251 #[.val (.int p1)] [(.ref (A 21))])) st23 ?_
    refine goA X23 hx Bd.returns rfl rfl Bd.notSynchronized (hb hby d1_251) ?_ (by decide) (by decide)
    show Q_rm1 Z p1 A h0 n0 _ T23.heap _
    rw [e23]
    exact ⟨by rw [hs1]; rfl, N0, rfl⟩
  · refine Go.step (T' := s₁) (f' := (mkF m 252 #[.val (.int p1)] [])) (fun _ k => XS.tswIn (i := p1) X0.here hx rfl (pc0 := 1) (pc' := 252) rfl (hb hby d1_1) rfl (by rw [hs1]; decide) (o := 251) (by rw [hs1]; rfl) (by decide) (by decide) k) ?_
    obtain ⟨T24, X24, e24, st24⟩ := getS2 X0 hx hZ hown (host := "") (Or.inl (hw _ (List.mem_of_getElem? (i := 56) rfl))) Via.refl e0 (S_LOCAL_GUEST.ext O0.2) (g := (mkF m 252 #[.val (.int p1)] [])) rfl (hb hby d1_252)
    refine Go.step (T' := T24) (f' := (mkF m 255 #[.val (.int p1)] [(.ref (A 22))])) st24 ?_
    refine goA X24 hx Bd.returns rfl rfl Bd.notSynchronized (hb hby d1_255) ?_ (by decide) (by decide)
    show Q_rm1 Z p1 A h0 n0 _ T24.heap _
    rw [e24]
    exact ⟨by rw [hs1]; rfl, N0, rfl⟩
  · refine Go.step (T' := s₁) (f' := (mkF m 256 #[.val (.int p1)] [])) (fun _ k => XS.tswIn (i := p1) X0.here hx rfl (pc0 := 1) (pc' := 256) rfl (hb hby d1_1) rfl (by rw [hs1]; decide) (o := 255) (by rw [hs1]; rfl) (by decide) (by decide) k) ?_
    obtain ⟨T25, X25, e25, st25⟩ := getS2 X0 hx hZ hown (host := "") (Or.inl (hw _ (List.mem_of_getElem? (i := 48) rfl))) Via.refl e0 (S_LOCAL_SERVICE.ext O0.2) (g := (mkF m 256 #[.val (.int p1)] [])) rfl (hb hby d1_256)
    refine Go.step (T' := T25) (f' := (mkF m 259 #[.val (.int p1)] [(.ref (A 23))])) st25 ?_
    refine goA X25 hx Bd.returns rfl rfl Bd.notSynchronized (hb hby d1_259) ?_ (by decide) (by decide)
    show Q_rm1 Z p1 A h0 n0 _ T25.heap _
    rw [e25]
    exact ⟨by rw [hs1]; rfl, N0, rfl⟩
  · refine Go.step (T' := s₁) (f' := (mkF m 260 #[.val (.int p1)] [])) (fun _ k => XS.tswIn (i := p1) X0.here hx rfl (pc0 := 1) (pc' := 260) rfl (hb hby d1_1) rfl (by rw [hs1]; decide) (o := 259) (by rw [hs1]; rfl) (by decide) (by decide) k) ?_
    obtain ⟨T26, X26, e26, st26⟩ := getS2 X0 hx hZ hown (host := "") (Or.inl (hw _ (List.mem_of_getElem? (i := 50) rfl))) Via.refl e0 (S_LOCAL_SYSTEM.ext O0.2) (g := (mkF m 260 #[.val (.int p1)] [])) rfl (hb hby d1_260)
    refine Go.step (T' := T26) (f' := (mkF m 263 #[.val (.int p1)] [(.ref (A 24))])) st26 ?_
    refine goA X26 hx Bd.returns rfl rfl Bd.notSynchronized (hb hby d1_263) ?_ (by decide) (by decide)
    show Q_rm1 Z p1 A h0 n0 _ T26.heap _
    rw [e26]
    exact ⟨by rw [hs1]; rfl, N0, rfl⟩
  · refine Go.step (T' := s₁) (f' := (mkF m 264 #[.val (.int p1)] [])) (fun _ k => XS.tswIn (i := p1) X0.here hx rfl (pc0 := 1) (pc' := 264) rfl (hb hby d1_1) rfl (by rw [hs1]; decide) (o := 263) (by rw [hs1]; rfl) (by decide) (by decide) k) ?_
    obtain ⟨T27, X27, e27, st27⟩ := getS2 X0 hx hZ hown (host := "") (Or.inl (hw _ (List.mem_of_getElem? (i := 42) rfl))) Via.refl e0 (S_NETWORK.ext O0.2) (g := (mkF m 264 #[.val (.int p1)] [])) rfl (hb hby d1_264)
    refine Go.step (T' := T27) (f' := (mkF m 267 #[.val (.int p1)] [(.ref (A 25))])) st27 ?_
    refine goA X27 hx Bd.returns rfl rfl Bd.notSynchronized (hb hby d1_267) ?_ (by decide) (by decide)
    show Q_rm1 Z p1 A h0 n0 _ T27.heap _
    rw [e27]
    exact ⟨by rw [hs1]; rfl, N0, rfl⟩
  · refine Go.step (T' := s₁) (f' := (mkF m 268 #[.val (.int p1)] [])) (fun _ k => XS.tswIn (i := p1) X0.here hx rfl (pc0 := 1) (pc' := 268) rfl (hb hby d1_1) rfl (by rw [hs1]; decide) (o := 267) (by rw [hs1]; rfl) (by decide) (by decide) k) ?_
    obtain ⟨T28, X28, e28, st28⟩ := getS2 X0 hx hZ hown (host := "") (Or.inl (hw _ (List.mem_of_getElem? (i := 74) rfl))) Via.refl e0 (S_NETWORK_CONFIGURATION_OPS.ext O0.2) (g := (mkF m 268 #[.val (.int p1)] [])) rfl (hb hby d1_268)
    refine Go.step (T' := T28) (f' := (mkF m 271 #[.val (.int p1)] [(.ref (A 26))])) st28 ?_
    refine goA X28 hx Bd.returns rfl rfl Bd.notSynchronized (hb hby d1_271) ?_ (by decide) (by decide)
    show Q_rm1 Z p1 A h0 n0 _ T28.heap _
    rw [e28]
    exact ⟨by rw [hs1]; rfl, N0, rfl⟩
  · refine Go.step (T' := s₁) (f' := (mkF m 272 #[.val (.int p1)] [])) (fun _ k => XS.tswIn (i := p1) X0.here hx rfl (pc0 := 1) (pc' := 272) rfl (hb hby d1_1) rfl (by rw [hs1]; decide) (o := 271) (by rw [hs1]; rfl) (by decide) (by decide) k) ?_
    obtain ⟨T29, X29, e29, st29⟩ := getS2 X0 hx hZ hown (host := "") (Or.inl (hw _ (List.mem_of_getElem? (i := 44) rfl))) Via.refl e0 (S_NETWORK_SERVICE.ext O0.2) (g := (mkF m 272 #[.val (.int p1)] [])) rfl (hb hby d1_272)
    refine Go.step (T' := T29) (f' := (mkF m 275 #[.val (.int p1)] [(.ref (A 27))])) st29 ?_
    refine goA X29 hx Bd.returns rfl rfl Bd.notSynchronized (hb hby d1_275) ?_ (by decide) (by decide)
    show Q_rm1 Z p1 A h0 n0 _ T29.heap _
    rw [e29]
    exact ⟨by rw [hs1]; rfl, N0, rfl⟩
  · refine Go.step (T' := s₁) (f' := (mkF m 276 #[.val (.int p1)] [])) (fun _ k => XS.tswIn (i := p1) X0.here hx rfl (pc0 := 1) (pc' := 276) rfl (hb hby d1_1) rfl (by rw [hs1]; decide) (o := 275) (by rw [hs1]; rfl) (by decide) (by decide) k) ?_
    obtain ⟨T30, X30, e30, st30⟩ := getS2 X0 hx hZ hown (host := "") (Or.inl (hw _ (List.mem_of_getElem? (i := 58) rfl))) Via.refl e0 (S_PRINTER_OPERATORS.ext O0.2) (g := (mkF m 276 #[.val (.int p1)] [])) rfl (hb hby d1_276)
    refine Go.step (T' := T30) (f' := (mkF m 279 #[.val (.int p1)] [(.ref (A 28))])) st30 ?_
    refine goA X30 hx Bd.returns rfl rfl Bd.notSynchronized (hb hby d1_279) ?_ (by decide) (by decide)
    show Q_rm1 Z p1 A h0 n0 _ T30.heap _
    rw [e30]
    exact ⟨by rw [hs1]; rfl, N0, rfl⟩
  · refine Go.step (T' := s₁) (f' := (mkF m 280 #[.val (.int p1)] [])) (fun _ k => XS.tswIn (i := p1) X0.here hx rfl (pc0 := 1) (pc' := 280) rfl (hb hby d1_1) rfl (by rw [hs1]; decide) (o := 279) (by rw [hs1]; rfl) (by decide) (by decide) k) ?_
    obtain ⟨T31, X31, e31, st31⟩ := getS2 X0 hx hZ hown (host := "") (Or.inl (hw _ (List.mem_of_getElem? (i := 86) rfl))) Via.refl e0 (S_PERSONAL_SELF.ext O0.2) (g := (mkF m 280 #[.val (.int p1)] [])) rfl (hb hby d1_280)
    refine Go.step (T' := T31) (f' := (mkF m 283 #[.val (.int p1)] [(.ref (A 29))])) st31 ?_
    refine goA X31 hx Bd.returns rfl rfl Bd.notSynchronized (hb hby d1_283) ?_ (by decide) (by decide)
    show Q_rm1 Z p1 A h0 n0 _ T31.heap _
    rw [e31]
    exact ⟨by rw [hs1]; rfl, N0, rfl⟩
  · refine Go.step (T' := s₁) (f' := (mkF m 284 #[.val (.int p1)] [])) (fun _ k => XS.tswIn (i := p1) X0.here hx rfl (pc0 := 1) (pc' := 284) rfl (hb hby d1_1) rfl (by rw [hs1]; decide) (o := 283) (by rw [hs1]; rfl) (by decide) (by decide) k) ?_
    obtain ⟨T32, X32, e32, st32⟩ := getS2 X0 hx hZ hown (host := "") (Or.inl (hw _ (List.mem_of_getElem? (i := 60) rfl))) Via.refl e0 (S_POWER_USERS.ext O0.2) (g := (mkF m 284 #[.val (.int p1)] [])) rfl (hb hby d1_284)
    refine Go.step (T' := T32) (f' := (mkF m 287 #[.val (.int p1)] [(.ref (A 30))])) st32 ?_
    refine goA X32 hx Bd.returns rfl rfl Bd.notSynchronized (hb hby d1_287) ?_ (by decide) (by decide)
    show Q_rm1 Z p1 A h0 n0 _ T32.heap _
    rw [e32]
    exact ⟨by rw [hs1]; rfl, N0, rfl⟩
  · refine Go.step (T' := s₁) (f' := (mkF m 288 #[.val (.int p1)] [])) (fun _ k => XS.tswIn (i := p1) X0.here hx rfl (pc0 := 1) (pc' := 288) rfl (hb hby d1_1) rfl (by rw [hs1]; decide) (o := 287) (by rw [hs1]; rfl) (by decide) (by decide) k) ?_
    obtain ⟨T33, X33, e33, st33⟩ := getS2 X0 hx hZ hown (host := "") (Or.inl (hw _ (List.mem_of_getElem? (i := 84) rfl))) Via.refl e0 (S_RAS_SERVERS.ext O0.2) (g := (mkF m 288 #[.val (.int p1)] [])) rfl (hb hby d1_288)
    refine Go.step (T' := T33) (f' := (mkF m 291 #[.val (.int p1)] [(.ref (A 31))])) st33 ?_
    refine goA X33 hx Bd.returns rfl rfl Bd.notSynchronized (hb hby d1_291) ?_ (by decide) (by decide)
    show Q_rm1 Z p1 A h0 n0 _ T33.heap _
    rw [e33]
    exact ⟨by rw [hs1]; rfl, N0, rfl⟩
  · refine Go.step (T' := s₁) (f' := (mkF m 292 #[.val (.int p1)] [])) (fun _ k => XS.tswIn (i := p1) X0.here hx rfl (pc0 := 1) (pc' := 292) rfl (hb hby d1_1) rfl (by rw [hs1]; decide) (o := 291) (by rw [hs1]; rfl) (by decide) (by decide) k) ?_
    obtain ⟨T34, X34, e34, st34⟩ := getS2 X0 hx hZ hown (host := "") (Or.inl (hw _ (List.mem_of_getElem? (i := 80) rfl))) Via.refl e0 (S_REMOTE_DESKTOP.ext O0.2) (g := (mkF m 292 #[.val (.int p1)] [])) rfl (hb hby d1_292)
    refine Go.step (T' := T34) (f' := (mkF m 295 #[.val (.int p1)] [(.ref (A 32))])) st34 ?_
    refine goA X34 hx Bd.returns rfl rfl Bd.notSynchronized (hb hby d1_295) ?_ (by decide) (by decide)
    show Q_rm1 Z p1 A h0 n0 _ T34.heap _
    rw [e34]
    exact ⟨by rw [hs1]; rfl, N0, rfl⟩
  · refine Go.step (T' := s₁) (f' := (mkF m 296 #[.val (.int p1)] [])) (fun _ k => XS.tswIn (i := p1) X0.here hx rfl (pc0 := 1) (pc' := 296) rfl (hb hby d1_1) rfl (by rw [hs1]; decide) (o := 295) (by rw [hs1]; rfl) (by decide) (by decide) k) ?_
    obtain ⟨T35, X35, e35, st35⟩ := getS2 X0 hx hZ hown (host := "") (Or.inl (hw _ (List.mem_of_getElem? (i := 78) rfl))) Via.refl e0 (S_REPLICATOR.ext O0.2) (g := (mkF m 296 #[.val (.int p1)] [])) rfl (hb hby d1_296)
    refine Go.step (T' := T35) (f' := (mkF m 299 #[.val (.int p1)] [(.ref (A 33))])) st35 ?_
    refine goA X35 hx Bd.returns rfl rfl Bd.notSynchronized (hb hby d1_299) ?_ (by decide) (by decide)
    show Q_rm1 Z p1 A h0 n0 _ T35.heap _
    rw [e35]
    exact ⟨by rw [hs1]; rfl, N0, rfl⟩
  · refine Go.step (T' := s₁) (f' := (mkF m 300 #[.val (.int p1)] [])) (fun _ k => XS.tswIn (i := p1) X0.here hx rfl (pc0 := 1) (pc' := 300) rfl (hb hby d1_1) rfl (by rw [hs1]; decide) (o := 299) (by rw [hs1]; rfl) (by decide) (by decide) k) ?_
    obtain ⟨T36, X36, e36, st36⟩ := getS2 X0 hx hZ hown (host := "") (Or.inl (hw _ (List.mem_of_getElem? (i := 20) rfl))) Via.refl e0 (S_RESTRICTED_CODE.ext O0.2) (g := (mkF m 300 #[.val (.int p1)] [])) rfl (hb hby d1_300)
    refine Go.step (T' := T36) (f' := (mkF m 303 #[.val (.int p1)] [(.ref (A 34))])) st36 ?_
    refine goA X36 hx Bd.returns rfl rfl Bd.notSynchronized (hb hby d1_303) ?_ (by decide) (by decide)
    show Q_rm1 Z p1 A h0 n0 _ T36.heap _
    rw [e36]
    exact ⟨by rw [hs1]; rfl, N0, rfl⟩
  · refine Go.step (T' := s₁) (f' := (mkF m 304 #[.val (.int p1)] [])) (fun _ k => XS.tswIn (i := p1) X0.here hx rfl (pc0 := 1) (pc' := 304) rfl (hb hby d1_1) rfl (by rw [hs1]; decide) (o := 303) (by rw [hs1]; rfl) (by decide) (by decide) k) ?_
    obtain ⟨T37, X37, e37, st37⟩ := getS2 X0 hx hZ hown (host := "") (Or.inl (hw _ (List.mem_of_getElem? (i := 88) rfl))) Via.refl e0 (S_SCHEMA_ADMINISTRATORS.ext O0.2) (g := (mkF m 304 #[.val (.int p1)] [])) rfl (hb hby d1_304)
    refine Go.step (T' := T37) (f' := (mkF m 307 #[.val (.int p1)] [(.ref (A 35))])) st37 ?_
    refine goA X37 hx Bd.returns rfl rfl Bd.notSynchronized (hb hby d1_307) ?_ (by decide) (by decide)
    show Q_rm1 Z p1 A h0 n0 _ T37.heap _
    rw [e37]
    exact ⟨by rw [hs1]; rfl, N0, rfl⟩
  · refine Go.step (T' := s₁) (f' := (mkF m 308 #[.val (.int p1)] [])) (fun _ k => XS.tswIn (i := p1) X0.here hx rfl (pc0 := 1) (pc' := 308) rfl (hb hby d1_1) rfl (by rw [hs1]; decide) (o := 307) (by rw [hs1]; rfl) (by decide) (by decide) k) ?_
    obtain ⟨T38, X38, e38, st38⟩ := getS2 X0 hx hZ hown (host := "") (Or.inl (hw _ (List.mem_of_getElem? (i := 24) rfl))) Via.refl e0 (S_SERVER_OPERATORS.ext O0.2) (g := (mkF m 308 #[.val (.int p1)] [])) rfl (hb hby d1_308)
    refine Go.step (T' := T38) (f' := (mkF m 311 #[.val (.int p1)] [(.ref (A 36))])) st38 ?_
    refine goA X38 hx Bd.returns rfl rfl Bd.notSynchronized (hb hby d1_311) ?_ (by decide) (by decide)
    show Q_rm1 Z p1 A h0 n0 _ T38.heap _
    rw [e38]
    exact ⟨by rw [hs1]; rfl, N0, rfl⟩
  · refine Go.step (T' := s₁) (f' := (mkF m 312 #[.val (.int p1)] [])) (fun _ k => XS.tswOut (i := p1) X0.here hx rfl (pc0 := 1) (pc' := 312) rfl (hb hby d1_1) rfl (by rw [hs1]; decide) (by decide) (by decide) k) ?_
    obtain ⟨T39, X39, e39, st39⟩ := getS2 X0 hx hZ hown (host := "") (Or.inl (hw _ (List.mem_of_getElem? (i := 90) rfl))) Via.refl e0 (S_SERVICE.ext O0.2) (g := (mkF m 312 #[.val (.int p1)] [])) rfl (hb hby d1_312)
    refine Go.step (T' := T39) (f' := (mkF m 315 #[.val (.int p1)] [(.ref (A 37))])) st39 ?_
    refine goA X39 hx Bd.returns rfl rfl Bd.notSynchronized (hb hby d1_315) ?_ (by decide) (by decide)
    show Q_rm1 Z p1 A h0 n0 _ T39.heap _
    rw [e39]
    exact ⟨by rw [hs1]; rfl, N0, rfl⟩
theorem d2_0 : decode prog_3_method_9_code 0 = .ok (.aload_n 0, 1) := by decide +kernel
theorem d2_1 : decode prog_3_method_9_code 1 = .ok (.getfield 147, 3) := by decide +kernel
theorem d2_4 : decode prog_3_method_9_code 4 = .ok (.ifnonnull 7, 3) := by decide +kernel
theorem d2_7 : decode prog_3_method_9_code 7 = .ok (.iconst 1, 1) := by decide +kernel
theorem d2_8 : decode prog_3_method_9_code 8 = .ok (.goto 4, 3) := by decide +kernel
theorem d2_12 : decode prog_3_method_9_code 12 = .ok (.ireturn, 1) := by decide +kernel
theorem d2_11 : decode prog_3_method_9_code 11 = .ok (.iconst 0, 1) := by decide +kernel
theorem pn_2 : plainName "com/example/strict_sid/strictsid/known/WellKnownSid" = true := by first | (simp [plainName, overriddenIn]; done) | decide +kernel
theorem ef_rm2 (m : MethodId) (a1 : Addr) : entryFrame m #[(.ref a1)] 1 = mkF m 0 #[.val (.ref a1)] [] := by first | (simp [entryFrame, mkF, argsToLocals, Value.category]; done) | rfl
def Q_rm2 (Z : State) (a1 : Addr) (v : Value) (h0 : Heap) (n0 : Nat) (rv : Option Value) (hq : Heap) (Lq : List Loc) : Prop := rv = some (.int (own_nul v)) ∧ Fr n0 Lq ∧ hq = h0
set_option maxRecDepth 65536 in
set_option maxHeartbeats 40000000 in
theorem rm2 (l : Launch) (Z : State) (a0 : Array Value) (hw : ∀ d ∈ tables_1, d.before a0 Z = true) (ws : List Jvm.Cond) (a1 : Addr) (v : Value) (h0 : Heap) (n0 : Nat) (Z0 : n0 ≤ h0.size) (F_fixedSid_a1 : Fld Z h0 a1 "com/example/strict_sid/strictsid/known/WellKnownSid" "fixedSid" "Lcom/example/strict_sid/strictsid/Sid;" v) (hv : v.isRef = true) :
    MetFree l (⟨"com/example/strict_sid/strictsid/known/WellKnownSid", "isDomainRelative", "()Z"⟩ : MethodName) (head1 (Jvm.Cond.code (⟨"com/example/strict_sid/strictsid/known/WellKnownSid", "isDomainRelative", "()Z"⟩ : MethodName) prog_3_method_9_code 1 (some .boolean) :: ws) ({ frames := 0, cells := 0, slots := 0, locals := 0 } : Room)) (fun a U => a = #[(.ref a1)] ∧ Z.Warmed39 U.vm ∧ U.heap = h0) (fun _ _ _ _ _ => True) (fun _ U o U' => ∃ rv Lq, o = .returned rv ∧ Q_rm2 Z a1 v h0 n0 rv U'.heap Lq ∧ FrameEnd U o U' Lq ({ frames := 0, cells := 0, slots := 0, locals := 0 } : Room).cells ({ frames := 0, cells := 0, slots := 0, locals := 0 } : Room).slots) := by
  refine MetFree.of_bodySF (plainFor_of_name pn_2) hisR ?_
  intro p e s m args below meth c s₁ Bd hml0 hP hK
  obtain ⟨rfl, hZ, hh⟩ := hP
  have hx := Bd.exec
  have hby := Bd.bytes
  have hml : c.maxLocals = 1 := hml0
  have hown : s.vm.findClass "com/example/strict_sid/strictsid/known/WellKnownSid" = some m.cls := findClass_of_methodNamed Bd.named
  have hnm := (name_of_methodNamed Bd.named Bd.method).1
  have X0 : Stand p l e ({ frames := 0, cells := 0, slots := 0, locals := 0 } : Room) s m #[(.ref a1)] below meth c s₁ [] 0 0 := Stand.of_body Bd
  have e0 : s₁.heap = h0 := by rw [← hh, Bd.state]; rfl
  have N0 := Fr.nil n0
  refine of_go (ef_rm2 m a1) ?_
  refine Go.step (T' := s₁) (f' := (mkF m 1 #[.val (.ref a1)] [(.ref a1)])) (fun _ k => XS.aloadN X0.here hx rfl (hb hby d2_0) rfl rfl k) ?_
  obtain ⟨T1, X1, e1, st1⟩ := getF X0 hx hZ hown (host := "") (Or.inl (hw _ (List.mem_of_getElem? (i := 13) rfl))) Via.refl e0 F_fixedSid_a1 (g := (mkF m 1 #[.val (.ref a1)] [(.ref a1)])) rfl rfl (hb hby d2_1)
  refine Go.step (T' := T1) (f' := (mkF m 4 #[.val (.ref a1)] [v])) st1 ?_
  by_cases hn4 : (v : Value) = .null
  · refine Go.step (T' := T1) (f' := (mkF m 7 #[.val (.ref a1)] [])) (fun _ k => XT.nonnullNo X1.here hx rfl (hb hby d2_4) rfl hn4 k) ?_
    refine Go.step (T' := T1) (f' := (mkF m 8 #[.val (.ref a1)] [(.int (1 : Int32))])) (fun _ k => XS.iconst X1.here hx rfl (hb hby d2_7) k) ?_
    refine Go.step (T' := T1) (f' := (mkF m 12 #[.val (.ref a1)] [(.int (1 : Int32))])) (fun _ k => XS.goto X1.here hx rfl (pc0 := 8) (pc' := 12) rfl (hb hby d2_8) (by decide) (by decide) k) ?_
    refine goN X1 hx (t := .boolean) Bd.returns (by simp) Bd.notSynchronized (hb hby d2_12) ?_ (by decide) (by decide)
    show Q_rm2 Z a1 v h0 n0 _ T1.heap _
    rw [e1]
    exact ⟨by rw [hn4]; rfl, N0, rfl⟩
  · refine Go.step (T' := T1) (f' := (mkF m 11 #[.val (.ref a1)] [])) (fun _ k => XT.nonnullYes X1.here hx rfl (pc0 := 4) (pc' := 11) rfl (hb hby d2_4) rfl hv hn4 (by decide) (by decide) k) ?_
    refine Go.step (T' := T1) (f' := (mkF m 12 #[.val (.ref a1)] [(.int (0 : Int32))])) (fun _ k => XS.iconst X1.here hx rfl (hb hby d2_11) k) ?_
    refine goN X1 hx (t := .boolean) Bd.returns (by simp) Bd.notSynchronized (hb hby d2_12) ?_ (by decide) (by decide)
    show Q_rm2 Z a1 v h0 n0 _ T1.heap _
    rw [e1]
    exact ⟨by rw [own_nul0 hn4]; rfl, N0, rfl⟩
theorem d3_0 : decode method_3_code 0 = .ok (.iload_n 0, 1) := by decide +kernel
theorem d3_1 : decode method_3_code 1 = .ok (.bipush 8, 2) := by decide +kernel
theorem d3_3 : decode method_3_code 3 = .ok (.if_icmp .eq 69, 3) := by decide +kernel
theorem d3_72 : decode method_3_code 72 = .ok (.iconst 1, 1) := by decide +kernel
theorem d3_73 : decode method_3_code 73 = .ok (.goto 4, 3) := by decide +kernel
theorem d3_77 : decode method_3_code 77 = .ok (.ireturn, 1) := by decide +kernel
theorem d3_6 : decode method_3_code 6 = .ok (.iload_n 0, 1) := by decide +kernel
theorem d3_7 : decode method_3_code 7 = .ok (.bipush 11, 2) := by decide +kernel
theorem d3_9 : decode method_3_code 9 = .ok (.if_icmp .eq 63, 3) := by decide +kernel
theorem d3_12 : decode method_3_code 12 = .ok (.iload_n 0, 1) := by decide +kernel
theorem d3_13 : decode method_3_code 13 = .ok (.bipush 12, 2) := by decide +kernel
theorem d3_15 : decode method_3_code 15 = .ok (.if_icmp .eq 57, 3) := by decide +kernel
theorem d3_18 : decode method_3_code 18 = .ok (.iload_n 0, 1) := by decide +kernel
theorem d3_19 : decode method_3_code 19 = .ok (.bipush 13, 2) := by decide +kernel
theorem d3_21 : decode method_3_code 21 = .ok (.if_icmp .eq 51, 3) := by decide +kernel
theorem d3_24 : decode method_3_code 24 = .ok (.iload_n 0, 1) := by decide +kernel
theorem d3_25 : decode method_3_code 25 = .ok (.bipush 14, 2) := by decide +kernel
theorem d3_27 : decode method_3_code 27 = .ok (.if_icmp .eq 45, 3) := by decide +kernel
theorem d3_30 : decode method_3_code 30 = .ok (.iload_n 0, 1) := by decide +kernel
theorem d3_31 : decode method_3_code 31 = .ok (.bipush 15, 2) := by decide +kernel
theorem d3_33 : decode method_3_code 33 = .ok (.if_icmp .eq 39, 3) := by decide +kernel
theorem d3_36 : decode method_3_code 36 = .ok (.iload_n 0, 1) := by decide +kernel
theorem d3_37 : decode method_3_code 37 = .ok (.bipush 16, 2) := by decide +kernel
theorem d3_39 : decode method_3_code 39 = .ok (.if_icmp .eq 33, 3) := by decide +kernel
theorem d3_42 : decode method_3_code 42 = .ok (.iload_n 0, 1) := by decide +kernel
theorem d3_43 : decode method_3_code 43 = .ok (.bipush 19, 2) := by decide +kernel
theorem d3_45 : decode method_3_code 45 = .ok (.if_icmp .eq 27, 3) := by decide +kernel
theorem d3_48 : decode method_3_code 48 = .ok (.iload_n 0, 1) := by decide +kernel
theorem d3_49 : decode method_3_code 49 = .ok (.bipush 21, 2) := by decide +kernel
theorem d3_51 : decode method_3_code 51 = .ok (.if_icmp .eq 21, 3) := by decide +kernel
theorem d3_54 : decode method_3_code 54 = .ok (.iload_n 0, 1) := by decide +kernel
theorem d3_55 : decode method_3_code 55 = .ok (.bipush 22, 2) := by decide +kernel
theorem d3_57 : decode method_3_code 57 = .ok (.if_icmp .eq 15, 3) := by decide +kernel
theorem d3_60 : decode method_3_code 60 = .ok (.iload_n 0, 1) := by decide +kernel
theorem d3_61 : decode method_3_code 61 = .ok (.bipush 31, 2) := by decide +kernel
theorem d3_63 : decode method_3_code 63 = .ok (.if_icmp .eq 9, 3) := by decide +kernel
theorem d3_66 : decode method_3_code 66 = .ok (.iload_n 0, 1) := by decide +kernel
theorem d3_67 : decode method_3_code 67 = .ok (.bipush 35, 2) := by decide +kernel
theorem d3_69 : decode method_3_code 69 = .ok (.if_icmp .ne 7, 3) := by decide +kernel
theorem d3_76 : decode method_3_code 76 = .ok (.iconst 0, 1) := by decide +kernel
theorem ef_rm3 (m : MethodId) (p1 : Int32) : entryFrame m #[(.int p1)] 1 = mkF m 0 #[.val (.int p1)] [] := by first | (simp [entryFrame, mkF, argsToLocals, Value.category]; done) | rfl
def Q_rm3 (Z : State) (p1 : Int32) (h0 : Heap) (n0 : Nat) (rv : Option Value) (hq : Heap) (Lq : List Loc) : Prop := rv = some (.int (own_exp p1)) ∧ Fr n0 Lq ∧ hq = h0
set_option maxRecDepth 65536 in
set_option maxHeartbeats 40000000 in
theorem rm3 (l : Launch) (Z : State) (a0 : Array Value) (hw : ∀ d ∈ tables_1, d.before a0 Z = true) (ws : List Jvm.Cond) (p1 : Int32) (h0 : Heap) (n0 : Nat) (Z0 : n0 ≤ h0.size) :
    MetFree l (⟨"com/example/strict_sid/strictsid/known/WellKnownSidIsDomainRelativePinLaw", "expected", "(I)Z"⟩ : MethodName) (head1 (Jvm.Cond.code (⟨"com/example/strict_sid/strictsid/known/WellKnownSidIsDomainRelativePinLaw", "expected", "(I)Z"⟩ : MethodName) method_3_code 1 (some .boolean) :: ws) ({ frames := 0, cells := 0, slots := 0, locals := 0 } : Room)) (fun a U => a = #[(.int p1)] ∧ Z.Warmed39 U.vm ∧ U.heap = h0) (fun _ _ _ _ _ => True) (fun _ U o U' => ∃ rv Lq, o = .returned rv ∧ Q_rm3 Z p1 h0 n0 rv U'.heap Lq ∧ FrameEnd U o U' Lq ({ frames := 0, cells := 0, slots := 0, locals := 0 } : Room).cells ({ frames := 0, cells := 0, slots := 0, locals := 0 } : Room).slots) := by
  refine MetFree.of_bodySF (plainFor_of_name pn_1) hisR ?_
  intro p e s m args below meth c s₁ Bd hml0 hP hK
  obtain ⟨rfl, hZ, hh⟩ := hP
  have hx := Bd.exec
  have hby := Bd.bytes
  have hml : c.maxLocals = 1 := hml0
  have hown : s.vm.findClass "com/example/strict_sid/strictsid/known/WellKnownSidIsDomainRelativePinLaw" = some m.cls := findClass_of_methodNamed Bd.named
  have hnm := (name_of_methodNamed Bd.named Bd.method).1
  have X0 : Stand p l e ({ frames := 0, cells := 0, slots := 0, locals := 0 } : Room) s m #[(.int p1)] below meth c s₁ [] 0 0 := Stand.of_body Bd
  have e0 : s₁.heap = h0 := by rw [← hh, Bd.state]; rfl
  have N0 := Fr.nil n0
  refine of_go (ef_rm3 m p1) ?_
  refine Go.step (T' := s₁) (f' := (mkF m 1 #[.val (.int p1)] [(.int p1)])) (fun _ k => XS.iloadN X0.here hx rfl (hb hby d3_0) rfl k) ?_
  refine Go.step (T' := s₁) (f' := (mkF m 3 #[.val (.int p1)] [(.int (8 : Int32)), (.int p1)])) (fun _ k => XS.bipush X0.here hx rfl (hb hby d3_1) k) ?_
  by_cases hc3 : p1 = (8 : Int32)
  · refine Go.step (T' := s₁) (f' := (mkF m 72 #[.val (.int p1)] [])) (fun _ k => XS.icmpYes X0.here hx rfl (pc0 := 3) (pc' := 72) rfl (hb hby d3_3) rfl (teq hc3).1 (by decide) (by decide) k) ?_
    refine Go.step (T' := s₁) (f' := (mkF m 73 #[.val (.int p1)] [(.int (1 : Int32))])) (fun _ k => XS.iconst X0.here hx rfl (hb hby d3_72) k) ?_
    refine Go.step (T' := s₁) (f' := (mkF m 77 #[.val (.int p1)] [(.int (1 : Int32))])) (fun _ k => XS.goto X0.here hx rfl (pc0 := 73) (pc' := 77) rfl (hb hby d3_73) (by decide) (by decide) k) ?_
    refine goN X0 hx (t := .boolean) Bd.returns (by simp) Bd.notSynchronized (hb hby d3_77) ?_ (by decide) (by decide)
    show Q_rm3 Z p1 h0 n0 _ s₁.heap _
    rw [e0]
    exact ⟨by rw [own_exp1 (by simp only [Int32.lt_iff_toInt_lt, ← Int32.toInt_inj, Int32.reduceToInt] at hc3 <;> omega)]; rfl, N0, rfl⟩
  · refine Go.step (T' := s₁) (f' := (mkF m 6 #[.val (.int p1)] [])) (fun _ k => XS.icmpNo X0.here hx rfl (hb hby d3_3) rfl (feq hc3).1 k) ?_
    refine Go.step (T' := s₁) (f' := (mkF m 7 #[.val (.int p1)] [(.int p1)])) (fun _ k => XS.iloadN X0.here hx rfl (hb hby d3_6) rfl k) ?_
    refine Go.step (T' := s₁) (f' := (mkF m 9 #[.val (.int p1)] [(.int (11 : Int32)), (.int p1)])) (fun _ k => XS.bipush X0.here hx rfl (hb hby d3_7) k) ?_
    by_cases hc9 : p1 = (11 : Int32)
    · refine Go.step (T' := s₁) (f' := (mkF m 72 #[.val (.int p1)] [])) (fun _ k => XS.icmpYes X0.here hx rfl (pc0 := 9) (pc' := 72) rfl (hb hby d3_9) rfl (teq hc9).1 (by decide) (by decide) k) ?_
      refine Go.step (T' := s₁) (f' := (mkF m 73 #[.val (.int p1)] [(.int (1 : Int32))])) (fun _ k => XS.iconst X0.here hx rfl (hb hby d3_72) k) ?_
      refine Go.step (T' := s₁) (f' := (mkF m 77 #[.val (.int p1)] [(.int (1 : Int32))])) (fun _ k => XS.goto X0.here hx rfl (pc0 := 73) (pc' := 77) rfl (hb hby d3_73) (by decide) (by decide) k) ?_
      refine goN X0 hx (t := .boolean) Bd.returns (by simp) Bd.notSynchronized (hb hby d3_77) ?_ (by decide) (by decide)
      show Q_rm3 Z p1 h0 n0 _ s₁.heap _
      rw [e0]
      exact ⟨by rw [own_exp1 (by simp only [Int32.lt_iff_toInt_lt, ← Int32.toInt_inj, Int32.reduceToInt] at hc3 hc9 <;> omega)]; rfl, N0, rfl⟩
    · refine Go.step (T' := s₁) (f' := (mkF m 12 #[.val (.int p1)] [])) (fun _ k => XS.icmpNo X0.here hx rfl (hb hby d3_9) rfl (feq hc9).1 k) ?_
      refine Go.step (T' := s₁) (f' := (mkF m 13 #[.val (.int p1)] [(.int p1)])) (fun _ k => XS.iloadN X0.here hx rfl (hb hby d3_12) rfl k) ?_
      refine Go.step (T' := s₁) (f' := (mkF m 15 #[.val (.int p1)] [(.int (12 : Int32)), (.int p1)])) (fun _ k => XS.bipush X0.here hx rfl (hb hby d3_13) k) ?_
      by_cases hc15 : p1 = (12 : Int32)
      · refine Go.step (T' := s₁) (f' := (mkF m 72 #[.val (.int p1)] [])) (fun _ k => XS.icmpYes X0.here hx rfl (pc0 := 15) (pc' := 72) rfl (hb hby d3_15) rfl (teq hc15).1 (by decide) (by decide) k) ?_
        refine Go.step (T' := s₁) (f' := (mkF m 73 #[.val (.int p1)] [(.int (1 : Int32))])) (fun _ k => XS.iconst X0.here hx rfl (hb hby d3_72) k) ?_
        refine Go.step (T' := s₁) (f' := (mkF m 77 #[.val (.int p1)] [(.int (1 : Int32))])) (fun _ k => XS.goto X0.here hx rfl (pc0 := 73) (pc' := 77) rfl (hb hby d3_73) (by decide) (by decide) k) ?_
        refine goN X0 hx (t := .boolean) Bd.returns (by simp) Bd.notSynchronized (hb hby d3_77) ?_ (by decide) (by decide)
        show Q_rm3 Z p1 h0 n0 _ s₁.heap _
        rw [e0]
        exact ⟨by rw [own_exp1 (by simp only [Int32.lt_iff_toInt_lt, ← Int32.toInt_inj, Int32.reduceToInt] at hc3 hc9 hc15 <;> omega)]; rfl, N0, rfl⟩
      · refine Go.step (T' := s₁) (f' := (mkF m 18 #[.val (.int p1)] [])) (fun _ k => XS.icmpNo X0.here hx rfl (hb hby d3_15) rfl (feq hc15).1 k) ?_
        refine Go.step (T' := s₁) (f' := (mkF m 19 #[.val (.int p1)] [(.int p1)])) (fun _ k => XS.iloadN X0.here hx rfl (hb hby d3_18) rfl k) ?_
        refine Go.step (T' := s₁) (f' := (mkF m 21 #[.val (.int p1)] [(.int (13 : Int32)), (.int p1)])) (fun _ k => XS.bipush X0.here hx rfl (hb hby d3_19) k) ?_
        by_cases hc21 : p1 = (13 : Int32)
        · refine Go.step (T' := s₁) (f' := (mkF m 72 #[.val (.int p1)] [])) (fun _ k => XS.icmpYes X0.here hx rfl (pc0 := 21) (pc' := 72) rfl (hb hby d3_21) rfl (teq hc21).1 (by decide) (by decide) k) ?_
          refine Go.step (T' := s₁) (f' := (mkF m 73 #[.val (.int p1)] [(.int (1 : Int32))])) (fun _ k => XS.iconst X0.here hx rfl (hb hby d3_72) k) ?_
          refine Go.step (T' := s₁) (f' := (mkF m 77 #[.val (.int p1)] [(.int (1 : Int32))])) (fun _ k => XS.goto X0.here hx rfl (pc0 := 73) (pc' := 77) rfl (hb hby d3_73) (by decide) (by decide) k) ?_
          refine goN X0 hx (t := .boolean) Bd.returns (by simp) Bd.notSynchronized (hb hby d3_77) ?_ (by decide) (by decide)
          show Q_rm3 Z p1 h0 n0 _ s₁.heap _
          rw [e0]
          exact ⟨by rw [own_exp1 (by simp only [Int32.lt_iff_toInt_lt, ← Int32.toInt_inj, Int32.reduceToInt] at hc3 hc9 hc15 hc21 <;> omega)]; rfl, N0, rfl⟩
        · refine Go.step (T' := s₁) (f' := (mkF m 24 #[.val (.int p1)] [])) (fun _ k => XS.icmpNo X0.here hx rfl (hb hby d3_21) rfl (feq hc21).1 k) ?_
          refine Go.step (T' := s₁) (f' := (mkF m 25 #[.val (.int p1)] [(.int p1)])) (fun _ k => XS.iloadN X0.here hx rfl (hb hby d3_24) rfl k) ?_
          refine Go.step (T' := s₁) (f' := (mkF m 27 #[.val (.int p1)] [(.int (14 : Int32)), (.int p1)])) (fun _ k => XS.bipush X0.here hx rfl (hb hby d3_25) k) ?_
          by_cases hc27 : p1 = (14 : Int32)
          · refine Go.step (T' := s₁) (f' := (mkF m 72 #[.val (.int p1)] [])) (fun _ k => XS.icmpYes X0.here hx rfl (pc0 := 27) (pc' := 72) rfl (hb hby d3_27) rfl (teq hc27).1 (by decide) (by decide) k) ?_
            refine Go.step (T' := s₁) (f' := (mkF m 73 #[.val (.int p1)] [(.int (1 : Int32))])) (fun _ k => XS.iconst X0.here hx rfl (hb hby d3_72) k) ?_
            refine Go.step (T' := s₁) (f' := (mkF m 77 #[.val (.int p1)] [(.int (1 : Int32))])) (fun _ k => XS.goto X0.here hx rfl (pc0 := 73) (pc' := 77) rfl (hb hby d3_73) (by decide) (by decide) k) ?_
            refine goN X0 hx (t := .boolean) Bd.returns (by simp) Bd.notSynchronized (hb hby d3_77) ?_ (by decide) (by decide)
            show Q_rm3 Z p1 h0 n0 _ s₁.heap _
            rw [e0]
            exact ⟨by rw [own_exp1 (by simp only [Int32.lt_iff_toInt_lt, ← Int32.toInt_inj, Int32.reduceToInt] at hc3 hc9 hc15 hc21 hc27 <;> omega)]; rfl, N0, rfl⟩
          · refine Go.step (T' := s₁) (f' := (mkF m 30 #[.val (.int p1)] [])) (fun _ k => XS.icmpNo X0.here hx rfl (hb hby d3_27) rfl (feq hc27).1 k) ?_
            refine Go.step (T' := s₁) (f' := (mkF m 31 #[.val (.int p1)] [(.int p1)])) (fun _ k => XS.iloadN X0.here hx rfl (hb hby d3_30) rfl k) ?_
            refine Go.step (T' := s₁) (f' := (mkF m 33 #[.val (.int p1)] [(.int (15 : Int32)), (.int p1)])) (fun _ k => XS.bipush X0.here hx rfl (hb hby d3_31) k) ?_
            by_cases hc33 : p1 = (15 : Int32)
            · refine Go.step (T' := s₁) (f' := (mkF m 72 #[.val (.int p1)] [])) (fun _ k => XS.icmpYes X0.here hx rfl (pc0 := 33) (pc' := 72) rfl (hb hby d3_33) rfl (teq hc33).1 (by decide) (by decide) k) ?_
              refine Go.step (T' := s₁) (f' := (mkF m 73 #[.val (.int p1)] [(.int (1 : Int32))])) (fun _ k => XS.iconst X0.here hx rfl (hb hby d3_72) k) ?_
              refine Go.step (T' := s₁) (f' := (mkF m 77 #[.val (.int p1)] [(.int (1 : Int32))])) (fun _ k => XS.goto X0.here hx rfl (pc0 := 73) (pc' := 77) rfl (hb hby d3_73) (by decide) (by decide) k) ?_
              refine goN X0 hx (t := .boolean) Bd.returns (by simp) Bd.notSynchronized (hb hby d3_77) ?_ (by decide) (by decide)
              show Q_rm3 Z p1 h0 n0 _ s₁.heap _
              rw [e0]
              exact ⟨by rw [own_exp1 (by simp only [Int32.lt_iff_toInt_lt, ← Int32.toInt_inj, Int32.reduceToInt] at hc3 hc9 hc15 hc21 hc27 hc33 <;> omega)]; rfl, N0, rfl⟩
            · refine Go.step (T' := s₁) (f' := (mkF m 36 #[.val (.int p1)] [])) (fun _ k => XS.icmpNo X0.here hx rfl (hb hby d3_33) rfl (feq hc33).1 k) ?_
              refine Go.step (T' := s₁) (f' := (mkF m 37 #[.val (.int p1)] [(.int p1)])) (fun _ k => XS.iloadN X0.here hx rfl (hb hby d3_36) rfl k) ?_
              refine Go.step (T' := s₁) (f' := (mkF m 39 #[.val (.int p1)] [(.int (16 : Int32)), (.int p1)])) (fun _ k => XS.bipush X0.here hx rfl (hb hby d3_37) k) ?_
              by_cases hc39 : p1 = (16 : Int32)
              · refine Go.step (T' := s₁) (f' := (mkF m 72 #[.val (.int p1)] [])) (fun _ k => XS.icmpYes X0.here hx rfl (pc0 := 39) (pc' := 72) rfl (hb hby d3_39) rfl (teq hc39).1 (by decide) (by decide) k) ?_
                refine Go.step (T' := s₁) (f' := (mkF m 73 #[.val (.int p1)] [(.int (1 : Int32))])) (fun _ k => XS.iconst X0.here hx rfl (hb hby d3_72) k) ?_
                refine Go.step (T' := s₁) (f' := (mkF m 77 #[.val (.int p1)] [(.int (1 : Int32))])) (fun _ k => XS.goto X0.here hx rfl (pc0 := 73) (pc' := 77) rfl (hb hby d3_73) (by decide) (by decide) k) ?_
                refine goN X0 hx (t := .boolean) Bd.returns (by simp) Bd.notSynchronized (hb hby d3_77) ?_ (by decide) (by decide)
                show Q_rm3 Z p1 h0 n0 _ s₁.heap _
                rw [e0]
                exact ⟨by rw [own_exp1 (by simp only [Int32.lt_iff_toInt_lt, ← Int32.toInt_inj, Int32.reduceToInt] at hc3 hc9 hc15 hc21 hc27 hc33 hc39 <;> omega)]; rfl, N0, rfl⟩
              · refine Go.step (T' := s₁) (f' := (mkF m 42 #[.val (.int p1)] [])) (fun _ k => XS.icmpNo X0.here hx rfl (hb hby d3_39) rfl (feq hc39).1 k) ?_
                refine Go.step (T' := s₁) (f' := (mkF m 43 #[.val (.int p1)] [(.int p1)])) (fun _ k => XS.iloadN X0.here hx rfl (hb hby d3_42) rfl k) ?_
                refine Go.step (T' := s₁) (f' := (mkF m 45 #[.val (.int p1)] [(.int (19 : Int32)), (.int p1)])) (fun _ k => XS.bipush X0.here hx rfl (hb hby d3_43) k) ?_
                by_cases hc45 : p1 = (19 : Int32)
                · refine Go.step (T' := s₁) (f' := (mkF m 72 #[.val (.int p1)] [])) (fun _ k => XS.icmpYes X0.here hx rfl (pc0 := 45) (pc' := 72) rfl (hb hby d3_45) rfl (teq hc45).1 (by decide) (by decide) k) ?_
                  refine Go.step (T' := s₁) (f' := (mkF m 73 #[.val (.int p1)] [(.int (1 : Int32))])) (fun _ k => XS.iconst X0.here hx rfl (hb hby d3_72) k) ?_
                  refine Go.step (T' := s₁) (f' := (mkF m 77 #[.val (.int p1)] [(.int (1 : Int32))])) (fun _ k => XS.goto X0.here hx rfl (pc0 := 73) (pc' := 77) rfl (hb hby d3_73) (by decide) (by decide) k) ?_
                  refine goN X0 hx (t := .boolean) Bd.returns (by simp) Bd.notSynchronized (hb hby d3_77) ?_ (by decide) (by decide)
                  show Q_rm3 Z p1 h0 n0 _ s₁.heap _
                  rw [e0]
                  exact ⟨by rw [own_exp1 (by simp only [Int32.lt_iff_toInt_lt, ← Int32.toInt_inj, Int32.reduceToInt] at hc3 hc9 hc15 hc21 hc27 hc33 hc39 hc45 <;> omega)]; rfl, N0, rfl⟩
                · refine Go.step (T' := s₁) (f' := (mkF m 48 #[.val (.int p1)] [])) (fun _ k => XS.icmpNo X0.here hx rfl (hb hby d3_45) rfl (feq hc45).1 k) ?_
                  refine Go.step (T' := s₁) (f' := (mkF m 49 #[.val (.int p1)] [(.int p1)])) (fun _ k => XS.iloadN X0.here hx rfl (hb hby d3_48) rfl k) ?_
                  refine Go.step (T' := s₁) (f' := (mkF m 51 #[.val (.int p1)] [(.int (21 : Int32)), (.int p1)])) (fun _ k => XS.bipush X0.here hx rfl (hb hby d3_49) k) ?_
                  by_cases hc51 : p1 = (21 : Int32)
                  · refine Go.step (T' := s₁) (f' := (mkF m 72 #[.val (.int p1)] [])) (fun _ k => XS.icmpYes X0.here hx rfl (pc0 := 51) (pc' := 72) rfl (hb hby d3_51) rfl (teq hc51).1 (by decide) (by decide) k) ?_
                    refine Go.step (T' := s₁) (f' := (mkF m 73 #[.val (.int p1)] [(.int (1 : Int32))])) (fun _ k => XS.iconst X0.here hx rfl (hb hby d3_72) k) ?_
                    refine Go.step (T' := s₁) (f' := (mkF m 77 #[.val (.int p1)] [(.int (1 : Int32))])) (fun _ k => XS.goto X0.here hx rfl (pc0 := 73) (pc' := 77) rfl (hb hby d3_73) (by decide) (by decide) k) ?_
                    refine goN X0 hx (t := .boolean) Bd.returns (by simp) Bd.notSynchronized (hb hby d3_77) ?_ (by decide) (by decide)
                    show Q_rm3 Z p1 h0 n0 _ s₁.heap _
                    rw [e0]
                    exact ⟨by rw [own_exp1 (by simp only [Int32.lt_iff_toInt_lt, ← Int32.toInt_inj, Int32.reduceToInt] at hc3 hc9 hc15 hc21 hc27 hc33 hc39 hc45 hc51 <;> omega)]; rfl, N0, rfl⟩
                  · refine Go.step (T' := s₁) (f' := (mkF m 54 #[.val (.int p1)] [])) (fun _ k => XS.icmpNo X0.here hx rfl (hb hby d3_51) rfl (feq hc51).1 k) ?_
                    refine Go.step (T' := s₁) (f' := (mkF m 55 #[.val (.int p1)] [(.int p1)])) (fun _ k => XS.iloadN X0.here hx rfl (hb hby d3_54) rfl k) ?_
                    refine Go.step (T' := s₁) (f' := (mkF m 57 #[.val (.int p1)] [(.int (22 : Int32)), (.int p1)])) (fun _ k => XS.bipush X0.here hx rfl (hb hby d3_55) k) ?_
                    by_cases hc57 : p1 = (22 : Int32)
                    · refine Go.step (T' := s₁) (f' := (mkF m 72 #[.val (.int p1)] [])) (fun _ k => XS.icmpYes X0.here hx rfl (pc0 := 57) (pc' := 72) rfl (hb hby d3_57) rfl (teq hc57).1 (by decide) (by decide) k) ?_
                      refine Go.step (T' := s₁) (f' := (mkF m 73 #[.val (.int p1)] [(.int (1 : Int32))])) (fun _ k => XS.iconst X0.here hx rfl (hb hby d3_72) k) ?_
                      refine Go.step (T' := s₁) (f' := (mkF m 77 #[.val (.int p1)] [(.int (1 : Int32))])) (fun _ k => XS.goto X0.here hx rfl (pc0 := 73) (pc' := 77) rfl (hb hby d3_73) (by decide) (by decide) k) ?_
                      refine goN X0 hx (t := .boolean) Bd.returns (by simp) Bd.notSynchronized (hb hby d3_77) ?_ (by decide) (by decide)
                      show Q_rm3 Z p1 h0 n0 _ s₁.heap _
                      rw [e0]
                      exact ⟨by rw [own_exp1 (by simp only [Int32.lt_iff_toInt_lt, ← Int32.toInt_inj, Int32.reduceToInt] at hc3 hc9 hc15 hc21 hc27 hc33 hc39 hc45 hc51 hc57 <;> omega)]; rfl, N0, rfl⟩
                    · refine Go.step (T' := s₁) (f' := (mkF m 60 #[.val (.int p1)] [])) (fun _ k => XS.icmpNo X0.here hx rfl (hb hby d3_57) rfl (feq hc57).1 k) ?_
                      refine Go.step (T' := s₁) (f' := (mkF m 61 #[.val (.int p1)] [(.int p1)])) (fun _ k => XS.iloadN X0.here hx rfl (hb hby d3_60) rfl k) ?_
                      refine Go.step (T' := s₁) (f' := (mkF m 63 #[.val (.int p1)] [(.int (31 : Int32)), (.int p1)])) (fun _ k => XS.bipush X0.here hx rfl (hb hby d3_61) k) ?_
                      by_cases hc63 : p1 = (31 : Int32)
                      · refine Go.step (T' := s₁) (f' := (mkF m 72 #[.val (.int p1)] [])) (fun _ k => XS.icmpYes X0.here hx rfl (pc0 := 63) (pc' := 72) rfl (hb hby d3_63) rfl (teq hc63).1 (by decide) (by decide) k) ?_
                        refine Go.step (T' := s₁) (f' := (mkF m 73 #[.val (.int p1)] [(.int (1 : Int32))])) (fun _ k => XS.iconst X0.here hx rfl (hb hby d3_72) k) ?_
                        refine Go.step (T' := s₁) (f' := (mkF m 77 #[.val (.int p1)] [(.int (1 : Int32))])) (fun _ k => XS.goto X0.here hx rfl (pc0 := 73) (pc' := 77) rfl (hb hby d3_73) (by decide) (by decide) k) ?_
                        refine goN X0 hx (t := .boolean) Bd.returns (by simp) Bd.notSynchronized (hb hby d3_77) ?_ (by decide) (by decide)
                        show Q_rm3 Z p1 h0 n0 _ s₁.heap _
                        rw [e0]
                        exact ⟨by rw [own_exp1 (by simp only [Int32.lt_iff_toInt_lt, ← Int32.toInt_inj, Int32.reduceToInt] at hc3 hc9 hc15 hc21 hc27 hc33 hc39 hc45 hc51 hc57 hc63 <;> omega)]; rfl, N0, rfl⟩
                      · refine Go.step (T' := s₁) (f' := (mkF m 66 #[.val (.int p1)] [])) (fun _ k => XS.icmpNo X0.here hx rfl (hb hby d3_63) rfl (feq hc63).1 k) ?_
                        refine Go.step (T' := s₁) (f' := (mkF m 67 #[.val (.int p1)] [(.int p1)])) (fun _ k => XS.iloadN X0.here hx rfl (hb hby d3_66) rfl k) ?_
                        refine Go.step (T' := s₁) (f' := (mkF m 69 #[.val (.int p1)] [(.int (35 : Int32)), (.int p1)])) (fun _ k => XS.bipush X0.here hx rfl (hb hby d3_67) k) ?_
                        by_cases hc69 : p1 = (35 : Int32)
                        · refine Go.step (T' := s₁) (f' := (mkF m 72 #[.val (.int p1)] [])) (fun _ k => XS.icmpNo X0.here hx rfl (hb hby d3_69) rfl (teq hc69).2 k) ?_
                          refine Go.step (T' := s₁) (f' := (mkF m 73 #[.val (.int p1)] [(.int (1 : Int32))])) (fun _ k => XS.iconst X0.here hx rfl (hb hby d3_72) k) ?_
                          refine Go.step (T' := s₁) (f' := (mkF m 77 #[.val (.int p1)] [(.int (1 : Int32))])) (fun _ k => XS.goto X0.here hx rfl (pc0 := 73) (pc' := 77) rfl (hb hby d3_73) (by decide) (by decide) k) ?_
                          refine goN X0 hx (t := .boolean) Bd.returns (by simp) Bd.notSynchronized (hb hby d3_77) ?_ (by decide) (by decide)
                          show Q_rm3 Z p1 h0 n0 _ s₁.heap _
                          rw [e0]
                          exact ⟨by rw [own_exp1 (by simp only [Int32.lt_iff_toInt_lt, ← Int32.toInt_inj, Int32.reduceToInt] at hc3 hc9 hc15 hc21 hc27 hc33 hc39 hc45 hc51 hc57 hc63 hc69 <;> omega)]; rfl, N0, rfl⟩
                        · refine Go.step (T' := s₁) (f' := (mkF m 76 #[.val (.int p1)] [])) (fun _ k => XS.icmpYes X0.here hx rfl (pc0 := 69) (pc' := 76) rfl (hb hby d3_69) rfl (feq hc69).2 (by decide) (by decide) k) ?_
                          refine Go.step (T' := s₁) (f' := (mkF m 77 #[.val (.int p1)] [(.int (0 : Int32))])) (fun _ k => XS.iconst X0.here hx rfl (hb hby d3_76) k) ?_
                          refine goN X0 hx (t := .boolean) Bd.returns (by simp) Bd.notSynchronized (hb hby d3_77) ?_ (by decide) (by decide)
                          show Q_rm3 Z p1 h0 n0 _ s₁.heap _
                          rw [e0]
                          exact ⟨by rw [own_exp0 (by simp only [Int32.lt_iff_toInt_lt, ← Int32.toInt_inj, Int32.reduceToInt] at hc3 hc9 hc15 hc21 hc27 hc33 hc39 hc45 hc51 hc57 hc63 hc69 <;> omega)]; rfl, N0, rfl⟩
theorem pd_0 : parseMethodDescriptor "(I)Lcom/example/strict_sid/strictsid/known/WellKnownSid;" = some ⟨[.int], some (.object "com/example/strict_sid/strictsid/known/WellKnownSid")⟩ := by decide +kernel
theorem pd_1 : parseMethodDescriptor "()Z" = some ⟨[], some .boolean⟩ := by decide +kernel
theorem pd_2 : parseMethodDescriptor "(I)Z" = some ⟨[.int], some .boolean⟩ := by decide +kernel
theorem ef_rm0 (m : MethodId) (p1 : Int32) : entryFrame m #[(.int p1)] maxLocals = mkF m 0 #[.val (.int p1), .unset, .unset] [] := by first | (simp [entryFrame, mkF, argsToLocals, Value.category, maxLocals]; done) | rfl
def Q_rm0 (Z : State) (p1 : Int32) (A : Int → Addr) (Bv : Int → Value) (h0 : Heap) (n0 : Nat) (rv : Option Value) (hq : Heap) (Lq : List Loc) : Prop := rv = some (.int (1 : Int32)) ∧ Fr n0 Lq
set_option maxRecDepth 65536 in
set_option maxHeartbeats 40000000 in
theorem rm0 (l : Launch) (Z : State) (a0 : Array Value) (hw : ∀ d ∈ tables_1, d.before a0 Z = true) (ws : List Jvm.Cond) (p1 : Int32) (A : Int → Addr) (Bv : Int → Value) (h0 : Heap) (n0 : Nat) (Z0 : n0 ≤ h0.size) (O0 : Old Z n0 h0) (S_ACCOUNT_OPERATORS : Sta Z Z.heap "com/example/strict_sid/strictsid/known/WellKnownSid" "ACCOUNT_OPERATORS" "Lcom/example/strict_sid/strictsid/known/WellKnownSid;" (.ref (A 0))) (S_ALIAS_PREW2KCOMPACC : Sta Z Z.heap "com/example/strict_sid/strictsid/known/WellKnownSid" "ALIAS_PREW2KCOMPACC" "Lcom/example/strict_sid/strictsid/known/WellKnownSid;" (.ref (A 1))) (S_ANONYMOUS : Sta Z Z.heap "com/example/strict_sid/strictsid/known/WellKnownSid" "ANONYMOUS" "Lcom/example/strict_sid/strictsid/known/WellKnownSid;" (.ref (A 2))) (S_AUTHENTICATED_USERS : Sta Z Z.heap "com/example/strict_sid/strictsid/known/WellKnownSid" "AUTHENTICATED_USERS" "Lcom/example/strict_sid/strictsid/known/WellKnownSid;" (.ref (A 3))) (S_BUILTIN_ADMINISTRATORS : Sta Z Z.heap "com/example/strict_sid/strictsid/known/WellKnownSid" "BUILTIN_ADMINISTRATORS" "Lcom/example/strict_sid/strictsid/known/WellKnownSid;" (.ref (A 4))) (S_BUILTIN_GUESTS : Sta Z Z.heap "com/example/strict_sid/strictsid/known/WellKnownSid" "BUILTIN_GUESTS" "Lcom/example/strict_sid/strictsid/known/WellKnownSid;" (.ref (A 5))) (S_BACKUP_OPERATORS : Sta Z Z.heap "com/example/strict_sid/strictsid/known/WellKnownSid" "BACKUP_OPERATORS" "Lcom/example/strict_sid/strictsid/known/WellKnownSid;" (.ref (A 6))) (S_BUILTIN_USERS : Sta Z Z.heap "com/example/strict_sid/strictsid/known/WellKnownSid" "BUILTIN_USERS" "Lcom/example/strict_sid/strictsid/known/WellKnownSid;" (.ref (A 7))) (S_CERT_SERV_ADMINISTRATORS : Sta Z Z.heap "com/example/strict_sid/strictsid/known/WellKnownSid" "CERT_SERV_ADMINISTRATORS" "Lcom/example/strict_sid/strictsid/known/WellKnownSid;" (.ref (A 8))) (S_CREATOR_GROUP : Sta Z Z.heap "com/example/strict_sid/strictsid/known/WellKnownSid" "CREATOR_GROUP" "Lcom/example/strict_sid/strictsid/known/WellKnownSid;" (.ref (A 9))) (S_CREATOR_OWNER : Sta Z Z.heap "com/example/strict_sid/strictsid/known/WellKnownSid" "CREATOR_OWNER" "Lcom/example/strict_sid/strictsid/known/WellKnownSid;" (.ref (A 10))) (S_DOMAIN_ADMINISTRATORS : Sta Z Z.heap "com/example/strict_sid/strictsid/known/WellKnownSid" "DOMAIN_ADMINISTRATORS" "Lcom/example/strict_sid/strictsid/known/WellKnownSid;" (.ref (A 11))) (S_DOMAIN_COMPUTERS : Sta Z Z.heap "com/example/strict_sid/strictsid/known/WellKnownSid" "DOMAIN_COMPUTERS" "Lcom/example/strict_sid/strictsid/known/WellKnownSid;" (.ref (A 12))) (S_DOMAIN_DOMAIN_CONTROLLERS : Sta Z Z.heap "com/example/strict_sid/strictsid/known/WellKnownSid" "DOMAIN_DOMAIN_CONTROLLERS" "Lcom/example/strict_sid/strictsid/known/WellKnownSid;" (.ref (A 13))) (S_DOMAIN_GUESTS : Sta Z Z.heap "com/example/strict_sid/strictsid/known/WellKnownSid" "DOMAIN_GUESTS" "Lcom/example/strict_sid/strictsid/known/WellKnownSid;" (.ref (A 14))) (S_DOMAIN_USERS : Sta Z Z.heap "com/example/strict_sid/strictsid/known/WellKnownSid" "DOMAIN_USERS" "Lcom/example/strict_sid/strictsid/known/WellKnownSid;" (.ref (A 15))) (S_ENTERPRISE_ADMINS : Sta Z Z.heap "com/example/strict_sid/strictsid/known/WellKnownSid" "ENTERPRISE_ADMINS" "Lcom/example/strict_sid/strictsid/known/WellKnownSid;" (.ref (A 16))) (S_ENTERPRISE_DOMAIN_CONTROLLERS : Sta Z Z.heap "com/example/strict_sid/strictsid/known/WellKnownSid" "ENTERPRISE_DOMAIN_CONTROLLERS" "Lcom/example/strict_sid/strictsid/known/WellKnownSid;" (.ref (A 17))) (S_EVERYONE : Sta Z Z.heap "com/example/strict_sid/strictsid/known/WellKnownSid" "EVERYONE" "Lcom/example/strict_sid/strictsid/known/WellKnownSid;" (.ref (A 18))) (S_GROUP_POLICY_ADMINS : Sta Z Z.heap "com/example/strict_sid/strictsid/known/WellKnownSid" "GROUP_POLICY_ADMINS" "Lcom/example/strict_sid/strictsid/known/WellKnownSid;" (.ref (A 19))) (S_INTERACTIVE : Sta Z Z.heap "com/example/strict_sid/strictsid/known/WellKnownSid" "INTERACTIVE" "Lcom/example/strict_sid/strictsid/known/WellKnownSid;" (.ref (A 20))) (S_LOCAL_ADMIN : Sta Z Z.heap "com/example/strict_sid/strictsid/known/WellKnownSid" "LOCAL_ADMIN" "Lcom/example/strict_sid/strictsid/known/WellKnownSid;" (.ref (A 21))) (S_LOCAL_GUEST : Sta Z Z.heap "com/example/strict_sid/strictsid/known/WellKnownSid" "LOCAL_GUEST" "Lcom/example/strict_sid/strictsid/known/WellKnownSid;" (.ref (A 22))) (S_LOCAL_SERVICE : Sta Z Z.heap "com/example/strict_sid/strictsid/known/WellKnownSid" "LOCAL_SERVICE" "Lcom/example/strict_sid/strictsid/known/WellKnownSid;" (.ref (A 23))) (S_LOCAL_SYSTEM : Sta Z Z.heap "com/example/strict_sid/strictsid/known/WellKnownSid" "LOCAL_SYSTEM" "Lcom/example/strict_sid/strictsid/known/WellKnownSid;" (.ref (A 24))) (S_NETWORK : Sta Z Z.heap "com/example/strict_sid/strictsid/known/WellKnownSid" "NETWORK" "Lcom/example/strict_sid/strictsid/known/WellKnownSid;" (.ref (A 25))) (S_NETWORK_CONFIGURATION_OPS : Sta Z Z.heap "com/example/strict_sid/strictsid/known/WellKnownSid" "NETWORK_CONFIGURATION_OPS" "Lcom/example/strict_sid/strictsid/known/WellKnownSid;" (.ref (A 26))) (S_NETWORK_SERVICE : Sta Z Z.heap "com/example/strict_sid/strictsid/known/WellKnownSid" "NETWORK_SERVICE" "Lcom/example/strict_sid/strictsid/known/WellKnownSid;" (.ref (A 27))) (S_PRINTER_OPERATORS : Sta Z Z.heap "com/example/strict_sid/strictsid/known/WellKnownSid" "PRINTER_OPERATORS" "Lcom/example/strict_sid/strictsid/known/WellKnownSid;" (.ref (A 28))) (S_PERSONAL_SELF : Sta Z Z.heap "com/example/strict_sid/strictsid/known/WellKnownSid" "PERSONAL_SELF" "Lcom/example/strict_sid/strictsid/known/WellKnownSid;" (.ref (A 29))) (S_POWER_USERS : Sta Z Z.heap "com/example/strict_sid/strictsid/known/WellKnownSid" "POWER_USERS" "Lcom/example/strict_sid/strictsid/known/WellKnownSid;" (.ref (A 30))) (S_RAS_SERVERS : Sta Z Z.heap "com/example/strict_sid/strictsid/known/WellKnownSid" "RAS_SERVERS" "Lcom/example/strict_sid/strictsid/known/WellKnownSid;" (.ref (A 31))) (S_REMOTE_DESKTOP : Sta Z Z.heap "com/example/strict_sid/strictsid/known/WellKnownSid" "REMOTE_DESKTOP" "Lcom/example/strict_sid/strictsid/known/WellKnownSid;" (.ref (A 32))) (S_REPLICATOR : Sta Z Z.heap "com/example/strict_sid/strictsid/known/WellKnownSid" "REPLICATOR" "Lcom/example/strict_sid/strictsid/known/WellKnownSid;" (.ref (A 33))) (S_RESTRICTED_CODE : Sta Z Z.heap "com/example/strict_sid/strictsid/known/WellKnownSid" "RESTRICTED_CODE" "Lcom/example/strict_sid/strictsid/known/WellKnownSid;" (.ref (A 34))) (S_SCHEMA_ADMINISTRATORS : Sta Z Z.heap "com/example/strict_sid/strictsid/known/WellKnownSid" "SCHEMA_ADMINISTRATORS" "Lcom/example/strict_sid/strictsid/known/WellKnownSid;" (.ref (A 35))) (S_SERVER_OPERATORS : Sta Z Z.heap "com/example/strict_sid/strictsid/known/WellKnownSid" "SERVER_OPERATORS" "Lcom/example/strict_sid/strictsid/known/WellKnownSid;" (.ref (A 36))) (S_SERVICE : Sta Z Z.heap "com/example/strict_sid/strictsid/known/WellKnownSid" "SERVICE" "Lcom/example/strict_sid/strictsid/known/WellKnownSid;" (.ref (A 37))) (hE : ∀ i : Int, 0 ≤ i → i < 38 → Exa Z h0 (A i) "com/example/strict_sid/strictsid/known/WellKnownSid") (hF : ∀ i : Int, 0 ≤ i → i < 38 → Fld Z h0 (A i) "com/example/strict_sid/strictsid/known/WellKnownSid" "fixedSid" "Lcom/example/strict_sid/strictsid/Sid;" (Bv i)) (hB : ∀ i : Int, 0 ≤ i → i < 38 → (Bv i).isRef = true) (hfin : ∀ x : Int32, 0 ≤ x.toInt → x.toInt < 38 → own_nul (Bv x.toInt) = own_exp x) :
    MetFree l x (head1 (Jvm.Cond.code x code maxLocals ret :: ws) room_1) (fun a U => a = #[(.int p1)] ∧ Z.Warmed39 U.vm ∧ U.heap = h0) (fun _ _ _ _ _ => True) (fun _ U o U' => ∃ rv Lq, o = .returned rv ∧ Q_rm0 Z p1 A Bv h0 n0 rv U'.heap Lq ∧ FrameEnd U o U' Lq room_1.cells room_1.slots) := by
  refine MetFree.of_bodySF (plainFor_of_name pn_1) hisR ?_
  intro p e s m args below meth c s₁ Bd hml0 hP hK
  obtain ⟨rfl, hZ, hh⟩ := hP
  have hx := Bd.exec
  have hby := Bd.bytes
  have hml : c.maxLocals = 3 := hml0
  have hown : s.vm.findClass "com/example/strict_sid/strictsid/known/WellKnownSidIsDomainRelativePinLaw" = some m.cls := findClass_of_methodNamed Bd.named
  have hnm := (name_of_methodNamed Bd.named Bd.method).1
  have X0 : Stand p l e room_1 s m #[(.int p1)] below meth c s₁ [] 0 0 := Stand.of_body Bd
  have e0 : s₁.heap = h0 := by rw [← hh, Bd.state]; rfl
  have N0 := Fr.nil n0
  refine of_go (ef_rm0 m p1) ?_
  refine Go.step (T' := s₁) (f' := (mkF m 1 #[.val (.int p1), .unset, .unset] [(.int p1)])) (fun _ k => XS.iloadN X0.here hx rfl (hb hby at_0) rfl k) ?_
  refine Go.step (T' := s₁) (f' := (mkF m 3 #[.val (.int p1), .unset, .unset] [(.int (2147483647 : Int32)), (.int p1)])) (fun _ k => X0.ldcInt hx hown (mvT hZ (hw _ (List.mem_of_getElem? (i := 0) rfl))) (g := (mkF m 1 #[.val (.int p1), .unset, .unset] [(.int p1)])) rfl (hb hby at_1) _ k) ?_
  refine Go.step (T' := s₁) (f' := (mkF m 4 #[.val (.int p1), .unset, .unset] [(.int (p1 &&& (2147483647 : Int32)))])) (fun _ k => XS.iand X0.here hx rfl (hb hby at_3) rfl k) ?_
  refine Go.step (T' := s₁) (f' := (mkF m 6 #[.val (.int p1), .unset, .unset] [(.int (38 : Int32)), (.int (p1 &&& (2147483647 : Int32)))])) (fun _ k => XS.bipush X0.here hx rfl (hb hby at_4) k) ?_
  refine Go.step (T' := s₁) (f' := (mkF m 7 #[.val (.int p1), .unset, .unset] [(.int ((p1 &&& (2147483647 : Int32)) % (38 : Int32)))])) (fun _ k => iremM X0 hx rfl (hb hby at_6) rfl (by decide) k) ?_
  refine Go.step (T' := s₁) (f' := (mkF m 8 #[.val (.int p1), .val (.int ((p1 &&& (2147483647 : Int32)) % (38 : Int32))), .unset] [])) (fun _ k => XS.istoreN X0.here hx rfl (hb hby at_7) rfl (l' := #[.val (.int p1), .val (.int ((p1 &&& (2147483647 : Int32)) % (38 : Int32))), .unset]) rfl k) ?_
  refine Go.step (T' := s₁) (f' := (mkF m 9 #[.val (.int p1), .val (.int ((p1 &&& (2147483647 : Int32)) % (38 : Int32))), .unset] [(.int ((p1 &&& (2147483647 : Int32)) % (38 : Int32)))])) (fun _ k => XS.iloadN X0.here hx rfl (hb hby at_8) rfl k) ?_
  obtain ⟨_, _, ⟨T1, L1, k1, n1⟩, -, X1, ⟨Lc1, hQ1, l1, y1, z1⟩, st1⟩ := Jvm.LawKit.callS X0 hx (y := (⟨"com/example/strict_sid/strictsid/known/WellKnownSidIsDomainRelativePinLaw", "pick", "(I)Lcom/example/strict_sid/strictsid/known/WellKnownSid;"⟩ : MethodName)) hown (mvT hZ (hw _ (List.mem_of_getElem? (i := 1) rfl))) (mvT hZ (hw _ (List.mem_of_getElem? (i := 2) rfl))) (mvT hZ (hw _ (List.mem_of_getElem? (i := 3) rfl))) (mvT hZ (hw _ (List.mem_of_getElem? (i := 4) rfl))) (by decide) (backOf (W := 0) (rm1 l Z a0 hw [] ((p1 &&& (2147483647 : Int32)) % (38 : Int32)) A h0 n0 Z0 O0 S_ACCOUNT_OPERATORS S_ALIAS_PREW2KCOMPACC S_ANONYMOUS S_AUTHENTICATED_USERS S_BUILTIN_ADMINISTRATORS S_BUILTIN_GUESTS S_BACKUP_OPERATORS S_BUILTIN_USERS S_CERT_SERV_ADMINISTRATORS S_CREATOR_GROUP S_CREATOR_OWNER S_DOMAIN_ADMINISTRATORS S_DOMAIN_COMPUTERS S_DOMAIN_DOMAIN_CONTROLLERS S_DOMAIN_GUESTS S_DOMAIN_USERS S_ENTERPRISE_ADMINS S_ENTERPRISE_DOMAIN_CONTROLLERS S_EVERYONE S_GROUP_POLICY_ADMINS S_INTERACTIVE S_LOCAL_ADMIN S_LOCAL_GUEST S_LOCAL_SERVICE S_LOCAL_SYSTEM S_NETWORK S_NETWORK_CONFIGURATION_OPS S_NETWORK_SERVICE S_PRINTER_OPERATORS S_PERSONAL_SELF S_POWER_USERS S_RAS_SERVERS S_REMOTE_DESKTOP S_REPLICATOR S_RESTRICTED_CODE S_SCHEMA_ADMINISTRATORS S_SERVER_OPERATORS S_SERVICE (own_38r _)) hZ (hw _ (List.mem_of_getElem? (i := 4) rfl)) (hw _ (List.mem_of_getElem? (i := 3) rfl)) (by decide) (by decide)) (g := (mkF m 9 #[.val (.int p1), .val (.int ((p1 &&& (2147483647 : Int32)) % (38 : Int32))), .unset] [(.int ((p1 &&& (2147483647 : Int32)) % (38 : Int32)))])) rfl (by rw [hml]; rfl) (argsL := [(.int ((p1 &&& (2147483647 : Int32)) % (38 : Int32)))]) (rest := []) (lenOf pd_0 rfl) rfl (by show 2 * 0 + _ ≤ _; exact Nat.le_of_eq rfl) (hb hby at_9) (fun _ _ => ⟨rfl, e0, (by decide : 0 + 0 ≤ _), (by decide : 0 + 0 ≤ _)⟩)
  dsimp only [Pt.U, Pt.locs, Pt.cells, Pt.slots] at X1 l1 y1 z1 st1 hQ1
  subst l1 y1 z1
  obtain ⟨rfl, Nq1, eh1⟩ := hQ1
  have N1 := Fr.app N0 Nq1
  refine Go.step (T' := T1) (f' := (mkF m 12 #[.val (.int p1), .val (.int ((p1 &&& (2147483647 : Int32)) % (38 : Int32))), .unset] [(.ref (A ((p1 &&& (2147483647 : Int32)) % (38 : Int32)).toInt))])) st1 ?_
  have E_1 : Exa Z h0 (A ((p1 &&& (2147483647 : Int32)) % (38 : Int32)).toInt) "com/example/strict_sid/strictsid/known/WellKnownSid" := hE _ (own_38r _).1 (own_38r _).2
  have F_1 : Fld Z h0 (A ((p1 &&& (2147483647 : Int32)) % (38 : Int32)).toInt) "com/example/strict_sid/strictsid/known/WellKnownSid" "fixedSid" "Lcom/example/strict_sid/strictsid/Sid;" (Bv ((p1 &&& (2147483647 : Int32)) % (38 : Int32)).toInt) := hF _ (own_38r _).1 (own_38r _).2
  refine Go.step (T' := T1) (f' := (mkF m 13 #[.val (.int p1), .val (.int ((p1 &&& (2147483647 : Int32)) % (38 : Int32))), .val (.ref (A ((p1 &&& (2147483647 : Int32)) % (38 : Int32)).toInt))] [])) (fun _ k => XS.astoreN X1.here hx rfl (hb hby at_12) rfl rfl (l' := #[.val (.int p1), .val (.int ((p1 &&& (2147483647 : Int32)) % (38 : Int32))), .val (.ref (A ((p1 &&& (2147483647 : Int32)) % (38 : Int32)).toInt))]) rfl k) ?_
  refine Go.step (T' := T1) (f' := (mkF m 14 #[.val (.int p1), .val (.int ((p1 &&& (2147483647 : Int32)) % (38 : Int32))), .val (.ref (A ((p1 &&& (2147483647 : Int32)) % (38 : Int32)).toInt))] [(.ref (A ((p1 &&& (2147483647 : Int32)) % (38 : Int32)).toInt))])) (fun _ k => XS.aloadN X1.here hx rfl (hb hby at_13) rfl rfl k) ?_
  obtain ⟨cq2, kq2, q2a, q2b, q2c⟩ := isOf hZ eh1 E_1
  obtain ⟨_, _, ⟨T2, L2, k2, n2⟩, -, X2, ⟨Lc2, hQ2, l2, y2, z2⟩, st2⟩ := X1.virtualBack hx (y := (⟨"com/example/strict_sid/strictsid/known/WellKnownSid", "isDomainRelative", "()Z"⟩ : MethodName)) (z := (⟨"com/example/strict_sid/strictsid/known/WellKnownSid", "isDomainRelative", "()Z"⟩ : MethodName)) hown (mvT hZ (hw _ (List.mem_of_getElem? (i := 8) rfl))) (mvT hZ (hw _ (List.mem_of_getElem? (i := 9) rfl))) (notFace_of_selects (args := #[]) (mvT hZ (hw _ (List.mem_of_getElem? (i := 11) rfl)))) (mvT hZ (hw _ (List.mem_of_getElem? (i := 11) rfl))) (mvT hZ (hw _ (List.mem_of_getElem? (i := 10) rfl))) (by decide) (backOf (W := 0) (rm2 l Z a0 hw [] (A ((p1 &&& (2147483647 : Int32)) % (38 : Int32)).toInt) (Bv ((p1 &&& (2147483647 : Int32)) % (38 : Int32)).toInt) h0 n0 Z0 F_1 (hB _ (own_38r _).1 (own_38r _).2)) hZ (hw _ (List.mem_of_getElem? (i := 12) rfl)) (hw _ (List.mem_of_getElem? (i := 6) rfl)) (by decide) (by decide)) q2a q2c (g := (mkF m 14 #[.val (.int p1), .val (.int ((p1 &&& (2147483647 : Int32)) % (38 : Int32))), .val (.ref (A ((p1 &&& (2147483647 : Int32)) % (38 : Int32)).toInt))] [(.ref (A ((p1 &&& (2147483647 : Int32)) % (38 : Int32)).toInt))])) rfl (by rw [hml]; rfl) (Steps.refl _) (argsL := []) (rest := []) (lenOf pd_1 rfl) rfl (by show 2 * 0 + _ ≤ _; exact Nat.le_of_eq rfl) (hb hby at_14) (fun _ _ => ⟨rfl, eh1, (by decide : 0 + 0 ≤ _), (by decide : 0 + 0 ≤ _)⟩)
  dsimp only [Pt.U, Pt.locs, Pt.cells, Pt.slots] at X2 l2 y2 z2 st2 hQ2
  subst l2 y2 z2
  obtain ⟨rfl, Nq2, eh2⟩ := hQ2
  have N2 := Fr.app N1 Nq2
  refine Go.step (T' := T2) (f' := (mkF m 17 #[.val (.int p1), .val (.int ((p1 &&& (2147483647 : Int32)) % (38 : Int32))), .val (.ref (A ((p1 &&& (2147483647 : Int32)) % (38 : Int32)).toInt))] [(.int (own_nul (Bv ((p1 &&& (2147483647 : Int32)) % (38 : Int32)).toInt)))])) (fun _ k => st2.trans k) ?_
  refine Go.step (T' := T2) (f' := (mkF m 18 #[.val (.int p1), .val (.int ((p1 &&& (2147483647 : Int32)) % (38 : Int32))), .val (.ref (A ((p1 &&& (2147483647 : Int32)) % (38 : Int32)).toInt))] [(.int ((p1 &&& (2147483647 : Int32)) % (38 : Int32))), (.int (own_nul (Bv ((p1 &&& (2147483647 : Int32)) % (38 : Int32)).toInt)))])) (fun _ k => XS.iloadN X2.here hx rfl (hb hby at_17) rfl k) ?_
  obtain ⟨_, _, ⟨T3, L3, k3, n3⟩, -, X3, ⟨Lc3, hQ3, l3, y3, z3⟩, st3⟩ := Jvm.LawKit.callS X2 hx (y := (⟨"com/example/strict_sid/strictsid/known/WellKnownSidIsDomainRelativePinLaw", "expected", "(I)Z"⟩ : MethodName)) hown (mvT hZ (hw _ (List.mem_of_getElem? (i := 15) rfl))) (mvT hZ (hw _ (List.mem_of_getElem? (i := 16) rfl))) (mvT hZ (hw _ (List.mem_of_getElem? (i := 3) rfl))) (mvT hZ (hw _ (List.mem_of_getElem? (i := 17) rfl))) (by decide) (backOf (W := 1) (rm3 l Z a0 hw [] ((p1 &&& (2147483647 : Int32)) % (38 : Int32)) h0 n0 Z0 ) hZ (hw _ (List.mem_of_getElem? (i := 17) rfl)) (hw _ (List.mem_of_getElem? (i := 3) rfl)) (by decide) (by decide)) (g := (mkF m 18 #[.val (.int p1), .val (.int ((p1 &&& (2147483647 : Int32)) % (38 : Int32))), .val (.ref (A ((p1 &&& (2147483647 : Int32)) % (38 : Int32)).toInt))] [(.int ((p1 &&& (2147483647 : Int32)) % (38 : Int32))), (.int (own_nul (Bv ((p1 &&& (2147483647 : Int32)) % (38 : Int32)).toInt)))])) rfl (by rw [hml]; rfl) (argsL := [(.int ((p1 &&& (2147483647 : Int32)) % (38 : Int32)))]) (rest := [(.int (own_nul (Bv ((p1 &&& (2147483647 : Int32)) % (38 : Int32)).toInt)))]) (lenOf pd_2 rfl) rfl (by show 2 * 0 + _ ≤ _; exact Nat.le_of_eq rfl) (hb hby at_18) (fun _ _ => ⟨rfl, eh2, (by decide : 0 + 0 ≤ _), (by decide : 0 + 0 ≤ _)⟩)
  dsimp only [Pt.U, Pt.locs, Pt.cells, Pt.slots] at X3 l3 y3 z3 st3 hQ3
  subst l3 y3 z3
  obtain ⟨rfl, Nq3, eh3⟩ := hQ3
  have N3 := Fr.app N2 Nq3
  refine Go.step (T' := T3) (f' := (mkF m 21 #[.val (.int p1), .val (.int ((p1 &&& (2147483647 : Int32)) % (38 : Int32))), .val (.ref (A ((p1 &&& (2147483647 : Int32)) % (38 : Int32)).toInt))] [(.int (own_exp ((p1 &&& (2147483647 : Int32)) % (38 : Int32)))), (.int (own_nul (Bv ((p1 &&& (2147483647 : Int32)) % (38 : Int32)).toInt)))])) st3 ?_
  refine Go.step (T' := T3) (f' := (mkF m 24 #[.val (.int p1), .val (.int ((p1 &&& (2147483647 : Int32)) % (38 : Int32))), .val (.ref (A ((p1 &&& (2147483647 : Int32)) % (38 : Int32)).toInt))] [])) (fun _ k => XS.icmpNo X3.here hx rfl (hb hby at_21) rfl (teq (hfin _ (own_38r _).1 (own_38r _).2)).2 k) ?_
  refine Go.step (T' := T3) (f' := (mkF m 25 #[.val (.int p1), .val (.int ((p1 &&& (2147483647 : Int32)) % (38 : Int32))), .val (.ref (A ((p1 &&& (2147483647 : Int32)) % (38 : Int32)).toInt))] [(.int (1 : Int32))])) (fun _ k => XS.iconst X3.here hx rfl (hb hby at_24) k) ?_
  refine Go.step (T' := T3) (f' := (mkF m 29 #[.val (.int p1), .val (.int ((p1 &&& (2147483647 : Int32)) % (38 : Int32))), .val (.ref (A ((p1 &&& (2147483647 : Int32)) % (38 : Int32)).toInt))] [(.int (1 : Int32))])) (fun _ k => XS.goto X3.here hx rfl (pc0 := 25) (pc' := 29) rfl (hb hby at_25) (by decide) (by decide) k) ?_
  refine goN X3 hx (t := .boolean) Bd.returns (by simp) Bd.notSynchronized (hb hby at_29) ?_ (by decide) (by decide)
  show Q_rm0 Z p1 A Bv h0 n0 _ T3.heap _
  rw [eh3]
  exact ⟨rfl, N3⟩
set_option maxRecDepth 65536 in
set_option maxHeartbeats 40000000 in
theorem comes_1 {Post : Tables → Env → Array Value → State → Outcome → State → Prop} (hpost : ∀ tb e args s v u, (limb_1_1.after args s (.returned v) u = true ∧ limb_1_2.after args s (.returned v) u = true ∧ True) → FrameEnd s (.returned v) u (Jvm.fieldLocs frame_1_writes args s ++ Jvm.arrayLocs frame_1_arrays args s ++ Jvm.staticLocs frame_1_statics s) 0 0 → Post tb e args s (.returned v) u) :
    ArmFor flags0 classFile x code maxLocals ret World_1 tables_1 room_1 Calls_1 rest_1 Pre_1 Post := by
  intro l hfl _ _ p e ha hc hk s m args below hf hA hF happ hP
  obtain ⟨hcalls, hrest, hpre⟩ := hP
  obtain ⟨-, -, -, hnamed, -, -, -, hat⟩ := (Spec.applies_iff hf).mp happ
  obtain ⟨hg, hn⟩ := and_e (Cond.before_iff.mp (show (Jvm.Cond.and given_1 narrow_1).before args s = true from hpre))
  obtain ⟨g1, g2⟩ := and_e hg
  obtain ⟨w0, rfl⟩ : ∃ w0 : Value, args = #[w0] := by
    have hs : args.size = 1 := by simpa [Cond.value, given_1] using g1
    obtain ⟨L⟩ := args
    match L, hs with
    | [w0], _ => exact ⟨w0, rfl⟩
  have hw := fun d (hd : d ∈ tables_1) => atoms_spec (ws := Jvm.Cond.code x code maxLocals ret :: tables_1) hat d (List.mem_cons_of_mem _ hd)
  have hfit : Fit s := fun {y c} hc i hi => by
    obtain ⟨ha, rfl⟩ := Array.getElem?_eq_some_iff.mp hc
    have q := List.all_eq_true.mp ((Array.all_eq_true_iff_forall_mem.mp hF) _ (Array.getElem_mem ha)) i (List.mem_range.mpr hi)
    simpa [Array.getElem?_eq_getElem hi] using q
  obtain ⟨i0, ei0⟩ := is_v g2
  obtain rfl : w0 = (.int i0) := Option.some.inj ei0
  obtain ⟨n1, m1⟩ := and_e hn
  obtain ⟨n2, m2⟩ := and_e m1
  obtain ⟨n3, m3⟩ := and_e m2
  obtain ⟨n4, m4⟩ := and_e m3
  obtain ⟨n5, m5⟩ := and_e m4
  obtain ⟨n6, m6⟩ := and_e m5
  obtain ⟨n7, m7⟩ := and_e m6
  obtain ⟨n8, m8⟩ := and_e m7
  obtain ⟨n9, m9⟩ := and_e m8
  obtain ⟨n10, m10⟩ := and_e m9
  obtain ⟨n11, m11⟩ := and_e m10
  obtain ⟨n12, m12⟩ := and_e m11
  obtain ⟨n13, m13⟩ := and_e m12
  obtain ⟨n14, m14⟩ := and_e m13
  obtain ⟨n15, m15⟩ := and_e m14
  obtain ⟨n16, m16⟩ := and_e m15
  obtain ⟨n17, m17⟩ := and_e m16
  obtain ⟨n18, m18⟩ := and_e m17
  obtain ⟨n19, m19⟩ := and_e m18
  obtain ⟨n20, m20⟩ := and_e m19
  obtain ⟨n21, m21⟩ := and_e m20
  obtain ⟨n22, m22⟩ := and_e m21
  obtain ⟨n23, m23⟩ := and_e m22
  obtain ⟨n24, m24⟩ := and_e m23
  obtain ⟨n25, m25⟩ := and_e m24
  obtain ⟨n26, m26⟩ := and_e m25
  obtain ⟨n27, m27⟩ := and_e m26
  obtain ⟨n28, m28⟩ := and_e m27
  obtain ⟨n29, m29⟩ := and_e m28
  obtain ⟨n30, m30⟩ := and_e m29
  obtain ⟨n31, m31⟩ := and_e m30
  obtain ⟨n32, m32⟩ := and_e m31
  obtain ⟨n33, m33⟩ := and_e m32
  obtain ⟨n34, m34⟩ := and_e m33
  obtain ⟨n35, m35⟩ := and_e m34
  obtain ⟨n36, m36⟩ := and_e m35
  obtain ⟨n37, m37⟩ := and_e m36
  obtain ⟨n38, m38⟩ := and_e m37
  obtain ⟨n39, m39⟩ := and_e m38
  obtain ⟨n40, m40⟩ := and_e m39
  obtain ⟨n41, m41⟩ := and_e m40
  obtain ⟨n42, m42⟩ := and_e m41
  obtain ⟨n43, m43⟩ := and_e m42
  obtain ⟨n44, m44⟩ := and_e m43
  obtain ⟨n45, m45⟩ := and_e m44
  obtain ⟨n46, m46⟩ := and_e m45
  obtain ⟨n47, m47⟩ := and_e m46
  obtain ⟨n48, m48⟩ := and_e m47
  obtain ⟨n49, m49⟩ := and_e m48
  obtain ⟨n50, m50⟩ := and_e m49
  obtain ⟨n51, m51⟩ := and_e m50
  obtain ⟨n52, m52⟩ := and_e m51
  obtain ⟨n53, m53⟩ := and_e m52
  obtain ⟨n54, m54⟩ := and_e m53
  obtain ⟨n55, m55⟩ := and_e m54
  obtain ⟨n56, m56⟩ := and_e m55
  obtain ⟨n57, m57⟩ := and_e m56
  obtain ⟨n58, m58⟩ := and_e m57
  obtain ⟨n59, m59⟩ := and_e m58
  obtain ⟨n60, m60⟩ := and_e m59
  obtain ⟨n61, m61⟩ := and_e m60
  obtain ⟨n62, m62⟩ := and_e m61
  obtain ⟨n63, m63⟩ := and_e m62
  obtain ⟨n64, m64⟩ := and_e m63
  obtain ⟨n65, m65⟩ := and_e m64
  obtain ⟨n66, m66⟩ := and_e m65
  obtain ⟨n67, m67⟩ := and_e m66
  obtain ⟨n68, m68⟩ := and_e m67
  obtain ⟨n69, m69⟩ := and_e m68
  obtain ⟨n70, m70⟩ := and_e m69
  obtain ⟨n71, m71⟩ := and_e m70
  obtain ⟨n72, m72⟩ := and_e m71
  obtain ⟨n73, m73⟩ := and_e m72
  obtain ⟨n74, m74⟩ := and_e m73
  obtain ⟨n75, n76⟩ := and_e m74
  obtain ⟨s_ACCOUNT_OPERATORS, ev_ACCOUNT_OPERATORS⟩ := exa_v n1
  have E_s_ACCOUNT_OPERATORS := Exa.start ev_ACCOUNT_OPERATORS n1
  have S_ACCOUNT_OPERATORS := Sta.start ev_ACCOUNT_OPERATORS (Or.inr ⟨(hw _ (List.mem_of_getElem? (i := 6) rfl)), (hw _ (List.mem_of_getElem? (i := 7) rfl))⟩)
  obtain ⟨s_AUTHENTICATED_USERS, ev_AUTHENTICATED_USERS⟩ := exa_v n3
  have E_s_AUTHENTICATED_USERS := Exa.start ev_AUTHENTICATED_USERS n3
  have S_AUTHENTICATED_USERS := Sta.start ev_AUTHENTICATED_USERS (Or.inr ⟨(hw _ (List.mem_of_getElem? (i := 6) rfl)), (hw _ (List.mem_of_getElem? (i := 19) rfl))⟩)
  obtain ⟨s_RESTRICTED_CODE, ev_RESTRICTED_CODE⟩ := exa_v n5
  have E_s_RESTRICTED_CODE := Exa.start ev_RESTRICTED_CODE n5
  have S_RESTRICTED_CODE := Sta.start ev_RESTRICTED_CODE (Or.inr ⟨(hw _ (List.mem_of_getElem? (i := 6) rfl)), (hw _ (List.mem_of_getElem? (i := 21) rfl))⟩)
  obtain ⟨s_BUILTIN_GUESTS, ev_BUILTIN_GUESTS⟩ := exa_v n7
  have E_s_BUILTIN_GUESTS := Exa.start ev_BUILTIN_GUESTS n7
  have S_BUILTIN_GUESTS := Sta.start ev_BUILTIN_GUESTS (Or.inr ⟨(hw _ (List.mem_of_getElem? (i := 6) rfl)), (hw _ (List.mem_of_getElem? (i := 23) rfl))⟩)
  obtain ⟨s_SERVER_OPERATORS, ev_SERVER_OPERATORS⟩ := exa_v n9
  have E_s_SERVER_OPERATORS := Exa.start ev_SERVER_OPERATORS n9
  have S_SERVER_OPERATORS := Sta.start ev_SERVER_OPERATORS (Or.inr ⟨(hw _ (List.mem_of_getElem? (i := 6) rfl)), (hw _ (List.mem_of_getElem? (i := 25) rfl))⟩)
  obtain ⟨s_BUILTIN_USERS, ev_BUILTIN_USERS⟩ := exa_v n11
  have E_s_BUILTIN_USERS := Exa.start ev_BUILTIN_USERS n11
  have S_BUILTIN_USERS := Sta.start ev_BUILTIN_USERS (Or.inr ⟨(hw _ (List.mem_of_getElem? (i := 6) rfl)), (hw _ (List.mem_of_getElem? (i := 27) rfl))⟩)
  obtain ⟨s_ANONYMOUS, ev_ANONYMOUS⟩ := exa_v n13
  have E_s_ANONYMOUS := Exa.start ev_ANONYMOUS n13
  have S_ANONYMOUS := Sta.start ev_ANONYMOUS (Or.inr ⟨(hw _ (List.mem_of_getElem? (i := 6) rfl)), (hw _ (List.mem_of_getElem? (i := 29) rfl))⟩)
  obtain ⟨s_DOMAIN_ADMINISTRATORS, ev_DOMAIN_ADMINISTRATORS⟩ := exa_v n15
  have E_s_DOMAIN_ADMINISTRATORS := Exa.start ev_DOMAIN_ADMINISTRATORS n15
  have S_DOMAIN_ADMINISTRATORS := Sta.start ev_DOMAIN_ADMINISTRATORS (Or.inr ⟨(hw _ (List.mem_of_getElem? (i := 6) rfl)), (hw _ (List.mem_of_getElem? (i := 31) rfl))⟩)
  obtain ⟨s_CREATOR_OWNER, ev_CREATOR_OWNER⟩ := exa_v n17
  have E_s_CREATOR_OWNER := Exa.start ev_CREATOR_OWNER n17
  have S_CREATOR_OWNER := Sta.start ev_CREATOR_OWNER (Or.inr ⟨(hw _ (List.mem_of_getElem? (i := 6) rfl)), (hw _ (List.mem_of_getElem? (i := 33) rfl))⟩)
  obtain ⟨s_CERT_SERV_ADMINISTRATORS, ev_CERT_SERV_ADMINISTRATORS⟩ := exa_v n19
  have E_s_CERT_SERV_ADMINISTRATORS := Exa.start ev_CERT_SERV_ADMINISTRATORS n19
  have S_CERT_SERV_ADMINISTRATORS := Sta.start ev_CERT_SERV_ADMINISTRATORS (Or.inr ⟨(hw _ (List.mem_of_getElem? (i := 6) rfl)), (hw _ (List.mem_of_getElem? (i := 35) rfl))⟩)
  obtain ⟨s_ALIAS_PREW2KCOMPACC, ev_ALIAS_PREW2KCOMPACC⟩ := exa_v n21
  have E_s_ALIAS_PREW2KCOMPACC := Exa.start ev_ALIAS_PREW2KCOMPACC n21
  have S_ALIAS_PREW2KCOMPACC := Sta.start ev_ALIAS_PREW2KCOMPACC (Or.inr ⟨(hw _ (List.mem_of_getElem? (i := 6) rfl)), (hw _ (List.mem_of_getElem? (i := 37) rfl))⟩)
  obtain ⟨s_DOMAIN_GUESTS, ev_DOMAIN_GUESTS⟩ := exa_v n23
  have E_s_DOMAIN_GUESTS := Exa.start ev_DOMAIN_GUESTS n23
  have S_DOMAIN_GUESTS := Sta.start ev_DOMAIN_GUESTS (Or.inr ⟨(hw _ (List.mem_of_getElem? (i := 6) rfl)), (hw _ (List.mem_of_getElem? (i := 39) rfl))⟩)
  obtain ⟨s_EVERYONE, ev_EVERYONE⟩ := exa_v n25
  have E_s_EVERYONE := Exa.start ev_EVERYONE n25
  have S_EVERYONE := Sta.start ev_EVERYONE (Or.inr ⟨(hw _ (List.mem_of_getElem? (i := 6) rfl)), (hw _ (List.mem_of_getElem? (i := 41) rfl))⟩)
  obtain ⟨s_NETWORK, ev_NETWORK⟩ := exa_v n27
  have E_s_NETWORK := Exa.start ev_NETWORK n27
  have S_NETWORK := Sta.start ev_NETWORK (Or.inr ⟨(hw _ (List.mem_of_getElem? (i := 6) rfl)), (hw _ (List.mem_of_getElem? (i := 43) rfl))⟩)
  obtain ⟨s_NETWORK_SERVICE, ev_NETWORK_SERVICE⟩ := exa_v n29
  have E_s_NETWORK_SERVICE := Exa.start ev_NETWORK_SERVICE n29
  have S_NETWORK_SERVICE := Sta.start ev_NETWORK_SERVICE (Or.inr ⟨(hw _ (List.mem_of_getElem? (i := 6) rfl)), (hw _ (List.mem_of_getElem? (i := 45) rfl))⟩)
  obtain ⟨s_ENTERPRISE_ADMINS, ev_ENTERPRISE_ADMINS⟩ := exa_v n31
  have E_s_ENTERPRISE_ADMINS := Exa.start ev_ENTERPRISE_ADMINS n31
  have S_ENTERPRISE_ADMINS := Sta.start ev_ENTERPRISE_ADMINS (Or.inr ⟨(hw _ (List.mem_of_getElem? (i := 6) rfl)), (hw _ (List.mem_of_getElem? (i := 47) rfl))⟩)
  obtain ⟨s_LOCAL_SERVICE, ev_LOCAL_SERVICE⟩ := exa_v n33
  have E_s_LOCAL_SERVICE := Exa.start ev_LOCAL_SERVICE n33
  have S_LOCAL_SERVICE := Sta.start ev_LOCAL_SERVICE (Or.inr ⟨(hw _ (List.mem_of_getElem? (i := 6) rfl)), (hw _ (List.mem_of_getElem? (i := 49) rfl))⟩)
  obtain ⟨s_LOCAL_SYSTEM, ev_LOCAL_SYSTEM⟩ := exa_v n35
  have E_s_LOCAL_SYSTEM := Exa.start ev_LOCAL_SYSTEM n35
  have S_LOCAL_SYSTEM := Sta.start ev_LOCAL_SYSTEM (Or.inr ⟨(hw _ (List.mem_of_getElem? (i := 6) rfl)), (hw _ (List.mem_of_getElem? (i := 51) rfl))⟩)
  obtain ⟨s_GROUP_POLICY_ADMINS, ev_GROUP_POLICY_ADMINS⟩ := exa_v n37
  have E_s_GROUP_POLICY_ADMINS := Exa.start ev_GROUP_POLICY_ADMINS n37
  have S_GROUP_POLICY_ADMINS := Sta.start ev_GROUP_POLICY_ADMINS (Or.inr ⟨(hw _ (List.mem_of_getElem? (i := 6) rfl)), (hw _ (List.mem_of_getElem? (i := 53) rfl))⟩)
  obtain ⟨s_DOMAIN_USERS, ev_DOMAIN_USERS⟩ := exa_v n39
  have E_s_DOMAIN_USERS := Exa.start ev_DOMAIN_USERS n39
  have S_DOMAIN_USERS := Sta.start ev_DOMAIN_USERS (Or.inr ⟨(hw _ (List.mem_of_getElem? (i := 6) rfl)), (hw _ (List.mem_of_getElem? (i := 55) rfl))⟩)
  obtain ⟨s_LOCAL_GUEST, ev_LOCAL_GUEST⟩ := exa_v n41
  have E_s_LOCAL_GUEST := Exa.start ev_LOCAL_GUEST n41
  have S_LOCAL_GUEST := Sta.start ev_LOCAL_GUEST (Or.inr ⟨(hw _ (List.mem_of_getElem? (i := 6) rfl)), (hw _ (List.mem_of_getElem? (i := 57) rfl))⟩)
  obtain ⟨s_PRINTER_OPERATORS, ev_PRINTER_OPERATORS⟩ := exa_v n43
  have E_s_PRINTER_OPERATORS := Exa.start ev_PRINTER_OPERATORS n43
  have S_PRINTER_OPERATORS := Sta.start ev_PRINTER_OPERATORS (Or.inr ⟨(hw _ (List.mem_of_getElem? (i := 6) rfl)), (hw _ (List.mem_of_getElem? (i := 59) rfl))⟩)
  obtain ⟨s_POWER_USERS, ev_POWER_USERS⟩ := exa_v n45
  have E_s_POWER_USERS := Exa.start ev_POWER_USERS n45
  have S_POWER_USERS := Sta.start ev_POWER_USERS (Or.inr ⟨(hw _ (List.mem_of_getElem? (i := 6) rfl)), (hw _ (List.mem_of_getElem? (i := 61) rfl))⟩)
  obtain ⟨s_BACKUP_OPERATORS, ev_BACKUP_OPERATORS⟩ := exa_v n47
  have E_s_BACKUP_OPERATORS := Exa.start ev_BACKUP_OPERATORS n47
  have S_BACKUP_OPERATORS := Sta.start ev_BACKUP_OPERATORS (Or.inr ⟨(hw _ (List.mem_of_getElem? (i := 6) rfl)), (hw _ (List.mem_of_getElem? (i := 63) rfl))⟩)
  obtain ⟨s_INTERACTIVE, ev_INTERACTIVE⟩ := exa_v n49
  have E_s_INTERACTIVE := Exa.start ev_INTERACTIVE n49
  have S_INTERACTIVE := Sta.start ev_INTERACTIVE (Or.inr ⟨(hw _ (List.mem_of_getElem? (i := 6) rfl)), (hw _ (List.mem_of_getElem? (i := 65) rfl))⟩)
  obtain ⟨s_CREATOR_GROUP, ev_CREATOR_GROUP⟩ := exa_v n51
  have E_s_CREATOR_GROUP := Exa.start ev_CREATOR_GROUP n51
  have S_CREATOR_GROUP := Sta.start ev_CREATOR_GROUP (Or.inr ⟨(hw _ (List.mem_of_getElem? (i := 6) rfl)), (hw _ (List.mem_of_getElem? (i := 67) rfl))⟩)
  obtain ⟨s_DOMAIN_COMPUTERS, ev_DOMAIN_COMPUTERS⟩ := exa_v n53
  have E_s_DOMAIN_COMPUTERS := Exa.start ev_DOMAIN_COMPUTERS n53
  have S_DOMAIN_COMPUTERS := Sta.start ev_DOMAIN_COMPUTERS (Or.inr ⟨(hw _ (List.mem_of_getElem? (i := 6) rfl)), (hw _ (List.mem_of_getElem? (i := 69) rfl))⟩)
  obtain ⟨s_ENTERPRISE_DOMAIN_CONTROLLERS, ev_ENTERPRISE_DOMAIN_CONTROLLERS⟩ := exa_v n55
  have E_s_ENTERPRISE_DOMAIN_CONTROLLERS := Exa.start ev_ENTERPRISE_DOMAIN_CONTROLLERS n55
  have S_ENTERPRISE_DOMAIN_CONTROLLERS := Sta.start ev_ENTERPRISE_DOMAIN_CONTROLLERS (Or.inr ⟨(hw _ (List.mem_of_getElem? (i := 6) rfl)), (hw _ (List.mem_of_getElem? (i := 71) rfl))⟩)
  obtain ⟨s_DOMAIN_DOMAIN_CONTROLLERS, ev_DOMAIN_DOMAIN_CONTROLLERS⟩ := exa_v n57
  have E_s_DOMAIN_DOMAIN_CONTROLLERS := Exa.start ev_DOMAIN_DOMAIN_CONTROLLERS n57
  have S_DOMAIN_DOMAIN_CONTROLLERS := Sta.start ev_DOMAIN_DOMAIN_CONTROLLERS (Or.inr ⟨(hw _ (List.mem_of_getElem? (i := 6) rfl)), (hw _ (List.mem_of_getElem? (i := 73) rfl))⟩)
  obtain ⟨s_NETWORK_CONFIGURATION_OPS, ev_NETWORK_CONFIGURATION_OPS⟩ := exa_v n59
  have E_s_NETWORK_CONFIGURATION_OPS := Exa.start ev_NETWORK_CONFIGURATION_OPS n59
  have S_NETWORK_CONFIGURATION_OPS := Sta.start ev_NETWORK_CONFIGURATION_OPS (Or.inr ⟨(hw _ (List.mem_of_getElem? (i := 6) rfl)), (hw _ (List.mem_of_getElem? (i := 75) rfl))⟩)
  obtain ⟨s_BUILTIN_ADMINISTRATORS, ev_BUILTIN_ADMINISTRATORS⟩ := exa_v n61
  have E_s_BUILTIN_ADMINISTRATORS := Exa.start ev_BUILTIN_ADMINISTRATORS n61
  have S_BUILTIN_ADMINISTRATORS := Sta.start ev_BUILTIN_ADMINISTRATORS (Or.inr ⟨(hw _ (List.mem_of_getElem? (i := 6) rfl)), (hw _ (List.mem_of_getElem? (i := 77) rfl))⟩)
  obtain ⟨s_REPLICATOR, ev_REPLICATOR⟩ := exa_v n63
  have E_s_REPLICATOR := Exa.start ev_REPLICATOR n63
  have S_REPLICATOR := Sta.start ev_REPLICATOR (Or.inr ⟨(hw _ (List.mem_of_getElem? (i := 6) rfl)), (hw _ (List.mem_of_getElem? (i := 79) rfl))⟩)
  obtain ⟨s_REMOTE_DESKTOP, ev_REMOTE_DESKTOP⟩ := exa_v n65
  have E_s_REMOTE_DESKTOP := Exa.start ev_REMOTE_DESKTOP n65
  have S_REMOTE_DESKTOP := Sta.start ev_REMOTE_DESKTOP (Or.inr ⟨(hw _ (List.mem_of_getElem? (i := 6) rfl)), (hw _ (List.mem_of_getElem? (i := 81) rfl))⟩)
  obtain ⟨s_LOCAL_ADMIN, ev_LOCAL_ADMIN⟩ := exa_v n67
  have E_s_LOCAL_ADMIN := Exa.start ev_LOCAL_ADMIN n67
  have S_LOCAL_ADMIN := Sta.start ev_LOCAL_ADMIN (Or.inr ⟨(hw _ (List.mem_of_getElem? (i := 6) rfl)), (hw _ (List.mem_of_getElem? (i := 83) rfl))⟩)
  obtain ⟨s_RAS_SERVERS, ev_RAS_SERVERS⟩ := exa_v n69
  have E_s_RAS_SERVERS := Exa.start ev_RAS_SERVERS n69
  have S_RAS_SERVERS := Sta.start ev_RAS_SERVERS (Or.inr ⟨(hw _ (List.mem_of_getElem? (i := 6) rfl)), (hw _ (List.mem_of_getElem? (i := 85) rfl))⟩)
  obtain ⟨s_PERSONAL_SELF, ev_PERSONAL_SELF⟩ := exa_v n71
  have E_s_PERSONAL_SELF := Exa.start ev_PERSONAL_SELF n71
  have S_PERSONAL_SELF := Sta.start ev_PERSONAL_SELF (Or.inr ⟨(hw _ (List.mem_of_getElem? (i := 6) rfl)), (hw _ (List.mem_of_getElem? (i := 87) rfl))⟩)
  obtain ⟨s_SCHEMA_ADMINISTRATORS, ev_SCHEMA_ADMINISTRATORS⟩ := exa_v n73
  have E_s_SCHEMA_ADMINISTRATORS := Exa.start ev_SCHEMA_ADMINISTRATORS n73
  have S_SCHEMA_ADMINISTRATORS := Sta.start ev_SCHEMA_ADMINISTRATORS (Or.inr ⟨(hw _ (List.mem_of_getElem? (i := 6) rfl)), (hw _ (List.mem_of_getElem? (i := 89) rfl))⟩)
  obtain ⟨s_SERVICE, ev_SERVICE⟩ := exa_v n75
  have E_s_SERVICE := Exa.start ev_SERVICE n75
  have S_SERVICE := Sta.start ev_SERVICE (Or.inr ⟨(hw _ (List.mem_of_getElem? (i := 6) rfl)), (hw _ (List.mem_of_getElem? (i := 91) rfl))⟩)
  obtain ⟨t_fixedSid_ACCOUNT_OPERATORS, ew_t_fixedSid_ACCOUNT_OPERATORS⟩ := exa_v n2
  have F_fixedSid_s_ACCOUNT_OPERATORS := Fld.start ((fld_at ev_ACCOUNT_OPERATORS).symm.trans ew_t_fixedSid_ACCOUNT_OPERATORS)
  obtain ⟨t_fixedSid_AUTHENTICATED_USERS, ew_t_fixedSid_AUTHENTICATED_USERS⟩ := exa_v n4
  have F_fixedSid_s_AUTHENTICATED_USERS := Fld.start ((fld_at ev_AUTHENTICATED_USERS).symm.trans ew_t_fixedSid_AUTHENTICATED_USERS)
  obtain ⟨t_fixedSid_RESTRICTED_CODE, ew_t_fixedSid_RESTRICTED_CODE⟩ := exa_v n6
  have F_fixedSid_s_RESTRICTED_CODE := Fld.start ((fld_at ev_RESTRICTED_CODE).symm.trans ew_t_fixedSid_RESTRICTED_CODE)
  obtain ⟨t_fixedSid_BUILTIN_GUESTS, ew_t_fixedSid_BUILTIN_GUESTS⟩ := exa_v n8
  have F_fixedSid_s_BUILTIN_GUESTS := Fld.start ((fld_at ev_BUILTIN_GUESTS).symm.trans ew_t_fixedSid_BUILTIN_GUESTS)
  obtain ⟨t_fixedSid_SERVER_OPERATORS, ew_t_fixedSid_SERVER_OPERATORS⟩ := exa_v n10
  have F_fixedSid_s_SERVER_OPERATORS := Fld.start ((fld_at ev_SERVER_OPERATORS).symm.trans ew_t_fixedSid_SERVER_OPERATORS)
  obtain ⟨t_fixedSid_BUILTIN_USERS, ew_t_fixedSid_BUILTIN_USERS⟩ := exa_v n12
  have F_fixedSid_s_BUILTIN_USERS := Fld.start ((fld_at ev_BUILTIN_USERS).symm.trans ew_t_fixedSid_BUILTIN_USERS)
  obtain ⟨t_fixedSid_ANONYMOUS, ew_t_fixedSid_ANONYMOUS⟩ := exa_v n14
  have F_fixedSid_s_ANONYMOUS := Fld.start ((fld_at ev_ANONYMOUS).symm.trans ew_t_fixedSid_ANONYMOUS)
  have F_fixedSid_s_DOMAIN_ADMINISTRATORS := Fld.start ((fld_at ev_DOMAIN_ADMINISTRATORS).symm.trans (null_v n16))
  obtain ⟨t_fixedSid_CREATOR_OWNER, ew_t_fixedSid_CREATOR_OWNER⟩ := exa_v n18
  have F_fixedSid_s_CREATOR_OWNER := Fld.start ((fld_at ev_CREATOR_OWNER).symm.trans ew_t_fixedSid_CREATOR_OWNER)
  have F_fixedSid_s_CERT_SERV_ADMINISTRATORS := Fld.start ((fld_at ev_CERT_SERV_ADMINISTRATORS).symm.trans (null_v n20))
  obtain ⟨t_fixedSid_ALIAS_PREW2KCOMPACC, ew_t_fixedSid_ALIAS_PREW2KCOMPACC⟩ := exa_v n22
  have F_fixedSid_s_ALIAS_PREW2KCOMPACC := Fld.start ((fld_at ev_ALIAS_PREW2KCOMPACC).symm.trans ew_t_fixedSid_ALIAS_PREW2KCOMPACC)
  have F_fixedSid_s_DOMAIN_GUESTS := Fld.start ((fld_at ev_DOMAIN_GUESTS).symm.trans (null_v n24))
  obtain ⟨t_fixedSid_EVERYONE, ew_t_fixedSid_EVERYONE⟩ := exa_v n26
  have F_fixedSid_s_EVERYONE := Fld.start ((fld_at ev_EVERYONE).symm.trans ew_t_fixedSid_EVERYONE)
  obtain ⟨t_fixedSid_NETWORK, ew_t_fixedSid_NETWORK⟩ := exa_v n28
  have F_fixedSid_s_NETWORK := Fld.start ((fld_at ev_NETWORK).symm.trans ew_t_fixedSid_NETWORK)
  obtain ⟨t_fixedSid_NETWORK_SERVICE, ew_t_fixedSid_NETWORK_SERVICE⟩ := exa_v n30
  have F_fixedSid_s_NETWORK_SERVICE := Fld.start ((fld_at ev_NETWORK_SERVICE).symm.trans ew_t_fixedSid_NETWORK_SERVICE)
  have F_fixedSid_s_ENTERPRISE_ADMINS := Fld.start ((fld_at ev_ENTERPRISE_ADMINS).symm.trans (null_v n32))
  obtain ⟨t_fixedSid_LOCAL_SERVICE, ew_t_fixedSid_LOCAL_SERVICE⟩ := exa_v n34
  have F_fixedSid_s_LOCAL_SERVICE := Fld.start ((fld_at ev_LOCAL_SERVICE).symm.trans ew_t_fixedSid_LOCAL_SERVICE)
  obtain ⟨t_fixedSid_LOCAL_SYSTEM, ew_t_fixedSid_LOCAL_SYSTEM⟩ := exa_v n36
  have F_fixedSid_s_LOCAL_SYSTEM := Fld.start ((fld_at ev_LOCAL_SYSTEM).symm.trans ew_t_fixedSid_LOCAL_SYSTEM)
  have F_fixedSid_s_GROUP_POLICY_ADMINS := Fld.start ((fld_at ev_GROUP_POLICY_ADMINS).symm.trans (null_v n38))
  have F_fixedSid_s_DOMAIN_USERS := Fld.start ((fld_at ev_DOMAIN_USERS).symm.trans (null_v n40))
  have F_fixedSid_s_LOCAL_GUEST := Fld.start ((fld_at ev_LOCAL_GUEST).symm.trans (null_v n42))
  obtain ⟨t_fixedSid_PRINTER_OPERATORS, ew_t_fixedSid_PRINTER_OPERATORS⟩ := exa_v n44
  have F_fixedSid_s_PRINTER_OPERATORS := Fld.start ((fld_at ev_PRINTER_OPERATORS).symm.trans ew_t_fixedSid_PRINTER_OPERATORS)
  obtain ⟨t_fixedSid_POWER_USERS, ew_t_fixedSid_POWER_USERS⟩ := exa_v n46
  have F_fixedSid_s_POWER_USERS := Fld.start ((fld_at ev_POWER_USERS).symm.trans ew_t_fixedSid_POWER_USERS)
  obtain ⟨t_fixedSid_BACKUP_OPERATORS, ew_t_fixedSid_BACKUP_OPERATORS⟩ := exa_v n48
  have F_fixedSid_s_BACKUP_OPERATORS := Fld.start ((fld_at ev_BACKUP_OPERATORS).symm.trans ew_t_fixedSid_BACKUP_OPERATORS)
  obtain ⟨t_fixedSid_INTERACTIVE, ew_t_fixedSid_INTERACTIVE⟩ := exa_v n50
  have F_fixedSid_s_INTERACTIVE := Fld.start ((fld_at ev_INTERACTIVE).symm.trans ew_t_fixedSid_INTERACTIVE)
  obtain ⟨t_fixedSid_CREATOR_GROUP, ew_t_fixedSid_CREATOR_GROUP⟩ := exa_v n52
  have F_fixedSid_s_CREATOR_GROUP := Fld.start ((fld_at ev_CREATOR_GROUP).symm.trans ew_t_fixedSid_CREATOR_GROUP)
  have F_fixedSid_s_DOMAIN_COMPUTERS := Fld.start ((fld_at ev_DOMAIN_COMPUTERS).symm.trans (null_v n54))
  obtain ⟨t_fixedSid_ENTERPRISE_DOMAIN_CONTROLLERS, ew_t_fixedSid_ENTERPRISE_DOMAIN_CONTROLLERS⟩ := exa_v n56
  have F_fixedSid_s_ENTERPRISE_DOMAIN_CONTROLLERS := Fld.start ((fld_at ev_ENTERPRISE_DOMAIN_CONTROLLERS).symm.trans ew_t_fixedSid_ENTERPRISE_DOMAIN_CONTROLLERS)
  have F_fixedSid_s_DOMAIN_DOMAIN_CONTROLLERS := Fld.start ((fld_at ev_DOMAIN_DOMAIN_CONTROLLERS).symm.trans (null_v n58))
  obtain ⟨t_fixedSid_NETWORK_CONFIGURATION_OPS, ew_t_fixedSid_NETWORK_CONFIGURATION_OPS⟩ := exa_v n60
  have F_fixedSid_s_NETWORK_CONFIGURATION_OPS := Fld.start ((fld_at ev_NETWORK_CONFIGURATION_OPS).symm.trans ew_t_fixedSid_NETWORK_CONFIGURATION_OPS)
  obtain ⟨t_fixedSid_BUILTIN_ADMINISTRATORS, ew_t_fixedSid_BUILTIN_ADMINISTRATORS⟩ := exa_v n62
  have F_fixedSid_s_BUILTIN_ADMINISTRATORS := Fld.start ((fld_at ev_BUILTIN_ADMINISTRATORS).symm.trans ew_t_fixedSid_BUILTIN_ADMINISTRATORS)
  obtain ⟨t_fixedSid_REPLICATOR, ew_t_fixedSid_REPLICATOR⟩ := exa_v n64
  have F_fixedSid_s_REPLICATOR := Fld.start ((fld_at ev_REPLICATOR).symm.trans ew_t_fixedSid_REPLICATOR)
  obtain ⟨t_fixedSid_REMOTE_DESKTOP, ew_t_fixedSid_REMOTE_DESKTOP⟩ := exa_v n66
  have F_fixedSid_s_REMOTE_DESKTOP := Fld.start ((fld_at ev_REMOTE_DESKTOP).symm.trans ew_t_fixedSid_REMOTE_DESKTOP)
  have F_fixedSid_s_LOCAL_ADMIN := Fld.start ((fld_at ev_LOCAL_ADMIN).symm.trans (null_v n68))
  have F_fixedSid_s_RAS_SERVERS := Fld.start ((fld_at ev_RAS_SERVERS).symm.trans (null_v n70))
  obtain ⟨t_fixedSid_PERSONAL_SELF, ew_t_fixedSid_PERSONAL_SELF⟩ := exa_v n72
  have F_fixedSid_s_PERSONAL_SELF := Fld.start ((fld_at ev_PERSONAL_SELF).symm.trans ew_t_fixedSid_PERSONAL_SELF)
  have F_fixedSid_s_SCHEMA_ADMINISTRATORS := Fld.start ((fld_at ev_SCHEMA_ADMINISTRATORS).symm.trans (null_v n74))
  obtain ⟨t_fixedSid_SERVICE, ew_t_fixedSid_SERVICE⟩ := exa_v n76
  have F_fixedSid_s_SERVICE := Fld.start ((fld_at ev_SERVICE).symm.trans ew_t_fixedSid_SERVICE)
  let A : Int → Addr := fun i => [s_ACCOUNT_OPERATORS, s_ALIAS_PREW2KCOMPACC, s_ANONYMOUS, s_AUTHENTICATED_USERS, s_BUILTIN_ADMINISTRATORS, s_BUILTIN_GUESTS, s_BACKUP_OPERATORS, s_BUILTIN_USERS, s_CERT_SERV_ADMINISTRATORS, s_CREATOR_GROUP, s_CREATOR_OWNER, s_DOMAIN_ADMINISTRATORS, s_DOMAIN_COMPUTERS, s_DOMAIN_DOMAIN_CONTROLLERS, s_DOMAIN_GUESTS, s_DOMAIN_USERS, s_ENTERPRISE_ADMINS, s_ENTERPRISE_DOMAIN_CONTROLLERS, s_EVERYONE, s_GROUP_POLICY_ADMINS, s_INTERACTIVE, s_LOCAL_ADMIN, s_LOCAL_GUEST, s_LOCAL_SERVICE, s_LOCAL_SYSTEM, s_NETWORK, s_NETWORK_CONFIGURATION_OPS, s_NETWORK_SERVICE, s_PRINTER_OPERATORS, s_PERSONAL_SELF, s_POWER_USERS, s_RAS_SERVERS, s_REMOTE_DESKTOP, s_REPLICATOR, s_RESTRICTED_CODE, s_SCHEMA_ADMINISTRATORS, s_SERVER_OPERATORS, s_SERVICE].getD i.toNat 0
  let Bv : Int → Value := fun i => ([(.ref t_fixedSid_ACCOUNT_OPERATORS), (.ref t_fixedSid_ALIAS_PREW2KCOMPACC), (.ref t_fixedSid_ANONYMOUS), (.ref t_fixedSid_AUTHENTICATED_USERS), (.ref t_fixedSid_BUILTIN_ADMINISTRATORS), (.ref t_fixedSid_BUILTIN_GUESTS), (.ref t_fixedSid_BACKUP_OPERATORS), (.ref t_fixedSid_BUILTIN_USERS), .null, (.ref t_fixedSid_CREATOR_GROUP), (.ref t_fixedSid_CREATOR_OWNER), .null, .null, .null, .null, .null, .null, (.ref t_fixedSid_ENTERPRISE_DOMAIN_CONTROLLERS), (.ref t_fixedSid_EVERYONE), .null, (.ref t_fixedSid_INTERACTIVE), .null, .null, (.ref t_fixedSid_LOCAL_SERVICE), (.ref t_fixedSid_LOCAL_SYSTEM), (.ref t_fixedSid_NETWORK), (.ref t_fixedSid_NETWORK_CONFIGURATION_OPS), (.ref t_fixedSid_NETWORK_SERVICE), (.ref t_fixedSid_PRINTER_OPERATORS), (.ref t_fixedSid_PERSONAL_SELF), (.ref t_fixedSid_POWER_USERS), .null, (.ref t_fixedSid_REMOTE_DESKTOP), (.ref t_fixedSid_REPLICATOR), (.ref t_fixedSid_RESTRICTED_CODE), .null, (.ref t_fixedSid_SERVER_OPERATORS), (.ref t_fixedSid_SERVICE)] : List Value).getD i.toNat .null
  have hE : ∀ i : Int, 0 ≤ i → i < 38 → Exa s s.heap (A i) "com/example/strict_sid/strictsid/known/WellKnownSid" := by
    intro i h0 h1
    rcases own_38i h0 h1 with rfl | rfl | rfl | rfl | rfl | rfl | rfl | rfl | rfl | rfl | rfl | rfl | rfl | rfl | rfl | rfl | rfl | rfl | rfl | rfl | rfl | rfl | rfl | rfl | rfl | rfl | rfl | rfl | rfl | rfl | rfl | rfl | rfl | rfl | rfl | rfl | rfl | rfl
    · exact E_s_ACCOUNT_OPERATORS
    · exact E_s_ALIAS_PREW2KCOMPACC
    · exact E_s_ANONYMOUS
    · exact E_s_AUTHENTICATED_USERS
    · exact E_s_BUILTIN_ADMINISTRATORS
    · exact E_s_BUILTIN_GUESTS
    · exact E_s_BACKUP_OPERATORS
    · exact E_s_BUILTIN_USERS
    · exact E_s_CERT_SERV_ADMINISTRATORS
    · exact E_s_CREATOR_GROUP
    · exact E_s_CREATOR_OWNER
    · exact E_s_DOMAIN_ADMINISTRATORS
    · exact E_s_DOMAIN_COMPUTERS
    · exact E_s_DOMAIN_DOMAIN_CONTROLLERS
    · exact E_s_DOMAIN_GUESTS
    · exact E_s_DOMAIN_USERS
    · exact E_s_ENTERPRISE_ADMINS
    · exact E_s_ENTERPRISE_DOMAIN_CONTROLLERS
    · exact E_s_EVERYONE
    · exact E_s_GROUP_POLICY_ADMINS
    · exact E_s_INTERACTIVE
    · exact E_s_LOCAL_ADMIN
    · exact E_s_LOCAL_GUEST
    · exact E_s_LOCAL_SERVICE
    · exact E_s_LOCAL_SYSTEM
    · exact E_s_NETWORK
    · exact E_s_NETWORK_CONFIGURATION_OPS
    · exact E_s_NETWORK_SERVICE
    · exact E_s_PRINTER_OPERATORS
    · exact E_s_PERSONAL_SELF
    · exact E_s_POWER_USERS
    · exact E_s_RAS_SERVERS
    · exact E_s_REMOTE_DESKTOP
    · exact E_s_REPLICATOR
    · exact E_s_RESTRICTED_CODE
    · exact E_s_SCHEMA_ADMINISTRATORS
    · exact E_s_SERVER_OPERATORS
    · exact E_s_SERVICE
  have hF : ∀ i : Int, 0 ≤ i → i < 38 → Fld s s.heap (A i) "com/example/strict_sid/strictsid/known/WellKnownSid" "fixedSid" "Lcom/example/strict_sid/strictsid/Sid;" (Bv i) := by
    intro i h0 h1
    rcases own_38i h0 h1 with rfl | rfl | rfl | rfl | rfl | rfl | rfl | rfl | rfl | rfl | rfl | rfl | rfl | rfl | rfl | rfl | rfl | rfl | rfl | rfl | rfl | rfl | rfl | rfl | rfl | rfl | rfl | rfl | rfl | rfl | rfl | rfl | rfl | rfl | rfl | rfl | rfl | rfl
    · exact F_fixedSid_s_ACCOUNT_OPERATORS
    · exact F_fixedSid_s_ALIAS_PREW2KCOMPACC
    · exact F_fixedSid_s_ANONYMOUS
    · exact F_fixedSid_s_AUTHENTICATED_USERS
    · exact F_fixedSid_s_BUILTIN_ADMINISTRATORS
    · exact F_fixedSid_s_BUILTIN_GUESTS
    · exact F_fixedSid_s_BACKUP_OPERATORS
    · exact F_fixedSid_s_BUILTIN_USERS
    · exact F_fixedSid_s_CERT_SERV_ADMINISTRATORS
    · exact F_fixedSid_s_CREATOR_GROUP
    · exact F_fixedSid_s_CREATOR_OWNER
    · exact F_fixedSid_s_DOMAIN_ADMINISTRATORS
    · exact F_fixedSid_s_DOMAIN_COMPUTERS
    · exact F_fixedSid_s_DOMAIN_DOMAIN_CONTROLLERS
    · exact F_fixedSid_s_DOMAIN_GUESTS
    · exact F_fixedSid_s_DOMAIN_USERS
    · exact F_fixedSid_s_ENTERPRISE_ADMINS
    · exact F_fixedSid_s_ENTERPRISE_DOMAIN_CONTROLLERS
    · exact F_fixedSid_s_EVERYONE
    · exact F_fixedSid_s_GROUP_POLICY_ADMINS
    · exact F_fixedSid_s_INTERACTIVE
    · exact F_fixedSid_s_LOCAL_ADMIN
    · exact F_fixedSid_s_LOCAL_GUEST
    · exact F_fixedSid_s_LOCAL_SERVICE
    · exact F_fixedSid_s_LOCAL_SYSTEM
    · exact F_fixedSid_s_NETWORK
    · exact F_fixedSid_s_NETWORK_CONFIGURATION_OPS
    · exact F_fixedSid_s_NETWORK_SERVICE
    · exact F_fixedSid_s_PRINTER_OPERATORS
    · exact F_fixedSid_s_PERSONAL_SELF
    · exact F_fixedSid_s_POWER_USERS
    · exact F_fixedSid_s_RAS_SERVERS
    · exact F_fixedSid_s_REMOTE_DESKTOP
    · exact F_fixedSid_s_REPLICATOR
    · exact F_fixedSid_s_RESTRICTED_CODE
    · exact F_fixedSid_s_SCHEMA_ADMINISTRATORS
    · exact F_fixedSid_s_SERVER_OPERATORS
    · exact F_fixedSid_s_SERVICE
  have hB : ∀ i : Int, 0 ≤ i → i < 38 → (Bv i).isRef = true := by
    intro i h0 h1
    rcases own_38i h0 h1 with rfl | rfl | rfl | rfl | rfl | rfl | rfl | rfl | rfl | rfl | rfl | rfl | rfl | rfl | rfl | rfl | rfl | rfl | rfl | rfl | rfl | rfl | rfl | rfl | rfl | rfl | rfl | rfl | rfl | rfl | rfl | rfl | rfl | rfl | rfl | rfl | rfl | rfl <;> rfl
  have hfin : ∀ x : Int32, 0 ≤ x.toInt → x.toInt < 38 → own_nul (Bv x.toInt) = own_exp x := by
    intro x h0 h1
    rcases own_38i h0 h1 with hk | hk | hk | hk | hk | hk | hk | hk | hk | hk | hk | hk | hk | hk | hk | hk | hk | hk | hk | hk | hk | hk | hk | hk | hk | hk | hk | hk | hk | hk | hk | hk | hk | hk | hk | hk | hk | hk
    · rw [hk, own_exp0 (by omega)]; rfl
    · rw [hk, own_exp0 (by omega)]; rfl
    · rw [hk, own_exp0 (by omega)]; rfl
    · rw [hk, own_exp0 (by omega)]; rfl
    · rw [hk, own_exp0 (by omega)]; rfl
    · rw [hk, own_exp0 (by omega)]; rfl
    · rw [hk, own_exp0 (by omega)]; rfl
    · rw [hk, own_exp0 (by omega)]; rfl
    · rw [hk, own_exp1 (by omega)]; rfl
    · rw [hk, own_exp0 (by omega)]; rfl
    · rw [hk, own_exp0 (by omega)]; rfl
    · rw [hk, own_exp1 (by omega)]; rfl
    · rw [hk, own_exp1 (by omega)]; rfl
    · rw [hk, own_exp1 (by omega)]; rfl
    · rw [hk, own_exp1 (by omega)]; rfl
    · rw [hk, own_exp1 (by omega)]; rfl
    · rw [hk, own_exp1 (by omega)]; rfl
    · rw [hk, own_exp0 (by omega)]; rfl
    · rw [hk, own_exp0 (by omega)]; rfl
    · rw [hk, own_exp1 (by omega)]; rfl
    · rw [hk, own_exp0 (by omega)]; rfl
    · rw [hk, own_exp1 (by omega)]; rfl
    · rw [hk, own_exp1 (by omega)]; rfl
    · rw [hk, own_exp0 (by omega)]; rfl
    · rw [hk, own_exp0 (by omega)]; rfl
    · rw [hk, own_exp0 (by omega)]; rfl
    · rw [hk, own_exp0 (by omega)]; rfl
    · rw [hk, own_exp0 (by omega)]; rfl
    · rw [hk, own_exp0 (by omega)]; rfl
    · rw [hk, own_exp0 (by omega)]; rfl
    · rw [hk, own_exp0 (by omega)]; rfl
    · rw [hk, own_exp1 (by omega)]; rfl
    · rw [hk, own_exp0 (by omega)]; rfl
    · rw [hk, own_exp0 (by omega)]; rfl
    · rw [hk, own_exp0 (by omega)]; rfl
    · rw [hk, own_exp1 (by omega)]; rfl
    · rw [hk, own_exp0 (by omega)]; rfl
    · rw [hk, own_exp0 (by omega)]; rfl
  obtain ⟨n, o, h1, h2, h3, _, L, rfl, ⟨rfl, N⟩, hq⟩ := rm0 l s _ hw tables_1 i0 A Bv s.heap s.heap.size (Nat.le_refl _) (Old.start s) S_ACCOUNT_OPERATORS S_ALIAS_PREW2KCOMPACC S_ANONYMOUS S_AUTHENTICATED_USERS S_BUILTIN_ADMINISTRATORS S_BUILTIN_GUESTS S_BACKUP_OPERATORS S_BUILTIN_USERS S_CERT_SERV_ADMINISTRATORS S_CREATOR_GROUP S_CREATOR_OWNER S_DOMAIN_ADMINISTRATORS S_DOMAIN_COMPUTERS S_DOMAIN_DOMAIN_CONTROLLERS S_DOMAIN_GUESTS S_DOMAIN_USERS S_ENTERPRISE_ADMINS S_ENTERPRISE_DOMAIN_CONTROLLERS S_EVERYONE S_GROUP_POLICY_ADMINS S_INTERACTIVE S_LOCAL_ADMIN S_LOCAL_GUEST S_LOCAL_SERVICE S_LOCAL_SYSTEM S_NETWORK S_NETWORK_CONFIGURATION_OPS S_NETWORK_SERVICE S_PRINTER_OPERATORS S_PERSONAL_SELF S_POWER_USERS S_RAS_SERVERS S_REMOTE_DESKTOP S_REPLICATOR S_RESTRICTED_CODE S_SCHEMA_ADMINISTRATORS S_SERVER_OPERATORS S_SERVICE hE hF hB hfin p e ha hc hk s m _ below hf ((Spec.applies_iff_loose hf).mp happ).1 ⟨rfl, State.Warmed39.refl s, rfl⟩ trivial
  refine ⟨n, _, h1, h2, h3, hpost _ _ _ _ _ _ ⟨Cond.after_iff.mpr rfl, Cond.after_iff.mpr (eq_i res_at (Term.int_eval (1)) rfl), trivial⟩ ⟨hq.1, hq.2.1, (hq.2.2.sift fun y hy => Or.inr (N y hy)).mono (by decide) (by decide)⟩⟩
theorem main_1_1 : Claimed_1_1 := comes_1 fun _ _ _ _ _ _ h hF => ⟨h.1, hF⟩
theorem main_1_2 : Claimed_1_2 := comes_1 fun _ _ _ _ _ _ h hF => ⟨h.2.1, hF⟩
end Jvm.Pilot.@@N@@
namespace Jvm.Pilot.@@N@@
open Jvm Jvm.ClassFile Sem Op Lib Jvm.Free Jvm.Stand Jvm.Pilot.@@N@@.Jvm.D
/-! MADE BY PROGRAM (witnessworld.py) out of the Statement's table words and the real class files: 13 classes; the members and pool entries that the words name. The judged class is class 1, her method 1. -/
namespace start1
open Jvm.ClassFile
def u (s : String) : CpInfo := .utf8 (stringToUtf16 s)
/-- a pool by its gaps: so many unusable entries, then the entry; so many at the end -/
def gap : Nat → List CpInfo → List CpInfo
  | 0, r => r
  | n + 1, r => .unusable :: gap n r
def poolList (es : List (Nat × CpInfo)) (last : Nat) : List CpInfo := es.foldr (fun e r => gap e.1 (e.2 :: r)) (gap last [])
def pool (es : List (Nat × CpInfo)) (last : Nat) : Array CpInfo := ⟨poolList es last⟩
def fileOf (pool : Array CpInfo) (this : Nat) (attrs : Array Attribute := #[]) (ms : Array MethodInfo := #[]) (fl : Nat := 33) (sup : Nat := 0) (ifs : Array Nat := #[]) (fds : Array FieldInfo := #[]) : ClassFile where
  minorVersion := 0
  majorVersion := 65
  constantPool := pool
  accessFlags := fl
  thisClass := this
  superClass := sup
  interfaces := ifs
  fields := fds
  methods := ms
  attributes := attrs
def plain (name : String) (sup : Option ClassId) : Class where
  name := name
  kind := .ordinary
  loader := none
  accessFlags := 33
  super := sup
  interfaces := #[]
  cf := none
  fields := #[]
  methods := #[]
  instanceTypes := #[]
  staticTypes := #[]
  resolved := #[]
  callSites := []
  init := .initialized
  statics := none
  mirror := none

def pool0 : Array CpInfo := pool [(5, u "<init>"), (0, u "()V"), (1, .class_ 10), (1, u "java/lang/Object")] 113

def k0m0 : Method := { name := "<init>", desc := "()V", sig := { parameters := [], returnType := none }, accessFlags := 1, code := none }
/-- java/lang/Object -/
def k0 : Class := { plain "java/lang/Object" none with
  accessFlags := 33
  interfaces := #[]
  cf := some (fileOf pool0 8 #[] #[{ accessFlags := 1, nameIndex := 5, descriptorIndex := 6, attributes := #[] }] 33 0 #[] #[])
  fields := #[]
  methods := #[k0m0]
  instanceTypes := #[]
  staticTypes := #[]
  resolved := Array.replicate 124 none
  statics := none }

def pool1 : Array CpInfo := pool [(2, .class_ 4), (1, u "java/lang/Object"), (0, u "<init>"), (0, u "()V"), (0, .integer 2147483647), (0, .methodref 9 10), (0, .class_ 11), (0, .nameAndType 12 13), (0, u "com/example/strict_sid/strictsid/known/WellKnownSidIsDomainRelativePinLaw"), (0, u "pick"), (0, u "(I)Lcom/example/strict_sid/strictsid/known/WellKnownSid;"), (0, .methodref 15 16), (0, .class_ 17), (0, .nameAndType 18 19), (0, u "com/example/strict_sid/strictsid/known/WellKnownSid"), (0, u "isDomainRelative"), (0, u "()Z"), (0, .methodref 9 21), (0, .nameAndType 22 23), (0, u "expected"), (0, u "(I)Z"), (0, .fieldref 15 25), (0, .nameAndType 26 27), (0, u "ACCOUNT_OPERATORS"), (0, u "Lcom/example/strict_sid/strictsid/known/WellKnownSid;"), (0, .fieldref 15 29), (0, .nameAndType 30 27), (0, u "ALIAS_PREW2KCOMPACC"), (0, .fieldref 15 32), (0, .nameAndType 33 27), (0, u "ANONYMOUS"), (0, .fieldref 15 35), (0, .nameAndType 36 27), (0, u "AUTHENTICATED_USERS"), (0, .fieldref 15 38), (0, .nameAndType 39 27), (0, u "BUILTIN_ADMINISTRATORS"), (0, .fieldref 15 41), (0, .nameAndType 42 27), (0, u "BUILTIN_GUESTS"), (0, .fieldref 15 44), (0, .nameAndType 45 27), (0, u "BACKUP_OPERATORS"), (0, .fieldref 15 47), (0, .nameAndType 48 27), (0, u "BUILTIN_USERS"), (0, .fieldref 15 50), (0, .nameAndType 51 27), (0, u "CERT_SERV_ADMINISTRATORS"), (0, .fieldref 15 53), (0, .nameAndType 54 27), (0, u "CREATOR_GROUP"), (0, .fieldref 15 56), (0, .nameAndType 57 27), (0, u "CREATOR_OWNER"), (0, .fieldref 15 59), (0, .nameAndType 60 27), (0, u "DOMAIN_ADMINISTRATORS"), (0, .fieldref 15 62), (0, .nameAndType 63 27), (0, u "DOMAIN_COMPUTERS"), (0, .fieldref 15 65), (0, .nameAndType 66 27), (0, u "DOMAIN_DOMAIN_CONTROLLERS"), (0, .fieldref 15 68), (0, .nameAndType 69 27), (0, u "DOMAIN_GUESTS"), (0, .fieldref 15 71), (0, .nameAndType 72 27), (0, u "DOMAIN_USERS"), (0, .fieldref 15 74), (0, .nameAndType 75 27), (0, u "ENTERPRISE_ADMINS"), (0, .fieldref 15 77), (0, .nameAndType 78 27), (0, u "ENTERPRISE_DOMAIN_CONTROLLERS"), (0, .fieldref 15 80), (0, .nameAndType 81 27), (0, u "EVERYONE"), (0, .fieldref 15 83), (0, .nameAndType 84 27), (0, u "GROUP_POLICY_ADMINS"), (0, .fieldref 15 86), (0, .nameAndType 87 27), (0, u "INTERACTIVE"), (0, .fieldref 15 89), (0, .nameAndType 90 27), (0, u "LOCAL_ADMIN"), (0, .fieldref 15 92), (0, .nameAndType 93 27), (0, u "LOCAL_GUEST"), (0, .fieldref 15 95), (0, .nameAndType 96 27), (0, u "LOCAL_SERVICE"), (0, .fieldref 15 98), (0, .nameAndType 99 27), (0, u "LOCAL_SYSTEM"), (0, .fieldref 15 101), (0, .nameAndType 102 27), (0, u "NETWORK"), (0, .fieldref 15 104), (0, .nameAndType 105 27), (0, u "NETWORK_CONFIGURATION_OPS"), (0, .fieldref 15 107), (0, .nameAndType 108 27), (0, u "NETWORK_SERVICE"), (0, .fieldref 15 110), (0, .nameAndType 111 27), (0, u "PRINTER_OPERATORS"), (0, .fieldref 15 113), (0, .nameAndType 114 27), (0, u "PERSONAL_SELF"), (0, .fieldref 15 116), (0, .nameAndType 117 27), (0, u "POWER_USERS"), (0, .fieldref 15 119), (0, .nameAndType 120 27), (0, u "RAS_SERVERS"), (0, .fieldref 15 122), (0, .nameAndType 123 27), (0, u "REMOTE_DESKTOP"), (0, .fieldref 15 125), (0, .nameAndType 126 27), (0, u "REPLICATOR"), (0, .fieldref 15 128), (0, .nameAndType 129 27), (0, u "RESTRICTED_CODE"), (0, .fieldref 15 131), (0, .nameAndType 132 27), (0, u "SCHEMA_ADMINISTRATORS"), (0, .fieldref 15 134), (0, .nameAndType 135 27), (0, u "SERVER_OPERATORS"), (0, .fieldref 15 137), (0, .nameAndType 138 27), (0, u "SERVICE"), (2, u "law")] 3

def k1m0 : Method := { name := "<init>", desc := "()V", sig := { parameters := [], returnType := none }, accessFlags := 2, code := none }
def k1c1 : Code := { maxStack := 2, maxLocals := 3, code := code, exceptionTable := #[], attributes := #[] }
def k1m1 : Method := { name := "law", desc := "(I)Z", sig := { parameters := [.int], returnType := some .boolean }, accessFlags := 9, code := some k1c1 }
def k1c2 : Code := { maxStack := 2, maxLocals := 1, code := method_3_code, exceptionTable := #[], attributes := #[] }
def k1m2 : Method := { name := "expected", desc := "(I)Z", sig := { parameters := [.int], returnType := some .boolean }, accessFlags := 10, code := some k1c2 }
def k1c3 : Code := { maxStack := 1, maxLocals := 1, code := method_4_code, exceptionTable := #[], attributes := #[] }
def k1m3 : Method := { name := "pick", desc := "(I)Lcom/example/strict_sid/strictsid/known/WellKnownSid;", sig := { parameters := [.int], returnType := some (.object "com/example/strict_sid/strictsid/known/WellKnownSid") }, accessFlags := 10, code := some k1c3 }
/-- com/example/strict_sid/strictsid/known/WellKnownSidIsDomainRelativePinLaw -/
def k1 : Class := { plain "com/example/strict_sid/strictsid/known/WellKnownSidIsDomainRelativePinLaw" (some 0) with
  accessFlags := 49
  interfaces := #[]
  cf := some (fileOf pool1 9 #[] #[{ accessFlags := 2, nameIndex := 5, descriptorIndex := 6, attributes := #[] }, { accessFlags := 9, nameIndex := 141, descriptorIndex := 23, attributes := #[] }, { accessFlags := 10, nameIndex := 22, descriptorIndex := 23, attributes := #[] }, { accessFlags := 10, nameIndex := 12, descriptorIndex := 13, attributes := #[] }] 49 2 #[] #[])
  fields := #[]
  methods := #[k1m0, k1m1, k1m2, k1m3]
  instanceTypes := #[]
  staticTypes := #[]
  resolved := Array.replicate 145 none
  statics := none }

def pool2 : Array CpInfo := pool [(1, .class_ 2), (0, u "java/lang/constant/Constable"), (0, .class_ 4), (0, u "java/lang/Object")] 6

/-- java/lang/constant/Constable -/
def k2 : Class := { plain "java/lang/constant/Constable" (some 0) with
  accessFlags := 1537
  interfaces := #[]
  cf := some (fileOf pool2 1 #[] #[] 1537 3 #[] #[])
  fields := #[]
  methods := #[]
  instanceTypes := #[]
  staticTypes := #[]
  resolved := Array.replicate 11 none
  statics := none }

def pool3 : Array CpInfo := pool [(1, .class_ 2), (0, u "java/lang/Comparable"), (0, .class_ 4), (0, u "java/lang/Object")] 7

/-- java/lang/Comparable -/
def k3 : Class := { plain "java/lang/Comparable" (some 0) with
  accessFlags := 1537
  interfaces := #[]
  cf := some (fileOf pool3 1 #[] #[] 1537 3 #[] #[])
  fields := #[]
  methods := #[]
  instanceTypes := #[]
  staticTypes := #[]
  resolved := Array.replicate 12 none
  statics := none }

def pool4 : Array CpInfo := pool [(1, .class_ 2), (0, u "java/io/Serializable"), (0, .class_ 4), (0, u "java/lang/Object")] 2

/-- java/io/Serializable -/
def k4 : Class := { plain "java/io/Serializable" (some 0) with
  accessFlags := 1537
  interfaces := #[]
  cf := some (fileOf pool4 1 #[] #[] 1537 3 #[] #[])
  fields := #[]
  methods := #[]
  instanceTypes := #[]
  staticTypes := #[]
  resolved := Array.replicate 7 none
  statics := none }

def pool5 : Array CpInfo := pool [(2, .class_ 4), (1, u "java/lang/Enum"), (0, u "name"), (0, u "Ljava/lang/String;"), (2, u "ordinal"), (0, u "I"), (1, .class_ 14), (1, u "java/lang/Object"), (4, u "hash"), (86, .class_ 108), (1, u "java/lang/Enum$EnumDesc"), (2, .class_ 112), (0, u "java/lang/constant/Constable"), (0, .class_ 114), (0, u "java/lang/Comparable"), (0, .class_ 116), (0, u "java/io/Serializable")] 87

/-- java/lang/Enum -/
def k5 : Class := { plain "java/lang/Enum" (some 0) with
  accessFlags := 1057
  interfaces := #[2, 3, 4]
  cf := some (fileOf pool5 2 #[.nestMembers #[106]] #[] 1057 12 #[111, 113, 115] #[{ accessFlags := 18, nameIndex := 5, descriptorIndex := 6, attributes := #[] }, { accessFlags := 18, nameIndex := 9, descriptorIndex := 10, attributes := #[] }, { accessFlags := 2, nameIndex := 19, descriptorIndex := 10, attributes := #[] }])
  fields := #[{ name := "name", type := (.object "java/lang/String"), accessFlags := 18, slot := 0, constantValue := 0 }, { name := "ordinal", type := .int, accessFlags := 18, slot := 1, constantValue := 0 }, { name := "hash", type := .int, accessFlags := 2, slot := 2, constantValue := 0 }]
  methods := #[]
  instanceTypes := #[(.object "java/lang/String"), .int, .int]
  staticTypes := #[]
  resolved := Array.replicate 204 none
  statics := none }

def pool6 : Array CpInfo := pool [(1, .class_ 2), (0, u "com/example/strict_sid/strictsid/known/WellKnownSid"), (2, u "ACCOUNT_OPERATORS"), (0, u "Lcom/example/strict_sid/strictsid/known/WellKnownSid;"), (2, u "ALIAS_PREW2KCOMPACC"), (2, u "ANONYMOUS"), (2, u "AUTHENTICATED_USERS"), (2, u "BUILTIN_ADMINISTRATORS"), (2, u "BUILTIN_GUESTS"), (2, u "BACKUP_OPERATORS"), (2, u "BUILTIN_USERS"), (2, u "CERT_SERV_ADMINISTRATORS"), (2, u "CREATOR_GROUP"), (2, u "CREATOR_OWNER"), (2, u "DOMAIN_ADMINISTRATORS"), (2, u "DOMAIN_COMPUTERS"), (2, u "DOMAIN_DOMAIN_CONTROLLERS"), (2, u "DOMAIN_GUESTS"), (2, u "DOMAIN_USERS"), (2, u "ENTERPRISE_ADMINS"), (2, u "ENTERPRISE_DOMAIN_CONTROLLERS"), (2, u "EVERYONE"), (2, u "GROUP_POLICY_ADMINS"), (2, u "INTERACTIVE"), (2, u "LOCAL_ADMIN"), (2, u "LOCAL_GUEST"), (2, u "LOCAL_SERVICE"), (2, u "LOCAL_SYSTEM"), (2, u "NETWORK"), (2, u "NETWORK_CONFIGURATION_OPS"), (2, u "NETWORK_SERVICE"), (2, u "PRINTER_OPERATORS"), (2, u "PERSONAL_SELF"), (2, u "POWER_USERS"), (2, u "RAS_SERVERS"), (2, u "REMOTE_DESKTOP"), (2, u "REPLICATOR"), (2, u "RESTRICTED_CODE"), (2, u "SCHEMA_ADMINISTRATORS"), (2, u "SERVER_OPERATORS"), (2, u "SERVICE"), (2, u "$VALUES"), (0, u "[Lcom/example/strict_sid/strictsid/known/WellKnownSid;"), (6, .class_ 130), (1, u "java/lang/Enum"), (8, u "sddlAlias"), (0, u "Ljava/lang/String;"), (6, .fieldref 1 148), (0, .nameAndType 149 150), (0, u "fixedSid"), (0, u "Lcom/example/strict_sid/strictsid/Sid;"), (4, u "rid"), (0, u "J"), (9, u "BY_SDDL_ALIAS"), (0, u "Ljava/util/Map;"), (22, u "BY_FIXED_SID"), (22, u "BY_RID"), (10, u "isDomainRelative"), (0, u "()Z"), (238, u "MAX_QUOTED_LENGTH"), (0, u "I")] 46

def k6c0 : Code := { maxStack := 1, maxLocals := 1, code := prog_3_method_9_code, exceptionTable := #[], attributes := #[] }
def k6m0 : Method := { name := "isDomainRelative", desc := "()Z", sig := { parameters := [], returnType := some .boolean }, accessFlags := 1, code := some k6c0 }
/-- com/example/strict_sid/strictsid/known/WellKnownSid -/
def k6 : Class := { plain "com/example/strict_sid/strictsid/known/WellKnownSid" (some 5) with
  accessFlags := 16433
  interfaces := #[]
  cf := some (fileOf pool6 1 #[] #[{ accessFlags := 1, nameIndex := 224, descriptorIndex := 225, attributes := #[] }] 16433 128 #[] #[{ accessFlags := 16409, nameIndex := 5, descriptorIndex := 6, attributes := #[] }, { accessFlags := 16409, nameIndex := 9, descriptorIndex := 6, attributes := #[] }, { accessFlags := 16409, nameIndex := 12, descriptorIndex := 6, attributes := #[] }, { accessFlags := 16409, nameIndex := 15, descriptorIndex := 6, attributes := #[] }, { accessFlags := 16409, nameIndex := 18, descriptorIndex := 6, attributes := #[] }, { accessFlags := 16409, nameIndex := 21, descriptorIndex := 6, attributes := #[] }, { accessFlags := 16409, nameIndex := 24, descriptorIndex := 6, attributes := #[] }, { accessFlags := 16409, nameIndex := 27, descriptorIndex := 6, attributes := #[] }, { accessFlags := 16409, nameIndex := 30, descriptorIndex := 6, attributes := #[] }, { accessFlags := 16409, nameIndex := 33, descriptorIndex := 6, attributes := #[] }, { accessFlags := 16409, nameIndex := 36, descriptorIndex := 6, attributes := #[] }, { accessFlags := 16409, nameIndex := 39, descriptorIndex := 6, attributes := #[] }, { accessFlags := 16409, nameIndex := 42, descriptorIndex := 6, attributes := #[] }, { accessFlags := 16409, nameIndex := 45, descriptorIndex := 6, attributes := #[] }, { accessFlags := 16409, nameIndex := 48, descriptorIndex := 6, attributes := #[] }, { accessFlags := 16409, nameIndex := 51, descriptorIndex := 6, attributes := #[] }, { accessFlags := 16409, nameIndex := 54, descriptorIndex := 6, attributes := #[] }, { accessFlags := 16409, nameIndex := 57, descriptorIndex := 6, attributes := #[] }, { accessFlags := 16409, nameIndex := 60, descriptorIndex := 6, attributes := #[] }, { accessFlags := 16409, nameIndex := 63, descriptorIndex := 6, attributes := #[] }, { accessFlags := 16409, nameIndex := 66, descriptorIndex := 6, attributes := #[] }, { accessFlags := 16409, nameIndex := 69, descriptorIndex := 6, attributes := #[] }, { accessFlags := 16409, nameIndex := 72, descriptorIndex := 6, attributes := #[] }, { accessFlags := 16409, nameIndex := 75, descriptorIndex := 6, attributes := #[] }, { accessFlags := 16409, nameIndex := 78, descriptorIndex := 6, attributes := #[] }, { accessFlags := 16409, nameIndex := 81, descriptorIndex := 6, attributes := #[] }, { accessFlags := 16409, nameIndex := 84, descriptorIndex := 6, attributes := #[] }, { accessFlags := 16409, nameIndex := 87, descriptorIndex := 6, attributes := #[] }, { accessFlags := 16409, nameIndex := 90, descriptorIndex := 6, attributes := #[] }, { accessFlags := 16409, nameIndex := 93, descriptorIndex := 6, attributes := #[] }, { accessFlags := 16409, nameIndex := 96, descriptorIndex := 6, attributes := #[] }, { accessFlags := 16409, nameIndex := 99, descriptorIndex := 6, attributes := #[] }, { accessFlags := 16409, nameIndex := 102, descriptorIndex := 6, attributes := #[] }, { accessFlags := 16409, nameIndex := 105, descriptorIndex := 6, attributes := #[] }, { accessFlags := 16409, nameIndex := 108, descriptorIndex := 6, attributes := #[] }, { accessFlags := 16409, nameIndex := 111, descriptorIndex := 6, attributes := #[] }, { accessFlags := 16409, nameIndex := 114, descriptorIndex := 6, attributes := #[] }, { accessFlags := 16409, nameIndex := 117, descriptorIndex := 6, attributes := #[] }, { accessFlags := 26, nameIndex := 464, descriptorIndex := 465, attributes := #[] }, { accessFlags := 26, nameIndex := 166, descriptorIndex := 167, attributes := #[] }, { accessFlags := 26, nameIndex := 190, descriptorIndex := 167, attributes := #[] }, { accessFlags := 26, nameIndex := 213, descriptorIndex := 167, attributes := #[] }, { accessFlags := 18, nameIndex := 139, descriptorIndex := 140, attributes := #[] }, { accessFlags := 18, nameIndex := 149, descriptorIndex := 150, attributes := #[] }, { accessFlags := 18, nameIndex := 155, descriptorIndex := 156, attributes := #[] }, { accessFlags := 4122, nameIndex := 120, descriptorIndex := 121, attributes := #[] }])
  fields := #[{ name := "ACCOUNT_OPERATORS", type := (.object "com/example/strict_sid/strictsid/known/WellKnownSid"), accessFlags := 16409, slot := 0, constantValue := 0 }, { name := "ALIAS_PREW2KCOMPACC", type := (.object "com/example/strict_sid/strictsid/known/WellKnownSid"), accessFlags := 16409, slot := 1, constantValue := 0 }, { name := "ANONYMOUS", type := (.object "com/example/strict_sid/strictsid/known/WellKnownSid"), accessFlags := 16409, slot := 2, constantValue := 0 }, { name := "AUTHENTICATED_USERS", type := (.object "com/example/strict_sid/strictsid/known/WellKnownSid"), accessFlags := 16409, slot := 3, constantValue := 0 }, { name := "BUILTIN_ADMINISTRATORS", type := (.object "com/example/strict_sid/strictsid/known/WellKnownSid"), accessFlags := 16409, slot := 4, constantValue := 0 }, { name := "BUILTIN_GUESTS", type := (.object "com/example/strict_sid/strictsid/known/WellKnownSid"), accessFlags := 16409, slot := 5, constantValue := 0 }, { name := "BACKUP_OPERATORS", type := (.object "com/example/strict_sid/strictsid/known/WellKnownSid"), accessFlags := 16409, slot := 6, constantValue := 0 }, { name := "BUILTIN_USERS", type := (.object "com/example/strict_sid/strictsid/known/WellKnownSid"), accessFlags := 16409, slot := 7, constantValue := 0 }, { name := "CERT_SERV_ADMINISTRATORS", type := (.object "com/example/strict_sid/strictsid/known/WellKnownSid"), accessFlags := 16409, slot := 8, constantValue := 0 }, { name := "CREATOR_GROUP", type := (.object "com/example/strict_sid/strictsid/known/WellKnownSid"), accessFlags := 16409, slot := 9, constantValue := 0 }, { name := "CREATOR_OWNER", type := (.object "com/example/strict_sid/strictsid/known/WellKnownSid"), accessFlags := 16409, slot := 10, constantValue := 0 }, { name := "DOMAIN_ADMINISTRATORS", type := (.object "com/example/strict_sid/strictsid/known/WellKnownSid"), accessFlags := 16409, slot := 11, constantValue := 0 }, { name := "DOMAIN_COMPUTERS", type := (.object "com/example/strict_sid/strictsid/known/WellKnownSid"), accessFlags := 16409, slot := 12, constantValue := 0 }, { name := "DOMAIN_DOMAIN_CONTROLLERS", type := (.object "com/example/strict_sid/strictsid/known/WellKnownSid"), accessFlags := 16409, slot := 13, constantValue := 0 }, { name := "DOMAIN_GUESTS", type := (.object "com/example/strict_sid/strictsid/known/WellKnownSid"), accessFlags := 16409, slot := 14, constantValue := 0 }, { name := "DOMAIN_USERS", type := (.object "com/example/strict_sid/strictsid/known/WellKnownSid"), accessFlags := 16409, slot := 15, constantValue := 0 }, { name := "ENTERPRISE_ADMINS", type := (.object "com/example/strict_sid/strictsid/known/WellKnownSid"), accessFlags := 16409, slot := 16, constantValue := 0 }, { name := "ENTERPRISE_DOMAIN_CONTROLLERS", type := (.object "com/example/strict_sid/strictsid/known/WellKnownSid"), accessFlags := 16409, slot := 17, constantValue := 0 }, { name := "EVERYONE", type := (.object "com/example/strict_sid/strictsid/known/WellKnownSid"), accessFlags := 16409, slot := 18, constantValue := 0 }, { name := "GROUP_POLICY_ADMINS", type := (.object "com/example/strict_sid/strictsid/known/WellKnownSid"), accessFlags := 16409, slot := 19, constantValue := 0 }, { name := "INTERACTIVE", type := (.object "com/example/strict_sid/strictsid/known/WellKnownSid"), accessFlags := 16409, slot := 20, constantValue := 0 }, { name := "LOCAL_ADMIN", type := (.object "com/example/strict_sid/strictsid/known/WellKnownSid"), accessFlags := 16409, slot := 21, constantValue := 0 }, { name := "LOCAL_GUEST", type := (.object "com/example/strict_sid/strictsid/known/WellKnownSid"), accessFlags := 16409, slot := 22, constantValue := 0 }, { name := "LOCAL_SERVICE", type := (.object "com/example/strict_sid/strictsid/known/WellKnownSid"), accessFlags := 16409, slot := 23, constantValue := 0 }, { name := "LOCAL_SYSTEM", type := (.object "com/example/strict_sid/strictsid/known/WellKnownSid"), accessFlags := 16409, slot := 24, constantValue := 0 }, { name := "NETWORK", type := (.object "com/example/strict_sid/strictsid/known/WellKnownSid"), accessFlags := 16409, slot := 25, constantValue := 0 }, { name := "NETWORK_CONFIGURATION_OPS", type := (.object "com/example/strict_sid/strictsid/known/WellKnownSid"), accessFlags := 16409, slot := 26, constantValue := 0 }, { name := "NETWORK_SERVICE", type := (.object "com/example/strict_sid/strictsid/known/WellKnownSid"), accessFlags := 16409, slot := 27, constantValue := 0 }, { name := "PRINTER_OPERATORS", type := (.object "com/example/strict_sid/strictsid/known/WellKnownSid"), accessFlags := 16409, slot := 28, constantValue := 0 }, { name := "PERSONAL_SELF", type := (.object "com/example/strict_sid/strictsid/known/WellKnownSid"), accessFlags := 16409, slot := 29, constantValue := 0 }, { name := "POWER_USERS", type := (.object "com/example/strict_sid/strictsid/known/WellKnownSid"), accessFlags := 16409, slot := 30, constantValue := 0 }, { name := "RAS_SERVERS", type := (.object "com/example/strict_sid/strictsid/known/WellKnownSid"), accessFlags := 16409, slot := 31, constantValue := 0 }, { name := "REMOTE_DESKTOP", type := (.object "com/example/strict_sid/strictsid/known/WellKnownSid"), accessFlags := 16409, slot := 32, constantValue := 0 }, { name := "REPLICATOR", type := (.object "com/example/strict_sid/strictsid/known/WellKnownSid"), accessFlags := 16409, slot := 33, constantValue := 0 }, { name := "RESTRICTED_CODE", type := (.object "com/example/strict_sid/strictsid/known/WellKnownSid"), accessFlags := 16409, slot := 34, constantValue := 0 }, { name := "SCHEMA_ADMINISTRATORS", type := (.object "com/example/strict_sid/strictsid/known/WellKnownSid"), accessFlags := 16409, slot := 35, constantValue := 0 }, { name := "SERVER_OPERATORS", type := (.object "com/example/strict_sid/strictsid/known/WellKnownSid"), accessFlags := 16409, slot := 36, constantValue := 0 }, { name := "SERVICE", type := (.object "com/example/strict_sid/strictsid/known/WellKnownSid"), accessFlags := 16409, slot := 37, constantValue := 0 }, { name := "MAX_QUOTED_LENGTH", type := .int, accessFlags := 26, slot := 38, constantValue := 0 }, { name := "BY_SDDL_ALIAS", type := (.object "java/util/Map"), accessFlags := 26, slot := 39, constantValue := 0 }, { name := "BY_FIXED_SID", type := (.object "java/util/Map"), accessFlags := 26, slot := 40, constantValue := 0 }, { name := "BY_RID", type := (.object "java/util/Map"), accessFlags := 26, slot := 41, constantValue := 0 }, { name := "sddlAlias", type := (.object "java/lang/String"), accessFlags := 18, slot := 3, constantValue := 0 }, { name := "fixedSid", type := (.object "com/example/strict_sid/strictsid/Sid"), accessFlags := 18, slot := 4, constantValue := 0 }, { name := "rid", type := .long, accessFlags := 18, slot := 5, constantValue := 0 }, { name := "$VALUES", type := (.array (.object "com/example/strict_sid/strictsid/known/WellKnownSid")), accessFlags := 4122, slot := 42, constantValue := 0 }]
  methods := #[k6m0]
  instanceTypes := #[(.object "java/lang/String"), .int, .int, (.object "java/lang/String"), (.object "com/example/strict_sid/strictsid/Sid"), .long]
  staticTypes := #[(.object "com/example/strict_sid/strictsid/known/WellKnownSid"), (.object "com/example/strict_sid/strictsid/known/WellKnownSid"), (.object "com/example/strict_sid/strictsid/known/WellKnownSid"), (.object "com/example/strict_sid/strictsid/known/WellKnownSid"), (.object "com/example/strict_sid/strictsid/known/WellKnownSid"), (.object "com/example/strict_sid/strictsid/known/WellKnownSid"), (.object "com/example/strict_sid/strictsid/known/WellKnownSid"), (.object "com/example/strict_sid/strictsid/known/WellKnownSid"), (.object "com/example/strict_sid/strictsid/known/WellKnownSid"), (.object "com/example/strict_sid/strictsid/known/WellKnownSid"), (.object "com/example/strict_sid/strictsid/known/WellKnownSid"), (.object "com/example/strict_sid/strictsid/known/WellKnownSid"), (.object "com/example/strict_sid/strictsid/known/WellKnownSid"), (.object "com/example/strict_sid/strictsid/known/WellKnownSid"), (.object "com/example/strict_sid/strictsid/known/WellKnownSid"), (.object "com/example/strict_sid/strictsid/known/WellKnownSid"), (.object "com/example/strict_sid/strictsid/known/WellKnownSid"), (.object "com/example/strict_sid/strictsid/known/WellKnownSid"), (.object "com/example/strict_sid/strictsid/known/WellKnownSid"), (.object "com/example/strict_sid/strictsid/known/WellKnownSid"), (.object "com/example/strict_sid/strictsid/known/WellKnownSid"), (.object "com/example/strict_sid/strictsid/known/WellKnownSid"), (.object "com/example/strict_sid/strictsid/known/WellKnownSid"), (.object "com/example/strict_sid/strictsid/known/WellKnownSid"), (.object "com/example/strict_sid/strictsid/known/WellKnownSid"), (.object "com/example/strict_sid/strictsid/known/WellKnownSid"), (.object "com/example/strict_sid/strictsid/known/WellKnownSid"), (.object "com/example/strict_sid/strictsid/known/WellKnownSid"), (.object "com/example/strict_sid/strictsid/known/WellKnownSid"), (.object "com/example/strict_sid/strictsid/known/WellKnownSid"), (.object "com/example/strict_sid/strictsid/known/WellKnownSid"), (.object "com/example/strict_sid/strictsid/known/WellKnownSid"), (.object "com/example/strict_sid/strictsid/known/WellKnownSid"), (.object "com/example/strict_sid/strictsid/known/WellKnownSid"), (.object "com/example/strict_sid/strictsid/known/WellKnownSid"), (.object "com/example/strict_sid/strictsid/known/WellKnownSid"), (.object "com/example/strict_sid/strictsid/known/WellKnownSid"), (.object "com/example/strict_sid/strictsid/known/WellKnownSid"), .int, (.object "java/util/Map"), (.object "java/util/Map"), (.object "java/util/Map"), (.array (.object "com/example/strict_sid/strictsid/known/WellKnownSid"))]
  resolved := Array.replicate 512 none
  statics := some 0 }

def pool7 : Array CpInfo := pool [(4, .class_ 6), (1, u "java/lang/Object"), (3, .class_ 12), (1, u "com/example/strict_sid/strictsid/Sid"), (0, u "text"), (0, u "Ljava/lang/String;"), (2, u "packet"), (0, u "[B"), (137, u "FILTER_VALUE_BYTES"), (0, u "Ljava/util/HexFormat;"), (50, .class_ 209), (0, u "java/lang/Comparable"), (0, u "SUB_AUTHORITY_RANGE")] 46

/-- com/example/strict_sid/strictsid/Sid -/
def k7 : Class := { plain "com/example/strict_sid/strictsid/Sid" (some 0) with
  accessFlags := 49
  interfaces := #[3]
  cf := some (fileOf pool7 10 #[] #[] 49 4 #[208] #[{ accessFlags := 26, nameIndex := 210, descriptorIndex := 14, attributes := #[] }, { accessFlags := 26, nameIndex := 156, descriptorIndex := 157, attributes := #[] }, { accessFlags := 18, nameIndex := 13, descriptorIndex := 14, attributes := #[] }, { accessFlags := 66, nameIndex := 17, descriptorIndex := 18, attributes := #[] }])
  fields := #[{ name := "SUB_AUTHORITY_RANGE", type := (.object "java/lang/String"), accessFlags := 26, slot := 0, constantValue := 0 }, { name := "FILTER_VALUE_BYTES", type := (.object "java/util/HexFormat"), accessFlags := 26, slot := 1, constantValue := 0 }, { name := "text", type := (.object "java/lang/String"), accessFlags := 18, slot := 0, constantValue := 0 }, { name := "packet", type := (.array .byte), accessFlags := 66, slot := 1, constantValue := 0 }]
  methods := #[]
  instanceTypes := #[(.object "java/lang/String"), (.array .byte)]
  staticTypes := #[(.object "java/lang/String"), (.object "java/util/HexFormat")]
  resolved := Array.replicate 257 none
  statics := none }

def pool8 : Array CpInfo := pool [(1, u "java/lang/Cloneable"), (0, .class_ 1), (0, u "java/lang/Object"), (0, .class_ 3)] 3

/-- java/lang/Cloneable -/
def k8 : Class := { plain "java/lang/Cloneable" (some 0) with
  accessFlags := 1537
  interfaces := #[]
  cf := some (fileOf pool8 2 #[] #[] 1537 4 #[] #[])
  fields := #[]
  methods := #[]
  instanceTypes := #[]
  staticTypes := #[]
  resolved := Array.replicate 8 none
  statics := none }

/-- the primitive byte -/
def k9 : Class := { plain "byte" none with kind := .primitive 'B', accessFlags := 0x411 }
/-- [B -/
def k10 : Class := { plain "[B" (some 0) with kind := .array 9 .byte, interfaces := #[8, 4], accessFlags := 1041 }

/-- the primitive int -/
def k11 : Class := { plain "int" none with kind := .primitive 'I', accessFlags := 0x411 }
/-- [I -/
def k12 : Class := { plain "[I" (some 0) with kind := .array 11 .int, interfaces := #[8, 4], accessFlags := 1041 }

def heap : Heap := #[{ cls := 6, slots := #[.ref 2, .ref 3, .ref 4, .ref 5, .ref 6, .ref 7, .ref 8, .ref 9, .ref 10, .ref 11, .ref 12, .ref 13, .ref 14, .ref 15, .ref 16, .ref 17, .ref 18, .ref 19, .ref 20, .ref 21, .ref 22, .ref 23, .ref 24, .ref 25, .ref 26, .ref 27, .ref 28, .ref 29, .ref 30, .ref 31, .ref 32, .ref 33, .ref 34, .ref 35, .ref 36, .ref 37, .ref 38, .ref 39, .int 0, .null, .null, .null, .null], vm := .statics 6 },
  { cls := 7, slots := #[.null, .null], vm := .none },
  { cls := 6, slots := #[.null, .int 0, .int 0, .null, .ref 1, .long 0], vm := .none },
  { cls := 6, slots := #[.null, .int 1, .int 0, .null, .ref 1, .long 0], vm := .none },
  { cls := 6, slots := #[.null, .int 2, .int 0, .null, .ref 1, .long 0], vm := .none },
  { cls := 6, slots := #[.null, .int 3, .int 0, .null, .ref 1, .long 0], vm := .none },
  { cls := 6, slots := #[.null, .int 4, .int 0, .null, .ref 1, .long 0], vm := .none },
  { cls := 6, slots := #[.null, .int 5, .int 0, .null, .ref 1, .long 0], vm := .none },
  { cls := 6, slots := #[.null, .int 6, .int 0, .null, .ref 1, .long 0], vm := .none },
  { cls := 6, slots := #[.null, .int 7, .int 0, .null, .ref 1, .long 0], vm := .none },
  { cls := 6, slots := #[.null, .int 8, .int 0, .null, .null, .long 0], vm := .none },
  { cls := 6, slots := #[.null, .int 9, .int 0, .null, .ref 1, .long 0], vm := .none },
  { cls := 6, slots := #[.null, .int 10, .int 0, .null, .ref 1, .long 0], vm := .none },
  { cls := 6, slots := #[.null, .int 11, .int 0, .null, .null, .long 0], vm := .none },
  { cls := 6, slots := #[.null, .int 12, .int 0, .null, .null, .long 0], vm := .none },
  { cls := 6, slots := #[.null, .int 13, .int 0, .null, .null, .long 0], vm := .none },
  { cls := 6, slots := #[.null, .int 14, .int 0, .null, .null, .long 0], vm := .none },
  { cls := 6, slots := #[.null, .int 15, .int 0, .null, .null, .long 0], vm := .none },
  { cls := 6, slots := #[.null, .int 16, .int 0, .null, .null, .long 0], vm := .none },
  { cls := 6, slots := #[.null, .int 17, .int 0, .null, .ref 1, .long 0], vm := .none },
  { cls := 6, slots := #[.null, .int 18, .int 0, .null, .ref 1, .long 0], vm := .none },
  { cls := 6, slots := #[.null, .int 19, .int 0, .null, .null, .long 0], vm := .none },
  { cls := 6, slots := #[.null, .int 20, .int 0, .null, .ref 1, .long 0], vm := .none },
  { cls := 6, slots := #[.null, .int 21, .int 0, .null, .null, .long 0], vm := .none },
  { cls := 6, slots := #[.null, .int 22, .int 0, .null, .null, .long 0], vm := .none },
  { cls := 6, slots := #[.null, .int 23, .int 0, .null, .ref 1, .long 0], vm := .none },
  { cls := 6, slots := #[.null, .int 24, .int 0, .null, .ref 1, .long 0], vm := .none },
  { cls := 6, slots := #[.null, .int 25, .int 0, .null, .ref 1, .long 0], vm := .none },
  { cls := 6, slots := #[.null, .int 26, .int 0, .null, .ref 1, .long 0], vm := .none },
  { cls := 6, slots := #[.null, .int 27, .int 0, .null, .ref 1, .long 0], vm := .none },
  { cls := 6, slots := #[.null, .int 28, .int 0, .null, .ref 1, .long 0], vm := .none },
  { cls := 6, slots := #[.null, .int 29, .int 0, .null, .ref 1, .long 0], vm := .none },
  { cls := 6, slots := #[.null, .int 30, .int 0, .null, .ref 1, .long 0], vm := .none },
  { cls := 6, slots := #[.null, .int 31, .int 0, .null, .null, .long 0], vm := .none },
  { cls := 6, slots := #[.null, .int 32, .int 0, .null, .ref 1, .long 0], vm := .none },
  { cls := 6, slots := #[.null, .int 33, .int 0, .null, .ref 1, .long 0], vm := .none },
  { cls := 6, slots := #[.null, .int 34, .int 0, .null, .ref 1, .long 0], vm := .none },
  { cls := 6, slots := #[.null, .int 35, .int 0, .null, .null, .long 0], vm := .none },
  { cls := 6, slots := #[.null, .int 36, .int 0, .null, .ref 1, .long 0], vm := .none },
  { cls := 6, slots := #[.null, .int 37, .int 0, .null, .ref 1, .long 0], vm := .none }]
def classes : Array Class := #[k0, k1, k2, k3, k4, k5, k6, k7, k8, k9, k10, k11, k12]
def interned : List (Array UInt16 × Addr) := []
def slotsUsed : Nat := 273
def theMethod : MethodId := ⟨1, 1⟩
def args0 : Array Value := #[.int 5]
def aboutOver (below : List Frame) : State where
  vm := { classes := classes, interned := interned.toArray }
  heap := heap
  slotsUsed := slotsUsed
  threads := #[{ frames := .invoking theMethod args0 :: below }]
def below0 : List Frame := [.native { method := ⟨0, 0⟩, args := #[] }]
def about1 : State := aboutOver below0
def p0 : Program := .bare "" "" ""
def e0 : Env := launch0.env 0 0 0
theorem w_frames : about1.frames = Frame.invoking theMethod args0 :: below0 := rfl
set_option maxRecDepth 65536 in
theorem w_args : argsFit about1.vm theMethod args0 = true := by decide +kernel
set_option maxRecDepth 65536 in
theorem w_heap : heapFits about1 = true := by decide +kernel
set_option maxRecDepth 65536 in
theorem w_runnable : about1.curStatus? = some .runnable := by decide +kernel
set_option maxRecDepth 65536 in
theorem w_alone : about1.alone = true := by decide +kernel
set_option maxRecDepth 65536 in
theorem w_named : about1.methodNamed? x = some theMethod := by decide +kernel
set_option maxRecDepth 65536 in
theorem w_hears : about1.hears theMethod below0 = true := by decide +kernel
set_option maxRecDepth 65536 in
theorem w_ripe : about1.ripe theMethod args0 below0 = true := by decide +kernel
theorem w_running : about1.status = .running := rfl
set_option maxRecDepth 65536 in
theorem w_room : about1.hasRoom e0.platform room_1 = true :=
  launch0.hasRoom_least _ room_1 (by decide +kernel) (by decide +kernel) (by decide +kernel) (by decide +kernel) (by decide +kernel) (by decide +kernel)
theorem allAtoms_all (ts : List Jvm.Cond) (a : Array Jvm.Value) (st : Jvm.State) : (allAtoms ts).before a st = ts.all (fun c => c.before a st) := by
  induction ts with
  | nil => rfl
  | cons c t ih =>
    show (Jvm.Cond.and c (allAtoms t)).before a st = _
    rw [Jvm.Cond.before_and, ih, List.all_cons]
def words1 : List Jvm.Cond := Jvm.Cond.code x code maxLocals ret :: tables_1
/-- a 'code' word, met by the world's own term for the bytes: nothing is compared byte by byte -/
theorem code_word {y : MethodName} {bytes : ByteArray} {mx : Nat} {rt : Option FieldType} {a : Array Value} {s : State} {m : MethodId} {meth : Method} {c : Code} (h1 : s.methodNamed? y = some m) (h2 : s.vm.method? m = some meth) (h3 : meth.code = some c) (h4 : c.code = bytes)
    (h5 : (c.maxLocals == mx && c.exceptionTable.isEmpty && decide (c.maxStack ≤ mostOperands) && decide (meth.sig.returnType = rt) && !meth.locks && decide (parseMethodDescriptor y.desc = some meth.sig)) = true) : (Jvm.Cond.code y bytes mx rt).before a s = true := by
  simp only [Bool.and_eq_true, beq_iff_eq, Bool.not_eq_true', decide_eq_true_eq] at h5
  obtain ⟨⟨⟨⟨⟨g1, g2⟩, g3⟩, g4⟩, g5⟩, g6⟩ := h5
  simp [Cond.before, Cond.holds, Cond.value, h1, h2, h3, h4, g1, g2, g3, g4, g5, g6]
def isCode : Jvm.Cond → Bool
  | .code _ _ _ _ => true
  | _ => false
theorem all_split {L : List Jvm.Cond} {P : Jvm.Cond → Bool} (h1 : L.all (fun c => isCode c || P c) = true) (h2 : ∀ c ∈ L.filter isCode, P c = true) : L.all P = true := by
  refine List.all_eq_true.mpr fun c hc => ?_
  have h := List.all_eq_true.mp h1 c hc
  rcases Bool.eq_false_or_eq_true (isCode c) with hi | hi
  · exact h2 c (List.mem_filter.mpr ⟨hc, hi⟩)
  · simpa [hi] using h
set_option maxRecDepth 65536 in
theorem w_c0 : (Jvm.Cond.code x code maxLocals ret).before args0 about1 = true := code_word (m := ⟨1, 1⟩) (meth := k1m1) (c := k1c1) (by decide +kernel) rfl rfl rfl (by decide +kernel)
set_option maxRecDepth 65536 in
theorem w_c1 : (Jvm.Cond.code ({ cls := "com/example/strict_sid/strictsid/known/WellKnownSidIsDomainRelativePinLaw", name := "pick", desc := "(I)Lcom/example/strict_sid/strictsid/known/WellKnownSid;" } : Jvm.MethodName) method_4_code (1 : Nat) (Option.some (Jvm.ClassFile.FieldType.object "com/example/strict_sid/strictsid/known/WellKnownSid"))).before args0 about1 = true := code_word (m := ⟨1, 3⟩) (meth := k1m3) (c := k1c3) (by decide +kernel) rfl rfl rfl (by decide +kernel)
set_option maxRecDepth 65536 in
theorem w_c2 : (Jvm.Cond.code ({ cls := "com/example/strict_sid/strictsid/known/WellKnownSid", name := "isDomainRelative", desc := "()Z" } : Jvm.MethodName) prog_3_method_9_code (1 : Nat) (Option.some Jvm.ClassFile.FieldType.boolean)).before args0 about1 = true := code_word (m := ⟨6, 0⟩) (meth := k6m0) (c := k6c0) (by decide +kernel) rfl rfl rfl (by decide +kernel)
set_option maxRecDepth 65536 in
theorem w_c3 : (Jvm.Cond.code ({ cls := "com/example/strict_sid/strictsid/known/WellKnownSidIsDomainRelativePinLaw", name := "expected", desc := "(I)Z" } : Jvm.MethodName) method_3_code (1 : Nat) (Option.some Jvm.ClassFile.FieldType.boolean)).before args0 about1 = true := code_word (m := ⟨1, 2⟩) (meth := k1m2) (c := k1c2) (by decide +kernel) rfl rfl rfl (by decide +kernel)
def codes1 : List Jvm.Cond := [Jvm.Cond.code x code maxLocals ret, Jvm.Cond.code ({ cls := "com/example/strict_sid/strictsid/known/WellKnownSidIsDomainRelativePinLaw", name := "pick", desc := "(I)Lcom/example/strict_sid/strictsid/known/WellKnownSid;" } : Jvm.MethodName) method_4_code (1 : Nat) (Option.some (Jvm.ClassFile.FieldType.object "com/example/strict_sid/strictsid/known/WellKnownSid")), Jvm.Cond.code ({ cls := "com/example/strict_sid/strictsid/known/WellKnownSid", name := "isDomainRelative", desc := "()Z" } : Jvm.MethodName) prog_3_method_9_code (1 : Nat) (Option.some Jvm.ClassFile.FieldType.boolean), Jvm.Cond.code ({ cls := "com/example/strict_sid/strictsid/known/WellKnownSidIsDomainRelativePinLaw", name := "expected", desc := "(I)Z" } : Jvm.MethodName) method_3_code (1 : Nat) (Option.some Jvm.ClassFile.FieldType.boolean)]
set_option maxRecDepth 65536 in
theorem codes_eq : words1.filter isCode = codes1 := rfl
theorem w_codes : ∀ c ∈ words1.filter isCode, c.before args0 about1 = true := by
  rw [codes_eq]
  intro c hc
  simp only [codes1, List.mem_cons, List.not_mem_nil, or_false] at hc
  rcases hc with rfl | rfl | rfl | rfl
  · exact w_c0
  · exact w_c1
  · exact w_c2
  · exact w_c3
set_option maxRecDepth 65536 in
theorem w_t1 : (words1.take 24).all (fun c => isCode c || c.before args0 about1) = true := by decide +kernel
set_option maxRecDepth 65536 in
theorem w_t2 : ((words1.drop 24).take 24).all (fun c => isCode c || c.before args0 about1) = true := by decide +kernel
set_option maxRecDepth 65536 in
theorem w_t3 : (((words1.drop 24).drop 24).take 24).all (fun c => isCode c || c.before args0 about1) = true := by decide +kernel
set_option maxRecDepth 65536 in
theorem w_t4 : (((words1.drop 24).drop 24).drop 24).all (fun c => isCode c || c.before args0 about1) = true := by decide +kernel
theorem w_tables : (allAtoms (Jvm.Cond.code x code maxLocals ret :: tables_1)).before args0 about1 = true := by
  rw [allAtoms_all]
  show words1.all (fun c => c.before args0 about1) = true
  refine all_split ?_ w_codes
  rw [← List.take_append_drop 24 words1, List.all_append, w_t1, ← List.take_append_drop 24 (words1.drop 24), List.all_append, w_t2, ← List.take_append_drop 24 ((words1.drop 24).drop 24), List.all_append, w_t3, w_t4]
  rfl
set_option maxRecDepth 65536 in
theorem w_case : (Jvm.Cond.and given_1 narrow_1).before args0 about1 = true := by decide +kernel
theorem w_applies : (headSpec (Jvm.Cond.code x code maxLocals ret :: tables_1) room_1).applies x e0.platform about1 = true :=
  (Spec.applies_iff w_frames).mpr ⟨w_running, w_runnable, w_alone, w_named, w_hears, w_ripe, w_room, w_tables⟩
theorem atStart : AtStart classFile x code maxLocals ret World_1 tables_1 room_1 Calls_1 rest_1 Pre_1 launch0 p0 e0 about1 theMethod args0 below0 :=
  ⟨lists_1, trivial, launch0.admits_env _ _ _, launch0.least_env, fairChoices_fair.cas, fairChoices_fair.clock, w_frames, w_args, w_heap, w_applies, trivial, trivial, w_case⟩
end start1
theorem witness_1 : WitnessClaimed_1 := ⟨start1.p0, start1.e0, start1.about1, start1.theMethod, start1.args0, start1.below0, start1.atStart⟩
end Jvm.Pilot.@@N@@
