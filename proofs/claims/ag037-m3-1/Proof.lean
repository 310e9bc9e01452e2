import JvmDerived
import JvmDerived.Pilot.@@N@@Statement
import JvmDerived.Pilot.@@N@@Code
set_option linter.unusedVariables false
set_option linter.unusedSimpArgs false
@@BLOCK:HandJ.lean.txt@@
@@BLOCK:SymMore.lean.txt@@
namespace Jvm.Pilot.@@N@@
open Jvm Jvm.ClassFile Sem Op Lib Jvm.Free Jvm.Stand Jvm.LawKit Jvm.RoadKit Bundle Jvm.Pilot.@@N@@.Jvm.D
def Go (p : Program) (e : Env) (below : List Frame) (G : State → Prop) (T : State) (f : JFrame) : Prop := ∃ t, Steps p.tables e below (T.setTop f) t ∧ G t
theorem Go.step {p : Program} {e : Env} {below : List Frame} {G : State → Prop} {T T' : State} {f f' : JFrame} (k : ∀ t, Steps p.tables e below (T'.setTop f') t → Steps p.tables e below (T.setTop f) t) (h : Go p e below G T' f') : Go p e below G T f := by
  obtain ⟨t, h1, h2⟩ := h
  exact ⟨t, k t h1, h2⟩
def Fin1 (s : State) (below : List Frame) (Q : Option Value → Heap → List Loc → Prop) (k n : Nat) (t : State) : Prop := ∃ o, t.status = .running ∧ Ended t below o ∧ ∃ v L, o = .returned v ∧ Q v t.heap L ∧ FrameEnd s o t L k n
theorem of_go {p : Program} {e : Env} {below : List Frame} {s s₁ : State} {Q : Option Value → Heap → List Loc → Prop} {k n : Nat} {f f' : JFrame} (hf : f' = f) (h : Go p e below (Fin1 s below Q k n) s₁ f) :
    ∃ s₂ o, Steps p.tables e below (s₁.setTop f') s₂ ∧ s₂.status = .running ∧ Ended s₂ below o ∧ ∃ v L, o = .returned v ∧ Q v s₂.heap L ∧ FrameEnd s o s₂ L k n := by
  subst hf
  obtain ⟨t, h1, o, h2, h3, h4⟩ := h
  exact ⟨t, o, h1, h2, h3, h4⟩
section Ends
variable {p : Program} {l : Launch} {e : Env} {R : Room} {s : State} {m : MethodId} {args : Array Value} {below : List Frame} {meth : Method} {c : Code} {T : State} {locs : List Loc} {cells slots : Nat} {Q : Option Value → Heap → List Loc → Prop} {k n : Nat}
theorem goN (X : Stand p l e R s m args below meth c T locs cells slots) (hx : p.tables.exec = Jvm.exec) {pc : Nat} {Ls : Array Slot} {z : Int32} {t : FieldType} {rest : List Value} (hret : meth.sig.returnType = some t) (ht : t = .boolean ∨ t = .byte ∨ t = .char ∨ t = .short) (hlk : meth.locks = false)
    (hd : decode c.code pc = .ok (.ireturn, 1)) (hQ : Q (some (.int (nar t z))) T.heap locs) (hk : cells ≤ k) (hn : slots ≤ n) : Go p e below (Fin1 s below Q k n) T (mkF m pc Ls (.int z :: rest)) := by
  obtain ⟨fs, hr, hrun, hended, hW, hsame⟩ := X.leave (v := some (.int (nar t z))) (fun h => by rw [hret] at h; cases h) hlk
  exact ⟨_, Jvm.RoadKit.retN X hx hret ht hd hr, _, hrun, hended, _, _, rfl, hQ, ⟨_, rfl⟩, hW, hsame.mono hk hn⟩
theorem goO (X : Stand p l e R s m args below meth c T locs cells slots) (hx : p.tables.exec = Jvm.exec) {pc : Nat} {Ls : Array Slot} {w : Value} {t : FieldType} {i : Instr} {rest : List Value} (hret : meth.sig.returnType = some t) (hnw : narrow t w = w)
    (hi : (i = .ireturn ∧ (t = .int ∨ t = .boolean ∨ t = .byte ∨ t = .char ∨ t = .short) ∧ ∃ z, w = .int z) ∨ (i = .lreturn ∧ t = .long ∧ ∃ z, w = .long z) ∨ (i = .dreturn ∧ t = .double ∧ ∃ z, w = .double z) ∨ (i = .freturn ∧ t = .float ∧ ∃ z, w = .float z) ∨ (i = .areturn ∧ t.isReference = true ∧ w.isRef = true)) (hlk : meth.locks = false)
    (hd : decode c.code pc = .ok (i, 1)) (hQ : Q (some w) T.heap locs) (hk : cells ≤ k) (hn : slots ≤ n) : Go p e below (Fin1 s below Q k n) T (mkF m pc Ls (w :: rest)) := by
  obtain ⟨fs, hr, hrun, hended, hW, hsame⟩ := X.leave (v := some w) (fun h => by rw [hret] at h; cases h) hlk
  exact ⟨_, Jvm.RoadKit.retOut X hx hret hnw hi hd hr, _, hrun, hended, _, _, rfl, hQ, ⟨_, rfl⟩, hW, hsame.mono hk hn⟩
theorem goI (X : Stand p l e R s m args below meth c T locs cells slots) (hx : p.tables.exec = Jvm.exec) {pc : Nat} {Ls : Array Slot} {z : Int32} {rest : List Value} (hret : meth.sig.returnType = some .int) (hlk : meth.locks = false)
    (hd : decode c.code pc = .ok (.ireturn, 1)) (hQ : Q (some (.int z)) T.heap locs) (hk : cells ≤ k) (hn : slots ≤ n) : Go p e below (Fin1 s below Q k n) T (mkF m pc Ls (.int z :: rest)) :=
  goO X hx hret rfl (Or.inl ⟨rfl, Or.inl rfl, _, rfl⟩) hlk hd hQ hk hn
theorem goJ (X : Stand p l e R s m args below meth c T locs cells slots) (hx : p.tables.exec = Jvm.exec) {pc : Nat} {Ls : Array Slot} {z : Int64} {rest : List Value} (hret : meth.sig.returnType = some .long) (hlk : meth.locks = false)
    (hd : decode c.code pc = .ok (.lreturn, 1)) (hQ : Q (some (.long z)) T.heap locs) (hk : cells ≤ k) (hn : slots ≤ n) : Go p e below (Fin1 s below Q k n) T (mkF m pc Ls (.long z :: rest)) :=
  goO X hx hret rfl (Or.inr (Or.inl ⟨rfl, rfl, _, rfl⟩)) hlk hd hQ hk hn
theorem goA (X : Stand p l e R s m args below meth c T locs cells slots) (hx : p.tables.exec = Jvm.exec) {pc : Nat} {Ls : Array Slot} {w : Value} {t : FieldType} {rest : List Value} (hret : meth.sig.returnType = some t) (ht : t.isReference = true) (hw : w.isRef = true) (hlk : meth.locks = false)
    (hd : decode c.code pc = .ok (.areturn, 1)) (hQ : Q (some w) T.heap locs) (hk : cells ≤ k) (hn : slots ≤ n) : Go p e below (Fin1 s below Q k n) T (mkF m pc Ls (w :: rest)) :=
  goO X hx hret (by cases t <;> cases w <;> first | rfl | (simp [FieldType.isReference] at ht; done) | (simp [Value.isRef] at hw; done)) (Or.inr (Or.inr (Or.inr (Or.inr ⟨rfl, ht, hw⟩)))) hlk hd hQ hk hn
theorem goV (X : Stand p l e R s m args below meth c T locs cells slots) (hx : p.tables.exec = Jvm.exec) {pc : Nat} {Ls : Array Slot} (hret : meth.sig.returnType = none) (hlk : meth.locks = false)
    (hd : decode c.code pc = .ok (.return_, 1)) (hQ : Q none T.heap locs) (hk : cells ≤ k) (hn : slots ≤ n) : Go p e below (Fin1 s below Q k n) T (mkF m pc Ls []) := by
  obtain ⟨fs, hr, hrun, hended, hW, hsame⟩ := X.leave (v := none) (fun _ => rfl) hlk
  exact ⟨_, X.returnOut hx hret hd hr, _, hrun, hended, _, _, rfl, hQ, ⟨_, rfl⟩, hW, hsame.mono hk hn⟩
def FinW (s : State) (below : List Frame) (Q : Option Value → Heap → List Loc → Prop) (k n : Nat) (t : State) : Prop := ∃ o, t.status = .running ∧ Ended t below o ∧ ∃ v L, o = .returned v ∧ Q v t.heap L ∧ ReturnedEndW s o t L k n
theorem of_goW {p : Program} {e : Env} {below : List Frame} {s s₁ : State} {Q : Option Value → Heap → List Loc → Prop} {k n : Nat} {f f' : JFrame} (hf : f' = f) (h : Go p e below (FinW s below Q k n) s₁ f) :
    ∃ s₂ o, Steps p.tables e below (s₁.setTop f') s₂ ∧ s₂.status = .running ∧ Ended s₂ below o ∧ ∃ v L, o = .returned v ∧ Q v s₂.heap L ∧ ReturnedEndW s o s₂ L k n := by
  subst hf
  obtain ⟨t, h1, o, h2, h3, h4⟩ := h
  exact ⟨t, o, h1, h2, h3, h4⟩
theorem goNW {vm0 : Vm} {n1 : Nat} (hS : s.Since vm0 n1) (X : Stand p l e R (s.setVm vm0) m args below meth c T locs cells slots) (hkk : n1 ≤ T.heap.size) (hx : p.tables.exec = Jvm.exec) {pc : Nat} {Ls : Array Slot} {z : Int32} {t : FieldType} {rest : List Value} (hret : meth.sig.returnType = some t) (ht : t = .boolean ∨ t = .byte ∨ t = .char ∨ t = .short) (hlk : meth.locks = false)
    (hd : decode c.code pc = .ok (.ireturn, 1)) (hQ : Q (some (.int (nar t z))) T.heap locs) (hk : cells ≤ k) (hn : slots ≤ n) : Go p e below (FinW s below Q k n) T (mkF m pc Ls (.int z :: rest)) := by
  obtain ⟨fs, hr, hrun, hended, hW, hsame⟩ := X.leave (v := some (.int (nar t z))) (fun h => by rw [hret] at h; cases h) hlk
  obtain ⟨a1, a2, a3⟩ := hS.ended hW (show n1 ≤ (T.setFrames fs).heap.size from hkk) hsame
  exact ⟨_, Jvm.RoadKit.retN X hx hret ht hd hr, _, hrun, hended, _, _, rfl, hQ, ⟨_, rfl⟩, a1, a2, a3.mono hk hn⟩
theorem goOW {vm0 : Vm} {n1 : Nat} (hS : s.Since vm0 n1) (X : Stand p l e R (s.setVm vm0) m args below meth c T locs cells slots) (hkk : n1 ≤ T.heap.size) (hx : p.tables.exec = Jvm.exec) {pc : Nat} {Ls : Array Slot} {w : Value} {t : FieldType} {i : Instr} {rest : List Value} (hret : meth.sig.returnType = some t) (hnw : narrow t w = w)
    (hi : (i = .ireturn ∧ (t = .int ∨ t = .boolean ∨ t = .byte ∨ t = .char ∨ t = .short) ∧ ∃ z, w = .int z) ∨ (i = .lreturn ∧ t = .long ∧ ∃ z, w = .long z) ∨ (i = .dreturn ∧ t = .double ∧ ∃ z, w = .double z) ∨ (i = .freturn ∧ t = .float ∧ ∃ z, w = .float z) ∨ (i = .areturn ∧ t.isReference = true ∧ w.isRef = true)) (hlk : meth.locks = false)
    (hd : decode c.code pc = .ok (i, 1)) (hQ : Q (some w) T.heap locs) (hk : cells ≤ k) (hn : slots ≤ n) : Go p e below (FinW s below Q k n) T (mkF m pc Ls (w :: rest)) := by
  obtain ⟨fs, hr, hrun, hended, hW, hsame⟩ := X.leave (v := some w) (fun h => by rw [hret] at h; cases h) hlk
  obtain ⟨a1, a2, a3⟩ := hS.ended hW (show n1 ≤ (T.setFrames fs).heap.size from hkk) hsame
  exact ⟨_, Jvm.RoadKit.retOut X hx hret hnw hi hd hr, _, hrun, hended, _, _, rfl, hQ, ⟨_, rfl⟩, a1, a2, a3.mono hk hn⟩
theorem goIW {vm0 : Vm} {n1 : Nat} (hS : s.Since vm0 n1) (X : Stand p l e R (s.setVm vm0) m args below meth c T locs cells slots) (hkk : n1 ≤ T.heap.size) (hx : p.tables.exec = Jvm.exec) {pc : Nat} {Ls : Array Slot} {z : Int32} {rest : List Value} (hret : meth.sig.returnType = some .int) (hlk : meth.locks = false)
    (hd : decode c.code pc = .ok (.ireturn, 1)) (hQ : Q (some (.int z)) T.heap locs) (hk : cells ≤ k) (hn : slots ≤ n) : Go p e below (FinW s below Q k n) T (mkF m pc Ls (.int z :: rest)) :=
  goOW hS X hkk hx hret rfl (Or.inl ⟨rfl, Or.inl rfl, _, rfl⟩) hlk hd hQ hk hn
theorem goAW {vm0 : Vm} {n1 : Nat} (hS : s.Since vm0 n1) (X : Stand p l e R (s.setVm vm0) m args below meth c T locs cells slots) (hkk : n1 ≤ T.heap.size) (hx : p.tables.exec = Jvm.exec) {pc : Nat} {Ls : Array Slot} {w : Value} {t : FieldType} {rest : List Value} (hret : meth.sig.returnType = some t) (ht : t.isReference = true) (hw : w.isRef = true) (hlk : meth.locks = false)
    (hd : decode c.code pc = .ok (.areturn, 1)) (hQ : Q (some w) T.heap locs) (hk : cells ≤ k) (hn : slots ≤ n) : Go p e below (FinW s below Q k n) T (mkF m pc Ls (w :: rest)) :=
  goOW hS X hkk hx hret (by cases t <;> cases w <;> first | rfl | (simp [FieldType.isReference] at ht; done) | (simp [Value.isRef] at hw; done)) (Or.inr (Or.inr (Or.inr (Or.inr ⟨rfl, ht, hw⟩)))) hlk hd hQ hk hn
theorem goVW {vm0 : Vm} {n1 : Nat} (hS : s.Since vm0 n1) (X : Stand p l e R (s.setVm vm0) m args below meth c T locs cells slots) (hkk : n1 ≤ T.heap.size) (hx : p.tables.exec = Jvm.exec) {pc : Nat} {Ls : Array Slot} (hret : meth.sig.returnType = none) (hlk : meth.locks = false)
    (hd : decode c.code pc = .ok (.return_, 1)) (hQ : Q none T.heap locs) (hk : cells ≤ k) (hn : slots ≤ n) : Go p e below (FinW s below Q k n) T (mkF m pc Ls []) := by
  obtain ⟨fs, hr, hrun, hended, hW, hsame⟩ := X.leave (v := none) (fun _ => rfl) hlk
  obtain ⟨a1, a2, a3⟩ := hS.ended hW (show n1 ≤ (T.setFrames fs).heap.size from hkk) hsame
  exact ⟨_, X.returnOut hx hret hd hr, _, hrun, hended, _, _, rfl, hQ, ⟨_, rfl⟩, a1, a2, a3.mono hk hn⟩
theorem narB {z : Int32} (h : z = 0 ∨ z = 1) : nar .boolean z = z := by rcases h with rfl | rfl <;> rfl
end Ends
theorem own_nb (x : Int32) : nar .byte (x.toInt8.toInt32) = x.toInt8.toInt32 := by
  apply Int32.toInt_inj.mp
  have h1 := c_i2b x
  have h2 := c_i2b (x.toInt8.toInt32)
  show (x.toInt8.toInt32.toInt8.toInt32).toInt = _
  omega
theorem own_ch (x : Int32) : ¬ (255 : Int32) < (x &&& (255 : Int32)).toUInt32.toUInt16.toUInt32.toInt32 ∧ nar .char ((x &&& (255 : Int32)).toUInt32.toUInt16.toUInt32.toInt32) = (x &&& (255 : Int32)).toUInt32.toUInt16.toUInt32.toInt32 ∧ fits .char (.int ((x &&& (255 : Int32)).toUInt32.toUInt16.toUInt32.toInt32)) = true ∧ 0 ≤ ((x &&& (255 : Int32)).toUInt32.toUInt16.toUInt32.toInt32).toInt := by
  refine ⟨?_, ?_, fits_nar_char (x &&& 255), ?_⟩
  · rw [i2c_mask]
    have h := c_and x 255 (by decide)
    have h5 : (255 : Int32).toInt = 255 := rfl
    simp only [Int32.lt_iff_toInt_lt, Int32.reduceToInt]
    omega
  · show (_ : Int32).toUInt32.toUInt16.toUInt32.toInt32 = _
    rw [i2c_mask, i2c_mask]
  · rw [i2c_mask]
    exact (c_and x 255 (by decide)).1
def own_ce (c : Int32) : Int32 := if c.toInt ≤ 255 then 1 else 0
theorem own_ce1 {c : Int32} (h : c.toInt ≤ 255) : own_ce c = 1 := if_pos h
theorem own_ce0 {c : Int32} (h : ¬ (c.toInt ≤ 255)) : own_ce c = 0 := if_neg h
theorem own_and3 (x : Int32) : (x &&& (3 : Int32)) = 0 ∨ (x &&& (3 : Int32)) = 1 ∨ (x &&& (3 : Int32)) = 2 ∨ (x &&& (3 : Int32)) = 3 := by
  have h := c_and x 3 (by decide)
  have h5 : (3 : Int32).toInt = 3 := rfl
  simp only [← Int32.toInt_inj, Int32.reduceToInt]
  omega
def own_sel (n : Int) (y0 y1 y2 : Value) (i : Int32) : Value := if i.toInt < 0 ∨ n ≤ i.toInt then .null else if i.toInt = 0 then y0 else if i.toInt = 1 then y1 else y2
theorem own_sel0 {n : Int} {y0 y1 y2 : Value} {i : Int32} (h : i.toInt < 0 ∨ n ≤ i.toInt) : own_sel n y0 y1 y2 i = .null := if_pos h
theorem own_selR {n : Int} {y0 y1 y2 : Value} {i : Int32} (h0 : y0.isRef = true) (h1 : y1.isRef = true) (h2 : y2.isRef = true) : (own_sel n y0 y1 y2 i).isRef = true := by
  unfold own_sel
  split
  · rfl
  · split
    · exact h0
    · split
      · exact h1
      · exact h2
theorem own_getD0 {i : Int32} {r : List Value} (h0 : 0 ≤ i.toInt) (h1 : i.toInt < 0) : r.getD i.toNatClampNeg .null = own_sel 0 .null .null .null i := absurd h0 (by omega)
theorem own_getD1 {i : Int32} {y0 : Value} {r : List Value} (h0 : 0 ≤ i.toInt) (h1 : i.toInt < 1) : (y0 :: r).getD i.toNatClampNeg .null = own_sel 1 y0 .null .null i := by
  have e : i.toNatClampNeg = 0 := by simp only [Int32.toNatClampNeg]; omega
  rw [own_sel, if_neg (by omega), if_pos (by omega), e]; rfl
theorem own_getD2 {i : Int32} {y0 y1 : Value} {r : List Value} (h0 : 0 ≤ i.toInt) (h1 : i.toInt < 2) : (y0 :: y1 :: r).getD i.toNatClampNeg .null = own_sel 2 y0 y1 .null i := by
  rcases (by omega : i.toInt = 0 ∨ i.toInt = 1) with h | h
  · have e : i.toNatClampNeg = 0 := by simp only [Int32.toNatClampNeg]; omega
    rw [own_sel, if_neg (by omega), if_pos (by omega), e]; rfl
  · have e : i.toNatClampNeg = 1 := by simp only [Int32.toNatClampNeg]; omega
    rw [own_sel, if_neg (by omega), if_neg (by omega), if_pos (by omega), e]; rfl
theorem own_getD3 {i : Int32} {y0 y1 y2 : Value} {r : List Value} (h0 : 0 ≤ i.toInt) (h1 : i.toInt < 3) : (y0 :: y1 :: y2 :: r).getD i.toNatClampNeg .null = own_sel 3 y0 y1 y2 i := by
  rcases (by omega : i.toInt = 0 ∨ i.toInt = 1 ∨ i.toInt = 2) with h | h | h
  · have e : i.toNatClampNeg = 0 := by simp only [Int32.toNatClampNeg]; omega
    rw [own_sel, if_neg (by omega), if_pos (by omega), e]; rfl
  · have e : i.toNatClampNeg = 1 := by simp only [Int32.toNatClampNeg]; omega
    rw [own_sel, if_neg (by omega), if_neg (by omega), if_pos (by omega), e]; rfl
  · have e : i.toNatClampNeg = 2 := by simp only [Int32.toNatClampNeg]; omega
    rw [own_sel, if_neg (by omega), if_neg (by omega), if_neg (by omega), e]; rfl
def own_ix (n : Int) (i : Int32) : Int32 := if 0 ≤ i.toInt ∧ i.toInt < n then 1 else 0
theorem own_ix1 {n : Int} {i : Int32} (h : 0 ≤ i.toInt ∧ i.toInt < n) : own_ix n i = 1 := if_pos h
theorem own_ix0 {n : Int} {i : Int32} (h : ¬ (0 ≤ i.toInt ∧ i.toInt < n)) : own_ix n i = 0 := if_neg h
theorem d9_0 : decode jdk_52_method_21_code 0 = .ok (.iconst 0, 1) := by decide +kernel
theorem d9_1 : decode jdk_52_method_21_code 1 = .ok (.istore 5, 2) := by decide +kernel
theorem d9_3 : decode jdk_52_method_21_code 3 = .ok (.iload 5, 2) := by decide +kernel
theorem d9_5 : decode jdk_52_method_21_code 5 = .ok (.iload 4, 2) := by decide +kernel
theorem d9_7 : decode jdk_52_method_21_code 7 = .ok (.if_icmp .ge 37, 3) := by decide +kernel
theorem d9_10 : decode jdk_52_method_21_code 10 = .ok (.aload_n 0, 1) := by decide +kernel
theorem d9_11 : decode jdk_52_method_21_code 11 = .ok (.iload_n 1, 1) := by decide +kernel
theorem d9_12 : decode jdk_52_method_21_code 12 = .ok (.caload, 1) := by decide +kernel
theorem d9_13 : decode jdk_52_method_21_code 13 = .ok (.istore 6, 2) := by decide +kernel
theorem d9_15 : decode jdk_52_method_21_code 15 = .ok (.iload 6, 2) := by decide +kernel
theorem d9_17 : decode jdk_52_method_21_code 17 = .ok (.sipush 255, 3) := by decide +kernel
theorem d9_20 : decode jdk_52_method_21_code 20 = .ok (.if_icmp .le 6, 3) := by decide +kernel
theorem d9_26 : decode jdk_52_method_21_code 26 = .ok (.aload_n 2, 1) := by decide +kernel
theorem d9_27 : decode jdk_52_method_21_code 27 = .ok (.iload_n 3, 1) := by decide +kernel
theorem d9_28 : decode jdk_52_method_21_code 28 = .ok (.iload 6, 2) := by decide +kernel
theorem d9_30 : decode jdk_52_method_21_code 30 = .ok (.i2b, 1) := by decide +kernel
theorem d9_31 : decode jdk_52_method_21_code 31 = .ok (.bastore, 1) := by decide +kernel
theorem d9_32 : decode jdk_52_method_21_code 32 = .ok (.iinc 1 1, 3) := by decide +kernel
theorem d9_35 : decode jdk_52_method_21_code 35 = .ok (.iinc 3 1, 3) := by decide +kernel
theorem d9_38 : decode jdk_52_method_21_code 38 = .ok (.iinc 5 1, 3) := by decide +kernel
theorem d9_41 : decode jdk_52_method_21_code 41 = .ok (.goto (-38), 3) := by decide +kernel
theorem d9_44 : decode jdk_52_method_21_code 44 = .ok (.iload 4, 2) := by decide +kernel
theorem d9_46 : decode jdk_52_method_21_code 46 = .ok (.ireturn, 1) := by decide +kernel
theorem pn_9 : plainName "java/lang/StringUTF16" = true := by first | (simp [plainName, overriddenIn]; done) | decide +kernel
theorem ef_rmCpA1 (m : MethodId) (a1 : Addr) (a3 : Addr) : entryFrame m #[(.ref a1), (.int (0 : Int32)), (.ref a3), (.int (0 : Int32)), (.int (1 : Int32))] 7 = mkF m 0 #[.val (.ref a1), .val (.int (0 : Int32)), .val (.ref a3), .val (.int (0 : Int32)), .val (.int (1 : Int32)), .unset, .unset] [] := by first | (simp [entryFrame, mkF, argsToLocals, Value.category]; done) | rfl
def Q_rmCpA1 (Z : State) (a1 : Addr) (a3 : Addr) (kc : ClassId) (c0 : Int32) (kb : ClassId) (h0 : Heap) (n0 : Nat) (rv : Option Value) (hq : Heap) (Lq : List Loc) : Prop := rv = some (.int (1 : Int32)) ∧ Fr n0 Lq ∧ Keep h0 hq [a3] ∧ Arv Z hq a3 kb .byte (1 : Int32) [(.int (c0.toInt8.toInt32))] (.int (0 : Int32))
set_option maxRecDepth 65536 in
set_option maxHeartbeats 40000000 in
theorem rmCpA1 (l : Launch) (Z : State) (a0 : Array Value) (hw : ∀ d ∈ tables_1, d.before a0 Z = true) (ws : List Jvm.Cond) (a1 : Addr) (a3 : Addr) (kc : ClassId) (c0 : Int32) (kb : ClassId) (h0 : Heap) (n0 : Nat) (Z0 : n0 ≤ h0.size) (V_a1 : Arv Z h0 a1 kc .char (1 : Int32) [(.int c0)] (.int (0 : Int32))) (V_a3 : Arv Z h0 a3 kb .byte (1 : Int32) [(.int (0 : Int32))] (.int (0 : Int32))) (hne : a1 ≠ a3) (hl0 : ¬ (255 : Int32) < c0) (g_a3 : n0 ≤ a3) :
    MetFree l (⟨"java/lang/StringUTF16", "compress", "([CI[BII)I"⟩ : MethodName) (head1 (Jvm.Cond.code (⟨"java/lang/StringUTF16", "compress", "([CI[BII)I"⟩ : MethodName) jdk_52_method_21_code 7 (some .int) :: ws) ({ frames := 0, cells := 0, slots := 0, locals := 0 } : Room)) (fun a U => a = #[(.ref a1), (.int (0 : Int32)), (.ref a3), (.int (0 : Int32)), (.int (1 : Int32))] ∧ Z.Warmed39 U.vm ∧ U.heap = h0) (fun _ _ _ _ _ => True) (fun _ U o U' => ∃ rv Lq, o = .returned rv ∧ Q_rmCpA1 Z a1 a3 kc c0 kb h0 n0 rv U'.heap Lq ∧ FrameEnd U o U' Lq ({ frames := 0, cells := 0, slots := 0, locals := 0 } : Room).cells ({ frames := 0, cells := 0, slots := 0, locals := 0 } : Room).slots) := by
  refine MetFree.of_bodySF (plainFor_of_name pn_9) hisR ?_
  intro p e s m args below meth c s₁ Bd hml0 hP hK
  obtain ⟨rfl, hZ, hh⟩ := hP
  have hx := Bd.exec
  have hby := Bd.bytes
  have hml : c.maxLocals = 7 := hml0
  have hown : s.vm.findClass "java/lang/StringUTF16" = some m.cls := findClass_of_methodNamed Bd.named
  have hnm := (name_of_methodNamed Bd.named Bd.method).1
  have X0 : Stand p l e ({ frames := 0, cells := 0, slots := 0, locals := 0 } : Room) s m #[(.ref a1), (.int (0 : Int32)), (.ref a3), (.int (0 : Int32)), (.int (1 : Int32))] below meth c s₁ [] 0 0 := Stand.of_body Bd
  have e0 : s₁.heap = h0 := by rw [← hh, Bd.state]; rfl
  have N0 := Fr.nil n0
  refine of_go (ef_rmCpA1 m a1 a3) ?_
  refine Go.step (T' := s₁) (f' := (mkF m 1 #[.val (.ref a1), .val (.int (0 : Int32)), .val (.ref a3), .val (.int (0 : Int32)), .val (.int (1 : Int32)), .unset, .unset] [(.int (0 : Int32))])) (fun _ k => XS.iconst X0.here hx rfl (hb hby d9_0) k) ?_
  refine Go.step (T' := s₁) (f' := (mkF m 3 #[.val (.ref a1), .val (.int (0 : Int32)), .val (.ref a3), .val (.int (0 : Int32)), .val (.int (1 : Int32)), .val (.int (0 : Int32)), .unset] [])) (fun _ k => XS.istore X0.here hx rfl (hb hby d9_1) rfl (l' := #[.val (.ref a1), .val (.int (0 : Int32)), .val (.ref a3), .val (.int (0 : Int32)), .val (.int (1 : Int32)), .val (.int (0 : Int32)), .unset]) rfl k) ?_
  refine Go.step (T' := s₁) (f' := (mkF m 5 #[.val (.ref a1), .val (.int (0 : Int32)), .val (.ref a3), .val (.int (0 : Int32)), .val (.int (1 : Int32)), .val (.int (0 : Int32)), .unset] [(.int (0 : Int32))])) (fun _ k => XS.iload X0.here hx rfl (hb hby d9_3) rfl k) ?_
  refine Go.step (T' := s₁) (f' := (mkF m 7 #[.val (.ref a1), .val (.int (0 : Int32)), .val (.ref a3), .val (.int (0 : Int32)), .val (.int (1 : Int32)), .val (.int (0 : Int32)), .unset] [(.int (1 : Int32)), (.int (0 : Int32))])) (fun _ k => XS.iload X0.here hx rfl (hb hby d9_5) rfl k) ?_
  refine Go.step (T' := s₁) (f' := (mkF m 10 #[.val (.ref a1), .val (.int (0 : Int32)), .val (.ref a3), .val (.int (0 : Int32)), .val (.int (1 : Int32)), .val (.int (0 : Int32)), .unset] [])) (fun _ k => XS.icmpNo X0.here hx rfl (hb hby d9_7) rfl (tlt (by decide : (0 : Int32) < (1 : Int32))).2.1 k) ?_
  refine Go.step (T' := s₁) (f' := (mkF m 11 #[.val (.ref a1), .val (.int (0 : Int32)), .val (.ref a3), .val (.int (0 : Int32)), .val (.int (1 : Int32)), .val (.int (0 : Int32)), .unset] [(.ref a1)])) (fun _ k => XS.aloadN X0.here hx rfl (hb hby d9_10) rfl rfl k) ?_
  refine Go.step (T' := s₁) (f' := (mkF m 12 #[.val (.ref a1), .val (.int (0 : Int32)), .val (.ref a3), .val (.int (0 : Int32)), .val (.int (1 : Int32)), .val (.int (0 : Int32)), .unset] [(.int (0 : Int32)), (.ref a1)])) (fun _ k => XS.iloadN X0.here hx rfl (hb hby d9_11) rfl k) ?_
  obtain ⟨cl1, Ar1, qc1, Sz1, Nn1, Hs1, Gf1⟩ := id V_a1
  have hin2 : ¬ ((0 : Int32) < 0 ∨ cl1.slots.size ≤ ((0 : Int32)).toNatClampNeg) := (inb_of Sz1 ⟨by decide, by decide⟩)
  have hat2 : cl1.slots[((0 : Int32)).toNatClampNeg]? = some (.int c0) := Has.at Hs1 hin2 rfl
  refine Go.step (T' := s₁) (f' := (mkF m 13 #[.val (.ref a1), .val (.int (0 : Int32)), .val (.ref a3), .val (.int (0 : Int32)), .val (.int (1 : Int32)), .val (.int (0 : Int32)), .unset] [(.int c0)])) (fun _ k => X0.caload hx (j := (0 : Int32)) (v := (.int c0)) (by rw [e0]; exact Ar1.1) (State.isArrayOf_alike hZ.alike Ar1.2.1) Ar1.2.2 hin2 hat2 (g := (mkF m 12 #[.val (.ref a1), .val (.int (0 : Int32)), .val (.ref a3), .val (.int (0 : Int32)), .val (.int (1 : Int32)), .val (.int (0 : Int32)), .unset] [(.int (0 : Int32)), (.ref a1)])) rfl rfl (hb hby d9_12) _ k) ?_
  refine Go.step (T' := s₁) (f' := (mkF m 15 #[.val (.ref a1), .val (.int (0 : Int32)), .val (.ref a3), .val (.int (0 : Int32)), .val (.int (1 : Int32)), .val (.int (0 : Int32)), .val (.int c0)] [])) (fun _ k => XS.istore X0.here hx rfl (hb hby d9_13) rfl (l' := #[.val (.ref a1), .val (.int (0 : Int32)), .val (.ref a3), .val (.int (0 : Int32)), .val (.int (1 : Int32)), .val (.int (0 : Int32)), .val (.int c0)]) rfl k) ?_
  refine Go.step (T' := s₁) (f' := (mkF m 17 #[.val (.ref a1), .val (.int (0 : Int32)), .val (.ref a3), .val (.int (0 : Int32)), .val (.int (1 : Int32)), .val (.int (0 : Int32)), .val (.int c0)] [(.int c0)])) (fun _ k => XS.iload X0.here hx rfl (hb hby d9_15) rfl k) ?_
  refine Go.step (T' := s₁) (f' := (mkF m 20 #[.val (.ref a1), .val (.int (0 : Int32)), .val (.ref a3), .val (.int (0 : Int32)), .val (.int (1 : Int32)), .val (.int (0 : Int32)), .val (.int c0)] [(.int (255 : Int32)), (.int c0)])) (fun _ k => XS.sipush X0.here hx rfl (hb hby d9_17) k) ?_
  refine Go.step (T' := s₁) (f' := (mkF m 26 #[.val (.ref a1), .val (.int (0 : Int32)), .val (.ref a3), .val (.int (0 : Int32)), .val (.int (1 : Int32)), .val (.int (0 : Int32)), .val (.int c0)] [])) (fun _ k => XS.icmpYes X0.here hx rfl (pc0 := 20) (pc' := 26) rfl (hb hby d9_20) rfl (flt hl0).2.2.2 (by decide) (by decide) k) ?_
  refine Go.step (T' := s₁) (f' := (mkF m 27 #[.val (.ref a1), .val (.int (0 : Int32)), .val (.ref a3), .val (.int (0 : Int32)), .val (.int (1 : Int32)), .val (.int (0 : Int32)), .val (.int c0)] [(.ref a3)])) (fun _ k => XS.aloadN X0.here hx rfl (hb hby d9_26) rfl rfl k) ?_
  refine Go.step (T' := s₁) (f' := (mkF m 28 #[.val (.ref a1), .val (.int (0 : Int32)), .val (.ref a3), .val (.int (0 : Int32)), .val (.int (1 : Int32)), .val (.int (0 : Int32)), .val (.int c0)] [(.int (0 : Int32)), (.ref a3)])) (fun _ k => XS.iloadN X0.here hx rfl (hb hby d9_27) rfl k) ?_
  refine Go.step (T' := s₁) (f' := (mkF m 30 #[.val (.ref a1), .val (.int (0 : Int32)), .val (.ref a3), .val (.int (0 : Int32)), .val (.int (1 : Int32)), .val (.int (0 : Int32)), .val (.int c0)] [(.int c0), (.int (0 : Int32)), (.ref a3)])) (fun _ k => XS.iload X0.here hx rfl (hb hby d9_28) rfl k) ?_
  refine Go.step (T' := s₁) (f' := (mkF m 31 #[.val (.ref a1), .val (.int (0 : Int32)), .val (.ref a3), .val (.int (0 : Int32)), .val (.int (1 : Int32)), .val (.int (0 : Int32)), .val (.int c0)] [(.int (c0.toInt8.toInt32)), (.int (0 : Int32)), (.ref a3)])) (fun _ k => XS.i2b X0.here hx rfl (hb hby d9_30) rfl k) ?_
  obtain ⟨cl3, Ar3, qc3, Sz3, Nn3, Hs3, Gf3⟩ := id V_a3
  have hin4 : ¬ ((0 : Int32) < 0 ∨ cl3.slots.size ≤ ((0 : Int32)).toNatClampNeg) := (inb_of Sz3 ⟨by decide, by decide⟩)
  obtain ⟨T4, h4, X4, e4, W4, st4⟩ := stB X0 hx hZ e0 Ar3 (j := (0 : Int32)) hin4 (g := (mkF m 31 #[.val (.ref a1), .val (.int (0 : Int32)), .val (.ref a3), .val (.int (0 : Int32)), .val (.int (1 : Int32)), .val (.int (0 : Int32)), .val (.int c0)] [(.int (c0.toInt8.toInt32)), (.int (0 : Int32)), (.ref a3)])) rfl rfl (hb hby d9_31)
  have N4 := Fr.snoc X4 N0 g_a3
  have Z5 : n0 ≤ h4.size := Nat.le_trans Z0 (Keep.of_wr W4).1
  have K5 : Keep h0 h4 [a3] := (Keep.refl h0 [a3]).wr W4 (Or.inl (List.mem_of_getElem? (i := 0) rfl))
  rw [own_nb] at W4
  have Va4 : Arv Z h4 a3 kb .byte (1 : Int32) [(.int (c0.toInt8.toInt32))] (.int (0 : Int32)) := Arv.set Ar3 qc3 Sz3 Nn3 Hs3 Gf3 (fits_nar_byte _) W4 0 rfl (Nat.le_of_ble_eq_true rfl)
  refine Go.step (T' := T4) (f' := (mkF m 32 #[.val (.ref a1), .val (.int (0 : Int32)), .val (.ref a3), .val (.int (0 : Int32)), .val (.int (1 : Int32)), .val (.int (0 : Int32)), .val (.int c0)] [])) st4 ?_
  refine Go.step (T' := T4) (f' := (mkF m 35 #[.val (.ref a1), .val (.int (1 : Int32)), .val (.ref a3), .val (.int (0 : Int32)), .val (.int (1 : Int32)), .val (.int (0 : Int32)), .val (.int c0)] [])) (fun _ k => XS.iinc X4.here hx rfl (hb hby d9_32) rfl (l' := #[.val (.ref a1), .val (.int (1 : Int32)), .val (.ref a3), .val (.int (0 : Int32)), .val (.int (1 : Int32)), .val (.int (0 : Int32)), .val (.int c0)]) rfl k) ?_
  refine Go.step (T' := T4) (f' := (mkF m 38 #[.val (.ref a1), .val (.int (1 : Int32)), .val (.ref a3), .val (.int (1 : Int32)), .val (.int (1 : Int32)), .val (.int (0 : Int32)), .val (.int c0)] [])) (fun _ k => XS.iinc X4.here hx rfl (hb hby d9_35) rfl (l' := #[.val (.ref a1), .val (.int (1 : Int32)), .val (.ref a3), .val (.int (1 : Int32)), .val (.int (1 : Int32)), .val (.int (0 : Int32)), .val (.int c0)]) rfl k) ?_
  refine Go.step (T' := T4) (f' := (mkF m 41 #[.val (.ref a1), .val (.int (1 : Int32)), .val (.ref a3), .val (.int (1 : Int32)), .val (.int (1 : Int32)), .val (.int (1 : Int32)), .val (.int c0)] [])) (fun _ k => XS.iinc X4.here hx rfl (hb hby d9_38) rfl (l' := #[.val (.ref a1), .val (.int (1 : Int32)), .val (.ref a3), .val (.int (1 : Int32)), .val (.int (1 : Int32)), .val (.int (1 : Int32)), .val (.int c0)]) rfl k) ?_
  refine Go.step (T' := T4) (f' := (mkF m 3 #[.val (.ref a1), .val (.int (1 : Int32)), .val (.ref a3), .val (.int (1 : Int32)), .val (.int (1 : Int32)), .val (.int (1 : Int32)), .val (.int c0)] [])) (fun _ k => XS.goto X4.here hx rfl (pc0 := 41) (pc' := 3) rfl (hb hby d9_41) (by decide) (by decide) k) ?_
  refine Go.step (T' := T4) (f' := (mkF m 5 #[.val (.ref a1), .val (.int (1 : Int32)), .val (.ref a3), .val (.int (1 : Int32)), .val (.int (1 : Int32)), .val (.int (1 : Int32)), .val (.int c0)] [(.int (1 : Int32))])) (fun _ k => XS.iload X4.here hx rfl (hb hby d9_3) rfl k) ?_
  refine Go.step (T' := T4) (f' := (mkF m 7 #[.val (.ref a1), .val (.int (1 : Int32)), .val (.ref a3), .val (.int (1 : Int32)), .val (.int (1 : Int32)), .val (.int (1 : Int32)), .val (.int c0)] [(.int (1 : Int32)), (.int (1 : Int32))])) (fun _ k => XS.iload X4.here hx rfl (hb hby d9_5) rfl k) ?_
  refine Go.step (T' := T4) (f' := (mkF m 44 #[.val (.ref a1), .val (.int (1 : Int32)), .val (.ref a3), .val (.int (1 : Int32)), .val (.int (1 : Int32)), .val (.int (1 : Int32)), .val (.int c0)] [])) (fun _ k => XS.icmpYes X4.here hx rfl (pc0 := 7) (pc' := 44) rfl (hb hby d9_7) rfl (flt (by decide : ¬ ((1 : Int32) < (1 : Int32)))).2.1 (by decide) (by decide) k) ?_
  refine Go.step (T' := T4) (f' := (mkF m 46 #[.val (.ref a1), .val (.int (1 : Int32)), .val (.ref a3), .val (.int (1 : Int32)), .val (.int (1 : Int32)), .val (.int (1 : Int32)), .val (.int c0)] [(.int (1 : Int32))])) (fun _ k => XS.iload X4.here hx rfl (hb hby d9_44) rfl k) ?_
  refine goI X4 hx Bd.returns Bd.notSynchronized (hb hby d9_46) ?_ (by decide) (by decide)
  show Q_rmCpA1 Z a1 a3 kc c0 kb h0 n0 _ T4.heap _
  rw [e4]
  exact ⟨rfl, N4, K5, Va4⟩
theorem d8_0 : decode jdk_52_method_16_code 0 = .ok (.iload_n 2, 1) := by decide +kernel
theorem d8_1 : decode jdk_52_method_16_code 1 = .ok (.newarray .byte, 2) := by decide +kernel
theorem d8_3 : decode jdk_52_method_16_code 3 = .ok (.astore_n 3, 1) := by decide +kernel
theorem d8_4 : decode jdk_52_method_16_code 4 = .ok (.aload_n 0, 1) := by decide +kernel
theorem d8_5 : decode jdk_52_method_16_code 5 = .ok (.iload_n 1, 1) := by decide +kernel
theorem d8_6 : decode jdk_52_method_16_code 6 = .ok (.aload_n 3, 1) := by decide +kernel
theorem d8_7 : decode jdk_52_method_16_code 7 = .ok (.iconst 0, 1) := by decide +kernel
theorem d8_8 : decode jdk_52_method_16_code 8 = .ok (.iload_n 2, 1) := by decide +kernel
theorem d8_9 : decode jdk_52_method_16_code 9 = .ok (.invokestatic 115, 3) := by decide +kernel
theorem pd_0 : parseMethodDescriptor "([CI[BII)I" = some ⟨[(.array .char), .int, (.array .byte), .int, .int], some .int⟩ := by decide +kernel
theorem d8_12 : decode jdk_52_method_16_code 12 = .ok (.istore 4, 2) := by decide +kernel
theorem d8_14 : decode jdk_52_method_16_code 14 = .ok (.iload 4, 2) := by decide +kernel
theorem d8_16 : decode jdk_52_method_16_code 16 = .ok (.iload_n 2, 1) := by decide +kernel
theorem d8_17 : decode jdk_52_method_16_code 17 = .ok (.if_icmp .eq 40, 3) := by decide +kernel
theorem d8_57 : decode jdk_52_method_16_code 57 = .ok (.aload_n 3, 1) := by decide +kernel
theorem d8_58 : decode jdk_52_method_16_code 58 = .ok (.areturn, 1) := by decide +kernel
theorem ef_rmCpB1 (m : MethodId) (a1 : Addr) : entryFrame m #[(.ref a1), (.int (0 : Int32)), (.int (1 : Int32))] 6 = mkF m 0 #[.val (.ref a1), .val (.int (0 : Int32)), .val (.int (1 : Int32)), .unset, .unset, .unset] [] := by first | (simp [entryFrame, mkF, argsToLocals, Value.category]; done) | rfl
def Q_rmCpB1 (Z : State) (a1 : Addr) (kc : ClassId) (c0 : Int32) (h0 : Heap) (n0 : Nat) (rv : Option Value) (hq : Heap) (Lq : List Loc) : Prop := ∃ b : Addr, ∃ kb : ClassId, rv = some (.ref b) ∧ Fr n0 Lq ∧ Keep h0 hq [] ∧ h0.size ≤ b ∧ Arv Z hq b kb .byte (1 : Int32) [(.int (c0.toInt8.toInt32))] (.int (0 : Int32))
set_option maxRecDepth 65536 in
set_option maxHeartbeats 40000000 in
theorem rmCpB1 (l : Launch) (Z : State) (a0 : Array Value) (hw : ∀ d ∈ tables_1, d.before a0 Z = true) (ws : List Jvm.Cond) (a1 : Addr) (kc : ClassId) (c0 : Int32) (h0 : Heap) (n0 : Nat) (Z0 : n0 ≤ h0.size) (V_a1 : Arv Z h0 a1 kc .char (1 : Int32) [(.int c0)] (.int (0 : Int32))) (hl0 : ¬ (255 : Int32) < c0) :
    MetFree l (⟨"java/lang/StringUTF16", "compress", "([CII)[B"⟩ : MethodName) (head1 (Jvm.Cond.code (⟨"java/lang/StringUTF16", "compress", "([CII)[B"⟩ : MethodName) jdk_52_method_16_code 6 (some (.array .byte)) :: ws) ({ frames := 1, cells := 1, slots := 1, locals := 18 } : Room)) (fun a U => a = #[(.ref a1), (.int (0 : Int32)), (.int (1 : Int32))] ∧ Z.Warmed39 U.vm ∧ U.heap = h0) (fun _ _ _ _ _ => True) (fun _ U o U' => ∃ rv Lq, o = .returned rv ∧ Q_rmCpB1 Z a1 kc c0 h0 n0 rv U'.heap Lq ∧ FrameEnd U o U' Lq ({ frames := 1, cells := 1, slots := 1, locals := 18 } : Room).cells ({ frames := 1, cells := 1, slots := 1, locals := 18 } : Room).slots) := by
  refine MetFree.of_bodySF (plainFor_of_name pn_9) hisR ?_
  intro p e s m args below meth c s₁ Bd hml0 hP hK
  obtain ⟨rfl, hZ, hh⟩ := hP
  have hx := Bd.exec
  have hby := Bd.bytes
  have hml : c.maxLocals = 6 := hml0
  have hown : s.vm.findClass "java/lang/StringUTF16" = some m.cls := findClass_of_methodNamed Bd.named
  have hnm := (name_of_methodNamed Bd.named Bd.method).1
  have X0 : Stand p l e ({ frames := 1, cells := 1, slots := 1, locals := 18 } : Room) s m #[(.ref a1), (.int (0 : Int32)), (.int (1 : Int32))] below meth c s₁ [] 0 0 := Stand.of_body Bd
  have e0 : s₁.heap = h0 := by rw [← hh, Bd.state]; rfl
  have N0 := Fr.nil n0
  refine of_go (ef_rmCpB1 m a1) ?_
  refine Go.step (T' := s₁) (f' := (mkF m 1 #[.val (.ref a1), .val (.int (0 : Int32)), .val (.int (1 : Int32)), .unset, .unset, .unset] [(.int (1 : Int32))])) (fun _ k => XS.iloadN X0.here hx rfl (hb hby d8_0) rfl k) ?_
  obtain ⟨T1, h1, k1, X1, e1, E1, A1, st1⟩ := newP X0 hx hZ (hw _ (List.mem_of_getElem? (i := 14) rfl)) e0 (g := (mkF m 1 #[.val (.ref a1), .val (.int (0 : Int32)), .val (.int (1 : Int32)), .unset, .unset, .unset] [(.int (1 : Int32))])) rfl (hb hby d8_1) rfl (by decide) (cap := 1) (by decide) (by decide) (by decide) (by decide)
  obtain ⟨b1, g1⟩ : ∃ z, z = h0.size := ⟨_, rfl⟩
  rw [← g1] at A1 st1
  have g_b1 : n0 ≤ b1 := Nat.le_trans Z0 (Nat.le_of_eq g1.symm)
  have sz_b1 : h0.size ≤ b1 := Nat.le_trans (Keep.refl h0 []).1 (Nat.le_of_eq g1.symm)
  have Z2 : n0 ≤ h1.size := Nat.le_trans Z0 E1.1
  have K2 : Keep h0 h1 [] := (Keep.refl h0 []).ext E1
  have V_b1 : Arv Z h1 b1 k1 .byte (1 : Int32) [(.int (0 : Int32))] (.int (0 : Int32)) := (Arv.new A1 (by decide)).pad (pad_rep [] (.int (0 : Int32)) 1)
  refine Go.step (T' := T1) (f' := (mkF m 3 #[.val (.ref a1), .val (.int (0 : Int32)), .val (.int (1 : Int32)), .unset, .unset, .unset] [(.ref b1)])) st1 ?_
  refine Go.step (T' := T1) (f' := (mkF m 4 #[.val (.ref a1), .val (.int (0 : Int32)), .val (.int (1 : Int32)), .val (.ref b1), .unset, .unset] [])) (fun _ k => XS.astoreN X1.here hx rfl (hb hby d8_3) rfl rfl (l' := #[.val (.ref a1), .val (.int (0 : Int32)), .val (.int (1 : Int32)), .val (.ref b1), .unset, .unset]) rfl k) ?_
  refine Go.step (T' := T1) (f' := (mkF m 5 #[.val (.ref a1), .val (.int (0 : Int32)), .val (.int (1 : Int32)), .val (.ref b1), .unset, .unset] [(.ref a1)])) (fun _ k => XS.aloadN X1.here hx rfl (hb hby d8_4) rfl rfl k) ?_
  refine Go.step (T' := T1) (f' := (mkF m 6 #[.val (.ref a1), .val (.int (0 : Int32)), .val (.int (1 : Int32)), .val (.ref b1), .unset, .unset] [(.int (0 : Int32)), (.ref a1)])) (fun _ k => XS.iloadN X1.here hx rfl (hb hby d8_5) rfl k) ?_
  refine Go.step (T' := T1) (f' := (mkF m 7 #[.val (.ref a1), .val (.int (0 : Int32)), .val (.int (1 : Int32)), .val (.ref b1), .unset, .unset] [(.ref b1), (.int (0 : Int32)), (.ref a1)])) (fun _ k => XS.aloadN X1.here hx rfl (hb hby d8_6) rfl rfl k) ?_
  refine Go.step (T' := T1) (f' := (mkF m 8 #[.val (.ref a1), .val (.int (0 : Int32)), .val (.int (1 : Int32)), .val (.ref b1), .unset, .unset] [(.int (0 : Int32)), (.ref b1), (.int (0 : Int32)), (.ref a1)])) (fun _ k => XS.iconst X1.here hx rfl (hb hby d8_7) k) ?_
  refine Go.step (T' := T1) (f' := (mkF m 9 #[.val (.ref a1), .val (.int (0 : Int32)), .val (.int (1 : Int32)), .val (.ref b1), .unset, .unset] [(.int (1 : Int32)), (.int (0 : Int32)), (.ref b1), (.int (0 : Int32)), (.ref a1)])) (fun _ k => XS.iloadN X1.here hx rfl (hb hby d8_8) rfl k) ?_
  have q4 : Arv Z h1 a1 kc .char (1 : Int32) [(.int c0)] (.int (0 : Int32)) := (V_a1.ext E1)
  obtain ⟨_, _, ⟨T3, L3, kk3, nn3⟩, -, X3, ⟨Lc3, hQ3, lq3, yq3, zq3⟩, st3⟩ := Jvm.LawKit.callS X1 hx (y := (⟨"java/lang/StringUTF16", "compress", "([CI[BII)I"⟩ : MethodName)) hown (mvT hZ (hw _ (List.mem_of_getElem? (i := 38) rfl))) (mvT hZ (hw _ (List.mem_of_getElem? (i := 39) rfl))) (mvT hZ (hw _ (List.mem_of_getElem? (i := 36) rfl))) (mvT hZ (hw _ (List.mem_of_getElem? (i := 40) rfl))) (by decide) (backOf (W := 0) (rmCpA1 l Z a0 hw [] a1 b1 kc c0 k1 h1 n0 Z2 q4 V_b1 (Nat.ne_of_lt (Nat.lt_of_lt_of_le V_a1.lt (Nat.le_of_eq g1.symm))) hl0 g_b1) hZ (hw _ (List.mem_of_getElem? (i := 40) rfl)) (hw _ (List.mem_of_getElem? (i := 36) rfl)) (by decide) (by decide)) (g := (mkF m 9 #[.val (.ref a1), .val (.int (0 : Int32)), .val (.int (1 : Int32)), .val (.ref b1), .unset, .unset] [(.int (1 : Int32)), (.int (0 : Int32)), (.ref b1), (.int (0 : Int32)), (.ref a1)])) rfl (by rw [hml]; rfl) (argsL := [(.ref a1), (.int (0 : Int32)), (.ref b1), (.int (0 : Int32)), (.int (1 : Int32))]) (rest := []) (lenOf pd_0 rfl) rfl (by show 2 * 0 + _ ≤ _; exact Nat.le_of_eq rfl) (hb hby d8_9) (fun _ _ => ⟨rfl, e1, (by decide : 1 + 0 ≤ _), (by decide : 1 + 0 ≤ _)⟩)
  dsimp only [Pt.U, Pt.locs, Pt.cells, Pt.slots] at X3 lq3 yq3 zq3 st3 hQ3
  subst yq3 zq3
  obtain ⟨rfl, Nq3, Kq3, r3_0⟩ := hQ3
  have N3 : Fr n0 L3 := by rw [lq3]; exact Fr.app N0 Nq3
  have Z5 : n0 ≤ T3.heap.size := Nat.le_trans Z2 Kq3.1
  have K5 : Keep h0 T3.heap [] := K2.trans Kq3 (allS (Or.inr sz_b1) all0)
  refine Go.step (T' := T3) (f' := (mkF m 12 #[.val (.ref a1), .val (.int (0 : Int32)), .val (.int (1 : Int32)), .val (.ref b1), .unset, .unset] [(.int (1 : Int32))])) st3 ?_
  refine Go.step (T' := T3) (f' := (mkF m 14 #[.val (.ref a1), .val (.int (0 : Int32)), .val (.int (1 : Int32)), .val (.ref b1), .val (.int (1 : Int32)), .unset] [])) (fun _ k => XS.istore X3.here hx rfl (hb hby d8_12) rfl (l' := #[.val (.ref a1), .val (.int (0 : Int32)), .val (.int (1 : Int32)), .val (.ref b1), .val (.int (1 : Int32)), .unset]) rfl k) ?_
  refine Go.step (T' := T3) (f' := (mkF m 16 #[.val (.ref a1), .val (.int (0 : Int32)), .val (.int (1 : Int32)), .val (.ref b1), .val (.int (1 : Int32)), .unset] [(.int (1 : Int32))])) (fun _ k => XS.iload X3.here hx rfl (hb hby d8_14) rfl k) ?_
  refine Go.step (T' := T3) (f' := (mkF m 17 #[.val (.ref a1), .val (.int (0 : Int32)), .val (.int (1 : Int32)), .val (.ref b1), .val (.int (1 : Int32)), .unset] [(.int (1 : Int32)), (.int (1 : Int32))])) (fun _ k => XS.iloadN X3.here hx rfl (hb hby d8_16) rfl k) ?_
  refine Go.step (T' := T3) (f' := (mkF m 57 #[.val (.ref a1), .val (.int (0 : Int32)), .val (.int (1 : Int32)), .val (.ref b1), .val (.int (1 : Int32)), .unset] [])) (fun _ k => XS.icmpYes X3.here hx rfl (pc0 := 17) (pc' := 57) rfl (hb hby d8_17) rfl (teq (by decide : (1 : Int32) = (1 : Int32))).1 (by decide) (by decide) k) ?_
  refine Go.step (T' := T3) (f' := (mkF m 58 #[.val (.ref a1), .val (.int (0 : Int32)), .val (.int (1 : Int32)), .val (.ref b1), .val (.int (1 : Int32)), .unset] [(.ref b1)])) (fun _ k => XS.aloadN X3.here hx rfl (hb hby d8_57) rfl rfl k) ?_
  refine goA X3 hx Bd.returns rfl rfl Bd.notSynchronized (hb hby d8_58) ?_ (by decide) (by decide)
  show Q_rmCpB1 Z a1 kc c0 h0 n0 _ T3.heap _
  exact ⟨b1, k1, rfl, N3, K5, sz_b1, r3_0⟩
theorem d10_0 : decode jdk_52_method_15_code 0 = .ok (.iload_n 1, 1) := by decide +kernel
theorem d10_1 : decode jdk_52_method_15_code 1 = .ok (.aload_n 0, 1) := by decide +kernel
theorem d10_2 : decode jdk_52_method_15_code 2 = .ok (.arraylength, 1) := by decide +kernel
theorem d10_3 : decode jdk_52_method_15_code 3 = .ok (.isub, 1) := by decide +kernel
theorem d10_4 : decode jdk_52_method_15_code 4 = .ok (.bipush 31, 2) := by decide +kernel
theorem d10_6 : decode jdk_52_method_15_code 6 = .ok (.iushr, 1) := by decide +kernel
theorem d10_7 : decode jdk_52_method_15_code 7 = .ok (.i2b, 1) := by decide +kernel
theorem d10_8 : decode jdk_52_method_15_code 8 = .ok (.ireturn, 1) := by decide +kernel
theorem ef_rmCfl1 (m : MethodId) (a1 : Addr) : entryFrame m #[(.ref a1), (.int (1 : Int32))] 2 = mkF m 0 #[.val (.ref a1), .val (.int (1 : Int32))] [] := by first | (simp [entryFrame, mkF, argsToLocals, Value.category]; done) | rfl
def Q_rmCfl1 (Z : State) (a1 : Addr) (kb : ClassId) (vs : List Value) (h0 : Heap) (n0 : Nat) (rv : Option Value) (hq : Heap) (Lq : List Loc) : Prop := rv = some (.int (0 : Int32)) ∧ Fr n0 Lq ∧ hq = h0
set_option maxRecDepth 65536 in
set_option maxHeartbeats 40000000 in
theorem rmCfl1 (l : Launch) (Z : State) (a0 : Array Value) (hw : ∀ d ∈ tables_1, d.before a0 Z = true) (ws : List Jvm.Cond) (a1 : Addr) (kb : ClassId) (vs : List Value) (h0 : Heap) (n0 : Nat) (Z0 : n0 ≤ h0.size) (V_a1 : Arv Z h0 a1 kb .byte (1 : Int32) vs (.int (0 : Int32))) :
    MetFree l (⟨"java/lang/StringUTF16", "coderFromArrayLen", "([BI)B"⟩ : MethodName) (head1 (Jvm.Cond.code (⟨"java/lang/StringUTF16", "coderFromArrayLen", "([BI)B"⟩ : MethodName) jdk_52_method_15_code 2 (some .byte) :: ws) ({ frames := 0, cells := 0, slots := 0, locals := 0 } : Room)) (fun a U => a = #[(.ref a1), (.int (1 : Int32))] ∧ Z.Warmed39 U.vm ∧ U.heap = h0) (fun _ _ _ _ _ => True) (fun _ U o U' => ∃ rv Lq, o = .returned rv ∧ Q_rmCfl1 Z a1 kb vs h0 n0 rv U'.heap Lq ∧ FrameEnd U o U' Lq ({ frames := 0, cells := 0, slots := 0, locals := 0 } : Room).cells ({ frames := 0, cells := 0, slots := 0, locals := 0 } : Room).slots) := by
  refine MetFree.of_bodySF (plainFor_of_name pn_9) hisR ?_
  intro p e s m args below meth c s₁ Bd hml0 hP hK
  obtain ⟨rfl, hZ, hh⟩ := hP
  have hx := Bd.exec
  have hby := Bd.bytes
  have hml : c.maxLocals = 2 := hml0
  have hown : s.vm.findClass "java/lang/StringUTF16" = some m.cls := findClass_of_methodNamed Bd.named
  have hnm := (name_of_methodNamed Bd.named Bd.method).1
  have X0 : Stand p l e ({ frames := 0, cells := 0, slots := 0, locals := 0 } : Room) s m #[(.ref a1), (.int (1 : Int32))] below meth c s₁ [] 0 0 := Stand.of_body Bd
  have e0 : s₁.heap = h0 := by rw [← hh, Bd.state]; rfl
  have N0 := Fr.nil n0
  refine of_go (ef_rmCfl1 m a1) ?_
  refine Go.step (T' := s₁) (f' := (mkF m 1 #[.val (.ref a1), .val (.int (1 : Int32))] [(.int (1 : Int32))])) (fun _ k => XS.iloadN X0.here hx rfl (hb hby d10_0) rfl k) ?_
  refine Go.step (T' := s₁) (f' := (mkF m 2 #[.val (.ref a1), .val (.int (1 : Int32))] [(.ref a1), (.int (1 : Int32))])) (fun _ k => XS.aloadN X0.here hx rfl (hb hby d10_1) rfl rfl k) ?_
  obtain ⟨cl1, Ar1, qc1, Sz1, Nn1, Hs1, Gf1⟩ := id V_a1
  have hlen1 := X0.arraylength hx (by rw [e0]; exact Ar1.1) (State.isArrayOf_alike hZ.alike Ar1.2.1) (g := (mkF m 2 #[.val (.ref a1), .val (.int (1 : Int32))] [(.ref a1), (.int (1 : Int32))])) rfl rfl (hb hby d10_2)
  rw [len_of Sz1 Nn1] at hlen1
  refine Go.step (T' := s₁) (f' := (mkF m 3 #[.val (.ref a1), .val (.int (1 : Int32))] [(.int (1 : Int32)), (.int (1 : Int32))])) (fun _ k => hlen1 _ k) ?_
  refine Go.step (T' := s₁) (f' := (mkF m 4 #[.val (.ref a1), .val (.int (1 : Int32))] [(.int (0 : Int32))])) (fun _ k => XS.isub X0.here hx rfl (hb hby d10_3) rfl k) ?_
  refine Go.step (T' := s₁) (f' := (mkF m 6 #[.val (.ref a1), .val (.int (1 : Int32))] [(.int (31 : Int32)), (.int (0 : Int32))])) (fun _ k => XS.bipush X0.here hx rfl (hb hby d10_4) k) ?_
  refine Go.step (T' := s₁) (f' := (mkF m 7 #[.val (.ref a1), .val (.int (1 : Int32))] [(.int (0 : Int32))])) (fun _ k => XS.iushr X0.here hx rfl (hb hby d10_6) rfl k) ?_
  refine Go.step (T' := s₁) (f' := (mkF m 8 #[.val (.ref a1), .val (.int (1 : Int32))] [(.int (0 : Int32))])) (fun _ k => XS.i2b X0.here hx rfl (hb hby d10_7) rfl k) ?_
  refine goN X0 hx (t := .byte) Bd.returns (by simp) Bd.notSynchronized (hb hby d10_8) ?_ (by decide) (by decide)
  show Q_rmCfl1 Z a1 kb vs h0 n0 _ s₁.heap _
  rw [e0]
  exact ⟨rfl, N0, rfl⟩
theorem d7_0 : decode jdk_42_method_149_code 0 = .ok (.aload_n 0, 1) := by decide +kernel
theorem d7_1 : decode jdk_42_method_149_code 1 = .ok (.invokespecial 1, 3) := by decide +kernel
theorem d7_4 : decode jdk_42_method_149_code 4 = .ok (.iload_n 3, 1) := by decide +kernel
theorem d7_5 : decode jdk_42_method_149_code 5 = .ok (.ifCond .ne 22, 3) := by decide +kernel
theorem d7_27 : decode jdk_42_method_149_code 27 = .ok (.getstatic 38, 3) := by decide +kernel
theorem d7_30 : decode jdk_42_method_149_code 30 = .ok (.ifCond .eq 28, 3) := by decide +kernel
theorem d7_33 : decode jdk_42_method_149_code 33 = .ok (.aload_n 1, 1) := by decide +kernel
theorem d7_34 : decode jdk_42_method_149_code 34 = .ok (.iload_n 2, 1) := by decide +kernel
theorem d7_35 : decode jdk_42_method_149_code 35 = .ok (.iload_n 3, 1) := by decide +kernel
theorem d7_36 : decode jdk_42_method_149_code 36 = .ok (.invokestatic 177, 3) := by decide +kernel
theorem pd_1 : parseMethodDescriptor "([CII)[B" = some ⟨[(.array .char), .int, .int], some (.array .byte)⟩ := by decide +kernel
theorem d7_39 : decode jdk_42_method_149_code 39 = .ok (.astore 5, 2) := by decide +kernel
theorem d7_41 : decode jdk_42_method_149_code 41 = .ok (.aload_n 0, 1) := by decide +kernel
theorem d7_42 : decode jdk_42_method_149_code 42 = .ok (.aload 5, 2) := by decide +kernel
theorem d7_44 : decode jdk_42_method_149_code 44 = .ok (.iload_n 3, 1) := by decide +kernel
theorem d7_45 : decode jdk_42_method_149_code 45 = .ok (.invokestatic 47, 3) := by decide +kernel
theorem pd_2 : parseMethodDescriptor "([BI)B" = some ⟨[(.array .byte), .int], some .byte⟩ := by decide +kernel
theorem d7_48 : decode jdk_42_method_149_code 48 = .ok (.putfield 15, 3) := by decide +kernel
theorem d7_51 : decode jdk_42_method_149_code 51 = .ok (.aload_n 0, 1) := by decide +kernel
theorem d7_52 : decode jdk_42_method_149_code 52 = .ok (.aload 5, 2) := by decide +kernel
theorem d7_54 : decode jdk_42_method_149_code 54 = .ok (.putfield 9, 3) := by decide +kernel
theorem d7_57 : decode jdk_42_method_149_code 57 = .ok (.return_, 1) := by decide +kernel
theorem pn_7 : plainName "java/lang/String" = true := by first | (simp [plainName, overriddenIn]; done) | decide +kernel
theorem ef_rmSi4_1 (m : MethodId) (a1 : Addr) (a2 : Addr) : entryFrame m #[(.ref a1), (.ref a2), (.int (0 : Int32)), (.int (1 : Int32)), .null] 6 = mkF m 0 #[.val (.ref a1), .val (.ref a2), .val (.int (0 : Int32)), .val (.int (1 : Int32)), .val .null, .unset] [] := by first | (simp [entryFrame, mkF, argsToLocals, Value.category]; done) | rfl
def Q_rmSi4_1 (Z : State) (a1 : Addr) (a2 : Addr) (cs : Int32) (kc : ClassId) (c0 : Int32) (h0 : Heap) (n0 : Nat) (rv : Option Value) (hq : Heap) (Lq : List Loc) : Prop := ∃ b : Addr, ∃ kb : ClassId, rv = none ∧ Fr n0 Lq ∧ Keep h0 hq [a1] ∧ h0.size ≤ b ∧ Fld Z hq a1 "java/lang/String" "value" "[B" (.ref b) ∧ Fld Z hq a1 "java/lang/String" "coder" "B" (.int (0 : Int32)) ∧ Arv Z hq b kb .byte (1 : Int32) [(.int (c0.toInt8.toInt32))] (.int (0 : Int32))
set_option maxRecDepth 65536 in
set_option maxHeartbeats 40000000 in
theorem rmSi4_1 (l : Launch) (Z : State) (a0 : Array Value) (hw : ∀ d ∈ tables_1, d.before a0 Z = true) (ws : List Jvm.Cond) (a1 : Addr) (a2 : Addr) (cs : Int32) (kc : ClassId) (c0 : Int32) (h0 : Heap) (n0 : Nat) (Z0 : n0 ≤ h0.size) (E_a1 : Exa Z h0 a1 "java/lang/String") (F_value_a1 : Fld Z h0 a1 "java/lang/String" "value" "[B" .null) (F_coder_a1 : Fld Z h0 a1 "java/lang/String" "coder" "B" (.int (0 : Int32))) (V_a2 : Arv Z h0 a2 kc .char (1 : Int32) [(.int c0)] (.int (0 : Int32))) (O0 : Old Z n0 h0) (S_COMPACT_STRINGS : Sta Z Z.heap "java/lang/String" "COMPACT_STRINGS" "Z" (.int cs)) (hcs : ¬ cs = (0 : Int32)) (hl0 : ¬ (255 : Int32) < c0) (g_a1 : n0 ≤ a1) :
    MetFree l (⟨"java/lang/String", "<init>", "([CIILjava/lang/Void;)V"⟩ : MethodName) (head1 (Jvm.Cond.code (⟨"java/lang/String", "<init>", "([CIILjava/lang/Void;)V"⟩ : MethodName) jdk_42_method_149_code 6 none :: ws) ({ frames := 2, cells := 1, slots := 1, locals := 35 } : Room)) (fun a U => a = #[(.ref a1), (.ref a2), (.int (0 : Int32)), (.int (1 : Int32)), .null] ∧ Z.Warmed39 U.vm ∧ U.heap = h0) (fun _ _ _ _ _ => True) (fun _ U o U' => ∃ rv Lq, o = .returned rv ∧ Q_rmSi4_1 Z a1 a2 cs kc c0 h0 n0 rv U'.heap Lq ∧ FrameEnd U o U' Lq ({ frames := 2, cells := 1, slots := 1, locals := 35 } : Room).cells ({ frames := 2, cells := 1, slots := 1, locals := 35 } : Room).slots) := by
  refine MetFree.of_bodySF (plainFor_of_name pn_7) hisR ?_
  intro p e s m args below meth c s₁ Bd hml0 hP hK
  obtain ⟨rfl, hZ, hh⟩ := hP
  have hx := Bd.exec
  have hby := Bd.bytes
  have hml : c.maxLocals = 6 := hml0
  have hown : s.vm.findClass "java/lang/String" = some m.cls := findClass_of_methodNamed Bd.named
  have hnm := (name_of_methodNamed Bd.named Bd.method).1
  have X0 : Stand p l e ({ frames := 2, cells := 1, slots := 1, locals := 35 } : Room) s m #[(.ref a1), (.ref a2), (.int (0 : Int32)), (.int (1 : Int32)), .null] below meth c s₁ [] 0 0 := Stand.of_body Bd
  have e0 : s₁.heap = h0 := by rw [← hh, Bd.state]; rfl
  have N0 := Fr.nil n0
  refine of_go (ef_rmSi4_1 m a1 a2) ?_
  refine Go.step (T' := s₁) (f' := (mkF m 1 #[.val (.ref a1), .val (.ref a2), .val (.int (0 : Int32)), .val (.int (1 : Int32)), .val .null, .unset] [(.ref a1)])) (fun _ k => XS.aloadN X0.here hx rfl (hb hby d7_0) rfl rfl k) ?_
  obtain ⟨T1, X1, e1, st1⟩ := initO X0 hx hZ hown (hw _ (List.mem_of_getElem? (i := 19) rfl)) (hw _ (List.mem_of_getElem? (i := 20) rfl)) (hw _ (List.mem_of_getElem? (i := 21) rfl)) e0 (g := (mkF m 1 #[.val (.ref a1), .val (.ref a2), .val (.int (0 : Int32)), .val (.int (1 : Int32)), .val .null, .unset] [(.ref a1)])) rfl (by rw [hml]; rfl) rfl (hb hby d7_1) (by decide) (W := 0) (by show 2 * 0 + _ ≤ _; exact Nat.le_of_eq rfl) (by decide)
  refine Go.step (T' := T1) (f' := (mkF m 4 #[.val (.ref a1), .val (.ref a2), .val (.int (0 : Int32)), .val (.int (1 : Int32)), .val .null, .unset] [])) st1 ?_
  refine Go.step (T' := T1) (f' := (mkF m 5 #[.val (.ref a1), .val (.ref a2), .val (.int (0 : Int32)), .val (.int (1 : Int32)), .val .null, .unset] [(.int (1 : Int32))])) (fun _ k => XS.iloadN X1.here hx rfl (hb hby d7_4) rfl k) ?_
  refine Go.step (T' := T1) (f' := (mkF m 27 #[.val (.ref a1), .val (.ref a2), .val (.int (0 : Int32)), .val (.int (1 : Int32)), .val .null, .unset] [])) (fun _ k => XS.ifYes X1.here hx rfl (pc0 := 5) (pc' := 27) rfl (hb hby d7_5) rfl ((if0 _ _).trans (feq (by decide : ¬ ((1 : Int32) = (0 : Int32)))).2) (by decide) (by decide) k) ?_
  obtain ⟨T2, X2, e2, st2⟩ := getS2 X1 hx hZ hown (host := "") (Or.inl (hw _ (List.mem_of_getElem? (i := 4) rfl))) Via.refl e1 (S_COMPACT_STRINGS.ext O0.2) (g := (mkF m 27 #[.val (.ref a1), .val (.ref a2), .val (.int (0 : Int32)), .val (.int (1 : Int32)), .val .null, .unset] [])) rfl (hb hby d7_27)
  refine Go.step (T' := T2) (f' := (mkF m 30 #[.val (.ref a1), .val (.ref a2), .val (.int (0 : Int32)), .val (.int (1 : Int32)), .val .null, .unset] [(.int cs)])) st2 ?_
  refine Go.step (T' := T2) (f' := (mkF m 33 #[.val (.ref a1), .val (.ref a2), .val (.int (0 : Int32)), .val (.int (1 : Int32)), .val .null, .unset] [])) (fun _ k => XS.ifNo X2.here hx rfl (hb hby d7_30) rfl ((if0 _ _).trans (feq hcs).1) k) ?_
  refine Go.step (T' := T2) (f' := (mkF m 34 #[.val (.ref a1), .val (.ref a2), .val (.int (0 : Int32)), .val (.int (1 : Int32)), .val .null, .unset] [(.ref a2)])) (fun _ k => XS.aloadN X2.here hx rfl (hb hby d7_33) rfl rfl k) ?_
  refine Go.step (T' := T2) (f' := (mkF m 35 #[.val (.ref a1), .val (.ref a2), .val (.int (0 : Int32)), .val (.int (1 : Int32)), .val .null, .unset] [(.int (0 : Int32)), (.ref a2)])) (fun _ k => XS.iloadN X2.here hx rfl (hb hby d7_34) rfl k) ?_
  refine Go.step (T' := T2) (f' := (mkF m 36 #[.val (.ref a1), .val (.ref a2), .val (.int (0 : Int32)), .val (.int (1 : Int32)), .val .null, .unset] [(.int (1 : Int32)), (.int (0 : Int32)), (.ref a2)])) (fun _ k => XS.iloadN X2.here hx rfl (hb hby d7_35) rfl k) ?_
  obtain ⟨_, _, ⟨T3, L3, kk3, nn3⟩, -, X3, ⟨Lc3, hQ3, lq3, yq3, zq3⟩, st3⟩ := Jvm.LawKit.callS X2 hx (y := (⟨"java/lang/StringUTF16", "compress", "([CII)[B"⟩ : MethodName)) hown (mvT hZ (hw _ (List.mem_of_getElem? (i := 34) rfl))) (mvT hZ (hw _ (List.mem_of_getElem? (i := 35) rfl))) (mvT hZ (hw _ (List.mem_of_getElem? (i := 36) rfl))) (mvT hZ (hw _ (List.mem_of_getElem? (i := 37) rfl))) (by decide) (backOf (W := 0) (rmCpB1 l Z a0 hw [] a2 kc c0 h0 n0 Z0 V_a2 hl0) hZ (hw _ (List.mem_of_getElem? (i := 37) rfl)) (hw _ (List.mem_of_getElem? (i := 36) rfl)) (by decide) (by decide)) (g := (mkF m 36 #[.val (.ref a1), .val (.ref a2), .val (.int (0 : Int32)), .val (.int (1 : Int32)), .val .null, .unset] [(.int (1 : Int32)), (.int (0 : Int32)), (.ref a2)])) rfl (by rw [hml]; rfl) (argsL := [(.ref a2), (.int (0 : Int32)), (.int (1 : Int32))]) (rest := []) (lenOf pd_1 rfl) rfl (by show 2 * 0 + _ ≤ _; exact Nat.le_of_eq rfl) (hb hby d7_36) (fun _ _ => ⟨rfl, e2, (by decide : 0 + 1 ≤ _), (by decide : 0 + 1 ≤ _)⟩)
  dsimp only [Pt.U, Pt.locs, Pt.cells, Pt.slots] at X3 lq3 yq3 zq3 st3 hQ3
  subst yq3 zq3
  obtain ⟨b_3, kb_3, rfl, Nq3, Kq3, r3_0, r3_1⟩ := hQ3
  have N3 : Fr n0 L3 := by rw [lq3]; exact Fr.app N0 Nq3
  have g_b_3 : n0 ≤ b_3 := Nat.le_trans Z0 r3_0
  have sz_b_3 : h0.size ≤ b_3 := Nat.le_trans (Keep.refl h0 [a1]).1 r3_0
  have Z4 : n0 ≤ T3.heap.size := Nat.le_trans Z0 Kq3.1
  have O4 : Old Z n0 T3.heap := O0.keep Kq3 all0
  have K4 : Keep h0 T3.heap [a1] := (Keep.refl h0 [a1]).trans Kq3 all0
  refine Go.step (T' := T3) (f' := (mkF m 39 #[.val (.ref a1), .val (.ref a2), .val (.int (0 : Int32)), .val (.int (1 : Int32)), .val .null, .unset] [(.ref b_3)])) st3 ?_
  refine Go.step (T' := T3) (f' := (mkF m 41 #[.val (.ref a1), .val (.ref a2), .val (.int (0 : Int32)), .val (.int (1 : Int32)), .val .null, .val (.ref b_3)] [])) (fun _ k => XS.astore X3.here hx rfl (hb hby d7_39) rfl rfl (l' := #[.val (.ref a1), .val (.ref a2), .val (.int (0 : Int32)), .val (.int (1 : Int32)), .val .null, .val (.ref b_3)]) rfl k) ?_
  refine Go.step (T' := T3) (f' := (mkF m 42 #[.val (.ref a1), .val (.ref a2), .val (.int (0 : Int32)), .val (.int (1 : Int32)), .val .null, .val (.ref b_3)] [(.ref a1)])) (fun _ k => XS.aloadN X3.here hx rfl (hb hby d7_41) rfl rfl k) ?_
  refine Go.step (T' := T3) (f' := (mkF m 44 #[.val (.ref a1), .val (.ref a2), .val (.int (0 : Int32)), .val (.int (1 : Int32)), .val .null, .val (.ref b_3)] [(.ref b_3), (.ref a1)])) (fun _ k => XS.aload X3.here hx rfl (hb hby d7_42) rfl rfl k) ?_
  refine Go.step (T' := T3) (f' := (mkF m 45 #[.val (.ref a1), .val (.ref a2), .val (.int (0 : Int32)), .val (.int (1 : Int32)), .val .null, .val (.ref b_3)] [(.int (1 : Int32)), (.ref b_3), (.ref a1)])) (fun _ k => XS.iloadN X3.here hx rfl (hb hby d7_44) rfl k) ?_
  obtain ⟨_, _, ⟨T5, L5, kk5, nn5⟩, -, X5, ⟨Lc5, hQ5, lq5, yq5, zq5⟩, st5⟩ := Jvm.LawKit.callS X3 hx (y := (⟨"java/lang/StringUTF16", "coderFromArrayLen", "([BI)B"⟩ : MethodName)) hown (mvT hZ (hw _ (List.mem_of_getElem? (i := 41) rfl))) (mvT hZ (hw _ (List.mem_of_getElem? (i := 42) rfl))) (mvT hZ (hw _ (List.mem_of_getElem? (i := 36) rfl))) (mvT hZ (hw _ (List.mem_of_getElem? (i := 43) rfl))) (by decide) (backOf (W := 1) (rmCfl1 l Z a0 hw [] b_3 kb_3 [(.int (c0.toInt8.toInt32))] T3.heap n0 Z4 r3_1) hZ (hw _ (List.mem_of_getElem? (i := 43) rfl)) (hw _ (List.mem_of_getElem? (i := 36) rfl)) (by decide) (by decide)) (g := (mkF m 45 #[.val (.ref a1), .val (.ref a2), .val (.int (0 : Int32)), .val (.int (1 : Int32)), .val .null, .val (.ref b_3)] [(.int (1 : Int32)), (.ref b_3), (.ref a1)])) rfl (by rw [hml]; rfl) (argsL := [(.ref b_3), (.int (1 : Int32))]) (rest := [(.ref a1)]) (lenOf pd_2 rfl) rfl (by show 2 * 0 + _ ≤ _; exact Nat.le_of_eq rfl) (hb hby d7_45) (fun _ _ => ⟨rfl, rfl, (by decide : 1 + 0 ≤ _), (by decide : 1 + 0 ≤ _)⟩)
  dsimp only [Pt.U, Pt.locs, Pt.cells, Pt.slots] at X5 lq5 yq5 zq5 st5 hQ5
  subst yq5 zq5
  obtain ⟨rfl, Nq5, eh5⟩ := hQ5
  have N5 : Fr n0 L5 := by rw [lq5]; exact Fr.app N3 Nq5
  refine Go.step (T' := T5) (f' := (mkF m 48 #[.val (.ref a1), .val (.ref a2), .val (.int (0 : Int32)), .val (.int (1 : Int32)), .val .null, .val (.ref b_3)] [(.int (0 : Int32)), (.ref a1)])) st5 ?_
  have q6 : Fld Z T3.heap a1 "java/lang/String" "coder" "B" (.int (0 : Int32)) := (F_coder_a1.keep Kq3 nin0)
  have q7 : Exa Z T3.heap a1 "java/lang/String" := (E_a1.keep Kq3)
  obtain ⟨T8, h8, X8, e8, W8, st8⟩ := putFN X5 hx hZ hown (hw _ (List.mem_of_getElem? (i := 24) rfl)) Via.refl eh5 q6 q7 (Or.inr ⟨(hw _ (List.mem_of_getElem? (i := 25) rfl)), rfl, hnm⟩) (hw _ (List.mem_of_getElem? (i := 10) rfl)) (ty := .byte) (v := .int (0 : Int32)) (v' := .int (0 : Int32)) (by decide) rfl (by decide) (g := (mkF m 48 #[.val (.ref a1), .val (.ref a2), .val (.int (0 : Int32)), .val (.int (1 : Int32)), .val .null, .val (.ref b_3)] [(.int (0 : Int32)), (.ref a1)])) rfl rfl (hb hby d7_48)
  have N8 := Fr.snoc X8 N5 g_a1
  have Z9 : n0 ≤ h8.size := Nat.le_trans Z4 (Keep.of_wr W8).1
  have O9 : Old Z n0 h8 := O4.wr W8 g_a1
  have K9 : Keep h0 h8 [a1] := K4.wr W8 (Or.inl (List.mem_of_getElem? (i := 0) rfl))
  have Fw8 := q6.same W8
  refine Go.step (T' := T8) (f' := (mkF m 51 #[.val (.ref a1), .val (.ref a2), .val (.int (0 : Int32)), .val (.int (1 : Int32)), .val .null, .val (.ref b_3)] [])) st8 ?_
  refine Go.step (T' := T8) (f' := (mkF m 52 #[.val (.ref a1), .val (.ref a2), .val (.int (0 : Int32)), .val (.int (1 : Int32)), .val .null, .val (.ref b_3)] [(.ref a1)])) (fun _ k => XS.aloadN X8.here hx rfl (hb hby d7_51) rfl rfl k) ?_
  refine Go.step (T' := T8) (f' := (mkF m 54 #[.val (.ref a1), .val (.ref a2), .val (.int (0 : Int32)), .val (.int (1 : Int32)), .val .null, .val (.ref b_3)] [(.ref b_3), (.ref a1)])) (fun _ k => XS.aload X8.here hx rfl (hb hby d7_52) rfl rfl k) ?_
  have q10 : Fld Z h8 a1 "java/lang/String" "value" "[B" .null := ((F_value_a1.keep Kq3 nin0).other W8 (Or.inr (slot_ne (Or.inr (hw _ (List.mem_of_getElem? (i := 23) rfl))) (Or.inr (hw _ (List.mem_of_getElem? (i := 25) rfl))) (by decide) (t := (.array .byte)) (t' := .byte) (by decide) (by decide))))
  have q11 : Exa Z h8 a1 "java/lang/String" := (q7.wr W8)
  obtain ⟨T12, h12, X12, e12, W12, st12⟩ := putF X8 hx hZ hown (host := "") (Or.inl (hw _ (List.mem_of_getElem? (i := 22) rfl))) Via.refl e8 q10 q11 (Or.inr ⟨(hw _ (List.mem_of_getElem? (i := 23) rfl)), rfl, hnm⟩) (hw _ (List.mem_of_getElem? (i := 10) rfl)) (ty := (.array .byte)) (by decide) rfl rfl (g := (mkF m 54 #[.val (.ref a1), .val (.ref a2), .val (.int (0 : Int32)), .val (.int (1 : Int32)), .val .null, .val (.ref b_3)] [(.ref b_3), (.ref a1)])) rfl rfl (hb hby d7_54)
  have N12 := Fr.snoc X12 N8 g_a1
  have Z13 : n0 ≤ h12.size := Nat.le_trans Z9 (Keep.of_wr W12).1
  have O13 : Old Z n0 h12 := O9.wr W12 g_a1
  have K13 : Keep h0 h12 [a1] := K9.wr W12 (Or.inl (List.mem_of_getElem? (i := 0) rfl))
  have Fw12 := q10.same W12
  refine Go.step (T' := T12) (f' := (mkF m 57 #[.val (.ref a1), .val (.ref a2), .val (.int (0 : Int32)), .val (.int (1 : Int32)), .val .null, .val (.ref b_3)] [])) st12 ?_
  refine goV X12 hx Bd.returns Bd.notSynchronized (hb hby d7_57) ?_ (by decide) (by decide)
  show Q_rmSi4_1 Z a1 a2 cs kc c0 h0 n0 _ T12.heap _
  rw [e12]
  have q14 : Fld Z h12 a1 "java/lang/String" "coder" "B" (.int (0 : Int32)) := (Fw8.other W12 (Or.inr (slot_ne (Or.inr (hw _ (List.mem_of_getElem? (i := 25) rfl))) (Or.inr (hw _ (List.mem_of_getElem? (i := 23) rfl))) (by decide) (t := .byte) (t' := (.array .byte)) (by decide) (by decide))))
  have q15 : Arv Z h12 b_3 kb_3 .byte (1 : Int32) [(.int (c0.toInt8.toInt32))] (.int (0 : Int32)) := ((r3_1.other W8 (Ne.symm (Nat.ne_of_lt (Nat.lt_of_lt_of_le E_a1.lt r3_0)))).other W12 (Ne.symm (Nat.ne_of_lt (Nat.lt_of_lt_of_le E_a1.lt r3_0))))
  exact ⟨b_3, kb_3, rfl, N12, K13, sz_b_3, Fw12, q14, q15⟩
theorem d6_0 : decode jdk_42_method_3_code 0 = .ok (.aload_n 0, 1) := by decide +kernel
theorem d6_1 : decode jdk_42_method_3_code 1 = .ok (.aload_n 1, 1) := by decide +kernel
theorem d6_2 : decode jdk_42_method_3_code 2 = .ok (.iconst 0, 1) := by decide +kernel
theorem d6_3 : decode jdk_42_method_3_code 3 = .ok (.aload_n 1, 1) := by decide +kernel
theorem d6_4 : decode jdk_42_method_3_code 4 = .ok (.arraylength, 1) := by decide +kernel
theorem d6_5 : decode jdk_42_method_3_code 5 = .ok (.aconst_null, 1) := by decide +kernel
theorem d6_6 : decode jdk_42_method_3_code 6 = .ok (.invokespecial 27, 3) := by decide +kernel
theorem pd_3 : parseMethodDescriptor "([CIILjava/lang/Void;)V" = some ⟨[(.array .char), .int, .int, (.object "java/lang/Void")], none⟩ := by decide +kernel
theorem d6_9 : decode jdk_42_method_3_code 9 = .ok (.return_, 1) := by decide +kernel
theorem ef_rmSi_1 (m : MethodId) (a1 : Addr) (a2 : Addr) : entryFrame m #[(.ref a1), (.ref a2)] 2 = mkF m 0 #[.val (.ref a1), .val (.ref a2)] [] := by first | (simp [entryFrame, mkF, argsToLocals, Value.category]; done) | rfl
def Q_rmSi_1 (Z : State) (a1 : Addr) (a2 : Addr) (cs : Int32) (kc : ClassId) (c0 : Int32) (h0 : Heap) (n0 : Nat) (rv : Option Value) (hq : Heap) (Lq : List Loc) : Prop := ∃ b : Addr, ∃ kb : ClassId, rv = none ∧ Fr n0 Lq ∧ Keep h0 hq [a1] ∧ h0.size ≤ b ∧ Fld Z hq a1 "java/lang/String" "value" "[B" (.ref b) ∧ Fld Z hq a1 "java/lang/String" "coder" "B" (.int (0 : Int32)) ∧ Arv Z hq b kb .byte (1 : Int32) [(.int (c0.toInt8.toInt32))] (.int (0 : Int32))
set_option maxRecDepth 65536 in
set_option maxHeartbeats 40000000 in
theorem rmSi_1 (l : Launch) (Z : State) (a0 : Array Value) (hw : ∀ d ∈ tables_1, d.before a0 Z = true) (ws : List Jvm.Cond) (a1 : Addr) (a2 : Addr) (cs : Int32) (kc : ClassId) (c0 : Int32) (h0 : Heap) (n0 : Nat) (Z0 : n0 ≤ h0.size) (E_a1 : Exa Z h0 a1 "java/lang/String") (F_value_a1 : Fld Z h0 a1 "java/lang/String" "value" "[B" .null) (F_coder_a1 : Fld Z h0 a1 "java/lang/String" "coder" "B" (.int (0 : Int32))) (V_a2 : Arv Z h0 a2 kc .char (1 : Int32) [(.int c0)] (.int (0 : Int32))) (O0 : Old Z n0 h0) (S_COMPACT_STRINGS : Sta Z Z.heap "java/lang/String" "COMPACT_STRINGS" "Z" (.int cs)) (hcs : ¬ cs = (0 : Int32)) (hl0 : ¬ (255 : Int32) < c0) (g_a1 : n0 ≤ a1) :
    MetFree l (⟨"java/lang/String", "<init>", "([C)V"⟩ : MethodName) (head1 (Jvm.Cond.code (⟨"java/lang/String", "<init>", "([C)V"⟩ : MethodName) jdk_42_method_3_code 2 none :: ws) ({ frames := 3, cells := 1, slots := 1, locals := 52 } : Room)) (fun a U => a = #[(.ref a1), (.ref a2)] ∧ Z.Warmed39 U.vm ∧ U.heap = h0) (fun _ _ _ _ _ => True) (fun _ U o U' => ∃ rv Lq, o = .returned rv ∧ Q_rmSi_1 Z a1 a2 cs kc c0 h0 n0 rv U'.heap Lq ∧ FrameEnd U o U' Lq ({ frames := 3, cells := 1, slots := 1, locals := 52 } : Room).cells ({ frames := 3, cells := 1, slots := 1, locals := 52 } : Room).slots) := by
  refine MetFree.of_bodySF (plainFor_of_name pn_7) hisR ?_
  intro p e s m args below meth c s₁ Bd hml0 hP hK
  obtain ⟨rfl, hZ, hh⟩ := hP
  have hx := Bd.exec
  have hby := Bd.bytes
  have hml : c.maxLocals = 2 := hml0
  have hown : s.vm.findClass "java/lang/String" = some m.cls := findClass_of_methodNamed Bd.named
  have hnm := (name_of_methodNamed Bd.named Bd.method).1
  have X0 : Stand p l e ({ frames := 3, cells := 1, slots := 1, locals := 52 } : Room) s m #[(.ref a1), (.ref a2)] below meth c s₁ [] 0 0 := Stand.of_body Bd
  have e0 : s₁.heap = h0 := by rw [← hh, Bd.state]; rfl
  have N0 := Fr.nil n0
  refine of_go (ef_rmSi_1 m a1 a2) ?_
  refine Go.step (T' := s₁) (f' := (mkF m 1 #[.val (.ref a1), .val (.ref a2)] [(.ref a1)])) (fun _ k => XS.aloadN X0.here hx rfl (hb hby d6_0) rfl rfl k) ?_
  refine Go.step (T' := s₁) (f' := (mkF m 2 #[.val (.ref a1), .val (.ref a2)] [(.ref a2), (.ref a1)])) (fun _ k => XS.aloadN X0.here hx rfl (hb hby d6_1) rfl rfl k) ?_
  refine Go.step (T' := s₁) (f' := (mkF m 3 #[.val (.ref a1), .val (.ref a2)] [(.int (0 : Int32)), (.ref a2), (.ref a1)])) (fun _ k => XS.iconst X0.here hx rfl (hb hby d6_2) k) ?_
  refine Go.step (T' := s₁) (f' := (mkF m 4 #[.val (.ref a1), .val (.ref a2)] [(.ref a2), (.int (0 : Int32)), (.ref a2), (.ref a1)])) (fun _ k => XS.aloadN X0.here hx rfl (hb hby d6_3) rfl rfl k) ?_
  obtain ⟨cl1, Ar1, qc1, Sz1, Nn1, Hs1, Gf1⟩ := id V_a2
  have hlen1 := X0.arraylength hx (by rw [e0]; exact Ar1.1) (State.isArrayOf_alike hZ.alike Ar1.2.1) (g := (mkF m 4 #[.val (.ref a1), .val (.ref a2)] [(.ref a2), (.int (0 : Int32)), (.ref a2), (.ref a1)])) rfl rfl (hb hby d6_4)
  rw [len_of Sz1 Nn1] at hlen1
  refine Go.step (T' := s₁) (f' := (mkF m 5 #[.val (.ref a1), .val (.ref a2)] [(.int (1 : Int32)), (.int (0 : Int32)), (.ref a2), (.ref a1)])) (fun _ k => hlen1 _ k) ?_
  refine Go.step (T' := s₁) (f' := (mkF m 6 #[.val (.ref a1), .val (.ref a2)] [.null, (.int (1 : Int32)), (.int (0 : Int32)), (.ref a2), (.ref a1)])) (fun _ k => XS.aconstNull X0.here hx rfl (hb hby d6_5) k) ?_
  obtain ⟨_, _, ⟨T2, L2, kk2, nn2⟩, -, X2, ⟨Lc2, hQ2, lq2, yq2, zq2⟩, st2⟩ := X0.specialBack hx (y := (⟨"java/lang/String", "<init>", "([CIILjava/lang/Void;)V"⟩ : MethodName)) rfl hown (mvT hZ (hw _ (List.mem_of_getElem? (i := 31) rfl))) (mvT hZ (hw _ (List.mem_of_getElem? (i := 32) rfl))) (mvT hZ (hw _ (List.mem_of_getElem? (i := 33) rfl))) (by decide) (backOf (W := 0) (rmSi4_1 l Z a0 hw [] a1 a2 cs kc c0 h0 n0 Z0 E_a1 F_value_a1 F_coder_a1 V_a2 O0 S_COMPACT_STRINGS hcs hl0 g_a1) hZ (hw _ (List.mem_of_getElem? (i := 33) rfl)) (hw _ (List.mem_of_getElem? (i := 2) rfl)) (by decide) (by decide)) (g := (mkF m 6 #[.val (.ref a1), .val (.ref a2)] [.null, (.int (1 : Int32)), (.int (0 : Int32)), (.ref a2), (.ref a1)])) rfl (by rw [hml]; rfl) (Steps.refl _) (a := a1) (argsL := [(.ref a2), (.int (0 : Int32)), (.int (1 : Int32)), .null]) (rest := []) (lenOf pd_3 rfl) rfl (by show 2 * 0 + _ ≤ _; exact Nat.le_of_eq rfl) (hb hby d6_6) (fun _ _ => ⟨rfl, e0, (by decide : 0 + 1 ≤ _), (by decide : 0 + 1 ≤ _)⟩)
  dsimp only [Pt.U, Pt.locs, Pt.cells, Pt.slots] at X2 lq2 yq2 zq2 st2 hQ2
  subst yq2 zq2
  obtain ⟨b_2, kb_2, rfl, Nq2, Kq2, r2_0, r2_1, r2_2, r2_3⟩ := hQ2
  have N2 : Fr n0 L2 := by rw [lq2]; exact Fr.app N0 Nq2
  have g_b_2 : n0 ≤ b_2 := Nat.le_trans Z0 r2_0
  have sz_b_2 : h0.size ≤ b_2 := Nat.le_trans (Keep.refl h0 [a1]).1 r2_0
  have Z3 : n0 ≤ T2.heap.size := Nat.le_trans Z0 Kq2.1
  have O3 : Old Z n0 T2.heap := O0.keep Kq2 (allS g_a1 all0)
  have K3 : Keep h0 T2.heap [a1] := (Keep.refl h0 [a1]).trans Kq2 (allS (Or.inl (List.mem_of_getElem? (i := 0) rfl)) all0)
  refine Go.step (T' := T2) (f' := (mkF m 9 #[.val (.ref a1), .val (.ref a2)] [])) (fun _ k => st2.trans k) ?_
  refine goV X2 hx Bd.returns Bd.notSynchronized (hb hby d6_9) ?_ (by decide) (by decide)
  show Q_rmSi_1 Z a1 a2 cs kc c0 h0 n0 _ T2.heap _
  exact ⟨b_2, kb_2, rfl, N2, K3, sz_b_2, r2_1, r2_2, r2_3⟩
theorem ef_rmCpA2 (m : MethodId) (a1 : Addr) (a3 : Addr) : entryFrame m #[(.ref a1), (.int (0 : Int32)), (.ref a3), (.int (0 : Int32)), (.int (2 : Int32))] 7 = mkF m 0 #[.val (.ref a1), .val (.int (0 : Int32)), .val (.ref a3), .val (.int (0 : Int32)), .val (.int (2 : Int32)), .unset, .unset] [] := by first | (simp [entryFrame, mkF, argsToLocals, Value.category]; done) | rfl
def Q_rmCpA2 (Z : State) (a1 : Addr) (a3 : Addr) (kc : ClassId) (c0 : Int32) (c1 : Int32) (kb : ClassId) (h0 : Heap) (n0 : Nat) (rv : Option Value) (hq : Heap) (Lq : List Loc) : Prop := rv = some (.int (2 : Int32)) ∧ Fr n0 Lq ∧ Keep h0 hq [a3] ∧ Arv Z hq a3 kb .byte (2 : Int32) [(.int (c0.toInt8.toInt32)), (.int (c1.toInt8.toInt32))] (.int (0 : Int32))
set_option maxRecDepth 65536 in
set_option maxHeartbeats 40000000 in
theorem rmCpA2 (l : Launch) (Z : State) (a0 : Array Value) (hw : ∀ d ∈ tables_1, d.before a0 Z = true) (ws : List Jvm.Cond) (a1 : Addr) (a3 : Addr) (kc : ClassId) (c0 : Int32) (c1 : Int32) (kb : ClassId) (h0 : Heap) (n0 : Nat) (Z0 : n0 ≤ h0.size) (V_a1 : Arv Z h0 a1 kc .char (2 : Int32) [(.int c0), (.int c1)] (.int (0 : Int32))) (V_a3 : Arv Z h0 a3 kb .byte (2 : Int32) [(.int (0 : Int32)), (.int (0 : Int32))] (.int (0 : Int32))) (hne : a1 ≠ a3) (hl0 : ¬ (255 : Int32) < c0) (hl1 : ¬ (255 : Int32) < c1) (g_a3 : n0 ≤ a3) :
    MetFree l (⟨"java/lang/StringUTF16", "compress", "([CI[BII)I"⟩ : MethodName) (head1 (Jvm.Cond.code (⟨"java/lang/StringUTF16", "compress", "([CI[BII)I"⟩ : MethodName) jdk_52_method_21_code 7 (some .int) :: ws) ({ frames := 0, cells := 0, slots := 0, locals := 0 } : Room)) (fun a U => a = #[(.ref a1), (.int (0 : Int32)), (.ref a3), (.int (0 : Int32)), (.int (2 : Int32))] ∧ Z.Warmed39 U.vm ∧ U.heap = h0) (fun _ _ _ _ _ => True) (fun _ U o U' => ∃ rv Lq, o = .returned rv ∧ Q_rmCpA2 Z a1 a3 kc c0 c1 kb h0 n0 rv U'.heap Lq ∧ FrameEnd U o U' Lq ({ frames := 0, cells := 0, slots := 0, locals := 0 } : Room).cells ({ frames := 0, cells := 0, slots := 0, locals := 0 } : Room).slots) := by
  refine MetFree.of_bodySF (plainFor_of_name pn_9) hisR ?_
  intro p e s m args below meth c s₁ Bd hml0 hP hK
  obtain ⟨rfl, hZ, hh⟩ := hP
  have hx := Bd.exec
  have hby := Bd.bytes
  have hml : c.maxLocals = 7 := hml0
  have hown : s.vm.findClass "java/lang/StringUTF16" = some m.cls := findClass_of_methodNamed Bd.named
  have hnm := (name_of_methodNamed Bd.named Bd.method).1
  have X0 : Stand p l e ({ frames := 0, cells := 0, slots := 0, locals := 0 } : Room) s m #[(.ref a1), (.int (0 : Int32)), (.ref a3), (.int (0 : Int32)), (.int (2 : Int32))] below meth c s₁ [] 0 0 := Stand.of_body Bd
  have e0 : s₁.heap = h0 := by rw [← hh, Bd.state]; rfl
  have N0 := Fr.nil n0
  refine of_go (ef_rmCpA2 m a1 a3) ?_
  refine Go.step (T' := s₁) (f' := (mkF m 1 #[.val (.ref a1), .val (.int (0 : Int32)), .val (.ref a3), .val (.int (0 : Int32)), .val (.int (2 : Int32)), .unset, .unset] [(.int (0 : Int32))])) (fun _ k => XS.iconst X0.here hx rfl (hb hby d9_0) k) ?_
  refine Go.step (T' := s₁) (f' := (mkF m 3 #[.val (.ref a1), .val (.int (0 : Int32)), .val (.ref a3), .val (.int (0 : Int32)), .val (.int (2 : Int32)), .val (.int (0 : Int32)), .unset] [])) (fun _ k => XS.istore X0.here hx rfl (hb hby d9_1) rfl (l' := #[.val (.ref a1), .val (.int (0 : Int32)), .val (.ref a3), .val (.int (0 : Int32)), .val (.int (2 : Int32)), .val (.int (0 : Int32)), .unset]) rfl k) ?_
  refine Go.step (T' := s₁) (f' := (mkF m 5 #[.val (.ref a1), .val (.int (0 : Int32)), .val (.ref a3), .val (.int (0 : Int32)), .val (.int (2 : Int32)), .val (.int (0 : Int32)), .unset] [(.int (0 : Int32))])) (fun _ k => XS.iload X0.here hx rfl (hb hby d9_3) rfl k) ?_
  refine Go.step (T' := s₁) (f' := (mkF m 7 #[.val (.ref a1), .val (.int (0 : Int32)), .val (.ref a3), .val (.int (0 : Int32)), .val (.int (2 : Int32)), .val (.int (0 : Int32)), .unset] [(.int (2 : Int32)), (.int (0 : Int32))])) (fun _ k => XS.iload X0.here hx rfl (hb hby d9_5) rfl k) ?_
  refine Go.step (T' := s₁) (f' := (mkF m 10 #[.val (.ref a1), .val (.int (0 : Int32)), .val (.ref a3), .val (.int (0 : Int32)), .val (.int (2 : Int32)), .val (.int (0 : Int32)), .unset] [])) (fun _ k => XS.icmpNo X0.here hx rfl (hb hby d9_7) rfl (tlt (by decide : (0 : Int32) < (2 : Int32))).2.1 k) ?_
  refine Go.step (T' := s₁) (f' := (mkF m 11 #[.val (.ref a1), .val (.int (0 : Int32)), .val (.ref a3), .val (.int (0 : Int32)), .val (.int (2 : Int32)), .val (.int (0 : Int32)), .unset] [(.ref a1)])) (fun _ k => XS.aloadN X0.here hx rfl (hb hby d9_10) rfl rfl k) ?_
  refine Go.step (T' := s₁) (f' := (mkF m 12 #[.val (.ref a1), .val (.int (0 : Int32)), .val (.ref a3), .val (.int (0 : Int32)), .val (.int (2 : Int32)), .val (.int (0 : Int32)), .unset] [(.int (0 : Int32)), (.ref a1)])) (fun _ k => XS.iloadN X0.here hx rfl (hb hby d9_11) rfl k) ?_
  obtain ⟨cl1, Ar1, qc1, Sz1, Nn1, Hs1, Gf1⟩ := id V_a1
  have hin2 : ¬ ((0 : Int32) < 0 ∨ cl1.slots.size ≤ ((0 : Int32)).toNatClampNeg) := (inb_of Sz1 ⟨by decide, by decide⟩)
  have hat2 : cl1.slots[((0 : Int32)).toNatClampNeg]? = some (.int c0) := Has.at Hs1 hin2 rfl
  refine Go.step (T' := s₁) (f' := (mkF m 13 #[.val (.ref a1), .val (.int (0 : Int32)), .val (.ref a3), .val (.int (0 : Int32)), .val (.int (2 : Int32)), .val (.int (0 : Int32)), .unset] [(.int c0)])) (fun _ k => X0.caload hx (j := (0 : Int32)) (v := (.int c0)) (by rw [e0]; exact Ar1.1) (State.isArrayOf_alike hZ.alike Ar1.2.1) Ar1.2.2 hin2 hat2 (g := (mkF m 12 #[.val (.ref a1), .val (.int (0 : Int32)), .val (.ref a3), .val (.int (0 : Int32)), .val (.int (2 : Int32)), .val (.int (0 : Int32)), .unset] [(.int (0 : Int32)), (.ref a1)])) rfl rfl (hb hby d9_12) _ k) ?_
  refine Go.step (T' := s₁) (f' := (mkF m 15 #[.val (.ref a1), .val (.int (0 : Int32)), .val (.ref a3), .val (.int (0 : Int32)), .val (.int (2 : Int32)), .val (.int (0 : Int32)), .val (.int c0)] [])) (fun _ k => XS.istore X0.here hx rfl (hb hby d9_13) rfl (l' := #[.val (.ref a1), .val (.int (0 : Int32)), .val (.ref a3), .val (.int (0 : Int32)), .val (.int (2 : Int32)), .val (.int (0 : Int32)), .val (.int c0)]) rfl k) ?_
  refine Go.step (T' := s₁) (f' := (mkF m 17 #[.val (.ref a1), .val (.int (0 : Int32)), .val (.ref a3), .val (.int (0 : Int32)), .val (.int (2 : Int32)), .val (.int (0 : Int32)), .val (.int c0)] [(.int c0)])) (fun _ k => XS.iload X0.here hx rfl (hb hby d9_15) rfl k) ?_
  refine Go.step (T' := s₁) (f' := (mkF m 20 #[.val (.ref a1), .val (.int (0 : Int32)), .val (.ref a3), .val (.int (0 : Int32)), .val (.int (2 : Int32)), .val (.int (0 : Int32)), .val (.int c0)] [(.int (255 : Int32)), (.int c0)])) (fun _ k => XS.sipush X0.here hx rfl (hb hby d9_17) k) ?_
  refine Go.step (T' := s₁) (f' := (mkF m 26 #[.val (.ref a1), .val (.int (0 : Int32)), .val (.ref a3), .val (.int (0 : Int32)), .val (.int (2 : Int32)), .val (.int (0 : Int32)), .val (.int c0)] [])) (fun _ k => XS.icmpYes X0.here hx rfl (pc0 := 20) (pc' := 26) rfl (hb hby d9_20) rfl (flt hl0).2.2.2 (by decide) (by decide) k) ?_
  refine Go.step (T' := s₁) (f' := (mkF m 27 #[.val (.ref a1), .val (.int (0 : Int32)), .val (.ref a3), .val (.int (0 : Int32)), .val (.int (2 : Int32)), .val (.int (0 : Int32)), .val (.int c0)] [(.ref a3)])) (fun _ k => XS.aloadN X0.here hx rfl (hb hby d9_26) rfl rfl k) ?_
  refine Go.step (T' := s₁) (f' := (mkF m 28 #[.val (.ref a1), .val (.int (0 : Int32)), .val (.ref a3), .val (.int (0 : Int32)), .val (.int (2 : Int32)), .val (.int (0 : Int32)), .val (.int c0)] [(.int (0 : Int32)), (.ref a3)])) (fun _ k => XS.iloadN X0.here hx rfl (hb hby d9_27) rfl k) ?_
  refine Go.step (T' := s₁) (f' := (mkF m 30 #[.val (.ref a1), .val (.int (0 : Int32)), .val (.ref a3), .val (.int (0 : Int32)), .val (.int (2 : Int32)), .val (.int (0 : Int32)), .val (.int c0)] [(.int c0), (.int (0 : Int32)), (.ref a3)])) (fun _ k => XS.iload X0.here hx rfl (hb hby d9_28) rfl k) ?_
  refine Go.step (T' := s₁) (f' := (mkF m 31 #[.val (.ref a1), .val (.int (0 : Int32)), .val (.ref a3), .val (.int (0 : Int32)), .val (.int (2 : Int32)), .val (.int (0 : Int32)), .val (.int c0)] [(.int (c0.toInt8.toInt32)), (.int (0 : Int32)), (.ref a3)])) (fun _ k => XS.i2b X0.here hx rfl (hb hby d9_30) rfl k) ?_
  obtain ⟨cl3, Ar3, qc3, Sz3, Nn3, Hs3, Gf3⟩ := id V_a3
  have hin4 : ¬ ((0 : Int32) < 0 ∨ cl3.slots.size ≤ ((0 : Int32)).toNatClampNeg) := (inb_of Sz3 ⟨by decide, by decide⟩)
  obtain ⟨T4, h4, X4, e4, W4, st4⟩ := stB X0 hx hZ e0 Ar3 (j := (0 : Int32)) hin4 (g := (mkF m 31 #[.val (.ref a1), .val (.int (0 : Int32)), .val (.ref a3), .val (.int (0 : Int32)), .val (.int (2 : Int32)), .val (.int (0 : Int32)), .val (.int c0)] [(.int (c0.toInt8.toInt32)), (.int (0 : Int32)), (.ref a3)])) rfl rfl (hb hby d9_31)
  have N4 := Fr.snoc X4 N0 g_a3
  have Z5 : n0 ≤ h4.size := Nat.le_trans Z0 (Keep.of_wr W4).1
  have K5 : Keep h0 h4 [a3] := (Keep.refl h0 [a3]).wr W4 (Or.inl (List.mem_of_getElem? (i := 0) rfl))
  rw [own_nb] at W4
  have Va4 : Arv Z h4 a3 kb .byte (2 : Int32) [(.int (c0.toInt8.toInt32)), (.int (0 : Int32))] (.int (0 : Int32)) := Arv.set Ar3 qc3 Sz3 Nn3 Hs3 Gf3 (fits_nar_byte _) W4 0 rfl (Nat.le_of_ble_eq_true rfl)
  refine Go.step (T' := T4) (f' := (mkF m 32 #[.val (.ref a1), .val (.int (0 : Int32)), .val (.ref a3), .val (.int (0 : Int32)), .val (.int (2 : Int32)), .val (.int (0 : Int32)), .val (.int c0)] [])) st4 ?_
  refine Go.step (T' := T4) (f' := (mkF m 35 #[.val (.ref a1), .val (.int (1 : Int32)), .val (.ref a3), .val (.int (0 : Int32)), .val (.int (2 : Int32)), .val (.int (0 : Int32)), .val (.int c0)] [])) (fun _ k => XS.iinc X4.here hx rfl (hb hby d9_32) rfl (l' := #[.val (.ref a1), .val (.int (1 : Int32)), .val (.ref a3), .val (.int (0 : Int32)), .val (.int (2 : Int32)), .val (.int (0 : Int32)), .val (.int c0)]) rfl k) ?_
  refine Go.step (T' := T4) (f' := (mkF m 38 #[.val (.ref a1), .val (.int (1 : Int32)), .val (.ref a3), .val (.int (1 : Int32)), .val (.int (2 : Int32)), .val (.int (0 : Int32)), .val (.int c0)] [])) (fun _ k => XS.iinc X4.here hx rfl (hb hby d9_35) rfl (l' := #[.val (.ref a1), .val (.int (1 : Int32)), .val (.ref a3), .val (.int (1 : Int32)), .val (.int (2 : Int32)), .val (.int (0 : Int32)), .val (.int c0)]) rfl k) ?_
  refine Go.step (T' := T4) (f' := (mkF m 41 #[.val (.ref a1), .val (.int (1 : Int32)), .val (.ref a3), .val (.int (1 : Int32)), .val (.int (2 : Int32)), .val (.int (1 : Int32)), .val (.int c0)] [])) (fun _ k => XS.iinc X4.here hx rfl (hb hby d9_38) rfl (l' := #[.val (.ref a1), .val (.int (1 : Int32)), .val (.ref a3), .val (.int (1 : Int32)), .val (.int (2 : Int32)), .val (.int (1 : Int32)), .val (.int c0)]) rfl k) ?_
  refine Go.step (T' := T4) (f' := (mkF m 3 #[.val (.ref a1), .val (.int (1 : Int32)), .val (.ref a3), .val (.int (1 : Int32)), .val (.int (2 : Int32)), .val (.int (1 : Int32)), .val (.int c0)] [])) (fun _ k => XS.goto X4.here hx rfl (pc0 := 41) (pc' := 3) rfl (hb hby d9_41) (by decide) (by decide) k) ?_
  refine Go.step (T' := T4) (f' := (mkF m 5 #[.val (.ref a1), .val (.int (1 : Int32)), .val (.ref a3), .val (.int (1 : Int32)), .val (.int (2 : Int32)), .val (.int (1 : Int32)), .val (.int c0)] [(.int (1 : Int32))])) (fun _ k => XS.iload X4.here hx rfl (hb hby d9_3) rfl k) ?_
  refine Go.step (T' := T4) (f' := (mkF m 7 #[.val (.ref a1), .val (.int (1 : Int32)), .val (.ref a3), .val (.int (1 : Int32)), .val (.int (2 : Int32)), .val (.int (1 : Int32)), .val (.int c0)] [(.int (2 : Int32)), (.int (1 : Int32))])) (fun _ k => XS.iload X4.here hx rfl (hb hby d9_5) rfl k) ?_
  refine Go.step (T' := T4) (f' := (mkF m 10 #[.val (.ref a1), .val (.int (1 : Int32)), .val (.ref a3), .val (.int (1 : Int32)), .val (.int (2 : Int32)), .val (.int (1 : Int32)), .val (.int c0)] [])) (fun _ k => XS.icmpNo X4.here hx rfl (hb hby d9_7) rfl (tlt (by decide : (1 : Int32) < (2 : Int32))).2.1 k) ?_
  refine Go.step (T' := T4) (f' := (mkF m 11 #[.val (.ref a1), .val (.int (1 : Int32)), .val (.ref a3), .val (.int (1 : Int32)), .val (.int (2 : Int32)), .val (.int (1 : Int32)), .val (.int c0)] [(.ref a1)])) (fun _ k => XS.aloadN X4.here hx rfl (hb hby d9_10) rfl rfl k) ?_
  refine Go.step (T' := T4) (f' := (mkF m 12 #[.val (.ref a1), .val (.int (1 : Int32)), .val (.ref a3), .val (.int (1 : Int32)), .val (.int (2 : Int32)), .val (.int (1 : Int32)), .val (.int c0)] [(.int (1 : Int32)), (.ref a1)])) (fun _ k => XS.iloadN X4.here hx rfl (hb hby d9_11) rfl k) ?_
  have q6 : Arv Z h4 a1 kc .char (2 : Int32) [(.int c0), (.int c1)] (.int (0 : Int32)) := (V_a1.other W4 hne)
  obtain ⟨cl7, Ar7, qc7, Sz7, Nn7, Hs7, Gf7⟩ := id q6
  have hin8 : ¬ ((1 : Int32) < 0 ∨ cl7.slots.size ≤ ((1 : Int32)).toNatClampNeg) := (inb_of Sz7 ⟨by decide, by decide⟩)
  have hat8 : cl7.slots[((1 : Int32)).toNatClampNeg]? = some (.int c1) := Has.at Hs7 hin8 rfl
  refine Go.step (T' := T4) (f' := (mkF m 13 #[.val (.ref a1), .val (.int (1 : Int32)), .val (.ref a3), .val (.int (1 : Int32)), .val (.int (2 : Int32)), .val (.int (1 : Int32)), .val (.int c0)] [(.int c1)])) (fun _ k => X4.caload hx (j := (1 : Int32)) (v := (.int c1)) (by rw [e4]; exact Ar7.1) (State.isArrayOf_alike hZ.alike Ar7.2.1) Ar7.2.2 hin8 hat8 (g := (mkF m 12 #[.val (.ref a1), .val (.int (1 : Int32)), .val (.ref a3), .val (.int (1 : Int32)), .val (.int (2 : Int32)), .val (.int (1 : Int32)), .val (.int c0)] [(.int (1 : Int32)), (.ref a1)])) rfl rfl (hb hby d9_12) _ k) ?_
  refine Go.step (T' := T4) (f' := (mkF m 15 #[.val (.ref a1), .val (.int (1 : Int32)), .val (.ref a3), .val (.int (1 : Int32)), .val (.int (2 : Int32)), .val (.int (1 : Int32)), .val (.int c1)] [])) (fun _ k => XS.istore X4.here hx rfl (hb hby d9_13) rfl (l' := #[.val (.ref a1), .val (.int (1 : Int32)), .val (.ref a3), .val (.int (1 : Int32)), .val (.int (2 : Int32)), .val (.int (1 : Int32)), .val (.int c1)]) rfl k) ?_
  refine Go.step (T' := T4) (f' := (mkF m 17 #[.val (.ref a1), .val (.int (1 : Int32)), .val (.ref a3), .val (.int (1 : Int32)), .val (.int (2 : Int32)), .val (.int (1 : Int32)), .val (.int c1)] [(.int c1)])) (fun _ k => XS.iload X4.here hx rfl (hb hby d9_15) rfl k) ?_
  refine Go.step (T' := T4) (f' := (mkF m 20 #[.val (.ref a1), .val (.int (1 : Int32)), .val (.ref a3), .val (.int (1 : Int32)), .val (.int (2 : Int32)), .val (.int (1 : Int32)), .val (.int c1)] [(.int (255 : Int32)), (.int c1)])) (fun _ k => XS.sipush X4.here hx rfl (hb hby d9_17) k) ?_
  refine Go.step (T' := T4) (f' := (mkF m 26 #[.val (.ref a1), .val (.int (1 : Int32)), .val (.ref a3), .val (.int (1 : Int32)), .val (.int (2 : Int32)), .val (.int (1 : Int32)), .val (.int c1)] [])) (fun _ k => XS.icmpYes X4.here hx rfl (pc0 := 20) (pc' := 26) rfl (hb hby d9_20) rfl (flt hl1).2.2.2 (by decide) (by decide) k) ?_
  refine Go.step (T' := T4) (f' := (mkF m 27 #[.val (.ref a1), .val (.int (1 : Int32)), .val (.ref a3), .val (.int (1 : Int32)), .val (.int (2 : Int32)), .val (.int (1 : Int32)), .val (.int c1)] [(.ref a3)])) (fun _ k => XS.aloadN X4.here hx rfl (hb hby d9_26) rfl rfl k) ?_
  refine Go.step (T' := T4) (f' := (mkF m 28 #[.val (.ref a1), .val (.int (1 : Int32)), .val (.ref a3), .val (.int (1 : Int32)), .val (.int (2 : Int32)), .val (.int (1 : Int32)), .val (.int c1)] [(.int (1 : Int32)), (.ref a3)])) (fun _ k => XS.iloadN X4.here hx rfl (hb hby d9_27) rfl k) ?_
  refine Go.step (T' := T4) (f' := (mkF m 30 #[.val (.ref a1), .val (.int (1 : Int32)), .val (.ref a3), .val (.int (1 : Int32)), .val (.int (2 : Int32)), .val (.int (1 : Int32)), .val (.int c1)] [(.int c1), (.int (1 : Int32)), (.ref a3)])) (fun _ k => XS.iload X4.here hx rfl (hb hby d9_28) rfl k) ?_
  refine Go.step (T' := T4) (f' := (mkF m 31 #[.val (.ref a1), .val (.int (1 : Int32)), .val (.ref a3), .val (.int (1 : Int32)), .val (.int (2 : Int32)), .val (.int (1 : Int32)), .val (.int c1)] [(.int (c1.toInt8.toInt32)), (.int (1 : Int32)), (.ref a3)])) (fun _ k => XS.i2b X4.here hx rfl (hb hby d9_30) rfl k) ?_
  obtain ⟨cl9, Ar9, qc9, Sz9, Nn9, Hs9, Gf9⟩ := id Va4
  have hin10 : ¬ ((1 : Int32) < 0 ∨ cl9.slots.size ≤ ((1 : Int32)).toNatClampNeg) := (inb_of Sz9 ⟨by decide, by decide⟩)
  obtain ⟨T10, h10, X10, e10, W10, st10⟩ := stB X4 hx hZ e4 Ar9 (j := (1 : Int32)) hin10 (g := (mkF m 31 #[.val (.ref a1), .val (.int (1 : Int32)), .val (.ref a3), .val (.int (1 : Int32)), .val (.int (2 : Int32)), .val (.int (1 : Int32)), .val (.int c1)] [(.int (c1.toInt8.toInt32)), (.int (1 : Int32)), (.ref a3)])) rfl rfl (hb hby d9_31)
  have N10 := Fr.snoc X10 N4 g_a3
  have Z11 : n0 ≤ h10.size := Nat.le_trans Z5 (Keep.of_wr W10).1
  have K11 : Keep h0 h10 [a3] := K5.wr W10 (Or.inl (List.mem_of_getElem? (i := 0) rfl))
  rw [own_nb] at W10
  have Va10 : Arv Z h10 a3 kb .byte (2 : Int32) [(.int (c0.toInt8.toInt32)), (.int (c1.toInt8.toInt32))] (.int (0 : Int32)) := Arv.set Ar9 qc9 Sz9 Nn9 Hs9 Gf9 (fits_nar_byte _) W10 1 rfl (Nat.le_of_ble_eq_true rfl)
  refine Go.step (T' := T10) (f' := (mkF m 32 #[.val (.ref a1), .val (.int (1 : Int32)), .val (.ref a3), .val (.int (1 : Int32)), .val (.int (2 : Int32)), .val (.int (1 : Int32)), .val (.int c1)] [])) st10 ?_
  refine Go.step (T' := T10) (f' := (mkF m 35 #[.val (.ref a1), .val (.int (2 : Int32)), .val (.ref a3), .val (.int (1 : Int32)), .val (.int (2 : Int32)), .val (.int (1 : Int32)), .val (.int c1)] [])) (fun _ k => XS.iinc X10.here hx rfl (hb hby d9_32) rfl (l' := #[.val (.ref a1), .val (.int (2 : Int32)), .val (.ref a3), .val (.int (1 : Int32)), .val (.int (2 : Int32)), .val (.int (1 : Int32)), .val (.int c1)]) rfl k) ?_
  refine Go.step (T' := T10) (f' := (mkF m 38 #[.val (.ref a1), .val (.int (2 : Int32)), .val (.ref a3), .val (.int (2 : Int32)), .val (.int (2 : Int32)), .val (.int (1 : Int32)), .val (.int c1)] [])) (fun _ k => XS.iinc X10.here hx rfl (hb hby d9_35) rfl (l' := #[.val (.ref a1), .val (.int (2 : Int32)), .val (.ref a3), .val (.int (2 : Int32)), .val (.int (2 : Int32)), .val (.int (1 : Int32)), .val (.int c1)]) rfl k) ?_
  refine Go.step (T' := T10) (f' := (mkF m 41 #[.val (.ref a1), .val (.int (2 : Int32)), .val (.ref a3), .val (.int (2 : Int32)), .val (.int (2 : Int32)), .val (.int (2 : Int32)), .val (.int c1)] [])) (fun _ k => XS.iinc X10.here hx rfl (hb hby d9_38) rfl (l' := #[.val (.ref a1), .val (.int (2 : Int32)), .val (.ref a3), .val (.int (2 : Int32)), .val (.int (2 : Int32)), .val (.int (2 : Int32)), .val (.int c1)]) rfl k) ?_
  refine Go.step (T' := T10) (f' := (mkF m 3 #[.val (.ref a1), .val (.int (2 : Int32)), .val (.ref a3), .val (.int (2 : Int32)), .val (.int (2 : Int32)), .val (.int (2 : Int32)), .val (.int c1)] [])) (fun _ k => XS.goto X10.here hx rfl (pc0 := 41) (pc' := 3) rfl (hb hby d9_41) (by decide) (by decide) k) ?_
  refine Go.step (T' := T10) (f' := (mkF m 5 #[.val (.ref a1), .val (.int (2 : Int32)), .val (.ref a3), .val (.int (2 : Int32)), .val (.int (2 : Int32)), .val (.int (2 : Int32)), .val (.int c1)] [(.int (2 : Int32))])) (fun _ k => XS.iload X10.here hx rfl (hb hby d9_3) rfl k) ?_
  refine Go.step (T' := T10) (f' := (mkF m 7 #[.val (.ref a1), .val (.int (2 : Int32)), .val (.ref a3), .val (.int (2 : Int32)), .val (.int (2 : Int32)), .val (.int (2 : Int32)), .val (.int c1)] [(.int (2 : Int32)), (.int (2 : Int32))])) (fun _ k => XS.iload X10.here hx rfl (hb hby d9_5) rfl k) ?_
  refine Go.step (T' := T10) (f' := (mkF m 44 #[.val (.ref a1), .val (.int (2 : Int32)), .val (.ref a3), .val (.int (2 : Int32)), .val (.int (2 : Int32)), .val (.int (2 : Int32)), .val (.int c1)] [])) (fun _ k => XS.icmpYes X10.here hx rfl (pc0 := 7) (pc' := 44) rfl (hb hby d9_7) rfl (flt (by decide : ¬ ((2 : Int32) < (2 : Int32)))).2.1 (by decide) (by decide) k) ?_
  refine Go.step (T' := T10) (f' := (mkF m 46 #[.val (.ref a1), .val (.int (2 : Int32)), .val (.ref a3), .val (.int (2 : Int32)), .val (.int (2 : Int32)), .val (.int (2 : Int32)), .val (.int c1)] [(.int (2 : Int32))])) (fun _ k => XS.iload X10.here hx rfl (hb hby d9_44) rfl k) ?_
  refine goI X10 hx Bd.returns Bd.notSynchronized (hb hby d9_46) ?_ (by decide) (by decide)
  show Q_rmCpA2 Z a1 a3 kc c0 c1 kb h0 n0 _ T10.heap _
  rw [e10]
  exact ⟨rfl, N10, K11, Va10⟩
theorem ef_rmCpB2 (m : MethodId) (a1 : Addr) : entryFrame m #[(.ref a1), (.int (0 : Int32)), (.int (2 : Int32))] 6 = mkF m 0 #[.val (.ref a1), .val (.int (0 : Int32)), .val (.int (2 : Int32)), .unset, .unset, .unset] [] := by first | (simp [entryFrame, mkF, argsToLocals, Value.category]; done) | rfl
def Q_rmCpB2 (Z : State) (a1 : Addr) (kc : ClassId) (c0 : Int32) (c1 : Int32) (h0 : Heap) (n0 : Nat) (rv : Option Value) (hq : Heap) (Lq : List Loc) : Prop := ∃ b : Addr, ∃ kb : ClassId, rv = some (.ref b) ∧ Fr n0 Lq ∧ Keep h0 hq [] ∧ h0.size ≤ b ∧ Arv Z hq b kb .byte (2 : Int32) [(.int (c0.toInt8.toInt32)), (.int (c1.toInt8.toInt32))] (.int (0 : Int32))
set_option maxRecDepth 65536 in
set_option maxHeartbeats 40000000 in
theorem rmCpB2 (l : Launch) (Z : State) (a0 : Array Value) (hw : ∀ d ∈ tables_1, d.before a0 Z = true) (ws : List Jvm.Cond) (a1 : Addr) (kc : ClassId) (c0 : Int32) (c1 : Int32) (h0 : Heap) (n0 : Nat) (Z0 : n0 ≤ h0.size) (V_a1 : Arv Z h0 a1 kc .char (2 : Int32) [(.int c0), (.int c1)] (.int (0 : Int32))) (hl0 : ¬ (255 : Int32) < c0) (hl1 : ¬ (255 : Int32) < c1) :
    MetFree l (⟨"java/lang/StringUTF16", "compress", "([CII)[B"⟩ : MethodName) (head1 (Jvm.Cond.code (⟨"java/lang/StringUTF16", "compress", "([CII)[B"⟩ : MethodName) jdk_52_method_16_code 6 (some (.array .byte)) :: ws) ({ frames := 1, cells := 1, slots := 2, locals := 18 } : Room)) (fun a U => a = #[(.ref a1), (.int (0 : Int32)), (.int (2 : Int32))] ∧ Z.Warmed39 U.vm ∧ U.heap = h0) (fun _ _ _ _ _ => True) (fun _ U o U' => ∃ rv Lq, o = .returned rv ∧ Q_rmCpB2 Z a1 kc c0 c1 h0 n0 rv U'.heap Lq ∧ FrameEnd U o U' Lq ({ frames := 1, cells := 1, slots := 2, locals := 18 } : Room).cells ({ frames := 1, cells := 1, slots := 2, locals := 18 } : Room).slots) := by
  refine MetFree.of_bodySF (plainFor_of_name pn_9) hisR ?_
  intro p e s m args below meth c s₁ Bd hml0 hP hK
  obtain ⟨rfl, hZ, hh⟩ := hP
  have hx := Bd.exec
  have hby := Bd.bytes
  have hml : c.maxLocals = 6 := hml0
  have hown : s.vm.findClass "java/lang/StringUTF16" = some m.cls := findClass_of_methodNamed Bd.named
  have hnm := (name_of_methodNamed Bd.named Bd.method).1
  have X0 : Stand p l e ({ frames := 1, cells := 1, slots := 2, locals := 18 } : Room) s m #[(.ref a1), (.int (0 : Int32)), (.int (2 : Int32))] below meth c s₁ [] 0 0 := Stand.of_body Bd
  have e0 : s₁.heap = h0 := by rw [← hh, Bd.state]; rfl
  have N0 := Fr.nil n0
  refine of_go (ef_rmCpB2 m a1) ?_
  refine Go.step (T' := s₁) (f' := (mkF m 1 #[.val (.ref a1), .val (.int (0 : Int32)), .val (.int (2 : Int32)), .unset, .unset, .unset] [(.int (2 : Int32))])) (fun _ k => XS.iloadN X0.here hx rfl (hb hby d8_0) rfl k) ?_
  obtain ⟨T1, h1, k1, X1, e1, E1, A1, st1⟩ := newP X0 hx hZ (hw _ (List.mem_of_getElem? (i := 14) rfl)) e0 (g := (mkF m 1 #[.val (.ref a1), .val (.int (0 : Int32)), .val (.int (2 : Int32)), .unset, .unset, .unset] [(.int (2 : Int32))])) rfl (hb hby d8_1) rfl (by decide) (cap := 2) (by decide) (by decide) (by decide) (by decide)
  obtain ⟨b1, g1⟩ : ∃ z, z = h0.size := ⟨_, rfl⟩
  rw [← g1] at A1 st1
  have g_b1 : n0 ≤ b1 := Nat.le_trans Z0 (Nat.le_of_eq g1.symm)
  have sz_b1 : h0.size ≤ b1 := Nat.le_trans (Keep.refl h0 []).1 (Nat.le_of_eq g1.symm)
  have Z2 : n0 ≤ h1.size := Nat.le_trans Z0 E1.1
  have K2 : Keep h0 h1 [] := (Keep.refl h0 []).ext E1
  have V_b1 : Arv Z h1 b1 k1 .byte (2 : Int32) [(.int (0 : Int32)), (.int (0 : Int32))] (.int (0 : Int32)) := (Arv.new A1 (by decide)).pad (pad_rep [] (.int (0 : Int32)) 2)
  refine Go.step (T' := T1) (f' := (mkF m 3 #[.val (.ref a1), .val (.int (0 : Int32)), .val (.int (2 : Int32)), .unset, .unset, .unset] [(.ref b1)])) st1 ?_
  refine Go.step (T' := T1) (f' := (mkF m 4 #[.val (.ref a1), .val (.int (0 : Int32)), .val (.int (2 : Int32)), .val (.ref b1), .unset, .unset] [])) (fun _ k => XS.astoreN X1.here hx rfl (hb hby d8_3) rfl rfl (l' := #[.val (.ref a1), .val (.int (0 : Int32)), .val (.int (2 : Int32)), .val (.ref b1), .unset, .unset]) rfl k) ?_
  refine Go.step (T' := T1) (f' := (mkF m 5 #[.val (.ref a1), .val (.int (0 : Int32)), .val (.int (2 : Int32)), .val (.ref b1), .unset, .unset] [(.ref a1)])) (fun _ k => XS.aloadN X1.here hx rfl (hb hby d8_4) rfl rfl k) ?_
  refine Go.step (T' := T1) (f' := (mkF m 6 #[.val (.ref a1), .val (.int (0 : Int32)), .val (.int (2 : Int32)), .val (.ref b1), .unset, .unset] [(.int (0 : Int32)), (.ref a1)])) (fun _ k => XS.iloadN X1.here hx rfl (hb hby d8_5) rfl k) ?_
  refine Go.step (T' := T1) (f' := (mkF m 7 #[.val (.ref a1), .val (.int (0 : Int32)), .val (.int (2 : Int32)), .val (.ref b1), .unset, .unset] [(.ref b1), (.int (0 : Int32)), (.ref a1)])) (fun _ k => XS.aloadN X1.here hx rfl (hb hby d8_6) rfl rfl k) ?_
  refine Go.step (T' := T1) (f' := (mkF m 8 #[.val (.ref a1), .val (.int (0 : Int32)), .val (.int (2 : Int32)), .val (.ref b1), .unset, .unset] [(.int (0 : Int32)), (.ref b1), (.int (0 : Int32)), (.ref a1)])) (fun _ k => XS.iconst X1.here hx rfl (hb hby d8_7) k) ?_
  refine Go.step (T' := T1) (f' := (mkF m 9 #[.val (.ref a1), .val (.int (0 : Int32)), .val (.int (2 : Int32)), .val (.ref b1), .unset, .unset] [(.int (2 : Int32)), (.int (0 : Int32)), (.ref b1), (.int (0 : Int32)), (.ref a1)])) (fun _ k => XS.iloadN X1.here hx rfl (hb hby d8_8) rfl k) ?_
  have q4 : Arv Z h1 a1 kc .char (2 : Int32) [(.int c0), (.int c1)] (.int (0 : Int32)) := (V_a1.ext E1)
  obtain ⟨_, _, ⟨T3, L3, kk3, nn3⟩, -, X3, ⟨Lc3, hQ3, lq3, yq3, zq3⟩, st3⟩ := Jvm.LawKit.callS X1 hx (y := (⟨"java/lang/StringUTF16", "compress", "([CI[BII)I"⟩ : MethodName)) hown (mvT hZ (hw _ (List.mem_of_getElem? (i := 38) rfl))) (mvT hZ (hw _ (List.mem_of_getElem? (i := 39) rfl))) (mvT hZ (hw _ (List.mem_of_getElem? (i := 36) rfl))) (mvT hZ (hw _ (List.mem_of_getElem? (i := 40) rfl))) (by decide) (backOf (W := 0) (rmCpA2 l Z a0 hw [] a1 b1 kc c0 c1 k1 h1 n0 Z2 q4 V_b1 (Nat.ne_of_lt (Nat.lt_of_lt_of_le V_a1.lt (Nat.le_of_eq g1.symm))) hl0 hl1 g_b1) hZ (hw _ (List.mem_of_getElem? (i := 40) rfl)) (hw _ (List.mem_of_getElem? (i := 36) rfl)) (by decide) (by decide)) (g := (mkF m 9 #[.val (.ref a1), .val (.int (0 : Int32)), .val (.int (2 : Int32)), .val (.ref b1), .unset, .unset] [(.int (2 : Int32)), (.int (0 : Int32)), (.ref b1), (.int (0 : Int32)), (.ref a1)])) rfl (by rw [hml]; rfl) (argsL := [(.ref a1), (.int (0 : Int32)), (.ref b1), (.int (0 : Int32)), (.int (2 : Int32))]) (rest := []) (lenOf pd_0 rfl) rfl (by show 2 * 0 + _ ≤ _; exact Nat.le_of_eq rfl) (hb hby d8_9) (fun _ _ => ⟨rfl, e1, (by decide : 1 + 0 ≤ _), (by decide : 2 + 0 ≤ _)⟩)
  dsimp only [Pt.U, Pt.locs, Pt.cells, Pt.slots] at X3 lq3 yq3 zq3 st3 hQ3
  subst yq3 zq3
  obtain ⟨rfl, Nq3, Kq3, r3_0⟩ := hQ3
  have N3 : Fr n0 L3 := by rw [lq3]; exact Fr.app N0 Nq3
  have Z5 : n0 ≤ T3.heap.size := Nat.le_trans Z2 Kq3.1
  have K5 : Keep h0 T3.heap [] := K2.trans Kq3 (allS (Or.inr sz_b1) all0)
  refine Go.step (T' := T3) (f' := (mkF m 12 #[.val (.ref a1), .val (.int (0 : Int32)), .val (.int (2 : Int32)), .val (.ref b1), .unset, .unset] [(.int (2 : Int32))])) st3 ?_
  refine Go.step (T' := T3) (f' := (mkF m 14 #[.val (.ref a1), .val (.int (0 : Int32)), .val (.int (2 : Int32)), .val (.ref b1), .val (.int (2 : Int32)), .unset] [])) (fun _ k => XS.istore X3.here hx rfl (hb hby d8_12) rfl (l' := #[.val (.ref a1), .val (.int (0 : Int32)), .val (.int (2 : Int32)), .val (.ref b1), .val (.int (2 : Int32)), .unset]) rfl k) ?_
  refine Go.step (T' := T3) (f' := (mkF m 16 #[.val (.ref a1), .val (.int (0 : Int32)), .val (.int (2 : Int32)), .val (.ref b1), .val (.int (2 : Int32)), .unset] [(.int (2 : Int32))])) (fun _ k => XS.iload X3.here hx rfl (hb hby d8_14) rfl k) ?_
  refine Go.step (T' := T3) (f' := (mkF m 17 #[.val (.ref a1), .val (.int (0 : Int32)), .val (.int (2 : Int32)), .val (.ref b1), .val (.int (2 : Int32)), .unset] [(.int (2 : Int32)), (.int (2 : Int32))])) (fun _ k => XS.iloadN X3.here hx rfl (hb hby d8_16) rfl k) ?_
  refine Go.step (T' := T3) (f' := (mkF m 57 #[.val (.ref a1), .val (.int (0 : Int32)), .val (.int (2 : Int32)), .val (.ref b1), .val (.int (2 : Int32)), .unset] [])) (fun _ k => XS.icmpYes X3.here hx rfl (pc0 := 17) (pc' := 57) rfl (hb hby d8_17) rfl (teq (by decide : (2 : Int32) = (2 : Int32))).1 (by decide) (by decide) k) ?_
  refine Go.step (T' := T3) (f' := (mkF m 58 #[.val (.ref a1), .val (.int (0 : Int32)), .val (.int (2 : Int32)), .val (.ref b1), .val (.int (2 : Int32)), .unset] [(.ref b1)])) (fun _ k => XS.aloadN X3.here hx rfl (hb hby d8_57) rfl rfl k) ?_
  refine goA X3 hx Bd.returns rfl rfl Bd.notSynchronized (hb hby d8_58) ?_ (by decide) (by decide)
  show Q_rmCpB2 Z a1 kc c0 c1 h0 n0 _ T3.heap _
  exact ⟨b1, k1, rfl, N3, K5, sz_b1, r3_0⟩
theorem ef_rmCfl2 (m : MethodId) (a1 : Addr) : entryFrame m #[(.ref a1), (.int (2 : Int32))] 2 = mkF m 0 #[.val (.ref a1), .val (.int (2 : Int32))] [] := by first | (simp [entryFrame, mkF, argsToLocals, Value.category]; done) | rfl
def Q_rmCfl2 (Z : State) (a1 : Addr) (kb : ClassId) (vs : List Value) (h0 : Heap) (n0 : Nat) (rv : Option Value) (hq : Heap) (Lq : List Loc) : Prop := rv = some (.int (0 : Int32)) ∧ Fr n0 Lq ∧ hq = h0
set_option maxRecDepth 65536 in
set_option maxHeartbeats 40000000 in
theorem rmCfl2 (l : Launch) (Z : State) (a0 : Array Value) (hw : ∀ d ∈ tables_1, d.before a0 Z = true) (ws : List Jvm.Cond) (a1 : Addr) (kb : ClassId) (vs : List Value) (h0 : Heap) (n0 : Nat) (Z0 : n0 ≤ h0.size) (V_a1 : Arv Z h0 a1 kb .byte (2 : Int32) vs (.int (0 : Int32))) :
    MetFree l (⟨"java/lang/StringUTF16", "coderFromArrayLen", "([BI)B"⟩ : MethodName) (head1 (Jvm.Cond.code (⟨"java/lang/StringUTF16", "coderFromArrayLen", "([BI)B"⟩ : MethodName) jdk_52_method_15_code 2 (some .byte) :: ws) ({ frames := 0, cells := 0, slots := 0, locals := 0 } : Room)) (fun a U => a = #[(.ref a1), (.int (2 : Int32))] ∧ Z.Warmed39 U.vm ∧ U.heap = h0) (fun _ _ _ _ _ => True) (fun _ U o U' => ∃ rv Lq, o = .returned rv ∧ Q_rmCfl2 Z a1 kb vs h0 n0 rv U'.heap Lq ∧ FrameEnd U o U' Lq ({ frames := 0, cells := 0, slots := 0, locals := 0 } : Room).cells ({ frames := 0, cells := 0, slots := 0, locals := 0 } : Room).slots) := by
  refine MetFree.of_bodySF (plainFor_of_name pn_9) hisR ?_
  intro p e s m args below meth c s₁ Bd hml0 hP hK
  obtain ⟨rfl, hZ, hh⟩ := hP
  have hx := Bd.exec
  have hby := Bd.bytes
  have hml : c.maxLocals = 2 := hml0
  have hown : s.vm.findClass "java/lang/StringUTF16" = some m.cls := findClass_of_methodNamed Bd.named
  have hnm := (name_of_methodNamed Bd.named Bd.method).1
  have X0 : Stand p l e ({ frames := 0, cells := 0, slots := 0, locals := 0 } : Room) s m #[(.ref a1), (.int (2 : Int32))] below meth c s₁ [] 0 0 := Stand.of_body Bd
  have e0 : s₁.heap = h0 := by rw [← hh, Bd.state]; rfl
  have N0 := Fr.nil n0
  refine of_go (ef_rmCfl2 m a1) ?_
  refine Go.step (T' := s₁) (f' := (mkF m 1 #[.val (.ref a1), .val (.int (2 : Int32))] [(.int (2 : Int32))])) (fun _ k => XS.iloadN X0.here hx rfl (hb hby d10_0) rfl k) ?_
  refine Go.step (T' := s₁) (f' := (mkF m 2 #[.val (.ref a1), .val (.int (2 : Int32))] [(.ref a1), (.int (2 : Int32))])) (fun _ k => XS.aloadN X0.here hx rfl (hb hby d10_1) rfl rfl k) ?_
  obtain ⟨cl1, Ar1, qc1, Sz1, Nn1, Hs1, Gf1⟩ := id V_a1
  have hlen1 := X0.arraylength hx (by rw [e0]; exact Ar1.1) (State.isArrayOf_alike hZ.alike Ar1.2.1) (g := (mkF m 2 #[.val (.ref a1), .val (.int (2 : Int32))] [(.ref a1), (.int (2 : Int32))])) rfl rfl (hb hby d10_2)
  rw [len_of Sz1 Nn1] at hlen1
  refine Go.step (T' := s₁) (f' := (mkF m 3 #[.val (.ref a1), .val (.int (2 : Int32))] [(.int (2 : Int32)), (.int (2 : Int32))])) (fun _ k => hlen1 _ k) ?_
  refine Go.step (T' := s₁) (f' := (mkF m 4 #[.val (.ref a1), .val (.int (2 : Int32))] [(.int (0 : Int32))])) (fun _ k => XS.isub X0.here hx rfl (hb hby d10_3) rfl k) ?_
  refine Go.step (T' := s₁) (f' := (mkF m 6 #[.val (.ref a1), .val (.int (2 : Int32))] [(.int (31 : Int32)), (.int (0 : Int32))])) (fun _ k => XS.bipush X0.here hx rfl (hb hby d10_4) k) ?_
  refine Go.step (T' := s₁) (f' := (mkF m 7 #[.val (.ref a1), .val (.int (2 : Int32))] [(.int (0 : Int32))])) (fun _ k => XS.iushr X0.here hx rfl (hb hby d10_6) rfl k) ?_
  refine Go.step (T' := s₁) (f' := (mkF m 8 #[.val (.ref a1), .val (.int (2 : Int32))] [(.int (0 : Int32))])) (fun _ k => XS.i2b X0.here hx rfl (hb hby d10_7) rfl k) ?_
  refine goN X0 hx (t := .byte) Bd.returns (by simp) Bd.notSynchronized (hb hby d10_8) ?_ (by decide) (by decide)
  show Q_rmCfl2 Z a1 kb vs h0 n0 _ s₁.heap _
  rw [e0]
  exact ⟨rfl, N0, rfl⟩
theorem ef_rmSi4_2 (m : MethodId) (a1 : Addr) (a2 : Addr) : entryFrame m #[(.ref a1), (.ref a2), (.int (0 : Int32)), (.int (2 : Int32)), .null] 6 = mkF m 0 #[.val (.ref a1), .val (.ref a2), .val (.int (0 : Int32)), .val (.int (2 : Int32)), .val .null, .unset] [] := by first | (simp [entryFrame, mkF, argsToLocals, Value.category]; done) | rfl
def Q_rmSi4_2 (Z : State) (a1 : Addr) (a2 : Addr) (cs : Int32) (kc : ClassId) (c0 : Int32) (c1 : Int32) (h0 : Heap) (n0 : Nat) (rv : Option Value) (hq : Heap) (Lq : List Loc) : Prop := ∃ b : Addr, ∃ kb : ClassId, rv = none ∧ Fr n0 Lq ∧ Keep h0 hq [a1] ∧ h0.size ≤ b ∧ Fld Z hq a1 "java/lang/String" "value" "[B" (.ref b) ∧ Fld Z hq a1 "java/lang/String" "coder" "B" (.int (0 : Int32)) ∧ Arv Z hq b kb .byte (2 : Int32) [(.int (c0.toInt8.toInt32)), (.int (c1.toInt8.toInt32))] (.int (0 : Int32))
set_option maxRecDepth 65536 in
set_option maxHeartbeats 40000000 in
theorem rmSi4_2 (l : Launch) (Z : State) (a0 : Array Value) (hw : ∀ d ∈ tables_1, d.before a0 Z = true) (ws : List Jvm.Cond) (a1 : Addr) (a2 : Addr) (cs : Int32) (kc : ClassId) (c0 : Int32) (c1 : Int32) (h0 : Heap) (n0 : Nat) (Z0 : n0 ≤ h0.size) (E_a1 : Exa Z h0 a1 "java/lang/String") (F_value_a1 : Fld Z h0 a1 "java/lang/String" "value" "[B" .null) (F_coder_a1 : Fld Z h0 a1 "java/lang/String" "coder" "B" (.int (0 : Int32))) (V_a2 : Arv Z h0 a2 kc .char (2 : Int32) [(.int c0), (.int c1)] (.int (0 : Int32))) (O0 : Old Z n0 h0) (S_COMPACT_STRINGS : Sta Z Z.heap "java/lang/String" "COMPACT_STRINGS" "Z" (.int cs)) (hcs : ¬ cs = (0 : Int32)) (hl0 : ¬ (255 : Int32) < c0) (hl1 : ¬ (255 : Int32) < c1) (g_a1 : n0 ≤ a1) :
    MetFree l (⟨"java/lang/String", "<init>", "([CIILjava/lang/Void;)V"⟩ : MethodName) (head1 (Jvm.Cond.code (⟨"java/lang/String", "<init>", "([CIILjava/lang/Void;)V"⟩ : MethodName) jdk_42_method_149_code 6 none :: ws) ({ frames := 2, cells := 1, slots := 2, locals := 35 } : Room)) (fun a U => a = #[(.ref a1), (.ref a2), (.int (0 : Int32)), (.int (2 : Int32)), .null] ∧ Z.Warmed39 U.vm ∧ U.heap = h0) (fun _ _ _ _ _ => True) (fun _ U o U' => ∃ rv Lq, o = .returned rv ∧ Q_rmSi4_2 Z a1 a2 cs kc c0 c1 h0 n0 rv U'.heap Lq ∧ FrameEnd U o U' Lq ({ frames := 2, cells := 1, slots := 2, locals := 35 } : Room).cells ({ frames := 2, cells := 1, slots := 2, locals := 35 } : Room).slots) := by
  refine MetFree.of_bodySF (plainFor_of_name pn_7) hisR ?_
  intro p e s m args below meth c s₁ Bd hml0 hP hK
  obtain ⟨rfl, hZ, hh⟩ := hP
  have hx := Bd.exec
  have hby := Bd.bytes
  have hml : c.maxLocals = 6 := hml0
  have hown : s.vm.findClass "java/lang/String" = some m.cls := findClass_of_methodNamed Bd.named
  have hnm := (name_of_methodNamed Bd.named Bd.method).1
  have X0 : Stand p l e ({ frames := 2, cells := 1, slots := 2, locals := 35 } : Room) s m #[(.ref a1), (.ref a2), (.int (0 : Int32)), (.int (2 : Int32)), .null] below meth c s₁ [] 0 0 := Stand.of_body Bd
  have e0 : s₁.heap = h0 := by rw [← hh, Bd.state]; rfl
  have N0 := Fr.nil n0
  refine of_go (ef_rmSi4_2 m a1 a2) ?_
  refine Go.step (T' := s₁) (f' := (mkF m 1 #[.val (.ref a1), .val (.ref a2), .val (.int (0 : Int32)), .val (.int (2 : Int32)), .val .null, .unset] [(.ref a1)])) (fun _ k => XS.aloadN X0.here hx rfl (hb hby d7_0) rfl rfl k) ?_
  obtain ⟨T1, X1, e1, st1⟩ := initO X0 hx hZ hown (hw _ (List.mem_of_getElem? (i := 19) rfl)) (hw _ (List.mem_of_getElem? (i := 20) rfl)) (hw _ (List.mem_of_getElem? (i := 21) rfl)) e0 (g := (mkF m 1 #[.val (.ref a1), .val (.ref a2), .val (.int (0 : Int32)), .val (.int (2 : Int32)), .val .null, .unset] [(.ref a1)])) rfl (by rw [hml]; rfl) rfl (hb hby d7_1) (by decide) (W := 0) (by show 2 * 0 + _ ≤ _; exact Nat.le_of_eq rfl) (by decide)
  refine Go.step (T' := T1) (f' := (mkF m 4 #[.val (.ref a1), .val (.ref a2), .val (.int (0 : Int32)), .val (.int (2 : Int32)), .val .null, .unset] [])) st1 ?_
  refine Go.step (T' := T1) (f' := (mkF m 5 #[.val (.ref a1), .val (.ref a2), .val (.int (0 : Int32)), .val (.int (2 : Int32)), .val .null, .unset] [(.int (2 : Int32))])) (fun _ k => XS.iloadN X1.here hx rfl (hb hby d7_4) rfl k) ?_
  refine Go.step (T' := T1) (f' := (mkF m 27 #[.val (.ref a1), .val (.ref a2), .val (.int (0 : Int32)), .val (.int (2 : Int32)), .val .null, .unset] [])) (fun _ k => XS.ifYes X1.here hx rfl (pc0 := 5) (pc' := 27) rfl (hb hby d7_5) rfl ((if0 _ _).trans (feq (by decide : ¬ ((2 : Int32) = (0 : Int32)))).2) (by decide) (by decide) k) ?_
  obtain ⟨T2, X2, e2, st2⟩ := getS2 X1 hx hZ hown (host := "") (Or.inl (hw _ (List.mem_of_getElem? (i := 4) rfl))) Via.refl e1 (S_COMPACT_STRINGS.ext O0.2) (g := (mkF m 27 #[.val (.ref a1), .val (.ref a2), .val (.int (0 : Int32)), .val (.int (2 : Int32)), .val .null, .unset] [])) rfl (hb hby d7_27)
  refine Go.step (T' := T2) (f' := (mkF m 30 #[.val (.ref a1), .val (.ref a2), .val (.int (0 : Int32)), .val (.int (2 : Int32)), .val .null, .unset] [(.int cs)])) st2 ?_
  refine Go.step (T' := T2) (f' := (mkF m 33 #[.val (.ref a1), .val (.ref a2), .val (.int (0 : Int32)), .val (.int (2 : Int32)), .val .null, .unset] [])) (fun _ k => XS.ifNo X2.here hx rfl (hb hby d7_30) rfl ((if0 _ _).trans (feq hcs).1) k) ?_
  refine Go.step (T' := T2) (f' := (mkF m 34 #[.val (.ref a1), .val (.ref a2), .val (.int (0 : Int32)), .val (.int (2 : Int32)), .val .null, .unset] [(.ref a2)])) (fun _ k => XS.aloadN X2.here hx rfl (hb hby d7_33) rfl rfl k) ?_
  refine Go.step (T' := T2) (f' := (mkF m 35 #[.val (.ref a1), .val (.ref a2), .val (.int (0 : Int32)), .val (.int (2 : Int32)), .val .null, .unset] [(.int (0 : Int32)), (.ref a2)])) (fun _ k => XS.iloadN X2.here hx rfl (hb hby d7_34) rfl k) ?_
  refine Go.step (T' := T2) (f' := (mkF m 36 #[.val (.ref a1), .val (.ref a2), .val (.int (0 : Int32)), .val (.int (2 : Int32)), .val .null, .unset] [(.int (2 : Int32)), (.int (0 : Int32)), (.ref a2)])) (fun _ k => XS.iloadN X2.here hx rfl (hb hby d7_35) rfl k) ?_
  obtain ⟨_, _, ⟨T3, L3, kk3, nn3⟩, -, X3, ⟨Lc3, hQ3, lq3, yq3, zq3⟩, st3⟩ := Jvm.LawKit.callS X2 hx (y := (⟨"java/lang/StringUTF16", "compress", "([CII)[B"⟩ : MethodName)) hown (mvT hZ (hw _ (List.mem_of_getElem? (i := 34) rfl))) (mvT hZ (hw _ (List.mem_of_getElem? (i := 35) rfl))) (mvT hZ (hw _ (List.mem_of_getElem? (i := 36) rfl))) (mvT hZ (hw _ (List.mem_of_getElem? (i := 37) rfl))) (by decide) (backOf (W := 0) (rmCpB2 l Z a0 hw [] a2 kc c0 c1 h0 n0 Z0 V_a2 hl0 hl1) hZ (hw _ (List.mem_of_getElem? (i := 37) rfl)) (hw _ (List.mem_of_getElem? (i := 36) rfl)) (by decide) (by decide)) (g := (mkF m 36 #[.val (.ref a1), .val (.ref a2), .val (.int (0 : Int32)), .val (.int (2 : Int32)), .val .null, .unset] [(.int (2 : Int32)), (.int (0 : Int32)), (.ref a2)])) rfl (by rw [hml]; rfl) (argsL := [(.ref a2), (.int (0 : Int32)), (.int (2 : Int32))]) (rest := []) (lenOf pd_1 rfl) rfl (by show 2 * 0 + _ ≤ _; exact Nat.le_of_eq rfl) (hb hby d7_36) (fun _ _ => ⟨rfl, e2, (by decide : 0 + 1 ≤ _), (by decide : 0 + 2 ≤ _)⟩)
  dsimp only [Pt.U, Pt.locs, Pt.cells, Pt.slots] at X3 lq3 yq3 zq3 st3 hQ3
  subst yq3 zq3
  obtain ⟨b_3, kb_3, rfl, Nq3, Kq3, r3_0, r3_1⟩ := hQ3
  have N3 : Fr n0 L3 := by rw [lq3]; exact Fr.app N0 Nq3
  have g_b_3 : n0 ≤ b_3 := Nat.le_trans Z0 r3_0
  have sz_b_3 : h0.size ≤ b_3 := Nat.le_trans (Keep.refl h0 [a1]).1 r3_0
  have Z4 : n0 ≤ T3.heap.size := Nat.le_trans Z0 Kq3.1
  have O4 : Old Z n0 T3.heap := O0.keep Kq3 all0
  have K4 : Keep h0 T3.heap [a1] := (Keep.refl h0 [a1]).trans Kq3 all0
  refine Go.step (T' := T3) (f' := (mkF m 39 #[.val (.ref a1), .val (.ref a2), .val (.int (0 : Int32)), .val (.int (2 : Int32)), .val .null, .unset] [(.ref b_3)])) st3 ?_
  refine Go.step (T' := T3) (f' := (mkF m 41 #[.val (.ref a1), .val (.ref a2), .val (.int (0 : Int32)), .val (.int (2 : Int32)), .val .null, .val (.ref b_3)] [])) (fun _ k => XS.astore X3.here hx rfl (hb hby d7_39) rfl rfl (l' := #[.val (.ref a1), .val (.ref a2), .val (.int (0 : Int32)), .val (.int (2 : Int32)), .val .null, .val (.ref b_3)]) rfl k) ?_
  refine Go.step (T' := T3) (f' := (mkF m 42 #[.val (.ref a1), .val (.ref a2), .val (.int (0 : Int32)), .val (.int (2 : Int32)), .val .null, .val (.ref b_3)] [(.ref a1)])) (fun _ k => XS.aloadN X3.here hx rfl (hb hby d7_41) rfl rfl k) ?_
  refine Go.step (T' := T3) (f' := (mkF m 44 #[.val (.ref a1), .val (.ref a2), .val (.int (0 : Int32)), .val (.int (2 : Int32)), .val .null, .val (.ref b_3)] [(.ref b_3), (.ref a1)])) (fun _ k => XS.aload X3.here hx rfl (hb hby d7_42) rfl rfl k) ?_
  refine Go.step (T' := T3) (f' := (mkF m 45 #[.val (.ref a1), .val (.ref a2), .val (.int (0 : Int32)), .val (.int (2 : Int32)), .val .null, .val (.ref b_3)] [(.int (2 : Int32)), (.ref b_3), (.ref a1)])) (fun _ k => XS.iloadN X3.here hx rfl (hb hby d7_44) rfl k) ?_
  obtain ⟨_, _, ⟨T5, L5, kk5, nn5⟩, -, X5, ⟨Lc5, hQ5, lq5, yq5, zq5⟩, st5⟩ := Jvm.LawKit.callS X3 hx (y := (⟨"java/lang/StringUTF16", "coderFromArrayLen", "([BI)B"⟩ : MethodName)) hown (mvT hZ (hw _ (List.mem_of_getElem? (i := 41) rfl))) (mvT hZ (hw _ (List.mem_of_getElem? (i := 42) rfl))) (mvT hZ (hw _ (List.mem_of_getElem? (i := 36) rfl))) (mvT hZ (hw _ (List.mem_of_getElem? (i := 43) rfl))) (by decide) (backOf (W := 1) (rmCfl2 l Z a0 hw [] b_3 kb_3 [(.int (c0.toInt8.toInt32)), (.int (c1.toInt8.toInt32))] T3.heap n0 Z4 r3_1) hZ (hw _ (List.mem_of_getElem? (i := 43) rfl)) (hw _ (List.mem_of_getElem? (i := 36) rfl)) (by decide) (by decide)) (g := (mkF m 45 #[.val (.ref a1), .val (.ref a2), .val (.int (0 : Int32)), .val (.int (2 : Int32)), .val .null, .val (.ref b_3)] [(.int (2 : Int32)), (.ref b_3), (.ref a1)])) rfl (by rw [hml]; rfl) (argsL := [(.ref b_3), (.int (2 : Int32))]) (rest := [(.ref a1)]) (lenOf pd_2 rfl) rfl (by show 2 * 0 + _ ≤ _; exact Nat.le_of_eq rfl) (hb hby d7_45) (fun _ _ => ⟨rfl, rfl, (by decide : 1 + 0 ≤ _), (by decide : 2 + 0 ≤ _)⟩)
  dsimp only [Pt.U, Pt.locs, Pt.cells, Pt.slots] at X5 lq5 yq5 zq5 st5 hQ5
  subst yq5 zq5
  obtain ⟨rfl, Nq5, eh5⟩ := hQ5
  have N5 : Fr n0 L5 := by rw [lq5]; exact Fr.app N3 Nq5
  refine Go.step (T' := T5) (f' := (mkF m 48 #[.val (.ref a1), .val (.ref a2), .val (.int (0 : Int32)), .val (.int (2 : Int32)), .val .null, .val (.ref b_3)] [(.int (0 : Int32)), (.ref a1)])) st5 ?_
  have q6 : Fld Z T3.heap a1 "java/lang/String" "coder" "B" (.int (0 : Int32)) := (F_coder_a1.keep Kq3 nin0)
  have q7 : Exa Z T3.heap a1 "java/lang/String" := (E_a1.keep Kq3)
  obtain ⟨T8, h8, X8, e8, W8, st8⟩ := putFN X5 hx hZ hown (hw _ (List.mem_of_getElem? (i := 24) rfl)) Via.refl eh5 q6 q7 (Or.inr ⟨(hw _ (List.mem_of_getElem? (i := 25) rfl)), rfl, hnm⟩) (hw _ (List.mem_of_getElem? (i := 10) rfl)) (ty := .byte) (v := .int (0 : Int32)) (v' := .int (0 : Int32)) (by decide) rfl (by decide) (g := (mkF m 48 #[.val (.ref a1), .val (.ref a2), .val (.int (0 : Int32)), .val (.int (2 : Int32)), .val .null, .val (.ref b_3)] [(.int (0 : Int32)), (.ref a1)])) rfl rfl (hb hby d7_48)
  have N8 := Fr.snoc X8 N5 g_a1
  have Z9 : n0 ≤ h8.size := Nat.le_trans Z4 (Keep.of_wr W8).1
  have O9 : Old Z n0 h8 := O4.wr W8 g_a1
  have K9 : Keep h0 h8 [a1] := K4.wr W8 (Or.inl (List.mem_of_getElem? (i := 0) rfl))
  have Fw8 := q6.same W8
  refine Go.step (T' := T8) (f' := (mkF m 51 #[.val (.ref a1), .val (.ref a2), .val (.int (0 : Int32)), .val (.int (2 : Int32)), .val .null, .val (.ref b_3)] [])) st8 ?_
  refine Go.step (T' := T8) (f' := (mkF m 52 #[.val (.ref a1), .val (.ref a2), .val (.int (0 : Int32)), .val (.int (2 : Int32)), .val .null, .val (.ref b_3)] [(.ref a1)])) (fun _ k => XS.aloadN X8.here hx rfl (hb hby d7_51) rfl rfl k) ?_
  refine Go.step (T' := T8) (f' := (mkF m 54 #[.val (.ref a1), .val (.ref a2), .val (.int (0 : Int32)), .val (.int (2 : Int32)), .val .null, .val (.ref b_3)] [(.ref b_3), (.ref a1)])) (fun _ k => XS.aload X8.here hx rfl (hb hby d7_52) rfl rfl k) ?_
  have q10 : Fld Z h8 a1 "java/lang/String" "value" "[B" .null := ((F_value_a1.keep Kq3 nin0).other W8 (Or.inr (slot_ne (Or.inr (hw _ (List.mem_of_getElem? (i := 23) rfl))) (Or.inr (hw _ (List.mem_of_getElem? (i := 25) rfl))) (by decide) (t := (.array .byte)) (t' := .byte) (by decide) (by decide))))
  have q11 : Exa Z h8 a1 "java/lang/String" := (q7.wr W8)
  obtain ⟨T12, h12, X12, e12, W12, st12⟩ := putF X8 hx hZ hown (host := "") (Or.inl (hw _ (List.mem_of_getElem? (i := 22) rfl))) Via.refl e8 q10 q11 (Or.inr ⟨(hw _ (List.mem_of_getElem? (i := 23) rfl)), rfl, hnm⟩) (hw _ (List.mem_of_getElem? (i := 10) rfl)) (ty := (.array .byte)) (by decide) rfl rfl (g := (mkF m 54 #[.val (.ref a1), .val (.ref a2), .val (.int (0 : Int32)), .val (.int (2 : Int32)), .val .null, .val (.ref b_3)] [(.ref b_3), (.ref a1)])) rfl rfl (hb hby d7_54)
  have N12 := Fr.snoc X12 N8 g_a1
  have Z13 : n0 ≤ h12.size := Nat.le_trans Z9 (Keep.of_wr W12).1
  have O13 : Old Z n0 h12 := O9.wr W12 g_a1
  have K13 : Keep h0 h12 [a1] := K9.wr W12 (Or.inl (List.mem_of_getElem? (i := 0) rfl))
  have Fw12 := q10.same W12
  refine Go.step (T' := T12) (f' := (mkF m 57 #[.val (.ref a1), .val (.ref a2), .val (.int (0 : Int32)), .val (.int (2 : Int32)), .val .null, .val (.ref b_3)] [])) st12 ?_
  refine goV X12 hx Bd.returns Bd.notSynchronized (hb hby d7_57) ?_ (by decide) (by decide)
  show Q_rmSi4_2 Z a1 a2 cs kc c0 c1 h0 n0 _ T12.heap _
  rw [e12]
  have q14 : Fld Z h12 a1 "java/lang/String" "coder" "B" (.int (0 : Int32)) := (Fw8.other W12 (Or.inr (slot_ne (Or.inr (hw _ (List.mem_of_getElem? (i := 25) rfl))) (Or.inr (hw _ (List.mem_of_getElem? (i := 23) rfl))) (by decide) (t := .byte) (t' := (.array .byte)) (by decide) (by decide))))
  have q15 : Arv Z h12 b_3 kb_3 .byte (2 : Int32) [(.int (c0.toInt8.toInt32)), (.int (c1.toInt8.toInt32))] (.int (0 : Int32)) := ((r3_1.other W8 (Ne.symm (Nat.ne_of_lt (Nat.lt_of_lt_of_le E_a1.lt r3_0)))).other W12 (Ne.symm (Nat.ne_of_lt (Nat.lt_of_lt_of_le E_a1.lt r3_0))))
  exact ⟨b_3, kb_3, rfl, N12, K13, sz_b_3, Fw12, q14, q15⟩
theorem ef_rmSi_2 (m : MethodId) (a1 : Addr) (a2 : Addr) : entryFrame m #[(.ref a1), (.ref a2)] 2 = mkF m 0 #[.val (.ref a1), .val (.ref a2)] [] := by first | (simp [entryFrame, mkF, argsToLocals, Value.category]; done) | rfl
def Q_rmSi_2 (Z : State) (a1 : Addr) (a2 : Addr) (cs : Int32) (kc : ClassId) (c0 : Int32) (c1 : Int32) (h0 : Heap) (n0 : Nat) (rv : Option Value) (hq : Heap) (Lq : List Loc) : Prop := ∃ b : Addr, ∃ kb : ClassId, rv = none ∧ Fr n0 Lq ∧ Keep h0 hq [a1] ∧ h0.size ≤ b ∧ Fld Z hq a1 "java/lang/String" "value" "[B" (.ref b) ∧ Fld Z hq a1 "java/lang/String" "coder" "B" (.int (0 : Int32)) ∧ Arv Z hq b kb .byte (2 : Int32) [(.int (c0.toInt8.toInt32)), (.int (c1.toInt8.toInt32))] (.int (0 : Int32))
set_option maxRecDepth 65536 in
set_option maxHeartbeats 40000000 in
theorem rmSi_2 (l : Launch) (Z : State) (a0 : Array Value) (hw : ∀ d ∈ tables_1, d.before a0 Z = true) (ws : List Jvm.Cond) (a1 : Addr) (a2 : Addr) (cs : Int32) (kc : ClassId) (c0 : Int32) (c1 : Int32) (h0 : Heap) (n0 : Nat) (Z0 : n0 ≤ h0.size) (E_a1 : Exa Z h0 a1 "java/lang/String") (F_value_a1 : Fld Z h0 a1 "java/lang/String" "value" "[B" .null) (F_coder_a1 : Fld Z h0 a1 "java/lang/String" "coder" "B" (.int (0 : Int32))) (V_a2 : Arv Z h0 a2 kc .char (2 : Int32) [(.int c0), (.int c1)] (.int (0 : Int32))) (O0 : Old Z n0 h0) (S_COMPACT_STRINGS : Sta Z Z.heap "java/lang/String" "COMPACT_STRINGS" "Z" (.int cs)) (hcs : ¬ cs = (0 : Int32)) (hl0 : ¬ (255 : Int32) < c0) (hl1 : ¬ (255 : Int32) < c1) (g_a1 : n0 ≤ a1) :
    MetFree l (⟨"java/lang/String", "<init>", "([C)V"⟩ : MethodName) (head1 (Jvm.Cond.code (⟨"java/lang/String", "<init>", "([C)V"⟩ : MethodName) jdk_42_method_3_code 2 none :: ws) ({ frames := 3, cells := 1, slots := 2, locals := 52 } : Room)) (fun a U => a = #[(.ref a1), (.ref a2)] ∧ Z.Warmed39 U.vm ∧ U.heap = h0) (fun _ _ _ _ _ => True) (fun _ U o U' => ∃ rv Lq, o = .returned rv ∧ Q_rmSi_2 Z a1 a2 cs kc c0 c1 h0 n0 rv U'.heap Lq ∧ FrameEnd U o U' Lq ({ frames := 3, cells := 1, slots := 2, locals := 52 } : Room).cells ({ frames := 3, cells := 1, slots := 2, locals := 52 } : Room).slots) := by
  refine MetFree.of_bodySF (plainFor_of_name pn_7) hisR ?_
  intro p e s m args below meth c s₁ Bd hml0 hP hK
  obtain ⟨rfl, hZ, hh⟩ := hP
  have hx := Bd.exec
  have hby := Bd.bytes
  have hml : c.maxLocals = 2 := hml0
  have hown : s.vm.findClass "java/lang/String" = some m.cls := findClass_of_methodNamed Bd.named
  have hnm := (name_of_methodNamed Bd.named Bd.method).1
  have X0 : Stand p l e ({ frames := 3, cells := 1, slots := 2, locals := 52 } : Room) s m #[(.ref a1), (.ref a2)] below meth c s₁ [] 0 0 := Stand.of_body Bd
  have e0 : s₁.heap = h0 := by rw [← hh, Bd.state]; rfl
  have N0 := Fr.nil n0
  refine of_go (ef_rmSi_2 m a1 a2) ?_
  refine Go.step (T' := s₁) (f' := (mkF m 1 #[.val (.ref a1), .val (.ref a2)] [(.ref a1)])) (fun _ k => XS.aloadN X0.here hx rfl (hb hby d6_0) rfl rfl k) ?_
  refine Go.step (T' := s₁) (f' := (mkF m 2 #[.val (.ref a1), .val (.ref a2)] [(.ref a2), (.ref a1)])) (fun _ k => XS.aloadN X0.here hx rfl (hb hby d6_1) rfl rfl k) ?_
  refine Go.step (T' := s₁) (f' := (mkF m 3 #[.val (.ref a1), .val (.ref a2)] [(.int (0 : Int32)), (.ref a2), (.ref a1)])) (fun _ k => XS.iconst X0.here hx rfl (hb hby d6_2) k) ?_
  refine Go.step (T' := s₁) (f' := (mkF m 4 #[.val (.ref a1), .val (.ref a2)] [(.ref a2), (.int (0 : Int32)), (.ref a2), (.ref a1)])) (fun _ k => XS.aloadN X0.here hx rfl (hb hby d6_3) rfl rfl k) ?_
  obtain ⟨cl1, Ar1, qc1, Sz1, Nn1, Hs1, Gf1⟩ := id V_a2
  have hlen1 := X0.arraylength hx (by rw [e0]; exact Ar1.1) (State.isArrayOf_alike hZ.alike Ar1.2.1) (g := (mkF m 4 #[.val (.ref a1), .val (.ref a2)] [(.ref a2), (.int (0 : Int32)), (.ref a2), (.ref a1)])) rfl rfl (hb hby d6_4)
  rw [len_of Sz1 Nn1] at hlen1
  refine Go.step (T' := s₁) (f' := (mkF m 5 #[.val (.ref a1), .val (.ref a2)] [(.int (2 : Int32)), (.int (0 : Int32)), (.ref a2), (.ref a1)])) (fun _ k => hlen1 _ k) ?_
  refine Go.step (T' := s₁) (f' := (mkF m 6 #[.val (.ref a1), .val (.ref a2)] [.null, (.int (2 : Int32)), (.int (0 : Int32)), (.ref a2), (.ref a1)])) (fun _ k => XS.aconstNull X0.here hx rfl (hb hby d6_5) k) ?_
  obtain ⟨_, _, ⟨T2, L2, kk2, nn2⟩, -, X2, ⟨Lc2, hQ2, lq2, yq2, zq2⟩, st2⟩ := X0.specialBack hx (y := (⟨"java/lang/String", "<init>", "([CIILjava/lang/Void;)V"⟩ : MethodName)) rfl hown (mvT hZ (hw _ (List.mem_of_getElem? (i := 31) rfl))) (mvT hZ (hw _ (List.mem_of_getElem? (i := 32) rfl))) (mvT hZ (hw _ (List.mem_of_getElem? (i := 33) rfl))) (by decide) (backOf (W := 0) (rmSi4_2 l Z a0 hw [] a1 a2 cs kc c0 c1 h0 n0 Z0 E_a1 F_value_a1 F_coder_a1 V_a2 O0 S_COMPACT_STRINGS hcs hl0 hl1 g_a1) hZ (hw _ (List.mem_of_getElem? (i := 33) rfl)) (hw _ (List.mem_of_getElem? (i := 2) rfl)) (by decide) (by decide)) (g := (mkF m 6 #[.val (.ref a1), .val (.ref a2)] [.null, (.int (2 : Int32)), (.int (0 : Int32)), (.ref a2), (.ref a1)])) rfl (by rw [hml]; rfl) (Steps.refl _) (a := a1) (argsL := [(.ref a2), (.int (0 : Int32)), (.int (2 : Int32)), .null]) (rest := []) (lenOf pd_3 rfl) rfl (by show 2 * 0 + _ ≤ _; exact Nat.le_of_eq rfl) (hb hby d6_6) (fun _ _ => ⟨rfl, e0, (by decide : 0 + 1 ≤ _), (by decide : 0 + 2 ≤ _)⟩)
  dsimp only [Pt.U, Pt.locs, Pt.cells, Pt.slots] at X2 lq2 yq2 zq2 st2 hQ2
  subst yq2 zq2
  obtain ⟨b_2, kb_2, rfl, Nq2, Kq2, r2_0, r2_1, r2_2, r2_3⟩ := hQ2
  have N2 : Fr n0 L2 := by rw [lq2]; exact Fr.app N0 Nq2
  have g_b_2 : n0 ≤ b_2 := Nat.le_trans Z0 r2_0
  have sz_b_2 : h0.size ≤ b_2 := Nat.le_trans (Keep.refl h0 [a1]).1 r2_0
  have Z3 : n0 ≤ T2.heap.size := Nat.le_trans Z0 Kq2.1
  have O3 : Old Z n0 T2.heap := O0.keep Kq2 (allS g_a1 all0)
  have K3 : Keep h0 T2.heap [a1] := (Keep.refl h0 [a1]).trans Kq2 (allS (Or.inl (List.mem_of_getElem? (i := 0) rfl)) all0)
  refine Go.step (T' := T2) (f' := (mkF m 9 #[.val (.ref a1), .val (.ref a2)] [])) (fun _ k => st2.trans k) ?_
  refine goV X2 hx Bd.returns Bd.notSynchronized (hb hby d6_9) ?_ (by decide) (by decide)
  show Q_rmSi_2 Z a1 a2 cs kc c0 c1 h0 n0 _ T2.heap _
  exact ⟨b_2, kb_2, rfl, N2, K3, sz_b_2, r2_1, r2_2, r2_3⟩
theorem ef_rmCpA3 (m : MethodId) (a1 : Addr) (a3 : Addr) : entryFrame m #[(.ref a1), (.int (0 : Int32)), (.ref a3), (.int (0 : Int32)), (.int (3 : Int32))] 7 = mkF m 0 #[.val (.ref a1), .val (.int (0 : Int32)), .val (.ref a3), .val (.int (0 : Int32)), .val (.int (3 : Int32)), .unset, .unset] [] := by first | (simp [entryFrame, mkF, argsToLocals, Value.category]; done) | rfl
def Q_rmCpA3 (Z : State) (a1 : Addr) (a3 : Addr) (kc : ClassId) (c0 : Int32) (c1 : Int32) (c2 : Int32) (kb : ClassId) (h0 : Heap) (n0 : Nat) (rv : Option Value) (hq : Heap) (Lq : List Loc) : Prop := rv = some (.int (3 : Int32)) ∧ Fr n0 Lq ∧ Keep h0 hq [a3] ∧ Arv Z hq a3 kb .byte (3 : Int32) [(.int (c0.toInt8.toInt32)), (.int (c1.toInt8.toInt32)), (.int (c2.toInt8.toInt32))] (.int (0 : Int32))
set_option maxRecDepth 65536 in
set_option maxHeartbeats 40000000 in
theorem rmCpA3 (l : Launch) (Z : State) (a0 : Array Value) (hw : ∀ d ∈ tables_1, d.before a0 Z = true) (ws : List Jvm.Cond) (a1 : Addr) (a3 : Addr) (kc : ClassId) (c0 : Int32) (c1 : Int32) (c2 : Int32) (kb : ClassId) (h0 : Heap) (n0 : Nat) (Z0 : n0 ≤ h0.size) (V_a1 : Arv Z h0 a1 kc .char (3 : Int32) [(.int c0), (.int c1), (.int c2)] (.int (0 : Int32))) (V_a3 : Arv Z h0 a3 kb .byte (3 : Int32) [(.int (0 : Int32)), (.int (0 : Int32)), (.int (0 : Int32))] (.int (0 : Int32))) (hne : a1 ≠ a3) (hl0 : ¬ (255 : Int32) < c0) (hl1 : ¬ (255 : Int32) < c1) (hl2 : ¬ (255 : Int32) < c2) (g_a3 : n0 ≤ a3) :
    MetFree l (⟨"java/lang/StringUTF16", "compress", "([CI[BII)I"⟩ : MethodName) (head1 (Jvm.Cond.code (⟨"java/lang/StringUTF16", "compress", "([CI[BII)I"⟩ : MethodName) jdk_52_method_21_code 7 (some .int) :: ws) ({ frames := 0, cells := 0, slots := 0, locals := 0 } : Room)) (fun a U => a = #[(.ref a1), (.int (0 : Int32)), (.ref a3), (.int (0 : Int32)), (.int (3 : Int32))] ∧ Z.Warmed39 U.vm ∧ U.heap = h0) (fun _ _ _ _ _ => True) (fun _ U o U' => ∃ rv Lq, o = .returned rv ∧ Q_rmCpA3 Z a1 a3 kc c0 c1 c2 kb h0 n0 rv U'.heap Lq ∧ FrameEnd U o U' Lq ({ frames := 0, cells := 0, slots := 0, locals := 0 } : Room).cells ({ frames := 0, cells := 0, slots := 0, locals := 0 } : Room).slots) := by
  refine MetFree.of_bodySF (plainFor_of_name pn_9) hisR ?_
  intro p e s m args below meth c s₁ Bd hml0 hP hK
  obtain ⟨rfl, hZ, hh⟩ := hP
  have hx := Bd.exec
  have hby := Bd.bytes
  have hml : c.maxLocals = 7 := hml0
  have hown : s.vm.findClass "java/lang/StringUTF16" = some m.cls := findClass_of_methodNamed Bd.named
  have hnm := (name_of_methodNamed Bd.named Bd.method).1
  have X0 : Stand p l e ({ frames := 0, cells := 0, slots := 0, locals := 0 } : Room) s m #[(.ref a1), (.int (0 : Int32)), (.ref a3), (.int (0 : Int32)), (.int (3 : Int32))] below meth c s₁ [] 0 0 := Stand.of_body Bd
  have e0 : s₁.heap = h0 := by rw [← hh, Bd.state]; rfl
  have N0 := Fr.nil n0
  refine of_go (ef_rmCpA3 m a1 a3) ?_
  refine Go.step (T' := s₁) (f' := (mkF m 1 #[.val (.ref a1), .val (.int (0 : Int32)), .val (.ref a3), .val (.int (0 : Int32)), .val (.int (3 : Int32)), .unset, .unset] [(.int (0 : Int32))])) (fun _ k => XS.iconst X0.here hx rfl (hb hby d9_0) k) ?_
  refine Go.step (T' := s₁) (f' := (mkF m 3 #[.val (.ref a1), .val (.int (0 : Int32)), .val (.ref a3), .val (.int (0 : Int32)), .val (.int (3 : Int32)), .val (.int (0 : Int32)), .unset] [])) (fun _ k => XS.istore X0.here hx rfl (hb hby d9_1) rfl (l' := #[.val (.ref a1), .val (.int (0 : Int32)), .val (.ref a3), .val (.int (0 : Int32)), .val (.int (3 : Int32)), .val (.int (0 : Int32)), .unset]) rfl k) ?_
  refine Go.step (T' := s₁) (f' := (mkF m 5 #[.val (.ref a1), .val (.int (0 : Int32)), .val (.ref a3), .val (.int (0 : Int32)), .val (.int (3 : Int32)), .val (.int (0 : Int32)), .unset] [(.int (0 : Int32))])) (fun _ k => XS.iload X0.here hx rfl (hb hby d9_3) rfl k) ?_
  refine Go.step (T' := s₁) (f' := (mkF m 7 #[.val (.ref a1), .val (.int (0 : Int32)), .val (.ref a3), .val (.int (0 : Int32)), .val (.int (3 : Int32)), .val (.int (0 : Int32)), .unset] [(.int (3 : Int32)), (.int (0 : Int32))])) (fun _ k => XS.iload X0.here hx rfl (hb hby d9_5) rfl k) ?_
  refine Go.step (T' := s₁) (f' := (mkF m 10 #[.val (.ref a1), .val (.int (0 : Int32)), .val (.ref a3), .val (.int (0 : Int32)), .val (.int (3 : Int32)), .val (.int (0 : Int32)), .unset] [])) (fun _ k => XS.icmpNo X0.here hx rfl (hb hby d9_7) rfl (tlt (by decide : (0 : Int32) < (3 : Int32))).2.1 k) ?_
  refine Go.step (T' := s₁) (f' := (mkF m 11 #[.val (.ref a1), .val (.int (0 : Int32)), .val (.ref a3), .val (.int (0 : Int32)), .val (.int (3 : Int32)), .val (.int (0 : Int32)), .unset] [(.ref a1)])) (fun _ k => XS.aloadN X0.here hx rfl (hb hby d9_10) rfl rfl k) ?_
  refine Go.step (T' := s₁) (f' := (mkF m 12 #[.val (.ref a1), .val (.int (0 : Int32)), .val (.ref a3), .val (.int (0 : Int32)), .val (.int (3 : Int32)), .val (.int (0 : Int32)), .unset] [(.int (0 : Int32)), (.ref a1)])) (fun _ k => XS.iloadN X0.here hx rfl (hb hby d9_11) rfl k) ?_
  obtain ⟨cl1, Ar1, qc1, Sz1, Nn1, Hs1, Gf1⟩ := id V_a1
  have hin2 : ¬ ((0 : Int32) < 0 ∨ cl1.slots.size ≤ ((0 : Int32)).toNatClampNeg) := (inb_of Sz1 ⟨by decide, by decide⟩)
  have hat2 : cl1.slots[((0 : Int32)).toNatClampNeg]? = some (.int c0) := Has.at Hs1 hin2 rfl
  refine Go.step (T' := s₁) (f' := (mkF m 13 #[.val (.ref a1), .val (.int (0 : Int32)), .val (.ref a3), .val (.int (0 : Int32)), .val (.int (3 : Int32)), .val (.int (0 : Int32)), .unset] [(.int c0)])) (fun _ k => X0.caload hx (j := (0 : Int32)) (v := (.int c0)) (by rw [e0]; exact Ar1.1) (State.isArrayOf_alike hZ.alike Ar1.2.1) Ar1.2.2 hin2 hat2 (g := (mkF m 12 #[.val (.ref a1), .val (.int (0 : Int32)), .val (.ref a3), .val (.int (0 : Int32)), .val (.int (3 : Int32)), .val (.int (0 : Int32)), .unset] [(.int (0 : Int32)), (.ref a1)])) rfl rfl (hb hby d9_12) _ k) ?_
  refine Go.step (T' := s₁) (f' := (mkF m 15 #[.val (.ref a1), .val (.int (0 : Int32)), .val (.ref a3), .val (.int (0 : Int32)), .val (.int (3 : Int32)), .val (.int (0 : Int32)), .val (.int c0)] [])) (fun _ k => XS.istore X0.here hx rfl (hb hby d9_13) rfl (l' := #[.val (.ref a1), .val (.int (0 : Int32)), .val (.ref a3), .val (.int (0 : Int32)), .val (.int (3 : Int32)), .val (.int (0 : Int32)), .val (.int c0)]) rfl k) ?_
  refine Go.step (T' := s₁) (f' := (mkF m 17 #[.val (.ref a1), .val (.int (0 : Int32)), .val (.ref a3), .val (.int (0 : Int32)), .val (.int (3 : Int32)), .val (.int (0 : Int32)), .val (.int c0)] [(.int c0)])) (fun _ k => XS.iload X0.here hx rfl (hb hby d9_15) rfl k) ?_
  refine Go.step (T' := s₁) (f' := (mkF m 20 #[.val (.ref a1), .val (.int (0 : Int32)), .val (.ref a3), .val (.int (0 : Int32)), .val (.int (3 : Int32)), .val (.int (0 : Int32)), .val (.int c0)] [(.int (255 : Int32)), (.int c0)])) (fun _ k => XS.sipush X0.here hx rfl (hb hby d9_17) k) ?_
  refine Go.step (T' := s₁) (f' := (mkF m 26 #[.val (.ref a1), .val (.int (0 : Int32)), .val (.ref a3), .val (.int (0 : Int32)), .val (.int (3 : Int32)), .val (.int (0 : Int32)), .val (.int c0)] [])) (fun _ k => XS.icmpYes X0.here hx rfl (pc0 := 20) (pc' := 26) rfl (hb hby d9_20) rfl (flt hl0).2.2.2 (by decide) (by decide) k) ?_
  refine Go.step (T' := s₁) (f' := (mkF m 27 #[.val (.ref a1), .val (.int (0 : Int32)), .val (.ref a3), .val (.int (0 : Int32)), .val (.int (3 : Int32)), .val (.int (0 : Int32)), .val (.int c0)] [(.ref a3)])) (fun _ k => XS.aloadN X0.here hx rfl (hb hby d9_26) rfl rfl k) ?_
  refine Go.step (T' := s₁) (f' := (mkF m 28 #[.val (.ref a1), .val (.int (0 : Int32)), .val (.ref a3), .val (.int (0 : Int32)), .val (.int (3 : Int32)), .val (.int (0 : Int32)), .val (.int c0)] [(.int (0 : Int32)), (.ref a3)])) (fun _ k => XS.iloadN X0.here hx rfl (hb hby d9_27) rfl k) ?_
  refine Go.step (T' := s₁) (f' := (mkF m 30 #[.val (.ref a1), .val (.int (0 : Int32)), .val (.ref a3), .val (.int (0 : Int32)), .val (.int (3 : Int32)), .val (.int (0 : Int32)), .val (.int c0)] [(.int c0), (.int (0 : Int32)), (.ref a3)])) (fun _ k => XS.iload X0.here hx rfl (hb hby d9_28) rfl k) ?_
  refine Go.step (T' := s₁) (f' := (mkF m 31 #[.val (.ref a1), .val (.int (0 : Int32)), .val (.ref a3), .val (.int (0 : Int32)), .val (.int (3 : Int32)), .val (.int (0 : Int32)), .val (.int c0)] [(.int (c0.toInt8.toInt32)), (.int (0 : Int32)), (.ref a3)])) (fun _ k => XS.i2b X0.here hx rfl (hb hby d9_30) rfl k) ?_
  obtain ⟨cl3, Ar3, qc3, Sz3, Nn3, Hs3, Gf3⟩ := id V_a3
  have hin4 : ¬ ((0 : Int32) < 0 ∨ cl3.slots.size ≤ ((0 : Int32)).toNatClampNeg) := (inb_of Sz3 ⟨by decide, by decide⟩)
  obtain ⟨T4, h4, X4, e4, W4, st4⟩ := stB X0 hx hZ e0 Ar3 (j := (0 : Int32)) hin4 (g := (mkF m 31 #[.val (.ref a1), .val (.int (0 : Int32)), .val (.ref a3), .val (.int (0 : Int32)), .val (.int (3 : Int32)), .val (.int (0 : Int32)), .val (.int c0)] [(.int (c0.toInt8.toInt32)), (.int (0 : Int32)), (.ref a3)])) rfl rfl (hb hby d9_31)
  have N4 := Fr.snoc X4 N0 g_a3
  have Z5 : n0 ≤ h4.size := Nat.le_trans Z0 (Keep.of_wr W4).1
  have K5 : Keep h0 h4 [a3] := (Keep.refl h0 [a3]).wr W4 (Or.inl (List.mem_of_getElem? (i := 0) rfl))
  rw [own_nb] at W4
  have Va4 : Arv Z h4 a3 kb .byte (3 : Int32) [(.int (c0.toInt8.toInt32)), (.int (0 : Int32)), (.int (0 : Int32))] (.int (0 : Int32)) := Arv.set Ar3 qc3 Sz3 Nn3 Hs3 Gf3 (fits_nar_byte _) W4 0 rfl (Nat.le_of_ble_eq_true rfl)
  refine Go.step (T' := T4) (f' := (mkF m 32 #[.val (.ref a1), .val (.int (0 : Int32)), .val (.ref a3), .val (.int (0 : Int32)), .val (.int (3 : Int32)), .val (.int (0 : Int32)), .val (.int c0)] [])) st4 ?_
  refine Go.step (T' := T4) (f' := (mkF m 35 #[.val (.ref a1), .val (.int (1 : Int32)), .val (.ref a3), .val (.int (0 : Int32)), .val (.int (3 : Int32)), .val (.int (0 : Int32)), .val (.int c0)] [])) (fun _ k => XS.iinc X4.here hx rfl (hb hby d9_32) rfl (l' := #[.val (.ref a1), .val (.int (1 : Int32)), .val (.ref a3), .val (.int (0 : Int32)), .val (.int (3 : Int32)), .val (.int (0 : Int32)), .val (.int c0)]) rfl k) ?_
  refine Go.step (T' := T4) (f' := (mkF m 38 #[.val (.ref a1), .val (.int (1 : Int32)), .val (.ref a3), .val (.int (1 : Int32)), .val (.int (3 : Int32)), .val (.int (0 : Int32)), .val (.int c0)] [])) (fun _ k => XS.iinc X4.here hx rfl (hb hby d9_35) rfl (l' := #[.val (.ref a1), .val (.int (1 : Int32)), .val (.ref a3), .val (.int (1 : Int32)), .val (.int (3 : Int32)), .val (.int (0 : Int32)), .val (.int c0)]) rfl k) ?_
  refine Go.step (T' := T4) (f' := (mkF m 41 #[.val (.ref a1), .val (.int (1 : Int32)), .val (.ref a3), .val (.int (1 : Int32)), .val (.int (3 : Int32)), .val (.int (1 : Int32)), .val (.int c0)] [])) (fun _ k => XS.iinc X4.here hx rfl (hb hby d9_38) rfl (l' := #[.val (.ref a1), .val (.int (1 : Int32)), .val (.ref a3), .val (.int (1 : Int32)), .val (.int (3 : Int32)), .val (.int (1 : Int32)), .val (.int c0)]) rfl k) ?_
  refine Go.step (T' := T4) (f' := (mkF m 3 #[.val (.ref a1), .val (.int (1 : Int32)), .val (.ref a3), .val (.int (1 : Int32)), .val (.int (3 : Int32)), .val (.int (1 : Int32)), .val (.int c0)] [])) (fun _ k => XS.goto X4.here hx rfl (pc0 := 41) (pc' := 3) rfl (hb hby d9_41) (by decide) (by decide) k) ?_
  refine Go.step (T' := T4) (f' := (mkF m 5 #[.val (.ref a1), .val (.int (1 : Int32)), .val (.ref a3), .val (.int (1 : Int32)), .val (.int (3 : Int32)), .val (.int (1 : Int32)), .val (.int c0)] [(.int (1 : Int32))])) (fun _ k => XS.iload X4.here hx rfl (hb hby d9_3) rfl k) ?_
  refine Go.step (T' := T4) (f' := (mkF m 7 #[.val (.ref a1), .val (.int (1 : Int32)), .val (.ref a3), .val (.int (1 : Int32)), .val (.int (3 : Int32)), .val (.int (1 : Int32)), .val (.int c0)] [(.int (3 : Int32)), (.int (1 : Int32))])) (fun _ k => XS.iload X4.here hx rfl (hb hby d9_5) rfl k) ?_
  refine Go.step (T' := T4) (f' := (mkF m 10 #[.val (.ref a1), .val (.int (1 : Int32)), .val (.ref a3), .val (.int (1 : Int32)), .val (.int (3 : Int32)), .val (.int (1 : Int32)), .val (.int c0)] [])) (fun _ k => XS.icmpNo X4.here hx rfl (hb hby d9_7) rfl (tlt (by decide : (1 : Int32) < (3 : Int32))).2.1 k) ?_
  refine Go.step (T' := T4) (f' := (mkF m 11 #[.val (.ref a1), .val (.int (1 : Int32)), .val (.ref a3), .val (.int (1 : Int32)), .val (.int (3 : Int32)), .val (.int (1 : Int32)), .val (.int c0)] [(.ref a1)])) (fun _ k => XS.aloadN X4.here hx rfl (hb hby d9_10) rfl rfl k) ?_
  refine Go.step (T' := T4) (f' := (mkF m 12 #[.val (.ref a1), .val (.int (1 : Int32)), .val (.ref a3), .val (.int (1 : Int32)), .val (.int (3 : Int32)), .val (.int (1 : Int32)), .val (.int c0)] [(.int (1 : Int32)), (.ref a1)])) (fun _ k => XS.iloadN X4.here hx rfl (hb hby d9_11) rfl k) ?_
  have q6 : Arv Z h4 a1 kc .char (3 : Int32) [(.int c0), (.int c1), (.int c2)] (.int (0 : Int32)) := (V_a1.other W4 hne)
  obtain ⟨cl7, Ar7, qc7, Sz7, Nn7, Hs7, Gf7⟩ := id q6
  have hin8 : ¬ ((1 : Int32) < 0 ∨ cl7.slots.size ≤ ((1 : Int32)).toNatClampNeg) := (inb_of Sz7 ⟨by decide, by decide⟩)
  have hat8 : cl7.slots[((1 : Int32)).toNatClampNeg]? = some (.int c1) := Has.at Hs7 hin8 rfl
  refine Go.step (T' := T4) (f' := (mkF m 13 #[.val (.ref a1), .val (.int (1 : Int32)), .val (.ref a3), .val (.int (1 : Int32)), .val (.int (3 : Int32)), .val (.int (1 : Int32)), .val (.int c0)] [(.int c1)])) (fun _ k => X4.caload hx (j := (1 : Int32)) (v := (.int c1)) (by rw [e4]; exact Ar7.1) (State.isArrayOf_alike hZ.alike Ar7.2.1) Ar7.2.2 hin8 hat8 (g := (mkF m 12 #[.val (.ref a1), .val (.int (1 : Int32)), .val (.ref a3), .val (.int (1 : Int32)), .val (.int (3 : Int32)), .val (.int (1 : Int32)), .val (.int c0)] [(.int (1 : Int32)), (.ref a1)])) rfl rfl (hb hby d9_12) _ k) ?_
  refine Go.step (T' := T4) (f' := (mkF m 15 #[.val (.ref a1), .val (.int (1 : Int32)), .val (.ref a3), .val (.int (1 : Int32)), .val (.int (3 : Int32)), .val (.int (1 : Int32)), .val (.int c1)] [])) (fun _ k => XS.istore X4.here hx rfl (hb hby d9_13) rfl (l' := #[.val (.ref a1), .val (.int (1 : Int32)), .val (.ref a3), .val (.int (1 : Int32)), .val (.int (3 : Int32)), .val (.int (1 : Int32)), .val (.int c1)]) rfl k) ?_
  refine Go.step (T' := T4) (f' := (mkF m 17 #[.val (.ref a1), .val (.int (1 : Int32)), .val (.ref a3), .val (.int (1 : Int32)), .val (.int (3 : Int32)), .val (.int (1 : Int32)), .val (.int c1)] [(.int c1)])) (fun _ k => XS.iload X4.here hx rfl (hb hby d9_15) rfl k) ?_
  refine Go.step (T' := T4) (f' := (mkF m 20 #[.val (.ref a1), .val (.int (1 : Int32)), .val (.ref a3), .val (.int (1 : Int32)), .val (.int (3 : Int32)), .val (.int (1 : Int32)), .val (.int c1)] [(.int (255 : Int32)), (.int c1)])) (fun _ k => XS.sipush X4.here hx rfl (hb hby d9_17) k) ?_
  refine Go.step (T' := T4) (f' := (mkF m 26 #[.val (.ref a1), .val (.int (1 : Int32)), .val (.ref a3), .val (.int (1 : Int32)), .val (.int (3 : Int32)), .val (.int (1 : Int32)), .val (.int c1)] [])) (fun _ k => XS.icmpYes X4.here hx rfl (pc0 := 20) (pc' := 26) rfl (hb hby d9_20) rfl (flt hl1).2.2.2 (by decide) (by decide) k) ?_
  refine Go.step (T' := T4) (f' := (mkF m 27 #[.val (.ref a1), .val (.int (1 : Int32)), .val (.ref a3), .val (.int (1 : Int32)), .val (.int (3 : Int32)), .val (.int (1 : Int32)), .val (.int c1)] [(.ref a3)])) (fun _ k => XS.aloadN X4.here hx rfl (hb hby d9_26) rfl rfl k) ?_
  refine Go.step (T' := T4) (f' := (mkF m 28 #[.val (.ref a1), .val (.int (1 : Int32)), .val (.ref a3), .val (.int (1 : Int32)), .val (.int (3 : Int32)), .val (.int (1 : Int32)), .val (.int c1)] [(.int (1 : Int32)), (.ref a3)])) (fun _ k => XS.iloadN X4.here hx rfl (hb hby d9_27) rfl k) ?_
  refine Go.step (T' := T4) (f' := (mkF m 30 #[.val (.ref a1), .val (.int (1 : Int32)), .val (.ref a3), .val (.int (1 : Int32)), .val (.int (3 : Int32)), .val (.int (1 : Int32)), .val (.int c1)] [(.int c1), (.int (1 : Int32)), (.ref a3)])) (fun _ k => XS.iload X4.here hx rfl (hb hby d9_28) rfl k) ?_
  refine Go.step (T' := T4) (f' := (mkF m 31 #[.val (.ref a1), .val (.int (1 : Int32)), .val (.ref a3), .val (.int (1 : Int32)), .val (.int (3 : Int32)), .val (.int (1 : Int32)), .val (.int c1)] [(.int (c1.toInt8.toInt32)), (.int (1 : Int32)), (.ref a3)])) (fun _ k => XS.i2b X4.here hx rfl (hb hby d9_30) rfl k) ?_
  obtain ⟨cl9, Ar9, qc9, Sz9, Nn9, Hs9, Gf9⟩ := id Va4
  have hin10 : ¬ ((1 : Int32) < 0 ∨ cl9.slots.size ≤ ((1 : Int32)).toNatClampNeg) := (inb_of Sz9 ⟨by decide, by decide⟩)
  obtain ⟨T10, h10, X10, e10, W10, st10⟩ := stB X4 hx hZ e4 Ar9 (j := (1 : Int32)) hin10 (g := (mkF m 31 #[.val (.ref a1), .val (.int (1 : Int32)), .val (.ref a3), .val (.int (1 : Int32)), .val (.int (3 : Int32)), .val (.int (1 : Int32)), .val (.int c1)] [(.int (c1.toInt8.toInt32)), (.int (1 : Int32)), (.ref a3)])) rfl rfl (hb hby d9_31)
  have N10 := Fr.snoc X10 N4 g_a3
  have Z11 : n0 ≤ h10.size := Nat.le_trans Z5 (Keep.of_wr W10).1
  have K11 : Keep h0 h10 [a3] := K5.wr W10 (Or.inl (List.mem_of_getElem? (i := 0) rfl))
  rw [own_nb] at W10
  have Va10 : Arv Z h10 a3 kb .byte (3 : Int32) [(.int (c0.toInt8.toInt32)), (.int (c1.toInt8.toInt32)), (.int (0 : Int32))] (.int (0 : Int32)) := Arv.set Ar9 qc9 Sz9 Nn9 Hs9 Gf9 (fits_nar_byte _) W10 1 rfl (Nat.le_of_ble_eq_true rfl)
  refine Go.step (T' := T10) (f' := (mkF m 32 #[.val (.ref a1), .val (.int (1 : Int32)), .val (.ref a3), .val (.int (1 : Int32)), .val (.int (3 : Int32)), .val (.int (1 : Int32)), .val (.int c1)] [])) st10 ?_
  refine Go.step (T' := T10) (f' := (mkF m 35 #[.val (.ref a1), .val (.int (2 : Int32)), .val (.ref a3), .val (.int (1 : Int32)), .val (.int (3 : Int32)), .val (.int (1 : Int32)), .val (.int c1)] [])) (fun _ k => XS.iinc X10.here hx rfl (hb hby d9_32) rfl (l' := #[.val (.ref a1), .val (.int (2 : Int32)), .val (.ref a3), .val (.int (1 : Int32)), .val (.int (3 : Int32)), .val (.int (1 : Int32)), .val (.int c1)]) rfl k) ?_
  refine Go.step (T' := T10) (f' := (mkF m 38 #[.val (.ref a1), .val (.int (2 : Int32)), .val (.ref a3), .val (.int (2 : Int32)), .val (.int (3 : Int32)), .val (.int (1 : Int32)), .val (.int c1)] [])) (fun _ k => XS.iinc X10.here hx rfl (hb hby d9_35) rfl (l' := #[.val (.ref a1), .val (.int (2 : Int32)), .val (.ref a3), .val (.int (2 : Int32)), .val (.int (3 : Int32)), .val (.int (1 : Int32)), .val (.int c1)]) rfl k) ?_
  refine Go.step (T' := T10) (f' := (mkF m 41 #[.val (.ref a1), .val (.int (2 : Int32)), .val (.ref a3), .val (.int (2 : Int32)), .val (.int (3 : Int32)), .val (.int (2 : Int32)), .val (.int c1)] [])) (fun _ k => XS.iinc X10.here hx rfl (hb hby d9_38) rfl (l' := #[.val (.ref a1), .val (.int (2 : Int32)), .val (.ref a3), .val (.int (2 : Int32)), .val (.int (3 : Int32)), .val (.int (2 : Int32)), .val (.int c1)]) rfl k) ?_
  refine Go.step (T' := T10) (f' := (mkF m 3 #[.val (.ref a1), .val (.int (2 : Int32)), .val (.ref a3), .val (.int (2 : Int32)), .val (.int (3 : Int32)), .val (.int (2 : Int32)), .val (.int c1)] [])) (fun _ k => XS.goto X10.here hx rfl (pc0 := 41) (pc' := 3) rfl (hb hby d9_41) (by decide) (by decide) k) ?_
  refine Go.step (T' := T10) (f' := (mkF m 5 #[.val (.ref a1), .val (.int (2 : Int32)), .val (.ref a3), .val (.int (2 : Int32)), .val (.int (3 : Int32)), .val (.int (2 : Int32)), .val (.int c1)] [(.int (2 : Int32))])) (fun _ k => XS.iload X10.here hx rfl (hb hby d9_3) rfl k) ?_
  refine Go.step (T' := T10) (f' := (mkF m 7 #[.val (.ref a1), .val (.int (2 : Int32)), .val (.ref a3), .val (.int (2 : Int32)), .val (.int (3 : Int32)), .val (.int (2 : Int32)), .val (.int c1)] [(.int (3 : Int32)), (.int (2 : Int32))])) (fun _ k => XS.iload X10.here hx rfl (hb hby d9_5) rfl k) ?_
  refine Go.step (T' := T10) (f' := (mkF m 10 #[.val (.ref a1), .val (.int (2 : Int32)), .val (.ref a3), .val (.int (2 : Int32)), .val (.int (3 : Int32)), .val (.int (2 : Int32)), .val (.int c1)] [])) (fun _ k => XS.icmpNo X10.here hx rfl (hb hby d9_7) rfl (tlt (by decide : (2 : Int32) < (3 : Int32))).2.1 k) ?_
  refine Go.step (T' := T10) (f' := (mkF m 11 #[.val (.ref a1), .val (.int (2 : Int32)), .val (.ref a3), .val (.int (2 : Int32)), .val (.int (3 : Int32)), .val (.int (2 : Int32)), .val (.int c1)] [(.ref a1)])) (fun _ k => XS.aloadN X10.here hx rfl (hb hby d9_10) rfl rfl k) ?_
  refine Go.step (T' := T10) (f' := (mkF m 12 #[.val (.ref a1), .val (.int (2 : Int32)), .val (.ref a3), .val (.int (2 : Int32)), .val (.int (3 : Int32)), .val (.int (2 : Int32)), .val (.int c1)] [(.int (2 : Int32)), (.ref a1)])) (fun _ k => XS.iloadN X10.here hx rfl (hb hby d9_11) rfl k) ?_
  have q12 : Arv Z h10 a1 kc .char (3 : Int32) [(.int c0), (.int c1), (.int c2)] (.int (0 : Int32)) := (q6.other W10 hne)
  obtain ⟨cl13, Ar13, qc13, Sz13, Nn13, Hs13, Gf13⟩ := id q12
  have hin14 : ¬ ((2 : Int32) < 0 ∨ cl13.slots.size ≤ ((2 : Int32)).toNatClampNeg) := (inb_of Sz13 ⟨by decide, by decide⟩)
  have hat14 : cl13.slots[((2 : Int32)).toNatClampNeg]? = some (.int c2) := Has.at Hs13 hin14 rfl
  refine Go.step (T' := T10) (f' := (mkF m 13 #[.val (.ref a1), .val (.int (2 : Int32)), .val (.ref a3), .val (.int (2 : Int32)), .val (.int (3 : Int32)), .val (.int (2 : Int32)), .val (.int c1)] [(.int c2)])) (fun _ k => X10.caload hx (j := (2 : Int32)) (v := (.int c2)) (by rw [e10]; exact Ar13.1) (State.isArrayOf_alike hZ.alike Ar13.2.1) Ar13.2.2 hin14 hat14 (g := (mkF m 12 #[.val (.ref a1), .val (.int (2 : Int32)), .val (.ref a3), .val (.int (2 : Int32)), .val (.int (3 : Int32)), .val (.int (2 : Int32)), .val (.int c1)] [(.int (2 : Int32)), (.ref a1)])) rfl rfl (hb hby d9_12) _ k) ?_
  refine Go.step (T' := T10) (f' := (mkF m 15 #[.val (.ref a1), .val (.int (2 : Int32)), .val (.ref a3), .val (.int (2 : Int32)), .val (.int (3 : Int32)), .val (.int (2 : Int32)), .val (.int c2)] [])) (fun _ k => XS.istore X10.here hx rfl (hb hby d9_13) rfl (l' := #[.val (.ref a1), .val (.int (2 : Int32)), .val (.ref a3), .val (.int (2 : Int32)), .val (.int (3 : Int32)), .val (.int (2 : Int32)), .val (.int c2)]) rfl k) ?_
  refine Go.step (T' := T10) (f' := (mkF m 17 #[.val (.ref a1), .val (.int (2 : Int32)), .val (.ref a3), .val (.int (2 : Int32)), .val (.int (3 : Int32)), .val (.int (2 : Int32)), .val (.int c2)] [(.int c2)])) (fun _ k => XS.iload X10.here hx rfl (hb hby d9_15) rfl k) ?_
  refine Go.step (T' := T10) (f' := (mkF m 20 #[.val (.ref a1), .val (.int (2 : Int32)), .val (.ref a3), .val (.int (2 : Int32)), .val (.int (3 : Int32)), .val (.int (2 : Int32)), .val (.int c2)] [(.int (255 : Int32)), (.int c2)])) (fun _ k => XS.sipush X10.here hx rfl (hb hby d9_17) k) ?_
  refine Go.step (T' := T10) (f' := (mkF m 26 #[.val (.ref a1), .val (.int (2 : Int32)), .val (.ref a3), .val (.int (2 : Int32)), .val (.int (3 : Int32)), .val (.int (2 : Int32)), .val (.int c2)] [])) (fun _ k => XS.icmpYes X10.here hx rfl (pc0 := 20) (pc' := 26) rfl (hb hby d9_20) rfl (flt hl2).2.2.2 (by decide) (by decide) k) ?_
  refine Go.step (T' := T10) (f' := (mkF m 27 #[.val (.ref a1), .val (.int (2 : Int32)), .val (.ref a3), .val (.int (2 : Int32)), .val (.int (3 : Int32)), .val (.int (2 : Int32)), .val (.int c2)] [(.ref a3)])) (fun _ k => XS.aloadN X10.here hx rfl (hb hby d9_26) rfl rfl k) ?_
  refine Go.step (T' := T10) (f' := (mkF m 28 #[.val (.ref a1), .val (.int (2 : Int32)), .val (.ref a3), .val (.int (2 : Int32)), .val (.int (3 : Int32)), .val (.int (2 : Int32)), .val (.int c2)] [(.int (2 : Int32)), (.ref a3)])) (fun _ k => XS.iloadN X10.here hx rfl (hb hby d9_27) rfl k) ?_
  refine Go.step (T' := T10) (f' := (mkF m 30 #[.val (.ref a1), .val (.int (2 : Int32)), .val (.ref a3), .val (.int (2 : Int32)), .val (.int (3 : Int32)), .val (.int (2 : Int32)), .val (.int c2)] [(.int c2), (.int (2 : Int32)), (.ref a3)])) (fun _ k => XS.iload X10.here hx rfl (hb hby d9_28) rfl k) ?_
  refine Go.step (T' := T10) (f' := (mkF m 31 #[.val (.ref a1), .val (.int (2 : Int32)), .val (.ref a3), .val (.int (2 : Int32)), .val (.int (3 : Int32)), .val (.int (2 : Int32)), .val (.int c2)] [(.int (c2.toInt8.toInt32)), (.int (2 : Int32)), (.ref a3)])) (fun _ k => XS.i2b X10.here hx rfl (hb hby d9_30) rfl k) ?_
  obtain ⟨cl15, Ar15, qc15, Sz15, Nn15, Hs15, Gf15⟩ := id Va10
  have hin16 : ¬ ((2 : Int32) < 0 ∨ cl15.slots.size ≤ ((2 : Int32)).toNatClampNeg) := (inb_of Sz15 ⟨by decide, by decide⟩)
  obtain ⟨T16, h16, X16, e16, W16, st16⟩ := stB X10 hx hZ e10 Ar15 (j := (2 : Int32)) hin16 (g := (mkF m 31 #[.val (.ref a1), .val (.int (2 : Int32)), .val (.ref a3), .val (.int (2 : Int32)), .val (.int (3 : Int32)), .val (.int (2 : Int32)), .val (.int c2)] [(.int (c2.toInt8.toInt32)), (.int (2 : Int32)), (.ref a3)])) rfl rfl (hb hby d9_31)
  have N16 := Fr.snoc X16 N10 g_a3
  have Z17 : n0 ≤ h16.size := Nat.le_trans Z11 (Keep.of_wr W16).1
  have K17 : Keep h0 h16 [a3] := K11.wr W16 (Or.inl (List.mem_of_getElem? (i := 0) rfl))
  rw [own_nb] at W16
  have Va16 : Arv Z h16 a3 kb .byte (3 : Int32) [(.int (c0.toInt8.toInt32)), (.int (c1.toInt8.toInt32)), (.int (c2.toInt8.toInt32))] (.int (0 : Int32)) := Arv.set Ar15 qc15 Sz15 Nn15 Hs15 Gf15 (fits_nar_byte _) W16 2 rfl (Nat.le_of_ble_eq_true rfl)
  refine Go.step (T' := T16) (f' := (mkF m 32 #[.val (.ref a1), .val (.int (2 : Int32)), .val (.ref a3), .val (.int (2 : Int32)), .val (.int (3 : Int32)), .val (.int (2 : Int32)), .val (.int c2)] [])) st16 ?_
  refine Go.step (T' := T16) (f' := (mkF m 35 #[.val (.ref a1), .val (.int (3 : Int32)), .val (.ref a3), .val (.int (2 : Int32)), .val (.int (3 : Int32)), .val (.int (2 : Int32)), .val (.int c2)] [])) (fun _ k => XS.iinc X16.here hx rfl (hb hby d9_32) rfl (l' := #[.val (.ref a1), .val (.int (3 : Int32)), .val (.ref a3), .val (.int (2 : Int32)), .val (.int (3 : Int32)), .val (.int (2 : Int32)), .val (.int c2)]) rfl k) ?_
  refine Go.step (T' := T16) (f' := (mkF m 38 #[.val (.ref a1), .val (.int (3 : Int32)), .val (.ref a3), .val (.int (3 : Int32)), .val (.int (3 : Int32)), .val (.int (2 : Int32)), .val (.int c2)] [])) (fun _ k => XS.iinc X16.here hx rfl (hb hby d9_35) rfl (l' := #[.val (.ref a1), .val (.int (3 : Int32)), .val (.ref a3), .val (.int (3 : Int32)), .val (.int (3 : Int32)), .val (.int (2 : Int32)), .val (.int c2)]) rfl k) ?_
  refine Go.step (T' := T16) (f' := (mkF m 41 #[.val (.ref a1), .val (.int (3 : Int32)), .val (.ref a3), .val (.int (3 : Int32)), .val (.int (3 : Int32)), .val (.int (3 : Int32)), .val (.int c2)] [])) (fun _ k => XS.iinc X16.here hx rfl (hb hby d9_38) rfl (l' := #[.val (.ref a1), .val (.int (3 : Int32)), .val (.ref a3), .val (.int (3 : Int32)), .val (.int (3 : Int32)), .val (.int (3 : Int32)), .val (.int c2)]) rfl k) ?_
  refine Go.step (T' := T16) (f' := (mkF m 3 #[.val (.ref a1), .val (.int (3 : Int32)), .val (.ref a3), .val (.int (3 : Int32)), .val (.int (3 : Int32)), .val (.int (3 : Int32)), .val (.int c2)] [])) (fun _ k => XS.goto X16.here hx rfl (pc0 := 41) (pc' := 3) rfl (hb hby d9_41) (by decide) (by decide) k) ?_
  refine Go.step (T' := T16) (f' := (mkF m 5 #[.val (.ref a1), .val (.int (3 : Int32)), .val (.ref a3), .val (.int (3 : Int32)), .val (.int (3 : Int32)), .val (.int (3 : Int32)), .val (.int c2)] [(.int (3 : Int32))])) (fun _ k => XS.iload X16.here hx rfl (hb hby d9_3) rfl k) ?_
  refine Go.step (T' := T16) (f' := (mkF m 7 #[.val (.ref a1), .val (.int (3 : Int32)), .val (.ref a3), .val (.int (3 : Int32)), .val (.int (3 : Int32)), .val (.int (3 : Int32)), .val (.int c2)] [(.int (3 : Int32)), (.int (3 : Int32))])) (fun _ k => XS.iload X16.here hx rfl (hb hby d9_5) rfl k) ?_
  refine Go.step (T' := T16) (f' := (mkF m 44 #[.val (.ref a1), .val (.int (3 : Int32)), .val (.ref a3), .val (.int (3 : Int32)), .val (.int (3 : Int32)), .val (.int (3 : Int32)), .val (.int c2)] [])) (fun _ k => XS.icmpYes X16.here hx rfl (pc0 := 7) (pc' := 44) rfl (hb hby d9_7) rfl (flt (by decide : ¬ ((3 : Int32) < (3 : Int32)))).2.1 (by decide) (by decide) k) ?_
  refine Go.step (T' := T16) (f' := (mkF m 46 #[.val (.ref a1), .val (.int (3 : Int32)), .val (.ref a3), .val (.int (3 : Int32)), .val (.int (3 : Int32)), .val (.int (3 : Int32)), .val (.int c2)] [(.int (3 : Int32))])) (fun _ k => XS.iload X16.here hx rfl (hb hby d9_44) rfl k) ?_
  refine goI X16 hx Bd.returns Bd.notSynchronized (hb hby d9_46) ?_ (by decide) (by decide)
  show Q_rmCpA3 Z a1 a3 kc c0 c1 c2 kb h0 n0 _ T16.heap _
  rw [e16]
  exact ⟨rfl, N16, K17, Va16⟩
theorem ef_rmCpB3 (m : MethodId) (a1 : Addr) : entryFrame m #[(.ref a1), (.int (0 : Int32)), (.int (3 : Int32))] 6 = mkF m 0 #[.val (.ref a1), .val (.int (0 : Int32)), .val (.int (3 : Int32)), .unset, .unset, .unset] [] := by first | (simp [entryFrame, mkF, argsToLocals, Value.category]; done) | rfl
def Q_rmCpB3 (Z : State) (a1 : Addr) (kc : ClassId) (c0 : Int32) (c1 : Int32) (c2 : Int32) (h0 : Heap) (n0 : Nat) (rv : Option Value) (hq : Heap) (Lq : List Loc) : Prop := ∃ b : Addr, ∃ kb : ClassId, rv = some (.ref b) ∧ Fr n0 Lq ∧ Keep h0 hq [] ∧ h0.size ≤ b ∧ Arv Z hq b kb .byte (3 : Int32) [(.int (c0.toInt8.toInt32)), (.int (c1.toInt8.toInt32)), (.int (c2.toInt8.toInt32))] (.int (0 : Int32))
set_option maxRecDepth 65536 in
set_option maxHeartbeats 40000000 in
theorem rmCpB3 (l : Launch) (Z : State) (a0 : Array Value) (hw : ∀ d ∈ tables_1, d.before a0 Z = true) (ws : List Jvm.Cond) (a1 : Addr) (kc : ClassId) (c0 : Int32) (c1 : Int32) (c2 : Int32) (h0 : Heap) (n0 : Nat) (Z0 : n0 ≤ h0.size) (V_a1 : Arv Z h0 a1 kc .char (3 : Int32) [(.int c0), (.int c1), (.int c2)] (.int (0 : Int32))) (hl0 : ¬ (255 : Int32) < c0) (hl1 : ¬ (255 : Int32) < c1) (hl2 : ¬ (255 : Int32) < c2) :
    MetFree l (⟨"java/lang/StringUTF16", "compress", "([CII)[B"⟩ : MethodName) (head1 (Jvm.Cond.code (⟨"java/lang/StringUTF16", "compress", "([CII)[B"⟩ : MethodName) jdk_52_method_16_code 6 (some (.array .byte)) :: ws) ({ frames := 1, cells := 1, slots := 3, locals := 18 } : Room)) (fun a U => a = #[(.ref a1), (.int (0 : Int32)), (.int (3 : Int32))] ∧ Z.Warmed39 U.vm ∧ U.heap = h0) (fun _ _ _ _ _ => True) (fun _ U o U' => ∃ rv Lq, o = .returned rv ∧ Q_rmCpB3 Z a1 kc c0 c1 c2 h0 n0 rv U'.heap Lq ∧ FrameEnd U o U' Lq ({ frames := 1, cells := 1, slots := 3, locals := 18 } : Room).cells ({ frames := 1, cells := 1, slots := 3, locals := 18 } : Room).slots) := by
  refine MetFree.of_bodySF (plainFor_of_name pn_9) hisR ?_
  intro p e s m args below meth c s₁ Bd hml0 hP hK
  obtain ⟨rfl, hZ, hh⟩ := hP
  have hx := Bd.exec
  have hby := Bd.bytes
  have hml : c.maxLocals = 6 := hml0
  have hown : s.vm.findClass "java/lang/StringUTF16" = some m.cls := findClass_of_methodNamed Bd.named
  have hnm := (name_of_methodNamed Bd.named Bd.method).1
  have X0 : Stand p l e ({ frames := 1, cells := 1, slots := 3, locals := 18 } : Room) s m #[(.ref a1), (.int (0 : Int32)), (.int (3 : Int32))] below meth c s₁ [] 0 0 := Stand.of_body Bd
  have e0 : s₁.heap = h0 := by rw [← hh, Bd.state]; rfl
  have N0 := Fr.nil n0
  refine of_go (ef_rmCpB3 m a1) ?_
  refine Go.step (T' := s₁) (f' := (mkF m 1 #[.val (.ref a1), .val (.int (0 : Int32)), .val (.int (3 : Int32)), .unset, .unset, .unset] [(.int (3 : Int32))])) (fun _ k => XS.iloadN X0.here hx rfl (hb hby d8_0) rfl k) ?_
  obtain ⟨T1, h1, k1, X1, e1, E1, A1, st1⟩ := newP X0 hx hZ (hw _ (List.mem_of_getElem? (i := 14) rfl)) e0 (g := (mkF m 1 #[.val (.ref a1), .val (.int (0 : Int32)), .val (.int (3 : Int32)), .unset, .unset, .unset] [(.int (3 : Int32))])) rfl (hb hby d8_1) rfl (by decide) (cap := 3) (by decide) (by decide) (by decide) (by decide)
  obtain ⟨b1, g1⟩ : ∃ z, z = h0.size := ⟨_, rfl⟩
  rw [← g1] at A1 st1
  have g_b1 : n0 ≤ b1 := Nat.le_trans Z0 (Nat.le_of_eq g1.symm)
  have sz_b1 : h0.size ≤ b1 := Nat.le_trans (Keep.refl h0 []).1 (Nat.le_of_eq g1.symm)
  have Z2 : n0 ≤ h1.size := Nat.le_trans Z0 E1.1
  have K2 : Keep h0 h1 [] := (Keep.refl h0 []).ext E1
  have V_b1 : Arv Z h1 b1 k1 .byte (3 : Int32) [(.int (0 : Int32)), (.int (0 : Int32)), (.int (0 : Int32))] (.int (0 : Int32)) := (Arv.new A1 (by decide)).pad (pad_rep [] (.int (0 : Int32)) 3)
  refine Go.step (T' := T1) (f' := (mkF m 3 #[.val (.ref a1), .val (.int (0 : Int32)), .val (.int (3 : Int32)), .unset, .unset, .unset] [(.ref b1)])) st1 ?_
  refine Go.step (T' := T1) (f' := (mkF m 4 #[.val (.ref a1), .val (.int (0 : Int32)), .val (.int (3 : Int32)), .val (.ref b1), .unset, .unset] [])) (fun _ k => XS.astoreN X1.here hx rfl (hb hby d8_3) rfl rfl (l' := #[.val (.ref a1), .val (.int (0 : Int32)), .val (.int (3 : Int32)), .val (.ref b1), .unset, .unset]) rfl k) ?_
  refine Go.step (T' := T1) (f' := (mkF m 5 #[.val (.ref a1), .val (.int (0 : Int32)), .val (.int (3 : Int32)), .val (.ref b1), .unset, .unset] [(.ref a1)])) (fun _ k => XS.aloadN X1.here hx rfl (hb hby d8_4) rfl rfl k) ?_
  refine Go.step (T' := T1) (f' := (mkF m 6 #[.val (.ref a1), .val (.int (0 : Int32)), .val (.int (3 : Int32)), .val (.ref b1), .unset, .unset] [(.int (0 : Int32)), (.ref a1)])) (fun _ k => XS.iloadN X1.here hx rfl (hb hby d8_5) rfl k) ?_
  refine Go.step (T' := T1) (f' := (mkF m 7 #[.val (.ref a1), .val (.int (0 : Int32)), .val (.int (3 : Int32)), .val (.ref b1), .unset, .unset] [(.ref b1), (.int (0 : Int32)), (.ref a1)])) (fun _ k => XS.aloadN X1.here hx rfl (hb hby d8_6) rfl rfl k) ?_
  refine Go.step (T' := T1) (f' := (mkF m 8 #[.val (.ref a1), .val (.int (0 : Int32)), .val (.int (3 : Int32)), .val (.ref b1), .unset, .unset] [(.int (0 : Int32)), (.ref b1), (.int (0 : Int32)), (.ref a1)])) (fun _ k => XS.iconst X1.here hx rfl (hb hby d8_7) k) ?_
  refine Go.step (T' := T1) (f' := (mkF m 9 #[.val (.ref a1), .val (.int (0 : Int32)), .val (.int (3 : Int32)), .val (.ref b1), .unset, .unset] [(.int (3 : Int32)), (.int (0 : Int32)), (.ref b1), (.int (0 : Int32)), (.ref a1)])) (fun _ k => XS.iloadN X1.here hx rfl (hb hby d8_8) rfl k) ?_
  have q4 : Arv Z h1 a1 kc .char (3 : Int32) [(.int c0), (.int c1), (.int c2)] (.int (0 : Int32)) := (V_a1.ext E1)
  obtain ⟨_, _, ⟨T3, L3, kk3, nn3⟩, -, X3, ⟨Lc3, hQ3, lq3, yq3, zq3⟩, st3⟩ := Jvm.LawKit.callS X1 hx (y := (⟨"java/lang/StringUTF16", "compress", "([CI[BII)I"⟩ : MethodName)) hown (mvT hZ (hw _ (List.mem_of_getElem? (i := 38) rfl))) (mvT hZ (hw _ (List.mem_of_getElem? (i := 39) rfl))) (mvT hZ (hw _ (List.mem_of_getElem? (i := 36) rfl))) (mvT hZ (hw _ (List.mem_of_getElem? (i := 40) rfl))) (by decide) (backOf (W := 0) (rmCpA3 l Z a0 hw [] a1 b1 kc c0 c1 c2 k1 h1 n0 Z2 q4 V_b1 (Nat.ne_of_lt (Nat.lt_of_lt_of_le V_a1.lt (Nat.le_of_eq g1.symm))) hl0 hl1 hl2 g_b1) hZ (hw _ (List.mem_of_getElem? (i := 40) rfl)) (hw _ (List.mem_of_getElem? (i := 36) rfl)) (by decide) (by decide)) (g := (mkF m 9 #[.val (.ref a1), .val (.int (0 : Int32)), .val (.int (3 : Int32)), .val (.ref b1), .unset, .unset] [(.int (3 : Int32)), (.int (0 : Int32)), (.ref b1), (.int (0 : Int32)), (.ref a1)])) rfl (by rw [hml]; rfl) (argsL := [(.ref a1), (.int (0 : Int32)), (.ref b1), (.int (0 : Int32)), (.int (3 : Int32))]) (rest := []) (lenOf pd_0 rfl) rfl (by show 2 * 0 + _ ≤ _; exact Nat.le_of_eq rfl) (hb hby d8_9) (fun _ _ => ⟨rfl, e1, (by decide : 1 + 0 ≤ _), (by decide : 3 + 0 ≤ _)⟩)
  dsimp only [Pt.U, Pt.locs, Pt.cells, Pt.slots] at X3 lq3 yq3 zq3 st3 hQ3
  subst yq3 zq3
  obtain ⟨rfl, Nq3, Kq3, r3_0⟩ := hQ3
  have N3 : Fr n0 L3 := by rw [lq3]; exact Fr.app N0 Nq3
  have Z5 : n0 ≤ T3.heap.size := Nat.le_trans Z2 Kq3.1
  have K5 : Keep h0 T3.heap [] := K2.trans Kq3 (allS (Or.inr sz_b1) all0)
  refine Go.step (T' := T3) (f' := (mkF m 12 #[.val (.ref a1), .val (.int (0 : Int32)), .val (.int (3 : Int32)), .val (.ref b1), .unset, .unset] [(.int (3 : Int32))])) st3 ?_
  refine Go.step (T' := T3) (f' := (mkF m 14 #[.val (.ref a1), .val (.int (0 : Int32)), .val (.int (3 : Int32)), .val (.ref b1), .val (.int (3 : Int32)), .unset] [])) (fun _ k => XS.istore X3.here hx rfl (hb hby d8_12) rfl (l' := #[.val (.ref a1), .val (.int (0 : Int32)), .val (.int (3 : Int32)), .val (.ref b1), .val (.int (3 : Int32)), .unset]) rfl k) ?_
  refine Go.step (T' := T3) (f' := (mkF m 16 #[.val (.ref a1), .val (.int (0 : Int32)), .val (.int (3 : Int32)), .val (.ref b1), .val (.int (3 : Int32)), .unset] [(.int (3 : Int32))])) (fun _ k => XS.iload X3.here hx rfl (hb hby d8_14) rfl k) ?_
  refine Go.step (T' := T3) (f' := (mkF m 17 #[.val (.ref a1), .val (.int (0 : Int32)), .val (.int (3 : Int32)), .val (.ref b1), .val (.int (3 : Int32)), .unset] [(.int (3 : Int32)), (.int (3 : Int32))])) (fun _ k => XS.iloadN X3.here hx rfl (hb hby d8_16) rfl k) ?_
  refine Go.step (T' := T3) (f' := (mkF m 57 #[.val (.ref a1), .val (.int (0 : Int32)), .val (.int (3 : Int32)), .val (.ref b1), .val (.int (3 : Int32)), .unset] [])) (fun _ k => XS.icmpYes X3.here hx rfl (pc0 := 17) (pc' := 57) rfl (hb hby d8_17) rfl (teq (by decide : (3 : Int32) = (3 : Int32))).1 (by decide) (by decide) k) ?_
  refine Go.step (T' := T3) (f' := (mkF m 58 #[.val (.ref a1), .val (.int (0 : Int32)), .val (.int (3 : Int32)), .val (.ref b1), .val (.int (3 : Int32)), .unset] [(.ref b1)])) (fun _ k => XS.aloadN X3.here hx rfl (hb hby d8_57) rfl rfl k) ?_
  refine goA X3 hx Bd.returns rfl rfl Bd.notSynchronized (hb hby d8_58) ?_ (by decide) (by decide)
  show Q_rmCpB3 Z a1 kc c0 c1 c2 h0 n0 _ T3.heap _
  exact ⟨b1, k1, rfl, N3, K5, sz_b1, r3_0⟩
theorem ef_rmCfl3 (m : MethodId) (a1 : Addr) : entryFrame m #[(.ref a1), (.int (3 : Int32))] 2 = mkF m 0 #[.val (.ref a1), .val (.int (3 : Int32))] [] := by first | (simp [entryFrame, mkF, argsToLocals, Value.category]; done) | rfl
def Q_rmCfl3 (Z : State) (a1 : Addr) (kb : ClassId) (vs : List Value) (h0 : Heap) (n0 : Nat) (rv : Option Value) (hq : Heap) (Lq : List Loc) : Prop := rv = some (.int (0 : Int32)) ∧ Fr n0 Lq ∧ hq = h0
set_option maxRecDepth 65536 in
set_option maxHeartbeats 40000000 in
theorem rmCfl3 (l : Launch) (Z : State) (a0 : Array Value) (hw : ∀ d ∈ tables_1, d.before a0 Z = true) (ws : List Jvm.Cond) (a1 : Addr) (kb : ClassId) (vs : List Value) (h0 : Heap) (n0 : Nat) (Z0 : n0 ≤ h0.size) (V_a1 : Arv Z h0 a1 kb .byte (3 : Int32) vs (.int (0 : Int32))) :
    MetFree l (⟨"java/lang/StringUTF16", "coderFromArrayLen", "([BI)B"⟩ : MethodName) (head1 (Jvm.Cond.code (⟨"java/lang/StringUTF16", "coderFromArrayLen", "([BI)B"⟩ : MethodName) jdk_52_method_15_code 2 (some .byte) :: ws) ({ frames := 0, cells := 0, slots := 0, locals := 0 } : Room)) (fun a U => a = #[(.ref a1), (.int (3 : Int32))] ∧ Z.Warmed39 U.vm ∧ U.heap = h0) (fun _ _ _ _ _ => True) (fun _ U o U' => ∃ rv Lq, o = .returned rv ∧ Q_rmCfl3 Z a1 kb vs h0 n0 rv U'.heap Lq ∧ FrameEnd U o U' Lq ({ frames := 0, cells := 0, slots := 0, locals := 0 } : Room).cells ({ frames := 0, cells := 0, slots := 0, locals := 0 } : Room).slots) := by
  refine MetFree.of_bodySF (plainFor_of_name pn_9) hisR ?_
  intro p e s m args below meth c s₁ Bd hml0 hP hK
  obtain ⟨rfl, hZ, hh⟩ := hP
  have hx := Bd.exec
  have hby := Bd.bytes
  have hml : c.maxLocals = 2 := hml0
  have hown : s.vm.findClass "java/lang/StringUTF16" = some m.cls := findClass_of_methodNamed Bd.named
  have hnm := (name_of_methodNamed Bd.named Bd.method).1
  have X0 : Stand p l e ({ frames := 0, cells := 0, slots := 0, locals := 0 } : Room) s m #[(.ref a1), (.int (3 : Int32))] below meth c s₁ [] 0 0 := Stand.of_body Bd
  have e0 : s₁.heap = h0 := by rw [← hh, Bd.state]; rfl
  have N0 := Fr.nil n0
  refine of_go (ef_rmCfl3 m a1) ?_
  refine Go.step (T' := s₁) (f' := (mkF m 1 #[.val (.ref a1), .val (.int (3 : Int32))] [(.int (3 : Int32))])) (fun _ k => XS.iloadN X0.here hx rfl (hb hby d10_0) rfl k) ?_
  refine Go.step (T' := s₁) (f' := (mkF m 2 #[.val (.ref a1), .val (.int (3 : Int32))] [(.ref a1), (.int (3 : Int32))])) (fun _ k => XS.aloadN X0.here hx rfl (hb hby d10_1) rfl rfl k) ?_
  obtain ⟨cl1, Ar1, qc1, Sz1, Nn1, Hs1, Gf1⟩ := id V_a1
  have hlen1 := X0.arraylength hx (by rw [e0]; exact Ar1.1) (State.isArrayOf_alike hZ.alike Ar1.2.1) (g := (mkF m 2 #[.val (.ref a1), .val (.int (3 : Int32))] [(.ref a1), (.int (3 : Int32))])) rfl rfl (hb hby d10_2)
  rw [len_of Sz1 Nn1] at hlen1
  refine Go.step (T' := s₁) (f' := (mkF m 3 #[.val (.ref a1), .val (.int (3 : Int32))] [(.int (3 : Int32)), (.int (3 : Int32))])) (fun _ k => hlen1 _ k) ?_
  refine Go.step (T' := s₁) (f' := (mkF m 4 #[.val (.ref a1), .val (.int (3 : Int32))] [(.int (0 : Int32))])) (fun _ k => XS.isub X0.here hx rfl (hb hby d10_3) rfl k) ?_
  refine Go.step (T' := s₁) (f' := (mkF m 6 #[.val (.ref a1), .val (.int (3 : Int32))] [(.int (31 : Int32)), (.int (0 : Int32))])) (fun _ k => XS.bipush X0.here hx rfl (hb hby d10_4) k) ?_
  refine Go.step (T' := s₁) (f' := (mkF m 7 #[.val (.ref a1), .val (.int (3 : Int32))] [(.int (0 : Int32))])) (fun _ k => XS.iushr X0.here hx rfl (hb hby d10_6) rfl k) ?_
  refine Go.step (T' := s₁) (f' := (mkF m 8 #[.val (.ref a1), .val (.int (3 : Int32))] [(.int (0 : Int32))])) (fun _ k => XS.i2b X0.here hx rfl (hb hby d10_7) rfl k) ?_
  refine goN X0 hx (t := .byte) Bd.returns (by simp) Bd.notSynchronized (hb hby d10_8) ?_ (by decide) (by decide)
  show Q_rmCfl3 Z a1 kb vs h0 n0 _ s₁.heap _
  rw [e0]
  exact ⟨rfl, N0, rfl⟩
theorem ef_rmSi4_3 (m : MethodId) (a1 : Addr) (a2 : Addr) : entryFrame m #[(.ref a1), (.ref a2), (.int (0 : Int32)), (.int (3 : Int32)), .null] 6 = mkF m 0 #[.val (.ref a1), .val (.ref a2), .val (.int (0 : Int32)), .val (.int (3 : Int32)), .val .null, .unset] [] := by first | (simp [entryFrame, mkF, argsToLocals, Value.category]; done) | rfl
def Q_rmSi4_3 (Z : State) (a1 : Addr) (a2 : Addr) (cs : Int32) (kc : ClassId) (c0 : Int32) (c1 : Int32) (c2 : Int32) (h0 : Heap) (n0 : Nat) (rv : Option Value) (hq : Heap) (Lq : List Loc) : Prop := ∃ b : Addr, ∃ kb : ClassId, rv = none ∧ Fr n0 Lq ∧ Keep h0 hq [a1] ∧ h0.size ≤ b ∧ Fld Z hq a1 "java/lang/String" "value" "[B" (.ref b) ∧ Fld Z hq a1 "java/lang/String" "coder" "B" (.int (0 : Int32)) ∧ Arv Z hq b kb .byte (3 : Int32) [(.int (c0.toInt8.toInt32)), (.int (c1.toInt8.toInt32)), (.int (c2.toInt8.toInt32))] (.int (0 : Int32))
set_option maxRecDepth 65536 in
set_option maxHeartbeats 40000000 in
theorem rmSi4_3 (l : Launch) (Z : State) (a0 : Array Value) (hw : ∀ d ∈ tables_1, d.before a0 Z = true) (ws : List Jvm.Cond) (a1 : Addr) (a2 : Addr) (cs : Int32) (kc : ClassId) (c0 : Int32) (c1 : Int32) (c2 : Int32) (h0 : Heap) (n0 : Nat) (Z0 : n0 ≤ h0.size) (E_a1 : Exa Z h0 a1 "java/lang/String") (F_value_a1 : Fld Z h0 a1 "java/lang/String" "value" "[B" .null) (F_coder_a1 : Fld Z h0 a1 "java/lang/String" "coder" "B" (.int (0 : Int32))) (V_a2 : Arv Z h0 a2 kc .char (3 : Int32) [(.int c0), (.int c1), (.int c2)] (.int (0 : Int32))) (O0 : Old Z n0 h0) (S_COMPACT_STRINGS : Sta Z Z.heap "java/lang/String" "COMPACT_STRINGS" "Z" (.int cs)) (hcs : ¬ cs = (0 : Int32)) (hl0 : ¬ (255 : Int32) < c0) (hl1 : ¬ (255 : Int32) < c1) (hl2 : ¬ (255 : Int32) < c2) (g_a1 : n0 ≤ a1) :
    MetFree l (⟨"java/lang/String", "<init>", "([CIILjava/lang/Void;)V"⟩ : MethodName) (head1 (Jvm.Cond.code (⟨"java/lang/String", "<init>", "([CIILjava/lang/Void;)V"⟩ : MethodName) jdk_42_method_149_code 6 none :: ws) ({ frames := 2, cells := 1, slots := 3, locals := 35 } : Room)) (fun a U => a = #[(.ref a1), (.ref a2), (.int (0 : Int32)), (.int (3 : Int32)), .null] ∧ Z.Warmed39 U.vm ∧ U.heap = h0) (fun _ _ _ _ _ => True) (fun _ U o U' => ∃ rv Lq, o = .returned rv ∧ Q_rmSi4_3 Z a1 a2 cs kc c0 c1 c2 h0 n0 rv U'.heap Lq ∧ FrameEnd U o U' Lq ({ frames := 2, cells := 1, slots := 3, locals := 35 } : Room).cells ({ frames := 2, cells := 1, slots := 3, locals := 35 } : Room).slots) := by
  refine MetFree.of_bodySF (plainFor_of_name pn_7) hisR ?_
  intro p e s m args below meth c s₁ Bd hml0 hP hK
  obtain ⟨rfl, hZ, hh⟩ := hP
  have hx := Bd.exec
  have hby := Bd.bytes
  have hml : c.maxLocals = 6 := hml0
  have hown : s.vm.findClass "java/lang/String" = some m.cls := findClass_of_methodNamed Bd.named
  have hnm := (name_of_methodNamed Bd.named Bd.method).1
  have X0 : Stand p l e ({ frames := 2, cells := 1, slots := 3, locals := 35 } : Room) s m #[(.ref a1), (.ref a2), (.int (0 : Int32)), (.int (3 : Int32)), .null] below meth c s₁ [] 0 0 := Stand.of_body Bd
  have e0 : s₁.heap = h0 := by rw [← hh, Bd.state]; rfl
  have N0 := Fr.nil n0
  refine of_go (ef_rmSi4_3 m a1 a2) ?_
  refine Go.step (T' := s₁) (f' := (mkF m 1 #[.val (.ref a1), .val (.ref a2), .val (.int (0 : Int32)), .val (.int (3 : Int32)), .val .null, .unset] [(.ref a1)])) (fun _ k => XS.aloadN X0.here hx rfl (hb hby d7_0) rfl rfl k) ?_
  obtain ⟨T1, X1, e1, st1⟩ := initO X0 hx hZ hown (hw _ (List.mem_of_getElem? (i := 19) rfl)) (hw _ (List.mem_of_getElem? (i := 20) rfl)) (hw _ (List.mem_of_getElem? (i := 21) rfl)) e0 (g := (mkF m 1 #[.val (.ref a1), .val (.ref a2), .val (.int (0 : Int32)), .val (.int (3 : Int32)), .val .null, .unset] [(.ref a1)])) rfl (by rw [hml]; rfl) rfl (hb hby d7_1) (by decide) (W := 0) (by show 2 * 0 + _ ≤ _; exact Nat.le_of_eq rfl) (by decide)
  refine Go.step (T' := T1) (f' := (mkF m 4 #[.val (.ref a1), .val (.ref a2), .val (.int (0 : Int32)), .val (.int (3 : Int32)), .val .null, .unset] [])) st1 ?_
  refine Go.step (T' := T1) (f' := (mkF m 5 #[.val (.ref a1), .val (.ref a2), .val (.int (0 : Int32)), .val (.int (3 : Int32)), .val .null, .unset] [(.int (3 : Int32))])) (fun _ k => XS.iloadN X1.here hx rfl (hb hby d7_4) rfl k) ?_
  refine Go.step (T' := T1) (f' := (mkF m 27 #[.val (.ref a1), .val (.ref a2), .val (.int (0 : Int32)), .val (.int (3 : Int32)), .val .null, .unset] [])) (fun _ k => XS.ifYes X1.here hx rfl (pc0 := 5) (pc' := 27) rfl (hb hby d7_5) rfl ((if0 _ _).trans (feq (by decide : ¬ ((3 : Int32) = (0 : Int32)))).2) (by decide) (by decide) k) ?_
  obtain ⟨T2, X2, e2, st2⟩ := getS2 X1 hx hZ hown (host := "") (Or.inl (hw _ (List.mem_of_getElem? (i := 4) rfl))) Via.refl e1 (S_COMPACT_STRINGS.ext O0.2) (g := (mkF m 27 #[.val (.ref a1), .val (.ref a2), .val (.int (0 : Int32)), .val (.int (3 : Int32)), .val .null, .unset] [])) rfl (hb hby d7_27)
  refine Go.step (T' := T2) (f' := (mkF m 30 #[.val (.ref a1), .val (.ref a2), .val (.int (0 : Int32)), .val (.int (3 : Int32)), .val .null, .unset] [(.int cs)])) st2 ?_
  refine Go.step (T' := T2) (f' := (mkF m 33 #[.val (.ref a1), .val (.ref a2), .val (.int (0 : Int32)), .val (.int (3 : Int32)), .val .null, .unset] [])) (fun _ k => XS.ifNo X2.here hx rfl (hb hby d7_30) rfl ((if0 _ _).trans (feq hcs).1) k) ?_
  refine Go.step (T' := T2) (f' := (mkF m 34 #[.val (.ref a1), .val (.ref a2), .val (.int (0 : Int32)), .val (.int (3 : Int32)), .val .null, .unset] [(.ref a2)])) (fun _ k => XS.aloadN X2.here hx rfl (hb hby d7_33) rfl rfl k) ?_
  refine Go.step (T' := T2) (f' := (mkF m 35 #[.val (.ref a1), .val (.ref a2), .val (.int (0 : Int32)), .val (.int (3 : Int32)), .val .null, .unset] [(.int (0 : Int32)), (.ref a2)])) (fun _ k => XS.iloadN X2.here hx rfl (hb hby d7_34) rfl k) ?_
  refine Go.step (T' := T2) (f' := (mkF m 36 #[.val (.ref a1), .val (.ref a2), .val (.int (0 : Int32)), .val (.int (3 : Int32)), .val .null, .unset] [(.int (3 : Int32)), (.int (0 : Int32)), (.ref a2)])) (fun _ k => XS.iloadN X2.here hx rfl (hb hby d7_35) rfl k) ?_
  obtain ⟨_, _, ⟨T3, L3, kk3, nn3⟩, -, X3, ⟨Lc3, hQ3, lq3, yq3, zq3⟩, st3⟩ := Jvm.LawKit.callS X2 hx (y := (⟨"java/lang/StringUTF16", "compress", "([CII)[B"⟩ : MethodName)) hown (mvT hZ (hw _ (List.mem_of_getElem? (i := 34) rfl))) (mvT hZ (hw _ (List.mem_of_getElem? (i := 35) rfl))) (mvT hZ (hw _ (List.mem_of_getElem? (i := 36) rfl))) (mvT hZ (hw _ (List.mem_of_getElem? (i := 37) rfl))) (by decide) (backOf (W := 0) (rmCpB3 l Z a0 hw [] a2 kc c0 c1 c2 h0 n0 Z0 V_a2 hl0 hl1 hl2) hZ (hw _ (List.mem_of_getElem? (i := 37) rfl)) (hw _ (List.mem_of_getElem? (i := 36) rfl)) (by decide) (by decide)) (g := (mkF m 36 #[.val (.ref a1), .val (.ref a2), .val (.int (0 : Int32)), .val (.int (3 : Int32)), .val .null, .unset] [(.int (3 : Int32)), (.int (0 : Int32)), (.ref a2)])) rfl (by rw [hml]; rfl) (argsL := [(.ref a2), (.int (0 : Int32)), (.int (3 : Int32))]) (rest := []) (lenOf pd_1 rfl) rfl (by show 2 * 0 + _ ≤ _; exact Nat.le_of_eq rfl) (hb hby d7_36) (fun _ _ => ⟨rfl, e2, (by decide : 0 + 1 ≤ _), (by decide : 0 + 3 ≤ _)⟩)
  dsimp only [Pt.U, Pt.locs, Pt.cells, Pt.slots] at X3 lq3 yq3 zq3 st3 hQ3
  subst yq3 zq3
  obtain ⟨b_3, kb_3, rfl, Nq3, Kq3, r3_0, r3_1⟩ := hQ3
  have N3 : Fr n0 L3 := by rw [lq3]; exact Fr.app N0 Nq3
  have g_b_3 : n0 ≤ b_3 := Nat.le_trans Z0 r3_0
  have sz_b_3 : h0.size ≤ b_3 := Nat.le_trans (Keep.refl h0 [a1]).1 r3_0
  have Z4 : n0 ≤ T3.heap.size := Nat.le_trans Z0 Kq3.1
  have O4 : Old Z n0 T3.heap := O0.keep Kq3 all0
  have K4 : Keep h0 T3.heap [a1] := (Keep.refl h0 [a1]).trans Kq3 all0
  refine Go.step (T' := T3) (f' := (mkF m 39 #[.val (.ref a1), .val (.ref a2), .val (.int (0 : Int32)), .val (.int (3 : Int32)), .val .null, .unset] [(.ref b_3)])) st3 ?_
  refine Go.step (T' := T3) (f' := (mkF m 41 #[.val (.ref a1), .val (.ref a2), .val (.int (0 : Int32)), .val (.int (3 : Int32)), .val .null, .val (.ref b_3)] [])) (fun _ k => XS.astore X3.here hx rfl (hb hby d7_39) rfl rfl (l' := #[.val (.ref a1), .val (.ref a2), .val (.int (0 : Int32)), .val (.int (3 : Int32)), .val .null, .val (.ref b_3)]) rfl k) ?_
  refine Go.step (T' := T3) (f' := (mkF m 42 #[.val (.ref a1), .val (.ref a2), .val (.int (0 : Int32)), .val (.int (3 : Int32)), .val .null, .val (.ref b_3)] [(.ref a1)])) (fun _ k => XS.aloadN X3.here hx rfl (hb hby d7_41) rfl rfl k) ?_
  refine Go.step (T' := T3) (f' := (mkF m 44 #[.val (.ref a1), .val (.ref a2), .val (.int (0 : Int32)), .val (.int (3 : Int32)), .val .null, .val (.ref b_3)] [(.ref b_3), (.ref a1)])) (fun _ k => XS.aload X3.here hx rfl (hb hby d7_42) rfl rfl k) ?_
  refine Go.step (T' := T3) (f' := (mkF m 45 #[.val (.ref a1), .val (.ref a2), .val (.int (0 : Int32)), .val (.int (3 : Int32)), .val .null, .val (.ref b_3)] [(.int (3 : Int32)), (.ref b_3), (.ref a1)])) (fun _ k => XS.iloadN X3.here hx rfl (hb hby d7_44) rfl k) ?_
  obtain ⟨_, _, ⟨T5, L5, kk5, nn5⟩, -, X5, ⟨Lc5, hQ5, lq5, yq5, zq5⟩, st5⟩ := Jvm.LawKit.callS X3 hx (y := (⟨"java/lang/StringUTF16", "coderFromArrayLen", "([BI)B"⟩ : MethodName)) hown (mvT hZ (hw _ (List.mem_of_getElem? (i := 41) rfl))) (mvT hZ (hw _ (List.mem_of_getElem? (i := 42) rfl))) (mvT hZ (hw _ (List.mem_of_getElem? (i := 36) rfl))) (mvT hZ (hw _ (List.mem_of_getElem? (i := 43) rfl))) (by decide) (backOf (W := 1) (rmCfl3 l Z a0 hw [] b_3 kb_3 [(.int (c0.toInt8.toInt32)), (.int (c1.toInt8.toInt32)), (.int (c2.toInt8.toInt32))] T3.heap n0 Z4 r3_1) hZ (hw _ (List.mem_of_getElem? (i := 43) rfl)) (hw _ (List.mem_of_getElem? (i := 36) rfl)) (by decide) (by decide)) (g := (mkF m 45 #[.val (.ref a1), .val (.ref a2), .val (.int (0 : Int32)), .val (.int (3 : Int32)), .val .null, .val (.ref b_3)] [(.int (3 : Int32)), (.ref b_3), (.ref a1)])) rfl (by rw [hml]; rfl) (argsL := [(.ref b_3), (.int (3 : Int32))]) (rest := [(.ref a1)]) (lenOf pd_2 rfl) rfl (by show 2 * 0 + _ ≤ _; exact Nat.le_of_eq rfl) (hb hby d7_45) (fun _ _ => ⟨rfl, rfl, (by decide : 1 + 0 ≤ _), (by decide : 3 + 0 ≤ _)⟩)
  dsimp only [Pt.U, Pt.locs, Pt.cells, Pt.slots] at X5 lq5 yq5 zq5 st5 hQ5
  subst yq5 zq5
  obtain ⟨rfl, Nq5, eh5⟩ := hQ5
  have N5 : Fr n0 L5 := by rw [lq5]; exact Fr.app N3 Nq5
  refine Go.step (T' := T5) (f' := (mkF m 48 #[.val (.ref a1), .val (.ref a2), .val (.int (0 : Int32)), .val (.int (3 : Int32)), .val .null, .val (.ref b_3)] [(.int (0 : Int32)), (.ref a1)])) st5 ?_
  have q6 : Fld Z T3.heap a1 "java/lang/String" "coder" "B" (.int (0 : Int32)) := (F_coder_a1.keep Kq3 nin0)
  have q7 : Exa Z T3.heap a1 "java/lang/String" := (E_a1.keep Kq3)
  obtain ⟨T8, h8, X8, e8, W8, st8⟩ := putFN X5 hx hZ hown (hw _ (List.mem_of_getElem? (i := 24) rfl)) Via.refl eh5 q6 q7 (Or.inr ⟨(hw _ (List.mem_of_getElem? (i := 25) rfl)), rfl, hnm⟩) (hw _ (List.mem_of_getElem? (i := 10) rfl)) (ty := .byte) (v := .int (0 : Int32)) (v' := .int (0 : Int32)) (by decide) rfl (by decide) (g := (mkF m 48 #[.val (.ref a1), .val (.ref a2), .val (.int (0 : Int32)), .val (.int (3 : Int32)), .val .null, .val (.ref b_3)] [(.int (0 : Int32)), (.ref a1)])) rfl rfl (hb hby d7_48)
  have N8 := Fr.snoc X8 N5 g_a1
  have Z9 : n0 ≤ h8.size := Nat.le_trans Z4 (Keep.of_wr W8).1
  have O9 : Old Z n0 h8 := O4.wr W8 g_a1
  have K9 : Keep h0 h8 [a1] := K4.wr W8 (Or.inl (List.mem_of_getElem? (i := 0) rfl))
  have Fw8 := q6.same W8
  refine Go.step (T' := T8) (f' := (mkF m 51 #[.val (.ref a1), .val (.ref a2), .val (.int (0 : Int32)), .val (.int (3 : Int32)), .val .null, .val (.ref b_3)] [])) st8 ?_
  refine Go.step (T' := T8) (f' := (mkF m 52 #[.val (.ref a1), .val (.ref a2), .val (.int (0 : Int32)), .val (.int (3 : Int32)), .val .null, .val (.ref b_3)] [(.ref a1)])) (fun _ k => XS.aloadN X8.here hx rfl (hb hby d7_51) rfl rfl k) ?_
  refine Go.step (T' := T8) (f' := (mkF m 54 #[.val (.ref a1), .val (.ref a2), .val (.int (0 : Int32)), .val (.int (3 : Int32)), .val .null, .val (.ref b_3)] [(.ref b_3), (.ref a1)])) (fun _ k => XS.aload X8.here hx rfl (hb hby d7_52) rfl rfl k) ?_
  have q10 : Fld Z h8 a1 "java/lang/String" "value" "[B" .null := ((F_value_a1.keep Kq3 nin0).other W8 (Or.inr (slot_ne (Or.inr (hw _ (List.mem_of_getElem? (i := 23) rfl))) (Or.inr (hw _ (List.mem_of_getElem? (i := 25) rfl))) (by decide) (t := (.array .byte)) (t' := .byte) (by decide) (by decide))))
  have q11 : Exa Z h8 a1 "java/lang/String" := (q7.wr W8)
  obtain ⟨T12, h12, X12, e12, W12, st12⟩ := putF X8 hx hZ hown (host := "") (Or.inl (hw _ (List.mem_of_getElem? (i := 22) rfl))) Via.refl e8 q10 q11 (Or.inr ⟨(hw _ (List.mem_of_getElem? (i := 23) rfl)), rfl, hnm⟩) (hw _ (List.mem_of_getElem? (i := 10) rfl)) (ty := (.array .byte)) (by decide) rfl rfl (g := (mkF m 54 #[.val (.ref a1), .val (.ref a2), .val (.int (0 : Int32)), .val (.int (3 : Int32)), .val .null, .val (.ref b_3)] [(.ref b_3), (.ref a1)])) rfl rfl (hb hby d7_54)
  have N12 := Fr.snoc X12 N8 g_a1
  have Z13 : n0 ≤ h12.size := Nat.le_trans Z9 (Keep.of_wr W12).1
  have O13 : Old Z n0 h12 := O9.wr W12 g_a1
  have K13 : Keep h0 h12 [a1] := K9.wr W12 (Or.inl (List.mem_of_getElem? (i := 0) rfl))
  have Fw12 := q10.same W12
  refine Go.step (T' := T12) (f' := (mkF m 57 #[.val (.ref a1), .val (.ref a2), .val (.int (0 : Int32)), .val (.int (3 : Int32)), .val .null, .val (.ref b_3)] [])) st12 ?_
  refine goV X12 hx Bd.returns Bd.notSynchronized (hb hby d7_57) ?_ (by decide) (by decide)
  show Q_rmSi4_3 Z a1 a2 cs kc c0 c1 c2 h0 n0 _ T12.heap _
  rw [e12]
  have q14 : Fld Z h12 a1 "java/lang/String" "coder" "B" (.int (0 : Int32)) := (Fw8.other W12 (Or.inr (slot_ne (Or.inr (hw _ (List.mem_of_getElem? (i := 25) rfl))) (Or.inr (hw _ (List.mem_of_getElem? (i := 23) rfl))) (by decide) (t := .byte) (t' := (.array .byte)) (by decide) (by decide))))
  have q15 : Arv Z h12 b_3 kb_3 .byte (3 : Int32) [(.int (c0.toInt8.toInt32)), (.int (c1.toInt8.toInt32)), (.int (c2.toInt8.toInt32))] (.int (0 : Int32)) := ((r3_1.other W8 (Ne.symm (Nat.ne_of_lt (Nat.lt_of_lt_of_le E_a1.lt r3_0)))).other W12 (Ne.symm (Nat.ne_of_lt (Nat.lt_of_lt_of_le E_a1.lt r3_0))))
  exact ⟨b_3, kb_3, rfl, N12, K13, sz_b_3, Fw12, q14, q15⟩
theorem ef_rmSi_3 (m : MethodId) (a1 : Addr) (a2 : Addr) : entryFrame m #[(.ref a1), (.ref a2)] 2 = mkF m 0 #[.val (.ref a1), .val (.ref a2)] [] := by first | (simp [entryFrame, mkF, argsToLocals, Value.category]; done) | rfl
def Q_rmSi_3 (Z : State) (a1 : Addr) (a2 : Addr) (cs : Int32) (kc : ClassId) (c0 : Int32) (c1 : Int32) (c2 : Int32) (h0 : Heap) (n0 : Nat) (rv : Option Value) (hq : Heap) (Lq : List Loc) : Prop := ∃ b : Addr, ∃ kb : ClassId, rv = none ∧ Fr n0 Lq ∧ Keep h0 hq [a1] ∧ h0.size ≤ b ∧ Fld Z hq a1 "java/lang/String" "value" "[B" (.ref b) ∧ Fld Z hq a1 "java/lang/String" "coder" "B" (.int (0 : Int32)) ∧ Arv Z hq b kb .byte (3 : Int32) [(.int (c0.toInt8.toInt32)), (.int (c1.toInt8.toInt32)), (.int (c2.toInt8.toInt32))] (.int (0 : Int32))
set_option maxRecDepth 65536 in
set_option maxHeartbeats 40000000 in
theorem rmSi_3 (l : Launch) (Z : State) (a0 : Array Value) (hw : ∀ d ∈ tables_1, d.before a0 Z = true) (ws : List Jvm.Cond) (a1 : Addr) (a2 : Addr) (cs : Int32) (kc : ClassId) (c0 : Int32) (c1 : Int32) (c2 : Int32) (h0 : Heap) (n0 : Nat) (Z0 : n0 ≤ h0.size) (E_a1 : Exa Z h0 a1 "java/lang/String") (F_value_a1 : Fld Z h0 a1 "java/lang/String" "value" "[B" .null) (F_coder_a1 : Fld Z h0 a1 "java/lang/String" "coder" "B" (.int (0 : Int32))) (V_a2 : Arv Z h0 a2 kc .char (3 : Int32) [(.int c0), (.int c1), (.int c2)] (.int (0 : Int32))) (O0 : Old Z n0 h0) (S_COMPACT_STRINGS : Sta Z Z.heap "java/lang/String" "COMPACT_STRINGS" "Z" (.int cs)) (hcs : ¬ cs = (0 : Int32)) (hl0 : ¬ (255 : Int32) < c0) (hl1 : ¬ (255 : Int32) < c1) (hl2 : ¬ (255 : Int32) < c2) (g_a1 : n0 ≤ a1) :
    MetFree l (⟨"java/lang/String", "<init>", "([C)V"⟩ : MethodName) (head1 (Jvm.Cond.code (⟨"java/lang/String", "<init>", "([C)V"⟩ : MethodName) jdk_42_method_3_code 2 none :: ws) ({ frames := 3, cells := 1, slots := 3, locals := 52 } : Room)) (fun a U => a = #[(.ref a1), (.ref a2)] ∧ Z.Warmed39 U.vm ∧ U.heap = h0) (fun _ _ _ _ _ => True) (fun _ U o U' => ∃ rv Lq, o = .returned rv ∧ Q_rmSi_3 Z a1 a2 cs kc c0 c1 c2 h0 n0 rv U'.heap Lq ∧ FrameEnd U o U' Lq ({ frames := 3, cells := 1, slots := 3, locals := 52 } : Room).cells ({ frames := 3, cells := 1, slots := 3, locals := 52 } : Room).slots) := by
  refine MetFree.of_bodySF (plainFor_of_name pn_7) hisR ?_
  intro p e s m args below meth c s₁ Bd hml0 hP hK
  obtain ⟨rfl, hZ, hh⟩ := hP
  have hx := Bd.exec
  have hby := Bd.bytes
  have hml : c.maxLocals = 2 := hml0
  have hown : s.vm.findClass "java/lang/String" = some m.cls := findClass_of_methodNamed Bd.named
  have hnm := (name_of_methodNamed Bd.named Bd.method).1
  have X0 : Stand p l e ({ frames := 3, cells := 1, slots := 3, locals := 52 } : Room) s m #[(.ref a1), (.ref a2)] below meth c s₁ [] 0 0 := Stand.of_body Bd
  have e0 : s₁.heap = h0 := by rw [← hh, Bd.state]; rfl
  have N0 := Fr.nil n0
  refine of_go (ef_rmSi_3 m a1 a2) ?_
  refine Go.step (T' := s₁) (f' := (mkF m 1 #[.val (.ref a1), .val (.ref a2)] [(.ref a1)])) (fun _ k => XS.aloadN X0.here hx rfl (hb hby d6_0) rfl rfl k) ?_
  refine Go.step (T' := s₁) (f' := (mkF m 2 #[.val (.ref a1), .val (.ref a2)] [(.ref a2), (.ref a1)])) (fun _ k => XS.aloadN X0.here hx rfl (hb hby d6_1) rfl rfl k) ?_
  refine Go.step (T' := s₁) (f' := (mkF m 3 #[.val (.ref a1), .val (.ref a2)] [(.int (0 : Int32)), (.ref a2), (.ref a1)])) (fun _ k => XS.iconst X0.here hx rfl (hb hby d6_2) k) ?_
  refine Go.step (T' := s₁) (f' := (mkF m 4 #[.val (.ref a1), .val (.ref a2)] [(.ref a2), (.int (0 : Int32)), (.ref a2), (.ref a1)])) (fun _ k => XS.aloadN X0.here hx rfl (hb hby d6_3) rfl rfl k) ?_
  obtain ⟨cl1, Ar1, qc1, Sz1, Nn1, Hs1, Gf1⟩ := id V_a2
  have hlen1 := X0.arraylength hx (by rw [e0]; exact Ar1.1) (State.isArrayOf_alike hZ.alike Ar1.2.1) (g := (mkF m 4 #[.val (.ref a1), .val (.ref a2)] [(.ref a2), (.int (0 : Int32)), (.ref a2), (.ref a1)])) rfl rfl (hb hby d6_4)
  rw [len_of Sz1 Nn1] at hlen1
  refine Go.step (T' := s₁) (f' := (mkF m 5 #[.val (.ref a1), .val (.ref a2)] [(.int (3 : Int32)), (.int (0 : Int32)), (.ref a2), (.ref a1)])) (fun _ k => hlen1 _ k) ?_
  refine Go.step (T' := s₁) (f' := (mkF m 6 #[.val (.ref a1), .val (.ref a2)] [.null, (.int (3 : Int32)), (.int (0 : Int32)), (.ref a2), (.ref a1)])) (fun _ k => XS.aconstNull X0.here hx rfl (hb hby d6_5) k) ?_
  obtain ⟨_, _, ⟨T2, L2, kk2, nn2⟩, -, X2, ⟨Lc2, hQ2, lq2, yq2, zq2⟩, st2⟩ := X0.specialBack hx (y := (⟨"java/lang/String", "<init>", "([CIILjava/lang/Void;)V"⟩ : MethodName)) rfl hown (mvT hZ (hw _ (List.mem_of_getElem? (i := 31) rfl))) (mvT hZ (hw _ (List.mem_of_getElem? (i := 32) rfl))) (mvT hZ (hw _ (List.mem_of_getElem? (i := 33) rfl))) (by decide) (backOf (W := 0) (rmSi4_3 l Z a0 hw [] a1 a2 cs kc c0 c1 c2 h0 n0 Z0 E_a1 F_value_a1 F_coder_a1 V_a2 O0 S_COMPACT_STRINGS hcs hl0 hl1 hl2 g_a1) hZ (hw _ (List.mem_of_getElem? (i := 33) rfl)) (hw _ (List.mem_of_getElem? (i := 2) rfl)) (by decide) (by decide)) (g := (mkF m 6 #[.val (.ref a1), .val (.ref a2)] [.null, (.int (3 : Int32)), (.int (0 : Int32)), (.ref a2), (.ref a1)])) rfl (by rw [hml]; rfl) (Steps.refl _) (a := a1) (argsL := [(.ref a2), (.int (0 : Int32)), (.int (3 : Int32)), .null]) (rest := []) (lenOf pd_3 rfl) rfl (by show 2 * 0 + _ ≤ _; exact Nat.le_of_eq rfl) (hb hby d6_6) (fun _ _ => ⟨rfl, e0, (by decide : 0 + 1 ≤ _), (by decide : 0 + 3 ≤ _)⟩)
  dsimp only [Pt.U, Pt.locs, Pt.cells, Pt.slots] at X2 lq2 yq2 zq2 st2 hQ2
  subst yq2 zq2
  obtain ⟨b_2, kb_2, rfl, Nq2, Kq2, r2_0, r2_1, r2_2, r2_3⟩ := hQ2
  have N2 : Fr n0 L2 := by rw [lq2]; exact Fr.app N0 Nq2
  have g_b_2 : n0 ≤ b_2 := Nat.le_trans Z0 r2_0
  have sz_b_2 : h0.size ≤ b_2 := Nat.le_trans (Keep.refl h0 [a1]).1 r2_0
  have Z3 : n0 ≤ T2.heap.size := Nat.le_trans Z0 Kq2.1
  have O3 : Old Z n0 T2.heap := O0.keep Kq2 (allS g_a1 all0)
  have K3 : Keep h0 T2.heap [a1] := (Keep.refl h0 [a1]).trans Kq2 (allS (Or.inl (List.mem_of_getElem? (i := 0) rfl)) all0)
  refine Go.step (T' := T2) (f' := (mkF m 9 #[.val (.ref a1), .val (.ref a2)] [])) (fun _ k => st2.trans k) ?_
  refine goV X2 hx Bd.returns Bd.notSynchronized (hb hby d6_9) ?_ (by decide) (by decide)
  show Q_rmSi_3 Z a1 a2 cs kc c0 c1 c2 h0 n0 _ T2.heap _
  exact ⟨b_2, kb_2, rfl, N2, K3, sz_b_2, r2_1, r2_2, r2_3⟩
theorem d2_0 : decode jdk_43_method_3_code 0 = .ok (.iload_n 0, 1) := by decide +kernel
theorem d2_1 : decode jdk_43_method_3_code 1 = .ok (.sipush 255, 3) := by decide +kernel
theorem d2_4 : decode jdk_43_method_3_code 4 = .ok (.if_icmp .gt 7, 3) := by decide +kernel
theorem d2_11 : decode jdk_43_method_3_code 11 = .ok (.iconst 0, 1) := by decide +kernel
theorem d2_12 : decode jdk_43_method_3_code 12 = .ok (.ireturn, 1) := by decide +kernel
theorem d2_7 : decode jdk_43_method_3_code 7 = .ok (.iconst 1, 1) := by decide +kernel
theorem d2_8 : decode jdk_43_method_3_code 8 = .ok (.goto 4, 3) := by decide +kernel
theorem pn_2 : plainName "java/lang/StringLatin1" = true := by first | (simp [plainName, overriddenIn]; done) | decide +kernel
theorem ef_rm2 (m : MethodId) (p1 : Int32) : entryFrame m #[(.int p1)] 1 = mkF m 0 #[.val (.int p1)] [] := by first | (simp [entryFrame, mkF, argsToLocals, Value.category]; done) | rfl
def Q_rm2 (Z : State) (p1 : Int32) (h0 : Heap) (n0 : Nat) (rv : Option Value) (hq : Heap) (Lq : List Loc) : Prop := rv = some (.int (own_ce p1)) ∧ Fr n0 Lq ∧ hq = h0
set_option maxRecDepth 65536 in
set_option maxHeartbeats 40000000 in
theorem rm2 (l : Launch) (Z : State) (a0 : Array Value) (hw : ∀ d ∈ tables_1, d.before a0 Z = true) (ws : List Jvm.Cond) (p1 : Int32) (h0 : Heap) (n0 : Nat) (Z0 : n0 ≤ h0.size) :
    MetFree l (⟨"java/lang/StringLatin1", "canEncode", "(C)Z"⟩ : MethodName) (head1 (Jvm.Cond.code (⟨"java/lang/StringLatin1", "canEncode", "(C)Z"⟩ : MethodName) jdk_43_method_3_code 1 (some .boolean) :: ws) ({ frames := 0, cells := 0, slots := 0, locals := 0 } : Room)) (fun a U => a = #[(.int p1)] ∧ Z.Warmed39 U.vm ∧ U.heap = h0) (fun _ _ _ _ _ => True) (fun _ U o U' => ∃ rv Lq, o = .returned rv ∧ Q_rm2 Z p1 h0 n0 rv U'.heap Lq ∧ FrameEnd U o U' Lq ({ frames := 0, cells := 0, slots := 0, locals := 0 } : Room).cells ({ frames := 0, cells := 0, slots := 0, locals := 0 } : Room).slots) := by
  refine MetFree.of_bodySF (plainFor_of_name pn_2) hisR ?_
  intro p e s m args below meth c s₁ Bd hml0 hP hK
  obtain ⟨rfl, hZ, hh⟩ := hP
  have hx := Bd.exec
  have hby := Bd.bytes
  have hml : c.maxLocals = 1 := hml0
  have hown : s.vm.findClass "java/lang/StringLatin1" = some m.cls := findClass_of_methodNamed Bd.named
  have hnm := (name_of_methodNamed Bd.named Bd.method).1
  have X0 : Stand p l e ({ frames := 0, cells := 0, slots := 0, locals := 0 } : Room) s m #[(.int p1)] below meth c s₁ [] 0 0 := Stand.of_body Bd
  have e0 : s₁.heap = h0 := by rw [← hh, Bd.state]; rfl
  have N0 := Fr.nil n0
  refine of_go (ef_rm2 m p1) ?_
  refine Go.step (T' := s₁) (f' := (mkF m 1 #[.val (.int p1)] [(.int p1)])) (fun _ k => XS.iloadN X0.here hx rfl (hb hby d2_0) rfl k) ?_
  refine Go.step (T' := s₁) (f' := (mkF m 4 #[.val (.int p1)] [(.int (255 : Int32)), (.int p1)])) (fun _ k => XS.sipush X0.here hx rfl (hb hby d2_1) k) ?_
  by_cases hc4 : (255 : Int32) < p1
  · refine Go.step (T' := s₁) (f' := (mkF m 11 #[.val (.int p1)] [])) (fun _ k => XS.icmpYes X0.here hx rfl (pc0 := 4) (pc' := 11) rfl (hb hby d2_4) rfl (tlt hc4).2.2.1 (by decide) (by decide) k) ?_
    refine Go.step (T' := s₁) (f' := (mkF m 12 #[.val (.int p1)] [(.int (0 : Int32))])) (fun _ k => XS.iconst X0.here hx rfl (hb hby d2_11) k) ?_
    refine goN X0 hx (t := .boolean) Bd.returns (by simp) Bd.notSynchronized (hb hby d2_12) ?_ (by decide) (by decide)
    show Q_rm2 Z p1 h0 n0 _ s₁.heap _
    rw [e0]
    exact ⟨by rw [own_ce0 (by simp only [Int32.lt_iff_toInt_lt, ← Int32.toInt_inj, Int32.reduceToInt] at hc4 <;> omega)]; rfl, N0, rfl⟩
  · refine Go.step (T' := s₁) (f' := (mkF m 7 #[.val (.int p1)] [])) (fun _ k => XS.icmpNo X0.here hx rfl (hb hby d2_4) rfl (flt hc4).2.2.1 k) ?_
    refine Go.step (T' := s₁) (f' := (mkF m 8 #[.val (.int p1)] [(.int (1 : Int32))])) (fun _ k => XS.iconst X0.here hx rfl (hb hby d2_7) k) ?_
    refine Go.step (T' := s₁) (f' := (mkF m 12 #[.val (.int p1)] [(.int (1 : Int32))])) (fun _ k => XS.goto X0.here hx rfl (pc0 := 8) (pc' := 12) rfl (hb hby d2_8) (by decide) (by decide) k) ?_
    refine goN X0 hx (t := .boolean) Bd.returns (by simp) Bd.notSynchronized (hb hby d2_12) ?_ (by decide) (by decide)
    show Q_rm2 Z p1 h0 n0 _ s₁.heap _
    rw [e0]
    exact ⟨by rw [own_ce1 (by simp only [Int32.lt_iff_toInt_lt, ← Int32.toInt_inj, Int32.reduceToInt] at hc4 <;> omega)]; rfl, N0, rfl⟩
theorem d3_0 : decode jdk_43_method_46_code 0 = .ok (.iconst 1, 1) := by decide +kernel
theorem d3_1 : decode jdk_43_method_46_code 1 = .ok (.newarray .byte, 2) := by decide +kernel
theorem d3_3 : decode jdk_43_method_46_code 3 = .ok (.dup, 1) := by decide +kernel
theorem d3_4 : decode jdk_43_method_46_code 4 = .ok (.iconst 0, 1) := by decide +kernel
theorem d3_5 : decode jdk_43_method_46_code 5 = .ok (.iload_n 0, 1) := by decide +kernel
theorem d3_6 : decode jdk_43_method_46_code 6 = .ok (.i2b, 1) := by decide +kernel
theorem d3_7 : decode jdk_43_method_46_code 7 = .ok (.bastore, 1) := by decide +kernel
theorem d3_8 : decode jdk_43_method_46_code 8 = .ok (.areturn, 1) := by decide +kernel
theorem ef_rm3 (m : MethodId) (p1 : Int32) : entryFrame m #[(.int p1)] 1 = mkF m 0 #[.val (.int p1)] [] := by first | (simp [entryFrame, mkF, argsToLocals, Value.category]; done) | rfl
def Q_rm3 (Z : State) (p1 : Int32) (h0 : Heap) (n0 : Nat) (rv : Option Value) (hq : Heap) (Lq : List Loc) : Prop := ∃ b : Addr, rv = some (.ref b) ∧ Fr n0 Lq ∧ Keep h0 hq [] ∧ h0.size ≤ b
set_option maxRecDepth 65536 in
set_option maxHeartbeats 40000000 in
theorem rm3 (l : Launch) (Z : State) (a0 : Array Value) (hw : ∀ d ∈ tables_1, d.before a0 Z = true) (ws : List Jvm.Cond) (p1 : Int32) (h0 : Heap) (n0 : Nat) (Z0 : n0 ≤ h0.size) :
    MetFree l (⟨"java/lang/StringLatin1", "toBytes", "(C)[B"⟩ : MethodName) (head1 (Jvm.Cond.code (⟨"java/lang/StringLatin1", "toBytes", "(C)[B"⟩ : MethodName) jdk_43_method_46_code 1 (some (.array .byte)) :: ws) ({ frames := 0, cells := 1, slots := 1, locals := 0 } : Room)) (fun a U => a = #[(.int p1)] ∧ Z.Warmed39 U.vm ∧ U.heap = h0) (fun _ _ _ _ _ => True) (fun _ U o U' => ∃ rv Lq, o = .returned rv ∧ Q_rm3 Z p1 h0 n0 rv U'.heap Lq ∧ FrameEnd U o U' Lq ({ frames := 0, cells := 1, slots := 1, locals := 0 } : Room).cells ({ frames := 0, cells := 1, slots := 1, locals := 0 } : Room).slots) := by
  refine MetFree.of_bodySF (plainFor_of_name pn_2) hisR ?_
  intro p e s m args below meth c s₁ Bd hml0 hP hK
  obtain ⟨rfl, hZ, hh⟩ := hP
  have hx := Bd.exec
  have hby := Bd.bytes
  have hml : c.maxLocals = 1 := hml0
  have hown : s.vm.findClass "java/lang/StringLatin1" = some m.cls := findClass_of_methodNamed Bd.named
  have hnm := (name_of_methodNamed Bd.named Bd.method).1
  have X0 : Stand p l e ({ frames := 0, cells := 1, slots := 1, locals := 0 } : Room) s m #[(.int p1)] below meth c s₁ [] 0 0 := Stand.of_body Bd
  have e0 : s₁.heap = h0 := by rw [← hh, Bd.state]; rfl
  have N0 := Fr.nil n0
  refine of_go (ef_rm3 m p1) ?_
  refine Go.step (T' := s₁) (f' := (mkF m 1 #[.val (.int p1)] [(.int (1 : Int32))])) (fun _ k => XS.iconst X0.here hx rfl (hb hby d3_0) k) ?_
  obtain ⟨T1, h1, k1, X1, e1, E1, A1, st1⟩ := newP X0 hx hZ (hw _ (List.mem_of_getElem? (i := 14) rfl)) e0 (g := (mkF m 1 #[.val (.int p1)] [(.int (1 : Int32))])) rfl (hb hby d3_1) rfl (by decide) (cap := 1) (by decide) (by decide) (by decide) (by decide)
  obtain ⟨b1, g1⟩ : ∃ z, z = h0.size := ⟨_, rfl⟩
  rw [← g1] at A1 st1
  have g_b1 : n0 ≤ b1 := Nat.le_trans Z0 (Nat.le_of_eq g1.symm)
  have sz_b1 : h0.size ≤ b1 := Nat.le_trans (Keep.refl h0 []).1 (Nat.le_of_eq g1.symm)
  have Z2 : n0 ≤ h1.size := Nat.le_trans Z0 E1.1
  have K2 : Keep h0 h1 [] := (Keep.refl h0 []).ext E1
  have V_b1 : Arv Z h1 b1 k1 .byte (1 : Int32) [(.int (0 : Int32))] (.int (0 : Int32)) := (Arv.new A1 (by decide)).pad (pad_rep [] (.int (0 : Int32)) 1)
  refine Go.step (T' := T1) (f' := (mkF m 3 #[.val (.int p1)] [(.ref b1)])) st1 ?_
  refine Go.step (T' := T1) (f' := (mkF m 4 #[.val (.int p1)] [(.ref b1), (.ref b1)])) (fun _ k => XS.dup X1.here hx rfl (hb hby d3_3) rfl rfl k) ?_
  refine Go.step (T' := T1) (f' := (mkF m 5 #[.val (.int p1)] [(.int (0 : Int32)), (.ref b1), (.ref b1)])) (fun _ k => XS.iconst X1.here hx rfl (hb hby d3_4) k) ?_
  refine Go.step (T' := T1) (f' := (mkF m 6 #[.val (.int p1)] [(.int p1), (.int (0 : Int32)), (.ref b1), (.ref b1)])) (fun _ k => XS.iloadN X1.here hx rfl (hb hby d3_5) rfl k) ?_
  refine Go.step (T' := T1) (f' := (mkF m 7 #[.val (.int p1)] [(.int (p1.toInt8.toInt32)), (.int (0 : Int32)), (.ref b1), (.ref b1)])) (fun _ k => XS.i2b X1.here hx rfl (hb hby d3_6) rfl k) ?_
  obtain ⟨cl3, Ar3, qc3, Sz3, Nn3, Hs3, Gf3⟩ := id V_b1
  have hin4 : ¬ ((0 : Int32) < 0 ∨ cl3.slots.size ≤ ((0 : Int32)).toNatClampNeg) := (inb_of Sz3 ⟨by decide, by decide⟩)
  obtain ⟨T4, h4, X4, e4, W4, st4⟩ := stB X1 hx hZ e1 Ar3 (j := (0 : Int32)) hin4 (g := (mkF m 7 #[.val (.int p1)] [(.int (p1.toInt8.toInt32)), (.int (0 : Int32)), (.ref b1), (.ref b1)])) rfl rfl (hb hby d3_7)
  have N4 := Fr.snoc X4 N0 g_b1
  have Z5 : n0 ≤ h4.size := Nat.le_trans Z2 (Keep.of_wr W4).1
  have K5 : Keep h0 h4 [] := K2.wr W4 (Or.inr sz_b1)
  have Va4 : Arv Z h4 b1 k1 .byte (1 : Int32) [(.int (nar .byte (p1.toInt8.toInt32)))] (.int (0 : Int32)) := Arv.set Ar3 qc3 Sz3 Nn3 Hs3 Gf3 (fits_nar_byte _) W4 0 rfl (Nat.le_of_ble_eq_true rfl)
  refine Go.step (T' := T4) (f' := (mkF m 8 #[.val (.int p1)] [(.ref b1)])) st4 ?_
  refine goA X4 hx Bd.returns rfl rfl Bd.notSynchronized (hb hby d3_8) ?_ (by decide) (by decide)
  show Q_rm3 Z p1 h0 n0 _ T4.heap _
  rw [e4]
  exact ⟨b1, rfl, N4, K5, sz_b1⟩
theorem d4_0 : decode jdk_42_method_151_code 0 = .ok (.aload_n 0, 1) := by decide +kernel
theorem d4_1 : decode jdk_42_method_151_code 1 = .ok (.invokespecial 1, 3) := by decide +kernel
theorem d4_4 : decode jdk_42_method_151_code 4 = .ok (.aload_n 0, 1) := by decide +kernel
theorem d4_5 : decode jdk_42_method_151_code 5 = .ok (.aload_n 1, 1) := by decide +kernel
theorem d4_6 : decode jdk_42_method_151_code 6 = .ok (.putfield 9, 3) := by decide +kernel
theorem d4_9 : decode jdk_42_method_151_code 9 = .ok (.aload_n 0, 1) := by decide +kernel
theorem d4_10 : decode jdk_42_method_151_code 10 = .ok (.iload_n 2, 1) := by decide +kernel
theorem d4_11 : decode jdk_42_method_151_code 11 = .ok (.putfield 15, 3) := by decide +kernel
theorem d4_14 : decode jdk_42_method_151_code 14 = .ok (.return_, 1) := by decide +kernel
theorem ef_rm4 (m : MethodId) (a1 : Addr) (a2 : Addr) (p3 : Int32) : entryFrame m #[(.ref a1), (.ref a2), (.int p3)] 3 = mkF m 0 #[.val (.ref a1), .val (.ref a2), .val (.int p3)] [] := by first | (simp [entryFrame, mkF, argsToLocals, Value.category]; done) | rfl
def Q_rm4 (Z : State) (a1 : Addr) (a2 : Addr) (p3 : Int32) (h0 : Heap) (n0 : Nat) (rv : Option Value) (hq : Heap) (Lq : List Loc) : Prop := rv = none ∧ Fr n0 Lq ∧ Keep h0 hq [a1]
set_option maxRecDepth 65536 in
set_option maxHeartbeats 40000000 in
theorem rm4 (l : Launch) (Z : State) (a0 : Array Value) (hw : ∀ d ∈ tables_1, d.before a0 Z = true) (ws : List Jvm.Cond) (a1 : Addr) (a2 : Addr) (p3 : Int32) (h0 : Heap) (n0 : Nat) (Z0 : n0 ≤ h0.size) (E_a1 : Exa Z h0 a1 "java/lang/String") (F_value_a1 : Fld Z h0 a1 "java/lang/String" "value" "[B" .null) (F_coder_a1 : Fld Z h0 a1 "java/lang/String" "coder" "B" (.int (0 : Int32))) (g_a1 : n0 ≤ a1) :
    MetFree l (⟨"java/lang/String", "<init>", "([BB)V"⟩ : MethodName) (head1 (Jvm.Cond.code (⟨"java/lang/String", "<init>", "([BB)V"⟩ : MethodName) jdk_42_method_151_code 3 none :: ws) ({ frames := 1, cells := 0, slots := 0, locals := 12 } : Room)) (fun a U => a = #[(.ref a1), (.ref a2), (.int p3)] ∧ Z.Warmed39 U.vm ∧ U.heap = h0) (fun _ _ _ _ _ => True) (fun _ U o U' => ∃ rv Lq, o = .returned rv ∧ Q_rm4 Z a1 a2 p3 h0 n0 rv U'.heap Lq ∧ FrameEnd U o U' Lq ({ frames := 1, cells := 0, slots := 0, locals := 12 } : Room).cells ({ frames := 1, cells := 0, slots := 0, locals := 12 } : Room).slots) := by
  refine MetFree.of_bodySF (plainFor_of_name pn_7) hisR ?_
  intro p e s m args below meth c s₁ Bd hml0 hP hK
  obtain ⟨rfl, hZ, hh⟩ := hP
  have hx := Bd.exec
  have hby := Bd.bytes
  have hml : c.maxLocals = 3 := hml0
  have hown : s.vm.findClass "java/lang/String" = some m.cls := findClass_of_methodNamed Bd.named
  have hnm := (name_of_methodNamed Bd.named Bd.method).1
  have X0 : Stand p l e ({ frames := 1, cells := 0, slots := 0, locals := 12 } : Room) s m #[(.ref a1), (.ref a2), (.int p3)] below meth c s₁ [] 0 0 := Stand.of_body Bd
  have e0 : s₁.heap = h0 := by rw [← hh, Bd.state]; rfl
  have N0 := Fr.nil n0
  refine of_go (ef_rm4 m a1 a2 p3) ?_
  refine Go.step (T' := s₁) (f' := (mkF m 1 #[.val (.ref a1), .val (.ref a2), .val (.int p3)] [(.ref a1)])) (fun _ k => XS.aloadN X0.here hx rfl (hb hby d4_0) rfl rfl k) ?_
  obtain ⟨T1, X1, e1, st1⟩ := initO X0 hx hZ hown (hw _ (List.mem_of_getElem? (i := 19) rfl)) (hw _ (List.mem_of_getElem? (i := 20) rfl)) (hw _ (List.mem_of_getElem? (i := 21) rfl)) e0 (g := (mkF m 1 #[.val (.ref a1), .val (.ref a2), .val (.int p3)] [(.ref a1)])) rfl (by rw [hml]; rfl) rfl (hb hby d4_1) (by decide) (W := 0) (by show 2 * 0 + _ ≤ _; exact Nat.le_of_eq rfl) (by decide)
  refine Go.step (T' := T1) (f' := (mkF m 4 #[.val (.ref a1), .val (.ref a2), .val (.int p3)] [])) st1 ?_
  refine Go.step (T' := T1) (f' := (mkF m 5 #[.val (.ref a1), .val (.ref a2), .val (.int p3)] [(.ref a1)])) (fun _ k => XS.aloadN X1.here hx rfl (hb hby d4_4) rfl rfl k) ?_
  refine Go.step (T' := T1) (f' := (mkF m 6 #[.val (.ref a1), .val (.ref a2), .val (.int p3)] [(.ref a2), (.ref a1)])) (fun _ k => XS.aloadN X1.here hx rfl (hb hby d4_5) rfl rfl k) ?_
  obtain ⟨T2, h2, X2, e2, W2, st2⟩ := putF X1 hx hZ hown (host := "") (Or.inl (hw _ (List.mem_of_getElem? (i := 22) rfl))) Via.refl e1 F_value_a1 E_a1 (Or.inr ⟨(hw _ (List.mem_of_getElem? (i := 23) rfl)), rfl, hnm⟩) (hw _ (List.mem_of_getElem? (i := 10) rfl)) (ty := (.array .byte)) (by decide) rfl rfl (g := (mkF m 6 #[.val (.ref a1), .val (.ref a2), .val (.int p3)] [(.ref a2), (.ref a1)])) rfl rfl (hb hby d4_6)
  have N2 := Fr.snoc X2 N0 g_a1
  have Z3 : n0 ≤ h2.size := Nat.le_trans Z0 (Keep.of_wr W2).1
  have K3 : Keep h0 h2 [a1] := (Keep.refl h0 [a1]).wr W2 (Or.inl (List.mem_of_getElem? (i := 0) rfl))
  have Fw2 := F_value_a1.same W2
  refine Go.step (T' := T2) (f' := (mkF m 9 #[.val (.ref a1), .val (.ref a2), .val (.int p3)] [])) st2 ?_
  refine Go.step (T' := T2) (f' := (mkF m 10 #[.val (.ref a1), .val (.ref a2), .val (.int p3)] [(.ref a1)])) (fun _ k => XS.aloadN X2.here hx rfl (hb hby d4_9) rfl rfl k) ?_
  refine Go.step (T' := T2) (f' := (mkF m 11 #[.val (.ref a1), .val (.ref a2), .val (.int p3)] [(.int p3), (.ref a1)])) (fun _ k => XS.iloadN X2.here hx rfl (hb hby d4_10) rfl k) ?_
  have q4 : Fld Z h2 a1 "java/lang/String" "coder" "B" (.int (0 : Int32)) := (F_coder_a1.other W2 (Or.inr (slot_ne (Or.inr (hw _ (List.mem_of_getElem? (i := 25) rfl))) (Or.inr (hw _ (List.mem_of_getElem? (i := 23) rfl))) (by decide) (t := .byte) (t' := (.array .byte)) (by decide) (by decide))))
  have q5 : Exa Z h2 a1 "java/lang/String" := (E_a1.wr W2)
  obtain ⟨T6, h6, X6, e6, W6, st6⟩ := putFN X2 hx hZ hown (hw _ (List.mem_of_getElem? (i := 24) rfl)) Via.refl e2 q4 q5 (Or.inr ⟨(hw _ (List.mem_of_getElem? (i := 25) rfl)), rfl, hnm⟩) (hw _ (List.mem_of_getElem? (i := 10) rfl)) (ty := .byte) (v := .int p3) (v' := .int (nar .byte p3)) (by decide) rfl (fits_nar_byte _) (g := (mkF m 11 #[.val (.ref a1), .val (.ref a2), .val (.int p3)] [(.int p3), (.ref a1)])) rfl rfl (hb hby d4_11)
  have N6 := Fr.snoc X6 N2 g_a1
  have Z7 : n0 ≤ h6.size := Nat.le_trans Z3 (Keep.of_wr W6).1
  have K7 : Keep h0 h6 [a1] := K3.wr W6 (Or.inl (List.mem_of_getElem? (i := 0) rfl))
  have Fw6 := q4.same W6
  refine Go.step (T' := T6) (f' := (mkF m 14 #[.val (.ref a1), .val (.ref a2), .val (.int p3)] [])) st6 ?_
  refine goV X6 hx Bd.returns Bd.notSynchronized (hb hby d4_14) ?_ (by decide) (by decide)
  show Q_rm4 Z a1 a2 p3 h0 n0 _ T6.heap _
  rw [e6]
  exact ⟨rfl, N6, K7⟩
theorem d1_0 : decode jdk_42_method_139_code 0 = .ok (.getstatic 38, 3) := by decide +kernel
theorem d1_3 : decode jdk_42_method_139_code 3 = .ok (.ifCond .eq 23, 3) := by decide +kernel
theorem d1_6 : decode jdk_42_method_139_code 6 = .ok (.iload_n 0, 1) := by decide +kernel
theorem d1_7 : decode jdk_42_method_139_code 7 = .ok (.invokestatic 1015, 3) := by decide +kernel
theorem pd_4 : parseMethodDescriptor "(C)Z" = some ⟨[.char], some .boolean⟩ := by decide +kernel
theorem d1_10 : decode jdk_42_method_139_code 10 = .ok (.ifCond .eq 16, 3) := by decide +kernel
theorem d1_13 : decode jdk_42_method_139_code 13 = .ok (.new 10, 3) := by decide +kernel
theorem d1_16 : decode jdk_42_method_139_code 16 = .ok (.dup, 1) := by decide +kernel
theorem d1_17 : decode jdk_42_method_139_code 17 = .ok (.iload_n 0, 1) := by decide +kernel
theorem d1_18 : decode jdk_42_method_139_code 18 = .ok (.invokestatic 1018, 3) := by decide +kernel
theorem pd_5 : parseMethodDescriptor "(C)[B" = some ⟨[.char], some (.array .byte)⟩ := by decide +kernel
theorem d1_21 : decode jdk_42_method_139_code 21 = .ok (.iconst 0, 1) := by decide +kernel
theorem d1_22 : decode jdk_42_method_139_code 22 = .ok (.invokespecial 209, 3) := by decide +kernel
theorem pd_6 : parseMethodDescriptor "([BB)V" = some ⟨[(.array .byte), .byte], none⟩ := by decide +kernel
theorem d1_25 : decode jdk_42_method_139_code 25 = .ok (.areturn, 1) := by decide +kernel
theorem ef_rm1 (m : MethodId) (p1 : Int32) : entryFrame m #[(.int p1)] 1 = mkF m 0 #[.val (.int p1)] [] := by first | (simp [entryFrame, mkF, argsToLocals, Value.category]; done) | rfl
def Q_rm1 (Z : State) (p1 : Int32) (cs : Int32) (h0 : Heap) (n0 : Nat) (rv : Option Value) (hq : Heap) (Lq : List Loc) : Prop := ∃ b : Addr, rv = some (.ref b) ∧ Fr n0 Lq ∧ Keep h0 hq [] ∧ h0.size ≤ b ∧ Exa Z hq b "java/lang/String"
set_option maxRecDepth 65536 in
set_option maxHeartbeats 40000000 in
theorem rm1 (l : Launch) (Z : State) (a0 : Array Value) (hw : ∀ d ∈ tables_1, d.before a0 Z = true) (ws : List Jvm.Cond) (p1 : Int32) (cs : Int32) (h0 : Heap) (n0 : Nat) (Z0 : n0 ≤ h0.size) (O0 : Old Z n0 h0) (S_COMPACT_STRINGS : Sta Z Z.heap "java/lang/String" "COMPACT_STRINGS" "Z" (.int cs)) (hcs : ¬ cs = (0 : Int32)) (hp : ¬ (255 : Int32) < p1) :
    MetFree l (⟨"java/lang/String", "valueOf", "(C)Ljava/lang/String;"⟩ : MethodName) (head1 (Jvm.Cond.code (⟨"java/lang/String", "valueOf", "(C)Ljava/lang/String;"⟩ : MethodName) jdk_42_method_139_code 1 (some (.object "java/lang/String")) :: ws) ({ frames := 2, cells := 2, slots := 5, locals := 27 } : Room)) (fun a U => a = #[(.int p1)] ∧ Z.Warmed39 U.vm ∧ U.heap = h0) (fun _ _ _ _ _ => True) (fun _ U o U' => ∃ rv Lq, o = .returned rv ∧ Q_rm1 Z p1 cs h0 n0 rv U'.heap Lq ∧ FrameEnd U o U' Lq ({ frames := 2, cells := 2, slots := 5, locals := 27 } : Room).cells ({ frames := 2, cells := 2, slots := 5, locals := 27 } : Room).slots) := by
  refine MetFree.of_bodySF (plainFor_of_name pn_7) hisR ?_
  intro p e s m args below meth c s₁ Bd hml0 hP hK
  obtain ⟨rfl, hZ, hh⟩ := hP
  have hx := Bd.exec
  have hby := Bd.bytes
  have hml : c.maxLocals = 1 := hml0
  have hown : s.vm.findClass "java/lang/String" = some m.cls := findClass_of_methodNamed Bd.named
  have hnm := (name_of_methodNamed Bd.named Bd.method).1
  have X0 : Stand p l e ({ frames := 2, cells := 2, slots := 5, locals := 27 } : Room) s m #[(.int p1)] below meth c s₁ [] 0 0 := Stand.of_body Bd
  have e0 : s₁.heap = h0 := by rw [← hh, Bd.state]; rfl
  have N0 := Fr.nil n0
  refine of_go (ef_rm1 m p1) ?_
  obtain ⟨T1, X1, e1, st1⟩ := getS2 X0 hx hZ hown (host := "") (Or.inl (hw _ (List.mem_of_getElem? (i := 4) rfl))) Via.refl e0 (S_COMPACT_STRINGS.ext O0.2) (g := (mkF m 0 #[.val (.int p1)] [])) rfl (hb hby d1_0)
  refine Go.step (T' := T1) (f' := (mkF m 3 #[.val (.int p1)] [(.int cs)])) st1 ?_
  refine Go.step (T' := T1) (f' := (mkF m 6 #[.val (.int p1)] [])) (fun _ k => XS.ifNo X1.here hx rfl (hb hby d1_3) rfl ((if0 _ _).trans (feq hcs).1) k) ?_
  refine Go.step (T' := T1) (f' := (mkF m 7 #[.val (.int p1)] [(.int p1)])) (fun _ k => XS.iloadN X1.here hx rfl (hb hby d1_6) rfl k) ?_
  obtain ⟨_, _, ⟨T2, L2, kk2, nn2⟩, -, X2, ⟨Lc2, hQ2, lq2, yq2, zq2⟩, st2⟩ := Jvm.LawKit.callS X1 hx (y := (⟨"java/lang/StringLatin1", "canEncode", "(C)Z"⟩ : MethodName)) hown (mvT hZ (hw _ (List.mem_of_getElem? (i := 5) rfl))) (mvT hZ (hw _ (List.mem_of_getElem? (i := 6) rfl))) (mvT hZ (hw _ (List.mem_of_getElem? (i := 7) rfl))) (mvT hZ (hw _ (List.mem_of_getElem? (i := 8) rfl))) (by decide) (backOf (W := 0) (rm2 l Z a0 hw [] p1 h0 n0 Z0 ) hZ (hw _ (List.mem_of_getElem? (i := 8) rfl)) (hw _ (List.mem_of_getElem? (i := 7) rfl)) (by decide) (by decide)) (g := (mkF m 7 #[.val (.int p1)] [(.int p1)])) rfl (by rw [hml]; rfl) (argsL := [(.int p1)]) (rest := []) (lenOf pd_4 rfl) rfl (by show 2 * 0 + _ ≤ _; exact Nat.le_of_eq rfl) (hb hby d1_7) (fun _ _ => ⟨rfl, e1, (by decide : 0 + 0 ≤ _), (by decide : 0 + 0 ≤ _)⟩)
  dsimp only [Pt.U, Pt.locs, Pt.cells, Pt.slots] at X2 lq2 yq2 zq2 st2 hQ2
  subst yq2 zq2
  obtain ⟨rfl, Nq2, eh2⟩ := hQ2
  have N2 : Fr n0 L2 := by rw [lq2]; exact Fr.app N0 Nq2
  refine Go.step (T' := T2) (f' := (mkF m 10 #[.val (.int p1)] [(.int (own_ce p1))])) st2 ?_
  refine Go.step (T' := T2) (f' := (mkF m 13 #[.val (.int p1)] [])) (fun _ k => XS.ifNo X2.here hx rfl (hb hby d1_10) rfl ((if0 _ _).trans (feq (by rw [own_ce1 (by simp only [Int32.lt_iff_toInt_lt, Int32.reduceToInt] at hp; omega)]; decide)).1) k) ?_
  obtain ⟨T3, h3, X3, e3, E3, A3, D3, -, st3⟩ := newO X2 hx hZ hown (hw _ (List.mem_of_getElem? (i := 9) rfl)) (hw _ (List.mem_of_getElem? (i := 10) rfl)) (hw _ (List.mem_of_getElem? (i := 2) rfl)) eh2 (g := (mkF m 13 #[.val (.int p1)] [])) rfl (hb hby d1_13) (by decide) (by decide)
  obtain ⟨b3, g3⟩ : ∃ z, z = h0.size := ⟨_, rfl⟩
  rw [← g3] at A3 D3 st3
  have g_b3 : n0 ≤ b3 := Nat.le_trans Z0 (Nat.le_of_eq g3.symm)
  have sz_b3 : h0.size ≤ b3 := Nat.le_trans (Keep.refl h0 []).1 (Nat.le_of_eq g3.symm)
  have Z4 : n0 ≤ h3.size := Nat.le_trans Z0 E3.1
  have O4 : Old Z n0 h3 := O0.ext E3
  have K4 : Keep h0 h3 [] := (Keep.refl h0 []).ext E3
  have F_value_b3 : Fld Z h3 b3 "java/lang/String" "value" "[B" .null := D3 (Or.inr (hw _ (List.mem_of_getElem? (i := 23) rfl))) (ty := (.array .byte)) (by decide)
  have F_coder_b3 : Fld Z h3 b3 "java/lang/String" "coder" "B" (.int (0 : Int32)) := D3 (Or.inr (hw _ (List.mem_of_getElem? (i := 25) rfl))) (ty := .byte) (by decide)
  refine Go.step (T' := T3) (f' := (mkF m 16 #[.val (.int p1)] [(.ref b3)])) st3 ?_
  refine Go.step (T' := T3) (f' := (mkF m 17 #[.val (.int p1)] [(.ref b3), (.ref b3)])) (fun _ k => XS.dup X3.here hx rfl (hb hby d1_16) rfl rfl k) ?_
  refine Go.step (T' := T3) (f' := (mkF m 18 #[.val (.int p1)] [(.int p1), (.ref b3), (.ref b3)])) (fun _ k => XS.iloadN X3.here hx rfl (hb hby d1_17) rfl k) ?_
  obtain ⟨_, _, ⟨T5, L5, kk5, nn5⟩, -, X5, ⟨Lc5, hQ5, lq5, yq5, zq5⟩, st5⟩ := Jvm.LawKit.callS X3 hx (y := (⟨"java/lang/StringLatin1", "toBytes", "(C)[B"⟩ : MethodName)) hown (mvT hZ (hw _ (List.mem_of_getElem? (i := 11) rfl))) (mvT hZ (hw _ (List.mem_of_getElem? (i := 12) rfl))) (mvT hZ (hw _ (List.mem_of_getElem? (i := 7) rfl))) (mvT hZ (hw _ (List.mem_of_getElem? (i := 13) rfl))) (by decide) (backOf (W := 2) (rm3 l Z a0 hw [] p1 h3 n0 Z4 ) hZ (hw _ (List.mem_of_getElem? (i := 13) rfl)) (hw _ (List.mem_of_getElem? (i := 7) rfl)) (by decide) (by decide)) (g := (mkF m 18 #[.val (.int p1)] [(.int p1), (.ref b3), (.ref b3)])) rfl (by rw [hml]; rfl) (argsL := [(.int p1)]) (rest := [(.ref b3), (.ref b3)]) (lenOf pd_5 rfl) rfl (by show 2 * 0 + _ ≤ _; exact Nat.le_of_eq rfl) (hb hby d1_18) (fun _ _ => ⟨rfl, e3, (by decide : 1 + 1 ≤ _), (by decide : 4 + 1 ≤ _)⟩)
  dsimp only [Pt.U, Pt.locs, Pt.cells, Pt.slots] at X5 lq5 yq5 zq5 st5 hQ5
  subst yq5 zq5
  obtain ⟨b_5, rfl, Nq5, Kq5, r5_0⟩ := hQ5
  have N5 : Fr n0 L5 := by rw [lq5]; exact Fr.app N2 Nq5
  have g_b_5 : n0 ≤ b_5 := Nat.le_trans Z4 r5_0
  have sz_b_5 : h0.size ≤ b_5 := Nat.le_trans K4.1 r5_0
  have Z6 : n0 ≤ T5.heap.size := Nat.le_trans Z4 Kq5.1
  have O6 : Old Z n0 T5.heap := O4.keep Kq5 all0
  have K6 : Keep h0 T5.heap [] := K4.trans Kq5 all0
  refine Go.step (T' := T5) (f' := (mkF m 21 #[.val (.int p1)] [(.ref b_5), (.ref b3), (.ref b3)])) st5 ?_
  refine Go.step (T' := T5) (f' := (mkF m 22 #[.val (.int p1)] [(.int (0 : Int32)), (.ref b_5), (.ref b3), (.ref b3)])) (fun _ k => XS.iconst X5.here hx rfl (hb hby d1_21) k) ?_
  have q8 : Exa Z T5.heap b3 "java/lang/String" := (A3.keep Kq5)
  have q9 : Fld Z T5.heap b3 "java/lang/String" "value" "[B" .null := (F_value_b3.keep Kq5 nin0)
  have q10 : Fld Z T5.heap b3 "java/lang/String" "coder" "B" (.int (0 : Int32)) := (F_coder_b3.keep Kq5 nin0)
  obtain ⟨_, _, ⟨T7, L7, kk7, nn7⟩, -, X7, ⟨Lc7, hQ7, lq7, yq7, zq7⟩, st7⟩ := X5.specialBack hx (y := (⟨"java/lang/String", "<init>", "([BB)V"⟩ : MethodName)) rfl hown (mvT hZ (hw _ (List.mem_of_getElem? (i := 15) rfl))) (mvT hZ (hw _ (List.mem_of_getElem? (i := 16) rfl))) (mvT hZ (hw _ (List.mem_of_getElem? (i := 18) rfl))) (by decide) (backOf (W := 1) (rm4 l Z a0 hw [] b3 b_5 (0 : Int32) T5.heap n0 Z6 q8 q9 q10 g_b3) hZ (hw _ (List.mem_of_getElem? (i := 18) rfl)) (hw _ (List.mem_of_getElem? (i := 2) rfl)) (by decide) (by decide)) (g := (mkF m 22 #[.val (.int p1)] [(.int (0 : Int32)), (.ref b_5), (.ref b3), (.ref b3)])) rfl (by rw [hml]; rfl) (Steps.refl _) (a := b3) (argsL := [(.ref b_5), (.int (0 : Int32))]) (rest := [(.ref b3)]) (lenOf pd_6 rfl) rfl (by show 2 * 0 + _ ≤ _; exact Nat.le_of_eq rfl) (hb hby d1_22) (fun _ _ => ⟨rfl, rfl, (by decide : 2 + 0 ≤ _), (by decide : 5 + 0 ≤ _)⟩)
  dsimp only [Pt.U, Pt.locs, Pt.cells, Pt.slots] at X7 lq7 yq7 zq7 st7 hQ7
  subst yq7 zq7
  obtain ⟨rfl, Nq7, Kq7⟩ := hQ7
  have N7 : Fr n0 L7 := by rw [lq7]; exact Fr.app N5 Nq7
  have Z11 : n0 ≤ T7.heap.size := Nat.le_trans Z6 Kq7.1
  have O11 : Old Z n0 T7.heap := O6.keep Kq7 (allS g_b3 all0)
  have K11 : Keep h0 T7.heap [] := K6.trans Kq7 (allS (Or.inr sz_b3) all0)
  refine Go.step (T' := T7) (f' := (mkF m 25 #[.val (.int p1)] [(.ref b3)])) (fun _ k => st7.trans k) ?_
  refine goA X7 hx Bd.returns rfl rfl Bd.notSynchronized (hb hby d1_25) ?_ (by decide) (by decide)
  show Q_rm1 Z p1 cs h0 n0 _ T7.heap _
  have q12 : Exa Z T7.heap b3 "java/lang/String" := (q8.keep Kq7)
  exact ⟨b3, rfl, N7, K11, sz_b3, q12⟩
theorem d11_0 : decode prog_49_method_1_code 0 = .ok (.aload_n 0, 1) := by decide +kernel
theorem d11_1 : decode prog_49_method_1_code 1 = .ok (.invokespecial 1, 3) := by decide +kernel
theorem d11_4 : decode prog_49_method_1_code 4 = .ok (.aload_n 0, 1) := by decide +kernel
theorem d11_5 : decode prog_49_method_1_code 5 = .ok (.bipush 8, 2) := by decide +kernel
theorem d11_7 : decode prog_49_method_1_code 7 = .ok (.newarray .int, 2) := by decide +kernel
theorem d11_9 : decode prog_49_method_1_code 9 = .ok (.putfield 9, 3) := by decide +kernel
theorem d11_12 : decode prog_49_method_1_code 12 = .ok (.aload_n 0, 1) := by decide +kernel
theorem d11_13 : decode prog_49_method_1_code 13 = .ok (.bipush 8, 2) := by decide +kernel
theorem d11_15 : decode prog_49_method_1_code 15 = .ok (.anewarray 13, 3) := by decide +kernel
theorem d11_18 : decode prog_49_method_1_code 18 = .ok (.putfield 15, 3) := by decide +kernel
theorem d11_21 : decode prog_49_method_1_code 21 = .ok (.aload_n 0, 1) := by decide +kernel
theorem d11_22 : decode prog_49_method_1_code 22 = .ok (.bipush 8, 2) := by decide +kernel
theorem d11_24 : decode prog_49_method_1_code 24 = .ok (.anewarray 13, 3) := by decide +kernel
theorem d11_27 : decode prog_49_method_1_code 27 = .ok (.putfield 19, 3) := by decide +kernel
theorem d11_30 : decode prog_49_method_1_code 30 = .ok (.return_, 1) := by decide +kernel
theorem pn_11 : plainName "com/example/fondskit/fondskit/xml/BoundAttributes" = true := by first | (simp [plainName, overriddenIn]; done) | decide +kernel
theorem ef_rm11 (m : MethodId) (a1 : Addr) : entryFrame m #[(.ref a1)] 1 = mkF m 0 #[.val (.ref a1)] [] := by first | (simp [entryFrame, mkF, argsToLocals, Value.category]; done) | rfl
def Q_rm11 (Z : State) (a1 : Addr) (h0 : Heap) (n0 : Nat) (rv : Option Value) (hq : Heap) (Lq : List Loc) : Prop := ∃ i : Addr, ∃ n : Addr, ∃ l1 : Addr, ∃ ki : ClassId, ∃ kn : ClassId, ∃ kl : ClassId, rv = none ∧ Fr n0 Lq ∧ Keep h0 hq [a1] ∧ h0.size ≤ i ∧ h0.size ≤ n ∧ h0.size ≤ l1 ∧ i ≠ n ∧ i ≠ l1 ∧ n ≠ l1 ∧ Ovr Z kn "java/lang/String" ∧ Ovr Z kl "java/lang/String" ∧ Fld Z hq a1 "com/example/fondskit/fondskit/xml/BoundAttributes" "parsed" "Lorg/xml/sax/Attributes;" .null ∧ Fld Z hq a1 "com/example/fondskit/fondskit/xml/BoundAttributes" "indexes" "[I" (.ref i) ∧ Fld Z hq a1 "com/example/fondskit/fondskit/xml/BoundAttributes" "namespaces" "[Ljava/lang/String;" (.ref n) ∧ Fld Z hq a1 "com/example/fondskit/fondskit/xml/BoundAttributes" "localNames" "[Ljava/lang/String;" (.ref l1) ∧ Fld Z hq a1 "com/example/fondskit/fondskit/xml/BoundAttributes" "length" "I" (.int (0 : Int32)) ∧ Arv Z hq i ki .int (8 : Int32) [(.int (0 : Int32)), (.int (0 : Int32)), (.int (0 : Int32)), (.int (0 : Int32)), (.int (0 : Int32)), (.int (0 : Int32)), (.int (0 : Int32)), (.int (0 : Int32))] (.int (0 : Int32)) ∧ Arv Z hq n kn (.object "java/lang/String") (8 : Int32) [.null, .null, .null, .null, .null, .null, .null, .null] .null ∧ Arv Z hq l1 kl (.object "java/lang/String") (8 : Int32) [.null, .null, .null, .null, .null, .null, .null, .null] .null
set_option maxRecDepth 65536 in
set_option maxHeartbeats 40000000 in
theorem rm11 (l : Launch) (Z : State) (a0 : Array Value) (hw : ∀ d ∈ tables_1, d.before a0 Z = true) (ws : List Jvm.Cond) (a1 : Addr) (h0 : Heap) (n0 : Nat) (Z0 : n0 ≤ h0.size) (E_a1 : Exa Z h0 a1 "com/example/fondskit/fondskit/xml/BoundAttributes") (F_indexes_a1 : Fld Z h0 a1 "com/example/fondskit/fondskit/xml/BoundAttributes" "indexes" "[I" .null) (F_namespaces_a1 : Fld Z h0 a1 "com/example/fondskit/fondskit/xml/BoundAttributes" "namespaces" "[Ljava/lang/String;" .null) (F_localNames_a1 : Fld Z h0 a1 "com/example/fondskit/fondskit/xml/BoundAttributes" "localNames" "[Ljava/lang/String;" .null) (F_length_a1 : Fld Z h0 a1 "com/example/fondskit/fondskit/xml/BoundAttributes" "length" "I" (.int (0 : Int32))) (F_parsed_a1 : Fld Z h0 a1 "com/example/fondskit/fondskit/xml/BoundAttributes" "parsed" "Lorg/xml/sax/Attributes;" .null) (g_a1 : n0 ≤ a1) :
    MetFree l (⟨"com/example/fondskit/fondskit/xml/BoundAttributes", "<init>", "()V"⟩ : MethodName) (head1 (Jvm.Cond.code (⟨"com/example/fondskit/fondskit/xml/BoundAttributes", "<init>", "()V"⟩ : MethodName) prog_49_method_1_code 1 none :: ws) ({ frames := 1, cells := 3, slots := 24, locals := 12 } : Room)) (fun a U => a = #[(.ref a1)] ∧ Z.Warmed39 U.vm ∧ U.heap = h0) (fun _ _ _ _ _ => True) (fun _ U o U' => ∃ rv Lq, o = .returned rv ∧ Q_rm11 Z a1 h0 n0 rv U'.heap Lq ∧ FrameEnd U o U' Lq ({ frames := 1, cells := 3, slots := 24, locals := 12 } : Room).cells ({ frames := 1, cells := 3, slots := 24, locals := 12 } : Room).slots) := by
  refine MetFree.of_bodySF (plainFor_of_name pn_11) hisR ?_
  intro p e s m args below meth c s₁ Bd hml0 hP hK
  obtain ⟨rfl, hZ, hh⟩ := hP
  have hx := Bd.exec
  have hby := Bd.bytes
  have hml : c.maxLocals = 1 := hml0
  have hown : s.vm.findClass "com/example/fondskit/fondskit/xml/BoundAttributes" = some m.cls := findClass_of_methodNamed Bd.named
  have hnm := (name_of_methodNamed Bd.named Bd.method).1
  have X0 : Stand p l e ({ frames := 1, cells := 3, slots := 24, locals := 12 } : Room) s m #[(.ref a1)] below meth c s₁ [] 0 0 := Stand.of_body Bd
  have e0 : s₁.heap = h0 := by rw [← hh, Bd.state]; rfl
  have N0 := Fr.nil n0
  refine of_go (ef_rm11 m a1) ?_
  refine Go.step (T' := s₁) (f' := (mkF m 1 #[.val (.ref a1)] [(.ref a1)])) (fun _ k => XS.aloadN X0.here hx rfl (hb hby d11_0) rfl rfl k) ?_
  obtain ⟨T1, X1, e1, st1⟩ := initO X0 hx hZ hown (hw _ (List.mem_of_getElem? (i := 51) rfl)) (hw _ (List.mem_of_getElem? (i := 20) rfl)) (hw _ (List.mem_of_getElem? (i := 21) rfl)) e0 (g := (mkF m 1 #[.val (.ref a1)] [(.ref a1)])) rfl (by rw [hml]; rfl) rfl (hb hby d11_1) (by decide) (W := 0) (by show 2 * 0 + _ ≤ _; exact Nat.le_of_eq rfl) (by decide)
  refine Go.step (T' := T1) (f' := (mkF m 4 #[.val (.ref a1)] [])) st1 ?_
  refine Go.step (T' := T1) (f' := (mkF m 5 #[.val (.ref a1)] [(.ref a1)])) (fun _ k => XS.aloadN X1.here hx rfl (hb hby d11_4) rfl rfl k) ?_
  refine Go.step (T' := T1) (f' := (mkF m 7 #[.val (.ref a1)] [(.int (8 : Int32)), (.ref a1)])) (fun _ k => XS.bipush X1.here hx rfl (hb hby d11_5) k) ?_
  obtain ⟨T2, h2, k2, X2, e2, E2, A2, st2⟩ := newP X1 hx hZ (hw _ (List.mem_of_getElem? (i := 52) rfl)) e1 (g := (mkF m 7 #[.val (.ref a1)] [(.int (8 : Int32)), (.ref a1)])) rfl (hb hby d11_7) rfl (by decide) (cap := 8) (by decide) (by decide) (by decide) (by decide)
  obtain ⟨b2, g2⟩ : ∃ z, z = h0.size := ⟨_, rfl⟩
  rw [← g2] at A2 st2
  have g_b2 : n0 ≤ b2 := Nat.le_trans Z0 (Nat.le_of_eq g2.symm)
  have sz_b2 : h0.size ≤ b2 := Nat.le_trans (Keep.refl h0 [a1]).1 (Nat.le_of_eq g2.symm)
  have Z3 : n0 ≤ h2.size := Nat.le_trans Z0 E2.1
  have K3 : Keep h0 h2 [a1] := (Keep.refl h0 [a1]).ext E2
  have V_b2 : Arv Z h2 b2 k2 .int (8 : Int32) [(.int (0 : Int32)), (.int (0 : Int32)), (.int (0 : Int32)), (.int (0 : Int32)), (.int (0 : Int32)), (.int (0 : Int32)), (.int (0 : Int32)), (.int (0 : Int32))] (.int (0 : Int32)) := (Arv.new A2 (by decide)).pad (pad_rep [] (.int (0 : Int32)) 8)
  refine Go.step (T' := T2) (f' := (mkF m 9 #[.val (.ref a1)] [(.ref b2), (.ref a1)])) st2 ?_
  have q4 : Fld Z h2 a1 "com/example/fondskit/fondskit/xml/BoundAttributes" "indexes" "[I" .null := (F_indexes_a1.ext E2)
  have q5 : Exa Z h2 a1 "com/example/fondskit/fondskit/xml/BoundAttributes" := (E_a1.ext E2)
  obtain ⟨T6, h6, X6, e6, W6, st6⟩ := putF X2 hx hZ hown (host := "") (Or.inl (hw _ (List.mem_of_getElem? (i := 53) rfl))) Via.refl e2 q4 q5 (Or.inl (hw _ (List.mem_of_getElem? (i := 54) rfl))) (hw _ (List.mem_of_getElem? (i := 46) rfl)) (ty := (.array .int)) (by decide) rfl rfl (g := (mkF m 9 #[.val (.ref a1)] [(.ref b2), (.ref a1)])) rfl rfl (hb hby d11_9)
  have N6 := Fr.snoc X6 N0 g_a1
  have Z7 : n0 ≤ h6.size := Nat.le_trans Z3 (Keep.of_wr W6).1
  have K7 : Keep h0 h6 [a1] := K3.wr W6 (Or.inl (List.mem_of_getElem? (i := 0) rfl))
  have Fw6 := q4.same W6
  refine Go.step (T' := T6) (f' := (mkF m 12 #[.val (.ref a1)] [])) st6 ?_
  refine Go.step (T' := T6) (f' := (mkF m 13 #[.val (.ref a1)] [(.ref a1)])) (fun _ k => XS.aloadN X6.here hx rfl (hb hby d11_12) rfl rfl k) ?_
  refine Go.step (T' := T6) (f' := (mkF m 15 #[.val (.ref a1)] [(.int (8 : Int32)), (.ref a1)])) (fun _ k => XS.bipush X6.here hx rfl (hb hby d11_13) k) ?_
  obtain ⟨T8, h8, k8, X8, e8, E8, A8, O_8, st8⟩ := newR X6 hx hZ hown (hw _ (List.mem_of_getElem? (i := 55) rfl)) (hw _ (List.mem_of_getElem? (i := 44) rfl)) e6 (g := (mkF m 15 #[.val (.ref a1)] [(.int (8 : Int32)), (.ref a1)])) rfl (hb hby d11_15) rfl (by decide) (cap := 8) (by decide) (by decide) (by decide) (by decide)
  obtain ⟨b8, g8⟩ : ∃ z, z = h6.size := ⟨_, rfl⟩
  rw [← g8] at A8 st8
  have g_b8 : n0 ≤ b8 := Nat.le_trans Z7 (Nat.le_of_eq g8.symm)
  have sz_b8 : h0.size ≤ b8 := Nat.le_trans K7.1 (Nat.le_of_eq g8.symm)
  have Z9 : n0 ≤ h8.size := Nat.le_trans Z7 E8.1
  have K9 : Keep h0 h8 [a1] := K7.ext E8
  have V_b8 : Arv Z h8 b8 k8 (.object "java/lang/String") (8 : Int32) [.null, .null, .null, .null, .null, .null, .null, .null] .null := (Arv.new A8 (by decide)).pad (pad_rep [] .null 8)
  refine Go.step (T' := T8) (f' := (mkF m 18 #[.val (.ref a1)] [(.ref b8), (.ref a1)])) st8 ?_
  have q10 : Fld Z h8 a1 "com/example/fondskit/fondskit/xml/BoundAttributes" "namespaces" "[Ljava/lang/String;" .null := (((F_namespaces_a1.ext E2).other W6 (Or.inr (slot_ne (Or.inl (hw _ (List.mem_of_getElem? (i := 57) rfl))) (Or.inl (hw _ (List.mem_of_getElem? (i := 54) rfl))) (by decide) (t := (.array (.object "java/lang/String"))) (t' := (.array .int)) (by decide) (by decide)))).ext E8)
  have q11 : Exa Z h8 a1 "com/example/fondskit/fondskit/xml/BoundAttributes" := ((q5.wr W6).ext E8)
  obtain ⟨T12, h12, X12, e12, W12, st12⟩ := putF X8 hx hZ hown (host := "") (Or.inl (hw _ (List.mem_of_getElem? (i := 56) rfl))) Via.refl e8 q10 q11 (Or.inl (hw _ (List.mem_of_getElem? (i := 57) rfl))) (hw _ (List.mem_of_getElem? (i := 46) rfl)) (ty := (.array (.object "java/lang/String"))) (by decide) rfl rfl (g := (mkF m 18 #[.val (.ref a1)] [(.ref b8), (.ref a1)])) rfl rfl (hb hby d11_18)
  have N12 := Fr.snoc X12 N6 g_a1
  have Z13 : n0 ≤ h12.size := Nat.le_trans Z9 (Keep.of_wr W12).1
  have K13 : Keep h0 h12 [a1] := K9.wr W12 (Or.inl (List.mem_of_getElem? (i := 0) rfl))
  have Fw12 := q10.same W12
  refine Go.step (T' := T12) (f' := (mkF m 21 #[.val (.ref a1)] [])) st12 ?_
  refine Go.step (T' := T12) (f' := (mkF m 22 #[.val (.ref a1)] [(.ref a1)])) (fun _ k => XS.aloadN X12.here hx rfl (hb hby d11_21) rfl rfl k) ?_
  refine Go.step (T' := T12) (f' := (mkF m 24 #[.val (.ref a1)] [(.int (8 : Int32)), (.ref a1)])) (fun _ k => XS.bipush X12.here hx rfl (hb hby d11_22) k) ?_
  obtain ⟨T14, h14, k14, X14, e14, E14, A14, O_14, st14⟩ := newR X12 hx hZ hown (hw _ (List.mem_of_getElem? (i := 55) rfl)) (hw _ (List.mem_of_getElem? (i := 44) rfl)) e12 (g := (mkF m 24 #[.val (.ref a1)] [(.int (8 : Int32)), (.ref a1)])) rfl (hb hby d11_24) rfl (by decide) (cap := 8) (by decide) (by decide) (by decide) (by decide)
  obtain ⟨b14, g14⟩ : ∃ z, z = h12.size := ⟨_, rfl⟩
  rw [← g14] at A14 st14
  have g_b14 : n0 ≤ b14 := Nat.le_trans Z13 (Nat.le_of_eq g14.symm)
  have sz_b14 : h0.size ≤ b14 := Nat.le_trans K13.1 (Nat.le_of_eq g14.symm)
  have Z15 : n0 ≤ h14.size := Nat.le_trans Z13 E14.1
  have K15 : Keep h0 h14 [a1] := K13.ext E14
  have V_b14 : Arv Z h14 b14 k14 (.object "java/lang/String") (8 : Int32) [.null, .null, .null, .null, .null, .null, .null, .null] .null := (Arv.new A14 (by decide)).pad (pad_rep [] .null 8)
  refine Go.step (T' := T14) (f' := (mkF m 27 #[.val (.ref a1)] [(.ref b14), (.ref a1)])) st14 ?_
  have q16 : Fld Z h14 a1 "com/example/fondskit/fondskit/xml/BoundAttributes" "localNames" "[Ljava/lang/String;" .null := (((((F_localNames_a1.ext E2).other W6 (Or.inr (slot_ne (Or.inl (hw _ (List.mem_of_getElem? (i := 59) rfl))) (Or.inl (hw _ (List.mem_of_getElem? (i := 54) rfl))) (by decide) (t := (.array (.object "java/lang/String"))) (t' := (.array .int)) (by decide) (by decide)))).ext E8).other W12 (Or.inr (slot_ne (Or.inl (hw _ (List.mem_of_getElem? (i := 59) rfl))) (Or.inl (hw _ (List.mem_of_getElem? (i := 57) rfl))) (by decide) (t := (.array (.object "java/lang/String"))) (t' := (.array (.object "java/lang/String"))) (by decide) (by decide)))).ext E14)
  have q17 : Exa Z h14 a1 "com/example/fondskit/fondskit/xml/BoundAttributes" := ((q11.wr W12).ext E14)
  obtain ⟨T18, h18, X18, e18, W18, st18⟩ := putF X14 hx hZ hown (host := "") (Or.inl (hw _ (List.mem_of_getElem? (i := 58) rfl))) Via.refl e14 q16 q17 (Or.inl (hw _ (List.mem_of_getElem? (i := 59) rfl))) (hw _ (List.mem_of_getElem? (i := 46) rfl)) (ty := (.array (.object "java/lang/String"))) (by decide) rfl rfl (g := (mkF m 27 #[.val (.ref a1)] [(.ref b14), (.ref a1)])) rfl rfl (hb hby d11_27)
  have N18 := Fr.snoc X18 N12 g_a1
  have Z19 : n0 ≤ h18.size := Nat.le_trans Z15 (Keep.of_wr W18).1
  have K19 : Keep h0 h18 [a1] := K15.wr W18 (Or.inl (List.mem_of_getElem? (i := 0) rfl))
  have Fw18 := q16.same W18
  refine Go.step (T' := T18) (f' := (mkF m 30 #[.val (.ref a1)] [])) st18 ?_
  refine goV X18 hx Bd.returns Bd.notSynchronized (hb hby d11_30) ?_ (by decide) (by decide)
  show Q_rm11 Z a1 h0 n0 _ T18.heap _
  rw [e18]
  have q20 : Fld Z h18 a1 "com/example/fondskit/fondskit/xml/BoundAttributes" "parsed" "Lorg/xml/sax/Attributes;" .null := ((((((F_parsed_a1.ext E2).other W6 (Or.inr (slot_ne (Or.inl (hw _ (List.mem_of_getElem? (i := 73) rfl))) (Or.inl (hw _ (List.mem_of_getElem? (i := 54) rfl))) (by decide) (t := (.object "org/xml/sax/Attributes")) (t' := (.array .int)) (by decide) (by decide)))).ext E8).other W12 (Or.inr (slot_ne (Or.inl (hw _ (List.mem_of_getElem? (i := 73) rfl))) (Or.inl (hw _ (List.mem_of_getElem? (i := 57) rfl))) (by decide) (t := (.object "org/xml/sax/Attributes")) (t' := (.array (.object "java/lang/String"))) (by decide) (by decide)))).ext E14).other W18 (Or.inr (slot_ne (Or.inl (hw _ (List.mem_of_getElem? (i := 73) rfl))) (Or.inl (hw _ (List.mem_of_getElem? (i := 59) rfl))) (by decide) (t := (.object "org/xml/sax/Attributes")) (t' := (.array (.object "java/lang/String"))) (by decide) (by decide))))
  have q21 : Fld Z h18 a1 "com/example/fondskit/fondskit/xml/BoundAttributes" "indexes" "[I" (.ref b2) := ((((Fw6.ext E8).other W12 (Or.inr (slot_ne (Or.inl (hw _ (List.mem_of_getElem? (i := 54) rfl))) (Or.inl (hw _ (List.mem_of_getElem? (i := 57) rfl))) (by decide) (t := (.array .int)) (t' := (.array (.object "java/lang/String"))) (by decide) (by decide)))).ext E14).other W18 (Or.inr (slot_ne (Or.inl (hw _ (List.mem_of_getElem? (i := 54) rfl))) (Or.inl (hw _ (List.mem_of_getElem? (i := 59) rfl))) (by decide) (t := (.array .int)) (t' := (.array (.object "java/lang/String"))) (by decide) (by decide))))
  have q22 : Fld Z h18 a1 "com/example/fondskit/fondskit/xml/BoundAttributes" "namespaces" "[Ljava/lang/String;" (.ref b8) := ((Fw12.ext E14).other W18 (Or.inr (slot_ne (Or.inl (hw _ (List.mem_of_getElem? (i := 57) rfl))) (Or.inl (hw _ (List.mem_of_getElem? (i := 59) rfl))) (by decide) (t := (.array (.object "java/lang/String"))) (t' := (.array (.object "java/lang/String"))) (by decide) (by decide))))
  have q23 : Fld Z h18 a1 "com/example/fondskit/fondskit/xml/BoundAttributes" "length" "I" (.int (0 : Int32)) := ((((((F_length_a1.ext E2).other W6 (Or.inr (slot_ne (Or.inl (hw _ (List.mem_of_getElem? (i := 66) rfl))) (Or.inl (hw _ (List.mem_of_getElem? (i := 54) rfl))) (by decide) (t := .int) (t' := (.array .int)) (by decide) (by decide)))).ext E8).other W12 (Or.inr (slot_ne (Or.inl (hw _ (List.mem_of_getElem? (i := 66) rfl))) (Or.inl (hw _ (List.mem_of_getElem? (i := 57) rfl))) (by decide) (t := .int) (t' := (.array (.object "java/lang/String"))) (by decide) (by decide)))).ext E14).other W18 (Or.inr (slot_ne (Or.inl (hw _ (List.mem_of_getElem? (i := 66) rfl))) (Or.inl (hw _ (List.mem_of_getElem? (i := 59) rfl))) (by decide) (t := .int) (t' := (.array (.object "java/lang/String"))) (by decide) (by decide))))
  have q24 : Arv Z h18 b2 k2 .int (8 : Int32) [(.int (0 : Int32)), (.int (0 : Int32)), (.int (0 : Int32)), (.int (0 : Int32)), (.int (0 : Int32)), (.int (0 : Int32)), (.int (0 : Int32)), (.int (0 : Int32))] (.int (0 : Int32)) := (((((V_b2.other W6 (Ne.symm (Nat.ne_of_lt (Nat.lt_of_lt_of_le E_a1.lt (Nat.le_of_eq g2.symm))))).ext E8).other W12 (Ne.symm (Nat.ne_of_lt (Nat.lt_of_lt_of_le E_a1.lt (Nat.le_of_eq g2.symm))))).ext E14).other W18 (Ne.symm (Nat.ne_of_lt (Nat.lt_of_lt_of_le E_a1.lt (Nat.le_of_eq g2.symm)))))
  have q25 : Arv Z h18 b8 k8 (.object "java/lang/String") (8 : Int32) [.null, .null, .null, .null, .null, .null, .null, .null] .null := (((V_b8.other W12 (Ne.symm (Nat.ne_of_lt (Nat.lt_of_lt_of_le (q5.wr W6).lt (Nat.le_of_eq g8.symm))))).ext E14).other W18 (Ne.symm (Nat.ne_of_lt (Nat.lt_of_lt_of_le (q5.wr W6).lt (Nat.le_of_eq g8.symm)))))
  have q26 : Arv Z h18 b14 k14 (.object "java/lang/String") (8 : Int32) [.null, .null, .null, .null, .null, .null, .null, .null] .null := (V_b14.other W18 (Ne.symm (Nat.ne_of_lt (Nat.lt_of_lt_of_le (q11.wr W12).lt (Nat.le_of_eq g14.symm)))))
  exact ⟨b2, b8, b14, k2, k8, k14, rfl, N18, K19, sz_b2, sz_b8, sz_b14, (Nat.ne_of_lt (Nat.lt_of_lt_of_le (V_b2.other W6 (Ne.symm (Nat.ne_of_lt (Nat.lt_of_lt_of_le E_a1.lt (Nat.le_of_eq g2.symm))))).lt (Nat.le_of_eq g8.symm))), (Nat.ne_of_lt (Nat.lt_of_lt_of_le (((V_b2.other W6 (Ne.symm (Nat.ne_of_lt (Nat.lt_of_lt_of_le E_a1.lt (Nat.le_of_eq g2.symm))))).ext E8).other W12 (Ne.symm (Nat.ne_of_lt (Nat.lt_of_lt_of_le E_a1.lt (Nat.le_of_eq g2.symm))))).lt (Nat.le_of_eq g14.symm))), (Nat.ne_of_lt (Nat.lt_of_lt_of_le (V_b8.other W12 (Ne.symm (Nat.ne_of_lt (Nat.lt_of_lt_of_le (q5.wr W6).lt (Nat.le_of_eq g8.symm))))).lt (Nat.le_of_eq g14.symm))), O_8, O_14, q20, q21, q22, Fw18, q23, q24, q25, q26⟩
theorem d12_0 : decode prog_49_method_3_code 0 = .ok (.aload_n 0, 1) := by decide +kernel
theorem d12_1 : decode prog_49_method_3_code 1 = .ok (.getfield 26, 3) := by decide +kernel
theorem d12_4 : decode prog_49_method_3_code 4 = .ok (.aload_n 0, 1) := by decide +kernel
theorem d12_5 : decode prog_49_method_3_code 5 = .ok (.getfield 9, 3) := by decide +kernel
theorem d12_8 : decode prog_49_method_3_code 8 = .ok (.arraylength, 1) := by decide +kernel
theorem d12_9 : decode prog_49_method_3_code 9 = .ok (.if_icmp .ne 60, 3) := by decide +kernel
theorem d12_69 : decode prog_49_method_3_code 69 = .ok (.aload_n 0, 1) := by decide +kernel
theorem d12_70 : decode prog_49_method_3_code 70 = .ok (.getfield 9, 3) := by decide +kernel
theorem d12_73 : decode prog_49_method_3_code 73 = .ok (.aload_n 0, 1) := by decide +kernel
theorem d12_74 : decode prog_49_method_3_code 74 = .ok (.getfield 26, 3) := by decide +kernel
theorem d12_77 : decode prog_49_method_3_code 77 = .ok (.iload_n 1, 1) := by decide +kernel
theorem d12_78 : decode prog_49_method_3_code 78 = .ok (.iastore, 1) := by decide +kernel
theorem d12_79 : decode prog_49_method_3_code 79 = .ok (.aload_n 0, 1) := by decide +kernel
theorem d12_80 : decode prog_49_method_3_code 80 = .ok (.getfield 15, 3) := by decide +kernel
theorem d12_83 : decode prog_49_method_3_code 83 = .ok (.aload_n 0, 1) := by decide +kernel
theorem d12_84 : decode prog_49_method_3_code 84 = .ok (.getfield 26, 3) := by decide +kernel
theorem d12_87 : decode prog_49_method_3_code 87 = .ok (.aload_n 2, 1) := by decide +kernel
theorem d12_88 : decode prog_49_method_3_code 88 = .ok (.aastore, 1) := by decide +kernel
theorem d12_89 : decode prog_49_method_3_code 89 = .ok (.aload_n 0, 1) := by decide +kernel
theorem d12_90 : decode prog_49_method_3_code 90 = .ok (.getfield 19, 3) := by decide +kernel
theorem d12_93 : decode prog_49_method_3_code 93 = .ok (.aload_n 0, 1) := by decide +kernel
theorem d12_94 : decode prog_49_method_3_code 94 = .ok (.getfield 26, 3) := by decide +kernel
theorem d12_97 : decode prog_49_method_3_code 97 = .ok (.aload_n 3, 1) := by decide +kernel
theorem d12_98 : decode prog_49_method_3_code 98 = .ok (.aastore, 1) := by decide +kernel
theorem d12_99 : decode prog_49_method_3_code 99 = .ok (.aload_n 0, 1) := by decide +kernel
theorem d12_100 : decode prog_49_method_3_code 100 = .ok (.dup, 1) := by decide +kernel
theorem d12_101 : decode prog_49_method_3_code 101 = .ok (.getfield 26, 3) := by decide +kernel
theorem d12_104 : decode prog_49_method_3_code 104 = .ok (.iconst 1, 1) := by decide +kernel
theorem d12_105 : decode prog_49_method_3_code 105 = .ok (.iadd, 1) := by decide +kernel
theorem d12_106 : decode prog_49_method_3_code 106 = .ok (.putfield 26, 3) := by decide +kernel
theorem d12_109 : decode prog_49_method_3_code 109 = .ok (.return_, 1) := by decide +kernel
theorem ef_rmAdd0 (m : MethodId) (a1 : Addr) (p2 : Int32) (a3 : Addr) (a4 : Addr) : entryFrame m #[(.ref a1), (.int p2), (.ref a3), (.ref a4)] 4 = mkF m 0 #[.val (.ref a1), .val (.int p2), .val (.ref a3), .val (.ref a4)] [] := by first | (simp [entryFrame, mkF, argsToLocals, Value.category]; done) | rfl
def Q_rmAdd0 (Z : State) (a1 : Addr) (p2 : Int32) (a3 : Addr) (a4 : Addr) (i : Addr) (n : Addr) (l1 : Addr) (ki : ClassId) (kn : ClassId) (kl : ClassId) (w0 : Value) (w1 : Value) (w2 : Value) (w3 : Value) (w4 : Value) (w5 : Value) (w6 : Value) (w7 : Value) (x0 : Value) (x1 : Value) (x2 : Value) (x3 : Value) (x4 : Value) (x5 : Value) (x6 : Value) (x7 : Value) (y0 : Value) (y1 : Value) (y2 : Value) (y3 : Value) (y4 : Value) (y5 : Value) (y6 : Value) (y7 : Value) (h0 : Heap) (n0 : Nat) (rv : Option Value) (hq : Heap) (Lq : List Loc) : Prop := rv = none ∧ Fr n0 Lq ∧ Keep h0 hq [a1, i, n, l1] ∧ Fld Z hq a1 "com/example/fondskit/fondskit/xml/BoundAttributes" "parsed" "Lorg/xml/sax/Attributes;" .null ∧ Fld Z hq a1 "com/example/fondskit/fondskit/xml/BoundAttributes" "indexes" "[I" (.ref i) ∧ Fld Z hq a1 "com/example/fondskit/fondskit/xml/BoundAttributes" "namespaces" "[Ljava/lang/String;" (.ref n) ∧ Fld Z hq a1 "com/example/fondskit/fondskit/xml/BoundAttributes" "localNames" "[Ljava/lang/String;" (.ref l1) ∧ Fld Z hq a1 "com/example/fondskit/fondskit/xml/BoundAttributes" "length" "I" (.int (1 : Int32)) ∧ Arv Z hq i ki .int (8 : Int32) [(.int p2), w1, w2, w3, w4, w5, w6, w7] (.int (0 : Int32)) ∧ Arv Z hq n kn (.object "java/lang/String") (8 : Int32) [(.ref a3), x1, x2, x3, x4, x5, x6, x7] .null ∧ Arv Z hq l1 kl (.object "java/lang/String") (8 : Int32) [(.ref a4), y1, y2, y3, y4, y5, y6, y7] .null
set_option maxRecDepth 65536 in
set_option maxHeartbeats 40000000 in
theorem rmAdd0 (l : Launch) (Z : State) (a0 : Array Value) (hw : ∀ d ∈ tables_1, d.before a0 Z = true) (ws : List Jvm.Cond) (a1 : Addr) (p2 : Int32) (a3 : Addr) (a4 : Addr) (i : Addr) (n : Addr) (l1 : Addr) (ki : ClassId) (kn : ClassId) (kl : ClassId) (w0 : Value) (w1 : Value) (w2 : Value) (w3 : Value) (w4 : Value) (w5 : Value) (w6 : Value) (w7 : Value) (x0 : Value) (x1 : Value) (x2 : Value) (x3 : Value) (x4 : Value) (x5 : Value) (x6 : Value) (x7 : Value) (y0 : Value) (y1 : Value) (y2 : Value) (y3 : Value) (y4 : Value) (y5 : Value) (y6 : Value) (y7 : Value) (h0 : Heap) (n0 : Nat) (Z0 : n0 ≤ h0.size) (E_a1 : Exa Z h0 a1 "com/example/fondskit/fondskit/xml/BoundAttributes") (E_a3 : Exa Z h0 a3 "java/lang/String") (E_a4 : Exa Z h0 a4 "java/lang/String") (F_parsed_a1 : Fld Z h0 a1 "com/example/fondskit/fondskit/xml/BoundAttributes" "parsed" "Lorg/xml/sax/Attributes;" .null) (F_indexes_a1 : Fld Z h0 a1 "com/example/fondskit/fondskit/xml/BoundAttributes" "indexes" "[I" (.ref i)) (F_namespaces_a1 : Fld Z h0 a1 "com/example/fondskit/fondskit/xml/BoundAttributes" "namespaces" "[Ljava/lang/String;" (.ref n)) (F_localNames_a1 : Fld Z h0 a1 "com/example/fondskit/fondskit/xml/BoundAttributes" "localNames" "[Ljava/lang/String;" (.ref l1)) (F_length_a1 : Fld Z h0 a1 "com/example/fondskit/fondskit/xml/BoundAttributes" "length" "I" (.int (0 : Int32))) (V_i : Arv Z h0 i ki .int (8 : Int32) [w0, w1, w2, w3, w4, w5, w6, w7] (.int (0 : Int32))) (V_n : Arv Z h0 n kn (.object "java/lang/String") (8 : Int32) [x0, x1, x2, x3, x4, x5, x6, x7] .null) (V_l1 : Arv Z h0 l1 kl (.object "java/lang/String") (8 : Int32) [y0, y1, y2, y3, y4, y5, y6, y7] .null) (hia : i ≠ a1) (hna : n ≠ a1) (hla : l1 ≠ a1) (hin_ : i ≠ n) (hil : i ≠ l1) (hnl : n ≠ l1) (ovn : Ovr Z kn "java/lang/String") (ovl : Ovr Z kl "java/lang/String") (g_a1 : n0 ≤ a1) (g_i : n0 ≤ i) (g_n : n0 ≤ n) (g_l1 : n0 ≤ l1) :
    MetFree l (⟨"com/example/fondskit/fondskit/xml/BoundAttributes", "add", "(ILjava/lang/String;Ljava/lang/String;)V"⟩ : MethodName) (head1 (Jvm.Cond.code (⟨"com/example/fondskit/fondskit/xml/BoundAttributes", "add", "(ILjava/lang/String;Ljava/lang/String;)V"⟩ : MethodName) prog_49_method_3_code 4 none :: ws) ({ frames := 0, cells := 0, slots := 0, locals := 0 } : Room)) (fun a U => a = #[(.ref a1), (.int p2), (.ref a3), (.ref a4)] ∧ Z.Warmed39 U.vm ∧ U.heap = h0) (fun _ _ _ _ _ => True) (fun _ U o U' => ∃ rv Lq, o = .returned rv ∧ Q_rmAdd0 Z a1 p2 a3 a4 i n l1 ki kn kl w0 w1 w2 w3 w4 w5 w6 w7 x0 x1 x2 x3 x4 x5 x6 x7 y0 y1 y2 y3 y4 y5 y6 y7 h0 n0 rv U'.heap Lq ∧ FrameEnd U o U' Lq ({ frames := 0, cells := 0, slots := 0, locals := 0 } : Room).cells ({ frames := 0, cells := 0, slots := 0, locals := 0 } : Room).slots) := by
  refine MetFree.of_bodySF (plainFor_of_name pn_11) hisR ?_
  intro p e s m args below meth c s₁ Bd hml0 hP hK
  obtain ⟨rfl, hZ, hh⟩ := hP
  have hx := Bd.exec
  have hby := Bd.bytes
  have hml : c.maxLocals = 4 := hml0
  have hown : s.vm.findClass "com/example/fondskit/fondskit/xml/BoundAttributes" = some m.cls := findClass_of_methodNamed Bd.named
  have hnm := (name_of_methodNamed Bd.named Bd.method).1
  have X0 : Stand p l e ({ frames := 0, cells := 0, slots := 0, locals := 0 } : Room) s m #[(.ref a1), (.int p2), (.ref a3), (.ref a4)] below meth c s₁ [] 0 0 := Stand.of_body Bd
  have e0 : s₁.heap = h0 := by rw [← hh, Bd.state]; rfl
  have N0 := Fr.nil n0
  refine of_go (ef_rmAdd0 m a1 p2 a3 a4) ?_
  refine Go.step (T' := s₁) (f' := (mkF m 1 #[.val (.ref a1), .val (.int p2), .val (.ref a3), .val (.ref a4)] [(.ref a1)])) (fun _ k => XS.aloadN X0.here hx rfl (hb hby d12_0) rfl rfl k) ?_
  obtain ⟨T1, X1, e1, st1⟩ := getF X0 hx hZ hown (host := "") (Or.inl (hw _ (List.mem_of_getElem? (i := 65) rfl))) Via.refl e0 F_length_a1 (g := (mkF m 1 #[.val (.ref a1), .val (.int p2), .val (.ref a3), .val (.ref a4)] [(.ref a1)])) rfl rfl (hb hby d12_1)
  refine Go.step (T' := T1) (f' := (mkF m 4 #[.val (.ref a1), .val (.int p2), .val (.ref a3), .val (.ref a4)] [(.int (0 : Int32))])) st1 ?_
  refine Go.step (T' := T1) (f' := (mkF m 5 #[.val (.ref a1), .val (.int p2), .val (.ref a3), .val (.ref a4)] [(.ref a1), (.int (0 : Int32))])) (fun _ k => XS.aloadN X1.here hx rfl (hb hby d12_4) rfl rfl k) ?_
  obtain ⟨T2, X2, e2, st2⟩ := getF X1 hx hZ hown (host := "") (Or.inl (hw _ (List.mem_of_getElem? (i := 53) rfl))) Via.refl e1 F_indexes_a1 (g := (mkF m 5 #[.val (.ref a1), .val (.int p2), .val (.ref a3), .val (.ref a4)] [(.ref a1), (.int (0 : Int32))])) rfl rfl (hb hby d12_5)
  refine Go.step (T' := T2) (f' := (mkF m 8 #[.val (.ref a1), .val (.int p2), .val (.ref a3), .val (.ref a4)] [(.ref i), (.int (0 : Int32))])) st2 ?_
  obtain ⟨cl3, Ar3, qc3, Sz3, Nn3, Hs3, Gf3⟩ := id V_i
  have hlen3 := X2.arraylength hx (by rw [e2]; exact Ar3.1) (State.isArrayOf_alike hZ.alike Ar3.2.1) (g := (mkF m 8 #[.val (.ref a1), .val (.int p2), .val (.ref a3), .val (.ref a4)] [(.ref i), (.int (0 : Int32))])) rfl rfl (hb hby d12_8)
  rw [len_of Sz3 Nn3] at hlen3
  refine Go.step (T' := T2) (f' := (mkF m 9 #[.val (.ref a1), .val (.int p2), .val (.ref a3), .val (.ref a4)] [(.int (8 : Int32)), (.int (0 : Int32))])) (fun _ k => hlen3 _ k) ?_
  refine Go.step (T' := T2) (f' := (mkF m 69 #[.val (.ref a1), .val (.int p2), .val (.ref a3), .val (.ref a4)] [])) (fun _ k => XS.icmpYes X2.here hx rfl (pc0 := 9) (pc' := 69) rfl (hb hby d12_9) rfl (feq (by decide : ¬ ((0 : Int32) = (8 : Int32)))).2 (by decide) (by decide) k) ?_
  refine Go.step (T' := T2) (f' := (mkF m 70 #[.val (.ref a1), .val (.int p2), .val (.ref a3), .val (.ref a4)] [(.ref a1)])) (fun _ k => XS.aloadN X2.here hx rfl (hb hby d12_69) rfl rfl k) ?_
  obtain ⟨T4, X4, e4, st4⟩ := getF X2 hx hZ hown (host := "") (Or.inl (hw _ (List.mem_of_getElem? (i := 53) rfl))) Via.refl e2 F_indexes_a1 (g := (mkF m 70 #[.val (.ref a1), .val (.int p2), .val (.ref a3), .val (.ref a4)] [(.ref a1)])) rfl rfl (hb hby d12_70)
  refine Go.step (T' := T4) (f' := (mkF m 73 #[.val (.ref a1), .val (.int p2), .val (.ref a3), .val (.ref a4)] [(.ref i)])) st4 ?_
  refine Go.step (T' := T4) (f' := (mkF m 74 #[.val (.ref a1), .val (.int p2), .val (.ref a3), .val (.ref a4)] [(.ref a1), (.ref i)])) (fun _ k => XS.aloadN X4.here hx rfl (hb hby d12_73) rfl rfl k) ?_
  obtain ⟨T5, X5, e5, st5⟩ := getF X4 hx hZ hown (host := "") (Or.inl (hw _ (List.mem_of_getElem? (i := 65) rfl))) Via.refl e4 F_length_a1 (g := (mkF m 74 #[.val (.ref a1), .val (.int p2), .val (.ref a3), .val (.ref a4)] [(.ref a1), (.ref i)])) rfl rfl (hb hby d12_74)
  refine Go.step (T' := T5) (f' := (mkF m 77 #[.val (.ref a1), .val (.int p2), .val (.ref a3), .val (.ref a4)] [(.int (0 : Int32)), (.ref i)])) st5 ?_
  refine Go.step (T' := T5) (f' := (mkF m 78 #[.val (.ref a1), .val (.int p2), .val (.ref a3), .val (.ref a4)] [(.int p2), (.int (0 : Int32)), (.ref i)])) (fun _ k => XS.iloadN X5.here hx rfl (hb hby d12_77) rfl k) ?_
  obtain ⟨cl6, Ar6, qc6, Sz6, Nn6, Hs6, Gf6⟩ := id V_i
  have hin7 : ¬ ((0 : Int32) < 0 ∨ cl6.slots.size ≤ ((0 : Int32)).toNatClampNeg) := (inb_of Sz6 ⟨by decide, by decide⟩)
  obtain ⟨T7, h7, X7, e7, W7, st7⟩ := stI X5 hx hZ e5 Ar6 (j := (0 : Int32)) hin7 (g := (mkF m 78 #[.val (.ref a1), .val (.int p2), .val (.ref a3), .val (.ref a4)] [(.int p2), (.int (0 : Int32)), (.ref i)])) rfl rfl (hb hby d12_78)
  have N7 := Fr.snoc X7 N0 g_i
  have Z8 : n0 ≤ h7.size := Nat.le_trans Z0 (Keep.of_wr W7).1
  have K8 : Keep h0 h7 [a1, i, n, l1] := (Keep.refl h0 [a1, i, n, l1]).wr W7 (Or.inl (List.mem_of_getElem? (i := 1) rfl))
  have Va7 : Arv Z h7 i ki .int (8 : Int32) [(.int p2), w1, w2, w3, w4, w5, w6, w7] (.int (0 : Int32)) := Arv.set Ar6 qc6 Sz6 Nn6 Hs6 Gf6 rfl W7 0 rfl (Nat.le_of_ble_eq_true rfl)
  refine Go.step (T' := T7) (f' := (mkF m 79 #[.val (.ref a1), .val (.int p2), .val (.ref a3), .val (.ref a4)] [])) st7 ?_
  refine Go.step (T' := T7) (f' := (mkF m 80 #[.val (.ref a1), .val (.int p2), .val (.ref a3), .val (.ref a4)] [(.ref a1)])) (fun _ k => XS.aloadN X7.here hx rfl (hb hby d12_79) rfl rfl k) ?_
  have q9 : Fld Z h7 a1 "com/example/fondskit/fondskit/xml/BoundAttributes" "namespaces" "[Ljava/lang/String;" (.ref n) := (F_namespaces_a1.other W7 (Or.inl (Ne.symm hia)))
  obtain ⟨T10, X10, e10, st10⟩ := getF X7 hx hZ hown (host := "") (Or.inl (hw _ (List.mem_of_getElem? (i := 56) rfl))) Via.refl e7 q9 (g := (mkF m 80 #[.val (.ref a1), .val (.int p2), .val (.ref a3), .val (.ref a4)] [(.ref a1)])) rfl rfl (hb hby d12_80)
  refine Go.step (T' := T10) (f' := (mkF m 83 #[.val (.ref a1), .val (.int p2), .val (.ref a3), .val (.ref a4)] [(.ref n)])) st10 ?_
  refine Go.step (T' := T10) (f' := (mkF m 84 #[.val (.ref a1), .val (.int p2), .val (.ref a3), .val (.ref a4)] [(.ref a1), (.ref n)])) (fun _ k => XS.aloadN X10.here hx rfl (hb hby d12_83) rfl rfl k) ?_
  have q11 : Fld Z h7 a1 "com/example/fondskit/fondskit/xml/BoundAttributes" "length" "I" (.int (0 : Int32)) := (F_length_a1.other W7 (Or.inl (Ne.symm hia)))
  obtain ⟨T12, X12, e12, st12⟩ := getF X10 hx hZ hown (host := "") (Or.inl (hw _ (List.mem_of_getElem? (i := 65) rfl))) Via.refl e10 q11 (g := (mkF m 84 #[.val (.ref a1), .val (.int p2), .val (.ref a3), .val (.ref a4)] [(.ref a1), (.ref n)])) rfl rfl (hb hby d12_84)
  refine Go.step (T' := T12) (f' := (mkF m 87 #[.val (.ref a1), .val (.int p2), .val (.ref a3), .val (.ref a4)] [(.int (0 : Int32)), (.ref n)])) st12 ?_
  refine Go.step (T' := T12) (f' := (mkF m 88 #[.val (.ref a1), .val (.int p2), .val (.ref a3), .val (.ref a4)] [(.ref a3), (.int (0 : Int32)), (.ref n)])) (fun _ k => XS.aloadN X12.here hx rfl (hb hby d12_87) rfl rfl k) ?_
  have q13 : Arv Z h7 n kn (.object "java/lang/String") (8 : Int32) [x0, x1, x2, x3, x4, x5, x6, x7] .null := (V_n.other W7 (Ne.symm hin_))
  obtain ⟨cl14, Ar14, qc14, Sz14, Nn14, Hs14, Gf14⟩ := id q13
  have q16 : Exa Z h7 a3 "java/lang/String" := (E_a3.wr W7)
  have hin15 : ¬ ((0 : Int32) < 0 ∨ cl14.slots.size ≤ ((0 : Int32)).toNatClampNeg) := (inb_of Sz14 ⟨by decide, by decide⟩)
  obtain ⟨T15, h15, X15, e15, W15, st15⟩ := stR X12 hx hZ e12 Ar14 (j := (0 : Int32)) hin15 rfl (Sto.ofV Ar14 qc14 ovn (Ins.self q16)) (g := (mkF m 88 #[.val (.ref a1), .val (.int p2), .val (.ref a3), .val (.ref a4)] [(.ref a3), (.int (0 : Int32)), (.ref n)])) rfl rfl (hb hby d12_88)
  have N15 := Fr.snoc X15 N7 g_n
  have Z17 : n0 ≤ h15.size := Nat.le_trans Z8 (Keep.of_wr W15).1
  have K17 : Keep h0 h15 [a1, i, n, l1] := K8.wr W15 (Or.inl (List.mem_of_getElem? (i := 2) rfl))
  have Va15 : Arv Z h15 n kn (.object "java/lang/String") (8 : Int32) [(.ref a3), x1, x2, x3, x4, x5, x6, x7] .null := Arv.set Ar14 qc14 Sz14 Nn14 Hs14 Gf14 rfl W15 0 rfl (Nat.le_of_ble_eq_true rfl)
  refine Go.step (T' := T15) (f' := (mkF m 89 #[.val (.ref a1), .val (.int p2), .val (.ref a3), .val (.ref a4)] [])) st15 ?_
  refine Go.step (T' := T15) (f' := (mkF m 90 #[.val (.ref a1), .val (.int p2), .val (.ref a3), .val (.ref a4)] [(.ref a1)])) (fun _ k => XS.aloadN X15.here hx rfl (hb hby d12_89) rfl rfl k) ?_
  have q18 : Fld Z h15 a1 "com/example/fondskit/fondskit/xml/BoundAttributes" "localNames" "[Ljava/lang/String;" (.ref l1) := ((F_localNames_a1.other W7 (Or.inl (Ne.symm hia))).other W15 (Or.inl (Ne.symm hna)))
  obtain ⟨T19, X19, e19, st19⟩ := getF X15 hx hZ hown (host := "") (Or.inl (hw _ (List.mem_of_getElem? (i := 58) rfl))) Via.refl e15 q18 (g := (mkF m 90 #[.val (.ref a1), .val (.int p2), .val (.ref a3), .val (.ref a4)] [(.ref a1)])) rfl rfl (hb hby d12_90)
  refine Go.step (T' := T19) (f' := (mkF m 93 #[.val (.ref a1), .val (.int p2), .val (.ref a3), .val (.ref a4)] [(.ref l1)])) st19 ?_
  refine Go.step (T' := T19) (f' := (mkF m 94 #[.val (.ref a1), .val (.int p2), .val (.ref a3), .val (.ref a4)] [(.ref a1), (.ref l1)])) (fun _ k => XS.aloadN X19.here hx rfl (hb hby d12_93) rfl rfl k) ?_
  have q20 : Fld Z h15 a1 "com/example/fondskit/fondskit/xml/BoundAttributes" "length" "I" (.int (0 : Int32)) := (q11.other W15 (Or.inl (Ne.symm hna)))
  obtain ⟨T21, X21, e21, st21⟩ := getF X19 hx hZ hown (host := "") (Or.inl (hw _ (List.mem_of_getElem? (i := 65) rfl))) Via.refl e19 q20 (g := (mkF m 94 #[.val (.ref a1), .val (.int p2), .val (.ref a3), .val (.ref a4)] [(.ref a1), (.ref l1)])) rfl rfl (hb hby d12_94)
  refine Go.step (T' := T21) (f' := (mkF m 97 #[.val (.ref a1), .val (.int p2), .val (.ref a3), .val (.ref a4)] [(.int (0 : Int32)), (.ref l1)])) st21 ?_
  refine Go.step (T' := T21) (f' := (mkF m 98 #[.val (.ref a1), .val (.int p2), .val (.ref a3), .val (.ref a4)] [(.ref a4), (.int (0 : Int32)), (.ref l1)])) (fun _ k => XS.aloadN X21.here hx rfl (hb hby d12_97) rfl rfl k) ?_
  have q22 : Arv Z h15 l1 kl (.object "java/lang/String") (8 : Int32) [y0, y1, y2, y3, y4, y5, y6, y7] .null := ((V_l1.other W7 (Ne.symm hil)).other W15 (Ne.symm hnl))
  obtain ⟨cl23, Ar23, qc23, Sz23, Nn23, Hs23, Gf23⟩ := id q22
  have q25 : Exa Z h15 a4 "java/lang/String" := ((E_a4.wr W7).wr W15)
  have hin24 : ¬ ((0 : Int32) < 0 ∨ cl23.slots.size ≤ ((0 : Int32)).toNatClampNeg) := (inb_of Sz23 ⟨by decide, by decide⟩)
  obtain ⟨T24, h24, X24, e24, W24, st24⟩ := stR X21 hx hZ e21 Ar23 (j := (0 : Int32)) hin24 rfl (Sto.ofV Ar23 qc23 ovl (Ins.self q25)) (g := (mkF m 98 #[.val (.ref a1), .val (.int p2), .val (.ref a3), .val (.ref a4)] [(.ref a4), (.int (0 : Int32)), (.ref l1)])) rfl rfl (hb hby d12_98)
  have N24 := Fr.snoc X24 N15 g_l1
  have Z26 : n0 ≤ h24.size := Nat.le_trans Z17 (Keep.of_wr W24).1
  have K26 : Keep h0 h24 [a1, i, n, l1] := K17.wr W24 (Or.inl (List.mem_of_getElem? (i := 3) rfl))
  have Va24 : Arv Z h24 l1 kl (.object "java/lang/String") (8 : Int32) [(.ref a4), y1, y2, y3, y4, y5, y6, y7] .null := Arv.set Ar23 qc23 Sz23 Nn23 Hs23 Gf23 rfl W24 0 rfl (Nat.le_of_ble_eq_true rfl)
  refine Go.step (T' := T24) (f' := (mkF m 99 #[.val (.ref a1), .val (.int p2), .val (.ref a3), .val (.ref a4)] [])) st24 ?_
  refine Go.step (T' := T24) (f' := (mkF m 100 #[.val (.ref a1), .val (.int p2), .val (.ref a3), .val (.ref a4)] [(.ref a1)])) (fun _ k => XS.aloadN X24.here hx rfl (hb hby d12_99) rfl rfl k) ?_
  refine Go.step (T' := T24) (f' := (mkF m 101 #[.val (.ref a1), .val (.int p2), .val (.ref a3), .val (.ref a4)] [(.ref a1), (.ref a1)])) (fun _ k => XS.dup X24.here hx rfl (hb hby d12_100) rfl rfl k) ?_
  have q27 : Fld Z h24 a1 "com/example/fondskit/fondskit/xml/BoundAttributes" "length" "I" (.int (0 : Int32)) := (q20.other W24 (Or.inl (Ne.symm hla)))
  obtain ⟨T28, X28, e28, st28⟩ := getF X24 hx hZ hown (host := "") (Or.inl (hw _ (List.mem_of_getElem? (i := 65) rfl))) Via.refl e24 q27 (g := (mkF m 101 #[.val (.ref a1), .val (.int p2), .val (.ref a3), .val (.ref a4)] [(.ref a1), (.ref a1)])) rfl rfl (hb hby d12_101)
  refine Go.step (T' := T28) (f' := (mkF m 104 #[.val (.ref a1), .val (.int p2), .val (.ref a3), .val (.ref a4)] [(.int (0 : Int32)), (.ref a1)])) st28 ?_
  refine Go.step (T' := T28) (f' := (mkF m 105 #[.val (.ref a1), .val (.int p2), .val (.ref a3), .val (.ref a4)] [(.int (1 : Int32)), (.int (0 : Int32)), (.ref a1)])) (fun _ k => XS.iconst X28.here hx rfl (hb hby d12_104) k) ?_
  refine Go.step (T' := T28) (f' := (mkF m 106 #[.val (.ref a1), .val (.int p2), .val (.ref a3), .val (.ref a4)] [(.int (1 : Int32)), (.ref a1)])) (fun _ k => XS.iadd X28.here hx rfl (hb hby d12_105) rfl k) ?_
  have q29 : Exa Z h24 a1 "com/example/fondskit/fondskit/xml/BoundAttributes" := (((E_a1.wr W7).wr W15).wr W24)
  obtain ⟨T30, h30, X30, e30, W30, st30⟩ := putF X28 hx hZ hown (host := "") (Or.inl (hw _ (List.mem_of_getElem? (i := 65) rfl))) Via.refl e28 q27 q29 (Or.inl (hw _ (List.mem_of_getElem? (i := 66) rfl))) (hw _ (List.mem_of_getElem? (i := 46) rfl)) (ty := .int) (by decide) rfl rfl (g := (mkF m 106 #[.val (.ref a1), .val (.int p2), .val (.ref a3), .val (.ref a4)] [(.int (1 : Int32)), (.ref a1)])) rfl rfl (hb hby d12_106)
  have N30 := Fr.snoc X30 N24 g_a1
  have Z31 : n0 ≤ h30.size := Nat.le_trans Z26 (Keep.of_wr W30).1
  have K31 : Keep h0 h30 [a1, i, n, l1] := K26.wr W30 (Or.inl (List.mem_of_getElem? (i := 0) rfl))
  have Fw30 := q27.same W30
  refine Go.step (T' := T30) (f' := (mkF m 109 #[.val (.ref a1), .val (.int p2), .val (.ref a3), .val (.ref a4)] [])) st30 ?_
  refine goV X30 hx Bd.returns Bd.notSynchronized (hb hby d12_109) ?_ (by decide) (by decide)
  show Q_rmAdd0 Z a1 p2 a3 a4 i n l1 ki kn kl w0 w1 w2 w3 w4 w5 w6 w7 x0 x1 x2 x3 x4 x5 x6 x7 y0 y1 y2 y3 y4 y5 y6 y7 h0 n0 _ T30.heap _
  rw [e30]
  have q32 : Fld Z h30 a1 "com/example/fondskit/fondskit/xml/BoundAttributes" "parsed" "Lorg/xml/sax/Attributes;" .null := ((((F_parsed_a1.other W7 (Or.inl (Ne.symm hia))).other W15 (Or.inl (Ne.symm hna))).other W24 (Or.inl (Ne.symm hla))).other W30 (Or.inr (slot_ne (Or.inl (hw _ (List.mem_of_getElem? (i := 73) rfl))) (Or.inl (hw _ (List.mem_of_getElem? (i := 66) rfl))) (by decide) (t := (.object "org/xml/sax/Attributes")) (t' := .int) (by decide) (by decide))))
  have q33 : Fld Z h30 a1 "com/example/fondskit/fondskit/xml/BoundAttributes" "indexes" "[I" (.ref i) := ((((F_indexes_a1.other W7 (Or.inl (Ne.symm hia))).other W15 (Or.inl (Ne.symm hna))).other W24 (Or.inl (Ne.symm hla))).other W30 (Or.inr (slot_ne (Or.inl (hw _ (List.mem_of_getElem? (i := 54) rfl))) (Or.inl (hw _ (List.mem_of_getElem? (i := 66) rfl))) (by decide) (t := (.array .int)) (t' := .int) (by decide) (by decide))))
  have q34 : Fld Z h30 a1 "com/example/fondskit/fondskit/xml/BoundAttributes" "namespaces" "[Ljava/lang/String;" (.ref n) := (((q9.other W15 (Or.inl (Ne.symm hna))).other W24 (Or.inl (Ne.symm hla))).other W30 (Or.inr (slot_ne (Or.inl (hw _ (List.mem_of_getElem? (i := 57) rfl))) (Or.inl (hw _ (List.mem_of_getElem? (i := 66) rfl))) (by decide) (t := (.array (.object "java/lang/String"))) (t' := .int) (by decide) (by decide))))
  have q35 : Fld Z h30 a1 "com/example/fondskit/fondskit/xml/BoundAttributes" "localNames" "[Ljava/lang/String;" (.ref l1) := ((q18.other W24 (Or.inl (Ne.symm hla))).other W30 (Or.inr (slot_ne (Or.inl (hw _ (List.mem_of_getElem? (i := 59) rfl))) (Or.inl (hw _ (List.mem_of_getElem? (i := 66) rfl))) (by decide) (t := (.array (.object "java/lang/String"))) (t' := .int) (by decide) (by decide))))
  have q36 : Arv Z h30 i ki .int (8 : Int32) [(.int p2), w1, w2, w3, w4, w5, w6, w7] (.int (0 : Int32)) := (((Va7.other W15 hin_).other W24 hil).other W30 hia)
  have q37 : Arv Z h30 n kn (.object "java/lang/String") (8 : Int32) [(.ref a3), x1, x2, x3, x4, x5, x6, x7] .null := ((Va15.other W24 hnl).other W30 hna)
  have q38 : Arv Z h30 l1 kl (.object "java/lang/String") (8 : Int32) [(.ref a4), y1, y2, y3, y4, y5, y6, y7] .null := (Va24.other W30 hla)
  exact ⟨rfl, N30, K31, q32, q33, q34, q35, Fw30, q36, q37, q38⟩
theorem ef_rmAdd1 (m : MethodId) (a1 : Addr) (p2 : Int32) (a3 : Addr) (a4 : Addr) : entryFrame m #[(.ref a1), (.int p2), (.ref a3), (.ref a4)] 4 = mkF m 0 #[.val (.ref a1), .val (.int p2), .val (.ref a3), .val (.ref a4)] [] := by first | (simp [entryFrame, mkF, argsToLocals, Value.category]; done) | rfl
def Q_rmAdd1 (Z : State) (a1 : Addr) (p2 : Int32) (a3 : Addr) (a4 : Addr) (i : Addr) (n : Addr) (l1 : Addr) (ki : ClassId) (kn : ClassId) (kl : ClassId) (w0 : Value) (w1 : Value) (w2 : Value) (w3 : Value) (w4 : Value) (w5 : Value) (w6 : Value) (w7 : Value) (x0 : Value) (x1 : Value) (x2 : Value) (x3 : Value) (x4 : Value) (x5 : Value) (x6 : Value) (x7 : Value) (y0 : Value) (y1 : Value) (y2 : Value) (y3 : Value) (y4 : Value) (y5 : Value) (y6 : Value) (y7 : Value) (h0 : Heap) (n0 : Nat) (rv : Option Value) (hq : Heap) (Lq : List Loc) : Prop := rv = none ∧ Fr n0 Lq ∧ Keep h0 hq [a1, i, n, l1] ∧ Fld Z hq a1 "com/example/fondskit/fondskit/xml/BoundAttributes" "parsed" "Lorg/xml/sax/Attributes;" .null ∧ Fld Z hq a1 "com/example/fondskit/fondskit/xml/BoundAttributes" "indexes" "[I" (.ref i) ∧ Fld Z hq a1 "com/example/fondskit/fondskit/xml/BoundAttributes" "namespaces" "[Ljava/lang/String;" (.ref n) ∧ Fld Z hq a1 "com/example/fondskit/fondskit/xml/BoundAttributes" "localNames" "[Ljava/lang/String;" (.ref l1) ∧ Fld Z hq a1 "com/example/fondskit/fondskit/xml/BoundAttributes" "length" "I" (.int (2 : Int32)) ∧ Arv Z hq i ki .int (8 : Int32) [w0, (.int p2), w2, w3, w4, w5, w6, w7] (.int (0 : Int32)) ∧ Arv Z hq n kn (.object "java/lang/String") (8 : Int32) [x0, (.ref a3), x2, x3, x4, x5, x6, x7] .null ∧ Arv Z hq l1 kl (.object "java/lang/String") (8 : Int32) [y0, (.ref a4), y2, y3, y4, y5, y6, y7] .null
set_option maxRecDepth 65536 in
set_option maxHeartbeats 40000000 in
theorem rmAdd1 (l : Launch) (Z : State) (a0 : Array Value) (hw : ∀ d ∈ tables_1, d.before a0 Z = true) (ws : List Jvm.Cond) (a1 : Addr) (p2 : Int32) (a3 : Addr) (a4 : Addr) (i : Addr) (n : Addr) (l1 : Addr) (ki : ClassId) (kn : ClassId) (kl : ClassId) (w0 : Value) (w1 : Value) (w2 : Value) (w3 : Value) (w4 : Value) (w5 : Value) (w6 : Value) (w7 : Value) (x0 : Value) (x1 : Value) (x2 : Value) (x3 : Value) (x4 : Value) (x5 : Value) (x6 : Value) (x7 : Value) (y0 : Value) (y1 : Value) (y2 : Value) (y3 : Value) (y4 : Value) (y5 : Value) (y6 : Value) (y7 : Value) (h0 : Heap) (n0 : Nat) (Z0 : n0 ≤ h0.size) (E_a1 : Exa Z h0 a1 "com/example/fondskit/fondskit/xml/BoundAttributes") (E_a3 : Exa Z h0 a3 "java/lang/String") (E_a4 : Exa Z h0 a4 "java/lang/String") (F_parsed_a1 : Fld Z h0 a1 "com/example/fondskit/fondskit/xml/BoundAttributes" "parsed" "Lorg/xml/sax/Attributes;" .null) (F_indexes_a1 : Fld Z h0 a1 "com/example/fondskit/fondskit/xml/BoundAttributes" "indexes" "[I" (.ref i)) (F_namespaces_a1 : Fld Z h0 a1 "com/example/fondskit/fondskit/xml/BoundAttributes" "namespaces" "[Ljava/lang/String;" (.ref n)) (F_localNames_a1 : Fld Z h0 a1 "com/example/fondskit/fondskit/xml/BoundAttributes" "localNames" "[Ljava/lang/String;" (.ref l1)) (F_length_a1 : Fld Z h0 a1 "com/example/fondskit/fondskit/xml/BoundAttributes" "length" "I" (.int (1 : Int32))) (V_i : Arv Z h0 i ki .int (8 : Int32) [w0, w1, w2, w3, w4, w5, w6, w7] (.int (0 : Int32))) (V_n : Arv Z h0 n kn (.object "java/lang/String") (8 : Int32) [x0, x1, x2, x3, x4, x5, x6, x7] .null) (V_l1 : Arv Z h0 l1 kl (.object "java/lang/String") (8 : Int32) [y0, y1, y2, y3, y4, y5, y6, y7] .null) (hia : i ≠ a1) (hna : n ≠ a1) (hla : l1 ≠ a1) (hin_ : i ≠ n) (hil : i ≠ l1) (hnl : n ≠ l1) (ovn : Ovr Z kn "java/lang/String") (ovl : Ovr Z kl "java/lang/String") (g_a1 : n0 ≤ a1) (g_i : n0 ≤ i) (g_n : n0 ≤ n) (g_l1 : n0 ≤ l1) :
    MetFree l (⟨"com/example/fondskit/fondskit/xml/BoundAttributes", "add", "(ILjava/lang/String;Ljava/lang/String;)V"⟩ : MethodName) (head1 (Jvm.Cond.code (⟨"com/example/fondskit/fondskit/xml/BoundAttributes", "add", "(ILjava/lang/String;Ljava/lang/String;)V"⟩ : MethodName) prog_49_method_3_code 4 none :: ws) ({ frames := 0, cells := 0, slots := 0, locals := 0 } : Room)) (fun a U => a = #[(.ref a1), (.int p2), (.ref a3), (.ref a4)] ∧ Z.Warmed39 U.vm ∧ U.heap = h0) (fun _ _ _ _ _ => True) (fun _ U o U' => ∃ rv Lq, o = .returned rv ∧ Q_rmAdd1 Z a1 p2 a3 a4 i n l1 ki kn kl w0 w1 w2 w3 w4 w5 w6 w7 x0 x1 x2 x3 x4 x5 x6 x7 y0 y1 y2 y3 y4 y5 y6 y7 h0 n0 rv U'.heap Lq ∧ FrameEnd U o U' Lq ({ frames := 0, cells := 0, slots := 0, locals := 0 } : Room).cells ({ frames := 0, cells := 0, slots := 0, locals := 0 } : Room).slots) := by
  refine MetFree.of_bodySF (plainFor_of_name pn_11) hisR ?_
  intro p e s m args below meth c s₁ Bd hml0 hP hK
  obtain ⟨rfl, hZ, hh⟩ := hP
  have hx := Bd.exec
  have hby := Bd.bytes
  have hml : c.maxLocals = 4 := hml0
  have hown : s.vm.findClass "com/example/fondskit/fondskit/xml/BoundAttributes" = some m.cls := findClass_of_methodNamed Bd.named
  have hnm := (name_of_methodNamed Bd.named Bd.method).1
  have X0 : Stand p l e ({ frames := 0, cells := 0, slots := 0, locals := 0 } : Room) s m #[(.ref a1), (.int p2), (.ref a3), (.ref a4)] below meth c s₁ [] 0 0 := Stand.of_body Bd
  have e0 : s₁.heap = h0 := by rw [← hh, Bd.state]; rfl
  have N0 := Fr.nil n0
  refine of_go (ef_rmAdd1 m a1 p2 a3 a4) ?_
  refine Go.step (T' := s₁) (f' := (mkF m 1 #[.val (.ref a1), .val (.int p2), .val (.ref a3), .val (.ref a4)] [(.ref a1)])) (fun _ k => XS.aloadN X0.here hx rfl (hb hby d12_0) rfl rfl k) ?_
  obtain ⟨T1, X1, e1, st1⟩ := getF X0 hx hZ hown (host := "") (Or.inl (hw _ (List.mem_of_getElem? (i := 65) rfl))) Via.refl e0 F_length_a1 (g := (mkF m 1 #[.val (.ref a1), .val (.int p2), .val (.ref a3), .val (.ref a4)] [(.ref a1)])) rfl rfl (hb hby d12_1)
  refine Go.step (T' := T1) (f' := (mkF m 4 #[.val (.ref a1), .val (.int p2), .val (.ref a3), .val (.ref a4)] [(.int (1 : Int32))])) st1 ?_
  refine Go.step (T' := T1) (f' := (mkF m 5 #[.val (.ref a1), .val (.int p2), .val (.ref a3), .val (.ref a4)] [(.ref a1), (.int (1 : Int32))])) (fun _ k => XS.aloadN X1.here hx rfl (hb hby d12_4) rfl rfl k) ?_
  obtain ⟨T2, X2, e2, st2⟩ := getF X1 hx hZ hown (host := "") (Or.inl (hw _ (List.mem_of_getElem? (i := 53) rfl))) Via.refl e1 F_indexes_a1 (g := (mkF m 5 #[.val (.ref a1), .val (.int p2), .val (.ref a3), .val (.ref a4)] [(.ref a1), (.int (1 : Int32))])) rfl rfl (hb hby d12_5)
  refine Go.step (T' := T2) (f' := (mkF m 8 #[.val (.ref a1), .val (.int p2), .val (.ref a3), .val (.ref a4)] [(.ref i), (.int (1 : Int32))])) st2 ?_
  obtain ⟨cl3, Ar3, qc3, Sz3, Nn3, Hs3, Gf3⟩ := id V_i
  have hlen3 := X2.arraylength hx (by rw [e2]; exact Ar3.1) (State.isArrayOf_alike hZ.alike Ar3.2.1) (g := (mkF m 8 #[.val (.ref a1), .val (.int p2), .val (.ref a3), .val (.ref a4)] [(.ref i), (.int (1 : Int32))])) rfl rfl (hb hby d12_8)
  rw [len_of Sz3 Nn3] at hlen3
  refine Go.step (T' := T2) (f' := (mkF m 9 #[.val (.ref a1), .val (.int p2), .val (.ref a3), .val (.ref a4)] [(.int (8 : Int32)), (.int (1 : Int32))])) (fun _ k => hlen3 _ k) ?_
  refine Go.step (T' := T2) (f' := (mkF m 69 #[.val (.ref a1), .val (.int p2), .val (.ref a3), .val (.ref a4)] [])) (fun _ k => XS.icmpYes X2.here hx rfl (pc0 := 9) (pc' := 69) rfl (hb hby d12_9) rfl (feq (by decide : ¬ ((1 : Int32) = (8 : Int32)))).2 (by decide) (by decide) k) ?_
  refine Go.step (T' := T2) (f' := (mkF m 70 #[.val (.ref a1), .val (.int p2), .val (.ref a3), .val (.ref a4)] [(.ref a1)])) (fun _ k => XS.aloadN X2.here hx rfl (hb hby d12_69) rfl rfl k) ?_
  obtain ⟨T4, X4, e4, st4⟩ := getF X2 hx hZ hown (host := "") (Or.inl (hw _ (List.mem_of_getElem? (i := 53) rfl))) Via.refl e2 F_indexes_a1 (g := (mkF m 70 #[.val (.ref a1), .val (.int p2), .val (.ref a3), .val (.ref a4)] [(.ref a1)])) rfl rfl (hb hby d12_70)
  refine Go.step (T' := T4) (f' := (mkF m 73 #[.val (.ref a1), .val (.int p2), .val (.ref a3), .val (.ref a4)] [(.ref i)])) st4 ?_
  refine Go.step (T' := T4) (f' := (mkF m 74 #[.val (.ref a1), .val (.int p2), .val (.ref a3), .val (.ref a4)] [(.ref a1), (.ref i)])) (fun _ k => XS.aloadN X4.here hx rfl (hb hby d12_73) rfl rfl k) ?_
  obtain ⟨T5, X5, e5, st5⟩ := getF X4 hx hZ hown (host := "") (Or.inl (hw _ (List.mem_of_getElem? (i := 65) rfl))) Via.refl e4 F_length_a1 (g := (mkF m 74 #[.val (.ref a1), .val (.int p2), .val (.ref a3), .val (.ref a4)] [(.ref a1), (.ref i)])) rfl rfl (hb hby d12_74)
  refine Go.step (T' := T5) (f' := (mkF m 77 #[.val (.ref a1), .val (.int p2), .val (.ref a3), .val (.ref a4)] [(.int (1 : Int32)), (.ref i)])) st5 ?_
  refine Go.step (T' := T5) (f' := (mkF m 78 #[.val (.ref a1), .val (.int p2), .val (.ref a3), .val (.ref a4)] [(.int p2), (.int (1 : Int32)), (.ref i)])) (fun _ k => XS.iloadN X5.here hx rfl (hb hby d12_77) rfl k) ?_
  obtain ⟨cl6, Ar6, qc6, Sz6, Nn6, Hs6, Gf6⟩ := id V_i
  have hin7 : ¬ ((1 : Int32) < 0 ∨ cl6.slots.size ≤ ((1 : Int32)).toNatClampNeg) := (inb_of Sz6 ⟨by decide, by decide⟩)
  obtain ⟨T7, h7, X7, e7, W7, st7⟩ := stI X5 hx hZ e5 Ar6 (j := (1 : Int32)) hin7 (g := (mkF m 78 #[.val (.ref a1), .val (.int p2), .val (.ref a3), .val (.ref a4)] [(.int p2), (.int (1 : Int32)), (.ref i)])) rfl rfl (hb hby d12_78)
  have N7 := Fr.snoc X7 N0 g_i
  have Z8 : n0 ≤ h7.size := Nat.le_trans Z0 (Keep.of_wr W7).1
  have K8 : Keep h0 h7 [a1, i, n, l1] := (Keep.refl h0 [a1, i, n, l1]).wr W7 (Or.inl (List.mem_of_getElem? (i := 1) rfl))
  have Va7 : Arv Z h7 i ki .int (8 : Int32) [w0, (.int p2), w2, w3, w4, w5, w6, w7] (.int (0 : Int32)) := Arv.set Ar6 qc6 Sz6 Nn6 Hs6 Gf6 rfl W7 1 rfl (Nat.le_of_ble_eq_true rfl)
  refine Go.step (T' := T7) (f' := (mkF m 79 #[.val (.ref a1), .val (.int p2), .val (.ref a3), .val (.ref a4)] [])) st7 ?_
  refine Go.step (T' := T7) (f' := (mkF m 80 #[.val (.ref a1), .val (.int p2), .val (.ref a3), .val (.ref a4)] [(.ref a1)])) (fun _ k => XS.aloadN X7.here hx rfl (hb hby d12_79) rfl rfl k) ?_
  have q9 : Fld Z h7 a1 "com/example/fondskit/fondskit/xml/BoundAttributes" "namespaces" "[Ljava/lang/String;" (.ref n) := (F_namespaces_a1.other W7 (Or.inl (Ne.symm hia)))
  obtain ⟨T10, X10, e10, st10⟩ := getF X7 hx hZ hown (host := "") (Or.inl (hw _ (List.mem_of_getElem? (i := 56) rfl))) Via.refl e7 q9 (g := (mkF m 80 #[.val (.ref a1), .val (.int p2), .val (.ref a3), .val (.ref a4)] [(.ref a1)])) rfl rfl (hb hby d12_80)
  refine Go.step (T' := T10) (f' := (mkF m 83 #[.val (.ref a1), .val (.int p2), .val (.ref a3), .val (.ref a4)] [(.ref n)])) st10 ?_
  refine Go.step (T' := T10) (f' := (mkF m 84 #[.val (.ref a1), .val (.int p2), .val (.ref a3), .val (.ref a4)] [(.ref a1), (.ref n)])) (fun _ k => XS.aloadN X10.here hx rfl (hb hby d12_83) rfl rfl k) ?_
  have q11 : Fld Z h7 a1 "com/example/fondskit/fondskit/xml/BoundAttributes" "length" "I" (.int (1 : Int32)) := (F_length_a1.other W7 (Or.inl (Ne.symm hia)))
  obtain ⟨T12, X12, e12, st12⟩ := getF X10 hx hZ hown (host := "") (Or.inl (hw _ (List.mem_of_getElem? (i := 65) rfl))) Via.refl e10 q11 (g := (mkF m 84 #[.val (.ref a1), .val (.int p2), .val (.ref a3), .val (.ref a4)] [(.ref a1), (.ref n)])) rfl rfl (hb hby d12_84)
  refine Go.step (T' := T12) (f' := (mkF m 87 #[.val (.ref a1), .val (.int p2), .val (.ref a3), .val (.ref a4)] [(.int (1 : Int32)), (.ref n)])) st12 ?_
  refine Go.step (T' := T12) (f' := (mkF m 88 #[.val (.ref a1), .val (.int p2), .val (.ref a3), .val (.ref a4)] [(.ref a3), (.int (1 : Int32)), (.ref n)])) (fun _ k => XS.aloadN X12.here hx rfl (hb hby d12_87) rfl rfl k) ?_
  have q13 : Arv Z h7 n kn (.object "java/lang/String") (8 : Int32) [x0, x1, x2, x3, x4, x5, x6, x7] .null := (V_n.other W7 (Ne.symm hin_))
  obtain ⟨cl14, Ar14, qc14, Sz14, Nn14, Hs14, Gf14⟩ := id q13
  have q16 : Exa Z h7 a3 "java/lang/String" := (E_a3.wr W7)
  have hin15 : ¬ ((1 : Int32) < 0 ∨ cl14.slots.size ≤ ((1 : Int32)).toNatClampNeg) := (inb_of Sz14 ⟨by decide, by decide⟩)
  obtain ⟨T15, h15, X15, e15, W15, st15⟩ := stR X12 hx hZ e12 Ar14 (j := (1 : Int32)) hin15 rfl (Sto.ofV Ar14 qc14 ovn (Ins.self q16)) (g := (mkF m 88 #[.val (.ref a1), .val (.int p2), .val (.ref a3), .val (.ref a4)] [(.ref a3), (.int (1 : Int32)), (.ref n)])) rfl rfl (hb hby d12_88)
  have N15 := Fr.snoc X15 N7 g_n
  have Z17 : n0 ≤ h15.size := Nat.le_trans Z8 (Keep.of_wr W15).1
  have K17 : Keep h0 h15 [a1, i, n, l1] := K8.wr W15 (Or.inl (List.mem_of_getElem? (i := 2) rfl))
  have Va15 : Arv Z h15 n kn (.object "java/lang/String") (8 : Int32) [x0, (.ref a3), x2, x3, x4, x5, x6, x7] .null := Arv.set Ar14 qc14 Sz14 Nn14 Hs14 Gf14 rfl W15 1 rfl (Nat.le_of_ble_eq_true rfl)
  refine Go.step (T' := T15) (f' := (mkF m 89 #[.val (.ref a1), .val (.int p2), .val (.ref a3), .val (.ref a4)] [])) st15 ?_
  refine Go.step (T' := T15) (f' := (mkF m 90 #[.val (.ref a1), .val (.int p2), .val (.ref a3), .val (.ref a4)] [(.ref a1)])) (fun _ k => XS.aloadN X15.here hx rfl (hb hby d12_89) rfl rfl k) ?_
  have q18 : Fld Z h15 a1 "com/example/fondskit/fondskit/xml/BoundAttributes" "localNames" "[Ljava/lang/String;" (.ref l1) := ((F_localNames_a1.other W7 (Or.inl (Ne.symm hia))).other W15 (Or.inl (Ne.symm hna)))
  obtain ⟨T19, X19, e19, st19⟩ := getF X15 hx hZ hown (host := "") (Or.inl (hw _ (List.mem_of_getElem? (i := 58) rfl))) Via.refl e15 q18 (g := (mkF m 90 #[.val (.ref a1), .val (.int p2), .val (.ref a3), .val (.ref a4)] [(.ref a1)])) rfl rfl (hb hby d12_90)
  refine Go.step (T' := T19) (f' := (mkF m 93 #[.val (.ref a1), .val (.int p2), .val (.ref a3), .val (.ref a4)] [(.ref l1)])) st19 ?_
  refine Go.step (T' := T19) (f' := (mkF m 94 #[.val (.ref a1), .val (.int p2), .val (.ref a3), .val (.ref a4)] [(.ref a1), (.ref l1)])) (fun _ k => XS.aloadN X19.here hx rfl (hb hby d12_93) rfl rfl k) ?_
  have q20 : Fld Z h15 a1 "com/example/fondskit/fondskit/xml/BoundAttributes" "length" "I" (.int (1 : Int32)) := (q11.other W15 (Or.inl (Ne.symm hna)))
  obtain ⟨T21, X21, e21, st21⟩ := getF X19 hx hZ hown (host := "") (Or.inl (hw _ (List.mem_of_getElem? (i := 65) rfl))) Via.refl e19 q20 (g := (mkF m 94 #[.val (.ref a1), .val (.int p2), .val (.ref a3), .val (.ref a4)] [(.ref a1), (.ref l1)])) rfl rfl (hb hby d12_94)
  refine Go.step (T' := T21) (f' := (mkF m 97 #[.val (.ref a1), .val (.int p2), .val (.ref a3), .val (.ref a4)] [(.int (1 : Int32)), (.ref l1)])) st21 ?_
  refine Go.step (T' := T21) (f' := (mkF m 98 #[.val (.ref a1), .val (.int p2), .val (.ref a3), .val (.ref a4)] [(.ref a4), (.int (1 : Int32)), (.ref l1)])) (fun _ k => XS.aloadN X21.here hx rfl (hb hby d12_97) rfl rfl k) ?_
  have q22 : Arv Z h15 l1 kl (.object "java/lang/String") (8 : Int32) [y0, y1, y2, y3, y4, y5, y6, y7] .null := ((V_l1.other W7 (Ne.symm hil)).other W15 (Ne.symm hnl))
  obtain ⟨cl23, Ar23, qc23, Sz23, Nn23, Hs23, Gf23⟩ := id q22
  have q25 : Exa Z h15 a4 "java/lang/String" := ((E_a4.wr W7).wr W15)
  have hin24 : ¬ ((1 : Int32) < 0 ∨ cl23.slots.size ≤ ((1 : Int32)).toNatClampNeg) := (inb_of Sz23 ⟨by decide, by decide⟩)
  obtain ⟨T24, h24, X24, e24, W24, st24⟩ := stR X21 hx hZ e21 Ar23 (j := (1 : Int32)) hin24 rfl (Sto.ofV Ar23 qc23 ovl (Ins.self q25)) (g := (mkF m 98 #[.val (.ref a1), .val (.int p2), .val (.ref a3), .val (.ref a4)] [(.ref a4), (.int (1 : Int32)), (.ref l1)])) rfl rfl (hb hby d12_98)
  have N24 := Fr.snoc X24 N15 g_l1
  have Z26 : n0 ≤ h24.size := Nat.le_trans Z17 (Keep.of_wr W24).1
  have K26 : Keep h0 h24 [a1, i, n, l1] := K17.wr W24 (Or.inl (List.mem_of_getElem? (i := 3) rfl))
  have Va24 : Arv Z h24 l1 kl (.object "java/lang/String") (8 : Int32) [y0, (.ref a4), y2, y3, y4, y5, y6, y7] .null := Arv.set Ar23 qc23 Sz23 Nn23 Hs23 Gf23 rfl W24 1 rfl (Nat.le_of_ble_eq_true rfl)
  refine Go.step (T' := T24) (f' := (mkF m 99 #[.val (.ref a1), .val (.int p2), .val (.ref a3), .val (.ref a4)] [])) st24 ?_
  refine Go.step (T' := T24) (f' := (mkF m 100 #[.val (.ref a1), .val (.int p2), .val (.ref a3), .val (.ref a4)] [(.ref a1)])) (fun _ k => XS.aloadN X24.here hx rfl (hb hby d12_99) rfl rfl k) ?_
  refine Go.step (T' := T24) (f' := (mkF m 101 #[.val (.ref a1), .val (.int p2), .val (.ref a3), .val (.ref a4)] [(.ref a1), (.ref a1)])) (fun _ k => XS.dup X24.here hx rfl (hb hby d12_100) rfl rfl k) ?_
  have q27 : Fld Z h24 a1 "com/example/fondskit/fondskit/xml/BoundAttributes" "length" "I" (.int (1 : Int32)) := (q20.other W24 (Or.inl (Ne.symm hla)))
  obtain ⟨T28, X28, e28, st28⟩ := getF X24 hx hZ hown (host := "") (Or.inl (hw _ (List.mem_of_getElem? (i := 65) rfl))) Via.refl e24 q27 (g := (mkF m 101 #[.val (.ref a1), .val (.int p2), .val (.ref a3), .val (.ref a4)] [(.ref a1), (.ref a1)])) rfl rfl (hb hby d12_101)
  refine Go.step (T' := T28) (f' := (mkF m 104 #[.val (.ref a1), .val (.int p2), .val (.ref a3), .val (.ref a4)] [(.int (1 : Int32)), (.ref a1)])) st28 ?_
  refine Go.step (T' := T28) (f' := (mkF m 105 #[.val (.ref a1), .val (.int p2), .val (.ref a3), .val (.ref a4)] [(.int (1 : Int32)), (.int (1 : Int32)), (.ref a1)])) (fun _ k => XS.iconst X28.here hx rfl (hb hby d12_104) k) ?_
  refine Go.step (T' := T28) (f' := (mkF m 106 #[.val (.ref a1), .val (.int p2), .val (.ref a3), .val (.ref a4)] [(.int (2 : Int32)), (.ref a1)])) (fun _ k => XS.iadd X28.here hx rfl (hb hby d12_105) rfl k) ?_
  have q29 : Exa Z h24 a1 "com/example/fondskit/fondskit/xml/BoundAttributes" := (((E_a1.wr W7).wr W15).wr W24)
  obtain ⟨T30, h30, X30, e30, W30, st30⟩ := putF X28 hx hZ hown (host := "") (Or.inl (hw _ (List.mem_of_getElem? (i := 65) rfl))) Via.refl e28 q27 q29 (Or.inl (hw _ (List.mem_of_getElem? (i := 66) rfl))) (hw _ (List.mem_of_getElem? (i := 46) rfl)) (ty := .int) (by decide) rfl rfl (g := (mkF m 106 #[.val (.ref a1), .val (.int p2), .val (.ref a3), .val (.ref a4)] [(.int (2 : Int32)), (.ref a1)])) rfl rfl (hb hby d12_106)
  have N30 := Fr.snoc X30 N24 g_a1
  have Z31 : n0 ≤ h30.size := Nat.le_trans Z26 (Keep.of_wr W30).1
  have K31 : Keep h0 h30 [a1, i, n, l1] := K26.wr W30 (Or.inl (List.mem_of_getElem? (i := 0) rfl))
  have Fw30 := q27.same W30
  refine Go.step (T' := T30) (f' := (mkF m 109 #[.val (.ref a1), .val (.int p2), .val (.ref a3), .val (.ref a4)] [])) st30 ?_
  refine goV X30 hx Bd.returns Bd.notSynchronized (hb hby d12_109) ?_ (by decide) (by decide)
  show Q_rmAdd1 Z a1 p2 a3 a4 i n l1 ki kn kl w0 w1 w2 w3 w4 w5 w6 w7 x0 x1 x2 x3 x4 x5 x6 x7 y0 y1 y2 y3 y4 y5 y6 y7 h0 n0 _ T30.heap _
  rw [e30]
  have q32 : Fld Z h30 a1 "com/example/fondskit/fondskit/xml/BoundAttributes" "parsed" "Lorg/xml/sax/Attributes;" .null := ((((F_parsed_a1.other W7 (Or.inl (Ne.symm hia))).other W15 (Or.inl (Ne.symm hna))).other W24 (Or.inl (Ne.symm hla))).other W30 (Or.inr (slot_ne (Or.inl (hw _ (List.mem_of_getElem? (i := 73) rfl))) (Or.inl (hw _ (List.mem_of_getElem? (i := 66) rfl))) (by decide) (t := (.object "org/xml/sax/Attributes")) (t' := .int) (by decide) (by decide))))
  have q33 : Fld Z h30 a1 "com/example/fondskit/fondskit/xml/BoundAttributes" "indexes" "[I" (.ref i) := ((((F_indexes_a1.other W7 (Or.inl (Ne.symm hia))).other W15 (Or.inl (Ne.symm hna))).other W24 (Or.inl (Ne.symm hla))).other W30 (Or.inr (slot_ne (Or.inl (hw _ (List.mem_of_getElem? (i := 54) rfl))) (Or.inl (hw _ (List.mem_of_getElem? (i := 66) rfl))) (by decide) (t := (.array .int)) (t' := .int) (by decide) (by decide))))
  have q34 : Fld Z h30 a1 "com/example/fondskit/fondskit/xml/BoundAttributes" "namespaces" "[Ljava/lang/String;" (.ref n) := (((q9.other W15 (Or.inl (Ne.symm hna))).other W24 (Or.inl (Ne.symm hla))).other W30 (Or.inr (slot_ne (Or.inl (hw _ (List.mem_of_getElem? (i := 57) rfl))) (Or.inl (hw _ (List.mem_of_getElem? (i := 66) rfl))) (by decide) (t := (.array (.object "java/lang/String"))) (t' := .int) (by decide) (by decide))))
  have q35 : Fld Z h30 a1 "com/example/fondskit/fondskit/xml/BoundAttributes" "localNames" "[Ljava/lang/String;" (.ref l1) := ((q18.other W24 (Or.inl (Ne.symm hla))).other W30 (Or.inr (slot_ne (Or.inl (hw _ (List.mem_of_getElem? (i := 59) rfl))) (Or.inl (hw _ (List.mem_of_getElem? (i := 66) rfl))) (by decide) (t := (.array (.object "java/lang/String"))) (t' := .int) (by decide) (by decide))))
  have q36 : Arv Z h30 i ki .int (8 : Int32) [w0, (.int p2), w2, w3, w4, w5, w6, w7] (.int (0 : Int32)) := (((Va7.other W15 hin_).other W24 hil).other W30 hia)
  have q37 : Arv Z h30 n kn (.object "java/lang/String") (8 : Int32) [x0, (.ref a3), x2, x3, x4, x5, x6, x7] .null := ((Va15.other W24 hnl).other W30 hna)
  have q38 : Arv Z h30 l1 kl (.object "java/lang/String") (8 : Int32) [y0, (.ref a4), y2, y3, y4, y5, y6, y7] .null := (Va24.other W30 hla)
  exact ⟨rfl, N30, K31, q32, q33, q34, q35, Fw30, q36, q37, q38⟩
theorem ef_rmAdd2 (m : MethodId) (a1 : Addr) (p2 : Int32) (a3 : Addr) (a4 : Addr) : entryFrame m #[(.ref a1), (.int p2), (.ref a3), (.ref a4)] 4 = mkF m 0 #[.val (.ref a1), .val (.int p2), .val (.ref a3), .val (.ref a4)] [] := by first | (simp [entryFrame, mkF, argsToLocals, Value.category]; done) | rfl
def Q_rmAdd2 (Z : State) (a1 : Addr) (p2 : Int32) (a3 : Addr) (a4 : Addr) (i : Addr) (n : Addr) (l1 : Addr) (ki : ClassId) (kn : ClassId) (kl : ClassId) (w0 : Value) (w1 : Value) (w2 : Value) (w3 : Value) (w4 : Value) (w5 : Value) (w6 : Value) (w7 : Value) (x0 : Value) (x1 : Value) (x2 : Value) (x3 : Value) (x4 : Value) (x5 : Value) (x6 : Value) (x7 : Value) (y0 : Value) (y1 : Value) (y2 : Value) (y3 : Value) (y4 : Value) (y5 : Value) (y6 : Value) (y7 : Value) (h0 : Heap) (n0 : Nat) (rv : Option Value) (hq : Heap) (Lq : List Loc) : Prop := rv = none ∧ Fr n0 Lq ∧ Keep h0 hq [a1, i, n, l1] ∧ Fld Z hq a1 "com/example/fondskit/fondskit/xml/BoundAttributes" "parsed" "Lorg/xml/sax/Attributes;" .null ∧ Fld Z hq a1 "com/example/fondskit/fondskit/xml/BoundAttributes" "indexes" "[I" (.ref i) ∧ Fld Z hq a1 "com/example/fondskit/fondskit/xml/BoundAttributes" "namespaces" "[Ljava/lang/String;" (.ref n) ∧ Fld Z hq a1 "com/example/fondskit/fondskit/xml/BoundAttributes" "localNames" "[Ljava/lang/String;" (.ref l1) ∧ Fld Z hq a1 "com/example/fondskit/fondskit/xml/BoundAttributes" "length" "I" (.int (3 : Int32)) ∧ Arv Z hq i ki .int (8 : Int32) [w0, w1, (.int p2), w3, w4, w5, w6, w7] (.int (0 : Int32)) ∧ Arv Z hq n kn (.object "java/lang/String") (8 : Int32) [x0, x1, (.ref a3), x3, x4, x5, x6, x7] .null ∧ Arv Z hq l1 kl (.object "java/lang/String") (8 : Int32) [y0, y1, (.ref a4), y3, y4, y5, y6, y7] .null
set_option maxRecDepth 65536 in
set_option maxHeartbeats 40000000 in
theorem rmAdd2 (l : Launch) (Z : State) (a0 : Array Value) (hw : ∀ d ∈ tables_1, d.before a0 Z = true) (ws : List Jvm.Cond) (a1 : Addr) (p2 : Int32) (a3 : Addr) (a4 : Addr) (i : Addr) (n : Addr) (l1 : Addr) (ki : ClassId) (kn : ClassId) (kl : ClassId) (w0 : Value) (w1 : Value) (w2 : Value) (w3 : Value) (w4 : Value) (w5 : Value) (w6 : Value) (w7 : Value) (x0 : Value) (x1 : Value) (x2 : Value) (x3 : Value) (x4 : Value) (x5 : Value) (x6 : Value) (x7 : Value) (y0 : Value) (y1 : Value) (y2 : Value) (y3 : Value) (y4 : Value) (y5 : Value) (y6 : Value) (y7 : Value) (h0 : Heap) (n0 : Nat) (Z0 : n0 ≤ h0.size) (E_a1 : Exa Z h0 a1 "com/example/fondskit/fondskit/xml/BoundAttributes") (E_a3 : Exa Z h0 a3 "java/lang/String") (E_a4 : Exa Z h0 a4 "java/lang/String") (F_parsed_a1 : Fld Z h0 a1 "com/example/fondskit/fondskit/xml/BoundAttributes" "parsed" "Lorg/xml/sax/Attributes;" .null) (F_indexes_a1 : Fld Z h0 a1 "com/example/fondskit/fondskit/xml/BoundAttributes" "indexes" "[I" (.ref i)) (F_namespaces_a1 : Fld Z h0 a1 "com/example/fondskit/fondskit/xml/BoundAttributes" "namespaces" "[Ljava/lang/String;" (.ref n)) (F_localNames_a1 : Fld Z h0 a1 "com/example/fondskit/fondskit/xml/BoundAttributes" "localNames" "[Ljava/lang/String;" (.ref l1)) (F_length_a1 : Fld Z h0 a1 "com/example/fondskit/fondskit/xml/BoundAttributes" "length" "I" (.int (2 : Int32))) (V_i : Arv Z h0 i ki .int (8 : Int32) [w0, w1, w2, w3, w4, w5, w6, w7] (.int (0 : Int32))) (V_n : Arv Z h0 n kn (.object "java/lang/String") (8 : Int32) [x0, x1, x2, x3, x4, x5, x6, x7] .null) (V_l1 : Arv Z h0 l1 kl (.object "java/lang/String") (8 : Int32) [y0, y1, y2, y3, y4, y5, y6, y7] .null) (hia : i ≠ a1) (hna : n ≠ a1) (hla : l1 ≠ a1) (hin_ : i ≠ n) (hil : i ≠ l1) (hnl : n ≠ l1) (ovn : Ovr Z kn "java/lang/String") (ovl : Ovr Z kl "java/lang/String") (g_a1 : n0 ≤ a1) (g_i : n0 ≤ i) (g_n : n0 ≤ n) (g_l1 : n0 ≤ l1) :
    MetFree l (⟨"com/example/fondskit/fondskit/xml/BoundAttributes", "add", "(ILjava/lang/String;Ljava/lang/String;)V"⟩ : MethodName) (head1 (Jvm.Cond.code (⟨"com/example/fondskit/fondskit/xml/BoundAttributes", "add", "(ILjava/lang/String;Ljava/lang/String;)V"⟩ : MethodName) prog_49_method_3_code 4 none :: ws) ({ frames := 0, cells := 0, slots := 0, locals := 0 } : Room)) (fun a U => a = #[(.ref a1), (.int p2), (.ref a3), (.ref a4)] ∧ Z.Warmed39 U.vm ∧ U.heap = h0) (fun _ _ _ _ _ => True) (fun _ U o U' => ∃ rv Lq, o = .returned rv ∧ Q_rmAdd2 Z a1 p2 a3 a4 i n l1 ki kn kl w0 w1 w2 w3 w4 w5 w6 w7 x0 x1 x2 x3 x4 x5 x6 x7 y0 y1 y2 y3 y4 y5 y6 y7 h0 n0 rv U'.heap Lq ∧ FrameEnd U o U' Lq ({ frames := 0, cells := 0, slots := 0, locals := 0 } : Room).cells ({ frames := 0, cells := 0, slots := 0, locals := 0 } : Room).slots) := by
  refine MetFree.of_bodySF (plainFor_of_name pn_11) hisR ?_
  intro p e s m args below meth c s₁ Bd hml0 hP hK
  obtain ⟨rfl, hZ, hh⟩ := hP
  have hx := Bd.exec
  have hby := Bd.bytes
  have hml : c.maxLocals = 4 := hml0
  have hown : s.vm.findClass "com/example/fondskit/fondskit/xml/BoundAttributes" = some m.cls := findClass_of_methodNamed Bd.named
  have hnm := (name_of_methodNamed Bd.named Bd.method).1
  have X0 : Stand p l e ({ frames := 0, cells := 0, slots := 0, locals := 0 } : Room) s m #[(.ref a1), (.int p2), (.ref a3), (.ref a4)] below meth c s₁ [] 0 0 := Stand.of_body Bd
  have e0 : s₁.heap = h0 := by rw [← hh, Bd.state]; rfl
  have N0 := Fr.nil n0
  refine of_go (ef_rmAdd2 m a1 p2 a3 a4) ?_
  refine Go.step (T' := s₁) (f' := (mkF m 1 #[.val (.ref a1), .val (.int p2), .val (.ref a3), .val (.ref a4)] [(.ref a1)])) (fun _ k => XS.aloadN X0.here hx rfl (hb hby d12_0) rfl rfl k) ?_
  obtain ⟨T1, X1, e1, st1⟩ := getF X0 hx hZ hown (host := "") (Or.inl (hw _ (List.mem_of_getElem? (i := 65) rfl))) Via.refl e0 F_length_a1 (g := (mkF m 1 #[.val (.ref a1), .val (.int p2), .val (.ref a3), .val (.ref a4)] [(.ref a1)])) rfl rfl (hb hby d12_1)
  refine Go.step (T' := T1) (f' := (mkF m 4 #[.val (.ref a1), .val (.int p2), .val (.ref a3), .val (.ref a4)] [(.int (2 : Int32))])) st1 ?_
  refine Go.step (T' := T1) (f' := (mkF m 5 #[.val (.ref a1), .val (.int p2), .val (.ref a3), .val (.ref a4)] [(.ref a1), (.int (2 : Int32))])) (fun _ k => XS.aloadN X1.here hx rfl (hb hby d12_4) rfl rfl k) ?_
  obtain ⟨T2, X2, e2, st2⟩ := getF X1 hx hZ hown (host := "") (Or.inl (hw _ (List.mem_of_getElem? (i := 53) rfl))) Via.refl e1 F_indexes_a1 (g := (mkF m 5 #[.val (.ref a1), .val (.int p2), .val (.ref a3), .val (.ref a4)] [(.ref a1), (.int (2 : Int32))])) rfl rfl (hb hby d12_5)
  refine Go.step (T' := T2) (f' := (mkF m 8 #[.val (.ref a1), .val (.int p2), .val (.ref a3), .val (.ref a4)] [(.ref i), (.int (2 : Int32))])) st2 ?_
  obtain ⟨cl3, Ar3, qc3, Sz3, Nn3, Hs3, Gf3⟩ := id V_i
  have hlen3 := X2.arraylength hx (by rw [e2]; exact Ar3.1) (State.isArrayOf_alike hZ.alike Ar3.2.1) (g := (mkF m 8 #[.val (.ref a1), .val (.int p2), .val (.ref a3), .val (.ref a4)] [(.ref i), (.int (2 : Int32))])) rfl rfl (hb hby d12_8)
  rw [len_of Sz3 Nn3] at hlen3
  refine Go.step (T' := T2) (f' := (mkF m 9 #[.val (.ref a1), .val (.int p2), .val (.ref a3), .val (.ref a4)] [(.int (8 : Int32)), (.int (2 : Int32))])) (fun _ k => hlen3 _ k) ?_
  refine Go.step (T' := T2) (f' := (mkF m 69 #[.val (.ref a1), .val (.int p2), .val (.ref a3), .val (.ref a4)] [])) (fun _ k => XS.icmpYes X2.here hx rfl (pc0 := 9) (pc' := 69) rfl (hb hby d12_9) rfl (feq (by decide : ¬ ((2 : Int32) = (8 : Int32)))).2 (by decide) (by decide) k) ?_
  refine Go.step (T' := T2) (f' := (mkF m 70 #[.val (.ref a1), .val (.int p2), .val (.ref a3), .val (.ref a4)] [(.ref a1)])) (fun _ k => XS.aloadN X2.here hx rfl (hb hby d12_69) rfl rfl k) ?_
  obtain ⟨T4, X4, e4, st4⟩ := getF X2 hx hZ hown (host := "") (Or.inl (hw _ (List.mem_of_getElem? (i := 53) rfl))) Via.refl e2 F_indexes_a1 (g := (mkF m 70 #[.val (.ref a1), .val (.int p2), .val (.ref a3), .val (.ref a4)] [(.ref a1)])) rfl rfl (hb hby d12_70)
  refine Go.step (T' := T4) (f' := (mkF m 73 #[.val (.ref a1), .val (.int p2), .val (.ref a3), .val (.ref a4)] [(.ref i)])) st4 ?_
  refine Go.step (T' := T4) (f' := (mkF m 74 #[.val (.ref a1), .val (.int p2), .val (.ref a3), .val (.ref a4)] [(.ref a1), (.ref i)])) (fun _ k => XS.aloadN X4.here hx rfl (hb hby d12_73) rfl rfl k) ?_
  obtain ⟨T5, X5, e5, st5⟩ := getF X4 hx hZ hown (host := "") (Or.inl (hw _ (List.mem_of_getElem? (i := 65) rfl))) Via.refl e4 F_length_a1 (g := (mkF m 74 #[.val (.ref a1), .val (.int p2), .val (.ref a3), .val (.ref a4)] [(.ref a1), (.ref i)])) rfl rfl (hb hby d12_74)
  refine Go.step (T' := T5) (f' := (mkF m 77 #[.val (.ref a1), .val (.int p2), .val (.ref a3), .val (.ref a4)] [(.int (2 : Int32)), (.ref i)])) st5 ?_
  refine Go.step (T' := T5) (f' := (mkF m 78 #[.val (.ref a1), .val (.int p2), .val (.ref a3), .val (.ref a4)] [(.int p2), (.int (2 : Int32)), (.ref i)])) (fun _ k => XS.iloadN X5.here hx rfl (hb hby d12_77) rfl k) ?_
  obtain ⟨cl6, Ar6, qc6, Sz6, Nn6, Hs6, Gf6⟩ := id V_i
  have hin7 : ¬ ((2 : Int32) < 0 ∨ cl6.slots.size ≤ ((2 : Int32)).toNatClampNeg) := (inb_of Sz6 ⟨by decide, by decide⟩)
  obtain ⟨T7, h7, X7, e7, W7, st7⟩ := stI X5 hx hZ e5 Ar6 (j := (2 : Int32)) hin7 (g := (mkF m 78 #[.val (.ref a1), .val (.int p2), .val (.ref a3), .val (.ref a4)] [(.int p2), (.int (2 : Int32)), (.ref i)])) rfl rfl (hb hby d12_78)
  have N7 := Fr.snoc X7 N0 g_i
  have Z8 : n0 ≤ h7.size := Nat.le_trans Z0 (Keep.of_wr W7).1
  have K8 : Keep h0 h7 [a1, i, n, l1] := (Keep.refl h0 [a1, i, n, l1]).wr W7 (Or.inl (List.mem_of_getElem? (i := 1) rfl))
  have Va7 : Arv Z h7 i ki .int (8 : Int32) [w0, w1, (.int p2), w3, w4, w5, w6, w7] (.int (0 : Int32)) := Arv.set Ar6 qc6 Sz6 Nn6 Hs6 Gf6 rfl W7 2 rfl (Nat.le_of_ble_eq_true rfl)
  refine Go.step (T' := T7) (f' := (mkF m 79 #[.val (.ref a1), .val (.int p2), .val (.ref a3), .val (.ref a4)] [])) st7 ?_
  refine Go.step (T' := T7) (f' := (mkF m 80 #[.val (.ref a1), .val (.int p2), .val (.ref a3), .val (.ref a4)] [(.ref a1)])) (fun _ k => XS.aloadN X7.here hx rfl (hb hby d12_79) rfl rfl k) ?_
  have q9 : Fld Z h7 a1 "com/example/fondskit/fondskit/xml/BoundAttributes" "namespaces" "[Ljava/lang/String;" (.ref n) := (F_namespaces_a1.other W7 (Or.inl (Ne.symm hia)))
  obtain ⟨T10, X10, e10, st10⟩ := getF X7 hx hZ hown (host := "") (Or.inl (hw _ (List.mem_of_getElem? (i := 56) rfl))) Via.refl e7 q9 (g := (mkF m 80 #[.val (.ref a1), .val (.int p2), .val (.ref a3), .val (.ref a4)] [(.ref a1)])) rfl rfl (hb hby d12_80)
  refine Go.step (T' := T10) (f' := (mkF m 83 #[.val (.ref a1), .val (.int p2), .val (.ref a3), .val (.ref a4)] [(.ref n)])) st10 ?_
  refine Go.step (T' := T10) (f' := (mkF m 84 #[.val (.ref a1), .val (.int p2), .val (.ref a3), .val (.ref a4)] [(.ref a1), (.ref n)])) (fun _ k => XS.aloadN X10.here hx rfl (hb hby d12_83) rfl rfl k) ?_
  have q11 : Fld Z h7 a1 "com/example/fondskit/fondskit/xml/BoundAttributes" "length" "I" (.int (2 : Int32)) := (F_length_a1.other W7 (Or.inl (Ne.symm hia)))
  obtain ⟨T12, X12, e12, st12⟩ := getF X10 hx hZ hown (host := "") (Or.inl (hw _ (List.mem_of_getElem? (i := 65) rfl))) Via.refl e10 q11 (g := (mkF m 84 #[.val (.ref a1), .val (.int p2), .val (.ref a3), .val (.ref a4)] [(.ref a1), (.ref n)])) rfl rfl (hb hby d12_84)
  refine Go.step (T' := T12) (f' := (mkF m 87 #[.val (.ref a1), .val (.int p2), .val (.ref a3), .val (.ref a4)] [(.int (2 : Int32)), (.ref n)])) st12 ?_
  refine Go.step (T' := T12) (f' := (mkF m 88 #[.val (.ref a1), .val (.int p2), .val (.ref a3), .val (.ref a4)] [(.ref a3), (.int (2 : Int32)), (.ref n)])) (fun _ k => XS.aloadN X12.here hx rfl (hb hby d12_87) rfl rfl k) ?_
  have q13 : Arv Z h7 n kn (.object "java/lang/String") (8 : Int32) [x0, x1, x2, x3, x4, x5, x6, x7] .null := (V_n.other W7 (Ne.symm hin_))
  obtain ⟨cl14, Ar14, qc14, Sz14, Nn14, Hs14, Gf14⟩ := id q13
  have q16 : Exa Z h7 a3 "java/lang/String" := (E_a3.wr W7)
  have hin15 : ¬ ((2 : Int32) < 0 ∨ cl14.slots.size ≤ ((2 : Int32)).toNatClampNeg) := (inb_of Sz14 ⟨by decide, by decide⟩)
  obtain ⟨T15, h15, X15, e15, W15, st15⟩ := stR X12 hx hZ e12 Ar14 (j := (2 : Int32)) hin15 rfl (Sto.ofV Ar14 qc14 ovn (Ins.self q16)) (g := (mkF m 88 #[.val (.ref a1), .val (.int p2), .val (.ref a3), .val (.ref a4)] [(.ref a3), (.int (2 : Int32)), (.ref n)])) rfl rfl (hb hby d12_88)
  have N15 := Fr.snoc X15 N7 g_n
  have Z17 : n0 ≤ h15.size := Nat.le_trans Z8 (Keep.of_wr W15).1
  have K17 : Keep h0 h15 [a1, i, n, l1] := K8.wr W15 (Or.inl (List.mem_of_getElem? (i := 2) rfl))
  have Va15 : Arv Z h15 n kn (.object "java/lang/String") (8 : Int32) [x0, x1, (.ref a3), x3, x4, x5, x6, x7] .null := Arv.set Ar14 qc14 Sz14 Nn14 Hs14 Gf14 rfl W15 2 rfl (Nat.le_of_ble_eq_true rfl)
  refine Go.step (T' := T15) (f' := (mkF m 89 #[.val (.ref a1), .val (.int p2), .val (.ref a3), .val (.ref a4)] [])) st15 ?_
  refine Go.step (T' := T15) (f' := (mkF m 90 #[.val (.ref a1), .val (.int p2), .val (.ref a3), .val (.ref a4)] [(.ref a1)])) (fun _ k => XS.aloadN X15.here hx rfl (hb hby d12_89) rfl rfl k) ?_
  have q18 : Fld Z h15 a1 "com/example/fondskit/fondskit/xml/BoundAttributes" "localNames" "[Ljava/lang/String;" (.ref l1) := ((F_localNames_a1.other W7 (Or.inl (Ne.symm hia))).other W15 (Or.inl (Ne.symm hna)))
  obtain ⟨T19, X19, e19, st19⟩ := getF X15 hx hZ hown (host := "") (Or.inl (hw _ (List.mem_of_getElem? (i := 58) rfl))) Via.refl e15 q18 (g := (mkF m 90 #[.val (.ref a1), .val (.int p2), .val (.ref a3), .val (.ref a4)] [(.ref a1)])) rfl rfl (hb hby d12_90)
  refine Go.step (T' := T19) (f' := (mkF m 93 #[.val (.ref a1), .val (.int p2), .val (.ref a3), .val (.ref a4)] [(.ref l1)])) st19 ?_
  refine Go.step (T' := T19) (f' := (mkF m 94 #[.val (.ref a1), .val (.int p2), .val (.ref a3), .val (.ref a4)] [(.ref a1), (.ref l1)])) (fun _ k => XS.aloadN X19.here hx rfl (hb hby d12_93) rfl rfl k) ?_
  have q20 : Fld Z h15 a1 "com/example/fondskit/fondskit/xml/BoundAttributes" "length" "I" (.int (2 : Int32)) := (q11.other W15 (Or.inl (Ne.symm hna)))
  obtain ⟨T21, X21, e21, st21⟩ := getF X19 hx hZ hown (host := "") (Or.inl (hw _ (List.mem_of_getElem? (i := 65) rfl))) Via.refl e19 q20 (g := (mkF m 94 #[.val (.ref a1), .val (.int p2), .val (.ref a3), .val (.ref a4)] [(.ref a1), (.ref l1)])) rfl rfl (hb hby d12_94)
  refine Go.step (T' := T21) (f' := (mkF m 97 #[.val (.ref a1), .val (.int p2), .val (.ref a3), .val (.ref a4)] [(.int (2 : Int32)), (.ref l1)])) st21 ?_
  refine Go.step (T' := T21) (f' := (mkF m 98 #[.val (.ref a1), .val (.int p2), .val (.ref a3), .val (.ref a4)] [(.ref a4), (.int (2 : Int32)), (.ref l1)])) (fun _ k => XS.aloadN X21.here hx rfl (hb hby d12_97) rfl rfl k) ?_
  have q22 : Arv Z h15 l1 kl (.object "java/lang/String") (8 : Int32) [y0, y1, y2, y3, y4, y5, y6, y7] .null := ((V_l1.other W7 (Ne.symm hil)).other W15 (Ne.symm hnl))
  obtain ⟨cl23, Ar23, qc23, Sz23, Nn23, Hs23, Gf23⟩ := id q22
  have q25 : Exa Z h15 a4 "java/lang/String" := ((E_a4.wr W7).wr W15)
  have hin24 : ¬ ((2 : Int32) < 0 ∨ cl23.slots.size ≤ ((2 : Int32)).toNatClampNeg) := (inb_of Sz23 ⟨by decide, by decide⟩)
  obtain ⟨T24, h24, X24, e24, W24, st24⟩ := stR X21 hx hZ e21 Ar23 (j := (2 : Int32)) hin24 rfl (Sto.ofV Ar23 qc23 ovl (Ins.self q25)) (g := (mkF m 98 #[.val (.ref a1), .val (.int p2), .val (.ref a3), .val (.ref a4)] [(.ref a4), (.int (2 : Int32)), (.ref l1)])) rfl rfl (hb hby d12_98)
  have N24 := Fr.snoc X24 N15 g_l1
  have Z26 : n0 ≤ h24.size := Nat.le_trans Z17 (Keep.of_wr W24).1
  have K26 : Keep h0 h24 [a1, i, n, l1] := K17.wr W24 (Or.inl (List.mem_of_getElem? (i := 3) rfl))
  have Va24 : Arv Z h24 l1 kl (.object "java/lang/String") (8 : Int32) [y0, y1, (.ref a4), y3, y4, y5, y6, y7] .null := Arv.set Ar23 qc23 Sz23 Nn23 Hs23 Gf23 rfl W24 2 rfl (Nat.le_of_ble_eq_true rfl)
  refine Go.step (T' := T24) (f' := (mkF m 99 #[.val (.ref a1), .val (.int p2), .val (.ref a3), .val (.ref a4)] [])) st24 ?_
  refine Go.step (T' := T24) (f' := (mkF m 100 #[.val (.ref a1), .val (.int p2), .val (.ref a3), .val (.ref a4)] [(.ref a1)])) (fun _ k => XS.aloadN X24.here hx rfl (hb hby d12_99) rfl rfl k) ?_
  refine Go.step (T' := T24) (f' := (mkF m 101 #[.val (.ref a1), .val (.int p2), .val (.ref a3), .val (.ref a4)] [(.ref a1), (.ref a1)])) (fun _ k => XS.dup X24.here hx rfl (hb hby d12_100) rfl rfl k) ?_
  have q27 : Fld Z h24 a1 "com/example/fondskit/fondskit/xml/BoundAttributes" "length" "I" (.int (2 : Int32)) := (q20.other W24 (Or.inl (Ne.symm hla)))
  obtain ⟨T28, X28, e28, st28⟩ := getF X24 hx hZ hown (host := "") (Or.inl (hw _ (List.mem_of_getElem? (i := 65) rfl))) Via.refl e24 q27 (g := (mkF m 101 #[.val (.ref a1), .val (.int p2), .val (.ref a3), .val (.ref a4)] [(.ref a1), (.ref a1)])) rfl rfl (hb hby d12_101)
  refine Go.step (T' := T28) (f' := (mkF m 104 #[.val (.ref a1), .val (.int p2), .val (.ref a3), .val (.ref a4)] [(.int (2 : Int32)), (.ref a1)])) st28 ?_
  refine Go.step (T' := T28) (f' := (mkF m 105 #[.val (.ref a1), .val (.int p2), .val (.ref a3), .val (.ref a4)] [(.int (1 : Int32)), (.int (2 : Int32)), (.ref a1)])) (fun _ k => XS.iconst X28.here hx rfl (hb hby d12_104) k) ?_
  refine Go.step (T' := T28) (f' := (mkF m 106 #[.val (.ref a1), .val (.int p2), .val (.ref a3), .val (.ref a4)] [(.int (3 : Int32)), (.ref a1)])) (fun _ k => XS.iadd X28.here hx rfl (hb hby d12_105) rfl k) ?_
  have q29 : Exa Z h24 a1 "com/example/fondskit/fondskit/xml/BoundAttributes" := (((E_a1.wr W7).wr W15).wr W24)
  obtain ⟨T30, h30, X30, e30, W30, st30⟩ := putF X28 hx hZ hown (host := "") (Or.inl (hw _ (List.mem_of_getElem? (i := 65) rfl))) Via.refl e28 q27 q29 (Or.inl (hw _ (List.mem_of_getElem? (i := 66) rfl))) (hw _ (List.mem_of_getElem? (i := 46) rfl)) (ty := .int) (by decide) rfl rfl (g := (mkF m 106 #[.val (.ref a1), .val (.int p2), .val (.ref a3), .val (.ref a4)] [(.int (3 : Int32)), (.ref a1)])) rfl rfl (hb hby d12_106)
  have N30 := Fr.snoc X30 N24 g_a1
  have Z31 : n0 ≤ h30.size := Nat.le_trans Z26 (Keep.of_wr W30).1
  have K31 : Keep h0 h30 [a1, i, n, l1] := K26.wr W30 (Or.inl (List.mem_of_getElem? (i := 0) rfl))
  have Fw30 := q27.same W30
  refine Go.step (T' := T30) (f' := (mkF m 109 #[.val (.ref a1), .val (.int p2), .val (.ref a3), .val (.ref a4)] [])) st30 ?_
  refine goV X30 hx Bd.returns Bd.notSynchronized (hb hby d12_109) ?_ (by decide) (by decide)
  show Q_rmAdd2 Z a1 p2 a3 a4 i n l1 ki kn kl w0 w1 w2 w3 w4 w5 w6 w7 x0 x1 x2 x3 x4 x5 x6 x7 y0 y1 y2 y3 y4 y5 y6 y7 h0 n0 _ T30.heap _
  rw [e30]
  have q32 : Fld Z h30 a1 "com/example/fondskit/fondskit/xml/BoundAttributes" "parsed" "Lorg/xml/sax/Attributes;" .null := ((((F_parsed_a1.other W7 (Or.inl (Ne.symm hia))).other W15 (Or.inl (Ne.symm hna))).other W24 (Or.inl (Ne.symm hla))).other W30 (Or.inr (slot_ne (Or.inl (hw _ (List.mem_of_getElem? (i := 73) rfl))) (Or.inl (hw _ (List.mem_of_getElem? (i := 66) rfl))) (by decide) (t := (.object "org/xml/sax/Attributes")) (t' := .int) (by decide) (by decide))))
  have q33 : Fld Z h30 a1 "com/example/fondskit/fondskit/xml/BoundAttributes" "indexes" "[I" (.ref i) := ((((F_indexes_a1.other W7 (Or.inl (Ne.symm hia))).other W15 (Or.inl (Ne.symm hna))).other W24 (Or.inl (Ne.symm hla))).other W30 (Or.inr (slot_ne (Or.inl (hw _ (List.mem_of_getElem? (i := 54) rfl))) (Or.inl (hw _ (List.mem_of_getElem? (i := 66) rfl))) (by decide) (t := (.array .int)) (t' := .int) (by decide) (by decide))))
  have q34 : Fld Z h30 a1 "com/example/fondskit/fondskit/xml/BoundAttributes" "namespaces" "[Ljava/lang/String;" (.ref n) := (((q9.other W15 (Or.inl (Ne.symm hna))).other W24 (Or.inl (Ne.symm hla))).other W30 (Or.inr (slot_ne (Or.inl (hw _ (List.mem_of_getElem? (i := 57) rfl))) (Or.inl (hw _ (List.mem_of_getElem? (i := 66) rfl))) (by decide) (t := (.array (.object "java/lang/String"))) (t' := .int) (by decide) (by decide))))
  have q35 : Fld Z h30 a1 "com/example/fondskit/fondskit/xml/BoundAttributes" "localNames" "[Ljava/lang/String;" (.ref l1) := ((q18.other W24 (Or.inl (Ne.symm hla))).other W30 (Or.inr (slot_ne (Or.inl (hw _ (List.mem_of_getElem? (i := 59) rfl))) (Or.inl (hw _ (List.mem_of_getElem? (i := 66) rfl))) (by decide) (t := (.array (.object "java/lang/String"))) (t' := .int) (by decide) (by decide))))
  have q36 : Arv Z h30 i ki .int (8 : Int32) [w0, w1, (.int p2), w3, w4, w5, w6, w7] (.int (0 : Int32)) := (((Va7.other W15 hin_).other W24 hil).other W30 hia)
  have q37 : Arv Z h30 n kn (.object "java/lang/String") (8 : Int32) [x0, x1, (.ref a3), x3, x4, x5, x6, x7] .null := ((Va15.other W24 hnl).other W30 hna)
  have q38 : Arv Z h30 l1 kl (.object "java/lang/String") (8 : Int32) [y0, y1, (.ref a4), y3, y4, y5, y6, y7] .null := (Va24.other W30 hla)
  exact ⟨rfl, N30, K31, q32, q33, q34, q35, Fw30, q36, q37, q38⟩
theorem d13_0 : decode prog_49_method_2_code 0 = .ok (.aload_n 0, 1) := by decide +kernel
theorem d13_1 : decode prog_49_method_2_code 1 = .ok (.aload_n 1, 1) := by decide +kernel
theorem d13_2 : decode prog_49_method_2_code 2 = .ok (.putfield 22, 3) := by decide +kernel
theorem d13_5 : decode prog_49_method_2_code 5 = .ok (.aload_n 0, 1) := by decide +kernel
theorem d13_6 : decode prog_49_method_2_code 6 = .ok (.iconst 0, 1) := by decide +kernel
theorem d13_7 : decode prog_49_method_2_code 7 = .ok (.putfield 26, 3) := by decide +kernel
theorem d13_10 : decode prog_49_method_2_code 10 = .ok (.return_, 1) := by decide +kernel
theorem ef_rm13 (m : MethodId) (a1 : Addr) : entryFrame m #[(.ref a1), .null] 2 = mkF m 0 #[.val (.ref a1), .val .null] [] := by first | (simp [entryFrame, mkF, argsToLocals, Value.category]; done) | rfl
def Q_rm13 (Z : State) (a1 : Addr) (i : Addr) (n : Addr) (l1 : Addr) (w : Int32) (h0 : Heap) (n0 : Nat) (rv : Option Value) (hq : Heap) (Lq : List Loc) : Prop := rv = none ∧ Fr n0 Lq ∧ Keep h0 hq [a1] ∧ Fld Z hq a1 "com/example/fondskit/fondskit/xml/BoundAttributes" "parsed" "Lorg/xml/sax/Attributes;" .null ∧ Fld Z hq a1 "com/example/fondskit/fondskit/xml/BoundAttributes" "indexes" "[I" (.ref i) ∧ Fld Z hq a1 "com/example/fondskit/fondskit/xml/BoundAttributes" "namespaces" "[Ljava/lang/String;" (.ref n) ∧ Fld Z hq a1 "com/example/fondskit/fondskit/xml/BoundAttributes" "localNames" "[Ljava/lang/String;" (.ref l1) ∧ Fld Z hq a1 "com/example/fondskit/fondskit/xml/BoundAttributes" "length" "I" (.int (0 : Int32))
set_option maxRecDepth 65536 in
set_option maxHeartbeats 40000000 in
theorem rm13 (l : Launch) (Z : State) (a0 : Array Value) (hw : ∀ d ∈ tables_1, d.before a0 Z = true) (ws : List Jvm.Cond) (a1 : Addr) (i : Addr) (n : Addr) (l1 : Addr) (w : Int32) (h0 : Heap) (n0 : Nat) (Z0 : n0 ≤ h0.size) (E_a1 : Exa Z h0 a1 "com/example/fondskit/fondskit/xml/BoundAttributes") (F_parsed_a1 : Fld Z h0 a1 "com/example/fondskit/fondskit/xml/BoundAttributes" "parsed" "Lorg/xml/sax/Attributes;" .null) (F_indexes_a1 : Fld Z h0 a1 "com/example/fondskit/fondskit/xml/BoundAttributes" "indexes" "[I" (.ref i)) (F_namespaces_a1 : Fld Z h0 a1 "com/example/fondskit/fondskit/xml/BoundAttributes" "namespaces" "[Ljava/lang/String;" (.ref n)) (F_localNames_a1 : Fld Z h0 a1 "com/example/fondskit/fondskit/xml/BoundAttributes" "localNames" "[Ljava/lang/String;" (.ref l1)) (F_length_a1 : Fld Z h0 a1 "com/example/fondskit/fondskit/xml/BoundAttributes" "length" "I" (.int w)) (g_a1 : n0 ≤ a1) :
    MetFree l (⟨"com/example/fondskit/fondskit/xml/BoundAttributes", "clear", "(Lorg/xml/sax/Attributes;)V"⟩ : MethodName) (head1 (Jvm.Cond.code (⟨"com/example/fondskit/fondskit/xml/BoundAttributes", "clear", "(Lorg/xml/sax/Attributes;)V"⟩ : MethodName) prog_49_method_2_code 2 none :: ws) ({ frames := 0, cells := 0, slots := 0, locals := 0 } : Room)) (fun a U => a = #[(.ref a1), .null] ∧ Z.Warmed39 U.vm ∧ U.heap = h0) (fun _ _ _ _ _ => True) (fun _ U o U' => ∃ rv Lq, o = .returned rv ∧ Q_rm13 Z a1 i n l1 w h0 n0 rv U'.heap Lq ∧ FrameEnd U o U' Lq ({ frames := 0, cells := 0, slots := 0, locals := 0 } : Room).cells ({ frames := 0, cells := 0, slots := 0, locals := 0 } : Room).slots) := by
  refine MetFree.of_bodySF (plainFor_of_name pn_11) hisR ?_
  intro p e s m args below meth c s₁ Bd hml0 hP hK
  obtain ⟨rfl, hZ, hh⟩ := hP
  have hx := Bd.exec
  have hby := Bd.bytes
  have hml : c.maxLocals = 2 := hml0
  have hown : s.vm.findClass "com/example/fondskit/fondskit/xml/BoundAttributes" = some m.cls := findClass_of_methodNamed Bd.named
  have hnm := (name_of_methodNamed Bd.named Bd.method).1
  have X0 : Stand p l e ({ frames := 0, cells := 0, slots := 0, locals := 0 } : Room) s m #[(.ref a1), .null] below meth c s₁ [] 0 0 := Stand.of_body Bd
  have e0 : s₁.heap = h0 := by rw [← hh, Bd.state]; rfl
  have N0 := Fr.nil n0
  refine of_go (ef_rm13 m a1) ?_
  refine Go.step (T' := s₁) (f' := (mkF m 1 #[.val (.ref a1), .val .null] [(.ref a1)])) (fun _ k => XS.aloadN X0.here hx rfl (hb hby d13_0) rfl rfl k) ?_
  refine Go.step (T' := s₁) (f' := (mkF m 2 #[.val (.ref a1), .val .null] [.null, (.ref a1)])) (fun _ k => XS.aloadN X0.here hx rfl (hb hby d13_1) rfl rfl k) ?_
  obtain ⟨T1, h1, X1, e1, W1, st1⟩ := putF X0 hx hZ hown (host := "") (Or.inl (hw _ (List.mem_of_getElem? (i := 72) rfl))) Via.refl e0 F_parsed_a1 E_a1 (Or.inl (hw _ (List.mem_of_getElem? (i := 73) rfl))) (hw _ (List.mem_of_getElem? (i := 46) rfl)) (ty := (.object "org/xml/sax/Attributes")) (by decide) rfl rfl (g := (mkF m 2 #[.val (.ref a1), .val .null] [.null, (.ref a1)])) rfl rfl (hb hby d13_2)
  have N1 := Fr.snoc X1 N0 g_a1
  have Z2 : n0 ≤ h1.size := Nat.le_trans Z0 (Keep.of_wr W1).1
  have K2 : Keep h0 h1 [a1] := (Keep.refl h0 [a1]).wr W1 (Or.inl (List.mem_of_getElem? (i := 0) rfl))
  have Fw1 := F_parsed_a1.same W1
  refine Go.step (T' := T1) (f' := (mkF m 5 #[.val (.ref a1), .val .null] [])) st1 ?_
  refine Go.step (T' := T1) (f' := (mkF m 6 #[.val (.ref a1), .val .null] [(.ref a1)])) (fun _ k => XS.aloadN X1.here hx rfl (hb hby d13_5) rfl rfl k) ?_
  refine Go.step (T' := T1) (f' := (mkF m 7 #[.val (.ref a1), .val .null] [(.int (0 : Int32)), (.ref a1)])) (fun _ k => XS.iconst X1.here hx rfl (hb hby d13_6) k) ?_
  have q3 : Fld Z h1 a1 "com/example/fondskit/fondskit/xml/BoundAttributes" "length" "I" (.int w) := (F_length_a1.other W1 (Or.inr (slot_ne (Or.inl (hw _ (List.mem_of_getElem? (i := 66) rfl))) (Or.inl (hw _ (List.mem_of_getElem? (i := 73) rfl))) (by decide) (t := .int) (t' := (.object "org/xml/sax/Attributes")) (by decide) (by decide))))
  have q4 : Exa Z h1 a1 "com/example/fondskit/fondskit/xml/BoundAttributes" := (E_a1.wr W1)
  obtain ⟨T5, h5, X5, e5, W5, st5⟩ := putF X1 hx hZ hown (host := "") (Or.inl (hw _ (List.mem_of_getElem? (i := 65) rfl))) Via.refl e1 q3 q4 (Or.inl (hw _ (List.mem_of_getElem? (i := 66) rfl))) (hw _ (List.mem_of_getElem? (i := 46) rfl)) (ty := .int) (by decide) rfl rfl (g := (mkF m 7 #[.val (.ref a1), .val .null] [(.int (0 : Int32)), (.ref a1)])) rfl rfl (hb hby d13_7)
  have N5 := Fr.snoc X5 N1 g_a1
  have Z6 : n0 ≤ h5.size := Nat.le_trans Z2 (Keep.of_wr W5).1
  have K6 : Keep h0 h5 [a1] := K2.wr W5 (Or.inl (List.mem_of_getElem? (i := 0) rfl))
  have Fw5 := q3.same W5
  refine Go.step (T' := T5) (f' := (mkF m 10 #[.val (.ref a1), .val .null] [])) st5 ?_
  refine goV X5 hx Bd.returns Bd.notSynchronized (hb hby d13_10) ?_ (by decide) (by decide)
  show Q_rm13 Z a1 i n l1 w h0 n0 _ T5.heap _
  rw [e5]
  have q7 : Fld Z h5 a1 "com/example/fondskit/fondskit/xml/BoundAttributes" "parsed" "Lorg/xml/sax/Attributes;" .null := (Fw1.other W5 (Or.inr (slot_ne (Or.inl (hw _ (List.mem_of_getElem? (i := 73) rfl))) (Or.inl (hw _ (List.mem_of_getElem? (i := 66) rfl))) (by decide) (t := (.object "org/xml/sax/Attributes")) (t' := .int) (by decide) (by decide))))
  have q8 : Fld Z h5 a1 "com/example/fondskit/fondskit/xml/BoundAttributes" "indexes" "[I" (.ref i) := ((F_indexes_a1.other W1 (Or.inr (slot_ne (Or.inl (hw _ (List.mem_of_getElem? (i := 54) rfl))) (Or.inl (hw _ (List.mem_of_getElem? (i := 73) rfl))) (by decide) (t := (.array .int)) (t' := (.object "org/xml/sax/Attributes")) (by decide) (by decide)))).other W5 (Or.inr (slot_ne (Or.inl (hw _ (List.mem_of_getElem? (i := 54) rfl))) (Or.inl (hw _ (List.mem_of_getElem? (i := 66) rfl))) (by decide) (t := (.array .int)) (t' := .int) (by decide) (by decide))))
  have q9 : Fld Z h5 a1 "com/example/fondskit/fondskit/xml/BoundAttributes" "namespaces" "[Ljava/lang/String;" (.ref n) := ((F_namespaces_a1.other W1 (Or.inr (slot_ne (Or.inl (hw _ (List.mem_of_getElem? (i := 57) rfl))) (Or.inl (hw _ (List.mem_of_getElem? (i := 73) rfl))) (by decide) (t := (.array (.object "java/lang/String"))) (t' := (.object "org/xml/sax/Attributes")) (by decide) (by decide)))).other W5 (Or.inr (slot_ne (Or.inl (hw _ (List.mem_of_getElem? (i := 57) rfl))) (Or.inl (hw _ (List.mem_of_getElem? (i := 66) rfl))) (by decide) (t := (.array (.object "java/lang/String"))) (t' := .int) (by decide) (by decide))))
  have q10 : Fld Z h5 a1 "com/example/fondskit/fondskit/xml/BoundAttributes" "localNames" "[Ljava/lang/String;" (.ref l1) := ((F_localNames_a1.other W1 (Or.inr (slot_ne (Or.inl (hw _ (List.mem_of_getElem? (i := 59) rfl))) (Or.inl (hw _ (List.mem_of_getElem? (i := 73) rfl))) (by decide) (t := (.array (.object "java/lang/String"))) (t' := (.object "org/xml/sax/Attributes")) (by decide) (by decide)))).other W5 (Or.inr (slot_ne (Or.inl (hw _ (List.mem_of_getElem? (i := 59) rfl))) (Or.inl (hw _ (List.mem_of_getElem? (i := 66) rfl))) (by decide) (t := (.array (.object "java/lang/String"))) (t' := .int) (by decide) (by decide))))
  exact ⟨rfl, N5, K6, q7, q8, q9, q10, Fw5⟩
theorem d15_0 : decode prog_49_method_22_code 0 = .ok (.iload_n 1, 1) := by decide +kernel
theorem d15_1 : decode prog_49_method_22_code 1 = .ok (.ifCond .lt 15, 3) := by decide +kernel
theorem d15_16 : decode prog_49_method_22_code 16 = .ok (.iconst 0, 1) := by decide +kernel
theorem d15_17 : decode prog_49_method_22_code 17 = .ok (.ireturn, 1) := by decide +kernel
theorem d15_4 : decode prog_49_method_22_code 4 = .ok (.iload_n 1, 1) := by decide +kernel
theorem d15_5 : decode prog_49_method_22_code 5 = .ok (.aload_n 0, 1) := by decide +kernel
theorem d15_6 : decode prog_49_method_22_code 6 = .ok (.getfield 26, 3) := by decide +kernel
theorem d15_9 : decode prog_49_method_22_code 9 = .ok (.if_icmp .ge 7, 3) := by decide +kernel
theorem ef_rmIx0 (m : MethodId) (a1 : Addr) (p2 : Int32) : entryFrame m #[(.ref a1), (.int p2)] 2 = mkF m 0 #[.val (.ref a1), .val (.int p2)] [] := by first | (simp [entryFrame, mkF, argsToLocals, Value.category]; done) | rfl
def Q_rmIx0 (Z : State) (a1 : Addr) (p2 : Int32) (h0 : Heap) (n0 : Nat) (rv : Option Value) (hq : Heap) (Lq : List Loc) : Prop := rv = some (.int (own_ix 0 p2)) ∧ Fr n0 Lq ∧ hq = h0
set_option maxRecDepth 65536 in
set_option maxHeartbeats 40000000 in
theorem rmIx0 (l : Launch) (Z : State) (a0 : Array Value) (hw : ∀ d ∈ tables_1, d.before a0 Z = true) (ws : List Jvm.Cond) (a1 : Addr) (p2 : Int32) (h0 : Heap) (n0 : Nat) (Z0 : n0 ≤ h0.size) (F_length_a1 : Fld Z h0 a1 "com/example/fondskit/fondskit/xml/BoundAttributes" "length" "I" (.int (0 : Int32))) :
    MetFree l (⟨"com/example/fondskit/fondskit/xml/BoundAttributes", "isIndex", "(I)Z"⟩ : MethodName) (head1 (Jvm.Cond.code (⟨"com/example/fondskit/fondskit/xml/BoundAttributes", "isIndex", "(I)Z"⟩ : MethodName) prog_49_method_22_code 2 (some .boolean) :: ws) ({ frames := 0, cells := 0, slots := 0, locals := 0 } : Room)) (fun a U => a = #[(.ref a1), (.int p2)] ∧ Z.Warmed39 U.vm ∧ U.heap = h0) (fun _ _ _ _ _ => True) (fun _ U o U' => ∃ rv Lq, o = .returned rv ∧ Q_rmIx0 Z a1 p2 h0 n0 rv U'.heap Lq ∧ FrameEnd U o U' Lq ({ frames := 0, cells := 0, slots := 0, locals := 0 } : Room).cells ({ frames := 0, cells := 0, slots := 0, locals := 0 } : Room).slots) := by
  refine MetFree.of_bodySF (plainFor_of_name pn_11) hisR ?_
  intro p e s m args below meth c s₁ Bd hml0 hP hK
  obtain ⟨rfl, hZ, hh⟩ := hP
  have hx := Bd.exec
  have hby := Bd.bytes
  have hml : c.maxLocals = 2 := hml0
  have hown : s.vm.findClass "com/example/fondskit/fondskit/xml/BoundAttributes" = some m.cls := findClass_of_methodNamed Bd.named
  have hnm := (name_of_methodNamed Bd.named Bd.method).1
  have X0 : Stand p l e ({ frames := 0, cells := 0, slots := 0, locals := 0 } : Room) s m #[(.ref a1), (.int p2)] below meth c s₁ [] 0 0 := Stand.of_body Bd
  have e0 : s₁.heap = h0 := by rw [← hh, Bd.state]; rfl
  have N0 := Fr.nil n0
  refine of_go (ef_rmIx0 m a1 p2) ?_
  refine Go.step (T' := s₁) (f' := (mkF m 1 #[.val (.ref a1), .val (.int p2)] [(.int p2)])) (fun _ k => XS.iloadN X0.here hx rfl (hb hby d15_0) rfl k) ?_
  by_cases hc1 : p2 < (0 : Int32)
  · refine Go.step (T' := s₁) (f' := (mkF m 16 #[.val (.ref a1), .val (.int p2)] [])) (fun _ k => XS.ifYes X0.here hx rfl (pc0 := 1) (pc' := 16) rfl (hb hby d15_1) rfl ((if0 _ _).trans (tlt hc1).1) (by decide) (by decide) k) ?_
    refine Go.step (T' := s₁) (f' := (mkF m 17 #[.val (.ref a1), .val (.int p2)] [(.int (0 : Int32))])) (fun _ k => XS.iconst X0.here hx rfl (hb hby d15_16) k) ?_
    refine goN X0 hx (t := .boolean) Bd.returns (by simp) Bd.notSynchronized (hb hby d15_17) ?_ (by decide) (by decide)
    show Q_rmIx0 Z a1 p2 h0 n0 _ s₁.heap _
    rw [e0]
    exact ⟨by rw [own_ix0 (by simp only [Int32.lt_iff_toInt_lt, ← Int32.toInt_inj, Int32.reduceToInt] at hc1 <;> omega)]; rfl, N0, rfl⟩
  · refine Go.step (T' := s₁) (f' := (mkF m 4 #[.val (.ref a1), .val (.int p2)] [])) (fun _ k => XS.ifNo X0.here hx rfl (hb hby d15_1) rfl ((if0 _ _).trans (flt hc1).1) k) ?_
    refine Go.step (T' := s₁) (f' := (mkF m 5 #[.val (.ref a1), .val (.int p2)] [(.int p2)])) (fun _ k => XS.iloadN X0.here hx rfl (hb hby d15_4) rfl k) ?_
    refine Go.step (T' := s₁) (f' := (mkF m 6 #[.val (.ref a1), .val (.int p2)] [(.ref a1), (.int p2)])) (fun _ k => XS.aloadN X0.here hx rfl (hb hby d15_5) rfl rfl k) ?_
    obtain ⟨T1, X1, e1, st1⟩ := getF X0 hx hZ hown (host := "") (Or.inl (hw _ (List.mem_of_getElem? (i := 65) rfl))) Via.refl e0 F_length_a1 (g := (mkF m 6 #[.val (.ref a1), .val (.int p2)] [(.ref a1), (.int p2)])) rfl rfl (hb hby d15_6)
    refine Go.step (T' := T1) (f' := (mkF m 9 #[.val (.ref a1), .val (.int p2)] [(.int (0 : Int32)), (.int p2)])) st1 ?_
    refine Go.step (T' := T1) (f' := (mkF m 16 #[.val (.ref a1), .val (.int p2)] [])) (fun _ k => XS.icmpYes X1.here hx rfl (pc0 := 9) (pc' := 16) rfl (hb hby d15_9) rfl (flt hc1).2.1 (by decide) (by decide) k) ?_
    refine Go.step (T' := T1) (f' := (mkF m 17 #[.val (.ref a1), .val (.int p2)] [(.int (0 : Int32))])) (fun _ k => XS.iconst X1.here hx rfl (hb hby d15_16) k) ?_
    refine goN X1 hx (t := .boolean) Bd.returns (by simp) Bd.notSynchronized (hb hby d15_17) ?_ (by decide) (by decide)
    show Q_rmIx0 Z a1 p2 h0 n0 _ T1.heap _
    rw [e1]
    exact ⟨by rw [own_ix0 (by simp only [Int32.lt_iff_toInt_lt, ← Int32.toInt_inj, Int32.reduceToInt] at hc1 <;> omega)]; rfl, N0, rfl⟩
theorem d14_0 : decode prog_49_method_6_code 0 = .ok (.aload_n 0, 1) := by decide +kernel
theorem d14_1 : decode prog_49_method_6_code 1 = .ok (.iload_n 1, 1) := by decide +kernel
theorem d14_2 : decode prog_49_method_6_code 2 = .ok (.invokevirtual 40, 3) := by decide +kernel
theorem pd_7 : parseMethodDescriptor "(I)Z" = some ⟨[.int], some .boolean⟩ := by decide +kernel
theorem d14_5 : decode prog_49_method_6_code 5 = .ok (.ifCond .eq 12, 3) := by decide +kernel
theorem d14_8 : decode prog_49_method_6_code 8 = .ok (.aload_n 0, 1) := by decide +kernel
theorem d14_9 : decode prog_49_method_6_code 9 = .ok (.getfield 19, 3) := by decide +kernel
theorem d14_12 : decode prog_49_method_6_code 12 = .ok (.iload_n 1, 1) := by decide +kernel
theorem d14_13 : decode prog_49_method_6_code 13 = .ok (.aaload, 1) := by decide +kernel
theorem d14_14 : decode prog_49_method_6_code 14 = .ok (.goto 4, 3) := by decide +kernel
theorem d14_18 : decode prog_49_method_6_code 18 = .ok (.areturn, 1) := by decide +kernel
theorem d14_17 : decode prog_49_method_6_code 17 = .ok (.aconst_null, 1) := by decide +kernel
theorem ef_rmGl0 (m : MethodId) (a1 : Addr) (p2 : Int32) : entryFrame m #[(.ref a1), (.int p2)] 2 = mkF m 0 #[.val (.ref a1), .val (.int p2)] [] := by first | (simp [entryFrame, mkF, argsToLocals, Value.category]; done) | rfl
def Q_rmGl0 (Z : State) (a1 : Addr) (p2 : Int32) (l1 : Addr) (kl : ClassId) (y0 : Value) (y1 : Value) (y2 : Value) (y3 : Value) (y4 : Value) (y5 : Value) (y6 : Value) (y7 : Value) (h0 : Heap) (n0 : Nat) (rv : Option Value) (hq : Heap) (Lq : List Loc) : Prop := rv = some (own_sel 0 .null .null .null p2) ∧ Fr n0 Lq ∧ hq = h0
set_option maxRecDepth 65536 in
set_option maxHeartbeats 40000000 in
theorem rmGl0 (l : Launch) (Z : State) (a0 : Array Value) (hw : ∀ d ∈ tables_1, d.before a0 Z = true) (ws : List Jvm.Cond) (a1 : Addr) (p2 : Int32) (l1 : Addr) (kl : ClassId) (y0 : Value) (y1 : Value) (y2 : Value) (y3 : Value) (y4 : Value) (y5 : Value) (y6 : Value) (y7 : Value) (h0 : Heap) (n0 : Nat) (Z0 : n0 ≤ h0.size) (E_a1 : Exa Z h0 a1 "com/example/fondskit/fondskit/xml/BoundAttributes") (F_length_a1 : Fld Z h0 a1 "com/example/fondskit/fondskit/xml/BoundAttributes" "length" "I" (.int (0 : Int32))) (F_localNames_a1 : Fld Z h0 a1 "com/example/fondskit/fondskit/xml/BoundAttributes" "localNames" "[Ljava/lang/String;" (.ref l1)) (V_l1 : Arv Z h0 l1 kl (.object "java/lang/String") (8 : Int32) [y0, y1, y2, y3, y4, y5, y6, y7] .null) :
    MetFree l (⟨"com/example/fondskit/fondskit/xml/BoundAttributes", "getLocalName", "(I)Ljava/lang/String;"⟩ : MethodName) (head1 (Jvm.Cond.code (⟨"com/example/fondskit/fondskit/xml/BoundAttributes", "getLocalName", "(I)Ljava/lang/String;"⟩ : MethodName) prog_49_method_6_code 2 (some (.object "java/lang/String")) :: ws) ({ frames := 1, cells := 0, slots := 0, locals := 13 } : Room)) (fun a U => a = #[(.ref a1), (.int p2)] ∧ Z.Warmed39 U.vm ∧ U.heap = h0) (fun _ _ _ _ _ => True) (fun _ U o U' => ∃ rv Lq, o = .returned rv ∧ Q_rmGl0 Z a1 p2 l1 kl y0 y1 y2 y3 y4 y5 y6 y7 h0 n0 rv U'.heap Lq ∧ FrameEnd U o U' Lq ({ frames := 1, cells := 0, slots := 0, locals := 13 } : Room).cells ({ frames := 1, cells := 0, slots := 0, locals := 13 } : Room).slots) := by
  refine MetFree.of_bodySF (plainFor_of_name pn_11) hisR ?_
  intro p e s m args below meth c s₁ Bd hml0 hP hK
  obtain ⟨rfl, hZ, hh⟩ := hP
  have hx := Bd.exec
  have hby := Bd.bytes
  have hml : c.maxLocals = 2 := hml0
  have hown : s.vm.findClass "com/example/fondskit/fondskit/xml/BoundAttributes" = some m.cls := findClass_of_methodNamed Bd.named
  have hnm := (name_of_methodNamed Bd.named Bd.method).1
  have X0 : Stand p l e ({ frames := 1, cells := 0, slots := 0, locals := 13 } : Room) s m #[(.ref a1), (.int p2)] below meth c s₁ [] 0 0 := Stand.of_body Bd
  have e0 : s₁.heap = h0 := by rw [← hh, Bd.state]; rfl
  have N0 := Fr.nil n0
  refine of_go (ef_rmGl0 m a1 p2) ?_
  refine Go.step (T' := s₁) (f' := (mkF m 1 #[.val (.ref a1), .val (.int p2)] [(.ref a1)])) (fun _ k => XS.aloadN X0.here hx rfl (hb hby d14_0) rfl rfl k) ?_
  refine Go.step (T' := s₁) (f' := (mkF m 2 #[.val (.ref a1), .val (.int p2)] [(.int p2), (.ref a1)])) (fun _ k => XS.iloadN X0.here hx rfl (hb hby d14_1) rfl k) ?_
  obtain ⟨cq1, q1, q1'⟩ := E_a1.cell
  obtain ⟨_, _, ⟨T1, L1, kk1, nn1⟩, -, X1, ⟨Lc1, hQ1, lq1, yq1, zq1⟩, st1⟩ := X0.privateBack hx (y := (⟨"com/example/fondskit/fondskit/xml/BoundAttributes", "isIndex", "(I)Z"⟩ : MethodName)) hown (mvT hZ (hw _ (List.mem_of_getElem? (i := 79) rfl))) (mvT hZ (hw _ (List.mem_of_getElem? (i := 80) rfl))) (Jvm.Kit.selects_private (by decide) (mvT hZ (hw _ (List.mem_of_getElem? (i := 46) rfl))) (mvP hZ (hw _ (List.mem_of_getElem? (i := 81) rfl))) (mvT hZ (hw _ (List.mem_of_getElem? (i := 80) rfl)))) (Cond.privateMethod_at (mvP hZ (hw _ (List.mem_of_getElem? (i := 81) rfl)) (args := #[]))) (mvT hZ (hw _ (List.mem_of_getElem? (i := 82) rfl))) (by decide) (backOf (W := 0) (rmIx0 l Z a0 hw [] a1 p2 h0 n0 Z0 F_length_a1) hZ (hw _ (List.mem_of_getElem? (i := 82) rfl)) (hw _ (List.mem_of_getElem? (i := 47) rfl)) (by decide) (by decide)) (g := (mkF m 2 #[.val (.ref a1), .val (.int p2)] [(.int p2), (.ref a1)])) rfl (by rw [hml]; rfl) (Steps.refl _) (a := a1) (by rw [e0]; exact q1) q1' (argsL := [(.int p2)]) (rest := []) (lenOf pd_7 rfl) rfl (by show 2 * 0 + _ ≤ _; exact Nat.le_of_eq rfl) (hb hby d14_2) (fun _ _ => ⟨rfl, e0, (by decide : 0 + 0 ≤ _), (by decide : 0 + 0 ≤ _)⟩)
  dsimp only [Pt.U, Pt.locs, Pt.cells, Pt.slots] at X1 lq1 yq1 zq1 st1 hQ1
  subst yq1 zq1
  obtain ⟨rfl, Nq1, eh1⟩ := hQ1
  have N1 : Fr n0 L1 := by rw [lq1]; exact Fr.app N0 Nq1
  refine Go.step (T' := T1) (f' := (mkF m 5 #[.val (.ref a1), .val (.int p2)] [(.int (own_ix 0 p2))])) (fun _ k => st1.trans k) ?_
  rcases Classical.em (0 ≤ p2.toInt ∧ p2.toInt < 0) with hr | hr
  · obtain ⟨hlo, hhi⟩ := hr
    rw [own_ix1 (n := 0) (i := p2) ⟨hlo, hhi⟩]
    refine Go.step (T' := T1) (f' := (mkF m 8 #[.val (.ref a1), .val (.int p2)] [])) (fun _ k => XS.ifNo X1.here hx rfl (hb hby d14_5) rfl ((if0 _ _).trans (feq (by decide : ¬ ((1 : Int32) = (0 : Int32)))).1) k) ?_
    refine Go.step (T' := T1) (f' := (mkF m 9 #[.val (.ref a1), .val (.int p2)] [(.ref a1)])) (fun _ k => XS.aloadN X1.here hx rfl (hb hby d14_8) rfl rfl k) ?_
    obtain ⟨T2, X2, e2, st2⟩ := getF X1 hx hZ hown (host := "") (Or.inl (hw _ (List.mem_of_getElem? (i := 58) rfl))) Via.refl eh1 F_localNames_a1 (g := (mkF m 9 #[.val (.ref a1), .val (.int p2)] [(.ref a1)])) rfl rfl (hb hby d14_9)
    refine Go.step (T' := T2) (f' := (mkF m 12 #[.val (.ref a1), .val (.int p2)] [(.ref l1)])) st2 ?_
    refine Go.step (T' := T2) (f' := (mkF m 13 #[.val (.ref a1), .val (.int p2)] [(.int p2), (.ref l1)])) (fun _ k => XS.iloadN X2.here hx rfl (hb hby d14_12) rfl k) ?_
    obtain ⟨cl3, Ar3, qc3, Sz3, Nn3, Hs3, Gf3⟩ := id V_l1
    have hin4 : ¬ (p2 < 0 ∨ cl3.slots.size ≤ (p2).toNatClampNeg) := (inb_of Sz3 (by constructor <;> simp only [Int32.lt_iff_toInt_lt, Int32.reduceToInt] <;> omega))
    have hu4 : ([y0, y1, y2, y3, y4, y5, y6, y7] : List Value).getD (p2).toNatClampNeg .null = (own_sel 0 .null .null .null p2) := own_getD0 hlo hhi
    have hR : ((own_sel 0 .null .null .null p2) : Value).isRef = true := hu4 ▸ fit_R (Gf3 _ (Nat.lt_of_not_le fun y => hin4 (Or.inr y))) rfl
    have hat4 : cl3.slots[(p2).toNatClampNeg]? = some (own_sel 0 .null .null .null p2) := Has.at Hs3 hin4 hu4
    refine Go.step (T' := T2) (f' := (mkF m 14 #[.val (.ref a1), .val (.int p2)] [(own_sel 0 .null .null .null p2)])) (fun _ k => X2.aaload hx (j := p2) (v := (own_sel 0 .null .null .null p2)) (by rw [e2]; exact Ar3.1) (State.isArrayOf_alike hZ.alike Ar3.2.1) rfl Ar3.2.2 hin4 hat4 (g := (mkF m 13 #[.val (.ref a1), .val (.int p2)] [(.int p2), (.ref l1)])) rfl rfl (hb hby d14_13) _ k) ?_
    refine Go.step (T' := T2) (f' := (mkF m 18 #[.val (.ref a1), .val (.int p2)] [(own_sel 0 .null .null .null p2)])) (fun _ k => XS.goto X2.here hx rfl (pc0 := 14) (pc' := 18) rfl (hb hby d14_14) (by decide) (by decide) k) ?_
    refine goA X2 hx Bd.returns rfl hR Bd.notSynchronized (hb hby d14_18) ?_ (by decide) (by decide)
    show Q_rmGl0 Z a1 p2 l1 kl y0 y1 y2 y3 y4 y5 y6 y7 h0 n0 _ T2.heap _
    rw [e2]
    exact ⟨rfl, N1, rfl⟩
  · have hno : p2.toInt < 0 ∨ 0 ≤ p2.toInt := by omega
    rw [own_ix0 (n := 0) (i := p2) hr]
    refine Go.step (T' := T1) (f' := (mkF m 17 #[.val (.ref a1), .val (.int p2)] [])) (fun _ k => XS.ifYes X1.here hx rfl (pc0 := 5) (pc' := 17) rfl (hb hby d14_5) rfl ((if0 _ _).trans (teq (by decide : (0 : Int32) = (0 : Int32))).1) (by decide) (by decide) k) ?_
    refine Go.step (T' := T1) (f' := (mkF m 18 #[.val (.ref a1), .val (.int p2)] [.null])) (fun _ k => XS.aconstNull X1.here hx rfl (hb hby d14_17) k) ?_
    refine goA X1 hx Bd.returns rfl rfl Bd.notSynchronized (hb hby d14_18) ?_ (by decide) (by decide)
    show Q_rmGl0 Z a1 p2 l1 kl y0 y1 y2 y3 y4 y5 y6 y7 h0 n0 _ T1.heap _
    rw [eh1]
    exact ⟨by rw [own_sel0 (hno)], N1, rfl⟩
theorem d16_0 : decode method_3_code 0 = .ok (.iload_n 2, 1) := by decide +kernel
theorem d16_1 : decode method_3_code 1 = .ok (.ifCond .ge 5, 3) := by decide +kernel
theorem d16_4 : decode method_3_code 4 = .ok (.aconst_null, 1) := by decide +kernel
theorem d16_5 : decode method_3_code 5 = .ok (.areturn, 1) := by decide +kernel
theorem d16_6 : decode method_3_code 6 = .ok (.iload_n 2, 1) := by decide +kernel
theorem d16_7 : decode method_3_code 7 = .ok (.iload_n 1, 1) := by decide +kernel
theorem d16_8 : decode method_3_code 8 = .ok (.if_icmp .lt 5, 3) := by decide +kernel
theorem d16_11 : decode method_3_code 11 = .ok (.aconst_null, 1) := by decide +kernel
theorem d16_12 : decode method_3_code 12 = .ok (.areturn, 1) := by decide +kernel
theorem pn_16 : plainName "com/example/fondskit/fondskit/xml/BoundAttributesGetLocalNamePinLaw" = true := by first | (simp [plainName, overriddenIn]; done) | decide +kernel
theorem ef_rmEp0 (m : MethodId) (a1 : Addr) (p3 : Int32) : entryFrame m #[(.ref a1), (.int (0 : Int32)), (.int p3)] 3 = mkF m 0 #[.val (.ref a1), .val (.int (0 : Int32)), .val (.int p3)] [] := by first | (simp [entryFrame, mkF, argsToLocals, Value.category]; done) | rfl
def Q_rmEp0 (Z : State) (a1 : Addr) (p3 : Int32) (kl : ClassId) (y0 : Value) (y1 : Value) (y2 : Value) (h0 : Heap) (n0 : Nat) (rv : Option Value) (hq : Heap) (Lq : List Loc) : Prop := rv = some (own_sel 0 .null .null .null p3) ∧ Fr n0 Lq ∧ hq = h0
set_option maxRecDepth 65536 in
set_option maxHeartbeats 40000000 in
theorem rmEp0 (l : Launch) (Z : State) (a0 : Array Value) (hw : ∀ d ∈ tables_1, d.before a0 Z = true) (ws : List Jvm.Cond) (a1 : Addr) (p3 : Int32) (kl : ClassId) (y0 : Value) (y1 : Value) (y2 : Value) (h0 : Heap) (n0 : Nat) (Z0 : n0 ≤ h0.size) (V_a1 : Arv Z h0 a1 kl (.object "java/lang/String") (3 : Int32) [y0, y1, y2] .null) :
    MetFree l (⟨"com/example/fondskit/fondskit/xml/BoundAttributesGetLocalNamePinLaw", "expected", "([Ljava/lang/String;II)Ljava/lang/String;"⟩ : MethodName) (head1 (Jvm.Cond.code (⟨"com/example/fondskit/fondskit/xml/BoundAttributesGetLocalNamePinLaw", "expected", "([Ljava/lang/String;II)Ljava/lang/String;"⟩ : MethodName) method_3_code 3 (some (.object "java/lang/String")) :: ws) ({ frames := 0, cells := 0, slots := 0, locals := 0 } : Room)) (fun a U => a = #[(.ref a1), (.int (0 : Int32)), (.int p3)] ∧ Z.Warmed39 U.vm ∧ U.heap = h0) (fun _ _ _ _ _ => True) (fun _ U o U' => ∃ rv Lq, o = .returned rv ∧ Q_rmEp0 Z a1 p3 kl y0 y1 y2 h0 n0 rv U'.heap Lq ∧ FrameEnd U o U' Lq ({ frames := 0, cells := 0, slots := 0, locals := 0 } : Room).cells ({ frames := 0, cells := 0, slots := 0, locals := 0 } : Room).slots) := by
  refine MetFree.of_bodySF (plainFor_of_name pn_16) hisR ?_
  intro p e s m args below meth c s₁ Bd hml0 hP hK
  obtain ⟨rfl, hZ, hh⟩ := hP
  have hx := Bd.exec
  have hby := Bd.bytes
  have hml : c.maxLocals = 3 := hml0
  have hown : s.vm.findClass "com/example/fondskit/fondskit/xml/BoundAttributesGetLocalNamePinLaw" = some m.cls := findClass_of_methodNamed Bd.named
  have hnm := (name_of_methodNamed Bd.named Bd.method).1
  have X0 : Stand p l e ({ frames := 0, cells := 0, slots := 0, locals := 0 } : Room) s m #[(.ref a1), (.int (0 : Int32)), (.int p3)] below meth c s₁ [] 0 0 := Stand.of_body Bd
  have e0 : s₁.heap = h0 := by rw [← hh, Bd.state]; rfl
  have N0 := Fr.nil n0
  refine of_go (ef_rmEp0 m a1 p3) ?_
  refine Go.step (T' := s₁) (f' := (mkF m 1 #[.val (.ref a1), .val (.int (0 : Int32)), .val (.int p3)] [(.int p3)])) (fun _ k => XS.iloadN X0.here hx rfl (hb hby d16_0) rfl k) ?_
  by_cases hc1 : p3 < (0 : Int32)
  · refine Go.step (T' := s₁) (f' := (mkF m 4 #[.val (.ref a1), .val (.int (0 : Int32)), .val (.int p3)] [])) (fun _ k => XS.ifNo X0.here hx rfl (hb hby d16_1) rfl ((if0 _ _).trans (tlt hc1).2.1) k) ?_
    refine Go.step (T' := s₁) (f' := (mkF m 5 #[.val (.ref a1), .val (.int (0 : Int32)), .val (.int p3)] [.null])) (fun _ k => XS.aconstNull X0.here hx rfl (hb hby d16_4) k) ?_
    refine goA X0 hx Bd.returns rfl rfl Bd.notSynchronized (hb hby d16_5) ?_ (by decide) (by decide)
    show Q_rmEp0 Z a1 p3 kl y0 y1 y2 h0 n0 _ s₁.heap _
    rw [e0]
    exact ⟨by rw [own_sel0 (by simp only [Int32.lt_iff_toInt_lt, ← Int32.toInt_inj, Int32.reduceToInt] at hc1 <;> omega)], N0, rfl⟩
  · refine Go.step (T' := s₁) (f' := (mkF m 6 #[.val (.ref a1), .val (.int (0 : Int32)), .val (.int p3)] [])) (fun _ k => XS.ifYes X0.here hx rfl (pc0 := 1) (pc' := 6) rfl (hb hby d16_1) rfl ((if0 _ _).trans (flt hc1).2.1) (by decide) (by decide) k) ?_
    refine Go.step (T' := s₁) (f' := (mkF m 7 #[.val (.ref a1), .val (.int (0 : Int32)), .val (.int p3)] [(.int p3)])) (fun _ k => XS.iloadN X0.here hx rfl (hb hby d16_6) rfl k) ?_
    refine Go.step (T' := s₁) (f' := (mkF m 8 #[.val (.ref a1), .val (.int (0 : Int32)), .val (.int p3)] [(.int (0 : Int32)), (.int p3)])) (fun _ k => XS.iloadN X0.here hx rfl (hb hby d16_7) rfl k) ?_
    refine Go.step (T' := s₁) (f' := (mkF m 11 #[.val (.ref a1), .val (.int (0 : Int32)), .val (.int p3)] [])) (fun _ k => XS.icmpNo X0.here hx rfl (hb hby d16_8) rfl (flt hc1).1 k) ?_
    refine Go.step (T' := s₁) (f' := (mkF m 12 #[.val (.ref a1), .val (.int (0 : Int32)), .val (.int p3)] [.null])) (fun _ k => XS.aconstNull X0.here hx rfl (hb hby d16_11) k) ?_
    refine goA X0 hx Bd.returns rfl rfl Bd.notSynchronized (hb hby d16_12) ?_ (by decide) (by decide)
    show Q_rmEp0 Z a1 p3 kl y0 y1 y2 h0 n0 _ s₁.heap _
    rw [e0]
    exact ⟨by rw [own_sel0 (by simp only [Int32.lt_iff_toInt_lt, ← Int32.toInt_inj, Int32.reduceToInt] at hc1 <;> omega)], N0, rfl⟩
theorem d15_12 : decode prog_49_method_22_code 12 = .ok (.iconst 1, 1) := by decide +kernel
theorem d15_13 : decode prog_49_method_22_code 13 = .ok (.goto 4, 3) := by decide +kernel
theorem ef_rmIx1 (m : MethodId) (a1 : Addr) (p2 : Int32) : entryFrame m #[(.ref a1), (.int p2)] 2 = mkF m 0 #[.val (.ref a1), .val (.int p2)] [] := by first | (simp [entryFrame, mkF, argsToLocals, Value.category]; done) | rfl
def Q_rmIx1 (Z : State) (a1 : Addr) (p2 : Int32) (h0 : Heap) (n0 : Nat) (rv : Option Value) (hq : Heap) (Lq : List Loc) : Prop := rv = some (.int (own_ix 1 p2)) ∧ Fr n0 Lq ∧ hq = h0
set_option maxRecDepth 65536 in
set_option maxHeartbeats 40000000 in
theorem rmIx1 (l : Launch) (Z : State) (a0 : Array Value) (hw : ∀ d ∈ tables_1, d.before a0 Z = true) (ws : List Jvm.Cond) (a1 : Addr) (p2 : Int32) (h0 : Heap) (n0 : Nat) (Z0 : n0 ≤ h0.size) (F_length_a1 : Fld Z h0 a1 "com/example/fondskit/fondskit/xml/BoundAttributes" "length" "I" (.int (1 : Int32))) :
    MetFree l (⟨"com/example/fondskit/fondskit/xml/BoundAttributes", "isIndex", "(I)Z"⟩ : MethodName) (head1 (Jvm.Cond.code (⟨"com/example/fondskit/fondskit/xml/BoundAttributes", "isIndex", "(I)Z"⟩ : MethodName) prog_49_method_22_code 2 (some .boolean) :: ws) ({ frames := 0, cells := 0, slots := 0, locals := 0 } : Room)) (fun a U => a = #[(.ref a1), (.int p2)] ∧ Z.Warmed39 U.vm ∧ U.heap = h0) (fun _ _ _ _ _ => True) (fun _ U o U' => ∃ rv Lq, o = .returned rv ∧ Q_rmIx1 Z a1 p2 h0 n0 rv U'.heap Lq ∧ FrameEnd U o U' Lq ({ frames := 0, cells := 0, slots := 0, locals := 0 } : Room).cells ({ frames := 0, cells := 0, slots := 0, locals := 0 } : Room).slots) := by
  refine MetFree.of_bodySF (plainFor_of_name pn_11) hisR ?_
  intro p e s m args below meth c s₁ Bd hml0 hP hK
  obtain ⟨rfl, hZ, hh⟩ := hP
  have hx := Bd.exec
  have hby := Bd.bytes
  have hml : c.maxLocals = 2 := hml0
  have hown : s.vm.findClass "com/example/fondskit/fondskit/xml/BoundAttributes" = some m.cls := findClass_of_methodNamed Bd.named
  have hnm := (name_of_methodNamed Bd.named Bd.method).1
  have X0 : Stand p l e ({ frames := 0, cells := 0, slots := 0, locals := 0 } : Room) s m #[(.ref a1), (.int p2)] below meth c s₁ [] 0 0 := Stand.of_body Bd
  have e0 : s₁.heap = h0 := by rw [← hh, Bd.state]; rfl
  have N0 := Fr.nil n0
  refine of_go (ef_rmIx1 m a1 p2) ?_
  refine Go.step (T' := s₁) (f' := (mkF m 1 #[.val (.ref a1), .val (.int p2)] [(.int p2)])) (fun _ k => XS.iloadN X0.here hx rfl (hb hby d15_0) rfl k) ?_
  by_cases hc1 : p2 < (0 : Int32)
  · refine Go.step (T' := s₁) (f' := (mkF m 16 #[.val (.ref a1), .val (.int p2)] [])) (fun _ k => XS.ifYes X0.here hx rfl (pc0 := 1) (pc' := 16) rfl (hb hby d15_1) rfl ((if0 _ _).trans (tlt hc1).1) (by decide) (by decide) k) ?_
    refine Go.step (T' := s₁) (f' := (mkF m 17 #[.val (.ref a1), .val (.int p2)] [(.int (0 : Int32))])) (fun _ k => XS.iconst X0.here hx rfl (hb hby d15_16) k) ?_
    refine goN X0 hx (t := .boolean) Bd.returns (by simp) Bd.notSynchronized (hb hby d15_17) ?_ (by decide) (by decide)
    show Q_rmIx1 Z a1 p2 h0 n0 _ s₁.heap _
    rw [e0]
    exact ⟨by rw [own_ix0 (by simp only [Int32.lt_iff_toInt_lt, ← Int32.toInt_inj, Int32.reduceToInt] at hc1 <;> omega)]; rfl, N0, rfl⟩
  · refine Go.step (T' := s₁) (f' := (mkF m 4 #[.val (.ref a1), .val (.int p2)] [])) (fun _ k => XS.ifNo X0.here hx rfl (hb hby d15_1) rfl ((if0 _ _).trans (flt hc1).1) k) ?_
    refine Go.step (T' := s₁) (f' := (mkF m 5 #[.val (.ref a1), .val (.int p2)] [(.int p2)])) (fun _ k => XS.iloadN X0.here hx rfl (hb hby d15_4) rfl k) ?_
    refine Go.step (T' := s₁) (f' := (mkF m 6 #[.val (.ref a1), .val (.int p2)] [(.ref a1), (.int p2)])) (fun _ k => XS.aloadN X0.here hx rfl (hb hby d15_5) rfl rfl k) ?_
    obtain ⟨T1, X1, e1, st1⟩ := getF X0 hx hZ hown (host := "") (Or.inl (hw _ (List.mem_of_getElem? (i := 65) rfl))) Via.refl e0 F_length_a1 (g := (mkF m 6 #[.val (.ref a1), .val (.int p2)] [(.ref a1), (.int p2)])) rfl rfl (hb hby d15_6)
    refine Go.step (T' := T1) (f' := (mkF m 9 #[.val (.ref a1), .val (.int p2)] [(.int (1 : Int32)), (.int p2)])) st1 ?_
    by_cases hc9 : p2 < (1 : Int32)
    · refine Go.step (T' := T1) (f' := (mkF m 12 #[.val (.ref a1), .val (.int p2)] [])) (fun _ k => XS.icmpNo X1.here hx rfl (hb hby d15_9) rfl (tlt hc9).2.1 k) ?_
      refine Go.step (T' := T1) (f' := (mkF m 13 #[.val (.ref a1), .val (.int p2)] [(.int (1 : Int32))])) (fun _ k => XS.iconst X1.here hx rfl (hb hby d15_12) k) ?_
      refine Go.step (T' := T1) (f' := (mkF m 17 #[.val (.ref a1), .val (.int p2)] [(.int (1 : Int32))])) (fun _ k => XS.goto X1.here hx rfl (pc0 := 13) (pc' := 17) rfl (hb hby d15_13) (by decide) (by decide) k) ?_
      refine goN X1 hx (t := .boolean) Bd.returns (by simp) Bd.notSynchronized (hb hby d15_17) ?_ (by decide) (by decide)
      show Q_rmIx1 Z a1 p2 h0 n0 _ T1.heap _
      rw [e1]
      exact ⟨by rw [own_ix1 (by simp only [Int32.lt_iff_toInt_lt, ← Int32.toInt_inj, Int32.reduceToInt] at hc1 hc9 <;> omega)]; rfl, N0, rfl⟩
    · refine Go.step (T' := T1) (f' := (mkF m 16 #[.val (.ref a1), .val (.int p2)] [])) (fun _ k => XS.icmpYes X1.here hx rfl (pc0 := 9) (pc' := 16) rfl (hb hby d15_9) rfl (flt hc9).2.1 (by decide) (by decide) k) ?_
      refine Go.step (T' := T1) (f' := (mkF m 17 #[.val (.ref a1), .val (.int p2)] [(.int (0 : Int32))])) (fun _ k => XS.iconst X1.here hx rfl (hb hby d15_16) k) ?_
      refine goN X1 hx (t := .boolean) Bd.returns (by simp) Bd.notSynchronized (hb hby d15_17) ?_ (by decide) (by decide)
      show Q_rmIx1 Z a1 p2 h0 n0 _ T1.heap _
      rw [e1]
      exact ⟨by rw [own_ix0 (by simp only [Int32.lt_iff_toInt_lt, ← Int32.toInt_inj, Int32.reduceToInt] at hc1 hc9 <;> omega)]; rfl, N0, rfl⟩
theorem ef_rmGl1 (m : MethodId) (a1 : Addr) (p2 : Int32) : entryFrame m #[(.ref a1), (.int p2)] 2 = mkF m 0 #[.val (.ref a1), .val (.int p2)] [] := by first | (simp [entryFrame, mkF, argsToLocals, Value.category]; done) | rfl
def Q_rmGl1 (Z : State) (a1 : Addr) (p2 : Int32) (l1 : Addr) (kl : ClassId) (y0 : Value) (y1 : Value) (y2 : Value) (y3 : Value) (y4 : Value) (y5 : Value) (y6 : Value) (y7 : Value) (h0 : Heap) (n0 : Nat) (rv : Option Value) (hq : Heap) (Lq : List Loc) : Prop := rv = some (own_sel 1 y0 .null .null p2) ∧ Fr n0 Lq ∧ hq = h0
set_option maxRecDepth 65536 in
set_option maxHeartbeats 40000000 in
theorem rmGl1 (l : Launch) (Z : State) (a0 : Array Value) (hw : ∀ d ∈ tables_1, d.before a0 Z = true) (ws : List Jvm.Cond) (a1 : Addr) (p2 : Int32) (l1 : Addr) (kl : ClassId) (y0 : Value) (y1 : Value) (y2 : Value) (y3 : Value) (y4 : Value) (y5 : Value) (y6 : Value) (y7 : Value) (h0 : Heap) (n0 : Nat) (Z0 : n0 ≤ h0.size) (E_a1 : Exa Z h0 a1 "com/example/fondskit/fondskit/xml/BoundAttributes") (F_length_a1 : Fld Z h0 a1 "com/example/fondskit/fondskit/xml/BoundAttributes" "length" "I" (.int (1 : Int32))) (F_localNames_a1 : Fld Z h0 a1 "com/example/fondskit/fondskit/xml/BoundAttributes" "localNames" "[Ljava/lang/String;" (.ref l1)) (V_l1 : Arv Z h0 l1 kl (.object "java/lang/String") (8 : Int32) [y0, y1, y2, y3, y4, y5, y6, y7] .null) :
    MetFree l (⟨"com/example/fondskit/fondskit/xml/BoundAttributes", "getLocalName", "(I)Ljava/lang/String;"⟩ : MethodName) (head1 (Jvm.Cond.code (⟨"com/example/fondskit/fondskit/xml/BoundAttributes", "getLocalName", "(I)Ljava/lang/String;"⟩ : MethodName) prog_49_method_6_code 2 (some (.object "java/lang/String")) :: ws) ({ frames := 1, cells := 0, slots := 0, locals := 13 } : Room)) (fun a U => a = #[(.ref a1), (.int p2)] ∧ Z.Warmed39 U.vm ∧ U.heap = h0) (fun _ _ _ _ _ => True) (fun _ U o U' => ∃ rv Lq, o = .returned rv ∧ Q_rmGl1 Z a1 p2 l1 kl y0 y1 y2 y3 y4 y5 y6 y7 h0 n0 rv U'.heap Lq ∧ FrameEnd U o U' Lq ({ frames := 1, cells := 0, slots := 0, locals := 13 } : Room).cells ({ frames := 1, cells := 0, slots := 0, locals := 13 } : Room).slots) := by
  refine MetFree.of_bodySF (plainFor_of_name pn_11) hisR ?_
  intro p e s m args below meth c s₁ Bd hml0 hP hK
  obtain ⟨rfl, hZ, hh⟩ := hP
  have hx := Bd.exec
  have hby := Bd.bytes
  have hml : c.maxLocals = 2 := hml0
  have hown : s.vm.findClass "com/example/fondskit/fondskit/xml/BoundAttributes" = some m.cls := findClass_of_methodNamed Bd.named
  have hnm := (name_of_methodNamed Bd.named Bd.method).1
  have X0 : Stand p l e ({ frames := 1, cells := 0, slots := 0, locals := 13 } : Room) s m #[(.ref a1), (.int p2)] below meth c s₁ [] 0 0 := Stand.of_body Bd
  have e0 : s₁.heap = h0 := by rw [← hh, Bd.state]; rfl
  have N0 := Fr.nil n0
  refine of_go (ef_rmGl1 m a1 p2) ?_
  refine Go.step (T' := s₁) (f' := (mkF m 1 #[.val (.ref a1), .val (.int p2)] [(.ref a1)])) (fun _ k => XS.aloadN X0.here hx rfl (hb hby d14_0) rfl rfl k) ?_
  refine Go.step (T' := s₁) (f' := (mkF m 2 #[.val (.ref a1), .val (.int p2)] [(.int p2), (.ref a1)])) (fun _ k => XS.iloadN X0.here hx rfl (hb hby d14_1) rfl k) ?_
  obtain ⟨cq1, q1, q1'⟩ := E_a1.cell
  obtain ⟨_, _, ⟨T1, L1, kk1, nn1⟩, -, X1, ⟨Lc1, hQ1, lq1, yq1, zq1⟩, st1⟩ := X0.privateBack hx (y := (⟨"com/example/fondskit/fondskit/xml/BoundAttributes", "isIndex", "(I)Z"⟩ : MethodName)) hown (mvT hZ (hw _ (List.mem_of_getElem? (i := 79) rfl))) (mvT hZ (hw _ (List.mem_of_getElem? (i := 80) rfl))) (Jvm.Kit.selects_private (by decide) (mvT hZ (hw _ (List.mem_of_getElem? (i := 46) rfl))) (mvP hZ (hw _ (List.mem_of_getElem? (i := 81) rfl))) (mvT hZ (hw _ (List.mem_of_getElem? (i := 80) rfl)))) (Cond.privateMethod_at (mvP hZ (hw _ (List.mem_of_getElem? (i := 81) rfl)) (args := #[]))) (mvT hZ (hw _ (List.mem_of_getElem? (i := 82) rfl))) (by decide) (backOf (W := 0) (rmIx1 l Z a0 hw [] a1 p2 h0 n0 Z0 F_length_a1) hZ (hw _ (List.mem_of_getElem? (i := 82) rfl)) (hw _ (List.mem_of_getElem? (i := 47) rfl)) (by decide) (by decide)) (g := (mkF m 2 #[.val (.ref a1), .val (.int p2)] [(.int p2), (.ref a1)])) rfl (by rw [hml]; rfl) (Steps.refl _) (a := a1) (by rw [e0]; exact q1) q1' (argsL := [(.int p2)]) (rest := []) (lenOf pd_7 rfl) rfl (by show 2 * 0 + _ ≤ _; exact Nat.le_of_eq rfl) (hb hby d14_2) (fun _ _ => ⟨rfl, e0, (by decide : 0 + 0 ≤ _), (by decide : 0 + 0 ≤ _)⟩)
  dsimp only [Pt.U, Pt.locs, Pt.cells, Pt.slots] at X1 lq1 yq1 zq1 st1 hQ1
  subst yq1 zq1
  obtain ⟨rfl, Nq1, eh1⟩ := hQ1
  have N1 : Fr n0 L1 := by rw [lq1]; exact Fr.app N0 Nq1
  refine Go.step (T' := T1) (f' := (mkF m 5 #[.val (.ref a1), .val (.int p2)] [(.int (own_ix 1 p2))])) (fun _ k => st1.trans k) ?_
  rcases Classical.em (0 ≤ p2.toInt ∧ p2.toInt < 1) with hr | hr
  · obtain ⟨hlo, hhi⟩ := hr
    rw [own_ix1 (n := 1) (i := p2) ⟨hlo, hhi⟩]
    refine Go.step (T' := T1) (f' := (mkF m 8 #[.val (.ref a1), .val (.int p2)] [])) (fun _ k => XS.ifNo X1.here hx rfl (hb hby d14_5) rfl ((if0 _ _).trans (feq (by decide : ¬ ((1 : Int32) = (0 : Int32)))).1) k) ?_
    refine Go.step (T' := T1) (f' := (mkF m 9 #[.val (.ref a1), .val (.int p2)] [(.ref a1)])) (fun _ k => XS.aloadN X1.here hx rfl (hb hby d14_8) rfl rfl k) ?_
    obtain ⟨T2, X2, e2, st2⟩ := getF X1 hx hZ hown (host := "") (Or.inl (hw _ (List.mem_of_getElem? (i := 58) rfl))) Via.refl eh1 F_localNames_a1 (g := (mkF m 9 #[.val (.ref a1), .val (.int p2)] [(.ref a1)])) rfl rfl (hb hby d14_9)
    refine Go.step (T' := T2) (f' := (mkF m 12 #[.val (.ref a1), .val (.int p2)] [(.ref l1)])) st2 ?_
    refine Go.step (T' := T2) (f' := (mkF m 13 #[.val (.ref a1), .val (.int p2)] [(.int p2), (.ref l1)])) (fun _ k => XS.iloadN X2.here hx rfl (hb hby d14_12) rfl k) ?_
    obtain ⟨cl3, Ar3, qc3, Sz3, Nn3, Hs3, Gf3⟩ := id V_l1
    have hin4 : ¬ (p2 < 0 ∨ cl3.slots.size ≤ (p2).toNatClampNeg) := (inb_of Sz3 (by constructor <;> simp only [Int32.lt_iff_toInt_lt, Int32.reduceToInt] <;> omega))
    have hu4 : ([y0, y1, y2, y3, y4, y5, y6, y7] : List Value).getD (p2).toNatClampNeg .null = (own_sel 1 y0 .null .null p2) := own_getD1 hlo hhi
    have hR : ((own_sel 1 y0 .null .null p2) : Value).isRef = true := hu4 ▸ fit_R (Gf3 _ (Nat.lt_of_not_le fun y => hin4 (Or.inr y))) rfl
    have hat4 : cl3.slots[(p2).toNatClampNeg]? = some (own_sel 1 y0 .null .null p2) := Has.at Hs3 hin4 hu4
    refine Go.step (T' := T2) (f' := (mkF m 14 #[.val (.ref a1), .val (.int p2)] [(own_sel 1 y0 .null .null p2)])) (fun _ k => X2.aaload hx (j := p2) (v := (own_sel 1 y0 .null .null p2)) (by rw [e2]; exact Ar3.1) (State.isArrayOf_alike hZ.alike Ar3.2.1) rfl Ar3.2.2 hin4 hat4 (g := (mkF m 13 #[.val (.ref a1), .val (.int p2)] [(.int p2), (.ref l1)])) rfl rfl (hb hby d14_13) _ k) ?_
    refine Go.step (T' := T2) (f' := (mkF m 18 #[.val (.ref a1), .val (.int p2)] [(own_sel 1 y0 .null .null p2)])) (fun _ k => XS.goto X2.here hx rfl (pc0 := 14) (pc' := 18) rfl (hb hby d14_14) (by decide) (by decide) k) ?_
    refine goA X2 hx Bd.returns rfl hR Bd.notSynchronized (hb hby d14_18) ?_ (by decide) (by decide)
    show Q_rmGl1 Z a1 p2 l1 kl y0 y1 y2 y3 y4 y5 y6 y7 h0 n0 _ T2.heap _
    rw [e2]
    exact ⟨rfl, N1, rfl⟩
  · have hno : p2.toInt < 0 ∨ 1 ≤ p2.toInt := by omega
    rw [own_ix0 (n := 1) (i := p2) hr]
    refine Go.step (T' := T1) (f' := (mkF m 17 #[.val (.ref a1), .val (.int p2)] [])) (fun _ k => XS.ifYes X1.here hx rfl (pc0 := 5) (pc' := 17) rfl (hb hby d14_5) rfl ((if0 _ _).trans (teq (by decide : (0 : Int32) = (0 : Int32))).1) (by decide) (by decide) k) ?_
    refine Go.step (T' := T1) (f' := (mkF m 18 #[.val (.ref a1), .val (.int p2)] [.null])) (fun _ k => XS.aconstNull X1.here hx rfl (hb hby d14_17) k) ?_
    refine goA X1 hx Bd.returns rfl rfl Bd.notSynchronized (hb hby d14_18) ?_ (by decide) (by decide)
    show Q_rmGl1 Z a1 p2 l1 kl y0 y1 y2 y3 y4 y5 y6 y7 h0 n0 _ T1.heap _
    rw [eh1]
    exact ⟨by rw [own_sel0 (hno)], N1, rfl⟩
theorem d16_13 : decode method_3_code 13 = .ok (.aload_n 0, 1) := by decide +kernel
theorem d16_14 : decode method_3_code 14 = .ok (.iload_n 2, 1) := by decide +kernel
theorem d16_15 : decode method_3_code 15 = .ok (.aaload, 1) := by decide +kernel
theorem d16_16 : decode method_3_code 16 = .ok (.areturn, 1) := by decide +kernel
theorem ef_rmEp1 (m : MethodId) (a1 : Addr) (p3 : Int32) : entryFrame m #[(.ref a1), (.int (1 : Int32)), (.int p3)] 3 = mkF m 0 #[.val (.ref a1), .val (.int (1 : Int32)), .val (.int p3)] [] := by first | (simp [entryFrame, mkF, argsToLocals, Value.category]; done) | rfl
def Q_rmEp1 (Z : State) (a1 : Addr) (p3 : Int32) (kl : ClassId) (y0 : Value) (y1 : Value) (y2 : Value) (h0 : Heap) (n0 : Nat) (rv : Option Value) (hq : Heap) (Lq : List Loc) : Prop := rv = some (own_sel 1 y0 .null .null p3) ∧ Fr n0 Lq ∧ hq = h0
set_option maxRecDepth 65536 in
set_option maxHeartbeats 40000000 in
theorem rmEp1 (l : Launch) (Z : State) (a0 : Array Value) (hw : ∀ d ∈ tables_1, d.before a0 Z = true) (ws : List Jvm.Cond) (a1 : Addr) (p3 : Int32) (kl : ClassId) (y0 : Value) (y1 : Value) (y2 : Value) (h0 : Heap) (n0 : Nat) (Z0 : n0 ≤ h0.size) (V_a1 : Arv Z h0 a1 kl (.object "java/lang/String") (3 : Int32) [y0, y1, y2] .null) :
    MetFree l (⟨"com/example/fondskit/fondskit/xml/BoundAttributesGetLocalNamePinLaw", "expected", "([Ljava/lang/String;II)Ljava/lang/String;"⟩ : MethodName) (head1 (Jvm.Cond.code (⟨"com/example/fondskit/fondskit/xml/BoundAttributesGetLocalNamePinLaw", "expected", "([Ljava/lang/String;II)Ljava/lang/String;"⟩ : MethodName) method_3_code 3 (some (.object "java/lang/String")) :: ws) ({ frames := 0, cells := 0, slots := 0, locals := 0 } : Room)) (fun a U => a = #[(.ref a1), (.int (1 : Int32)), (.int p3)] ∧ Z.Warmed39 U.vm ∧ U.heap = h0) (fun _ _ _ _ _ => True) (fun _ U o U' => ∃ rv Lq, o = .returned rv ∧ Q_rmEp1 Z a1 p3 kl y0 y1 y2 h0 n0 rv U'.heap Lq ∧ FrameEnd U o U' Lq ({ frames := 0, cells := 0, slots := 0, locals := 0 } : Room).cells ({ frames := 0, cells := 0, slots := 0, locals := 0 } : Room).slots) := by
  refine MetFree.of_bodySF (plainFor_of_name pn_16) hisR ?_
  intro p e s m args below meth c s₁ Bd hml0 hP hK
  obtain ⟨rfl, hZ, hh⟩ := hP
  have hx := Bd.exec
  have hby := Bd.bytes
  have hml : c.maxLocals = 3 := hml0
  have hown : s.vm.findClass "com/example/fondskit/fondskit/xml/BoundAttributesGetLocalNamePinLaw" = some m.cls := findClass_of_methodNamed Bd.named
  have hnm := (name_of_methodNamed Bd.named Bd.method).1
  have X0 : Stand p l e ({ frames := 0, cells := 0, slots := 0, locals := 0 } : Room) s m #[(.ref a1), (.int (1 : Int32)), (.int p3)] below meth c s₁ [] 0 0 := Stand.of_body Bd
  have e0 : s₁.heap = h0 := by rw [← hh, Bd.state]; rfl
  have N0 := Fr.nil n0
  refine of_go (ef_rmEp1 m a1 p3) ?_
  refine Go.step (T' := s₁) (f' := (mkF m 1 #[.val (.ref a1), .val (.int (1 : Int32)), .val (.int p3)] [(.int p3)])) (fun _ k => XS.iloadN X0.here hx rfl (hb hby d16_0) rfl k) ?_
  by_cases hc1 : p3 < (0 : Int32)
  · refine Go.step (T' := s₁) (f' := (mkF m 4 #[.val (.ref a1), .val (.int (1 : Int32)), .val (.int p3)] [])) (fun _ k => XS.ifNo X0.here hx rfl (hb hby d16_1) rfl ((if0 _ _).trans (tlt hc1).2.1) k) ?_
    refine Go.step (T' := s₁) (f' := (mkF m 5 #[.val (.ref a1), .val (.int (1 : Int32)), .val (.int p3)] [.null])) (fun _ k => XS.aconstNull X0.here hx rfl (hb hby d16_4) k) ?_
    refine goA X0 hx Bd.returns rfl rfl Bd.notSynchronized (hb hby d16_5) ?_ (by decide) (by decide)
    show Q_rmEp1 Z a1 p3 kl y0 y1 y2 h0 n0 _ s₁.heap _
    rw [e0]
    exact ⟨by rw [own_sel0 (by simp only [Int32.lt_iff_toInt_lt, ← Int32.toInt_inj, Int32.reduceToInt] at hc1 <;> omega)], N0, rfl⟩
  · refine Go.step (T' := s₁) (f' := (mkF m 6 #[.val (.ref a1), .val (.int (1 : Int32)), .val (.int p3)] [])) (fun _ k => XS.ifYes X0.here hx rfl (pc0 := 1) (pc' := 6) rfl (hb hby d16_1) rfl ((if0 _ _).trans (flt hc1).2.1) (by decide) (by decide) k) ?_
    refine Go.step (T' := s₁) (f' := (mkF m 7 #[.val (.ref a1), .val (.int (1 : Int32)), .val (.int p3)] [(.int p3)])) (fun _ k => XS.iloadN X0.here hx rfl (hb hby d16_6) rfl k) ?_
    refine Go.step (T' := s₁) (f' := (mkF m 8 #[.val (.ref a1), .val (.int (1 : Int32)), .val (.int p3)] [(.int (1 : Int32)), (.int p3)])) (fun _ k => XS.iloadN X0.here hx rfl (hb hby d16_7) rfl k) ?_
    by_cases hc8 : p3 < (1 : Int32)
    · refine Go.step (T' := s₁) (f' := (mkF m 13 #[.val (.ref a1), .val (.int (1 : Int32)), .val (.int p3)] [])) (fun _ k => XS.icmpYes X0.here hx rfl (pc0 := 8) (pc' := 13) rfl (hb hby d16_8) rfl (tlt hc8).1 (by decide) (by decide) k) ?_
      have hlo : 0 ≤ p3.toInt := (by simp only [Int32.lt_iff_toInt_lt, ← Int32.toInt_inj, Int32.reduceToInt] at hc1 hc8 <;> omega)
      have hhi : p3.toInt < 1 := (by simp only [Int32.lt_iff_toInt_lt, ← Int32.toInt_inj, Int32.reduceToInt] at hc1 hc8 <;> omega)
      refine Go.step (T' := s₁) (f' := (mkF m 14 #[.val (.ref a1), .val (.int (1 : Int32)), .val (.int p3)] [(.ref a1)])) (fun _ k => XS.aloadN X0.here hx rfl (hb hby d16_13) rfl rfl k) ?_
      refine Go.step (T' := s₁) (f' := (mkF m 15 #[.val (.ref a1), .val (.int (1 : Int32)), .val (.int p3)] [(.int p3), (.ref a1)])) (fun _ k => XS.iloadN X0.here hx rfl (hb hby d16_14) rfl k) ?_
      obtain ⟨cl1, Ar1, qc1, Sz1, Nn1, Hs1, Gf1⟩ := id V_a1
      have hin2 : ¬ (p3 < 0 ∨ cl1.slots.size ≤ (p3).toNatClampNeg) := (inb_of Sz1 (by constructor <;> simp only [Int32.lt_iff_toInt_lt, Int32.reduceToInt] <;> omega))
      have hu2 : ([y0, y1, y2] : List Value).getD (p3).toNatClampNeg .null = (own_sel 1 y0 .null .null p3) := own_getD1 hlo hhi
      have hR : ((own_sel 1 y0 .null .null p3) : Value).isRef = true := hu2 ▸ fit_R (Gf1 _ (Nat.lt_of_not_le fun y => hin2 (Or.inr y))) rfl
      have hat2 : cl1.slots[(p3).toNatClampNeg]? = some (own_sel 1 y0 .null .null p3) := Has.at Hs1 hin2 hu2
      refine Go.step (T' := s₁) (f' := (mkF m 16 #[.val (.ref a1), .val (.int (1 : Int32)), .val (.int p3)] [(own_sel 1 y0 .null .null p3)])) (fun _ k => X0.aaload hx (j := p3) (v := (own_sel 1 y0 .null .null p3)) (by rw [e0]; exact Ar1.1) (State.isArrayOf_alike hZ.alike Ar1.2.1) rfl Ar1.2.2 hin2 hat2 (g := (mkF m 15 #[.val (.ref a1), .val (.int (1 : Int32)), .val (.int p3)] [(.int p3), (.ref a1)])) rfl rfl (hb hby d16_15) _ k) ?_
      refine goA X0 hx Bd.returns rfl hR Bd.notSynchronized (hb hby d16_16) ?_ (by decide) (by decide)
      show Q_rmEp1 Z a1 p3 kl y0 y1 y2 h0 n0 _ s₁.heap _
      rw [e0]
      exact ⟨rfl, N0, rfl⟩
    · refine Go.step (T' := s₁) (f' := (mkF m 11 #[.val (.ref a1), .val (.int (1 : Int32)), .val (.int p3)] [])) (fun _ k => XS.icmpNo X0.here hx rfl (hb hby d16_8) rfl (flt hc8).1 k) ?_
      refine Go.step (T' := s₁) (f' := (mkF m 12 #[.val (.ref a1), .val (.int (1 : Int32)), .val (.int p3)] [.null])) (fun _ k => XS.aconstNull X0.here hx rfl (hb hby d16_11) k) ?_
      refine goA X0 hx Bd.returns rfl rfl Bd.notSynchronized (hb hby d16_12) ?_ (by decide) (by decide)
      show Q_rmEp1 Z a1 p3 kl y0 y1 y2 h0 n0 _ s₁.heap _
      rw [e0]
      exact ⟨by rw [own_sel0 (by simp only [Int32.lt_iff_toInt_lt, ← Int32.toInt_inj, Int32.reduceToInt] at hc1 hc8 <;> omega)], N0, rfl⟩
theorem ef_rmIx2 (m : MethodId) (a1 : Addr) (p2 : Int32) : entryFrame m #[(.ref a1), (.int p2)] 2 = mkF m 0 #[.val (.ref a1), .val (.int p2)] [] := by first | (simp [entryFrame, mkF, argsToLocals, Value.category]; done) | rfl
def Q_rmIx2 (Z : State) (a1 : Addr) (p2 : Int32) (h0 : Heap) (n0 : Nat) (rv : Option Value) (hq : Heap) (Lq : List Loc) : Prop := rv = some (.int (own_ix 2 p2)) ∧ Fr n0 Lq ∧ hq = h0
set_option maxRecDepth 65536 in
set_option maxHeartbeats 40000000 in
theorem rmIx2 (l : Launch) (Z : State) (a0 : Array Value) (hw : ∀ d ∈ tables_1, d.before a0 Z = true) (ws : List Jvm.Cond) (a1 : Addr) (p2 : Int32) (h0 : Heap) (n0 : Nat) (Z0 : n0 ≤ h0.size) (F_length_a1 : Fld Z h0 a1 "com/example/fondskit/fondskit/xml/BoundAttributes" "length" "I" (.int (2 : Int32))) :
    MetFree l (⟨"com/example/fondskit/fondskit/xml/BoundAttributes", "isIndex", "(I)Z"⟩ : MethodName) (head1 (Jvm.Cond.code (⟨"com/example/fondskit/fondskit/xml/BoundAttributes", "isIndex", "(I)Z"⟩ : MethodName) prog_49_method_22_code 2 (some .boolean) :: ws) ({ frames := 0, cells := 0, slots := 0, locals := 0 } : Room)) (fun a U => a = #[(.ref a1), (.int p2)] ∧ Z.Warmed39 U.vm ∧ U.heap = h0) (fun _ _ _ _ _ => True) (fun _ U o U' => ∃ rv Lq, o = .returned rv ∧ Q_rmIx2 Z a1 p2 h0 n0 rv U'.heap Lq ∧ FrameEnd U o U' Lq ({ frames := 0, cells := 0, slots := 0, locals := 0 } : Room).cells ({ frames := 0, cells := 0, slots := 0, locals := 0 } : Room).slots) := by
  refine MetFree.of_bodySF (plainFor_of_name pn_11) hisR ?_
  intro p e s m args below meth c s₁ Bd hml0 hP hK
  obtain ⟨rfl, hZ, hh⟩ := hP
  have hx := Bd.exec
  have hby := Bd.bytes
  have hml : c.maxLocals = 2 := hml0
  have hown : s.vm.findClass "com/example/fondskit/fondskit/xml/BoundAttributes" = some m.cls := findClass_of_methodNamed Bd.named
  have hnm := (name_of_methodNamed Bd.named Bd.method).1
  have X0 : Stand p l e ({ frames := 0, cells := 0, slots := 0, locals := 0 } : Room) s m #[(.ref a1), (.int p2)] below meth c s₁ [] 0 0 := Stand.of_body Bd
  have e0 : s₁.heap = h0 := by rw [← hh, Bd.state]; rfl
  have N0 := Fr.nil n0
  refine of_go (ef_rmIx2 m a1 p2) ?_
  refine Go.step (T' := s₁) (f' := (mkF m 1 #[.val (.ref a1), .val (.int p2)] [(.int p2)])) (fun _ k => XS.iloadN X0.here hx rfl (hb hby d15_0) rfl k) ?_
  by_cases hc1 : p2 < (0 : Int32)
  · refine Go.step (T' := s₁) (f' := (mkF m 16 #[.val (.ref a1), .val (.int p2)] [])) (fun _ k => XS.ifYes X0.here hx rfl (pc0 := 1) (pc' := 16) rfl (hb hby d15_1) rfl ((if0 _ _).trans (tlt hc1).1) (by decide) (by decide) k) ?_
    refine Go.step (T' := s₁) (f' := (mkF m 17 #[.val (.ref a1), .val (.int p2)] [(.int (0 : Int32))])) (fun _ k => XS.iconst X0.here hx rfl (hb hby d15_16) k) ?_
    refine goN X0 hx (t := .boolean) Bd.returns (by simp) Bd.notSynchronized (hb hby d15_17) ?_ (by decide) (by decide)
    show Q_rmIx2 Z a1 p2 h0 n0 _ s₁.heap _
    rw [e0]
    exact ⟨by rw [own_ix0 (by simp only [Int32.lt_iff_toInt_lt, ← Int32.toInt_inj, Int32.reduceToInt] at hc1 <;> omega)]; rfl, N0, rfl⟩
  · refine Go.step (T' := s₁) (f' := (mkF m 4 #[.val (.ref a1), .val (.int p2)] [])) (fun _ k => XS.ifNo X0.here hx rfl (hb hby d15_1) rfl ((if0 _ _).trans (flt hc1).1) k) ?_
    refine Go.step (T' := s₁) (f' := (mkF m 5 #[.val (.ref a1), .val (.int p2)] [(.int p2)])) (fun _ k => XS.iloadN X0.here hx rfl (hb hby d15_4) rfl k) ?_
    refine Go.step (T' := s₁) (f' := (mkF m 6 #[.val (.ref a1), .val (.int p2)] [(.ref a1), (.int p2)])) (fun _ k => XS.aloadN X0.here hx rfl (hb hby d15_5) rfl rfl k) ?_
    obtain ⟨T1, X1, e1, st1⟩ := getF X0 hx hZ hown (host := "") (Or.inl (hw _ (List.mem_of_getElem? (i := 65) rfl))) Via.refl e0 F_length_a1 (g := (mkF m 6 #[.val (.ref a1), .val (.int p2)] [(.ref a1), (.int p2)])) rfl rfl (hb hby d15_6)
    refine Go.step (T' := T1) (f' := (mkF m 9 #[.val (.ref a1), .val (.int p2)] [(.int (2 : Int32)), (.int p2)])) st1 ?_
    by_cases hc9 : p2 < (2 : Int32)
    · refine Go.step (T' := T1) (f' := (mkF m 12 #[.val (.ref a1), .val (.int p2)] [])) (fun _ k => XS.icmpNo X1.here hx rfl (hb hby d15_9) rfl (tlt hc9).2.1 k) ?_
      refine Go.step (T' := T1) (f' := (mkF m 13 #[.val (.ref a1), .val (.int p2)] [(.int (1 : Int32))])) (fun _ k => XS.iconst X1.here hx rfl (hb hby d15_12) k) ?_
      refine Go.step (T' := T1) (f' := (mkF m 17 #[.val (.ref a1), .val (.int p2)] [(.int (1 : Int32))])) (fun _ k => XS.goto X1.here hx rfl (pc0 := 13) (pc' := 17) rfl (hb hby d15_13) (by decide) (by decide) k) ?_
      refine goN X1 hx (t := .boolean) Bd.returns (by simp) Bd.notSynchronized (hb hby d15_17) ?_ (by decide) (by decide)
      show Q_rmIx2 Z a1 p2 h0 n0 _ T1.heap _
      rw [e1]
      exact ⟨by rw [own_ix1 (by simp only [Int32.lt_iff_toInt_lt, ← Int32.toInt_inj, Int32.reduceToInt] at hc1 hc9 <;> omega)]; rfl, N0, rfl⟩
    · refine Go.step (T' := T1) (f' := (mkF m 16 #[.val (.ref a1), .val (.int p2)] [])) (fun _ k => XS.icmpYes X1.here hx rfl (pc0 := 9) (pc' := 16) rfl (hb hby d15_9) rfl (flt hc9).2.1 (by decide) (by decide) k) ?_
      refine Go.step (T' := T1) (f' := (mkF m 17 #[.val (.ref a1), .val (.int p2)] [(.int (0 : Int32))])) (fun _ k => XS.iconst X1.here hx rfl (hb hby d15_16) k) ?_
      refine goN X1 hx (t := .boolean) Bd.returns (by simp) Bd.notSynchronized (hb hby d15_17) ?_ (by decide) (by decide)
      show Q_rmIx2 Z a1 p2 h0 n0 _ T1.heap _
      rw [e1]
      exact ⟨by rw [own_ix0 (by simp only [Int32.lt_iff_toInt_lt, ← Int32.toInt_inj, Int32.reduceToInt] at hc1 hc9 <;> omega)]; rfl, N0, rfl⟩
theorem ef_rmGl2 (m : MethodId) (a1 : Addr) (p2 : Int32) : entryFrame m #[(.ref a1), (.int p2)] 2 = mkF m 0 #[.val (.ref a1), .val (.int p2)] [] := by first | (simp [entryFrame, mkF, argsToLocals, Value.category]; done) | rfl
def Q_rmGl2 (Z : State) (a1 : Addr) (p2 : Int32) (l1 : Addr) (kl : ClassId) (y0 : Value) (y1 : Value) (y2 : Value) (y3 : Value) (y4 : Value) (y5 : Value) (y6 : Value) (y7 : Value) (h0 : Heap) (n0 : Nat) (rv : Option Value) (hq : Heap) (Lq : List Loc) : Prop := rv = some (own_sel 2 y0 y1 .null p2) ∧ Fr n0 Lq ∧ hq = h0
set_option maxRecDepth 65536 in
set_option maxHeartbeats 40000000 in
theorem rmGl2 (l : Launch) (Z : State) (a0 : Array Value) (hw : ∀ d ∈ tables_1, d.before a0 Z = true) (ws : List Jvm.Cond) (a1 : Addr) (p2 : Int32) (l1 : Addr) (kl : ClassId) (y0 : Value) (y1 : Value) (y2 : Value) (y3 : Value) (y4 : Value) (y5 : Value) (y6 : Value) (y7 : Value) (h0 : Heap) (n0 : Nat) (Z0 : n0 ≤ h0.size) (E_a1 : Exa Z h0 a1 "com/example/fondskit/fondskit/xml/BoundAttributes") (F_length_a1 : Fld Z h0 a1 "com/example/fondskit/fondskit/xml/BoundAttributes" "length" "I" (.int (2 : Int32))) (F_localNames_a1 : Fld Z h0 a1 "com/example/fondskit/fondskit/xml/BoundAttributes" "localNames" "[Ljava/lang/String;" (.ref l1)) (V_l1 : Arv Z h0 l1 kl (.object "java/lang/String") (8 : Int32) [y0, y1, y2, y3, y4, y5, y6, y7] .null) :
    MetFree l (⟨"com/example/fondskit/fondskit/xml/BoundAttributes", "getLocalName", "(I)Ljava/lang/String;"⟩ : MethodName) (head1 (Jvm.Cond.code (⟨"com/example/fondskit/fondskit/xml/BoundAttributes", "getLocalName", "(I)Ljava/lang/String;"⟩ : MethodName) prog_49_method_6_code 2 (some (.object "java/lang/String")) :: ws) ({ frames := 1, cells := 0, slots := 0, locals := 13 } : Room)) (fun a U => a = #[(.ref a1), (.int p2)] ∧ Z.Warmed39 U.vm ∧ U.heap = h0) (fun _ _ _ _ _ => True) (fun _ U o U' => ∃ rv Lq, o = .returned rv ∧ Q_rmGl2 Z a1 p2 l1 kl y0 y1 y2 y3 y4 y5 y6 y7 h0 n0 rv U'.heap Lq ∧ FrameEnd U o U' Lq ({ frames := 1, cells := 0, slots := 0, locals := 13 } : Room).cells ({ frames := 1, cells := 0, slots := 0, locals := 13 } : Room).slots) := by
  refine MetFree.of_bodySF (plainFor_of_name pn_11) hisR ?_
  intro p e s m args below meth c s₁ Bd hml0 hP hK
  obtain ⟨rfl, hZ, hh⟩ := hP
  have hx := Bd.exec
  have hby := Bd.bytes
  have hml : c.maxLocals = 2 := hml0
  have hown : s.vm.findClass "com/example/fondskit/fondskit/xml/BoundAttributes" = some m.cls := findClass_of_methodNamed Bd.named
  have hnm := (name_of_methodNamed Bd.named Bd.method).1
  have X0 : Stand p l e ({ frames := 1, cells := 0, slots := 0, locals := 13 } : Room) s m #[(.ref a1), (.int p2)] below meth c s₁ [] 0 0 := Stand.of_body Bd
  have e0 : s₁.heap = h0 := by rw [← hh, Bd.state]; rfl
  have N0 := Fr.nil n0
  refine of_go (ef_rmGl2 m a1 p2) ?_
  refine Go.step (T' := s₁) (f' := (mkF m 1 #[.val (.ref a1), .val (.int p2)] [(.ref a1)])) (fun _ k => XS.aloadN X0.here hx rfl (hb hby d14_0) rfl rfl k) ?_
  refine Go.step (T' := s₁) (f' := (mkF m 2 #[.val (.ref a1), .val (.int p2)] [(.int p2), (.ref a1)])) (fun _ k => XS.iloadN X0.here hx rfl (hb hby d14_1) rfl k) ?_
  obtain ⟨cq1, q1, q1'⟩ := E_a1.cell
  obtain ⟨_, _, ⟨T1, L1, kk1, nn1⟩, -, X1, ⟨Lc1, hQ1, lq1, yq1, zq1⟩, st1⟩ := X0.privateBack hx (y := (⟨"com/example/fondskit/fondskit/xml/BoundAttributes", "isIndex", "(I)Z"⟩ : MethodName)) hown (mvT hZ (hw _ (List.mem_of_getElem? (i := 79) rfl))) (mvT hZ (hw _ (List.mem_of_getElem? (i := 80) rfl))) (Jvm.Kit.selects_private (by decide) (mvT hZ (hw _ (List.mem_of_getElem? (i := 46) rfl))) (mvP hZ (hw _ (List.mem_of_getElem? (i := 81) rfl))) (mvT hZ (hw _ (List.mem_of_getElem? (i := 80) rfl)))) (Cond.privateMethod_at (mvP hZ (hw _ (List.mem_of_getElem? (i := 81) rfl)) (args := #[]))) (mvT hZ (hw _ (List.mem_of_getElem? (i := 82) rfl))) (by decide) (backOf (W := 0) (rmIx2 l Z a0 hw [] a1 p2 h0 n0 Z0 F_length_a1) hZ (hw _ (List.mem_of_getElem? (i := 82) rfl)) (hw _ (List.mem_of_getElem? (i := 47) rfl)) (by decide) (by decide)) (g := (mkF m 2 #[.val (.ref a1), .val (.int p2)] [(.int p2), (.ref a1)])) rfl (by rw [hml]; rfl) (Steps.refl _) (a := a1) (by rw [e0]; exact q1) q1' (argsL := [(.int p2)]) (rest := []) (lenOf pd_7 rfl) rfl (by show 2 * 0 + _ ≤ _; exact Nat.le_of_eq rfl) (hb hby d14_2) (fun _ _ => ⟨rfl, e0, (by decide : 0 + 0 ≤ _), (by decide : 0 + 0 ≤ _)⟩)
  dsimp only [Pt.U, Pt.locs, Pt.cells, Pt.slots] at X1 lq1 yq1 zq1 st1 hQ1
  subst yq1 zq1
  obtain ⟨rfl, Nq1, eh1⟩ := hQ1
  have N1 : Fr n0 L1 := by rw [lq1]; exact Fr.app N0 Nq1
  refine Go.step (T' := T1) (f' := (mkF m 5 #[.val (.ref a1), .val (.int p2)] [(.int (own_ix 2 p2))])) (fun _ k => st1.trans k) ?_
  rcases Classical.em (0 ≤ p2.toInt ∧ p2.toInt < 2) with hr | hr
  · obtain ⟨hlo, hhi⟩ := hr
    rw [own_ix1 (n := 2) (i := p2) ⟨hlo, hhi⟩]
    refine Go.step (T' := T1) (f' := (mkF m 8 #[.val (.ref a1), .val (.int p2)] [])) (fun _ k => XS.ifNo X1.here hx rfl (hb hby d14_5) rfl ((if0 _ _).trans (feq (by decide : ¬ ((1 : Int32) = (0 : Int32)))).1) k) ?_
    refine Go.step (T' := T1) (f' := (mkF m 9 #[.val (.ref a1), .val (.int p2)] [(.ref a1)])) (fun _ k => XS.aloadN X1.here hx rfl (hb hby d14_8) rfl rfl k) ?_
    obtain ⟨T2, X2, e2, st2⟩ := getF X1 hx hZ hown (host := "") (Or.inl (hw _ (List.mem_of_getElem? (i := 58) rfl))) Via.refl eh1 F_localNames_a1 (g := (mkF m 9 #[.val (.ref a1), .val (.int p2)] [(.ref a1)])) rfl rfl (hb hby d14_9)
    refine Go.step (T' := T2) (f' := (mkF m 12 #[.val (.ref a1), .val (.int p2)] [(.ref l1)])) st2 ?_
    refine Go.step (T' := T2) (f' := (mkF m 13 #[.val (.ref a1), .val (.int p2)] [(.int p2), (.ref l1)])) (fun _ k => XS.iloadN X2.here hx rfl (hb hby d14_12) rfl k) ?_
    obtain ⟨cl3, Ar3, qc3, Sz3, Nn3, Hs3, Gf3⟩ := id V_l1
    have hin4 : ¬ (p2 < 0 ∨ cl3.slots.size ≤ (p2).toNatClampNeg) := (inb_of Sz3 (by constructor <;> simp only [Int32.lt_iff_toInt_lt, Int32.reduceToInt] <;> omega))
    have hu4 : ([y0, y1, y2, y3, y4, y5, y6, y7] : List Value).getD (p2).toNatClampNeg .null = (own_sel 2 y0 y1 .null p2) := own_getD2 hlo hhi
    have hR : ((own_sel 2 y0 y1 .null p2) : Value).isRef = true := hu4 ▸ fit_R (Gf3 _ (Nat.lt_of_not_le fun y => hin4 (Or.inr y))) rfl
    have hat4 : cl3.slots[(p2).toNatClampNeg]? = some (own_sel 2 y0 y1 .null p2) := Has.at Hs3 hin4 hu4
    refine Go.step (T' := T2) (f' := (mkF m 14 #[.val (.ref a1), .val (.int p2)] [(own_sel 2 y0 y1 .null p2)])) (fun _ k => X2.aaload hx (j := p2) (v := (own_sel 2 y0 y1 .null p2)) (by rw [e2]; exact Ar3.1) (State.isArrayOf_alike hZ.alike Ar3.2.1) rfl Ar3.2.2 hin4 hat4 (g := (mkF m 13 #[.val (.ref a1), .val (.int p2)] [(.int p2), (.ref l1)])) rfl rfl (hb hby d14_13) _ k) ?_
    refine Go.step (T' := T2) (f' := (mkF m 18 #[.val (.ref a1), .val (.int p2)] [(own_sel 2 y0 y1 .null p2)])) (fun _ k => XS.goto X2.here hx rfl (pc0 := 14) (pc' := 18) rfl (hb hby d14_14) (by decide) (by decide) k) ?_
    refine goA X2 hx Bd.returns rfl hR Bd.notSynchronized (hb hby d14_18) ?_ (by decide) (by decide)
    show Q_rmGl2 Z a1 p2 l1 kl y0 y1 y2 y3 y4 y5 y6 y7 h0 n0 _ T2.heap _
    rw [e2]
    exact ⟨rfl, N1, rfl⟩
  · have hno : p2.toInt < 0 ∨ 2 ≤ p2.toInt := by omega
    rw [own_ix0 (n := 2) (i := p2) hr]
    refine Go.step (T' := T1) (f' := (mkF m 17 #[.val (.ref a1), .val (.int p2)] [])) (fun _ k => XS.ifYes X1.here hx rfl (pc0 := 5) (pc' := 17) rfl (hb hby d14_5) rfl ((if0 _ _).trans (teq (by decide : (0 : Int32) = (0 : Int32))).1) (by decide) (by decide) k) ?_
    refine Go.step (T' := T1) (f' := (mkF m 18 #[.val (.ref a1), .val (.int p2)] [.null])) (fun _ k => XS.aconstNull X1.here hx rfl (hb hby d14_17) k) ?_
    refine goA X1 hx Bd.returns rfl rfl Bd.notSynchronized (hb hby d14_18) ?_ (by decide) (by decide)
    show Q_rmGl2 Z a1 p2 l1 kl y0 y1 y2 y3 y4 y5 y6 y7 h0 n0 _ T1.heap _
    rw [eh1]
    exact ⟨by rw [own_sel0 (hno)], N1, rfl⟩
theorem ef_rmEp2 (m : MethodId) (a1 : Addr) (p3 : Int32) : entryFrame m #[(.ref a1), (.int (2 : Int32)), (.int p3)] 3 = mkF m 0 #[.val (.ref a1), .val (.int (2 : Int32)), .val (.int p3)] [] := by first | (simp [entryFrame, mkF, argsToLocals, Value.category]; done) | rfl
def Q_rmEp2 (Z : State) (a1 : Addr) (p3 : Int32) (kl : ClassId) (y0 : Value) (y1 : Value) (y2 : Value) (h0 : Heap) (n0 : Nat) (rv : Option Value) (hq : Heap) (Lq : List Loc) : Prop := rv = some (own_sel 2 y0 y1 .null p3) ∧ Fr n0 Lq ∧ hq = h0
set_option maxRecDepth 65536 in
set_option maxHeartbeats 40000000 in
theorem rmEp2 (l : Launch) (Z : State) (a0 : Array Value) (hw : ∀ d ∈ tables_1, d.before a0 Z = true) (ws : List Jvm.Cond) (a1 : Addr) (p3 : Int32) (kl : ClassId) (y0 : Value) (y1 : Value) (y2 : Value) (h0 : Heap) (n0 : Nat) (Z0 : n0 ≤ h0.size) (V_a1 : Arv Z h0 a1 kl (.object "java/lang/String") (3 : Int32) [y0, y1, y2] .null) :
    MetFree l (⟨"com/example/fondskit/fondskit/xml/BoundAttributesGetLocalNamePinLaw", "expected", "([Ljava/lang/String;II)Ljava/lang/String;"⟩ : MethodName) (head1 (Jvm.Cond.code (⟨"com/example/fondskit/fondskit/xml/BoundAttributesGetLocalNamePinLaw", "expected", "([Ljava/lang/String;II)Ljava/lang/String;"⟩ : MethodName) method_3_code 3 (some (.object "java/lang/String")) :: ws) ({ frames := 0, cells := 0, slots := 0, locals := 0 } : Room)) (fun a U => a = #[(.ref a1), (.int (2 : Int32)), (.int p3)] ∧ Z.Warmed39 U.vm ∧ U.heap = h0) (fun _ _ _ _ _ => True) (fun _ U o U' => ∃ rv Lq, o = .returned rv ∧ Q_rmEp2 Z a1 p3 kl y0 y1 y2 h0 n0 rv U'.heap Lq ∧ FrameEnd U o U' Lq ({ frames := 0, cells := 0, slots := 0, locals := 0 } : Room).cells ({ frames := 0, cells := 0, slots := 0, locals := 0 } : Room).slots) := by
  refine MetFree.of_bodySF (plainFor_of_name pn_16) hisR ?_
  intro p e s m args below meth c s₁ Bd hml0 hP hK
  obtain ⟨rfl, hZ, hh⟩ := hP
  have hx := Bd.exec
  have hby := Bd.bytes
  have hml : c.maxLocals = 3 := hml0
  have hown : s.vm.findClass "com/example/fondskit/fondskit/xml/BoundAttributesGetLocalNamePinLaw" = some m.cls := findClass_of_methodNamed Bd.named
  have hnm := (name_of_methodNamed Bd.named Bd.method).1
  have X0 : Stand p l e ({ frames := 0, cells := 0, slots := 0, locals := 0 } : Room) s m #[(.ref a1), (.int (2 : Int32)), (.int p3)] below meth c s₁ [] 0 0 := Stand.of_body Bd
  have e0 : s₁.heap = h0 := by rw [← hh, Bd.state]; rfl
  have N0 := Fr.nil n0
  refine of_go (ef_rmEp2 m a1 p3) ?_
  refine Go.step (T' := s₁) (f' := (mkF m 1 #[.val (.ref a1), .val (.int (2 : Int32)), .val (.int p3)] [(.int p3)])) (fun _ k => XS.iloadN X0.here hx rfl (hb hby d16_0) rfl k) ?_
  by_cases hc1 : p3 < (0 : Int32)
  · refine Go.step (T' := s₁) (f' := (mkF m 4 #[.val (.ref a1), .val (.int (2 : Int32)), .val (.int p3)] [])) (fun _ k => XS.ifNo X0.here hx rfl (hb hby d16_1) rfl ((if0 _ _).trans (tlt hc1).2.1) k) ?_
    refine Go.step (T' := s₁) (f' := (mkF m 5 #[.val (.ref a1), .val (.int (2 : Int32)), .val (.int p3)] [.null])) (fun _ k => XS.aconstNull X0.here hx rfl (hb hby d16_4) k) ?_
    refine goA X0 hx Bd.returns rfl rfl Bd.notSynchronized (hb hby d16_5) ?_ (by decide) (by decide)
    show Q_rmEp2 Z a1 p3 kl y0 y1 y2 h0 n0 _ s₁.heap _
    rw [e0]
    exact ⟨by rw [own_sel0 (by simp only [Int32.lt_iff_toInt_lt, ← Int32.toInt_inj, Int32.reduceToInt] at hc1 <;> omega)], N0, rfl⟩
  · refine Go.step (T' := s₁) (f' := (mkF m 6 #[.val (.ref a1), .val (.int (2 : Int32)), .val (.int p3)] [])) (fun _ k => XS.ifYes X0.here hx rfl (pc0 := 1) (pc' := 6) rfl (hb hby d16_1) rfl ((if0 _ _).trans (flt hc1).2.1) (by decide) (by decide) k) ?_
    refine Go.step (T' := s₁) (f' := (mkF m 7 #[.val (.ref a1), .val (.int (2 : Int32)), .val (.int p3)] [(.int p3)])) (fun _ k => XS.iloadN X0.here hx rfl (hb hby d16_6) rfl k) ?_
    refine Go.step (T' := s₁) (f' := (mkF m 8 #[.val (.ref a1), .val (.int (2 : Int32)), .val (.int p3)] [(.int (2 : Int32)), (.int p3)])) (fun _ k => XS.iloadN X0.here hx rfl (hb hby d16_7) rfl k) ?_
    by_cases hc8 : p3 < (2 : Int32)
    · refine Go.step (T' := s₁) (f' := (mkF m 13 #[.val (.ref a1), .val (.int (2 : Int32)), .val (.int p3)] [])) (fun _ k => XS.icmpYes X0.here hx rfl (pc0 := 8) (pc' := 13) rfl (hb hby d16_8) rfl (tlt hc8).1 (by decide) (by decide) k) ?_
      have hlo : 0 ≤ p3.toInt := (by simp only [Int32.lt_iff_toInt_lt, ← Int32.toInt_inj, Int32.reduceToInt] at hc1 hc8 <;> omega)
      have hhi : p3.toInt < 2 := (by simp only [Int32.lt_iff_toInt_lt, ← Int32.toInt_inj, Int32.reduceToInt] at hc1 hc8 <;> omega)
      refine Go.step (T' := s₁) (f' := (mkF m 14 #[.val (.ref a1), .val (.int (2 : Int32)), .val (.int p3)] [(.ref a1)])) (fun _ k => XS.aloadN X0.here hx rfl (hb hby d16_13) rfl rfl k) ?_
      refine Go.step (T' := s₁) (f' := (mkF m 15 #[.val (.ref a1), .val (.int (2 : Int32)), .val (.int p3)] [(.int p3), (.ref a1)])) (fun _ k => XS.iloadN X0.here hx rfl (hb hby d16_14) rfl k) ?_
      obtain ⟨cl1, Ar1, qc1, Sz1, Nn1, Hs1, Gf1⟩ := id V_a1
      have hin2 : ¬ (p3 < 0 ∨ cl1.slots.size ≤ (p3).toNatClampNeg) := (inb_of Sz1 (by constructor <;> simp only [Int32.lt_iff_toInt_lt, Int32.reduceToInt] <;> omega))
      have hu2 : ([y0, y1, y2] : List Value).getD (p3).toNatClampNeg .null = (own_sel 2 y0 y1 .null p3) := own_getD2 hlo hhi
      have hR : ((own_sel 2 y0 y1 .null p3) : Value).isRef = true := hu2 ▸ fit_R (Gf1 _ (Nat.lt_of_not_le fun y => hin2 (Or.inr y))) rfl
      have hat2 : cl1.slots[(p3).toNatClampNeg]? = some (own_sel 2 y0 y1 .null p3) := Has.at Hs1 hin2 hu2
      refine Go.step (T' := s₁) (f' := (mkF m 16 #[.val (.ref a1), .val (.int (2 : Int32)), .val (.int p3)] [(own_sel 2 y0 y1 .null p3)])) (fun _ k => X0.aaload hx (j := p3) (v := (own_sel 2 y0 y1 .null p3)) (by rw [e0]; exact Ar1.1) (State.isArrayOf_alike hZ.alike Ar1.2.1) rfl Ar1.2.2 hin2 hat2 (g := (mkF m 15 #[.val (.ref a1), .val (.int (2 : Int32)), .val (.int p3)] [(.int p3), (.ref a1)])) rfl rfl (hb hby d16_15) _ k) ?_
      refine goA X0 hx Bd.returns rfl hR Bd.notSynchronized (hb hby d16_16) ?_ (by decide) (by decide)
      show Q_rmEp2 Z a1 p3 kl y0 y1 y2 h0 n0 _ s₁.heap _
      rw [e0]
      exact ⟨rfl, N0, rfl⟩
    · refine Go.step (T' := s₁) (f' := (mkF m 11 #[.val (.ref a1), .val (.int (2 : Int32)), .val (.int p3)] [])) (fun _ k => XS.icmpNo X0.here hx rfl (hb hby d16_8) rfl (flt hc8).1 k) ?_
      refine Go.step (T' := s₁) (f' := (mkF m 12 #[.val (.ref a1), .val (.int (2 : Int32)), .val (.int p3)] [.null])) (fun _ k => XS.aconstNull X0.here hx rfl (hb hby d16_11) k) ?_
      refine goA X0 hx Bd.returns rfl rfl Bd.notSynchronized (hb hby d16_12) ?_ (by decide) (by decide)
      show Q_rmEp2 Z a1 p3 kl y0 y1 y2 h0 n0 _ s₁.heap _
      rw [e0]
      exact ⟨by rw [own_sel0 (by simp only [Int32.lt_iff_toInt_lt, ← Int32.toInt_inj, Int32.reduceToInt] at hc1 hc8 <;> omega)], N0, rfl⟩
theorem ef_rmIx3 (m : MethodId) (a1 : Addr) (p2 : Int32) : entryFrame m #[(.ref a1), (.int p2)] 2 = mkF m 0 #[.val (.ref a1), .val (.int p2)] [] := by first | (simp [entryFrame, mkF, argsToLocals, Value.category]; done) | rfl
def Q_rmIx3 (Z : State) (a1 : Addr) (p2 : Int32) (h0 : Heap) (n0 : Nat) (rv : Option Value) (hq : Heap) (Lq : List Loc) : Prop := rv = some (.int (own_ix 3 p2)) ∧ Fr n0 Lq ∧ hq = h0
set_option maxRecDepth 65536 in
set_option maxHeartbeats 40000000 in
theorem rmIx3 (l : Launch) (Z : State) (a0 : Array Value) (hw : ∀ d ∈ tables_1, d.before a0 Z = true) (ws : List Jvm.Cond) (a1 : Addr) (p2 : Int32) (h0 : Heap) (n0 : Nat) (Z0 : n0 ≤ h0.size) (F_length_a1 : Fld Z h0 a1 "com/example/fondskit/fondskit/xml/BoundAttributes" "length" "I" (.int (3 : Int32))) :
    MetFree l (⟨"com/example/fondskit/fondskit/xml/BoundAttributes", "isIndex", "(I)Z"⟩ : MethodName) (head1 (Jvm.Cond.code (⟨"com/example/fondskit/fondskit/xml/BoundAttributes", "isIndex", "(I)Z"⟩ : MethodName) prog_49_method_22_code 2 (some .boolean) :: ws) ({ frames := 0, cells := 0, slots := 0, locals := 0 } : Room)) (fun a U => a = #[(.ref a1), (.int p2)] ∧ Z.Warmed39 U.vm ∧ U.heap = h0) (fun _ _ _ _ _ => True) (fun _ U o U' => ∃ rv Lq, o = .returned rv ∧ Q_rmIx3 Z a1 p2 h0 n0 rv U'.heap Lq ∧ FrameEnd U o U' Lq ({ frames := 0, cells := 0, slots := 0, locals := 0 } : Room).cells ({ frames := 0, cells := 0, slots := 0, locals := 0 } : Room).slots) := by
  refine MetFree.of_bodySF (plainFor_of_name pn_11) hisR ?_
  intro p e s m args below meth c s₁ Bd hml0 hP hK
  obtain ⟨rfl, hZ, hh⟩ := hP
  have hx := Bd.exec
  have hby := Bd.bytes
  have hml : c.maxLocals = 2 := hml0
  have hown : s.vm.findClass "com/example/fondskit/fondskit/xml/BoundAttributes" = some m.cls := findClass_of_methodNamed Bd.named
  have hnm := (name_of_methodNamed Bd.named Bd.method).1
  have X0 : Stand p l e ({ frames := 0, cells := 0, slots := 0, locals := 0 } : Room) s m #[(.ref a1), (.int p2)] below meth c s₁ [] 0 0 := Stand.of_body Bd
  have e0 : s₁.heap = h0 := by rw [← hh, Bd.state]; rfl
  have N0 := Fr.nil n0
  refine of_go (ef_rmIx3 m a1 p2) ?_
  refine Go.step (T' := s₁) (f' := (mkF m 1 #[.val (.ref a1), .val (.int p2)] [(.int p2)])) (fun _ k => XS.iloadN X0.here hx rfl (hb hby d15_0) rfl k) ?_
  by_cases hc1 : p2 < (0 : Int32)
  · refine Go.step (T' := s₁) (f' := (mkF m 16 #[.val (.ref a1), .val (.int p2)] [])) (fun _ k => XS.ifYes X0.here hx rfl (pc0 := 1) (pc' := 16) rfl (hb hby d15_1) rfl ((if0 _ _).trans (tlt hc1).1) (by decide) (by decide) k) ?_
    refine Go.step (T' := s₁) (f' := (mkF m 17 #[.val (.ref a1), .val (.int p2)] [(.int (0 : Int32))])) (fun _ k => XS.iconst X0.here hx rfl (hb hby d15_16) k) ?_
    refine goN X0 hx (t := .boolean) Bd.returns (by simp) Bd.notSynchronized (hb hby d15_17) ?_ (by decide) (by decide)
    show Q_rmIx3 Z a1 p2 h0 n0 _ s₁.heap _
    rw [e0]
    exact ⟨by rw [own_ix0 (by simp only [Int32.lt_iff_toInt_lt, ← Int32.toInt_inj, Int32.reduceToInt] at hc1 <;> omega)]; rfl, N0, rfl⟩
  · refine Go.step (T' := s₁) (f' := (mkF m 4 #[.val (.ref a1), .val (.int p2)] [])) (fun _ k => XS.ifNo X0.here hx rfl (hb hby d15_1) rfl ((if0 _ _).trans (flt hc1).1) k) ?_
    refine Go.step (T' := s₁) (f' := (mkF m 5 #[.val (.ref a1), .val (.int p2)] [(.int p2)])) (fun _ k => XS.iloadN X0.here hx rfl (hb hby d15_4) rfl k) ?_
    refine Go.step (T' := s₁) (f' := (mkF m 6 #[.val (.ref a1), .val (.int p2)] [(.ref a1), (.int p2)])) (fun _ k => XS.aloadN X0.here hx rfl (hb hby d15_5) rfl rfl k) ?_
    obtain ⟨T1, X1, e1, st1⟩ := getF X0 hx hZ hown (host := "") (Or.inl (hw _ (List.mem_of_getElem? (i := 65) rfl))) Via.refl e0 F_length_a1 (g := (mkF m 6 #[.val (.ref a1), .val (.int p2)] [(.ref a1), (.int p2)])) rfl rfl (hb hby d15_6)
    refine Go.step (T' := T1) (f' := (mkF m 9 #[.val (.ref a1), .val (.int p2)] [(.int (3 : Int32)), (.int p2)])) st1 ?_
    by_cases hc9 : p2 < (3 : Int32)
    · refine Go.step (T' := T1) (f' := (mkF m 12 #[.val (.ref a1), .val (.int p2)] [])) (fun _ k => XS.icmpNo X1.here hx rfl (hb hby d15_9) rfl (tlt hc9).2.1 k) ?_
      refine Go.step (T' := T1) (f' := (mkF m 13 #[.val (.ref a1), .val (.int p2)] [(.int (1 : Int32))])) (fun _ k => XS.iconst X1.here hx rfl (hb hby d15_12) k) ?_
      refine Go.step (T' := T1) (f' := (mkF m 17 #[.val (.ref a1), .val (.int p2)] [(.int (1 : Int32))])) (fun _ k => XS.goto X1.here hx rfl (pc0 := 13) (pc' := 17) rfl (hb hby d15_13) (by decide) (by decide) k) ?_
      refine goN X1 hx (t := .boolean) Bd.returns (by simp) Bd.notSynchronized (hb hby d15_17) ?_ (by decide) (by decide)
      show Q_rmIx3 Z a1 p2 h0 n0 _ T1.heap _
      rw [e1]
      exact ⟨by rw [own_ix1 (by simp only [Int32.lt_iff_toInt_lt, ← Int32.toInt_inj, Int32.reduceToInt] at hc1 hc9 <;> omega)]; rfl, N0, rfl⟩
    · refine Go.step (T' := T1) (f' := (mkF m 16 #[.val (.ref a1), .val (.int p2)] [])) (fun _ k => XS.icmpYes X1.here hx rfl (pc0 := 9) (pc' := 16) rfl (hb hby d15_9) rfl (flt hc9).2.1 (by decide) (by decide) k) ?_
      refine Go.step (T' := T1) (f' := (mkF m 17 #[.val (.ref a1), .val (.int p2)] [(.int (0 : Int32))])) (fun _ k => XS.iconst X1.here hx rfl (hb hby d15_16) k) ?_
      refine goN X1 hx (t := .boolean) Bd.returns (by simp) Bd.notSynchronized (hb hby d15_17) ?_ (by decide) (by decide)
      show Q_rmIx3 Z a1 p2 h0 n0 _ T1.heap _
      rw [e1]
      exact ⟨by rw [own_ix0 (by simp only [Int32.lt_iff_toInt_lt, ← Int32.toInt_inj, Int32.reduceToInt] at hc1 hc9 <;> omega)]; rfl, N0, rfl⟩
theorem ef_rmGl3 (m : MethodId) (a1 : Addr) (p2 : Int32) : entryFrame m #[(.ref a1), (.int p2)] 2 = mkF m 0 #[.val (.ref a1), .val (.int p2)] [] := by first | (simp [entryFrame, mkF, argsToLocals, Value.category]; done) | rfl
def Q_rmGl3 (Z : State) (a1 : Addr) (p2 : Int32) (l1 : Addr) (kl : ClassId) (y0 : Value) (y1 : Value) (y2 : Value) (y3 : Value) (y4 : Value) (y5 : Value) (y6 : Value) (y7 : Value) (h0 : Heap) (n0 : Nat) (rv : Option Value) (hq : Heap) (Lq : List Loc) : Prop := rv = some (own_sel 3 y0 y1 y2 p2) ∧ Fr n0 Lq ∧ hq = h0
set_option maxRecDepth 65536 in
set_option maxHeartbeats 40000000 in
theorem rmGl3 (l : Launch) (Z : State) (a0 : Array Value) (hw : ∀ d ∈ tables_1, d.before a0 Z = true) (ws : List Jvm.Cond) (a1 : Addr) (p2 : Int32) (l1 : Addr) (kl : ClassId) (y0 : Value) (y1 : Value) (y2 : Value) (y3 : Value) (y4 : Value) (y5 : Value) (y6 : Value) (y7 : Value) (h0 : Heap) (n0 : Nat) (Z0 : n0 ≤ h0.size) (E_a1 : Exa Z h0 a1 "com/example/fondskit/fondskit/xml/BoundAttributes") (F_length_a1 : Fld Z h0 a1 "com/example/fondskit/fondskit/xml/BoundAttributes" "length" "I" (.int (3 : Int32))) (F_localNames_a1 : Fld Z h0 a1 "com/example/fondskit/fondskit/xml/BoundAttributes" "localNames" "[Ljava/lang/String;" (.ref l1)) (V_l1 : Arv Z h0 l1 kl (.object "java/lang/String") (8 : Int32) [y0, y1, y2, y3, y4, y5, y6, y7] .null) :
    MetFree l (⟨"com/example/fondskit/fondskit/xml/BoundAttributes", "getLocalName", "(I)Ljava/lang/String;"⟩ : MethodName) (head1 (Jvm.Cond.code (⟨"com/example/fondskit/fondskit/xml/BoundAttributes", "getLocalName", "(I)Ljava/lang/String;"⟩ : MethodName) prog_49_method_6_code 2 (some (.object "java/lang/String")) :: ws) ({ frames := 1, cells := 0, slots := 0, locals := 13 } : Room)) (fun a U => a = #[(.ref a1), (.int p2)] ∧ Z.Warmed39 U.vm ∧ U.heap = h0) (fun _ _ _ _ _ => True) (fun _ U o U' => ∃ rv Lq, o = .returned rv ∧ Q_rmGl3 Z a1 p2 l1 kl y0 y1 y2 y3 y4 y5 y6 y7 h0 n0 rv U'.heap Lq ∧ FrameEnd U o U' Lq ({ frames := 1, cells := 0, slots := 0, locals := 13 } : Room).cells ({ frames := 1, cells := 0, slots := 0, locals := 13 } : Room).slots) := by
  refine MetFree.of_bodySF (plainFor_of_name pn_11) hisR ?_
  intro p e s m args below meth c s₁ Bd hml0 hP hK
  obtain ⟨rfl, hZ, hh⟩ := hP
  have hx := Bd.exec
  have hby := Bd.bytes
  have hml : c.maxLocals = 2 := hml0
  have hown : s.vm.findClass "com/example/fondskit/fondskit/xml/BoundAttributes" = some m.cls := findClass_of_methodNamed Bd.named
  have hnm := (name_of_methodNamed Bd.named Bd.method).1
  have X0 : Stand p l e ({ frames := 1, cells := 0, slots := 0, locals := 13 } : Room) s m #[(.ref a1), (.int p2)] below meth c s₁ [] 0 0 := Stand.of_body Bd
  have e0 : s₁.heap = h0 := by rw [← hh, Bd.state]; rfl
  have N0 := Fr.nil n0
  refine of_go (ef_rmGl3 m a1 p2) ?_
  refine Go.step (T' := s₁) (f' := (mkF m 1 #[.val (.ref a1), .val (.int p2)] [(.ref a1)])) (fun _ k => XS.aloadN X0.here hx rfl (hb hby d14_0) rfl rfl k) ?_
  refine Go.step (T' := s₁) (f' := (mkF m 2 #[.val (.ref a1), .val (.int p2)] [(.int p2), (.ref a1)])) (fun _ k => XS.iloadN X0.here hx rfl (hb hby d14_1) rfl k) ?_
  obtain ⟨cq1, q1, q1'⟩ := E_a1.cell
  obtain ⟨_, _, ⟨T1, L1, kk1, nn1⟩, -, X1, ⟨Lc1, hQ1, lq1, yq1, zq1⟩, st1⟩ := X0.privateBack hx (y := (⟨"com/example/fondskit/fondskit/xml/BoundAttributes", "isIndex", "(I)Z"⟩ : MethodName)) hown (mvT hZ (hw _ (List.mem_of_getElem? (i := 79) rfl))) (mvT hZ (hw _ (List.mem_of_getElem? (i := 80) rfl))) (Jvm.Kit.selects_private (by decide) (mvT hZ (hw _ (List.mem_of_getElem? (i := 46) rfl))) (mvP hZ (hw _ (List.mem_of_getElem? (i := 81) rfl))) (mvT hZ (hw _ (List.mem_of_getElem? (i := 80) rfl)))) (Cond.privateMethod_at (mvP hZ (hw _ (List.mem_of_getElem? (i := 81) rfl)) (args := #[]))) (mvT hZ (hw _ (List.mem_of_getElem? (i := 82) rfl))) (by decide) (backOf (W := 0) (rmIx3 l Z a0 hw [] a1 p2 h0 n0 Z0 F_length_a1) hZ (hw _ (List.mem_of_getElem? (i := 82) rfl)) (hw _ (List.mem_of_getElem? (i := 47) rfl)) (by decide) (by decide)) (g := (mkF m 2 #[.val (.ref a1), .val (.int p2)] [(.int p2), (.ref a1)])) rfl (by rw [hml]; rfl) (Steps.refl _) (a := a1) (by rw [e0]; exact q1) q1' (argsL := [(.int p2)]) (rest := []) (lenOf pd_7 rfl) rfl (by show 2 * 0 + _ ≤ _; exact Nat.le_of_eq rfl) (hb hby d14_2) (fun _ _ => ⟨rfl, e0, (by decide : 0 + 0 ≤ _), (by decide : 0 + 0 ≤ _)⟩)
  dsimp only [Pt.U, Pt.locs, Pt.cells, Pt.slots] at X1 lq1 yq1 zq1 st1 hQ1
  subst yq1 zq1
  obtain ⟨rfl, Nq1, eh1⟩ := hQ1
  have N1 : Fr n0 L1 := by rw [lq1]; exact Fr.app N0 Nq1
  refine Go.step (T' := T1) (f' := (mkF m 5 #[.val (.ref a1), .val (.int p2)] [(.int (own_ix 3 p2))])) (fun _ k => st1.trans k) ?_
  rcases Classical.em (0 ≤ p2.toInt ∧ p2.toInt < 3) with hr | hr
  · obtain ⟨hlo, hhi⟩ := hr
    rw [own_ix1 (n := 3) (i := p2) ⟨hlo, hhi⟩]
    refine Go.step (T' := T1) (f' := (mkF m 8 #[.val (.ref a1), .val (.int p2)] [])) (fun _ k => XS.ifNo X1.here hx rfl (hb hby d14_5) rfl ((if0 _ _).trans (feq (by decide : ¬ ((1 : Int32) = (0 : Int32)))).1) k) ?_
    refine Go.step (T' := T1) (f' := (mkF m 9 #[.val (.ref a1), .val (.int p2)] [(.ref a1)])) (fun _ k => XS.aloadN X1.here hx rfl (hb hby d14_8) rfl rfl k) ?_
    obtain ⟨T2, X2, e2, st2⟩ := getF X1 hx hZ hown (host := "") (Or.inl (hw _ (List.mem_of_getElem? (i := 58) rfl))) Via.refl eh1 F_localNames_a1 (g := (mkF m 9 #[.val (.ref a1), .val (.int p2)] [(.ref a1)])) rfl rfl (hb hby d14_9)
    refine Go.step (T' := T2) (f' := (mkF m 12 #[.val (.ref a1), .val (.int p2)] [(.ref l1)])) st2 ?_
    refine Go.step (T' := T2) (f' := (mkF m 13 #[.val (.ref a1), .val (.int p2)] [(.int p2), (.ref l1)])) (fun _ k => XS.iloadN X2.here hx rfl (hb hby d14_12) rfl k) ?_
    obtain ⟨cl3, Ar3, qc3, Sz3, Nn3, Hs3, Gf3⟩ := id V_l1
    have hin4 : ¬ (p2 < 0 ∨ cl3.slots.size ≤ (p2).toNatClampNeg) := (inb_of Sz3 (by constructor <;> simp only [Int32.lt_iff_toInt_lt, Int32.reduceToInt] <;> omega))
    have hu4 : ([y0, y1, y2, y3, y4, y5, y6, y7] : List Value).getD (p2).toNatClampNeg .null = (own_sel 3 y0 y1 y2 p2) := own_getD3 hlo hhi
    have hR : ((own_sel 3 y0 y1 y2 p2) : Value).isRef = true := hu4 ▸ fit_R (Gf3 _ (Nat.lt_of_not_le fun y => hin4 (Or.inr y))) rfl
    have hat4 : cl3.slots[(p2).toNatClampNeg]? = some (own_sel 3 y0 y1 y2 p2) := Has.at Hs3 hin4 hu4
    refine Go.step (T' := T2) (f' := (mkF m 14 #[.val (.ref a1), .val (.int p2)] [(own_sel 3 y0 y1 y2 p2)])) (fun _ k => X2.aaload hx (j := p2) (v := (own_sel 3 y0 y1 y2 p2)) (by rw [e2]; exact Ar3.1) (State.isArrayOf_alike hZ.alike Ar3.2.1) rfl Ar3.2.2 hin4 hat4 (g := (mkF m 13 #[.val (.ref a1), .val (.int p2)] [(.int p2), (.ref l1)])) rfl rfl (hb hby d14_13) _ k) ?_
    refine Go.step (T' := T2) (f' := (mkF m 18 #[.val (.ref a1), .val (.int p2)] [(own_sel 3 y0 y1 y2 p2)])) (fun _ k => XS.goto X2.here hx rfl (pc0 := 14) (pc' := 18) rfl (hb hby d14_14) (by decide) (by decide) k) ?_
    refine goA X2 hx Bd.returns rfl hR Bd.notSynchronized (hb hby d14_18) ?_ (by decide) (by decide)
    show Q_rmGl3 Z a1 p2 l1 kl y0 y1 y2 y3 y4 y5 y6 y7 h0 n0 _ T2.heap _
    rw [e2]
    exact ⟨rfl, N1, rfl⟩
  · have hno : p2.toInt < 0 ∨ 3 ≤ p2.toInt := by omega
    rw [own_ix0 (n := 3) (i := p2) hr]
    refine Go.step (T' := T1) (f' := (mkF m 17 #[.val (.ref a1), .val (.int p2)] [])) (fun _ k => XS.ifYes X1.here hx rfl (pc0 := 5) (pc' := 17) rfl (hb hby d14_5) rfl ((if0 _ _).trans (teq (by decide : (0 : Int32) = (0 : Int32))).1) (by decide) (by decide) k) ?_
    refine Go.step (T' := T1) (f' := (mkF m 18 #[.val (.ref a1), .val (.int p2)] [.null])) (fun _ k => XS.aconstNull X1.here hx rfl (hb hby d14_17) k) ?_
    refine goA X1 hx Bd.returns rfl rfl Bd.notSynchronized (hb hby d14_18) ?_ (by decide) (by decide)
    show Q_rmGl3 Z a1 p2 l1 kl y0 y1 y2 y3 y4 y5 y6 y7 h0 n0 _ T1.heap _
    rw [eh1]
    exact ⟨by rw [own_sel0 (hno)], N1, rfl⟩
theorem ef_rmEp3 (m : MethodId) (a1 : Addr) (p3 : Int32) : entryFrame m #[(.ref a1), (.int (3 : Int32)), (.int p3)] 3 = mkF m 0 #[.val (.ref a1), .val (.int (3 : Int32)), .val (.int p3)] [] := by first | (simp [entryFrame, mkF, argsToLocals, Value.category]; done) | rfl
def Q_rmEp3 (Z : State) (a1 : Addr) (p3 : Int32) (kl : ClassId) (y0 : Value) (y1 : Value) (y2 : Value) (h0 : Heap) (n0 : Nat) (rv : Option Value) (hq : Heap) (Lq : List Loc) : Prop := rv = some (own_sel 3 y0 y1 y2 p3) ∧ Fr n0 Lq ∧ hq = h0
set_option maxRecDepth 65536 in
set_option maxHeartbeats 40000000 in
theorem rmEp3 (l : Launch) (Z : State) (a0 : Array Value) (hw : ∀ d ∈ tables_1, d.before a0 Z = true) (ws : List Jvm.Cond) (a1 : Addr) (p3 : Int32) (kl : ClassId) (y0 : Value) (y1 : Value) (y2 : Value) (h0 : Heap) (n0 : Nat) (Z0 : n0 ≤ h0.size) (V_a1 : Arv Z h0 a1 kl (.object "java/lang/String") (3 : Int32) [y0, y1, y2] .null) :
    MetFree l (⟨"com/example/fondskit/fondskit/xml/BoundAttributesGetLocalNamePinLaw", "expected", "([Ljava/lang/String;II)Ljava/lang/String;"⟩ : MethodName) (head1 (Jvm.Cond.code (⟨"com/example/fondskit/fondskit/xml/BoundAttributesGetLocalNamePinLaw", "expected", "([Ljava/lang/String;II)Ljava/lang/String;"⟩ : MethodName) method_3_code 3 (some (.object "java/lang/String")) :: ws) ({ frames := 0, cells := 0, slots := 0, locals := 0 } : Room)) (fun a U => a = #[(.ref a1), (.int (3 : Int32)), (.int p3)] ∧ Z.Warmed39 U.vm ∧ U.heap = h0) (fun _ _ _ _ _ => True) (fun _ U o U' => ∃ rv Lq, o = .returned rv ∧ Q_rmEp3 Z a1 p3 kl y0 y1 y2 h0 n0 rv U'.heap Lq ∧ FrameEnd U o U' Lq ({ frames := 0, cells := 0, slots := 0, locals := 0 } : Room).cells ({ frames := 0, cells := 0, slots := 0, locals := 0 } : Room).slots) := by
  refine MetFree.of_bodySF (plainFor_of_name pn_16) hisR ?_
  intro p e s m args below meth c s₁ Bd hml0 hP hK
  obtain ⟨rfl, hZ, hh⟩ := hP
  have hx := Bd.exec
  have hby := Bd.bytes
  have hml : c.maxLocals = 3 := hml0
  have hown : s.vm.findClass "com/example/fondskit/fondskit/xml/BoundAttributesGetLocalNamePinLaw" = some m.cls := findClass_of_methodNamed Bd.named
  have hnm := (name_of_methodNamed Bd.named Bd.method).1
  have X0 : Stand p l e ({ frames := 0, cells := 0, slots := 0, locals := 0 } : Room) s m #[(.ref a1), (.int (3 : Int32)), (.int p3)] below meth c s₁ [] 0 0 := Stand.of_body Bd
  have e0 : s₁.heap = h0 := by rw [← hh, Bd.state]; rfl
  have N0 := Fr.nil n0
  refine of_go (ef_rmEp3 m a1 p3) ?_
  refine Go.step (T' := s₁) (f' := (mkF m 1 #[.val (.ref a1), .val (.int (3 : Int32)), .val (.int p3)] [(.int p3)])) (fun _ k => XS.iloadN X0.here hx rfl (hb hby d16_0) rfl k) ?_
  by_cases hc1 : p3 < (0 : Int32)
  · refine Go.step (T' := s₁) (f' := (mkF m 4 #[.val (.ref a1), .val (.int (3 : Int32)), .val (.int p3)] [])) (fun _ k => XS.ifNo X0.here hx rfl (hb hby d16_1) rfl ((if0 _ _).trans (tlt hc1).2.1) k) ?_
    refine Go.step (T' := s₁) (f' := (mkF m 5 #[.val (.ref a1), .val (.int (3 : Int32)), .val (.int p3)] [.null])) (fun _ k => XS.aconstNull X0.here hx rfl (hb hby d16_4) k) ?_
    refine goA X0 hx Bd.returns rfl rfl Bd.notSynchronized (hb hby d16_5) ?_ (by decide) (by decide)
    show Q_rmEp3 Z a1 p3 kl y0 y1 y2 h0 n0 _ s₁.heap _
    rw [e0]
    exact ⟨by rw [own_sel0 (by simp only [Int32.lt_iff_toInt_lt, ← Int32.toInt_inj, Int32.reduceToInt] at hc1 <;> omega)], N0, rfl⟩
  · refine Go.step (T' := s₁) (f' := (mkF m 6 #[.val (.ref a1), .val (.int (3 : Int32)), .val (.int p3)] [])) (fun _ k => XS.ifYes X0.here hx rfl (pc0 := 1) (pc' := 6) rfl (hb hby d16_1) rfl ((if0 _ _).trans (flt hc1).2.1) (by decide) (by decide) k) ?_
    refine Go.step (T' := s₁) (f' := (mkF m 7 #[.val (.ref a1), .val (.int (3 : Int32)), .val (.int p3)] [(.int p3)])) (fun _ k => XS.iloadN X0.here hx rfl (hb hby d16_6) rfl k) ?_
    refine Go.step (T' := s₁) (f' := (mkF m 8 #[.val (.ref a1), .val (.int (3 : Int32)), .val (.int p3)] [(.int (3 : Int32)), (.int p3)])) (fun _ k => XS.iloadN X0.here hx rfl (hb hby d16_7) rfl k) ?_
    by_cases hc8 : p3 < (3 : Int32)
    · refine Go.step (T' := s₁) (f' := (mkF m 13 #[.val (.ref a1), .val (.int (3 : Int32)), .val (.int p3)] [])) (fun _ k => XS.icmpYes X0.here hx rfl (pc0 := 8) (pc' := 13) rfl (hb hby d16_8) rfl (tlt hc8).1 (by decide) (by decide) k) ?_
      have hlo : 0 ≤ p3.toInt := (by simp only [Int32.lt_iff_toInt_lt, ← Int32.toInt_inj, Int32.reduceToInt] at hc1 hc8 <;> omega)
      have hhi : p3.toInt < 3 := (by simp only [Int32.lt_iff_toInt_lt, ← Int32.toInt_inj, Int32.reduceToInt] at hc1 hc8 <;> omega)
      refine Go.step (T' := s₁) (f' := (mkF m 14 #[.val (.ref a1), .val (.int (3 : Int32)), .val (.int p3)] [(.ref a1)])) (fun _ k => XS.aloadN X0.here hx rfl (hb hby d16_13) rfl rfl k) ?_
      refine Go.step (T' := s₁) (f' := (mkF m 15 #[.val (.ref a1), .val (.int (3 : Int32)), .val (.int p3)] [(.int p3), (.ref a1)])) (fun _ k => XS.iloadN X0.here hx rfl (hb hby d16_14) rfl k) ?_
      obtain ⟨cl1, Ar1, qc1, Sz1, Nn1, Hs1, Gf1⟩ := id V_a1
      have hin2 : ¬ (p3 < 0 ∨ cl1.slots.size ≤ (p3).toNatClampNeg) := (inb_of Sz1 (by constructor <;> simp only [Int32.lt_iff_toInt_lt, Int32.reduceToInt] <;> omega))
      have hu2 : ([y0, y1, y2] : List Value).getD (p3).toNatClampNeg .null = (own_sel 3 y0 y1 y2 p3) := own_getD3 hlo hhi
      have hR : ((own_sel 3 y0 y1 y2 p3) : Value).isRef = true := hu2 ▸ fit_R (Gf1 _ (Nat.lt_of_not_le fun y => hin2 (Or.inr y))) rfl
      have hat2 : cl1.slots[(p3).toNatClampNeg]? = some (own_sel 3 y0 y1 y2 p3) := Has.at Hs1 hin2 hu2
      refine Go.step (T' := s₁) (f' := (mkF m 16 #[.val (.ref a1), .val (.int (3 : Int32)), .val (.int p3)] [(own_sel 3 y0 y1 y2 p3)])) (fun _ k => X0.aaload hx (j := p3) (v := (own_sel 3 y0 y1 y2 p3)) (by rw [e0]; exact Ar1.1) (State.isArrayOf_alike hZ.alike Ar1.2.1) rfl Ar1.2.2 hin2 hat2 (g := (mkF m 15 #[.val (.ref a1), .val (.int (3 : Int32)), .val (.int p3)] [(.int p3), (.ref a1)])) rfl rfl (hb hby d16_15) _ k) ?_
      refine goA X0 hx Bd.returns rfl hR Bd.notSynchronized (hb hby d16_16) ?_ (by decide) (by decide)
      show Q_rmEp3 Z a1 p3 kl y0 y1 y2 h0 n0 _ s₁.heap _
      rw [e0]
      exact ⟨rfl, N0, rfl⟩
    · refine Go.step (T' := s₁) (f' := (mkF m 11 #[.val (.ref a1), .val (.int (3 : Int32)), .val (.int p3)] [])) (fun _ k => XS.icmpNo X0.here hx rfl (hb hby d16_8) rfl (flt hc8).1 k) ?_
      refine Go.step (T' := s₁) (f' := (mkF m 12 #[.val (.ref a1), .val (.int (3 : Int32)), .val (.int p3)] [.null])) (fun _ k => XS.aconstNull X0.here hx rfl (hb hby d16_11) k) ?_
      refine goA X0 hx Bd.returns rfl rfl Bd.notSynchronized (hb hby d16_12) ?_ (by decide) (by decide)
      show Q_rmEp3 Z a1 p3 kl y0 y1 y2 h0 n0 _ s₁.heap _
      rw [e0]
      exact ⟨by rw [own_sel0 (by simp only [Int32.lt_iff_toInt_lt, ← Int32.toInt_inj, Int32.reduceToInt] at hc1 hc8 <;> omega)], N0, rfl⟩
theorem pd_8 : parseMethodDescriptor "(C)Ljava/lang/String;" = some ⟨[.char], some (.object "java/lang/String")⟩ := by decide +kernel
theorem pd_9 : parseMethodDescriptor "([C)V" = some ⟨[(.array .char)], none⟩ := by decide +kernel
theorem pd_10 : parseMethodDescriptor "()V" = some ⟨[], none⟩ := by decide +kernel
theorem pd_11 : parseMethodDescriptor "(ILjava/lang/String;Ljava/lang/String;)V" = some ⟨[.int, (.object "java/lang/String"), (.object "java/lang/String")], none⟩ := by decide +kernel
theorem pd_12 : parseMethodDescriptor "(Lorg/xml/sax/Attributes;)V" = some ⟨[(.object "org/xml/sax/Attributes")], none⟩ := by decide +kernel
theorem pd_13 : parseMethodDescriptor "(I)Ljava/lang/String;" = some ⟨[.int], some (.object "java/lang/String")⟩ := by decide +kernel
theorem pd_14 : parseMethodDescriptor "([Ljava/lang/String;II)Ljava/lang/String;" = some ⟨[(.array (.object "java/lang/String")), .int, .int], some (.object "java/lang/String")⟩ := by decide +kernel
theorem ef_rm0 (m : MethodId) (p1 : Int32) (p2 : Int32) (p3 : Int32) (p4 : Int32) (p5 : Int32) : entryFrame m #[(.int p1), (.int p2), (.int p3), (.int p4), (.int p5)] maxLocals = mkF m 0 #[.val (.int p1), .val (.int p2), .val (.int p3), .val (.int p4), .val (.int p5), .unset, .unset, .unset, .unset, .unset, .unset, .unset, .unset, .unset, .unset, .unset, .unset, .unset, .unset, .unset] [] := by first | (simp [entryFrame, mkF, argsToLocals, Value.category, maxLocals]; done) | rfl
def Q_rm0 (Z : State) (p1 : Int32) (p2 : Int32) (p3 : Int32) (p4 : Int32) (p5 : Int32) (cs : Int32) (h0 : Heap) (n0 : Nat) (rv : Option Value) (hq : Heap) (Lq : List Loc) : Prop := rv = some (.int (1 : Int32)) ∧ Fr n0 Lq
set_option maxRecDepth 65536 in
set_option maxHeartbeats 40000000 in
theorem rm0 (l : Launch) (Z : State) (a0 : Array Value) (hw : ∀ d ∈ tables_1, d.before a0 Z = true) (ws : List Jvm.Cond) (p1 : Int32) (p2 : Int32) (p3 : Int32) (p4 : Int32) (p5 : Int32) (cs : Int32) (h0 : Heap) (n0 : Nat) (Z0 : n0 ≤ h0.size) (O0 : Old Z n0 h0) (S_COMPACT_STRINGS : Sta Z Z.heap "java/lang/String" "COMPACT_STRINGS" "Z" (.int cs)) (hcs : ¬ cs = (0 : Int32)) :
    MetFree l x (head1 (Jvm.Cond.code x code maxLocals ret :: ws) room_1) (fun a U => a = #[(.int p1), (.int p2), (.int p3), (.int p4), (.int p5)] ∧ Z.Warmed39 U.vm ∧ U.heap = h0) (fun _ _ _ _ _ => True) (fun _ U o U' => ∃ rv Lq, o = .returned rv ∧ Q_rm0 Z p1 p2 p3 p4 p5 cs h0 n0 rv U'.heap Lq ∧ FrameEnd U o U' Lq room_1.cells room_1.slots) := by
  refine MetFree.of_bodySF (plainFor_of_name pn_16) hisR ?_
  intro p e s m args below meth c s₁ Bd hml0 hP hK
  obtain ⟨rfl, hZ, hh⟩ := hP
  have hx := Bd.exec
  have hby := Bd.bytes
  have hml : c.maxLocals = 20 := hml0
  have hown : s.vm.findClass "com/example/fondskit/fondskit/xml/BoundAttributesGetLocalNamePinLaw" = some m.cls := findClass_of_methodNamed Bd.named
  have hnm := (name_of_methodNamed Bd.named Bd.method).1
  have X0 : Stand p l e room_1 s m #[(.int p1), (.int p2), (.int p3), (.int p4), (.int p5)] below meth c s₁ [] 0 0 := Stand.of_body Bd
  have e0 : s₁.heap = h0 := by rw [← hh, Bd.state]; rfl
  have N0 := Fr.nil n0
  refine of_go (ef_rm0 m p1 p2 p3 p4 p5) ?_
  refine Go.step (T' := s₁) (f' := (mkF m 1 #[.val (.int p1), .val (.int p2), .val (.int p3), .val (.int p4), .val (.int p5), .unset, .unset, .unset, .unset, .unset, .unset, .unset, .unset, .unset, .unset, .unset, .unset, .unset, .unset, .unset] [(.int p1)])) (fun _ k => XS.iloadN X0.here hx rfl (hb hby at_0) rfl k) ?_
  refine Go.step (T' := s₁) (f' := (mkF m 2 #[.val (.int p1), .val (.int p2), .val (.int p3), .val (.int p4), .val (.int p5), .unset, .unset, .unset, .unset, .unset, .unset, .unset, .unset, .unset, .unset, .unset, .unset, .unset, .unset, .unset] [(.int (3 : Int32)), (.int p1)])) (fun _ k => XS.iconst X0.here hx rfl (hb hby at_1) k) ?_
  refine Go.step (T' := s₁) (f' := (mkF m 3 #[.val (.int p1), .val (.int p2), .val (.int p3), .val (.int p4), .val (.int p5), .unset, .unset, .unset, .unset, .unset, .unset, .unset, .unset, .unset, .unset, .unset, .unset, .unset, .unset, .unset] [(.int (p1 &&& (3 : Int32)))])) (fun _ k => XS.iand X0.here hx rfl (hb hby at_2) rfl k) ?_
  refine Go.step (T' := s₁) (f' := (mkF m 5 #[.val (.int p1), .val (.int p2), .val (.int p3), .val (.int p4), .val (.int p5), .val (.int (p1 &&& (3 : Int32))), .unset, .unset, .unset, .unset, .unset, .unset, .unset, .unset, .unset, .unset, .unset, .unset, .unset, .unset] [])) (fun _ k => XS.istore X0.here hx rfl (hb hby at_3) rfl (l' := #[.val (.int p1), .val (.int p2), .val (.int p3), .val (.int p4), .val (.int p5), .val (.int (p1 &&& (3 : Int32))), .unset, .unset, .unset, .unset, .unset, .unset, .unset, .unset, .unset, .unset, .unset, .unset, .unset, .unset]) rfl k) ?_
  refine Go.step (T' := s₁) (f' := (mkF m 6 #[.val (.int p1), .val (.int p2), .val (.int p3), .val (.int p4), .val (.int p5), .val (.int (p1 &&& (3 : Int32))), .unset, .unset, .unset, .unset, .unset, .unset, .unset, .unset, .unset, .unset, .unset, .unset, .unset, .unset] [(.int p2)])) (fun _ k => XS.iloadN X0.here hx rfl (hb hby at_5) rfl k) ?_
  refine Go.step (T' := s₁) (f' := (mkF m 9 #[.val (.int p1), .val (.int p2), .val (.int p3), .val (.int p4), .val (.int p5), .val (.int (p1 &&& (3 : Int32))), .unset, .unset, .unset, .unset, .unset, .unset, .unset, .unset, .unset, .unset, .unset, .unset, .unset, .unset] [(.int (255 : Int32)), (.int p2)])) (fun _ k => XS.sipush X0.here hx rfl (hb hby at_6) k) ?_
  refine Go.step (T' := s₁) (f' := (mkF m 10 #[.val (.int p1), .val (.int p2), .val (.int p3), .val (.int p4), .val (.int p5), .val (.int (p1 &&& (3 : Int32))), .unset, .unset, .unset, .unset, .unset, .unset, .unset, .unset, .unset, .unset, .unset, .unset, .unset, .unset] [(.int (p2 &&& (255 : Int32)))])) (fun _ k => XS.iand X0.here hx rfl (hb hby at_9) rfl k) ?_
  refine Go.step (T' := s₁) (f' := (mkF m 11 #[.val (.int p1), .val (.int p2), .val (.int p3), .val (.int p4), .val (.int p5), .val (.int (p1 &&& (3 : Int32))), .unset, .unset, .unset, .unset, .unset, .unset, .unset, .unset, .unset, .unset, .unset, .unset, .unset, .unset] [(.int ((p2 &&& (255 : Int32)).toUInt32.toUInt16.toUInt32.toInt32))])) (fun _ k => XS.i2c X0.here hx rfl (hb hby at_10) rfl k) ?_
  refine Go.step (T' := s₁) (f' := (mkF m 13 #[.val (.int p1), .val (.int p2), .val (.int p3), .val (.int p4), .val (.int p5), .val (.int (p1 &&& (3 : Int32))), .val (.int ((p2 &&& (255 : Int32)).toUInt32.toUInt16.toUInt32.toInt32)), .unset, .unset, .unset, .unset, .unset, .unset, .unset, .unset, .unset, .unset, .unset, .unset, .unset] [])) (fun _ k => XS.istore X0.here hx rfl (hb hby at_11) rfl (l' := #[.val (.int p1), .val (.int p2), .val (.int p3), .val (.int p4), .val (.int p5), .val (.int (p1 &&& (3 : Int32))), .val (.int ((p2 &&& (255 : Int32)).toUInt32.toUInt16.toUInt32.toInt32)), .unset, .unset, .unset, .unset, .unset, .unset, .unset, .unset, .unset, .unset, .unset, .unset, .unset]) rfl k) ?_
  obtain ⟨ca, e_ca⟩ : ∃ z, z = ((p2 &&& (255 : Int32)).toUInt32.toUInt16.toUInt32.toInt32) := ⟨_, rfl⟩
  rw [← e_ca]
  obtain ⟨ca_l, ca_n, ca_f, ca_0⟩ := own_ch p2
  rw [← e_ca] at ca_l ca_n ca_f ca_0
  refine Go.step (T' := s₁) (f' := (mkF m 14 #[.val (.int p1), .val (.int p2), .val (.int p3), .val (.int p4), .val (.int p5), .val (.int (p1 &&& (3 : Int32))), .val (.int ca), .unset, .unset, .unset, .unset, .unset, .unset, .unset, .unset, .unset, .unset, .unset, .unset, .unset] [(.int p2)])) (fun _ k => XS.iloadN X0.here hx rfl (hb hby at_13) rfl k) ?_
  refine Go.step (T' := s₁) (f' := (mkF m 16 #[.val (.int p1), .val (.int p2), .val (.int p3), .val (.int p4), .val (.int p5), .val (.int (p1 &&& (3 : Int32))), .val (.int ca), .unset, .unset, .unset, .unset, .unset, .unset, .unset, .unset, .unset, .unset, .unset, .unset, .unset] [(.int (8 : Int32)), (.int p2)])) (fun _ k => XS.bipush X0.here hx rfl (hb hby at_14) k) ?_
  refine Go.step (T' := s₁) (f' := (mkF m 17 #[.val (.int p1), .val (.int p2), .val (.int p3), .val (.int p4), .val (.int p5), .val (.int (p1 &&& (3 : Int32))), .val (.int ca), .unset, .unset, .unset, .unset, .unset, .unset, .unset, .unset, .unset, .unset, .unset, .unset, .unset] [(.int ((p2.toUInt32 >>> ((8 : Int32) &&& 31).toUInt32).toInt32))])) (fun _ k => XS.iushr X0.here hx rfl (hb hby at_16) rfl k) ?_
  refine Go.step (T' := s₁) (f' := (mkF m 20 #[.val (.int p1), .val (.int p2), .val (.int p3), .val (.int p4), .val (.int p5), .val (.int (p1 &&& (3 : Int32))), .val (.int ca), .unset, .unset, .unset, .unset, .unset, .unset, .unset, .unset, .unset, .unset, .unset, .unset, .unset] [(.int (255 : Int32)), (.int ((p2.toUInt32 >>> ((8 : Int32) &&& 31).toUInt32).toInt32))])) (fun _ k => XS.sipush X0.here hx rfl (hb hby at_17) k) ?_
  refine Go.step (T' := s₁) (f' := (mkF m 21 #[.val (.int p1), .val (.int p2), .val (.int p3), .val (.int p4), .val (.int p5), .val (.int (p1 &&& (3 : Int32))), .val (.int ca), .unset, .unset, .unset, .unset, .unset, .unset, .unset, .unset, .unset, .unset, .unset, .unset, .unset] [(.int (((p2.toUInt32 >>> ((8 : Int32) &&& 31).toUInt32).toInt32) &&& (255 : Int32)))])) (fun _ k => XS.iand X0.here hx rfl (hb hby at_20) rfl k) ?_
  refine Go.step (T' := s₁) (f' := (mkF m 22 #[.val (.int p1), .val (.int p2), .val (.int p3), .val (.int p4), .val (.int p5), .val (.int (p1 &&& (3 : Int32))), .val (.int ca), .unset, .unset, .unset, .unset, .unset, .unset, .unset, .unset, .unset, .unset, .unset, .unset, .unset] [(.int ((((p2.toUInt32 >>> ((8 : Int32) &&& 31).toUInt32).toInt32) &&& (255 : Int32)).toUInt32.toUInt16.toUInt32.toInt32))])) (fun _ k => XS.i2c X0.here hx rfl (hb hby at_21) rfl k) ?_
  refine Go.step (T' := s₁) (f' := (mkF m 24 #[.val (.int p1), .val (.int p2), .val (.int p3), .val (.int p4), .val (.int p5), .val (.int (p1 &&& (3 : Int32))), .val (.int ca), .val (.int ((((p2.toUInt32 >>> ((8 : Int32) &&& 31).toUInt32).toInt32) &&& (255 : Int32)).toUInt32.toUInt16.toUInt32.toInt32)), .unset, .unset, .unset, .unset, .unset, .unset, .unset, .unset, .unset, .unset, .unset, .unset] [])) (fun _ k => XS.istore X0.here hx rfl (hb hby at_22) rfl (l' := #[.val (.int p1), .val (.int p2), .val (.int p3), .val (.int p4), .val (.int p5), .val (.int (p1 &&& (3 : Int32))), .val (.int ca), .val (.int ((((p2.toUInt32 >>> ((8 : Int32) &&& 31).toUInt32).toInt32) &&& (255 : Int32)).toUInt32.toUInt16.toUInt32.toInt32)), .unset, .unset, .unset, .unset, .unset, .unset, .unset, .unset, .unset, .unset, .unset, .unset]) rfl k) ?_
  obtain ⟨cb, e_cb⟩ : ∃ z, z = ((((p2.toUInt32 >>> ((8 : Int32) &&& 31).toUInt32).toInt32) &&& (255 : Int32)).toUInt32.toUInt16.toUInt32.toInt32) := ⟨_, rfl⟩
  rw [← e_cb]
  obtain ⟨cb_l, cb_n, cb_f, cb_0⟩ := own_ch ((p2.toUInt32 >>> ((8 : Int32) &&& 31).toUInt32).toInt32)
  rw [← e_cb] at cb_l cb_n cb_f cb_0
  refine Go.step (T' := s₁) (f' := (mkF m 25 #[.val (.int p1), .val (.int p2), .val (.int p3), .val (.int p4), .val (.int p5), .val (.int (p1 &&& (3 : Int32))), .val (.int ca), .val (.int cb), .unset, .unset, .unset, .unset, .unset, .unset, .unset, .unset, .unset, .unset, .unset, .unset] [(.int p2)])) (fun _ k => XS.iloadN X0.here hx rfl (hb hby at_24) rfl k) ?_
  refine Go.step (T' := s₁) (f' := (mkF m 27 #[.val (.int p1), .val (.int p2), .val (.int p3), .val (.int p4), .val (.int p5), .val (.int (p1 &&& (3 : Int32))), .val (.int ca), .val (.int cb), .unset, .unset, .unset, .unset, .unset, .unset, .unset, .unset, .unset, .unset, .unset, .unset] [(.int (16 : Int32)), (.int p2)])) (fun _ k => XS.bipush X0.here hx rfl (hb hby at_25) k) ?_
  refine Go.step (T' := s₁) (f' := (mkF m 28 #[.val (.int p1), .val (.int p2), .val (.int p3), .val (.int p4), .val (.int p5), .val (.int (p1 &&& (3 : Int32))), .val (.int ca), .val (.int cb), .unset, .unset, .unset, .unset, .unset, .unset, .unset, .unset, .unset, .unset, .unset, .unset] [(.int ((p2.toUInt32 >>> ((16 : Int32) &&& 31).toUInt32).toInt32))])) (fun _ k => XS.iushr X0.here hx rfl (hb hby at_27) rfl k) ?_
  refine Go.step (T' := s₁) (f' := (mkF m 31 #[.val (.int p1), .val (.int p2), .val (.int p3), .val (.int p4), .val (.int p5), .val (.int (p1 &&& (3 : Int32))), .val (.int ca), .val (.int cb), .unset, .unset, .unset, .unset, .unset, .unset, .unset, .unset, .unset, .unset, .unset, .unset] [(.int (255 : Int32)), (.int ((p2.toUInt32 >>> ((16 : Int32) &&& 31).toUInt32).toInt32))])) (fun _ k => XS.sipush X0.here hx rfl (hb hby at_28) k) ?_
  refine Go.step (T' := s₁) (f' := (mkF m 32 #[.val (.int p1), .val (.int p2), .val (.int p3), .val (.int p4), .val (.int p5), .val (.int (p1 &&& (3 : Int32))), .val (.int ca), .val (.int cb), .unset, .unset, .unset, .unset, .unset, .unset, .unset, .unset, .unset, .unset, .unset, .unset] [(.int (((p2.toUInt32 >>> ((16 : Int32) &&& 31).toUInt32).toInt32) &&& (255 : Int32)))])) (fun _ k => XS.iand X0.here hx rfl (hb hby at_31) rfl k) ?_
  refine Go.step (T' := s₁) (f' := (mkF m 33 #[.val (.int p1), .val (.int p2), .val (.int p3), .val (.int p4), .val (.int p5), .val (.int (p1 &&& (3 : Int32))), .val (.int ca), .val (.int cb), .unset, .unset, .unset, .unset, .unset, .unset, .unset, .unset, .unset, .unset, .unset, .unset] [(.int ((((p2.toUInt32 >>> ((16 : Int32) &&& 31).toUInt32).toInt32) &&& (255 : Int32)).toUInt32.toUInt16.toUInt32.toInt32))])) (fun _ k => XS.i2c X0.here hx rfl (hb hby at_32) rfl k) ?_
  refine Go.step (T' := s₁) (f' := (mkF m 35 #[.val (.int p1), .val (.int p2), .val (.int p3), .val (.int p4), .val (.int p5), .val (.int (p1 &&& (3 : Int32))), .val (.int ca), .val (.int cb), .val (.int ((((p2.toUInt32 >>> ((16 : Int32) &&& 31).toUInt32).toInt32) &&& (255 : Int32)).toUInt32.toUInt16.toUInt32.toInt32)), .unset, .unset, .unset, .unset, .unset, .unset, .unset, .unset, .unset, .unset, .unset] [])) (fun _ k => XS.istore X0.here hx rfl (hb hby at_33) rfl (l' := #[.val (.int p1), .val (.int p2), .val (.int p3), .val (.int p4), .val (.int p5), .val (.int (p1 &&& (3 : Int32))), .val (.int ca), .val (.int cb), .val (.int ((((p2.toUInt32 >>> ((16 : Int32) &&& 31).toUInt32).toInt32) &&& (255 : Int32)).toUInt32.toUInt16.toUInt32.toInt32)), .unset, .unset, .unset, .unset, .unset, .unset, .unset, .unset, .unset, .unset, .unset]) rfl k) ?_
  obtain ⟨cc, e_cc⟩ : ∃ z, z = ((((p2.toUInt32 >>> ((16 : Int32) &&& 31).toUInt32).toInt32) &&& (255 : Int32)).toUInt32.toUInt16.toUInt32.toInt32) := ⟨_, rfl⟩
  rw [← e_cc]
  obtain ⟨cc_l, cc_n, cc_f, cc_0⟩ := own_ch ((p2.toUInt32 >>> ((16 : Int32) &&& 31).toUInt32).toInt32)
  rw [← e_cc] at cc_l cc_n cc_f cc_0
  refine Go.step (T' := s₁) (f' := (mkF m 36 #[.val (.int p1), .val (.int p2), .val (.int p3), .val (.int p4), .val (.int p5), .val (.int (p1 &&& (3 : Int32))), .val (.int ca), .val (.int cb), .val (.int cc), .unset, .unset, .unset, .unset, .unset, .unset, .unset, .unset, .unset, .unset, .unset] [(.int p2)])) (fun _ k => XS.iloadN X0.here hx rfl (hb hby at_35) rfl k) ?_
  refine Go.step (T' := s₁) (f' := (mkF m 38 #[.val (.int p1), .val (.int p2), .val (.int p3), .val (.int p4), .val (.int p5), .val (.int (p1 &&& (3 : Int32))), .val (.int ca), .val (.int cb), .val (.int cc), .unset, .unset, .unset, .unset, .unset, .unset, .unset, .unset, .unset, .unset, .unset] [(.int (24 : Int32)), (.int p2)])) (fun _ k => XS.bipush X0.here hx rfl (hb hby at_36) k) ?_
  refine Go.step (T' := s₁) (f' := (mkF m 39 #[.val (.int p1), .val (.int p2), .val (.int p3), .val (.int p4), .val (.int p5), .val (.int (p1 &&& (3 : Int32))), .val (.int ca), .val (.int cb), .val (.int cc), .unset, .unset, .unset, .unset, .unset, .unset, .unset, .unset, .unset, .unset, .unset] [(.int ((p2.toUInt32 >>> ((24 : Int32) &&& 31).toUInt32).toInt32))])) (fun _ k => XS.iushr X0.here hx rfl (hb hby at_38) rfl k) ?_
  refine Go.step (T' := s₁) (f' := (mkF m 42 #[.val (.int p1), .val (.int p2), .val (.int p3), .val (.int p4), .val (.int p5), .val (.int (p1 &&& (3 : Int32))), .val (.int ca), .val (.int cb), .val (.int cc), .unset, .unset, .unset, .unset, .unset, .unset, .unset, .unset, .unset, .unset, .unset] [(.int (255 : Int32)), (.int ((p2.toUInt32 >>> ((24 : Int32) &&& 31).toUInt32).toInt32))])) (fun _ k => XS.sipush X0.here hx rfl (hb hby at_39) k) ?_
  refine Go.step (T' := s₁) (f' := (mkF m 43 #[.val (.int p1), .val (.int p2), .val (.int p3), .val (.int p4), .val (.int p5), .val (.int (p1 &&& (3 : Int32))), .val (.int ca), .val (.int cb), .val (.int cc), .unset, .unset, .unset, .unset, .unset, .unset, .unset, .unset, .unset, .unset, .unset] [(.int (((p2.toUInt32 >>> ((24 : Int32) &&& 31).toUInt32).toInt32) &&& (255 : Int32)))])) (fun _ k => XS.iand X0.here hx rfl (hb hby at_42) rfl k) ?_
  refine Go.step (T' := s₁) (f' := (mkF m 44 #[.val (.int p1), .val (.int p2), .val (.int p3), .val (.int p4), .val (.int p5), .val (.int (p1 &&& (3 : Int32))), .val (.int ca), .val (.int cb), .val (.int cc), .unset, .unset, .unset, .unset, .unset, .unset, .unset, .unset, .unset, .unset, .unset] [(.int ((((p2.toUInt32 >>> ((24 : Int32) &&& 31).toUInt32).toInt32) &&& (255 : Int32)).toUInt32.toUInt16.toUInt32.toInt32))])) (fun _ k => XS.i2c X0.here hx rfl (hb hby at_43) rfl k) ?_
  refine Go.step (T' := s₁) (f' := (mkF m 46 #[.val (.int p1), .val (.int p2), .val (.int p3), .val (.int p4), .val (.int p5), .val (.int (p1 &&& (3 : Int32))), .val (.int ca), .val (.int cb), .val (.int cc), .val (.int ((((p2.toUInt32 >>> ((24 : Int32) &&& 31).toUInt32).toInt32) &&& (255 : Int32)).toUInt32.toUInt16.toUInt32.toInt32)), .unset, .unset, .unset, .unset, .unset, .unset, .unset, .unset, .unset, .unset] [])) (fun _ k => XS.istore X0.here hx rfl (hb hby at_44) rfl (l' := #[.val (.int p1), .val (.int p2), .val (.int p3), .val (.int p4), .val (.int p5), .val (.int (p1 &&& (3 : Int32))), .val (.int ca), .val (.int cb), .val (.int cc), .val (.int ((((p2.toUInt32 >>> ((24 : Int32) &&& 31).toUInt32).toInt32) &&& (255 : Int32)).toUInt32.toUInt16.toUInt32.toInt32)), .unset, .unset, .unset, .unset, .unset, .unset, .unset, .unset, .unset, .unset]) rfl k) ?_
  obtain ⟨cd, e_cd⟩ : ∃ z, z = ((((p2.toUInt32 >>> ((24 : Int32) &&& 31).toUInt32).toInt32) &&& (255 : Int32)).toUInt32.toUInt16.toUInt32.toInt32) := ⟨_, rfl⟩
  rw [← e_cd]
  obtain ⟨cd_l, cd_n, cd_f, cd_0⟩ := own_ch ((p2.toUInt32 >>> ((24 : Int32) &&& 31).toUInt32).toInt32)
  rw [← e_cd] at cd_l cd_n cd_f cd_0
  refine Go.step (T' := s₁) (f' := (mkF m 48 #[.val (.int p1), .val (.int p2), .val (.int p3), .val (.int p4), .val (.int p5), .val (.int (p1 &&& (3 : Int32))), .val (.int ca), .val (.int cb), .val (.int cc), .val (.int cd), .unset, .unset, .unset, .unset, .unset, .unset, .unset, .unset, .unset, .unset] [(.int ca)])) (fun _ k => XS.iload X0.here hx rfl (hb hby at_46) rfl k) ?_
  obtain ⟨_, _, ⟨T1, L1, kk1, nn1⟩, -, X1, ⟨Lc1, hQ1, lq1, yq1, zq1⟩, st1⟩ := Jvm.LawKit.callS X0 hx (y := (⟨"java/lang/String", "valueOf", "(C)Ljava/lang/String;"⟩ : MethodName)) hown (mvT hZ (hw _ (List.mem_of_getElem? (i := 0) rfl))) (mvT hZ (hw _ (List.mem_of_getElem? (i := 1) rfl))) (mvT hZ (hw _ (List.mem_of_getElem? (i := 2) rfl))) (mvT hZ (hw _ (List.mem_of_getElem? (i := 3) rfl))) (by decide) (backOf (W := 0) (rm1 l Z a0 hw [] ca cs h0 n0 Z0 O0 S_COMPACT_STRINGS hcs ca_l) hZ (hw _ (List.mem_of_getElem? (i := 3) rfl)) (hw _ (List.mem_of_getElem? (i := 2) rfl)) (by decide) (by decide)) (g := (mkF m 48 #[.val (.int p1), .val (.int p2), .val (.int p3), .val (.int p4), .val (.int p5), .val (.int (p1 &&& (3 : Int32))), .val (.int ca), .val (.int cb), .val (.int cc), .val (.int cd), .unset, .unset, .unset, .unset, .unset, .unset, .unset, .unset, .unset, .unset] [(.int ca)])) rfl (by rw [hml]; rfl) (argsL := [(.int ca)]) (rest := []) (lenOf pd_8 rfl) rfl (by show 2 * 0 + _ ≤ _; exact Nat.le_of_eq rfl) (hb hby at_48) (fun _ _ => ⟨rfl, e0, (by decide : 0 + 2 ≤ _), (by decide : 0 + 5 ≤ _)⟩)
  dsimp only [Pt.U, Pt.locs, Pt.cells, Pt.slots] at X1 lq1 yq1 zq1 st1 hQ1
  subst yq1 zq1
  obtain ⟨b_1, rfl, Nq1, Kq1, r1_0, r1_1⟩ := hQ1
  have N1 : Fr n0 L1 := by rw [lq1]; exact Fr.app N0 Nq1
  have g_b_1 : n0 ≤ b_1 := Nat.le_trans Z0 r1_0
  have Z2 : n0 ≤ T1.heap.size := Nat.le_trans Z0 Kq1.1
  have O2 : Old Z n0 T1.heap := O0.keep Kq1 all0
  refine Go.step (T' := T1) (f' := (mkF m 51 #[.val (.int p1), .val (.int p2), .val (.int p3), .val (.int p4), .val (.int p5), .val (.int (p1 &&& (3 : Int32))), .val (.int ca), .val (.int cb), .val (.int cc), .val (.int cd), .unset, .unset, .unset, .unset, .unset, .unset, .unset, .unset, .unset, .unset] [(.ref b_1)])) st1 ?_
  refine Go.step (T' := T1) (f' := (mkF m 53 #[.val (.int p1), .val (.int p2), .val (.int p3), .val (.int p4), .val (.int p5), .val (.int (p1 &&& (3 : Int32))), .val (.int ca), .val (.int cb), .val (.int cc), .val (.int cd), .val (.ref b_1), .unset, .unset, .unset, .unset, .unset, .unset, .unset, .unset, .unset] [])) (fun _ k => XS.astore X1.here hx rfl (hb hby at_51) rfl rfl (l' := #[.val (.int p1), .val (.int p2), .val (.int p3), .val (.int p4), .val (.int p5), .val (.int (p1 &&& (3 : Int32))), .val (.int ca), .val (.int cb), .val (.int cc), .val (.int cd), .val (.ref b_1), .unset, .unset, .unset, .unset, .unset, .unset, .unset, .unset, .unset]) rfl k) ?_
  obtain ⟨T3, h3, X3, e3, E3, A3, D3, -, st3⟩ := newO X1 hx hZ hown (hw _ (List.mem_of_getElem? (i := 26) rfl)) (hw _ (List.mem_of_getElem? (i := 10) rfl)) (hw _ (List.mem_of_getElem? (i := 2) rfl)) rfl (g := (mkF m 53 #[.val (.int p1), .val (.int p2), .val (.int p3), .val (.int p4), .val (.int p5), .val (.int (p1 &&& (3 : Int32))), .val (.int ca), .val (.int cb), .val (.int cc), .val (.int cd), .val (.ref b_1), .unset, .unset, .unset, .unset, .unset, .unset, .unset, .unset, .unset] [])) rfl (hb hby at_53) (by decide) (by decide)
  obtain ⟨b3, g3⟩ : ∃ z, z = T1.heap.size := ⟨_, rfl⟩
  rw [← g3] at A3 D3 st3
  have g_b3 : n0 ≤ b3 := Nat.le_trans Z2 (Nat.le_of_eq g3.symm)
  have Z4 : n0 ≤ h3.size := Nat.le_trans Z2 E3.1
  have O4 : Old Z n0 h3 := O2.ext E3
  have F_value_b3 : Fld Z h3 b3 "java/lang/String" "value" "[B" .null := D3 (Or.inr (hw _ (List.mem_of_getElem? (i := 23) rfl))) (ty := (.array .byte)) (by decide)
  have F_coder_b3 : Fld Z h3 b3 "java/lang/String" "coder" "B" (.int (0 : Int32)) := D3 (Or.inr (hw _ (List.mem_of_getElem? (i := 25) rfl))) (ty := .byte) (by decide)
  refine Go.step (T' := T3) (f' := (mkF m 56 #[.val (.int p1), .val (.int p2), .val (.int p3), .val (.int p4), .val (.int p5), .val (.int (p1 &&& (3 : Int32))), .val (.int ca), .val (.int cb), .val (.int cc), .val (.int cd), .val (.ref b_1), .unset, .unset, .unset, .unset, .unset, .unset, .unset, .unset, .unset] [(.ref b3)])) st3 ?_
  refine Go.step (T' := T3) (f' := (mkF m 57 #[.val (.int p1), .val (.int p2), .val (.int p3), .val (.int p4), .val (.int p5), .val (.int (p1 &&& (3 : Int32))), .val (.int ca), .val (.int cb), .val (.int cc), .val (.int cd), .val (.ref b_1), .unset, .unset, .unset, .unset, .unset, .unset, .unset, .unset, .unset] [(.ref b3), (.ref b3)])) (fun _ k => XS.dup X3.here hx rfl (hb hby at_56) rfl rfl k) ?_
  refine Go.step (T' := T3) (f' := (mkF m 58 #[.val (.int p1), .val (.int p2), .val (.int p3), .val (.int p4), .val (.int p5), .val (.int (p1 &&& (3 : Int32))), .val (.int ca), .val (.int cb), .val (.int cc), .val (.int cd), .val (.ref b_1), .unset, .unset, .unset, .unset, .unset, .unset, .unset, .unset, .unset] [(.int (2 : Int32)), (.ref b3), (.ref b3)])) (fun _ k => XS.iconst X3.here hx rfl (hb hby at_57) k) ?_
  obtain ⟨T5, h5, k5, X5, e5, E5, A5, st5⟩ := newP X3 hx hZ (hw _ (List.mem_of_getElem? (i := 27) rfl)) e3 (g := (mkF m 58 #[.val (.int p1), .val (.int p2), .val (.int p3), .val (.int p4), .val (.int p5), .val (.int (p1 &&& (3 : Int32))), .val (.int ca), .val (.int cb), .val (.int cc), .val (.int cd), .val (.ref b_1), .unset, .unset, .unset, .unset, .unset, .unset, .unset, .unset, .unset] [(.int (2 : Int32)), (.ref b3), (.ref b3)])) rfl (hb hby at_58) rfl (by decide) (cap := 2) (by decide) (by decide) (by decide) (by decide)
  obtain ⟨b5, g5⟩ : ∃ z, z = h3.size := ⟨_, rfl⟩
  rw [← g5] at A5 st5
  have g_b5 : n0 ≤ b5 := Nat.le_trans Z4 (Nat.le_of_eq g5.symm)
  have Z6 : n0 ≤ h5.size := Nat.le_trans Z4 E5.1
  have O6 : Old Z n0 h5 := O4.ext E5
  have V_b5 : Arv Z h5 b5 k5 .char (2 : Int32) [(.int (0 : Int32)), (.int (0 : Int32))] (.int (0 : Int32)) := (Arv.new A5 (by decide)).pad (pad_rep [] (.int (0 : Int32)) 2)
  refine Go.step (T' := T5) (f' := (mkF m 60 #[.val (.int p1), .val (.int p2), .val (.int p3), .val (.int p4), .val (.int p5), .val (.int (p1 &&& (3 : Int32))), .val (.int ca), .val (.int cb), .val (.int cc), .val (.int cd), .val (.ref b_1), .unset, .unset, .unset, .unset, .unset, .unset, .unset, .unset, .unset] [(.ref b5), (.ref b3), (.ref b3)])) st5 ?_
  refine Go.step (T' := T5) (f' := (mkF m 61 #[.val (.int p1), .val (.int p2), .val (.int p3), .val (.int p4), .val (.int p5), .val (.int (p1 &&& (3 : Int32))), .val (.int ca), .val (.int cb), .val (.int cc), .val (.int cd), .val (.ref b_1), .unset, .unset, .unset, .unset, .unset, .unset, .unset, .unset, .unset] [(.ref b5), (.ref b5), (.ref b3), (.ref b3)])) (fun _ k => XS.dup X5.here hx rfl (hb hby at_60) rfl rfl k) ?_
  refine Go.step (T' := T5) (f' := (mkF m 62 #[.val (.int p1), .val (.int p2), .val (.int p3), .val (.int p4), .val (.int p5), .val (.int (p1 &&& (3 : Int32))), .val (.int ca), .val (.int cb), .val (.int cc), .val (.int cd), .val (.ref b_1), .unset, .unset, .unset, .unset, .unset, .unset, .unset, .unset, .unset] [(.int (0 : Int32)), (.ref b5), (.ref b5), (.ref b3), (.ref b3)])) (fun _ k => XS.iconst X5.here hx rfl (hb hby at_61) k) ?_
  refine Go.step (T' := T5) (f' := (mkF m 64 #[.val (.int p1), .val (.int p2), .val (.int p3), .val (.int p4), .val (.int p5), .val (.int (p1 &&& (3 : Int32))), .val (.int ca), .val (.int cb), .val (.int cc), .val (.int cd), .val (.ref b_1), .unset, .unset, .unset, .unset, .unset, .unset, .unset, .unset, .unset] [(.int cb), (.int (0 : Int32)), (.ref b5), (.ref b5), (.ref b3), (.ref b3)])) (fun _ k => XS.iload X5.here hx rfl (hb hby at_62) rfl k) ?_
  obtain ⟨cl7, Ar7, qc7, Sz7, Nn7, Hs7, Gf7⟩ := id V_b5
  have hin8 : ¬ ((0 : Int32) < 0 ∨ cl7.slots.size ≤ ((0 : Int32)).toNatClampNeg) := (inb_of Sz7 ⟨by decide, by decide⟩)
  obtain ⟨T8, h8, X8, e8, W8, st8⟩ := stC X5 hx hZ e5 Ar7 (j := (0 : Int32)) hin8 (g := (mkF m 64 #[.val (.int p1), .val (.int p2), .val (.int p3), .val (.int p4), .val (.int p5), .val (.int (p1 &&& (3 : Int32))), .val (.int ca), .val (.int cb), .val (.int cc), .val (.int cd), .val (.ref b_1), .unset, .unset, .unset, .unset, .unset, .unset, .unset, .unset, .unset] [(.int cb), (.int (0 : Int32)), (.ref b5), (.ref b5), (.ref b3), (.ref b3)])) rfl rfl (hb hby at_64)
  have N8 := Fr.snoc X8 N1 g_b5
  have Z9 : n0 ≤ h8.size := Nat.le_trans Z6 (Keep.of_wr W8).1
  have O9 : Old Z n0 h8 := O6.wr W8 g_b5
  rw [cb_n] at W8
  have Va8 : Arv Z h8 b5 k5 .char (2 : Int32) [(.int cb), (.int (0 : Int32))] (.int (0 : Int32)) := Arv.set Ar7 qc7 Sz7 Nn7 Hs7 Gf7 cb_f W8 0 rfl (Nat.le_of_ble_eq_true rfl)
  refine Go.step (T' := T8) (f' := (mkF m 65 #[.val (.int p1), .val (.int p2), .val (.int p3), .val (.int p4), .val (.int p5), .val (.int (p1 &&& (3 : Int32))), .val (.int ca), .val (.int cb), .val (.int cc), .val (.int cd), .val (.ref b_1), .unset, .unset, .unset, .unset, .unset, .unset, .unset, .unset, .unset] [(.ref b5), (.ref b3), (.ref b3)])) st8 ?_
  refine Go.step (T' := T8) (f' := (mkF m 66 #[.val (.int p1), .val (.int p2), .val (.int p3), .val (.int p4), .val (.int p5), .val (.int (p1 &&& (3 : Int32))), .val (.int ca), .val (.int cb), .val (.int cc), .val (.int cd), .val (.ref b_1), .unset, .unset, .unset, .unset, .unset, .unset, .unset, .unset, .unset] [(.ref b5), (.ref b5), (.ref b3), (.ref b3)])) (fun _ k => XS.dup X8.here hx rfl (hb hby at_65) rfl rfl k) ?_
  refine Go.step (T' := T8) (f' := (mkF m 67 #[.val (.int p1), .val (.int p2), .val (.int p3), .val (.int p4), .val (.int p5), .val (.int (p1 &&& (3 : Int32))), .val (.int ca), .val (.int cb), .val (.int cc), .val (.int cd), .val (.ref b_1), .unset, .unset, .unset, .unset, .unset, .unset, .unset, .unset, .unset] [(.int (1 : Int32)), (.ref b5), (.ref b5), (.ref b3), (.ref b3)])) (fun _ k => XS.iconst X8.here hx rfl (hb hby at_66) k) ?_
  refine Go.step (T' := T8) (f' := (mkF m 69 #[.val (.int p1), .val (.int p2), .val (.int p3), .val (.int p4), .val (.int p5), .val (.int (p1 &&& (3 : Int32))), .val (.int ca), .val (.int cb), .val (.int cc), .val (.int cd), .val (.ref b_1), .unset, .unset, .unset, .unset, .unset, .unset, .unset, .unset, .unset] [(.int cc), (.int (1 : Int32)), (.ref b5), (.ref b5), (.ref b3), (.ref b3)])) (fun _ k => XS.iload X8.here hx rfl (hb hby at_67) rfl k) ?_
  obtain ⟨cl10, Ar10, qc10, Sz10, Nn10, Hs10, Gf10⟩ := id Va8
  have hin11 : ¬ ((1 : Int32) < 0 ∨ cl10.slots.size ≤ ((1 : Int32)).toNatClampNeg) := (inb_of Sz10 ⟨by decide, by decide⟩)
  obtain ⟨T11, h11, X11, e11, W11, st11⟩ := stC X8 hx hZ e8 Ar10 (j := (1 : Int32)) hin11 (g := (mkF m 69 #[.val (.int p1), .val (.int p2), .val (.int p3), .val (.int p4), .val (.int p5), .val (.int (p1 &&& (3 : Int32))), .val (.int ca), .val (.int cb), .val (.int cc), .val (.int cd), .val (.ref b_1), .unset, .unset, .unset, .unset, .unset, .unset, .unset, .unset, .unset] [(.int cc), (.int (1 : Int32)), (.ref b5), (.ref b5), (.ref b3), (.ref b3)])) rfl rfl (hb hby at_69)
  have N11 := Fr.snoc X11 N8 g_b5
  have Z12 : n0 ≤ h11.size := Nat.le_trans Z9 (Keep.of_wr W11).1
  have O12 : Old Z n0 h11 := O9.wr W11 g_b5
  rw [cc_n] at W11
  have Va11 : Arv Z h11 b5 k5 .char (2 : Int32) [(.int cb), (.int cc)] (.int (0 : Int32)) := Arv.set Ar10 qc10 Sz10 Nn10 Hs10 Gf10 cc_f W11 1 rfl (Nat.le_of_ble_eq_true rfl)
  refine Go.step (T' := T11) (f' := (mkF m 70 #[.val (.int p1), .val (.int p2), .val (.int p3), .val (.int p4), .val (.int p5), .val (.int (p1 &&& (3 : Int32))), .val (.int ca), .val (.int cb), .val (.int cc), .val (.int cd), .val (.ref b_1), .unset, .unset, .unset, .unset, .unset, .unset, .unset, .unset, .unset] [(.ref b5), (.ref b3), (.ref b3)])) st11 ?_
  have q14 : Exa Z h11 b3 "java/lang/String" := (((A3.ext E5).wr W8).wr W11)
  have q15 : Fld Z h11 b3 "java/lang/String" "value" "[B" .null := (((F_value_b3.ext E5).other W8 (Or.inl (Nat.ne_of_lt (Nat.lt_of_lt_of_le A3.lt (Nat.le_of_eq g5.symm))))).other W11 (Or.inl (Nat.ne_of_lt (Nat.lt_of_lt_of_le A3.lt (Nat.le_of_eq g5.symm)))))
  have q16 : Fld Z h11 b3 "java/lang/String" "coder" "B" (.int (0 : Int32)) := (((F_coder_b3.ext E5).other W8 (Or.inl (Nat.ne_of_lt (Nat.lt_of_lt_of_le A3.lt (Nat.le_of_eq g5.symm))))).other W11 (Or.inl (Nat.ne_of_lt (Nat.lt_of_lt_of_le A3.lt (Nat.le_of_eq g5.symm)))))
  obtain ⟨_, _, ⟨T13, L13, kk13, nn13⟩, -, X13, ⟨Lc13, hQ13, lq13, yq13, zq13⟩, st13⟩ := X11.specialBack hx (y := (⟨"java/lang/String", "<init>", "([C)V"⟩ : MethodName)) rfl hown (mvT hZ (hw _ (List.mem_of_getElem? (i := 28) rfl))) (mvT hZ (hw _ (List.mem_of_getElem? (i := 29) rfl))) (mvT hZ (hw _ (List.mem_of_getElem? (i := 30) rfl))) (by decide) (backOf (W := 1) (rmSi_2 l Z a0 hw [] b3 b5 cs k5 cb cc h11 n0 Z12 q14 q15 q16 Va11 O12 S_COMPACT_STRINGS hcs cb_l cc_l g_b3) hZ (hw _ (List.mem_of_getElem? (i := 30) rfl)) (hw _ (List.mem_of_getElem? (i := 2) rfl)) (by decide) (by decide)) (g := (mkF m 70 #[.val (.int p1), .val (.int p2), .val (.int p3), .val (.int p4), .val (.int p5), .val (.int (p1 &&& (3 : Int32))), .val (.int ca), .val (.int cb), .val (.int cc), .val (.int cd), .val (.ref b_1), .unset, .unset, .unset, .unset, .unset, .unset, .unset, .unset, .unset] [(.ref b5), (.ref b3), (.ref b3)])) rfl (by rw [hml]; rfl) (Steps.refl _) (a := b3) (argsL := [(.ref b5)]) (rest := [(.ref b3)]) (lenOf pd_9 rfl) rfl (by show 2 * 0 + _ ≤ _; exact Nat.le_of_eq rfl) (hb hby at_70) (fun _ _ => ⟨rfl, e11, (by decide : 4 + 1 ≤ _), (by decide : 11 + 2 ≤ _)⟩)
  dsimp only [Pt.U, Pt.locs, Pt.cells, Pt.slots] at X13 lq13 yq13 zq13 st13 hQ13
  subst yq13 zq13
  obtain ⟨b_13, kb_13, rfl, Nq13, Kq13, r13_0, r13_1, r13_2, r13_3⟩ := hQ13
  have N13 : Fr n0 L13 := by rw [lq13]; exact Fr.app N11 Nq13
  have g_b_13 : n0 ≤ b_13 := Nat.le_trans Z12 r13_0
  have Z17 : n0 ≤ T13.heap.size := Nat.le_trans Z12 Kq13.1
  have O17 : Old Z n0 T13.heap := O12.keep Kq13 (allS g_b3 all0)
  refine Go.step (T' := T13) (f' := (mkF m 73 #[.val (.int p1), .val (.int p2), .val (.int p3), .val (.int p4), .val (.int p5), .val (.int (p1 &&& (3 : Int32))), .val (.int ca), .val (.int cb), .val (.int cc), .val (.int cd), .val (.ref b_1), .unset, .unset, .unset, .unset, .unset, .unset, .unset, .unset, .unset] [(.ref b3)])) (fun _ k => st13.trans k) ?_
  refine Go.step (T' := T13) (f' := (mkF m 75 #[.val (.int p1), .val (.int p2), .val (.int p3), .val (.int p4), .val (.int p5), .val (.int (p1 &&& (3 : Int32))), .val (.int ca), .val (.int cb), .val (.int cc), .val (.int cd), .val (.ref b_1), .val (.ref b3), .unset, .unset, .unset, .unset, .unset, .unset, .unset, .unset] [])) (fun _ k => XS.astore X13.here hx rfl (hb hby at_73) rfl rfl (l' := #[.val (.int p1), .val (.int p2), .val (.int p3), .val (.int p4), .val (.int p5), .val (.int (p1 &&& (3 : Int32))), .val (.int ca), .val (.int cb), .val (.int cc), .val (.int cd), .val (.ref b_1), .val (.ref b3), .unset, .unset, .unset, .unset, .unset, .unset, .unset, .unset]) rfl k) ?_
  obtain ⟨T18, h18, X18, e18, E18, A18, D18, -, st18⟩ := newO X13 hx hZ hown (hw _ (List.mem_of_getElem? (i := 26) rfl)) (hw _ (List.mem_of_getElem? (i := 10) rfl)) (hw _ (List.mem_of_getElem? (i := 2) rfl)) rfl (g := (mkF m 75 #[.val (.int p1), .val (.int p2), .val (.int p3), .val (.int p4), .val (.int p5), .val (.int (p1 &&& (3 : Int32))), .val (.int ca), .val (.int cb), .val (.int cc), .val (.int cd), .val (.ref b_1), .val (.ref b3), .unset, .unset, .unset, .unset, .unset, .unset, .unset, .unset] [])) rfl (hb hby at_75) (by decide) (by decide)
  obtain ⟨b18, g18⟩ : ∃ z, z = T13.heap.size := ⟨_, rfl⟩
  rw [← g18] at A18 D18 st18
  have g_b18 : n0 ≤ b18 := Nat.le_trans Z17 (Nat.le_of_eq g18.symm)
  have Z19 : n0 ≤ h18.size := Nat.le_trans Z17 E18.1
  have O19 : Old Z n0 h18 := O17.ext E18
  have F_value_b18 : Fld Z h18 b18 "java/lang/String" "value" "[B" .null := D18 (Or.inr (hw _ (List.mem_of_getElem? (i := 23) rfl))) (ty := (.array .byte)) (by decide)
  have F_coder_b18 : Fld Z h18 b18 "java/lang/String" "coder" "B" (.int (0 : Int32)) := D18 (Or.inr (hw _ (List.mem_of_getElem? (i := 25) rfl))) (ty := .byte) (by decide)
  refine Go.step (T' := T18) (f' := (mkF m 78 #[.val (.int p1), .val (.int p2), .val (.int p3), .val (.int p4), .val (.int p5), .val (.int (p1 &&& (3 : Int32))), .val (.int ca), .val (.int cb), .val (.int cc), .val (.int cd), .val (.ref b_1), .val (.ref b3), .unset, .unset, .unset, .unset, .unset, .unset, .unset, .unset] [(.ref b18)])) st18 ?_
  refine Go.step (T' := T18) (f' := (mkF m 79 #[.val (.int p1), .val (.int p2), .val (.int p3), .val (.int p4), .val (.int p5), .val (.int (p1 &&& (3 : Int32))), .val (.int ca), .val (.int cb), .val (.int cc), .val (.int cd), .val (.ref b_1), .val (.ref b3), .unset, .unset, .unset, .unset, .unset, .unset, .unset, .unset] [(.ref b18), (.ref b18)])) (fun _ k => XS.dup X18.here hx rfl (hb hby at_78) rfl rfl k) ?_
  refine Go.step (T' := T18) (f' := (mkF m 80 #[.val (.int p1), .val (.int p2), .val (.int p3), .val (.int p4), .val (.int p5), .val (.int (p1 &&& (3 : Int32))), .val (.int ca), .val (.int cb), .val (.int cc), .val (.int cd), .val (.ref b_1), .val (.ref b3), .unset, .unset, .unset, .unset, .unset, .unset, .unset, .unset] [(.int (3 : Int32)), (.ref b18), (.ref b18)])) (fun _ k => XS.iconst X18.here hx rfl (hb hby at_79) k) ?_
  obtain ⟨T20, h20, k20, X20, e20, E20, A20, st20⟩ := newP X18 hx hZ (hw _ (List.mem_of_getElem? (i := 27) rfl)) e18 (g := (mkF m 80 #[.val (.int p1), .val (.int p2), .val (.int p3), .val (.int p4), .val (.int p5), .val (.int (p1 &&& (3 : Int32))), .val (.int ca), .val (.int cb), .val (.int cc), .val (.int cd), .val (.ref b_1), .val (.ref b3), .unset, .unset, .unset, .unset, .unset, .unset, .unset, .unset] [(.int (3 : Int32)), (.ref b18), (.ref b18)])) rfl (hb hby at_80) rfl (by decide) (cap := 3) (by decide) (by decide) (by decide) (by decide)
  obtain ⟨b20, g20⟩ : ∃ z, z = h18.size := ⟨_, rfl⟩
  rw [← g20] at A20 st20
  have g_b20 : n0 ≤ b20 := Nat.le_trans Z19 (Nat.le_of_eq g20.symm)
  have Z21 : n0 ≤ h20.size := Nat.le_trans Z19 E20.1
  have O21 : Old Z n0 h20 := O19.ext E20
  have V_b20 : Arv Z h20 b20 k20 .char (3 : Int32) [(.int (0 : Int32)), (.int (0 : Int32)), (.int (0 : Int32))] (.int (0 : Int32)) := (Arv.new A20 (by decide)).pad (pad_rep [] (.int (0 : Int32)) 3)
  refine Go.step (T' := T20) (f' := (mkF m 82 #[.val (.int p1), .val (.int p2), .val (.int p3), .val (.int p4), .val (.int p5), .val (.int (p1 &&& (3 : Int32))), .val (.int ca), .val (.int cb), .val (.int cc), .val (.int cd), .val (.ref b_1), .val (.ref b3), .unset, .unset, .unset, .unset, .unset, .unset, .unset, .unset] [(.ref b20), (.ref b18), (.ref b18)])) st20 ?_
  refine Go.step (T' := T20) (f' := (mkF m 83 #[.val (.int p1), .val (.int p2), .val (.int p3), .val (.int p4), .val (.int p5), .val (.int (p1 &&& (3 : Int32))), .val (.int ca), .val (.int cb), .val (.int cc), .val (.int cd), .val (.ref b_1), .val (.ref b3), .unset, .unset, .unset, .unset, .unset, .unset, .unset, .unset] [(.ref b20), (.ref b20), (.ref b18), (.ref b18)])) (fun _ k => XS.dup X20.here hx rfl (hb hby at_82) rfl rfl k) ?_
  refine Go.step (T' := T20) (f' := (mkF m 84 #[.val (.int p1), .val (.int p2), .val (.int p3), .val (.int p4), .val (.int p5), .val (.int (p1 &&& (3 : Int32))), .val (.int ca), .val (.int cb), .val (.int cc), .val (.int cd), .val (.ref b_1), .val (.ref b3), .unset, .unset, .unset, .unset, .unset, .unset, .unset, .unset] [(.int (0 : Int32)), (.ref b20), (.ref b20), (.ref b18), (.ref b18)])) (fun _ k => XS.iconst X20.here hx rfl (hb hby at_83) k) ?_
  refine Go.step (T' := T20) (f' := (mkF m 86 #[.val (.int p1), .val (.int p2), .val (.int p3), .val (.int p4), .val (.int p5), .val (.int (p1 &&& (3 : Int32))), .val (.int ca), .val (.int cb), .val (.int cc), .val (.int cd), .val (.ref b_1), .val (.ref b3), .unset, .unset, .unset, .unset, .unset, .unset, .unset, .unset] [(.int cc), (.int (0 : Int32)), (.ref b20), (.ref b20), (.ref b18), (.ref b18)])) (fun _ k => XS.iload X20.here hx rfl (hb hby at_84) rfl k) ?_
  obtain ⟨cl22, Ar22, qc22, Sz22, Nn22, Hs22, Gf22⟩ := id V_b20
  have hin23 : ¬ ((0 : Int32) < 0 ∨ cl22.slots.size ≤ ((0 : Int32)).toNatClampNeg) := (inb_of Sz22 ⟨by decide, by decide⟩)
  obtain ⟨T23, h23, X23, e23, W23, st23⟩ := stC X20 hx hZ e20 Ar22 (j := (0 : Int32)) hin23 (g := (mkF m 86 #[.val (.int p1), .val (.int p2), .val (.int p3), .val (.int p4), .val (.int p5), .val (.int (p1 &&& (3 : Int32))), .val (.int ca), .val (.int cb), .val (.int cc), .val (.int cd), .val (.ref b_1), .val (.ref b3), .unset, .unset, .unset, .unset, .unset, .unset, .unset, .unset] [(.int cc), (.int (0 : Int32)), (.ref b20), (.ref b20), (.ref b18), (.ref b18)])) rfl rfl (hb hby at_86)
  have N23 := Fr.snoc X23 N13 g_b20
  have Z24 : n0 ≤ h23.size := Nat.le_trans Z21 (Keep.of_wr W23).1
  have O24 : Old Z n0 h23 := O21.wr W23 g_b20
  rw [cc_n] at W23
  have Va23 : Arv Z h23 b20 k20 .char (3 : Int32) [(.int cc), (.int (0 : Int32)), (.int (0 : Int32))] (.int (0 : Int32)) := Arv.set Ar22 qc22 Sz22 Nn22 Hs22 Gf22 cc_f W23 0 rfl (Nat.le_of_ble_eq_true rfl)
  refine Go.step (T' := T23) (f' := (mkF m 87 #[.val (.int p1), .val (.int p2), .val (.int p3), .val (.int p4), .val (.int p5), .val (.int (p1 &&& (3 : Int32))), .val (.int ca), .val (.int cb), .val (.int cc), .val (.int cd), .val (.ref b_1), .val (.ref b3), .unset, .unset, .unset, .unset, .unset, .unset, .unset, .unset] [(.ref b20), (.ref b18), (.ref b18)])) st23 ?_
  refine Go.step (T' := T23) (f' := (mkF m 88 #[.val (.int p1), .val (.int p2), .val (.int p3), .val (.int p4), .val (.int p5), .val (.int (p1 &&& (3 : Int32))), .val (.int ca), .val (.int cb), .val (.int cc), .val (.int cd), .val (.ref b_1), .val (.ref b3), .unset, .unset, .unset, .unset, .unset, .unset, .unset, .unset] [(.ref b20), (.ref b20), (.ref b18), (.ref b18)])) (fun _ k => XS.dup X23.here hx rfl (hb hby at_87) rfl rfl k) ?_
  refine Go.step (T' := T23) (f' := (mkF m 89 #[.val (.int p1), .val (.int p2), .val (.int p3), .val (.int p4), .val (.int p5), .val (.int (p1 &&& (3 : Int32))), .val (.int ca), .val (.int cb), .val (.int cc), .val (.int cd), .val (.ref b_1), .val (.ref b3), .unset, .unset, .unset, .unset, .unset, .unset, .unset, .unset] [(.int (1 : Int32)), (.ref b20), (.ref b20), (.ref b18), (.ref b18)])) (fun _ k => XS.iconst X23.here hx rfl (hb hby at_88) k) ?_
  refine Go.step (T' := T23) (f' := (mkF m 91 #[.val (.int p1), .val (.int p2), .val (.int p3), .val (.int p4), .val (.int p5), .val (.int (p1 &&& (3 : Int32))), .val (.int ca), .val (.int cb), .val (.int cc), .val (.int cd), .val (.ref b_1), .val (.ref b3), .unset, .unset, .unset, .unset, .unset, .unset, .unset, .unset] [(.int cd), (.int (1 : Int32)), (.ref b20), (.ref b20), (.ref b18), (.ref b18)])) (fun _ k => XS.iload X23.here hx rfl (hb hby at_89) rfl k) ?_
  obtain ⟨cl25, Ar25, qc25, Sz25, Nn25, Hs25, Gf25⟩ := id Va23
  have hin26 : ¬ ((1 : Int32) < 0 ∨ cl25.slots.size ≤ ((1 : Int32)).toNatClampNeg) := (inb_of Sz25 ⟨by decide, by decide⟩)
  obtain ⟨T26, h26, X26, e26, W26, st26⟩ := stC X23 hx hZ e23 Ar25 (j := (1 : Int32)) hin26 (g := (mkF m 91 #[.val (.int p1), .val (.int p2), .val (.int p3), .val (.int p4), .val (.int p5), .val (.int (p1 &&& (3 : Int32))), .val (.int ca), .val (.int cb), .val (.int cc), .val (.int cd), .val (.ref b_1), .val (.ref b3), .unset, .unset, .unset, .unset, .unset, .unset, .unset, .unset] [(.int cd), (.int (1 : Int32)), (.ref b20), (.ref b20), (.ref b18), (.ref b18)])) rfl rfl (hb hby at_91)
  have N26 := Fr.snoc X26 N23 g_b20
  have Z27 : n0 ≤ h26.size := Nat.le_trans Z24 (Keep.of_wr W26).1
  have O27 : Old Z n0 h26 := O24.wr W26 g_b20
  rw [cd_n] at W26
  have Va26 : Arv Z h26 b20 k20 .char (3 : Int32) [(.int cc), (.int cd), (.int (0 : Int32))] (.int (0 : Int32)) := Arv.set Ar25 qc25 Sz25 Nn25 Hs25 Gf25 cd_f W26 1 rfl (Nat.le_of_ble_eq_true rfl)
  refine Go.step (T' := T26) (f' := (mkF m 92 #[.val (.int p1), .val (.int p2), .val (.int p3), .val (.int p4), .val (.int p5), .val (.int (p1 &&& (3 : Int32))), .val (.int ca), .val (.int cb), .val (.int cc), .val (.int cd), .val (.ref b_1), .val (.ref b3), .unset, .unset, .unset, .unset, .unset, .unset, .unset, .unset] [(.ref b20), (.ref b18), (.ref b18)])) st26 ?_
  refine Go.step (T' := T26) (f' := (mkF m 93 #[.val (.int p1), .val (.int p2), .val (.int p3), .val (.int p4), .val (.int p5), .val (.int (p1 &&& (3 : Int32))), .val (.int ca), .val (.int cb), .val (.int cc), .val (.int cd), .val (.ref b_1), .val (.ref b3), .unset, .unset, .unset, .unset, .unset, .unset, .unset, .unset] [(.ref b20), (.ref b20), (.ref b18), (.ref b18)])) (fun _ k => XS.dup X26.here hx rfl (hb hby at_92) rfl rfl k) ?_
  refine Go.step (T' := T26) (f' := (mkF m 94 #[.val (.int p1), .val (.int p2), .val (.int p3), .val (.int p4), .val (.int p5), .val (.int (p1 &&& (3 : Int32))), .val (.int ca), .val (.int cb), .val (.int cc), .val (.int cd), .val (.ref b_1), .val (.ref b3), .unset, .unset, .unset, .unset, .unset, .unset, .unset, .unset] [(.int (2 : Int32)), (.ref b20), (.ref b20), (.ref b18), (.ref b18)])) (fun _ k => XS.iconst X26.here hx rfl (hb hby at_93) k) ?_
  refine Go.step (T' := T26) (f' := (mkF m 96 #[.val (.int p1), .val (.int p2), .val (.int p3), .val (.int p4), .val (.int p5), .val (.int (p1 &&& (3 : Int32))), .val (.int ca), .val (.int cb), .val (.int cc), .val (.int cd), .val (.ref b_1), .val (.ref b3), .unset, .unset, .unset, .unset, .unset, .unset, .unset, .unset] [(.int ca), (.int (2 : Int32)), (.ref b20), (.ref b20), (.ref b18), (.ref b18)])) (fun _ k => XS.iload X26.here hx rfl (hb hby at_94) rfl k) ?_
  obtain ⟨cl28, Ar28, qc28, Sz28, Nn28, Hs28, Gf28⟩ := id Va26
  have hin29 : ¬ ((2 : Int32) < 0 ∨ cl28.slots.size ≤ ((2 : Int32)).toNatClampNeg) := (inb_of Sz28 ⟨by decide, by decide⟩)
  obtain ⟨T29, h29, X29, e29, W29, st29⟩ := stC X26 hx hZ e26 Ar28 (j := (2 : Int32)) hin29 (g := (mkF m 96 #[.val (.int p1), .val (.int p2), .val (.int p3), .val (.int p4), .val (.int p5), .val (.int (p1 &&& (3 : Int32))), .val (.int ca), .val (.int cb), .val (.int cc), .val (.int cd), .val (.ref b_1), .val (.ref b3), .unset, .unset, .unset, .unset, .unset, .unset, .unset, .unset] [(.int ca), (.int (2 : Int32)), (.ref b20), (.ref b20), (.ref b18), (.ref b18)])) rfl rfl (hb hby at_96)
  have N29 := Fr.snoc X29 N26 g_b20
  have Z30 : n0 ≤ h29.size := Nat.le_trans Z27 (Keep.of_wr W29).1
  have O30 : Old Z n0 h29 := O27.wr W29 g_b20
  rw [ca_n] at W29
  have Va29 : Arv Z h29 b20 k20 .char (3 : Int32) [(.int cc), (.int cd), (.int ca)] (.int (0 : Int32)) := Arv.set Ar28 qc28 Sz28 Nn28 Hs28 Gf28 ca_f W29 2 rfl (Nat.le_of_ble_eq_true rfl)
  refine Go.step (T' := T29) (f' := (mkF m 97 #[.val (.int p1), .val (.int p2), .val (.int p3), .val (.int p4), .val (.int p5), .val (.int (p1 &&& (3 : Int32))), .val (.int ca), .val (.int cb), .val (.int cc), .val (.int cd), .val (.ref b_1), .val (.ref b3), .unset, .unset, .unset, .unset, .unset, .unset, .unset, .unset] [(.ref b20), (.ref b18), (.ref b18)])) st29 ?_
  have q32 : Exa Z h29 b18 "java/lang/String" := ((((A18.ext E20).wr W23).wr W26).wr W29)
  have q33 : Fld Z h29 b18 "java/lang/String" "value" "[B" .null := ((((F_value_b18.ext E20).other W23 (Or.inl (Nat.ne_of_lt (Nat.lt_of_lt_of_le A18.lt (Nat.le_of_eq g20.symm))))).other W26 (Or.inl (Nat.ne_of_lt (Nat.lt_of_lt_of_le A18.lt (Nat.le_of_eq g20.symm))))).other W29 (Or.inl (Nat.ne_of_lt (Nat.lt_of_lt_of_le A18.lt (Nat.le_of_eq g20.symm)))))
  have q34 : Fld Z h29 b18 "java/lang/String" "coder" "B" (.int (0 : Int32)) := ((((F_coder_b18.ext E20).other W23 (Or.inl (Nat.ne_of_lt (Nat.lt_of_lt_of_le A18.lt (Nat.le_of_eq g20.symm))))).other W26 (Or.inl (Nat.ne_of_lt (Nat.lt_of_lt_of_le A18.lt (Nat.le_of_eq g20.symm))))).other W29 (Or.inl (Nat.ne_of_lt (Nat.lt_of_lt_of_le A18.lt (Nat.le_of_eq g20.symm)))))
  obtain ⟨_, _, ⟨T31, L31, kk31, nn31⟩, -, X31, ⟨Lc31, hQ31, lq31, yq31, zq31⟩, st31⟩ := X29.specialBack hx (y := (⟨"java/lang/String", "<init>", "([C)V"⟩ : MethodName)) rfl hown (mvT hZ (hw _ (List.mem_of_getElem? (i := 28) rfl))) (mvT hZ (hw _ (List.mem_of_getElem? (i := 29) rfl))) (mvT hZ (hw _ (List.mem_of_getElem? (i := 30) rfl))) (by decide) (backOf (W := 1) (rmSi_3 l Z a0 hw [] b18 b20 cs k20 cc cd ca h29 n0 Z30 q32 q33 q34 Va29 O30 S_COMPACT_STRINGS hcs cc_l cd_l ca_l g_b18) hZ (hw _ (List.mem_of_getElem? (i := 30) rfl)) (hw _ (List.mem_of_getElem? (i := 2) rfl)) (by decide) (by decide)) (g := (mkF m 97 #[.val (.int p1), .val (.int p2), .val (.int p3), .val (.int p4), .val (.int p5), .val (.int (p1 &&& (3 : Int32))), .val (.int ca), .val (.int cb), .val (.int cc), .val (.int cd), .val (.ref b_1), .val (.ref b3), .unset, .unset, .unset, .unset, .unset, .unset, .unset, .unset] [(.ref b20), (.ref b18), (.ref b18)])) rfl (by rw [hml]; rfl) (Steps.refl _) (a := b18) (argsL := [(.ref b20)]) (rest := [(.ref b18)]) (lenOf pd_9 rfl) rfl (by show 2 * 0 + _ ≤ _; exact Nat.le_of_eq rfl) (hb hby at_97) (fun _ _ => ⟨rfl, e29, (by decide : 7 + 1 ≤ _), (by decide : 20 + 3 ≤ _)⟩)
  dsimp only [Pt.U, Pt.locs, Pt.cells, Pt.slots] at X31 lq31 yq31 zq31 st31 hQ31
  subst yq31 zq31
  obtain ⟨b_31, kb_31, rfl, Nq31, Kq31, r31_0, r31_1, r31_2, r31_3⟩ := hQ31
  have N31 : Fr n0 L31 := by rw [lq31]; exact Fr.app N29 Nq31
  have g_b_31 : n0 ≤ b_31 := Nat.le_trans Z30 r31_0
  have Z35 : n0 ≤ T31.heap.size := Nat.le_trans Z30 Kq31.1
  have O35 : Old Z n0 T31.heap := O30.keep Kq31 (allS g_b18 all0)
  refine Go.step (T' := T31) (f' := (mkF m 100 #[.val (.int p1), .val (.int p2), .val (.int p3), .val (.int p4), .val (.int p5), .val (.int (p1 &&& (3 : Int32))), .val (.int ca), .val (.int cb), .val (.int cc), .val (.int cd), .val (.ref b_1), .val (.ref b3), .unset, .unset, .unset, .unset, .unset, .unset, .unset, .unset] [(.ref b18)])) (fun _ k => st31.trans k) ?_
  refine Go.step (T' := T31) (f' := (mkF m 102 #[.val (.int p1), .val (.int p2), .val (.int p3), .val (.int p4), .val (.int p5), .val (.int (p1 &&& (3 : Int32))), .val (.int ca), .val (.int cb), .val (.int cc), .val (.int cd), .val (.ref b_1), .val (.ref b3), .val (.ref b18), .unset, .unset, .unset, .unset, .unset, .unset, .unset] [])) (fun _ k => XS.astore X31.here hx rfl (hb hby at_100) rfl rfl (l' := #[.val (.int p1), .val (.int p2), .val (.int p3), .val (.int p4), .val (.int p5), .val (.int (p1 &&& (3 : Int32))), .val (.int ca), .val (.int cb), .val (.int cc), .val (.int cd), .val (.ref b_1), .val (.ref b3), .val (.ref b18), .unset, .unset, .unset, .unset, .unset, .unset, .unset]) rfl k) ?_
  obtain ⟨T36, h36, X36, e36, E36, A36, D36, -, st36⟩ := newO X31 hx hZ hown (hw _ (List.mem_of_getElem? (i := 26) rfl)) (hw _ (List.mem_of_getElem? (i := 10) rfl)) (hw _ (List.mem_of_getElem? (i := 2) rfl)) rfl (g := (mkF m 102 #[.val (.int p1), .val (.int p2), .val (.int p3), .val (.int p4), .val (.int p5), .val (.int (p1 &&& (3 : Int32))), .val (.int ca), .val (.int cb), .val (.int cc), .val (.int cd), .val (.ref b_1), .val (.ref b3), .val (.ref b18), .unset, .unset, .unset, .unset, .unset, .unset, .unset] [])) rfl (hb hby at_102) (by decide) (by decide)
  obtain ⟨b36, g36⟩ : ∃ z, z = T31.heap.size := ⟨_, rfl⟩
  rw [← g36] at A36 D36 st36
  have g_b36 : n0 ≤ b36 := Nat.le_trans Z35 (Nat.le_of_eq g36.symm)
  have Z37 : n0 ≤ h36.size := Nat.le_trans Z35 E36.1
  have O37 : Old Z n0 h36 := O35.ext E36
  have F_value_b36 : Fld Z h36 b36 "java/lang/String" "value" "[B" .null := D36 (Or.inr (hw _ (List.mem_of_getElem? (i := 23) rfl))) (ty := (.array .byte)) (by decide)
  have F_coder_b36 : Fld Z h36 b36 "java/lang/String" "coder" "B" (.int (0 : Int32)) := D36 (Or.inr (hw _ (List.mem_of_getElem? (i := 25) rfl))) (ty := .byte) (by decide)
  refine Go.step (T' := T36) (f' := (mkF m 105 #[.val (.int p1), .val (.int p2), .val (.int p3), .val (.int p4), .val (.int p5), .val (.int (p1 &&& (3 : Int32))), .val (.int ca), .val (.int cb), .val (.int cc), .val (.int cd), .val (.ref b_1), .val (.ref b3), .val (.ref b18), .unset, .unset, .unset, .unset, .unset, .unset, .unset] [(.ref b36)])) st36 ?_
  refine Go.step (T' := T36) (f' := (mkF m 106 #[.val (.int p1), .val (.int p2), .val (.int p3), .val (.int p4), .val (.int p5), .val (.int (p1 &&& (3 : Int32))), .val (.int ca), .val (.int cb), .val (.int cc), .val (.int cd), .val (.ref b_1), .val (.ref b3), .val (.ref b18), .unset, .unset, .unset, .unset, .unset, .unset, .unset] [(.ref b36), (.ref b36)])) (fun _ k => XS.dup X36.here hx rfl (hb hby at_105) rfl rfl k) ?_
  refine Go.step (T' := T36) (f' := (mkF m 107 #[.val (.int p1), .val (.int p2), .val (.int p3), .val (.int p4), .val (.int p5), .val (.int (p1 &&& (3 : Int32))), .val (.int ca), .val (.int cb), .val (.int cc), .val (.int cd), .val (.ref b_1), .val (.ref b3), .val (.ref b18), .unset, .unset, .unset, .unset, .unset, .unset, .unset] [(.int (2 : Int32)), (.ref b36), (.ref b36)])) (fun _ k => XS.iconst X36.here hx rfl (hb hby at_106) k) ?_
  obtain ⟨T38, h38, k38, X38, e38, E38, A38, st38⟩ := newP X36 hx hZ (hw _ (List.mem_of_getElem? (i := 27) rfl)) e36 (g := (mkF m 107 #[.val (.int p1), .val (.int p2), .val (.int p3), .val (.int p4), .val (.int p5), .val (.int (p1 &&& (3 : Int32))), .val (.int ca), .val (.int cb), .val (.int cc), .val (.int cd), .val (.ref b_1), .val (.ref b3), .val (.ref b18), .unset, .unset, .unset, .unset, .unset, .unset, .unset] [(.int (2 : Int32)), (.ref b36), (.ref b36)])) rfl (hb hby at_107) rfl (by decide) (cap := 2) (by decide) (by decide) (by decide) (by decide)
  obtain ⟨b38, g38⟩ : ∃ z, z = h36.size := ⟨_, rfl⟩
  rw [← g38] at A38 st38
  have g_b38 : n0 ≤ b38 := Nat.le_trans Z37 (Nat.le_of_eq g38.symm)
  have Z39 : n0 ≤ h38.size := Nat.le_trans Z37 E38.1
  have O39 : Old Z n0 h38 := O37.ext E38
  have V_b38 : Arv Z h38 b38 k38 .char (2 : Int32) [(.int (0 : Int32)), (.int (0 : Int32))] (.int (0 : Int32)) := (Arv.new A38 (by decide)).pad (pad_rep [] (.int (0 : Int32)) 2)
  refine Go.step (T' := T38) (f' := (mkF m 109 #[.val (.int p1), .val (.int p2), .val (.int p3), .val (.int p4), .val (.int p5), .val (.int (p1 &&& (3 : Int32))), .val (.int ca), .val (.int cb), .val (.int cc), .val (.int cd), .val (.ref b_1), .val (.ref b3), .val (.ref b18), .unset, .unset, .unset, .unset, .unset, .unset, .unset] [(.ref b38), (.ref b36), (.ref b36)])) st38 ?_
  refine Go.step (T' := T38) (f' := (mkF m 110 #[.val (.int p1), .val (.int p2), .val (.int p3), .val (.int p4), .val (.int p5), .val (.int (p1 &&& (3 : Int32))), .val (.int ca), .val (.int cb), .val (.int cc), .val (.int cd), .val (.ref b_1), .val (.ref b3), .val (.ref b18), .unset, .unset, .unset, .unset, .unset, .unset, .unset] [(.ref b38), (.ref b38), (.ref b36), (.ref b36)])) (fun _ k => XS.dup X38.here hx rfl (hb hby at_109) rfl rfl k) ?_
  refine Go.step (T' := T38) (f' := (mkF m 111 #[.val (.int p1), .val (.int p2), .val (.int p3), .val (.int p4), .val (.int p5), .val (.int (p1 &&& (3 : Int32))), .val (.int ca), .val (.int cb), .val (.int cc), .val (.int cd), .val (.ref b_1), .val (.ref b3), .val (.ref b18), .unset, .unset, .unset, .unset, .unset, .unset, .unset] [(.int (0 : Int32)), (.ref b38), (.ref b38), (.ref b36), (.ref b36)])) (fun _ k => XS.iconst X38.here hx rfl (hb hby at_110) k) ?_
  refine Go.step (T' := T38) (f' := (mkF m 113 #[.val (.int p1), .val (.int p2), .val (.int p3), .val (.int p4), .val (.int p5), .val (.int (p1 &&& (3 : Int32))), .val (.int ca), .val (.int cb), .val (.int cc), .val (.int cd), .val (.ref b_1), .val (.ref b3), .val (.ref b18), .unset, .unset, .unset, .unset, .unset, .unset, .unset] [(.int ca), (.int (0 : Int32)), (.ref b38), (.ref b38), (.ref b36), (.ref b36)])) (fun _ k => XS.iload X38.here hx rfl (hb hby at_111) rfl k) ?_
  obtain ⟨cl40, Ar40, qc40, Sz40, Nn40, Hs40, Gf40⟩ := id V_b38
  have hin41 : ¬ ((0 : Int32) < 0 ∨ cl40.slots.size ≤ ((0 : Int32)).toNatClampNeg) := (inb_of Sz40 ⟨by decide, by decide⟩)
  obtain ⟨T41, h41, X41, e41, W41, st41⟩ := stC X38 hx hZ e38 Ar40 (j := (0 : Int32)) hin41 (g := (mkF m 113 #[.val (.int p1), .val (.int p2), .val (.int p3), .val (.int p4), .val (.int p5), .val (.int (p1 &&& (3 : Int32))), .val (.int ca), .val (.int cb), .val (.int cc), .val (.int cd), .val (.ref b_1), .val (.ref b3), .val (.ref b18), .unset, .unset, .unset, .unset, .unset, .unset, .unset] [(.int ca), (.int (0 : Int32)), (.ref b38), (.ref b38), (.ref b36), (.ref b36)])) rfl rfl (hb hby at_113)
  have N41 := Fr.snoc X41 N31 g_b38
  have Z42 : n0 ≤ h41.size := Nat.le_trans Z39 (Keep.of_wr W41).1
  have O42 : Old Z n0 h41 := O39.wr W41 g_b38
  rw [ca_n] at W41
  have Va41 : Arv Z h41 b38 k38 .char (2 : Int32) [(.int ca), (.int (0 : Int32))] (.int (0 : Int32)) := Arv.set Ar40 qc40 Sz40 Nn40 Hs40 Gf40 ca_f W41 0 rfl (Nat.le_of_ble_eq_true rfl)
  refine Go.step (T' := T41) (f' := (mkF m 114 #[.val (.int p1), .val (.int p2), .val (.int p3), .val (.int p4), .val (.int p5), .val (.int (p1 &&& (3 : Int32))), .val (.int ca), .val (.int cb), .val (.int cc), .val (.int cd), .val (.ref b_1), .val (.ref b3), .val (.ref b18), .unset, .unset, .unset, .unset, .unset, .unset, .unset] [(.ref b38), (.ref b36), (.ref b36)])) st41 ?_
  refine Go.step (T' := T41) (f' := (mkF m 115 #[.val (.int p1), .val (.int p2), .val (.int p3), .val (.int p4), .val (.int p5), .val (.int (p1 &&& (3 : Int32))), .val (.int ca), .val (.int cb), .val (.int cc), .val (.int cd), .val (.ref b_1), .val (.ref b3), .val (.ref b18), .unset, .unset, .unset, .unset, .unset, .unset, .unset] [(.ref b38), (.ref b38), (.ref b36), (.ref b36)])) (fun _ k => XS.dup X41.here hx rfl (hb hby at_114) rfl rfl k) ?_
  refine Go.step (T' := T41) (f' := (mkF m 116 #[.val (.int p1), .val (.int p2), .val (.int p3), .val (.int p4), .val (.int p5), .val (.int (p1 &&& (3 : Int32))), .val (.int ca), .val (.int cb), .val (.int cc), .val (.int cd), .val (.ref b_1), .val (.ref b3), .val (.ref b18), .unset, .unset, .unset, .unset, .unset, .unset, .unset] [(.int (1 : Int32)), (.ref b38), (.ref b38), (.ref b36), (.ref b36)])) (fun _ k => XS.iconst X41.here hx rfl (hb hby at_115) k) ?_
  refine Go.step (T' := T41) (f' := (mkF m 118 #[.val (.int p1), .val (.int p2), .val (.int p3), .val (.int p4), .val (.int p5), .val (.int (p1 &&& (3 : Int32))), .val (.int ca), .val (.int cb), .val (.int cc), .val (.int cd), .val (.ref b_1), .val (.ref b3), .val (.ref b18), .unset, .unset, .unset, .unset, .unset, .unset, .unset] [(.int cb), (.int (1 : Int32)), (.ref b38), (.ref b38), (.ref b36), (.ref b36)])) (fun _ k => XS.iload X41.here hx rfl (hb hby at_116) rfl k) ?_
  obtain ⟨cl43, Ar43, qc43, Sz43, Nn43, Hs43, Gf43⟩ := id Va41
  have hin44 : ¬ ((1 : Int32) < 0 ∨ cl43.slots.size ≤ ((1 : Int32)).toNatClampNeg) := (inb_of Sz43 ⟨by decide, by decide⟩)
  obtain ⟨T44, h44, X44, e44, W44, st44⟩ := stC X41 hx hZ e41 Ar43 (j := (1 : Int32)) hin44 (g := (mkF m 118 #[.val (.int p1), .val (.int p2), .val (.int p3), .val (.int p4), .val (.int p5), .val (.int (p1 &&& (3 : Int32))), .val (.int ca), .val (.int cb), .val (.int cc), .val (.int cd), .val (.ref b_1), .val (.ref b3), .val (.ref b18), .unset, .unset, .unset, .unset, .unset, .unset, .unset] [(.int cb), (.int (1 : Int32)), (.ref b38), (.ref b38), (.ref b36), (.ref b36)])) rfl rfl (hb hby at_118)
  have N44 := Fr.snoc X44 N41 g_b38
  have Z45 : n0 ≤ h44.size := Nat.le_trans Z42 (Keep.of_wr W44).1
  have O45 : Old Z n0 h44 := O42.wr W44 g_b38
  rw [cb_n] at W44
  have Va44 : Arv Z h44 b38 k38 .char (2 : Int32) [(.int ca), (.int cb)] (.int (0 : Int32)) := Arv.set Ar43 qc43 Sz43 Nn43 Hs43 Gf43 cb_f W44 1 rfl (Nat.le_of_ble_eq_true rfl)
  refine Go.step (T' := T44) (f' := (mkF m 119 #[.val (.int p1), .val (.int p2), .val (.int p3), .val (.int p4), .val (.int p5), .val (.int (p1 &&& (3 : Int32))), .val (.int ca), .val (.int cb), .val (.int cc), .val (.int cd), .val (.ref b_1), .val (.ref b3), .val (.ref b18), .unset, .unset, .unset, .unset, .unset, .unset, .unset] [(.ref b38), (.ref b36), (.ref b36)])) st44 ?_
  have q47 : Exa Z h44 b36 "java/lang/String" := (((A36.ext E38).wr W41).wr W44)
  have q48 : Fld Z h44 b36 "java/lang/String" "value" "[B" .null := (((F_value_b36.ext E38).other W41 (Or.inl (Nat.ne_of_lt (Nat.lt_of_lt_of_le A36.lt (Nat.le_of_eq g38.symm))))).other W44 (Or.inl (Nat.ne_of_lt (Nat.lt_of_lt_of_le A36.lt (Nat.le_of_eq g38.symm)))))
  have q49 : Fld Z h44 b36 "java/lang/String" "coder" "B" (.int (0 : Int32)) := (((F_coder_b36.ext E38).other W41 (Or.inl (Nat.ne_of_lt (Nat.lt_of_lt_of_le A36.lt (Nat.le_of_eq g38.symm))))).other W44 (Or.inl (Nat.ne_of_lt (Nat.lt_of_lt_of_le A36.lt (Nat.le_of_eq g38.symm)))))
  obtain ⟨_, _, ⟨T46, L46, kk46, nn46⟩, -, X46, ⟨Lc46, hQ46, lq46, yq46, zq46⟩, st46⟩ := X44.specialBack hx (y := (⟨"java/lang/String", "<init>", "([C)V"⟩ : MethodName)) rfl hown (mvT hZ (hw _ (List.mem_of_getElem? (i := 28) rfl))) (mvT hZ (hw _ (List.mem_of_getElem? (i := 29) rfl))) (mvT hZ (hw _ (List.mem_of_getElem? (i := 30) rfl))) (by decide) (backOf (W := 1) (rmSi_2 l Z a0 hw [] b36 b38 cs k38 ca cb h44 n0 Z45 q47 q48 q49 Va44 O45 S_COMPACT_STRINGS hcs ca_l cb_l g_b36) hZ (hw _ (List.mem_of_getElem? (i := 30) rfl)) (hw _ (List.mem_of_getElem? (i := 2) rfl)) (by decide) (by decide)) (g := (mkF m 119 #[.val (.int p1), .val (.int p2), .val (.int p3), .val (.int p4), .val (.int p5), .val (.int (p1 &&& (3 : Int32))), .val (.int ca), .val (.int cb), .val (.int cc), .val (.int cd), .val (.ref b_1), .val (.ref b3), .val (.ref b18), .unset, .unset, .unset, .unset, .unset, .unset, .unset] [(.ref b38), (.ref b36), (.ref b36)])) rfl (by rw [hml]; rfl) (Steps.refl _) (a := b36) (argsL := [(.ref b38)]) (rest := [(.ref b36)]) (lenOf pd_9 rfl) rfl (by show 2 * 0 + _ ≤ _; exact Nat.le_of_eq rfl) (hb hby at_119) (fun _ _ => ⟨rfl, e44, (by decide : 10 + 1 ≤ _), (by decide : 29 + 2 ≤ _)⟩)
  dsimp only [Pt.U, Pt.locs, Pt.cells, Pt.slots] at X46 lq46 yq46 zq46 st46 hQ46
  subst yq46 zq46
  obtain ⟨b_46, kb_46, rfl, Nq46, Kq46, r46_0, r46_1, r46_2, r46_3⟩ := hQ46
  have N46 : Fr n0 L46 := by rw [lq46]; exact Fr.app N44 Nq46
  have g_b_46 : n0 ≤ b_46 := Nat.le_trans Z45 r46_0
  have Z50 : n0 ≤ T46.heap.size := Nat.le_trans Z45 Kq46.1
  have O50 : Old Z n0 T46.heap := O45.keep Kq46 (allS g_b36 all0)
  refine Go.step (T' := T46) (f' := (mkF m 122 #[.val (.int p1), .val (.int p2), .val (.int p3), .val (.int p4), .val (.int p5), .val (.int (p1 &&& (3 : Int32))), .val (.int ca), .val (.int cb), .val (.int cc), .val (.int cd), .val (.ref b_1), .val (.ref b3), .val (.ref b18), .unset, .unset, .unset, .unset, .unset, .unset, .unset] [(.ref b36)])) (fun _ k => st46.trans k) ?_
  refine Go.step (T' := T46) (f' := (mkF m 124 #[.val (.int p1), .val (.int p2), .val (.int p3), .val (.int p4), .val (.int p5), .val (.int (p1 &&& (3 : Int32))), .val (.int ca), .val (.int cb), .val (.int cc), .val (.int cd), .val (.ref b_1), .val (.ref b3), .val (.ref b18), .val (.ref b36), .unset, .unset, .unset, .unset, .unset, .unset] [])) (fun _ k => XS.astore X46.here hx rfl (hb hby at_122) rfl rfl (l' := #[.val (.int p1), .val (.int p2), .val (.int p3), .val (.int p4), .val (.int p5), .val (.int (p1 &&& (3 : Int32))), .val (.int ca), .val (.int cb), .val (.int cc), .val (.int cd), .val (.ref b_1), .val (.ref b3), .val (.ref b18), .val (.ref b36), .unset, .unset, .unset, .unset, .unset, .unset]) rfl k) ?_
  obtain ⟨T51, h51, X51, e51, E51, A51, D51, -, st51⟩ := newO X46 hx hZ hown (hw _ (List.mem_of_getElem? (i := 26) rfl)) (hw _ (List.mem_of_getElem? (i := 10) rfl)) (hw _ (List.mem_of_getElem? (i := 2) rfl)) rfl (g := (mkF m 124 #[.val (.int p1), .val (.int p2), .val (.int p3), .val (.int p4), .val (.int p5), .val (.int (p1 &&& (3 : Int32))), .val (.int ca), .val (.int cb), .val (.int cc), .val (.int cd), .val (.ref b_1), .val (.ref b3), .val (.ref b18), .val (.ref b36), .unset, .unset, .unset, .unset, .unset, .unset] [])) rfl (hb hby at_124) (by decide) (by decide)
  obtain ⟨b51, g51⟩ : ∃ z, z = T46.heap.size := ⟨_, rfl⟩
  rw [← g51] at A51 D51 st51
  have g_b51 : n0 ≤ b51 := Nat.le_trans Z50 (Nat.le_of_eq g51.symm)
  have Z52 : n0 ≤ h51.size := Nat.le_trans Z50 E51.1
  have O52 : Old Z n0 h51 := O50.ext E51
  have F_value_b51 : Fld Z h51 b51 "java/lang/String" "value" "[B" .null := D51 (Or.inr (hw _ (List.mem_of_getElem? (i := 23) rfl))) (ty := (.array .byte)) (by decide)
  have F_coder_b51 : Fld Z h51 b51 "java/lang/String" "coder" "B" (.int (0 : Int32)) := D51 (Or.inr (hw _ (List.mem_of_getElem? (i := 25) rfl))) (ty := .byte) (by decide)
  refine Go.step (T' := T51) (f' := (mkF m 127 #[.val (.int p1), .val (.int p2), .val (.int p3), .val (.int p4), .val (.int p5), .val (.int (p1 &&& (3 : Int32))), .val (.int ca), .val (.int cb), .val (.int cc), .val (.int cd), .val (.ref b_1), .val (.ref b3), .val (.ref b18), .val (.ref b36), .unset, .unset, .unset, .unset, .unset, .unset] [(.ref b51)])) st51 ?_
  refine Go.step (T' := T51) (f' := (mkF m 128 #[.val (.int p1), .val (.int p2), .val (.int p3), .val (.int p4), .val (.int p5), .val (.int (p1 &&& (3 : Int32))), .val (.int ca), .val (.int cb), .val (.int cc), .val (.int cd), .val (.ref b_1), .val (.ref b3), .val (.ref b18), .val (.ref b36), .unset, .unset, .unset, .unset, .unset, .unset] [(.ref b51), (.ref b51)])) (fun _ k => XS.dup X51.here hx rfl (hb hby at_127) rfl rfl k) ?_
  refine Go.step (T' := T51) (f' := (mkF m 129 #[.val (.int p1), .val (.int p2), .val (.int p3), .val (.int p4), .val (.int p5), .val (.int (p1 &&& (3 : Int32))), .val (.int ca), .val (.int cb), .val (.int cc), .val (.int cd), .val (.ref b_1), .val (.ref b3), .val (.ref b18), .val (.ref b36), .unset, .unset, .unset, .unset, .unset, .unset] [(.int (1 : Int32)), (.ref b51), (.ref b51)])) (fun _ k => XS.iconst X51.here hx rfl (hb hby at_128) k) ?_
  obtain ⟨T53, h53, k53, X53, e53, E53, A53, st53⟩ := newP X51 hx hZ (hw _ (List.mem_of_getElem? (i := 27) rfl)) e51 (g := (mkF m 129 #[.val (.int p1), .val (.int p2), .val (.int p3), .val (.int p4), .val (.int p5), .val (.int (p1 &&& (3 : Int32))), .val (.int ca), .val (.int cb), .val (.int cc), .val (.int cd), .val (.ref b_1), .val (.ref b3), .val (.ref b18), .val (.ref b36), .unset, .unset, .unset, .unset, .unset, .unset] [(.int (1 : Int32)), (.ref b51), (.ref b51)])) rfl (hb hby at_129) rfl (by decide) (cap := 1) (by decide) (by decide) (by decide) (by decide)
  obtain ⟨b53, g53⟩ : ∃ z, z = h51.size := ⟨_, rfl⟩
  rw [← g53] at A53 st53
  have g_b53 : n0 ≤ b53 := Nat.le_trans Z52 (Nat.le_of_eq g53.symm)
  have Z54 : n0 ≤ h53.size := Nat.le_trans Z52 E53.1
  have O54 : Old Z n0 h53 := O52.ext E53
  have V_b53 : Arv Z h53 b53 k53 .char (1 : Int32) [(.int (0 : Int32))] (.int (0 : Int32)) := (Arv.new A53 (by decide)).pad (pad_rep [] (.int (0 : Int32)) 1)
  refine Go.step (T' := T53) (f' := (mkF m 131 #[.val (.int p1), .val (.int p2), .val (.int p3), .val (.int p4), .val (.int p5), .val (.int (p1 &&& (3 : Int32))), .val (.int ca), .val (.int cb), .val (.int cc), .val (.int cd), .val (.ref b_1), .val (.ref b3), .val (.ref b18), .val (.ref b36), .unset, .unset, .unset, .unset, .unset, .unset] [(.ref b53), (.ref b51), (.ref b51)])) st53 ?_
  refine Go.step (T' := T53) (f' := (mkF m 132 #[.val (.int p1), .val (.int p2), .val (.int p3), .val (.int p4), .val (.int p5), .val (.int (p1 &&& (3 : Int32))), .val (.int ca), .val (.int cb), .val (.int cc), .val (.int cd), .val (.ref b_1), .val (.ref b3), .val (.ref b18), .val (.ref b36), .unset, .unset, .unset, .unset, .unset, .unset] [(.ref b53), (.ref b53), (.ref b51), (.ref b51)])) (fun _ k => XS.dup X53.here hx rfl (hb hby at_131) rfl rfl k) ?_
  refine Go.step (T' := T53) (f' := (mkF m 133 #[.val (.int p1), .val (.int p2), .val (.int p3), .val (.int p4), .val (.int p5), .val (.int (p1 &&& (3 : Int32))), .val (.int ca), .val (.int cb), .val (.int cc), .val (.int cd), .val (.ref b_1), .val (.ref b3), .val (.ref b18), .val (.ref b36), .unset, .unset, .unset, .unset, .unset, .unset] [(.int (0 : Int32)), (.ref b53), (.ref b53), (.ref b51), (.ref b51)])) (fun _ k => XS.iconst X53.here hx rfl (hb hby at_132) k) ?_
  refine Go.step (T' := T53) (f' := (mkF m 135 #[.val (.int p1), .val (.int p2), .val (.int p3), .val (.int p4), .val (.int p5), .val (.int (p1 &&& (3 : Int32))), .val (.int ca), .val (.int cb), .val (.int cc), .val (.int cd), .val (.ref b_1), .val (.ref b3), .val (.ref b18), .val (.ref b36), .unset, .unset, .unset, .unset, .unset, .unset] [(.int cd), (.int (0 : Int32)), (.ref b53), (.ref b53), (.ref b51), (.ref b51)])) (fun _ k => XS.iload X53.here hx rfl (hb hby at_133) rfl k) ?_
  obtain ⟨cl55, Ar55, qc55, Sz55, Nn55, Hs55, Gf55⟩ := id V_b53
  have hin56 : ¬ ((0 : Int32) < 0 ∨ cl55.slots.size ≤ ((0 : Int32)).toNatClampNeg) := (inb_of Sz55 ⟨by decide, by decide⟩)
  obtain ⟨T56, h56, X56, e56, W56, st56⟩ := stC X53 hx hZ e53 Ar55 (j := (0 : Int32)) hin56 (g := (mkF m 135 #[.val (.int p1), .val (.int p2), .val (.int p3), .val (.int p4), .val (.int p5), .val (.int (p1 &&& (3 : Int32))), .val (.int ca), .val (.int cb), .val (.int cc), .val (.int cd), .val (.ref b_1), .val (.ref b3), .val (.ref b18), .val (.ref b36), .unset, .unset, .unset, .unset, .unset, .unset] [(.int cd), (.int (0 : Int32)), (.ref b53), (.ref b53), (.ref b51), (.ref b51)])) rfl rfl (hb hby at_135)
  have N56 := Fr.snoc X56 N46 g_b53
  have Z57 : n0 ≤ h56.size := Nat.le_trans Z54 (Keep.of_wr W56).1
  have O57 : Old Z n0 h56 := O54.wr W56 g_b53
  rw [cd_n] at W56
  have Va56 : Arv Z h56 b53 k53 .char (1 : Int32) [(.int cd)] (.int (0 : Int32)) := Arv.set Ar55 qc55 Sz55 Nn55 Hs55 Gf55 cd_f W56 0 rfl (Nat.le_of_ble_eq_true rfl)
  refine Go.step (T' := T56) (f' := (mkF m 136 #[.val (.int p1), .val (.int p2), .val (.int p3), .val (.int p4), .val (.int p5), .val (.int (p1 &&& (3 : Int32))), .val (.int ca), .val (.int cb), .val (.int cc), .val (.int cd), .val (.ref b_1), .val (.ref b3), .val (.ref b18), .val (.ref b36), .unset, .unset, .unset, .unset, .unset, .unset] [(.ref b53), (.ref b51), (.ref b51)])) st56 ?_
  have q59 : Exa Z h56 b51 "java/lang/String" := ((A51.ext E53).wr W56)
  have q60 : Fld Z h56 b51 "java/lang/String" "value" "[B" .null := ((F_value_b51.ext E53).other W56 (Or.inl (Nat.ne_of_lt (Nat.lt_of_lt_of_le A51.lt (Nat.le_of_eq g53.symm)))))
  have q61 : Fld Z h56 b51 "java/lang/String" "coder" "B" (.int (0 : Int32)) := ((F_coder_b51.ext E53).other W56 (Or.inl (Nat.ne_of_lt (Nat.lt_of_lt_of_le A51.lt (Nat.le_of_eq g53.symm)))))
  obtain ⟨_, _, ⟨T58, L58, kk58, nn58⟩, -, X58, ⟨Lc58, hQ58, lq58, yq58, zq58⟩, st58⟩ := X56.specialBack hx (y := (⟨"java/lang/String", "<init>", "([C)V"⟩ : MethodName)) rfl hown (mvT hZ (hw _ (List.mem_of_getElem? (i := 28) rfl))) (mvT hZ (hw _ (List.mem_of_getElem? (i := 29) rfl))) (mvT hZ (hw _ (List.mem_of_getElem? (i := 30) rfl))) (by decide) (backOf (W := 1) (rmSi_1 l Z a0 hw [] b51 b53 cs k53 cd h56 n0 Z57 q59 q60 q61 Va56 O57 S_COMPACT_STRINGS hcs cd_l g_b51) hZ (hw _ (List.mem_of_getElem? (i := 30) rfl)) (hw _ (List.mem_of_getElem? (i := 2) rfl)) (by decide) (by decide)) (g := (mkF m 136 #[.val (.int p1), .val (.int p2), .val (.int p3), .val (.int p4), .val (.int p5), .val (.int (p1 &&& (3 : Int32))), .val (.int ca), .val (.int cb), .val (.int cc), .val (.int cd), .val (.ref b_1), .val (.ref b3), .val (.ref b18), .val (.ref b36), .unset, .unset, .unset, .unset, .unset, .unset] [(.ref b53), (.ref b51), (.ref b51)])) rfl (by rw [hml]; rfl) (Steps.refl _) (a := b51) (argsL := [(.ref b53)]) (rest := [(.ref b51)]) (lenOf pd_9 rfl) rfl (by show 2 * 0 + _ ≤ _; exact Nat.le_of_eq rfl) (hb hby at_136) (fun _ _ => ⟨rfl, e56, (by decide : 13 + 1 ≤ _), (by decide : 36 + 1 ≤ _)⟩)
  dsimp only [Pt.U, Pt.locs, Pt.cells, Pt.slots] at X58 lq58 yq58 zq58 st58 hQ58
  subst yq58 zq58
  obtain ⟨b_58, kb_58, rfl, Nq58, Kq58, r58_0, r58_1, r58_2, r58_3⟩ := hQ58
  have N58 : Fr n0 L58 := by rw [lq58]; exact Fr.app N56 Nq58
  have g_b_58 : n0 ≤ b_58 := Nat.le_trans Z57 r58_0
  have Z62 : n0 ≤ T58.heap.size := Nat.le_trans Z57 Kq58.1
  have O62 : Old Z n0 T58.heap := O57.keep Kq58 (allS g_b51 all0)
  refine Go.step (T' := T58) (f' := (mkF m 139 #[.val (.int p1), .val (.int p2), .val (.int p3), .val (.int p4), .val (.int p5), .val (.int (p1 &&& (3 : Int32))), .val (.int ca), .val (.int cb), .val (.int cc), .val (.int cd), .val (.ref b_1), .val (.ref b3), .val (.ref b18), .val (.ref b36), .unset, .unset, .unset, .unset, .unset, .unset] [(.ref b51)])) (fun _ k => st58.trans k) ?_
  refine Go.step (T' := T58) (f' := (mkF m 141 #[.val (.int p1), .val (.int p2), .val (.int p3), .val (.int p4), .val (.int p5), .val (.int (p1 &&& (3 : Int32))), .val (.int ca), .val (.int cb), .val (.int cc), .val (.int cd), .val (.ref b_1), .val (.ref b3), .val (.ref b18), .val (.ref b36), .val (.ref b51), .unset, .unset, .unset, .unset, .unset] [])) (fun _ k => XS.astore X58.here hx rfl (hb hby at_139) rfl rfl (l' := #[.val (.int p1), .val (.int p2), .val (.int p3), .val (.int p4), .val (.int p5), .val (.int (p1 &&& (3 : Int32))), .val (.int ca), .val (.int cb), .val (.int cc), .val (.int cd), .val (.ref b_1), .val (.ref b3), .val (.ref b18), .val (.ref b36), .val (.ref b51), .unset, .unset, .unset, .unset, .unset]) rfl k) ?_
  refine Go.step (T' := T58) (f' := (mkF m 142 #[.val (.int p1), .val (.int p2), .val (.int p3), .val (.int p4), .val (.int p5), .val (.int (p1 &&& (3 : Int32))), .val (.int ca), .val (.int cb), .val (.int cc), .val (.int cd), .val (.ref b_1), .val (.ref b3), .val (.ref b18), .val (.ref b36), .val (.ref b51), .unset, .unset, .unset, .unset, .unset] [(.int (3 : Int32))])) (fun _ k => XS.iconst X58.here hx rfl (hb hby at_141) k) ?_
  obtain ⟨T63, h63, k63, X63, e63, E63, A63, O_63, st63⟩ := newR X58 hx hZ hown (hw _ (List.mem_of_getElem? (i := 26) rfl)) (hw _ (List.mem_of_getElem? (i := 44) rfl)) rfl (g := (mkF m 142 #[.val (.int p1), .val (.int p2), .val (.int p3), .val (.int p4), .val (.int p5), .val (.int (p1 &&& (3 : Int32))), .val (.int ca), .val (.int cb), .val (.int cc), .val (.int cd), .val (.ref b_1), .val (.ref b3), .val (.ref b18), .val (.ref b36), .val (.ref b51), .unset, .unset, .unset, .unset, .unset] [(.int (3 : Int32))])) rfl (hb hby at_142) rfl (by decide) (cap := 3) (by decide) (by decide) (by decide) (by decide)
  obtain ⟨b63, g63⟩ : ∃ z, z = T58.heap.size := ⟨_, rfl⟩
  rw [← g63] at A63 st63
  have g_b63 : n0 ≤ b63 := Nat.le_trans Z62 (Nat.le_of_eq g63.symm)
  have Z64 : n0 ≤ h63.size := Nat.le_trans Z62 E63.1
  have O64 : Old Z n0 h63 := O62.ext E63
  have V_b63 : Arv Z h63 b63 k63 (.object "java/lang/String") (3 : Int32) [.null, .null, .null] .null := (Arv.new A63 (by decide)).pad (pad_rep [] .null 3)
  refine Go.step (T' := T63) (f' := (mkF m 145 #[.val (.int p1), .val (.int p2), .val (.int p3), .val (.int p4), .val (.int p5), .val (.int (p1 &&& (3 : Int32))), .val (.int ca), .val (.int cb), .val (.int cc), .val (.int cd), .val (.ref b_1), .val (.ref b3), .val (.ref b18), .val (.ref b36), .val (.ref b51), .unset, .unset, .unset, .unset, .unset] [(.ref b63)])) st63 ?_
  refine Go.step (T' := T63) (f' := (mkF m 146 #[.val (.int p1), .val (.int p2), .val (.int p3), .val (.int p4), .val (.int p5), .val (.int (p1 &&& (3 : Int32))), .val (.int ca), .val (.int cb), .val (.int cc), .val (.int cd), .val (.ref b_1), .val (.ref b3), .val (.ref b18), .val (.ref b36), .val (.ref b51), .unset, .unset, .unset, .unset, .unset] [(.ref b63), (.ref b63)])) (fun _ k => XS.dup X63.here hx rfl (hb hby at_145) rfl rfl k) ?_
  refine Go.step (T' := T63) (f' := (mkF m 147 #[.val (.int p1), .val (.int p2), .val (.int p3), .val (.int p4), .val (.int p5), .val (.int (p1 &&& (3 : Int32))), .val (.int ca), .val (.int cb), .val (.int cc), .val (.int cd), .val (.ref b_1), .val (.ref b3), .val (.ref b18), .val (.ref b36), .val (.ref b51), .unset, .unset, .unset, .unset, .unset] [(.int (0 : Int32)), (.ref b63), (.ref b63)])) (fun _ k => XS.iconst X63.here hx rfl (hb hby at_146) k) ?_
  refine Go.step (T' := T63) (f' := (mkF m 149 #[.val (.int p1), .val (.int p2), .val (.int p3), .val (.int p4), .val (.int p5), .val (.int (p1 &&& (3 : Int32))), .val (.int ca), .val (.int cb), .val (.int cc), .val (.int cd), .val (.ref b_1), .val (.ref b3), .val (.ref b18), .val (.ref b36), .val (.ref b51), .unset, .unset, .unset, .unset, .unset] [(.ref b_1), (.int (0 : Int32)), (.ref b63), (.ref b63)])) (fun _ k => XS.aload X63.here hx rfl (hb hby at_147) rfl rfl k) ?_
  obtain ⟨cl65, Ar65, qc65, Sz65, Nn65, Hs65, Gf65⟩ := id V_b63
  have q67 : Exa Z h63 b_1 "java/lang/String" := (((((((((((((((((((((r1_1.ext E3).ext E5).wr W8).wr W11).keep Kq13).ext E18).ext E20).wr W23).wr W26).wr W29).keep Kq31).ext E36).ext E38).wr W41).wr W44).keep Kq46).ext E51).ext E53).wr W56).keep Kq58).ext E63)
  have hin66 : ¬ ((0 : Int32) < 0 ∨ cl65.slots.size ≤ ((0 : Int32)).toNatClampNeg) := (inb_of Sz65 ⟨by decide, by decide⟩)
  obtain ⟨T66, h66, X66, e66, W66, st66⟩ := stR X63 hx hZ e63 Ar65 (j := (0 : Int32)) hin66 rfl (Sto.ofV Ar65 qc65 O_63 (Ins.self q67)) (g := (mkF m 149 #[.val (.int p1), .val (.int p2), .val (.int p3), .val (.int p4), .val (.int p5), .val (.int (p1 &&& (3 : Int32))), .val (.int ca), .val (.int cb), .val (.int cc), .val (.int cd), .val (.ref b_1), .val (.ref b3), .val (.ref b18), .val (.ref b36), .val (.ref b51), .unset, .unset, .unset, .unset, .unset] [(.ref b_1), (.int (0 : Int32)), (.ref b63), (.ref b63)])) rfl rfl (hb hby at_149)
  have N66 := Fr.snoc X66 N58 g_b63
  have Z68 : n0 ≤ h66.size := Nat.le_trans Z64 (Keep.of_wr W66).1
  have O68 : Old Z n0 h66 := O64.wr W66 g_b63
  have Va66 : Arv Z h66 b63 k63 (.object "java/lang/String") (3 : Int32) [(.ref b_1), .null, .null] .null := Arv.set Ar65 qc65 Sz65 Nn65 Hs65 Gf65 rfl W66 0 rfl (Nat.le_of_ble_eq_true rfl)
  refine Go.step (T' := T66) (f' := (mkF m 150 #[.val (.int p1), .val (.int p2), .val (.int p3), .val (.int p4), .val (.int p5), .val (.int (p1 &&& (3 : Int32))), .val (.int ca), .val (.int cb), .val (.int cc), .val (.int cd), .val (.ref b_1), .val (.ref b3), .val (.ref b18), .val (.ref b36), .val (.ref b51), .unset, .unset, .unset, .unset, .unset] [(.ref b63)])) st66 ?_
  refine Go.step (T' := T66) (f' := (mkF m 151 #[.val (.int p1), .val (.int p2), .val (.int p3), .val (.int p4), .val (.int p5), .val (.int (p1 &&& (3 : Int32))), .val (.int ca), .val (.int cb), .val (.int cc), .val (.int cd), .val (.ref b_1), .val (.ref b3), .val (.ref b18), .val (.ref b36), .val (.ref b51), .unset, .unset, .unset, .unset, .unset] [(.ref b63), (.ref b63)])) (fun _ k => XS.dup X66.here hx rfl (hb hby at_150) rfl rfl k) ?_
  refine Go.step (T' := T66) (f' := (mkF m 152 #[.val (.int p1), .val (.int p2), .val (.int p3), .val (.int p4), .val (.int p5), .val (.int (p1 &&& (3 : Int32))), .val (.int ca), .val (.int cb), .val (.int cc), .val (.int cd), .val (.ref b_1), .val (.ref b3), .val (.ref b18), .val (.ref b36), .val (.ref b51), .unset, .unset, .unset, .unset, .unset] [(.int (1 : Int32)), (.ref b63), (.ref b63)])) (fun _ k => XS.iconst X66.here hx rfl (hb hby at_151) k) ?_
  refine Go.step (T' := T66) (f' := (mkF m 154 #[.val (.int p1), .val (.int p2), .val (.int p3), .val (.int p4), .val (.int p5), .val (.int (p1 &&& (3 : Int32))), .val (.int ca), .val (.int cb), .val (.int cc), .val (.int cd), .val (.ref b_1), .val (.ref b3), .val (.ref b18), .val (.ref b36), .val (.ref b51), .unset, .unset, .unset, .unset, .unset] [(.ref b3), (.int (1 : Int32)), (.ref b63), (.ref b63)])) (fun _ k => XS.aload X66.here hx rfl (hb hby at_152) rfl rfl k) ?_
  obtain ⟨cl69, Ar69, qc69, Sz69, Nn69, Hs69, Gf69⟩ := id Va66
  have q71 : Exa Z h66 b3 "java/lang/String" := ((((((((((((((((((q14.keep Kq13).ext E18).ext E20).wr W23).wr W26).wr W29).keep Kq31).ext E36).ext E38).wr W41).wr W44).keep Kq46).ext E51).ext E53).wr W56).keep Kq58).ext E63).wr W66)
  have hin70 : ¬ ((1 : Int32) < 0 ∨ cl69.slots.size ≤ ((1 : Int32)).toNatClampNeg) := (inb_of Sz69 ⟨by decide, by decide⟩)
  obtain ⟨T70, h70, X70, e70, W70, st70⟩ := stR X66 hx hZ e66 Ar69 (j := (1 : Int32)) hin70 rfl (Sto.ofV Ar69 qc69 O_63 (Ins.self q71)) (g := (mkF m 154 #[.val (.int p1), .val (.int p2), .val (.int p3), .val (.int p4), .val (.int p5), .val (.int (p1 &&& (3 : Int32))), .val (.int ca), .val (.int cb), .val (.int cc), .val (.int cd), .val (.ref b_1), .val (.ref b3), .val (.ref b18), .val (.ref b36), .val (.ref b51), .unset, .unset, .unset, .unset, .unset] [(.ref b3), (.int (1 : Int32)), (.ref b63), (.ref b63)])) rfl rfl (hb hby at_154)
  have N70 := Fr.snoc X70 N66 g_b63
  have Z72 : n0 ≤ h70.size := Nat.le_trans Z68 (Keep.of_wr W70).1
  have O72 : Old Z n0 h70 := O68.wr W70 g_b63
  have Va70 : Arv Z h70 b63 k63 (.object "java/lang/String") (3 : Int32) [(.ref b_1), (.ref b3), .null] .null := Arv.set Ar69 qc69 Sz69 Nn69 Hs69 Gf69 rfl W70 1 rfl (Nat.le_of_ble_eq_true rfl)
  refine Go.step (T' := T70) (f' := (mkF m 155 #[.val (.int p1), .val (.int p2), .val (.int p3), .val (.int p4), .val (.int p5), .val (.int (p1 &&& (3 : Int32))), .val (.int ca), .val (.int cb), .val (.int cc), .val (.int cd), .val (.ref b_1), .val (.ref b3), .val (.ref b18), .val (.ref b36), .val (.ref b51), .unset, .unset, .unset, .unset, .unset] [(.ref b63)])) st70 ?_
  refine Go.step (T' := T70) (f' := (mkF m 156 #[.val (.int p1), .val (.int p2), .val (.int p3), .val (.int p4), .val (.int p5), .val (.int (p1 &&& (3 : Int32))), .val (.int ca), .val (.int cb), .val (.int cc), .val (.int cd), .val (.ref b_1), .val (.ref b3), .val (.ref b18), .val (.ref b36), .val (.ref b51), .unset, .unset, .unset, .unset, .unset] [(.ref b63), (.ref b63)])) (fun _ k => XS.dup X70.here hx rfl (hb hby at_155) rfl rfl k) ?_
  refine Go.step (T' := T70) (f' := (mkF m 157 #[.val (.int p1), .val (.int p2), .val (.int p3), .val (.int p4), .val (.int p5), .val (.int (p1 &&& (3 : Int32))), .val (.int ca), .val (.int cb), .val (.int cc), .val (.int cd), .val (.ref b_1), .val (.ref b3), .val (.ref b18), .val (.ref b36), .val (.ref b51), .unset, .unset, .unset, .unset, .unset] [(.int (2 : Int32)), (.ref b63), (.ref b63)])) (fun _ k => XS.iconst X70.here hx rfl (hb hby at_156) k) ?_
  refine Go.step (T' := T70) (f' := (mkF m 159 #[.val (.int p1), .val (.int p2), .val (.int p3), .val (.int p4), .val (.int p5), .val (.int (p1 &&& (3 : Int32))), .val (.int ca), .val (.int cb), .val (.int cc), .val (.int cd), .val (.ref b_1), .val (.ref b3), .val (.ref b18), .val (.ref b36), .val (.ref b51), .unset, .unset, .unset, .unset, .unset] [(.ref b18), (.int (2 : Int32)), (.ref b63), (.ref b63)])) (fun _ k => XS.aload X70.here hx rfl (hb hby at_157) rfl rfl k) ?_
  obtain ⟨cl73, Ar73, qc73, Sz73, Nn73, Hs73, Gf73⟩ := id Va70
  have q75 : Exa Z h70 b18 "java/lang/String" := (((((((((((((q32.keep Kq31).ext E36).ext E38).wr W41).wr W44).keep Kq46).ext E51).ext E53).wr W56).keep Kq58).ext E63).wr W66).wr W70)
  have hin74 : ¬ ((2 : Int32) < 0 ∨ cl73.slots.size ≤ ((2 : Int32)).toNatClampNeg) := (inb_of Sz73 ⟨by decide, by decide⟩)
  obtain ⟨T74, h74, X74, e74, W74, st74⟩ := stR X70 hx hZ e70 Ar73 (j := (2 : Int32)) hin74 rfl (Sto.ofV Ar73 qc73 O_63 (Ins.self q75)) (g := (mkF m 159 #[.val (.int p1), .val (.int p2), .val (.int p3), .val (.int p4), .val (.int p5), .val (.int (p1 &&& (3 : Int32))), .val (.int ca), .val (.int cb), .val (.int cc), .val (.int cd), .val (.ref b_1), .val (.ref b3), .val (.ref b18), .val (.ref b36), .val (.ref b51), .unset, .unset, .unset, .unset, .unset] [(.ref b18), (.int (2 : Int32)), (.ref b63), (.ref b63)])) rfl rfl (hb hby at_159)
  have N74 := Fr.snoc X74 N70 g_b63
  have Z76 : n0 ≤ h74.size := Nat.le_trans Z72 (Keep.of_wr W74).1
  have O76 : Old Z n0 h74 := O72.wr W74 g_b63
  have Va74 : Arv Z h74 b63 k63 (.object "java/lang/String") (3 : Int32) [(.ref b_1), (.ref b3), (.ref b18)] .null := Arv.set Ar73 qc73 Sz73 Nn73 Hs73 Gf73 rfl W74 2 rfl (Nat.le_of_ble_eq_true rfl)
  refine Go.step (T' := T74) (f' := (mkF m 160 #[.val (.int p1), .val (.int p2), .val (.int p3), .val (.int p4), .val (.int p5), .val (.int (p1 &&& (3 : Int32))), .val (.int ca), .val (.int cb), .val (.int cc), .val (.int cd), .val (.ref b_1), .val (.ref b3), .val (.ref b18), .val (.ref b36), .val (.ref b51), .unset, .unset, .unset, .unset, .unset] [(.ref b63)])) st74 ?_
  refine Go.step (T' := T74) (f' := (mkF m 162 #[.val (.int p1), .val (.int p2), .val (.int p3), .val (.int p4), .val (.int p5), .val (.int (p1 &&& (3 : Int32))), .val (.int ca), .val (.int cb), .val (.int cc), .val (.int cd), .val (.ref b_1), .val (.ref b3), .val (.ref b18), .val (.ref b36), .val (.ref b51), .val (.ref b63), .unset, .unset, .unset, .unset] [])) (fun _ k => XS.astore X74.here hx rfl (hb hby at_160) rfl rfl (l' := #[.val (.int p1), .val (.int p2), .val (.int p3), .val (.int p4), .val (.int p5), .val (.int (p1 &&& (3 : Int32))), .val (.int ca), .val (.int cb), .val (.int cc), .val (.int cd), .val (.ref b_1), .val (.ref b3), .val (.ref b18), .val (.ref b36), .val (.ref b51), .val (.ref b63), .unset, .unset, .unset, .unset]) rfl k) ?_
  obtain ⟨T77, h77, X77, e77, E77, A77, D77, -, st77⟩ := newO X74 hx hZ hown (hw _ (List.mem_of_getElem? (i := 45) rfl)) (hw _ (List.mem_of_getElem? (i := 46) rfl)) (hw _ (List.mem_of_getElem? (i := 47) rfl)) e74 (g := (mkF m 162 #[.val (.int p1), .val (.int p2), .val (.int p3), .val (.int p4), .val (.int p5), .val (.int (p1 &&& (3 : Int32))), .val (.int ca), .val (.int cb), .val (.int cc), .val (.int cd), .val (.ref b_1), .val (.ref b3), .val (.ref b18), .val (.ref b36), .val (.ref b51), .val (.ref b63), .unset, .unset, .unset, .unset] [])) rfl (hb hby at_162) (by decide) (by decide)
  obtain ⟨b77, g77⟩ : ∃ z, z = h74.size := ⟨_, rfl⟩
  rw [← g77] at A77 D77 st77
  have g_b77 : n0 ≤ b77 := Nat.le_trans Z76 (Nat.le_of_eq g77.symm)
  have Z78 : n0 ≤ h77.size := Nat.le_trans Z76 E77.1
  have O78 : Old Z n0 h77 := O76.ext E77
  have F_indexes_b77 : Fld Z h77 b77 "com/example/fondskit/fondskit/xml/BoundAttributes" "indexes" "[I" .null := D77 (Or.inl (hw _ (List.mem_of_getElem? (i := 54) rfl))) (ty := (.array .int)) (by decide)
  have F_namespaces_b77 : Fld Z h77 b77 "com/example/fondskit/fondskit/xml/BoundAttributes" "namespaces" "[Ljava/lang/String;" .null := D77 (Or.inl (hw _ (List.mem_of_getElem? (i := 57) rfl))) (ty := (.array (.object "java/lang/String"))) (by decide)
  have F_localNames_b77 : Fld Z h77 b77 "com/example/fondskit/fondskit/xml/BoundAttributes" "localNames" "[Ljava/lang/String;" .null := D77 (Or.inl (hw _ (List.mem_of_getElem? (i := 59) rfl))) (ty := (.array (.object "java/lang/String"))) (by decide)
  have F_length_b77 : Fld Z h77 b77 "com/example/fondskit/fondskit/xml/BoundAttributes" "length" "I" (.int (0 : Int32)) := D77 (Or.inl (hw _ (List.mem_of_getElem? (i := 66) rfl))) (ty := .int) (by decide)
  have F_parsed_b77 : Fld Z h77 b77 "com/example/fondskit/fondskit/xml/BoundAttributes" "parsed" "Lorg/xml/sax/Attributes;" .null := D77 (Or.inl (hw _ (List.mem_of_getElem? (i := 73) rfl))) (ty := (.object "org/xml/sax/Attributes")) (by decide)
  refine Go.step (T' := T77) (f' := (mkF m 165 #[.val (.int p1), .val (.int p2), .val (.int p3), .val (.int p4), .val (.int p5), .val (.int (p1 &&& (3 : Int32))), .val (.int ca), .val (.int cb), .val (.int cc), .val (.int cd), .val (.ref b_1), .val (.ref b3), .val (.ref b18), .val (.ref b36), .val (.ref b51), .val (.ref b63), .unset, .unset, .unset, .unset] [(.ref b77)])) st77 ?_
  refine Go.step (T' := T77) (f' := (mkF m 166 #[.val (.int p1), .val (.int p2), .val (.int p3), .val (.int p4), .val (.int p5), .val (.int (p1 &&& (3 : Int32))), .val (.int ca), .val (.int cb), .val (.int cc), .val (.int cd), .val (.ref b_1), .val (.ref b3), .val (.ref b18), .val (.ref b36), .val (.ref b51), .val (.ref b63), .unset, .unset, .unset, .unset] [(.ref b77), (.ref b77)])) (fun _ k => XS.dup X77.here hx rfl (hb hby at_165) rfl rfl k) ?_
  obtain ⟨_, _, ⟨T79, L79, kk79, nn79⟩, -, X79, ⟨Lc79, hQ79, lq79, yq79, zq79⟩, st79⟩ := X77.specialBack hx (y := (⟨"com/example/fondskit/fondskit/xml/BoundAttributes", "<init>", "()V"⟩ : MethodName)) rfl hown (mvT hZ (hw _ (List.mem_of_getElem? (i := 48) rfl))) (mvT hZ (hw _ (List.mem_of_getElem? (i := 49) rfl))) (mvT hZ (hw _ (List.mem_of_getElem? (i := 50) rfl))) (by decide) (backOf (W := 1) (rm11 l Z a0 hw [] b77 h77 n0 Z78 A77 F_indexes_b77 F_namespaces_b77 F_localNames_b77 F_length_b77 F_parsed_b77 g_b77) hZ (hw _ (List.mem_of_getElem? (i := 50) rfl)) (hw _ (List.mem_of_getElem? (i := 47) rfl)) (by decide) (by decide)) (g := (mkF m 166 #[.val (.int p1), .val (.int p2), .val (.int p3), .val (.int p4), .val (.int p5), .val (.int (p1 &&& (3 : Int32))), .val (.int ca), .val (.int cb), .val (.int cc), .val (.int cd), .val (.ref b_1), .val (.ref b3), .val (.ref b18), .val (.ref b36), .val (.ref b51), .val (.ref b63), .unset, .unset, .unset, .unset] [(.ref b77), (.ref b77)])) rfl (by rw [hml]; rfl) (Steps.refl _) (a := b77) (argsL := []) (rest := [(.ref b77)]) (lenOf pd_10 rfl) rfl (by show 2 * 0 + _ ≤ _; exact Nat.le_of_eq rfl) (hb hby at_166) (fun _ _ => ⟨rfl, e77, (by decide : 16 + 3 ≤ _), (by decide : 45 + 24 ≤ _)⟩)
  dsimp only [Pt.U, Pt.locs, Pt.cells, Pt.slots] at X79 lq79 yq79 zq79 st79 hQ79
  subst yq79 zq79
  obtain ⟨i_79, n_79, l1_79, ki_79, kn_79, kl_79, rfl, Nq79, Kq79, r79_0, r79_1, r79_2, r79_3, r79_4, r79_5, r79_6, r79_7, r79_8, r79_9, r79_10, r79_11, r79_12, r79_13, r79_14, r79_15⟩ := hQ79
  have N79 : Fr n0 L79 := by rw [lq79]; exact Fr.app N74 Nq79
  have g_i_79 : n0 ≤ i_79 := Nat.le_trans Z78 r79_0
  have g_n_79 : n0 ≤ n_79 := Nat.le_trans Z78 r79_1
  have g_l1_79 : n0 ≤ l1_79 := Nat.le_trans Z78 r79_2
  have Z80 : n0 ≤ T79.heap.size := Nat.le_trans Z78 Kq79.1
  have O80 : Old Z n0 T79.heap := O78.keep Kq79 (allS g_b77 all0)
  refine Go.step (T' := T79) (f' := (mkF m 169 #[.val (.int p1), .val (.int p2), .val (.int p3), .val (.int p4), .val (.int p5), .val (.int (p1 &&& (3 : Int32))), .val (.int ca), .val (.int cb), .val (.int cc), .val (.int cd), .val (.ref b_1), .val (.ref b3), .val (.ref b18), .val (.ref b36), .val (.ref b51), .val (.ref b63), .unset, .unset, .unset, .unset] [(.ref b77)])) (fun _ k => st79.trans k) ?_
  refine Go.step (T' := T79) (f' := (mkF m 171 #[.val (.int p1), .val (.int p2), .val (.int p3), .val (.int p4), .val (.int p5), .val (.int (p1 &&& (3 : Int32))), .val (.int ca), .val (.int cb), .val (.int cc), .val (.int cd), .val (.ref b_1), .val (.ref b3), .val (.ref b18), .val (.ref b36), .val (.ref b51), .val (.ref b63), .val (.ref b77), .unset, .unset, .unset] [])) (fun _ k => XS.astore X79.here hx rfl (hb hby at_169) rfl rfl (l' := #[.val (.int p1), .val (.int p2), .val (.int p3), .val (.int p4), .val (.int p5), .val (.int (p1 &&& (3 : Int32))), .val (.int ca), .val (.int cb), .val (.int cc), .val (.int cd), .val (.ref b_1), .val (.ref b3), .val (.ref b18), .val (.ref b36), .val (.ref b51), .val (.ref b63), .val (.ref b77), .unset, .unset, .unset]) rfl k) ?_
  refine Go.step (T' := T79) (f' := (mkF m 173 #[.val (.int p1), .val (.int p2), .val (.int p3), .val (.int p4), .val (.int p5), .val (.int (p1 &&& (3 : Int32))), .val (.int ca), .val (.int cb), .val (.int cc), .val (.int cd), .val (.ref b_1), .val (.ref b3), .val (.ref b18), .val (.ref b36), .val (.ref b51), .val (.ref b63), .val (.ref b77), .unset, .unset, .unset] [(.ref b77)])) (fun _ k => XS.aload X79.here hx rfl (hb hby at_171) rfl rfl k) ?_
  refine Go.step (T' := T79) (f' := (mkF m 175 #[.val (.int p1), .val (.int p2), .val (.int p3), .val (.int p4), .val (.int p5), .val (.int (p1 &&& (3 : Int32))), .val (.int ca), .val (.int cb), .val (.int cc), .val (.int cd), .val (.ref b_1), .val (.ref b3), .val (.ref b18), .val (.ref b36), .val (.ref b51), .val (.ref b63), .val (.ref b77), .unset, .unset, .unset] [(.int p5), (.ref b77)])) (fun _ k => XS.iload X79.here hx rfl (hb hby at_173) rfl k) ?_
  refine Go.step (T' := T79) (f' := (mkF m 177 #[.val (.int p1), .val (.int p2), .val (.int p3), .val (.int p4), .val (.int p5), .val (.int (p1 &&& (3 : Int32))), .val (.int ca), .val (.int cb), .val (.int cc), .val (.int cd), .val (.ref b_1), .val (.ref b3), .val (.ref b18), .val (.ref b36), .val (.ref b51), .val (.ref b63), .val (.ref b77), .unset, .unset, .unset] [(.ref b36), (.int p5), (.ref b77)])) (fun _ k => XS.aload X79.here hx rfl (hb hby at_175) rfl rfl k) ?_
  refine Go.step (T' := T79) (f' := (mkF m 179 #[.val (.int p1), .val (.int p2), .val (.int p3), .val (.int p4), .val (.int p5), .val (.int (p1 &&& (3 : Int32))), .val (.int ca), .val (.int cb), .val (.int cc), .val (.int cd), .val (.ref b_1), .val (.ref b3), .val (.ref b18), .val (.ref b36), .val (.ref b51), .val (.ref b63), .val (.ref b77), .unset, .unset, .unset] [(.ref b51), (.ref b36), (.int p5), (.ref b77)])) (fun _ k => XS.aload X79.here hx rfl (hb hby at_177) rfl rfl k) ?_
  have q82 : Exa Z T79.heap b77 "com/example/fondskit/fondskit/xml/BoundAttributes" := (A77.keep Kq79)
  have q83 : Exa Z T79.heap b36 "java/lang/String" := (((((((((((q47.keep Kq46).ext E51).ext E53).wr W56).keep Kq58).ext E63).wr W66).wr W70).wr W74).ext E77).keep Kq79)
  have q84 : Exa Z T79.heap b51 "java/lang/String" := (((((((q59.keep Kq58).ext E63).wr W66).wr W70).wr W74).ext E77).keep Kq79)
  obtain ⟨cq81, kq81, q81a, q81b, q81c⟩ := isOf hZ rfl q82
  obtain ⟨_, _, ⟨T81, L81, kk81, nn81⟩, -, X81, ⟨Lc81, hQ81, lq81, yq81, zq81⟩, st81⟩ := X79.virtualBack hx (y := (⟨"com/example/fondskit/fondskit/xml/BoundAttributes", "add", "(ILjava/lang/String;Ljava/lang/String;)V"⟩ : MethodName)) (z := (⟨"com/example/fondskit/fondskit/xml/BoundAttributes", "add", "(ILjava/lang/String;Ljava/lang/String;)V"⟩ : MethodName)) hown (mvT hZ (hw _ (List.mem_of_getElem? (i := 60) rfl))) (mvT hZ (hw _ (List.mem_of_getElem? (i := 61) rfl))) (notFace_of_selects (args := #[]) (mvT hZ (hw _ (List.mem_of_getElem? (i := 63) rfl)))) (mvT hZ (hw _ (List.mem_of_getElem? (i := 63) rfl))) (mvT hZ (hw _ (List.mem_of_getElem? (i := 62) rfl))) (by decide) (backOf (W := 0) (rmAdd0 l Z a0 hw [] b77 p5 b36 b51 i_79 n_79 l1_79 ki_79 kn_79 kl_79 (.int (0 : Int32)) (.int (0 : Int32)) (.int (0 : Int32)) (.int (0 : Int32)) (.int (0 : Int32)) (.int (0 : Int32)) (.int (0 : Int32)) (.int (0 : Int32)) .null .null .null .null .null .null .null .null .null .null .null .null .null .null .null .null T79.heap n0 Z80 q82 q83 q84 r79_8 r79_9 r79_10 r79_11 r79_12 r79_13 r79_14 r79_15 (Ne.symm (Nat.ne_of_lt (Nat.lt_of_lt_of_le A77.lt r79_0))) (Ne.symm (Nat.ne_of_lt (Nat.lt_of_lt_of_le A77.lt r79_1))) (Ne.symm (Nat.ne_of_lt (Nat.lt_of_lt_of_le A77.lt r79_2))) r79_3 r79_4 r79_5 r79_6 r79_7 g_b77 g_i_79 g_n_79 g_l1_79) hZ (hw _ (List.mem_of_getElem? (i := 64) rfl)) (hw _ (List.mem_of_getElem? (i := 47) rfl)) (by decide) (by decide)) q81a q81c (g := (mkF m 179 #[.val (.int p1), .val (.int p2), .val (.int p3), .val (.int p4), .val (.int p5), .val (.int (p1 &&& (3 : Int32))), .val (.int ca), .val (.int cb), .val (.int cc), .val (.int cd), .val (.ref b_1), .val (.ref b3), .val (.ref b18), .val (.ref b36), .val (.ref b51), .val (.ref b63), .val (.ref b77), .unset, .unset, .unset] [(.ref b51), (.ref b36), (.int p5), (.ref b77)])) rfl (by rw [hml]; rfl) (Steps.refl _) (argsL := [(.int p5), (.ref b36), (.ref b51)]) (rest := []) (lenOf pd_11 rfl) rfl (by show 2 * 0 + _ ≤ _; exact Nat.le_of_eq rfl) (hb hby at_179) (fun _ _ => ⟨rfl, rfl, (by decide : 19 + 0 ≤ _), (by decide : 69 + 0 ≤ _)⟩)
  dsimp only [Pt.U, Pt.locs, Pt.cells, Pt.slots] at X81 lq81 yq81 zq81 st81 hQ81
  subst yq81 zq81
  obtain ⟨rfl, Nq81, Kq81, r81_0, r81_1, r81_2, r81_3, r81_4, r81_5, r81_6, r81_7⟩ := hQ81
  have N81 : Fr n0 L81 := by rw [lq81]; exact Fr.app N79 Nq81
  have Z85 : n0 ≤ T81.heap.size := Nat.le_trans Z80 Kq81.1
  have O85 : Old Z n0 T81.heap := O80.keep Kq81 (allS g_b77 (allS g_i_79 (allS g_n_79 (allS g_l1_79 all0))))
  refine Go.step (T' := T81) (f' := (mkF m 182 #[.val (.int p1), .val (.int p2), .val (.int p3), .val (.int p4), .val (.int p5), .val (.int (p1 &&& (3 : Int32))), .val (.int ca), .val (.int cb), .val (.int cc), .val (.int cd), .val (.ref b_1), .val (.ref b3), .val (.ref b18), .val (.ref b36), .val (.ref b51), .val (.ref b63), .val (.ref b77), .unset, .unset, .unset] [])) (fun _ k => st81.trans k) ?_
  refine Go.step (T' := T81) (f' := (mkF m 184 #[.val (.int p1), .val (.int p2), .val (.int p3), .val (.int p4), .val (.int p5), .val (.int (p1 &&& (3 : Int32))), .val (.int ca), .val (.int cb), .val (.int cc), .val (.int cd), .val (.ref b_1), .val (.ref b3), .val (.ref b18), .val (.ref b36), .val (.ref b51), .val (.ref b63), .val (.ref b77), .unset, .unset, .unset] [(.ref b77)])) (fun _ k => XS.aload X81.here hx rfl (hb hby at_182) rfl rfl k) ?_
  refine Go.step (T' := T81) (f' := (mkF m 186 #[.val (.int p1), .val (.int p2), .val (.int p3), .val (.int p4), .val (.int p5), .val (.int (p1 &&& (3 : Int32))), .val (.int ca), .val (.int cb), .val (.int cc), .val (.int cd), .val (.ref b_1), .val (.ref b3), .val (.ref b18), .val (.ref b36), .val (.ref b51), .val (.ref b63), .val (.ref b77), .unset, .unset, .unset] [(.int p5), (.ref b77)])) (fun _ k => XS.iload X81.here hx rfl (hb hby at_184) rfl k) ?_
  refine Go.step (T' := T81) (f' := (mkF m 188 #[.val (.int p1), .val (.int p2), .val (.int p3), .val (.int p4), .val (.int p5), .val (.int (p1 &&& (3 : Int32))), .val (.int ca), .val (.int cb), .val (.int cc), .val (.int cd), .val (.ref b_1), .val (.ref b3), .val (.ref b18), .val (.ref b36), .val (.ref b51), .val (.ref b63), .val (.ref b77), .unset, .unset, .unset] [(.ref b36), (.int p5), (.ref b77)])) (fun _ k => XS.aload X81.here hx rfl (hb hby at_186) rfl rfl k) ?_
  refine Go.step (T' := T81) (f' := (mkF m 190 #[.val (.int p1), .val (.int p2), .val (.int p3), .val (.int p4), .val (.int p5), .val (.int (p1 &&& (3 : Int32))), .val (.int ca), .val (.int cb), .val (.int cc), .val (.int cd), .val (.ref b_1), .val (.ref b3), .val (.ref b18), .val (.ref b36), .val (.ref b51), .val (.ref b63), .val (.ref b77), .unset, .unset, .unset] [(.ref b51), (.ref b36), (.int p5), (.ref b77)])) (fun _ k => XS.aload X81.here hx rfl (hb hby at_188) rfl rfl k) ?_
  have q87 : Exa Z T81.heap b77 "com/example/fondskit/fondskit/xml/BoundAttributes" := (q82.keep Kq81)
  have q88 : Exa Z T81.heap b36 "java/lang/String" := (q83.keep Kq81)
  have q89 : Exa Z T81.heap b51 "java/lang/String" := (q84.keep Kq81)
  obtain ⟨cq86, kq86, q86a, q86b, q86c⟩ := isOf hZ rfl q87
  obtain ⟨_, _, ⟨T86, L86, kk86, nn86⟩, -, X86, ⟨Lc86, hQ86, lq86, yq86, zq86⟩, st86⟩ := X81.virtualBack hx (y := (⟨"com/example/fondskit/fondskit/xml/BoundAttributes", "add", "(ILjava/lang/String;Ljava/lang/String;)V"⟩ : MethodName)) (z := (⟨"com/example/fondskit/fondskit/xml/BoundAttributes", "add", "(ILjava/lang/String;Ljava/lang/String;)V"⟩ : MethodName)) hown (mvT hZ (hw _ (List.mem_of_getElem? (i := 60) rfl))) (mvT hZ (hw _ (List.mem_of_getElem? (i := 61) rfl))) (notFace_of_selects (args := #[]) (mvT hZ (hw _ (List.mem_of_getElem? (i := 63) rfl)))) (mvT hZ (hw _ (List.mem_of_getElem? (i := 63) rfl))) (mvT hZ (hw _ (List.mem_of_getElem? (i := 62) rfl))) (by decide) (backOf (W := 0) (rmAdd1 l Z a0 hw [] b77 p5 b36 b51 i_79 n_79 l1_79 ki_79 kn_79 kl_79 (.int p5) (.int (0 : Int32)) (.int (0 : Int32)) (.int (0 : Int32)) (.int (0 : Int32)) (.int (0 : Int32)) (.int (0 : Int32)) (.int (0 : Int32)) (.ref b36) .null .null .null .null .null .null .null (.ref b51) .null .null .null .null .null .null .null T81.heap n0 Z85 q87 q88 q89 r81_0 r81_1 r81_2 r81_3 r81_4 r81_5 r81_6 r81_7 (Ne.symm (Nat.ne_of_lt (Nat.lt_of_lt_of_le A77.lt r79_0))) (Ne.symm (Nat.ne_of_lt (Nat.lt_of_lt_of_le A77.lt r79_1))) (Ne.symm (Nat.ne_of_lt (Nat.lt_of_lt_of_le A77.lt r79_2))) r79_3 r79_4 r79_5 r79_6 r79_7 g_b77 g_i_79 g_n_79 g_l1_79) hZ (hw _ (List.mem_of_getElem? (i := 64) rfl)) (hw _ (List.mem_of_getElem? (i := 47) rfl)) (by decide) (by decide)) q86a q86c (g := (mkF m 190 #[.val (.int p1), .val (.int p2), .val (.int p3), .val (.int p4), .val (.int p5), .val (.int (p1 &&& (3 : Int32))), .val (.int ca), .val (.int cb), .val (.int cc), .val (.int cd), .val (.ref b_1), .val (.ref b3), .val (.ref b18), .val (.ref b36), .val (.ref b51), .val (.ref b63), .val (.ref b77), .unset, .unset, .unset] [(.ref b51), (.ref b36), (.int p5), (.ref b77)])) rfl (by rw [hml]; rfl) (Steps.refl _) (argsL := [(.int p5), (.ref b36), (.ref b51)]) (rest := []) (lenOf pd_11 rfl) rfl (by show 2 * 0 + _ ≤ _; exact Nat.le_of_eq rfl) (hb hby at_190) (fun _ _ => ⟨rfl, rfl, (by decide : 19 + 0 ≤ _), (by decide : 69 + 0 ≤ _)⟩)
  dsimp only [Pt.U, Pt.locs, Pt.cells, Pt.slots] at X86 lq86 yq86 zq86 st86 hQ86
  subst yq86 zq86
  obtain ⟨rfl, Nq86, Kq86, r86_0, r86_1, r86_2, r86_3, r86_4, r86_5, r86_6, r86_7⟩ := hQ86
  have N86 : Fr n0 L86 := by rw [lq86]; exact Fr.app N81 Nq86
  have Z90 : n0 ≤ T86.heap.size := Nat.le_trans Z85 Kq86.1
  have O90 : Old Z n0 T86.heap := O85.keep Kq86 (allS g_b77 (allS g_i_79 (allS g_n_79 (allS g_l1_79 all0))))
  refine Go.step (T' := T86) (f' := (mkF m 193 #[.val (.int p1), .val (.int p2), .val (.int p3), .val (.int p4), .val (.int p5), .val (.int (p1 &&& (3 : Int32))), .val (.int ca), .val (.int cb), .val (.int cc), .val (.int cd), .val (.ref b_1), .val (.ref b3), .val (.ref b18), .val (.ref b36), .val (.ref b51), .val (.ref b63), .val (.ref b77), .unset, .unset, .unset] [])) (fun _ k => st86.trans k) ?_
  refine Go.step (T' := T86) (f' := (mkF m 195 #[.val (.int p1), .val (.int p2), .val (.int p3), .val (.int p4), .val (.int p5), .val (.int (p1 &&& (3 : Int32))), .val (.int ca), .val (.int cb), .val (.int cc), .val (.int cd), .val (.ref b_1), .val (.ref b3), .val (.ref b18), .val (.ref b36), .val (.ref b51), .val (.ref b63), .val (.ref b77), .unset, .unset, .unset] [(.ref b77)])) (fun _ k => XS.aload X86.here hx rfl (hb hby at_193) rfl rfl k) ?_
  refine Go.step (T' := T86) (f' := (mkF m 197 #[.val (.int p1), .val (.int p2), .val (.int p3), .val (.int p4), .val (.int p5), .val (.int (p1 &&& (3 : Int32))), .val (.int ca), .val (.int cb), .val (.int cc), .val (.int cd), .val (.ref b_1), .val (.ref b3), .val (.ref b18), .val (.ref b36), .val (.ref b51), .val (.ref b63), .val (.ref b77), .unset, .unset, .unset] [(.int p5), (.ref b77)])) (fun _ k => XS.iload X86.here hx rfl (hb hby at_195) rfl k) ?_
  refine Go.step (T' := T86) (f' := (mkF m 199 #[.val (.int p1), .val (.int p2), .val (.int p3), .val (.int p4), .val (.int p5), .val (.int (p1 &&& (3 : Int32))), .val (.int ca), .val (.int cb), .val (.int cc), .val (.int cd), .val (.ref b_1), .val (.ref b3), .val (.ref b18), .val (.ref b36), .val (.ref b51), .val (.ref b63), .val (.ref b77), .unset, .unset, .unset] [(.ref b36), (.int p5), (.ref b77)])) (fun _ k => XS.aload X86.here hx rfl (hb hby at_197) rfl rfl k) ?_
  refine Go.step (T' := T86) (f' := (mkF m 201 #[.val (.int p1), .val (.int p2), .val (.int p3), .val (.int p4), .val (.int p5), .val (.int (p1 &&& (3 : Int32))), .val (.int ca), .val (.int cb), .val (.int cc), .val (.int cd), .val (.ref b_1), .val (.ref b3), .val (.ref b18), .val (.ref b36), .val (.ref b51), .val (.ref b63), .val (.ref b77), .unset, .unset, .unset] [(.ref b51), (.ref b36), (.int p5), (.ref b77)])) (fun _ k => XS.aload X86.here hx rfl (hb hby at_199) rfl rfl k) ?_
  have q92 : Exa Z T86.heap b77 "com/example/fondskit/fondskit/xml/BoundAttributes" := (q87.keep Kq86)
  have q93 : Exa Z T86.heap b36 "java/lang/String" := (q88.keep Kq86)
  have q94 : Exa Z T86.heap b51 "java/lang/String" := (q89.keep Kq86)
  obtain ⟨cq91, kq91, q91a, q91b, q91c⟩ := isOf hZ rfl q92
  obtain ⟨_, _, ⟨T91, L91, kk91, nn91⟩, -, X91, ⟨Lc91, hQ91, lq91, yq91, zq91⟩, st91⟩ := X86.virtualBack hx (y := (⟨"com/example/fondskit/fondskit/xml/BoundAttributes", "add", "(ILjava/lang/String;Ljava/lang/String;)V"⟩ : MethodName)) (z := (⟨"com/example/fondskit/fondskit/xml/BoundAttributes", "add", "(ILjava/lang/String;Ljava/lang/String;)V"⟩ : MethodName)) hown (mvT hZ (hw _ (List.mem_of_getElem? (i := 60) rfl))) (mvT hZ (hw _ (List.mem_of_getElem? (i := 61) rfl))) (notFace_of_selects (args := #[]) (mvT hZ (hw _ (List.mem_of_getElem? (i := 63) rfl)))) (mvT hZ (hw _ (List.mem_of_getElem? (i := 63) rfl))) (mvT hZ (hw _ (List.mem_of_getElem? (i := 62) rfl))) (by decide) (backOf (W := 0) (rmAdd2 l Z a0 hw [] b77 p5 b36 b51 i_79 n_79 l1_79 ki_79 kn_79 kl_79 (.int p5) (.int p5) (.int (0 : Int32)) (.int (0 : Int32)) (.int (0 : Int32)) (.int (0 : Int32)) (.int (0 : Int32)) (.int (0 : Int32)) (.ref b36) (.ref b36) .null .null .null .null .null .null (.ref b51) (.ref b51) .null .null .null .null .null .null T86.heap n0 Z90 q92 q93 q94 r86_0 r86_1 r86_2 r86_3 r86_4 r86_5 r86_6 r86_7 (Ne.symm (Nat.ne_of_lt (Nat.lt_of_lt_of_le A77.lt r79_0))) (Ne.symm (Nat.ne_of_lt (Nat.lt_of_lt_of_le A77.lt r79_1))) (Ne.symm (Nat.ne_of_lt (Nat.lt_of_lt_of_le A77.lt r79_2))) r79_3 r79_4 r79_5 r79_6 r79_7 g_b77 g_i_79 g_n_79 g_l1_79) hZ (hw _ (List.mem_of_getElem? (i := 64) rfl)) (hw _ (List.mem_of_getElem? (i := 47) rfl)) (by decide) (by decide)) q91a q91c (g := (mkF m 201 #[.val (.int p1), .val (.int p2), .val (.int p3), .val (.int p4), .val (.int p5), .val (.int (p1 &&& (3 : Int32))), .val (.int ca), .val (.int cb), .val (.int cc), .val (.int cd), .val (.ref b_1), .val (.ref b3), .val (.ref b18), .val (.ref b36), .val (.ref b51), .val (.ref b63), .val (.ref b77), .unset, .unset, .unset] [(.ref b51), (.ref b36), (.int p5), (.ref b77)])) rfl (by rw [hml]; rfl) (Steps.refl _) (argsL := [(.int p5), (.ref b36), (.ref b51)]) (rest := []) (lenOf pd_11 rfl) rfl (by show 2 * 0 + _ ≤ _; exact Nat.le_of_eq rfl) (hb hby at_201) (fun _ _ => ⟨rfl, rfl, (by decide : 19 + 0 ≤ _), (by decide : 69 + 0 ≤ _)⟩)
  dsimp only [Pt.U, Pt.locs, Pt.cells, Pt.slots] at X91 lq91 yq91 zq91 st91 hQ91
  subst yq91 zq91
  obtain ⟨rfl, Nq91, Kq91, r91_0, r91_1, r91_2, r91_3, r91_4, r91_5, r91_6, r91_7⟩ := hQ91
  have N91 : Fr n0 L91 := by rw [lq91]; exact Fr.app N86 Nq91
  have Z95 : n0 ≤ T91.heap.size := Nat.le_trans Z90 Kq91.1
  have O95 : Old Z n0 T91.heap := O90.keep Kq91 (allS g_b77 (allS g_i_79 (allS g_n_79 (allS g_l1_79 all0))))
  refine Go.step (T' := T91) (f' := (mkF m 204 #[.val (.int p1), .val (.int p2), .val (.int p3), .val (.int p4), .val (.int p5), .val (.int (p1 &&& (3 : Int32))), .val (.int ca), .val (.int cb), .val (.int cc), .val (.int cd), .val (.ref b_1), .val (.ref b3), .val (.ref b18), .val (.ref b36), .val (.ref b51), .val (.ref b63), .val (.ref b77), .unset, .unset, .unset] [])) (fun _ k => st91.trans k) ?_
  refine Go.step (T' := T91) (f' := (mkF m 206 #[.val (.int p1), .val (.int p2), .val (.int p3), .val (.int p4), .val (.int p5), .val (.int (p1 &&& (3 : Int32))), .val (.int ca), .val (.int cb), .val (.int cc), .val (.int cd), .val (.ref b_1), .val (.ref b3), .val (.ref b18), .val (.ref b36), .val (.ref b51), .val (.ref b63), .val (.ref b77), .unset, .unset, .unset] [(.ref b77)])) (fun _ k => XS.aload X91.here hx rfl (hb hby at_204) rfl rfl k) ?_
  refine Go.step (T' := T91) (f' := (mkF m 207 #[.val (.int p1), .val (.int p2), .val (.int p3), .val (.int p4), .val (.int p5), .val (.int (p1 &&& (3 : Int32))), .val (.int ca), .val (.int cb), .val (.int cc), .val (.int cd), .val (.ref b_1), .val (.ref b3), .val (.ref b18), .val (.ref b36), .val (.ref b51), .val (.ref b63), .val (.ref b77), .unset, .unset, .unset] [.null, (.ref b77)])) (fun _ k => XS.aconstNull X91.here hx rfl (hb hby at_206) k) ?_
  have q97 : Exa Z T91.heap b77 "com/example/fondskit/fondskit/xml/BoundAttributes" := (q92.keep Kq91)
  obtain ⟨cq96, kq96, q96a, q96b, q96c⟩ := isOf hZ rfl q97
  obtain ⟨_, _, ⟨T96, L96, kk96, nn96⟩, -, X96, ⟨Lc96, hQ96, lq96, yq96, zq96⟩, st96⟩ := X91.virtualBack hx (y := (⟨"com/example/fondskit/fondskit/xml/BoundAttributes", "clear", "(Lorg/xml/sax/Attributes;)V"⟩ : MethodName)) (z := (⟨"com/example/fondskit/fondskit/xml/BoundAttributes", "clear", "(Lorg/xml/sax/Attributes;)V"⟩ : MethodName)) hown (mvT hZ (hw _ (List.mem_of_getElem? (i := 67) rfl))) (mvT hZ (hw _ (List.mem_of_getElem? (i := 68) rfl))) (notFace_of_selects (args := #[]) (mvT hZ (hw _ (List.mem_of_getElem? (i := 70) rfl)))) (mvT hZ (hw _ (List.mem_of_getElem? (i := 70) rfl))) (mvT hZ (hw _ (List.mem_of_getElem? (i := 69) rfl))) (by decide) (backOf (W := 0) (rm13 l Z a0 hw [] b77 i_79 n_79 l1_79 (3 : Int32) T91.heap n0 Z95 q97 r91_0 r91_1 r91_2 r91_3 r91_4 g_b77) hZ (hw _ (List.mem_of_getElem? (i := 71) rfl)) (hw _ (List.mem_of_getElem? (i := 47) rfl)) (by decide) (by decide)) q96a q96c (g := (mkF m 207 #[.val (.int p1), .val (.int p2), .val (.int p3), .val (.int p4), .val (.int p5), .val (.int (p1 &&& (3 : Int32))), .val (.int ca), .val (.int cb), .val (.int cc), .val (.int cd), .val (.ref b_1), .val (.ref b3), .val (.ref b18), .val (.ref b36), .val (.ref b51), .val (.ref b63), .val (.ref b77), .unset, .unset, .unset] [.null, (.ref b77)])) rfl (by rw [hml]; rfl) (Steps.refl _) (argsL := [.null]) (rest := []) (lenOf pd_12 rfl) rfl (by show 2 * 0 + _ ≤ _; exact Nat.le_of_eq rfl) (hb hby at_207) (fun _ _ => ⟨rfl, rfl, (by decide : 19 + 0 ≤ _), (by decide : 69 + 0 ≤ _)⟩)
  dsimp only [Pt.U, Pt.locs, Pt.cells, Pt.slots] at X96 lq96 yq96 zq96 st96 hQ96
  subst yq96 zq96
  obtain ⟨rfl, Nq96, Kq96, r96_0, r96_1, r96_2, r96_3, r96_4⟩ := hQ96
  have N96 : Fr n0 L96 := by rw [lq96]; exact Fr.app N91 Nq96
  have Z98 : n0 ≤ T96.heap.size := Nat.le_trans Z95 Kq96.1
  have O98 : Old Z n0 T96.heap := O95.keep Kq96 (allS g_b77 all0)
  refine Go.step (T' := T96) (f' := (mkF m 210 #[.val (.int p1), .val (.int p2), .val (.int p3), .val (.int p4), .val (.int p5), .val (.int (p1 &&& (3 : Int32))), .val (.int ca), .val (.int cb), .val (.int cc), .val (.int cd), .val (.ref b_1), .val (.ref b3), .val (.ref b18), .val (.ref b36), .val (.ref b51), .val (.ref b63), .val (.ref b77), .unset, .unset, .unset] [])) (fun _ k => st96.trans k) ?_
  rcases own_and3 p1 with hn | hn | hn | hn
  · rw [hn]
    refine Go.step (T' := T96) (f' := (mkF m 212 #[.val (.int p1), .val (.int p2), .val (.int p3), .val (.int p4), .val (.int p5), .val (.int (0 : Int32)), .val (.int ca), .val (.int cb), .val (.int cc), .val (.int cd), .val (.ref b_1), .val (.ref b3), .val (.ref b18), .val (.ref b36), .val (.ref b51), .val (.ref b63), .val (.ref b77), .unset, .unset, .unset] [(.int (0 : Int32))])) (fun _ k => XS.iload X96.here hx rfl (hb hby at_210) rfl k) ?_
    refine Go.step (T' := T96) (f' := (mkF m 213 #[.val (.int p1), .val (.int p2), .val (.int p3), .val (.int p4), .val (.int p5), .val (.int (0 : Int32)), .val (.int ca), .val (.int cb), .val (.int cc), .val (.int cd), .val (.ref b_1), .val (.ref b3), .val (.ref b18), .val (.ref b36), .val (.ref b51), .val (.ref b63), .val (.ref b77), .unset, .unset, .unset] [(.int (1 : Int32)), (.int (0 : Int32))])) (fun _ k => XS.iconst X96.here hx rfl (hb hby at_212) k) ?_
    refine Go.step (T' := T96) (f' := (mkF m 227 #[.val (.int p1), .val (.int p2), .val (.int p3), .val (.int p4), .val (.int p5), .val (.int (0 : Int32)), .val (.int ca), .val (.int cb), .val (.int cc), .val (.int cd), .val (.ref b_1), .val (.ref b3), .val (.ref b18), .val (.ref b36), .val (.ref b51), .val (.ref b63), .val (.ref b77), .unset, .unset, .unset] [])) (fun _ k => XS.icmpYes X96.here hx rfl (pc0 := 213) (pc' := 227) rfl (hb hby at_213) rfl (tlt (by decide : (0 : Int32) < (1 : Int32))).1 (by decide) (by decide) k) ?_
    refine Go.step (T' := T96) (f' := (mkF m 229 #[.val (.int p1), .val (.int p2), .val (.int p3), .val (.int p4), .val (.int p5), .val (.int (0 : Int32)), .val (.int ca), .val (.int cb), .val (.int cc), .val (.int cd), .val (.ref b_1), .val (.ref b3), .val (.ref b18), .val (.ref b36), .val (.ref b51), .val (.ref b63), .val (.ref b77), .unset, .unset, .unset] [(.int (0 : Int32))])) (fun _ k => XS.iload X96.here hx rfl (hb hby at_227) rfl k) ?_
    refine Go.step (T' := T96) (f' := (mkF m 230 #[.val (.int p1), .val (.int p2), .val (.int p3), .val (.int p4), .val (.int p5), .val (.int (0 : Int32)), .val (.int ca), .val (.int cb), .val (.int cc), .val (.int cd), .val (.ref b_1), .val (.ref b3), .val (.ref b18), .val (.ref b36), .val (.ref b51), .val (.ref b63), .val (.ref b77), .unset, .unset, .unset] [(.int (2 : Int32)), (.int (0 : Int32))])) (fun _ k => XS.iconst X96.here hx rfl (hb hby at_229) k) ?_
    refine Go.step (T' := T96) (f' := (mkF m 246 #[.val (.int p1), .val (.int p2), .val (.int p3), .val (.int p4), .val (.int p5), .val (.int (0 : Int32)), .val (.int ca), .val (.int cb), .val (.int cc), .val (.int cd), .val (.ref b_1), .val (.ref b3), .val (.ref b18), .val (.ref b36), .val (.ref b51), .val (.ref b63), .val (.ref b77), .unset, .unset, .unset] [])) (fun _ k => XS.icmpYes X96.here hx rfl (pc0 := 230) (pc' := 246) rfl (hb hby at_230) rfl (tlt (by decide : (0 : Int32) < (2 : Int32))).1 (by decide) (by decide) k) ?_
    refine Go.step (T' := T96) (f' := (mkF m 248 #[.val (.int p1), .val (.int p2), .val (.int p3), .val (.int p4), .val (.int p5), .val (.int (0 : Int32)), .val (.int ca), .val (.int cb), .val (.int cc), .val (.int cd), .val (.ref b_1), .val (.ref b3), .val (.ref b18), .val (.ref b36), .val (.ref b51), .val (.ref b63), .val (.ref b77), .unset, .unset, .unset] [(.int (0 : Int32))])) (fun _ k => XS.iload X96.here hx rfl (hb hby at_246) rfl k) ?_
    refine Go.step (T' := T96) (f' := (mkF m 249 #[.val (.int p1), .val (.int p2), .val (.int p3), .val (.int p4), .val (.int p5), .val (.int (0 : Int32)), .val (.int ca), .val (.int cb), .val (.int cc), .val (.int cd), .val (.ref b_1), .val (.ref b3), .val (.ref b18), .val (.ref b36), .val (.ref b51), .val (.ref b63), .val (.ref b77), .unset, .unset, .unset] [(.int (3 : Int32)), (.int (0 : Int32))])) (fun _ k => XS.iconst X96.here hx rfl (hb hby at_248) k) ?_
    refine Go.step (T' := T96) (f' := (mkF m 265 #[.val (.int p1), .val (.int p2), .val (.int p3), .val (.int p4), .val (.int p5), .val (.int (0 : Int32)), .val (.int ca), .val (.int cb), .val (.int cc), .val (.int cd), .val (.ref b_1), .val (.ref b3), .val (.ref b18), .val (.ref b36), .val (.ref b51), .val (.ref b63), .val (.ref b77), .unset, .unset, .unset] [])) (fun _ k => XS.icmpYes X96.here hx rfl (pc0 := 249) (pc' := 265) rfl (hb hby at_249) rfl (tlt (by decide : (0 : Int32) < (3 : Int32))).1 (by decide) (by decide) k) ?_
    refine Go.step (T' := T96) (f' := (mkF m 266 #[.val (.int p1), .val (.int p2), .val (.int p3), .val (.int p4), .val (.int p5), .val (.int (0 : Int32)), .val (.int ca), .val (.int cb), .val (.int cc), .val (.int cd), .val (.ref b_1), .val (.ref b3), .val (.ref b18), .val (.ref b36), .val (.ref b51), .val (.ref b63), .val (.ref b77), .unset, .unset, .unset] [(.int p4)])) (fun _ k => XS.iloadN X96.here hx rfl (hb hby at_265) rfl k) ?_
    refine Go.step (T' := T96) (f' := (mkF m 267 #[.val (.int p1), .val (.int p2), .val (.int p3), .val (.int p4), .val (.int p5), .val (.int (0 : Int32)), .val (.int ca), .val (.int cb), .val (.int cc), .val (.int cd), .val (.ref b_1), .val (.ref b3), .val (.ref b18), .val (.ref b36), .val (.ref b51), .val (.ref b63), .val (.ref b77), .unset, .unset, .unset] [(.int (3 : Int32)), (.int p4)])) (fun _ k => XS.iconst X96.here hx rfl (hb hby at_266) k) ?_
    refine Go.step (T' := T96) (f' := (mkF m 268 #[.val (.int p1), .val (.int p2), .val (.int p3), .val (.int p4), .val (.int p5), .val (.int (0 : Int32)), .val (.int ca), .val (.int cb), .val (.int cc), .val (.int cd), .val (.ref b_1), .val (.ref b3), .val (.ref b18), .val (.ref b36), .val (.ref b51), .val (.ref b63), .val (.ref b77), .unset, .unset, .unset] [(.int (p4 &&& (3 : Int32)))])) (fun _ k => XS.iand X96.here hx rfl (hb hby at_267) rfl k) ?_
    refine Go.step (T' := T96) (f' := (mkF m 270 #[.val (.int p1), .val (.int p2), .val (.int p3), .val (.int p4), .val (.int p5), .val (.int (0 : Int32)), .val (.int ca), .val (.int cb), .val (.int cc), .val (.int cd), .val (.ref b_1), .val (.ref b3), .val (.ref b18), .val (.ref b36), .val (.ref b51), .val (.ref b63), .val (.ref b77), .val (.int (p4 &&& (3 : Int32))), .unset, .unset] [])) (fun _ k => XS.istore X96.here hx rfl (hb hby at_268) rfl (l' := #[.val (.int p1), .val (.int p2), .val (.int p3), .val (.int p4), .val (.int p5), .val (.int (0 : Int32)), .val (.int ca), .val (.int cb), .val (.int cc), .val (.int cd), .val (.ref b_1), .val (.ref b3), .val (.ref b18), .val (.ref b36), .val (.ref b51), .val (.ref b63), .val (.ref b77), .val (.int (p4 &&& (3 : Int32))), .unset, .unset]) rfl k) ?_
    refine Go.step (T' := T96) (f' := (mkF m 272 #[.val (.int p1), .val (.int p2), .val (.int p3), .val (.int p4), .val (.int p5), .val (.int (0 : Int32)), .val (.int ca), .val (.int cb), .val (.int cc), .val (.int cd), .val (.ref b_1), .val (.ref b3), .val (.ref b18), .val (.ref b36), .val (.ref b51), .val (.ref b63), .val (.ref b77), .val (.int (p4 &&& (3 : Int32))), .unset, .unset] [(.ref b77)])) (fun _ k => XS.aload X96.here hx rfl (hb hby at_270) rfl rfl k) ?_
    refine Go.step (T' := T96) (f' := (mkF m 273 #[.val (.int p1), .val (.int p2), .val (.int p3), .val (.int p4), .val (.int p5), .val (.int (0 : Int32)), .val (.int ca), .val (.int cb), .val (.int cc), .val (.int cd), .val (.ref b_1), .val (.ref b3), .val (.ref b18), .val (.ref b36), .val (.ref b51), .val (.ref b63), .val (.ref b77), .val (.int (p4 &&& (3 : Int32))), .unset, .unset] [(.int p3), (.ref b77)])) (fun _ k => XS.iloadN X96.here hx rfl (hb hby at_272) rfl k) ?_
    have q100 : Exa Z T96.heap b77 "com/example/fondskit/fondskit/xml/BoundAttributes" := (q97.keep Kq96)
    have q101 : Arv Z T96.heap l1_79 kl_79 (.object "java/lang/String") (8 : Int32) [(.ref b51), (.ref b51), (.ref b51), .null, .null, .null, .null, .null] .null := (r91_7.keep Kq96 (ninS (Ne.symm (Nat.ne_of_lt (Nat.lt_of_lt_of_le A77.lt r79_2))) nin0))
    obtain ⟨cq99, kq99, q99a, q99b, q99c⟩ := isOf hZ rfl q100
    obtain ⟨_, _, ⟨T99, L99, kk99, nn99⟩, -, X99, ⟨Lc99, hQ99, lq99, yq99, zq99⟩, st99⟩ := X96.virtualBack hx (y := (⟨"com/example/fondskit/fondskit/xml/BoundAttributes", "getLocalName", "(I)Ljava/lang/String;"⟩ : MethodName)) (z := (⟨"com/example/fondskit/fondskit/xml/BoundAttributes", "getLocalName", "(I)Ljava/lang/String;"⟩ : MethodName)) hown (mvT hZ (hw _ (List.mem_of_getElem? (i := 74) rfl))) (mvT hZ (hw _ (List.mem_of_getElem? (i := 75) rfl))) (notFace_of_selects (args := #[]) (mvT hZ (hw _ (List.mem_of_getElem? (i := 77) rfl)))) (mvT hZ (hw _ (List.mem_of_getElem? (i := 77) rfl))) (mvT hZ (hw _ (List.mem_of_getElem? (i := 76) rfl))) (by decide) (backOf (W := 0) (rmGl0 l Z a0 hw [] b77 p3 l1_79 kl_79 (.ref b51) (.ref b51) (.ref b51) .null .null .null .null .null T96.heap n0 Z98 q100 r96_4 r96_3 q101) hZ (hw _ (List.mem_of_getElem? (i := 78) rfl)) (hw _ (List.mem_of_getElem? (i := 47) rfl)) (by decide) (by decide)) q99a q99c (g := (mkF m 273 #[.val (.int p1), .val (.int p2), .val (.int p3), .val (.int p4), .val (.int p5), .val (.int (0 : Int32)), .val (.int ca), .val (.int cb), .val (.int cc), .val (.int cd), .val (.ref b_1), .val (.ref b3), .val (.ref b18), .val (.ref b36), .val (.ref b51), .val (.ref b63), .val (.ref b77), .val (.int (p4 &&& (3 : Int32))), .unset, .unset] [(.int p3), (.ref b77)])) rfl (by rw [hml]; rfl) (Steps.refl _) (argsL := [(.int p3)]) (rest := []) (lenOf pd_13 rfl) rfl (by show 2 * 0 + _ ≤ _; exact Nat.le_of_eq rfl) (hb hby at_273) (fun _ _ => ⟨rfl, rfl, (by decide : 19 + 0 ≤ _), (by decide : 69 + 0 ≤ _)⟩)
    dsimp only [Pt.U, Pt.locs, Pt.cells, Pt.slots] at X99 lq99 yq99 zq99 st99 hQ99
    subst yq99 zq99
    obtain ⟨rfl, Nq99, eh99⟩ := hQ99
    have N99 : Fr n0 L99 := by rw [lq99]; exact Fr.app N96 Nq99
    refine Go.step (T' := T99) (f' := (mkF m 276 #[.val (.int p1), .val (.int p2), .val (.int p3), .val (.int p4), .val (.int p5), .val (.int (0 : Int32)), .val (.int ca), .val (.int cb), .val (.int cc), .val (.int cd), .val (.ref b_1), .val (.ref b3), .val (.ref b18), .val (.ref b36), .val (.ref b51), .val (.ref b63), .val (.ref b77), .val (.int (p4 &&& (3 : Int32))), .unset, .unset] [(own_sel 0 .null .null .null p3)])) (fun _ k => st99.trans k) ?_
    have hr99 : ((own_sel 0 .null .null .null p3) : Value).isRef = true := own_selR rfl rfl rfl
    refine Go.step (T' := T99) (f' := (mkF m 278 #[.val (.int p1), .val (.int p2), .val (.int p3), .val (.int p4), .val (.int p5), .val (.int (0 : Int32)), .val (.int ca), .val (.int cb), .val (.int cc), .val (.int cd), .val (.ref b_1), .val (.ref b3), .val (.ref b18), .val (.ref b36), .val (.ref b51), .val (.ref b63), .val (.ref b77), .val (.int (p4 &&& (3 : Int32))), .unset, .unset] [(.ref b63), (own_sel 0 .null .null .null p3)])) (fun _ k => XS.aload X99.here hx rfl (hb hby at_276) rfl rfl k) ?_
    refine Go.step (T' := T99) (f' := (mkF m 280 #[.val (.int p1), .val (.int p2), .val (.int p3), .val (.int p4), .val (.int p5), .val (.int (0 : Int32)), .val (.int ca), .val (.int cb), .val (.int cc), .val (.int cd), .val (.ref b_1), .val (.ref b3), .val (.ref b18), .val (.ref b36), .val (.ref b51), .val (.ref b63), .val (.ref b77), .val (.int (p4 &&& (3 : Int32))), .unset, .unset] [(.int (0 : Int32)), (.ref b63), (own_sel 0 .null .null .null p3)])) (fun _ k => XS.iload X99.here hx rfl (hb hby at_278) rfl k) ?_
    refine Go.step (T' := T99) (f' := (mkF m 281 #[.val (.int p1), .val (.int p2), .val (.int p3), .val (.int p4), .val (.int p5), .val (.int (0 : Int32)), .val (.int ca), .val (.int cb), .val (.int cc), .val (.int cd), .val (.ref b_1), .val (.ref b3), .val (.ref b18), .val (.ref b36), .val (.ref b51), .val (.ref b63), .val (.ref b77), .val (.int (p4 &&& (3 : Int32))), .unset, .unset] [(.int p3), (.int (0 : Int32)), (.ref b63), (own_sel 0 .null .null .null p3)])) (fun _ k => XS.iloadN X99.here hx rfl (hb hby at_280) rfl k) ?_
    have q103 : Arv Z T96.heap b63 k63 (.object "java/lang/String") (3 : Int32) [(.ref b_1), (.ref b3), (.ref b18)] .null := ((((((Va74.ext E77).keep Kq79 (ninS (Nat.ne_of_lt (Nat.lt_of_lt_of_le Va74.lt (Nat.le_of_eq g77.symm))) nin0)).keep Kq81 (ninS (Nat.ne_of_lt (Nat.lt_of_lt_of_le Va74.lt (Nat.le_of_eq g77.symm))) (ninS (Nat.ne_of_lt (Nat.lt_of_lt_of_le (Va74.ext E77).lt r79_0)) (ninS (Nat.ne_of_lt (Nat.lt_of_lt_of_le (Va74.ext E77).lt r79_1)) (ninS (Nat.ne_of_lt (Nat.lt_of_lt_of_le (Va74.ext E77).lt r79_2)) nin0))))).keep Kq86 (ninS (Nat.ne_of_lt (Nat.lt_of_lt_of_le Va74.lt (Nat.le_of_eq g77.symm))) (ninS (Nat.ne_of_lt (Nat.lt_of_lt_of_le (Va74.ext E77).lt r79_0)) (ninS (Nat.ne_of_lt (Nat.lt_of_lt_of_le (Va74.ext E77).lt r79_1)) (ninS (Nat.ne_of_lt (Nat.lt_of_lt_of_le (Va74.ext E77).lt r79_2)) nin0))))).keep Kq91 (ninS (Nat.ne_of_lt (Nat.lt_of_lt_of_le Va74.lt (Nat.le_of_eq g77.symm))) (ninS (Nat.ne_of_lt (Nat.lt_of_lt_of_le (Va74.ext E77).lt r79_0)) (ninS (Nat.ne_of_lt (Nat.lt_of_lt_of_le (Va74.ext E77).lt r79_1)) (ninS (Nat.ne_of_lt (Nat.lt_of_lt_of_le (Va74.ext E77).lt r79_2)) nin0))))).keep Kq96 (ninS (Nat.ne_of_lt (Nat.lt_of_lt_of_le Va74.lt (Nat.le_of_eq g77.symm))) nin0))
    obtain ⟨_, _, ⟨T102, L102, kk102, nn102⟩, -, X102, ⟨Lc102, hQ102, lq102, yq102, zq102⟩, st102⟩ := Jvm.LawKit.callS X99 hx (y := (⟨"com/example/fondskit/fondskit/xml/BoundAttributesGetLocalNamePinLaw", "expected", "([Ljava/lang/String;II)Ljava/lang/String;"⟩ : MethodName)) hown (mvT hZ (hw _ (List.mem_of_getElem? (i := 83) rfl))) (mvT hZ (hw _ (List.mem_of_getElem? (i := 84) rfl))) (mvT hZ (hw _ (List.mem_of_getElem? (i := 85) rfl))) (mvT hZ (hw _ (List.mem_of_getElem? (i := 86) rfl))) (by decide) (backOf (W := 1) (rmEp0 l Z a0 hw [] b63 p3 k63 (.ref b_1) (.ref b3) (.ref b18) T96.heap n0 Z98 q103) hZ (hw _ (List.mem_of_getElem? (i := 86) rfl)) (hw _ (List.mem_of_getElem? (i := 85) rfl)) (by decide) (by decide)) (g := (mkF m 281 #[.val (.int p1), .val (.int p2), .val (.int p3), .val (.int p4), .val (.int p5), .val (.int (0 : Int32)), .val (.int ca), .val (.int cb), .val (.int cc), .val (.int cd), .val (.ref b_1), .val (.ref b3), .val (.ref b18), .val (.ref b36), .val (.ref b51), .val (.ref b63), .val (.ref b77), .val (.int (p4 &&& (3 : Int32))), .unset, .unset] [(.int p3), (.int (0 : Int32)), (.ref b63), (own_sel 0 .null .null .null p3)])) rfl (by rw [hml]; rfl) (argsL := [(.ref b63), (.int (0 : Int32)), (.int p3)]) (rest := [(own_sel 0 .null .null .null p3)]) (lenOf pd_14 rfl) rfl (by show 2 * 0 + _ ≤ _; simp only [List.map_cons, List.map_nil, XT.cat1 hr99]; exact Nat.le_of_eq rfl) (hb hby at_281) (fun _ _ => ⟨rfl, eh99, (by decide : 19 + 0 ≤ _), (by decide : 69 + 0 ≤ _)⟩)
    dsimp only [Pt.U, Pt.locs, Pt.cells, Pt.slots] at X102 lq102 yq102 zq102 st102 hQ102
    subst yq102 zq102
    obtain ⟨rfl, Nq102, eh102⟩ := hQ102
    have N102 : Fr n0 L102 := by rw [lq102]; exact Fr.app N99 Nq102
    refine Go.step (T' := T102) (f' := (mkF m 284 #[.val (.int p1), .val (.int p2), .val (.int p3), .val (.int p4), .val (.int p5), .val (.int (0 : Int32)), .val (.int ca), .val (.int cb), .val (.int cc), .val (.int cd), .val (.ref b_1), .val (.ref b3), .val (.ref b18), .val (.ref b36), .val (.ref b51), .val (.ref b63), .val (.ref b77), .val (.int (p4 &&& (3 : Int32))), .unset, .unset] [(own_sel 0 .null .null .null p3), (own_sel 0 .null .null .null p3)])) st102 ?_
    have hr102 : ((own_sel 0 .null .null .null p3) : Value).isRef = true := own_selR rfl rfl rfl
    refine Go.step (T' := T102) (f' := (mkF m 287 #[.val (.int p1), .val (.int p2), .val (.int p3), .val (.int p4), .val (.int p5), .val (.int (0 : Int32)), .val (.int ca), .val (.int cb), .val (.int cc), .val (.int cd), .val (.ref b_1), .val (.ref b3), .val (.ref b18), .val (.ref b36), .val (.ref b51), .val (.ref b63), .val (.ref b77), .val (.int (p4 &&& (3 : Int32))), .unset, .unset] [])) (fun _ k => Jvm.RoadKit.acmp (g := (mkF m 284 #[.val (.int p1), .val (.int p2), .val (.int p3), .val (.int p4), .val (.int p5), .val (.int (0 : Int32)), .val (.int ca), .val (.int cb), .val (.int cc), .val (.int cd), .val (.ref b_1), .val (.ref b3), .val (.ref b18), .val (.ref b36), .val (.ref b51), .val (.ref b63), .val (.ref b77), .val (.int (p4 &&& (3 : Int32))), .unset, .unset] [(own_sel 0 .null .null .null p3), (own_sel 0 .null .null .null p3)])) X102 hx rfl hr102 hr102 (pc0 := 284) (pc' := 287) (same := true) rfl (hb hby at_284) rfl (decide_eq_true rfl) (by decide) (by decide) k) ?_
    refine Go.step (T' := T102) (f' := (mkF m 288 #[.val (.int p1), .val (.int p2), .val (.int p3), .val (.int p4), .val (.int p5), .val (.int (0 : Int32)), .val (.int ca), .val (.int cb), .val (.int cc), .val (.int cd), .val (.ref b_1), .val (.ref b3), .val (.ref b18), .val (.ref b36), .val (.ref b51), .val (.ref b63), .val (.ref b77), .val (.int (p4 &&& (3 : Int32))), .unset, .unset] [(.int (1 : Int32))])) (fun _ k => XS.iconst X102.here hx rfl (hb hby at_287) k) ?_
    refine Go.step (T' := T102) (f' := (mkF m 292 #[.val (.int p1), .val (.int p2), .val (.int p3), .val (.int p4), .val (.int p5), .val (.int (0 : Int32)), .val (.int ca), .val (.int cb), .val (.int cc), .val (.int cd), .val (.ref b_1), .val (.ref b3), .val (.ref b18), .val (.ref b36), .val (.ref b51), .val (.ref b63), .val (.ref b77), .val (.int (p4 &&& (3 : Int32))), .unset, .unset] [(.int (1 : Int32))])) (fun _ k => XS.goto X102.here hx rfl (pc0 := 288) (pc' := 292) rfl (hb hby at_288) (by decide) (by decide) k) ?_
    refine Go.step (T' := T102) (f' := (mkF m 294 #[.val (.int p1), .val (.int p2), .val (.int p3), .val (.int p4), .val (.int p5), .val (.int (0 : Int32)), .val (.int ca), .val (.int cb), .val (.int cc), .val (.int cd), .val (.ref b_1), .val (.ref b3), .val (.ref b18), .val (.ref b36), .val (.ref b51), .val (.ref b63), .val (.ref b77), .val (.int (p4 &&& (3 : Int32))), .val (.int (1 : Int32)), .unset] [])) (fun _ k => XS.istore X102.here hx rfl (hb hby at_292) rfl (l' := #[.val (.int p1), .val (.int p2), .val (.int p3), .val (.int p4), .val (.int p5), .val (.int (0 : Int32)), .val (.int ca), .val (.int cb), .val (.int cc), .val (.int cd), .val (.ref b_1), .val (.ref b3), .val (.ref b18), .val (.ref b36), .val (.ref b51), .val (.ref b63), .val (.ref b77), .val (.int (p4 &&& (3 : Int32))), .val (.int (1 : Int32)), .unset]) rfl k) ?_
    refine Go.step (T' := T102) (f' := (mkF m 296 #[.val (.int p1), .val (.int p2), .val (.int p3), .val (.int p4), .val (.int p5), .val (.int (0 : Int32)), .val (.int ca), .val (.int cb), .val (.int cc), .val (.int cd), .val (.ref b_1), .val (.ref b3), .val (.ref b18), .val (.ref b36), .val (.ref b51), .val (.ref b63), .val (.ref b77), .val (.int (p4 &&& (3 : Int32))), .val (.int (1 : Int32)), .unset] [(.ref b77)])) (fun _ k => XS.aload X102.here hx rfl (hb hby at_294) rfl rfl k) ?_
    refine Go.step (T' := T102) (f' := (mkF m 298 #[.val (.int p1), .val (.int p2), .val (.int p3), .val (.int p4), .val (.int p5), .val (.int (0 : Int32)), .val (.int ca), .val (.int cb), .val (.int cc), .val (.int cd), .val (.ref b_1), .val (.ref b3), .val (.ref b18), .val (.ref b36), .val (.ref b51), .val (.ref b63), .val (.ref b77), .val (.int (p4 &&& (3 : Int32))), .val (.int (1 : Int32)), .unset] [(.int (p4 &&& (3 : Int32))), (.ref b77)])) (fun _ k => XS.iload X102.here hx rfl (hb hby at_296) rfl k) ?_
    obtain ⟨cq104, kq104, q104a, q104b, q104c⟩ := isOf hZ eh102 q100
    obtain ⟨_, _, ⟨T104, L104, kk104, nn104⟩, -, X104, ⟨Lc104, hQ104, lq104, yq104, zq104⟩, st104⟩ := X102.virtualBack hx (y := (⟨"com/example/fondskit/fondskit/xml/BoundAttributes", "getLocalName", "(I)Ljava/lang/String;"⟩ : MethodName)) (z := (⟨"com/example/fondskit/fondskit/xml/BoundAttributes", "getLocalName", "(I)Ljava/lang/String;"⟩ : MethodName)) hown (mvT hZ (hw _ (List.mem_of_getElem? (i := 74) rfl))) (mvT hZ (hw _ (List.mem_of_getElem? (i := 75) rfl))) (notFace_of_selects (args := #[]) (mvT hZ (hw _ (List.mem_of_getElem? (i := 77) rfl)))) (mvT hZ (hw _ (List.mem_of_getElem? (i := 77) rfl))) (mvT hZ (hw _ (List.mem_of_getElem? (i := 76) rfl))) (by decide) (backOf (W := 0) (rmGl0 l Z a0 hw [] b77 (p4 &&& (3 : Int32)) l1_79 kl_79 (.ref b51) (.ref b51) (.ref b51) .null .null .null .null .null T96.heap n0 Z98 q100 r96_4 r96_3 q101) hZ (hw _ (List.mem_of_getElem? (i := 78) rfl)) (hw _ (List.mem_of_getElem? (i := 47) rfl)) (by decide) (by decide)) q104a q104c (g := (mkF m 298 #[.val (.int p1), .val (.int p2), .val (.int p3), .val (.int p4), .val (.int p5), .val (.int (0 : Int32)), .val (.int ca), .val (.int cb), .val (.int cc), .val (.int cd), .val (.ref b_1), .val (.ref b3), .val (.ref b18), .val (.ref b36), .val (.ref b51), .val (.ref b63), .val (.ref b77), .val (.int (p4 &&& (3 : Int32))), .val (.int (1 : Int32)), .unset] [(.int (p4 &&& (3 : Int32))), (.ref b77)])) rfl (by rw [hml]; rfl) (Steps.refl _) (argsL := [(.int (p4 &&& (3 : Int32)))]) (rest := []) (lenOf pd_13 rfl) rfl (by show 2 * 0 + _ ≤ _; exact Nat.le_of_eq rfl) (hb hby at_298) (fun _ _ => ⟨rfl, eh102, (by decide : 19 + 0 ≤ _), (by decide : 69 + 0 ≤ _)⟩)
    dsimp only [Pt.U, Pt.locs, Pt.cells, Pt.slots] at X104 lq104 yq104 zq104 st104 hQ104
    subst yq104 zq104
    obtain ⟨rfl, Nq104, eh104⟩ := hQ104
    have N104 : Fr n0 L104 := by rw [lq104]; exact Fr.app N102 Nq104
    refine Go.step (T' := T104) (f' := (mkF m 301 #[.val (.int p1), .val (.int p2), .val (.int p3), .val (.int p4), .val (.int p5), .val (.int (0 : Int32)), .val (.int ca), .val (.int cb), .val (.int cc), .val (.int cd), .val (.ref b_1), .val (.ref b3), .val (.ref b18), .val (.ref b36), .val (.ref b51), .val (.ref b63), .val (.ref b77), .val (.int (p4 &&& (3 : Int32))), .val (.int (1 : Int32)), .unset] [(own_sel 0 .null .null .null (p4 &&& (3 : Int32)))])) (fun _ k => st104.trans k) ?_
    have hr104 : ((own_sel 0 .null .null .null (p4 &&& (3 : Int32))) : Value).isRef = true := own_selR rfl rfl rfl
    refine Go.step (T' := T104) (f' := (mkF m 303 #[.val (.int p1), .val (.int p2), .val (.int p3), .val (.int p4), .val (.int p5), .val (.int (0 : Int32)), .val (.int ca), .val (.int cb), .val (.int cc), .val (.int cd), .val (.ref b_1), .val (.ref b3), .val (.ref b18), .val (.ref b36), .val (.ref b51), .val (.ref b63), .val (.ref b77), .val (.int (p4 &&& (3 : Int32))), .val (.int (1 : Int32)), .unset] [(.ref b63), (own_sel 0 .null .null .null (p4 &&& (3 : Int32)))])) (fun _ k => XS.aload X104.here hx rfl (hb hby at_301) rfl rfl k) ?_
    refine Go.step (T' := T104) (f' := (mkF m 305 #[.val (.int p1), .val (.int p2), .val (.int p3), .val (.int p4), .val (.int p5), .val (.int (0 : Int32)), .val (.int ca), .val (.int cb), .val (.int cc), .val (.int cd), .val (.ref b_1), .val (.ref b3), .val (.ref b18), .val (.ref b36), .val (.ref b51), .val (.ref b63), .val (.ref b77), .val (.int (p4 &&& (3 : Int32))), .val (.int (1 : Int32)), .unset] [(.int (0 : Int32)), (.ref b63), (own_sel 0 .null .null .null (p4 &&& (3 : Int32)))])) (fun _ k => XS.iload X104.here hx rfl (hb hby at_303) rfl k) ?_
    refine Go.step (T' := T104) (f' := (mkF m 307 #[.val (.int p1), .val (.int p2), .val (.int p3), .val (.int p4), .val (.int p5), .val (.int (0 : Int32)), .val (.int ca), .val (.int cb), .val (.int cc), .val (.int cd), .val (.ref b_1), .val (.ref b3), .val (.ref b18), .val (.ref b36), .val (.ref b51), .val (.ref b63), .val (.ref b77), .val (.int (p4 &&& (3 : Int32))), .val (.int (1 : Int32)), .unset] [(.int (p4 &&& (3 : Int32))), (.int (0 : Int32)), (.ref b63), (own_sel 0 .null .null .null (p4 &&& (3 : Int32)))])) (fun _ k => XS.iload X104.here hx rfl (hb hby at_305) rfl k) ?_
    obtain ⟨_, _, ⟨T105, L105, kk105, nn105⟩, -, X105, ⟨Lc105, hQ105, lq105, yq105, zq105⟩, st105⟩ := Jvm.LawKit.callS X104 hx (y := (⟨"com/example/fondskit/fondskit/xml/BoundAttributesGetLocalNamePinLaw", "expected", "([Ljava/lang/String;II)Ljava/lang/String;"⟩ : MethodName)) hown (mvT hZ (hw _ (List.mem_of_getElem? (i := 83) rfl))) (mvT hZ (hw _ (List.mem_of_getElem? (i := 84) rfl))) (mvT hZ (hw _ (List.mem_of_getElem? (i := 85) rfl))) (mvT hZ (hw _ (List.mem_of_getElem? (i := 86) rfl))) (by decide) (backOf (W := 1) (rmEp0 l Z a0 hw [] b63 (p4 &&& (3 : Int32)) k63 (.ref b_1) (.ref b3) (.ref b18) T96.heap n0 Z98 q103) hZ (hw _ (List.mem_of_getElem? (i := 86) rfl)) (hw _ (List.mem_of_getElem? (i := 85) rfl)) (by decide) (by decide)) (g := (mkF m 307 #[.val (.int p1), .val (.int p2), .val (.int p3), .val (.int p4), .val (.int p5), .val (.int (0 : Int32)), .val (.int ca), .val (.int cb), .val (.int cc), .val (.int cd), .val (.ref b_1), .val (.ref b3), .val (.ref b18), .val (.ref b36), .val (.ref b51), .val (.ref b63), .val (.ref b77), .val (.int (p4 &&& (3 : Int32))), .val (.int (1 : Int32)), .unset] [(.int (p4 &&& (3 : Int32))), (.int (0 : Int32)), (.ref b63), (own_sel 0 .null .null .null (p4 &&& (3 : Int32)))])) rfl (by rw [hml]; rfl) (argsL := [(.ref b63), (.int (0 : Int32)), (.int (p4 &&& (3 : Int32)))]) (rest := [(own_sel 0 .null .null .null (p4 &&& (3 : Int32)))]) (lenOf pd_14 rfl) rfl (by show 2 * 0 + _ ≤ _; simp only [List.map_cons, List.map_nil, XT.cat1 hr104]; exact Nat.le_of_eq rfl) (hb hby at_307) (fun _ _ => ⟨rfl, eh104, (by decide : 19 + 0 ≤ _), (by decide : 69 + 0 ≤ _)⟩)
    dsimp only [Pt.U, Pt.locs, Pt.cells, Pt.slots] at X105 lq105 yq105 zq105 st105 hQ105
    subst yq105 zq105
    obtain ⟨rfl, Nq105, eh105⟩ := hQ105
    have N105 : Fr n0 L105 := by rw [lq105]; exact Fr.app N104 Nq105
    refine Go.step (T' := T105) (f' := (mkF m 310 #[.val (.int p1), .val (.int p2), .val (.int p3), .val (.int p4), .val (.int p5), .val (.int (0 : Int32)), .val (.int ca), .val (.int cb), .val (.int cc), .val (.int cd), .val (.ref b_1), .val (.ref b3), .val (.ref b18), .val (.ref b36), .val (.ref b51), .val (.ref b63), .val (.ref b77), .val (.int (p4 &&& (3 : Int32))), .val (.int (1 : Int32)), .unset] [(own_sel 0 .null .null .null (p4 &&& (3 : Int32))), (own_sel 0 .null .null .null (p4 &&& (3 : Int32)))])) st105 ?_
    have hr105 : ((own_sel 0 .null .null .null (p4 &&& (3 : Int32))) : Value).isRef = true := own_selR rfl rfl rfl
    refine Go.step (T' := T105) (f' := (mkF m 313 #[.val (.int p1), .val (.int p2), .val (.int p3), .val (.int p4), .val (.int p5), .val (.int (0 : Int32)), .val (.int ca), .val (.int cb), .val (.int cc), .val (.int cd), .val (.ref b_1), .val (.ref b3), .val (.ref b18), .val (.ref b36), .val (.ref b51), .val (.ref b63), .val (.ref b77), .val (.int (p4 &&& (3 : Int32))), .val (.int (1 : Int32)), .unset] [])) (fun _ k => Jvm.RoadKit.acmp (g := (mkF m 310 #[.val (.int p1), .val (.int p2), .val (.int p3), .val (.int p4), .val (.int p5), .val (.int (0 : Int32)), .val (.int ca), .val (.int cb), .val (.int cc), .val (.int cd), .val (.ref b_1), .val (.ref b3), .val (.ref b18), .val (.ref b36), .val (.ref b51), .val (.ref b63), .val (.ref b77), .val (.int (p4 &&& (3 : Int32))), .val (.int (1 : Int32)), .unset] [(own_sel 0 .null .null .null (p4 &&& (3 : Int32))), (own_sel 0 .null .null .null (p4 &&& (3 : Int32)))])) X105 hx rfl hr105 hr105 (pc0 := 310) (pc' := 313) (same := true) rfl (hb hby at_310) rfl (decide_eq_true rfl) (by decide) (by decide) k) ?_
    refine Go.step (T' := T105) (f' := (mkF m 314 #[.val (.int p1), .val (.int p2), .val (.int p3), .val (.int p4), .val (.int p5), .val (.int (0 : Int32)), .val (.int ca), .val (.int cb), .val (.int cc), .val (.int cd), .val (.ref b_1), .val (.ref b3), .val (.ref b18), .val (.ref b36), .val (.ref b51), .val (.ref b63), .val (.ref b77), .val (.int (p4 &&& (3 : Int32))), .val (.int (1 : Int32)), .unset] [(.int (1 : Int32))])) (fun _ k => XS.iconst X105.here hx rfl (hb hby at_313) k) ?_
    refine Go.step (T' := T105) (f' := (mkF m 318 #[.val (.int p1), .val (.int p2), .val (.int p3), .val (.int p4), .val (.int p5), .val (.int (0 : Int32)), .val (.int ca), .val (.int cb), .val (.int cc), .val (.int cd), .val (.ref b_1), .val (.ref b3), .val (.ref b18), .val (.ref b36), .val (.ref b51), .val (.ref b63), .val (.ref b77), .val (.int (p4 &&& (3 : Int32))), .val (.int (1 : Int32)), .unset] [(.int (1 : Int32))])) (fun _ k => XS.goto X105.here hx rfl (pc0 := 314) (pc' := 318) rfl (hb hby at_314) (by decide) (by decide) k) ?_
    refine Go.step (T' := T105) (f' := (mkF m 320 #[.val (.int p1), .val (.int p2), .val (.int p3), .val (.int p4), .val (.int p5), .val (.int (0 : Int32)), .val (.int ca), .val (.int cb), .val (.int cc), .val (.int cd), .val (.ref b_1), .val (.ref b3), .val (.ref b18), .val (.ref b36), .val (.ref b51), .val (.ref b63), .val (.ref b77), .val (.int (p4 &&& (3 : Int32))), .val (.int (1 : Int32)), .val (.int (1 : Int32))] [])) (fun _ k => XS.istore X105.here hx rfl (hb hby at_318) rfl (l' := #[.val (.int p1), .val (.int p2), .val (.int p3), .val (.int p4), .val (.int p5), .val (.int (0 : Int32)), .val (.int ca), .val (.int cb), .val (.int cc), .val (.int cd), .val (.ref b_1), .val (.ref b3), .val (.ref b18), .val (.ref b36), .val (.ref b51), .val (.ref b63), .val (.ref b77), .val (.int (p4 &&& (3 : Int32))), .val (.int (1 : Int32)), .val (.int (1 : Int32))]) rfl k) ?_
    refine Go.step (T' := T105) (f' := (mkF m 322 #[.val (.int p1), .val (.int p2), .val (.int p3), .val (.int p4), .val (.int p5), .val (.int (0 : Int32)), .val (.int ca), .val (.int cb), .val (.int cc), .val (.int cd), .val (.ref b_1), .val (.ref b3), .val (.ref b18), .val (.ref b36), .val (.ref b51), .val (.ref b63), .val (.ref b77), .val (.int (p4 &&& (3 : Int32))), .val (.int (1 : Int32)), .val (.int (1 : Int32))] [(.int (1 : Int32))])) (fun _ k => XS.iload X105.here hx rfl (hb hby at_320) rfl k) ?_
    refine Go.step (T' := T105) (f' := (mkF m 325 #[.val (.int p1), .val (.int p2), .val (.int p3), .val (.int p4), .val (.int p5), .val (.int (0 : Int32)), .val (.int ca), .val (.int cb), .val (.int cc), .val (.int cd), .val (.ref b_1), .val (.ref b3), .val (.ref b18), .val (.ref b36), .val (.ref b51), .val (.ref b63), .val (.ref b77), .val (.int (p4 &&& (3 : Int32))), .val (.int (1 : Int32)), .val (.int (1 : Int32))] [])) (fun _ k => XS.ifNo X105.here hx rfl (hb hby at_322) rfl ((if0 _ _).trans (feq (by decide : ¬ ((1 : Int32) = (0 : Int32)))).1) k) ?_
    refine Go.step (T' := T105) (f' := (mkF m 327 #[.val (.int p1), .val (.int p2), .val (.int p3), .val (.int p4), .val (.int p5), .val (.int (0 : Int32)), .val (.int ca), .val (.int cb), .val (.int cc), .val (.int cd), .val (.ref b_1), .val (.ref b3), .val (.ref b18), .val (.ref b36), .val (.ref b51), .val (.ref b63), .val (.ref b77), .val (.int (p4 &&& (3 : Int32))), .val (.int (1 : Int32)), .val (.int (1 : Int32))] [(.int (1 : Int32))])) (fun _ k => XS.iload X105.here hx rfl (hb hby at_325) rfl k) ?_
    refine Go.step (T' := T105) (f' := (mkF m 330 #[.val (.int p1), .val (.int p2), .val (.int p3), .val (.int p4), .val (.int p5), .val (.int (0 : Int32)), .val (.int ca), .val (.int cb), .val (.int cc), .val (.int cd), .val (.ref b_1), .val (.ref b3), .val (.ref b18), .val (.ref b36), .val (.ref b51), .val (.ref b63), .val (.ref b77), .val (.int (p4 &&& (3 : Int32))), .val (.int (1 : Int32)), .val (.int (1 : Int32))] [])) (fun _ k => XS.ifNo X105.here hx rfl (hb hby at_327) rfl ((if0 _ _).trans (feq (by decide : ¬ ((1 : Int32) = (0 : Int32)))).1) k) ?_
    refine Go.step (T' := T105) (f' := (mkF m 331 #[.val (.int p1), .val (.int p2), .val (.int p3), .val (.int p4), .val (.int p5), .val (.int (0 : Int32)), .val (.int ca), .val (.int cb), .val (.int cc), .val (.int cd), .val (.ref b_1), .val (.ref b3), .val (.ref b18), .val (.ref b36), .val (.ref b51), .val (.ref b63), .val (.ref b77), .val (.int (p4 &&& (3 : Int32))), .val (.int (1 : Int32)), .val (.int (1 : Int32))] [(.int (1 : Int32))])) (fun _ k => XS.iconst X105.here hx rfl (hb hby at_330) k) ?_
    refine Go.step (T' := T105) (f' := (mkF m 335 #[.val (.int p1), .val (.int p2), .val (.int p3), .val (.int p4), .val (.int p5), .val (.int (0 : Int32)), .val (.int ca), .val (.int cb), .val (.int cc), .val (.int cd), .val (.ref b_1), .val (.ref b3), .val (.ref b18), .val (.ref b36), .val (.ref b51), .val (.ref b63), .val (.ref b77), .val (.int (p4 &&& (3 : Int32))), .val (.int (1 : Int32)), .val (.int (1 : Int32))] [(.int (1 : Int32))])) (fun _ k => XS.goto X105.here hx rfl (pc0 := 331) (pc' := 335) rfl (hb hby at_331) (by decide) (by decide) k) ?_
    refine goN X105 hx (t := .boolean) Bd.returns (by simp) Bd.notSynchronized (hb hby at_335) ?_ (by decide) (by decide)
    show Q_rm0 Z p1 p2 p3 p4 p5 cs h0 n0 _ T105.heap _
    rw [eh105]
    exact ⟨rfl, N105⟩
  · rw [hn]
    refine Go.step (T' := T96) (f' := (mkF m 212 #[.val (.int p1), .val (.int p2), .val (.int p3), .val (.int p4), .val (.int p5), .val (.int (1 : Int32)), .val (.int ca), .val (.int cb), .val (.int cc), .val (.int cd), .val (.ref b_1), .val (.ref b3), .val (.ref b18), .val (.ref b36), .val (.ref b51), .val (.ref b63), .val (.ref b77), .unset, .unset, .unset] [(.int (1 : Int32))])) (fun _ k => XS.iload X96.here hx rfl (hb hby at_210) rfl k) ?_
    refine Go.step (T' := T96) (f' := (mkF m 213 #[.val (.int p1), .val (.int p2), .val (.int p3), .val (.int p4), .val (.int p5), .val (.int (1 : Int32)), .val (.int ca), .val (.int cb), .val (.int cc), .val (.int cd), .val (.ref b_1), .val (.ref b3), .val (.ref b18), .val (.ref b36), .val (.ref b51), .val (.ref b63), .val (.ref b77), .unset, .unset, .unset] [(.int (1 : Int32)), (.int (1 : Int32))])) (fun _ k => XS.iconst X96.here hx rfl (hb hby at_212) k) ?_
    refine Go.step (T' := T96) (f' := (mkF m 216 #[.val (.int p1), .val (.int p2), .val (.int p3), .val (.int p4), .val (.int p5), .val (.int (1 : Int32)), .val (.int ca), .val (.int cb), .val (.int cc), .val (.int cd), .val (.ref b_1), .val (.ref b3), .val (.ref b18), .val (.ref b36), .val (.ref b51), .val (.ref b63), .val (.ref b77), .unset, .unset, .unset] [])) (fun _ k => XS.icmpNo X96.here hx rfl (hb hby at_213) rfl (flt (by decide : ¬ ((1 : Int32) < (1 : Int32)))).1 k) ?_
    refine Go.step (T' := T96) (f' := (mkF m 218 #[.val (.int p1), .val (.int p2), .val (.int p3), .val (.int p4), .val (.int p5), .val (.int (1 : Int32)), .val (.int ca), .val (.int cb), .val (.int cc), .val (.int cd), .val (.ref b_1), .val (.ref b3), .val (.ref b18), .val (.ref b36), .val (.ref b51), .val (.ref b63), .val (.ref b77), .unset, .unset, .unset] [(.ref b77)])) (fun _ k => XS.aload X96.here hx rfl (hb hby at_216) rfl rfl k) ?_
    refine Go.step (T' := T96) (f' := (mkF m 220 #[.val (.int p1), .val (.int p2), .val (.int p3), .val (.int p4), .val (.int p5), .val (.int (1 : Int32)), .val (.int ca), .val (.int cb), .val (.int cc), .val (.int cd), .val (.ref b_1), .val (.ref b3), .val (.ref b18), .val (.ref b36), .val (.ref b51), .val (.ref b63), .val (.ref b77), .unset, .unset, .unset] [(.int p5), (.ref b77)])) (fun _ k => XS.iload X96.here hx rfl (hb hby at_218) rfl k) ?_
    refine Go.step (T' := T96) (f' := (mkF m 222 #[.val (.int p1), .val (.int p2), .val (.int p3), .val (.int p4), .val (.int p5), .val (.int (1 : Int32)), .val (.int ca), .val (.int cb), .val (.int cc), .val (.int cd), .val (.ref b_1), .val (.ref b3), .val (.ref b18), .val (.ref b36), .val (.ref b51), .val (.ref b63), .val (.ref b77), .unset, .unset, .unset] [(.ref b36), (.int p5), (.ref b77)])) (fun _ k => XS.aload X96.here hx rfl (hb hby at_220) rfl rfl k) ?_
    refine Go.step (T' := T96) (f' := (mkF m 224 #[.val (.int p1), .val (.int p2), .val (.int p3), .val (.int p4), .val (.int p5), .val (.int (1 : Int32)), .val (.int ca), .val (.int cb), .val (.int cc), .val (.int cd), .val (.ref b_1), .val (.ref b3), .val (.ref b18), .val (.ref b36), .val (.ref b51), .val (.ref b63), .val (.ref b77), .unset, .unset, .unset] [(.ref b_1), (.ref b36), (.int p5), (.ref b77)])) (fun _ k => XS.aload X96.here hx rfl (hb hby at_222) rfl rfl k) ?_
    have q107 : Exa Z T96.heap b77 "com/example/fondskit/fondskit/xml/BoundAttributes" := (q97.keep Kq96)
    have q108 : Exa Z T96.heap b36 "java/lang/String" := ((q93.keep Kq91).keep Kq96)
    have q109 : Exa Z T96.heap b_1 "java/lang/String" := (((((((((q67.wr W66).wr W70).wr W74).ext E77).keep Kq79).keep Kq81).keep Kq86).keep Kq91).keep Kq96)
    have q110 : Arv Z T96.heap i_79 ki_79 .int (8 : Int32) [(.int p5), (.int p5), (.int p5), (.int (0 : Int32)), (.int (0 : Int32)), (.int (0 : Int32)), (.int (0 : Int32)), (.int (0 : Int32))] (.int (0 : Int32)) := (r91_5.keep Kq96 (ninS (Ne.symm (Nat.ne_of_lt (Nat.lt_of_lt_of_le A77.lt r79_0))) nin0))
    have q111 : Arv Z T96.heap n_79 kn_79 (.object "java/lang/String") (8 : Int32) [(.ref b36), (.ref b36), (.ref b36), .null, .null, .null, .null, .null] .null := (r91_6.keep Kq96 (ninS (Ne.symm (Nat.ne_of_lt (Nat.lt_of_lt_of_le A77.lt r79_1))) nin0))
    have q112 : Arv Z T96.heap l1_79 kl_79 (.object "java/lang/String") (8 : Int32) [(.ref b51), (.ref b51), (.ref b51), .null, .null, .null, .null, .null] .null := (r91_7.keep Kq96 (ninS (Ne.symm (Nat.ne_of_lt (Nat.lt_of_lt_of_le A77.lt r79_2))) nin0))
    obtain ⟨cq106, kq106, q106a, q106b, q106c⟩ := isOf hZ rfl q107
    obtain ⟨_, _, ⟨T106, L106, kk106, nn106⟩, -, X106, ⟨Lc106, hQ106, lq106, yq106, zq106⟩, st106⟩ := X96.virtualBack hx (y := (⟨"com/example/fondskit/fondskit/xml/BoundAttributes", "add", "(ILjava/lang/String;Ljava/lang/String;)V"⟩ : MethodName)) (z := (⟨"com/example/fondskit/fondskit/xml/BoundAttributes", "add", "(ILjava/lang/String;Ljava/lang/String;)V"⟩ : MethodName)) hown (mvT hZ (hw _ (List.mem_of_getElem? (i := 60) rfl))) (mvT hZ (hw _ (List.mem_of_getElem? (i := 61) rfl))) (notFace_of_selects (args := #[]) (mvT hZ (hw _ (List.mem_of_getElem? (i := 63) rfl)))) (mvT hZ (hw _ (List.mem_of_getElem? (i := 63) rfl))) (mvT hZ (hw _ (List.mem_of_getElem? (i := 62) rfl))) (by decide) (backOf (W := 0) (rmAdd0 l Z a0 hw [] b77 p5 b36 b_1 i_79 n_79 l1_79 ki_79 kn_79 kl_79 (.int p5) (.int p5) (.int p5) (.int (0 : Int32)) (.int (0 : Int32)) (.int (0 : Int32)) (.int (0 : Int32)) (.int (0 : Int32)) (.ref b36) (.ref b36) (.ref b36) .null .null .null .null .null (.ref b51) (.ref b51) (.ref b51) .null .null .null .null .null T96.heap n0 Z98 q107 q108 q109 r96_0 r96_1 r96_2 r96_3 r96_4 q110 q111 q112 (Ne.symm (Nat.ne_of_lt (Nat.lt_of_lt_of_le A77.lt r79_0))) (Ne.symm (Nat.ne_of_lt (Nat.lt_of_lt_of_le A77.lt r79_1))) (Ne.symm (Nat.ne_of_lt (Nat.lt_of_lt_of_le A77.lt r79_2))) r79_3 r79_4 r79_5 r79_6 r79_7 g_b77 g_i_79 g_n_79 g_l1_79) hZ (hw _ (List.mem_of_getElem? (i := 64) rfl)) (hw _ (List.mem_of_getElem? (i := 47) rfl)) (by decide) (by decide)) q106a q106c (g := (mkF m 224 #[.val (.int p1), .val (.int p2), .val (.int p3), .val (.int p4), .val (.int p5), .val (.int (1 : Int32)), .val (.int ca), .val (.int cb), .val (.int cc), .val (.int cd), .val (.ref b_1), .val (.ref b3), .val (.ref b18), .val (.ref b36), .val (.ref b51), .val (.ref b63), .val (.ref b77), .unset, .unset, .unset] [(.ref b_1), (.ref b36), (.int p5), (.ref b77)])) rfl (by rw [hml]; rfl) (Steps.refl _) (argsL := [(.int p5), (.ref b36), (.ref b_1)]) (rest := []) (lenOf pd_11 rfl) rfl (by show 2 * 0 + _ ≤ _; exact Nat.le_of_eq rfl) (hb hby at_224) (fun _ _ => ⟨rfl, rfl, (by decide : 19 + 0 ≤ _), (by decide : 69 + 0 ≤ _)⟩)
    dsimp only [Pt.U, Pt.locs, Pt.cells, Pt.slots] at X106 lq106 yq106 zq106 st106 hQ106
    subst yq106 zq106
    obtain ⟨rfl, Nq106, Kq106, r106_0, r106_1, r106_2, r106_3, r106_4, r106_5, r106_6, r106_7⟩ := hQ106
    have N106 : Fr n0 L106 := by rw [lq106]; exact Fr.app N96 Nq106
    have Z113 : n0 ≤ T106.heap.size := Nat.le_trans Z98 Kq106.1
    have O113 : Old Z n0 T106.heap := O98.keep Kq106 (allS g_b77 (allS g_i_79 (allS g_n_79 (allS g_l1_79 all0))))
    refine Go.step (T' := T106) (f' := (mkF m 227 #[.val (.int p1), .val (.int p2), .val (.int p3), .val (.int p4), .val (.int p5), .val (.int (1 : Int32)), .val (.int ca), .val (.int cb), .val (.int cc), .val (.int cd), .val (.ref b_1), .val (.ref b3), .val (.ref b18), .val (.ref b36), .val (.ref b51), .val (.ref b63), .val (.ref b77), .unset, .unset, .unset] [])) (fun _ k => st106.trans k) ?_
    refine Go.step (T' := T106) (f' := (mkF m 229 #[.val (.int p1), .val (.int p2), .val (.int p3), .val (.int p4), .val (.int p5), .val (.int (1 : Int32)), .val (.int ca), .val (.int cb), .val (.int cc), .val (.int cd), .val (.ref b_1), .val (.ref b3), .val (.ref b18), .val (.ref b36), .val (.ref b51), .val (.ref b63), .val (.ref b77), .unset, .unset, .unset] [(.int (1 : Int32))])) (fun _ k => XS.iload X106.here hx rfl (hb hby at_227) rfl k) ?_
    refine Go.step (T' := T106) (f' := (mkF m 230 #[.val (.int p1), .val (.int p2), .val (.int p3), .val (.int p4), .val (.int p5), .val (.int (1 : Int32)), .val (.int ca), .val (.int cb), .val (.int cc), .val (.int cd), .val (.ref b_1), .val (.ref b3), .val (.ref b18), .val (.ref b36), .val (.ref b51), .val (.ref b63), .val (.ref b77), .unset, .unset, .unset] [(.int (2 : Int32)), (.int (1 : Int32))])) (fun _ k => XS.iconst X106.here hx rfl (hb hby at_229) k) ?_
    refine Go.step (T' := T106) (f' := (mkF m 246 #[.val (.int p1), .val (.int p2), .val (.int p3), .val (.int p4), .val (.int p5), .val (.int (1 : Int32)), .val (.int ca), .val (.int cb), .val (.int cc), .val (.int cd), .val (.ref b_1), .val (.ref b3), .val (.ref b18), .val (.ref b36), .val (.ref b51), .val (.ref b63), .val (.ref b77), .unset, .unset, .unset] [])) (fun _ k => XS.icmpYes X106.here hx rfl (pc0 := 230) (pc' := 246) rfl (hb hby at_230) rfl (tlt (by decide : (1 : Int32) < (2 : Int32))).1 (by decide) (by decide) k) ?_
    refine Go.step (T' := T106) (f' := (mkF m 248 #[.val (.int p1), .val (.int p2), .val (.int p3), .val (.int p4), .val (.int p5), .val (.int (1 : Int32)), .val (.int ca), .val (.int cb), .val (.int cc), .val (.int cd), .val (.ref b_1), .val (.ref b3), .val (.ref b18), .val (.ref b36), .val (.ref b51), .val (.ref b63), .val (.ref b77), .unset, .unset, .unset] [(.int (1 : Int32))])) (fun _ k => XS.iload X106.here hx rfl (hb hby at_246) rfl k) ?_
    refine Go.step (T' := T106) (f' := (mkF m 249 #[.val (.int p1), .val (.int p2), .val (.int p3), .val (.int p4), .val (.int p5), .val (.int (1 : Int32)), .val (.int ca), .val (.int cb), .val (.int cc), .val (.int cd), .val (.ref b_1), .val (.ref b3), .val (.ref b18), .val (.ref b36), .val (.ref b51), .val (.ref b63), .val (.ref b77), .unset, .unset, .unset] [(.int (3 : Int32)), (.int (1 : Int32))])) (fun _ k => XS.iconst X106.here hx rfl (hb hby at_248) k) ?_
    refine Go.step (T' := T106) (f' := (mkF m 265 #[.val (.int p1), .val (.int p2), .val (.int p3), .val (.int p4), .val (.int p5), .val (.int (1 : Int32)), .val (.int ca), .val (.int cb), .val (.int cc), .val (.int cd), .val (.ref b_1), .val (.ref b3), .val (.ref b18), .val (.ref b36), .val (.ref b51), .val (.ref b63), .val (.ref b77), .unset, .unset, .unset] [])) (fun _ k => XS.icmpYes X106.here hx rfl (pc0 := 249) (pc' := 265) rfl (hb hby at_249) rfl (tlt (by decide : (1 : Int32) < (3 : Int32))).1 (by decide) (by decide) k) ?_
    refine Go.step (T' := T106) (f' := (mkF m 266 #[.val (.int p1), .val (.int p2), .val (.int p3), .val (.int p4), .val (.int p5), .val (.int (1 : Int32)), .val (.int ca), .val (.int cb), .val (.int cc), .val (.int cd), .val (.ref b_1), .val (.ref b3), .val (.ref b18), .val (.ref b36), .val (.ref b51), .val (.ref b63), .val (.ref b77), .unset, .unset, .unset] [(.int p4)])) (fun _ k => XS.iloadN X106.here hx rfl (hb hby at_265) rfl k) ?_
    refine Go.step (T' := T106) (f' := (mkF m 267 #[.val (.int p1), .val (.int p2), .val (.int p3), .val (.int p4), .val (.int p5), .val (.int (1 : Int32)), .val (.int ca), .val (.int cb), .val (.int cc), .val (.int cd), .val (.ref b_1), .val (.ref b3), .val (.ref b18), .val (.ref b36), .val (.ref b51), .val (.ref b63), .val (.ref b77), .unset, .unset, .unset] [(.int (3 : Int32)), (.int p4)])) (fun _ k => XS.iconst X106.here hx rfl (hb hby at_266) k) ?_
    refine Go.step (T' := T106) (f' := (mkF m 268 #[.val (.int p1), .val (.int p2), .val (.int p3), .val (.int p4), .val (.int p5), .val (.int (1 : Int32)), .val (.int ca), .val (.int cb), .val (.int cc), .val (.int cd), .val (.ref b_1), .val (.ref b3), .val (.ref b18), .val (.ref b36), .val (.ref b51), .val (.ref b63), .val (.ref b77), .unset, .unset, .unset] [(.int (p4 &&& (3 : Int32)))])) (fun _ k => XS.iand X106.here hx rfl (hb hby at_267) rfl k) ?_
    refine Go.step (T' := T106) (f' := (mkF m 270 #[.val (.int p1), .val (.int p2), .val (.int p3), .val (.int p4), .val (.int p5), .val (.int (1 : Int32)), .val (.int ca), .val (.int cb), .val (.int cc), .val (.int cd), .val (.ref b_1), .val (.ref b3), .val (.ref b18), .val (.ref b36), .val (.ref b51), .val (.ref b63), .val (.ref b77), .val (.int (p4 &&& (3 : Int32))), .unset, .unset] [])) (fun _ k => XS.istore X106.here hx rfl (hb hby at_268) rfl (l' := #[.val (.int p1), .val (.int p2), .val (.int p3), .val (.int p4), .val (.int p5), .val (.int (1 : Int32)), .val (.int ca), .val (.int cb), .val (.int cc), .val (.int cd), .val (.ref b_1), .val (.ref b3), .val (.ref b18), .val (.ref b36), .val (.ref b51), .val (.ref b63), .val (.ref b77), .val (.int (p4 &&& (3 : Int32))), .unset, .unset]) rfl k) ?_
    refine Go.step (T' := T106) (f' := (mkF m 272 #[.val (.int p1), .val (.int p2), .val (.int p3), .val (.int p4), .val (.int p5), .val (.int (1 : Int32)), .val (.int ca), .val (.int cb), .val (.int cc), .val (.int cd), .val (.ref b_1), .val (.ref b3), .val (.ref b18), .val (.ref b36), .val (.ref b51), .val (.ref b63), .val (.ref b77), .val (.int (p4 &&& (3 : Int32))), .unset, .unset] [(.ref b77)])) (fun _ k => XS.aload X106.here hx rfl (hb hby at_270) rfl rfl k) ?_
    refine Go.step (T' := T106) (f' := (mkF m 273 #[.val (.int p1), .val (.int p2), .val (.int p3), .val (.int p4), .val (.int p5), .val (.int (1 : Int32)), .val (.int ca), .val (.int cb), .val (.int cc), .val (.int cd), .val (.ref b_1), .val (.ref b3), .val (.ref b18), .val (.ref b36), .val (.ref b51), .val (.ref b63), .val (.ref b77), .val (.int (p4 &&& (3 : Int32))), .unset, .unset] [(.int p3), (.ref b77)])) (fun _ k => XS.iloadN X106.here hx rfl (hb hby at_272) rfl k) ?_
    have q115 : Exa Z T106.heap b77 "com/example/fondskit/fondskit/xml/BoundAttributes" := (q107.keep Kq106)
    obtain ⟨cq114, kq114, q114a, q114b, q114c⟩ := isOf hZ rfl q115
    obtain ⟨_, _, ⟨T114, L114, kk114, nn114⟩, -, X114, ⟨Lc114, hQ114, lq114, yq114, zq114⟩, st114⟩ := X106.virtualBack hx (y := (⟨"com/example/fondskit/fondskit/xml/BoundAttributes", "getLocalName", "(I)Ljava/lang/String;"⟩ : MethodName)) (z := (⟨"com/example/fondskit/fondskit/xml/BoundAttributes", "getLocalName", "(I)Ljava/lang/String;"⟩ : MethodName)) hown (mvT hZ (hw _ (List.mem_of_getElem? (i := 74) rfl))) (mvT hZ (hw _ (List.mem_of_getElem? (i := 75) rfl))) (notFace_of_selects (args := #[]) (mvT hZ (hw _ (List.mem_of_getElem? (i := 77) rfl)))) (mvT hZ (hw _ (List.mem_of_getElem? (i := 77) rfl))) (mvT hZ (hw _ (List.mem_of_getElem? (i := 76) rfl))) (by decide) (backOf (W := 0) (rmGl1 l Z a0 hw [] b77 p3 l1_79 kl_79 (.ref b_1) (.ref b51) (.ref b51) .null .null .null .null .null T106.heap n0 Z113 q115 r106_4 r106_3 r106_7) hZ (hw _ (List.mem_of_getElem? (i := 78) rfl)) (hw _ (List.mem_of_getElem? (i := 47) rfl)) (by decide) (by decide)) q114a q114c (g := (mkF m 273 #[.val (.int p1), .val (.int p2), .val (.int p3), .val (.int p4), .val (.int p5), .val (.int (1 : Int32)), .val (.int ca), .val (.int cb), .val (.int cc), .val (.int cd), .val (.ref b_1), .val (.ref b3), .val (.ref b18), .val (.ref b36), .val (.ref b51), .val (.ref b63), .val (.ref b77), .val (.int (p4 &&& (3 : Int32))), .unset, .unset] [(.int p3), (.ref b77)])) rfl (by rw [hml]; rfl) (Steps.refl _) (argsL := [(.int p3)]) (rest := []) (lenOf pd_13 rfl) rfl (by show 2 * 0 + _ ≤ _; exact Nat.le_of_eq rfl) (hb hby at_273) (fun _ _ => ⟨rfl, rfl, (by decide : 19 + 0 ≤ _), (by decide : 69 + 0 ≤ _)⟩)
    dsimp only [Pt.U, Pt.locs, Pt.cells, Pt.slots] at X114 lq114 yq114 zq114 st114 hQ114
    subst yq114 zq114
    obtain ⟨rfl, Nq114, eh114⟩ := hQ114
    have N114 : Fr n0 L114 := by rw [lq114]; exact Fr.app N106 Nq114
    refine Go.step (T' := T114) (f' := (mkF m 276 #[.val (.int p1), .val (.int p2), .val (.int p3), .val (.int p4), .val (.int p5), .val (.int (1 : Int32)), .val (.int ca), .val (.int cb), .val (.int cc), .val (.int cd), .val (.ref b_1), .val (.ref b3), .val (.ref b18), .val (.ref b36), .val (.ref b51), .val (.ref b63), .val (.ref b77), .val (.int (p4 &&& (3 : Int32))), .unset, .unset] [(own_sel 1 (.ref b_1) .null .null p3)])) (fun _ k => st114.trans k) ?_
    have hr114 : ((own_sel 1 (.ref b_1) .null .null p3) : Value).isRef = true := own_selR rfl rfl rfl
    refine Go.step (T' := T114) (f' := (mkF m 278 #[.val (.int p1), .val (.int p2), .val (.int p3), .val (.int p4), .val (.int p5), .val (.int (1 : Int32)), .val (.int ca), .val (.int cb), .val (.int cc), .val (.int cd), .val (.ref b_1), .val (.ref b3), .val (.ref b18), .val (.ref b36), .val (.ref b51), .val (.ref b63), .val (.ref b77), .val (.int (p4 &&& (3 : Int32))), .unset, .unset] [(.ref b63), (own_sel 1 (.ref b_1) .null .null p3)])) (fun _ k => XS.aload X114.here hx rfl (hb hby at_276) rfl rfl k) ?_
    refine Go.step (T' := T114) (f' := (mkF m 280 #[.val (.int p1), .val (.int p2), .val (.int p3), .val (.int p4), .val (.int p5), .val (.int (1 : Int32)), .val (.int ca), .val (.int cb), .val (.int cc), .val (.int cd), .val (.ref b_1), .val (.ref b3), .val (.ref b18), .val (.ref b36), .val (.ref b51), .val (.ref b63), .val (.ref b77), .val (.int (p4 &&& (3 : Int32))), .unset, .unset] [(.int (1 : Int32)), (.ref b63), (own_sel 1 (.ref b_1) .null .null p3)])) (fun _ k => XS.iload X114.here hx rfl (hb hby at_278) rfl k) ?_
    refine Go.step (T' := T114) (f' := (mkF m 281 #[.val (.int p1), .val (.int p2), .val (.int p3), .val (.int p4), .val (.int p5), .val (.int (1 : Int32)), .val (.int ca), .val (.int cb), .val (.int cc), .val (.int cd), .val (.ref b_1), .val (.ref b3), .val (.ref b18), .val (.ref b36), .val (.ref b51), .val (.ref b63), .val (.ref b77), .val (.int (p4 &&& (3 : Int32))), .unset, .unset] [(.int p3), (.int (1 : Int32)), (.ref b63), (own_sel 1 (.ref b_1) .null .null p3)])) (fun _ k => XS.iloadN X114.here hx rfl (hb hby at_280) rfl k) ?_
    have q117 : Arv Z T106.heap b63 k63 (.object "java/lang/String") (3 : Int32) [(.ref b_1), (.ref b3), (.ref b18)] .null := (((((((Va74.ext E77).keep Kq79 (ninS (Nat.ne_of_lt (Nat.lt_of_lt_of_le Va74.lt (Nat.le_of_eq g77.symm))) nin0)).keep Kq81 (ninS (Nat.ne_of_lt (Nat.lt_of_lt_of_le Va74.lt (Nat.le_of_eq g77.symm))) (ninS (Nat.ne_of_lt (Nat.lt_of_lt_of_le (Va74.ext E77).lt r79_0)) (ninS (Nat.ne_of_lt (Nat.lt_of_lt_of_le (Va74.ext E77).lt r79_1)) (ninS (Nat.ne_of_lt (Nat.lt_of_lt_of_le (Va74.ext E77).lt r79_2)) nin0))))).keep Kq86 (ninS (Nat.ne_of_lt (Nat.lt_of_lt_of_le Va74.lt (Nat.le_of_eq g77.symm))) (ninS (Nat.ne_of_lt (Nat.lt_of_lt_of_le (Va74.ext E77).lt r79_0)) (ninS (Nat.ne_of_lt (Nat.lt_of_lt_of_le (Va74.ext E77).lt r79_1)) (ninS (Nat.ne_of_lt (Nat.lt_of_lt_of_le (Va74.ext E77).lt r79_2)) nin0))))).keep Kq91 (ninS (Nat.ne_of_lt (Nat.lt_of_lt_of_le Va74.lt (Nat.le_of_eq g77.symm))) (ninS (Nat.ne_of_lt (Nat.lt_of_lt_of_le (Va74.ext E77).lt r79_0)) (ninS (Nat.ne_of_lt (Nat.lt_of_lt_of_le (Va74.ext E77).lt r79_1)) (ninS (Nat.ne_of_lt (Nat.lt_of_lt_of_le (Va74.ext E77).lt r79_2)) nin0))))).keep Kq96 (ninS (Nat.ne_of_lt (Nat.lt_of_lt_of_le Va74.lt (Nat.le_of_eq g77.symm))) nin0)).keep Kq106 (ninS (Nat.ne_of_lt (Nat.lt_of_lt_of_le Va74.lt (Nat.le_of_eq g77.symm))) (ninS (Nat.ne_of_lt (Nat.lt_of_lt_of_le (Va74.ext E77).lt r79_0)) (ninS (Nat.ne_of_lt (Nat.lt_of_lt_of_le (Va74.ext E77).lt r79_1)) (ninS (Nat.ne_of_lt (Nat.lt_of_lt_of_le (Va74.ext E77).lt r79_2)) nin0)))))
    obtain ⟨_, _, ⟨T116, L116, kk116, nn116⟩, -, X116, ⟨Lc116, hQ116, lq116, yq116, zq116⟩, st116⟩ := Jvm.LawKit.callS X114 hx (y := (⟨"com/example/fondskit/fondskit/xml/BoundAttributesGetLocalNamePinLaw", "expected", "([Ljava/lang/String;II)Ljava/lang/String;"⟩ : MethodName)) hown (mvT hZ (hw _ (List.mem_of_getElem? (i := 83) rfl))) (mvT hZ (hw _ (List.mem_of_getElem? (i := 84) rfl))) (mvT hZ (hw _ (List.mem_of_getElem? (i := 85) rfl))) (mvT hZ (hw _ (List.mem_of_getElem? (i := 86) rfl))) (by decide) (backOf (W := 1) (rmEp1 l Z a0 hw [] b63 p3 k63 (.ref b_1) (.ref b3) (.ref b18) T106.heap n0 Z113 q117) hZ (hw _ (List.mem_of_getElem? (i := 86) rfl)) (hw _ (List.mem_of_getElem? (i := 85) rfl)) (by decide) (by decide)) (g := (mkF m 281 #[.val (.int p1), .val (.int p2), .val (.int p3), .val (.int p4), .val (.int p5), .val (.int (1 : Int32)), .val (.int ca), .val (.int cb), .val (.int cc), .val (.int cd), .val (.ref b_1), .val (.ref b3), .val (.ref b18), .val (.ref b36), .val (.ref b51), .val (.ref b63), .val (.ref b77), .val (.int (p4 &&& (3 : Int32))), .unset, .unset] [(.int p3), (.int (1 : Int32)), (.ref b63), (own_sel 1 (.ref b_1) .null .null p3)])) rfl (by rw [hml]; rfl) (argsL := [(.ref b63), (.int (1 : Int32)), (.int p3)]) (rest := [(own_sel 1 (.ref b_1) .null .null p3)]) (lenOf pd_14 rfl) rfl (by show 2 * 0 + _ ≤ _; simp only [List.map_cons, List.map_nil, XT.cat1 hr114]; exact Nat.le_of_eq rfl) (hb hby at_281) (fun _ _ => ⟨rfl, eh114, (by decide : 19 + 0 ≤ _), (by decide : 69 + 0 ≤ _)⟩)
    dsimp only [Pt.U, Pt.locs, Pt.cells, Pt.slots] at X116 lq116 yq116 zq116 st116 hQ116
    subst yq116 zq116
    obtain ⟨rfl, Nq116, eh116⟩ := hQ116
    have N116 : Fr n0 L116 := by rw [lq116]; exact Fr.app N114 Nq116
    refine Go.step (T' := T116) (f' := (mkF m 284 #[.val (.int p1), .val (.int p2), .val (.int p3), .val (.int p4), .val (.int p5), .val (.int (1 : Int32)), .val (.int ca), .val (.int cb), .val (.int cc), .val (.int cd), .val (.ref b_1), .val (.ref b3), .val (.ref b18), .val (.ref b36), .val (.ref b51), .val (.ref b63), .val (.ref b77), .val (.int (p4 &&& (3 : Int32))), .unset, .unset] [(own_sel 1 (.ref b_1) .null .null p3), (own_sel 1 (.ref b_1) .null .null p3)])) st116 ?_
    have hr116 : ((own_sel 1 (.ref b_1) .null .null p3) : Value).isRef = true := own_selR rfl rfl rfl
    refine Go.step (T' := T116) (f' := (mkF m 287 #[.val (.int p1), .val (.int p2), .val (.int p3), .val (.int p4), .val (.int p5), .val (.int (1 : Int32)), .val (.int ca), .val (.int cb), .val (.int cc), .val (.int cd), .val (.ref b_1), .val (.ref b3), .val (.ref b18), .val (.ref b36), .val (.ref b51), .val (.ref b63), .val (.ref b77), .val (.int (p4 &&& (3 : Int32))), .unset, .unset] [])) (fun _ k => Jvm.RoadKit.acmp (g := (mkF m 284 #[.val (.int p1), .val (.int p2), .val (.int p3), .val (.int p4), .val (.int p5), .val (.int (1 : Int32)), .val (.int ca), .val (.int cb), .val (.int cc), .val (.int cd), .val (.ref b_1), .val (.ref b3), .val (.ref b18), .val (.ref b36), .val (.ref b51), .val (.ref b63), .val (.ref b77), .val (.int (p4 &&& (3 : Int32))), .unset, .unset] [(own_sel 1 (.ref b_1) .null .null p3), (own_sel 1 (.ref b_1) .null .null p3)])) X116 hx rfl hr116 hr116 (pc0 := 284) (pc' := 287) (same := true) rfl (hb hby at_284) rfl (decide_eq_true rfl) (by decide) (by decide) k) ?_
    refine Go.step (T' := T116) (f' := (mkF m 288 #[.val (.int p1), .val (.int p2), .val (.int p3), .val (.int p4), .val (.int p5), .val (.int (1 : Int32)), .val (.int ca), .val (.int cb), .val (.int cc), .val (.int cd), .val (.ref b_1), .val (.ref b3), .val (.ref b18), .val (.ref b36), .val (.ref b51), .val (.ref b63), .val (.ref b77), .val (.int (p4 &&& (3 : Int32))), .unset, .unset] [(.int (1 : Int32))])) (fun _ k => XS.iconst X116.here hx rfl (hb hby at_287) k) ?_
    refine Go.step (T' := T116) (f' := (mkF m 292 #[.val (.int p1), .val (.int p2), .val (.int p3), .val (.int p4), .val (.int p5), .val (.int (1 : Int32)), .val (.int ca), .val (.int cb), .val (.int cc), .val (.int cd), .val (.ref b_1), .val (.ref b3), .val (.ref b18), .val (.ref b36), .val (.ref b51), .val (.ref b63), .val (.ref b77), .val (.int (p4 &&& (3 : Int32))), .unset, .unset] [(.int (1 : Int32))])) (fun _ k => XS.goto X116.here hx rfl (pc0 := 288) (pc' := 292) rfl (hb hby at_288) (by decide) (by decide) k) ?_
    refine Go.step (T' := T116) (f' := (mkF m 294 #[.val (.int p1), .val (.int p2), .val (.int p3), .val (.int p4), .val (.int p5), .val (.int (1 : Int32)), .val (.int ca), .val (.int cb), .val (.int cc), .val (.int cd), .val (.ref b_1), .val (.ref b3), .val (.ref b18), .val (.ref b36), .val (.ref b51), .val (.ref b63), .val (.ref b77), .val (.int (p4 &&& (3 : Int32))), .val (.int (1 : Int32)), .unset] [])) (fun _ k => XS.istore X116.here hx rfl (hb hby at_292) rfl (l' := #[.val (.int p1), .val (.int p2), .val (.int p3), .val (.int p4), .val (.int p5), .val (.int (1 : Int32)), .val (.int ca), .val (.int cb), .val (.int cc), .val (.int cd), .val (.ref b_1), .val (.ref b3), .val (.ref b18), .val (.ref b36), .val (.ref b51), .val (.ref b63), .val (.ref b77), .val (.int (p4 &&& (3 : Int32))), .val (.int (1 : Int32)), .unset]) rfl k) ?_
    refine Go.step (T' := T116) (f' := (mkF m 296 #[.val (.int p1), .val (.int p2), .val (.int p3), .val (.int p4), .val (.int p5), .val (.int (1 : Int32)), .val (.int ca), .val (.int cb), .val (.int cc), .val (.int cd), .val (.ref b_1), .val (.ref b3), .val (.ref b18), .val (.ref b36), .val (.ref b51), .val (.ref b63), .val (.ref b77), .val (.int (p4 &&& (3 : Int32))), .val (.int (1 : Int32)), .unset] [(.ref b77)])) (fun _ k => XS.aload X116.here hx rfl (hb hby at_294) rfl rfl k) ?_
    refine Go.step (T' := T116) (f' := (mkF m 298 #[.val (.int p1), .val (.int p2), .val (.int p3), .val (.int p4), .val (.int p5), .val (.int (1 : Int32)), .val (.int ca), .val (.int cb), .val (.int cc), .val (.int cd), .val (.ref b_1), .val (.ref b3), .val (.ref b18), .val (.ref b36), .val (.ref b51), .val (.ref b63), .val (.ref b77), .val (.int (p4 &&& (3 : Int32))), .val (.int (1 : Int32)), .unset] [(.int (p4 &&& (3 : Int32))), (.ref b77)])) (fun _ k => XS.iload X116.here hx rfl (hb hby at_296) rfl k) ?_
    obtain ⟨cq118, kq118, q118a, q118b, q118c⟩ := isOf hZ eh116 q115
    obtain ⟨_, _, ⟨T118, L118, kk118, nn118⟩, -, X118, ⟨Lc118, hQ118, lq118, yq118, zq118⟩, st118⟩ := X116.virtualBack hx (y := (⟨"com/example/fondskit/fondskit/xml/BoundAttributes", "getLocalName", "(I)Ljava/lang/String;"⟩ : MethodName)) (z := (⟨"com/example/fondskit/fondskit/xml/BoundAttributes", "getLocalName", "(I)Ljava/lang/String;"⟩ : MethodName)) hown (mvT hZ (hw _ (List.mem_of_getElem? (i := 74) rfl))) (mvT hZ (hw _ (List.mem_of_getElem? (i := 75) rfl))) (notFace_of_selects (args := #[]) (mvT hZ (hw _ (List.mem_of_getElem? (i := 77) rfl)))) (mvT hZ (hw _ (List.mem_of_getElem? (i := 77) rfl))) (mvT hZ (hw _ (List.mem_of_getElem? (i := 76) rfl))) (by decide) (backOf (W := 0) (rmGl1 l Z a0 hw [] b77 (p4 &&& (3 : Int32)) l1_79 kl_79 (.ref b_1) (.ref b51) (.ref b51) .null .null .null .null .null T106.heap n0 Z113 q115 r106_4 r106_3 r106_7) hZ (hw _ (List.mem_of_getElem? (i := 78) rfl)) (hw _ (List.mem_of_getElem? (i := 47) rfl)) (by decide) (by decide)) q118a q118c (g := (mkF m 298 #[.val (.int p1), .val (.int p2), .val (.int p3), .val (.int p4), .val (.int p5), .val (.int (1 : Int32)), .val (.int ca), .val (.int cb), .val (.int cc), .val (.int cd), .val (.ref b_1), .val (.ref b3), .val (.ref b18), .val (.ref b36), .val (.ref b51), .val (.ref b63), .val (.ref b77), .val (.int (p4 &&& (3 : Int32))), .val (.int (1 : Int32)), .unset] [(.int (p4 &&& (3 : Int32))), (.ref b77)])) rfl (by rw [hml]; rfl) (Steps.refl _) (argsL := [(.int (p4 &&& (3 : Int32)))]) (rest := []) (lenOf pd_13 rfl) rfl (by show 2 * 0 + _ ≤ _; exact Nat.le_of_eq rfl) (hb hby at_298) (fun _ _ => ⟨rfl, eh116, (by decide : 19 + 0 ≤ _), (by decide : 69 + 0 ≤ _)⟩)
    dsimp only [Pt.U, Pt.locs, Pt.cells, Pt.slots] at X118 lq118 yq118 zq118 st118 hQ118
    subst yq118 zq118
    obtain ⟨rfl, Nq118, eh118⟩ := hQ118
    have N118 : Fr n0 L118 := by rw [lq118]; exact Fr.app N116 Nq118
    refine Go.step (T' := T118) (f' := (mkF m 301 #[.val (.int p1), .val (.int p2), .val (.int p3), .val (.int p4), .val (.int p5), .val (.int (1 : Int32)), .val (.int ca), .val (.int cb), .val (.int cc), .val (.int cd), .val (.ref b_1), .val (.ref b3), .val (.ref b18), .val (.ref b36), .val (.ref b51), .val (.ref b63), .val (.ref b77), .val (.int (p4 &&& (3 : Int32))), .val (.int (1 : Int32)), .unset] [(own_sel 1 (.ref b_1) .null .null (p4 &&& (3 : Int32)))])) (fun _ k => st118.trans k) ?_
    have hr118 : ((own_sel 1 (.ref b_1) .null .null (p4 &&& (3 : Int32))) : Value).isRef = true := own_selR rfl rfl rfl
    refine Go.step (T' := T118) (f' := (mkF m 303 #[.val (.int p1), .val (.int p2), .val (.int p3), .val (.int p4), .val (.int p5), .val (.int (1 : Int32)), .val (.int ca), .val (.int cb), .val (.int cc), .val (.int cd), .val (.ref b_1), .val (.ref b3), .val (.ref b18), .val (.ref b36), .val (.ref b51), .val (.ref b63), .val (.ref b77), .val (.int (p4 &&& (3 : Int32))), .val (.int (1 : Int32)), .unset] [(.ref b63), (own_sel 1 (.ref b_1) .null .null (p4 &&& (3 : Int32)))])) (fun _ k => XS.aload X118.here hx rfl (hb hby at_301) rfl rfl k) ?_
    refine Go.step (T' := T118) (f' := (mkF m 305 #[.val (.int p1), .val (.int p2), .val (.int p3), .val (.int p4), .val (.int p5), .val (.int (1 : Int32)), .val (.int ca), .val (.int cb), .val (.int cc), .val (.int cd), .val (.ref b_1), .val (.ref b3), .val (.ref b18), .val (.ref b36), .val (.ref b51), .val (.ref b63), .val (.ref b77), .val (.int (p4 &&& (3 : Int32))), .val (.int (1 : Int32)), .unset] [(.int (1 : Int32)), (.ref b63), (own_sel 1 (.ref b_1) .null .null (p4 &&& (3 : Int32)))])) (fun _ k => XS.iload X118.here hx rfl (hb hby at_303) rfl k) ?_
    refine Go.step (T' := T118) (f' := (mkF m 307 #[.val (.int p1), .val (.int p2), .val (.int p3), .val (.int p4), .val (.int p5), .val (.int (1 : Int32)), .val (.int ca), .val (.int cb), .val (.int cc), .val (.int cd), .val (.ref b_1), .val (.ref b3), .val (.ref b18), .val (.ref b36), .val (.ref b51), .val (.ref b63), .val (.ref b77), .val (.int (p4 &&& (3 : Int32))), .val (.int (1 : Int32)), .unset] [(.int (p4 &&& (3 : Int32))), (.int (1 : Int32)), (.ref b63), (own_sel 1 (.ref b_1) .null .null (p4 &&& (3 : Int32)))])) (fun _ k => XS.iload X118.here hx rfl (hb hby at_305) rfl k) ?_
    obtain ⟨_, _, ⟨T119, L119, kk119, nn119⟩, -, X119, ⟨Lc119, hQ119, lq119, yq119, zq119⟩, st119⟩ := Jvm.LawKit.callS X118 hx (y := (⟨"com/example/fondskit/fondskit/xml/BoundAttributesGetLocalNamePinLaw", "expected", "([Ljava/lang/String;II)Ljava/lang/String;"⟩ : MethodName)) hown (mvT hZ (hw _ (List.mem_of_getElem? (i := 83) rfl))) (mvT hZ (hw _ (List.mem_of_getElem? (i := 84) rfl))) (mvT hZ (hw _ (List.mem_of_getElem? (i := 85) rfl))) (mvT hZ (hw _ (List.mem_of_getElem? (i := 86) rfl))) (by decide) (backOf (W := 1) (rmEp1 l Z a0 hw [] b63 (p4 &&& (3 : Int32)) k63 (.ref b_1) (.ref b3) (.ref b18) T106.heap n0 Z113 q117) hZ (hw _ (List.mem_of_getElem? (i := 86) rfl)) (hw _ (List.mem_of_getElem? (i := 85) rfl)) (by decide) (by decide)) (g := (mkF m 307 #[.val (.int p1), .val (.int p2), .val (.int p3), .val (.int p4), .val (.int p5), .val (.int (1 : Int32)), .val (.int ca), .val (.int cb), .val (.int cc), .val (.int cd), .val (.ref b_1), .val (.ref b3), .val (.ref b18), .val (.ref b36), .val (.ref b51), .val (.ref b63), .val (.ref b77), .val (.int (p4 &&& (3 : Int32))), .val (.int (1 : Int32)), .unset] [(.int (p4 &&& (3 : Int32))), (.int (1 : Int32)), (.ref b63), (own_sel 1 (.ref b_1) .null .null (p4 &&& (3 : Int32)))])) rfl (by rw [hml]; rfl) (argsL := [(.ref b63), (.int (1 : Int32)), (.int (p4 &&& (3 : Int32)))]) (rest := [(own_sel 1 (.ref b_1) .null .null (p4 &&& (3 : Int32)))]) (lenOf pd_14 rfl) rfl (by show 2 * 0 + _ ≤ _; simp only [List.map_cons, List.map_nil, XT.cat1 hr118]; exact Nat.le_of_eq rfl) (hb hby at_307) (fun _ _ => ⟨rfl, eh118, (by decide : 19 + 0 ≤ _), (by decide : 69 + 0 ≤ _)⟩)
    dsimp only [Pt.U, Pt.locs, Pt.cells, Pt.slots] at X119 lq119 yq119 zq119 st119 hQ119
    subst yq119 zq119
    obtain ⟨rfl, Nq119, eh119⟩ := hQ119
    have N119 : Fr n0 L119 := by rw [lq119]; exact Fr.app N118 Nq119
    refine Go.step (T' := T119) (f' := (mkF m 310 #[.val (.int p1), .val (.int p2), .val (.int p3), .val (.int p4), .val (.int p5), .val (.int (1 : Int32)), .val (.int ca), .val (.int cb), .val (.int cc), .val (.int cd), .val (.ref b_1), .val (.ref b3), .val (.ref b18), .val (.ref b36), .val (.ref b51), .val (.ref b63), .val (.ref b77), .val (.int (p4 &&& (3 : Int32))), .val (.int (1 : Int32)), .unset] [(own_sel 1 (.ref b_1) .null .null (p4 &&& (3 : Int32))), (own_sel 1 (.ref b_1) .null .null (p4 &&& (3 : Int32)))])) st119 ?_
    have hr119 : ((own_sel 1 (.ref b_1) .null .null (p4 &&& (3 : Int32))) : Value).isRef = true := own_selR rfl rfl rfl
    refine Go.step (T' := T119) (f' := (mkF m 313 #[.val (.int p1), .val (.int p2), .val (.int p3), .val (.int p4), .val (.int p5), .val (.int (1 : Int32)), .val (.int ca), .val (.int cb), .val (.int cc), .val (.int cd), .val (.ref b_1), .val (.ref b3), .val (.ref b18), .val (.ref b36), .val (.ref b51), .val (.ref b63), .val (.ref b77), .val (.int (p4 &&& (3 : Int32))), .val (.int (1 : Int32)), .unset] [])) (fun _ k => Jvm.RoadKit.acmp (g := (mkF m 310 #[.val (.int p1), .val (.int p2), .val (.int p3), .val (.int p4), .val (.int p5), .val (.int (1 : Int32)), .val (.int ca), .val (.int cb), .val (.int cc), .val (.int cd), .val (.ref b_1), .val (.ref b3), .val (.ref b18), .val (.ref b36), .val (.ref b51), .val (.ref b63), .val (.ref b77), .val (.int (p4 &&& (3 : Int32))), .val (.int (1 : Int32)), .unset] [(own_sel 1 (.ref b_1) .null .null (p4 &&& (3 : Int32))), (own_sel 1 (.ref b_1) .null .null (p4 &&& (3 : Int32)))])) X119 hx rfl hr119 hr119 (pc0 := 310) (pc' := 313) (same := true) rfl (hb hby at_310) rfl (decide_eq_true rfl) (by decide) (by decide) k) ?_
    refine Go.step (T' := T119) (f' := (mkF m 314 #[.val (.int p1), .val (.int p2), .val (.int p3), .val (.int p4), .val (.int p5), .val (.int (1 : Int32)), .val (.int ca), .val (.int cb), .val (.int cc), .val (.int cd), .val (.ref b_1), .val (.ref b3), .val (.ref b18), .val (.ref b36), .val (.ref b51), .val (.ref b63), .val (.ref b77), .val (.int (p4 &&& (3 : Int32))), .val (.int (1 : Int32)), .unset] [(.int (1 : Int32))])) (fun _ k => XS.iconst X119.here hx rfl (hb hby at_313) k) ?_
    refine Go.step (T' := T119) (f' := (mkF m 318 #[.val (.int p1), .val (.int p2), .val (.int p3), .val (.int p4), .val (.int p5), .val (.int (1 : Int32)), .val (.int ca), .val (.int cb), .val (.int cc), .val (.int cd), .val (.ref b_1), .val (.ref b3), .val (.ref b18), .val (.ref b36), .val (.ref b51), .val (.ref b63), .val (.ref b77), .val (.int (p4 &&& (3 : Int32))), .val (.int (1 : Int32)), .unset] [(.int (1 : Int32))])) (fun _ k => XS.goto X119.here hx rfl (pc0 := 314) (pc' := 318) rfl (hb hby at_314) (by decide) (by decide) k) ?_
    refine Go.step (T' := T119) (f' := (mkF m 320 #[.val (.int p1), .val (.int p2), .val (.int p3), .val (.int p4), .val (.int p5), .val (.int (1 : Int32)), .val (.int ca), .val (.int cb), .val (.int cc), .val (.int cd), .val (.ref b_1), .val (.ref b3), .val (.ref b18), .val (.ref b36), .val (.ref b51), .val (.ref b63), .val (.ref b77), .val (.int (p4 &&& (3 : Int32))), .val (.int (1 : Int32)), .val (.int (1 : Int32))] [])) (fun _ k => XS.istore X119.here hx rfl (hb hby at_318) rfl (l' := #[.val (.int p1), .val (.int p2), .val (.int p3), .val (.int p4), .val (.int p5), .val (.int (1 : Int32)), .val (.int ca), .val (.int cb), .val (.int cc), .val (.int cd), .val (.ref b_1), .val (.ref b3), .val (.ref b18), .val (.ref b36), .val (.ref b51), .val (.ref b63), .val (.ref b77), .val (.int (p4 &&& (3 : Int32))), .val (.int (1 : Int32)), .val (.int (1 : Int32))]) rfl k) ?_
    refine Go.step (T' := T119) (f' := (mkF m 322 #[.val (.int p1), .val (.int p2), .val (.int p3), .val (.int p4), .val (.int p5), .val (.int (1 : Int32)), .val (.int ca), .val (.int cb), .val (.int cc), .val (.int cd), .val (.ref b_1), .val (.ref b3), .val (.ref b18), .val (.ref b36), .val (.ref b51), .val (.ref b63), .val (.ref b77), .val (.int (p4 &&& (3 : Int32))), .val (.int (1 : Int32)), .val (.int (1 : Int32))] [(.int (1 : Int32))])) (fun _ k => XS.iload X119.here hx rfl (hb hby at_320) rfl k) ?_
    refine Go.step (T' := T119) (f' := (mkF m 325 #[.val (.int p1), .val (.int p2), .val (.int p3), .val (.int p4), .val (.int p5), .val (.int (1 : Int32)), .val (.int ca), .val (.int cb), .val (.int cc), .val (.int cd), .val (.ref b_1), .val (.ref b3), .val (.ref b18), .val (.ref b36), .val (.ref b51), .val (.ref b63), .val (.ref b77), .val (.int (p4 &&& (3 : Int32))), .val (.int (1 : Int32)), .val (.int (1 : Int32))] [])) (fun _ k => XS.ifNo X119.here hx rfl (hb hby at_322) rfl ((if0 _ _).trans (feq (by decide : ¬ ((1 : Int32) = (0 : Int32)))).1) k) ?_
    refine Go.step (T' := T119) (f' := (mkF m 327 #[.val (.int p1), .val (.int p2), .val (.int p3), .val (.int p4), .val (.int p5), .val (.int (1 : Int32)), .val (.int ca), .val (.int cb), .val (.int cc), .val (.int cd), .val (.ref b_1), .val (.ref b3), .val (.ref b18), .val (.ref b36), .val (.ref b51), .val (.ref b63), .val (.ref b77), .val (.int (p4 &&& (3 : Int32))), .val (.int (1 : Int32)), .val (.int (1 : Int32))] [(.int (1 : Int32))])) (fun _ k => XS.iload X119.here hx rfl (hb hby at_325) rfl k) ?_
    refine Go.step (T' := T119) (f' := (mkF m 330 #[.val (.int p1), .val (.int p2), .val (.int p3), .val (.int p4), .val (.int p5), .val (.int (1 : Int32)), .val (.int ca), .val (.int cb), .val (.int cc), .val (.int cd), .val (.ref b_1), .val (.ref b3), .val (.ref b18), .val (.ref b36), .val (.ref b51), .val (.ref b63), .val (.ref b77), .val (.int (p4 &&& (3 : Int32))), .val (.int (1 : Int32)), .val (.int (1 : Int32))] [])) (fun _ k => XS.ifNo X119.here hx rfl (hb hby at_327) rfl ((if0 _ _).trans (feq (by decide : ¬ ((1 : Int32) = (0 : Int32)))).1) k) ?_
    refine Go.step (T' := T119) (f' := (mkF m 331 #[.val (.int p1), .val (.int p2), .val (.int p3), .val (.int p4), .val (.int p5), .val (.int (1 : Int32)), .val (.int ca), .val (.int cb), .val (.int cc), .val (.int cd), .val (.ref b_1), .val (.ref b3), .val (.ref b18), .val (.ref b36), .val (.ref b51), .val (.ref b63), .val (.ref b77), .val (.int (p4 &&& (3 : Int32))), .val (.int (1 : Int32)), .val (.int (1 : Int32))] [(.int (1 : Int32))])) (fun _ k => XS.iconst X119.here hx rfl (hb hby at_330) k) ?_
    refine Go.step (T' := T119) (f' := (mkF m 335 #[.val (.int p1), .val (.int p2), .val (.int p3), .val (.int p4), .val (.int p5), .val (.int (1 : Int32)), .val (.int ca), .val (.int cb), .val (.int cc), .val (.int cd), .val (.ref b_1), .val (.ref b3), .val (.ref b18), .val (.ref b36), .val (.ref b51), .val (.ref b63), .val (.ref b77), .val (.int (p4 &&& (3 : Int32))), .val (.int (1 : Int32)), .val (.int (1 : Int32))] [(.int (1 : Int32))])) (fun _ k => XS.goto X119.here hx rfl (pc0 := 331) (pc' := 335) rfl (hb hby at_331) (by decide) (by decide) k) ?_
    refine goN X119 hx (t := .boolean) Bd.returns (by simp) Bd.notSynchronized (hb hby at_335) ?_ (by decide) (by decide)
    show Q_rm0 Z p1 p2 p3 p4 p5 cs h0 n0 _ T119.heap _
    rw [eh119]
    exact ⟨rfl, N119⟩
  · rw [hn]
    refine Go.step (T' := T96) (f' := (mkF m 212 #[.val (.int p1), .val (.int p2), .val (.int p3), .val (.int p4), .val (.int p5), .val (.int (2 : Int32)), .val (.int ca), .val (.int cb), .val (.int cc), .val (.int cd), .val (.ref b_1), .val (.ref b3), .val (.ref b18), .val (.ref b36), .val (.ref b51), .val (.ref b63), .val (.ref b77), .unset, .unset, .unset] [(.int (2 : Int32))])) (fun _ k => XS.iload X96.here hx rfl (hb hby at_210) rfl k) ?_
    refine Go.step (T' := T96) (f' := (mkF m 213 #[.val (.int p1), .val (.int p2), .val (.int p3), .val (.int p4), .val (.int p5), .val (.int (2 : Int32)), .val (.int ca), .val (.int cb), .val (.int cc), .val (.int cd), .val (.ref b_1), .val (.ref b3), .val (.ref b18), .val (.ref b36), .val (.ref b51), .val (.ref b63), .val (.ref b77), .unset, .unset, .unset] [(.int (1 : Int32)), (.int (2 : Int32))])) (fun _ k => XS.iconst X96.here hx rfl (hb hby at_212) k) ?_
    refine Go.step (T' := T96) (f' := (mkF m 216 #[.val (.int p1), .val (.int p2), .val (.int p3), .val (.int p4), .val (.int p5), .val (.int (2 : Int32)), .val (.int ca), .val (.int cb), .val (.int cc), .val (.int cd), .val (.ref b_1), .val (.ref b3), .val (.ref b18), .val (.ref b36), .val (.ref b51), .val (.ref b63), .val (.ref b77), .unset, .unset, .unset] [])) (fun _ k => XS.icmpNo X96.here hx rfl (hb hby at_213) rfl (flt (by decide : ¬ ((2 : Int32) < (1 : Int32)))).1 k) ?_
    refine Go.step (T' := T96) (f' := (mkF m 218 #[.val (.int p1), .val (.int p2), .val (.int p3), .val (.int p4), .val (.int p5), .val (.int (2 : Int32)), .val (.int ca), .val (.int cb), .val (.int cc), .val (.int cd), .val (.ref b_1), .val (.ref b3), .val (.ref b18), .val (.ref b36), .val (.ref b51), .val (.ref b63), .val (.ref b77), .unset, .unset, .unset] [(.ref b77)])) (fun _ k => XS.aload X96.here hx rfl (hb hby at_216) rfl rfl k) ?_
    refine Go.step (T' := T96) (f' := (mkF m 220 #[.val (.int p1), .val (.int p2), .val (.int p3), .val (.int p4), .val (.int p5), .val (.int (2 : Int32)), .val (.int ca), .val (.int cb), .val (.int cc), .val (.int cd), .val (.ref b_1), .val (.ref b3), .val (.ref b18), .val (.ref b36), .val (.ref b51), .val (.ref b63), .val (.ref b77), .unset, .unset, .unset] [(.int p5), (.ref b77)])) (fun _ k => XS.iload X96.here hx rfl (hb hby at_218) rfl k) ?_
    refine Go.step (T' := T96) (f' := (mkF m 222 #[.val (.int p1), .val (.int p2), .val (.int p3), .val (.int p4), .val (.int p5), .val (.int (2 : Int32)), .val (.int ca), .val (.int cb), .val (.int cc), .val (.int cd), .val (.ref b_1), .val (.ref b3), .val (.ref b18), .val (.ref b36), .val (.ref b51), .val (.ref b63), .val (.ref b77), .unset, .unset, .unset] [(.ref b36), (.int p5), (.ref b77)])) (fun _ k => XS.aload X96.here hx rfl (hb hby at_220) rfl rfl k) ?_
    refine Go.step (T' := T96) (f' := (mkF m 224 #[.val (.int p1), .val (.int p2), .val (.int p3), .val (.int p4), .val (.int p5), .val (.int (2 : Int32)), .val (.int ca), .val (.int cb), .val (.int cc), .val (.int cd), .val (.ref b_1), .val (.ref b3), .val (.ref b18), .val (.ref b36), .val (.ref b51), .val (.ref b63), .val (.ref b77), .unset, .unset, .unset] [(.ref b_1), (.ref b36), (.int p5), (.ref b77)])) (fun _ k => XS.aload X96.here hx rfl (hb hby at_222) rfl rfl k) ?_
    have q121 : Exa Z T96.heap b77 "com/example/fondskit/fondskit/xml/BoundAttributes" := (q97.keep Kq96)
    have q122 : Exa Z T96.heap b36 "java/lang/String" := ((q93.keep Kq91).keep Kq96)
    have q123 : Exa Z T96.heap b_1 "java/lang/String" := (((((((((q67.wr W66).wr W70).wr W74).ext E77).keep Kq79).keep Kq81).keep Kq86).keep Kq91).keep Kq96)
    have q124 : Arv Z T96.heap i_79 ki_79 .int (8 : Int32) [(.int p5), (.int p5), (.int p5), (.int (0 : Int32)), (.int (0 : Int32)), (.int (0 : Int32)), (.int (0 : Int32)), (.int (0 : Int32))] (.int (0 : Int32)) := (r91_5.keep Kq96 (ninS (Ne.symm (Nat.ne_of_lt (Nat.lt_of_lt_of_le A77.lt r79_0))) nin0))
    have q125 : Arv Z T96.heap n_79 kn_79 (.object "java/lang/String") (8 : Int32) [(.ref b36), (.ref b36), (.ref b36), .null, .null, .null, .null, .null] .null := (r91_6.keep Kq96 (ninS (Ne.symm (Nat.ne_of_lt (Nat.lt_of_lt_of_le A77.lt r79_1))) nin0))
    have q126 : Arv Z T96.heap l1_79 kl_79 (.object "java/lang/String") (8 : Int32) [(.ref b51), (.ref b51), (.ref b51), .null, .null, .null, .null, .null] .null := (r91_7.keep Kq96 (ninS (Ne.symm (Nat.ne_of_lt (Nat.lt_of_lt_of_le A77.lt r79_2))) nin0))
    obtain ⟨cq120, kq120, q120a, q120b, q120c⟩ := isOf hZ rfl q121
    obtain ⟨_, _, ⟨T120, L120, kk120, nn120⟩, -, X120, ⟨Lc120, hQ120, lq120, yq120, zq120⟩, st120⟩ := X96.virtualBack hx (y := (⟨"com/example/fondskit/fondskit/xml/BoundAttributes", "add", "(ILjava/lang/String;Ljava/lang/String;)V"⟩ : MethodName)) (z := (⟨"com/example/fondskit/fondskit/xml/BoundAttributes", "add", "(ILjava/lang/String;Ljava/lang/String;)V"⟩ : MethodName)) hown (mvT hZ (hw _ (List.mem_of_getElem? (i := 60) rfl))) (mvT hZ (hw _ (List.mem_of_getElem? (i := 61) rfl))) (notFace_of_selects (args := #[]) (mvT hZ (hw _ (List.mem_of_getElem? (i := 63) rfl)))) (mvT hZ (hw _ (List.mem_of_getElem? (i := 63) rfl))) (mvT hZ (hw _ (List.mem_of_getElem? (i := 62) rfl))) (by decide) (backOf (W := 0) (rmAdd0 l Z a0 hw [] b77 p5 b36 b_1 i_79 n_79 l1_79 ki_79 kn_79 kl_79 (.int p5) (.int p5) (.int p5) (.int (0 : Int32)) (.int (0 : Int32)) (.int (0 : Int32)) (.int (0 : Int32)) (.int (0 : Int32)) (.ref b36) (.ref b36) (.ref b36) .null .null .null .null .null (.ref b51) (.ref b51) (.ref b51) .null .null .null .null .null T96.heap n0 Z98 q121 q122 q123 r96_0 r96_1 r96_2 r96_3 r96_4 q124 q125 q126 (Ne.symm (Nat.ne_of_lt (Nat.lt_of_lt_of_le A77.lt r79_0))) (Ne.symm (Nat.ne_of_lt (Nat.lt_of_lt_of_le A77.lt r79_1))) (Ne.symm (Nat.ne_of_lt (Nat.lt_of_lt_of_le A77.lt r79_2))) r79_3 r79_4 r79_5 r79_6 r79_7 g_b77 g_i_79 g_n_79 g_l1_79) hZ (hw _ (List.mem_of_getElem? (i := 64) rfl)) (hw _ (List.mem_of_getElem? (i := 47) rfl)) (by decide) (by decide)) q120a q120c (g := (mkF m 224 #[.val (.int p1), .val (.int p2), .val (.int p3), .val (.int p4), .val (.int p5), .val (.int (2 : Int32)), .val (.int ca), .val (.int cb), .val (.int cc), .val (.int cd), .val (.ref b_1), .val (.ref b3), .val (.ref b18), .val (.ref b36), .val (.ref b51), .val (.ref b63), .val (.ref b77), .unset, .unset, .unset] [(.ref b_1), (.ref b36), (.int p5), (.ref b77)])) rfl (by rw [hml]; rfl) (Steps.refl _) (argsL := [(.int p5), (.ref b36), (.ref b_1)]) (rest := []) (lenOf pd_11 rfl) rfl (by show 2 * 0 + _ ≤ _; exact Nat.le_of_eq rfl) (hb hby at_224) (fun _ _ => ⟨rfl, rfl, (by decide : 19 + 0 ≤ _), (by decide : 69 + 0 ≤ _)⟩)
    dsimp only [Pt.U, Pt.locs, Pt.cells, Pt.slots] at X120 lq120 yq120 zq120 st120 hQ120
    subst yq120 zq120
    obtain ⟨rfl, Nq120, Kq120, r120_0, r120_1, r120_2, r120_3, r120_4, r120_5, r120_6, r120_7⟩ := hQ120
    have N120 : Fr n0 L120 := by rw [lq120]; exact Fr.app N96 Nq120
    have Z127 : n0 ≤ T120.heap.size := Nat.le_trans Z98 Kq120.1
    have O127 : Old Z n0 T120.heap := O98.keep Kq120 (allS g_b77 (allS g_i_79 (allS g_n_79 (allS g_l1_79 all0))))
    refine Go.step (T' := T120) (f' := (mkF m 227 #[.val (.int p1), .val (.int p2), .val (.int p3), .val (.int p4), .val (.int p5), .val (.int (2 : Int32)), .val (.int ca), .val (.int cb), .val (.int cc), .val (.int cd), .val (.ref b_1), .val (.ref b3), .val (.ref b18), .val (.ref b36), .val (.ref b51), .val (.ref b63), .val (.ref b77), .unset, .unset, .unset] [])) (fun _ k => st120.trans k) ?_
    refine Go.step (T' := T120) (f' := (mkF m 229 #[.val (.int p1), .val (.int p2), .val (.int p3), .val (.int p4), .val (.int p5), .val (.int (2 : Int32)), .val (.int ca), .val (.int cb), .val (.int cc), .val (.int cd), .val (.ref b_1), .val (.ref b3), .val (.ref b18), .val (.ref b36), .val (.ref b51), .val (.ref b63), .val (.ref b77), .unset, .unset, .unset] [(.int (2 : Int32))])) (fun _ k => XS.iload X120.here hx rfl (hb hby at_227) rfl k) ?_
    refine Go.step (T' := T120) (f' := (mkF m 230 #[.val (.int p1), .val (.int p2), .val (.int p3), .val (.int p4), .val (.int p5), .val (.int (2 : Int32)), .val (.int ca), .val (.int cb), .val (.int cc), .val (.int cd), .val (.ref b_1), .val (.ref b3), .val (.ref b18), .val (.ref b36), .val (.ref b51), .val (.ref b63), .val (.ref b77), .unset, .unset, .unset] [(.int (2 : Int32)), (.int (2 : Int32))])) (fun _ k => XS.iconst X120.here hx rfl (hb hby at_229) k) ?_
    refine Go.step (T' := T120) (f' := (mkF m 233 #[.val (.int p1), .val (.int p2), .val (.int p3), .val (.int p4), .val (.int p5), .val (.int (2 : Int32)), .val (.int ca), .val (.int cb), .val (.int cc), .val (.int cd), .val (.ref b_1), .val (.ref b3), .val (.ref b18), .val (.ref b36), .val (.ref b51), .val (.ref b63), .val (.ref b77), .unset, .unset, .unset] [])) (fun _ k => XS.icmpNo X120.here hx rfl (hb hby at_230) rfl (flt (by decide : ¬ ((2 : Int32) < (2 : Int32)))).1 k) ?_
    refine Go.step (T' := T120) (f' := (mkF m 235 #[.val (.int p1), .val (.int p2), .val (.int p3), .val (.int p4), .val (.int p5), .val (.int (2 : Int32)), .val (.int ca), .val (.int cb), .val (.int cc), .val (.int cd), .val (.ref b_1), .val (.ref b3), .val (.ref b18), .val (.ref b36), .val (.ref b51), .val (.ref b63), .val (.ref b77), .unset, .unset, .unset] [(.ref b77)])) (fun _ k => XS.aload X120.here hx rfl (hb hby at_233) rfl rfl k) ?_
    refine Go.step (T' := T120) (f' := (mkF m 237 #[.val (.int p1), .val (.int p2), .val (.int p3), .val (.int p4), .val (.int p5), .val (.int (2 : Int32)), .val (.int ca), .val (.int cb), .val (.int cc), .val (.int cd), .val (.ref b_1), .val (.ref b3), .val (.ref b18), .val (.ref b36), .val (.ref b51), .val (.ref b63), .val (.ref b77), .unset, .unset, .unset] [(.int p5), (.ref b77)])) (fun _ k => XS.iload X120.here hx rfl (hb hby at_235) rfl k) ?_
    refine Go.step (T' := T120) (f' := (mkF m 238 #[.val (.int p1), .val (.int p2), .val (.int p3), .val (.int p4), .val (.int p5), .val (.int (2 : Int32)), .val (.int ca), .val (.int cb), .val (.int cc), .val (.int cd), .val (.ref b_1), .val (.ref b3), .val (.ref b18), .val (.ref b36), .val (.ref b51), .val (.ref b63), .val (.ref b77), .unset, .unset, .unset] [(.int (1 : Int32)), (.int p5), (.ref b77)])) (fun _ k => XS.iconst X120.here hx rfl (hb hby at_237) k) ?_
    refine Go.step (T' := T120) (f' := (mkF m 239 #[.val (.int p1), .val (.int p2), .val (.int p3), .val (.int p4), .val (.int p5), .val (.int (2 : Int32)), .val (.int ca), .val (.int cb), .val (.int cc), .val (.int cd), .val (.ref b_1), .val (.ref b3), .val (.ref b18), .val (.ref b36), .val (.ref b51), .val (.ref b63), .val (.ref b77), .unset, .unset, .unset] [(.int (p5 + (1 : Int32))), (.ref b77)])) (fun _ k => XS.iadd X120.here hx rfl (hb hby at_238) rfl k) ?_
    refine Go.step (T' := T120) (f' := (mkF m 241 #[.val (.int p1), .val (.int p2), .val (.int p3), .val (.int p4), .val (.int p5), .val (.int (2 : Int32)), .val (.int ca), .val (.int cb), .val (.int cc), .val (.int cd), .val (.ref b_1), .val (.ref b3), .val (.ref b18), .val (.ref b36), .val (.ref b51), .val (.ref b63), .val (.ref b77), .unset, .unset, .unset] [(.ref b36), (.int (p5 + (1 : Int32))), (.ref b77)])) (fun _ k => XS.aload X120.here hx rfl (hb hby at_239) rfl rfl k) ?_
    refine Go.step (T' := T120) (f' := (mkF m 243 #[.val (.int p1), .val (.int p2), .val (.int p3), .val (.int p4), .val (.int p5), .val (.int (2 : Int32)), .val (.int ca), .val (.int cb), .val (.int cc), .val (.int cd), .val (.ref b_1), .val (.ref b3), .val (.ref b18), .val (.ref b36), .val (.ref b51), .val (.ref b63), .val (.ref b77), .unset, .unset, .unset] [(.ref b3), (.ref b36), (.int (p5 + (1 : Int32))), (.ref b77)])) (fun _ k => XS.aload X120.here hx rfl (hb hby at_241) rfl rfl k) ?_
    have q129 : Exa Z T120.heap b77 "com/example/fondskit/fondskit/xml/BoundAttributes" := (q121.keep Kq120)
    have q130 : Exa Z T120.heap b36 "java/lang/String" := (q122.keep Kq120)
    have q131 : Exa Z T120.heap b3 "java/lang/String" := (((((((((q71.wr W70).wr W74).ext E77).keep Kq79).keep Kq81).keep Kq86).keep Kq91).keep Kq96).keep Kq120)
    obtain ⟨cq128, kq128, q128a, q128b, q128c⟩ := isOf hZ rfl q129
    obtain ⟨_, _, ⟨T128, L128, kk128, nn128⟩, -, X128, ⟨Lc128, hQ128, lq128, yq128, zq128⟩, st128⟩ := X120.virtualBack hx (y := (⟨"com/example/fondskit/fondskit/xml/BoundAttributes", "add", "(ILjava/lang/String;Ljava/lang/String;)V"⟩ : MethodName)) (z := (⟨"com/example/fondskit/fondskit/xml/BoundAttributes", "add", "(ILjava/lang/String;Ljava/lang/String;)V"⟩ : MethodName)) hown (mvT hZ (hw _ (List.mem_of_getElem? (i := 60) rfl))) (mvT hZ (hw _ (List.mem_of_getElem? (i := 61) rfl))) (notFace_of_selects (args := #[]) (mvT hZ (hw _ (List.mem_of_getElem? (i := 63) rfl)))) (mvT hZ (hw _ (List.mem_of_getElem? (i := 63) rfl))) (mvT hZ (hw _ (List.mem_of_getElem? (i := 62) rfl))) (by decide) (backOf (W := 0) (rmAdd1 l Z a0 hw [] b77 (p5 + (1 : Int32)) b36 b3 i_79 n_79 l1_79 ki_79 kn_79 kl_79 (.int p5) (.int p5) (.int p5) (.int (0 : Int32)) (.int (0 : Int32)) (.int (0 : Int32)) (.int (0 : Int32)) (.int (0 : Int32)) (.ref b36) (.ref b36) (.ref b36) .null .null .null .null .null (.ref b_1) (.ref b51) (.ref b51) .null .null .null .null .null T120.heap n0 Z127 q129 q130 q131 r120_0 r120_1 r120_2 r120_3 r120_4 r120_5 r120_6 r120_7 (Ne.symm (Nat.ne_of_lt (Nat.lt_of_lt_of_le A77.lt r79_0))) (Ne.symm (Nat.ne_of_lt (Nat.lt_of_lt_of_le A77.lt r79_1))) (Ne.symm (Nat.ne_of_lt (Nat.lt_of_lt_of_le A77.lt r79_2))) r79_3 r79_4 r79_5 r79_6 r79_7 g_b77 g_i_79 g_n_79 g_l1_79) hZ (hw _ (List.mem_of_getElem? (i := 64) rfl)) (hw _ (List.mem_of_getElem? (i := 47) rfl)) (by decide) (by decide)) q128a q128c (g := (mkF m 243 #[.val (.int p1), .val (.int p2), .val (.int p3), .val (.int p4), .val (.int p5), .val (.int (2 : Int32)), .val (.int ca), .val (.int cb), .val (.int cc), .val (.int cd), .val (.ref b_1), .val (.ref b3), .val (.ref b18), .val (.ref b36), .val (.ref b51), .val (.ref b63), .val (.ref b77), .unset, .unset, .unset] [(.ref b3), (.ref b36), (.int (p5 + (1 : Int32))), (.ref b77)])) rfl (by rw [hml]; rfl) (Steps.refl _) (argsL := [(.int (p5 + (1 : Int32))), (.ref b36), (.ref b3)]) (rest := []) (lenOf pd_11 rfl) rfl (by show 2 * 0 + _ ≤ _; exact Nat.le_of_eq rfl) (hb hby at_243) (fun _ _ => ⟨rfl, rfl, (by decide : 19 + 0 ≤ _), (by decide : 69 + 0 ≤ _)⟩)
    dsimp only [Pt.U, Pt.locs, Pt.cells, Pt.slots] at X128 lq128 yq128 zq128 st128 hQ128
    subst yq128 zq128
    obtain ⟨rfl, Nq128, Kq128, r128_0, r128_1, r128_2, r128_3, r128_4, r128_5, r128_6, r128_7⟩ := hQ128
    have N128 : Fr n0 L128 := by rw [lq128]; exact Fr.app N120 Nq128
    have Z132 : n0 ≤ T128.heap.size := Nat.le_trans Z127 Kq128.1
    have O132 : Old Z n0 T128.heap := O127.keep Kq128 (allS g_b77 (allS g_i_79 (allS g_n_79 (allS g_l1_79 all0))))
    refine Go.step (T' := T128) (f' := (mkF m 246 #[.val (.int p1), .val (.int p2), .val (.int p3), .val (.int p4), .val (.int p5), .val (.int (2 : Int32)), .val (.int ca), .val (.int cb), .val (.int cc), .val (.int cd), .val (.ref b_1), .val (.ref b3), .val (.ref b18), .val (.ref b36), .val (.ref b51), .val (.ref b63), .val (.ref b77), .unset, .unset, .unset] [])) (fun _ k => st128.trans k) ?_
    refine Go.step (T' := T128) (f' := (mkF m 248 #[.val (.int p1), .val (.int p2), .val (.int p3), .val (.int p4), .val (.int p5), .val (.int (2 : Int32)), .val (.int ca), .val (.int cb), .val (.int cc), .val (.int cd), .val (.ref b_1), .val (.ref b3), .val (.ref b18), .val (.ref b36), .val (.ref b51), .val (.ref b63), .val (.ref b77), .unset, .unset, .unset] [(.int (2 : Int32))])) (fun _ k => XS.iload X128.here hx rfl (hb hby at_246) rfl k) ?_
    refine Go.step (T' := T128) (f' := (mkF m 249 #[.val (.int p1), .val (.int p2), .val (.int p3), .val (.int p4), .val (.int p5), .val (.int (2 : Int32)), .val (.int ca), .val (.int cb), .val (.int cc), .val (.int cd), .val (.ref b_1), .val (.ref b3), .val (.ref b18), .val (.ref b36), .val (.ref b51), .val (.ref b63), .val (.ref b77), .unset, .unset, .unset] [(.int (3 : Int32)), (.int (2 : Int32))])) (fun _ k => XS.iconst X128.here hx rfl (hb hby at_248) k) ?_
    refine Go.step (T' := T128) (f' := (mkF m 265 #[.val (.int p1), .val (.int p2), .val (.int p3), .val (.int p4), .val (.int p5), .val (.int (2 : Int32)), .val (.int ca), .val (.int cb), .val (.int cc), .val (.int cd), .val (.ref b_1), .val (.ref b3), .val (.ref b18), .val (.ref b36), .val (.ref b51), .val (.ref b63), .val (.ref b77), .unset, .unset, .unset] [])) (fun _ k => XS.icmpYes X128.here hx rfl (pc0 := 249) (pc' := 265) rfl (hb hby at_249) rfl (tlt (by decide : (2 : Int32) < (3 : Int32))).1 (by decide) (by decide) k) ?_
    refine Go.step (T' := T128) (f' := (mkF m 266 #[.val (.int p1), .val (.int p2), .val (.int p3), .val (.int p4), .val (.int p5), .val (.int (2 : Int32)), .val (.int ca), .val (.int cb), .val (.int cc), .val (.int cd), .val (.ref b_1), .val (.ref b3), .val (.ref b18), .val (.ref b36), .val (.ref b51), .val (.ref b63), .val (.ref b77), .unset, .unset, .unset] [(.int p4)])) (fun _ k => XS.iloadN X128.here hx rfl (hb hby at_265) rfl k) ?_
    refine Go.step (T' := T128) (f' := (mkF m 267 #[.val (.int p1), .val (.int p2), .val (.int p3), .val (.int p4), .val (.int p5), .val (.int (2 : Int32)), .val (.int ca), .val (.int cb), .val (.int cc), .val (.int cd), .val (.ref b_1), .val (.ref b3), .val (.ref b18), .val (.ref b36), .val (.ref b51), .val (.ref b63), .val (.ref b77), .unset, .unset, .unset] [(.int (3 : Int32)), (.int p4)])) (fun _ k => XS.iconst X128.here hx rfl (hb hby at_266) k) ?_
    refine Go.step (T' := T128) (f' := (mkF m 268 #[.val (.int p1), .val (.int p2), .val (.int p3), .val (.int p4), .val (.int p5), .val (.int (2 : Int32)), .val (.int ca), .val (.int cb), .val (.int cc), .val (.int cd), .val (.ref b_1), .val (.ref b3), .val (.ref b18), .val (.ref b36), .val (.ref b51), .val (.ref b63), .val (.ref b77), .unset, .unset, .unset] [(.int (p4 &&& (3 : Int32)))])) (fun _ k => XS.iand X128.here hx rfl (hb hby at_267) rfl k) ?_
    refine Go.step (T' := T128) (f' := (mkF m 270 #[.val (.int p1), .val (.int p2), .val (.int p3), .val (.int p4), .val (.int p5), .val (.int (2 : Int32)), .val (.int ca), .val (.int cb), .val (.int cc), .val (.int cd), .val (.ref b_1), .val (.ref b3), .val (.ref b18), .val (.ref b36), .val (.ref b51), .val (.ref b63), .val (.ref b77), .val (.int (p4 &&& (3 : Int32))), .unset, .unset] [])) (fun _ k => XS.istore X128.here hx rfl (hb hby at_268) rfl (l' := #[.val (.int p1), .val (.int p2), .val (.int p3), .val (.int p4), .val (.int p5), .val (.int (2 : Int32)), .val (.int ca), .val (.int cb), .val (.int cc), .val (.int cd), .val (.ref b_1), .val (.ref b3), .val (.ref b18), .val (.ref b36), .val (.ref b51), .val (.ref b63), .val (.ref b77), .val (.int (p4 &&& (3 : Int32))), .unset, .unset]) rfl k) ?_
    refine Go.step (T' := T128) (f' := (mkF m 272 #[.val (.int p1), .val (.int p2), .val (.int p3), .val (.int p4), .val (.int p5), .val (.int (2 : Int32)), .val (.int ca), .val (.int cb), .val (.int cc), .val (.int cd), .val (.ref b_1), .val (.ref b3), .val (.ref b18), .val (.ref b36), .val (.ref b51), .val (.ref b63), .val (.ref b77), .val (.int (p4 &&& (3 : Int32))), .unset, .unset] [(.ref b77)])) (fun _ k => XS.aload X128.here hx rfl (hb hby at_270) rfl rfl k) ?_
    refine Go.step (T' := T128) (f' := (mkF m 273 #[.val (.int p1), .val (.int p2), .val (.int p3), .val (.int p4), .val (.int p5), .val (.int (2 : Int32)), .val (.int ca), .val (.int cb), .val (.int cc), .val (.int cd), .val (.ref b_1), .val (.ref b3), .val (.ref b18), .val (.ref b36), .val (.ref b51), .val (.ref b63), .val (.ref b77), .val (.int (p4 &&& (3 : Int32))), .unset, .unset] [(.int p3), (.ref b77)])) (fun _ k => XS.iloadN X128.here hx rfl (hb hby at_272) rfl k) ?_
    have q134 : Exa Z T128.heap b77 "com/example/fondskit/fondskit/xml/BoundAttributes" := (q129.keep Kq128)
    obtain ⟨cq133, kq133, q133a, q133b, q133c⟩ := isOf hZ rfl q134
    obtain ⟨_, _, ⟨T133, L133, kk133, nn133⟩, -, X133, ⟨Lc133, hQ133, lq133, yq133, zq133⟩, st133⟩ := X128.virtualBack hx (y := (⟨"com/example/fondskit/fondskit/xml/BoundAttributes", "getLocalName", "(I)Ljava/lang/String;"⟩ : MethodName)) (z := (⟨"com/example/fondskit/fondskit/xml/BoundAttributes", "getLocalName", "(I)Ljava/lang/String;"⟩ : MethodName)) hown (mvT hZ (hw _ (List.mem_of_getElem? (i := 74) rfl))) (mvT hZ (hw _ (List.mem_of_getElem? (i := 75) rfl))) (notFace_of_selects (args := #[]) (mvT hZ (hw _ (List.mem_of_getElem? (i := 77) rfl)))) (mvT hZ (hw _ (List.mem_of_getElem? (i := 77) rfl))) (mvT hZ (hw _ (List.mem_of_getElem? (i := 76) rfl))) (by decide) (backOf (W := 0) (rmGl2 l Z a0 hw [] b77 p3 l1_79 kl_79 (.ref b_1) (.ref b3) (.ref b51) .null .null .null .null .null T128.heap n0 Z132 q134 r128_4 r128_3 r128_7) hZ (hw _ (List.mem_of_getElem? (i := 78) rfl)) (hw _ (List.mem_of_getElem? (i := 47) rfl)) (by decide) (by decide)) q133a q133c (g := (mkF m 273 #[.val (.int p1), .val (.int p2), .val (.int p3), .val (.int p4), .val (.int p5), .val (.int (2 : Int32)), .val (.int ca), .val (.int cb), .val (.int cc), .val (.int cd), .val (.ref b_1), .val (.ref b3), .val (.ref b18), .val (.ref b36), .val (.ref b51), .val (.ref b63), .val (.ref b77), .val (.int (p4 &&& (3 : Int32))), .unset, .unset] [(.int p3), (.ref b77)])) rfl (by rw [hml]; rfl) (Steps.refl _) (argsL := [(.int p3)]) (rest := []) (lenOf pd_13 rfl) rfl (by show 2 * 0 + _ ≤ _; exact Nat.le_of_eq rfl) (hb hby at_273) (fun _ _ => ⟨rfl, rfl, (by decide : 19 + 0 ≤ _), (by decide : 69 + 0 ≤ _)⟩)
    dsimp only [Pt.U, Pt.locs, Pt.cells, Pt.slots] at X133 lq133 yq133 zq133 st133 hQ133
    subst yq133 zq133
    obtain ⟨rfl, Nq133, eh133⟩ := hQ133
    have N133 : Fr n0 L133 := by rw [lq133]; exact Fr.app N128 Nq133
    refine Go.step (T' := T133) (f' := (mkF m 276 #[.val (.int p1), .val (.int p2), .val (.int p3), .val (.int p4), .val (.int p5), .val (.int (2 : Int32)), .val (.int ca), .val (.int cb), .val (.int cc), .val (.int cd), .val (.ref b_1), .val (.ref b3), .val (.ref b18), .val (.ref b36), .val (.ref b51), .val (.ref b63), .val (.ref b77), .val (.int (p4 &&& (3 : Int32))), .unset, .unset] [(own_sel 2 (.ref b_1) (.ref b3) .null p3)])) (fun _ k => st133.trans k) ?_
    have hr133 : ((own_sel 2 (.ref b_1) (.ref b3) .null p3) : Value).isRef = true := own_selR rfl rfl rfl
    refine Go.step (T' := T133) (f' := (mkF m 278 #[.val (.int p1), .val (.int p2), .val (.int p3), .val (.int p4), .val (.int p5), .val (.int (2 : Int32)), .val (.int ca), .val (.int cb), .val (.int cc), .val (.int cd), .val (.ref b_1), .val (.ref b3), .val (.ref b18), .val (.ref b36), .val (.ref b51), .val (.ref b63), .val (.ref b77), .val (.int (p4 &&& (3 : Int32))), .unset, .unset] [(.ref b63), (own_sel 2 (.ref b_1) (.ref b3) .null p3)])) (fun _ k => XS.aload X133.here hx rfl (hb hby at_276) rfl rfl k) ?_
    refine Go.step (T' := T133) (f' := (mkF m 280 #[.val (.int p1), .val (.int p2), .val (.int p3), .val (.int p4), .val (.int p5), .val (.int (2 : Int32)), .val (.int ca), .val (.int cb), .val (.int cc), .val (.int cd), .val (.ref b_1), .val (.ref b3), .val (.ref b18), .val (.ref b36), .val (.ref b51), .val (.ref b63), .val (.ref b77), .val (.int (p4 &&& (3 : Int32))), .unset, .unset] [(.int (2 : Int32)), (.ref b63), (own_sel 2 (.ref b_1) (.ref b3) .null p3)])) (fun _ k => XS.iload X133.here hx rfl (hb hby at_278) rfl k) ?_
    refine Go.step (T' := T133) (f' := (mkF m 281 #[.val (.int p1), .val (.int p2), .val (.int p3), .val (.int p4), .val (.int p5), .val (.int (2 : Int32)), .val (.int ca), .val (.int cb), .val (.int cc), .val (.int cd), .val (.ref b_1), .val (.ref b3), .val (.ref b18), .val (.ref b36), .val (.ref b51), .val (.ref b63), .val (.ref b77), .val (.int (p4 &&& (3 : Int32))), .unset, .unset] [(.int p3), (.int (2 : Int32)), (.ref b63), (own_sel 2 (.ref b_1) (.ref b3) .null p3)])) (fun _ k => XS.iloadN X133.here hx rfl (hb hby at_280) rfl k) ?_
    have q136 : Arv Z T128.heap b63 k63 (.object "java/lang/String") (3 : Int32) [(.ref b_1), (.ref b3), (.ref b18)] .null := ((((((((Va74.ext E77).keep Kq79 (ninS (Nat.ne_of_lt (Nat.lt_of_lt_of_le Va74.lt (Nat.le_of_eq g77.symm))) nin0)).keep Kq81 (ninS (Nat.ne_of_lt (Nat.lt_of_lt_of_le Va74.lt (Nat.le_of_eq g77.symm))) (ninS (Nat.ne_of_lt (Nat.lt_of_lt_of_le (Va74.ext E77).lt r79_0)) (ninS (Nat.ne_of_lt (Nat.lt_of_lt_of_le (Va74.ext E77).lt r79_1)) (ninS (Nat.ne_of_lt (Nat.lt_of_lt_of_le (Va74.ext E77).lt r79_2)) nin0))))).keep Kq86 (ninS (Nat.ne_of_lt (Nat.lt_of_lt_of_le Va74.lt (Nat.le_of_eq g77.symm))) (ninS (Nat.ne_of_lt (Nat.lt_of_lt_of_le (Va74.ext E77).lt r79_0)) (ninS (Nat.ne_of_lt (Nat.lt_of_lt_of_le (Va74.ext E77).lt r79_1)) (ninS (Nat.ne_of_lt (Nat.lt_of_lt_of_le (Va74.ext E77).lt r79_2)) nin0))))).keep Kq91 (ninS (Nat.ne_of_lt (Nat.lt_of_lt_of_le Va74.lt (Nat.le_of_eq g77.symm))) (ninS (Nat.ne_of_lt (Nat.lt_of_lt_of_le (Va74.ext E77).lt r79_0)) (ninS (Nat.ne_of_lt (Nat.lt_of_lt_of_le (Va74.ext E77).lt r79_1)) (ninS (Nat.ne_of_lt (Nat.lt_of_lt_of_le (Va74.ext E77).lt r79_2)) nin0))))).keep Kq96 (ninS (Nat.ne_of_lt (Nat.lt_of_lt_of_le Va74.lt (Nat.le_of_eq g77.symm))) nin0)).keep Kq120 (ninS (Nat.ne_of_lt (Nat.lt_of_lt_of_le Va74.lt (Nat.le_of_eq g77.symm))) (ninS (Nat.ne_of_lt (Nat.lt_of_lt_of_le (Va74.ext E77).lt r79_0)) (ninS (Nat.ne_of_lt (Nat.lt_of_lt_of_le (Va74.ext E77).lt r79_1)) (ninS (Nat.ne_of_lt (Nat.lt_of_lt_of_le (Va74.ext E77).lt r79_2)) nin0))))).keep Kq128 (ninS (Nat.ne_of_lt (Nat.lt_of_lt_of_le Va74.lt (Nat.le_of_eq g77.symm))) (ninS (Nat.ne_of_lt (Nat.lt_of_lt_of_le (Va74.ext E77).lt r79_0)) (ninS (Nat.ne_of_lt (Nat.lt_of_lt_of_le (Va74.ext E77).lt r79_1)) (ninS (Nat.ne_of_lt (Nat.lt_of_lt_of_le (Va74.ext E77).lt r79_2)) nin0)))))
    obtain ⟨_, _, ⟨T135, L135, kk135, nn135⟩, -, X135, ⟨Lc135, hQ135, lq135, yq135, zq135⟩, st135⟩ := Jvm.LawKit.callS X133 hx (y := (⟨"com/example/fondskit/fondskit/xml/BoundAttributesGetLocalNamePinLaw", "expected", "([Ljava/lang/String;II)Ljava/lang/String;"⟩ : MethodName)) hown (mvT hZ (hw _ (List.mem_of_getElem? (i := 83) rfl))) (mvT hZ (hw _ (List.mem_of_getElem? (i := 84) rfl))) (mvT hZ (hw _ (List.mem_of_getElem? (i := 85) rfl))) (mvT hZ (hw _ (List.mem_of_getElem? (i := 86) rfl))) (by decide) (backOf (W := 1) (rmEp2 l Z a0 hw [] b63 p3 k63 (.ref b_1) (.ref b3) (.ref b18) T128.heap n0 Z132 q136) hZ (hw _ (List.mem_of_getElem? (i := 86) rfl)) (hw _ (List.mem_of_getElem? (i := 85) rfl)) (by decide) (by decide)) (g := (mkF m 281 #[.val (.int p1), .val (.int p2), .val (.int p3), .val (.int p4), .val (.int p5), .val (.int (2 : Int32)), .val (.int ca), .val (.int cb), .val (.int cc), .val (.int cd), .val (.ref b_1), .val (.ref b3), .val (.ref b18), .val (.ref b36), .val (.ref b51), .val (.ref b63), .val (.ref b77), .val (.int (p4 &&& (3 : Int32))), .unset, .unset] [(.int p3), (.int (2 : Int32)), (.ref b63), (own_sel 2 (.ref b_1) (.ref b3) .null p3)])) rfl (by rw [hml]; rfl) (argsL := [(.ref b63), (.int (2 : Int32)), (.int p3)]) (rest := [(own_sel 2 (.ref b_1) (.ref b3) .null p3)]) (lenOf pd_14 rfl) rfl (by show 2 * 0 + _ ≤ _; simp only [List.map_cons, List.map_nil, XT.cat1 hr133]; exact Nat.le_of_eq rfl) (hb hby at_281) (fun _ _ => ⟨rfl, eh133, (by decide : 19 + 0 ≤ _), (by decide : 69 + 0 ≤ _)⟩)
    dsimp only [Pt.U, Pt.locs, Pt.cells, Pt.slots] at X135 lq135 yq135 zq135 st135 hQ135
    subst yq135 zq135
    obtain ⟨rfl, Nq135, eh135⟩ := hQ135
    have N135 : Fr n0 L135 := by rw [lq135]; exact Fr.app N133 Nq135
    refine Go.step (T' := T135) (f' := (mkF m 284 #[.val (.int p1), .val (.int p2), .val (.int p3), .val (.int p4), .val (.int p5), .val (.int (2 : Int32)), .val (.int ca), .val (.int cb), .val (.int cc), .val (.int cd), .val (.ref b_1), .val (.ref b3), .val (.ref b18), .val (.ref b36), .val (.ref b51), .val (.ref b63), .val (.ref b77), .val (.int (p4 &&& (3 : Int32))), .unset, .unset] [(own_sel 2 (.ref b_1) (.ref b3) .null p3), (own_sel 2 (.ref b_1) (.ref b3) .null p3)])) st135 ?_
    have hr135 : ((own_sel 2 (.ref b_1) (.ref b3) .null p3) : Value).isRef = true := own_selR rfl rfl rfl
    refine Go.step (T' := T135) (f' := (mkF m 287 #[.val (.int p1), .val (.int p2), .val (.int p3), .val (.int p4), .val (.int p5), .val (.int (2 : Int32)), .val (.int ca), .val (.int cb), .val (.int cc), .val (.int cd), .val (.ref b_1), .val (.ref b3), .val (.ref b18), .val (.ref b36), .val (.ref b51), .val (.ref b63), .val (.ref b77), .val (.int (p4 &&& (3 : Int32))), .unset, .unset] [])) (fun _ k => Jvm.RoadKit.acmp (g := (mkF m 284 #[.val (.int p1), .val (.int p2), .val (.int p3), .val (.int p4), .val (.int p5), .val (.int (2 : Int32)), .val (.int ca), .val (.int cb), .val (.int cc), .val (.int cd), .val (.ref b_1), .val (.ref b3), .val (.ref b18), .val (.ref b36), .val (.ref b51), .val (.ref b63), .val (.ref b77), .val (.int (p4 &&& (3 : Int32))), .unset, .unset] [(own_sel 2 (.ref b_1) (.ref b3) .null p3), (own_sel 2 (.ref b_1) (.ref b3) .null p3)])) X135 hx rfl hr135 hr135 (pc0 := 284) (pc' := 287) (same := true) rfl (hb hby at_284) rfl (decide_eq_true rfl) (by decide) (by decide) k) ?_
    refine Go.step (T' := T135) (f' := (mkF m 288 #[.val (.int p1), .val (.int p2), .val (.int p3), .val (.int p4), .val (.int p5), .val (.int (2 : Int32)), .val (.int ca), .val (.int cb), .val (.int cc), .val (.int cd), .val (.ref b_1), .val (.ref b3), .val (.ref b18), .val (.ref b36), .val (.ref b51), .val (.ref b63), .val (.ref b77), .val (.int (p4 &&& (3 : Int32))), .unset, .unset] [(.int (1 : Int32))])) (fun _ k => XS.iconst X135.here hx rfl (hb hby at_287) k) ?_
    refine Go.step (T' := T135) (f' := (mkF m 292 #[.val (.int p1), .val (.int p2), .val (.int p3), .val (.int p4), .val (.int p5), .val (.int (2 : Int32)), .val (.int ca), .val (.int cb), .val (.int cc), .val (.int cd), .val (.ref b_1), .val (.ref b3), .val (.ref b18), .val (.ref b36), .val (.ref b51), .val (.ref b63), .val (.ref b77), .val (.int (p4 &&& (3 : Int32))), .unset, .unset] [(.int (1 : Int32))])) (fun _ k => XS.goto X135.here hx rfl (pc0 := 288) (pc' := 292) rfl (hb hby at_288) (by decide) (by decide) k) ?_
    refine Go.step (T' := T135) (f' := (mkF m 294 #[.val (.int p1), .val (.int p2), .val (.int p3), .val (.int p4), .val (.int p5), .val (.int (2 : Int32)), .val (.int ca), .val (.int cb), .val (.int cc), .val (.int cd), .val (.ref b_1), .val (.ref b3), .val (.ref b18), .val (.ref b36), .val (.ref b51), .val (.ref b63), .val (.ref b77), .val (.int (p4 &&& (3 : Int32))), .val (.int (1 : Int32)), .unset] [])) (fun _ k => XS.istore X135.here hx rfl (hb hby at_292) rfl (l' := #[.val (.int p1), .val (.int p2), .val (.int p3), .val (.int p4), .val (.int p5), .val (.int (2 : Int32)), .val (.int ca), .val (.int cb), .val (.int cc), .val (.int cd), .val (.ref b_1), .val (.ref b3), .val (.ref b18), .val (.ref b36), .val (.ref b51), .val (.ref b63), .val (.ref b77), .val (.int (p4 &&& (3 : Int32))), .val (.int (1 : Int32)), .unset]) rfl k) ?_
    refine Go.step (T' := T135) (f' := (mkF m 296 #[.val (.int p1), .val (.int p2), .val (.int p3), .val (.int p4), .val (.int p5), .val (.int (2 : Int32)), .val (.int ca), .val (.int cb), .val (.int cc), .val (.int cd), .val (.ref b_1), .val (.ref b3), .val (.ref b18), .val (.ref b36), .val (.ref b51), .val (.ref b63), .val (.ref b77), .val (.int (p4 &&& (3 : Int32))), .val (.int (1 : Int32)), .unset] [(.ref b77)])) (fun _ k => XS.aload X135.here hx rfl (hb hby at_294) rfl rfl k) ?_
    refine Go.step (T' := T135) (f' := (mkF m 298 #[.val (.int p1), .val (.int p2), .val (.int p3), .val (.int p4), .val (.int p5), .val (.int (2 : Int32)), .val (.int ca), .val (.int cb), .val (.int cc), .val (.int cd), .val (.ref b_1), .val (.ref b3), .val (.ref b18), .val (.ref b36), .val (.ref b51), .val (.ref b63), .val (.ref b77), .val (.int (p4 &&& (3 : Int32))), .val (.int (1 : Int32)), .unset] [(.int (p4 &&& (3 : Int32))), (.ref b77)])) (fun _ k => XS.iload X135.here hx rfl (hb hby at_296) rfl k) ?_
    obtain ⟨cq137, kq137, q137a, q137b, q137c⟩ := isOf hZ eh135 q134
    obtain ⟨_, _, ⟨T137, L137, kk137, nn137⟩, -, X137, ⟨Lc137, hQ137, lq137, yq137, zq137⟩, st137⟩ := X135.virtualBack hx (y := (⟨"com/example/fondskit/fondskit/xml/BoundAttributes", "getLocalName", "(I)Ljava/lang/String;"⟩ : MethodName)) (z := (⟨"com/example/fondskit/fondskit/xml/BoundAttributes", "getLocalName", "(I)Ljava/lang/String;"⟩ : MethodName)) hown (mvT hZ (hw _ (List.mem_of_getElem? (i := 74) rfl))) (mvT hZ (hw _ (List.mem_of_getElem? (i := 75) rfl))) (notFace_of_selects (args := #[]) (mvT hZ (hw _ (List.mem_of_getElem? (i := 77) rfl)))) (mvT hZ (hw _ (List.mem_of_getElem? (i := 77) rfl))) (mvT hZ (hw _ (List.mem_of_getElem? (i := 76) rfl))) (by decide) (backOf (W := 0) (rmGl2 l Z a0 hw [] b77 (p4 &&& (3 : Int32)) l1_79 kl_79 (.ref b_1) (.ref b3) (.ref b51) .null .null .null .null .null T128.heap n0 Z132 q134 r128_4 r128_3 r128_7) hZ (hw _ (List.mem_of_getElem? (i := 78) rfl)) (hw _ (List.mem_of_getElem? (i := 47) rfl)) (by decide) (by decide)) q137a q137c (g := (mkF m 298 #[.val (.int p1), .val (.int p2), .val (.int p3), .val (.int p4), .val (.int p5), .val (.int (2 : Int32)), .val (.int ca), .val (.int cb), .val (.int cc), .val (.int cd), .val (.ref b_1), .val (.ref b3), .val (.ref b18), .val (.ref b36), .val (.ref b51), .val (.ref b63), .val (.ref b77), .val (.int (p4 &&& (3 : Int32))), .val (.int (1 : Int32)), .unset] [(.int (p4 &&& (3 : Int32))), (.ref b77)])) rfl (by rw [hml]; rfl) (Steps.refl _) (argsL := [(.int (p4 &&& (3 : Int32)))]) (rest := []) (lenOf pd_13 rfl) rfl (by show 2 * 0 + _ ≤ _; exact Nat.le_of_eq rfl) (hb hby at_298) (fun _ _ => ⟨rfl, eh135, (by decide : 19 + 0 ≤ _), (by decide : 69 + 0 ≤ _)⟩)
    dsimp only [Pt.U, Pt.locs, Pt.cells, Pt.slots] at X137 lq137 yq137 zq137 st137 hQ137
    subst yq137 zq137
    obtain ⟨rfl, Nq137, eh137⟩ := hQ137
    have N137 : Fr n0 L137 := by rw [lq137]; exact Fr.app N135 Nq137
    refine Go.step (T' := T137) (f' := (mkF m 301 #[.val (.int p1), .val (.int p2), .val (.int p3), .val (.int p4), .val (.int p5), .val (.int (2 : Int32)), .val (.int ca), .val (.int cb), .val (.int cc), .val (.int cd), .val (.ref b_1), .val (.ref b3), .val (.ref b18), .val (.ref b36), .val (.ref b51), .val (.ref b63), .val (.ref b77), .val (.int (p4 &&& (3 : Int32))), .val (.int (1 : Int32)), .unset] [(own_sel 2 (.ref b_1) (.ref b3) .null (p4 &&& (3 : Int32)))])) (fun _ k => st137.trans k) ?_
    have hr137 : ((own_sel 2 (.ref b_1) (.ref b3) .null (p4 &&& (3 : Int32))) : Value).isRef = true := own_selR rfl rfl rfl
    refine Go.step (T' := T137) (f' := (mkF m 303 #[.val (.int p1), .val (.int p2), .val (.int p3), .val (.int p4), .val (.int p5), .val (.int (2 : Int32)), .val (.int ca), .val (.int cb), .val (.int cc), .val (.int cd), .val (.ref b_1), .val (.ref b3), .val (.ref b18), .val (.ref b36), .val (.ref b51), .val (.ref b63), .val (.ref b77), .val (.int (p4 &&& (3 : Int32))), .val (.int (1 : Int32)), .unset] [(.ref b63), (own_sel 2 (.ref b_1) (.ref b3) .null (p4 &&& (3 : Int32)))])) (fun _ k => XS.aload X137.here hx rfl (hb hby at_301) rfl rfl k) ?_
    refine Go.step (T' := T137) (f' := (mkF m 305 #[.val (.int p1), .val (.int p2), .val (.int p3), .val (.int p4), .val (.int p5), .val (.int (2 : Int32)), .val (.int ca), .val (.int cb), .val (.int cc), .val (.int cd), .val (.ref b_1), .val (.ref b3), .val (.ref b18), .val (.ref b36), .val (.ref b51), .val (.ref b63), .val (.ref b77), .val (.int (p4 &&& (3 : Int32))), .val (.int (1 : Int32)), .unset] [(.int (2 : Int32)), (.ref b63), (own_sel 2 (.ref b_1) (.ref b3) .null (p4 &&& (3 : Int32)))])) (fun _ k => XS.iload X137.here hx rfl (hb hby at_303) rfl k) ?_
    refine Go.step (T' := T137) (f' := (mkF m 307 #[.val (.int p1), .val (.int p2), .val (.int p3), .val (.int p4), .val (.int p5), .val (.int (2 : Int32)), .val (.int ca), .val (.int cb), .val (.int cc), .val (.int cd), .val (.ref b_1), .val (.ref b3), .val (.ref b18), .val (.ref b36), .val (.ref b51), .val (.ref b63), .val (.ref b77), .val (.int (p4 &&& (3 : Int32))), .val (.int (1 : Int32)), .unset] [(.int (p4 &&& (3 : Int32))), (.int (2 : Int32)), (.ref b63), (own_sel 2 (.ref b_1) (.ref b3) .null (p4 &&& (3 : Int32)))])) (fun _ k => XS.iload X137.here hx rfl (hb hby at_305) rfl k) ?_
    obtain ⟨_, _, ⟨T138, L138, kk138, nn138⟩, -, X138, ⟨Lc138, hQ138, lq138, yq138, zq138⟩, st138⟩ := Jvm.LawKit.callS X137 hx (y := (⟨"com/example/fondskit/fondskit/xml/BoundAttributesGetLocalNamePinLaw", "expected", "([Ljava/lang/String;II)Ljava/lang/String;"⟩ : MethodName)) hown (mvT hZ (hw _ (List.mem_of_getElem? (i := 83) rfl))) (mvT hZ (hw _ (List.mem_of_getElem? (i := 84) rfl))) (mvT hZ (hw _ (List.mem_of_getElem? (i := 85) rfl))) (mvT hZ (hw _ (List.mem_of_getElem? (i := 86) rfl))) (by decide) (backOf (W := 1) (rmEp2 l Z a0 hw [] b63 (p4 &&& (3 : Int32)) k63 (.ref b_1) (.ref b3) (.ref b18) T128.heap n0 Z132 q136) hZ (hw _ (List.mem_of_getElem? (i := 86) rfl)) (hw _ (List.mem_of_getElem? (i := 85) rfl)) (by decide) (by decide)) (g := (mkF m 307 #[.val (.int p1), .val (.int p2), .val (.int p3), .val (.int p4), .val (.int p5), .val (.int (2 : Int32)), .val (.int ca), .val (.int cb), .val (.int cc), .val (.int cd), .val (.ref b_1), .val (.ref b3), .val (.ref b18), .val (.ref b36), .val (.ref b51), .val (.ref b63), .val (.ref b77), .val (.int (p4 &&& (3 : Int32))), .val (.int (1 : Int32)), .unset] [(.int (p4 &&& (3 : Int32))), (.int (2 : Int32)), (.ref b63), (own_sel 2 (.ref b_1) (.ref b3) .null (p4 &&& (3 : Int32)))])) rfl (by rw [hml]; rfl) (argsL := [(.ref b63), (.int (2 : Int32)), (.int (p4 &&& (3 : Int32)))]) (rest := [(own_sel 2 (.ref b_1) (.ref b3) .null (p4 &&& (3 : Int32)))]) (lenOf pd_14 rfl) rfl (by show 2 * 0 + _ ≤ _; simp only [List.map_cons, List.map_nil, XT.cat1 hr137]; exact Nat.le_of_eq rfl) (hb hby at_307) (fun _ _ => ⟨rfl, eh137, (by decide : 19 + 0 ≤ _), (by decide : 69 + 0 ≤ _)⟩)
    dsimp only [Pt.U, Pt.locs, Pt.cells, Pt.slots] at X138 lq138 yq138 zq138 st138 hQ138
    subst yq138 zq138
    obtain ⟨rfl, Nq138, eh138⟩ := hQ138
    have N138 : Fr n0 L138 := by rw [lq138]; exact Fr.app N137 Nq138
    refine Go.step (T' := T138) (f' := (mkF m 310 #[.val (.int p1), .val (.int p2), .val (.int p3), .val (.int p4), .val (.int p5), .val (.int (2 : Int32)), .val (.int ca), .val (.int cb), .val (.int cc), .val (.int cd), .val (.ref b_1), .val (.ref b3), .val (.ref b18), .val (.ref b36), .val (.ref b51), .val (.ref b63), .val (.ref b77), .val (.int (p4 &&& (3 : Int32))), .val (.int (1 : Int32)), .unset] [(own_sel 2 (.ref b_1) (.ref b3) .null (p4 &&& (3 : Int32))), (own_sel 2 (.ref b_1) (.ref b3) .null (p4 &&& (3 : Int32)))])) st138 ?_
    have hr138 : ((own_sel 2 (.ref b_1) (.ref b3) .null (p4 &&& (3 : Int32))) : Value).isRef = true := own_selR rfl rfl rfl
    refine Go.step (T' := T138) (f' := (mkF m 313 #[.val (.int p1), .val (.int p2), .val (.int p3), .val (.int p4), .val (.int p5), .val (.int (2 : Int32)), .val (.int ca), .val (.int cb), .val (.int cc), .val (.int cd), .val (.ref b_1), .val (.ref b3), .val (.ref b18), .val (.ref b36), .val (.ref b51), .val (.ref b63), .val (.ref b77), .val (.int (p4 &&& (3 : Int32))), .val (.int (1 : Int32)), .unset] [])) (fun _ k => Jvm.RoadKit.acmp (g := (mkF m 310 #[.val (.int p1), .val (.int p2), .val (.int p3), .val (.int p4), .val (.int p5), .val (.int (2 : Int32)), .val (.int ca), .val (.int cb), .val (.int cc), .val (.int cd), .val (.ref b_1), .val (.ref b3), .val (.ref b18), .val (.ref b36), .val (.ref b51), .val (.ref b63), .val (.ref b77), .val (.int (p4 &&& (3 : Int32))), .val (.int (1 : Int32)), .unset] [(own_sel 2 (.ref b_1) (.ref b3) .null (p4 &&& (3 : Int32))), (own_sel 2 (.ref b_1) (.ref b3) .null (p4 &&& (3 : Int32)))])) X138 hx rfl hr138 hr138 (pc0 := 310) (pc' := 313) (same := true) rfl (hb hby at_310) rfl (decide_eq_true rfl) (by decide) (by decide) k) ?_
    refine Go.step (T' := T138) (f' := (mkF m 314 #[.val (.int p1), .val (.int p2), .val (.int p3), .val (.int p4), .val (.int p5), .val (.int (2 : Int32)), .val (.int ca), .val (.int cb), .val (.int cc), .val (.int cd), .val (.ref b_1), .val (.ref b3), .val (.ref b18), .val (.ref b36), .val (.ref b51), .val (.ref b63), .val (.ref b77), .val (.int (p4 &&& (3 : Int32))), .val (.int (1 : Int32)), .unset] [(.int (1 : Int32))])) (fun _ k => XS.iconst X138.here hx rfl (hb hby at_313) k) ?_
    refine Go.step (T' := T138) (f' := (mkF m 318 #[.val (.int p1), .val (.int p2), .val (.int p3), .val (.int p4), .val (.int p5), .val (.int (2 : Int32)), .val (.int ca), .val (.int cb), .val (.int cc), .val (.int cd), .val (.ref b_1), .val (.ref b3), .val (.ref b18), .val (.ref b36), .val (.ref b51), .val (.ref b63), .val (.ref b77), .val (.int (p4 &&& (3 : Int32))), .val (.int (1 : Int32)), .unset] [(.int (1 : Int32))])) (fun _ k => XS.goto X138.here hx rfl (pc0 := 314) (pc' := 318) rfl (hb hby at_314) (by decide) (by decide) k) ?_
    refine Go.step (T' := T138) (f' := (mkF m 320 #[.val (.int p1), .val (.int p2), .val (.int p3), .val (.int p4), .val (.int p5), .val (.int (2 : Int32)), .val (.int ca), .val (.int cb), .val (.int cc), .val (.int cd), .val (.ref b_1), .val (.ref b3), .val (.ref b18), .val (.ref b36), .val (.ref b51), .val (.ref b63), .val (.ref b77), .val (.int (p4 &&& (3 : Int32))), .val (.int (1 : Int32)), .val (.int (1 : Int32))] [])) (fun _ k => XS.istore X138.here hx rfl (hb hby at_318) rfl (l' := #[.val (.int p1), .val (.int p2), .val (.int p3), .val (.int p4), .val (.int p5), .val (.int (2 : Int32)), .val (.int ca), .val (.int cb), .val (.int cc), .val (.int cd), .val (.ref b_1), .val (.ref b3), .val (.ref b18), .val (.ref b36), .val (.ref b51), .val (.ref b63), .val (.ref b77), .val (.int (p4 &&& (3 : Int32))), .val (.int (1 : Int32)), .val (.int (1 : Int32))]) rfl k) ?_
    refine Go.step (T' := T138) (f' := (mkF m 322 #[.val (.int p1), .val (.int p2), .val (.int p3), .val (.int p4), .val (.int p5), .val (.int (2 : Int32)), .val (.int ca), .val (.int cb), .val (.int cc), .val (.int cd), .val (.ref b_1), .val (.ref b3), .val (.ref b18), .val (.ref b36), .val (.ref b51), .val (.ref b63), .val (.ref b77), .val (.int (p4 &&& (3 : Int32))), .val (.int (1 : Int32)), .val (.int (1 : Int32))] [(.int (1 : Int32))])) (fun _ k => XS.iload X138.here hx rfl (hb hby at_320) rfl k) ?_
    refine Go.step (T' := T138) (f' := (mkF m 325 #[.val (.int p1), .val (.int p2), .val (.int p3), .val (.int p4), .val (.int p5), .val (.int (2 : Int32)), .val (.int ca), .val (.int cb), .val (.int cc), .val (.int cd), .val (.ref b_1), .val (.ref b3), .val (.ref b18), .val (.ref b36), .val (.ref b51), .val (.ref b63), .val (.ref b77), .val (.int (p4 &&& (3 : Int32))), .val (.int (1 : Int32)), .val (.int (1 : Int32))] [])) (fun _ k => XS.ifNo X138.here hx rfl (hb hby at_322) rfl ((if0 _ _).trans (feq (by decide : ¬ ((1 : Int32) = (0 : Int32)))).1) k) ?_
    refine Go.step (T' := T138) (f' := (mkF m 327 #[.val (.int p1), .val (.int p2), .val (.int p3), .val (.int p4), .val (.int p5), .val (.int (2 : Int32)), .val (.int ca), .val (.int cb), .val (.int cc), .val (.int cd), .val (.ref b_1), .val (.ref b3), .val (.ref b18), .val (.ref b36), .val (.ref b51), .val (.ref b63), .val (.ref b77), .val (.int (p4 &&& (3 : Int32))), .val (.int (1 : Int32)), .val (.int (1 : Int32))] [(.int (1 : Int32))])) (fun _ k => XS.iload X138.here hx rfl (hb hby at_325) rfl k) ?_
    refine Go.step (T' := T138) (f' := (mkF m 330 #[.val (.int p1), .val (.int p2), .val (.int p3), .val (.int p4), .val (.int p5), .val (.int (2 : Int32)), .val (.int ca), .val (.int cb), .val (.int cc), .val (.int cd), .val (.ref b_1), .val (.ref b3), .val (.ref b18), .val (.ref b36), .val (.ref b51), .val (.ref b63), .val (.ref b77), .val (.int (p4 &&& (3 : Int32))), .val (.int (1 : Int32)), .val (.int (1 : Int32))] [])) (fun _ k => XS.ifNo X138.here hx rfl (hb hby at_327) rfl ((if0 _ _).trans (feq (by decide : ¬ ((1 : Int32) = (0 : Int32)))).1) k) ?_
    refine Go.step (T' := T138) (f' := (mkF m 331 #[.val (.int p1), .val (.int p2), .val (.int p3), .val (.int p4), .val (.int p5), .val (.int (2 : Int32)), .val (.int ca), .val (.int cb), .val (.int cc), .val (.int cd), .val (.ref b_1), .val (.ref b3), .val (.ref b18), .val (.ref b36), .val (.ref b51), .val (.ref b63), .val (.ref b77), .val (.int (p4 &&& (3 : Int32))), .val (.int (1 : Int32)), .val (.int (1 : Int32))] [(.int (1 : Int32))])) (fun _ k => XS.iconst X138.here hx rfl (hb hby at_330) k) ?_
    refine Go.step (T' := T138) (f' := (mkF m 335 #[.val (.int p1), .val (.int p2), .val (.int p3), .val (.int p4), .val (.int p5), .val (.int (2 : Int32)), .val (.int ca), .val (.int cb), .val (.int cc), .val (.int cd), .val (.ref b_1), .val (.ref b3), .val (.ref b18), .val (.ref b36), .val (.ref b51), .val (.ref b63), .val (.ref b77), .val (.int (p4 &&& (3 : Int32))), .val (.int (1 : Int32)), .val (.int (1 : Int32))] [(.int (1 : Int32))])) (fun _ k => XS.goto X138.here hx rfl (pc0 := 331) (pc' := 335) rfl (hb hby at_331) (by decide) (by decide) k) ?_
    refine goN X138 hx (t := .boolean) Bd.returns (by simp) Bd.notSynchronized (hb hby at_335) ?_ (by decide) (by decide)
    show Q_rm0 Z p1 p2 p3 p4 p5 cs h0 n0 _ T138.heap _
    rw [eh138]
    exact ⟨rfl, N138⟩
  · rw [hn]
    refine Go.step (T' := T96) (f' := (mkF m 212 #[.val (.int p1), .val (.int p2), .val (.int p3), .val (.int p4), .val (.int p5), .val (.int (3 : Int32)), .val (.int ca), .val (.int cb), .val (.int cc), .val (.int cd), .val (.ref b_1), .val (.ref b3), .val (.ref b18), .val (.ref b36), .val (.ref b51), .val (.ref b63), .val (.ref b77), .unset, .unset, .unset] [(.int (3 : Int32))])) (fun _ k => XS.iload X96.here hx rfl (hb hby at_210) rfl k) ?_
    refine Go.step (T' := T96) (f' := (mkF m 213 #[.val (.int p1), .val (.int p2), .val (.int p3), .val (.int p4), .val (.int p5), .val (.int (3 : Int32)), .val (.int ca), .val (.int cb), .val (.int cc), .val (.int cd), .val (.ref b_1), .val (.ref b3), .val (.ref b18), .val (.ref b36), .val (.ref b51), .val (.ref b63), .val (.ref b77), .unset, .unset, .unset] [(.int (1 : Int32)), (.int (3 : Int32))])) (fun _ k => XS.iconst X96.here hx rfl (hb hby at_212) k) ?_
    refine Go.step (T' := T96) (f' := (mkF m 216 #[.val (.int p1), .val (.int p2), .val (.int p3), .val (.int p4), .val (.int p5), .val (.int (3 : Int32)), .val (.int ca), .val (.int cb), .val (.int cc), .val (.int cd), .val (.ref b_1), .val (.ref b3), .val (.ref b18), .val (.ref b36), .val (.ref b51), .val (.ref b63), .val (.ref b77), .unset, .unset, .unset] [])) (fun _ k => XS.icmpNo X96.here hx rfl (hb hby at_213) rfl (flt (by decide : ¬ ((3 : Int32) < (1 : Int32)))).1 k) ?_
    refine Go.step (T' := T96) (f' := (mkF m 218 #[.val (.int p1), .val (.int p2), .val (.int p3), .val (.int p4), .val (.int p5), .val (.int (3 : Int32)), .val (.int ca), .val (.int cb), .val (.int cc), .val (.int cd), .val (.ref b_1), .val (.ref b3), .val (.ref b18), .val (.ref b36), .val (.ref b51), .val (.ref b63), .val (.ref b77), .unset, .unset, .unset] [(.ref b77)])) (fun _ k => XS.aload X96.here hx rfl (hb hby at_216) rfl rfl k) ?_
    refine Go.step (T' := T96) (f' := (mkF m 220 #[.val (.int p1), .val (.int p2), .val (.int p3), .val (.int p4), .val (.int p5), .val (.int (3 : Int32)), .val (.int ca), .val (.int cb), .val (.int cc), .val (.int cd), .val (.ref b_1), .val (.ref b3), .val (.ref b18), .val (.ref b36), .val (.ref b51), .val (.ref b63), .val (.ref b77), .unset, .unset, .unset] [(.int p5), (.ref b77)])) (fun _ k => XS.iload X96.here hx rfl (hb hby at_218) rfl k) ?_
    refine Go.step (T' := T96) (f' := (mkF m 222 #[.val (.int p1), .val (.int p2), .val (.int p3), .val (.int p4), .val (.int p5), .val (.int (3 : Int32)), .val (.int ca), .val (.int cb), .val (.int cc), .val (.int cd), .val (.ref b_1), .val (.ref b3), .val (.ref b18), .val (.ref b36), .val (.ref b51), .val (.ref b63), .val (.ref b77), .unset, .unset, .unset] [(.ref b36), (.int p5), (.ref b77)])) (fun _ k => XS.aload X96.here hx rfl (hb hby at_220) rfl rfl k) ?_
    refine Go.step (T' := T96) (f' := (mkF m 224 #[.val (.int p1), .val (.int p2), .val (.int p3), .val (.int p4), .val (.int p5), .val (.int (3 : Int32)), .val (.int ca), .val (.int cb), .val (.int cc), .val (.int cd), .val (.ref b_1), .val (.ref b3), .val (.ref b18), .val (.ref b36), .val (.ref b51), .val (.ref b63), .val (.ref b77), .unset, .unset, .unset] [(.ref b_1), (.ref b36), (.int p5), (.ref b77)])) (fun _ k => XS.aload X96.here hx rfl (hb hby at_222) rfl rfl k) ?_
    have q140 : Exa Z T96.heap b77 "com/example/fondskit/fondskit/xml/BoundAttributes" := (q97.keep Kq96)
    have q141 : Exa Z T96.heap b36 "java/lang/String" := ((q93.keep Kq91).keep Kq96)
    have q142 : Exa Z T96.heap b_1 "java/lang/String" := (((((((((q67.wr W66).wr W70).wr W74).ext E77).keep Kq79).keep Kq81).keep Kq86).keep Kq91).keep Kq96)
    have q143 : Arv Z T96.heap i_79 ki_79 .int (8 : Int32) [(.int p5), (.int p5), (.int p5), (.int (0 : Int32)), (.int (0 : Int32)), (.int (0 : Int32)), (.int (0 : Int32)), (.int (0 : Int32))] (.int (0 : Int32)) := (r91_5.keep Kq96 (ninS (Ne.symm (Nat.ne_of_lt (Nat.lt_of_lt_of_le A77.lt r79_0))) nin0))
    have q144 : Arv Z T96.heap n_79 kn_79 (.object "java/lang/String") (8 : Int32) [(.ref b36), (.ref b36), (.ref b36), .null, .null, .null, .null, .null] .null := (r91_6.keep Kq96 (ninS (Ne.symm (Nat.ne_of_lt (Nat.lt_of_lt_of_le A77.lt r79_1))) nin0))
    have q145 : Arv Z T96.heap l1_79 kl_79 (.object "java/lang/String") (8 : Int32) [(.ref b51), (.ref b51), (.ref b51), .null, .null, .null, .null, .null] .null := (r91_7.keep Kq96 (ninS (Ne.symm (Nat.ne_of_lt (Nat.lt_of_lt_of_le A77.lt r79_2))) nin0))
    obtain ⟨cq139, kq139, q139a, q139b, q139c⟩ := isOf hZ rfl q140
    obtain ⟨_, _, ⟨T139, L139, kk139, nn139⟩, -, X139, ⟨Lc139, hQ139, lq139, yq139, zq139⟩, st139⟩ := X96.virtualBack hx (y := (⟨"com/example/fondskit/fondskit/xml/BoundAttributes", "add", "(ILjava/lang/String;Ljava/lang/String;)V"⟩ : MethodName)) (z := (⟨"com/example/fondskit/fondskit/xml/BoundAttributes", "add", "(ILjava/lang/String;Ljava/lang/String;)V"⟩ : MethodName)) hown (mvT hZ (hw _ (List.mem_of_getElem? (i := 60) rfl))) (mvT hZ (hw _ (List.mem_of_getElem? (i := 61) rfl))) (notFace_of_selects (args := #[]) (mvT hZ (hw _ (List.mem_of_getElem? (i := 63) rfl)))) (mvT hZ (hw _ (List.mem_of_getElem? (i := 63) rfl))) (mvT hZ (hw _ (List.mem_of_getElem? (i := 62) rfl))) (by decide) (backOf (W := 0) (rmAdd0 l Z a0 hw [] b77 p5 b36 b_1 i_79 n_79 l1_79 ki_79 kn_79 kl_79 (.int p5) (.int p5) (.int p5) (.int (0 : Int32)) (.int (0 : Int32)) (.int (0 : Int32)) (.int (0 : Int32)) (.int (0 : Int32)) (.ref b36) (.ref b36) (.ref b36) .null .null .null .null .null (.ref b51) (.ref b51) (.ref b51) .null .null .null .null .null T96.heap n0 Z98 q140 q141 q142 r96_0 r96_1 r96_2 r96_3 r96_4 q143 q144 q145 (Ne.symm (Nat.ne_of_lt (Nat.lt_of_lt_of_le A77.lt r79_0))) (Ne.symm (Nat.ne_of_lt (Nat.lt_of_lt_of_le A77.lt r79_1))) (Ne.symm (Nat.ne_of_lt (Nat.lt_of_lt_of_le A77.lt r79_2))) r79_3 r79_4 r79_5 r79_6 r79_7 g_b77 g_i_79 g_n_79 g_l1_79) hZ (hw _ (List.mem_of_getElem? (i := 64) rfl)) (hw _ (List.mem_of_getElem? (i := 47) rfl)) (by decide) (by decide)) q139a q139c (g := (mkF m 224 #[.val (.int p1), .val (.int p2), .val (.int p3), .val (.int p4), .val (.int p5), .val (.int (3 : Int32)), .val (.int ca), .val (.int cb), .val (.int cc), .val (.int cd), .val (.ref b_1), .val (.ref b3), .val (.ref b18), .val (.ref b36), .val (.ref b51), .val (.ref b63), .val (.ref b77), .unset, .unset, .unset] [(.ref b_1), (.ref b36), (.int p5), (.ref b77)])) rfl (by rw [hml]; rfl) (Steps.refl _) (argsL := [(.int p5), (.ref b36), (.ref b_1)]) (rest := []) (lenOf pd_11 rfl) rfl (by show 2 * 0 + _ ≤ _; exact Nat.le_of_eq rfl) (hb hby at_224) (fun _ _ => ⟨rfl, rfl, (by decide : 19 + 0 ≤ _), (by decide : 69 + 0 ≤ _)⟩)
    dsimp only [Pt.U, Pt.locs, Pt.cells, Pt.slots] at X139 lq139 yq139 zq139 st139 hQ139
    subst yq139 zq139
    obtain ⟨rfl, Nq139, Kq139, r139_0, r139_1, r139_2, r139_3, r139_4, r139_5, r139_6, r139_7⟩ := hQ139
    have N139 : Fr n0 L139 := by rw [lq139]; exact Fr.app N96 Nq139
    have Z146 : n0 ≤ T139.heap.size := Nat.le_trans Z98 Kq139.1
    have O146 : Old Z n0 T139.heap := O98.keep Kq139 (allS g_b77 (allS g_i_79 (allS g_n_79 (allS g_l1_79 all0))))
    refine Go.step (T' := T139) (f' := (mkF m 227 #[.val (.int p1), .val (.int p2), .val (.int p3), .val (.int p4), .val (.int p5), .val (.int (3 : Int32)), .val (.int ca), .val (.int cb), .val (.int cc), .val (.int cd), .val (.ref b_1), .val (.ref b3), .val (.ref b18), .val (.ref b36), .val (.ref b51), .val (.ref b63), .val (.ref b77), .unset, .unset, .unset] [])) (fun _ k => st139.trans k) ?_
    refine Go.step (T' := T139) (f' := (mkF m 229 #[.val (.int p1), .val (.int p2), .val (.int p3), .val (.int p4), .val (.int p5), .val (.int (3 : Int32)), .val (.int ca), .val (.int cb), .val (.int cc), .val (.int cd), .val (.ref b_1), .val (.ref b3), .val (.ref b18), .val (.ref b36), .val (.ref b51), .val (.ref b63), .val (.ref b77), .unset, .unset, .unset] [(.int (3 : Int32))])) (fun _ k => XS.iload X139.here hx rfl (hb hby at_227) rfl k) ?_
    refine Go.step (T' := T139) (f' := (mkF m 230 #[.val (.int p1), .val (.int p2), .val (.int p3), .val (.int p4), .val (.int p5), .val (.int (3 : Int32)), .val (.int ca), .val (.int cb), .val (.int cc), .val (.int cd), .val (.ref b_1), .val (.ref b3), .val (.ref b18), .val (.ref b36), .val (.ref b51), .val (.ref b63), .val (.ref b77), .unset, .unset, .unset] [(.int (2 : Int32)), (.int (3 : Int32))])) (fun _ k => XS.iconst X139.here hx rfl (hb hby at_229) k) ?_
    refine Go.step (T' := T139) (f' := (mkF m 233 #[.val (.int p1), .val (.int p2), .val (.int p3), .val (.int p4), .val (.int p5), .val (.int (3 : Int32)), .val (.int ca), .val (.int cb), .val (.int cc), .val (.int cd), .val (.ref b_1), .val (.ref b3), .val (.ref b18), .val (.ref b36), .val (.ref b51), .val (.ref b63), .val (.ref b77), .unset, .unset, .unset] [])) (fun _ k => XS.icmpNo X139.here hx rfl (hb hby at_230) rfl (flt (by decide : ¬ ((3 : Int32) < (2 : Int32)))).1 k) ?_
    refine Go.step (T' := T139) (f' := (mkF m 235 #[.val (.int p1), .val (.int p2), .val (.int p3), .val (.int p4), .val (.int p5), .val (.int (3 : Int32)), .val (.int ca), .val (.int cb), .val (.int cc), .val (.int cd), .val (.ref b_1), .val (.ref b3), .val (.ref b18), .val (.ref b36), .val (.ref b51), .val (.ref b63), .val (.ref b77), .unset, .unset, .unset] [(.ref b77)])) (fun _ k => XS.aload X139.here hx rfl (hb hby at_233) rfl rfl k) ?_
    refine Go.step (T' := T139) (f' := (mkF m 237 #[.val (.int p1), .val (.int p2), .val (.int p3), .val (.int p4), .val (.int p5), .val (.int (3 : Int32)), .val (.int ca), .val (.int cb), .val (.int cc), .val (.int cd), .val (.ref b_1), .val (.ref b3), .val (.ref b18), .val (.ref b36), .val (.ref b51), .val (.ref b63), .val (.ref b77), .unset, .unset, .unset] [(.int p5), (.ref b77)])) (fun _ k => XS.iload X139.here hx rfl (hb hby at_235) rfl k) ?_
    refine Go.step (T' := T139) (f' := (mkF m 238 #[.val (.int p1), .val (.int p2), .val (.int p3), .val (.int p4), .val (.int p5), .val (.int (3 : Int32)), .val (.int ca), .val (.int cb), .val (.int cc), .val (.int cd), .val (.ref b_1), .val (.ref b3), .val (.ref b18), .val (.ref b36), .val (.ref b51), .val (.ref b63), .val (.ref b77), .unset, .unset, .unset] [(.int (1 : Int32)), (.int p5), (.ref b77)])) (fun _ k => XS.iconst X139.here hx rfl (hb hby at_237) k) ?_
    refine Go.step (T' := T139) (f' := (mkF m 239 #[.val (.int p1), .val (.int p2), .val (.int p3), .val (.int p4), .val (.int p5), .val (.int (3 : Int32)), .val (.int ca), .val (.int cb), .val (.int cc), .val (.int cd), .val (.ref b_1), .val (.ref b3), .val (.ref b18), .val (.ref b36), .val (.ref b51), .val (.ref b63), .val (.ref b77), .unset, .unset, .unset] [(.int (p5 + (1 : Int32))), (.ref b77)])) (fun _ k => XS.iadd X139.here hx rfl (hb hby at_238) rfl k) ?_
    refine Go.step (T' := T139) (f' := (mkF m 241 #[.val (.int p1), .val (.int p2), .val (.int p3), .val (.int p4), .val (.int p5), .val (.int (3 : Int32)), .val (.int ca), .val (.int cb), .val (.int cc), .val (.int cd), .val (.ref b_1), .val (.ref b3), .val (.ref b18), .val (.ref b36), .val (.ref b51), .val (.ref b63), .val (.ref b77), .unset, .unset, .unset] [(.ref b36), (.int (p5 + (1 : Int32))), (.ref b77)])) (fun _ k => XS.aload X139.here hx rfl (hb hby at_239) rfl rfl k) ?_
    refine Go.step (T' := T139) (f' := (mkF m 243 #[.val (.int p1), .val (.int p2), .val (.int p3), .val (.int p4), .val (.int p5), .val (.int (3 : Int32)), .val (.int ca), .val (.int cb), .val (.int cc), .val (.int cd), .val (.ref b_1), .val (.ref b3), .val (.ref b18), .val (.ref b36), .val (.ref b51), .val (.ref b63), .val (.ref b77), .unset, .unset, .unset] [(.ref b3), (.ref b36), (.int (p5 + (1 : Int32))), (.ref b77)])) (fun _ k => XS.aload X139.here hx rfl (hb hby at_241) rfl rfl k) ?_
    have q148 : Exa Z T139.heap b77 "com/example/fondskit/fondskit/xml/BoundAttributes" := (q140.keep Kq139)
    have q149 : Exa Z T139.heap b36 "java/lang/String" := (q141.keep Kq139)
    have q150 : Exa Z T139.heap b3 "java/lang/String" := (((((((((q71.wr W70).wr W74).ext E77).keep Kq79).keep Kq81).keep Kq86).keep Kq91).keep Kq96).keep Kq139)
    obtain ⟨cq147, kq147, q147a, q147b, q147c⟩ := isOf hZ rfl q148
    obtain ⟨_, _, ⟨T147, L147, kk147, nn147⟩, -, X147, ⟨Lc147, hQ147, lq147, yq147, zq147⟩, st147⟩ := X139.virtualBack hx (y := (⟨"com/example/fondskit/fondskit/xml/BoundAttributes", "add", "(ILjava/lang/String;Ljava/lang/String;)V"⟩ : MethodName)) (z := (⟨"com/example/fondskit/fondskit/xml/BoundAttributes", "add", "(ILjava/lang/String;Ljava/lang/String;)V"⟩ : MethodName)) hown (mvT hZ (hw _ (List.mem_of_getElem? (i := 60) rfl))) (mvT hZ (hw _ (List.mem_of_getElem? (i := 61) rfl))) (notFace_of_selects (args := #[]) (mvT hZ (hw _ (List.mem_of_getElem? (i := 63) rfl)))) (mvT hZ (hw _ (List.mem_of_getElem? (i := 63) rfl))) (mvT hZ (hw _ (List.mem_of_getElem? (i := 62) rfl))) (by decide) (backOf (W := 0) (rmAdd1 l Z a0 hw [] b77 (p5 + (1 : Int32)) b36 b3 i_79 n_79 l1_79 ki_79 kn_79 kl_79 (.int p5) (.int p5) (.int p5) (.int (0 : Int32)) (.int (0 : Int32)) (.int (0 : Int32)) (.int (0 : Int32)) (.int (0 : Int32)) (.ref b36) (.ref b36) (.ref b36) .null .null .null .null .null (.ref b_1) (.ref b51) (.ref b51) .null .null .null .null .null T139.heap n0 Z146 q148 q149 q150 r139_0 r139_1 r139_2 r139_3 r139_4 r139_5 r139_6 r139_7 (Ne.symm (Nat.ne_of_lt (Nat.lt_of_lt_of_le A77.lt r79_0))) (Ne.symm (Nat.ne_of_lt (Nat.lt_of_lt_of_le A77.lt r79_1))) (Ne.symm (Nat.ne_of_lt (Nat.lt_of_lt_of_le A77.lt r79_2))) r79_3 r79_4 r79_5 r79_6 r79_7 g_b77 g_i_79 g_n_79 g_l1_79) hZ (hw _ (List.mem_of_getElem? (i := 64) rfl)) (hw _ (List.mem_of_getElem? (i := 47) rfl)) (by decide) (by decide)) q147a q147c (g := (mkF m 243 #[.val (.int p1), .val (.int p2), .val (.int p3), .val (.int p4), .val (.int p5), .val (.int (3 : Int32)), .val (.int ca), .val (.int cb), .val (.int cc), .val (.int cd), .val (.ref b_1), .val (.ref b3), .val (.ref b18), .val (.ref b36), .val (.ref b51), .val (.ref b63), .val (.ref b77), .unset, .unset, .unset] [(.ref b3), (.ref b36), (.int (p5 + (1 : Int32))), (.ref b77)])) rfl (by rw [hml]; rfl) (Steps.refl _) (argsL := [(.int (p5 + (1 : Int32))), (.ref b36), (.ref b3)]) (rest := []) (lenOf pd_11 rfl) rfl (by show 2 * 0 + _ ≤ _; exact Nat.le_of_eq rfl) (hb hby at_243) (fun _ _ => ⟨rfl, rfl, (by decide : 19 + 0 ≤ _), (by decide : 69 + 0 ≤ _)⟩)
    dsimp only [Pt.U, Pt.locs, Pt.cells, Pt.slots] at X147 lq147 yq147 zq147 st147 hQ147
    subst yq147 zq147
    obtain ⟨rfl, Nq147, Kq147, r147_0, r147_1, r147_2, r147_3, r147_4, r147_5, r147_6, r147_7⟩ := hQ147
    have N147 : Fr n0 L147 := by rw [lq147]; exact Fr.app N139 Nq147
    have Z151 : n0 ≤ T147.heap.size := Nat.le_trans Z146 Kq147.1
    have O151 : Old Z n0 T147.heap := O146.keep Kq147 (allS g_b77 (allS g_i_79 (allS g_n_79 (allS g_l1_79 all0))))
    refine Go.step (T' := T147) (f' := (mkF m 246 #[.val (.int p1), .val (.int p2), .val (.int p3), .val (.int p4), .val (.int p5), .val (.int (3 : Int32)), .val (.int ca), .val (.int cb), .val (.int cc), .val (.int cd), .val (.ref b_1), .val (.ref b3), .val (.ref b18), .val (.ref b36), .val (.ref b51), .val (.ref b63), .val (.ref b77), .unset, .unset, .unset] [])) (fun _ k => st147.trans k) ?_
    refine Go.step (T' := T147) (f' := (mkF m 248 #[.val (.int p1), .val (.int p2), .val (.int p3), .val (.int p4), .val (.int p5), .val (.int (3 : Int32)), .val (.int ca), .val (.int cb), .val (.int cc), .val (.int cd), .val (.ref b_1), .val (.ref b3), .val (.ref b18), .val (.ref b36), .val (.ref b51), .val (.ref b63), .val (.ref b77), .unset, .unset, .unset] [(.int (3 : Int32))])) (fun _ k => XS.iload X147.here hx rfl (hb hby at_246) rfl k) ?_
    refine Go.step (T' := T147) (f' := (mkF m 249 #[.val (.int p1), .val (.int p2), .val (.int p3), .val (.int p4), .val (.int p5), .val (.int (3 : Int32)), .val (.int ca), .val (.int cb), .val (.int cc), .val (.int cd), .val (.ref b_1), .val (.ref b3), .val (.ref b18), .val (.ref b36), .val (.ref b51), .val (.ref b63), .val (.ref b77), .unset, .unset, .unset] [(.int (3 : Int32)), (.int (3 : Int32))])) (fun _ k => XS.iconst X147.here hx rfl (hb hby at_248) k) ?_
    refine Go.step (T' := T147) (f' := (mkF m 252 #[.val (.int p1), .val (.int p2), .val (.int p3), .val (.int p4), .val (.int p5), .val (.int (3 : Int32)), .val (.int ca), .val (.int cb), .val (.int cc), .val (.int cd), .val (.ref b_1), .val (.ref b3), .val (.ref b18), .val (.ref b36), .val (.ref b51), .val (.ref b63), .val (.ref b77), .unset, .unset, .unset] [])) (fun _ k => XS.icmpNo X147.here hx rfl (hb hby at_249) rfl (flt (by decide : ¬ ((3 : Int32) < (3 : Int32)))).1 k) ?_
    refine Go.step (T' := T147) (f' := (mkF m 254 #[.val (.int p1), .val (.int p2), .val (.int p3), .val (.int p4), .val (.int p5), .val (.int (3 : Int32)), .val (.int ca), .val (.int cb), .val (.int cc), .val (.int cd), .val (.ref b_1), .val (.ref b3), .val (.ref b18), .val (.ref b36), .val (.ref b51), .val (.ref b63), .val (.ref b77), .unset, .unset, .unset] [(.ref b77)])) (fun _ k => XS.aload X147.here hx rfl (hb hby at_252) rfl rfl k) ?_
    refine Go.step (T' := T147) (f' := (mkF m 256 #[.val (.int p1), .val (.int p2), .val (.int p3), .val (.int p4), .val (.int p5), .val (.int (3 : Int32)), .val (.int ca), .val (.int cb), .val (.int cc), .val (.int cd), .val (.ref b_1), .val (.ref b3), .val (.ref b18), .val (.ref b36), .val (.ref b51), .val (.ref b63), .val (.ref b77), .unset, .unset, .unset] [(.int p5), (.ref b77)])) (fun _ k => XS.iload X147.here hx rfl (hb hby at_254) rfl k) ?_
    refine Go.step (T' := T147) (f' := (mkF m 257 #[.val (.int p1), .val (.int p2), .val (.int p3), .val (.int p4), .val (.int p5), .val (.int (3 : Int32)), .val (.int ca), .val (.int cb), .val (.int cc), .val (.int cd), .val (.ref b_1), .val (.ref b3), .val (.ref b18), .val (.ref b36), .val (.ref b51), .val (.ref b63), .val (.ref b77), .unset, .unset, .unset] [(.int (2 : Int32)), (.int p5), (.ref b77)])) (fun _ k => XS.iconst X147.here hx rfl (hb hby at_256) k) ?_
    refine Go.step (T' := T147) (f' := (mkF m 258 #[.val (.int p1), .val (.int p2), .val (.int p3), .val (.int p4), .val (.int p5), .val (.int (3 : Int32)), .val (.int ca), .val (.int cb), .val (.int cc), .val (.int cd), .val (.ref b_1), .val (.ref b3), .val (.ref b18), .val (.ref b36), .val (.ref b51), .val (.ref b63), .val (.ref b77), .unset, .unset, .unset] [(.int (p5 + (2 : Int32))), (.ref b77)])) (fun _ k => XS.iadd X147.here hx rfl (hb hby at_257) rfl k) ?_
    refine Go.step (T' := T147) (f' := (mkF m 260 #[.val (.int p1), .val (.int p2), .val (.int p3), .val (.int p4), .val (.int p5), .val (.int (3 : Int32)), .val (.int ca), .val (.int cb), .val (.int cc), .val (.int cd), .val (.ref b_1), .val (.ref b3), .val (.ref b18), .val (.ref b36), .val (.ref b51), .val (.ref b63), .val (.ref b77), .unset, .unset, .unset] [(.ref b36), (.int (p5 + (2 : Int32))), (.ref b77)])) (fun _ k => XS.aload X147.here hx rfl (hb hby at_258) rfl rfl k) ?_
    refine Go.step (T' := T147) (f' := (mkF m 262 #[.val (.int p1), .val (.int p2), .val (.int p3), .val (.int p4), .val (.int p5), .val (.int (3 : Int32)), .val (.int ca), .val (.int cb), .val (.int cc), .val (.int cd), .val (.ref b_1), .val (.ref b3), .val (.ref b18), .val (.ref b36), .val (.ref b51), .val (.ref b63), .val (.ref b77), .unset, .unset, .unset] [(.ref b18), (.ref b36), (.int (p5 + (2 : Int32))), (.ref b77)])) (fun _ k => XS.aload X147.here hx rfl (hb hby at_260) rfl rfl k) ?_
    have q153 : Exa Z T147.heap b77 "com/example/fondskit/fondskit/xml/BoundAttributes" := (q148.keep Kq147)
    have q154 : Exa Z T147.heap b36 "java/lang/String" := (q149.keep Kq147)
    have q155 : Exa Z T147.heap b18 "java/lang/String" := (((((((((q75.wr W74).ext E77).keep Kq79).keep Kq81).keep Kq86).keep Kq91).keep Kq96).keep Kq139).keep Kq147)
    obtain ⟨cq152, kq152, q152a, q152b, q152c⟩ := isOf hZ rfl q153
    obtain ⟨_, _, ⟨T152, L152, kk152, nn152⟩, -, X152, ⟨Lc152, hQ152, lq152, yq152, zq152⟩, st152⟩ := X147.virtualBack hx (y := (⟨"com/example/fondskit/fondskit/xml/BoundAttributes", "add", "(ILjava/lang/String;Ljava/lang/String;)V"⟩ : MethodName)) (z := (⟨"com/example/fondskit/fondskit/xml/BoundAttributes", "add", "(ILjava/lang/String;Ljava/lang/String;)V"⟩ : MethodName)) hown (mvT hZ (hw _ (List.mem_of_getElem? (i := 60) rfl))) (mvT hZ (hw _ (List.mem_of_getElem? (i := 61) rfl))) (notFace_of_selects (args := #[]) (mvT hZ (hw _ (List.mem_of_getElem? (i := 63) rfl)))) (mvT hZ (hw _ (List.mem_of_getElem? (i := 63) rfl))) (mvT hZ (hw _ (List.mem_of_getElem? (i := 62) rfl))) (by decide) (backOf (W := 0) (rmAdd2 l Z a0 hw [] b77 (p5 + (2 : Int32)) b36 b18 i_79 n_79 l1_79 ki_79 kn_79 kl_79 (.int p5) (.int (p5 + (1 : Int32))) (.int p5) (.int (0 : Int32)) (.int (0 : Int32)) (.int (0 : Int32)) (.int (0 : Int32)) (.int (0 : Int32)) (.ref b36) (.ref b36) (.ref b36) .null .null .null .null .null (.ref b_1) (.ref b3) (.ref b51) .null .null .null .null .null T147.heap n0 Z151 q153 q154 q155 r147_0 r147_1 r147_2 r147_3 r147_4 r147_5 r147_6 r147_7 (Ne.symm (Nat.ne_of_lt (Nat.lt_of_lt_of_le A77.lt r79_0))) (Ne.symm (Nat.ne_of_lt (Nat.lt_of_lt_of_le A77.lt r79_1))) (Ne.symm (Nat.ne_of_lt (Nat.lt_of_lt_of_le A77.lt r79_2))) r79_3 r79_4 r79_5 r79_6 r79_7 g_b77 g_i_79 g_n_79 g_l1_79) hZ (hw _ (List.mem_of_getElem? (i := 64) rfl)) (hw _ (List.mem_of_getElem? (i := 47) rfl)) (by decide) (by decide)) q152a q152c (g := (mkF m 262 #[.val (.int p1), .val (.int p2), .val (.int p3), .val (.int p4), .val (.int p5), .val (.int (3 : Int32)), .val (.int ca), .val (.int cb), .val (.int cc), .val (.int cd), .val (.ref b_1), .val (.ref b3), .val (.ref b18), .val (.ref b36), .val (.ref b51), .val (.ref b63), .val (.ref b77), .unset, .unset, .unset] [(.ref b18), (.ref b36), (.int (p5 + (2 : Int32))), (.ref b77)])) rfl (by rw [hml]; rfl) (Steps.refl _) (argsL := [(.int (p5 + (2 : Int32))), (.ref b36), (.ref b18)]) (rest := []) (lenOf pd_11 rfl) rfl (by show 2 * 0 + _ ≤ _; exact Nat.le_of_eq rfl) (hb hby at_262) (fun _ _ => ⟨rfl, rfl, (by decide : 19 + 0 ≤ _), (by decide : 69 + 0 ≤ _)⟩)
    dsimp only [Pt.U, Pt.locs, Pt.cells, Pt.slots] at X152 lq152 yq152 zq152 st152 hQ152
    subst yq152 zq152
    obtain ⟨rfl, Nq152, Kq152, r152_0, r152_1, r152_2, r152_3, r152_4, r152_5, r152_6, r152_7⟩ := hQ152
    have N152 : Fr n0 L152 := by rw [lq152]; exact Fr.app N147 Nq152
    have Z156 : n0 ≤ T152.heap.size := Nat.le_trans Z151 Kq152.1
    have O156 : Old Z n0 T152.heap := O151.keep Kq152 (allS g_b77 (allS g_i_79 (allS g_n_79 (allS g_l1_79 all0))))
    refine Go.step (T' := T152) (f' := (mkF m 265 #[.val (.int p1), .val (.int p2), .val (.int p3), .val (.int p4), .val (.int p5), .val (.int (3 : Int32)), .val (.int ca), .val (.int cb), .val (.int cc), .val (.int cd), .val (.ref b_1), .val (.ref b3), .val (.ref b18), .val (.ref b36), .val (.ref b51), .val (.ref b63), .val (.ref b77), .unset, .unset, .unset] [])) (fun _ k => st152.trans k) ?_
    refine Go.step (T' := T152) (f' := (mkF m 266 #[.val (.int p1), .val (.int p2), .val (.int p3), .val (.int p4), .val (.int p5), .val (.int (3 : Int32)), .val (.int ca), .val (.int cb), .val (.int cc), .val (.int cd), .val (.ref b_1), .val (.ref b3), .val (.ref b18), .val (.ref b36), .val (.ref b51), .val (.ref b63), .val (.ref b77), .unset, .unset, .unset] [(.int p4)])) (fun _ k => XS.iloadN X152.here hx rfl (hb hby at_265) rfl k) ?_
    refine Go.step (T' := T152) (f' := (mkF m 267 #[.val (.int p1), .val (.int p2), .val (.int p3), .val (.int p4), .val (.int p5), .val (.int (3 : Int32)), .val (.int ca), .val (.int cb), .val (.int cc), .val (.int cd), .val (.ref b_1), .val (.ref b3), .val (.ref b18), .val (.ref b36), .val (.ref b51), .val (.ref b63), .val (.ref b77), .unset, .unset, .unset] [(.int (3 : Int32)), (.int p4)])) (fun _ k => XS.iconst X152.here hx rfl (hb hby at_266) k) ?_
    refine Go.step (T' := T152) (f' := (mkF m 268 #[.val (.int p1), .val (.int p2), .val (.int p3), .val (.int p4), .val (.int p5), .val (.int (3 : Int32)), .val (.int ca), .val (.int cb), .val (.int cc), .val (.int cd), .val (.ref b_1), .val (.ref b3), .val (.ref b18), .val (.ref b36), .val (.ref b51), .val (.ref b63), .val (.ref b77), .unset, .unset, .unset] [(.int (p4 &&& (3 : Int32)))])) (fun _ k => XS.iand X152.here hx rfl (hb hby at_267) rfl k) ?_
    refine Go.step (T' := T152) (f' := (mkF m 270 #[.val (.int p1), .val (.int p2), .val (.int p3), .val (.int p4), .val (.int p5), .val (.int (3 : Int32)), .val (.int ca), .val (.int cb), .val (.int cc), .val (.int cd), .val (.ref b_1), .val (.ref b3), .val (.ref b18), .val (.ref b36), .val (.ref b51), .val (.ref b63), .val (.ref b77), .val (.int (p4 &&& (3 : Int32))), .unset, .unset] [])) (fun _ k => XS.istore X152.here hx rfl (hb hby at_268) rfl (l' := #[.val (.int p1), .val (.int p2), .val (.int p3), .val (.int p4), .val (.int p5), .val (.int (3 : Int32)), .val (.int ca), .val (.int cb), .val (.int cc), .val (.int cd), .val (.ref b_1), .val (.ref b3), .val (.ref b18), .val (.ref b36), .val (.ref b51), .val (.ref b63), .val (.ref b77), .val (.int (p4 &&& (3 : Int32))), .unset, .unset]) rfl k) ?_
    refine Go.step (T' := T152) (f' := (mkF m 272 #[.val (.int p1), .val (.int p2), .val (.int p3), .val (.int p4), .val (.int p5), .val (.int (3 : Int32)), .val (.int ca), .val (.int cb), .val (.int cc), .val (.int cd), .val (.ref b_1), .val (.ref b3), .val (.ref b18), .val (.ref b36), .val (.ref b51), .val (.ref b63), .val (.ref b77), .val (.int (p4 &&& (3 : Int32))), .unset, .unset] [(.ref b77)])) (fun _ k => XS.aload X152.here hx rfl (hb hby at_270) rfl rfl k) ?_
    refine Go.step (T' := T152) (f' := (mkF m 273 #[.val (.int p1), .val (.int p2), .val (.int p3), .val (.int p4), .val (.int p5), .val (.int (3 : Int32)), .val (.int ca), .val (.int cb), .val (.int cc), .val (.int cd), .val (.ref b_1), .val (.ref b3), .val (.ref b18), .val (.ref b36), .val (.ref b51), .val (.ref b63), .val (.ref b77), .val (.int (p4 &&& (3 : Int32))), .unset, .unset] [(.int p3), (.ref b77)])) (fun _ k => XS.iloadN X152.here hx rfl (hb hby at_272) rfl k) ?_
    have q158 : Exa Z T152.heap b77 "com/example/fondskit/fondskit/xml/BoundAttributes" := (q153.keep Kq152)
    obtain ⟨cq157, kq157, q157a, q157b, q157c⟩ := isOf hZ rfl q158
    obtain ⟨_, _, ⟨T157, L157, kk157, nn157⟩, -, X157, ⟨Lc157, hQ157, lq157, yq157, zq157⟩, st157⟩ := X152.virtualBack hx (y := (⟨"com/example/fondskit/fondskit/xml/BoundAttributes", "getLocalName", "(I)Ljava/lang/String;"⟩ : MethodName)) (z := (⟨"com/example/fondskit/fondskit/xml/BoundAttributes", "getLocalName", "(I)Ljava/lang/String;"⟩ : MethodName)) hown (mvT hZ (hw _ (List.mem_of_getElem? (i := 74) rfl))) (mvT hZ (hw _ (List.mem_of_getElem? (i := 75) rfl))) (notFace_of_selects (args := #[]) (mvT hZ (hw _ (List.mem_of_getElem? (i := 77) rfl)))) (mvT hZ (hw _ (List.mem_of_getElem? (i := 77) rfl))) (mvT hZ (hw _ (List.mem_of_getElem? (i := 76) rfl))) (by decide) (backOf (W := 0) (rmGl3 l Z a0 hw [] b77 p3 l1_79 kl_79 (.ref b_1) (.ref b3) (.ref b18) .null .null .null .null .null T152.heap n0 Z156 q158 r152_4 r152_3 r152_7) hZ (hw _ (List.mem_of_getElem? (i := 78) rfl)) (hw _ (List.mem_of_getElem? (i := 47) rfl)) (by decide) (by decide)) q157a q157c (g := (mkF m 273 #[.val (.int p1), .val (.int p2), .val (.int p3), .val (.int p4), .val (.int p5), .val (.int (3 : Int32)), .val (.int ca), .val (.int cb), .val (.int cc), .val (.int cd), .val (.ref b_1), .val (.ref b3), .val (.ref b18), .val (.ref b36), .val (.ref b51), .val (.ref b63), .val (.ref b77), .val (.int (p4 &&& (3 : Int32))), .unset, .unset] [(.int p3), (.ref b77)])) rfl (by rw [hml]; rfl) (Steps.refl _) (argsL := [(.int p3)]) (rest := []) (lenOf pd_13 rfl) rfl (by show 2 * 0 + _ ≤ _; exact Nat.le_of_eq rfl) (hb hby at_273) (fun _ _ => ⟨rfl, rfl, (by decide : 19 + 0 ≤ _), (by decide : 69 + 0 ≤ _)⟩)
    dsimp only [Pt.U, Pt.locs, Pt.cells, Pt.slots] at X157 lq157 yq157 zq157 st157 hQ157
    subst yq157 zq157
    obtain ⟨rfl, Nq157, eh157⟩ := hQ157
    have N157 : Fr n0 L157 := by rw [lq157]; exact Fr.app N152 Nq157
    refine Go.step (T' := T157) (f' := (mkF m 276 #[.val (.int p1), .val (.int p2), .val (.int p3), .val (.int p4), .val (.int p5), .val (.int (3 : Int32)), .val (.int ca), .val (.int cb), .val (.int cc), .val (.int cd), .val (.ref b_1), .val (.ref b3), .val (.ref b18), .val (.ref b36), .val (.ref b51), .val (.ref b63), .val (.ref b77), .val (.int (p4 &&& (3 : Int32))), .unset, .unset] [(own_sel 3 (.ref b_1) (.ref b3) (.ref b18) p3)])) (fun _ k => st157.trans k) ?_
    have hr157 : ((own_sel 3 (.ref b_1) (.ref b3) (.ref b18) p3) : Value).isRef = true := own_selR rfl rfl rfl
    refine Go.step (T' := T157) (f' := (mkF m 278 #[.val (.int p1), .val (.int p2), .val (.int p3), .val (.int p4), .val (.int p5), .val (.int (3 : Int32)), .val (.int ca), .val (.int cb), .val (.int cc), .val (.int cd), .val (.ref b_1), .val (.ref b3), .val (.ref b18), .val (.ref b36), .val (.ref b51), .val (.ref b63), .val (.ref b77), .val (.int (p4 &&& (3 : Int32))), .unset, .unset] [(.ref b63), (own_sel 3 (.ref b_1) (.ref b3) (.ref b18) p3)])) (fun _ k => XS.aload X157.here hx rfl (hb hby at_276) rfl rfl k) ?_
    refine Go.step (T' := T157) (f' := (mkF m 280 #[.val (.int p1), .val (.int p2), .val (.int p3), .val (.int p4), .val (.int p5), .val (.int (3 : Int32)), .val (.int ca), .val (.int cb), .val (.int cc), .val (.int cd), .val (.ref b_1), .val (.ref b3), .val (.ref b18), .val (.ref b36), .val (.ref b51), .val (.ref b63), .val (.ref b77), .val (.int (p4 &&& (3 : Int32))), .unset, .unset] [(.int (3 : Int32)), (.ref b63), (own_sel 3 (.ref b_1) (.ref b3) (.ref b18) p3)])) (fun _ k => XS.iload X157.here hx rfl (hb hby at_278) rfl k) ?_
    refine Go.step (T' := T157) (f' := (mkF m 281 #[.val (.int p1), .val (.int p2), .val (.int p3), .val (.int p4), .val (.int p5), .val (.int (3 : Int32)), .val (.int ca), .val (.int cb), .val (.int cc), .val (.int cd), .val (.ref b_1), .val (.ref b3), .val (.ref b18), .val (.ref b36), .val (.ref b51), .val (.ref b63), .val (.ref b77), .val (.int (p4 &&& (3 : Int32))), .unset, .unset] [(.int p3), (.int (3 : Int32)), (.ref b63), (own_sel 3 (.ref b_1) (.ref b3) (.ref b18) p3)])) (fun _ k => XS.iloadN X157.here hx rfl (hb hby at_280) rfl k) ?_
    have q160 : Arv Z T152.heap b63 k63 (.object "java/lang/String") (3 : Int32) [(.ref b_1), (.ref b3), (.ref b18)] .null := (((((((((Va74.ext E77).keep Kq79 (ninS (Nat.ne_of_lt (Nat.lt_of_lt_of_le Va74.lt (Nat.le_of_eq g77.symm))) nin0)).keep Kq81 (ninS (Nat.ne_of_lt (Nat.lt_of_lt_of_le Va74.lt (Nat.le_of_eq g77.symm))) (ninS (Nat.ne_of_lt (Nat.lt_of_lt_of_le (Va74.ext E77).lt r79_0)) (ninS (Nat.ne_of_lt (Nat.lt_of_lt_of_le (Va74.ext E77).lt r79_1)) (ninS (Nat.ne_of_lt (Nat.lt_of_lt_of_le (Va74.ext E77).lt r79_2)) nin0))))).keep Kq86 (ninS (Nat.ne_of_lt (Nat.lt_of_lt_of_le Va74.lt (Nat.le_of_eq g77.symm))) (ninS (Nat.ne_of_lt (Nat.lt_of_lt_of_le (Va74.ext E77).lt r79_0)) (ninS (Nat.ne_of_lt (Nat.lt_of_lt_of_le (Va74.ext E77).lt r79_1)) (ninS (Nat.ne_of_lt (Nat.lt_of_lt_of_le (Va74.ext E77).lt r79_2)) nin0))))).keep Kq91 (ninS (Nat.ne_of_lt (Nat.lt_of_lt_of_le Va74.lt (Nat.le_of_eq g77.symm))) (ninS (Nat.ne_of_lt (Nat.lt_of_lt_of_le (Va74.ext E77).lt r79_0)) (ninS (Nat.ne_of_lt (Nat.lt_of_lt_of_le (Va74.ext E77).lt r79_1)) (ninS (Nat.ne_of_lt (Nat.lt_of_lt_of_le (Va74.ext E77).lt r79_2)) nin0))))).keep Kq96 (ninS (Nat.ne_of_lt (Nat.lt_of_lt_of_le Va74.lt (Nat.le_of_eq g77.symm))) nin0)).keep Kq139 (ninS (Nat.ne_of_lt (Nat.lt_of_lt_of_le Va74.lt (Nat.le_of_eq g77.symm))) (ninS (Nat.ne_of_lt (Nat.lt_of_lt_of_le (Va74.ext E77).lt r79_0)) (ninS (Nat.ne_of_lt (Nat.lt_of_lt_of_le (Va74.ext E77).lt r79_1)) (ninS (Nat.ne_of_lt (Nat.lt_of_lt_of_le (Va74.ext E77).lt r79_2)) nin0))))).keep Kq147 (ninS (Nat.ne_of_lt (Nat.lt_of_lt_of_le Va74.lt (Nat.le_of_eq g77.symm))) (ninS (Nat.ne_of_lt (Nat.lt_of_lt_of_le (Va74.ext E77).lt r79_0)) (ninS (Nat.ne_of_lt (Nat.lt_of_lt_of_le (Va74.ext E77).lt r79_1)) (ninS (Nat.ne_of_lt (Nat.lt_of_lt_of_le (Va74.ext E77).lt r79_2)) nin0))))).keep Kq152 (ninS (Nat.ne_of_lt (Nat.lt_of_lt_of_le Va74.lt (Nat.le_of_eq g77.symm))) (ninS (Nat.ne_of_lt (Nat.lt_of_lt_of_le (Va74.ext E77).lt r79_0)) (ninS (Nat.ne_of_lt (Nat.lt_of_lt_of_le (Va74.ext E77).lt r79_1)) (ninS (Nat.ne_of_lt (Nat.lt_of_lt_of_le (Va74.ext E77).lt r79_2)) nin0)))))
    obtain ⟨_, _, ⟨T159, L159, kk159, nn159⟩, -, X159, ⟨Lc159, hQ159, lq159, yq159, zq159⟩, st159⟩ := Jvm.LawKit.callS X157 hx (y := (⟨"com/example/fondskit/fondskit/xml/BoundAttributesGetLocalNamePinLaw", "expected", "([Ljava/lang/String;II)Ljava/lang/String;"⟩ : MethodName)) hown (mvT hZ (hw _ (List.mem_of_getElem? (i := 83) rfl))) (mvT hZ (hw _ (List.mem_of_getElem? (i := 84) rfl))) (mvT hZ (hw _ (List.mem_of_getElem? (i := 85) rfl))) (mvT hZ (hw _ (List.mem_of_getElem? (i := 86) rfl))) (by decide) (backOf (W := 1) (rmEp3 l Z a0 hw [] b63 p3 k63 (.ref b_1) (.ref b3) (.ref b18) T152.heap n0 Z156 q160) hZ (hw _ (List.mem_of_getElem? (i := 86) rfl)) (hw _ (List.mem_of_getElem? (i := 85) rfl)) (by decide) (by decide)) (g := (mkF m 281 #[.val (.int p1), .val (.int p2), .val (.int p3), .val (.int p4), .val (.int p5), .val (.int (3 : Int32)), .val (.int ca), .val (.int cb), .val (.int cc), .val (.int cd), .val (.ref b_1), .val (.ref b3), .val (.ref b18), .val (.ref b36), .val (.ref b51), .val (.ref b63), .val (.ref b77), .val (.int (p4 &&& (3 : Int32))), .unset, .unset] [(.int p3), (.int (3 : Int32)), (.ref b63), (own_sel 3 (.ref b_1) (.ref b3) (.ref b18) p3)])) rfl (by rw [hml]; rfl) (argsL := [(.ref b63), (.int (3 : Int32)), (.int p3)]) (rest := [(own_sel 3 (.ref b_1) (.ref b3) (.ref b18) p3)]) (lenOf pd_14 rfl) rfl (by show 2 * 0 + _ ≤ _; simp only [List.map_cons, List.map_nil, XT.cat1 hr157]; exact Nat.le_of_eq rfl) (hb hby at_281) (fun _ _ => ⟨rfl, eh157, (by decide : 19 + 0 ≤ _), (by decide : 69 + 0 ≤ _)⟩)
    dsimp only [Pt.U, Pt.locs, Pt.cells, Pt.slots] at X159 lq159 yq159 zq159 st159 hQ159
    subst yq159 zq159
    obtain ⟨rfl, Nq159, eh159⟩ := hQ159
    have N159 : Fr n0 L159 := by rw [lq159]; exact Fr.app N157 Nq159
    refine Go.step (T' := T159) (f' := (mkF m 284 #[.val (.int p1), .val (.int p2), .val (.int p3), .val (.int p4), .val (.int p5), .val (.int (3 : Int32)), .val (.int ca), .val (.int cb), .val (.int cc), .val (.int cd), .val (.ref b_1), .val (.ref b3), .val (.ref b18), .val (.ref b36), .val (.ref b51), .val (.ref b63), .val (.ref b77), .val (.int (p4 &&& (3 : Int32))), .unset, .unset] [(own_sel 3 (.ref b_1) (.ref b3) (.ref b18) p3), (own_sel 3 (.ref b_1) (.ref b3) (.ref b18) p3)])) st159 ?_
    have hr159 : ((own_sel 3 (.ref b_1) (.ref b3) (.ref b18) p3) : Value).isRef = true := own_selR rfl rfl rfl
    refine Go.step (T' := T159) (f' := (mkF m 287 #[.val (.int p1), .val (.int p2), .val (.int p3), .val (.int p4), .val (.int p5), .val (.int (3 : Int32)), .val (.int ca), .val (.int cb), .val (.int cc), .val (.int cd), .val (.ref b_1), .val (.ref b3), .val (.ref b18), .val (.ref b36), .val (.ref b51), .val (.ref b63), .val (.ref b77), .val (.int (p4 &&& (3 : Int32))), .unset, .unset] [])) (fun _ k => Jvm.RoadKit.acmp (g := (mkF m 284 #[.val (.int p1), .val (.int p2), .val (.int p3), .val (.int p4), .val (.int p5), .val (.int (3 : Int32)), .val (.int ca), .val (.int cb), .val (.int cc), .val (.int cd), .val (.ref b_1), .val (.ref b3), .val (.ref b18), .val (.ref b36), .val (.ref b51), .val (.ref b63), .val (.ref b77), .val (.int (p4 &&& (3 : Int32))), .unset, .unset] [(own_sel 3 (.ref b_1) (.ref b3) (.ref b18) p3), (own_sel 3 (.ref b_1) (.ref b3) (.ref b18) p3)])) X159 hx rfl hr159 hr159 (pc0 := 284) (pc' := 287) (same := true) rfl (hb hby at_284) rfl (decide_eq_true rfl) (by decide) (by decide) k) ?_
    refine Go.step (T' := T159) (f' := (mkF m 288 #[.val (.int p1), .val (.int p2), .val (.int p3), .val (.int p4), .val (.int p5), .val (.int (3 : Int32)), .val (.int ca), .val (.int cb), .val (.int cc), .val (.int cd), .val (.ref b_1), .val (.ref b3), .val (.ref b18), .val (.ref b36), .val (.ref b51), .val (.ref b63), .val (.ref b77), .val (.int (p4 &&& (3 : Int32))), .unset, .unset] [(.int (1 : Int32))])) (fun _ k => XS.iconst X159.here hx rfl (hb hby at_287) k) ?_
    refine Go.step (T' := T159) (f' := (mkF m 292 #[.val (.int p1), .val (.int p2), .val (.int p3), .val (.int p4), .val (.int p5), .val (.int (3 : Int32)), .val (.int ca), .val (.int cb), .val (.int cc), .val (.int cd), .val (.ref b_1), .val (.ref b3), .val (.ref b18), .val (.ref b36), .val (.ref b51), .val (.ref b63), .val (.ref b77), .val (.int (p4 &&& (3 : Int32))), .unset, .unset] [(.int (1 : Int32))])) (fun _ k => XS.goto X159.here hx rfl (pc0 := 288) (pc' := 292) rfl (hb hby at_288) (by decide) (by decide) k) ?_
    refine Go.step (T' := T159) (f' := (mkF m 294 #[.val (.int p1), .val (.int p2), .val (.int p3), .val (.int p4), .val (.int p5), .val (.int (3 : Int32)), .val (.int ca), .val (.int cb), .val (.int cc), .val (.int cd), .val (.ref b_1), .val (.ref b3), .val (.ref b18), .val (.ref b36), .val (.ref b51), .val (.ref b63), .val (.ref b77), .val (.int (p4 &&& (3 : Int32))), .val (.int (1 : Int32)), .unset] [])) (fun _ k => XS.istore X159.here hx rfl (hb hby at_292) rfl (l' := #[.val (.int p1), .val (.int p2), .val (.int p3), .val (.int p4), .val (.int p5), .val (.int (3 : Int32)), .val (.int ca), .val (.int cb), .val (.int cc), .val (.int cd), .val (.ref b_1), .val (.ref b3), .val (.ref b18), .val (.ref b36), .val (.ref b51), .val (.ref b63), .val (.ref b77), .val (.int (p4 &&& (3 : Int32))), .val (.int (1 : Int32)), .unset]) rfl k) ?_
    refine Go.step (T' := T159) (f' := (mkF m 296 #[.val (.int p1), .val (.int p2), .val (.int p3), .val (.int p4), .val (.int p5), .val (.int (3 : Int32)), .val (.int ca), .val (.int cb), .val (.int cc), .val (.int cd), .val (.ref b_1), .val (.ref b3), .val (.ref b18), .val (.ref b36), .val (.ref b51), .val (.ref b63), .val (.ref b77), .val (.int (p4 &&& (3 : Int32))), .val (.int (1 : Int32)), .unset] [(.ref b77)])) (fun _ k => XS.aload X159.here hx rfl (hb hby at_294) rfl rfl k) ?_
    refine Go.step (T' := T159) (f' := (mkF m 298 #[.val (.int p1), .val (.int p2), .val (.int p3), .val (.int p4), .val (.int p5), .val (.int (3 : Int32)), .val (.int ca), .val (.int cb), .val (.int cc), .val (.int cd), .val (.ref b_1), .val (.ref b3), .val (.ref b18), .val (.ref b36), .val (.ref b51), .val (.ref b63), .val (.ref b77), .val (.int (p4 &&& (3 : Int32))), .val (.int (1 : Int32)), .unset] [(.int (p4 &&& (3 : Int32))), (.ref b77)])) (fun _ k => XS.iload X159.here hx rfl (hb hby at_296) rfl k) ?_
    obtain ⟨cq161, kq161, q161a, q161b, q161c⟩ := isOf hZ eh159 q158
    obtain ⟨_, _, ⟨T161, L161, kk161, nn161⟩, -, X161, ⟨Lc161, hQ161, lq161, yq161, zq161⟩, st161⟩ := X159.virtualBack hx (y := (⟨"com/example/fondskit/fondskit/xml/BoundAttributes", "getLocalName", "(I)Ljava/lang/String;"⟩ : MethodName)) (z := (⟨"com/example/fondskit/fondskit/xml/BoundAttributes", "getLocalName", "(I)Ljava/lang/String;"⟩ : MethodName)) hown (mvT hZ (hw _ (List.mem_of_getElem? (i := 74) rfl))) (mvT hZ (hw _ (List.mem_of_getElem? (i := 75) rfl))) (notFace_of_selects (args := #[]) (mvT hZ (hw _ (List.mem_of_getElem? (i := 77) rfl)))) (mvT hZ (hw _ (List.mem_of_getElem? (i := 77) rfl))) (mvT hZ (hw _ (List.mem_of_getElem? (i := 76) rfl))) (by decide) (backOf (W := 0) (rmGl3 l Z a0 hw [] b77 (p4 &&& (3 : Int32)) l1_79 kl_79 (.ref b_1) (.ref b3) (.ref b18) .null .null .null .null .null T152.heap n0 Z156 q158 r152_4 r152_3 r152_7) hZ (hw _ (List.mem_of_getElem? (i := 78) rfl)) (hw _ (List.mem_of_getElem? (i := 47) rfl)) (by decide) (by decide)) q161a q161c (g := (mkF m 298 #[.val (.int p1), .val (.int p2), .val (.int p3), .val (.int p4), .val (.int p5), .val (.int (3 : Int32)), .val (.int ca), .val (.int cb), .val (.int cc), .val (.int cd), .val (.ref b_1), .val (.ref b3), .val (.ref b18), .val (.ref b36), .val (.ref b51), .val (.ref b63), .val (.ref b77), .val (.int (p4 &&& (3 : Int32))), .val (.int (1 : Int32)), .unset] [(.int (p4 &&& (3 : Int32))), (.ref b77)])) rfl (by rw [hml]; rfl) (Steps.refl _) (argsL := [(.int (p4 &&& (3 : Int32)))]) (rest := []) (lenOf pd_13 rfl) rfl (by show 2 * 0 + _ ≤ _; exact Nat.le_of_eq rfl) (hb hby at_298) (fun _ _ => ⟨rfl, eh159, (by decide : 19 + 0 ≤ _), (by decide : 69 + 0 ≤ _)⟩)
    dsimp only [Pt.U, Pt.locs, Pt.cells, Pt.slots] at X161 lq161 yq161 zq161 st161 hQ161
    subst yq161 zq161
    obtain ⟨rfl, Nq161, eh161⟩ := hQ161
    have N161 : Fr n0 L161 := by rw [lq161]; exact Fr.app N159 Nq161
    refine Go.step (T' := T161) (f' := (mkF m 301 #[.val (.int p1), .val (.int p2), .val (.int p3), .val (.int p4), .val (.int p5), .val (.int (3 : Int32)), .val (.int ca), .val (.int cb), .val (.int cc), .val (.int cd), .val (.ref b_1), .val (.ref b3), .val (.ref b18), .val (.ref b36), .val (.ref b51), .val (.ref b63), .val (.ref b77), .val (.int (p4 &&& (3 : Int32))), .val (.int (1 : Int32)), .unset] [(own_sel 3 (.ref b_1) (.ref b3) (.ref b18) (p4 &&& (3 : Int32)))])) (fun _ k => st161.trans k) ?_
    have hr161 : ((own_sel 3 (.ref b_1) (.ref b3) (.ref b18) (p4 &&& (3 : Int32))) : Value).isRef = true := own_selR rfl rfl rfl
    refine Go.step (T' := T161) (f' := (mkF m 303 #[.val (.int p1), .val (.int p2), .val (.int p3), .val (.int p4), .val (.int p5), .val (.int (3 : Int32)), .val (.int ca), .val (.int cb), .val (.int cc), .val (.int cd), .val (.ref b_1), .val (.ref b3), .val (.ref b18), .val (.ref b36), .val (.ref b51), .val (.ref b63), .val (.ref b77), .val (.int (p4 &&& (3 : Int32))), .val (.int (1 : Int32)), .unset] [(.ref b63), (own_sel 3 (.ref b_1) (.ref b3) (.ref b18) (p4 &&& (3 : Int32)))])) (fun _ k => XS.aload X161.here hx rfl (hb hby at_301) rfl rfl k) ?_
    refine Go.step (T' := T161) (f' := (mkF m 305 #[.val (.int p1), .val (.int p2), .val (.int p3), .val (.int p4), .val (.int p5), .val (.int (3 : Int32)), .val (.int ca), .val (.int cb), .val (.int cc), .val (.int cd), .val (.ref b_1), .val (.ref b3), .val (.ref b18), .val (.ref b36), .val (.ref b51), .val (.ref b63), .val (.ref b77), .val (.int (p4 &&& (3 : Int32))), .val (.int (1 : Int32)), .unset] [(.int (3 : Int32)), (.ref b63), (own_sel 3 (.ref b_1) (.ref b3) (.ref b18) (p4 &&& (3 : Int32)))])) (fun _ k => XS.iload X161.here hx rfl (hb hby at_303) rfl k) ?_
    refine Go.step (T' := T161) (f' := (mkF m 307 #[.val (.int p1), .val (.int p2), .val (.int p3), .val (.int p4), .val (.int p5), .val (.int (3 : Int32)), .val (.int ca), .val (.int cb), .val (.int cc), .val (.int cd), .val (.ref b_1), .val (.ref b3), .val (.ref b18), .val (.ref b36), .val (.ref b51), .val (.ref b63), .val (.ref b77), .val (.int (p4 &&& (3 : Int32))), .val (.int (1 : Int32)), .unset] [(.int (p4 &&& (3 : Int32))), (.int (3 : Int32)), (.ref b63), (own_sel 3 (.ref b_1) (.ref b3) (.ref b18) (p4 &&& (3 : Int32)))])) (fun _ k => XS.iload X161.here hx rfl (hb hby at_305) rfl k) ?_
    obtain ⟨_, _, ⟨T162, L162, kk162, nn162⟩, -, X162, ⟨Lc162, hQ162, lq162, yq162, zq162⟩, st162⟩ := Jvm.LawKit.callS X161 hx (y := (⟨"com/example/fondskit/fondskit/xml/BoundAttributesGetLocalNamePinLaw", "expected", "([Ljava/lang/String;II)Ljava/lang/String;"⟩ : MethodName)) hown (mvT hZ (hw _ (List.mem_of_getElem? (i := 83) rfl))) (mvT hZ (hw _ (List.mem_of_getElem? (i := 84) rfl))) (mvT hZ (hw _ (List.mem_of_getElem? (i := 85) rfl))) (mvT hZ (hw _ (List.mem_of_getElem? (i := 86) rfl))) (by decide) (backOf (W := 1) (rmEp3 l Z a0 hw [] b63 (p4 &&& (3 : Int32)) k63 (.ref b_1) (.ref b3) (.ref b18) T152.heap n0 Z156 q160) hZ (hw _ (List.mem_of_getElem? (i := 86) rfl)) (hw _ (List.mem_of_getElem? (i := 85) rfl)) (by decide) (by decide)) (g := (mkF m 307 #[.val (.int p1), .val (.int p2), .val (.int p3), .val (.int p4), .val (.int p5), .val (.int (3 : Int32)), .val (.int ca), .val (.int cb), .val (.int cc), .val (.int cd), .val (.ref b_1), .val (.ref b3), .val (.ref b18), .val (.ref b36), .val (.ref b51), .val (.ref b63), .val (.ref b77), .val (.int (p4 &&& (3 : Int32))), .val (.int (1 : Int32)), .unset] [(.int (p4 &&& (3 : Int32))), (.int (3 : Int32)), (.ref b63), (own_sel 3 (.ref b_1) (.ref b3) (.ref b18) (p4 &&& (3 : Int32)))])) rfl (by rw [hml]; rfl) (argsL := [(.ref b63), (.int (3 : Int32)), (.int (p4 &&& (3 : Int32)))]) (rest := [(own_sel 3 (.ref b_1) (.ref b3) (.ref b18) (p4 &&& (3 : Int32)))]) (lenOf pd_14 rfl) rfl (by show 2 * 0 + _ ≤ _; simp only [List.map_cons, List.map_nil, XT.cat1 hr161]; exact Nat.le_of_eq rfl) (hb hby at_307) (fun _ _ => ⟨rfl, eh161, (by decide : 19 + 0 ≤ _), (by decide : 69 + 0 ≤ _)⟩)
    dsimp only [Pt.U, Pt.locs, Pt.cells, Pt.slots] at X162 lq162 yq162 zq162 st162 hQ162
    subst yq162 zq162
    obtain ⟨rfl, Nq162, eh162⟩ := hQ162
    have N162 : Fr n0 L162 := by rw [lq162]; exact Fr.app N161 Nq162
    refine Go.step (T' := T162) (f' := (mkF m 310 #[.val (.int p1), .val (.int p2), .val (.int p3), .val (.int p4), .val (.int p5), .val (.int (3 : Int32)), .val (.int ca), .val (.int cb), .val (.int cc), .val (.int cd), .val (.ref b_1), .val (.ref b3), .val (.ref b18), .val (.ref b36), .val (.ref b51), .val (.ref b63), .val (.ref b77), .val (.int (p4 &&& (3 : Int32))), .val (.int (1 : Int32)), .unset] [(own_sel 3 (.ref b_1) (.ref b3) (.ref b18) (p4 &&& (3 : Int32))), (own_sel 3 (.ref b_1) (.ref b3) (.ref b18) (p4 &&& (3 : Int32)))])) st162 ?_
    have hr162 : ((own_sel 3 (.ref b_1) (.ref b3) (.ref b18) (p4 &&& (3 : Int32))) : Value).isRef = true := own_selR rfl rfl rfl
    refine Go.step (T' := T162) (f' := (mkF m 313 #[.val (.int p1), .val (.int p2), .val (.int p3), .val (.int p4), .val (.int p5), .val (.int (3 : Int32)), .val (.int ca), .val (.int cb), .val (.int cc), .val (.int cd), .val (.ref b_1), .val (.ref b3), .val (.ref b18), .val (.ref b36), .val (.ref b51), .val (.ref b63), .val (.ref b77), .val (.int (p4 &&& (3 : Int32))), .val (.int (1 : Int32)), .unset] [])) (fun _ k => Jvm.RoadKit.acmp (g := (mkF m 310 #[.val (.int p1), .val (.int p2), .val (.int p3), .val (.int p4), .val (.int p5), .val (.int (3 : Int32)), .val (.int ca), .val (.int cb), .val (.int cc), .val (.int cd), .val (.ref b_1), .val (.ref b3), .val (.ref b18), .val (.ref b36), .val (.ref b51), .val (.ref b63), .val (.ref b77), .val (.int (p4 &&& (3 : Int32))), .val (.int (1 : Int32)), .unset] [(own_sel 3 (.ref b_1) (.ref b3) (.ref b18) (p4 &&& (3 : Int32))), (own_sel 3 (.ref b_1) (.ref b3) (.ref b18) (p4 &&& (3 : Int32)))])) X162 hx rfl hr162 hr162 (pc0 := 310) (pc' := 313) (same := true) rfl (hb hby at_310) rfl (decide_eq_true rfl) (by decide) (by decide) k) ?_
    refine Go.step (T' := T162) (f' := (mkF m 314 #[.val (.int p1), .val (.int p2), .val (.int p3), .val (.int p4), .val (.int p5), .val (.int (3 : Int32)), .val (.int ca), .val (.int cb), .val (.int cc), .val (.int cd), .val (.ref b_1), .val (.ref b3), .val (.ref b18), .val (.ref b36), .val (.ref b51), .val (.ref b63), .val (.ref b77), .val (.int (p4 &&& (3 : Int32))), .val (.int (1 : Int32)), .unset] [(.int (1 : Int32))])) (fun _ k => XS.iconst X162.here hx rfl (hb hby at_313) k) ?_
    refine Go.step (T' := T162) (f' := (mkF m 318 #[.val (.int p1), .val (.int p2), .val (.int p3), .val (.int p4), .val (.int p5), .val (.int (3 : Int32)), .val (.int ca), .val (.int cb), .val (.int cc), .val (.int cd), .val (.ref b_1), .val (.ref b3), .val (.ref b18), .val (.ref b36), .val (.ref b51), .val (.ref b63), .val (.ref b77), .val (.int (p4 &&& (3 : Int32))), .val (.int (1 : Int32)), .unset] [(.int (1 : Int32))])) (fun _ k => XS.goto X162.here hx rfl (pc0 := 314) (pc' := 318) rfl (hb hby at_314) (by decide) (by decide) k) ?_
    refine Go.step (T' := T162) (f' := (mkF m 320 #[.val (.int p1), .val (.int p2), .val (.int p3), .val (.int p4), .val (.int p5), .val (.int (3 : Int32)), .val (.int ca), .val (.int cb), .val (.int cc), .val (.int cd), .val (.ref b_1), .val (.ref b3), .val (.ref b18), .val (.ref b36), .val (.ref b51), .val (.ref b63), .val (.ref b77), .val (.int (p4 &&& (3 : Int32))), .val (.int (1 : Int32)), .val (.int (1 : Int32))] [])) (fun _ k => XS.istore X162.here hx rfl (hb hby at_318) rfl (l' := #[.val (.int p1), .val (.int p2), .val (.int p3), .val (.int p4), .val (.int p5), .val (.int (3 : Int32)), .val (.int ca), .val (.int cb), .val (.int cc), .val (.int cd), .val (.ref b_1), .val (.ref b3), .val (.ref b18), .val (.ref b36), .val (.ref b51), .val (.ref b63), .val (.ref b77), .val (.int (p4 &&& (3 : Int32))), .val (.int (1 : Int32)), .val (.int (1 : Int32))]) rfl k) ?_
    refine Go.step (T' := T162) (f' := (mkF m 322 #[.val (.int p1), .val (.int p2), .val (.int p3), .val (.int p4), .val (.int p5), .val (.int (3 : Int32)), .val (.int ca), .val (.int cb), .val (.int cc), .val (.int cd), .val (.ref b_1), .val (.ref b3), .val (.ref b18), .val (.ref b36), .val (.ref b51), .val (.ref b63), .val (.ref b77), .val (.int (p4 &&& (3 : Int32))), .val (.int (1 : Int32)), .val (.int (1 : Int32))] [(.int (1 : Int32))])) (fun _ k => XS.iload X162.here hx rfl (hb hby at_320) rfl k) ?_
    refine Go.step (T' := T162) (f' := (mkF m 325 #[.val (.int p1), .val (.int p2), .val (.int p3), .val (.int p4), .val (.int p5), .val (.int (3 : Int32)), .val (.int ca), .val (.int cb), .val (.int cc), .val (.int cd), .val (.ref b_1), .val (.ref b3), .val (.ref b18), .val (.ref b36), .val (.ref b51), .val (.ref b63), .val (.ref b77), .val (.int (p4 &&& (3 : Int32))), .val (.int (1 : Int32)), .val (.int (1 : Int32))] [])) (fun _ k => XS.ifNo X162.here hx rfl (hb hby at_322) rfl ((if0 _ _).trans (feq (by decide : ¬ ((1 : Int32) = (0 : Int32)))).1) k) ?_
    refine Go.step (T' := T162) (f' := (mkF m 327 #[.val (.int p1), .val (.int p2), .val (.int p3), .val (.int p4), .val (.int p5), .val (.int (3 : Int32)), .val (.int ca), .val (.int cb), .val (.int cc), .val (.int cd), .val (.ref b_1), .val (.ref b3), .val (.ref b18), .val (.ref b36), .val (.ref b51), .val (.ref b63), .val (.ref b77), .val (.int (p4 &&& (3 : Int32))), .val (.int (1 : Int32)), .val (.int (1 : Int32))] [(.int (1 : Int32))])) (fun _ k => XS.iload X162.here hx rfl (hb hby at_325) rfl k) ?_
    refine Go.step (T' := T162) (f' := (mkF m 330 #[.val (.int p1), .val (.int p2), .val (.int p3), .val (.int p4), .val (.int p5), .val (.int (3 : Int32)), .val (.int ca), .val (.int cb), .val (.int cc), .val (.int cd), .val (.ref b_1), .val (.ref b3), .val (.ref b18), .val (.ref b36), .val (.ref b51), .val (.ref b63), .val (.ref b77), .val (.int (p4 &&& (3 : Int32))), .val (.int (1 : Int32)), .val (.int (1 : Int32))] [])) (fun _ k => XS.ifNo X162.here hx rfl (hb hby at_327) rfl ((if0 _ _).trans (feq (by decide : ¬ ((1 : Int32) = (0 : Int32)))).1) k) ?_
    refine Go.step (T' := T162) (f' := (mkF m 331 #[.val (.int p1), .val (.int p2), .val (.int p3), .val (.int p4), .val (.int p5), .val (.int (3 : Int32)), .val (.int ca), .val (.int cb), .val (.int cc), .val (.int cd), .val (.ref b_1), .val (.ref b3), .val (.ref b18), .val (.ref b36), .val (.ref b51), .val (.ref b63), .val (.ref b77), .val (.int (p4 &&& (3 : Int32))), .val (.int (1 : Int32)), .val (.int (1 : Int32))] [(.int (1 : Int32))])) (fun _ k => XS.iconst X162.here hx rfl (hb hby at_330) k) ?_
    refine Go.step (T' := T162) (f' := (mkF m 335 #[.val (.int p1), .val (.int p2), .val (.int p3), .val (.int p4), .val (.int p5), .val (.int (3 : Int32)), .val (.int ca), .val (.int cb), .val (.int cc), .val (.int cd), .val (.ref b_1), .val (.ref b3), .val (.ref b18), .val (.ref b36), .val (.ref b51), .val (.ref b63), .val (.ref b77), .val (.int (p4 &&& (3 : Int32))), .val (.int (1 : Int32)), .val (.int (1 : Int32))] [(.int (1 : Int32))])) (fun _ k => XS.goto X162.here hx rfl (pc0 := 331) (pc' := 335) rfl (hb hby at_331) (by decide) (by decide) k) ?_
    refine goN X162 hx (t := .boolean) Bd.returns (by simp) Bd.notSynchronized (hb hby at_335) ?_ (by decide) (by decide)
    show Q_rm0 Z p1 p2 p3 p4 p5 cs h0 n0 _ T162.heap _
    rw [eh162]
    exact ⟨rfl, N162⟩
set_option maxRecDepth 65536 in
set_option maxHeartbeats 40000000 in
theorem comes_1 {Post : Tables → Env → Array Value → State → Outcome → State → Prop} (hpost : ∀ tb e args s v u, (limb_1_1.after args s (.returned v) u = true ∧ limb_1_2.after args s (.returned v) u = true ∧ True) → FrameEnd s (.returned v) u (Jvm.fieldLocs frame_1_writes args s ++ Jvm.arrayLocs frame_1_arrays args s ++ Jvm.staticLocs frame_1_statics s) 48 256 → Post tb e args s (.returned v) u) :
    ArmFor flags0 classFile x code maxLocals ret World_1 tables_1 room_1 Calls_1 rest_1 Pre_1 Post := by
  intro l hfl _ _ p e ha hc hk s m args below hf hA hF happ hP
  obtain ⟨hcalls, hrest, hpre⟩ := hP
  obtain ⟨-, -, -, hnamed, -, -, -, hat⟩ := (Spec.applies_iff hf).mp happ
  obtain ⟨hg, hn⟩ := and_e (Cond.before_iff.mp (show (Jvm.Cond.and given_1 narrow_1).before args s = true from hpre))
  obtain ⟨g1, g2⟩ := and_e hg
  obtain ⟨g3, g4⟩ := and_e g2
  obtain ⟨g5, g6⟩ := and_e g4
  obtain ⟨g7, g8⟩ := and_e g6
  obtain ⟨g9, g10⟩ := and_e g8
  obtain ⟨w0, w1, w2, w3, w4, rfl⟩ : ∃ w0 w1 w2 w3 w4 : Value, args = #[w0, w1, w2, w3, w4] := by
    have hs : args.size = 5 := by simpa [Cond.value, given_1] using g1
    obtain ⟨L⟩ := args
    match L, hs with
    | [w0, w1, w2, w3, w4], _ => exact ⟨w0, w1, w2, w3, w4, rfl⟩
  have hw := fun d (hd : d ∈ tables_1) => atoms_spec (ws := Jvm.Cond.code x code maxLocals ret :: tables_1) hat d (List.mem_cons_of_mem _ hd)
  have hfit : Fit s := fun {y c} hc i hi => by
    obtain ⟨ha, rfl⟩ := Array.getElem?_eq_some_iff.mp hc
    have q := List.all_eq_true.mp ((Array.all_eq_true_iff_forall_mem.mp hF) _ (Array.getElem_mem ha)) i (List.mem_range.mpr hi)
    simpa [Array.getElem?_eq_getElem hi] using q
  obtain ⟨hsets, hown0⟩ := atoms_of _ (rest_1_c_eq ▸ (show rest_1_c.before _ s = true from hrest))
  have hr0 := Cond.before_iff.mp hown0
  obtain ⟨i0, ei0⟩ := is_v g3
  obtain rfl : w0 = (.int i0) := Option.some.inj ei0
  obtain ⟨i1, ei1⟩ := is_v g5
  obtain rfl : w1 = (.int i1) := Option.some.inj ei1
  obtain ⟨i2, ei2⟩ := is_v g7
  obtain rfl : w2 = (.int i2) := Option.some.inj ei2
  obtain ⟨i3, ei3⟩ := is_v g9
  obtain rfl : w3 = (.int i3) := Option.some.inj ei3
  obtain ⟨i4, ei4⟩ := is_v g10
  obtain rfl : w4 = (.int i4) := Option.some.inj ei4
  obtain ⟨cs, ev_cs⟩ := is_v (Cond.before_iff.mp (hsets _ (List.mem_of_getElem? (i := 1) rfl)))
  have S_COMPACT_STRINGS := Sta.start ev_cs (Or.inl (hsets _ (List.mem_of_getElem? (i := 0) rfl)))
  have hcs : ¬ cs = (0 : Int32) := by
    have q := not_v (Cond.before_iff.mp (hsets _ (List.mem_of_getElem? (i := 2) rfl)))
    intro e
    subst e
    simp [Cond.value, Term.eval] at q
    simp [Term.eval] at ev_cs
    simp [ev_cs] at q
  obtain ⟨n, o, h1, h2, h3, _, L, rfl, ⟨rfl, N⟩, hq⟩ := rm0 l s _ hw tables_1 i0 i1 i2 i3 i4 cs s.heap s.heap.size (Nat.le_refl _) (Old.start s) S_COMPACT_STRINGS hcs p e ha hc hk s m _ below hf ((Spec.applies_iff_loose hf).mp happ).1 ⟨rfl, State.Warmed39.refl s, rfl⟩ trivial
  refine ⟨n, _, h1, h2, h3, hpost _ _ _ _ _ _ ⟨Cond.after_iff.mpr rfl, Cond.after_iff.mpr (eq_i res_at (Term.int_eval (1)) rfl), trivial⟩ ⟨hq.1, hq.2.1, (hq.2.2.sift fun y hy => Or.inr (N y hy)).mono (by decide) (by decide)⟩⟩
theorem main_1_1 : Claimed_1_1 := comes_1 fun _ _ _ _ _ _ h hF => ⟨h.1, hF⟩
theorem main_1_2 : Claimed_1_2 := comes_1 fun _ _ _ _ _ _ h hF => ⟨h.2.1, hF⟩
end Jvm.Pilot.@@N@@
namespace Jvm.Pilot.@@N@@
open Jvm Jvm.ClassFile Sem Op Lib Jvm.Free Jvm.Stand Jvm.Pilot.@@N@@.Jvm.D
/-! MADE BY PROGRAM (witnessworld.py) out of the Statement's table words and the real class files: 23 classes; the members and pool entries that the words name. The judged class is class 1, her method 1. -/
namespace start1
open Jvm.ClassFile
def u (s : String) : CpInfo := .utf8 (stringToUtf16 s)
/-- a pool by its gaps: so many unusable entries, then the entry; so many at the end -/
def gap : Nat → List CpInfo → List CpInfo
  | 0, r => r
  | n + 1, r => .unusable :: gap n r
def poolList (es : List (Nat × CpInfo)) (last : Nat) : List CpInfo := es.foldr (fun e r => gap e.1 (e.2 :: r)) (gap last [])
def pool (es : List (Nat × CpInfo)) (last : Nat) : Array CpInfo := ⟨poolList es last⟩
def fileOf (pool : Array CpInfo) (this : Nat) (attrs : Array Attribute := #[]) (ms : Array MethodInfo := #[]) (fl : Nat := 33) (sup : Nat := 0) (ifs : Array Nat := #[]) (fds : Array FieldInfo := #[]) : ClassFile where
  minorVersion := 0
  majorVersion := 65
  constantPool := pool
  accessFlags := fl
  thisClass := this
  superClass := sup
  interfaces := ifs
  fields := fds
  methods := ms
  attributes := attrs
def plain (name : String) (sup : Option ClassId) : Class where
  name := name
  kind := .ordinary
  loader := none
  accessFlags := 33
  super := sup
  interfaces := #[]
  cf := none
  fields := #[]
  methods := #[]
  instanceTypes := #[]
  staticTypes := #[]
  resolved := #[]
  callSites := []
  init := .initialized
  statics := none
  mirror := none

def pool0 : Array CpInfo := pool [(5, u "<init>"), (0, u "()V"), (1, .class_ 10), (1, u "java/lang/Object")] 113

def k0c0 : Code := { maxStack := 0, maxLocals := 1, code := object_method_1_code, exceptionTable := #[], attributes := #[] }
def k0m0 : Method := { name := "<init>", desc := "()V", sig := { parameters := [], returnType := none }, accessFlags := 1, code := some k0c0 }
/-- java/lang/Object -/
def k0 : Class := { plain "java/lang/Object" none with
  accessFlags := 33
  interfaces := #[]
  cf := some (fileOf pool0 8 #[] #[{ accessFlags := 1, nameIndex := 5, descriptorIndex := 6, attributes := #[] }] 33 0 #[] #[])
  fields := #[]
  methods := #[k0m0]
  instanceTypes := #[]
  staticTypes := #[]
  resolved := Array.replicate 124 none
  statics := none }

def pool1 : Array CpInfo := pool [(2, .class_ 4), (0, .nameAndType 5 6), (0, u "java/lang/Object"), (0, u "<init>"), (0, u "()V"), (0, .methodref 8 9), (0, .class_ 10), (0, .nameAndType 11 12), (0, u "java/lang/String"), (0, u "valueOf"), (0, u "(C)Ljava/lang/String;"), (0, .methodref 8 14), (0, .nameAndType 5 15), (0, u "([C)V"), (0, .class_ 17), (0, u "com/example/fondskit/fondskit/xml/BoundAttributes"), (0, .methodref 16 3), (0, .methodref 16 20), (0, .nameAndType 21 22), (0, u "add"), (0, u "(ILjava/lang/String;Ljava/lang/String;)V"), (0, .methodref 16 24), (0, .nameAndType 25 26), (0, u "clear"), (0, u "(Lorg/xml/sax/Attributes;)V"), (0, .methodref 16 28), (0, .nameAndType 29 30), (0, u "getLocalName"), (0, u "(I)Ljava/lang/String;"), (0, .methodref 32 33), (0, .class_ 34), (0, .nameAndType 35 36), (0, u "com/example/fondskit/fondskit/xml/BoundAttributesGetLocalNamePinLaw"), (0, u "expected"), (0, u "([Ljava/lang/String;II)Ljava/lang/String;"), (2, u "law"), (0, u "(IIIII)Z")] 5

def k1m0 : Method := { name := "<init>", desc := "()V", sig := { parameters := [], returnType := none }, accessFlags := 1, code := none }
def k1c1 : Code := { maxStack := 6, maxLocals := 20, code := code, exceptionTable := #[], attributes := #[] }
def k1m1 : Method := { name := "law", desc := "(IIIII)Z", sig := { parameters := [.int, .int, .int, .int, .int], returnType := some .boolean }, accessFlags := 9, code := some k1c1 }
def k1c2 : Code := { maxStack := 2, maxLocals := 3, code := method_3_code, exceptionTable := #[], attributes := #[] }
def k1m2 : Method := { name := "expected", desc := "([Ljava/lang/String;II)Ljava/lang/String;", sig := { parameters := [(.array (.object "java/lang/String")), .int, .int], returnType := some (.object "java/lang/String") }, accessFlags := 10, code := some k1c2 }
/-- com/example/fondskit/fondskit/xml/BoundAttributesGetLocalNamePinLaw -/
def k1 : Class := { plain "com/example/fondskit/fondskit/xml/BoundAttributesGetLocalNamePinLaw" (some 0) with
  accessFlags := 49
  interfaces := #[]
  cf := some (fileOf pool1 32 #[] #[{ accessFlags := 1, nameIndex := 5, descriptorIndex := 6, attributes := #[] }, { accessFlags := 9, nameIndex := 39, descriptorIndex := 40, attributes := #[] }, { accessFlags := 10, nameIndex := 35, descriptorIndex := 36, attributes := #[] }] 49 2 #[] #[])
  fields := #[]
  methods := #[k1m0, k1m1, k1m2]
  instanceTypes := #[]
  staticTypes := #[]
  resolved := Array.replicate 46 none
  statics := none }

def pool2 : Array CpInfo := pool [(1, .class_ 2), (0, u "java/io/Serializable"), (0, .class_ 4), (0, u "java/lang/Object")] 2

/-- java/io/Serializable -/
def k2 : Class := { plain "java/io/Serializable" (some 0) with
  accessFlags := 1537
  interfaces := #[]
  cf := some (fileOf pool2 1 #[] #[] 1537 3 #[] #[])
  fields := #[]
  methods := #[]
  instanceTypes := #[]
  staticTypes := #[]
  resolved := Array.replicate 7 none
  statics := none }

def pool3 : Array CpInfo := pool [(1, .class_ 2), (0, u "java/lang/Comparable"), (0, .class_ 4), (0, u "java/lang/Object")] 7

/-- java/lang/Comparable -/
def k3 : Class := { plain "java/lang/Comparable" (some 0) with
  accessFlags := 1537
  interfaces := #[]
  cf := some (fileOf pool3 1 #[] #[] 1537 3 #[] #[])
  fields := #[]
  methods := #[]
  instanceTypes := #[]
  staticTypes := #[]
  resolved := Array.replicate 12 none
  statics := none }

def pool4 : Array CpInfo := pool [(2, .class_ 4), (1, u "java/lang/CharSequence"), (42, .class_ 48), (0, u "java/lang/CharSequence$1CodePointIterator"), (10, .class_ 60), (0, u "java/lang/CharSequence$1CharIterator"), (5, .class_ 67), (0, u "java/lang/Object")] 63

/-- java/lang/CharSequence -/
def k4 : Class := { plain "java/lang/CharSequence" (some 0) with
  accessFlags := 1537
  interfaces := #[]
  cf := some (fileOf pool4 2 #[.nestMembers #[47, 59]] #[] 1537 66 #[] #[])
  fields := #[]
  methods := #[]
  instanceTypes := #[]
  staticTypes := #[]
  resolved := Array.replicate 131 none
  statics := none }

def pool5 : Array CpInfo := pool [(1, .class_ 2), (0, u "java/lang/constant/Constable"), (0, .class_ 4), (0, u "java/lang/Object")] 6

/-- java/lang/constant/Constable -/
def k5 : Class := { plain "java/lang/constant/Constable" (some 0) with
  accessFlags := 1537
  interfaces := #[]
  cf := some (fileOf pool5 1 #[] #[] 1537 3 #[] #[])
  fields := #[]
  methods := #[]
  instanceTypes := #[]
  staticTypes := #[]
  resolved := Array.replicate 11 none
  statics := none }

def pool6 : Array CpInfo := pool [(1, .class_ 2), (0, u "java/lang/constant/ConstantDesc"), (0, .class_ 4), (0, u "java/lang/Object")] 32

/-- java/lang/constant/ConstantDesc -/
def k6 : Class := { plain "java/lang/constant/ConstantDesc" (some 0) with
  accessFlags := 1537
  interfaces := #[]
  cf := some (fileOf pool6 1 #[] #[] 1537 3 #[] #[])
  fields := #[]
  methods := #[]
  instanceTypes := #[]
  staticTypes := #[]
  resolved := Array.replicate 37 none
  statics := none }

def pool7 : Array CpInfo := pool [(1, .methodref 2 3), (0, .class_ 4), (0, .nameAndType 5 6), (0, u "java/lang/Object"), (0, u "<init>"), (0, u "()V"), (2, .fieldref 10 11), (0, .class_ 12), (0, .nameAndType 13 14), (0, u "java/lang/String"), (0, u "value"), (0, u "[B"), (0, .fieldref 10 16), (0, .nameAndType 17 18), (0, u "coder"), (0, u "B"), (2, u "hash"), (0, u "I"), (2, u "hashIsZero"), (0, u "Z"), (0, .methodref 10 28), (0, .nameAndType 5 29), (0, u "([CIILjava/lang/Void;)V"), (8, .fieldref 10 39), (0, .nameAndType 40 26), (0, u "COMPACT_STRINGS"), (1, .class_ 44), (1, u "java/lang/StringUTF16"), (0, u "compress"), (1, .methodref 42 48), (0, .nameAndType 49 50), (0, u "coderFromArrayLen"), (0, u "([BI)B"), (2, u "toBytes"), (53, .class_ 109), (1, u "java/lang/StringLatin1"), (67, .methodref 42 178), (0, .nameAndType 45 179), (0, u "([CII)[B"), (29, .methodref 10 210), (0, .nameAndType 5 211), (0, u "([BB)V"), (157, u "(C)Z"), (205, .class_ 576), (0, u "java/lang/CharSequence"), (22, u "CASE_INSENSITIVE_ORDER"), (0, u "Ljava/util/Comparator;"), (181, u "valueOf"), (0, u "(C)Ljava/lang/String;"), (226, u "([C)V"), (4, .methodref 107 1016), (0, .nameAndType 1017 369), (0, u "canEncode"), (0, .methodref 107 1019), (0, .nameAndType 53 1020), (0, u "(C)[B"), (80, u "serialPersistentFields"), (0, u "[Ljava/io/ObjectStreamField;"), (0, .class_ 1104), (0, u "java/lang/String$CaseInsensitiveComparator"), (1, .class_ 1107), (0, u "java/io/Serializable"), (0, .class_ 1109), (0, u "java/lang/Comparable"), (0, .class_ 1111), (0, u "java/lang/constant/Constable"), (0, .class_ 1113), (0, u "java/lang/constant/ConstantDesc"), (2, u "serialVersionUID"), (0, u "J"), (3, u "REPL"), (0, u "C"), (2, u "LATIN1"), (1, u "UTF16")] 323

def k7m0 : Method := { name := "<init>", desc := "()V", sig := { parameters := [], returnType := none }, accessFlags := 1, code := none }
def k7c1 : Code := { maxStack := 5, maxLocals := 2, code := jdk_42_method_3_code, exceptionTable := #[], attributes := #[] }
def k7m1 : Method := { name := "<init>", desc := "([C)V", sig := { parameters := [(.array .char)], returnType := none }, accessFlags := 1, code := some k7c1 }
def k7c2 : Code := { maxStack := 4, maxLocals := 1, code := jdk_42_method_139_code, exceptionTable := #[], attributes := #[] }
def k7m2 : Method := { name := "valueOf", desc := "(C)Ljava/lang/String;", sig := { parameters := [.char], returnType := some (.object "java/lang/String") }, accessFlags := 9, code := some k7c2 }
def k7c3 : Code := { maxStack := 4, maxLocals := 6, code := jdk_42_method_149_code, exceptionTable := #[], attributes := #[] }
def k7m3 : Method := { name := "<init>", desc := "([CIILjava/lang/Void;)V", sig := { parameters := [(.array .char), .int, .int, (.object "java/lang/Void")], returnType := none }, accessFlags := 2, code := some k7c3 }
def k7c4 : Code := { maxStack := 2, maxLocals := 3, code := jdk_42_method_151_code, exceptionTable := #[], attributes := #[] }
def k7m4 : Method := { name := "<init>", desc := "([BB)V", sig := { parameters := [(.array .byte), .byte], returnType := none }, accessFlags := 0, code := some k7c4 }
/-- java/lang/String -/
def k7 : Class := { plain "java/lang/String" (some 0) with
  accessFlags := 49
  interfaces := #[2, 3, 4, 5, 6]
  cf := some (fileOf pool7 10 #[.nestMembers #[1103]] #[{ accessFlags := 1, nameIndex := 5, descriptorIndex := 6, attributes := #[] }, { accessFlags := 1, nameIndex := 5, descriptorIndex := 1010, attributes := #[] }, { accessFlags := 9, nameIndex := 782, descriptorIndex := 783, attributes := #[] }, { accessFlags := 2, nameIndex := 5, descriptorIndex := 29, attributes := #[] }, { accessFlags := 0, nameIndex := 5, descriptorIndex := 211, attributes := #[] }] 49 2 #[1106, 1108, 575, 1110, 1112] #[{ accessFlags := 18, nameIndex := 13, descriptorIndex := 14, attributes := #[] }, { accessFlags := 18, nameIndex := 17, descriptorIndex := 18, attributes := #[] }, { accessFlags := 2, nameIndex := 21, descriptorIndex := 22, attributes := #[] }, { accessFlags := 2, nameIndex := 25, descriptorIndex := 26, attributes := #[] }, { accessFlags := 26, nameIndex := 1116, descriptorIndex := 1117, attributes := #[] }, { accessFlags := 24, nameIndex := 40, descriptorIndex := 26, attributes := #[] }, { accessFlags := 26, nameIndex := 1101, descriptorIndex := 1102, attributes := #[] }, { accessFlags := 26, nameIndex := 1121, descriptorIndex := 1122, attributes := #[] }, { accessFlags := 25, nameIndex := 599, descriptorIndex := 600, attributes := #[] }, { accessFlags := 24, nameIndex := 1125, descriptorIndex := 18, attributes := #[] }, { accessFlags := 24, nameIndex := 1127, descriptorIndex := 18, attributes := #[] }])
  fields := #[{ name := "value", type := (.array .byte), accessFlags := 18, slot := 0, constantValue := 0 }, { name := "coder", type := .byte, accessFlags := 18, slot := 1, constantValue := 0 }, { name := "hash", type := .int, accessFlags := 2, slot := 2, constantValue := 0 }, { name := "hashIsZero", type := .boolean, accessFlags := 2, slot := 3, constantValue := 0 }, { name := "serialVersionUID", type := .long, accessFlags := 26, slot := 0, constantValue := 0 }, { name := "COMPACT_STRINGS", type := .boolean, accessFlags := 24, slot := 1, constantValue := 0 }, { name := "serialPersistentFields", type := (.array (.object "java/io/ObjectStreamField")), accessFlags := 26, slot := 2, constantValue := 0 }, { name := "REPL", type := .char, accessFlags := 26, slot := 3, constantValue := 0 }, { name := "CASE_INSENSITIVE_ORDER", type := (.object "java/util/Comparator"), accessFlags := 25, slot := 4, constantValue := 0 }, { name := "LATIN1", type := .byte, accessFlags := 24, slot := 5, constantValue := 0 }, { name := "UTF16", type := .byte, accessFlags := 24, slot := 6, constantValue := 0 }]
  methods := #[k7m0, k7m1, k7m2, k7m3, k7m4]
  instanceTypes := #[(.array .byte), .byte, .int, .boolean]
  staticTypes := #[.long, .boolean, (.array (.object "java/io/ObjectStreamField")), .char, (.object "java/util/Comparator"), .byte, .byte]
  resolved := Array.replicate 1451 none
  statics := some 0 }

def pool8 : Array CpInfo := pool [(4, .class_ 6), (1, u "java/lang/Object"), (0, u "<init>"), (0, u "()V"), (5, .class_ 16), (1, u "java/lang/StringLatin1"), (73, u "canEncode"), (14, u "(C)Z"), (15, u "$assertionsDisabled"), (0, u "Z"), (98, .class_ 223), (1, u "java/lang/StringLatin1$LinesSpliterator"), (156, u "toBytes"), (1, u "(C)[B"), (7, .class_ 391), (0, u "java/lang/StringLatin1$CharsSpliterator")] 3

def k8m0 : Method := { name := "<init>", desc := "()V", sig := { parameters := [], returnType := none }, accessFlags := 0, code := none }
def k8c1 : Code := { maxStack := 2, maxLocals := 1, code := jdk_43_method_3_code, exceptionTable := #[], attributes := #[] }
def k8m1 : Method := { name := "canEncode", desc := "(C)Z", sig := { parameters := [.char], returnType := some .boolean }, accessFlags := 9, code := some k8c1 }
def k8c2 : Code := { maxStack := 4, maxLocals := 1, code := jdk_43_method_46_code, exceptionTable := #[], attributes := #[] }
def k8m2 : Method := { name := "toBytes", desc := "(C)[B", sig := { parameters := [.char], returnType := some (.array .byte) }, accessFlags := 9, code := some k8c2 }
/-- java/lang/StringLatin1 -/
def k8 : Class := { plain "java/lang/StringLatin1" (some 0) with
  accessFlags := 48
  interfaces := #[]
  cf := some (fileOf pool8 14 #[.nestMembers #[390, 221]] #[{ accessFlags := 0, nameIndex := 7, descriptorIndex := 8, attributes := #[] }, { accessFlags := 9, nameIndex := 90, descriptorIndex := 105, attributes := #[] }, { accessFlags := 9, nameIndex := 380, descriptorIndex := 382, attributes := #[] }] 48 4 #[] #[{ accessFlags := 4120, nameIndex := 121, descriptorIndex := 122, attributes := #[] }])
  fields := #[{ name := "$assertionsDisabled", type := .boolean, accessFlags := 4120, slot := 0, constantValue := 0 }]
  methods := #[k8m0, k8m1, k8m2]
  instanceTypes := #[]
  staticTypes := #[.boolean]
  resolved := Array.replicate 395 none
  statics := none }

def pool9 : Array CpInfo := pool [(6, .class_ 8), (1, u "java/lang/Object"), (0, u "<init>"), (0, u "()V"), (1, .class_ 14), (1, u "java/lang/StringUTF16"), (31, u "$assertionsDisabled"), (0, u "Z"), (13, u "HI_BYTE_SHIFT"), (0, u "I"), (2, u "LO_BYTE_SHIFT"), (49, .methodref 12 116), (0, .nameAndType 117 118), (0, u "compress"), (0, u "([CI[BII)I"), (3, u "([CII)[B"), (138, u "coderFromArrayLen"), (0, u "([BI)B"), (106, .class_ 371), (1, u "java/lang/StringUTF16$LinesSpliterator"), (58, u "MAX_LENGTH"), (196, .class_ 628), (0, u "java/lang/StringUTF16$CodePointsSpliterator"), (0, .class_ 630), (0, u "java/lang/StringUTF16$CharsSpliterator")] 4

def k9m0 : Method := { name := "<init>", desc := "()V", sig := { parameters := [], returnType := none }, accessFlags := 0, code := none }
def k9c1 : Code := { maxStack := 2, maxLocals := 2, code := jdk_52_method_15_code, exceptionTable := #[], attributes := #[] }
def k9m1 : Method := { name := "coderFromArrayLen", desc := "([BI)B", sig := { parameters := [(.array .byte), .int], returnType := some .byte }, accessFlags := 8, code := some k9c1 }
def k9c2 : Code := { maxStack := 5, maxLocals := 6, code := jdk_52_method_16_code, exceptionTable := #[], attributes := #[] }
def k9m2 : Method := { name := "compress", desc := "([CII)[B", sig := { parameters := [(.array .char), .int, .int], returnType := some (.array .byte) }, accessFlags := 9, code := some k9c2 }
def k9c3 : Code := { maxStack := 3, maxLocals := 7, code := jdk_52_method_21_code, exceptionTable := #[], attributes := #[] }
def k9m3 : Method := { name := "compress", desc := "([CI[BII)I", sig := { parameters := [(.array .char), .int, (.array .byte), .int, .int], returnType := some .int }, accessFlags := 9, code := some k9c3 }
/-- java/lang/StringUTF16 -/
def k9 : Class := { plain "java/lang/StringUTF16" (some 0) with
  accessFlags := 48
  interfaces := #[]
  cf := some (fileOf pool9 12 #[.nestMembers #[627, 629, 369]] #[{ accessFlags := 0, nameIndex := 9, descriptorIndex := 10, attributes := #[] }, { accessFlags := 8, nameIndex := 261, descriptorIndex := 262, attributes := #[] }, { accessFlags := 9, nameIndex := 117, descriptorIndex := 122, attributes := #[] }, { accessFlags := 9, nameIndex := 117, descriptorIndex := 118, attributes := #[] }] 48 6 #[] #[{ accessFlags := 26, nameIndex := 61, descriptorIndex := 62, attributes := #[] }, { accessFlags := 26, nameIndex := 65, descriptorIndex := 62, attributes := #[] }, { accessFlags := 24, nameIndex := 430, descriptorIndex := 62, attributes := #[] }, { accessFlags := 4120, nameIndex := 46, descriptorIndex := 47, attributes := #[] }])
  fields := #[{ name := "HI_BYTE_SHIFT", type := .int, accessFlags := 26, slot := 0, constantValue := 0 }, { name := "LO_BYTE_SHIFT", type := .int, accessFlags := 26, slot := 1, constantValue := 0 }, { name := "MAX_LENGTH", type := .int, accessFlags := 24, slot := 2, constantValue := 0 }, { name := "$assertionsDisabled", type := .boolean, accessFlags := 4120, slot := 3, constantValue := 0 }]
  methods := #[k9m0, k9m1, k9m2, k9m3]
  instanceTypes := #[]
  staticTypes := #[.int, .int, .int, .boolean]
  resolved := Array.replicate 635 none
  statics := none }

def pool10 : Array CpInfo := pool [(1, u "org/xml/sax/Attributes"), (0, .class_ 1), (0, u "java/lang/Object"), (0, .class_ 3)] 0

/-- org/xml/sax/Attributes -/
def k10 : Class := { plain "org/xml/sax/Attributes" (some 0) with
  accessFlags := 1537
  interfaces := #[]
  cf := some (fileOf pool10 2 #[] #[] 1537 4 #[] #[])
  fields := #[]
  methods := #[]
  instanceTypes := #[]
  staticTypes := #[]
  resolved := Array.replicate 5 none
  statics := none }

def pool11 : Array CpInfo := pool [(1, u "org/xml/sax/ext/Attributes2"), (0, .class_ 1), (0, u "java/lang/Object"), (0, .class_ 3), (0, u "org/xml/sax/Attributes"), (0, .class_ 5)] 0

/-- org/xml/sax/ext/Attributes2 -/
def k11 : Class := { plain "org/xml/sax/ext/Attributes2" (some 0) with
  accessFlags := 1537
  interfaces := #[10]
  cf := some (fileOf pool11 2 #[] #[] 1537 4 #[6] #[])
  fields := #[]
  methods := #[]
  instanceTypes := #[]
  staticTypes := #[]
  resolved := Array.replicate 7 none
  statics := none }

def pool12 : Array CpInfo := pool [(1, .methodref 2 3), (0, .class_ 4), (0, .nameAndType 5 6), (0, u "java/lang/Object"), (0, u "<init>"), (0, u "()V"), (0, .class_ 8), (0, u "com/example/fondskit/fondskit/xml/BoundAttributes"), (0, .fieldref 7 10), (0, .nameAndType 11 12), (0, u "indexes"), (0, u "[I"), (0, .class_ 14), (0, u "java/lang/String"), (0, .fieldref 7 16), (0, .nameAndType 17 18), (0, u "namespaces"), (0, u "[Ljava/lang/String;"), (0, .fieldref 7 20), (0, .nameAndType 21 18), (0, u "localNames"), (0, .fieldref 7 23), (0, .nameAndType 24 25), (0, u "parsed"), (0, u "Lorg/xml/sax/Attributes;"), (0, .fieldref 7 27), (0, .nameAndType 28 29), (0, u "length"), (0, u "I"), (10, .methodref 7 41), (0, .nameAndType 42 43), (0, u "isIndex"), (0, u "(I)Z"), (5, u "(I)Ljava/lang/String;"), (19, .class_ 70), (0, u "org/xml/sax/ext/Attributes2"), (31, u "FIRST_PLACES"), (4, u "clear"), (0, u "(Lorg/xml/sax/Attributes;)V"), (0, u "add"), (0, u "(ILjava/lang/String;Ljava/lang/String;)V"), (4, u "getLocalName")] 22

def k12c0 : Code := { maxStack := 2, maxLocals := 1, code := prog_49_method_1_code, exceptionTable := #[], attributes := #[] }
def k12m0 : Method := { name := "<init>", desc := "()V", sig := { parameters := [], returnType := none }, accessFlags := 0, code := some k12c0 }
def k12c1 : Code := { maxStack := 2, maxLocals := 2, code := prog_49_method_2_code, exceptionTable := #[], attributes := #[] }
def k12m1 : Method := { name := "clear", desc := "(Lorg/xml/sax/Attributes;)V", sig := { parameters := [(.object "org/xml/sax/Attributes")], returnType := none }, accessFlags := 0, code := some k12c1 }
def k12c2 : Code := { maxStack := 4, maxLocals := 4, code := prog_49_method_3_code, exceptionTable := #[], attributes := #[] }
def k12m2 : Method := { name := "add", desc := "(ILjava/lang/String;Ljava/lang/String;)V", sig := { parameters := [.int, (.object "java/lang/String"), (.object "java/lang/String")], returnType := none }, accessFlags := 0, code := some k12c2 }
def k12c3 : Code := { maxStack := 2, maxLocals := 2, code := prog_49_method_6_code, exceptionTable := #[], attributes := #[] }
def k12m3 : Method := { name := "getLocalName", desc := "(I)Ljava/lang/String;", sig := { parameters := [.int], returnType := some (.object "java/lang/String") }, accessFlags := 1, code := some k12c3 }
def k12c4 : Code := { maxStack := 2, maxLocals := 2, code := prog_49_method_22_code, exceptionTable := #[], attributes := #[] }
def k12m4 : Method := { name := "isIndex", desc := "(I)Z", sig := { parameters := [.int], returnType := some .boolean }, accessFlags := 2, code := some k12c4 }
/-- com/example/fondskit/fondskit/xml/BoundAttributes -/
def k12 : Class := { plain "com/example/fondskit/fondskit/xml/BoundAttributes" (some 0) with
  accessFlags := 48
  interfaces := #[11]
  cf := some (fileOf pool12 7 #[] #[{ accessFlags := 0, nameIndex := 5, descriptorIndex := 6, attributes := #[] }, { accessFlags := 0, nameIndex := 107, descriptorIndex := 108, attributes := #[] }, { accessFlags := 0, nameIndex := 109, descriptorIndex := 110, attributes := #[] }, { accessFlags := 1, nameIndex := 115, descriptorIndex := 49, attributes := #[] }, { accessFlags := 2, nameIndex := 42, descriptorIndex := 43, attributes := #[] }] 48 2 #[69] #[{ accessFlags := 26, nameIndex := 102, descriptorIndex := 29, attributes := #[] }, { accessFlags := 2, nameIndex := 24, descriptorIndex := 25, attributes := #[] }, { accessFlags := 2, nameIndex := 11, descriptorIndex := 12, attributes := #[] }, { accessFlags := 2, nameIndex := 17, descriptorIndex := 18, attributes := #[] }, { accessFlags := 2, nameIndex := 21, descriptorIndex := 18, attributes := #[] }, { accessFlags := 2, nameIndex := 28, descriptorIndex := 29, attributes := #[] }])
  fields := #[{ name := "FIRST_PLACES", type := .int, accessFlags := 26, slot := 0, constantValue := 0 }, { name := "parsed", type := (.object "org/xml/sax/Attributes"), accessFlags := 2, slot := 0, constantValue := 0 }, { name := "indexes", type := (.array .int), accessFlags := 2, slot := 1, constantValue := 0 }, { name := "namespaces", type := (.array (.object "java/lang/String")), accessFlags := 2, slot := 2, constantValue := 0 }, { name := "localNames", type := (.array (.object "java/lang/String")), accessFlags := 2, slot := 3, constantValue := 0 }, { name := "length", type := .int, accessFlags := 2, slot := 4, constantValue := 0 }]
  methods := #[k12m0, k12m1, k12m2, k12m3, k12m4]
  instanceTypes := #[(.object "org/xml/sax/Attributes"), (.array .int), (.array (.object "java/lang/String")), (.array (.object "java/lang/String")), .int]
  staticTypes := #[.int]
  resolved := Array.replicate 138 none
  statics := none }

def pool13 : Array CpInfo := pool [(2, .class_ 4), (1, u "java/lang/Object"), (0, u "<init>"), (0, u "()V"), (17, .class_ 26), (1, u "jdk/internal/util/Preconditions"), (28, .class_ 56), (0, u "jdk/internal/util/Preconditions$4"), (57, .class_ 115), (0, u "jdk/internal/util/Preconditions$1"), (7, u "SIOOBE_FORMATTER"), (0, u "Ljava/util/function/BiFunction;"), (0, .class_ 126), (0, u "jdk/internal/util/Preconditions$2"), (3, u "AIOOBE_FORMATTER"), (0, .class_ 132), (0, u "jdk/internal/util/Preconditions$3"), (3, u "IOOBE_FORMATTER")] 57

def k13m0 : Method := { name := "<init>", desc := "()V", sig := { parameters := [], returnType := none }, accessFlags := 1, code := none }
/-- jdk/internal/util/Preconditions -/
def k13 : Class := { plain "jdk/internal/util/Preconditions" (some 0) with
  accessFlags := 33
  interfaces := #[]
  cf := some (fileOf pool13 24 #[.nestMembers #[55, 131, 125, 114]] #[{ accessFlags := 1, nameIndex := 5, descriptorIndex := 6, attributes := #[] }] 33 2 #[] #[{ accessFlags := 25, nameIndex := 123, descriptorIndex := 124, attributes := #[] }, { accessFlags := 25, nameIndex := 130, descriptorIndex := 124, attributes := #[] }, { accessFlags := 25, nameIndex := 136, descriptorIndex := 124, attributes := #[] }])
  fields := #[{ name := "SIOOBE_FORMATTER", type := (.object "java/util/function/BiFunction"), accessFlags := 25, slot := 0, constantValue := 0 }, { name := "AIOOBE_FORMATTER", type := (.object "java/util/function/BiFunction"), accessFlags := 25, slot := 1, constantValue := 0 }, { name := "IOOBE_FORMATTER", type := (.object "java/util/function/BiFunction"), accessFlags := 25, slot := 2, constantValue := 0 }]
  methods := #[k13m0]
  instanceTypes := #[]
  staticTypes := #[(.object "java/util/function/BiFunction"), (.object "java/util/function/BiFunction"), (.object "java/util/function/BiFunction")]
  resolved := Array.replicate 194 none
  statics := some 1 }

def pool14 : Array CpInfo := pool [(9, u "<init>"), (6, .class_ 18), (1, u "java/lang/Object"), (0, u "()V"), (1, .class_ 23), (1, u "jdk/internal/util/ArraysSupport"), (0, u "LOG2_ARRAY_LONG_INDEX_SCALE"), (0, u "I"), (2, u "U"), (0, u "Ljdk/internal/misc/Unsafe;"), (8, u "BIG_ENDIAN"), (0, u "Z"), (8, u "LOG2_BYTE_BIT_SIZE"), (4, u "LOG2_ARRAY_INT_INDEX_SCALE"), (54, u "JLA"), (0, u "Ljdk/internal/access/JavaLangAccess;"), (11, u "LOG2_ARRAY_BOOLEAN_INDEX_SCALE"), (9, u "LOG2_ARRAY_BYTE_INDEX_SCALE"), (5, u "LOG2_ARRAY_CHAR_INDEX_SCALE"), (5, u "LOG2_ARRAY_SHORT_INDEX_SCALE"), (18, u "LOG2_ARRAY_FLOAT_INDEX_SCALE"), (24, u "LOG2_ARRAY_DOUBLE_INDEX_SCALE"), (89, u "T_BOOLEAN"), (2, u "T_CHAR"), (1, u "T_FLOAT"), (1, u "T_DOUBLE"), (1, u "T_BYTE"), (1, u "T_SHORT"), (1, u "T_INT"), (1, u "T_LONG"), (1, u "SOFT_MAX_ARRAY_LENGTH")] 83

def k14m0 : Method := { name := "<init>", desc := "()V", sig := { parameters := [], returnType := none }, accessFlags := 2, code := none }
/-- jdk/internal/util/ArraysSupport -/
def k14 : Class := { plain "jdk/internal/util/ArraysSupport" (some 0) with
  accessFlags := 33
  interfaces := #[]
  cf := some (fileOf pool14 21 #[] #[{ accessFlags := 2, nameIndex := 9, descriptorIndex := 19, attributes := #[] }] 33 16 #[] #[{ accessFlags := 24, nameIndex := 28, descriptorIndex := 29, attributes := #[] }, { accessFlags := 26, nameIndex := 38, descriptorIndex := 39, attributes := #[] }, { accessFlags := 25, nameIndex := 121, descriptorIndex := 25, attributes := #[] }, { accessFlags := 25, nameIndex := 131, descriptorIndex := 25, attributes := #[] }, { accessFlags := 25, nameIndex := 137, descriptorIndex := 25, attributes := #[] }, { accessFlags := 25, nameIndex := 143, descriptorIndex := 25, attributes := #[] }, { accessFlags := 25, nameIndex := 53, descriptorIndex := 25, attributes := #[] }, { accessFlags := 25, nameIndex := 24, descriptorIndex := 25, attributes := #[] }, { accessFlags := 25, nameIndex := 162, descriptorIndex := 25, attributes := #[] }, { accessFlags := 25, nameIndex := 187, descriptorIndex := 25, attributes := #[] }, { accessFlags := 26, nameIndex := 48, descriptorIndex := 25, attributes := #[] }, { accessFlags := 25, nameIndex := 277, descriptorIndex := 25, attributes := #[] }, { accessFlags := 25, nameIndex := 280, descriptorIndex := 25, attributes := #[] }, { accessFlags := 25, nameIndex := 282, descriptorIndex := 25, attributes := #[] }, { accessFlags := 25, nameIndex := 284, descriptorIndex := 25, attributes := #[] }, { accessFlags := 25, nameIndex := 286, descriptorIndex := 25, attributes := #[] }, { accessFlags := 25, nameIndex := 288, descriptorIndex := 25, attributes := #[] }, { accessFlags := 25, nameIndex := 290, descriptorIndex := 25, attributes := #[] }, { accessFlags := 25, nameIndex := 292, descriptorIndex := 25, attributes := #[] }, { accessFlags := 26, nameIndex := 108, descriptorIndex := 109, attributes := #[] }, { accessFlags := 25, nameIndex := 294, descriptorIndex := 25, attributes := #[] }])
  fields := #[{ name := "U", type := (.object "jdk/internal/misc/Unsafe"), accessFlags := 24, slot := 0, constantValue := 0 }, { name := "BIG_ENDIAN", type := .boolean, accessFlags := 26, slot := 1, constantValue := 0 }, { name := "LOG2_ARRAY_BOOLEAN_INDEX_SCALE", type := .int, accessFlags := 25, slot := 2, constantValue := 0 }, { name := "LOG2_ARRAY_BYTE_INDEX_SCALE", type := .int, accessFlags := 25, slot := 3, constantValue := 0 }, { name := "LOG2_ARRAY_CHAR_INDEX_SCALE", type := .int, accessFlags := 25, slot := 4, constantValue := 0 }, { name := "LOG2_ARRAY_SHORT_INDEX_SCALE", type := .int, accessFlags := 25, slot := 5, constantValue := 0 }, { name := "LOG2_ARRAY_INT_INDEX_SCALE", type := .int, accessFlags := 25, slot := 6, constantValue := 0 }, { name := "LOG2_ARRAY_LONG_INDEX_SCALE", type := .int, accessFlags := 25, slot := 7, constantValue := 0 }, { name := "LOG2_ARRAY_FLOAT_INDEX_SCALE", type := .int, accessFlags := 25, slot := 8, constantValue := 0 }, { name := "LOG2_ARRAY_DOUBLE_INDEX_SCALE", type := .int, accessFlags := 25, slot := 9, constantValue := 0 }, { name := "LOG2_BYTE_BIT_SIZE", type := .int, accessFlags := 26, slot := 10, constantValue := 0 }, { name := "T_BOOLEAN", type := .int, accessFlags := 25, slot := 11, constantValue := 0 }, { name := "T_CHAR", type := .int, accessFlags := 25, slot := 12, constantValue := 0 }, { name := "T_FLOAT", type := .int, accessFlags := 25, slot := 13, constantValue := 0 }, { name := "T_DOUBLE", type := .int, accessFlags := 25, slot := 14, constantValue := 0 }, { name := "T_BYTE", type := .int, accessFlags := 25, slot := 15, constantValue := 0 }, { name := "T_SHORT", type := .int, accessFlags := 25, slot := 16, constantValue := 0 }, { name := "T_INT", type := .int, accessFlags := 25, slot := 17, constantValue := 0 }, { name := "T_LONG", type := .int, accessFlags := 25, slot := 18, constantValue := 0 }, { name := "JLA", type := (.object "jdk/internal/access/JavaLangAccess"), accessFlags := 26, slot := 19, constantValue := 0 }, { name := "SOFT_MAX_ARRAY_LENGTH", type := .int, accessFlags := 25, slot := 20, constantValue := 0 }]
  methods := #[k14m0]
  instanceTypes := #[]
  staticTypes := #[(.object "jdk/internal/misc/Unsafe"), .boolean, .int, .int, .int, .int, .int, .int, .int, .int, .int, .int, .int, .int, .int, .int, .int, .int, .int, (.object "jdk/internal/access/JavaLangAccess"), .int]
  resolved := Array.replicate 378 none
  statics := none }

def pool15 : Array CpInfo := pool [(1, u "java/lang/Cloneable"), (0, .class_ 1), (0, u "java/lang/Object"), (0, .class_ 3)] 3

/-- java/lang/Cloneable -/
def k15 : Class := { plain "java/lang/Cloneable" (some 0) with
  accessFlags := 1537
  interfaces := #[]
  cf := some (fileOf pool15 2 #[] #[] 1537 4 #[] #[])
  fields := #[]
  methods := #[]
  instanceTypes := #[]
  staticTypes := #[]
  resolved := Array.replicate 8 none
  statics := none }

/-- the primitive byte -/
def k16 : Class := { plain "byte" none with kind := .primitive 'B', accessFlags := 0x411 }
/-- [B -/
def k17 : Class := { plain "[B" (some 0) with kind := .array 16 .byte, interfaces := #[15, 2], accessFlags := 1041 }

/-- the primitive char -/
def k18 : Class := { plain "char" none with kind := .primitive 'C', accessFlags := 0x411 }
/-- [C -/
def k19 : Class := { plain "[C" (some 0) with kind := .array 18 .char, interfaces := #[15, 2], accessFlags := 1041 }

/-- the primitive int -/
def k20 : Class := { plain "int" none with kind := .primitive 'I', accessFlags := 0x411 }
/-- [I -/
def k21 : Class := { plain "[I" (some 0) with kind := .array 20 .int, interfaces := #[15, 2], accessFlags := 1041 }

/-- [Ljava/lang/String; -/
def k22 : Class := { plain "[Ljava/lang/String;" (some 0) with kind := .array 7 (.object "java/lang/String"), interfaces := #[15, 2], accessFlags := 1041 }

def heap : Heap := #[{ cls := 7, slots := #[.long 0, .int 1, .null, .int 0, .null, .int 0, .int 0], vm := .statics 7 },
  { cls := 13, slots := #[.null, .null, .null], vm := .statics 13 }]
def classes : Array Class := #[k0, k1, k2, k3, k4, k5, k6, k7, k8, k9, k10, k11, k12, k13, k14, k15, k16, k17, k18, k19, k20, k21, k22]
def interned : List (Array UInt16 × Addr) := []
def slotsUsed : Nat := 10
def theMethod : MethodId := ⟨1, 1⟩
def args0 : Array Value := #[.int 5, .int 5, .int 5, .int 5, .int 5]
def aboutOver (below : List Frame) : State where
  vm := { classes := classes, interned := interned.toArray }
  heap := heap
  slotsUsed := slotsUsed
  threads := #[{ frames := .invoking theMethod args0 :: below }]
def below0 : List Frame := [.native { method := ⟨0, 0⟩, args := #[] }]
def about1 : State := aboutOver below0
def p0 : Program := .bare "" "" ""
def e0 : Env := launch0.env 0 0 0
theorem w_frames : about1.frames = Frame.invoking theMethod args0 :: below0 := rfl
set_option maxRecDepth 65536 in
theorem w_args : argsFit about1.vm theMethod args0 = true := by decide +kernel
set_option maxRecDepth 65536 in
theorem w_heap : heapFits about1 = true := by decide +kernel
set_option maxRecDepth 65536 in
theorem w_runnable : about1.curStatus? = some .runnable := by decide +kernel
set_option maxRecDepth 65536 in
theorem w_alone : about1.alone = true := by decide +kernel
set_option maxRecDepth 65536 in
theorem w_named : about1.methodNamed? x = some theMethod := by decide +kernel
set_option maxRecDepth 65536 in
theorem w_hears : about1.hears theMethod below0 = true := by decide +kernel
set_option maxRecDepth 65536 in
theorem w_ripe : about1.ripe theMethod args0 below0 = true := by decide +kernel
theorem w_running : about1.status = .running := rfl
set_option maxRecDepth 65536 in
theorem w_room : about1.hasRoom e0.platform room_1 = true :=
  launch0.hasRoom_least _ room_1 (by decide +kernel) (by decide +kernel) (by decide +kernel) (by decide +kernel) (by decide +kernel) (by decide +kernel)
theorem allAtoms_all (ts : List Jvm.Cond) (a : Array Jvm.Value) (st : Jvm.State) : (allAtoms ts).before a st = ts.all (fun c => c.before a st) := by
  induction ts with
  | nil => rfl
  | cons c t ih =>
    show (Jvm.Cond.and c (allAtoms t)).before a st = _
    rw [Jvm.Cond.before_and, ih, List.all_cons]
def words1 : List Jvm.Cond := Jvm.Cond.code x code maxLocals ret :: tables_1
/-- a 'code' word, met by the world's own term for the bytes: nothing is compared byte by byte -/
theorem code_word {y : MethodName} {bytes : ByteArray} {mx : Nat} {rt : Option FieldType} {a : Array Value} {s : State} {m : MethodId} {meth : Method} {c : Code} (h1 : s.methodNamed? y = some m) (h2 : s.vm.method? m = some meth) (h3 : meth.code = some c) (h4 : c.code = bytes)
    (h5 : (c.maxLocals == mx && c.exceptionTable.isEmpty && decide (c.maxStack ≤ mostOperands) && decide (meth.sig.returnType = rt) && !meth.locks && decide (parseMethodDescriptor y.desc = some meth.sig)) = true) : (Jvm.Cond.code y bytes mx rt).before a s = true := by
  simp only [Bool.and_eq_true, beq_iff_eq, Bool.not_eq_true', decide_eq_true_eq] at h5
  obtain ⟨⟨⟨⟨⟨g1, g2⟩, g3⟩, g4⟩, g5⟩, g6⟩ := h5
  simp [Cond.before, Cond.holds, Cond.value, h1, h2, h3, h4, g1, g2, g3, g4, g5, g6]
def isCode : Jvm.Cond → Bool
  | .code _ _ _ _ => true
  | _ => false
theorem all_split {L : List Jvm.Cond} {P : Jvm.Cond → Bool} (h1 : L.all (fun c => isCode c || P c) = true) (h2 : ∀ c ∈ L.filter isCode, P c = true) : L.all P = true := by
  refine List.all_eq_true.mpr fun c hc => ?_
  have h := List.all_eq_true.mp h1 c hc
  rcases Bool.eq_false_or_eq_true (isCode c) with hi | hi
  · exact h2 c (List.mem_filter.mpr ⟨hc, hi⟩)
  · simpa [hi] using h
set_option maxRecDepth 65536 in
theorem w_c0 : (Jvm.Cond.code x code maxLocals ret).before args0 about1 = true := code_word (m := ⟨1, 1⟩) (meth := k1m1) (c := k1c1) (by decide +kernel) rfl rfl rfl (by decide +kernel)
set_option maxRecDepth 65536 in
theorem w_c1 : (Jvm.Cond.code ({ cls := "java/lang/String", name := "valueOf", desc := "(C)Ljava/lang/String;" } : Jvm.MethodName) jdk_42_method_139_code (1 : Nat) (Option.some (Jvm.ClassFile.FieldType.object "java/lang/String"))).before args0 about1 = true := code_word (m := ⟨7, 2⟩) (meth := k7m2) (c := k7c2) (by decide +kernel) rfl rfl rfl (by decide +kernel)
set_option maxRecDepth 65536 in
theorem w_c2 : (Jvm.Cond.code ({ cls := "java/lang/StringLatin1", name := "canEncode", desc := "(C)Z" } : Jvm.MethodName) jdk_43_method_3_code (1 : Nat) (Option.some Jvm.ClassFile.FieldType.boolean)).before args0 about1 = true := code_word (m := ⟨8, 1⟩) (meth := k8m1) (c := k8c1) (by decide +kernel) rfl rfl rfl (by decide +kernel)
set_option maxRecDepth 65536 in
theorem w_c3 : (Jvm.Cond.code ({ cls := "java/lang/StringLatin1", name := "toBytes", desc := "(C)[B" } : Jvm.MethodName) jdk_43_method_46_code (1 : Nat) (Option.some (Jvm.ClassFile.FieldType.array Jvm.ClassFile.FieldType.byte))).before args0 about1 = true := code_word (m := ⟨8, 2⟩) (meth := k8m2) (c := k8c2) (by decide +kernel) rfl rfl rfl (by decide +kernel)
set_option maxRecDepth 65536 in
theorem w_c4 : (Jvm.Cond.code ({ cls := "java/lang/String", name := "<init>", desc := "([BB)V" } : Jvm.MethodName) jdk_42_method_151_code (3 : Nat) (Option.none : Option Jvm.ClassFile.FieldType)).before args0 about1 = true := code_word (m := ⟨7, 4⟩) (meth := k7m4) (c := k7c4) (by decide +kernel) rfl rfl rfl (by decide +kernel)
set_option maxRecDepth 65536 in
theorem w_c5 : (Jvm.Cond.code ({ cls := "java/lang/Object", name := "<init>", desc := "()V" } : Jvm.MethodName) object_method_1_code (1 : Nat) (Option.none : Option Jvm.ClassFile.FieldType)).before args0 about1 = true := code_word (m := ⟨0, 0⟩) (meth := k0m0) (c := k0c0) (by decide +kernel) rfl rfl rfl (by decide +kernel)
set_option maxRecDepth 65536 in
theorem w_c6 : (Jvm.Cond.code ({ cls := "java/lang/String", name := "<init>", desc := "([C)V" } : Jvm.MethodName) jdk_42_method_3_code (2 : Nat) (Option.none : Option Jvm.ClassFile.FieldType)).before args0 about1 = true := code_word (m := ⟨7, 1⟩) (meth := k7m1) (c := k7c1) (by decide +kernel) rfl rfl rfl (by decide +kernel)
set_option maxRecDepth 65536 in
theorem w_c7 : (Jvm.Cond.code ({ cls := "java/lang/String", name := "<init>", desc := "([CIILjava/lang/Void;)V" } : Jvm.MethodName) jdk_42_method_149_code (6 : Nat) (Option.none : Option Jvm.ClassFile.FieldType)).before args0 about1 = true := code_word (m := ⟨7, 3⟩) (meth := k7m3) (c := k7c3) (by decide +kernel) rfl rfl rfl (by decide +kernel)
set_option maxRecDepth 65536 in
theorem w_c8 : (Jvm.Cond.code ({ cls := "java/lang/StringUTF16", name := "compress", desc := "([CII)[B" } : Jvm.MethodName) jdk_52_method_16_code (6 : Nat) (Option.some (Jvm.ClassFile.FieldType.array Jvm.ClassFile.FieldType.byte))).before args0 about1 = true := code_word (m := ⟨9, 2⟩) (meth := k9m2) (c := k9c2) (by decide +kernel) rfl rfl rfl (by decide +kernel)
set_option maxRecDepth 65536 in
theorem w_c9 : (Jvm.Cond.code ({ cls := "java/lang/StringUTF16", name := "compress", desc := "([CI[BII)I" } : Jvm.MethodName) jdk_52_method_21_code (7 : Nat) (Option.some Jvm.ClassFile.FieldType.int)).before args0 about1 = true := code_word (m := ⟨9, 3⟩) (meth := k9m3) (c := k9c3) (by decide +kernel) rfl rfl rfl (by decide +kernel)
set_option maxRecDepth 65536 in
theorem w_c10 : (Jvm.Cond.code ({ cls := "java/lang/StringUTF16", name := "coderFromArrayLen", desc := "([BI)B" } : Jvm.MethodName) jdk_52_method_15_code (2 : Nat) (Option.some Jvm.ClassFile.FieldType.byte)).before args0 about1 = true := code_word (m := ⟨9, 1⟩) (meth := k9m1) (c := k9c1) (by decide +kernel) rfl rfl rfl (by decide +kernel)
set_option maxRecDepth 65536 in
theorem w_c11 : (Jvm.Cond.code ({ cls := "com/example/fondskit/fondskit/xml/BoundAttributes", name := "<init>", desc := "()V" } : Jvm.MethodName) prog_49_method_1_code (1 : Nat) (Option.none : Option Jvm.ClassFile.FieldType)).before args0 about1 = true := code_word (m := ⟨12, 0⟩) (meth := k12m0) (c := k12c0) (by decide +kernel) rfl rfl rfl (by decide +kernel)
set_option maxRecDepth 65536 in
theorem w_c12 : (Jvm.Cond.code ({ cls := "com/example/fondskit/fondskit/xml/BoundAttributes", name := "add", desc := "(ILjava/lang/String;Ljava/lang/String;)V" } : Jvm.MethodName) prog_49_method_3_code (4 : Nat) (Option.none : Option Jvm.ClassFile.FieldType)).before args0 about1 = true := code_word (m := ⟨12, 2⟩) (meth := k12m2) (c := k12c2) (by decide +kernel) rfl rfl rfl (by decide +kernel)
set_option maxRecDepth 65536 in
theorem w_c13 : (Jvm.Cond.code ({ cls := "com/example/fondskit/fondskit/xml/BoundAttributes", name := "clear", desc := "(Lorg/xml/sax/Attributes;)V" } : Jvm.MethodName) prog_49_method_2_code (2 : Nat) (Option.none : Option Jvm.ClassFile.FieldType)).before args0 about1 = true := code_word (m := ⟨12, 1⟩) (meth := k12m1) (c := k12c1) (by decide +kernel) rfl rfl rfl (by decide +kernel)
set_option maxRecDepth 65536 in
theorem w_c14 : (Jvm.Cond.code ({ cls := "com/example/fondskit/fondskit/xml/BoundAttributes", name := "getLocalName", desc := "(I)Ljava/lang/String;" } : Jvm.MethodName) prog_49_method_6_code (2 : Nat) (Option.some (Jvm.ClassFile.FieldType.object "java/lang/String"))).before args0 about1 = true := code_word (m := ⟨12, 3⟩) (meth := k12m3) (c := k12c3) (by decide +kernel) rfl rfl rfl (by decide +kernel)
set_option maxRecDepth 65536 in
theorem w_c15 : (Jvm.Cond.code ({ cls := "com/example/fondskit/fondskit/xml/BoundAttributes", name := "isIndex", desc := "(I)Z" } : Jvm.MethodName) prog_49_method_22_code (2 : Nat) (Option.some Jvm.ClassFile.FieldType.boolean)).before args0 about1 = true := code_word (m := ⟨12, 4⟩) (meth := k12m4) (c := k12c4) (by decide +kernel) rfl rfl rfl (by decide +kernel)
set_option maxRecDepth 65536 in
theorem w_c16 : (Jvm.Cond.code ({ cls := "com/example/fondskit/fondskit/xml/BoundAttributesGetLocalNamePinLaw", name := "expected", desc := "([Ljava/lang/String;II)Ljava/lang/String;" } : Jvm.MethodName) method_3_code (3 : Nat) (Option.some (Jvm.ClassFile.FieldType.object "java/lang/String"))).before args0 about1 = true := code_word (m := ⟨1, 2⟩) (meth := k1m2) (c := k1c2) (by decide +kernel) rfl rfl rfl (by decide +kernel)
def codes1 : List Jvm.Cond := [Jvm.Cond.code x code maxLocals ret, Jvm.Cond.code ({ cls := "java/lang/String", name := "valueOf", desc := "(C)Ljava/lang/String;" } : Jvm.MethodName) jdk_42_method_139_code (1 : Nat) (Option.some (Jvm.ClassFile.FieldType.object "java/lang/String")), Jvm.Cond.code ({ cls := "java/lang/StringLatin1", name := "canEncode", desc := "(C)Z" } : Jvm.MethodName) jdk_43_method_3_code (1 : Nat) (Option.some Jvm.ClassFile.FieldType.boolean), Jvm.Cond.code ({ cls := "java/lang/StringLatin1", name := "toBytes", desc := "(C)[B" } : Jvm.MethodName) jdk_43_method_46_code (1 : Nat) (Option.some (Jvm.ClassFile.FieldType.array Jvm.ClassFile.FieldType.byte)), Jvm.Cond.code ({ cls := "java/lang/String", name := "<init>", desc := "([BB)V" } : Jvm.MethodName) jdk_42_method_151_code (3 : Nat) (Option.none : Option Jvm.ClassFile.FieldType), Jvm.Cond.code ({ cls := "java/lang/Object", name := "<init>", desc := "()V" } : Jvm.MethodName) object_method_1_code (1 : Nat) (Option.none : Option Jvm.ClassFile.FieldType), Jvm.Cond.code ({ cls := "java/lang/String", name := "<init>", desc := "([C)V" } : Jvm.MethodName) jdk_42_method_3_code (2 : Nat) (Option.none : Option Jvm.ClassFile.FieldType), Jvm.Cond.code ({ cls := "java/lang/String", name := "<init>", desc := "([CIILjava/lang/Void;)V" } : Jvm.MethodName) jdk_42_method_149_code (6 : Nat) (Option.none : Option Jvm.ClassFile.FieldType), Jvm.Cond.code ({ cls := "java/lang/StringUTF16", name := "compress", desc := "([CII)[B" } : Jvm.MethodName) jdk_52_method_16_code (6 : Nat) (Option.some (Jvm.ClassFile.FieldType.array Jvm.ClassFile.FieldType.byte)), Jvm.Cond.code ({ cls := "java/lang/StringUTF16", name := "compress", desc := "([CI[BII)I" } : Jvm.MethodName) jdk_52_method_21_code (7 : Nat) (Option.some Jvm.ClassFile.FieldType.int), Jvm.Cond.code ({ cls := "java/lang/StringUTF16", name := "coderFromArrayLen", desc := "([BI)B" } : Jvm.MethodName) jdk_52_method_15_code (2 : Nat) (Option.some Jvm.ClassFile.FieldType.byte), Jvm.Cond.code ({ cls := "com/example/fondskit/fondskit/xml/BoundAttributes", name := "<init>", desc := "()V" } : Jvm.MethodName) prog_49_method_1_code (1 : Nat) (Option.none : Option Jvm.ClassFile.FieldType), Jvm.Cond.code ({ cls := "com/example/fondskit/fondskit/xml/BoundAttributes", name := "add", desc := "(ILjava/lang/String;Ljava/lang/String;)V" } : Jvm.MethodName) prog_49_method_3_code (4 : Nat) (Option.none : Option Jvm.ClassFile.FieldType), Jvm.Cond.code ({ cls := "com/example/fondskit/fondskit/xml/BoundAttributes", name := "clear", desc := "(Lorg/xml/sax/Attributes;)V" } : Jvm.MethodName) prog_49_method_2_code (2 : Nat) (Option.none : Option Jvm.ClassFile.FieldType), Jvm.Cond.code ({ cls := "com/example/fondskit/fondskit/xml/BoundAttributes", name := "getLocalName", desc := "(I)Ljava/lang/String;" } : Jvm.MethodName) prog_49_method_6_code (2 : Nat) (Option.some (Jvm.ClassFile.FieldType.object "java/lang/String")), Jvm.Cond.code ({ cls := "com/example/fondskit/fondskit/xml/BoundAttributes", name := "isIndex", desc := "(I)Z" } : Jvm.MethodName) prog_49_method_22_code (2 : Nat) (Option.some Jvm.ClassFile.FieldType.boolean), Jvm.Cond.code ({ cls := "com/example/fondskit/fondskit/xml/BoundAttributesGetLocalNamePinLaw", name := "expected", desc := "([Ljava/lang/String;II)Ljava/lang/String;" } : Jvm.MethodName) method_3_code (3 : Nat) (Option.some (Jvm.ClassFile.FieldType.object "java/lang/String"))]
set_option maxRecDepth 65536 in
theorem codes_eq : words1.filter isCode = codes1 := rfl
theorem w_codes : ∀ c ∈ words1.filter isCode, c.before args0 about1 = true := by
  rw [codes_eq]
  intro c hc
  simp only [codes1, List.mem_cons, List.not_mem_nil, or_false] at hc
  rcases hc with rfl | rfl | rfl | rfl | rfl | rfl | rfl | rfl | rfl | rfl | rfl | rfl | rfl | rfl | rfl | rfl | rfl
  · exact w_c0
  · exact w_c1
  · exact w_c2
  · exact w_c3
  · exact w_c4
  · exact w_c5
  · exact w_c6
  · exact w_c7
  · exact w_c8
  · exact w_c9
  · exact w_c10
  · exact w_c11
  · exact w_c12
  · exact w_c13
  · exact w_c14
  · exact w_c15
  · exact w_c16
set_option maxRecDepth 65536 in
theorem w_t1 : (words1.take 24).all (fun c => isCode c || c.before args0 about1) = true := by decide +kernel
set_option maxRecDepth 65536 in
theorem w_t2 : ((words1.drop 24).take 24).all (fun c => isCode c || c.before args0 about1) = true := by decide +kernel
set_option maxRecDepth 65536 in
theorem w_t3 : (((words1.drop 24).drop 24).take 24).all (fun c => isCode c || c.before args0 about1) = true := by decide +kernel
set_option maxRecDepth 65536 in
theorem w_t4 : (((words1.drop 24).drop 24).drop 24).all (fun c => isCode c || c.before args0 about1) = true := by decide +kernel
theorem w_tables : (allAtoms (Jvm.Cond.code x code maxLocals ret :: tables_1)).before args0 about1 = true := by
  rw [allAtoms_all]
  show words1.all (fun c => c.before args0 about1) = true
  refine all_split ?_ w_codes
  rw [← List.take_append_drop 24 words1, List.all_append, w_t1, ← List.take_append_drop 24 (words1.drop 24), List.all_append, w_t2, ← List.take_append_drop 24 ((words1.drop 24).drop 24), List.all_append, w_t3, w_t4]
  rfl
set_option maxRecDepth 65536 in
theorem w_rest : rest_1_c.before args0 about1 = true := by decide +kernel
set_option maxRecDepth 65536 in
theorem w_case : (Jvm.Cond.and given_1 narrow_1).before args0 about1 = true := by decide +kernel
theorem w_applies : (headSpec (Jvm.Cond.code x code maxLocals ret :: tables_1) room_1).applies x e0.platform about1 = true :=
  (Spec.applies_iff w_frames).mpr ⟨w_running, w_runnable, w_alone, w_named, w_hears, w_ripe, w_room, w_tables⟩
theorem atStart : AtStart classFile x code maxLocals ret World_1 tables_1 room_1 Calls_1 rest_1 Pre_1 launch0 p0 e0 about1 theMethod args0 below0 :=
  ⟨lists_1, trivial, launch0.admits_env _ _ _, launch0.least_env, fairChoices_fair.cas, fairChoices_fair.clock, w_frames, w_args, w_heap, w_applies, trivial, w_rest, w_case⟩
end start1
theorem witness_1 : WitnessClaimed_1 := ⟨start1.p0, start1.e0, start1.about1, start1.theMethod, start1.args0, start1.below0, start1.atStart⟩
end Jvm.Pilot.@@N@@
