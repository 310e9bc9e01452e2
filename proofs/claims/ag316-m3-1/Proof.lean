import JvmDerived
import JvmDerived.Pilot.@@N@@Statement
import JvmDerived.Pilot.@@N@@Code
set_option linter.unusedVariables false
set_option linter.unusedSimpArgs false
namespace Jvm.Pilot.@@N@@
open Jvm Jvm.ClassFile Sem Op Lib Jvm.Free Jvm.Stand Jvm.LawKit Jvm.RoadKit Bundle Jvm.Pilot.@@N@@.Jvm.D
def Go (p : Program) (e : Env) (below : List Frame) (G : State → Prop) (T : State) (f : JFrame) : Prop := ∃ t, Steps p.tables e below (T.setTop f) t ∧ G t
theorem Go.step {p : Program} {e : Env} {below : List Frame} {G : State → Prop} {T T' : State} {f f' : JFrame} (k : ∀ t, Steps p.tables e below (T'.setTop f') t → Steps p.tables e below (T.setTop f) t) (h : Go p e below G T' f') : Go p e below G T f := by
  obtain ⟨t, h1, h2⟩ := h
  exact ⟨t, k t h1, h2⟩
def Fin1 (s : State) (below : List Frame) (Q : Option Value → Heap → List Loc → Prop) (k n : Nat) (t : State) : Prop := ∃ o, t.status = .running ∧ Ended t below o ∧ ∃ v L, o = .returned v ∧ Q v t.heap L ∧ FrameEnd s o t L k n
theorem of_go {p : Program} {e : Env} {below : List Frame} {s s₁ : State} {Q : Option Value → Heap → List Loc → Prop} {k n : Nat} {f f' : JFrame} (hf : f' = f) (h : Go p e below (Fin1 s below Q k n) s₁ f) :
    ∃ s₂ o, Steps p.tables e below (s₁.setTop f') s₂ ∧ s₂.status = .running ∧ Ended s₂ below o ∧ ∃ v L, o = .returned v ∧ Q v s₂.heap L ∧ FrameEnd s o s₂ L k n := by
  subst hf
  obtain ⟨t, h1, o, h2, h3, h4⟩ := h
  exact ⟨t, o, h1, h2, h3, h4⟩
section Ends
variable {p : Program} {l : Launch} {e : Env} {R : Room} {s : State} {m : MethodId} {args : Array Value} {below : List Frame} {meth : Method} {c : Code} {T : State} {locs : List Loc} {cells slots : Nat} {Q : Option Value → Heap → List Loc → Prop} {k n : Nat}
theorem goN (X : Stand p l e R s m args below meth c T locs cells slots) (hx : p.tables.exec = Jvm.exec) {pc : Nat} {Ls : Array Slot} {z : Int32} {t : FieldType} {rest : List Value} (hret : meth.sig.returnType = some t) (ht : t = .boolean ∨ t = .byte ∨ t = .char ∨ t = .short) (hlk : meth.locks = false)
    (hd : decode c.code pc = .ok (.ireturn, 1)) (hQ : Q (some (.int (nar t z))) T.heap locs) (hk : cells ≤ k) (hn : slots ≤ n) : Go p e below (Fin1 s below Q k n) T (mkF m pc Ls (.int z :: rest)) := by
  obtain ⟨fs, hr, hrun, hended, hW, hsame⟩ := X.leave (v := some (.int (nar t z))) (fun h => by rw [hret] at h; cases h) hlk
  exact ⟨_, Jvm.RoadKit.retN X hx hret ht hd hr, _, hrun, hended, _, _, rfl, hQ, ⟨_, rfl⟩, hW, hsame.mono hk hn⟩
theorem goO (X : Stand p l e R s m args below meth c T locs cells slots) (hx : p.tables.exec = Jvm.exec) {pc : Nat} {Ls : Array Slot} {w : Value} {t : FieldType} {i : Instr} {rest : List Value} (hret : meth.sig.returnType = some t) (hnw : narrow t w = w)
    (hi : (i = .ireturn ∧ (t = .int ∨ t = .boolean ∨ t = .byte ∨ t = .char ∨ t = .short) ∧ ∃ z, w = .int z) ∨ (i = .lreturn ∧ t = .long ∧ ∃ z, w = .long z) ∨ (i = .dreturn ∧ t = .double ∧ ∃ z, w = .double z) ∨ (i = .freturn ∧ t = .float ∧ ∃ z, w = .float z) ∨ (i = .areturn ∧ t.isReference = true ∧ w.isRef = true)) (hlk : meth.locks = false)
    (hd : decode c.code pc = .ok (i, 1)) (hQ : Q (some w) T.heap locs) (hk : cells ≤ k) (hn : slots ≤ n) : Go p e below (Fin1 s below Q k n) T (mkF m pc Ls (w :: rest)) := by
  obtain ⟨fs, hr, hrun, hended, hW, hsame⟩ := X.leave (v := some w) (fun h => by rw [hret] at h; cases h) hlk
  exact ⟨_, Jvm.RoadKit.retOut X hx hret hnw hi hd hr, _, hrun, hended, _, _, rfl, hQ, ⟨_, rfl⟩, hW, hsame.mono hk hn⟩
theorem goI (X : Stand p l e R s m args below meth c T locs cells slots) (hx : p.tables.exec = Jvm.exec) {pc : Nat} {Ls : Array Slot} {z : Int32} {rest : List Value} (hret : meth.sig.returnType = some .int) (hlk : meth.locks = false)
    (hd : decode c.code pc = .ok (.ireturn, 1)) (hQ : Q (some (.int z)) T.heap locs) (hk : cells ≤ k) (hn : slots ≤ n) : Go p e below (Fin1 s below Q k n) T (mkF m pc Ls (.int z :: rest)) :=
  goO X hx hret rfl (Or.inl ⟨rfl, Or.inl rfl, _, rfl⟩) hlk hd hQ hk hn
theorem goJ (X : Stand p l e R s m args below meth c T locs cells slots) (hx : p.tables.exec = Jvm.exec) {pc : Nat} {Ls : Array Slot} {z : Int64} {rest : List Value} (hret : meth.sig.returnType = some .long) (hlk : meth.locks = false)
    (hd : decode c.code pc = .ok (.lreturn, 1)) (hQ : Q (some (.long z)) T.heap locs) (hk : cells ≤ k) (hn : slots ≤ n) : Go p e below (Fin1 s below Q k n) T (mkF m pc Ls (.long z :: rest)) :=
  goO X hx hret rfl (Or.inr (Or.inl ⟨rfl, rfl, _, rfl⟩)) hlk hd hQ hk hn
theorem goA (X : Stand p l e R s m args below meth c T locs cells slots) (hx : p.tables.exec = Jvm.exec) {pc : Nat} {Ls : Array Slot} {w : Value} {t : FieldType} {rest : List Value} (hret : meth.sig.returnType = some t) (ht : t.isReference = true) (hw : w.isRef = true) (hlk : meth.locks = false)
    (hd : decode c.code pc = .ok (.areturn, 1)) (hQ : Q (some w) T.heap locs) (hk : cells ≤ k) (hn : slots ≤ n) : Go p e below (Fin1 s below Q k n) T (mkF m pc Ls (w :: rest)) :=
  goO X hx hret (by cases t <;> cases w <;> first | rfl | (simp [FieldType.isReference] at ht; done) | (simp [Value.isRef] at hw; done)) (Or.inr (Or.inr (Or.inr (Or.inr ⟨rfl, ht, hw⟩)))) hlk hd hQ hk hn
theorem goV (X : Stand p l e R s m args below meth c T locs cells slots) (hx : p.tables.exec = Jvm.exec) {pc : Nat} {Ls : Array Slot} (hret : meth.sig.returnType = none) (hlk : meth.locks = false)
    (hd : decode c.code pc = .ok (.return_, 1)) (hQ : Q none T.heap locs) (hk : cells ≤ k) (hn : slots ≤ n) : Go p e below (Fin1 s below Q k n) T (mkF m pc Ls []) := by
  obtain ⟨fs, hr, hrun, hended, hW, hsame⟩ := X.leave (v := none) (fun _ => rfl) hlk
  exact ⟨_, X.returnOut hx hret hd hr, _, hrun, hended, _, _, rfl, hQ, ⟨_, rfl⟩, hW, hsame.mono hk hn⟩
def FinW (s : State) (below : List Frame) (Q : Option Value → Heap → List Loc → Prop) (k n : Nat) (t : State) : Prop := ∃ o, t.status = .running ∧ Ended t below o ∧ ∃ v L, o = .returned v ∧ Q v t.heap L ∧ ReturnedEndW s o t L k n
theorem of_goW {p : Program} {e : Env} {below : List Frame} {s s₁ : State} {Q : Option Value → Heap → List Loc → Prop} {k n : Nat} {f f' : JFrame} (hf : f' = f) (h : Go p e below (FinW s below Q k n) s₁ f) :
    ∃ s₂ o, Steps p.tables e below (s₁.setTop f') s₂ ∧ s₂.status = .running ∧ Ended s₂ below o ∧ ∃ v L, o = .returned v ∧ Q v s₂.heap L ∧ ReturnedEndW s o s₂ L k n := by
  subst hf
  obtain ⟨t, h1, o, h2, h3, h4⟩ := h
  exact ⟨t, o, h1, h2, h3, h4⟩
theorem goNW {vm0 : Vm} {n1 : Nat} (hS : s.Since vm0 n1) (X : Stand p l e R (s.setVm vm0) m args below meth c T locs cells slots) (hkk : n1 ≤ T.heap.size) (hx : p.tables.exec = Jvm.exec) {pc : Nat} {Ls : Array Slot} {z : Int32} {t : FieldType} {rest : List Value} (hret : meth.sig.returnType = some t) (ht : t = .boolean ∨ t = .byte ∨ t = .char ∨ t = .short) (hlk : meth.locks = false)
    (hd : decode c.code pc = .ok (.ireturn, 1)) (hQ : Q (some (.int (nar t z))) T.heap locs) (hk : cells ≤ k) (hn : slots ≤ n) : Go p e below (FinW s below Q k n) T (mkF m pc Ls (.int z :: rest)) := by
  obtain ⟨fs, hr, hrun, hended, hW, hsame⟩ := X.leave (v := some (.int (nar t z))) (fun h => by rw [hret] at h; cases h) hlk
  obtain ⟨a1, a2, a3⟩ := hS.ended hW (show n1 ≤ (T.setFrames fs).heap.size from hkk) hsame
  exact ⟨_, Jvm.RoadKit.retN X hx hret ht hd hr, _, hrun, hended, _, _, rfl, hQ, ⟨_, rfl⟩, a1, a2, a3.mono hk hn⟩
theorem goOW {vm0 : Vm} {n1 : Nat} (hS : s.Since vm0 n1) (X : Stand p l e R (s.setVm vm0) m args below meth c T locs cells slots) (hkk : n1 ≤ T.heap.size) (hx : p.tables.exec = Jvm.exec) {pc : Nat} {Ls : Array Slot} {w : Value} {t : FieldType} {i : Instr} {rest : List Value} (hret : meth.sig.returnType = some t) (hnw : narrow t w = w)
    (hi : (i = .ireturn ∧ (t = .int ∨ t = .boolean ∨ t = .byte ∨ t = .char ∨ t = .short) ∧ ∃ z, w = .int z) ∨ (i = .lreturn ∧ t = .long ∧ ∃ z, w = .long z) ∨ (i = .dreturn ∧ t = .double ∧ ∃ z, w = .double z) ∨ (i = .freturn ∧ t = .float ∧ ∃ z, w = .float z) ∨ (i = .areturn ∧ t.isReference = true ∧ w.isRef = true)) (hlk : meth.locks = false)
    (hd : decode c.code pc = .ok (i, 1)) (hQ : Q (some w) T.heap locs) (hk : cells ≤ k) (hn : slots ≤ n) : Go p e below (FinW s below Q k n) T (mkF m pc Ls (w :: rest)) := by
  obtain ⟨fs, hr, hrun, hended, hW, hsame⟩ := X.leave (v := some w) (fun h => by rw [hret] at h; cases h) hlk
  obtain ⟨a1, a2, a3⟩ := hS.ended hW (show n1 ≤ (T.setFrames fs).heap.size from hkk) hsame
  exact ⟨_, Jvm.RoadKit.retOut X hx hret hnw hi hd hr, _, hrun, hended, _, _, rfl, hQ, ⟨_, rfl⟩, a1, a2, a3.mono hk hn⟩
theorem goIW {vm0 : Vm} {n1 : Nat} (hS : s.Since vm0 n1) (X : Stand p l e R (s.setVm vm0) m args below meth c T locs cells slots) (hkk : n1 ≤ T.heap.size) (hx : p.tables.exec = Jvm.exec) {pc : Nat} {Ls : Array Slot} {z : Int32} {rest : List Value} (hret : meth.sig.returnType = some .int) (hlk : meth.locks = false)
    (hd : decode c.code pc = .ok (.ireturn, 1)) (hQ : Q (some (.int z)) T.heap locs) (hk : cells ≤ k) (hn : slots ≤ n) : Go p e below (FinW s below Q k n) T (mkF m pc Ls (.int z :: rest)) :=
  goOW hS X hkk hx hret rfl (Or.inl ⟨rfl, Or.inl rfl, _, rfl⟩) hlk hd hQ hk hn
theorem goAW {vm0 : Vm} {n1 : Nat} (hS : s.Since vm0 n1) (X : Stand p l e R (s.setVm vm0) m args below meth c T locs cells slots) (hkk : n1 ≤ T.heap.size) (hx : p.tables.exec = Jvm.exec) {pc : Nat} {Ls : Array Slot} {w : Value} {t : FieldType} {rest : List Value} (hret : meth.sig.returnType = some t) (ht : t.isReference = true) (hw : w.isRef = true) (hlk : meth.locks = false)
    (hd : decode c.code pc = .ok (.areturn, 1)) (hQ : Q (some w) T.heap locs) (hk : cells ≤ k) (hn : slots ≤ n) : Go p e below (FinW s below Q k n) T (mkF m pc Ls (w :: rest)) :=
  goOW hS X hkk hx hret (by cases t <;> cases w <;> first | rfl | (simp [FieldType.isReference] at ht; done) | (simp [Value.isRef] at hw; done)) (Or.inr (Or.inr (Or.inr (Or.inr ⟨rfl, ht, hw⟩)))) hlk hd hQ hk hn
theorem goVW {vm0 : Vm} {n1 : Nat} (hS : s.Since vm0 n1) (X : Stand p l e R (s.setVm vm0) m args below meth c T locs cells slots) (hkk : n1 ≤ T.heap.size) (hx : p.tables.exec = Jvm.exec) {pc : Nat} {Ls : Array Slot} (hret : meth.sig.returnType = none) (hlk : meth.locks = false)
    (hd : decode c.code pc = .ok (.return_, 1)) (hQ : Q none T.heap locs) (hk : cells ≤ k) (hn : slots ≤ n) : Go p e below (FinW s below Q k n) T (mkF m pc Ls []) := by
  obtain ⟨fs, hr, hrun, hended, hW, hsame⟩ := X.leave (v := none) (fun _ => rfl) hlk
  obtain ⟨a1, a2, a3⟩ := hS.ended hW (show n1 ≤ (T.setFrames fs).heap.size from hkk) hsame
  exact ⟨_, X.returnOut hx hret hd hr, _, hrun, hended, _, _, rfl, hQ, ⟨_, rfl⟩, a1, a2, a3.mono hk hn⟩
theorem narB {z : Int32} (h : z = 0 ∨ z = 1) : nar .boolean z = z := by rcases h with rfl | rfl <;> rfl
end Ends
def own_hex (c : Int32) : Int32 := if (48 ≤ c.toInt ∧ c.toInt ≤ 57) ∨ (97 ≤ c.toInt ∧ c.toInt ≤ 102) ∨ (65 ≤ c.toInt ∧ c.toInt ≤ 70) then 1 else 0
theorem own_hex1 {c : Int32} (h : (48 ≤ c.toInt ∧ c.toInt ≤ 57) ∨ (97 ≤ c.toInt ∧ c.toInt ≤ 102) ∨ (65 ≤ c.toInt ∧ c.toInt ≤ 70)) : own_hex c = 1 := if_pos h
theorem own_hex0 {c : Int32} (h : ¬ ((48 ≤ c.toInt ∧ c.toInt ≤ 57) ∨ (97 ≤ c.toInt ∧ c.toInt ≤ 102) ∨ (65 ≤ c.toInt ∧ c.toInt ≤ 70))) : own_hex c = 0 := if_neg h
theorem own_small : ∀ k : Fin 128, (97 ≤ (Int32.ofNat k.val ||| 32).toInt ∧ (Int32.ofNat k.val ||| 32).toInt ≤ 102 ↔ (97 ≤ (k.val : Int) ∧ (k.val : Int) ≤ 102) ∨ (65 ≤ (k.val : Int) ∧ (k.val : Int) ≤ 70)) := by decide +kernel
theorem own_or (c : Int32) : (97 ≤ (c ||| (32 : Int32)).toInt ∧ (c ||| (32 : Int32)).toInt ≤ 102) ↔ (97 ≤ c.toInt ∧ c.toInt ≤ 102) ∨ (65 ≤ c.toInt ∧ c.toInt ≤ 70) := by
  by_cases h0 : c.toInt < 0
  · have := (c_orS c 32).2.1 h0
    omega
  · by_cases h1 : c.toInt < 128
    · have hk : c.toInt.toNat < 128 := by omega
      have e : c = Int32.ofNat c.toInt.toNat := by
        apply Int32.toInt_inj.mp
        rw [Int32.toInt_ofNat_small (by omega)]
        omega
      have h := own_small ⟨c.toInt.toNat, hk⟩
      simp only [← e] at h
      rw [h]
      omega
    · have := (c_or0 c 32 (by omega) (by decide)).1
      omega
theorem own_48 (x : Int32) : (x.toInt64 - (48 : Int64)).toInt = x.toInt - 48 := by
  have h1 := c_lsub x.toInt64 48
  have h2 := c_i2l x
  have h3 := rng32 x
  have h4 := rng64 (x.toInt64 - 48)
  have h5 : (48 : Int64).toInt = 48 := rfl
  omega
theorem own_97 (x : Int32) : (x.toInt64 - (97 : Int64)).toInt = x.toInt - 97 := by
  have h1 := c_lsub x.toInt64 97
  have h2 := c_i2l x
  have h3 := rng32 x
  have h4 := rng64 (x.toInt64 - 97)
  have h5 : (97 : Int64).toInt = 97 := rfl
  omega
theorem d1_0 : decode prog_125_method_11_code 0 = .ok (.iload_n 0, 1) := by decide +kernel
theorem d1_1 : decode prog_125_method_11_code 1 = .ok (.bipush 48, 2) := by decide +kernel
theorem d1_3 : decode prog_125_method_11_code 3 = .ok (.if_icmp .lt 9, 3) := by decide +kernel
theorem d1_12 : decode prog_125_method_11_code 12 = .ok (.iload_n 0, 1) := by decide +kernel
theorem d1_13 : decode prog_125_method_11_code 13 = .ok (.bipush 97, 2) := by decide +kernel
theorem d1_15 : decode prog_125_method_11_code 15 = .ok (.if_icmp .lt 9, 3) := by decide +kernel
theorem d1_24 : decode prog_125_method_11_code 24 = .ok (.iload_n 0, 1) := by decide +kernel
theorem d1_25 : decode prog_125_method_11_code 25 = .ok (.bipush 65, 2) := by decide +kernel
theorem d1_27 : decode prog_125_method_11_code 27 = .ok (.if_icmp .lt 13, 3) := by decide +kernel
theorem d1_40 : decode prog_125_method_11_code 40 = .ok (.iconst 0, 1) := by decide +kernel
theorem d1_41 : decode prog_125_method_11_code 41 = .ok (.ireturn, 1) := by decide +kernel
theorem d1_30 : decode prog_125_method_11_code 30 = .ok (.iload_n 0, 1) := by decide +kernel
theorem d1_31 : decode prog_125_method_11_code 31 = .ok (.bipush 70, 2) := by decide +kernel
theorem d1_33 : decode prog_125_method_11_code 33 = .ok (.if_icmp .gt 7, 3) := by decide +kernel
theorem d1_36 : decode prog_125_method_11_code 36 = .ok (.iconst 1, 1) := by decide +kernel
theorem d1_37 : decode prog_125_method_11_code 37 = .ok (.goto 4, 3) := by decide +kernel
theorem d1_18 : decode prog_125_method_11_code 18 = .ok (.iload_n 0, 1) := by decide +kernel
theorem d1_19 : decode prog_125_method_11_code 19 = .ok (.bipush 102, 2) := by decide +kernel
theorem d1_21 : decode prog_125_method_11_code 21 = .ok (.if_icmp .le 15, 3) := by decide +kernel
theorem d1_6 : decode prog_125_method_11_code 6 = .ok (.iload_n 0, 1) := by decide +kernel
theorem d1_7 : decode prog_125_method_11_code 7 = .ok (.bipush 57, 2) := by decide +kernel
theorem d1_9 : decode prog_125_method_11_code 9 = .ok (.if_icmp .le 27, 3) := by decide +kernel
theorem pn_1 : plainName "com/example/bagwise/bagwise/query/SourceText" = true := by first | (simp [plainName, overriddenIn]; done) | decide +kernel
theorem ef_rm1 (m : MethodId) (p1 : Int32) : entryFrame m #[(.int p1)] 1 = mkF m 0 #[.val (.int p1)] [] := by first | (simp [entryFrame, mkF, argsToLocals, Value.category]; done) | rfl
def Q_rm1 (Z : State) (p1 : Int32) (h0 : Heap) (n0 : Nat) (v : Option Value) (h : Heap) (L : List Loc) : Prop := v = some (.int (own_hex p1)) ∧ Fr n0 L ∧ h = h0
set_option maxRecDepth 65536 in
set_option maxHeartbeats 40000000 in
theorem rm1 (l : Launch) (Z : State) (a0 : Array Value) (hw : ∀ d ∈ tables_1, d.before a0 Z = true) (ws : List Jvm.Cond) (p1 : Int32) (h0 : Heap) (n0 : Nat) (Z0 : n0 ≤ h0.size) :
    MetFree l (⟨"com/example/bagwise/bagwise/query/SourceText", "isHexDigit", "(I)Z"⟩ : MethodName) (head1 (Jvm.Cond.code (⟨"com/example/bagwise/bagwise/query/SourceText", "isHexDigit", "(I)Z"⟩ : MethodName) prog_125_method_11_code 1 (some .boolean) :: ws) ({ frames := 0, cells := 0, slots := 0, locals := 0 } : Room)) (fun a U => a = #[(.int p1)] ∧ Z.Warmed39 U.vm ∧ U.heap = h0) (fun _ _ _ _ _ => True) (fun _ U o U' => ∃ v L, o = .returned v ∧ Q_rm1 Z p1 h0 n0 v U'.heap L ∧ FrameEnd U o U' L ({ frames := 0, cells := 0, slots := 0, locals := 0 } : Room).cells ({ frames := 0, cells := 0, slots := 0, locals := 0 } : Room).slots) := by
  refine MetFree.of_bodySF (plainFor_of_name pn_1) hisR ?_
  intro p e s m args below meth c s₁ Bd hml0 hP hK
  obtain ⟨rfl, hZ, hh⟩ := hP
  have hx := Bd.exec
  have hby := Bd.bytes
  have hml : c.maxLocals = 1 := hml0
  have hown : s.vm.findClass "com/example/bagwise/bagwise/query/SourceText" = some m.cls := findClass_of_methodNamed Bd.named
  have hnm := (name_of_methodNamed Bd.named Bd.method).1
  have X0 : Stand p l e ({ frames := 0, cells := 0, slots := 0, locals := 0 } : Room) s m #[(.int p1)] below meth c s₁ [] 0 0 := Stand.of_body Bd
  have e0 : s₁.heap = h0 := by rw [← hh, Bd.state]; rfl
  have N0 := Fr.nil n0
  refine of_go (ef_rm1 m p1) ?_
  refine Go.step (T' := s₁) (f' := (mkF m 1 #[.val (.int p1)] [(.int p1)])) (fun _ k => XS.iloadN X0.here hx rfl (hb hby d1_0) rfl k) ?_
  refine Go.step (T' := s₁) (f' := (mkF m 3 #[.val (.int p1)] [(.int (48 : Int32)), (.int p1)])) (fun _ k => XS.bipush X0.here hx rfl (hb hby d1_1) k) ?_
  by_cases hc3 : p1 < (48 : Int32)
  · refine Go.step (T' := s₁) (f' := (mkF m 12 #[.val (.int p1)] [])) (fun _ k => XS.icmpYes X0.here hx rfl (pc0 := 3) (pc' := 12) rfl (hb hby d1_3) rfl (tlt hc3).1 (by decide) (by decide) k) ?_
    refine Go.step (T' := s₁) (f' := (mkF m 13 #[.val (.int p1)] [(.int p1)])) (fun _ k => XS.iloadN X0.here hx rfl (hb hby d1_12) rfl k) ?_
    refine Go.step (T' := s₁) (f' := (mkF m 15 #[.val (.int p1)] [(.int (97 : Int32)), (.int p1)])) (fun _ k => XS.bipush X0.here hx rfl (hb hby d1_13) k) ?_
    by_cases hc15 : p1 < (97 : Int32)
    · refine Go.step (T' := s₁) (f' := (mkF m 24 #[.val (.int p1)] [])) (fun _ k => XS.icmpYes X0.here hx rfl (pc0 := 15) (pc' := 24) rfl (hb hby d1_15) rfl (tlt hc15).1 (by decide) (by decide) k) ?_
      refine Go.step (T' := s₁) (f' := (mkF m 25 #[.val (.int p1)] [(.int p1)])) (fun _ k => XS.iloadN X0.here hx rfl (hb hby d1_24) rfl k) ?_
      refine Go.step (T' := s₁) (f' := (mkF m 27 #[.val (.int p1)] [(.int (65 : Int32)), (.int p1)])) (fun _ k => XS.bipush X0.here hx rfl (hb hby d1_25) k) ?_
      by_cases hc27 : p1 < (65 : Int32)
      · refine Go.step (T' := s₁) (f' := (mkF m 40 #[.val (.int p1)] [])) (fun _ k => XS.icmpYes X0.here hx rfl (pc0 := 27) (pc' := 40) rfl (hb hby d1_27) rfl (tlt hc27).1 (by decide) (by decide) k) ?_
        refine Go.step (T' := s₁) (f' := (mkF m 41 #[.val (.int p1)] [(.int (0 : Int32))])) (fun _ k => XS.iconst X0.here hx rfl (hb hby d1_40) k) ?_
        refine goN X0 hx (t := .boolean) Bd.returns (by simp) Bd.notSynchronized (hb hby d1_41) ?_ (by decide) (by decide)
        show Q_rm1 Z p1 h0 n0 _ s₁.heap _
        rw [e0]
        exact ⟨by rw [own_hex0 (by simp only [Int32.lt_iff_toInt_lt, ← Int32.toInt_inj, Int32.reduceToInt] at hc3 hc15 hc27 <;> omega)]; rfl, N0, rfl⟩
      · refine Go.step (T' := s₁) (f' := (mkF m 30 #[.val (.int p1)] [])) (fun _ k => XS.icmpNo X0.here hx rfl (hb hby d1_27) rfl (flt hc27).1 k) ?_
        refine Go.step (T' := s₁) (f' := (mkF m 31 #[.val (.int p1)] [(.int p1)])) (fun _ k => XS.iloadN X0.here hx rfl (hb hby d1_30) rfl k) ?_
        refine Go.step (T' := s₁) (f' := (mkF m 33 #[.val (.int p1)] [(.int (70 : Int32)), (.int p1)])) (fun _ k => XS.bipush X0.here hx rfl (hb hby d1_31) k) ?_
        by_cases hc33 : (70 : Int32) < p1
        · refine Go.step (T' := s₁) (f' := (mkF m 40 #[.val (.int p1)] [])) (fun _ k => XS.icmpYes X0.here hx rfl (pc0 := 33) (pc' := 40) rfl (hb hby d1_33) rfl (tlt hc33).2.2.1 (by decide) (by decide) k) ?_
          refine Go.step (T' := s₁) (f' := (mkF m 41 #[.val (.int p1)] [(.int (0 : Int32))])) (fun _ k => XS.iconst X0.here hx rfl (hb hby d1_40) k) ?_
          refine goN X0 hx (t := .boolean) Bd.returns (by simp) Bd.notSynchronized (hb hby d1_41) ?_ (by decide) (by decide)
          show Q_rm1 Z p1 h0 n0 _ s₁.heap _
          rw [e0]
          exact ⟨by rw [own_hex0 (by simp only [Int32.lt_iff_toInt_lt, ← Int32.toInt_inj, Int32.reduceToInt] at hc3 hc15 hc27 hc33 <;> omega)]; rfl, N0, rfl⟩
        · refine Go.step (T' := s₁) (f' := (mkF m 36 #[.val (.int p1)] [])) (fun _ k => XS.icmpNo X0.here hx rfl (hb hby d1_33) rfl (flt hc33).2.2.1 k) ?_
          refine Go.step (T' := s₁) (f' := (mkF m 37 #[.val (.int p1)] [(.int (1 : Int32))])) (fun _ k => XS.iconst X0.here hx rfl (hb hby d1_36) k) ?_
          refine Go.step (T' := s₁) (f' := (mkF m 41 #[.val (.int p1)] [(.int (1 : Int32))])) (fun _ k => XS.goto X0.here hx rfl (pc0 := 37) (pc' := 41) rfl (hb hby d1_37) (by decide) (by decide) k) ?_
          refine goN X0 hx (t := .boolean) Bd.returns (by simp) Bd.notSynchronized (hb hby d1_41) ?_ (by decide) (by decide)
          show Q_rm1 Z p1 h0 n0 _ s₁.heap _
          rw [e0]
          exact ⟨by rw [own_hex1 (by simp only [Int32.lt_iff_toInt_lt, ← Int32.toInt_inj, Int32.reduceToInt] at hc3 hc15 hc27 hc33 <;> omega)]; rfl, N0, rfl⟩
    · refine Go.step (T' := s₁) (f' := (mkF m 18 #[.val (.int p1)] [])) (fun _ k => XS.icmpNo X0.here hx rfl (hb hby d1_15) rfl (flt hc15).1 k) ?_
      refine Go.step (T' := s₁) (f' := (mkF m 19 #[.val (.int p1)] [(.int p1)])) (fun _ k => XS.iloadN X0.here hx rfl (hb hby d1_18) rfl k) ?_
      refine Go.step (T' := s₁) (f' := (mkF m 21 #[.val (.int p1)] [(.int (102 : Int32)), (.int p1)])) (fun _ k => XS.bipush X0.here hx rfl (hb hby d1_19) k) ?_
      by_cases hc21 : (102 : Int32) < p1
      · refine Go.step (T' := s₁) (f' := (mkF m 24 #[.val (.int p1)] [])) (fun _ k => XS.icmpNo X0.here hx rfl (hb hby d1_21) rfl (tlt hc21).2.2.2 k) ?_
        refine Go.step (T' := s₁) (f' := (mkF m 25 #[.val (.int p1)] [(.int p1)])) (fun _ k => XS.iloadN X0.here hx rfl (hb hby d1_24) rfl k) ?_
        refine Go.step (T' := s₁) (f' := (mkF m 27 #[.val (.int p1)] [(.int (65 : Int32)), (.int p1)])) (fun _ k => XS.bipush X0.here hx rfl (hb hby d1_25) k) ?_
        by_cases hc27 : p1 < (65 : Int32)
        · refine Go.step (T' := s₁) (f' := (mkF m 40 #[.val (.int p1)] [])) (fun _ k => XS.icmpYes X0.here hx rfl (pc0 := 27) (pc' := 40) rfl (hb hby d1_27) rfl (tlt hc27).1 (by decide) (by decide) k) ?_
          refine Go.step (T' := s₁) (f' := (mkF m 41 #[.val (.int p1)] [(.int (0 : Int32))])) (fun _ k => XS.iconst X0.here hx rfl (hb hby d1_40) k) ?_
          refine goN X0 hx (t := .boolean) Bd.returns (by simp) Bd.notSynchronized (hb hby d1_41) ?_ (by decide) (by decide)
          show Q_rm1 Z p1 h0 n0 _ s₁.heap _
          rw [e0]
          exact ⟨by rw [own_hex0 (by simp only [Int32.lt_iff_toInt_lt, ← Int32.toInt_inj, Int32.reduceToInt] at hc3 hc15 hc21 hc27 <;> omega)]; rfl, N0, rfl⟩
        · refine Go.step (T' := s₁) (f' := (mkF m 30 #[.val (.int p1)] [])) (fun _ k => XS.icmpNo X0.here hx rfl (hb hby d1_27) rfl (flt hc27).1 k) ?_
          refine Go.step (T' := s₁) (f' := (mkF m 31 #[.val (.int p1)] [(.int p1)])) (fun _ k => XS.iloadN X0.here hx rfl (hb hby d1_30) rfl k) ?_
          refine Go.step (T' := s₁) (f' := (mkF m 33 #[.val (.int p1)] [(.int (70 : Int32)), (.int p1)])) (fun _ k => XS.bipush X0.here hx rfl (hb hby d1_31) k) ?_
          by_cases hc33 : (70 : Int32) < p1
          · refine Go.step (T' := s₁) (f' := (mkF m 40 #[.val (.int p1)] [])) (fun _ k => XS.icmpYes X0.here hx rfl (pc0 := 33) (pc' := 40) rfl (hb hby d1_33) rfl (tlt hc33).2.2.1 (by decide) (by decide) k) ?_
            refine Go.step (T' := s₁) (f' := (mkF m 41 #[.val (.int p1)] [(.int (0 : Int32))])) (fun _ k => XS.iconst X0.here hx rfl (hb hby d1_40) k) ?_
            refine goN X0 hx (t := .boolean) Bd.returns (by simp) Bd.notSynchronized (hb hby d1_41) ?_ (by decide) (by decide)
            show Q_rm1 Z p1 h0 n0 _ s₁.heap _
            rw [e0]
            exact ⟨by rw [own_hex0 (by simp only [Int32.lt_iff_toInt_lt, ← Int32.toInt_inj, Int32.reduceToInt] at hc3 hc15 hc21 hc27 hc33 <;> omega)]; rfl, N0, rfl⟩
          · refine Go.step (T' := s₁) (f' := (mkF m 36 #[.val (.int p1)] [])) (fun _ k => XS.icmpNo X0.here hx rfl (hb hby d1_33) rfl (flt hc33).2.2.1 k) ?_
            refine Go.step (T' := s₁) (f' := (mkF m 37 #[.val (.int p1)] [(.int (1 : Int32))])) (fun _ k => XS.iconst X0.here hx rfl (hb hby d1_36) k) ?_
            refine Go.step (T' := s₁) (f' := (mkF m 41 #[.val (.int p1)] [(.int (1 : Int32))])) (fun _ k => XS.goto X0.here hx rfl (pc0 := 37) (pc' := 41) rfl (hb hby d1_37) (by decide) (by decide) k) ?_
            refine goN X0 hx (t := .boolean) Bd.returns (by simp) Bd.notSynchronized (hb hby d1_41) ?_ (by decide) (by decide)
            show Q_rm1 Z p1 h0 n0 _ s₁.heap _
            rw [e0]
            exact ⟨by rw [own_hex1 (by simp only [Int32.lt_iff_toInt_lt, ← Int32.toInt_inj, Int32.reduceToInt] at hc3 hc15 hc21 hc27 hc33 <;> omega)]; rfl, N0, rfl⟩
      · refine Go.step (T' := s₁) (f' := (mkF m 36 #[.val (.int p1)] [])) (fun _ k => XS.icmpYes X0.here hx rfl (pc0 := 21) (pc' := 36) rfl (hb hby d1_21) rfl (flt hc21).2.2.2 (by decide) (by decide) k) ?_
        refine Go.step (T' := s₁) (f' := (mkF m 37 #[.val (.int p1)] [(.int (1 : Int32))])) (fun _ k => XS.iconst X0.here hx rfl (hb hby d1_36) k) ?_
        refine Go.step (T' := s₁) (f' := (mkF m 41 #[.val (.int p1)] [(.int (1 : Int32))])) (fun _ k => XS.goto X0.here hx rfl (pc0 := 37) (pc' := 41) rfl (hb hby d1_37) (by decide) (by decide) k) ?_
        refine goN X0 hx (t := .boolean) Bd.returns (by simp) Bd.notSynchronized (hb hby d1_41) ?_ (by decide) (by decide)
        show Q_rm1 Z p1 h0 n0 _ s₁.heap _
        rw [e0]
        exact ⟨by rw [own_hex1 (by simp only [Int32.lt_iff_toInt_lt, ← Int32.toInt_inj, Int32.reduceToInt] at hc3 hc15 hc21 <;> omega)]; rfl, N0, rfl⟩
  · refine Go.step (T' := s₁) (f' := (mkF m 6 #[.val (.int p1)] [])) (fun _ k => XS.icmpNo X0.here hx rfl (hb hby d1_3) rfl (flt hc3).1 k) ?_
    refine Go.step (T' := s₁) (f' := (mkF m 7 #[.val (.int p1)] [(.int p1)])) (fun _ k => XS.iloadN X0.here hx rfl (hb hby d1_6) rfl k) ?_
    refine Go.step (T' := s₁) (f' := (mkF m 9 #[.val (.int p1)] [(.int (57 : Int32)), (.int p1)])) (fun _ k => XS.bipush X0.here hx rfl (hb hby d1_7) k) ?_
    by_cases hc9 : (57 : Int32) < p1
    · refine Go.step (T' := s₁) (f' := (mkF m 12 #[.val (.int p1)] [])) (fun _ k => XS.icmpNo X0.here hx rfl (hb hby d1_9) rfl (tlt hc9).2.2.2 k) ?_
      refine Go.step (T' := s₁) (f' := (mkF m 13 #[.val (.int p1)] [(.int p1)])) (fun _ k => XS.iloadN X0.here hx rfl (hb hby d1_12) rfl k) ?_
      refine Go.step (T' := s₁) (f' := (mkF m 15 #[.val (.int p1)] [(.int (97 : Int32)), (.int p1)])) (fun _ k => XS.bipush X0.here hx rfl (hb hby d1_13) k) ?_
      by_cases hc15 : p1 < (97 : Int32)
      · refine Go.step (T' := s₁) (f' := (mkF m 24 #[.val (.int p1)] [])) (fun _ k => XS.icmpYes X0.here hx rfl (pc0 := 15) (pc' := 24) rfl (hb hby d1_15) rfl (tlt hc15).1 (by decide) (by decide) k) ?_
        refine Go.step (T' := s₁) (f' := (mkF m 25 #[.val (.int p1)] [(.int p1)])) (fun _ k => XS.iloadN X0.here hx rfl (hb hby d1_24) rfl k) ?_
        refine Go.step (T' := s₁) (f' := (mkF m 27 #[.val (.int p1)] [(.int (65 : Int32)), (.int p1)])) (fun _ k => XS.bipush X0.here hx rfl (hb hby d1_25) k) ?_
        by_cases hc27 : p1 < (65 : Int32)
        · refine Go.step (T' := s₁) (f' := (mkF m 40 #[.val (.int p1)] [])) (fun _ k => XS.icmpYes X0.here hx rfl (pc0 := 27) (pc' := 40) rfl (hb hby d1_27) rfl (tlt hc27).1 (by decide) (by decide) k) ?_
          refine Go.step (T' := s₁) (f' := (mkF m 41 #[.val (.int p1)] [(.int (0 : Int32))])) (fun _ k => XS.iconst X0.here hx rfl (hb hby d1_40) k) ?_
          refine goN X0 hx (t := .boolean) Bd.returns (by simp) Bd.notSynchronized (hb hby d1_41) ?_ (by decide) (by decide)
          show Q_rm1 Z p1 h0 n0 _ s₁.heap _
          rw [e0]
          exact ⟨by rw [own_hex0 (by simp only [Int32.lt_iff_toInt_lt, ← Int32.toInt_inj, Int32.reduceToInt] at hc3 hc9 hc15 hc27 <;> omega)]; rfl, N0, rfl⟩
        · refine Go.step (T' := s₁) (f' := (mkF m 30 #[.val (.int p1)] [])) (fun _ k => XS.icmpNo X0.here hx rfl (hb hby d1_27) rfl (flt hc27).1 k) ?_
          refine Go.step (T' := s₁) (f' := (mkF m 31 #[.val (.int p1)] [(.int p1)])) (fun _ k => XS.iloadN X0.here hx rfl (hb hby d1_30) rfl k) ?_
          refine Go.step (T' := s₁) (f' := (mkF m 33 #[.val (.int p1)] [(.int (70 : Int32)), (.int p1)])) (fun _ k => XS.bipush X0.here hx rfl (hb hby d1_31) k) ?_
          by_cases hc33 : (70 : Int32) < p1
          · refine Go.step (T' := s₁) (f' := (mkF m 40 #[.val (.int p1)] [])) (fun _ k => XS.icmpYes X0.here hx rfl (pc0 := 33) (pc' := 40) rfl (hb hby d1_33) rfl (tlt hc33).2.2.1 (by decide) (by decide) k) ?_
            refine Go.step (T' := s₁) (f' := (mkF m 41 #[.val (.int p1)] [(.int (0 : Int32))])) (fun _ k => XS.iconst X0.here hx rfl (hb hby d1_40) k) ?_
            refine goN X0 hx (t := .boolean) Bd.returns (by simp) Bd.notSynchronized (hb hby d1_41) ?_ (by decide) (by decide)
            show Q_rm1 Z p1 h0 n0 _ s₁.heap _
            rw [e0]
            exact ⟨by rw [own_hex0 (by simp only [Int32.lt_iff_toInt_lt, ← Int32.toInt_inj, Int32.reduceToInt] at hc3 hc9 hc15 hc27 hc33 <;> omega)]; rfl, N0, rfl⟩
          · refine Go.step (T' := s₁) (f' := (mkF m 36 #[.val (.int p1)] [])) (fun _ k => XS.icmpNo X0.here hx rfl (hb hby d1_33) rfl (flt hc33).2.2.1 k) ?_
            refine Go.step (T' := s₁) (f' := (mkF m 37 #[.val (.int p1)] [(.int (1 : Int32))])) (fun _ k => XS.iconst X0.here hx rfl (hb hby d1_36) k) ?_
            refine Go.step (T' := s₁) (f' := (mkF m 41 #[.val (.int p1)] [(.int (1 : Int32))])) (fun _ k => XS.goto X0.here hx rfl (pc0 := 37) (pc' := 41) rfl (hb hby d1_37) (by decide) (by decide) k) ?_
            refine goN X0 hx (t := .boolean) Bd.returns (by simp) Bd.notSynchronized (hb hby d1_41) ?_ (by decide) (by decide)
            show Q_rm1 Z p1 h0 n0 _ s₁.heap _
            rw [e0]
            exact ⟨by rw [own_hex1 (by simp only [Int32.lt_iff_toInt_lt, ← Int32.toInt_inj, Int32.reduceToInt] at hc3 hc9 hc15 hc27 hc33 <;> omega)]; rfl, N0, rfl⟩
      · refine Go.step (T' := s₁) (f' := (mkF m 18 #[.val (.int p1)] [])) (fun _ k => XS.icmpNo X0.here hx rfl (hb hby d1_15) rfl (flt hc15).1 k) ?_
        refine Go.step (T' := s₁) (f' := (mkF m 19 #[.val (.int p1)] [(.int p1)])) (fun _ k => XS.iloadN X0.here hx rfl (hb hby d1_18) rfl k) ?_
        refine Go.step (T' := s₁) (f' := (mkF m 21 #[.val (.int p1)] [(.int (102 : Int32)), (.int p1)])) (fun _ k => XS.bipush X0.here hx rfl (hb hby d1_19) k) ?_
        by_cases hc21 : (102 : Int32) < p1
        · refine Go.step (T' := s₁) (f' := (mkF m 24 #[.val (.int p1)] [])) (fun _ k => XS.icmpNo X0.here hx rfl (hb hby d1_21) rfl (tlt hc21).2.2.2 k) ?_
          refine Go.step (T' := s₁) (f' := (mkF m 25 #[.val (.int p1)] [(.int p1)])) (fun _ k => XS.iloadN X0.here hx rfl (hb hby d1_24) rfl k) ?_
          refine Go.step (T' := s₁) (f' := (mkF m 27 #[.val (.int p1)] [(.int (65 : Int32)), (.int p1)])) (fun _ k => XS.bipush X0.here hx rfl (hb hby d1_25) k) ?_
          by_cases hc27 : p1 < (65 : Int32)
          · refine Go.step (T' := s₁) (f' := (mkF m 40 #[.val (.int p1)] [])) (fun _ k => XS.icmpYes X0.here hx rfl (pc0 := 27) (pc' := 40) rfl (hb hby d1_27) rfl (tlt hc27).1 (by decide) (by decide) k) ?_
            refine Go.step (T' := s₁) (f' := (mkF m 41 #[.val (.int p1)] [(.int (0 : Int32))])) (fun _ k => XS.iconst X0.here hx rfl (hb hby d1_40) k) ?_
            refine goN X0 hx (t := .boolean) Bd.returns (by simp) Bd.notSynchronized (hb hby d1_41) ?_ (by decide) (by decide)
            show Q_rm1 Z p1 h0 n0 _ s₁.heap _
            rw [e0]
            exact ⟨by rw [own_hex0 (by simp only [Int32.lt_iff_toInt_lt, ← Int32.toInt_inj, Int32.reduceToInt] at hc3 hc9 hc15 hc21 hc27 <;> omega)]; rfl, N0, rfl⟩
          · refine Go.step (T' := s₁) (f' := (mkF m 30 #[.val (.int p1)] [])) (fun _ k => XS.icmpNo X0.here hx rfl (hb hby d1_27) rfl (flt hc27).1 k) ?_
            refine Go.step (T' := s₁) (f' := (mkF m 31 #[.val (.int p1)] [(.int p1)])) (fun _ k => XS.iloadN X0.here hx rfl (hb hby d1_30) rfl k) ?_
            refine Go.step (T' := s₁) (f' := (mkF m 33 #[.val (.int p1)] [(.int (70 : Int32)), (.int p1)])) (fun _ k => XS.bipush X0.here hx rfl (hb hby d1_31) k) ?_
            by_cases hc33 : (70 : Int32) < p1
            · refine Go.step (T' := s₁) (f' := (mkF m 40 #[.val (.int p1)] [])) (fun _ k => XS.icmpYes X0.here hx rfl (pc0 := 33) (pc' := 40) rfl (hb hby d1_33) rfl (tlt hc33).2.2.1 (by decide) (by decide) k) ?_
              refine Go.step (T' := s₁) (f' := (mkF m 41 #[.val (.int p1)] [(.int (0 : Int32))])) (fun _ k => XS.iconst X0.here hx rfl (hb hby d1_40) k) ?_
              refine goN X0 hx (t := .boolean) Bd.returns (by simp) Bd.notSynchronized (hb hby d1_41) ?_ (by decide) (by decide)
              show Q_rm1 Z p1 h0 n0 _ s₁.heap _
              rw [e0]
              exact ⟨by rw [own_hex0 (by simp only [Int32.lt_iff_toInt_lt, ← Int32.toInt_inj, Int32.reduceToInt] at hc3 hc9 hc15 hc21 hc27 hc33 <;> omega)]; rfl, N0, rfl⟩
            · refine Go.step (T' := s₁) (f' := (mkF m 36 #[.val (.int p1)] [])) (fun _ k => XS.icmpNo X0.here hx rfl (hb hby d1_33) rfl (flt hc33).2.2.1 k) ?_
              refine Go.step (T' := s₁) (f' := (mkF m 37 #[.val (.int p1)] [(.int (1 : Int32))])) (fun _ k => XS.iconst X0.here hx rfl (hb hby d1_36) k) ?_
              refine Go.step (T' := s₁) (f' := (mkF m 41 #[.val (.int p1)] [(.int (1 : Int32))])) (fun _ k => XS.goto X0.here hx rfl (pc0 := 37) (pc' := 41) rfl (hb hby d1_37) (by decide) (by decide) k) ?_
              refine goN X0 hx (t := .boolean) Bd.returns (by simp) Bd.notSynchronized (hb hby d1_41) ?_ (by decide) (by decide)
              show Q_rm1 Z p1 h0 n0 _ s₁.heap _
              rw [e0]
              exact ⟨by rw [own_hex1 (by simp only [Int32.lt_iff_toInt_lt, ← Int32.toInt_inj, Int32.reduceToInt] at hc3 hc9 hc15 hc21 hc27 hc33 <;> omega)]; rfl, N0, rfl⟩
        · refine Go.step (T' := s₁) (f' := (mkF m 36 #[.val (.int p1)] [])) (fun _ k => XS.icmpYes X0.here hx rfl (pc0 := 21) (pc' := 36) rfl (hb hby d1_21) rfl (flt hc21).2.2.2 (by decide) (by decide) k) ?_
          refine Go.step (T' := s₁) (f' := (mkF m 37 #[.val (.int p1)] [(.int (1 : Int32))])) (fun _ k => XS.iconst X0.here hx rfl (hb hby d1_36) k) ?_
          refine Go.step (T' := s₁) (f' := (mkF m 41 #[.val (.int p1)] [(.int (1 : Int32))])) (fun _ k => XS.goto X0.here hx rfl (pc0 := 37) (pc' := 41) rfl (hb hby d1_37) (by decide) (by decide) k) ?_
          refine goN X0 hx (t := .boolean) Bd.returns (by simp) Bd.notSynchronized (hb hby d1_41) ?_ (by decide) (by decide)
          show Q_rm1 Z p1 h0 n0 _ s₁.heap _
          rw [e0]
          exact ⟨by rw [own_hex1 (by simp only [Int32.lt_iff_toInt_lt, ← Int32.toInt_inj, Int32.reduceToInt] at hc3 hc9 hc15 hc21 <;> omega)]; rfl, N0, rfl⟩
    · refine Go.step (T' := s₁) (f' := (mkF m 36 #[.val (.int p1)] [])) (fun _ k => XS.icmpYes X0.here hx rfl (pc0 := 9) (pc' := 36) rfl (hb hby d1_9) rfl (flt hc9).2.2.2 (by decide) (by decide) k) ?_
      refine Go.step (T' := s₁) (f' := (mkF m 37 #[.val (.int p1)] [(.int (1 : Int32))])) (fun _ k => XS.iconst X0.here hx rfl (hb hby d1_36) k) ?_
      refine Go.step (T' := s₁) (f' := (mkF m 41 #[.val (.int p1)] [(.int (1 : Int32))])) (fun _ k => XS.goto X0.here hx rfl (pc0 := 37) (pc' := 41) rfl (hb hby d1_37) (by decide) (by decide) k) ?_
      refine goN X0 hx (t := .boolean) Bd.returns (by simp) Bd.notSynchronized (hb hby d1_41) ?_ (by decide) (by decide)
      show Q_rm1 Z p1 h0 n0 _ s₁.heap _
      rw [e0]
      exact ⟨by rw [own_hex1 (by simp only [Int32.lt_iff_toInt_lt, ← Int32.toInt_inj, Int32.reduceToInt] at hc3 hc9 <;> omega)]; rfl, N0, rfl⟩
theorem d2_0 : decode method_3_code 0 = .ok (.iload_n 0, 1) := by decide +kernel
theorem d2_1 : decode method_3_code 1 = .ok (.i2l, 1) := by decide +kernel
theorem d2_2 : decode method_3_code 2 = .ok (.ldc2_w 18, 3) := by decide +kernel
theorem d2_5 : decode method_3_code 5 = .ok (.lsub, 1) := by decide +kernel
theorem d2_6 : decode method_3_code 6 = .ok (.lstore_n 1, 1) := by decide +kernel
theorem d2_7 : decode method_3_code 7 = .ok (.lload_n 1, 1) := by decide +kernel
theorem d2_8 : decode method_3_code 8 = .ok (.lconst 0, 1) := by decide +kernel
theorem d2_9 : decode method_3_code 9 = .ok (.lcmp, 1) := by decide +kernel
theorem d2_10 : decode method_3_code 10 = .ok (.ifCond .lt 15, 3) := by decide +kernel
theorem d2_25 : decode method_3_code 25 = .ok (.iconst 0, 1) := by decide +kernel
theorem d2_26 : decode method_3_code 26 = .ok (.istore_n 3, 1) := by decide +kernel
theorem d2_27 : decode method_3_code 27 = .ok (.iload_n 0, 1) := by decide +kernel
theorem d2_28 : decode method_3_code 28 = .ok (.bipush 32, 2) := by decide +kernel
theorem d2_30 : decode method_3_code 30 = .ok (.ior, 1) := by decide +kernel
theorem d2_31 : decode method_3_code 31 = .ok (.i2l, 1) := by decide +kernel
theorem d2_32 : decode method_3_code 32 = .ok (.ldc2_w 22, 3) := by decide +kernel
theorem d2_35 : decode method_3_code 35 = .ok (.lsub, 1) := by decide +kernel
theorem d2_36 : decode method_3_code 36 = .ok (.lstore 4, 2) := by decide +kernel
theorem d2_38 : decode method_3_code 38 = .ok (.lload 4, 2) := by decide +kernel
theorem d2_40 : decode method_3_code 40 = .ok (.lconst 0, 1) := by decide +kernel
theorem d2_41 : decode method_3_code 41 = .ok (.lcmp, 1) := by decide +kernel
theorem d2_42 : decode method_3_code 42 = .ok (.ifCond .lt 16, 3) := by decide +kernel
theorem d2_58 : decode method_3_code 58 = .ok (.iconst 0, 1) := by decide +kernel
theorem d2_59 : decode method_3_code 59 = .ok (.istore 6, 2) := by decide +kernel
theorem d2_61 : decode method_3_code 61 = .ok (.iload_n 3, 1) := by decide +kernel
theorem d2_62 : decode method_3_code 62 = .ok (.ifCond .ne 8, 3) := by decide +kernel
theorem d2_65 : decode method_3_code 65 = .ok (.iload 6, 2) := by decide +kernel
theorem d2_67 : decode method_3_code 67 = .ok (.ifCond .eq 7, 3) := by decide +kernel
theorem d2_74 : decode method_3_code 74 = .ok (.iconst 0, 1) := by decide +kernel
theorem d2_75 : decode method_3_code 75 = .ok (.ireturn, 1) := by decide +kernel
theorem d2_45 : decode method_3_code 45 = .ok (.lload 4, 2) := by decide +kernel
theorem d2_47 : decode method_3_code 47 = .ok (.ldc2_w 24, 3) := by decide +kernel
theorem d2_50 : decode method_3_code 50 = .ok (.lcmp, 1) := by decide +kernel
theorem d2_51 : decode method_3_code 51 = .ok (.ifCond .gt 7, 3) := by decide +kernel
theorem d2_54 : decode method_3_code 54 = .ok (.iconst 1, 1) := by decide +kernel
theorem d2_55 : decode method_3_code 55 = .ok (.goto 4, 3) := by decide +kernel
theorem d2_70 : decode method_3_code 70 = .ok (.iconst 1, 1) := by decide +kernel
theorem d2_71 : decode method_3_code 71 = .ok (.goto 4, 3) := by decide +kernel
theorem d2_13 : decode method_3_code 13 = .ok (.lload_n 1, 1) := by decide +kernel
theorem d2_14 : decode method_3_code 14 = .ok (.ldc2_w 20, 3) := by decide +kernel
theorem d2_17 : decode method_3_code 17 = .ok (.lcmp, 1) := by decide +kernel
theorem d2_18 : decode method_3_code 18 = .ok (.ifCond .gt 7, 3) := by decide +kernel
theorem d2_21 : decode method_3_code 21 = .ok (.iconst 1, 1) := by decide +kernel
theorem d2_22 : decode method_3_code 22 = .ok (.goto 4, 3) := by decide +kernel
theorem pn_2 : plainName "com/example/bagwise/bagwise/query/SourceTextIsHexDigitPinLaw" = true := by first | (simp [plainName, overriddenIn]; done) | decide +kernel
theorem ef_rm2 (m : MethodId) (p1 : Int32) : entryFrame m #[(.int p1)] 7 = mkF m 0 #[.val (.int p1), .unset, .unset, .unset, .unset, .unset, .unset] [] := by first | (simp [entryFrame, mkF, argsToLocals, Value.category]; done) | rfl
def Q_rm2 (Z : State) (p1 : Int32) (h0 : Heap) (n0 : Nat) (v : Option Value) (h : Heap) (L : List Loc) : Prop := v = some (.int (own_hex p1)) ∧ Fr n0 L ∧ h = h0
set_option maxRecDepth 65536 in
set_option maxHeartbeats 40000000 in
theorem rm2 (l : Launch) (Z : State) (a0 : Array Value) (hw : ∀ d ∈ tables_1, d.before a0 Z = true) (ws : List Jvm.Cond) (p1 : Int32) (h0 : Heap) (n0 : Nat) (Z0 : n0 ≤ h0.size) :
    MetFree l (⟨"com/example/bagwise/bagwise/query/SourceTextIsHexDigitPinLaw", "expected", "(I)Z"⟩ : MethodName) (head1 (Jvm.Cond.code (⟨"com/example/bagwise/bagwise/query/SourceTextIsHexDigitPinLaw", "expected", "(I)Z"⟩ : MethodName) method_3_code 7 (some .boolean) :: ws) ({ frames := 0, cells := 0, slots := 0, locals := 0 } : Room)) (fun a U => a = #[(.int p1)] ∧ Z.Warmed39 U.vm ∧ U.heap = h0) (fun _ _ _ _ _ => True) (fun _ U o U' => ∃ v L, o = .returned v ∧ Q_rm2 Z p1 h0 n0 v U'.heap L ∧ FrameEnd U o U' L ({ frames := 0, cells := 0, slots := 0, locals := 0 } : Room).cells ({ frames := 0, cells := 0, slots := 0, locals := 0 } : Room).slots) := by
  refine MetFree.of_bodySF (plainFor_of_name pn_2) hisR ?_
  intro p e s m args below meth c s₁ Bd hml0 hP hK
  obtain ⟨rfl, hZ, hh⟩ := hP
  have hx := Bd.exec
  have hby := Bd.bytes
  have hml : c.maxLocals = 7 := hml0
  have hown : s.vm.findClass "com/example/bagwise/bagwise/query/SourceTextIsHexDigitPinLaw" = some m.cls := findClass_of_methodNamed Bd.named
  have hnm := (name_of_methodNamed Bd.named Bd.method).1
  have X0 : Stand p l e ({ frames := 0, cells := 0, slots := 0, locals := 0 } : Room) s m #[(.int p1)] below meth c s₁ [] 0 0 := Stand.of_body Bd
  have e0 : s₁.heap = h0 := by rw [← hh, Bd.state]; rfl
  have N0 := Fr.nil n0
  refine of_go (ef_rm2 m p1) ?_
  refine Go.step (T' := s₁) (f' := (mkF m 1 #[.val (.int p1), .unset, .unset, .unset, .unset, .unset, .unset] [(.int p1)])) (fun _ k => XS.iloadN X0.here hx rfl (hb hby d2_0) rfl k) ?_
  refine Go.step (T' := s₁) (f' := (mkF m 2 #[.val (.int p1), .unset, .unset, .unset, .unset, .unset, .unset] [(.long (p1.toInt64))])) (fun _ k => XS.i2l X0.here hx rfl (hb hby d2_1) rfl k) ?_
  refine Go.step (T' := s₁) (f' := (mkF m 5 #[.val (.int p1), .unset, .unset, .unset, .unset, .unset, .unset] [(.long (48 : Int64)), (.long (p1.toInt64))])) (fun _ k => X0.ldc2Long hx hown (mvT hZ (hw _ (List.mem_of_getElem? (i := 8) rfl))) (g := (mkF m 2 #[.val (.int p1), .unset, .unset, .unset, .unset, .unset, .unset] [(.long (p1.toInt64))])) rfl (hb hby d2_2) _ k) ?_
  refine Go.step (T' := s₁) (f' := (mkF m 6 #[.val (.int p1), .unset, .unset, .unset, .unset, .unset, .unset] [(.long ((p1.toInt64) - (48 : Int64)))])) (fun _ k => XS.lsub X0.here hx rfl (hb hby d2_5) rfl k) ?_
  refine Go.step (T' := s₁) (f' := (mkF m 7 #[.val (.int p1), .val (.long ((p1.toInt64) - (48 : Int64))), .second, .unset, .unset, .unset, .unset] [])) (fun _ k => XS.lstoreN X0.here hx rfl (hb hby d2_6) rfl (l' := #[.val (.int p1), .val (.long ((p1.toInt64) - (48 : Int64))), .second, .unset, .unset, .unset, .unset]) rfl k) ?_
  refine Go.step (T' := s₁) (f' := (mkF m 8 #[.val (.int p1), .val (.long ((p1.toInt64) - (48 : Int64))), .second, .unset, .unset, .unset, .unset] [(.long ((p1.toInt64) - (48 : Int64)))])) (fun _ k => XS.lloadN X0.here hx rfl (hb hby d2_7) rfl k) ?_
  refine Go.step (T' := s₁) (f' := (mkF m 9 #[.val (.int p1), .val (.long ((p1.toInt64) - (48 : Int64))), .second, .unset, .unset, .unset, .unset] [(.long (0 : Int64)), (.long ((p1.toInt64) - (48 : Int64)))])) (fun _ k => XS.lconst X0.here hx rfl (hb hby d2_8) k) ?_
  refine Go.step (T' := s₁) (f' := (mkF m 10 #[.val (.int p1), .val (.long ((p1.toInt64) - (48 : Int64))), .second, .unset, .unset, .unset, .unset] [(.int (lcmpW ((p1.toInt64) - (48 : Int64)) (0 : Int64)))])) (fun _ k => XS.lcmp X0.here hx rfl (hb hby d2_9) rfl k) ?_
  by_cases hc10 : ((p1.toInt64) - (48 : Int64)) < (0 : Int64)
  · refine Go.step (T' := s₁) (f' := (mkF m 25 #[.val (.int p1), .val (.long ((p1.toInt64) - (48 : Int64))), .second, .unset, .unset, .unset, .unset] [])) (fun _ k => XS.ifYes X0.here hx rfl (pc0 := 10) (pc' := 25) rfl (hb hby d2_10) rfl ((if0 _ _).trans (tlt ((lw_lt _ _).mpr hc10)).1) (by decide) (by decide) k) ?_
    refine Go.step (T' := s₁) (f' := (mkF m 26 #[.val (.int p1), .val (.long ((p1.toInt64) - (48 : Int64))), .second, .unset, .unset, .unset, .unset] [(.int (0 : Int32))])) (fun _ k => XS.iconst X0.here hx rfl (hb hby d2_25) k) ?_
    refine Go.step (T' := s₁) (f' := (mkF m 27 #[.val (.int p1), .val (.long ((p1.toInt64) - (48 : Int64))), .second, .val (.int (0 : Int32)), .unset, .unset, .unset] [])) (fun _ k => XS.istoreN X0.here hx rfl (hb hby d2_26) rfl (l' := #[.val (.int p1), .val (.long ((p1.toInt64) - (48 : Int64))), .second, .val (.int (0 : Int32)), .unset, .unset, .unset]) rfl k) ?_
    refine Go.step (T' := s₁) (f' := (mkF m 28 #[.val (.int p1), .val (.long ((p1.toInt64) - (48 : Int64))), .second, .val (.int (0 : Int32)), .unset, .unset, .unset] [(.int p1)])) (fun _ k => XS.iloadN X0.here hx rfl (hb hby d2_27) rfl k) ?_
    refine Go.step (T' := s₁) (f' := (mkF m 30 #[.val (.int p1), .val (.long ((p1.toInt64) - (48 : Int64))), .second, .val (.int (0 : Int32)), .unset, .unset, .unset] [(.int (32 : Int32)), (.int p1)])) (fun _ k => XS.bipush X0.here hx rfl (hb hby d2_28) k) ?_
    refine Go.step (T' := s₁) (f' := (mkF m 31 #[.val (.int p1), .val (.long ((p1.toInt64) - (48 : Int64))), .second, .val (.int (0 : Int32)), .unset, .unset, .unset] [(.int (p1 ||| (32 : Int32)))])) (fun _ k => XS.ior X0.here hx rfl (hb hby d2_30) rfl k) ?_
    refine Go.step (T' := s₁) (f' := (mkF m 32 #[.val (.int p1), .val (.long ((p1.toInt64) - (48 : Int64))), .second, .val (.int (0 : Int32)), .unset, .unset, .unset] [(.long ((p1 ||| (32 : Int32)).toInt64))])) (fun _ k => XS.i2l X0.here hx rfl (hb hby d2_31) rfl k) ?_
    refine Go.step (T' := s₁) (f' := (mkF m 35 #[.val (.int p1), .val (.long ((p1.toInt64) - (48 : Int64))), .second, .val (.int (0 : Int32)), .unset, .unset, .unset] [(.long (97 : Int64)), (.long ((p1 ||| (32 : Int32)).toInt64))])) (fun _ k => X0.ldc2Long hx hown (mvT hZ (hw _ (List.mem_of_getElem? (i := 9) rfl))) (g := (mkF m 32 #[.val (.int p1), .val (.long ((p1.toInt64) - (48 : Int64))), .second, .val (.int (0 : Int32)), .unset, .unset, .unset] [(.long ((p1 ||| (32 : Int32)).toInt64))])) rfl (hb hby d2_32) _ k) ?_
    refine Go.step (T' := s₁) (f' := (mkF m 36 #[.val (.int p1), .val (.long ((p1.toInt64) - (48 : Int64))), .second, .val (.int (0 : Int32)), .unset, .unset, .unset] [(.long (((p1 ||| (32 : Int32)).toInt64) - (97 : Int64)))])) (fun _ k => XS.lsub X0.here hx rfl (hb hby d2_35) rfl k) ?_
    refine Go.step (T' := s₁) (f' := (mkF m 38 #[.val (.int p1), .val (.long ((p1.toInt64) - (48 : Int64))), .second, .val (.int (0 : Int32)), .val (.long (((p1 ||| (32 : Int32)).toInt64) - (97 : Int64))), .second, .unset] [])) (fun _ k => XS.lstore X0.here hx rfl (hb hby d2_36) rfl (l' := #[.val (.int p1), .val (.long ((p1.toInt64) - (48 : Int64))), .second, .val (.int (0 : Int32)), .val (.long (((p1 ||| (32 : Int32)).toInt64) - (97 : Int64))), .second, .unset]) rfl k) ?_
    refine Go.step (T' := s₁) (f' := (mkF m 40 #[.val (.int p1), .val (.long ((p1.toInt64) - (48 : Int64))), .second, .val (.int (0 : Int32)), .val (.long (((p1 ||| (32 : Int32)).toInt64) - (97 : Int64))), .second, .unset] [(.long (((p1 ||| (32 : Int32)).toInt64) - (97 : Int64)))])) (fun _ k => XS.lload X0.here hx rfl (hb hby d2_38) rfl k) ?_
    refine Go.step (T' := s₁) (f' := (mkF m 41 #[.val (.int p1), .val (.long ((p1.toInt64) - (48 : Int64))), .second, .val (.int (0 : Int32)), .val (.long (((p1 ||| (32 : Int32)).toInt64) - (97 : Int64))), .second, .unset] [(.long (0 : Int64)), (.long (((p1 ||| (32 : Int32)).toInt64) - (97 : Int64)))])) (fun _ k => XS.lconst X0.here hx rfl (hb hby d2_40) k) ?_
    refine Go.step (T' := s₁) (f' := (mkF m 42 #[.val (.int p1), .val (.long ((p1.toInt64) - (48 : Int64))), .second, .val (.int (0 : Int32)), .val (.long (((p1 ||| (32 : Int32)).toInt64) - (97 : Int64))), .second, .unset] [(.int (lcmpW (((p1 ||| (32 : Int32)).toInt64) - (97 : Int64)) (0 : Int64)))])) (fun _ k => XS.lcmp X0.here hx rfl (hb hby d2_41) rfl k) ?_
    by_cases hc42 : (((p1 ||| (32 : Int32)).toInt64) - (97 : Int64)) < (0 : Int64)
    · refine Go.step (T' := s₁) (f' := (mkF m 58 #[.val (.int p1), .val (.long ((p1.toInt64) - (48 : Int64))), .second, .val (.int (0 : Int32)), .val (.long (((p1 ||| (32 : Int32)).toInt64) - (97 : Int64))), .second, .unset] [])) (fun _ k => XS.ifYes X0.here hx rfl (pc0 := 42) (pc' := 58) rfl (hb hby d2_42) rfl ((if0 _ _).trans (tlt ((lw_lt _ _).mpr hc42)).1) (by decide) (by decide) k) ?_
      refine Go.step (T' := s₁) (f' := (mkF m 59 #[.val (.int p1), .val (.long ((p1.toInt64) - (48 : Int64))), .second, .val (.int (0 : Int32)), .val (.long (((p1 ||| (32 : Int32)).toInt64) - (97 : Int64))), .second, .unset] [(.int (0 : Int32))])) (fun _ k => XS.iconst X0.here hx rfl (hb hby d2_58) k) ?_
      refine Go.step (T' := s₁) (f' := (mkF m 61 #[.val (.int p1), .val (.long ((p1.toInt64) - (48 : Int64))), .second, .val (.int (0 : Int32)), .val (.long (((p1 ||| (32 : Int32)).toInt64) - (97 : Int64))), .second, .val (.int (0 : Int32))] [])) (fun _ k => XS.istore X0.here hx rfl (hb hby d2_59) rfl (l' := #[.val (.int p1), .val (.long ((p1.toInt64) - (48 : Int64))), .second, .val (.int (0 : Int32)), .val (.long (((p1 ||| (32 : Int32)).toInt64) - (97 : Int64))), .second, .val (.int (0 : Int32))]) rfl k) ?_
      refine Go.step (T' := s₁) (f' := (mkF m 62 #[.val (.int p1), .val (.long ((p1.toInt64) - (48 : Int64))), .second, .val (.int (0 : Int32)), .val (.long (((p1 ||| (32 : Int32)).toInt64) - (97 : Int64))), .second, .val (.int (0 : Int32))] [(.int (0 : Int32))])) (fun _ k => XS.iloadN X0.here hx rfl (hb hby d2_61) rfl k) ?_
      refine Go.step (T' := s₁) (f' := (mkF m 65 #[.val (.int p1), .val (.long ((p1.toInt64) - (48 : Int64))), .second, .val (.int (0 : Int32)), .val (.long (((p1 ||| (32 : Int32)).toInt64) - (97 : Int64))), .second, .val (.int (0 : Int32))] [])) (fun _ k => XS.ifNo X0.here hx rfl (hb hby d2_62) rfl ((if0 _ _).trans (teq (by decide : (0 : Int32) = (0 : Int32))).2) k) ?_
      refine Go.step (T' := s₁) (f' := (mkF m 67 #[.val (.int p1), .val (.long ((p1.toInt64) - (48 : Int64))), .second, .val (.int (0 : Int32)), .val (.long (((p1 ||| (32 : Int32)).toInt64) - (97 : Int64))), .second, .val (.int (0 : Int32))] [(.int (0 : Int32))])) (fun _ k => XS.iload X0.here hx rfl (hb hby d2_65) rfl k) ?_
      refine Go.step (T' := s₁) (f' := (mkF m 74 #[.val (.int p1), .val (.long ((p1.toInt64) - (48 : Int64))), .second, .val (.int (0 : Int32)), .val (.long (((p1 ||| (32 : Int32)).toInt64) - (97 : Int64))), .second, .val (.int (0 : Int32))] [])) (fun _ k => XS.ifYes X0.here hx rfl (pc0 := 67) (pc' := 74) rfl (hb hby d2_67) rfl ((if0 _ _).trans (teq (by decide : (0 : Int32) = (0 : Int32))).1) (by decide) (by decide) k) ?_
      refine Go.step (T' := s₁) (f' := (mkF m 75 #[.val (.int p1), .val (.long ((p1.toInt64) - (48 : Int64))), .second, .val (.int (0 : Int32)), .val (.long (((p1 ||| (32 : Int32)).toInt64) - (97 : Int64))), .second, .val (.int (0 : Int32))] [(.int (0 : Int32))])) (fun _ k => XS.iconst X0.here hx rfl (hb hby d2_74) k) ?_
      refine goN X0 hx (t := .boolean) Bd.returns (by simp) Bd.notSynchronized (hb hby d2_75) ?_ (by decide) (by decide)
      show Q_rm2 Z p1 h0 n0 _ s₁.heap _
      rw [e0]
      exact ⟨by rw [own_hex0 (by have := own_or p1; simp only [Int32.lt_iff_toInt_lt, ← Int32.toInt_inj, Int32.reduceToInt, Int64.lt_iff_toInt_lt, ← Int64.toInt_inj, Int64.reduceToInt, own_48, own_97] at hc10 hc42 <;> omega)]; rfl, N0, rfl⟩
    · refine Go.step (T' := s₁) (f' := (mkF m 45 #[.val (.int p1), .val (.long ((p1.toInt64) - (48 : Int64))), .second, .val (.int (0 : Int32)), .val (.long (((p1 ||| (32 : Int32)).toInt64) - (97 : Int64))), .second, .unset] [])) (fun _ k => XS.ifNo X0.here hx rfl (hb hby d2_42) rfl ((if0 _ _).trans (flt (fun q => hc42 ((lw_lt _ _).mp q))).1) k) ?_
      refine Go.step (T' := s₁) (f' := (mkF m 47 #[.val (.int p1), .val (.long ((p1.toInt64) - (48 : Int64))), .second, .val (.int (0 : Int32)), .val (.long (((p1 ||| (32 : Int32)).toInt64) - (97 : Int64))), .second, .unset] [(.long (((p1 ||| (32 : Int32)).toInt64) - (97 : Int64)))])) (fun _ k => XS.lload X0.here hx rfl (hb hby d2_45) rfl k) ?_
      refine Go.step (T' := s₁) (f' := (mkF m 50 #[.val (.int p1), .val (.long ((p1.toInt64) - (48 : Int64))), .second, .val (.int (0 : Int32)), .val (.long (((p1 ||| (32 : Int32)).toInt64) - (97 : Int64))), .second, .unset] [(.long (5 : Int64)), (.long (((p1 ||| (32 : Int32)).toInt64) - (97 : Int64)))])) (fun _ k => X0.ldc2Long hx hown (mvT hZ (hw _ (List.mem_of_getElem? (i := 11) rfl))) (g := (mkF m 47 #[.val (.int p1), .val (.long ((p1.toInt64) - (48 : Int64))), .second, .val (.int (0 : Int32)), .val (.long (((p1 ||| (32 : Int32)).toInt64) - (97 : Int64))), .second, .unset] [(.long (((p1 ||| (32 : Int32)).toInt64) - (97 : Int64)))])) rfl (hb hby d2_47) _ k) ?_
      refine Go.step (T' := s₁) (f' := (mkF m 51 #[.val (.int p1), .val (.long ((p1.toInt64) - (48 : Int64))), .second, .val (.int (0 : Int32)), .val (.long (((p1 ||| (32 : Int32)).toInt64) - (97 : Int64))), .second, .unset] [(.int (lcmpW (((p1 ||| (32 : Int32)).toInt64) - (97 : Int64)) (5 : Int64)))])) (fun _ k => XS.lcmp X0.here hx rfl (hb hby d2_50) rfl k) ?_
      by_cases hc51 : (5 : Int64) < (((p1 ||| (32 : Int32)).toInt64) - (97 : Int64))
      · refine Go.step (T' := s₁) (f' := (mkF m 58 #[.val (.int p1), .val (.long ((p1.toInt64) - (48 : Int64))), .second, .val (.int (0 : Int32)), .val (.long (((p1 ||| (32 : Int32)).toInt64) - (97 : Int64))), .second, .unset] [])) (fun _ k => XS.ifYes X0.here hx rfl (pc0 := 51) (pc' := 58) rfl (hb hby d2_51) rfl ((if0 _ _).trans (tlt ((lw_gt _ _).mpr hc51)).2.2.1) (by decide) (by decide) k) ?_
        refine Go.step (T' := s₁) (f' := (mkF m 59 #[.val (.int p1), .val (.long ((p1.toInt64) - (48 : Int64))), .second, .val (.int (0 : Int32)), .val (.long (((p1 ||| (32 : Int32)).toInt64) - (97 : Int64))), .second, .unset] [(.int (0 : Int32))])) (fun _ k => XS.iconst X0.here hx rfl (hb hby d2_58) k) ?_
        refine Go.step (T' := s₁) (f' := (mkF m 61 #[.val (.int p1), .val (.long ((p1.toInt64) - (48 : Int64))), .second, .val (.int (0 : Int32)), .val (.long (((p1 ||| (32 : Int32)).toInt64) - (97 : Int64))), .second, .val (.int (0 : Int32))] [])) (fun _ k => XS.istore X0.here hx rfl (hb hby d2_59) rfl (l' := #[.val (.int p1), .val (.long ((p1.toInt64) - (48 : Int64))), .second, .val (.int (0 : Int32)), .val (.long (((p1 ||| (32 : Int32)).toInt64) - (97 : Int64))), .second, .val (.int (0 : Int32))]) rfl k) ?_
        refine Go.step (T' := s₁) (f' := (mkF m 62 #[.val (.int p1), .val (.long ((p1.toInt64) - (48 : Int64))), .second, .val (.int (0 : Int32)), .val (.long (((p1 ||| (32 : Int32)).toInt64) - (97 : Int64))), .second, .val (.int (0 : Int32))] [(.int (0 : Int32))])) (fun _ k => XS.iloadN X0.here hx rfl (hb hby d2_61) rfl k) ?_
        refine Go.step (T' := s₁) (f' := (mkF m 65 #[.val (.int p1), .val (.long ((p1.toInt64) - (48 : Int64))), .second, .val (.int (0 : Int32)), .val (.long (((p1 ||| (32 : Int32)).toInt64) - (97 : Int64))), .second, .val (.int (0 : Int32))] [])) (fun _ k => XS.ifNo X0.here hx rfl (hb hby d2_62) rfl ((if0 _ _).trans (teq (by decide : (0 : Int32) = (0 : Int32))).2) k) ?_
        refine Go.step (T' := s₁) (f' := (mkF m 67 #[.val (.int p1), .val (.long ((p1.toInt64) - (48 : Int64))), .second, .val (.int (0 : Int32)), .val (.long (((p1 ||| (32 : Int32)).toInt64) - (97 : Int64))), .second, .val (.int (0 : Int32))] [(.int (0 : Int32))])) (fun _ k => XS.iload X0.here hx rfl (hb hby d2_65) rfl k) ?_
        refine Go.step (T' := s₁) (f' := (mkF m 74 #[.val (.int p1), .val (.long ((p1.toInt64) - (48 : Int64))), .second, .val (.int (0 : Int32)), .val (.long (((p1 ||| (32 : Int32)).toInt64) - (97 : Int64))), .second, .val (.int (0 : Int32))] [])) (fun _ k => XS.ifYes X0.here hx rfl (pc0 := 67) (pc' := 74) rfl (hb hby d2_67) rfl ((if0 _ _).trans (teq (by decide : (0 : Int32) = (0 : Int32))).1) (by decide) (by decide) k) ?_
        refine Go.step (T' := s₁) (f' := (mkF m 75 #[.val (.int p1), .val (.long ((p1.toInt64) - (48 : Int64))), .second, .val (.int (0 : Int32)), .val (.long (((p1 ||| (32 : Int32)).toInt64) - (97 : Int64))), .second, .val (.int (0 : Int32))] [(.int (0 : Int32))])) (fun _ k => XS.iconst X0.here hx rfl (hb hby d2_74) k) ?_
        refine goN X0 hx (t := .boolean) Bd.returns (by simp) Bd.notSynchronized (hb hby d2_75) ?_ (by decide) (by decide)
        show Q_rm2 Z p1 h0 n0 _ s₁.heap _
        rw [e0]
        exact ⟨by rw [own_hex0 (by have := own_or p1; simp only [Int32.lt_iff_toInt_lt, ← Int32.toInt_inj, Int32.reduceToInt, Int64.lt_iff_toInt_lt, ← Int64.toInt_inj, Int64.reduceToInt, own_48, own_97] at hc10 hc42 hc51 <;> omega)]; rfl, N0, rfl⟩
      · refine Go.step (T' := s₁) (f' := (mkF m 54 #[.val (.int p1), .val (.long ((p1.toInt64) - (48 : Int64))), .second, .val (.int (0 : Int32)), .val (.long (((p1 ||| (32 : Int32)).toInt64) - (97 : Int64))), .second, .unset] [])) (fun _ k => XS.ifNo X0.here hx rfl (hb hby d2_51) rfl ((if0 _ _).trans (flt (fun q => hc51 ((lw_gt _ _).mp q))).2.2.1) k) ?_
        refine Go.step (T' := s₁) (f' := (mkF m 55 #[.val (.int p1), .val (.long ((p1.toInt64) - (48 : Int64))), .second, .val (.int (0 : Int32)), .val (.long (((p1 ||| (32 : Int32)).toInt64) - (97 : Int64))), .second, .unset] [(.int (1 : Int32))])) (fun _ k => XS.iconst X0.here hx rfl (hb hby d2_54) k) ?_
        refine Go.step (T' := s₁) (f' := (mkF m 59 #[.val (.int p1), .val (.long ((p1.toInt64) - (48 : Int64))), .second, .val (.int (0 : Int32)), .val (.long (((p1 ||| (32 : Int32)).toInt64) - (97 : Int64))), .second, .unset] [(.int (1 : Int32))])) (fun _ k => XS.goto X0.here hx rfl (pc0 := 55) (pc' := 59) rfl (hb hby d2_55) (by decide) (by decide) k) ?_
        refine Go.step (T' := s₁) (f' := (mkF m 61 #[.val (.int p1), .val (.long ((p1.toInt64) - (48 : Int64))), .second, .val (.int (0 : Int32)), .val (.long (((p1 ||| (32 : Int32)).toInt64) - (97 : Int64))), .second, .val (.int (1 : Int32))] [])) (fun _ k => XS.istore X0.here hx rfl (hb hby d2_59) rfl (l' := #[.val (.int p1), .val (.long ((p1.toInt64) - (48 : Int64))), .second, .val (.int (0 : Int32)), .val (.long (((p1 ||| (32 : Int32)).toInt64) - (97 : Int64))), .second, .val (.int (1 : Int32))]) rfl k) ?_
        refine Go.step (T' := s₁) (f' := (mkF m 62 #[.val (.int p1), .val (.long ((p1.toInt64) - (48 : Int64))), .second, .val (.int (0 : Int32)), .val (.long (((p1 ||| (32 : Int32)).toInt64) - (97 : Int64))), .second, .val (.int (1 : Int32))] [(.int (0 : Int32))])) (fun _ k => XS.iloadN X0.here hx rfl (hb hby d2_61) rfl k) ?_
        refine Go.step (T' := s₁) (f' := (mkF m 65 #[.val (.int p1), .val (.long ((p1.toInt64) - (48 : Int64))), .second, .val (.int (0 : Int32)), .val (.long (((p1 ||| (32 : Int32)).toInt64) - (97 : Int64))), .second, .val (.int (1 : Int32))] [])) (fun _ k => XS.ifNo X0.here hx rfl (hb hby d2_62) rfl ((if0 _ _).trans (teq (by decide : (0 : Int32) = (0 : Int32))).2) k) ?_
        refine Go.step (T' := s₁) (f' := (mkF m 67 #[.val (.int p1), .val (.long ((p1.toInt64) - (48 : Int64))), .second, .val (.int (0 : Int32)), .val (.long (((p1 ||| (32 : Int32)).toInt64) - (97 : Int64))), .second, .val (.int (1 : Int32))] [(.int (1 : Int32))])) (fun _ k => XS.iload X0.here hx rfl (hb hby d2_65) rfl k) ?_
        refine Go.step (T' := s₁) (f' := (mkF m 70 #[.val (.int p1), .val (.long ((p1.toInt64) - (48 : Int64))), .second, .val (.int (0 : Int32)), .val (.long (((p1 ||| (32 : Int32)).toInt64) - (97 : Int64))), .second, .val (.int (1 : Int32))] [])) (fun _ k => XS.ifNo X0.here hx rfl (hb hby d2_67) rfl ((if0 _ _).trans (feq (by decide : ¬ ((1 : Int32) = (0 : Int32)))).1) k) ?_
        refine Go.step (T' := s₁) (f' := (mkF m 71 #[.val (.int p1), .val (.long ((p1.toInt64) - (48 : Int64))), .second, .val (.int (0 : Int32)), .val (.long (((p1 ||| (32 : Int32)).toInt64) - (97 : Int64))), .second, .val (.int (1 : Int32))] [(.int (1 : Int32))])) (fun _ k => XS.iconst X0.here hx rfl (hb hby d2_70) k) ?_
        refine Go.step (T' := s₁) (f' := (mkF m 75 #[.val (.int p1), .val (.long ((p1.toInt64) - (48 : Int64))), .second, .val (.int (0 : Int32)), .val (.long (((p1 ||| (32 : Int32)).toInt64) - (97 : Int64))), .second, .val (.int (1 : Int32))] [(.int (1 : Int32))])) (fun _ k => XS.goto X0.here hx rfl (pc0 := 71) (pc' := 75) rfl (hb hby d2_71) (by decide) (by decide) k) ?_
        refine goN X0 hx (t := .boolean) Bd.returns (by simp) Bd.notSynchronized (hb hby d2_75) ?_ (by decide) (by decide)
        show Q_rm2 Z p1 h0 n0 _ s₁.heap _
        rw [e0]
        exact ⟨by rw [own_hex1 (by have := own_or p1; simp only [Int32.lt_iff_toInt_lt, ← Int32.toInt_inj, Int32.reduceToInt, Int64.lt_iff_toInt_lt, ← Int64.toInt_inj, Int64.reduceToInt, own_48, own_97] at hc10 hc42 hc51 <;> omega)]; rfl, N0, rfl⟩
  · refine Go.step (T' := s₁) (f' := (mkF m 13 #[.val (.int p1), .val (.long ((p1.toInt64) - (48 : Int64))), .second, .unset, .unset, .unset, .unset] [])) (fun _ k => XS.ifNo X0.here hx rfl (hb hby d2_10) rfl ((if0 _ _).trans (flt (fun q => hc10 ((lw_lt _ _).mp q))).1) k) ?_
    refine Go.step (T' := s₁) (f' := (mkF m 14 #[.val (.int p1), .val (.long ((p1.toInt64) - (48 : Int64))), .second, .unset, .unset, .unset, .unset] [(.long ((p1.toInt64) - (48 : Int64)))])) (fun _ k => XS.lloadN X0.here hx rfl (hb hby d2_13) rfl k) ?_
    refine Go.step (T' := s₁) (f' := (mkF m 17 #[.val (.int p1), .val (.long ((p1.toInt64) - (48 : Int64))), .second, .unset, .unset, .unset, .unset] [(.long (9 : Int64)), (.long ((p1.toInt64) - (48 : Int64)))])) (fun _ k => X0.ldc2Long hx hown (mvT hZ (hw _ (List.mem_of_getElem? (i := 10) rfl))) (g := (mkF m 14 #[.val (.int p1), .val (.long ((p1.toInt64) - (48 : Int64))), .second, .unset, .unset, .unset, .unset] [(.long ((p1.toInt64) - (48 : Int64)))])) rfl (hb hby d2_14) _ k) ?_
    refine Go.step (T' := s₁) (f' := (mkF m 18 #[.val (.int p1), .val (.long ((p1.toInt64) - (48 : Int64))), .second, .unset, .unset, .unset, .unset] [(.int (lcmpW ((p1.toInt64) - (48 : Int64)) (9 : Int64)))])) (fun _ k => XS.lcmp X0.here hx rfl (hb hby d2_17) rfl k) ?_
    by_cases hc18 : (9 : Int64) < ((p1.toInt64) - (48 : Int64))
    · refine Go.step (T' := s₁) (f' := (mkF m 25 #[.val (.int p1), .val (.long ((p1.toInt64) - (48 : Int64))), .second, .unset, .unset, .unset, .unset] [])) (fun _ k => XS.ifYes X0.here hx rfl (pc0 := 18) (pc' := 25) rfl (hb hby d2_18) rfl ((if0 _ _).trans (tlt ((lw_gt _ _).mpr hc18)).2.2.1) (by decide) (by decide) k) ?_
      refine Go.step (T' := s₁) (f' := (mkF m 26 #[.val (.int p1), .val (.long ((p1.toInt64) - (48 : Int64))), .second, .unset, .unset, .unset, .unset] [(.int (0 : Int32))])) (fun _ k => XS.iconst X0.here hx rfl (hb hby d2_25) k) ?_
      refine Go.step (T' := s₁) (f' := (mkF m 27 #[.val (.int p1), .val (.long ((p1.toInt64) - (48 : Int64))), .second, .val (.int (0 : Int32)), .unset, .unset, .unset] [])) (fun _ k => XS.istoreN X0.here hx rfl (hb hby d2_26) rfl (l' := #[.val (.int p1), .val (.long ((p1.toInt64) - (48 : Int64))), .second, .val (.int (0 : Int32)), .unset, .unset, .unset]) rfl k) ?_
      refine Go.step (T' := s₁) (f' := (mkF m 28 #[.val (.int p1), .val (.long ((p1.toInt64) - (48 : Int64))), .second, .val (.int (0 : Int32)), .unset, .unset, .unset] [(.int p1)])) (fun _ k => XS.iloadN X0.here hx rfl (hb hby d2_27) rfl k) ?_
      refine Go.step (T' := s₁) (f' := (mkF m 30 #[.val (.int p1), .val (.long ((p1.toInt64) - (48 : Int64))), .second, .val (.int (0 : Int32)), .unset, .unset, .unset] [(.int (32 : Int32)), (.int p1)])) (fun _ k => XS.bipush X0.here hx rfl (hb hby d2_28) k) ?_
      refine Go.step (T' := s₁) (f' := (mkF m 31 #[.val (.int p1), .val (.long ((p1.toInt64) - (48 : Int64))), .second, .val (.int (0 : Int32)), .unset, .unset, .unset] [(.int (p1 ||| (32 : Int32)))])) (fun _ k => XS.ior X0.here hx rfl (hb hby d2_30) rfl k) ?_
      refine Go.step (T' := s₁) (f' := (mkF m 32 #[.val (.int p1), .val (.long ((p1.toInt64) - (48 : Int64))), .second, .val (.int (0 : Int32)), .unset, .unset, .unset] [(.long ((p1 ||| (32 : Int32)).toInt64))])) (fun _ k => XS.i2l X0.here hx rfl (hb hby d2_31) rfl k) ?_
      refine Go.step (T' := s₁) (f' := (mkF m 35 #[.val (.int p1), .val (.long ((p1.toInt64) - (48 : Int64))), .second, .val (.int (0 : Int32)), .unset, .unset, .unset] [(.long (97 : Int64)), (.long ((p1 ||| (32 : Int32)).toInt64))])) (fun _ k => X0.ldc2Long hx hown (mvT hZ (hw _ (List.mem_of_getElem? (i := 9) rfl))) (g := (mkF m 32 #[.val (.int p1), .val (.long ((p1.toInt64) - (48 : Int64))), .second, .val (.int (0 : Int32)), .unset, .unset, .unset] [(.long ((p1 ||| (32 : Int32)).toInt64))])) rfl (hb hby d2_32) _ k) ?_
      refine Go.step (T' := s₁) (f' := (mkF m 36 #[.val (.int p1), .val (.long ((p1.toInt64) - (48 : Int64))), .second, .val (.int (0 : Int32)), .unset, .unset, .unset] [(.long (((p1 ||| (32 : Int32)).toInt64) - (97 : Int64)))])) (fun _ k => XS.lsub X0.here hx rfl (hb hby d2_35) rfl k) ?_
      refine Go.step (T' := s₁) (f' := (mkF m 38 #[.val (.int p1), .val (.long ((p1.toInt64) - (48 : Int64))), .second, .val (.int (0 : Int32)), .val (.long (((p1 ||| (32 : Int32)).toInt64) - (97 : Int64))), .second, .unset] [])) (fun _ k => XS.lstore X0.here hx rfl (hb hby d2_36) rfl (l' := #[.val (.int p1), .val (.long ((p1.toInt64) - (48 : Int64))), .second, .val (.int (0 : Int32)), .val (.long (((p1 ||| (32 : Int32)).toInt64) - (97 : Int64))), .second, .unset]) rfl k) ?_
      refine Go.step (T' := s₁) (f' := (mkF m 40 #[.val (.int p1), .val (.long ((p1.toInt64) - (48 : Int64))), .second, .val (.int (0 : Int32)), .val (.long (((p1 ||| (32 : Int32)).toInt64) - (97 : Int64))), .second, .unset] [(.long (((p1 ||| (32 : Int32)).toInt64) - (97 : Int64)))])) (fun _ k => XS.lload X0.here hx rfl (hb hby d2_38) rfl k) ?_
      refine Go.step (T' := s₁) (f' := (mkF m 41 #[.val (.int p1), .val (.long ((p1.toInt64) - (48 : Int64))), .second, .val (.int (0 : Int32)), .val (.long (((p1 ||| (32 : Int32)).toInt64) - (97 : Int64))), .second, .unset] [(.long (0 : Int64)), (.long (((p1 ||| (32 : Int32)).toInt64) - (97 : Int64)))])) (fun _ k => XS.lconst X0.here hx rfl (hb hby d2_40) k) ?_
      refine Go.step (T' := s₁) (f' := (mkF m 42 #[.val (.int p1), .val (.long ((p1.toInt64) - (48 : Int64))), .second, .val (.int (0 : Int32)), .val (.long (((p1 ||| (32 : Int32)).toInt64) - (97 : Int64))), .second, .unset] [(.int (lcmpW (((p1 ||| (32 : Int32)).toInt64) - (97 : Int64)) (0 : Int64)))])) (fun _ k => XS.lcmp X0.here hx rfl (hb hby d2_41) rfl k) ?_
      by_cases hc42 : (((p1 ||| (32 : Int32)).toInt64) - (97 : Int64)) < (0 : Int64)
      · refine Go.step (T' := s₁) (f' := (mkF m 58 #[.val (.int p1), .val (.long ((p1.toInt64) - (48 : Int64))), .second, .val (.int (0 : Int32)), .val (.long (((p1 ||| (32 : Int32)).toInt64) - (97 : Int64))), .second, .unset] [])) (fun _ k => XS.ifYes X0.here hx rfl (pc0 := 42) (pc' := 58) rfl (hb hby d2_42) rfl ((if0 _ _).trans (tlt ((lw_lt _ _).mpr hc42)).1) (by decide) (by decide) k) ?_
        refine Go.step (T' := s₁) (f' := (mkF m 59 #[.val (.int p1), .val (.long ((p1.toInt64) - (48 : Int64))), .second, .val (.int (0 : Int32)), .val (.long (((p1 ||| (32 : Int32)).toInt64) - (97 : Int64))), .second, .unset] [(.int (0 : Int32))])) (fun _ k => XS.iconst X0.here hx rfl (hb hby d2_58) k) ?_
        refine Go.step (T' := s₁) (f' := (mkF m 61 #[.val (.int p1), .val (.long ((p1.toInt64) - (48 : Int64))), .second, .val (.int (0 : Int32)), .val (.long (((p1 ||| (32 : Int32)).toInt64) - (97 : Int64))), .second, .val (.int (0 : Int32))] [])) (fun _ k => XS.istore X0.here hx rfl (hb hby d2_59) rfl (l' := #[.val (.int p1), .val (.long ((p1.toInt64) - (48 : Int64))), .second, .val (.int (0 : Int32)), .val (.long (((p1 ||| (32 : Int32)).toInt64) - (97 : Int64))), .second, .val (.int (0 : Int32))]) rfl k) ?_
        refine Go.step (T' := s₁) (f' := (mkF m 62 #[.val (.int p1), .val (.long ((p1.toInt64) - (48 : Int64))), .second, .val (.int (0 : Int32)), .val (.long (((p1 ||| (32 : Int32)).toInt64) - (97 : Int64))), .second, .val (.int (0 : Int32))] [(.int (0 : Int32))])) (fun _ k => XS.iloadN X0.here hx rfl (hb hby d2_61) rfl k) ?_
        refine Go.step (T' := s₁) (f' := (mkF m 65 #[.val (.int p1), .val (.long ((p1.toInt64) - (48 : Int64))), .second, .val (.int (0 : Int32)), .val (.long (((p1 ||| (32 : Int32)).toInt64) - (97 : Int64))), .second, .val (.int (0 : Int32))] [])) (fun _ k => XS.ifNo X0.here hx rfl (hb hby d2_62) rfl ((if0 _ _).trans (teq (by decide : (0 : Int32) = (0 : Int32))).2) k) ?_
        refine Go.step (T' := s₁) (f' := (mkF m 67 #[.val (.int p1), .val (.long ((p1.toInt64) - (48 : Int64))), .second, .val (.int (0 : Int32)), .val (.long (((p1 ||| (32 : Int32)).toInt64) - (97 : Int64))), .second, .val (.int (0 : Int32))] [(.int (0 : Int32))])) (fun _ k => XS.iload X0.here hx rfl (hb hby d2_65) rfl k) ?_
        refine Go.step (T' := s₁) (f' := (mkF m 74 #[.val (.int p1), .val (.long ((p1.toInt64) - (48 : Int64))), .second, .val (.int (0 : Int32)), .val (.long (((p1 ||| (32 : Int32)).toInt64) - (97 : Int64))), .second, .val (.int (0 : Int32))] [])) (fun _ k => XS.ifYes X0.here hx rfl (pc0 := 67) (pc' := 74) rfl (hb hby d2_67) rfl ((if0 _ _).trans (teq (by decide : (0 : Int32) = (0 : Int32))).1) (by decide) (by decide) k) ?_
        refine Go.step (T' := s₁) (f' := (mkF m 75 #[.val (.int p1), .val (.long ((p1.toInt64) - (48 : Int64))), .second, .val (.int (0 : Int32)), .val (.long (((p1 ||| (32 : Int32)).toInt64) - (97 : Int64))), .second, .val (.int (0 : Int32))] [(.int (0 : Int32))])) (fun _ k => XS.iconst X0.here hx rfl (hb hby d2_74) k) ?_
        refine goN X0 hx (t := .boolean) Bd.returns (by simp) Bd.notSynchronized (hb hby d2_75) ?_ (by decide) (by decide)
        show Q_rm2 Z p1 h0 n0 _ s₁.heap _
        rw [e0]
        exact ⟨by rw [own_hex0 (by have := own_or p1; simp only [Int32.lt_iff_toInt_lt, ← Int32.toInt_inj, Int32.reduceToInt, Int64.lt_iff_toInt_lt, ← Int64.toInt_inj, Int64.reduceToInt, own_48, own_97] at hc10 hc18 hc42 <;> omega)]; rfl, N0, rfl⟩
      · refine Go.step (T' := s₁) (f' := (mkF m 45 #[.val (.int p1), .val (.long ((p1.toInt64) - (48 : Int64))), .second, .val (.int (0 : Int32)), .val (.long (((p1 ||| (32 : Int32)).toInt64) - (97 : Int64))), .second, .unset] [])) (fun _ k => XS.ifNo X0.here hx rfl (hb hby d2_42) rfl ((if0 _ _).trans (flt (fun q => hc42 ((lw_lt _ _).mp q))).1) k) ?_
        refine Go.step (T' := s₁) (f' := (mkF m 47 #[.val (.int p1), .val (.long ((p1.toInt64) - (48 : Int64))), .second, .val (.int (0 : Int32)), .val (.long (((p1 ||| (32 : Int32)).toInt64) - (97 : Int64))), .second, .unset] [(.long (((p1 ||| (32 : Int32)).toInt64) - (97 : Int64)))])) (fun _ k => XS.lload X0.here hx rfl (hb hby d2_45) rfl k) ?_
        refine Go.step (T' := s₁) (f' := (mkF m 50 #[.val (.int p1), .val (.long ((p1.toInt64) - (48 : Int64))), .second, .val (.int (0 : Int32)), .val (.long (((p1 ||| (32 : Int32)).toInt64) - (97 : Int64))), .second, .unset] [(.long (5 : Int64)), (.long (((p1 ||| (32 : Int32)).toInt64) - (97 : Int64)))])) (fun _ k => X0.ldc2Long hx hown (mvT hZ (hw _ (List.mem_of_getElem? (i := 11) rfl))) (g := (mkF m 47 #[.val (.int p1), .val (.long ((p1.toInt64) - (48 : Int64))), .second, .val (.int (0 : Int32)), .val (.long (((p1 ||| (32 : Int32)).toInt64) - (97 : Int64))), .second, .unset] [(.long (((p1 ||| (32 : Int32)).toInt64) - (97 : Int64)))])) rfl (hb hby d2_47) _ k) ?_
        refine Go.step (T' := s₁) (f' := (mkF m 51 #[.val (.int p1), .val (.long ((p1.toInt64) - (48 : Int64))), .second, .val (.int (0 : Int32)), .val (.long (((p1 ||| (32 : Int32)).toInt64) - (97 : Int64))), .second, .unset] [(.int (lcmpW (((p1 ||| (32 : Int32)).toInt64) - (97 : Int64)) (5 : Int64)))])) (fun _ k => XS.lcmp X0.here hx rfl (hb hby d2_50) rfl k) ?_
        by_cases hc51 : (5 : Int64) < (((p1 ||| (32 : Int32)).toInt64) - (97 : Int64))
        · refine Go.step (T' := s₁) (f' := (mkF m 58 #[.val (.int p1), .val (.long ((p1.toInt64) - (48 : Int64))), .second, .val (.int (0 : Int32)), .val (.long (((p1 ||| (32 : Int32)).toInt64) - (97 : Int64))), .second, .unset] [])) (fun _ k => XS.ifYes X0.here hx rfl (pc0 := 51) (pc' := 58) rfl (hb hby d2_51) rfl ((if0 _ _).trans (tlt ((lw_gt _ _).mpr hc51)).2.2.1) (by decide) (by decide) k) ?_
          refine Go.step (T' := s₁) (f' := (mkF m 59 #[.val (.int p1), .val (.long ((p1.toInt64) - (48 : Int64))), .second, .val (.int (0 : Int32)), .val (.long (((p1 ||| (32 : Int32)).toInt64) - (97 : Int64))), .second, .unset] [(.int (0 : Int32))])) (fun _ k => XS.iconst X0.here hx rfl (hb hby d2_58) k) ?_
          refine Go.step (T' := s₁) (f' := (mkF m 61 #[.val (.int p1), .val (.long ((p1.toInt64) - (48 : Int64))), .second, .val (.int (0 : Int32)), .val (.long (((p1 ||| (32 : Int32)).toInt64) - (97 : Int64))), .second, .val (.int (0 : Int32))] [])) (fun _ k => XS.istore X0.here hx rfl (hb hby d2_59) rfl (l' := #[.val (.int p1), .val (.long ((p1.toInt64) - (48 : Int64))), .second, .val (.int (0 : Int32)), .val (.long (((p1 ||| (32 : Int32)).toInt64) - (97 : Int64))), .second, .val (.int (0 : Int32))]) rfl k) ?_
          refine Go.step (T' := s₁) (f' := (mkF m 62 #[.val (.int p1), .val (.long ((p1.toInt64) - (48 : Int64))), .second, .val (.int (0 : Int32)), .val (.long (((p1 ||| (32 : Int32)).toInt64) - (97 : Int64))), .second, .val (.int (0 : Int32))] [(.int (0 : Int32))])) (fun _ k => XS.iloadN X0.here hx rfl (hb hby d2_61) rfl k) ?_
          refine Go.step (T' := s₁) (f' := (mkF m 65 #[.val (.int p1), .val (.long ((p1.toInt64) - (48 : Int64))), .second, .val (.int (0 : Int32)), .val (.long (((p1 ||| (32 : Int32)).toInt64) - (97 : Int64))), .second, .val (.int (0 : Int32))] [])) (fun _ k => XS.ifNo X0.here hx rfl (hb hby d2_62) rfl ((if0 _ _).trans (teq (by decide : (0 : Int32) = (0 : Int32))).2) k) ?_
          refine Go.step (T' := s₁) (f' := (mkF m 67 #[.val (.int p1), .val (.long ((p1.toInt64) - (48 : Int64))), .second, .val (.int (0 : Int32)), .val (.long (((p1 ||| (32 : Int32)).toInt64) - (97 : Int64))), .second, .val (.int (0 : Int32))] [(.int (0 : Int32))])) (fun _ k => XS.iload X0.here hx rfl (hb hby d2_65) rfl k) ?_
          refine Go.step (T' := s₁) (f' := (mkF m 74 #[.val (.int p1), .val (.long ((p1.toInt64) - (48 : Int64))), .second, .val (.int (0 : Int32)), .val (.long (((p1 ||| (32 : Int32)).toInt64) - (97 : Int64))), .second, .val (.int (0 : Int32))] [])) (fun _ k => XS.ifYes X0.here hx rfl (pc0 := 67) (pc' := 74) rfl (hb hby d2_67) rfl ((if0 _ _).trans (teq (by decide : (0 : Int32) = (0 : Int32))).1) (by decide) (by decide) k) ?_
          refine Go.step (T' := s₁) (f' := (mkF m 75 #[.val (.int p1), .val (.long ((p1.toInt64) - (48 : Int64))), .second, .val (.int (0 : Int32)), .val (.long (((p1 ||| (32 : Int32)).toInt64) - (97 : Int64))), .second, .val (.int (0 : Int32))] [(.int (0 : Int32))])) (fun _ k => XS.iconst X0.here hx rfl (hb hby d2_74) k) ?_
          refine goN X0 hx (t := .boolean) Bd.returns (by simp) Bd.notSynchronized (hb hby d2_75) ?_ (by decide) (by decide)
          show Q_rm2 Z p1 h0 n0 _ s₁.heap _
          rw [e0]
          exact ⟨by rw [own_hex0 (by have := own_or p1; simp only [Int32.lt_iff_toInt_lt, ← Int32.toInt_inj, Int32.reduceToInt, Int64.lt_iff_toInt_lt, ← Int64.toInt_inj, Int64.reduceToInt, own_48, own_97] at hc10 hc18 hc42 hc51 <;> omega)]; rfl, N0, rfl⟩
        · refine Go.step (T' := s₁) (f' := (mkF m 54 #[.val (.int p1), .val (.long ((p1.toInt64) - (48 : Int64))), .second, .val (.int (0 : Int32)), .val (.long (((p1 ||| (32 : Int32)).toInt64) - (97 : Int64))), .second, .unset] [])) (fun _ k => XS.ifNo X0.here hx rfl (hb hby d2_51) rfl ((if0 _ _).trans (flt (fun q => hc51 ((lw_gt _ _).mp q))).2.2.1) k) ?_
          refine Go.step (T' := s₁) (f' := (mkF m 55 #[.val (.int p1), .val (.long ((p1.toInt64) - (48 : Int64))), .second, .val (.int (0 : Int32)), .val (.long (((p1 ||| (32 : Int32)).toInt64) - (97 : Int64))), .second, .unset] [(.int (1 : Int32))])) (fun _ k => XS.iconst X0.here hx rfl (hb hby d2_54) k) ?_
          refine Go.step (T' := s₁) (f' := (mkF m 59 #[.val (.int p1), .val (.long ((p1.toInt64) - (48 : Int64))), .second, .val (.int (0 : Int32)), .val (.long (((p1 ||| (32 : Int32)).toInt64) - (97 : Int64))), .second, .unset] [(.int (1 : Int32))])) (fun _ k => XS.goto X0.here hx rfl (pc0 := 55) (pc' := 59) rfl (hb hby d2_55) (by decide) (by decide) k) ?_
          refine Go.step (T' := s₁) (f' := (mkF m 61 #[.val (.int p1), .val (.long ((p1.toInt64) - (48 : Int64))), .second, .val (.int (0 : Int32)), .val (.long (((p1 ||| (32 : Int32)).toInt64) - (97 : Int64))), .second, .val (.int (1 : Int32))] [])) (fun _ k => XS.istore X0.here hx rfl (hb hby d2_59) rfl (l' := #[.val (.int p1), .val (.long ((p1.toInt64) - (48 : Int64))), .second, .val (.int (0 : Int32)), .val (.long (((p1 ||| (32 : Int32)).toInt64) - (97 : Int64))), .second, .val (.int (1 : Int32))]) rfl k) ?_
          refine Go.step (T' := s₁) (f' := (mkF m 62 #[.val (.int p1), .val (.long ((p1.toInt64) - (48 : Int64))), .second, .val (.int (0 : Int32)), .val (.long (((p1 ||| (32 : Int32)).toInt64) - (97 : Int64))), .second, .val (.int (1 : Int32))] [(.int (0 : Int32))])) (fun _ k => XS.iloadN X0.here hx rfl (hb hby d2_61) rfl k) ?_
          refine Go.step (T' := s₁) (f' := (mkF m 65 #[.val (.int p1), .val (.long ((p1.toInt64) - (48 : Int64))), .second, .val (.int (0 : Int32)), .val (.long (((p1 ||| (32 : Int32)).toInt64) - (97 : Int64))), .second, .val (.int (1 : Int32))] [])) (fun _ k => XS.ifNo X0.here hx rfl (hb hby d2_62) rfl ((if0 _ _).trans (teq (by decide : (0 : Int32) = (0 : Int32))).2) k) ?_
          refine Go.step (T' := s₁) (f' := (mkF m 67 #[.val (.int p1), .val (.long ((p1.toInt64) - (48 : Int64))), .second, .val (.int (0 : Int32)), .val (.long (((p1 ||| (32 : Int32)).toInt64) - (97 : Int64))), .second, .val (.int (1 : Int32))] [(.int (1 : Int32))])) (fun _ k => XS.iload X0.here hx rfl (hb hby d2_65) rfl k) ?_
          refine Go.step (T' := s₁) (f' := (mkF m 70 #[.val (.int p1), .val (.long ((p1.toInt64) - (48 : Int64))), .second, .val (.int (0 : Int32)), .val (.long (((p1 ||| (32 : Int32)).toInt64) - (97 : Int64))), .second, .val (.int (1 : Int32))] [])) (fun _ k => XS.ifNo X0.here hx rfl (hb hby d2_67) rfl ((if0 _ _).trans (feq (by decide : ¬ ((1 : Int32) = (0 : Int32)))).1) k) ?_
          refine Go.step (T' := s₁) (f' := (mkF m 71 #[.val (.int p1), .val (.long ((p1.toInt64) - (48 : Int64))), .second, .val (.int (0 : Int32)), .val (.long (((p1 ||| (32 : Int32)).toInt64) - (97 : Int64))), .second, .val (.int (1 : Int32))] [(.int (1 : Int32))])) (fun _ k => XS.iconst X0.here hx rfl (hb hby d2_70) k) ?_
          refine Go.step (T' := s₁) (f' := (mkF m 75 #[.val (.int p1), .val (.long ((p1.toInt64) - (48 : Int64))), .second, .val (.int (0 : Int32)), .val (.long (((p1 ||| (32 : Int32)).toInt64) - (97 : Int64))), .second, .val (.int (1 : Int32))] [(.int (1 : Int32))])) (fun _ k => XS.goto X0.here hx rfl (pc0 := 71) (pc' := 75) rfl (hb hby d2_71) (by decide) (by decide) k) ?_
          refine goN X0 hx (t := .boolean) Bd.returns (by simp) Bd.notSynchronized (hb hby d2_75) ?_ (by decide) (by decide)
          show Q_rm2 Z p1 h0 n0 _ s₁.heap _
          rw [e0]
          exact ⟨by rw [own_hex1 (by have := own_or p1; simp only [Int32.lt_iff_toInt_lt, ← Int32.toInt_inj, Int32.reduceToInt, Int64.lt_iff_toInt_lt, ← Int64.toInt_inj, Int64.reduceToInt, own_48, own_97] at hc10 hc18 hc42 hc51 <;> omega)]; rfl, N0, rfl⟩
    · refine Go.step (T' := s₁) (f' := (mkF m 21 #[.val (.int p1), .val (.long ((p1.toInt64) - (48 : Int64))), .second, .unset, .unset, .unset, .unset] [])) (fun _ k => XS.ifNo X0.here hx rfl (hb hby d2_18) rfl ((if0 _ _).trans (flt (fun q => hc18 ((lw_gt _ _).mp q))).2.2.1) k) ?_
      refine Go.step (T' := s₁) (f' := (mkF m 22 #[.val (.int p1), .val (.long ((p1.toInt64) - (48 : Int64))), .second, .unset, .unset, .unset, .unset] [(.int (1 : Int32))])) (fun _ k => XS.iconst X0.here hx rfl (hb hby d2_21) k) ?_
      refine Go.step (T' := s₁) (f' := (mkF m 26 #[.val (.int p1), .val (.long ((p1.toInt64) - (48 : Int64))), .second, .unset, .unset, .unset, .unset] [(.int (1 : Int32))])) (fun _ k => XS.goto X0.here hx rfl (pc0 := 22) (pc' := 26) rfl (hb hby d2_22) (by decide) (by decide) k) ?_
      refine Go.step (T' := s₁) (f' := (mkF m 27 #[.val (.int p1), .val (.long ((p1.toInt64) - (48 : Int64))), .second, .val (.int (1 : Int32)), .unset, .unset, .unset] [])) (fun _ k => XS.istoreN X0.here hx rfl (hb hby d2_26) rfl (l' := #[.val (.int p1), .val (.long ((p1.toInt64) - (48 : Int64))), .second, .val (.int (1 : Int32)), .unset, .unset, .unset]) rfl k) ?_
      refine Go.step (T' := s₁) (f' := (mkF m 28 #[.val (.int p1), .val (.long ((p1.toInt64) - (48 : Int64))), .second, .val (.int (1 : Int32)), .unset, .unset, .unset] [(.int p1)])) (fun _ k => XS.iloadN X0.here hx rfl (hb hby d2_27) rfl k) ?_
      refine Go.step (T' := s₁) (f' := (mkF m 30 #[.val (.int p1), .val (.long ((p1.toInt64) - (48 : Int64))), .second, .val (.int (1 : Int32)), .unset, .unset, .unset] [(.int (32 : Int32)), (.int p1)])) (fun _ k => XS.bipush X0.here hx rfl (hb hby d2_28) k) ?_
      refine Go.step (T' := s₁) (f' := (mkF m 31 #[.val (.int p1), .val (.long ((p1.toInt64) - (48 : Int64))), .second, .val (.int (1 : Int32)), .unset, .unset, .unset] [(.int (p1 ||| (32 : Int32)))])) (fun _ k => XS.ior X0.here hx rfl (hb hby d2_30) rfl k) ?_
      refine Go.step (T' := s₁) (f' := (mkF m 32 #[.val (.int p1), .val (.long ((p1.toInt64) - (48 : Int64))), .second, .val (.int (1 : Int32)), .unset, .unset, .unset] [(.long ((p1 ||| (32 : Int32)).toInt64))])) (fun _ k => XS.i2l X0.here hx rfl (hb hby d2_31) rfl k) ?_
      refine Go.step (T' := s₁) (f' := (mkF m 35 #[.val (.int p1), .val (.long ((p1.toInt64) - (48 : Int64))), .second, .val (.int (1 : Int32)), .unset, .unset, .unset] [(.long (97 : Int64)), (.long ((p1 ||| (32 : Int32)).toInt64))])) (fun _ k => X0.ldc2Long hx hown (mvT hZ (hw _ (List.mem_of_getElem? (i := 9) rfl))) (g := (mkF m 32 #[.val (.int p1), .val (.long ((p1.toInt64) - (48 : Int64))), .second, .val (.int (1 : Int32)), .unset, .unset, .unset] [(.long ((p1 ||| (32 : Int32)).toInt64))])) rfl (hb hby d2_32) _ k) ?_
      refine Go.step (T' := s₁) (f' := (mkF m 36 #[.val (.int p1), .val (.long ((p1.toInt64) - (48 : Int64))), .second, .val (.int (1 : Int32)), .unset, .unset, .unset] [(.long (((p1 ||| (32 : Int32)).toInt64) - (97 : Int64)))])) (fun _ k => XS.lsub X0.here hx rfl (hb hby d2_35) rfl k) ?_
      refine Go.step (T' := s₁) (f' := (mkF m 38 #[.val (.int p1), .val (.long ((p1.toInt64) - (48 : Int64))), .second, .val (.int (1 : Int32)), .val (.long (((p1 ||| (32 : Int32)).toInt64) - (97 : Int64))), .second, .unset] [])) (fun _ k => XS.lstore X0.here hx rfl (hb hby d2_36) rfl (l' := #[.val (.int p1), .val (.long ((p1.toInt64) - (48 : Int64))), .second, .val (.int (1 : Int32)), .val (.long (((p1 ||| (32 : Int32)).toInt64) - (97 : Int64))), .second, .unset]) rfl k) ?_
      refine Go.step (T' := s₁) (f' := (mkF m 40 #[.val (.int p1), .val (.long ((p1.toInt64) - (48 : Int64))), .second, .val (.int (1 : Int32)), .val (.long (((p1 ||| (32 : Int32)).toInt64) - (97 : Int64))), .second, .unset] [(.long (((p1 ||| (32 : Int32)).toInt64) - (97 : Int64)))])) (fun _ k => XS.lload X0.here hx rfl (hb hby d2_38) rfl k) ?_
      refine Go.step (T' := s₁) (f' := (mkF m 41 #[.val (.int p1), .val (.long ((p1.toInt64) - (48 : Int64))), .second, .val (.int (1 : Int32)), .val (.long (((p1 ||| (32 : Int32)).toInt64) - (97 : Int64))), .second, .unset] [(.long (0 : Int64)), (.long (((p1 ||| (32 : Int32)).toInt64) - (97 : Int64)))])) (fun _ k => XS.lconst X0.here hx rfl (hb hby d2_40) k) ?_
      refine Go.step (T' := s₁) (f' := (mkF m 42 #[.val (.int p1), .val (.long ((p1.toInt64) - (48 : Int64))), .second, .val (.int (1 : Int32)), .val (.long (((p1 ||| (32 : Int32)).toInt64) - (97 : Int64))), .second, .unset] [(.int (lcmpW (((p1 ||| (32 : Int32)).toInt64) - (97 : Int64)) (0 : Int64)))])) (fun _ k => XS.lcmp X0.here hx rfl (hb hby d2_41) rfl k) ?_
      by_cases hc42 : (((p1 ||| (32 : Int32)).toInt64) - (97 : Int64)) < (0 : Int64)
      · refine Go.step (T' := s₁) (f' := (mkF m 58 #[.val (.int p1), .val (.long ((p1.toInt64) - (48 : Int64))), .second, .val (.int (1 : Int32)), .val (.long (((p1 ||| (32 : Int32)).toInt64) - (97 : Int64))), .second, .unset] [])) (fun _ k => XS.ifYes X0.here hx rfl (pc0 := 42) (pc' := 58) rfl (hb hby d2_42) rfl ((if0 _ _).trans (tlt ((lw_lt _ _).mpr hc42)).1) (by decide) (by decide) k) ?_
        refine Go.step (T' := s₁) (f' := (mkF m 59 #[.val (.int p1), .val (.long ((p1.toInt64) - (48 : Int64))), .second, .val (.int (1 : Int32)), .val (.long (((p1 ||| (32 : Int32)).toInt64) - (97 : Int64))), .second, .unset] [(.int (0 : Int32))])) (fun _ k => XS.iconst X0.here hx rfl (hb hby d2_58) k) ?_
        refine Go.step (T' := s₁) (f' := (mkF m 61 #[.val (.int p1), .val (.long ((p1.toInt64) - (48 : Int64))), .second, .val (.int (1 : Int32)), .val (.long (((p1 ||| (32 : Int32)).toInt64) - (97 : Int64))), .second, .val (.int (0 : Int32))] [])) (fun _ k => XS.istore X0.here hx rfl (hb hby d2_59) rfl (l' := #[.val (.int p1), .val (.long ((p1.toInt64) - (48 : Int64))), .second, .val (.int (1 : Int32)), .val (.long (((p1 ||| (32 : Int32)).toInt64) - (97 : Int64))), .second, .val (.int (0 : Int32))]) rfl k) ?_
        refine Go.step (T' := s₁) (f' := (mkF m 62 #[.val (.int p1), .val (.long ((p1.toInt64) - (48 : Int64))), .second, .val (.int (1 : Int32)), .val (.long (((p1 ||| (32 : Int32)).toInt64) - (97 : Int64))), .second, .val (.int (0 : Int32))] [(.int (1 : Int32))])) (fun _ k => XS.iloadN X0.here hx rfl (hb hby d2_61) rfl k) ?_
        refine Go.step (T' := s₁) (f' := (mkF m 70 #[.val (.int p1), .val (.long ((p1.toInt64) - (48 : Int64))), .second, .val (.int (1 : Int32)), .val (.long (((p1 ||| (32 : Int32)).toInt64) - (97 : Int64))), .second, .val (.int (0 : Int32))] [])) (fun _ k => XS.ifYes X0.here hx rfl (pc0 := 62) (pc' := 70) rfl (hb hby d2_62) rfl ((if0 _ _).trans (feq (by decide : ¬ ((1 : Int32) = (0 : Int32)))).2) (by decide) (by decide) k) ?_
        refine Go.step (T' := s₁) (f' := (mkF m 71 #[.val (.int p1), .val (.long ((p1.toInt64) - (48 : Int64))), .second, .val (.int (1 : Int32)), .val (.long (((p1 ||| (32 : Int32)).toInt64) - (97 : Int64))), .second, .val (.int (0 : Int32))] [(.int (1 : Int32))])) (fun _ k => XS.iconst X0.here hx rfl (hb hby d2_70) k) ?_
        refine Go.step (T' := s₁) (f' := (mkF m 75 #[.val (.int p1), .val (.long ((p1.toInt64) - (48 : Int64))), .second, .val (.int (1 : Int32)), .val (.long (((p1 ||| (32 : Int32)).toInt64) - (97 : Int64))), .second, .val (.int (0 : Int32))] [(.int (1 : Int32))])) (fun _ k => XS.goto X0.here hx rfl (pc0 := 71) (pc' := 75) rfl (hb hby d2_71) (by decide) (by decide) k) ?_
        refine goN X0 hx (t := .boolean) Bd.returns (by simp) Bd.notSynchronized (hb hby d2_75) ?_ (by decide) (by decide)
        show Q_rm2 Z p1 h0 n0 _ s₁.heap _
        rw [e0]
        exact ⟨by rw [own_hex1 (by have := own_or p1; simp only [Int32.lt_iff_toInt_lt, ← Int32.toInt_inj, Int32.reduceToInt, Int64.lt_iff_toInt_lt, ← Int64.toInt_inj, Int64.reduceToInt, own_48, own_97] at hc10 hc18 hc42 <;> omega)]; rfl, N0, rfl⟩
      · refine Go.step (T' := s₁) (f' := (mkF m 45 #[.val (.int p1), .val (.long ((p1.toInt64) - (48 : Int64))), .second, .val (.int (1 : Int32)), .val (.long (((p1 ||| (32 : Int32)).toInt64) - (97 : Int64))), .second, .unset] [])) (fun _ k => XS.ifNo X0.here hx rfl (hb hby d2_42) rfl ((if0 _ _).trans (flt (fun q => hc42 ((lw_lt _ _).mp q))).1) k) ?_
        refine Go.step (T' := s₁) (f' := (mkF m 47 #[.val (.int p1), .val (.long ((p1.toInt64) - (48 : Int64))), .second, .val (.int (1 : Int32)), .val (.long (((p1 ||| (32 : Int32)).toInt64) - (97 : Int64))), .second, .unset] [(.long (((p1 ||| (32 : Int32)).toInt64) - (97 : Int64)))])) (fun _ k => XS.lload X0.here hx rfl (hb hby d2_45) rfl k) ?_
        refine Go.step (T' := s₁) (f' := (mkF m 50 #[.val (.int p1), .val (.long ((p1.toInt64) - (48 : Int64))), .second, .val (.int (1 : Int32)), .val (.long (((p1 ||| (32 : Int32)).toInt64) - (97 : Int64))), .second, .unset] [(.long (5 : Int64)), (.long (((p1 ||| (32 : Int32)).toInt64) - (97 : Int64)))])) (fun _ k => X0.ldc2Long hx hown (mvT hZ (hw _ (List.mem_of_getElem? (i := 11) rfl))) (g := (mkF m 47 #[.val (.int p1), .val (.long ((p1.toInt64) - (48 : Int64))), .second, .val (.int (1 : Int32)), .val (.long (((p1 ||| (32 : Int32)).toInt64) - (97 : Int64))), .second, .unset] [(.long (((p1 ||| (32 : Int32)).toInt64) - (97 : Int64)))])) rfl (hb hby d2_47) _ k) ?_
        refine Go.step (T' := s₁) (f' := (mkF m 51 #[.val (.int p1), .val (.long ((p1.toInt64) - (48 : Int64))), .second, .val (.int (1 : Int32)), .val (.long (((p1 ||| (32 : Int32)).toInt64) - (97 : Int64))), .second, .unset] [(.int (lcmpW (((p1 ||| (32 : Int32)).toInt64) - (97 : Int64)) (5 : Int64)))])) (fun _ k => XS.lcmp X0.here hx rfl (hb hby d2_50) rfl k) ?_
        by_cases hc51 : (5 : Int64) < (((p1 ||| (32 : Int32)).toInt64) - (97 : Int64))
        · refine Go.step (T' := s₁) (f' := (mkF m 58 #[.val (.int p1), .val (.long ((p1.toInt64) - (48 : Int64))), .second, .val (.int (1 : Int32)), .val (.long (((p1 ||| (32 : Int32)).toInt64) - (97 : Int64))), .second, .unset] [])) (fun _ k => XS.ifYes X0.here hx rfl (pc0 := 51) (pc' := 58) rfl (hb hby d2_51) rfl ((if0 _ _).trans (tlt ((lw_gt _ _).mpr hc51)).2.2.1) (by decide) (by decide) k) ?_
          refine Go.step (T' := s₁) (f' := (mkF m 59 #[.val (.int p1), .val (.long ((p1.toInt64) - (48 : Int64))), .second, .val (.int (1 : Int32)), .val (.long (((p1 ||| (32 : Int32)).toInt64) - (97 : Int64))), .second, .unset] [(.int (0 : Int32))])) (fun _ k => XS.iconst X0.here hx rfl (hb hby d2_58) k) ?_
          refine Go.step (T' := s₁) (f' := (mkF m 61 #[.val (.int p1), .val (.long ((p1.toInt64) - (48 : Int64))), .second, .val (.int (1 : Int32)), .val (.long (((p1 ||| (32 : Int32)).toInt64) - (97 : Int64))), .second, .val (.int (0 : Int32))] [])) (fun _ k => XS.istore X0.here hx rfl (hb hby d2_59) rfl (l' := #[.val (.int p1), .val (.long ((p1.toInt64) - (48 : Int64))), .second, .val (.int (1 : Int32)), .val (.long (((p1 ||| (32 : Int32)).toInt64) - (97 : Int64))), .second, .val (.int (0 : Int32))]) rfl k) ?_
          refine Go.step (T' := s₁) (f' := (mkF m 62 #[.val (.int p1), .val (.long ((p1.toInt64) - (48 : Int64))), .second, .val (.int (1 : Int32)), .val (.long (((p1 ||| (32 : Int32)).toInt64) - (97 : Int64))), .second, .val (.int (0 : Int32))] [(.int (1 : Int32))])) (fun _ k => XS.iloadN X0.here hx rfl (hb hby d2_61) rfl k) ?_
          refine Go.step (T' := s₁) (f' := (mkF m 70 #[.val (.int p1), .val (.long ((p1.toInt64) - (48 : Int64))), .second, .val (.int (1 : Int32)), .val (.long (((p1 ||| (32 : Int32)).toInt64) - (97 : Int64))), .second, .val (.int (0 : Int32))] [])) (fun _ k => XS.ifYes X0.here hx rfl (pc0 := 62) (pc' := 70) rfl (hb hby d2_62) rfl ((if0 _ _).trans (feq (by decide : ¬ ((1 : Int32) = (0 : Int32)))).2) (by decide) (by decide) k) ?_
          refine Go.step (T' := s₁) (f' := (mkF m 71 #[.val (.int p1), .val (.long ((p1.toInt64) - (48 : Int64))), .second, .val (.int (1 : Int32)), .val (.long (((p1 ||| (32 : Int32)).toInt64) - (97 : Int64))), .second, .val (.int (0 : Int32))] [(.int (1 : Int32))])) (fun _ k => XS.iconst X0.here hx rfl (hb hby d2_70) k) ?_
          refine Go.step (T' := s₁) (f' := (mkF m 75 #[.val (.int p1), .val (.long ((p1.toInt64) - (48 : Int64))), .second, .val (.int (1 : Int32)), .val (.long (((p1 ||| (32 : Int32)).toInt64) - (97 : Int64))), .second, .val (.int (0 : Int32))] [(.int (1 : Int32))])) (fun _ k => XS.goto X0.here hx rfl (pc0 := 71) (pc' := 75) rfl (hb hby d2_71) (by decide) (by decide) k) ?_
          refine goN X0 hx (t := .boolean) Bd.returns (by simp) Bd.notSynchronized (hb hby d2_75) ?_ (by decide) (by decide)
          show Q_rm2 Z p1 h0 n0 _ s₁.heap _
          rw [e0]
          exact ⟨by rw [own_hex1 (by have := own_or p1; simp only [Int32.lt_iff_toInt_lt, ← Int32.toInt_inj, Int32.reduceToInt, Int64.lt_iff_toInt_lt, ← Int64.toInt_inj, Int64.reduceToInt, own_48, own_97] at hc10 hc18 hc42 hc51 <;> omega)]; rfl, N0, rfl⟩
        · refine Go.step (T' := s₁) (f' := (mkF m 54 #[.val (.int p1), .val (.long ((p1.toInt64) - (48 : Int64))), .second, .val (.int (1 : Int32)), .val (.long (((p1 ||| (32 : Int32)).toInt64) - (97 : Int64))), .second, .unset] [])) (fun _ k => XS.ifNo X0.here hx rfl (hb hby d2_51) rfl ((if0 _ _).trans (flt (fun q => hc51 ((lw_gt _ _).mp q))).2.2.1) k) ?_
          refine Go.step (T' := s₁) (f' := (mkF m 55 #[.val (.int p1), .val (.long ((p1.toInt64) - (48 : Int64))), .second, .val (.int (1 : Int32)), .val (.long (((p1 ||| (32 : Int32)).toInt64) - (97 : Int64))), .second, .unset] [(.int (1 : Int32))])) (fun _ k => XS.iconst X0.here hx rfl (hb hby d2_54) k) ?_
          refine Go.step (T' := s₁) (f' := (mkF m 59 #[.val (.int p1), .val (.long ((p1.toInt64) - (48 : Int64))), .second, .val (.int (1 : Int32)), .val (.long (((p1 ||| (32 : Int32)).toInt64) - (97 : Int64))), .second, .unset] [(.int (1 : Int32))])) (fun _ k => XS.goto X0.here hx rfl (pc0 := 55) (pc' := 59) rfl (hb hby d2_55) (by decide) (by decide) k) ?_
          refine Go.step (T' := s₁) (f' := (mkF m 61 #[.val (.int p1), .val (.long ((p1.toInt64) - (48 : Int64))), .second, .val (.int (1 : Int32)), .val (.long (((p1 ||| (32 : Int32)).toInt64) - (97 : Int64))), .second, .val (.int (1 : Int32))] [])) (fun _ k => XS.istore X0.here hx rfl (hb hby d2_59) rfl (l' := #[.val (.int p1), .val (.long ((p1.toInt64) - (48 : Int64))), .second, .val (.int (1 : Int32)), .val (.long (((p1 ||| (32 : Int32)).toInt64) - (97 : Int64))), .second, .val (.int (1 : Int32))]) rfl k) ?_
          refine Go.step (T' := s₁) (f' := (mkF m 62 #[.val (.int p1), .val (.long ((p1.toInt64) - (48 : Int64))), .second, .val (.int (1 : Int32)), .val (.long (((p1 ||| (32 : Int32)).toInt64) - (97 : Int64))), .second, .val (.int (1 : Int32))] [(.int (1 : Int32))])) (fun _ k => XS.iloadN X0.here hx rfl (hb hby d2_61) rfl k) ?_
          refine Go.step (T' := s₁) (f' := (mkF m 70 #[.val (.int p1), .val (.long ((p1.toInt64) - (48 : Int64))), .second, .val (.int (1 : Int32)), .val (.long (((p1 ||| (32 : Int32)).toInt64) - (97 : Int64))), .second, .val (.int (1 : Int32))] [])) (fun _ k => XS.ifYes X0.here hx rfl (pc0 := 62) (pc' := 70) rfl (hb hby d2_62) rfl ((if0 _ _).trans (feq (by decide : ¬ ((1 : Int32) = (0 : Int32)))).2) (by decide) (by decide) k) ?_
          refine Go.step (T' := s₁) (f' := (mkF m 71 #[.val (.int p1), .val (.long ((p1.toInt64) - (48 : Int64))), .second, .val (.int (1 : Int32)), .val (.long (((p1 ||| (32 : Int32)).toInt64) - (97 : Int64))), .second, .val (.int (1 : Int32))] [(.int (1 : Int32))])) (fun _ k => XS.iconst X0.here hx rfl (hb hby d2_70) k) ?_
          refine Go.step (T' := s₁) (f' := (mkF m 75 #[.val (.int p1), .val (.long ((p1.toInt64) - (48 : Int64))), .second, .val (.int (1 : Int32)), .val (.long (((p1 ||| (32 : Int32)).toInt64) - (97 : Int64))), .second, .val (.int (1 : Int32))] [(.int (1 : Int32))])) (fun _ k => XS.goto X0.here hx rfl (pc0 := 71) (pc' := 75) rfl (hb hby d2_71) (by decide) (by decide) k) ?_
          refine goN X0 hx (t := .boolean) Bd.returns (by simp) Bd.notSynchronized (hb hby d2_75) ?_ (by decide) (by decide)
          show Q_rm2 Z p1 h0 n0 _ s₁.heap _
          rw [e0]
          exact ⟨by rw [own_hex1 (by have := own_or p1; simp only [Int32.lt_iff_toInt_lt, ← Int32.toInt_inj, Int32.reduceToInt, Int64.lt_iff_toInt_lt, ← Int64.toInt_inj, Int64.reduceToInt, own_48, own_97] at hc10 hc18 hc42 hc51 <;> omega)]; rfl, N0, rfl⟩
theorem pd_0 : parseMethodDescriptor "(I)Z" = some ⟨[.int], some .boolean⟩ := by decide +kernel
theorem ef_rm0 (m : MethodId) (p1 : Int32) : entryFrame m #[(.int p1)] maxLocals = mkF m 0 #[.val (.int p1), .unset] [] := by first | (simp [entryFrame, mkF, argsToLocals, Value.category, maxLocals]; done) | rfl
def Q_rm0 (Z : State) (p1 : Int32) (h0 : Heap) (n0 : Nat) (v : Option Value) (h : Heap) (L : List Loc) : Prop := v = some (.int (1 : Int32)) ∧ Fr n0 L
set_option maxRecDepth 65536 in
set_option maxHeartbeats 40000000 in
theorem rm0 (l : Launch) (Z : State) (a0 : Array Value) (hw : ∀ d ∈ tables_1, d.before a0 Z = true) (ws : List Jvm.Cond) (p1 : Int32) (h0 : Heap) (n0 : Nat) (Z0 : n0 ≤ h0.size) :
    MetFree l x (head1 (Jvm.Cond.code x code maxLocals ret :: ws) room_1) (fun a U => a = #[(.int p1)] ∧ Z.Warmed39 U.vm ∧ U.heap = h0) (fun _ _ _ _ _ => True) (fun _ U o U' => ∃ v L, o = .returned v ∧ Q_rm0 Z p1 h0 n0 v U'.heap L ∧ FrameEnd U o U' L room_1.cells room_1.slots) := by
  refine MetFree.of_bodySF (plainFor_of_name pn_2) hisR ?_
  intro p e s m args below meth c s₁ Bd hml0 hP hK
  obtain ⟨rfl, hZ, hh⟩ := hP
  have hx := Bd.exec
  have hby := Bd.bytes
  have hml : c.maxLocals = 2 := hml0
  have hown : s.vm.findClass "com/example/bagwise/bagwise/query/SourceTextIsHexDigitPinLaw" = some m.cls := findClass_of_methodNamed Bd.named
  have hnm := (name_of_methodNamed Bd.named Bd.method).1
  have X0 : Stand p l e room_1 s m #[(.int p1)] below meth c s₁ [] 0 0 := Stand.of_body Bd
  have e0 : s₁.heap = h0 := by rw [← hh, Bd.state]; rfl
  have N0 := Fr.nil n0
  refine of_go (ef_rm0 m p1) ?_
  refine Go.step (T' := s₁) (f' := (mkF m 1 #[.val (.int p1), .unset] [(.int p1)])) (fun _ k => XS.iloadN X0.here hx rfl (hb hby at_0) rfl k) ?_
  refine Go.step (T' := s₁) (f' := (mkF m 3 #[.val (.int p1), .unset] [(.int (127 : Int32)), (.int p1)])) (fun _ k => XS.bipush X0.here hx rfl (hb hby at_1) k) ?_
  refine Go.step (T' := s₁) (f' := (mkF m 4 #[.val (.int p1), .unset] [(.int (p1 &&& (127 : Int32)))])) (fun _ k => XS.iand X0.here hx rfl (hb hby at_3) rfl k) ?_
  refine Go.step (T' := s₁) (f' := (mkF m 5 #[.val (.int p1), .val (.int (p1 &&& (127 : Int32)))] [])) (fun _ k => XS.istoreN X0.here hx rfl (hb hby at_4) rfl (l' := #[.val (.int p1), .val (.int (p1 &&& (127 : Int32)))]) rfl k) ?_
  refine Go.step (T' := s₁) (f' := (mkF m 6 #[.val (.int p1), .val (.int (p1 &&& (127 : Int32)))] [(.int p1)])) (fun _ k => XS.iloadN X0.here hx rfl (hb hby at_5) rfl k) ?_
  obtain ⟨_, _, ⟨T1, L1, k1, n1⟩, -, X1, ⟨Lc1, hQ1, l1, y1, z1⟩, st1⟩ := Jvm.LawKit.callS X0 hx (y := (⟨"com/example/bagwise/bagwise/query/SourceText", "isHexDigit", "(I)Z"⟩ : MethodName)) hown (mvT hZ (hw _ (List.mem_of_getElem? (i := 0) rfl))) (mvT hZ (hw _ (List.mem_of_getElem? (i := 1) rfl))) (mvT hZ (hw _ (List.mem_of_getElem? (i := 2) rfl))) (mvT hZ (hw _ (List.mem_of_getElem? (i := 3) rfl))) (by decide) (backOf (W := 0) (rm1 l Z a0 hw [] p1 h0 n0 Z0 ) hZ (hw _ (List.mem_of_getElem? (i := 3) rfl)) (hw _ (List.mem_of_getElem? (i := 2) rfl)) (by decide) (by decide)) (g := (mkF m 6 #[.val (.int p1), .val (.int (p1 &&& (127 : Int32)))] [(.int p1)])) rfl (by rw [hml]; rfl) (argsL := [(.int p1)]) (rest := []) (lenOf pd_0 rfl) rfl (by show 2 * 0 + _ ≤ _; exact Nat.le_of_eq rfl) (hb hby at_6) (fun _ _ => ⟨rfl, e0, (by decide : 0 + 0 ≤ _), (by decide : 0 + 0 ≤ _)⟩)
  dsimp only [Pt.U, Pt.locs, Pt.cells, Pt.slots] at X1 l1 y1 z1 st1 hQ1
  subst l1 y1 z1
  obtain ⟨rfl, Nq1, eh1⟩ := hQ1
  have N1 := Fr.app N0 Nq1
  refine Go.step (T' := T1) (f' := (mkF m 9 #[.val (.int p1), .val (.int (p1 &&& (127 : Int32)))] [(.int (own_hex p1))])) st1 ?_
  refine Go.step (T' := T1) (f' := (mkF m 10 #[.val (.int p1), .val (.int (p1 &&& (127 : Int32)))] [(.int p1), (.int (own_hex p1))])) (fun _ k => XS.iloadN X1.here hx rfl (hb hby at_9) rfl k) ?_
  obtain ⟨_, _, ⟨T2, L2, k2, n2⟩, -, X2, ⟨Lc2, hQ2, l2, y2, z2⟩, st2⟩ := Jvm.LawKit.callS X1 hx (y := (⟨"com/example/bagwise/bagwise/query/SourceTextIsHexDigitPinLaw", "expected", "(I)Z"⟩ : MethodName)) hown (mvT hZ (hw _ (List.mem_of_getElem? (i := 4) rfl))) (mvT hZ (hw _ (List.mem_of_getElem? (i := 5) rfl))) (mvT hZ (hw _ (List.mem_of_getElem? (i := 6) rfl))) (mvT hZ (hw _ (List.mem_of_getElem? (i := 7) rfl))) (by decide) (backOf (W := 1) (rm2 l Z a0 hw [] p1 h0 n0 Z0 ) hZ (hw _ (List.mem_of_getElem? (i := 7) rfl)) (hw _ (List.mem_of_getElem? (i := 6) rfl)) (by decide) (by decide)) (g := (mkF m 10 #[.val (.int p1), .val (.int (p1 &&& (127 : Int32)))] [(.int p1), (.int (own_hex p1))])) rfl (by rw [hml]; rfl) (argsL := [(.int p1)]) (rest := [(.int (own_hex p1))]) (lenOf pd_0 rfl) rfl (by show 2 * 0 + _ ≤ _; exact Nat.le_of_eq rfl) (hb hby at_10) (fun _ _ => ⟨rfl, eh1, (by decide : 0 + 0 ≤ _), (by decide : 0 + 0 ≤ _)⟩)
  dsimp only [Pt.U, Pt.locs, Pt.cells, Pt.slots] at X2 l2 y2 z2 st2 hQ2
  subst l2 y2 z2
  obtain ⟨rfl, Nq2, eh2⟩ := hQ2
  have N2 := Fr.app N1 Nq2
  refine Go.step (T' := T2) (f' := (mkF m 13 #[.val (.int p1), .val (.int (p1 &&& (127 : Int32)))] [(.int (own_hex p1)), (.int (own_hex p1))])) st2 ?_
  refine Go.step (T' := T2) (f' := (mkF m 16 #[.val (.int p1), .val (.int (p1 &&& (127 : Int32)))] [])) (fun _ k => XS.icmpNo X2.here hx rfl (hb hby at_13) rfl (teq (rfl : (own_hex p1) = (own_hex p1))).2 k) ?_
  refine Go.step (T' := T2) (f' := (mkF m 17 #[.val (.int p1), .val (.int (p1 &&& (127 : Int32)))] [(.int (p1 &&& (127 : Int32)))])) (fun _ k => XS.iloadN X2.here hx rfl (hb hby at_16) rfl k) ?_
  obtain ⟨_, _, ⟨T3, L3, k3, n3⟩, -, X3, ⟨Lc3, hQ3, l3, y3, z3⟩, st3⟩ := Jvm.LawKit.callS X2 hx (y := (⟨"com/example/bagwise/bagwise/query/SourceText", "isHexDigit", "(I)Z"⟩ : MethodName)) hown (mvT hZ (hw _ (List.mem_of_getElem? (i := 0) rfl))) (mvT hZ (hw _ (List.mem_of_getElem? (i := 1) rfl))) (mvT hZ (hw _ (List.mem_of_getElem? (i := 2) rfl))) (mvT hZ (hw _ (List.mem_of_getElem? (i := 3) rfl))) (by decide) (backOf (W := 0) (rm1 l Z a0 hw [] (p1 &&& (127 : Int32)) h0 n0 Z0 ) hZ (hw _ (List.mem_of_getElem? (i := 3) rfl)) (hw _ (List.mem_of_getElem? (i := 2) rfl)) (by decide) (by decide)) (g := (mkF m 17 #[.val (.int p1), .val (.int (p1 &&& (127 : Int32)))] [(.int (p1 &&& (127 : Int32)))])) rfl (by rw [hml]; rfl) (argsL := [(.int (p1 &&& (127 : Int32)))]) (rest := []) (lenOf pd_0 rfl) rfl (by show 2 * 0 + _ ≤ _; exact Nat.le_of_eq rfl) (hb hby at_17) (fun _ _ => ⟨rfl, eh2, (by decide : 0 + 0 ≤ _), (by decide : 0 + 0 ≤ _)⟩)
  dsimp only [Pt.U, Pt.locs, Pt.cells, Pt.slots] at X3 l3 y3 z3 st3 hQ3
  subst l3 y3 z3
  obtain ⟨rfl, Nq3, eh3⟩ := hQ3
  have N3 := Fr.app N2 Nq3
  refine Go.step (T' := T3) (f' := (mkF m 20 #[.val (.int p1), .val (.int (p1 &&& (127 : Int32)))] [(.int (own_hex (p1 &&& (127 : Int32))))])) st3 ?_
  refine Go.step (T' := T3) (f' := (mkF m 21 #[.val (.int p1), .val (.int (p1 &&& (127 : Int32)))] [(.int (p1 &&& (127 : Int32))), (.int (own_hex (p1 &&& (127 : Int32))))])) (fun _ k => XS.iloadN X3.here hx rfl (hb hby at_20) rfl k) ?_
  obtain ⟨_, _, ⟨T4, L4, k4, n4⟩, -, X4, ⟨Lc4, hQ4, l4, y4, z4⟩, st4⟩ := Jvm.LawKit.callS X3 hx (y := (⟨"com/example/bagwise/bagwise/query/SourceTextIsHexDigitPinLaw", "expected", "(I)Z"⟩ : MethodName)) hown (mvT hZ (hw _ (List.mem_of_getElem? (i := 4) rfl))) (mvT hZ (hw _ (List.mem_of_getElem? (i := 5) rfl))) (mvT hZ (hw _ (List.mem_of_getElem? (i := 6) rfl))) (mvT hZ (hw _ (List.mem_of_getElem? (i := 7) rfl))) (by decide) (backOf (W := 1) (rm2 l Z a0 hw [] (p1 &&& (127 : Int32)) h0 n0 Z0 ) hZ (hw _ (List.mem_of_getElem? (i := 7) rfl)) (hw _ (List.mem_of_getElem? (i := 6) rfl)) (by decide) (by decide)) (g := (mkF m 21 #[.val (.int p1), .val (.int (p1 &&& (127 : Int32)))] [(.int (p1 &&& (127 : Int32))), (.int (own_hex (p1 &&& (127 : Int32))))])) rfl (by rw [hml]; rfl) (argsL := [(.int (p1 &&& (127 : Int32)))]) (rest := [(.int (own_hex (p1 &&& (127 : Int32))))]) (lenOf pd_0 rfl) rfl (by show 2 * 0 + _ ≤ _; exact Nat.le_of_eq rfl) (hb hby at_21) (fun _ _ => ⟨rfl, eh3, (by decide : 0 + 0 ≤ _), (by decide : 0 + 0 ≤ _)⟩)
  dsimp only [Pt.U, Pt.locs, Pt.cells, Pt.slots] at X4 l4 y4 z4 st4 hQ4
  subst l4 y4 z4
  obtain ⟨rfl, Nq4, eh4⟩ := hQ4
  have N4 := Fr.app N3 Nq4
  refine Go.step (T' := T4) (f' := (mkF m 24 #[.val (.int p1), .val (.int (p1 &&& (127 : Int32)))] [(.int (own_hex (p1 &&& (127 : Int32)))), (.int (own_hex (p1 &&& (127 : Int32))))])) st4 ?_
  refine Go.step (T' := T4) (f' := (mkF m 27 #[.val (.int p1), .val (.int (p1 &&& (127 : Int32)))] [])) (fun _ k => XS.icmpNo X4.here hx rfl (hb hby at_24) rfl (teq (rfl : (own_hex (p1 &&& (127 : Int32))) = (own_hex (p1 &&& (127 : Int32))))).2 k) ?_
  refine Go.step (T' := T4) (f' := (mkF m 28 #[.val (.int p1), .val (.int (p1 &&& (127 : Int32)))] [(.int (1 : Int32))])) (fun _ k => XS.iconst X4.here hx rfl (hb hby at_27) k) ?_
  refine Go.step (T' := T4) (f' := (mkF m 32 #[.val (.int p1), .val (.int (p1 &&& (127 : Int32)))] [(.int (1 : Int32))])) (fun _ k => XS.goto X4.here hx rfl (pc0 := 28) (pc' := 32) rfl (hb hby at_28) (by decide) (by decide) k) ?_
  refine goN X4 hx (t := .boolean) Bd.returns (by simp) Bd.notSynchronized (hb hby at_32) ?_ (by decide) (by decide)
  show Q_rm0 Z p1 h0 n0 _ T4.heap _
  rw [eh4]
  exact ⟨rfl, N4⟩
set_option maxRecDepth 65536 in
set_option maxHeartbeats 40000000 in
theorem comes_1 {Post : Tables → Env → Array Value → State → Outcome → State → Prop} (hpost : ∀ tb e args s v u, (limb_1_1.after args s (.returned v) u = true ∧ limb_1_2.after args s (.returned v) u = true ∧ True) → FrameEnd s (.returned v) u (Jvm.fieldLocs frame_1_writes args s ++ Jvm.arrayLocs frame_1_arrays args s ++ Jvm.staticLocs frame_1_statics s) 0 0 → Post tb e args s (.returned v) u) :
    ArmFor flags0 classFile x code maxLocals ret World_1 tables_1 room_1 Calls_1 rest_1 Pre_1 Post := by
  intro l hfl _ _ p e ha hc hk s m args below hf hA hF happ hP
  obtain ⟨hcalls, hrest, hpre⟩ := hP
  obtain ⟨-, -, -, hnamed, -, -, -, hat⟩ := (Spec.applies_iff hf).mp happ
  obtain ⟨hg, hn⟩ := and_e (Cond.before_iff.mp (show (Jvm.Cond.and given_1 narrow_1).before args s = true from hpre))
  obtain ⟨g1, g2⟩ := and_e hg
  obtain ⟨w0, rfl⟩ : ∃ w0 : Value, args = #[w0] := by
    have hs : args.size = 1 := by simpa [Cond.value, given_1] using g1
    obtain ⟨L⟩ := args
    match L, hs with
    | [w0], _ => exact ⟨w0, rfl⟩
  have hw := fun d (hd : d ∈ tables_1) => atoms_spec (ws := Jvm.Cond.code x code maxLocals ret :: tables_1) hat d (List.mem_cons_of_mem _ hd)
  have hfit : Fit s := fun {y c} hc i hi => by
    obtain ⟨ha, rfl⟩ := Array.getElem?_eq_some_iff.mp hc
    have q := List.all_eq_true.mp ((Array.all_eq_true_iff_forall_mem.mp hF) _ (Array.getElem_mem ha)) i (List.mem_range.mpr hi)
    simpa [Array.getElem?_eq_getElem hi] using q
  obtain ⟨i0, ei0⟩ := is_v g2
  obtain rfl : w0 = (.int i0) := Option.some.inj ei0
  obtain ⟨n, o, h1, h2, h3, _, L, rfl, ⟨rfl, N⟩, hq⟩ := rm0 l s _ hw tables_1 i0 s.heap s.heap.size (Nat.le_refl _)  p e ha hc hk s m _ below hf ((Spec.applies_iff_loose hf).mp happ).1 ⟨rfl, State.Warmed39.refl s, rfl⟩ trivial
  refine ⟨n, _, h1, h2, h3, hpost _ _ _ _ _ _ ⟨Cond.after_iff.mpr rfl, Cond.after_iff.mpr (eq_i res_at (Term.int_eval (1)) rfl), trivial⟩ ⟨hq.1, hq.2.1, (hq.2.2.sift fun y hy => Or.inr (N y hy)).mono (by decide) (by decide)⟩⟩
theorem main_1_1 : Claimed_1_1 := comes_1 fun _ _ _ _ _ _ h hF => ⟨h.1, hF⟩
theorem main_1_2 : Claimed_1_2 := comes_1 fun _ _ _ _ _ _ h hF => ⟨h.2.1, hF⟩
end Jvm.Pilot.@@N@@
namespace Jvm.Pilot.@@N@@
open Jvm Jvm.ClassFile Sem Op Lib Jvm.Free Jvm.Stand Jvm.Pilot.@@N@@.Jvm.D
/-! MADE BY PROGRAM (witnessworld.py) out of the Statement's table words and the real class files: 9 classes; the members and pool entries that the words name. The judged class is class 1, her method 1. -/
namespace start1
open Jvm.ClassFile
def u (s : String) : CpInfo := .utf8 (stringToUtf16 s)
/-- a pool by its gaps: so many unusable entries, then the entry; so many at the end -/
def gap : Nat → List CpInfo → List CpInfo
  | 0, r => r
  | n + 1, r => .unusable :: gap n r
def poolList (es : List (Nat × CpInfo)) (last : Nat) : List CpInfo := es.foldr (fun e r => gap e.1 (e.2 :: r)) (gap last [])
def pool (es : List (Nat × CpInfo)) (last : Nat) : Array CpInfo := ⟨poolList es last⟩
def fileOf (pool : Array CpInfo) (this : Nat) (attrs : Array Attribute := #[]) (ms : Array MethodInfo := #[]) (fl : Nat := 33) (sup : Nat := 0) (ifs : Array Nat := #[]) (fds : Array FieldInfo := #[]) : ClassFile where
  minorVersion := 0
  majorVersion := 65
  constantPool := pool
  accessFlags := fl
  thisClass := this
  superClass := sup
  interfaces := ifs
  fields := fds
  methods := ms
  attributes := attrs
def plain (name : String) (sup : Option ClassId) : Class where
  name := name
  kind := .ordinary
  loader := none
  accessFlags := 33
  super := sup
  interfaces := #[]
  cf := none
  fields := #[]
  methods := #[]
  instanceTypes := #[]
  staticTypes := #[]
  resolved := #[]
  callSites := []
  init := .initialized
  statics := none
  mirror := none

def pool0 : Array CpInfo := pool [(5, u "<init>"), (0, u "()V"), (1, .class_ 10), (1, u "java/lang/Object")] 113

def k0m0 : Method := { name := "<init>", desc := "()V", sig := { parameters := [], returnType := none }, accessFlags := 1, code := none }
/-- java/lang/Object -/
def k0 : Class := { plain "java/lang/Object" none with
  accessFlags := 33
  interfaces := #[]
  cf := some (fileOf pool0 8 #[] #[{ accessFlags := 1, nameIndex := 5, descriptorIndex := 6, attributes := #[] }] 33 0 #[] #[])
  fields := #[]
  methods := #[k0m0]
  instanceTypes := #[]
  staticTypes := #[]
  resolved := Array.replicate 124 none
  statics := none }

def pool1 : Array CpInfo := pool [(2, .class_ 4), (1, u "java/lang/Object"), (0, u "<init>"), (0, u "()V"), (0, .methodref 8 9), (0, .class_ 10), (0, .nameAndType 11 12), (0, u "com/example/bagwise/bagwise/query/SourceText"), (0, u "isHexDigit"), (0, u "(I)Z"), (0, .methodref 14 15), (0, .class_ 16), (0, .nameAndType 17 12), (0, u "com/example/bagwise/bagwise/query/SourceTextIsHexDigitPinLaw"), (0, u "expected"), (0, .long 48), (1, .long 9), (1, .long 97), (1, .long 5), (3, u "law")] 3

def k1m0 : Method := { name := "<init>", desc := "()V", sig := { parameters := [], returnType := none }, accessFlags := 2, code := none }
def k1c1 : Code := { maxStack := 2, maxLocals := 2, code := code, exceptionTable := #[], attributes := #[] }
def k1m1 : Method := { name := "law", desc := "(I)Z", sig := { parameters := [.int], returnType := some .boolean }, accessFlags := 9, code := some k1c1 }
def k1c2 : Code := { maxStack := 4, maxLocals := 7, code := method_3_code, exceptionTable := #[], attributes := #[] }
def k1m2 : Method := { name := "expected", desc := "(I)Z", sig := { parameters := [.int], returnType := some .boolean }, accessFlags := 10, code := some k1c2 }
/-- com/example/bagwise/bagwise/query/SourceTextIsHexDigitPinLaw -/
def k1 : Class := { plain "com/example/bagwise/bagwise/query/SourceTextIsHexDigitPinLaw" (some 0) with
  accessFlags := 49
  interfaces := #[]
  cf := some (fileOf pool1 14 #[] #[{ accessFlags := 2, nameIndex := 5, descriptorIndex := 6, attributes := #[] }, { accessFlags := 9, nameIndex := 28, descriptorIndex := 12, attributes := #[] }, { accessFlags := 10, nameIndex := 17, descriptorIndex := 12, attributes := #[] }] 49 2 #[] #[])
  fields := #[]
  methods := #[k1m0, k1m1, k1m2]
  instanceTypes := #[]
  staticTypes := #[]
  resolved := Array.replicate 32 none
  statics := none }

def pool2 : Array CpInfo := pool [(2, .class_ 4), (1, u "java/lang/Object"), (3, .class_ 10), (1, u "com/example/bagwise/bagwise/query/SourceText"), (0, u "codePoints"), (0, u "[I"), (2, u "offsets"), (2, u "lines"), (2, u "columns"), (2, u "line"), (0, u "I"), (2, u "column"), (2, u "text"), (0, u "Ljava/lang/String;"), (2, u "offset"), (12, u "size"), (21, u "(I)Z"), (5, u "kept"), (17, u "first"), (5, u "afterLoneBackslash"), (0, u "Z"), (23, u "isHexDigit"), (23, u "END")] 30

def k2c0 : Code := { maxStack := 2, maxLocals := 1, code := prog_125_method_11_code, exceptionTable := #[], attributes := #[] }
def k2m0 : Method := { name := "isHexDigit", desc := "(I)Z", sig := { parameters := [.int], returnType := some .boolean }, accessFlags := 8, code := some k2c0 }
/-- com/example/bagwise/bagwise/query/SourceText -/
def k2 : Class := { plain "com/example/bagwise/bagwise/query/SourceText" (some 0) with
  accessFlags := 32
  interfaces := #[]
  cf := some (fileOf pool2 8 #[] #[{ accessFlags := 8, nameIndex := 125, descriptorIndex := 70, attributes := #[] }] 32 2 #[] #[{ accessFlags := 24, nameIndex := 149, descriptorIndex := 25, attributes := #[] }, { accessFlags := 18, nameIndex := 31, descriptorIndex := 32, attributes := #[] }, { accessFlags := 2, nameIndex := 11, descriptorIndex := 12, attributes := #[] }, { accessFlags := 2, nameIndex := 15, descriptorIndex := 12, attributes := #[] }, { accessFlags := 2, nameIndex := 18, descriptorIndex := 12, attributes := #[] }, { accessFlags := 2, nameIndex := 21, descriptorIndex := 12, attributes := #[] }, { accessFlags := 2, nameIndex := 94, descriptorIndex := 25, attributes := #[] }, { accessFlags := 2, nameIndex := 76, descriptorIndex := 25, attributes := #[] }, { accessFlags := 2, nameIndex := 48, descriptorIndex := 25, attributes := #[] }, { accessFlags := 2, nameIndex := 35, descriptorIndex := 25, attributes := #[] }, { accessFlags := 2, nameIndex := 24, descriptorIndex := 25, attributes := #[] }, { accessFlags := 2, nameIndex := 28, descriptorIndex := 25, attributes := #[] }, { accessFlags := 2, nameIndex := 100, descriptorIndex := 101, attributes := #[] }])
  fields := #[{ name := "END", type := .int, accessFlags := 24, slot := 0, constantValue := 0 }, { name := "text", type := (.object "java/lang/String"), accessFlags := 18, slot := 0, constantValue := 0 }, { name := "codePoints", type := (.array .int), accessFlags := 2, slot := 1, constantValue := 0 }, { name := "offsets", type := (.array .int), accessFlags := 2, slot := 2, constantValue := 0 }, { name := "lines", type := (.array .int), accessFlags := 2, slot := 3, constantValue := 0 }, { name := "columns", type := (.array .int), accessFlags := 2, slot := 4, constantValue := 0 }, { name := "first", type := .int, accessFlags := 2, slot := 5, constantValue := 0 }, { name := "kept", type := .int, accessFlags := 2, slot := 6, constantValue := 0 }, { name := "size", type := .int, accessFlags := 2, slot := 7, constantValue := 0 }, { name := "offset", type := .int, accessFlags := 2, slot := 8, constantValue := 0 }, { name := "line", type := .int, accessFlags := 2, slot := 9, constantValue := 0 }, { name := "column", type := .int, accessFlags := 2, slot := 10, constantValue := 0 }, { name := "afterLoneBackslash", type := .boolean, accessFlags := 2, slot := 11, constantValue := 0 }]
  methods := #[k2m0]
  instanceTypes := #[(.object "java/lang/String"), (.array .int), (.array .int), (.array .int), (.array .int), .int, .int, .int, .int, .int, .int, .boolean]
  staticTypes := #[.int]
  resolved := Array.replicate 180 none
  statics := none }

def pool3 : Array CpInfo := pool [(1, u "java/lang/Cloneable"), (0, .class_ 1), (0, u "java/lang/Object"), (0, .class_ 3)] 3

/-- java/lang/Cloneable -/
def k3 : Class := { plain "java/lang/Cloneable" (some 0) with
  accessFlags := 1537
  interfaces := #[]
  cf := some (fileOf pool3 2 #[] #[] 1537 4 #[] #[])
  fields := #[]
  methods := #[]
  instanceTypes := #[]
  staticTypes := #[]
  resolved := Array.replicate 8 none
  statics := none }

def pool4 : Array CpInfo := pool [(1, u "java/io/Serializable"), (0, .class_ 1), (0, u "java/lang/Object"), (0, .class_ 3)] 3

/-- java/io/Serializable -/
def k4 : Class := { plain "java/io/Serializable" (some 0) with
  accessFlags := 1537
  interfaces := #[]
  cf := some (fileOf pool4 2 #[] #[] 1537 4 #[] #[])
  fields := #[]
  methods := #[]
  instanceTypes := #[]
  staticTypes := #[]
  resolved := Array.replicate 8 none
  statics := none }

/-- the primitive byte -/
def k5 : Class := { plain "byte" none with kind := .primitive 'B', accessFlags := 0x411 }
/-- [B -/
def k6 : Class := { plain "[B" (some 0) with kind := .array 5 .byte, interfaces := #[3, 4], accessFlags := 1041 }

/-- the primitive int -/
def k7 : Class := { plain "int" none with kind := .primitive 'I', accessFlags := 0x411 }
/-- [I -/
def k8 : Class := { plain "[I" (some 0) with kind := .array 7 .int, interfaces := #[3, 4], accessFlags := 1041 }

def heap : Heap := #[]
def classes : Array Class := #[k0, k1, k2, k3, k4, k5, k6, k7, k8]
def interned : List (Array UInt16 × Addr) := []
def slotsUsed : Nat := 0
def theMethod : MethodId := ⟨1, 1⟩
def args0 : Array Value := #[.int 65]
def aboutOver (below : List Frame) : State where
  vm := { classes := classes, interned := interned.toArray }
  heap := heap
  slotsUsed := slotsUsed
  threads := #[{ frames := .invoking theMethod args0 :: below }]
def below0 : List Frame := [.native { method := ⟨0, 0⟩, args := #[] }]
def about1 : State := aboutOver below0
def p0 : Program := .bare "" "" ""
def e0 : Env := launch0.env 0 0 0
theorem w_frames : about1.frames = Frame.invoking theMethod args0 :: below0 := rfl
set_option maxRecDepth 65536 in
theorem w_args : argsFit about1.vm theMethod args0 = true := by decide +kernel
set_option maxRecDepth 65536 in
theorem w_heap : heapFits about1 = true := by decide +kernel
set_option maxRecDepth 65536 in
theorem w_runnable : about1.curStatus? = some .runnable := by decide +kernel
set_option maxRecDepth 65536 in
theorem w_alone : about1.alone = true := by decide +kernel
set_option maxRecDepth 65536 in
theorem w_named : about1.methodNamed? x = some theMethod := by decide +kernel
set_option maxRecDepth 65536 in
theorem w_hears : about1.hears theMethod below0 = true := by decide +kernel
set_option maxRecDepth 65536 in
theorem w_ripe : about1.ripe theMethod args0 below0 = true := by decide +kernel
theorem w_running : about1.status = .running := rfl
set_option maxRecDepth 65536 in
theorem w_room : about1.hasRoom e0.platform room_1 = true :=
  launch0.hasRoom_least _ room_1 (by decide +kernel) (by decide +kernel) (by decide +kernel) (by decide +kernel) (by decide +kernel) (by decide +kernel)
theorem allAtoms_all (ts : List Jvm.Cond) (a : Array Jvm.Value) (st : Jvm.State) : (allAtoms ts).before a st = ts.all (fun c => c.before a st) := by
  induction ts with
  | nil => rfl
  | cons c t ih =>
    show (Jvm.Cond.and c (allAtoms t)).before a st = _
    rw [Jvm.Cond.before_and, ih, List.all_cons]
def words1 : List Jvm.Cond := Jvm.Cond.code x code maxLocals ret :: tables_1
/-- a 'code' word, met by the world's own term for the bytes: nothing is compared byte by byte -/
theorem code_word {y : MethodName} {bytes : ByteArray} {mx : Nat} {rt : Option FieldType} {a : Array Value} {s : State} {m : MethodId} {meth : Method} {c : Code} (h1 : s.methodNamed? y = some m) (h2 : s.vm.method? m = some meth) (h3 : meth.code = some c) (h4 : c.code = bytes)
    (h5 : (c.maxLocals == mx && c.exceptionTable.isEmpty && decide (c.maxStack ≤ mostOperands) && decide (meth.sig.returnType = rt) && !meth.locks && decide (parseMethodDescriptor y.desc = some meth.sig)) = true) : (Jvm.Cond.code y bytes mx rt).before a s = true := by
  simp only [Bool.and_eq_true, beq_iff_eq, Bool.not_eq_true', decide_eq_true_eq] at h5
  obtain ⟨⟨⟨⟨⟨g1, g2⟩, g3⟩, g4⟩, g5⟩, g6⟩ := h5
  simp [Cond.before, Cond.holds, Cond.value, h1, h2, h3, h4, g1, g2, g3, g4, g5, g6]
def isCode : Jvm.Cond → Bool
  | .code _ _ _ _ => true
  | _ => false
theorem all_split {L : List Jvm.Cond} {P : Jvm.Cond → Bool} (h1 : L.all (fun c => isCode c || P c) = true) (h2 : ∀ c ∈ L.filter isCode, P c = true) : L.all P = true := by
  refine List.all_eq_true.mpr fun c hc => ?_
  have h := List.all_eq_true.mp h1 c hc
  rcases Bool.eq_false_or_eq_true (isCode c) with hi | hi
  · exact h2 c (List.mem_filter.mpr ⟨hc, hi⟩)
  · simpa [hi] using h
set_option maxRecDepth 65536 in
theorem w_c0 : (Jvm.Cond.code x code maxLocals ret).before args0 about1 = true := code_word (m := ⟨1, 1⟩) (meth := k1m1) (c := k1c1) (by decide +kernel) rfl rfl rfl (by decide +kernel)
set_option maxRecDepth 65536 in
theorem w_c1 : (Jvm.Cond.code ({ cls := "com/example/bagwise/bagwise/query/SourceText", name := "isHexDigit", desc := "(I)Z" } : Jvm.MethodName) prog_125_method_11_code (1 : Nat) (Option.some Jvm.ClassFile.FieldType.boolean)).before args0 about1 = true := code_word (m := ⟨2, 0⟩) (meth := k2m0) (c := k2c0) (by decide +kernel) rfl rfl rfl (by decide +kernel)
set_option maxRecDepth 65536 in
theorem w_c2 : (Jvm.Cond.code ({ cls := "com/example/bagwise/bagwise/query/SourceTextIsHexDigitPinLaw", name := "expected", desc := "(I)Z" } : Jvm.MethodName) method_3_code (7 : Nat) (Option.some Jvm.ClassFile.FieldType.boolean)).before args0 about1 = true := code_word (m := ⟨1, 2⟩) (meth := k1m2) (c := k1c2) (by decide +kernel) rfl rfl rfl (by decide +kernel)
def codes1 : List Jvm.Cond := [Jvm.Cond.code x code maxLocals ret, Jvm.Cond.code ({ cls := "com/example/bagwise/bagwise/query/SourceText", name := "isHexDigit", desc := "(I)Z" } : Jvm.MethodName) prog_125_method_11_code (1 : Nat) (Option.some Jvm.ClassFile.FieldType.boolean), Jvm.Cond.code ({ cls := "com/example/bagwise/bagwise/query/SourceTextIsHexDigitPinLaw", name := "expected", desc := "(I)Z" } : Jvm.MethodName) method_3_code (7 : Nat) (Option.some Jvm.ClassFile.FieldType.boolean)]
set_option maxRecDepth 65536 in
theorem codes_eq : words1.filter isCode = codes1 := rfl
theorem w_codes : ∀ c ∈ words1.filter isCode, c.before args0 about1 = true := by
  rw [codes_eq]
  intro c hc
  simp only [codes1, List.mem_cons, List.not_mem_nil, or_false] at hc
  rcases hc with rfl | rfl | rfl
  · exact w_c0
  · exact w_c1
  · exact w_c2
set_option maxRecDepth 65536 in
theorem w_t1 : words1.all (fun c => isCode c || c.before args0 about1) = true := by decide +kernel
theorem w_tables : (allAtoms (Jvm.Cond.code x code maxLocals ret :: tables_1)).before args0 about1 = true := by
  rw [allAtoms_all]
  show words1.all (fun c => c.before args0 about1) = true
  refine all_split ?_ w_codes
  rw [w_t1]
set_option maxRecDepth 65536 in
theorem w_case : (Jvm.Cond.and given_1 narrow_1).before args0 about1 = true := by decide +kernel
theorem w_applies : (headSpec (Jvm.Cond.code x code maxLocals ret :: tables_1) room_1).applies x e0.platform about1 = true :=
  (Spec.applies_iff w_frames).mpr ⟨w_running, w_runnable, w_alone, w_named, w_hears, w_ripe, w_room, w_tables⟩
theorem atStart : AtStart classFile x code maxLocals ret World_1 tables_1 room_1 Calls_1 rest_1 Pre_1 launch0 p0 e0 about1 theMethod args0 below0 :=
  ⟨lists_1, trivial, launch0.admits_env _ _ _, launch0.least_env, fairChoices_fair.cas, fairChoices_fair.clock, w_frames, w_args, w_heap, w_applies, trivial, trivial, w_case⟩
end start1
theorem witness_1 : WitnessClaimed_1 := ⟨start1.p0, start1.e0, start1.about1, start1.theMethod, start1.args0, start1.below0, start1.atStart⟩
end Jvm.Pilot.@@N@@
