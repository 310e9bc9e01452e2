import JvmDerived
import JvmDerived.Pilot.@@N@@Statement
import JvmDerived.Pilot.@@N@@Code
set_option linter.unusedVariables false
set_option linter.unusedSimpArgs false
namespace Jvm.Pilot.@@N@@
open Jvm Jvm.ClassFile Sem Op Lib Jvm.Free Jvm.Stand Jvm.LawKit Jvm.RoadKit Bundle Jvm.Pilot.@@N@@.Jvm.D
def Go (p : Program) (e : Env) (below : List Frame) (G : State → Prop) (T : State) (f : JFrame) : Prop := ∃ t, Steps p.tables e below (T.setTop f) t ∧ G t
theorem Go.step {p : Program} {e : Env} {below : List Frame} {G : State → Prop} {T T' : State} {f f' : JFrame} (k : ∀ t, Steps p.tables e below (T'.setTop f') t → Steps p.tables e below (T.setTop f) t) (h : Go p e below G T' f') : Go p e below G T f := by
  obtain ⟨t, h1, h2⟩ := h
  exact ⟨t, k t h1, h2⟩
def Fin1 (s : State) (below : List Frame) (Q : Option Value → Heap → List Loc → Prop) (k n : Nat) (t : State) : Prop := ∃ o, t.status = .running ∧ Ended t below o ∧ ∃ v L, o = .returned v ∧ Q v t.heap L ∧ FrameEnd s o t L k n
theorem of_go {p : Program} {e : Env} {below : List Frame} {s s₁ : State} {Q : Option Value → Heap → List Loc → Prop} {k n : Nat} {f f' : JFrame} (hf : f' = f) (h : Go p e below (Fin1 s below Q k n) s₁ f) :
    ∃ s₂ o, Steps p.tables e below (s₁.setTop f') s₂ ∧ s₂.status = .running ∧ Ended s₂ below o ∧ ∃ v L, o = .returned v ∧ Q v s₂.heap L ∧ FrameEnd s o s₂ L k n := by
  subst hf
  obtain ⟨t, h1, o, h2, h3, h4⟩ := h
  exact ⟨t, o, h1, h2, h3, h4⟩
section Ends
variable {p : Program} {l : Launch} {e : Env} {R : Room} {s : State} {m : MethodId} {args : Array Value} {below : List Frame} {meth : Method} {c : Code} {T : State} {locs : List Loc} {cells slots : Nat} {Q : Option Value → Heap → List Loc → Prop} {k n : Nat}
theorem goN (X : Stand p l e R s m args below meth c T locs cells slots) (hx : p.tables.exec = Jvm.exec) {pc : Nat} {Ls : Array Slot} {z : Int32} {t : FieldType} {rest : List Value} (hret : meth.sig.returnType = some t) (ht : t = .boolean ∨ t = .byte ∨ t = .char ∨ t = .short) (hlk : meth.locks = false)
    (hd : decode c.code pc = .ok (.ireturn, 1)) (hQ : Q (some (.int (nar t z))) T.heap locs) (hk : cells ≤ k) (hn : slots ≤ n) : Go p e below (Fin1 s below Q k n) T (mkF m pc Ls (.int z :: rest)) := by
  obtain ⟨fs, hr, hrun, hended, hW, hsame⟩ := X.leave (v := some (.int (nar t z))) (fun h => by rw [hret] at h; cases h) hlk
  exact ⟨_, Jvm.RoadKit.retN X hx hret ht hd hr, _, hrun, hended, _, _, rfl, hQ, ⟨_, rfl⟩, hW, hsame.mono hk hn⟩
theorem goO (X : Stand p l e R s m args below meth c T locs cells slots) (hx : p.tables.exec = Jvm.exec) {pc : Nat} {Ls : Array Slot} {w : Value} {t : FieldType} {i : Instr} {rest : List Value} (hret : meth.sig.returnType = some t) (hnw : narrow t w = w)
    (hi : (i = .ireturn ∧ (t = .int ∨ t = .boolean ∨ t = .byte ∨ t = .char ∨ t = .short) ∧ ∃ z, w = .int z) ∨ (i = .lreturn ∧ t = .long ∧ ∃ z, w = .long z) ∨ (i = .dreturn ∧ t = .double ∧ ∃ z, w = .double z) ∨ (i = .freturn ∧ t = .float ∧ ∃ z, w = .float z) ∨ (i = .areturn ∧ t.isReference = true ∧ w.isRef = true)) (hlk : meth.locks = false)
    (hd : decode c.code pc = .ok (i, 1)) (hQ : Q (some w) T.heap locs) (hk : cells ≤ k) (hn : slots ≤ n) : Go p e below (Fin1 s below Q k n) T (mkF m pc Ls (w :: rest)) := by
  obtain ⟨fs, hr, hrun, hended, hW, hsame⟩ := X.leave (v := some w) (fun h => by rw [hret] at h; cases h) hlk
  exact ⟨_, Jvm.RoadKit.retOut X hx hret hnw hi hd hr, _, hrun, hended, _, _, rfl, hQ, ⟨_, rfl⟩, hW, hsame.mono hk hn⟩
theorem goI (X : Stand p l e R s m args below meth c T locs cells slots) (hx : p.tables.exec = Jvm.exec) {pc : Nat} {Ls : Array Slot} {z : Int32} {rest : List Value} (hret : meth.sig.returnType = some .int) (hlk : meth.locks = false)
    (hd : decode c.code pc = .ok (.ireturn, 1)) (hQ : Q (some (.int z)) T.heap locs) (hk : cells ≤ k) (hn : slots ≤ n) : Go p e below (Fin1 s below Q k n) T (mkF m pc Ls (.int z :: rest)) :=
  goO X hx hret rfl (Or.inl ⟨rfl, Or.inl rfl, _, rfl⟩) hlk hd hQ hk hn
theorem goJ (X : Stand p l e R s m args below meth c T locs cells slots) (hx : p.tables.exec = Jvm.exec) {pc : Nat} {Ls : Array Slot} {z : Int64} {rest : List Value} (hret : meth.sig.returnType = some .long) (hlk : meth.locks = false)
    (hd : decode c.code pc = .ok (.lreturn, 1)) (hQ : Q (some (.long z)) T.heap locs) (hk : cells ≤ k) (hn : slots ≤ n) : Go p e below (Fin1 s below Q k n) T (mkF m pc Ls (.long z :: rest)) :=
  goO X hx hret rfl (Or.inr (Or.inl ⟨rfl, rfl, _, rfl⟩)) hlk hd hQ hk hn
theorem goA (X : Stand p l e R s m args below meth c T locs cells slots) (hx : p.tables.exec = Jvm.exec) {pc : Nat} {Ls : Array Slot} {w : Value} {t : FieldType} {rest : List Value} (hret : meth.sig.returnType = some t) (ht : t.isReference = true) (hw : w.isRef = true) (hlk : meth.locks = false)
    (hd : decode c.code pc = .ok (.areturn, 1)) (hQ : Q (some w) T.heap locs) (hk : cells ≤ k) (hn : slots ≤ n) : Go p e below (Fin1 s below Q k n) T (mkF m pc Ls (w :: rest)) :=
  goO X hx hret (by cases t <;> cases w <;> first | rfl | (simp [FieldType.isReference] at ht; done) | (simp [Value.isRef] at hw; done)) (Or.inr (Or.inr (Or.inr (Or.inr ⟨rfl, ht, hw⟩)))) hlk hd hQ hk hn
theorem goV (X : Stand p l e R s m args below meth c T locs cells slots) (hx : p.tables.exec = Jvm.exec) {pc : Nat} {Ls : Array Slot} (hret : meth.sig.returnType = none) (hlk : meth.locks = false)
    (hd : decode c.code pc = .ok (.return_, 1)) (hQ : Q none T.heap locs) (hk : cells ≤ k) (hn : slots ≤ n) : Go p e below (Fin1 s below Q k n) T (mkF m pc Ls []) := by
  obtain ⟨fs, hr, hrun, hended, hW, hsame⟩ := X.leave (v := none) (fun _ => rfl) hlk
  exact ⟨_, X.returnOut hx hret hd hr, _, hrun, hended, _, _, rfl, hQ, ⟨_, rfl⟩, hW, hsame.mono hk hn⟩
def FinW (s : State) (below : List Frame) (Q : Option Value → Heap → List Loc → Prop) (k n : Nat) (t : State) : Prop := ∃ o, t.status = .running ∧ Ended t below o ∧ ∃ v L, o = .returned v ∧ Q v t.heap L ∧ ReturnedEndW s o t L k n
theorem of_goW {p : Program} {e : Env} {below : List Frame} {s s₁ : State} {Q : Option Value → Heap → List Loc → Prop} {k n : Nat} {f f' : JFrame} (hf : f' = f) (h : Go p e below (FinW s below Q k n) s₁ f) :
    ∃ s₂ o, Steps p.tables e below (s₁.setTop f') s₂ ∧ s₂.status = .running ∧ Ended s₂ below o ∧ ∃ v L, o = .returned v ∧ Q v s₂.heap L ∧ ReturnedEndW s o s₂ L k n := by
  subst hf
  obtain ⟨t, h1, o, h2, h3, h4⟩ := h
  exact ⟨t, o, h1, h2, h3, h4⟩
theorem goNW {vm0 : Vm} {n1 : Nat} (hS : s.Since vm0 n1) (X : Stand p l e R (s.setVm vm0) m args below meth c T locs cells slots) (hkk : n1 ≤ T.heap.size) (hx : p.tables.exec = Jvm.exec) {pc : Nat} {Ls : Array Slot} {z : Int32} {t : FieldType} {rest : List Value} (hret : meth.sig.returnType = some t) (ht : t = .boolean ∨ t = .byte ∨ t = .char ∨ t = .short) (hlk : meth.locks = false)
    (hd : decode c.code pc = .ok (.ireturn, 1)) (hQ : Q (some (.int (nar t z))) T.heap locs) (hk : cells ≤ k) (hn : slots ≤ n) : Go p e below (FinW s below Q k n) T (mkF m pc Ls (.int z :: rest)) := by
  obtain ⟨fs, hr, hrun, hended, hW, hsame⟩ := X.leave (v := some (.int (nar t z))) (fun h => by rw [hret] at h; cases h) hlk
  obtain ⟨a1, a2, a3⟩ := hS.ended hW (show n1 ≤ (T.setFrames fs).heap.size from hkk) hsame
  exact ⟨_, Jvm.RoadKit.retN X hx hret ht hd hr, _, hrun, hended, _, _, rfl, hQ, ⟨_, rfl⟩, a1, a2, a3.mono hk hn⟩
theorem goOW {vm0 : Vm} {n1 : Nat} (hS : s.Since vm0 n1) (X : Stand p l e R (s.setVm vm0) m args below meth c T locs cells slots) (hkk : n1 ≤ T.heap.size) (hx : p.tables.exec = Jvm.exec) {pc : Nat} {Ls : Array Slot} {w : Value} {t : FieldType} {i : Instr} {rest : List Value} (hret : meth.sig.returnType = some t) (hnw : narrow t w = w)
    (hi : (i = .ireturn ∧ (t = .int ∨ t = .boolean ∨ t = .byte ∨ t = .char ∨ t = .short) ∧ ∃ z, w = .int z) ∨ (i = .lreturn ∧ t = .long ∧ ∃ z, w = .long z) ∨ (i = .dreturn ∧ t = .double ∧ ∃ z, w = .double z) ∨ (i = .freturn ∧ t = .float ∧ ∃ z, w = .float z) ∨ (i = .areturn ∧ t.isReference = true ∧ w.isRef = true)) (hlk : meth.locks = false)
    (hd : decode c.code pc = .ok (i, 1)) (hQ : Q (some w) T.heap locs) (hk : cells ≤ k) (hn : slots ≤ n) : Go p e below (FinW s below Q k n) T (mkF m pc Ls (w :: rest)) := by
  obtain ⟨fs, hr, hrun, hended, hW, hsame⟩ := X.leave (v := some w) (fun h => by rw [hret] at h; cases h) hlk
  obtain ⟨a1, a2, a3⟩ := hS.ended hW (show n1 ≤ (T.setFrames fs).heap.size from hkk) hsame
  exact ⟨_, Jvm.RoadKit.retOut X hx hret hnw hi hd hr, _, hrun, hended, _, _, rfl, hQ, ⟨_, rfl⟩, a1, a2, a3.mono hk hn⟩
theorem goIW {vm0 : Vm} {n1 : Nat} (hS : s.Since vm0 n1) (X : Stand p l e R (s.setVm vm0) m args below meth c T locs cells slots) (hkk : n1 ≤ T.heap.size) (hx : p.tables.exec = Jvm.exec) {pc : Nat} {Ls : Array Slot} {z : Int32} {rest : List Value} (hret : meth.sig.returnType = some .int) (hlk : meth.locks = false)
    (hd : decode c.code pc = .ok (.ireturn, 1)) (hQ : Q (some (.int z)) T.heap locs) (hk : cells ≤ k) (hn : slots ≤ n) : Go p e below (FinW s below Q k n) T (mkF m pc Ls (.int z :: rest)) :=
  goOW hS X hkk hx hret rfl (Or.inl ⟨rfl, Or.inl rfl, _, rfl⟩) hlk hd hQ hk hn
theorem goAW {vm0 : Vm} {n1 : Nat} (hS : s.Since vm0 n1) (X : Stand p l e R (s.setVm vm0) m args below meth c T locs cells slots) (hkk : n1 ≤ T.heap.size) (hx : p.tables.exec = Jvm.exec) {pc : Nat} {Ls : Array Slot} {w : Value} {t : FieldType} {rest : List Value} (hret : meth.sig.returnType = some t) (ht : t.isReference = true) (hw : w.isRef = true) (hlk : meth.locks = false)
    (hd : decode c.code pc = .ok (.areturn, 1)) (hQ : Q (some w) T.heap locs) (hk : cells ≤ k) (hn : slots ≤ n) : Go p e below (FinW s below Q k n) T (mkF m pc Ls (w :: rest)) :=
  goOW hS X hkk hx hret (by cases t <;> cases w <;> first | rfl | (simp [FieldType.isReference] at ht; done) | (simp [Value.isRef] at hw; done)) (Or.inr (Or.inr (Or.inr (Or.inr ⟨rfl, ht, hw⟩)))) hlk hd hQ hk hn
theorem goVW {vm0 : Vm} {n1 : Nat} (hS : s.Since vm0 n1) (X : Stand p l e R (s.setVm vm0) m args below meth c T locs cells slots) (hkk : n1 ≤ T.heap.size) (hx : p.tables.exec = Jvm.exec) {pc : Nat} {Ls : Array Slot} (hret : meth.sig.returnType = none) (hlk : meth.locks = false)
    (hd : decode c.code pc = .ok (.return_, 1)) (hQ : Q none T.heap locs) (hk : cells ≤ k) (hn : slots ≤ n) : Go p e below (FinW s below Q k n) T (mkF m pc Ls []) := by
  obtain ⟨fs, hr, hrun, hended, hW, hsame⟩ := X.leave (v := none) (fun _ => rfl) hlk
  obtain ⟨a1, a2, a3⟩ := hS.ended hW (show n1 ≤ (T.setFrames fs).heap.size from hkk) hsame
  exact ⟨_, X.returnOut hx hret hd hr, _, hrun, hended, _, _, rfl, hQ, ⟨_, rfl⟩, a1, a2, a3.mono hk hn⟩
theorem narB {z : Int32} (h : z = 0 ∨ z = 1) : nar .boolean z = z := by rcases h with rfl | rfl <;> rfl
end Ends
theorem own_nb (x : Int32) : nar .byte (x.toInt8.toInt32) = x.toInt8.toInt32 := by
  apply Int32.toInt_inj.mp
  have h1 := c_i2b x
  have h2 := c_i2b (x.toInt8.toInt32)
  show (x.toInt8.toInt32.toInt8.toInt32).toInt = _
  omega
theorem own_ch (x : Int32) : ¬ (255 : Int32) < (x &&& (255 : Int32)).toUInt32.toUInt16.toUInt32.toInt32 ∧ nar .char ((x &&& (255 : Int32)).toUInt32.toUInt16.toUInt32.toInt32) = (x &&& (255 : Int32)).toUInt32.toUInt16.toUInt32.toInt32 ∧ fits .char (.int ((x &&& (255 : Int32)).toUInt32.toUInt16.toUInt32.toInt32)) = true ∧ 0 ≤ ((x &&& (255 : Int32)).toUInt32.toUInt16.toUInt32.toInt32).toInt := by
  refine ⟨?_, ?_, fits_nar_char (x &&& 255), ?_⟩
  · rw [i2c_mask]
    have h := c_and x 255 (by decide)
    have h5 : (255 : Int32).toInt = 255 := rfl
    simp only [Int32.lt_iff_toInt_lt, Int32.reduceToInt]
    omega
  · show (_ : Int32).toUInt32.toUInt16.toUInt32.toInt32 = _
    rw [i2c_mask, i2c_mask]
  · rw [i2c_mask]
    exact (c_and x 255 (by decide)).1
theorem own_orN {X Y : Nat} (hX : X < 256) (hY : Y / 256 * 256 = Y) : Y ||| X = Y + X := by
  have k := Nat.shiftLeft_add_eq_or_of_lt (i := 8) hX (Y / 256)
  rw [Nat.shiftLeft_eq, show Y / 256 * 2 ^ 8 = Y from hY] at k
  exact k.symm
theorem own_m255 (y : Int32) : (y &&& (255 : Int32)).toInt = y.toInt % 256 := by
  have h1 : (y &&& 255).toBitVec.toNat = y.toBitVec.toNat % 256 := by
    show (y.toBitVec &&& (255 : Int32).toBitVec).toNat = _
    rw [BitVec.toNat_and]
    exact Nat.and_two_pow_sub_one_eq_mod _ 8
  show (y &&& 255).toBitVec.toInt = y.toBitVec.toInt % 256
  rw [BitVec.toInt_eq_toNat_cond, BitVec.toInt_eq_toNat_cond, h1]
  have := y.toBitVec.isLt
  split <;> split <;> omega
theorem own_or8 (a b : Int32) (ha : 0 ≤ a.toInt) (ha' : a.toInt < 256) (hb : 0 ≤ b.toInt) (hb' : b.toInt < 256) : ((a <<< ((0 : Int32) &&& 31)) ||| (b <<< ((8 : Int32) &&& 31))).toInt = a.toInt + 256 * b.toInt := by
  have h1 := c_ishl a 0 0 rfl
  have h2 := c_ishl b 8 8 rfl
  obtain ⟨x, ex⟩ : ∃ x, x = a <<< ((0 : Int32) &&& 31) := ⟨_, rfl⟩
  obtain ⟨y, ey⟩ : ∃ y, y = b <<< ((8 : Int32) &&& 31) := ⟨_, rfl⟩
  rw [← ex] at h1 ⊢
  rw [← ey] at h2 ⊢
  have e1 : x.toInt = a.toInt := by have := x.toInt_lt; have := x.le_toInt; omega
  have e2 : y.toInt = 256 * b.toInt := by have := y.toInt_lt; have := y.le_toInt; omega
  have n1 : (x.toBitVec.toNat : Int) = a.toInt := by
    rw [← e1]; show _ = x.toBitVec.toInt; have h : 0 ≤ x.toBitVec.toInt := by show 0 ≤ x.toInt; omega
    rw [BitVec.toInt_eq_toNat_cond] at h ⊢; have := x.toBitVec.isLt; split at h <;> split <;> omega
  have n2 : (y.toBitVec.toNat : Int) = 256 * b.toInt := by
    rw [← e2]; show _ = y.toBitVec.toInt; have h : 0 ≤ y.toBitVec.toInt := by show 0 ≤ y.toInt; omega
    rw [BitVec.toInt_eq_toNat_cond] at h ⊢; have := y.toBitVec.isLt; split at h <;> split <;> omega
  have n3 : (x ||| y).toBitVec.toNat = y.toBitVec.toNat + x.toBitVec.toNat := by
    show (x.toBitVec ||| y.toBitVec).toNat = _
    rw [BitVec.toNat_or, Nat.or_comm]
    generalize x.toBitVec.toNat = X at n1 ⊢
    generalize y.toBitVec.toNat = Y at n2 ⊢
    have hX : X < 256 := by omega
    have hY : Y / 256 * 256 = Y := by omega
    exact own_orN hX hY
  show (x ||| y).toBitVec.toInt = _
  rw [BitVec.toInt_eq_toNat_cond, n3]
  split <;> omega
def own_gc (a b : Int32) : Int32 := (((a &&& (255 : Int32)) <<< ((0 : Int32) &&& 31)) ||| ((b &&& (255 : Int32)) <<< ((8 : Int32) &&& 31))).toUInt32.toUInt16.toUInt32.toInt32
def oL (c : Int32) : Int32 := (c >>> ((0 : Int32) &&& 31)).toInt8.toInt32
def oH (c : Int32) : Int32 := (c >>> ((8 : Int32) &&& 31)).toInt8.toInt32
theorem own_gcp (c : Int32) (h0 : 0 ≤ c.toInt) (h1 : c.toInt ≤ 65535) : own_gc (oL c) (oH c) = c := by
  have a1 := own_m255 (oL c)
  have a2 := own_m255 (oH c)
  have b1 := c_i2b (c >>> ((0 : Int32) &&& 31))
  have b2 := c_i2b (c >>> ((8 : Int32) &&& 31))
  have s1 := c_ishr c 0 0 rfl
  have s2 := c_ishr c 8 8 rfl
  have e1 : (oL c &&& 255).toInt = c.toInt % 256 := by rw [a1]; unfold oL; omega
  have e2 : (oH c &&& 255).toInt = c.toInt / 256 := by rw [a2]; unfold oH; omega
  have k := own_or8 (oL c &&& 255) (oH c &&& 255) (by omega) (by omega) (by omega) (by omega)
  have m := c_i2c ((oL c &&& (255 : Int32)) <<< ((0 : Int32) &&& 31) ||| (oH c &&& (255 : Int32)) <<< ((8 : Int32) &&& 31))
  apply Int32.toInt_inj.mp
  show (own_gc _ _).toInt = _
  unfold own_gc
  omega
theorem own_neF {Z : State} {h : Heap} {a a' : Addr} {C f d : String} {v w : Value} (F : Fld Z h a C f d v) (G : Fld Z h a' C f d w) (q : v ≠ w) : a ≠ a' := by
  rintro rfl
  obtain ⟨c1, i1, k1, j1, f1, g1, g2, g3, g4, g5, g6, g7⟩ := F
  obtain ⟨c2, i2, k2, j2, f2, r1, r2, r3, r4, r5, r6, r7⟩ := G
  cases g1.symm.trans r1
  cases g2.symm.trans r2
  exact q (Option.some.inj (g7.symm.trans r7))
theorem own_neA {Z : State} {a0 : Array Value} {h : Heap} {a b : Addr} {k : ClassId} {ty : FieldType} {n : Int32} {vs : List Value} {d : Value} {C : String} {sz : Nat} (w : (Cond.instantiable C sz).before a0 Z = true) (V : Arv Z h b k ty n vs d) (E : Exa Z h a C) : b ≠ a := by
  rintro rfl
  obtain ⟨cl, ⟨v1, ⟨-, kk, v2, cm, v3⟩, -⟩, -⟩ := V
  obtain ⟨ce, ke, e1, e2, e3, -⟩ := E
  cases v1.symm.trans e1
  obtain ⟨cI, kI, hfI, hkI, hkindI, -⟩ := Cond.instantiable_spec w
  cases e2.symm.trans hfI
  cases hkI.symm.trans v2
  rw [hkindI] at v3; cases v3
theorem own_backSI {p : Program} {l : Launch} {e : Env} {R : Room} {s : State} {args : Array Value} {below : List Frame} {Z : State} {a0 : Array Value} {h : Heap} {y : MethodName} {bytes : ByteArray} {maxL : Nat} {ret : Option FieldType} {rm : Room} {len W : Nat} {as' : Array Value} {Q : Option Value → Heap → List Loc → Prop}
    (hM : MetFree l y (head1 [Cond.code y bytes maxL ret] rm) (fun a U => a = as' ∧ Z.Warmed39 U.vm ∧ U.heap = h ∧ U.vm.interned = Z.vm.interned) (fun _ _ _ _ _ => True) (fun _ U o U' => ∃ v L, o = .returned v ∧ Q v U'.heap L ∧ ReturnedEndW U o U' L rm.cells rm.slots))
    (hZ : Z.Warmed39 s.vm) (hI : s.vm.interned = Z.vm.interned) (wc : (Cond.code y bytes maxL ret).before a0 Z = true) (wz : (Cond.initialized y.cls).before a0 Z = true) (hf : rm.frames + 1 ≤ R.frames) (hl : W + (maxL + 11) + rm.locals ≤ R.locals) :
    BackS l R p e below s args y len W (fun A a => a = as' ∧ A.U.heap = h ∧ A.cells + rm.cells ≤ R.cells ∧ A.slots + rm.slots ≤ R.slots)
      (fun A _ v B => ∃ L, Q v B.U.heap L ∧ B.locs = A.locs ++ L ∧ B.cells = A.cells + rm.cells ∧ B.slots = A.slots + rm.slots) :=
  BackS.of_freeW (bytes := bytes) (maxL := maxL) (ret := ret) (E := fun _ _ o t L k n => k = rm.cells ∧ n = rm.slots ∧ ∃ v, o = .returned v ∧ Q v t.heap L) hM hf hl
    (fun m meth c A a Y hp => have hU : Z.Warmed39 A.U.vm := wtrans hZ Y.warmed
      ⟨by show (Cond.and _ .tt).before a A.U = true; rw [Cond.before_and, mv hU wc]; rfl, mv hU wc, mv hU wz, hp.2.2.1, hp.2.2.2⟩)
    (fun m meth c A a g mk Y hp => ⟨hp.1, wtrans hZ Y.warmed, hp.2.1, Y.warmed.interned_eq.trans hI⟩) (fun _ _ _ _ _ _ _ _ _ => trivial)
    (fun _ _ _ _ ⟨v, L, h1, h2, h3⟩ => ⟨L, _, _, h3, rfl, rfl, v, h1, h2⟩)
    (fun m meth c A a g mk v t L k n Y hp _ _ ⟨e1, e2, v', e3, e4⟩ => by cases e3; subst e1 e2; exact ⟨L, e4, rfl, rfl, rfl⟩)
theorem own_IB {Z : State} {vm : Vm} (h : vm.interned = Z.vm.interned) : IB Z vm [] := ⟨#[], by rw [h]; simp, fun q hq => by simp at hq⟩
theorem own_nc (x : Int32) : nar .char (x.toUInt32.toUInt16.toUInt32.toInt32) = x.toUInt32.toUInt16.toUInt32.toInt32 := by
  apply Int32.toInt_inj.mp
  have h1 := c_i2c x
  have h2 := c_i2c (x.toUInt32.toUInt16.toUInt32.toInt32)
  show (x.toUInt32.toUInt16.toUInt32.toInt32.toUInt32.toUInt16.toUInt32.toInt32).toInt = _
  omega
theorem own_lon (c : Int32) : nar .byte ((c >>> ((0 : Int32) &&& 31)).toInt8.toInt32) = oL c := own_nb _
theorem own_hin (c : Int32) : nar .byte ((c >>> ((8 : Int32) &&& 31)).toInt8.toInt32) = oH c := own_nb _
theorem own_lof (c : Int32) : fits .byte (.int (oL c)) = true := fits_nar_byte _
theorem own_hif (c : Int32) : fits .byte (.int (oH c)) = true := fits_nar_byte _
theorem own_gcn (c : Int32) (h : 0 ≤ c.toInt ∧ c.toInt ≤ 65535) : nar .char ((((oL c &&& (255 : Int32)) <<< ((0 : Int32) &&& 31)) ||| ((oH c &&& (255 : Int32)) <<< ((8 : Int32) &&& 31))).toUInt32.toUInt16.toUInt32.toInt32) = c := (own_nc _).trans (own_gcp c h.1 h.2)
def own_US (Z : State) : Prop := Sta Z Z.heap "java/lang/StringUTF16" "$assertionsDisabled" "Z" (.int 1) ∧ Sta Z Z.heap "java/lang/StringUTF16" "HI_BYTE_SHIFT" "I" (.int 0) ∧ Sta Z Z.heap "java/lang/StringUTF16" "LO_BYTE_SHIFT" "I" (.int 8)
theorem own_eqk {args : Array Value} {s : State} {t : Term} {k : Int32} (h : (Jvm.Cond.eq t (Term.int k)).value args s none s [] = some true) : t.eval args s none [] s = some (.int k) := by
  simp only [Cond.value, Term.eval] at h
  cases ht : t.eval args s none [] s with
  | none => simp [ht] at h
  | some x => cases x <;> simp [ht] at h ⊢; exact h
theorem own_sA {Z : State} {a0 : Array Value} (hw : ∀ d ∈ tables_1, d.before a0 Z = true) : ∀ a ∈ Bundle.stringAtoms, a.before a0 Z = true := by
  intro a ha
  simp only [Bundle.stringAtoms, List.mem_cons, List.not_mem_nil, or_false] at ha
  rcases ha with rfl | rfl | rfl | rfl | rfl | rfl | rfl
  all_goals first | exact hw _ (List.mem_of_getElem? (i := 9) rfl) | exact hw _ (List.mem_of_getElem? (i := 8) rfl) | exact hw _ (List.mem_of_getElem? (i := 21) rfl) | exact hw _ (List.mem_of_getElem? (i := 22) rfl) | exact hw _ (List.mem_of_getElem? (i := 23) rfl) | exact hw _ (List.mem_of_getElem? (i := 24) rfl) | exact hw _ (List.mem_of_getElem? (i := 25) rfl)
abbrev Ix (i : Int32) (k : Nat) : Prop := i = Int32.ofNat k ∧ k ≤ 100
def own_0 : Nat → Int32 := fun _ => 0
def own_tb (f : Nat → Int32) : List Value := (List.range 40).map (fun j => Value.int (f j))
def own_up (f : Nat → Int32) (k : Nat) (v : Int32) : Nat → Int32 := fun j => if j = k then v else f j
theorem own_upk {f : Nat → Int32} {k : Nat} {v : Int32} : own_up f k v k = v := if_pos rfl
theorem own_upn {f : Nat → Int32} {k j : Nat} {v : Int32} (h : j ≠ k) : own_up f k v j = f j := if_neg h
theorem own_tbg (f : Nat → Int32) (d : Value) {j : Nat} (h : j < 40) : (own_tb f).getD j d = .int (f j) := by
  simp [own_tb, List.getD_eq_getElem?_getD, h]
theorem own_tbl (f : Nat → Int32) : (own_tb f).length = 40 := by simp [own_tb]
theorem own_tbs (f : Nat → Int32) (k : Nat) (v : Int32) : (own_tb f).set k (.int v) = own_tb (own_up f k v) := by
  apply List.ext_getElem?
  intro j
  simp only [own_tb, List.getElem?_set, List.length_map, List.length_range, List.getElem?_map, own_up]
  by_cases h : k = j
  · subst h
    by_cases h2 : k < 40
    · simp [h2]
    · simp [h2]
  · have h' : ¬ j = k := fun q => h q.symm
    by_cases h2 : j < 40
    · simp [h, h', h2]
    · simp [h, h2]
theorem own_tz : ∀ i, (own_tb own_0).getD i (.int 0) = ([] : List Value).getD i (.int 0) := by
  intro i
  by_cases h : i < 40
  · rw [own_tbg _ _ h]; rfl
  · simp [own_tb, List.getD_eq_getElem?_getD, h]
theorem own_ofn {k : Nat} (h : k ≤ 100) : (Int32.ofNat k).toInt = k := Int32.toInt_ofNat_of_lt (by omega)
theorem own_ixlt {i N : Int32} {k n : Nat} (hi : Ix i k) (hN : Ix N n) : i < N ↔ k < n := by
  rw [Int32.lt_iff_toInt_lt, hi.1, hN.1, own_ofn hi.2, own_ofn hN.2]; omega
theorem own_ixeq {i N : Int32} {k n : Nat} (hi : Ix i k) (hN : Ix N n) : i = N ↔ k = n := by
  rw [← Int32.toInt_inj, hi.1, hN.1, own_ofn hi.2, own_ofn hN.2]; omega
theorem own_ixS {i : Int32} {k : Nat} (hi : Ix i k) (h : k < 100) : Ix (i + 1) (k + 1) := ⟨by rw [hi.1]; exact (Int32.ofNat_add k 1).symm, h⟩
theorem own_ixn {i : Int32} {k : Nat} (hi : Ix i k) : i.toNatClampNeg = k := by
  show i.toInt.toNat = k
  rw [hi.1, own_ofn hi.2]; omega
theorem own_ix0 : Ix 0 0 := ⟨rfl, by decide⟩
theorem own_ixnn {i : Int32} {k : Nat} (hi : Ix i k) : ¬ i < 0 := by
  rw [own_ixlt hi own_ix0]; omega
theorem own_ixb {i N : Int32} {k n : Nat} (hi : Ix i k) (hN : Ix N n) (h : k < n) : ¬ i < 0 ∧ i < N := ⟨own_ixnn hi, (own_ixlt hi hN).mpr h⟩
theorem own_d1 : ∀ k : Fin 51, Int32.ofNat k.val <<< ((1 : Int32) &&& 31) = Int32.ofNat (2 * k.val) := by decide +kernel
theorem own_ixD {i : Int32} {k : Nat} (hi : Ix i k) (h : k ≤ 50) : Ix (i <<< ((1 : Int32) &&& 31)) (2 * k) := ⟨by rw [hi.1]; exact own_d1 ⟨k, by omega⟩, by omega⟩
theorem own_d2 : ∀ k : Fin 51, Int32.ofNat (2 * k.val) >>> ((1 : Int32) &&& 31) = Int32.ofNat k.val := by decide +kernel
theorem own_ixH {i N : Int32} {k : Nat} (hi : Ix i (2 * k)) (hN : Ix N k) : i >>> ((1 : Int32) &&& 31) = N := by
  have := hi.2
  rw [hi.1, hN.1]; exact own_d2 ⟨k, by omega⟩
theorem own_ixR {i N : Int32} {k : Nat} (hi : Ix i k) (hN : Ix N k) : i = N := by rw [hi.1, hN.1]
theorem own_d3 : ∀ k : Fin 51, 0 < k.val → ((Int32.ofNat k.val - Int32.ofNat (2 * k.val)).toUInt32 >>> ((31 : Int32) &&& 31).toUInt32).toInt32.toInt8.toInt32 = 1 := by decide +kernel
theorem own_d4 (N : Int32) : ((N - N).toUInt32 >>> ((31 : Int32) &&& 31).toUInt32).toInt32.toInt8.toInt32 = 0 := by
  rw [show N - N = 0 from Int32.sub_self N]; rfl
def own_st (f : Nat → Int32) (nn : Nat) (nb : Int32) (g : Nat → Int32) (co : Int32) : Prop := (co = 0 ∧ Ix nb nn ∧ ∀ j, j < nn → ¬ (255 : Int32) < f j ∧ g j = (f j).toInt8.toInt32) ∨ (co = 1 ∧ 0 < nn ∧ Ix nb (2 * nn) ∧ ∀ j, j < nn → g (2 * j) = oL (f j) ∧ g (2 * j + 1) = oH (f j))
theorem own_stco {f g : Nat → Int32} {nn : Nat} {nb co : Int32} (h : own_st f nn nb g co) : co = 0 ∨ co = 1 := by
  rcases h with ⟨h, -⟩ | ⟨h, -⟩
  · exact Or.inl h
  · exact Or.inr h
theorem own_stcd {f g : Nat → Int32} {nn : Nat} {N nb co : Int32} (h : own_st f nn nb g co) (hN : Ix N nn) : ((N - nb).toUInt32 >>> ((31 : Int32) &&& 31).toUInt32).toInt32.toInt8.toInt32 = co := by
  rcases h with ⟨h, k, -⟩ | ⟨h, k0, k, -⟩
  · rw [h, own_ixR k hN]; exact own_d4 N
  · have := k.2
    rw [h, hN.1, k.1]; exact own_d3 ⟨nn, by omega⟩ k0
theorem own_stln {f g : Nat → Int32} {nn : Nat} {N nb co : Int32} (h : own_st f nn nb g co) (hN : Ix N nn) : nb >>> (co &&& 31) = N := by
  rcases h with ⟨h, k, -⟩ | ⟨h, k0, k, -⟩
  · rw [h, own_ixR k hN, show ((0 : Int32) &&& 31) = 0 from rfl]; exact Int32.shiftRight_zero
  · rw [h]; exact own_ixH k hN
theorem own_ste {f g : Nat → Int32} {nn : Nat} {nb co : Int32} (h : own_st f nn nb g co) : nb = 0 ↔ nn = 0 := by
  rcases h with ⟨h, k, -⟩ | ⟨h, k0, k, -⟩
  · exact own_ixeq k own_ix0
  · rw [own_ixeq k own_ix0]; omega
def own_dg (f : Nat → Int32) (k : Nat) : Prop := ∀ j, j < k → 48 ≤ (f j).toInt ∧ (f j).toInt ≤ 57
theorem own_dgS {f : Nat → Int32} {k : Nat} {v : Int32} (h : own_dg f k) (hv : 48 ≤ v.toInt ∧ v.toInt ≤ 57) : own_dg (own_up f k v) (k + 1) := by
  intro j hj
  by_cases q : j = k
  · subst q; rw [own_upk]; exact hv
  · rw [own_upn q]; exact h j (by omega)
def own_nm (f : Nat → Int32) (nn : Nat) (r : Int32) : Prop := (r = 1 ∧ 1 ≤ nn ∧ nn ≤ 18 ∧ own_dg f nn) ∨ (r = 0 ∧ (nn = 0 ∨ 18 < nn ∨ ∃ j, j < nn ∧ ¬ (48 ≤ (f j).toInt ∧ (f j).toInt ≤ 57)))
def own_s1 (f : Nat → Int32) (nn : Nat) (u1 : Int32) (k1 : Nat) (c1 : Int32) : Prop := ∀ j, j < nn → (¬ u1 = 0 ∧ j = k1 → f j = c1) ∧ (¬ (¬ u1 = 0 ∧ j = k1) → 48 ≤ (f j).toInt ∧ (f j).toInt ≤ 57)
def own_s2 (f : Nat → Int32) (nn : Nat) (u1 : Int32) (k1 : Nat) (c1 : Int32) (u2 : Int32) (k2 : Nat) (c2 : Int32) : Prop := ∀ j, j < nn → (¬ u2 = 0 ∧ j = k2 → f j = c2) ∧ (¬ (¬ u2 = 0 ∧ j = k2) → (¬ u1 = 0 ∧ j = k1 → f j = c1) ∧ (¬ (¬ u1 = 0 ∧ j = k1) → 48 ≤ (f j).toInt ∧ (f j).toInt ≤ 57))
theorem own_s1n {f : Nat → Int32} {nn : Nat} {u1 P1 N : Int32} {k1 : Nat} (c1 : Int32) (h : own_dg f 20) (hn : nn ≤ 20) (hP : Ix P1 k1) (hN : Ix N nn) (q : u1 = 0 ∨ ¬ P1 < N) : own_s1 f nn u1 k1 c1 := by
  intro j hj
  rw [own_ixlt hP hN] at q
  refine ⟨fun z => ?_, fun _ => h j (by omega)⟩
  rcases q with q | q
  · exact absurd q z.1
  · omega
theorem own_s1y {f : Nat → Int32} {nn : Nat} {u1 c1 : Int32} {k1 : Nat} (h : own_dg f 20) (hn : nn ≤ 20) (q : ¬ u1 = 0) : own_s1 (own_up f k1 c1) nn u1 k1 c1 := by
  intro j hj
  refine ⟨fun z => by rw [z.2, own_upk], fun z => ?_⟩
  rw [own_upn (fun w => z ⟨q, w⟩)]
  exact h j (by omega)
theorem own_s2n {f : Nat → Int32} {nn : Nat} {u1 u2 P2 N c1 : Int32} {k1 k2 : Nat} (c2 : Int32) (h : own_s1 f nn u1 k1 c1) (hP : Ix P2 k2) (hN : Ix N nn) (q : u2 = 0 ∨ ¬ P2 < N) : own_s2 f nn u1 k1 c1 u2 k2 c2 := by
  intro j hj
  rw [own_ixlt hP hN] at q
  refine ⟨fun z => ?_, fun _ => h j hj⟩
  rcases q with q | q
  · exact absurd q z.1
  · omega
theorem own_s2y {f : Nat → Int32} {nn : Nat} {u1 u2 c1 c2 : Int32} {k1 k2 : Nat} (h : own_s1 f nn u1 k1 c1) (q : ¬ u2 = 0) : own_s2 (own_up f k2 c2) nn u1 k1 c1 u2 k2 c2 := by
  intro j hj
  refine ⟨fun z => by rw [z.2, own_upk], fun z => ?_⟩
  rw [own_upn (fun w => z ⟨q, w⟩)]
  exact h j hj
def own_rg (f : Nat → Int32) (nn : Nat) : Prop := ∀ j, j < nn → 0 ≤ (f j).toInt ∧ (f j).toInt ≤ 65535
theorem own_s2r {f : Nat → Int32} {nn : Nat} {u1 u2 c1 c2 : Int32} {k1 k2 : Nat} (h : own_s2 f nn u1 k1 c1 u2 k2 c2) (r1 : 0 ≤ c1.toInt ∧ c1.toInt ≤ 65535) (r2 : 0 ≤ c2.toInt ∧ c2.toInt ≤ 65535) : own_rg f nn := by
  intro j hj
  obtain ⟨a, b⟩ := h j hj
  by_cases q2 : ¬ u2 = 0 ∧ j = k2
  · rw [a q2]; exact r2
  · obtain ⟨b1, b2⟩ := b q2
    by_cases q1 : ¬ u1 = 0 ∧ j = k1
    · rw [b1 q1]; exact r1
    · have := b2 q1; omega
def own_dig (c : Int32) : Int32 := if 48 ≤ c.toInt ∧ c.toInt ≤ 57 then 1 else 0
theorem own_dig0 (c : Int32) : ¬ own_dig c = 0 ↔ (48 ≤ c.toInt ∧ c.toInt ≤ 57) := by
  unfold own_dig
  split
  · simp [*]
  · simp [*]
theorem own_fin {f : Nat → Int32} {nn : Nat} {N P1 P2 u1 u2 c1 c2 o1 o2 r x : Int32} {k1 k2 : Nat} (hN : Ix N nn) (h1 : Ix P1 k1) (h2 : Ix P2 k2) (hs : own_s2 f nn u1 k1 c1 u2 k2 c2) (hr : own_nm f nn r)
    (ho1 : ¬ o1 = 0 ↔ (u1 = 0 ∨ ¬ P1 < N ∨ (¬ u2 = 0 ∧ P2 = P1) ∨ ¬ own_dig c1 = 0)) (ho2 : ¬ o2 = 0 ↔ (u2 = 0 ∨ ¬ P2 < N ∨ ¬ own_dig c2 = 0)) (hx : (x = 1 ∧ ¬ N < 1 ∧ ¬ 18 < N ∧ ¬ o1 = 0 ∧ ¬ o2 = 0) ∨ (x = 0 ∧ ¬ (¬ N < 1 ∧ ¬ 18 < N ∧ ¬ o1 = 0 ∧ ¬ o2 = 0))) : r = x := by
  have i1 : Ix 1 1 := ⟨rfl, by decide⟩
  have i18 : Ix 18 18 := ⟨rfl, by decide⟩
  rw [ho1, ho2, own_ixlt hN i1, own_ixlt i18 hN, own_ixlt h1 hN, own_ixlt h2 hN, own_ixeq h2 h1, own_dig0, own_dig0] at hx
  have key : own_dg f nn ↔ ((u1 = 0 ∨ ¬ k1 < nn ∨ (¬ u2 = 0 ∧ k2 = k1) ∨ (48 ≤ c1.toInt ∧ c1.toInt ≤ 57)) ∧ (u2 = 0 ∨ ¬ k2 < nn ∨ (48 ≤ c2.toInt ∧ c2.toInt ≤ 57))) := by
    constructor
    · intro hd
      constructor
      · by_cases q1 : u1 = 0
        · exact Or.inl q1
        · by_cases q2 : k1 < nn
          · by_cases q3 : ¬ u2 = 0 ∧ k2 = k1
            · exact Or.inr (Or.inr (Or.inl q3))
            · have := ((hs k1 q2).2 (fun z => q3 ⟨z.1, z.2.symm⟩)).1 ⟨q1, rfl⟩
              rw [← this]
              exact Or.inr (Or.inr (Or.inr (hd k1 q2)))
          · exact Or.inr (Or.inl q2)
      · by_cases q1 : u2 = 0
        · exact Or.inl q1
        · by_cases q2 : k2 < nn
          · rw [← (hs k2 q2).1 ⟨q1, rfl⟩]
            exact Or.inr (Or.inr (hd k2 q2))
          · exact Or.inr (Or.inl q2)
    · intro ⟨a, b⟩ j hj
      obtain ⟨s1, s2⟩ := hs j hj
      by_cases q2 : ¬ u2 = 0 ∧ j = k2
      · rw [s1 q2]
        rcases b with b | b | b
        · exact absurd b q2.1
        · have := q2.2; omega
        · exact b
      · obtain ⟨s3, s4⟩ := s2 q2
        by_cases q1 : ¬ u1 = 0 ∧ j = k1
        · rw [s3 q1]
          rcases a with a | a | a | a
          · exact absurd a q1.1
          · have := q1.2; omega
          · exact absurd ⟨a.1, q1.2.trans a.2.symm⟩ q2
          · exact a
        · exact s4 q1
  rw [← key] at hx
  rcases hx with ⟨rx, e1, e2, hd⟩ | ⟨rx, hno⟩
  · rcases hr with ⟨r1, -⟩ | ⟨-, hh⟩
    · rw [r1, rx]
    · exfalso
      rcases hh with hh | hh | ⟨j, hj, hh⟩
      · omega
      · omega
      · exact hh (hd j hj)
  · rcases hr with ⟨-, a, b, hd⟩ | ⟨r0, -⟩
    · exact absurd ⟨by omega, by omega, hd⟩ hno
    · rw [r0, rx]
theorem own_i16 : ∀ k : Fin 16, let y := Int64.ofNat k.val; 48 ≤ (((48 : Int32) + (y - y / 10 * 10).toInt32).toUInt32.toUInt16.toUInt32.toInt32).toInt ∧ (((48 : Int32) + (y - y / 10 * 10).toInt32).toUInt32.toUInt16.toUInt32.toInt32).toInt ≤ 57 := by decide +kernel
theorem own_and15 (X : Int64) : ∃ k : Fin 16, X &&& (15 : Int64) = Int64.ofNat k.val := by
  have h : (X &&& (15 : Int64)).toBitVec.toNat < 16 := by
    have : (X &&& (15 : Int64)).toBitVec.toNat = X.toBitVec.toNat &&& 15 := rfl
    rw [this]
    exact Nat.lt_succ_of_le Nat.and_le_right
  refine ⟨⟨_, h⟩, ?_⟩
  apply Int64.toBitVec_inj.mp
  apply BitVec.eq_of_toNat_eq
  show _ = (BitVec.ofNat 64 _).toNat
  rw [BitVec.toNat_ofNat, Nat.mod_eq_of_lt]
  exact Nat.lt_trans h (by decide)
theorem own_pv (X : Int64) : 48 ≤ (((48 : Int32) + (((X &&& (15 : Int64)) - ((X &&& (15 : Int64)) / (10 : Int64)) * (10 : Int64)).toInt32)).toUInt32.toUInt16.toUInt32.toInt32).toInt ∧ (((48 : Int32) + (((X &&& (15 : Int64)) - ((X &&& (15 : Int64)) / (10 : Int64)) * (10 : Int64)).toInt32)).toUInt32.toUInt16.toUInt32.toInt32).toInt ≤ 57 := by
  obtain ⟨k, hk⟩ := own_and15 X
  rw [hk]
  exact own_i16 k
abbrev own_cp (f g : Nat → Int32) (nn k : Nat) : Prop := k ≤ nn ∧ (∀ j, j < k → ¬ (255 : Int32) < f j ∧ g j = (f j).toInt8.toInt32) ∧ (k = nn ∨ (255 : Int32) < f k)
abbrev own_ci (f g : Nat → Int32) (k : Nat) : Prop := ∀ j, j < k → ¬ (255 : Int32) < f j ∧ g j = (f j).toInt8.toInt32
theorem own_ciS {f g : Nat → Int32} {k : Nat} (h : own_ci f g k) (hv : ¬ (255 : Int32) < f k) : own_ci f (own_up g k (f k).toInt8.toInt32) (k + 1) := by
  intro j hj
  by_cases q : j = k
  · subst q; rw [own_upk]; exact ⟨hv, rfl⟩
  · rw [own_upn q]; exact h j (by omega)
abbrev own_ti (f g : Nat → Int32) (k : Nat) : Prop := ∀ j, j < k → g (2 * j) = oL (f j) ∧ g (2 * j + 1) = oH (f j)
theorem own_tiS {f g : Nat → Int32} {k : Nat} (h : own_ti f g k) : own_ti f (own_up (own_up g (2 * k) (oL (f k))) (2 * k + 1) (oH (f k))) (k + 1) := by
  intro j hj
  by_cases q : j = k
  · subst q
    rw [own_upk, own_upn (by omega), own_upk]
    exact ⟨rfl, rfl⟩
  · rw [own_upn (by omega), own_upn (by omega), own_upn (by omega), own_upn (by omega)]
    exact h j (by omega)
theorem own_ixm {x : Int32} {q : Int32} {n : Nat} (hq : q.toInt = n) (h0 : 0 ≤ x.toInt) (hn : n ≤ 100) (hp : 0 < n) : ∃ k, k < n ∧ Ix (x % q) k := by
  have e : (x % q).toInt = x.toInt % q.toInt := by rw [Int32.toInt_mod, Int.tmod_eq_emod_of_nonneg h0]
  have r1 : 0 ≤ x.toInt % q.toInt := Int.emod_nonneg _ (by omega)
  have r2 : x.toInt % q.toInt < q.toInt := Int.emod_lt_of_pos _ (by omega)
  refine ⟨(x % q).toInt.toNat, by omega, ?_, by omega⟩
  apply Int32.toInt_inj.mp
  rw [own_ofn (by omega)]
  omega
theorem own_atT {cl : Cell} {f : Nat → Int32} {d : Value} {i : Int32} {k : Nat} (H : Has cl (own_tb f) d) (hin : ¬ (i < 0 ∨ cl.slots.size ≤ i.toNatClampNeg)) (hi : Ix i k) (hk : k < 40) : cl.slots[i.toNatClampNeg]? = some (.int (f k)) := by
  have h := H _ (Nat.lt_of_not_le fun q => hin (Or.inr q))
  rw [h, own_ixn hi, own_tbg _ _ hk]
theorem own_setT {Z : State} {h h' : Heap} {a : Addr} {kk : ClassId} {ty : FieldType} {z i v : Int32} {f : Nat → Int32} {dv : Value} {c : Cell} {k : Nat} (A : Arr Z h a c ty) (q1 : c.cls = kk) (S : c.slots.size = z.toNatClampNeg) (q3 : ¬ z < 0) (H : Has c (own_tb f) dv) (G : ∀ i, i < c.slots.size → fits ty ((own_tb f).getD i dv) = true) (hv : fits ty (.int v) = true) (W : Wr h h' a i.toNatClampNeg (.int v)) (hi : Ix i k) (hk : k < 40) : Arv Z h' a kk ty z (own_tb (own_up f k v)) dv := by
  rw [← own_tbs]
  exact Arv.set A q1 S q3 H G hv W k (own_ixn hi) (by rw [own_tbl]; exact hk)
theorem own_padT {Z : State} {h : Heap} {a : Addr} {kk : ClassId} {ty : FieldType} {z : Int32} {f g : Nat → Int32} {dv : Value} {nn : Nat} (V : Arv Z h a kk ty z (own_tb f) dv) (hN : Ix z nn) (hn : nn ≤ 40) (q : ∀ j, j < nn → g j = f j) : Arv Z h a kk ty z (own_tb g) dv := by
  obtain ⟨c, A, r1, r2, r3, H, G⟩ := V
  have e : ∀ i, i < c.slots.size → (own_tb g).getD i dv = (own_tb f).getD i dv := fun i hi => by
    rw [r2, own_ixn hN] at hi
    rw [own_tbg _ _ (by omega), own_tbg _ _ (by omega), q i hi]
  exact ⟨c, A, r1, r2, r3, fun i hi => by rw [e i hi]; exact H i hi, fun i hi => by rw [e i hi]; exact G i hi⟩
theorem own_g8 {c : Int32} (h : 0 ≤ c.toInt ∧ c.toInt ≤ 255) : nar .char ((c.toInt8.toInt32 &&& (255 : Int32)).toUInt32.toUInt16.toUInt32.toInt32) = c := by
  rw [own_nc, i2c_mask]
  apply Int32.toInt_inj.mp
  have k := c_i2b c
  have m := own_m255 (c.toInt8.toInt32)
  omega
theorem own_255 {c : Int32} (h : 0 ≤ c.toInt ∧ c.toInt ≤ 65535) (k : ¬ (255 : Int32) < c) : 0 ≤ c.toInt ∧ c.toInt ≤ 255 := by
  simp only [Int32.lt_iff_toInt_lt, Int32.reduceToInt] at k
  omega
theorem own_cofit {co : Int32} (h : co = 0 ∨ co = 1) : narrow .byte (.int co) = .int co ∧ fits .byte (.int co) = true ∧ nar .byte co = co := by
  rcases h with rfl | rfl
  · exact ⟨rfl, rfl, rfl⟩
  · exact ⟨rfl, rfl, rfl⟩
def own_ie (nb : Int32) : Int32 := if nb = 0 then 1 else 0
theorem own_ie1 {nb : Int32} (h : ¬ own_ie nb = 0) : nb = 0 := Classical.byContradiction fun q => h (if_neg q)
theorem own_ie0 {nb : Int32} (h : own_ie nb = 0) : ¬ nb = 0 := fun q => by
  rw [own_ie, if_pos q] at h
  exact absurd h (by decide)
theorem own_dgE {f : Nat → Int32} {k : Nat} (h : own_dg f k) (h1 : ¬ f k < (48 : Int32)) (h2 : ¬ (57 : Int32) < f k) : own_dg f (k + 1) := by
  simp only [Int32.lt_iff_toInt_lt, Int32.reduceToInt] at h1 h2
  intro j hj
  by_cases q : j = k
  · subst q; omega
  · exact h j (by omega)
theorem own_ndl {c : Int32} (h : c < (48 : Int32)) : ¬ (48 ≤ c.toInt ∧ c.toInt ≤ 57) := by
  simp only [Int32.lt_iff_toInt_lt, Int32.reduceToInt] at h
  omega
theorem own_ndg {c : Int32} (h : (57 : Int32) < c) : ¬ (48 ≤ c.toInt ∧ c.toInt ≤ 57) := by
  simp only [Int32.lt_iff_toInt_lt, Int32.reduceToInt] at h
  omega
theorem own_dig1 {c : Int32} (h : 48 ≤ c.toInt ∧ c.toInt ≤ 57) : own_dig c = 1 := if_pos h
theorem own_dign {c : Int32} (h : ¬ (48 ≤ c.toInt ∧ c.toInt ≤ 57)) : own_dig c = 0 := if_neg h
theorem own_pv2 (X : Int64) : 48 ≤ (nar .char (((48 : Int32) + (((X &&& (15 : Int64)) - ((X &&& (15 : Int64)) / (10 : Int64)) * (10 : Int64)).toInt32)).toUInt32.toUInt16.toUInt32.toInt32)).toInt ∧ (nar .char (((48 : Int32) + (((X &&& (15 : Int64)) - ((X &&& (15 : Int64)) / (10 : Int64)) * (10 : Int64)).toInt32)).toUInt32.toUInt16.toUInt32.toInt32)).toInt ≤ 57 := by
  rw [own_nc]
  exact own_pv X
theorem own_nch {c : Int32} (h : 0 ≤ c.toInt ∧ c.toInt ≤ 65535) : nar .char c = c := by
  apply Int32.toInt_inj.mp
  have k := c_i2c c
  show (c.toUInt32.toUInt16.toUInt32.toInt32).toInt = _
  omega
def own_dr (x : Int32) : Int32 := if (((x.toUInt32 >>> ((16 : Int32) &&& 31).toUInt32).toInt32) &&& (3 : Int32)) = (0 : Int32) then (65533 : Int32) else (x &&& (65535 : Int32)).toUInt32.toUInt16.toUInt32.toInt32
theorem own_dr1 {x : Int32} (h : (((x.toUInt32 >>> ((16 : Int32) &&& 31).toUInt32).toInt32) &&& (3 : Int32)) = (0 : Int32)) : own_dr x = 65533 := if_pos h
theorem own_dr0 {x : Int32} (h : ¬ (((x.toUInt32 >>> ((16 : Int32) &&& 31).toUInt32).toInt32) &&& (3 : Int32)) = (0 : Int32)) : own_dr x = (x &&& (65535 : Int32)).toUInt32.toUInt16.toUInt32.toInt32 := if_neg h
theorem own_drr (x : Int32) : 0 ≤ (own_dr x).toInt ∧ (own_dr x).toInt ≤ 65535 := by
  unfold own_dr
  split
  · decide
  · have h := c_i2c (x &&& (65535 : Int32))
    omega
theorem own_drn (x : Int32) : nar .char (own_dr x) = own_dr x := by
  unfold own_dr
  split
  · rfl
  · exact own_nc _
theorem own_drf (x : Int32) : fits .char (.int (own_dr x)) = true := by
  rw [← own_drn]
  exact fits_nar_char _
def own_4 (a b c d : Int32) : Nat → Int32 := fun j => if j = 0 then a else if j = 1 then b else if j = 2 then c else d
theorem own_4r {a b c d : Int32} (ha : 0 ≤ a.toInt ∧ a.toInt ≤ 65535) (hb : 0 ≤ b.toInt ∧ b.toInt ≤ 65535) (hc : 0 ≤ c.toInt ∧ c.toInt ≤ 65535) (hd : 0 ≤ d.toInt ∧ d.toInt ≤ 65535) (nn : Nat) : own_rg (own_4 a b c d) nn := by
  intro j _
  unfold own_4
  split
  · exact ha
  · split
    · exact hb
    · split
      · exact hc
      · exact hd
theorem own_lst {Z : State} {h : Heap} {a : Addr} {kk : ClassId} {ty : FieldType} {z : Int32} {vs : List Value} {g : Nat → Int32} {dv : Value} (V : Arv Z h a kk ty z vs dv) (hn : z.toNatClampNeg ≤ 40) (q : ∀ j, j < z.toNatClampNeg → vs.getD j dv = .int (g j)) : Arv Z h a kk ty z (own_tb g) dv := by
  obtain ⟨c, A, r1, r2, r3, H, G⟩ := V
  have e : ∀ i, i < c.slots.size → (own_tb g).getD i dv = vs.getD i dv := fun i hi => by
    rw [r2] at hi
    rw [own_tbg _ _ (by omega), q i hi]
  exact ⟨c, A, r1, r2, r3, fun i hi => by rw [e i hi]; exact H i hi, fun i hi => by rw [e i hi]; exact G i hi⟩
theorem own_n4 {N : Int32} {nn : Nat} (hN : Ix N nn) (h : nn < 5) (h0 : ¬ N = (0 : Int32)) (h1 : ¬ N = (1 : Int32)) (h2 : ¬ N = (2 : Int32)) (h3 : ¬ N = (3 : Int32)) : N = (4 : Int32) := by
  rw [own_ixeq hN own_ix0] at h0
  rw [own_ixeq hN (⟨rfl, by decide⟩ : Ix 1 1)] at h1
  rw [own_ixeq hN (⟨rfl, by decide⟩ : Ix 2 2)] at h2
  rw [own_ixeq hN (⟨rfl, by decide⟩ : Ix 3 3)] at h3
  rw [own_ixeq hN (⟨rfl, by decide⟩ : Ix 4 4)]
  omega
def own_if (f : Nat → Int32) (nn : Nat) (r : Int32) : Prop := (¬ r < (0 : Int32) ∧ ∃ j, j < nn ∧ f j = (65533 : Int32)) ∨ (r < (0 : Int32) ∧ ∀ j, j < nn → ¬ f j = (65533 : Int32))
def own_fd (f : Nat → Int32) (nn : Nat) (r : Int32) : Prop := (r = 1 ∧ ∃ j, j < nn ∧ f j = (65533 : Int32)) ∨ (r = 0 ∧ ∀ j, j < nn → ¬ f j = (65533 : Int32))
theorem own_fd1 {f : Nat → Int32} {nn : Nat} {r : Int32} (h : own_if f nn r) (q : ¬ r < (0 : Int32)) : own_fd f nn 1 := by
  rcases h with h | h
  · exact Or.inl ⟨rfl, h.2⟩
  · exact absurd h.1 q
theorem own_fd0 {f : Nat → Int32} {nn : Nat} {r : Int32} (h : own_if f nn r) (q : r < (0 : Int32)) : own_fd f nn 0 := by
  rcases h with h | h
  · exact absurd q h.1
  · exact Or.inr ⟨rfl, h.2⟩
theorem own_fin36 {a b c d : Int32} {N : Int32} {nn : Nat} {r x : Int32} (hN : Ix N nn) (h5 : nn < 5) (hr : own_fd (own_4 a b c d) nn r) (hx : (x = 1 ∧ (((0 : Int32) < N ∧ a = (65533 : Int32)) ∨ ((1 : Int32) < N ∧ b = (65533 : Int32)) ∨ ((2 : Int32) < N ∧ c = (65533 : Int32)) ∨ ((3 : Int32) < N ∧ d = (65533 : Int32)))) ∨ (x = 0 ∧ ¬ (((0 : Int32) < N ∧ a = (65533 : Int32)) ∨ ((1 : Int32) < N ∧ b = (65533 : Int32)) ∨ ((2 : Int32) < N ∧ c = (65533 : Int32)) ∨ ((3 : Int32) < N ∧ d = (65533 : Int32))))) : r = x := by
  rw [own_ixlt own_ix0 hN, own_ixlt (⟨rfl, by decide⟩ : Ix 1 1) hN, own_ixlt (⟨rfl, by decide⟩ : Ix 2 2) hN, own_ixlt (⟨rfl, by decide⟩ : Ix 3 3) hN] at hx
  have key : (∃ j, j < nn ∧ own_4 a b c d j = (65533 : Int32)) ↔ ((0 < nn ∧ a = (65533 : Int32)) ∨ (1 < nn ∧ b = (65533 : Int32)) ∨ (2 < nn ∧ c = (65533 : Int32)) ∨ (3 < nn ∧ d = (65533 : Int32))) := by
    constructor
    · intro ⟨j, hj, q⟩
      rcases j with _ | _ | _ | _ | j
      · exact Or.inl ⟨hj, q⟩
      · exact Or.inr (Or.inl ⟨hj, q⟩)
      · exact Or.inr (Or.inr (Or.inl ⟨hj, q⟩))
      · exact Or.inr (Or.inr (Or.inr ⟨hj, q⟩))
      · omega
    · rintro (⟨h, q⟩ | ⟨h, q⟩ | ⟨h, q⟩ | ⟨h, q⟩)
      · exact ⟨0, h, q⟩
      · exact ⟨1, h, q⟩
      · exact ⟨2, h, q⟩
      · exact ⟨3, h, q⟩
  rw [← key] at hx
  rcases hx with ⟨hx, j, hj, q⟩ | ⟨hx, hno⟩
  · rcases hr with ⟨h1, -⟩ | ⟨-, h2⟩
    · rw [h1, hx]
    · exact absurd q (h2 j hj)
  · rcases hr with ⟨-, h2⟩ | ⟨h1, -⟩
    · exact absurd h2 hno
    · rw [h1, hx]
set_option maxRecDepth 65536
set_option maxHeartbeats 40000000
abbrev HW (Z : State) (a0 : Array Value) : Prop := ∀ d ∈ tables_1, d.before a0 Z = true
section Short
variable {p : Program} {l : Launch} {e : Env} {R : Room} {s : State} {m : MethodId} {args : Array Value} {below : List Frame} {meth : Method} {c : Code} {T : State} {locs : List Loc} {cells slots : Nat} {G : State → Prop} {pc : Nat} {Ls : Array Slot} {S : List Value}
theorem gs (m : MethodId) (T' : State) (pc' : Nat) (Ls' : Array Slot) (S' : List Value) {f : JFrame} (k : ∀ t, Steps p.tables e below (T'.setTop (mkF m pc' Ls' S')) t → Steps p.tables e below (T.setTop f) t) (h : Go p e below G T' (mkF m pc' Ls' S')) : Go p e below G T f := Go.step k h
theorem g_iload (X : Stand p l e R s m args below meth c T locs cells slots) (hx : p.tables.exec = Jvm.exec) (pc' : Nat) {k : Nat} {v : Int32} (hd : decode c.code pc = .ok (.iload k, 2)) (hp : pc + 2 = pc') (hl : Ls[k]? = some (.val (.int v))) (h : Go p e below G T (mkF m pc' Ls (.int v :: S))) : Go p e below G T (mkF m pc Ls S) := by
  subst hp
  exact Go.step (fun _ k => XS.iload X.here hx rfl hd hl k) h
theorem g_iloadN (X : Stand p l e R s m args below meth c T locs cells slots) (hx : p.tables.exec = Jvm.exec) (pc' : Nat) {k : Fin 4} {v : Int32} (hd : decode c.code pc = .ok (.iload_n k, 1)) (hp : pc + 1 = pc') (hl : Ls[k.val]? = some (.val (.int v))) (h : Go p e below G T (mkF m pc' Ls (.int v :: S))) : Go p e below G T (mkF m pc Ls S) := by
  subst hp
  exact Go.step (fun _ k => XS.iloadN X.here hx rfl hd hl k) h
theorem g_aload (X : Stand p l e R s m args below meth c T locs cells slots) (hx : p.tables.exec = Jvm.exec) (pc' : Nat) {k : Nat} {v : Value} (hd : decode c.code pc = .ok (.aload k, 2)) (hp : pc + 2 = pc') (hl : Ls[k]? = some (.val v)) (hv : v.isRef = true) (h : Go p e below G T (mkF m pc' Ls (v :: S))) : Go p e below G T (mkF m pc Ls S) := by
  subst hp
  exact Go.step (fun _ k => XS.aload X.here hx rfl hd hl hv k) h
theorem g_aloadN (X : Stand p l e R s m args below meth c T locs cells slots) (hx : p.tables.exec = Jvm.exec) (pc' : Nat) {k : Fin 4} {v : Value} (hd : decode c.code pc = .ok (.aload_n k, 1)) (hp : pc + 1 = pc') (hl : Ls[k.val]? = some (.val v)) (hv : v.isRef = true) (h : Go p e below G T (mkF m pc' Ls (v :: S))) : Go p e below G T (mkF m pc Ls S) := by
  subst hp
  exact Go.step (fun _ k => XS.aloadN X.here hx rfl hd hl hv k) h
theorem g_iconst (X : Stand p l e R s m args below meth c T locs cells slots) (hx : p.tables.exec = Jvm.exec) (pc' : Nat) (z : Int32) {i : Int} (hd : decode c.code pc = .ok (.iconst i, 1)) (hp : pc + 1 = pc') (hz : Int32.ofInt i = z) (h : Go p e below G T (mkF m pc' Ls (.int z :: S))) : Go p e below G T (mkF m pc Ls S) := by
  subst hp hz
  exact Go.step (fun _ k => XS.iconst X.here hx rfl hd k) h
theorem g_bipush (X : Stand p l e R s m args below meth c T locs cells slots) (hx : p.tables.exec = Jvm.exec) (pc' : Nat) (z : Int32) {i : Int} (hd : decode c.code pc = .ok (.bipush i, 2)) (hp : pc + 2 = pc') (hz : (Int8.ofInt i).toInt32 = z) (h : Go p e below G T (mkF m pc' Ls (.int z :: S))) : Go p e below G T (mkF m pc Ls S) := by
  subst hp hz
  exact Go.step (fun _ k => XS.bipush X.here hx rfl hd k) h
theorem g_sipush (X : Stand p l e R s m args below meth c T locs cells slots) (hx : p.tables.exec = Jvm.exec) (pc' : Nat) (z : Int32) {i : Int} (hd : decode c.code pc = .ok (.sipush i, 3)) (hp : pc + 3 = pc') (hz : (Int16.ofInt i).toInt32 = z) (h : Go p e below G T (mkF m pc' Ls (.int z :: S))) : Go p e below G T (mkF m pc Ls S) := by
  subst hp hz
  exact Go.step (fun _ k => XS.sipush X.here hx rfl hd k) h
theorem g_istore (X : Stand p l e R s m args below meth c T locs cells slots) (hx : p.tables.exec = Jvm.exec) (pc' : Nat) {k : Nat} {v : Int32} {l' : Array Slot} (hd : decode c.code pc = .ok (.istore k, 2)) (hp : pc + 2 = pc') (hl : storeLocals Ls k (.int v) = some l') (h : Go p e below G T (mkF m pc' l' S)) : Go p e below G T (mkF m pc Ls (.int v :: S)) := by
  subst hp
  exact Go.step (fun _ k => XS.istore X.here hx rfl hd rfl hl k) h
theorem g_istoreN (X : Stand p l e R s m args below meth c T locs cells slots) (hx : p.tables.exec = Jvm.exec) (pc' : Nat) {k : Fin 4} {v : Int32} {l' : Array Slot} (hd : decode c.code pc = .ok (.istore_n k, 1)) (hp : pc + 1 = pc') (hl : storeLocals Ls k.val (.int v) = some l') (h : Go p e below G T (mkF m pc' l' S)) : Go p e below G T (mkF m pc Ls (.int v :: S)) := by
  subst hp
  exact Go.step (fun _ k => XS.istoreN X.here hx rfl hd rfl hl k) h
theorem g_astore (X : Stand p l e R s m args below meth c T locs cells slots) (hx : p.tables.exec = Jvm.exec) (pc' : Nat) {k : Nat} {v : Value} {l' : Array Slot} (hd : decode c.code pc = .ok (.astore k, 2)) (hp : pc + 2 = pc') (hv : v.isRef = true) (hl : storeLocals Ls k v = some l') (h : Go p e below G T (mkF m pc' l' S)) : Go p e below G T (mkF m pc Ls (v :: S)) := by
  subst hp
  exact Go.step (fun _ k => XS.astore X.here hx rfl hd rfl hv hl k) h
theorem g_astoreN (X : Stand p l e R s m args below meth c T locs cells slots) (hx : p.tables.exec = Jvm.exec) (pc' : Nat) {k : Fin 4} {v : Value} {l' : Array Slot} (hd : decode c.code pc = .ok (.astore_n k, 1)) (hp : pc + 1 = pc') (hv : v.isRef = true) (hl : storeLocals Ls k.val v = some l') (h : Go p e below G T (mkF m pc' l' S)) : Go p e below G T (mkF m pc Ls (v :: S)) := by
  subst hp
  exact Go.step (fun _ k => XS.astoreN X.here hx rfl hd rfl hv hl k) h
theorem g_goto (X : Stand p l e R s m args below meth c T locs cells slots) (hx : p.tables.exec = Jvm.exec) (pc' : Nat) {o : Int} (hd : decode c.code pc = .ok (.goto o, 3)) (ho : 0 ≤ (pc : Int) + o) (hq : ((pc : Int) + o).toNat = pc') (h : Go p e below G T (mkF m pc' Ls S)) : Go p e below G T (mkF m pc Ls S) := by
  skip
  exact Go.step (fun _ k => XS.goto X.here hx rfl rfl hd ho hq k) h
theorem g_ifYes (X : Stand p l e R s m args below meth c T locs cells slots) (hx : p.tables.exec = Jvm.exec) (pc' : Nat) {cd : ClassFile.Cond} {x : Int32} {o : Int} (hd : decode c.code pc = .ok (.ifCond cd o, 3)) (hc : ifCond.holds cd x = true) (ho : 0 ≤ (pc : Int) + o) (hq : ((pc : Int) + o).toNat = pc') (h : Go p e below G T (mkF m pc' Ls S)) : Go p e below G T (mkF m pc Ls (.int x :: S)) := by
  skip
  exact Go.step (fun _ k => XS.ifYes X.here hx rfl rfl hd rfl hc ho hq k) h
theorem g_ifNo (X : Stand p l e R s m args below meth c T locs cells slots) (hx : p.tables.exec = Jvm.exec) (pc' : Nat) {cd : ClassFile.Cond} {x : Int32} {o : Int} (hd : decode c.code pc = .ok (.ifCond cd o, 3)) (hp : pc + 3 = pc') (hc : ifCond.holds cd x = false) (h : Go p e below G T (mkF m pc' Ls S)) : Go p e below G T (mkF m pc Ls (.int x :: S)) := by
  subst hp
  exact Go.step (fun _ k => XS.ifNo X.here hx rfl hd rfl hc k) h
theorem g_icmpYes (X : Stand p l e R s m args below meth c T locs cells slots) (hx : p.tables.exec = Jvm.exec) (pc' : Nat) {cd : ClassFile.Cond} {x y : Int32} {o : Int} (hd : decode c.code pc = .ok (.if_icmp cd o, 3)) (hc : if_icmp.holds cd x y = true) (ho : 0 ≤ (pc : Int) + o) (hq : ((pc : Int) + o).toNat = pc') (h : Go p e below G T (mkF m pc' Ls S)) : Go p e below G T (mkF m pc Ls (.int y :: .int x :: S)) := by
  skip
  exact Go.step (fun _ k => XS.icmpYes X.here hx rfl rfl hd rfl hc ho hq k) h
theorem g_icmpNo (X : Stand p l e R s m args below meth c T locs cells slots) (hx : p.tables.exec = Jvm.exec) (pc' : Nat) {cd : ClassFile.Cond} {x y : Int32} {o : Int} (hd : decode c.code pc = .ok (.if_icmp cd o, 3)) (hp : pc + 3 = pc') (hc : if_icmp.holds cd x y = false) (h : Go p e below G T (mkF m pc' Ls S)) : Go p e below G T (mkF m pc Ls (.int y :: .int x :: S)) := by
  subst hp
  exact Go.step (fun _ k => XS.icmpNo X.here hx rfl hd rfl hc k) h
theorem g_dup (X : Stand p l e R s m args below meth c T locs cells slots) (hx : p.tables.exec = Jvm.exec) (pc' : Nat) {x : Value} (hd : decode c.code pc = .ok (.dup, 1)) (hp : pc + 1 = pc') (hc : x.category = 1) (h : Go p e below G T (mkF m pc' Ls (x :: x :: S))) : Go p e below G T (mkF m pc Ls (x :: S)) := by
  subst hp
  exact Go.step (fun _ k => XS.dup X.here hx rfl hd rfl hc k) h
theorem g_pop (X : Stand p l e R s m args below meth c T locs cells slots) (hx : p.tables.exec = Jvm.exec) (pc' : Nat) {x : Value} (hd : decode c.code pc = .ok (.pop, 1)) (hp : pc + 1 = pc') (hc : x.category = 1) (h : Go p e below G T (mkF m pc' Ls S)) : Go p e below G T (mkF m pc Ls (x :: S)) := by
  subst hp
  exact Go.step (fun _ k => XS.pop X.here hx rfl hd rfl hc k) h
end Short
abbrev rO (a b c d : Nat) : Room := { frames := a, cells := b, slots := c, locals := d }
theorem tw {Z : State} {a0 : Array Value} (hw : ∀ d ∈ tables_1, d.before a0 Z = true) (i : Nat) {d : Jvm.Cond} (h : tables_1[i]? = some d) : d.before a0 Z = true := hw d (List.mem_of_getElem? h)
abbrev MF (l : Launch) (y : MethodName) (bytes : ByteArray) (maxL : Nat) (ret : Option FieldType) (ws : List Jvm.Cond) (rm : Room) (A : Array Value) (Z : State) (h0 : Heap) (Q : Option Value → Heap → List Loc → Prop) : Prop :=
  MetFree l y (head1 (Jvm.Cond.code y bytes maxL ret :: ws) rm) (fun a U => a = A ∧ Z.Warmed39 U.vm ∧ U.heap = h0) (fun _ _ _ _ _ => True) (fun _ U o U' => ∃ rv Lq, o = .returned rv ∧ Q rv U'.heap Lq ∧ FrameEnd U o U' Lq rm.cells rm.slots)
theorem own_met {l : Launch} {y : MethodName} {bytes : ByteArray} {maxL : Nat} {ret : Option FieldType} {ws : List Jvm.Cond} {rm : Room} {A : Array Value} {Z : State} {h0 : Heap} {Q : Option Value → Heap → List Loc → Prop} {L0 : Array Slot} (own : String) (ho : y.cls = own) (hpl : plainFor y = true) (hef : ∀ m, entryFrame m A maxL = mkF m 0 L0 [])
    (H : ∀ p e s m below meth c s₁, BodyLoose p l y (head1 (Jvm.Cond.code y bytes maxL ret :: ws) rm) bytes maxL ret e s m A below meth c s₁ → p.tables.exec = Jvm.exec → c.code = bytes → c.maxLocals = maxL → s.vm.findClass own = some m.cls → meth.name = y.name → Z.Warmed39 s.vm → Stand p l e rm s m A below meth c s₁ [] 0 0 → s₁.heap = h0 → Go p e below (Fin1 s below Q rm.cells rm.slots) s₁ (mkF m 0 L0 [])) : MF l y bytes maxL ret ws rm A Z h0 Q := by
  subst ho
  refine MetFree.of_bodySF hpl hisR ?_
  intro p e s m args below meth c s₁ Bd hml0 hP hK
  obtain ⟨rfl, hZ, hh⟩ := hP
  exact of_go (hef m) (H p e s m below meth c s₁ Bd Bd.exec Bd.bytes hml0 (findClass_of_methodNamed Bd.named) (name_of_methodNamed Bd.named Bd.method).1 hZ (Stand.of_body Bd) (by rw [← hh, Bd.state]; rfl))
abbrev y100 : MethodName := (⟨"java/lang/StringUTF16", "getChar", "([BI)C"⟩ : MethodName)
abbrev y101 : MethodName := (⟨"java/lang/String", "<init>", "([CIILjava/lang/Void;)V"⟩ : MethodName)
abbrev y102 : MethodName := (⟨"java/lang/String", "<init>", "([C)V"⟩ : MethodName)
abbrev y103 : MethodName := (⟨"java/lang/String", "coder", "()B"⟩ : MethodName)
abbrev y104 : MethodName := (⟨"java/lang/String", "length", "()I"⟩ : MethodName)
abbrev y105 : MethodName := (⟨"java/lang/String", "isLatin1", "()Z"⟩ : MethodName)
abbrev y106 : MethodName := (⟨"jdk/internal/util/Preconditions", "checkFromToIndex", "(IIILjava/util/function/BiFunction;)I"⟩ : MethodName)
abbrev y107 : MethodName := (⟨"java/lang/String", "indexOf", "(II)I"⟩ : MethodName)
abbrev y108 : MethodName := (⟨"java/lang/String", "indexOf", "(I)I"⟩ : MethodName)
abbrev y109 : MethodName := (⟨"com/example/tessera/tessera/cli/DecodingFailedPinLaw", "draw", "(I)C"⟩ : MethodName)
theorem d14_0 : decode jdk_52_method_21_code 0 = .ok (.iconst 0, 1) := by decide +kernel
theorem d14_1 : decode jdk_52_method_21_code 1 = .ok (.istore 5, 2) := by decide +kernel
theorem d14_3 : decode jdk_52_method_21_code 3 = .ok (.iload 5, 2) := by decide +kernel
theorem d14_5 : decode jdk_52_method_21_code 5 = .ok (.iload 4, 2) := by decide +kernel
theorem d14_7 : decode jdk_52_method_21_code 7 = .ok (.if_icmp .ge 37, 3) := by decide +kernel
theorem d14_10 : decode jdk_52_method_21_code 10 = .ok (.aload_n 0, 1) := by decide +kernel
theorem d14_11 : decode jdk_52_method_21_code 11 = .ok (.iload_n 1, 1) := by decide +kernel
theorem d14_12 : decode jdk_52_method_21_code 12 = .ok (.caload, 1) := by decide +kernel
theorem d14_13 : decode jdk_52_method_21_code 13 = .ok (.istore 6, 2) := by decide +kernel
theorem d14_15 : decode jdk_52_method_21_code 15 = .ok (.iload 6, 2) := by decide +kernel
theorem d14_17 : decode jdk_52_method_21_code 17 = .ok (.sipush 255, 3) := by decide +kernel
theorem d14_20 : decode jdk_52_method_21_code 20 = .ok (.if_icmp .le 6, 3) := by decide +kernel
theorem d14_23 : decode jdk_52_method_21_code 23 = .ok (.iload 5, 2) := by decide +kernel
theorem d14_25 : decode jdk_52_method_21_code 25 = .ok (.ireturn, 1) := by decide +kernel
theorem d14_26 : decode jdk_52_method_21_code 26 = .ok (.aload_n 2, 1) := by decide +kernel
theorem d14_27 : decode jdk_52_method_21_code 27 = .ok (.iload_n 3, 1) := by decide +kernel
theorem d14_28 : decode jdk_52_method_21_code 28 = .ok (.iload 6, 2) := by decide +kernel
theorem d14_30 : decode jdk_52_method_21_code 30 = .ok (.i2b, 1) := by decide +kernel
theorem d14_31 : decode jdk_52_method_21_code 31 = .ok (.bastore, 1) := by decide +kernel
theorem d14_32 : decode jdk_52_method_21_code 32 = .ok (.iinc 1 1, 3) := by decide +kernel
theorem d14_35 : decode jdk_52_method_21_code 35 = .ok (.iinc 3 1, 3) := by decide +kernel
theorem d14_38 : decode jdk_52_method_21_code 38 = .ok (.iinc 5 1, 3) := by decide +kernel
theorem d14_41 : decode jdk_52_method_21_code 41 = .ok (.goto (-38), 3) := by decide +kernel
theorem d14_44 : decode jdk_52_method_21_code 44 = .ok (.iload 4, 2) := by decide +kernel
theorem d14_46 : decode jdk_52_method_21_code 46 = .ok (.ireturn, 1) := by decide +kernel
theorem pn_14 : plainName "java/lang/StringUTF16" = true := by first | (simp [plainName, overriddenIn]; done) | decide +kernel
theorem ef_rmCpA (m : MethodId) (a1 : Addr) (a3 : Addr) (N : Int32) : entryFrame m #[(.ref a1), (.int 0), (.ref a3), (.int 0), (.int N)] 7 = mkF m 0 #[.val (.ref a1), .val (.int 0), .val (.ref a3), .val (.int 0), .val (.int N), .unset, .unset] [] := by first | (simp [entryFrame, mkF, argsToLocals, Value.category]; done) | rfl
def Q_rmCpA (Z : State) (a1 : Addr) (a3 : Addr) (N : Int32) (kc : ClassId) (kb : ClassId) (f : Nat → Int32) (nn : Nat) (h0 : Heap) (n0 : Nat) (rv : Option Value) (hq : Heap) (Lq : List Loc) : Prop := ∃ r : Int32, ∃ g : Nat → Int32, ∃ k : Nat, rv = some (.int r) ∧ Fr n0 Lq ∧ Keep h0 hq [a3] ∧ Arv Z hq a3 kb .byte N (own_tb g) (.int 0) ∧ Ix r k ∧ own_cp f g nn k
theorem rmCpA (l : Launch) (Z : State) (a0 : Array Value) (hw : HW Z a0) (ws : List Jvm.Cond) (a1 : Addr) (a3 : Addr) (N : Int32) (kc : ClassId) (kb : ClassId) (f : Nat → Int32) (nn : Nat) (h0 : Heap) (n0 : Nat) (Z0 : n0 ≤ h0.size) (V_a1 : Arv Z h0 a1 kc .char N (own_tb f) (.int 0)) (V_a3 : Arv Z h0 a3 kb .byte N (own_tb own_0) (.int 0)) (hne : a1 ≠ a3) (hN : Ix N nn) (hnn : nn ≤ 20) (g_a3 : n0 ≤ a3) :
  MF l (⟨"java/lang/StringUTF16", "compress", "([CI[BII)I"⟩ : MethodName) jdk_52_method_21_code 7 (some .int) ws (rO 0 0 0 0) #[(.ref a1), (.int 0), (.ref a3), (.int 0), (.int N)] Z h0 (Q_rmCpA Z a1 a3 N kc kb f nn h0 n0) := by
 refine own_met "java/lang/StringUTF16" rfl (plainFor_of_name pn_14) (fun m => ef_rmCpA m a1 a3 N) ?_
 intro p e s m below meth c s₁ Bd hx hby hml hown hnm hZ X0 e0
 have N0 := Fr.nil n0
 refine g_iconst X0 hx 1 0 (hb hby d14_0) rfl rfl ?_
 refine g_istore X0 hx 3 (hb hby d14_1) rfl (l' := #[.val (.ref a1), .val (.int 0), .val (.ref a3), .val (.int 0), .val (.int N), .val (.int 0), .unset]) rfl ?_
 have J1 : ∀ (km1 : Nat) (i : Int32) (k : Nat) (g : Nat → Int32) (sl : Slot) (hi : Ix i k) (hkn : k ≤ nn) (hg : own_ci f g k) (hsl : sl = .unset ∨ ∃ x, sl = .val (.int x)) (hm1 : nn - k = km1) (hj1 : Heap) (Zj1 : n0 ≤ hj1.size) (Kj1 : Keep h0 hj1 [a3]) (V_a1_j1 : Arv Z hj1 a1 kc .char N (own_tb f) (.int 0)) (V_a3_j1 : Arv Z hj1 a3 kb .byte N (own_tb g) (.int 0)) (Tj1 : State) (Lj1 : List Loc) (Xj1 : Stand p l e (rO 0 0 0 0) s m #[(.ref a1), (.int 0), (.ref a3), (.int 0), (.int N)] below meth c Tj1 Lj1 0 0) (ej1 : Tj1.heap = hj1) (Nj1 : Fr n0 Lj1), Go p e below (Fin1 s below (Q_rmCpA Z a1 a3 N kc kb f nn h0 n0) (rO 0 0 0 0).cells (rO 0 0 0 0).slots) Tj1 (mkF m 3 #[.val (.ref a1), .val (.int i), .val (.ref a3), .val (.int i), .val (.int N), .val (.int i), sl] []) := by
  intro km1
  induction km1 using Nat.strongRecOn with
  | ind km1 ih1 =>
   intro i k g sl hi hkn hg hsl hm1 hj1 Zj1 Kj1 V_a1_j1 V_a3_j1 Tj1 Lj1 Xj1 ej1 Nj1
   refine g_iload Xj1 hx 5 (hb hby d14_3) rfl rfl ?_
   refine g_iload Xj1 hx 7 (hb hby d14_5) rfl rfl ?_
   by_cases hc7 : i < N
   ·refine g_icmpNo Xj1 hx 10 (hb hby d14_7) rfl (tlt hc7).2.1 ?_
    have hlt := (own_ixlt hi hN).mp hc7
    refine g_aloadN Xj1 hx 11 (hb hby d14_10) rfl rfl rfl ?_
    refine g_iloadN Xj1 hx 12 (hb hby d14_11) rfl rfl ?_
    obtain ⟨cl2, Ar2, qc2, Sz2, Nn2, Hs2, Gf2⟩ := id V_a1_j1
    have hin3 : ¬ (i < 0 ∨ cl2.slots.size ≤ (i).toNatClampNeg) := (inb_of Sz2 (own_ixb hi hN hlt))
    have hat3 : cl2.slots[(i).toNatClampNeg]? = some (.int (f k)) := own_atT Hs2 hin3 hi (by omega)
    refine gs m Tj1 13 #[.val (.ref a1), .val (.int i), .val (.ref a3), .val (.int i), .val (.int N), .val (.int i), sl] [(.int (f k))] (fun _ kS => Xj1.caload hx (j := i) (v := (.int (f k))) (by rw [ej1]; exact Ar2.1) (State.isArrayOf_alike hZ.alike Ar2.2.1) Ar2.2.2 hin3 hat3 (g := (mkF m 12 #[.val (.ref a1), .val (.int i), .val (.ref a3), .val (.int i), .val (.int N), .val (.int i), sl] [(.int i), (.ref a1)])) rfl rfl (hb hby d14_12) _ kS) ?_
    refine gs m Tj1 15 #[.val (.ref a1), .val (.int i), .val (.ref a3), .val (.int i), .val (.int N), .val (.int i), .val (.int (f k))] [] (fun _ kS => XS.istore Xj1.here hx rfl (hb hby d14_13) rfl (l' := #[.val (.ref a1), .val (.int i), .val (.ref a3), .val (.int i), .val (.int N), .val (.int i), .val (.int (f k))]) (by rcases hsl with h | ⟨x, h⟩ <;> rw [h] <;> rfl) kS) ?_
    refine g_iload Xj1 hx 17 (hb hby d14_15) rfl rfl ?_
    refine g_sipush Xj1 hx 20 255 (hb hby d14_17) rfl rfl ?_
    by_cases hc20 : (255 : Int32) < (f k)
    ·refine g_icmpNo Xj1 hx 23 (hb hby d14_20) rfl (tlt hc20).2.2.2 ?_
     refine g_iload Xj1 hx 25 (hb hby d14_23) rfl rfl ?_
     refine goI Xj1 hx Bd.returns Bd.notSynchronized (hb hby d14_25) ?_ (by decide) (by decide)
     show Q_rmCpA Z a1 a3 N kc kb f nn h0 n0 _ Tj1.heap _
     rw [ej1]
     exact ⟨i, g, k, rfl, Nj1, Kj1, V_a3_j1, ⟨hi, hkn, hg, Or.inr hc20⟩⟩
    ·refine g_icmpYes Xj1 hx 26 (hb hby d14_20) (flt hc20).2.2.2 (by decide) (by decide) ?_
     refine g_aloadN Xj1 hx 27 (hb hby d14_26) rfl rfl rfl ?_
     refine g_iloadN Xj1 hx 28 (hb hby d14_27) rfl rfl ?_
     refine g_iload Xj1 hx 30 (hb hby d14_28) rfl rfl ?_
     refine gs m Tj1 31 #[.val (.ref a1), .val (.int i), .val (.ref a3), .val (.int i), .val (.int N), .val (.int i), .val (.int (f k))] [(.int ((f k).toInt8.toInt32)), (.int i), (.ref a3)] (fun _ kS => XS.i2b Xj1.here hx rfl (hb hby d14_30) rfl kS) ?_
     obtain ⟨cl4, Ar4, qc4, Sz4, Nn4, Hs4, Gf4⟩ := id V_a3_j1
     have hin5 : ¬ (i < 0 ∨ cl4.slots.size ≤ (i).toNatClampNeg) := (inb_of Sz4 (own_ixb hi hN hlt))
     obtain ⟨T5, h5, X5, e5, W5, st5⟩ := stB Xj1 hx hZ ej1 Ar4 (j := i) hin5 (g := (mkF m 31 #[.val (.ref a1), .val (.int i), .val (.ref a3), .val (.int i), .val (.int N), .val (.int i), .val (.int (f k))] [(.int ((f k).toInt8.toInt32)), (.int i), (.ref a3)])) rfl rfl (hb hby d14_31)
     have N5 := Fr.snoc X5 Nj1 g_a3
     have Z6 : n0 ≤ h5.size := Nat.le_trans Zj1 (Keep.of_wr W5).1
     have K6 : Keep h0 h5 [a3] := Kj1.wr W5 (Or.inl (List.mem_of_getElem? (i := 0) rfl))
     rw [own_nb] at W5
     have Va5 : Arv Z h5 a3 kb .byte N (own_tb (own_up g k ((f k).toInt8.toInt32))) (.int 0) := own_setT Ar4 qc4 Sz4 Nn4 Hs4 Gf4 (fits_nar_byte _) W5 hi (by omega)
     refine gs m T5 32 #[.val (.ref a1), .val (.int i), .val (.ref a3), .val (.int i), .val (.int N), .val (.int i), .val (.int (f k))] [] st5 ?_
     refine gs m T5 35 #[.val (.ref a1), .val (.int (i + (1 : Int32))), .val (.ref a3), .val (.int i), .val (.int N), .val (.int i), .val (.int (f k))] [] (fun _ kS => XS.iinc X5.here hx rfl (hb hby d14_32) rfl (l' := #[.val (.ref a1), .val (.int (i + (1 : Int32))), .val (.ref a3), .val (.int i), .val (.int N), .val (.int i), .val (.int (f k))]) rfl kS) ?_
     refine gs m T5 38 #[.val (.ref a1), .val (.int (i + (1 : Int32))), .val (.ref a3), .val (.int (i + (1 : Int32))), .val (.int N), .val (.int i), .val (.int (f k))] [] (fun _ kS => XS.iinc X5.here hx rfl (hb hby d14_35) rfl (l' := #[.val (.ref a1), .val (.int (i + (1 : Int32))), .val (.ref a3), .val (.int (i + (1 : Int32))), .val (.int N), .val (.int i), .val (.int (f k))]) rfl kS) ?_
     refine gs m T5 41 #[.val (.ref a1), .val (.int (i + (1 : Int32))), .val (.ref a3), .val (.int (i + (1 : Int32))), .val (.int N), .val (.int (i + (1 : Int32))), .val (.int (f k))] [] (fun _ kS => XS.iinc X5.here hx rfl (hb hby d14_38) rfl (l' := #[.val (.ref a1), .val (.int (i + (1 : Int32))), .val (.ref a3), .val (.int (i + (1 : Int32))), .val (.int N), .val (.int (i + (1 : Int32))), .val (.int (f k))]) rfl kS) ?_
     refine g_goto X5 hx 3 (hb hby d14_41) (by decide) (by decide) ?_
     have q7 : Arv Z h5 a1 kc .char N (own_tb f) (.int 0) := (V_a1_j1.other W5 hne)
     exact ih1 _ (by omega) (i + (1 : Int32)) (k + 1) (own_up g k ((f k).toInt8.toInt32)) (.val (.int (f k))) (own_ixS hi (by omega)) hlt (own_ciS hg hc20) (Or.inr ⟨_, rfl⟩) rfl h5 Z6 K6 q7 Va5 _ _ X5 e5 N5
   ·refine g_icmpYes Xj1 hx 44 (hb hby d14_7) (flt hc7).2.1 (by decide) (by decide) ?_
    refine g_iload Xj1 hx 46 (hb hby d14_44) rfl rfl ?_
    refine goI Xj1 hx Bd.returns Bd.notSynchronized (hb hby d14_46) ?_ (by decide) (by decide)
    show Q_rmCpA Z a1 a3 N kc kb f nn h0 n0 _ Tj1.heap _
    rw [ej1]
    exact ⟨N, g, nn, rfl, Nj1, Kj1, V_a3_j1, ⟨hN, Nat.le_refl _, fun j hj => hg j (by have hh : ¬ k < nn := fun q => hc7 ((own_ixlt hi hN).mpr q); omega), Or.inl rfl⟩⟩
 exact J1 _ (0 : Int32) 0 own_0 .unset own_ix0 (Nat.zero_le _) (fun j hj => absurd hj (Nat.not_lt_zero j)) (Or.inl rfl) rfl h0 Z0 (Keep.refl h0 [a3]) V_a1 V_a3 _ _ X0 e0 N0
theorem d17_0 : decode jdk_52_method_3_code 0 = .ok (.iload_n 0, 1) := by decide +kernel
theorem d17_1 : decode jdk_52_method_3_code 1 = .ok (.ifCond .ge 11, 3) := by decide +kernel
theorem d17_12 : decode jdk_52_method_3_code 12 = .ok (.iload_n 0, 1) := by decide +kernel
theorem d17_13 : decode jdk_52_method_3_code 13 = .ok (.ldc 20, 2) := by decide +kernel
theorem d17_15 : decode jdk_52_method_3_code 15 = .ok (.if_icmp .lt 40, 3) := by decide +kernel
theorem d17_55 : decode jdk_52_method_3_code 55 = .ok (.iload_n 0, 1) := by decide +kernel
theorem d17_56 : decode jdk_52_method_3_code 56 = .ok (.iconst 1, 1) := by decide +kernel
theorem d17_57 : decode jdk_52_method_3_code 57 = .ok (.ishl, 1) := by decide +kernel
theorem d17_58 : decode jdk_52_method_3_code 58 = .ok (.ireturn, 1) := by decide +kernel
theorem ef_rmNbl (m : MethodId) (N : Int32) : entryFrame m #[(.int N)] 1 = mkF m 0 #[.val (.int N)] [] := by first | (simp [entryFrame, mkF, argsToLocals, Value.category]; done) | rfl
def Q_rmNbl (Z : State) (N : Int32) (nn : Nat) (h0 : Heap) (n0 : Nat) (rv : Option Value) (hq : Heap) (Lq : List Loc) : Prop := rv = some (.int (N <<< ((1 : Int32) &&& 31))) ∧ Fr n0 Lq ∧ hq = h0
theorem rmNbl (l : Launch) (Z : State) (a0 : Array Value) (hw : HW Z a0) (ws : List Jvm.Cond) (N : Int32) (nn : Nat) (h0 : Heap) (n0 : Nat) (Z0 : n0 ≤ h0.size) (hN : Ix N nn) (hnn : nn ≤ 20) :
  MF l (⟨"java/lang/StringUTF16", "newBytesLength", "(I)I"⟩ : MethodName) jdk_52_method_3_code 1 (some .int) ws (rO 0 0 0 0) #[(.int N)] Z h0 (Q_rmNbl Z N nn h0 n0) := by
 refine own_met "java/lang/StringUTF16" rfl (plainFor_of_name pn_14) (fun m => ef_rmNbl m N) ?_
 intro p e s m below meth c s₁ Bd hx hby hml hown hnm hZ X0 e0
 have N0 := Fr.nil n0
 refine g_iloadN X0 hx 1 (hb hby d17_0) rfl rfl ?_
 refine g_ifYes X0 hx 12 (hb hby d17_1) ((if0 _ _).trans (flt (own_ixnn hN)).2.1) (by decide) (by decide) ?_
 refine g_iloadN X0 hx 13 (hb hby d17_12) rfl rfl ?_
 refine gs m s₁ 15 #[.val (.int N)] [(.int 1073741823), (.int N)] (fun _ kS => X0.ldcInt hx hown (mvT hZ (tw hw 82 rfl)) (g := (mkF m 13 #[.val (.int N)] [(.int N)])) rfl (hb hby d17_13) _ kS) ?_
 refine g_icmpYes X0 hx 55 (hb hby d17_15) (tlt (by rw [hN.1, Int32.lt_iff_toInt_lt, own_ofn hN.2]; simp only [Int32.reduceToInt]; omega)).1 (by decide) (by decide) ?_
 refine g_iloadN X0 hx 56 (hb hby d17_55) rfl rfl ?_
 refine g_iconst X0 hx 57 1 (hb hby d17_56) rfl rfl ?_
 refine gs m s₁ 58 #[.val (.int N)] [(.int (N <<< ((1 : Int32) &&& 31)))] (fun _ kS => XS.ishl X0.here hx rfl (hb hby d17_57) rfl kS) ?_
 refine goI X0 hx Bd.returns Bd.notSynchronized (hb hby d17_58) ?_ (by decide) (by decide)
 show Q_rmNbl Z N nn h0 n0 _ s₁.heap _
 rw [e0]
 exact ⟨rfl, N0, rfl⟩
theorem d16_0 : decode jdk_52_method_2_code 0 = .ok (.iload_n 0, 1) := by decide +kernel
theorem d16_1 : decode jdk_52_method_2_code 1 = .ok (.invokestatic 11, 3) := by decide +kernel
theorem pd_0 : parseMethodDescriptor "(I)I" = some ⟨[.int], some .int⟩ := by decide +kernel
theorem d16_4 : decode jdk_52_method_2_code 4 = .ok (.newarray .byte, 2) := by decide +kernel
theorem d16_6 : decode jdk_52_method_2_code 6 = .ok (.areturn, 1) := by decide +kernel
def Q_rmNbf (Z : State) (N : Int32) (nn : Nat) (h0 : Heap) (n0 : Nat) (rv : Option Value) (hq : Heap) (Lq : List Loc) : Prop := ∃ b : Addr, ∃ kb : ClassId, rv = some (.ref b) ∧ Fr n0 Lq ∧ Keep h0 hq [] ∧ h0.size ≤ b ∧ Arv Z hq b kb .byte (N <<< ((1 : Int32) &&& 31)) (own_tb own_0) (.int 0)
theorem rmNbf (l : Launch) (Z : State) (a0 : Array Value) (hw : HW Z a0) (ws : List Jvm.Cond) (N : Int32) (nn : Nat) (h0 : Heap) (n0 : Nat) (Z0 : n0 ≤ h0.size) (hN : Ix N nn) (hnn : nn ≤ 20) :
  MF l (⟨"java/lang/StringUTF16", "newBytesFor", "(I)[B"⟩ : MethodName) jdk_52_method_2_code 1 (some (.array .byte)) ws (rO 1 1 40 12) #[(.int N)] Z h0 (Q_rmNbf Z N nn h0 n0) := by
 refine own_met "java/lang/StringUTF16" rfl (plainFor_of_name pn_14) (fun m => ef_rmNbl m N) ?_
 intro p e s m below meth c s₁ Bd hx hby hml hown hnm hZ X0 e0
 have N0 := Fr.nil n0
 refine g_iloadN X0 hx 1 (hb hby d16_0) rfl rfl ?_
 obtain ⟨_, _, ⟨T1, L1, kk1, nn1⟩, -, X1, ⟨Lc1, hQ1, lq1, yq1, zq1⟩, st1⟩ := Jvm.LawKit.callS X0 hx (y := (⟨"java/lang/StringUTF16", "newBytesLength", "(I)I"⟩ : MethodName)) hown (mvT hZ (tw hw 79 rfl)) (mvT hZ (tw hw 80 rfl)) (mvT hZ (tw hw 68 rfl)) (mvT hZ (tw hw 81 rfl)) (by decide) (backOf (W := 0) (rmNbl l Z a0 hw [] N nn h0 n0 Z0 hN hnn) hZ (tw hw 81 rfl) (tw hw 68 rfl) (by decide) (by decide)) (g := (mkF m 1 #[.val (.int N)] [(.int N)])) rfl (by rw [hml]; rfl) (argsL := [(.int N)]) (rest := []) (lenOf pd_0 rfl) rfl (by show 2 * 0 + _ ≤ _; exact Nat.le_of_eq rfl) (hb hby d16_1) (fun _ _ => ⟨rfl, e0, (by decide : 0 + 0 ≤ _), (by decide : 0 + 0 ≤ _)⟩)
 dsimp only [Pt.U, Pt.locs, Pt.cells, Pt.slots] at X1 lq1 yq1 zq1 st1 hQ1
 subst yq1 zq1
 obtain ⟨rfl, Nq1, eh1⟩ := hQ1
 have N1 : Fr n0 L1 := by rw [lq1]; exact Fr.app N0 Nq1
 refine gs m T1 4 #[.val (.int N)] [(.int (N <<< ((1 : Int32) &&& 31)))] st1 ?_
 obtain ⟨T2, h2, k2, X2, e2, E2, A2, st2⟩ := newP X1 hx hZ (tw hw 21 rfl) eh1 (g := (mkF m 4 #[.val (.int N)] [(.int (N <<< ((1 : Int32) &&& 31)))])) rfl (hb hby d16_4) rfl (own_ixnn (own_ixD hN (by omega))) (cap := 40) (by rw [own_ixn (own_ixD hN (by omega))]; omega) (by decide) (by decide) (by decide)
 obtain ⟨b2, g2⟩ : ∃ z, z = h0.size := ⟨_, rfl⟩
 rw [← g2] at A2 st2
 have g_b2 : n0 ≤ b2 := Nat.le_trans Z0 (Nat.le_of_eq g2.symm)
 have sz_b2 : h0.size ≤ b2 := Nat.le_trans (Keep.refl h0 []).1 (Nat.le_of_eq g2.symm)
 have Z3 : n0 ≤ h2.size := Nat.le_trans Z0 E2.1
 have K3 : Keep h0 h2 [] := (Keep.refl h0 []).ext E2
 have V_b2 : Arv Z h2 b2 k2 .byte (N <<< ((1 : Int32) &&& 31)) (own_tb own_0) (.int 0) := (Arv.new A2 (own_ixnn (own_ixD hN (by omega)))).pad own_tz
 refine gs m T2 6 #[.val (.int N)] [(.ref b2)] st2 ?_
 refine goA X2 hx Bd.returns rfl rfl Bd.notSynchronized (hb hby d16_6) ?_ (by decide) (by decide)
 show Q_rmNbf Z N nn h0 n0 _ T2.heap _
 rw [e2]
 exact ⟨b2, k2, rfl, N1, K3, sz_b2, V_b2⟩
theorem d18_0 : decode jdk_52_method_4_code 0 = .ok (.getstatic 44, 3) := by decide +kernel
theorem d18_3 : decode jdk_52_method_4_code 3 = .ok (.ifCond .ne 25, 3) := by decide +kernel
theorem d18_28 : decode jdk_52_method_4_code 28 = .ok (.iload_n 1, 1) := by decide +kernel
theorem d18_29 : decode jdk_52_method_4_code 29 = .ok (.iconst 1, 1) := by decide +kernel
theorem d18_30 : decode jdk_52_method_4_code 30 = .ok (.ishl, 1) := by decide +kernel
theorem d18_31 : decode jdk_52_method_4_code 31 = .ok (.istore_n 1, 1) := by decide +kernel
theorem d18_32 : decode jdk_52_method_4_code 32 = .ok (.aload_n 0, 1) := by decide +kernel
theorem d18_33 : decode jdk_52_method_4_code 33 = .ok (.iload_n 1, 1) := by decide +kernel
theorem d18_34 : decode jdk_52_method_4_code 34 = .ok (.iinc 1 1, 3) := by decide +kernel
theorem d18_37 : decode jdk_52_method_4_code 37 = .ok (.iload_n 2, 1) := by decide +kernel
theorem d18_38 : decode jdk_52_method_4_code 38 = .ok (.getstatic 59, 3) := by decide +kernel
theorem d18_41 : decode jdk_52_method_4_code 41 = .ok (.ishr, 1) := by decide +kernel
theorem d18_42 : decode jdk_52_method_4_code 42 = .ok (.i2b, 1) := by decide +kernel
theorem d18_43 : decode jdk_52_method_4_code 43 = .ok (.bastore, 1) := by decide +kernel
theorem d18_44 : decode jdk_52_method_4_code 44 = .ok (.aload_n 0, 1) := by decide +kernel
theorem d18_45 : decode jdk_52_method_4_code 45 = .ok (.iload_n 1, 1) := by decide +kernel
theorem d18_46 : decode jdk_52_method_4_code 46 = .ok (.iload_n 2, 1) := by decide +kernel
theorem d18_47 : decode jdk_52_method_4_code 47 = .ok (.getstatic 63, 3) := by decide +kernel
theorem d18_50 : decode jdk_52_method_4_code 50 = .ok (.ishr, 1) := by decide +kernel
theorem d18_51 : decode jdk_52_method_4_code 51 = .ok (.i2b, 1) := by decide +kernel
theorem d18_52 : decode jdk_52_method_4_code 52 = .ok (.bastore, 1) := by decide +kernel
theorem d18_53 : decode jdk_52_method_4_code 53 = .ok (.return_, 1) := by decide +kernel
theorem ef_rmPc (m : MethodId) (a1 : Addr) (i : Int32) (ch : Int32) : entryFrame m #[(.ref a1), (.int i), (.int ch)] 3 = mkF m 0 #[.val (.ref a1), .val (.int i), .val (.int ch)] [] := by first | (simp [entryFrame, mkF, argsToLocals, Value.category]; done) | rfl
def Q_rmPc (Z : State) (a1 : Addr) (i : Int32) (ch : Int32) (kb : ClassId) (M : Int32) (g : Nat → Int32) (mm : Nat) (k : Nat) (h0 : Heap) (n0 : Nat) (rv : Option Value) (hq : Heap) (Lq : List Loc) : Prop := rv = none ∧ Fr n0 Lq ∧ Keep h0 hq [a1] ∧ Arv Z hq a1 kb .byte M (own_tb (own_up (own_up g (2 * k) (oL ch)) (2 * k + 1) (oH ch))) (.int 0)
theorem rmPc (l : Launch) (Z : State) (a0 : Array Value) (hw : HW Z a0) (ws : List Jvm.Cond) (a1 : Addr) (i : Int32) (ch : Int32) (kb : ClassId) (M : Int32) (g : Nat → Int32) (mm : Nat) (k : Nat) (h0 : Heap) (n0 : Nat) (Z0 : n0 ≤ h0.size) (V_a1 : Arv Z h0 a1 kb .byte M (own_tb g) (.int 0)) (O0 : Old Z n0 h0) (hUS : own_US Z) (hM : Ix M mm) (hmm : mm ≤ 40) (hi : Ix i k) (hk2 : 2 * k + 1 < mm) (g_a1 : n0 ≤ a1) :
  MF l (⟨"java/lang/StringUTF16", "putChar", "([BII)V"⟩ : MethodName) jdk_52_method_4_code 3 none ws (rO 0 0 0 0) #[(.ref a1), (.int i), (.int ch)] Z h0 (Q_rmPc Z a1 i ch kb M g mm k h0 n0) := by
 refine own_met "java/lang/StringUTF16" rfl (plainFor_of_name pn_14) (fun m => ef_rmPc m a1 i ch) ?_
 intro p e s m below meth c s₁ Bd hx hby hml hown hnm hZ X0 e0
 have N0 := Fr.nil n0
 have hi2 := own_ixD hi (by omega)
 have hi3 := own_ixS hi2 (by omega)
 obtain ⟨T1, X1, e1, st1⟩ := getS2 X0 hx hZ hown (host := "") (Or.inl (tw hw 86 rfl)) Via.refl e0 (hUS.1.ext O0.2) (g := (mkF m 0 #[.val (.ref a1), .val (.int i), .val (.int ch)] [])) rfl (hb hby d18_0)
 refine gs m T1 3 #[.val (.ref a1), .val (.int i), .val (.int ch)] [(.int 1)] st1 ?_
 refine g_ifYes X1 hx 28 (hb hby d18_3) ((if0 _ _).trans (feq (by decide : ¬ ((1 : Int32) = (0 : Int32)))).2) (by decide) (by decide) ?_
 refine g_iloadN X1 hx 29 (hb hby d18_28) rfl rfl ?_
 refine g_iconst X1 hx 30 1 (hb hby d18_29) rfl rfl ?_
 refine gs m T1 31 #[.val (.ref a1), .val (.int i), .val (.int ch)] [(.int (i <<< ((1 : Int32) &&& 31)))] (fun _ kS => XS.ishl X1.here hx rfl (hb hby d18_30) rfl kS) ?_
 refine g_istoreN X1 hx 32 (hb hby d18_31) rfl (l' := #[.val (.ref a1), .val (.int (i <<< ((1 : Int32) &&& 31))), .val (.int ch)]) rfl ?_
 refine g_aloadN X1 hx 33 (hb hby d18_32) rfl rfl rfl ?_
 refine g_iloadN X1 hx 34 (hb hby d18_33) rfl rfl ?_
 refine gs m T1 37 #[.val (.ref a1), .val (.int ((i <<< ((1 : Int32) &&& 31)) + (1 : Int32))), .val (.int ch)] [(.int (i <<< ((1 : Int32) &&& 31))), (.ref a1)] (fun _ kS => XS.iinc X1.here hx rfl (hb hby d18_34) rfl (l' := #[.val (.ref a1), .val (.int ((i <<< ((1 : Int32) &&& 31)) + (1 : Int32))), .val (.int ch)]) rfl kS) ?_
 refine g_iloadN X1 hx 38 (hb hby d18_37) rfl rfl ?_
 obtain ⟨T2, X2, e2, st2⟩ := getS2 X1 hx hZ hown (host := "") (Or.inl (tw hw 87 rfl)) Via.refl e1 (hUS.2.1.ext O0.2) (g := (mkF m 38 #[.val (.ref a1), .val (.int ((i <<< ((1 : Int32) &&& 31)) + (1 : Int32))), .val (.int ch)] [(.int ch), (.int (i <<< ((1 : Int32) &&& 31))), (.ref a1)])) rfl (hb hby d18_38)
 refine gs m T2 41 #[.val (.ref a1), .val (.int ((i <<< ((1 : Int32) &&& 31)) + (1 : Int32))), .val (.int ch)] [(.int 0), (.int ch), (.int (i <<< ((1 : Int32) &&& 31))), (.ref a1)] st2 ?_
 refine gs m T2 42 #[.val (.ref a1), .val (.int ((i <<< ((1 : Int32) &&& 31)) + (1 : Int32))), .val (.int ch)] [(.int (ch >>> ((0 : Int32) &&& 31))), (.int (i <<< ((1 : Int32) &&& 31))), (.ref a1)] (fun _ kS => XS.ishr X2.here hx rfl (hb hby d18_41) rfl kS) ?_
 refine gs m T2 43 #[.val (.ref a1), .val (.int ((i <<< ((1 : Int32) &&& 31)) + (1 : Int32))), .val (.int ch)] [(.int ((ch >>> ((0 : Int32) &&& 31)).toInt8.toInt32)), (.int (i <<< ((1 : Int32) &&& 31))), (.ref a1)] (fun _ kS => XS.i2b X2.here hx rfl (hb hby d18_42) rfl kS) ?_
 obtain ⟨cl3, Ar3, qc3, Sz3, Nn3, Hs3, Gf3⟩ := id V_a1
 have hin4 : ¬ ((i <<< ((1 : Int32) &&& 31)) < 0 ∨ cl3.slots.size ≤ ((i <<< ((1 : Int32) &&& 31))).toNatClampNeg) := (inb_of Sz3 (own_ixb hi2 hM (by omega)))
 obtain ⟨T4, h4, X4, e4, W4, st4⟩ := stB X2 hx hZ e2 Ar3 (j := (i <<< ((1 : Int32) &&& 31))) hin4 (g := (mkF m 43 #[.val (.ref a1), .val (.int ((i <<< ((1 : Int32) &&& 31)) + (1 : Int32))), .val (.int ch)] [(.int ((ch >>> ((0 : Int32) &&& 31)).toInt8.toInt32)), (.int (i <<< ((1 : Int32) &&& 31))), (.ref a1)])) rfl rfl (hb hby d18_43)
 have N4 := Fr.snoc X4 N0 g_a1
 have Z5 : n0 ≤ h4.size := Nat.le_trans Z0 (Keep.of_wr W4).1
 have O5 : Old Z n0 h4 := O0.wr W4 g_a1
 have K5 : Keep h0 h4 [a1] := (Keep.refl h0 [a1]).wr W4 (Or.inl (List.mem_of_getElem? (i := 0) rfl))
 rw [own_lon] at W4
 have Va4 : Arv Z h4 a1 kb .byte M (own_tb (own_up g (2 * k) (oL ch))) (.int 0) := own_setT Ar3 qc3 Sz3 Nn3 Hs3 Gf3 (own_lof _) W4 hi2 (by omega)
 refine gs m T4 44 #[.val (.ref a1), .val (.int ((i <<< ((1 : Int32) &&& 31)) + (1 : Int32))), .val (.int ch)] [] st4 ?_
 refine g_aloadN X4 hx 45 (hb hby d18_44) rfl rfl rfl ?_
 refine g_iloadN X4 hx 46 (hb hby d18_45) rfl rfl ?_
 refine g_iloadN X4 hx 47 (hb hby d18_46) rfl rfl ?_
 obtain ⟨T6, X6, e6, st6⟩ := getS2 X4 hx hZ hown (host := "") (Or.inl (tw hw 88 rfl)) Via.refl e4 (hUS.2.2.ext O5.2) (g := (mkF m 47 #[.val (.ref a1), .val (.int ((i <<< ((1 : Int32) &&& 31)) + (1 : Int32))), .val (.int ch)] [(.int ch), (.int ((i <<< ((1 : Int32) &&& 31)) + (1 : Int32))), (.ref a1)])) rfl (hb hby d18_47)
 refine gs m T6 50 #[.val (.ref a1), .val (.int ((i <<< ((1 : Int32) &&& 31)) + (1 : Int32))), .val (.int ch)] [(.int 8), (.int ch), (.int ((i <<< ((1 : Int32) &&& 31)) + (1 : Int32))), (.ref a1)] st6 ?_
 refine gs m T6 51 #[.val (.ref a1), .val (.int ((i <<< ((1 : Int32) &&& 31)) + (1 : Int32))), .val (.int ch)] [(.int (ch >>> ((8 : Int32) &&& 31))), (.int ((i <<< ((1 : Int32) &&& 31)) + (1 : Int32))), (.ref a1)] (fun _ kS => XS.ishr X6.here hx rfl (hb hby d18_50) rfl kS) ?_
 refine gs m T6 52 #[.val (.ref a1), .val (.int ((i <<< ((1 : Int32) &&& 31)) + (1 : Int32))), .val (.int ch)] [(.int ((ch >>> ((8 : Int32) &&& 31)).toInt8.toInt32)), (.int ((i <<< ((1 : Int32) &&& 31)) + (1 : Int32))), (.ref a1)] (fun _ kS => XS.i2b X6.here hx rfl (hb hby d18_51) rfl kS) ?_
 obtain ⟨cl7, Ar7, qc7, Sz7, Nn7, Hs7, Gf7⟩ := id Va4
 have hin8 : ¬ (((i <<< ((1 : Int32) &&& 31)) + (1 : Int32)) < 0 ∨ cl7.slots.size ≤ (((i <<< ((1 : Int32) &&& 31)) + (1 : Int32))).toNatClampNeg) := (inb_of Sz7 (own_ixb hi3 hM (by omega)))
 obtain ⟨T8, h8, X8, e8, W8, st8⟩ := stB X6 hx hZ e6 Ar7 (j := ((i <<< ((1 : Int32) &&& 31)) + (1 : Int32))) hin8 (g := (mkF m 52 #[.val (.ref a1), .val (.int ((i <<< ((1 : Int32) &&& 31)) + (1 : Int32))), .val (.int ch)] [(.int ((ch >>> ((8 : Int32) &&& 31)).toInt8.toInt32)), (.int ((i <<< ((1 : Int32) &&& 31)) + (1 : Int32))), (.ref a1)])) rfl rfl (hb hby d18_52)
 have N8 := Fr.snoc X8 N4 g_a1
 have Z9 : n0 ≤ h8.size := Nat.le_trans Z5 (Keep.of_wr W8).1
 have O9 : Old Z n0 h8 := O5.wr W8 g_a1
 have K9 : Keep h0 h8 [a1] := K5.wr W8 (Or.inl (List.mem_of_getElem? (i := 0) rfl))
 rw [own_hin] at W8
 have Va8 : Arv Z h8 a1 kb .byte M (own_tb (own_up (own_up g (2 * k) (oL ch)) (2 * k + 1) (oH ch))) (.int 0) := own_setT Ar7 qc7 Sz7 Nn7 Hs7 Gf7 (own_hif _) W8 hi3 (by omega)
 refine gs m T8 53 #[.val (.ref a1), .val (.int ((i <<< ((1 : Int32) &&& 31)) + (1 : Int32))), .val (.int ch)] [] st8 ?_
 refine goV X8 hx Bd.returns Bd.notSynchronized (hb hby d18_53) ?_ (by decide) (by decide)
 show Q_rmPc Z a1 i ch kb M g mm k h0 n0 _ T8.heap _
 rw [e8]
 exact ⟨rfl, N8, K9, Va8⟩
theorem d19_0 : decode jdk_52_method_5_code 0 = .ok (.getstatic 44, 3) := by decide +kernel
theorem d19_3 : decode jdk_52_method_5_code 3 = .ok (.ifCond .ne 25, 3) := by decide +kernel
theorem d19_28 : decode jdk_52_method_5_code 28 = .ok (.iload_n 1, 1) := by decide +kernel
theorem d19_29 : decode jdk_52_method_5_code 29 = .ok (.iconst 1, 1) := by decide +kernel
theorem d19_30 : decode jdk_52_method_5_code 30 = .ok (.ishl, 1) := by decide +kernel
theorem d19_31 : decode jdk_52_method_5_code 31 = .ok (.istore_n 1, 1) := by decide +kernel
theorem d19_32 : decode jdk_52_method_5_code 32 = .ok (.aload_n 0, 1) := by decide +kernel
theorem d19_33 : decode jdk_52_method_5_code 33 = .ok (.iload_n 1, 1) := by decide +kernel
theorem d19_34 : decode jdk_52_method_5_code 34 = .ok (.iinc 1 1, 3) := by decide +kernel
theorem d19_37 : decode jdk_52_method_5_code 37 = .ok (.baload, 1) := by decide +kernel
theorem d19_38 : decode jdk_52_method_5_code 38 = .ok (.sipush 255, 3) := by decide +kernel
theorem d19_41 : decode jdk_52_method_5_code 41 = .ok (.iand, 1) := by decide +kernel
theorem d19_42 : decode jdk_52_method_5_code 42 = .ok (.getstatic 59, 3) := by decide +kernel
theorem d19_45 : decode jdk_52_method_5_code 45 = .ok (.ishl, 1) := by decide +kernel
theorem d19_46 : decode jdk_52_method_5_code 46 = .ok (.aload_n 0, 1) := by decide +kernel
theorem d19_47 : decode jdk_52_method_5_code 47 = .ok (.iload_n 1, 1) := by decide +kernel
theorem d19_48 : decode jdk_52_method_5_code 48 = .ok (.baload, 1) := by decide +kernel
theorem d19_49 : decode jdk_52_method_5_code 49 = .ok (.sipush 255, 3) := by decide +kernel
theorem d19_52 : decode jdk_52_method_5_code 52 = .ok (.iand, 1) := by decide +kernel
theorem d19_53 : decode jdk_52_method_5_code 53 = .ok (.getstatic 63, 3) := by decide +kernel
theorem d19_56 : decode jdk_52_method_5_code 56 = .ok (.ishl, 1) := by decide +kernel
theorem d19_57 : decode jdk_52_method_5_code 57 = .ok (.ior, 1) := by decide +kernel
theorem d19_58 : decode jdk_52_method_5_code 58 = .ok (.i2c, 1) := by decide +kernel
theorem d19_59 : decode jdk_52_method_5_code 59 = .ok (.ireturn, 1) := by decide +kernel
theorem ef_rmGc (m : MethodId) (a1 : Addr) (i : Int32) : entryFrame m #[(.ref a1), (.int i)] 2 = mkF m 0 #[.val (.ref a1), .val (.int i)] [] := by first | (simp [entryFrame, mkF, argsToLocals, Value.category]; done) | rfl
def Q_rmGc (Z : State) (a1 : Addr) (i : Int32) (kb : ClassId) (M : Int32) (g : Nat → Int32) (mm : Nat) (k : Nat) (ch : Int32) (h0 : Heap) (n0 : Nat) (rv : Option Value) (hq : Heap) (Lq : List Loc) : Prop := rv = some (.int ch) ∧ Fr n0 Lq ∧ hq = h0
theorem rmGc (l : Launch) (Z : State) (a0 : Array Value) (hw : HW Z a0) (ws : List Jvm.Cond) (a1 : Addr) (i : Int32) (kb : ClassId) (M : Int32) (g : Nat → Int32) (mm : Nat) (k : Nat) (ch : Int32) (h0 : Heap) (n0 : Nat) (Z0 : n0 ≤ h0.size) (V_a1 : Arv Z h0 a1 kb .byte M (own_tb g) (.int 0)) (O0 : Old Z n0 h0) (hUS : own_US Z) (hM : Ix M mm) (hmm : mm ≤ 40) (hi : Ix i k) (hk2 : 2 * k + 1 < mm) (hlo : g (2 * k) = oL ch) (hhi : g (2 * k + 1) = oH ch) (hr : 0 ≤ ch.toInt ∧ ch.toInt ≤ 65535) :
  MF l y100 jdk_52_method_5_code 2 (some .char) ws (rO 0 0 0 0) #[(.ref a1), (.int i)] Z h0 (Q_rmGc Z a1 i kb M g mm k ch h0 n0) := by
 refine own_met "java/lang/StringUTF16" rfl (plainFor_of_name pn_14) (fun m => ef_rmGc m a1 i) ?_
 intro p e s m below meth c s₁ Bd hx hby hml hown hnm hZ X0 e0
 have N0 := Fr.nil n0
 have hi2 := own_ixD hi (by omega)
 have hi3 := own_ixS hi2 (by omega)
 obtain ⟨T1, X1, e1, st1⟩ := getS2 X0 hx hZ hown (host := "") (Or.inl (tw hw 86 rfl)) Via.refl e0 (hUS.1.ext O0.2) (g := (mkF m 0 #[.val (.ref a1), .val (.int i)] [])) rfl (hb hby d19_0)
 refine gs m T1 3 #[.val (.ref a1), .val (.int i)] [(.int 1)] st1 ?_
 refine g_ifYes X1 hx 28 (hb hby d19_3) ((if0 _ _).trans (feq (by decide : ¬ ((1 : Int32) = (0 : Int32)))).2) (by decide) (by decide) ?_
 refine g_iloadN X1 hx 29 (hb hby d19_28) rfl rfl ?_
 refine g_iconst X1 hx 30 1 (hb hby d19_29) rfl rfl ?_
 refine gs m T1 31 #[.val (.ref a1), .val (.int i)] [(.int (i <<< ((1 : Int32) &&& 31)))] (fun _ kS => XS.ishl X1.here hx rfl (hb hby d19_30) rfl kS) ?_
 refine g_istoreN X1 hx 32 (hb hby d19_31) rfl (l' := #[.val (.ref a1), .val (.int (i <<< ((1 : Int32) &&& 31)))]) rfl ?_
 refine g_aloadN X1 hx 33 (hb hby d19_32) rfl rfl rfl ?_
 refine g_iloadN X1 hx 34 (hb hby d19_33) rfl rfl ?_
 refine gs m T1 37 #[.val (.ref a1), .val (.int ((i <<< ((1 : Int32) &&& 31)) + (1 : Int32)))] [(.int (i <<< ((1 : Int32) &&& 31))), (.ref a1)] (fun _ kS => XS.iinc X1.here hx rfl (hb hby d19_34) rfl (l' := #[.val (.ref a1), .val (.int ((i <<< ((1 : Int32) &&& 31)) + (1 : Int32)))]) rfl kS) ?_
 obtain ⟨cl2, Ar2, qc2, Sz2, Nn2, Hs2, Gf2⟩ := id V_a1
 have hin3 : ¬ ((i <<< ((1 : Int32) &&& 31)) < 0 ∨ cl2.slots.size ≤ ((i <<< ((1 : Int32) &&& 31))).toNatClampNeg) := (inb_of Sz2 (own_ixb hi2 hM (by omega)))
 have hat3 : cl2.slots[((i <<< ((1 : Int32) &&& 31))).toNatClampNeg]? = some (.int (oL ch)) := (own_atT Hs2 hin3 hi2 (by omega)).trans (congrArg (fun z => some (Value.int z)) hlo)
 refine gs m T1 38 #[.val (.ref a1), .val (.int ((i <<< ((1 : Int32) &&& 31)) + (1 : Int32)))] [(.int (oL ch))] (fun _ kS => X1.baloadBytes hx (j := (i <<< ((1 : Int32) &&& 31))) (v := (.int (oL ch))) (by rw [e1]; exact Ar2.1) (State.isArrayOf_alike hZ.alike Ar2.2.1) Ar2.2.2 hin3 hat3 (g := (mkF m 37 #[.val (.ref a1), .val (.int ((i <<< ((1 : Int32) &&& 31)) + (1 : Int32)))] [(.int (i <<< ((1 : Int32) &&& 31))), (.ref a1)])) rfl rfl (hb hby d19_37) _ kS) ?_
 refine g_sipush X1 hx 41 255 (hb hby d19_38) rfl rfl ?_
 refine gs m T1 42 #[.val (.ref a1), .val (.int ((i <<< ((1 : Int32) &&& 31)) + (1 : Int32)))] [(.int ((oL ch) &&& (255 : Int32)))] (fun _ kS => XS.iand X1.here hx rfl (hb hby d19_41) rfl kS) ?_
 obtain ⟨T4, X4, e4, st4⟩ := getS2 X1 hx hZ hown (host := "") (Or.inl (tw hw 87 rfl)) Via.refl e1 (hUS.2.1.ext O0.2) (g := (mkF m 42 #[.val (.ref a1), .val (.int ((i <<< ((1 : Int32) &&& 31)) + (1 : Int32)))] [(.int ((oL ch) &&& (255 : Int32)))])) rfl (hb hby d19_42)
 refine gs m T4 45 #[.val (.ref a1), .val (.int ((i <<< ((1 : Int32) &&& 31)) + (1 : Int32)))] [(.int 0), (.int ((oL ch) &&& (255 : Int32)))] st4 ?_
 refine gs m T4 46 #[.val (.ref a1), .val (.int ((i <<< ((1 : Int32) &&& 31)) + (1 : Int32)))] [(.int (((oL ch) &&& (255 : Int32)) <<< ((0 : Int32) &&& 31)))] (fun _ kS => XS.ishl X4.here hx rfl (hb hby d19_45) rfl kS) ?_
 refine g_aloadN X4 hx 47 (hb hby d19_46) rfl rfl rfl ?_
 refine g_iloadN X4 hx 48 (hb hby d19_47) rfl rfl ?_
 obtain ⟨cl5, Ar5, qc5, Sz5, Nn5, Hs5, Gf5⟩ := id V_a1
 have hin6 : ¬ (((i <<< ((1 : Int32) &&& 31)) + (1 : Int32)) < 0 ∨ cl5.slots.size ≤ (((i <<< ((1 : Int32) &&& 31)) + (1 : Int32))).toNatClampNeg) := (inb_of Sz5 (own_ixb hi3 hM (by omega)))
 have hat6 : cl5.slots[(((i <<< ((1 : Int32) &&& 31)) + (1 : Int32))).toNatClampNeg]? = some (.int (oH ch)) := (own_atT Hs5 hin6 hi3 (by omega)).trans (congrArg (fun z => some (Value.int z)) hhi)
 refine gs m T4 49 #[.val (.ref a1), .val (.int ((i <<< ((1 : Int32) &&& 31)) + (1 : Int32)))] [(.int (oH ch)), (.int (((oL ch) &&& (255 : Int32)) <<< ((0 : Int32) &&& 31)))] (fun _ kS => X4.baloadBytes hx (j := ((i <<< ((1 : Int32) &&& 31)) + (1 : Int32))) (v := (.int (oH ch))) (by rw [e4]; exact Ar5.1) (State.isArrayOf_alike hZ.alike Ar5.2.1) Ar5.2.2 hin6 hat6 (g := (mkF m 48 #[.val (.ref a1), .val (.int ((i <<< ((1 : Int32) &&& 31)) + (1 : Int32)))] [(.int ((i <<< ((1 : Int32) &&& 31)) + (1 : Int32))), (.ref a1), (.int (((oL ch) &&& (255 : Int32)) <<< ((0 : Int32) &&& 31)))])) rfl rfl (hb hby d19_48) _ kS) ?_
 refine g_sipush X4 hx 52 255 (hb hby d19_49) rfl rfl ?_
 refine gs m T4 53 #[.val (.ref a1), .val (.int ((i <<< ((1 : Int32) &&& 31)) + (1 : Int32)))] [(.int ((oH ch) &&& (255 : Int32))), (.int (((oL ch) &&& (255 : Int32)) <<< ((0 : Int32) &&& 31)))] (fun _ kS => XS.iand X4.here hx rfl (hb hby d19_52) rfl kS) ?_
 obtain ⟨T7, X7, e7, st7⟩ := getS2 X4 hx hZ hown (host := "") (Or.inl (tw hw 88 rfl)) Via.refl e4 (hUS.2.2.ext O0.2) (g := (mkF m 53 #[.val (.ref a1), .val (.int ((i <<< ((1 : Int32) &&& 31)) + (1 : Int32)))] [(.int ((oH ch) &&& (255 : Int32))), (.int (((oL ch) &&& (255 : Int32)) <<< ((0 : Int32) &&& 31)))])) rfl (hb hby d19_53)
 refine gs m T7 56 #[.val (.ref a1), .val (.int ((i <<< ((1 : Int32) &&& 31)) + (1 : Int32)))] [(.int 8), (.int ((oH ch) &&& (255 : Int32))), (.int (((oL ch) &&& (255 : Int32)) <<< ((0 : Int32) &&& 31)))] st7 ?_
 refine gs m T7 57 #[.val (.ref a1), .val (.int ((i <<< ((1 : Int32) &&& 31)) + (1 : Int32)))] [(.int (((oH ch) &&& (255 : Int32)) <<< ((8 : Int32) &&& 31))), (.int (((oL ch) &&& (255 : Int32)) <<< ((0 : Int32) &&& 31)))] (fun _ kS => XS.ishl X7.here hx rfl (hb hby d19_56) rfl kS) ?_
 refine gs m T7 58 #[.val (.ref a1), .val (.int ((i <<< ((1 : Int32) &&& 31)) + (1 : Int32)))] [(.int ((((oL ch) &&& (255 : Int32)) <<< ((0 : Int32) &&& 31)) ||| (((oH ch) &&& (255 : Int32)) <<< ((8 : Int32) &&& 31))))] (fun _ kS => XS.ior X7.here hx rfl (hb hby d19_57) rfl kS) ?_
 refine gs m T7 59 #[.val (.ref a1), .val (.int ((i <<< ((1 : Int32) &&& 31)) + (1 : Int32)))] [(.int (((((oL ch) &&& (255 : Int32)) <<< ((0 : Int32) &&& 31)) ||| (((oH ch) &&& (255 : Int32)) <<< ((8 : Int32) &&& 31))).toUInt32.toUInt16.toUInt32.toInt32))] (fun _ kS => XS.i2c X7.here hx rfl (hb hby d19_58) rfl kS) ?_
 refine goN X7 hx (t := .char) Bd.returns (by simp) Bd.notSynchronized (hb hby d19_59) ?_ (by decide) (by decide)
 show Q_rmGc Z a1 i kb M g mm k ch h0 n0 _ T7.heap _
 rw [e7]
 exact ⟨(congrArg (fun z => some (Value.int z)) (own_gcn ch hr)), N0, rfl⟩
theorem d15_0 : decode jdk_52_method_14_code 0 = .ok (.iload_n 2, 1) := by decide +kernel
theorem d15_1 : decode jdk_52_method_14_code 1 = .ok (.invokestatic 107, 3) := by decide +kernel
theorem pd_1 : parseMethodDescriptor "(I)[B" = some ⟨[.int], some (.array .byte)⟩ := by decide +kernel
theorem d15_4 : decode jdk_52_method_14_code 4 = .ok (.astore_n 3, 1) := by decide +kernel
theorem d15_5 : decode jdk_52_method_14_code 5 = .ok (.iconst 0, 1) := by decide +kernel
theorem d15_6 : decode jdk_52_method_14_code 6 = .ok (.istore 4, 2) := by decide +kernel
theorem d15_8 : decode jdk_52_method_14_code 8 = .ok (.iload 4, 2) := by decide +kernel
theorem d15_10 : decode jdk_52_method_14_code 10 = .ok (.iload_n 2, 1) := by decide +kernel
theorem d15_11 : decode jdk_52_method_14_code 11 = .ok (.if_icmp .ge 21, 3) := by decide +kernel
theorem d15_14 : decode jdk_52_method_14_code 14 = .ok (.aload_n 3, 1) := by decide +kernel
theorem d15_15 : decode jdk_52_method_14_code 15 = .ok (.iload 4, 2) := by decide +kernel
theorem d15_17 : decode jdk_52_method_14_code 17 = .ok (.aload_n 0, 1) := by decide +kernel
theorem d15_18 : decode jdk_52_method_14_code 18 = .ok (.iload_n 1, 1) := by decide +kernel
theorem d15_19 : decode jdk_52_method_14_code 19 = .ok (.caload, 1) := by decide +kernel
theorem d15_20 : decode jdk_52_method_14_code 20 = .ok (.invokestatic 111, 3) := by decide +kernel
theorem pd_2 : parseMethodDescriptor "([BII)V" = some ⟨[(.array .byte), .int, .int], none⟩ := by decide +kernel
theorem d15_23 : decode jdk_52_method_14_code 23 = .ok (.iinc 1 1, 3) := by decide +kernel
theorem d15_26 : decode jdk_52_method_14_code 26 = .ok (.iinc 4 1, 3) := by decide +kernel
theorem d15_29 : decode jdk_52_method_14_code 29 = .ok (.goto (-21), 3) := by decide +kernel
theorem d15_32 : decode jdk_52_method_14_code 32 = .ok (.aload_n 3, 1) := by decide +kernel
theorem d15_33 : decode jdk_52_method_14_code 33 = .ok (.areturn, 1) := by decide +kernel
theorem ef_rmTb (m : MethodId) (a1 : Addr) (N : Int32) : entryFrame m #[(.ref a1), (.int 0), (.int N)] 5 = mkF m 0 #[.val (.ref a1), .val (.int 0), .val (.int N), .unset, .unset] [] := by first | (simp [entryFrame, mkF, argsToLocals, Value.category]; done) | rfl
def Q_rmTb (Z : State) (a1 : Addr) (N : Int32) (kc : ClassId) (f : Nat → Int32) (nn : Nat) (h0 : Heap) (n0 : Nat) (rv : Option Value) (hq : Heap) (Lq : List Loc) : Prop := ∃ b : Addr, ∃ kb : ClassId, ∃ g : Nat → Int32, rv = some (.ref b) ∧ Fr n0 Lq ∧ Keep h0 hq [] ∧ h0.size ≤ b ∧ Arv Z hq b kb .byte (N <<< ((1 : Int32) &&& 31)) (own_tb g) (.int 0) ∧ own_ti f g nn
theorem rmTb (l : Launch) (Z : State) (a0 : Array Value) (hw : HW Z a0) (ws : List Jvm.Cond) (a1 : Addr) (N : Int32) (kc : ClassId) (f : Nat → Int32) (nn : Nat) (h0 : Heap) (n0 : Nat) (Z0 : n0 ≤ h0.size) (V_a1 : Arv Z h0 a1 kc .char N (own_tb f) (.int 0)) (O0 : Old Z n0 h0) (hUS : own_US Z) (hN : Ix N nn) (hnn : nn ≤ 20) :
  MF l (⟨"java/lang/StringUTF16", "toBytes", "([CII)[B"⟩ : MethodName) jdk_52_method_14_code 5 (some (.array .byte)) ws (rO 2 1 40 24) #[(.ref a1), (.int 0), (.int N)] Z h0 (Q_rmTb Z a1 N kc f nn h0 n0) := by
 refine own_met "java/lang/StringUTF16" rfl (plainFor_of_name pn_14) (fun m => ef_rmTb m a1 N) ?_
 intro p e s m below meth c s₁ Bd hx hby hml hown hnm hZ X0 e0
 have N0 := Fr.nil n0
 refine g_iloadN X0 hx 1 (hb hby d15_0) rfl rfl ?_
 obtain ⟨_, _, ⟨T1, L1, kk1, nn1⟩, -, X1, ⟨Lc1, hQ1, lq1, yq1, zq1⟩, st1⟩ := Jvm.LawKit.callS X0 hx (y := (⟨"java/lang/StringUTF16", "newBytesFor", "(I)[B"⟩ : MethodName)) hown (mvT hZ (tw hw 76 rfl)) (mvT hZ (tw hw 77 rfl)) (mvT hZ (tw hw 68 rfl)) (mvT hZ (tw hw 78 rfl)) (by decide) (backOf (W := 0) (rmNbf l Z a0 hw [] N nn h0 n0 Z0 hN hnn) hZ (tw hw 78 rfl) (tw hw 68 rfl) (by decide) (by decide)) (g := (mkF m 1 #[.val (.ref a1), .val (.int 0), .val (.int N), .unset, .unset] [(.int N)])) rfl (by rw [hml]; rfl) (argsL := [(.int N)]) (rest := []) (lenOf pd_1 rfl) rfl (by show 2 * 0 + _ ≤ _; exact Nat.le_of_eq rfl) (hb hby d15_1) (fun _ _ => ⟨rfl, e0, (by decide : 0 + 1 ≤ _), (by decide : 0 + 40 ≤ _)⟩)
 dsimp only [Pt.U, Pt.locs, Pt.cells, Pt.slots] at X1 lq1 yq1 zq1 st1 hQ1
 subst yq1 zq1
 obtain ⟨b_1, kb_1, rfl, Nq1, Kq1, r1_0, r1_1⟩ := hQ1
 have N1 : Fr n0 L1 := by rw [lq1]; exact Fr.app N0 Nq1
 have g_b_1 : n0 ≤ b_1 := Nat.le_trans Z0 r1_0
 have sz_b_1 : h0.size ≤ b_1 := Nat.le_trans (Keep.refl h0 []).1 r1_0
 have Z2 : n0 ≤ T1.heap.size := Nat.le_trans Z0 Kq1.1
 have O2 : Old Z n0 T1.heap := O0.keep Kq1 all0
 have K2 : Keep h0 T1.heap [] := (Keep.refl h0 []).trans Kq1 all0
 refine gs m T1 4 #[.val (.ref a1), .val (.int 0), .val (.int N), .unset, .unset] [(.ref b_1)] st1 ?_
 refine g_astoreN X1 hx 5 (hb hby d15_4) rfl rfl (l' := #[.val (.ref a1), .val (.int 0), .val (.int N), .val (.ref b_1), .unset]) rfl ?_
 refine g_iconst X1 hx 6 0 (hb hby d15_5) rfl rfl ?_
 refine g_istore X1 hx 8 (hb hby d15_6) rfl (l' := #[.val (.ref a1), .val (.int 0), .val (.int N), .val (.ref b_1), .val (.int 0)]) rfl ?_
 have J3 : ∀ (km3 : Nat) (i : Int32) (k : Nat) (g : Nat → Int32) (hi : Ix i k) (hkn : k ≤ nn) (hg : own_ti f g k) (hm3 : nn - k = km3) (hj3 : Heap) (Zj3 : n0 ≤ hj3.size) (Oj3 : Old Z n0 hj3) (Kj3 : Keep h0 hj3 []) (V_a1_j3 : Arv Z hj3 a1 kc .char N (own_tb f) (.int 0)) (V_b_1_j3 : Arv Z hj3 b_1 kb_1 .byte (N <<< ((1 : Int32) &&& 31)) (own_tb g) (.int 0)) (Tj3 : State) (Lj3 : List Loc) (Xj3 : Stand p l e (rO 2 1 40 24) s m #[(.ref a1), (.int 0), (.int N)] below meth c Tj3 Lj3 1 40) (ej3 : Tj3.heap = hj3) (Nj3 : Fr n0 Lj3), Go p e below (Fin1 s below (Q_rmTb Z a1 N kc f nn h0 n0) (rO 2 1 40 24).cells (rO 2 1 40 24).slots) Tj3 (mkF m 8 #[.val (.ref a1), .val (.int i), .val (.int N), .val (.ref b_1), .val (.int i)] []) := by
  intro km3
  induction km3 using Nat.strongRecOn with
  | ind km3 ih3 =>
   intro i k g hi hkn hg hm3 hj3 Zj3 Oj3 Kj3 V_a1_j3 V_b_1_j3 Tj3 Lj3 Xj3 ej3 Nj3
   refine g_iload Xj3 hx 10 (hb hby d15_8) rfl rfl ?_
   refine g_iloadN Xj3 hx 11 (hb hby d15_10) rfl rfl ?_
   by_cases hc11 : i < N
   ·refine g_icmpNo Xj3 hx 14 (hb hby d15_11) rfl (tlt hc11).2.1 ?_
    have hlt := (own_ixlt hi hN).mp hc11
    refine g_aloadN Xj3 hx 15 (hb hby d15_14) rfl rfl rfl ?_
    refine g_iload Xj3 hx 17 (hb hby d15_15) rfl rfl ?_
    refine g_aloadN Xj3 hx 18 (hb hby d15_17) rfl rfl rfl ?_
    refine g_iloadN Xj3 hx 19 (hb hby d15_18) rfl rfl ?_
    obtain ⟨cl4, Ar4, qc4, Sz4, Nn4, Hs4, Gf4⟩ := id V_a1_j3
    have hin5 : ¬ (i < 0 ∨ cl4.slots.size ≤ (i).toNatClampNeg) := (inb_of Sz4 (own_ixb hi hN hlt))
    have hat5 : cl4.slots[(i).toNatClampNeg]? = some (.int (f k)) := own_atT Hs4 hin5 hi (by omega)
    refine gs m Tj3 20 #[.val (.ref a1), .val (.int i), .val (.int N), .val (.ref b_1), .val (.int i)] [(.int (f k)), (.int i), (.ref b_1)] (fun _ kS => Xj3.caload hx (j := i) (v := (.int (f k))) (by rw [ej3]; exact Ar4.1) (State.isArrayOf_alike hZ.alike Ar4.2.1) Ar4.2.2 hin5 hat5 (g := (mkF m 19 #[.val (.ref a1), .val (.int i), .val (.int N), .val (.ref b_1), .val (.int i)] [(.int i), (.ref a1), (.int i), (.ref b_1)])) rfl rfl (hb hby d15_19) _ kS) ?_
    obtain ⟨_, _, ⟨T6, L6, kk6, nn6⟩, -, X6, ⟨Lc6, hQ6, lq6, yq6, zq6⟩, st6⟩ := Jvm.LawKit.callS Xj3 hx (y := (⟨"java/lang/StringUTF16", "putChar", "([BII)V"⟩ : MethodName)) hown (mvT hZ (tw hw 83 rfl)) (mvT hZ (tw hw 84 rfl)) (mvT hZ (tw hw 68 rfl)) (mvT hZ (tw hw 85 rfl)) (by decide) (backOf (W := 0) (rmPc l Z a0 hw [] b_1 i (f k) kb_1 (N <<< ((1 : Int32) &&& 31)) g (2 * nn) k hj3 n0 Zj3 V_b_1_j3 Oj3 hUS (own_ixD hN (by omega)) (by omega) hi (by omega) g_b_1) hZ (tw hw 85 rfl) (tw hw 68 rfl) (by decide) (by decide)) (g := (mkF m 20 #[.val (.ref a1), .val (.int i), .val (.int N), .val (.ref b_1), .val (.int i)] [(.int (f k)), (.int i), (.ref b_1)])) rfl (by rw [hml]; rfl) (argsL := [(.ref b_1), (.int i), (.int (f k))]) (rest := []) (lenOf pd_2 rfl) rfl (by show 2 * 0 + _ ≤ _; exact Nat.le_of_eq rfl) (hb hby d15_20) (fun _ _ => ⟨rfl, ej3, (by decide : 1 + 0 ≤ _), (by decide : 40 + 0 ≤ _)⟩)
    dsimp only [Pt.U, Pt.locs, Pt.cells, Pt.slots] at X6 lq6 yq6 zq6 st6 hQ6
    subst yq6 zq6
    obtain ⟨rfl, Nq6, Kq6, r6_0⟩ := hQ6
    have N6 : Fr n0 L6 := by rw [lq6]; exact Fr.app Nj3 Nq6
    have Z7 : n0 ≤ T6.heap.size := Nat.le_trans Zj3 Kq6.1
    have O7 : Old Z n0 T6.heap := Oj3.keep Kq6 (allS g_b_1 all0)
    have K7 : Keep h0 T6.heap [] := Kj3.trans Kq6 (allS (Or.inr sz_b_1) all0)
    refine gs m T6 23 #[.val (.ref a1), .val (.int i), .val (.int N), .val (.ref b_1), .val (.int i)] [] st6 ?_
    refine gs m T6 26 #[.val (.ref a1), .val (.int (i + (1 : Int32))), .val (.int N), .val (.ref b_1), .val (.int i)] [] (fun _ kS => XS.iinc X6.here hx rfl (hb hby d15_23) rfl (l' := #[.val (.ref a1), .val (.int (i + (1 : Int32))), .val (.int N), .val (.ref b_1), .val (.int i)]) rfl kS) ?_
    refine gs m T6 29 #[.val (.ref a1), .val (.int (i + (1 : Int32))), .val (.int N), .val (.ref b_1), .val (.int (i + (1 : Int32)))] [] (fun _ kS => XS.iinc X6.here hx rfl (hb hby d15_26) rfl (l' := #[.val (.ref a1), .val (.int (i + (1 : Int32))), .val (.int N), .val (.ref b_1), .val (.int (i + (1 : Int32)))]) rfl kS) ?_
    refine g_goto X6 hx 8 (hb hby d15_29) (by decide) (by decide) ?_
    have q8 : Arv Z T6.heap a1 kc .char N (own_tb f) (.int 0) := (V_a1_j3.keep Kq6 (ninS (Nat.ne_of_lt (Nat.lt_of_lt_of_le V_a1.lt r1_0)) nin0))
    exact ih3 _ (by omega) (i + (1 : Int32)) (k + 1) (own_up (own_up g (2 * k) (oL (f k))) (2 * k + 1) (oH (f k))) (own_ixS hi (by omega)) hlt (own_tiS hg) rfl T6.heap Z7 O7 K7 q8 r6_0 _ _ X6 rfl N6
   ·refine g_icmpYes Xj3 hx 32 (hb hby d15_11) (flt hc11).2.1 (by decide) (by decide) ?_
    refine g_aloadN Xj3 hx 33 (hb hby d15_32) rfl rfl rfl ?_
    refine goA Xj3 hx Bd.returns rfl rfl Bd.notSynchronized (hb hby d15_33) ?_ (by decide) (by decide)
    show Q_rmTb Z a1 N kc f nn h0 n0 _ Tj3.heap _
    rw [ej3]
    exact ⟨b_1, kb_1, g, rfl, Nj3, Kj3, sz_b_1, V_b_1_j3, (fun j hj => hg j (by have hh : ¬ k < nn := fun q => hc11 ((own_ixlt hi hN).mpr q); omega))⟩
 have q9 : Arv Z T1.heap a1 kc .char N (own_tb f) (.int 0) := (V_a1.keep Kq1 nin0)
 exact J3 _ (0 : Int32) 0 own_0 own_ix0 (Nat.zero_le _) (fun j hj => absurd hj (Nat.not_lt_zero j)) rfl T1.heap Z2 O2 K2 q9 r1_1 _ _ X1 rfl N1
theorem d13_0 : decode jdk_52_method_16_code 0 = .ok (.iload_n 2, 1) := by decide +kernel
theorem d13_1 : decode jdk_52_method_16_code 1 = .ok (.newarray .byte, 2) := by decide +kernel
theorem d13_3 : decode jdk_52_method_16_code 3 = .ok (.astore_n 3, 1) := by decide +kernel
theorem d13_4 : decode jdk_52_method_16_code 4 = .ok (.aload_n 0, 1) := by decide +kernel
theorem d13_5 : decode jdk_52_method_16_code 5 = .ok (.iload_n 1, 1) := by decide +kernel
theorem d13_6 : decode jdk_52_method_16_code 6 = .ok (.aload_n 3, 1) := by decide +kernel
theorem d13_7 : decode jdk_52_method_16_code 7 = .ok (.iconst 0, 1) := by decide +kernel
theorem d13_8 : decode jdk_52_method_16_code 8 = .ok (.iload_n 2, 1) := by decide +kernel
theorem d13_9 : decode jdk_52_method_16_code 9 = .ok (.invokestatic 115, 3) := by decide +kernel
theorem pd_3 : parseMethodDescriptor "([CI[BII)I" = some ⟨[(.array .char), .int, (.array .byte), .int, .int], some .int⟩ := by decide +kernel
theorem d13_12 : decode jdk_52_method_16_code 12 = .ok (.istore 4, 2) := by decide +kernel
theorem d13_14 : decode jdk_52_method_16_code 14 = .ok (.iload 4, 2) := by decide +kernel
theorem d13_16 : decode jdk_52_method_16_code 16 = .ok (.iload_n 2, 1) := by decide +kernel
theorem d13_17 : decode jdk_52_method_16_code 17 = .ok (.if_icmp .eq 40, 3) := by decide +kernel
theorem d13_57 : decode jdk_52_method_16_code 57 = .ok (.aload_n 3, 1) := by decide +kernel
theorem d13_58 : decode jdk_52_method_16_code 58 = .ok (.areturn, 1) := by decide +kernel
theorem d13_20 : decode jdk_52_method_16_code 20 = .ok (.aload_n 0, 1) := by decide +kernel
theorem d13_21 : decode jdk_52_method_16_code 21 = .ok (.iload_n 1, 1) := by decide +kernel
theorem d13_22 : decode jdk_52_method_16_code 22 = .ok (.iload_n 2, 1) := by decide +kernel
theorem d13_23 : decode jdk_52_method_16_code 23 = .ok (.invokestatic 119, 3) := by decide +kernel
theorem pd_4 : parseMethodDescriptor "([CII)[B" = some ⟨[(.array .char), .int, .int], some (.array .byte)⟩ := by decide +kernel
theorem d13_26 : decode jdk_52_method_16_code 26 = .ok (.astore 5, 2) := by decide +kernel
theorem d13_28 : decode jdk_52_method_16_code 28 = .ok (.aload 5, 2) := by decide +kernel
theorem d13_30 : decode jdk_52_method_16_code 30 = .ok (.iload 4, 2) := by decide +kernel
theorem d13_32 : decode jdk_52_method_16_code 32 = .ok (.invokestatic 71, 3) := by decide +kernel
theorem pd_5 : parseMethodDescriptor "([BI)C" = some ⟨[(.array .byte), .int], some .char⟩ := by decide +kernel
theorem d13_35 : decode jdk_52_method_16_code 35 = .ok (.sipush 255, 3) := by decide +kernel
theorem d13_38 : decode jdk_52_method_16_code 38 = .ok (.if_icmp .gt 16, 3) := by decide +kernel
theorem d13_54 : decode jdk_52_method_16_code 54 = .ok (.aload 5, 2) := by decide +kernel
theorem d13_56 : decode jdk_52_method_16_code 56 = .ok (.areturn, 1) := by decide +kernel
theorem ef_rmCpB (m : MethodId) (a1 : Addr) (N : Int32) : entryFrame m #[(.ref a1), (.int 0), (.int N)] 6 = mkF m 0 #[.val (.ref a1), .val (.int 0), .val (.int N), .unset, .unset, .unset] [] := by first | (simp [entryFrame, mkF, argsToLocals, Value.category]; done) | rfl
def Q_rmCpB (Z : State) (a1 : Addr) (N : Int32) (kc : ClassId) (f : Nat → Int32) (nn : Nat) (h0 : Heap) (n0 : Nat) (rv : Option Value) (hq : Heap) (Lq : List Loc) : Prop := ∃ b : Addr, ∃ kb : ClassId, ∃ nb : Int32, ∃ g : Nat → Int32, ∃ co : Int32, rv = some (.ref b) ∧ Fr n0 Lq ∧ Keep h0 hq [] ∧ h0.size ≤ b ∧ Arv Z hq b kb .byte nb (own_tb g) (.int 0) ∧ own_st f nn nb g co
theorem rmCpB (l : Launch) (Z : State) (a0 : Array Value) (hw : HW Z a0) (ws : List Jvm.Cond) (a1 : Addr) (N : Int32) (kc : ClassId) (f : Nat → Int32) (nn : Nat) (h0 : Heap) (n0 : Nat) (Z0 : n0 ≤ h0.size) (V_a1 : Arv Z h0 a1 kc .char N (own_tb f) (.int 0)) (O0 : Old Z n0 h0) (hUS : own_US Z) (hN : Ix N nn) (hnn : nn ≤ 20) (hrg : own_rg f nn) :
  MF l (⟨"java/lang/StringUTF16", "compress", "([CII)[B"⟩ : MethodName) jdk_52_method_16_code 6 (some (.array .byte)) ws (rO 3 2 60 40) #[(.ref a1), (.int 0), (.int N)] Z h0 (Q_rmCpB Z a1 N kc f nn h0 n0) := by
 refine own_met "java/lang/StringUTF16" rfl (plainFor_of_name pn_14) (fun m => ef_rmCpB m a1 N) ?_
 intro p e s m below meth c s₁ Bd hx hby hml hown hnm hZ X0 e0
 have N0 := Fr.nil n0
 refine g_iloadN X0 hx 1 (hb hby d13_0) rfl rfl ?_
 obtain ⟨T1, h1, k1, X1, e1, E1, A1, st1⟩ := newP X0 hx hZ (tw hw 21 rfl) e0 (g := (mkF m 1 #[.val (.ref a1), .val (.int 0), .val (.int N), .unset, .unset, .unset] [(.int N)])) rfl (hb hby d13_1) rfl (own_ixnn hN) (cap := 20) (by rw [own_ixn hN]; omega) (by decide) (by decide) (by decide)
 obtain ⟨b1, g1⟩ : ∃ z, z = h0.size := ⟨_, rfl⟩
 rw [← g1] at A1 st1
 have g_b1 : n0 ≤ b1 := Nat.le_trans Z0 (Nat.le_of_eq g1.symm)
 have sz_b1 : h0.size ≤ b1 := Nat.le_trans (Keep.refl h0 []).1 (Nat.le_of_eq g1.symm)
 have Z2 : n0 ≤ h1.size := Nat.le_trans Z0 E1.1
 have O2 : Old Z n0 h1 := O0.ext E1
 have K2 : Keep h0 h1 [] := (Keep.refl h0 []).ext E1
 have V_b1 : Arv Z h1 b1 k1 .byte N (own_tb own_0) (.int 0) := (Arv.new A1 (own_ixnn hN)).pad own_tz
 refine gs m T1 3 #[.val (.ref a1), .val (.int 0), .val (.int N), .unset, .unset, .unset] [(.ref b1)] st1 ?_
 refine g_astoreN X1 hx 4 (hb hby d13_3) rfl rfl (l' := #[.val (.ref a1), .val (.int 0), .val (.int N), .val (.ref b1), .unset, .unset]) rfl ?_
 refine g_aloadN X1 hx 5 (hb hby d13_4) rfl rfl rfl ?_
 refine g_iloadN X1 hx 6 (hb hby d13_5) rfl rfl ?_
 refine g_aloadN X1 hx 7 (hb hby d13_6) rfl rfl rfl ?_
 refine g_iconst X1 hx 8 0 (hb hby d13_7) rfl rfl ?_
 refine g_iloadN X1 hx 9 (hb hby d13_8) rfl rfl ?_
 have q4 : Arv Z h1 a1 kc .char N (own_tb f) (.int 0) := (V_a1.ext E1)
 obtain ⟨_, _, ⟨T3, L3, kk3, nn3⟩, -, X3, ⟨Lc3, hQ3, lq3, yq3, zq3⟩, st3⟩ := Jvm.LawKit.callS X1 hx (y := (⟨"java/lang/StringUTF16", "compress", "([CI[BII)I"⟩ : MethodName)) hown (mvT hZ (tw hw 70 rfl)) (mvT hZ (tw hw 71 rfl)) (mvT hZ (tw hw 68 rfl)) (mvT hZ (tw hw 72 rfl)) (by decide) (backOf (W := 0) (rmCpA l Z a0 hw [] a1 b1 N kc k1 f nn h1 n0 Z2 q4 V_b1 (Nat.ne_of_lt (Nat.lt_of_lt_of_le V_a1.lt (Nat.le_of_eq g1.symm))) hN hnn g_b1) hZ (tw hw 72 rfl) (tw hw 68 rfl) (by decide) (by decide)) (g := (mkF m 9 #[.val (.ref a1), .val (.int 0), .val (.int N), .val (.ref b1), .unset, .unset] [(.int N), (.int 0), (.ref b1), (.int 0), (.ref a1)])) rfl (by rw [hml]; rfl) (argsL := [(.ref a1), (.int 0), (.ref b1), (.int 0), (.int N)]) (rest := []) (lenOf pd_3 rfl) rfl (by show 2 * 0 + _ ≤ _; exact Nat.le_of_eq rfl) (hb hby d13_9) (fun _ _ => ⟨rfl, e1, (by decide : 1 + 0 ≤ _), (by decide : 20 + 0 ≤ _)⟩)
 dsimp only [Pt.U, Pt.locs, Pt.cells, Pt.slots] at X3 lq3 yq3 zq3 st3 hQ3
 subst yq3 zq3
 obtain ⟨r_3, g_3, k_3, rfl, Nq3, Kq3, r3_0, r3_1⟩ := hQ3
 have N3 : Fr n0 L3 := by rw [lq3]; exact Fr.app N0 Nq3
 have Z5 : n0 ≤ T3.heap.size := Nat.le_trans Z2 Kq3.1
 have O5 : Old Z n0 T3.heap := O2.keep Kq3 (allS g_b1 all0)
 have K5 : Keep h0 T3.heap [] := K2.trans Kq3 (allS (Or.inr sz_b1) all0)
 refine gs m T3 12 #[.val (.ref a1), .val (.int 0), .val (.int N), .val (.ref b1), .unset, .unset] [(.int r_3)] st3 ?_
 refine g_istore X3 hx 14 (hb hby d13_12) rfl (l' := #[.val (.ref a1), .val (.int 0), .val (.int N), .val (.ref b1), .val (.int r_3), .unset]) rfl ?_
 refine g_iload X3 hx 16 (hb hby d13_14) rfl rfl ?_
 refine g_iloadN X3 hx 17 (hb hby d13_16) rfl rfl ?_
 by_cases hc17 : r_3 = N
 ·refine g_icmpYes X3 hx 57 (hb hby d13_17) (teq hc17).1 (by decide) (by decide) ?_
  refine g_aloadN X3 hx 58 (hb hby d13_57) rfl rfl rfl ?_
  refine goA X3 hx Bd.returns rfl rfl Bd.notSynchronized (hb hby d13_58) ?_ (by decide) (by decide)
  show Q_rmCpB Z a1 N kc f nn h0 n0 _ T3.heap _
  exact ⟨b1, k1, N, g_3, (0 : Int32), rfl, N3, K5, sz_b1, r3_0, (Or.inl ⟨rfl, hN, fun j hj => r3_1.2.2.1 j (by have hh := (own_ixeq r3_1.1 hN).mp hc17; omega)⟩)⟩
 ·refine g_icmpNo X3 hx 20 (hb hby d13_17) rfl (feq hc17).1 ?_
  have hlt : k_3 < nn := Nat.lt_of_le_of_ne r3_1.2.1 (fun q => hc17 ((own_ixeq r3_1.1 hN).mpr q))
  have hbig : (255 : Int32) < f k_3 := r3_1.2.2.2.resolve_left (Nat.ne_of_lt hlt)
  refine g_aloadN X3 hx 21 (hb hby d13_20) rfl rfl rfl ?_
  refine g_iloadN X3 hx 22 (hb hby d13_21) rfl rfl ?_
  refine g_iloadN X3 hx 23 (hb hby d13_22) rfl rfl ?_
  have q7 : Arv Z T3.heap a1 kc .char N (own_tb f) (.int 0) := (q4.keep Kq3 (ninS (Nat.ne_of_lt (Nat.lt_of_lt_of_le V_a1.lt (Nat.le_of_eq g1.symm))) nin0))
  obtain ⟨_, _, ⟨T6, L6, kk6, nn6⟩, -, X6, ⟨Lc6, hQ6, lq6, yq6, zq6⟩, st6⟩ := Jvm.LawKit.callS X3 hx (y := (⟨"java/lang/StringUTF16", "toBytes", "([CII)[B"⟩ : MethodName)) hown (mvT hZ (tw hw 73 rfl)) (mvT hZ (tw hw 74 rfl)) (mvT hZ (tw hw 68 rfl)) (mvT hZ (tw hw 75 rfl)) (by decide) (backOf (W := 0) (rmTb l Z a0 hw [] a1 N kc f nn T3.heap n0 Z5 q7 O5 hUS hN hnn) hZ (tw hw 75 rfl) (tw hw 68 rfl) (by decide) (by decide)) (g := (mkF m 23 #[.val (.ref a1), .val (.int 0), .val (.int N), .val (.ref b1), .val (.int r_3), .unset] [(.int N), (.int 0), (.ref a1)])) rfl (by rw [hml]; rfl) (argsL := [(.ref a1), (.int 0), (.int N)]) (rest := []) (lenOf pd_4 rfl) rfl (by show 2 * 0 + _ ≤ _; exact Nat.le_of_eq rfl) (hb hby d13_23) (fun _ _ => ⟨rfl, rfl, (by decide : 1 + 1 ≤ _), (by decide : 20 + 40 ≤ _)⟩)
  dsimp only [Pt.U, Pt.locs, Pt.cells, Pt.slots] at X6 lq6 yq6 zq6 st6 hQ6
  subst yq6 zq6
  obtain ⟨b_6, kb_6, g_6, rfl, Nq6, Kq6, r6_0, r6_1, r6_2⟩ := hQ6
  have N6 : Fr n0 L6 := by rw [lq6]; exact Fr.app N3 Nq6
  have g_b_6 : n0 ≤ b_6 := Nat.le_trans Z5 r6_0
  have sz_b_6 : h0.size ≤ b_6 := Nat.le_trans K5.1 r6_0
  have Z8 : n0 ≤ T6.heap.size := Nat.le_trans Z5 Kq6.1
  have O8 : Old Z n0 T6.heap := O5.keep Kq6 all0
  have K8 : Keep h0 T6.heap [] := K5.trans Kq6 all0
  refine gs m T6 26 #[.val (.ref a1), .val (.int 0), .val (.int N), .val (.ref b1), .val (.int r_3), .unset] [(.ref b_6)] st6 ?_
  refine g_astore X6 hx 28 (hb hby d13_26) rfl rfl (l' := #[.val (.ref a1), .val (.int 0), .val (.int N), .val (.ref b1), .val (.int r_3), .val (.ref b_6)]) rfl ?_
  refine g_aload X6 hx 30 (hb hby d13_28) rfl rfl rfl ?_
  refine g_iload X6 hx 32 (hb hby d13_30) rfl rfl ?_
  obtain ⟨_, _, ⟨T9, L9, kk9, nn9⟩, -, X9, ⟨Lc9, hQ9, lq9, yq9, zq9⟩, st9⟩ := Jvm.LawKit.callS X6 hx (y := y100) hown (mvT hZ (tw hw 89 rfl)) (mvT hZ (tw hw 90 rfl)) (mvT hZ (tw hw 68 rfl)) (mvT hZ (tw hw 91 rfl)) (by decide) (backOf (W := 0) (rmGc l Z a0 hw [] b_6 r_3 kb_6 (N <<< ((1 : Int32) &&& 31)) g_6 (2 * nn) k_3 (f k_3) T6.heap n0 Z8 r6_1 O8 hUS (own_ixD hN (by omega)) (by omega) r3_1.1 (by omega) (r6_2 k_3 hlt).1 (r6_2 k_3 hlt).2 (hrg k_3 hlt)) hZ (tw hw 91 rfl) (tw hw 68 rfl) (by decide) (by decide)) (g := (mkF m 32 #[.val (.ref a1), .val (.int 0), .val (.int N), .val (.ref b1), .val (.int r_3), .val (.ref b_6)] [(.int r_3), (.ref b_6)])) rfl (by rw [hml]; rfl) (argsL := [(.ref b_6), (.int r_3)]) (rest := []) (lenOf pd_5 rfl) rfl (by show 2 * 0 + _ ≤ _; exact Nat.le_of_eq rfl) (hb hby d13_32) (fun _ _ => ⟨rfl, rfl, (by decide : 2 + 0 ≤ _), (by decide : 60 + 0 ≤ _)⟩)
  dsimp only [Pt.U, Pt.locs, Pt.cells, Pt.slots] at X9 lq9 yq9 zq9 st9 hQ9
  subst yq9 zq9
  obtain ⟨rfl, Nq9, eh9⟩ := hQ9
  have N9 : Fr n0 L9 := by rw [lq9]; exact Fr.app N6 Nq9
  refine gs m T9 35 #[.val (.ref a1), .val (.int 0), .val (.int N), .val (.ref b1), .val (.int r_3), .val (.ref b_6)] [(.int (f k_3))] st9 ?_
  refine g_sipush X9 hx 38 255 (hb hby d13_35) rfl rfl ?_
  refine g_icmpYes X9 hx 54 (hb hby d13_38) (tlt hbig).2.2.1 (by decide) (by decide) ?_
  refine g_aload X9 hx 56 (hb hby d13_54) rfl rfl rfl ?_
  refine goA X9 hx Bd.returns rfl rfl Bd.notSynchronized (hb hby d13_56) ?_ (by decide) (by decide)
  show Q_rmCpB Z a1 N kc f nn h0 n0 _ T9.heap _
  rw [eh9]
  exact ⟨b_6, kb_6, (N <<< ((1 : Int32) &&& 31)), g_6, (1 : Int32), rfl, N9, K8, sz_b_6, r6_1, (Or.inr ⟨rfl, (by omega), own_ixD hN (by omega), r6_2⟩)⟩
theorem d20_0 : decode jdk_52_method_15_code 0 = .ok (.iload_n 1, 1) := by decide +kernel
theorem d20_1 : decode jdk_52_method_15_code 1 = .ok (.aload_n 0, 1) := by decide +kernel
theorem d20_2 : decode jdk_52_method_15_code 2 = .ok (.arraylength, 1) := by decide +kernel
theorem d20_3 : decode jdk_52_method_15_code 3 = .ok (.isub, 1) := by decide +kernel
theorem d20_4 : decode jdk_52_method_15_code 4 = .ok (.bipush 31, 2) := by decide +kernel
theorem d20_6 : decode jdk_52_method_15_code 6 = .ok (.iushr, 1) := by decide +kernel
theorem d20_7 : decode jdk_52_method_15_code 7 = .ok (.i2b, 1) := by decide +kernel
theorem d20_8 : decode jdk_52_method_15_code 8 = .ok (.ireturn, 1) := by decide +kernel
theorem ef_rmCfl (m : MethodId) (a1 : Addr) (N : Int32) : entryFrame m #[(.ref a1), (.int N)] 2 = mkF m 0 #[.val (.ref a1), .val (.int N)] [] := by first | (simp [entryFrame, mkF, argsToLocals, Value.category]; done) | rfl
def Q_rmCfl (Z : State) (a1 : Addr) (N : Int32) (kb : ClassId) (nb : Int32) (vs : List Value) (co : Int32) (h0 : Heap) (n0 : Nat) (rv : Option Value) (hq : Heap) (Lq : List Loc) : Prop := rv = some (.int co) ∧ Fr n0 Lq ∧ hq = h0
theorem rmCfl (l : Launch) (Z : State) (a0 : Array Value) (hw : HW Z a0) (ws : List Jvm.Cond) (a1 : Addr) (N : Int32) (kb : ClassId) (nb : Int32) (vs : List Value) (co : Int32) (h0 : Heap) (n0 : Nat) (Z0 : n0 ≤ h0.size) (V_a1 : Arv Z h0 a1 kb .byte nb vs (.int 0)) (hcd : ((N - nb).toUInt32 >>> ((31 : Int32) &&& 31).toUInt32).toInt32.toInt8.toInt32 = co) :
  MF l (⟨"java/lang/StringUTF16", "coderFromArrayLen", "([BI)B"⟩ : MethodName) jdk_52_method_15_code 2 (some .byte) ws (rO 0 0 0 0) #[(.ref a1), (.int N)] Z h0 (Q_rmCfl Z a1 N kb nb vs co h0 n0) := by
 refine own_met "java/lang/StringUTF16" rfl (plainFor_of_name pn_14) (fun m => ef_rmCfl m a1 N) ?_
 intro p e s m below meth c s₁ Bd hx hby hml hown hnm hZ X0 e0
 have N0 := Fr.nil n0
 refine g_iloadN X0 hx 1 (hb hby d20_0) rfl rfl ?_
 refine g_aloadN X0 hx 2 (hb hby d20_1) rfl rfl rfl ?_
 obtain ⟨cl1, Ar1, qc1, Sz1, Nn1, Hs1, Gf1⟩ := id V_a1
 have hlen1 := X0.arraylength hx (by rw [e0]; exact Ar1.1) (State.isArrayOf_alike hZ.alike Ar1.2.1) (g := (mkF m 2 #[.val (.ref a1), .val (.int N)] [(.ref a1), (.int N)])) rfl rfl (hb hby d20_2)
 rw [len_of Sz1 Nn1] at hlen1
 refine gs m s₁ 3 #[.val (.ref a1), .val (.int N)] [(.int nb), (.int N)] (fun _ kS => hlen1 _ kS) ?_
 refine gs m s₁ 4 #[.val (.ref a1), .val (.int N)] [(.int (N - nb))] (fun _ kS => XS.isub X0.here hx rfl (hb hby d20_3) rfl kS) ?_
 refine g_bipush X0 hx 6 31 (hb hby d20_4) rfl rfl ?_
 refine gs m s₁ 7 #[.val (.ref a1), .val (.int N)] [(.int (((N - nb).toUInt32 >>> ((31 : Int32) &&& 31).toUInt32).toInt32))] (fun _ kS => XS.iushr X0.here hx rfl (hb hby d20_6) rfl kS) ?_
 refine gs m s₁ 8 #[.val (.ref a1), .val (.int N)] [(.int ((((N - nb).toUInt32 >>> ((31 : Int32) &&& 31).toUInt32).toInt32).toInt8.toInt32))] (fun _ kS => XS.i2b X0.here hx rfl (hb hby d20_7) rfl kS) ?_
 refine goN X0 hx (t := .byte) Bd.returns (by simp) Bd.notSynchronized (hb hby d20_8) ?_ (by decide) (by decide)
 show Q_rmCfl Z a1 N kb nb vs co h0 n0 _ s₁.heap _
 rw [e0]
 exact ⟨(congrArg (fun z => some (Value.int z)) ((own_nb _).trans hcd)), N0, rfl⟩
theorem d3_0 : decode jdk_42_method_149_code 0 = .ok (.aload_n 0, 1) := by decide +kernel
theorem d3_1 : decode jdk_42_method_149_code 1 = .ok (.invokespecial 1, 3) := by decide +kernel
theorem d3_4 : decode jdk_42_method_149_code 4 = .ok (.iload_n 3, 1) := by decide +kernel
theorem d3_5 : decode jdk_42_method_149_code 5 = .ok (.ifCond .ne 22, 3) := by decide +kernel
theorem d3_8 : decode jdk_42_method_149_code 8 = .ok (.aload_n 0, 1) := by decide +kernel
theorem d3_9 : decode jdk_42_method_149_code 9 = .ok (.ldc 7, 2) := by decide +kernel
theorem d3_11 : decode jdk_42_method_149_code 11 = .ok (.getfield 9, 3) := by decide +kernel
theorem d3_14 : decode jdk_42_method_149_code 14 = .ok (.putfield 9, 3) := by decide +kernel
theorem d3_17 : decode jdk_42_method_149_code 17 = .ok (.aload_n 0, 1) := by decide +kernel
theorem d3_18 : decode jdk_42_method_149_code 18 = .ok (.ldc 7, 2) := by decide +kernel
theorem d3_20 : decode jdk_42_method_149_code 20 = .ok (.getfield 15, 3) := by decide +kernel
theorem d3_23 : decode jdk_42_method_149_code 23 = .ok (.putfield 15, 3) := by decide +kernel
theorem d3_26 : decode jdk_42_method_149_code 26 = .ok (.return_, 1) := by decide +kernel
theorem d3_27 : decode jdk_42_method_149_code 27 = .ok (.getstatic 38, 3) := by decide +kernel
theorem d3_30 : decode jdk_42_method_149_code 30 = .ok (.ifCond .eq 28, 3) := by decide +kernel
theorem d3_33 : decode jdk_42_method_149_code 33 = .ok (.aload_n 1, 1) := by decide +kernel
theorem d3_34 : decode jdk_42_method_149_code 34 = .ok (.iload_n 2, 1) := by decide +kernel
theorem d3_35 : decode jdk_42_method_149_code 35 = .ok (.iload_n 3, 1) := by decide +kernel
theorem d3_36 : decode jdk_42_method_149_code 36 = .ok (.invokestatic 177, 3) := by decide +kernel
theorem d3_39 : decode jdk_42_method_149_code 39 = .ok (.astore 5, 2) := by decide +kernel
theorem d3_41 : decode jdk_42_method_149_code 41 = .ok (.aload_n 0, 1) := by decide +kernel
theorem d3_42 : decode jdk_42_method_149_code 42 = .ok (.aload 5, 2) := by decide +kernel
theorem d3_44 : decode jdk_42_method_149_code 44 = .ok (.iload_n 3, 1) := by decide +kernel
theorem d3_45 : decode jdk_42_method_149_code 45 = .ok (.invokestatic 47, 3) := by decide +kernel
theorem pd_6 : parseMethodDescriptor "([BI)B" = some ⟨[(.array .byte), .int], some .byte⟩ := by decide +kernel
theorem d3_48 : decode jdk_42_method_149_code 48 = .ok (.putfield 15, 3) := by decide +kernel
theorem d3_51 : decode jdk_42_method_149_code 51 = .ok (.aload_n 0, 1) := by decide +kernel
theorem d3_52 : decode jdk_42_method_149_code 52 = .ok (.aload 5, 2) := by decide +kernel
theorem d3_54 : decode jdk_42_method_149_code 54 = .ok (.putfield 9, 3) := by decide +kernel
theorem d3_57 : decode jdk_42_method_149_code 57 = .ok (.return_, 1) := by decide +kernel
theorem pn_3 : plainName "java/lang/String" = true := by first | (simp [plainName, overriddenIn]; done) | decide +kernel
theorem ef_rmSi4 (m : MethodId) (a1 : Addr) (a2 : Addr) (N : Int32) : entryFrame m #[(.ref a1), (.ref a2), (.int 0), (.int N), .null] 6 = mkF m 0 #[.val (.ref a1), .val (.ref a2), .val (.int 0), .val (.int N), .val .null, .unset] [] := by first | (simp [entryFrame, mkF, argsToLocals, Value.category]; done) | rfl
def Q_rmSi4 (Z : State) (a1 : Addr) (a2 : Addr) (N : Int32) (cs : Int32) (kc : ClassId) (f : Nat → Int32) (nn : Nat) (h0 : Heap) (n0 : Nat) (rv : Option Value) (hq : Heap) (Lq : List Loc) : Prop := ∃ b : Addr, ∃ kb : ClassId, ∃ nb : Int32, ∃ g : Nat → Int32, ∃ co : Int32, rv = none ∧ Fr n0 Lq ∧ Keep h0 hq [a1] ∧ Fld Z hq a1 "java/lang/String" "value" "[B" (.ref b) ∧ Fld Z hq a1 "java/lang/String" "coder" "B" (.int co) ∧ Arv Z hq b kb .byte nb (own_tb g) (.int 0) ∧ own_st f nn nb g co
theorem rmSi4 (l : Launch) (Z : State) (a0 : Array Value) (hw : HW Z a0) (ws : List Jvm.Cond) (a1 : Addr) (a2 : Addr) (N : Int32) (cs : Int32) (kc : ClassId) (f : Nat → Int32) (nn : Nat) (h0 : Heap) (n0 : Nat) (Z0 : n0 ≤ h0.size) (E_a1 : Exa Z h0 a1 "java/lang/String") (F_value_a1 : Fld Z h0 a1 "java/lang/String" "value" "[B" .null) (F_coder_a1 : Fld Z h0 a1 "java/lang/String" "coder" "B" (.int 0)) (V_a2 : Arv Z h0 a2 kc .char N (own_tb f) (.int 0)) (O0 : Old Z n0 h0) (S_COMPACT_STRINGS : Sta Z Z.heap "java/lang/String" "COMPACT_STRINGS" "Z" (.int cs)) (hcs : ¬ cs = (0 : Int32)) (hUS : own_US Z) (hCH : Jvm.Lit.constHeld Z "java/lang/String" 7) (hCW : Jvm.Lit.compactW.before a0 Z = true) (hN : Ix N nn) (hnn : nn ≤ 20) (hrg : own_rg f nn) (g_a1 : n0 ≤ a1) :
  MetFree l y101 (head1 (Jvm.Cond.code y101 jdk_42_method_149_code 6 none :: ws) (rO 4 2 60 57)) (fun a U => a = #[(.ref a1), (.ref a2), (.int 0), (.int N), .null] ∧ Z.Warmed39 U.vm ∧ U.heap = h0 ∧ U.vm.interned = Z.vm.interned) (fun _ _ _ _ _ => True) (fun _ U o U' => ∃ rv Lq, o = .returned rv ∧ Q_rmSi4 Z a1 a2 N cs kc f nn h0 n0 rv U'.heap Lq ∧ ReturnedEndW U o U' Lq (rO 4 2 60 57).cells (rO 4 2 60 57).slots) := by
 refine MetFree.of_bodySF (plainFor_of_name pn_3) hisR ?_
 intro p e s m args below meth c s₁ Bd hml0 hP hK
 obtain ⟨rfl, hZ, hh, hI⟩ := hP
 have hx := Bd.exec
 have hby := Bd.bytes
 have hml : c.maxLocals = 6 := hml0
 have hown : s.vm.findClass "java/lang/String" = some m.cls := findClass_of_methodNamed Bd.named
 have hnm := (name_of_methodNamed Bd.named Bd.method).1
 have X0 : Stand p l e (rO 4 2 60 57) s m #[(.ref a1), (.ref a2), (.int 0), (.int N), .null] below meth c s₁ [] 0 0 := Stand.of_body Bd
 have e0 : s₁.heap = h0 := by rw [← hh, Bd.state]; rfl
 have N0 := Fr.nil n0
 have X0 : Stand p l e (rO 4 2 60 57) (s.setVm s.vm) m #[(.ref a1), (.ref a2), (.int 0), (.int N), .null] below meth c s₁ [] 0 0 := X0
 have hS : s.Since s.vm h0.size := (State.WarmedH.refl s).since _
 have hk := Nat.le_refl h0.size
 have hZ : Z.Warmed39 (s.setVm s.vm).vm := hZ
 have hI : (s.setVm s.vm).vm.interned = Z.vm.interned := hI
 have hown : (s.setVm s.vm).vm.findClass "java/lang/String" = some m.cls := hown
 refine of_goW (ef_rmSi4 m a1 a2 N) ?_
 refine g_aloadN X0 hx 1 (hb hby d3_0) rfl rfl rfl ?_
 obtain ⟨T1, X1, e1, st1⟩ := initO X0 hx hZ hown (tw hw 17 rfl) (tw hw 18 rfl) (tw hw 19 rfl) e0 (g := (mkF m 1 #[.val (.ref a1), .val (.ref a2), .val (.int 0), .val (.int N), .val .null, .unset] [(.ref a1)])) rfl (by rw [hml]; rfl) rfl (hb hby d3_1) (by decide) (W := 0) (by show 2 * 0 + _ ≤ _; exact Nat.le_of_eq rfl) (by decide)
 refine gs m T1 4 #[.val (.ref a1), .val (.ref a2), .val (.int 0), .val (.int N), .val .null, .unset] [] st1 ?_
 refine g_iloadN X1 hx 5 (hb hby d3_4) rfl rfl ?_
 by_cases hc5 : N = (0 : Int32)
 ·refine g_ifNo X1 hx 8 (hb hby d3_5) rfl ((if0 _ _).trans (teq hc5).2) ?_
  refine g_aloadN X1 hx 9 (hb hby d3_8) rfl rfl rfl ?_
  obtain ⟨ls2, T2, h2, k2, lb2, lk2, X2, e2, E2, hS, hk, hZ, hown, lE2, lC2, lV2, lA2, -, -, -, Lt2, st2⟩ := ldcSVL X1 hx hZ hown (tw hw 20 rfl) (own_sA hw) e1 hS hk (Fr.nil _) (fun b cl q => by rw [show s.heap = h0 from hh]; exact O0.2.2 b cl q) (own_IB hI) (List.not_mem_nil) hCH hCW (vs := []) (z := (0 : Int32)) ⟨by decide, by decide⟩ (by decide) (by decide) (g := (mkF m 9 #[.val (.ref a1), .val (.ref a2), .val (.int 0), .val (.int N), .val .null, .unset] [(.ref a1)])) rfl (hb hby d3_9) (n := 0) (by decide) (by decide) (by decide) (by decide)
  have Z3 : n0 ≤ h2.size := Nat.le_trans Z0 E2.1
  have O3 : Old Z n0 h2 := O0.ext E2
  have K3 : Keep h0 h2 [a1] := (Keep.refl h0 [a1]).ext E2
  have q4 : Fld Z h2 a1 "java/lang/String" "value" "[B" .null := (F_value_a1.ext E2)
  have q5 : Exa Z h2 a1 "java/lang/String" := (E_a1.ext E2)
  have nla2 : a1 ≠ ls2 := own_neF q4 lV2 (fun q => by cases q)
  have nlb2 : lb2 ≠ a1 := own_neA (tw hw 8 rfl) lA2 q5
  refine gs m T2 11 #[.val (.ref a1), .val (.ref a2), .val (.int 0), .val (.int N), .val .null, .unset] [(.ref ls2), (.ref a1)] st2 ?_
  obtain ⟨T6, X6, e6, st6⟩ := getF X2 hx hZ hown (host := "") (Or.inl (tw hw 26 rfl)) Via.refl e2 lV2 (g := (mkF m 11 #[.val (.ref a1), .val (.ref a2), .val (.int 0), .val (.int N), .val .null, .unset] [(.ref ls2), (.ref a1)])) rfl rfl (hb hby d3_11)
  refine gs m T6 14 #[.val (.ref a1), .val (.ref a2), .val (.int 0), .val (.int N), .val .null, .unset] [(.ref lb2), (.ref a1)] st6 ?_
  obtain ⟨T7, h7, X7, e7, W7, st7⟩ := putF X6 hx hZ hown (host := "") (Or.inl (tw hw 26 rfl)) Via.refl e6 q4 q5 (Or.inr ⟨(tw hw 22 rfl), rfl, hnm⟩) (tw hw 8 rfl) (ty := (.array .byte)) (by decide) rfl rfl (g := (mkF m 14 #[.val (.ref a1), .val (.ref a2), .val (.int 0), .val (.int N), .val .null, .unset] [(.ref lb2), (.ref a1)])) rfl rfl (hb hby d3_14)
  have N7 := Fr.snoc X7 N0 g_a1
  have Z8 : n0 ≤ h7.size := Nat.le_trans Z3 (Keep.of_wr W7).1
  have hk := Nat.le_trans hk (Keep.of_wr W7).1
  have O8 : Old Z n0 h7 := O3.wr W7 g_a1
  have K8 : Keep h0 h7 [a1] := K3.wr W7 (Or.inl (List.mem_of_getElem? (i := 0) rfl))
  have Fw7 := q4.same W7
  refine gs m T7 17 #[.val (.ref a1), .val (.ref a2), .val (.int 0), .val (.int N), .val .null, .unset] [] st7 ?_
  refine g_aloadN X7 hx 18 (hb hby d3_17) rfl rfl rfl ?_
  refine gs m T7 20 #[.val (.ref a1), .val (.ref a2), .val (.int 0), .val (.int N), .val .null, .unset] [(.ref ls2), (.ref a1)] (fun _ kS => ldcAgain X7 hx hZ hown (tw hw 20 rfl) Lt2 (g := (mkF m 18 #[.val (.ref a1), .val (.ref a2), .val (.int 0), .val (.int N), .val .null, .unset] [(.ref a1)])) rfl (hb hby d3_18) _ kS) ?_
  have q10 : Fld Z h7 ls2 "java/lang/String" "coder" "B" (.int 0) := (lC2.other W7 (Or.inl (Ne.symm nla2)))
  obtain ⟨T11, X11, e11, st11⟩ := getF X7 hx hZ hown (host := "") (Or.inl (tw hw 27 rfl)) Via.refl e7 q10 (g := (mkF m 20 #[.val (.ref a1), .val (.ref a2), .val (.int 0), .val (.int N), .val .null, .unset] [(.ref ls2), (.ref a1)])) rfl rfl (hb hby d3_20)
  refine gs m T11 23 #[.val (.ref a1), .val (.ref a2), .val (.int 0), .val (.int N), .val .null, .unset] [(.int 0), (.ref a1)] st11 ?_
  have q12 : Fld Z h7 a1 "java/lang/String" "coder" "B" (.int 0) := ((F_coder_a1.ext E2).other W7 (Or.inr (slot_ne (Or.inr (tw hw 23 rfl)) (Or.inr (tw hw 22 rfl)) (by decide) (t := .byte) (t' := (.array .byte)) (by decide) (by decide))))
  have q13 : Exa Z h7 a1 "java/lang/String" := (q5.wr W7)
  obtain ⟨T14, h14, X14, e14, W14, st14⟩ := putFN X11 hx hZ hown (tw hw 27 rfl) Via.refl e11 q12 q13 (Or.inr ⟨(tw hw 23 rfl), rfl, hnm⟩) (tw hw 8 rfl) (ty := .byte) (v := .int (0 : Int32)) (v' := .int (0 : Int32)) (by decide) rfl (by decide) (g := (mkF m 23 #[.val (.ref a1), .val (.ref a2), .val (.int 0), .val (.int N), .val .null, .unset] [(.int 0), (.ref a1)])) rfl rfl (hb hby d3_23)
  have N14 := Fr.snoc X14 N7 g_a1
  have Z15 : n0 ≤ h14.size := Nat.le_trans Z8 (Keep.of_wr W14).1
  have hk := Nat.le_trans hk (Keep.of_wr W14).1
  have O15 : Old Z n0 h14 := O8.wr W14 g_a1
  have K15 : Keep h0 h14 [a1] := K8.wr W14 (Or.inl (List.mem_of_getElem? (i := 0) rfl))
  have Fw14 := q12.same W14
  refine gs m T14 26 #[.val (.ref a1), .val (.ref a2), .val (.int 0), .val (.int N), .val .null, .unset] [] st14 ?_
  refine goVW hS X14 (by rw [e14]; exact hk) hx Bd.returns Bd.notSynchronized (hb hby d3_26) ?_ (by decide) (by decide)
  show Q_rmSi4 Z a1 a2 N cs kc f nn h0 n0 _ T14.heap _
  rw [e14]
  have q16 : Fld Z h14 a1 "java/lang/String" "value" "[B" (.ref lb2) := (Fw7.other W14 (Or.inr (slot_ne (Or.inr (tw hw 22 rfl)) (Or.inr (tw hw 23 rfl)) (by decide) (t := (.array .byte)) (t' := .byte) (by decide) (by decide))))
  have q17 : Arv Z h14 lb2 lk2 .byte (0 : Int32) [] (.int 0) := ((lA2.other W7 nlb2).other W14 nlb2)
  have hn0 : nn = 0 := (own_ixeq hN own_ix0).mp hc5
  exact ⟨lb2, lk2, (0 : Int32), own_0, (0 : Int32), rfl, N14, K15, q16, Fw14, q17.pad own_tz, Or.inl ⟨rfl, (by rw [hn0]; exact own_ix0), fun j hj => absurd hj (by omega)⟩⟩
 ·refine g_ifYes X1 hx 27 (hb hby d3_5) ((if0 _ _).trans (feq hc5).2) (by decide) (by decide) ?_
  obtain ⟨T18, X18, e18, st18⟩ := getS2 X1 hx hZ hown (host := "") (Or.inl (tw hw 48 rfl)) Via.refl e1 (S_COMPACT_STRINGS.ext O0.2) (g := (mkF m 27 #[.val (.ref a1), .val (.ref a2), .val (.int 0), .val (.int N), .val .null, .unset] [])) rfl (hb hby d3_27)
  refine gs m T18 30 #[.val (.ref a1), .val (.ref a2), .val (.int 0), .val (.int N), .val .null, .unset] [(.int cs)] st18 ?_
  refine g_ifNo X18 hx 33 (hb hby d3_30) rfl ((if0 _ _).trans (feq hcs).1) ?_
  refine g_aloadN X18 hx 34 (hb hby d3_33) rfl rfl rfl ?_
  refine g_iloadN X18 hx 35 (hb hby d3_34) rfl rfl ?_
  refine g_iloadN X18 hx 36 (hb hby d3_35) rfl rfl ?_
  obtain ⟨_, _, ⟨T19, L19, kk19, nn19⟩, -, X19, ⟨Lc19, hQ19, lq19, yq19, zq19⟩, st19⟩ := Jvm.LawKit.callS X18 hx (y := (⟨"java/lang/StringUTF16", "compress", "([CII)[B"⟩ : MethodName)) hown (mvT hZ (tw hw 66 rfl)) (mvT hZ (tw hw 67 rfl)) (mvT hZ (tw hw 68 rfl)) (mvT hZ (tw hw 69 rfl)) (by decide) (backOf (W := 0) (rmCpB l Z a0 hw [] a2 N kc f nn h0 n0 Z0 V_a2 O0 hUS hN hnn hrg) hZ (tw hw 69 rfl) (tw hw 68 rfl) (by decide) (by decide)) (g := (mkF m 36 #[.val (.ref a1), .val (.ref a2), .val (.int 0), .val (.int N), .val .null, .unset] [(.int N), (.int 0), (.ref a2)])) rfl (by rw [hml]; rfl) (argsL := [(.ref a2), (.int 0), (.int N)]) (rest := []) (lenOf pd_4 rfl) rfl (by show 2 * 0 + _ ≤ _; exact Nat.le_of_eq rfl) (hb hby d3_36) (fun _ _ => ⟨rfl, e18, (by decide : 0 + 2 ≤ _), (by decide : 0 + 60 ≤ _)⟩)
  dsimp only [Pt.U, Pt.locs, Pt.cells, Pt.slots] at X19 lq19 yq19 zq19 st19 hQ19
  subst yq19 zq19
  obtain ⟨b_19, kb_19, nb_19, g_19, co_19, rfl, Nq19, Kq19, r19_0, r19_1, r19_2⟩ := hQ19
  have N19 : Fr n0 L19 := by rw [lq19]; exact Fr.app N0 Nq19
  have g_b_19 : n0 ≤ b_19 := Nat.le_trans Z0 r19_0
  have sz_b_19 : h0.size ≤ b_19 := Nat.le_trans (Keep.refl h0 [a1]).1 r19_0
  have Z20 : n0 ≤ T19.heap.size := Nat.le_trans Z0 Kq19.1
  have hk := Nat.le_trans hk Kq19.1
  have O20 : Old Z n0 T19.heap := O0.keep Kq19 all0
  have K20 : Keep h0 T19.heap [a1] := (Keep.refl h0 [a1]).trans Kq19 all0
  refine gs m T19 39 #[.val (.ref a1), .val (.ref a2), .val (.int 0), .val (.int N), .val .null, .unset] [(.ref b_19)] st19 ?_
  refine g_astore X19 hx 41 (hb hby d3_39) rfl rfl (l' := #[.val (.ref a1), .val (.ref a2), .val (.int 0), .val (.int N), .val .null, .val (.ref b_19)]) rfl ?_
  refine g_aloadN X19 hx 42 (hb hby d3_41) rfl rfl rfl ?_
  refine g_aload X19 hx 44 (hb hby d3_42) rfl rfl rfl ?_
  refine g_iloadN X19 hx 45 (hb hby d3_44) rfl rfl ?_
  obtain ⟨_, _, ⟨T21, L21, kk21, nn21⟩, -, X21, ⟨Lc21, hQ21, lq21, yq21, zq21⟩, st21⟩ := Jvm.LawKit.callS X19 hx (y := (⟨"java/lang/StringUTF16", "coderFromArrayLen", "([BI)B"⟩ : MethodName)) hown (mvT hZ (tw hw 92 rfl)) (mvT hZ (tw hw 93 rfl)) (mvT hZ (tw hw 68 rfl)) (mvT hZ (tw hw 94 rfl)) (by decide) (backOf (W := 1) (rmCfl l Z a0 hw [] b_19 N kb_19 nb_19 (own_tb g_19) co_19 T19.heap n0 Z20 r19_1 (own_stcd r19_2 hN)) hZ (tw hw 94 rfl) (tw hw 68 rfl) (by decide) (by decide)) (g := (mkF m 45 #[.val (.ref a1), .val (.ref a2), .val (.int 0), .val (.int N), .val .null, .val (.ref b_19)] [(.int N), (.ref b_19), (.ref a1)])) rfl (by rw [hml]; rfl) (argsL := [(.ref b_19), (.int N)]) (rest := [(.ref a1)]) (lenOf pd_6 rfl) rfl (by show 2 * 0 + _ ≤ _; exact Nat.le_of_eq rfl) (hb hby d3_45) (fun _ _ => ⟨rfl, rfl, (by decide : 2 + 0 ≤ _), (by decide : 60 + 0 ≤ _)⟩)
  dsimp only [Pt.U, Pt.locs, Pt.cells, Pt.slots] at X21 lq21 yq21 zq21 st21 hQ21
  subst yq21 zq21
  obtain ⟨rfl, Nq21, eh21⟩ := hQ21
  have N21 : Fr n0 L21 := by rw [lq21]; exact Fr.app N19 Nq21
  refine gs m T21 48 #[.val (.ref a1), .val (.ref a2), .val (.int 0), .val (.int N), .val .null, .val (.ref b_19)] [(.int co_19), (.ref a1)] st21 ?_
  have q22 : Fld Z T19.heap a1 "java/lang/String" "coder" "B" (.int 0) := (F_coder_a1.keep Kq19 nin0)
  have q23 : Exa Z T19.heap a1 "java/lang/String" := (E_a1.keep Kq19)
  obtain ⟨T24, h24, X24, e24, W24, st24⟩ := putFN X21 hx hZ hown (tw hw 27 rfl) Via.refl eh21 q22 q23 (Or.inr ⟨(tw hw 23 rfl), rfl, hnm⟩) (tw hw 8 rfl) (ty := .byte) (v := .int co_19) (v' := .int co_19) (by decide) (own_cofit (own_stco r19_2)).1 (own_cofit (own_stco r19_2)).2.1 (g := (mkF m 48 #[.val (.ref a1), .val (.ref a2), .val (.int 0), .val (.int N), .val .null, .val (.ref b_19)] [(.int co_19), (.ref a1)])) rfl rfl (hb hby d3_48)
  have N24 := Fr.snoc X24 N21 g_a1
  have Z25 : n0 ≤ h24.size := Nat.le_trans Z20 (Keep.of_wr W24).1
  have hk := Nat.le_trans hk (Keep.of_wr W24).1
  have O25 : Old Z n0 h24 := O20.wr W24 g_a1
  have K25 : Keep h0 h24 [a1] := K20.wr W24 (Or.inl (List.mem_of_getElem? (i := 0) rfl))
  have Fw24 := q22.same W24
  refine gs m T24 51 #[.val (.ref a1), .val (.ref a2), .val (.int 0), .val (.int N), .val .null, .val (.ref b_19)] [] st24 ?_
  refine g_aloadN X24 hx 52 (hb hby d3_51) rfl rfl rfl ?_
  refine g_aload X24 hx 54 (hb hby d3_52) rfl rfl rfl ?_
  have q26 : Fld Z h24 a1 "java/lang/String" "value" "[B" .null := ((F_value_a1.keep Kq19 nin0).other W24 (Or.inr (slot_ne (Or.inr (tw hw 22 rfl)) (Or.inr (tw hw 23 rfl)) (by decide) (t := (.array .byte)) (t' := .byte) (by decide) (by decide))))
  have q27 : Exa Z h24 a1 "java/lang/String" := (q23.wr W24)
  obtain ⟨T28, h28, X28, e28, W28, st28⟩ := putF X24 hx hZ hown (host := "") (Or.inl (tw hw 26 rfl)) Via.refl e24 q26 q27 (Or.inr ⟨(tw hw 22 rfl), rfl, hnm⟩) (tw hw 8 rfl) (ty := (.array .byte)) (by decide) rfl rfl (g := (mkF m 54 #[.val (.ref a1), .val (.ref a2), .val (.int 0), .val (.int N), .val .null, .val (.ref b_19)] [(.ref b_19), (.ref a1)])) rfl rfl (hb hby d3_54)
  have N28 := Fr.snoc X28 N24 g_a1
  have Z29 : n0 ≤ h28.size := Nat.le_trans Z25 (Keep.of_wr W28).1
  have hk := Nat.le_trans hk (Keep.of_wr W28).1
  have O29 : Old Z n0 h28 := O25.wr W28 g_a1
  have K29 : Keep h0 h28 [a1] := K25.wr W28 (Or.inl (List.mem_of_getElem? (i := 0) rfl))
  have Fw28 := q26.same W28
  refine gs m T28 57 #[.val (.ref a1), .val (.ref a2), .val (.int 0), .val (.int N), .val .null, .val (.ref b_19)] [] st28 ?_
  refine goVW hS X28 (by rw [e28]; exact hk) hx Bd.returns Bd.notSynchronized (hb hby d3_57) ?_ (by decide) (by decide)
  show Q_rmSi4 Z a1 a2 N cs kc f nn h0 n0 _ T28.heap _
  rw [e28]
  have q30 : Fld Z h28 a1 "java/lang/String" "coder" "B" (.int co_19) := (Fw24.other W28 (Or.inr (slot_ne (Or.inr (tw hw 23 rfl)) (Or.inr (tw hw 22 rfl)) (by decide) (t := .byte) (t' := (.array .byte)) (by decide) (by decide))))
  have q31 : Arv Z h28 b_19 kb_19 .byte nb_19 (own_tb g_19) (.int 0) := ((r19_1.other W24 (Ne.symm (Nat.ne_of_lt (Nat.lt_of_lt_of_le E_a1.lt r19_0)))).other W28 (Ne.symm (Nat.ne_of_lt (Nat.lt_of_lt_of_le E_a1.lt r19_0))))
  exact ⟨b_19, kb_19, nb_19, g_19, co_19, rfl, N28, K29, Fw28, q30, q31, r19_2⟩
theorem d2_0 : decode jdk_42_method_3_code 0 = .ok (.aload_n 0, 1) := by decide +kernel
theorem d2_1 : decode jdk_42_method_3_code 1 = .ok (.aload_n 1, 1) := by decide +kernel
theorem d2_2 : decode jdk_42_method_3_code 2 = .ok (.iconst 0, 1) := by decide +kernel
theorem d2_3 : decode jdk_42_method_3_code 3 = .ok (.aload_n 1, 1) := by decide +kernel
theorem d2_4 : decode jdk_42_method_3_code 4 = .ok (.arraylength, 1) := by decide +kernel
theorem d2_5 : decode jdk_42_method_3_code 5 = .ok (.aconst_null, 1) := by decide +kernel
theorem d2_6 : decode jdk_42_method_3_code 6 = .ok (.invokespecial 27, 3) := by decide +kernel
theorem pd_7 : parseMethodDescriptor "([CIILjava/lang/Void;)V" = some ⟨[(.array .char), .int, .int, (.object "java/lang/Void")], none⟩ := by decide +kernel
theorem d2_9 : decode jdk_42_method_3_code 9 = .ok (.return_, 1) := by decide +kernel
theorem ef_rmSi (m : MethodId) (a1 : Addr) (a2 : Addr) : entryFrame m #[(.ref a1), (.ref a2)] 2 = mkF m 0 #[.val (.ref a1), .val (.ref a2)] [] := by first | (simp [entryFrame, mkF, argsToLocals, Value.category]; done) | rfl
def Q_rmSi (Z : State) (a1 : Addr) (a2 : Addr) (cs : Int32) (kc : ClassId) (f : Nat → Int32) (nn : Nat) (N : Int32) (h0 : Heap) (n0 : Nat) (rv : Option Value) (hq : Heap) (Lq : List Loc) : Prop := ∃ b : Addr, ∃ kb : ClassId, ∃ nb : Int32, ∃ g : Nat → Int32, ∃ co : Int32, rv = none ∧ Fr n0 Lq ∧ Keep h0 hq [a1] ∧ Fld Z hq a1 "java/lang/String" "value" "[B" (.ref b) ∧ Fld Z hq a1 "java/lang/String" "coder" "B" (.int co) ∧ Arv Z hq b kb .byte nb (own_tb g) (.int 0) ∧ own_st f nn nb g co
theorem rmSi (l : Launch) (Z : State) (a0 : Array Value) (hw : HW Z a0) (ws : List Jvm.Cond) (a1 : Addr) (a2 : Addr) (cs : Int32) (kc : ClassId) (f : Nat → Int32) (nn : Nat) (N : Int32) (h0 : Heap) (n0 : Nat) (Z0 : n0 ≤ h0.size) (E_a1 : Exa Z h0 a1 "java/lang/String") (F_value_a1 : Fld Z h0 a1 "java/lang/String" "value" "[B" .null) (F_coder_a1 : Fld Z h0 a1 "java/lang/String" "coder" "B" (.int 0)) (V_a2 : Arv Z h0 a2 kc .char N (own_tb f) (.int 0)) (O0 : Old Z n0 h0) (S_COMPACT_STRINGS : Sta Z Z.heap "java/lang/String" "COMPACT_STRINGS" "Z" (.int cs)) (hcs : ¬ cs = (0 : Int32)) (hUS : own_US Z) (hCH : Jvm.Lit.constHeld Z "java/lang/String" 7) (hCW : Jvm.Lit.compactW.before a0 Z = true) (hN : Ix N nn) (hnn : nn ≤ 20) (hrg : own_rg f nn) (g_a1 : n0 ≤ a1) :
  MetFree l y102 (head1 (Jvm.Cond.code y102 jdk_42_method_3_code 2 none :: ws) (rO 5 2 60 74)) (fun a U => a = #[(.ref a1), (.ref a2)] ∧ Z.Warmed39 U.vm ∧ U.heap = h0 ∧ U.vm.interned = Z.vm.interned) (fun _ _ _ _ _ => True) (fun _ U o U' => ∃ rv Lq, o = .returned rv ∧ Q_rmSi Z a1 a2 cs kc f nn N h0 n0 rv U'.heap Lq ∧ ReturnedEndW U o U' Lq (rO 5 2 60 74).cells (rO 5 2 60 74).slots) := by
 refine MetFree.of_bodySF (plainFor_of_name pn_3) hisR ?_
 intro p e s m args below meth c s₁ Bd hml0 hP hK
 obtain ⟨rfl, hZ, hh, hI⟩ := hP
 have hx := Bd.exec
 have hby := Bd.bytes
 have hml : c.maxLocals = 2 := hml0
 have hown : s.vm.findClass "java/lang/String" = some m.cls := findClass_of_methodNamed Bd.named
 have hnm := (name_of_methodNamed Bd.named Bd.method).1
 have X0 : Stand p l e (rO 5 2 60 74) s m #[(.ref a1), (.ref a2)] below meth c s₁ [] 0 0 := Stand.of_body Bd
 have e0 : s₁.heap = h0 := by rw [← hh, Bd.state]; rfl
 have N0 := Fr.nil n0
 have X0 : Stand p l e (rO 5 2 60 74) (s.setVm s.vm) m #[(.ref a1), (.ref a2)] below meth c s₁ [] 0 0 := X0
 have hS : s.Since s.vm h0.size := (State.WarmedH.refl s).since _
 have hk := Nat.le_refl h0.size
 have hZ : Z.Warmed39 (s.setVm s.vm).vm := hZ
 have hI : (s.setVm s.vm).vm.interned = Z.vm.interned := hI
 have hown : (s.setVm s.vm).vm.findClass "java/lang/String" = some m.cls := hown
 refine of_goW (ef_rmSi m a1 a2) ?_
 refine g_aloadN X0 hx 1 (hb hby d2_0) rfl rfl rfl ?_
 refine g_aloadN X0 hx 2 (hb hby d2_1) rfl rfl rfl ?_
 refine g_iconst X0 hx 3 0 (hb hby d2_2) rfl rfl ?_
 refine g_aloadN X0 hx 4 (hb hby d2_3) rfl rfl rfl ?_
 obtain ⟨cl1, Ar1, qc1, Sz1, Nn1, Hs1, Gf1⟩ := id V_a2
 have hlen1 := X0.arraylength hx (by rw [e0]; exact Ar1.1) (State.isArrayOf_alike hZ.alike Ar1.2.1) (g := (mkF m 4 #[.val (.ref a1), .val (.ref a2)] [(.ref a2), (.int 0), (.ref a2), (.ref a1)])) rfl rfl (hb hby d2_4)
 rw [len_of Sz1 Nn1] at hlen1
 refine gs m s₁ 5 #[.val (.ref a1), .val (.ref a2)] [(.int N), (.int 0), (.ref a2), (.ref a1)] (fun _ kS => hlen1 _ kS) ?_
 refine gs m s₁ 6 #[.val (.ref a1), .val (.ref a2)] [.null, (.int N), (.int 0), (.ref a2), (.ref a1)] (fun _ kS => XS.aconstNull X0.here hx rfl (hb hby d2_5) kS) ?_
 obtain ⟨_, _, ⟨T2, L2, kk2, nn2⟩, -, X2, hS2, hG2, ⟨Lc2, hQ2, lq2, yq2, zq2⟩, st2⟩ := X0.specialBackS hx (y := y101) rfl hown (mvT hZ (tw hw 13 rfl)) (mvT hZ (tw hw 14 rfl)) (mvT hZ (tw hw 16 rfl)) (by decide) (own_backSI (W := 0) (rmSi4 l Z a0 hw [] a1 a2 N cs kc f nn h0 n0 Z0 E_a1 F_value_a1 F_coder_a1 V_a2 O0 S_COMPACT_STRINGS hcs hUS hCH hCW hN hnn hrg g_a1) hZ hI (tw hw 16 rfl) (tw hw 9 rfl) (by decide) (by decide)) (g := (mkF m 6 #[.val (.ref a1), .val (.ref a2)] [.null, (.int N), (.int 0), (.ref a2), (.ref a1)])) rfl (by rw [hml]; rfl) (Steps.refl _) (a := a1) (argsL := [(.ref a2), (.int 0), (.int N), .null]) (rest := []) (lenOf pd_7 rfl) rfl (by show 2 * 0 + _ ≤ _; exact Nat.le_of_eq rfl) (hb hby d2_6) (fun _ _ => ⟨rfl, e0, (by decide : 0 + 2 ≤ _), (by decide : 0 + 60 ≤ _)⟩)
 dsimp only [Pt.U, Pt.locs, Pt.cells, Pt.slots] at X2 lq2 yq2 zq2 st2 hQ2 hS2 hG2
 subst yq2 zq2
 rw [e0] at hG2
 obtain ⟨X2, hS, hZ, hown⟩ := rebS hS hk X2 hS2 hG2 hZ hown
 have hk := Nat.le_refl T2.heap.size
 obtain ⟨b_2, kb_2, nb_2, g_2, co_2, rfl, Nq2, Kq2, r2_0, r2_1, r2_2, r2_3⟩ := hQ2
 have N2 : Fr n0 L2 := by rw [lq2]; exact Fr.app N0 Nq2
 have Z3 : n0 ≤ T2.heap.size := Nat.le_trans Z0 Kq2.1
 have O3 : Old Z n0 T2.heap := O0.keep Kq2 (allS g_a1 all0)
 have K3 : Keep h0 T2.heap [a1] := (Keep.refl h0 [a1]).trans Kq2 (allS (Or.inl (List.mem_of_getElem? (i := 0) rfl)) all0)
 refine gs m T2 9 #[.val (.ref a1), .val (.ref a2)] [] (fun _ k => st2.trans k) ?_
 refine goVW hS X2 hk hx Bd.returns Bd.notSynchronized (hb hby d2_9) ?_ (by decide) (by decide)
 show Q_rmSi Z a1 a2 cs kc f nn N h0 n0 _ T2.heap _
 exact ⟨b_2, kb_2, nb_2, g_2, co_2, rfl, N2, K3, r2_0, r2_1, r2_2, r2_3⟩
theorem d10_0 : decode jdk_42_method_152_code 0 = .ok (.getstatic 38, 3) := by decide +kernel
theorem d10_3 : decode jdk_42_method_152_code 3 = .ok (.ifCond .eq 10, 3) := by decide +kernel
theorem d10_6 : decode jdk_42_method_152_code 6 = .ok (.aload_n 0, 1) := by decide +kernel
theorem d10_7 : decode jdk_42_method_152_code 7 = .ok (.getfield 15, 3) := by decide +kernel
theorem d10_10 : decode jdk_42_method_152_code 10 = .ok (.goto 4, 3) := by decide +kernel
theorem d10_14 : decode jdk_42_method_152_code 14 = .ok (.ireturn, 1) := by decide +kernel
theorem ef_rmCo (m : MethodId) (a1 : Addr) : entryFrame m #[(.ref a1)] 1 = mkF m 0 #[.val (.ref a1)] [] := by first | (simp [entryFrame, mkF, argsToLocals, Value.category]; done) | rfl
def Q_rmCo (Z : State) (a1 : Addr) (cs : Int32) (co : Int32) (h0 : Heap) (n0 : Nat) (rv : Option Value) (hq : Heap) (Lq : List Loc) : Prop := rv = some (.int co) ∧ Fr n0 Lq ∧ hq = h0
theorem rmCo (l : Launch) (Z : State) (a0 : Array Value) (hw : HW Z a0) (ws : List Jvm.Cond) (a1 : Addr) (cs : Int32) (co : Int32) (h0 : Heap) (n0 : Nat) (Z0 : n0 ≤ h0.size) (F_coder_a1 : Fld Z h0 a1 "java/lang/String" "coder" "B" (.int co)) (O0 : Old Z n0 h0) (S_COMPACT_STRINGS : Sta Z Z.heap "java/lang/String" "COMPACT_STRINGS" "Z" (.int cs)) (hcs : ¬ cs = (0 : Int32)) (hco : co = (0 : Int32) ∨ co = (1 : Int32)) :
  MF l y103 jdk_42_method_152_code 1 (some .byte) ws (rO 0 0 0 0) #[(.ref a1)] Z h0 (Q_rmCo Z a1 cs co h0 n0) := by
 refine own_met "java/lang/String" rfl (plainFor_of_name pn_3) (fun m => ef_rmCo m a1) ?_
 intro p e s m below meth c s₁ Bd hx hby hml hown hnm hZ X0 e0
 have N0 := Fr.nil n0
 obtain ⟨T1, X1, e1, st1⟩ := getS2 X0 hx hZ hown (host := "") (Or.inl (tw hw 48 rfl)) Via.refl e0 (S_COMPACT_STRINGS.ext O0.2) (g := (mkF m 0 #[.val (.ref a1)] [])) rfl (hb hby d10_0)
 refine gs m T1 3 #[.val (.ref a1)] [(.int cs)] st1 ?_
 refine g_ifNo X1 hx 6 (hb hby d10_3) rfl ((if0 _ _).trans (feq hcs).1) ?_
 refine g_aloadN X1 hx 7 (hb hby d10_6) rfl rfl rfl ?_
 obtain ⟨T2, X2, e2, st2⟩ := getF X1 hx hZ hown (host := "") (Or.inl (tw hw 27 rfl)) Via.refl e1 F_coder_a1 (g := (mkF m 7 #[.val (.ref a1)] [(.ref a1)])) rfl rfl (hb hby d10_7)
 refine gs m T2 10 #[.val (.ref a1)] [(.int co)] st2 ?_
 refine g_goto X2 hx 14 (hb hby d10_10) (by decide) (by decide) ?_
 refine goN X2 hx (t := .byte) Bd.returns (by simp) Bd.notSynchronized (hb hby d10_14) ?_ (by decide) (by decide)
 show Q_rmCo Z a1 cs co h0 n0 _ T2.heap _
 rw [e2]
 exact ⟨(congrArg (fun z => some (Value.int z)) (own_cofit hco).2.2), N0, rfl⟩
theorem d9_0 : decode jdk_42_method_54_code 0 = .ok (.aload_n 0, 1) := by decide +kernel
theorem d9_1 : decode jdk_42_method_54_code 1 = .ok (.getfield 9, 3) := by decide +kernel
theorem d9_4 : decode jdk_42_method_54_code 4 = .ok (.arraylength, 1) := by decide +kernel
theorem d9_5 : decode jdk_42_method_54_code 5 = .ok (.aload_n 0, 1) := by decide +kernel
theorem d9_6 : decode jdk_42_method_54_code 6 = .ok (.invokevirtual 335, 3) := by decide +kernel
theorem pd_8 : parseMethodDescriptor "()B" = some ⟨[], some .byte⟩ := by decide +kernel
theorem d9_9 : decode jdk_42_method_54_code 9 = .ok (.ishr, 1) := by decide +kernel
theorem d9_10 : decode jdk_42_method_54_code 10 = .ok (.ireturn, 1) := by decide +kernel
def Q_rmLn (Z : State) (a1 : Addr) (cs : Int32) (v : Addr) (kb : ClassId) (nb : Int32) (g : Nat → Int32) (co : Int32) (f : Nat → Int32) (nn : Nat) (N : Int32) (h0 : Heap) (n0 : Nat) (rv : Option Value) (hq : Heap) (Lq : List Loc) : Prop := rv = some (.int N) ∧ Fr n0 Lq ∧ hq = h0
theorem rmLn (l : Launch) (Z : State) (a0 : Array Value) (hw : HW Z a0) (ws : List Jvm.Cond) (a1 : Addr) (cs : Int32) (v : Addr) (kb : ClassId) (nb : Int32) (g : Nat → Int32) (co : Int32) (f : Nat → Int32) (nn : Nat) (N : Int32) (h0 : Heap) (n0 : Nat) (Z0 : n0 ≤ h0.size) (E_a1 : Exa Z h0 a1 "java/lang/String") (F_value_a1 : Fld Z h0 a1 "java/lang/String" "value" "[B" (.ref v)) (F_coder_a1 : Fld Z h0 a1 "java/lang/String" "coder" "B" (.int co)) (V_v : Arv Z h0 v kb .byte nb (own_tb g) (.int 0)) (O0 : Old Z n0 h0) (S_COMPACT_STRINGS : Sta Z Z.heap "java/lang/String" "COMPACT_STRINGS" "Z" (.int cs)) (hcs : ¬ cs = (0 : Int32)) (hst : own_st f nn nb g co) (hN : Ix N nn) (hnn : nn ≤ 20) :
  MF l y104 jdk_42_method_54_code 1 (some .int) ws (rO 1 0 0 13) #[(.ref a1)] Z h0 (Q_rmLn Z a1 cs v kb nb g co f nn N h0 n0) := by
 refine own_met "java/lang/String" rfl (plainFor_of_name pn_3) (fun m => ef_rmCo m a1) ?_
 intro p e s m below meth c s₁ Bd hx hby hml hown hnm hZ X0 e0
 have N0 := Fr.nil n0
 refine g_aloadN X0 hx 1 (hb hby d9_0) rfl rfl rfl ?_
 obtain ⟨T1, X1, e1, st1⟩ := getF X0 hx hZ hown (host := "") (Or.inl (tw hw 26 rfl)) Via.refl e0 F_value_a1 (g := (mkF m 1 #[.val (.ref a1)] [(.ref a1)])) rfl rfl (hb hby d9_1)
 refine gs m T1 4 #[.val (.ref a1)] [(.ref v)] st1 ?_
 obtain ⟨cl2, Ar2, qc2, Sz2, Nn2, Hs2, Gf2⟩ := id V_v
 have hlen2 := X1.arraylength hx (by rw [e1]; exact Ar2.1) (State.isArrayOf_alike hZ.alike Ar2.2.1) (g := (mkF m 4 #[.val (.ref a1)] [(.ref v)])) rfl rfl (hb hby d9_4)
 rw [len_of Sz2 Nn2] at hlen2
 refine gs m T1 5 #[.val (.ref a1)] [(.int nb)] (fun _ kS => hlen2 _ kS) ?_
 refine g_aloadN X1 hx 6 (hb hby d9_5) rfl rfl rfl ?_
 obtain ⟨cq3, kq3, q3a, q3b, q3c⟩ := isOf hZ e1 E_a1
 obtain ⟨_, _, ⟨T3, L3, kk3, nn3⟩, -, X3, ⟨Lc3, hQ3, lq3, yq3, zq3⟩, st3⟩ := X1.virtualBack hx (y := y103) (z := y103) hown (mvT hZ (tw hw 54 rfl)) (mvT hZ (tw hw 55 rfl)) (notFace_of_selects (args := #[]) (mvT hZ (tw hw 57 rfl))) (mvT hZ (tw hw 57 rfl)) (mvT hZ (tw hw 56 rfl)) (by decide) (backOf (W := 1) (rmCo l Z a0 hw [] a1 cs co h0 n0 Z0 F_coder_a1 O0 S_COMPACT_STRINGS hcs (own_stco hst)) hZ (tw hw 58 rfl) (tw hw 9 rfl) (by decide) (by decide)) q3a q3c (g := (mkF m 6 #[.val (.ref a1)] [(.ref a1), (.int nb)])) rfl (by rw [hml]; rfl) (Steps.refl _) (argsL := []) (rest := [(.int nb)]) (lenOf pd_8 rfl) rfl (by show 2 * 0 + _ ≤ _; exact Nat.le_of_eq rfl) (hb hby d9_6) (fun _ _ => ⟨rfl, e1, (by decide : 0 + 0 ≤ _), (by decide : 0 + 0 ≤ _)⟩)
 dsimp only [Pt.U, Pt.locs, Pt.cells, Pt.slots] at X3 lq3 yq3 zq3 st3 hQ3
 subst yq3 zq3
 obtain ⟨rfl, Nq3, eh3⟩ := hQ3
 have N3 : Fr n0 L3 := by rw [lq3]; exact Fr.app N0 Nq3
 refine gs m T3 9 #[.val (.ref a1)] [(.int co), (.int nb)] (fun _ k => st3.trans k) ?_
 refine gs m T3 10 #[.val (.ref a1)] [(.int (nb >>> (co &&& 31)))] (fun _ kS => XS.ishr X3.here hx rfl (hb hby d9_9) rfl kS) ?_
 refine goI X3 hx Bd.returns Bd.notSynchronized (hb hby d9_10) ?_ (by decide) (by decide)
 show Q_rmLn Z a1 cs v kb nb g co f nn N h0 n0 _ T3.heap _
 rw [eh3]
 exact ⟨(congrArg (fun z => some (Value.int z)) (own_stln hst hN)), N3, rfl⟩
theorem d8_0 : decode jdk_42_method_154_code 0 = .ok (.getstatic 38, 3) := by decide +kernel
theorem d8_3 : decode jdk_42_method_154_code 3 = .ok (.ifCond .eq 14, 3) := by decide +kernel
theorem d8_6 : decode jdk_42_method_154_code 6 = .ok (.aload_n 0, 1) := by decide +kernel
theorem d8_7 : decode jdk_42_method_154_code 7 = .ok (.getfield 15, 3) := by decide +kernel
theorem d8_10 : decode jdk_42_method_154_code 10 = .ok (.ifCond .ne 7, 3) := by decide +kernel
theorem d8_13 : decode jdk_42_method_154_code 13 = .ok (.iconst 1, 1) := by decide +kernel
theorem d8_14 : decode jdk_42_method_154_code 14 = .ok (.goto 4, 3) := by decide +kernel
theorem d8_18 : decode jdk_42_method_154_code 18 = .ok (.ireturn, 1) := by decide +kernel
def Q_rmIl0 (Z : State) (a1 : Addr) (cs : Int32) (h0 : Heap) (n0 : Nat) (rv : Option Value) (hq : Heap) (Lq : List Loc) : Prop := rv = some (.int 1) ∧ Fr n0 Lq ∧ hq = h0
theorem rmIl0 (l : Launch) (Z : State) (a0 : Array Value) (hw : HW Z a0) (ws : List Jvm.Cond) (a1 : Addr) (cs : Int32) (h0 : Heap) (n0 : Nat) (Z0 : n0 ≤ h0.size) (F_coder_a1 : Fld Z h0 a1 "java/lang/String" "coder" "B" (.int 0)) (O0 : Old Z n0 h0) (S_COMPACT_STRINGS : Sta Z Z.heap "java/lang/String" "COMPACT_STRINGS" "Z" (.int cs)) (hcs : ¬ cs = (0 : Int32)) :
  MF l y105 jdk_42_method_154_code 1 (some .boolean) ws (rO 0 0 0 0) #[(.ref a1)] Z h0 (Q_rmIl0 Z a1 cs h0 n0) := by
 refine own_met "java/lang/String" rfl (plainFor_of_name pn_3) (fun m => ef_rmCo m a1) ?_
 intro p e s m below meth c s₁ Bd hx hby hml hown hnm hZ X0 e0
 have N0 := Fr.nil n0
 obtain ⟨T1, X1, e1, st1⟩ := getS2 X0 hx hZ hown (host := "") (Or.inl (tw hw 48 rfl)) Via.refl e0 (S_COMPACT_STRINGS.ext O0.2) (g := (mkF m 0 #[.val (.ref a1)] [])) rfl (hb hby d8_0)
 refine gs m T1 3 #[.val (.ref a1)] [(.int cs)] st1 ?_
 refine g_ifNo X1 hx 6 (hb hby d8_3) rfl ((if0 _ _).trans (feq hcs).1) ?_
 refine g_aloadN X1 hx 7 (hb hby d8_6) rfl rfl rfl ?_
 obtain ⟨T2, X2, e2, st2⟩ := getF X1 hx hZ hown (host := "") (Or.inl (tw hw 27 rfl)) Via.refl e1 F_coder_a1 (g := (mkF m 7 #[.val (.ref a1)] [(.ref a1)])) rfl rfl (hb hby d8_7)
 refine gs m T2 10 #[.val (.ref a1)] [(.int 0)] st2 ?_
 refine g_ifNo X2 hx 13 (hb hby d8_10) rfl ((if0 _ _).trans (teq (by decide : (0 : Int32) = (0 : Int32))).2) ?_
 refine g_iconst X2 hx 14 1 (hb hby d8_13) rfl rfl ?_
 refine g_goto X2 hx 18 (hb hby d8_14) (by decide) (by decide) ?_
 refine goN X2 hx (t := .boolean) Bd.returns (by simp) Bd.notSynchronized (hb hby d8_18) ?_ (by decide) (by decide)
 show Q_rmIl0 Z a1 cs h0 n0 _ T2.heap _
 rw [e2]
 exact ⟨rfl, N0, rfl⟩
theorem d8_17 : decode jdk_42_method_154_code 17 = .ok (.iconst 0, 1) := by decide +kernel
def Q_rmIl1 (Z : State) (a1 : Addr) (cs : Int32) (h0 : Heap) (n0 : Nat) (rv : Option Value) (hq : Heap) (Lq : List Loc) : Prop := rv = some (.int 0) ∧ Fr n0 Lq ∧ hq = h0
theorem rmIl1 (l : Launch) (Z : State) (a0 : Array Value) (hw : HW Z a0) (ws : List Jvm.Cond) (a1 : Addr) (cs : Int32) (h0 : Heap) (n0 : Nat) (Z0 : n0 ≤ h0.size) (F_coder_a1 : Fld Z h0 a1 "java/lang/String" "coder" "B" (.int 1)) (O0 : Old Z n0 h0) (S_COMPACT_STRINGS : Sta Z Z.heap "java/lang/String" "COMPACT_STRINGS" "Z" (.int cs)) (hcs : ¬ cs = (0 : Int32)) :
  MF l y105 jdk_42_method_154_code 1 (some .boolean) ws (rO 0 0 0 0) #[(.ref a1)] Z h0 (Q_rmIl1 Z a1 cs h0 n0) := by
 refine own_met "java/lang/String" rfl (plainFor_of_name pn_3) (fun m => ef_rmCo m a1) ?_
 intro p e s m below meth c s₁ Bd hx hby hml hown hnm hZ X0 e0
 have N0 := Fr.nil n0
 obtain ⟨T1, X1, e1, st1⟩ := getS2 X0 hx hZ hown (host := "") (Or.inl (tw hw 48 rfl)) Via.refl e0 (S_COMPACT_STRINGS.ext O0.2) (g := (mkF m 0 #[.val (.ref a1)] [])) rfl (hb hby d8_0)
 refine gs m T1 3 #[.val (.ref a1)] [(.int cs)] st1 ?_
 refine g_ifNo X1 hx 6 (hb hby d8_3) rfl ((if0 _ _).trans (feq hcs).1) ?_
 refine g_aloadN X1 hx 7 (hb hby d8_6) rfl rfl rfl ?_
 obtain ⟨T2, X2, e2, st2⟩ := getF X1 hx hZ hown (host := "") (Or.inl (tw hw 27 rfl)) Via.refl e1 F_coder_a1 (g := (mkF m 7 #[.val (.ref a1)] [(.ref a1)])) rfl rfl (hb hby d8_7)
 refine gs m T2 10 #[.val (.ref a1)] [(.int 1)] st2 ?_
 refine g_ifYes X2 hx 17 (hb hby d8_10) ((if0 _ _).trans (feq (by decide : ¬ ((1 : Int32) = (0 : Int32)))).2) (by decide) (by decide) ?_
 refine g_iconst X2 hx 18 0 (hb hby d8_17) rfl rfl ?_
 refine goN X2 hx (t := .boolean) Bd.returns (by simp) Bd.notSynchronized (hb hby d8_18) ?_ (by decide) (by decide)
 show Q_rmIl1 Z a1 cs h0 n0 _ T2.heap _
 rw [e2]
 exact ⟨rfl, N0, rfl⟩
theorem d26_0 : decode jdk_52_method_6_code 0 = .ok (.aload_n 0, 1) := by decide +kernel
theorem d26_1 : decode jdk_52_method_6_code 1 = .ok (.arraylength, 1) := by decide +kernel
theorem d26_2 : decode jdk_52_method_6_code 2 = .ok (.iconst 1, 1) := by decide +kernel
theorem d26_3 : decode jdk_52_method_6_code 3 = .ok (.ishr, 1) := by decide +kernel
theorem d26_4 : decode jdk_52_method_6_code 4 = .ok (.ireturn, 1) := by decide +kernel
def Q_rmUl (Z : State) (a1 : Addr) (kb : ClassId) (nb : Int32) (vs : List Value) (nn : Nat) (N : Int32) (h0 : Heap) (n0 : Nat) (rv : Option Value) (hq : Heap) (Lq : List Loc) : Prop := rv = some (.int N) ∧ Fr n0 Lq ∧ hq = h0
theorem rmUl (l : Launch) (Z : State) (a0 : Array Value) (hw : HW Z a0) (ws : List Jvm.Cond) (a1 : Addr) (kb : ClassId) (nb : Int32) (vs : List Value) (nn : Nat) (N : Int32) (h0 : Heap) (n0 : Nat) (Z0 : n0 ≤ h0.size) (V_a1 : Arv Z h0 a1 kb .byte nb vs (.int 0)) (hnb : Ix nb (2 * nn)) (hN : Ix N nn) :
  MF l (⟨"java/lang/StringUTF16", "length", "([B)I"⟩ : MethodName) jdk_52_method_6_code 1 (some .int) ws (rO 0 0 0 0) #[(.ref a1)] Z h0 (Q_rmUl Z a1 kb nb vs nn N h0 n0) := by
 refine own_met "java/lang/StringUTF16" rfl (plainFor_of_name pn_14) (fun m => ef_rmCo m a1) ?_
 intro p e s m below meth c s₁ Bd hx hby hml hown hnm hZ X0 e0
 have N0 := Fr.nil n0
 refine g_aloadN X0 hx 1 (hb hby d26_0) rfl rfl rfl ?_
 obtain ⟨cl1, Ar1, qc1, Sz1, Nn1, Hs1, Gf1⟩ := id V_a1
 have hlen1 := X0.arraylength hx (by rw [e0]; exact Ar1.1) (State.isArrayOf_alike hZ.alike Ar1.2.1) (g := (mkF m 1 #[.val (.ref a1)] [(.ref a1)])) rfl rfl (hb hby d26_1)
 rw [len_of Sz1 Nn1] at hlen1
 refine gs m s₁ 2 #[.val (.ref a1)] [(.int nb)] (fun _ kS => hlen1 _ kS) ?_
 refine g_iconst X0 hx 3 1 (hb hby d26_2) rfl rfl ?_
 refine gs m s₁ 4 #[.val (.ref a1)] [(.int (nb >>> ((1 : Int32) &&& 31)))] (fun _ kS => XS.ishr X0.here hx rfl (hb hby d26_3) rfl kS) ?_
 refine goI X0 hx Bd.returns Bd.notSynchronized (hb hby d26_4) ?_ (by decide) (by decide)
 show Q_rmUl Z a1 kb nb vs nn N h0 n0 _ s₁.heap _
 rw [e0]
 exact ⟨(congrArg (fun z => some (Value.int z)) (own_ixH hnb hN)), N0, rfl⟩
theorem d12_0 : decode jdk_43_method_4_code 0 = .ok (.iload_n 0, 1) := by decide +kernel
theorem d12_1 : decode jdk_43_method_4_code 1 = .ok (.ifCond .lt 14, 3) := by decide +kernel
theorem d12_4 : decode jdk_43_method_4_code 4 = .ok (.iload_n 0, 1) := by decide +kernel
theorem d12_5 : decode jdk_43_method_4_code 5 = .ok (.sipush 255, 3) := by decide +kernel
theorem d12_8 : decode jdk_43_method_4_code 8 = .ok (.if_icmp .gt 7, 3) := by decide +kernel
theorem d12_15 : decode jdk_43_method_4_code 15 = .ok (.iconst 0, 1) := by decide +kernel
theorem d12_16 : decode jdk_43_method_4_code 16 = .ok (.ireturn, 1) := by decide +kernel
theorem pn_12 : plainName "java/lang/StringLatin1" = true := by first | (simp [plainName, overriddenIn]; done) | decide +kernel
theorem ef_rmCe (m : MethodId)  : entryFrame m #[(.int 65533)] 1 = mkF m 0 #[.val (.int 65533)] [] := by first | (simp [entryFrame, mkF, argsToLocals, Value.category]; done) | rfl
def Q_rmCe (Z : State)  (h0 : Heap) (n0 : Nat) (rv : Option Value) (hq : Heap) (Lq : List Loc) : Prop := rv = some (.int 0) ∧ Fr n0 Lq ∧ hq = h0
theorem rmCe (l : Launch) (Z : State) (a0 : Array Value) (hw : HW Z a0) (ws : List Jvm.Cond)  (h0 : Heap) (n0 : Nat) (Z0 : n0 ≤ h0.size) :
  MF l (⟨"java/lang/StringLatin1", "canEncode", "(I)Z"⟩ : MethodName) jdk_43_method_4_code 1 (some .boolean) ws (rO 0 0 0 0) #[(.int 65533)] Z h0 (Q_rmCe Z  h0 n0) := by
 refine own_met "java/lang/StringLatin1" rfl (plainFor_of_name pn_12) (fun m => ef_rmCe m) ?_
 intro p e s m below meth c s₁ Bd hx hby hml hown hnm hZ X0 e0
 have N0 := Fr.nil n0
 refine g_iloadN X0 hx 1 (hb hby d12_0) rfl rfl ?_
 refine g_ifNo X0 hx 4 (hb hby d12_1) rfl ((if0 _ _).trans (flt (by decide : ¬ ((65533 : Int32) < (0 : Int32)))).1) ?_
 refine g_iloadN X0 hx 5 (hb hby d12_4) rfl rfl ?_
 refine g_sipush X0 hx 8 255 (hb hby d12_5) rfl rfl ?_
 refine g_icmpYes X0 hx 15 (hb hby d12_8) (tlt (by decide : (255 : Int32) < (65533 : Int32))).2.2.1 (by decide) (by decide) ?_
 refine g_iconst X0 hx 16 0 (hb hby d12_15) rfl rfl ?_
 refine goN X0 hx (t := .boolean) Bd.returns (by simp) Bd.notSynchronized (hb hby d12_16) ?_ (by decide) (by decide)
 show Q_rmCe Z  h0 n0 _ s₁.heap _
 rw [e0]
 exact ⟨rfl, N0, rfl⟩
theorem d11_0 : decode jdk_43_method_22_code 0 = .ok (.iload_n 1, 1) := by decide +kernel
theorem d11_1 : decode jdk_43_method_22_code 1 = .ok (.invokestatic 88, 3) := by decide +kernel
theorem pd_9 : parseMethodDescriptor "(I)Z" = some ⟨[.int], some .boolean⟩ := by decide +kernel
theorem d11_4 : decode jdk_43_method_22_code 4 = .ok (.ifCond .ne 5, 3) := by decide +kernel
theorem d11_7 : decode jdk_43_method_22_code 7 = .ok (.iconst (-1), 1) := by decide +kernel
theorem d11_8 : decode jdk_43_method_22_code 8 = .ok (.ireturn, 1) := by decide +kernel
theorem ef_rmLx (m : MethodId) (a1 : Addr) (p4 : Int32) : entryFrame m #[(.ref a1), (.int 65533), (.int 0), (.int p4)] 4 = mkF m 0 #[.val (.ref a1), .val (.int 65533), .val (.int 0), .val (.int p4)] [] := by first | (simp [entryFrame, mkF, argsToLocals, Value.category]; done) | rfl
def Q_rmLx (Z : State) (a1 : Addr) (p4 : Int32) (h0 : Heap) (n0 : Nat) (rv : Option Value) (hq : Heap) (Lq : List Loc) : Prop := rv = some (.int (-1)) ∧ Fr n0 Lq ∧ hq = h0
theorem rmLx (l : Launch) (Z : State) (a0 : Array Value) (hw : HW Z a0) (ws : List Jvm.Cond) (a1 : Addr) (p4 : Int32) (h0 : Heap) (n0 : Nat) (Z0 : n0 ≤ h0.size) :
  MF l (⟨"java/lang/StringLatin1", "indexOf", "([BIII)I"⟩ : MethodName) jdk_43_method_22_code 4 (some .int) ws (rO 1 0 0 12) #[(.ref a1), (.int 65533), (.int 0), (.int p4)] Z h0 (Q_rmLx Z a1 p4 h0 n0) := by
 refine own_met "java/lang/StringLatin1" rfl (plainFor_of_name pn_12) (fun m => ef_rmLx m a1 p4) ?_
 intro p e s m below meth c s₁ Bd hx hby hml hown hnm hZ X0 e0
 have N0 := Fr.nil n0
 refine g_iloadN X0 hx 1 (hb hby d11_0) rfl rfl ?_
 obtain ⟨_, _, ⟨T1, L1, kk1, nn1⟩, -, X1, ⟨Lc1, hQ1, lq1, yq1, zq1⟩, st1⟩ := Jvm.LawKit.callS X0 hx (y := (⟨"java/lang/StringLatin1", "canEncode", "(I)Z"⟩ : MethodName)) hown (mvT hZ (tw hw 63 rfl)) (mvT hZ (tw hw 64 rfl)) (mvT hZ (tw hw 61 rfl)) (mvT hZ (tw hw 65 rfl)) (by decide) (backOf (W := 0) (rmCe l Z a0 hw []  h0 n0 Z0 ) hZ (tw hw 65 rfl) (tw hw 61 rfl) (by decide) (by decide)) (g := (mkF m 1 #[.val (.ref a1), .val (.int 65533), .val (.int 0), .val (.int p4)] [(.int 65533)])) rfl (by rw [hml]; rfl) (argsL := [(.int 65533)]) (rest := []) (lenOf pd_9 rfl) rfl (by show 2 * 0 + _ ≤ _; exact Nat.le_of_eq rfl) (hb hby d11_1) (fun _ _ => ⟨rfl, e0, (by decide : 0 + 0 ≤ _), (by decide : 0 + 0 ≤ _)⟩)
 dsimp only [Pt.U, Pt.locs, Pt.cells, Pt.slots] at X1 lq1 yq1 zq1 st1 hQ1
 subst yq1 zq1
 obtain ⟨rfl, Nq1, eh1⟩ := hQ1
 have N1 : Fr n0 L1 := by rw [lq1]; exact Fr.app N0 Nq1
 refine gs m T1 4 #[.val (.ref a1), .val (.int 65533), .val (.int 0), .val (.int p4)] [(.int 0)] st1 ?_
 refine g_ifNo X1 hx 7 (hb hby d11_4) rfl ((if0 _ _).trans (teq (by decide : (0 : Int32) = (0 : Int32))).2) ?_
 refine g_iconst X1 hx 8 (-1) (hb hby d11_7) rfl rfl ?_
 refine goI X1 hx Bd.returns Bd.notSynchronized (hb hby d11_8) ?_ (by decide) (by decide)
 show Q_rmLx Z a1 p4 h0 n0 _ T1.heap _
 rw [eh1]
 exact ⟨rfl, N1, rfl⟩
theorem d22_0 : decode jdk_29_method_65_code 0 = .ok (.iload_n 0, 1) := by decide +kernel
theorem d22_1 : decode jdk_29_method_65_code 1 = .ok (.iload_n 1, 1) := by decide +kernel
theorem d22_2 : decode jdk_29_method_65_code 2 = .ok (.if_icmp .lt 7, 3) := by decide +kernel
theorem d22_5 : decode jdk_29_method_65_code 5 = .ok (.iload_n 0, 1) := by decide +kernel
theorem d22_6 : decode jdk_29_method_65_code 6 = .ok (.goto 4, 3) := by decide +kernel
theorem d22_10 : decode jdk_29_method_65_code 10 = .ok (.ireturn, 1) := by decide +kernel
theorem ef_rmMx (m : MethodId)  : entryFrame m #[(.int 0), (.int 0)] 2 = mkF m 0 #[.val (.int 0), .val (.int 0)] [] := by first | (simp [entryFrame, mkF, argsToLocals, Value.category]; done) | rfl
def Q_rmMx (Z : State)  (h0 : Heap) (n0 : Nat) (rv : Option Value) (hq : Heap) (Lq : List Loc) : Prop := rv = some (.int 0) ∧ Fr n0 Lq ∧ hq = h0
theorem rmMx (l : Launch) (Z : State) (a0 : Array Value) (hw : HW Z a0) (ws : List Jvm.Cond)  (h0 : Heap) (n0 : Nat) (Z0 : n0 ≤ h0.size) :
  MF l (⟨"java/lang/Math", "max", "(II)I"⟩ : MethodName) jdk_29_method_65_code 2 (some .int) ws (rO 0 0 0 0) #[(.int 0), (.int 0)] Z h0 (Q_rmMx Z  h0 n0) := by
 refine own_met "java/lang/Math" rfl (Jvm.Free.JP.mathPlain rfl (by decide +kernel)) (fun m => ef_rmMx m) ?_
 intro p e s m below meth c s₁ Bd hx hby hml hown hnm hZ X0 e0
 have N0 := Fr.nil n0
 refine g_iloadN X0 hx 1 (hb hby d22_0) rfl rfl ?_
 refine g_iloadN X0 hx 2 (hb hby d22_1) rfl rfl ?_
 refine g_icmpNo X0 hx 5 (hb hby d22_2) rfl (flt (by decide : ¬ ((0 : Int32) < (0 : Int32)))).1 ?_
 refine g_iloadN X0 hx 6 (hb hby d22_5) rfl rfl ?_
 refine g_goto X0 hx 10 (hb hby d22_6) (by decide) (by decide) ?_
 refine goI X0 hx Bd.returns Bd.notSynchronized (hb hby d22_10) ?_ (by decide) (by decide)
 show Q_rmMx Z  h0 n0 _ s₁.heap _
 rw [e0]
 exact ⟨rfl, N0, rfl⟩
theorem d23_0 : decode jdk_29_method_69_code 0 = .ok (.iload_n 0, 1) := by decide +kernel
theorem d23_1 : decode jdk_29_method_69_code 1 = .ok (.iload_n 1, 1) := by decide +kernel
theorem d23_2 : decode jdk_29_method_69_code 2 = .ok (.if_icmp .gt 7, 3) := by decide +kernel
theorem d23_5 : decode jdk_29_method_69_code 5 = .ok (.iload_n 0, 1) := by decide +kernel
theorem d23_6 : decode jdk_29_method_69_code 6 = .ok (.goto 4, 3) := by decide +kernel
theorem d23_10 : decode jdk_29_method_69_code 10 = .ok (.ireturn, 1) := by decide +kernel
theorem ef_rmMn (m : MethodId) (N : Int32) : entryFrame m #[(.int N), (.int N)] 2 = mkF m 0 #[.val (.int N), .val (.int N)] [] := by first | (simp [entryFrame, mkF, argsToLocals, Value.category]; done) | rfl
def Q_rmMn (Z : State) (N : Int32) (h0 : Heap) (n0 : Nat) (rv : Option Value) (hq : Heap) (Lq : List Loc) : Prop := rv = some (.int N) ∧ Fr n0 Lq ∧ hq = h0
theorem rmMn (l : Launch) (Z : State) (a0 : Array Value) (hw : HW Z a0) (ws : List Jvm.Cond) (N : Int32) (h0 : Heap) (n0 : Nat) (Z0 : n0 ≤ h0.size) :
  MF l (⟨"java/lang/Math", "min", "(II)I"⟩ : MethodName) jdk_29_method_69_code 2 (some .int) ws (rO 0 0 0 0) #[(.int N), (.int N)] Z h0 (Q_rmMn Z N h0 n0) := by
 refine own_met "java/lang/Math" rfl (Jvm.Free.JP.mathPlain rfl (by decide +kernel)) (fun m => ef_rmMn m N) ?_
 intro p e s m below meth c s₁ Bd hx hby hml hown hnm hZ X0 e0
 have N0 := Fr.nil n0
 refine g_iloadN X0 hx 1 (hb hby d23_0) rfl rfl ?_
 refine g_iloadN X0 hx 2 (hb hby d23_1) rfl rfl ?_
 refine g_icmpNo X0 hx 5 (hb hby d23_2) rfl (flt (fun q => Int32.lt_irrefl q)).2.2.1 ?_
 refine g_iloadN X0 hx 6 (hb hby d23_5) rfl rfl ?_
 refine g_goto X0 hx 10 (hb hby d23_6) (by decide) (by decide) ?_
 refine goI X0 hx Bd.returns Bd.notSynchronized (hb hby d23_10) ?_ (by decide) (by decide)
 show Q_rmMn Z N h0 n0 _ s₁.heap _
 rw [e0]
 exact ⟨rfl, N0, rfl⟩
theorem d28_0 : decode jdk_41_method_12_code 0 = .ok (.iload_n 0, 1) := by decide +kernel
theorem d28_1 : decode jdk_41_method_12_code 1 = .ok (.ifCond .lt 13, 3) := by decide +kernel
theorem d28_4 : decode jdk_41_method_12_code 4 = .ok (.iload_n 0, 1) := by decide +kernel
theorem d28_5 : decode jdk_41_method_12_code 5 = .ok (.iload_n 1, 1) := by decide +kernel
theorem d28_6 : decode jdk_41_method_12_code 6 = .ok (.if_icmp .gt 8, 3) := by decide +kernel
theorem d28_9 : decode jdk_41_method_12_code 9 = .ok (.iload_n 1, 1) := by decide +kernel
theorem d28_10 : decode jdk_41_method_12_code 10 = .ok (.iload_n 2, 1) := by decide +kernel
theorem d28_11 : decode jdk_41_method_12_code 11 = .ok (.if_icmp .le 11, 3) := by decide +kernel
theorem d28_22 : decode jdk_41_method_12_code 22 = .ok (.iload_n 0, 1) := by decide +kernel
theorem d28_23 : decode jdk_41_method_12_code 23 = .ok (.ireturn, 1) := by decide +kernel
theorem pn_28 : plainName "jdk/internal/util/Preconditions" = true := by first | (simp [plainName, overriddenIn]; done) | decide +kernel
theorem ef_rmCfn (m : MethodId) (N : Int32) : entryFrame m #[(.int 0), (.int N), (.int N), .null] 4 = mkF m 0 #[.val (.int 0), .val (.int N), .val (.int N), .val .null] [] := by first | (simp [entryFrame, mkF, argsToLocals, Value.category]; done) | rfl
def Q_rmCfn (Z : State) (N : Int32) (h0 : Heap) (n0 : Nat) (rv : Option Value) (hq : Heap) (Lq : List Loc) : Prop := rv = some (.int 0) ∧ Fr n0 Lq ∧ hq = h0
theorem rmCfn (l : Launch) (Z : State) (a0 : Array Value) (hw : HW Z a0) (ws : List Jvm.Cond) (N : Int32) (h0 : Heap) (n0 : Nat) (Z0 : n0 ≤ h0.size) (hN0 : ¬ N < (0 : Int32)) :
  MF l y106 jdk_41_method_12_code 4 (some .int) ws (rO 0 0 0 0) #[(.int 0), (.int N), (.int N), .null] Z h0 (Q_rmCfn Z N h0 n0) := by
 refine own_met "jdk/internal/util/Preconditions" rfl (plainFor_of_name pn_28) (fun m => ef_rmCfn m N) ?_
 intro p e s m below meth c s₁ Bd hx hby hml hown hnm hZ X0 e0
 have N0 := Fr.nil n0
 refine g_iloadN X0 hx 1 (hb hby d28_0) rfl rfl ?_
 refine g_ifNo X0 hx 4 (hb hby d28_1) rfl ((if0 _ _).trans (flt (by decide : ¬ ((0 : Int32) < (0 : Int32)))).1) ?_
 refine g_iloadN X0 hx 5 (hb hby d28_4) rfl rfl ?_
 refine g_iloadN X0 hx 6 (hb hby d28_5) rfl rfl ?_
 refine g_icmpNo X0 hx 9 (hb hby d28_6) rfl (flt hN0).2.2.1 ?_
 refine g_iloadN X0 hx 10 (hb hby d28_9) rfl rfl ?_
 refine g_iloadN X0 hx 11 (hb hby d28_10) rfl rfl ?_
 refine g_icmpYes X0 hx 22 (hb hby d28_11) (flt (fun q => Int32.lt_irrefl q)).2.2.2 (by decide) (by decide) ?_
 refine g_iloadN X0 hx 23 (hb hby d28_22) rfl rfl ?_
 refine goI X0 hx Bd.returns Bd.notSynchronized (hb hby d28_23) ?_ (by decide) (by decide)
 show Q_rmCfn Z N h0 n0 _ s₁.heap _
 rw [e0]
 exact ⟨rfl, N0, rfl⟩
theorem ef_rmCfr (m : MethodId) (N : Int32) (a4 : Addr) : entryFrame m #[(.int 0), (.int N), (.int N), (.ref a4)] 4 = mkF m 0 #[.val (.int 0), .val (.int N), .val (.int N), .val (.ref a4)] [] := by first | (simp [entryFrame, mkF, argsToLocals, Value.category]; done) | rfl
def Q_rmCfr (Z : State) (N : Int32) (a4 : Addr) (h0 : Heap) (n0 : Nat) (rv : Option Value) (hq : Heap) (Lq : List Loc) : Prop := rv = some (.int 0) ∧ Fr n0 Lq ∧ hq = h0
theorem rmCfr (l : Launch) (Z : State) (a0 : Array Value) (hw : HW Z a0) (ws : List Jvm.Cond) (N : Int32) (a4 : Addr) (h0 : Heap) (n0 : Nat) (Z0 : n0 ≤ h0.size) (hN0 : ¬ N < (0 : Int32)) :
  MF l y106 jdk_41_method_12_code 4 (some .int) ws (rO 0 0 0 0) #[(.int 0), (.int N), (.int N), (.ref a4)] Z h0 (Q_rmCfr Z N a4 h0 n0) := by
 refine own_met "jdk/internal/util/Preconditions" rfl (plainFor_of_name pn_28) (fun m => ef_rmCfr m N a4) ?_
 intro p e s m below meth c s₁ Bd hx hby hml hown hnm hZ X0 e0
 have N0 := Fr.nil n0
 refine g_iloadN X0 hx 1 (hb hby d28_0) rfl rfl ?_
 refine g_ifNo X0 hx 4 (hb hby d28_1) rfl ((if0 _ _).trans (flt (by decide : ¬ ((0 : Int32) < (0 : Int32)))).1) ?_
 refine g_iloadN X0 hx 5 (hb hby d28_4) rfl rfl ?_
 refine g_iloadN X0 hx 6 (hb hby d28_5) rfl rfl ?_
 refine g_icmpNo X0 hx 9 (hb hby d28_6) rfl (flt hN0).2.2.1 ?_
 refine g_iloadN X0 hx 10 (hb hby d28_9) rfl rfl ?_
 refine g_iloadN X0 hx 11 (hb hby d28_10) rfl rfl ?_
 refine g_icmpYes X0 hx 22 (hb hby d28_11) (flt (fun q => Int32.lt_irrefl q)).2.2.2 (by decide) (by decide) ?_
 refine g_iloadN X0 hx 23 (hb hby d28_22) rfl rfl ?_
 refine goI X0 hx Bd.returns Bd.notSynchronized (hb hby d28_23) ?_ (by decide) (by decide)
 show Q_rmCfr Z N a4 h0 n0 _ s₁.heap _
 rw [e0]
 exact ⟨rfl, N0, rfl⟩
theorem d27_0 : decode jdk_42_method_158_code 0 = .ok (.iload_n 0, 1) := by decide +kernel
theorem d27_1 : decode jdk_42_method_158_code 1 = .ok (.iload_n 1, 1) := by decide +kernel
theorem d27_2 : decode jdk_42_method_158_code 2 = .ok (.iload_n 2, 1) := by decide +kernel
theorem d27_3 : decode jdk_42_method_158_code 3 = .ok (.getstatic 1053, 3) := by decide +kernel
theorem d27_6 : decode jdk_42_method_158_code 6 = .ok (.invokestatic 1062, 3) := by decide +kernel
theorem pd_10 : parseMethodDescriptor "(IIILjava/util/function/BiFunction;)I" = some ⟨[.int, .int, .int, (.object "java/util/function/BiFunction")], some .int⟩ := by decide +kernel
theorem d27_9 : decode jdk_42_method_158_code 9 = .ok (.pop, 1) := by decide +kernel
theorem d27_10 : decode jdk_42_method_158_code 10 = .ok (.return_, 1) := by decide +kernel
theorem ef_rmCk (m : MethodId) (N : Int32) : entryFrame m #[(.int 0), (.int N), (.int N)] 3 = mkF m 0 #[.val (.int 0), .val (.int N), .val (.int N)] [] := by first | (simp [entryFrame, mkF, argsToLocals, Value.category]; done) | rfl
def Q_rmCk (Z : State) (N : Int32) (fv : Value) (h0 : Heap) (n0 : Nat) (rv : Option Value) (hq : Heap) (Lq : List Loc) : Prop := rv = none ∧ Fr n0 Lq ∧ hq = h0
theorem rmCk (l : Launch) (Z : State) (a0 : Array Value) (hw : HW Z a0) (ws : List Jvm.Cond) (N : Int32) (fv : Value) (h0 : Heap) (n0 : Nat) (Z0 : n0 ≤ h0.size) (O0 : Old Z n0 h0) (hN0 : ¬ N < (0 : Int32)) (S_SIOOBE_FORMATTER : Sta Z Z.heap "jdk/internal/util/Preconditions" "SIOOBE_FORMATTER" "Ljava/util/function/BiFunction;" fv) (hfv : fv.isRef = true) :
  MF l (⟨"java/lang/String", "checkBoundsBeginEnd", "(III)V"⟩ : MethodName) jdk_42_method_158_code 3 none ws (rO 1 0 0 15) #[(.int 0), (.int N), (.int N)] Z h0 (Q_rmCk Z N fv h0 n0) := by
 refine own_met "java/lang/String" rfl (plainFor_of_name pn_3) (fun m => ef_rmCk m N) ?_
 intro p e s m below meth c s₁ Bd hx hby hml hown hnm hZ X0 e0
 have N0 := Fr.nil n0
 rcases ref_cases hfv with hfe | ⟨fa, hfe⟩
 ·rw [hfe] at S_SIOOBE_FORMATTER
  refine g_iloadN X0 hx 1 (hb hby d27_0) rfl rfl ?_
  refine g_iloadN X0 hx 2 (hb hby d27_1) rfl rfl ?_
  refine g_iloadN X0 hx 3 (hb hby d27_2) rfl rfl ?_
  obtain ⟨T1, X1, e1, st1⟩ := getS2 X0 hx hZ hown (host := "") (Or.inl (tw hw 118 rfl)) Via.refl e0 (S_SIOOBE_FORMATTER.ext O0.2) (g := (mkF m 3 #[.val (.int 0), .val (.int N), .val (.int N)] [(.int N), (.int N), (.int 0)])) rfl (hb hby d27_3)
  refine gs m T1 6 #[.val (.int 0), .val (.int N), .val (.int N)] [.null, (.int N), (.int N), (.int 0)] st1 ?_
  obtain ⟨_, _, ⟨T2, L2, kk2, nn2⟩, -, X2, ⟨Lc2, hQ2, lq2, yq2, zq2⟩, st2⟩ := Jvm.LawKit.callS X1 hx (y := y106) hown (mvT hZ (tw hw 120 rfl)) (mvT hZ (tw hw 121 rfl)) (mvT hZ (tw hw 119 rfl)) (mvT hZ (tw hw 122 rfl)) (by decide) (backOf (W := 0) (rmCfn l Z a0 hw [] N h0 n0 Z0 hN0) hZ (tw hw 122 rfl) (tw hw 119 rfl) (by decide) (by decide)) (g := (mkF m 6 #[.val (.int 0), .val (.int N), .val (.int N)] [.null, (.int N), (.int N), (.int 0)])) rfl (by rw [hml]; rfl) (argsL := [(.int 0), (.int N), (.int N), .null]) (rest := []) (lenOf pd_10 rfl) rfl (by show 2 * 0 + _ ≤ _; exact Nat.le_of_eq rfl) (hb hby d27_6) (fun _ _ => ⟨rfl, e1, (by decide : 0 + 0 ≤ _), (by decide : 0 + 0 ≤ _)⟩)
  dsimp only [Pt.U, Pt.locs, Pt.cells, Pt.slots] at X2 lq2 yq2 zq2 st2 hQ2
  subst yq2 zq2
  obtain ⟨rfl, Nq2, eh2⟩ := hQ2
  have N2 : Fr n0 L2 := by rw [lq2]; exact Fr.app N0 Nq2
  refine gs m T2 9 #[.val (.int 0), .val (.int N), .val (.int N)] [(.int 0)] st2 ?_
  refine g_pop X2 hx 10 (hb hby d27_9) rfl rfl ?_
  refine goV X2 hx Bd.returns Bd.notSynchronized (hb hby d27_10) ?_ (by decide) (by decide)
  show Q_rmCk Z N fv h0 n0 _ T2.heap _
  rw [eh2]
  exact ⟨rfl, N2, rfl⟩
 ·rw [hfe] at S_SIOOBE_FORMATTER
  refine g_iloadN X0 hx 1 (hb hby d27_0) rfl rfl ?_
  refine g_iloadN X0 hx 2 (hb hby d27_1) rfl rfl ?_
  refine g_iloadN X0 hx 3 (hb hby d27_2) rfl rfl ?_
  obtain ⟨T3, X3, e3, st3⟩ := getS2 X0 hx hZ hown (host := "") (Or.inl (tw hw 118 rfl)) Via.refl e0 (S_SIOOBE_FORMATTER.ext O0.2) (g := (mkF m 3 #[.val (.int 0), .val (.int N), .val (.int N)] [(.int N), (.int N), (.int 0)])) rfl (hb hby d27_3)
  refine gs m T3 6 #[.val (.int 0), .val (.int N), .val (.int N)] [(.ref fa), (.int N), (.int N), (.int 0)] st3 ?_
  obtain ⟨_, _, ⟨T4, L4, kk4, nn4⟩, -, X4, ⟨Lc4, hQ4, lq4, yq4, zq4⟩, st4⟩ := Jvm.LawKit.callS X3 hx (y := y106) hown (mvT hZ (tw hw 120 rfl)) (mvT hZ (tw hw 121 rfl)) (mvT hZ (tw hw 119 rfl)) (mvT hZ (tw hw 122 rfl)) (by decide) (backOf (W := 0) (rmCfr l Z a0 hw [] N fa h0 n0 Z0 hN0) hZ (tw hw 122 rfl) (tw hw 119 rfl) (by decide) (by decide)) (g := (mkF m 6 #[.val (.int 0), .val (.int N), .val (.int N)] [(.ref fa), (.int N), (.int N), (.int 0)])) rfl (by rw [hml]; rfl) (argsL := [(.int 0), (.int N), (.int N), (.ref fa)]) (rest := []) (lenOf pd_10 rfl) rfl (by show 2 * 0 + _ ≤ _; exact Nat.le_of_eq rfl) (hb hby d27_6) (fun _ _ => ⟨rfl, e3, (by decide : 0 + 0 ≤ _), (by decide : 0 + 0 ≤ _)⟩)
  dsimp only [Pt.U, Pt.locs, Pt.cells, Pt.slots] at X4 lq4 yq4 zq4 st4 hQ4
  subst yq4 zq4
  obtain ⟨rfl, Nq4, eh4⟩ := hQ4
  have N4 : Fr n0 L4 := by rw [lq4]; exact Fr.app N0 Nq4
  refine gs m T4 9 #[.val (.int 0), .val (.int N), .val (.int N)] [(.int 0)] st4 ?_
  refine g_pop X4 hx 10 (hb hby d27_9) rfl rfl ?_
  refine goV X4 hx Bd.returns Bd.notSynchronized (hb hby d27_10) ?_ (by decide) (by decide)
  show Q_rmCk Z N fv h0 n0 _ T4.heap _
  rw [eh4]
  exact ⟨rfl, N4, rfl⟩
theorem d25_0 : decode jdk_52_method_93_code 0 = .ok (.iload_n 0, 1) := by decide +kernel
theorem d25_1 : decode jdk_52_method_93_code 1 = .ok (.iload_n 1, 1) := by decide +kernel
theorem d25_2 : decode jdk_52_method_93_code 2 = .ok (.aload_n 2, 1) := by decide +kernel
theorem d25_3 : decode jdk_52_method_93_code 3 = .ok (.invokestatic 48, 3) := by decide +kernel
theorem pd_11 : parseMethodDescriptor "([B)I" = some ⟨[(.array .byte)], some .int⟩ := by decide +kernel
theorem d25_6 : decode jdk_52_method_93_code 6 = .ok (.invokestatic 241, 3) := by decide +kernel
theorem pd_12 : parseMethodDescriptor "(III)V" = some ⟨[.int, .int, .int], none⟩ := by decide +kernel
theorem d25_9 : decode jdk_52_method_93_code 9 = .ok (.return_, 1) := by decide +kernel
theorem ef_rmCu (m : MethodId) (N : Int32) (a1 : Addr) : entryFrame m #[(.int 0), (.int N), (.ref a1)] 3 = mkF m 0 #[.val (.int 0), .val (.int N), .val (.ref a1)] [] := by first | (simp [entryFrame, mkF, argsToLocals, Value.category]; done) | rfl
def Q_rmCu (Z : State) (N : Int32) (a1 : Addr) (fv : Value) (kb : ClassId) (nb : Int32) (vs : List Value) (nn : Nat) (h0 : Heap) (n0 : Nat) (rv : Option Value) (hq : Heap) (Lq : List Loc) : Prop := rv = none ∧ Fr n0 Lq ∧ hq = h0
theorem rmCu (l : Launch) (Z : State) (a0 : Array Value) (hw : HW Z a0) (ws : List Jvm.Cond) (N : Int32) (a1 : Addr) (fv : Value) (kb : ClassId) (nb : Int32) (vs : List Value) (nn : Nat) (h0 : Heap) (n0 : Nat) (Z0 : n0 ≤ h0.size) (V_a1 : Arv Z h0 a1 kb .byte nb vs (.int 0)) (O0 : Old Z n0 h0) (S_SIOOBE_FORMATTER : Sta Z Z.heap "jdk/internal/util/Preconditions" "SIOOBE_FORMATTER" "Ljava/util/function/BiFunction;" fv) (hfv : fv.isRef = true) (hnb : Ix nb (2 * nn)) (hN : Ix N nn) :
  MF l (⟨"java/lang/StringUTF16", "checkBoundsBeginEnd", "(II[B)V"⟩ : MethodName) jdk_52_method_93_code 3 none ws (rO 2 0 0 29) #[(.int 0), (.int N), (.ref a1)] Z h0 (Q_rmCu Z N a1 fv kb nb vs nn h0 n0) := by
 refine own_met "java/lang/StringUTF16" rfl (plainFor_of_name pn_14) (fun m => ef_rmCu m N a1) ?_
 intro p e s m below meth c s₁ Bd hx hby hml hown hnm hZ X0 e0
 have N0 := Fr.nil n0
 refine g_iloadN X0 hx 1 (hb hby d25_0) rfl rfl ?_
 refine g_iloadN X0 hx 2 (hb hby d25_1) rfl rfl ?_
 refine g_aloadN X0 hx 3 (hb hby d25_2) rfl rfl rfl ?_
 obtain ⟨_, _, ⟨T1, L1, kk1, nn1⟩, -, X1, ⟨Lc1, hQ1, lq1, yq1, zq1⟩, st1⟩ := Jvm.LawKit.callS X0 hx (y := (⟨"java/lang/StringUTF16", "length", "([B)I"⟩ : MethodName)) hown (mvT hZ (tw hw 112 rfl)) (mvT hZ (tw hw 113 rfl)) (mvT hZ (tw hw 68 rfl)) (mvT hZ (tw hw 114 rfl)) (by decide) (backOf (W := 2) (rmUl l Z a0 hw [] a1 kb nb vs nn N h0 n0 Z0 V_a1 hnb hN) hZ (tw hw 114 rfl) (tw hw 68 rfl) (by decide) (by decide)) (g := (mkF m 3 #[.val (.int 0), .val (.int N), .val (.ref a1)] [(.ref a1), (.int N), (.int 0)])) rfl (by rw [hml]; rfl) (argsL := [(.ref a1)]) (rest := [(.int N), (.int 0)]) (lenOf pd_11 rfl) rfl (by show 2 * 0 + _ ≤ _; exact Nat.le_of_eq rfl) (hb hby d25_3) (fun _ _ => ⟨rfl, e0, (by decide : 0 + 0 ≤ _), (by decide : 0 + 0 ≤ _)⟩)
 dsimp only [Pt.U, Pt.locs, Pt.cells, Pt.slots] at X1 lq1 yq1 zq1 st1 hQ1
 subst yq1 zq1
 obtain ⟨rfl, Nq1, eh1⟩ := hQ1
 have N1 : Fr n0 L1 := by rw [lq1]; exact Fr.app N0 Nq1
 refine gs m T1 6 #[.val (.int 0), .val (.int N), .val (.ref a1)] [(.int N), (.int N), (.int 0)] st1 ?_
 obtain ⟨_, _, ⟨T2, L2, kk2, nn2⟩, -, X2, ⟨Lc2, hQ2, lq2, yq2, zq2⟩, st2⟩ := Jvm.LawKit.callS X1 hx (y := (⟨"java/lang/String", "checkBoundsBeginEnd", "(III)V"⟩ : MethodName)) hown (mvT hZ (tw hw 115 rfl)) (mvT hZ (tw hw 116 rfl)) (mvT hZ (tw hw 9 rfl)) (mvT hZ (tw hw 117 rfl)) (by decide) (backOf (W := 0) (rmCk l Z a0 hw [] N fv h0 n0 Z0 O0 (own_ixnn hN) S_SIOOBE_FORMATTER hfv) hZ (tw hw 117 rfl) (tw hw 9 rfl) (by decide) (by decide)) (g := (mkF m 6 #[.val (.int 0), .val (.int N), .val (.ref a1)] [(.int N), (.int N), (.int 0)])) rfl (by rw [hml]; rfl) (argsL := [(.int 0), (.int N), (.int N)]) (rest := []) (lenOf pd_12 rfl) rfl (by show 2 * 0 + _ ≤ _; exact Nat.le_of_eq rfl) (hb hby d25_6) (fun _ _ => ⟨rfl, eh1, (by decide : 0 + 0 ≤ _), (by decide : 0 + 0 ≤ _)⟩)
 dsimp only [Pt.U, Pt.locs, Pt.cells, Pt.slots] at X2 lq2 yq2 zq2 st2 hQ2
 subst yq2 zq2
 obtain ⟨rfl, Nq2, eh2⟩ := hQ2
 have N2 : Fr n0 L2 := by rw [lq2]; exact Fr.app N1 Nq2
 refine gs m T2 9 #[.val (.int 0), .val (.int N), .val (.ref a1)] [] st2 ?_
 refine goV X2 hx Bd.returns Bd.notSynchronized (hb hby d25_9) ?_ (by decide) (by decide)
 show Q_rmCu Z N a1 fv kb nb vs nn h0 n0 _ T2.heap _
 rw [eh2]
 exact ⟨rfl, N2, rfl⟩
theorem d29_0 : decode jdk_52_method_48_code 0 = .ok (.iload_n 2, 1) := by decide +kernel
theorem d29_1 : decode jdk_52_method_48_code 1 = .ok (.istore 4, 2) := by decide +kernel
theorem d29_3 : decode jdk_52_method_48_code 3 = .ok (.iload 4, 2) := by decide +kernel
theorem d29_5 : decode jdk_52_method_48_code 5 = .ok (.iload_n 3, 1) := by decide +kernel
theorem d29_6 : decode jdk_52_method_48_code 6 = .ok (.if_icmp .ge 22, 3) := by decide +kernel
theorem d29_9 : decode jdk_52_method_48_code 9 = .ok (.aload_n 0, 1) := by decide +kernel
theorem d29_10 : decode jdk_52_method_48_code 10 = .ok (.iload 4, 2) := by decide +kernel
theorem d29_12 : decode jdk_52_method_48_code 12 = .ok (.invokestatic 71, 3) := by decide +kernel
theorem d29_15 : decode jdk_52_method_48_code 15 = .ok (.iload_n 1, 1) := by decide +kernel
theorem d29_16 : decode jdk_52_method_48_code 16 = .ok (.if_icmp .ne 6, 3) := by decide +kernel
theorem d29_19 : decode jdk_52_method_48_code 19 = .ok (.iload 4, 2) := by decide +kernel
theorem d29_21 : decode jdk_52_method_48_code 21 = .ok (.ireturn, 1) := by decide +kernel
theorem d29_22 : decode jdk_52_method_48_code 22 = .ok (.iinc 4 1, 3) := by decide +kernel
theorem d29_25 : decode jdk_52_method_48_code 25 = .ok (.goto (-22), 3) := by decide +kernel
theorem d29_28 : decode jdk_52_method_48_code 28 = .ok (.iconst (-1), 1) := by decide +kernel
theorem d29_29 : decode jdk_52_method_48_code 29 = .ok (.ireturn, 1) := by decide +kernel
theorem ef_rmIu (m : MethodId) (a1 : Addr) (N : Int32) : entryFrame m #[(.ref a1), (.int 65533), (.int 0), (.int N)] 5 = mkF m 0 #[.val (.ref a1), .val (.int 65533), .val (.int 0), .val (.int N), .unset] [] := by first | (simp [entryFrame, mkF, argsToLocals, Value.category]; done) | rfl
def Q_rmIu (Z : State) (a1 : Addr) (N : Int32) (kb : ClassId) (nb : Int32) (g : Nat → Int32) (f : Nat → Int32) (nn : Nat) (h0 : Heap) (n0 : Nat) (rv : Option Value) (hq : Heap) (Lq : List Loc) : Prop := ∃ r : Int32, rv = some (.int r) ∧ Fr n0 Lq ∧ hq = h0 ∧ own_if f nn r
theorem rmIu (l : Launch) (Z : State) (a0 : Array Value) (hw : HW Z a0) (ws : List Jvm.Cond) (a1 : Addr) (N : Int32) (kb : ClassId) (nb : Int32) (g : Nat → Int32) (f : Nat → Int32) (nn : Nat) (h0 : Heap) (n0 : Nat) (Z0 : n0 ≤ h0.size) (V_a1 : Arv Z h0 a1 kb .byte nb (own_tb g) (.int 0)) (O0 : Old Z n0 h0) (hUS : own_US Z) (hnb : Ix nb (2 * nn)) (hN : Ix N nn) (hnn : nn ≤ 20) (hrg : own_rg f nn) (hl : own_ti f g nn) :
  MF l (⟨"java/lang/StringUTF16", "indexOfCharUnsafe", "([BIII)I"⟩ : MethodName) jdk_52_method_48_code 5 (some .int) ws (rO 1 0 0 13) #[(.ref a1), (.int 65533), (.int 0), (.int N)] Z h0 (Q_rmIu Z a1 N kb nb g f nn h0 n0) := by
 refine own_met "java/lang/StringUTF16" rfl (plainFor_of_name pn_14) (fun m => ef_rmIu m a1 N) ?_
 intro p e s m below meth c s₁ Bd hx hby hml hown hnm hZ X0 e0
 have N0 := Fr.nil n0
 refine g_iloadN X0 hx 1 (hb hby d29_0) rfl rfl ?_
 refine g_istore X0 hx 3 (hb hby d29_1) rfl (l' := #[.val (.ref a1), .val (.int 65533), .val (.int 0), .val (.int N), .val (.int 0)]) rfl ?_
 have J1 : ∀ (km1 : Nat) (i : Int32) (k : Nat) (hi : Ix i k) (hkn : k ≤ nn) (hd : ∀ j, j < k → ¬ f j = (65533 : Int32)) (hm1 : nn - k = km1) (Tj1 : State) (Lj1 : List Loc) (Xj1 : Stand p l e (rO 1 0 0 13) s m #[(.ref a1), (.int 65533), (.int 0), (.int N)] below meth c Tj1 Lj1 0 0) (ej1 : Tj1.heap = h0) (Nj1 : Fr n0 Lj1), Go p e below (Fin1 s below (Q_rmIu Z a1 N kb nb g f nn h0 n0) (rO 1 0 0 13).cells (rO 1 0 0 13).slots) Tj1 (mkF m 3 #[.val (.ref a1), .val (.int 65533), .val (.int 0), .val (.int N), .val (.int i)] []) := by
  intro km1
  induction km1 using Nat.strongRecOn with
  | ind km1 ih1 =>
   intro i k hi hkn hd hm1 Tj1 Lj1 Xj1 ej1 Nj1
   refine g_iload Xj1 hx 5 (hb hby d29_3) rfl rfl ?_
   refine g_iloadN Xj1 hx 6 (hb hby d29_5) rfl rfl ?_
   by_cases hc6 : i < N
   ·refine g_icmpNo Xj1 hx 9 (hb hby d29_6) rfl (tlt hc6).2.1 ?_
    have hlt := (own_ixlt hi hN).mp hc6
    refine g_aloadN Xj1 hx 10 (hb hby d29_9) rfl rfl rfl ?_
    refine g_iload Xj1 hx 12 (hb hby d29_10) rfl rfl ?_
    obtain ⟨_, _, ⟨T2, L2, kk2, nn2⟩, -, X2, ⟨Lc2, hQ2, lq2, yq2, zq2⟩, st2⟩ := Jvm.LawKit.callS Xj1 hx (y := y100) hown (mvT hZ (tw hw 89 rfl)) (mvT hZ (tw hw 90 rfl)) (mvT hZ (tw hw 68 rfl)) (mvT hZ (tw hw 91 rfl)) (by decide) (backOf (W := 0) (rmGc l Z a0 hw [] a1 i kb nb g (2 * nn) k (f k) h0 n0 Z0 V_a1 O0 hUS hnb (by omega) hi (by omega) (hl k hlt).1 (hl k hlt).2 (hrg k hlt)) hZ (tw hw 91 rfl) (tw hw 68 rfl) (by decide) (by decide)) (g := (mkF m 12 #[.val (.ref a1), .val (.int 65533), .val (.int 0), .val (.int N), .val (.int i)] [(.int i), (.ref a1)])) rfl (by rw [hml]; rfl) (argsL := [(.ref a1), (.int i)]) (rest := []) (lenOf pd_5 rfl) rfl (by show 2 * 0 + _ ≤ _; exact Nat.le_of_eq rfl) (hb hby d29_12) (fun _ _ => ⟨rfl, ej1, (by decide : 0 + 0 ≤ _), (by decide : 0 + 0 ≤ _)⟩)
    dsimp only [Pt.U, Pt.locs, Pt.cells, Pt.slots] at X2 lq2 yq2 zq2 st2 hQ2
    subst yq2 zq2
    obtain ⟨rfl, Nq2, eh2⟩ := hQ2
    have N2 : Fr n0 L2 := by rw [lq2]; exact Fr.app Nj1 Nq2
    refine gs m T2 15 #[.val (.ref a1), .val (.int 65533), .val (.int 0), .val (.int N), .val (.int i)] [(.int (f k))] st2 ?_
    refine g_iloadN X2 hx 16 (hb hby d29_15) rfl rfl ?_
    by_cases hc16 : (f k) = (65533 : Int32)
    ·refine g_icmpNo X2 hx 19 (hb hby d29_16) rfl (teq hc16).2 ?_
     refine g_iload X2 hx 21 (hb hby d29_19) rfl rfl ?_
     refine goI X2 hx Bd.returns Bd.notSynchronized (hb hby d29_21) ?_ (by decide) (by decide)
     show Q_rmIu Z a1 N kb nb g f nn h0 n0 _ T2.heap _
     rw [eh2]
     exact ⟨i, rfl, N2, rfl, (Or.inl ⟨own_ixnn hi, k, hlt, hc16⟩)⟩
    ·refine g_icmpYes X2 hx 22 (hb hby d29_16) (feq hc16).2 (by decide) (by decide) ?_
     refine gs m T2 25 #[.val (.ref a1), .val (.int 65533), .val (.int 0), .val (.int N), .val (.int (i + (1 : Int32)))] [] (fun _ kS => XS.iinc X2.here hx rfl (hb hby d29_22) rfl (l' := #[.val (.ref a1), .val (.int 65533), .val (.int 0), .val (.int N), .val (.int (i + (1 : Int32)))]) rfl kS) ?_
     refine g_goto X2 hx 3 (hb hby d29_25) (by decide) (by decide) ?_
     exact ih1 _ (by omega) (i + (1 : Int32)) (k + 1) (own_ixS hi (by omega)) hlt (fun j hj => (Nat.lt_or_eq_of_le (Nat.le_of_lt_succ hj)).elim (hd j) (fun z => z ▸ hc16)) rfl _ _ X2 eh2 N2
   ·refine g_icmpYes Xj1 hx 28 (hb hby d29_6) (flt hc6).2.1 (by decide) (by decide) ?_
    refine g_iconst Xj1 hx 29 (-1) (hb hby d29_28) rfl rfl ?_
    refine goI Xj1 hx Bd.returns Bd.notSynchronized (hb hby d29_29) ?_ (by decide) (by decide)
    show Q_rmIu Z a1 N kb nb g f nn h0 n0 _ Tj1.heap _
    rw [ej1]
    exact ⟨(-1 : Int32), rfl, Nj1, rfl, (Or.inr ⟨by decide, fun j hj => hd j (by have hh : ¬ k < nn := fun q => hc6 ((own_ixlt hi hN).mpr q); omega)⟩)⟩
 exact J1 _ (0 : Int32) 0 own_ix0 (Nat.zero_le _) (fun j hj => absurd hj (Nat.not_lt_zero j)) rfl _ _ X0 e0 N0
theorem d24_0 : decode jdk_52_method_47_code 0 = .ok (.iload_n 2, 1) := by decide +kernel
theorem d24_1 : decode jdk_52_method_47_code 1 = .ok (.iload_n 3, 1) := by decide +kernel
theorem d24_2 : decode jdk_52_method_47_code 2 = .ok (.aload_n 0, 1) := by decide +kernel
theorem d24_3 : decode jdk_52_method_47_code 3 = .ok (.invokestatic 96, 3) := by decide +kernel
theorem pd_13 : parseMethodDescriptor "(II[B)V" = some ⟨[.int, .int, (.array .byte)], none⟩ := by decide +kernel
theorem d24_6 : decode jdk_52_method_47_code 6 = .ok (.aload_n 0, 1) := by decide +kernel
theorem d24_7 : decode jdk_52_method_47_code 7 = .ok (.iload_n 1, 1) := by decide +kernel
theorem d24_8 : decode jdk_52_method_47_code 8 = .ok (.iload_n 2, 1) := by decide +kernel
theorem d24_9 : decode jdk_52_method_47_code 9 = .ok (.iload_n 3, 1) := by decide +kernel
theorem d24_10 : decode jdk_52_method_47_code 10 = .ok (.invokestatic 244, 3) := by decide +kernel
theorem pd_14 : parseMethodDescriptor "([BIII)I" = some ⟨[(.array .byte), .int, .int, .int], some .int⟩ := by decide +kernel
theorem d24_13 : decode jdk_52_method_47_code 13 = .ok (.ireturn, 1) := by decide +kernel
theorem ef_rmIc (m : MethodId) (a1 : Addr) (N : Int32) : entryFrame m #[(.ref a1), (.int 65533), (.int 0), (.int N)] 4 = mkF m 0 #[.val (.ref a1), .val (.int 65533), .val (.int 0), .val (.int N)] [] := by first | (simp [entryFrame, mkF, argsToLocals, Value.category]; done) | rfl
def Q_rmIc (Z : State) (a1 : Addr) (N : Int32) (fv : Value) (kb : ClassId) (nb : Int32) (g : Nat → Int32) (f : Nat → Int32) (nn : Nat) (h0 : Heap) (n0 : Nat) (rv : Option Value) (hq : Heap) (Lq : List Loc) : Prop := ∃ r : Int32, rv = some (.int r) ∧ Fr n0 Lq ∧ hq = h0 ∧ own_if f nn r
theorem rmIc (l : Launch) (Z : State) (a0 : Array Value) (hw : HW Z a0) (ws : List Jvm.Cond) (a1 : Addr) (N : Int32) (fv : Value) (kb : ClassId) (nb : Int32) (g : Nat → Int32) (f : Nat → Int32) (nn : Nat) (h0 : Heap) (n0 : Nat) (Z0 : n0 ≤ h0.size) (V_a1 : Arv Z h0 a1 kb .byte nb (own_tb g) (.int 0)) (O0 : Old Z n0 h0) (hUS : own_US Z) (S_SIOOBE_FORMATTER : Sta Z Z.heap "jdk/internal/util/Preconditions" "SIOOBE_FORMATTER" "Ljava/util/function/BiFunction;" fv) (hfv : fv.isRef = true) (hnb : Ix nb (2 * nn)) (hN : Ix N nn) (hnn : nn ≤ 20) (hrg : own_rg f nn) (hl : own_ti f g nn) :
  MF l (⟨"java/lang/StringUTF16", "indexOfChar", "([BIII)I"⟩ : MethodName) jdk_52_method_47_code 4 (some .int) ws (rO 3 0 0 43) #[(.ref a1), (.int 65533), (.int 0), (.int N)] Z h0 (Q_rmIc Z a1 N fv kb nb g f nn h0 n0) := by
 refine own_met "java/lang/StringUTF16" rfl (plainFor_of_name pn_14) (fun m => ef_rmIc m a1 N) ?_
 intro p e s m below meth c s₁ Bd hx hby hml hown hnm hZ X0 e0
 have N0 := Fr.nil n0
 refine g_iloadN X0 hx 1 (hb hby d24_0) rfl rfl ?_
 refine g_iloadN X0 hx 2 (hb hby d24_1) rfl rfl ?_
 refine g_aloadN X0 hx 3 (hb hby d24_2) rfl rfl rfl ?_
 obtain ⟨_, _, ⟨T1, L1, kk1, nn1⟩, -, X1, ⟨Lc1, hQ1, lq1, yq1, zq1⟩, st1⟩ := Jvm.LawKit.callS X0 hx (y := (⟨"java/lang/StringUTF16", "checkBoundsBeginEnd", "(II[B)V"⟩ : MethodName)) hown (mvT hZ (tw hw 109 rfl)) (mvT hZ (tw hw 110 rfl)) (mvT hZ (tw hw 68 rfl)) (mvT hZ (tw hw 111 rfl)) (by decide) (backOf (W := 0) (rmCu l Z a0 hw [] N a1 fv kb nb (own_tb g) nn h0 n0 Z0 V_a1 O0 S_SIOOBE_FORMATTER hfv hnb hN) hZ (tw hw 111 rfl) (tw hw 68 rfl) (by decide) (by decide)) (g := (mkF m 3 #[.val (.ref a1), .val (.int 65533), .val (.int 0), .val (.int N)] [(.ref a1), (.int N), (.int 0)])) rfl (by rw [hml]; rfl) (argsL := [(.int 0), (.int N), (.ref a1)]) (rest := []) (lenOf pd_13 rfl) rfl (by show 2 * 0 + _ ≤ _; exact Nat.le_of_eq rfl) (hb hby d24_3) (fun _ _ => ⟨rfl, e0, (by decide : 0 + 0 ≤ _), (by decide : 0 + 0 ≤ _)⟩)
 dsimp only [Pt.U, Pt.locs, Pt.cells, Pt.slots] at X1 lq1 yq1 zq1 st1 hQ1
 subst yq1 zq1
 obtain ⟨rfl, Nq1, eh1⟩ := hQ1
 have N1 : Fr n0 L1 := by rw [lq1]; exact Fr.app N0 Nq1
 refine gs m T1 6 #[.val (.ref a1), .val (.int 65533), .val (.int 0), .val (.int N)] [] st1 ?_
 refine g_aloadN X1 hx 7 (hb hby d24_6) rfl rfl rfl ?_
 refine g_iloadN X1 hx 8 (hb hby d24_7) rfl rfl ?_
 refine g_iloadN X1 hx 9 (hb hby d24_8) rfl rfl ?_
 refine g_iloadN X1 hx 10 (hb hby d24_9) rfl rfl ?_
 obtain ⟨_, _, ⟨T2, L2, kk2, nn2⟩, -, X2, ⟨Lc2, hQ2, lq2, yq2, zq2⟩, st2⟩ := Jvm.LawKit.callS X1 hx (y := (⟨"java/lang/StringUTF16", "indexOfCharUnsafe", "([BIII)I"⟩ : MethodName)) hown (mvT hZ (tw hw 123 rfl)) (mvT hZ (tw hw 124 rfl)) (mvT hZ (tw hw 68 rfl)) (mvT hZ (tw hw 125 rfl)) (by decide) (backOf (W := 0) (rmIu l Z a0 hw [] a1 N kb nb g f nn h0 n0 Z0 V_a1 O0 hUS hnb hN hnn hrg hl) hZ (tw hw 125 rfl) (tw hw 68 rfl) (by decide) (by decide)) (g := (mkF m 10 #[.val (.ref a1), .val (.int 65533), .val (.int 0), .val (.int N)] [(.int N), (.int 0), (.int 65533), (.ref a1)])) rfl (by rw [hml]; rfl) (argsL := [(.ref a1), (.int 65533), (.int 0), (.int N)]) (rest := []) (lenOf pd_14 rfl) rfl (by show 2 * 0 + _ ≤ _; exact Nat.le_of_eq rfl) (hb hby d24_10) (fun _ _ => ⟨rfl, eh1, (by decide : 0 + 0 ≤ _), (by decide : 0 + 0 ≤ _)⟩)
 dsimp only [Pt.U, Pt.locs, Pt.cells, Pt.slots] at X2 lq2 yq2 zq2 st2 hQ2
 subst yq2 zq2
 obtain ⟨r_2, rfl, Nq2, eh2, r2_0⟩ := hQ2
 have N2 : Fr n0 L2 := by rw [lq2]; exact Fr.app N1 Nq2
 refine gs m T2 13 #[.val (.ref a1), .val (.int 65533), .val (.int 0), .val (.int N)] [(.int r_2)] st2 ?_
 refine goI X2 hx Bd.returns Bd.notSynchronized (hb hby d24_13) ?_ (by decide) (by decide)
 show Q_rmIc Z a1 N fv kb nb g f nn h0 n0 _ T2.heap _
 rw [eh2]
 exact ⟨r_2, rfl, N2, rfl, r2_0⟩
theorem d21_0 : decode jdk_52_method_40_code 0 = .ok (.iload_n 2, 1) := by decide +kernel
theorem d21_1 : decode jdk_52_method_40_code 1 = .ok (.iconst 0, 1) := by decide +kernel
theorem d21_2 : decode jdk_52_method_40_code 2 = .ok (.invokestatic 224, 3) := by decide +kernel
theorem pd_15 : parseMethodDescriptor "(II)I" = some ⟨[.int, .int], some .int⟩ := by decide +kernel
theorem d21_5 : decode jdk_52_method_40_code 5 = .ok (.istore_n 2, 1) := by decide +kernel
theorem d21_6 : decode jdk_52_method_40_code 6 = .ok (.iload_n 3, 1) := by decide +kernel
theorem d21_7 : decode jdk_52_method_40_code 7 = .ok (.aload_n 0, 1) := by decide +kernel
theorem d21_8 : decode jdk_52_method_40_code 8 = .ok (.arraylength, 1) := by decide +kernel
theorem d21_9 : decode jdk_52_method_40_code 9 = .ok (.iconst 1, 1) := by decide +kernel
theorem d21_10 : decode jdk_52_method_40_code 10 = .ok (.ishr, 1) := by decide +kernel
theorem d21_11 : decode jdk_52_method_40_code 11 = .ok (.invokestatic 183, 3) := by decide +kernel
theorem d21_14 : decode jdk_52_method_40_code 14 = .ok (.istore_n 3, 1) := by decide +kernel
theorem d21_15 : decode jdk_52_method_40_code 15 = .ok (.iload_n 2, 1) := by decide +kernel
theorem d21_16 : decode jdk_52_method_40_code 16 = .ok (.iload_n 3, 1) := by decide +kernel
theorem d21_17 : decode jdk_52_method_40_code 17 = .ok (.if_icmp .lt 5, 3) := by decide +kernel
theorem d21_22 : decode jdk_52_method_40_code 22 = .ok (.iload_n 1, 1) := by decide +kernel
theorem d21_23 : decode jdk_52_method_40_code 23 = .ok (.ldc 227, 2) := by decide +kernel
theorem d21_25 : decode jdk_52_method_40_code 25 = .ok (.if_icmp .ge 11, 3) := by decide +kernel
theorem d21_28 : decode jdk_52_method_40_code 28 = .ok (.aload_n 0, 1) := by decide +kernel
theorem d21_29 : decode jdk_52_method_40_code 29 = .ok (.iload_n 1, 1) := by decide +kernel
theorem d21_30 : decode jdk_52_method_40_code 30 = .ok (.iload_n 2, 1) := by decide +kernel
theorem d21_31 : decode jdk_52_method_40_code 31 = .ok (.iload_n 3, 1) := by decide +kernel
theorem d21_32 : decode jdk_52_method_40_code 32 = .ok (.invokestatic 228, 3) := by decide +kernel
theorem d21_35 : decode jdk_52_method_40_code 35 = .ok (.ireturn, 1) := by decide +kernel
def Q_rmIx (Z : State) (a1 : Addr) (N : Int32) (fv : Value) (kb : ClassId) (nb : Int32) (g : Nat → Int32) (f : Nat → Int32) (nn : Nat) (h0 : Heap) (n0 : Nat) (rv : Option Value) (hq : Heap) (Lq : List Loc) : Prop := ∃ r : Int32, rv = some (.int r) ∧ Fr n0 Lq ∧ hq = h0 ∧ own_if f nn r
theorem rmIx (l : Launch) (Z : State) (a0 : Array Value) (hw : HW Z a0) (ws : List Jvm.Cond) (a1 : Addr) (N : Int32) (fv : Value) (kb : ClassId) (nb : Int32) (g : Nat → Int32) (f : Nat → Int32) (nn : Nat) (h0 : Heap) (n0 : Nat) (Z0 : n0 ≤ h0.size) (V_a1 : Arv Z h0 a1 kb .byte nb (own_tb g) (.int 0)) (O0 : Old Z n0 h0) (hUS : own_US Z) (S_SIOOBE_FORMATTER : Sta Z Z.heap "jdk/internal/util/Preconditions" "SIOOBE_FORMATTER" "Ljava/util/function/BiFunction;" fv) (hfv : fv.isRef = true) (hnb : Ix nb (2 * nn)) (hN : Ix N nn) (hnn : nn ≤ 20) (hrg : own_rg f nn) (hl : own_ti f g nn) (hn0 : 0 < nn) :
  MF l (⟨"java/lang/StringUTF16", "indexOf", "([BIII)I"⟩ : MethodName) jdk_52_method_40_code 4 (some .int) ws (rO 4 0 0 58) #[(.ref a1), (.int 65533), (.int 0), (.int N)] Z h0 (Q_rmIx Z a1 N fv kb nb g f nn h0 n0) := by
 refine own_met "java/lang/StringUTF16" rfl (plainFor_of_name pn_14) (fun m => ef_rmIc m a1 N) ?_
 intro p e s m below meth c s₁ Bd hx hby hml hown hnm hZ X0 e0
 have N0 := Fr.nil n0
 refine g_iloadN X0 hx 1 (hb hby d21_0) rfl rfl ?_
 refine g_iconst X0 hx 2 0 (hb hby d21_1) rfl rfl ?_
 obtain ⟨_, _, ⟨T1, L1, kk1, nn1⟩, -, X1, ⟨Lc1, hQ1, lq1, yq1, zq1⟩, st1⟩ := Jvm.LawKit.callS X0 hx (y := (⟨"java/lang/Math", "max", "(II)I"⟩ : MethodName)) hown (mvT hZ (tw hw 98 rfl)) (mvT hZ (tw hw 99 rfl)) (mvT hZ (tw hw 100 rfl)) (mvT hZ (tw hw 101 rfl)) (by decide) (backOf (W := 0) (rmMx l Z a0 hw []  h0 n0 Z0 ) hZ (tw hw 101 rfl) (tw hw 100 rfl) (by decide) (by decide)) (g := (mkF m 2 #[.val (.ref a1), .val (.int 65533), .val (.int 0), .val (.int N)] [(.int 0), (.int 0)])) rfl (by rw [hml]; rfl) (argsL := [(.int 0), (.int 0)]) (rest := []) (lenOf pd_15 rfl) rfl (by show 2 * 0 + _ ≤ _; exact Nat.le_of_eq rfl) (hb hby d21_2) (fun _ _ => ⟨rfl, e0, (by decide : 0 + 0 ≤ _), (by decide : 0 + 0 ≤ _)⟩)
 dsimp only [Pt.U, Pt.locs, Pt.cells, Pt.slots] at X1 lq1 yq1 zq1 st1 hQ1
 subst yq1 zq1
 obtain ⟨rfl, Nq1, eh1⟩ := hQ1
 have N1 : Fr n0 L1 := by rw [lq1]; exact Fr.app N0 Nq1
 refine gs m T1 5 #[.val (.ref a1), .val (.int 65533), .val (.int 0), .val (.int N)] [(.int 0)] st1 ?_
 refine g_istoreN X1 hx 6 (hb hby d21_5) rfl (l' := #[.val (.ref a1), .val (.int 65533), .val (.int 0), .val (.int N)]) rfl ?_
 refine g_iloadN X1 hx 7 (hb hby d21_6) rfl rfl ?_
 refine g_aloadN X1 hx 8 (hb hby d21_7) rfl rfl rfl ?_
 obtain ⟨cl2, Ar2, qc2, Sz2, Nn2, Hs2, Gf2⟩ := id V_a1
 have hlen2 := X1.arraylength hx (by rw [eh1]; exact Ar2.1) (State.isArrayOf_alike hZ.alike Ar2.2.1) (g := (mkF m 8 #[.val (.ref a1), .val (.int 65533), .val (.int 0), .val (.int N)] [(.ref a1), (.int N)])) rfl rfl (hb hby d21_8)
 rw [len_of Sz2 Nn2] at hlen2
 refine gs m T1 9 #[.val (.ref a1), .val (.int 65533), .val (.int 0), .val (.int N)] [(.int nb), (.int N)] (fun _ kS => hlen2 _ kS) ?_
 refine g_iconst X1 hx 10 1 (hb hby d21_9) rfl rfl ?_
 refine gs m T1 11 #[.val (.ref a1), .val (.int 65533), .val (.int 0), .val (.int N)] [(.int (nb >>> ((1 : Int32) &&& 31))), (.int N)] (fun _ kS => XS.ishr X1.here hx rfl (hb hby d21_10) rfl kS) ?_
 rw [(own_ixH hnb hN)]
 obtain ⟨_, _, ⟨T3, L3, kk3, nn3⟩, -, X3, ⟨Lc3, hQ3, lq3, yq3, zq3⟩, st3⟩ := Jvm.LawKit.callS X1 hx (y := (⟨"java/lang/Math", "min", "(II)I"⟩ : MethodName)) hown (mvT hZ (tw hw 102 rfl)) (mvT hZ (tw hw 103 rfl)) (mvT hZ (tw hw 100 rfl)) (mvT hZ (tw hw 104 rfl)) (by decide) (backOf (W := 0) (rmMn l Z a0 hw [] N h0 n0 Z0 ) hZ (tw hw 104 rfl) (tw hw 100 rfl) (by decide) (by decide)) (g := (mkF m 11 #[.val (.ref a1), .val (.int 65533), .val (.int 0), .val (.int N)] [(.int N), (.int N)])) rfl (by rw [hml]; rfl) (argsL := [(.int N), (.int N)]) (rest := []) (lenOf pd_15 rfl) rfl (by show 2 * 0 + _ ≤ _; exact Nat.le_of_eq rfl) (hb hby d21_11) (fun _ _ => ⟨rfl, eh1, (by decide : 0 + 0 ≤ _), (by decide : 0 + 0 ≤ _)⟩)
 dsimp only [Pt.U, Pt.locs, Pt.cells, Pt.slots] at X3 lq3 yq3 zq3 st3 hQ3
 subst yq3 zq3
 obtain ⟨rfl, Nq3, eh3⟩ := hQ3
 have N3 : Fr n0 L3 := by rw [lq3]; exact Fr.app N1 Nq3
 refine gs m T3 14 #[.val (.ref a1), .val (.int 65533), .val (.int 0), .val (.int N)] [(.int N)] st3 ?_
 refine g_istoreN X3 hx 15 (hb hby d21_14) rfl (l' := #[.val (.ref a1), .val (.int 65533), .val (.int 0), .val (.int N)]) rfl ?_
 refine g_iloadN X3 hx 16 (hb hby d21_15) rfl rfl ?_
 refine g_iloadN X3 hx 17 (hb hby d21_16) rfl rfl ?_
 refine g_icmpYes X3 hx 22 (hb hby d21_17) (tlt ((own_ixlt own_ix0 hN).mpr hn0)).1 (by decide) (by decide) ?_
 refine g_iloadN X3 hx 23 (hb hby d21_22) rfl rfl ?_
 refine gs m T3 25 #[.val (.ref a1), .val (.int 65533), .val (.int 0), .val (.int N)] [(.int 65536), (.int 65533)] (fun _ kS => X3.ldcInt hx hown (mvT hZ (tw hw 105 rfl)) (g := (mkF m 23 #[.val (.ref a1), .val (.int 65533), .val (.int 0), .val (.int N)] [(.int 65533)])) rfl (hb hby d21_23) _ kS) ?_
 refine g_icmpNo X3 hx 28 (hb hby d21_25) rfl (tlt (by decide : (65533 : Int32) < (65536 : Int32))).2.1 ?_
 refine g_aloadN X3 hx 29 (hb hby d21_28) rfl rfl rfl ?_
 refine g_iloadN X3 hx 30 (hb hby d21_29) rfl rfl ?_
 refine g_iloadN X3 hx 31 (hb hby d21_30) rfl rfl ?_
 refine g_iloadN X3 hx 32 (hb hby d21_31) rfl rfl ?_
 obtain ⟨_, _, ⟨T4, L4, kk4, nn4⟩, -, X4, ⟨Lc4, hQ4, lq4, yq4, zq4⟩, st4⟩ := Jvm.LawKit.callS X3 hx (y := (⟨"java/lang/StringUTF16", "indexOfChar", "([BIII)I"⟩ : MethodName)) hown (mvT hZ (tw hw 106 rfl)) (mvT hZ (tw hw 107 rfl)) (mvT hZ (tw hw 68 rfl)) (mvT hZ (tw hw 108 rfl)) (by decide) (backOf (W := 0) (rmIc l Z a0 hw [] a1 N fv kb nb g f nn h0 n0 Z0 V_a1 O0 hUS S_SIOOBE_FORMATTER hfv hnb hN hnn hrg hl) hZ (tw hw 108 rfl) (tw hw 68 rfl) (by decide) (by decide)) (g := (mkF m 32 #[.val (.ref a1), .val (.int 65533), .val (.int 0), .val (.int N)] [(.int N), (.int 0), (.int 65533), (.ref a1)])) rfl (by rw [hml]; rfl) (argsL := [(.ref a1), (.int 65533), (.int 0), (.int N)]) (rest := []) (lenOf pd_14 rfl) rfl (by show 2 * 0 + _ ≤ _; exact Nat.le_of_eq rfl) (hb hby d21_32) (fun _ _ => ⟨rfl, eh3, (by decide : 0 + 0 ≤ _), (by decide : 0 + 0 ≤ _)⟩)
 dsimp only [Pt.U, Pt.locs, Pt.cells, Pt.slots] at X4 lq4 yq4 zq4 st4 hQ4
 subst yq4 zq4
 obtain ⟨r_4, rfl, Nq4, eh4, r4_0⟩ := hQ4
 have N4 : Fr n0 L4 := by rw [lq4]; exact Fr.app N3 Nq4
 refine gs m T4 35 #[.val (.ref a1), .val (.int 65533), .val (.int 0), .val (.int N)] [(.int r_4)] st4 ?_
 refine goI X4 hx Bd.returns Bd.notSynchronized (hb hby d21_35) ?_ (by decide) (by decide)
 show Q_rmIx Z a1 N fv kb nb g f nn h0 n0 _ T4.heap _
 rw [eh4]
 exact ⟨r_4, rfl, N4, rfl, r4_0⟩
theorem d7_0 : decode jdk_42_method_80_code 0 = .ok (.aload_n 0, 1) := by decide +kernel
theorem d7_1 : decode jdk_42_method_80_code 1 = .ok (.invokevirtual 492, 3) := by decide +kernel
theorem pd_16 : parseMethodDescriptor "()Z" = some ⟨[], some .boolean⟩ := by decide +kernel
theorem d7_4 : decode jdk_42_method_80_code 4 = .ok (.ifCond .eq 19, 3) := by decide +kernel
theorem d7_7 : decode jdk_42_method_80_code 7 = .ok (.aload_n 0, 1) := by decide +kernel
theorem d7_8 : decode jdk_42_method_80_code 8 = .ok (.getfield 9, 3) := by decide +kernel
theorem d7_11 : decode jdk_42_method_80_code 11 = .ok (.iload_n 1, 1) := by decide +kernel
theorem d7_12 : decode jdk_42_method_80_code 12 = .ok (.iload_n 2, 1) := by decide +kernel
theorem d7_13 : decode jdk_42_method_80_code 13 = .ok (.aload_n 0, 1) := by decide +kernel
theorem d7_14 : decode jdk_42_method_80_code 14 = .ok (.invokevirtual 505, 3) := by decide +kernel
theorem pd_17 : parseMethodDescriptor "()I" = some ⟨[], some .int⟩ := by decide +kernel
theorem d7_17 : decode jdk_42_method_80_code 17 = .ok (.invokestatic 637, 3) := by decide +kernel
theorem d7_20 : decode jdk_42_method_80_code 20 = .ok (.goto 16, 3) := by decide +kernel
theorem d7_36 : decode jdk_42_method_80_code 36 = .ok (.ireturn, 1) := by decide +kernel
theorem d7_23 : decode jdk_42_method_80_code 23 = .ok (.aload_n 0, 1) := by decide +kernel
theorem d7_24 : decode jdk_42_method_80_code 24 = .ok (.getfield 9, 3) := by decide +kernel
theorem d7_27 : decode jdk_42_method_80_code 27 = .ok (.iload_n 1, 1) := by decide +kernel
theorem d7_28 : decode jdk_42_method_80_code 28 = .ok (.iload_n 2, 1) := by decide +kernel
theorem d7_29 : decode jdk_42_method_80_code 29 = .ok (.aload_n 0, 1) := by decide +kernel
theorem d7_30 : decode jdk_42_method_80_code 30 = .ok (.invokevirtual 505, 3) := by decide +kernel
theorem d7_33 : decode jdk_42_method_80_code 33 = .ok (.invokestatic 640, 3) := by decide +kernel
theorem ef_rmIy (m : MethodId) (a1 : Addr) : entryFrame m #[(.ref a1), (.int 65533), (.int 0)] 3 = mkF m 0 #[.val (.ref a1), .val (.int 65533), .val (.int 0)] [] := by first | (simp [entryFrame, mkF, argsToLocals, Value.category]; done) | rfl
def Q_rmIy (Z : State) (a1 : Addr) (cs : Int32) (fv : Value) (v : Addr) (kb : ClassId) (nb : Int32) (g : Nat → Int32) (co : Int32) (f : Nat → Int32) (nn : Nat) (N : Int32) (h0 : Heap) (n0 : Nat) (rv : Option Value) (hq : Heap) (Lq : List Loc) : Prop := ∃ r : Int32, rv = some (.int r) ∧ Fr n0 Lq ∧ hq = h0 ∧ own_if f nn r
theorem rmIy (l : Launch) (Z : State) (a0 : Array Value) (hw : HW Z a0) (ws : List Jvm.Cond) (a1 : Addr) (cs : Int32) (fv : Value) (v : Addr) (kb : ClassId) (nb : Int32) (g : Nat → Int32) (co : Int32) (f : Nat → Int32) (nn : Nat) (N : Int32) (h0 : Heap) (n0 : Nat) (Z0 : n0 ≤ h0.size) (E_a1 : Exa Z h0 a1 "java/lang/String") (F_value_a1 : Fld Z h0 a1 "java/lang/String" "value" "[B" (.ref v)) (F_coder_a1 : Fld Z h0 a1 "java/lang/String" "coder" "B" (.int co)) (V_v : Arv Z h0 v kb .byte nb (own_tb g) (.int 0)) (O0 : Old Z n0 h0) (S_COMPACT_STRINGS : Sta Z Z.heap "java/lang/String" "COMPACT_STRINGS" "Z" (.int cs)) (hcs : ¬ cs = (0 : Int32)) (hUS : own_US Z) (S_SIOOBE_FORMATTER : Sta Z Z.heap "jdk/internal/util/Preconditions" "SIOOBE_FORMATTER" "Ljava/util/function/BiFunction;" fv) (hfv : fv.isRef = true) (hst : own_st f nn nb g co) (hN : Ix N nn) (hnn : nn ≤ 20) (hrg : own_rg f nn) :
  MF l y107 jdk_42_method_80_code 3 (some .int) ws (rO 5 0 0 73) #[(.ref a1), (.int 65533), (.int 0)] Z h0 (Q_rmIy Z a1 cs fv v kb nb g co f nn N h0 n0) := by
 refine own_met "java/lang/String" rfl (plainFor_of_name pn_3) (fun m => ef_rmIy m a1) ?_
 intro p e s m below meth c s₁ Bd hx hby hml hown hnm hZ X0 e0
 have N0 := Fr.nil n0
 have FC := F_coder_a1
 rcases id hst with ⟨hco, hnb, hl⟩ | ⟨hco, hn0, hnb, hl⟩
 ·rw [hco] at F_coder_a1
  refine g_aloadN X0 hx 1 (hb hby d7_0) rfl rfl rfl ?_
  obtain ⟨cq1, kq1, q1a, q1b, q1c⟩ := isOf hZ e0 E_a1
  obtain ⟨_, _, ⟨T1, L1, kk1, nn1⟩, -, X1, ⟨Lc1, hQ1, lq1, yq1, zq1⟩, st1⟩ := X0.virtualBack hx (y := y105) (z := y105) hown (mvT hZ (tw hw 43 rfl)) (mvT hZ (tw hw 44 rfl)) (notFace_of_selects (args := #[]) (mvT hZ (tw hw 46 rfl))) (mvT hZ (tw hw 46 rfl)) (mvT hZ (tw hw 45 rfl)) (by decide) (backOf (W := 0) (rmIl0 l Z a0 hw [] a1 cs h0 n0 Z0 F_coder_a1 O0 S_COMPACT_STRINGS hcs) hZ (tw hw 47 rfl) (tw hw 9 rfl) (by decide) (by decide)) q1a q1c (g := (mkF m 1 #[.val (.ref a1), .val (.int 65533), .val (.int 0)] [(.ref a1)])) rfl (by rw [hml]; rfl) (Steps.refl _) (argsL := []) (rest := []) (lenOf pd_16 rfl) rfl (by show 2 * 0 + _ ≤ _; exact Nat.le_of_eq rfl) (hb hby d7_1) (fun _ _ => ⟨rfl, e0, (by decide : 0 + 0 ≤ _), (by decide : 0 + 0 ≤ _)⟩)
  dsimp only [Pt.U, Pt.locs, Pt.cells, Pt.slots] at X1 lq1 yq1 zq1 st1 hQ1
  subst yq1 zq1
  obtain ⟨rfl, Nq1, eh1⟩ := hQ1
  have N1 : Fr n0 L1 := by rw [lq1]; exact Fr.app N0 Nq1
  refine gs m T1 4 #[.val (.ref a1), .val (.int 65533), .val (.int 0)] [(.int 1)] (fun _ k => st1.trans k) ?_
  refine g_ifNo X1 hx 7 (hb hby d7_4) rfl ((if0 _ _).trans (feq (by decide : ¬ ((1 : Int32) = (0 : Int32)))).1) ?_
  refine g_aloadN X1 hx 8 (hb hby d7_7) rfl rfl rfl ?_
  obtain ⟨T2, X2, e2, st2⟩ := getF X1 hx hZ hown (host := "") (Or.inl (tw hw 26 rfl)) Via.refl eh1 F_value_a1 (g := (mkF m 8 #[.val (.ref a1), .val (.int 65533), .val (.int 0)] [(.ref a1)])) rfl rfl (hb hby d7_8)
  refine gs m T2 11 #[.val (.ref a1), .val (.int 65533), .val (.int 0)] [(.ref v)] st2 ?_
  refine g_iloadN X2 hx 12 (hb hby d7_11) rfl rfl ?_
  refine g_iloadN X2 hx 13 (hb hby d7_12) rfl rfl ?_
  refine g_aloadN X2 hx 14 (hb hby d7_13) rfl rfl rfl ?_
  obtain ⟨cq3, kq3, q3a, q3b, q3c⟩ := isOf hZ e2 E_a1
  obtain ⟨_, _, ⟨T3, L3, kk3, nn3⟩, -, X3, ⟨Lc3, hQ3, lq3, yq3, zq3⟩, st3⟩ := X2.virtualBack hx (y := y104) (z := y104) hown (mvT hZ (tw hw 49 rfl)) (mvT hZ (tw hw 50 rfl)) (notFace_of_selects (args := #[]) (mvT hZ (tw hw 52 rfl))) (mvT hZ (tw hw 52 rfl)) (mvT hZ (tw hw 51 rfl)) (by decide) (backOf (W := 3) (rmLn l Z a0 hw [] a1 cs v kb nb g co f nn N h0 n0 Z0 E_a1 F_value_a1 FC V_v O0 S_COMPACT_STRINGS hcs hst hN hnn) hZ (tw hw 53 rfl) (tw hw 9 rfl) (by decide) (by decide)) q3a q3c (g := (mkF m 14 #[.val (.ref a1), .val (.int 65533), .val (.int 0)] [(.ref a1), (.int 0), (.int 65533), (.ref v)])) rfl (by rw [hml]; rfl) (Steps.refl _) (argsL := []) (rest := [(.int 0), (.int 65533), (.ref v)]) (lenOf pd_17 rfl) rfl (by show 2 * 0 + _ ≤ _; exact Nat.le_of_eq rfl) (hb hby d7_14) (fun _ _ => ⟨rfl, e2, (by decide : 0 + 0 ≤ _), (by decide : 0 + 0 ≤ _)⟩)
  dsimp only [Pt.U, Pt.locs, Pt.cells, Pt.slots] at X3 lq3 yq3 zq3 st3 hQ3
  subst yq3 zq3
  obtain ⟨rfl, Nq3, eh3⟩ := hQ3
  have N3 : Fr n0 L3 := by rw [lq3]; exact Fr.app N1 Nq3
  refine gs m T3 17 #[.val (.ref a1), .val (.int 65533), .val (.int 0)] [(.int N), (.int 0), (.int 65533), (.ref v)] (fun _ k => st3.trans k) ?_
  obtain ⟨_, _, ⟨T4, L4, kk4, nn4⟩, -, X4, ⟨Lc4, hQ4, lq4, yq4, zq4⟩, st4⟩ := Jvm.LawKit.callS X3 hx (y := (⟨"java/lang/StringLatin1", "indexOf", "([BIII)I"⟩ : MethodName)) hown (mvT hZ (tw hw 59 rfl)) (mvT hZ (tw hw 60 rfl)) (mvT hZ (tw hw 61 rfl)) (mvT hZ (tw hw 62 rfl)) (by decide) (backOf (W := 0) (rmLx l Z a0 hw [] v N h0 n0 Z0 ) hZ (tw hw 62 rfl) (tw hw 61 rfl) (by decide) (by decide)) (g := (mkF m 17 #[.val (.ref a1), .val (.int 65533), .val (.int 0)] [(.int N), (.int 0), (.int 65533), (.ref v)])) rfl (by rw [hml]; rfl) (argsL := [(.ref v), (.int 65533), (.int 0), (.int N)]) (rest := []) (lenOf pd_14 rfl) rfl (by show 2 * 0 + _ ≤ _; exact Nat.le_of_eq rfl) (hb hby d7_17) (fun _ _ => ⟨rfl, eh3, (by decide : 0 + 0 ≤ _), (by decide : 0 + 0 ≤ _)⟩)
  dsimp only [Pt.U, Pt.locs, Pt.cells, Pt.slots] at X4 lq4 yq4 zq4 st4 hQ4
  subst yq4 zq4
  obtain ⟨rfl, Nq4, eh4⟩ := hQ4
  have N4 : Fr n0 L4 := by rw [lq4]; exact Fr.app N3 Nq4
  refine gs m T4 20 #[.val (.ref a1), .val (.int 65533), .val (.int 0)] [(.int (-1))] st4 ?_
  refine g_goto X4 hx 36 (hb hby d7_20) (by decide) (by decide) ?_
  refine goI X4 hx Bd.returns Bd.notSynchronized (hb hby d7_36) ?_ (by decide) (by decide)
  show Q_rmIy Z a1 cs fv v kb nb g co f nn N h0 n0 _ T4.heap _
  rw [eh4]
  exact ⟨(-1 : Int32), rfl, N4, rfl, (Or.inr ⟨by decide, fun j hj q => (hl j hj).1 (by rw [q]; decide)⟩)⟩
 ·rw [hco] at F_coder_a1
  refine g_aloadN X0 hx 1 (hb hby d7_0) rfl rfl rfl ?_
  obtain ⟨cq5, kq5, q5a, q5b, q5c⟩ := isOf hZ e0 E_a1
  obtain ⟨_, _, ⟨T5, L5, kk5, nn5⟩, -, X5, ⟨Lc5, hQ5, lq5, yq5, zq5⟩, st5⟩ := X0.virtualBack hx (y := y105) (z := y105) hown (mvT hZ (tw hw 43 rfl)) (mvT hZ (tw hw 44 rfl)) (notFace_of_selects (args := #[]) (mvT hZ (tw hw 46 rfl))) (mvT hZ (tw hw 46 rfl)) (mvT hZ (tw hw 45 rfl)) (by decide) (backOf (W := 0) (rmIl1 l Z a0 hw [] a1 cs h0 n0 Z0 F_coder_a1 O0 S_COMPACT_STRINGS hcs) hZ (tw hw 47 rfl) (tw hw 9 rfl) (by decide) (by decide)) q5a q5c (g := (mkF m 1 #[.val (.ref a1), .val (.int 65533), .val (.int 0)] [(.ref a1)])) rfl (by rw [hml]; rfl) (Steps.refl _) (argsL := []) (rest := []) (lenOf pd_16 rfl) rfl (by show 2 * 0 + _ ≤ _; exact Nat.le_of_eq rfl) (hb hby d7_1) (fun _ _ => ⟨rfl, e0, (by decide : 0 + 0 ≤ _), (by decide : 0 + 0 ≤ _)⟩)
  dsimp only [Pt.U, Pt.locs, Pt.cells, Pt.slots] at X5 lq5 yq5 zq5 st5 hQ5
  subst yq5 zq5
  obtain ⟨rfl, Nq5, eh5⟩ := hQ5
  have N5 : Fr n0 L5 := by rw [lq5]; exact Fr.app N0 Nq5
  refine gs m T5 4 #[.val (.ref a1), .val (.int 65533), .val (.int 0)] [(.int 0)] (fun _ k => st5.trans k) ?_
  refine g_ifYes X5 hx 23 (hb hby d7_4) ((if0 _ _).trans (teq (by decide : (0 : Int32) = (0 : Int32))).1) (by decide) (by decide) ?_
  refine g_aloadN X5 hx 24 (hb hby d7_23) rfl rfl rfl ?_
  obtain ⟨T6, X6, e6, st6⟩ := getF X5 hx hZ hown (host := "") (Or.inl (tw hw 26 rfl)) Via.refl eh5 F_value_a1 (g := (mkF m 24 #[.val (.ref a1), .val (.int 65533), .val (.int 0)] [(.ref a1)])) rfl rfl (hb hby d7_24)
  refine gs m T6 27 #[.val (.ref a1), .val (.int 65533), .val (.int 0)] [(.ref v)] st6 ?_
  refine g_iloadN X6 hx 28 (hb hby d7_27) rfl rfl ?_
  refine g_iloadN X6 hx 29 (hb hby d7_28) rfl rfl ?_
  refine g_aloadN X6 hx 30 (hb hby d7_29) rfl rfl rfl ?_
  obtain ⟨cq7, kq7, q7a, q7b, q7c⟩ := isOf hZ e6 E_a1
  obtain ⟨_, _, ⟨T7, L7, kk7, nn7⟩, -, X7, ⟨Lc7, hQ7, lq7, yq7, zq7⟩, st7⟩ := X6.virtualBack hx (y := y104) (z := y104) hown (mvT hZ (tw hw 49 rfl)) (mvT hZ (tw hw 50 rfl)) (notFace_of_selects (args := #[]) (mvT hZ (tw hw 52 rfl))) (mvT hZ (tw hw 52 rfl)) (mvT hZ (tw hw 51 rfl)) (by decide) (backOf (W := 3) (rmLn l Z a0 hw [] a1 cs v kb nb g co f nn N h0 n0 Z0 E_a1 F_value_a1 FC V_v O0 S_COMPACT_STRINGS hcs hst hN hnn) hZ (tw hw 53 rfl) (tw hw 9 rfl) (by decide) (by decide)) q7a q7c (g := (mkF m 30 #[.val (.ref a1), .val (.int 65533), .val (.int 0)] [(.ref a1), (.int 0), (.int 65533), (.ref v)])) rfl (by rw [hml]; rfl) (Steps.refl _) (argsL := []) (rest := [(.int 0), (.int 65533), (.ref v)]) (lenOf pd_17 rfl) rfl (by show 2 * 0 + _ ≤ _; exact Nat.le_of_eq rfl) (hb hby d7_30) (fun _ _ => ⟨rfl, e6, (by decide : 0 + 0 ≤ _), (by decide : 0 + 0 ≤ _)⟩)
  dsimp only [Pt.U, Pt.locs, Pt.cells, Pt.slots] at X7 lq7 yq7 zq7 st7 hQ7
  subst yq7 zq7
  obtain ⟨rfl, Nq7, eh7⟩ := hQ7
  have N7 : Fr n0 L7 := by rw [lq7]; exact Fr.app N5 Nq7
  refine gs m T7 33 #[.val (.ref a1), .val (.int 65533), .val (.int 0)] [(.int N), (.int 0), (.int 65533), (.ref v)] (fun _ k => st7.trans k) ?_
  obtain ⟨_, _, ⟨T8, L8, kk8, nn8⟩, -, X8, ⟨Lc8, hQ8, lq8, yq8, zq8⟩, st8⟩ := Jvm.LawKit.callS X7 hx (y := (⟨"java/lang/StringUTF16", "indexOf", "([BIII)I"⟩ : MethodName)) hown (mvT hZ (tw hw 95 rfl)) (mvT hZ (tw hw 96 rfl)) (mvT hZ (tw hw 68 rfl)) (mvT hZ (tw hw 97 rfl)) (by decide) (backOf (W := 0) (rmIx l Z a0 hw [] v N fv kb nb g f nn h0 n0 Z0 V_v O0 hUS S_SIOOBE_FORMATTER hfv hnb hN hnn hrg hl hn0) hZ (tw hw 97 rfl) (tw hw 68 rfl) (by decide) (by decide)) (g := (mkF m 33 #[.val (.ref a1), .val (.int 65533), .val (.int 0)] [(.int N), (.int 0), (.int 65533), (.ref v)])) rfl (by rw [hml]; rfl) (argsL := [(.ref v), (.int 65533), (.int 0), (.int N)]) (rest := []) (lenOf pd_14 rfl) rfl (by show 2 * 0 + _ ≤ _; exact Nat.le_of_eq rfl) (hb hby d7_33) (fun _ _ => ⟨rfl, eh7, (by decide : 0 + 0 ≤ _), (by decide : 0 + 0 ≤ _)⟩)
  dsimp only [Pt.U, Pt.locs, Pt.cells, Pt.slots] at X8 lq8 yq8 zq8 st8 hQ8
  subst yq8 zq8
  obtain ⟨r_8, rfl, Nq8, eh8, r8_0⟩ := hQ8
  have N8 : Fr n0 L8 := by rw [lq8]; exact Fr.app N7 Nq8
  refine gs m T8 36 #[.val (.ref a1), .val (.int 65533), .val (.int 0)] [(.int r_8)] st8 ?_
  refine goI X8 hx Bd.returns Bd.notSynchronized (hb hby d7_36) ?_ (by decide) (by decide)
  show Q_rmIy Z a1 cs fv v kb nb g co f nn N h0 n0 _ T8.heap _
  rw [eh8]
  exact ⟨r_8, rfl, N8, rfl, r8_0⟩
theorem d6_0 : decode jdk_42_method_79_code 0 = .ok (.aload_n 0, 1) := by decide +kernel
theorem d6_1 : decode jdk_42_method_79_code 1 = .ok (.iload_n 1, 1) := by decide +kernel
theorem d6_2 : decode jdk_42_method_79_code 2 = .ok (.iconst 0, 1) := by decide +kernel
theorem d6_3 : decode jdk_42_method_79_code 3 = .ok (.invokevirtual 633, 3) := by decide +kernel
theorem d6_6 : decode jdk_42_method_79_code 6 = .ok (.ireturn, 1) := by decide +kernel
theorem ef_rmIz (m : MethodId) (a1 : Addr) : entryFrame m #[(.ref a1), (.int 65533)] 2 = mkF m 0 #[.val (.ref a1), .val (.int 65533)] [] := by first | (simp [entryFrame, mkF, argsToLocals, Value.category]; done) | rfl
def Q_rmIz (Z : State) (a1 : Addr) (cs : Int32) (fv : Value) (v : Addr) (kb : ClassId) (nb : Int32) (g : Nat → Int32) (co : Int32) (f : Nat → Int32) (nn : Nat) (N : Int32) (h0 : Heap) (n0 : Nat) (rv : Option Value) (hq : Heap) (Lq : List Loc) : Prop := ∃ r : Int32, rv = some (.int r) ∧ Fr n0 Lq ∧ hq = h0 ∧ own_if f nn r
theorem rmIz (l : Launch) (Z : State) (a0 : Array Value) (hw : HW Z a0) (ws : List Jvm.Cond) (a1 : Addr) (cs : Int32) (fv : Value) (v : Addr) (kb : ClassId) (nb : Int32) (g : Nat → Int32) (co : Int32) (f : Nat → Int32) (nn : Nat) (N : Int32) (h0 : Heap) (n0 : Nat) (Z0 : n0 ≤ h0.size) (E_a1 : Exa Z h0 a1 "java/lang/String") (F_value_a1 : Fld Z h0 a1 "java/lang/String" "value" "[B" (.ref v)) (F_coder_a1 : Fld Z h0 a1 "java/lang/String" "coder" "B" (.int co)) (V_v : Arv Z h0 v kb .byte nb (own_tb g) (.int 0)) (O0 : Old Z n0 h0) (S_COMPACT_STRINGS : Sta Z Z.heap "java/lang/String" "COMPACT_STRINGS" "Z" (.int cs)) (hcs : ¬ cs = (0 : Int32)) (hUS : own_US Z) (S_SIOOBE_FORMATTER : Sta Z Z.heap "jdk/internal/util/Preconditions" "SIOOBE_FORMATTER" "Ljava/util/function/BiFunction;" fv) (hfv : fv.isRef = true) (hst : own_st f nn nb g co) (hN : Ix N nn) (hnn : nn ≤ 20) (hrg : own_rg f nn) :
  MF l y108 jdk_42_method_79_code 2 (some .int) ws (rO 6 0 0 87) #[(.ref a1), (.int 65533)] Z h0 (Q_rmIz Z a1 cs fv v kb nb g co f nn N h0 n0) := by
 refine own_met "java/lang/String" rfl (plainFor_of_name pn_3) (fun m => ef_rmIz m a1) ?_
 intro p e s m below meth c s₁ Bd hx hby hml hown hnm hZ X0 e0
 have N0 := Fr.nil n0
 refine g_aloadN X0 hx 1 (hb hby d6_0) rfl rfl rfl ?_
 refine g_iloadN X0 hx 2 (hb hby d6_1) rfl rfl ?_
 refine g_iconst X0 hx 3 0 (hb hby d6_2) rfl rfl ?_
 obtain ⟨cq1, kq1, q1a, q1b, q1c⟩ := isOf hZ e0 E_a1
 obtain ⟨_, _, ⟨T1, L1, kk1, nn1⟩, -, X1, ⟨Lc1, hQ1, lq1, yq1, zq1⟩, st1⟩ := X0.virtualBack hx (y := y107) (z := y107) hown (mvT hZ (tw hw 38 rfl)) (mvT hZ (tw hw 39 rfl)) (notFace_of_selects (args := #[]) (mvT hZ (tw hw 41 rfl))) (mvT hZ (tw hw 41 rfl)) (mvT hZ (tw hw 40 rfl)) (by decide) (backOf (W := 0) (rmIy l Z a0 hw [] a1 cs fv v kb nb g co f nn N h0 n0 Z0 E_a1 F_value_a1 F_coder_a1 V_v O0 S_COMPACT_STRINGS hcs hUS S_SIOOBE_FORMATTER hfv hst hN hnn hrg) hZ (tw hw 42 rfl) (tw hw 9 rfl) (by decide) (by decide)) q1a q1c (g := (mkF m 3 #[.val (.ref a1), .val (.int 65533)] [(.int 0), (.int 65533), (.ref a1)])) rfl (by rw [hml]; rfl) (Steps.refl _) (argsL := [(.int 65533), (.int 0)]) (rest := []) (lenOf pd_15 rfl) rfl (by show 2 * 0 + _ ≤ _; exact Nat.le_of_eq rfl) (hb hby d6_3) (fun _ _ => ⟨rfl, e0, (by decide : 0 + 0 ≤ _), (by decide : 0 + 0 ≤ _)⟩)
 dsimp only [Pt.U, Pt.locs, Pt.cells, Pt.slots] at X1 lq1 yq1 zq1 st1 hQ1
 subst yq1 zq1
 obtain ⟨r_1, rfl, Nq1, eh1, r1_0⟩ := hQ1
 have N1 : Fr n0 L1 := by rw [lq1]; exact Fr.app N0 Nq1
 refine gs m T1 6 #[.val (.ref a1), .val (.int 65533)] [(.int r_1)] (fun _ k => st1.trans k) ?_
 refine goI X1 hx Bd.returns Bd.notSynchronized (hb hby d6_6) ?_ (by decide) (by decide)
 show Q_rmIz Z a1 cs fv v kb nb g co f nn N h0 n0 _ T1.heap _
 rw [eh1]
 exact ⟨r_1, rfl, N1, rfl, r1_0⟩
theorem d5_0 : decode prog_1_method_2_code 0 = .ok (.aload_n 0, 1) := by decide +kernel
theorem d5_1 : decode prog_1_method_2_code 1 = .ok (.ldc 9, 2) := by decide +kernel
theorem d5_3 : decode prog_1_method_2_code 3 = .ok (.invokevirtual 10, 3) := by decide +kernel
theorem d5_6 : decode prog_1_method_2_code 6 = .ok (.ifCond .lt 7, 3) := by decide +kernel
theorem d5_13 : decode prog_1_method_2_code 13 = .ok (.iconst 0, 1) := by decide +kernel
theorem d5_14 : decode prog_1_method_2_code 14 = .ok (.ireturn, 1) := by decide +kernel
theorem d5_9 : decode prog_1_method_2_code 9 = .ok (.iconst 1, 1) := by decide +kernel
theorem d5_10 : decode prog_1_method_2_code 10 = .ok (.goto 4, 3) := by decide +kernel
theorem pn_5 : plainName "com/example/tessera/tessera/cli/Decoding" = true := by first | (simp [plainName, overriddenIn]; done) | decide +kernel
def Q_rmFa (Z : State) (a1 : Addr) (cs : Int32) (fv : Value) (v : Addr) (kb : ClassId) (nb : Int32) (g : Nat → Int32) (co : Int32) (f : Nat → Int32) (nn : Nat) (N : Int32) (h0 : Heap) (n0 : Nat) (rv : Option Value) (hq : Heap) (Lq : List Loc) : Prop := ∃ r : Int32, rv = some (.int r) ∧ Fr n0 Lq ∧ hq = h0 ∧ own_fd f nn r
theorem rmFa (l : Launch) (Z : State) (a0 : Array Value) (hw : HW Z a0) (ws : List Jvm.Cond) (a1 : Addr) (cs : Int32) (fv : Value) (v : Addr) (kb : ClassId) (nb : Int32) (g : Nat → Int32) (co : Int32) (f : Nat → Int32) (nn : Nat) (N : Int32) (h0 : Heap) (n0 : Nat) (Z0 : n0 ≤ h0.size) (E_a1 : Exa Z h0 a1 "java/lang/String") (F_value_a1 : Fld Z h0 a1 "java/lang/String" "value" "[B" (.ref v)) (F_coder_a1 : Fld Z h0 a1 "java/lang/String" "coder" "B" (.int co)) (V_v : Arv Z h0 v kb .byte nb (own_tb g) (.int 0)) (O0 : Old Z n0 h0) (S_COMPACT_STRINGS : Sta Z Z.heap "java/lang/String" "COMPACT_STRINGS" "Z" (.int cs)) (hcs : ¬ cs = (0 : Int32)) (hUS : own_US Z) (S_SIOOBE_FORMATTER : Sta Z Z.heap "jdk/internal/util/Preconditions" "SIOOBE_FORMATTER" "Ljava/util/function/BiFunction;" fv) (hfv : fv.isRef = true) (hst : own_st f nn nb g co) (hN : Ix N nn) (hnn : nn ≤ 20) (hrg : own_rg f nn) :
  MF l (⟨"com/example/tessera/tessera/cli/Decoding", "failed", "(Ljava/lang/String;)Z"⟩ : MethodName) prog_1_method_2_code 1 (some .boolean) ws (rO 7 0 0 100) #[(.ref a1)] Z h0 (Q_rmFa Z a1 cs fv v kb nb g co f nn N h0 n0) := by
 refine own_met "com/example/tessera/tessera/cli/Decoding" rfl (plainFor_of_name pn_5) (fun m => ef_rmCo m a1) ?_
 intro p e s m below meth c s₁ Bd hx hby hml hown hnm hZ X0 e0
 have N0 := Fr.nil n0
 refine g_aloadN X0 hx 1 (hb hby d5_0) rfl rfl rfl ?_
 refine gs m s₁ 3 #[.val (.ref a1)] [(.int 65533), (.ref a1)] (fun _ kS => X0.ldcInt hx hown (mvT hZ (tw hw 32 rfl)) (g := (mkF m 1 #[.val (.ref a1)] [(.ref a1)])) rfl (hb hby d5_1) _ kS) ?_
 obtain ⟨cq1, kq1, q1a, q1b, q1c⟩ := isOf hZ e0 E_a1
 obtain ⟨_, _, ⟨T1, L1, kk1, nn1⟩, -, X1, ⟨Lc1, hQ1, lq1, yq1, zq1⟩, st1⟩ := X0.virtualBack hx (y := y108) (z := y108) hown (mvT hZ (tw hw 33 rfl)) (mvT hZ (tw hw 34 rfl)) (notFace_of_selects (args := #[]) (mvT hZ (tw hw 36 rfl))) (mvT hZ (tw hw 36 rfl)) (mvT hZ (tw hw 35 rfl)) (by decide) (backOf (W := 0) (rmIz l Z a0 hw [] a1 cs fv v kb nb g co f nn N h0 n0 Z0 E_a1 F_value_a1 F_coder_a1 V_v O0 S_COMPACT_STRINGS hcs hUS S_SIOOBE_FORMATTER hfv hst hN hnn hrg) hZ (tw hw 37 rfl) (tw hw 9 rfl) (by decide) (by decide)) q1a q1c (g := (mkF m 3 #[.val (.ref a1)] [(.int 65533), (.ref a1)])) rfl (by rw [hml]; rfl) (Steps.refl _) (argsL := [(.int 65533)]) (rest := []) (lenOf pd_0 rfl) rfl (by show 2 * 0 + _ ≤ _; exact Nat.le_of_eq rfl) (hb hby d5_3) (fun _ _ => ⟨rfl, e0, (by decide : 0 + 0 ≤ _), (by decide : 0 + 0 ≤ _)⟩)
 dsimp only [Pt.U, Pt.locs, Pt.cells, Pt.slots] at X1 lq1 yq1 zq1 st1 hQ1
 subst yq1 zq1
 obtain ⟨r_1, rfl, Nq1, eh1, r1_0⟩ := hQ1
 have N1 : Fr n0 L1 := by rw [lq1]; exact Fr.app N0 Nq1
 refine gs m T1 6 #[.val (.ref a1)] [(.int r_1)] (fun _ k => st1.trans k) ?_
 by_cases hc6 : r_1 < (0 : Int32)
 ·refine g_ifYes X1 hx 13 (hb hby d5_6) ((if0 _ _).trans (tlt hc6).1) (by decide) (by decide) ?_
  refine g_iconst X1 hx 14 0 (hb hby d5_13) rfl rfl ?_
  refine goN X1 hx (t := .boolean) Bd.returns (by simp) Bd.notSynchronized (hb hby d5_14) ?_ (by decide) (by decide)
  show Q_rmFa Z a1 cs fv v kb nb g co f nn N h0 n0 _ T1.heap _
  rw [eh1]
  exact ⟨(0 : Int32), rfl, N1, rfl, (own_fd0 r1_0 hc6)⟩
 ·refine g_ifNo X1 hx 9 (hb hby d5_6) rfl ((if0 _ _).trans (flt hc6).1) ?_
  refine g_iconst X1 hx 10 1 (hb hby d5_9) rfl rfl ?_
  refine g_goto X1 hx 14 (hb hby d5_10) (by decide) (by decide) ?_
  refine goN X1 hx (t := .boolean) Bd.returns (by simp) Bd.notSynchronized (hb hby d5_14) ?_ (by decide) (by decide)
  show Q_rmFa Z a1 cs fv v kb nb g co f nn N h0 n0 _ T1.heap _
  rw [eh1]
  exact ⟨(1 : Int32), rfl, N1, rfl, (own_fd1 r1_0 hc6)⟩
theorem d1_0 : decode method_2_code 0 = .ok (.iload_n 0, 1) := by decide +kernel
theorem d1_1 : decode method_2_code 1 = .ok (.bipush 16, 2) := by decide +kernel
theorem d1_3 : decode method_2_code 3 = .ok (.iushr, 1) := by decide +kernel
theorem d1_4 : decode method_2_code 4 = .ok (.iconst 3, 1) := by decide +kernel
theorem d1_5 : decode method_2_code 5 = .ok (.iand, 1) := by decide +kernel
theorem d1_6 : decode method_2_code 6 = .ok (.ifCond .ne 6, 3) := by decide +kernel
theorem d1_9 : decode method_2_code 9 = .ok (.ldc 7, 2) := by decide +kernel
theorem d1_11 : decode method_2_code 11 = .ok (.ireturn, 1) := by decide +kernel
theorem d1_12 : decode method_2_code 12 = .ok (.iload_n 0, 1) := by decide +kernel
theorem d1_13 : decode method_2_code 13 = .ok (.ldc 8, 2) := by decide +kernel
theorem d1_15 : decode method_2_code 15 = .ok (.iand, 1) := by decide +kernel
theorem d1_16 : decode method_2_code 16 = .ok (.i2c, 1) := by decide +kernel
theorem d1_17 : decode method_2_code 17 = .ok (.ireturn, 1) := by decide +kernel
theorem pn_1 : plainName "com/example/tessera/tessera/cli/DecodingFailedPinLaw" = true := by first | (simp [plainName, overriddenIn]; done) | decide +kernel
theorem ef_rmDr (m : MethodId) (p1 : Int32) : entryFrame m #[(.int p1)] 1 = mkF m 0 #[.val (.int p1)] [] := by first | (simp [entryFrame, mkF, argsToLocals, Value.category]; done) | rfl
def Q_rmDr (Z : State) (p1 : Int32) (h0 : Heap) (n0 : Nat) (rv : Option Value) (hq : Heap) (Lq : List Loc) : Prop := rv = some (.int (own_dr p1)) ∧ Fr n0 Lq ∧ hq = h0
theorem rmDr (l : Launch) (Z : State) (a0 : Array Value) (hw : HW Z a0) (ws : List Jvm.Cond) (p1 : Int32) (h0 : Heap) (n0 : Nat) (Z0 : n0 ≤ h0.size) :
  MF l y109 method_2_code 1 (some .char) ws (rO 0 0 0 0) #[(.int p1)] Z h0 (Q_rmDr Z p1 h0 n0) := by
 refine own_met "com/example/tessera/tessera/cli/DecodingFailedPinLaw" rfl (plainFor_of_name pn_1) (fun m => ef_rmDr m p1) ?_
 intro p e s m below meth c s₁ Bd hx hby hml hown hnm hZ X0 e0
 have N0 := Fr.nil n0
 refine g_iloadN X0 hx 1 (hb hby d1_0) rfl rfl ?_
 refine g_bipush X0 hx 3 16 (hb hby d1_1) rfl rfl ?_
 refine gs m s₁ 4 #[.val (.int p1)] [(.int ((p1.toUInt32 >>> ((16 : Int32) &&& 31).toUInt32).toInt32))] (fun _ kS => XS.iushr X0.here hx rfl (hb hby d1_3) rfl kS) ?_
 refine g_iconst X0 hx 5 3 (hb hby d1_4) rfl rfl ?_
 refine gs m s₁ 6 #[.val (.int p1)] [(.int (((p1.toUInt32 >>> ((16 : Int32) &&& 31).toUInt32).toInt32) &&& (3 : Int32)))] (fun _ kS => XS.iand X0.here hx rfl (hb hby d1_5) rfl kS) ?_
 by_cases hc6 : (((p1.toUInt32 >>> ((16 : Int32) &&& 31).toUInt32).toInt32) &&& (3 : Int32)) = (0 : Int32)
 ·refine g_ifNo X0 hx 9 (hb hby d1_6) rfl ((if0 _ _).trans (teq hc6).2) ?_
  refine gs m s₁ 11 #[.val (.int p1)] [(.int 65533)] (fun _ kS => X0.ldcInt hx hown (mvT hZ (tw hw 5 rfl)) (g := (mkF m 9 #[.val (.int p1)] [])) rfl (hb hby d1_9) _ kS) ?_
  refine goN X0 hx (t := .char) Bd.returns (by simp) Bd.notSynchronized (hb hby d1_11) ?_ (by decide) (by decide)
  show Q_rmDr Z p1 h0 n0 _ s₁.heap _
  rw [e0]
  exact ⟨by rw [own_dr1 hc6]; rfl, N0, rfl⟩
 ·refine g_ifYes X0 hx 12 (hb hby d1_6) ((if0 _ _).trans (feq hc6).2) (by decide) (by decide) ?_
  refine g_iloadN X0 hx 13 (hb hby d1_12) rfl rfl ?_
  refine gs m s₁ 15 #[.val (.int p1)] [(.int 65535), (.int p1)] (fun _ kS => X0.ldcInt hx hown (mvT hZ (tw hw 126 rfl)) (g := (mkF m 13 #[.val (.int p1)] [(.int p1)])) rfl (hb hby d1_13) _ kS) ?_
  refine gs m s₁ 16 #[.val (.int p1)] [(.int (p1 &&& (65535 : Int32)))] (fun _ kS => XS.iand X0.here hx rfl (hb hby d1_15) rfl kS) ?_
  refine gs m s₁ 17 #[.val (.int p1)] [(.int ((p1 &&& (65535 : Int32)).toUInt32.toUInt16.toUInt32.toInt32))] (fun _ kS => XS.i2c X0.here hx rfl (hb hby d1_16) rfl kS) ?_
  refine goN X0 hx (t := .char) Bd.returns (by simp) Bd.notSynchronized (hb hby d1_17) ?_ (by decide) (by decide)
  show Q_rmDr Z p1 h0 n0 _ s₁.heap _
  rw [e0]
  exact ⟨by rw [own_dr0 hc6]; exact congrArg (fun z => some (Value.int z)) (own_nc _), N0, rfl⟩
theorem pd_18 : parseMethodDescriptor "(I)C" = some ⟨[.int], some .char⟩ := by decide +kernel
theorem pd_19 : parseMethodDescriptor "([C)V" = some ⟨[(.array .char)], none⟩ := by decide +kernel
theorem pd_20 : parseMethodDescriptor "(Ljava/lang/String;)Z" = some ⟨[(.object "java/lang/String")], some .boolean⟩ := by decide +kernel
theorem ef_rm0 (m : MethodId) (p1 : Int32) (p2 : Int32) (p3 : Int32) (p4 : Int32) (p5 : Int32) : entryFrame m #[(.int p1), (.int p2), (.int p3), (.int p4), (.int p5)] maxLocals = mkF m 0 #[.val (.int p1), .val (.int p2), .val (.int p3), .val (.int p4), .val (.int p5), .unset, .unset, .unset, .unset, .unset, .unset, .unset, .unset] [] := by first | (simp [entryFrame, mkF, argsToLocals, Value.category, maxLocals]; done) | rfl
def Q_rm0 (Z : State) (p1 : Int32) (p2 : Int32) (p3 : Int32) (p4 : Int32) (p5 : Int32) (cs : Int32) (fv : Value) (h0 : Heap) (n0 : Nat) (rv : Option Value) (hq : Heap) (Lq : List Loc) : Prop := rv = some (.int 1) ∧ Fr n0 Lq
theorem rm0 (l : Launch) (Z : State) (a0 : Array Value) (hw : HW Z a0) (ws : List Jvm.Cond) (p1 : Int32) (p2 : Int32) (p3 : Int32) (p4 : Int32) (p5 : Int32) (cs : Int32) (fv : Value) (h0 : Heap) (n0 : Nat) (Z0 : n0 ≤ h0.size) (O0 : Old Z n0 h0) (S_COMPACT_STRINGS : Sta Z Z.heap "java/lang/String" "COMPACT_STRINGS" "Z" (.int cs)) (hcs : ¬ cs = (0 : Int32)) (hUS : own_US Z) (S_SIOOBE_FORMATTER : Sta Z Z.heap "jdk/internal/util/Preconditions" "SIOOBE_FORMATTER" "Ljava/util/function/BiFunction;" fv) (hfv : fv.isRef = true) (hCH : Jvm.Lit.constHeld Z "java/lang/String" 7) (hCW : Jvm.Lit.compactW.before a0 Z = true) :
  MetFree l x (head1 (Jvm.Cond.code x code maxLocals ret :: ws) room_1) (fun a U => a = #[(.int p1), (.int p2), (.int p3), (.int p4), (.int p5)] ∧ Z.Warmed39 U.vm ∧ U.heap = h0 ∧ U.vm.interned = Z.vm.interned) (fun _ _ _ _ _ => True) (fun _ U o U' => ∃ rv Lq, o = .returned rv ∧ Q_rm0 Z p1 p2 p3 p4 p5 cs fv h0 n0 rv U'.heap Lq ∧ ReturnedEndW U o U' Lq room_1.cells room_1.slots) := by
 refine MetFree.of_bodySF (plainFor_of_name pn_1) hisR ?_
 intro p e s m args below meth c s₁ Bd hml0 hP hK
 obtain ⟨rfl, hZ, hh, hI⟩ := hP
 have hx := Bd.exec
 have hby := Bd.bytes
 have hml : c.maxLocals = 13 := hml0
 have hown : s.vm.findClass "com/example/tessera/tessera/cli/DecodingFailedPinLaw" = some m.cls := findClass_of_methodNamed Bd.named
 have hnm := (name_of_methodNamed Bd.named Bd.method).1
 have X0 : Stand p l e room_1 s m #[(.int p1), (.int p2), (.int p3), (.int p4), (.int p5)] below meth c s₁ [] 0 0 := Stand.of_body Bd
 have e0 : s₁.heap = h0 := by rw [← hh, Bd.state]; rfl
 have N0 := Fr.nil n0
 have X0 : Stand p l e room_1 (s.setVm s.vm) m #[(.int p1), (.int p2), (.int p3), (.int p4), (.int p5)] below meth c s₁ [] 0 0 := X0
 have hS : s.Since s.vm h0.size := (State.WarmedH.refl s).since _
 have hk := Nat.le_refl h0.size
 have hZ : Z.Warmed39 (s.setVm s.vm).vm := hZ
 have hI : (s.setVm s.vm).vm.interned = Z.vm.interned := hI
 have hown : (s.setVm s.vm).vm.findClass "com/example/tessera/tessera/cli/DecodingFailedPinLaw" = some m.cls := hown
 refine of_goW (ef_rm0 m p1 p2 p3 p4 p5) ?_
 refine g_iload X0 hx 2 (hb hby at_0) rfl rfl ?_
 refine gs m s₁ 4 #[.val (.int p1), .val (.int p2), .val (.int p3), .val (.int p4), .val (.int p5), .unset, .unset, .unset, .unset, .unset, .unset, .unset, .unset] [(.int 2147483647), (.int p5)] (fun _ kS => X0.ldcInt hx hown (mvT hZ (tw hw 0 rfl)) (g := (mkF m 2 #[.val (.int p1), .val (.int p2), .val (.int p3), .val (.int p4), .val (.int p5), .unset, .unset, .unset, .unset, .unset, .unset, .unset, .unset] [(.int p5)])) rfl (hb hby at_2) _ kS) ?_
 refine gs m s₁ 5 #[.val (.int p1), .val (.int p2), .val (.int p3), .val (.int p4), .val (.int p5), .unset, .unset, .unset, .unset, .unset, .unset, .unset, .unset] [(.int (p5 &&& (2147483647 : Int32)))] (fun _ kS => XS.iand X0.here hx rfl (hb hby at_4) rfl kS) ?_
 refine g_iconst X0 hx 6 5 (hb hby at_5) rfl rfl ?_
 refine gs m s₁ 7 #[.val (.int p1), .val (.int p2), .val (.int p3), .val (.int p4), .val (.int p5), .unset, .unset, .unset, .unset, .unset, .unset, .unset, .unset] [(.int ((p5 &&& (2147483647 : Int32)) % (5 : Int32)))] (fun _ kS => iremM X0 hx rfl (hb hby at_6) rfl (by decide) kS) ?_
 obtain ⟨N, e_N⟩ : ∃ z, z = ((p5 &&& (2147483647 : Int32)) % (5 : Int32)) := ⟨_, rfl⟩
 rw [← e_N]
 obtain ⟨nn, hnl, hN⟩ : ∃ k, k < 5 ∧ Ix N k := by
  rw [e_N]
  exact own_ixm (n := 5) rfl (c_and _ _ (by decide)).1 (by decide) (by decide)
 have hnn : nn ≤ 20 := by omega
 refine g_istore X0 hx 9 (hb hby at_7) rfl (l' := #[.val (.int p1), .val (.int p2), .val (.int p3), .val (.int p4), .val (.int p5), .val (.int N), .unset, .unset, .unset, .unset, .unset, .unset, .unset]) rfl ?_
 refine g_iloadN X0 hx 10 (hb hby at_9) rfl rfl ?_
 obtain ⟨_, _, ⟨T1, L1, kk1, nn1⟩, -, X1, ⟨Lc1, hQ1, lq1, yq1, zq1⟩, st1⟩ := Jvm.LawKit.callS X0 hx (y := y109) hown (mvT hZ (tw hw 1 rfl)) (mvT hZ (tw hw 2 rfl)) (mvT hZ (tw hw 3 rfl)) (mvT hZ (tw hw 4 rfl)) (by decide) (backOf (W := 0) (rmDr l Z a0 hw [] p1 h0 n0 Z0 ) hZ (tw hw 4 rfl) (tw hw 3 rfl) (by decide) (by decide)) (g := (mkF m 10 #[.val (.int p1), .val (.int p2), .val (.int p3), .val (.int p4), .val (.int p5), .val (.int N), .unset, .unset, .unset, .unset, .unset, .unset, .unset] [(.int p1)])) rfl (by rw [hml]; rfl) (argsL := [(.int p1)]) (rest := []) (lenOf pd_18 rfl) rfl (by show 2 * 0 + _ ≤ _; exact Nat.le_of_eq rfl) (hb hby at_10) (fun _ _ => ⟨rfl, e0, (by decide : 0 + 0 ≤ _), (by decide : 0 + 0 ≤ _)⟩)
 dsimp only [Pt.U, Pt.locs, Pt.cells, Pt.slots] at X1 lq1 yq1 zq1 st1 hQ1
 subst yq1 zq1
 obtain ⟨rfl, Nq1, eh1⟩ := hQ1
 have N1 : Fr n0 L1 := by rw [lq1]; exact Fr.app N0 Nq1
 refine gs m T1 13 #[.val (.int p1), .val (.int p2), .val (.int p3), .val (.int p4), .val (.int p5), .val (.int N), .unset, .unset, .unset, .unset, .unset, .unset, .unset] [(.int (own_dr p1))] st1 ?_
 refine g_istore X1 hx 15 (hb hby at_13) rfl (l' := #[.val (.int p1), .val (.int p2), .val (.int p3), .val (.int p4), .val (.int p5), .val (.int N), .val (.int (own_dr p1)), .unset, .unset, .unset, .unset, .unset, .unset]) rfl ?_
 refine g_iloadN X1 hx 16 (hb hby at_15) rfl rfl ?_
 obtain ⟨_, _, ⟨T2, L2, kk2, nn2⟩, -, X2, ⟨Lc2, hQ2, lq2, yq2, zq2⟩, st2⟩ := Jvm.LawKit.callS X1 hx (y := y109) hown (mvT hZ (tw hw 1 rfl)) (mvT hZ (tw hw 2 rfl)) (mvT hZ (tw hw 3 rfl)) (mvT hZ (tw hw 4 rfl)) (by decide) (backOf (W := 0) (rmDr l Z a0 hw [] p2 h0 n0 Z0 ) hZ (tw hw 4 rfl) (tw hw 3 rfl) (by decide) (by decide)) (g := (mkF m 16 #[.val (.int p1), .val (.int p2), .val (.int p3), .val (.int p4), .val (.int p5), .val (.int N), .val (.int (own_dr p1)), .unset, .unset, .unset, .unset, .unset, .unset] [(.int p2)])) rfl (by rw [hml]; rfl) (argsL := [(.int p2)]) (rest := []) (lenOf pd_18 rfl) rfl (by show 2 * 0 + _ ≤ _; exact Nat.le_of_eq rfl) (hb hby at_16) (fun _ _ => ⟨rfl, eh1, (by decide : 0 + 0 ≤ _), (by decide : 0 + 0 ≤ _)⟩)
 dsimp only [Pt.U, Pt.locs, Pt.cells, Pt.slots] at X2 lq2 yq2 zq2 st2 hQ2
 subst yq2 zq2
 obtain ⟨rfl, Nq2, eh2⟩ := hQ2
 have N2 : Fr n0 L2 := by rw [lq2]; exact Fr.app N1 Nq2
 refine gs m T2 19 #[.val (.int p1), .val (.int p2), .val (.int p3), .val (.int p4), .val (.int p5), .val (.int N), .val (.int (own_dr p1)), .unset, .unset, .unset, .unset, .unset, .unset] [(.int (own_dr p2))] st2 ?_
 refine g_istore X2 hx 21 (hb hby at_19) rfl (l' := #[.val (.int p1), .val (.int p2), .val (.int p3), .val (.int p4), .val (.int p5), .val (.int N), .val (.int (own_dr p1)), .val (.int (own_dr p2)), .unset, .unset, .unset, .unset, .unset]) rfl ?_
 refine g_iloadN X2 hx 22 (hb hby at_21) rfl rfl ?_
 obtain ⟨_, _, ⟨T3, L3, kk3, nn3⟩, -, X3, ⟨Lc3, hQ3, lq3, yq3, zq3⟩, st3⟩ := Jvm.LawKit.callS X2 hx (y := y109) hown (mvT hZ (tw hw 1 rfl)) (mvT hZ (tw hw 2 rfl)) (mvT hZ (tw hw 3 rfl)) (mvT hZ (tw hw 4 rfl)) (by decide) (backOf (W := 0) (rmDr l Z a0 hw [] p3 h0 n0 Z0 ) hZ (tw hw 4 rfl) (tw hw 3 rfl) (by decide) (by decide)) (g := (mkF m 22 #[.val (.int p1), .val (.int p2), .val (.int p3), .val (.int p4), .val (.int p5), .val (.int N), .val (.int (own_dr p1)), .val (.int (own_dr p2)), .unset, .unset, .unset, .unset, .unset] [(.int p3)])) rfl (by rw [hml]; rfl) (argsL := [(.int p3)]) (rest := []) (lenOf pd_18 rfl) rfl (by show 2 * 0 + _ ≤ _; exact Nat.le_of_eq rfl) (hb hby at_22) (fun _ _ => ⟨rfl, eh2, (by decide : 0 + 0 ≤ _), (by decide : 0 + 0 ≤ _)⟩)
 dsimp only [Pt.U, Pt.locs, Pt.cells, Pt.slots] at X3 lq3 yq3 zq3 st3 hQ3
 subst yq3 zq3
 obtain ⟨rfl, Nq3, eh3⟩ := hQ3
 have N3 : Fr n0 L3 := by rw [lq3]; exact Fr.app N2 Nq3
 refine gs m T3 25 #[.val (.int p1), .val (.int p2), .val (.int p3), .val (.int p4), .val (.int p5), .val (.int N), .val (.int (own_dr p1)), .val (.int (own_dr p2)), .unset, .unset, .unset, .unset, .unset] [(.int (own_dr p3))] st3 ?_
 refine g_istore X3 hx 27 (hb hby at_25) rfl (l' := #[.val (.int p1), .val (.int p2), .val (.int p3), .val (.int p4), .val (.int p5), .val (.int N), .val (.int (own_dr p1)), .val (.int (own_dr p2)), .val (.int (own_dr p3)), .unset, .unset, .unset, .unset]) rfl ?_
 refine g_iloadN X3 hx 28 (hb hby at_27) rfl rfl ?_
 obtain ⟨_, _, ⟨T4, L4, kk4, nn4⟩, -, X4, ⟨Lc4, hQ4, lq4, yq4, zq4⟩, st4⟩ := Jvm.LawKit.callS X3 hx (y := y109) hown (mvT hZ (tw hw 1 rfl)) (mvT hZ (tw hw 2 rfl)) (mvT hZ (tw hw 3 rfl)) (mvT hZ (tw hw 4 rfl)) (by decide) (backOf (W := 0) (rmDr l Z a0 hw [] p4 h0 n0 Z0 ) hZ (tw hw 4 rfl) (tw hw 3 rfl) (by decide) (by decide)) (g := (mkF m 28 #[.val (.int p1), .val (.int p2), .val (.int p3), .val (.int p4), .val (.int p5), .val (.int N), .val (.int (own_dr p1)), .val (.int (own_dr p2)), .val (.int (own_dr p3)), .unset, .unset, .unset, .unset] [(.int p4)])) rfl (by rw [hml]; rfl) (argsL := [(.int p4)]) (rest := []) (lenOf pd_18 rfl) rfl (by show 2 * 0 + _ ≤ _; exact Nat.le_of_eq rfl) (hb hby at_28) (fun _ _ => ⟨rfl, eh3, (by decide : 0 + 0 ≤ _), (by decide : 0 + 0 ≤ _)⟩)
 dsimp only [Pt.U, Pt.locs, Pt.cells, Pt.slots] at X4 lq4 yq4 zq4 st4 hQ4
 subst yq4 zq4
 obtain ⟨rfl, Nq4, eh4⟩ := hQ4
 have N4 : Fr n0 L4 := by rw [lq4]; exact Fr.app N3 Nq4
 refine gs m T4 31 #[.val (.int p1), .val (.int p2), .val (.int p3), .val (.int p4), .val (.int p5), .val (.int N), .val (.int (own_dr p1)), .val (.int (own_dr p2)), .val (.int (own_dr p3)), .unset, .unset, .unset, .unset] [(.int (own_dr p4))] st4 ?_
 refine g_istore X4 hx 33 (hb hby at_31) rfl (l' := #[.val (.int p1), .val (.int p2), .val (.int p3), .val (.int p4), .val (.int p5), .val (.int N), .val (.int (own_dr p1)), .val (.int (own_dr p2)), .val (.int (own_dr p3)), .val (.int (own_dr p4)), .unset, .unset, .unset]) rfl ?_
 have J5 : ∀ (b : Addr) (kc : ClassId) (g_b : n0 ≤ b) (hj5 : Heap) (Zj5 : n0 ≤ hj5.size) (hk : h0.size ≤ hj5.size) (Oj5 : Old Z n0 hj5) (V_b_j5 : Arv Z hj5 b kc .char N (own_tb (own_4 (own_dr p1) (own_dr p2) (own_dr p3) (own_dr p4))) (.int 0)) (Tj5 : State) (Lj5 : List Loc) (Xj5 : Stand p l e room_1 (s.setVm s.vm) m #[(.int p1), (.int p2), (.int p3), (.int p4), (.int p5)] below meth c Tj5 Lj5 1 4) (ej5 : Tj5.heap = hj5) (Nj5 : Fr n0 Lj5), Go p e below (FinW s below (Q_rm0 Z p1 p2 p3 p4 p5 cs fv h0 n0) room_1.cells room_1.slots) Tj5 (mkF m 143 #[.val (.int p1), .val (.int p2), .val (.int p3), .val (.int p4), .val (.int p5), .val (.int N), .val (.int (own_dr p1)), .val (.int (own_dr p2)), .val (.int (own_dr p3)), .val (.int (own_dr p4)), .val (.ref b), .unset, .unset] []) := by
  intro b kc g_b hj5 Zj5 hk Oj5 V_b_j5 Tj5 Lj5 Xj5 ej5 Nj5
  obtain ⟨T6, h6, X6, e6, E6, A6, D6, -, st6⟩ := newO Xj5 hx hZ hown (tw hw 7 rfl) (tw hw 8 rfl) (tw hw 9 rfl) ej5 (g := (mkF m 143 #[.val (.int p1), .val (.int p2), .val (.int p3), .val (.int p4), .val (.int p5), .val (.int N), .val (.int (own_dr p1)), .val (.int (own_dr p2)), .val (.int (own_dr p3)), .val (.int (own_dr p4)), .val (.ref b), .unset, .unset] [])) rfl (hb hby at_143) (by decide) (by decide)
  obtain ⟨b6, g6⟩ : ∃ z, z = hj5.size := ⟨_, rfl⟩
  rw [← g6] at A6 D6 st6
  have g_b6 : n0 ≤ b6 := Nat.le_trans Zj5 (Nat.le_of_eq g6.symm)
  have Z7 : n0 ≤ h6.size := Nat.le_trans Zj5 E6.1
  have hk := Nat.le_trans hk E6.1
  have O7 : Old Z n0 h6 := Oj5.ext E6
  have F_value_b6 : Fld Z h6 b6 "java/lang/String" "value" "[B" .null := D6 (Or.inr (tw hw 22 rfl)) (ty := (.array .byte)) (by decide)
  have F_coder_b6 : Fld Z h6 b6 "java/lang/String" "coder" "B" (.int 0) := D6 (Or.inr (tw hw 23 rfl)) (ty := .byte) (by decide)
  refine gs m T6 146 #[.val (.int p1), .val (.int p2), .val (.int p3), .val (.int p4), .val (.int p5), .val (.int N), .val (.int (own_dr p1)), .val (.int (own_dr p2)), .val (.int (own_dr p3)), .val (.int (own_dr p4)), .val (.ref b), .unset, .unset] [(.ref b6)] st6 ?_
  refine g_dup X6 hx 147 (hb hby at_146) rfl rfl ?_
  refine g_aload X6 hx 149 (hb hby at_147) rfl rfl rfl ?_
  have q9 : Arv Z h6 b kc .char N (own_tb (own_4 (own_dr p1) (own_dr p2) (own_dr p3) (own_dr p4))) (.int 0) := (V_b_j5.ext E6)
  obtain ⟨_, _, ⟨T8, L8, kk8, nn8⟩, -, X8, hS8, hG8, ⟨Lc8, hQ8, lq8, yq8, zq8⟩, st8⟩ := X6.specialBackS hx (y := y102) rfl hown (mvT hZ (tw hw 10 rfl)) (mvT hZ (tw hw 11 rfl)) (mvT hZ (tw hw 12 rfl)) (by decide) (own_backSI (W := 1) (rmSi l Z a0 hw [] b6 b cs kc (own_4 (own_dr p1) (own_dr p2) (own_dr p3) (own_dr p4)) nn N h6 n0 Z7 A6 F_value_b6 F_coder_b6 q9 O7 S_COMPACT_STRINGS hcs hUS hCH hCW hN hnn (own_4r (own_drr _) (own_drr _) (own_drr _) (own_drr _) nn) g_b6) hZ hI (tw hw 12 rfl) (tw hw 9 rfl) (by decide) (by decide)) (g := (mkF m 149 #[.val (.int p1), .val (.int p2), .val (.int p3), .val (.int p4), .val (.int p5), .val (.int N), .val (.int (own_dr p1)), .val (.int (own_dr p2)), .val (.int (own_dr p3)), .val (.int (own_dr p4)), .val (.ref b), .unset, .unset] [(.ref b), (.ref b6), (.ref b6)])) rfl (by rw [hml]; rfl) (Steps.refl _) (a := b6) (argsL := [(.ref b)]) (rest := [(.ref b6)]) (lenOf pd_19 rfl) rfl (by show 2 * 0 + _ ≤ _; exact Nat.le_of_eq rfl) (hb hby at_149) (fun _ _ => ⟨rfl, e6, (by decide : 2 + 2 ≤ _), (by decide : 8 + 60 ≤ _)⟩)
  dsimp only [Pt.U, Pt.locs, Pt.cells, Pt.slots] at X8 lq8 yq8 zq8 st8 hQ8 hS8 hG8
  subst yq8 zq8
  rw [e6] at hG8
  obtain ⟨X8, hS, hZ, hown⟩ := rebS hS hk X8 hS8 hG8 hZ hown
  have hk := Nat.le_refl T8.heap.size
  obtain ⟨b_8, kb_8, nb_8, g_8, co_8, rfl, Nq8, Kq8, r8_0, r8_1, r8_2, r8_3⟩ := hQ8
  have N8 : Fr n0 L8 := by rw [lq8]; exact Fr.app Nj5 Nq8
  have Z10 : n0 ≤ T8.heap.size := Nat.le_trans Z7 Kq8.1
  have O10 : Old Z n0 T8.heap := O7.keep Kq8 (allS g_b6 all0)
  refine gs m T8 152 #[.val (.int p1), .val (.int p2), .val (.int p3), .val (.int p4), .val (.int p5), .val (.int N), .val (.int (own_dr p1)), .val (.int (own_dr p2)), .val (.int (own_dr p3)), .val (.int (own_dr p4)), .val (.ref b), .unset, .unset] [(.ref b6)] (fun _ k => st8.trans k) ?_
  refine g_astore X8 hx 154 (hb hby at_152) rfl rfl (l' := #[.val (.int p1), .val (.int p2), .val (.int p3), .val (.int p4), .val (.int p5), .val (.int N), .val (.int (own_dr p1)), .val (.int (own_dr p2)), .val (.int (own_dr p3)), .val (.int (own_dr p4)), .val (.ref b), .val (.ref b6), .unset]) rfl ?_
  have J11 : ∀ (xx : Int32) (hxx : (xx = (1 : Int32) ∧ (((0 : Int32) < N ∧ own_dr p1 = (65533 : Int32)) ∨ ((1 : Int32) < N ∧ own_dr p2 = (65533 : Int32)) ∨ ((2 : Int32) < N ∧ own_dr p3 = (65533 : Int32)) ∨ ((3 : Int32) < N ∧ own_dr p4 = (65533 : Int32)))) ∨ (xx = (0 : Int32) ∧ ¬ (((0 : Int32) < N ∧ own_dr p1 = (65533 : Int32)) ∨ ((1 : Int32) < N ∧ own_dr p2 = (65533 : Int32)) ∨ ((2 : Int32) < N ∧ own_dr p3 = (65533 : Int32)) ∨ ((3 : Int32) < N ∧ own_dr p4 = (65533 : Int32))))) (Tj11 : State) (Lj11 : List Loc) (Xj11 : Stand p l e room_1 (s.setVm T8.vm) m #[(.int p1), (.int p2), (.int p3), (.int p4), (.int p5)] below meth c Tj11 Lj11 4 68) (ej11 : Tj11.heap = T8.heap) (Nj11 : Fr n0 Lj11), Go p e below (FinW s below (Q_rm0 Z p1 p2 p3 p4 p5 cs fv h0 n0) room_1.cells room_1.slots) Tj11 (mkF m 210 #[.val (.int p1), .val (.int p2), .val (.int p3), .val (.int p4), .val (.int p5), .val (.int N), .val (.int (own_dr p1)), .val (.int (own_dr p2)), .val (.int (own_dr p3)), .val (.int (own_dr p4)), .val (.ref b), .val (.ref b6), .unset] [(.int xx)]) := by
   intro xx hxx Tj11 Lj11 Xj11 ej11 Nj11
   refine g_istore Xj11 hx 212 (hb hby at_210) rfl (l' := #[.val (.int p1), .val (.int p2), .val (.int p3), .val (.int p4), .val (.int p5), .val (.int N), .val (.int (own_dr p1)), .val (.int (own_dr p2)), .val (.int (own_dr p3)), .val (.int (own_dr p4)), .val (.ref b), .val (.ref b6), .val (.int xx)]) rfl ?_
   refine g_aload Xj11 hx 214 (hb hby at_212) rfl rfl rfl ?_
   have q13 : Exa Z T8.heap b6 "java/lang/String" := (A6.keep Kq8)
   obtain ⟨_, _, ⟨T12, L12, kk12, nn12⟩, -, X12, ⟨Lc12, hQ12, lq12, yq12, zq12⟩, st12⟩ := Jvm.LawKit.callS Xj11 hx (y := (⟨"com/example/tessera/tessera/cli/Decoding", "failed", "(Ljava/lang/String;)Z"⟩ : MethodName)) hown (mvT hZ (tw hw 28 rfl)) (mvT hZ (tw hw 29 rfl)) (mvT hZ (tw hw 30 rfl)) (mvT hZ (tw hw 31 rfl)) (by decide) (backOf (W := 0) (rmFa l Z a0 hw [] b6 cs fv b_8 kb_8 nb_8 g_8 co_8 (own_4 (own_dr p1) (own_dr p2) (own_dr p3) (own_dr p4)) nn N T8.heap n0 Z10 q13 r8_0 r8_1 r8_2 O10 S_COMPACT_STRINGS hcs hUS S_SIOOBE_FORMATTER hfv r8_3 hN hnn (own_4r (own_drr _) (own_drr _) (own_drr _) (own_drr _) nn)) hZ (tw hw 31 rfl) (tw hw 30 rfl) (by decide) (by decide)) (g := (mkF m 214 #[.val (.int p1), .val (.int p2), .val (.int p3), .val (.int p4), .val (.int p5), .val (.int N), .val (.int (own_dr p1)), .val (.int (own_dr p2)), .val (.int (own_dr p3)), .val (.int (own_dr p4)), .val (.ref b), .val (.ref b6), .val (.int xx)] [(.ref b6)])) rfl (by rw [hml]; rfl) (argsL := [(.ref b6)]) (rest := []) (lenOf pd_20 rfl) rfl (by show 2 * 0 + _ ≤ _; exact Nat.le_of_eq rfl) (hb hby at_214) (fun _ _ => ⟨rfl, ej11, (by decide : 4 + 0 ≤ _), (by decide : 68 + 0 ≤ _)⟩)
   dsimp only [Pt.U, Pt.locs, Pt.cells, Pt.slots] at X12 lq12 yq12 zq12 st12 hQ12
   subst yq12 zq12
   obtain ⟨r_12, rfl, Nq12, eh12, r12_0⟩ := hQ12
   have N12 : Fr n0 L12 := by rw [lq12]; exact Fr.app Nj11 Nq12
   refine gs m T12 217 #[.val (.int p1), .val (.int p2), .val (.int p3), .val (.int p4), .val (.int p5), .val (.int N), .val (.int (own_dr p1)), .val (.int (own_dr p2)), .val (.int (own_dr p3)), .val (.int (own_dr p4)), .val (.ref b), .val (.ref b6), .val (.int xx)] [(.int r_12)] st12 ?_
   refine g_iload X12 hx 219 (hb hby at_217) rfl rfl ?_
   refine g_icmpNo X12 hx 222 (hb hby at_219) rfl (teq (own_fin36 hN hnl r12_0 hxx)).2 ?_
   refine g_iconst X12 hx 223 1 (hb hby at_222) rfl rfl ?_
   refine g_goto X12 hx 227 (hb hby at_223) (by decide) (by decide) ?_
   refine goNW hS X12 (by rw [eh12]; exact hk) hx (t := .boolean) Bd.returns (by simp) Bd.notSynchronized (hb hby at_227) ?_ (by decide) (by decide)
   show Q_rm0 Z p1 p2 p3 p4 p5 cs fv h0 n0 _ T12.heap _
   rw [eh12]
   exact ⟨rfl, N12⟩
  refine g_iload X8 hx 156 (hb hby at_154) rfl rfl ?_
  by_cases hc156 : (0 : Int32) < N
  ·refine g_ifNo X8 hx 159 (hb hby at_156) rfl ((if0 _ _).trans (tlt hc156).2.2.2) ?_
   refine g_iload X8 hx 161 (hb hby at_159) rfl rfl ?_
   refine gs m T8 163 #[.val (.int p1), .val (.int p2), .val (.int p3), .val (.int p4), .val (.int p5), .val (.int N), .val (.int (own_dr p1)), .val (.int (own_dr p2)), .val (.int (own_dr p3)), .val (.int (own_dr p4)), .val (.ref b), .val (.ref b6), .unset] [(.int 65533), (.int (own_dr p1))] (fun _ kS => X8.ldcInt hx hown (mvT hZ (tw hw 5 rfl)) (g := (mkF m 161 #[.val (.int p1), .val (.int p2), .val (.int p3), .val (.int p4), .val (.int p5), .val (.int N), .val (.int (own_dr p1)), .val (.int (own_dr p2)), .val (.int (own_dr p3)), .val (.int (own_dr p4)), .val (.ref b), .val (.ref b6), .unset] [(.int (own_dr p1))])) rfl (hb hby at_161) _ kS) ?_
   by_cases hc163 : (own_dr p1) = (65533 : Int32)
   ·refine g_icmpYes X8 hx 205 (hb hby at_163) (teq hc163).1 (by decide) (by decide) ?_
    refine g_iconst X8 hx 206 1 (hb hby at_205) rfl rfl ?_
    refine g_goto X8 hx 210 (hb hby at_206) (by decide) (by decide) ?_
    exact J11 (1 : Int32) (by simp [hc156, hc163]) _ _ X8 rfl N8
   ·refine g_icmpNo X8 hx 166 (hb hby at_163) rfl (feq hc163).1 ?_
    refine g_iload X8 hx 168 (hb hby at_166) rfl rfl ?_
    refine g_iconst X8 hx 169 1 (hb hby at_168) rfl rfl ?_
    by_cases hc169 : (1 : Int32) < N
    ·refine g_icmpNo X8 hx 172 (hb hby at_169) rfl (tlt hc169).2.2.2 ?_
     refine g_iload X8 hx 174 (hb hby at_172) rfl rfl ?_
     refine gs m T8 176 #[.val (.int p1), .val (.int p2), .val (.int p3), .val (.int p4), .val (.int p5), .val (.int N), .val (.int (own_dr p1)), .val (.int (own_dr p2)), .val (.int (own_dr p3)), .val (.int (own_dr p4)), .val (.ref b), .val (.ref b6), .unset] [(.int 65533), (.int (own_dr p2))] (fun _ kS => X8.ldcInt hx hown (mvT hZ (tw hw 5 rfl)) (g := (mkF m 174 #[.val (.int p1), .val (.int p2), .val (.int p3), .val (.int p4), .val (.int p5), .val (.int N), .val (.int (own_dr p1)), .val (.int (own_dr p2)), .val (.int (own_dr p3)), .val (.int (own_dr p4)), .val (.ref b), .val (.ref b6), .unset] [(.int (own_dr p2))])) rfl (hb hby at_174) _ kS) ?_
     by_cases hc176 : (own_dr p2) = (65533 : Int32)
     ·refine g_icmpYes X8 hx 205 (hb hby at_176) (teq hc176).1 (by decide) (by decide) ?_
      refine g_iconst X8 hx 206 1 (hb hby at_205) rfl rfl ?_
      refine g_goto X8 hx 210 (hb hby at_206) (by decide) (by decide) ?_
      exact J11 (1 : Int32) (by simp [hc156, hc163, hc169, hc176]) _ _ X8 rfl N8
     ·refine g_icmpNo X8 hx 179 (hb hby at_176) rfl (feq hc176).1 ?_
      refine g_iload X8 hx 181 (hb hby at_179) rfl rfl ?_
      refine g_iconst X8 hx 182 2 (hb hby at_181) rfl rfl ?_
      by_cases hc182 : (2 : Int32) < N
      ·refine g_icmpNo X8 hx 185 (hb hby at_182) rfl (tlt hc182).2.2.2 ?_
       refine g_iload X8 hx 187 (hb hby at_185) rfl rfl ?_
       refine gs m T8 189 #[.val (.int p1), .val (.int p2), .val (.int p3), .val (.int p4), .val (.int p5), .val (.int N), .val (.int (own_dr p1)), .val (.int (own_dr p2)), .val (.int (own_dr p3)), .val (.int (own_dr p4)), .val (.ref b), .val (.ref b6), .unset] [(.int 65533), (.int (own_dr p3))] (fun _ kS => X8.ldcInt hx hown (mvT hZ (tw hw 5 rfl)) (g := (mkF m 187 #[.val (.int p1), .val (.int p2), .val (.int p3), .val (.int p4), .val (.int p5), .val (.int N), .val (.int (own_dr p1)), .val (.int (own_dr p2)), .val (.int (own_dr p3)), .val (.int (own_dr p4)), .val (.ref b), .val (.ref b6), .unset] [(.int (own_dr p3))])) rfl (hb hby at_187) _ kS) ?_
       by_cases hc189 : (own_dr p3) = (65533 : Int32)
       ·refine g_icmpYes X8 hx 205 (hb hby at_189) (teq hc189).1 (by decide) (by decide) ?_
        refine g_iconst X8 hx 206 1 (hb hby at_205) rfl rfl ?_
        refine g_goto X8 hx 210 (hb hby at_206) (by decide) (by decide) ?_
        exact J11 (1 : Int32) (by simp [hc156, hc163, hc169, hc176, hc182, hc189]) _ _ X8 rfl N8
       ·refine g_icmpNo X8 hx 192 (hb hby at_189) rfl (feq hc189).1 ?_
        refine g_iload X8 hx 194 (hb hby at_192) rfl rfl ?_
        refine g_iconst X8 hx 195 3 (hb hby at_194) rfl rfl ?_
        by_cases hc195 : (3 : Int32) < N
        ·refine g_icmpNo X8 hx 198 (hb hby at_195) rfl (tlt hc195).2.2.2 ?_
         refine g_iload X8 hx 200 (hb hby at_198) rfl rfl ?_
         refine gs m T8 202 #[.val (.int p1), .val (.int p2), .val (.int p3), .val (.int p4), .val (.int p5), .val (.int N), .val (.int (own_dr p1)), .val (.int (own_dr p2)), .val (.int (own_dr p3)), .val (.int (own_dr p4)), .val (.ref b), .val (.ref b6), .unset] [(.int 65533), (.int (own_dr p4))] (fun _ kS => X8.ldcInt hx hown (mvT hZ (tw hw 5 rfl)) (g := (mkF m 200 #[.val (.int p1), .val (.int p2), .val (.int p3), .val (.int p4), .val (.int p5), .val (.int N), .val (.int (own_dr p1)), .val (.int (own_dr p2)), .val (.int (own_dr p3)), .val (.int (own_dr p4)), .val (.ref b), .val (.ref b6), .unset] [(.int (own_dr p4))])) rfl (hb hby at_200) _ kS) ?_
         by_cases hc202 : (own_dr p4) = (65533 : Int32)
         ·refine g_icmpNo X8 hx 205 (hb hby at_202) rfl (teq hc202).2 ?_
          refine g_iconst X8 hx 206 1 (hb hby at_205) rfl rfl ?_
          refine g_goto X8 hx 210 (hb hby at_206) (by decide) (by decide) ?_
          exact J11 (1 : Int32) (by simp [hc156, hc163, hc169, hc176, hc182, hc189, hc195, hc202]) _ _ X8 rfl N8
         ·refine g_icmpYes X8 hx 209 (hb hby at_202) (feq hc202).2 (by decide) (by decide) ?_
          refine g_iconst X8 hx 210 0 (hb hby at_209) rfl rfl ?_
          exact J11 (0 : Int32) (by simp [hc156, hc163, hc169, hc176, hc182, hc189, hc195, hc202]) _ _ X8 rfl N8
        ·refine g_icmpYes X8 hx 209 (hb hby at_195) (flt hc195).2.2.2 (by decide) (by decide) ?_
         refine g_iconst X8 hx 210 0 (hb hby at_209) rfl rfl ?_
         exact J11 (0 : Int32) (by simp [hc156, hc163, hc169, hc176, hc182, hc189, hc195]) _ _ X8 rfl N8
      ·refine g_icmpYes X8 hx 192 (hb hby at_182) (flt hc182).2.2.2 (by decide) (by decide) ?_
       refine g_iload X8 hx 194 (hb hby at_192) rfl rfl ?_
       refine g_iconst X8 hx 195 3 (hb hby at_194) rfl rfl ?_
       by_cases hc195 : (3 : Int32) < N
       ·refine g_icmpNo X8 hx 198 (hb hby at_195) rfl (tlt hc195).2.2.2 ?_
        refine g_iload X8 hx 200 (hb hby at_198) rfl rfl ?_
        refine gs m T8 202 #[.val (.int p1), .val (.int p2), .val (.int p3), .val (.int p4), .val (.int p5), .val (.int N), .val (.int (own_dr p1)), .val (.int (own_dr p2)), .val (.int (own_dr p3)), .val (.int (own_dr p4)), .val (.ref b), .val (.ref b6), .unset] [(.int 65533), (.int (own_dr p4))] (fun _ kS => X8.ldcInt hx hown (mvT hZ (tw hw 5 rfl)) (g := (mkF m 200 #[.val (.int p1), .val (.int p2), .val (.int p3), .val (.int p4), .val (.int p5), .val (.int N), .val (.int (own_dr p1)), .val (.int (own_dr p2)), .val (.int (own_dr p3)), .val (.int (own_dr p4)), .val (.ref b), .val (.ref b6), .unset] [(.int (own_dr p4))])) rfl (hb hby at_200) _ kS) ?_
        by_cases hc202 : (own_dr p4) = (65533 : Int32)
        ·refine g_icmpNo X8 hx 205 (hb hby at_202) rfl (teq hc202).2 ?_
         refine g_iconst X8 hx 206 1 (hb hby at_205) rfl rfl ?_
         refine g_goto X8 hx 210 (hb hby at_206) (by decide) (by decide) ?_
         exact J11 (1 : Int32) (by simp [hc156, hc163, hc169, hc176, hc182, hc195, hc202]) _ _ X8 rfl N8
        ·refine g_icmpYes X8 hx 209 (hb hby at_202) (feq hc202).2 (by decide) (by decide) ?_
         refine g_iconst X8 hx 210 0 (hb hby at_209) rfl rfl ?_
         exact J11 (0 : Int32) (by simp [hc156, hc163, hc169, hc176, hc182, hc195, hc202]) _ _ X8 rfl N8
       ·refine g_icmpYes X8 hx 209 (hb hby at_195) (flt hc195).2.2.2 (by decide) (by decide) ?_
        refine g_iconst X8 hx 210 0 (hb hby at_209) rfl rfl ?_
        exact J11 (0 : Int32) (by simp [hc156, hc163, hc169, hc176, hc182, hc195]) _ _ X8 rfl N8
    ·refine g_icmpYes X8 hx 179 (hb hby at_169) (flt hc169).2.2.2 (by decide) (by decide) ?_
     refine g_iload X8 hx 181 (hb hby at_179) rfl rfl ?_
     refine g_iconst X8 hx 182 2 (hb hby at_181) rfl rfl ?_
     by_cases hc182 : (2 : Int32) < N
     ·refine g_icmpNo X8 hx 185 (hb hby at_182) rfl (tlt hc182).2.2.2 ?_
      refine g_iload X8 hx 187 (hb hby at_185) rfl rfl ?_
      refine gs m T8 189 #[.val (.int p1), .val (.int p2), .val (.int p3), .val (.int p4), .val (.int p5), .val (.int N), .val (.int (own_dr p1)), .val (.int (own_dr p2)), .val (.int (own_dr p3)), .val (.int (own_dr p4)), .val (.ref b), .val (.ref b6), .unset] [(.int 65533), (.int (own_dr p3))] (fun _ kS => X8.ldcInt hx hown (mvT hZ (tw hw 5 rfl)) (g := (mkF m 187 #[.val (.int p1), .val (.int p2), .val (.int p3), .val (.int p4), .val (.int p5), .val (.int N), .val (.int (own_dr p1)), .val (.int (own_dr p2)), .val (.int (own_dr p3)), .val (.int (own_dr p4)), .val (.ref b), .val (.ref b6), .unset] [(.int (own_dr p3))])) rfl (hb hby at_187) _ kS) ?_
      by_cases hc189 : (own_dr p3) = (65533 : Int32)
      ·refine g_icmpYes X8 hx 205 (hb hby at_189) (teq hc189).1 (by decide) (by decide) ?_
       refine g_iconst X8 hx 206 1 (hb hby at_205) rfl rfl ?_
       refine g_goto X8 hx 210 (hb hby at_206) (by decide) (by decide) ?_
       exact J11 (1 : Int32) (by simp [hc156, hc163, hc169, hc182, hc189]) _ _ X8 rfl N8
      ·refine g_icmpNo X8 hx 192 (hb hby at_189) rfl (feq hc189).1 ?_
       refine g_iload X8 hx 194 (hb hby at_192) rfl rfl ?_
       refine g_iconst X8 hx 195 3 (hb hby at_194) rfl rfl ?_
       by_cases hc195 : (3 : Int32) < N
       ·refine g_icmpNo X8 hx 198 (hb hby at_195) rfl (tlt hc195).2.2.2 ?_
        refine g_iload X8 hx 200 (hb hby at_198) rfl rfl ?_
        refine gs m T8 202 #[.val (.int p1), .val (.int p2), .val (.int p3), .val (.int p4), .val (.int p5), .val (.int N), .val (.int (own_dr p1)), .val (.int (own_dr p2)), .val (.int (own_dr p3)), .val (.int (own_dr p4)), .val (.ref b), .val (.ref b6), .unset] [(.int 65533), (.int (own_dr p4))] (fun _ kS => X8.ldcInt hx hown (mvT hZ (tw hw 5 rfl)) (g := (mkF m 200 #[.val (.int p1), .val (.int p2), .val (.int p3), .val (.int p4), .val (.int p5), .val (.int N), .val (.int (own_dr p1)), .val (.int (own_dr p2)), .val (.int (own_dr p3)), .val (.int (own_dr p4)), .val (.ref b), .val (.ref b6), .unset] [(.int (own_dr p4))])) rfl (hb hby at_200) _ kS) ?_
        by_cases hc202 : (own_dr p4) = (65533 : Int32)
        ·refine g_icmpNo X8 hx 205 (hb hby at_202) rfl (teq hc202).2 ?_
         refine g_iconst X8 hx 206 1 (hb hby at_205) rfl rfl ?_
         refine g_goto X8 hx 210 (hb hby at_206) (by decide) (by decide) ?_
         exact J11 (1 : Int32) (by simp [hc156, hc163, hc169, hc182, hc189, hc195, hc202]) _ _ X8 rfl N8
        ·refine g_icmpYes X8 hx 209 (hb hby at_202) (feq hc202).2 (by decide) (by decide) ?_
         refine g_iconst X8 hx 210 0 (hb hby at_209) rfl rfl ?_
         exact J11 (0 : Int32) (by simp [hc156, hc163, hc169, hc182, hc189, hc195, hc202]) _ _ X8 rfl N8
       ·refine g_icmpYes X8 hx 209 (hb hby at_195) (flt hc195).2.2.2 (by decide) (by decide) ?_
        refine g_iconst X8 hx 210 0 (hb hby at_209) rfl rfl ?_
        exact J11 (0 : Int32) (by simp [hc156, hc163, hc169, hc182, hc189, hc195]) _ _ X8 rfl N8
     ·refine g_icmpYes X8 hx 192 (hb hby at_182) (flt hc182).2.2.2 (by decide) (by decide) ?_
      refine g_iload X8 hx 194 (hb hby at_192) rfl rfl ?_
      refine g_iconst X8 hx 195 3 (hb hby at_194) rfl rfl ?_
      by_cases hc195 : (3 : Int32) < N
      ·refine g_icmpNo X8 hx 198 (hb hby at_195) rfl (tlt hc195).2.2.2 ?_
       refine g_iload X8 hx 200 (hb hby at_198) rfl rfl ?_
       refine gs m T8 202 #[.val (.int p1), .val (.int p2), .val (.int p3), .val (.int p4), .val (.int p5), .val (.int N), .val (.int (own_dr p1)), .val (.int (own_dr p2)), .val (.int (own_dr p3)), .val (.int (own_dr p4)), .val (.ref b), .val (.ref b6), .unset] [(.int 65533), (.int (own_dr p4))] (fun _ kS => X8.ldcInt hx hown (mvT hZ (tw hw 5 rfl)) (g := (mkF m 200 #[.val (.int p1), .val (.int p2), .val (.int p3), .val (.int p4), .val (.int p5), .val (.int N), .val (.int (own_dr p1)), .val (.int (own_dr p2)), .val (.int (own_dr p3)), .val (.int (own_dr p4)), .val (.ref b), .val (.ref b6), .unset] [(.int (own_dr p4))])) rfl (hb hby at_200) _ kS) ?_
       by_cases hc202 : (own_dr p4) = (65533 : Int32)
       ·refine g_icmpNo X8 hx 205 (hb hby at_202) rfl (teq hc202).2 ?_
        refine g_iconst X8 hx 206 1 (hb hby at_205) rfl rfl ?_
        refine g_goto X8 hx 210 (hb hby at_206) (by decide) (by decide) ?_
        exact J11 (1 : Int32) (by simp [hc156, hc163, hc169, hc182, hc195, hc202]) _ _ X8 rfl N8
       ·refine g_icmpYes X8 hx 209 (hb hby at_202) (feq hc202).2 (by decide) (by decide) ?_
        refine g_iconst X8 hx 210 0 (hb hby at_209) rfl rfl ?_
        exact J11 (0 : Int32) (by simp [hc156, hc163, hc169, hc182, hc195, hc202]) _ _ X8 rfl N8
      ·refine g_icmpYes X8 hx 209 (hb hby at_195) (flt hc195).2.2.2 (by decide) (by decide) ?_
       refine g_iconst X8 hx 210 0 (hb hby at_209) rfl rfl ?_
       exact J11 (0 : Int32) (by simp [hc156, hc163, hc169, hc182, hc195]) _ _ X8 rfl N8
  ·refine g_ifYes X8 hx 166 (hb hby at_156) ((if0 _ _).trans (flt hc156).2.2.2) (by decide) (by decide) ?_
   refine g_iload X8 hx 168 (hb hby at_166) rfl rfl ?_
   refine g_iconst X8 hx 169 1 (hb hby at_168) rfl rfl ?_
   by_cases hc169 : (1 : Int32) < N
   ·refine g_icmpNo X8 hx 172 (hb hby at_169) rfl (tlt hc169).2.2.2 ?_
    refine g_iload X8 hx 174 (hb hby at_172) rfl rfl ?_
    refine gs m T8 176 #[.val (.int p1), .val (.int p2), .val (.int p3), .val (.int p4), .val (.int p5), .val (.int N), .val (.int (own_dr p1)), .val (.int (own_dr p2)), .val (.int (own_dr p3)), .val (.int (own_dr p4)), .val (.ref b), .val (.ref b6), .unset] [(.int 65533), (.int (own_dr p2))] (fun _ kS => X8.ldcInt hx hown (mvT hZ (tw hw 5 rfl)) (g := (mkF m 174 #[.val (.int p1), .val (.int p2), .val (.int p3), .val (.int p4), .val (.int p5), .val (.int N), .val (.int (own_dr p1)), .val (.int (own_dr p2)), .val (.int (own_dr p3)), .val (.int (own_dr p4)), .val (.ref b), .val (.ref b6), .unset] [(.int (own_dr p2))])) rfl (hb hby at_174) _ kS) ?_
    by_cases hc176 : (own_dr p2) = (65533 : Int32)
    ·refine g_icmpYes X8 hx 205 (hb hby at_176) (teq hc176).1 (by decide) (by decide) ?_
     refine g_iconst X8 hx 206 1 (hb hby at_205) rfl rfl ?_
     refine g_goto X8 hx 210 (hb hby at_206) (by decide) (by decide) ?_
     exact J11 (1 : Int32) (by simp [hc156, hc169, hc176]) _ _ X8 rfl N8
    ·refine g_icmpNo X8 hx 179 (hb hby at_176) rfl (feq hc176).1 ?_
     refine g_iload X8 hx 181 (hb hby at_179) rfl rfl ?_
     refine g_iconst X8 hx 182 2 (hb hby at_181) rfl rfl ?_
     by_cases hc182 : (2 : Int32) < N
     ·refine g_icmpNo X8 hx 185 (hb hby at_182) rfl (tlt hc182).2.2.2 ?_
      refine g_iload X8 hx 187 (hb hby at_185) rfl rfl ?_
      refine gs m T8 189 #[.val (.int p1), .val (.int p2), .val (.int p3), .val (.int p4), .val (.int p5), .val (.int N), .val (.int (own_dr p1)), .val (.int (own_dr p2)), .val (.int (own_dr p3)), .val (.int (own_dr p4)), .val (.ref b), .val (.ref b6), .unset] [(.int 65533), (.int (own_dr p3))] (fun _ kS => X8.ldcInt hx hown (mvT hZ (tw hw 5 rfl)) (g := (mkF m 187 #[.val (.int p1), .val (.int p2), .val (.int p3), .val (.int p4), .val (.int p5), .val (.int N), .val (.int (own_dr p1)), .val (.int (own_dr p2)), .val (.int (own_dr p3)), .val (.int (own_dr p4)), .val (.ref b), .val (.ref b6), .unset] [(.int (own_dr p3))])) rfl (hb hby at_187) _ kS) ?_
      by_cases hc189 : (own_dr p3) = (65533 : Int32)
      ·refine g_icmpYes X8 hx 205 (hb hby at_189) (teq hc189).1 (by decide) (by decide) ?_
       refine g_iconst X8 hx 206 1 (hb hby at_205) rfl rfl ?_
       refine g_goto X8 hx 210 (hb hby at_206) (by decide) (by decide) ?_
       exact J11 (1 : Int32) (by simp [hc156, hc169, hc176, hc182, hc189]) _ _ X8 rfl N8
      ·refine g_icmpNo X8 hx 192 (hb hby at_189) rfl (feq hc189).1 ?_
       refine g_iload X8 hx 194 (hb hby at_192) rfl rfl ?_
       refine g_iconst X8 hx 195 3 (hb hby at_194) rfl rfl ?_
       by_cases hc195 : (3 : Int32) < N
       ·refine g_icmpNo X8 hx 198 (hb hby at_195) rfl (tlt hc195).2.2.2 ?_
        refine g_iload X8 hx 200 (hb hby at_198) rfl rfl ?_
        refine gs m T8 202 #[.val (.int p1), .val (.int p2), .val (.int p3), .val (.int p4), .val (.int p5), .val (.int N), .val (.int (own_dr p1)), .val (.int (own_dr p2)), .val (.int (own_dr p3)), .val (.int (own_dr p4)), .val (.ref b), .val (.ref b6), .unset] [(.int 65533), (.int (own_dr p4))] (fun _ kS => X8.ldcInt hx hown (mvT hZ (tw hw 5 rfl)) (g := (mkF m 200 #[.val (.int p1), .val (.int p2), .val (.int p3), .val (.int p4), .val (.int p5), .val (.int N), .val (.int (own_dr p1)), .val (.int (own_dr p2)), .val (.int (own_dr p3)), .val (.int (own_dr p4)), .val (.ref b), .val (.ref b6), .unset] [(.int (own_dr p4))])) rfl (hb hby at_200) _ kS) ?_
        by_cases hc202 : (own_dr p4) = (65533 : Int32)
        ·refine g_icmpNo X8 hx 205 (hb hby at_202) rfl (teq hc202).2 ?_
         refine g_iconst X8 hx 206 1 (hb hby at_205) rfl rfl ?_
         refine g_goto X8 hx 210 (hb hby at_206) (by decide) (by decide) ?_
         exact J11 (1 : Int32) (by simp [hc156, hc169, hc176, hc182, hc189, hc195, hc202]) _ _ X8 rfl N8
        ·refine g_icmpYes X8 hx 209 (hb hby at_202) (feq hc202).2 (by decide) (by decide) ?_
         refine g_iconst X8 hx 210 0 (hb hby at_209) rfl rfl ?_
         exact J11 (0 : Int32) (by simp [hc156, hc169, hc176, hc182, hc189, hc195, hc202]) _ _ X8 rfl N8
       ·refine g_icmpYes X8 hx 209 (hb hby at_195) (flt hc195).2.2.2 (by decide) (by decide) ?_
        refine g_iconst X8 hx 210 0 (hb hby at_209) rfl rfl ?_
        exact J11 (0 : Int32) (by simp [hc156, hc169, hc176, hc182, hc189, hc195]) _ _ X8 rfl N8
     ·refine g_icmpYes X8 hx 192 (hb hby at_182) (flt hc182).2.2.2 (by decide) (by decide) ?_
      refine g_iload X8 hx 194 (hb hby at_192) rfl rfl ?_
      refine g_iconst X8 hx 195 3 (hb hby at_194) rfl rfl ?_
      by_cases hc195 : (3 : Int32) < N
      ·refine g_icmpNo X8 hx 198 (hb hby at_195) rfl (tlt hc195).2.2.2 ?_
       refine g_iload X8 hx 200 (hb hby at_198) rfl rfl ?_
       refine gs m T8 202 #[.val (.int p1), .val (.int p2), .val (.int p3), .val (.int p4), .val (.int p5), .val (.int N), .val (.int (own_dr p1)), .val (.int (own_dr p2)), .val (.int (own_dr p3)), .val (.int (own_dr p4)), .val (.ref b), .val (.ref b6), .unset] [(.int 65533), (.int (own_dr p4))] (fun _ kS => X8.ldcInt hx hown (mvT hZ (tw hw 5 rfl)) (g := (mkF m 200 #[.val (.int p1), .val (.int p2), .val (.int p3), .val (.int p4), .val (.int p5), .val (.int N), .val (.int (own_dr p1)), .val (.int (own_dr p2)), .val (.int (own_dr p3)), .val (.int (own_dr p4)), .val (.ref b), .val (.ref b6), .unset] [(.int (own_dr p4))])) rfl (hb hby at_200) _ kS) ?_
       by_cases hc202 : (own_dr p4) = (65533 : Int32)
       ·refine g_icmpNo X8 hx 205 (hb hby at_202) rfl (teq hc202).2 ?_
        refine g_iconst X8 hx 206 1 (hb hby at_205) rfl rfl ?_
        refine g_goto X8 hx 210 (hb hby at_206) (by decide) (by decide) ?_
        exact J11 (1 : Int32) (by simp [hc156, hc169, hc176, hc182, hc195, hc202]) _ _ X8 rfl N8
       ·refine g_icmpYes X8 hx 209 (hb hby at_202) (feq hc202).2 (by decide) (by decide) ?_
        refine g_iconst X8 hx 210 0 (hb hby at_209) rfl rfl ?_
        exact J11 (0 : Int32) (by simp [hc156, hc169, hc176, hc182, hc195, hc202]) _ _ X8 rfl N8
      ·refine g_icmpYes X8 hx 209 (hb hby at_195) (flt hc195).2.2.2 (by decide) (by decide) ?_
       refine g_iconst X8 hx 210 0 (hb hby at_209) rfl rfl ?_
       exact J11 (0 : Int32) (by simp [hc156, hc169, hc176, hc182, hc195]) _ _ X8 rfl N8
   ·refine g_icmpYes X8 hx 179 (hb hby at_169) (flt hc169).2.2.2 (by decide) (by decide) ?_
    refine g_iload X8 hx 181 (hb hby at_179) rfl rfl ?_
    refine g_iconst X8 hx 182 2 (hb hby at_181) rfl rfl ?_
    by_cases hc182 : (2 : Int32) < N
    ·refine g_icmpNo X8 hx 185 (hb hby at_182) rfl (tlt hc182).2.2.2 ?_
     refine g_iload X8 hx 187 (hb hby at_185) rfl rfl ?_
     refine gs m T8 189 #[.val (.int p1), .val (.int p2), .val (.int p3), .val (.int p4), .val (.int p5), .val (.int N), .val (.int (own_dr p1)), .val (.int (own_dr p2)), .val (.int (own_dr p3)), .val (.int (own_dr p4)), .val (.ref b), .val (.ref b6), .unset] [(.int 65533), (.int (own_dr p3))] (fun _ kS => X8.ldcInt hx hown (mvT hZ (tw hw 5 rfl)) (g := (mkF m 187 #[.val (.int p1), .val (.int p2), .val (.int p3), .val (.int p4), .val (.int p5), .val (.int N), .val (.int (own_dr p1)), .val (.int (own_dr p2)), .val (.int (own_dr p3)), .val (.int (own_dr p4)), .val (.ref b), .val (.ref b6), .unset] [(.int (own_dr p3))])) rfl (hb hby at_187) _ kS) ?_
     by_cases hc189 : (own_dr p3) = (65533 : Int32)
     ·refine g_icmpYes X8 hx 205 (hb hby at_189) (teq hc189).1 (by decide) (by decide) ?_
      refine g_iconst X8 hx 206 1 (hb hby at_205) rfl rfl ?_
      refine g_goto X8 hx 210 (hb hby at_206) (by decide) (by decide) ?_
      exact J11 (1 : Int32) (by simp [hc156, hc169, hc182, hc189]) _ _ X8 rfl N8
     ·refine g_icmpNo X8 hx 192 (hb hby at_189) rfl (feq hc189).1 ?_
      refine g_iload X8 hx 194 (hb hby at_192) rfl rfl ?_
      refine g_iconst X8 hx 195 3 (hb hby at_194) rfl rfl ?_
      by_cases hc195 : (3 : Int32) < N
      ·refine g_icmpNo X8 hx 198 (hb hby at_195) rfl (tlt hc195).2.2.2 ?_
       refine g_iload X8 hx 200 (hb hby at_198) rfl rfl ?_
       refine gs m T8 202 #[.val (.int p1), .val (.int p2), .val (.int p3), .val (.int p4), .val (.int p5), .val (.int N), .val (.int (own_dr p1)), .val (.int (own_dr p2)), .val (.int (own_dr p3)), .val (.int (own_dr p4)), .val (.ref b), .val (.ref b6), .unset] [(.int 65533), (.int (own_dr p4))] (fun _ kS => X8.ldcInt hx hown (mvT hZ (tw hw 5 rfl)) (g := (mkF m 200 #[.val (.int p1), .val (.int p2), .val (.int p3), .val (.int p4), .val (.int p5), .val (.int N), .val (.int (own_dr p1)), .val (.int (own_dr p2)), .val (.int (own_dr p3)), .val (.int (own_dr p4)), .val (.ref b), .val (.ref b6), .unset] [(.int (own_dr p4))])) rfl (hb hby at_200) _ kS) ?_
       by_cases hc202 : (own_dr p4) = (65533 : Int32)
       ·refine g_icmpNo X8 hx 205 (hb hby at_202) rfl (teq hc202).2 ?_
        refine g_iconst X8 hx 206 1 (hb hby at_205) rfl rfl ?_
        refine g_goto X8 hx 210 (hb hby at_206) (by decide) (by decide) ?_
        exact J11 (1 : Int32) (by simp [hc156, hc169, hc182, hc189, hc195, hc202]) _ _ X8 rfl N8
       ·refine g_icmpYes X8 hx 209 (hb hby at_202) (feq hc202).2 (by decide) (by decide) ?_
        refine g_iconst X8 hx 210 0 (hb hby at_209) rfl rfl ?_
        exact J11 (0 : Int32) (by simp [hc156, hc169, hc182, hc189, hc195, hc202]) _ _ X8 rfl N8
      ·refine g_icmpYes X8 hx 209 (hb hby at_195) (flt hc195).2.2.2 (by decide) (by decide) ?_
       refine g_iconst X8 hx 210 0 (hb hby at_209) rfl rfl ?_
       exact J11 (0 : Int32) (by simp [hc156, hc169, hc182, hc189, hc195]) _ _ X8 rfl N8
    ·refine g_icmpYes X8 hx 192 (hb hby at_182) (flt hc182).2.2.2 (by decide) (by decide) ?_
     refine g_iload X8 hx 194 (hb hby at_192) rfl rfl ?_
     refine g_iconst X8 hx 195 3 (hb hby at_194) rfl rfl ?_
     by_cases hc195 : (3 : Int32) < N
     ·refine g_icmpNo X8 hx 198 (hb hby at_195) rfl (tlt hc195).2.2.2 ?_
      refine g_iload X8 hx 200 (hb hby at_198) rfl rfl ?_
      refine gs m T8 202 #[.val (.int p1), .val (.int p2), .val (.int p3), .val (.int p4), .val (.int p5), .val (.int N), .val (.int (own_dr p1)), .val (.int (own_dr p2)), .val (.int (own_dr p3)), .val (.int (own_dr p4)), .val (.ref b), .val (.ref b6), .unset] [(.int 65533), (.int (own_dr p4))] (fun _ kS => X8.ldcInt hx hown (mvT hZ (tw hw 5 rfl)) (g := (mkF m 200 #[.val (.int p1), .val (.int p2), .val (.int p3), .val (.int p4), .val (.int p5), .val (.int N), .val (.int (own_dr p1)), .val (.int (own_dr p2)), .val (.int (own_dr p3)), .val (.int (own_dr p4)), .val (.ref b), .val (.ref b6), .unset] [(.int (own_dr p4))])) rfl (hb hby at_200) _ kS) ?_
      by_cases hc202 : (own_dr p4) = (65533 : Int32)
      ·refine g_icmpNo X8 hx 205 (hb hby at_202) rfl (teq hc202).2 ?_
       refine g_iconst X8 hx 206 1 (hb hby at_205) rfl rfl ?_
       refine g_goto X8 hx 210 (hb hby at_206) (by decide) (by decide) ?_
       exact J11 (1 : Int32) (by simp [hc156, hc169, hc182, hc195, hc202]) _ _ X8 rfl N8
      ·refine g_icmpYes X8 hx 209 (hb hby at_202) (feq hc202).2 (by decide) (by decide) ?_
       refine g_iconst X8 hx 210 0 (hb hby at_209) rfl rfl ?_
       exact J11 (0 : Int32) (by simp [hc156, hc169, hc182, hc195, hc202]) _ _ X8 rfl N8
     ·refine g_icmpYes X8 hx 209 (hb hby at_195) (flt hc195).2.2.2 (by decide) (by decide) ?_
      refine g_iconst X8 hx 210 0 (hb hby at_209) rfl rfl ?_
      exact J11 (0 : Int32) (by simp [hc156, hc169, hc182, hc195]) _ _ X8 rfl N8
 refine g_iload X4 hx 35 (hb hby at_33) rfl rfl ?_
 by_cases hc35 : N = (0 : Int32)
 ·refine g_ifNo X4 hx 38 (hb hby at_35) rfl ((if0 _ _).trans (teq hc35).2) ?_
  refine g_iconst X4 hx 39 0 (hb hby at_38) rfl rfl ?_
  obtain ⟨T14, h14, k14, X14, e14, E14, A14, st14⟩ := newP X4 hx hZ (tw hw 6 rfl) eh4 (g := (mkF m 39 #[.val (.int p1), .val (.int p2), .val (.int p3), .val (.int p4), .val (.int p5), .val (.int N), .val (.int (own_dr p1)), .val (.int (own_dr p2)), .val (.int (own_dr p3)), .val (.int (own_dr p4)), .unset, .unset, .unset] [(.int 0)])) rfl (hb hby at_39) rfl (by decide) (cap := 0) (by decide) (by decide) (by decide) (by decide)
  obtain ⟨b14, g14⟩ : ∃ z, z = h0.size := ⟨_, rfl⟩
  rw [← g14] at A14 st14
  have g_b14 : n0 ≤ b14 := Nat.le_trans Z0 (Nat.le_of_eq g14.symm)
  have Z15 : n0 ≤ h14.size := Nat.le_trans Z0 E14.1
  have hk := Nat.le_trans hk E14.1
  have O15 : Old Z n0 h14 := O0.ext E14
  have V_b14 : Arv Z h14 b14 k14 .char (0 : Int32) [] (.int 0) := (Arv.new A14 (by decide)).pad (pad_rep [] (.int 0) 0)
  refine gs m T14 41 #[.val (.int p1), .val (.int p2), .val (.int p3), .val (.int p4), .val (.int p5), .val (.int N), .val (.int (own_dr p1)), .val (.int (own_dr p2)), .val (.int (own_dr p3)), .val (.int (own_dr p4)), .unset, .unset, .unset] [(.ref b14)] st14 ?_
  refine g_astore X14 hx 43 (hb hby at_41) rfl rfl (l' := #[.val (.int p1), .val (.int p2), .val (.int p3), .val (.int p4), .val (.int p5), .val (.int N), .val (.int (own_dr p1)), .val (.int (own_dr p2)), .val (.int (own_dr p3)), .val (.int (own_dr p4)), .val (.ref b14), .unset, .unset]) rfl ?_
  refine g_goto X14 hx 143 (hb hby at_43) (by decide) (by decide) ?_
  have Vm : Arv Z h14 b14 k14 .char N (own_tb (own_4 (own_dr p1) (own_dr p2) (own_dr p3) (own_dr p4))) (.int 0) := by
   rw [hc35]
   exact own_lst V_b14 (by decide) (by intro j hj; have hj : j < 0 := hj; rcases j with _ | j <;> first | rfl | omega)
  exact J5 b14 k14 g_b14 h14 Z15 hk O15 Vm _ _ (X14.mono (by decide) (by decide)) e14 N4
 ·refine g_ifYes X4 hx 46 (hb hby at_35) ((if0 _ _).trans (feq hc35).2) (by decide) (by decide) ?_
  refine g_iload X4 hx 48 (hb hby at_46) rfl rfl ?_
  refine g_iconst X4 hx 49 1 (hb hby at_48) rfl rfl ?_
  by_cases hc49 : N = (1 : Int32)
  ·refine g_icmpNo X4 hx 52 (hb hby at_49) rfl (teq hc49).2 ?_
   refine g_iconst X4 hx 53 1 (hb hby at_52) rfl rfl ?_
   obtain ⟨T16, h16, k16, X16, e16, E16, A16, st16⟩ := newP X4 hx hZ (tw hw 6 rfl) eh4 (g := (mkF m 53 #[.val (.int p1), .val (.int p2), .val (.int p3), .val (.int p4), .val (.int p5), .val (.int N), .val (.int (own_dr p1)), .val (.int (own_dr p2)), .val (.int (own_dr p3)), .val (.int (own_dr p4)), .unset, .unset, .unset] [(.int 1)])) rfl (hb hby at_53) rfl (by decide) (cap := 1) (by decide) (by decide) (by decide) (by decide)
   obtain ⟨b16, g16⟩ : ∃ z, z = h0.size := ⟨_, rfl⟩
   rw [← g16] at A16 st16
   have g_b16 : n0 ≤ b16 := Nat.le_trans Z0 (Nat.le_of_eq g16.symm)
   have Z17 : n0 ≤ h16.size := Nat.le_trans Z0 E16.1
   have hk := Nat.le_trans hk E16.1
   have O17 : Old Z n0 h16 := O0.ext E16
   have V_b16 : Arv Z h16 b16 k16 .char (1 : Int32) [(.int 0)] (.int 0) := (Arv.new A16 (by decide)).pad (pad_rep [] (.int 0) 1)
   refine gs m T16 55 #[.val (.int p1), .val (.int p2), .val (.int p3), .val (.int p4), .val (.int p5), .val (.int N), .val (.int (own_dr p1)), .val (.int (own_dr p2)), .val (.int (own_dr p3)), .val (.int (own_dr p4)), .unset, .unset, .unset] [(.ref b16)] st16 ?_
   refine g_dup X16 hx 56 (hb hby at_55) rfl rfl ?_
   refine g_iconst X16 hx 57 0 (hb hby at_56) rfl rfl ?_
   refine g_iload X16 hx 59 (hb hby at_57) rfl rfl ?_
   obtain ⟨cl18, Ar18, qc18, Sz18, Nn18, Hs18, Gf18⟩ := id V_b16
   have hin19 : ¬ ((0 : Int32) < 0 ∨ cl18.slots.size ≤ ((0 : Int32)).toNatClampNeg) := (inb_of Sz18 ⟨by decide, by decide⟩)
   obtain ⟨T19, h19, X19, e19, W19, st19⟩ := stC X16 hx hZ e16 Ar18 (j := (0 : Int32)) hin19 (g := (mkF m 59 #[.val (.int p1), .val (.int p2), .val (.int p3), .val (.int p4), .val (.int p5), .val (.int N), .val (.int (own_dr p1)), .val (.int (own_dr p2)), .val (.int (own_dr p3)), .val (.int (own_dr p4)), .unset, .unset, .unset] [(.int (own_dr p1)), (.int 0), (.ref b16), (.ref b16)])) rfl rfl (hb hby at_59)
   have N19 := Fr.snoc X19 N4 g_b16
   have Z20 : n0 ≤ h19.size := Nat.le_trans Z17 (Keep.of_wr W19).1
   have hk := Nat.le_trans hk (Keep.of_wr W19).1
   have O20 : Old Z n0 h19 := O17.wr W19 g_b16
   rw [own_drn] at W19
   have Va19 : Arv Z h19 b16 k16 .char (1 : Int32) [(.int (own_dr p1))] (.int 0) := Arv.set Ar18 qc18 Sz18 Nn18 Hs18 Gf18 (own_drf _) W19 0 rfl (Nat.le_of_ble_eq_true rfl)
   refine gs m T19 60 #[.val (.int p1), .val (.int p2), .val (.int p3), .val (.int p4), .val (.int p5), .val (.int N), .val (.int (own_dr p1)), .val (.int (own_dr p2)), .val (.int (own_dr p3)), .val (.int (own_dr p4)), .unset, .unset, .unset] [(.ref b16)] st19 ?_
   refine g_astore X19 hx 62 (hb hby at_60) rfl rfl (l' := #[.val (.int p1), .val (.int p2), .val (.int p3), .val (.int p4), .val (.int p5), .val (.int N), .val (.int (own_dr p1)), .val (.int (own_dr p2)), .val (.int (own_dr p3)), .val (.int (own_dr p4)), .val (.ref b16), .unset, .unset]) rfl ?_
   refine g_goto X19 hx 143 (hb hby at_62) (by decide) (by decide) ?_
   have Vm : Arv Z h19 b16 k16 .char N (own_tb (own_4 (own_dr p1) (own_dr p2) (own_dr p3) (own_dr p4))) (.int 0) := by
    rw [hc49]
    exact own_lst Va19 (by decide) (by intro j hj; have hj : j < 1 := hj; rcases j with _ | j <;> first | rfl | omega)
   exact J5 b16 k16 g_b16 h19 Z20 hk O20 Vm _ _ (X19.mono (by decide) (by decide)) e19 N19
  ·refine g_icmpYes X4 hx 65 (hb hby at_49) (feq hc49).2 (by decide) (by decide) ?_
   refine g_iload X4 hx 67 (hb hby at_65) rfl rfl ?_
   refine g_iconst X4 hx 68 2 (hb hby at_67) rfl rfl ?_
   by_cases hc68 : N = (2 : Int32)
   ·refine g_icmpNo X4 hx 71 (hb hby at_68) rfl (teq hc68).2 ?_
    refine g_iconst X4 hx 72 2 (hb hby at_71) rfl rfl ?_
    obtain ⟨T21, h21, k21, X21, e21, E21, A21, st21⟩ := newP X4 hx hZ (tw hw 6 rfl) eh4 (g := (mkF m 72 #[.val (.int p1), .val (.int p2), .val (.int p3), .val (.int p4), .val (.int p5), .val (.int N), .val (.int (own_dr p1)), .val (.int (own_dr p2)), .val (.int (own_dr p3)), .val (.int (own_dr p4)), .unset, .unset, .unset] [(.int 2)])) rfl (hb hby at_72) rfl (by decide) (cap := 2) (by decide) (by decide) (by decide) (by decide)
    obtain ⟨b21, g21⟩ : ∃ z, z = h0.size := ⟨_, rfl⟩
    rw [← g21] at A21 st21
    have g_b21 : n0 ≤ b21 := Nat.le_trans Z0 (Nat.le_of_eq g21.symm)
    have Z22 : n0 ≤ h21.size := Nat.le_trans Z0 E21.1
    have hk := Nat.le_trans hk E21.1
    have O22 : Old Z n0 h21 := O0.ext E21
    have V_b21 : Arv Z h21 b21 k21 .char (2 : Int32) [(.int 0), (.int 0)] (.int 0) := (Arv.new A21 (by decide)).pad (pad_rep [] (.int 0) 2)
    refine gs m T21 74 #[.val (.int p1), .val (.int p2), .val (.int p3), .val (.int p4), .val (.int p5), .val (.int N), .val (.int (own_dr p1)), .val (.int (own_dr p2)), .val (.int (own_dr p3)), .val (.int (own_dr p4)), .unset, .unset, .unset] [(.ref b21)] st21 ?_
    refine g_dup X21 hx 75 (hb hby at_74) rfl rfl ?_
    refine g_iconst X21 hx 76 0 (hb hby at_75) rfl rfl ?_
    refine g_iload X21 hx 78 (hb hby at_76) rfl rfl ?_
    obtain ⟨cl23, Ar23, qc23, Sz23, Nn23, Hs23, Gf23⟩ := id V_b21
    have hin24 : ¬ ((0 : Int32) < 0 ∨ cl23.slots.size ≤ ((0 : Int32)).toNatClampNeg) := (inb_of Sz23 ⟨by decide, by decide⟩)
    obtain ⟨T24, h24, X24, e24, W24, st24⟩ := stC X21 hx hZ e21 Ar23 (j := (0 : Int32)) hin24 (g := (mkF m 78 #[.val (.int p1), .val (.int p2), .val (.int p3), .val (.int p4), .val (.int p5), .val (.int N), .val (.int (own_dr p1)), .val (.int (own_dr p2)), .val (.int (own_dr p3)), .val (.int (own_dr p4)), .unset, .unset, .unset] [(.int (own_dr p1)), (.int 0), (.ref b21), (.ref b21)])) rfl rfl (hb hby at_78)
    have N24 := Fr.snoc X24 N4 g_b21
    have Z25 : n0 ≤ h24.size := Nat.le_trans Z22 (Keep.of_wr W24).1
    have hk := Nat.le_trans hk (Keep.of_wr W24).1
    have O25 : Old Z n0 h24 := O22.wr W24 g_b21
    rw [own_drn] at W24
    have Va24 : Arv Z h24 b21 k21 .char (2 : Int32) [(.int (own_dr p1)), (.int 0)] (.int 0) := Arv.set Ar23 qc23 Sz23 Nn23 Hs23 Gf23 (own_drf _) W24 0 rfl (Nat.le_of_ble_eq_true rfl)
    refine gs m T24 79 #[.val (.int p1), .val (.int p2), .val (.int p3), .val (.int p4), .val (.int p5), .val (.int N), .val (.int (own_dr p1)), .val (.int (own_dr p2)), .val (.int (own_dr p3)), .val (.int (own_dr p4)), .unset, .unset, .unset] [(.ref b21)] st24 ?_
    refine g_dup X24 hx 80 (hb hby at_79) rfl rfl ?_
    refine g_iconst X24 hx 81 1 (hb hby at_80) rfl rfl ?_
    refine g_iload X24 hx 83 (hb hby at_81) rfl rfl ?_
    obtain ⟨cl26, Ar26, qc26, Sz26, Nn26, Hs26, Gf26⟩ := id Va24
    have hin27 : ¬ ((1 : Int32) < 0 ∨ cl26.slots.size ≤ ((1 : Int32)).toNatClampNeg) := (inb_of Sz26 ⟨by decide, by decide⟩)
    obtain ⟨T27, h27, X27, e27, W27, st27⟩ := stC X24 hx hZ e24 Ar26 (j := (1 : Int32)) hin27 (g := (mkF m 83 #[.val (.int p1), .val (.int p2), .val (.int p3), .val (.int p4), .val (.int p5), .val (.int N), .val (.int (own_dr p1)), .val (.int (own_dr p2)), .val (.int (own_dr p3)), .val (.int (own_dr p4)), .unset, .unset, .unset] [(.int (own_dr p2)), (.int 1), (.ref b21), (.ref b21)])) rfl rfl (hb hby at_83)
    have N27 := Fr.snoc X27 N24 g_b21
    have Z28 : n0 ≤ h27.size := Nat.le_trans Z25 (Keep.of_wr W27).1
    have hk := Nat.le_trans hk (Keep.of_wr W27).1
    have O28 : Old Z n0 h27 := O25.wr W27 g_b21
    rw [own_drn] at W27
    have Va27 : Arv Z h27 b21 k21 .char (2 : Int32) [(.int (own_dr p1)), (.int (own_dr p2))] (.int 0) := Arv.set Ar26 qc26 Sz26 Nn26 Hs26 Gf26 (own_drf _) W27 1 rfl (Nat.le_of_ble_eq_true rfl)
    refine gs m T27 84 #[.val (.int p1), .val (.int p2), .val (.int p3), .val (.int p4), .val (.int p5), .val (.int N), .val (.int (own_dr p1)), .val (.int (own_dr p2)), .val (.int (own_dr p3)), .val (.int (own_dr p4)), .unset, .unset, .unset] [(.ref b21)] st27 ?_
    refine g_astore X27 hx 86 (hb hby at_84) rfl rfl (l' := #[.val (.int p1), .val (.int p2), .val (.int p3), .val (.int p4), .val (.int p5), .val (.int N), .val (.int (own_dr p1)), .val (.int (own_dr p2)), .val (.int (own_dr p3)), .val (.int (own_dr p4)), .val (.ref b21), .unset, .unset]) rfl ?_
    refine g_goto X27 hx 143 (hb hby at_86) (by decide) (by decide) ?_
    have Vm : Arv Z h27 b21 k21 .char N (own_tb (own_4 (own_dr p1) (own_dr p2) (own_dr p3) (own_dr p4))) (.int 0) := by
     rw [hc68]
     exact own_lst Va27 (by decide) (by intro j hj; have hj : j < 2 := hj; rcases j with _ | _ | j <;> first | rfl | omega)
    exact J5 b21 k21 g_b21 h27 Z28 hk O28 Vm _ _ (X27.mono (by decide) (by decide)) e27 N27
   ·refine g_icmpYes X4 hx 89 (hb hby at_68) (feq hc68).2 (by decide) (by decide) ?_
    refine g_iload X4 hx 91 (hb hby at_89) rfl rfl ?_
    refine g_iconst X4 hx 92 3 (hb hby at_91) rfl rfl ?_
    by_cases hc92 : N = (3 : Int32)
    ·refine g_icmpNo X4 hx 95 (hb hby at_92) rfl (teq hc92).2 ?_
     refine g_iconst X4 hx 96 3 (hb hby at_95) rfl rfl ?_
     obtain ⟨T29, h29, k29, X29, e29, E29, A29, st29⟩ := newP X4 hx hZ (tw hw 6 rfl) eh4 (g := (mkF m 96 #[.val (.int p1), .val (.int p2), .val (.int p3), .val (.int p4), .val (.int p5), .val (.int N), .val (.int (own_dr p1)), .val (.int (own_dr p2)), .val (.int (own_dr p3)), .val (.int (own_dr p4)), .unset, .unset, .unset] [(.int 3)])) rfl (hb hby at_96) rfl (by decide) (cap := 3) (by decide) (by decide) (by decide) (by decide)
     obtain ⟨b29, g29⟩ : ∃ z, z = h0.size := ⟨_, rfl⟩
     rw [← g29] at A29 st29
     have g_b29 : n0 ≤ b29 := Nat.le_trans Z0 (Nat.le_of_eq g29.symm)
     have Z30 : n0 ≤ h29.size := Nat.le_trans Z0 E29.1
     have hk := Nat.le_trans hk E29.1
     have O30 : Old Z n0 h29 := O0.ext E29
     have V_b29 : Arv Z h29 b29 k29 .char (3 : Int32) [(.int 0), (.int 0), (.int 0)] (.int 0) := (Arv.new A29 (by decide)).pad (pad_rep [] (.int 0) 3)
     refine gs m T29 98 #[.val (.int p1), .val (.int p2), .val (.int p3), .val (.int p4), .val (.int p5), .val (.int N), .val (.int (own_dr p1)), .val (.int (own_dr p2)), .val (.int (own_dr p3)), .val (.int (own_dr p4)), .unset, .unset, .unset] [(.ref b29)] st29 ?_
     refine g_dup X29 hx 99 (hb hby at_98) rfl rfl ?_
     refine g_iconst X29 hx 100 0 (hb hby at_99) rfl rfl ?_
     refine g_iload X29 hx 102 (hb hby at_100) rfl rfl ?_
     obtain ⟨cl31, Ar31, qc31, Sz31, Nn31, Hs31, Gf31⟩ := id V_b29
     have hin32 : ¬ ((0 : Int32) < 0 ∨ cl31.slots.size ≤ ((0 : Int32)).toNatClampNeg) := (inb_of Sz31 ⟨by decide, by decide⟩)
     obtain ⟨T32, h32, X32, e32, W32, st32⟩ := stC X29 hx hZ e29 Ar31 (j := (0 : Int32)) hin32 (g := (mkF m 102 #[.val (.int p1), .val (.int p2), .val (.int p3), .val (.int p4), .val (.int p5), .val (.int N), .val (.int (own_dr p1)), .val (.int (own_dr p2)), .val (.int (own_dr p3)), .val (.int (own_dr p4)), .unset, .unset, .unset] [(.int (own_dr p1)), (.int 0), (.ref b29), (.ref b29)])) rfl rfl (hb hby at_102)
     have N32 := Fr.snoc X32 N4 g_b29
     have Z33 : n0 ≤ h32.size := Nat.le_trans Z30 (Keep.of_wr W32).1
     have hk := Nat.le_trans hk (Keep.of_wr W32).1
     have O33 : Old Z n0 h32 := O30.wr W32 g_b29
     rw [own_drn] at W32
     have Va32 : Arv Z h32 b29 k29 .char (3 : Int32) [(.int (own_dr p1)), (.int 0), (.int 0)] (.int 0) := Arv.set Ar31 qc31 Sz31 Nn31 Hs31 Gf31 (own_drf _) W32 0 rfl (Nat.le_of_ble_eq_true rfl)
     refine gs m T32 103 #[.val (.int p1), .val (.int p2), .val (.int p3), .val (.int p4), .val (.int p5), .val (.int N), .val (.int (own_dr p1)), .val (.int (own_dr p2)), .val (.int (own_dr p3)), .val (.int (own_dr p4)), .unset, .unset, .unset] [(.ref b29)] st32 ?_
     refine g_dup X32 hx 104 (hb hby at_103) rfl rfl ?_
     refine g_iconst X32 hx 105 1 (hb hby at_104) rfl rfl ?_
     refine g_iload X32 hx 107 (hb hby at_105) rfl rfl ?_
     obtain ⟨cl34, Ar34, qc34, Sz34, Nn34, Hs34, Gf34⟩ := id Va32
     have hin35 : ¬ ((1 : Int32) < 0 ∨ cl34.slots.size ≤ ((1 : Int32)).toNatClampNeg) := (inb_of Sz34 ⟨by decide, by decide⟩)
     obtain ⟨T35, h35, X35, e35, W35, st35⟩ := stC X32 hx hZ e32 Ar34 (j := (1 : Int32)) hin35 (g := (mkF m 107 #[.val (.int p1), .val (.int p2), .val (.int p3), .val (.int p4), .val (.int p5), .val (.int N), .val (.int (own_dr p1)), .val (.int (own_dr p2)), .val (.int (own_dr p3)), .val (.int (own_dr p4)), .unset, .unset, .unset] [(.int (own_dr p2)), (.int 1), (.ref b29), (.ref b29)])) rfl rfl (hb hby at_107)
     have N35 := Fr.snoc X35 N32 g_b29
     have Z36 : n0 ≤ h35.size := Nat.le_trans Z33 (Keep.of_wr W35).1
     have hk := Nat.le_trans hk (Keep.of_wr W35).1
     have O36 : Old Z n0 h35 := O33.wr W35 g_b29
     rw [own_drn] at W35
     have Va35 : Arv Z h35 b29 k29 .char (3 : Int32) [(.int (own_dr p1)), (.int (own_dr p2)), (.int 0)] (.int 0) := Arv.set Ar34 qc34 Sz34 Nn34 Hs34 Gf34 (own_drf _) W35 1 rfl (Nat.le_of_ble_eq_true rfl)
     refine gs m T35 108 #[.val (.int p1), .val (.int p2), .val (.int p3), .val (.int p4), .val (.int p5), .val (.int N), .val (.int (own_dr p1)), .val (.int (own_dr p2)), .val (.int (own_dr p3)), .val (.int (own_dr p4)), .unset, .unset, .unset] [(.ref b29)] st35 ?_
     refine g_dup X35 hx 109 (hb hby at_108) rfl rfl ?_
     refine g_iconst X35 hx 110 2 (hb hby at_109) rfl rfl ?_
     refine g_iload X35 hx 112 (hb hby at_110) rfl rfl ?_
     obtain ⟨cl37, Ar37, qc37, Sz37, Nn37, Hs37, Gf37⟩ := id Va35
     have hin38 : ¬ ((2 : Int32) < 0 ∨ cl37.slots.size ≤ ((2 : Int32)).toNatClampNeg) := (inb_of Sz37 ⟨by decide, by decide⟩)
     obtain ⟨T38, h38, X38, e38, W38, st38⟩ := stC X35 hx hZ e35 Ar37 (j := (2 : Int32)) hin38 (g := (mkF m 112 #[.val (.int p1), .val (.int p2), .val (.int p3), .val (.int p4), .val (.int p5), .val (.int N), .val (.int (own_dr p1)), .val (.int (own_dr p2)), .val (.int (own_dr p3)), .val (.int (own_dr p4)), .unset, .unset, .unset] [(.int (own_dr p3)), (.int 2), (.ref b29), (.ref b29)])) rfl rfl (hb hby at_112)
     have N38 := Fr.snoc X38 N35 g_b29
     have Z39 : n0 ≤ h38.size := Nat.le_trans Z36 (Keep.of_wr W38).1
     have hk := Nat.le_trans hk (Keep.of_wr W38).1
     have O39 : Old Z n0 h38 := O36.wr W38 g_b29
     rw [own_drn] at W38
     have Va38 : Arv Z h38 b29 k29 .char (3 : Int32) [(.int (own_dr p1)), (.int (own_dr p2)), (.int (own_dr p3))] (.int 0) := Arv.set Ar37 qc37 Sz37 Nn37 Hs37 Gf37 (own_drf _) W38 2 rfl (Nat.le_of_ble_eq_true rfl)
     refine gs m T38 113 #[.val (.int p1), .val (.int p2), .val (.int p3), .val (.int p4), .val (.int p5), .val (.int N), .val (.int (own_dr p1)), .val (.int (own_dr p2)), .val (.int (own_dr p3)), .val (.int (own_dr p4)), .unset, .unset, .unset] [(.ref b29)] st38 ?_
     refine g_astore X38 hx 115 (hb hby at_113) rfl rfl (l' := #[.val (.int p1), .val (.int p2), .val (.int p3), .val (.int p4), .val (.int p5), .val (.int N), .val (.int (own_dr p1)), .val (.int (own_dr p2)), .val (.int (own_dr p3)), .val (.int (own_dr p4)), .val (.ref b29), .unset, .unset]) rfl ?_
     refine g_goto X38 hx 143 (hb hby at_115) (by decide) (by decide) ?_
     have Vm : Arv Z h38 b29 k29 .char N (own_tb (own_4 (own_dr p1) (own_dr p2) (own_dr p3) (own_dr p4))) (.int 0) := by
      rw [hc92]
      exact own_lst Va38 (by decide) (by intro j hj; have hj : j < 3 := hj; rcases j with _ | _ | _ | j <;> first | rfl | omega)
     exact J5 b29 k29 g_b29 h38 Z39 hk O39 Vm _ _ (X38.mono (by decide) (by decide)) e38 N38
    ·refine g_icmpYes X4 hx 118 (hb hby at_92) (feq hc92).2 (by decide) (by decide) ?_
     refine g_iconst X4 hx 119 4 (hb hby at_118) rfl rfl ?_
     obtain ⟨T40, h40, k40, X40, e40, E40, A40, st40⟩ := newP X4 hx hZ (tw hw 6 rfl) eh4 (g := (mkF m 119 #[.val (.int p1), .val (.int p2), .val (.int p3), .val (.int p4), .val (.int p5), .val (.int N), .val (.int (own_dr p1)), .val (.int (own_dr p2)), .val (.int (own_dr p3)), .val (.int (own_dr p4)), .unset, .unset, .unset] [(.int 4)])) rfl (hb hby at_119) rfl (by decide) (cap := 4) (by decide) (by decide) (by decide) (by decide)
     obtain ⟨b40, g40⟩ : ∃ z, z = h0.size := ⟨_, rfl⟩
     rw [← g40] at A40 st40
     have g_b40 : n0 ≤ b40 := Nat.le_trans Z0 (Nat.le_of_eq g40.symm)
     have Z41 : n0 ≤ h40.size := Nat.le_trans Z0 E40.1
     have hk := Nat.le_trans hk E40.1
     have O41 : Old Z n0 h40 := O0.ext E40
     have V_b40 : Arv Z h40 b40 k40 .char (4 : Int32) [(.int 0), (.int 0), (.int 0), (.int 0)] (.int 0) := (Arv.new A40 (by decide)).pad (pad_rep [] (.int 0) 4)
     refine gs m T40 121 #[.val (.int p1), .val (.int p2), .val (.int p3), .val (.int p4), .val (.int p5), .val (.int N), .val (.int (own_dr p1)), .val (.int (own_dr p2)), .val (.int (own_dr p3)), .val (.int (own_dr p4)), .unset, .unset, .unset] [(.ref b40)] st40 ?_
     refine g_dup X40 hx 122 (hb hby at_121) rfl rfl ?_
     refine g_iconst X40 hx 123 0 (hb hby at_122) rfl rfl ?_
     refine g_iload X40 hx 125 (hb hby at_123) rfl rfl ?_
     obtain ⟨cl42, Ar42, qc42, Sz42, Nn42, Hs42, Gf42⟩ := id V_b40
     have hin43 : ¬ ((0 : Int32) < 0 ∨ cl42.slots.size ≤ ((0 : Int32)).toNatClampNeg) := (inb_of Sz42 ⟨by decide, by decide⟩)
     obtain ⟨T43, h43, X43, e43, W43, st43⟩ := stC X40 hx hZ e40 Ar42 (j := (0 : Int32)) hin43 (g := (mkF m 125 #[.val (.int p1), .val (.int p2), .val (.int p3), .val (.int p4), .val (.int p5), .val (.int N), .val (.int (own_dr p1)), .val (.int (own_dr p2)), .val (.int (own_dr p3)), .val (.int (own_dr p4)), .unset, .unset, .unset] [(.int (own_dr p1)), (.int 0), (.ref b40), (.ref b40)])) rfl rfl (hb hby at_125)
     have N43 := Fr.snoc X43 N4 g_b40
     have Z44 : n0 ≤ h43.size := Nat.le_trans Z41 (Keep.of_wr W43).1
     have hk := Nat.le_trans hk (Keep.of_wr W43).1
     have O44 : Old Z n0 h43 := O41.wr W43 g_b40
     rw [own_drn] at W43
     have Va43 : Arv Z h43 b40 k40 .char (4 : Int32) [(.int (own_dr p1)), (.int 0), (.int 0), (.int 0)] (.int 0) := Arv.set Ar42 qc42 Sz42 Nn42 Hs42 Gf42 (own_drf _) W43 0 rfl (Nat.le_of_ble_eq_true rfl)
     refine gs m T43 126 #[.val (.int p1), .val (.int p2), .val (.int p3), .val (.int p4), .val (.int p5), .val (.int N), .val (.int (own_dr p1)), .val (.int (own_dr p2)), .val (.int (own_dr p3)), .val (.int (own_dr p4)), .unset, .unset, .unset] [(.ref b40)] st43 ?_
     refine g_dup X43 hx 127 (hb hby at_126) rfl rfl ?_
     refine g_iconst X43 hx 128 1 (hb hby at_127) rfl rfl ?_
     refine g_iload X43 hx 130 (hb hby at_128) rfl rfl ?_
     obtain ⟨cl45, Ar45, qc45, Sz45, Nn45, Hs45, Gf45⟩ := id Va43
     have hin46 : ¬ ((1 : Int32) < 0 ∨ cl45.slots.size ≤ ((1 : Int32)).toNatClampNeg) := (inb_of Sz45 ⟨by decide, by decide⟩)
     obtain ⟨T46, h46, X46, e46, W46, st46⟩ := stC X43 hx hZ e43 Ar45 (j := (1 : Int32)) hin46 (g := (mkF m 130 #[.val (.int p1), .val (.int p2), .val (.int p3), .val (.int p4), .val (.int p5), .val (.int N), .val (.int (own_dr p1)), .val (.int (own_dr p2)), .val (.int (own_dr p3)), .val (.int (own_dr p4)), .unset, .unset, .unset] [(.int (own_dr p2)), (.int 1), (.ref b40), (.ref b40)])) rfl rfl (hb hby at_130)
     have N46 := Fr.snoc X46 N43 g_b40
     have Z47 : n0 ≤ h46.size := Nat.le_trans Z44 (Keep.of_wr W46).1
     have hk := Nat.le_trans hk (Keep.of_wr W46).1
     have O47 : Old Z n0 h46 := O44.wr W46 g_b40
     rw [own_drn] at W46
     have Va46 : Arv Z h46 b40 k40 .char (4 : Int32) [(.int (own_dr p1)), (.int (own_dr p2)), (.int 0), (.int 0)] (.int 0) := Arv.set Ar45 qc45 Sz45 Nn45 Hs45 Gf45 (own_drf _) W46 1 rfl (Nat.le_of_ble_eq_true rfl)
     refine gs m T46 131 #[.val (.int p1), .val (.int p2), .val (.int p3), .val (.int p4), .val (.int p5), .val (.int N), .val (.int (own_dr p1)), .val (.int (own_dr p2)), .val (.int (own_dr p3)), .val (.int (own_dr p4)), .unset, .unset, .unset] [(.ref b40)] st46 ?_
     refine g_dup X46 hx 132 (hb hby at_131) rfl rfl ?_
     refine g_iconst X46 hx 133 2 (hb hby at_132) rfl rfl ?_
     refine g_iload X46 hx 135 (hb hby at_133) rfl rfl ?_
     obtain ⟨cl48, Ar48, qc48, Sz48, Nn48, Hs48, Gf48⟩ := id Va46
     have hin49 : ¬ ((2 : Int32) < 0 ∨ cl48.slots.size ≤ ((2 : Int32)).toNatClampNeg) := (inb_of Sz48 ⟨by decide, by decide⟩)
     obtain ⟨T49, h49, X49, e49, W49, st49⟩ := stC X46 hx hZ e46 Ar48 (j := (2 : Int32)) hin49 (g := (mkF m 135 #[.val (.int p1), .val (.int p2), .val (.int p3), .val (.int p4), .val (.int p5), .val (.int N), .val (.int (own_dr p1)), .val (.int (own_dr p2)), .val (.int (own_dr p3)), .val (.int (own_dr p4)), .unset, .unset, .unset] [(.int (own_dr p3)), (.int 2), (.ref b40), (.ref b40)])) rfl rfl (hb hby at_135)
     have N49 := Fr.snoc X49 N46 g_b40
     have Z50 : n0 ≤ h49.size := Nat.le_trans Z47 (Keep.of_wr W49).1
     have hk := Nat.le_trans hk (Keep.of_wr W49).1
     have O50 : Old Z n0 h49 := O47.wr W49 g_b40
     rw [own_drn] at W49
     have Va49 : Arv Z h49 b40 k40 .char (4 : Int32) [(.int (own_dr p1)), (.int (own_dr p2)), (.int (own_dr p3)), (.int 0)] (.int 0) := Arv.set Ar48 qc48 Sz48 Nn48 Hs48 Gf48 (own_drf _) W49 2 rfl (Nat.le_of_ble_eq_true rfl)
     refine gs m T49 136 #[.val (.int p1), .val (.int p2), .val (.int p3), .val (.int p4), .val (.int p5), .val (.int N), .val (.int (own_dr p1)), .val (.int (own_dr p2)), .val (.int (own_dr p3)), .val (.int (own_dr p4)), .unset, .unset, .unset] [(.ref b40)] st49 ?_
     refine g_dup X49 hx 137 (hb hby at_136) rfl rfl ?_
     refine g_iconst X49 hx 138 3 (hb hby at_137) rfl rfl ?_
     refine g_iload X49 hx 140 (hb hby at_138) rfl rfl ?_
     obtain ⟨cl51, Ar51, qc51, Sz51, Nn51, Hs51, Gf51⟩ := id Va49
     have hin52 : ¬ ((3 : Int32) < 0 ∨ cl51.slots.size ≤ ((3 : Int32)).toNatClampNeg) := (inb_of Sz51 ⟨by decide, by decide⟩)
     obtain ⟨T52, h52, X52, e52, W52, st52⟩ := stC X49 hx hZ e49 Ar51 (j := (3 : Int32)) hin52 (g := (mkF m 140 #[.val (.int p1), .val (.int p2), .val (.int p3), .val (.int p4), .val (.int p5), .val (.int N), .val (.int (own_dr p1)), .val (.int (own_dr p2)), .val (.int (own_dr p3)), .val (.int (own_dr p4)), .unset, .unset, .unset] [(.int (own_dr p4)), (.int 3), (.ref b40), (.ref b40)])) rfl rfl (hb hby at_140)
     have N52 := Fr.snoc X52 N49 g_b40
     have Z53 : n0 ≤ h52.size := Nat.le_trans Z50 (Keep.of_wr W52).1
     have hk := Nat.le_trans hk (Keep.of_wr W52).1
     have O53 : Old Z n0 h52 := O50.wr W52 g_b40
     rw [own_drn] at W52
     have Va52 : Arv Z h52 b40 k40 .char (4 : Int32) [(.int (own_dr p1)), (.int (own_dr p2)), (.int (own_dr p3)), (.int (own_dr p4))] (.int 0) := Arv.set Ar51 qc51 Sz51 Nn51 Hs51 Gf51 (own_drf _) W52 3 rfl (Nat.le_of_ble_eq_true rfl)
     refine gs m T52 141 #[.val (.int p1), .val (.int p2), .val (.int p3), .val (.int p4), .val (.int p5), .val (.int N), .val (.int (own_dr p1)), .val (.int (own_dr p2)), .val (.int (own_dr p3)), .val (.int (own_dr p4)), .unset, .unset, .unset] [(.ref b40)] st52 ?_
     refine g_astore X52 hx 143 (hb hby at_141) rfl rfl (l' := #[.val (.int p1), .val (.int p2), .val (.int p3), .val (.int p4), .val (.int p5), .val (.int N), .val (.int (own_dr p1)), .val (.int (own_dr p2)), .val (.int (own_dr p3)), .val (.int (own_dr p4)), .val (.ref b40), .unset, .unset]) rfl ?_
     have hn4 := own_n4 hN hnl hc35 hc49 hc68 hc92
     have Vm : Arv Z h52 b40 k40 .char N (own_tb (own_4 (own_dr p1) (own_dr p2) (own_dr p3) (own_dr p4))) (.int 0) := by
      rw [hn4]
      exact own_lst Va52 (by decide) (by intro j hj; have hj : j < 4 := hj; rcases j with _ | _ | _ | _ | j <;> first | rfl | omega)
     exact J5 b40 k40 g_b40 h52 Z53 hk O53 Vm _ _ X52 e52 N52
set_option maxRecDepth 65536 in
set_option maxHeartbeats 40000000 in
theorem comes_1 {Post : Tables → Env → Array Value → State → Outcome → State → Prop} (hpost : ∀ tb e args s v u, (limb_1_1.after args s (.returned v) u = true ∧ limb_1_2.after args s (.returned v) u = true ∧ True) → ReturnedEndW s (.returned v) u (Jvm.fieldLocs frame_1_writes args s ++ Jvm.arrayLocs frame_1_arrays args s ++ Jvm.staticLocs frame_1_statics s) 24 1152 → Post tb e args s (.returned v) u) :
    ArmFor flags0 classFile x code maxLocals ret World_1 tables_1 room_1 Calls_1 rest_1 Pre_1 Post := by
  intro l hfl _ _ p e ha hc hk s m args below hf hA hF happ hP
  obtain ⟨hcalls, hrest, hpre⟩ := hP
  obtain ⟨-, -, -, hnamed, -, -, -, hat⟩ := (Spec.applies_iff hf).mp happ
  obtain ⟨hg, hn⟩ := and_e (Cond.before_iff.mp (show (Jvm.Cond.and given_1 narrow_1).before args s = true from hpre))
  obtain ⟨g1, g2⟩ := and_e hg
  obtain ⟨g3, g4⟩ := and_e g2
  obtain ⟨g5, g6⟩ := and_e g4
  obtain ⟨g7, g8⟩ := and_e g6
  obtain ⟨g9, g10⟩ := and_e g8
  obtain ⟨w0, w1, w2, w3, w4, rfl⟩ : ∃ w0 w1 w2 w3 w4 : Value, args = #[w0, w1, w2, w3, w4] := by
    have hs : args.size = 5 := by simpa [Cond.value, given_1] using g1
    obtain ⟨L⟩ := args
    match L, hs with
    | [w0, w1, w2, w3, w4], _ => exact ⟨w0, w1, w2, w3, w4, rfl⟩
  have hw := fun d (hd : d ∈ tables_1) => atoms_spec (ws := Jvm.Cond.code x code maxLocals ret :: tables_1) hat d (List.mem_cons_of_mem _ hd)
  have hfit : Fit s := fun {y c} hc i hi => by
    obtain ⟨ha, rfl⟩ := Array.getElem?_eq_some_iff.mp hc
    have q := List.all_eq_true.mp ((Array.all_eq_true_iff_forall_mem.mp hF) _ (Array.getElem_mem ha)) i (List.mem_range.mpr hi)
    simpa [Array.getElem?_eq_getElem hi] using q
  obtain ⟨hsets, hown0⟩ := atoms_of _ (rest_1_c_eq ▸ (show rest_1_c.before _ s = true from hrest))
  have hr0 := Cond.before_iff.mp hown0
  obtain ⟨i0, ei0⟩ := is_v g3
  obtain rfl : w0 = (.int i0) := Option.some.inj ei0
  obtain ⟨i1, ei1⟩ := is_v g5
  obtain rfl : w1 = (.int i1) := Option.some.inj ei1
  obtain ⟨i2, ei2⟩ := is_v g7
  obtain rfl : w2 = (.int i2) := Option.some.inj ei2
  obtain ⟨i3, ei3⟩ := is_v g9
  obtain rfl : w3 = (.int i3) := Option.some.inj ei3
  obtain ⟨i4, ei4⟩ := is_v g10
  obtain rfl : w4 = (.int i4) := Option.some.inj ei4
  obtain ⟨cs, ev_cs⟩ := is_v (Cond.before_iff.mp (hsets _ (List.mem_of_getElem? (i := 1) rfl)))
  have S_COMPACT_STRINGS := Sta.start ev_cs (Or.inl (hsets _ (List.mem_of_getElem? (i := 0) rfl)))
  have hcs : ¬ cs = (0 : Int32) := by
    have q := not_v (Cond.before_iff.mp (hsets _ (List.mem_of_getElem? (i := 2) rfl)))
    intro e
    subst e
    simp [Cond.value, Term.eval] at q
    simp [Term.eval] at ev_cs
    simp [ev_cs] at q
  have S__assertionsDisabled := Sta.start (own_eqk (Cond.before_iff.mp (hsets _ (List.mem_of_getElem? (i := 12) rfl)))) (Or.inl (hsets _ (List.mem_of_getElem? (i := 11) rfl)))
  have S_HI_BYTE_SHIFT := Sta.start (own_eqk (Cond.before_iff.mp (hsets _ (List.mem_of_getElem? (i := 15) rfl)))) (Or.inl (hsets _ (List.mem_of_getElem? (i := 14) rfl)))
  have S_LO_BYTE_SHIFT := Sta.start (own_eqk (Cond.before_iff.mp (hsets _ (List.mem_of_getElem? (i := 18) rfl)))) (Or.inl (hsets _ (List.mem_of_getElem? (i := 17) rfl)))
  obtain ⟨fv, ev_f, hfv⟩ := isR_v (Cond.before_iff.mp (hsets _ (List.mem_of_getElem? (i := 8) rfl)))
  have S_SIOOBE_FORMATTER := Sta.start ev_f (Or.inl (hsets _ (List.mem_of_getElem? (i := 7) rfl)))
  have hCH : Jvm.Lit.constHeld s "java/lang/String" 7 := hcalls.1 ("java/lang/String", 7) (by decide)
  have hCW : Jvm.Lit.compactW.before _ s = true := (hsets _ (List.mem_of_getElem? (i := 2) rfl))
  obtain ⟨n, o, h1, h2, h3, _, L, rfl, ⟨rfl, N⟩, hq⟩ := rm0 l s _ hw tables_1 i0 i1 i2 i3 i4 cs fv s.heap s.heap.size (Nat.le_refl _) (Old.start s) S_COMPACT_STRINGS hcs ⟨S__assertionsDisabled, S_HI_BYTE_SHIFT, S_LO_BYTE_SHIFT⟩ S_SIOOBE_FORMATTER hfv hCH hCW p e ha hc hk s m _ below hf ((Spec.applies_iff_loose hf).mp happ).1 ⟨rfl, State.Warmed39.refl s, rfl, rfl⟩ trivial
  refine ⟨n, _, h1, h2, h3, hpost _ _ _ _ _ _ ⟨Cond.after_iff.mpr rfl, Cond.after_iff.mpr (eq_i res_at (Term.int_eval (1)) rfl), trivial⟩ ⟨hq.1, hq.2.1, hq.2.2.1, (hq.2.2.2.sift fun y hy => Or.inr (N y hy)).mono (by decide) (by decide)⟩⟩
theorem main_1_1 : Claimed_1_1 := comes_1 fun _ _ _ _ _ _ h hF => ⟨h.1, hF⟩
theorem main_1_2 : Claimed_1_2 := comes_1 fun _ _ _ _ _ _ h hF => ⟨h.2.1, hF⟩
end Jvm.Pilot.@@N@@
namespace Jvm.Pilot.@@N@@
open Jvm Jvm.ClassFile Sem Op Lib Jvm.Free Jvm.Stand Jvm.Pilot.@@N@@.Jvm.D
/-! MADE BY PROGRAM (witnessworld.py) out of the Statement's table words and the real class files: 21 classes; the members and pool entries that the words name. The judged class is class 1, her method 2. -/
namespace start1
open Jvm.ClassFile
def u (s : String) : CpInfo := .utf8 (stringToUtf16 s)
/-- a pool by its gaps: so many unusable entries, then the entry; so many at the end -/
def gap : Nat → List CpInfo → List CpInfo
  | 0, r => r
  | n + 1, r => .unusable :: gap n r
def poolList (es : List (Nat × CpInfo)) (last : Nat) : List CpInfo := es.foldr (fun e r => gap e.1 (e.2 :: r)) (gap last [])
def pool (es : List (Nat × CpInfo)) (last : Nat) : Array CpInfo := ⟨poolList es last⟩
def fileOf (pool : Array CpInfo) (this : Nat) (attrs : Array Attribute := #[]) (ms : Array MethodInfo := #[]) (fl : Nat := 33) (sup : Nat := 0) (ifs : Array Nat := #[]) (fds : Array FieldInfo := #[]) : ClassFile where
  minorVersion := 0
  majorVersion := 65
  constantPool := pool
  accessFlags := fl
  thisClass := this
  superClass := sup
  interfaces := ifs
  fields := fds
  methods := ms
  attributes := attrs
def plain (name : String) (sup : Option ClassId) : Class where
  name := name
  kind := .ordinary
  loader := none
  accessFlags := 33
  super := sup
  interfaces := #[]
  cf := none
  fields := #[]
  methods := #[]
  instanceTypes := #[]
  staticTypes := #[]
  resolved := #[]
  callSites := []
  init := .initialized
  statics := none
  mirror := none

def pool0 : Array CpInfo := pool [(5, u "<init>"), (0, u "()V"), (1, .class_ 10), (1, u "java/lang/Object")] 113

def k0c0 : Code := { maxStack := 0, maxLocals := 1, code := object_method_1_code, exceptionTable := #[], attributes := #[] }
def k0m0 : Method := { name := "<init>", desc := "()V", sig := { parameters := [], returnType := none }, accessFlags := 1, code := some k0c0 }
/-- java/lang/Object -/
def k0 : Class := { plain "java/lang/Object" none with
  accessFlags := 33
  interfaces := #[]
  cf := some (fileOf pool0 8 #[] #[{ accessFlags := 1, nameIndex := 5, descriptorIndex := 6, attributes := #[] }] 33 0 #[] #[])
  fields := #[]
  methods := #[k0m0]
  instanceTypes := #[]
  staticTypes := #[]
  resolved := Array.replicate 124 none
  statics := none }

def pool1 : Array CpInfo := pool [(2, .class_ 4), (1, u "java/lang/Object"), (0, u "<init>"), (0, u "()V"), (0, .integer 65533), (0, .integer 65535), (0, .integer 2147483647), (0, .methodref 11 12), (0, .class_ 13), (0, .nameAndType 14 15), (0, u "com/example/tessera/tessera/cli/DecodingFailedPinLaw"), (0, u "draw"), (0, u "(I)C"), (0, .class_ 17), (0, u "java/lang/String"), (0, .methodref 16 19), (0, .nameAndType 5 20), (0, u "([C)V"), (0, .methodref 22 23), (0, .class_ 24), (0, .nameAndType 25 26), (0, u "com/example/tessera/tessera/cli/Decoding"), (0, u "failed"), (0, u "(Ljava/lang/String;)Z"), (3, u "law"), (0, u "(IIIII)Z")] 4

def k1m0 : Method := { name := "<init>", desc := "()V", sig := { parameters := [], returnType := none }, accessFlags := 2, code := none }
def k1c1 : Code := { maxStack := 2, maxLocals := 1, code := method_2_code, exceptionTable := #[], attributes := #[] }
def k1m1 : Method := { name := "draw", desc := "(I)C", sig := { parameters := [.int], returnType := some .char }, accessFlags := 10, code := some k1c1 }
def k1c2 : Code := { maxStack := 4, maxLocals := 13, code := code, exceptionTable := #[], attributes := #[] }
def k1m2 : Method := { name := "law", desc := "(IIIII)Z", sig := { parameters := [.int, .int, .int, .int, .int], returnType := some .boolean }, accessFlags := 9, code := some k1c2 }
/-- com/example/tessera/tessera/cli/DecodingFailedPinLaw -/
def k1 : Class := { plain "com/example/tessera/tessera/cli/DecodingFailedPinLaw" (some 0) with
  accessFlags := 49
  interfaces := #[]
  cf := some (fileOf pool1 11 #[] #[{ accessFlags := 2, nameIndex := 5, descriptorIndex := 6, attributes := #[] }, { accessFlags := 10, nameIndex := 14, descriptorIndex := 15, attributes := #[] }, { accessFlags := 9, nameIndex := 30, descriptorIndex := 31, attributes := #[] }] 49 2 #[] #[])
  fields := #[]
  methods := #[k1m0, k1m1, k1m2]
  instanceTypes := #[]
  staticTypes := #[]
  resolved := Array.replicate 36 none
  statics := none }

def pool2 : Array CpInfo := pool [(1, .class_ 2), (0, u "java/io/Serializable"), (0, .class_ 4), (0, u "java/lang/Object")] 2

/-- java/io/Serializable -/
def k2 : Class := { plain "java/io/Serializable" (some 0) with
  accessFlags := 1537
  interfaces := #[]
  cf := some (fileOf pool2 1 #[] #[] 1537 3 #[] #[])
  fields := #[]
  methods := #[]
  instanceTypes := #[]
  staticTypes := #[]
  resolved := Array.replicate 7 none
  statics := none }

def pool3 : Array CpInfo := pool [(1, .class_ 2), (0, u "java/lang/Comparable"), (0, .class_ 4), (0, u "java/lang/Object")] 7

/-- java/lang/Comparable -/
def k3 : Class := { plain "java/lang/Comparable" (some 0) with
  accessFlags := 1537
  interfaces := #[]
  cf := some (fileOf pool3 1 #[] #[] 1537 3 #[] #[])
  fields := #[]
  methods := #[]
  instanceTypes := #[]
  staticTypes := #[]
  resolved := Array.replicate 12 none
  statics := none }

def pool4 : Array CpInfo := pool [(2, .class_ 4), (1, u "java/lang/CharSequence"), (42, .class_ 48), (0, u "java/lang/CharSequence$1CodePointIterator"), (10, .class_ 60), (0, u "java/lang/CharSequence$1CharIterator"), (5, .class_ 67), (0, u "java/lang/Object")] 63

/-- java/lang/CharSequence -/
def k4 : Class := { plain "java/lang/CharSequence" (some 0) with
  accessFlags := 1537
  interfaces := #[]
  cf := some (fileOf pool4 2 #[.nestMembers #[47, 59]] #[] 1537 66 #[] #[])
  fields := #[]
  methods := #[]
  instanceTypes := #[]
  staticTypes := #[]
  resolved := Array.replicate 131 none
  statics := none }

def pool5 : Array CpInfo := pool [(1, .class_ 2), (0, u "java/lang/constant/Constable"), (0, .class_ 4), (0, u "java/lang/Object")] 6

/-- java/lang/constant/Constable -/
def k5 : Class := { plain "java/lang/constant/Constable" (some 0) with
  accessFlags := 1537
  interfaces := #[]
  cf := some (fileOf pool5 1 #[] #[] 1537 3 #[] #[])
  fields := #[]
  methods := #[]
  instanceTypes := #[]
  staticTypes := #[]
  resolved := Array.replicate 11 none
  statics := none }

def pool6 : Array CpInfo := pool [(1, .class_ 2), (0, u "java/lang/constant/ConstantDesc"), (0, .class_ 4), (0, u "java/lang/Object")] 32

/-- java/lang/constant/ConstantDesc -/
def k6 : Class := { plain "java/lang/constant/ConstantDesc" (some 0) with
  accessFlags := 1537
  interfaces := #[]
  cf := some (fileOf pool6 1 #[] #[] 1537 3 #[] #[])
  fields := #[]
  methods := #[]
  instanceTypes := #[]
  staticTypes := #[]
  resolved := Array.replicate 37 none
  statics := none }

def pool7 : Array CpInfo := pool [(1, .methodref 2 3), (0, .class_ 4), (0, .nameAndType 5 6), (0, u "java/lang/Object"), (0, u "<init>"), (0, u "()V"), (0, .string 8), (0, u ""), (0, .fieldref 10 11), (0, .class_ 12), (0, .nameAndType 13 14), (0, u "java/lang/String"), (0, u "value"), (0, u "[B"), (0, .fieldref 10 16), (0, .nameAndType 17 18), (0, u "coder"), (0, u "B"), (2, u "hash"), (0, u "I"), (2, u "hashIsZero"), (0, u "Z"), (0, .methodref 10 28), (0, .nameAndType 5 29), (0, u "([CIILjava/lang/Void;)V"), (8, .fieldref 10 39), (0, .nameAndType 40 26), (0, u "COMPACT_STRINGS"), (1, .class_ 44), (1, u "java/lang/StringUTF16"), (0, u "compress"), (1, .methodref 42 48), (0, .nameAndType 49 50), (0, u "coderFromArrayLen"), (0, u "([BI)B"), (56, .class_ 109), (1, u "java/lang/StringLatin1"), (32, u "()Z"), (34, .methodref 42 178), (0, .nameAndType 45 179), (0, u "([CII)[B"), (154, u "()I"), (0, .methodref 10 336), (0, .nameAndType 17 337), (0, u "()B"), (154, .methodref 10 493), (0, .nameAndType 494 142), (0, u "isLatin1"), (10, .methodref 10 506), (0, .nameAndType 507 334), (0, u "length"), (5, u "checkFromToIndex"), (9, u "checkBoundsBeginEnd"), (0, u "(III)V"), (50, .class_ 576), (0, u "java/lang/CharSequence"), (22, u "CASE_INSENSITIVE_ORDER"), (0, u "Ljava/util/Comparator;"), (32, .methodref 10 634), (0, .nameAndType 635 636), (0, u "indexOf"), (0, u "(II)I"), (0, .methodref 107 638), (0, .nameAndType 635 639), (0, u "([BIII)I"), (0, .methodref 42 638), (124, u "(I)I"), (244, u "([C)V"), (42, .fieldref 1054 1055), (0, .class_ 1056), (0, .nameAndType 1057 1058), (0, u "jdk/internal/util/Preconditions"), (0, u "SIOOBE_FORMATTER"), (0, u "Ljava/util/function/BiFunction;"), (3, .methodref 1054 1063), (0, .nameAndType 513 1064), (0, u "(IIILjava/util/function/BiFunction;)I"), (36, u "serialPersistentFields"), (0, u "[Ljava/io/ObjectStreamField;"), (0, .class_ 1104), (0, u "java/lang/String$CaseInsensitiveComparator"), (1, .class_ 1107), (0, u "java/io/Serializable"), (0, .class_ 1109), (0, u "java/lang/Comparable"), (0, .class_ 1111), (0, u "java/lang/constant/Constable"), (0, .class_ 1113), (0, u "java/lang/constant/ConstantDesc"), (2, u "serialVersionUID"), (0, u "J"), (3, u "REPL"), (0, u "C"), (2, u "LATIN1"), (1, u "UTF16")] 323

def k7m0 : Method := { name := "<init>", desc := "()V", sig := { parameters := [], returnType := none }, accessFlags := 1, code := none }
def k7c1 : Code := { maxStack := 5, maxLocals := 2, code := jdk_42_method_3_code, exceptionTable := #[], attributes := #[] }
def k7m1 : Method := { name := "<init>", desc := "([C)V", sig := { parameters := [(.array .char)], returnType := none }, accessFlags := 1, code := some k7c1 }
def k7c2 : Code := { maxStack := 2, maxLocals := 1, code := jdk_42_method_54_code, exceptionTable := #[], attributes := #[] }
def k7m2 : Method := { name := "length", desc := "()I", sig := { parameters := [], returnType := some .int }, accessFlags := 1, code := some k7c2 }
def k7c3 : Code := { maxStack := 3, maxLocals := 2, code := jdk_42_method_79_code, exceptionTable := #[], attributes := #[] }
def k7m3 : Method := { name := "indexOf", desc := "(I)I", sig := { parameters := [.int], returnType := some .int }, accessFlags := 1, code := some k7c3 }
def k7c4 : Code := { maxStack := 4, maxLocals := 3, code := jdk_42_method_80_code, exceptionTable := #[], attributes := #[] }
def k7m4 : Method := { name := "indexOf", desc := "(II)I", sig := { parameters := [.int, .int], returnType := some .int }, accessFlags := 1, code := some k7c4 }
def k7c5 : Code := { maxStack := 4, maxLocals := 6, code := jdk_42_method_149_code, exceptionTable := #[], attributes := #[] }
def k7m5 : Method := { name := "<init>", desc := "([CIILjava/lang/Void;)V", sig := { parameters := [(.array .char), .int, .int, (.object "java/lang/Void")], returnType := none }, accessFlags := 2, code := some k7c5 }
def k7c6 : Code := { maxStack := 1, maxLocals := 1, code := jdk_42_method_152_code, exceptionTable := #[], attributes := #[] }
def k7m6 : Method := { name := "coder", desc := "()B", sig := { parameters := [], returnType := some .byte }, accessFlags := 0, code := some k7c6 }
def k7c7 : Code := { maxStack := 1, maxLocals := 1, code := jdk_42_method_154_code, exceptionTable := #[], attributes := #[] }
def k7m7 : Method := { name := "isLatin1", desc := "()Z", sig := { parameters := [], returnType := some .boolean }, accessFlags := 0, code := some k7c7 }
def k7c8 : Code := { maxStack := 4, maxLocals := 3, code := jdk_42_method_158_code, exceptionTable := #[], attributes := #[] }
def k7m8 : Method := { name := "checkBoundsBeginEnd", desc := "(III)V", sig := { parameters := [.int, .int, .int], returnType := none }, accessFlags := 8, code := some k7c8 }
/-- java/lang/String -/
def k7 : Class := { plain "java/lang/String" (some 0) with
  accessFlags := 49
  interfaces := #[2, 3, 4, 5, 6]
  cf := some (fileOf pool7 10 #[.nestMembers #[1103]] #[{ accessFlags := 1, nameIndex := 5, descriptorIndex := 6, attributes := #[] }, { accessFlags := 1, nameIndex := 5, descriptorIndex := 1010, attributes := #[] }, { accessFlags := 1, nameIndex := 507, descriptorIndex := 334, attributes := #[] }, { accessFlags := 1, nameIndex := 635, descriptorIndex := 765, attributes := #[] }, { accessFlags := 1, nameIndex := 635, descriptorIndex := 636, attributes := #[] }, { accessFlags := 2, nameIndex := 5, descriptorIndex := 29, attributes := #[] }, { accessFlags := 0, nameIndex := 17, descriptorIndex := 337, attributes := #[] }, { accessFlags := 0, nameIndex := 494, descriptorIndex := 142, attributes := #[] }, { accessFlags := 8, nameIndex := 523, descriptorIndex := 524, attributes := #[] }] 49 2 #[1106, 1108, 575, 1110, 1112] #[{ accessFlags := 18, nameIndex := 13, descriptorIndex := 14, attributes := #[] }, { accessFlags := 18, nameIndex := 17, descriptorIndex := 18, attributes := #[] }, { accessFlags := 2, nameIndex := 21, descriptorIndex := 22, attributes := #[] }, { accessFlags := 2, nameIndex := 25, descriptorIndex := 26, attributes := #[] }, { accessFlags := 26, nameIndex := 1116, descriptorIndex := 1117, attributes := #[] }, { accessFlags := 24, nameIndex := 40, descriptorIndex := 26, attributes := #[] }, { accessFlags := 26, nameIndex := 1101, descriptorIndex := 1102, attributes := #[] }, { accessFlags := 26, nameIndex := 1121, descriptorIndex := 1122, attributes := #[] }, { accessFlags := 25, nameIndex := 599, descriptorIndex := 600, attributes := #[] }, { accessFlags := 24, nameIndex := 1125, descriptorIndex := 18, attributes := #[] }, { accessFlags := 24, nameIndex := 1127, descriptorIndex := 18, attributes := #[] }])
  fields := #[{ name := "value", type := (.array .byte), accessFlags := 18, slot := 0, constantValue := 0 }, { name := "coder", type := .byte, accessFlags := 18, slot := 1, constantValue := 0 }, { name := "hash", type := .int, accessFlags := 2, slot := 2, constantValue := 0 }, { name := "hashIsZero", type := .boolean, accessFlags := 2, slot := 3, constantValue := 0 }, { name := "serialVersionUID", type := .long, accessFlags := 26, slot := 0, constantValue := 0 }, { name := "COMPACT_STRINGS", type := .boolean, accessFlags := 24, slot := 1, constantValue := 0 }, { name := "serialPersistentFields", type := (.array (.object "java/io/ObjectStreamField")), accessFlags := 26, slot := 2, constantValue := 0 }, { name := "REPL", type := .char, accessFlags := 26, slot := 3, constantValue := 0 }, { name := "CASE_INSENSITIVE_ORDER", type := (.object "java/util/Comparator"), accessFlags := 25, slot := 4, constantValue := 0 }, { name := "LATIN1", type := .byte, accessFlags := 24, slot := 5, constantValue := 0 }, { name := "UTF16", type := .byte, accessFlags := 24, slot := 6, constantValue := 0 }]
  methods := #[k7m0, k7m1, k7m2, k7m3, k7m4, k7m5, k7m6, k7m7, k7m8]
  instanceTypes := #[(.array .byte), .byte, .int, .boolean]
  staticTypes := #[.long, .boolean, (.array (.object "java/io/ObjectStreamField")), .char, (.object "java/util/Comparator"), .byte, .byte]
  resolved := Array.replicate 1451 none
  statics := some 0 }

def pool8 : Array CpInfo := pool [(2, .class_ 4), (1, u "java/lang/Object"), (0, u "<init>"), (0, u "()V"), (0, .class_ 8), (0, u "com/example/tessera/tessera/cli/Decoding"), (0, .integer 65533), (0, .methodref 11 12), (0, .class_ 13), (0, .nameAndType 14 15), (0, u "java/lang/String"), (0, u "indexOf"), (0, u "(I)I"), (0, u "REPLACEMENT_CHARACTER"), (0, u "C"), (3, u "failed"), (0, u "(Ljava/lang/String;)Z")] 3

def k8m0 : Method := { name := "<init>", desc := "()V", sig := { parameters := [], returnType := none }, accessFlags := 2, code := none }
def k8c1 : Code := { maxStack := 2, maxLocals := 1, code := prog_1_method_2_code, exceptionTable := #[], attributes := #[] }
def k8m1 : Method := { name := "failed", desc := "(Ljava/lang/String;)Z", sig := { parameters := [(.object "java/lang/String")], returnType := some .boolean }, accessFlags := 8, code := some k8c1 }
/-- com/example/tessera/tessera/cli/Decoding -/
def k8 : Class := { plain "com/example/tessera/tessera/cli/Decoding" (some 0) with
  accessFlags := 48
  interfaces := #[]
  cf := some (fileOf pool8 7 #[] #[{ accessFlags := 2, nameIndex := 5, descriptorIndex := 6, attributes := #[] }, { accessFlags := 8, nameIndex := 21, descriptorIndex := 22, attributes := #[] }] 48 2 #[] #[{ accessFlags := 26, nameIndex := 16, descriptorIndex := 17, attributes := #[] }])
  fields := #[{ name := "REPLACEMENT_CHARACTER", type := .char, accessFlags := 26, slot := 0, constantValue := 0 }]
  methods := #[k8m0, k8m1]
  instanceTypes := #[]
  staticTypes := #[.char]
  resolved := Array.replicate 26 none
  statics := none }

def pool9 : Array CpInfo := pool [(4, .class_ 6), (1, u "java/lang/Object"), (0, u "<init>"), (0, u "()V"), (5, .class_ 16), (1, u "java/lang/StringLatin1"), (71, .methodref 14 89), (0, .nameAndType 90 91), (0, u "canEncode"), (0, u "(I)Z"), (6, u "([BIII)I"), (2, u "indexOf"), (19, u "$assertionsDisabled"), (0, u "Z"), (98, .class_ 223), (1, u "java/lang/StringLatin1$LinesSpliterator"), (166, .class_ 391), (0, u "java/lang/StringLatin1$CharsSpliterator")] 3

def k9m0 : Method := { name := "<init>", desc := "()V", sig := { parameters := [], returnType := none }, accessFlags := 0, code := none }
def k9c1 : Code := { maxStack := 2, maxLocals := 1, code := jdk_43_method_4_code, exceptionTable := #[], attributes := #[] }
def k9m1 : Method := { name := "canEncode", desc := "(I)Z", sig := { parameters := [.int], returnType := some .boolean }, accessFlags := 9, code := some k9c1 }
def k9c2 : Code := { maxStack := 4, maxLocals := 4, code := jdk_43_method_22_code, exceptionTable := #[], attributes := #[] }
def k9m2 : Method := { name := "indexOf", desc := "([BIII)I", sig := { parameters := [(.array .byte), .int, .int, .int], returnType := some .int }, accessFlags := 9, code := some k9c2 }
/-- java/lang/StringLatin1 -/
def k9 : Class := { plain "java/lang/StringLatin1" (some 0) with
  accessFlags := 48
  interfaces := #[]
  cf := some (fileOf pool9 14 #[.nestMembers #[390, 221]] #[{ accessFlags := 0, nameIndex := 7, descriptorIndex := 8, attributes := #[] }, { accessFlags := 9, nameIndex := 90, descriptorIndex := 91, attributes := #[] }, { accessFlags := 9, nameIndex := 101, descriptorIndex := 98, attributes := #[] }] 48 4 #[] #[{ accessFlags := 4120, nameIndex := 121, descriptorIndex := 122, attributes := #[] }])
  fields := #[{ name := "$assertionsDisabled", type := .boolean, accessFlags := 4120, slot := 0, constantValue := 0 }]
  methods := #[k9m0, k9m1, k9m2]
  instanceTypes := #[]
  staticTypes := #[.boolean]
  resolved := Array.replicate 395 none
  statics := none }

def pool10 : Array CpInfo := pool [(3, .class_ 4), (0, u "java/lang/String"), (1, .class_ 8), (1, u "java/lang/Object"), (0, u "<init>"), (0, u "()V"), (0, .methodref 12 13), (0, .class_ 14), (0, .nameAndType 15 16), (0, u "java/lang/StringUTF16"), (0, u "newBytesLength"), (0, u "(I)I"), (3, .integer 1073741823), (23, .fieldref 12 45), (0, .nameAndType 46 47), (0, u "$assertionsDisabled"), (0, u "Z"), (0, .methodref 12 49), (0, .nameAndType 50 51), (0, u "length"), (0, u "([B)I"), (7, .fieldref 12 60), (0, .nameAndType 61 62), (0, u "HI_BYTE_SHIFT"), (0, u "I"), (0, .fieldref 12 64), (0, .nameAndType 65 62), (0, u "LO_BYTE_SHIFT"), (5, .methodref 12 72), (0, .nameAndType 73 74), (0, u "getChar"), (0, u "([BI)C"), (21, .methodref 12 97), (0, .nameAndType 98 99), (0, u "checkBoundsBeginEnd"), (0, u "(II[B)V"), (7, .methodref 12 108), (0, .nameAndType 109 110), (0, u "newBytesFor"), (0, u "(I)[B"), (0, .methodref 12 112), (0, .nameAndType 113 114), (0, u "putChar"), (0, u "([BII)V"), (0, .methodref 12 116), (0, .nameAndType 117 118), (0, u "compress"), (0, u "([CI[BII)I"), (0, .methodref 12 120), (0, .nameAndType 121 122), (0, u "toBytes"), (0, u "([CII)[B"), (60, .methodref 184 185), (0, .class_ 186), (0, .nameAndType 187 188), (0, u "java/lang/Math"), (0, u "min"), (0, u "(II)I"), (35, .methodref 184 225), (0, .nameAndType 226 188), (0, u "max"), (0, .integer 65536), (0, .methodref 12 229), (0, .nameAndType 230 231), (0, u "indexOfChar"), (0, u "([BIII)I"), (9, .methodref 3 242), (0, .nameAndType 98 243), (0, u "(III)V"), (0, .methodref 12 245), (0, .nameAndType 246 231), (0, u "indexOfCharUnsafe"), (14, u "coderFromArrayLen"), (0, u "([BI)B"), (5, u "indexOf"), (100, .class_ 371), (1, u "java/lang/StringUTF16$LinesSpliterator"), (58, u "MAX_LENGTH"), (196, .class_ 628), (0, u "java/lang/StringUTF16$CodePointsSpliterator"), (0, .class_ 630), (0, u "java/lang/StringUTF16$CharsSpliterator")] 4

def k10m0 : Method := { name := "<init>", desc := "()V", sig := { parameters := [], returnType := none }, accessFlags := 0, code := none }
def k10c1 : Code := { maxStack := 1, maxLocals := 1, code := jdk_52_method_2_code, exceptionTable := #[], attributes := #[] }
def k10m1 : Method := { name := "newBytesFor", desc := "(I)[B", sig := { parameters := [.int], returnType := some (.array .byte) }, accessFlags := 9, code := some k10c1 }
def k10c2 : Code := { maxStack := 4, maxLocals := 1, code := jdk_52_method_3_code, exceptionTable := #[], attributes := #[] }
def k10m2 : Method := { name := "newBytesLength", desc := "(I)I", sig := { parameters := [.int], returnType := some .int }, accessFlags := 9, code := some k10c2 }
def k10c3 : Code := { maxStack := 4, maxLocals := 3, code := jdk_52_method_4_code, exceptionTable := #[], attributes := #[] }
def k10m3 : Method := { name := "putChar", desc := "([BII)V", sig := { parameters := [(.array .byte), .int, .int], returnType := none }, accessFlags := 8, code := some k10c3 }
def k10c4 : Code := { maxStack := 3, maxLocals := 2, code := jdk_52_method_5_code, exceptionTable := #[], attributes := #[] }
def k10m4 : Method := { name := "getChar", desc := "([BI)C", sig := { parameters := [(.array .byte), .int], returnType := some .char }, accessFlags := 8, code := some k10c4 }
def k10c5 : Code := { maxStack := 2, maxLocals := 1, code := jdk_52_method_6_code, exceptionTable := #[], attributes := #[] }
def k10m5 : Method := { name := "length", desc := "([B)I", sig := { parameters := [(.array .byte)], returnType := some .int }, accessFlags := 9, code := some k10c5 }
def k10c6 : Code := { maxStack := 4, maxLocals := 5, code := jdk_52_method_14_code, exceptionTable := #[], attributes := #[] }
def k10m6 : Method := { name := "toBytes", desc := "([CII)[B", sig := { parameters := [(.array .char), .int, .int], returnType := some (.array .byte) }, accessFlags := 9, code := some k10c6 }
def k10c7 : Code := { maxStack := 2, maxLocals := 2, code := jdk_52_method_15_code, exceptionTable := #[], attributes := #[] }
def k10m7 : Method := { name := "coderFromArrayLen", desc := "([BI)B", sig := { parameters := [(.array .byte), .int], returnType := some .byte }, accessFlags := 8, code := some k10c7 }
def k10c8 : Code := { maxStack := 5, maxLocals := 6, code := jdk_52_method_16_code, exceptionTable := #[], attributes := #[] }
def k10m8 : Method := { name := "compress", desc := "([CII)[B", sig := { parameters := [(.array .char), .int, .int], returnType := some (.array .byte) }, accessFlags := 9, code := some k10c8 }
def k10c9 : Code := { maxStack := 3, maxLocals := 7, code := jdk_52_method_21_code, exceptionTable := #[], attributes := #[] }
def k10m9 : Method := { name := "compress", desc := "([CI[BII)I", sig := { parameters := [(.array .char), .int, (.array .byte), .int, .int], returnType := some .int }, accessFlags := 9, code := some k10c9 }
def k10c10 : Code := { maxStack := 4, maxLocals := 4, code := jdk_52_method_40_code, exceptionTable := #[], attributes := #[] }
def k10m10 : Method := { name := "indexOf", desc := "([BIII)I", sig := { parameters := [(.array .byte), .int, .int, .int], returnType := some .int }, accessFlags := 9, code := some k10c10 }
def k10c11 : Code := { maxStack := 4, maxLocals := 4, code := jdk_52_method_47_code, exceptionTable := #[], attributes := #[] }
def k10m11 : Method := { name := "indexOfChar", desc := "([BIII)I", sig := { parameters := [(.array .byte), .int, .int, .int], returnType := some .int }, accessFlags := 10, code := some k10c11 }
def k10c12 : Code := { maxStack := 2, maxLocals := 5, code := jdk_52_method_48_code, exceptionTable := #[], attributes := #[] }
def k10m12 : Method := { name := "indexOfCharUnsafe", desc := "([BIII)I", sig := { parameters := [(.array .byte), .int, .int, .int], returnType := some .int }, accessFlags := 10, code := some k10c12 }
def k10c13 : Code := { maxStack := 3, maxLocals := 3, code := jdk_52_method_93_code, exceptionTable := #[], attributes := #[] }
def k10m13 : Method := { name := "checkBoundsBeginEnd", desc := "(II[B)V", sig := { parameters := [.int, .int, (.array .byte)], returnType := none }, accessFlags := 9, code := some k10c13 }
/-- java/lang/StringUTF16 -/
def k10 : Class := { plain "java/lang/StringUTF16" (some 0) with
  accessFlags := 48
  interfaces := #[]
  cf := some (fileOf pool10 12 #[.nestMembers #[627, 629, 369]] #[{ accessFlags := 0, nameIndex := 9, descriptorIndex := 10, attributes := #[] }, { accessFlags := 9, nameIndex := 109, descriptorIndex := 110, attributes := #[] }, { accessFlags := 9, nameIndex := 15, descriptorIndex := 16, attributes := #[] }, { accessFlags := 8, nameIndex := 113, descriptorIndex := 114, attributes := #[] }, { accessFlags := 8, nameIndex := 73, descriptorIndex := 74, attributes := #[] }, { accessFlags := 9, nameIndex := 50, descriptorIndex := 51, attributes := #[] }, { accessFlags := 9, nameIndex := 121, descriptorIndex := 122, attributes := #[] }, { accessFlags := 8, nameIndex := 261, descriptorIndex := 262, attributes := #[] }, { accessFlags := 9, nameIndex := 117, descriptorIndex := 122, attributes := #[] }, { accessFlags := 9, nameIndex := 117, descriptorIndex := 118, attributes := #[] }, { accessFlags := 9, nameIndex := 268, descriptorIndex := 231, attributes := #[] }, { accessFlags := 10, nameIndex := 230, descriptorIndex := 231, attributes := #[] }, { accessFlags := 10, nameIndex := 246, descriptorIndex := 231, attributes := #[] }, { accessFlags := 9, nameIndex := 98, descriptorIndex := 99, attributes := #[] }] 48 6 #[] #[{ accessFlags := 26, nameIndex := 61, descriptorIndex := 62, attributes := #[] }, { accessFlags := 26, nameIndex := 65, descriptorIndex := 62, attributes := #[] }, { accessFlags := 24, nameIndex := 430, descriptorIndex := 62, attributes := #[] }, { accessFlags := 4120, nameIndex := 46, descriptorIndex := 47, attributes := #[] }])
  fields := #[{ name := "HI_BYTE_SHIFT", type := .int, accessFlags := 26, slot := 0, constantValue := 0 }, { name := "LO_BYTE_SHIFT", type := .int, accessFlags := 26, slot := 1, constantValue := 0 }, { name := "MAX_LENGTH", type := .int, accessFlags := 24, slot := 2, constantValue := 0 }, { name := "$assertionsDisabled", type := .boolean, accessFlags := 4120, slot := 3, constantValue := 0 }]
  methods := #[k10m0, k10m1, k10m2, k10m3, k10m4, k10m5, k10m6, k10m7, k10m8, k10m9, k10m10, k10m11, k10m12, k10m13]
  instanceTypes := #[]
  staticTypes := #[.int, .int, .int, .boolean]
  resolved := Array.replicate 635 none
  statics := some 1 }

def pool11 : Array CpInfo := pool [(1, .class_ 2), (0, u "java/lang/Math"), (1, .class_ 6), (1, u "java/lang/Object"), (0, u "<init>"), (0, u "()V"), (89, .class_ 100), (1, u "java/lang/Math$RandomNumberGeneratorHolder"), (71, u "negativeZeroFloatBits"), (0, u "J"), (2, u "negativeZeroDoubleBits"), (21, u "max"), (2, u "min"), (43, u "$assertionsDisabled"), (0, u "Z"), (88, u "(II)I"), (2, u "twoToTheDoubleScaleDown"), (0, u "D"), (4, u "twoToTheDoubleScaleUp"), (9, u "E"), (3, u "PI"), (2, u "TAU"), (2, u "DEGREES_TO_RADIANS"), (0, u "RADIANS_TO_DEGREES")] 94

def k11m0 : Method := { name := "<init>", desc := "()V", sig := { parameters := [], returnType := none }, accessFlags := 2, code := none }
def k11c1 : Code := { maxStack := 2, maxLocals := 2, code := jdk_29_method_65_code, exceptionTable := #[], attributes := #[] }
def k11m1 : Method := { name := "max", desc := "(II)I", sig := { parameters := [.int, .int], returnType := some .int }, accessFlags := 9, code := some k11c1 }
def k11c2 : Code := { maxStack := 2, maxLocals := 2, code := jdk_29_method_69_code, exceptionTable := #[], attributes := #[] }
def k11m2 : Method := { name := "min", desc := "(II)I", sig := { parameters := [.int, .int], returnType := some .int }, accessFlags := 9, code := some k11c2 }
/-- java/lang/Math -/
def k11 : Class := { plain "java/lang/Math" (some 0) with
  accessFlags := 49
  interfaces := #[]
  cf := some (fileOf pool11 1 #[.nestMembers #[98]] #[{ accessFlags := 2, nameIndex := 7, descriptorIndex := 8, attributes := #[] }, { accessFlags := 9, nameIndex := 198, descriptorIndex := 335, attributes := #[] }, { accessFlags := 9, nameIndex := 201, descriptorIndex := 335, attributes := #[] }] 49 4 #[] #[{ accessFlags := 25, nameIndex := 354, descriptorIndex := 339, attributes := #[] }, { accessFlags := 25, nameIndex := 358, descriptorIndex := 339, attributes := #[] }, { accessFlags := 25, nameIndex := 361, descriptorIndex := 339, attributes := #[] }, { accessFlags := 26, nameIndex := 364, descriptorIndex := 339, attributes := #[] }, { accessFlags := 26, nameIndex := 365, descriptorIndex := 339, attributes := #[] }, { accessFlags := 26, nameIndex := 172, descriptorIndex := 173, attributes := #[] }, { accessFlags := 26, nameIndex := 176, descriptorIndex := 173, attributes := #[] }, { accessFlags := 8, nameIndex := 344, descriptorIndex := 339, attributes := #[] }, { accessFlags := 8, nameIndex := 338, descriptorIndex := 339, attributes := #[] }, { accessFlags := 4120, nameIndex := 245, descriptorIndex := 246, attributes := #[] }])
  fields := #[{ name := "E", type := .double, accessFlags := 25, slot := 0, constantValue := 0 }, { name := "PI", type := .double, accessFlags := 25, slot := 1, constantValue := 0 }, { name := "TAU", type := .double, accessFlags := 25, slot := 2, constantValue := 0 }, { name := "DEGREES_TO_RADIANS", type := .double, accessFlags := 26, slot := 3, constantValue := 0 }, { name := "RADIANS_TO_DEGREES", type := .double, accessFlags := 26, slot := 4, constantValue := 0 }, { name := "negativeZeroFloatBits", type := .long, accessFlags := 26, slot := 5, constantValue := 0 }, { name := "negativeZeroDoubleBits", type := .long, accessFlags := 26, slot := 6, constantValue := 0 }, { name := "twoToTheDoubleScaleUp", type := .double, accessFlags := 8, slot := 7, constantValue := 0 }, { name := "twoToTheDoubleScaleDown", type := .double, accessFlags := 8, slot := 8, constantValue := 0 }, { name := "$assertionsDisabled", type := .boolean, accessFlags := 4120, slot := 9, constantValue := 0 }]
  methods := #[k11m0, k11m1, k11m2]
  instanceTypes := #[]
  staticTypes := #[.double, .double, .double, .double, .double, .long, .long, .double, .double, .boolean]
  resolved := Array.replicate 460 none
  statics := none }

def pool12 : Array CpInfo := pool [(2, .class_ 4), (1, u "java/lang/Object"), (0, u "<init>"), (0, u "()V"), (17, .class_ 26), (1, u "jdk/internal/util/Preconditions"), (20, u "checkFromToIndex"), (7, .class_ 56), (0, u "jdk/internal/util/Preconditions$4"), (57, .class_ 115), (0, u "jdk/internal/util/Preconditions$1"), (7, u "SIOOBE_FORMATTER"), (0, u "Ljava/util/function/BiFunction;"), (0, .class_ 126), (0, u "jdk/internal/util/Preconditions$2"), (3, u "AIOOBE_FORMATTER"), (0, .class_ 132), (0, u "jdk/internal/util/Preconditions$3"), (3, u "IOOBE_FORMATTER"), (46, u "(IIILjava/util/function/BiFunction;)I")] 10

def k12m0 : Method := { name := "<init>", desc := "()V", sig := { parameters := [], returnType := none }, accessFlags := 1, code := none }
def k12c1 : Code := { maxStack := 4, maxLocals := 4, code := jdk_41_method_12_code, exceptionTable := #[], attributes := #[] }
def k12m1 : Method := { name := "checkFromToIndex", desc := "(IIILjava/util/function/BiFunction;)I", sig := { parameters := [.int, .int, .int, (.object "java/util/function/BiFunction")], returnType := some .int }, accessFlags := 9, code := some k12c1 }
/-- jdk/internal/util/Preconditions -/
def k12 : Class := { plain "jdk/internal/util/Preconditions" (some 0) with
  accessFlags := 33
  interfaces := #[]
  cf := some (fileOf pool12 24 #[.nestMembers #[55, 131, 125, 114]] #[{ accessFlags := 1, nameIndex := 5, descriptorIndex := 6, attributes := #[] }, { accessFlags := 9, nameIndex := 47, descriptorIndex := 183, attributes := #[] }] 33 2 #[] #[{ accessFlags := 25, nameIndex := 123, descriptorIndex := 124, attributes := #[] }, { accessFlags := 25, nameIndex := 130, descriptorIndex := 124, attributes := #[] }, { accessFlags := 25, nameIndex := 136, descriptorIndex := 124, attributes := #[] }])
  fields := #[{ name := "SIOOBE_FORMATTER", type := (.object "java/util/function/BiFunction"), accessFlags := 25, slot := 0, constantValue := 0 }, { name := "AIOOBE_FORMATTER", type := (.object "java/util/function/BiFunction"), accessFlags := 25, slot := 1, constantValue := 0 }, { name := "IOOBE_FORMATTER", type := (.object "java/util/function/BiFunction"), accessFlags := 25, slot := 2, constantValue := 0 }]
  methods := #[k12m0, k12m1]
  instanceTypes := #[]
  staticTypes := #[(.object "java/util/function/BiFunction"), (.object "java/util/function/BiFunction"), (.object "java/util/function/BiFunction")]
  resolved := Array.replicate 194 none
  statics := some 2 }

def pool13 : Array CpInfo := pool [(9, u "<init>"), (6, .class_ 18), (1, u "java/lang/Object"), (0, u "()V"), (1, .class_ 23), (1, u "jdk/internal/util/ArraysSupport"), (0, u "LOG2_ARRAY_LONG_INDEX_SCALE"), (0, u "I"), (2, u "U"), (0, u "Ljdk/internal/misc/Unsafe;"), (8, u "BIG_ENDIAN"), (0, u "Z"), (8, u "LOG2_BYTE_BIT_SIZE"), (4, u "LOG2_ARRAY_INT_INDEX_SCALE"), (54, u "JLA"), (0, u "Ljdk/internal/access/JavaLangAccess;"), (11, u "LOG2_ARRAY_BOOLEAN_INDEX_SCALE"), (9, u "LOG2_ARRAY_BYTE_INDEX_SCALE"), (5, u "LOG2_ARRAY_CHAR_INDEX_SCALE"), (5, u "LOG2_ARRAY_SHORT_INDEX_SCALE"), (18, u "LOG2_ARRAY_FLOAT_INDEX_SCALE"), (24, u "LOG2_ARRAY_DOUBLE_INDEX_SCALE"), (89, u "T_BOOLEAN"), (2, u "T_CHAR"), (1, u "T_FLOAT"), (1, u "T_DOUBLE"), (1, u "T_BYTE"), (1, u "T_SHORT"), (1, u "T_INT"), (1, u "T_LONG"), (1, u "SOFT_MAX_ARRAY_LENGTH")] 83

def k13m0 : Method := { name := "<init>", desc := "()V", sig := { parameters := [], returnType := none }, accessFlags := 2, code := none }
/-- jdk/internal/util/ArraysSupport -/
def k13 : Class := { plain "jdk/internal/util/ArraysSupport" (some 0) with
  accessFlags := 33
  interfaces := #[]
  cf := some (fileOf pool13 21 #[] #[{ accessFlags := 2, nameIndex := 9, descriptorIndex := 19, attributes := #[] }] 33 16 #[] #[{ accessFlags := 24, nameIndex := 28, descriptorIndex := 29, attributes := #[] }, { accessFlags := 26, nameIndex := 38, descriptorIndex := 39, attributes := #[] }, { accessFlags := 25, nameIndex := 121, descriptorIndex := 25, attributes := #[] }, { accessFlags := 25, nameIndex := 131, descriptorIndex := 25, attributes := #[] }, { accessFlags := 25, nameIndex := 137, descriptorIndex := 25, attributes := #[] }, { accessFlags := 25, nameIndex := 143, descriptorIndex := 25, attributes := #[] }, { accessFlags := 25, nameIndex := 53, descriptorIndex := 25, attributes := #[] }, { accessFlags := 25, nameIndex := 24, descriptorIndex := 25, attributes := #[] }, { accessFlags := 25, nameIndex := 162, descriptorIndex := 25, attributes := #[] }, { accessFlags := 25, nameIndex := 187, descriptorIndex := 25, attributes := #[] }, { accessFlags := 26, nameIndex := 48, descriptorIndex := 25, attributes := #[] }, { accessFlags := 25, nameIndex := 277, descriptorIndex := 25, attributes := #[] }, { accessFlags := 25, nameIndex := 280, descriptorIndex := 25, attributes := #[] }, { accessFlags := 25, nameIndex := 282, descriptorIndex := 25, attributes := #[] }, { accessFlags := 25, nameIndex := 284, descriptorIndex := 25, attributes := #[] }, { accessFlags := 25, nameIndex := 286, descriptorIndex := 25, attributes := #[] }, { accessFlags := 25, nameIndex := 288, descriptorIndex := 25, attributes := #[] }, { accessFlags := 25, nameIndex := 290, descriptorIndex := 25, attributes := #[] }, { accessFlags := 25, nameIndex := 292, descriptorIndex := 25, attributes := #[] }, { accessFlags := 26, nameIndex := 108, descriptorIndex := 109, attributes := #[] }, { accessFlags := 25, nameIndex := 294, descriptorIndex := 25, attributes := #[] }])
  fields := #[{ name := "U", type := (.object "jdk/internal/misc/Unsafe"), accessFlags := 24, slot := 0, constantValue := 0 }, { name := "BIG_ENDIAN", type := .boolean, accessFlags := 26, slot := 1, constantValue := 0 }, { name := "LOG2_ARRAY_BOOLEAN_INDEX_SCALE", type := .int, accessFlags := 25, slot := 2, constantValue := 0 }, { name := "LOG2_ARRAY_BYTE_INDEX_SCALE", type := .int, accessFlags := 25, slot := 3, constantValue := 0 }, { name := "LOG2_ARRAY_CHAR_INDEX_SCALE", type := .int, accessFlags := 25, slot := 4, constantValue := 0 }, { name := "LOG2_ARRAY_SHORT_INDEX_SCALE", type := .int, accessFlags := 25, slot := 5, constantValue := 0 }, { name := "LOG2_ARRAY_INT_INDEX_SCALE", type := .int, accessFlags := 25, slot := 6, constantValue := 0 }, { name := "LOG2_ARRAY_LONG_INDEX_SCALE", type := .int, accessFlags := 25, slot := 7, constantValue := 0 }, { name := "LOG2_ARRAY_FLOAT_INDEX_SCALE", type := .int, accessFlags := 25, slot := 8, constantValue := 0 }, { name := "LOG2_ARRAY_DOUBLE_INDEX_SCALE", type := .int, accessFlags := 25, slot := 9, constantValue := 0 }, { name := "LOG2_BYTE_BIT_SIZE", type := .int, accessFlags := 26, slot := 10, constantValue := 0 }, { name := "T_BOOLEAN", type := .int, accessFlags := 25, slot := 11, constantValue := 0 }, { name := "T_CHAR", type := .int, accessFlags := 25, slot := 12, constantValue := 0 }, { name := "T_FLOAT", type := .int, accessFlags := 25, slot := 13, constantValue := 0 }, { name := "T_DOUBLE", type := .int, accessFlags := 25, slot := 14, constantValue := 0 }, { name := "T_BYTE", type := .int, accessFlags := 25, slot := 15, constantValue := 0 }, { name := "T_SHORT", type := .int, accessFlags := 25, slot := 16, constantValue := 0 }, { name := "T_INT", type := .int, accessFlags := 25, slot := 17, constantValue := 0 }, { name := "T_LONG", type := .int, accessFlags := 25, slot := 18, constantValue := 0 }, { name := "JLA", type := (.object "jdk/internal/access/JavaLangAccess"), accessFlags := 26, slot := 19, constantValue := 0 }, { name := "SOFT_MAX_ARRAY_LENGTH", type := .int, accessFlags := 25, slot := 20, constantValue := 0 }]
  methods := #[k13m0]
  instanceTypes := #[]
  staticTypes := #[(.object "jdk/internal/misc/Unsafe"), .boolean, .int, .int, .int, .int, .int, .int, .int, .int, .int, .int, .int, .int, .int, .int, .int, .int, .int, (.object "jdk/internal/access/JavaLangAccess"), .int]
  resolved := Array.replicate 378 none
  statics := none }

def pool14 : Array CpInfo := pool [(1, u "java/lang/Cloneable"), (0, .class_ 1), (0, u "java/lang/Object"), (0, .class_ 3)] 3

/-- java/lang/Cloneable -/
def k14 : Class := { plain "java/lang/Cloneable" (some 0) with
  accessFlags := 1537
  interfaces := #[]
  cf := some (fileOf pool14 2 #[] #[] 1537 4 #[] #[])
  fields := #[]
  methods := #[]
  instanceTypes := #[]
  staticTypes := #[]
  resolved := Array.replicate 8 none
  statics := none }

/-- the primitive byte -/
def k15 : Class := { plain "byte" none with kind := .primitive 'B', accessFlags := 0x411 }
/-- [B -/
def k16 : Class := { plain "[B" (some 0) with kind := .array 15 .byte, interfaces := #[14, 2], accessFlags := 1041 }

/-- the primitive char -/
def k17 : Class := { plain "char" none with kind := .primitive 'C', accessFlags := 0x411 }
/-- [C -/
def k18 : Class := { plain "[C" (some 0) with kind := .array 17 .char, interfaces := #[14, 2], accessFlags := 1041 }

/-- the primitive int -/
def k19 : Class := { plain "int" none with kind := .primitive 'I', accessFlags := 0x411 }
/-- [I -/
def k20 : Class := { plain "[I" (some 0) with kind := .array 19 .int, interfaces := #[14, 2], accessFlags := 1041 }

def heap : Heap := #[{ cls := 7, slots := #[.long 0, .int 1, .null, .int 0, .null, .int 0, .int 0], vm := .statics 7 },
  { cls := 10, slots := #[.int 0, .int 8, .int 0, .int 1], vm := .statics 10 },
  { cls := 12, slots := #[.null, .null, .null], vm := .statics 12 }]
def classes : Array Class := #[k0, k1, k2, k3, k4, k5, k6, k7, k8, k9, k10, k11, k12, k13, k14, k15, k16, k17, k18, k19, k20]
def interned : List (Array UInt16 × Addr) := []
def slotsUsed : Nat := 14
def theMethod : MethodId := ⟨1, 2⟩
def args0 : Array Value := #[.int 5, .int 70000, .int 3, .int 4, .int 4]
def aboutOver (below : List Frame) : State where
  vm := { classes := classes, interned := interned.toArray }
  heap := heap
  slotsUsed := slotsUsed
  threads := #[{ frames := .invoking theMethod args0 :: below }]
def below0 : List Frame := [.native { method := ⟨0, 0⟩, args := #[] }]
def about1 : State := aboutOver below0
def p0 : Program := .bare "" "" ""
def e0 : Env := launch0.env 0 0 0
theorem w_frames : about1.frames = Frame.invoking theMethod args0 :: below0 := rfl
set_option maxRecDepth 65536 in
theorem w_args : argsFit about1.vm theMethod args0 = true := by decide +kernel
set_option maxRecDepth 65536 in
theorem w_heap : heapFits about1 = true := by decide +kernel
set_option maxRecDepth 65536 in
theorem w_runnable : about1.curStatus? = some .runnable := by decide +kernel
set_option maxRecDepth 65536 in
theorem w_alone : about1.alone = true := by decide +kernel
set_option maxRecDepth 65536 in
theorem w_named : about1.methodNamed? x = some theMethod := by decide +kernel
set_option maxRecDepth 65536 in
theorem w_hears : about1.hears theMethod below0 = true := by decide +kernel
set_option maxRecDepth 65536 in
theorem w_ripe : about1.ripe theMethod args0 below0 = true := by decide +kernel
theorem w_running : about1.status = .running := rfl
set_option maxRecDepth 65536 in
theorem w_room : about1.hasRoom e0.platform room_1 = true :=
  launch0.hasRoom_least _ room_1 (by decide +kernel) (by decide +kernel) (by decide +kernel) (by decide +kernel) (by decide +kernel) (by decide +kernel)
theorem allAtoms_all (ts : List Jvm.Cond) (a : Array Jvm.Value) (st : Jvm.State) : (allAtoms ts).before a st = ts.all (fun c => c.before a st) := by
  induction ts with
  | nil => rfl
  | cons c t ih =>
    show (Jvm.Cond.and c (allAtoms t)).before a st = _
    rw [Jvm.Cond.before_and, ih, List.all_cons]
def words1 : List Jvm.Cond := Jvm.Cond.code x code maxLocals ret :: tables_1
/-- a 'code' word, met by the world's own term for the bytes: nothing is compared byte by byte -/
theorem code_word {y : MethodName} {bytes : ByteArray} {mx : Nat} {rt : Option FieldType} {a : Array Value} {s : State} {m : MethodId} {meth : Method} {c : Code} (h1 : s.methodNamed? y = some m) (h2 : s.vm.method? m = some meth) (h3 : meth.code = some c) (h4 : c.code = bytes)
    (h5 : (c.maxLocals == mx && c.exceptionTable.isEmpty && decide (c.maxStack ≤ mostOperands) && decide (meth.sig.returnType = rt) && !meth.locks && decide (parseMethodDescriptor y.desc = some meth.sig)) = true) : (Jvm.Cond.code y bytes mx rt).before a s = true := by
  simp only [Bool.and_eq_true, beq_iff_eq, Bool.not_eq_true', decide_eq_true_eq] at h5
  obtain ⟨⟨⟨⟨⟨g1, g2⟩, g3⟩, g4⟩, g5⟩, g6⟩ := h5
  simp [Cond.before, Cond.holds, Cond.value, h1, h2, h3, h4, g1, g2, g3, g4, g5, g6]
def isCode : Jvm.Cond → Bool
  | .code _ _ _ _ => true
  | _ => false
theorem all_split {L : List Jvm.Cond} {P : Jvm.Cond → Bool} (h1 : L.all (fun c => isCode c || P c) = true) (h2 : ∀ c ∈ L.filter isCode, P c = true) : L.all P = true := by
  refine List.all_eq_true.mpr fun c hc => ?_
  have h := List.all_eq_true.mp h1 c hc
  rcases Bool.eq_false_or_eq_true (isCode c) with hi | hi
  · exact h2 c (List.mem_filter.mpr ⟨hc, hi⟩)
  · simpa [hi] using h
set_option maxRecDepth 65536 in
theorem w_c0 : (Jvm.Cond.code x code maxLocals ret).before args0 about1 = true := code_word (m := ⟨1, 2⟩) (meth := k1m2) (c := k1c2) (by decide +kernel) rfl rfl rfl (by decide +kernel)
set_option maxRecDepth 65536 in
theorem w_c1 : (Jvm.Cond.code ({ cls := "com/example/tessera/tessera/cli/DecodingFailedPinLaw", name := "draw", desc := "(I)C" } : Jvm.MethodName) method_2_code (1 : Nat) (Option.some Jvm.ClassFile.FieldType.char)).before args0 about1 = true := code_word (m := ⟨1, 1⟩) (meth := k1m1) (c := k1c1) (by decide +kernel) rfl rfl rfl (by decide +kernel)
set_option maxRecDepth 65536 in
theorem w_c2 : (Jvm.Cond.code ({ cls := "java/lang/String", name := "<init>", desc := "([C)V" } : Jvm.MethodName) jdk_42_method_3_code (2 : Nat) (Option.none : Option Jvm.ClassFile.FieldType)).before args0 about1 = true := code_word (m := ⟨7, 1⟩) (meth := k7m1) (c := k7c1) (by decide +kernel) rfl rfl rfl (by decide +kernel)
set_option maxRecDepth 65536 in
theorem w_c3 : (Jvm.Cond.code ({ cls := "java/lang/String", name := "<init>", desc := "([CIILjava/lang/Void;)V" } : Jvm.MethodName) jdk_42_method_149_code (6 : Nat) (Option.none : Option Jvm.ClassFile.FieldType)).before args0 about1 = true := code_word (m := ⟨7, 5⟩) (meth := k7m5) (c := k7c5) (by decide +kernel) rfl rfl rfl (by decide +kernel)
set_option maxRecDepth 65536 in
theorem w_c4 : (Jvm.Cond.code ({ cls := "java/lang/Object", name := "<init>", desc := "()V" } : Jvm.MethodName) object_method_1_code (1 : Nat) (Option.none : Option Jvm.ClassFile.FieldType)).before args0 about1 = true := code_word (m := ⟨0, 0⟩) (meth := k0m0) (c := k0c0) (by decide +kernel) rfl rfl rfl (by decide +kernel)
set_option maxRecDepth 65536 in
theorem w_c5 : (Jvm.Cond.code ({ cls := "com/example/tessera/tessera/cli/Decoding", name := "failed", desc := "(Ljava/lang/String;)Z" } : Jvm.MethodName) prog_1_method_2_code (1 : Nat) (Option.some Jvm.ClassFile.FieldType.boolean)).before args0 about1 = true := code_word (m := ⟨8, 1⟩) (meth := k8m1) (c := k8c1) (by decide +kernel) rfl rfl rfl (by decide +kernel)
set_option maxRecDepth 65536 in
theorem w_c6 : (Jvm.Cond.code ({ cls := "java/lang/String", name := "indexOf", desc := "(I)I" } : Jvm.MethodName) jdk_42_method_79_code (2 : Nat) (Option.some Jvm.ClassFile.FieldType.int)).before args0 about1 = true := code_word (m := ⟨7, 3⟩) (meth := k7m3) (c := k7c3) (by decide +kernel) rfl rfl rfl (by decide +kernel)
set_option maxRecDepth 65536 in
theorem w_c7 : (Jvm.Cond.code ({ cls := "java/lang/String", name := "indexOf", desc := "(II)I" } : Jvm.MethodName) jdk_42_method_80_code (3 : Nat) (Option.some Jvm.ClassFile.FieldType.int)).before args0 about1 = true := code_word (m := ⟨7, 4⟩) (meth := k7m4) (c := k7c4) (by decide +kernel) rfl rfl rfl (by decide +kernel)
set_option maxRecDepth 65536 in
theorem w_c8 : (Jvm.Cond.code ({ cls := "java/lang/String", name := "isLatin1", desc := "()Z" } : Jvm.MethodName) jdk_42_method_154_code (1 : Nat) (Option.some Jvm.ClassFile.FieldType.boolean)).before args0 about1 = true := code_word (m := ⟨7, 7⟩) (meth := k7m7) (c := k7c7) (by decide +kernel) rfl rfl rfl (by decide +kernel)
set_option maxRecDepth 65536 in
theorem w_c9 : (Jvm.Cond.code ({ cls := "java/lang/String", name := "length", desc := "()I" } : Jvm.MethodName) jdk_42_method_54_code (1 : Nat) (Option.some Jvm.ClassFile.FieldType.int)).before args0 about1 = true := code_word (m := ⟨7, 2⟩) (meth := k7m2) (c := k7c2) (by decide +kernel) rfl rfl rfl (by decide +kernel)
set_option maxRecDepth 65536 in
theorem w_c10 : (Jvm.Cond.code ({ cls := "java/lang/String", name := "coder", desc := "()B" } : Jvm.MethodName) jdk_42_method_152_code (1 : Nat) (Option.some Jvm.ClassFile.FieldType.byte)).before args0 about1 = true := code_word (m := ⟨7, 6⟩) (meth := k7m6) (c := k7c6) (by decide +kernel) rfl rfl rfl (by decide +kernel)
set_option maxRecDepth 65536 in
theorem w_c11 : (Jvm.Cond.code ({ cls := "java/lang/StringLatin1", name := "indexOf", desc := "([BIII)I" } : Jvm.MethodName) jdk_43_method_22_code (4 : Nat) (Option.some Jvm.ClassFile.FieldType.int)).before args0 about1 = true := code_word (m := ⟨9, 2⟩) (meth := k9m2) (c := k9c2) (by decide +kernel) rfl rfl rfl (by decide +kernel)
set_option maxRecDepth 65536 in
theorem w_c12 : (Jvm.Cond.code ({ cls := "java/lang/StringLatin1", name := "canEncode", desc := "(I)Z" } : Jvm.MethodName) jdk_43_method_4_code (1 : Nat) (Option.some Jvm.ClassFile.FieldType.boolean)).before args0 about1 = true := code_word (m := ⟨9, 1⟩) (meth := k9m1) (c := k9c1) (by decide +kernel) rfl rfl rfl (by decide +kernel)
set_option maxRecDepth 65536 in
theorem w_c13 : (Jvm.Cond.code ({ cls := "java/lang/StringUTF16", name := "compress", desc := "([CII)[B" } : Jvm.MethodName) jdk_52_method_16_code (6 : Nat) (Option.some (Jvm.ClassFile.FieldType.array Jvm.ClassFile.FieldType.byte))).before args0 about1 = true := code_word (m := ⟨10, 8⟩) (meth := k10m8) (c := k10c8) (by decide +kernel) rfl rfl rfl (by decide +kernel)
set_option maxRecDepth 65536 in
theorem w_c14 : (Jvm.Cond.code ({ cls := "java/lang/StringUTF16", name := "compress", desc := "([CI[BII)I" } : Jvm.MethodName) jdk_52_method_21_code (7 : Nat) (Option.some Jvm.ClassFile.FieldType.int)).before args0 about1 = true := code_word (m := ⟨10, 9⟩) (meth := k10m9) (c := k10c9) (by decide +kernel) rfl rfl rfl (by decide +kernel)
set_option maxRecDepth 65536 in
theorem w_c15 : (Jvm.Cond.code ({ cls := "java/lang/StringUTF16", name := "toBytes", desc := "([CII)[B" } : Jvm.MethodName) jdk_52_method_14_code (5 : Nat) (Option.some (Jvm.ClassFile.FieldType.array Jvm.ClassFile.FieldType.byte))).before args0 about1 = true := code_word (m := ⟨10, 6⟩) (meth := k10m6) (c := k10c6) (by decide +kernel) rfl rfl rfl (by decide +kernel)
set_option maxRecDepth 65536 in
theorem w_c16 : (Jvm.Cond.code ({ cls := "java/lang/StringUTF16", name := "newBytesFor", desc := "(I)[B" } : Jvm.MethodName) jdk_52_method_2_code (1 : Nat) (Option.some (Jvm.ClassFile.FieldType.array Jvm.ClassFile.FieldType.byte))).before args0 about1 = true := code_word (m := ⟨10, 1⟩) (meth := k10m1) (c := k10c1) (by decide +kernel) rfl rfl rfl (by decide +kernel)
set_option maxRecDepth 65536 in
theorem w_c17 : (Jvm.Cond.code ({ cls := "java/lang/StringUTF16", name := "newBytesLength", desc := "(I)I" } : Jvm.MethodName) jdk_52_method_3_code (1 : Nat) (Option.some Jvm.ClassFile.FieldType.int)).before args0 about1 = true := code_word (m := ⟨10, 2⟩) (meth := k10m2) (c := k10c2) (by decide +kernel) rfl rfl rfl (by decide +kernel)
set_option maxRecDepth 65536 in
theorem w_c18 : (Jvm.Cond.code ({ cls := "java/lang/StringUTF16", name := "putChar", desc := "([BII)V" } : Jvm.MethodName) jdk_52_method_4_code (3 : Nat) (Option.none : Option Jvm.ClassFile.FieldType)).before args0 about1 = true := code_word (m := ⟨10, 3⟩) (meth := k10m3) (c := k10c3) (by decide +kernel) rfl rfl rfl (by decide +kernel)
set_option maxRecDepth 65536 in
theorem w_c19 : (Jvm.Cond.code ({ cls := "java/lang/StringUTF16", name := "getChar", desc := "([BI)C" } : Jvm.MethodName) jdk_52_method_5_code (2 : Nat) (Option.some Jvm.ClassFile.FieldType.char)).before args0 about1 = true := code_word (m := ⟨10, 4⟩) (meth := k10m4) (c := k10c4) (by decide +kernel) rfl rfl rfl (by decide +kernel)
set_option maxRecDepth 65536 in
theorem w_c20 : (Jvm.Cond.code ({ cls := "java/lang/StringUTF16", name := "coderFromArrayLen", desc := "([BI)B" } : Jvm.MethodName) jdk_52_method_15_code (2 : Nat) (Option.some Jvm.ClassFile.FieldType.byte)).before args0 about1 = true := code_word (m := ⟨10, 7⟩) (meth := k10m7) (c := k10c7) (by decide +kernel) rfl rfl rfl (by decide +kernel)
set_option maxRecDepth 65536 in
theorem w_c21 : (Jvm.Cond.code ({ cls := "java/lang/StringUTF16", name := "indexOf", desc := "([BIII)I" } : Jvm.MethodName) jdk_52_method_40_code (4 : Nat) (Option.some Jvm.ClassFile.FieldType.int)).before args0 about1 = true := code_word (m := ⟨10, 10⟩) (meth := k10m10) (c := k10c10) (by decide +kernel) rfl rfl rfl (by decide +kernel)
set_option maxRecDepth 65536 in
theorem w_c22 : (Jvm.Cond.code ({ cls := "java/lang/Math", name := "max", desc := "(II)I" } : Jvm.MethodName) jdk_29_method_65_code (2 : Nat) (Option.some Jvm.ClassFile.FieldType.int)).before args0 about1 = true := code_word (m := ⟨11, 1⟩) (meth := k11m1) (c := k11c1) (by decide +kernel) rfl rfl rfl (by decide +kernel)
set_option maxRecDepth 65536 in
theorem w_c23 : (Jvm.Cond.code ({ cls := "java/lang/Math", name := "min", desc := "(II)I" } : Jvm.MethodName) jdk_29_method_69_code (2 : Nat) (Option.some Jvm.ClassFile.FieldType.int)).before args0 about1 = true := code_word (m := ⟨11, 2⟩) (meth := k11m2) (c := k11c2) (by decide +kernel) rfl rfl rfl (by decide +kernel)
set_option maxRecDepth 65536 in
theorem w_c24 : (Jvm.Cond.code ({ cls := "java/lang/StringUTF16", name := "indexOfChar", desc := "([BIII)I" } : Jvm.MethodName) jdk_52_method_47_code (4 : Nat) (Option.some Jvm.ClassFile.FieldType.int)).before args0 about1 = true := code_word (m := ⟨10, 11⟩) (meth := k10m11) (c := k10c11) (by decide +kernel) rfl rfl rfl (by decide +kernel)
set_option maxRecDepth 65536 in
theorem w_c25 : (Jvm.Cond.code ({ cls := "java/lang/StringUTF16", name := "checkBoundsBeginEnd", desc := "(II[B)V" } : Jvm.MethodName) jdk_52_method_93_code (3 : Nat) (Option.none : Option Jvm.ClassFile.FieldType)).before args0 about1 = true := code_word (m := ⟨10, 13⟩) (meth := k10m13) (c := k10c13) (by decide +kernel) rfl rfl rfl (by decide +kernel)
set_option maxRecDepth 65536 in
theorem w_c26 : (Jvm.Cond.code ({ cls := "java/lang/StringUTF16", name := "length", desc := "([B)I" } : Jvm.MethodName) jdk_52_method_6_code (1 : Nat) (Option.some Jvm.ClassFile.FieldType.int)).before args0 about1 = true := code_word (m := ⟨10, 5⟩) (meth := k10m5) (c := k10c5) (by decide +kernel) rfl rfl rfl (by decide +kernel)
set_option maxRecDepth 65536 in
theorem w_c27 : (Jvm.Cond.code ({ cls := "java/lang/String", name := "checkBoundsBeginEnd", desc := "(III)V" } : Jvm.MethodName) jdk_42_method_158_code (3 : Nat) (Option.none : Option Jvm.ClassFile.FieldType)).before args0 about1 = true := code_word (m := ⟨7, 8⟩) (meth := k7m8) (c := k7c8) (by decide +kernel) rfl rfl rfl (by decide +kernel)
set_option maxRecDepth 65536 in
theorem w_c28 : (Jvm.Cond.code ({ cls := "jdk/internal/util/Preconditions", name := "checkFromToIndex", desc := "(IIILjava/util/function/BiFunction;)I" } : Jvm.MethodName) jdk_41_method_12_code (4 : Nat) (Option.some Jvm.ClassFile.FieldType.int)).before args0 about1 = true := code_word (m := ⟨12, 1⟩) (meth := k12m1) (c := k12c1) (by decide +kernel) rfl rfl rfl (by decide +kernel)
set_option maxRecDepth 65536 in
theorem w_c29 : (Jvm.Cond.code ({ cls := "java/lang/StringUTF16", name := "indexOfCharUnsafe", desc := "([BIII)I" } : Jvm.MethodName) jdk_52_method_48_code (5 : Nat) (Option.some Jvm.ClassFile.FieldType.int)).before args0 about1 = true := code_word (m := ⟨10, 12⟩) (meth := k10m12) (c := k10c12) (by decide +kernel) rfl rfl rfl (by decide +kernel)
def codes1 : List Jvm.Cond := [Jvm.Cond.code x code maxLocals ret, Jvm.Cond.code ({ cls := "com/example/tessera/tessera/cli/DecodingFailedPinLaw", name := "draw", desc := "(I)C" } : Jvm.MethodName) method_2_code (1 : Nat) (Option.some Jvm.ClassFile.FieldType.char), Jvm.Cond.code ({ cls := "java/lang/String", name := "<init>", desc := "([C)V" } : Jvm.MethodName) jdk_42_method_3_code (2 : Nat) (Option.none : Option Jvm.ClassFile.FieldType), Jvm.Cond.code ({ cls := "java/lang/String", name := "<init>", desc := "([CIILjava/lang/Void;)V" } : Jvm.MethodName) jdk_42_method_149_code (6 : Nat) (Option.none : Option Jvm.ClassFile.FieldType), Jvm.Cond.code ({ cls := "java/lang/Object", name := "<init>", desc := "()V" } : Jvm.MethodName) object_method_1_code (1 : Nat) (Option.none : Option Jvm.ClassFile.FieldType), Jvm.Cond.code ({ cls := "com/example/tessera/tessera/cli/Decoding", name := "failed", desc := "(Ljava/lang/String;)Z" } : Jvm.MethodName) prog_1_method_2_code (1 : Nat) (Option.some Jvm.ClassFile.FieldType.boolean), Jvm.Cond.code ({ cls := "java/lang/String", name := "indexOf", desc := "(I)I" } : Jvm.MethodName) jdk_42_method_79_code (2 : Nat) (Option.some Jvm.ClassFile.FieldType.int), Jvm.Cond.code ({ cls := "java/lang/String", name := "indexOf", desc := "(II)I" } : Jvm.MethodName) jdk_42_method_80_code (3 : Nat) (Option.some Jvm.ClassFile.FieldType.int), Jvm.Cond.code ({ cls := "java/lang/String", name := "isLatin1", desc := "()Z" } : Jvm.MethodName) jdk_42_method_154_code (1 : Nat) (Option.some Jvm.ClassFile.FieldType.boolean), Jvm.Cond.code ({ cls := "java/lang/String", name := "length", desc := "()I" } : Jvm.MethodName) jdk_42_method_54_code (1 : Nat) (Option.some Jvm.ClassFile.FieldType.int), Jvm.Cond.code ({ cls := "java/lang/String", name := "coder", desc := "()B" } : Jvm.MethodName) jdk_42_method_152_code (1 : Nat) (Option.some Jvm.ClassFile.FieldType.byte), Jvm.Cond.code ({ cls := "java/lang/StringLatin1", name := "indexOf", desc := "([BIII)I" } : Jvm.MethodName) jdk_43_method_22_code (4 : Nat) (Option.some Jvm.ClassFile.FieldType.int), Jvm.Cond.code ({ cls := "java/lang/StringLatin1", name := "canEncode", desc := "(I)Z" } : Jvm.MethodName) jdk_43_method_4_code (1 : Nat) (Option.some Jvm.ClassFile.FieldType.boolean), Jvm.Cond.code ({ cls := "java/lang/StringUTF16", name := "compress", desc := "([CII)[B" } : Jvm.MethodName) jdk_52_method_16_code (6 : Nat) (Option.some (Jvm.ClassFile.FieldType.array Jvm.ClassFile.FieldType.byte)), Jvm.Cond.code ({ cls := "java/lang/StringUTF16", name := "compress", desc := "([CI[BII)I" } : Jvm.MethodName) jdk_52_method_21_code (7 : Nat) (Option.some Jvm.ClassFile.FieldType.int), Jvm.Cond.code ({ cls := "java/lang/StringUTF16", name := "toBytes", desc := "([CII)[B" } : Jvm.MethodName) jdk_52_method_14_code (5 : Nat) (Option.some (Jvm.ClassFile.FieldType.array Jvm.ClassFile.FieldType.byte)), Jvm.Cond.code ({ cls := "java/lang/StringUTF16", name := "newBytesFor", desc := "(I)[B" } : Jvm.MethodName) jdk_52_method_2_code (1 : Nat) (Option.some (Jvm.ClassFile.FieldType.array Jvm.ClassFile.FieldType.byte)), Jvm.Cond.code ({ cls := "java/lang/StringUTF16", name := "newBytesLength", desc := "(I)I" } : Jvm.MethodName) jdk_52_method_3_code (1 : Nat) (Option.some Jvm.ClassFile.FieldType.int), Jvm.Cond.code ({ cls := "java/lang/StringUTF16", name := "putChar", desc := "([BII)V" } : Jvm.MethodName) jdk_52_method_4_code (3 : Nat) (Option.none : Option Jvm.ClassFile.FieldType), Jvm.Cond.code ({ cls := "java/lang/StringUTF16", name := "getChar", desc := "([BI)C" } : Jvm.MethodName) jdk_52_method_5_code (2 : Nat) (Option.some Jvm.ClassFile.FieldType.char), Jvm.Cond.code ({ cls := "java/lang/StringUTF16", name := "coderFromArrayLen", desc := "([BI)B" } : Jvm.MethodName) jdk_52_method_15_code (2 : Nat) (Option.some Jvm.ClassFile.FieldType.byte), Jvm.Cond.code ({ cls := "java/lang/StringUTF16", name := "indexOf", desc := "([BIII)I" } : Jvm.MethodName) jdk_52_method_40_code (4 : Nat) (Option.some Jvm.ClassFile.FieldType.int), Jvm.Cond.code ({ cls := "java/lang/Math", name := "max", desc := "(II)I" } : Jvm.MethodName) jdk_29_method_65_code (2 : Nat) (Option.some Jvm.ClassFile.FieldType.int), Jvm.Cond.code ({ cls := "java/lang/Math", name := "min", desc := "(II)I" } : Jvm.MethodName) jdk_29_method_69_code (2 : Nat) (Option.some Jvm.ClassFile.FieldType.int), Jvm.Cond.code ({ cls := "java/lang/StringUTF16", name := "indexOfChar", desc := "([BIII)I" } : Jvm.MethodName) jdk_52_method_47_code (4 : Nat) (Option.some Jvm.ClassFile.FieldType.int), Jvm.Cond.code ({ cls := "java/lang/StringUTF16", name := "checkBoundsBeginEnd", desc := "(II[B)V" } : Jvm.MethodName) jdk_52_method_93_code (3 : Nat) (Option.none : Option Jvm.ClassFile.FieldType), Jvm.Cond.code ({ cls := "java/lang/StringUTF16", name := "length", desc := "([B)I" } : Jvm.MethodName) jdk_52_method_6_code (1 : Nat) (Option.some Jvm.ClassFile.FieldType.int), Jvm.Cond.code ({ cls := "java/lang/String", name := "checkBoundsBeginEnd", desc := "(III)V" } : Jvm.MethodName) jdk_42_method_158_code (3 : Nat) (Option.none : Option Jvm.ClassFile.FieldType), Jvm.Cond.code ({ cls := "jdk/internal/util/Preconditions", name := "checkFromToIndex", desc := "(IIILjava/util/function/BiFunction;)I" } : Jvm.MethodName) jdk_41_method_12_code (4 : Nat) (Option.some Jvm.ClassFile.FieldType.int), Jvm.Cond.code ({ cls := "java/lang/StringUTF16", name := "indexOfCharUnsafe", desc := "([BIII)I" } : Jvm.MethodName) jdk_52_method_48_code (5 : Nat) (Option.some Jvm.ClassFile.FieldType.int)]
set_option maxRecDepth 65536 in
theorem codes_eq : words1.filter isCode = codes1 := rfl
theorem w_codes : ∀ c ∈ words1.filter isCode, c.before args0 about1 = true := by
  rw [codes_eq]
  intro c hc
  simp only [codes1, List.mem_cons, List.not_mem_nil, or_false] at hc
  rcases hc with rfl | rfl | rfl | rfl | rfl | rfl | rfl | rfl | rfl | rfl | rfl | rfl | rfl | rfl | rfl | rfl | rfl | rfl | rfl | rfl | rfl | rfl | rfl | rfl | rfl | rfl | rfl | rfl | rfl | rfl
  · exact w_c0
  · exact w_c1
  · exact w_c2
  · exact w_c3
  · exact w_c4
  · exact w_c5
  · exact w_c6
  · exact w_c7
  · exact w_c8
  · exact w_c9
  · exact w_c10
  · exact w_c11
  · exact w_c12
  · exact w_c13
  · exact w_c14
  · exact w_c15
  · exact w_c16
  · exact w_c17
  · exact w_c18
  · exact w_c19
  · exact w_c20
  · exact w_c21
  · exact w_c22
  · exact w_c23
  · exact w_c24
  · exact w_c25
  · exact w_c26
  · exact w_c27
  · exact w_c28
  · exact w_c29
set_option maxRecDepth 65536 in
theorem w_t1 : (words1.take 24).all (fun c => isCode c || c.before args0 about1) = true := by decide +kernel
set_option maxRecDepth 65536 in
theorem w_t2 : ((words1.drop 24).take 24).all (fun c => isCode c || c.before args0 about1) = true := by decide +kernel
set_option maxRecDepth 65536 in
theorem w_t3 : (((words1.drop 24).drop 24).take 24).all (fun c => isCode c || c.before args0 about1) = true := by decide +kernel
set_option maxRecDepth 65536 in
theorem w_t4 : ((((words1.drop 24).drop 24).drop 24).take 24).all (fun c => isCode c || c.before args0 about1) = true := by decide +kernel
set_option maxRecDepth 65536 in
theorem w_t5 : (((((words1.drop 24).drop 24).drop 24).drop 24).take 24).all (fun c => isCode c || c.before args0 about1) = true := by decide +kernel
set_option maxRecDepth 65536 in
theorem w_t6 : (((((words1.drop 24).drop 24).drop 24).drop 24).drop 24).all (fun c => isCode c || c.before args0 about1) = true := by decide +kernel
theorem w_tables : (allAtoms (Jvm.Cond.code x code maxLocals ret :: tables_1)).before args0 about1 = true := by
  rw [allAtoms_all]
  show words1.all (fun c => c.before args0 about1) = true
  refine all_split ?_ w_codes
  rw [← List.take_append_drop 24 words1, List.all_append, w_t1, ← List.take_append_drop 24 (words1.drop 24), List.all_append, w_t2, ← List.take_append_drop 24 ((words1.drop 24).drop 24), List.all_append, w_t3, ← List.take_append_drop 24 (((words1.drop 24).drop 24).drop 24), List.all_append, w_t4, ← List.take_append_drop 24 ((((words1.drop 24).drop 24).drop 24).drop 24), List.all_append, w_t5, w_t6]
  rfl
set_option maxRecDepth 65536 in
theorem w_rest : rest_1_c.before args0 about1 = true := by decide +kernel
set_option maxRecDepth 65536 in
theorem w_case : (Jvm.Cond.and given_1 narrow_1).before args0 about1 = true := by decide +kernel
set_option maxRecDepth 65536 in
theorem w_consts : constsHeld consts_1 about1 := Jvm.Lit.constsHeldB_iff.mp (by decide +kernel)
theorem w_applies : (headSpec (Jvm.Cond.code x code maxLocals ret :: tables_1) room_1).applies x e0.platform about1 = true :=
  (Spec.applies_iff w_frames).mpr ⟨w_running, w_runnable, w_alone, w_named, w_hears, w_ripe, w_room, w_tables⟩
theorem atStart : AtStart classFile x code maxLocals ret World_1 tables_1 room_1 Calls_1 rest_1 Pre_1 launch0 p0 e0 about1 theMethod args0 below0 :=
  ⟨lists_1, trivial, launch0.admits_env _ _ _, launch0.least_env, fairChoices_fair.cas, fairChoices_fair.clock, w_frames, w_args, w_heap, w_applies, ⟨w_consts, trivial⟩, w_rest, w_case⟩
end start1
theorem witness_1 : WitnessClaimed_1 := ⟨start1.p0, start1.e0, start1.about1, start1.theMethod, start1.args0, start1.below0, start1.atStart⟩
end Jvm.Pilot.@@N@@
