import JvmDerived
import JvmDerived.Pilot.@@N@@Statement
import JvmDerived.Pilot.@@N@@Code
set_option linter.unusedVariables false
set_option linter.unusedSimpArgs false
namespace Jvm.Pilot.@@N@@
open Jvm Jvm.ClassFile Sem Op Lib Jvm.Free Jvm.Stand Jvm.LawKit Jvm.RoadKit Bundle Jvm.Pilot.@@N@@.Jvm.D
def Go (p : Program) (e : Env) (below : List Frame) (G : State → Prop) (T : State) (f : JFrame) : Prop := ∃ t, Steps p.tables e below (T.setTop f) t ∧ G t
theorem Go.step {p : Program} {e : Env} {below : List Frame} {G : State → Prop} {T T' : State} {f f' : JFrame} (k : ∀ t, Steps p.tables e below (T'.setTop f') t → Steps p.tables e below (T.setTop f) t) (h : Go p e below G T' f') : Go p e below G T f := by
  obtain ⟨t, h1, h2⟩ := h
  exact ⟨t, k t h1, h2⟩
def Fin1 (s : State) (below : List Frame) (Q : Option Value → Heap → List Loc → Prop) (k n : Nat) (t : State) : Prop := ∃ o, t.status = .running ∧ Ended t below o ∧ ∃ v L, o = .returned v ∧ Q v t.heap L ∧ FrameEnd s o t L k n
theorem of_go {p : Program} {e : Env} {below : List Frame} {s s₁ : State} {Q : Option Value → Heap → List Loc → Prop} {k n : Nat} {f f' : JFrame} (hf : f' = f) (h : Go p e below (Fin1 s below Q k n) s₁ f) :
    ∃ s₂ o, Steps p.tables e below (s₁.setTop f') s₂ ∧ s₂.status = .running ∧ Ended s₂ below o ∧ ∃ v L, o = .returned v ∧ Q v s₂.heap L ∧ FrameEnd s o s₂ L k n := by
  subst hf
  obtain ⟨t, h1, o, h2, h3, h4⟩ := h
  exact ⟨t, o, h1, h2, h3, h4⟩
section Ends
variable {p : Program} {l : Launch} {e : Env} {R : Room} {s : State} {m : MethodId} {args : Array Value} {below : List Frame} {meth : Method} {c : Code} {T : State} {locs : List Loc} {cells slots : Nat} {Q : Option Value → Heap → List Loc → Prop} {k n : Nat}
theorem goN (X : Stand p l e R s m args below meth c T locs cells slots) (hx : p.tables.exec = Jvm.exec) {pc : Nat} {Ls : Array Slot} {z : Int32} {t : FieldType} {rest : List Value} (hret : meth.sig.returnType = some t) (ht : t = .boolean ∨ t = .byte ∨ t = .char ∨ t = .short) (hlk : meth.locks = false)
    (hd : decode c.code pc = .ok (.ireturn, 1)) (hQ : Q (some (.int (nar t z))) T.heap locs) (hk : cells ≤ k) (hn : slots ≤ n) : Go p e below (Fin1 s below Q k n) T (mkF m pc Ls (.int z :: rest)) := by
  obtain ⟨fs, hr, hrun, hended, hW, hsame⟩ := X.leave (v := some (.int (nar t z))) (fun h => by rw [hret] at h; cases h) hlk
  exact ⟨_, Jvm.RoadKit.retN X hx hret ht hd hr, _, hrun, hended, _, _, rfl, hQ, ⟨_, rfl⟩, hW, hsame.mono hk hn⟩
theorem goO (X : Stand p l e R s m args below meth c T locs cells slots) (hx : p.tables.exec = Jvm.exec) {pc : Nat} {Ls : Array Slot} {w : Value} {t : FieldType} {i : Instr} {rest : List Value} (hret : meth.sig.returnType = some t) (hnw : narrow t w = w)
    (hi : (i = .ireturn ∧ (t = .int ∨ t = .boolean ∨ t = .byte ∨ t = .char ∨ t = .short) ∧ ∃ z, w = .int z) ∨ (i = .lreturn ∧ t = .long ∧ ∃ z, w = .long z) ∨ (i = .dreturn ∧ t = .double ∧ ∃ z, w = .double z) ∨ (i = .freturn ∧ t = .float ∧ ∃ z, w = .float z) ∨ (i = .areturn ∧ t.isReference = true ∧ w.isRef = true)) (hlk : meth.locks = false)
    (hd : decode c.code pc = .ok (i, 1)) (hQ : Q (some w) T.heap locs) (hk : cells ≤ k) (hn : slots ≤ n) : Go p e below (Fin1 s below Q k n) T (mkF m pc Ls (w :: rest)) := by
  obtain ⟨fs, hr, hrun, hended, hW, hsame⟩ := X.leave (v := some w) (fun h => by rw [hret] at h; cases h) hlk
  exact ⟨_, Jvm.RoadKit.retOut X hx hret hnw hi hd hr, _, hrun, hended, _, _, rfl, hQ, ⟨_, rfl⟩, hW, hsame.mono hk hn⟩
theorem goI (X : Stand p l e R s m args below meth c T locs cells slots) (hx : p.tables.exec = Jvm.exec) {pc : Nat} {Ls : Array Slot} {z : Int32} {rest : List Value} (hret : meth.sig.returnType = some .int) (hlk : meth.locks = false)
    (hd : decode c.code pc = .ok (.ireturn, 1)) (hQ : Q (some (.int z)) T.heap locs) (hk : cells ≤ k) (hn : slots ≤ n) : Go p e below (Fin1 s below Q k n) T (mkF m pc Ls (.int z :: rest)) :=
  goO X hx hret rfl (Or.inl ⟨rfl, Or.inl rfl, _, rfl⟩) hlk hd hQ hk hn
theorem goJ (X : Stand p l e R s m args below meth c T locs cells slots) (hx : p.tables.exec = Jvm.exec) {pc : Nat} {Ls : Array Slot} {z : Int64} {rest : List Value} (hret : meth.sig.returnType = some .long) (hlk : meth.locks = false)
    (hd : decode c.code pc = .ok (.lreturn, 1)) (hQ : Q (some (.long z)) T.heap locs) (hk : cells ≤ k) (hn : slots ≤ n) : Go p e below (Fin1 s below Q k n) T (mkF m pc Ls (.long z :: rest)) :=
  goO X hx hret rfl (Or.inr (Or.inl ⟨rfl, rfl, _, rfl⟩)) hlk hd hQ hk hn
theorem goA (X : Stand p l e R s m args below meth c T locs cells slots) (hx : p.tables.exec = Jvm.exec) {pc : Nat} {Ls : Array Slot} {w : Value} {t : FieldType} {rest : List Value} (hret : meth.sig.returnType = some t) (ht : t.isReference = true) (hw : w.isRef = true) (hlk : meth.locks = false)
    (hd : decode c.code pc = .ok (.areturn, 1)) (hQ : Q (some w) T.heap locs) (hk : cells ≤ k) (hn : slots ≤ n) : Go p e below (Fin1 s below Q k n) T (mkF m pc Ls (w :: rest)) :=
  goO X hx hret (by cases t <;> cases w <;> first | rfl | (simp [FieldType.isReference] at ht; done) | (simp [Value.isRef] at hw; done)) (Or.inr (Or.inr (Or.inr (Or.inr ⟨rfl, ht, hw⟩)))) hlk hd hQ hk hn
theorem goV (X : Stand p l e R s m args below meth c T locs cells slots) (hx : p.tables.exec = Jvm.exec) {pc : Nat} {Ls : Array Slot} (hret : meth.sig.returnType = none) (hlk : meth.locks = false)
    (hd : decode c.code pc = .ok (.return_, 1)) (hQ : Q none T.heap locs) (hk : cells ≤ k) (hn : slots ≤ n) : Go p e below (Fin1 s below Q k n) T (mkF m pc Ls []) := by
  obtain ⟨fs, hr, hrun, hended, hW, hsame⟩ := X.leave (v := none) (fun _ => rfl) hlk
  exact ⟨_, X.returnOut hx hret hd hr, _, hrun, hended, _, _, rfl, hQ, ⟨_, rfl⟩, hW, hsame.mono hk hn⟩
def FinW (s : State) (below : List Frame) (Q : Option Value → Heap → List Loc → Prop) (k n : Nat) (t : State) : Prop := ∃ o, t.status = .running ∧ Ended t below o ∧ ∃ v L, o = .returned v ∧ Q v t.heap L ∧ ReturnedEndW s o t L k n
theorem of_goW {p : Program} {e : Env} {below : List Frame} {s s₁ : State} {Q : Option Value → Heap → List Loc → Prop} {k n : Nat} {f f' : JFrame} (hf : f' = f) (h : Go p e below (FinW s below Q k n) s₁ f) :
    ∃ s₂ o, Steps p.tables e below (s₁.setTop f') s₂ ∧ s₂.status = .running ∧ Ended s₂ below o ∧ ∃ v L, o = .returned v ∧ Q v s₂.heap L ∧ ReturnedEndW s o s₂ L k n := by
  subst hf
  obtain ⟨t, h1, o, h2, h3, h4⟩ := h
  exact ⟨t, o, h1, h2, h3, h4⟩
theorem goNW {vm0 : Vm} {n1 : Nat} (hS : s.Since vm0 n1) (X : Stand p l e R (s.setVm vm0) m args below meth c T locs cells slots) (hkk : n1 ≤ T.heap.size) (hx : p.tables.exec = Jvm.exec) {pc : Nat} {Ls : Array Slot} {z : Int32} {t : FieldType} {rest : List Value} (hret : meth.sig.returnType = some t) (ht : t = .boolean ∨ t = .byte ∨ t = .char ∨ t = .short) (hlk : meth.locks = false)
    (hd : decode c.code pc = .ok (.ireturn, 1)) (hQ : Q (some (.int (nar t z))) T.heap locs) (hk : cells ≤ k) (hn : slots ≤ n) : Go p e below (FinW s below Q k n) T (mkF m pc Ls (.int z :: rest)) := by
  obtain ⟨fs, hr, hrun, hended, hW, hsame⟩ := X.leave (v := some (.int (nar t z))) (fun h => by rw [hret] at h; cases h) hlk
  obtain ⟨a1, a2, a3⟩ := hS.ended hW (show n1 ≤ (T.setFrames fs).heap.size from hkk) hsame
  exact ⟨_, Jvm.RoadKit.retN X hx hret ht hd hr, _, hrun, hended, _, _, rfl, hQ, ⟨_, rfl⟩, a1, a2, a3.mono hk hn⟩
theorem goOW {vm0 : Vm} {n1 : Nat} (hS : s.Since vm0 n1) (X : Stand p l e R (s.setVm vm0) m args below meth c T locs cells slots) (hkk : n1 ≤ T.heap.size) (hx : p.tables.exec = Jvm.exec) {pc : Nat} {Ls : Array Slot} {w : Value} {t : FieldType} {i : Instr} {rest : List Value} (hret : meth.sig.returnType = some t) (hnw : narrow t w = w)
    (hi : (i = .ireturn ∧ (t = .int ∨ t = .boolean ∨ t = .byte ∨ t = .char ∨ t = .short) ∧ ∃ z, w = .int z) ∨ (i = .lreturn ∧ t = .long ∧ ∃ z, w = .long z) ∨ (i = .dreturn ∧ t = .double ∧ ∃ z, w = .double z) ∨ (i = .freturn ∧ t = .float ∧ ∃ z, w = .float z) ∨ (i = .areturn ∧ t.isReference = true ∧ w.isRef = true)) (hlk : meth.locks = false)
    (hd : decode c.code pc = .ok (i, 1)) (hQ : Q (some w) T.heap locs) (hk : cells ≤ k) (hn : slots ≤ n) : Go p e below (FinW s below Q k n) T (mkF m pc Ls (w :: rest)) := by
  obtain ⟨fs, hr, hrun, hended, hW, hsame⟩ := X.leave (v := some w) (fun h => by rw [hret] at h; cases h) hlk
  obtain ⟨a1, a2, a3⟩ := hS.ended hW (show n1 ≤ (T.setFrames fs).heap.size from hkk) hsame
  exact ⟨_, Jvm.RoadKit.retOut X hx hret hnw hi hd hr, _, hrun, hended, _, _, rfl, hQ, ⟨_, rfl⟩, a1, a2, a3.mono hk hn⟩
theorem goIW {vm0 : Vm} {n1 : Nat} (hS : s.Since vm0 n1) (X : Stand p l e R (s.setVm vm0) m args below meth c T locs cells slots) (hkk : n1 ≤ T.heap.size) (hx : p.tables.exec = Jvm.exec) {pc : Nat} {Ls : Array Slot} {z : Int32} {rest : List Value} (hret : meth.sig.returnType = some .int) (hlk : meth.locks = false)
    (hd : decode c.code pc = .ok (.ireturn, 1)) (hQ : Q (some (.int z)) T.heap locs) (hk : cells ≤ k) (hn : slots ≤ n) : Go p e below (FinW s below Q k n) T (mkF m pc Ls (.int z :: rest)) :=
  goOW hS X hkk hx hret rfl (Or.inl ⟨rfl, Or.inl rfl, _, rfl⟩) hlk hd hQ hk hn
theorem goAW {vm0 : Vm} {n1 : Nat} (hS : s.Since vm0 n1) (X : Stand p l e R (s.setVm vm0) m args below meth c T locs cells slots) (hkk : n1 ≤ T.heap.size) (hx : p.tables.exec = Jvm.exec) {pc : Nat} {Ls : Array Slot} {w : Value} {t : FieldType} {rest : List Value} (hret : meth.sig.returnType = some t) (ht : t.isReference = true) (hw : w.isRef = true) (hlk : meth.locks = false)
    (hd : decode c.code pc = .ok (.areturn, 1)) (hQ : Q (some w) T.heap locs) (hk : cells ≤ k) (hn : slots ≤ n) : Go p e below (FinW s below Q k n) T (mkF m pc Ls (w :: rest)) :=
  goOW hS X hkk hx hret (by cases t <;> cases w <;> first | rfl | (simp [FieldType.isReference] at ht; done) | (simp [Value.isRef] at hw; done)) (Or.inr (Or.inr (Or.inr (Or.inr ⟨rfl, ht, hw⟩)))) hlk hd hQ hk hn
theorem goVW {vm0 : Vm} {n1 : Nat} (hS : s.Since vm0 n1) (X : Stand p l e R (s.setVm vm0) m args below meth c T locs cells slots) (hkk : n1 ≤ T.heap.size) (hx : p.tables.exec = Jvm.exec) {pc : Nat} {Ls : Array Slot} (hret : meth.sig.returnType = none) (hlk : meth.locks = false)
    (hd : decode c.code pc = .ok (.return_, 1)) (hQ : Q none T.heap locs) (hk : cells ≤ k) (hn : slots ≤ n) : Go p e below (FinW s below Q k n) T (mkF m pc Ls []) := by
  obtain ⟨fs, hr, hrun, hended, hW, hsame⟩ := X.leave (v := none) (fun _ => rfl) hlk
  obtain ⟨a1, a2, a3⟩ := hS.ended hW (show n1 ≤ (T.setFrames fs).heap.size from hkk) hsame
  exact ⟨_, X.returnOut hx hret hd hr, _, hrun, hended, _, _, rfl, hQ, ⟨_, rfl⟩, a1, a2, a3.mono hk hn⟩
theorem narB {z : Int32} (h : z = 0 ∨ z = 1) : nar .boolean z = z := by rcases h with rfl | rfl <;> rfl
end Ends
theorem own_acopyB {p : Program} {l : Launch} {e : Env} {R : Room} {s : State} {m : MethodId} {args : Array Value} {below : List Frame} {meth : Method} {c : Code} {T : State} {locs : List Loc} {cells slots : Nat} {Z : State} {a0 : Array Value} {h : Heap} {own : String} {index : Nat} (X : Stand p l e R s m args below meth c T locs cells slots) (hx : p.tables.exec = Jvm.exec) (hZ : Z.Warmed39 s.vm) (hown : s.vm.findClass own = some m.cls)
    (w1 : (Cond.methodLink own index (⟨"java/lang/System", "arraycopy", "(Ljava/lang/Object;ILjava/lang/Object;II)V"⟩ : MethodName)).before a0 Z = true) (w2 : (Cond.native (⟨"java/lang/System", "arraycopy", "(Ljava/lang/Object;ILjava/lang/Object;II)V"⟩ : MethodName)).before a0 Z = true) (w3 : (Cond.static (⟨"java/lang/System", "arraycopy", "(Ljava/lang/Object;ILjava/lang/Object;II)V"⟩ : MethodName)).before a0 Z = true) (w4 : (Cond.initialized "java/lang/System").before a0 Z = true) (eT : T.heap = h) {a b : Addr} {ka kb : ClassId} {na nb : Int32} {vs ws : List Value} (A : Arv Z h a ka .byte na vs (.int 0)) (B : Arv Z h b kb .byte nb ws (.int 0)) (o L : Nat) {jo jn : Int32} (ho : jo = Int32.ofNat o) (hn : jn = Int32.ofNat L) (h4 : o + L ≤ na.toNatClampNeg) (h5 : nb.toNatClampNeg = L) (vs' : List Value) (hv : ∀ j, j < L → vs'.getD j (.int 0) = vs.getD (o + j) (.int 0))
    {g : JFrame} (hg : g.method = m) (hsize : g.locals.size = c.maxLocals) {rest : List Value} (hstack : g.stack = .int jn :: .int 0 :: .ref b :: .int jo :: .ref a :: rest) (hdg : decode c.code g.pc = .ok (.invokestatic index, 3)) {W : Nat} (hW : 2 * g.monitorRoom + (rest.map fun v => v.category).sum ≤ W) (hfr : 1 ≤ R.frames) (hlo : W + 40 ≤ R.locals) :
    ∃ (T' : State) (h' : Heap), Stand p l e R s m args below meth c T' (locs ++ copyLocs b 0 L) cells slots ∧ T'.heap = h' ∧ Keep h h' [b] ∧ Arv Z h' b kb .byte nb vs' (.int 0) ∧
      ∀ target, Steps p.tables e below (T'.setTop { g with pc := g.pc + 3, stack := rest }) target → Steps p.tables e below (T.setTop g) target := by
  subst eT
  have hal : Z.vm.Alike T.vm := (wtrans hZ X.warmed).alike
  obtain ⟨ca, ⟨a1, a2, a3⟩, a4, a5, a6, a7, a8⟩ := A
  obtain ⟨cb, ⟨b1, b2, b3⟩, b4, b5, b6, b7, b8⟩ := B
  have sa : ca.slots.size < 2 ^ 31 := by rw [a5]; have := na.toInt_lt; simp only [Int32.toNatClampNeg]; omega
  have sb : cb.slots.size < 2 ^ 31 := by rw [b5]; have := nb.toInt_lt; simp only [Int32.toNatClampNeg]; omega
  have ga : ∀ i, i < L → ca.slots.getD (o + i) .null = vs.getD (o + i) (.int 0) := fun i hi => SBG.getD_of (a7 (o + i) (by omega))
  obtain ⟨T', B', X', ⟨P1, P2, P3⟩, q1, q2, q3, q4, st⟩ := X.acopy hx hown (fun w hw => by
      simp only [XT.acW, List.mem_cons, List.not_mem_nil, or_false] at hw
      rcases hw with rfl | rfl | rfl | rfl
      · exact mvT hZ w1
      · exact mvT hZ w2
      · exact mvT hZ w3
      · exact mvT hZ w4) (ts := .byte) (t := .byte) (a := a) (b := b) (A := ca) (B := cb) ⟨a1, State.isArrayOf_alike hal a2, a3, sa⟩ ⟨b1, State.isArrayOf_alike hal b2, b3, sb⟩ rfl (o := o) (q := 0) (n := L) ho rfl hn (by omega) (by omega)
      (fun i hi => by
        rw [ga i hi]
        exact ⟨a8 (o + i) (by omega), fun q => by cases q⟩) hg hsize hstack hdg hW hfr hlo
  refine ⟨T', _, X', rfl, ⟨Nat.le_of_eq P3.symm, fun x cx hxc hn => ?_, fun x cx hxc => ?_⟩, ⟨B', ⟨P1, ?_, by rw [q2]; exact b3⟩, q1.trans b4, q3.trans b5, b6, fun j hj => ?_, fun j hj => ?_⟩, st⟩
  · rw [P2 x (fun z => hn (by simp [z]))]; exact hxc
  · by_cases hxb : x = b
    · subst hxb
      cases b1.symm.trans hxc
      exact ⟨B', P1, q1, q2, q3⟩
    · exact ⟨cx, by rw [P2 x hxb]; exact hxc, rfl, rfl, rfl⟩
  · obtain ⟨r1, k, r2, r3⟩ := b2
    exact ⟨by rw [q2]; exact r1, k, by rw [q1]; exact r2, r3⟩
  · have hL : j < L := by omega
    rw [q4 j, if_pos ⟨Nat.zero_le _, by omega⟩, Nat.sub_zero, ga j hL, hv j hL]
  · have hL : j < L := by omega
    rw [hv j hL]
    exact a8 (o + j) (by omega)
theorem own_cpF {n0 : Nat} {b : Addr} {L : Nat} (g : n0 ≤ b) : Fr n0 (copyLocs b 0 L) := fun y hy => by
  rw [Jvm.Stand.copyLocs_base hy]; exact g
theorem own_nb (x : Int32) : nar .byte (x.toInt8.toInt32) = x.toInt8.toInt32 := by
  apply Int32.toInt_inj.mp
  have h1 := c_i2b x
  have h2 := c_i2b (x.toInt8.toInt32)
  show (x.toInt8.toInt32.toInt8.toInt32).toInt = _
  omega
theorem own_ch (x : Int32) : ¬ (255 : Int32) < (x &&& (255 : Int32)).toUInt32.toUInt16.toUInt32.toInt32 ∧ nar .char ((x &&& (255 : Int32)).toUInt32.toUInt16.toUInt32.toInt32) = (x &&& (255 : Int32)).toUInt32.toUInt16.toUInt32.toInt32 ∧ fits .char (.int ((x &&& (255 : Int32)).toUInt32.toUInt16.toUInt32.toInt32)) = true ∧ 0 ≤ ((x &&& (255 : Int32)).toUInt32.toUInt16.toUInt32.toInt32).toInt := by
  refine ⟨?_, ?_, fits_nar_char (x &&& 255), ?_⟩
  · rw [i2c_mask]
    have h := c_and x 255 (by decide)
    have h5 : (255 : Int32).toInt = 255 := rfl
    simp only [Int32.lt_iff_toInt_lt, Int32.reduceToInt]
    omega
  · show (_ : Int32).toUInt32.toUInt16.toUInt32.toInt32 = _
    rw [i2c_mask, i2c_mask]
  · rw [i2c_mask]
    exact (c_and x 255 (by decide)).1
theorem own_orN {X Y : Nat} (hX : X < 256) (hY : Y / 256 * 256 = Y) : Y ||| X = Y + X := by
  have k := Nat.shiftLeft_add_eq_or_of_lt (i := 8) hX (Y / 256)
  rw [Nat.shiftLeft_eq, show Y / 256 * 2 ^ 8 = Y from hY] at k
  exact k.symm
theorem own_m255 (y : Int32) : (y &&& (255 : Int32)).toInt = y.toInt % 256 := by
  have h1 : (y &&& 255).toBitVec.toNat = y.toBitVec.toNat % 256 := by
    show (y.toBitVec &&& (255 : Int32).toBitVec).toNat = _
    rw [BitVec.toNat_and]
    exact Nat.and_two_pow_sub_one_eq_mod _ 8
  show (y &&& 255).toBitVec.toInt = y.toBitVec.toInt % 256
  rw [BitVec.toInt_eq_toNat_cond, BitVec.toInt_eq_toNat_cond, h1]
  have := y.toBitVec.isLt
  split <;> split <;> omega
theorem own_or8 (a b : Int32) (ha : 0 ≤ a.toInt) (ha' : a.toInt < 256) (hb : 0 ≤ b.toInt) (hb' : b.toInt < 256) : ((a <<< ((0 : Int32) &&& 31)) ||| (b <<< ((8 : Int32) &&& 31))).toInt = a.toInt + 256 * b.toInt := by
  have h1 := c_ishl a 0 0 rfl
  have h2 := c_ishl b 8 8 rfl
  obtain ⟨x, ex⟩ : ∃ x, x = a <<< ((0 : Int32) &&& 31) := ⟨_, rfl⟩
  obtain ⟨y, ey⟩ : ∃ y, y = b <<< ((8 : Int32) &&& 31) := ⟨_, rfl⟩
  rw [← ex] at h1 ⊢
  rw [← ey] at h2 ⊢
  have e1 : x.toInt = a.toInt := by have := x.toInt_lt; have := x.le_toInt; omega
  have e2 : y.toInt = 256 * b.toInt := by have := y.toInt_lt; have := y.le_toInt; omega
  have n1 : (x.toBitVec.toNat : Int) = a.toInt := by
    rw [← e1]; show _ = x.toBitVec.toInt; have h : 0 ≤ x.toBitVec.toInt := by show 0 ≤ x.toInt; omega
    rw [BitVec.toInt_eq_toNat_cond] at h ⊢; have := x.toBitVec.isLt; split at h <;> split <;> omega
  have n2 : (y.toBitVec.toNat : Int) = 256 * b.toInt := by
    rw [← e2]; show _ = y.toBitVec.toInt; have h : 0 ≤ y.toBitVec.toInt := by show 0 ≤ y.toInt; omega
    rw [BitVec.toInt_eq_toNat_cond] at h ⊢; have := y.toBitVec.isLt; split at h <;> split <;> omega
  have n3 : (x ||| y).toBitVec.toNat = y.toBitVec.toNat + x.toBitVec.toNat := by
    show (x.toBitVec ||| y.toBitVec).toNat = _
    rw [BitVec.toNat_or, Nat.or_comm]
    generalize x.toBitVec.toNat = X at n1 ⊢
    generalize y.toBitVec.toNat = Y at n2 ⊢
    have hX : X < 256 := by omega
    have hY : Y / 256 * 256 = Y := by omega
    exact own_orN hX hY
  show (x ||| y).toBitVec.toInt = _
  rw [BitVec.toInt_eq_toNat_cond, n3]
  split <;> omega
def own_gc (a b : Int32) : Int32 := (((a &&& (255 : Int32)) <<< ((0 : Int32) &&& 31)) ||| ((b &&& (255 : Int32)) <<< ((8 : Int32) &&& 31))).toUInt32.toUInt16.toUInt32.toInt32
def oL (c : Int32) : Int32 := (c >>> ((0 : Int32) &&& 31)).toInt8.toInt32
def oH (c : Int32) : Int32 := (c >>> ((8 : Int32) &&& 31)).toInt8.toInt32
theorem own_gcp (c : Int32) (h0 : 0 ≤ c.toInt) (h1 : c.toInt ≤ 65535) : own_gc (oL c) (oH c) = c := by
  have a1 := own_m255 (oL c)
  have a2 := own_m255 (oH c)
  have b1 := c_i2b (c >>> ((0 : Int32) &&& 31))
  have b2 := c_i2b (c >>> ((8 : Int32) &&& 31))
  have s1 := c_ishr c 0 0 rfl
  have s2 := c_ishr c 8 8 rfl
  have e1 : (oL c &&& 255).toInt = c.toInt % 256 := by rw [a1]; unfold oL; omega
  have e2 : (oH c &&& 255).toInt = c.toInt / 256 := by rw [a2]; unfold oH; omega
  have k := own_or8 (oL c &&& 255) (oH c &&& 255) (by omega) (by omega) (by omega) (by omega)
  have m := c_i2c ((oL c &&& (255 : Int32)) <<< ((0 : Int32) &&& 31) ||| (oH c &&& (255 : Int32)) <<< ((8 : Int32) &&& 31))
  apply Int32.toInt_inj.mp
  show (own_gc _ _).toInt = _
  unfold own_gc
  omega
theorem own_neF {Z : State} {h : Heap} {a a' : Addr} {C f d : String} {v w : Value} (F : Fld Z h a C f d v) (G : Fld Z h a' C f d w) (q : v ≠ w) : a ≠ a' := by
  rintro rfl
  obtain ⟨c1, i1, k1, j1, f1, g1, g2, g3, g4, g5, g6, g7⟩ := F
  obtain ⟨c2, i2, k2, j2, f2, r1, r2, r3, r4, r5, r6, r7⟩ := G
  cases g1.symm.trans r1
  cases g2.symm.trans r2
  exact q (Option.some.inj (g7.symm.trans r7))
theorem own_neA {Z : State} {a0 : Array Value} {h : Heap} {a b : Addr} {k : ClassId} {ty : FieldType} {n : Int32} {vs : List Value} {d : Value} {C : String} {sz : Nat} (w : (Cond.instantiable C sz).before a0 Z = true) (V : Arv Z h b k ty n vs d) (E : Exa Z h a C) : b ≠ a := by
  rintro rfl
  obtain ⟨cl, ⟨v1, ⟨-, kk, v2, cm, v3⟩, -⟩, -⟩ := V
  obtain ⟨ce, ke, e1, e2, e3, -⟩ := E
  cases v1.symm.trans e1
  obtain ⟨cI, kI, hfI, hkI, hkindI, -⟩ := Cond.instantiable_spec w
  cases e2.symm.trans hfI
  cases hkI.symm.trans v2
  rw [hkindI] at v3; cases v3
theorem own_backSI {p : Program} {l : Launch} {e : Env} {R : Room} {s : State} {args : Array Value} {below : List Frame} {Z : State} {a0 : Array Value} {h : Heap} {y : MethodName} {bytes : ByteArray} {maxL : Nat} {ret : Option FieldType} {rm : Room} {len W : Nat} {as' : Array Value} {Q : Option Value → Heap → List Loc → Prop}
    (hM : MetFree l y (head1 [Cond.code y bytes maxL ret] rm) (fun a U => a = as' ∧ Z.Warmed39 U.vm ∧ U.heap = h ∧ U.vm.interned = Z.vm.interned) (fun _ _ _ _ _ => True) (fun _ U o U' => ∃ v L, o = .returned v ∧ Q v U'.heap L ∧ ReturnedEndW U o U' L rm.cells rm.slots))
    (hZ : Z.Warmed39 s.vm) (hI : s.vm.interned = Z.vm.interned) (wc : (Cond.code y bytes maxL ret).before a0 Z = true) (wz : (Cond.initialized y.cls).before a0 Z = true) (hf : rm.frames + 1 ≤ R.frames) (hl : W + (maxL + 11) + rm.locals ≤ R.locals) :
    BackS l R p e below s args y len W (fun A a => a = as' ∧ A.U.heap = h ∧ A.cells + rm.cells ≤ R.cells ∧ A.slots + rm.slots ≤ R.slots)
      (fun A _ v B => ∃ L, Q v B.U.heap L ∧ B.locs = A.locs ++ L ∧ B.cells = A.cells + rm.cells ∧ B.slots = A.slots + rm.slots) :=
  BackS.of_freeW (bytes := bytes) (maxL := maxL) (ret := ret) (E := fun _ _ o t L k n => k = rm.cells ∧ n = rm.slots ∧ ∃ v, o = .returned v ∧ Q v t.heap L) hM hf hl
    (fun m meth c A a Y hp => have hU : Z.Warmed39 A.U.vm := wtrans hZ Y.warmed
      ⟨by show (Cond.and _ .tt).before a A.U = true; rw [Cond.before_and, mv hU wc]; rfl, mv hU wc, mv hU wz, hp.2.2.1, hp.2.2.2⟩)
    (fun m meth c A a g mk Y hp => ⟨hp.1, wtrans hZ Y.warmed, hp.2.1, Y.warmed.interned_eq.trans hI⟩) (fun _ _ _ _ _ _ _ _ _ => trivial)
    (fun _ _ _ _ ⟨v, L, h1, h2, h3⟩ => ⟨L, _, _, h3, rfl, rfl, v, h1, h2⟩)
    (fun m meth c A a g mk v t L k n Y hp _ _ ⟨e1, e2, v', e3, e4⟩ => by cases e3; subst e1 e2; exact ⟨L, e4, rfl, rfl, rfl⟩)
theorem own_IB {Z : State} {vm : Vm} (h : vm.interned = Z.vm.interned) : IB Z vm [] := ⟨#[], by rw [h]; simp, fun q hq => by simp at hq⟩
theorem own_nc (x : Int32) : nar .char (x.toUInt32.toUInt16.toUInt32.toInt32) = x.toUInt32.toUInt16.toUInt32.toInt32 := by
  apply Int32.toInt_inj.mp
  have h1 := c_i2c x
  have h2 := c_i2c (x.toUInt32.toUInt16.toUInt32.toInt32)
  show (x.toUInt32.toUInt16.toUInt32.toInt32.toUInt32.toUInt16.toUInt32.toInt32).toInt = _
  omega
theorem own_lon (c : Int32) : nar .byte ((c >>> ((0 : Int32) &&& 31)).toInt8.toInt32) = oL c := own_nb _
theorem own_hin (c : Int32) : nar .byte ((c >>> ((8 : Int32) &&& 31)).toInt8.toInt32) = oH c := own_nb _
theorem own_lof (c : Int32) : fits .byte (.int (oL c)) = true := fits_nar_byte _
theorem own_hif (c : Int32) : fits .byte (.int (oH c)) = true := fits_nar_byte _
theorem own_gcn (c : Int32) (h : 0 ≤ c.toInt ∧ c.toInt ≤ 65535) : nar .char ((((oL c &&& (255 : Int32)) <<< ((0 : Int32) &&& 31)) ||| ((oH c &&& (255 : Int32)) <<< ((8 : Int32) &&& 31))).toUInt32.toUInt16.toUInt32.toInt32) = c := (own_nc _).trans (own_gcp c h.1 h.2)
def own_US (Z : State) : Prop := Sta Z Z.heap "java/lang/StringUTF16" "$assertionsDisabled" "Z" (.int 1) ∧ Sta Z Z.heap "java/lang/StringUTF16" "HI_BYTE_SHIFT" "I" (.int 0) ∧ Sta Z Z.heap "java/lang/StringUTF16" "LO_BYTE_SHIFT" "I" (.int 8)
theorem own_eqk {args : Array Value} {s : State} {t : Term} {k : Int32} (h : (Jvm.Cond.eq t (Term.int k)).value args s none s [] = some true) : t.eval args s none [] s = some (.int k) := by
  simp only [Cond.value, Term.eval] at h
  cases ht : t.eval args s none [] s with
  | none => simp [ht] at h
  | some x => cases x <;> simp [ht] at h ⊢; exact h
theorem own_sA {Z : State} {a0 : Array Value} (hw : ∀ d ∈ tables_1, d.before a0 Z = true) : ∀ a ∈ Bundle.stringAtoms, a.before a0 Z = true := by
  intro a ha
  simp only [Bundle.stringAtoms, List.mem_cons, List.not_mem_nil, or_false] at ha
  rcases ha with rfl | rfl | rfl | rfl | rfl | rfl | rfl
  all_goals first | exact hw _ (List.mem_of_getElem? (i := 11) rfl) | exact hw _ (List.mem_of_getElem? (i := 10) rfl) | exact hw _ (List.mem_of_getElem? (i := 23) rfl) | exact hw _ (List.mem_of_getElem? (i := 24) rfl) | exact hw _ (List.mem_of_getElem? (i := 25) rfl) | exact hw _ (List.mem_of_getElem? (i := 26) rfl) | exact hw _ (List.mem_of_getElem? (i := 27) rfl)
abbrev Ix (i : Int32) (k : Nat) : Prop := i = Int32.ofNat k ∧ k ≤ 100
def own_0 : Nat → Int32 := fun _ => 0
def own_tb (f : Nat → Int32) : List Value := (List.range 40).map (fun j => Value.int (f j))
def own_up (f : Nat → Int32) (k : Nat) (v : Int32) : Nat → Int32 := fun j => if j = k then v else f j
theorem own_upk {f : Nat → Int32} {k : Nat} {v : Int32} : own_up f k v k = v := if_pos rfl
theorem own_upn {f : Nat → Int32} {k j : Nat} {v : Int32} (h : j ≠ k) : own_up f k v j = f j := if_neg h
theorem own_tbg (f : Nat → Int32) (d : Value) {j : Nat} (h : j < 40) : (own_tb f).getD j d = .int (f j) := by
  simp [own_tb, List.getD_eq_getElem?_getD, h]
theorem own_tbl (f : Nat → Int32) : (own_tb f).length = 40 := by simp [own_tb]
theorem own_tbs (f : Nat → Int32) (k : Nat) (v : Int32) : (own_tb f).set k (.int v) = own_tb (own_up f k v) := by
  apply List.ext_getElem?
  intro j
  simp only [own_tb, List.getElem?_set, List.length_map, List.length_range, List.getElem?_map, own_up]
  by_cases h : k = j
  · subst h
    by_cases h2 : k < 40
    · simp [h2]
    · simp [h2]
  · have h' : ¬ j = k := fun q => h q.symm
    by_cases h2 : j < 40
    · simp [h, h', h2]
    · simp [h, h2]
theorem own_tz : ∀ i, (own_tb own_0).getD i (.int 0) = ([] : List Value).getD i (.int 0) := by
  intro i
  by_cases h : i < 40
  · rw [own_tbg _ _ h]; rfl
  · simp [own_tb, List.getD_eq_getElem?_getD, h]
theorem own_ofn {k : Nat} (h : k ≤ 100) : (Int32.ofNat k).toInt = k := Int32.toInt_ofNat_of_lt (by omega)
theorem own_ixlt {i N : Int32} {k n : Nat} (hi : Ix i k) (hN : Ix N n) : i < N ↔ k < n := by
  rw [Int32.lt_iff_toInt_lt, hi.1, hN.1, own_ofn hi.2, own_ofn hN.2]; omega
theorem own_ixeq {i N : Int32} {k n : Nat} (hi : Ix i k) (hN : Ix N n) : i = N ↔ k = n := by
  rw [← Int32.toInt_inj, hi.1, hN.1, own_ofn hi.2, own_ofn hN.2]; omega
theorem own_ixS {i : Int32} {k : Nat} (hi : Ix i k) (h : k < 100) : Ix (i + 1) (k + 1) := ⟨by rw [hi.1]; exact (Int32.ofNat_add k 1).symm, h⟩
theorem own_ixn {i : Int32} {k : Nat} (hi : Ix i k) : i.toNatClampNeg = k := by
  show i.toInt.toNat = k
  rw [hi.1, own_ofn hi.2]; omega
theorem own_ix0 : Ix 0 0 := ⟨rfl, by decide⟩
theorem own_ixnn {i : Int32} {k : Nat} (hi : Ix i k) : ¬ i < 0 := by
  rw [own_ixlt hi own_ix0]; omega
theorem own_ixb {i N : Int32} {k n : Nat} (hi : Ix i k) (hN : Ix N n) (h : k < n) : ¬ i < 0 ∧ i < N := ⟨own_ixnn hi, (own_ixlt hi hN).mpr h⟩
theorem own_d1 : ∀ k : Fin 51, Int32.ofNat k.val <<< ((1 : Int32) &&& 31) = Int32.ofNat (2 * k.val) := by decide +kernel
theorem own_ixD {i : Int32} {k : Nat} (hi : Ix i k) (h : k ≤ 50) : Ix (i <<< ((1 : Int32) &&& 31)) (2 * k) := ⟨by rw [hi.1]; exact own_d1 ⟨k, by omega⟩, by omega⟩
theorem own_d2 : ∀ k : Fin 51, Int32.ofNat (2 * k.val) >>> ((1 : Int32) &&& 31) = Int32.ofNat k.val := by decide +kernel
theorem own_ixH {i N : Int32} {k : Nat} (hi : Ix i (2 * k)) (hN : Ix N k) : i >>> ((1 : Int32) &&& 31) = N := by
  have := hi.2
  rw [hi.1, hN.1]; exact own_d2 ⟨k, by omega⟩
theorem own_ixR {i N : Int32} {k : Nat} (hi : Ix i k) (hN : Ix N k) : i = N := by rw [hi.1, hN.1]
theorem own_d3 : ∀ k : Fin 51, 0 < k.val → ((Int32.ofNat k.val - Int32.ofNat (2 * k.val)).toUInt32 >>> ((31 : Int32) &&& 31).toUInt32).toInt32.toInt8.toInt32 = 1 := by decide +kernel
theorem own_d4 (N : Int32) : ((N - N).toUInt32 >>> ((31 : Int32) &&& 31).toUInt32).toInt32.toInt8.toInt32 = 0 := by
  rw [show N - N = 0 from Int32.sub_self N]; rfl
def own_st (f : Nat → Int32) (nn : Nat) (nb : Int32) (g : Nat → Int32) (co : Int32) : Prop := (co = 0 ∧ Ix nb nn ∧ ∀ j, j < nn → ¬ (255 : Int32) < f j ∧ g j = (f j).toInt8.toInt32) ∨ (co = 1 ∧ 0 < nn ∧ Ix nb (2 * nn) ∧ ∀ j, j < nn → g (2 * j) = oL (f j) ∧ g (2 * j + 1) = oH (f j))
theorem own_stco {f g : Nat → Int32} {nn : Nat} {nb co : Int32} (h : own_st f nn nb g co) : co = 0 ∨ co = 1 := by
  rcases h with ⟨h, -⟩ | ⟨h, -⟩
  · exact Or.inl h
  · exact Or.inr h
theorem own_stcd {f g : Nat → Int32} {nn : Nat} {N nb co : Int32} (h : own_st f nn nb g co) (hN : Ix N nn) : ((N - nb).toUInt32 >>> ((31 : Int32) &&& 31).toUInt32).toInt32.toInt8.toInt32 = co := by
  rcases h with ⟨h, k, -⟩ | ⟨h, k0, k, -⟩
  · rw [h, own_ixR k hN]; exact own_d4 N
  · have := k.2
    rw [h, hN.1, k.1]; exact own_d3 ⟨nn, by omega⟩ k0
theorem own_stln {f g : Nat → Int32} {nn : Nat} {N nb co : Int32} (h : own_st f nn nb g co) (hN : Ix N nn) : nb >>> (co &&& 31) = N := by
  rcases h with ⟨h, k, -⟩ | ⟨h, k0, k, -⟩
  · rw [h, own_ixR k hN, show ((0 : Int32) &&& 31) = 0 from rfl]; exact Int32.shiftRight_zero
  · rw [h]; exact own_ixH k hN
theorem own_ste {f g : Nat → Int32} {nn : Nat} {nb co : Int32} (h : own_st f nn nb g co) : nb = 0 ↔ nn = 0 := by
  rcases h with ⟨h, k, -⟩ | ⟨h, k0, k, -⟩
  · exact own_ixeq k own_ix0
  · rw [own_ixeq k own_ix0]; omega
def own_dg (f : Nat → Int32) (k : Nat) : Prop := ∀ j, j < k → 48 ≤ (f j).toInt ∧ (f j).toInt ≤ 57
theorem own_dgS {f : Nat → Int32} {k : Nat} {v : Int32} (h : own_dg f k) (hv : 48 ≤ v.toInt ∧ v.toInt ≤ 57) : own_dg (own_up f k v) (k + 1) := by
  intro j hj
  by_cases q : j = k
  · subst q; rw [own_upk]; exact hv
  · rw [own_upn q]; exact h j (by omega)
def own_nm (f : Nat → Int32) (nn : Nat) (r : Int32) : Prop := (r = 1 ∧ 1 ≤ nn ∧ nn ≤ 18 ∧ own_dg f nn) ∨ (r = 0 ∧ (nn = 0 ∨ 18 < nn ∨ ∃ j, j < nn ∧ ¬ (48 ≤ (f j).toInt ∧ (f j).toInt ≤ 57)))
def own_s1 (f : Nat → Int32) (nn : Nat) (u1 : Int32) (k1 : Nat) (c1 : Int32) : Prop := ∀ j, j < nn → (¬ u1 = 0 ∧ j = k1 → f j = c1) ∧ (¬ (¬ u1 = 0 ∧ j = k1) → 48 ≤ (f j).toInt ∧ (f j).toInt ≤ 57)
def own_s2 (f : Nat → Int32) (nn : Nat) (u1 : Int32) (k1 : Nat) (c1 : Int32) (u2 : Int32) (k2 : Nat) (c2 : Int32) : Prop := ∀ j, j < nn → (¬ u2 = 0 ∧ j = k2 → f j = c2) ∧ (¬ (¬ u2 = 0 ∧ j = k2) → (¬ u1 = 0 ∧ j = k1 → f j = c1) ∧ (¬ (¬ u1 = 0 ∧ j = k1) → 48 ≤ (f j).toInt ∧ (f j).toInt ≤ 57))
theorem own_s1n {f : Nat → Int32} {nn : Nat} {u1 P1 N : Int32} {k1 : Nat} (c1 : Int32) (h : own_dg f 20) (hn : nn ≤ 20) (hP : Ix P1 k1) (hN : Ix N nn) (q : u1 = 0 ∨ ¬ P1 < N) : own_s1 f nn u1 k1 c1 := by
  intro j hj
  rw [own_ixlt hP hN] at q
  refine ⟨fun z => ?_, fun _ => h j (by omega)⟩
  rcases q with q | q
  · exact absurd q z.1
  · omega
theorem own_s1y {f : Nat → Int32} {nn : Nat} {u1 c1 : Int32} {k1 : Nat} (h : own_dg f 20) (hn : nn ≤ 20) (q : ¬ u1 = 0) : own_s1 (own_up f k1 c1) nn u1 k1 c1 := by
  intro j hj
  refine ⟨fun z => by rw [z.2, own_upk], fun z => ?_⟩
  rw [own_upn (fun w => z ⟨q, w⟩)]
  exact h j (by omega)
theorem own_s2n {f : Nat → Int32} {nn : Nat} {u1 u2 P2 N c1 : Int32} {k1 k2 : Nat} (c2 : Int32) (h : own_s1 f nn u1 k1 c1) (hP : Ix P2 k2) (hN : Ix N nn) (q : u2 = 0 ∨ ¬ P2 < N) : own_s2 f nn u1 k1 c1 u2 k2 c2 := by
  intro j hj
  rw [own_ixlt hP hN] at q
  refine ⟨fun z => ?_, fun _ => h j hj⟩
  rcases q with q | q
  · exact absurd q z.1
  · omega
theorem own_s2y {f : Nat → Int32} {nn : Nat} {u1 u2 c1 c2 : Int32} {k1 k2 : Nat} (h : own_s1 f nn u1 k1 c1) (q : ¬ u2 = 0) : own_s2 (own_up f k2 c2) nn u1 k1 c1 u2 k2 c2 := by
  intro j hj
  refine ⟨fun z => by rw [z.2, own_upk], fun z => ?_⟩
  rw [own_upn (fun w => z ⟨q, w⟩)]
  exact h j hj
def own_rg (f : Nat → Int32) (nn : Nat) : Prop := ∀ j, j < nn → 0 ≤ (f j).toInt ∧ (f j).toInt ≤ 65535
theorem own_s2r {f : Nat → Int32} {nn : Nat} {u1 u2 c1 c2 : Int32} {k1 k2 : Nat} (h : own_s2 f nn u1 k1 c1 u2 k2 c2) (r1 : 0 ≤ c1.toInt ∧ c1.toInt ≤ 65535) (r2 : 0 ≤ c2.toInt ∧ c2.toInt ≤ 65535) : own_rg f nn := by
  intro j hj
  obtain ⟨a, b⟩ := h j hj
  by_cases q2 : ¬ u2 = 0 ∧ j = k2
  · rw [a q2]; exact r2
  · obtain ⟨b1, b2⟩ := b q2
    by_cases q1 : ¬ u1 = 0 ∧ j = k1
    · rw [b1 q1]; exact r1
    · have := b2 q1; omega
def own_dig (c : Int32) : Int32 := if 48 ≤ c.toInt ∧ c.toInt ≤ 57 then 1 else 0
theorem own_dig0 (c : Int32) : ¬ own_dig c = 0 ↔ (48 ≤ c.toInt ∧ c.toInt ≤ 57) := by
  unfold own_dig
  split
  · simp [*]
  · simp [*]
theorem own_fin {f : Nat → Int32} {nn : Nat} {N P1 P2 u1 u2 c1 c2 o1 o2 r x : Int32} {k1 k2 : Nat} (hN : Ix N nn) (h1 : Ix P1 k1) (h2 : Ix P2 k2) (hs : own_s2 f nn u1 k1 c1 u2 k2 c2) (hr : own_nm f nn r)
    (ho1 : ¬ o1 = 0 ↔ (u1 = 0 ∨ ¬ P1 < N ∨ (¬ u2 = 0 ∧ P2 = P1) ∨ ¬ own_dig c1 = 0)) (ho2 : ¬ o2 = 0 ↔ (u2 = 0 ∨ ¬ P2 < N ∨ ¬ own_dig c2 = 0)) (hx : (x = 1 ∧ ¬ N < 1 ∧ ¬ 18 < N ∧ ¬ o1 = 0 ∧ ¬ o2 = 0) ∨ (x = 0 ∧ ¬ (¬ N < 1 ∧ ¬ 18 < N ∧ ¬ o1 = 0 ∧ ¬ o2 = 0))) : r = x := by
  have i1 : Ix 1 1 := ⟨rfl, by decide⟩
  have i18 : Ix 18 18 := ⟨rfl, by decide⟩
  rw [ho1, ho2, own_ixlt hN i1, own_ixlt i18 hN, own_ixlt h1 hN, own_ixlt h2 hN, own_ixeq h2 h1, own_dig0, own_dig0] at hx
  have key : own_dg f nn ↔ ((u1 = 0 ∨ ¬ k1 < nn ∨ (¬ u2 = 0 ∧ k2 = k1) ∨ (48 ≤ c1.toInt ∧ c1.toInt ≤ 57)) ∧ (u2 = 0 ∨ ¬ k2 < nn ∨ (48 ≤ c2.toInt ∧ c2.toInt ≤ 57))) := by
    constructor
    · intro hd
      constructor
      · by_cases q1 : u1 = 0
        · exact Or.inl q1
        · by_cases q2 : k1 < nn
          · by_cases q3 : ¬ u2 = 0 ∧ k2 = k1
            · exact Or.inr (Or.inr (Or.inl q3))
            · have := ((hs k1 q2).2 (fun z => q3 ⟨z.1, z.2.symm⟩)).1 ⟨q1, rfl⟩
              rw [← this]
              exact Or.inr (Or.inr (Or.inr (hd k1 q2)))
          · exact Or.inr (Or.inl q2)
      · by_cases q1 : u2 = 0
        · exact Or.inl q1
        · by_cases q2 : k2 < nn
          · rw [← (hs k2 q2).1 ⟨q1, rfl⟩]
            exact Or.inr (Or.inr (hd k2 q2))
          · exact Or.inr (Or.inl q2)
    · intro ⟨a, b⟩ j hj
      obtain ⟨s1, s2⟩ := hs j hj
      by_cases q2 : ¬ u2 = 0 ∧ j = k2
      · rw [s1 q2]
        rcases b with b | b | b
        · exact absurd b q2.1
        · have := q2.2; omega
        · exact b
      · obtain ⟨s3, s4⟩ := s2 q2
        by_cases q1 : ¬ u1 = 0 ∧ j = k1
        · rw [s3 q1]
          rcases a with a | a | a | a
          · exact absurd a q1.1
          · have := q1.2; omega
          · exact absurd ⟨a.1, q1.2.trans a.2.symm⟩ q2
          · exact a
        · exact s4 q1
  rw [← key] at hx
  rcases hx with ⟨rx, e1, e2, hd⟩ | ⟨rx, hno⟩
  · rcases hr with ⟨r1, -⟩ | ⟨-, hh⟩
    · rw [r1, rx]
    · exfalso
      rcases hh with hh | hh | ⟨j, hj, hh⟩
      · omega
      · omega
      · exact hh (hd j hj)
  · rcases hr with ⟨-, a, b, hd⟩ | ⟨r0, -⟩
    · exact absurd ⟨by omega, by omega, hd⟩ hno
    · rw [r0, rx]
theorem own_i16 : ∀ k : Fin 16, let y := Int64.ofNat k.val; 48 ≤ (((48 : Int32) + (y - y / 10 * 10).toInt32).toUInt32.toUInt16.toUInt32.toInt32).toInt ∧ (((48 : Int32) + (y - y / 10 * 10).toInt32).toUInt32.toUInt16.toUInt32.toInt32).toInt ≤ 57 := by decide +kernel
theorem own_and15 (X : Int64) : ∃ k : Fin 16, X &&& (15 : Int64) = Int64.ofNat k.val := by
  have h : (X &&& (15 : Int64)).toBitVec.toNat < 16 := by
    have : (X &&& (15 : Int64)).toBitVec.toNat = X.toBitVec.toNat &&& 15 := rfl
    rw [this]
    exact Nat.lt_succ_of_le Nat.and_le_right
  refine ⟨⟨_, h⟩, ?_⟩
  apply Int64.toBitVec_inj.mp
  apply BitVec.eq_of_toNat_eq
  show _ = (BitVec.ofNat 64 _).toNat
  rw [BitVec.toNat_ofNat, Nat.mod_eq_of_lt]
  exact Nat.lt_trans h (by decide)
theorem own_pv (X : Int64) : 48 ≤ (((48 : Int32) + (((X &&& (15 : Int64)) - ((X &&& (15 : Int64)) / (10 : Int64)) * (10 : Int64)).toInt32)).toUInt32.toUInt16.toUInt32.toInt32).toInt ∧ (((48 : Int32) + (((X &&& (15 : Int64)) - ((X &&& (15 : Int64)) / (10 : Int64)) * (10 : Int64)).toInt32)).toUInt32.toUInt16.toUInt32.toInt32).toInt ≤ 57 := by
  obtain ⟨k, hk⟩ := own_and15 X
  rw [hk]
  exact own_i16 k
abbrev own_cp (f g : Nat → Int32) (nn k : Nat) : Prop := k ≤ nn ∧ (∀ j, j < k → ¬ (255 : Int32) < f j ∧ g j = (f j).toInt8.toInt32) ∧ (k = nn ∨ (255 : Int32) < f k)
abbrev own_ci (f g : Nat → Int32) (k : Nat) : Prop := ∀ j, j < k → ¬ (255 : Int32) < f j ∧ g j = (f j).toInt8.toInt32
theorem own_ciS {f g : Nat → Int32} {k : Nat} (h : own_ci f g k) (hv : ¬ (255 : Int32) < f k) : own_ci f (own_up g k (f k).toInt8.toInt32) (k + 1) := by
  intro j hj
  by_cases q : j = k
  · subst q; rw [own_upk]; exact ⟨hv, rfl⟩
  · rw [own_upn q]; exact h j (by omega)
abbrev own_ti (f g : Nat → Int32) (k : Nat) : Prop := ∀ j, j < k → g (2 * j) = oL (f j) ∧ g (2 * j + 1) = oH (f j)
theorem own_tiS {f g : Nat → Int32} {k : Nat} (h : own_ti f g k) : own_ti f (own_up (own_up g (2 * k) (oL (f k))) (2 * k + 1) (oH (f k))) (k + 1) := by
  intro j hj
  by_cases q : j = k
  · subst q
    rw [own_upk, own_upn (by omega), own_upk]
    exact ⟨rfl, rfl⟩
  · rw [own_upn (by omega), own_upn (by omega), own_upn (by omega), own_upn (by omega)]
    exact h j (by omega)
theorem own_ixm {x : Int32} {q : Int32} {n : Nat} (hq : q.toInt = n) (h0 : 0 ≤ x.toInt) (hn : n ≤ 100) (hp : 0 < n) : ∃ k, k < n ∧ Ix (x % q) k := by
  have e : (x % q).toInt = x.toInt % q.toInt := by rw [Int32.toInt_mod, Int.tmod_eq_emod_of_nonneg h0]
  have r1 : 0 ≤ x.toInt % q.toInt := Int.emod_nonneg _ (by omega)
  have r2 : x.toInt % q.toInt < q.toInt := Int.emod_lt_of_pos _ (by omega)
  refine ⟨(x % q).toInt.toNat, by omega, ?_, by omega⟩
  apply Int32.toInt_inj.mp
  rw [own_ofn (by omega)]
  omega
theorem own_atT {cl : Cell} {f : Nat → Int32} {d : Value} {i : Int32} {k : Nat} (H : Has cl (own_tb f) d) (hin : ¬ (i < 0 ∨ cl.slots.size ≤ i.toNatClampNeg)) (hi : Ix i k) (hk : k < 40) : cl.slots[i.toNatClampNeg]? = some (.int (f k)) := by
  have h := H _ (Nat.lt_of_not_le fun q => hin (Or.inr q))
  rw [h, own_ixn hi, own_tbg _ _ hk]
theorem own_setT {Z : State} {h h' : Heap} {a : Addr} {kk : ClassId} {ty : FieldType} {z i v : Int32} {f : Nat → Int32} {dv : Value} {c : Cell} {k : Nat} (A : Arr Z h a c ty) (q1 : c.cls = kk) (S : c.slots.size = z.toNatClampNeg) (q3 : ¬ z < 0) (H : Has c (own_tb f) dv) (G : ∀ i, i < c.slots.size → fits ty ((own_tb f).getD i dv) = true) (hv : fits ty (.int v) = true) (W : Wr h h' a i.toNatClampNeg (.int v)) (hi : Ix i k) (hk : k < 40) : Arv Z h' a kk ty z (own_tb (own_up f k v)) dv := by
  rw [← own_tbs]
  exact Arv.set A q1 S q3 H G hv W k (own_ixn hi) (by rw [own_tbl]; exact hk)
theorem own_padT {Z : State} {h : Heap} {a : Addr} {kk : ClassId} {ty : FieldType} {z : Int32} {f g : Nat → Int32} {dv : Value} {nn : Nat} (V : Arv Z h a kk ty z (own_tb f) dv) (hN : Ix z nn) (hn : nn ≤ 40) (q : ∀ j, j < nn → g j = f j) : Arv Z h a kk ty z (own_tb g) dv := by
  obtain ⟨c, A, r1, r2, r3, H, G⟩ := V
  have e : ∀ i, i < c.slots.size → (own_tb g).getD i dv = (own_tb f).getD i dv := fun i hi => by
    rw [r2, own_ixn hN] at hi
    rw [own_tbg _ _ (by omega), own_tbg _ _ (by omega), q i hi]
  exact ⟨c, A, r1, r2, r3, fun i hi => by rw [e i hi]; exact H i hi, fun i hi => by rw [e i hi]; exact G i hi⟩
theorem own_g8 {c : Int32} (h : 0 ≤ c.toInt ∧ c.toInt ≤ 255) : nar .char ((c.toInt8.toInt32 &&& (255 : Int32)).toUInt32.toUInt16.toUInt32.toInt32) = c := by
  rw [own_nc, i2c_mask]
  apply Int32.toInt_inj.mp
  have k := c_i2b c
  have m := own_m255 (c.toInt8.toInt32)
  omega
theorem own_255 {c : Int32} (h : 0 ≤ c.toInt ∧ c.toInt ≤ 65535) (k : ¬ (255 : Int32) < c) : 0 ≤ c.toInt ∧ c.toInt ≤ 255 := by
  simp only [Int32.lt_iff_toInt_lt, Int32.reduceToInt] at k
  omega
theorem own_cofit {co : Int32} (h : co = 0 ∨ co = 1) : narrow .byte (.int co) = .int co ∧ fits .byte (.int co) = true ∧ nar .byte co = co := by
  rcases h with rfl | rfl
  · exact ⟨rfl, rfl, rfl⟩
  · exact ⟨rfl, rfl, rfl⟩
def own_ie (nb : Int32) : Int32 := if nb = 0 then 1 else 0
theorem own_ie1 {nb : Int32} (h : ¬ own_ie nb = 0) : nb = 0 := Classical.byContradiction fun q => h (if_neg q)
theorem own_ie0 {nb : Int32} (h : own_ie nb = 0) : ¬ nb = 0 := fun q => by
  rw [own_ie, if_pos q] at h
  exact absurd h (by decide)
theorem own_dgE {f : Nat → Int32} {k : Nat} (h : own_dg f k) (h1 : ¬ f k < (48 : Int32)) (h2 : ¬ (57 : Int32) < f k) : own_dg f (k + 1) := by
  simp only [Int32.lt_iff_toInt_lt, Int32.reduceToInt] at h1 h2
  intro j hj
  by_cases q : j = k
  · subst q; omega
  · exact h j (by omega)
theorem own_ndl {c : Int32} (h : c < (48 : Int32)) : ¬ (48 ≤ c.toInt ∧ c.toInt ≤ 57) := by
  simp only [Int32.lt_iff_toInt_lt, Int32.reduceToInt] at h
  omega
theorem own_ndg {c : Int32} (h : (57 : Int32) < c) : ¬ (48 ≤ c.toInt ∧ c.toInt ≤ 57) := by
  simp only [Int32.lt_iff_toInt_lt, Int32.reduceToInt] at h
  omega
theorem own_dig1 {c : Int32} (h : 48 ≤ c.toInt ∧ c.toInt ≤ 57) : own_dig c = 1 := if_pos h
theorem own_dign {c : Int32} (h : ¬ (48 ≤ c.toInt ∧ c.toInt ≤ 57)) : own_dig c = 0 := if_neg h
theorem own_pv2 (X : Int64) : 48 ≤ (nar .char (((48 : Int32) + (((X &&& (15 : Int64)) - ((X &&& (15 : Int64)) / (10 : Int64)) * (10 : Int64)).toInt32)).toUInt32.toUInt16.toUInt32.toInt32)).toInt ∧ (nar .char (((48 : Int32) + (((X &&& (15 : Int64)) - ((X &&& (15 : Int64)) / (10 : Int64)) * (10 : Int64)).toInt32)).toUInt32.toUInt16.toUInt32.toInt32)).toInt ≤ 57 := by
  rw [own_nc]
  exact own_pv X
theorem own_size {args : Array Value} {s : State} {t : Term} {x : Addr} {cl : Cell} {ty : FieldType} {k : Int32} (ev : t.eval args s none [] s = some (.ref x)) (A : Arr s s.heap x cl ty) (h : (Jvm.Cond.eq (Term.length t) (Term.int k)).value args s none s [] = some true) : cl.slots.size < 2 ^ 31 ∧ cl.slots.size.toInt32 = k := by
  have hl := own_eqk h
  have hat := A.fin (U := s) (Vm.Alike.refl _)
  refine ⟨Classical.byContradiction fun hno => ?_, ?_⟩
  · simp [Term.eval, ev, hat, hno] at hl
  · obtain ⟨a', c', q1, q2, q3⟩ := Term.length_spec hl
    cases ev.symm.trans q1
    cases hat.symm.trans q2
    exact (Value.int.inj q3).symm
def own_ws (c : Int32) : Int32 := if c.toInt = 32 ∨ (9 ≤ c.toInt ∧ c.toInt ≤ 13) ∨ (28 ≤ c.toInt ∧ c.toInt ≤ 31) then 1 else 0
theorem own_ws1 {c : Int32} (h : c.toInt = 32 ∨ (9 ≤ c.toInt ∧ c.toInt ≤ 13) ∨ (28 ≤ c.toInt ∧ c.toInt ≤ 31)) : own_ws c = 1 := if_pos h
theorem own_ws0 {c : Int32} (h : ¬ (c.toInt = 32 ∨ (9 ≤ c.toInt ∧ c.toInt ≤ 13) ∨ (28 ≤ c.toInt ∧ c.toInt ≤ 31))) : own_ws c = 0 := if_neg h
def own_pt : List Int32 := [1207963663, 1207963663, 1207963663, 1207963663, 1207963663, 1207963663, 1207963663, 1207963663, 1207963663, 1476411407, 1342193679, 1476411407, 1610629135, 1342193679, 1207963663, 1207963663, 1207963663, 1207963663, 1207963663, 1207963663, 1207963663, 1207963663, 1207963663, 1207963663, 1207963663, 1207963663, 1207963663, 1207963663, 1342193679, 1342193679, 1342193679, 1476411407, 1610629132, 1744830488, 1744830488, 671088664, 671113242, 671088664, 1744830488, 1744830488, -402653163, -402653162, 1744830488, 536870937, 939524120, 536870932, 939524120, 939524120, 402667017, 402667017, 402667017, 402667017, 402667017, 402667017, 402667017, 402667017, 402667017, 402667017, 939524120, 1744830488, -402653159, 1744830489, -402653159, 1744830488, 1744830488, 8552417, 8552417, 8552417, 8552417, 8552417, 8552417, 8552417, 8552417, 8552417, 8552417, 8552417, 8552417, 8552417, 8552417, 8552417, 8552417, 8552417, 8552417, 8552417, 8552417, 8552417, 8552417, 8552417, 8552417, 8552417, 8552417, -402653163, 1744830488, -402653162, 1744830491, 1744850967, 1744830491, 8486882, 8486882, 8486882, 8486882, 8486882, 8486882, 8486882, 8486882, 8486882, 8486882, 8486882, 8486882, 8486882, 8486882, 8486882, 8486882, 8486882, 8486882, 8486882, 8486882, 8486882, 8486882, 8486882, 8486882, 8486882, 8486882, -402653163, 1744830489, -402653162, 1744830489, 1207963663, 1207963663, 1207963663, 1207963663, 1207963663, 1207963663, 1342181391, 1207963663, 1207963663, 1207963663, 1207963663, 1207963663, 1207963663, 1207963663, 1207963663, 1207963663, 1207963663, 1207963663, 1207963663, 1207963663, 1207963663, 1207963663, 1207963663, 1207963663, 1207963663, 1207963663, 1207963663, 1207963663, 1207963663, 1207963663, 1207963663, 1207963663, 1207963663, 939524108, 1744830488, 671113242, 671113242, 671113242, 671113242, 1744830492, 1744830488, 1744830491, 1744830492, 28677, -402653155, 1744830489, 1207963664, 1744830492, 1744830491, 671088668, 671088665, 402654731, 402654731, 1744830491, 134049794, 1744830488, 1744830488, 1744830491, 402654475, 28677, -402653154, 1744832523, 1744832523, 1744832523, 1744830488, 8548353, 8548353, 8548353, 8548353, 8548353, 8548353, 8548353, 8548353, 8548353, 8548353, 8548353, 8548353, 8548353, 8548353, 8548353, 8548353, 8548353, 8548353, 8548353, 8548353, 8548353, 8548353, 8548353, 1744830489, 8548353, 8548353, 8548353, 8548353, 8548353, 8548353, 8548353, 134049794, 8482818, 8482818, 8482818, 8482818, 8482818, 8482818, 8482818, 8482818, 8482818, 8482818, 8482818, 8482818, 8482818, 8482818, 8482818, 8482818, 8482818, 8482818, 8482818, 8482818, 8482818, 8482818, 8482818, 1744830489, 8482818, 8482818, 8482818, 8482818, 8482818, 8482818, 8482818, 102592514]
def own_tab : List Value := own_pt.map Value.int
def own_prop (c : Int32) : Int32 := own_pt.getD c.toNatClampNeg 0
theorem own_tabg (k : Nat) : own_tab.getD k (.int 0) = .int (own_pt.getD k 0) := by
  simp only [own_tab, List.getD_eq_getElem?_getD, List.getElem?_map]
  cases own_pt[k]? <;> rfl
theorem own_wpf : ∀ k : Fin 256, ((own_pt.getD k.val 0 &&& 28672 = 16384) ↔ (k.val = 32 ∨ (9 ≤ k.val ∧ k.val ≤ 13) ∨ (28 ≤ k.val ∧ k.val ≤ 31))) := by decide +kernel
theorem own_wp {c : Int32} (h : 0 ≤ c.toInt ∧ c.toInt ≤ 255) : (own_prop c &&& (28672 : Int32)) = (16384 : Int32) ↔ (c.toInt = 32 ∨ (9 ≤ c.toInt ∧ c.toInt ≤ 13) ∨ (28 ≤ c.toInt ∧ c.toInt ≤ 31)) := by
  have e : c.toNatClampNeg = c.toInt.toNat := rfl
  have k := own_wpf ⟨c.toNatClampNeg, by omega⟩
  unfold own_prop
  rw [k]
  simp only []
  omega
theorem own_i2c {c : Int32} (h : 0 ≤ c.toInt ∧ c.toInt ≤ 255) : c.toUInt32.toUInt16.toUInt32.toInt32 = c := by
  apply Int32.toInt_inj.mp
  have := c_i2c c
  omega
theorem own_inb {c : Int32} (h : 0 ≤ c.toInt ∧ c.toInt ≤ 255) : ¬ c < 0 ∧ c < 256 := by
  simp only [Int32.lt_iff_toInt_lt, Int32.reduceToInt]
  omega
theorem own_b59 {c : Int32} (h : 0 ≤ c.toInt ∧ c.toInt ≤ 255) : c.toInt8.toInt32 = (59 : Int32) ↔ c = (59 : Int32) := by
  have k := c_i2b c
  simp only [← Int32.toInt_inj, Int32.reduceToInt]
  omega
theorem own_w32 {c : Int32} (h : c = (32 : Int32)) : ¬ own_ws c = (0 : Int32) := by subst h; decide
theorem own_w9 {c : Int32} (h : c = (9 : Int32)) : ¬ own_ws c = (0 : Int32) := by subst h; decide
def own_dr (x : Int32) : Int32 := if (x &&& (256 : Int32)) = (0 : Int32) then (x &&& (255 : Int32)).toUInt32.toUInt16.toUInt32.toInt32 else (59 : Int32)
theorem own_dr1 {x : Int32} (h : (x &&& (256 : Int32)) = (0 : Int32)) : own_dr x = (x &&& (255 : Int32)).toUInt32.toUInt16.toUInt32.toInt32 := if_pos h
theorem own_dr0 {x : Int32} (h : ¬ (x &&& (256 : Int32)) = (0 : Int32)) : own_dr x = 59 := if_neg h
theorem own_drr (x : Int32) : 0 ≤ (own_dr x).toInt ∧ (own_dr x).toInt ≤ 255 := by
  unfold own_dr
  split
  · rw [i2c_mask]
    have h := own_m255 x
    omega
  · decide
theorem own_drl (x : Int32) : ¬ (255 : Int32) < own_dr x := by
  have h := own_drr x
  simp only [Int32.lt_iff_toInt_lt, Int32.reduceToInt]
  omega
theorem own_drn (x : Int32) : nar .char (own_dr x) = own_dr x := by
  unfold own_dr
  split
  · exact own_nc _
  · rfl
theorem own_drf (x : Int32) : fits .char (.int (own_dr x)) = true := by
  rw [← own_drn]
  exact fits_nar_char _
theorem own_shr0 (N : Int32) : N >>> ((0 : Int32) &&& 31) = N := by
  rw [show ((0 : Int32) &&& 31) = 0 from rfl]
  exact Int32.shiftRight_zero
abbrev own_SB (M N D : Int32) : Prop := ¬ M < 0 ∧ ¬ M = 0 ∧ ¬ N < M ∧ N - M = D ∧ M + D = N ∧ ¬ D < 0 ∧ D.toNatClampNeg ≤ 3 ∧ M = Int32.ofNat M.toNatClampNeg ∧ D = Int32.ofNat D.toNatClampNeg ∧ M.toNatClampNeg + D.toNatClampNeg ≤ N.toNatClampNeg
theorem own_ixsub {M N : Int32} {m n : Nat} (hM : Ix M m) (hN : Ix N n) (h : m ≤ n) : Ix (N - M) (n - m) := by
  have := hN.2
  refine ⟨?_, by omega⟩
  rw [hM.1, hN.1, ← Int32.ofNat_sub _ _ h]
theorem own_sb {M N : Int32} {m n : Nat} (hM : Ix M m) (hN : Ix N n) (h0 : 0 < m) (h : m ≤ n) (h4 : n ≤ 4) : own_SB M N (N - M) := by
  have hD := own_ixsub hM hN h
  refine ⟨own_ixnn hM, fun q => ?_, fun q => ?_, rfl, ?_, own_ixnn hD, ?_, ?_, ?_, ?_⟩
  · rw [own_ixeq hM own_ix0] at q; omega
  · rw [own_ixlt hN hM] at q; omega
  · rw [hD.1, hM.1, hN.1, ← Int32.ofNat_add, Nat.add_sub_cancel' h]
  · rw [own_ixn hD]; omega
  · rw [own_ixn hM]; exact hM.1
  · rw [own_ixn hD]; exact hD.1
  · rw [own_ixn hD, own_ixn hM, own_ixn hN]; omega
theorem own_sb0 {M N : Int32} {m n : Nat} (hM : Ix M m) (hN : Ix N n) (h0 : 0 < m) (h : m = n) (h4 : n ≤ 4) : own_SB M N 0 := by
  have q := own_sb hM hN h0 (Nat.le_of_eq h) h4
  rwa [show N - M = 0 from by rw [hM.1, hN.1, h]; exact Int32.sub_self _] at q
def own_sh (g : Nat → Int32) (m : Nat) : Nat → Int32 := fun j => if m + j < 40 then g (m + j) else 0
theorem own_us (g : Nat → Int32) {M : Int32} {m : Nat} (hM : Ix M m) (D : Int32) : ∀ j, j < D.toNatClampNeg → D.toNatClampNeg ≤ 3 → (own_tb (own_sh g m)).getD j (.int 0) = (own_tb g).getD (M.toNatClampNeg + j) (.int 0) := by
  intro j hj h3
  rw [own_ixn hM, own_tbg _ _ (by omega)]
  unfold own_sh
  by_cases q : m + j < 40
  · rw [if_pos q, own_tbg _ _ q]
  · rw [if_neg q]; simp [own_tb, List.getD_eq_getElem?_getD, q]
abbrev own_by (f g : Nat → Int32) (nn : Nat) : Prop := ∀ j, j < nn → g j = (f j).toInt8.toInt32
abbrev own_lt (f : Nat → Int32) (nn : Nat) : Prop := ∀ j, j < nn → 0 ≤ (f j).toInt ∧ (f j).toInt ≤ 255
theorem own_cpl {f g : Nat → Int32} {nn k : Nat} {r N : Int32} (h : Ix r k ∧ own_cp f g nn k) (hN : Ix N nn) (hl : own_lt f nn) : r = N ∧ own_by f g nn := by
  have hk : k = nn := by
    rcases h.2.2.2 with e | q
    · exact e
    · have h1 := h.2.1
      refine Nat.le_antisymm h1 (Nat.le_of_not_lt fun z => ?_)
      have h2 := hl k z
      simp only [Int32.lt_iff_toInt_lt, Int32.reduceToInt] at q
      omega
  exact ⟨(own_ixeq h.1 hN).mpr hk, fun j hj => (h.2.2.1 j (by omega)).2⟩
def own_f59 (f : Nat → Int32) (nn : Nat) (r : Int32) : Prop := (r < (0 : Int32) ∧ ∀ j, j < nn → ¬ f j = (59 : Int32)) ∨ ∃ k, Ix r k ∧ k < nn ∧ f k = (59 : Int32) ∧ ∀ j, j < k → ¬ f j = (59 : Int32)
def own_nw (f : Nat → Int32) (nn : Nat) (r : Int32) : Prop := ∃ k, Ix r k ∧ k ≤ nn ∧ (∀ j, j < k → ¬ own_ws (f j) = (0 : Int32)) ∧ (k = nn ∨ (k < nn ∧ own_ws (f k) = (0 : Int32)))
def own_bk (f : Nat → Int32) (nn : Nat) (r : Int32) : Prop := (r = 1 ∧ ∀ j, j < nn → ¬ own_ws (f j) = (0 : Int32)) ∨ (r = 0 ∧ ∃ j, j < nn ∧ own_ws (f j) = (0 : Int32))
theorem own_bk1 {f : Nat → Int32} {nn : Nat} {r N : Int32} (h : own_nw f nn r) (hN : Ix N nn) (q : r = N) : own_bk f nn 1 := by
  obtain ⟨k, h1, h2, h3, h4⟩ := h
  have e := (own_ixeq h1 hN).mp q
  exact Or.inl ⟨rfl, fun j hj => h3 j (by omega)⟩
theorem own_bk0 {f : Nat → Int32} {nn : Nat} {r N : Int32} (h : own_nw f nn r) (hN : Ix N nn) (q : ¬ r = N) : own_bk f nn 0 := by
  obtain ⟨k, h1, h2, h3, h4⟩ := h
  rcases h4 with e | e
  · exact absurd ((own_ixeq h1 hN).mpr e) q
  · exact Or.inr ⟨rfl, k, e⟩
def own_mh (f : Nat → Int32) (nn : Nat) (r : Int32) : Prop := (r = 1 ∧ ∃ i j, i < j ∧ j < nn ∧ f i = (59 : Int32) ∧ own_ws (f j) = (0 : Int32)) ∨ (r = 0 ∧ ¬ ∃ i j, i < j ∧ j < nn ∧ f i = (59 : Int32) ∧ own_ws (f j) = (0 : Int32))
theorem own_mhn {f : Nat → Int32} {nn : Nat} {r : Int32} (h : own_f59 f nn r) (q : r < (0 : Int32)) : own_mh f nn 0 := by
  rcases h with ⟨-, h⟩ | ⟨k, h1, -⟩
  · exact Or.inr ⟨rfl, fun ⟨i, j, h1, h2, h3, _⟩ => h i (by omega) h3⟩
  · exact absurd q (own_ixnn h1)
theorem own_f59k {f : Nat → Int32} {nn : Nat} {r : Int32} (h : own_f59 f nn r) (q : ¬ r < (0 : Int32)) : ∃ k, Ix r k ∧ k < nn ∧ f k = (59 : Int32) ∧ ∀ j, j < k → ¬ f j = (59 : Int32) := by
  rcases h with ⟨h, -⟩ | h
  · exact absurd h q
  · exact h
theorem own_mhk {f f' : Nat → Int32} {nn k mm : Nat} {b r : Int32} (h1 : k < nn) (h2 : f k = (59 : Int32)) (h3 : ∀ j, j < k → ¬ f j = (59 : Int32)) (hm : mm = nn - (k + 1)) (hf : ∀ j, j < mm → f' j = f (k + 1 + j)) (hb : own_bk f' mm b) (hr : (b = 0 ∧ r = 1) ∨ (¬ b = 0 ∧ r = 0)) : own_mh f nn r := by
  rcases hb with ⟨e, hb⟩ | ⟨e, j, hj, hb⟩
  · rcases hr with ⟨z, -⟩ | ⟨-, z⟩
    · rw [e] at z; exact absurd z (by decide)
    · refine Or.inr ⟨z, fun ⟨i, j, a1, a2, a3, a4⟩ => ?_⟩
      have hi : ¬ i < k := fun q => h3 i q a3
      have hx := hb (j - (k + 1)) (by omega)
      rw [hf _ (by omega), show k + 1 + (j - (k + 1)) = j from by omega] at hx
      exact hx a4
  · rcases hr with ⟨-, z⟩ | ⟨z, -⟩
    · rw [hf j hj] at hb
      exact Or.inl ⟨z, k, k + 1 + j, by omega, by omega, h2, hb⟩
    · exact absurd e z
def own_4 (a b c d : Int32) : Nat → Int32 := fun j => if j = 0 then a else if j = 1 then b else if j = 2 then c else d
theorem own_4l {a b c d : Int32} (ha : 0 ≤ a.toInt ∧ a.toInt ≤ 255) (hb : 0 ≤ b.toInt ∧ b.toInt ≤ 255) (hc : 0 ≤ c.toInt ∧ c.toInt ≤ 255) (hd : 0 ≤ d.toInt ∧ d.toInt ≤ 255) (nn : Nat) : own_lt (own_4 a b c d) nn := by
  intro j _
  unfold own_4
  split
  · exact ha
  · split
    · exact hb
    · split
      · exact hc
      · exact hd
def own_pq (f : Nat → Int32) (nn j k : Nat) (r : Int32) : Prop := (r = 1 ∧ k < nn ∧ f j = (59 : Int32) ∧ own_ws (f k) = (0 : Int32)) ∨ (r = 0 ∧ ¬ (k < nn ∧ f j = (59 : Int32) ∧ own_ws (f k) = (0 : Int32)))
theorem own_pq1 {f : Nat → Int32} {nn j k : Nat} {r : Int32} (h : own_pq f nn j k r) (q : ¬ r = (0 : Int32)) : k < nn ∧ f j = (59 : Int32) ∧ own_ws (f k) = (0 : Int32) := by
  rcases h with h | h
  · exact h.2
  · exact absurd h.1 q
theorem own_pq0 {f : Nat → Int32} {nn j k : Nat} {r : Int32} (h : own_pq f nn j k r) (q : r = (0 : Int32)) : ¬ (k < nn ∧ f j = (59 : Int32) ∧ own_ws (f k) = (0 : Int32)) := by
  rcases h with h | h
  · rw [q] at h; exact absurd h.1 (by decide)
  · exact h.2
theorem own_ex1 {f : Nat → Int32} {nn i j : Nat} (hij : i < j) (h : j < nn ∧ f i = (59 : Int32) ∧ own_ws (f j) = (0 : Int32)) : ∃ i j, i < j ∧ j < nn ∧ f i = (59 : Int32) ∧ own_ws (f j) = (0 : Int32) := ⟨i, j, hij, h⟩
theorem own_ex0 {f : Nat → Int32} {nn : Nat} (h4 : nn ≤ 4) (h01 : ¬ (1 < nn ∧ f 0 = (59 : Int32) ∧ own_ws (f 1) = (0 : Int32))) (h02 : ¬ (2 < nn ∧ f 0 = (59 : Int32) ∧ own_ws (f 2) = (0 : Int32))) (h03 : ¬ (3 < nn ∧ f 0 = (59 : Int32) ∧ own_ws (f 3) = (0 : Int32))) (h12 : ¬ (2 < nn ∧ f 1 = (59 : Int32) ∧ own_ws (f 2) = (0 : Int32))) (h13 : ¬ (3 < nn ∧ f 1 = (59 : Int32) ∧ own_ws (f 3) = (0 : Int32))) (h23 : ¬ (3 < nn ∧ f 2 = (59 : Int32) ∧ own_ws (f 3) = (0 : Int32))) : ¬ ∃ i j, i < j ∧ j < nn ∧ f i = (59 : Int32) ∧ own_ws (f j) = (0 : Int32) := by
  intro ⟨i, j, hij, h⟩
  have hj := h.1
  obtain rfl | rfl | rfl : j = 1 ∨ j = 2 ∨ j = 3 := by omega
  · obtain rfl : i = 0 := by omega
    exact h01 h
  · obtain rfl | rfl : i = 0 ∨ i = 1 := by omega
    · exact h02 h
    · exact h12 h
  · obtain rfl | rfl | rfl : i = 0 ∨ i = 1 ∨ i = 2 := by omega
    · exact h03 h
    · exact h13 h
    · exact h23 h
theorem own_fin23 {f : Nat → Int32} {nn : Nat} {r x : Int32} (h : own_mh f nn r) (hx : (x = 1 ∧ ∃ i j, i < j ∧ j < nn ∧ f i = (59 : Int32) ∧ own_ws (f j) = (0 : Int32)) ∨ (x = 0 ∧ ¬ ∃ i j, i < j ∧ j < nn ∧ f i = (59 : Int32) ∧ own_ws (f j) = (0 : Int32))) : r = x := by
  rcases h with ⟨h, a⟩ | ⟨h, a⟩ <;> rcases hx with ⟨z, b⟩ | ⟨z, b⟩
  · rw [h, z]
  · exact absurd a b
  · exact absurd b a
  · rw [h, z]
theorem own_lst {Z : State} {h : Heap} {a : Addr} {kk : ClassId} {ty : FieldType} {z : Int32} {vs : List Value} {g : Nat → Int32} {dv : Value} (V : Arv Z h a kk ty z vs dv) (hn : z.toNatClampNeg ≤ 40) (q : ∀ j, j < z.toNatClampNeg → vs.getD j dv = .int (g j)) : Arv Z h a kk ty z (own_tb g) dv := by
  obtain ⟨c, A, r1, r2, r3, H, G⟩ := V
  have e : ∀ i, i < c.slots.size → (own_tb g).getD i dv = vs.getD i dv := fun i hi => by
    rw [r2] at hi
    rw [own_tbg _ _ (by omega), q i hi]
  exact ⟨c, A, r1, r2, r3, fun i hi => by rw [e i hi]; exact H i hi, fun i hi => by rw [e i hi]; exact G i hi⟩
theorem own_n4 {N : Int32} {nn : Nat} (hN : Ix N nn) (h : nn < 5) (h0 : ¬ N = (0 : Int32)) (h1 : ¬ N = (1 : Int32)) (h2 : ¬ N = (2 : Int32)) (h3 : ¬ N = (3 : Int32)) : N = (4 : Int32) := by
  rw [own_ixeq hN own_ix0] at h0
  rw [own_ixeq hN (⟨rfl, by decide⟩ : Ix 1 1)] at h1
  rw [own_ixeq hN (⟨rfl, by decide⟩ : Ix 2 2)] at h2
  rw [own_ixeq hN (⟨rfl, by decide⟩ : Ix 3 3)] at h3
  rw [own_ixeq hN (⟨rfl, by decide⟩ : Ix 4 4)]
  omega
theorem own_allS {P : Nat → Prop} {k : Nat} (h : ∀ j, j < k → P j) (hk : P k) : ∀ j, j < k + 1 → P j := by
  intro j hj
  by_cases q : j = k
  · rw [q]; exact hk
  · exact h j (by omega)
def own_sf (f : Nat → Int32) (m : Nat) : Nat → Int32 := fun j => f (m + j)
theorem own_f59z {f : Nat → Int32} {nn : Nat} {r : Int32} (h : own_f59 f nn r) (q : nn = 0) : r < (0 : Int32) := by
  rcases h with h | ⟨k, _, h, _⟩
  · exact h.1
  · omega
theorem own_byS {f g : Nat → Int32} {nn m : Nat} (h : own_by f g nn) (h4 : nn ≤ 4) : own_by (own_sf f m) (own_sh g m) (nn - m) := by
  intro j hj
  unfold own_sh own_sf
  rw [if_pos (by omega)]
  exact h (m + j) (by omega)
theorem own_ltS {f : Nat → Int32} {nn m : Nat} (h : own_lt f nn) : own_lt (own_sf f m) (nn - m) := fun j hj => h (m + j) (by omega)
set_option maxRecDepth 65536
set_option maxHeartbeats 40000000
abbrev HW (Z : State) (a0 : Array Value) : Prop := ∀ d ∈ tables_1, d.before a0 Z = true
section Short
variable {p : Program} {l : Launch} {e : Env} {R : Room} {s : State} {m : MethodId} {args : Array Value} {below : List Frame} {meth : Method} {c : Code} {T : State} {locs : List Loc} {cells slots : Nat} {G : State → Prop} {pc : Nat} {Ls : Array Slot} {S : List Value}
theorem gs (m : MethodId) (T' : State) (pc' : Nat) (Ls' : Array Slot) (S' : List Value) {f : JFrame} (k : ∀ t, Steps p.tables e below (T'.setTop (mkF m pc' Ls' S')) t → Steps p.tables e below (T.setTop f) t) (h : Go p e below G T' (mkF m pc' Ls' S')) : Go p e below G T f := Go.step k h
theorem g_iload (X : Stand p l e R s m args below meth c T locs cells slots) (hx : p.tables.exec = Jvm.exec) (pc' : Nat) {k : Nat} {v : Int32} (hd : decode c.code pc = .ok (.iload k, 2)) (hp : pc + 2 = pc') (hl : Ls[k]? = some (.val (.int v))) (h : Go p e below G T (mkF m pc' Ls (.int v :: S))) : Go p e below G T (mkF m pc Ls S) := by
  subst hp
  exact Go.step (fun _ k => XS.iload X.here hx rfl hd hl k) h
theorem g_iloadN (X : Stand p l e R s m args below meth c T locs cells slots) (hx : p.tables.exec = Jvm.exec) (pc' : Nat) {k : Fin 4} {v : Int32} (hd : decode c.code pc = .ok (.iload_n k, 1)) (hp : pc + 1 = pc') (hl : Ls[k.val]? = some (.val (.int v))) (h : Go p e below G T (mkF m pc' Ls (.int v :: S))) : Go p e below G T (mkF m pc Ls S) := by
  subst hp
  exact Go.step (fun _ k => XS.iloadN X.here hx rfl hd hl k) h
theorem g_aload (X : Stand p l e R s m args below meth c T locs cells slots) (hx : p.tables.exec = Jvm.exec) (pc' : Nat) {k : Nat} {v : Value} (hd : decode c.code pc = .ok (.aload k, 2)) (hp : pc + 2 = pc') (hl : Ls[k]? = some (.val v)) (hv : v.isRef = true) (h : Go p e below G T (mkF m pc' Ls (v :: S))) : Go p e below G T (mkF m pc Ls S) := by
  subst hp
  exact Go.step (fun _ k => XS.aload X.here hx rfl hd hl hv k) h
theorem g_aloadN (X : Stand p l e R s m args below meth c T locs cells slots) (hx : p.tables.exec = Jvm.exec) (pc' : Nat) {k : Fin 4} {v : Value} (hd : decode c.code pc = .ok (.aload_n k, 1)) (hp : pc + 1 = pc') (hl : Ls[k.val]? = some (.val v)) (hv : v.isRef = true) (h : Go p e below G T (mkF m pc' Ls (v :: S))) : Go p e below G T (mkF m pc Ls S) := by
  subst hp
  exact Go.step (fun _ k => XS.aloadN X.here hx rfl hd hl hv k) h
theorem g_iconst (X : Stand p l e R s m args below meth c T locs cells slots) (hx : p.tables.exec = Jvm.exec) (pc' : Nat) (z : Int32) {i : Int} (hd : decode c.code pc = .ok (.iconst i, 1)) (hp : pc + 1 = pc') (hz : Int32.ofInt i = z) (h : Go p e below G T (mkF m pc' Ls (.int z :: S))) : Go p e below G T (mkF m pc Ls S) := by
  subst hp hz
  exact Go.step (fun _ k => XS.iconst X.here hx rfl hd k) h
theorem g_bipush (X : Stand p l e R s m args below meth c T locs cells slots) (hx : p.tables.exec = Jvm.exec) (pc' : Nat) (z : Int32) {i : Int} (hd : decode c.code pc = .ok (.bipush i, 2)) (hp : pc + 2 = pc') (hz : (Int8.ofInt i).toInt32 = z) (h : Go p e below G T (mkF m pc' Ls (.int z :: S))) : Go p e below G T (mkF m pc Ls S) := by
  subst hp hz
  exact Go.step (fun _ k => XS.bipush X.here hx rfl hd k) h
theorem g_sipush (X : Stand p l e R s m args below meth c T locs cells slots) (hx : p.tables.exec = Jvm.exec) (pc' : Nat) (z : Int32) {i : Int} (hd : decode c.code pc = .ok (.sipush i, 3)) (hp : pc + 3 = pc') (hz : (Int16.ofInt i).toInt32 = z) (h : Go p e below G T (mkF m pc' Ls (.int z :: S))) : Go p e below G T (mkF m pc Ls S) := by
  subst hp hz
  exact Go.step (fun _ k => XS.sipush X.here hx rfl hd k) h
theorem g_istore (X : Stand p l e R s m args below meth c T locs cells slots) (hx : p.tables.exec = Jvm.exec) (pc' : Nat) {k : Nat} {v : Int32} {l' : Array Slot} (hd : decode c.code pc = .ok (.istore k, 2)) (hp : pc + 2 = pc') (hl : storeLocals Ls k (.int v) = some l') (h : Go p e below G T (mkF m pc' l' S)) : Go p e below G T (mkF m pc Ls (.int v :: S)) := by
  subst hp
  exact Go.step (fun _ k => XS.istore X.here hx rfl hd rfl hl k) h
theorem g_istoreN (X : Stand p l e R s m args below meth c T locs cells slots) (hx : p.tables.exec = Jvm.exec) (pc' : Nat) {k : Fin 4} {v : Int32} {l' : Array Slot} (hd : decode c.code pc = .ok (.istore_n k, 1)) (hp : pc + 1 = pc') (hl : storeLocals Ls k.val (.int v) = some l') (h : Go p e below G T (mkF m pc' l' S)) : Go p e below G T (mkF m pc Ls (.int v :: S)) := by
  subst hp
  exact Go.step (fun _ k => XS.istoreN X.here hx rfl hd rfl hl k) h
theorem g_astore (X : Stand p l e R s m args below meth c T locs cells slots) (hx : p.tables.exec = Jvm.exec) (pc' : Nat) {k : Nat} {v : Value} {l' : Array Slot} (hd : decode c.code pc = .ok (.astore k, 2)) (hp : pc + 2 = pc') (hv : v.isRef = true) (hl : storeLocals Ls k v = some l') (h : Go p e below G T (mkF m pc' l' S)) : Go p e below G T (mkF m pc Ls (v :: S)) := by
  subst hp
  exact Go.step (fun _ k => XS.astore X.here hx rfl hd rfl hv hl k) h
theorem g_astoreN (X : Stand p l e R s m args below meth c T locs cells slots) (hx : p.tables.exec = Jvm.exec) (pc' : Nat) {k : Fin 4} {v : Value} {l' : Array Slot} (hd : decode c.code pc = .ok (.astore_n k, 1)) (hp : pc + 1 = pc') (hv : v.isRef = true) (hl : storeLocals Ls k.val v = some l') (h : Go p e below G T (mkF m pc' l' S)) : Go p e below G T (mkF m pc Ls (v :: S)) := by
  subst hp
  exact Go.step (fun _ k => XS.astoreN X.here hx rfl hd rfl hv hl k) h
theorem g_goto (X : Stand p l e R s m args below meth c T locs cells slots) (hx : p.tables.exec = Jvm.exec) (pc' : Nat) {o : Int} (hd : decode c.code pc = .ok (.goto o, 3)) (ho : 0 ≤ (pc : Int) + o) (hq : ((pc : Int) + o).toNat = pc') (h : Go p e below G T (mkF m pc' Ls S)) : Go p e below G T (mkF m pc Ls S) := by
  skip
  exact Go.step (fun _ k => XS.goto X.here hx rfl rfl hd ho hq k) h
theorem g_ifYes (X : Stand p l e R s m args below meth c T locs cells slots) (hx : p.tables.exec = Jvm.exec) (pc' : Nat) {cd : ClassFile.Cond} {x : Int32} {o : Int} (hd : decode c.code pc = .ok (.ifCond cd o, 3)) (hc : ifCond.holds cd x = true) (ho : 0 ≤ (pc : Int) + o) (hq : ((pc : Int) + o).toNat = pc') (h : Go p e below G T (mkF m pc' Ls S)) : Go p e below G T (mkF m pc Ls (.int x :: S)) := by
  skip
  exact Go.step (fun _ k => XS.ifYes X.here hx rfl rfl hd rfl hc ho hq k) h
theorem g_ifNo (X : Stand p l e R s m args below meth c T locs cells slots) (hx : p.tables.exec = Jvm.exec) (pc' : Nat) {cd : ClassFile.Cond} {x : Int32} {o : Int} (hd : decode c.code pc = .ok (.ifCond cd o, 3)) (hp : pc + 3 = pc') (hc : ifCond.holds cd x = false) (h : Go p e below G T (mkF m pc' Ls S)) : Go p e below G T (mkF m pc Ls (.int x :: S)) := by
  subst hp
  exact Go.step (fun _ k => XS.ifNo X.here hx rfl hd rfl hc k) h
theorem g_icmpYes (X : Stand p l e R s m args below meth c T locs cells slots) (hx : p.tables.exec = Jvm.exec) (pc' : Nat) {cd : ClassFile.Cond} {x y : Int32} {o : Int} (hd : decode c.code pc = .ok (.if_icmp cd o, 3)) (hc : if_icmp.holds cd x y = true) (ho : 0 ≤ (pc : Int) + o) (hq : ((pc : Int) + o).toNat = pc') (h : Go p e below G T (mkF m pc' Ls S)) : Go p e below G T (mkF m pc Ls (.int y :: .int x :: S)) := by
  skip
  exact Go.step (fun _ k => XS.icmpYes X.here hx rfl rfl hd rfl hc ho hq k) h
theorem g_icmpNo (X : Stand p l e R s m args below meth c T locs cells slots) (hx : p.tables.exec = Jvm.exec) (pc' : Nat) {cd : ClassFile.Cond} {x y : Int32} {o : Int} (hd : decode c.code pc = .ok (.if_icmp cd o, 3)) (hp : pc + 3 = pc') (hc : if_icmp.holds cd x y = false) (h : Go p e below G T (mkF m pc' Ls S)) : Go p e below G T (mkF m pc Ls (.int y :: .int x :: S)) := by
  subst hp
  exact Go.step (fun _ k => XS.icmpNo X.here hx rfl hd rfl hc k) h
theorem g_dup (X : Stand p l e R s m args below meth c T locs cells slots) (hx : p.tables.exec = Jvm.exec) (pc' : Nat) {x : Value} (hd : decode c.code pc = .ok (.dup, 1)) (hp : pc + 1 = pc') (hc : x.category = 1) (h : Go p e below G T (mkF m pc' Ls (x :: x :: S))) : Go p e below G T (mkF m pc Ls (x :: S)) := by
  subst hp
  exact Go.step (fun _ k => XS.dup X.here hx rfl hd rfl hc k) h
theorem g_pop (X : Stand p l e R s m args below meth c T locs cells slots) (hx : p.tables.exec = Jvm.exec) (pc' : Nat) {x : Value} (hd : decode c.code pc = .ok (.pop, 1)) (hp : pc + 1 = pc') (hc : x.category = 1) (h : Go p e below G T (mkF m pc' Ls S)) : Go p e below G T (mkF m pc Ls (x :: S)) := by
  subst hp
  exact Go.step (fun _ k => XS.pop X.here hx rfl hd rfl hc k) h
end Short
abbrev rO (a b c d : Nat) : Room := { frames := a, cells := b, slots := c, locals := d }
theorem tw {Z : State} {a0 : Array Value} (hw : ∀ d ∈ tables_1, d.before a0 Z = true) (i : Nat) {d : Jvm.Cond} (h : tables_1[i]? = some d) : d.before a0 Z = true := hw d (List.mem_of_getElem? h)
abbrev MF (l : Launch) (y : MethodName) (bytes : ByteArray) (maxL : Nat) (ret : Option FieldType) (ws : List Jvm.Cond) (rm : Room) (A : Array Value) (Z : State) (h0 : Heap) (Q : Option Value → Heap → List Loc → Prop) : Prop :=
  MetFree l y (head1 (Jvm.Cond.code y bytes maxL ret :: ws) rm) (fun a U => a = A ∧ Z.Warmed39 U.vm ∧ U.heap = h0) (fun _ _ _ _ _ => True) (fun _ U o U' => ∃ rv Lq, o = .returned rv ∧ Q rv U'.heap Lq ∧ FrameEnd U o U' Lq rm.cells rm.slots)
theorem own_met {l : Launch} {y : MethodName} {bytes : ByteArray} {maxL : Nat} {ret : Option FieldType} {ws : List Jvm.Cond} {rm : Room} {A : Array Value} {Z : State} {h0 : Heap} {Q : Option Value → Heap → List Loc → Prop} {L0 : Array Slot} (own : String) (ho : y.cls = own) (hpl : plainFor y = true) (hef : ∀ m, entryFrame m A maxL = mkF m 0 L0 [])
    (H : ∀ p e s m below meth c s₁, BodyLoose p l y (head1 (Jvm.Cond.code y bytes maxL ret :: ws) rm) bytes maxL ret e s m A below meth c s₁ → p.tables.exec = Jvm.exec → c.code = bytes → c.maxLocals = maxL → s.vm.findClass own = some m.cls → meth.name = y.name → Z.Warmed39 s.vm → Stand p l e rm s m A below meth c s₁ [] 0 0 → s₁.heap = h0 → Go p e below (Fin1 s below Q rm.cells rm.slots) s₁ (mkF m 0 L0 [])) : MF l y bytes maxL ret ws rm A Z h0 Q := by
  subst ho
  refine MetFree.of_bodySF hpl hisR ?_
  intro p e s m args below meth c s₁ Bd hml0 hP hK
  obtain ⟨rfl, hZ, hh⟩ := hP
  exact of_go (hef m) (H p e s m below meth c s₁ Bd Bd.exec Bd.bytes hml0 (findClass_of_methodNamed Bd.named) (name_of_methodNamed Bd.named Bd.method).1 hZ (Stand.of_body Bd) (by rw [← hh, Bd.state]; rfl))
abbrev y100 : MethodName := (⟨"java/lang/String", "<init>", "([CIILjava/lang/Void;)V"⟩ : MethodName)
abbrev y101 : MethodName := (⟨"java/lang/String", "<init>", "([C)V"⟩ : MethodName)
abbrev y102 : MethodName := (⟨"java/lang/CharacterDataLatin1", "getProperties", "(I)I"⟩ : MethodName)
abbrev y103 : MethodName := (⟨"java/lang/CharacterDataLatin1", "isWhitespace", "(I)Z"⟩ : MethodName)
abbrev y104 : MethodName := (⟨"java/lang/String", "isLatin1", "()Z"⟩ : MethodName)
abbrev y105 : MethodName := (⟨"java/lang/String", "coder", "()B"⟩ : MethodName)
abbrev y106 : MethodName := (⟨"java/lang/String", "length", "()I"⟩ : MethodName)
abbrev y107 : MethodName := (⟨"java/lang/String", "isBlank", "()Z"⟩ : MethodName)
abbrev y108 : MethodName := (⟨"java/lang/Math", "min", "(II)I"⟩ : MethodName)
abbrev y109 : MethodName := (⟨"java/lang/String", "indexOf", "(II)I"⟩ : MethodName)
abbrev y110 : MethodName := (⟨"java/lang/String", "indexOf", "(I)I"⟩ : MethodName)
abbrev y111 : MethodName := (⟨"jdk/internal/util/Preconditions", "checkFromToIndex", "(IIILjava/util/function/BiFunction;)I"⟩ : MethodName)
abbrev y112 : MethodName := (⟨"java/lang/String", "checkBoundsBeginEnd", "(III)V"⟩ : MethodName)
abbrev y113 : MethodName := (⟨"java/lang/StringLatin1", "newString", "([BII)Ljava/lang/String;"⟩ : MethodName)
abbrev y114 : MethodName := (⟨"java/lang/String", "substring", "(II)Ljava/lang/String;"⟩ : MethodName)
abbrev y115 : MethodName := (⟨"java/lang/String", "substring", "(I)Ljava/lang/String;"⟩ : MethodName)
abbrev y116 : MethodName := (⟨"com/example/managed_transactions/managedtransactions/jdbc/SqlText", "mayHoldSeveral", "(Ljava/lang/String;)Z"⟩ : MethodName)
abbrev y117 : MethodName := (⟨"com/example/managed_transactions/managedtransactions/jdbc/SqlTextMayHoldSeveralPinLaw", "draw", "(I)C"⟩ : MethodName)
abbrev y118 : MethodName := (⟨"com/example/managed_transactions/managedtransactions/jdbc/SqlTextMayHoldSeveralPinLaw", "pair", "([CIII)Z"⟩ : MethodName)
theorem d17_0 : decode jdk_52_method_21_code 0 = .ok (.iconst 0, 1) := by decide +kernel
theorem d17_1 : decode jdk_52_method_21_code 1 = .ok (.istore 5, 2) := by decide +kernel
theorem d17_3 : decode jdk_52_method_21_code 3 = .ok (.iload 5, 2) := by decide +kernel
theorem d17_5 : decode jdk_52_method_21_code 5 = .ok (.iload 4, 2) := by decide +kernel
theorem d17_7 : decode jdk_52_method_21_code 7 = .ok (.if_icmp .ge 37, 3) := by decide +kernel
theorem d17_10 : decode jdk_52_method_21_code 10 = .ok (.aload_n 0, 1) := by decide +kernel
theorem d17_11 : decode jdk_52_method_21_code 11 = .ok (.iload_n 1, 1) := by decide +kernel
theorem d17_12 : decode jdk_52_method_21_code 12 = .ok (.caload, 1) := by decide +kernel
theorem d17_13 : decode jdk_52_method_21_code 13 = .ok (.istore 6, 2) := by decide +kernel
theorem d17_15 : decode jdk_52_method_21_code 15 = .ok (.iload 6, 2) := by decide +kernel
theorem d17_17 : decode jdk_52_method_21_code 17 = .ok (.sipush 255, 3) := by decide +kernel
theorem d17_20 : decode jdk_52_method_21_code 20 = .ok (.if_icmp .le 6, 3) := by decide +kernel
theorem d17_23 : decode jdk_52_method_21_code 23 = .ok (.iload 5, 2) := by decide +kernel
theorem d17_25 : decode jdk_52_method_21_code 25 = .ok (.ireturn, 1) := by decide +kernel
theorem d17_26 : decode jdk_52_method_21_code 26 = .ok (.aload_n 2, 1) := by decide +kernel
theorem d17_27 : decode jdk_52_method_21_code 27 = .ok (.iload_n 3, 1) := by decide +kernel
theorem d17_28 : decode jdk_52_method_21_code 28 = .ok (.iload 6, 2) := by decide +kernel
theorem d17_30 : decode jdk_52_method_21_code 30 = .ok (.i2b, 1) := by decide +kernel
theorem d17_31 : decode jdk_52_method_21_code 31 = .ok (.bastore, 1) := by decide +kernel
theorem d17_32 : decode jdk_52_method_21_code 32 = .ok (.iinc 1 1, 3) := by decide +kernel
theorem d17_35 : decode jdk_52_method_21_code 35 = .ok (.iinc 3 1, 3) := by decide +kernel
theorem d17_38 : decode jdk_52_method_21_code 38 = .ok (.iinc 5 1, 3) := by decide +kernel
theorem d17_41 : decode jdk_52_method_21_code 41 = .ok (.goto (-38), 3) := by decide +kernel
theorem d17_44 : decode jdk_52_method_21_code 44 = .ok (.iload 4, 2) := by decide +kernel
theorem d17_46 : decode jdk_52_method_21_code 46 = .ok (.ireturn, 1) := by decide +kernel
theorem pn_17 : plainName "java/lang/StringUTF16" = true := by first | (simp [plainName, overriddenIn]; done) | decide +kernel
theorem ef_rmCpA (m : MethodId) (a1 : Addr) (a3 : Addr) (N : Int32) : entryFrame m #[(.ref a1), (.int 0), (.ref a3), (.int 0), (.int N)] 7 = mkF m 0 #[.val (.ref a1), .val (.int 0), .val (.ref a3), .val (.int 0), .val (.int N), .unset, .unset] [] := by first | (simp [entryFrame, mkF, argsToLocals, Value.category]; done) | rfl
def Q_rmCpA (Z : State) (a1 : Addr) (a3 : Addr) (N : Int32) (kc : ClassId) (kb : ClassId) (f : Nat → Int32) (nn : Nat) (h0 : Heap) (n0 : Nat) (rv : Option Value) (hq : Heap) (Lq : List Loc) : Prop := ∃ r : Int32, ∃ g : Nat → Int32, ∃ k : Nat, rv = some (.int r) ∧ Fr n0 Lq ∧ Keep h0 hq [a3] ∧ Arv Z hq a3 kb .byte N (own_tb g) (.int 0) ∧ Ix r k ∧ own_cp f g nn k
theorem rmCpA (l : Launch) (Z : State) (a0 : Array Value) (hw : HW Z a0) (ws : List Jvm.Cond) (a1 : Addr) (a3 : Addr) (N : Int32) (kc : ClassId) (kb : ClassId) (f : Nat → Int32) (nn : Nat) (h0 : Heap) (n0 : Nat) (Z0 : n0 ≤ h0.size) (V_a1 : Arv Z h0 a1 kc .char N (own_tb f) (.int 0)) (V_a3 : Arv Z h0 a3 kb .byte N (own_tb own_0) (.int 0)) (hne : a1 ≠ a3) (hN : Ix N nn) (hnn : nn ≤ 20) (g_a3 : n0 ≤ a3) :
  MF l (⟨"java/lang/StringUTF16", "compress", "([CI[BII)I"⟩ : MethodName) jdk_52_method_21_code 7 (some .int) ws (rO 0 0 0 0) #[(.ref a1), (.int 0), (.ref a3), (.int 0), (.int N)] Z h0 (Q_rmCpA Z a1 a3 N kc kb f nn h0 n0) := by
 refine own_met "java/lang/StringUTF16" rfl (plainFor_of_name pn_17) (fun m => ef_rmCpA m a1 a3 N) ?_
 intro p e s m below meth c s₁ Bd hx hby hml hown hnm hZ X0 e0
 have N0 := Fr.nil n0
 refine g_iconst X0 hx 1 0 (hb hby d17_0) rfl rfl ?_
 refine g_istore X0 hx 3 (hb hby d17_1) rfl (l' := #[.val (.ref a1), .val (.int 0), .val (.ref a3), .val (.int 0), .val (.int N), .val (.int 0), .unset]) rfl ?_
 have J1 : ∀ (km1 : Nat) (i : Int32) (k : Nat) (g : Nat → Int32) (sl : Slot) (hi : Ix i k) (hkn : k ≤ nn) (hg : own_ci f g k) (hsl : sl = .unset ∨ ∃ x, sl = .val (.int x)) (hm1 : nn - k = km1) (hj1 : Heap) (Zj1 : n0 ≤ hj1.size) (Kj1 : Keep h0 hj1 [a3]) (V_a1_j1 : Arv Z hj1 a1 kc .char N (own_tb f) (.int 0)) (V_a3_j1 : Arv Z hj1 a3 kb .byte N (own_tb g) (.int 0)) (Tj1 : State) (Lj1 : List Loc) (Xj1 : Stand p l e (rO 0 0 0 0) s m #[(.ref a1), (.int 0), (.ref a3), (.int 0), (.int N)] below meth c Tj1 Lj1 0 0) (ej1 : Tj1.heap = hj1) (Nj1 : Fr n0 Lj1), Go p e below (Fin1 s below (Q_rmCpA Z a1 a3 N kc kb f nn h0 n0) (rO 0 0 0 0).cells (rO 0 0 0 0).slots) Tj1 (mkF m 3 #[.val (.ref a1), .val (.int i), .val (.ref a3), .val (.int i), .val (.int N), .val (.int i), sl] []) := by
  intro km1
  induction km1 using Nat.strongRecOn with
  | ind km1 ih1 =>
   intro i k g sl hi hkn hg hsl hm1 hj1 Zj1 Kj1 V_a1_j1 V_a3_j1 Tj1 Lj1 Xj1 ej1 Nj1
   refine g_iload Xj1 hx 5 (hb hby d17_3) rfl rfl ?_
   refine g_iload Xj1 hx 7 (hb hby d17_5) rfl rfl ?_
   by_cases hc7 : i < N
   ·refine g_icmpNo Xj1 hx 10 (hb hby d17_7) rfl (tlt hc7).2.1 ?_
    have hlt := (own_ixlt hi hN).mp hc7
    refine g_aloadN Xj1 hx 11 (hb hby d17_10) rfl rfl rfl ?_
    refine g_iloadN Xj1 hx 12 (hb hby d17_11) rfl rfl ?_
    obtain ⟨cl2, Ar2, qc2, Sz2, Nn2, Hs2, Gf2⟩ := id V_a1_j1
    have hin3 : ¬ (i < 0 ∨ cl2.slots.size ≤ (i).toNatClampNeg) := (inb_of Sz2 (own_ixb hi hN hlt))
    have hat3 : cl2.slots[(i).toNatClampNeg]? = some (.int (f k)) := own_atT Hs2 hin3 hi (by omega)
    refine gs m Tj1 13 #[.val (.ref a1), .val (.int i), .val (.ref a3), .val (.int i), .val (.int N), .val (.int i), sl] [(.int (f k))] (fun _ kS => Xj1.caload hx (j := i) (v := (.int (f k))) (by rw [ej1]; exact Ar2.1) (State.isArrayOf_alike hZ.alike Ar2.2.1) Ar2.2.2 hin3 hat3 (g := (mkF m 12 #[.val (.ref a1), .val (.int i), .val (.ref a3), .val (.int i), .val (.int N), .val (.int i), sl] [(.int i), (.ref a1)])) rfl rfl (hb hby d17_12) _ kS) ?_
    refine gs m Tj1 15 #[.val (.ref a1), .val (.int i), .val (.ref a3), .val (.int i), .val (.int N), .val (.int i), .val (.int (f k))] [] (fun _ kS => XS.istore Xj1.here hx rfl (hb hby d17_13) rfl (l' := #[.val (.ref a1), .val (.int i), .val (.ref a3), .val (.int i), .val (.int N), .val (.int i), .val (.int (f k))]) (by rcases hsl with h | ⟨x, h⟩ <;> rw [h] <;> rfl) kS) ?_
    refine g_iload Xj1 hx 17 (hb hby d17_15) rfl rfl ?_
    refine g_sipush Xj1 hx 20 255 (hb hby d17_17) rfl rfl ?_
    by_cases hc20 : (255 : Int32) < (f k)
    ·refine g_icmpNo Xj1 hx 23 (hb hby d17_20) rfl (tlt hc20).2.2.2 ?_
     refine g_iload Xj1 hx 25 (hb hby d17_23) rfl rfl ?_
     refine goI Xj1 hx Bd.returns Bd.notSynchronized (hb hby d17_25) ?_ (by decide) (by decide)
     show Q_rmCpA Z a1 a3 N kc kb f nn h0 n0 _ Tj1.heap _
     rw [ej1]
     exact ⟨i, g, k, rfl, Nj1, Kj1, V_a3_j1, ⟨hi, hkn, hg, Or.inr hc20⟩⟩
    ·refine g_icmpYes Xj1 hx 26 (hb hby d17_20) (flt hc20).2.2.2 (by decide) (by decide) ?_
     refine g_aloadN Xj1 hx 27 (hb hby d17_26) rfl rfl rfl ?_
     refine g_iloadN Xj1 hx 28 (hb hby d17_27) rfl rfl ?_
     refine g_iload Xj1 hx 30 (hb hby d17_28) rfl rfl ?_
     refine gs m Tj1 31 #[.val (.ref a1), .val (.int i), .val (.ref a3), .val (.int i), .val (.int N), .val (.int i), .val (.int (f k))] [(.int ((f k).toInt8.toInt32)), (.int i), (.ref a3)] (fun _ kS => XS.i2b Xj1.here hx rfl (hb hby d17_30) rfl kS) ?_
     obtain ⟨cl4, Ar4, qc4, Sz4, Nn4, Hs4, Gf4⟩ := id V_a3_j1
     have hin5 : ¬ (i < 0 ∨ cl4.slots.size ≤ (i).toNatClampNeg) := (inb_of Sz4 (own_ixb hi hN hlt))
     obtain ⟨T5, h5, X5, e5, W5, st5⟩ := stB Xj1 hx hZ ej1 Ar4 (j := i) hin5 (g := (mkF m 31 #[.val (.ref a1), .val (.int i), .val (.ref a3), .val (.int i), .val (.int N), .val (.int i), .val (.int (f k))] [(.int ((f k).toInt8.toInt32)), (.int i), (.ref a3)])) rfl rfl (hb hby d17_31)
     have N5 := Fr.snoc X5 Nj1 g_a3
     have Z6 : n0 ≤ h5.size := Nat.le_trans Zj1 (Keep.of_wr W5).1
     have K6 : Keep h0 h5 [a3] := Kj1.wr W5 (Or.inl (List.mem_of_getElem? (i := 0) rfl))
     rw [own_nb] at W5
     have Va5 : Arv Z h5 a3 kb .byte N (own_tb (own_up g k ((f k).toInt8.toInt32))) (.int 0) := own_setT Ar4 qc4 Sz4 Nn4 Hs4 Gf4 (fits_nar_byte _) W5 hi (by omega)
     refine gs m T5 32 #[.val (.ref a1), .val (.int i), .val (.ref a3), .val (.int i), .val (.int N), .val (.int i), .val (.int (f k))] [] st5 ?_
     refine gs m T5 35 #[.val (.ref a1), .val (.int (i + (1 : Int32))), .val (.ref a3), .val (.int i), .val (.int N), .val (.int i), .val (.int (f k))] [] (fun _ kS => XS.iinc X5.here hx rfl (hb hby d17_32) rfl (l' := #[.val (.ref a1), .val (.int (i + (1 : Int32))), .val (.ref a3), .val (.int i), .val (.int N), .val (.int i), .val (.int (f k))]) rfl kS) ?_
     refine gs m T5 38 #[.val (.ref a1), .val (.int (i + (1 : Int32))), .val (.ref a3), .val (.int (i + (1 : Int32))), .val (.int N), .val (.int i), .val (.int (f k))] [] (fun _ kS => XS.iinc X5.here hx rfl (hb hby d17_35) rfl (l' := #[.val (.ref a1), .val (.int (i + (1 : Int32))), .val (.ref a3), .val (.int (i + (1 : Int32))), .val (.int N), .val (.int i), .val (.int (f k))]) rfl kS) ?_
     refine gs m T5 41 #[.val (.ref a1), .val (.int (i + (1 : Int32))), .val (.ref a3), .val (.int (i + (1 : Int32))), .val (.int N), .val (.int (i + (1 : Int32))), .val (.int (f k))] [] (fun _ kS => XS.iinc X5.here hx rfl (hb hby d17_38) rfl (l' := #[.val (.ref a1), .val (.int (i + (1 : Int32))), .val (.ref a3), .val (.int (i + (1 : Int32))), .val (.int N), .val (.int (i + (1 : Int32))), .val (.int (f k))]) rfl kS) ?_
     refine g_goto X5 hx 3 (hb hby d17_41) (by decide) (by decide) ?_
     have q7 : Arv Z h5 a1 kc .char N (own_tb f) (.int 0) := (V_a1_j1.other W5 hne)
     exact ih1 _ (by omega) (i + (1 : Int32)) (k + 1) (own_up g k ((f k).toInt8.toInt32)) (.val (.int (f k))) (own_ixS hi (by omega)) hlt (own_ciS hg hc20) (Or.inr ⟨_, rfl⟩) rfl h5 Z6 K6 q7 Va5 _ _ X5 e5 N5
   ·refine g_icmpYes Xj1 hx 44 (hb hby d17_7) (flt hc7).2.1 (by decide) (by decide) ?_
    refine g_iload Xj1 hx 46 (hb hby d17_44) rfl rfl ?_
    refine goI Xj1 hx Bd.returns Bd.notSynchronized (hb hby d17_46) ?_ (by decide) (by decide)
    show Q_rmCpA Z a1 a3 N kc kb f nn h0 n0 _ Tj1.heap _
    rw [ej1]
    exact ⟨N, g, nn, rfl, Nj1, Kj1, V_a3_j1, ⟨hN, Nat.le_refl _, fun j hj => hg j (by have hh : ¬ k < nn := fun q => hc7 ((own_ixlt hi hN).mpr q); omega), Or.inl rfl⟩⟩
 exact J1 _ (0 : Int32) 0 own_0 .unset own_ix0 (Nat.zero_le _) (fun j hj => absurd hj (Nat.not_lt_zero j)) (Or.inl rfl) rfl h0 Z0 (Keep.refl h0 [a3]) V_a1 V_a3 _ _ X0 e0 N0
theorem d16_0 : decode jdk_52_method_16_code 0 = .ok (.iload_n 2, 1) := by decide +kernel
theorem d16_1 : decode jdk_52_method_16_code 1 = .ok (.newarray .byte, 2) := by decide +kernel
theorem d16_3 : decode jdk_52_method_16_code 3 = .ok (.astore_n 3, 1) := by decide +kernel
theorem d16_4 : decode jdk_52_method_16_code 4 = .ok (.aload_n 0, 1) := by decide +kernel
theorem d16_5 : decode jdk_52_method_16_code 5 = .ok (.iload_n 1, 1) := by decide +kernel
theorem d16_6 : decode jdk_52_method_16_code 6 = .ok (.aload_n 3, 1) := by decide +kernel
theorem d16_7 : decode jdk_52_method_16_code 7 = .ok (.iconst 0, 1) := by decide +kernel
theorem d16_8 : decode jdk_52_method_16_code 8 = .ok (.iload_n 2, 1) := by decide +kernel
theorem d16_9 : decode jdk_52_method_16_code 9 = .ok (.invokestatic 115, 3) := by decide +kernel
theorem pd_0 : parseMethodDescriptor "([CI[BII)I" = some ⟨[(.array .char), .int, (.array .byte), .int, .int], some .int⟩ := by decide +kernel
theorem d16_12 : decode jdk_52_method_16_code 12 = .ok (.istore 4, 2) := by decide +kernel
theorem d16_14 : decode jdk_52_method_16_code 14 = .ok (.iload 4, 2) := by decide +kernel
theorem d16_16 : decode jdk_52_method_16_code 16 = .ok (.iload_n 2, 1) := by decide +kernel
theorem d16_17 : decode jdk_52_method_16_code 17 = .ok (.if_icmp .eq 40, 3) := by decide +kernel
theorem d16_57 : decode jdk_52_method_16_code 57 = .ok (.aload_n 3, 1) := by decide +kernel
theorem d16_58 : decode jdk_52_method_16_code 58 = .ok (.areturn, 1) := by decide +kernel
theorem ef_rmCpB (m : MethodId) (a1 : Addr) (N : Int32) : entryFrame m #[(.ref a1), (.int 0), (.int N)] 6 = mkF m 0 #[.val (.ref a1), .val (.int 0), .val (.int N), .unset, .unset, .unset] [] := by first | (simp [entryFrame, mkF, argsToLocals, Value.category]; done) | rfl
def Q_rmCpB (Z : State) (a1 : Addr) (N : Int32) (kc : ClassId) (f : Nat → Int32) (nn : Nat) (h0 : Heap) (n0 : Nat) (rv : Option Value) (hq : Heap) (Lq : List Loc) : Prop := ∃ b : Addr, ∃ kb : ClassId, ∃ g : Nat → Int32, rv = some (.ref b) ∧ Fr n0 Lq ∧ Keep h0 hq [] ∧ h0.size ≤ b ∧ Arv Z hq b kb .byte N (own_tb g) (.int 0) ∧ own_by f g nn
theorem rmCpB (l : Launch) (Z : State) (a0 : Array Value) (hw : HW Z a0) (ws : List Jvm.Cond) (a1 : Addr) (N : Int32) (kc : ClassId) (f : Nat → Int32) (nn : Nat) (h0 : Heap) (n0 : Nat) (Z0 : n0 ≤ h0.size) (V_a1 : Arv Z h0 a1 kc .char N (own_tb f) (.int 0)) (hN : Ix N nn) (hnn : nn ≤ 20) (hrg : own_lt f nn) :
  MF l (⟨"java/lang/StringUTF16", "compress", "([CII)[B"⟩ : MethodName) jdk_52_method_16_code 6 (some (.array .byte)) ws (rO 1 1 20 18) #[(.ref a1), (.int 0), (.int N)] Z h0 (Q_rmCpB Z a1 N kc f nn h0 n0) := by
 refine own_met "java/lang/StringUTF16" rfl (plainFor_of_name pn_17) (fun m => ef_rmCpB m a1 N) ?_
 intro p e s m below meth c s₁ Bd hx hby hml hown hnm hZ X0 e0
 have N0 := Fr.nil n0
 refine g_iloadN X0 hx 1 (hb hby d16_0) rfl rfl ?_
 obtain ⟨T1, h1, k1, X1, e1, E1, A1, st1⟩ := newP X0 hx hZ (tw hw 23 rfl) e0 (g := (mkF m 1 #[.val (.ref a1), .val (.int 0), .val (.int N), .unset, .unset, .unset] [(.int N)])) rfl (hb hby d16_1) rfl (own_ixnn hN) (cap := 20) (by rw [own_ixn hN]; omega) (by decide) (by decide) (by decide)
 obtain ⟨b1, g1⟩ : ∃ z, z = h0.size := ⟨_, rfl⟩
 rw [← g1] at A1 st1
 have g_b1 : n0 ≤ b1 := Nat.le_trans Z0 (Nat.le_of_eq g1.symm)
 have sz_b1 : h0.size ≤ b1 := Nat.le_trans (Keep.refl h0 []).1 (Nat.le_of_eq g1.symm)
 have Z2 : n0 ≤ h1.size := Nat.le_trans Z0 E1.1
 have K2 : Keep h0 h1 [] := (Keep.refl h0 []).ext E1
 have V_b1 : Arv Z h1 b1 k1 .byte N (own_tb own_0) (.int 0) := (Arv.new A1 (own_ixnn hN)).pad own_tz
 refine gs m T1 3 #[.val (.ref a1), .val (.int 0), .val (.int N), .unset, .unset, .unset] [(.ref b1)] st1 ?_
 refine g_astoreN X1 hx 4 (hb hby d16_3) rfl rfl (l' := #[.val (.ref a1), .val (.int 0), .val (.int N), .val (.ref b1), .unset, .unset]) rfl ?_
 refine g_aloadN X1 hx 5 (hb hby d16_4) rfl rfl rfl ?_
 refine g_iloadN X1 hx 6 (hb hby d16_5) rfl rfl ?_
 refine g_aloadN X1 hx 7 (hb hby d16_6) rfl rfl rfl ?_
 refine g_iconst X1 hx 8 0 (hb hby d16_7) rfl rfl ?_
 refine g_iloadN X1 hx 9 (hb hby d16_8) rfl rfl ?_
 have q4 : Arv Z h1 a1 kc .char N (own_tb f) (.int 0) := (V_a1.ext E1)
 obtain ⟨_, _, ⟨T3, L3, kk3, nn3⟩, -, X3, ⟨Lc3, hQ3, lq3, yq3, zq3⟩, st3⟩ := Jvm.LawKit.callS X1 hx (y := (⟨"java/lang/StringUTF16", "compress", "([CI[BII)I"⟩ : MethodName)) hown (mvT hZ (tw hw 78 rfl)) (mvT hZ (tw hw 79 rfl)) (mvT hZ (tw hw 76 rfl)) (mvT hZ (tw hw 80 rfl)) (by decide) (backOf (W := 0) (rmCpA l Z a0 hw [] a1 b1 N kc k1 f nn h1 n0 Z2 q4 V_b1 (Nat.ne_of_lt (Nat.lt_of_lt_of_le V_a1.lt (Nat.le_of_eq g1.symm))) hN hnn g_b1) hZ (tw hw 80 rfl) (tw hw 76 rfl) (by decide) (by decide)) (g := (mkF m 9 #[.val (.ref a1), .val (.int 0), .val (.int N), .val (.ref b1), .unset, .unset] [(.int N), (.int 0), (.ref b1), (.int 0), (.ref a1)])) rfl (by rw [hml]; rfl) (argsL := [(.ref a1), (.int 0), (.ref b1), (.int 0), (.int N)]) (rest := []) (lenOf pd_0 rfl) rfl (by show 2 * 0 + _ ≤ _; exact Nat.le_of_eq rfl) (hb hby d16_9) (fun _ _ => ⟨rfl, e1, (by decide : 1 + 0 ≤ _), (by decide : 20 + 0 ≤ _)⟩)
 dsimp only [Pt.U, Pt.locs, Pt.cells, Pt.slots] at X3 lq3 yq3 zq3 st3 hQ3
 subst yq3 zq3
 obtain ⟨r_3, g_3, k_3, rfl, Nq3, Kq3, r3_0, r3_1⟩ := hQ3
 have N3 : Fr n0 L3 := by rw [lq3]; exact Fr.app N0 Nq3
 have Z5 : n0 ≤ T3.heap.size := Nat.le_trans Z2 Kq3.1
 have K5 : Keep h0 T3.heap [] := K2.trans Kq3 (allS (Or.inr sz_b1) all0)
 refine gs m T3 12 #[.val (.ref a1), .val (.int 0), .val (.int N), .val (.ref b1), .unset, .unset] [(.int r_3)] st3 ?_
 refine g_istore X3 hx 14 (hb hby d16_12) rfl (l' := #[.val (.ref a1), .val (.int 0), .val (.int N), .val (.ref b1), .val (.int r_3), .unset]) rfl ?_
 refine g_iload X3 hx 16 (hb hby d16_14) rfl rfl ?_
 refine g_iloadN X3 hx 17 (hb hby d16_16) rfl rfl ?_
 refine g_icmpYes X3 hx 57 (hb hby d16_17) (teq (own_cpl r3_1 hN hrg).1).1 (by decide) (by decide) ?_
 refine g_aloadN X3 hx 58 (hb hby d16_57) rfl rfl rfl ?_
 refine goA X3 hx Bd.returns rfl rfl Bd.notSynchronized (hb hby d16_58) ?_ (by decide) (by decide)
 show Q_rmCpB Z a1 N kc f nn h0 n0 _ T3.heap _
 exact ⟨b1, k1, g_3, rfl, N3, K5, sz_b1, r3_0, (own_cpl r3_1 hN hrg).2⟩
theorem d18_0 : decode jdk_52_method_15_code 0 = .ok (.iload_n 1, 1) := by decide +kernel
theorem d18_1 : decode jdk_52_method_15_code 1 = .ok (.aload_n 0, 1) := by decide +kernel
theorem d18_2 : decode jdk_52_method_15_code 2 = .ok (.arraylength, 1) := by decide +kernel
theorem d18_3 : decode jdk_52_method_15_code 3 = .ok (.isub, 1) := by decide +kernel
theorem d18_4 : decode jdk_52_method_15_code 4 = .ok (.bipush 31, 2) := by decide +kernel
theorem d18_6 : decode jdk_52_method_15_code 6 = .ok (.iushr, 1) := by decide +kernel
theorem d18_7 : decode jdk_52_method_15_code 7 = .ok (.i2b, 1) := by decide +kernel
theorem d18_8 : decode jdk_52_method_15_code 8 = .ok (.ireturn, 1) := by decide +kernel
theorem ef_rmCfl (m : MethodId) (a1 : Addr) (N : Int32) : entryFrame m #[(.ref a1), (.int N)] 2 = mkF m 0 #[.val (.ref a1), .val (.int N)] [] := by first | (simp [entryFrame, mkF, argsToLocals, Value.category]; done) | rfl
def Q_rmCfl (Z : State) (a1 : Addr) (N : Int32) (kb : ClassId) (vs : List Value) (h0 : Heap) (n0 : Nat) (rv : Option Value) (hq : Heap) (Lq : List Loc) : Prop := rv = some (.int 0) ∧ Fr n0 Lq ∧ hq = h0
theorem rmCfl (l : Launch) (Z : State) (a0 : Array Value) (hw : HW Z a0) (ws : List Jvm.Cond) (a1 : Addr) (N : Int32) (kb : ClassId) (vs : List Value) (h0 : Heap) (n0 : Nat) (Z0 : n0 ≤ h0.size) (V_a1 : Arv Z h0 a1 kb .byte N vs (.int 0)) :
  MF l (⟨"java/lang/StringUTF16", "coderFromArrayLen", "([BI)B"⟩ : MethodName) jdk_52_method_15_code 2 (some .byte) ws (rO 0 0 0 0) #[(.ref a1), (.int N)] Z h0 (Q_rmCfl Z a1 N kb vs h0 n0) := by
 refine own_met "java/lang/StringUTF16" rfl (plainFor_of_name pn_17) (fun m => ef_rmCfl m a1 N) ?_
 intro p e s m below meth c s₁ Bd hx hby hml hown hnm hZ X0 e0
 have N0 := Fr.nil n0
 refine g_iloadN X0 hx 1 (hb hby d18_0) rfl rfl ?_
 refine g_aloadN X0 hx 2 (hb hby d18_1) rfl rfl rfl ?_
 obtain ⟨cl1, Ar1, qc1, Sz1, Nn1, Hs1, Gf1⟩ := id V_a1
 have hlen1 := X0.arraylength hx (by rw [e0]; exact Ar1.1) (State.isArrayOf_alike hZ.alike Ar1.2.1) (g := (mkF m 2 #[.val (.ref a1), .val (.int N)] [(.ref a1), (.int N)])) rfl rfl (hb hby d18_2)
 rw [len_of Sz1 Nn1] at hlen1
 refine gs m s₁ 3 #[.val (.ref a1), .val (.int N)] [(.int N), (.int N)] (fun _ kS => hlen1 _ kS) ?_
 refine gs m s₁ 4 #[.val (.ref a1), .val (.int N)] [(.int (N - N))] (fun _ kS => XS.isub X0.here hx rfl (hb hby d18_3) rfl kS) ?_
 refine g_bipush X0 hx 6 31 (hb hby d18_4) rfl rfl ?_
 refine gs m s₁ 7 #[.val (.ref a1), .val (.int N)] [(.int (((N - N).toUInt32 >>> ((31 : Int32) &&& 31).toUInt32).toInt32))] (fun _ kS => XS.iushr X0.here hx rfl (hb hby d18_6) rfl kS) ?_
 refine gs m s₁ 8 #[.val (.ref a1), .val (.int N)] [(.int ((((N - N).toUInt32 >>> ((31 : Int32) &&& 31).toUInt32).toInt32).toInt8.toInt32))] (fun _ kS => XS.i2b X0.here hx rfl (hb hby d18_7) rfl kS) ?_
 refine goN X0 hx (t := .byte) Bd.returns (by simp) Bd.notSynchronized (hb hby d18_8) ?_ (by decide) (by decide)
 show Q_rmCfl Z a1 N kb vs h0 n0 _ s₁.heap _
 rw [e0]
 exact ⟨(congrArg (fun z => some (Value.int z)) ((own_nb _).trans (own_d4 N))), N0, rfl⟩
theorem d4_0 : decode jdk_42_method_149_code 0 = .ok (.aload_n 0, 1) := by decide +kernel
theorem d4_1 : decode jdk_42_method_149_code 1 = .ok (.invokespecial 1, 3) := by decide +kernel
theorem d4_4 : decode jdk_42_method_149_code 4 = .ok (.iload_n 3, 1) := by decide +kernel
theorem d4_5 : decode jdk_42_method_149_code 5 = .ok (.ifCond .ne 22, 3) := by decide +kernel
theorem d4_8 : decode jdk_42_method_149_code 8 = .ok (.aload_n 0, 1) := by decide +kernel
theorem d4_9 : decode jdk_42_method_149_code 9 = .ok (.ldc 7, 2) := by decide +kernel
theorem d4_11 : decode jdk_42_method_149_code 11 = .ok (.getfield 9, 3) := by decide +kernel
theorem d4_14 : decode jdk_42_method_149_code 14 = .ok (.putfield 9, 3) := by decide +kernel
theorem d4_17 : decode jdk_42_method_149_code 17 = .ok (.aload_n 0, 1) := by decide +kernel
theorem d4_18 : decode jdk_42_method_149_code 18 = .ok (.ldc 7, 2) := by decide +kernel
theorem d4_20 : decode jdk_42_method_149_code 20 = .ok (.getfield 15, 3) := by decide +kernel
theorem d4_23 : decode jdk_42_method_149_code 23 = .ok (.putfield 15, 3) := by decide +kernel
theorem d4_26 : decode jdk_42_method_149_code 26 = .ok (.return_, 1) := by decide +kernel
theorem pn_4 : plainName "java/lang/String" = true := by first | (simp [plainName, overriddenIn]; done) | decide +kernel
theorem ef_rmSi4_0 (m : MethodId) (a1 : Addr) (a2 : Addr) (N : Int32) : entryFrame m #[(.ref a1), (.ref a2), (.int 0), (.int N), .null] 6 = mkF m 0 #[.val (.ref a1), .val (.ref a2), .val (.int 0), .val (.int N), .val .null, .unset] [] := by first | (simp [entryFrame, mkF, argsToLocals, Value.category]; done) | rfl
def Q_rmSi4_0 (Z : State) (a1 : Addr) (a2 : Addr) (N : Int32) (cs : Int32) (kc : ClassId) (f : Nat → Int32) (nn : Nat) (h0 : Heap) (n0 : Nat) (rv : Option Value) (hq : Heap) (Lq : List Loc) : Prop := ∃ b : Addr, ∃ kb : ClassId, ∃ g : Nat → Int32, rv = none ∧ Fr n0 Lq ∧ Keep h0 hq [a1] ∧ Fld Z hq a1 "java/lang/String" "value" "[B" (.ref b) ∧ Fld Z hq a1 "java/lang/String" "coder" "B" (.int 0) ∧ Arv Z hq b kb .byte N (own_tb g) (.int 0) ∧ own_by f g nn
theorem rmSi4_0 (l : Launch) (Z : State) (a0 : Array Value) (hw : HW Z a0) (ws : List Jvm.Cond) (a1 : Addr) (a2 : Addr) (N : Int32) (cs : Int32) (kc : ClassId) (f : Nat → Int32) (nn : Nat) (h0 : Heap) (n0 : Nat) (Z0 : n0 ≤ h0.size) (E_a1 : Exa Z h0 a1 "java/lang/String") (F_value_a1 : Fld Z h0 a1 "java/lang/String" "value" "[B" .null) (F_coder_a1 : Fld Z h0 a1 "java/lang/String" "coder" "B" (.int 0)) (V_a2 : Arv Z h0 a2 kc .char N (own_tb f) (.int 0)) (O0 : Old Z n0 h0) (S_COMPACT_STRINGS : Sta Z Z.heap "java/lang/String" "COMPACT_STRINGS" "Z" (.int cs)) (hcs : ¬ cs = (0 : Int32)) (hCH : Jvm.Lit.constHeld Z "java/lang/String" 7) (hCW : Jvm.Lit.compactW.before a0 Z = true) (hN : Ix N nn) (hnn : nn ≤ 20) (hrg : own_lt f nn) (hNz : N = (0 : Int32)) (g_a1 : n0 ≤ a1) :
  MetFree l y100 (head1 (Jvm.Cond.code y100 jdk_42_method_149_code 6 none :: ws) (rO 1 2 4 12)) (fun a U => a = #[(.ref a1), (.ref a2), (.int 0), (.int N), .null] ∧ Z.Warmed39 U.vm ∧ U.heap = h0 ∧ U.vm.interned = Z.vm.interned) (fun _ _ _ _ _ => True) (fun _ U o U' => ∃ rv Lq, o = .returned rv ∧ Q_rmSi4_0 Z a1 a2 N cs kc f nn h0 n0 rv U'.heap Lq ∧ ReturnedEndW U o U' Lq (rO 1 2 4 12).cells (rO 1 2 4 12).slots) := by
 refine MetFree.of_bodySF (plainFor_of_name pn_4) hisR ?_
 intro p e s m args below meth c s₁ Bd hml0 hP hK
 obtain ⟨rfl, hZ, hh, hI⟩ := hP
 have hx := Bd.exec
 have hby := Bd.bytes
 have hml : c.maxLocals = 6 := hml0
 have hown : s.vm.findClass "java/lang/String" = some m.cls := findClass_of_methodNamed Bd.named
 have hnm := (name_of_methodNamed Bd.named Bd.method).1
 have X0 : Stand p l e (rO 1 2 4 12) s m #[(.ref a1), (.ref a2), (.int 0), (.int N), .null] below meth c s₁ [] 0 0 := Stand.of_body Bd
 have e0 : s₁.heap = h0 := by rw [← hh, Bd.state]; rfl
 have N0 := Fr.nil n0
 have X0 : Stand p l e (rO 1 2 4 12) (s.setVm s.vm) m #[(.ref a1), (.ref a2), (.int 0), (.int N), .null] below meth c s₁ [] 0 0 := X0
 have hS : s.Since s.vm h0.size := (State.WarmedH.refl s).since _
 have hk := Nat.le_refl h0.size
 have hZ : Z.Warmed39 (s.setVm s.vm).vm := hZ
 have hI : (s.setVm s.vm).vm.interned = Z.vm.interned := hI
 have hown : (s.setVm s.vm).vm.findClass "java/lang/String" = some m.cls := hown
 refine of_goW (ef_rmSi4_0 m a1 a2 N) ?_
 refine g_aloadN X0 hx 1 (hb hby d4_0) rfl rfl rfl ?_
 obtain ⟨T1, X1, e1, st1⟩ := initO X0 hx hZ hown (tw hw 19 rfl) (tw hw 20 rfl) (tw hw 21 rfl) e0 (g := (mkF m 1 #[.val (.ref a1), .val (.ref a2), .val (.int 0), .val (.int N), .val .null, .unset] [(.ref a1)])) rfl (by rw [hml]; rfl) rfl (hb hby d4_1) (by decide) (W := 0) (by show 2 * 0 + _ ≤ _; exact Nat.le_of_eq rfl) (by decide)
 refine gs m T1 4 #[.val (.ref a1), .val (.ref a2), .val (.int 0), .val (.int N), .val .null, .unset] [] st1 ?_
 refine g_iloadN X1 hx 5 (hb hby d4_4) rfl rfl ?_
 refine g_ifNo X1 hx 8 (hb hby d4_5) rfl ((if0 _ _).trans (teq hNz).2) ?_
 refine g_aloadN X1 hx 9 (hb hby d4_8) rfl rfl rfl ?_
 obtain ⟨ls2, T2, h2, k2, lb2, lk2, X2, e2, E2, hS, hk, hZ, hown, lE2, lC2, lV2, lA2, -, -, -, Lt2, st2⟩ := ldcSVL X1 hx hZ hown (tw hw 22 rfl) (own_sA hw) e1 hS hk (Fr.nil _) (fun b cl q => by rw [show s.heap = h0 from hh]; exact O0.2.2 b cl q) (own_IB hI) (List.not_mem_nil) hCH hCW (vs := []) (z := (0 : Int32)) ⟨by decide, by decide⟩ (by decide) (by decide) (g := (mkF m 9 #[.val (.ref a1), .val (.ref a2), .val (.int 0), .val (.int N), .val .null, .unset] [(.ref a1)])) rfl (hb hby d4_9) (n := 0) (by decide) (by decide) (by decide) (by decide)
 have Z3 : n0 ≤ h2.size := Nat.le_trans Z0 E2.1
 have O3 : Old Z n0 h2 := O0.ext E2
 have K3 : Keep h0 h2 [a1] := (Keep.refl h0 [a1]).ext E2
 have q4 : Fld Z h2 a1 "java/lang/String" "value" "[B" .null := (F_value_a1.ext E2)
 have q5 : Exa Z h2 a1 "java/lang/String" := (E_a1.ext E2)
 have nla2 : a1 ≠ ls2 := own_neF q4 lV2 (fun q => by cases q)
 have nlb2 : lb2 ≠ a1 := own_neA (tw hw 10 rfl) lA2 q5
 refine gs m T2 11 #[.val (.ref a1), .val (.ref a2), .val (.int 0), .val (.int N), .val .null, .unset] [(.ref ls2), (.ref a1)] st2 ?_
 obtain ⟨T6, X6, e6, st6⟩ := getF X2 hx hZ hown (host := "") (Or.inl (tw hw 28 rfl)) Via.refl e2 lV2 (g := (mkF m 11 #[.val (.ref a1), .val (.ref a2), .val (.int 0), .val (.int N), .val .null, .unset] [(.ref ls2), (.ref a1)])) rfl rfl (hb hby d4_11)
 refine gs m T6 14 #[.val (.ref a1), .val (.ref a2), .val (.int 0), .val (.int N), .val .null, .unset] [(.ref lb2), (.ref a1)] st6 ?_
 obtain ⟨T7, h7, X7, e7, W7, st7⟩ := putF X6 hx hZ hown (host := "") (Or.inl (tw hw 28 rfl)) Via.refl e6 q4 q5 (Or.inr ⟨(tw hw 24 rfl), rfl, hnm⟩) (tw hw 10 rfl) (ty := (.array .byte)) (by decide) rfl rfl (g := (mkF m 14 #[.val (.ref a1), .val (.ref a2), .val (.int 0), .val (.int N), .val .null, .unset] [(.ref lb2), (.ref a1)])) rfl rfl (hb hby d4_14)
 have N7 := Fr.snoc X7 N0 g_a1
 have Z8 : n0 ≤ h7.size := Nat.le_trans Z3 (Keep.of_wr W7).1
 have hk := Nat.le_trans hk (Keep.of_wr W7).1
 have O8 : Old Z n0 h7 := O3.wr W7 g_a1
 have K8 : Keep h0 h7 [a1] := K3.wr W7 (Or.inl (List.mem_of_getElem? (i := 0) rfl))
 have Fw7 := q4.same W7
 refine gs m T7 17 #[.val (.ref a1), .val (.ref a2), .val (.int 0), .val (.int N), .val .null, .unset] [] st7 ?_
 refine g_aloadN X7 hx 18 (hb hby d4_17) rfl rfl rfl ?_
 refine gs m T7 20 #[.val (.ref a1), .val (.ref a2), .val (.int 0), .val (.int N), .val .null, .unset] [(.ref ls2), (.ref a1)] (fun _ kS => ldcAgain X7 hx hZ hown (tw hw 22 rfl) Lt2 (g := (mkF m 18 #[.val (.ref a1), .val (.ref a2), .val (.int 0), .val (.int N), .val .null, .unset] [(.ref a1)])) rfl (hb hby d4_18) _ kS) ?_
 have q10 : Fld Z h7 ls2 "java/lang/String" "coder" "B" (.int 0) := (lC2.other W7 (Or.inl (Ne.symm nla2)))
 obtain ⟨T11, X11, e11, st11⟩ := getF X7 hx hZ hown (host := "") (Or.inl (tw hw 29 rfl)) Via.refl e7 q10 (g := (mkF m 20 #[.val (.ref a1), .val (.ref a2), .val (.int 0), .val (.int N), .val .null, .unset] [(.ref ls2), (.ref a1)])) rfl rfl (hb hby d4_20)
 refine gs m T11 23 #[.val (.ref a1), .val (.ref a2), .val (.int 0), .val (.int N), .val .null, .unset] [(.int 0), (.ref a1)] st11 ?_
 have q12 : Fld Z h7 a1 "java/lang/String" "coder" "B" (.int 0) := ((F_coder_a1.ext E2).other W7 (Or.inr (slot_ne (Or.inr (tw hw 25 rfl)) (Or.inr (tw hw 24 rfl)) (by decide) (t := .byte) (t' := (.array .byte)) (by decide) (by decide))))
 have q13 : Exa Z h7 a1 "java/lang/String" := (q5.wr W7)
 obtain ⟨T14, h14, X14, e14, W14, st14⟩ := putFN X11 hx hZ hown (tw hw 29 rfl) Via.refl e11 q12 q13 (Or.inr ⟨(tw hw 25 rfl), rfl, hnm⟩) (tw hw 10 rfl) (ty := .byte) (v := .int (0 : Int32)) (v' := .int (0 : Int32)) (by decide) rfl (by decide) (g := (mkF m 23 #[.val (.ref a1), .val (.ref a2), .val (.int 0), .val (.int N), .val .null, .unset] [(.int 0), (.ref a1)])) rfl rfl (hb hby d4_23)
 have N14 := Fr.snoc X14 N7 g_a1
 have Z15 : n0 ≤ h14.size := Nat.le_trans Z8 (Keep.of_wr W14).1
 have hk := Nat.le_trans hk (Keep.of_wr W14).1
 have O15 : Old Z n0 h14 := O8.wr W14 g_a1
 have K15 : Keep h0 h14 [a1] := K8.wr W14 (Or.inl (List.mem_of_getElem? (i := 0) rfl))
 have Fw14 := q12.same W14
 refine gs m T14 26 #[.val (.ref a1), .val (.ref a2), .val (.int 0), .val (.int N), .val .null, .unset] [] st14 ?_
 refine goVW hS X14 (by rw [e14]; exact hk) hx Bd.returns Bd.notSynchronized (hb hby d4_26) ?_ (by decide) (by decide)
 show Q_rmSi4_0 Z a1 a2 N cs kc f nn h0 n0 _ T14.heap _
 rw [e14]
 have q16 : Fld Z h14 a1 "java/lang/String" "value" "[B" (.ref lb2) := (Fw7.other W14 (Or.inr (slot_ne (Or.inr (tw hw 24 rfl)) (Or.inr (tw hw 25 rfl)) (by decide) (t := (.array .byte)) (t' := .byte) (by decide) (by decide))))
 have q17 : Arv Z h14 lb2 lk2 .byte (0 : Int32) [] (.int 0) := ((lA2.other W7 nlb2).other W14 nlb2)
 have hn0 : nn = 0 := (own_ixeq hN own_ix0).mp hNz
 exact ⟨lb2, lk2, own_0, rfl, N14, K15, q16, Fw14, (by rw [hNz]; exact q17.pad own_tz), fun j hj => absurd hj (by omega)⟩
theorem d3_0 : decode jdk_42_method_3_code 0 = .ok (.aload_n 0, 1) := by decide +kernel
theorem d3_1 : decode jdk_42_method_3_code 1 = .ok (.aload_n 1, 1) := by decide +kernel
theorem d3_2 : decode jdk_42_method_3_code 2 = .ok (.iconst 0, 1) := by decide +kernel
theorem d3_3 : decode jdk_42_method_3_code 3 = .ok (.aload_n 1, 1) := by decide +kernel
theorem d3_4 : decode jdk_42_method_3_code 4 = .ok (.arraylength, 1) := by decide +kernel
theorem d3_5 : decode jdk_42_method_3_code 5 = .ok (.aconst_null, 1) := by decide +kernel
theorem d3_6 : decode jdk_42_method_3_code 6 = .ok (.invokespecial 27, 3) := by decide +kernel
theorem pd_1 : parseMethodDescriptor "([CIILjava/lang/Void;)V" = some ⟨[(.array .char), .int, .int, (.object "java/lang/Void")], none⟩ := by decide +kernel
theorem d3_9 : decode jdk_42_method_3_code 9 = .ok (.return_, 1) := by decide +kernel
theorem ef_rmSi_0 (m : MethodId) (a1 : Addr) (a2 : Addr) : entryFrame m #[(.ref a1), (.ref a2)] 2 = mkF m 0 #[.val (.ref a1), .val (.ref a2)] [] := by first | (simp [entryFrame, mkF, argsToLocals, Value.category]; done) | rfl
def Q_rmSi_0 (Z : State) (a1 : Addr) (a2 : Addr) (cs : Int32) (kc : ClassId) (f : Nat → Int32) (nn : Nat) (N : Int32) (h0 : Heap) (n0 : Nat) (rv : Option Value) (hq : Heap) (Lq : List Loc) : Prop := ∃ b : Addr, ∃ kb : ClassId, ∃ g : Nat → Int32, rv = none ∧ Fr n0 Lq ∧ Keep h0 hq [a1] ∧ Fld Z hq a1 "java/lang/String" "value" "[B" (.ref b) ∧ Fld Z hq a1 "java/lang/String" "coder" "B" (.int 0) ∧ Arv Z hq b kb .byte N (own_tb g) (.int 0) ∧ own_by f g nn
theorem rmSi_0 (l : Launch) (Z : State) (a0 : Array Value) (hw : HW Z a0) (ws : List Jvm.Cond) (a1 : Addr) (a2 : Addr) (cs : Int32) (kc : ClassId) (f : Nat → Int32) (nn : Nat) (N : Int32) (h0 : Heap) (n0 : Nat) (Z0 : n0 ≤ h0.size) (E_a1 : Exa Z h0 a1 "java/lang/String") (F_value_a1 : Fld Z h0 a1 "java/lang/String" "value" "[B" .null) (F_coder_a1 : Fld Z h0 a1 "java/lang/String" "coder" "B" (.int 0)) (V_a2 : Arv Z h0 a2 kc .char N (own_tb f) (.int 0)) (O0 : Old Z n0 h0) (S_COMPACT_STRINGS : Sta Z Z.heap "java/lang/String" "COMPACT_STRINGS" "Z" (.int cs)) (hcs : ¬ cs = (0 : Int32)) (hCH : Jvm.Lit.constHeld Z "java/lang/String" 7) (hCW : Jvm.Lit.compactW.before a0 Z = true) (hN : Ix N nn) (hnn : nn ≤ 20) (hrg : own_lt f nn) (hNz : N = (0 : Int32)) (g_a1 : n0 ≤ a1) :
  MetFree l y101 (head1 (Jvm.Cond.code y101 jdk_42_method_3_code 2 none :: ws) (rO 2 2 4 29)) (fun a U => a = #[(.ref a1), (.ref a2)] ∧ Z.Warmed39 U.vm ∧ U.heap = h0 ∧ U.vm.interned = Z.vm.interned) (fun _ _ _ _ _ => True) (fun _ U o U' => ∃ rv Lq, o = .returned rv ∧ Q_rmSi_0 Z a1 a2 cs kc f nn N h0 n0 rv U'.heap Lq ∧ ReturnedEndW U o U' Lq (rO 2 2 4 29).cells (rO 2 2 4 29).slots) := by
 refine MetFree.of_bodySF (plainFor_of_name pn_4) hisR ?_
 intro p e s m args below meth c s₁ Bd hml0 hP hK
 obtain ⟨rfl, hZ, hh, hI⟩ := hP
 have hx := Bd.exec
 have hby := Bd.bytes
 have hml : c.maxLocals = 2 := hml0
 have hown : s.vm.findClass "java/lang/String" = some m.cls := findClass_of_methodNamed Bd.named
 have hnm := (name_of_methodNamed Bd.named Bd.method).1
 have X0 : Stand p l e (rO 2 2 4 29) s m #[(.ref a1), (.ref a2)] below meth c s₁ [] 0 0 := Stand.of_body Bd
 have e0 : s₁.heap = h0 := by rw [← hh, Bd.state]; rfl
 have N0 := Fr.nil n0
 have X0 : Stand p l e (rO 2 2 4 29) (s.setVm s.vm) m #[(.ref a1), (.ref a2)] below meth c s₁ [] 0 0 := X0
 have hS : s.Since s.vm h0.size := (State.WarmedH.refl s).since _
 have hk := Nat.le_refl h0.size
 have hZ : Z.Warmed39 (s.setVm s.vm).vm := hZ
 have hI : (s.setVm s.vm).vm.interned = Z.vm.interned := hI
 have hown : (s.setVm s.vm).vm.findClass "java/lang/String" = some m.cls := hown
 refine of_goW (ef_rmSi_0 m a1 a2) ?_
 refine g_aloadN X0 hx 1 (hb hby d3_0) rfl rfl rfl ?_
 refine g_aloadN X0 hx 2 (hb hby d3_1) rfl rfl rfl ?_
 refine g_iconst X0 hx 3 0 (hb hby d3_2) rfl rfl ?_
 refine g_aloadN X0 hx 4 (hb hby d3_3) rfl rfl rfl ?_
 obtain ⟨cl1, Ar1, qc1, Sz1, Nn1, Hs1, Gf1⟩ := id V_a2
 have hlen1 := X0.arraylength hx (by rw [e0]; exact Ar1.1) (State.isArrayOf_alike hZ.alike Ar1.2.1) (g := (mkF m 4 #[.val (.ref a1), .val (.ref a2)] [(.ref a2), (.int 0), (.ref a2), (.ref a1)])) rfl rfl (hb hby d3_4)
 rw [len_of Sz1 Nn1] at hlen1
 refine gs m s₁ 5 #[.val (.ref a1), .val (.ref a2)] [(.int N), (.int 0), (.ref a2), (.ref a1)] (fun _ kS => hlen1 _ kS) ?_
 refine gs m s₁ 6 #[.val (.ref a1), .val (.ref a2)] [.null, (.int N), (.int 0), (.ref a2), (.ref a1)] (fun _ kS => XS.aconstNull X0.here hx rfl (hb hby d3_5) kS) ?_
 obtain ⟨_, _, ⟨T2, L2, kk2, nn2⟩, -, X2, hS2, hG2, ⟨Lc2, hQ2, lq2, yq2, zq2⟩, st2⟩ := X0.specialBackS hx (y := y100) rfl hown (mvT hZ (tw hw 15 rfl)) (mvT hZ (tw hw 16 rfl)) (mvT hZ (tw hw 18 rfl)) (by decide) (own_backSI (W := 0) (rmSi4_0 l Z a0 hw [] a1 a2 N cs kc f nn h0 n0 Z0 E_a1 F_value_a1 F_coder_a1 V_a2 O0 S_COMPACT_STRINGS hcs hCH hCW hN hnn hrg hNz g_a1) hZ hI (tw hw 18 rfl) (tw hw 11 rfl) (by decide) (by decide)) (g := (mkF m 6 #[.val (.ref a1), .val (.ref a2)] [.null, (.int N), (.int 0), (.ref a2), (.ref a1)])) rfl (by rw [hml]; rfl) (Steps.refl _) (a := a1) (argsL := [(.ref a2), (.int 0), (.int N), .null]) (rest := []) (lenOf pd_1 rfl) rfl (by show 2 * 0 + _ ≤ _; exact Nat.le_of_eq rfl) (hb hby d3_6) (fun _ _ => ⟨rfl, e0, (by decide : 0 + 2 ≤ _), (by decide : 0 + 4 ≤ _)⟩)
 dsimp only [Pt.U, Pt.locs, Pt.cells, Pt.slots] at X2 lq2 yq2 zq2 st2 hQ2 hS2 hG2
 subst yq2 zq2
 rw [e0] at hG2
 obtain ⟨X2, hS, hZ, hown⟩ := rebS hS hk X2 hS2 hG2 hZ hown
 have hk := Nat.le_refl T2.heap.size
 obtain ⟨b_2, kb_2, g_2, rfl, Nq2, Kq2, r2_0, r2_1, r2_2, r2_3⟩ := hQ2
 have N2 : Fr n0 L2 := by rw [lq2]; exact Fr.app N0 Nq2
 have Z3 : n0 ≤ T2.heap.size := Nat.le_trans Z0 Kq2.1
 have O3 : Old Z n0 T2.heap := O0.keep Kq2 (allS g_a1 all0)
 have K3 : Keep h0 T2.heap [a1] := (Keep.refl h0 [a1]).trans Kq2 (allS (Or.inl (List.mem_of_getElem? (i := 0) rfl)) all0)
 refine gs m T2 9 #[.val (.ref a1), .val (.ref a2)] [] (fun _ k => st2.trans k) ?_
 refine goVW hS X2 hk hx Bd.returns Bd.notSynchronized (hb hby d3_9) ?_ (by decide) (by decide)
 show Q_rmSi_0 Z a1 a2 cs kc f nn N h0 n0 _ T2.heap _
 exact ⟨b_2, kb_2, g_2, rfl, N2, K3, r2_0, r2_1, r2_2, r2_3⟩
theorem d4_27 : decode jdk_42_method_149_code 27 = .ok (.getstatic 38, 3) := by decide +kernel
theorem d4_30 : decode jdk_42_method_149_code 30 = .ok (.ifCond .eq 28, 3) := by decide +kernel
theorem d4_33 : decode jdk_42_method_149_code 33 = .ok (.aload_n 1, 1) := by decide +kernel
theorem d4_34 : decode jdk_42_method_149_code 34 = .ok (.iload_n 2, 1) := by decide +kernel
theorem d4_35 : decode jdk_42_method_149_code 35 = .ok (.iload_n 3, 1) := by decide +kernel
theorem d4_36 : decode jdk_42_method_149_code 36 = .ok (.invokestatic 177, 3) := by decide +kernel
theorem pd_2 : parseMethodDescriptor "([CII)[B" = some ⟨[(.array .char), .int, .int], some (.array .byte)⟩ := by decide +kernel
theorem d4_39 : decode jdk_42_method_149_code 39 = .ok (.astore 5, 2) := by decide +kernel
theorem d4_41 : decode jdk_42_method_149_code 41 = .ok (.aload_n 0, 1) := by decide +kernel
theorem d4_42 : decode jdk_42_method_149_code 42 = .ok (.aload 5, 2) := by decide +kernel
theorem d4_44 : decode jdk_42_method_149_code 44 = .ok (.iload_n 3, 1) := by decide +kernel
theorem d4_45 : decode jdk_42_method_149_code 45 = .ok (.invokestatic 47, 3) := by decide +kernel
theorem pd_3 : parseMethodDescriptor "([BI)B" = some ⟨[(.array .byte), .int], some .byte⟩ := by decide +kernel
theorem d4_48 : decode jdk_42_method_149_code 48 = .ok (.putfield 15, 3) := by decide +kernel
theorem d4_51 : decode jdk_42_method_149_code 51 = .ok (.aload_n 0, 1) := by decide +kernel
theorem d4_52 : decode jdk_42_method_149_code 52 = .ok (.aload 5, 2) := by decide +kernel
theorem d4_54 : decode jdk_42_method_149_code 54 = .ok (.putfield 9, 3) := by decide +kernel
theorem d4_57 : decode jdk_42_method_149_code 57 = .ok (.return_, 1) := by decide +kernel
def Q_rmSi4_1 (Z : State) (a1 : Addr) (a2 : Addr) (N : Int32) (cs : Int32) (kc : ClassId) (f : Nat → Int32) (nn : Nat) (h0 : Heap) (n0 : Nat) (rv : Option Value) (hq : Heap) (Lq : List Loc) : Prop := ∃ b : Addr, ∃ kb : ClassId, ∃ g : Nat → Int32, rv = none ∧ Fr n0 Lq ∧ Keep h0 hq [a1] ∧ Fld Z hq a1 "java/lang/String" "value" "[B" (.ref b) ∧ Fld Z hq a1 "java/lang/String" "coder" "B" (.int 0) ∧ Arv Z hq b kb .byte N (own_tb g) (.int 0) ∧ own_by f g nn
theorem rmSi4_1 (l : Launch) (Z : State) (a0 : Array Value) (hw : HW Z a0) (ws : List Jvm.Cond) (a1 : Addr) (a2 : Addr) (N : Int32) (cs : Int32) (kc : ClassId) (f : Nat → Int32) (nn : Nat) (h0 : Heap) (n0 : Nat) (Z0 : n0 ≤ h0.size) (E_a1 : Exa Z h0 a1 "java/lang/String") (F_value_a1 : Fld Z h0 a1 "java/lang/String" "value" "[B" .null) (F_coder_a1 : Fld Z h0 a1 "java/lang/String" "coder" "B" (.int 0)) (V_a2 : Arv Z h0 a2 kc .char N (own_tb f) (.int 0)) (O0 : Old Z n0 h0) (S_COMPACT_STRINGS : Sta Z Z.heap "java/lang/String" "COMPACT_STRINGS" "Z" (.int cs)) (hcs : ¬ cs = (0 : Int32)) (hN : Ix N nn) (hnn : nn ≤ 20) (hrg : own_lt f nn) (hNz : ¬ N = (0 : Int32)) (g_a1 : n0 ≤ a1) :
  MF l y100 jdk_42_method_149_code 6 none ws (rO 2 1 20 35) #[(.ref a1), (.ref a2), (.int 0), (.int N), .null] Z h0 (Q_rmSi4_1 Z a1 a2 N cs kc f nn h0 n0) := by
 refine own_met "java/lang/String" rfl (plainFor_of_name pn_4) (fun m => ef_rmSi4_0 m a1 a2 N) ?_
 intro p e s m below meth c s₁ Bd hx hby hml hown hnm hZ X0 e0
 have N0 := Fr.nil n0
 refine g_aloadN X0 hx 1 (hb hby d4_0) rfl rfl rfl ?_
 obtain ⟨T1, X1, e1, st1⟩ := initO X0 hx hZ hown (tw hw 19 rfl) (tw hw 20 rfl) (tw hw 21 rfl) e0 (g := (mkF m 1 #[.val (.ref a1), .val (.ref a2), .val (.int 0), .val (.int N), .val .null, .unset] [(.ref a1)])) rfl (by rw [hml]; rfl) rfl (hb hby d4_1) (by decide) (W := 0) (by show 2 * 0 + _ ≤ _; exact Nat.le_of_eq rfl) (by decide)
 refine gs m T1 4 #[.val (.ref a1), .val (.ref a2), .val (.int 0), .val (.int N), .val .null, .unset] [] st1 ?_
 refine g_iloadN X1 hx 5 (hb hby d4_4) rfl rfl ?_
 refine g_ifYes X1 hx 27 (hb hby d4_5) ((if0 _ _).trans (feq hNz).2) (by decide) (by decide) ?_
 obtain ⟨T2, X2, e2, st2⟩ := getS2 X1 hx hZ hown (host := "") (Or.inl (tw hw 49 rfl)) Via.refl e1 (S_COMPACT_STRINGS.ext O0.2) (g := (mkF m 27 #[.val (.ref a1), .val (.ref a2), .val (.int 0), .val (.int N), .val .null, .unset] [])) rfl (hb hby d4_27)
 refine gs m T2 30 #[.val (.ref a1), .val (.ref a2), .val (.int 0), .val (.int N), .val .null, .unset] [(.int cs)] st2 ?_
 refine g_ifNo X2 hx 33 (hb hby d4_30) rfl ((if0 _ _).trans (feq hcs).1) ?_
 refine g_aloadN X2 hx 34 (hb hby d4_33) rfl rfl rfl ?_
 refine g_iloadN X2 hx 35 (hb hby d4_34) rfl rfl ?_
 refine g_iloadN X2 hx 36 (hb hby d4_35) rfl rfl ?_
 obtain ⟨_, _, ⟨T3, L3, kk3, nn3⟩, -, X3, ⟨Lc3, hQ3, lq3, yq3, zq3⟩, st3⟩ := Jvm.LawKit.callS X2 hx (y := (⟨"java/lang/StringUTF16", "compress", "([CII)[B"⟩ : MethodName)) hown (mvT hZ (tw hw 74 rfl)) (mvT hZ (tw hw 75 rfl)) (mvT hZ (tw hw 76 rfl)) (mvT hZ (tw hw 77 rfl)) (by decide) (backOf (W := 0) (rmCpB l Z a0 hw [] a2 N kc f nn h0 n0 Z0 V_a2 hN hnn hrg) hZ (tw hw 77 rfl) (tw hw 76 rfl) (by decide) (by decide)) (g := (mkF m 36 #[.val (.ref a1), .val (.ref a2), .val (.int 0), .val (.int N), .val .null, .unset] [(.int N), (.int 0), (.ref a2)])) rfl (by rw [hml]; rfl) (argsL := [(.ref a2), (.int 0), (.int N)]) (rest := []) (lenOf pd_2 rfl) rfl (by show 2 * 0 + _ ≤ _; exact Nat.le_of_eq rfl) (hb hby d4_36) (fun _ _ => ⟨rfl, e2, (by decide : 0 + 1 ≤ _), (by decide : 0 + 20 ≤ _)⟩)
 dsimp only [Pt.U, Pt.locs, Pt.cells, Pt.slots] at X3 lq3 yq3 zq3 st3 hQ3
 subst yq3 zq3
 obtain ⟨b_3, kb_3, g_3, rfl, Nq3, Kq3, r3_0, r3_1, r3_2⟩ := hQ3
 have N3 : Fr n0 L3 := by rw [lq3]; exact Fr.app N0 Nq3
 have g_b_3 : n0 ≤ b_3 := Nat.le_trans Z0 r3_0
 have sz_b_3 : h0.size ≤ b_3 := Nat.le_trans (Keep.refl h0 [a1]).1 r3_0
 have Z4 : n0 ≤ T3.heap.size := Nat.le_trans Z0 Kq3.1
 have O4 : Old Z n0 T3.heap := O0.keep Kq3 all0
 have K4 : Keep h0 T3.heap [a1] := (Keep.refl h0 [a1]).trans Kq3 all0
 refine gs m T3 39 #[.val (.ref a1), .val (.ref a2), .val (.int 0), .val (.int N), .val .null, .unset] [(.ref b_3)] st3 ?_
 refine g_astore X3 hx 41 (hb hby d4_39) rfl rfl (l' := #[.val (.ref a1), .val (.ref a2), .val (.int 0), .val (.int N), .val .null, .val (.ref b_3)]) rfl ?_
 refine g_aloadN X3 hx 42 (hb hby d4_41) rfl rfl rfl ?_
 refine g_aload X3 hx 44 (hb hby d4_42) rfl rfl rfl ?_
 refine g_iloadN X3 hx 45 (hb hby d4_44) rfl rfl ?_
 obtain ⟨_, _, ⟨T5, L5, kk5, nn5⟩, -, X5, ⟨Lc5, hQ5, lq5, yq5, zq5⟩, st5⟩ := Jvm.LawKit.callS X3 hx (y := (⟨"java/lang/StringUTF16", "coderFromArrayLen", "([BI)B"⟩ : MethodName)) hown (mvT hZ (tw hw 81 rfl)) (mvT hZ (tw hw 82 rfl)) (mvT hZ (tw hw 76 rfl)) (mvT hZ (tw hw 83 rfl)) (by decide) (backOf (W := 1) (rmCfl l Z a0 hw [] b_3 N kb_3 (own_tb g_3) T3.heap n0 Z4 r3_1) hZ (tw hw 83 rfl) (tw hw 76 rfl) (by decide) (by decide)) (g := (mkF m 45 #[.val (.ref a1), .val (.ref a2), .val (.int 0), .val (.int N), .val .null, .val (.ref b_3)] [(.int N), (.ref b_3), (.ref a1)])) rfl (by rw [hml]; rfl) (argsL := [(.ref b_3), (.int N)]) (rest := [(.ref a1)]) (lenOf pd_3 rfl) rfl (by show 2 * 0 + _ ≤ _; exact Nat.le_of_eq rfl) (hb hby d4_45) (fun _ _ => ⟨rfl, rfl, (by decide : 1 + 0 ≤ _), (by decide : 20 + 0 ≤ _)⟩)
 dsimp only [Pt.U, Pt.locs, Pt.cells, Pt.slots] at X5 lq5 yq5 zq5 st5 hQ5
 subst yq5 zq5
 obtain ⟨rfl, Nq5, eh5⟩ := hQ5
 have N5 : Fr n0 L5 := by rw [lq5]; exact Fr.app N3 Nq5
 refine gs m T5 48 #[.val (.ref a1), .val (.ref a2), .val (.int 0), .val (.int N), .val .null, .val (.ref b_3)] [(.int 0), (.ref a1)] st5 ?_
 have q6 : Fld Z T3.heap a1 "java/lang/String" "coder" "B" (.int 0) := (F_coder_a1.keep Kq3 nin0)
 have q7 : Exa Z T3.heap a1 "java/lang/String" := (E_a1.keep Kq3)
 obtain ⟨T8, h8, X8, e8, W8, st8⟩ := putFN X5 hx hZ hown (tw hw 29 rfl) Via.refl eh5 q6 q7 (Or.inr ⟨(tw hw 25 rfl), rfl, hnm⟩) (tw hw 10 rfl) (ty := .byte) (v := .int (0 : Int32)) (v' := .int (0 : Int32)) (by decide) rfl (by decide) (g := (mkF m 48 #[.val (.ref a1), .val (.ref a2), .val (.int 0), .val (.int N), .val .null, .val (.ref b_3)] [(.int 0), (.ref a1)])) rfl rfl (hb hby d4_48)
 have N8 := Fr.snoc X8 N5 g_a1
 have Z9 : n0 ≤ h8.size := Nat.le_trans Z4 (Keep.of_wr W8).1
 have O9 : Old Z n0 h8 := O4.wr W8 g_a1
 have K9 : Keep h0 h8 [a1] := K4.wr W8 (Or.inl (List.mem_of_getElem? (i := 0) rfl))
 have Fw8 := q6.same W8
 refine gs m T8 51 #[.val (.ref a1), .val (.ref a2), .val (.int 0), .val (.int N), .val .null, .val (.ref b_3)] [] st8 ?_
 refine g_aloadN X8 hx 52 (hb hby d4_51) rfl rfl rfl ?_
 refine g_aload X8 hx 54 (hb hby d4_52) rfl rfl rfl ?_
 have q10 : Fld Z h8 a1 "java/lang/String" "value" "[B" .null := ((F_value_a1.keep Kq3 nin0).other W8 (Or.inr (slot_ne (Or.inr (tw hw 24 rfl)) (Or.inr (tw hw 25 rfl)) (by decide) (t := (.array .byte)) (t' := .byte) (by decide) (by decide))))
 have q11 : Exa Z h8 a1 "java/lang/String" := (q7.wr W8)
 obtain ⟨T12, h12, X12, e12, W12, st12⟩ := putF X8 hx hZ hown (host := "") (Or.inl (tw hw 28 rfl)) Via.refl e8 q10 q11 (Or.inr ⟨(tw hw 24 rfl), rfl, hnm⟩) (tw hw 10 rfl) (ty := (.array .byte)) (by decide) rfl rfl (g := (mkF m 54 #[.val (.ref a1), .val (.ref a2), .val (.int 0), .val (.int N), .val .null, .val (.ref b_3)] [(.ref b_3), (.ref a1)])) rfl rfl (hb hby d4_54)
 have N12 := Fr.snoc X12 N8 g_a1
 have Z13 : n0 ≤ h12.size := Nat.le_trans Z9 (Keep.of_wr W12).1
 have O13 : Old Z n0 h12 := O9.wr W12 g_a1
 have K13 : Keep h0 h12 [a1] := K9.wr W12 (Or.inl (List.mem_of_getElem? (i := 0) rfl))
 have Fw12 := q10.same W12
 refine gs m T12 57 #[.val (.ref a1), .val (.ref a2), .val (.int 0), .val (.int N), .val .null, .val (.ref b_3)] [] st12 ?_
 refine goV X12 hx Bd.returns Bd.notSynchronized (hb hby d4_57) ?_ (by decide) (by decide)
 show Q_rmSi4_1 Z a1 a2 N cs kc f nn h0 n0 _ T12.heap _
 rw [e12]
 have q14 : Fld Z h12 a1 "java/lang/String" "coder" "B" (.int 0) := (Fw8.other W12 (Or.inr (slot_ne (Or.inr (tw hw 25 rfl)) (Or.inr (tw hw 24 rfl)) (by decide) (t := .byte) (t' := (.array .byte)) (by decide) (by decide))))
 have q15 : Arv Z h12 b_3 kb_3 .byte N (own_tb g_3) (.int 0) := ((r3_1.other W8 (Ne.symm (Nat.ne_of_lt (Nat.lt_of_lt_of_le E_a1.lt r3_0)))).other W12 (Ne.symm (Nat.ne_of_lt (Nat.lt_of_lt_of_le E_a1.lt r3_0))))
 exact ⟨b_3, kb_3, g_3, rfl, N12, K13, Fw12, q14, q15, r3_2⟩
def Q_rmSi_1 (Z : State) (a1 : Addr) (a2 : Addr) (cs : Int32) (kc : ClassId) (f : Nat → Int32) (nn : Nat) (N : Int32) (h0 : Heap) (n0 : Nat) (rv : Option Value) (hq : Heap) (Lq : List Loc) : Prop := ∃ b : Addr, ∃ kb : ClassId, ∃ g : Nat → Int32, rv = none ∧ Fr n0 Lq ∧ Keep h0 hq [a1] ∧ Fld Z hq a1 "java/lang/String" "value" "[B" (.ref b) ∧ Fld Z hq a1 "java/lang/String" "coder" "B" (.int 0) ∧ Arv Z hq b kb .byte N (own_tb g) (.int 0) ∧ own_by f g nn
theorem rmSi_1 (l : Launch) (Z : State) (a0 : Array Value) (hw : HW Z a0) (ws : List Jvm.Cond) (a1 : Addr) (a2 : Addr) (cs : Int32) (kc : ClassId) (f : Nat → Int32) (nn : Nat) (N : Int32) (h0 : Heap) (n0 : Nat) (Z0 : n0 ≤ h0.size) (E_a1 : Exa Z h0 a1 "java/lang/String") (F_value_a1 : Fld Z h0 a1 "java/lang/String" "value" "[B" .null) (F_coder_a1 : Fld Z h0 a1 "java/lang/String" "coder" "B" (.int 0)) (V_a2 : Arv Z h0 a2 kc .char N (own_tb f) (.int 0)) (O0 : Old Z n0 h0) (S_COMPACT_STRINGS : Sta Z Z.heap "java/lang/String" "COMPACT_STRINGS" "Z" (.int cs)) (hcs : ¬ cs = (0 : Int32)) (hN : Ix N nn) (hnn : nn ≤ 20) (hrg : own_lt f nn) (hNz : ¬ N = (0 : Int32)) (g_a1 : n0 ≤ a1) :
  MF l y101 jdk_42_method_3_code 2 none ws (rO 3 1 20 52) #[(.ref a1), (.ref a2)] Z h0 (Q_rmSi_1 Z a1 a2 cs kc f nn N h0 n0) := by
 refine own_met "java/lang/String" rfl (plainFor_of_name pn_4) (fun m => ef_rmSi_0 m a1 a2) ?_
 intro p e s m below meth c s₁ Bd hx hby hml hown hnm hZ X0 e0
 have N0 := Fr.nil n0
 refine g_aloadN X0 hx 1 (hb hby d3_0) rfl rfl rfl ?_
 refine g_aloadN X0 hx 2 (hb hby d3_1) rfl rfl rfl ?_
 refine g_iconst X0 hx 3 0 (hb hby d3_2) rfl rfl ?_
 refine g_aloadN X0 hx 4 (hb hby d3_3) rfl rfl rfl ?_
 obtain ⟨cl1, Ar1, qc1, Sz1, Nn1, Hs1, Gf1⟩ := id V_a2
 have hlen1 := X0.arraylength hx (by rw [e0]; exact Ar1.1) (State.isArrayOf_alike hZ.alike Ar1.2.1) (g := (mkF m 4 #[.val (.ref a1), .val (.ref a2)] [(.ref a2), (.int 0), (.ref a2), (.ref a1)])) rfl rfl (hb hby d3_4)
 rw [len_of Sz1 Nn1] at hlen1
 refine gs m s₁ 5 #[.val (.ref a1), .val (.ref a2)] [(.int N), (.int 0), (.ref a2), (.ref a1)] (fun _ kS => hlen1 _ kS) ?_
 refine gs m s₁ 6 #[.val (.ref a1), .val (.ref a2)] [.null, (.int N), (.int 0), (.ref a2), (.ref a1)] (fun _ kS => XS.aconstNull X0.here hx rfl (hb hby d3_5) kS) ?_
 obtain ⟨_, _, ⟨T2, L2, kk2, nn2⟩, -, X2, ⟨Lc2, hQ2, lq2, yq2, zq2⟩, st2⟩ := X0.specialBack hx (y := y100) rfl hown (mvT hZ (tw hw 15 rfl)) (mvT hZ (tw hw 16 rfl)) (mvT hZ (tw hw 18 rfl)) (by decide) (backOf (W := 0) (rmSi4_1 l Z a0 hw [] a1 a2 N cs kc f nn h0 n0 Z0 E_a1 F_value_a1 F_coder_a1 V_a2 O0 S_COMPACT_STRINGS hcs hN hnn hrg hNz g_a1) hZ (tw hw 18 rfl) (tw hw 11 rfl) (by decide) (by decide)) (g := (mkF m 6 #[.val (.ref a1), .val (.ref a2)] [.null, (.int N), (.int 0), (.ref a2), (.ref a1)])) rfl (by rw [hml]; rfl) (Steps.refl _) (a := a1) (argsL := [(.ref a2), (.int 0), (.int N), .null]) (rest := []) (lenOf pd_1 rfl) rfl (by show 2 * 0 + _ ≤ _; exact Nat.le_of_eq rfl) (hb hby d3_6) (fun _ _ => ⟨rfl, e0, (by decide : 0 + 1 ≤ _), (by decide : 0 + 20 ≤ _)⟩)
 dsimp only [Pt.U, Pt.locs, Pt.cells, Pt.slots] at X2 lq2 yq2 zq2 st2 hQ2
 subst yq2 zq2
 obtain ⟨b_2, kb_2, g_2, rfl, Nq2, Kq2, r2_0, r2_1, r2_2, r2_3⟩ := hQ2
 have N2 : Fr n0 L2 := by rw [lq2]; exact Fr.app N0 Nq2
 have Z3 : n0 ≤ T2.heap.size := Nat.le_trans Z0 Kq2.1
 have O3 : Old Z n0 T2.heap := O0.keep Kq2 (allS g_a1 all0)
 have K3 : Keep h0 T2.heap [a1] := (Keep.refl h0 [a1]).trans Kq2 (allS (Or.inl (List.mem_of_getElem? (i := 0) rfl)) all0)
 refine gs m T2 9 #[.val (.ref a1), .val (.ref a2)] [] (fun _ k => st2.trans k) ?_
 refine goV X2 hx Bd.returns Bd.notSynchronized (hb hby d3_9) ?_ (by decide) (by decide)
 show Q_rmSi_1 Z a1 a2 cs kc f nn N h0 n0 _ T2.heap _
 exact ⟨b_2, kb_2, g_2, rfl, N2, K3, r2_0, r2_1, r2_2, r2_3⟩
theorem d35_0 : decode jdk_116_method_1_code 0 = .ok (.iload_n 1, 1) := by decide +kernel
theorem d35_1 : decode jdk_116_method_1_code 1 = .ok (.i2c, 1) := by decide +kernel
theorem d35_2 : decode jdk_116_method_1_code 2 = .ok (.istore_n 2, 1) := by decide +kernel
theorem d35_3 : decode jdk_116_method_1_code 3 = .ok (.getstatic 1, 3) := by decide +kernel
theorem d35_6 : decode jdk_116_method_1_code 6 = .ok (.iload_n 2, 1) := by decide +kernel
theorem d35_7 : decode jdk_116_method_1_code 7 = .ok (.iaload, 1) := by decide +kernel
theorem d35_8 : decode jdk_116_method_1_code 8 = .ok (.istore_n 3, 1) := by decide +kernel
theorem d35_9 : decode jdk_116_method_1_code 9 = .ok (.iload_n 3, 1) := by decide +kernel
theorem d35_10 : decode jdk_116_method_1_code 10 = .ok (.ireturn, 1) := by decide +kernel
theorem pn_35 : plainName "java/lang/CharacterDataLatin1" = true := by first | (simp [plainName, overriddenIn]; done) | decide +kernel
theorem ef_rmGp (m : MethodId) (a1 : Addr) (p2 : Int32) : entryFrame m #[(.ref a1), (.int p2)] 4 = mkF m 0 #[.val (.ref a1), .val (.int p2), .unset, .unset] [] := by first | (simp [entryFrame, mkF, argsToLocals, Value.category]; done) | rfl
def Q_rmGp (Z : State) (a1 : Addr) (p2 : Int32) (tA : Addr) (kA : ClassId) (h0 : Heap) (n0 : Nat) (rv : Option Value) (hq : Heap) (Lq : List Loc) : Prop := rv = some (.int (own_prop p2)) ∧ Fr n0 Lq ∧ hq = h0
theorem rmGp (l : Launch) (Z : State) (a0 : Array Value) (hw : HW Z a0) (ws : List Jvm.Cond) (a1 : Addr) (p2 : Int32) (tA : Addr) (kA : ClassId) (h0 : Heap) (n0 : Nat) (Z0 : n0 ≤ h0.size) (V_tA : Arv Z h0 tA kA .int (256 : Int32) own_tab (.int 0)) (O0 : Old Z n0 h0) (S_A : Sta Z Z.heap "java/lang/CharacterDataLatin1" "A" "[I" (.ref tA)) (hp : 0 ≤ p2.toInt ∧ p2.toInt ≤ 255) :
  MF l y102 jdk_116_method_1_code 4 (some .int) ws (rO 0 0 0 0) #[(.ref a1), (.int p2)] Z h0 (Q_rmGp Z a1 p2 tA kA h0 n0) := by
 refine own_met "java/lang/CharacterDataLatin1" rfl (plainFor_of_name pn_35) (fun m => ef_rmGp m a1 p2) ?_
 intro p e s m below meth c s₁ Bd hx hby hml hown hnm hZ X0 e0
 have N0 := Fr.nil n0
 refine g_iloadN X0 hx 1 (hb hby d35_0) rfl rfl ?_
 refine gs m s₁ 2 #[.val (.ref a1), .val (.int p2), .unset, .unset] [(.int (p2.toUInt32.toUInt16.toUInt32.toInt32))] (fun _ kS => XS.i2c X0.here hx rfl (hb hby d35_1) rfl kS) ?_
 rw [own_i2c hp]
 refine g_istoreN X0 hx 3 (hb hby d35_2) rfl (l' := #[.val (.ref a1), .val (.int p2), .val (.int p2), .unset]) rfl ?_
 obtain ⟨T1, X1, e1, st1⟩ := getS2 X0 hx hZ hown (host := "") (Or.inl (tw hw 158 rfl)) Via.refl e0 (S_A.ext O0.2) (g := (mkF m 3 #[.val (.ref a1), .val (.int p2), .val (.int p2), .unset] [])) rfl (hb hby d35_3)
 refine gs m T1 6 #[.val (.ref a1), .val (.int p2), .val (.int p2), .unset] [(.ref tA)] st1 ?_
 refine g_iloadN X1 hx 7 (hb hby d35_6) rfl rfl ?_
 obtain ⟨cl2, Ar2, qc2, Sz2, Nn2, Hs2, Gf2⟩ := id V_tA
 have hin3 : ¬ (p2 < 0 ∨ cl2.slots.size ≤ (p2).toNatClampNeg) := (inb_of Sz2 (by exact own_inb hp))
 have hat3 : cl2.slots[(p2).toNatClampNeg]? = some (.int (own_prop p2)) := (Hs2 _ (Nat.lt_of_not_le fun q => hin3 (Or.inr q))).trans (congrArg some (own_tabg _))
 refine gs m T1 8 #[.val (.ref a1), .val (.int p2), .val (.int p2), .unset] [(.int (own_prop p2))] (fun _ kS => X1.iaload hx (j := p2) (v := (.int (own_prop p2))) (by rw [e1]; exact Ar2.1) (State.isArrayOf_alike hZ.alike Ar2.2.1) Ar2.2.2 hin3 hat3 (g := (mkF m 7 #[.val (.ref a1), .val (.int p2), .val (.int p2), .unset] [(.int p2), (.ref tA)])) rfl rfl (hb hby d35_7) _ kS) ?_
 refine g_istoreN X1 hx 9 (hb hby d35_8) rfl (l' := #[.val (.ref a1), .val (.int p2), .val (.int p2), .val (.int (own_prop p2))]) rfl ?_
 refine g_iloadN X1 hx 10 (hb hby d35_9) rfl rfl ?_
 refine goI X1 hx Bd.returns Bd.notSynchronized (hb hby d35_10) ?_ (by decide) (by decide)
 show Q_rmGp Z a1 p2 tA kA h0 n0 _ T1.heap _
 rw [e1]
 exact ⟨rfl, N0, rfl⟩
theorem d34_0 : decode jdk_116_method_26_code 0 = .ok (.aload_n 0, 1) := by decide +kernel
theorem d34_1 : decode jdk_116_method_26_code 1 = .ok (.iload_n 1, 1) := by decide +kernel
theorem d34_2 : decode jdk_116_method_26_code 2 = .ok (.invokevirtual 15, 3) := by decide +kernel
theorem pd_4 : parseMethodDescriptor "(I)I" = some ⟨[.int], some .int⟩ := by decide +kernel
theorem d34_5 : decode jdk_116_method_26_code 5 = .ok (.istore_n 2, 1) := by decide +kernel
theorem d34_6 : decode jdk_116_method_26_code 6 = .ok (.iload_n 2, 1) := by decide +kernel
theorem d34_7 : decode jdk_116_method_26_code 7 = .ok (.sipush 28672, 3) := by decide +kernel
theorem d34_10 : decode jdk_116_method_26_code 10 = .ok (.iand, 1) := by decide +kernel
theorem d34_11 : decode jdk_116_method_26_code 11 = .ok (.sipush 16384, 3) := by decide +kernel
theorem d34_14 : decode jdk_116_method_26_code 14 = .ok (.if_icmp .ne 7, 3) := by decide +kernel
theorem d34_17 : decode jdk_116_method_26_code 17 = .ok (.iconst 1, 1) := by decide +kernel
theorem d34_18 : decode jdk_116_method_26_code 18 = .ok (.goto 4, 3) := by decide +kernel
theorem d34_22 : decode jdk_116_method_26_code 22 = .ok (.ireturn, 1) := by decide +kernel
theorem d34_21 : decode jdk_116_method_26_code 21 = .ok (.iconst 0, 1) := by decide +kernel
theorem ef_rmIw (m : MethodId) (a1 : Addr) (p2 : Int32) : entryFrame m #[(.ref a1), (.int p2)] 3 = mkF m 0 #[.val (.ref a1), .val (.int p2), .unset] [] := by first | (simp [entryFrame, mkF, argsToLocals, Value.category]; done) | rfl
def Q_rmIw (Z : State) (a1 : Addr) (p2 : Int32) (tA : Addr) (kA : ClassId) (h0 : Heap) (n0 : Nat) (rv : Option Value) (hq : Heap) (Lq : List Loc) : Prop := rv = some (.int (own_ws p2)) ∧ Fr n0 Lq ∧ hq = h0
theorem rmIw (l : Launch) (Z : State) (a0 : Array Value) (hw : HW Z a0) (ws : List Jvm.Cond) (a1 : Addr) (p2 : Int32) (tA : Addr) (kA : ClassId) (h0 : Heap) (n0 : Nat) (Z0 : n0 ≤ h0.size) (E_a1 : Exa Z h0 a1 "java/lang/CharacterDataLatin1") (V_tA : Arv Z h0 tA kA .int (256 : Int32) own_tab (.int 0)) (O0 : Old Z n0 h0) (S_A : Sta Z Z.heap "java/lang/CharacterDataLatin1" "A" "[I" (.ref tA)) (hp : 0 ≤ p2.toInt ∧ p2.toInt ≤ 255) :
  MF l y103 jdk_116_method_26_code 3 (some .boolean) ws (rO 1 0 0 15) #[(.ref a1), (.int p2)] Z h0 (Q_rmIw Z a1 p2 tA kA h0 n0) := by
 refine own_met "java/lang/CharacterDataLatin1" rfl (plainFor_of_name pn_35) (fun m => ef_rmIw m a1 p2) ?_
 intro p e s m below meth c s₁ Bd hx hby hml hown hnm hZ X0 e0
 have N0 := Fr.nil n0
 refine g_aloadN X0 hx 1 (hb hby d34_0) rfl rfl rfl ?_
 refine g_iloadN X0 hx 2 (hb hby d34_1) rfl rfl ?_
 obtain ⟨cq1, kq1, q1a, q1b, q1c⟩ := isOf hZ e0 E_a1
 obtain ⟨_, _, ⟨T1, L1, kk1, nn1⟩, -, X1, ⟨Lc1, hQ1, lq1, yq1, zq1⟩, st1⟩ := X0.virtualBack hx (y := y102) (z := y102) hown (mvT hZ (tw hw 153 rfl)) (mvT hZ (tw hw 154 rfl)) (notFace_of_selects (args := #[]) (mvT hZ (tw hw 156 rfl))) (mvT hZ (tw hw 156 rfl)) (mvT hZ (tw hw 155 rfl)) (by decide) (backOf (W := 0) (rmGp l Z a0 hw [] a1 p2 tA kA h0 n0 Z0 V_tA O0 S_A hp) hZ (tw hw 157 rfl) (tw hw 147 rfl) (by decide) (by decide)) q1a q1c (g := (mkF m 2 #[.val (.ref a1), .val (.int p2), .unset] [(.int p2), (.ref a1)])) rfl (by rw [hml]; rfl) (Steps.refl _) (argsL := [(.int p2)]) (rest := []) (lenOf pd_4 rfl) rfl (by show 2 * 0 + _ ≤ _; exact Nat.le_of_eq rfl) (hb hby d34_2) (fun _ _ => ⟨rfl, e0, (by decide : 0 + 0 ≤ _), (by decide : 0 + 0 ≤ _)⟩)
 dsimp only [Pt.U, Pt.locs, Pt.cells, Pt.slots] at X1 lq1 yq1 zq1 st1 hQ1
 subst yq1 zq1
 obtain ⟨rfl, Nq1, eh1⟩ := hQ1
 have N1 : Fr n0 L1 := by rw [lq1]; exact Fr.app N0 Nq1
 refine gs m T1 5 #[.val (.ref a1), .val (.int p2), .unset] [(.int (own_prop p2))] (fun _ k => st1.trans k) ?_
 refine g_istoreN X1 hx 6 (hb hby d34_5) rfl (l' := #[.val (.ref a1), .val (.int p2), .val (.int (own_prop p2))]) rfl ?_
 refine g_iloadN X1 hx 7 (hb hby d34_6) rfl rfl ?_
 refine g_sipush X1 hx 10 28672 (hb hby d34_7) rfl rfl ?_
 refine gs m T1 11 #[.val (.ref a1), .val (.int p2), .val (.int (own_prop p2))] [(.int ((own_prop p2) &&& (28672 : Int32)))] (fun _ kS => XS.iand X1.here hx rfl (hb hby d34_10) rfl kS) ?_
 refine g_sipush X1 hx 14 16384 (hb hby d34_11) rfl rfl ?_
 by_cases hc14 : ((own_prop p2) &&& (28672 : Int32)) = (16384 : Int32)
 ·refine g_icmpNo X1 hx 17 (hb hby d34_14) rfl (teq hc14).2 ?_
  refine g_iconst X1 hx 18 1 (hb hby d34_17) rfl rfl ?_
  refine g_goto X1 hx 22 (hb hby d34_18) (by decide) (by decide) ?_
  refine goN X1 hx (t := .boolean) Bd.returns (by simp) Bd.notSynchronized (hb hby d34_22) ?_ (by decide) (by decide)
  show Q_rmIw Z a1 p2 tA kA h0 n0 _ T1.heap _
  rw [eh1]
  exact ⟨(by rw [own_ws1 ((own_wp hp).mp hc14)]; rfl), N1, rfl⟩
 ·refine g_icmpYes X1 hx 21 (hb hby d34_14) (feq hc14).2 (by decide) (by decide) ?_
  refine g_iconst X1 hx 22 0 (hb hby d34_21) rfl rfl ?_
  refine goN X1 hx (t := .boolean) Bd.returns (by simp) Bd.notSynchronized (hb hby d34_22) ?_ (by decide) (by decide)
  show Q_rmIw Z a1 p2 tA kA h0 n0 _ T1.heap _
  rw [eh1]
  exact ⟨(by rw [own_ws0 (fun q => hc14 ((own_wp hp).mpr q))]; rfl), N1, rfl⟩
theorem d9_0 : decode jdk_42_method_154_code 0 = .ok (.getstatic 38, 3) := by decide +kernel
theorem d9_3 : decode jdk_42_method_154_code 3 = .ok (.ifCond .eq 14, 3) := by decide +kernel
theorem d9_6 : decode jdk_42_method_154_code 6 = .ok (.aload_n 0, 1) := by decide +kernel
theorem d9_7 : decode jdk_42_method_154_code 7 = .ok (.getfield 15, 3) := by decide +kernel
theorem d9_10 : decode jdk_42_method_154_code 10 = .ok (.ifCond .ne 7, 3) := by decide +kernel
theorem d9_13 : decode jdk_42_method_154_code 13 = .ok (.iconst 1, 1) := by decide +kernel
theorem d9_14 : decode jdk_42_method_154_code 14 = .ok (.goto 4, 3) := by decide +kernel
theorem d9_18 : decode jdk_42_method_154_code 18 = .ok (.ireturn, 1) := by decide +kernel
theorem ef_rmIl (m : MethodId) (a1 : Addr) : entryFrame m #[(.ref a1)] 1 = mkF m 0 #[.val (.ref a1)] [] := by first | (simp [entryFrame, mkF, argsToLocals, Value.category]; done) | rfl
def Q_rmIl (Z : State) (a1 : Addr) (cs : Int32) (h0 : Heap) (n0 : Nat) (rv : Option Value) (hq : Heap) (Lq : List Loc) : Prop := rv = some (.int 1) ∧ Fr n0 Lq ∧ hq = h0
theorem rmIl (l : Launch) (Z : State) (a0 : Array Value) (hw : HW Z a0) (ws : List Jvm.Cond) (a1 : Addr) (cs : Int32) (h0 : Heap) (n0 : Nat) (Z0 : n0 ≤ h0.size) (F_coder_a1 : Fld Z h0 a1 "java/lang/String" "coder" "B" (.int 0)) (O0 : Old Z n0 h0) (S_COMPACT_STRINGS : Sta Z Z.heap "java/lang/String" "COMPACT_STRINGS" "Z" (.int cs)) (hcs : ¬ cs = (0 : Int32)) :
  MF l y104 jdk_42_method_154_code 1 (some .boolean) ws (rO 0 0 0 0) #[(.ref a1)] Z h0 (Q_rmIl Z a1 cs h0 n0) := by
 refine own_met "java/lang/String" rfl (plainFor_of_name pn_4) (fun m => ef_rmIl m a1) ?_
 intro p e s m below meth c s₁ Bd hx hby hml hown hnm hZ X0 e0
 have N0 := Fr.nil n0
 obtain ⟨T1, X1, e1, st1⟩ := getS2 X0 hx hZ hown (host := "") (Or.inl (tw hw 49 rfl)) Via.refl e0 (S_COMPACT_STRINGS.ext O0.2) (g := (mkF m 0 #[.val (.ref a1)] [])) rfl (hb hby d9_0)
 refine gs m T1 3 #[.val (.ref a1)] [(.int cs)] st1 ?_
 refine g_ifNo X1 hx 6 (hb hby d9_3) rfl ((if0 _ _).trans (feq hcs).1) ?_
 refine g_aloadN X1 hx 7 (hb hby d9_6) rfl rfl rfl ?_
 obtain ⟨T2, X2, e2, st2⟩ := getF X1 hx hZ hown (host := "") (Or.inl (tw hw 29 rfl)) Via.refl e1 F_coder_a1 (g := (mkF m 7 #[.val (.ref a1)] [(.ref a1)])) rfl rfl (hb hby d9_7)
 refine gs m T2 10 #[.val (.ref a1)] [(.int 0)] st2 ?_
 refine g_ifNo X2 hx 13 (hb hby d9_10) rfl ((if0 _ _).trans (teq (by decide : (0 : Int32) = (0 : Int32))).2) ?_
 refine g_iconst X2 hx 14 1 (hb hby d9_13) rfl rfl ?_
 refine g_goto X2 hx 18 (hb hby d9_14) (by decide) (by decide) ?_
 refine goN X2 hx (t := .boolean) Bd.returns (by simp) Bd.notSynchronized (hb hby d9_18) ?_ (by decide) (by decide)
 show Q_rmIl Z a1 cs h0 n0 _ T2.heap _
 rw [e2]
 exact ⟨rfl, N0, rfl⟩
theorem d11_0 : decode jdk_42_method_152_code 0 = .ok (.getstatic 38, 3) := by decide +kernel
theorem d11_3 : decode jdk_42_method_152_code 3 = .ok (.ifCond .eq 10, 3) := by decide +kernel
theorem d11_6 : decode jdk_42_method_152_code 6 = .ok (.aload_n 0, 1) := by decide +kernel
theorem d11_7 : decode jdk_42_method_152_code 7 = .ok (.getfield 15, 3) := by decide +kernel
theorem d11_10 : decode jdk_42_method_152_code 10 = .ok (.goto 4, 3) := by decide +kernel
theorem d11_14 : decode jdk_42_method_152_code 14 = .ok (.ireturn, 1) := by decide +kernel
def Q_rmCo (Z : State) (a1 : Addr) (cs : Int32) (h0 : Heap) (n0 : Nat) (rv : Option Value) (hq : Heap) (Lq : List Loc) : Prop := rv = some (.int 0) ∧ Fr n0 Lq ∧ hq = h0
theorem rmCo (l : Launch) (Z : State) (a0 : Array Value) (hw : HW Z a0) (ws : List Jvm.Cond) (a1 : Addr) (cs : Int32) (h0 : Heap) (n0 : Nat) (Z0 : n0 ≤ h0.size) (F_coder_a1 : Fld Z h0 a1 "java/lang/String" "coder" "B" (.int 0)) (O0 : Old Z n0 h0) (S_COMPACT_STRINGS : Sta Z Z.heap "java/lang/String" "COMPACT_STRINGS" "Z" (.int cs)) (hcs : ¬ cs = (0 : Int32)) :
  MF l y105 jdk_42_method_152_code 1 (some .byte) ws (rO 0 0 0 0) #[(.ref a1)] Z h0 (Q_rmCo Z a1 cs h0 n0) := by
 refine own_met "java/lang/String" rfl (plainFor_of_name pn_4) (fun m => ef_rmIl m a1) ?_
 intro p e s m below meth c s₁ Bd hx hby hml hown hnm hZ X0 e0
 have N0 := Fr.nil n0
 obtain ⟨T1, X1, e1, st1⟩ := getS2 X0 hx hZ hown (host := "") (Or.inl (tw hw 49 rfl)) Via.refl e0 (S_COMPACT_STRINGS.ext O0.2) (g := (mkF m 0 #[.val (.ref a1)] [])) rfl (hb hby d11_0)
 refine gs m T1 3 #[.val (.ref a1)] [(.int cs)] st1 ?_
 refine g_ifNo X1 hx 6 (hb hby d11_3) rfl ((if0 _ _).trans (feq hcs).1) ?_
 refine g_aloadN X1 hx 7 (hb hby d11_6) rfl rfl rfl ?_
 obtain ⟨T2, X2, e2, st2⟩ := getF X1 hx hZ hown (host := "") (Or.inl (tw hw 29 rfl)) Via.refl e1 F_coder_a1 (g := (mkF m 7 #[.val (.ref a1)] [(.ref a1)])) rfl rfl (hb hby d11_7)
 refine gs m T2 10 #[.val (.ref a1)] [(.int 0)] st2 ?_
 refine g_goto X2 hx 14 (hb hby d11_10) (by decide) (by decide) ?_
 refine goN X2 hx (t := .byte) Bd.returns (by simp) Bd.notSynchronized (hb hby d11_14) ?_ (by decide) (by decide)
 show Q_rmCo Z a1 cs h0 n0 _ T2.heap _
 rw [e2]
 exact ⟨rfl, N0, rfl⟩
theorem d10_0 : decode jdk_42_method_54_code 0 = .ok (.aload_n 0, 1) := by decide +kernel
theorem d10_1 : decode jdk_42_method_54_code 1 = .ok (.getfield 9, 3) := by decide +kernel
theorem d10_4 : decode jdk_42_method_54_code 4 = .ok (.arraylength, 1) := by decide +kernel
theorem d10_5 : decode jdk_42_method_54_code 5 = .ok (.aload_n 0, 1) := by decide +kernel
theorem d10_6 : decode jdk_42_method_54_code 6 = .ok (.invokevirtual 335, 3) := by decide +kernel
theorem pd_5 : parseMethodDescriptor "()B" = some ⟨[], some .byte⟩ := by decide +kernel
theorem d10_9 : decode jdk_42_method_54_code 9 = .ok (.ishr, 1) := by decide +kernel
theorem d10_10 : decode jdk_42_method_54_code 10 = .ok (.ireturn, 1) := by decide +kernel
def Q_rmLn (Z : State) (a1 : Addr) (cs : Int32) (v : Addr) (kb : ClassId) (N : Int32) (vs : List Value) (h0 : Heap) (n0 : Nat) (rv : Option Value) (hq : Heap) (Lq : List Loc) : Prop := rv = some (.int N) ∧ Fr n0 Lq ∧ hq = h0
theorem rmLn (l : Launch) (Z : State) (a0 : Array Value) (hw : HW Z a0) (ws : List Jvm.Cond) (a1 : Addr) (cs : Int32) (v : Addr) (kb : ClassId) (N : Int32) (vs : List Value) (h0 : Heap) (n0 : Nat) (Z0 : n0 ≤ h0.size) (E_a1 : Exa Z h0 a1 "java/lang/String") (F_value_a1 : Fld Z h0 a1 "java/lang/String" "value" "[B" (.ref v)) (F_coder_a1 : Fld Z h0 a1 "java/lang/String" "coder" "B" (.int 0)) (V_v : Arv Z h0 v kb .byte N vs (.int 0)) (O0 : Old Z n0 h0) (S_COMPACT_STRINGS : Sta Z Z.heap "java/lang/String" "COMPACT_STRINGS" "Z" (.int cs)) (hcs : ¬ cs = (0 : Int32)) :
  MF l y106 jdk_42_method_54_code 1 (some .int) ws (rO 1 0 0 13) #[(.ref a1)] Z h0 (Q_rmLn Z a1 cs v kb N vs h0 n0) := by
 refine own_met "java/lang/String" rfl (plainFor_of_name pn_4) (fun m => ef_rmIl m a1) ?_
 intro p e s m below meth c s₁ Bd hx hby hml hown hnm hZ X0 e0
 have N0 := Fr.nil n0
 refine g_aloadN X0 hx 1 (hb hby d10_0) rfl rfl rfl ?_
 obtain ⟨T1, X1, e1, st1⟩ := getF X0 hx hZ hown (host := "") (Or.inl (tw hw 28 rfl)) Via.refl e0 F_value_a1 (g := (mkF m 1 #[.val (.ref a1)] [(.ref a1)])) rfl rfl (hb hby d10_1)
 refine gs m T1 4 #[.val (.ref a1)] [(.ref v)] st1 ?_
 obtain ⟨cl2, Ar2, qc2, Sz2, Nn2, Hs2, Gf2⟩ := id V_v
 have hlen2 := X1.arraylength hx (by rw [e1]; exact Ar2.1) (State.isArrayOf_alike hZ.alike Ar2.2.1) (g := (mkF m 4 #[.val (.ref a1)] [(.ref v)])) rfl rfl (hb hby d10_4)
 rw [len_of Sz2 Nn2] at hlen2
 refine gs m T1 5 #[.val (.ref a1)] [(.int N)] (fun _ kS => hlen2 _ kS) ?_
 refine g_aloadN X1 hx 6 (hb hby d10_5) rfl rfl rfl ?_
 obtain ⟨cq3, kq3, q3a, q3b, q3c⟩ := isOf hZ e1 E_a1
 obtain ⟨_, _, ⟨T3, L3, kk3, nn3⟩, -, X3, ⟨Lc3, hQ3, lq3, yq3, zq3⟩, st3⟩ := X1.virtualBack hx (y := y105) (z := y105) hown (mvT hZ (tw hw 55 rfl)) (mvT hZ (tw hw 56 rfl)) (notFace_of_selects (args := #[]) (mvT hZ (tw hw 58 rfl))) (mvT hZ (tw hw 58 rfl)) (mvT hZ (tw hw 57 rfl)) (by decide) (backOf (W := 1) (rmCo l Z a0 hw [] a1 cs h0 n0 Z0 F_coder_a1 O0 S_COMPACT_STRINGS hcs) hZ (tw hw 59 rfl) (tw hw 11 rfl) (by decide) (by decide)) q3a q3c (g := (mkF m 6 #[.val (.ref a1)] [(.ref a1), (.int N)])) rfl (by rw [hml]; rfl) (Steps.refl _) (argsL := []) (rest := [(.int N)]) (lenOf pd_5 rfl) rfl (by show 2 * 0 + _ ≤ _; exact Nat.le_of_eq rfl) (hb hby d10_6) (fun _ _ => ⟨rfl, e1, (by decide : 0 + 0 ≤ _), (by decide : 0 + 0 ≤ _)⟩)
 dsimp only [Pt.U, Pt.locs, Pt.cells, Pt.slots] at X3 lq3 yq3 zq3 st3 hQ3
 subst yq3 zq3
 obtain ⟨rfl, Nq3, eh3⟩ := hQ3
 have N3 : Fr n0 L3 := by rw [lq3]; exact Fr.app N0 Nq3
 refine gs m T3 9 #[.val (.ref a1)] [(.int 0), (.int N)] (fun _ k => st3.trans k) ?_
 refine gs m T3 10 #[.val (.ref a1)] [(.int (N >>> ((0 : Int32) &&& 31)))] (fun _ kS => XS.ishr X3.here hx rfl (hb hby d10_9) rfl kS) ?_
 refine goI X3 hx Bd.returns Bd.notSynchronized (hb hby d10_10) ?_ (by decide) (by decide)
 show Q_rmLn Z a1 cs v kb N vs h0 n0 _ T3.heap _
 rw [eh3]
 exact ⟨(congrArg (fun z => some (Value.int z)) (own_shr0 N)), N3, rfl⟩
theorem d33_0 : decode jdk_43_method_44_code 0 = .ok (.aload_n 0, 1) := by decide +kernel
theorem d33_1 : decode jdk_43_method_44_code 1 = .ok (.iload_n 1, 1) := by decide +kernel
theorem d33_2 : decode jdk_43_method_44_code 2 = .ok (.baload, 1) := by decide +kernel
theorem d33_3 : decode jdk_43_method_44_code 3 = .ok (.sipush 255, 3) := by decide +kernel
theorem d33_6 : decode jdk_43_method_44_code 6 = .ok (.iand, 1) := by decide +kernel
theorem d33_7 : decode jdk_43_method_44_code 7 = .ok (.i2c, 1) := by decide +kernel
theorem d33_8 : decode jdk_43_method_44_code 8 = .ok (.ireturn, 1) := by decide +kernel
theorem pn_33 : plainName "java/lang/StringLatin1" = true := by first | (simp [plainName, overriddenIn]; done) | decide +kernel
theorem ef_rmGl (m : MethodId) (a1 : Addr) (i : Int32) : entryFrame m #[(.ref a1), (.int i)] 2 = mkF m 0 #[.val (.ref a1), .val (.int i)] [] := by first | (simp [entryFrame, mkF, argsToLocals, Value.category]; done) | rfl
def Q_rmGl (Z : State) (a1 : Addr) (i : Int32) (kb : ClassId) (N : Int32) (g : Nat → Int32) (nn : Nat) (k : Nat) (ch : Int32) (h0 : Heap) (n0 : Nat) (rv : Option Value) (hq : Heap) (Lq : List Loc) : Prop := rv = some (.int ch) ∧ Fr n0 Lq ∧ hq = h0
theorem rmGl (l : Launch) (Z : State) (a0 : Array Value) (hw : HW Z a0) (ws : List Jvm.Cond) (a1 : Addr) (i : Int32) (kb : ClassId) (N : Int32) (g : Nat → Int32) (nn : Nat) (k : Nat) (ch : Int32) (h0 : Heap) (n0 : Nat) (Z0 : n0 ≤ h0.size) (V_a1 : Arv Z h0 a1 kb .byte N (own_tb g) (.int 0)) (hN : Ix N nn) (hnn : nn ≤ 20) (hi : Ix i k) (hk : k < nn) (hgb : g k = ch.toInt8.toInt32) (hr : 0 ≤ ch.toInt ∧ ch.toInt ≤ 255) :
  MF l (⟨"java/lang/StringLatin1", "getChar", "([BI)C"⟩ : MethodName) jdk_43_method_44_code 2 (some .char) ws (rO 0 0 0 0) #[(.ref a1), (.int i)] Z h0 (Q_rmGl Z a1 i kb N g nn k ch h0 n0) := by
 refine own_met "java/lang/StringLatin1" rfl (plainFor_of_name pn_33) (fun m => ef_rmGl m a1 i) ?_
 intro p e s m below meth c s₁ Bd hx hby hml hown hnm hZ X0 e0
 have N0 := Fr.nil n0
 refine g_aloadN X0 hx 1 (hb hby d33_0) rfl rfl rfl ?_
 refine g_iloadN X0 hx 2 (hb hby d33_1) rfl rfl ?_
 obtain ⟨cl1, Ar1, qc1, Sz1, Nn1, Hs1, Gf1⟩ := id V_a1
 have hin2 : ¬ (i < 0 ∨ cl1.slots.size ≤ (i).toNatClampNeg) := (inb_of Sz1 (own_ixb hi hN hk))
 have hat2 : cl1.slots[(i).toNatClampNeg]? = some (.int (ch.toInt8.toInt32)) := (own_atT Hs1 hin2 hi (by omega)).trans (congrArg (fun z => some (Value.int z)) hgb)
 refine gs m s₁ 3 #[.val (.ref a1), .val (.int i)] [(.int (ch.toInt8.toInt32))] (fun _ kS => X0.baloadBytes hx (j := i) (v := (.int (ch.toInt8.toInt32))) (by rw [e0]; exact Ar1.1) (State.isArrayOf_alike hZ.alike Ar1.2.1) Ar1.2.2 hin2 hat2 (g := (mkF m 2 #[.val (.ref a1), .val (.int i)] [(.int i), (.ref a1)])) rfl rfl (hb hby d33_2) _ kS) ?_
 refine g_sipush X0 hx 6 255 (hb hby d33_3) rfl rfl ?_
 refine gs m s₁ 7 #[.val (.ref a1), .val (.int i)] [(.int ((ch.toInt8.toInt32) &&& (255 : Int32)))] (fun _ kS => XS.iand X0.here hx rfl (hb hby d33_6) rfl kS) ?_
 refine gs m s₁ 8 #[.val (.ref a1), .val (.int i)] [(.int (((ch.toInt8.toInt32) &&& (255 : Int32)).toUInt32.toUInt16.toUInt32.toInt32))] (fun _ kS => XS.i2c X0.here hx rfl (hb hby d33_7) rfl kS) ?_
 refine goN X0 hx (t := .char) Bd.returns (by simp) Bd.notSynchronized (hb hby d33_8) ?_ (by decide) (by decide)
 show Q_rmGl Z a1 i kb N g nn k ch h0 n0 _ s₁.heap _
 rw [e0]
 exact ⟨(congrArg (fun z => some (Value.int z)) (own_g8 hr)), N0, rfl⟩
theorem d32_0 : decode jdk_43_method_37_code 0 = .ok (.aload_n 0, 1) := by decide +kernel
theorem d32_1 : decode jdk_43_method_37_code 1 = .ok (.arraylength, 1) := by decide +kernel
theorem d32_2 : decode jdk_43_method_37_code 2 = .ok (.istore_n 1, 1) := by decide +kernel
theorem d32_3 : decode jdk_43_method_37_code 3 = .ok (.iconst 0, 1) := by decide +kernel
theorem d32_4 : decode jdk_43_method_37_code 4 = .ok (.istore_n 2, 1) := by decide +kernel
theorem d32_5 : decode jdk_43_method_37_code 5 = .ok (.iload_n 2, 1) := by decide +kernel
theorem d32_6 : decode jdk_43_method_37_code 6 = .ok (.iload_n 1, 1) := by decide +kernel
theorem d32_7 : decode jdk_43_method_37_code 7 = .ok (.if_icmp .ge 40, 3) := by decide +kernel
theorem d32_10 : decode jdk_43_method_37_code 10 = .ok (.aload_n 0, 1) := by decide +kernel
theorem d32_11 : decode jdk_43_method_37_code 11 = .ok (.iload_n 2, 1) := by decide +kernel
theorem d32_12 : decode jdk_43_method_37_code 12 = .ok (.invokestatic 50, 3) := by decide +kernel
theorem pd_6 : parseMethodDescriptor "([BI)C" = some ⟨[(.array .byte), .int], some .char⟩ := by decide +kernel
theorem d32_15 : decode jdk_43_method_37_code 15 = .ok (.istore_n 3, 1) := by decide +kernel
theorem d32_16 : decode jdk_43_method_37_code 16 = .ok (.iload_n 3, 1) := by decide +kernel
theorem d32_17 : decode jdk_43_method_37_code 17 = .ok (.bipush 32, 2) := by decide +kernel
theorem d32_19 : decode jdk_43_method_37_code 19 = .ok (.if_icmp .eq 22, 3) := by decide +kernel
theorem d32_41 : decode jdk_43_method_37_code 41 = .ok (.iinc 2 1, 3) := by decide +kernel
theorem d32_44 : decode jdk_43_method_37_code 44 = .ok (.goto (-39), 3) := by decide +kernel
theorem d32_22 : decode jdk_43_method_37_code 22 = .ok (.iload_n 3, 1) := by decide +kernel
theorem d32_23 : decode jdk_43_method_37_code 23 = .ok (.bipush 9, 2) := by decide +kernel
theorem d32_25 : decode jdk_43_method_37_code 25 = .ok (.if_icmp .eq 16, 3) := by decide +kernel
theorem d32_28 : decode jdk_43_method_37_code 28 = .ok (.getstatic 66, 3) := by decide +kernel
theorem d32_31 : decode jdk_43_method_37_code 31 = .ok (.iload_n 3, 1) := by decide +kernel
theorem d32_32 : decode jdk_43_method_37_code 32 = .ok (.invokevirtual 211, 3) := by decide +kernel
theorem pd_7 : parseMethodDescriptor "(I)Z" = some ⟨[.int], some .boolean⟩ := by decide +kernel
theorem d32_35 : decode jdk_43_method_37_code 35 = .ok (.ifCond .ne 6, 3) := by decide +kernel
theorem d32_38 : decode jdk_43_method_37_code 38 = .ok (.goto 9, 3) := by decide +kernel
theorem d32_47 : decode jdk_43_method_37_code 47 = .ok (.iload_n 2, 1) := by decide +kernel
theorem d32_48 : decode jdk_43_method_37_code 48 = .ok (.ireturn, 1) := by decide +kernel
theorem ef_rmNw (m : MethodId) (a1 : Addr) : entryFrame m #[(.ref a1)] 4 = mkF m 0 #[.val (.ref a1), .unset, .unset, .unset] [] := by first | (simp [entryFrame, mkF, argsToLocals, Value.category]; done) | rfl
def Q_rmNw (Z : State) (a1 : Addr) (kb : ClassId) (N : Int32) (g : Nat → Int32) (f : Nat → Int32) (nn : Nat) (ci : Addr) (tA : Addr) (kA : ClassId) (h0 : Heap) (n0 : Nat) (rv : Option Value) (hq : Heap) (Lq : List Loc) : Prop := ∃ r : Int32, rv = some (.int r) ∧ Fr n0 Lq ∧ hq = h0 ∧ own_nw f nn r
theorem rmNw (l : Launch) (Z : State) (a0 : Array Value) (hw : HW Z a0) (ws : List Jvm.Cond) (a1 : Addr) (kb : ClassId) (N : Int32) (g : Nat → Int32) (f : Nat → Int32) (nn : Nat) (ci : Addr) (tA : Addr) (kA : ClassId) (h0 : Heap) (n0 : Nat) (Z0 : n0 ≤ h0.size) (V_a1 : Arv Z h0 a1 kb .byte N (own_tb g) (.int 0)) (E_ci : Exa Z h0 ci "java/lang/CharacterDataLatin1") (V_tA : Arv Z h0 tA kA .int (256 : Int32) own_tab (.int 0)) (O0 : Old Z n0 h0) (S_A : Sta Z Z.heap "java/lang/CharacterDataLatin1" "A" "[I" (.ref tA)) (S_instance : Sta Z Z.heap "java/lang/CharacterDataLatin1" "instance" "Ljava/lang/CharacterDataLatin1;" (.ref ci)) (hN : Ix N nn) (hnn : nn ≤ 20) (hrg : own_lt f nn) (hby' : own_by f g nn) :
  MF l (⟨"java/lang/StringLatin1", "indexOfNonWhitespace", "([B)I"⟩ : MethodName) jdk_43_method_37_code 4 (some .int) ws (rO 2 0 0 29) #[(.ref a1)] Z h0 (Q_rmNw Z a1 kb N g f nn ci tA kA h0 n0) := by
 refine own_met "java/lang/StringLatin1" rfl (plainFor_of_name pn_33) (fun m => ef_rmNw m a1) ?_
 intro p e s m below meth c s₁ Bd hx hby hml hown hnm hZ X0 e0
 have N0 := Fr.nil n0
 refine g_aloadN X0 hx 1 (hb hby d32_0) rfl rfl rfl ?_
 obtain ⟨cl1, Ar1, qc1, Sz1, Nn1, Hs1, Gf1⟩ := id V_a1
 have hlen1 := X0.arraylength hx (by rw [e0]; exact Ar1.1) (State.isArrayOf_alike hZ.alike Ar1.2.1) (g := (mkF m 1 #[.val (.ref a1), .unset, .unset, .unset] [(.ref a1)])) rfl rfl (hb hby d32_1)
 rw [len_of Sz1 Nn1] at hlen1
 refine gs m s₁ 2 #[.val (.ref a1), .unset, .unset, .unset] [(.int N)] (fun _ kS => hlen1 _ kS) ?_
 refine g_istoreN X0 hx 3 (hb hby d32_2) rfl (l' := #[.val (.ref a1), .val (.int N), .unset, .unset]) rfl ?_
 refine g_iconst X0 hx 4 0 (hb hby d32_3) rfl rfl ?_
 refine g_istoreN X0 hx 5 (hb hby d32_4) rfl (l' := #[.val (.ref a1), .val (.int N), .val (.int 0), .unset]) rfl ?_
 have J2 : ∀ (km2 : Nat) (i : Int32) (k : Nat) (sl : Slot) (hi : Ix i k) (hkn : k ≤ nn) (hd : ∀ j, j < k → ¬ own_ws (f j) = (0 : Int32)) (hsl : sl = .unset ∨ ∃ x, sl = .val (.int x)) (hm2 : nn - k = km2) (Tj2 : State) (Lj2 : List Loc) (Xj2 : Stand p l e (rO 2 0 0 29) s m #[(.ref a1)] below meth c Tj2 Lj2 0 0) (ej2 : Tj2.heap = h0) (Nj2 : Fr n0 Lj2), Go p e below (Fin1 s below (Q_rmNw Z a1 kb N g f nn ci tA kA h0 n0) (rO 2 0 0 29).cells (rO 2 0 0 29).slots) Tj2 (mkF m 5 #[.val (.ref a1), .val (.int N), .val (.int i), sl] []) := by
  intro km2
  induction km2 using Nat.strongRecOn with
  | ind km2 ih2 =>
   intro i k sl hi hkn hd hsl hm2 Tj2 Lj2 Xj2 ej2 Nj2
   refine g_iloadN Xj2 hx 6 (hb hby d32_5) rfl rfl ?_
   refine g_iloadN Xj2 hx 7 (hb hby d32_6) rfl rfl ?_
   by_cases hc7 : i < N
   ·refine g_icmpNo Xj2 hx 10 (hb hby d32_7) rfl (tlt hc7).2.1 ?_
    have hlt := (own_ixlt hi hN).mp hc7
    refine g_aloadN Xj2 hx 11 (hb hby d32_10) rfl rfl rfl ?_
    refine g_iloadN Xj2 hx 12 (hb hby d32_11) rfl rfl ?_
    obtain ⟨_, _, ⟨T3, L3, kk3, nn3⟩, -, X3, ⟨Lc3, hQ3, lq3, yq3, zq3⟩, st3⟩ := Jvm.LawKit.callS Xj2 hx (y := (⟨"java/lang/StringLatin1", "getChar", "([BI)C"⟩ : MethodName)) hown (mvT hZ (tw hw 143 rfl)) (mvT hZ (tw hw 144 rfl)) (mvT hZ (tw hw 62 rfl)) (mvT hZ (tw hw 145 rfl)) (by decide) (backOf (W := 0) (rmGl l Z a0 hw [] a1 i kb N g nn k (f k) h0 n0 Z0 V_a1 hN hnn hi hlt (hby' k hlt) (hrg k hlt)) hZ (tw hw 145 rfl) (tw hw 62 rfl) (by decide) (by decide)) (g := (mkF m 12 #[.val (.ref a1), .val (.int N), .val (.int i), sl] [(.int i), (.ref a1)])) rfl (by rw [hml]; rfl) (argsL := [(.ref a1), (.int i)]) (rest := []) (lenOf pd_6 rfl) rfl (by show 2 * 0 + _ ≤ _; exact Nat.le_of_eq rfl) (hb hby d32_12) (fun _ _ => ⟨rfl, ej2, (by decide : 0 + 0 ≤ _), (by decide : 0 + 0 ≤ _)⟩)
    dsimp only [Pt.U, Pt.locs, Pt.cells, Pt.slots] at X3 lq3 yq3 zq3 st3 hQ3
    subst yq3 zq3
    obtain ⟨rfl, Nq3, eh3⟩ := hQ3
    have N3 : Fr n0 L3 := by rw [lq3]; exact Fr.app Nj2 Nq3
    refine gs m T3 15 #[.val (.ref a1), .val (.int N), .val (.int i), sl] [(.int (f k))] st3 ?_
    refine gs m T3 16 #[.val (.ref a1), .val (.int N), .val (.int i), .val (.int (f k))] [] (fun _ kS => XS.istoreN X3.here hx rfl (hb hby d32_15) rfl (l' := #[.val (.ref a1), .val (.int N), .val (.int i), .val (.int (f k))]) (by rcases hsl with h | ⟨x, h⟩ <;> rw [h] <;> rfl) kS) ?_
    refine g_iloadN X3 hx 17 (hb hby d32_16) rfl rfl ?_
    refine g_bipush X3 hx 19 32 (hb hby d32_17) rfl rfl ?_
    by_cases hc19 : (f k) = (32 : Int32)
    ·refine g_icmpYes X3 hx 41 (hb hby d32_19) (teq hc19).1 (by decide) (by decide) ?_
     refine gs m T3 44 #[.val (.ref a1), .val (.int N), .val (.int (i + (1 : Int32))), .val (.int (f k))] [] (fun _ kS => XS.iinc X3.here hx rfl (hb hby d32_41) rfl (l' := #[.val (.ref a1), .val (.int N), .val (.int (i + (1 : Int32))), .val (.int (f k))]) rfl kS) ?_
     refine g_goto X3 hx 5 (hb hby d32_44) (by decide) (by decide) ?_
     exact ih2 _ (by omega) (i + (1 : Int32)) (k + 1) (.val (.int (f k))) (own_ixS hi (by omega)) hlt (own_allS hd (own_w32 hc19)) (Or.inr ⟨_, rfl⟩) rfl _ _ X3 eh3 N3
    ·refine g_icmpNo X3 hx 22 (hb hby d32_19) rfl (feq hc19).1 ?_
     refine g_iloadN X3 hx 23 (hb hby d32_22) rfl rfl ?_
     refine g_bipush X3 hx 25 9 (hb hby d32_23) rfl rfl ?_
     by_cases hc25 : (f k) = (9 : Int32)
     ·refine g_icmpYes X3 hx 41 (hb hby d32_25) (teq hc25).1 (by decide) (by decide) ?_
      refine gs m T3 44 #[.val (.ref a1), .val (.int N), .val (.int (i + (1 : Int32))), .val (.int (f k))] [] (fun _ kS => XS.iinc X3.here hx rfl (hb hby d32_41) rfl (l' := #[.val (.ref a1), .val (.int N), .val (.int (i + (1 : Int32))), .val (.int (f k))]) rfl kS) ?_
      refine g_goto X3 hx 5 (hb hby d32_44) (by decide) (by decide) ?_
      exact ih2 _ (by omega) (i + (1 : Int32)) (k + 1) (.val (.int (f k))) (own_ixS hi (by omega)) hlt (own_allS hd (own_w9 hc25)) (Or.inr ⟨_, rfl⟩) rfl _ _ X3 eh3 N3
     ·refine g_icmpNo X3 hx 28 (hb hby d32_25) rfl (feq hc25).1 ?_
      obtain ⟨T4, X4, e4, st4⟩ := getS2 X3 hx hZ hown (host := "") (Or.inl (tw hw 146 rfl)) Via.refl eh3 (S_instance.ext O0.2) (g := (mkF m 28 #[.val (.ref a1), .val (.int N), .val (.int i), .val (.int (f k))] [])) rfl (hb hby d32_28)
      refine gs m T4 31 #[.val (.ref a1), .val (.int N), .val (.int i), .val (.int (f k))] [(.ref ci)] st4 ?_
      refine g_iloadN X4 hx 32 (hb hby d32_31) rfl rfl ?_
      obtain ⟨cq5, kq5, q5a, q5b, q5c⟩ := isOf hZ e4 E_ci
      obtain ⟨_, _, ⟨T5, L5, kk5, nn5⟩, -, X5, ⟨Lc5, hQ5, lq5, yq5, zq5⟩, st5⟩ := X4.virtualBack hx (y := y103) (z := y103) hown (mvT hZ (tw hw 148 rfl)) (mvT hZ (tw hw 149 rfl)) (notFace_of_selects (args := #[]) (mvT hZ (tw hw 151 rfl))) (mvT hZ (tw hw 151 rfl)) (mvT hZ (tw hw 150 rfl)) (by decide) (backOf (W := 0) (rmIw l Z a0 hw [] ci (f k) tA kA h0 n0 Z0 E_ci V_tA O0 S_A (hrg k hlt)) hZ (tw hw 152 rfl) (tw hw 147 rfl) (by decide) (by decide)) q5a q5c (g := (mkF m 32 #[.val (.ref a1), .val (.int N), .val (.int i), .val (.int (f k))] [(.int (f k)), (.ref ci)])) rfl (by rw [hml]; rfl) (Steps.refl _) (argsL := [(.int (f k))]) (rest := []) (lenOf pd_7 rfl) rfl (by show 2 * 0 + _ ≤ _; exact Nat.le_of_eq rfl) (hb hby d32_32) (fun _ _ => ⟨rfl, e4, (by decide : 0 + 0 ≤ _), (by decide : 0 + 0 ≤ _)⟩)
      dsimp only [Pt.U, Pt.locs, Pt.cells, Pt.slots] at X5 lq5 yq5 zq5 st5 hQ5
      subst yq5 zq5
      obtain ⟨rfl, Nq5, eh5⟩ := hQ5
      have N5 : Fr n0 L5 := by rw [lq5]; exact Fr.app N3 Nq5
      refine gs m T5 35 #[.val (.ref a1), .val (.int N), .val (.int i), .val (.int (f k))] [(.int (own_ws (f k)))] (fun _ k => st5.trans k) ?_
      by_cases hc35 : (own_ws (f k)) = (0 : Int32)
      ·refine g_ifNo X5 hx 38 (hb hby d32_35) rfl ((if0 _ _).trans (teq hc35).2) ?_
       refine g_goto X5 hx 47 (hb hby d32_38) (by decide) (by decide) ?_
       refine g_iloadN X5 hx 48 (hb hby d32_47) rfl rfl ?_
       refine goI X5 hx Bd.returns Bd.notSynchronized (hb hby d32_48) ?_ (by decide) (by decide)
       show Q_rmNw Z a1 kb N g f nn ci tA kA h0 n0 _ T5.heap _
       rw [eh5]
       exact ⟨i, rfl, N5, rfl, ⟨k, hi, hkn, hd, Or.inr ⟨hlt, hc35⟩⟩⟩
      ·refine g_ifYes X5 hx 41 (hb hby d32_35) ((if0 _ _).trans (feq hc35).2) (by decide) (by decide) ?_
       refine gs m T5 44 #[.val (.ref a1), .val (.int N), .val (.int (i + (1 : Int32))), .val (.int (f k))] [] (fun _ kS => XS.iinc X5.here hx rfl (hb hby d32_41) rfl (l' := #[.val (.ref a1), .val (.int N), .val (.int (i + (1 : Int32))), .val (.int (f k))]) rfl kS) ?_
       refine g_goto X5 hx 5 (hb hby d32_44) (by decide) (by decide) ?_
       exact ih2 _ (by omega) (i + (1 : Int32)) (k + 1) (.val (.int (f k))) (own_ixS hi (by omega)) hlt (own_allS hd hc35) (Or.inr ⟨_, rfl⟩) rfl _ _ X5 eh5 N5
   ·refine g_icmpYes Xj2 hx 47 (hb hby d32_7) (flt hc7).2.1 (by decide) (by decide) ?_
    refine g_iloadN Xj2 hx 48 (hb hby d32_47) rfl rfl ?_
    refine goI Xj2 hx Bd.returns Bd.notSynchronized (hb hby d32_48) ?_ (by decide) (by decide)
    show Q_rmNw Z a1 kb N g f nn ci tA kA h0 n0 _ Tj2.heap _
    rw [ej2]
    exact ⟨i, rfl, Nj2, rfl, ⟨k, hi, hkn, hd, Or.inl (by have hh : ¬ k < nn := fun q => hc7 ((own_ixlt hi hN).mpr q); omega)⟩⟩
 exact J2 _ (0 : Int32) 0 .unset own_ix0 (Nat.zero_le _) (fun j hj => absurd hj (Nat.not_lt_zero j)) (Or.inl rfl) rfl _ _ X0 e0 N0
theorem d31_0 : decode jdk_42_method_120_code 0 = .ok (.aload_n 0, 1) := by decide +kernel
theorem d31_1 : decode jdk_42_method_120_code 1 = .ok (.invokevirtual 492, 3) := by decide +kernel
theorem pd_8 : parseMethodDescriptor "()Z" = some ⟨[], some .boolean⟩ := by decide +kernel
theorem d31_4 : decode jdk_42_method_120_code 4 = .ok (.ifCond .eq 13, 3) := by decide +kernel
theorem d31_7 : decode jdk_42_method_120_code 7 = .ok (.aload_n 0, 1) := by decide +kernel
theorem d31_8 : decode jdk_42_method_120_code 8 = .ok (.getfield 9, 3) := by decide +kernel
theorem d31_11 : decode jdk_42_method_120_code 11 = .ok (.invokestatic 924, 3) := by decide +kernel
theorem pd_9 : parseMethodDescriptor "([B)I" = some ⟨[(.array .byte)], some .int⟩ := by decide +kernel
theorem d31_14 : decode jdk_42_method_120_code 14 = .ok (.goto 10, 3) := by decide +kernel
theorem d31_24 : decode jdk_42_method_120_code 24 = .ok (.ireturn, 1) := by decide +kernel
def Q_rmNs (Z : State) (a1 : Addr) (cs : Int32) (v : Addr) (kb : ClassId) (N : Int32) (g : Nat → Int32) (f : Nat → Int32) (nn : Nat) (ci : Addr) (tA : Addr) (kA : ClassId) (h0 : Heap) (n0 : Nat) (rv : Option Value) (hq : Heap) (Lq : List Loc) : Prop := ∃ r : Int32, rv = some (.int r) ∧ Fr n0 Lq ∧ hq = h0 ∧ own_nw f nn r
theorem rmNs (l : Launch) (Z : State) (a0 : Array Value) (hw : HW Z a0) (ws : List Jvm.Cond) (a1 : Addr) (cs : Int32) (v : Addr) (kb : ClassId) (N : Int32) (g : Nat → Int32) (f : Nat → Int32) (nn : Nat) (ci : Addr) (tA : Addr) (kA : ClassId) (h0 : Heap) (n0 : Nat) (Z0 : n0 ≤ h0.size) (E_a1 : Exa Z h0 a1 "java/lang/String") (F_value_a1 : Fld Z h0 a1 "java/lang/String" "value" "[B" (.ref v)) (F_coder_a1 : Fld Z h0 a1 "java/lang/String" "coder" "B" (.int 0)) (V_v : Arv Z h0 v kb .byte N (own_tb g) (.int 0)) (E_ci : Exa Z h0 ci "java/lang/CharacterDataLatin1") (V_tA : Arv Z h0 tA kA .int (256 : Int32) own_tab (.int 0)) (O0 : Old Z n0 h0) (S_COMPACT_STRINGS : Sta Z Z.heap "java/lang/String" "COMPACT_STRINGS" "Z" (.int cs)) (hcs : ¬ cs = (0 : Int32)) (S_A : Sta Z Z.heap "java/lang/CharacterDataLatin1" "A" "[I" (.ref tA)) (S_instance : Sta Z Z.heap "java/lang/CharacterDataLatin1" "instance" "Ljava/lang/CharacterDataLatin1;" (.ref ci)) (hN : Ix N nn) (hnn : nn ≤ 20) (hrg : own_lt f nn) (hby' : own_by f g nn) :
  MF l (⟨"java/lang/String", "indexOfNonWhitespace", "()I"⟩ : MethodName) jdk_42_method_120_code 1 (some .int) ws (rO 3 0 0 44) #[(.ref a1)] Z h0 (Q_rmNs Z a1 cs v kb N g f nn ci tA kA h0 n0) := by
 refine own_met "java/lang/String" rfl (plainFor_of_name pn_4) (fun m => ef_rmIl m a1) ?_
 intro p e s m below meth c s₁ Bd hx hby hml hown hnm hZ X0 e0
 have N0 := Fr.nil n0
 refine g_aloadN X0 hx 1 (hb hby d31_0) rfl rfl rfl ?_
 obtain ⟨cq1, kq1, q1a, q1b, q1c⟩ := isOf hZ e0 E_a1
 obtain ⟨_, _, ⟨T1, L1, kk1, nn1⟩, -, X1, ⟨Lc1, hQ1, lq1, yq1, zq1⟩, st1⟩ := X0.virtualBack hx (y := y104) (z := y104) hown (mvT hZ (tw hw 44 rfl)) (mvT hZ (tw hw 45 rfl)) (notFace_of_selects (args := #[]) (mvT hZ (tw hw 47 rfl))) (mvT hZ (tw hw 47 rfl)) (mvT hZ (tw hw 46 rfl)) (by decide) (backOf (W := 0) (rmIl l Z a0 hw [] a1 cs h0 n0 Z0 F_coder_a1 O0 S_COMPACT_STRINGS hcs) hZ (tw hw 48 rfl) (tw hw 11 rfl) (by decide) (by decide)) q1a q1c (g := (mkF m 1 #[.val (.ref a1)] [(.ref a1)])) rfl (by rw [hml]; rfl) (Steps.refl _) (argsL := []) (rest := []) (lenOf pd_8 rfl) rfl (by show 2 * 0 + _ ≤ _; exact Nat.le_of_eq rfl) (hb hby d31_1) (fun _ _ => ⟨rfl, e0, (by decide : 0 + 0 ≤ _), (by decide : 0 + 0 ≤ _)⟩)
 dsimp only [Pt.U, Pt.locs, Pt.cells, Pt.slots] at X1 lq1 yq1 zq1 st1 hQ1
 subst yq1 zq1
 obtain ⟨rfl, Nq1, eh1⟩ := hQ1
 have N1 : Fr n0 L1 := by rw [lq1]; exact Fr.app N0 Nq1
 refine gs m T1 4 #[.val (.ref a1)] [(.int 1)] (fun _ k => st1.trans k) ?_
 refine g_ifNo X1 hx 7 (hb hby d31_4) rfl ((if0 _ _).trans (feq (by decide : ¬ ((1 : Int32) = (0 : Int32)))).1) ?_
 refine g_aloadN X1 hx 8 (hb hby d31_7) rfl rfl rfl ?_
 obtain ⟨T2, X2, e2, st2⟩ := getF X1 hx hZ hown (host := "") (Or.inl (tw hw 28 rfl)) Via.refl eh1 F_value_a1 (g := (mkF m 8 #[.val (.ref a1)] [(.ref a1)])) rfl rfl (hb hby d31_8)
 refine gs m T2 11 #[.val (.ref a1)] [(.ref v)] st2 ?_
 obtain ⟨_, _, ⟨T3, L3, kk3, nn3⟩, -, X3, ⟨Lc3, hQ3, lq3, yq3, zq3⟩, st3⟩ := Jvm.LawKit.callS X2 hx (y := (⟨"java/lang/StringLatin1", "indexOfNonWhitespace", "([B)I"⟩ : MethodName)) hown (mvT hZ (tw hw 140 rfl)) (mvT hZ (tw hw 141 rfl)) (mvT hZ (tw hw 62 rfl)) (mvT hZ (tw hw 142 rfl)) (by decide) (backOf (W := 0) (rmNw l Z a0 hw [] v kb N g f nn ci tA kA h0 n0 Z0 V_v E_ci V_tA O0 S_A S_instance hN hnn hrg hby') hZ (tw hw 142 rfl) (tw hw 62 rfl) (by decide) (by decide)) (g := (mkF m 11 #[.val (.ref a1)] [(.ref v)])) rfl (by rw [hml]; rfl) (argsL := [(.ref v)]) (rest := []) (lenOf pd_9 rfl) rfl (by show 2 * 0 + _ ≤ _; exact Nat.le_of_eq rfl) (hb hby d31_11) (fun _ _ => ⟨rfl, e2, (by decide : 0 + 0 ≤ _), (by decide : 0 + 0 ≤ _)⟩)
 dsimp only [Pt.U, Pt.locs, Pt.cells, Pt.slots] at X3 lq3 yq3 zq3 st3 hQ3
 subst yq3 zq3
 obtain ⟨r_3, rfl, Nq3, eh3, r3_0⟩ := hQ3
 have N3 : Fr n0 L3 := by rw [lq3]; exact Fr.app N1 Nq3
 refine gs m T3 14 #[.val (.ref a1)] [(.int r_3)] st3 ?_
 refine g_goto X3 hx 24 (hb hby d31_14) (by decide) (by decide) ?_
 refine goI X3 hx Bd.returns Bd.notSynchronized (hb hby d31_24) ?_ (by decide) (by decide)
 show Q_rmNs Z a1 cs v kb N g f nn ci tA kA h0 n0 _ T3.heap _
 rw [eh3]
 exact ⟨r_3, rfl, N3, rfl, r3_0⟩
theorem d30_0 : decode jdk_42_method_117_code 0 = .ok (.aload_n 0, 1) := by decide +kernel
theorem d30_1 : decode jdk_42_method_117_code 1 = .ok (.invokevirtual 876, 3) := by decide +kernel
theorem pd_10 : parseMethodDescriptor "()I" = some ⟨[], some .int⟩ := by decide +kernel
theorem d30_4 : decode jdk_42_method_117_code 4 = .ok (.aload_n 0, 1) := by decide +kernel
theorem d30_5 : decode jdk_42_method_117_code 5 = .ok (.invokevirtual 505, 3) := by decide +kernel
theorem d30_8 : decode jdk_42_method_117_code 8 = .ok (.if_icmp .ne 7, 3) := by decide +kernel
theorem d30_11 : decode jdk_42_method_117_code 11 = .ok (.iconst 1, 1) := by decide +kernel
theorem d30_12 : decode jdk_42_method_117_code 12 = .ok (.goto 4, 3) := by decide +kernel
theorem d30_16 : decode jdk_42_method_117_code 16 = .ok (.ireturn, 1) := by decide +kernel
theorem d30_15 : decode jdk_42_method_117_code 15 = .ok (.iconst 0, 1) := by decide +kernel
def Q_rmBl (Z : State) (a1 : Addr) (cs : Int32) (v : Addr) (kb : ClassId) (N : Int32) (g : Nat → Int32) (f : Nat → Int32) (nn : Nat) (ci : Addr) (tA : Addr) (kA : ClassId) (h0 : Heap) (n0 : Nat) (rv : Option Value) (hq : Heap) (Lq : List Loc) : Prop := ∃ r : Int32, rv = some (.int r) ∧ Fr n0 Lq ∧ hq = h0 ∧ own_bk f nn r
theorem rmBl (l : Launch) (Z : State) (a0 : Array Value) (hw : HW Z a0) (ws : List Jvm.Cond) (a1 : Addr) (cs : Int32) (v : Addr) (kb : ClassId) (N : Int32) (g : Nat → Int32) (f : Nat → Int32) (nn : Nat) (ci : Addr) (tA : Addr) (kA : ClassId) (h0 : Heap) (n0 : Nat) (Z0 : n0 ≤ h0.size) (E_a1 : Exa Z h0 a1 "java/lang/String") (F_value_a1 : Fld Z h0 a1 "java/lang/String" "value" "[B" (.ref v)) (F_coder_a1 : Fld Z h0 a1 "java/lang/String" "coder" "B" (.int 0)) (V_v : Arv Z h0 v kb .byte N (own_tb g) (.int 0)) (E_ci : Exa Z h0 ci "java/lang/CharacterDataLatin1") (V_tA : Arv Z h0 tA kA .int (256 : Int32) own_tab (.int 0)) (O0 : Old Z n0 h0) (S_COMPACT_STRINGS : Sta Z Z.heap "java/lang/String" "COMPACT_STRINGS" "Z" (.int cs)) (hcs : ¬ cs = (0 : Int32)) (S_A : Sta Z Z.heap "java/lang/CharacterDataLatin1" "A" "[I" (.ref tA)) (S_instance : Sta Z Z.heap "java/lang/CharacterDataLatin1" "instance" "Ljava/lang/CharacterDataLatin1;" (.ref ci)) (hN : Ix N nn) (hnn : nn ≤ 20) (hrg : own_lt f nn) (hby' : own_by f g nn) :
  MF l y107 jdk_42_method_117_code 1 (some .boolean) ws (rO 4 0 0 56) #[(.ref a1)] Z h0 (Q_rmBl Z a1 cs v kb N g f nn ci tA kA h0 n0) := by
 refine own_met "java/lang/String" rfl (plainFor_of_name pn_4) (fun m => ef_rmIl m a1) ?_
 intro p e s m below meth c s₁ Bd hx hby hml hown hnm hZ X0 e0
 have N0 := Fr.nil n0
 refine g_aloadN X0 hx 1 (hb hby d30_0) rfl rfl rfl ?_
 obtain ⟨cq1, q1, q1'⟩ := E_a1.cell
 obtain ⟨_, _, ⟨T1, L1, kk1, nn1⟩, -, X1, ⟨Lc1, hQ1, lq1, yq1, zq1⟩, st1⟩ := X0.privateBack hx (y := (⟨"java/lang/String", "indexOfNonWhitespace", "()I"⟩ : MethodName)) hown (mvT hZ (tw hw 135 rfl)) (mvT hZ (tw hw 136 rfl)) (mvT hZ (tw hw 138 rfl)) (Cond.privateMethod_at (mvP hZ (tw hw 137 rfl) (args := #[]))) (mvT hZ (tw hw 139 rfl)) (by decide) (backOf (W := 0) (rmNs l Z a0 hw [] a1 cs v kb N g f nn ci tA kA h0 n0 Z0 E_a1 F_value_a1 F_coder_a1 V_v E_ci V_tA O0 S_COMPACT_STRINGS hcs S_A S_instance hN hnn hrg hby') hZ (tw hw 139 rfl) (tw hw 11 rfl) (by decide) (by decide)) (g := (mkF m 1 #[.val (.ref a1)] [(.ref a1)])) rfl (by rw [hml]; rfl) (Steps.refl _) (a := a1) (by rw [e0]; exact q1) q1' (argsL := []) (rest := []) (lenOf pd_10 rfl) rfl (by show 2 * 0 + _ ≤ _; exact Nat.le_of_eq rfl) (hb hby d30_1) (fun _ _ => ⟨rfl, e0, (by decide : 0 + 0 ≤ _), (by decide : 0 + 0 ≤ _)⟩)
 dsimp only [Pt.U, Pt.locs, Pt.cells, Pt.slots] at X1 lq1 yq1 zq1 st1 hQ1
 subst yq1 zq1
 obtain ⟨r_1, rfl, Nq1, eh1, r1_0⟩ := hQ1
 have N1 : Fr n0 L1 := by rw [lq1]; exact Fr.app N0 Nq1
 refine gs m T1 4 #[.val (.ref a1)] [(.int r_1)] (fun _ k => st1.trans k) ?_
 refine g_aloadN X1 hx 5 (hb hby d30_4) rfl rfl rfl ?_
 obtain ⟨cq2, kq2, q2a, q2b, q2c⟩ := isOf hZ eh1 E_a1
 obtain ⟨_, _, ⟨T2, L2, kk2, nn2⟩, -, X2, ⟨Lc2, hQ2, lq2, yq2, zq2⟩, st2⟩ := X1.virtualBack hx (y := y106) (z := y106) hown (mvT hZ (tw hw 50 rfl)) (mvT hZ (tw hw 51 rfl)) (notFace_of_selects (args := #[]) (mvT hZ (tw hw 53 rfl))) (mvT hZ (tw hw 53 rfl)) (mvT hZ (tw hw 52 rfl)) (by decide) (backOf (W := 1) (rmLn l Z a0 hw [] a1 cs v kb N (own_tb g) h0 n0 Z0 E_a1 F_value_a1 F_coder_a1 V_v O0 S_COMPACT_STRINGS hcs) hZ (tw hw 54 rfl) (tw hw 11 rfl) (by decide) (by decide)) q2a q2c (g := (mkF m 5 #[.val (.ref a1)] [(.ref a1), (.int r_1)])) rfl (by rw [hml]; rfl) (Steps.refl _) (argsL := []) (rest := [(.int r_1)]) (lenOf pd_10 rfl) rfl (by show 2 * 0 + _ ≤ _; exact Nat.le_of_eq rfl) (hb hby d30_5) (fun _ _ => ⟨rfl, eh1, (by decide : 0 + 0 ≤ _), (by decide : 0 + 0 ≤ _)⟩)
 dsimp only [Pt.U, Pt.locs, Pt.cells, Pt.slots] at X2 lq2 yq2 zq2 st2 hQ2
 subst yq2 zq2
 obtain ⟨rfl, Nq2, eh2⟩ := hQ2
 have N2 : Fr n0 L2 := by rw [lq2]; exact Fr.app N1 Nq2
 refine gs m T2 8 #[.val (.ref a1)] [(.int N), (.int r_1)] (fun _ k => st2.trans k) ?_
 by_cases hc8 : r_1 = N
 ·refine g_icmpNo X2 hx 11 (hb hby d30_8) rfl (teq hc8).2 ?_
  refine g_iconst X2 hx 12 1 (hb hby d30_11) rfl rfl ?_
  refine g_goto X2 hx 16 (hb hby d30_12) (by decide) (by decide) ?_
  refine goN X2 hx (t := .boolean) Bd.returns (by simp) Bd.notSynchronized (hb hby d30_16) ?_ (by decide) (by decide)
  show Q_rmBl Z a1 cs v kb N g f nn ci tA kA h0 n0 _ T2.heap _
  rw [eh2]
  exact ⟨(1 : Int32), rfl, N2, rfl, (own_bk1 r1_0 hN hc8)⟩
 ·refine g_icmpYes X2 hx 15 (hb hby d30_8) (feq hc8).2 (by decide) (by decide) ?_
  refine g_iconst X2 hx 16 0 (hb hby d30_15) rfl rfl ?_
  refine goN X2 hx (t := .boolean) Bd.returns (by simp) Bd.notSynchronized (hb hby d30_16) ?_ (by decide) (by decide)
  show Q_rmBl Z a1 cs v kb N g f nn ci tA kA h0 n0 _ T2.heap _
  rw [eh2]
  exact ⟨(0 : Int32), rfl, N2, rfl, (own_bk0 r1_0 hN hc8)⟩
theorem d13_0 : decode jdk_43_method_4_code 0 = .ok (.iload_n 0, 1) := by decide +kernel
theorem d13_1 : decode jdk_43_method_4_code 1 = .ok (.ifCond .lt 14, 3) := by decide +kernel
theorem d13_4 : decode jdk_43_method_4_code 4 = .ok (.iload_n 0, 1) := by decide +kernel
theorem d13_5 : decode jdk_43_method_4_code 5 = .ok (.sipush 255, 3) := by decide +kernel
theorem d13_8 : decode jdk_43_method_4_code 8 = .ok (.if_icmp .gt 7, 3) := by decide +kernel
theorem d13_11 : decode jdk_43_method_4_code 11 = .ok (.iconst 1, 1) := by decide +kernel
theorem d13_12 : decode jdk_43_method_4_code 12 = .ok (.goto 4, 3) := by decide +kernel
theorem d13_16 : decode jdk_43_method_4_code 16 = .ok (.ireturn, 1) := by decide +kernel
theorem ef_rmCe (m : MethodId)  : entryFrame m #[(.int 59)] 1 = mkF m 0 #[.val (.int 59)] [] := by first | (simp [entryFrame, mkF, argsToLocals, Value.category]; done) | rfl
def Q_rmCe (Z : State)  (h0 : Heap) (n0 : Nat) (rv : Option Value) (hq : Heap) (Lq : List Loc) : Prop := rv = some (.int 1) ∧ Fr n0 Lq ∧ hq = h0
theorem rmCe (l : Launch) (Z : State) (a0 : Array Value) (hw : HW Z a0) (ws : List Jvm.Cond)  (h0 : Heap) (n0 : Nat) (Z0 : n0 ≤ h0.size) :
  MF l (⟨"java/lang/StringLatin1", "canEncode", "(I)Z"⟩ : MethodName) jdk_43_method_4_code 1 (some .boolean) ws (rO 0 0 0 0) #[(.int 59)] Z h0 (Q_rmCe Z  h0 n0) := by
 refine own_met "java/lang/StringLatin1" rfl (plainFor_of_name pn_33) (fun m => ef_rmCe m) ?_
 intro p e s m below meth c s₁ Bd hx hby hml hown hnm hZ X0 e0
 have N0 := Fr.nil n0
 refine g_iloadN X0 hx 1 (hb hby d13_0) rfl rfl ?_
 refine g_ifNo X0 hx 4 (hb hby d13_1) rfl ((if0 _ _).trans (flt (by decide : ¬ ((59 : Int32) < (0 : Int32)))).1) ?_
 refine g_iloadN X0 hx 5 (hb hby d13_4) rfl rfl ?_
 refine g_sipush X0 hx 8 255 (hb hby d13_5) rfl rfl ?_
 refine g_icmpNo X0 hx 11 (hb hby d13_8) rfl (flt (by decide : ¬ ((255 : Int32) < (59 : Int32)))).2.2.1 ?_
 refine g_iconst X0 hx 12 1 (hb hby d13_11) rfl rfl ?_
 refine g_goto X0 hx 16 (hb hby d13_12) (by decide) (by decide) ?_
 refine goN X0 hx (t := .boolean) Bd.returns (by simp) Bd.notSynchronized (hb hby d13_16) ?_ (by decide) (by decide)
 show Q_rmCe Z  h0 n0 _ s₁.heap _
 rw [e0]
 exact ⟨rfl, N0, rfl⟩
theorem d14_0 : decode jdk_29_method_65_code 0 = .ok (.iload_n 0, 1) := by decide +kernel
theorem d14_1 : decode jdk_29_method_65_code 1 = .ok (.iload_n 1, 1) := by decide +kernel
theorem d14_2 : decode jdk_29_method_65_code 2 = .ok (.if_icmp .lt 7, 3) := by decide +kernel
theorem d14_5 : decode jdk_29_method_65_code 5 = .ok (.iload_n 0, 1) := by decide +kernel
theorem d14_6 : decode jdk_29_method_65_code 6 = .ok (.goto 4, 3) := by decide +kernel
theorem d14_10 : decode jdk_29_method_65_code 10 = .ok (.ireturn, 1) := by decide +kernel
theorem ef_rmMx (m : MethodId)  : entryFrame m #[(.int 0), (.int 0)] 2 = mkF m 0 #[.val (.int 0), .val (.int 0)] [] := by first | (simp [entryFrame, mkF, argsToLocals, Value.category]; done) | rfl
def Q_rmMx (Z : State)  (h0 : Heap) (n0 : Nat) (rv : Option Value) (hq : Heap) (Lq : List Loc) : Prop := rv = some (.int 0) ∧ Fr n0 Lq ∧ hq = h0
theorem rmMx (l : Launch) (Z : State) (a0 : Array Value) (hw : HW Z a0) (ws : List Jvm.Cond)  (h0 : Heap) (n0 : Nat) (Z0 : n0 ≤ h0.size) :
  MF l (⟨"java/lang/Math", "max", "(II)I"⟩ : MethodName) jdk_29_method_65_code 2 (some .int) ws (rO 0 0 0 0) #[(.int 0), (.int 0)] Z h0 (Q_rmMx Z  h0 n0) := by
 refine own_met "java/lang/Math" rfl (Jvm.Free.JP.mathPlain rfl (by decide +kernel)) (fun m => ef_rmMx m) ?_
 intro p e s m below meth c s₁ Bd hx hby hml hown hnm hZ X0 e0
 have N0 := Fr.nil n0
 refine g_iloadN X0 hx 1 (hb hby d14_0) rfl rfl ?_
 refine g_iloadN X0 hx 2 (hb hby d14_1) rfl rfl ?_
 refine g_icmpNo X0 hx 5 (hb hby d14_2) rfl (flt (by decide : ¬ ((0 : Int32) < (0 : Int32)))).1 ?_
 refine g_iloadN X0 hx 6 (hb hby d14_5) rfl rfl ?_
 refine g_goto X0 hx 10 (hb hby d14_6) (by decide) (by decide) ?_
 refine goI X0 hx Bd.returns Bd.notSynchronized (hb hby d14_10) ?_ (by decide) (by decide)
 show Q_rmMx Z  h0 n0 _ s₁.heap _
 rw [e0]
 exact ⟨rfl, N0, rfl⟩
theorem d15_0 : decode jdk_29_method_69_code 0 = .ok (.iload_n 0, 1) := by decide +kernel
theorem d15_1 : decode jdk_29_method_69_code 1 = .ok (.iload_n 1, 1) := by decide +kernel
theorem d15_2 : decode jdk_29_method_69_code 2 = .ok (.if_icmp .gt 7, 3) := by decide +kernel
theorem d15_5 : decode jdk_29_method_69_code 5 = .ok (.iload_n 0, 1) := by decide +kernel
theorem d15_6 : decode jdk_29_method_69_code 6 = .ok (.goto 4, 3) := by decide +kernel
theorem d15_10 : decode jdk_29_method_69_code 10 = .ok (.ireturn, 1) := by decide +kernel
theorem ef_rmMn (m : MethodId) (N : Int32) : entryFrame m #[(.int N), (.int N)] 2 = mkF m 0 #[.val (.int N), .val (.int N)] [] := by first | (simp [entryFrame, mkF, argsToLocals, Value.category]; done) | rfl
def Q_rmMn (Z : State) (N : Int32) (h0 : Heap) (n0 : Nat) (rv : Option Value) (hq : Heap) (Lq : List Loc) : Prop := rv = some (.int N) ∧ Fr n0 Lq ∧ hq = h0
theorem rmMn (l : Launch) (Z : State) (a0 : Array Value) (hw : HW Z a0) (ws : List Jvm.Cond) (N : Int32) (h0 : Heap) (n0 : Nat) (Z0 : n0 ≤ h0.size) :
  MF l y108 jdk_29_method_69_code 2 (some .int) ws (rO 0 0 0 0) #[(.int N), (.int N)] Z h0 (Q_rmMn Z N h0 n0) := by
 refine own_met "java/lang/Math" rfl (Jvm.Free.JP.mathPlain rfl (by decide +kernel)) (fun m => ef_rmMn m N) ?_
 intro p e s m below meth c s₁ Bd hx hby hml hown hnm hZ X0 e0
 have N0 := Fr.nil n0
 refine g_iloadN X0 hx 1 (hb hby d15_0) rfl rfl ?_
 refine g_iloadN X0 hx 2 (hb hby d15_1) rfl rfl ?_
 refine g_icmpNo X0 hx 5 (hb hby d15_2) rfl (flt (fun q => Int32.lt_irrefl q)).2.2.1 ?_
 refine g_iloadN X0 hx 6 (hb hby d15_5) rfl rfl ?_
 refine g_goto X0 hx 10 (hb hby d15_6) (by decide) (by decide) ?_
 refine goI X0 hx Bd.returns Bd.notSynchronized (hb hby d15_10) ?_ (by decide) (by decide)
 show Q_rmMn Z N h0 n0 _ s₁.heap _
 rw [e0]
 exact ⟨rfl, N0, rfl⟩
theorem d19_0 : decode jdk_43_method_23_code 0 = .ok (.iload_n 1, 1) := by decide +kernel
theorem d19_1 : decode jdk_43_method_23_code 1 = .ok (.i2b, 1) := by decide +kernel
theorem d19_2 : decode jdk_43_method_23_code 2 = .ok (.istore 4, 2) := by decide +kernel
theorem d19_4 : decode jdk_43_method_23_code 4 = .ok (.iload_n 2, 1) := by decide +kernel
theorem d19_5 : decode jdk_43_method_23_code 5 = .ok (.istore 5, 2) := by decide +kernel
theorem d19_7 : decode jdk_43_method_23_code 7 = .ok (.iload 5, 2) := by decide +kernel
theorem d19_9 : decode jdk_43_method_23_code 9 = .ok (.iload_n 3, 1) := by decide +kernel
theorem d19_10 : decode jdk_43_method_23_code 10 = .ok (.if_icmp .ge 21, 3) := by decide +kernel
theorem d19_13 : decode jdk_43_method_23_code 13 = .ok (.aload_n 0, 1) := by decide +kernel
theorem d19_14 : decode jdk_43_method_23_code 14 = .ok (.iload 5, 2) := by decide +kernel
theorem d19_16 : decode jdk_43_method_23_code 16 = .ok (.baload, 1) := by decide +kernel
theorem d19_17 : decode jdk_43_method_23_code 17 = .ok (.iload 4, 2) := by decide +kernel
theorem d19_19 : decode jdk_43_method_23_code 19 = .ok (.if_icmp .ne 6, 3) := by decide +kernel
theorem d19_22 : decode jdk_43_method_23_code 22 = .ok (.iload 5, 2) := by decide +kernel
theorem d19_24 : decode jdk_43_method_23_code 24 = .ok (.ireturn, 1) := by decide +kernel
theorem d19_25 : decode jdk_43_method_23_code 25 = .ok (.iinc 5 1, 3) := by decide +kernel
theorem d19_28 : decode jdk_43_method_23_code 28 = .ok (.goto (-21), 3) := by decide +kernel
theorem d19_31 : decode jdk_43_method_23_code 31 = .ok (.iconst (-1), 1) := by decide +kernel
theorem d19_32 : decode jdk_43_method_23_code 32 = .ok (.ireturn, 1) := by decide +kernel
theorem ef_rmIc (m : MethodId) (a1 : Addr) (N : Int32) : entryFrame m #[(.ref a1), (.int 59), (.int 0), (.int N)] 6 = mkF m 0 #[.val (.ref a1), .val (.int 59), .val (.int 0), .val (.int N), .unset, .unset] [] := by first | (simp [entryFrame, mkF, argsToLocals, Value.category]; done) | rfl
def Q_rmIc (Z : State) (a1 : Addr) (N : Int32) (kb : ClassId) (g : Nat → Int32) (f : Nat → Int32) (nn : Nat) (h0 : Heap) (n0 : Nat) (rv : Option Value) (hq : Heap) (Lq : List Loc) : Prop := ∃ r : Int32, rv = some (.int r) ∧ Fr n0 Lq ∧ hq = h0 ∧ own_f59 f nn r
theorem rmIc (l : Launch) (Z : State) (a0 : Array Value) (hw : HW Z a0) (ws : List Jvm.Cond) (a1 : Addr) (N : Int32) (kb : ClassId) (g : Nat → Int32) (f : Nat → Int32) (nn : Nat) (h0 : Heap) (n0 : Nat) (Z0 : n0 ≤ h0.size) (V_a1 : Arv Z h0 a1 kb .byte N (own_tb g) (.int 0)) (hN : Ix N nn) (hnn : nn ≤ 20) (hrg : own_lt f nn) (hby' : own_by f g nn) :
  MF l (⟨"java/lang/StringLatin1", "indexOfChar", "([BIII)I"⟩ : MethodName) jdk_43_method_23_code 6 (some .int) ws (rO 0 0 0 0) #[(.ref a1), (.int 59), (.int 0), (.int N)] Z h0 (Q_rmIc Z a1 N kb g f nn h0 n0) := by
 refine own_met "java/lang/StringLatin1" rfl (plainFor_of_name pn_33) (fun m => ef_rmIc m a1 N) ?_
 intro p e s m below meth c s₁ Bd hx hby hml hown hnm hZ X0 e0
 have N0 := Fr.nil n0
 refine g_iloadN X0 hx 1 (hb hby d19_0) rfl rfl ?_
 refine gs m s₁ 2 #[.val (.ref a1), .val (.int 59), .val (.int 0), .val (.int N), .unset, .unset] [(.int 59)] (fun _ kS => XS.i2b X0.here hx rfl (hb hby d19_1) rfl kS) ?_
 refine g_istore X0 hx 4 (hb hby d19_2) rfl (l' := #[.val (.ref a1), .val (.int 59), .val (.int 0), .val (.int N), .val (.int 59), .unset]) rfl ?_
 refine g_iloadN X0 hx 5 (hb hby d19_4) rfl rfl ?_
 refine g_istore X0 hx 7 (hb hby d19_5) rfl (l' := #[.val (.ref a1), .val (.int 59), .val (.int 0), .val (.int N), .val (.int 59), .val (.int 0)]) rfl ?_
 have J1 : ∀ (km1 : Nat) (i : Int32) (k : Nat) (hi : Ix i k) (hkn : k ≤ nn) (hd : ∀ j, j < k → ¬ f j = (59 : Int32)) (hm1 : nn - k = km1) (Tj1 : State) (Lj1 : List Loc) (Xj1 : Stand p l e (rO 0 0 0 0) s m #[(.ref a1), (.int 59), (.int 0), (.int N)] below meth c Tj1 Lj1 0 0) (ej1 : Tj1.heap = h0) (Nj1 : Fr n0 Lj1), Go p e below (Fin1 s below (Q_rmIc Z a1 N kb g f nn h0 n0) (rO 0 0 0 0).cells (rO 0 0 0 0).slots) Tj1 (mkF m 7 #[.val (.ref a1), .val (.int 59), .val (.int 0), .val (.int N), .val (.int 59), .val (.int i)] []) := by
  intro km1
  induction km1 using Nat.strongRecOn with
  | ind km1 ih1 =>
   intro i k hi hkn hd hm1 Tj1 Lj1 Xj1 ej1 Nj1
   refine g_iload Xj1 hx 9 (hb hby d19_7) rfl rfl ?_
   refine g_iloadN Xj1 hx 10 (hb hby d19_9) rfl rfl ?_
   by_cases hc10 : i < N
   ·refine g_icmpNo Xj1 hx 13 (hb hby d19_10) rfl (tlt hc10).2.1 ?_
    have hlt := (own_ixlt hi hN).mp hc10
    refine g_aloadN Xj1 hx 14 (hb hby d19_13) rfl rfl rfl ?_
    refine g_iload Xj1 hx 16 (hb hby d19_14) rfl rfl ?_
    obtain ⟨cl2, Ar2, qc2, Sz2, Nn2, Hs2, Gf2⟩ := id V_a1
    have hin3 : ¬ (i < 0 ∨ cl2.slots.size ≤ (i).toNatClampNeg) := (inb_of Sz2 (own_ixb hi hN hlt))
    have hat3 : cl2.slots[(i).toNatClampNeg]? = some (.int ((f k).toInt8.toInt32)) := (own_atT Hs2 hin3 hi (by omega)).trans (congrArg (fun z => some (Value.int z)) (hby' k hlt))
    refine gs m Tj1 17 #[.val (.ref a1), .val (.int 59), .val (.int 0), .val (.int N), .val (.int 59), .val (.int i)] [(.int ((f k).toInt8.toInt32))] (fun _ kS => Xj1.baloadBytes hx (j := i) (v := (.int ((f k).toInt8.toInt32))) (by rw [ej1]; exact Ar2.1) (State.isArrayOf_alike hZ.alike Ar2.2.1) Ar2.2.2 hin3 hat3 (g := (mkF m 16 #[.val (.ref a1), .val (.int 59), .val (.int 0), .val (.int N), .val (.int 59), .val (.int i)] [(.int i), (.ref a1)])) rfl rfl (hb hby d19_16) _ kS) ?_
    refine g_iload Xj1 hx 19 (hb hby d19_17) rfl rfl ?_
    by_cases hc19 : ((f k).toInt8.toInt32) = (59 : Int32)
    ·refine g_icmpNo Xj1 hx 22 (hb hby d19_19) rfl (teq hc19).2 ?_
     refine g_iload Xj1 hx 24 (hb hby d19_22) rfl rfl ?_
     refine goI Xj1 hx Bd.returns Bd.notSynchronized (hb hby d19_24) ?_ (by decide) (by decide)
     show Q_rmIc Z a1 N kb g f nn h0 n0 _ Tj1.heap _
     rw [ej1]
     exact ⟨i, rfl, Nj1, rfl, (Or.inr ⟨k, hi, hlt, (own_b59 (hrg k hlt)).mp hc19, hd⟩)⟩
    ·refine g_icmpYes Xj1 hx 25 (hb hby d19_19) (feq hc19).2 (by decide) (by decide) ?_
     refine gs m Tj1 28 #[.val (.ref a1), .val (.int 59), .val (.int 0), .val (.int N), .val (.int 59), .val (.int (i + (1 : Int32)))] [] (fun _ kS => XS.iinc Xj1.here hx rfl (hb hby d19_25) rfl (l' := #[.val (.ref a1), .val (.int 59), .val (.int 0), .val (.int N), .val (.int 59), .val (.int (i + (1 : Int32)))]) rfl kS) ?_
     refine g_goto Xj1 hx 7 (hb hby d19_28) (by decide) (by decide) ?_
     exact ih1 _ (by omega) (i + (1 : Int32)) (k + 1) (own_ixS hi (by omega)) hlt (own_allS hd (fun w => hc19 ((own_b59 (hrg k hlt)).mpr w))) rfl _ _ Xj1 ej1 Nj1
   ·refine g_icmpYes Xj1 hx 31 (hb hby d19_10) (flt hc10).2.1 (by decide) (by decide) ?_
    refine g_iconst Xj1 hx 32 (-1) (hb hby d19_31) rfl rfl ?_
    refine goI Xj1 hx Bd.returns Bd.notSynchronized (hb hby d19_32) ?_ (by decide) (by decide)
    show Q_rmIc Z a1 N kb g f nn h0 n0 _ Tj1.heap _
    rw [ej1]
    exact ⟨(-1 : Int32), rfl, Nj1, rfl, (Or.inl ⟨by decide, fun j hj => hd j (by have hh : ¬ k < nn := fun q => hc10 ((own_ixlt hi hN).mpr q); omega)⟩)⟩
 exact J1 _ (0 : Int32) 0 own_ix0 (Nat.zero_le _) (fun j hj => absurd hj (Nat.not_lt_zero j)) rfl _ _ X0 e0 N0
theorem d12_0 : decode jdk_43_method_22_code 0 = .ok (.iload_n 1, 1) := by decide +kernel
theorem d12_1 : decode jdk_43_method_22_code 1 = .ok (.invokestatic 88, 3) := by decide +kernel
theorem d12_4 : decode jdk_43_method_22_code 4 = .ok (.ifCond .ne 5, 3) := by decide +kernel
theorem d12_9 : decode jdk_43_method_22_code 9 = .ok (.iload_n 2, 1) := by decide +kernel
theorem d12_10 : decode jdk_43_method_22_code 10 = .ok (.iconst 0, 1) := by decide +kernel
theorem d12_11 : decode jdk_43_method_22_code 11 = .ok (.invokestatic 92, 3) := by decide +kernel
theorem pd_11 : parseMethodDescriptor "(II)I" = some ⟨[.int, .int], some .int⟩ := by decide +kernel
theorem d12_14 : decode jdk_43_method_22_code 14 = .ok (.istore_n 2, 1) := by decide +kernel
theorem d12_15 : decode jdk_43_method_22_code 15 = .ok (.iload_n 3, 1) := by decide +kernel
theorem d12_16 : decode jdk_43_method_22_code 16 = .ok (.aload_n 0, 1) := by decide +kernel
theorem d12_17 : decode jdk_43_method_22_code 17 = .ok (.arraylength, 1) := by decide +kernel
theorem d12_18 : decode jdk_43_method_22_code 18 = .ok (.invokestatic 38, 3) := by decide +kernel
theorem d12_21 : decode jdk_43_method_22_code 21 = .ok (.istore_n 3, 1) := by decide +kernel
theorem d12_22 : decode jdk_43_method_22_code 22 = .ok (.iload_n 2, 1) := by decide +kernel
theorem d12_23 : decode jdk_43_method_22_code 23 = .ok (.iload_n 3, 1) := by decide +kernel
theorem d12_24 : decode jdk_43_method_22_code 24 = .ok (.if_icmp .lt 5, 3) := by decide +kernel
theorem d12_29 : decode jdk_43_method_22_code 29 = .ok (.aload_n 0, 1) := by decide +kernel
theorem d12_30 : decode jdk_43_method_22_code 30 = .ok (.iload_n 1, 1) := by decide +kernel
theorem d12_31 : decode jdk_43_method_22_code 31 = .ok (.iload_n 2, 1) := by decide +kernel
theorem d12_32 : decode jdk_43_method_22_code 32 = .ok (.iload_n 3, 1) := by decide +kernel
theorem d12_33 : decode jdk_43_method_22_code 33 = .ok (.invokestatic 95, 3) := by decide +kernel
theorem pd_12 : parseMethodDescriptor "([BIII)I" = some ⟨[(.array .byte), .int, .int, .int], some .int⟩ := by decide +kernel
theorem d12_36 : decode jdk_43_method_22_code 36 = .ok (.ireturn, 1) := by decide +kernel
theorem d12_27 : decode jdk_43_method_22_code 27 = .ok (.iconst (-1), 1) := by decide +kernel
theorem d12_28 : decode jdk_43_method_22_code 28 = .ok (.ireturn, 1) := by decide +kernel
theorem ef_rmIx (m : MethodId) (a1 : Addr) (N : Int32) : entryFrame m #[(.ref a1), (.int 59), (.int 0), (.int N)] 4 = mkF m 0 #[.val (.ref a1), .val (.int 59), .val (.int 0), .val (.int N)] [] := by first | (simp [entryFrame, mkF, argsToLocals, Value.category]; done) | rfl
def Q_rmIx (Z : State) (a1 : Addr) (N : Int32) (kb : ClassId) (g : Nat → Int32) (f : Nat → Int32) (nn : Nat) (h0 : Heap) (n0 : Nat) (rv : Option Value) (hq : Heap) (Lq : List Loc) : Prop := ∃ r : Int32, rv = some (.int r) ∧ Fr n0 Lq ∧ hq = h0 ∧ own_f59 f nn r
theorem rmIx (l : Launch) (Z : State) (a0 : Array Value) (hw : HW Z a0) (ws : List Jvm.Cond) (a1 : Addr) (N : Int32) (kb : ClassId) (g : Nat → Int32) (f : Nat → Int32) (nn : Nat) (h0 : Heap) (n0 : Nat) (Z0 : n0 ≤ h0.size) (V_a1 : Arv Z h0 a1 kb .byte N (own_tb g) (.int 0)) (hN : Ix N nn) (hnn : nn ≤ 20) (hrg : own_lt f nn) (hby' : own_by f g nn) :
  MF l (⟨"java/lang/StringLatin1", "indexOf", "([BIII)I"⟩ : MethodName) jdk_43_method_22_code 4 (some .int) ws (rO 1 0 0 17) #[(.ref a1), (.int 59), (.int 0), (.int N)] Z h0 (Q_rmIx Z a1 N kb g f nn h0 n0) := by
 refine own_met "java/lang/StringLatin1" rfl (plainFor_of_name pn_33) (fun m => ef_rmIx m a1 N) ?_
 intro p e s m below meth c s₁ Bd hx hby hml hown hnm hZ X0 e0
 have N0 := Fr.nil n0
 refine g_iloadN X0 hx 1 (hb hby d12_0) rfl rfl ?_
 obtain ⟨_, _, ⟨T1, L1, kk1, nn1⟩, -, X1, ⟨Lc1, hQ1, lq1, yq1, zq1⟩, st1⟩ := Jvm.LawKit.callS X0 hx (y := (⟨"java/lang/StringLatin1", "canEncode", "(I)Z"⟩ : MethodName)) hown (mvT hZ (tw hw 64 rfl)) (mvT hZ (tw hw 65 rfl)) (mvT hZ (tw hw 62 rfl)) (mvT hZ (tw hw 66 rfl)) (by decide) (backOf (W := 0) (rmCe l Z a0 hw []  h0 n0 Z0 ) hZ (tw hw 66 rfl) (tw hw 62 rfl) (by decide) (by decide)) (g := (mkF m 1 #[.val (.ref a1), .val (.int 59), .val (.int 0), .val (.int N)] [(.int 59)])) rfl (by rw [hml]; rfl) (argsL := [(.int 59)]) (rest := []) (lenOf pd_7 rfl) rfl (by show 2 * 0 + _ ≤ _; exact Nat.le_of_eq rfl) (hb hby d12_1) (fun _ _ => ⟨rfl, e0, (by decide : 0 + 0 ≤ _), (by decide : 0 + 0 ≤ _)⟩)
 dsimp only [Pt.U, Pt.locs, Pt.cells, Pt.slots] at X1 lq1 yq1 zq1 st1 hQ1
 subst yq1 zq1
 obtain ⟨rfl, Nq1, eh1⟩ := hQ1
 have N1 : Fr n0 L1 := by rw [lq1]; exact Fr.app N0 Nq1
 refine gs m T1 4 #[.val (.ref a1), .val (.int 59), .val (.int 0), .val (.int N)] [(.int 1)] st1 ?_
 refine g_ifYes X1 hx 9 (hb hby d12_4) ((if0 _ _).trans (feq (by decide : ¬ ((1 : Int32) = (0 : Int32)))).2) (by decide) (by decide) ?_
 refine g_iloadN X1 hx 10 (hb hby d12_9) rfl rfl ?_
 refine g_iconst X1 hx 11 0 (hb hby d12_10) rfl rfl ?_
 obtain ⟨_, _, ⟨T2, L2, kk2, nn2⟩, -, X2, ⟨Lc2, hQ2, lq2, yq2, zq2⟩, st2⟩ := Jvm.LawKit.callS X1 hx (y := (⟨"java/lang/Math", "max", "(II)I"⟩ : MethodName)) hown (mvT hZ (tw hw 67 rfl)) (mvT hZ (tw hw 68 rfl)) (mvT hZ (tw hw 69 rfl)) (mvT hZ (tw hw 70 rfl)) (by decide) (backOf (W := 0) (rmMx l Z a0 hw []  h0 n0 Z0 ) hZ (tw hw 70 rfl) (tw hw 69 rfl) (by decide) (by decide)) (g := (mkF m 11 #[.val (.ref a1), .val (.int 59), .val (.int 0), .val (.int N)] [(.int 0), (.int 0)])) rfl (by rw [hml]; rfl) (argsL := [(.int 0), (.int 0)]) (rest := []) (lenOf pd_11 rfl) rfl (by show 2 * 0 + _ ≤ _; exact Nat.le_of_eq rfl) (hb hby d12_11) (fun _ _ => ⟨rfl, eh1, (by decide : 0 + 0 ≤ _), (by decide : 0 + 0 ≤ _)⟩)
 dsimp only [Pt.U, Pt.locs, Pt.cells, Pt.slots] at X2 lq2 yq2 zq2 st2 hQ2
 subst yq2 zq2
 obtain ⟨rfl, Nq2, eh2⟩ := hQ2
 have N2 : Fr n0 L2 := by rw [lq2]; exact Fr.app N1 Nq2
 refine gs m T2 14 #[.val (.ref a1), .val (.int 59), .val (.int 0), .val (.int N)] [(.int 0)] st2 ?_
 refine g_istoreN X2 hx 15 (hb hby d12_14) rfl (l' := #[.val (.ref a1), .val (.int 59), .val (.int 0), .val (.int N)]) rfl ?_
 refine g_iloadN X2 hx 16 (hb hby d12_15) rfl rfl ?_
 refine g_aloadN X2 hx 17 (hb hby d12_16) rfl rfl rfl ?_
 obtain ⟨cl3, Ar3, qc3, Sz3, Nn3, Hs3, Gf3⟩ := id V_a1
 have hlen3 := X2.arraylength hx (by rw [eh2]; exact Ar3.1) (State.isArrayOf_alike hZ.alike Ar3.2.1) (g := (mkF m 17 #[.val (.ref a1), .val (.int 59), .val (.int 0), .val (.int N)] [(.ref a1), (.int N)])) rfl rfl (hb hby d12_17)
 rw [len_of Sz3 Nn3] at hlen3
 refine gs m T2 18 #[.val (.ref a1), .val (.int 59), .val (.int 0), .val (.int N)] [(.int N), (.int N)] (fun _ kS => hlen3 _ kS) ?_
 obtain ⟨_, _, ⟨T4, L4, kk4, nn4⟩, -, X4, ⟨Lc4, hQ4, lq4, yq4, zq4⟩, st4⟩ := Jvm.LawKit.callS X2 hx (y := y108) hown (mvT hZ (tw hw 71 rfl)) (mvT hZ (tw hw 72 rfl)) (mvT hZ (tw hw 69 rfl)) (mvT hZ (tw hw 73 rfl)) (by decide) (backOf (W := 0) (rmMn l Z a0 hw [] N h0 n0 Z0 ) hZ (tw hw 73 rfl) (tw hw 69 rfl) (by decide) (by decide)) (g := (mkF m 18 #[.val (.ref a1), .val (.int 59), .val (.int 0), .val (.int N)] [(.int N), (.int N)])) rfl (by rw [hml]; rfl) (argsL := [(.int N), (.int N)]) (rest := []) (lenOf pd_11 rfl) rfl (by show 2 * 0 + _ ≤ _; exact Nat.le_of_eq rfl) (hb hby d12_18) (fun _ _ => ⟨rfl, eh2, (by decide : 0 + 0 ≤ _), (by decide : 0 + 0 ≤ _)⟩)
 dsimp only [Pt.U, Pt.locs, Pt.cells, Pt.slots] at X4 lq4 yq4 zq4 st4 hQ4
 subst yq4 zq4
 obtain ⟨rfl, Nq4, eh4⟩ := hQ4
 have N4 : Fr n0 L4 := by rw [lq4]; exact Fr.app N2 Nq4
 refine gs m T4 21 #[.val (.ref a1), .val (.int 59), .val (.int 0), .val (.int N)] [(.int N)] st4 ?_
 refine g_istoreN X4 hx 22 (hb hby d12_21) rfl (l' := #[.val (.ref a1), .val (.int 59), .val (.int 0), .val (.int N)]) rfl ?_
 refine g_iloadN X4 hx 23 (hb hby d12_22) rfl rfl ?_
 refine g_iloadN X4 hx 24 (hb hby d12_23) rfl rfl ?_
 by_cases hc24 : (0 : Int32) < N
 ·refine g_icmpYes X4 hx 29 (hb hby d12_24) (tlt hc24).1 (by decide) (by decide) ?_
  refine g_aloadN X4 hx 30 (hb hby d12_29) rfl rfl rfl ?_
  refine g_iloadN X4 hx 31 (hb hby d12_30) rfl rfl ?_
  refine g_iloadN X4 hx 32 (hb hby d12_31) rfl rfl ?_
  refine g_iloadN X4 hx 33 (hb hby d12_32) rfl rfl ?_
  obtain ⟨_, _, ⟨T5, L5, kk5, nn5⟩, -, X5, ⟨Lc5, hQ5, lq5, yq5, zq5⟩, st5⟩ := Jvm.LawKit.callS X4 hx (y := (⟨"java/lang/StringLatin1", "indexOfChar", "([BIII)I"⟩ : MethodName)) hown (mvT hZ (tw hw 84 rfl)) (mvT hZ (tw hw 85 rfl)) (mvT hZ (tw hw 62 rfl)) (mvT hZ (tw hw 86 rfl)) (by decide) (backOf (W := 0) (rmIc l Z a0 hw [] a1 N kb g f nn h0 n0 Z0 V_a1 hN hnn hrg hby') hZ (tw hw 86 rfl) (tw hw 62 rfl) (by decide) (by decide)) (g := (mkF m 33 #[.val (.ref a1), .val (.int 59), .val (.int 0), .val (.int N)] [(.int N), (.int 0), (.int 59), (.ref a1)])) rfl (by rw [hml]; rfl) (argsL := [(.ref a1), (.int 59), (.int 0), (.int N)]) (rest := []) (lenOf pd_12 rfl) rfl (by show 2 * 0 + _ ≤ _; exact Nat.le_of_eq rfl) (hb hby d12_33) (fun _ _ => ⟨rfl, eh4, (by decide : 0 + 0 ≤ _), (by decide : 0 + 0 ≤ _)⟩)
  dsimp only [Pt.U, Pt.locs, Pt.cells, Pt.slots] at X5 lq5 yq5 zq5 st5 hQ5
  subst yq5 zq5
  obtain ⟨r_5, rfl, Nq5, eh5, r5_0⟩ := hQ5
  have N5 : Fr n0 L5 := by rw [lq5]; exact Fr.app N4 Nq5
  refine gs m T5 36 #[.val (.ref a1), .val (.int 59), .val (.int 0), .val (.int N)] [(.int r_5)] st5 ?_
  refine goI X5 hx Bd.returns Bd.notSynchronized (hb hby d12_36) ?_ (by decide) (by decide)
  show Q_rmIx Z a1 N kb g f nn h0 n0 _ T5.heap _
  rw [eh5]
  exact ⟨r_5, rfl, N5, rfl, r5_0⟩
 ·refine g_icmpNo X4 hx 27 (hb hby d12_24) rfl (flt hc24).1 ?_
  refine g_iconst X4 hx 28 (-1) (hb hby d12_27) rfl rfl ?_
  refine goI X4 hx Bd.returns Bd.notSynchronized (hb hby d12_28) ?_ (by decide) (by decide)
  show Q_rmIx Z a1 N kb g f nn h0 n0 _ T4.heap _
  rw [eh4]
  exact ⟨(-1 : Int32), rfl, N4, rfl, (Or.inl ⟨by decide, fun j hj => absurd hj (by have hh : ¬ 0 < nn := fun q => hc24 ((own_ixlt own_ix0 hN).mpr q); omega)⟩)⟩
theorem d8_0 : decode jdk_42_method_80_code 0 = .ok (.aload_n 0, 1) := by decide +kernel
theorem d8_1 : decode jdk_42_method_80_code 1 = .ok (.invokevirtual 492, 3) := by decide +kernel
theorem d8_4 : decode jdk_42_method_80_code 4 = .ok (.ifCond .eq 19, 3) := by decide +kernel
theorem d8_7 : decode jdk_42_method_80_code 7 = .ok (.aload_n 0, 1) := by decide +kernel
theorem d8_8 : decode jdk_42_method_80_code 8 = .ok (.getfield 9, 3) := by decide +kernel
theorem d8_11 : decode jdk_42_method_80_code 11 = .ok (.iload_n 1, 1) := by decide +kernel
theorem d8_12 : decode jdk_42_method_80_code 12 = .ok (.iload_n 2, 1) := by decide +kernel
theorem d8_13 : decode jdk_42_method_80_code 13 = .ok (.aload_n 0, 1) := by decide +kernel
theorem d8_14 : decode jdk_42_method_80_code 14 = .ok (.invokevirtual 505, 3) := by decide +kernel
theorem d8_17 : decode jdk_42_method_80_code 17 = .ok (.invokestatic 637, 3) := by decide +kernel
theorem d8_20 : decode jdk_42_method_80_code 20 = .ok (.goto 16, 3) := by decide +kernel
theorem d8_36 : decode jdk_42_method_80_code 36 = .ok (.ireturn, 1) := by decide +kernel
theorem ef_rmIy (m : MethodId) (a1 : Addr) : entryFrame m #[(.ref a1), (.int 59), (.int 0)] 3 = mkF m 0 #[.val (.ref a1), .val (.int 59), .val (.int 0)] [] := by first | (simp [entryFrame, mkF, argsToLocals, Value.category]; done) | rfl
def Q_rmIy (Z : State) (a1 : Addr) (cs : Int32) (v : Addr) (kb : ClassId) (N : Int32) (g : Nat → Int32) (f : Nat → Int32) (nn : Nat) (h0 : Heap) (n0 : Nat) (rv : Option Value) (hq : Heap) (Lq : List Loc) : Prop := ∃ r : Int32, rv = some (.int r) ∧ Fr n0 Lq ∧ hq = h0 ∧ own_f59 f nn r
theorem rmIy (l : Launch) (Z : State) (a0 : Array Value) (hw : HW Z a0) (ws : List Jvm.Cond) (a1 : Addr) (cs : Int32) (v : Addr) (kb : ClassId) (N : Int32) (g : Nat → Int32) (f : Nat → Int32) (nn : Nat) (h0 : Heap) (n0 : Nat) (Z0 : n0 ≤ h0.size) (E_a1 : Exa Z h0 a1 "java/lang/String") (F_value_a1 : Fld Z h0 a1 "java/lang/String" "value" "[B" (.ref v)) (F_coder_a1 : Fld Z h0 a1 "java/lang/String" "coder" "B" (.int 0)) (V_v : Arv Z h0 v kb .byte N (own_tb g) (.int 0)) (O0 : Old Z n0 h0) (S_COMPACT_STRINGS : Sta Z Z.heap "java/lang/String" "COMPACT_STRINGS" "Z" (.int cs)) (hcs : ¬ cs = (0 : Int32)) (hN : Ix N nn) (hnn : nn ≤ 20) (hrg : own_lt f nn) (hby' : own_by f g nn) :
  MF l y109 jdk_42_method_80_code 3 (some .int) ws (rO 2 0 0 32) #[(.ref a1), (.int 59), (.int 0)] Z h0 (Q_rmIy Z a1 cs v kb N g f nn h0 n0) := by
 refine own_met "java/lang/String" rfl (plainFor_of_name pn_4) (fun m => ef_rmIy m a1) ?_
 intro p e s m below meth c s₁ Bd hx hby hml hown hnm hZ X0 e0
 have N0 := Fr.nil n0
 refine g_aloadN X0 hx 1 (hb hby d8_0) rfl rfl rfl ?_
 obtain ⟨cq1, kq1, q1a, q1b, q1c⟩ := isOf hZ e0 E_a1
 obtain ⟨_, _, ⟨T1, L1, kk1, nn1⟩, -, X1, ⟨Lc1, hQ1, lq1, yq1, zq1⟩, st1⟩ := X0.virtualBack hx (y := y104) (z := y104) hown (mvT hZ (tw hw 44 rfl)) (mvT hZ (tw hw 45 rfl)) (notFace_of_selects (args := #[]) (mvT hZ (tw hw 47 rfl))) (mvT hZ (tw hw 47 rfl)) (mvT hZ (tw hw 46 rfl)) (by decide) (backOf (W := 0) (rmIl l Z a0 hw [] a1 cs h0 n0 Z0 F_coder_a1 O0 S_COMPACT_STRINGS hcs) hZ (tw hw 48 rfl) (tw hw 11 rfl) (by decide) (by decide)) q1a q1c (g := (mkF m 1 #[.val (.ref a1), .val (.int 59), .val (.int 0)] [(.ref a1)])) rfl (by rw [hml]; rfl) (Steps.refl _) (argsL := []) (rest := []) (lenOf pd_8 rfl) rfl (by show 2 * 0 + _ ≤ _; exact Nat.le_of_eq rfl) (hb hby d8_1) (fun _ _ => ⟨rfl, e0, (by decide : 0 + 0 ≤ _), (by decide : 0 + 0 ≤ _)⟩)
 dsimp only [Pt.U, Pt.locs, Pt.cells, Pt.slots] at X1 lq1 yq1 zq1 st1 hQ1
 subst yq1 zq1
 obtain ⟨rfl, Nq1, eh1⟩ := hQ1
 have N1 : Fr n0 L1 := by rw [lq1]; exact Fr.app N0 Nq1
 refine gs m T1 4 #[.val (.ref a1), .val (.int 59), .val (.int 0)] [(.int 1)] (fun _ k => st1.trans k) ?_
 refine g_ifNo X1 hx 7 (hb hby d8_4) rfl ((if0 _ _).trans (feq (by decide : ¬ ((1 : Int32) = (0 : Int32)))).1) ?_
 refine g_aloadN X1 hx 8 (hb hby d8_7) rfl rfl rfl ?_
 obtain ⟨T2, X2, e2, st2⟩ := getF X1 hx hZ hown (host := "") (Or.inl (tw hw 28 rfl)) Via.refl eh1 F_value_a1 (g := (mkF m 8 #[.val (.ref a1), .val (.int 59), .val (.int 0)] [(.ref a1)])) rfl rfl (hb hby d8_8)
 refine gs m T2 11 #[.val (.ref a1), .val (.int 59), .val (.int 0)] [(.ref v)] st2 ?_
 refine g_iloadN X2 hx 12 (hb hby d8_11) rfl rfl ?_
 refine g_iloadN X2 hx 13 (hb hby d8_12) rfl rfl ?_
 refine g_aloadN X2 hx 14 (hb hby d8_13) rfl rfl rfl ?_
 obtain ⟨cq3, kq3, q3a, q3b, q3c⟩ := isOf hZ e2 E_a1
 obtain ⟨_, _, ⟨T3, L3, kk3, nn3⟩, -, X3, ⟨Lc3, hQ3, lq3, yq3, zq3⟩, st3⟩ := X2.virtualBack hx (y := y106) (z := y106) hown (mvT hZ (tw hw 50 rfl)) (mvT hZ (tw hw 51 rfl)) (notFace_of_selects (args := #[]) (mvT hZ (tw hw 53 rfl))) (mvT hZ (tw hw 53 rfl)) (mvT hZ (tw hw 52 rfl)) (by decide) (backOf (W := 3) (rmLn l Z a0 hw [] a1 cs v kb N (own_tb g) h0 n0 Z0 E_a1 F_value_a1 F_coder_a1 V_v O0 S_COMPACT_STRINGS hcs) hZ (tw hw 54 rfl) (tw hw 11 rfl) (by decide) (by decide)) q3a q3c (g := (mkF m 14 #[.val (.ref a1), .val (.int 59), .val (.int 0)] [(.ref a1), (.int 0), (.int 59), (.ref v)])) rfl (by rw [hml]; rfl) (Steps.refl _) (argsL := []) (rest := [(.int 0), (.int 59), (.ref v)]) (lenOf pd_10 rfl) rfl (by show 2 * 0 + _ ≤ _; exact Nat.le_of_eq rfl) (hb hby d8_14) (fun _ _ => ⟨rfl, e2, (by decide : 0 + 0 ≤ _), (by decide : 0 + 0 ≤ _)⟩)
 dsimp only [Pt.U, Pt.locs, Pt.cells, Pt.slots] at X3 lq3 yq3 zq3 st3 hQ3
 subst yq3 zq3
 obtain ⟨rfl, Nq3, eh3⟩ := hQ3
 have N3 : Fr n0 L3 := by rw [lq3]; exact Fr.app N1 Nq3
 refine gs m T3 17 #[.val (.ref a1), .val (.int 59), .val (.int 0)] [(.int N), (.int 0), (.int 59), (.ref v)] (fun _ k => st3.trans k) ?_
 obtain ⟨_, _, ⟨T4, L4, kk4, nn4⟩, -, X4, ⟨Lc4, hQ4, lq4, yq4, zq4⟩, st4⟩ := Jvm.LawKit.callS X3 hx (y := (⟨"java/lang/StringLatin1", "indexOf", "([BIII)I"⟩ : MethodName)) hown (mvT hZ (tw hw 60 rfl)) (mvT hZ (tw hw 61 rfl)) (mvT hZ (tw hw 62 rfl)) (mvT hZ (tw hw 63 rfl)) (by decide) (backOf (W := 0) (rmIx l Z a0 hw [] v N kb g f nn h0 n0 Z0 V_v hN hnn hrg hby') hZ (tw hw 63 rfl) (tw hw 62 rfl) (by decide) (by decide)) (g := (mkF m 17 #[.val (.ref a1), .val (.int 59), .val (.int 0)] [(.int N), (.int 0), (.int 59), (.ref v)])) rfl (by rw [hml]; rfl) (argsL := [(.ref v), (.int 59), (.int 0), (.int N)]) (rest := []) (lenOf pd_12 rfl) rfl (by show 2 * 0 + _ ≤ _; exact Nat.le_of_eq rfl) (hb hby d8_17) (fun _ _ => ⟨rfl, eh3, (by decide : 0 + 0 ≤ _), (by decide : 0 + 0 ≤ _)⟩)
 dsimp only [Pt.U, Pt.locs, Pt.cells, Pt.slots] at X4 lq4 yq4 zq4 st4 hQ4
 subst yq4 zq4
 obtain ⟨r_4, rfl, Nq4, eh4, r4_0⟩ := hQ4
 have N4 : Fr n0 L4 := by rw [lq4]; exact Fr.app N3 Nq4
 refine gs m T4 20 #[.val (.ref a1), .val (.int 59), .val (.int 0)] [(.int r_4)] st4 ?_
 refine g_goto X4 hx 36 (hb hby d8_20) (by decide) (by decide) ?_
 refine goI X4 hx Bd.returns Bd.notSynchronized (hb hby d8_36) ?_ (by decide) (by decide)
 show Q_rmIy Z a1 cs v kb N g f nn h0 n0 _ T4.heap _
 rw [eh4]
 exact ⟨r_4, rfl, N4, rfl, r4_0⟩
theorem d7_0 : decode jdk_42_method_79_code 0 = .ok (.aload_n 0, 1) := by decide +kernel
theorem d7_1 : decode jdk_42_method_79_code 1 = .ok (.iload_n 1, 1) := by decide +kernel
theorem d7_2 : decode jdk_42_method_79_code 2 = .ok (.iconst 0, 1) := by decide +kernel
theorem d7_3 : decode jdk_42_method_79_code 3 = .ok (.invokevirtual 633, 3) := by decide +kernel
theorem d7_6 : decode jdk_42_method_79_code 6 = .ok (.ireturn, 1) := by decide +kernel
theorem ef_rmIz (m : MethodId) (a1 : Addr) : entryFrame m #[(.ref a1), (.int 59)] 2 = mkF m 0 #[.val (.ref a1), .val (.int 59)] [] := by first | (simp [entryFrame, mkF, argsToLocals, Value.category]; done) | rfl
def Q_rmIz (Z : State) (a1 : Addr) (cs : Int32) (v : Addr) (kb : ClassId) (N : Int32) (g : Nat → Int32) (f : Nat → Int32) (nn : Nat) (h0 : Heap) (n0 : Nat) (rv : Option Value) (hq : Heap) (Lq : List Loc) : Prop := ∃ r : Int32, rv = some (.int r) ∧ Fr n0 Lq ∧ hq = h0 ∧ own_f59 f nn r
theorem rmIz (l : Launch) (Z : State) (a0 : Array Value) (hw : HW Z a0) (ws : List Jvm.Cond) (a1 : Addr) (cs : Int32) (v : Addr) (kb : ClassId) (N : Int32) (g : Nat → Int32) (f : Nat → Int32) (nn : Nat) (h0 : Heap) (n0 : Nat) (Z0 : n0 ≤ h0.size) (E_a1 : Exa Z h0 a1 "java/lang/String") (F_value_a1 : Fld Z h0 a1 "java/lang/String" "value" "[B" (.ref v)) (F_coder_a1 : Fld Z h0 a1 "java/lang/String" "coder" "B" (.int 0)) (V_v : Arv Z h0 v kb .byte N (own_tb g) (.int 0)) (O0 : Old Z n0 h0) (S_COMPACT_STRINGS : Sta Z Z.heap "java/lang/String" "COMPACT_STRINGS" "Z" (.int cs)) (hcs : ¬ cs = (0 : Int32)) (hN : Ix N nn) (hnn : nn ≤ 20) (hrg : own_lt f nn) (hby' : own_by f g nn) :
  MF l y110 jdk_42_method_79_code 2 (some .int) ws (rO 3 0 0 46) #[(.ref a1), (.int 59)] Z h0 (Q_rmIz Z a1 cs v kb N g f nn h0 n0) := by
 refine own_met "java/lang/String" rfl (plainFor_of_name pn_4) (fun m => ef_rmIz m a1) ?_
 intro p e s m below meth c s₁ Bd hx hby hml hown hnm hZ X0 e0
 have N0 := Fr.nil n0
 refine g_aloadN X0 hx 1 (hb hby d7_0) rfl rfl rfl ?_
 refine g_iloadN X0 hx 2 (hb hby d7_1) rfl rfl ?_
 refine g_iconst X0 hx 3 0 (hb hby d7_2) rfl rfl ?_
 obtain ⟨cq1, kq1, q1a, q1b, q1c⟩ := isOf hZ e0 E_a1
 obtain ⟨_, _, ⟨T1, L1, kk1, nn1⟩, -, X1, ⟨Lc1, hQ1, lq1, yq1, zq1⟩, st1⟩ := X0.virtualBack hx (y := y109) (z := y109) hown (mvT hZ (tw hw 39 rfl)) (mvT hZ (tw hw 40 rfl)) (notFace_of_selects (args := #[]) (mvT hZ (tw hw 42 rfl))) (mvT hZ (tw hw 42 rfl)) (mvT hZ (tw hw 41 rfl)) (by decide) (backOf (W := 0) (rmIy l Z a0 hw [] a1 cs v kb N g f nn h0 n0 Z0 E_a1 F_value_a1 F_coder_a1 V_v O0 S_COMPACT_STRINGS hcs hN hnn hrg hby') hZ (tw hw 43 rfl) (tw hw 11 rfl) (by decide) (by decide)) q1a q1c (g := (mkF m 3 #[.val (.ref a1), .val (.int 59)] [(.int 0), (.int 59), (.ref a1)])) rfl (by rw [hml]; rfl) (Steps.refl _) (argsL := [(.int 59), (.int 0)]) (rest := []) (lenOf pd_11 rfl) rfl (by show 2 * 0 + _ ≤ _; exact Nat.le_of_eq rfl) (hb hby d7_3) (fun _ _ => ⟨rfl, e0, (by decide : 0 + 0 ≤ _), (by decide : 0 + 0 ≤ _)⟩)
 dsimp only [Pt.U, Pt.locs, Pt.cells, Pt.slots] at X1 lq1 yq1 zq1 st1 hQ1
 subst yq1 zq1
 obtain ⟨r_1, rfl, Nq1, eh1, r1_0⟩ := hQ1
 have N1 : Fr n0 L1 := by rw [lq1]; exact Fr.app N0 Nq1
 refine gs m T1 6 #[.val (.ref a1), .val (.int 59)] [(.int r_1)] (fun _ k => st1.trans k) ?_
 refine goI X1 hx Bd.returns Bd.notSynchronized (hb hby d7_6) ?_ (by decide) (by decide)
 show Q_rmIz Z a1 cs v kb N g f nn h0 n0 _ T1.heap _
 rw [eh1]
 exact ⟨r_1, rfl, N1, rfl, r1_0⟩
theorem d24_0 : decode jdk_41_method_12_code 0 = .ok (.iload_n 0, 1) := by decide +kernel
theorem d24_1 : decode jdk_41_method_12_code 1 = .ok (.ifCond .lt 13, 3) := by decide +kernel
theorem d24_4 : decode jdk_41_method_12_code 4 = .ok (.iload_n 0, 1) := by decide +kernel
theorem d24_5 : decode jdk_41_method_12_code 5 = .ok (.iload_n 1, 1) := by decide +kernel
theorem d24_6 : decode jdk_41_method_12_code 6 = .ok (.if_icmp .gt 8, 3) := by decide +kernel
theorem d24_9 : decode jdk_41_method_12_code 9 = .ok (.iload_n 1, 1) := by decide +kernel
theorem d24_10 : decode jdk_41_method_12_code 10 = .ok (.iload_n 2, 1) := by decide +kernel
theorem d24_11 : decode jdk_41_method_12_code 11 = .ok (.if_icmp .le 11, 3) := by decide +kernel
theorem d24_22 : decode jdk_41_method_12_code 22 = .ok (.iload_n 0, 1) := by decide +kernel
theorem d24_23 : decode jdk_41_method_12_code 23 = .ok (.ireturn, 1) := by decide +kernel
theorem pn_24 : plainName "jdk/internal/util/Preconditions" = true := by first | (simp [plainName, overriddenIn]; done) | decide +kernel
theorem ef_rmCfn (m : MethodId) (M : Int32) (N : Int32) : entryFrame m #[(.int M), (.int N), (.int N), .null] 4 = mkF m 0 #[.val (.int M), .val (.int N), .val (.int N), .val .null] [] := by first | (simp [entryFrame, mkF, argsToLocals, Value.category]; done) | rfl
def Q_rmCfn (Z : State) (M : Int32) (N : Int32) (h0 : Heap) (n0 : Nat) (rv : Option Value) (hq : Heap) (Lq : List Loc) : Prop := rv = some (.int M) ∧ Fr n0 Lq ∧ hq = h0
theorem rmCfn (l : Launch) (Z : State) (a0 : Array Value) (hw : HW Z a0) (ws : List Jvm.Cond) (M : Int32) (N : Int32) (h0 : Heap) (n0 : Nat) (Z0 : n0 ≤ h0.size) (hM : ¬ M < (0 : Int32)) (hNM : ¬ N < M) :
  MF l y111 jdk_41_method_12_code 4 (some .int) ws (rO 0 0 0 0) #[(.int M), (.int N), (.int N), .null] Z h0 (Q_rmCfn Z M N h0 n0) := by
 refine own_met "jdk/internal/util/Preconditions" rfl (plainFor_of_name pn_24) (fun m => ef_rmCfn m M N) ?_
 intro p e s m below meth c s₁ Bd hx hby hml hown hnm hZ X0 e0
 have N0 := Fr.nil n0
 refine g_iloadN X0 hx 1 (hb hby d24_0) rfl rfl ?_
 refine g_ifNo X0 hx 4 (hb hby d24_1) rfl ((if0 _ _).trans (flt hM).1) ?_
 refine g_iloadN X0 hx 5 (hb hby d24_4) rfl rfl ?_
 refine g_iloadN X0 hx 6 (hb hby d24_5) rfl rfl ?_
 refine g_icmpNo X0 hx 9 (hb hby d24_6) rfl (flt hNM).2.2.1 ?_
 refine g_iloadN X0 hx 10 (hb hby d24_9) rfl rfl ?_
 refine g_iloadN X0 hx 11 (hb hby d24_10) rfl rfl ?_
 refine g_icmpYes X0 hx 22 (hb hby d24_11) (flt (fun q => Int32.lt_irrefl q)).2.2.2 (by decide) (by decide) ?_
 refine g_iloadN X0 hx 23 (hb hby d24_22) rfl rfl ?_
 refine goI X0 hx Bd.returns Bd.notSynchronized (hb hby d24_23) ?_ (by decide) (by decide)
 show Q_rmCfn Z M N h0 n0 _ s₁.heap _
 rw [e0]
 exact ⟨rfl, N0, rfl⟩
theorem ef_rmCfr (m : MethodId) (M : Int32) (N : Int32) (a4 : Addr) : entryFrame m #[(.int M), (.int N), (.int N), (.ref a4)] 4 = mkF m 0 #[.val (.int M), .val (.int N), .val (.int N), .val (.ref a4)] [] := by first | (simp [entryFrame, mkF, argsToLocals, Value.category]; done) | rfl
def Q_rmCfr (Z : State) (M : Int32) (N : Int32) (a4 : Addr) (h0 : Heap) (n0 : Nat) (rv : Option Value) (hq : Heap) (Lq : List Loc) : Prop := rv = some (.int M) ∧ Fr n0 Lq ∧ hq = h0
theorem rmCfr (l : Launch) (Z : State) (a0 : Array Value) (hw : HW Z a0) (ws : List Jvm.Cond) (M : Int32) (N : Int32) (a4 : Addr) (h0 : Heap) (n0 : Nat) (Z0 : n0 ≤ h0.size) (hM : ¬ M < (0 : Int32)) (hNM : ¬ N < M) :
  MF l y111 jdk_41_method_12_code 4 (some .int) ws (rO 0 0 0 0) #[(.int M), (.int N), (.int N), (.ref a4)] Z h0 (Q_rmCfr Z M N a4 h0 n0) := by
 refine own_met "jdk/internal/util/Preconditions" rfl (plainFor_of_name pn_24) (fun m => ef_rmCfr m M N a4) ?_
 intro p e s m below meth c s₁ Bd hx hby hml hown hnm hZ X0 e0
 have N0 := Fr.nil n0
 refine g_iloadN X0 hx 1 (hb hby d24_0) rfl rfl ?_
 refine g_ifNo X0 hx 4 (hb hby d24_1) rfl ((if0 _ _).trans (flt hM).1) ?_
 refine g_iloadN X0 hx 5 (hb hby d24_4) rfl rfl ?_
 refine g_iloadN X0 hx 6 (hb hby d24_5) rfl rfl ?_
 refine g_icmpNo X0 hx 9 (hb hby d24_6) rfl (flt hNM).2.2.1 ?_
 refine g_iloadN X0 hx 10 (hb hby d24_9) rfl rfl ?_
 refine g_iloadN X0 hx 11 (hb hby d24_10) rfl rfl ?_
 refine g_icmpYes X0 hx 22 (hb hby d24_11) (flt (fun q => Int32.lt_irrefl q)).2.2.2 (by decide) (by decide) ?_
 refine g_iloadN X0 hx 23 (hb hby d24_22) rfl rfl ?_
 refine goI X0 hx Bd.returns Bd.notSynchronized (hb hby d24_23) ?_ (by decide) (by decide)
 show Q_rmCfr Z M N a4 h0 n0 _ s₁.heap _
 rw [e0]
 exact ⟨rfl, N0, rfl⟩
theorem d23_0 : decode jdk_42_method_158_code 0 = .ok (.iload_n 0, 1) := by decide +kernel
theorem d23_1 : decode jdk_42_method_158_code 1 = .ok (.iload_n 1, 1) := by decide +kernel
theorem d23_2 : decode jdk_42_method_158_code 2 = .ok (.iload_n 2, 1) := by decide +kernel
theorem d23_3 : decode jdk_42_method_158_code 3 = .ok (.getstatic 1053, 3) := by decide +kernel
theorem d23_6 : decode jdk_42_method_158_code 6 = .ok (.invokestatic 1062, 3) := by decide +kernel
theorem pd_13 : parseMethodDescriptor "(IIILjava/util/function/BiFunction;)I" = some ⟨[.int, .int, .int, (.object "java/util/function/BiFunction")], some .int⟩ := by decide +kernel
theorem d23_9 : decode jdk_42_method_158_code 9 = .ok (.pop, 1) := by decide +kernel
theorem d23_10 : decode jdk_42_method_158_code 10 = .ok (.return_, 1) := by decide +kernel
theorem ef_rmCk (m : MethodId) (M : Int32) (N : Int32) : entryFrame m #[(.int M), (.int N), (.int N)] 3 = mkF m 0 #[.val (.int M), .val (.int N), .val (.int N)] [] := by first | (simp [entryFrame, mkF, argsToLocals, Value.category]; done) | rfl
def Q_rmCk (Z : State) (M : Int32) (N : Int32) (fv : Value) (h0 : Heap) (n0 : Nat) (rv : Option Value) (hq : Heap) (Lq : List Loc) : Prop := rv = none ∧ Fr n0 Lq ∧ hq = h0
theorem rmCk (l : Launch) (Z : State) (a0 : Array Value) (hw : HW Z a0) (ws : List Jvm.Cond) (M : Int32) (N : Int32) (fv : Value) (h0 : Heap) (n0 : Nat) (Z0 : n0 ≤ h0.size) (O0 : Old Z n0 h0) (hM : ¬ M < (0 : Int32)) (hNM : ¬ N < M) (S_SIOOBE_FORMATTER : Sta Z Z.heap "jdk/internal/util/Preconditions" "SIOOBE_FORMATTER" "Ljava/util/function/BiFunction;" fv) (hfv : fv.isRef = true) :
  MF l y112 jdk_42_method_158_code 3 none ws (rO 1 0 0 15) #[(.int M), (.int N), (.int N)] Z h0 (Q_rmCk Z M N fv h0 n0) := by
 refine own_met "java/lang/String" rfl (plainFor_of_name pn_4) (fun m => ef_rmCk m M N) ?_
 intro p e s m below meth c s₁ Bd hx hby hml hown hnm hZ X0 e0
 have N0 := Fr.nil n0
 rcases ref_cases hfv with hfe | ⟨fa, hfe⟩
 ·rw [hfe] at S_SIOOBE_FORMATTER
  refine g_iloadN X0 hx 1 (hb hby d23_0) rfl rfl ?_
  refine g_iloadN X0 hx 2 (hb hby d23_1) rfl rfl ?_
  refine g_iloadN X0 hx 3 (hb hby d23_2) rfl rfl ?_
  obtain ⟨T1, X1, e1, st1⟩ := getS2 X0 hx hZ hown (host := "") (Or.inl (tw hw 103 rfl)) Via.refl e0 (S_SIOOBE_FORMATTER.ext O0.2) (g := (mkF m 3 #[.val (.int M), .val (.int N), .val (.int N)] [(.int N), (.int N), (.int M)])) rfl (hb hby d23_3)
  refine gs m T1 6 #[.val (.int M), .val (.int N), .val (.int N)] [.null, (.int N), (.int N), (.int M)] st1 ?_
  obtain ⟨_, _, ⟨T2, L2, kk2, nn2⟩, -, X2, ⟨Lc2, hQ2, lq2, yq2, zq2⟩, st2⟩ := Jvm.LawKit.callS X1 hx (y := y111) hown (mvT hZ (tw hw 105 rfl)) (mvT hZ (tw hw 106 rfl)) (mvT hZ (tw hw 104 rfl)) (mvT hZ (tw hw 107 rfl)) (by decide) (backOf (W := 0) (rmCfn l Z a0 hw [] M N h0 n0 Z0 hM hNM) hZ (tw hw 107 rfl) (tw hw 104 rfl) (by decide) (by decide)) (g := (mkF m 6 #[.val (.int M), .val (.int N), .val (.int N)] [.null, (.int N), (.int N), (.int M)])) rfl (by rw [hml]; rfl) (argsL := [(.int M), (.int N), (.int N), .null]) (rest := []) (lenOf pd_13 rfl) rfl (by show 2 * 0 + _ ≤ _; exact Nat.le_of_eq rfl) (hb hby d23_6) (fun _ _ => ⟨rfl, e1, (by decide : 0 + 0 ≤ _), (by decide : 0 + 0 ≤ _)⟩)
  dsimp only [Pt.U, Pt.locs, Pt.cells, Pt.slots] at X2 lq2 yq2 zq2 st2 hQ2
  subst yq2 zq2
  obtain ⟨rfl, Nq2, eh2⟩ := hQ2
  have N2 : Fr n0 L2 := by rw [lq2]; exact Fr.app N0 Nq2
  refine gs m T2 9 #[.val (.int M), .val (.int N), .val (.int N)] [(.int M)] st2 ?_
  refine g_pop X2 hx 10 (hb hby d23_9) rfl rfl ?_
  refine goV X2 hx Bd.returns Bd.notSynchronized (hb hby d23_10) ?_ (by decide) (by decide)
  show Q_rmCk Z M N fv h0 n0 _ T2.heap _
  rw [eh2]
  exact ⟨rfl, N2, rfl⟩
 ·rw [hfe] at S_SIOOBE_FORMATTER
  refine g_iloadN X0 hx 1 (hb hby d23_0) rfl rfl ?_
  refine g_iloadN X0 hx 2 (hb hby d23_1) rfl rfl ?_
  refine g_iloadN X0 hx 3 (hb hby d23_2) rfl rfl ?_
  obtain ⟨T3, X3, e3, st3⟩ := getS2 X0 hx hZ hown (host := "") (Or.inl (tw hw 103 rfl)) Via.refl e0 (S_SIOOBE_FORMATTER.ext O0.2) (g := (mkF m 3 #[.val (.int M), .val (.int N), .val (.int N)] [(.int N), (.int N), (.int M)])) rfl (hb hby d23_3)
  refine gs m T3 6 #[.val (.int M), .val (.int N), .val (.int N)] [(.ref fa), (.int N), (.int N), (.int M)] st3 ?_
  obtain ⟨_, _, ⟨T4, L4, kk4, nn4⟩, -, X4, ⟨Lc4, hQ4, lq4, yq4, zq4⟩, st4⟩ := Jvm.LawKit.callS X3 hx (y := y111) hown (mvT hZ (tw hw 105 rfl)) (mvT hZ (tw hw 106 rfl)) (mvT hZ (tw hw 104 rfl)) (mvT hZ (tw hw 107 rfl)) (by decide) (backOf (W := 0) (rmCfr l Z a0 hw [] M N fa h0 n0 Z0 hM hNM) hZ (tw hw 107 rfl) (tw hw 104 rfl) (by decide) (by decide)) (g := (mkF m 6 #[.val (.int M), .val (.int N), .val (.int N)] [(.ref fa), (.int N), (.int N), (.int M)])) rfl (by rw [hml]; rfl) (argsL := [(.int M), (.int N), (.int N), (.ref fa)]) (rest := []) (lenOf pd_13 rfl) rfl (by show 2 * 0 + _ ≤ _; exact Nat.le_of_eq rfl) (hb hby d23_6) (fun _ _ => ⟨rfl, e3, (by decide : 0 + 0 ≤ _), (by decide : 0 + 0 ≤ _)⟩)
  dsimp only [Pt.U, Pt.locs, Pt.cells, Pt.slots] at X4 lq4 yq4 zq4 st4 hQ4
  subst yq4 zq4
  obtain ⟨rfl, Nq4, eh4⟩ := hQ4
  have N4 : Fr n0 L4 := by rw [lq4]; exact Fr.app N0 Nq4
  refine gs m T4 9 #[.val (.int M), .val (.int N), .val (.int N)] [(.int M)] st4 ?_
  refine g_pop X4 hx 10 (hb hby d23_9) rfl rfl ?_
  refine goV X4 hx Bd.returns Bd.notSynchronized (hb hby d23_10) ?_ (by decide) (by decide)
  show Q_rmCk Z M N fv h0 n0 _ T4.heap _
  rw [eh4]
  exact ⟨rfl, N4, rfl⟩
theorem d29_0 : decode jdk_42_method_151_code 0 = .ok (.aload_n 0, 1) := by decide +kernel
theorem d29_1 : decode jdk_42_method_151_code 1 = .ok (.invokespecial 1, 3) := by decide +kernel
theorem d29_4 : decode jdk_42_method_151_code 4 = .ok (.aload_n 0, 1) := by decide +kernel
theorem d29_5 : decode jdk_42_method_151_code 5 = .ok (.aload_n 1, 1) := by decide +kernel
theorem d29_6 : decode jdk_42_method_151_code 6 = .ok (.putfield 9, 3) := by decide +kernel
theorem d29_9 : decode jdk_42_method_151_code 9 = .ok (.aload_n 0, 1) := by decide +kernel
theorem d29_10 : decode jdk_42_method_151_code 10 = .ok (.iload_n 2, 1) := by decide +kernel
theorem d29_11 : decode jdk_42_method_151_code 11 = .ok (.putfield 15, 3) := by decide +kernel
theorem d29_14 : decode jdk_42_method_151_code 14 = .ok (.return_, 1) := by decide +kernel
theorem ef_rmSb (m : MethodId) (a1 : Addr) (a2 : Addr) : entryFrame m #[(.ref a1), (.ref a2), (.int 0)] 3 = mkF m 0 #[.val (.ref a1), .val (.ref a2), .val (.int 0)] [] := by first | (simp [entryFrame, mkF, argsToLocals, Value.category]; done) | rfl
def Q_rmSb (Z : State) (a1 : Addr) (a2 : Addr) (h0 : Heap) (n0 : Nat) (rv : Option Value) (hq : Heap) (Lq : List Loc) : Prop := rv = none ∧ Fr n0 Lq ∧ Keep h0 hq [a1] ∧ Fld Z hq a1 "java/lang/String" "value" "[B" (.ref a2) ∧ Fld Z hq a1 "java/lang/String" "coder" "B" (.int 0)
theorem rmSb (l : Launch) (Z : State) (a0 : Array Value) (hw : HW Z a0) (ws : List Jvm.Cond) (a1 : Addr) (a2 : Addr) (h0 : Heap) (n0 : Nat) (Z0 : n0 ≤ h0.size) (E_a1 : Exa Z h0 a1 "java/lang/String") (F_value_a1 : Fld Z h0 a1 "java/lang/String" "value" "[B" .null) (F_coder_a1 : Fld Z h0 a1 "java/lang/String" "coder" "B" (.int 0)) (g_a1 : n0 ≤ a1) :
  MF l (⟨"java/lang/String", "<init>", "([BB)V"⟩ : MethodName) jdk_42_method_151_code 3 none ws (rO 1 0 0 12) #[(.ref a1), (.ref a2), (.int 0)] Z h0 (Q_rmSb Z a1 a2 h0 n0) := by
 refine own_met "java/lang/String" rfl (plainFor_of_name pn_4) (fun m => ef_rmSb m a1 a2) ?_
 intro p e s m below meth c s₁ Bd hx hby hml hown hnm hZ X0 e0
 have N0 := Fr.nil n0
 refine g_aloadN X0 hx 1 (hb hby d29_0) rfl rfl rfl ?_
 obtain ⟨T1, X1, e1, st1⟩ := initO X0 hx hZ hown (tw hw 19 rfl) (tw hw 20 rfl) (tw hw 21 rfl) e0 (g := (mkF m 1 #[.val (.ref a1), .val (.ref a2), .val (.int 0)] [(.ref a1)])) rfl (by rw [hml]; rfl) rfl (hb hby d29_1) (by decide) (W := 0) (by show 2 * 0 + _ ≤ _; exact Nat.le_of_eq rfl) (by decide)
 refine gs m T1 4 #[.val (.ref a1), .val (.ref a2), .val (.int 0)] [] st1 ?_
 refine g_aloadN X1 hx 5 (hb hby d29_4) rfl rfl rfl ?_
 refine g_aloadN X1 hx 6 (hb hby d29_5) rfl rfl rfl ?_
 obtain ⟨T2, h2, X2, e2, W2, st2⟩ := putF X1 hx hZ hown (host := "") (Or.inl (tw hw 28 rfl)) Via.refl e1 F_value_a1 E_a1 (Or.inr ⟨(tw hw 24 rfl), rfl, hnm⟩) (tw hw 10 rfl) (ty := (.array .byte)) (by decide) rfl rfl (g := (mkF m 6 #[.val (.ref a1), .val (.ref a2), .val (.int 0)] [(.ref a2), (.ref a1)])) rfl rfl (hb hby d29_6)
 have N2 := Fr.snoc X2 N0 g_a1
 have Z3 : n0 ≤ h2.size := Nat.le_trans Z0 (Keep.of_wr W2).1
 have K3 : Keep h0 h2 [a1] := (Keep.refl h0 [a1]).wr W2 (Or.inl (List.mem_of_getElem? (i := 0) rfl))
 have Fw2 := F_value_a1.same W2
 refine gs m T2 9 #[.val (.ref a1), .val (.ref a2), .val (.int 0)] [] st2 ?_
 refine g_aloadN X2 hx 10 (hb hby d29_9) rfl rfl rfl ?_
 refine g_iloadN X2 hx 11 (hb hby d29_10) rfl rfl ?_
 have q4 : Fld Z h2 a1 "java/lang/String" "coder" "B" (.int 0) := (F_coder_a1.other W2 (Or.inr (slot_ne (Or.inr (tw hw 25 rfl)) (Or.inr (tw hw 24 rfl)) (by decide) (t := .byte) (t' := (.array .byte)) (by decide) (by decide))))
 have q5 : Exa Z h2 a1 "java/lang/String" := (E_a1.wr W2)
 obtain ⟨T6, h6, X6, e6, W6, st6⟩ := putFN X2 hx hZ hown (tw hw 29 rfl) Via.refl e2 q4 q5 (Or.inr ⟨(tw hw 25 rfl), rfl, hnm⟩) (tw hw 10 rfl) (ty := .byte) (v := .int (0 : Int32)) (v' := .int (0 : Int32)) (by decide) rfl (by decide) (g := (mkF m 11 #[.val (.ref a1), .val (.ref a2), .val (.int 0)] [(.int 0), (.ref a1)])) rfl rfl (hb hby d29_11)
 have N6 := Fr.snoc X6 N2 g_a1
 have Z7 : n0 ≤ h6.size := Nat.le_trans Z3 (Keep.of_wr W6).1
 have K7 : Keep h0 h6 [a1] := K3.wr W6 (Or.inl (List.mem_of_getElem? (i := 0) rfl))
 have Fw6 := q4.same W6
 refine gs m T6 14 #[.val (.ref a1), .val (.ref a2), .val (.int 0)] [] st6 ?_
 refine goV X6 hx Bd.returns Bd.notSynchronized (hb hby d29_14) ?_ (by decide) (by decide)
 show Q_rmSb Z a1 a2 h0 n0 _ T6.heap _
 rw [e6]
 have q8 : Fld Z h6 a1 "java/lang/String" "value" "[B" (.ref a2) := (Fw2.other W6 (Or.inr (slot_ne (Or.inr (tw hw 24 rfl)) (Or.inr (tw hw 25 rfl)) (by decide) (t := (.array .byte)) (t' := .byte) (by decide) (by decide))))
 exact ⟨rfl, N6, K7, q8, Fw6⟩
theorem d28_0 : decode jdk_65_method_131_code 0 = .ok (.iload_n 1, 1) := by decide +kernel
theorem d28_1 : decode jdk_65_method_131_code 1 = .ok (.iload_n 0, 1) := by decide +kernel
theorem d28_2 : decode jdk_65_method_131_code 2 = .ok (.if_icmp .ge 35, 3) := by decide +kernel
theorem d28_37 : decode jdk_65_method_131_code 37 = .ok (.return_, 1) := by decide +kernel
theorem pn_28 : plainName "java/util/Arrays" = true := by first | (simp [plainName, overriddenIn]; done) | decide +kernel
theorem ef_rmCl (m : MethodId) (M : Int32) (N : Int32) : entryFrame m #[(.int M), (.int N)] 2 = mkF m 0 #[.val (.int M), .val (.int N)] [] := by first | (simp [entryFrame, mkF, argsToLocals, Value.category]; done) | rfl
def Q_rmCl (Z : State) (M : Int32) (N : Int32) (h0 : Heap) (n0 : Nat) (rv : Option Value) (hq : Heap) (Lq : List Loc) : Prop := rv = none ∧ Fr n0 Lq ∧ hq = h0
theorem rmCl (l : Launch) (Z : State) (a0 : Array Value) (hw : HW Z a0) (ws : List Jvm.Cond) (M : Int32) (N : Int32) (h0 : Heap) (n0 : Nat) (Z0 : n0 ≤ h0.size) (hNM : ¬ N < M) :
  MF l (⟨"java/util/Arrays", "checkLength", "(II)V"⟩ : MethodName) jdk_65_method_131_code 2 none ws (rO 0 0 0 0) #[(.int M), (.int N)] Z h0 (Q_rmCl Z M N h0 n0) := by
 refine own_met "java/util/Arrays" rfl (plainFor_of_name pn_28) (fun m => ef_rmCl m M N) ?_
 intro p e s m below meth c s₁ Bd hx hby hml hown hnm hZ X0 e0
 have N0 := Fr.nil n0
 refine g_iloadN X0 hx 1 (hb hby d28_0) rfl rfl ?_
 refine g_iloadN X0 hx 2 (hb hby d28_1) rfl rfl ?_
 refine g_icmpYes X0 hx 37 (hb hby d28_2) (flt hNM).2.1 (by decide) (by decide) ?_
 refine goV X0 hx Bd.returns Bd.notSynchronized (hb hby d28_37) ?_ (by decide) (by decide)
 show Q_rmCl Z M N h0 n0 _ s₁.heap _
 rw [e0]
 exact ⟨rfl, N0, rfl⟩
theorem d27_0 : decode jdk_65_method_133_code 0 = .ok (.iload_n 1, 1) := by decide +kernel
theorem d27_1 : decode jdk_65_method_133_code 1 = .ok (.iload_n 2, 1) := by decide +kernel
theorem d27_2 : decode jdk_65_method_133_code 2 = .ok (.invokestatic 343, 3) := by decide +kernel
theorem pd_14 : parseMethodDescriptor "(II)V" = some ⟨[.int, .int], none⟩ := by decide +kernel
theorem d27_5 : decode jdk_65_method_133_code 5 = .ok (.iload_n 2, 1) := by decide +kernel
theorem d27_6 : decode jdk_65_method_133_code 6 = .ok (.iload_n 1, 1) := by decide +kernel
theorem d27_7 : decode jdk_65_method_133_code 7 = .ok (.isub, 1) := by decide +kernel
theorem d27_8 : decode jdk_65_method_133_code 8 = .ok (.istore_n 3, 1) := by decide +kernel
theorem d27_9 : decode jdk_65_method_133_code 9 = .ok (.iload_n 3, 1) := by decide +kernel
theorem d27_10 : decode jdk_65_method_133_code 10 = .ok (.newarray .byte, 2) := by decide +kernel
theorem d27_12 : decode jdk_65_method_133_code 12 = .ok (.astore 4, 2) := by decide +kernel
theorem d27_14 : decode jdk_65_method_133_code 14 = .ok (.aload_n 0, 1) := by decide +kernel
theorem d27_15 : decode jdk_65_method_133_code 15 = .ok (.iload_n 1, 1) := by decide +kernel
theorem d27_16 : decode jdk_65_method_133_code 16 = .ok (.aload 4, 2) := by decide +kernel
theorem d27_18 : decode jdk_65_method_133_code 18 = .ok (.iconst 0, 1) := by decide +kernel
theorem d27_19 : decode jdk_65_method_133_code 19 = .ok (.aload_n 0, 1) := by decide +kernel
theorem d27_20 : decode jdk_65_method_133_code 20 = .ok (.arraylength, 1) := by decide +kernel
theorem d27_21 : decode jdk_65_method_133_code 21 = .ok (.iload_n 1, 1) := by decide +kernel
theorem d27_22 : decode jdk_65_method_133_code 22 = .ok (.isub, 1) := by decide +kernel
theorem d27_23 : decode jdk_65_method_133_code 23 = .ok (.iload_n 3, 1) := by decide +kernel
theorem d27_24 : decode jdk_65_method_133_code 24 = .ok (.invokestatic 304, 3) := by decide +kernel
theorem d27_27 : decode jdk_65_method_133_code 27 = .ok (.invokestatic 150, 3) := by decide +kernel
theorem d27_30 : decode jdk_65_method_133_code 30 = .ok (.aload 4, 2) := by decide +kernel
theorem d27_32 : decode jdk_65_method_133_code 32 = .ok (.areturn, 1) := by decide +kernel
theorem ef_rmCr (m : MethodId) (a1 : Addr) (M : Int32) (N : Int32) : entryFrame m #[(.ref a1), (.int M), (.int N)] 5 = mkF m 0 #[.val (.ref a1), .val (.int M), .val (.int N), .unset, .unset] [] := by first | (simp [entryFrame, mkF, argsToLocals, Value.category]; done) | rfl
def Q_rmCr (Z : State) (a1 : Addr) (M : Int32) (N : Int32) (kb : ClassId) (vs : List Value) (D : Int32) (us : List Value) (h0 : Heap) (n0 : Nat) (rv : Option Value) (hq : Heap) (Lq : List Loc) : Prop := ∃ b : Addr, ∃ kc : ClassId, rv = some (.ref b) ∧ Fr n0 Lq ∧ Keep h0 hq [] ∧ h0.size ≤ b ∧ Arv Z hq b kc .byte D us (.int 0)
theorem rmCr (l : Launch) (Z : State) (a0 : Array Value) (hw : HW Z a0) (ws : List Jvm.Cond) (a1 : Addr) (M : Int32) (N : Int32) (kb : ClassId) (vs : List Value) (D : Int32) (us : List Value) (h0 : Heap) (n0 : Nat) (Z0 : n0 ≤ h0.size) (V_a1 : Arv Z h0 a1 kb .byte N vs (.int 0)) (hSB : own_SB M N D) (hD0 : ¬ D = (0 : Int32)) (hus : ∀ j, j < D.toNatClampNeg → us.getD j (.int 0) = vs.getD (M.toNatClampNeg + j) (.int 0)) :
  MF l (⟨"java/util/Arrays", "copyOfRangeByte", "([BII)[B"⟩ : MethodName) jdk_65_method_133_code 5 (some (.array .byte)) ws (rO 1 1 3 40) #[(.ref a1), (.int M), (.int N)] Z h0 (Q_rmCr Z a1 M N kb vs D us h0 n0) := by
 refine own_met "java/util/Arrays" rfl (plainFor_of_name pn_28) (fun m => ef_rmCr m a1 M N) ?_
 intro p e s m below meth c s₁ Bd hx hby hml hown hnm hZ X0 e0
 have N0 := Fr.nil n0
 obtain ⟨hM, hM0, hNM, hD, hMD, hDn, hD3, hoM, hoD, h4⟩ := id hSB
 refine g_iloadN X0 hx 1 (hb hby d27_0) rfl rfl ?_
 refine g_iloadN X0 hx 2 (hb hby d27_1) rfl rfl ?_
 obtain ⟨_, _, ⟨T1, L1, kk1, nn1⟩, -, X1, ⟨Lc1, hQ1, lq1, yq1, zq1⟩, st1⟩ := Jvm.LawKit.callS X0 hx (y := (⟨"java/util/Arrays", "checkLength", "(II)V"⟩ : MethodName)) hown (mvT hZ (tw hw 119 rfl)) (mvT hZ (tw hw 120 rfl)) (mvT hZ (tw hw 114 rfl)) (mvT hZ (tw hw 121 rfl)) (by decide) (backOf (W := 0) (rmCl l Z a0 hw [] M N h0 n0 Z0 hNM) hZ (tw hw 121 rfl) (tw hw 114 rfl) (by decide) (by decide)) (g := (mkF m 2 #[.val (.ref a1), .val (.int M), .val (.int N), .unset, .unset] [(.int N), (.int M)])) rfl (by rw [hml]; rfl) (argsL := [(.int M), (.int N)]) (rest := []) (lenOf pd_14 rfl) rfl (by show 2 * 0 + _ ≤ _; exact Nat.le_of_eq rfl) (hb hby d27_2) (fun _ _ => ⟨rfl, e0, (by decide : 0 + 0 ≤ _), (by decide : 0 + 0 ≤ _)⟩)
 dsimp only [Pt.U, Pt.locs, Pt.cells, Pt.slots] at X1 lq1 yq1 zq1 st1 hQ1
 subst yq1 zq1
 obtain ⟨rfl, Nq1, eh1⟩ := hQ1
 have N1 : Fr n0 L1 := by rw [lq1]; exact Fr.app N0 Nq1
 refine gs m T1 5 #[.val (.ref a1), .val (.int M), .val (.int N), .unset, .unset] [] st1 ?_
 refine g_iloadN X1 hx 6 (hb hby d27_5) rfl rfl ?_
 refine g_iloadN X1 hx 7 (hb hby d27_6) rfl rfl ?_
 refine gs m T1 8 #[.val (.ref a1), .val (.int M), .val (.int N), .unset, .unset] [(.int (N - M))] (fun _ kS => XS.isub X1.here hx rfl (hb hby d27_7) rfl kS) ?_
 rw [hD]
 refine g_istoreN X1 hx 9 (hb hby d27_8) rfl (l' := #[.val (.ref a1), .val (.int M), .val (.int N), .val (.int D), .unset]) rfl ?_
 refine g_iloadN X1 hx 10 (hb hby d27_9) rfl rfl ?_
 obtain ⟨T2, h2, k2, X2, e2, E2, A2, st2⟩ := newP X1 hx hZ (tw hw 23 rfl) eh1 (g := (mkF m 10 #[.val (.ref a1), .val (.int M), .val (.int N), .val (.int D), .unset] [(.int D)])) rfl (hb hby d27_10) rfl hDn (cap := 3) hD3 (by decide) (by decide) (by decide)
 obtain ⟨b2, g2⟩ : ∃ z, z = h0.size := ⟨_, rfl⟩
 rw [← g2] at A2 st2
 have g_b2 : n0 ≤ b2 := Nat.le_trans Z0 (Nat.le_of_eq g2.symm)
 have sz_b2 : h0.size ≤ b2 := Nat.le_trans (Keep.refl h0 []).1 (Nat.le_of_eq g2.symm)
 have Z3 : n0 ≤ h2.size := Nat.le_trans Z0 E2.1
 have K3 : Keep h0 h2 [] := (Keep.refl h0 []).ext E2
 have V_b2 : Arv Z h2 b2 k2 .byte D [(.int 0), (.int 0), (.int 0)] (.int 0) := (Arv.new A2 hDn).pad (pad_rep [] (.int 0) 3)
 refine gs m T2 12 #[.val (.ref a1), .val (.int M), .val (.int N), .val (.int D), .unset] [(.ref b2)] st2 ?_
 refine g_astore X2 hx 14 (hb hby d27_12) rfl rfl (l' := #[.val (.ref a1), .val (.int M), .val (.int N), .val (.int D), .val (.ref b2)]) rfl ?_
 refine g_aloadN X2 hx 15 (hb hby d27_14) rfl rfl rfl ?_
 refine g_iloadN X2 hx 16 (hb hby d27_15) rfl rfl ?_
 refine g_aload X2 hx 18 (hb hby d27_16) rfl rfl rfl ?_
 refine g_iconst X2 hx 19 0 (hb hby d27_18) rfl rfl ?_
 refine g_aloadN X2 hx 20 (hb hby d27_19) rfl rfl rfl ?_
 have q4 : Arv Z h2 a1 kb .byte N vs (.int 0) := (V_a1.ext E2)
 obtain ⟨cl5, Ar5, qc5, Sz5, Nn5, Hs5, Gf5⟩ := id q4
 have hlen5 := X2.arraylength hx (by rw [e2]; exact Ar5.1) (State.isArrayOf_alike hZ.alike Ar5.2.1) (g := (mkF m 20 #[.val (.ref a1), .val (.int M), .val (.int N), .val (.int D), .val (.ref b2)] [(.ref a1), (.int 0), (.ref b2), (.int M), (.ref a1)])) rfl rfl (hb hby d27_20)
 rw [len_of Sz5 Nn5] at hlen5
 refine gs m T2 21 #[.val (.ref a1), .val (.int M), .val (.int N), .val (.int D), .val (.ref b2)] [(.int N), (.int 0), (.ref b2), (.int M), (.ref a1)] (fun _ kS => hlen5 _ kS) ?_
 refine g_iloadN X2 hx 22 (hb hby d27_21) rfl rfl ?_
 refine gs m T2 23 #[.val (.ref a1), .val (.int M), .val (.int N), .val (.int D), .val (.ref b2)] [(.int (N - M)), (.int 0), (.ref b2), (.int M), (.ref a1)] (fun _ kS => XS.isub X2.here hx rfl (hb hby d27_22) rfl kS) ?_
 rw [hD]
 refine g_iloadN X2 hx 24 (hb hby d27_23) rfl rfl ?_
 obtain ⟨_, _, ⟨T6, L6, kk6, nn6⟩, -, X6, ⟨Lc6, hQ6, lq6, yq6, zq6⟩, st6⟩ := Jvm.LawKit.callS X2 hx (y := y108) hown (mvT hZ (tw hw 122 rfl)) (mvT hZ (tw hw 72 rfl)) (mvT hZ (tw hw 69 rfl)) (mvT hZ (tw hw 73 rfl)) (by decide) (backOf (W := 4) (rmMn l Z a0 hw [] D h2 n0 Z3 ) hZ (tw hw 73 rfl) (tw hw 69 rfl) (by decide) (by decide)) (g := (mkF m 24 #[.val (.ref a1), .val (.int M), .val (.int N), .val (.int D), .val (.ref b2)] [(.int D), (.int D), (.int 0), (.ref b2), (.int M), (.ref a1)])) rfl (by rw [hml]; rfl) (argsL := [(.int D), (.int D)]) (rest := [(.int 0), (.ref b2), (.int M), (.ref a1)]) (lenOf pd_11 rfl) rfl (by show 2 * 0 + _ ≤ _; exact Nat.le_of_eq rfl) (hb hby d27_24) (fun _ _ => ⟨rfl, e2, (by decide : 1 + 0 ≤ _), (by decide : 3 + 0 ≤ _)⟩)
 dsimp only [Pt.U, Pt.locs, Pt.cells, Pt.slots] at X6 lq6 yq6 zq6 st6 hQ6
 subst yq6 zq6
 obtain ⟨rfl, Nq6, eh6⟩ := hQ6
 have N6 : Fr n0 L6 := by rw [lq6]; exact Fr.app N1 Nq6
 refine gs m T6 27 #[.val (.ref a1), .val (.int M), .val (.int N), .val (.int D), .val (.ref b2)] [(.int D), (.int 0), (.ref b2), (.int M), (.ref a1)] st6 ?_
 obtain ⟨T7, h7, X7, e7, Kc7, V7, st7⟩ := own_acopyB X6 hx hZ hown (tw hw 123 rfl) (tw hw 126 rfl) (tw hw 124 rfl) (tw hw 125 rfl) eh6 q4 V_b2 M.toNatClampNeg D.toNatClampNeg hoM hoD h4 rfl us hus (g := (mkF m 27 #[.val (.ref a1), .val (.int M), .val (.int N), .val (.int D), .val (.ref b2)] [(.int D), (.int 0), (.ref b2), (.int M), (.ref a1)])) rfl (by rw [hml]; rfl) rfl (hb hby d27_27) (W := 0) (by show 2 * 0 + _ ≤ _; exact Nat.le_of_eq rfl) (by decide) (by decide)
 have N7 : Fr n0 _ := Fr.app N6 (own_cpF (L := D.toNatClampNeg) g_b2)
 have Z8 : n0 ≤ h7.size := Nat.le_trans Z3 Kc7.1
 have K8 : Keep h0 h7 [] := K3.trans Kc7 (allS (Or.inr sz_b2) all0)
 refine gs m T7 30 #[.val (.ref a1), .val (.int M), .val (.int N), .val (.int D), .val (.ref b2)] [] st7 ?_
 refine g_aload X7 hx 32 (hb hby d27_30) rfl rfl rfl ?_
 refine goA X7 hx Bd.returns rfl rfl Bd.notSynchronized (hb hby d27_32) ?_ (by decide) (by decide)
 show Q_rmCr Z a1 M N kb vs D us h0 n0 _ T7.heap _
 rw [e7]
 exact ⟨b2, k2, rfl, N7, K8, sz_b2, V7⟩
theorem d26_0 : decode jdk_65_method_132_code 0 = .ok (.iload_n 1, 1) := by decide +kernel
theorem d26_1 : decode jdk_65_method_132_code 1 = .ok (.ifCond .ne 9, 3) := by decide +kernel
theorem d26_10 : decode jdk_65_method_132_code 10 = .ok (.aload_n 0, 1) := by decide +kernel
theorem d26_11 : decode jdk_65_method_132_code 11 = .ok (.iload_n 1, 1) := by decide +kernel
theorem d26_12 : decode jdk_65_method_132_code 12 = .ok (.iload_n 2, 1) := by decide +kernel
theorem d26_13 : decode jdk_65_method_132_code 13 = .ok (.invokestatic 339, 3) := by decide +kernel
theorem pd_15 : parseMethodDescriptor "([BII)[B" = some ⟨[(.array .byte), .int, .int], some (.array .byte)⟩ := by decide +kernel
theorem d26_16 : decode jdk_65_method_132_code 16 = .ok (.areturn, 1) := by decide +kernel
theorem ef_rmCg (m : MethodId) (a1 : Addr) (M : Int32) (N : Int32) : entryFrame m #[(.ref a1), (.int M), (.int N)] 3 = mkF m 0 #[.val (.ref a1), .val (.int M), .val (.int N)] [] := by first | (simp [entryFrame, mkF, argsToLocals, Value.category]; done) | rfl
def Q_rmCg (Z : State) (a1 : Addr) (M : Int32) (N : Int32) (kb : ClassId) (vs : List Value) (D : Int32) (us : List Value) (h0 : Heap) (n0 : Nat) (rv : Option Value) (hq : Heap) (Lq : List Loc) : Prop := ∃ b : Addr, ∃ kc : ClassId, rv = some (.ref b) ∧ Fr n0 Lq ∧ Keep h0 hq [] ∧ h0.size ≤ b ∧ Arv Z hq b kc .byte D us (.int 0)
theorem rmCg (l : Launch) (Z : State) (a0 : Array Value) (hw : HW Z a0) (ws : List Jvm.Cond) (a1 : Addr) (M : Int32) (N : Int32) (kb : ClassId) (vs : List Value) (D : Int32) (us : List Value) (h0 : Heap) (n0 : Nat) (Z0 : n0 ≤ h0.size) (V_a1 : Arv Z h0 a1 kb .byte N vs (.int 0)) (hSB : own_SB M N D) (hD0 : ¬ D = (0 : Int32)) (hus : ∀ j, j < D.toNatClampNeg → us.getD j (.int 0) = vs.getD (M.toNatClampNeg + j) (.int 0)) :
  MF l (⟨"java/util/Arrays", "copyOfRange", "([BII)[B"⟩ : MethodName) jdk_65_method_132_code 3 (some (.array .byte)) ws (rO 2 1 3 56) #[(.ref a1), (.int M), (.int N)] Z h0 (Q_rmCg Z a1 M N kb vs D us h0 n0) := by
 refine own_met "java/util/Arrays" rfl (plainFor_of_name pn_28) (fun m => ef_rmCg m a1 M N) ?_
 intro p e s m below meth c s₁ Bd hx hby hml hown hnm hZ X0 e0
 have N0 := Fr.nil n0
 have hM0 := hSB.2.1
 refine g_iloadN X0 hx 1 (hb hby d26_0) rfl rfl ?_
 refine g_ifYes X0 hx 10 (hb hby d26_1) ((if0 _ _).trans (feq hM0).2) (by decide) (by decide) ?_
 refine g_aloadN X0 hx 11 (hb hby d26_10) rfl rfl rfl ?_
 refine g_iloadN X0 hx 12 (hb hby d26_11) rfl rfl ?_
 refine g_iloadN X0 hx 13 (hb hby d26_12) rfl rfl ?_
 obtain ⟨_, _, ⟨T1, L1, kk1, nn1⟩, -, X1, ⟨Lc1, hQ1, lq1, yq1, zq1⟩, st1⟩ := Jvm.LawKit.callS X0 hx (y := (⟨"java/util/Arrays", "copyOfRangeByte", "([BII)[B"⟩ : MethodName)) hown (mvT hZ (tw hw 116 rfl)) (mvT hZ (tw hw 117 rfl)) (mvT hZ (tw hw 114 rfl)) (mvT hZ (tw hw 118 rfl)) (by decide) (backOf (W := 0) (rmCr l Z a0 hw [] a1 M N kb vs D us h0 n0 Z0 V_a1 hSB hD0 hus) hZ (tw hw 118 rfl) (tw hw 114 rfl) (by decide) (by decide)) (g := (mkF m 13 #[.val (.ref a1), .val (.int M), .val (.int N)] [(.int N), (.int M), (.ref a1)])) rfl (by rw [hml]; rfl) (argsL := [(.ref a1), (.int M), (.int N)]) (rest := []) (lenOf pd_15 rfl) rfl (by show 2 * 0 + _ ≤ _; exact Nat.le_of_eq rfl) (hb hby d26_13) (fun _ _ => ⟨rfl, e0, (by decide : 0 + 1 ≤ _), (by decide : 0 + 3 ≤ _)⟩)
 dsimp only [Pt.U, Pt.locs, Pt.cells, Pt.slots] at X1 lq1 yq1 zq1 st1 hQ1
 subst yq1 zq1
 obtain ⟨b_1, kc_1, rfl, Nq1, Kq1, r1_0, r1_1⟩ := hQ1
 have N1 : Fr n0 L1 := by rw [lq1]; exact Fr.app N0 Nq1
 have g_b_1 : n0 ≤ b_1 := Nat.le_trans Z0 r1_0
 have sz_b_1 : h0.size ≤ b_1 := Nat.le_trans (Keep.refl h0 []).1 r1_0
 have Z2 : n0 ≤ T1.heap.size := Nat.le_trans Z0 Kq1.1
 have K2 : Keep h0 T1.heap [] := (Keep.refl h0 []).trans Kq1 all0
 refine gs m T1 16 #[.val (.ref a1), .val (.int M), .val (.int N)] [(.ref b_1)] st1 ?_
 refine goA X1 hx Bd.returns rfl rfl Bd.notSynchronized (hb hby d26_16) ?_ (by decide) (by decide)
 show Q_rmCg Z a1 M N kb vs D us h0 n0 _ T1.heap _
 exact ⟨b_1, kc_1, rfl, N1, K2, sz_b_1, r1_1⟩
theorem d25_0 : decode jdk_43_method_47_code 0 = .ok (.iload_n 2, 1) := by decide +kernel
theorem d25_1 : decode jdk_43_method_47_code 1 = .ok (.ifCond .ne 6, 3) := by decide +kernel
theorem d25_7 : decode jdk_43_method_47_code 7 = .ok (.new 1, 3) := by decide +kernel
theorem d25_10 : decode jdk_43_method_47_code 10 = .ok (.dup, 1) := by decide +kernel
theorem d25_11 : decode jdk_43_method_47_code 11 = .ok (.aload_n 0, 1) := by decide +kernel
theorem d25_12 : decode jdk_43_method_47_code 12 = .ok (.iload_n 1, 1) := by decide +kernel
theorem d25_13 : decode jdk_43_method_47_code 13 = .ok (.iload_n 1, 1) := by decide +kernel
theorem d25_14 : decode jdk_43_method_47_code 14 = .ok (.iload_n 2, 1) := by decide +kernel
theorem d25_15 : decode jdk_43_method_47_code 15 = .ok (.iadd, 1) := by decide +kernel
theorem d25_16 : decode jdk_43_method_47_code 16 = .ok (.invokestatic 232, 3) := by decide +kernel
theorem d25_19 : decode jdk_43_method_47_code 19 = .ok (.iconst 0, 1) := by decide +kernel
theorem d25_20 : decode jdk_43_method_47_code 20 = .ok (.invokespecial 112, 3) := by decide +kernel
theorem pd_16 : parseMethodDescriptor "([BB)V" = some ⟨[(.array .byte), .byte], none⟩ := by decide +kernel
theorem d25_23 : decode jdk_43_method_47_code 23 = .ok (.areturn, 1) := by decide +kernel
theorem ef_rmNeD (m : MethodId) (a1 : Addr) (M : Int32) (D : Int32) : entryFrame m #[(.ref a1), (.int M), (.int D)] 3 = mkF m 0 #[.val (.ref a1), .val (.int M), .val (.int D)] [] := by first | (simp [entryFrame, mkF, argsToLocals, Value.category]; done) | rfl
def Q_rmNeD (Z : State) (a1 : Addr) (M : Int32) (D : Int32) (kb : ClassId) (N : Int32) (vs : List Value) (us : List Value) (h0 : Heap) (n0 : Nat) (rv : Option Value) (hq : Heap) (Lq : List Loc) : Prop := ∃ r : Addr, ∃ w : Addr, ∃ kc : ClassId, rv = some (.ref r) ∧ Fr n0 Lq ∧ Keep h0 hq [] ∧ h0.size ≤ r ∧ Exa Z hq r "java/lang/String" ∧ Fld Z hq r "java/lang/String" "value" "[B" (.ref w) ∧ Fld Z hq r "java/lang/String" "coder" "B" (.int 0) ∧ Arv Z hq w kc .byte D us (.int 0)
theorem rmNeD (l : Launch) (Z : State) (a0 : Array Value) (hw : HW Z a0) (ws : List Jvm.Cond) (a1 : Addr) (M : Int32) (D : Int32) (kb : ClassId) (N : Int32) (vs : List Value) (us : List Value) (h0 : Heap) (n0 : Nat) (Z0 : n0 ≤ h0.size) (V_a1 : Arv Z h0 a1 kb .byte N vs (.int 0)) (O0 : Old Z n0 h0) (hSB : own_SB M N D) (hD0 : ¬ D = (0 : Int32)) (hus : ∀ j, j < D.toNatClampNeg → us.getD j (.int 0) = vs.getD (M.toNatClampNeg + j) (.int 0)) :
  MF l y113 jdk_43_method_47_code 3 (some (.object "java/lang/String")) ws (rO 3 2 7 72) #[(.ref a1), (.int M), (.int D)] Z h0 (Q_rmNeD Z a1 M D kb N vs us h0 n0) := by
 refine own_met "java/lang/StringLatin1" rfl (plainFor_of_name pn_33) (fun m => ef_rmNeD m a1 M D) ?_
 intro p e s m below meth c s₁ Bd hx hby hml hown hnm hZ X0 e0
 have N0 := Fr.nil n0
 obtain ⟨hM, hM0, hNM, hD, hMD, hDn, hD3, hoM, hoD, h4⟩ := id hSB
 refine g_iloadN X0 hx 1 (hb hby d25_0) rfl rfl ?_
 refine g_ifYes X0 hx 7 (hb hby d25_1) ((if0 _ _).trans (feq hD0).2) (by decide) (by decide) ?_
 obtain ⟨T1, h1, X1, e1, E1, A1, D1, -, st1⟩ := newO X0 hx hZ hown (tw hw 111 rfl) (tw hw 10 rfl) (tw hw 11 rfl) e0 (g := (mkF m 7 #[.val (.ref a1), .val (.int M), .val (.int D)] [])) rfl (hb hby d25_7) (by decide) (by decide)
 obtain ⟨b1, g1⟩ : ∃ z, z = h0.size := ⟨_, rfl⟩
 rw [← g1] at A1 D1 st1
 have g_b1 : n0 ≤ b1 := Nat.le_trans Z0 (Nat.le_of_eq g1.symm)
 have sz_b1 : h0.size ≤ b1 := Nat.le_trans (Keep.refl h0 []).1 (Nat.le_of_eq g1.symm)
 have Z2 : n0 ≤ h1.size := Nat.le_trans Z0 E1.1
 have O2 : Old Z n0 h1 := O0.ext E1
 have K2 : Keep h0 h1 [] := (Keep.refl h0 []).ext E1
 have F_value_b1 : Fld Z h1 b1 "java/lang/String" "value" "[B" .null := D1 (Or.inr (tw hw 24 rfl)) (ty := (.array .byte)) (by decide)
 have F_coder_b1 : Fld Z h1 b1 "java/lang/String" "coder" "B" (.int 0) := D1 (Or.inr (tw hw 25 rfl)) (ty := .byte) (by decide)
 refine gs m T1 10 #[.val (.ref a1), .val (.int M), .val (.int D)] [(.ref b1)] st1 ?_
 refine g_dup X1 hx 11 (hb hby d25_10) rfl rfl ?_
 refine g_aloadN X1 hx 12 (hb hby d25_11) rfl rfl rfl ?_
 refine g_iloadN X1 hx 13 (hb hby d25_12) rfl rfl ?_
 refine g_iloadN X1 hx 14 (hb hby d25_13) rfl rfl ?_
 refine g_iloadN X1 hx 15 (hb hby d25_14) rfl rfl ?_
 refine gs m T1 16 #[.val (.ref a1), .val (.int M), .val (.int D)] [(.int (M + D)), (.int M), (.ref a1), (.ref b1), (.ref b1)] (fun _ kS => XS.iadd X1.here hx rfl (hb hby d25_15) rfl kS) ?_
 rw [hMD]
 have q4 : Arv Z h1 a1 kb .byte N vs (.int 0) := (V_a1.ext E1)
 obtain ⟨_, _, ⟨T3, L3, kk3, nn3⟩, -, X3, ⟨Lc3, hQ3, lq3, yq3, zq3⟩, st3⟩ := Jvm.LawKit.callS X1 hx (y := (⟨"java/util/Arrays", "copyOfRange", "([BII)[B"⟩ : MethodName)) hown (mvT hZ (tw hw 112 rfl)) (mvT hZ (tw hw 113 rfl)) (mvT hZ (tw hw 114 rfl)) (mvT hZ (tw hw 115 rfl)) (by decide) (backOf (W := 2) (rmCg l Z a0 hw [] a1 M N kb vs D us h1 n0 Z2 q4 hSB hD0 hus) hZ (tw hw 115 rfl) (tw hw 114 rfl) (by decide) (by decide)) (g := (mkF m 16 #[.val (.ref a1), .val (.int M), .val (.int D)] [(.int N), (.int M), (.ref a1), (.ref b1), (.ref b1)])) rfl (by rw [hml]; rfl) (argsL := [(.ref a1), (.int M), (.int N)]) (rest := [(.ref b1), (.ref b1)]) (lenOf pd_15 rfl) rfl (by show 2 * 0 + _ ≤ _; exact Nat.le_of_eq rfl) (hb hby d25_16) (fun _ _ => ⟨rfl, e1, (by decide : 1 + 1 ≤ _), (by decide : 4 + 3 ≤ _)⟩)
 dsimp only [Pt.U, Pt.locs, Pt.cells, Pt.slots] at X3 lq3 yq3 zq3 st3 hQ3
 subst yq3 zq3
 obtain ⟨b_3, kc_3, rfl, Nq3, Kq3, r3_0, r3_1⟩ := hQ3
 have N3 : Fr n0 L3 := by rw [lq3]; exact Fr.app N0 Nq3
 have g_b_3 : n0 ≤ b_3 := Nat.le_trans Z2 r3_0
 have sz_b_3 : h0.size ≤ b_3 := Nat.le_trans K2.1 r3_0
 have Z5 : n0 ≤ T3.heap.size := Nat.le_trans Z2 Kq3.1
 have O5 : Old Z n0 T3.heap := O2.keep Kq3 all0
 have K5 : Keep h0 T3.heap [] := K2.trans Kq3 all0
 refine gs m T3 19 #[.val (.ref a1), .val (.int M), .val (.int D)] [(.ref b_3), (.ref b1), (.ref b1)] st3 ?_
 refine g_iconst X3 hx 20 0 (hb hby d25_19) rfl rfl ?_
 have q7 : Exa Z T3.heap b1 "java/lang/String" := (A1.keep Kq3)
 have q8 : Fld Z T3.heap b1 "java/lang/String" "value" "[B" .null := (F_value_b1.keep Kq3 nin0)
 have q9 : Fld Z T3.heap b1 "java/lang/String" "coder" "B" (.int 0) := (F_coder_b1.keep Kq3 nin0)
 obtain ⟨_, _, ⟨T6, L6, kk6, nn6⟩, -, X6, ⟨Lc6, hQ6, lq6, yq6, zq6⟩, st6⟩ := X3.specialBack hx (y := (⟨"java/lang/String", "<init>", "([BB)V"⟩ : MethodName)) rfl hown (mvT hZ (tw hw 127 rfl)) (mvT hZ (tw hw 128 rfl)) (mvT hZ (tw hw 129 rfl)) (by decide) (backOf (W := 1) (rmSb l Z a0 hw [] b1 b_3 T3.heap n0 Z5 q7 q8 q9 g_b1) hZ (tw hw 129 rfl) (tw hw 11 rfl) (by decide) (by decide)) (g := (mkF m 20 #[.val (.ref a1), .val (.int M), .val (.int D)] [(.int 0), (.ref b_3), (.ref b1), (.ref b1)])) rfl (by rw [hml]; rfl) (Steps.refl _) (a := b1) (argsL := [(.ref b_3), (.int 0)]) (rest := [(.ref b1)]) (lenOf pd_16 rfl) rfl (by show 2 * 0 + _ ≤ _; exact Nat.le_of_eq rfl) (hb hby d25_20) (fun _ _ => ⟨rfl, rfl, (by decide : 2 + 0 ≤ _), (by decide : 7 + 0 ≤ _)⟩)
 dsimp only [Pt.U, Pt.locs, Pt.cells, Pt.slots] at X6 lq6 yq6 zq6 st6 hQ6
 subst yq6 zq6
 obtain ⟨rfl, Nq6, Kq6, r6_0, r6_1⟩ := hQ6
 have N6 : Fr n0 L6 := by rw [lq6]; exact Fr.app N3 Nq6
 have Z10 : n0 ≤ T6.heap.size := Nat.le_trans Z5 Kq6.1
 have O10 : Old Z n0 T6.heap := O5.keep Kq6 (allS g_b1 all0)
 have K10 : Keep h0 T6.heap [] := K5.trans Kq6 (allS (Or.inr sz_b1) all0)
 refine gs m T6 23 #[.val (.ref a1), .val (.int M), .val (.int D)] [(.ref b1)] (fun _ k => st6.trans k) ?_
 refine goA X6 hx Bd.returns rfl rfl Bd.notSynchronized (hb hby d25_23) ?_ (by decide) (by decide)
 show Q_rmNeD Z a1 M D kb N vs us h0 n0 _ T6.heap _
 have q11 : Exa Z T6.heap b1 "java/lang/String" := (q7.keep Kq6)
 have q12 : Arv Z T6.heap b_3 kc_3 .byte D us (.int 0) := (r3_1.keep Kq6 (ninS (Ne.symm (Nat.ne_of_lt (Nat.lt_of_lt_of_le A1.lt r3_0))) nin0))
 exact ⟨b1, b_3, kc_3, rfl, N6, K10, sz_b1, q11, r6_0, r6_1, q12⟩
theorem d22_0 : decode jdk_42_method_92_code 0 = .ok (.aload_n 0, 1) := by decide +kernel
theorem d22_1 : decode jdk_42_method_92_code 1 = .ok (.invokevirtual 505, 3) := by decide +kernel
theorem d22_4 : decode jdk_42_method_92_code 4 = .ok (.istore_n 3, 1) := by decide +kernel
theorem d22_5 : decode jdk_42_method_92_code 5 = .ok (.iload_n 1, 1) := by decide +kernel
theorem d22_6 : decode jdk_42_method_92_code 6 = .ok (.iload_n 2, 1) := by decide +kernel
theorem d22_7 : decode jdk_42_method_92_code 7 = .ok (.iload_n 3, 1) := by decide +kernel
theorem d22_8 : decode jdk_42_method_92_code 8 = .ok (.invokestatic 521, 3) := by decide +kernel
theorem pd_17 : parseMethodDescriptor "(III)V" = some ⟨[.int, .int, .int], none⟩ := by decide +kernel
theorem d22_11 : decode jdk_42_method_92_code 11 = .ok (.iload_n 1, 1) := by decide +kernel
theorem d22_12 : decode jdk_42_method_92_code 12 = .ok (.ifCond .ne 10, 3) := by decide +kernel
theorem d22_22 : decode jdk_42_method_92_code 22 = .ok (.iload_n 2, 1) := by decide +kernel
theorem d22_23 : decode jdk_42_method_92_code 23 = .ok (.iload_n 1, 1) := by decide +kernel
theorem d22_24 : decode jdk_42_method_92_code 24 = .ok (.isub, 1) := by decide +kernel
theorem d22_25 : decode jdk_42_method_92_code 25 = .ok (.istore 4, 2) := by decide +kernel
theorem d22_27 : decode jdk_42_method_92_code 27 = .ok (.aload_n 0, 1) := by decide +kernel
theorem d22_28 : decode jdk_42_method_92_code 28 = .ok (.invokevirtual 492, 3) := by decide +kernel
theorem d22_31 : decode jdk_42_method_92_code 31 = .ok (.ifCond .eq 16, 3) := by decide +kernel
theorem d22_34 : decode jdk_42_method_92_code 34 = .ok (.aload_n 0, 1) := by decide +kernel
theorem d22_35 : decode jdk_42_method_92_code 35 = .ok (.getfield 9, 3) := by decide +kernel
theorem d22_38 : decode jdk_42_method_92_code 38 = .ok (.iload_n 1, 1) := by decide +kernel
theorem d22_39 : decode jdk_42_method_92_code 39 = .ok (.iload 4, 2) := by decide +kernel
theorem d22_41 : decode jdk_42_method_92_code 41 = .ok (.invokestatic 685, 3) := by decide +kernel
theorem pd_18 : parseMethodDescriptor "([BII)Ljava/lang/String;" = some ⟨[(.array .byte), .int, .int], some (.object "java/lang/String")⟩ := by decide +kernel
theorem d22_44 : decode jdk_42_method_92_code 44 = .ok (.goto 13, 3) := by decide +kernel
theorem d22_57 : decode jdk_42_method_92_code 57 = .ok (.areturn, 1) := by decide +kernel
def Q_rmSsD (Z : State) (a1 : Addr) (M : Int32) (N : Int32) (cs : Int32) (fv : Value) (v : Addr) (kb : ClassId) (vs : List Value) (D : Int32) (us : List Value) (h0 : Heap) (n0 : Nat) (rv : Option Value) (hq : Heap) (Lq : List Loc) : Prop := ∃ r : Addr, ∃ w : Addr, ∃ kc : ClassId, rv = some (.ref r) ∧ Fr n0 Lq ∧ Keep h0 hq [] ∧ h0.size ≤ r ∧ Exa Z hq r "java/lang/String" ∧ Fld Z hq r "java/lang/String" "value" "[B" (.ref w) ∧ Fld Z hq r "java/lang/String" "coder" "B" (.int 0) ∧ Arv Z hq w kc .byte D us (.int 0)
theorem rmSsD (l : Launch) (Z : State) (a0 : Array Value) (hw : HW Z a0) (ws : List Jvm.Cond) (a1 : Addr) (M : Int32) (N : Int32) (cs : Int32) (fv : Value) (v : Addr) (kb : ClassId) (vs : List Value) (D : Int32) (us : List Value) (h0 : Heap) (n0 : Nat) (Z0 : n0 ≤ h0.size) (E_a1 : Exa Z h0 a1 "java/lang/String") (F_value_a1 : Fld Z h0 a1 "java/lang/String" "value" "[B" (.ref v)) (F_coder_a1 : Fld Z h0 a1 "java/lang/String" "coder" "B" (.int 0)) (V_v : Arv Z h0 v kb .byte N vs (.int 0)) (O0 : Old Z n0 h0) (S_COMPACT_STRINGS : Sta Z Z.heap "java/lang/String" "COMPACT_STRINGS" "Z" (.int cs)) (hcs : ¬ cs = (0 : Int32)) (S_SIOOBE_FORMATTER : Sta Z Z.heap "jdk/internal/util/Preconditions" "SIOOBE_FORMATTER" "Ljava/util/function/BiFunction;" fv) (hfv : fv.isRef = true) (hSB : own_SB M N D) (hD0 : ¬ D = (0 : Int32)) (hus : ∀ j, j < D.toNatClampNeg → us.getD j (.int 0) = vs.getD (M.toNatClampNeg + j) (.int 0)) :
  MF l y114 jdk_42_method_92_code 5 (some (.object "java/lang/String")) ws (rO 4 2 7 86) #[(.ref a1), (.int M), (.int N)] Z h0 (Q_rmSsD Z a1 M N cs fv v kb vs D us h0 n0) := by
 refine own_met "java/lang/String" rfl (plainFor_of_name pn_4) (fun m => ef_rmCr m a1 M N) ?_
 intro p e s m below meth c s₁ Bd hx hby hml hown hnm hZ X0 e0
 have N0 := Fr.nil n0
 obtain ⟨hM, hM0, hNM, hD, -⟩ := id hSB
 refine g_aloadN X0 hx 1 (hb hby d22_0) rfl rfl rfl ?_
 obtain ⟨cq1, kq1, q1a, q1b, q1c⟩ := isOf hZ e0 E_a1
 obtain ⟨_, _, ⟨T1, L1, kk1, nn1⟩, -, X1, ⟨Lc1, hQ1, lq1, yq1, zq1⟩, st1⟩ := X0.virtualBack hx (y := y106) (z := y106) hown (mvT hZ (tw hw 50 rfl)) (mvT hZ (tw hw 51 rfl)) (notFace_of_selects (args := #[]) (mvT hZ (tw hw 53 rfl))) (mvT hZ (tw hw 53 rfl)) (mvT hZ (tw hw 52 rfl)) (by decide) (backOf (W := 0) (rmLn l Z a0 hw [] a1 cs v kb N vs h0 n0 Z0 E_a1 F_value_a1 F_coder_a1 V_v O0 S_COMPACT_STRINGS hcs) hZ (tw hw 54 rfl) (tw hw 11 rfl) (by decide) (by decide)) q1a q1c (g := (mkF m 1 #[.val (.ref a1), .val (.int M), .val (.int N), .unset, .unset] [(.ref a1)])) rfl (by rw [hml]; rfl) (Steps.refl _) (argsL := []) (rest := []) (lenOf pd_10 rfl) rfl (by show 2 * 0 + _ ≤ _; exact Nat.le_of_eq rfl) (hb hby d22_1) (fun _ _ => ⟨rfl, e0, (by decide : 0 + 0 ≤ _), (by decide : 0 + 0 ≤ _)⟩)
 dsimp only [Pt.U, Pt.locs, Pt.cells, Pt.slots] at X1 lq1 yq1 zq1 st1 hQ1
 subst yq1 zq1
 obtain ⟨rfl, Nq1, eh1⟩ := hQ1
 have N1 : Fr n0 L1 := by rw [lq1]; exact Fr.app N0 Nq1
 refine gs m T1 4 #[.val (.ref a1), .val (.int M), .val (.int N), .unset, .unset] [(.int N)] (fun _ k => st1.trans k) ?_
 refine g_istoreN X1 hx 5 (hb hby d22_4) rfl (l' := #[.val (.ref a1), .val (.int M), .val (.int N), .val (.int N), .unset]) rfl ?_
 refine g_iloadN X1 hx 6 (hb hby d22_5) rfl rfl ?_
 refine g_iloadN X1 hx 7 (hb hby d22_6) rfl rfl ?_
 refine g_iloadN X1 hx 8 (hb hby d22_7) rfl rfl ?_
 obtain ⟨_, _, ⟨T2, L2, kk2, nn2⟩, -, X2, ⟨Lc2, hQ2, lq2, yq2, zq2⟩, st2⟩ := Jvm.LawKit.callS X1 hx (y := y112) hown (mvT hZ (tw hw 100 rfl)) (mvT hZ (tw hw 101 rfl)) (mvT hZ (tw hw 11 rfl)) (mvT hZ (tw hw 102 rfl)) (by decide) (backOf (W := 0) (rmCk l Z a0 hw [] M N fv h0 n0 Z0 O0 hM hNM S_SIOOBE_FORMATTER hfv) hZ (tw hw 102 rfl) (tw hw 11 rfl) (by decide) (by decide)) (g := (mkF m 8 #[.val (.ref a1), .val (.int M), .val (.int N), .val (.int N), .unset] [(.int N), (.int N), (.int M)])) rfl (by rw [hml]; rfl) (argsL := [(.int M), (.int N), (.int N)]) (rest := []) (lenOf pd_17 rfl) rfl (by show 2 * 0 + _ ≤ _; exact Nat.le_of_eq rfl) (hb hby d22_8) (fun _ _ => ⟨rfl, eh1, (by decide : 0 + 0 ≤ _), (by decide : 0 + 0 ≤ _)⟩)
 dsimp only [Pt.U, Pt.locs, Pt.cells, Pt.slots] at X2 lq2 yq2 zq2 st2 hQ2
 subst yq2 zq2
 obtain ⟨rfl, Nq2, eh2⟩ := hQ2
 have N2 : Fr n0 L2 := by rw [lq2]; exact Fr.app N1 Nq2
 refine gs m T2 11 #[.val (.ref a1), .val (.int M), .val (.int N), .val (.int N), .unset] [] st2 ?_
 refine g_iloadN X2 hx 12 (hb hby d22_11) rfl rfl ?_
 refine g_ifYes X2 hx 22 (hb hby d22_12) ((if0 _ _).trans (feq hM0).2) (by decide) (by decide) ?_
 refine g_iloadN X2 hx 23 (hb hby d22_22) rfl rfl ?_
 refine g_iloadN X2 hx 24 (hb hby d22_23) rfl rfl ?_
 refine gs m T2 25 #[.val (.ref a1), .val (.int M), .val (.int N), .val (.int N), .unset] [(.int (N - M))] (fun _ kS => XS.isub X2.here hx rfl (hb hby d22_24) rfl kS) ?_
 rw [hD]
 refine g_istore X2 hx 27 (hb hby d22_25) rfl (l' := #[.val (.ref a1), .val (.int M), .val (.int N), .val (.int N), .val (.int D)]) rfl ?_
 refine g_aloadN X2 hx 28 (hb hby d22_27) rfl rfl rfl ?_
 obtain ⟨cq3, kq3, q3a, q3b, q3c⟩ := isOf hZ eh2 E_a1
 obtain ⟨_, _, ⟨T3, L3, kk3, nn3⟩, -, X3, ⟨Lc3, hQ3, lq3, yq3, zq3⟩, st3⟩ := X2.virtualBack hx (y := y104) (z := y104) hown (mvT hZ (tw hw 44 rfl)) (mvT hZ (tw hw 45 rfl)) (notFace_of_selects (args := #[]) (mvT hZ (tw hw 47 rfl))) (mvT hZ (tw hw 47 rfl)) (mvT hZ (tw hw 46 rfl)) (by decide) (backOf (W := 0) (rmIl l Z a0 hw [] a1 cs h0 n0 Z0 F_coder_a1 O0 S_COMPACT_STRINGS hcs) hZ (tw hw 48 rfl) (tw hw 11 rfl) (by decide) (by decide)) q3a q3c (g := (mkF m 28 #[.val (.ref a1), .val (.int M), .val (.int N), .val (.int N), .val (.int D)] [(.ref a1)])) rfl (by rw [hml]; rfl) (Steps.refl _) (argsL := []) (rest := []) (lenOf pd_8 rfl) rfl (by show 2 * 0 + _ ≤ _; exact Nat.le_of_eq rfl) (hb hby d22_28) (fun _ _ => ⟨rfl, eh2, (by decide : 0 + 0 ≤ _), (by decide : 0 + 0 ≤ _)⟩)
 dsimp only [Pt.U, Pt.locs, Pt.cells, Pt.slots] at X3 lq3 yq3 zq3 st3 hQ3
 subst yq3 zq3
 obtain ⟨rfl, Nq3, eh3⟩ := hQ3
 have N3 : Fr n0 L3 := by rw [lq3]; exact Fr.app N2 Nq3
 refine gs m T3 31 #[.val (.ref a1), .val (.int M), .val (.int N), .val (.int N), .val (.int D)] [(.int 1)] (fun _ k => st3.trans k) ?_
 refine g_ifNo X3 hx 34 (hb hby d22_31) rfl ((if0 _ _).trans (feq (by decide : ¬ ((1 : Int32) = (0 : Int32)))).1) ?_
 refine g_aloadN X3 hx 35 (hb hby d22_34) rfl rfl rfl ?_
 obtain ⟨T4, X4, e4, st4⟩ := getF X3 hx hZ hown (host := "") (Or.inl (tw hw 28 rfl)) Via.refl eh3 F_value_a1 (g := (mkF m 35 #[.val (.ref a1), .val (.int M), .val (.int N), .val (.int N), .val (.int D)] [(.ref a1)])) rfl rfl (hb hby d22_35)
 refine gs m T4 38 #[.val (.ref a1), .val (.int M), .val (.int N), .val (.int N), .val (.int D)] [(.ref v)] st4 ?_
 refine g_iloadN X4 hx 39 (hb hby d22_38) rfl rfl ?_
 refine g_iload X4 hx 41 (hb hby d22_39) rfl rfl ?_
 obtain ⟨_, _, ⟨T5, L5, kk5, nn5⟩, -, X5, ⟨Lc5, hQ5, lq5, yq5, zq5⟩, st5⟩ := Jvm.LawKit.callS X4 hx (y := y113) hown (mvT hZ (tw hw 108 rfl)) (mvT hZ (tw hw 109 rfl)) (mvT hZ (tw hw 62 rfl)) (mvT hZ (tw hw 110 rfl)) (by decide) (backOf (W := 0) (rmNeD l Z a0 hw [] v M D kb N vs us h0 n0 Z0 V_v O0 hSB hD0 hus) hZ (tw hw 110 rfl) (tw hw 62 rfl) (by decide) (by decide)) (g := (mkF m 41 #[.val (.ref a1), .val (.int M), .val (.int N), .val (.int N), .val (.int D)] [(.int D), (.int M), (.ref v)])) rfl (by rw [hml]; rfl) (argsL := [(.ref v), (.int M), (.int D)]) (rest := []) (lenOf pd_18 rfl) rfl (by show 2 * 0 + _ ≤ _; exact Nat.le_of_eq rfl) (hb hby d22_41) (fun _ _ => ⟨rfl, e4, (by decide : 0 + 2 ≤ _), (by decide : 0 + 7 ≤ _)⟩)
 dsimp only [Pt.U, Pt.locs, Pt.cells, Pt.slots] at X5 lq5 yq5 zq5 st5 hQ5
 subst yq5 zq5
 obtain ⟨r_5, w_5, kc_5, rfl, Nq5, Kq5, r5_0, r5_1, r5_2, r5_3, r5_4⟩ := hQ5
 have N5 : Fr n0 L5 := by rw [lq5]; exact Fr.app N3 Nq5
 have g_r_5 : n0 ≤ r_5 := Nat.le_trans Z0 r5_0
 have sz_r_5 : h0.size ≤ r_5 := Nat.le_trans (Keep.refl h0 []).1 r5_0
 have Z6 : n0 ≤ T5.heap.size := Nat.le_trans Z0 Kq5.1
 have O6 : Old Z n0 T5.heap := O0.keep Kq5 all0
 have K6 : Keep h0 T5.heap [] := (Keep.refl h0 []).trans Kq5 all0
 refine gs m T5 44 #[.val (.ref a1), .val (.int M), .val (.int N), .val (.int N), .val (.int D)] [(.ref r_5)] st5 ?_
 refine g_goto X5 hx 57 (hb hby d22_44) (by decide) (by decide) ?_
 refine goA X5 hx Bd.returns rfl rfl Bd.notSynchronized (hb hby d22_57) ?_ (by decide) (by decide)
 show Q_rmSsD Z a1 M N cs fv v kb vs D us h0 n0 _ T5.heap _
 exact ⟨r_5, w_5, kc_5, rfl, N5, K6, sz_r_5, r5_1, r5_2, r5_3, r5_4⟩
theorem d21_0 : decode jdk_42_method_91_code 0 = .ok (.aload_n 0, 1) := by decide +kernel
theorem d21_1 : decode jdk_42_method_91_code 1 = .ok (.iload_n 1, 1) := by decide +kernel
theorem d21_2 : decode jdk_42_method_91_code 2 = .ok (.aload_n 0, 1) := by decide +kernel
theorem d21_3 : decode jdk_42_method_91_code 3 = .ok (.invokevirtual 505, 3) := by decide +kernel
theorem d21_6 : decode jdk_42_method_91_code 6 = .ok (.invokevirtual 681, 3) := by decide +kernel
theorem pd_19 : parseMethodDescriptor "(II)Ljava/lang/String;" = some ⟨[.int, .int], some (.object "java/lang/String")⟩ := by decide +kernel
theorem d21_9 : decode jdk_42_method_91_code 9 = .ok (.areturn, 1) := by decide +kernel
theorem ef_rmStD (m : MethodId) (a1 : Addr) (M : Int32) : entryFrame m #[(.ref a1), (.int M)] 2 = mkF m 0 #[.val (.ref a1), .val (.int M)] [] := by first | (simp [entryFrame, mkF, argsToLocals, Value.category]; done) | rfl
def Q_rmStD (Z : State) (a1 : Addr) (M : Int32) (cs : Int32) (fv : Value) (v : Addr) (kb : ClassId) (N : Int32) (vs : List Value) (D : Int32) (us : List Value) (h0 : Heap) (n0 : Nat) (rv : Option Value) (hq : Heap) (Lq : List Loc) : Prop := ∃ r : Addr, ∃ w : Addr, ∃ kc : ClassId, rv = some (.ref r) ∧ Fr n0 Lq ∧ Keep h0 hq [] ∧ h0.size ≤ r ∧ Exa Z hq r "java/lang/String" ∧ Fld Z hq r "java/lang/String" "value" "[B" (.ref w) ∧ Fld Z hq r "java/lang/String" "coder" "B" (.int 0) ∧ Arv Z hq w kc .byte D us (.int 0)
theorem rmStD (l : Launch) (Z : State) (a0 : Array Value) (hw : HW Z a0) (ws : List Jvm.Cond) (a1 : Addr) (M : Int32) (cs : Int32) (fv : Value) (v : Addr) (kb : ClassId) (N : Int32) (vs : List Value) (D : Int32) (us : List Value) (h0 : Heap) (n0 : Nat) (Z0 : n0 ≤ h0.size) (E_a1 : Exa Z h0 a1 "java/lang/String") (F_value_a1 : Fld Z h0 a1 "java/lang/String" "value" "[B" (.ref v)) (F_coder_a1 : Fld Z h0 a1 "java/lang/String" "coder" "B" (.int 0)) (V_v : Arv Z h0 v kb .byte N vs (.int 0)) (O0 : Old Z n0 h0) (S_COMPACT_STRINGS : Sta Z Z.heap "java/lang/String" "COMPACT_STRINGS" "Z" (.int cs)) (hcs : ¬ cs = (0 : Int32)) (S_SIOOBE_FORMATTER : Sta Z Z.heap "jdk/internal/util/Preconditions" "SIOOBE_FORMATTER" "Ljava/util/function/BiFunction;" fv) (hfv : fv.isRef = true) (hSB : own_SB M N D) (hD0 : ¬ D = (0 : Int32)) (hus : ∀ j, j < D.toNatClampNeg → us.getD j (.int 0) = vs.getD (M.toNatClampNeg + j) (.int 0)) :
  MF l y115 jdk_42_method_91_code 2 (some (.object "java/lang/String")) ws (rO 5 2 7 102) #[(.ref a1), (.int M)] Z h0 (Q_rmStD Z a1 M cs fv v kb N vs D us h0 n0) := by
 refine own_met "java/lang/String" rfl (plainFor_of_name pn_4) (fun m => ef_rmStD m a1 M) ?_
 intro p e s m below meth c s₁ Bd hx hby hml hown hnm hZ X0 e0
 have N0 := Fr.nil n0
 refine g_aloadN X0 hx 1 (hb hby d21_0) rfl rfl rfl ?_
 refine g_iloadN X0 hx 2 (hb hby d21_1) rfl rfl ?_
 refine g_aloadN X0 hx 3 (hb hby d21_2) rfl rfl rfl ?_
 obtain ⟨cq1, kq1, q1a, q1b, q1c⟩ := isOf hZ e0 E_a1
 obtain ⟨_, _, ⟨T1, L1, kk1, nn1⟩, -, X1, ⟨Lc1, hQ1, lq1, yq1, zq1⟩, st1⟩ := X0.virtualBack hx (y := y106) (z := y106) hown (mvT hZ (tw hw 50 rfl)) (mvT hZ (tw hw 51 rfl)) (notFace_of_selects (args := #[]) (mvT hZ (tw hw 53 rfl))) (mvT hZ (tw hw 53 rfl)) (mvT hZ (tw hw 52 rfl)) (by decide) (backOf (W := 2) (rmLn l Z a0 hw [] a1 cs v kb N vs h0 n0 Z0 E_a1 F_value_a1 F_coder_a1 V_v O0 S_COMPACT_STRINGS hcs) hZ (tw hw 54 rfl) (tw hw 11 rfl) (by decide) (by decide)) q1a q1c (g := (mkF m 3 #[.val (.ref a1), .val (.int M)] [(.ref a1), (.int M), (.ref a1)])) rfl (by rw [hml]; rfl) (Steps.refl _) (argsL := []) (rest := [(.int M), (.ref a1)]) (lenOf pd_10 rfl) rfl (by show 2 * 0 + _ ≤ _; exact Nat.le_of_eq rfl) (hb hby d21_3) (fun _ _ => ⟨rfl, e0, (by decide : 0 + 0 ≤ _), (by decide : 0 + 0 ≤ _)⟩)
 dsimp only [Pt.U, Pt.locs, Pt.cells, Pt.slots] at X1 lq1 yq1 zq1 st1 hQ1
 subst yq1 zq1
 obtain ⟨rfl, Nq1, eh1⟩ := hQ1
 have N1 : Fr n0 L1 := by rw [lq1]; exact Fr.app N0 Nq1
 refine gs m T1 6 #[.val (.ref a1), .val (.int M)] [(.int N), (.int M), (.ref a1)] (fun _ k => st1.trans k) ?_
 obtain ⟨cq2, kq2, q2a, q2b, q2c⟩ := isOf hZ eh1 E_a1
 obtain ⟨_, _, ⟨T2, L2, kk2, nn2⟩, -, X2, ⟨Lc2, hQ2, lq2, yq2, zq2⟩, st2⟩ := X1.virtualBack hx (y := y114) (z := y114) hown (mvT hZ (tw hw 95 rfl)) (mvT hZ (tw hw 96 rfl)) (notFace_of_selects (args := #[]) (mvT hZ (tw hw 98 rfl))) (mvT hZ (tw hw 98 rfl)) (mvT hZ (tw hw 97 rfl)) (by decide) (backOf (W := 0) (rmSsD l Z a0 hw [] a1 M N cs fv v kb vs D us h0 n0 Z0 E_a1 F_value_a1 F_coder_a1 V_v O0 S_COMPACT_STRINGS hcs S_SIOOBE_FORMATTER hfv hSB hD0 hus) hZ (tw hw 99 rfl) (tw hw 11 rfl) (by decide) (by decide)) q2a q2c (g := (mkF m 6 #[.val (.ref a1), .val (.int M)] [(.int N), (.int M), (.ref a1)])) rfl (by rw [hml]; rfl) (Steps.refl _) (argsL := [(.int M), (.int N)]) (rest := []) (lenOf pd_19 rfl) rfl (by show 2 * 0 + _ ≤ _; exact Nat.le_of_eq rfl) (hb hby d21_6) (fun _ _ => ⟨rfl, eh1, (by decide : 0 + 2 ≤ _), (by decide : 0 + 7 ≤ _)⟩)
 dsimp only [Pt.U, Pt.locs, Pt.cells, Pt.slots] at X2 lq2 yq2 zq2 st2 hQ2
 subst yq2 zq2
 obtain ⟨r_2, w_2, kc_2, rfl, Nq2, Kq2, r2_0, r2_1, r2_2, r2_3, r2_4⟩ := hQ2
 have N2 : Fr n0 L2 := by rw [lq2]; exact Fr.app N1 Nq2
 have g_r_2 : n0 ≤ r_2 := Nat.le_trans Z0 r2_0
 have sz_r_2 : h0.size ≤ r_2 := Nat.le_trans (Keep.refl h0 []).1 r2_0
 have Z3 : n0 ≤ T2.heap.size := Nat.le_trans Z0 Kq2.1
 have O3 : Old Z n0 T2.heap := O0.keep Kq2 all0
 have K3 : Keep h0 T2.heap [] := (Keep.refl h0 []).trans Kq2 all0
 refine gs m T2 9 #[.val (.ref a1), .val (.int M)] [(.ref r_2)] (fun _ k => st2.trans k) ?_
 refine goA X2 hx Bd.returns rfl rfl Bd.notSynchronized (hb hby d21_9) ?_ (by decide) (by decide)
 show Q_rmStD Z a1 M cs fv v kb N vs D us h0 n0 _ T2.heap _
 exact ⟨r_2, w_2, kc_2, rfl, N2, K3, sz_r_2, r2_1, r2_2, r2_3, r2_4⟩
theorem d25_4 : decode jdk_43_method_47_code 4 = .ok (.ldc 151, 2) := by decide +kernel
theorem d25_6 : decode jdk_43_method_47_code 6 = .ok (.areturn, 1) := by decide +kernel
theorem ef_rmNe0 (m : MethodId) (a1 : Addr) (M : Int32) : entryFrame m #[(.ref a1), (.int M), (.int 0)] 3 = mkF m 0 #[.val (.ref a1), .val (.int M), .val (.int 0)] [] := by first | (simp [entryFrame, mkF, argsToLocals, Value.category]; done) | rfl
def Q_rmNe0 (Z : State) (a1 : Addr) (M : Int32) (kb : ClassId) (N : Int32) (vs : List Value) (h0 : Heap) (n0 : Nat) (rv : Option Value) (hq : Heap) (Lq : List Loc) : Prop := ∃ r : Addr, ∃ w : Addr, ∃ kc : ClassId, rv = some (.ref r) ∧ Fr n0 Lq ∧ Keep h0 hq [] ∧ Exa Z hq r "java/lang/String" ∧ Fld Z hq r "java/lang/String" "value" "[B" (.ref w) ∧ Fld Z hq r "java/lang/String" "coder" "B" (.int 0) ∧ Arv Z hq w kc .byte (0 : Int32) [] (.int 0)
theorem rmNe0 (l : Launch) (Z : State) (a0 : Array Value) (hw : HW Z a0) (ws : List Jvm.Cond) (a1 : Addr) (M : Int32) (kb : ClassId) (N : Int32) (vs : List Value) (h0 : Heap) (n0 : Nat) (Z0 : n0 ≤ h0.size) (V_a1 : Arv Z h0 a1 kb .byte N vs (.int 0)) (O0 : Old Z n0 h0) (hSB : own_SB M N (0 : Int32)) (hCH2 : Jvm.Lit.constHeld Z "java/lang/StringLatin1" 151) (hCW : Jvm.Lit.compactW.before a0 Z = true) :
  MetFree l y113 (head1 (Jvm.Cond.code y113 jdk_43_method_47_code 3 (some (.object "java/lang/String")) :: ws) (rO 0 2 4 0)) (fun a U => a = #[(.ref a1), (.int M), (.int 0)] ∧ Z.Warmed39 U.vm ∧ U.heap = h0 ∧ U.vm.interned = Z.vm.interned) (fun _ _ _ _ _ => True) (fun _ U o U' => ∃ rv Lq, o = .returned rv ∧ Q_rmNe0 Z a1 M kb N vs h0 n0 rv U'.heap Lq ∧ ReturnedEndW U o U' Lq (rO 0 2 4 0).cells (rO 0 2 4 0).slots) := by
 refine MetFree.of_bodySF (plainFor_of_name pn_33) hisR ?_
 intro p e s m args below meth c s₁ Bd hml0 hP hK
 obtain ⟨rfl, hZ, hh, hI⟩ := hP
 have hx := Bd.exec
 have hby := Bd.bytes
 have hml : c.maxLocals = 3 := hml0
 have hown : s.vm.findClass "java/lang/StringLatin1" = some m.cls := findClass_of_methodNamed Bd.named
 have hnm := (name_of_methodNamed Bd.named Bd.method).1
 have X0 : Stand p l e (rO 0 2 4 0) s m #[(.ref a1), (.int M), (.int 0)] below meth c s₁ [] 0 0 := Stand.of_body Bd
 have e0 : s₁.heap = h0 := by rw [← hh, Bd.state]; rfl
 have N0 := Fr.nil n0
 have X0 : Stand p l e (rO 0 2 4 0) (s.setVm s.vm) m #[(.ref a1), (.int M), (.int 0)] below meth c s₁ [] 0 0 := X0
 have hS : s.Since s.vm h0.size := (State.WarmedH.refl s).since _
 have hk := Nat.le_refl h0.size
 have hZ : Z.Warmed39 (s.setVm s.vm).vm := hZ
 have hI : (s.setVm s.vm).vm.interned = Z.vm.interned := hI
 have hown : (s.setVm s.vm).vm.findClass "java/lang/StringLatin1" = some m.cls := hown
 refine of_goW (ef_rmNe0 m a1 M) ?_
 obtain ⟨hM, hM0, hNM, hD, hMD, hDn, hD3, hoM, hoD, h4⟩ := id hSB
 refine g_iloadN X0 hx 1 (hb hby d25_0) rfl rfl ?_
 refine g_ifNo X0 hx 4 (hb hby d25_1) rfl ((if0 _ _).trans (teq (by decide : (0 : Int32) = (0 : Int32))).2) ?_
 obtain ⟨ls1, T1, h1, k1, lb1, lk1, X1, e1, E1, hS, hk, hZ, hown, lE1, lC1, lV1, lA1, -, -, -, Lt1, st1⟩ := ldcSVL X0 hx hZ hown (tw hw 159 rfl) (own_sA hw) e0 hS hk (Fr.nil _) (fun b cl q => by rw [show s.heap = h0 from hh]; exact O0.2.2 b cl q) (own_IB hI) (List.not_mem_nil) hCH2 hCW (vs := []) (z := (0 : Int32)) ⟨by decide, by decide⟩ (by decide) (by decide) (g := (mkF m 4 #[.val (.ref a1), .val (.int M), .val (.int 0)] [])) rfl (hb hby d25_4) (n := 0) (by decide) (by decide) (by decide) (by decide)
 have Z2 : n0 ≤ h1.size := Nat.le_trans Z0 E1.1
 have O2 : Old Z n0 h1 := O0.ext E1
 have K2 : Keep h0 h1 [] := (Keep.refl h0 []).ext E1
 refine gs m T1 6 #[.val (.ref a1), .val (.int M), .val (.int 0)] [(.ref ls1)] st1 ?_
 refine goAW hS X1 (by rw [e1]; exact hk) hx Bd.returns rfl rfl Bd.notSynchronized (hb hby d25_6) ?_ (by decide) (by decide)
 show Q_rmNe0 Z a1 M kb N vs h0 n0 _ T1.heap _
 rw [e1]
 exact ⟨ls1, lb1, lk1, rfl, N0, K2, lE1, lV1, lC1, lA1⟩
def Q_rmSs0 (Z : State) (a1 : Addr) (M : Int32) (N : Int32) (cs : Int32) (fv : Value) (v : Addr) (kb : ClassId) (vs : List Value) (h0 : Heap) (n0 : Nat) (rv : Option Value) (hq : Heap) (Lq : List Loc) : Prop := ∃ r : Addr, ∃ w : Addr, ∃ kc : ClassId, rv = some (.ref r) ∧ Fr n0 Lq ∧ Keep h0 hq [] ∧ Exa Z hq r "java/lang/String" ∧ Fld Z hq r "java/lang/String" "value" "[B" (.ref w) ∧ Fld Z hq r "java/lang/String" "coder" "B" (.int 0) ∧ Arv Z hq w kc .byte (0 : Int32) [] (.int 0)
theorem rmSs0 (l : Launch) (Z : State) (a0 : Array Value) (hw : HW Z a0) (ws : List Jvm.Cond) (a1 : Addr) (M : Int32) (N : Int32) (cs : Int32) (fv : Value) (v : Addr) (kb : ClassId) (vs : List Value) (h0 : Heap) (n0 : Nat) (Z0 : n0 ≤ h0.size) (E_a1 : Exa Z h0 a1 "java/lang/String") (F_value_a1 : Fld Z h0 a1 "java/lang/String" "value" "[B" (.ref v)) (F_coder_a1 : Fld Z h0 a1 "java/lang/String" "coder" "B" (.int 0)) (V_v : Arv Z h0 v kb .byte N vs (.int 0)) (O0 : Old Z n0 h0) (S_COMPACT_STRINGS : Sta Z Z.heap "java/lang/String" "COMPACT_STRINGS" "Z" (.int cs)) (hcs : ¬ cs = (0 : Int32)) (S_SIOOBE_FORMATTER : Sta Z Z.heap "jdk/internal/util/Preconditions" "SIOOBE_FORMATTER" "Ljava/util/function/BiFunction;" fv) (hfv : fv.isRef = true) (hSB : own_SB M N (0 : Int32)) (hCH2 : Jvm.Lit.constHeld Z "java/lang/StringLatin1" 151) (hCW : Jvm.Lit.compactW.before a0 Z = true) :
  MetFree l y114 (head1 (Jvm.Cond.code y114 jdk_42_method_92_code 5 (some (.object "java/lang/String")) :: ws) (rO 2 2 4 29)) (fun a U => a = #[(.ref a1), (.int M), (.int N)] ∧ Z.Warmed39 U.vm ∧ U.heap = h0 ∧ U.vm.interned = Z.vm.interned) (fun _ _ _ _ _ => True) (fun _ U o U' => ∃ rv Lq, o = .returned rv ∧ Q_rmSs0 Z a1 M N cs fv v kb vs h0 n0 rv U'.heap Lq ∧ ReturnedEndW U o U' Lq (rO 2 2 4 29).cells (rO 2 2 4 29).slots) := by
 refine MetFree.of_bodySF (plainFor_of_name pn_4) hisR ?_
 intro p e s m args below meth c s₁ Bd hml0 hP hK
 obtain ⟨rfl, hZ, hh, hI⟩ := hP
 have hx := Bd.exec
 have hby := Bd.bytes
 have hml : c.maxLocals = 5 := hml0
 have hown : s.vm.findClass "java/lang/String" = some m.cls := findClass_of_methodNamed Bd.named
 have hnm := (name_of_methodNamed Bd.named Bd.method).1
 have X0 : Stand p l e (rO 2 2 4 29) s m #[(.ref a1), (.int M), (.int N)] below meth c s₁ [] 0 0 := Stand.of_body Bd
 have e0 : s₁.heap = h0 := by rw [← hh, Bd.state]; rfl
 have N0 := Fr.nil n0
 have X0 : Stand p l e (rO 2 2 4 29) (s.setVm s.vm) m #[(.ref a1), (.int M), (.int N)] below meth c s₁ [] 0 0 := X0
 have hS : s.Since s.vm h0.size := (State.WarmedH.refl s).since _
 have hk := Nat.le_refl h0.size
 have hZ : Z.Warmed39 (s.setVm s.vm).vm := hZ
 have hI : (s.setVm s.vm).vm.interned = Z.vm.interned := hI
 have hown : (s.setVm s.vm).vm.findClass "java/lang/String" = some m.cls := hown
 refine of_goW (ef_rmCr m a1 M N) ?_
 obtain ⟨hM, hM0, hNM, hD, -⟩ := id hSB
 refine g_aloadN X0 hx 1 (hb hby d22_0) rfl rfl rfl ?_
 obtain ⟨cq1, kq1, q1a, q1b, q1c⟩ := isOf hZ e0 E_a1
 obtain ⟨_, _, ⟨T1, L1, kk1, nn1⟩, -, X1, ⟨Lc1, hQ1, lq1, yq1, zq1⟩, st1⟩ := X0.virtualBack hx (y := y106) (z := y106) hown (mvT hZ (tw hw 50 rfl)) (mvT hZ (tw hw 51 rfl)) (notFace_of_selects (args := #[]) (mvT hZ (tw hw 53 rfl))) (mvT hZ (tw hw 53 rfl)) (mvT hZ (tw hw 52 rfl)) (by decide) (backOf (W := 0) (rmLn l Z a0 hw [] a1 cs v kb N vs h0 n0 Z0 E_a1 F_value_a1 F_coder_a1 V_v O0 S_COMPACT_STRINGS hcs) hZ (tw hw 54 rfl) (tw hw 11 rfl) (by decide) (by decide)) q1a q1c (g := (mkF m 1 #[.val (.ref a1), .val (.int M), .val (.int N), .unset, .unset] [(.ref a1)])) rfl (by rw [hml]; rfl) (Steps.refl _) (argsL := []) (rest := []) (lenOf pd_10 rfl) rfl (by show 2 * 0 + _ ≤ _; exact Nat.le_of_eq rfl) (hb hby d22_1) (fun _ _ => ⟨rfl, e0, (by decide : 0 + 0 ≤ _), (by decide : 0 + 0 ≤ _)⟩)
 dsimp only [Pt.U, Pt.locs, Pt.cells, Pt.slots] at X1 lq1 yq1 zq1 st1 hQ1
 subst yq1 zq1
 obtain ⟨rfl, Nq1, eh1⟩ := hQ1
 have N1 : Fr n0 L1 := by rw [lq1]; exact Fr.app N0 Nq1
 refine gs m T1 4 #[.val (.ref a1), .val (.int M), .val (.int N), .unset, .unset] [(.int N)] (fun _ k => st1.trans k) ?_
 refine g_istoreN X1 hx 5 (hb hby d22_4) rfl (l' := #[.val (.ref a1), .val (.int M), .val (.int N), .val (.int N), .unset]) rfl ?_
 refine g_iloadN X1 hx 6 (hb hby d22_5) rfl rfl ?_
 refine g_iloadN X1 hx 7 (hb hby d22_6) rfl rfl ?_
 refine g_iloadN X1 hx 8 (hb hby d22_7) rfl rfl ?_
 obtain ⟨_, _, ⟨T2, L2, kk2, nn2⟩, -, X2, ⟨Lc2, hQ2, lq2, yq2, zq2⟩, st2⟩ := Jvm.LawKit.callS X1 hx (y := y112) hown (mvT hZ (tw hw 100 rfl)) (mvT hZ (tw hw 101 rfl)) (mvT hZ (tw hw 11 rfl)) (mvT hZ (tw hw 102 rfl)) (by decide) (backOf (W := 0) (rmCk l Z a0 hw [] M N fv h0 n0 Z0 O0 hM hNM S_SIOOBE_FORMATTER hfv) hZ (tw hw 102 rfl) (tw hw 11 rfl) (by decide) (by decide)) (g := (mkF m 8 #[.val (.ref a1), .val (.int M), .val (.int N), .val (.int N), .unset] [(.int N), (.int N), (.int M)])) rfl (by rw [hml]; rfl) (argsL := [(.int M), (.int N), (.int N)]) (rest := []) (lenOf pd_17 rfl) rfl (by show 2 * 0 + _ ≤ _; exact Nat.le_of_eq rfl) (hb hby d22_8) (fun _ _ => ⟨rfl, eh1, (by decide : 0 + 0 ≤ _), (by decide : 0 + 0 ≤ _)⟩)
 dsimp only [Pt.U, Pt.locs, Pt.cells, Pt.slots] at X2 lq2 yq2 zq2 st2 hQ2
 subst yq2 zq2
 obtain ⟨rfl, Nq2, eh2⟩ := hQ2
 have N2 : Fr n0 L2 := by rw [lq2]; exact Fr.app N1 Nq2
 refine gs m T2 11 #[.val (.ref a1), .val (.int M), .val (.int N), .val (.int N), .unset] [] st2 ?_
 refine g_iloadN X2 hx 12 (hb hby d22_11) rfl rfl ?_
 refine g_ifYes X2 hx 22 (hb hby d22_12) ((if0 _ _).trans (feq hM0).2) (by decide) (by decide) ?_
 refine g_iloadN X2 hx 23 (hb hby d22_22) rfl rfl ?_
 refine g_iloadN X2 hx 24 (hb hby d22_23) rfl rfl ?_
 refine gs m T2 25 #[.val (.ref a1), .val (.int M), .val (.int N), .val (.int N), .unset] [(.int (N - M))] (fun _ kS => XS.isub X2.here hx rfl (hb hby d22_24) rfl kS) ?_
 rw [hD]
 refine g_istore X2 hx 27 (hb hby d22_25) rfl (l' := #[.val (.ref a1), .val (.int M), .val (.int N), .val (.int N), .val (.int 0)]) rfl ?_
 refine g_aloadN X2 hx 28 (hb hby d22_27) rfl rfl rfl ?_
 obtain ⟨cq3, kq3, q3a, q3b, q3c⟩ := isOf hZ eh2 E_a1
 obtain ⟨_, _, ⟨T3, L3, kk3, nn3⟩, -, X3, ⟨Lc3, hQ3, lq3, yq3, zq3⟩, st3⟩ := X2.virtualBack hx (y := y104) (z := y104) hown (mvT hZ (tw hw 44 rfl)) (mvT hZ (tw hw 45 rfl)) (notFace_of_selects (args := #[]) (mvT hZ (tw hw 47 rfl))) (mvT hZ (tw hw 47 rfl)) (mvT hZ (tw hw 46 rfl)) (by decide) (backOf (W := 0) (rmIl l Z a0 hw [] a1 cs h0 n0 Z0 F_coder_a1 O0 S_COMPACT_STRINGS hcs) hZ (tw hw 48 rfl) (tw hw 11 rfl) (by decide) (by decide)) q3a q3c (g := (mkF m 28 #[.val (.ref a1), .val (.int M), .val (.int N), .val (.int N), .val (.int 0)] [(.ref a1)])) rfl (by rw [hml]; rfl) (Steps.refl _) (argsL := []) (rest := []) (lenOf pd_8 rfl) rfl (by show 2 * 0 + _ ≤ _; exact Nat.le_of_eq rfl) (hb hby d22_28) (fun _ _ => ⟨rfl, eh2, (by decide : 0 + 0 ≤ _), (by decide : 0 + 0 ≤ _)⟩)
 dsimp only [Pt.U, Pt.locs, Pt.cells, Pt.slots] at X3 lq3 yq3 zq3 st3 hQ3
 subst yq3 zq3
 obtain ⟨rfl, Nq3, eh3⟩ := hQ3
 have N3 : Fr n0 L3 := by rw [lq3]; exact Fr.app N2 Nq3
 refine gs m T3 31 #[.val (.ref a1), .val (.int M), .val (.int N), .val (.int N), .val (.int 0)] [(.int 1)] (fun _ k => st3.trans k) ?_
 refine g_ifNo X3 hx 34 (hb hby d22_31) rfl ((if0 _ _).trans (feq (by decide : ¬ ((1 : Int32) = (0 : Int32)))).1) ?_
 refine g_aloadN X3 hx 35 (hb hby d22_34) rfl rfl rfl ?_
 obtain ⟨T4, X4, e4, st4⟩ := getF X3 hx hZ hown (host := "") (Or.inl (tw hw 28 rfl)) Via.refl eh3 F_value_a1 (g := (mkF m 35 #[.val (.ref a1), .val (.int M), .val (.int N), .val (.int N), .val (.int 0)] [(.ref a1)])) rfl rfl (hb hby d22_35)
 refine gs m T4 38 #[.val (.ref a1), .val (.int M), .val (.int N), .val (.int N), .val (.int 0)] [(.ref v)] st4 ?_
 refine g_iloadN X4 hx 39 (hb hby d22_38) rfl rfl ?_
 refine g_iload X4 hx 41 (hb hby d22_39) rfl rfl ?_
 obtain ⟨_, _, ⟨T5, L5, kk5, nn5⟩, -, X5, hS5, hG5, ⟨Lc5, hQ5, lq5, yq5, zq5⟩, st5⟩ := callSS X4 hx (y := y113) hown (mvT hZ (tw hw 108 rfl)) (mvT hZ (tw hw 109 rfl)) (mvT hZ (tw hw 62 rfl)) (mvT hZ (tw hw 110 rfl)) (by decide) (own_backSI (W := 0) (rmNe0 l Z a0 hw [] v M kb N vs h0 n0 Z0 V_v O0 hSB hCH2 hCW) hZ hI (tw hw 110 rfl) (tw hw 62 rfl) (by decide) (by decide)) (g := (mkF m 41 #[.val (.ref a1), .val (.int M), .val (.int N), .val (.int N), .val (.int 0)] [(.int 0), (.int M), (.ref v)])) rfl (by rw [hml]; rfl) (argsL := [(.ref v), (.int M), (.int 0)]) (rest := []) (lenOf pd_18 rfl) rfl (by show 2 * 0 + _ ≤ _; exact Nat.le_of_eq rfl) (hb hby d22_41) (fun _ _ => ⟨rfl, e4, (by decide : 0 + 2 ≤ _), (by decide : 0 + 4 ≤ _)⟩)
 dsimp only [Pt.U, Pt.locs, Pt.cells, Pt.slots] at X5 lq5 yq5 zq5 st5 hQ5 hS5 hG5
 subst yq5 zq5
 rw [e4] at hG5
 obtain ⟨X5, hS, hZ, hown⟩ := rebS hS hk X5 hS5 hG5 hZ hown
 have hk := Nat.le_refl T5.heap.size
 obtain ⟨r_5, w_5, kc_5, rfl, Nq5, Kq5, r5_0, r5_1, r5_2, r5_3⟩ := hQ5
 have N5 : Fr n0 L5 := by rw [lq5]; exact Fr.app N3 Nq5
 have Z6 : n0 ≤ T5.heap.size := Nat.le_trans Z0 Kq5.1
 have O6 : Old Z n0 T5.heap := O0.keep Kq5 all0
 have K6 : Keep h0 T5.heap [] := (Keep.refl h0 []).trans Kq5 all0
 refine gs m T5 44 #[.val (.ref a1), .val (.int M), .val (.int N), .val (.int N), .val (.int 0)] [(.ref r_5)] (fun _ k => st5.trans k) ?_
 refine g_goto X5 hx 57 (hb hby d22_44) (by decide) (by decide) ?_
 refine goAW hS X5 hk hx Bd.returns rfl rfl Bd.notSynchronized (hb hby d22_57) ?_ (by decide) (by decide)
 show Q_rmSs0 Z a1 M N cs fv v kb vs h0 n0 _ T5.heap _
 exact ⟨r_5, w_5, kc_5, rfl, N5, K6, r5_0, r5_1, r5_2, r5_3⟩
def Q_rmSt0 (Z : State) (a1 : Addr) (M : Int32) (cs : Int32) (fv : Value) (v : Addr) (kb : ClassId) (N : Int32) (vs : List Value) (h0 : Heap) (n0 : Nat) (rv : Option Value) (hq : Heap) (Lq : List Loc) : Prop := ∃ r : Addr, ∃ w : Addr, ∃ kc : ClassId, rv = some (.ref r) ∧ Fr n0 Lq ∧ Keep h0 hq [] ∧ Exa Z hq r "java/lang/String" ∧ Fld Z hq r "java/lang/String" "value" "[B" (.ref w) ∧ Fld Z hq r "java/lang/String" "coder" "B" (.int 0) ∧ Arv Z hq w kc .byte (0 : Int32) [] (.int 0)
theorem rmSt0 (l : Launch) (Z : State) (a0 : Array Value) (hw : HW Z a0) (ws : List Jvm.Cond) (a1 : Addr) (M : Int32) (cs : Int32) (fv : Value) (v : Addr) (kb : ClassId) (N : Int32) (vs : List Value) (h0 : Heap) (n0 : Nat) (Z0 : n0 ≤ h0.size) (E_a1 : Exa Z h0 a1 "java/lang/String") (F_value_a1 : Fld Z h0 a1 "java/lang/String" "value" "[B" (.ref v)) (F_coder_a1 : Fld Z h0 a1 "java/lang/String" "coder" "B" (.int 0)) (V_v : Arv Z h0 v kb .byte N vs (.int 0)) (O0 : Old Z n0 h0) (S_COMPACT_STRINGS : Sta Z Z.heap "java/lang/String" "COMPACT_STRINGS" "Z" (.int cs)) (hcs : ¬ cs = (0 : Int32)) (S_SIOOBE_FORMATTER : Sta Z Z.heap "jdk/internal/util/Preconditions" "SIOOBE_FORMATTER" "Ljava/util/function/BiFunction;" fv) (hfv : fv.isRef = true) (hSB : own_SB M N (0 : Int32)) (hCH2 : Jvm.Lit.constHeld Z "java/lang/StringLatin1" 151) (hCW : Jvm.Lit.compactW.before a0 Z = true) :
  MetFree l y115 (head1 (Jvm.Cond.code y115 jdk_42_method_91_code 2 (some (.object "java/lang/String")) :: ws) (rO 3 2 4 45)) (fun a U => a = #[(.ref a1), (.int M)] ∧ Z.Warmed39 U.vm ∧ U.heap = h0 ∧ U.vm.interned = Z.vm.interned) (fun _ _ _ _ _ => True) (fun _ U o U' => ∃ rv Lq, o = .returned rv ∧ Q_rmSt0 Z a1 M cs fv v kb N vs h0 n0 rv U'.heap Lq ∧ ReturnedEndW U o U' Lq (rO 3 2 4 45).cells (rO 3 2 4 45).slots) := by
 refine MetFree.of_bodySF (plainFor_of_name pn_4) hisR ?_
 intro p e s m args below meth c s₁ Bd hml0 hP hK
 obtain ⟨rfl, hZ, hh, hI⟩ := hP
 have hx := Bd.exec
 have hby := Bd.bytes
 have hml : c.maxLocals = 2 := hml0
 have hown : s.vm.findClass "java/lang/String" = some m.cls := findClass_of_methodNamed Bd.named
 have hnm := (name_of_methodNamed Bd.named Bd.method).1
 have X0 : Stand p l e (rO 3 2 4 45) s m #[(.ref a1), (.int M)] below meth c s₁ [] 0 0 := Stand.of_body Bd
 have e0 : s₁.heap = h0 := by rw [← hh, Bd.state]; rfl
 have N0 := Fr.nil n0
 have X0 : Stand p l e (rO 3 2 4 45) (s.setVm s.vm) m #[(.ref a1), (.int M)] below meth c s₁ [] 0 0 := X0
 have hS : s.Since s.vm h0.size := (State.WarmedH.refl s).since _
 have hk := Nat.le_refl h0.size
 have hZ : Z.Warmed39 (s.setVm s.vm).vm := hZ
 have hI : (s.setVm s.vm).vm.interned = Z.vm.interned := hI
 have hown : (s.setVm s.vm).vm.findClass "java/lang/String" = some m.cls := hown
 refine of_goW (ef_rmStD m a1 M) ?_
 refine g_aloadN X0 hx 1 (hb hby d21_0) rfl rfl rfl ?_
 refine g_iloadN X0 hx 2 (hb hby d21_1) rfl rfl ?_
 refine g_aloadN X0 hx 3 (hb hby d21_2) rfl rfl rfl ?_
 obtain ⟨cq1, kq1, q1a, q1b, q1c⟩ := isOf hZ e0 E_a1
 obtain ⟨_, _, ⟨T1, L1, kk1, nn1⟩, -, X1, ⟨Lc1, hQ1, lq1, yq1, zq1⟩, st1⟩ := X0.virtualBack hx (y := y106) (z := y106) hown (mvT hZ (tw hw 50 rfl)) (mvT hZ (tw hw 51 rfl)) (notFace_of_selects (args := #[]) (mvT hZ (tw hw 53 rfl))) (mvT hZ (tw hw 53 rfl)) (mvT hZ (tw hw 52 rfl)) (by decide) (backOf (W := 2) (rmLn l Z a0 hw [] a1 cs v kb N vs h0 n0 Z0 E_a1 F_value_a1 F_coder_a1 V_v O0 S_COMPACT_STRINGS hcs) hZ (tw hw 54 rfl) (tw hw 11 rfl) (by decide) (by decide)) q1a q1c (g := (mkF m 3 #[.val (.ref a1), .val (.int M)] [(.ref a1), (.int M), (.ref a1)])) rfl (by rw [hml]; rfl) (Steps.refl _) (argsL := []) (rest := [(.int M), (.ref a1)]) (lenOf pd_10 rfl) rfl (by show 2 * 0 + _ ≤ _; exact Nat.le_of_eq rfl) (hb hby d21_3) (fun _ _ => ⟨rfl, e0, (by decide : 0 + 0 ≤ _), (by decide : 0 + 0 ≤ _)⟩)
 dsimp only [Pt.U, Pt.locs, Pt.cells, Pt.slots] at X1 lq1 yq1 zq1 st1 hQ1
 subst yq1 zq1
 obtain ⟨rfl, Nq1, eh1⟩ := hQ1
 have N1 : Fr n0 L1 := by rw [lq1]; exact Fr.app N0 Nq1
 refine gs m T1 6 #[.val (.ref a1), .val (.int M)] [(.int N), (.int M), (.ref a1)] (fun _ k => st1.trans k) ?_
 obtain ⟨cq2, kq2, q2a, q2b, q2c⟩ := isOf hZ eh1 E_a1
 obtain ⟨_, _, ⟨T2, L2, kk2, nn2⟩, -, X2, hS2, hG2, ⟨Lc2, hQ2, lq2, yq2, zq2⟩, st2⟩ := X1.virtualBackS hx (y := y114) (z := y114) hown (mvT hZ (tw hw 95 rfl)) (mvT hZ (tw hw 96 rfl)) (notFace_of_selects (args := #[]) (mvT hZ (tw hw 98 rfl))) (mvT hZ (tw hw 98 rfl)) (mvT hZ (tw hw 97 rfl)) (by decide) (own_backSI (W := 0) (rmSs0 l Z a0 hw [] a1 M N cs fv v kb vs h0 n0 Z0 E_a1 F_value_a1 F_coder_a1 V_v O0 S_COMPACT_STRINGS hcs S_SIOOBE_FORMATTER hfv hSB hCH2 hCW) hZ hI (tw hw 99 rfl) (tw hw 11 rfl) (by decide) (by decide)) q2a q2c (g := (mkF m 6 #[.val (.ref a1), .val (.int M)] [(.int N), (.int M), (.ref a1)])) rfl (by rw [hml]; rfl) (Steps.refl _) (argsL := [(.int M), (.int N)]) (rest := []) (lenOf pd_19 rfl) rfl (by show 2 * 0 + _ ≤ _; exact Nat.le_of_eq rfl) (hb hby d21_6) (fun _ _ => ⟨rfl, eh1, (by decide : 0 + 2 ≤ _), (by decide : 0 + 4 ≤ _)⟩)
 dsimp only [Pt.U, Pt.locs, Pt.cells, Pt.slots] at X2 lq2 yq2 zq2 st2 hQ2 hS2 hG2
 subst yq2 zq2
 rw [eh1] at hG2
 obtain ⟨X2, hS, hZ, hown⟩ := rebS hS hk X2 hS2 hG2 hZ hown
 have hk := Nat.le_refl T2.heap.size
 obtain ⟨r_2, w_2, kc_2, rfl, Nq2, Kq2, r2_0, r2_1, r2_2, r2_3⟩ := hQ2
 have N2 : Fr n0 L2 := by rw [lq2]; exact Fr.app N1 Nq2
 have Z3 : n0 ≤ T2.heap.size := Nat.le_trans Z0 Kq2.1
 have O3 : Old Z n0 T2.heap := O0.keep Kq2 all0
 have K3 : Keep h0 T2.heap [] := (Keep.refl h0 []).trans Kq2 all0
 refine gs m T2 9 #[.val (.ref a1), .val (.int M)] [(.ref r_2)] (fun _ k => st2.trans k) ?_
 refine goAW hS X2 hk hx Bd.returns rfl rfl Bd.notSynchronized (hb hby d21_9) ?_ (by decide) (by decide)
 show Q_rmSt0 Z a1 M cs fv v kb N vs h0 n0 _ T2.heap _
 exact ⟨r_2, w_2, kc_2, rfl, N2, K3, r2_0, r2_1, r2_2, r2_3⟩
theorem d6_0 : decode prog_4_method_8_code 0 = .ok (.aload_n 0, 1) := by decide +kernel
theorem d6_1 : decode prog_4_method_8_code 1 = .ok (.bipush 59, 2) := by decide +kernel
theorem d6_3 : decode prog_4_method_8_code 3 = .ok (.invokevirtual 115, 3) := by decide +kernel
theorem d6_6 : decode prog_4_method_8_code 6 = .ok (.istore_n 1, 1) := by decide +kernel
theorem d6_7 : decode prog_4_method_8_code 7 = .ok (.iload_n 1, 1) := by decide +kernel
theorem d6_8 : decode prog_4_method_8_code 8 = .ok (.ifCond .lt 20, 3) := by decide +kernel
theorem d6_28 : decode prog_4_method_8_code 28 = .ok (.iconst 0, 1) := by decide +kernel
theorem d6_29 : decode prog_4_method_8_code 29 = .ok (.ireturn, 1) := by decide +kernel
theorem pn_6 : plainName "com/example/managed_transactions/managedtransactions/jdbc/SqlText" = true := by first | (simp [plainName, overriddenIn]; done) | decide +kernel
theorem ef_rmMs0 (m : MethodId) (a1 : Addr) : entryFrame m #[(.ref a1)] 2 = mkF m 0 #[.val (.ref a1), .unset] [] := by first | (simp [entryFrame, mkF, argsToLocals, Value.category]; done) | rfl
def Q_rmMs0 (Z : State) (a1 : Addr) (cs : Int32) (v : Addr) (kb : ClassId) (N : Int32) (g : Nat → Int32) (f : Nat → Int32) (nn : Nat) (h0 : Heap) (n0 : Nat) (rv : Option Value) (hq : Heap) (Lq : List Loc) : Prop := ∃ r : Int32, rv = some (.int r) ∧ Fr n0 Lq ∧ hq = h0 ∧ own_mh f nn r
theorem rmMs0 (l : Launch) (Z : State) (a0 : Array Value) (hw : HW Z a0) (ws : List Jvm.Cond) (a1 : Addr) (cs : Int32) (v : Addr) (kb : ClassId) (N : Int32) (g : Nat → Int32) (f : Nat → Int32) (nn : Nat) (h0 : Heap) (n0 : Nat) (Z0 : n0 ≤ h0.size) (E_a1 : Exa Z h0 a1 "java/lang/String") (F_value_a1 : Fld Z h0 a1 "java/lang/String" "value" "[B" (.ref v)) (F_coder_a1 : Fld Z h0 a1 "java/lang/String" "coder" "B" (.int 0)) (V_v : Arv Z h0 v kb .byte N (own_tb g) (.int 0)) (O0 : Old Z n0 h0) (S_COMPACT_STRINGS : Sta Z Z.heap "java/lang/String" "COMPACT_STRINGS" "Z" (.int cs)) (hcs : ¬ cs = (0 : Int32)) (hN : Ix N nn) (hnn : nn ≤ 20) (hrg : own_lt f nn) (hby' : own_by f g nn) (hNz : N = (0 : Int32)) :
  MF l y116 prog_4_method_8_code 2 (some .boolean) ws (rO 4 0 0 59) #[(.ref a1)] Z h0 (Q_rmMs0 Z a1 cs v kb N g f nn h0 n0) := by
 refine own_met "com/example/managed_transactions/managedtransactions/jdbc/SqlText" rfl (plainFor_of_name pn_6) (fun m => ef_rmMs0 m a1) ?_
 intro p e s m below meth c s₁ Bd hx hby hml hown hnm hZ X0 e0
 have N0 := Fr.nil n0
 refine g_aloadN X0 hx 1 (hb hby d6_0) rfl rfl rfl ?_
 refine g_bipush X0 hx 3 59 (hb hby d6_1) rfl rfl ?_
 obtain ⟨cq1, kq1, q1a, q1b, q1c⟩ := isOf hZ e0 E_a1
 obtain ⟨_, _, ⟨T1, L1, kk1, nn1⟩, -, X1, ⟨Lc1, hQ1, lq1, yq1, zq1⟩, st1⟩ := X0.virtualBack hx (y := y110) (z := y110) hown (mvT hZ (tw hw 34 rfl)) (mvT hZ (tw hw 35 rfl)) (notFace_of_selects (args := #[]) (mvT hZ (tw hw 37 rfl))) (mvT hZ (tw hw 37 rfl)) (mvT hZ (tw hw 36 rfl)) (by decide) (backOf (W := 0) (rmIz l Z a0 hw [] a1 cs v kb N g f nn h0 n0 Z0 E_a1 F_value_a1 F_coder_a1 V_v O0 S_COMPACT_STRINGS hcs hN hnn hrg hby') hZ (tw hw 38 rfl) (tw hw 11 rfl) (by decide) (by decide)) q1a q1c (g := (mkF m 3 #[.val (.ref a1), .unset] [(.int 59), (.ref a1)])) rfl (by rw [hml]; rfl) (Steps.refl _) (argsL := [(.int 59)]) (rest := []) (lenOf pd_4 rfl) rfl (by show 2 * 0 + _ ≤ _; exact Nat.le_of_eq rfl) (hb hby d6_3) (fun _ _ => ⟨rfl, e0, (by decide : 0 + 0 ≤ _), (by decide : 0 + 0 ≤ _)⟩)
 dsimp only [Pt.U, Pt.locs, Pt.cells, Pt.slots] at X1 lq1 yq1 zq1 st1 hQ1
 subst yq1 zq1
 obtain ⟨r_1, rfl, Nq1, eh1, r1_0⟩ := hQ1
 have N1 : Fr n0 L1 := by rw [lq1]; exact Fr.app N0 Nq1
 refine gs m T1 6 #[.val (.ref a1), .unset] [(.int r_1)] (fun _ k => st1.trans k) ?_
 refine g_istoreN X1 hx 7 (hb hby d6_6) rfl (l' := #[.val (.ref a1), .val (.int r_1)]) rfl ?_
 refine g_iloadN X1 hx 8 (hb hby d6_7) rfl rfl ?_
 refine g_ifYes X1 hx 28 (hb hby d6_8) ((if0 _ _).trans (tlt (own_f59z r1_0 ((own_ixeq hN own_ix0).mp hNz))).1) (by decide) (by decide) ?_
 refine g_iconst X1 hx 29 0 (hb hby d6_28) rfl rfl ?_
 refine goN X1 hx (t := .boolean) Bd.returns (by simp) Bd.notSynchronized (hb hby d6_29) ?_ (by decide) (by decide)
 show Q_rmMs0 Z a1 cs v kb N g f nn h0 n0 _ T1.heap _
 rw [eh1]
 exact ⟨(0 : Int32), rfl, N1, rfl, (own_mhn r1_0 (own_f59z r1_0 ((own_ixeq hN own_ix0).mp hNz)))⟩
theorem d6_11 : decode prog_4_method_8_code 11 = .ok (.aload_n 0, 1) := by decide +kernel
theorem d6_12 : decode prog_4_method_8_code 12 = .ok (.iload_n 1, 1) := by decide +kernel
theorem d6_13 : decode prog_4_method_8_code 13 = .ok (.iconst 1, 1) := by decide +kernel
theorem d6_14 : decode prog_4_method_8_code 14 = .ok (.iadd, 1) := by decide +kernel
theorem d6_15 : decode prog_4_method_8_code 15 = .ok (.invokevirtual 118, 3) := by decide +kernel
theorem pd_20 : parseMethodDescriptor "(I)Ljava/lang/String;" = some ⟨[.int], some (.object "java/lang/String")⟩ := by decide +kernel
theorem d6_18 : decode prog_4_method_8_code 18 = .ok (.invokevirtual 122, 3) := by decide +kernel
theorem d6_21 : decode prog_4_method_8_code 21 = .ok (.ifCond .ne 7, 3) := by decide +kernel
theorem d6_24 : decode prog_4_method_8_code 24 = .ok (.iconst 1, 1) := by decide +kernel
theorem d6_25 : decode prog_4_method_8_code 25 = .ok (.goto 4, 3) := by decide +kernel
def Q_rmMs (Z : State) (a1 : Addr) (cs : Int32) (fv : Value) (ci : Addr) (tA : Addr) (kA : ClassId) (v : Addr) (kb : ClassId) (N : Int32) (g : Nat → Int32) (f : Nat → Int32) (nn : Nat) (h0 : Heap) (n0 : Nat) (rv : Option Value) (hq : Heap) (Lq : List Loc) : Prop := ∃ r : Int32, rv = some (.int r) ∧ Fr n0 Lq ∧ Keep h0 hq [] ∧ own_mh f nn r
theorem rmMs (l : Launch) (Z : State) (a0 : Array Value) (hw : HW Z a0) (ws : List Jvm.Cond) (a1 : Addr) (cs : Int32) (fv : Value) (ci : Addr) (tA : Addr) (kA : ClassId) (v : Addr) (kb : ClassId) (N : Int32) (g : Nat → Int32) (f : Nat → Int32) (nn : Nat) (h0 : Heap) (n0 : Nat) (Z0 : n0 ≤ h0.size) (E_a1 : Exa Z h0 a1 "java/lang/String") (F_value_a1 : Fld Z h0 a1 "java/lang/String" "value" "[B" (.ref v)) (F_coder_a1 : Fld Z h0 a1 "java/lang/String" "coder" "B" (.int 0)) (V_v : Arv Z h0 v kb .byte N (own_tb g) (.int 0)) (E_ci : Exa Z h0 ci "java/lang/CharacterDataLatin1") (V_tA : Arv Z h0 tA kA .int (256 : Int32) own_tab (.int 0)) (O0 : Old Z n0 h0) (S_COMPACT_STRINGS : Sta Z Z.heap "java/lang/String" "COMPACT_STRINGS" "Z" (.int cs)) (hcs : ¬ cs = (0 : Int32)) (S_SIOOBE_FORMATTER : Sta Z Z.heap "jdk/internal/util/Preconditions" "SIOOBE_FORMATTER" "Ljava/util/function/BiFunction;" fv) (hfv : fv.isRef = true) (S_A : Sta Z Z.heap "java/lang/CharacterDataLatin1" "A" "[I" (.ref tA)) (S_instance : Sta Z Z.heap "java/lang/CharacterDataLatin1" "instance" "Ljava/lang/CharacterDataLatin1;" (.ref ci)) (hCH2 : Jvm.Lit.constHeld Z "java/lang/StringLatin1" 151) (hCW : Jvm.Lit.compactW.before a0 Z = true) (hN : Ix N nn) (hnn : nn ≤ 20) (h4 : nn ≤ 4) (hrg : own_lt f nn) (hby' : own_by f g nn) :
  MetFree l y116 (head1 (Jvm.Cond.code y116 prog_4_method_8_code 2 (some .boolean) :: ws) (rO 6 2 7 115)) (fun a U => a = #[(.ref a1)] ∧ Z.Warmed39 U.vm ∧ U.heap = h0 ∧ U.vm.interned = Z.vm.interned) (fun _ _ _ _ _ => True) (fun _ U o U' => ∃ rv Lq, o = .returned rv ∧ Q_rmMs Z a1 cs fv ci tA kA v kb N g f nn h0 n0 rv U'.heap Lq ∧ ReturnedEndW U o U' Lq (rO 6 2 7 115).cells (rO 6 2 7 115).slots) := by
 refine MetFree.of_bodySF (plainFor_of_name pn_6) hisR ?_
 intro p e s m args below meth c s₁ Bd hml0 hP hK
 obtain ⟨rfl, hZ, hh, hI⟩ := hP
 have hx := Bd.exec
 have hby := Bd.bytes
 have hml : c.maxLocals = 2 := hml0
 have hown : s.vm.findClass "com/example/managed_transactions/managedtransactions/jdbc/SqlText" = some m.cls := findClass_of_methodNamed Bd.named
 have hnm := (name_of_methodNamed Bd.named Bd.method).1
 have X0 : Stand p l e (rO 6 2 7 115) s m #[(.ref a1)] below meth c s₁ [] 0 0 := Stand.of_body Bd
 have e0 : s₁.heap = h0 := by rw [← hh, Bd.state]; rfl
 have N0 := Fr.nil n0
 have X0 : Stand p l e (rO 6 2 7 115) (s.setVm s.vm) m #[(.ref a1)] below meth c s₁ [] 0 0 := X0
 have hS : s.Since s.vm h0.size := (State.WarmedH.refl s).since _
 have hk := Nat.le_refl h0.size
 have hZ : Z.Warmed39 (s.setVm s.vm).vm := hZ
 have hI : (s.setVm s.vm).vm.interned = Z.vm.interned := hI
 have hown : (s.setVm s.vm).vm.findClass "com/example/managed_transactions/managedtransactions/jdbc/SqlText" = some m.cls := hown
 refine of_goW (ef_rmMs0 m a1) ?_
 refine g_aloadN X0 hx 1 (hb hby d6_0) rfl rfl rfl ?_
 refine g_bipush X0 hx 3 59 (hb hby d6_1) rfl rfl ?_
 obtain ⟨cq1, kq1, q1a, q1b, q1c⟩ := isOf hZ e0 E_a1
 obtain ⟨_, _, ⟨T1, L1, kk1, nn1⟩, -, X1, ⟨Lc1, hQ1, lq1, yq1, zq1⟩, st1⟩ := X0.virtualBack hx (y := y110) (z := y110) hown (mvT hZ (tw hw 34 rfl)) (mvT hZ (tw hw 35 rfl)) (notFace_of_selects (args := #[]) (mvT hZ (tw hw 37 rfl))) (mvT hZ (tw hw 37 rfl)) (mvT hZ (tw hw 36 rfl)) (by decide) (backOf (W := 0) (rmIz l Z a0 hw [] a1 cs v kb N g f nn h0 n0 Z0 E_a1 F_value_a1 F_coder_a1 V_v O0 S_COMPACT_STRINGS hcs hN hnn hrg hby') hZ (tw hw 38 rfl) (tw hw 11 rfl) (by decide) (by decide)) q1a q1c (g := (mkF m 3 #[.val (.ref a1), .unset] [(.int 59), (.ref a1)])) rfl (by rw [hml]; rfl) (Steps.refl _) (argsL := [(.int 59)]) (rest := []) (lenOf pd_4 rfl) rfl (by show 2 * 0 + _ ≤ _; exact Nat.le_of_eq rfl) (hb hby d6_3) (fun _ _ => ⟨rfl, e0, (by decide : 0 + 0 ≤ _), (by decide : 0 + 0 ≤ _)⟩)
 dsimp only [Pt.U, Pt.locs, Pt.cells, Pt.slots] at X1 lq1 yq1 zq1 st1 hQ1
 subst yq1 zq1
 obtain ⟨r_1, rfl, Nq1, eh1, r1_0⟩ := hQ1
 have N1 : Fr n0 L1 := by rw [lq1]; exact Fr.app N0 Nq1
 refine gs m T1 6 #[.val (.ref a1), .unset] [(.int r_1)] (fun _ k => st1.trans k) ?_
 refine g_istoreN X1 hx 7 (hb hby d6_6) rfl (l' := #[.val (.ref a1), .val (.int r_1)]) rfl ?_
 refine g_iloadN X1 hx 8 (hb hby d6_7) rfl rfl ?_
 by_cases hc8 : r_1 < (0 : Int32)
 ·refine g_ifYes X1 hx 28 (hb hby d6_8) ((if0 _ _).trans (tlt hc8).1) (by decide) (by decide) ?_
  refine g_iconst X1 hx 29 0 (hb hby d6_28) rfl rfl ?_
  refine goNW hS X1 (by rw [eh1]; exact hk) hx (t := .boolean) Bd.returns (by simp) Bd.notSynchronized (hb hby d6_29) ?_ (by decide) (by decide)
  show Q_rmMs Z a1 cs fv ci tA kA v kb N g f nn h0 n0 _ T1.heap _
  rw [eh1]
  exact ⟨(0 : Int32), rfl, N1, (Keep.refl h0 []), (own_mhn r1_0 hc8)⟩
 ·refine g_ifNo X1 hx 11 (hb hby d6_8) rfl ((if0 _ _).trans (flt hc8).1) ?_
  obtain ⟨k, hi, hlt, hk59, hkn⟩ := own_f59k r1_0 hc8
  have hMi : Ix (r_1 + (1 : Int32)) (k + 1) := own_ixS hi (by omega)
  refine g_aloadN X1 hx 12 (hb hby d6_11) rfl rfl rfl ?_
  refine g_iloadN X1 hx 13 (hb hby d6_12) rfl rfl ?_
  refine g_iconst X1 hx 14 1 (hb hby d6_13) rfl rfl ?_
  refine gs m T1 15 #[.val (.ref a1), .val (.int r_1)] [(.int (r_1 + (1 : Int32))), (.ref a1)] (fun _ kS => XS.iadd X1.here hx rfl (hb hby d6_14) rfl kS) ?_
  rcases Nat.eq_or_lt_of_le (Nat.succ_le_of_lt hlt) with hz | hz
  ·obtain ⟨cq2, kq2, q2a, q2b, q2c⟩ := isOf hZ eh1 E_a1
   obtain ⟨_, _, ⟨T2, L2, kk2, nn2⟩, -, X2, hS2, hG2, ⟨Lc2, hQ2, lq2, yq2, zq2⟩, st2⟩ := X1.virtualBackS hx (y := y115) (z := y115) hown (mvT hZ (tw hw 90 rfl)) (mvT hZ (tw hw 91 rfl)) (notFace_of_selects (args := #[]) (mvT hZ (tw hw 93 rfl))) (mvT hZ (tw hw 93 rfl)) (mvT hZ (tw hw 92 rfl)) (by decide) (own_backSI (W := 0) (rmSt0 l Z a0 hw [] a1 (r_1 + (1 : Int32)) cs fv v kb N (own_tb g) h0 n0 Z0 E_a1 F_value_a1 F_coder_a1 V_v O0 S_COMPACT_STRINGS hcs S_SIOOBE_FORMATTER hfv (own_sb0 hMi hN (Nat.succ_pos k) hz h4) hCH2 hCW) hZ hI (tw hw 94 rfl) (tw hw 11 rfl) (by decide) (by decide)) q2a q2c (g := (mkF m 15 #[.val (.ref a1), .val (.int r_1)] [(.int (r_1 + (1 : Int32))), (.ref a1)])) rfl (by rw [hml]; rfl) (Steps.refl _) (argsL := [(.int (r_1 + (1 : Int32)))]) (rest := []) (lenOf pd_20 rfl) rfl (by show 2 * 0 + _ ≤ _; exact Nat.le_of_eq rfl) (hb hby d6_15) (fun _ _ => ⟨rfl, eh1, (by decide : 0 + 2 ≤ _), (by decide : 0 + 4 ≤ _)⟩)
   dsimp only [Pt.U, Pt.locs, Pt.cells, Pt.slots] at X2 lq2 yq2 zq2 st2 hQ2 hS2 hG2
   subst yq2 zq2
   rw [eh1] at hG2
   obtain ⟨X2, hS, hZ, hown⟩ := rebS hS hk X2 hS2 hG2 hZ hown
   have hk := Nat.le_refl T2.heap.size
   obtain ⟨r_2, w_2, kc_2, rfl, Nq2, Kq2, r2_0, r2_1, r2_2, r2_3⟩ := hQ2
   have N2 : Fr n0 L2 := by rw [lq2]; exact Fr.app N1 Nq2
   have Z3 : n0 ≤ T2.heap.size := Nat.le_trans Z0 Kq2.1
   have O3 : Old Z n0 T2.heap := O0.keep Kq2 all0
   have K3 : Keep h0 T2.heap [] := (Keep.refl h0 []).trans Kq2 all0
   refine gs m T2 18 #[.val (.ref a1), .val (.int r_1)] [(.ref r_2)] (fun _ k => st2.trans k) ?_
   have Vz : Arv Z T2.heap w_2 kc_2 .byte (0 : Int32) (own_tb own_0) (.int 0) := r2_3.pad own_tz
   have q5 : Exa Z T2.heap ci "java/lang/CharacterDataLatin1" := (E_ci.keep Kq2)
   have q6 : Arv Z T2.heap tA kA .int (256 : Int32) own_tab (.int 0) := (V_tA.keep Kq2 nin0)
   obtain ⟨cq4, kq4, q4a, q4b, q4c⟩ := isOf hZ rfl r2_0
   obtain ⟨_, _, ⟨T4, L4, kk4, nn4⟩, -, X4, ⟨Lc4, hQ4, lq4, yq4, zq4⟩, st4⟩ := X2.virtualBack hx (y := y107) (z := y107) hown (mvT hZ (tw hw 130 rfl)) (mvT hZ (tw hw 131 rfl)) (notFace_of_selects (args := #[]) (mvT hZ (tw hw 133 rfl))) (mvT hZ (tw hw 133 rfl)) (mvT hZ (tw hw 132 rfl)) (by decide) (backOf (W := 0) (rmBl l Z a0 hw [] r_2 cs w_2 kc_2 (0 : Int32) own_0 (own_sf f (k + 1)) (nn - (k + 1)) ci tA kA T2.heap n0 Z3 r2_0 r2_1 r2_2 Vz q5 q6 O3 S_COMPACT_STRINGS hcs S_A S_instance (by rw [show (nn - (k + 1)) = 0 from by omega]; exact own_ix0) (by omega) (own_ltS hrg) (fun j hj => absurd hj (by omega))) hZ (tw hw 134 rfl) (tw hw 11 rfl) (by decide) (by decide)) q4a q4c (g := (mkF m 18 #[.val (.ref a1), .val (.int r_1)] [(.ref r_2)])) rfl (by rw [hml]; rfl) (Steps.refl _) (argsL := []) (rest := []) (lenOf pd_8 rfl) rfl (by show 2 * 0 + _ ≤ _; exact Nat.le_of_eq rfl) (hb hby d6_18) (fun _ _ => ⟨rfl, rfl, (by decide : 2 + 0 ≤ _), (by decide : 4 + 0 ≤ _)⟩)
   dsimp only [Pt.U, Pt.locs, Pt.cells, Pt.slots] at X4 lq4 yq4 zq4 st4 hQ4
   subst yq4 zq4
   obtain ⟨r_4, rfl, Nq4, eh4, r4_0⟩ := hQ4
   have N4 : Fr n0 L4 := by rw [lq4]; exact Fr.app N2 Nq4
   refine gs m T4 21 #[.val (.ref a1), .val (.int r_1)] [(.int r_4)] (fun _ k => st4.trans k) ?_
   by_cases hc21 : r_4 = (0 : Int32)
   ·refine g_ifNo X4 hx 24 (hb hby d6_21) rfl ((if0 _ _).trans (teq hc21).2) ?_
    refine g_iconst X4 hx 25 1 (hb hby d6_24) rfl rfl ?_
    refine g_goto X4 hx 29 (hb hby d6_25) (by decide) (by decide) ?_
    refine goNW hS X4 (by rw [eh4]; exact hk) hx (t := .boolean) Bd.returns (by simp) Bd.notSynchronized (hb hby d6_29) ?_ (by decide) (by decide)
    show Q_rmMs Z a1 cs fv ci tA kA v kb N g f nn h0 n0 _ T4.heap _
    rw [eh4]
    exact ⟨(1 : Int32), rfl, N4, K3, (own_mhk hlt hk59 hkn rfl (fun j hj => rfl) r4_0 (Or.inl ⟨hc21, rfl⟩))⟩
   ·refine g_ifYes X4 hx 28 (hb hby d6_21) ((if0 _ _).trans (feq hc21).2) (by decide) (by decide) ?_
    refine g_iconst X4 hx 29 0 (hb hby d6_28) rfl rfl ?_
    refine goNW hS X4 (by rw [eh4]; exact hk) hx (t := .boolean) Bd.returns (by simp) Bd.notSynchronized (hb hby d6_29) ?_ (by decide) (by decide)
    show Q_rmMs Z a1 cs fv ci tA kA v kb N g f nn h0 n0 _ T4.heap _
    rw [eh4]
    exact ⟨(0 : Int32), rfl, N4, K3, (own_mhk hlt hk59 hkn rfl (fun j hj => rfl) r4_0 (Or.inr ⟨hc21, rfl⟩))⟩
  ·obtain ⟨cq7, kq7, q7a, q7b, q7c⟩ := isOf hZ eh1 E_a1
   obtain ⟨_, _, ⟨T7, L7, kk7, nn7⟩, -, X7, ⟨Lc7, hQ7, lq7, yq7, zq7⟩, st7⟩ := X1.virtualBack hx (y := y115) (z := y115) hown (mvT hZ (tw hw 90 rfl)) (mvT hZ (tw hw 91 rfl)) (notFace_of_selects (args := #[]) (mvT hZ (tw hw 93 rfl))) (mvT hZ (tw hw 93 rfl)) (mvT hZ (tw hw 92 rfl)) (by decide) (backOf (W := 0) (rmStD l Z a0 hw [] a1 (r_1 + (1 : Int32)) cs fv v kb N (own_tb g) (N - (r_1 + (1 : Int32))) (own_tb (own_sh g (k + 1))) h0 n0 Z0 E_a1 F_value_a1 F_coder_a1 V_v O0 S_COMPACT_STRINGS hcs S_SIOOBE_FORMATTER hfv (own_sb hMi hN (Nat.succ_pos k) (Nat.le_of_lt hz) h4) (fun q => by have hh := (own_ixeq (own_ixsub hMi hN (Nat.le_of_lt hz)) own_ix0).mp q; omega) (fun j hj => own_us g hMi _ j hj (own_sb hMi hN (Nat.succ_pos k) (Nat.le_of_lt hz) h4).2.2.2.2.2.2.1)) hZ (tw hw 94 rfl) (tw hw 11 rfl) (by decide) (by decide)) q7a q7c (g := (mkF m 15 #[.val (.ref a1), .val (.int r_1)] [(.int (r_1 + (1 : Int32))), (.ref a1)])) rfl (by rw [hml]; rfl) (Steps.refl _) (argsL := [(.int (r_1 + (1 : Int32)))]) (rest := []) (lenOf pd_20 rfl) rfl (by show 2 * 0 + _ ≤ _; exact Nat.le_of_eq rfl) (hb hby d6_15) (fun _ _ => ⟨rfl, eh1, (by decide : 0 + 2 ≤ _), (by decide : 0 + 7 ≤ _)⟩)
   dsimp only [Pt.U, Pt.locs, Pt.cells, Pt.slots] at X7 lq7 yq7 zq7 st7 hQ7
   subst yq7 zq7
   obtain ⟨r_7, w_7, kc_7, rfl, Nq7, Kq7, r7_0, r7_1, r7_2, r7_3, r7_4⟩ := hQ7
   have N7 : Fr n0 L7 := by rw [lq7]; exact Fr.app N1 Nq7
   have g_r_7 : n0 ≤ r_7 := Nat.le_trans Z0 r7_0
   have sz_r_7 : h0.size ≤ r_7 := Nat.le_trans (Keep.refl h0 []).1 r7_0
   have Z8 : n0 ≤ T7.heap.size := Nat.le_trans Z0 Kq7.1
   have hk := Nat.le_trans hk Kq7.1
   have O8 : Old Z n0 T7.heap := O0.keep Kq7 all0
   have K8 : Keep h0 T7.heap [] := (Keep.refl h0 []).trans Kq7 all0
   refine gs m T7 18 #[.val (.ref a1), .val (.int r_1)] [(.ref r_7)] (fun _ k => st7.trans k) ?_
   have q10 : Exa Z T7.heap ci "java/lang/CharacterDataLatin1" := (E_ci.keep Kq7)
   have q11 : Arv Z T7.heap tA kA .int (256 : Int32) own_tab (.int 0) := (V_tA.keep Kq7 nin0)
   obtain ⟨cq9, kq9, q9a, q9b, q9c⟩ := isOf hZ rfl r7_1
   obtain ⟨_, _, ⟨T9, L9, kk9, nn9⟩, -, X9, ⟨Lc9, hQ9, lq9, yq9, zq9⟩, st9⟩ := X7.virtualBack hx (y := y107) (z := y107) hown (mvT hZ (tw hw 130 rfl)) (mvT hZ (tw hw 131 rfl)) (notFace_of_selects (args := #[]) (mvT hZ (tw hw 133 rfl))) (mvT hZ (tw hw 133 rfl)) (mvT hZ (tw hw 132 rfl)) (by decide) (backOf (W := 0) (rmBl l Z a0 hw [] r_7 cs w_7 kc_7 (N - (r_1 + (1 : Int32))) (own_sh g (k + 1)) (own_sf f (k + 1)) (nn - (k + 1)) ci tA kA T7.heap n0 Z8 r7_1 r7_2 r7_3 r7_4 q10 q11 O8 S_COMPACT_STRINGS hcs S_A S_instance (own_ixsub hMi hN (Nat.le_of_lt hz)) (by omega) (own_ltS hrg) (own_byS hby' h4)) hZ (tw hw 134 rfl) (tw hw 11 rfl) (by decide) (by decide)) q9a q9c (g := (mkF m 18 #[.val (.ref a1), .val (.int r_1)] [(.ref r_7)])) rfl (by rw [hml]; rfl) (Steps.refl _) (argsL := []) (rest := []) (lenOf pd_8 rfl) rfl (by show 2 * 0 + _ ≤ _; exact Nat.le_of_eq rfl) (hb hby d6_18) (fun _ _ => ⟨rfl, rfl, (by decide : 2 + 0 ≤ _), (by decide : 7 + 0 ≤ _)⟩)
   dsimp only [Pt.U, Pt.locs, Pt.cells, Pt.slots] at X9 lq9 yq9 zq9 st9 hQ9
   subst yq9 zq9
   obtain ⟨r_9, rfl, Nq9, eh9, r9_0⟩ := hQ9
   have N9 : Fr n0 L9 := by rw [lq9]; exact Fr.app N7 Nq9
   refine gs m T9 21 #[.val (.ref a1), .val (.int r_1)] [(.int r_9)] (fun _ k => st9.trans k) ?_
   by_cases hc21 : r_9 = (0 : Int32)
   ·refine g_ifNo X9 hx 24 (hb hby d6_21) rfl ((if0 _ _).trans (teq hc21).2) ?_
    refine g_iconst X9 hx 25 1 (hb hby d6_24) rfl rfl ?_
    refine g_goto X9 hx 29 (hb hby d6_25) (by decide) (by decide) ?_
    refine goNW hS X9 (by rw [eh9]; exact hk) hx (t := .boolean) Bd.returns (by simp) Bd.notSynchronized (hb hby d6_29) ?_ (by decide) (by decide)
    show Q_rmMs Z a1 cs fv ci tA kA v kb N g f nn h0 n0 _ T9.heap _
    rw [eh9]
    exact ⟨(1 : Int32), rfl, N9, K8, (own_mhk hlt hk59 hkn rfl (fun j hj => rfl) r9_0 (Or.inl ⟨hc21, rfl⟩))⟩
   ·refine g_ifYes X9 hx 28 (hb hby d6_21) ((if0 _ _).trans (feq hc21).2) (by decide) (by decide) ?_
    refine g_iconst X9 hx 29 0 (hb hby d6_28) rfl rfl ?_
    refine goNW hS X9 (by rw [eh9]; exact hk) hx (t := .boolean) Bd.returns (by simp) Bd.notSynchronized (hb hby d6_29) ?_ (by decide) (by decide)
    show Q_rmMs Z a1 cs fv ci tA kA v kb N g f nn h0 n0 _ T9.heap _
    rw [eh9]
    exact ⟨(0 : Int32), rfl, N9, K8, (own_mhk hlt hk59 hkn rfl (fun j hj => rfl) r9_0 (Or.inr ⟨hc21, rfl⟩))⟩
theorem d1_0 : decode method_2_code 0 = .ok (.iload_n 0, 1) := by decide +kernel
theorem d1_1 : decode method_2_code 1 = .ok (.sipush 256, 3) := by decide +kernel
theorem d1_4 : decode method_2_code 4 = .ok (.iand, 1) := by decide +kernel
theorem d1_5 : decode method_2_code 5 = .ok (.ifCond .eq 8, 3) := by decide +kernel
theorem d1_13 : decode method_2_code 13 = .ok (.iload_n 0, 1) := by decide +kernel
theorem d1_14 : decode method_2_code 14 = .ok (.sipush 255, 3) := by decide +kernel
theorem d1_17 : decode method_2_code 17 = .ok (.iand, 1) := by decide +kernel
theorem d1_18 : decode method_2_code 18 = .ok (.i2c, 1) := by decide +kernel
theorem d1_19 : decode method_2_code 19 = .ok (.ireturn, 1) := by decide +kernel
theorem d1_8 : decode method_2_code 8 = .ok (.bipush 59, 2) := by decide +kernel
theorem d1_10 : decode method_2_code 10 = .ok (.goto 9, 3) := by decide +kernel
theorem pn_1 : plainName "com/example/managed_transactions/managedtransactions/jdbc/SqlTextMayHoldSeveralPinLaw" = true := by first | (simp [plainName, overriddenIn]; done) | decide +kernel
theorem ef_rmDr (m : MethodId) (p1 : Int32) : entryFrame m #[(.int p1)] 1 = mkF m 0 #[.val (.int p1)] [] := by first | (simp [entryFrame, mkF, argsToLocals, Value.category]; done) | rfl
def Q_rmDr (Z : State) (p1 : Int32) (h0 : Heap) (n0 : Nat) (rv : Option Value) (hq : Heap) (Lq : List Loc) : Prop := rv = some (.int (own_dr p1)) ∧ Fr n0 Lq ∧ hq = h0
theorem rmDr (l : Launch) (Z : State) (a0 : Array Value) (hw : HW Z a0) (ws : List Jvm.Cond) (p1 : Int32) (h0 : Heap) (n0 : Nat) (Z0 : n0 ≤ h0.size) :
  MF l y117 method_2_code 1 (some .char) ws (rO 0 0 0 0) #[(.int p1)] Z h0 (Q_rmDr Z p1 h0 n0) := by
 refine own_met "com/example/managed_transactions/managedtransactions/jdbc/SqlTextMayHoldSeveralPinLaw" rfl (plainFor_of_name pn_1) (fun m => ef_rmDr m p1) ?_
 intro p e s m below meth c s₁ Bd hx hby hml hown hnm hZ X0 e0
 have N0 := Fr.nil n0
 refine g_iloadN X0 hx 1 (hb hby d1_0) rfl rfl ?_
 refine g_sipush X0 hx 4 256 (hb hby d1_1) rfl rfl ?_
 refine gs m s₁ 5 #[.val (.int p1)] [(.int (p1 &&& (256 : Int32)))] (fun _ kS => XS.iand X0.here hx rfl (hb hby d1_4) rfl kS) ?_
 by_cases hc5 : (p1 &&& (256 : Int32)) = (0 : Int32)
 ·refine g_ifYes X0 hx 13 (hb hby d1_5) ((if0 _ _).trans (teq hc5).1) (by decide) (by decide) ?_
  refine g_iloadN X0 hx 14 (hb hby d1_13) rfl rfl ?_
  refine g_sipush X0 hx 17 255 (hb hby d1_14) rfl rfl ?_
  refine gs m s₁ 18 #[.val (.int p1)] [(.int (p1 &&& (255 : Int32)))] (fun _ kS => XS.iand X0.here hx rfl (hb hby d1_17) rfl kS) ?_
  refine gs m s₁ 19 #[.val (.int p1)] [(.int ((p1 &&& (255 : Int32)).toUInt32.toUInt16.toUInt32.toInt32))] (fun _ kS => XS.i2c X0.here hx rfl (hb hby d1_18) rfl kS) ?_
  refine goN X0 hx (t := .char) Bd.returns (by simp) Bd.notSynchronized (hb hby d1_19) ?_ (by decide) (by decide)
  show Q_rmDr Z p1 h0 n0 _ s₁.heap _
  rw [e0]
  exact ⟨by rw [own_dr1 hc5]; exact congrArg (fun z => some (Value.int z)) (own_nc _), N0, rfl⟩
 ·refine g_ifNo X0 hx 8 (hb hby d1_5) rfl ((if0 _ _).trans (feq hc5).1) ?_
  refine g_bipush X0 hx 10 59 (hb hby d1_8) rfl rfl ?_
  refine g_goto X0 hx 19 (hb hby d1_10) (by decide) (by decide) ?_
  refine goN X0 hx (t := .char) Bd.returns (by simp) Bd.notSynchronized (hb hby d1_19) ?_ (by decide) (by decide)
  show Q_rmDr Z p1 h0 n0 _ s₁.heap _
  rw [e0]
  exact ⟨by rw [own_dr0 hc5]; rfl, N0, rfl⟩
theorem d20_0 : decode method_3_code 0 = .ok (.iload_n 0, 1) := by decide +kernel
theorem d20_1 : decode method_3_code 1 = .ok (.bipush 32, 2) := by decide +kernel
theorem d20_3 : decode method_3_code 3 = .ok (.if_icmp .eq 27, 3) := by decide +kernel
theorem d20_30 : decode method_3_code 30 = .ok (.iconst 1, 1) := by decide +kernel
theorem d20_31 : decode method_3_code 31 = .ok (.goto 4, 3) := by decide +kernel
theorem d20_35 : decode method_3_code 35 = .ok (.ireturn, 1) := by decide +kernel
theorem d20_6 : decode method_3_code 6 = .ok (.iload_n 0, 1) := by decide +kernel
theorem d20_7 : decode method_3_code 7 = .ok (.bipush 9, 2) := by decide +kernel
theorem d20_9 : decode method_3_code 9 = .ok (.if_icmp .lt 9, 3) := by decide +kernel
theorem d20_18 : decode method_3_code 18 = .ok (.iload_n 0, 1) := by decide +kernel
theorem d20_19 : decode method_3_code 19 = .ok (.bipush 28, 2) := by decide +kernel
theorem d20_21 : decode method_3_code 21 = .ok (.if_icmp .lt 13, 3) := by decide +kernel
theorem d20_34 : decode method_3_code 34 = .ok (.iconst 0, 1) := by decide +kernel
theorem d20_24 : decode method_3_code 24 = .ok (.iload_n 0, 1) := by decide +kernel
theorem d20_25 : decode method_3_code 25 = .ok (.bipush 31, 2) := by decide +kernel
theorem d20_27 : decode method_3_code 27 = .ok (.if_icmp .gt 7, 3) := by decide +kernel
theorem d20_12 : decode method_3_code 12 = .ok (.iload_n 0, 1) := by decide +kernel
theorem d20_13 : decode method_3_code 13 = .ok (.bipush 13, 2) := by decide +kernel
theorem d20_15 : decode method_3_code 15 = .ok (.if_icmp .le 15, 3) := by decide +kernel
def Q_rmWs (Z : State) (p1 : Int32) (h0 : Heap) (n0 : Nat) (rv : Option Value) (hq : Heap) (Lq : List Loc) : Prop := rv = some (.int (own_ws p1)) ∧ Fr n0 Lq ∧ hq = h0
theorem rmWs (l : Launch) (Z : State) (a0 : Array Value) (hw : HW Z a0) (ws : List Jvm.Cond) (p1 : Int32) (h0 : Heap) (n0 : Nat) (Z0 : n0 ≤ h0.size) :
  MF l (⟨"com/example/managed_transactions/managedtransactions/jdbc/SqlTextMayHoldSeveralPinLaw", "ws", "(C)Z"⟩ : MethodName) method_3_code 1 (some .boolean) ws (rO 0 0 0 0) #[(.int p1)] Z h0 (Q_rmWs Z p1 h0 n0) := by
 refine own_met "com/example/managed_transactions/managedtransactions/jdbc/SqlTextMayHoldSeveralPinLaw" rfl (plainFor_of_name pn_1) (fun m => ef_rmDr m p1) ?_
 intro p e s m below meth c s₁ Bd hx hby hml hown hnm hZ X0 e0
 have N0 := Fr.nil n0
 refine g_iloadN X0 hx 1 (hb hby d20_0) rfl rfl ?_
 refine g_bipush X0 hx 3 32 (hb hby d20_1) rfl rfl ?_
 by_cases hc3 : p1 = (32 : Int32)
 ·refine g_icmpYes X0 hx 30 (hb hby d20_3) (teq hc3).1 (by decide) (by decide) ?_
  refine g_iconst X0 hx 31 1 (hb hby d20_30) rfl rfl ?_
  refine g_goto X0 hx 35 (hb hby d20_31) (by decide) (by decide) ?_
  refine goN X0 hx (t := .boolean) Bd.returns (by simp) Bd.notSynchronized (hb hby d20_35) ?_ (by decide) (by decide)
  show Q_rmWs Z p1 h0 n0 _ s₁.heap _
  rw [e0]
  exact ⟨by rw [own_ws1 (by simp only [Int32.lt_iff_toInt_lt, ← Int32.toInt_inj, Int32.reduceToInt] at hc3 <;> omega)]; rfl, N0, rfl⟩
 ·refine g_icmpNo X0 hx 6 (hb hby d20_3) rfl (feq hc3).1 ?_
  refine g_iloadN X0 hx 7 (hb hby d20_6) rfl rfl ?_
  refine g_bipush X0 hx 9 9 (hb hby d20_7) rfl rfl ?_
  by_cases hc9 : p1 < (9 : Int32)
  ·refine g_icmpYes X0 hx 18 (hb hby d20_9) (tlt hc9).1 (by decide) (by decide) ?_
   refine g_iloadN X0 hx 19 (hb hby d20_18) rfl rfl ?_
   refine g_bipush X0 hx 21 28 (hb hby d20_19) rfl rfl ?_
   by_cases hc21 : p1 < (28 : Int32)
   ·refine g_icmpYes X0 hx 34 (hb hby d20_21) (tlt hc21).1 (by decide) (by decide) ?_
    refine g_iconst X0 hx 35 0 (hb hby d20_34) rfl rfl ?_
    refine goN X0 hx (t := .boolean) Bd.returns (by simp) Bd.notSynchronized (hb hby d20_35) ?_ (by decide) (by decide)
    show Q_rmWs Z p1 h0 n0 _ s₁.heap _
    rw [e0]
    exact ⟨by rw [own_ws0 (by simp only [Int32.lt_iff_toInt_lt, ← Int32.toInt_inj, Int32.reduceToInt] at hc3 hc9 hc21 <;> omega)]; rfl, N0, rfl⟩
   ·refine g_icmpNo X0 hx 24 (hb hby d20_21) rfl (flt hc21).1 ?_
    refine g_iloadN X0 hx 25 (hb hby d20_24) rfl rfl ?_
    refine g_bipush X0 hx 27 31 (hb hby d20_25) rfl rfl ?_
    by_cases hc27 : (31 : Int32) < p1
    ·refine g_icmpYes X0 hx 34 (hb hby d20_27) (tlt hc27).2.2.1 (by decide) (by decide) ?_
     refine g_iconst X0 hx 35 0 (hb hby d20_34) rfl rfl ?_
     refine goN X0 hx (t := .boolean) Bd.returns (by simp) Bd.notSynchronized (hb hby d20_35) ?_ (by decide) (by decide)
     show Q_rmWs Z p1 h0 n0 _ s₁.heap _
     rw [e0]
     exact ⟨by rw [own_ws0 (by simp only [Int32.lt_iff_toInt_lt, ← Int32.toInt_inj, Int32.reduceToInt] at hc3 hc9 hc21 hc27 <;> omega)]; rfl, N0, rfl⟩
    ·refine g_icmpNo X0 hx 30 (hb hby d20_27) rfl (flt hc27).2.2.1 ?_
     refine g_iconst X0 hx 31 1 (hb hby d20_30) rfl rfl ?_
     refine g_goto X0 hx 35 (hb hby d20_31) (by decide) (by decide) ?_
     refine goN X0 hx (t := .boolean) Bd.returns (by simp) Bd.notSynchronized (hb hby d20_35) ?_ (by decide) (by decide)
     show Q_rmWs Z p1 h0 n0 _ s₁.heap _
     rw [e0]
     exact ⟨by rw [own_ws1 (by simp only [Int32.lt_iff_toInt_lt, ← Int32.toInt_inj, Int32.reduceToInt] at hc3 hc9 hc21 hc27 <;> omega)]; rfl, N0, rfl⟩
  ·refine g_icmpNo X0 hx 12 (hb hby d20_9) rfl (flt hc9).1 ?_
   refine g_iloadN X0 hx 13 (hb hby d20_12) rfl rfl ?_
   refine g_bipush X0 hx 15 13 (hb hby d20_13) rfl rfl ?_
   by_cases hc15 : (13 : Int32) < p1
   ·refine g_icmpNo X0 hx 18 (hb hby d20_15) rfl (tlt hc15).2.2.2 ?_
    refine g_iloadN X0 hx 19 (hb hby d20_18) rfl rfl ?_
    refine g_bipush X0 hx 21 28 (hb hby d20_19) rfl rfl ?_
    by_cases hc21 : p1 < (28 : Int32)
    ·refine g_icmpYes X0 hx 34 (hb hby d20_21) (tlt hc21).1 (by decide) (by decide) ?_
     refine g_iconst X0 hx 35 0 (hb hby d20_34) rfl rfl ?_
     refine goN X0 hx (t := .boolean) Bd.returns (by simp) Bd.notSynchronized (hb hby d20_35) ?_ (by decide) (by decide)
     show Q_rmWs Z p1 h0 n0 _ s₁.heap _
     rw [e0]
     exact ⟨by rw [own_ws0 (by simp only [Int32.lt_iff_toInt_lt, ← Int32.toInt_inj, Int32.reduceToInt] at hc3 hc9 hc15 hc21 <;> omega)]; rfl, N0, rfl⟩
    ·refine g_icmpNo X0 hx 24 (hb hby d20_21) rfl (flt hc21).1 ?_
     refine g_iloadN X0 hx 25 (hb hby d20_24) rfl rfl ?_
     refine g_bipush X0 hx 27 31 (hb hby d20_25) rfl rfl ?_
     by_cases hc27 : (31 : Int32) < p1
     ·refine g_icmpYes X0 hx 34 (hb hby d20_27) (tlt hc27).2.2.1 (by decide) (by decide) ?_
      refine g_iconst X0 hx 35 0 (hb hby d20_34) rfl rfl ?_
      refine goN X0 hx (t := .boolean) Bd.returns (by simp) Bd.notSynchronized (hb hby d20_35) ?_ (by decide) (by decide)
      show Q_rmWs Z p1 h0 n0 _ s₁.heap _
      rw [e0]
      exact ⟨by rw [own_ws0 (by simp only [Int32.lt_iff_toInt_lt, ← Int32.toInt_inj, Int32.reduceToInt] at hc3 hc9 hc15 hc21 hc27 <;> omega)]; rfl, N0, rfl⟩
     ·refine g_icmpNo X0 hx 30 (hb hby d20_27) rfl (flt hc27).2.2.1 ?_
      refine g_iconst X0 hx 31 1 (hb hby d20_30) rfl rfl ?_
      refine g_goto X0 hx 35 (hb hby d20_31) (by decide) (by decide) ?_
      refine goN X0 hx (t := .boolean) Bd.returns (by simp) Bd.notSynchronized (hb hby d20_35) ?_ (by decide) (by decide)
      show Q_rmWs Z p1 h0 n0 _ s₁.heap _
      rw [e0]
      exact ⟨by rw [own_ws1 (by simp only [Int32.lt_iff_toInt_lt, ← Int32.toInt_inj, Int32.reduceToInt] at hc3 hc9 hc15 hc21 hc27 <;> omega)]; rfl, N0, rfl⟩
   ·refine g_icmpYes X0 hx 30 (hb hby d20_15) (flt hc15).2.2.2 (by decide) (by decide) ?_
    refine g_iconst X0 hx 31 1 (hb hby d20_30) rfl rfl ?_
    refine g_goto X0 hx 35 (hb hby d20_31) (by decide) (by decide) ?_
    refine goN X0 hx (t := .boolean) Bd.returns (by simp) Bd.notSynchronized (hb hby d20_35) ?_ (by decide) (by decide)
    show Q_rmWs Z p1 h0 n0 _ s₁.heap _
    rw [e0]
    exact ⟨by rw [own_ws1 (by simp only [Int32.lt_iff_toInt_lt, ← Int32.toInt_inj, Int32.reduceToInt] at hc3 hc9 hc15 <;> omega)]; rfl, N0, rfl⟩
theorem d2_0 : decode method_4_code 0 = .ok (.iload_n 3, 1) := by decide +kernel
theorem d2_1 : decode method_4_code 1 = .ok (.iload_n 1, 1) := by decide +kernel
theorem d2_2 : decode method_4_code 2 = .ok (.if_icmp .ge 24, 3) := by decide +kernel
theorem d2_5 : decode method_4_code 5 = .ok (.aload_n 0, 1) := by decide +kernel
theorem d2_6 : decode method_4_code 6 = .ok (.iload_n 2, 1) := by decide +kernel
theorem d2_7 : decode method_4_code 7 = .ok (.caload, 1) := by decide +kernel
theorem d2_8 : decode method_4_code 8 = .ok (.bipush 59, 2) := by decide +kernel
theorem d2_10 : decode method_4_code 10 = .ok (.if_icmp .ne 16, 3) := by decide +kernel
theorem d2_13 : decode method_4_code 13 = .ok (.aload_n 0, 1) := by decide +kernel
theorem d2_14 : decode method_4_code 14 = .ok (.iload_n 3, 1) := by decide +kernel
theorem d2_15 : decode method_4_code 15 = .ok (.caload, 1) := by decide +kernel
theorem d2_16 : decode method_4_code 16 = .ok (.invokestatic 7, 3) := by decide +kernel
theorem pd_21 : parseMethodDescriptor "(C)Z" = some ⟨[.char], some .boolean⟩ := by decide +kernel
theorem d2_19 : decode method_4_code 19 = .ok (.ifCond .ne 7, 3) := by decide +kernel
theorem d2_22 : decode method_4_code 22 = .ok (.iconst 1, 1) := by decide +kernel
theorem d2_23 : decode method_4_code 23 = .ok (.goto 4, 3) := by decide +kernel
theorem d2_27 : decode method_4_code 27 = .ok (.ireturn, 1) := by decide +kernel
theorem d2_26 : decode method_4_code 26 = .ok (.iconst 0, 1) := by decide +kernel
theorem ef_rmPq (m : MethodId) (a1 : Addr) (N : Int32) (j : Int32) (k : Int32) : entryFrame m #[(.ref a1), (.int N), (.int j), (.int k)] 4 = mkF m 0 #[.val (.ref a1), .val (.int N), .val (.int j), .val (.int k)] [] := by first | (simp [entryFrame, mkF, argsToLocals, Value.category]; done) | rfl
def Q_rmPq (Z : State) (a1 : Addr) (N : Int32) (j : Int32) (k : Int32) (kc : ClassId) (f : Nat → Int32) (nn : Nat) (jn : Nat) (kn : Nat) (h0 : Heap) (n0 : Nat) (rv : Option Value) (hq : Heap) (Lq : List Loc) : Prop := ∃ r : Int32, rv = some (.int r) ∧ Fr n0 Lq ∧ hq = h0 ∧ own_pq f nn jn kn r
theorem rmPq (l : Launch) (Z : State) (a0 : Array Value) (hw : HW Z a0) (ws : List Jvm.Cond) (a1 : Addr) (N : Int32) (j : Int32) (k : Int32) (kc : ClassId) (f : Nat → Int32) (nn : Nat) (jn : Nat) (kn : Nat) (h0 : Heap) (n0 : Nat) (Z0 : n0 ≤ h0.size) (V_a1 : Arv Z h0 a1 kc .char (4 : Int32) (own_tb f) (.int 0)) (hN : Ix N nn) (hnn : nn ≤ 20) (hj : Ix j jn) (hk : Ix k kn) (hjk : jn < kn) (hk4 : kn < 4) :
  MF l y118 method_4_code 4 (some .boolean) ws (rO 1 0 0 12) #[(.ref a1), (.int N), (.int j), (.int k)] Z h0 (Q_rmPq Z a1 N j k kc f nn jn kn h0 n0) := by
 refine own_met "com/example/managed_transactions/managedtransactions/jdbc/SqlTextMayHoldSeveralPinLaw" rfl (plainFor_of_name pn_1) (fun m => ef_rmPq m a1 N j k) ?_
 intro p e s m below meth c s₁ Bd hx hby hml hown hnm hZ X0 e0
 have N0 := Fr.nil n0
 have i4 : Ix 4 4 := ⟨rfl, by decide⟩
 refine g_iloadN X0 hx 1 (hb hby d2_0) rfl rfl ?_
 refine g_iloadN X0 hx 2 (hb hby d2_1) rfl rfl ?_
 by_cases hc2 : k < N
 ·refine g_icmpNo X0 hx 5 (hb hby d2_2) rfl (tlt hc2).2.1 ?_
  refine g_aloadN X0 hx 6 (hb hby d2_5) rfl rfl rfl ?_
  refine g_iloadN X0 hx 7 (hb hby d2_6) rfl rfl ?_
  obtain ⟨cl1, Ar1, qc1, Sz1, Nn1, Hs1, Gf1⟩ := id V_a1
  have hin2 : ¬ (j < 0 ∨ cl1.slots.size ≤ (j).toNatClampNeg) := (inb_of Sz1 (own_ixb hj i4 (by omega)))
  have hat2 : cl1.slots[(j).toNatClampNeg]? = some (.int (f jn)) := own_atT Hs1 hin2 hj (by omega)
  refine gs m s₁ 8 #[.val (.ref a1), .val (.int N), .val (.int j), .val (.int k)] [(.int (f jn))] (fun _ kS => X0.caload hx (j := j) (v := (.int (f jn))) (by rw [e0]; exact Ar1.1) (State.isArrayOf_alike hZ.alike Ar1.2.1) Ar1.2.2 hin2 hat2 (g := (mkF m 7 #[.val (.ref a1), .val (.int N), .val (.int j), .val (.int k)] [(.int j), (.ref a1)])) rfl rfl (hb hby d2_7) _ kS) ?_
  refine g_bipush X0 hx 10 59 (hb hby d2_8) rfl rfl ?_
  by_cases hc10 : (f jn) = (59 : Int32)
  ·refine g_icmpNo X0 hx 13 (hb hby d2_10) rfl (teq hc10).2 ?_
   refine g_aloadN X0 hx 14 (hb hby d2_13) rfl rfl rfl ?_
   refine g_iloadN X0 hx 15 (hb hby d2_14) rfl rfl ?_
   obtain ⟨cl3, Ar3, qc3, Sz3, Nn3, Hs3, Gf3⟩ := id V_a1
   have hin4 : ¬ (k < 0 ∨ cl3.slots.size ≤ (k).toNatClampNeg) := (inb_of Sz3 (own_ixb hk i4 (by omega)))
   have hat4 : cl3.slots[(k).toNatClampNeg]? = some (.int (f kn)) := own_atT Hs3 hin4 hk (by omega)
   refine gs m s₁ 16 #[.val (.ref a1), .val (.int N), .val (.int j), .val (.int k)] [(.int (f kn))] (fun _ kS => X0.caload hx (j := k) (v := (.int (f kn))) (by rw [e0]; exact Ar3.1) (State.isArrayOf_alike hZ.alike Ar3.2.1) Ar3.2.2 hin4 hat4 (g := (mkF m 15 #[.val (.ref a1), .val (.int N), .val (.int j), .val (.int k)] [(.int k), (.ref a1)])) rfl rfl (hb hby d2_15) _ kS) ?_
   obtain ⟨_, _, ⟨T5, L5, kk5, nn5⟩, -, X5, ⟨Lc5, hQ5, lq5, yq5, zq5⟩, st5⟩ := Jvm.LawKit.callS X0 hx (y := (⟨"com/example/managed_transactions/managedtransactions/jdbc/SqlTextMayHoldSeveralPinLaw", "ws", "(C)Z"⟩ : MethodName)) hown (mvT hZ (tw hw 87 rfl)) (mvT hZ (tw hw 88 rfl)) (mvT hZ (tw hw 3 rfl)) (mvT hZ (tw hw 89 rfl)) (by decide) (backOf (W := 0) (rmWs l Z a0 hw [] (f kn) h0 n0 Z0 ) hZ (tw hw 89 rfl) (tw hw 3 rfl) (by decide) (by decide)) (g := (mkF m 16 #[.val (.ref a1), .val (.int N), .val (.int j), .val (.int k)] [(.int (f kn))])) rfl (by rw [hml]; rfl) (argsL := [(.int (f kn))]) (rest := []) (lenOf pd_21 rfl) rfl (by show 2 * 0 + _ ≤ _; exact Nat.le_of_eq rfl) (hb hby d2_16) (fun _ _ => ⟨rfl, e0, (by decide : 0 + 0 ≤ _), (by decide : 0 + 0 ≤ _)⟩)
   dsimp only [Pt.U, Pt.locs, Pt.cells, Pt.slots] at X5 lq5 yq5 zq5 st5 hQ5
   subst yq5 zq5
   obtain ⟨rfl, Nq5, eh5⟩ := hQ5
   have N5 : Fr n0 L5 := by rw [lq5]; exact Fr.app N0 Nq5
   refine gs m T5 19 #[.val (.ref a1), .val (.int N), .val (.int j), .val (.int k)] [(.int (own_ws (f kn)))] st5 ?_
   by_cases hc19 : (own_ws (f kn)) = (0 : Int32)
   ·refine g_ifNo X5 hx 22 (hb hby d2_19) rfl ((if0 _ _).trans (teq hc19).2) ?_
    refine g_iconst X5 hx 23 1 (hb hby d2_22) rfl rfl ?_
    refine g_goto X5 hx 27 (hb hby d2_23) (by decide) (by decide) ?_
    refine goN X5 hx (t := .boolean) Bd.returns (by simp) Bd.notSynchronized (hb hby d2_27) ?_ (by decide) (by decide)
    show Q_rmPq Z a1 N j k kc f nn jn kn h0 n0 _ T5.heap _
    rw [eh5]
    exact ⟨(1 : Int32), rfl, N5, rfl, (Or.inl ⟨rfl, (own_ixlt hk hN).mp hc2, hc10, hc19⟩)⟩
   ·refine g_ifYes X5 hx 26 (hb hby d2_19) ((if0 _ _).trans (feq hc19).2) (by decide) (by decide) ?_
    refine g_iconst X5 hx 27 0 (hb hby d2_26) rfl rfl ?_
    refine goN X5 hx (t := .boolean) Bd.returns (by simp) Bd.notSynchronized (hb hby d2_27) ?_ (by decide) (by decide)
    show Q_rmPq Z a1 N j k kc f nn jn kn h0 n0 _ T5.heap _
    rw [eh5]
    exact ⟨(0 : Int32), rfl, N5, rfl, (Or.inr ⟨rfl, fun z => hc19 z.2.2⟩)⟩
  ·refine g_icmpYes X0 hx 26 (hb hby d2_10) (feq hc10).2 (by decide) (by decide) ?_
   refine g_iconst X0 hx 27 0 (hb hby d2_26) rfl rfl ?_
   refine goN X0 hx (t := .boolean) Bd.returns (by simp) Bd.notSynchronized (hb hby d2_27) ?_ (by decide) (by decide)
   show Q_rmPq Z a1 N j k kc f nn jn kn h0 n0 _ s₁.heap _
   rw [e0]
   exact ⟨(0 : Int32), rfl, N0, rfl, (Or.inr ⟨rfl, fun z => hc10 z.2.1⟩)⟩
 ·refine g_icmpYes X0 hx 26 (hb hby d2_2) (flt hc2).2.1 (by decide) (by decide) ?_
  refine g_iconst X0 hx 27 0 (hb hby d2_26) rfl rfl ?_
  refine goN X0 hx (t := .boolean) Bd.returns (by simp) Bd.notSynchronized (hb hby d2_27) ?_ (by decide) (by decide)
  show Q_rmPq Z a1 N j k kc f nn jn kn h0 n0 _ s₁.heap _
  rw [e0]
  exact ⟨(0 : Int32), rfl, N0, rfl, (Or.inr ⟨rfl, fun z => hc2 ((own_ixlt hk hN).mpr z.1)⟩)⟩
theorem pd_22 : parseMethodDescriptor "(I)C" = some ⟨[.int], some .char⟩ := by decide +kernel
theorem pd_23 : parseMethodDescriptor "([C)V" = some ⟨[(.array .char)], none⟩ := by decide +kernel
theorem pd_24 : parseMethodDescriptor "(Ljava/lang/String;)Z" = some ⟨[(.object "java/lang/String")], some .boolean⟩ := by decide +kernel
theorem pd_25 : parseMethodDescriptor "([CIII)Z" = some ⟨[(.array .char), .int, .int, .int], some .boolean⟩ := by decide +kernel
theorem ef_rm0 (m : MethodId) (p1 : Int32) (p2 : Int32) (p3 : Int32) (p4 : Int32) (p5 : Int32) : entryFrame m #[(.int p1), (.int p2), (.int p3), (.int p4), (.int p5)] maxLocals = mkF m 0 #[.val (.int p1), .val (.int p2), .val (.int p3), .val (.int p4), .val (.int p5), .unset, .unset, .unset, .unset, .unset, .unset, .unset, .unset] [] := by first | (simp [entryFrame, mkF, argsToLocals, Value.category, maxLocals]; done) | rfl
def Q_rm0 (Z : State) (p1 : Int32) (p2 : Int32) (p3 : Int32) (p4 : Int32) (p5 : Int32) (cs : Int32) (fv : Value) (ci : Addr) (tA : Addr) (kA : ClassId) (h0 : Heap) (n0 : Nat) (rv : Option Value) (hq : Heap) (Lq : List Loc) : Prop := rv = some (.int 1) ∧ Fr n0 Lq
theorem rm0 (l : Launch) (Z : State) (a0 : Array Value) (hw : HW Z a0) (ws : List Jvm.Cond) (p1 : Int32) (p2 : Int32) (p3 : Int32) (p4 : Int32) (p5 : Int32) (cs : Int32) (fv : Value) (ci : Addr) (tA : Addr) (kA : ClassId) (h0 : Heap) (n0 : Nat) (Z0 : n0 ≤ h0.size) (E_ci : Exa Z h0 ci "java/lang/CharacterDataLatin1") (V_tA : Arv Z h0 tA kA .int (256 : Int32) own_tab (.int 0)) (O0 : Old Z n0 h0) (S_COMPACT_STRINGS : Sta Z Z.heap "java/lang/String" "COMPACT_STRINGS" "Z" (.int cs)) (hcs : ¬ cs = (0 : Int32)) (S_SIOOBE_FORMATTER : Sta Z Z.heap "jdk/internal/util/Preconditions" "SIOOBE_FORMATTER" "Ljava/util/function/BiFunction;" fv) (hfv : fv.isRef = true) (S_A : Sta Z Z.heap "java/lang/CharacterDataLatin1" "A" "[I" (.ref tA)) (S_instance : Sta Z Z.heap "java/lang/CharacterDataLatin1" "instance" "Ljava/lang/CharacterDataLatin1;" (.ref ci)) (hCH : Jvm.Lit.constHeld Z "java/lang/String" 7) (hCW : Jvm.Lit.compactW.before a0 Z = true) (hCH2 : Jvm.Lit.constHeld Z "java/lang/StringLatin1" 151) :
  MetFree l x (head1 (Jvm.Cond.code x code maxLocals ret :: ws) room_1) (fun a U => a = #[(.int p1), (.int p2), (.int p3), (.int p4), (.int p5)] ∧ Z.Warmed39 U.vm ∧ U.heap = h0 ∧ U.vm.interned = Z.vm.interned) (fun _ _ _ _ _ => True) (fun _ U o U' => ∃ rv Lq, o = .returned rv ∧ Q_rm0 Z p1 p2 p3 p4 p5 cs fv ci tA kA h0 n0 rv U'.heap Lq ∧ ReturnedEndW U o U' Lq room_1.cells room_1.slots) := by
 refine MetFree.of_bodySF (plainFor_of_name pn_1) hisR ?_
 intro p e s m args below meth c s₁ Bd hml0 hP hK
 obtain ⟨rfl, hZ, hh, hI⟩ := hP
 have hx := Bd.exec
 have hby := Bd.bytes
 have hml : c.maxLocals = 13 := hml0
 have hown : s.vm.findClass "com/example/managed_transactions/managedtransactions/jdbc/SqlTextMayHoldSeveralPinLaw" = some m.cls := findClass_of_methodNamed Bd.named
 have hnm := (name_of_methodNamed Bd.named Bd.method).1
 have X0 : Stand p l e room_1 s m #[(.int p1), (.int p2), (.int p3), (.int p4), (.int p5)] below meth c s₁ [] 0 0 := Stand.of_body Bd
 have e0 : s₁.heap = h0 := by rw [← hh, Bd.state]; rfl
 have N0 := Fr.nil n0
 have X0 : Stand p l e room_1 (s.setVm s.vm) m #[(.int p1), (.int p2), (.int p3), (.int p4), (.int p5)] below meth c s₁ [] 0 0 := X0
 have hS : s.Since s.vm h0.size := (State.WarmedH.refl s).since _
 have hk := Nat.le_refl h0.size
 have hZ : Z.Warmed39 (s.setVm s.vm).vm := hZ
 have hI : (s.setVm s.vm).vm.interned = Z.vm.interned := hI
 have hown : (s.setVm s.vm).vm.findClass "com/example/managed_transactions/managedtransactions/jdbc/SqlTextMayHoldSeveralPinLaw" = some m.cls := hown
 refine of_goW (ef_rm0 m p1 p2 p3 p4 p5) ?_
 refine g_iloadN X0 hx 1 (hb hby at_0) rfl rfl ?_
 refine gs m s₁ 3 #[.val (.int p1), .val (.int p2), .val (.int p3), .val (.int p4), .val (.int p5), .unset, .unset, .unset, .unset, .unset, .unset, .unset, .unset] [(.int 2147483647), (.int p1)] (fun _ kS => X0.ldcInt hx hown (mvT hZ (tw hw 0 rfl)) (g := (mkF m 1 #[.val (.int p1), .val (.int p2), .val (.int p3), .val (.int p4), .val (.int p5), .unset, .unset, .unset, .unset, .unset, .unset, .unset, .unset] [(.int p1)])) rfl (hb hby at_1) _ kS) ?_
 refine gs m s₁ 4 #[.val (.int p1), .val (.int p2), .val (.int p3), .val (.int p4), .val (.int p5), .unset, .unset, .unset, .unset, .unset, .unset, .unset, .unset] [(.int (p1 &&& (2147483647 : Int32)))] (fun _ kS => XS.iand X0.here hx rfl (hb hby at_3) rfl kS) ?_
 refine g_iconst X0 hx 5 5 (hb hby at_4) rfl rfl ?_
 refine gs m s₁ 6 #[.val (.int p1), .val (.int p2), .val (.int p3), .val (.int p4), .val (.int p5), .unset, .unset, .unset, .unset, .unset, .unset, .unset, .unset] [(.int ((p1 &&& (2147483647 : Int32)) % (5 : Int32)))] (fun _ kS => iremM X0 hx rfl (hb hby at_5) rfl (by decide) kS) ?_
 obtain ⟨N, e_N⟩ : ∃ z, z = ((p1 &&& (2147483647 : Int32)) % (5 : Int32)) := ⟨_, rfl⟩
 rw [← e_N]
 obtain ⟨nn, hnl, hN⟩ : ∃ k, k < 5 ∧ Ix N k := by
  rw [e_N]
  exact own_ixm (n := 5) rfl (c_and _ _ (by decide)).1 (by decide) (by decide)
 have hnn : nn ≤ 20 := by omega
 have h4 : nn ≤ 4 := by omega
 refine g_istore X0 hx 8 (hb hby at_6) rfl (l' := #[.val (.int p1), .val (.int p2), .val (.int p3), .val (.int p4), .val (.int p5), .val (.int N), .unset, .unset, .unset, .unset, .unset, .unset, .unset]) rfl ?_
 refine g_iloadN X0 hx 9 (hb hby at_8) rfl rfl ?_
 obtain ⟨_, _, ⟨T1, L1, kk1, nn1⟩, -, X1, ⟨Lc1, hQ1, lq1, yq1, zq1⟩, st1⟩ := Jvm.LawKit.callS X0 hx (y := y117) hown (mvT hZ (tw hw 1 rfl)) (mvT hZ (tw hw 2 rfl)) (mvT hZ (tw hw 3 rfl)) (mvT hZ (tw hw 4 rfl)) (by decide) (backOf (W := 0) (rmDr l Z a0 hw [] p2 h0 n0 Z0 ) hZ (tw hw 4 rfl) (tw hw 3 rfl) (by decide) (by decide)) (g := (mkF m 9 #[.val (.int p1), .val (.int p2), .val (.int p3), .val (.int p4), .val (.int p5), .val (.int N), .unset, .unset, .unset, .unset, .unset, .unset, .unset] [(.int p2)])) rfl (by rw [hml]; rfl) (argsL := [(.int p2)]) (rest := []) (lenOf pd_22 rfl) rfl (by show 2 * 0 + _ ≤ _; exact Nat.le_of_eq rfl) (hb hby at_9) (fun _ _ => ⟨rfl, e0, (by decide : 0 + 0 ≤ _), (by decide : 0 + 0 ≤ _)⟩)
 dsimp only [Pt.U, Pt.locs, Pt.cells, Pt.slots] at X1 lq1 yq1 zq1 st1 hQ1
 subst yq1 zq1
 obtain ⟨rfl, Nq1, eh1⟩ := hQ1
 have N1 : Fr n0 L1 := by rw [lq1]; exact Fr.app N0 Nq1
 refine gs m T1 12 #[.val (.int p1), .val (.int p2), .val (.int p3), .val (.int p4), .val (.int p5), .val (.int N), .unset, .unset, .unset, .unset, .unset, .unset, .unset] [(.int (own_dr p2))] st1 ?_
 refine g_istore X1 hx 14 (hb hby at_12) rfl (l' := #[.val (.int p1), .val (.int p2), .val (.int p3), .val (.int p4), .val (.int p5), .val (.int N), .val (.int (own_dr p2)), .unset, .unset, .unset, .unset, .unset, .unset]) rfl ?_
 refine g_iloadN X1 hx 15 (hb hby at_14) rfl rfl ?_
 obtain ⟨_, _, ⟨T2, L2, kk2, nn2⟩, -, X2, ⟨Lc2, hQ2, lq2, yq2, zq2⟩, st2⟩ := Jvm.LawKit.callS X1 hx (y := y117) hown (mvT hZ (tw hw 1 rfl)) (mvT hZ (tw hw 2 rfl)) (mvT hZ (tw hw 3 rfl)) (mvT hZ (tw hw 4 rfl)) (by decide) (backOf (W := 0) (rmDr l Z a0 hw [] p3 h0 n0 Z0 ) hZ (tw hw 4 rfl) (tw hw 3 rfl) (by decide) (by decide)) (g := (mkF m 15 #[.val (.int p1), .val (.int p2), .val (.int p3), .val (.int p4), .val (.int p5), .val (.int N), .val (.int (own_dr p2)), .unset, .unset, .unset, .unset, .unset, .unset] [(.int p3)])) rfl (by rw [hml]; rfl) (argsL := [(.int p3)]) (rest := []) (lenOf pd_22 rfl) rfl (by show 2 * 0 + _ ≤ _; exact Nat.le_of_eq rfl) (hb hby at_15) (fun _ _ => ⟨rfl, eh1, (by decide : 0 + 0 ≤ _), (by decide : 0 + 0 ≤ _)⟩)
 dsimp only [Pt.U, Pt.locs, Pt.cells, Pt.slots] at X2 lq2 yq2 zq2 st2 hQ2
 subst yq2 zq2
 obtain ⟨rfl, Nq2, eh2⟩ := hQ2
 have N2 : Fr n0 L2 := by rw [lq2]; exact Fr.app N1 Nq2
 refine gs m T2 18 #[.val (.int p1), .val (.int p2), .val (.int p3), .val (.int p4), .val (.int p5), .val (.int N), .val (.int (own_dr p2)), .unset, .unset, .unset, .unset, .unset, .unset] [(.int (own_dr p3))] st2 ?_
 refine g_istore X2 hx 20 (hb hby at_18) rfl (l' := #[.val (.int p1), .val (.int p2), .val (.int p3), .val (.int p4), .val (.int p5), .val (.int N), .val (.int (own_dr p2)), .val (.int (own_dr p3)), .unset, .unset, .unset, .unset, .unset]) rfl ?_
 refine g_iloadN X2 hx 21 (hb hby at_20) rfl rfl ?_
 obtain ⟨_, _, ⟨T3, L3, kk3, nn3⟩, -, X3, ⟨Lc3, hQ3, lq3, yq3, zq3⟩, st3⟩ := Jvm.LawKit.callS X2 hx (y := y117) hown (mvT hZ (tw hw 1 rfl)) (mvT hZ (tw hw 2 rfl)) (mvT hZ (tw hw 3 rfl)) (mvT hZ (tw hw 4 rfl)) (by decide) (backOf (W := 0) (rmDr l Z a0 hw [] p4 h0 n0 Z0 ) hZ (tw hw 4 rfl) (tw hw 3 rfl) (by decide) (by decide)) (g := (mkF m 21 #[.val (.int p1), .val (.int p2), .val (.int p3), .val (.int p4), .val (.int p5), .val (.int N), .val (.int (own_dr p2)), .val (.int (own_dr p3)), .unset, .unset, .unset, .unset, .unset] [(.int p4)])) rfl (by rw [hml]; rfl) (argsL := [(.int p4)]) (rest := []) (lenOf pd_22 rfl) rfl (by show 2 * 0 + _ ≤ _; exact Nat.le_of_eq rfl) (hb hby at_21) (fun _ _ => ⟨rfl, eh2, (by decide : 0 + 0 ≤ _), (by decide : 0 + 0 ≤ _)⟩)
 dsimp only [Pt.U, Pt.locs, Pt.cells, Pt.slots] at X3 lq3 yq3 zq3 st3 hQ3
 subst yq3 zq3
 obtain ⟨rfl, Nq3, eh3⟩ := hQ3
 have N3 : Fr n0 L3 := by rw [lq3]; exact Fr.app N2 Nq3
 refine gs m T3 24 #[.val (.int p1), .val (.int p2), .val (.int p3), .val (.int p4), .val (.int p5), .val (.int N), .val (.int (own_dr p2)), .val (.int (own_dr p3)), .unset, .unset, .unset, .unset, .unset] [(.int (own_dr p4))] st3 ?_
 refine g_istore X3 hx 26 (hb hby at_24) rfl (l' := #[.val (.int p1), .val (.int p2), .val (.int p3), .val (.int p4), .val (.int p5), .val (.int N), .val (.int (own_dr p2)), .val (.int (own_dr p3)), .val (.int (own_dr p4)), .unset, .unset, .unset, .unset]) rfl ?_
 refine g_iload X3 hx 28 (hb hby at_26) rfl rfl ?_
 obtain ⟨_, _, ⟨T4, L4, kk4, nn4⟩, -, X4, ⟨Lc4, hQ4, lq4, yq4, zq4⟩, st4⟩ := Jvm.LawKit.callS X3 hx (y := y117) hown (mvT hZ (tw hw 1 rfl)) (mvT hZ (tw hw 2 rfl)) (mvT hZ (tw hw 3 rfl)) (mvT hZ (tw hw 4 rfl)) (by decide) (backOf (W := 0) (rmDr l Z a0 hw [] p5 h0 n0 Z0 ) hZ (tw hw 4 rfl) (tw hw 3 rfl) (by decide) (by decide)) (g := (mkF m 28 #[.val (.int p1), .val (.int p2), .val (.int p3), .val (.int p4), .val (.int p5), .val (.int N), .val (.int (own_dr p2)), .val (.int (own_dr p3)), .val (.int (own_dr p4)), .unset, .unset, .unset, .unset] [(.int p5)])) rfl (by rw [hml]; rfl) (argsL := [(.int p5)]) (rest := []) (lenOf pd_22 rfl) rfl (by show 2 * 0 + _ ≤ _; exact Nat.le_of_eq rfl) (hb hby at_28) (fun _ _ => ⟨rfl, eh3, (by decide : 0 + 0 ≤ _), (by decide : 0 + 0 ≤ _)⟩)
 dsimp only [Pt.U, Pt.locs, Pt.cells, Pt.slots] at X4 lq4 yq4 zq4 st4 hQ4
 subst yq4 zq4
 obtain ⟨rfl, Nq4, eh4⟩ := hQ4
 have N4 : Fr n0 L4 := by rw [lq4]; exact Fr.app N3 Nq4
 refine gs m T4 31 #[.val (.int p1), .val (.int p2), .val (.int p3), .val (.int p4), .val (.int p5), .val (.int N), .val (.int (own_dr p2)), .val (.int (own_dr p3)), .val (.int (own_dr p4)), .unset, .unset, .unset, .unset] [(.int (own_dr p5))] st4 ?_
 refine g_istore X4 hx 33 (hb hby at_31) rfl (l' := #[.val (.int p1), .val (.int p2), .val (.int p3), .val (.int p4), .val (.int p5), .val (.int N), .val (.int (own_dr p2)), .val (.int (own_dr p3)), .val (.int (own_dr p4)), .val (.int (own_dr p5)), .unset, .unset, .unset]) rfl ?_
 refine g_iconst X4 hx 34 4 (hb hby at_33) rfl rfl ?_
 obtain ⟨T5, h5, k5, X5, e5, E5, A5, st5⟩ := newP X4 hx hZ (tw hw 5 rfl) eh4 (g := (mkF m 34 #[.val (.int p1), .val (.int p2), .val (.int p3), .val (.int p4), .val (.int p5), .val (.int N), .val (.int (own_dr p2)), .val (.int (own_dr p3)), .val (.int (own_dr p4)), .val (.int (own_dr p5)), .unset, .unset, .unset] [(.int 4)])) rfl (hb hby at_34) rfl (by decide) (cap := 4) (by decide) (by decide) (by decide) (by decide)
 obtain ⟨b5, g5⟩ : ∃ z, z = h0.size := ⟨_, rfl⟩
 rw [← g5] at A5 st5
 have g_b5 : n0 ≤ b5 := Nat.le_trans Z0 (Nat.le_of_eq g5.symm)
 have Z6 : n0 ≤ h5.size := Nat.le_trans Z0 E5.1
 have hk := Nat.le_trans hk E5.1
 have O6 : Old Z n0 h5 := O0.ext E5
 have V_b5 : Arv Z h5 b5 k5 .char (4 : Int32) [(.int 0), (.int 0), (.int 0), (.int 0)] (.int 0) := (Arv.new A5 (by decide)).pad (pad_rep [] (.int 0) 4)
 refine gs m T5 36 #[.val (.int p1), .val (.int p2), .val (.int p3), .val (.int p4), .val (.int p5), .val (.int N), .val (.int (own_dr p2)), .val (.int (own_dr p3)), .val (.int (own_dr p4)), .val (.int (own_dr p5)), .unset, .unset, .unset] [(.ref b5)] st5 ?_
 refine g_dup X5 hx 37 (hb hby at_36) rfl rfl ?_
 refine g_iconst X5 hx 38 0 (hb hby at_37) rfl rfl ?_
 refine g_iload X5 hx 40 (hb hby at_38) rfl rfl ?_
 obtain ⟨cl7, Ar7, qc7, Sz7, Nn7, Hs7, Gf7⟩ := id V_b5
 have hin8 : ¬ ((0 : Int32) < 0 ∨ cl7.slots.size ≤ ((0 : Int32)).toNatClampNeg) := (inb_of Sz7 ⟨by decide, by decide⟩)
 obtain ⟨T8, h8, X8, e8, W8, st8⟩ := stC X5 hx hZ e5 Ar7 (j := (0 : Int32)) hin8 (g := (mkF m 40 #[.val (.int p1), .val (.int p2), .val (.int p3), .val (.int p4), .val (.int p5), .val (.int N), .val (.int (own_dr p2)), .val (.int (own_dr p3)), .val (.int (own_dr p4)), .val (.int (own_dr p5)), .unset, .unset, .unset] [(.int (own_dr p2)), (.int 0), (.ref b5), (.ref b5)])) rfl rfl (hb hby at_40)
 have N8 := Fr.snoc X8 N4 g_b5
 have Z9 : n0 ≤ h8.size := Nat.le_trans Z6 (Keep.of_wr W8).1
 have hk := Nat.le_trans hk (Keep.of_wr W8).1
 have O9 : Old Z n0 h8 := O6.wr W8 g_b5
 rw [own_drn] at W8
 have Va8 : Arv Z h8 b5 k5 .char (4 : Int32) [(.int (own_dr p2)), (.int 0), (.int 0), (.int 0)] (.int 0) := Arv.set Ar7 qc7 Sz7 Nn7 Hs7 Gf7 (own_drf _) W8 0 rfl (Nat.le_of_ble_eq_true rfl)
 refine gs m T8 41 #[.val (.int p1), .val (.int p2), .val (.int p3), .val (.int p4), .val (.int p5), .val (.int N), .val (.int (own_dr p2)), .val (.int (own_dr p3)), .val (.int (own_dr p4)), .val (.int (own_dr p5)), .unset, .unset, .unset] [(.ref b5)] st8 ?_
 refine g_dup X8 hx 42 (hb hby at_41) rfl rfl ?_
 refine g_iconst X8 hx 43 1 (hb hby at_42) rfl rfl ?_
 refine g_iload X8 hx 45 (hb hby at_43) rfl rfl ?_
 obtain ⟨cl10, Ar10, qc10, Sz10, Nn10, Hs10, Gf10⟩ := id Va8
 have hin11 : ¬ ((1 : Int32) < 0 ∨ cl10.slots.size ≤ ((1 : Int32)).toNatClampNeg) := (inb_of Sz10 ⟨by decide, by decide⟩)
 obtain ⟨T11, h11, X11, e11, W11, st11⟩ := stC X8 hx hZ e8 Ar10 (j := (1 : Int32)) hin11 (g := (mkF m 45 #[.val (.int p1), .val (.int p2), .val (.int p3), .val (.int p4), .val (.int p5), .val (.int N), .val (.int (own_dr p2)), .val (.int (own_dr p3)), .val (.int (own_dr p4)), .val (.int (own_dr p5)), .unset, .unset, .unset] [(.int (own_dr p3)), (.int 1), (.ref b5), (.ref b5)])) rfl rfl (hb hby at_45)
 have N11 := Fr.snoc X11 N8 g_b5
 have Z12 : n0 ≤ h11.size := Nat.le_trans Z9 (Keep.of_wr W11).1
 have hk := Nat.le_trans hk (Keep.of_wr W11).1
 have O12 : Old Z n0 h11 := O9.wr W11 g_b5
 rw [own_drn] at W11
 have Va11 : Arv Z h11 b5 k5 .char (4 : Int32) [(.int (own_dr p2)), (.int (own_dr p3)), (.int 0), (.int 0)] (.int 0) := Arv.set Ar10 qc10 Sz10 Nn10 Hs10 Gf10 (own_drf _) W11 1 rfl (Nat.le_of_ble_eq_true rfl)
 refine gs m T11 46 #[.val (.int p1), .val (.int p2), .val (.int p3), .val (.int p4), .val (.int p5), .val (.int N), .val (.int (own_dr p2)), .val (.int (own_dr p3)), .val (.int (own_dr p4)), .val (.int (own_dr p5)), .unset, .unset, .unset] [(.ref b5)] st11 ?_
 refine g_dup X11 hx 47 (hb hby at_46) rfl rfl ?_
 refine g_iconst X11 hx 48 2 (hb hby at_47) rfl rfl ?_
 refine g_iload X11 hx 50 (hb hby at_48) rfl rfl ?_
 obtain ⟨cl13, Ar13, qc13, Sz13, Nn13, Hs13, Gf13⟩ := id Va11
 have hin14 : ¬ ((2 : Int32) < 0 ∨ cl13.slots.size ≤ ((2 : Int32)).toNatClampNeg) := (inb_of Sz13 ⟨by decide, by decide⟩)
 obtain ⟨T14, h14, X14, e14, W14, st14⟩ := stC X11 hx hZ e11 Ar13 (j := (2 : Int32)) hin14 (g := (mkF m 50 #[.val (.int p1), .val (.int p2), .val (.int p3), .val (.int p4), .val (.int p5), .val (.int N), .val (.int (own_dr p2)), .val (.int (own_dr p3)), .val (.int (own_dr p4)), .val (.int (own_dr p5)), .unset, .unset, .unset] [(.int (own_dr p4)), (.int 2), (.ref b5), (.ref b5)])) rfl rfl (hb hby at_50)
 have N14 := Fr.snoc X14 N11 g_b5
 have Z15 : n0 ≤ h14.size := Nat.le_trans Z12 (Keep.of_wr W14).1
 have hk := Nat.le_trans hk (Keep.of_wr W14).1
 have O15 : Old Z n0 h14 := O12.wr W14 g_b5
 rw [own_drn] at W14
 have Va14 : Arv Z h14 b5 k5 .char (4 : Int32) [(.int (own_dr p2)), (.int (own_dr p3)), (.int (own_dr p4)), (.int 0)] (.int 0) := Arv.set Ar13 qc13 Sz13 Nn13 Hs13 Gf13 (own_drf _) W14 2 rfl (Nat.le_of_ble_eq_true rfl)
 refine gs m T14 51 #[.val (.int p1), .val (.int p2), .val (.int p3), .val (.int p4), .val (.int p5), .val (.int N), .val (.int (own_dr p2)), .val (.int (own_dr p3)), .val (.int (own_dr p4)), .val (.int (own_dr p5)), .unset, .unset, .unset] [(.ref b5)] st14 ?_
 refine g_dup X14 hx 52 (hb hby at_51) rfl rfl ?_
 refine g_iconst X14 hx 53 3 (hb hby at_52) rfl rfl ?_
 refine g_iload X14 hx 55 (hb hby at_53) rfl rfl ?_
 obtain ⟨cl16, Ar16, qc16, Sz16, Nn16, Hs16, Gf16⟩ := id Va14
 have hin17 : ¬ ((3 : Int32) < 0 ∨ cl16.slots.size ≤ ((3 : Int32)).toNatClampNeg) := (inb_of Sz16 ⟨by decide, by decide⟩)
 obtain ⟨T17, h17, X17, e17, W17, st17⟩ := stC X14 hx hZ e14 Ar16 (j := (3 : Int32)) hin17 (g := (mkF m 55 #[.val (.int p1), .val (.int p2), .val (.int p3), .val (.int p4), .val (.int p5), .val (.int N), .val (.int (own_dr p2)), .val (.int (own_dr p3)), .val (.int (own_dr p4)), .val (.int (own_dr p5)), .unset, .unset, .unset] [(.int (own_dr p5)), (.int 3), (.ref b5), (.ref b5)])) rfl rfl (hb hby at_55)
 have N17 := Fr.snoc X17 N14 g_b5
 have Z18 : n0 ≤ h17.size := Nat.le_trans Z15 (Keep.of_wr W17).1
 have hk := Nat.le_trans hk (Keep.of_wr W17).1
 have O18 : Old Z n0 h17 := O15.wr W17 g_b5
 rw [own_drn] at W17
 have Va17 : Arv Z h17 b5 k5 .char (4 : Int32) [(.int (own_dr p2)), (.int (own_dr p3)), (.int (own_dr p4)), (.int (own_dr p5))] (.int 0) := Arv.set Ar16 qc16 Sz16 Nn16 Hs16 Gf16 (own_drf _) W17 3 rfl (Nat.le_of_ble_eq_true rfl)
 refine gs m T17 56 #[.val (.int p1), .val (.int p2), .val (.int p3), .val (.int p4), .val (.int p5), .val (.int N), .val (.int (own_dr p2)), .val (.int (own_dr p3)), .val (.int (own_dr p4)), .val (.int (own_dr p5)), .unset, .unset, .unset] [(.ref b5)] st17 ?_
 refine g_astore X17 hx 58 (hb hby at_56) rfl rfl (l' := #[.val (.int p1), .val (.int p2), .val (.int p3), .val (.int p4), .val (.int p5), .val (.int N), .val (.int (own_dr p2)), .val (.int (own_dr p3)), .val (.int (own_dr p4)), .val (.int (own_dr p5)), .val (.ref b5), .unset, .unset]) rfl ?_
 have Vall : Arv Z h17 b5 k5 .char (4 : Int32) (own_tb (own_4 (own_dr p2) (own_dr p3) (own_dr p4) (own_dr p5))) (.int 0) := own_lst Va17 (by decide) (by intro j hj; have hj : j < 4 := hj; rcases j with _ | _ | _ | _ | j <;> first | rfl | omega)
 have J19 : ∀ (b : Addr) (kc : ClassId) (g_b : n0 ≤ b) (hj19 : Heap) (Zj19 : n0 ≤ hj19.size) (hk : h0.size ≤ hj19.size) (Oj19 : Old Z n0 hj19) (V_b_j19 : Arv Z hj19 b kc .char N (own_tb (own_4 (own_dr p2) (own_dr p3) (own_dr p4) (own_dr p5))) (.int 0)) (V_b5_j19 : Arv Z hj19 b5 k5 .char (4 : Int32) (own_tb (own_4 (own_dr p2) (own_dr p3) (own_dr p4) (own_dr p5))) (.int 0)) (E_ci_j19 : Exa Z hj19 ci "java/lang/CharacterDataLatin1") (V_tA_j19 : Arv Z hj19 tA kA .int (256 : Int32) own_tab (.int 0)) (Tj19 : State) (Lj19 : List Loc) (Xj19 : Stand p l e room_1 (s.setVm s.vm) m #[(.int p1), (.int p2), (.int p3), (.int p4), (.int p5)] below meth c Tj19 Lj19 2 8) (ej19 : Tj19.heap = hj19) (Nj19 : Fr n0 Lj19), Go p e below (FinW s below (Q_rm0 Z p1 p2 p3 p4 p5 cs fv ci tA kA h0 n0) room_1.cells room_1.slots) Tj19 (mkF m 168 #[.val (.int p1), .val (.int p2), .val (.int p3), .val (.int p4), .val (.int p5), .val (.int N), .val (.int (own_dr p2)), .val (.int (own_dr p3)), .val (.int (own_dr p4)), .val (.int (own_dr p5)), .val (.ref b5), .val (.ref b), .unset] []) := by
  intro b kc g_b hj19 Zj19 hk Oj19 V_b_j19 V_b5_j19 E_ci_j19 V_tA_j19 Tj19 Lj19 Xj19 ej19 Nj19
  have J20 : ∀ (xx : Int32) (hxx : (xx = (1 : Int32) ∧ ∃ i j, i < j ∧ j < nn ∧ (own_4 (own_dr p2) (own_dr p3) (own_dr p4) (own_dr p5)) i = (59 : Int32) ∧ own_ws ((own_4 (own_dr p2) (own_dr p3) (own_dr p4) (own_dr p5)) j) = (0 : Int32)) ∨ (xx = (0 : Int32) ∧ ¬ ∃ i j, i < j ∧ j < nn ∧ (own_4 (own_dr p2) (own_dr p3) (own_dr p4) (own_dr p5)) i = (59 : Int32) ∧ own_ws ((own_4 (own_dr p2) (own_dr p3) (own_dr p4) (own_dr p5)) j) = (0 : Int32))) (Tj20 : State) (Lj20 : List Loc) (Xj20 : Stand p l e room_1 (s.setVm s.vm) m #[(.int p1), (.int p2), (.int p3), (.int p4), (.int p5)] below meth c Tj20 Lj20 2 8) (ej20 : Tj20.heap = hj19) (Nj20 : Fr n0 Lj20), Go p e below (FinW s below (Q_rm0 Z p1 p2 p3 p4 p5 cs fv ci tA kA h0 n0) room_1.cells room_1.slots) Tj20 (mkF m 245 #[.val (.int p1), .val (.int p2), .val (.int p3), .val (.int p4), .val (.int p5), .val (.int N), .val (.int (own_dr p2)), .val (.int (own_dr p3)), .val (.int (own_dr p4)), .val (.int (own_dr p5)), .val (.ref b5), .val (.ref b), .unset] [(.int xx)]) := by
   intro xx hxx Tj20 Lj20 Xj20 ej20 Nj20
   refine g_istore Xj20 hx 247 (hb hby at_245) rfl (l' := #[.val (.int p1), .val (.int p2), .val (.int p3), .val (.int p4), .val (.int p5), .val (.int N), .val (.int (own_dr p2)), .val (.int (own_dr p3)), .val (.int (own_dr p4)), .val (.int (own_dr p5)), .val (.ref b5), .val (.ref b), .val (.int xx)]) rfl ?_
   rcases Classical.em (N = (0 : Int32)) with hNz | hNz
   ·obtain ⟨T21, h21, X21, e21, E21, A21, D21, -, st21⟩ := newO Xj20 hx hZ hown (tw hw 9 rfl) (tw hw 10 rfl) (tw hw 11 rfl) ej20 (g := (mkF m 247 #[.val (.int p1), .val (.int p2), .val (.int p3), .val (.int p4), .val (.int p5), .val (.int N), .val (.int (own_dr p2)), .val (.int (own_dr p3)), .val (.int (own_dr p4)), .val (.int (own_dr p5)), .val (.ref b5), .val (.ref b), .val (.int xx)] [])) rfl (hb hby at_247) (by decide) (by decide)
    obtain ⟨b21, g21⟩ : ∃ z, z = hj19.size := ⟨_, rfl⟩
    rw [← g21] at A21 D21 st21
    have g_b21 : n0 ≤ b21 := Nat.le_trans Zj19 (Nat.le_of_eq g21.symm)
    have Z22 : n0 ≤ h21.size := Nat.le_trans Zj19 E21.1
    have hk := Nat.le_trans hk E21.1
    have O22 : Old Z n0 h21 := Oj19.ext E21
    have F_value_b21 : Fld Z h21 b21 "java/lang/String" "value" "[B" .null := D21 (Or.inr (tw hw 24 rfl)) (ty := (.array .byte)) (by decide)
    have F_coder_b21 : Fld Z h21 b21 "java/lang/String" "coder" "B" (.int 0) := D21 (Or.inr (tw hw 25 rfl)) (ty := .byte) (by decide)
    refine gs m T21 250 #[.val (.int p1), .val (.int p2), .val (.int p3), .val (.int p4), .val (.int p5), .val (.int N), .val (.int (own_dr p2)), .val (.int (own_dr p3)), .val (.int (own_dr p4)), .val (.int (own_dr p5)), .val (.ref b5), .val (.ref b), .val (.int xx)] [(.ref b21)] st21 ?_
    refine g_dup X21 hx 251 (hb hby at_250) rfl rfl ?_
    refine g_aload X21 hx 253 (hb hby at_251) rfl rfl rfl ?_
    have q24 : Arv Z h21 b kc .char N (own_tb (own_4 (own_dr p2) (own_dr p3) (own_dr p4) (own_dr p5))) (.int 0) := (V_b_j19.ext E21)
    obtain ⟨_, _, ⟨T23, L23, kk23, nn23⟩, -, X23, hS23, hG23, ⟨Lc23, hQ23, lq23, yq23, zq23⟩, st23⟩ := X21.specialBackS hx (y := y101) rfl hown (mvT hZ (tw hw 12 rfl)) (mvT hZ (tw hw 13 rfl)) (mvT hZ (tw hw 14 rfl)) (by decide) (own_backSI (W := 1) (rmSi_0 l Z a0 hw [] b21 b cs kc (own_4 (own_dr p2) (own_dr p3) (own_dr p4) (own_dr p5)) nn N h21 n0 Z22 A21 F_value_b21 F_coder_b21 q24 O22 S_COMPACT_STRINGS hcs hCH hCW hN hnn (own_4l (own_drr _) (own_drr _) (own_drr _) (own_drr _) nn) hNz g_b21) hZ hI (tw hw 14 rfl) (tw hw 11 rfl) (by decide) (by decide)) (g := (mkF m 253 #[.val (.int p1), .val (.int p2), .val (.int p3), .val (.int p4), .val (.int p5), .val (.int N), .val (.int (own_dr p2)), .val (.int (own_dr p3)), .val (.int (own_dr p4)), .val (.int (own_dr p5)), .val (.ref b5), .val (.ref b), .val (.int xx)] [(.ref b), (.ref b21), (.ref b21)])) rfl (by rw [hml]; rfl) (Steps.refl _) (a := b21) (argsL := [(.ref b)]) (rest := [(.ref b21)]) (lenOf pd_23 rfl) rfl (by show 2 * 0 + _ ≤ _; exact Nat.le_of_eq rfl) (hb hby at_253) (fun _ _ => ⟨rfl, e21, (by decide : 3 + 2 ≤ _), (by decide : 12 + 4 ≤ _)⟩)
    dsimp only [Pt.U, Pt.locs, Pt.cells, Pt.slots] at X23 lq23 yq23 zq23 st23 hQ23 hS23 hG23
    subst yq23 zq23
    rw [e21] at hG23
    obtain ⟨X23, hS, hZ, hown⟩ := rebS hS hk X23 hS23 hG23 hZ hown
    have hk := Nat.le_refl T23.heap.size
    obtain ⟨b_23, kb_23, g_23, rfl, Nq23, Kq23, r23_0, r23_1, r23_2, r23_3⟩ := hQ23
    have N23 : Fr n0 L23 := by rw [lq23]; exact Fr.app Nj20 Nq23
    have Z25 : n0 ≤ T23.heap.size := Nat.le_trans Z22 Kq23.1
    have O25 : Old Z n0 T23.heap := O22.keep Kq23 (allS g_b21 all0)
    refine gs m T23 256 #[.val (.int p1), .val (.int p2), .val (.int p3), .val (.int p4), .val (.int p5), .val (.int N), .val (.int (own_dr p2)), .val (.int (own_dr p3)), .val (.int (own_dr p4)), .val (.int (own_dr p5)), .val (.ref b5), .val (.ref b), .val (.int xx)] [(.ref b21)] (fun _ k => st23.trans k) ?_
    have q27 : Exa Z T23.heap b21 "java/lang/String" := (A21.keep Kq23)
    obtain ⟨_, _, ⟨T26, L26, kk26, nn26⟩, -, X26, ⟨Lc26, hQ26, lq26, yq26, zq26⟩, st26⟩ := Jvm.LawKit.callS X23 hx (y := y116) hown (mvT hZ (tw hw 30 rfl)) (mvT hZ (tw hw 31 rfl)) (mvT hZ (tw hw 32 rfl)) (mvT hZ (tw hw 33 rfl)) (by decide) (backOf (W := 0) (rmMs0 l Z a0 hw [] b21 cs b_23 kb_23 N g_23 (own_4 (own_dr p2) (own_dr p3) (own_dr p4) (own_dr p5)) nn T23.heap n0 Z25 q27 r23_0 r23_1 r23_2 O25 S_COMPACT_STRINGS hcs hN hnn (own_4l (own_drr _) (own_drr _) (own_drr _) (own_drr _) nn) r23_3 hNz) hZ (tw hw 33 rfl) (tw hw 32 rfl) (by decide) (by decide)) (g := (mkF m 256 #[.val (.int p1), .val (.int p2), .val (.int p3), .val (.int p4), .val (.int p5), .val (.int N), .val (.int (own_dr p2)), .val (.int (own_dr p3)), .val (.int (own_dr p4)), .val (.int (own_dr p5)), .val (.ref b5), .val (.ref b), .val (.int xx)] [(.ref b21)])) rfl (by rw [hml]; rfl) (argsL := [(.ref b21)]) (rest := []) (lenOf pd_24 rfl) rfl (by show 2 * 0 + _ ≤ _; exact Nat.le_of_eq rfl) (hb hby at_256) (fun _ _ => ⟨rfl, rfl, (by decide : 5 + 0 ≤ _), (by decide : 16 + 0 ≤ _)⟩)
    dsimp only [Pt.U, Pt.locs, Pt.cells, Pt.slots] at X26 lq26 yq26 zq26 st26 hQ26
    subst yq26 zq26
    obtain ⟨r_26, rfl, Nq26, eh26, r26_0⟩ := hQ26
    have N26 : Fr n0 L26 := by rw [lq26]; exact Fr.app N23 Nq26
    refine gs m T26 259 #[.val (.int p1), .val (.int p2), .val (.int p3), .val (.int p4), .val (.int p5), .val (.int N), .val (.int (own_dr p2)), .val (.int (own_dr p3)), .val (.int (own_dr p4)), .val (.int (own_dr p5)), .val (.ref b5), .val (.ref b), .val (.int xx)] [(.int r_26)] st26 ?_
    refine g_iload X26 hx 261 (hb hby at_259) rfl rfl ?_
    refine g_icmpNo X26 hx 264 (hb hby at_261) rfl (teq (own_fin23 r26_0 hxx)).2 ?_
    refine g_iconst X26 hx 265 1 (hb hby at_264) rfl rfl ?_
    refine g_goto X26 hx 269 (hb hby at_265) (by decide) (by decide) ?_
    refine goNW hS X26 (by rw [eh26]; exact hk) hx (t := .boolean) Bd.returns (by simp) Bd.notSynchronized (hb hby at_269) ?_ (by decide) (by decide)
    show Q_rm0 Z p1 p2 p3 p4 p5 cs fv ci tA kA h0 n0 _ T26.heap _
    rw [eh26]
    exact ⟨rfl, N26⟩
   ·obtain ⟨T28, h28, X28, e28, E28, A28, D28, -, st28⟩ := newO Xj20 hx hZ hown (tw hw 9 rfl) (tw hw 10 rfl) (tw hw 11 rfl) ej20 (g := (mkF m 247 #[.val (.int p1), .val (.int p2), .val (.int p3), .val (.int p4), .val (.int p5), .val (.int N), .val (.int (own_dr p2)), .val (.int (own_dr p3)), .val (.int (own_dr p4)), .val (.int (own_dr p5)), .val (.ref b5), .val (.ref b), .val (.int xx)] [])) rfl (hb hby at_247) (by decide) (by decide)
    obtain ⟨b28, g28⟩ : ∃ z, z = hj19.size := ⟨_, rfl⟩
    rw [← g28] at A28 D28 st28
    have g_b28 : n0 ≤ b28 := Nat.le_trans Zj19 (Nat.le_of_eq g28.symm)
    have Z29 : n0 ≤ h28.size := Nat.le_trans Zj19 E28.1
    have hk := Nat.le_trans hk E28.1
    have O29 : Old Z n0 h28 := Oj19.ext E28
    have F_value_b28 : Fld Z h28 b28 "java/lang/String" "value" "[B" .null := D28 (Or.inr (tw hw 24 rfl)) (ty := (.array .byte)) (by decide)
    have F_coder_b28 : Fld Z h28 b28 "java/lang/String" "coder" "B" (.int 0) := D28 (Or.inr (tw hw 25 rfl)) (ty := .byte) (by decide)
    refine gs m T28 250 #[.val (.int p1), .val (.int p2), .val (.int p3), .val (.int p4), .val (.int p5), .val (.int N), .val (.int (own_dr p2)), .val (.int (own_dr p3)), .val (.int (own_dr p4)), .val (.int (own_dr p5)), .val (.ref b5), .val (.ref b), .val (.int xx)] [(.ref b28)] st28 ?_
    refine g_dup X28 hx 251 (hb hby at_250) rfl rfl ?_
    refine g_aload X28 hx 253 (hb hby at_251) rfl rfl rfl ?_
    have q31 : Arv Z h28 b kc .char N (own_tb (own_4 (own_dr p2) (own_dr p3) (own_dr p4) (own_dr p5))) (.int 0) := (V_b_j19.ext E28)
    obtain ⟨_, _, ⟨T30, L30, kk30, nn30⟩, -, X30, ⟨Lc30, hQ30, lq30, yq30, zq30⟩, st30⟩ := X28.specialBack hx (y := y101) rfl hown (mvT hZ (tw hw 12 rfl)) (mvT hZ (tw hw 13 rfl)) (mvT hZ (tw hw 14 rfl)) (by decide) (backOf (W := 1) (rmSi_1 l Z a0 hw [] b28 b cs kc (own_4 (own_dr p2) (own_dr p3) (own_dr p4) (own_dr p5)) nn N h28 n0 Z29 A28 F_value_b28 F_coder_b28 q31 O29 S_COMPACT_STRINGS hcs hN hnn (own_4l (own_drr _) (own_drr _) (own_drr _) (own_drr _) nn) hNz g_b28) hZ (tw hw 14 rfl) (tw hw 11 rfl) (by decide) (by decide)) (g := (mkF m 253 #[.val (.int p1), .val (.int p2), .val (.int p3), .val (.int p4), .val (.int p5), .val (.int N), .val (.int (own_dr p2)), .val (.int (own_dr p3)), .val (.int (own_dr p4)), .val (.int (own_dr p5)), .val (.ref b5), .val (.ref b), .val (.int xx)] [(.ref b), (.ref b28), (.ref b28)])) rfl (by rw [hml]; rfl) (Steps.refl _) (a := b28) (argsL := [(.ref b)]) (rest := [(.ref b28)]) (lenOf pd_23 rfl) rfl (by show 2 * 0 + _ ≤ _; exact Nat.le_of_eq rfl) (hb hby at_253) (fun _ _ => ⟨rfl, e28, (by decide : 3 + 1 ≤ _), (by decide : 12 + 20 ≤ _)⟩)
    dsimp only [Pt.U, Pt.locs, Pt.cells, Pt.slots] at X30 lq30 yq30 zq30 st30 hQ30
    subst yq30 zq30
    obtain ⟨b_30, kb_30, g_30, rfl, Nq30, Kq30, r30_0, r30_1, r30_2, r30_3⟩ := hQ30
    have N30 : Fr n0 L30 := by rw [lq30]; exact Fr.app Nj20 Nq30
    have Z32 : n0 ≤ T30.heap.size := Nat.le_trans Z29 Kq30.1
    have hk := Nat.le_trans hk Kq30.1
    have O32 : Old Z n0 T30.heap := O29.keep Kq30 (allS g_b28 all0)
    refine gs m T30 256 #[.val (.int p1), .val (.int p2), .val (.int p3), .val (.int p4), .val (.int p5), .val (.int N), .val (.int (own_dr p2)), .val (.int (own_dr p3)), .val (.int (own_dr p4)), .val (.int (own_dr p5)), .val (.ref b5), .val (.ref b), .val (.int xx)] [(.ref b28)] (fun _ k => st30.trans k) ?_
    have q34 : Exa Z T30.heap b28 "java/lang/String" := (A28.keep Kq30)
    have q35 : Exa Z T30.heap ci "java/lang/CharacterDataLatin1" := ((E_ci_j19.ext E28).keep Kq30)
    have q36 : Arv Z T30.heap tA kA .int (256 : Int32) own_tab (.int 0) := ((V_tA_j19.ext E28).keep Kq30 (ninS (Nat.ne_of_lt (Nat.lt_of_lt_of_le V_tA_j19.lt (Nat.le_of_eq g28.symm))) nin0))
    obtain ⟨_, _, ⟨T33, L33, kk33, nn33⟩, -, X33, hS33, hG33, ⟨Lc33, hQ33, lq33, yq33, zq33⟩, st33⟩ := callSS X30 hx (y := y116) hown (mvT hZ (tw hw 30 rfl)) (mvT hZ (tw hw 31 rfl)) (mvT hZ (tw hw 32 rfl)) (mvT hZ (tw hw 33 rfl)) (by decide) (own_backSI (W := 0) (rmMs l Z a0 hw [] b28 cs fv ci tA kA b_30 kb_30 N g_30 (own_4 (own_dr p2) (own_dr p3) (own_dr p4) (own_dr p5)) nn T30.heap n0 Z32 q34 r30_0 r30_1 r30_2 q35 q36 O32 S_COMPACT_STRINGS hcs S_SIOOBE_FORMATTER hfv S_A S_instance hCH2 hCW hN hnn h4 (own_4l (own_drr _) (own_drr _) (own_drr _) (own_drr _) nn) r30_3) hZ hI (tw hw 33 rfl) (tw hw 32 rfl) (by decide) (by decide)) (g := (mkF m 256 #[.val (.int p1), .val (.int p2), .val (.int p3), .val (.int p4), .val (.int p5), .val (.int N), .val (.int (own_dr p2)), .val (.int (own_dr p3)), .val (.int (own_dr p4)), .val (.int (own_dr p5)), .val (.ref b5), .val (.ref b), .val (.int xx)] [(.ref b28)])) rfl (by rw [hml]; rfl) (argsL := [(.ref b28)]) (rest := []) (lenOf pd_24 rfl) rfl (by show 2 * 0 + _ ≤ _; exact Nat.le_of_eq rfl) (hb hby at_256) (fun _ _ => ⟨rfl, rfl, (by decide : 4 + 2 ≤ _), (by decide : 32 + 7 ≤ _)⟩)
    dsimp only [Pt.U, Pt.locs, Pt.cells, Pt.slots] at X33 lq33 yq33 zq33 st33 hQ33 hS33 hG33
    subst yq33 zq33
    obtain ⟨X33, hS, hZ, hown⟩ := rebS hS hk X33 hS33 hG33 hZ hown
    have hk := Nat.le_refl T33.heap.size
    obtain ⟨r_33, rfl, Nq33, Kq33, r33_0⟩ := hQ33
    have N33 : Fr n0 L33 := by rw [lq33]; exact Fr.app N30 Nq33
    have Z37 : n0 ≤ T33.heap.size := Nat.le_trans Z32 Kq33.1
    have O37 : Old Z n0 T33.heap := O32.keep Kq33 all0
    refine gs m T33 259 #[.val (.int p1), .val (.int p2), .val (.int p3), .val (.int p4), .val (.int p5), .val (.int N), .val (.int (own_dr p2)), .val (.int (own_dr p3)), .val (.int (own_dr p4)), .val (.int (own_dr p5)), .val (.ref b5), .val (.ref b), .val (.int xx)] [(.int r_33)] (fun _ k => st33.trans k) ?_
    refine g_iload X33 hx 261 (hb hby at_259) rfl rfl ?_
    refine g_icmpNo X33 hx 264 (hb hby at_261) rfl (teq (own_fin23 r33_0 hxx)).2 ?_
    refine g_iconst X33 hx 265 1 (hb hby at_264) rfl rfl ?_
    refine g_goto X33 hx 269 (hb hby at_265) (by decide) (by decide) ?_
    refine goNW hS X33 hk hx (t := .boolean) Bd.returns (by simp) Bd.notSynchronized (hb hby at_269) ?_ (by decide) (by decide)
    show Q_rm0 Z p1 p2 p3 p4 p5 cs fv ci tA kA h0 n0 _ T33.heap _
    exact ⟨rfl, N33⟩
  refine g_aload Xj19 hx 170 (hb hby at_168) rfl rfl rfl ?_
  refine g_iload Xj19 hx 172 (hb hby at_170) rfl rfl ?_
  refine g_iconst Xj19 hx 173 0 (hb hby at_172) rfl rfl ?_
  refine g_iconst Xj19 hx 174 1 (hb hby at_173) rfl rfl ?_
  obtain ⟨_, _, ⟨T38, L38, kk38, nn38⟩, -, X38, ⟨Lc38, hQ38, lq38, yq38, zq38⟩, st38⟩ := Jvm.LawKit.callS Xj19 hx (y := y118) hown (mvT hZ (tw hw 6 rfl)) (mvT hZ (tw hw 7 rfl)) (mvT hZ (tw hw 3 rfl)) (mvT hZ (tw hw 8 rfl)) (by decide) (backOf (W := 0) (rmPq l Z a0 hw [] b5 N (0 : Int32) (1 : Int32) k5 (own_4 (own_dr p2) (own_dr p3) (own_dr p4) (own_dr p5)) nn 0 1 hj19 n0 Zj19 V_b5_j19 hN hnn ⟨rfl, by decide⟩ ⟨rfl, by decide⟩ (by decide) (by decide)) hZ (tw hw 8 rfl) (tw hw 3 rfl) (by decide) (by decide)) (g := (mkF m 174 #[.val (.int p1), .val (.int p2), .val (.int p3), .val (.int p4), .val (.int p5), .val (.int N), .val (.int (own_dr p2)), .val (.int (own_dr p3)), .val (.int (own_dr p4)), .val (.int (own_dr p5)), .val (.ref b5), .val (.ref b), .unset] [(.int 1), (.int 0), (.int N), (.ref b5)])) rfl (by rw [hml]; rfl) (argsL := [(.ref b5), (.int N), (.int 0), (.int 1)]) (rest := []) (lenOf pd_25 rfl) rfl (by show 2 * 0 + _ ≤ _; exact Nat.le_of_eq rfl) (hb hby at_174) (fun _ _ => ⟨rfl, ej19, (by decide : 2 + 0 ≤ _), (by decide : 8 + 0 ≤ _)⟩)
  dsimp only [Pt.U, Pt.locs, Pt.cells, Pt.slots] at X38 lq38 yq38 zq38 st38 hQ38
  subst yq38 zq38
  obtain ⟨r_38, rfl, Nq38, eh38, r38_0⟩ := hQ38
  have N38 : Fr n0 L38 := by rw [lq38]; exact Fr.app Nj19 Nq38
  refine gs m T38 177 #[.val (.int p1), .val (.int p2), .val (.int p3), .val (.int p4), .val (.int p5), .val (.int N), .val (.int (own_dr p2)), .val (.int (own_dr p3)), .val (.int (own_dr p4)), .val (.int (own_dr p5)), .val (.ref b5), .val (.ref b), .unset] [(.int r_38)] st38 ?_
  by_cases hc177 : r_38 = (0 : Int32)
  ·refine g_ifNo X38 hx 180 (hb hby at_177) rfl ((if0 _ _).trans (teq hc177).2) ?_
   refine g_aload X38 hx 182 (hb hby at_180) rfl rfl rfl ?_
   refine g_iload X38 hx 184 (hb hby at_182) rfl rfl ?_
   refine g_iconst X38 hx 185 0 (hb hby at_184) rfl rfl ?_
   refine g_iconst X38 hx 186 2 (hb hby at_185) rfl rfl ?_
   obtain ⟨_, _, ⟨T39, L39, kk39, nn39⟩, -, X39, ⟨Lc39, hQ39, lq39, yq39, zq39⟩, st39⟩ := Jvm.LawKit.callS X38 hx (y := y118) hown (mvT hZ (tw hw 6 rfl)) (mvT hZ (tw hw 7 rfl)) (mvT hZ (tw hw 3 rfl)) (mvT hZ (tw hw 8 rfl)) (by decide) (backOf (W := 0) (rmPq l Z a0 hw [] b5 N (0 : Int32) (2 : Int32) k5 (own_4 (own_dr p2) (own_dr p3) (own_dr p4) (own_dr p5)) nn 0 2 hj19 n0 Zj19 V_b5_j19 hN hnn ⟨rfl, by decide⟩ ⟨rfl, by decide⟩ (by decide) (by decide)) hZ (tw hw 8 rfl) (tw hw 3 rfl) (by decide) (by decide)) (g := (mkF m 186 #[.val (.int p1), .val (.int p2), .val (.int p3), .val (.int p4), .val (.int p5), .val (.int N), .val (.int (own_dr p2)), .val (.int (own_dr p3)), .val (.int (own_dr p4)), .val (.int (own_dr p5)), .val (.ref b5), .val (.ref b), .unset] [(.int 2), (.int 0), (.int N), (.ref b5)])) rfl (by rw [hml]; rfl) (argsL := [(.ref b5), (.int N), (.int 0), (.int 2)]) (rest := []) (lenOf pd_25 rfl) rfl (by show 2 * 0 + _ ≤ _; exact Nat.le_of_eq rfl) (hb hby at_186) (fun _ _ => ⟨rfl, eh38, (by decide : 2 + 0 ≤ _), (by decide : 8 + 0 ≤ _)⟩)
   dsimp only [Pt.U, Pt.locs, Pt.cells, Pt.slots] at X39 lq39 yq39 zq39 st39 hQ39
   subst yq39 zq39
   obtain ⟨r_39, rfl, Nq39, eh39, r39_0⟩ := hQ39
   have N39 : Fr n0 L39 := by rw [lq39]; exact Fr.app N38 Nq39
   refine gs m T39 189 #[.val (.int p1), .val (.int p2), .val (.int p3), .val (.int p4), .val (.int p5), .val (.int N), .val (.int (own_dr p2)), .val (.int (own_dr p3)), .val (.int (own_dr p4)), .val (.int (own_dr p5)), .val (.ref b5), .val (.ref b), .unset] [(.int r_39)] st39 ?_
   by_cases hc189 : r_39 = (0 : Int32)
   ·refine g_ifNo X39 hx 192 (hb hby at_189) rfl ((if0 _ _).trans (teq hc189).2) ?_
    refine g_aload X39 hx 194 (hb hby at_192) rfl rfl rfl ?_
    refine g_iload X39 hx 196 (hb hby at_194) rfl rfl ?_
    refine g_iconst X39 hx 197 0 (hb hby at_196) rfl rfl ?_
    refine g_iconst X39 hx 198 3 (hb hby at_197) rfl rfl ?_
    obtain ⟨_, _, ⟨T40, L40, kk40, nn40⟩, -, X40, ⟨Lc40, hQ40, lq40, yq40, zq40⟩, st40⟩ := Jvm.LawKit.callS X39 hx (y := y118) hown (mvT hZ (tw hw 6 rfl)) (mvT hZ (tw hw 7 rfl)) (mvT hZ (tw hw 3 rfl)) (mvT hZ (tw hw 8 rfl)) (by decide) (backOf (W := 0) (rmPq l Z a0 hw [] b5 N (0 : Int32) (3 : Int32) k5 (own_4 (own_dr p2) (own_dr p3) (own_dr p4) (own_dr p5)) nn 0 3 hj19 n0 Zj19 V_b5_j19 hN hnn ⟨rfl, by decide⟩ ⟨rfl, by decide⟩ (by decide) (by decide)) hZ (tw hw 8 rfl) (tw hw 3 rfl) (by decide) (by decide)) (g := (mkF m 198 #[.val (.int p1), .val (.int p2), .val (.int p3), .val (.int p4), .val (.int p5), .val (.int N), .val (.int (own_dr p2)), .val (.int (own_dr p3)), .val (.int (own_dr p4)), .val (.int (own_dr p5)), .val (.ref b5), .val (.ref b), .unset] [(.int 3), (.int 0), (.int N), (.ref b5)])) rfl (by rw [hml]; rfl) (argsL := [(.ref b5), (.int N), (.int 0), (.int 3)]) (rest := []) (lenOf pd_25 rfl) rfl (by show 2 * 0 + _ ≤ _; exact Nat.le_of_eq rfl) (hb hby at_198) (fun _ _ => ⟨rfl, eh39, (by decide : 2 + 0 ≤ _), (by decide : 8 + 0 ≤ _)⟩)
    dsimp only [Pt.U, Pt.locs, Pt.cells, Pt.slots] at X40 lq40 yq40 zq40 st40 hQ40
    subst yq40 zq40
    obtain ⟨r_40, rfl, Nq40, eh40, r40_0⟩ := hQ40
    have N40 : Fr n0 L40 := by rw [lq40]; exact Fr.app N39 Nq40
    refine gs m T40 201 #[.val (.int p1), .val (.int p2), .val (.int p3), .val (.int p4), .val (.int p5), .val (.int N), .val (.int (own_dr p2)), .val (.int (own_dr p3)), .val (.int (own_dr p4)), .val (.int (own_dr p5)), .val (.ref b5), .val (.ref b), .unset] [(.int r_40)] st40 ?_
    by_cases hc201 : r_40 = (0 : Int32)
    ·refine g_ifNo X40 hx 204 (hb hby at_201) rfl ((if0 _ _).trans (teq hc201).2) ?_
     refine g_aload X40 hx 206 (hb hby at_204) rfl rfl rfl ?_
     refine g_iload X40 hx 208 (hb hby at_206) rfl rfl ?_
     refine g_iconst X40 hx 209 1 (hb hby at_208) rfl rfl ?_
     refine g_iconst X40 hx 210 2 (hb hby at_209) rfl rfl ?_
     obtain ⟨_, _, ⟨T41, L41, kk41, nn41⟩, -, X41, ⟨Lc41, hQ41, lq41, yq41, zq41⟩, st41⟩ := Jvm.LawKit.callS X40 hx (y := y118) hown (mvT hZ (tw hw 6 rfl)) (mvT hZ (tw hw 7 rfl)) (mvT hZ (tw hw 3 rfl)) (mvT hZ (tw hw 8 rfl)) (by decide) (backOf (W := 0) (rmPq l Z a0 hw [] b5 N (1 : Int32) (2 : Int32) k5 (own_4 (own_dr p2) (own_dr p3) (own_dr p4) (own_dr p5)) nn 1 2 hj19 n0 Zj19 V_b5_j19 hN hnn ⟨rfl, by decide⟩ ⟨rfl, by decide⟩ (by decide) (by decide)) hZ (tw hw 8 rfl) (tw hw 3 rfl) (by decide) (by decide)) (g := (mkF m 210 #[.val (.int p1), .val (.int p2), .val (.int p3), .val (.int p4), .val (.int p5), .val (.int N), .val (.int (own_dr p2)), .val (.int (own_dr p3)), .val (.int (own_dr p4)), .val (.int (own_dr p5)), .val (.ref b5), .val (.ref b), .unset] [(.int 2), (.int 1), (.int N), (.ref b5)])) rfl (by rw [hml]; rfl) (argsL := [(.ref b5), (.int N), (.int 1), (.int 2)]) (rest := []) (lenOf pd_25 rfl) rfl (by show 2 * 0 + _ ≤ _; exact Nat.le_of_eq rfl) (hb hby at_210) (fun _ _ => ⟨rfl, eh40, (by decide : 2 + 0 ≤ _), (by decide : 8 + 0 ≤ _)⟩)
     dsimp only [Pt.U, Pt.locs, Pt.cells, Pt.slots] at X41 lq41 yq41 zq41 st41 hQ41
     subst yq41 zq41
     obtain ⟨r_41, rfl, Nq41, eh41, r41_0⟩ := hQ41
     have N41 : Fr n0 L41 := by rw [lq41]; exact Fr.app N40 Nq41
     refine gs m T41 213 #[.val (.int p1), .val (.int p2), .val (.int p3), .val (.int p4), .val (.int p5), .val (.int N), .val (.int (own_dr p2)), .val (.int (own_dr p3)), .val (.int (own_dr p4)), .val (.int (own_dr p5)), .val (.ref b5), .val (.ref b), .unset] [(.int r_41)] st41 ?_
     by_cases hc213 : r_41 = (0 : Int32)
     ·refine g_ifNo X41 hx 216 (hb hby at_213) rfl ((if0 _ _).trans (teq hc213).2) ?_
      refine g_aload X41 hx 218 (hb hby at_216) rfl rfl rfl ?_
      refine g_iload X41 hx 220 (hb hby at_218) rfl rfl ?_
      refine g_iconst X41 hx 221 1 (hb hby at_220) rfl rfl ?_
      refine g_iconst X41 hx 222 3 (hb hby at_221) rfl rfl ?_
      obtain ⟨_, _, ⟨T42, L42, kk42, nn42⟩, -, X42, ⟨Lc42, hQ42, lq42, yq42, zq42⟩, st42⟩ := Jvm.LawKit.callS X41 hx (y := y118) hown (mvT hZ (tw hw 6 rfl)) (mvT hZ (tw hw 7 rfl)) (mvT hZ (tw hw 3 rfl)) (mvT hZ (tw hw 8 rfl)) (by decide) (backOf (W := 0) (rmPq l Z a0 hw [] b5 N (1 : Int32) (3 : Int32) k5 (own_4 (own_dr p2) (own_dr p3) (own_dr p4) (own_dr p5)) nn 1 3 hj19 n0 Zj19 V_b5_j19 hN hnn ⟨rfl, by decide⟩ ⟨rfl, by decide⟩ (by decide) (by decide)) hZ (tw hw 8 rfl) (tw hw 3 rfl) (by decide) (by decide)) (g := (mkF m 222 #[.val (.int p1), .val (.int p2), .val (.int p3), .val (.int p4), .val (.int p5), .val (.int N), .val (.int (own_dr p2)), .val (.int (own_dr p3)), .val (.int (own_dr p4)), .val (.int (own_dr p5)), .val (.ref b5), .val (.ref b), .unset] [(.int 3), (.int 1), (.int N), (.ref b5)])) rfl (by rw [hml]; rfl) (argsL := [(.ref b5), (.int N), (.int 1), (.int 3)]) (rest := []) (lenOf pd_25 rfl) rfl (by show 2 * 0 + _ ≤ _; exact Nat.le_of_eq rfl) (hb hby at_222) (fun _ _ => ⟨rfl, eh41, (by decide : 2 + 0 ≤ _), (by decide : 8 + 0 ≤ _)⟩)
      dsimp only [Pt.U, Pt.locs, Pt.cells, Pt.slots] at X42 lq42 yq42 zq42 st42 hQ42
      subst yq42 zq42
      obtain ⟨r_42, rfl, Nq42, eh42, r42_0⟩ := hQ42
      have N42 : Fr n0 L42 := by rw [lq42]; exact Fr.app N41 Nq42
      refine gs m T42 225 #[.val (.int p1), .val (.int p2), .val (.int p3), .val (.int p4), .val (.int p5), .val (.int N), .val (.int (own_dr p2)), .val (.int (own_dr p3)), .val (.int (own_dr p4)), .val (.int (own_dr p5)), .val (.ref b5), .val (.ref b), .unset] [(.int r_42)] st42 ?_
      by_cases hc225 : r_42 = (0 : Int32)
      ·refine g_ifNo X42 hx 228 (hb hby at_225) rfl ((if0 _ _).trans (teq hc225).2) ?_
       refine g_aload X42 hx 230 (hb hby at_228) rfl rfl rfl ?_
       refine g_iload X42 hx 232 (hb hby at_230) rfl rfl ?_
       refine g_iconst X42 hx 233 2 (hb hby at_232) rfl rfl ?_
       refine g_iconst X42 hx 234 3 (hb hby at_233) rfl rfl ?_
       obtain ⟨_, _, ⟨T43, L43, kk43, nn43⟩, -, X43, ⟨Lc43, hQ43, lq43, yq43, zq43⟩, st43⟩ := Jvm.LawKit.callS X42 hx (y := y118) hown (mvT hZ (tw hw 6 rfl)) (mvT hZ (tw hw 7 rfl)) (mvT hZ (tw hw 3 rfl)) (mvT hZ (tw hw 8 rfl)) (by decide) (backOf (W := 0) (rmPq l Z a0 hw [] b5 N (2 : Int32) (3 : Int32) k5 (own_4 (own_dr p2) (own_dr p3) (own_dr p4) (own_dr p5)) nn 2 3 hj19 n0 Zj19 V_b5_j19 hN hnn ⟨rfl, by decide⟩ ⟨rfl, by decide⟩ (by decide) (by decide)) hZ (tw hw 8 rfl) (tw hw 3 rfl) (by decide) (by decide)) (g := (mkF m 234 #[.val (.int p1), .val (.int p2), .val (.int p3), .val (.int p4), .val (.int p5), .val (.int N), .val (.int (own_dr p2)), .val (.int (own_dr p3)), .val (.int (own_dr p4)), .val (.int (own_dr p5)), .val (.ref b5), .val (.ref b), .unset] [(.int 3), (.int 2), (.int N), (.ref b5)])) rfl (by rw [hml]; rfl) (argsL := [(.ref b5), (.int N), (.int 2), (.int 3)]) (rest := []) (lenOf pd_25 rfl) rfl (by show 2 * 0 + _ ≤ _; exact Nat.le_of_eq rfl) (hb hby at_234) (fun _ _ => ⟨rfl, eh42, (by decide : 2 + 0 ≤ _), (by decide : 8 + 0 ≤ _)⟩)
       dsimp only [Pt.U, Pt.locs, Pt.cells, Pt.slots] at X43 lq43 yq43 zq43 st43 hQ43
       subst yq43 zq43
       obtain ⟨r_43, rfl, Nq43, eh43, r43_0⟩ := hQ43
       have N43 : Fr n0 L43 := by rw [lq43]; exact Fr.app N42 Nq43
       refine gs m T43 237 #[.val (.int p1), .val (.int p2), .val (.int p3), .val (.int p4), .val (.int p5), .val (.int N), .val (.int (own_dr p2)), .val (.int (own_dr p3)), .val (.int (own_dr p4)), .val (.int (own_dr p5)), .val (.ref b5), .val (.ref b), .unset] [(.int r_43)] st43 ?_
       by_cases hc237 : r_43 = (0 : Int32)
       ·refine g_ifYes X43 hx 244 (hb hby at_237) ((if0 _ _).trans (teq hc237).1) (by decide) (by decide) ?_
        refine g_iconst X43 hx 245 0 (hb hby at_244) rfl rfl ?_
        exact J20 (0 : Int32) (Or.inr ⟨rfl, own_ex0 h4 (own_pq0 r38_0 hc177) (own_pq0 r39_0 hc189) (own_pq0 r40_0 hc201) (own_pq0 r41_0 hc213) (own_pq0 r42_0 hc225) (own_pq0 r43_0 hc237)⟩) _ _ X43 eh43 N43
       ·refine g_ifNo X43 hx 240 (hb hby at_237) rfl ((if0 _ _).trans (feq hc237).1) ?_
        refine g_iconst X43 hx 241 1 (hb hby at_240) rfl rfl ?_
        refine g_goto X43 hx 245 (hb hby at_241) (by decide) (by decide) ?_
        exact J20 (1 : Int32) (Or.inl ⟨rfl, own_ex1 (by decide) (own_pq1 r43_0 hc237)⟩) _ _ X43 eh43 N43
      ·refine g_ifYes X42 hx 240 (hb hby at_225) ((if0 _ _).trans (feq hc225).2) (by decide) (by decide) ?_
       refine g_iconst X42 hx 241 1 (hb hby at_240) rfl rfl ?_
       refine g_goto X42 hx 245 (hb hby at_241) (by decide) (by decide) ?_
       exact J20 (1 : Int32) (Or.inl ⟨rfl, own_ex1 (by decide) (own_pq1 r42_0 hc225)⟩) _ _ X42 eh42 N42
     ·refine g_ifYes X41 hx 240 (hb hby at_213) ((if0 _ _).trans (feq hc213).2) (by decide) (by decide) ?_
      refine g_iconst X41 hx 241 1 (hb hby at_240) rfl rfl ?_
      refine g_goto X41 hx 245 (hb hby at_241) (by decide) (by decide) ?_
      exact J20 (1 : Int32) (Or.inl ⟨rfl, own_ex1 (by decide) (own_pq1 r41_0 hc213)⟩) _ _ X41 eh41 N41
    ·refine g_ifYes X40 hx 240 (hb hby at_201) ((if0 _ _).trans (feq hc201).2) (by decide) (by decide) ?_
     refine g_iconst X40 hx 241 1 (hb hby at_240) rfl rfl ?_
     refine g_goto X40 hx 245 (hb hby at_241) (by decide) (by decide) ?_
     exact J20 (1 : Int32) (Or.inl ⟨rfl, own_ex1 (by decide) (own_pq1 r40_0 hc201)⟩) _ _ X40 eh40 N40
   ·refine g_ifYes X39 hx 240 (hb hby at_189) ((if0 _ _).trans (feq hc189).2) (by decide) (by decide) ?_
    refine g_iconst X39 hx 241 1 (hb hby at_240) rfl rfl ?_
    refine g_goto X39 hx 245 (hb hby at_241) (by decide) (by decide) ?_
    exact J20 (1 : Int32) (Or.inl ⟨rfl, own_ex1 (by decide) (own_pq1 r39_0 hc189)⟩) _ _ X39 eh39 N39
  ·refine g_ifYes X38 hx 240 (hb hby at_177) ((if0 _ _).trans (feq hc177).2) (by decide) (by decide) ?_
   refine g_iconst X38 hx 241 1 (hb hby at_240) rfl rfl ?_
   refine g_goto X38 hx 245 (hb hby at_241) (by decide) (by decide) ?_
   exact J20 (1 : Int32) (Or.inl ⟨rfl, own_ex1 (by decide) (own_pq1 r38_0 hc177)⟩) _ _ X38 eh38 N38
 refine g_iload X17 hx 60 (hb hby at_58) rfl rfl ?_
 by_cases hc60 : N = (0 : Int32)
 ·refine g_ifNo X17 hx 63 (hb hby at_60) rfl ((if0 _ _).trans (teq hc60).2) ?_
  refine g_iconst X17 hx 64 0 (hb hby at_63) rfl rfl ?_
  obtain ⟨T44, h44, k44, X44, e44, E44, A44, st44⟩ := newP X17 hx hZ (tw hw 5 rfl) e17 (g := (mkF m 64 #[.val (.int p1), .val (.int p2), .val (.int p3), .val (.int p4), .val (.int p5), .val (.int N), .val (.int (own_dr p2)), .val (.int (own_dr p3)), .val (.int (own_dr p4)), .val (.int (own_dr p5)), .val (.ref b5), .unset, .unset] [(.int 0)])) rfl (hb hby at_64) rfl (by decide) (cap := 0) (by decide) (by decide) (by decide) (by decide)
  obtain ⟨b44, g44⟩ : ∃ z, z = h17.size := ⟨_, rfl⟩
  rw [← g44] at A44 st44
  have g_b44 : n0 ≤ b44 := Nat.le_trans Z18 (Nat.le_of_eq g44.symm)
  have Z45 : n0 ≤ h44.size := Nat.le_trans Z18 E44.1
  have hk := Nat.le_trans hk E44.1
  have O45 : Old Z n0 h44 := O18.ext E44
  have V_b44 : Arv Z h44 b44 k44 .char (0 : Int32) [] (.int 0) := (Arv.new A44 (by decide)).pad (pad_rep [] (.int 0) 0)
  refine gs m T44 66 #[.val (.int p1), .val (.int p2), .val (.int p3), .val (.int p4), .val (.int p5), .val (.int N), .val (.int (own_dr p2)), .val (.int (own_dr p3)), .val (.int (own_dr p4)), .val (.int (own_dr p5)), .val (.ref b5), .unset, .unset] [(.ref b44)] st44 ?_
  refine g_astore X44 hx 68 (hb hby at_66) rfl rfl (l' := #[.val (.int p1), .val (.int p2), .val (.int p3), .val (.int p4), .val (.int p5), .val (.int N), .val (.int (own_dr p2)), .val (.int (own_dr p3)), .val (.int (own_dr p4)), .val (.int (own_dr p5)), .val (.ref b5), .val (.ref b44), .unset]) rfl ?_
  refine g_goto X44 hx 168 (hb hby at_68) (by decide) (by decide) ?_
  have Vm : Arv Z h44 b44 k44 .char N (own_tb (own_4 (own_dr p2) (own_dr p3) (own_dr p4) (own_dr p5))) (.int 0) := by
   rw [hc60]
   exact own_lst V_b44 (by decide) (by intro j hj; have hj : j < 0 := hj; rcases j with _ | j <;> first | rfl | omega)
  have q46 : Arv Z h44 b5 k5 .char (4 : Int32) (own_tb (own_4 (own_dr p2) (own_dr p3) (own_dr p4) (own_dr p5))) (.int 0) := (Vall.ext E44)
  have q47 : Exa Z h44 ci "java/lang/CharacterDataLatin1" := ((((((E_ci.ext E5).wr W8).wr W11).wr W14).wr W17).ext E44)
  have q48 : Arv Z h44 tA kA .int (256 : Int32) own_tab (.int 0) := ((((((V_tA.ext E5).other W8 (Nat.ne_of_lt (Nat.lt_of_lt_of_le V_tA.lt (Nat.le_of_eq g5.symm)))).other W11 (Nat.ne_of_lt (Nat.lt_of_lt_of_le V_tA.lt (Nat.le_of_eq g5.symm)))).other W14 (Nat.ne_of_lt (Nat.lt_of_lt_of_le V_tA.lt (Nat.le_of_eq g5.symm)))).other W17 (Nat.ne_of_lt (Nat.lt_of_lt_of_le V_tA.lt (Nat.le_of_eq g5.symm)))).ext E44)
  exact J19 b44 k44 g_b44 h44 Z45 hk O45 Vm q46 q47 q48 _ _ (X44.mono (by decide) (by decide)) e44 N17
 ·refine g_ifYes X17 hx 71 (hb hby at_60) ((if0 _ _).trans (feq hc60).2) (by decide) (by decide) ?_
  refine g_iload X17 hx 73 (hb hby at_71) rfl rfl ?_
  refine g_iconst X17 hx 74 1 (hb hby at_73) rfl rfl ?_
  by_cases hc74 : N = (1 : Int32)
  ·refine g_icmpNo X17 hx 77 (hb hby at_74) rfl (teq hc74).2 ?_
   refine g_iconst X17 hx 78 1 (hb hby at_77) rfl rfl ?_
   obtain ⟨T49, h49, k49, X49, e49, E49, A49, st49⟩ := newP X17 hx hZ (tw hw 5 rfl) e17 (g := (mkF m 78 #[.val (.int p1), .val (.int p2), .val (.int p3), .val (.int p4), .val (.int p5), .val (.int N), .val (.int (own_dr p2)), .val (.int (own_dr p3)), .val (.int (own_dr p4)), .val (.int (own_dr p5)), .val (.ref b5), .unset, .unset] [(.int 1)])) rfl (hb hby at_78) rfl (by decide) (cap := 1) (by decide) (by decide) (by decide) (by decide)
   obtain ⟨b49, g49⟩ : ∃ z, z = h17.size := ⟨_, rfl⟩
   rw [← g49] at A49 st49
   have g_b49 : n0 ≤ b49 := Nat.le_trans Z18 (Nat.le_of_eq g49.symm)
   have Z50 : n0 ≤ h49.size := Nat.le_trans Z18 E49.1
   have hk := Nat.le_trans hk E49.1
   have O50 : Old Z n0 h49 := O18.ext E49
   have V_b49 : Arv Z h49 b49 k49 .char (1 : Int32) [(.int 0)] (.int 0) := (Arv.new A49 (by decide)).pad (pad_rep [] (.int 0) 1)
   refine gs m T49 80 #[.val (.int p1), .val (.int p2), .val (.int p3), .val (.int p4), .val (.int p5), .val (.int N), .val (.int (own_dr p2)), .val (.int (own_dr p3)), .val (.int (own_dr p4)), .val (.int (own_dr p5)), .val (.ref b5), .unset, .unset] [(.ref b49)] st49 ?_
   refine g_dup X49 hx 81 (hb hby at_80) rfl rfl ?_
   refine g_iconst X49 hx 82 0 (hb hby at_81) rfl rfl ?_
   refine g_iload X49 hx 84 (hb hby at_82) rfl rfl ?_
   obtain ⟨cl51, Ar51, qc51, Sz51, Nn51, Hs51, Gf51⟩ := id V_b49
   have hin52 : ¬ ((0 : Int32) < 0 ∨ cl51.slots.size ≤ ((0 : Int32)).toNatClampNeg) := (inb_of Sz51 ⟨by decide, by decide⟩)
   obtain ⟨T52, h52, X52, e52, W52, st52⟩ := stC X49 hx hZ e49 Ar51 (j := (0 : Int32)) hin52 (g := (mkF m 84 #[.val (.int p1), .val (.int p2), .val (.int p3), .val (.int p4), .val (.int p5), .val (.int N), .val (.int (own_dr p2)), .val (.int (own_dr p3)), .val (.int (own_dr p4)), .val (.int (own_dr p5)), .val (.ref b5), .unset, .unset] [(.int (own_dr p2)), (.int 0), (.ref b49), (.ref b49)])) rfl rfl (hb hby at_84)
   have N52 := Fr.snoc X52 N17 g_b49
   have Z53 : n0 ≤ h52.size := Nat.le_trans Z50 (Keep.of_wr W52).1
   have hk := Nat.le_trans hk (Keep.of_wr W52).1
   have O53 : Old Z n0 h52 := O50.wr W52 g_b49
   rw [own_drn] at W52
   have Va52 : Arv Z h52 b49 k49 .char (1 : Int32) [(.int (own_dr p2))] (.int 0) := Arv.set Ar51 qc51 Sz51 Nn51 Hs51 Gf51 (own_drf _) W52 0 rfl (Nat.le_of_ble_eq_true rfl)
   refine gs m T52 85 #[.val (.int p1), .val (.int p2), .val (.int p3), .val (.int p4), .val (.int p5), .val (.int N), .val (.int (own_dr p2)), .val (.int (own_dr p3)), .val (.int (own_dr p4)), .val (.int (own_dr p5)), .val (.ref b5), .unset, .unset] [(.ref b49)] st52 ?_
   refine g_astore X52 hx 87 (hb hby at_85) rfl rfl (l' := #[.val (.int p1), .val (.int p2), .val (.int p3), .val (.int p4), .val (.int p5), .val (.int N), .val (.int (own_dr p2)), .val (.int (own_dr p3)), .val (.int (own_dr p4)), .val (.int (own_dr p5)), .val (.ref b5), .val (.ref b49), .unset]) rfl ?_
   refine g_goto X52 hx 168 (hb hby at_87) (by decide) (by decide) ?_
   have Vm : Arv Z h52 b49 k49 .char N (own_tb (own_4 (own_dr p2) (own_dr p3) (own_dr p4) (own_dr p5))) (.int 0) := by
    rw [hc74]
    exact own_lst Va52 (by decide) (by intro j hj; have hj : j < 1 := hj; rcases j with _ | j <;> first | rfl | omega)
   have q54 : Arv Z h52 b5 k5 .char (4 : Int32) (own_tb (own_4 (own_dr p2) (own_dr p3) (own_dr p4) (own_dr p5))) (.int 0) := ((Vall.ext E49).other W52 (Nat.ne_of_lt (Nat.lt_of_lt_of_le Vall.lt (Nat.le_of_eq g49.symm))))
   have q55 : Exa Z h52 ci "java/lang/CharacterDataLatin1" := (((((((E_ci.ext E5).wr W8).wr W11).wr W14).wr W17).ext E49).wr W52)
   have q56 : Arv Z h52 tA kA .int (256 : Int32) own_tab (.int 0) := (((((((V_tA.ext E5).other W8 (Nat.ne_of_lt (Nat.lt_of_lt_of_le V_tA.lt (Nat.le_of_eq g5.symm)))).other W11 (Nat.ne_of_lt (Nat.lt_of_lt_of_le V_tA.lt (Nat.le_of_eq g5.symm)))).other W14 (Nat.ne_of_lt (Nat.lt_of_lt_of_le V_tA.lt (Nat.le_of_eq g5.symm)))).other W17 (Nat.ne_of_lt (Nat.lt_of_lt_of_le V_tA.lt (Nat.le_of_eq g5.symm)))).ext E49).other W52 (Nat.ne_of_lt (Nat.lt_of_lt_of_le (((((V_tA.ext E5).other W8 (Nat.ne_of_lt (Nat.lt_of_lt_of_le V_tA.lt (Nat.le_of_eq g5.symm)))).other W11 (Nat.ne_of_lt (Nat.lt_of_lt_of_le V_tA.lt (Nat.le_of_eq g5.symm)))).other W14 (Nat.ne_of_lt (Nat.lt_of_lt_of_le V_tA.lt (Nat.le_of_eq g5.symm)))).other W17 (Nat.ne_of_lt (Nat.lt_of_lt_of_le V_tA.lt (Nat.le_of_eq g5.symm)))).lt (Nat.le_of_eq g49.symm))))
   exact J19 b49 k49 g_b49 h52 Z53 hk O53 Vm q54 q55 q56 _ _ (X52.mono (by decide) (by decide)) e52 N52
  ·refine g_icmpYes X17 hx 90 (hb hby at_74) (feq hc74).2 (by decide) (by decide) ?_
   refine g_iload X17 hx 92 (hb hby at_90) rfl rfl ?_
   refine g_iconst X17 hx 93 2 (hb hby at_92) rfl rfl ?_
   by_cases hc93 : N = (2 : Int32)
   ·refine g_icmpNo X17 hx 96 (hb hby at_93) rfl (teq hc93).2 ?_
    refine g_iconst X17 hx 97 2 (hb hby at_96) rfl rfl ?_
    obtain ⟨T57, h57, k57, X57, e57, E57, A57, st57⟩ := newP X17 hx hZ (tw hw 5 rfl) e17 (g := (mkF m 97 #[.val (.int p1), .val (.int p2), .val (.int p3), .val (.int p4), .val (.int p5), .val (.int N), .val (.int (own_dr p2)), .val (.int (own_dr p3)), .val (.int (own_dr p4)), .val (.int (own_dr p5)), .val (.ref b5), .unset, .unset] [(.int 2)])) rfl (hb hby at_97) rfl (by decide) (cap := 2) (by decide) (by decide) (by decide) (by decide)
    obtain ⟨b57, g57⟩ : ∃ z, z = h17.size := ⟨_, rfl⟩
    rw [← g57] at A57 st57
    have g_b57 : n0 ≤ b57 := Nat.le_trans Z18 (Nat.le_of_eq g57.symm)
    have Z58 : n0 ≤ h57.size := Nat.le_trans Z18 E57.1
    have hk := Nat.le_trans hk E57.1
    have O58 : Old Z n0 h57 := O18.ext E57
    have V_b57 : Arv Z h57 b57 k57 .char (2 : Int32) [(.int 0), (.int 0)] (.int 0) := (Arv.new A57 (by decide)).pad (pad_rep [] (.int 0) 2)
    refine gs m T57 99 #[.val (.int p1), .val (.int p2), .val (.int p3), .val (.int p4), .val (.int p5), .val (.int N), .val (.int (own_dr p2)), .val (.int (own_dr p3)), .val (.int (own_dr p4)), .val (.int (own_dr p5)), .val (.ref b5), .unset, .unset] [(.ref b57)] st57 ?_
    refine g_dup X57 hx 100 (hb hby at_99) rfl rfl ?_
    refine g_iconst X57 hx 101 0 (hb hby at_100) rfl rfl ?_
    refine g_iload X57 hx 103 (hb hby at_101) rfl rfl ?_
    obtain ⟨cl59, Ar59, qc59, Sz59, Nn59, Hs59, Gf59⟩ := id V_b57
    have hin60 : ¬ ((0 : Int32) < 0 ∨ cl59.slots.size ≤ ((0 : Int32)).toNatClampNeg) := (inb_of Sz59 ⟨by decide, by decide⟩)
    obtain ⟨T60, h60, X60, e60, W60, st60⟩ := stC X57 hx hZ e57 Ar59 (j := (0 : Int32)) hin60 (g := (mkF m 103 #[.val (.int p1), .val (.int p2), .val (.int p3), .val (.int p4), .val (.int p5), .val (.int N), .val (.int (own_dr p2)), .val (.int (own_dr p3)), .val (.int (own_dr p4)), .val (.int (own_dr p5)), .val (.ref b5), .unset, .unset] [(.int (own_dr p2)), (.int 0), (.ref b57), (.ref b57)])) rfl rfl (hb hby at_103)
    have N60 := Fr.snoc X60 N17 g_b57
    have Z61 : n0 ≤ h60.size := Nat.le_trans Z58 (Keep.of_wr W60).1
    have hk := Nat.le_trans hk (Keep.of_wr W60).1
    have O61 : Old Z n0 h60 := O58.wr W60 g_b57
    rw [own_drn] at W60
    have Va60 : Arv Z h60 b57 k57 .char (2 : Int32) [(.int (own_dr p2)), (.int 0)] (.int 0) := Arv.set Ar59 qc59 Sz59 Nn59 Hs59 Gf59 (own_drf _) W60 0 rfl (Nat.le_of_ble_eq_true rfl)
    refine gs m T60 104 #[.val (.int p1), .val (.int p2), .val (.int p3), .val (.int p4), .val (.int p5), .val (.int N), .val (.int (own_dr p2)), .val (.int (own_dr p3)), .val (.int (own_dr p4)), .val (.int (own_dr p5)), .val (.ref b5), .unset, .unset] [(.ref b57)] st60 ?_
    refine g_dup X60 hx 105 (hb hby at_104) rfl rfl ?_
    refine g_iconst X60 hx 106 1 (hb hby at_105) rfl rfl ?_
    refine g_iload X60 hx 108 (hb hby at_106) rfl rfl ?_
    obtain ⟨cl62, Ar62, qc62, Sz62, Nn62, Hs62, Gf62⟩ := id Va60
    have hin63 : ¬ ((1 : Int32) < 0 ∨ cl62.slots.size ≤ ((1 : Int32)).toNatClampNeg) := (inb_of Sz62 ⟨by decide, by decide⟩)
    obtain ⟨T63, h63, X63, e63, W63, st63⟩ := stC X60 hx hZ e60 Ar62 (j := (1 : Int32)) hin63 (g := (mkF m 108 #[.val (.int p1), .val (.int p2), .val (.int p3), .val (.int p4), .val (.int p5), .val (.int N), .val (.int (own_dr p2)), .val (.int (own_dr p3)), .val (.int (own_dr p4)), .val (.int (own_dr p5)), .val (.ref b5), .unset, .unset] [(.int (own_dr p3)), (.int 1), (.ref b57), (.ref b57)])) rfl rfl (hb hby at_108)
    have N63 := Fr.snoc X63 N60 g_b57
    have Z64 : n0 ≤ h63.size := Nat.le_trans Z61 (Keep.of_wr W63).1
    have hk := Nat.le_trans hk (Keep.of_wr W63).1
    have O64 : Old Z n0 h63 := O61.wr W63 g_b57
    rw [own_drn] at W63
    have Va63 : Arv Z h63 b57 k57 .char (2 : Int32) [(.int (own_dr p2)), (.int (own_dr p3))] (.int 0) := Arv.set Ar62 qc62 Sz62 Nn62 Hs62 Gf62 (own_drf _) W63 1 rfl (Nat.le_of_ble_eq_true rfl)
    refine gs m T63 109 #[.val (.int p1), .val (.int p2), .val (.int p3), .val (.int p4), .val (.int p5), .val (.int N), .val (.int (own_dr p2)), .val (.int (own_dr p3)), .val (.int (own_dr p4)), .val (.int (own_dr p5)), .val (.ref b5), .unset, .unset] [(.ref b57)] st63 ?_
    refine g_astore X63 hx 111 (hb hby at_109) rfl rfl (l' := #[.val (.int p1), .val (.int p2), .val (.int p3), .val (.int p4), .val (.int p5), .val (.int N), .val (.int (own_dr p2)), .val (.int (own_dr p3)), .val (.int (own_dr p4)), .val (.int (own_dr p5)), .val (.ref b5), .val (.ref b57), .unset]) rfl ?_
    refine g_goto X63 hx 168 (hb hby at_111) (by decide) (by decide) ?_
    have Vm : Arv Z h63 b57 k57 .char N (own_tb (own_4 (own_dr p2) (own_dr p3) (own_dr p4) (own_dr p5))) (.int 0) := by
     rw [hc93]
     exact own_lst Va63 (by decide) (by intro j hj; have hj : j < 2 := hj; rcases j with _ | _ | j <;> first | rfl | omega)
    have q65 : Arv Z h63 b5 k5 .char (4 : Int32) (own_tb (own_4 (own_dr p2) (own_dr p3) (own_dr p4) (own_dr p5))) (.int 0) := (((Vall.ext E57).other W60 (Nat.ne_of_lt (Nat.lt_of_lt_of_le Vall.lt (Nat.le_of_eq g57.symm)))).other W63 (Nat.ne_of_lt (Nat.lt_of_lt_of_le Vall.lt (Nat.le_of_eq g57.symm))))
    have q66 : Exa Z h63 ci "java/lang/CharacterDataLatin1" := ((((((((E_ci.ext E5).wr W8).wr W11).wr W14).wr W17).ext E57).wr W60).wr W63)
    have q67 : Arv Z h63 tA kA .int (256 : Int32) own_tab (.int 0) := ((((((((V_tA.ext E5).other W8 (Nat.ne_of_lt (Nat.lt_of_lt_of_le V_tA.lt (Nat.le_of_eq g5.symm)))).other W11 (Nat.ne_of_lt (Nat.lt_of_lt_of_le V_tA.lt (Nat.le_of_eq g5.symm)))).other W14 (Nat.ne_of_lt (Nat.lt_of_lt_of_le V_tA.lt (Nat.le_of_eq g5.symm)))).other W17 (Nat.ne_of_lt (Nat.lt_of_lt_of_le V_tA.lt (Nat.le_of_eq g5.symm)))).ext E57).other W60 (Nat.ne_of_lt (Nat.lt_of_lt_of_le (((((V_tA.ext E5).other W8 (Nat.ne_of_lt (Nat.lt_of_lt_of_le V_tA.lt (Nat.le_of_eq g5.symm)))).other W11 (Nat.ne_of_lt (Nat.lt_of_lt_of_le V_tA.lt (Nat.le_of_eq g5.symm)))).other W14 (Nat.ne_of_lt (Nat.lt_of_lt_of_le V_tA.lt (Nat.le_of_eq g5.symm)))).other W17 (Nat.ne_of_lt (Nat.lt_of_lt_of_le V_tA.lt (Nat.le_of_eq g5.symm)))).lt (Nat.le_of_eq g57.symm)))).other W63 (Nat.ne_of_lt (Nat.lt_of_lt_of_le (((((V_tA.ext E5).other W8 (Nat.ne_of_lt (Nat.lt_of_lt_of_le V_tA.lt (Nat.le_of_eq g5.symm)))).other W11 (Nat.ne_of_lt (Nat.lt_of_lt_of_le V_tA.lt (Nat.le_of_eq g5.symm)))).other W14 (Nat.ne_of_lt (Nat.lt_of_lt_of_le V_tA.lt (Nat.le_of_eq g5.symm)))).other W17 (Nat.ne_of_lt (Nat.lt_of_lt_of_le V_tA.lt (Nat.le_of_eq g5.symm)))).lt (Nat.le_of_eq g57.symm))))
    exact J19 b57 k57 g_b57 h63 Z64 hk O64 Vm q65 q66 q67 _ _ (X63.mono (by decide) (by decide)) e63 N63
   ·refine g_icmpYes X17 hx 114 (hb hby at_93) (feq hc93).2 (by decide) (by decide) ?_
    refine g_iload X17 hx 116 (hb hby at_114) rfl rfl ?_
    refine g_iconst X17 hx 117 3 (hb hby at_116) rfl rfl ?_
    by_cases hc117 : N = (3 : Int32)
    ·refine g_icmpNo X17 hx 120 (hb hby at_117) rfl (teq hc117).2 ?_
     refine g_iconst X17 hx 121 3 (hb hby at_120) rfl rfl ?_
     obtain ⟨T68, h68, k68, X68, e68, E68, A68, st68⟩ := newP X17 hx hZ (tw hw 5 rfl) e17 (g := (mkF m 121 #[.val (.int p1), .val (.int p2), .val (.int p3), .val (.int p4), .val (.int p5), .val (.int N), .val (.int (own_dr p2)), .val (.int (own_dr p3)), .val (.int (own_dr p4)), .val (.int (own_dr p5)), .val (.ref b5), .unset, .unset] [(.int 3)])) rfl (hb hby at_121) rfl (by decide) (cap := 3) (by decide) (by decide) (by decide) (by decide)
     obtain ⟨b68, g68⟩ : ∃ z, z = h17.size := ⟨_, rfl⟩
     rw [← g68] at A68 st68
     have g_b68 : n0 ≤ b68 := Nat.le_trans Z18 (Nat.le_of_eq g68.symm)
     have Z69 : n0 ≤ h68.size := Nat.le_trans Z18 E68.1
     have hk := Nat.le_trans hk E68.1
     have O69 : Old Z n0 h68 := O18.ext E68
     have V_b68 : Arv Z h68 b68 k68 .char (3 : Int32) [(.int 0), (.int 0), (.int 0)] (.int 0) := (Arv.new A68 (by decide)).pad (pad_rep [] (.int 0) 3)
     refine gs m T68 123 #[.val (.int p1), .val (.int p2), .val (.int p3), .val (.int p4), .val (.int p5), .val (.int N), .val (.int (own_dr p2)), .val (.int (own_dr p3)), .val (.int (own_dr p4)), .val (.int (own_dr p5)), .val (.ref b5), .unset, .unset] [(.ref b68)] st68 ?_
     refine g_dup X68 hx 124 (hb hby at_123) rfl rfl ?_
     refine g_iconst X68 hx 125 0 (hb hby at_124) rfl rfl ?_
     refine g_iload X68 hx 127 (hb hby at_125) rfl rfl ?_
     obtain ⟨cl70, Ar70, qc70, Sz70, Nn70, Hs70, Gf70⟩ := id V_b68
     have hin71 : ¬ ((0 : Int32) < 0 ∨ cl70.slots.size ≤ ((0 : Int32)).toNatClampNeg) := (inb_of Sz70 ⟨by decide, by decide⟩)
     obtain ⟨T71, h71, X71, e71, W71, st71⟩ := stC X68 hx hZ e68 Ar70 (j := (0 : Int32)) hin71 (g := (mkF m 127 #[.val (.int p1), .val (.int p2), .val (.int p3), .val (.int p4), .val (.int p5), .val (.int N), .val (.int (own_dr p2)), .val (.int (own_dr p3)), .val (.int (own_dr p4)), .val (.int (own_dr p5)), .val (.ref b5), .unset, .unset] [(.int (own_dr p2)), (.int 0), (.ref b68), (.ref b68)])) rfl rfl (hb hby at_127)
     have N71 := Fr.snoc X71 N17 g_b68
     have Z72 : n0 ≤ h71.size := Nat.le_trans Z69 (Keep.of_wr W71).1
     have hk := Nat.le_trans hk (Keep.of_wr W71).1
     have O72 : Old Z n0 h71 := O69.wr W71 g_b68
     rw [own_drn] at W71
     have Va71 : Arv Z h71 b68 k68 .char (3 : Int32) [(.int (own_dr p2)), (.int 0), (.int 0)] (.int 0) := Arv.set Ar70 qc70 Sz70 Nn70 Hs70 Gf70 (own_drf _) W71 0 rfl (Nat.le_of_ble_eq_true rfl)
     refine gs m T71 128 #[.val (.int p1), .val (.int p2), .val (.int p3), .val (.int p4), .val (.int p5), .val (.int N), .val (.int (own_dr p2)), .val (.int (own_dr p3)), .val (.int (own_dr p4)), .val (.int (own_dr p5)), .val (.ref b5), .unset, .unset] [(.ref b68)] st71 ?_
     refine g_dup X71 hx 129 (hb hby at_128) rfl rfl ?_
     refine g_iconst X71 hx 130 1 (hb hby at_129) rfl rfl ?_
     refine g_iload X71 hx 132 (hb hby at_130) rfl rfl ?_
     obtain ⟨cl73, Ar73, qc73, Sz73, Nn73, Hs73, Gf73⟩ := id Va71
     have hin74 : ¬ ((1 : Int32) < 0 ∨ cl73.slots.size ≤ ((1 : Int32)).toNatClampNeg) := (inb_of Sz73 ⟨by decide, by decide⟩)
     obtain ⟨T74, h74, X74, e74, W74, st74⟩ := stC X71 hx hZ e71 Ar73 (j := (1 : Int32)) hin74 (g := (mkF m 132 #[.val (.int p1), .val (.int p2), .val (.int p3), .val (.int p4), .val (.int p5), .val (.int N), .val (.int (own_dr p2)), .val (.int (own_dr p3)), .val (.int (own_dr p4)), .val (.int (own_dr p5)), .val (.ref b5), .unset, .unset] [(.int (own_dr p3)), (.int 1), (.ref b68), (.ref b68)])) rfl rfl (hb hby at_132)
     have N74 := Fr.snoc X74 N71 g_b68
     have Z75 : n0 ≤ h74.size := Nat.le_trans Z72 (Keep.of_wr W74).1
     have hk := Nat.le_trans hk (Keep.of_wr W74).1
     have O75 : Old Z n0 h74 := O72.wr W74 g_b68
     rw [own_drn] at W74
     have Va74 : Arv Z h74 b68 k68 .char (3 : Int32) [(.int (own_dr p2)), (.int (own_dr p3)), (.int 0)] (.int 0) := Arv.set Ar73 qc73 Sz73 Nn73 Hs73 Gf73 (own_drf _) W74 1 rfl (Nat.le_of_ble_eq_true rfl)
     refine gs m T74 133 #[.val (.int p1), .val (.int p2), .val (.int p3), .val (.int p4), .val (.int p5), .val (.int N), .val (.int (own_dr p2)), .val (.int (own_dr p3)), .val (.int (own_dr p4)), .val (.int (own_dr p5)), .val (.ref b5), .unset, .unset] [(.ref b68)] st74 ?_
     refine g_dup X74 hx 134 (hb hby at_133) rfl rfl ?_
     refine g_iconst X74 hx 135 2 (hb hby at_134) rfl rfl ?_
     refine g_iload X74 hx 137 (hb hby at_135) rfl rfl ?_
     obtain ⟨cl76, Ar76, qc76, Sz76, Nn76, Hs76, Gf76⟩ := id Va74
     have hin77 : ¬ ((2 : Int32) < 0 ∨ cl76.slots.size ≤ ((2 : Int32)).toNatClampNeg) := (inb_of Sz76 ⟨by decide, by decide⟩)
     obtain ⟨T77, h77, X77, e77, W77, st77⟩ := stC X74 hx hZ e74 Ar76 (j := (2 : Int32)) hin77 (g := (mkF m 137 #[.val (.int p1), .val (.int p2), .val (.int p3), .val (.int p4), .val (.int p5), .val (.int N), .val (.int (own_dr p2)), .val (.int (own_dr p3)), .val (.int (own_dr p4)), .val (.int (own_dr p5)), .val (.ref b5), .unset, .unset] [(.int (own_dr p4)), (.int 2), (.ref b68), (.ref b68)])) rfl rfl (hb hby at_137)
     have N77 := Fr.snoc X77 N74 g_b68
     have Z78 : n0 ≤ h77.size := Nat.le_trans Z75 (Keep.of_wr W77).1
     have hk := Nat.le_trans hk (Keep.of_wr W77).1
     have O78 : Old Z n0 h77 := O75.wr W77 g_b68
     rw [own_drn] at W77
     have Va77 : Arv Z h77 b68 k68 .char (3 : Int32) [(.int (own_dr p2)), (.int (own_dr p3)), (.int (own_dr p4))] (.int 0) := Arv.set Ar76 qc76 Sz76 Nn76 Hs76 Gf76 (own_drf _) W77 2 rfl (Nat.le_of_ble_eq_true rfl)
     refine gs m T77 138 #[.val (.int p1), .val (.int p2), .val (.int p3), .val (.int p4), .val (.int p5), .val (.int N), .val (.int (own_dr p2)), .val (.int (own_dr p3)), .val (.int (own_dr p4)), .val (.int (own_dr p5)), .val (.ref b5), .unset, .unset] [(.ref b68)] st77 ?_
     refine g_astore X77 hx 140 (hb hby at_138) rfl rfl (l' := #[.val (.int p1), .val (.int p2), .val (.int p3), .val (.int p4), .val (.int p5), .val (.int N), .val (.int (own_dr p2)), .val (.int (own_dr p3)), .val (.int (own_dr p4)), .val (.int (own_dr p5)), .val (.ref b5), .val (.ref b68), .unset]) rfl ?_
     refine g_goto X77 hx 168 (hb hby at_140) (by decide) (by decide) ?_
     have Vm : Arv Z h77 b68 k68 .char N (own_tb (own_4 (own_dr p2) (own_dr p3) (own_dr p4) (own_dr p5))) (.int 0) := by
      rw [hc117]
      exact own_lst Va77 (by decide) (by intro j hj; have hj : j < 3 := hj; rcases j with _ | _ | _ | j <;> first | rfl | omega)
     have q79 : Arv Z h77 b5 k5 .char (4 : Int32) (own_tb (own_4 (own_dr p2) (own_dr p3) (own_dr p4) (own_dr p5))) (.int 0) := ((((Vall.ext E68).other W71 (Nat.ne_of_lt (Nat.lt_of_lt_of_le Vall.lt (Nat.le_of_eq g68.symm)))).other W74 (Nat.ne_of_lt (Nat.lt_of_lt_of_le Vall.lt (Nat.le_of_eq g68.symm)))).other W77 (Nat.ne_of_lt (Nat.lt_of_lt_of_le Vall.lt (Nat.le_of_eq g68.symm))))
     have q80 : Exa Z h77 ci "java/lang/CharacterDataLatin1" := (((((((((E_ci.ext E5).wr W8).wr W11).wr W14).wr W17).ext E68).wr W71).wr W74).wr W77)
     have q81 : Arv Z h77 tA kA .int (256 : Int32) own_tab (.int 0) := (((((((((V_tA.ext E5).other W8 (Nat.ne_of_lt (Nat.lt_of_lt_of_le V_tA.lt (Nat.le_of_eq g5.symm)))).other W11 (Nat.ne_of_lt (Nat.lt_of_lt_of_le V_tA.lt (Nat.le_of_eq g5.symm)))).other W14 (Nat.ne_of_lt (Nat.lt_of_lt_of_le V_tA.lt (Nat.le_of_eq g5.symm)))).other W17 (Nat.ne_of_lt (Nat.lt_of_lt_of_le V_tA.lt (Nat.le_of_eq g5.symm)))).ext E68).other W71 (Nat.ne_of_lt (Nat.lt_of_lt_of_le (((((V_tA.ext E5).other W8 (Nat.ne_of_lt (Nat.lt_of_lt_of_le V_tA.lt (Nat.le_of_eq g5.symm)))).other W11 (Nat.ne_of_lt (Nat.lt_of_lt_of_le V_tA.lt (Nat.le_of_eq g5.symm)))).other W14 (Nat.ne_of_lt (Nat.lt_of_lt_of_le V_tA.lt (Nat.le_of_eq g5.symm)))).other W17 (Nat.ne_of_lt (Nat.lt_of_lt_of_le V_tA.lt (Nat.le_of_eq g5.symm)))).lt (Nat.le_of_eq g68.symm)))).other W74 (Nat.ne_of_lt (Nat.lt_of_lt_of_le (((((V_tA.ext E5).other W8 (Nat.ne_of_lt (Nat.lt_of_lt_of_le V_tA.lt (Nat.le_of_eq g5.symm)))).other W11 (Nat.ne_of_lt (Nat.lt_of_lt_of_le V_tA.lt (Nat.le_of_eq g5.symm)))).other W14 (Nat.ne_of_lt (Nat.lt_of_lt_of_le V_tA.lt (Nat.le_of_eq g5.symm)))).other W17 (Nat.ne_of_lt (Nat.lt_of_lt_of_le V_tA.lt (Nat.le_of_eq g5.symm)))).lt (Nat.le_of_eq g68.symm)))).other W77 (Nat.ne_of_lt (Nat.lt_of_lt_of_le (((((V_tA.ext E5).other W8 (Nat.ne_of_lt (Nat.lt_of_lt_of_le V_tA.lt (Nat.le_of_eq g5.symm)))).other W11 (Nat.ne_of_lt (Nat.lt_of_lt_of_le V_tA.lt (Nat.le_of_eq g5.symm)))).other W14 (Nat.ne_of_lt (Nat.lt_of_lt_of_le V_tA.lt (Nat.le_of_eq g5.symm)))).other W17 (Nat.ne_of_lt (Nat.lt_of_lt_of_le V_tA.lt (Nat.le_of_eq g5.symm)))).lt (Nat.le_of_eq g68.symm))))
     exact J19 b68 k68 g_b68 h77 Z78 hk O78 Vm q79 q80 q81 _ _ (X77.mono (by decide) (by decide)) e77 N77
    ·refine g_icmpYes X17 hx 143 (hb hby at_117) (feq hc117).2 (by decide) (by decide) ?_
     refine g_iconst X17 hx 144 4 (hb hby at_143) rfl rfl ?_
     obtain ⟨T82, h82, k82, X82, e82, E82, A82, st82⟩ := newP X17 hx hZ (tw hw 5 rfl) e17 (g := (mkF m 144 #[.val (.int p1), .val (.int p2), .val (.int p3), .val (.int p4), .val (.int p5), .val (.int N), .val (.int (own_dr p2)), .val (.int (own_dr p3)), .val (.int (own_dr p4)), .val (.int (own_dr p5)), .val (.ref b5), .unset, .unset] [(.int 4)])) rfl (hb hby at_144) rfl (by decide) (cap := 4) (by decide) (by decide) (by decide) (by decide)
     obtain ⟨b82, g82⟩ : ∃ z, z = h17.size := ⟨_, rfl⟩
     rw [← g82] at A82 st82
     have g_b82 : n0 ≤ b82 := Nat.le_trans Z18 (Nat.le_of_eq g82.symm)
     have Z83 : n0 ≤ h82.size := Nat.le_trans Z18 E82.1
     have hk := Nat.le_trans hk E82.1
     have O83 : Old Z n0 h82 := O18.ext E82
     have V_b82 : Arv Z h82 b82 k82 .char (4 : Int32) [(.int 0), (.int 0), (.int 0), (.int 0)] (.int 0) := (Arv.new A82 (by decide)).pad (pad_rep [] (.int 0) 4)
     refine gs m T82 146 #[.val (.int p1), .val (.int p2), .val (.int p3), .val (.int p4), .val (.int p5), .val (.int N), .val (.int (own_dr p2)), .val (.int (own_dr p3)), .val (.int (own_dr p4)), .val (.int (own_dr p5)), .val (.ref b5), .unset, .unset] [(.ref b82)] st82 ?_
     refine g_dup X82 hx 147 (hb hby at_146) rfl rfl ?_
     refine g_iconst X82 hx 148 0 (hb hby at_147) rfl rfl ?_
     refine g_iload X82 hx 150 (hb hby at_148) rfl rfl ?_
     obtain ⟨cl84, Ar84, qc84, Sz84, Nn84, Hs84, Gf84⟩ := id V_b82
     have hin85 : ¬ ((0 : Int32) < 0 ∨ cl84.slots.size ≤ ((0 : Int32)).toNatClampNeg) := (inb_of Sz84 ⟨by decide, by decide⟩)
     obtain ⟨T85, h85, X85, e85, W85, st85⟩ := stC X82 hx hZ e82 Ar84 (j := (0 : Int32)) hin85 (g := (mkF m 150 #[.val (.int p1), .val (.int p2), .val (.int p3), .val (.int p4), .val (.int p5), .val (.int N), .val (.int (own_dr p2)), .val (.int (own_dr p3)), .val (.int (own_dr p4)), .val (.int (own_dr p5)), .val (.ref b5), .unset, .unset] [(.int (own_dr p2)), (.int 0), (.ref b82), (.ref b82)])) rfl rfl (hb hby at_150)
     have N85 := Fr.snoc X85 N17 g_b82
     have Z86 : n0 ≤ h85.size := Nat.le_trans Z83 (Keep.of_wr W85).1
     have hk := Nat.le_trans hk (Keep.of_wr W85).1
     have O86 : Old Z n0 h85 := O83.wr W85 g_b82
     rw [own_drn] at W85
     have Va85 : Arv Z h85 b82 k82 .char (4 : Int32) [(.int (own_dr p2)), (.int 0), (.int 0), (.int 0)] (.int 0) := Arv.set Ar84 qc84 Sz84 Nn84 Hs84 Gf84 (own_drf _) W85 0 rfl (Nat.le_of_ble_eq_true rfl)
     refine gs m T85 151 #[.val (.int p1), .val (.int p2), .val (.int p3), .val (.int p4), .val (.int p5), .val (.int N), .val (.int (own_dr p2)), .val (.int (own_dr p3)), .val (.int (own_dr p4)), .val (.int (own_dr p5)), .val (.ref b5), .unset, .unset] [(.ref b82)] st85 ?_
     refine g_dup X85 hx 152 (hb hby at_151) rfl rfl ?_
     refine g_iconst X85 hx 153 1 (hb hby at_152) rfl rfl ?_
     refine g_iload X85 hx 155 (hb hby at_153) rfl rfl ?_
     obtain ⟨cl87, Ar87, qc87, Sz87, Nn87, Hs87, Gf87⟩ := id Va85
     have hin88 : ¬ ((1 : Int32) < 0 ∨ cl87.slots.size ≤ ((1 : Int32)).toNatClampNeg) := (inb_of Sz87 ⟨by decide, by decide⟩)
     obtain ⟨T88, h88, X88, e88, W88, st88⟩ := stC X85 hx hZ e85 Ar87 (j := (1 : Int32)) hin88 (g := (mkF m 155 #[.val (.int p1), .val (.int p2), .val (.int p3), .val (.int p4), .val (.int p5), .val (.int N), .val (.int (own_dr p2)), .val (.int (own_dr p3)), .val (.int (own_dr p4)), .val (.int (own_dr p5)), .val (.ref b5), .unset, .unset] [(.int (own_dr p3)), (.int 1), (.ref b82), (.ref b82)])) rfl rfl (hb hby at_155)
     have N88 := Fr.snoc X88 N85 g_b82
     have Z89 : n0 ≤ h88.size := Nat.le_trans Z86 (Keep.of_wr W88).1
     have hk := Nat.le_trans hk (Keep.of_wr W88).1
     have O89 : Old Z n0 h88 := O86.wr W88 g_b82
     rw [own_drn] at W88
     have Va88 : Arv Z h88 b82 k82 .char (4 : Int32) [(.int (own_dr p2)), (.int (own_dr p3)), (.int 0), (.int 0)] (.int 0) := Arv.set Ar87 qc87 Sz87 Nn87 Hs87 Gf87 (own_drf _) W88 1 rfl (Nat.le_of_ble_eq_true rfl)
     refine gs m T88 156 #[.val (.int p1), .val (.int p2), .val (.int p3), .val (.int p4), .val (.int p5), .val (.int N), .val (.int (own_dr p2)), .val (.int (own_dr p3)), .val (.int (own_dr p4)), .val (.int (own_dr p5)), .val (.ref b5), .unset, .unset] [(.ref b82)] st88 ?_
     refine g_dup X88 hx 157 (hb hby at_156) rfl rfl ?_
     refine g_iconst X88 hx 158 2 (hb hby at_157) rfl rfl ?_
     refine g_iload X88 hx 160 (hb hby at_158) rfl rfl ?_
     obtain ⟨cl90, Ar90, qc90, Sz90, Nn90, Hs90, Gf90⟩ := id Va88
     have hin91 : ¬ ((2 : Int32) < 0 ∨ cl90.slots.size ≤ ((2 : Int32)).toNatClampNeg) := (inb_of Sz90 ⟨by decide, by decide⟩)
     obtain ⟨T91, h91, X91, e91, W91, st91⟩ := stC X88 hx hZ e88 Ar90 (j := (2 : Int32)) hin91 (g := (mkF m 160 #[.val (.int p1), .val (.int p2), .val (.int p3), .val (.int p4), .val (.int p5), .val (.int N), .val (.int (own_dr p2)), .val (.int (own_dr p3)), .val (.int (own_dr p4)), .val (.int (own_dr p5)), .val (.ref b5), .unset, .unset] [(.int (own_dr p4)), (.int 2), (.ref b82), (.ref b82)])) rfl rfl (hb hby at_160)
     have N91 := Fr.snoc X91 N88 g_b82
     have Z92 : n0 ≤ h91.size := Nat.le_trans Z89 (Keep.of_wr W91).1
     have hk := Nat.le_trans hk (Keep.of_wr W91).1
     have O92 : Old Z n0 h91 := O89.wr W91 g_b82
     rw [own_drn] at W91
     have Va91 : Arv Z h91 b82 k82 .char (4 : Int32) [(.int (own_dr p2)), (.int (own_dr p3)), (.int (own_dr p4)), (.int 0)] (.int 0) := Arv.set Ar90 qc90 Sz90 Nn90 Hs90 Gf90 (own_drf _) W91 2 rfl (Nat.le_of_ble_eq_true rfl)
     refine gs m T91 161 #[.val (.int p1), .val (.int p2), .val (.int p3), .val (.int p4), .val (.int p5), .val (.int N), .val (.int (own_dr p2)), .val (.int (own_dr p3)), .val (.int (own_dr p4)), .val (.int (own_dr p5)), .val (.ref b5), .unset, .unset] [(.ref b82)] st91 ?_
     refine g_dup X91 hx 162 (hb hby at_161) rfl rfl ?_
     refine g_iconst X91 hx 163 3 (hb hby at_162) rfl rfl ?_
     refine g_iload X91 hx 165 (hb hby at_163) rfl rfl ?_
     obtain ⟨cl93, Ar93, qc93, Sz93, Nn93, Hs93, Gf93⟩ := id Va91
     have hin94 : ¬ ((3 : Int32) < 0 ∨ cl93.slots.size ≤ ((3 : Int32)).toNatClampNeg) := (inb_of Sz93 ⟨by decide, by decide⟩)
     obtain ⟨T94, h94, X94, e94, W94, st94⟩ := stC X91 hx hZ e91 Ar93 (j := (3 : Int32)) hin94 (g := (mkF m 165 #[.val (.int p1), .val (.int p2), .val (.int p3), .val (.int p4), .val (.int p5), .val (.int N), .val (.int (own_dr p2)), .val (.int (own_dr p3)), .val (.int (own_dr p4)), .val (.int (own_dr p5)), .val (.ref b5), .unset, .unset] [(.int (own_dr p5)), (.int 3), (.ref b82), (.ref b82)])) rfl rfl (hb hby at_165)
     have N94 := Fr.snoc X94 N91 g_b82
     have Z95 : n0 ≤ h94.size := Nat.le_trans Z92 (Keep.of_wr W94).1
     have hk := Nat.le_trans hk (Keep.of_wr W94).1
     have O95 : Old Z n0 h94 := O92.wr W94 g_b82
     rw [own_drn] at W94
     have Va94 : Arv Z h94 b82 k82 .char (4 : Int32) [(.int (own_dr p2)), (.int (own_dr p3)), (.int (own_dr p4)), (.int (own_dr p5))] (.int 0) := Arv.set Ar93 qc93 Sz93 Nn93 Hs93 Gf93 (own_drf _) W94 3 rfl (Nat.le_of_ble_eq_true rfl)
     refine gs m T94 166 #[.val (.int p1), .val (.int p2), .val (.int p3), .val (.int p4), .val (.int p5), .val (.int N), .val (.int (own_dr p2)), .val (.int (own_dr p3)), .val (.int (own_dr p4)), .val (.int (own_dr p5)), .val (.ref b5), .unset, .unset] [(.ref b82)] st94 ?_
     refine g_astore X94 hx 168 (hb hby at_166) rfl rfl (l' := #[.val (.int p1), .val (.int p2), .val (.int p3), .val (.int p4), .val (.int p5), .val (.int N), .val (.int (own_dr p2)), .val (.int (own_dr p3)), .val (.int (own_dr p4)), .val (.int (own_dr p5)), .val (.ref b5), .val (.ref b82), .unset]) rfl ?_
     have hn4 := own_n4 hN hnl hc60 hc74 hc93 hc117
     have Vm : Arv Z h94 b82 k82 .char N (own_tb (own_4 (own_dr p2) (own_dr p3) (own_dr p4) (own_dr p5))) (.int 0) := by
      rw [hn4]
      exact own_lst Va94 (by decide) (by intro j hj; have hj : j < 4 := hj; rcases j with _ | _ | _ | _ | j <;> first | rfl | omega)
     have q96 : Arv Z h94 b5 k5 .char (4 : Int32) (own_tb (own_4 (own_dr p2) (own_dr p3) (own_dr p4) (own_dr p5))) (.int 0) := (((((Vall.ext E82).other W85 (Nat.ne_of_lt (Nat.lt_of_lt_of_le Vall.lt (Nat.le_of_eq g82.symm)))).other W88 (Nat.ne_of_lt (Nat.lt_of_lt_of_le Vall.lt (Nat.le_of_eq g82.symm)))).other W91 (Nat.ne_of_lt (Nat.lt_of_lt_of_le Vall.lt (Nat.le_of_eq g82.symm)))).other W94 (Nat.ne_of_lt (Nat.lt_of_lt_of_le Vall.lt (Nat.le_of_eq g82.symm))))
     have q97 : Exa Z h94 ci "java/lang/CharacterDataLatin1" := ((((((((((E_ci.ext E5).wr W8).wr W11).wr W14).wr W17).ext E82).wr W85).wr W88).wr W91).wr W94)
     have q98 : Arv Z h94 tA kA .int (256 : Int32) own_tab (.int 0) := ((((((((((V_tA.ext E5).other W8 (Nat.ne_of_lt (Nat.lt_of_lt_of_le V_tA.lt (Nat.le_of_eq g5.symm)))).other W11 (Nat.ne_of_lt (Nat.lt_of_lt_of_le V_tA.lt (Nat.le_of_eq g5.symm)))).other W14 (Nat.ne_of_lt (Nat.lt_of_lt_of_le V_tA.lt (Nat.le_of_eq g5.symm)))).other W17 (Nat.ne_of_lt (Nat.lt_of_lt_of_le V_tA.lt (Nat.le_of_eq g5.symm)))).ext E82).other W85 (Nat.ne_of_lt (Nat.lt_of_lt_of_le (((((V_tA.ext E5).other W8 (Nat.ne_of_lt (Nat.lt_of_lt_of_le V_tA.lt (Nat.le_of_eq g5.symm)))).other W11 (Nat.ne_of_lt (Nat.lt_of_lt_of_le V_tA.lt (Nat.le_of_eq g5.symm)))).other W14 (Nat.ne_of_lt (Nat.lt_of_lt_of_le V_tA.lt (Nat.le_of_eq g5.symm)))).other W17 (Nat.ne_of_lt (Nat.lt_of_lt_of_le V_tA.lt (Nat.le_of_eq g5.symm)))).lt (Nat.le_of_eq g82.symm)))).other W88 (Nat.ne_of_lt (Nat.lt_of_lt_of_le (((((V_tA.ext E5).other W8 (Nat.ne_of_lt (Nat.lt_of_lt_of_le V_tA.lt (Nat.le_of_eq g5.symm)))).other W11 (Nat.ne_of_lt (Nat.lt_of_lt_of_le V_tA.lt (Nat.le_of_eq g5.symm)))).other W14 (Nat.ne_of_lt (Nat.lt_of_lt_of_le V_tA.lt (Nat.le_of_eq g5.symm)))).other W17 (Nat.ne_of_lt (Nat.lt_of_lt_of_le V_tA.lt (Nat.le_of_eq g5.symm)))).lt (Nat.le_of_eq g82.symm)))).other W91 (Nat.ne_of_lt (Nat.lt_of_lt_of_le (((((V_tA.ext E5).other W8 (Nat.ne_of_lt (Nat.lt_of_lt_of_le V_tA.lt (Nat.le_of_eq g5.symm)))).other W11 (Nat.ne_of_lt (Nat.lt_of_lt_of_le V_tA.lt (Nat.le_of_eq g5.symm)))).other W14 (Nat.ne_of_lt (Nat.lt_of_lt_of_le V_tA.lt (Nat.le_of_eq g5.symm)))).other W17 (Nat.ne_of_lt (Nat.lt_of_lt_of_le V_tA.lt (Nat.le_of_eq g5.symm)))).lt (Nat.le_of_eq g82.symm)))).other W94 (Nat.ne_of_lt (Nat.lt_of_lt_of_le (((((V_tA.ext E5).other W8 (Nat.ne_of_lt (Nat.lt_of_lt_of_le V_tA.lt (Nat.le_of_eq g5.symm)))).other W11 (Nat.ne_of_lt (Nat.lt_of_lt_of_le V_tA.lt (Nat.le_of_eq g5.symm)))).other W14 (Nat.ne_of_lt (Nat.lt_of_lt_of_le V_tA.lt (Nat.le_of_eq g5.symm)))).other W17 (Nat.ne_of_lt (Nat.lt_of_lt_of_le V_tA.lt (Nat.le_of_eq g5.symm)))).lt (Nat.le_of_eq g82.symm))))
     exact J19 b82 k82 g_b82 h94 Z95 hk O95 Vm q96 q97 q98 _ _ X94 e94 N94
set_option maxRecDepth 65536 in
set_option maxHeartbeats 40000000 in
theorem comes_1 {Post : Tables → Env → Array Value → State → Outcome → State → Prop} (hpost : ∀ tb e args s v u, (limb_1_1.after args s (.returned v) u = true ∧ limb_1_2.after args s (.returned v) u = true ∧ True) → ReturnedEndW s (.returned v) u (Jvm.fieldLocs frame_1_writes args s ++ Jvm.arrayLocs frame_1_arrays args s ++ Jvm.staticLocs frame_1_statics s) 24 2176 → Post tb e args s (.returned v) u) :
    ArmFor flags0 classFile x code maxLocals ret World_1 tables_1 room_1 Calls_1 rest_1 Pre_1 Post := by
  intro l hfl _ _ p e ha hc hk s m args below hf hA hF happ hP
  obtain ⟨hcalls, hrest, hpre⟩ := hP
  obtain ⟨-, -, -, hnamed, -, -, -, hat⟩ := (Spec.applies_iff hf).mp happ
  obtain ⟨hg, hn⟩ := and_e (Cond.before_iff.mp (show (Jvm.Cond.and given_1 narrow_1).before args s = true from hpre))
  obtain ⟨g1, g2⟩ := and_e hg
  obtain ⟨g3, g4⟩ := and_e g2
  obtain ⟨g5, g6⟩ := and_e g4
  obtain ⟨g7, g8⟩ := and_e g6
  obtain ⟨g9, g10⟩ := and_e g8
  obtain ⟨w0, w1, w2, w3, w4, rfl⟩ : ∃ w0 w1 w2 w3 w4 : Value, args = #[w0, w1, w2, w3, w4] := by
    have hs : args.size = 5 := by simpa [Cond.value, given_1] using g1
    obtain ⟨L⟩ := args
    match L, hs with
    | [w0, w1, w2, w3, w4], _ => exact ⟨w0, w1, w2, w3, w4, rfl⟩
  have hw := fun d (hd : d ∈ tables_1) => atoms_spec (ws := Jvm.Cond.code x code maxLocals ret :: tables_1) hat d (List.mem_cons_of_mem _ hd)
  have hfit : Fit s := fun {y c} hc i hi => by
    obtain ⟨ha, rfl⟩ := Array.getElem?_eq_some_iff.mp hc
    have q := List.all_eq_true.mp ((Array.all_eq_true_iff_forall_mem.mp hF) _ (Array.getElem_mem ha)) i (List.mem_range.mpr hi)
    simpa [Array.getElem?_eq_getElem hi] using q
  obtain ⟨hsets, hown0⟩ := atoms_of _ (rest_1_c_eq ▸ (show rest_1_c.before _ s = true from hrest))
  have hr0 := Cond.before_iff.mp hown0
  obtain ⟨i0, ei0⟩ := is_v g3
  obtain rfl : w0 = (.int i0) := Option.some.inj ei0
  obtain ⟨i1, ei1⟩ := is_v g5
  obtain rfl : w1 = (.int i1) := Option.some.inj ei1
  obtain ⟨i2, ei2⟩ := is_v g7
  obtain rfl : w2 = (.int i2) := Option.some.inj ei2
  obtain ⟨i3, ei3⟩ := is_v g9
  obtain rfl : w3 = (.int i3) := Option.some.inj ei3
  obtain ⟨i4, ei4⟩ := is_v g10
  obtain rfl : w4 = (.int i4) := Option.some.inj ei4
  obtain ⟨cs, ev_cs⟩ := is_v (Cond.before_iff.mp (hsets _ (List.mem_of_getElem? (i := 1) rfl)))
  have S_COMPACT_STRINGS := Sta.start ev_cs (Or.inl (hsets _ (List.mem_of_getElem? (i := 0) rfl)))
  have hcs : ¬ cs = (0 : Int32) := by
    have q := not_v (Cond.before_iff.mp (hsets _ (List.mem_of_getElem? (i := 2) rfl)))
    intro e
    subst e
    simp [Cond.value, Term.eval] at q
    simp [Term.eval] at ev_cs
    simp [ev_cs] at q
  obtain ⟨fv, ev_f, hfv⟩ := isR_v (Cond.before_iff.mp (hsets _ (List.mem_of_getElem? (i := 8) rfl)))
  have S_SIOOBE_FORMATTER := Sta.start ev_f (Or.inl (hsets _ (List.mem_of_getElem? (i := 7) rfl)))
  have hCH : Jvm.Lit.constHeld s "java/lang/String" 7 := hcalls.1 ("java/lang/String", 7) (by decide)
  have hCH2 : Jvm.Lit.constHeld s "java/lang/StringLatin1" 151 := hcalls.1 ("java/lang/StringLatin1", 151) (by decide)
  have hCW : Jvm.Lit.compactW.before _ s = true := (hsets _ (List.mem_of_getElem? (i := 2) rfl))
  obtain ⟨ci, ev_c⟩ := exa_v (Cond.before_iff.mp (hsets _ (List.mem_of_getElem? (i := 11) rfl)))
  have E_ci := Exa.start ev_c (Cond.before_iff.mp (hsets _ (List.mem_of_getElem? (i := 11) rfl)))
  have S_instance := Sta.start ev_c (Or.inl (hsets _ (List.mem_of_getElem? (i := 10) rfl)))
  obtain ⟨tA, ev_A⟩ := arr_v (Cond.before_iff.mp (hsets _ (List.mem_of_getElem? (i := 14) rfl)))
  have S_A := Sta.start ev_A (Or.inl (hsets _ (List.mem_of_getElem? (i := 13) rfl)))
  obtain ⟨clA, ArA⟩ := Arr.start ev_A (Cond.before_iff.mp (hsets _ (List.mem_of_getElem? (i := 14) rfl)))
  obtain ⟨szA, skA⟩ := own_size ev_A ArA (Cond.before_iff.mp (hsets _ (List.mem_of_getElem? (i := 16) rfl)))
  have q0 := (elem_in (own_eqk (Cond.before_iff.mp (hsets _ (List.mem_of_getElem? (i := 17) rfl)))) ev_A (Term.int_eval _) ArA.1).2
  have q1 := (elem_in (own_eqk (Cond.before_iff.mp (hsets _ (List.mem_of_getElem? (i := 18) rfl)))) ev_A (Term.int_eval _) ArA.1).2
  have q2 := (elem_in (own_eqk (Cond.before_iff.mp (hsets _ (List.mem_of_getElem? (i := 19) rfl)))) ev_A (Term.int_eval _) ArA.1).2
  have q3 := (elem_in (own_eqk (Cond.before_iff.mp (hsets _ (List.mem_of_getElem? (i := 20) rfl)))) ev_A (Term.int_eval _) ArA.1).2
  have q4 := (elem_in (own_eqk (Cond.before_iff.mp (hsets _ (List.mem_of_getElem? (i := 21) rfl)))) ev_A (Term.int_eval _) ArA.1).2
  have q5 := (elem_in (own_eqk (Cond.before_iff.mp (hsets _ (List.mem_of_getElem? (i := 22) rfl)))) ev_A (Term.int_eval _) ArA.1).2
  have q6 := (elem_in (own_eqk (Cond.before_iff.mp (hsets _ (List.mem_of_getElem? (i := 23) rfl)))) ev_A (Term.int_eval _) ArA.1).2
  have q7 := (elem_in (own_eqk (Cond.before_iff.mp (hsets _ (List.mem_of_getElem? (i := 24) rfl)))) ev_A (Term.int_eval _) ArA.1).2
  have q8 := (elem_in (own_eqk (Cond.before_iff.mp (hsets _ (List.mem_of_getElem? (i := 25) rfl)))) ev_A (Term.int_eval _) ArA.1).2
  have q9 := (elem_in (own_eqk (Cond.before_iff.mp (hsets _ (List.mem_of_getElem? (i := 26) rfl)))) ev_A (Term.int_eval _) ArA.1).2
  have q10 := (elem_in (own_eqk (Cond.before_iff.mp (hsets _ (List.mem_of_getElem? (i := 27) rfl)))) ev_A (Term.int_eval _) ArA.1).2
  have q11 := (elem_in (own_eqk (Cond.before_iff.mp (hsets _ (List.mem_of_getElem? (i := 28) rfl)))) ev_A (Term.int_eval _) ArA.1).2
  have q12 := (elem_in (own_eqk (Cond.before_iff.mp (hsets _ (List.mem_of_getElem? (i := 29) rfl)))) ev_A (Term.int_eval _) ArA.1).2
  have q13 := (elem_in (own_eqk (Cond.before_iff.mp (hsets _ (List.mem_of_getElem? (i := 30) rfl)))) ev_A (Term.int_eval _) ArA.1).2
  have q14 := (elem_in (own_eqk (Cond.before_iff.mp (hsets _ (List.mem_of_getElem? (i := 31) rfl)))) ev_A (Term.int_eval _) ArA.1).2
  have q15 := (elem_in (own_eqk (Cond.before_iff.mp (hsets _ (List.mem_of_getElem? (i := 32) rfl)))) ev_A (Term.int_eval _) ArA.1).2
  have q16 := (elem_in (own_eqk (Cond.before_iff.mp (hsets _ (List.mem_of_getElem? (i := 33) rfl)))) ev_A (Term.int_eval _) ArA.1).2
  have q17 := (elem_in (own_eqk (Cond.before_iff.mp (hsets _ (List.mem_of_getElem? (i := 34) rfl)))) ev_A (Term.int_eval _) ArA.1).2
  have q18 := (elem_in (own_eqk (Cond.before_iff.mp (hsets _ (List.mem_of_getElem? (i := 35) rfl)))) ev_A (Term.int_eval _) ArA.1).2
  have q19 := (elem_in (own_eqk (Cond.before_iff.mp (hsets _ (List.mem_of_getElem? (i := 36) rfl)))) ev_A (Term.int_eval _) ArA.1).2
  have q20 := (elem_in (own_eqk (Cond.before_iff.mp (hsets _ (List.mem_of_getElem? (i := 37) rfl)))) ev_A (Term.int_eval _) ArA.1).2
  have q21 := (elem_in (own_eqk (Cond.before_iff.mp (hsets _ (List.mem_of_getElem? (i := 38) rfl)))) ev_A (Term.int_eval _) ArA.1).2
  have q22 := (elem_in (own_eqk (Cond.before_iff.mp (hsets _ (List.mem_of_getElem? (i := 39) rfl)))) ev_A (Term.int_eval _) ArA.1).2
  have q23 := (elem_in (own_eqk (Cond.before_iff.mp (hsets _ (List.mem_of_getElem? (i := 40) rfl)))) ev_A (Term.int_eval _) ArA.1).2
  have q24 := (elem_in (own_eqk (Cond.before_iff.mp (hsets _ (List.mem_of_getElem? (i := 41) rfl)))) ev_A (Term.int_eval _) ArA.1).2
  have q25 := (elem_in (own_eqk (Cond.before_iff.mp (hsets _ (List.mem_of_getElem? (i := 42) rfl)))) ev_A (Term.int_eval _) ArA.1).2
  have q26 := (elem_in (own_eqk (Cond.before_iff.mp (hsets _ (List.mem_of_getElem? (i := 43) rfl)))) ev_A (Term.int_eval _) ArA.1).2
  have q27 := (elem_in (own_eqk (Cond.before_iff.mp (hsets _ (List.mem_of_getElem? (i := 44) rfl)))) ev_A (Term.int_eval _) ArA.1).2
  have q28 := (elem_in (own_eqk (Cond.before_iff.mp (hsets _ (List.mem_of_getElem? (i := 45) rfl)))) ev_A (Term.int_eval _) ArA.1).2
  have q29 := (elem_in (own_eqk (Cond.before_iff.mp (hsets _ (List.mem_of_getElem? (i := 46) rfl)))) ev_A (Term.int_eval _) ArA.1).2
  have q30 := (elem_in (own_eqk (Cond.before_iff.mp (hsets _ (List.mem_of_getElem? (i := 47) rfl)))) ev_A (Term.int_eval _) ArA.1).2
  have q31 := (elem_in (own_eqk (Cond.before_iff.mp (hsets _ (List.mem_of_getElem? (i := 48) rfl)))) ev_A (Term.int_eval _) ArA.1).2
  have q32 := (elem_in (own_eqk (Cond.before_iff.mp (hsets _ (List.mem_of_getElem? (i := 49) rfl)))) ev_A (Term.int_eval _) ArA.1).2
  have q33 := (elem_in (own_eqk (Cond.before_iff.mp (hsets _ (List.mem_of_getElem? (i := 50) rfl)))) ev_A (Term.int_eval _) ArA.1).2
  have q34 := (elem_in (own_eqk (Cond.before_iff.mp (hsets _ (List.mem_of_getElem? (i := 51) rfl)))) ev_A (Term.int_eval _) ArA.1).2
  have q35 := (elem_in (own_eqk (Cond.before_iff.mp (hsets _ (List.mem_of_getElem? (i := 52) rfl)))) ev_A (Term.int_eval _) ArA.1).2
  have q36 := (elem_in (own_eqk (Cond.before_iff.mp (hsets _ (List.mem_of_getElem? (i := 53) rfl)))) ev_A (Term.int_eval _) ArA.1).2
  have q37 := (elem_in (own_eqk (Cond.before_iff.mp (hsets _ (List.mem_of_getElem? (i := 54) rfl)))) ev_A (Term.int_eval _) ArA.1).2
  have q38 := (elem_in (own_eqk (Cond.before_iff.mp (hsets _ (List.mem_of_getElem? (i := 55) rfl)))) ev_A (Term.int_eval _) ArA.1).2
  have q39 := (elem_in (own_eqk (Cond.before_iff.mp (hsets _ (List.mem_of_getElem? (i := 56) rfl)))) ev_A (Term.int_eval _) ArA.1).2
  have q40 := (elem_in (own_eqk (Cond.before_iff.mp (hsets _ (List.mem_of_getElem? (i := 57) rfl)))) ev_A (Term.int_eval _) ArA.1).2
  have q41 := (elem_in (own_eqk (Cond.before_iff.mp (hsets _ (List.mem_of_getElem? (i := 58) rfl)))) ev_A (Term.int_eval _) ArA.1).2
  have q42 := (elem_in (own_eqk (Cond.before_iff.mp (hsets _ (List.mem_of_getElem? (i := 59) rfl)))) ev_A (Term.int_eval _) ArA.1).2
  have q43 := (elem_in (own_eqk (Cond.before_iff.mp (hsets _ (List.mem_of_getElem? (i := 60) rfl)))) ev_A (Term.int_eval _) ArA.1).2
  have q44 := (elem_in (own_eqk (Cond.before_iff.mp (hsets _ (List.mem_of_getElem? (i := 61) rfl)))) ev_A (Term.int_eval _) ArA.1).2
  have q45 := (elem_in (own_eqk (Cond.before_iff.mp (hsets _ (List.mem_of_getElem? (i := 62) rfl)))) ev_A (Term.int_eval _) ArA.1).2
  have q46 := (elem_in (own_eqk (Cond.before_iff.mp (hsets _ (List.mem_of_getElem? (i := 63) rfl)))) ev_A (Term.int_eval _) ArA.1).2
  have q47 := (elem_in (own_eqk (Cond.before_iff.mp (hsets _ (List.mem_of_getElem? (i := 64) rfl)))) ev_A (Term.int_eval _) ArA.1).2
  have q48 := (elem_in (own_eqk (Cond.before_iff.mp (hsets _ (List.mem_of_getElem? (i := 65) rfl)))) ev_A (Term.int_eval _) ArA.1).2
  have q49 := (elem_in (own_eqk (Cond.before_iff.mp (hsets _ (List.mem_of_getElem? (i := 66) rfl)))) ev_A (Term.int_eval _) ArA.1).2
  have q50 := (elem_in (own_eqk (Cond.before_iff.mp (hsets _ (List.mem_of_getElem? (i := 67) rfl)))) ev_A (Term.int_eval _) ArA.1).2
  have q51 := (elem_in (own_eqk (Cond.before_iff.mp (hsets _ (List.mem_of_getElem? (i := 68) rfl)))) ev_A (Term.int_eval _) ArA.1).2
  have q52 := (elem_in (own_eqk (Cond.before_iff.mp (hsets _ (List.mem_of_getElem? (i := 69) rfl)))) ev_A (Term.int_eval _) ArA.1).2
  have q53 := (elem_in (own_eqk (Cond.before_iff.mp (hsets _ (List.mem_of_getElem? (i := 70) rfl)))) ev_A (Term.int_eval _) ArA.1).2
  have q54 := (elem_in (own_eqk (Cond.before_iff.mp (hsets _ (List.mem_of_getElem? (i := 71) rfl)))) ev_A (Term.int_eval _) ArA.1).2
  have q55 := (elem_in (own_eqk (Cond.before_iff.mp (hsets _ (List.mem_of_getElem? (i := 72) rfl)))) ev_A (Term.int_eval _) ArA.1).2
  have q56 := (elem_in (own_eqk (Cond.before_iff.mp (hsets _ (List.mem_of_getElem? (i := 73) rfl)))) ev_A (Term.int_eval _) ArA.1).2
  have q57 := (elem_in (own_eqk (Cond.before_iff.mp (hsets _ (List.mem_of_getElem? (i := 74) rfl)))) ev_A (Term.int_eval _) ArA.1).2
  have q58 := (elem_in (own_eqk (Cond.before_iff.mp (hsets _ (List.mem_of_getElem? (i := 75) rfl)))) ev_A (Term.int_eval _) ArA.1).2
  have q59 := (elem_in (own_eqk (Cond.before_iff.mp (hsets _ (List.mem_of_getElem? (i := 76) rfl)))) ev_A (Term.int_eval _) ArA.1).2
  have q60 := (elem_in (own_eqk (Cond.before_iff.mp (hsets _ (List.mem_of_getElem? (i := 77) rfl)))) ev_A (Term.int_eval _) ArA.1).2
  have q61 := (elem_in (own_eqk (Cond.before_iff.mp (hsets _ (List.mem_of_getElem? (i := 78) rfl)))) ev_A (Term.int_eval _) ArA.1).2
  have q62 := (elem_in (own_eqk (Cond.before_iff.mp (hsets _ (List.mem_of_getElem? (i := 79) rfl)))) ev_A (Term.int_eval _) ArA.1).2
  have q63 := (elem_in (own_eqk (Cond.before_iff.mp (hsets _ (List.mem_of_getElem? (i := 80) rfl)))) ev_A (Term.int_eval _) ArA.1).2
  have q64 := (elem_in (own_eqk (Cond.before_iff.mp (hsets _ (List.mem_of_getElem? (i := 81) rfl)))) ev_A (Term.int_eval _) ArA.1).2
  have q65 := (elem_in (own_eqk (Cond.before_iff.mp (hsets _ (List.mem_of_getElem? (i := 82) rfl)))) ev_A (Term.int_eval _) ArA.1).2
  have q66 := (elem_in (own_eqk (Cond.before_iff.mp (hsets _ (List.mem_of_getElem? (i := 83) rfl)))) ev_A (Term.int_eval _) ArA.1).2
  have q67 := (elem_in (own_eqk (Cond.before_iff.mp (hsets _ (List.mem_of_getElem? (i := 84) rfl)))) ev_A (Term.int_eval _) ArA.1).2
  have q68 := (elem_in (own_eqk (Cond.before_iff.mp (hsets _ (List.mem_of_getElem? (i := 85) rfl)))) ev_A (Term.int_eval _) ArA.1).2
  have q69 := (elem_in (own_eqk (Cond.before_iff.mp (hsets _ (List.mem_of_getElem? (i := 86) rfl)))) ev_A (Term.int_eval _) ArA.1).2
  have q70 := (elem_in (own_eqk (Cond.before_iff.mp (hsets _ (List.mem_of_getElem? (i := 87) rfl)))) ev_A (Term.int_eval _) ArA.1).2
  have q71 := (elem_in (own_eqk (Cond.before_iff.mp (hsets _ (List.mem_of_getElem? (i := 88) rfl)))) ev_A (Term.int_eval _) ArA.1).2
  have q72 := (elem_in (own_eqk (Cond.before_iff.mp (hsets _ (List.mem_of_getElem? (i := 89) rfl)))) ev_A (Term.int_eval _) ArA.1).2
  have q73 := (elem_in (own_eqk (Cond.before_iff.mp (hsets _ (List.mem_of_getElem? (i := 90) rfl)))) ev_A (Term.int_eval _) ArA.1).2
  have q74 := (elem_in (own_eqk (Cond.before_iff.mp (hsets _ (List.mem_of_getElem? (i := 91) rfl)))) ev_A (Term.int_eval _) ArA.1).2
  have q75 := (elem_in (own_eqk (Cond.before_iff.mp (hsets _ (List.mem_of_getElem? (i := 92) rfl)))) ev_A (Term.int_eval _) ArA.1).2
  have q76 := (elem_in (own_eqk (Cond.before_iff.mp (hsets _ (List.mem_of_getElem? (i := 93) rfl)))) ev_A (Term.int_eval _) ArA.1).2
  have q77 := (elem_in (own_eqk (Cond.before_iff.mp (hsets _ (List.mem_of_getElem? (i := 94) rfl)))) ev_A (Term.int_eval _) ArA.1).2
  have q78 := (elem_in (own_eqk (Cond.before_iff.mp (hsets _ (List.mem_of_getElem? (i := 95) rfl)))) ev_A (Term.int_eval _) ArA.1).2
  have q79 := (elem_in (own_eqk (Cond.before_iff.mp (hsets _ (List.mem_of_getElem? (i := 96) rfl)))) ev_A (Term.int_eval _) ArA.1).2
  have q80 := (elem_in (own_eqk (Cond.before_iff.mp (hsets _ (List.mem_of_getElem? (i := 97) rfl)))) ev_A (Term.int_eval _) ArA.1).2
  have q81 := (elem_in (own_eqk (Cond.before_iff.mp (hsets _ (List.mem_of_getElem? (i := 98) rfl)))) ev_A (Term.int_eval _) ArA.1).2
  have q82 := (elem_in (own_eqk (Cond.before_iff.mp (hsets _ (List.mem_of_getElem? (i := 99) rfl)))) ev_A (Term.int_eval _) ArA.1).2
  have q83 := (elem_in (own_eqk (Cond.before_iff.mp (hsets _ (List.mem_of_getElem? (i := 100) rfl)))) ev_A (Term.int_eval _) ArA.1).2
  have q84 := (elem_in (own_eqk (Cond.before_iff.mp (hsets _ (List.mem_of_getElem? (i := 101) rfl)))) ev_A (Term.int_eval _) ArA.1).2
  have q85 := (elem_in (own_eqk (Cond.before_iff.mp (hsets _ (List.mem_of_getElem? (i := 102) rfl)))) ev_A (Term.int_eval _) ArA.1).2
  have q86 := (elem_in (own_eqk (Cond.before_iff.mp (hsets _ (List.mem_of_getElem? (i := 103) rfl)))) ev_A (Term.int_eval _) ArA.1).2
  have q87 := (elem_in (own_eqk (Cond.before_iff.mp (hsets _ (List.mem_of_getElem? (i := 104) rfl)))) ev_A (Term.int_eval _) ArA.1).2
  have q88 := (elem_in (own_eqk (Cond.before_iff.mp (hsets _ (List.mem_of_getElem? (i := 105) rfl)))) ev_A (Term.int_eval _) ArA.1).2
  have q89 := (elem_in (own_eqk (Cond.before_iff.mp (hsets _ (List.mem_of_getElem? (i := 106) rfl)))) ev_A (Term.int_eval _) ArA.1).2
  have q90 := (elem_in (own_eqk (Cond.before_iff.mp (hsets _ (List.mem_of_getElem? (i := 107) rfl)))) ev_A (Term.int_eval _) ArA.1).2
  have q91 := (elem_in (own_eqk (Cond.before_iff.mp (hsets _ (List.mem_of_getElem? (i := 108) rfl)))) ev_A (Term.int_eval _) ArA.1).2
  have q92 := (elem_in (own_eqk (Cond.before_iff.mp (hsets _ (List.mem_of_getElem? (i := 109) rfl)))) ev_A (Term.int_eval _) ArA.1).2
  have q93 := (elem_in (own_eqk (Cond.before_iff.mp (hsets _ (List.mem_of_getElem? (i := 110) rfl)))) ev_A (Term.int_eval _) ArA.1).2
  have q94 := (elem_in (own_eqk (Cond.before_iff.mp (hsets _ (List.mem_of_getElem? (i := 111) rfl)))) ev_A (Term.int_eval _) ArA.1).2
  have q95 := (elem_in (own_eqk (Cond.before_iff.mp (hsets _ (List.mem_of_getElem? (i := 112) rfl)))) ev_A (Term.int_eval _) ArA.1).2
  have q96 := (elem_in (own_eqk (Cond.before_iff.mp (hsets _ (List.mem_of_getElem? (i := 113) rfl)))) ev_A (Term.int_eval _) ArA.1).2
  have q97 := (elem_in (own_eqk (Cond.before_iff.mp (hsets _ (List.mem_of_getElem? (i := 114) rfl)))) ev_A (Term.int_eval _) ArA.1).2
  have q98 := (elem_in (own_eqk (Cond.before_iff.mp (hsets _ (List.mem_of_getElem? (i := 115) rfl)))) ev_A (Term.int_eval _) ArA.1).2
  have q99 := (elem_in (own_eqk (Cond.before_iff.mp (hsets _ (List.mem_of_getElem? (i := 116) rfl)))) ev_A (Term.int_eval _) ArA.1).2
  have q100 := (elem_in (own_eqk (Cond.before_iff.mp (hsets _ (List.mem_of_getElem? (i := 117) rfl)))) ev_A (Term.int_eval _) ArA.1).2
  have q101 := (elem_in (own_eqk (Cond.before_iff.mp (hsets _ (List.mem_of_getElem? (i := 118) rfl)))) ev_A (Term.int_eval _) ArA.1).2
  have q102 := (elem_in (own_eqk (Cond.before_iff.mp (hsets _ (List.mem_of_getElem? (i := 119) rfl)))) ev_A (Term.int_eval _) ArA.1).2
  have q103 := (elem_in (own_eqk (Cond.before_iff.mp (hsets _ (List.mem_of_getElem? (i := 120) rfl)))) ev_A (Term.int_eval _) ArA.1).2
  have q104 := (elem_in (own_eqk (Cond.before_iff.mp (hsets _ (List.mem_of_getElem? (i := 121) rfl)))) ev_A (Term.int_eval _) ArA.1).2
  have q105 := (elem_in (own_eqk (Cond.before_iff.mp (hsets _ (List.mem_of_getElem? (i := 122) rfl)))) ev_A (Term.int_eval _) ArA.1).2
  have q106 := (elem_in (own_eqk (Cond.before_iff.mp (hsets _ (List.mem_of_getElem? (i := 123) rfl)))) ev_A (Term.int_eval _) ArA.1).2
  have q107 := (elem_in (own_eqk (Cond.before_iff.mp (hsets _ (List.mem_of_getElem? (i := 124) rfl)))) ev_A (Term.int_eval _) ArA.1).2
  have q108 := (elem_in (own_eqk (Cond.before_iff.mp (hsets _ (List.mem_of_getElem? (i := 125) rfl)))) ev_A (Term.int_eval _) ArA.1).2
  have q109 := (elem_in (own_eqk (Cond.before_iff.mp (hsets _ (List.mem_of_getElem? (i := 126) rfl)))) ev_A (Term.int_eval _) ArA.1).2
  have q110 := (elem_in (own_eqk (Cond.before_iff.mp (hsets _ (List.mem_of_getElem? (i := 127) rfl)))) ev_A (Term.int_eval _) ArA.1).2
  have q111 := (elem_in (own_eqk (Cond.before_iff.mp (hsets _ (List.mem_of_getElem? (i := 128) rfl)))) ev_A (Term.int_eval _) ArA.1).2
  have q112 := (elem_in (own_eqk (Cond.before_iff.mp (hsets _ (List.mem_of_getElem? (i := 129) rfl)))) ev_A (Term.int_eval _) ArA.1).2
  have q113 := (elem_in (own_eqk (Cond.before_iff.mp (hsets _ (List.mem_of_getElem? (i := 130) rfl)))) ev_A (Term.int_eval _) ArA.1).2
  have q114 := (elem_in (own_eqk (Cond.before_iff.mp (hsets _ (List.mem_of_getElem? (i := 131) rfl)))) ev_A (Term.int_eval _) ArA.1).2
  have q115 := (elem_in (own_eqk (Cond.before_iff.mp (hsets _ (List.mem_of_getElem? (i := 132) rfl)))) ev_A (Term.int_eval _) ArA.1).2
  have q116 := (elem_in (own_eqk (Cond.before_iff.mp (hsets _ (List.mem_of_getElem? (i := 133) rfl)))) ev_A (Term.int_eval _) ArA.1).2
  have q117 := (elem_in (own_eqk (Cond.before_iff.mp (hsets _ (List.mem_of_getElem? (i := 134) rfl)))) ev_A (Term.int_eval _) ArA.1).2
  have q118 := (elem_in (own_eqk (Cond.before_iff.mp (hsets _ (List.mem_of_getElem? (i := 135) rfl)))) ev_A (Term.int_eval _) ArA.1).2
  have q119 := (elem_in (own_eqk (Cond.before_iff.mp (hsets _ (List.mem_of_getElem? (i := 136) rfl)))) ev_A (Term.int_eval _) ArA.1).2
  have q120 := (elem_in (own_eqk (Cond.before_iff.mp (hsets _ (List.mem_of_getElem? (i := 137) rfl)))) ev_A (Term.int_eval _) ArA.1).2
  have q121 := (elem_in (own_eqk (Cond.before_iff.mp (hsets _ (List.mem_of_getElem? (i := 138) rfl)))) ev_A (Term.int_eval _) ArA.1).2
  have q122 := (elem_in (own_eqk (Cond.before_iff.mp (hsets _ (List.mem_of_getElem? (i := 139) rfl)))) ev_A (Term.int_eval _) ArA.1).2
  have q123 := (elem_in (own_eqk (Cond.before_iff.mp (hsets _ (List.mem_of_getElem? (i := 140) rfl)))) ev_A (Term.int_eval _) ArA.1).2
  have q124 := (elem_in (own_eqk (Cond.before_iff.mp (hsets _ (List.mem_of_getElem? (i := 141) rfl)))) ev_A (Term.int_eval _) ArA.1).2
  have q125 := (elem_in (own_eqk (Cond.before_iff.mp (hsets _ (List.mem_of_getElem? (i := 142) rfl)))) ev_A (Term.int_eval _) ArA.1).2
  have q126 := (elem_in (own_eqk (Cond.before_iff.mp (hsets _ (List.mem_of_getElem? (i := 143) rfl)))) ev_A (Term.int_eval _) ArA.1).2
  have q127 := (elem_in (own_eqk (Cond.before_iff.mp (hsets _ (List.mem_of_getElem? (i := 144) rfl)))) ev_A (Term.int_eval _) ArA.1).2
  have q128 := (elem_in (own_eqk (Cond.before_iff.mp (hsets _ (List.mem_of_getElem? (i := 145) rfl)))) ev_A (Term.int_eval _) ArA.1).2
  have q129 := (elem_in (own_eqk (Cond.before_iff.mp (hsets _ (List.mem_of_getElem? (i := 146) rfl)))) ev_A (Term.int_eval _) ArA.1).2
  have q130 := (elem_in (own_eqk (Cond.before_iff.mp (hsets _ (List.mem_of_getElem? (i := 147) rfl)))) ev_A (Term.int_eval _) ArA.1).2
  have q131 := (elem_in (own_eqk (Cond.before_iff.mp (hsets _ (List.mem_of_getElem? (i := 148) rfl)))) ev_A (Term.int_eval _) ArA.1).2
  have q132 := (elem_in (own_eqk (Cond.before_iff.mp (hsets _ (List.mem_of_getElem? (i := 149) rfl)))) ev_A (Term.int_eval _) ArA.1).2
  have q133 := (elem_in (own_eqk (Cond.before_iff.mp (hsets _ (List.mem_of_getElem? (i := 150) rfl)))) ev_A (Term.int_eval _) ArA.1).2
  have q134 := (elem_in (own_eqk (Cond.before_iff.mp (hsets _ (List.mem_of_getElem? (i := 151) rfl)))) ev_A (Term.int_eval _) ArA.1).2
  have q135 := (elem_in (own_eqk (Cond.before_iff.mp (hsets _ (List.mem_of_getElem? (i := 152) rfl)))) ev_A (Term.int_eval _) ArA.1).2
  have q136 := (elem_in (own_eqk (Cond.before_iff.mp (hsets _ (List.mem_of_getElem? (i := 153) rfl)))) ev_A (Term.int_eval _) ArA.1).2
  have q137 := (elem_in (own_eqk (Cond.before_iff.mp (hsets _ (List.mem_of_getElem? (i := 154) rfl)))) ev_A (Term.int_eval _) ArA.1).2
  have q138 := (elem_in (own_eqk (Cond.before_iff.mp (hsets _ (List.mem_of_getElem? (i := 155) rfl)))) ev_A (Term.int_eval _) ArA.1).2
  have q139 := (elem_in (own_eqk (Cond.before_iff.mp (hsets _ (List.mem_of_getElem? (i := 156) rfl)))) ev_A (Term.int_eval _) ArA.1).2
  have q140 := (elem_in (own_eqk (Cond.before_iff.mp (hsets _ (List.mem_of_getElem? (i := 157) rfl)))) ev_A (Term.int_eval _) ArA.1).2
  have q141 := (elem_in (own_eqk (Cond.before_iff.mp (hsets _ (List.mem_of_getElem? (i := 158) rfl)))) ev_A (Term.int_eval _) ArA.1).2
  have q142 := (elem_in (own_eqk (Cond.before_iff.mp (hsets _ (List.mem_of_getElem? (i := 159) rfl)))) ev_A (Term.int_eval _) ArA.1).2
  have q143 := (elem_in (own_eqk (Cond.before_iff.mp (hsets _ (List.mem_of_getElem? (i := 160) rfl)))) ev_A (Term.int_eval _) ArA.1).2
  have q144 := (elem_in (own_eqk (Cond.before_iff.mp (hsets _ (List.mem_of_getElem? (i := 161) rfl)))) ev_A (Term.int_eval _) ArA.1).2
  have q145 := (elem_in (own_eqk (Cond.before_iff.mp (hsets _ (List.mem_of_getElem? (i := 162) rfl)))) ev_A (Term.int_eval _) ArA.1).2
  have q146 := (elem_in (own_eqk (Cond.before_iff.mp (hsets _ (List.mem_of_getElem? (i := 163) rfl)))) ev_A (Term.int_eval _) ArA.1).2
  have q147 := (elem_in (own_eqk (Cond.before_iff.mp (hsets _ (List.mem_of_getElem? (i := 164) rfl)))) ev_A (Term.int_eval _) ArA.1).2
  have q148 := (elem_in (own_eqk (Cond.before_iff.mp (hsets _ (List.mem_of_getElem? (i := 165) rfl)))) ev_A (Term.int_eval _) ArA.1).2
  have q149 := (elem_in (own_eqk (Cond.before_iff.mp (hsets _ (List.mem_of_getElem? (i := 166) rfl)))) ev_A (Term.int_eval _) ArA.1).2
  have q150 := (elem_in (own_eqk (Cond.before_iff.mp (hsets _ (List.mem_of_getElem? (i := 167) rfl)))) ev_A (Term.int_eval _) ArA.1).2
  have q151 := (elem_in (own_eqk (Cond.before_iff.mp (hsets _ (List.mem_of_getElem? (i := 168) rfl)))) ev_A (Term.int_eval _) ArA.1).2
  have q152 := (elem_in (own_eqk (Cond.before_iff.mp (hsets _ (List.mem_of_getElem? (i := 169) rfl)))) ev_A (Term.int_eval _) ArA.1).2
  have q153 := (elem_in (own_eqk (Cond.before_iff.mp (hsets _ (List.mem_of_getElem? (i := 170) rfl)))) ev_A (Term.int_eval _) ArA.1).2
  have q154 := (elem_in (own_eqk (Cond.before_iff.mp (hsets _ (List.mem_of_getElem? (i := 171) rfl)))) ev_A (Term.int_eval _) ArA.1).2
  have q155 := (elem_in (own_eqk (Cond.before_iff.mp (hsets _ (List.mem_of_getElem? (i := 172) rfl)))) ev_A (Term.int_eval _) ArA.1).2
  have q156 := (elem_in (own_eqk (Cond.before_iff.mp (hsets _ (List.mem_of_getElem? (i := 173) rfl)))) ev_A (Term.int_eval _) ArA.1).2
  have q157 := (elem_in (own_eqk (Cond.before_iff.mp (hsets _ (List.mem_of_getElem? (i := 174) rfl)))) ev_A (Term.int_eval _) ArA.1).2
  have q158 := (elem_in (own_eqk (Cond.before_iff.mp (hsets _ (List.mem_of_getElem? (i := 175) rfl)))) ev_A (Term.int_eval _) ArA.1).2
  have q159 := (elem_in (own_eqk (Cond.before_iff.mp (hsets _ (List.mem_of_getElem? (i := 176) rfl)))) ev_A (Term.int_eval _) ArA.1).2
  have q160 := (elem_in (own_eqk (Cond.before_iff.mp (hsets _ (List.mem_of_getElem? (i := 177) rfl)))) ev_A (Term.int_eval _) ArA.1).2
  have q161 := (elem_in (own_eqk (Cond.before_iff.mp (hsets _ (List.mem_of_getElem? (i := 178) rfl)))) ev_A (Term.int_eval _) ArA.1).2
  have q162 := (elem_in (own_eqk (Cond.before_iff.mp (hsets _ (List.mem_of_getElem? (i := 179) rfl)))) ev_A (Term.int_eval _) ArA.1).2
  have q163 := (elem_in (own_eqk (Cond.before_iff.mp (hsets _ (List.mem_of_getElem? (i := 180) rfl)))) ev_A (Term.int_eval _) ArA.1).2
  have q164 := (elem_in (own_eqk (Cond.before_iff.mp (hsets _ (List.mem_of_getElem? (i := 181) rfl)))) ev_A (Term.int_eval _) ArA.1).2
  have q165 := (elem_in (own_eqk (Cond.before_iff.mp (hsets _ (List.mem_of_getElem? (i := 182) rfl)))) ev_A (Term.int_eval _) ArA.1).2
  have q166 := (elem_in (own_eqk (Cond.before_iff.mp (hsets _ (List.mem_of_getElem? (i := 183) rfl)))) ev_A (Term.int_eval _) ArA.1).2
  have q167 := (elem_in (own_eqk (Cond.before_iff.mp (hsets _ (List.mem_of_getElem? (i := 184) rfl)))) ev_A (Term.int_eval _) ArA.1).2
  have q168 := (elem_in (own_eqk (Cond.before_iff.mp (hsets _ (List.mem_of_getElem? (i := 185) rfl)))) ev_A (Term.int_eval _) ArA.1).2
  have q169 := (elem_in (own_eqk (Cond.before_iff.mp (hsets _ (List.mem_of_getElem? (i := 186) rfl)))) ev_A (Term.int_eval _) ArA.1).2
  have q170 := (elem_in (own_eqk (Cond.before_iff.mp (hsets _ (List.mem_of_getElem? (i := 187) rfl)))) ev_A (Term.int_eval _) ArA.1).2
  have q171 := (elem_in (own_eqk (Cond.before_iff.mp (hsets _ (List.mem_of_getElem? (i := 188) rfl)))) ev_A (Term.int_eval _) ArA.1).2
  have q172 := (elem_in (own_eqk (Cond.before_iff.mp (hsets _ (List.mem_of_getElem? (i := 189) rfl)))) ev_A (Term.int_eval _) ArA.1).2
  have q173 := (elem_in (own_eqk (Cond.before_iff.mp (hsets _ (List.mem_of_getElem? (i := 190) rfl)))) ev_A (Term.int_eval _) ArA.1).2
  have q174 := (elem_in (own_eqk (Cond.before_iff.mp (hsets _ (List.mem_of_getElem? (i := 191) rfl)))) ev_A (Term.int_eval _) ArA.1).2
  have q175 := (elem_in (own_eqk (Cond.before_iff.mp (hsets _ (List.mem_of_getElem? (i := 192) rfl)))) ev_A (Term.int_eval _) ArA.1).2
  have q176 := (elem_in (own_eqk (Cond.before_iff.mp (hsets _ (List.mem_of_getElem? (i := 193) rfl)))) ev_A (Term.int_eval _) ArA.1).2
  have q177 := (elem_in (own_eqk (Cond.before_iff.mp (hsets _ (List.mem_of_getElem? (i := 194) rfl)))) ev_A (Term.int_eval _) ArA.1).2
  have q178 := (elem_in (own_eqk (Cond.before_iff.mp (hsets _ (List.mem_of_getElem? (i := 195) rfl)))) ev_A (Term.int_eval _) ArA.1).2
  have q179 := (elem_in (own_eqk (Cond.before_iff.mp (hsets _ (List.mem_of_getElem? (i := 196) rfl)))) ev_A (Term.int_eval _) ArA.1).2
  have q180 := (elem_in (own_eqk (Cond.before_iff.mp (hsets _ (List.mem_of_getElem? (i := 197) rfl)))) ev_A (Term.int_eval _) ArA.1).2
  have q181 := (elem_in (own_eqk (Cond.before_iff.mp (hsets _ (List.mem_of_getElem? (i := 198) rfl)))) ev_A (Term.int_eval _) ArA.1).2
  have q182 := (elem_in (own_eqk (Cond.before_iff.mp (hsets _ (List.mem_of_getElem? (i := 199) rfl)))) ev_A (Term.int_eval _) ArA.1).2
  have q183 := (elem_in (own_eqk (Cond.before_iff.mp (hsets _ (List.mem_of_getElem? (i := 200) rfl)))) ev_A (Term.int_eval _) ArA.1).2
  have q184 := (elem_in (own_eqk (Cond.before_iff.mp (hsets _ (List.mem_of_getElem? (i := 201) rfl)))) ev_A (Term.int_eval _) ArA.1).2
  have q185 := (elem_in (own_eqk (Cond.before_iff.mp (hsets _ (List.mem_of_getElem? (i := 202) rfl)))) ev_A (Term.int_eval _) ArA.1).2
  have q186 := (elem_in (own_eqk (Cond.before_iff.mp (hsets _ (List.mem_of_getElem? (i := 203) rfl)))) ev_A (Term.int_eval _) ArA.1).2
  have q187 := (elem_in (own_eqk (Cond.before_iff.mp (hsets _ (List.mem_of_getElem? (i := 204) rfl)))) ev_A (Term.int_eval _) ArA.1).2
  have q188 := (elem_in (own_eqk (Cond.before_iff.mp (hsets _ (List.mem_of_getElem? (i := 205) rfl)))) ev_A (Term.int_eval _) ArA.1).2
  have q189 := (elem_in (own_eqk (Cond.before_iff.mp (hsets _ (List.mem_of_getElem? (i := 206) rfl)))) ev_A (Term.int_eval _) ArA.1).2
  have q190 := (elem_in (own_eqk (Cond.before_iff.mp (hsets _ (List.mem_of_getElem? (i := 207) rfl)))) ev_A (Term.int_eval _) ArA.1).2
  have q191 := (elem_in (own_eqk (Cond.before_iff.mp (hsets _ (List.mem_of_getElem? (i := 208) rfl)))) ev_A (Term.int_eval _) ArA.1).2
  have q192 := (elem_in (own_eqk (Cond.before_iff.mp (hsets _ (List.mem_of_getElem? (i := 209) rfl)))) ev_A (Term.int_eval _) ArA.1).2
  have q193 := (elem_in (own_eqk (Cond.before_iff.mp (hsets _ (List.mem_of_getElem? (i := 210) rfl)))) ev_A (Term.int_eval _) ArA.1).2
  have q194 := (elem_in (own_eqk (Cond.before_iff.mp (hsets _ (List.mem_of_getElem? (i := 211) rfl)))) ev_A (Term.int_eval _) ArA.1).2
  have q195 := (elem_in (own_eqk (Cond.before_iff.mp (hsets _ (List.mem_of_getElem? (i := 212) rfl)))) ev_A (Term.int_eval _) ArA.1).2
  have q196 := (elem_in (own_eqk (Cond.before_iff.mp (hsets _ (List.mem_of_getElem? (i := 213) rfl)))) ev_A (Term.int_eval _) ArA.1).2
  have q197 := (elem_in (own_eqk (Cond.before_iff.mp (hsets _ (List.mem_of_getElem? (i := 214) rfl)))) ev_A (Term.int_eval _) ArA.1).2
  have q198 := (elem_in (own_eqk (Cond.before_iff.mp (hsets _ (List.mem_of_getElem? (i := 215) rfl)))) ev_A (Term.int_eval _) ArA.1).2
  have q199 := (elem_in (own_eqk (Cond.before_iff.mp (hsets _ (List.mem_of_getElem? (i := 216) rfl)))) ev_A (Term.int_eval _) ArA.1).2
  have q200 := (elem_in (own_eqk (Cond.before_iff.mp (hsets _ (List.mem_of_getElem? (i := 217) rfl)))) ev_A (Term.int_eval _) ArA.1).2
  have q201 := (elem_in (own_eqk (Cond.before_iff.mp (hsets _ (List.mem_of_getElem? (i := 218) rfl)))) ev_A (Term.int_eval _) ArA.1).2
  have q202 := (elem_in (own_eqk (Cond.before_iff.mp (hsets _ (List.mem_of_getElem? (i := 219) rfl)))) ev_A (Term.int_eval _) ArA.1).2
  have q203 := (elem_in (own_eqk (Cond.before_iff.mp (hsets _ (List.mem_of_getElem? (i := 220) rfl)))) ev_A (Term.int_eval _) ArA.1).2
  have q204 := (elem_in (own_eqk (Cond.before_iff.mp (hsets _ (List.mem_of_getElem? (i := 221) rfl)))) ev_A (Term.int_eval _) ArA.1).2
  have q205 := (elem_in (own_eqk (Cond.before_iff.mp (hsets _ (List.mem_of_getElem? (i := 222) rfl)))) ev_A (Term.int_eval _) ArA.1).2
  have q206 := (elem_in (own_eqk (Cond.before_iff.mp (hsets _ (List.mem_of_getElem? (i := 223) rfl)))) ev_A (Term.int_eval _) ArA.1).2
  have q207 := (elem_in (own_eqk (Cond.before_iff.mp (hsets _ (List.mem_of_getElem? (i := 224) rfl)))) ev_A (Term.int_eval _) ArA.1).2
  have q208 := (elem_in (own_eqk (Cond.before_iff.mp (hsets _ (List.mem_of_getElem? (i := 225) rfl)))) ev_A (Term.int_eval _) ArA.1).2
  have q209 := (elem_in (own_eqk (Cond.before_iff.mp (hsets _ (List.mem_of_getElem? (i := 226) rfl)))) ev_A (Term.int_eval _) ArA.1).2
  have q210 := (elem_in (own_eqk (Cond.before_iff.mp (hsets _ (List.mem_of_getElem? (i := 227) rfl)))) ev_A (Term.int_eval _) ArA.1).2
  have q211 := (elem_in (own_eqk (Cond.before_iff.mp (hsets _ (List.mem_of_getElem? (i := 228) rfl)))) ev_A (Term.int_eval _) ArA.1).2
  have q212 := (elem_in (own_eqk (Cond.before_iff.mp (hsets _ (List.mem_of_getElem? (i := 229) rfl)))) ev_A (Term.int_eval _) ArA.1).2
  have q213 := (elem_in (own_eqk (Cond.before_iff.mp (hsets _ (List.mem_of_getElem? (i := 230) rfl)))) ev_A (Term.int_eval _) ArA.1).2
  have q214 := (elem_in (own_eqk (Cond.before_iff.mp (hsets _ (List.mem_of_getElem? (i := 231) rfl)))) ev_A (Term.int_eval _) ArA.1).2
  have q215 := (elem_in (own_eqk (Cond.before_iff.mp (hsets _ (List.mem_of_getElem? (i := 232) rfl)))) ev_A (Term.int_eval _) ArA.1).2
  have q216 := (elem_in (own_eqk (Cond.before_iff.mp (hsets _ (List.mem_of_getElem? (i := 233) rfl)))) ev_A (Term.int_eval _) ArA.1).2
  have q217 := (elem_in (own_eqk (Cond.before_iff.mp (hsets _ (List.mem_of_getElem? (i := 234) rfl)))) ev_A (Term.int_eval _) ArA.1).2
  have q218 := (elem_in (own_eqk (Cond.before_iff.mp (hsets _ (List.mem_of_getElem? (i := 235) rfl)))) ev_A (Term.int_eval _) ArA.1).2
  have q219 := (elem_in (own_eqk (Cond.before_iff.mp (hsets _ (List.mem_of_getElem? (i := 236) rfl)))) ev_A (Term.int_eval _) ArA.1).2
  have q220 := (elem_in (own_eqk (Cond.before_iff.mp (hsets _ (List.mem_of_getElem? (i := 237) rfl)))) ev_A (Term.int_eval _) ArA.1).2
  have q221 := (elem_in (own_eqk (Cond.before_iff.mp (hsets _ (List.mem_of_getElem? (i := 238) rfl)))) ev_A (Term.int_eval _) ArA.1).2
  have q222 := (elem_in (own_eqk (Cond.before_iff.mp (hsets _ (List.mem_of_getElem? (i := 239) rfl)))) ev_A (Term.int_eval _) ArA.1).2
  have q223 := (elem_in (own_eqk (Cond.before_iff.mp (hsets _ (List.mem_of_getElem? (i := 240) rfl)))) ev_A (Term.int_eval _) ArA.1).2
  have q224 := (elem_in (own_eqk (Cond.before_iff.mp (hsets _ (List.mem_of_getElem? (i := 241) rfl)))) ev_A (Term.int_eval _) ArA.1).2
  have q225 := (elem_in (own_eqk (Cond.before_iff.mp (hsets _ (List.mem_of_getElem? (i := 242) rfl)))) ev_A (Term.int_eval _) ArA.1).2
  have q226 := (elem_in (own_eqk (Cond.before_iff.mp (hsets _ (List.mem_of_getElem? (i := 243) rfl)))) ev_A (Term.int_eval _) ArA.1).2
  have q227 := (elem_in (own_eqk (Cond.before_iff.mp (hsets _ (List.mem_of_getElem? (i := 244) rfl)))) ev_A (Term.int_eval _) ArA.1).2
  have q228 := (elem_in (own_eqk (Cond.before_iff.mp (hsets _ (List.mem_of_getElem? (i := 245) rfl)))) ev_A (Term.int_eval _) ArA.1).2
  have q229 := (elem_in (own_eqk (Cond.before_iff.mp (hsets _ (List.mem_of_getElem? (i := 246) rfl)))) ev_A (Term.int_eval _) ArA.1).2
  have q230 := (elem_in (own_eqk (Cond.before_iff.mp (hsets _ (List.mem_of_getElem? (i := 247) rfl)))) ev_A (Term.int_eval _) ArA.1).2
  have q231 := (elem_in (own_eqk (Cond.before_iff.mp (hsets _ (List.mem_of_getElem? (i := 248) rfl)))) ev_A (Term.int_eval _) ArA.1).2
  have q232 := (elem_in (own_eqk (Cond.before_iff.mp (hsets _ (List.mem_of_getElem? (i := 249) rfl)))) ev_A (Term.int_eval _) ArA.1).2
  have q233 := (elem_in (own_eqk (Cond.before_iff.mp (hsets _ (List.mem_of_getElem? (i := 250) rfl)))) ev_A (Term.int_eval _) ArA.1).2
  have q234 := (elem_in (own_eqk (Cond.before_iff.mp (hsets _ (List.mem_of_getElem? (i := 251) rfl)))) ev_A (Term.int_eval _) ArA.1).2
  have q235 := (elem_in (own_eqk (Cond.before_iff.mp (hsets _ (List.mem_of_getElem? (i := 252) rfl)))) ev_A (Term.int_eval _) ArA.1).2
  have q236 := (elem_in (own_eqk (Cond.before_iff.mp (hsets _ (List.mem_of_getElem? (i := 253) rfl)))) ev_A (Term.int_eval _) ArA.1).2
  have q237 := (elem_in (own_eqk (Cond.before_iff.mp (hsets _ (List.mem_of_getElem? (i := 254) rfl)))) ev_A (Term.int_eval _) ArA.1).2
  have q238 := (elem_in (own_eqk (Cond.before_iff.mp (hsets _ (List.mem_of_getElem? (i := 255) rfl)))) ev_A (Term.int_eval _) ArA.1).2
  have q239 := (elem_in (own_eqk (Cond.before_iff.mp (hsets _ (List.mem_of_getElem? (i := 256) rfl)))) ev_A (Term.int_eval _) ArA.1).2
  have q240 := (elem_in (own_eqk (Cond.before_iff.mp (hsets _ (List.mem_of_getElem? (i := 257) rfl)))) ev_A (Term.int_eval _) ArA.1).2
  have q241 := (elem_in (own_eqk (Cond.before_iff.mp (hsets _ (List.mem_of_getElem? (i := 258) rfl)))) ev_A (Term.int_eval _) ArA.1).2
  have q242 := (elem_in (own_eqk (Cond.before_iff.mp (hsets _ (List.mem_of_getElem? (i := 259) rfl)))) ev_A (Term.int_eval _) ArA.1).2
  have q243 := (elem_in (own_eqk (Cond.before_iff.mp (hsets _ (List.mem_of_getElem? (i := 260) rfl)))) ev_A (Term.int_eval _) ArA.1).2
  have q244 := (elem_in (own_eqk (Cond.before_iff.mp (hsets _ (List.mem_of_getElem? (i := 261) rfl)))) ev_A (Term.int_eval _) ArA.1).2
  have q245 := (elem_in (own_eqk (Cond.before_iff.mp (hsets _ (List.mem_of_getElem? (i := 262) rfl)))) ev_A (Term.int_eval _) ArA.1).2
  have q246 := (elem_in (own_eqk (Cond.before_iff.mp (hsets _ (List.mem_of_getElem? (i := 263) rfl)))) ev_A (Term.int_eval _) ArA.1).2
  have q247 := (elem_in (own_eqk (Cond.before_iff.mp (hsets _ (List.mem_of_getElem? (i := 264) rfl)))) ev_A (Term.int_eval _) ArA.1).2
  have q248 := (elem_in (own_eqk (Cond.before_iff.mp (hsets _ (List.mem_of_getElem? (i := 265) rfl)))) ev_A (Term.int_eval _) ArA.1).2
  have q249 := (elem_in (own_eqk (Cond.before_iff.mp (hsets _ (List.mem_of_getElem? (i := 266) rfl)))) ev_A (Term.int_eval _) ArA.1).2
  have q250 := (elem_in (own_eqk (Cond.before_iff.mp (hsets _ (List.mem_of_getElem? (i := 267) rfl)))) ev_A (Term.int_eval _) ArA.1).2
  have q251 := (elem_in (own_eqk (Cond.before_iff.mp (hsets _ (List.mem_of_getElem? (i := 268) rfl)))) ev_A (Term.int_eval _) ArA.1).2
  have q252 := (elem_in (own_eqk (Cond.before_iff.mp (hsets _ (List.mem_of_getElem? (i := 269) rfl)))) ev_A (Term.int_eval _) ArA.1).2
  have q253 := (elem_in (own_eqk (Cond.before_iff.mp (hsets _ (List.mem_of_getElem? (i := 270) rfl)))) ev_A (Term.int_eval _) ArA.1).2
  have q254 := (elem_in (own_eqk (Cond.before_iff.mp (hsets _ (List.mem_of_getElem? (i := 271) rfl)))) ev_A (Term.int_eval _) ArA.1).2
  have q255 := (elem_in (own_eqk (Cond.before_iff.mp (hsets _ (List.mem_of_getElem? (i := 272) rfl)))) ev_A (Term.int_eval _) ArA.1).2
  have V_tA : Arv s s.heap tA clA.cls .int (256 : Int32) own_tab (.int (0 : Int32)) := Arv.start hfit ArA szA skA (by decide) rfl ⟨q0, q1, q2, q3, q4, q5, q6, q7, q8, q9, q10, q11, q12, q13, q14, q15, q16, q17, q18, q19, q20, q21, q22, q23, q24, q25, q26, q27, q28, q29, q30, q31, q32, q33, q34, q35, q36, q37, q38, q39, q40, q41, q42, q43, q44, q45, q46, q47, q48, q49, q50, q51, q52, q53, q54, q55, q56, q57, q58, q59, q60, q61, q62, q63, q64, q65, q66, q67, q68, q69, q70, q71, q72, q73, q74, q75, q76, q77, q78, q79, q80, q81, q82, q83, q84, q85, q86, q87, q88, q89, q90, q91, q92, q93, q94, q95, q96, q97, q98, q99, q100, q101, q102, q103, q104, q105, q106, q107, q108, q109, q110, q111, q112, q113, q114, q115, q116, q117, q118, q119, q120, q121, q122, q123, q124, q125, q126, q127, q128, q129, q130, q131, q132, q133, q134, q135, q136, q137, q138, q139, q140, q141, q142, q143, q144, q145, q146, q147, q148, q149, q150, q151, q152, q153, q154, q155, q156, q157, q158, q159, q160, q161, q162, q163, q164, q165, q166, q167, q168, q169, q170, q171, q172, q173, q174, q175, q176, q177, q178, q179, q180, q181, q182, q183, q184, q185, q186, q187, q188, q189, q190, q191, q192, q193, q194, q195, q196, q197, q198, q199, q200, q201, q202, q203, q204, q205, q206, q207, q208, q209, q210, q211, q212, q213, q214, q215, q216, q217, q218, q219, q220, q221, q222, q223, q224, q225, q226, q227, q228, q229, q230, q231, q232, q233, q234, q235, q236, q237, q238, q239, q240, q241, q242, q243, q244, q245, q246, q247, q248, q249, q250, q251, q252, q253, q254, q255, trivial⟩
  obtain ⟨n, o, h1, h2, h3, _, L, rfl, ⟨rfl, N⟩, hq⟩ := rm0 l s _ hw tables_1 i0 i1 i2 i3 i4 cs fv ci tA clA.cls s.heap s.heap.size (Nat.le_refl _) E_ci V_tA (Old.start s) S_COMPACT_STRINGS hcs S_SIOOBE_FORMATTER hfv S_A S_instance hCH hCW hCH2 p e ha hc hk s m _ below hf ((Spec.applies_iff_loose hf).mp happ).1 ⟨rfl, State.Warmed39.refl s, rfl, rfl⟩ trivial
  refine ⟨n, _, h1, h2, h3, hpost _ _ _ _ _ _ ⟨Cond.after_iff.mpr rfl, Cond.after_iff.mpr (eq_i res_at (Term.int_eval (1)) rfl), trivial⟩ ⟨hq.1, hq.2.1, hq.2.2.1, (hq.2.2.2.sift fun y hy => Or.inr (N y hy)).mono (by decide) (by decide)⟩⟩
theorem main_1_1 : Claimed_1_1 := comes_1 fun _ _ _ _ _ _ h hF => ⟨h.1, hF⟩
theorem main_1_2 : Claimed_1_2 := comes_1 fun _ _ _ _ _ _ h hF => ⟨h.2.1, hF⟩
end Jvm.Pilot.@@N@@
namespace Jvm.Pilot.@@N@@
open Jvm Jvm.ClassFile Sem Op Lib Jvm.Free Jvm.Stand Jvm.Pilot.@@N@@.Jvm.D
/-! MADE BY PROGRAM (witnessworld.py) out of the Statement's table words and the real class files: 25 classes; the members and pool entries that the words name. The judged class is class 1, her method 4. -/
namespace start1
open Jvm.ClassFile
def u (s : String) : CpInfo := .utf8 (stringToUtf16 s)
/-- a pool by its gaps: so many unusable entries, then the entry; so many at the end -/
def gap : Nat → List CpInfo → List CpInfo
  | 0, r => r
  | n + 1, r => .unusable :: gap n r
def poolList (es : List (Nat × CpInfo)) (last : Nat) : List CpInfo := es.foldr (fun e r => gap e.1 (e.2 :: r)) (gap last [])
def pool (es : List (Nat × CpInfo)) (last : Nat) : Array CpInfo := ⟨poolList es last⟩
def fileOf (pool : Array CpInfo) (this : Nat) (attrs : Array Attribute := #[]) (ms : Array MethodInfo := #[]) (fl : Nat := 33) (sup : Nat := 0) (ifs : Array Nat := #[]) (fds : Array FieldInfo := #[]) : ClassFile where
  minorVersion := 0
  majorVersion := 65
  constantPool := pool
  accessFlags := fl
  thisClass := this
  superClass := sup
  interfaces := ifs
  fields := fds
  methods := ms
  attributes := attrs
def plain (name : String) (sup : Option ClassId) : Class where
  name := name
  kind := .ordinary
  loader := none
  accessFlags := 33
  super := sup
  interfaces := #[]
  cf := none
  fields := #[]
  methods := #[]
  instanceTypes := #[]
  staticTypes := #[]
  resolved := #[]
  callSites := []
  init := .initialized
  statics := none
  mirror := none

def pool0 : Array CpInfo := pool [(5, u "<init>"), (0, u "()V"), (1, .class_ 10), (1, u "java/lang/Object")] 113

def k0c0 : Code := { maxStack := 0, maxLocals := 1, code := object_method_1_code, exceptionTable := #[], attributes := #[] }
def k0m0 : Method := { name := "<init>", desc := "()V", sig := { parameters := [], returnType := none }, accessFlags := 1, code := some k0c0 }
/-- java/lang/Object -/
def k0 : Class := { plain "java/lang/Object" none with
  accessFlags := 33
  interfaces := #[]
  cf := some (fileOf pool0 8 #[] #[{ accessFlags := 1, nameIndex := 5, descriptorIndex := 6, attributes := #[] }] 33 0 #[] #[])
  fields := #[]
  methods := #[k0m0]
  instanceTypes := #[]
  staticTypes := #[]
  resolved := Array.replicate 124 none
  statics := none }

def pool1 : Array CpInfo := pool [(2, .class_ 4), (1, u "java/lang/Object"), (0, u "<init>"), (0, u "()V"), (0, .methodref 8 9), (0, .class_ 10), (0, .nameAndType 11 12), (0, u "com/example/managed_transactions/managedtransactions/jdbc/SqlTextMayHoldSeveralPinLaw"), (0, u "ws"), (0, u "(C)Z"), (0, .integer 2147483647), (0, .methodref 8 15), (0, .nameAndType 16 17), (0, u "draw"), (0, u "(I)C"), (0, .methodref 8 19), (0, .nameAndType 20 21), (0, u "pair"), (0, u "([CIII)Z"), (0, .class_ 23), (0, u "java/lang/String"), (0, .methodref 22 25), (0, .nameAndType 5 26), (0, u "([C)V"), (0, .methodref 28 29), (0, .class_ 30), (0, .nameAndType 31 32), (0, u "com/example/managed_transactions/managedtransactions/jdbc/SqlText"), (0, u "mayHoldSeveral"), (0, u "(Ljava/lang/String;)Z"), (3, u "law"), (0, u "(IIIII)Z")] 4

def k1m0 : Method := { name := "<init>", desc := "()V", sig := { parameters := [], returnType := none }, accessFlags := 1, code := none }
def k1c1 : Code := { maxStack := 2, maxLocals := 1, code := method_2_code, exceptionTable := #[], attributes := #[] }
def k1m1 : Method := { name := "draw", desc := "(I)C", sig := { parameters := [.int], returnType := some .char }, accessFlags := 10, code := some k1c1 }
def k1c2 : Code := { maxStack := 2, maxLocals := 1, code := method_3_code, exceptionTable := #[], attributes := #[] }
def k1m2 : Method := { name := "ws", desc := "(C)Z", sig := { parameters := [.char], returnType := some .boolean }, accessFlags := 10, code := some k1c2 }
def k1c3 : Code := { maxStack := 2, maxLocals := 4, code := method_4_code, exceptionTable := #[], attributes := #[] }
def k1m3 : Method := { name := "pair", desc := "([CIII)Z", sig := { parameters := [(.array .char), .int, .int, .int], returnType := some .boolean }, accessFlags := 10, code := some k1c3 }
def k1c4 : Code := { maxStack := 4, maxLocals := 13, code := code, exceptionTable := #[], attributes := #[] }
def k1m4 : Method := { name := "law", desc := "(IIIII)Z", sig := { parameters := [.int, .int, .int, .int, .int], returnType := some .boolean }, accessFlags := 9, code := some k1c4 }
/-- com/example/managed_transactions/managedtransactions/jdbc/SqlTextMayHoldSeveralPinLaw -/
def k1 : Class := { plain "com/example/managed_transactions/managedtransactions/jdbc/SqlTextMayHoldSeveralPinLaw" (some 0) with
  accessFlags := 49
  interfaces := #[]
  cf := some (fileOf pool1 8 #[] #[{ accessFlags := 1, nameIndex := 5, descriptorIndex := 6, attributes := #[] }, { accessFlags := 10, nameIndex := 16, descriptorIndex := 17, attributes := #[] }, { accessFlags := 10, nameIndex := 11, descriptorIndex := 12, attributes := #[] }, { accessFlags := 10, nameIndex := 20, descriptorIndex := 21, attributes := #[] }, { accessFlags := 9, nameIndex := 36, descriptorIndex := 37, attributes := #[] }] 49 2 #[] #[])
  fields := #[]
  methods := #[k1m0, k1m1, k1m2, k1m3, k1m4]
  instanceTypes := #[]
  staticTypes := #[]
  resolved := Array.replicate 42 none
  statics := none }

def pool2 : Array CpInfo := pool [(1, .class_ 2), (0, u "java/io/Serializable"), (0, .class_ 4), (0, u "java/lang/Object")] 2

/-- java/io/Serializable -/
def k2 : Class := { plain "java/io/Serializable" (some 0) with
  accessFlags := 1537
  interfaces := #[]
  cf := some (fileOf pool2 1 #[] #[] 1537 3 #[] #[])
  fields := #[]
  methods := #[]
  instanceTypes := #[]
  staticTypes := #[]
  resolved := Array.replicate 7 none
  statics := none }

def pool3 : Array CpInfo := pool [(1, .class_ 2), (0, u "java/lang/Comparable"), (0, .class_ 4), (0, u "java/lang/Object")] 7

/-- java/lang/Comparable -/
def k3 : Class := { plain "java/lang/Comparable" (some 0) with
  accessFlags := 1537
  interfaces := #[]
  cf := some (fileOf pool3 1 #[] #[] 1537 3 #[] #[])
  fields := #[]
  methods := #[]
  instanceTypes := #[]
  staticTypes := #[]
  resolved := Array.replicate 12 none
  statics := none }

def pool4 : Array CpInfo := pool [(2, .class_ 4), (1, u "java/lang/CharSequence"), (42, .class_ 48), (0, u "java/lang/CharSequence$1CodePointIterator"), (10, .class_ 60), (0, u "java/lang/CharSequence$1CharIterator"), (5, .class_ 67), (0, u "java/lang/Object")] 63

/-- java/lang/CharSequence -/
def k4 : Class := { plain "java/lang/CharSequence" (some 0) with
  accessFlags := 1537
  interfaces := #[]
  cf := some (fileOf pool4 2 #[.nestMembers #[47, 59]] #[] 1537 66 #[] #[])
  fields := #[]
  methods := #[]
  instanceTypes := #[]
  staticTypes := #[]
  resolved := Array.replicate 131 none
  statics := none }

def pool5 : Array CpInfo := pool [(1, .class_ 2), (0, u "java/lang/constant/Constable"), (0, .class_ 4), (0, u "java/lang/Object")] 6

/-- java/lang/constant/Constable -/
def k5 : Class := { plain "java/lang/constant/Constable" (some 0) with
  accessFlags := 1537
  interfaces := #[]
  cf := some (fileOf pool5 1 #[] #[] 1537 3 #[] #[])
  fields := #[]
  methods := #[]
  instanceTypes := #[]
  staticTypes := #[]
  resolved := Array.replicate 11 none
  statics := none }

def pool6 : Array CpInfo := pool [(1, .class_ 2), (0, u "java/lang/constant/ConstantDesc"), (0, .class_ 4), (0, u "java/lang/Object")] 32

/-- java/lang/constant/ConstantDesc -/
def k6 : Class := { plain "java/lang/constant/ConstantDesc" (some 0) with
  accessFlags := 1537
  interfaces := #[]
  cf := some (fileOf pool6 1 #[] #[] 1537 3 #[] #[])
  fields := #[]
  methods := #[]
  instanceTypes := #[]
  staticTypes := #[]
  resolved := Array.replicate 37 none
  statics := none }

def pool7 : Array CpInfo := pool [(1, .methodref 2 3), (0, .class_ 4), (0, .nameAndType 5 6), (0, u "java/lang/Object"), (0, u "<init>"), (0, u "()V"), (0, .string 8), (0, u ""), (0, .fieldref 10 11), (0, .class_ 12), (0, .nameAndType 13 14), (0, u "java/lang/String"), (0, u "value"), (0, u "[B"), (0, .fieldref 10 16), (0, .nameAndType 17 18), (0, u "coder"), (0, u "B"), (2, u "hash"), (0, u "I"), (2, u "hashIsZero"), (0, u "Z"), (0, .methodref 10 28), (0, .nameAndType 5 29), (0, u "([CIILjava/lang/Void;)V"), (8, .fieldref 10 39), (0, .nameAndType 40 26), (0, u "COMPACT_STRINGS"), (1, .class_ 44), (1, u "java/lang/StringUTF16"), (0, u "compress"), (1, .methodref 42 48), (0, .nameAndType 49 50), (0, u "coderFromArrayLen"), (0, u "([BI)B"), (56, .class_ 109), (1, u "java/lang/StringLatin1"), (32, u "()Z"), (34, .methodref 42 178), (0, .nameAndType 45 179), (0, u "([CII)[B"), (31, u "([BB)V"), (122, u "()I"), (0, .methodref 10 336), (0, .nameAndType 17 337), (0, u "()B"), (154, .methodref 10 493), (0, .nameAndType 494 142), (0, u "isLatin1"), (10, .methodref 10 506), (0, .nameAndType 507 334), (0, u "length"), (5, u "checkFromToIndex"), (7, .methodref 10 522), (0, .nameAndType 523 524), (0, u "checkBoundsBeginEnd"), (0, u "(III)V"), (50, .class_ 576), (0, u "java/lang/CharSequence"), (22, u "CASE_INSENSITIVE_ORDER"), (0, u "Ljava/util/Comparator;"), (30, u "([B)I"), (1, .methodref 10 634), (0, .nameAndType 635 636), (0, u "indexOf"), (0, u "(II)I"), (0, .methodref 107 638), (0, .nameAndType 635 639), (0, u "([BIII)I"), (41, .methodref 10 682), (0, .nameAndType 683 684), (0, u "substring"), (0, u "(II)Ljava/lang/String;"), (0, .methodref 107 686), (0, .nameAndType 687 688), (0, u "newString"), (0, u "([BII)Ljava/lang/String;"), (76, u "(I)I"), (110, .methodref 10 877), (0, .nameAndType 878 334), (0, u "indexOfNonWhitespace"), (13, u "(I)Ljava/lang/String;"), (31, .methodref 107 925), (0, .nameAndType 878 631), (26, u "isBlank"), (57, u "([C)V"), (42, .fieldref 1054 1055), (0, .class_ 1056), (0, .nameAndType 1057 1058), (0, u "jdk/internal/util/Preconditions"), (0, u "SIOOBE_FORMATTER"), (0, u "Ljava/util/function/BiFunction;"), (3, .methodref 1054 1063), (0, .nameAndType 513 1064), (0, u "(IIILjava/util/function/BiFunction;)I"), (36, u "serialPersistentFields"), (0, u "[Ljava/io/ObjectStreamField;"), (0, .class_ 1104), (0, u "java/lang/String$CaseInsensitiveComparator"), (1, .class_ 1107), (0, u "java/io/Serializable"), (0, .class_ 1109), (0, u "java/lang/Comparable"), (0, .class_ 1111), (0, u "java/lang/constant/Constable"), (0, .class_ 1113), (0, u "java/lang/constant/ConstantDesc"), (2, u "serialVersionUID"), (0, u "J"), (3, u "REPL"), (0, u "C"), (2, u "LATIN1"), (1, u "UTF16")] 323

def k7m0 : Method := { name := "<init>", desc := "()V", sig := { parameters := [], returnType := none }, accessFlags := 1, code := none }
def k7c1 : Code := { maxStack := 5, maxLocals := 2, code := jdk_42_method_3_code, exceptionTable := #[], attributes := #[] }
def k7m1 : Method := { name := "<init>", desc := "([C)V", sig := { parameters := [(.array .char)], returnType := none }, accessFlags := 1, code := some k7c1 }
def k7c2 : Code := { maxStack := 2, maxLocals := 1, code := jdk_42_method_54_code, exceptionTable := #[], attributes := #[] }
def k7m2 : Method := { name := "length", desc := "()I", sig := { parameters := [], returnType := some .int }, accessFlags := 1, code := some k7c2 }
def k7c3 : Code := { maxStack := 3, maxLocals := 2, code := jdk_42_method_79_code, exceptionTable := #[], attributes := #[] }
def k7m3 : Method := { name := "indexOf", desc := "(I)I", sig := { parameters := [.int], returnType := some .int }, accessFlags := 1, code := some k7c3 }
def k7c4 : Code := { maxStack := 4, maxLocals := 3, code := jdk_42_method_80_code, exceptionTable := #[], attributes := #[] }
def k7m4 : Method := { name := "indexOf", desc := "(II)I", sig := { parameters := [.int, .int], returnType := some .int }, accessFlags := 1, code := some k7c4 }
def k7c5 : Code := { maxStack := 3, maxLocals := 2, code := jdk_42_method_91_code, exceptionTable := #[], attributes := #[] }
def k7m5 : Method := { name := "substring", desc := "(I)Ljava/lang/String;", sig := { parameters := [.int], returnType := some (.object "java/lang/String") }, accessFlags := 1, code := some k7c5 }
def k7c6 : Code := { maxStack := 3, maxLocals := 5, code := jdk_42_method_92_code, exceptionTable := #[], attributes := #[] }
def k7m6 : Method := { name := "substring", desc := "(II)Ljava/lang/String;", sig := { parameters := [.int, .int], returnType := some (.object "java/lang/String") }, accessFlags := 1, code := some k7c6 }
def k7c7 : Code := { maxStack := 2, maxLocals := 1, code := jdk_42_method_117_code, exceptionTable := #[], attributes := #[] }
def k7m7 : Method := { name := "isBlank", desc := "()Z", sig := { parameters := [], returnType := some .boolean }, accessFlags := 1, code := some k7c7 }
def k7c8 : Code := { maxStack := 1, maxLocals := 1, code := jdk_42_method_120_code, exceptionTable := #[], attributes := #[] }
def k7m8 : Method := { name := "indexOfNonWhitespace", desc := "()I", sig := { parameters := [], returnType := some .int }, accessFlags := 2, code := some k7c8 }
def k7c9 : Code := { maxStack := 4, maxLocals := 6, code := jdk_42_method_149_code, exceptionTable := #[], attributes := #[] }
def k7m9 : Method := { name := "<init>", desc := "([CIILjava/lang/Void;)V", sig := { parameters := [(.array .char), .int, .int, (.object "java/lang/Void")], returnType := none }, accessFlags := 2, code := some k7c9 }
def k7c10 : Code := { maxStack := 2, maxLocals := 3, code := jdk_42_method_151_code, exceptionTable := #[], attributes := #[] }
def k7m10 : Method := { name := "<init>", desc := "([BB)V", sig := { parameters := [(.array .byte), .byte], returnType := none }, accessFlags := 0, code := some k7c10 }
def k7c11 : Code := { maxStack := 1, maxLocals := 1, code := jdk_42_method_152_code, exceptionTable := #[], attributes := #[] }
def k7m11 : Method := { name := "coder", desc := "()B", sig := { parameters := [], returnType := some .byte }, accessFlags := 0, code := some k7c11 }
def k7c12 : Code := { maxStack := 1, maxLocals := 1, code := jdk_42_method_154_code, exceptionTable := #[], attributes := #[] }
def k7m12 : Method := { name := "isLatin1", desc := "()Z", sig := { parameters := [], returnType := some .boolean }, accessFlags := 0, code := some k7c12 }
def k7c13 : Code := { maxStack := 4, maxLocals := 3, code := jdk_42_method_158_code, exceptionTable := #[], attributes := #[] }
def k7m13 : Method := { name := "checkBoundsBeginEnd", desc := "(III)V", sig := { parameters := [.int, .int, .int], returnType := none }, accessFlags := 8, code := some k7c13 }
/-- java/lang/String -/
def k7 : Class := { plain "java/lang/String" (some 0) with
  accessFlags := 49
  interfaces := #[2, 3, 4, 5, 6]
  cf := some (fileOf pool7 10 #[.nestMembers #[1103]] #[{ accessFlags := 1, nameIndex := 5, descriptorIndex := 6, attributes := #[] }, { accessFlags := 1, nameIndex := 5, descriptorIndex := 1010, attributes := #[] }, { accessFlags := 1, nameIndex := 507, descriptorIndex := 334, attributes := #[] }, { accessFlags := 1, nameIndex := 635, descriptorIndex := 765, attributes := #[] }, { accessFlags := 1, nameIndex := 635, descriptorIndex := 636, attributes := #[] }, { accessFlags := 1, nameIndex := 683, descriptorIndex := 892, attributes := #[] }, { accessFlags := 1, nameIndex := 683, descriptorIndex := 684, attributes := #[] }, { accessFlags := 1, nameIndex := 952, descriptorIndex := 142, attributes := #[] }, { accessFlags := 2, nameIndex := 878, descriptorIndex := 334, attributes := #[] }, { accessFlags := 2, nameIndex := 5, descriptorIndex := 29, attributes := #[] }, { accessFlags := 0, nameIndex := 5, descriptorIndex := 211, attributes := #[] }, { accessFlags := 0, nameIndex := 17, descriptorIndex := 337, attributes := #[] }, { accessFlags := 0, nameIndex := 494, descriptorIndex := 142, attributes := #[] }, { accessFlags := 8, nameIndex := 523, descriptorIndex := 524, attributes := #[] }] 49 2 #[1106, 1108, 575, 1110, 1112] #[{ accessFlags := 18, nameIndex := 13, descriptorIndex := 14, attributes := #[] }, { accessFlags := 18, nameIndex := 17, descriptorIndex := 18, attributes := #[] }, { accessFlags := 2, nameIndex := 21, descriptorIndex := 22, attributes := #[] }, { accessFlags := 2, nameIndex := 25, descriptorIndex := 26, attributes := #[] }, { accessFlags := 26, nameIndex := 1116, descriptorIndex := 1117, attributes := #[] }, { accessFlags := 24, nameIndex := 40, descriptorIndex := 26, attributes := #[] }, { accessFlags := 26, nameIndex := 1101, descriptorIndex := 1102, attributes := #[] }, { accessFlags := 26, nameIndex := 1121, descriptorIndex := 1122, attributes := #[] }, { accessFlags := 25, nameIndex := 599, descriptorIndex := 600, attributes := #[] }, { accessFlags := 24, nameIndex := 1125, descriptorIndex := 18, attributes := #[] }, { accessFlags := 24, nameIndex := 1127, descriptorIndex := 18, attributes := #[] }])
  fields := #[{ name := "value", type := (.array .byte), accessFlags := 18, slot := 0, constantValue := 0 }, { name := "coder", type := .byte, accessFlags := 18, slot := 1, constantValue := 0 }, { name := "hash", type := .int, accessFlags := 2, slot := 2, constantValue := 0 }, { name := "hashIsZero", type := .boolean, accessFlags := 2, slot := 3, constantValue := 0 }, { name := "serialVersionUID", type := .long, accessFlags := 26, slot := 0, constantValue := 0 }, { name := "COMPACT_STRINGS", type := .boolean, accessFlags := 24, slot := 1, constantValue := 0 }, { name := "serialPersistentFields", type := (.array (.object "java/io/ObjectStreamField")), accessFlags := 26, slot := 2, constantValue := 0 }, { name := "REPL", type := .char, accessFlags := 26, slot := 3, constantValue := 0 }, { name := "CASE_INSENSITIVE_ORDER", type := (.object "java/util/Comparator"), accessFlags := 25, slot := 4, constantValue := 0 }, { name := "LATIN1", type := .byte, accessFlags := 24, slot := 5, constantValue := 0 }, { name := "UTF16", type := .byte, accessFlags := 24, slot := 6, constantValue := 0 }]
  methods := #[k7m0, k7m1, k7m2, k7m3, k7m4, k7m5, k7m6, k7m7, k7m8, k7m9, k7m10, k7m11, k7m12, k7m13]
  instanceTypes := #[(.array .byte), .byte, .int, .boolean]
  staticTypes := #[.long, .boolean, (.array (.object "java/io/ObjectStreamField")), .char, (.object "java/util/Comparator"), .byte, .byte]
  resolved := Array.replicate 1451 none
  statics := some 0 }

def pool8 : Array CpInfo := pool [(2, .class_ 4), (1, u "java/lang/Object"), (3, .class_ 10), (1, u "com/example/managed_transactions/managedtransactions/jdbc/SqlText"), (0, u "firstStatement"), (0, u "I"), (2, u "sql"), (0, u "Ljava/lang/String;"), (2, u "lexing"), (0, u "Lcom/example/managed_transactions/managedtransactions/jdbc/SqlText$Lexing;"), (24, u "(I)I"), (12, u "AUTOCOMMIT"), (0, u "Ljava/util/List;"), (9, .class_ 71), (1, u "com/example/managed_transactions/managedtransactions/jdbc/SqlText$Assignments"), (1, u "()Z"), (2, u "mayHoldSeveral"), (0, u "(Ljava/lang/String;)Z"), (6, u "prefixSetsCharacteristics"), (0, u "Z"), (10, u "CHARACTERISTICS"), (6, u "IN_TRANSACTION"), (3, .class_ 109), (1, u "java/lang/String"), (4, u "RUNNING_OTHERS"), (0, .methodref 107 116), (0, .nameAndType 117 45), (0, u "indexOf"), (0, .methodref 107 119), (0, .nameAndType 120 121), (0, u "substring"), (0, u "(I)Ljava/lang/String;"), (0, .methodref 107 123), (0, .nameAndType 124 73), (0, u "isBlank"), (2, u "ROLLING_BACK"), (6, u "ENDING_SAVEPOINTS"), (58, .class_ 195), (1, u "com/example/managed_transactions/managedtransactions/jdbc/SqlText$Lexing"), (28, .class_ 226), (1, u "com/example/managed_transactions/managedtransactions/jdbc/SqlText$QuotedName"), (106, u "runComments"), (0, u "Ljava/util/NavigableMap;")] 123

def k8c0 : Code := { maxStack := 3, maxLocals := 2, code := prog_4_method_8_code, exceptionTable := #[], attributes := #[] }
def k8m0 : Method := { name := "mayHoldSeveral", desc := "(Ljava/lang/String;)Z", sig := { parameters := [(.object "java/lang/String")], returnType := some .boolean }, accessFlags := 8, code := some k8c0 }
/-- com/example/managed_transactions/managedtransactions/jdbc/SqlText -/
def k8 : Class := { plain "com/example/managed_transactions/managedtransactions/jdbc/SqlText" (some 0) with
  accessFlags := 48
  interfaces := #[]
  cf := some (fileOf pool8 8 #[.nestMembers #[224, 69, 193]] #[{ accessFlags := 8, nameIndex := 76, descriptorIndex := 77, attributes := #[] }] 48 2 #[] #[{ accessFlags := 26, nameIndex := 96, descriptorIndex := 59, attributes := #[] }, { accessFlags := 26, nameIndex := 103, descriptorIndex := 59, attributes := #[] }, { accessFlags := 26, nameIndex := 114, descriptorIndex := 59, attributes := #[] }, { accessFlags := 26, nameIndex := 58, descriptorIndex := 59, attributes := #[] }, { accessFlags := 26, nameIndex := 127, descriptorIndex := 59, attributes := #[] }, { accessFlags := 26, nameIndex := 134, descriptorIndex := 59, attributes := #[] }, { accessFlags := 18, nameIndex := 15, descriptorIndex := 16, attributes := #[] }, { accessFlags := 18, nameIndex := 19, descriptorIndex := 20, attributes := #[] }, { accessFlags := 2, nameIndex := 333, descriptorIndex := 334, attributes := #[] }, { accessFlags := 2, nameIndex := 11, descriptorIndex := 12, attributes := #[] }, { accessFlags := 2, nameIndex := 84, descriptorIndex := 85, attributes := #[] }])
  fields := #[{ name := "CHARACTERISTICS", type := (.object "java/util/List"), accessFlags := 26, slot := 0, constantValue := 0 }, { name := "IN_TRANSACTION", type := (.object "java/util/List"), accessFlags := 26, slot := 1, constantValue := 0 }, { name := "RUNNING_OTHERS", type := (.object "java/util/List"), accessFlags := 26, slot := 2, constantValue := 0 }, { name := "AUTOCOMMIT", type := (.object "java/util/List"), accessFlags := 26, slot := 3, constantValue := 0 }, { name := "ROLLING_BACK", type := (.object "java/util/List"), accessFlags := 26, slot := 4, constantValue := 0 }, { name := "ENDING_SAVEPOINTS", type := (.object "java/util/List"), accessFlags := 26, slot := 5, constantValue := 0 }, { name := "sql", type := (.object "java/lang/String"), accessFlags := 18, slot := 0, constantValue := 0 }, { name := "lexing", type := (.object "com/example/managed_transactions/managedtransactions/jdbc/SqlText$Lexing"), accessFlags := 18, slot := 1, constantValue := 0 }, { name := "runComments", type := (.object "java/util/NavigableMap"), accessFlags := 2, slot := 2, constantValue := 0 }, { name := "firstStatement", type := .int, accessFlags := 2, slot := 3, constantValue := 0 }, { name := "prefixSetsCharacteristics", type := .boolean, accessFlags := 2, slot := 4, constantValue := 0 }]
  methods := #[k8m0]
  instanceTypes := #[(.object "java/lang/String"), (.object "com/example/managed_transactions/managedtransactions/jdbc/SqlText$Lexing"), (.object "java/util/NavigableMap"), .int, .boolean]
  staticTypes := #[(.object "java/util/List"), (.object "java/util/List"), (.object "java/util/List"), (.object "java/util/List"), (.object "java/util/List"), (.object "java/util/List")]
  resolved := Array.replicate 458 none
  statics := none }

def pool9 : Array CpInfo := pool [(1, .class_ 2), (0, u "java/lang/String"), (1, .class_ 6), (1, u "java/lang/Object"), (0, u "<init>"), (0, u "()V"), (5, .class_ 16), (1, u "java/lang/StringLatin1"), (21, .methodref 39 40), (0, .class_ 41), (0, .nameAndType 42 43), (0, u "java/lang/Math"), (0, u "min"), (0, u "(II)I"), (6, .methodref 14 51), (0, .nameAndType 52 53), (0, u "getChar"), (0, u "([BI)C"), (3, u "([B)I"), (8, .fieldref 67 68), (0, .class_ 69), (0, .nameAndType 70 71), (0, u "java/lang/CharacterDataLatin1"), (0, u "instance"), (0, u "Ljava/lang/CharacterDataLatin1;"), (16, .methodref 14 89), (0, .nameAndType 90 91), (0, u "canEncode"), (0, u "(I)Z"), (0, .methodref 39 93), (0, .nameAndType 94 43), (0, u "max"), (0, .methodref 14 96), (0, .nameAndType 97 98), (0, u "indexOfChar"), (0, u "([BIII)I"), (2, u "indexOf"), (10, .methodref 1 113), (0, .nameAndType 7 114), (0, u "([BB)V"), (6, u "$assertionsDisabled"), (0, u "Z"), (8, .class_ 133), (1, u "java/util/Arrays"), (17, .string 152), (0, u ""), (43, u "newString"), (0, u "([BII)Ljava/lang/String;"), (13, .methodref 67 212), (0, .nameAndType 213 91), (0, u "isWhitespace"), (2, u "indexOfNonWhitespace"), (4, .class_ 223), (1, u "java/lang/StringLatin1$LinesSpliterator"), (8, .methodref 131 233), (0, .nameAndType 234 235), (0, u "copyOfRange"), (0, u "([BII)[B"), (154, .class_ 391), (0, u "java/lang/StringLatin1$CharsSpliterator")] 3

def k9m0 : Method := { name := "<init>", desc := "()V", sig := { parameters := [], returnType := none }, accessFlags := 0, code := none }
def k9c1 : Code := { maxStack := 2, maxLocals := 1, code := jdk_43_method_4_code, exceptionTable := #[], attributes := #[] }
def k9m1 : Method := { name := "canEncode", desc := "(I)Z", sig := { parameters := [.int], returnType := some .boolean }, accessFlags := 9, code := some k9c1 }
def k9c2 : Code := { maxStack := 4, maxLocals := 4, code := jdk_43_method_22_code, exceptionTable := #[], attributes := #[] }
def k9m2 : Method := { name := "indexOf", desc := "([BIII)I", sig := { parameters := [(.array .byte), .int, .int, .int], returnType := some .int }, accessFlags := 9, code := some k9c2 }
def k9c3 : Code := { maxStack := 2, maxLocals := 6, code := jdk_43_method_23_code, exceptionTable := #[], attributes := #[] }
def k9m3 : Method := { name := "indexOfChar", desc := "([BIII)I", sig := { parameters := [(.array .byte), .int, .int, .int], returnType := some .int }, accessFlags := 10, code := some k9c3 }
def k9c4 : Code := { maxStack := 2, maxLocals := 4, code := jdk_43_method_37_code, exceptionTable := #[], attributes := #[] }
def k9m4 : Method := { name := "indexOfNonWhitespace", desc := "([B)I", sig := { parameters := [(.array .byte)], returnType := some .int }, accessFlags := 9, code := some k9c4 }
def k9c5 : Code := { maxStack := 2, maxLocals := 2, code := jdk_43_method_44_code, exceptionTable := #[], attributes := #[] }
def k9m5 : Method := { name := "getChar", desc := "([BI)C", sig := { parameters := [(.array .byte), .int], returnType := some .char }, accessFlags := 9, code := some k9c5 }
def k9c6 : Code := { maxStack := 6, maxLocals := 3, code := jdk_43_method_47_code, exceptionTable := #[], attributes := #[] }
def k9m6 : Method := { name := "newString", desc := "([BII)Ljava/lang/String;", sig := { parameters := [(.array .byte), .int, .int], returnType := some (.object "java/lang/String") }, accessFlags := 9, code := some k9c6 }
/-- java/lang/StringLatin1 -/
def k9 : Class := { plain "java/lang/StringLatin1" (some 0) with
  accessFlags := 48
  interfaces := #[]
  cf := some (fileOf pool9 14 #[.nestMembers #[390, 221]] #[{ accessFlags := 0, nameIndex := 7, descriptorIndex := 8, attributes := #[] }, { accessFlags := 9, nameIndex := 90, descriptorIndex := 91, attributes := #[] }, { accessFlags := 9, nameIndex := 101, descriptorIndex := 98, attributes := #[] }, { accessFlags := 10, nameIndex := 97, descriptorIndex := 98, attributes := #[] }, { accessFlags := 9, nameIndex := 216, descriptorIndex := 57, attributes := #[] }, { accessFlags := 9, nameIndex := 52, descriptorIndex := 53, attributes := #[] }, { accessFlags := 9, nameIndex := 196, descriptorIndex := 197, attributes := #[] }] 48 4 #[] #[{ accessFlags := 4120, nameIndex := 121, descriptorIndex := 122, attributes := #[] }])
  fields := #[{ name := "$assertionsDisabled", type := .boolean, accessFlags := 4120, slot := 0, constantValue := 0 }]
  methods := #[k9m0, k9m1, k9m2, k9m3, k9m4, k9m5, k9m6]
  instanceTypes := #[]
  staticTypes := #[.boolean]
  resolved := Array.replicate 395 none
  statics := none }

def pool10 : Array CpInfo := pool [(1, .class_ 2), (0, u "java/lang/Math"), (1, .class_ 6), (1, u "java/lang/Object"), (0, u "<init>"), (0, u "()V"), (89, .class_ 100), (1, u "java/lang/Math$RandomNumberGeneratorHolder"), (71, u "negativeZeroFloatBits"), (0, u "J"), (2, u "negativeZeroDoubleBits"), (21, u "max"), (2, u "min"), (43, u "$assertionsDisabled"), (0, u "Z"), (88, u "(II)I"), (2, u "twoToTheDoubleScaleDown"), (0, u "D"), (4, u "twoToTheDoubleScaleUp"), (9, u "E"), (3, u "PI"), (2, u "TAU"), (2, u "DEGREES_TO_RADIANS"), (0, u "RADIANS_TO_DEGREES")] 94

def k10m0 : Method := { name := "<init>", desc := "()V", sig := { parameters := [], returnType := none }, accessFlags := 2, code := none }
def k10c1 : Code := { maxStack := 2, maxLocals := 2, code := jdk_29_method_65_code, exceptionTable := #[], attributes := #[] }
def k10m1 : Method := { name := "max", desc := "(II)I", sig := { parameters := [.int, .int], returnType := some .int }, accessFlags := 9, code := some k10c1 }
def k10c2 : Code := { maxStack := 2, maxLocals := 2, code := jdk_29_method_69_code, exceptionTable := #[], attributes := #[] }
def k10m2 : Method := { name := "min", desc := "(II)I", sig := { parameters := [.int, .int], returnType := some .int }, accessFlags := 9, code := some k10c2 }
/-- java/lang/Math -/
def k10 : Class := { plain "java/lang/Math" (some 0) with
  accessFlags := 49
  interfaces := #[]
  cf := some (fileOf pool10 1 #[.nestMembers #[98]] #[{ accessFlags := 2, nameIndex := 7, descriptorIndex := 8, attributes := #[] }, { accessFlags := 9, nameIndex := 198, descriptorIndex := 335, attributes := #[] }, { accessFlags := 9, nameIndex := 201, descriptorIndex := 335, attributes := #[] }] 49 4 #[] #[{ accessFlags := 25, nameIndex := 354, descriptorIndex := 339, attributes := #[] }, { accessFlags := 25, nameIndex := 358, descriptorIndex := 339, attributes := #[] }, { accessFlags := 25, nameIndex := 361, descriptorIndex := 339, attributes := #[] }, { accessFlags := 26, nameIndex := 364, descriptorIndex := 339, attributes := #[] }, { accessFlags := 26, nameIndex := 365, descriptorIndex := 339, attributes := #[] }, { accessFlags := 26, nameIndex := 172, descriptorIndex := 173, attributes := #[] }, { accessFlags := 26, nameIndex := 176, descriptorIndex := 173, attributes := #[] }, { accessFlags := 8, nameIndex := 344, descriptorIndex := 339, attributes := #[] }, { accessFlags := 8, nameIndex := 338, descriptorIndex := 339, attributes := #[] }, { accessFlags := 4120, nameIndex := 245, descriptorIndex := 246, attributes := #[] }])
  fields := #[{ name := "E", type := .double, accessFlags := 25, slot := 0, constantValue := 0 }, { name := "PI", type := .double, accessFlags := 25, slot := 1, constantValue := 0 }, { name := "TAU", type := .double, accessFlags := 25, slot := 2, constantValue := 0 }, { name := "DEGREES_TO_RADIANS", type := .double, accessFlags := 26, slot := 3, constantValue := 0 }, { name := "RADIANS_TO_DEGREES", type := .double, accessFlags := 26, slot := 4, constantValue := 0 }, { name := "negativeZeroFloatBits", type := .long, accessFlags := 26, slot := 5, constantValue := 0 }, { name := "negativeZeroDoubleBits", type := .long, accessFlags := 26, slot := 6, constantValue := 0 }, { name := "twoToTheDoubleScaleUp", type := .double, accessFlags := 8, slot := 7, constantValue := 0 }, { name := "twoToTheDoubleScaleDown", type := .double, accessFlags := 8, slot := 8, constantValue := 0 }, { name := "$assertionsDisabled", type := .boolean, accessFlags := 4120, slot := 9, constantValue := 0 }]
  methods := #[k10m0, k10m1, k10m2]
  instanceTypes := #[]
  staticTypes := #[.double, .double, .double, .double, .double, .long, .long, .double, .double, .boolean]
  resolved := Array.replicate 460 none
  statics := none }

def pool11 : Array CpInfo := pool [(6, .class_ 8), (1, u "java/lang/Object"), (0, u "<init>"), (0, u "()V"), (1, .class_ 14), (1, u "java/lang/StringUTF16"), (31, u "$assertionsDisabled"), (0, u "Z"), (13, u "HI_BYTE_SHIFT"), (0, u "I"), (2, u "LO_BYTE_SHIFT"), (49, .methodref 12 116), (0, .nameAndType 117 118), (0, u "compress"), (0, u "([CI[BII)I"), (3, u "([CII)[B"), (138, u "coderFromArrayLen"), (0, u "([BI)B"), (106, .class_ 371), (1, u "java/lang/StringUTF16$LinesSpliterator"), (58, u "MAX_LENGTH"), (196, .class_ 628), (0, u "java/lang/StringUTF16$CodePointsSpliterator"), (0, .class_ 630), (0, u "java/lang/StringUTF16$CharsSpliterator")] 4

def k11m0 : Method := { name := "<init>", desc := "()V", sig := { parameters := [], returnType := none }, accessFlags := 0, code := none }
def k11c1 : Code := { maxStack := 2, maxLocals := 2, code := jdk_52_method_15_code, exceptionTable := #[], attributes := #[] }
def k11m1 : Method := { name := "coderFromArrayLen", desc := "([BI)B", sig := { parameters := [(.array .byte), .int], returnType := some .byte }, accessFlags := 8, code := some k11c1 }
def k11c2 : Code := { maxStack := 5, maxLocals := 6, code := jdk_52_method_16_code, exceptionTable := #[], attributes := #[] }
def k11m2 : Method := { name := "compress", desc := "([CII)[B", sig := { parameters := [(.array .char), .int, .int], returnType := some (.array .byte) }, accessFlags := 9, code := some k11c2 }
def k11c3 : Code := { maxStack := 3, maxLocals := 7, code := jdk_52_method_21_code, exceptionTable := #[], attributes := #[] }
def k11m3 : Method := { name := "compress", desc := "([CI[BII)I", sig := { parameters := [(.array .char), .int, (.array .byte), .int, .int], returnType := some .int }, accessFlags := 9, code := some k11c3 }
/-- java/lang/StringUTF16 -/
def k11 : Class := { plain "java/lang/StringUTF16" (some 0) with
  accessFlags := 48
  interfaces := #[]
  cf := some (fileOf pool11 12 #[.nestMembers #[627, 629, 369]] #[{ accessFlags := 0, nameIndex := 9, descriptorIndex := 10, attributes := #[] }, { accessFlags := 8, nameIndex := 261, descriptorIndex := 262, attributes := #[] }, { accessFlags := 9, nameIndex := 117, descriptorIndex := 122, attributes := #[] }, { accessFlags := 9, nameIndex := 117, descriptorIndex := 118, attributes := #[] }] 48 6 #[] #[{ accessFlags := 26, nameIndex := 61, descriptorIndex := 62, attributes := #[] }, { accessFlags := 26, nameIndex := 65, descriptorIndex := 62, attributes := #[] }, { accessFlags := 24, nameIndex := 430, descriptorIndex := 62, attributes := #[] }, { accessFlags := 4120, nameIndex := 46, descriptorIndex := 47, attributes := #[] }])
  fields := #[{ name := "HI_BYTE_SHIFT", type := .int, accessFlags := 26, slot := 0, constantValue := 0 }, { name := "LO_BYTE_SHIFT", type := .int, accessFlags := 26, slot := 1, constantValue := 0 }, { name := "MAX_LENGTH", type := .int, accessFlags := 24, slot := 2, constantValue := 0 }, { name := "$assertionsDisabled", type := .boolean, accessFlags := 4120, slot := 3, constantValue := 0 }]
  methods := #[k11m0, k11m1, k11m2, k11m3]
  instanceTypes := #[]
  staticTypes := #[.int, .int, .int, .boolean]
  resolved := Array.replicate 635 none
  statics := none }

def pool12 : Array CpInfo := pool [(2, .class_ 4), (1, u "java/lang/Object"), (0, u "<init>"), (0, u "()V"), (17, .class_ 26), (1, u "jdk/internal/util/Preconditions"), (20, u "checkFromToIndex"), (7, .class_ 56), (0, u "jdk/internal/util/Preconditions$4"), (57, .class_ 115), (0, u "jdk/internal/util/Preconditions$1"), (7, u "SIOOBE_FORMATTER"), (0, u "Ljava/util/function/BiFunction;"), (0, .class_ 126), (0, u "jdk/internal/util/Preconditions$2"), (3, u "AIOOBE_FORMATTER"), (0, .class_ 132), (0, u "jdk/internal/util/Preconditions$3"), (3, u "IOOBE_FORMATTER"), (46, u "(IIILjava/util/function/BiFunction;)I")] 10

def k12m0 : Method := { name := "<init>", desc := "()V", sig := { parameters := [], returnType := none }, accessFlags := 1, code := none }
def k12c1 : Code := { maxStack := 4, maxLocals := 4, code := jdk_41_method_12_code, exceptionTable := #[], attributes := #[] }
def k12m1 : Method := { name := "checkFromToIndex", desc := "(IIILjava/util/function/BiFunction;)I", sig := { parameters := [.int, .int, .int, (.object "java/util/function/BiFunction")], returnType := some .int }, accessFlags := 9, code := some k12c1 }
/-- jdk/internal/util/Preconditions -/
def k12 : Class := { plain "jdk/internal/util/Preconditions" (some 0) with
  accessFlags := 33
  interfaces := #[]
  cf := some (fileOf pool12 24 #[.nestMembers #[55, 131, 125, 114]] #[{ accessFlags := 1, nameIndex := 5, descriptorIndex := 6, attributes := #[] }, { accessFlags := 9, nameIndex := 47, descriptorIndex := 183, attributes := #[] }] 33 2 #[] #[{ accessFlags := 25, nameIndex := 123, descriptorIndex := 124, attributes := #[] }, { accessFlags := 25, nameIndex := 130, descriptorIndex := 124, attributes := #[] }, { accessFlags := 25, nameIndex := 136, descriptorIndex := 124, attributes := #[] }])
  fields := #[{ name := "SIOOBE_FORMATTER", type := (.object "java/util/function/BiFunction"), accessFlags := 25, slot := 0, constantValue := 0 }, { name := "AIOOBE_FORMATTER", type := (.object "java/util/function/BiFunction"), accessFlags := 25, slot := 1, constantValue := 0 }, { name := "IOOBE_FORMATTER", type := (.object "java/util/function/BiFunction"), accessFlags := 25, slot := 2, constantValue := 0 }]
  methods := #[k12m0, k12m1]
  instanceTypes := #[]
  staticTypes := #[(.object "java/util/function/BiFunction"), (.object "java/util/function/BiFunction"), (.object "java/util/function/BiFunction")]
  resolved := Array.replicate 194 none
  statics := some 1 }

def pool13 : Array CpInfo := pool [(2, .class_ 4), (1, u "java/lang/Object"), (0, u "<init>"), (0, u "()V"), (7, .class_ 16), (1, u "java/util/Arrays"), (57, .class_ 76), (1, u "java/util/Arrays$NaturalOrder"), (36, .class_ 115), (1, u "java/util/Arrays$LegacyMergeSort"), (1, u "Z"), (21, u "copyOfRange"), (10, .methodref 151 152), (0, .class_ 153), (0, .nameAndType 154 155), (0, u "java/lang/System"), (0, u "arraycopy"), (0, u "(Ljava/lang/Object;ILjava/lang/Object;II)V"), (148, .methodref 305 306), (0, .class_ 307), (0, .nameAndType 308 309), (0, u "java/lang/Math"), (0, u "min"), (0, u "(II)I"), (29, .methodref 14 340), (0, .nameAndType 341 342), (0, u "copyOfRangeByte"), (0, u "([BII)[B"), (0, .methodref 14 344), (0, .nameAndType 345 346), (0, u "checkLength"), (0, u "(II)V"), (28, .class_ 376), (0, u "java/util/Arrays$ArrayList"), (68, u "$assertionsDisabled"), (269, u "MIN_ARRAY_SORT_GRAN"), (0, u "I"), (2, u "INSERTIONSORT_THRESHOLD"), (255, .class_ 976), (0, u "java/util/Arrays$ArrayItr")] 52

def k13m0 : Method := { name := "<init>", desc := "()V", sig := { parameters := [], returnType := none }, accessFlags := 2, code := none }
def k13c1 : Code := { maxStack := 4, maxLocals := 2, code := jdk_65_method_131_code, exceptionTable := #[], attributes := #[] }
def k13m1 : Method := { name := "checkLength", desc := "(II)V", sig := { parameters := [.int, .int], returnType := none }, accessFlags := 10, code := some k13c1 }
def k13c2 : Code := { maxStack := 3, maxLocals := 3, code := jdk_65_method_132_code, exceptionTable := #[], attributes := #[] }
def k13m2 : Method := { name := "copyOfRange", desc := "([BII)[B", sig := { parameters := [(.array .byte), .int, .int], returnType := some (.array .byte) }, accessFlags := 9, code := some k13c2 }
def k13c3 : Code := { maxStack := 6, maxLocals := 5, code := jdk_65_method_133_code, exceptionTable := #[], attributes := #[] }
def k13m3 : Method := { name := "copyOfRangeByte", desc := "([BII)[B", sig := { parameters := [(.array .byte), .int, .int], returnType := some (.array .byte) }, accessFlags := 10, code := some k13c3 }
/-- java/util/Arrays -/
def k13 : Class := { plain "java/util/Arrays" (some 0) with
  accessFlags := 49
  interfaces := #[]
  cf := some (fileOf pool13 14 #[.nestMembers #[975, 375, 113, 74]] #[{ accessFlags := 2, nameIndex := 5, descriptorIndex := 6, attributes := #[] }, { accessFlags := 10, nameIndex := 345, descriptorIndex := 346, attributes := #[] }, { accessFlags := 9, nameIndex := 139, descriptorIndex := 342, attributes := #[] }, { accessFlags := 10, nameIndex := 341, descriptorIndex := 342, attributes := #[] }] 49 2 #[] #[{ accessFlags := 26, nameIndex := 715, descriptorIndex := 716, attributes := #[] }, { accessFlags := 26, nameIndex := 719, descriptorIndex := 716, attributes := #[] }, { accessFlags := 4120, nameIndex := 445, descriptorIndex := 117, attributes := #[] }])
  fields := #[{ name := "MIN_ARRAY_SORT_GRAN", type := .int, accessFlags := 26, slot := 0, constantValue := 0 }, { name := "INSERTIONSORT_THRESHOLD", type := .int, accessFlags := 26, slot := 1, constantValue := 0 }, { name := "$assertionsDisabled", type := .boolean, accessFlags := 4120, slot := 2, constantValue := 0 }]
  methods := #[k13m0, k13m1, k13m2, k13m3]
  instanceTypes := #[]
  staticTypes := #[.int, .int, .boolean]
  resolved := Array.replicate 1029 none
  statics := none }

def pool14 : Array CpInfo := pool [(2, .class_ 4), (1, u "java/lang/Object"), (0, u "<init>"), (0, u "()V"), (1, .class_ 10), (1, u "java/lang/System"), (0, u "allowSecurityManager"), (0, u "I"), (16, u "cons"), (0, u "Ljava/io/Console;"), (77, .class_ 110), (1, u "java/lang/System$CallersHolder"), (43, u "initialErrStream"), (0, u "Ljava/io/PrintStream;"), (19, u "security"), (0, u "Ljava/lang/SecurityManager;"), (31, .class_ 209), (0, u "java/lang/System$1"), (7, u "props"), (0, u "Ljava/util/Properties;"), (2, u "lineSeparator"), (0, u "Ljava/lang/String;"), (96, .class_ 321), (1, u "java/lang/System$LoggerFinder"), (5, .class_ 328), (0, u "java/lang/System$Logger"), (67, u "err"), (2, u "out"), (91, u "notSupportedJnuEncoding"), (15, u "in"), (17, u "initialIn"), (0, u "Ljava/io/InputStream;"), (35, u "bootLayer"), (0, u "Ljava/lang/ModuleLayer;"), (99, .class_ 664), (0, u "java/lang/System$2"), (9, u "NEVER"), (2, u "MAYBE"), (49, u "arraycopy"), (0, u "(Ljava/lang/Object;ILjava/lang/Object;II)V"), (72, .class_ 802), (0, u "java/lang/System$Logger$Level")] 31

def k14m0 : Method := { name := "<init>", desc := "()V", sig := { parameters := [], returnType := none }, accessFlags := 2, code := none }
def k14m1 : Method := { name := "arraycopy", desc := "(Ljava/lang/Object;ILjava/lang/Object;II)V", sig := { parameters := [(.object "java/lang/Object"), .int, (.object "java/lang/Object"), .int, .int], returnType := none }, accessFlags := 265, code := none }
/-- java/lang/System -/
def k14 : Class := { plain "java/lang/System" (some 0) with
  accessFlags := 49
  interfaces := #[]
  cf := some (fileOf pool14 8 #[.nestMembers #[319, 327, 801, 108, 663, 208]] #[{ accessFlags := 2, nameIndex := 5, descriptorIndex := 6, attributes := #[] }, { accessFlags := 265, nameIndex := 727, descriptorIndex := 728, attributes := #[] }] 49 2 #[] #[{ accessFlags := 25, nameIndex := 507, descriptorIndex := 526, attributes := #[] }, { accessFlags := 25, nameIndex := 399, descriptorIndex := 155, attributes := #[] }, { accessFlags := 25, nameIndex := 396, descriptorIndex := 155, attributes := #[] }, { accessFlags := 10, nameIndex := 525, descriptorIndex := 526, attributes := #[] }, { accessFlags := 26, nameIndex := 674, descriptorIndex := 12, attributes := #[] }, { accessFlags := 26, nameIndex := 677, descriptorIndex := 12, attributes := #[] }, { accessFlags := 10, nameIndex := 11, descriptorIndex := 12, attributes := #[] }, { accessFlags := 74, nameIndex := 175, descriptorIndex := 176, attributes := #[] }, { accessFlags := 10, nameIndex := 491, descriptorIndex := 222, attributes := #[] }, { accessFlags := 74, nameIndex := 29, descriptorIndex := 30, attributes := #[] }, { accessFlags := 74, nameIndex := 154, descriptorIndex := 155, attributes := #[] }, { accessFlags := 10, nameIndex := 217, descriptorIndex := 218, attributes := #[] }, { accessFlags := 10, nameIndex := 221, descriptorIndex := 222, attributes := #[] }, { accessFlags := 8, nameIndex := 562, descriptorIndex := 563, attributes := #[] }])
  fields := #[{ name := "in", type := (.object "java/io/InputStream"), accessFlags := 25, slot := 0, constantValue := 0 }, { name := "out", type := (.object "java/io/PrintStream"), accessFlags := 25, slot := 1, constantValue := 0 }, { name := "err", type := (.object "java/io/PrintStream"), accessFlags := 25, slot := 2, constantValue := 0 }, { name := "initialIn", type := (.object "java/io/InputStream"), accessFlags := 10, slot := 3, constantValue := 0 }, { name := "NEVER", type := .int, accessFlags := 26, slot := 4, constantValue := 0 }, { name := "MAYBE", type := .int, accessFlags := 26, slot := 5, constantValue := 0 }, { name := "allowSecurityManager", type := .int, accessFlags := 10, slot := 6, constantValue := 0 }, { name := "security", type := (.object "java/lang/SecurityManager"), accessFlags := 74, slot := 7, constantValue := 0 }, { name := "notSupportedJnuEncoding", type := (.object "java/lang/String"), accessFlags := 10, slot := 8, constantValue := 0 }, { name := "cons", type := (.object "java/io/Console"), accessFlags := 74, slot := 9, constantValue := 0 }, { name := "initialErrStream", type := (.object "java/io/PrintStream"), accessFlags := 74, slot := 10, constantValue := 0 }, { name := "props", type := (.object "java/util/Properties"), accessFlags := 10, slot := 11, constantValue := 0 }, { name := "lineSeparator", type := (.object "java/lang/String"), accessFlags := 10, slot := 12, constantValue := 0 }, { name := "bootLayer", type := (.object "java/lang/ModuleLayer"), accessFlags := 8, slot := 13, constantValue := 0 }]
  methods := #[k14m0, k14m1]
  instanceTypes := #[]
  staticTypes := #[(.object "java/io/InputStream"), (.object "java/io/PrintStream"), (.object "java/io/PrintStream"), (.object "java/io/InputStream"), .int, .int, .int, (.object "java/lang/SecurityManager"), (.object "java/lang/String"), (.object "java/io/Console"), (.object "java/io/PrintStream"), (.object "java/util/Properties"), (.object "java/lang/String"), (.object "java/lang/ModuleLayer")]
  resolved := Array.replicate 834 none
  statics := none }

def pool15 : Array CpInfo := pool [(2, .class_ 4), (1, u "java/lang/Object"), (0, u "<init>"), (0, u "()V"), (1, .class_ 10), (1, u "java/lang/CharacterData")] 75

def k15m0 : Method := { name := "<init>", desc := "()V", sig := { parameters := [], returnType := none }, accessFlags := 0, code := none }
/-- java/lang/CharacterData -/
def k15 : Class := { plain "java/lang/CharacterData" (some 0) with
  accessFlags := 1056
  interfaces := #[]
  cf := some (fileOf pool15 8 #[] #[{ accessFlags := 0, nameIndex := 5, descriptorIndex := 6, attributes := #[] }] 1056 2 #[] #[])
  fields := #[]
  methods := #[k15m0]
  instanceTypes := #[]
  staticTypes := #[]
  resolved := Array.replicate 86 none
  statics := none }

def pool16 : Array CpInfo := pool [(1, .fieldref 2 3), (0, .class_ 4), (0, .nameAndType 5 6), (0, u "java/lang/CharacterDataLatin1"), (0, u "A"), (0, u "[I"), (2, u "B"), (0, u "[C"), (3, u "(I)I"), (0, .methodref 2 16), (0, .nameAndType 17 14), (0, u "getProperties"), (3, u "(I)Z"), (5, u "DIGITS"), (0, u "[B"), (8, u "sharpsMap"), (1, .class_ 41), (1, u "java/lang/CharacterData"), (0, u "<init>"), (0, u "()V"), (3, u "instance"), (0, u "Ljava/lang/CharacterDataLatin1;"), (78, u "isWhitespace")] 13

def k16c0 : Code := { maxStack := 2, maxLocals := 4, code := jdk_116_method_1_code, exceptionTable := #[], attributes := #[] }
def k16m0 : Method := { name := "getProperties", desc := "(I)I", sig := { parameters := [.int], returnType := some .int }, accessFlags := 0, code := some k16c0 }
def k16c1 : Code := { maxStack := 2, maxLocals := 3, code := jdk_116_method_26_code, exceptionTable := #[], attributes := #[] }
def k16m1 : Method := { name := "isWhitespace", desc := "(I)Z", sig := { parameters := [.int], returnType := some .boolean }, accessFlags := 0, code := some k16c1 }
def k16m2 : Method := { name := "<init>", desc := "()V", sig := { parameters := [], returnType := none }, accessFlags := 2, code := none }
/-- java/lang/CharacterDataLatin1 -/
def k16 : Class := { plain "java/lang/CharacterDataLatin1" (some 15) with
  accessFlags := 32
  interfaces := #[]
  cf := some (fileOf pool16 2 #[] #[{ accessFlags := 0, nameIndex := 17, descriptorIndex := 14, attributes := #[] }, { accessFlags := 0, nameIndex := 127, descriptorIndex := 21, attributes := #[] }, { accessFlags := 2, nameIndex := 42, descriptorIndex := 43, attributes := #[] }] 32 39 #[] #[{ accessFlags := 26, nameIndex := 27, descriptorIndex := 28, attributes := #[] }, { accessFlags := 8, nameIndex := 37, descriptorIndex := 10, attributes := #[] }, { accessFlags := 24, nameIndex := 47, descriptorIndex := 48, attributes := #[] }, { accessFlags := 24, nameIndex := 5, descriptorIndex := 6, attributes := #[] }, { accessFlags := 24, nameIndex := 9, descriptorIndex := 10, attributes := #[] }])
  fields := #[{ name := "DIGITS", type := (.array .byte), accessFlags := 26, slot := 0, constantValue := 0 }, { name := "sharpsMap", type := (.array .char), accessFlags := 8, slot := 1, constantValue := 0 }, { name := "instance", type := (.object "java/lang/CharacterDataLatin1"), accessFlags := 24, slot := 2, constantValue := 0 }, { name := "A", type := (.array .int), accessFlags := 24, slot := 3, constantValue := 0 }, { name := "B", type := (.array .char), accessFlags := 24, slot := 4, constantValue := 0 }]
  methods := #[k16m0, k16m1, k16m2]
  instanceTypes := #[]
  staticTypes := #[(.array .byte), (.array .char), (.object "java/lang/CharacterDataLatin1"), (.array .int), (.array .char)]
  resolved := Array.replicate 141 none
  statics := some 2 }

def pool17 : Array CpInfo := pool [(9, u "<init>"), (6, .class_ 18), (1, u "java/lang/Object"), (0, u "()V"), (1, .class_ 23), (1, u "jdk/internal/util/ArraysSupport"), (0, u "LOG2_ARRAY_LONG_INDEX_SCALE"), (0, u "I"), (2, u "U"), (0, u "Ljdk/internal/misc/Unsafe;"), (8, u "BIG_ENDIAN"), (0, u "Z"), (8, u "LOG2_BYTE_BIT_SIZE"), (4, u "LOG2_ARRAY_INT_INDEX_SCALE"), (54, u "JLA"), (0, u "Ljdk/internal/access/JavaLangAccess;"), (11, u "LOG2_ARRAY_BOOLEAN_INDEX_SCALE"), (9, u "LOG2_ARRAY_BYTE_INDEX_SCALE"), (5, u "LOG2_ARRAY_CHAR_INDEX_SCALE"), (5, u "LOG2_ARRAY_SHORT_INDEX_SCALE"), (18, u "LOG2_ARRAY_FLOAT_INDEX_SCALE"), (24, u "LOG2_ARRAY_DOUBLE_INDEX_SCALE"), (89, u "T_BOOLEAN"), (2, u "T_CHAR"), (1, u "T_FLOAT"), (1, u "T_DOUBLE"), (1, u "T_BYTE"), (1, u "T_SHORT"), (1, u "T_INT"), (1, u "T_LONG"), (1, u "SOFT_MAX_ARRAY_LENGTH")] 83

def k17m0 : Method := { name := "<init>", desc := "()V", sig := { parameters := [], returnType := none }, accessFlags := 2, code := none }
/-- jdk/internal/util/ArraysSupport -/
def k17 : Class := { plain "jdk/internal/util/ArraysSupport" (some 0) with
  accessFlags := 33
  interfaces := #[]
  cf := some (fileOf pool17 21 #[] #[{ accessFlags := 2, nameIndex := 9, descriptorIndex := 19, attributes := #[] }] 33 16 #[] #[{ accessFlags := 24, nameIndex := 28, descriptorIndex := 29, attributes := #[] }, { accessFlags := 26, nameIndex := 38, descriptorIndex := 39, attributes := #[] }, { accessFlags := 25, nameIndex := 121, descriptorIndex := 25, attributes := #[] }, { accessFlags := 25, nameIndex := 131, descriptorIndex := 25, attributes := #[] }, { accessFlags := 25, nameIndex := 137, descriptorIndex := 25, attributes := #[] }, { accessFlags := 25, nameIndex := 143, descriptorIndex := 25, attributes := #[] }, { accessFlags := 25, nameIndex := 53, descriptorIndex := 25, attributes := #[] }, { accessFlags := 25, nameIndex := 24, descriptorIndex := 25, attributes := #[] }, { accessFlags := 25, nameIndex := 162, descriptorIndex := 25, attributes := #[] }, { accessFlags := 25, nameIndex := 187, descriptorIndex := 25, attributes := #[] }, { accessFlags := 26, nameIndex := 48, descriptorIndex := 25, attributes := #[] }, { accessFlags := 25, nameIndex := 277, descriptorIndex := 25, attributes := #[] }, { accessFlags := 25, nameIndex := 280, descriptorIndex := 25, attributes := #[] }, { accessFlags := 25, nameIndex := 282, descriptorIndex := 25, attributes := #[] }, { accessFlags := 25, nameIndex := 284, descriptorIndex := 25, attributes := #[] }, { accessFlags := 25, nameIndex := 286, descriptorIndex := 25, attributes := #[] }, { accessFlags := 25, nameIndex := 288, descriptorIndex := 25, attributes := #[] }, { accessFlags := 25, nameIndex := 290, descriptorIndex := 25, attributes := #[] }, { accessFlags := 25, nameIndex := 292, descriptorIndex := 25, attributes := #[] }, { accessFlags := 26, nameIndex := 108, descriptorIndex := 109, attributes := #[] }, { accessFlags := 25, nameIndex := 294, descriptorIndex := 25, attributes := #[] }])
  fields := #[{ name := "U", type := (.object "jdk/internal/misc/Unsafe"), accessFlags := 24, slot := 0, constantValue := 0 }, { name := "BIG_ENDIAN", type := .boolean, accessFlags := 26, slot := 1, constantValue := 0 }, { name := "LOG2_ARRAY_BOOLEAN_INDEX_SCALE", type := .int, accessFlags := 25, slot := 2, constantValue := 0 }, { name := "LOG2_ARRAY_BYTE_INDEX_SCALE", type := .int, accessFlags := 25, slot := 3, constantValue := 0 }, { name := "LOG2_ARRAY_CHAR_INDEX_SCALE", type := .int, accessFlags := 25, slot := 4, constantValue := 0 }, { name := "LOG2_ARRAY_SHORT_INDEX_SCALE", type := .int, accessFlags := 25, slot := 5, constantValue := 0 }, { name := "LOG2_ARRAY_INT_INDEX_SCALE", type := .int, accessFlags := 25, slot := 6, constantValue := 0 }, { name := "LOG2_ARRAY_LONG_INDEX_SCALE", type := .int, accessFlags := 25, slot := 7, constantValue := 0 }, { name := "LOG2_ARRAY_FLOAT_INDEX_SCALE", type := .int, accessFlags := 25, slot := 8, constantValue := 0 }, { name := "LOG2_ARRAY_DOUBLE_INDEX_SCALE", type := .int, accessFlags := 25, slot := 9, constantValue := 0 }, { name := "LOG2_BYTE_BIT_SIZE", type := .int, accessFlags := 26, slot := 10, constantValue := 0 }, { name := "T_BOOLEAN", type := .int, accessFlags := 25, slot := 11, constantValue := 0 }, { name := "T_CHAR", type := .int, accessFlags := 25, slot := 12, constantValue := 0 }, { name := "T_FLOAT", type := .int, accessFlags := 25, slot := 13, constantValue := 0 }, { name := "T_DOUBLE", type := .int, accessFlags := 25, slot := 14, constantValue := 0 }, { name := "T_BYTE", type := .int, accessFlags := 25, slot := 15, constantValue := 0 }, { name := "T_SHORT", type := .int, accessFlags := 25, slot := 16, constantValue := 0 }, { name := "T_INT", type := .int, accessFlags := 25, slot := 17, constantValue := 0 }, { name := "T_LONG", type := .int, accessFlags := 25, slot := 18, constantValue := 0 }, { name := "JLA", type := (.object "jdk/internal/access/JavaLangAccess"), accessFlags := 26, slot := 19, constantValue := 0 }, { name := "SOFT_MAX_ARRAY_LENGTH", type := .int, accessFlags := 25, slot := 20, constantValue := 0 }]
  methods := #[k17m0]
  instanceTypes := #[]
  staticTypes := #[(.object "jdk/internal/misc/Unsafe"), .boolean, .int, .int, .int, .int, .int, .int, .int, .int, .int, .int, .int, .int, .int, .int, .int, .int, .int, (.object "jdk/internal/access/JavaLangAccess"), .int]
  resolved := Array.replicate 378 none
  statics := none }

def pool18 : Array CpInfo := pool [(1, u "java/lang/Cloneable"), (0, .class_ 1), (0, u "java/lang/Object"), (0, .class_ 3)] 3

/-- java/lang/Cloneable -/
def k18 : Class := { plain "java/lang/Cloneable" (some 0) with
  accessFlags := 1537
  interfaces := #[]
  cf := some (fileOf pool18 2 #[] #[] 1537 4 #[] #[])
  fields := #[]
  methods := #[]
  instanceTypes := #[]
  staticTypes := #[]
  resolved := Array.replicate 8 none
  statics := none }

/-- the primitive byte -/
def k19 : Class := { plain "byte" none with kind := .primitive 'B', accessFlags := 0x411 }
/-- [B -/
def k20 : Class := { plain "[B" (some 0) with kind := .array 19 .byte, interfaces := #[18, 2], accessFlags := 1041 }

/-- the primitive char -/
def k21 : Class := { plain "char" none with kind := .primitive 'C', accessFlags := 0x411 }
/-- [C -/
def k22 : Class := { plain "[C" (some 0) with kind := .array 21 .char, interfaces := #[18, 2], accessFlags := 1041 }

/-- the primitive int -/
def k23 : Class := { plain "int" none with kind := .primitive 'I', accessFlags := 0x411 }
/-- [I -/
def k24 : Class := { plain "[I" (some 0) with kind := .array 23 .int, interfaces := #[18, 2], accessFlags := 1041 }

def heap : Heap := #[{ cls := 7, slots := #[.long 0, .int 1, .null, .int 0, .null, .int 0, .int 0], vm := .statics 7 },
  { cls := 12, slots := #[.null, .null, .null], vm := .statics 12 },
  { cls := 16, slots := #[.null, .null, .ref 4, .ref 5, .null], vm := .statics 16 },
  { cls := 17, slots := #[], vm := .none },
  { cls := 16, slots := #[], vm := .none },
  { cls := 24, slots := #[.int 1207963663, .int 1207963663, .int 1207963663, .int 1207963663, .int 1207963663, .int 1207963663, .int 1207963663, .int 1207963663, .int 1207963663, .int 1476411407, .int 1342193679, .int 1476411407, .int 1610629135, .int 1342193679, .int 1207963663, .int 1207963663, .int 1207963663, .int 1207963663, .int 1207963663, .int 1207963663, .int 1207963663, .int 1207963663, .int 1207963663, .int 1207963663, .int 1207963663, .int 1207963663, .int 1207963663, .int 1207963663, .int 1342193679, .int 1342193679, .int 1342193679, .int 1476411407, .int 1610629132, .int 1744830488, .int 1744830488, .int 671088664, .int 671113242, .int 671088664, .int 1744830488, .int 1744830488, .int (-402653163), .int (-402653162), .int 1744830488, .int 536870937, .int 939524120, .int 536870932, .int 939524120, .int 939524120, .int 402667017, .int 402667017, .int 402667017, .int 402667017, .int 402667017, .int 402667017, .int 402667017, .int 402667017, .int 402667017, .int 402667017, .int 939524120, .int 1744830488, .int (-402653159), .int 1744830489, .int (-402653159), .int 1744830488, .int 1744830488, .int 8552417, .int 8552417, .int 8552417, .int 8552417, .int 8552417, .int 8552417, .int 8552417, .int 8552417, .int 8552417, .int 8552417, .int 8552417, .int 8552417, .int 8552417, .int 8552417, .int 8552417, .int 8552417, .int 8552417, .int 8552417, .int 8552417, .int 8552417, .int 8552417, .int 8552417, .int 8552417, .int 8552417, .int 8552417, .int 8552417, .int (-402653163), .int 1744830488, .int (-402653162), .int 1744830491, .int 1744850967, .int 1744830491, .int 8486882, .int 8486882, .int 8486882, .int 8486882, .int 8486882, .int 8486882, .int 8486882, .int 8486882, .int 8486882, .int 8486882, .int 8486882, .int 8486882, .int 8486882, .int 8486882, .int 8486882, .int 8486882, .int 8486882, .int 8486882, .int 8486882, .int 8486882, .int 8486882, .int 8486882, .int 8486882, .int 8486882, .int 8486882, .int 8486882, .int (-402653163), .int 1744830489, .int (-402653162), .int 1744830489, .int 1207963663, .int 1207963663, .int 1207963663, .int 1207963663, .int 1207963663, .int 1207963663, .int 1342181391, .int 1207963663, .int 1207963663, .int 1207963663, .int 1207963663, .int 1207963663, .int 1207963663, .int 1207963663, .int 1207963663, .int 1207963663, .int 1207963663, .int 1207963663, .int 1207963663, .int 1207963663, .int 1207963663, .int 1207963663, .int 1207963663, .int 1207963663, .int 1207963663, .int 1207963663, .int 1207963663, .int 1207963663, .int 1207963663, .int 1207963663, .int 1207963663, .int 1207963663, .int 1207963663, .int 939524108, .int 1744830488, .int 671113242, .int 671113242, .int 671113242, .int 671113242, .int 1744830492, .int 1744830488, .int 1744830491, .int 1744830492, .int 28677, .int (-402653155), .int 1744830489, .int 1207963664, .int 1744830492, .int 1744830491, .int 671088668, .int 671088665, .int 402654731, .int 402654731, .int 1744830491, .int 134049794, .int 1744830488, .int 1744830488, .int 1744830491, .int 402654475, .int 28677, .int (-402653154), .int 1744832523, .int 1744832523, .int 1744832523, .int 1744830488, .int 8548353, .int 8548353, .int 8548353, .int 8548353, .int 8548353, .int 8548353, .int 8548353, .int 8548353, .int 8548353, .int 8548353, .int 8548353, .int 8548353, .int 8548353, .int 8548353, .int 8548353, .int 8548353, .int 8548353, .int 8548353, .int 8548353, .int 8548353, .int 8548353, .int 8548353, .int 8548353, .int 1744830489, .int 8548353, .int 8548353, .int 8548353, .int 8548353, .int 8548353, .int 8548353, .int 8548353, .int 134049794, .int 8482818, .int 8482818, .int 8482818, .int 8482818, .int 8482818, .int 8482818, .int 8482818, .int 8482818, .int 8482818, .int 8482818, .int 8482818, .int 8482818, .int 8482818, .int 8482818, .int 8482818, .int 8482818, .int 8482818, .int 8482818, .int 8482818, .int 8482818, .int 8482818, .int 8482818, .int 8482818, .int 1744830489, .int 8482818, .int 8482818, .int 8482818, .int 8482818, .int 8482818, .int 8482818, .int 8482818, .int 102592514], vm := .none }]
def classes : Array Class := #[k0, k1, k2, k3, k4, k5, k6, k7, k8, k9, k10, k11, k12, k13, k14, k15, k16, k17, k18, k19, k20, k21, k22, k23, k24]
def interned : List (Array UInt16 × Addr) := []
def slotsUsed : Nat := 271
def theMethod : MethodId := ⟨1, 4⟩
def args0 : Array Value := #[.int 3, .int 65, .int 300, .int 66, .int 32]
def aboutOver (below : List Frame) : State where
  vm := { classes := classes, interned := interned.toArray }
  heap := heap
  slotsUsed := slotsUsed
  threads := #[{ frames := .invoking theMethod args0 :: below }]
def below0 : List Frame := [.native { method := ⟨0, 0⟩, args := #[] }]
def about1 : State := aboutOver below0
def p0 : Program := .bare "" "" ""
def e0 : Env := launch0.env 0 0 0
theorem w_frames : about1.frames = Frame.invoking theMethod args0 :: below0 := rfl
set_option maxRecDepth 65536 in
theorem w_args : argsFit about1.vm theMethod args0 = true := by decide +kernel
set_option maxRecDepth 65536 in
theorem w_heap : heapFits about1 = true := by decide +kernel
set_option maxRecDepth 65536 in
theorem w_runnable : about1.curStatus? = some .runnable := by decide +kernel
set_option maxRecDepth 65536 in
theorem w_alone : about1.alone = true := by decide +kernel
set_option maxRecDepth 65536 in
theorem w_named : about1.methodNamed? x = some theMethod := by decide +kernel
set_option maxRecDepth 65536 in
theorem w_hears : about1.hears theMethod below0 = true := by decide +kernel
set_option maxRecDepth 65536 in
theorem w_ripe : about1.ripe theMethod args0 below0 = true := by decide +kernel
theorem w_running : about1.status = .running := rfl
set_option maxRecDepth 65536 in
theorem w_room : about1.hasRoom e0.platform room_1 = true :=
  launch0.hasRoom_least _ room_1 (by decide +kernel) (by decide +kernel) (by decide +kernel) (by decide +kernel) (by decide +kernel) (by decide +kernel)
theorem allAtoms_all (ts : List Jvm.Cond) (a : Array Jvm.Value) (st : Jvm.State) : (allAtoms ts).before a st = ts.all (fun c => c.before a st) := by
  induction ts with
  | nil => rfl
  | cons c t ih =>
    show (Jvm.Cond.and c (allAtoms t)).before a st = _
    rw [Jvm.Cond.before_and, ih, List.all_cons]
def words1 : List Jvm.Cond := Jvm.Cond.code x code maxLocals ret :: tables_1
/-- a 'code' word, met by the world's own term for the bytes: nothing is compared byte by byte -/
theorem code_word {y : MethodName} {bytes : ByteArray} {mx : Nat} {rt : Option FieldType} {a : Array Value} {s : State} {m : MethodId} {meth : Method} {c : Code} (h1 : s.methodNamed? y = some m) (h2 : s.vm.method? m = some meth) (h3 : meth.code = some c) (h4 : c.code = bytes)
    (h5 : (c.maxLocals == mx && c.exceptionTable.isEmpty && decide (c.maxStack ≤ mostOperands) && decide (meth.sig.returnType = rt) && !meth.locks && decide (parseMethodDescriptor y.desc = some meth.sig)) = true) : (Jvm.Cond.code y bytes mx rt).before a s = true := by
  simp only [Bool.and_eq_true, beq_iff_eq, Bool.not_eq_true', decide_eq_true_eq] at h5
  obtain ⟨⟨⟨⟨⟨g1, g2⟩, g3⟩, g4⟩, g5⟩, g6⟩ := h5
  simp [Cond.before, Cond.holds, Cond.value, h1, h2, h3, h4, g1, g2, g3, g4, g5, g6]
def isCode : Jvm.Cond → Bool
  | .code _ _ _ _ => true
  | _ => false
theorem all_split {L : List Jvm.Cond} {P : Jvm.Cond → Bool} (h1 : L.all (fun c => isCode c || P c) = true) (h2 : ∀ c ∈ L.filter isCode, P c = true) : L.all P = true := by
  refine List.all_eq_true.mpr fun c hc => ?_
  have h := List.all_eq_true.mp h1 c hc
  rcases Bool.eq_false_or_eq_true (isCode c) with hi | hi
  · exact h2 c (List.mem_filter.mpr ⟨hc, hi⟩)
  · simpa [hi] using h
set_option maxRecDepth 65536 in
theorem w_c0 : (Jvm.Cond.code x code maxLocals ret).before args0 about1 = true := code_word (m := ⟨1, 4⟩) (meth := k1m4) (c := k1c4) (by decide +kernel) rfl rfl rfl (by decide +kernel)
set_option maxRecDepth 65536 in
theorem w_c1 : (Jvm.Cond.code ({ cls := "com/example/managed_transactions/managedtransactions/jdbc/SqlTextMayHoldSeveralPinLaw", name := "draw", desc := "(I)C" } : Jvm.MethodName) method_2_code (1 : Nat) (Option.some Jvm.ClassFile.FieldType.char)).before args0 about1 = true := code_word (m := ⟨1, 1⟩) (meth := k1m1) (c := k1c1) (by decide +kernel) rfl rfl rfl (by decide +kernel)
set_option maxRecDepth 65536 in
theorem w_c2 : (Jvm.Cond.code ({ cls := "com/example/managed_transactions/managedtransactions/jdbc/SqlTextMayHoldSeveralPinLaw", name := "pair", desc := "([CIII)Z" } : Jvm.MethodName) method_4_code (4 : Nat) (Option.some Jvm.ClassFile.FieldType.boolean)).before args0 about1 = true := code_word (m := ⟨1, 3⟩) (meth := k1m3) (c := k1c3) (by decide +kernel) rfl rfl rfl (by decide +kernel)
set_option maxRecDepth 65536 in
theorem w_c3 : (Jvm.Cond.code ({ cls := "java/lang/String", name := "<init>", desc := "([C)V" } : Jvm.MethodName) jdk_42_method_3_code (2 : Nat) (Option.none : Option Jvm.ClassFile.FieldType)).before args0 about1 = true := code_word (m := ⟨7, 1⟩) (meth := k7m1) (c := k7c1) (by decide +kernel) rfl rfl rfl (by decide +kernel)
set_option maxRecDepth 65536 in
theorem w_c4 : (Jvm.Cond.code ({ cls := "java/lang/String", name := "<init>", desc := "([CIILjava/lang/Void;)V" } : Jvm.MethodName) jdk_42_method_149_code (6 : Nat) (Option.none : Option Jvm.ClassFile.FieldType)).before args0 about1 = true := code_word (m := ⟨7, 9⟩) (meth := k7m9) (c := k7c9) (by decide +kernel) rfl rfl rfl (by decide +kernel)
set_option maxRecDepth 65536 in
theorem w_c5 : (Jvm.Cond.code ({ cls := "java/lang/Object", name := "<init>", desc := "()V" } : Jvm.MethodName) object_method_1_code (1 : Nat) (Option.none : Option Jvm.ClassFile.FieldType)).before args0 about1 = true := code_word (m := ⟨0, 0⟩) (meth := k0m0) (c := k0c0) (by decide +kernel) rfl rfl rfl (by decide +kernel)
set_option maxRecDepth 65536 in
theorem w_c6 : (Jvm.Cond.code ({ cls := "com/example/managed_transactions/managedtransactions/jdbc/SqlText", name := "mayHoldSeveral", desc := "(Ljava/lang/String;)Z" } : Jvm.MethodName) prog_4_method_8_code (2 : Nat) (Option.some Jvm.ClassFile.FieldType.boolean)).before args0 about1 = true := code_word (m := ⟨8, 0⟩) (meth := k8m0) (c := k8c0) (by decide +kernel) rfl rfl rfl (by decide +kernel)
set_option maxRecDepth 65536 in
theorem w_c7 : (Jvm.Cond.code ({ cls := "java/lang/String", name := "indexOf", desc := "(I)I" } : Jvm.MethodName) jdk_42_method_79_code (2 : Nat) (Option.some Jvm.ClassFile.FieldType.int)).before args0 about1 = true := code_word (m := ⟨7, 3⟩) (meth := k7m3) (c := k7c3) (by decide +kernel) rfl rfl rfl (by decide +kernel)
set_option maxRecDepth 65536 in
theorem w_c8 : (Jvm.Cond.code ({ cls := "java/lang/String", name := "indexOf", desc := "(II)I" } : Jvm.MethodName) jdk_42_method_80_code (3 : Nat) (Option.some Jvm.ClassFile.FieldType.int)).before args0 about1 = true := code_word (m := ⟨7, 4⟩) (meth := k7m4) (c := k7c4) (by decide +kernel) rfl rfl rfl (by decide +kernel)
set_option maxRecDepth 65536 in
theorem w_c9 : (Jvm.Cond.code ({ cls := "java/lang/String", name := "isLatin1", desc := "()Z" } : Jvm.MethodName) jdk_42_method_154_code (1 : Nat) (Option.some Jvm.ClassFile.FieldType.boolean)).before args0 about1 = true := code_word (m := ⟨7, 12⟩) (meth := k7m12) (c := k7c12) (by decide +kernel) rfl rfl rfl (by decide +kernel)
set_option maxRecDepth 65536 in
theorem w_c10 : (Jvm.Cond.code ({ cls := "java/lang/String", name := "length", desc := "()I" } : Jvm.MethodName) jdk_42_method_54_code (1 : Nat) (Option.some Jvm.ClassFile.FieldType.int)).before args0 about1 = true := code_word (m := ⟨7, 2⟩) (meth := k7m2) (c := k7c2) (by decide +kernel) rfl rfl rfl (by decide +kernel)
set_option maxRecDepth 65536 in
theorem w_c11 : (Jvm.Cond.code ({ cls := "java/lang/String", name := "coder", desc := "()B" } : Jvm.MethodName) jdk_42_method_152_code (1 : Nat) (Option.some Jvm.ClassFile.FieldType.byte)).before args0 about1 = true := code_word (m := ⟨7, 11⟩) (meth := k7m11) (c := k7c11) (by decide +kernel) rfl rfl rfl (by decide +kernel)
set_option maxRecDepth 65536 in
theorem w_c12 : (Jvm.Cond.code ({ cls := "java/lang/StringLatin1", name := "indexOf", desc := "([BIII)I" } : Jvm.MethodName) jdk_43_method_22_code (4 : Nat) (Option.some Jvm.ClassFile.FieldType.int)).before args0 about1 = true := code_word (m := ⟨9, 2⟩) (meth := k9m2) (c := k9c2) (by decide +kernel) rfl rfl rfl (by decide +kernel)
set_option maxRecDepth 65536 in
theorem w_c13 : (Jvm.Cond.code ({ cls := "java/lang/StringLatin1", name := "canEncode", desc := "(I)Z" } : Jvm.MethodName) jdk_43_method_4_code (1 : Nat) (Option.some Jvm.ClassFile.FieldType.boolean)).before args0 about1 = true := code_word (m := ⟨9, 1⟩) (meth := k9m1) (c := k9c1) (by decide +kernel) rfl rfl rfl (by decide +kernel)
set_option maxRecDepth 65536 in
theorem w_c14 : (Jvm.Cond.code ({ cls := "java/lang/Math", name := "max", desc := "(II)I" } : Jvm.MethodName) jdk_29_method_65_code (2 : Nat) (Option.some Jvm.ClassFile.FieldType.int)).before args0 about1 = true := code_word (m := ⟨10, 1⟩) (meth := k10m1) (c := k10c1) (by decide +kernel) rfl rfl rfl (by decide +kernel)
set_option maxRecDepth 65536 in
theorem w_c15 : (Jvm.Cond.code ({ cls := "java/lang/Math", name := "min", desc := "(II)I" } : Jvm.MethodName) jdk_29_method_69_code (2 : Nat) (Option.some Jvm.ClassFile.FieldType.int)).before args0 about1 = true := code_word (m := ⟨10, 2⟩) (meth := k10m2) (c := k10c2) (by decide +kernel) rfl rfl rfl (by decide +kernel)
set_option maxRecDepth 65536 in
theorem w_c16 : (Jvm.Cond.code ({ cls := "java/lang/StringUTF16", name := "compress", desc := "([CII)[B" } : Jvm.MethodName) jdk_52_method_16_code (6 : Nat) (Option.some (Jvm.ClassFile.FieldType.array Jvm.ClassFile.FieldType.byte))).before args0 about1 = true := code_word (m := ⟨11, 2⟩) (meth := k11m2) (c := k11c2) (by decide +kernel) rfl rfl rfl (by decide +kernel)
set_option maxRecDepth 65536 in
theorem w_c17 : (Jvm.Cond.code ({ cls := "java/lang/StringUTF16", name := "compress", desc := "([CI[BII)I" } : Jvm.MethodName) jdk_52_method_21_code (7 : Nat) (Option.some Jvm.ClassFile.FieldType.int)).before args0 about1 = true := code_word (m := ⟨11, 3⟩) (meth := k11m3) (c := k11c3) (by decide +kernel) rfl rfl rfl (by decide +kernel)
set_option maxRecDepth 65536 in
theorem w_c18 : (Jvm.Cond.code ({ cls := "java/lang/StringUTF16", name := "coderFromArrayLen", desc := "([BI)B" } : Jvm.MethodName) jdk_52_method_15_code (2 : Nat) (Option.some Jvm.ClassFile.FieldType.byte)).before args0 about1 = true := code_word (m := ⟨11, 1⟩) (meth := k11m1) (c := k11c1) (by decide +kernel) rfl rfl rfl (by decide +kernel)
set_option maxRecDepth 65536 in
theorem w_c19 : (Jvm.Cond.code ({ cls := "java/lang/StringLatin1", name := "indexOfChar", desc := "([BIII)I" } : Jvm.MethodName) jdk_43_method_23_code (6 : Nat) (Option.some Jvm.ClassFile.FieldType.int)).before args0 about1 = true := code_word (m := ⟨9, 3⟩) (meth := k9m3) (c := k9c3) (by decide +kernel) rfl rfl rfl (by decide +kernel)
set_option maxRecDepth 65536 in
theorem w_c20 : (Jvm.Cond.code ({ cls := "com/example/managed_transactions/managedtransactions/jdbc/SqlTextMayHoldSeveralPinLaw", name := "ws", desc := "(C)Z" } : Jvm.MethodName) method_3_code (1 : Nat) (Option.some Jvm.ClassFile.FieldType.boolean)).before args0 about1 = true := code_word (m := ⟨1, 2⟩) (meth := k1m2) (c := k1c2) (by decide +kernel) rfl rfl rfl (by decide +kernel)
set_option maxRecDepth 65536 in
theorem w_c21 : (Jvm.Cond.code ({ cls := "java/lang/String", name := "substring", desc := "(I)Ljava/lang/String;" } : Jvm.MethodName) jdk_42_method_91_code (2 : Nat) (Option.some (Jvm.ClassFile.FieldType.object "java/lang/String"))).before args0 about1 = true := code_word (m := ⟨7, 5⟩) (meth := k7m5) (c := k7c5) (by decide +kernel) rfl rfl rfl (by decide +kernel)
set_option maxRecDepth 65536 in
theorem w_c22 : (Jvm.Cond.code ({ cls := "java/lang/String", name := "substring", desc := "(II)Ljava/lang/String;" } : Jvm.MethodName) jdk_42_method_92_code (5 : Nat) (Option.some (Jvm.ClassFile.FieldType.object "java/lang/String"))).before args0 about1 = true := code_word (m := ⟨7, 6⟩) (meth := k7m6) (c := k7c6) (by decide +kernel) rfl rfl rfl (by decide +kernel)
set_option maxRecDepth 65536 in
theorem w_c23 : (Jvm.Cond.code ({ cls := "java/lang/String", name := "checkBoundsBeginEnd", desc := "(III)V" } : Jvm.MethodName) jdk_42_method_158_code (3 : Nat) (Option.none : Option Jvm.ClassFile.FieldType)).before args0 about1 = true := code_word (m := ⟨7, 13⟩) (meth := k7m13) (c := k7c13) (by decide +kernel) rfl rfl rfl (by decide +kernel)
set_option maxRecDepth 65536 in
theorem w_c24 : (Jvm.Cond.code ({ cls := "jdk/internal/util/Preconditions", name := "checkFromToIndex", desc := "(IIILjava/util/function/BiFunction;)I" } : Jvm.MethodName) jdk_41_method_12_code (4 : Nat) (Option.some Jvm.ClassFile.FieldType.int)).before args0 about1 = true := code_word (m := ⟨12, 1⟩) (meth := k12m1) (c := k12c1) (by decide +kernel) rfl rfl rfl (by decide +kernel)
set_option maxRecDepth 65536 in
theorem w_c25 : (Jvm.Cond.code ({ cls := "java/lang/StringLatin1", name := "newString", desc := "([BII)Ljava/lang/String;" } : Jvm.MethodName) jdk_43_method_47_code (3 : Nat) (Option.some (Jvm.ClassFile.FieldType.object "java/lang/String"))).before args0 about1 = true := code_word (m := ⟨9, 6⟩) (meth := k9m6) (c := k9c6) (by decide +kernel) rfl rfl rfl (by decide +kernel)
set_option maxRecDepth 65536 in
theorem w_c26 : (Jvm.Cond.code ({ cls := "java/util/Arrays", name := "copyOfRange", desc := "([BII)[B" } : Jvm.MethodName) jdk_65_method_132_code (3 : Nat) (Option.some (Jvm.ClassFile.FieldType.array Jvm.ClassFile.FieldType.byte))).before args0 about1 = true := code_word (m := ⟨13, 2⟩) (meth := k13m2) (c := k13c2) (by decide +kernel) rfl rfl rfl (by decide +kernel)
set_option maxRecDepth 65536 in
theorem w_c27 : (Jvm.Cond.code ({ cls := "java/util/Arrays", name := "copyOfRangeByte", desc := "([BII)[B" } : Jvm.MethodName) jdk_65_method_133_code (5 : Nat) (Option.some (Jvm.ClassFile.FieldType.array Jvm.ClassFile.FieldType.byte))).before args0 about1 = true := code_word (m := ⟨13, 3⟩) (meth := k13m3) (c := k13c3) (by decide +kernel) rfl rfl rfl (by decide +kernel)
set_option maxRecDepth 65536 in
theorem w_c28 : (Jvm.Cond.code ({ cls := "java/util/Arrays", name := "checkLength", desc := "(II)V" } : Jvm.MethodName) jdk_65_method_131_code (2 : Nat) (Option.none : Option Jvm.ClassFile.FieldType)).before args0 about1 = true := code_word (m := ⟨13, 1⟩) (meth := k13m1) (c := k13c1) (by decide +kernel) rfl rfl rfl (by decide +kernel)
set_option maxRecDepth 65536 in
theorem w_c29 : (Jvm.Cond.code ({ cls := "java/lang/String", name := "<init>", desc := "([BB)V" } : Jvm.MethodName) jdk_42_method_151_code (3 : Nat) (Option.none : Option Jvm.ClassFile.FieldType)).before args0 about1 = true := code_word (m := ⟨7, 10⟩) (meth := k7m10) (c := k7c10) (by decide +kernel) rfl rfl rfl (by decide +kernel)
set_option maxRecDepth 65536 in
theorem w_c30 : (Jvm.Cond.code ({ cls := "java/lang/String", name := "isBlank", desc := "()Z" } : Jvm.MethodName) jdk_42_method_117_code (1 : Nat) (Option.some Jvm.ClassFile.FieldType.boolean)).before args0 about1 = true := code_word (m := ⟨7, 7⟩) (meth := k7m7) (c := k7c7) (by decide +kernel) rfl rfl rfl (by decide +kernel)
set_option maxRecDepth 65536 in
theorem w_c31 : (Jvm.Cond.code ({ cls := "java/lang/String", name := "indexOfNonWhitespace", desc := "()I" } : Jvm.MethodName) jdk_42_method_120_code (1 : Nat) (Option.some Jvm.ClassFile.FieldType.int)).before args0 about1 = true := code_word (m := ⟨7, 8⟩) (meth := k7m8) (c := k7c8) (by decide +kernel) rfl rfl rfl (by decide +kernel)
set_option maxRecDepth 65536 in
theorem w_c32 : (Jvm.Cond.code ({ cls := "java/lang/StringLatin1", name := "indexOfNonWhitespace", desc := "([B)I" } : Jvm.MethodName) jdk_43_method_37_code (4 : Nat) (Option.some Jvm.ClassFile.FieldType.int)).before args0 about1 = true := code_word (m := ⟨9, 4⟩) (meth := k9m4) (c := k9c4) (by decide +kernel) rfl rfl rfl (by decide +kernel)
set_option maxRecDepth 65536 in
theorem w_c33 : (Jvm.Cond.code ({ cls := "java/lang/StringLatin1", name := "getChar", desc := "([BI)C" } : Jvm.MethodName) jdk_43_method_44_code (2 : Nat) (Option.some Jvm.ClassFile.FieldType.char)).before args0 about1 = true := code_word (m := ⟨9, 5⟩) (meth := k9m5) (c := k9c5) (by decide +kernel) rfl rfl rfl (by decide +kernel)
set_option maxRecDepth 65536 in
theorem w_c34 : (Jvm.Cond.code ({ cls := "java/lang/CharacterDataLatin1", name := "isWhitespace", desc := "(I)Z" } : Jvm.MethodName) jdk_116_method_26_code (3 : Nat) (Option.some Jvm.ClassFile.FieldType.boolean)).before args0 about1 = true := code_word (m := ⟨16, 1⟩) (meth := k16m1) (c := k16c1) (by decide +kernel) rfl rfl rfl (by decide +kernel)
set_option maxRecDepth 65536 in
theorem w_c35 : (Jvm.Cond.code ({ cls := "java/lang/CharacterDataLatin1", name := "getProperties", desc := "(I)I" } : Jvm.MethodName) jdk_116_method_1_code (4 : Nat) (Option.some Jvm.ClassFile.FieldType.int)).before args0 about1 = true := code_word (m := ⟨16, 0⟩) (meth := k16m0) (c := k16c0) (by decide +kernel) rfl rfl rfl (by decide +kernel)
def codes1 : List Jvm.Cond := [Jvm.Cond.code x code maxLocals ret, Jvm.Cond.code ({ cls := "com/example/managed_transactions/managedtransactions/jdbc/SqlTextMayHoldSeveralPinLaw", name := "draw", desc := "(I)C" } : Jvm.MethodName) method_2_code (1 : Nat) (Option.some Jvm.ClassFile.FieldType.char), Jvm.Cond.code ({ cls := "com/example/managed_transactions/managedtransactions/jdbc/SqlTextMayHoldSeveralPinLaw", name := "pair", desc := "([CIII)Z" } : Jvm.MethodName) method_4_code (4 : Nat) (Option.some Jvm.ClassFile.FieldType.boolean), Jvm.Cond.code ({ cls := "java/lang/String", name := "<init>", desc := "([C)V" } : Jvm.MethodName) jdk_42_method_3_code (2 : Nat) (Option.none : Option Jvm.ClassFile.FieldType), Jvm.Cond.code ({ cls := "java/lang/String", name := "<init>", desc := "([CIILjava/lang/Void;)V" } : Jvm.MethodName) jdk_42_method_149_code (6 : Nat) (Option.none : Option Jvm.ClassFile.FieldType), Jvm.Cond.code ({ cls := "java/lang/Object", name := "<init>", desc := "()V" } : Jvm.MethodName) object_method_1_code (1 : Nat) (Option.none : Option Jvm.ClassFile.FieldType), Jvm.Cond.code ({ cls := "com/example/managed_transactions/managedtransactions/jdbc/SqlText", name := "mayHoldSeveral", desc := "(Ljava/lang/String;)Z" } : Jvm.MethodName) prog_4_method_8_code (2 : Nat) (Option.some Jvm.ClassFile.FieldType.boolean), Jvm.Cond.code ({ cls := "java/lang/String", name := "indexOf", desc := "(I)I" } : Jvm.MethodName) jdk_42_method_79_code (2 : Nat) (Option.some Jvm.ClassFile.FieldType.int), Jvm.Cond.code ({ cls := "java/lang/String", name := "indexOf", desc := "(II)I" } : Jvm.MethodName) jdk_42_method_80_code (3 : Nat) (Option.some Jvm.ClassFile.FieldType.int), Jvm.Cond.code ({ cls := "java/lang/String", name := "isLatin1", desc := "()Z" } : Jvm.MethodName) jdk_42_method_154_code (1 : Nat) (Option.some Jvm.ClassFile.FieldType.boolean), Jvm.Cond.code ({ cls := "java/lang/String", name := "length", desc := "()I" } : Jvm.MethodName) jdk_42_method_54_code (1 : Nat) (Option.some Jvm.ClassFile.FieldType.int), Jvm.Cond.code ({ cls := "java/lang/String", name := "coder", desc := "()B" } : Jvm.MethodName) jdk_42_method_152_code (1 : Nat) (Option.some Jvm.ClassFile.FieldType.byte), Jvm.Cond.code ({ cls := "java/lang/StringLatin1", name := "indexOf", desc := "([BIII)I" } : Jvm.MethodName) jdk_43_method_22_code (4 : Nat) (Option.some Jvm.ClassFile.FieldType.int), Jvm.Cond.code ({ cls := "java/lang/StringLatin1", name := "canEncode", desc := "(I)Z" } : Jvm.MethodName) jdk_43_method_4_code (1 : Nat) (Option.some Jvm.ClassFile.FieldType.boolean), Jvm.Cond.code ({ cls := "java/lang/Math", name := "max", desc := "(II)I" } : Jvm.MethodName) jdk_29_method_65_code (2 : Nat) (Option.some Jvm.ClassFile.FieldType.int), Jvm.Cond.code ({ cls := "java/lang/Math", name := "min", desc := "(II)I" } : Jvm.MethodName) jdk_29_method_69_code (2 : Nat) (Option.some Jvm.ClassFile.FieldType.int), Jvm.Cond.code ({ cls := "java/lang/StringUTF16", name := "compress", desc := "([CII)[B" } : Jvm.MethodName) jdk_52_method_16_code (6 : Nat) (Option.some (Jvm.ClassFile.FieldType.array Jvm.ClassFile.FieldType.byte)), Jvm.Cond.code ({ cls := "java/lang/StringUTF16", name := "compress", desc := "([CI[BII)I" } : Jvm.MethodName) jdk_52_method_21_code (7 : Nat) (Option.some Jvm.ClassFile.FieldType.int), Jvm.Cond.code ({ cls := "java/lang/StringUTF16", name := "coderFromArrayLen", desc := "([BI)B" } : Jvm.MethodName) jdk_52_method_15_code (2 : Nat) (Option.some Jvm.ClassFile.FieldType.byte), Jvm.Cond.code ({ cls := "java/lang/StringLatin1", name := "indexOfChar", desc := "([BIII)I" } : Jvm.MethodName) jdk_43_method_23_code (6 : Nat) (Option.some Jvm.ClassFile.FieldType.int), Jvm.Cond.code ({ cls := "com/example/managed_transactions/managedtransactions/jdbc/SqlTextMayHoldSeveralPinLaw", name := "ws", desc := "(C)Z" } : Jvm.MethodName) method_3_code (1 : Nat) (Option.some Jvm.ClassFile.FieldType.boolean), Jvm.Cond.code ({ cls := "java/lang/String", name := "substring", desc := "(I)Ljava/lang/String;" } : Jvm.MethodName) jdk_42_method_91_code (2 : Nat) (Option.some (Jvm.ClassFile.FieldType.object "java/lang/String")), Jvm.Cond.code ({ cls := "java/lang/String", name := "substring", desc := "(II)Ljava/lang/String;" } : Jvm.MethodName) jdk_42_method_92_code (5 : Nat) (Option.some (Jvm.ClassFile.FieldType.object "java/lang/String")), Jvm.Cond.code ({ cls := "java/lang/String", name := "checkBoundsBeginEnd", desc := "(III)V" } : Jvm.MethodName) jdk_42_method_158_code (3 : Nat) (Option.none : Option Jvm.ClassFile.FieldType), Jvm.Cond.code ({ cls := "jdk/internal/util/Preconditions", name := "checkFromToIndex", desc := "(IIILjava/util/function/BiFunction;)I" } : Jvm.MethodName) jdk_41_method_12_code (4 : Nat) (Option.some Jvm.ClassFile.FieldType.int), Jvm.Cond.code ({ cls := "java/lang/StringLatin1", name := "newString", desc := "([BII)Ljava/lang/String;" } : Jvm.MethodName) jdk_43_method_47_code (3 : Nat) (Option.some (Jvm.ClassFile.FieldType.object "java/lang/String")), Jvm.Cond.code ({ cls := "java/util/Arrays", name := "copyOfRange", desc := "([BII)[B" } : Jvm.MethodName) jdk_65_method_132_code (3 : Nat) (Option.some (Jvm.ClassFile.FieldType.array Jvm.ClassFile.FieldType.byte)), Jvm.Cond.code ({ cls := "java/util/Arrays", name := "copyOfRangeByte", desc := "([BII)[B" } : Jvm.MethodName) jdk_65_method_133_code (5 : Nat) (Option.some (Jvm.ClassFile.FieldType.array Jvm.ClassFile.FieldType.byte)), Jvm.Cond.code ({ cls := "java/util/Arrays", name := "checkLength", desc := "(II)V" } : Jvm.MethodName) jdk_65_method_131_code (2 : Nat) (Option.none : Option Jvm.ClassFile.FieldType), Jvm.Cond.code ({ cls := "java/lang/String", name := "<init>", desc := "([BB)V" } : Jvm.MethodName) jdk_42_method_151_code (3 : Nat) (Option.none : Option Jvm.ClassFile.FieldType), Jvm.Cond.code ({ cls := "java/lang/String", name := "isBlank", desc := "()Z" } : Jvm.MethodName) jdk_42_method_117_code (1 : Nat) (Option.some Jvm.ClassFile.FieldType.boolean), Jvm.Cond.code ({ cls := "java/lang/String", name := "indexOfNonWhitespace", desc := "()I" } : Jvm.MethodName) jdk_42_method_120_code (1 : Nat) (Option.some Jvm.ClassFile.FieldType.int), Jvm.Cond.code ({ cls := "java/lang/StringLatin1", name := "indexOfNonWhitespace", desc := "([B)I" } : Jvm.MethodName) jdk_43_method_37_code (4 : Nat) (Option.some Jvm.ClassFile.FieldType.int), Jvm.Cond.code ({ cls := "java/lang/StringLatin1", name := "getChar", desc := "([BI)C" } : Jvm.MethodName) jdk_43_method_44_code (2 : Nat) (Option.some Jvm.ClassFile.FieldType.char), Jvm.Cond.code ({ cls := "java/lang/CharacterDataLatin1", name := "isWhitespace", desc := "(I)Z" } : Jvm.MethodName) jdk_116_method_26_code (3 : Nat) (Option.some Jvm.ClassFile.FieldType.boolean), Jvm.Cond.code ({ cls := "java/lang/CharacterDataLatin1", name := "getProperties", desc := "(I)I" } : Jvm.MethodName) jdk_116_method_1_code (4 : Nat) (Option.some Jvm.ClassFile.FieldType.int)]
set_option maxRecDepth 65536 in
theorem codes_eq : words1.filter isCode = codes1 := rfl
theorem w_codes : ∀ c ∈ words1.filter isCode, c.before args0 about1 = true := by
  rw [codes_eq]
  intro c hc
  simp only [codes1, List.mem_cons, List.not_mem_nil, or_false] at hc
  rcases hc with rfl | rfl | rfl | rfl | rfl | rfl | rfl | rfl | rfl | rfl | rfl | rfl | rfl | rfl | rfl | rfl | rfl | rfl | rfl | rfl | rfl | rfl | rfl | rfl | rfl | rfl | rfl | rfl | rfl | rfl | rfl | rfl | rfl | rfl | rfl | rfl
  · exact w_c0
  · exact w_c1
  · exact w_c2
  · exact w_c3
  · exact w_c4
  · exact w_c5
  · exact w_c6
  · exact w_c7
  · exact w_c8
  · exact w_c9
  · exact w_c10
  · exact w_c11
  · exact w_c12
  · exact w_c13
  · exact w_c14
  · exact w_c15
  · exact w_c16
  · exact w_c17
  · exact w_c18
  · exact w_c19
  · exact w_c20
  · exact w_c21
  · exact w_c22
  · exact w_c23
  · exact w_c24
  · exact w_c25
  · exact w_c26
  · exact w_c27
  · exact w_c28
  · exact w_c29
  · exact w_c30
  · exact w_c31
  · exact w_c32
  · exact w_c33
  · exact w_c34
  · exact w_c35
set_option maxRecDepth 65536 in
theorem w_t1 : (words1.take 24).all (fun c => isCode c || c.before args0 about1) = true := by decide +kernel
set_option maxRecDepth 65536 in
theorem w_t2 : ((words1.drop 24).take 24).all (fun c => isCode c || c.before args0 about1) = true := by decide +kernel
set_option maxRecDepth 65536 in
theorem w_t3 : (((words1.drop 24).drop 24).take 24).all (fun c => isCode c || c.before args0 about1) = true := by decide +kernel
set_option maxRecDepth 65536 in
theorem w_t4 : ((((words1.drop 24).drop 24).drop 24).take 24).all (fun c => isCode c || c.before args0 about1) = true := by decide +kernel
set_option maxRecDepth 65536 in
theorem w_t5 : (((((words1.drop 24).drop 24).drop 24).drop 24).take 24).all (fun c => isCode c || c.before args0 about1) = true := by decide +kernel
set_option maxRecDepth 65536 in
theorem w_t6 : ((((((words1.drop 24).drop 24).drop 24).drop 24).drop 24).take 24).all (fun c => isCode c || c.before args0 about1) = true := by decide +kernel
set_option maxRecDepth 65536 in
theorem w_t7 : ((((((words1.drop 24).drop 24).drop 24).drop 24).drop 24).drop 24).all (fun c => isCode c || c.before args0 about1) = true := by decide +kernel
theorem w_tables : (allAtoms (Jvm.Cond.code x code maxLocals ret :: tables_1)).before args0 about1 = true := by
  rw [allAtoms_all]
  show words1.all (fun c => c.before args0 about1) = true
  refine all_split ?_ w_codes
  rw [← List.take_append_drop 24 words1, List.all_append, w_t1, ← List.take_append_drop 24 (words1.drop 24), List.all_append, w_t2, ← List.take_append_drop 24 ((words1.drop 24).drop 24), List.all_append, w_t3, ← List.take_append_drop 24 (((words1.drop 24).drop 24).drop 24), List.all_append, w_t4, ← List.take_append_drop 24 ((((words1.drop 24).drop 24).drop 24).drop 24), List.all_append, w_t5, ← List.take_append_drop 24 (((((words1.drop 24).drop 24).drop 24).drop 24).drop 24), List.all_append, w_t6, w_t7]
  rfl
set_option maxRecDepth 65536 in
theorem w_rest : rest_1_c.before args0 about1 = true := by decide +kernel
set_option maxRecDepth 65536 in
theorem w_case : (Jvm.Cond.and given_1 narrow_1).before args0 about1 = true := by decide +kernel
set_option maxRecDepth 65536 in
theorem w_consts : constsHeld consts_1 about1 := Jvm.Lit.constsHeldB_iff.mp (by decide +kernel)
theorem w_applies : (headSpec (Jvm.Cond.code x code maxLocals ret :: tables_1) room_1).applies x e0.platform about1 = true :=
  (Spec.applies_iff w_frames).mpr ⟨w_running, w_runnable, w_alone, w_named, w_hears, w_ripe, w_room, w_tables⟩
theorem atStart : AtStart classFile x code maxLocals ret World_1 tables_1 room_1 Calls_1 rest_1 Pre_1 launch0 p0 e0 about1 theMethod args0 below0 :=
  ⟨lists_1, trivial, launch0.admits_env _ _ _, launch0.least_env, fairChoices_fair.cas, fairChoices_fair.clock, w_frames, w_args, w_heap, w_applies, ⟨w_consts, trivial⟩, w_rest, w_case⟩
end start1
theorem witness_1 : WitnessClaimed_1 := ⟨start1.p0, start1.e0, start1.about1, start1.theMethod, start1.args0, start1.below0, start1.atStart⟩
end Jvm.Pilot.@@N@@
