import JvmDerived
import JvmDerived.Pilot.@@N@@Statement
import JvmDerived.Pilot.@@N@@Code
set_option linter.unusedVariables false
set_option linter.unusedSimpArgs false
namespace Jvm.Pilot.@@N@@
open Jvm Jvm.ClassFile Sem Op Lib Jvm.Free Jvm.Stand Jvm.LawKit Jvm.RoadKit Bundle Jvm.Pilot.@@N@@.Jvm.D
def Go (p : Program) (e : Env) (below : List Frame) (G : State → Prop) (T : State) (f : JFrame) : Prop := ∃ t, Steps p.tables e below (T.setTop f) t ∧ G t
theorem Go.step {p : Program} {e : Env} {below : List Frame} {G : State → Prop} {T T' : State} {f f' : JFrame} (k : ∀ t, Steps p.tables e below (T'.setTop f') t → Steps p.tables e below (T.setTop f) t) (h : Go p e below G T' f') : Go p e below G T f := by
  obtain ⟨t, h1, h2⟩ := h
  exact ⟨t, k t h1, h2⟩
def Fin1 (s : State) (below : List Frame) (Q : Option Value → Heap → List Loc → Prop) (k n : Nat) (t : State) : Prop := ∃ o, t.status = .running ∧ Ended t below o ∧ ∃ v L, o = .returned v ∧ Q v t.heap L ∧ FrameEnd s o t L k n
theorem of_go {p : Program} {e : Env} {below : List Frame} {s s₁ : State} {Q : Option Value → Heap → List Loc → Prop} {k n : Nat} {f f' : JFrame} (hf : f' = f) (h : Go p e below (Fin1 s below Q k n) s₁ f) :
    ∃ s₂ o, Steps p.tables e below (s₁.setTop f') s₂ ∧ s₂.status = .running ∧ Ended s₂ below o ∧ ∃ v L, o = .returned v ∧ Q v s₂.heap L ∧ FrameEnd s o s₂ L k n := by
  subst hf
  obtain ⟨t, h1, o, h2, h3, h4⟩ := h
  exact ⟨t, o, h1, h2, h3, h4⟩
section Ends
variable {p : Program} {l : Launch} {e : Env} {R : Room} {s : State} {m : MethodId} {args : Array Value} {below : List Frame} {meth : Method} {c : Code} {T : State} {locs : List Loc} {cells slots : Nat} {Q : Option Value → Heap → List Loc → Prop} {k n : Nat}
theorem goN (X : Stand p l e R s m args below meth c T locs cells slots) (hx : p.tables.exec = Jvm.exec) {pc : Nat} {Ls : Array Slot} {z : Int32} {t : FieldType} {rest : List Value} (hret : meth.sig.returnType = some t) (ht : t = .boolean ∨ t = .byte ∨ t = .char ∨ t = .short) (hlk : meth.locks = false)
    (hd : decode c.code pc = .ok (.ireturn, 1)) (hQ : Q (some (.int (nar t z))) T.heap locs) (hk : cells ≤ k) (hn : slots ≤ n) : Go p e below (Fin1 s below Q k n) T (mkF m pc Ls (.int z :: rest)) := by
  obtain ⟨fs, hr, hrun, hended, hW, hsame⟩ := X.leave (v := some (.int (nar t z))) (fun h => by rw [hret] at h; cases h) hlk
  exact ⟨_, Jvm.RoadKit.retN X hx hret ht hd hr, _, hrun, hended, _, _, rfl, hQ, ⟨_, rfl⟩, hW, hsame.mono hk hn⟩
theorem goO (X : Stand p l e R s m args below meth c T locs cells slots) (hx : p.tables.exec = Jvm.exec) {pc : Nat} {Ls : Array Slot} {w : Value} {t : FieldType} {i : Instr} {rest : List Value} (hret : meth.sig.returnType = some t) (hnw : narrow t w = w)
    (hi : (i = .ireturn ∧ (t = .int ∨ t = .boolean ∨ t = .byte ∨ t = .char ∨ t = .short) ∧ ∃ z, w = .int z) ∨ (i = .lreturn ∧ t = .long ∧ ∃ z, w = .long z) ∨ (i = .dreturn ∧ t = .double ∧ ∃ z, w = .double z) ∨ (i = .freturn ∧ t = .float ∧ ∃ z, w = .float z) ∨ (i = .areturn ∧ t.isReference = true ∧ w.isRef = true)) (hlk : meth.locks = false)
    (hd : decode c.code pc = .ok (i, 1)) (hQ : Q (some w) T.heap locs) (hk : cells ≤ k) (hn : slots ≤ n) : Go p e below (Fin1 s below Q k n) T (mkF m pc Ls (w :: rest)) := by
  obtain ⟨fs, hr, hrun, hended, hW, hsame⟩ := X.leave (v := some w) (fun h => by rw [hret] at h; cases h) hlk
  exact ⟨_, Jvm.RoadKit.retOut X hx hret hnw hi hd hr, _, hrun, hended, _, _, rfl, hQ, ⟨_, rfl⟩, hW, hsame.mono hk hn⟩
theorem goI (X : Stand p l e R s m args below meth c T locs cells slots) (hx : p.tables.exec = Jvm.exec) {pc : Nat} {Ls : Array Slot} {z : Int32} {rest : List Value} (hret : meth.sig.returnType = some .int) (hlk : meth.locks = false)
    (hd : decode c.code pc = .ok (.ireturn, 1)) (hQ : Q (some (.int z)) T.heap locs) (hk : cells ≤ k) (hn : slots ≤ n) : Go p e below (Fin1 s below Q k n) T (mkF m pc Ls (.int z :: rest)) :=
  goO X hx hret rfl (Or.inl ⟨rfl, Or.inl rfl, _, rfl⟩) hlk hd hQ hk hn
theorem goJ (X : Stand p l e R s m args below meth c T locs cells slots) (hx : p.tables.exec = Jvm.exec) {pc : Nat} {Ls : Array Slot} {z : Int64} {rest : List Value} (hret : meth.sig.returnType = some .long) (hlk : meth.locks = false)
    (hd : decode c.code pc = .ok (.lreturn, 1)) (hQ : Q (some (.long z)) T.heap locs) (hk : cells ≤ k) (hn : slots ≤ n) : Go p e below (Fin1 s below Q k n) T (mkF m pc Ls (.long z :: rest)) :=
  goO X hx hret rfl (Or.inr (Or.inl ⟨rfl, rfl, _, rfl⟩)) hlk hd hQ hk hn
theorem goA (X : Stand p l e R s m args below meth c T locs cells slots) (hx : p.tables.exec = Jvm.exec) {pc : Nat} {Ls : Array Slot} {w : Value} {t : FieldType} {rest : List Value} (hret : meth.sig.returnType = some t) (ht : t.isReference = true) (hw : w.isRef = true) (hlk : meth.locks = false)
    (hd : decode c.code pc = .ok (.areturn, 1)) (hQ : Q (some w) T.heap locs) (hk : cells ≤ k) (hn : slots ≤ n) : Go p e below (Fin1 s below Q k n) T (mkF m pc Ls (w :: rest)) :=
  goO X hx hret (by cases t <;> cases w <;> first | rfl | (simp [FieldType.isReference] at ht; done) | (simp [Value.isRef] at hw; done)) (Or.inr (Or.inr (Or.inr (Or.inr ⟨rfl, ht, hw⟩)))) hlk hd hQ hk hn
theorem goV (X : Stand p l e R s m args below meth c T locs cells slots) (hx : p.tables.exec = Jvm.exec) {pc : Nat} {Ls : Array Slot} (hret : meth.sig.returnType = none) (hlk : meth.locks = false)
    (hd : decode c.code pc = .ok (.return_, 1)) (hQ : Q none T.heap locs) (hk : cells ≤ k) (hn : slots ≤ n) : Go p e below (Fin1 s below Q k n) T (mkF m pc Ls []) := by
  obtain ⟨fs, hr, hrun, hended, hW, hsame⟩ := X.leave (v := none) (fun _ => rfl) hlk
  exact ⟨_, X.returnOut hx hret hd hr, _, hrun, hended, _, _, rfl, hQ, ⟨_, rfl⟩, hW, hsame.mono hk hn⟩
def FinW (s : State) (below : List Frame) (Q : Option Value → Heap → List Loc → Prop) (k n : Nat) (t : State) : Prop := ∃ o, t.status = .running ∧ Ended t below o ∧ ∃ v L, o = .returned v ∧ Q v t.heap L ∧ ReturnedEndW s o t L k n
theorem of_goW {p : Program} {e : Env} {below : List Frame} {s s₁ : State} {Q : Option Value → Heap → List Loc → Prop} {k n : Nat} {f f' : JFrame} (hf : f' = f) (h : Go p e below (FinW s below Q k n) s₁ f) :
    ∃ s₂ o, Steps p.tables e below (s₁.setTop f') s₂ ∧ s₂.status = .running ∧ Ended s₂ below o ∧ ∃ v L, o = .returned v ∧ Q v s₂.heap L ∧ ReturnedEndW s o s₂ L k n := by
  subst hf
  obtain ⟨t, h1, o, h2, h3, h4⟩ := h
  exact ⟨t, o, h1, h2, h3, h4⟩
theorem goNW {vm0 : Vm} {n1 : Nat} (hS : s.Since vm0 n1) (X : Stand p l e R (s.setVm vm0) m args below meth c T locs cells slots) (hkk : n1 ≤ T.heap.size) (hx : p.tables.exec = Jvm.exec) {pc : Nat} {Ls : Array Slot} {z : Int32} {t : FieldType} {rest : List Value} (hret : meth.sig.returnType = some t) (ht : t = .boolean ∨ t = .byte ∨ t = .char ∨ t = .short) (hlk : meth.locks = false)
    (hd : decode c.code pc = .ok (.ireturn, 1)) (hQ : Q (some (.int (nar t z))) T.heap locs) (hk : cells ≤ k) (hn : slots ≤ n) : Go p e below (FinW s below Q k n) T (mkF m pc Ls (.int z :: rest)) := by
  obtain ⟨fs, hr, hrun, hended, hW, hsame⟩ := X.leave (v := some (.int (nar t z))) (fun h => by rw [hret] at h; cases h) hlk
  obtain ⟨a1, a2, a3⟩ := hS.ended hW (show n1 ≤ (T.setFrames fs).heap.size from hkk) hsame
  exact ⟨_, Jvm.RoadKit.retN X hx hret ht hd hr, _, hrun, hended, _, _, rfl, hQ, ⟨_, rfl⟩, a1, a2, a3.mono hk hn⟩
theorem goOW {vm0 : Vm} {n1 : Nat} (hS : s.Since vm0 n1) (X : Stand p l e R (s.setVm vm0) m args below meth c T locs cells slots) (hkk : n1 ≤ T.heap.size) (hx : p.tables.exec = Jvm.exec) {pc : Nat} {Ls : Array Slot} {w : Value} {t : FieldType} {i : Instr} {rest : List Value} (hret : meth.sig.returnType = some t) (hnw : narrow t w = w)
    (hi : (i = .ireturn ∧ (t = .int ∨ t = .boolean ∨ t = .byte ∨ t = .char ∨ t = .short) ∧ ∃ z, w = .int z) ∨ (i = .lreturn ∧ t = .long ∧ ∃ z, w = .long z) ∨ (i = .dreturn ∧ t = .double ∧ ∃ z, w = .double z) ∨ (i = .freturn ∧ t = .float ∧ ∃ z, w = .float z) ∨ (i = .areturn ∧ t.isReference = true ∧ w.isRef = true)) (hlk : meth.locks = false)
    (hd : decode c.code pc = .ok (i, 1)) (hQ : Q (some w) T.heap locs) (hk : cells ≤ k) (hn : slots ≤ n) : Go p e below (FinW s below Q k n) T (mkF m pc Ls (w :: rest)) := by
  obtain ⟨fs, hr, hrun, hended, hW, hsame⟩ := X.leave (v := some w) (fun h => by rw [hret] at h; cases h) hlk
  obtain ⟨a1, a2, a3⟩ := hS.ended hW (show n1 ≤ (T.setFrames fs).heap.size from hkk) hsame
  exact ⟨_, Jvm.RoadKit.retOut X hx hret hnw hi hd hr, _, hrun, hended, _, _, rfl, hQ, ⟨_, rfl⟩, a1, a2, a3.mono hk hn⟩
theorem goIW {vm0 : Vm} {n1 : Nat} (hS : s.Since vm0 n1) (X : Stand p l e R (s.setVm vm0) m args below meth c T locs cells slots) (hkk : n1 ≤ T.heap.size) (hx : p.tables.exec = Jvm.exec) {pc : Nat} {Ls : Array Slot} {z : Int32} {rest : List Value} (hret : meth.sig.returnType = some .int) (hlk : meth.locks = false)
    (hd : decode c.code pc = .ok (.ireturn, 1)) (hQ : Q (some (.int z)) T.heap locs) (hk : cells ≤ k) (hn : slots ≤ n) : Go p e below (FinW s below Q k n) T (mkF m pc Ls (.int z :: rest)) :=
  goOW hS X hkk hx hret rfl (Or.inl ⟨rfl, Or.inl rfl, _, rfl⟩) hlk hd hQ hk hn
theorem goAW {vm0 : Vm} {n1 : Nat} (hS : s.Since vm0 n1) (X : Stand p l e R (s.setVm vm0) m args below meth c T locs cells slots) (hkk : n1 ≤ T.heap.size) (hx : p.tables.exec = Jvm.exec) {pc : Nat} {Ls : Array Slot} {w : Value} {t : FieldType} {rest : List Value} (hret : meth.sig.returnType = some t) (ht : t.isReference = true) (hw : w.isRef = true) (hlk : meth.locks = false)
    (hd : decode c.code pc = .ok (.areturn, 1)) (hQ : Q (some w) T.heap locs) (hk : cells ≤ k) (hn : slots ≤ n) : Go p e below (FinW s below Q k n) T (mkF m pc Ls (w :: rest)) :=
  goOW hS X hkk hx hret (by cases t <;> cases w <;> first | rfl | (simp [FieldType.isReference] at ht; done) | (simp [Value.isRef] at hw; done)) (Or.inr (Or.inr (Or.inr (Or.inr ⟨rfl, ht, hw⟩)))) hlk hd hQ hk hn
theorem goVW {vm0 : Vm} {n1 : Nat} (hS : s.Since vm0 n1) (X : Stand p l e R (s.setVm vm0) m args below meth c T locs cells slots) (hkk : n1 ≤ T.heap.size) (hx : p.tables.exec = Jvm.exec) {pc : Nat} {Ls : Array Slot} (hret : meth.sig.returnType = none) (hlk : meth.locks = false)
    (hd : decode c.code pc = .ok (.return_, 1)) (hQ : Q none T.heap locs) (hk : cells ≤ k) (hn : slots ≤ n) : Go p e below (FinW s below Q k n) T (mkF m pc Ls []) := by
  obtain ⟨fs, hr, hrun, hended, hW, hsame⟩ := X.leave (v := none) (fun _ => rfl) hlk
  obtain ⟨a1, a2, a3⟩ := hS.ended hW (show n1 ≤ (T.setFrames fs).heap.size from hkk) hsame
  exact ⟨_, X.returnOut hx hret hd hr, _, hrun, hended, _, _, rfl, hQ, ⟨_, rfl⟩, a1, a2, a3.mono hk hn⟩
theorem narB {z : Int32} (h : z = 0 ∨ z = 1) : nar .boolean z = z := by rcases h with rfl | rfl <;> rfl
end Ends
section Refs
variable {p : Program} {l : Launch} {e : Env} {R : Room} {s : State} {m : MethodId} {args : Array Value} {below : List Frame} {meth : Method} {c : Code} {T : State} {locs : List Loc} {cells slots : Nat} {Z : State} {a0 : Array Value} {h : Heap}
theorem own_frdy (X : Stand p l e R s m args below meth c T locs cells slots) (hZ : Z.Warmed39 s.vm) {own O n d : String} {index : Nat} (hown : s.vm.findClass own = some m.cls) (w : (Jvm.Cond.fieldRef own index O n d).before a0 Z = true) {cf i : Nat} {k : Class} {f : Field} (h2 : Z.fieldFound? O n d = some (cf, k, i, f)) : T.vm.fieldReady m.cls index cf f := by
  have w1 : (Jvm.Cond.fieldRef own index O n d).before a0 (Z.setVm s.vm) = true := Cond.fieldRef_warmed39 hZ w
  have hW : (Z.setVm s.vm).WarmedH T.vm := X.warmed
  have w2 := Cond.fieldRef_warmed hW w1
  have hcur : ((Z.setVm s.vm).setVm T.vm).vm.findClass own = some m.cls := by
    show T.vm.findClass own = some m.cls
    rw [X.warmed.alike.findClass]; exact hown
  obtain ⟨c1, k1, i1, f1, q1, q2⟩ := Cond.fieldRef_spec hcur w2
  obtain ⟨k', r1, -⟩ := State.fieldFound?_setVm (s := Z) hZ.alike h2
  obtain ⟨k'', r2, -⟩ := State.fieldFound?_setVm (s := Z.setVm s.vm) (X.warmed.alike : (Z.setVm s.vm).vm.Alike T.vm) r1
  cases q1.symm.trans r2
  exact q2
theorem own_getR (X : Stand p l e R s m args below meth c T locs cells slots) (hx : p.tables.exec = Jvm.exec) (hZ : Z.Warmed39 s.vm) {own O n d : String} {index : Nat} (hown : s.vm.findClass own = some m.cls) (w : (Jvm.Cond.fieldRef own index O n d).before a0 Z = true)
    (eT : T.heap = h) {a : Addr} {v : Value} (F : Fld Z h a O n d v) {g : JFrame} (hg : g.method = m) {rest : List Value} (hs : g.stack = .ref a :: rest) (hd : decode c.code g.pc = .ok (.getfield index, 3)) : ∃ T', Stand p l e R s m args below meth c T' locs cells slots ∧ T'.heap = h ∧ ∀ target, Steps p.tables e below (T'.setTop { g with pc := g.pc + 3, stack := v :: rest }) target → Steps p.tables e below (T.setTop g) target := by
  obtain ⟨cell, cf, k, i, f, h1, h2, h3, h4, -, -, h7⟩ := F
  have hr := own_frdy X hZ hown w h2
  refine ⟨T, X, eT, fun target hrest => ?_⟩
  subst hg
  jvm_step X.here [hx, hd, getfield.wp_ready (e := e) (s := T) (f := g) X.here.top hr h3 hs (by rw [eT]; exact h1) h4 h7]
  exact hrest
theorem own_putR (X : Stand p l e R s m args below meth c T locs cells slots) (hx : p.tables.exec = Jvm.exec) (hZ : Z.Warmed39 s.vm) {own O n d C : String} {index kk : Nat} {ty : FieldType} (hown : s.vm.findClass own = some m.cls) (w : (Jvm.Cond.fieldRef own index O n d).before a0 Z = true)
    (eT : T.heap = h) {a : Addr} {v old : Value} (F : Fld Z h a O n d old) (E : Exa Z h a C) (L : (Jvm.Cond.lays C O n d).before a0 Z = true) (wi : (Jvm.Cond.instantiable C kk).before a0 Z = true)
    (hty : parseFieldDescriptor d = some ty) (hn : narrow ty v = v) (hf : fits ty v = true) {g : JFrame} (hg : g.method = m) {rest : List Value} (hs : g.stack = v :: .ref a :: rest) (hd : decode c.code g.pc = .ok (.putfield index, 3)) :
    ∃ T' h', Stand p l e R s m args below meth c T' (locs ++ [⟨a, Jvm.RoadKit.slotOf Z O n d⟩]) cells slots ∧ T'.heap = h' ∧ Wr h h' a (Jvm.RoadKit.slotOf Z O n d) v ∧ ∀ target, Steps p.tables e below (T'.setTop { g with pc := g.pc + 3, stack := rest }) target → Steps p.tables e below (T.setTop g) target := by
  obtain ⟨cell, cf, k, i, f, h1, h2, h3, h4, h5, -, h7⟩ := F
  obtain ⟨cell', kc, e1, e2, e3, -⟩ := E
  cases h1.symm.trans e1
  obtain ⟨c1, k1, cf1, kf1, i1, f1, a1, a2, a3, -, -, a6, -⟩ := Laid.spec (Or.inl L)
  cases h2.symm.trans a3
  cases e2.symm.trans a1
  obtain ⟨c2, k2, j1, j2, j3, -⟩ := Cond.instantiable_spec wi
  cases e2.symm.trans j1
  cases a2.symm.trans j2
  have ht := (State.fieldFound?_type h2 hty).2
  have hfit : Z.fitsSlot cell.cls cell.vm f.slot v = true := by
    have q : Z.slotType? cell.cls cell.vm f.slot = some ty := by
      simp only [State.slotType?, a2, Option.bind_eq_bind, Option.bind_some, j3]
      cases hq : cell.vm <;> first | (rw [hq] at h5; exact Bool.noConfusion h5) | (rw [a6, ht])
    simp [State.fitsSlot, q, hf]
  have hfit' : s.fitsSlot cell.cls cell.vm f.slot v = true := by rw [← State.fitsSlot_setVm hZ.alike] at hfit; exact hfit
  have hfitT : T.fitsSlot cell.cls cell.vm f.slot v = true := by
    rw [← State.fitsSlot_setVm X.warmed.alike] at hfit'; exact hfit'
  obtain ⟨_, _, _, _, _, _, -, -, b3, -, b5, -⟩ := Cond.lays_spec L
  cases h2.symm.trans b3
  have hlt := (Array.getElem?_eq_some_iff.mp h7).1
  have es : Jvm.RoadKit.slotOf Z O n d = f.slot := by simp [Jvm.RoadKit.slotOf, h2]
  have hr := own_frdy X hZ hown w h2
  have hcell : T.heap[a]? = some cell := by rw [eT]; exact h1
  have hnw : narrow f.type v = v := by rw [ht]; exact hn
  rw [es]
  refine ⟨_, _, X.stored hcell f.slot v, rfl, ⟨cell, h1, h5, hlt, by rw [← eT]; rfl⟩, fun target hrest => ?_⟩
  subst hg
  jvm_step X.here [hx, hd, putfield.wp_ready (e := e) (s := T) (f := g) X.here.top hr h3 b5 hs hcell h4, hnw, hlt, hfitT]
  exact hrest
theorem own_mvR (hZ : Z.Warmed39 s.vm) {own : String} {index : Nat} {y : MethodName} (hinst : (Jvm.Cond.instanceMethod y).before a0 Z = true) (hy : y.cls ≠ "java/lang/invoke/MethodHandle" ∧ y.cls ≠ "java/lang/invoke/VarHandle") (w : (Jvm.Cond.methodRef own index y).before a0 Z = true) : (Jvm.Cond.methodRef own index y).before args s = true := by
  obtain ⟨obj, methO, hnO, -⟩ := Cond.instanceMethod_spec hinst
  have h1 : (Jvm.Cond.methodRef own index y).before a0 (Z.setVm s.vm) = true := Cond.methodRef_warmed39 hZ hnO hy w
  exact h1
theorem own_specR (X : Stand p l e R s m args below meth c T locs cells slots) (hexec : p.tables.exec = Jvm.exec) {own : String} {index : Nat} {y : MethodName} (hy1 : y.name = "<init>")
    (hown : s.vm.findClass own = some m.cls) (href : (Jvm.Cond.methodRef own index y).before args s = true) (hinst : (Jvm.Cond.instanceMethod y).before args s = true)
    {bytes : ByteArray} {maxL : Nat} (hcode : (Jvm.Cond.code y bytes maxL none).before args s = true)
    (hy : y.cls ≠ "java/lang/invoke/MethodHandle" ∧ y.cls ≠ "java/lang/invoke/VarHandle")
    {W : Nat} {Pre : Pt → Array Value → Prop} {Post : Pt → Array Value → Option Value → Pt → Prop} (hK : Back l R p e below s args y 3 W Pre Post)
    {g : JFrame} (hg : g.method = m) (hsize : g.locals.size = c.maxLocals) {s₀ : State} (hcome : Steps p.tables e below s₀ (T.setTop g)) {a : Addr} {argsL rest : List Value}
    (hlen : ∀ sig, parseMethodDescriptor y.desc = some sig → argsL.length = sig.parameters.length) (hstack : g.stack = argsL.reverse ++ .ref a :: rest) (hW : 2 * g.monitorRoom + (rest.map fun v => v.category).sum ≤ W)
    (hdg : decode c.code g.pc = .ok (.invokespecial index, 3)) (hpre : ∀ vm₁, s.WarmedH vm₁ → Pre ⟨T.setVm vm₁, locs, cells, slots⟩ (.ref a :: argsL).toArray) :
    ∃ (v : Option Value) (vm₁ : Vm) (B : Pt), s.WarmedH vm₁ ∧ Stand p l e R s m args below meth c B.U B.locs B.cells B.slots ∧ Post ⟨T.setVm vm₁, locs, cells, slots⟩ (.ref a :: argsL).toArray v B ∧
      Steps p.tables e below s₀ (B.U.setTop { g with pc := g.pc + 3, stack := v.toList ++ rest }) := by
  obtain ⟨obj, methO, hnO, hmO, hstO, habO⟩ := Cond.instanceMethod_spec hinst
  obtain ⟨methO', cO, hmO', hcO, hbO, hlO, -, hlockO, -, hsigO⟩ := Cond.code_spec hnO hcode
  cases hmO.symm.trans hmO'
  obtain ⟨kO, hkO, hnameO⟩ := className_of_methodNamed hnO
  obtain ⟨hnameMO, hdescO⟩ := name_of_methodNamed hnO hmO
  have hal := X.warmed.alike
  have hT : (Jvm.Cond.methodRef own index y).before args (s.setVm T.vm) = true := Cond.methodRef_warmed X.warmed hnO hy href
  have hcur : (s.setVm T.vm).vm.findClass own = some m.cls := by
    show T.vm.findClass own = some m.cls
    rw [hal.findClass]; exact hown
  obtain ⟨m1, c1, q1, q2, q3, q4⟩ := Cond.methodRef_named e hcur hT
  have hnT : (s.setVm T.vm).methodNamed? y = some obj := X.named hnO
  cases q1.symm.trans (State.methodFound?_of_named hnT hy)
  cases q3.symm.trans (findClass_of_methodNamed hnT)
  obtain ⟨kT, hkT, -⟩ := hal.2.2 _ _ hkO
  have hmT : T.vm.method? obj = some methO := by rw [hal.method?]; exact hmO
  have hfound : lookupSpecial T.vm obj.cls "<init>" methO.desc = .method obj := by
    rw [hal.lookupSpecial, hdescO, ← hy1]; exact lookupSpecial_of_named hnO hmO hstO
  obtain ⟨v, B, X', hpost, hsteps⟩ := hK m meth c ⟨T, locs, cells, slots⟩ { g with stack := rest } (.invokespecial index) obj (Value.ref a :: argsL).toArray X hg hsize hdg hW (X.named hnO) (hpre T.vm X.warmed)
  refine ⟨v, T.vm, B, X.warmed, X', hpost, hcome.trans ?_⟩
  subst hg
  jvm_step X.here [hexec, hdg, invokespecial.wp_init (e := e) (s := T) (k := kT) (meth := methO) (m := obj) (a := a) (args := argsL) (rest := rest) (f := g) X.here.top q4 q2 hkT hmT (by rw [hnameMO]; exact hy1) hstO habO hfound (hlen _ hsigO) hstack]
  intro acts
  rw [doInvoke_state]
  exact hsteps
end Refs
theorem own_eqk {args : Array Value} {s : State} {t : Term} {k : Int32} (h : (Jvm.Cond.eq t (Term.int k)).value args s none s [] = some true) : t.eval args s none [] s = some (.int k) := by
  simp only [Cond.value, Term.eval] at h
  cases ht : t.eval args s none [] s with
  | none => simp [ht] at h
  | some x => cases x <;> simp [ht] at h ⊢; exact h
theorem own_sA {Z : State} {a0 : Array Value} (hw : ∀ d ∈ tables_1, d.before a0 Z = true) : ∀ a ∈ Bundle.stringAtoms, a.before a0 Z = true := by
  intro a ha
  simp only [Bundle.stringAtoms, List.mem_cons, List.not_mem_nil, or_false] at ha
  rcases ha with rfl | rfl | rfl | rfl | rfl | rfl | rfl
  all_goals first | exact hw _ (List.mem_of_getElem? (i := 44) rfl) | exact hw _ (List.mem_of_getElem? (i := 45) rfl) | exact hw _ (List.mem_of_getElem? (i := 46) rfl) | exact hw _ (List.mem_of_getElem? (i := 47) rfl) | exact hw _ (List.mem_of_getElem? (i := 48) rfl) | exact hw _ (List.mem_of_getElem? (i := 49) rfl) | exact hw _ (List.mem_of_getElem? (i := 50) rfl)
theorem own_7i {x : Int} (h0 : 0 ≤ x) (h1 : x < 7) : x = 0 ∨ x = 1 ∨ x = 2 ∨ x = 3 ∨ x = 4 ∨ x = 5 ∨ x = 6 := by omega
theorem own_7r (x : Int32) : 0 ≤ ((x &&& (2147483647 : Int32)) % (7 : Int32)).toInt ∧ ((x &&& (2147483647 : Int32)) % (7 : Int32)).toInt < 7 := by
  have h := c_and x 2147483647 (by decide)
  have h1 := (c_irem (x &&& 2147483647) 7 7 rfl).1 h.1
  omega
theorem d1_0 : decode method_3_code 0 = .ok (.iload_n 0, 1) := by decide +kernel
theorem d1_1 : decode method_3_code 1 = .ok (.ifCond .ne 7, 3) := by decide +kernel
theorem d1_4 : decode method_3_code 4 = .ok (.getstatic 38, 3) := by decide +kernel
theorem d1_7 : decode method_3_code 7 = .ok (.areturn, 1) := by decide +kernel
theorem d1_8 : decode method_3_code 8 = .ok (.iload_n 0, 1) := by decide +kernel
theorem d1_9 : decode method_3_code 9 = .ok (.iconst 1, 1) := by decide +kernel
theorem d1_10 : decode method_3_code 10 = .ok (.if_icmp .ne 7, 3) := by decide +kernel
theorem d1_13 : decode method_3_code 13 = .ok (.getstatic 44, 3) := by decide +kernel
theorem d1_16 : decode method_3_code 16 = .ok (.areturn, 1) := by decide +kernel
theorem d1_17 : decode method_3_code 17 = .ok (.iload_n 0, 1) := by decide +kernel
theorem d1_18 : decode method_3_code 18 = .ok (.iconst 2, 1) := by decide +kernel
theorem d1_19 : decode method_3_code 19 = .ok (.if_icmp .ne 7, 3) := by decide +kernel
theorem d1_22 : decode method_3_code 22 = .ok (.getstatic 47, 3) := by decide +kernel
theorem d1_25 : decode method_3_code 25 = .ok (.areturn, 1) := by decide +kernel
theorem d1_26 : decode method_3_code 26 = .ok (.iload_n 0, 1) := by decide +kernel
theorem d1_27 : decode method_3_code 27 = .ok (.iconst 3, 1) := by decide +kernel
theorem d1_28 : decode method_3_code 28 = .ok (.if_icmp .ne 7, 3) := by decide +kernel
theorem d1_31 : decode method_3_code 31 = .ok (.getstatic 50, 3) := by decide +kernel
theorem d1_34 : decode method_3_code 34 = .ok (.areturn, 1) := by decide +kernel
theorem d1_35 : decode method_3_code 35 = .ok (.iload_n 0, 1) := by decide +kernel
theorem d1_36 : decode method_3_code 36 = .ok (.iconst 4, 1) := by decide +kernel
theorem d1_37 : decode method_3_code 37 = .ok (.if_icmp .ne 7, 3) := by decide +kernel
theorem d1_40 : decode method_3_code 40 = .ok (.getstatic 53, 3) := by decide +kernel
theorem d1_43 : decode method_3_code 43 = .ok (.areturn, 1) := by decide +kernel
theorem d1_44 : decode method_3_code 44 = .ok (.iload_n 0, 1) := by decide +kernel
theorem d1_45 : decode method_3_code 45 = .ok (.iconst 5, 1) := by decide +kernel
theorem d1_46 : decode method_3_code 46 = .ok (.if_icmp .ne 7, 3) := by decide +kernel
theorem d1_49 : decode method_3_code 49 = .ok (.getstatic 56, 3) := by decide +kernel
theorem d1_52 : decode method_3_code 52 = .ok (.areturn, 1) := by decide +kernel
theorem d1_53 : decode method_3_code 53 = .ok (.getstatic 59, 3) := by decide +kernel
theorem d1_56 : decode method_3_code 56 = .ok (.areturn, 1) := by decide +kernel
theorem pn_1 : plainName "com/example/managed_transactions/managedtransactions/model/TransactionDefinitionOfPinLaw" = true := by first | (simp [plainName, overriddenIn]; done) | decide +kernel
theorem ef_rm1 (m : MethodId) (p1 : Int32) : entryFrame m #[(.int p1)] 1 = mkF m 0 #[.val (.int p1)] [] := by first | (simp [entryFrame, mkF, argsToLocals, Value.category]; done) | rfl
def Q_rm1 (Z : State) (p1 : Int32) (A : Int → Addr) (h0 : Heap) (n0 : Nat) (rv : Option Value) (hq : Heap) (Lq : List Loc) : Prop := rv = some (.ref (A p1.toInt)) ∧ Fr n0 Lq ∧ hq = h0
set_option maxRecDepth 65536 in
set_option maxHeartbeats 40000000 in
theorem rm1 (l : Launch) (Z : State) (a0 : Array Value) (hw : ∀ d ∈ tables_1, d.before a0 Z = true) (ws : List Jvm.Cond) (p1 : Int32) (A : Int → Addr) (h0 : Heap) (n0 : Nat) (Z0 : n0 ≤ h0.size) (O0 : Old Z n0 h0) (S_REQUIRED : Sta Z Z.heap "com/example/managed_transactions/managedtransactions/model/Propagation" "REQUIRED" "Lcom/example/managed_transactions/managedtransactions/model/Propagation;" (.ref (A 0))) (S_SUPPORTS : Sta Z Z.heap "com/example/managed_transactions/managedtransactions/model/Propagation" "SUPPORTS" "Lcom/example/managed_transactions/managedtransactions/model/Propagation;" (.ref (A 1))) (S_MANDATORY : Sta Z Z.heap "com/example/managed_transactions/managedtransactions/model/Propagation" "MANDATORY" "Lcom/example/managed_transactions/managedtransactions/model/Propagation;" (.ref (A 2))) (S_REQUIRES_NEW : Sta Z Z.heap "com/example/managed_transactions/managedtransactions/model/Propagation" "REQUIRES_NEW" "Lcom/example/managed_transactions/managedtransactions/model/Propagation;" (.ref (A 3))) (S_NOT_SUPPORTED : Sta Z Z.heap "com/example/managed_transactions/managedtransactions/model/Propagation" "NOT_SUPPORTED" "Lcom/example/managed_transactions/managedtransactions/model/Propagation;" (.ref (A 4))) (S_NEVER : Sta Z Z.heap "com/example/managed_transactions/managedtransactions/model/Propagation" "NEVER" "Lcom/example/managed_transactions/managedtransactions/model/Propagation;" (.ref (A 5))) (S_NESTED : Sta Z Z.heap "com/example/managed_transactions/managedtransactions/model/Propagation" "NESTED" "Lcom/example/managed_transactions/managedtransactions/model/Propagation;" (.ref (A 6))) (hp : 0 ≤ p1.toInt ∧ p1.toInt < 7) :
    MetFree l (⟨"com/example/managed_transactions/managedtransactions/model/TransactionDefinitionOfPinLaw", "pick", "(I)Lcom/example/managed_transactions/managedtransactions/model/Propagation;"⟩ : MethodName) (head1 (Jvm.Cond.code (⟨"com/example/managed_transactions/managedtransactions/model/TransactionDefinitionOfPinLaw", "pick", "(I)Lcom/example/managed_transactions/managedtransactions/model/Propagation;"⟩ : MethodName) method_3_code 1 (some (.object "com/example/managed_transactions/managedtransactions/model/Propagation")) :: ws) ({ frames := 0, cells := 0, slots := 0, locals := 0 } : Room)) (fun a U => a = #[(.int p1)] ∧ Z.Warmed39 U.vm ∧ U.heap = h0) (fun _ _ _ _ _ => True) (fun _ U o U' => ∃ rv Lq, o = .returned rv ∧ Q_rm1 Z p1 A h0 n0 rv U'.heap Lq ∧ FrameEnd U o U' Lq ({ frames := 0, cells := 0, slots := 0, locals := 0 } : Room).cells ({ frames := 0, cells := 0, slots := 0, locals := 0 } : Room).slots) := by
  refine MetFree.of_bodySF (plainFor_of_name pn_1) hisR ?_
  intro p e s m args below meth c s₁ Bd hml0 hP hK
  obtain ⟨rfl, hZ, hh⟩ := hP
  have hx := Bd.exec
  have hby := Bd.bytes
  have hml : c.maxLocals = 1 := hml0
  have hown : s.vm.findClass "com/example/managed_transactions/managedtransactions/model/TransactionDefinitionOfPinLaw" = some m.cls := findClass_of_methodNamed Bd.named
  have hnm := (name_of_methodNamed Bd.named Bd.method).1
  have X0 : Stand p l e ({ frames := 0, cells := 0, slots := 0, locals := 0 } : Room) s m #[(.int p1)] below meth c s₁ [] 0 0 := Stand.of_body Bd
  have e0 : s₁.heap = h0 := by rw [← hh, Bd.state]; rfl
  have N0 := Fr.nil n0
  refine of_go (ef_rm1 m p1) ?_
  refine Go.step (T' := s₁) (f' := (mkF m 1 #[.val (.int p1)] [(.int p1)])) (fun _ k => XS.iloadN X0.here hx rfl (hb hby d1_0) rfl k) ?_
  by_cases hc1 : p1 = (0 : Int32)
  · refine Go.step (T' := s₁) (f' := (mkF m 4 #[.val (.int p1)] [])) (fun _ k => XS.ifNo X0.here hx rfl (hb hby d1_1) rfl ((if0 _ _).trans (teq hc1).2) k) ?_
    obtain ⟨T1, X1, e1, st1⟩ := getS2 X0 hx hZ hown (host := "") (Or.inl (hw _ (List.mem_of_getElem? (i := 5) rfl))) Via.refl e0 (S_REQUIRED.ext O0.2) (g := (mkF m 4 #[.val (.int p1)] [])) rfl (hb hby d1_4)
    refine Go.step (T' := T1) (f' := (mkF m 7 #[.val (.int p1)] [(.ref (A 0))])) st1 ?_
    refine goA X1 hx Bd.returns rfl rfl Bd.notSynchronized (hb hby d1_7) ?_ (by decide) (by decide)
    show Q_rm1 Z p1 A h0 n0 _ T1.heap _
    rw [e1]
    exact ⟨by rw [show p1.toInt = 0 from (by simp only [Int32.lt_iff_toInt_lt, ← Int32.toInt_inj, Int32.reduceToInt] at hc1 <;> omega)], N0, rfl⟩
  · refine Go.step (T' := s₁) (f' := (mkF m 8 #[.val (.int p1)] [])) (fun _ k => XS.ifYes X0.here hx rfl (pc0 := 1) (pc' := 8) rfl (hb hby d1_1) rfl ((if0 _ _).trans (feq hc1).2) (by decide) (by decide) k) ?_
    refine Go.step (T' := s₁) (f' := (mkF m 9 #[.val (.int p1)] [(.int p1)])) (fun _ k => XS.iloadN X0.here hx rfl (hb hby d1_8) rfl k) ?_
    refine Go.step (T' := s₁) (f' := (mkF m 10 #[.val (.int p1)] [(.int (1 : Int32)), (.int p1)])) (fun _ k => XS.iconst X0.here hx rfl (hb hby d1_9) k) ?_
    by_cases hc10 : p1 = (1 : Int32)
    · refine Go.step (T' := s₁) (f' := (mkF m 13 #[.val (.int p1)] [])) (fun _ k => XS.icmpNo X0.here hx rfl (hb hby d1_10) rfl (teq hc10).2 k) ?_
      obtain ⟨T2, X2, e2, st2⟩ := getS2 X0 hx hZ hown (host := "") (Or.inl (hw _ (List.mem_of_getElem? (i := 96) rfl))) Via.refl e0 (S_SUPPORTS.ext O0.2) (g := (mkF m 13 #[.val (.int p1)] [])) rfl (hb hby d1_13)
      refine Go.step (T' := T2) (f' := (mkF m 16 #[.val (.int p1)] [(.ref (A 1))])) st2 ?_
      refine goA X2 hx Bd.returns rfl rfl Bd.notSynchronized (hb hby d1_16) ?_ (by decide) (by decide)
      show Q_rm1 Z p1 A h0 n0 _ T2.heap _
      rw [e2]
      exact ⟨by rw [show p1.toInt = 1 from (by simp only [Int32.lt_iff_toInt_lt, ← Int32.toInt_inj, Int32.reduceToInt] at hc1 hc10 <;> omega)], N0, rfl⟩
    · refine Go.step (T' := s₁) (f' := (mkF m 17 #[.val (.int p1)] [])) (fun _ k => XS.icmpYes X0.here hx rfl (pc0 := 10) (pc' := 17) rfl (hb hby d1_10) rfl (feq hc10).2 (by decide) (by decide) k) ?_
      refine Go.step (T' := s₁) (f' := (mkF m 18 #[.val (.int p1)] [(.int p1)])) (fun _ k => XS.iloadN X0.here hx rfl (hb hby d1_17) rfl k) ?_
      refine Go.step (T' := s₁) (f' := (mkF m 19 #[.val (.int p1)] [(.int (2 : Int32)), (.int p1)])) (fun _ k => XS.iconst X0.here hx rfl (hb hby d1_18) k) ?_
      by_cases hc19 : p1 = (2 : Int32)
      · refine Go.step (T' := s₁) (f' := (mkF m 22 #[.val (.int p1)] [])) (fun _ k => XS.icmpNo X0.here hx rfl (hb hby d1_19) rfl (teq hc19).2 k) ?_
        obtain ⟨T3, X3, e3, st3⟩ := getS2 X0 hx hZ hown (host := "") (Or.inl (hw _ (List.mem_of_getElem? (i := 94) rfl))) Via.refl e0 (S_MANDATORY.ext O0.2) (g := (mkF m 22 #[.val (.int p1)] [])) rfl (hb hby d1_22)
        refine Go.step (T' := T3) (f' := (mkF m 25 #[.val (.int p1)] [(.ref (A 2))])) st3 ?_
        refine goA X3 hx Bd.returns rfl rfl Bd.notSynchronized (hb hby d1_25) ?_ (by decide) (by decide)
        show Q_rm1 Z p1 A h0 n0 _ T3.heap _
        rw [e3]
        exact ⟨by rw [show p1.toInt = 2 from (by simp only [Int32.lt_iff_toInt_lt, ← Int32.toInt_inj, Int32.reduceToInt] at hc1 hc10 hc19 <;> omega)], N0, rfl⟩
      · refine Go.step (T' := s₁) (f' := (mkF m 26 #[.val (.int p1)] [])) (fun _ k => XS.icmpYes X0.here hx rfl (pc0 := 19) (pc' := 26) rfl (hb hby d1_19) rfl (feq hc19).2 (by decide) (by decide) k) ?_
        refine Go.step (T' := s₁) (f' := (mkF m 27 #[.val (.int p1)] [(.int p1)])) (fun _ k => XS.iloadN X0.here hx rfl (hb hby d1_26) rfl k) ?_
        refine Go.step (T' := s₁) (f' := (mkF m 28 #[.val (.int p1)] [(.int (3 : Int32)), (.int p1)])) (fun _ k => XS.iconst X0.here hx rfl (hb hby d1_27) k) ?_
        by_cases hc28 : p1 = (3 : Int32)
        · refine Go.step (T' := s₁) (f' := (mkF m 31 #[.val (.int p1)] [])) (fun _ k => XS.icmpNo X0.here hx rfl (hb hby d1_28) rfl (teq hc28).2 k) ?_
          obtain ⟨T4, X4, e4, st4⟩ := getS2 X0 hx hZ hown (host := "") (Or.inl (hw _ (List.mem_of_getElem? (i := 86) rfl))) Via.refl e0 (S_REQUIRES_NEW.ext O0.2) (g := (mkF m 31 #[.val (.int p1)] [])) rfl (hb hby d1_31)
          refine Go.step (T' := T4) (f' := (mkF m 34 #[.val (.int p1)] [(.ref (A 3))])) st4 ?_
          refine goA X4 hx Bd.returns rfl rfl Bd.notSynchronized (hb hby d1_34) ?_ (by decide) (by decide)
          show Q_rm1 Z p1 A h0 n0 _ T4.heap _
          rw [e4]
          exact ⟨by rw [show p1.toInt = 3 from (by simp only [Int32.lt_iff_toInt_lt, ← Int32.toInt_inj, Int32.reduceToInt] at hc1 hc10 hc19 hc28 <;> omega)], N0, rfl⟩
        · refine Go.step (T' := s₁) (f' := (mkF m 35 #[.val (.int p1)] [])) (fun _ k => XS.icmpYes X0.here hx rfl (pc0 := 28) (pc' := 35) rfl (hb hby d1_28) rfl (feq hc28).2 (by decide) (by decide) k) ?_
          refine Go.step (T' := s₁) (f' := (mkF m 36 #[.val (.int p1)] [(.int p1)])) (fun _ k => XS.iloadN X0.here hx rfl (hb hby d1_35) rfl k) ?_
          refine Go.step (T' := s₁) (f' := (mkF m 37 #[.val (.int p1)] [(.int (4 : Int32)), (.int p1)])) (fun _ k => XS.iconst X0.here hx rfl (hb hby d1_36) k) ?_
          by_cases hc37 : p1 = (4 : Int32)
          · refine Go.step (T' := s₁) (f' := (mkF m 40 #[.val (.int p1)] [])) (fun _ k => XS.icmpNo X0.here hx rfl (hb hby d1_37) rfl (teq hc37).2 k) ?_
            obtain ⟨T5, X5, e5, st5⟩ := getS2 X0 hx hZ hown (host := "") (Or.inl (hw _ (List.mem_of_getElem? (i := 92) rfl))) Via.refl e0 (S_NOT_SUPPORTED.ext O0.2) (g := (mkF m 40 #[.val (.int p1)] [])) rfl (hb hby d1_40)
            refine Go.step (T' := T5) (f' := (mkF m 43 #[.val (.int p1)] [(.ref (A 4))])) st5 ?_
            refine goA X5 hx Bd.returns rfl rfl Bd.notSynchronized (hb hby d1_43) ?_ (by decide) (by decide)
            show Q_rm1 Z p1 A h0 n0 _ T5.heap _
            rw [e5]
            exact ⟨by rw [show p1.toInt = 4 from (by simp only [Int32.lt_iff_toInt_lt, ← Int32.toInt_inj, Int32.reduceToInt] at hc1 hc10 hc19 hc28 hc37 <;> omega)], N0, rfl⟩
          · refine Go.step (T' := s₁) (f' := (mkF m 44 #[.val (.int p1)] [])) (fun _ k => XS.icmpYes X0.here hx rfl (pc0 := 37) (pc' := 44) rfl (hb hby d1_37) rfl (feq hc37).2 (by decide) (by decide) k) ?_
            refine Go.step (T' := s₁) (f' := (mkF m 45 #[.val (.int p1)] [(.int p1)])) (fun _ k => XS.iloadN X0.here hx rfl (hb hby d1_44) rfl k) ?_
            refine Go.step (T' := s₁) (f' := (mkF m 46 #[.val (.int p1)] [(.int (5 : Int32)), (.int p1)])) (fun _ k => XS.iconst X0.here hx rfl (hb hby d1_45) k) ?_
            by_cases hc46 : p1 = (5 : Int32)
            · refine Go.step (T' := s₁) (f' := (mkF m 49 #[.val (.int p1)] [])) (fun _ k => XS.icmpNo X0.here hx rfl (hb hby d1_46) rfl (teq hc46).2 k) ?_
              obtain ⟨T6, X6, e6, st6⟩ := getS2 X0 hx hZ hown (host := "") (Or.inl (hw _ (List.mem_of_getElem? (i := 88) rfl))) Via.refl e0 (S_NEVER.ext O0.2) (g := (mkF m 49 #[.val (.int p1)] [])) rfl (hb hby d1_49)
              refine Go.step (T' := T6) (f' := (mkF m 52 #[.val (.int p1)] [(.ref (A 5))])) st6 ?_
              refine goA X6 hx Bd.returns rfl rfl Bd.notSynchronized (hb hby d1_52) ?_ (by decide) (by decide)
              show Q_rm1 Z p1 A h0 n0 _ T6.heap _
              rw [e6]
              exact ⟨by rw [show p1.toInt = 5 from (by simp only [Int32.lt_iff_toInt_lt, ← Int32.toInt_inj, Int32.reduceToInt] at hc1 hc10 hc19 hc28 hc37 hc46 <;> omega)], N0, rfl⟩
            · refine Go.step (T' := s₁) (f' := (mkF m 53 #[.val (.int p1)] [])) (fun _ k => XS.icmpYes X0.here hx rfl (pc0 := 46) (pc' := 53) rfl (hb hby d1_46) rfl (feq hc46).2 (by decide) (by decide) k) ?_
              obtain ⟨T7, X7, e7, st7⟩ := getS2 X0 hx hZ hown (host := "") (Or.inl (hw _ (List.mem_of_getElem? (i := 90) rfl))) Via.refl e0 (S_NESTED.ext O0.2) (g := (mkF m 53 #[.val (.int p1)] [])) rfl (hb hby d1_53)
              refine Go.step (T' := T7) (f' := (mkF m 56 #[.val (.int p1)] [(.ref (A 6))])) st7 ?_
              refine goA X7 hx Bd.returns rfl rfl Bd.notSynchronized (hb hby d1_56) ?_ (by decide) (by decide)
              show Q_rm1 Z p1 A h0 n0 _ T7.heap _
              rw [e7]
              exact ⟨by rw [show p1.toInt = 6 from (by simp only [Int32.lt_iff_toInt_lt, ← Int32.toInt_inj, Int32.reduceToInt] at hc1 hc10 hc19 hc28 hc37 hc46 <;> omega)], N0, rfl⟩
theorem d5_0 : decode jdk_2649_method_2_code 0 = .ok (.getstatic 17, 3) := by decide +kernel
theorem d5_3 : decode jdk_2649_method_2_code 3 = .ok (.areturn, 1) := by decide +kernel
theorem pn_5 : plainName "java/util/OptionalInt" = true := by first | (simp [plainName, overriddenIn]; done) | decide +kernel
theorem ef_rm5 (m : MethodId)  : entryFrame m #[] 0 = mkF m 0 #[] [] := by first | (simp [entryFrame, mkF, argsToLocals, Value.category]; done) | rfl
def Q_rm5 (Z : State) (s_EMPTY : Addr) (h0 : Heap) (n0 : Nat) (rv : Option Value) (hq : Heap) (Lq : List Loc) : Prop := rv = some (.ref s_EMPTY) ∧ Fr n0 Lq ∧ hq = h0
set_option maxRecDepth 65536 in
set_option maxHeartbeats 40000000 in
theorem rm5 (l : Launch) (Z : State) (a0 : Array Value) (hw : ∀ d ∈ tables_1, d.before a0 Z = true) (ws : List Jvm.Cond) (s_EMPTY : Addr) (h0 : Heap) (n0 : Nat) (Z0 : n0 ≤ h0.size) (O0 : Old Z n0 h0) (S_EMPTY : Sta Z Z.heap "java/util/OptionalInt" "EMPTY" "Ljava/util/OptionalInt;" (.ref s_EMPTY)) :
    MetFree l (⟨"java/util/OptionalInt", "empty", "()Ljava/util/OptionalInt;"⟩ : MethodName) (head1 (Jvm.Cond.code (⟨"java/util/OptionalInt", "empty", "()Ljava/util/OptionalInt;"⟩ : MethodName) jdk_2649_method_2_code 0 (some (.object "java/util/OptionalInt")) :: ws) ({ frames := 0, cells := 0, slots := 0, locals := 0 } : Room)) (fun a U => a = #[] ∧ Z.Warmed39 U.vm ∧ U.heap = h0) (fun _ _ _ _ _ => True) (fun _ U o U' => ∃ rv Lq, o = .returned rv ∧ Q_rm5 Z s_EMPTY h0 n0 rv U'.heap Lq ∧ FrameEnd U o U' Lq ({ frames := 0, cells := 0, slots := 0, locals := 0 } : Room).cells ({ frames := 0, cells := 0, slots := 0, locals := 0 } : Room).slots) := by
  refine MetFree.of_bodySF (plainFor_of_name pn_5) hisR ?_
  intro p e s m args below meth c s₁ Bd hml0 hP hK
  obtain ⟨rfl, hZ, hh⟩ := hP
  have hx := Bd.exec
  have hby := Bd.bytes
  have hml : c.maxLocals = 0 := hml0
  have hown : s.vm.findClass "java/util/OptionalInt" = some m.cls := findClass_of_methodNamed Bd.named
  have hnm := (name_of_methodNamed Bd.named Bd.method).1
  have X0 : Stand p l e ({ frames := 0, cells := 0, slots := 0, locals := 0 } : Room) s m #[] below meth c s₁ [] 0 0 := Stand.of_body Bd
  have e0 : s₁.heap = h0 := by rw [← hh, Bd.state]; rfl
  have N0 := Fr.nil n0
  refine of_go (ef_rm5 m ) ?_
  obtain ⟨T1, X1, e1, st1⟩ := getS2 X0 hx hZ hown (host := "") (Or.inl (hw _ (List.mem_of_getElem? (i := 30) rfl))) Via.refl e0 (S_EMPTY.ext O0.2) (g := (mkF m 0 #[] [])) rfl (hb hby d5_0)
  refine Go.step (T' := T1) (f' := (mkF m 3 #[] [(.ref s_EMPTY)])) st1 ?_
  refine goA X1 hx Bd.returns rfl rfl Bd.notSynchronized (hb hby d5_3) ?_ (by decide) (by decide)
  show Q_rm5 Z s_EMPTY h0 n0 _ T1.heap _
  rw [e1]
  exact ⟨rfl, N0, rfl⟩
theorem d6_0 : decode jdk_96_method_17_code 0 = .ok (.getstatic 9, 3) := by decide +kernel
theorem d6_3 : decode jdk_96_method_17_code 3 = .ok (.areturn, 1) := by decide +kernel
theorem pn_6 : plainName "java/util/Set" = true := by first | (simp [plainName, overriddenIn]; done) | decide +kernel
theorem ef_rm6 (m : MethodId)  : entryFrame m #[] 0 = mkF m 0 #[] [] := by first | (simp [entryFrame, mkF, argsToLocals, Value.category]; done) | rfl
def Q_rm6 (Z : State) (s_SET : Addr) (h0 : Heap) (n0 : Nat) (rv : Option Value) (hq : Heap) (Lq : List Loc) : Prop := rv = some (.ref s_SET) ∧ Fr n0 Lq ∧ hq = h0
set_option maxRecDepth 65536 in
set_option maxHeartbeats 40000000 in
theorem rm6 (l : Launch) (Z : State) (a0 : Array Value) (hw : ∀ d ∈ tables_1, d.before a0 Z = true) (ws : List Jvm.Cond) (s_SET : Addr) (h0 : Heap) (n0 : Nat) (Z0 : n0 ≤ h0.size) (O0 : Old Z n0 h0) (S_EMPTY_SET : Sta Z Z.heap "java/util/ImmutableCollections" "EMPTY_SET" "Ljava/util/ImmutableCollections$SetN;" (.ref s_SET)) :
    MetFree l (⟨"java/util/Set", "of", "()Ljava/util/Set;"⟩ : MethodName) (head1 (Jvm.Cond.code (⟨"java/util/Set", "of", "()Ljava/util/Set;"⟩ : MethodName) jdk_96_method_17_code 0 (some (.object "java/util/Set")) :: ws) ({ frames := 0, cells := 0, slots := 0, locals := 0 } : Room)) (fun a U => a = #[] ∧ Z.Warmed39 U.vm ∧ U.heap = h0) (fun _ _ _ _ _ => True) (fun _ U o U' => ∃ rv Lq, o = .returned rv ∧ Q_rm6 Z s_SET h0 n0 rv U'.heap Lq ∧ FrameEnd U o U' Lq ({ frames := 0, cells := 0, slots := 0, locals := 0 } : Room).cells ({ frames := 0, cells := 0, slots := 0, locals := 0 } : Room).slots) := by
  refine MetFree.of_bodySF (plainFor_of_name pn_6) hisR ?_
  intro p e s m args below meth c s₁ Bd hml0 hP hK
  obtain ⟨rfl, hZ, hh⟩ := hP
  have hx := Bd.exec
  have hby := Bd.bytes
  have hml : c.maxLocals = 0 := hml0
  have hown : s.vm.findClass "java/util/Set" = some m.cls := findClass_of_methodNamed Bd.named
  have hnm := (name_of_methodNamed Bd.named Bd.method).1
  have X0 : Stand p l e ({ frames := 0, cells := 0, slots := 0, locals := 0 } : Room) s m #[] below meth c s₁ [] 0 0 := Stand.of_body Bd
  have e0 : s₁.heap = h0 := by rw [← hh, Bd.state]; rfl
  have N0 := Fr.nil n0
  refine of_go (ef_rm6 m ) ?_
  obtain ⟨T1, X1, e1, st1⟩ := getS2 X0 hx hZ hown (host := "") (Or.inl (hw _ (List.mem_of_getElem? (i := 37) rfl))) Via.refl e0 (S_EMPTY_SET.ext O0.2) (g := (mkF m 0 #[] [])) rfl (hb hby d6_0)
  refine Go.step (T' := T1) (f' := (mkF m 3 #[] [(.ref s_SET)])) st1 ?_
  refine goA X1 hx Bd.returns rfl rfl Bd.notSynchronized (hb hby d6_3) ?_ (by decide) (by decide)
  show Q_rm6 Z s_SET h0 n0 _ T1.heap _
  rw [e1]
  exact ⟨rfl, N0, rfl⟩
theorem d3_0 : decode prog_14_method_1_code 0 = .ok (.aload_n 0, 1) := by decide +kernel
theorem d3_1 : decode prog_14_method_1_code 1 = .ok (.invokespecial 1, 3) := by decide +kernel
theorem d3_4 : decode prog_14_method_1_code 4 = .ok (.aload_n 0, 1) := by decide +kernel
theorem d3_5 : decode prog_14_method_1_code 5 = .ok (.getstatic 7, 3) := by decide +kernel
theorem d3_8 : decode prog_14_method_1_code 8 = .ok (.putfield 13, 3) := by decide +kernel
theorem d3_11 : decode prog_14_method_1_code 11 = .ok (.aload_n 0, 1) := by decide +kernel
theorem d3_12 : decode prog_14_method_1_code 12 = .ok (.invokestatic 18, 3) := by decide +kernel
theorem pd_0 : parseMethodDescriptor "()Ljava/util/OptionalInt;" = some ⟨[], some (.object "java/util/OptionalInt")⟩ := by decide +kernel
theorem d3_15 : decode prog_14_method_1_code 15 = .ok (.putfield 24, 3) := by decide +kernel
theorem d3_18 : decode prog_14_method_1_code 18 = .ok (.aload_n 0, 1) := by decide +kernel
theorem d3_19 : decode prog_14_method_1_code 19 = .ok (.invokestatic 28, 3) := by decide +kernel
theorem pd_1 : parseMethodDescriptor "()Ljava/util/Set;" = some ⟨[], some (.object "java/util/Set")⟩ := by decide +kernel
theorem d3_22 : decode prog_14_method_1_code 22 = .ok (.putfield 34, 3) := by decide +kernel
theorem d3_25 : decode prog_14_method_1_code 25 = .ok (.aload_n 0, 1) := by decide +kernel
theorem d3_26 : decode prog_14_method_1_code 26 = .ok (.invokestatic 28, 3) := by decide +kernel
theorem d3_29 : decode prog_14_method_1_code 29 = .ok (.putfield 38, 3) := by decide +kernel
theorem d3_32 : decode prog_14_method_1_code 32 = .ok (.return_, 1) := by decide +kernel
theorem pn_3 : plainName "com/example/managed_transactions/managedtransactions/model/TransactionDefinition$Settings" = true := by first | (simp [plainName, overriddenIn]; done) | decide +kernel
theorem ef_rm3 (m : MethodId) (a1 : Addr) : entryFrame m #[(.ref a1)] 1 = mkF m 0 #[.val (.ref a1)] [] := by first | (simp [entryFrame, mkF, argsToLocals, Value.category]; done) | rfl
def Q_rm3 (Z : State) (a1 : Addr) (s_DEFAULT : Addr) (s_EMPTY : Addr) (s_SET : Addr) (h0 : Heap) (n0 : Nat) (rv : Option Value) (hq : Heap) (Lq : List Loc) : Prop := rv = none ∧ Fr n0 Lq ∧ Keep h0 hq [a1] ∧ Fld Z hq a1 "com/example/managed_transactions/managedtransactions/model/TransactionDefinition$Settings" "propagation" "Lcom/example/managed_transactions/managedtransactions/model/Propagation;" .null ∧ Fld Z hq a1 "com/example/managed_transactions/managedtransactions/model/TransactionDefinition$Settings" "isolation" "Lcom/example/managed_transactions/managedtransactions/model/Isolation;" (.ref s_DEFAULT) ∧ Fld Z hq a1 "com/example/managed_transactions/managedtransactions/model/TransactionDefinition$Settings" "readOnly" "Z" (.int (0 : Int32))
set_option maxRecDepth 65536 in
set_option maxHeartbeats 40000000 in
theorem rm3 (l : Launch) (Z : State) (a0 : Array Value) (hw : ∀ d ∈ tables_1, d.before a0 Z = true) (ws : List Jvm.Cond) (a1 : Addr) (s_DEFAULT : Addr) (s_EMPTY : Addr) (s_SET : Addr) (h0 : Heap) (n0 : Nat) (Z0 : n0 ≤ h0.size) (E_a1 : Exa Z h0 a1 "com/example/managed_transactions/managedtransactions/model/TransactionDefinition$Settings") (F_propagation_a1 : Fld Z h0 a1 "com/example/managed_transactions/managedtransactions/model/TransactionDefinition$Settings" "propagation" "Lcom/example/managed_transactions/managedtransactions/model/Propagation;" .null) (F_isolation_a1 : Fld Z h0 a1 "com/example/managed_transactions/managedtransactions/model/TransactionDefinition$Settings" "isolation" "Lcom/example/managed_transactions/managedtransactions/model/Isolation;" .null) (F_readOnly_a1 : Fld Z h0 a1 "com/example/managed_transactions/managedtransactions/model/TransactionDefinition$Settings" "readOnly" "Z" (.int (0 : Int32))) (F_timeout_a1 : Fld Z h0 a1 "com/example/managed_transactions/managedtransactions/model/TransactionDefinition$Settings" "timeout" "Ljava/util/OptionalInt;" .null) (F_rollbackFor_a1 : Fld Z h0 a1 "com/example/managed_transactions/managedtransactions/model/TransactionDefinition$Settings" "rollbackFor" "Ljava/util/Set;" .null) (F_noRollbackFor_a1 : Fld Z h0 a1 "com/example/managed_transactions/managedtransactions/model/TransactionDefinition$Settings" "noRollbackFor" "Ljava/util/Set;" .null) (O0 : Old Z n0 h0) (S_DEFAULT : Sta Z Z.heap "com/example/managed_transactions/managedtransactions/model/Isolation" "DEFAULT" "Lcom/example/managed_transactions/managedtransactions/model/Isolation;" (.ref s_DEFAULT)) (S_EMPTY : Sta Z Z.heap "java/util/OptionalInt" "EMPTY" "Ljava/util/OptionalInt;" (.ref s_EMPTY)) (S_EMPTY_SET : Sta Z Z.heap "java/util/ImmutableCollections" "EMPTY_SET" "Ljava/util/ImmutableCollections$SetN;" (.ref s_SET)) (g_a1 : n0 ≤ a1) :
    MetFree l (⟨"com/example/managed_transactions/managedtransactions/model/TransactionDefinition$Settings", "<init>", "()V"⟩ : MethodName) (head1 (Jvm.Cond.code (⟨"com/example/managed_transactions/managedtransactions/model/TransactionDefinition$Settings", "<init>", "()V"⟩ : MethodName) prog_14_method_1_code 1 none :: ws) ({ frames := 1, cells := 0, slots := 0, locals := 12 } : Room)) (fun a U => a = #[(.ref a1)] ∧ Z.Warmed39 U.vm ∧ U.heap = h0) (fun _ _ _ _ _ => True) (fun _ U o U' => ∃ rv Lq, o = .returned rv ∧ Q_rm3 Z a1 s_DEFAULT s_EMPTY s_SET h0 n0 rv U'.heap Lq ∧ FrameEnd U o U' Lq ({ frames := 1, cells := 0, slots := 0, locals := 12 } : Room).cells ({ frames := 1, cells := 0, slots := 0, locals := 12 } : Room).slots) := by
  refine MetFree.of_bodySF (plainFor_of_name pn_3) hisR ?_
  intro p e s m args below meth c s₁ Bd hml0 hP hK
  obtain ⟨rfl, hZ, hh⟩ := hP
  have hx := Bd.exec
  have hby := Bd.bytes
  have hml : c.maxLocals = 1 := hml0
  have hown : s.vm.findClass "com/example/managed_transactions/managedtransactions/model/TransactionDefinition$Settings" = some m.cls := findClass_of_methodNamed Bd.named
  have hnm := (name_of_methodNamed Bd.named Bd.method).1
  have X0 : Stand p l e ({ frames := 1, cells := 0, slots := 0, locals := 12 } : Room) s m #[(.ref a1)] below meth c s₁ [] 0 0 := Stand.of_body Bd
  have e0 : s₁.heap = h0 := by rw [← hh, Bd.state]; rfl
  have N0 := Fr.nil n0
  refine of_go (ef_rm3 m a1) ?_
  refine Go.step (T' := s₁) (f' := (mkF m 1 #[.val (.ref a1)] [(.ref a1)])) (fun _ k => XS.aloadN X0.here hx rfl (hb hby d3_0) rfl rfl k) ?_
  obtain ⟨T1, X1, e1, st1⟩ := initO X0 hx hZ hown (hw _ (List.mem_of_getElem? (i := 18) rfl)) (hw _ (List.mem_of_getElem? (i := 19) rfl)) (hw _ (List.mem_of_getElem? (i := 20) rfl)) e0 (g := (mkF m 1 #[.val (.ref a1)] [(.ref a1)])) rfl (by rw [hml]; rfl) rfl (hb hby d3_1) (by decide) (W := 0) (by show 2 * 0 + _ ≤ _; exact Nat.le_of_eq rfl) (by decide)
  refine Go.step (T' := T1) (f' := (mkF m 4 #[.val (.ref a1)] [])) st1 ?_
  refine Go.step (T' := T1) (f' := (mkF m 5 #[.val (.ref a1)] [(.ref a1)])) (fun _ k => XS.aloadN X1.here hx rfl (hb hby d3_4) rfl rfl k) ?_
  obtain ⟨T2, X2, e2, st2⟩ := getS2 X1 hx hZ hown (host := "") (Or.inl (hw _ (List.mem_of_getElem? (i := 21) rfl))) Via.refl e1 (S_DEFAULT.ext O0.2) (g := (mkF m 5 #[.val (.ref a1)] [(.ref a1)])) rfl (hb hby d3_5)
  refine Go.step (T' := T2) (f' := (mkF m 8 #[.val (.ref a1)] [(.ref s_DEFAULT), (.ref a1)])) st2 ?_
  obtain ⟨T3, h3, X3, e3, W3, st3⟩ := putF X2 hx hZ hown (host := "") (Or.inl (hw _ (List.mem_of_getElem? (i := 24) rfl))) Via.refl e2 F_isolation_a1 E_a1 (Or.inl (hw _ (List.mem_of_getElem? (i := 25) rfl))) (hw _ (List.mem_of_getElem? (i := 13) rfl)) (ty := (.object "com/example/managed_transactions/managedtransactions/model/Isolation")) (by decide) rfl rfl (g := (mkF m 8 #[.val (.ref a1)] [(.ref s_DEFAULT), (.ref a1)])) rfl rfl (hb hby d3_8)
  have N3 := Fr.snoc X3 N0 g_a1
  have Z4 : n0 ≤ h3.size := Nat.le_trans Z0 (Keep.of_wr W3).1
  have O4 : Old Z n0 h3 := O0.wr W3 g_a1
  have K4 : Keep h0 h3 [a1] := (Keep.refl h0 [a1]).wr W3 (Or.inl (List.mem_of_getElem? (i := 0) rfl))
  have Fw3 := F_isolation_a1.same W3
  refine Go.step (T' := T3) (f' := (mkF m 11 #[.val (.ref a1)] [])) st3 ?_
  refine Go.step (T' := T3) (f' := (mkF m 12 #[.val (.ref a1)] [(.ref a1)])) (fun _ k => XS.aloadN X3.here hx rfl (hb hby d3_11) rfl rfl k) ?_
  obtain ⟨_, _, ⟨T5, L5, kk5, nn5⟩, -, X5, ⟨Lc5, hQ5, lq5, yq5, zq5⟩, st5⟩ := Jvm.LawKit.callS X3 hx (y := (⟨"java/util/OptionalInt", "empty", "()Ljava/util/OptionalInt;"⟩ : MethodName)) hown (mvT hZ (hw _ (List.mem_of_getElem? (i := 26) rfl))) (mvT hZ (hw _ (List.mem_of_getElem? (i := 27) rfl))) (mvT hZ (hw _ (List.mem_of_getElem? (i := 28) rfl))) (mvT hZ (hw _ (List.mem_of_getElem? (i := 29) rfl))) (by decide) (backOf (W := 1) (rm5 l Z a0 hw [] s_EMPTY h3 n0 Z4 O4 S_EMPTY) hZ (hw _ (List.mem_of_getElem? (i := 29) rfl)) (hw _ (List.mem_of_getElem? (i := 28) rfl)) (by decide) (by decide)) (g := (mkF m 12 #[.val (.ref a1)] [(.ref a1)])) rfl (by rw [hml]; rfl) (argsL := []) (rest := [(.ref a1)]) (lenOf pd_0 rfl) rfl (by show 2 * 0 + _ ≤ _; exact Nat.le_of_eq rfl) (hb hby d3_12) (fun _ _ => ⟨rfl, e3, (by decide : 0 + 0 ≤ _), (by decide : 0 + 0 ≤ _)⟩)
  dsimp only [Pt.U, Pt.locs, Pt.cells, Pt.slots] at X5 lq5 yq5 zq5 st5 hQ5
  subst yq5 zq5
  obtain ⟨rfl, Nq5, eh5⟩ := hQ5
  have N5 : Fr n0 L5 := by rw [lq5]; exact Fr.app N3 Nq5
  refine Go.step (T' := T5) (f' := (mkF m 15 #[.val (.ref a1)] [(.ref s_EMPTY), (.ref a1)])) st5 ?_
  have q6 : Fld Z h3 a1 "com/example/managed_transactions/managedtransactions/model/TransactionDefinition$Settings" "timeout" "Ljava/util/OptionalInt;" .null := (F_timeout_a1.other W3 (Or.inr (slot_ne (Or.inl (hw _ (List.mem_of_getElem? (i := 32) rfl))) (Or.inl (hw _ (List.mem_of_getElem? (i := 25) rfl))) (by decide) (t := (.object "java/util/OptionalInt")) (t' := (.object "com/example/managed_transactions/managedtransactions/model/Isolation")) (by decide) (by decide))))
  have q7 : Exa Z h3 a1 "com/example/managed_transactions/managedtransactions/model/TransactionDefinition$Settings" := (E_a1.wr W3)
  obtain ⟨T8, h8, X8, e8, W8, st8⟩ := putF X5 hx hZ hown (host := "") (Or.inl (hw _ (List.mem_of_getElem? (i := 31) rfl))) Via.refl eh5 q6 q7 (Or.inl (hw _ (List.mem_of_getElem? (i := 32) rfl))) (hw _ (List.mem_of_getElem? (i := 13) rfl)) (ty := (.object "java/util/OptionalInt")) (by decide) rfl rfl (g := (mkF m 15 #[.val (.ref a1)] [(.ref s_EMPTY), (.ref a1)])) rfl rfl (hb hby d3_15)
  have N8 := Fr.snoc X8 N5 g_a1
  have Z9 : n0 ≤ h8.size := Nat.le_trans Z4 (Keep.of_wr W8).1
  have O9 : Old Z n0 h8 := O4.wr W8 g_a1
  have K9 : Keep h0 h8 [a1] := K4.wr W8 (Or.inl (List.mem_of_getElem? (i := 0) rfl))
  have Fw8 := q6.same W8
  refine Go.step (T' := T8) (f' := (mkF m 18 #[.val (.ref a1)] [])) st8 ?_
  refine Go.step (T' := T8) (f' := (mkF m 19 #[.val (.ref a1)] [(.ref a1)])) (fun _ k => XS.aloadN X8.here hx rfl (hb hby d3_18) rfl rfl k) ?_
  obtain ⟨_, _, ⟨T10, L10, kk10, nn10⟩, -, X10, ⟨Lc10, hQ10, lq10, yq10, zq10⟩, st10⟩ := Jvm.LawKit.callS X8 hx (y := (⟨"java/util/Set", "of", "()Ljava/util/Set;"⟩ : MethodName)) hown (mvT hZ (hw _ (List.mem_of_getElem? (i := 33) rfl))) (mvT hZ (hw _ (List.mem_of_getElem? (i := 34) rfl))) (mvT hZ (hw _ (List.mem_of_getElem? (i := 35) rfl))) (mvT hZ (hw _ (List.mem_of_getElem? (i := 36) rfl))) (by decide) (backOf (W := 1) (rm6 l Z a0 hw [] s_SET h8 n0 Z9 O9 S_EMPTY_SET) hZ (hw _ (List.mem_of_getElem? (i := 36) rfl)) (hw _ (List.mem_of_getElem? (i := 35) rfl)) (by decide) (by decide)) (g := (mkF m 19 #[.val (.ref a1)] [(.ref a1)])) rfl (by rw [hml]; rfl) (argsL := []) (rest := [(.ref a1)]) (lenOf pd_1 rfl) rfl (by show 2 * 0 + _ ≤ _; exact Nat.le_of_eq rfl) (hb hby d3_19) (fun _ _ => ⟨rfl, e8, (by decide : 0 + 0 ≤ _), (by decide : 0 + 0 ≤ _)⟩)
  dsimp only [Pt.U, Pt.locs, Pt.cells, Pt.slots] at X10 lq10 yq10 zq10 st10 hQ10
  subst yq10 zq10
  obtain ⟨rfl, Nq10, eh10⟩ := hQ10
  have N10 : Fr n0 L10 := by rw [lq10]; exact Fr.app N8 Nq10
  refine Go.step (T' := T10) (f' := (mkF m 22 #[.val (.ref a1)] [(.ref s_SET), (.ref a1)])) st10 ?_
  have q11 : Fld Z h8 a1 "com/example/managed_transactions/managedtransactions/model/TransactionDefinition$Settings" "rollbackFor" "Ljava/util/Set;" .null := ((F_rollbackFor_a1.other W3 (Or.inr (slot_ne (Or.inl (hw _ (List.mem_of_getElem? (i := 40) rfl))) (Or.inl (hw _ (List.mem_of_getElem? (i := 25) rfl))) (by decide) (t := (.object "java/util/Set")) (t' := (.object "com/example/managed_transactions/managedtransactions/model/Isolation")) (by decide) (by decide)))).other W8 (Or.inr (slot_ne (Or.inl (hw _ (List.mem_of_getElem? (i := 40) rfl))) (Or.inl (hw _ (List.mem_of_getElem? (i := 32) rfl))) (by decide) (t := (.object "java/util/Set")) (t' := (.object "java/util/OptionalInt")) (by decide) (by decide))))
  have q12 : Exa Z h8 a1 "com/example/managed_transactions/managedtransactions/model/TransactionDefinition$Settings" := (q7.wr W8)
  obtain ⟨T13, h13, X13, e13, W13, st13⟩ := putF X10 hx hZ hown (host := "") (Or.inl (hw _ (List.mem_of_getElem? (i := 39) rfl))) Via.refl eh10 q11 q12 (Or.inl (hw _ (List.mem_of_getElem? (i := 40) rfl))) (hw _ (List.mem_of_getElem? (i := 13) rfl)) (ty := (.object "java/util/Set")) (by decide) rfl rfl (g := (mkF m 22 #[.val (.ref a1)] [(.ref s_SET), (.ref a1)])) rfl rfl (hb hby d3_22)
  have N13 := Fr.snoc X13 N10 g_a1
  have Z14 : n0 ≤ h13.size := Nat.le_trans Z9 (Keep.of_wr W13).1
  have O14 : Old Z n0 h13 := O9.wr W13 g_a1
  have K14 : Keep h0 h13 [a1] := K9.wr W13 (Or.inl (List.mem_of_getElem? (i := 0) rfl))
  have Fw13 := q11.same W13
  refine Go.step (T' := T13) (f' := (mkF m 25 #[.val (.ref a1)] [])) st13 ?_
  refine Go.step (T' := T13) (f' := (mkF m 26 #[.val (.ref a1)] [(.ref a1)])) (fun _ k => XS.aloadN X13.here hx rfl (hb hby d3_25) rfl rfl k) ?_
  obtain ⟨_, _, ⟨T15, L15, kk15, nn15⟩, -, X15, ⟨Lc15, hQ15, lq15, yq15, zq15⟩, st15⟩ := Jvm.LawKit.callS X13 hx (y := (⟨"java/util/Set", "of", "()Ljava/util/Set;"⟩ : MethodName)) hown (mvT hZ (hw _ (List.mem_of_getElem? (i := 33) rfl))) (mvT hZ (hw _ (List.mem_of_getElem? (i := 34) rfl))) (mvT hZ (hw _ (List.mem_of_getElem? (i := 35) rfl))) (mvT hZ (hw _ (List.mem_of_getElem? (i := 36) rfl))) (by decide) (backOf (W := 1) (rm6 l Z a0 hw [] s_SET h13 n0 Z14 O14 S_EMPTY_SET) hZ (hw _ (List.mem_of_getElem? (i := 36) rfl)) (hw _ (List.mem_of_getElem? (i := 35) rfl)) (by decide) (by decide)) (g := (mkF m 26 #[.val (.ref a1)] [(.ref a1)])) rfl (by rw [hml]; rfl) (argsL := []) (rest := [(.ref a1)]) (lenOf pd_1 rfl) rfl (by show 2 * 0 + _ ≤ _; exact Nat.le_of_eq rfl) (hb hby d3_26) (fun _ _ => ⟨rfl, e13, (by decide : 0 + 0 ≤ _), (by decide : 0 + 0 ≤ _)⟩)
  dsimp only [Pt.U, Pt.locs, Pt.cells, Pt.slots] at X15 lq15 yq15 zq15 st15 hQ15
  subst yq15 zq15
  obtain ⟨rfl, Nq15, eh15⟩ := hQ15
  have N15 : Fr n0 L15 := by rw [lq15]; exact Fr.app N13 Nq15
  refine Go.step (T' := T15) (f' := (mkF m 29 #[.val (.ref a1)] [(.ref s_SET), (.ref a1)])) st15 ?_
  have q16 : Fld Z h13 a1 "com/example/managed_transactions/managedtransactions/model/TransactionDefinition$Settings" "noRollbackFor" "Ljava/util/Set;" .null := (((F_noRollbackFor_a1.other W3 (Or.inr (slot_ne (Or.inl (hw _ (List.mem_of_getElem? (i := 42) rfl))) (Or.inl (hw _ (List.mem_of_getElem? (i := 25) rfl))) (by decide) (t := (.object "java/util/Set")) (t' := (.object "com/example/managed_transactions/managedtransactions/model/Isolation")) (by decide) (by decide)))).other W8 (Or.inr (slot_ne (Or.inl (hw _ (List.mem_of_getElem? (i := 42) rfl))) (Or.inl (hw _ (List.mem_of_getElem? (i := 32) rfl))) (by decide) (t := (.object "java/util/Set")) (t' := (.object "java/util/OptionalInt")) (by decide) (by decide)))).other W13 (Or.inr (slot_ne (Or.inl (hw _ (List.mem_of_getElem? (i := 42) rfl))) (Or.inl (hw _ (List.mem_of_getElem? (i := 40) rfl))) (by decide) (t := (.object "java/util/Set")) (t' := (.object "java/util/Set")) (by decide) (by decide))))
  have q17 : Exa Z h13 a1 "com/example/managed_transactions/managedtransactions/model/TransactionDefinition$Settings" := (q12.wr W13)
  obtain ⟨T18, h18, X18, e18, W18, st18⟩ := putF X15 hx hZ hown (host := "") (Or.inl (hw _ (List.mem_of_getElem? (i := 41) rfl))) Via.refl eh15 q16 q17 (Or.inl (hw _ (List.mem_of_getElem? (i := 42) rfl))) (hw _ (List.mem_of_getElem? (i := 13) rfl)) (ty := (.object "java/util/Set")) (by decide) rfl rfl (g := (mkF m 29 #[.val (.ref a1)] [(.ref s_SET), (.ref a1)])) rfl rfl (hb hby d3_29)
  have N18 := Fr.snoc X18 N15 g_a1
  have Z19 : n0 ≤ h18.size := Nat.le_trans Z14 (Keep.of_wr W18).1
  have O19 : Old Z n0 h18 := O14.wr W18 g_a1
  have K19 : Keep h0 h18 [a1] := K14.wr W18 (Or.inl (List.mem_of_getElem? (i := 0) rfl))
  have Fw18 := q16.same W18
  refine Go.step (T' := T18) (f' := (mkF m 32 #[.val (.ref a1)] [])) st18 ?_
  refine goV X18 hx Bd.returns Bd.notSynchronized (hb hby d3_32) ?_ (by decide) (by decide)
  show Q_rm3 Z a1 s_DEFAULT s_EMPTY s_SET h0 n0 _ T18.heap _
  rw [e18]
  have q20 : Fld Z h18 a1 "com/example/managed_transactions/managedtransactions/model/TransactionDefinition$Settings" "propagation" "Lcom/example/managed_transactions/managedtransactions/model/Propagation;" .null := ((((F_propagation_a1.other W3 (Or.inr (slot_ne (Or.inl (hw _ (List.mem_of_getElem? (i := 58) rfl))) (Or.inl (hw _ (List.mem_of_getElem? (i := 25) rfl))) (by decide) (t := (.object "com/example/managed_transactions/managedtransactions/model/Propagation")) (t' := (.object "com/example/managed_transactions/managedtransactions/model/Isolation")) (by decide) (by decide)))).other W8 (Or.inr (slot_ne (Or.inl (hw _ (List.mem_of_getElem? (i := 58) rfl))) (Or.inl (hw _ (List.mem_of_getElem? (i := 32) rfl))) (by decide) (t := (.object "com/example/managed_transactions/managedtransactions/model/Propagation")) (t' := (.object "java/util/OptionalInt")) (by decide) (by decide)))).other W13 (Or.inr (slot_ne (Or.inl (hw _ (List.mem_of_getElem? (i := 58) rfl))) (Or.inl (hw _ (List.mem_of_getElem? (i := 40) rfl))) (by decide) (t := (.object "com/example/managed_transactions/managedtransactions/model/Propagation")) (t' := (.object "java/util/Set")) (by decide) (by decide)))).other W18 (Or.inr (slot_ne (Or.inl (hw _ (List.mem_of_getElem? (i := 58) rfl))) (Or.inl (hw _ (List.mem_of_getElem? (i := 42) rfl))) (by decide) (t := (.object "com/example/managed_transactions/managedtransactions/model/Propagation")) (t' := (.object "java/util/Set")) (by decide) (by decide))))
  have q21 : Fld Z h18 a1 "com/example/managed_transactions/managedtransactions/model/TransactionDefinition$Settings" "isolation" "Lcom/example/managed_transactions/managedtransactions/model/Isolation;" (.ref s_DEFAULT) := (((Fw3.other W8 (Or.inr (slot_ne (Or.inl (hw _ (List.mem_of_getElem? (i := 25) rfl))) (Or.inl (hw _ (List.mem_of_getElem? (i := 32) rfl))) (by decide) (t := (.object "com/example/managed_transactions/managedtransactions/model/Isolation")) (t' := (.object "java/util/OptionalInt")) (by decide) (by decide)))).other W13 (Or.inr (slot_ne (Or.inl (hw _ (List.mem_of_getElem? (i := 25) rfl))) (Or.inl (hw _ (List.mem_of_getElem? (i := 40) rfl))) (by decide) (t := (.object "com/example/managed_transactions/managedtransactions/model/Isolation")) (t' := (.object "java/util/Set")) (by decide) (by decide)))).other W18 (Or.inr (slot_ne (Or.inl (hw _ (List.mem_of_getElem? (i := 25) rfl))) (Or.inl (hw _ (List.mem_of_getElem? (i := 42) rfl))) (by decide) (t := (.object "com/example/managed_transactions/managedtransactions/model/Isolation")) (t' := (.object "java/util/Set")) (by decide) (by decide))))
  have q22 : Fld Z h18 a1 "com/example/managed_transactions/managedtransactions/model/TransactionDefinition$Settings" "readOnly" "Z" (.int (0 : Int32)) := ((((F_readOnly_a1.other W3 (Or.inr (slot_ne (Or.inl (hw _ (List.mem_of_getElem? (i := 85) rfl))) (Or.inl (hw _ (List.mem_of_getElem? (i := 25) rfl))) (by decide) (t := .boolean) (t' := (.object "com/example/managed_transactions/managedtransactions/model/Isolation")) (by decide) (by decide)))).other W8 (Or.inr (slot_ne (Or.inl (hw _ (List.mem_of_getElem? (i := 85) rfl))) (Or.inl (hw _ (List.mem_of_getElem? (i := 32) rfl))) (by decide) (t := .boolean) (t' := (.object "java/util/OptionalInt")) (by decide) (by decide)))).other W13 (Or.inr (slot_ne (Or.inl (hw _ (List.mem_of_getElem? (i := 85) rfl))) (Or.inl (hw _ (List.mem_of_getElem? (i := 40) rfl))) (by decide) (t := .boolean) (t' := (.object "java/util/Set")) (by decide) (by decide)))).other W18 (Or.inr (slot_ne (Or.inl (hw _ (List.mem_of_getElem? (i := 85) rfl))) (Or.inl (hw _ (List.mem_of_getElem? (i := 42) rfl))) (by decide) (t := .boolean) (t' := (.object "java/util/Set")) (by decide) (by decide))))
  exact ⟨rfl, N18, K19, q20, q21, q22⟩
theorem d7_0 : decode jdk_31_method_11_code 0 = .ok (.aload_n 0, 1) := by decide +kernel
theorem d7_1 : decode jdk_31_method_11_code 1 = .ok (.ifnonnull 12, 3) := by decide +kernel
theorem d7_13 : decode jdk_31_method_11_code 13 = .ok (.aload_n 0, 1) := by decide +kernel
theorem d7_14 : decode jdk_31_method_11_code 14 = .ok (.areturn, 1) := by decide +kernel
theorem pn_7 : plainName "java/util/Objects" = true := by first | (simp [plainName, overriddenIn]; done) | decide +kernel
theorem ef_rm7 (m : MethodId) (a1 : Addr) (a2 : Addr) : entryFrame m #[(.ref a1), (.ref a2)] 2 = mkF m 0 #[.val (.ref a1), .val (.ref a2)] [] := by first | (simp [entryFrame, mkF, argsToLocals, Value.category]; done) | rfl
def Q_rm7 (Z : State) (a1 : Addr) (a2 : Addr) (h0 : Heap) (n0 : Nat) (rv : Option Value) (hq : Heap) (Lq : List Loc) : Prop := rv = some (.ref a1) ∧ Fr n0 Lq ∧ hq = h0
set_option maxRecDepth 65536 in
set_option maxHeartbeats 40000000 in
theorem rm7 (l : Launch) (Z : State) (a0 : Array Value) (hw : ∀ d ∈ tables_1, d.before a0 Z = true) (ws : List Jvm.Cond) (a1 : Addr) (a2 : Addr) (h0 : Heap) (n0 : Nat) (Z0 : n0 ≤ h0.size) :
    MetFree l (⟨"java/util/Objects", "requireNonNull", "(Ljava/lang/Object;Ljava/lang/String;)Ljava/lang/Object;"⟩ : MethodName) (head1 (Jvm.Cond.code (⟨"java/util/Objects", "requireNonNull", "(Ljava/lang/Object;Ljava/lang/String;)Ljava/lang/Object;"⟩ : MethodName) jdk_31_method_11_code 2 (some (.object "java/lang/Object")) :: ws) ({ frames := 0, cells := 0, slots := 0, locals := 0 } : Room)) (fun a U => a = #[(.ref a1), (.ref a2)] ∧ Z.Warmed39 U.vm ∧ U.heap = h0) (fun _ _ _ _ _ => True) (fun _ U o U' => ∃ rv Lq, o = .returned rv ∧ Q_rm7 Z a1 a2 h0 n0 rv U'.heap Lq ∧ FrameEnd U o U' Lq ({ frames := 0, cells := 0, slots := 0, locals := 0 } : Room).cells ({ frames := 0, cells := 0, slots := 0, locals := 0 } : Room).slots) := by
  refine MetFree.of_bodySF (plainFor_of_name pn_7) hisR ?_
  intro p e s m args below meth c s₁ Bd hml0 hP hK
  obtain ⟨rfl, hZ, hh⟩ := hP
  have hx := Bd.exec
  have hby := Bd.bytes
  have hml : c.maxLocals = 2 := hml0
  have hown : s.vm.findClass "java/util/Objects" = some m.cls := findClass_of_methodNamed Bd.named
  have hnm := (name_of_methodNamed Bd.named Bd.method).1
  have X0 : Stand p l e ({ frames := 0, cells := 0, slots := 0, locals := 0 } : Room) s m #[(.ref a1), (.ref a2)] below meth c s₁ [] 0 0 := Stand.of_body Bd
  have e0 : s₁.heap = h0 := by rw [← hh, Bd.state]; rfl
  have N0 := Fr.nil n0
  refine of_go (ef_rm7 m a1 a2) ?_
  refine Go.step (T' := s₁) (f' := (mkF m 1 #[.val (.ref a1), .val (.ref a2)] [(.ref a1)])) (fun _ k => XS.aloadN X0.here hx rfl (hb hby d7_0) rfl rfl k) ?_
  refine Go.step (T' := s₁) (f' := (mkF m 13 #[.val (.ref a1), .val (.ref a2)] [])) (fun _ k => XS.ifnonnullYes X0.here hx rfl (pc0 := 1) (pc' := 13) rfl (hb hby d7_1) rfl (by decide) (by decide) k) ?_
  refine Go.step (T' := s₁) (f' := (mkF m 14 #[.val (.ref a1), .val (.ref a2)] [(.ref a1)])) (fun _ k => XS.aloadN X0.here hx rfl (hb hby d7_13) rfl rfl k) ?_
  refine goA X0 hx Bd.returns rfl rfl Bd.notSynchronized (hb hby d7_14) ?_ (by decide) (by decide)
  show Q_rm7 Z a1 a2 h0 n0 _ s₁.heap _
  rw [e0]
  exact ⟨rfl, N0, rfl⟩
theorem d8_0 : decode prog_13_method_1_code 0 = .ok (.aload_n 0, 1) := by decide +kernel
theorem d8_1 : decode prog_13_method_1_code 1 = .ok (.invokespecial 1, 3) := by decide +kernel
theorem d8_4 : decode prog_13_method_1_code 4 = .ok (.aload_n 0, 1) := by decide +kernel
theorem d8_5 : decode prog_13_method_1_code 5 = .ok (.aload_n 1, 1) := by decide +kernel
theorem d8_6 : decode prog_13_method_1_code 6 = .ok (.putfield 7, 3) := by decide +kernel
theorem d8_9 : decode prog_13_method_1_code 9 = .ok (.return_, 1) := by decide +kernel
theorem pn_8 : plainName "com/example/managed_transactions/managedtransactions/model/TransactionDefinition" = true := by first | (simp [plainName, overriddenIn]; done) | decide +kernel
theorem ef_rm8 (m : MethodId) (a1 : Addr) (a2 : Addr) : entryFrame m #[(.ref a1), (.ref a2)] 2 = mkF m 0 #[.val (.ref a1), .val (.ref a2)] [] := by first | (simp [entryFrame, mkF, argsToLocals, Value.category]; done) | rfl
def Q_rm8 (Z : State) (a1 : Addr) (a2 : Addr) (h0 : Heap) (n0 : Nat) (rv : Option Value) (hq : Heap) (Lq : List Loc) : Prop := rv = none ∧ Fr n0 Lq ∧ Keep h0 hq [a1] ∧ Fld Z hq a1 "com/example/managed_transactions/managedtransactions/model/TransactionDefinition" "settings" "Lcom/example/managed_transactions/managedtransactions/model/TransactionDefinition$Settings;" (.ref a2)
set_option maxRecDepth 65536 in
set_option maxHeartbeats 40000000 in
theorem rm8 (l : Launch) (Z : State) (a0 : Array Value) (hw : ∀ d ∈ tables_1, d.before a0 Z = true) (ws : List Jvm.Cond) (a1 : Addr) (a2 : Addr) (h0 : Heap) (n0 : Nat) (Z0 : n0 ≤ h0.size) (E_a1 : Exa Z h0 a1 "com/example/managed_transactions/managedtransactions/model/TransactionDefinition") (F_settings_a1 : Fld Z h0 a1 "com/example/managed_transactions/managedtransactions/model/TransactionDefinition" "settings" "Lcom/example/managed_transactions/managedtransactions/model/TransactionDefinition$Settings;" .null) (g_a1 : n0 ≤ a1) :
    MetFree l (⟨"com/example/managed_transactions/managedtransactions/model/TransactionDefinition", "<init>", "(Lcom/example/managed_transactions/managedtransactions/model/TransactionDefinition$Settings;)V"⟩ : MethodName) (head1 (Jvm.Cond.code (⟨"com/example/managed_transactions/managedtransactions/model/TransactionDefinition", "<init>", "(Lcom/example/managed_transactions/managedtransactions/model/TransactionDefinition$Settings;)V"⟩ : MethodName) prog_13_method_1_code 2 none :: ws) ({ frames := 1, cells := 0, slots := 0, locals := 12 } : Room)) (fun a U => a = #[(.ref a1), (.ref a2)] ∧ Z.Warmed39 U.vm ∧ U.heap = h0) (fun _ _ _ _ _ => True) (fun _ U o U' => ∃ rv Lq, o = .returned rv ∧ Q_rm8 Z a1 a2 h0 n0 rv U'.heap Lq ∧ FrameEnd U o U' Lq ({ frames := 1, cells := 0, slots := 0, locals := 12 } : Room).cells ({ frames := 1, cells := 0, slots := 0, locals := 12 } : Room).slots) := by
  refine MetFree.of_bodySF (plainFor_of_name pn_8) hisR ?_
  intro p e s m args below meth c s₁ Bd hml0 hP hK
  obtain ⟨rfl, hZ, hh⟩ := hP
  have hx := Bd.exec
  have hby := Bd.bytes
  have hml : c.maxLocals = 2 := hml0
  have hown : s.vm.findClass "com/example/managed_transactions/managedtransactions/model/TransactionDefinition" = some m.cls := findClass_of_methodNamed Bd.named
  have hnm := (name_of_methodNamed Bd.named Bd.method).1
  have X0 : Stand p l e ({ frames := 1, cells := 0, slots := 0, locals := 12 } : Room) s m #[(.ref a1), (.ref a2)] below meth c s₁ [] 0 0 := Stand.of_body Bd
  have e0 : s₁.heap = h0 := by rw [← hh, Bd.state]; rfl
  have N0 := Fr.nil n0
  refine of_go (ef_rm8 m a1 a2) ?_
  refine Go.step (T' := s₁) (f' := (mkF m 1 #[.val (.ref a1), .val (.ref a2)] [(.ref a1)])) (fun _ k => XS.aloadN X0.here hx rfl (hb hby d8_0) rfl rfl k) ?_
  obtain ⟨T1, X1, e1, st1⟩ := initO X0 hx hZ hown (hw _ (List.mem_of_getElem? (i := 64) rfl)) (hw _ (List.mem_of_getElem? (i := 19) rfl)) (hw _ (List.mem_of_getElem? (i := 20) rfl)) e0 (g := (mkF m 1 #[.val (.ref a1), .val (.ref a2)] [(.ref a1)])) rfl (by rw [hml]; rfl) rfl (hb hby d8_1) (by decide) (W := 0) (by show 2 * 0 + _ ≤ _; exact Nat.le_of_eq rfl) (by decide)
  refine Go.step (T' := T1) (f' := (mkF m 4 #[.val (.ref a1), .val (.ref a2)] [])) st1 ?_
  refine Go.step (T' := T1) (f' := (mkF m 5 #[.val (.ref a1), .val (.ref a2)] [(.ref a1)])) (fun _ k => XS.aloadN X1.here hx rfl (hb hby d8_4) rfl rfl k) ?_
  refine Go.step (T' := T1) (f' := (mkF m 6 #[.val (.ref a1), .val (.ref a2)] [(.ref a2), (.ref a1)])) (fun _ k => XS.aloadN X1.here hx rfl (hb hby d8_5) rfl rfl k) ?_
  obtain ⟨T2, h2, X2, e2, W2, st2⟩ := putF X1 hx hZ hown (host := "") (Or.inl (hw _ (List.mem_of_getElem? (i := 65) rfl))) Via.refl e1 F_settings_a1 E_a1 (Or.inr ⟨(hw _ (List.mem_of_getElem? (i := 66) rfl)), rfl, hnm⟩) (hw _ (List.mem_of_getElem? (i := 60) rfl)) (ty := (.object "com/example/managed_transactions/managedtransactions/model/TransactionDefinition$Settings")) (by decide) rfl rfl (g := (mkF m 6 #[.val (.ref a1), .val (.ref a2)] [(.ref a2), (.ref a1)])) rfl rfl (hb hby d8_6)
  have N2 := Fr.snoc X2 N0 g_a1
  have Z3 : n0 ≤ h2.size := Nat.le_trans Z0 (Keep.of_wr W2).1
  have K3 : Keep h0 h2 [a1] := (Keep.refl h0 [a1]).wr W2 (Or.inl (List.mem_of_getElem? (i := 0) rfl))
  have Fw2 := F_settings_a1.same W2
  refine Go.step (T' := T2) (f' := (mkF m 9 #[.val (.ref a1), .val (.ref a2)] [])) st2 ?_
  refine goV X2 hx Bd.returns Bd.notSynchronized (hb hby d8_9) ?_ (by decide) (by decide)
  show Q_rm8 Z a1 a2 h0 n0 _ T2.heap _
  rw [e2]
  exact ⟨rfl, N2, K3, Fw2⟩
theorem d2_0 : decode prog_13_method_2_code 0 = .ok (.new 13, 3) := by decide +kernel
theorem d2_3 : decode prog_13_method_2_code 3 = .ok (.dup, 1) := by decide +kernel
theorem d2_4 : decode prog_13_method_2_code 4 = .ok (.invokespecial 15, 3) := by decide +kernel
theorem pd_2 : parseMethodDescriptor "()V" = some ⟨[], none⟩ := by decide +kernel
theorem d2_7 : decode prog_13_method_2_code 7 = .ok (.astore_n 1, 1) := by decide +kernel
theorem d2_8 : decode prog_13_method_2_code 8 = .ok (.aload_n 1, 1) := by decide +kernel
theorem d2_9 : decode prog_13_method_2_code 9 = .ok (.aload_n 0, 1) := by decide +kernel
theorem d2_10 : decode prog_13_method_2_code 10 = .ok (.ldc 16, 2) := by decide +kernel
theorem d2_12 : decode prog_13_method_2_code 12 = .ok (.invokestatic 18, 3) := by decide +kernel
theorem pd_3 : parseMethodDescriptor "(Ljava/lang/Object;Ljava/lang/String;)Ljava/lang/Object;" = some ⟨[(.object "java/lang/Object"), (.object "java/lang/String")], some (.object "java/lang/Object")⟩ := by decide +kernel
theorem d2_15 : decode prog_13_method_2_code 15 = .ok (.checkcast 24, 3) := by decide +kernel
theorem d2_18 : decode prog_13_method_2_code 18 = .ok (.putfield 26, 3) := by decide +kernel
theorem d2_21 : decode prog_13_method_2_code 21 = .ok (.new 8, 3) := by decide +kernel
theorem d2_24 : decode prog_13_method_2_code 24 = .ok (.dup, 1) := by decide +kernel
theorem d2_25 : decode prog_13_method_2_code 25 = .ok (.aload_n 1, 1) := by decide +kernel
theorem d2_26 : decode prog_13_method_2_code 26 = .ok (.invokespecial 29, 3) := by decide +kernel
theorem pd_4 : parseMethodDescriptor "(Lcom/example/managed_transactions/managedtransactions/model/TransactionDefinition$Settings;)V" = some ⟨[(.object "com/example/managed_transactions/managedtransactions/model/TransactionDefinition$Settings")], none⟩ := by decide +kernel
theorem d2_29 : decode prog_13_method_2_code 29 = .ok (.areturn, 1) := by decide +kernel
theorem ef_rm2 (m : MethodId) (a1 : Addr) : entryFrame m #[(.ref a1)] 2 = mkF m 0 #[.val (.ref a1), .unset] [] := by first | (simp [entryFrame, mkF, argsToLocals, Value.category]; done) | rfl
def Q_rm2 (Z : State) (a1 : Addr) (s_DEFAULT : Addr) (s_EMPTY : Addr) (s_SET : Addr) (h0 : Heap) (n0 : Nat) (rv : Option Value) (hq : Heap) (Lq : List Loc) : Prop := ∃ d : Addr, ∃ t : Addr, rv = some (.ref d) ∧ Fr n0 Lq ∧ Keep h0 hq [] ∧ h0.size ≤ d ∧ h0.size ≤ t ∧ Exa Z hq d "com/example/managed_transactions/managedtransactions/model/TransactionDefinition" ∧ Fld Z hq d "com/example/managed_transactions/managedtransactions/model/TransactionDefinition" "settings" "Lcom/example/managed_transactions/managedtransactions/model/TransactionDefinition$Settings;" (.ref t) ∧ Fld Z hq t "com/example/managed_transactions/managedtransactions/model/TransactionDefinition$Settings" "propagation" "Lcom/example/managed_transactions/managedtransactions/model/Propagation;" (.ref a1) ∧ Fld Z hq t "com/example/managed_transactions/managedtransactions/model/TransactionDefinition$Settings" "isolation" "Lcom/example/managed_transactions/managedtransactions/model/Isolation;" (.ref s_DEFAULT) ∧ Fld Z hq t "com/example/managed_transactions/managedtransactions/model/TransactionDefinition$Settings" "readOnly" "Z" (.int (0 : Int32))
set_option maxRecDepth 65536 in
set_option maxHeartbeats 40000000 in
theorem rm2 (l : Launch) (Z : State) (a0 : Array Value) (hw : ∀ d ∈ tables_1, d.before a0 Z = true) (ws : List Jvm.Cond) (a1 : Addr) (s_DEFAULT : Addr) (s_EMPTY : Addr) (s_SET : Addr) (h0 : Heap) (n0 : Nat) (Z0 : n0 ≤ h0.size) (E_a1 : Exa Z h0 a1 "com/example/managed_transactions/managedtransactions/model/Propagation") (O0 : Old Z n0 h0) (S_DEFAULT : Sta Z Z.heap "com/example/managed_transactions/managedtransactions/model/Isolation" "DEFAULT" "Lcom/example/managed_transactions/managedtransactions/model/Isolation;" (.ref s_DEFAULT)) (S_EMPTY : Sta Z Z.heap "java/util/OptionalInt" "EMPTY" "Ljava/util/OptionalInt;" (.ref s_EMPTY)) (S_EMPTY_SET : Sta Z Z.heap "java/util/ImmutableCollections" "EMPTY_SET" "Ljava/util/ImmutableCollections$SetN;" (.ref s_SET)) :
    MetFree l (⟨"com/example/managed_transactions/managedtransactions/model/TransactionDefinition", "of", "(Lcom/example/managed_transactions/managedtransactions/model/Propagation;)Lcom/example/managed_transactions/managedtransactions/model/TransactionDefinition;"⟩ : MethodName) (head1 (Jvm.Cond.code (⟨"com/example/managed_transactions/managedtransactions/model/TransactionDefinition", "of", "(Lcom/example/managed_transactions/managedtransactions/model/Propagation;)Lcom/example/managed_transactions/managedtransactions/model/TransactionDefinition;"⟩ : MethodName) prog_13_method_2_code 2 (some (.object "com/example/managed_transactions/managedtransactions/model/TransactionDefinition")) :: ws) ({ frames := 2, cells := 4, slots := 55, locals := 26 } : Room)) (fun a U => a = #[(.ref a1)] ∧ Z.Warmed39 U.vm ∧ U.heap = h0) (fun _ _ _ _ _ => True) (fun _ U o U' => ∃ rv Lq, o = .returned rv ∧ Q_rm2 Z a1 s_DEFAULT s_EMPTY s_SET h0 n0 rv U'.heap Lq ∧ ReturnedEndW U o U' Lq ({ frames := 2, cells := 4, slots := 55, locals := 26 } : Room).cells ({ frames := 2, cells := 4, slots := 55, locals := 26 } : Room).slots) := by
  refine MetFree.of_bodySF (plainFor_of_name pn_8) hisR ?_
  intro p e s m args below meth c s₁ Bd hml0 hP hK
  obtain ⟨rfl, hZ, hh⟩ := hP
  have hx := Bd.exec
  have hby := Bd.bytes
  have hml : c.maxLocals = 2 := hml0
  have hown : s.vm.findClass "com/example/managed_transactions/managedtransactions/model/TransactionDefinition" = some m.cls := findClass_of_methodNamed Bd.named
  have hnm := (name_of_methodNamed Bd.named Bd.method).1
  have X0 : Stand p l e ({ frames := 2, cells := 4, slots := 55, locals := 26 } : Room) s m #[(.ref a1)] below meth c s₁ [] 0 0 := Stand.of_body Bd
  have e0 : s₁.heap = h0 := by rw [← hh, Bd.state]; rfl
  have N0 := Fr.nil n0
  have X0 : Stand p l e ({ frames := 2, cells := 4, slots := 55, locals := 26 } : Room) (s.setVm s.vm) m #[(.ref a1)] below meth c s₁ [] 0 0 := X0
  have hS : s.Since s.vm h0.size := (State.WarmedH.refl s).since _
  have hk := Nat.le_refl h0.size
  have hZ : Z.Warmed39 (s.setVm s.vm).vm := hZ
  have hown : (s.setVm s.vm).vm.findClass "com/example/managed_transactions/managedtransactions/model/TransactionDefinition" = some m.cls := hown
  refine of_goW (ef_rm2 m a1) ?_
  obtain ⟨T1, h1, X1, e1, E1, A1, D1, -, st1⟩ := newO X0 hx hZ hown (hw _ (List.mem_of_getElem? (i := 12) rfl)) (hw _ (List.mem_of_getElem? (i := 13) rfl)) (hw _ (List.mem_of_getElem? (i := 14) rfl)) e0 (g := (mkF m 0 #[.val (.ref a1), .unset] [])) rfl (hb hby d2_0) (by decide) (by decide)
  obtain ⟨b1, g1⟩ : ∃ z, z = h0.size := ⟨_, rfl⟩
  rw [← g1] at A1 D1 st1
  have g_b1 : n0 ≤ b1 := Nat.le_trans Z0 (Nat.le_of_eq g1.symm)
  have sz_b1 : h0.size ≤ b1 := Nat.le_trans (Keep.refl h0 []).1 (Nat.le_of_eq g1.symm)
  have Z2 : n0 ≤ h1.size := Nat.le_trans Z0 E1.1
  have hk := Nat.le_trans hk E1.1
  have O2 : Old Z n0 h1 := O0.ext E1
  have K2 : Keep h0 h1 [] := (Keep.refl h0 []).ext E1
  have F_isolation_b1 : Fld Z h1 b1 "com/example/managed_transactions/managedtransactions/model/TransactionDefinition$Settings" "isolation" "Lcom/example/managed_transactions/managedtransactions/model/Isolation;" .null := D1 (Or.inl (hw _ (List.mem_of_getElem? (i := 25) rfl))) (ty := (.object "com/example/managed_transactions/managedtransactions/model/Isolation")) (by decide)
  have F_timeout_b1 : Fld Z h1 b1 "com/example/managed_transactions/managedtransactions/model/TransactionDefinition$Settings" "timeout" "Ljava/util/OptionalInt;" .null := D1 (Or.inl (hw _ (List.mem_of_getElem? (i := 32) rfl))) (ty := (.object "java/util/OptionalInt")) (by decide)
  have F_rollbackFor_b1 : Fld Z h1 b1 "com/example/managed_transactions/managedtransactions/model/TransactionDefinition$Settings" "rollbackFor" "Ljava/util/Set;" .null := D1 (Or.inl (hw _ (List.mem_of_getElem? (i := 40) rfl))) (ty := (.object "java/util/Set")) (by decide)
  have F_noRollbackFor_b1 : Fld Z h1 b1 "com/example/managed_transactions/managedtransactions/model/TransactionDefinition$Settings" "noRollbackFor" "Ljava/util/Set;" .null := D1 (Or.inl (hw _ (List.mem_of_getElem? (i := 42) rfl))) (ty := (.object "java/util/Set")) (by decide)
  have F_propagation_b1 : Fld Z h1 b1 "com/example/managed_transactions/managedtransactions/model/TransactionDefinition$Settings" "propagation" "Lcom/example/managed_transactions/managedtransactions/model/Propagation;" .null := D1 (Or.inl (hw _ (List.mem_of_getElem? (i := 58) rfl))) (ty := (.object "com/example/managed_transactions/managedtransactions/model/Propagation")) (by decide)
  have F_readOnly_b1 : Fld Z h1 b1 "com/example/managed_transactions/managedtransactions/model/TransactionDefinition$Settings" "readOnly" "Z" (.int (0 : Int32)) := D1 (Or.inl (hw _ (List.mem_of_getElem? (i := 85) rfl))) (ty := .boolean) (by decide)
  refine Go.step (T' := T1) (f' := (mkF m 3 #[.val (.ref a1), .unset] [(.ref b1)])) st1 ?_
  refine Go.step (T' := T1) (f' := (mkF m 4 #[.val (.ref a1), .unset] [(.ref b1), (.ref b1)])) (fun _ k => XS.dup X1.here hx rfl (hb hby d2_3) rfl rfl k) ?_
  obtain ⟨_, _, ⟨T3, L3, kk3, nn3⟩, -, X3, ⟨Lc3, hQ3, lq3, yq3, zq3⟩, st3⟩ := own_specR X1 hx (y := (⟨"com/example/managed_transactions/managedtransactions/model/TransactionDefinition$Settings", "<init>", "()V"⟩ : MethodName)) rfl hown (own_mvR hZ (hw _ (List.mem_of_getElem? (i := 16) rfl)) (by decide) (hw _ (List.mem_of_getElem? (i := 15) rfl))) (mvT hZ (hw _ (List.mem_of_getElem? (i := 16) rfl))) (mvT hZ (hw _ (List.mem_of_getElem? (i := 17) rfl))) (by decide) (backOf (W := 1) (rm3 l Z a0 hw [] b1 s_DEFAULT s_EMPTY s_SET h1 n0 Z2 A1 F_propagation_b1 F_isolation_b1 F_readOnly_b1 F_timeout_b1 F_rollbackFor_b1 F_noRollbackFor_b1 O2 S_DEFAULT S_EMPTY S_EMPTY_SET g_b1) hZ (hw _ (List.mem_of_getElem? (i := 17) rfl)) (hw _ (List.mem_of_getElem? (i := 14) rfl)) (by decide) (by decide)) (g := (mkF m 4 #[.val (.ref a1), .unset] [(.ref b1), (.ref b1)])) rfl (by rw [hml]; rfl) (Steps.refl _) (a := b1) (argsL := []) (rest := [(.ref b1)]) (lenOf pd_2 rfl) rfl (by show 2 * 0 + _ ≤ _; exact Nat.le_of_eq rfl) (hb hby d2_4) (fun _ _ => ⟨rfl, e1, (by decide : 1 + 0 ≤ _), (by decide : 6 + 0 ≤ _)⟩)
  dsimp only [Pt.U, Pt.locs, Pt.cells, Pt.slots] at X3 lq3 yq3 zq3 st3 hQ3
  subst yq3 zq3
  obtain ⟨rfl, Nq3, Kq3, r3_0, r3_1, r3_2⟩ := hQ3
  have N3 : Fr n0 L3 := by rw [lq3]; exact Fr.app N0 Nq3
  have Z4 : n0 ≤ T3.heap.size := Nat.le_trans Z2 Kq3.1
  have hk := Nat.le_trans hk Kq3.1
  have O4 : Old Z n0 T3.heap := O2.keep Kq3 (allS g_b1 all0)
  have K4 : Keep h0 T3.heap [] := K2.trans Kq3 (allS (Or.inr sz_b1) all0)
  refine Go.step (T' := T3) (f' := (mkF m 7 #[.val (.ref a1), .unset] [(.ref b1)])) (fun _ k => st3.trans k) ?_
  refine Go.step (T' := T3) (f' := (mkF m 8 #[.val (.ref a1), .val (.ref b1)] [])) (fun _ k => XS.astoreN X3.here hx rfl (hb hby d2_7) rfl rfl (l' := #[.val (.ref a1), .val (.ref b1)]) rfl k) ?_
  refine Go.step (T' := T3) (f' := (mkF m 9 #[.val (.ref a1), .val (.ref b1)] [(.ref b1)])) (fun _ k => XS.aloadN X3.here hx rfl (hb hby d2_8) rfl rfl k) ?_
  refine Go.step (T' := T3) (f' := (mkF m 10 #[.val (.ref a1), .val (.ref b1)] [(.ref a1), (.ref b1)])) (fun _ k => XS.aloadN X3.here hx rfl (hb hby d2_9) rfl rfl k) ?_
  obtain ⟨b5, T5, h5, k5, X5, e5, E5, hS, hk, hZ, hown, st5⟩ := ldcS X3 hx hZ hown (hw _ (List.mem_of_getElem? (i := 43) rfl)) (own_sA hw) rfl hS hk (g := (mkF m 10 #[.val (.ref a1), .val (.ref b1)] [(.ref a1), (.ref b1)])) rfl (hb hby d2_10) (n := 44) (by decide) (by decide) (by decide) (by decide)
  have Z6 : n0 ≤ h5.size := Nat.le_trans Z4 E5.1
  have O6 : Old Z n0 h5 := O4.ext E5
  have K6 : Keep h0 h5 [] := K4.ext E5
  refine Go.step (T' := T5) (f' := (mkF m 12 #[.val (.ref a1), .val (.ref b1)] [(.ref b5), (.ref a1), (.ref b1)])) st5 ?_
  obtain ⟨_, _, ⟨T7, L7, kk7, nn7⟩, -, X7, ⟨Lc7, hQ7, lq7, yq7, zq7⟩, st7⟩ := Jvm.LawKit.callS X5 hx (y := (⟨"java/util/Objects", "requireNonNull", "(Ljava/lang/Object;Ljava/lang/String;)Ljava/lang/Object;"⟩ : MethodName)) hown (mvT hZ (hw _ (List.mem_of_getElem? (i := 51) rfl))) (mvT hZ (hw _ (List.mem_of_getElem? (i := 52) rfl))) (mvT hZ (hw _ (List.mem_of_getElem? (i := 53) rfl))) (mvT hZ (hw _ (List.mem_of_getElem? (i := 54) rfl))) (by decide) (backOf (W := 1) (rm7 l Z a0 hw [] a1 b5 h5 n0 Z6 ) hZ (hw _ (List.mem_of_getElem? (i := 54) rfl)) (hw _ (List.mem_of_getElem? (i := 53) rfl)) (by decide) (by decide)) (g := (mkF m 12 #[.val (.ref a1), .val (.ref b1)] [(.ref b5), (.ref a1), (.ref b1)])) rfl (by rw [hml]; rfl) (argsL := [(.ref a1), (.ref b5)]) (rest := [(.ref b1)]) (lenOf pd_3 rfl) rfl (by show 2 * 0 + _ ≤ _; exact Nat.le_of_eq rfl) (hb hby d2_12) (fun _ _ => ⟨rfl, e5, (by decide : 3 + 0 ≤ _), (by decide : 54 + 0 ≤ _)⟩)
  dsimp only [Pt.U, Pt.locs, Pt.cells, Pt.slots] at X7 lq7 yq7 zq7 st7 hQ7
  subst yq7 zq7
  obtain ⟨rfl, Nq7, eh7⟩ := hQ7
  have N7 : Fr n0 L7 := by rw [lq7]; exact Fr.app N3 Nq7
  refine Go.step (T' := T7) (f' := (mkF m 15 #[.val (.ref a1), .val (.ref b1)] [(.ref a1), (.ref b1)])) st7 ?_
  have q8 : Exa Z h5 a1 "com/example/managed_transactions/managedtransactions/model/Propagation" := (((E_a1.ext E1).keep Kq3).ext E5)
  obtain ⟨T9, X9, e9, st9⟩ := castY X7 hx hZ hown (hw _ (List.mem_of_getElem? (i := 55) rfl)) eh7 (Ins.self q8) (g := (mkF m 15 #[.val (.ref a1), .val (.ref b1)] [(.ref a1), (.ref b1)])) rfl rfl (hb hby d2_15)
  refine Go.step (T' := T9) (f' := (mkF m 18 #[.val (.ref a1), .val (.ref b1)] [(.ref a1), (.ref b1)])) st9 ?_
  have q10 : Fld Z h5 b1 "com/example/managed_transactions/managedtransactions/model/TransactionDefinition$Settings" "propagation" "Lcom/example/managed_transactions/managedtransactions/model/Propagation;" .null := (r3_0.ext E5)
  have q11 : Exa Z h5 b1 "com/example/managed_transactions/managedtransactions/model/TransactionDefinition$Settings" := ((A1.keep Kq3).ext E5)
  obtain ⟨T12, h12, X12, e12, W12, st12⟩ := own_putR X9 hx hZ hown (hw _ (List.mem_of_getElem? (i := 57) rfl)) e9 q10 q11 (hw _ (List.mem_of_getElem? (i := 58) rfl)) (hw _ (List.mem_of_getElem? (i := 13) rfl)) (ty := (.object "com/example/managed_transactions/managedtransactions/model/Propagation")) (by decide) rfl rfl (g := (mkF m 18 #[.val (.ref a1), .val (.ref b1)] [(.ref a1), (.ref b1)])) rfl rfl (hb hby d2_18)
  have N12 := Fr.snoc X12 N7 g_b1
  have Z13 : n0 ≤ h12.size := Nat.le_trans Z6 (Keep.of_wr W12).1
  have hk := Nat.le_trans hk (Keep.of_wr W12).1
  have O13 : Old Z n0 h12 := O6.wr W12 g_b1
  have K13 : Keep h0 h12 [] := K6.wr W12 (Or.inr sz_b1)
  have Fw12 := q10.same W12
  refine Go.step (T' := T12) (f' := (mkF m 21 #[.val (.ref a1), .val (.ref b1)] [])) st12 ?_
  obtain ⟨T14, h14, X14, e14, E14, A14, D14, -, st14⟩ := newO X12 hx hZ hown (hw _ (List.mem_of_getElem? (i := 59) rfl)) (hw _ (List.mem_of_getElem? (i := 60) rfl)) (hw _ (List.mem_of_getElem? (i := 10) rfl)) e12 (g := (mkF m 21 #[.val (.ref a1), .val (.ref b1)] [])) rfl (hb hby d2_21) (by decide) (by decide)
  obtain ⟨b14, g14⟩ : ∃ z, z = h12.size := ⟨_, rfl⟩
  rw [← g14] at A14 D14 st14
  have g_b14 : n0 ≤ b14 := Nat.le_trans Z13 (Nat.le_of_eq g14.symm)
  have sz_b14 : h0.size ≤ b14 := Nat.le_trans K13.1 (Nat.le_of_eq g14.symm)
  have Z15 : n0 ≤ h14.size := Nat.le_trans Z13 E14.1
  have hk := Nat.le_trans hk E14.1
  have O15 : Old Z n0 h14 := O13.ext E14
  have K15 : Keep h0 h14 [] := K13.ext E14
  have F_settings_b14 : Fld Z h14 b14 "com/example/managed_transactions/managedtransactions/model/TransactionDefinition" "settings" "Lcom/example/managed_transactions/managedtransactions/model/TransactionDefinition$Settings;" .null := D14 (Or.inr (hw _ (List.mem_of_getElem? (i := 66) rfl))) (ty := (.object "com/example/managed_transactions/managedtransactions/model/TransactionDefinition$Settings")) (by decide)
  refine Go.step (T' := T14) (f' := (mkF m 24 #[.val (.ref a1), .val (.ref b1)] [(.ref b14)])) st14 ?_
  refine Go.step (T' := T14) (f' := (mkF m 25 #[.val (.ref a1), .val (.ref b1)] [(.ref b14), (.ref b14)])) (fun _ k => XS.dup X14.here hx rfl (hb hby d2_24) rfl rfl k) ?_
  refine Go.step (T' := T14) (f' := (mkF m 26 #[.val (.ref a1), .val (.ref b1)] [(.ref b1), (.ref b14), (.ref b14)])) (fun _ k => XS.aloadN X14.here hx rfl (hb hby d2_25) rfl rfl k) ?_
  obtain ⟨_, _, ⟨T16, L16, kk16, nn16⟩, -, X16, ⟨Lc16, hQ16, lq16, yq16, zq16⟩, st16⟩ := X14.specialBack hx (y := (⟨"com/example/managed_transactions/managedtransactions/model/TransactionDefinition", "<init>", "(Lcom/example/managed_transactions/managedtransactions/model/TransactionDefinition$Settings;)V"⟩ : MethodName)) rfl hown (mvT hZ (hw _ (List.mem_of_getElem? (i := 61) rfl))) (mvT hZ (hw _ (List.mem_of_getElem? (i := 62) rfl))) (mvT hZ (hw _ (List.mem_of_getElem? (i := 63) rfl))) (by decide) (backOf (W := 1) (rm8 l Z a0 hw [] b14 b1 h14 n0 Z15 A14 F_settings_b14 g_b14) hZ (hw _ (List.mem_of_getElem? (i := 63) rfl)) (hw _ (List.mem_of_getElem? (i := 10) rfl)) (by decide) (by decide)) (g := (mkF m 26 #[.val (.ref a1), .val (.ref b1)] [(.ref b1), (.ref b14), (.ref b14)])) rfl (by rw [hml]; rfl) (Steps.refl _) (a := b14) (argsL := [(.ref b1)]) (rest := [(.ref b14)]) (lenOf pd_4 rfl) rfl (by show 2 * 0 + _ ≤ _; exact Nat.le_of_eq rfl) (hb hby d2_26) (fun _ _ => ⟨rfl, e14, (by decide : 4 + 0 ≤ _), (by decide : 55 + 0 ≤ _)⟩)
  dsimp only [Pt.U, Pt.locs, Pt.cells, Pt.slots] at X16 lq16 yq16 zq16 st16 hQ16
  subst yq16 zq16
  obtain ⟨rfl, Nq16, Kq16, r16_0⟩ := hQ16
  have N16 : Fr n0 L16 := by rw [lq16]; exact Fr.app N12 Nq16
  have Z17 : n0 ≤ T16.heap.size := Nat.le_trans Z15 Kq16.1
  have hk := Nat.le_trans hk Kq16.1
  have O17 : Old Z n0 T16.heap := O15.keep Kq16 (allS g_b14 all0)
  have K17 : Keep h0 T16.heap [] := K15.trans Kq16 (allS (Or.inr sz_b14) all0)
  refine Go.step (T' := T16) (f' := (mkF m 29 #[.val (.ref a1), .val (.ref b1)] [(.ref b14)])) (fun _ k => st16.trans k) ?_
  refine goAW hS X16 hk hx Bd.returns rfl rfl Bd.notSynchronized (hb hby d2_29) ?_ (by decide) (by decide)
  show Q_rm2 Z a1 s_DEFAULT s_EMPTY s_SET h0 n0 _ T16.heap _
  have q18 : Exa Z T16.heap b14 "com/example/managed_transactions/managedtransactions/model/TransactionDefinition" := (A14.keep Kq16)
  have q19 : Fld Z T16.heap b1 "com/example/managed_transactions/managedtransactions/model/TransactionDefinition$Settings" "propagation" "Lcom/example/managed_transactions/managedtransactions/model/Propagation;" (.ref a1) := ((Fw12.ext E14).keep Kq16 (ninS (Nat.ne_of_lt (Nat.lt_of_lt_of_le (q11.wr W12).lt (Nat.le_of_eq g14.symm))) nin0))
  have q20 : Fld Z T16.heap b1 "com/example/managed_transactions/managedtransactions/model/TransactionDefinition$Settings" "isolation" "Lcom/example/managed_transactions/managedtransactions/model/Isolation;" (.ref s_DEFAULT) := ((((r3_1.ext E5).other W12 (Or.inr (slot_ne (Or.inl (hw _ (List.mem_of_getElem? (i := 25) rfl))) (Or.inl (hw _ (List.mem_of_getElem? (i := 58) rfl))) (by decide) (t := (.object "com/example/managed_transactions/managedtransactions/model/Isolation")) (t' := (.object "com/example/managed_transactions/managedtransactions/model/Propagation")) (by decide) (by decide)))).ext E14).keep Kq16 (ninS (Nat.ne_of_lt (Nat.lt_of_lt_of_le (q11.wr W12).lt (Nat.le_of_eq g14.symm))) nin0))
  have q21 : Fld Z T16.heap b1 "com/example/managed_transactions/managedtransactions/model/TransactionDefinition$Settings" "readOnly" "Z" (.int (0 : Int32)) := ((((r3_2.ext E5).other W12 (Or.inr (slot_ne (Or.inl (hw _ (List.mem_of_getElem? (i := 85) rfl))) (Or.inl (hw _ (List.mem_of_getElem? (i := 58) rfl))) (by decide) (t := .boolean) (t' := (.object "com/example/managed_transactions/managedtransactions/model/Propagation")) (by decide) (by decide)))).ext E14).keep Kq16 (ninS (Nat.ne_of_lt (Nat.lt_of_lt_of_le (q11.wr W12).lt (Nat.le_of_eq g14.symm))) nin0))
  exact ⟨b14, b1, rfl, N16, K17, sz_b14, sz_b1, q18, r16_0, q19, q20, q21⟩
theorem d9_0 : decode prog_13_method_11_code 0 = .ok (.aload_n 0, 1) := by decide +kernel
theorem d9_1 : decode prog_13_method_11_code 1 = .ok (.getfield 7, 3) := by decide +kernel
theorem d9_4 : decode prog_13_method_11_code 4 = .ok (.getfield 26, 3) := by decide +kernel
theorem d9_7 : decode prog_13_method_11_code 7 = .ok (.areturn, 1) := by decide +kernel
theorem ef_rm9 (m : MethodId) (a1 : Addr) : entryFrame m #[(.ref a1)] 1 = mkF m 0 #[.val (.ref a1)] [] := by first | (simp [entryFrame, mkF, argsToLocals, Value.category]; done) | rfl
def Q_rm9 (Z : State) (a1 : Addr) (t : Addr) (w : Addr) (h0 : Heap) (n0 : Nat) (rv : Option Value) (hq : Heap) (Lq : List Loc) : Prop := rv = some (.ref w) ∧ Fr n0 Lq ∧ hq = h0
set_option maxRecDepth 65536 in
set_option maxHeartbeats 40000000 in
theorem rm9 (l : Launch) (Z : State) (a0 : Array Value) (hw : ∀ d ∈ tables_1, d.before a0 Z = true) (ws : List Jvm.Cond) (a1 : Addr) (t : Addr) (w : Addr) (h0 : Heap) (n0 : Nat) (Z0 : n0 ≤ h0.size) (F_settings_a1 : Fld Z h0 a1 "com/example/managed_transactions/managedtransactions/model/TransactionDefinition" "settings" "Lcom/example/managed_transactions/managedtransactions/model/TransactionDefinition$Settings;" (.ref t)) (F_propagation_t : Fld Z h0 t "com/example/managed_transactions/managedtransactions/model/TransactionDefinition$Settings" "propagation" "Lcom/example/managed_transactions/managedtransactions/model/Propagation;" (.ref w)) :
    MetFree l (⟨"com/example/managed_transactions/managedtransactions/model/TransactionDefinition", "propagation", "()Lcom/example/managed_transactions/managedtransactions/model/Propagation;"⟩ : MethodName) (head1 (Jvm.Cond.code (⟨"com/example/managed_transactions/managedtransactions/model/TransactionDefinition", "propagation", "()Lcom/example/managed_transactions/managedtransactions/model/Propagation;"⟩ : MethodName) prog_13_method_11_code 1 (some (.object "com/example/managed_transactions/managedtransactions/model/Propagation")) :: ws) ({ frames := 0, cells := 0, slots := 0, locals := 0 } : Room)) (fun a U => a = #[(.ref a1)] ∧ Z.Warmed39 U.vm ∧ U.heap = h0) (fun _ _ _ _ _ => True) (fun _ U o U' => ∃ rv Lq, o = .returned rv ∧ Q_rm9 Z a1 t w h0 n0 rv U'.heap Lq ∧ FrameEnd U o U' Lq ({ frames := 0, cells := 0, slots := 0, locals := 0 } : Room).cells ({ frames := 0, cells := 0, slots := 0, locals := 0 } : Room).slots) := by
  refine MetFree.of_bodySF (plainFor_of_name pn_8) hisR ?_
  intro p e s m args below meth c s₁ Bd hml0 hP hK
  obtain ⟨rfl, hZ, hh⟩ := hP
  have hx := Bd.exec
  have hby := Bd.bytes
  have hml : c.maxLocals = 1 := hml0
  have hown : s.vm.findClass "com/example/managed_transactions/managedtransactions/model/TransactionDefinition" = some m.cls := findClass_of_methodNamed Bd.named
  have hnm := (name_of_methodNamed Bd.named Bd.method).1
  have X0 : Stand p l e ({ frames := 0, cells := 0, slots := 0, locals := 0 } : Room) s m #[(.ref a1)] below meth c s₁ [] 0 0 := Stand.of_body Bd
  have e0 : s₁.heap = h0 := by rw [← hh, Bd.state]; rfl
  have N0 := Fr.nil n0
  refine of_go (ef_rm9 m a1) ?_
  refine Go.step (T' := s₁) (f' := (mkF m 1 #[.val (.ref a1)] [(.ref a1)])) (fun _ k => XS.aloadN X0.here hx rfl (hb hby d9_0) rfl rfl k) ?_
  obtain ⟨T1, X1, e1, st1⟩ := getF X0 hx hZ hown (host := "") (Or.inl (hw _ (List.mem_of_getElem? (i := 65) rfl))) Via.refl e0 F_settings_a1 (g := (mkF m 1 #[.val (.ref a1)] [(.ref a1)])) rfl rfl (hb hby d9_1)
  refine Go.step (T' := T1) (f' := (mkF m 4 #[.val (.ref a1)] [(.ref t)])) st1 ?_
  obtain ⟨T2, X2, e2, st2⟩ := own_getR X1 hx hZ hown (hw _ (List.mem_of_getElem? (i := 57) rfl)) e1 F_propagation_t (g := (mkF m 4 #[.val (.ref a1)] [(.ref t)])) rfl rfl (hb hby d9_4)
  refine Go.step (T' := T2) (f' := (mkF m 7 #[.val (.ref a1)] [(.ref w)])) st2 ?_
  refine goA X2 hx Bd.returns rfl rfl Bd.notSynchronized (hb hby d9_7) ?_ (by decide) (by decide)
  show Q_rm9 Z a1 t w h0 n0 _ T2.heap _
  rw [e2]
  exact ⟨rfl, N0, rfl⟩
theorem d10_0 : decode prog_13_method_12_code 0 = .ok (.aload_n 0, 1) := by decide +kernel
theorem d10_1 : decode prog_13_method_12_code 1 = .ok (.getfield 7, 3) := by decide +kernel
theorem d10_4 : decode prog_13_method_12_code 4 = .ok (.getfield 146, 3) := by decide +kernel
theorem d10_7 : decode prog_13_method_12_code 7 = .ok (.areturn, 1) := by decide +kernel
theorem ef_rm10 (m : MethodId) (a1 : Addr) : entryFrame m #[(.ref a1)] 1 = mkF m 0 #[.val (.ref a1)] [] := by first | (simp [entryFrame, mkF, argsToLocals, Value.category]; done) | rfl
def Q_rm10 (Z : State) (a1 : Addr) (t : Addr) (w : Addr) (h0 : Heap) (n0 : Nat) (rv : Option Value) (hq : Heap) (Lq : List Loc) : Prop := rv = some (.ref w) ∧ Fr n0 Lq ∧ hq = h0
set_option maxRecDepth 65536 in
set_option maxHeartbeats 40000000 in
theorem rm10 (l : Launch) (Z : State) (a0 : Array Value) (hw : ∀ d ∈ tables_1, d.before a0 Z = true) (ws : List Jvm.Cond) (a1 : Addr) (t : Addr) (w : Addr) (h0 : Heap) (n0 : Nat) (Z0 : n0 ≤ h0.size) (F_settings_a1 : Fld Z h0 a1 "com/example/managed_transactions/managedtransactions/model/TransactionDefinition" "settings" "Lcom/example/managed_transactions/managedtransactions/model/TransactionDefinition$Settings;" (.ref t)) (F_isolation_t : Fld Z h0 t "com/example/managed_transactions/managedtransactions/model/TransactionDefinition$Settings" "isolation" "Lcom/example/managed_transactions/managedtransactions/model/Isolation;" (.ref w)) :
    MetFree l (⟨"com/example/managed_transactions/managedtransactions/model/TransactionDefinition", "isolation", "()Lcom/example/managed_transactions/managedtransactions/model/Isolation;"⟩ : MethodName) (head1 (Jvm.Cond.code (⟨"com/example/managed_transactions/managedtransactions/model/TransactionDefinition", "isolation", "()Lcom/example/managed_transactions/managedtransactions/model/Isolation;"⟩ : MethodName) prog_13_method_12_code 1 (some (.object "com/example/managed_transactions/managedtransactions/model/Isolation")) :: ws) ({ frames := 0, cells := 0, slots := 0, locals := 0 } : Room)) (fun a U => a = #[(.ref a1)] ∧ Z.Warmed39 U.vm ∧ U.heap = h0) (fun _ _ _ _ _ => True) (fun _ U o U' => ∃ rv Lq, o = .returned rv ∧ Q_rm10 Z a1 t w h0 n0 rv U'.heap Lq ∧ FrameEnd U o U' Lq ({ frames := 0, cells := 0, slots := 0, locals := 0 } : Room).cells ({ frames := 0, cells := 0, slots := 0, locals := 0 } : Room).slots) := by
  refine MetFree.of_bodySF (plainFor_of_name pn_8) hisR ?_
  intro p e s m args below meth c s₁ Bd hml0 hP hK
  obtain ⟨rfl, hZ, hh⟩ := hP
  have hx := Bd.exec
  have hby := Bd.bytes
  have hml : c.maxLocals = 1 := hml0
  have hown : s.vm.findClass "com/example/managed_transactions/managedtransactions/model/TransactionDefinition" = some m.cls := findClass_of_methodNamed Bd.named
  have hnm := (name_of_methodNamed Bd.named Bd.method).1
  have X0 : Stand p l e ({ frames := 0, cells := 0, slots := 0, locals := 0 } : Room) s m #[(.ref a1)] below meth c s₁ [] 0 0 := Stand.of_body Bd
  have e0 : s₁.heap = h0 := by rw [← hh, Bd.state]; rfl
  have N0 := Fr.nil n0
  refine of_go (ef_rm10 m a1) ?_
  refine Go.step (T' := s₁) (f' := (mkF m 1 #[.val (.ref a1)] [(.ref a1)])) (fun _ k => XS.aloadN X0.here hx rfl (hb hby d10_0) rfl rfl k) ?_
  obtain ⟨T1, X1, e1, st1⟩ := getF X0 hx hZ hown (host := "") (Or.inl (hw _ (List.mem_of_getElem? (i := 65) rfl))) Via.refl e0 F_settings_a1 (g := (mkF m 1 #[.val (.ref a1)] [(.ref a1)])) rfl rfl (hb hby d10_1)
  refine Go.step (T' := T1) (f' := (mkF m 4 #[.val (.ref a1)] [(.ref t)])) st1 ?_
  obtain ⟨T2, X2, e2, st2⟩ := own_getR X1 hx hZ hown (hw _ (List.mem_of_getElem? (i := 77) rfl)) e1 F_isolation_t (g := (mkF m 4 #[.val (.ref a1)] [(.ref t)])) rfl rfl (hb hby d10_4)
  refine Go.step (T' := T2) (f' := (mkF m 7 #[.val (.ref a1)] [(.ref w)])) st2 ?_
  refine goA X2 hx Bd.returns rfl rfl Bd.notSynchronized (hb hby d10_7) ?_ (by decide) (by decide)
  show Q_rm10 Z a1 t w h0 n0 _ T2.heap _
  rw [e2]
  exact ⟨rfl, N0, rfl⟩
theorem d11_0 : decode prog_13_method_13_code 0 = .ok (.aload_n 0, 1) := by decide +kernel
theorem d11_1 : decode prog_13_method_13_code 1 = .ok (.getfield 7, 3) := by decide +kernel
theorem d11_4 : decode prog_13_method_13_code 4 = .ok (.getfield 149, 3) := by decide +kernel
theorem d11_7 : decode prog_13_method_13_code 7 = .ok (.ireturn, 1) := by decide +kernel
theorem ef_rm11 (m : MethodId) (a1 : Addr) : entryFrame m #[(.ref a1)] 1 = mkF m 0 #[.val (.ref a1)] [] := by first | (simp [entryFrame, mkF, argsToLocals, Value.category]; done) | rfl
def Q_rm11 (Z : State) (a1 : Addr) (t : Addr) (h0 : Heap) (n0 : Nat) (rv : Option Value) (hq : Heap) (Lq : List Loc) : Prop := rv = some (.int (0 : Int32)) ∧ Fr n0 Lq ∧ hq = h0
set_option maxRecDepth 65536 in
set_option maxHeartbeats 40000000 in
theorem rm11 (l : Launch) (Z : State) (a0 : Array Value) (hw : ∀ d ∈ tables_1, d.before a0 Z = true) (ws : List Jvm.Cond) (a1 : Addr) (t : Addr) (h0 : Heap) (n0 : Nat) (Z0 : n0 ≤ h0.size) (F_settings_a1 : Fld Z h0 a1 "com/example/managed_transactions/managedtransactions/model/TransactionDefinition" "settings" "Lcom/example/managed_transactions/managedtransactions/model/TransactionDefinition$Settings;" (.ref t)) (F_readOnly_t : Fld Z h0 t "com/example/managed_transactions/managedtransactions/model/TransactionDefinition$Settings" "readOnly" "Z" (.int (0 : Int32))) :
    MetFree l (⟨"com/example/managed_transactions/managedtransactions/model/TransactionDefinition", "isReadOnly", "()Z"⟩ : MethodName) (head1 (Jvm.Cond.code (⟨"com/example/managed_transactions/managedtransactions/model/TransactionDefinition", "isReadOnly", "()Z"⟩ : MethodName) prog_13_method_13_code 1 (some .boolean) :: ws) ({ frames := 0, cells := 0, slots := 0, locals := 0 } : Room)) (fun a U => a = #[(.ref a1)] ∧ Z.Warmed39 U.vm ∧ U.heap = h0) (fun _ _ _ _ _ => True) (fun _ U o U' => ∃ rv Lq, o = .returned rv ∧ Q_rm11 Z a1 t h0 n0 rv U'.heap Lq ∧ FrameEnd U o U' Lq ({ frames := 0, cells := 0, slots := 0, locals := 0 } : Room).cells ({ frames := 0, cells := 0, slots := 0, locals := 0 } : Room).slots) := by
  refine MetFree.of_bodySF (plainFor_of_name pn_8) hisR ?_
  intro p e s m args below meth c s₁ Bd hml0 hP hK
  obtain ⟨rfl, hZ, hh⟩ := hP
  have hx := Bd.exec
  have hby := Bd.bytes
  have hml : c.maxLocals = 1 := hml0
  have hown : s.vm.findClass "com/example/managed_transactions/managedtransactions/model/TransactionDefinition" = some m.cls := findClass_of_methodNamed Bd.named
  have hnm := (name_of_methodNamed Bd.named Bd.method).1
  have X0 : Stand p l e ({ frames := 0, cells := 0, slots := 0, locals := 0 } : Room) s m #[(.ref a1)] below meth c s₁ [] 0 0 := Stand.of_body Bd
  have e0 : s₁.heap = h0 := by rw [← hh, Bd.state]; rfl
  have N0 := Fr.nil n0
  refine of_go (ef_rm11 m a1) ?_
  refine Go.step (T' := s₁) (f' := (mkF m 1 #[.val (.ref a1)] [(.ref a1)])) (fun _ k => XS.aloadN X0.here hx rfl (hb hby d11_0) rfl rfl k) ?_
  obtain ⟨T1, X1, e1, st1⟩ := getF X0 hx hZ hown (host := "") (Or.inl (hw _ (List.mem_of_getElem? (i := 65) rfl))) Via.refl e0 F_settings_a1 (g := (mkF m 1 #[.val (.ref a1)] [(.ref a1)])) rfl rfl (hb hby d11_1)
  refine Go.step (T' := T1) (f' := (mkF m 4 #[.val (.ref a1)] [(.ref t)])) st1 ?_
  obtain ⟨T2, X2, e2, st2⟩ := own_getR X1 hx hZ hown (hw _ (List.mem_of_getElem? (i := 84) rfl)) e1 F_readOnly_t (g := (mkF m 4 #[.val (.ref a1)] [(.ref t)])) rfl rfl (hb hby d11_4)
  refine Go.step (T' := T2) (f' := (mkF m 7 #[.val (.ref a1)] [(.int (0 : Int32))])) st2 ?_
  refine goN X2 hx (t := .boolean) Bd.returns (by simp) Bd.notSynchronized (hb hby d11_7) ?_ (by decide) (by decide)
  show Q_rm11 Z a1 t h0 n0 _ T2.heap _
  rw [e2]
  exact ⟨rfl, N0, rfl⟩
theorem pd_5 : parseMethodDescriptor "(I)Lcom/example/managed_transactions/managedtransactions/model/Propagation;" = some ⟨[.int], some (.object "com/example/managed_transactions/managedtransactions/model/Propagation")⟩ := by decide +kernel
theorem pd_6 : parseMethodDescriptor "(Lcom/example/managed_transactions/managedtransactions/model/Propagation;)Lcom/example/managed_transactions/managedtransactions/model/TransactionDefinition;" = some ⟨[(.object "com/example/managed_transactions/managedtransactions/model/Propagation")], some (.object "com/example/managed_transactions/managedtransactions/model/TransactionDefinition")⟩ := by decide +kernel
theorem pd_7 : parseMethodDescriptor "()Lcom/example/managed_transactions/managedtransactions/model/Propagation;" = some ⟨[], some (.object "com/example/managed_transactions/managedtransactions/model/Propagation")⟩ := by decide +kernel
theorem pd_8 : parseMethodDescriptor "()Lcom/example/managed_transactions/managedtransactions/model/Isolation;" = some ⟨[], some (.object "com/example/managed_transactions/managedtransactions/model/Isolation")⟩ := by decide +kernel
theorem pd_9 : parseMethodDescriptor "()Z" = some ⟨[], some .boolean⟩ := by decide +kernel
theorem ef_rm0 (m : MethodId) (p1 : Int32) : entryFrame m #[(.int p1)] maxLocals = mkF m 0 #[.val (.int p1), .unset, .unset, .unset] [] := by first | (simp [entryFrame, mkF, argsToLocals, Value.category, maxLocals]; done) | rfl
def Q_rm0 (Z : State) (p1 : Int32) (A : Int → Addr) (s_DEFAULT : Addr) (s_EMPTY : Addr) (s_SET : Addr) (h0 : Heap) (n0 : Nat) (rv : Option Value) (hq : Heap) (Lq : List Loc) : Prop := rv = some (.int (1 : Int32)) ∧ Fr n0 Lq
set_option maxRecDepth 65536 in
set_option maxHeartbeats 40000000 in
theorem rm0 (l : Launch) (Z : State) (a0 : Array Value) (hw : ∀ d ∈ tables_1, d.before a0 Z = true) (ws : List Jvm.Cond) (p1 : Int32) (A : Int → Addr) (s_DEFAULT : Addr) (s_EMPTY : Addr) (s_SET : Addr) (h0 : Heap) (n0 : Nat) (Z0 : n0 ≤ h0.size) (O0 : Old Z n0 h0) (S_REQUIRED : Sta Z Z.heap "com/example/managed_transactions/managedtransactions/model/Propagation" "REQUIRED" "Lcom/example/managed_transactions/managedtransactions/model/Propagation;" (.ref (A 0))) (S_SUPPORTS : Sta Z Z.heap "com/example/managed_transactions/managedtransactions/model/Propagation" "SUPPORTS" "Lcom/example/managed_transactions/managedtransactions/model/Propagation;" (.ref (A 1))) (S_MANDATORY : Sta Z Z.heap "com/example/managed_transactions/managedtransactions/model/Propagation" "MANDATORY" "Lcom/example/managed_transactions/managedtransactions/model/Propagation;" (.ref (A 2))) (S_REQUIRES_NEW : Sta Z Z.heap "com/example/managed_transactions/managedtransactions/model/Propagation" "REQUIRES_NEW" "Lcom/example/managed_transactions/managedtransactions/model/Propagation;" (.ref (A 3))) (S_NOT_SUPPORTED : Sta Z Z.heap "com/example/managed_transactions/managedtransactions/model/Propagation" "NOT_SUPPORTED" "Lcom/example/managed_transactions/managedtransactions/model/Propagation;" (.ref (A 4))) (S_NEVER : Sta Z Z.heap "com/example/managed_transactions/managedtransactions/model/Propagation" "NEVER" "Lcom/example/managed_transactions/managedtransactions/model/Propagation;" (.ref (A 5))) (S_NESTED : Sta Z Z.heap "com/example/managed_transactions/managedtransactions/model/Propagation" "NESTED" "Lcom/example/managed_transactions/managedtransactions/model/Propagation;" (.ref (A 6))) (S_DEFAULT : Sta Z Z.heap "com/example/managed_transactions/managedtransactions/model/Isolation" "DEFAULT" "Lcom/example/managed_transactions/managedtransactions/model/Isolation;" (.ref s_DEFAULT)) (S_EMPTY : Sta Z Z.heap "java/util/OptionalInt" "EMPTY" "Ljava/util/OptionalInt;" (.ref s_EMPTY)) (S_EMPTY_SET : Sta Z Z.heap "java/util/ImmutableCollections" "EMPTY_SET" "Ljava/util/ImmutableCollections$SetN;" (.ref s_SET)) (hE : ∀ i : Int, 0 ≤ i → i < 7 → Exa Z h0 (A i) "com/example/managed_transactions/managedtransactions/model/Propagation") :
    MetFree l x (head1 (Jvm.Cond.code x code maxLocals ret :: ws) room_1) (fun a U => a = #[(.int p1)] ∧ Z.Warmed39 U.vm ∧ U.heap = h0) (fun _ _ _ _ _ => True) (fun _ U o U' => ∃ rv Lq, o = .returned rv ∧ Q_rm0 Z p1 A s_DEFAULT s_EMPTY s_SET h0 n0 rv U'.heap Lq ∧ ReturnedEndW U o U' Lq room_1.cells room_1.slots) := by
  refine MetFree.of_bodySF (plainFor_of_name pn_1) hisR ?_
  intro p e s m args below meth c s₁ Bd hml0 hP hK
  obtain ⟨rfl, hZ, hh⟩ := hP
  have hx := Bd.exec
  have hby := Bd.bytes
  have hml : c.maxLocals = 4 := hml0
  have hown : s.vm.findClass "com/example/managed_transactions/managedtransactions/model/TransactionDefinitionOfPinLaw" = some m.cls := findClass_of_methodNamed Bd.named
  have hnm := (name_of_methodNamed Bd.named Bd.method).1
  have X0 : Stand p l e room_1 s m #[(.int p1)] below meth c s₁ [] 0 0 := Stand.of_body Bd
  have e0 : s₁.heap = h0 := by rw [← hh, Bd.state]; rfl
  have N0 := Fr.nil n0
  have X0 : Stand p l e room_1 (s.setVm s.vm) m #[(.int p1)] below meth c s₁ [] 0 0 := X0
  have hS : s.Since s.vm h0.size := (State.WarmedH.refl s).since _
  have hk := Nat.le_refl h0.size
  have hZ : Z.Warmed39 (s.setVm s.vm).vm := hZ
  have hown : (s.setVm s.vm).vm.findClass "com/example/managed_transactions/managedtransactions/model/TransactionDefinitionOfPinLaw" = some m.cls := hown
  refine of_goW (ef_rm0 m p1) ?_
  refine Go.step (T' := s₁) (f' := (mkF m 1 #[.val (.int p1), .unset, .unset, .unset] [(.int p1)])) (fun _ k => XS.iloadN X0.here hx rfl (hb hby at_0) rfl k) ?_
  refine Go.step (T' := s₁) (f' := (mkF m 3 #[.val (.int p1), .unset, .unset, .unset] [(.int (2147483647 : Int32)), (.int p1)])) (fun _ k => X0.ldcInt hx hown (mvT hZ (hw _ (List.mem_of_getElem? (i := 0) rfl))) (g := (mkF m 1 #[.val (.int p1), .unset, .unset, .unset] [(.int p1)])) rfl (hb hby at_1) _ k) ?_
  refine Go.step (T' := s₁) (f' := (mkF m 4 #[.val (.int p1), .unset, .unset, .unset] [(.int (p1 &&& (2147483647 : Int32)))])) (fun _ k => XS.iand X0.here hx rfl (hb hby at_3) rfl k) ?_
  refine Go.step (T' := s₁) (f' := (mkF m 6 #[.val (.int p1), .unset, .unset, .unset] [(.int (7 : Int32)), (.int (p1 &&& (2147483647 : Int32)))])) (fun _ k => XS.bipush X0.here hx rfl (hb hby at_4) k) ?_
  refine Go.step (T' := s₁) (f' := (mkF m 7 #[.val (.int p1), .unset, .unset, .unset] [(.int ((p1 &&& (2147483647 : Int32)) % (7 : Int32)))])) (fun _ k => iremM X0 hx rfl (hb hby at_6) rfl (by decide) k) ?_
  refine Go.step (T' := s₁) (f' := (mkF m 8 #[.val (.int p1), .val (.int ((p1 &&& (2147483647 : Int32)) % (7 : Int32))), .unset, .unset] [])) (fun _ k => XS.istoreN X0.here hx rfl (hb hby at_7) rfl (l' := #[.val (.int p1), .val (.int ((p1 &&& (2147483647 : Int32)) % (7 : Int32))), .unset, .unset]) rfl k) ?_
  refine Go.step (T' := s₁) (f' := (mkF m 9 #[.val (.int p1), .val (.int ((p1 &&& (2147483647 : Int32)) % (7 : Int32))), .unset, .unset] [(.int ((p1 &&& (2147483647 : Int32)) % (7 : Int32)))])) (fun _ k => XS.iloadN X0.here hx rfl (hb hby at_8) rfl k) ?_
  obtain ⟨_, _, ⟨T1, L1, kk1, nn1⟩, -, X1, ⟨Lc1, hQ1, lq1, yq1, zq1⟩, st1⟩ := Jvm.LawKit.callS X0 hx (y := (⟨"com/example/managed_transactions/managedtransactions/model/TransactionDefinitionOfPinLaw", "pick", "(I)Lcom/example/managed_transactions/managedtransactions/model/Propagation;"⟩ : MethodName)) hown (mvT hZ (hw _ (List.mem_of_getElem? (i := 1) rfl))) (mvT hZ (hw _ (List.mem_of_getElem? (i := 2) rfl))) (mvT hZ (hw _ (List.mem_of_getElem? (i := 3) rfl))) (mvT hZ (hw _ (List.mem_of_getElem? (i := 4) rfl))) (by decide) (backOf (W := 0) (rm1 l Z a0 hw [] ((p1 &&& (2147483647 : Int32)) % (7 : Int32)) A h0 n0 Z0 O0 S_REQUIRED S_SUPPORTS S_MANDATORY S_REQUIRES_NEW S_NOT_SUPPORTED S_NEVER S_NESTED (own_7r _)) hZ (hw _ (List.mem_of_getElem? (i := 4) rfl)) (hw _ (List.mem_of_getElem? (i := 3) rfl)) (by decide) (by decide)) (g := (mkF m 9 #[.val (.int p1), .val (.int ((p1 &&& (2147483647 : Int32)) % (7 : Int32))), .unset, .unset] [(.int ((p1 &&& (2147483647 : Int32)) % (7 : Int32)))])) rfl (by rw [hml]; rfl) (argsL := [(.int ((p1 &&& (2147483647 : Int32)) % (7 : Int32)))]) (rest := []) (lenOf pd_5 rfl) rfl (by show 2 * 0 + _ ≤ _; exact Nat.le_of_eq rfl) (hb hby at_9) (fun _ _ => ⟨rfl, e0, (by decide : 0 + 0 ≤ _), (by decide : 0 + 0 ≤ _)⟩)
  dsimp only [Pt.U, Pt.locs, Pt.cells, Pt.slots] at X1 lq1 yq1 zq1 st1 hQ1
  subst yq1 zq1
  obtain ⟨rfl, Nq1, eh1⟩ := hQ1
  have N1 : Fr n0 L1 := by rw [lq1]; exact Fr.app N0 Nq1
  refine Go.step (T' := T1) (f' := (mkF m 12 #[.val (.int p1), .val (.int ((p1 &&& (2147483647 : Int32)) % (7 : Int32))), .unset, .unset] [(.ref (A ((p1 &&& (2147483647 : Int32)) % (7 : Int32)).toInt))])) st1 ?_
  have E_1 : Exa Z h0 (A ((p1 &&& (2147483647 : Int32)) % (7 : Int32)).toInt) "com/example/managed_transactions/managedtransactions/model/Propagation" := hE _ (own_7r _).1 (own_7r _).2
  refine Go.step (T' := T1) (f' := (mkF m 13 #[.val (.int p1), .val (.int ((p1 &&& (2147483647 : Int32)) % (7 : Int32))), .val (.ref (A ((p1 &&& (2147483647 : Int32)) % (7 : Int32)).toInt)), .unset] [])) (fun _ k => XS.astoreN X1.here hx rfl (hb hby at_12) rfl rfl (l' := #[.val (.int p1), .val (.int ((p1 &&& (2147483647 : Int32)) % (7 : Int32))), .val (.ref (A ((p1 &&& (2147483647 : Int32)) % (7 : Int32)).toInt)), .unset]) rfl k) ?_
  refine Go.step (T' := T1) (f' := (mkF m 14 #[.val (.int p1), .val (.int ((p1 &&& (2147483647 : Int32)) % (7 : Int32))), .val (.ref (A ((p1 &&& (2147483647 : Int32)) % (7 : Int32)).toInt)), .unset] [(.ref (A ((p1 &&& (2147483647 : Int32)) % (7 : Int32)).toInt))])) (fun _ k => XS.aloadN X1.here hx rfl (hb hby at_13) rfl rfl k) ?_
  obtain ⟨_, _, ⟨T2, L2, kk2, nn2⟩, -, X2, hS2, hG2, ⟨Lc2, hQ2, lq2, yq2, zq2⟩, st2⟩ := callSS X1 hx (y := (⟨"com/example/managed_transactions/managedtransactions/model/TransactionDefinition", "of", "(Lcom/example/managed_transactions/managedtransactions/model/Propagation;)Lcom/example/managed_transactions/managedtransactions/model/TransactionDefinition;"⟩ : MethodName)) hown (mvT hZ (hw _ (List.mem_of_getElem? (i := 8) rfl))) (mvT hZ (hw _ (List.mem_of_getElem? (i := 9) rfl))) (mvT hZ (hw _ (List.mem_of_getElem? (i := 10) rfl))) (mvT hZ (hw _ (List.mem_of_getElem? (i := 11) rfl))) (by decide) (backOfS (W := 0) (rm2 l Z a0 hw [] (A ((p1 &&& (2147483647 : Int32)) % (7 : Int32)).toInt) s_DEFAULT s_EMPTY s_SET h0 n0 Z0 E_1 O0 S_DEFAULT S_EMPTY S_EMPTY_SET) hZ (hw _ (List.mem_of_getElem? (i := 11) rfl)) (hw _ (List.mem_of_getElem? (i := 10) rfl)) (by decide) (by decide)) (g := (mkF m 14 #[.val (.int p1), .val (.int ((p1 &&& (2147483647 : Int32)) % (7 : Int32))), .val (.ref (A ((p1 &&& (2147483647 : Int32)) % (7 : Int32)).toInt)), .unset] [(.ref (A ((p1 &&& (2147483647 : Int32)) % (7 : Int32)).toInt))])) rfl (by rw [hml]; rfl) (argsL := [(.ref (A ((p1 &&& (2147483647 : Int32)) % (7 : Int32)).toInt))]) (rest := []) (lenOf pd_6 rfl) rfl (by show 2 * 0 + _ ≤ _; exact Nat.le_of_eq rfl) (hb hby at_14) (fun _ _ => ⟨rfl, eh1, (by decide : 0 + 4 ≤ _), (by decide : 0 + 55 ≤ _)⟩)
  dsimp only [Pt.U, Pt.locs, Pt.cells, Pt.slots] at X2 lq2 yq2 zq2 st2 hQ2 hS2 hG2
  subst yq2 zq2
  rw [eh1] at hG2
  obtain ⟨X2, hS, hZ, hown⟩ := rebS hS hk X2 hS2 hG2 hZ hown
  have hk := Nat.le_refl T2.heap.size
  obtain ⟨d_2, t_2, rfl, Nq2, Kq2, r2_0, r2_1, r2_2, r2_3, r2_4, r2_5, r2_6⟩ := hQ2
  have N2 : Fr n0 L2 := by rw [lq2]; exact Fr.app N1 Nq2
  have g_d_2 : n0 ≤ d_2 := Nat.le_trans Z0 r2_0
  have g_t_2 : n0 ≤ t_2 := Nat.le_trans Z0 r2_1
  have Z3 : n0 ≤ T2.heap.size := Nat.le_trans Z0 Kq2.1
  have O3 : Old Z n0 T2.heap := O0.keep Kq2 all0
  refine Go.step (T' := T2) (f' := (mkF m 17 #[.val (.int p1), .val (.int ((p1 &&& (2147483647 : Int32)) % (7 : Int32))), .val (.ref (A ((p1 &&& (2147483647 : Int32)) % (7 : Int32)).toInt)), .unset] [(.ref d_2)])) (fun _ k => st2.trans k) ?_
  refine Go.step (T' := T2) (f' := (mkF m 18 #[.val (.int p1), .val (.int ((p1 &&& (2147483647 : Int32)) % (7 : Int32))), .val (.ref (A ((p1 &&& (2147483647 : Int32)) % (7 : Int32)).toInt)), .val (.ref d_2)] [])) (fun _ k => XS.astoreN X2.here hx rfl (hb hby at_17) rfl rfl (l' := #[.val (.int p1), .val (.int ((p1 &&& (2147483647 : Int32)) % (7 : Int32))), .val (.ref (A ((p1 &&& (2147483647 : Int32)) % (7 : Int32)).toInt)), .val (.ref d_2)]) rfl k) ?_
  refine Go.step (T' := T2) (f' := (mkF m 19 #[.val (.int p1), .val (.int ((p1 &&& (2147483647 : Int32)) % (7 : Int32))), .val (.ref (A ((p1 &&& (2147483647 : Int32)) % (7 : Int32)).toInt)), .val (.ref d_2)] [(.ref d_2)])) (fun _ k => XS.aloadN X2.here hx rfl (hb hby at_18) rfl rfl k) ?_
  obtain ⟨cq4, kq4, q4a, q4b, q4c⟩ := isOf hZ rfl r2_2
  obtain ⟨_, _, ⟨T4, L4, kk4, nn4⟩, -, X4, ⟨Lc4, hQ4, lq4, yq4, zq4⟩, st4⟩ := X2.virtualBack hx (y := (⟨"com/example/managed_transactions/managedtransactions/model/TransactionDefinition", "propagation", "()Lcom/example/managed_transactions/managedtransactions/model/Propagation;"⟩ : MethodName)) (z := (⟨"com/example/managed_transactions/managedtransactions/model/TransactionDefinition", "propagation", "()Lcom/example/managed_transactions/managedtransactions/model/Propagation;"⟩ : MethodName)) hown (mvT hZ (hw _ (List.mem_of_getElem? (i := 67) rfl))) (mvT hZ (hw _ (List.mem_of_getElem? (i := 68) rfl))) (notFace_of_selects (args := #[]) (mvT hZ (hw _ (List.mem_of_getElem? (i := 70) rfl)))) (mvT hZ (hw _ (List.mem_of_getElem? (i := 70) rfl))) (mvT hZ (hw _ (List.mem_of_getElem? (i := 69) rfl))) (by decide) (backOf (W := 0) (rm9 l Z a0 hw [] d_2 t_2 (A ((p1 &&& (2147483647 : Int32)) % (7 : Int32)).toInt) T2.heap n0 Z3 r2_3 r2_4) hZ (hw _ (List.mem_of_getElem? (i := 71) rfl)) (hw _ (List.mem_of_getElem? (i := 10) rfl)) (by decide) (by decide)) q4a q4c (g := (mkF m 19 #[.val (.int p1), .val (.int ((p1 &&& (2147483647 : Int32)) % (7 : Int32))), .val (.ref (A ((p1 &&& (2147483647 : Int32)) % (7 : Int32)).toInt)), .val (.ref d_2)] [(.ref d_2)])) rfl (by rw [hml]; rfl) (Steps.refl _) (argsL := []) (rest := []) (lenOf pd_7 rfl) rfl (by show 2 * 0 + _ ≤ _; exact Nat.le_of_eq rfl) (hb hby at_19) (fun _ _ => ⟨rfl, rfl, (by decide : 4 + 0 ≤ _), (by decide : 55 + 0 ≤ _)⟩)
  dsimp only [Pt.U, Pt.locs, Pt.cells, Pt.slots] at X4 lq4 yq4 zq4 st4 hQ4
  subst yq4 zq4
  obtain ⟨rfl, Nq4, eh4⟩ := hQ4
  have N4 : Fr n0 L4 := by rw [lq4]; exact Fr.app N2 Nq4
  refine Go.step (T' := T4) (f' := (mkF m 22 #[.val (.int p1), .val (.int ((p1 &&& (2147483647 : Int32)) % (7 : Int32))), .val (.ref (A ((p1 &&& (2147483647 : Int32)) % (7 : Int32)).toInt)), .val (.ref d_2)] [(.ref (A ((p1 &&& (2147483647 : Int32)) % (7 : Int32)).toInt))])) (fun _ k => st4.trans k) ?_
  refine Go.step (T' := T4) (f' := (mkF m 23 #[.val (.int p1), .val (.int ((p1 &&& (2147483647 : Int32)) % (7 : Int32))), .val (.ref (A ((p1 &&& (2147483647 : Int32)) % (7 : Int32)).toInt)), .val (.ref d_2)] [(.ref (A ((p1 &&& (2147483647 : Int32)) % (7 : Int32)).toInt)), (.ref (A ((p1 &&& (2147483647 : Int32)) % (7 : Int32)).toInt))])) (fun _ k => XS.aloadN X4.here hx rfl (hb hby at_22) rfl rfl k) ?_
  refine Go.step (T' := T4) (f' := (mkF m 26 #[.val (.int p1), .val (.int ((p1 &&& (2147483647 : Int32)) % (7 : Int32))), .val (.ref (A ((p1 &&& (2147483647 : Int32)) % (7 : Int32)).toInt)), .val (.ref d_2)] [])) (fun _ k => Jvm.RoadKit.acmp (g := (mkF m 23 #[.val (.int p1), .val (.int ((p1 &&& (2147483647 : Int32)) % (7 : Int32))), .val (.ref (A ((p1 &&& (2147483647 : Int32)) % (7 : Int32)).toInt)), .val (.ref d_2)] [(.ref (A ((p1 &&& (2147483647 : Int32)) % (7 : Int32)).toInt)), (.ref (A ((p1 &&& (2147483647 : Int32)) % (7 : Int32)).toInt))])) X4 hx rfl rfl rfl (pc0 := 23) (pc' := 26) (same := true) rfl (hb hby at_23) rfl (decide_eq_true rfl) (by decide) (by decide) k) ?_
  refine Go.step (T' := T4) (f' := (mkF m 27 #[.val (.int p1), .val (.int ((p1 &&& (2147483647 : Int32)) % (7 : Int32))), .val (.ref (A ((p1 &&& (2147483647 : Int32)) % (7 : Int32)).toInt)), .val (.ref d_2)] [(.ref d_2)])) (fun _ k => XS.aloadN X4.here hx rfl (hb hby at_26) rfl rfl k) ?_
  obtain ⟨cq5, kq5, q5a, q5b, q5c⟩ := isOf hZ eh4 r2_2
  obtain ⟨_, _, ⟨T5, L5, kk5, nn5⟩, -, X5, ⟨Lc5, hQ5, lq5, yq5, zq5⟩, st5⟩ := X4.virtualBack hx (y := (⟨"com/example/managed_transactions/managedtransactions/model/TransactionDefinition", "isolation", "()Lcom/example/managed_transactions/managedtransactions/model/Isolation;"⟩ : MethodName)) (z := (⟨"com/example/managed_transactions/managedtransactions/model/TransactionDefinition", "isolation", "()Lcom/example/managed_transactions/managedtransactions/model/Isolation;"⟩ : MethodName)) hown (mvT hZ (hw _ (List.mem_of_getElem? (i := 72) rfl))) (mvT hZ (hw _ (List.mem_of_getElem? (i := 73) rfl))) (notFace_of_selects (args := #[]) (mvT hZ (hw _ (List.mem_of_getElem? (i := 75) rfl)))) (mvT hZ (hw _ (List.mem_of_getElem? (i := 75) rfl))) (mvT hZ (hw _ (List.mem_of_getElem? (i := 74) rfl))) (by decide) (backOf (W := 0) (rm10 l Z a0 hw [] d_2 t_2 s_DEFAULT T2.heap n0 Z3 r2_3 r2_5) hZ (hw _ (List.mem_of_getElem? (i := 76) rfl)) (hw _ (List.mem_of_getElem? (i := 10) rfl)) (by decide) (by decide)) q5a q5c (g := (mkF m 27 #[.val (.int p1), .val (.int ((p1 &&& (2147483647 : Int32)) % (7 : Int32))), .val (.ref (A ((p1 &&& (2147483647 : Int32)) % (7 : Int32)).toInt)), .val (.ref d_2)] [(.ref d_2)])) rfl (by rw [hml]; rfl) (Steps.refl _) (argsL := []) (rest := []) (lenOf pd_8 rfl) rfl (by show 2 * 0 + _ ≤ _; exact Nat.le_of_eq rfl) (hb hby at_27) (fun _ _ => ⟨rfl, eh4, (by decide : 4 + 0 ≤ _), (by decide : 55 + 0 ≤ _)⟩)
  dsimp only [Pt.U, Pt.locs, Pt.cells, Pt.slots] at X5 lq5 yq5 zq5 st5 hQ5
  subst yq5 zq5
  obtain ⟨rfl, Nq5, eh5⟩ := hQ5
  have N5 : Fr n0 L5 := by rw [lq5]; exact Fr.app N4 Nq5
  refine Go.step (T' := T5) (f' := (mkF m 30 #[.val (.int p1), .val (.int ((p1 &&& (2147483647 : Int32)) % (7 : Int32))), .val (.ref (A ((p1 &&& (2147483647 : Int32)) % (7 : Int32)).toInt)), .val (.ref d_2)] [(.ref s_DEFAULT)])) (fun _ k => st5.trans k) ?_
  obtain ⟨T6, X6, e6, st6⟩ := getS2 X5 hx hZ hown (host := "") (Or.inl (hw _ (List.mem_of_getElem? (i := 78) rfl))) Via.refl eh5 (S_DEFAULT.ext O3.2) (g := (mkF m 30 #[.val (.int p1), .val (.int ((p1 &&& (2147483647 : Int32)) % (7 : Int32))), .val (.ref (A ((p1 &&& (2147483647 : Int32)) % (7 : Int32)).toInt)), .val (.ref d_2)] [(.ref s_DEFAULT)])) rfl (hb hby at_30)
  refine Go.step (T' := T6) (f' := (mkF m 33 #[.val (.int p1), .val (.int ((p1 &&& (2147483647 : Int32)) % (7 : Int32))), .val (.ref (A ((p1 &&& (2147483647 : Int32)) % (7 : Int32)).toInt)), .val (.ref d_2)] [(.ref s_DEFAULT), (.ref s_DEFAULT)])) st6 ?_
  refine Go.step (T' := T6) (f' := (mkF m 36 #[.val (.int p1), .val (.int ((p1 &&& (2147483647 : Int32)) % (7 : Int32))), .val (.ref (A ((p1 &&& (2147483647 : Int32)) % (7 : Int32)).toInt)), .val (.ref d_2)] [])) (fun _ k => Jvm.RoadKit.acmp (g := (mkF m 33 #[.val (.int p1), .val (.int ((p1 &&& (2147483647 : Int32)) % (7 : Int32))), .val (.ref (A ((p1 &&& (2147483647 : Int32)) % (7 : Int32)).toInt)), .val (.ref d_2)] [(.ref s_DEFAULT), (.ref s_DEFAULT)])) X6 hx rfl rfl rfl (pc0 := 33) (pc' := 36) (same := true) rfl (hb hby at_33) rfl (decide_eq_true rfl) (by decide) (by decide) k) ?_
  refine Go.step (T' := T6) (f' := (mkF m 37 #[.val (.int p1), .val (.int ((p1 &&& (2147483647 : Int32)) % (7 : Int32))), .val (.ref (A ((p1 &&& (2147483647 : Int32)) % (7 : Int32)).toInt)), .val (.ref d_2)] [(.ref d_2)])) (fun _ k => XS.aloadN X6.here hx rfl (hb hby at_36) rfl rfl k) ?_
  obtain ⟨cq7, kq7, q7a, q7b, q7c⟩ := isOf hZ e6 r2_2
  obtain ⟨_, _, ⟨T7, L7, kk7, nn7⟩, -, X7, ⟨Lc7, hQ7, lq7, yq7, zq7⟩, st7⟩ := X6.virtualBack hx (y := (⟨"com/example/managed_transactions/managedtransactions/model/TransactionDefinition", "isReadOnly", "()Z"⟩ : MethodName)) (z := (⟨"com/example/managed_transactions/managedtransactions/model/TransactionDefinition", "isReadOnly", "()Z"⟩ : MethodName)) hown (mvT hZ (hw _ (List.mem_of_getElem? (i := 79) rfl))) (mvT hZ (hw _ (List.mem_of_getElem? (i := 80) rfl))) (notFace_of_selects (args := #[]) (mvT hZ (hw _ (List.mem_of_getElem? (i := 82) rfl)))) (mvT hZ (hw _ (List.mem_of_getElem? (i := 82) rfl))) (mvT hZ (hw _ (List.mem_of_getElem? (i := 81) rfl))) (by decide) (backOf (W := 0) (rm11 l Z a0 hw [] d_2 t_2 T2.heap n0 Z3 r2_3 r2_6) hZ (hw _ (List.mem_of_getElem? (i := 83) rfl)) (hw _ (List.mem_of_getElem? (i := 10) rfl)) (by decide) (by decide)) q7a q7c (g := (mkF m 37 #[.val (.int p1), .val (.int ((p1 &&& (2147483647 : Int32)) % (7 : Int32))), .val (.ref (A ((p1 &&& (2147483647 : Int32)) % (7 : Int32)).toInt)), .val (.ref d_2)] [(.ref d_2)])) rfl (by rw [hml]; rfl) (Steps.refl _) (argsL := []) (rest := []) (lenOf pd_9 rfl) rfl (by show 2 * 0 + _ ≤ _; exact Nat.le_of_eq rfl) (hb hby at_37) (fun _ _ => ⟨rfl, e6, (by decide : 4 + 0 ≤ _), (by decide : 55 + 0 ≤ _)⟩)
  dsimp only [Pt.U, Pt.locs, Pt.cells, Pt.slots] at X7 lq7 yq7 zq7 st7 hQ7
  subst yq7 zq7
  obtain ⟨rfl, Nq7, eh7⟩ := hQ7
  have N7 : Fr n0 L7 := by rw [lq7]; exact Fr.app N5 Nq7
  refine Go.step (T' := T7) (f' := (mkF m 40 #[.val (.int p1), .val (.int ((p1 &&& (2147483647 : Int32)) % (7 : Int32))), .val (.ref (A ((p1 &&& (2147483647 : Int32)) % (7 : Int32)).toInt)), .val (.ref d_2)] [(.int (0 : Int32))])) (fun _ k => st7.trans k) ?_
  refine Go.step (T' := T7) (f' := (mkF m 43 #[.val (.int p1), .val (.int ((p1 &&& (2147483647 : Int32)) % (7 : Int32))), .val (.ref (A ((p1 &&& (2147483647 : Int32)) % (7 : Int32)).toInt)), .val (.ref d_2)] [])) (fun _ k => XS.ifNo X7.here hx rfl (hb hby at_40) rfl ((if0 _ _).trans (teq (by decide : (0 : Int32) = (0 : Int32))).2) k) ?_
  refine Go.step (T' := T7) (f' := (mkF m 44 #[.val (.int p1), .val (.int ((p1 &&& (2147483647 : Int32)) % (7 : Int32))), .val (.ref (A ((p1 &&& (2147483647 : Int32)) % (7 : Int32)).toInt)), .val (.ref d_2)] [(.int (1 : Int32))])) (fun _ k => XS.iconst X7.here hx rfl (hb hby at_43) k) ?_
  refine Go.step (T' := T7) (f' := (mkF m 48 #[.val (.int p1), .val (.int ((p1 &&& (2147483647 : Int32)) % (7 : Int32))), .val (.ref (A ((p1 &&& (2147483647 : Int32)) % (7 : Int32)).toInt)), .val (.ref d_2)] [(.int (1 : Int32))])) (fun _ k => XS.goto X7.here hx rfl (pc0 := 44) (pc' := 48) rfl (hb hby at_44) (by decide) (by decide) k) ?_
  refine goNW hS X7 (by rw [eh7]; exact hk) hx (t := .boolean) Bd.returns (by simp) Bd.notSynchronized (hb hby at_48) ?_ (by decide) (by decide)
  show Q_rm0 Z p1 A s_DEFAULT s_EMPTY s_SET h0 n0 _ T7.heap _
  rw [eh7]
  exact ⟨rfl, N7⟩
set_option maxRecDepth 65536 in
set_option maxHeartbeats 40000000 in
theorem comes_1 {Post : Tables → Env → Array Value → State → Outcome → State → Prop} (hpost : ∀ tb e args s v u, (limb_1_1.after args s (.returned v) u = true ∧ limb_1_2.after args s (.returned v) u = true ∧ True) → ReturnedEndW s (.returned v) u (Jvm.fieldLocs frame_1_writes args s ++ Jvm.arrayLocs frame_1_arrays args s ++ Jvm.staticLocs frame_1_statics s) 16 1152 → Post tb e args s (.returned v) u) :
    ArmFor flags0 classFile x code maxLocals ret World_1 tables_1 room_1 Calls_1 rest_1 Pre_1 Post := by
  intro l hfl _ _ p e ha hc hk s m args below hf hA hF happ hP
  obtain ⟨hcalls, hrest, hpre⟩ := hP
  obtain ⟨-, -, -, hnamed, -, -, -, hat⟩ := (Spec.applies_iff hf).mp happ
  obtain ⟨hg, hn⟩ := and_e (Cond.before_iff.mp (show (Jvm.Cond.and given_1 narrow_1).before args s = true from hpre))
  obtain ⟨g1, g2⟩ := and_e hg
  obtain ⟨w0, rfl⟩ : ∃ w0 : Value, args = #[w0] := by
    have hs : args.size = 1 := by simpa [Cond.value, given_1] using g1
    obtain ⟨L⟩ := args
    match L, hs with
    | [w0], _ => exact ⟨w0, rfl⟩
  have hw := fun d (hd : d ∈ tables_1) => atoms_spec (ws := Jvm.Cond.code x code maxLocals ret :: tables_1) hat d (List.mem_cons_of_mem _ hd)
  have hfit : Fit s := fun {y c} hc i hi => by
    obtain ⟨ha, rfl⟩ := Array.getElem?_eq_some_iff.mp hc
    have q := List.all_eq_true.mp ((Array.all_eq_true_iff_forall_mem.mp hF) _ (Array.getElem_mem ha)) i (List.mem_range.mpr hi)
    simpa [Array.getElem?_eq_getElem hi] using q
  obtain ⟨hsets, hown0⟩ := atoms_of _ (rest_1_c_eq ▸ (show rest_1_c.before _ s = true from hrest))
  have hr0 := Cond.before_iff.mp hown0
  obtain ⟨i0, ei0⟩ := is_v g2
  obtain rfl : w0 = (.int i0) := Option.some.inj ei0
  obtain ⟨n1, m1⟩ := and_e hn
  obtain ⟨n2, m2⟩ := and_e m1
  obtain ⟨n3, m3⟩ := and_e m2
  obtain ⟨n4, m4⟩ := and_e m3
  obtain ⟨n5, m5⟩ := and_e m4
  obtain ⟨n6, m6⟩ := and_e m5
  obtain ⟨n7, n8⟩ := and_e m6
  obtain ⟨s_REQUIRED, ev_REQUIRED⟩ := exa_v n1
  have E_s_REQUIRED := Exa.start ev_REQUIRED n1
  have S_REQUIRED := Sta.start ev_REQUIRED (Or.inr ⟨(hw _ (List.mem_of_getElem? (i := 6) rfl)), (hw _ (List.mem_of_getElem? (i := 7) rfl))⟩)
  obtain ⟨s_DEFAULT, ev_DEFAULT⟩ := exa_v n2
  have E_s_DEFAULT := Exa.start ev_DEFAULT n2
  have S_DEFAULT := Sta.start ev_DEFAULT (Or.inr ⟨(hw _ (List.mem_of_getElem? (i := 22) rfl)), (hw _ (List.mem_of_getElem? (i := 23) rfl))⟩)
  obtain ⟨s_REQUIRES_NEW, ev_REQUIRES_NEW⟩ := exa_v n3
  have E_s_REQUIRES_NEW := Exa.start ev_REQUIRES_NEW n3
  have S_REQUIRES_NEW := Sta.start ev_REQUIRES_NEW (Or.inr ⟨(hw _ (List.mem_of_getElem? (i := 6) rfl)), (hw _ (List.mem_of_getElem? (i := 87) rfl))⟩)
  obtain ⟨s_NEVER, ev_NEVER⟩ := exa_v n4
  have E_s_NEVER := Exa.start ev_NEVER n4
  have S_NEVER := Sta.start ev_NEVER (Or.inr ⟨(hw _ (List.mem_of_getElem? (i := 6) rfl)), (hw _ (List.mem_of_getElem? (i := 89) rfl))⟩)
  obtain ⟨s_NESTED, ev_NESTED⟩ := exa_v n5
  have E_s_NESTED := Exa.start ev_NESTED n5
  have S_NESTED := Sta.start ev_NESTED (Or.inr ⟨(hw _ (List.mem_of_getElem? (i := 6) rfl)), (hw _ (List.mem_of_getElem? (i := 91) rfl))⟩)
  obtain ⟨s_NOT_SUPPORTED, ev_NOT_SUPPORTED⟩ := exa_v n6
  have E_s_NOT_SUPPORTED := Exa.start ev_NOT_SUPPORTED n6
  have S_NOT_SUPPORTED := Sta.start ev_NOT_SUPPORTED (Or.inr ⟨(hw _ (List.mem_of_getElem? (i := 6) rfl)), (hw _ (List.mem_of_getElem? (i := 93) rfl))⟩)
  obtain ⟨s_MANDATORY, ev_MANDATORY⟩ := exa_v n7
  have E_s_MANDATORY := Exa.start ev_MANDATORY n7
  have S_MANDATORY := Sta.start ev_MANDATORY (Or.inr ⟨(hw _ (List.mem_of_getElem? (i := 6) rfl)), (hw _ (List.mem_of_getElem? (i := 95) rfl))⟩)
  obtain ⟨s_SUPPORTS, ev_SUPPORTS⟩ := exa_v n8
  have E_s_SUPPORTS := Exa.start ev_SUPPORTS n8
  have S_SUPPORTS := Sta.start ev_SUPPORTS (Or.inr ⟨(hw _ (List.mem_of_getElem? (i := 6) rfl)), (hw _ (List.mem_of_getElem? (i := 97) rfl))⟩)
  let A : Int → Addr := fun i => [s_REQUIRED, s_SUPPORTS, s_MANDATORY, s_REQUIRES_NEW, s_NOT_SUPPORTED, s_NEVER, s_NESTED].getD i.toNat 0
  have hE : ∀ i : Int, 0 ≤ i → i < 7 → Exa s s.heap (A i) "com/example/managed_transactions/managedtransactions/model/Propagation" := by
    intro i h0 h1
    rcases own_7i h0 h1 with rfl | rfl | rfl | rfl | rfl | rfl | rfl
    · exact E_s_REQUIRED
    · exact E_s_SUPPORTS
    · exact E_s_MANDATORY
    · exact E_s_REQUIRES_NEW
    · exact E_s_NOT_SUPPORTED
    · exact E_s_NEVER
    · exact E_s_NESTED
  obtain ⟨s_EMPTY, ev_E⟩ := exa_v (Cond.before_iff.mp (hsets _ (List.mem_of_getElem? (i := 2) rfl)))
  have S_EMPTY := Sta.start ev_E (Or.inl (hsets _ (List.mem_of_getElem? (i := 1) rfl)))
  obtain ⟨s_SET, ev_S⟩ := exa_v (Cond.before_iff.mp (hsets _ (List.mem_of_getElem? (i := 7) rfl)))
  have S_EMPTY_SET := Sta.start ev_S (Or.inl (hsets _ (List.mem_of_getElem? (i := 6) rfl)))
  obtain ⟨n, o, h1, h2, h3, _, L, rfl, ⟨rfl, N⟩, hq⟩ := rm0 l s _ hw tables_1 i0 A s_DEFAULT s_EMPTY s_SET s.heap s.heap.size (Nat.le_refl _) (Old.start s) S_REQUIRED S_SUPPORTS S_MANDATORY S_REQUIRES_NEW S_NOT_SUPPORTED S_NEVER S_NESTED S_DEFAULT S_EMPTY S_EMPTY_SET hE p e ha hc hk s m _ below hf ((Spec.applies_iff_loose hf).mp happ).1 ⟨rfl, State.Warmed39.refl s, rfl⟩ trivial
  refine ⟨n, _, h1, h2, h3, hpost _ _ _ _ _ _ ⟨Cond.after_iff.mpr rfl, Cond.after_iff.mpr (eq_i res_at (Term.int_eval (1)) rfl), trivial⟩ ⟨hq.1, hq.2.1, hq.2.2.1, (hq.2.2.2.sift fun y hy => Or.inr (N y hy)).mono (by decide) (by decide)⟩⟩
theorem main_1_1 : Claimed_1_1 := comes_1 fun _ _ _ _ _ _ h hF => ⟨h.1, hF⟩
theorem main_1_2 : Claimed_1_2 := comes_1 fun _ _ _ _ _ _ h hF => ⟨h.2.1, hF⟩
end Jvm.Pilot.@@N@@
namespace Jvm.Pilot.@@N@@
open Jvm Jvm.ClassFile Sem Op Lib Jvm.Free Jvm.Stand Jvm.Pilot.@@N@@.Jvm.D
/-! MADE BY PROGRAM (witnessworld.py) out of the Statement's table words and the real class files: 29 classes; the members and pool entries that the words name. The judged class is class 1, her method 1. -/
namespace start1
open Jvm.ClassFile
def u (s : String) : CpInfo := .utf8 (stringToUtf16 s)
/-- a pool by its gaps: so many unusable entries, then the entry; so many at the end -/
def gap : Nat → List CpInfo → List CpInfo
  | 0, r => r
  | n + 1, r => .unusable :: gap n r
def poolList (es : List (Nat × CpInfo)) (last : Nat) : List CpInfo := es.foldr (fun e r => gap e.1 (e.2 :: r)) (gap last [])
def pool (es : List (Nat × CpInfo)) (last : Nat) : Array CpInfo := ⟨poolList es last⟩
def fileOf (pool : Array CpInfo) (this : Nat) (attrs : Array Attribute := #[]) (ms : Array MethodInfo := #[]) (fl : Nat := 33) (sup : Nat := 0) (ifs : Array Nat := #[]) (fds : Array FieldInfo := #[]) : ClassFile where
  minorVersion := 0
  majorVersion := 65
  constantPool := pool
  accessFlags := fl
  thisClass := this
  superClass := sup
  interfaces := ifs
  fields := fds
  methods := ms
  attributes := attrs
def plain (name : String) (sup : Option ClassId) : Class where
  name := name
  kind := .ordinary
  loader := none
  accessFlags := 33
  super := sup
  interfaces := #[]
  cf := none
  fields := #[]
  methods := #[]
  instanceTypes := #[]
  staticTypes := #[]
  resolved := #[]
  callSites := []
  init := .initialized
  statics := none
  mirror := none

def pool0 : Array CpInfo := pool [(5, u "<init>"), (0, u "()V"), (1, .class_ 10), (1, u "java/lang/Object")] 113

def k0c0 : Code := { maxStack := 0, maxLocals := 1, code := object_method_1_code, exceptionTable := #[], attributes := #[] }
def k0m0 : Method := { name := "<init>", desc := "()V", sig := { parameters := [], returnType := none }, accessFlags := 1, code := some k0c0 }
/-- java/lang/Object -/
def k0 : Class := { plain "java/lang/Object" none with
  accessFlags := 33
  interfaces := #[]
  cf := some (fileOf pool0 8 #[] #[{ accessFlags := 1, nameIndex := 5, descriptorIndex := 6, attributes := #[] }] 33 0 #[] #[])
  fields := #[]
  methods := #[k0m0]
  instanceTypes := #[]
  staticTypes := #[]
  resolved := Array.replicate 124 none
  statics := none }

def pool1 : Array CpInfo := pool [(2, .class_ 4), (1, u "java/lang/Object"), (0, u "<init>"), (0, u "()V"), (0, .integer 2147483647), (0, .methodref 9 10), (0, .class_ 11), (0, .nameAndType 12 13), (0, u "com/example/managed_transactions/managedtransactions/model/TransactionDefinitionOfPinLaw"), (0, u "pick"), (0, u "(I)Lcom/example/managed_transactions/managedtransactions/model/Propagation;"), (0, .methodref 15 16), (0, .class_ 17), (0, .nameAndType 18 19), (0, u "com/example/managed_transactions/managedtransactions/model/TransactionDefinition"), (0, u "of"), (0, u "(Lcom/example/managed_transactions/managedtransactions/model/Propagation;)Lcom/example/managed_transactions/managedtransactions/model/TransactionDefinition;"), (0, .methodref 15 21), (0, .nameAndType 22 23), (0, u "propagation"), (0, u "()Lcom/example/managed_transactions/managedtransactions/model/Propagation;"), (0, .methodref 15 25), (0, .nameAndType 26 27), (0, u "isolation"), (0, u "()Lcom/example/managed_transactions/managedtransactions/model/Isolation;"), (0, .fieldref 29 30), (0, .class_ 31), (0, .nameAndType 32 33), (0, u "com/example/managed_transactions/managedtransactions/model/Isolation"), (0, u "DEFAULT"), (0, u "Lcom/example/managed_transactions/managedtransactions/model/Isolation;"), (0, .methodref 15 35), (0, .nameAndType 36 37), (0, u "isReadOnly"), (0, u "()Z"), (0, .fieldref 39 40), (0, .class_ 41), (0, .nameAndType 42 43), (0, u "com/example/managed_transactions/managedtransactions/model/Propagation"), (0, u "REQUIRED"), (0, u "Lcom/example/managed_transactions/managedtransactions/model/Propagation;"), (0, .fieldref 39 45), (0, .nameAndType 46 43), (0, u "SUPPORTS"), (0, .fieldref 39 48), (0, .nameAndType 49 43), (0, u "MANDATORY"), (0, .fieldref 39 51), (0, .nameAndType 52 43), (0, u "REQUIRES_NEW"), (0, .fieldref 39 54), (0, .nameAndType 55 43), (0, u "NOT_SUPPORTED"), (0, .fieldref 39 57), (0, .nameAndType 58 43), (0, u "NEVER"), (0, .fieldref 39 60), (0, .nameAndType 61 43), (0, u "NESTED"), (2, u "law"), (0, u "(I)Z")] 3

def k1m0 : Method := { name := "<init>", desc := "()V", sig := { parameters := [], returnType := none }, accessFlags := 2, code := none }
def k1c1 : Code := { maxStack := 2, maxLocals := 4, code := code, exceptionTable := #[], attributes := #[] }
def k1m1 : Method := { name := "law", desc := "(I)Z", sig := { parameters := [.int], returnType := some .boolean }, accessFlags := 9, code := some k1c1 }
def k1c2 : Code := { maxStack := 2, maxLocals := 1, code := method_3_code, exceptionTable := #[], attributes := #[] }
def k1m2 : Method := { name := "pick", desc := "(I)Lcom/example/managed_transactions/managedtransactions/model/Propagation;", sig := { parameters := [.int], returnType := some (.object "com/example/managed_transactions/managedtransactions/model/Propagation") }, accessFlags := 10, code := some k1c2 }
/-- com/example/managed_transactions/managedtransactions/model/TransactionDefinitionOfPinLaw -/
def k1 : Class := { plain "com/example/managed_transactions/managedtransactions/model/TransactionDefinitionOfPinLaw" (some 0) with
  accessFlags := 49
  interfaces := #[]
  cf := some (fileOf pool1 9 #[] #[{ accessFlags := 2, nameIndex := 5, descriptorIndex := 6, attributes := #[] }, { accessFlags := 9, nameIndex := 64, descriptorIndex := 65, attributes := #[] }, { accessFlags := 10, nameIndex := 12, descriptorIndex := 13, attributes := #[] }] 49 2 #[] #[])
  fields := #[]
  methods := #[k1m0, k1m1, k1m2]
  instanceTypes := #[]
  staticTypes := #[]
  resolved := Array.replicate 69 none
  statics := none }

def pool2 : Array CpInfo := pool [(1, .class_ 2), (0, u "java/lang/constant/Constable"), (0, .class_ 4), (0, u "java/lang/Object")] 6

/-- java/lang/constant/Constable -/
def k2 : Class := { plain "java/lang/constant/Constable" (some 0) with
  accessFlags := 1537
  interfaces := #[]
  cf := some (fileOf pool2 1 #[] #[] 1537 3 #[] #[])
  fields := #[]
  methods := #[]
  instanceTypes := #[]
  staticTypes := #[]
  resolved := Array.replicate 11 none
  statics := none }

def pool3 : Array CpInfo := pool [(1, .class_ 2), (0, u "java/lang/Comparable"), (0, .class_ 4), (0, u "java/lang/Object")] 7

/-- java/lang/Comparable -/
def k3 : Class := { plain "java/lang/Comparable" (some 0) with
  accessFlags := 1537
  interfaces := #[]
  cf := some (fileOf pool3 1 #[] #[] 1537 3 #[] #[])
  fields := #[]
  methods := #[]
  instanceTypes := #[]
  staticTypes := #[]
  resolved := Array.replicate 12 none
  statics := none }

def pool4 : Array CpInfo := pool [(1, .class_ 2), (0, u "java/io/Serializable"), (0, .class_ 4), (0, u "java/lang/Object")] 2

/-- java/io/Serializable -/
def k4 : Class := { plain "java/io/Serializable" (some 0) with
  accessFlags := 1537
  interfaces := #[]
  cf := some (fileOf pool4 1 #[] #[] 1537 3 #[] #[])
  fields := #[]
  methods := #[]
  instanceTypes := #[]
  staticTypes := #[]
  resolved := Array.replicate 7 none
  statics := none }

def pool5 : Array CpInfo := pool [(2, .class_ 4), (1, u "java/lang/Enum"), (0, u "name"), (0, u "Ljava/lang/String;"), (2, u "ordinal"), (0, u "I"), (1, .class_ 14), (1, u "java/lang/Object"), (4, u "hash"), (86, .class_ 108), (1, u "java/lang/Enum$EnumDesc"), (2, .class_ 112), (0, u "java/lang/constant/Constable"), (0, .class_ 114), (0, u "java/lang/Comparable"), (0, .class_ 116), (0, u "java/io/Serializable")] 87

/-- java/lang/Enum -/
def k5 : Class := { plain "java/lang/Enum" (some 0) with
  accessFlags := 1057
  interfaces := #[2, 3, 4]
  cf := some (fileOf pool5 2 #[.nestMembers #[106]] #[] 1057 12 #[111, 113, 115] #[{ accessFlags := 18, nameIndex := 5, descriptorIndex := 6, attributes := #[] }, { accessFlags := 18, nameIndex := 9, descriptorIndex := 10, attributes := #[] }, { accessFlags := 2, nameIndex := 19, descriptorIndex := 10, attributes := #[] }])
  fields := #[{ name := "name", type := (.object "java/lang/String"), accessFlags := 18, slot := 0, constantValue := 0 }, { name := "ordinal", type := .int, accessFlags := 18, slot := 1, constantValue := 0 }, { name := "hash", type := .int, accessFlags := 2, slot := 2, constantValue := 0 }]
  methods := #[]
  instanceTypes := #[(.object "java/lang/String"), .int, .int]
  staticTypes := #[]
  resolved := Array.replicate 204 none
  statics := none }

def pool6 : Array CpInfo := pool [(1, .class_ 2), (0, u "com/example/managed_transactions/managedtransactions/model/Propagation"), (2, u "REQUIRED"), (0, u "Lcom/example/managed_transactions/managedtransactions/model/Propagation;"), (2, u "SUPPORTS"), (2, u "MANDATORY"), (2, u "REQUIRES_NEW"), (2, u "NOT_SUPPORTED"), (2, u "NEVER"), (2, u "NESTED"), (2, u "$VALUES"), (0, u "[Lcom/example/managed_transactions/managedtransactions/model/Propagation;"), (6, .class_ 37), (1, u "java/lang/Enum")] 29

/-- com/example/managed_transactions/managedtransactions/model/Propagation -/
def k6 : Class := { plain "com/example/managed_transactions/managedtransactions/model/Propagation" (some 5) with
  accessFlags := 16433
  interfaces := #[]
  cf := some (fileOf pool6 1 #[] #[] 16433 35 #[] #[{ accessFlags := 16409, nameIndex := 5, descriptorIndex := 6, attributes := #[] }, { accessFlags := 16409, nameIndex := 9, descriptorIndex := 6, attributes := #[] }, { accessFlags := 16409, nameIndex := 12, descriptorIndex := 6, attributes := #[] }, { accessFlags := 16409, nameIndex := 15, descriptorIndex := 6, attributes := #[] }, { accessFlags := 16409, nameIndex := 18, descriptorIndex := 6, attributes := #[] }, { accessFlags := 16409, nameIndex := 21, descriptorIndex := 6, attributes := #[] }, { accessFlags := 16409, nameIndex := 24, descriptorIndex := 6, attributes := #[] }, { accessFlags := 4122, nameIndex := 27, descriptorIndex := 28, attributes := #[] }])
  fields := #[{ name := "REQUIRED", type := (.object "com/example/managed_transactions/managedtransactions/model/Propagation"), accessFlags := 16409, slot := 0, constantValue := 0 }, { name := "SUPPORTS", type := (.object "com/example/managed_transactions/managedtransactions/model/Propagation"), accessFlags := 16409, slot := 1, constantValue := 0 }, { name := "MANDATORY", type := (.object "com/example/managed_transactions/managedtransactions/model/Propagation"), accessFlags := 16409, slot := 2, constantValue := 0 }, { name := "REQUIRES_NEW", type := (.object "com/example/managed_transactions/managedtransactions/model/Propagation"), accessFlags := 16409, slot := 3, constantValue := 0 }, { name := "NOT_SUPPORTED", type := (.object "com/example/managed_transactions/managedtransactions/model/Propagation"), accessFlags := 16409, slot := 4, constantValue := 0 }, { name := "NEVER", type := (.object "com/example/managed_transactions/managedtransactions/model/Propagation"), accessFlags := 16409, slot := 5, constantValue := 0 }, { name := "NESTED", type := (.object "com/example/managed_transactions/managedtransactions/model/Propagation"), accessFlags := 16409, slot := 6, constantValue := 0 }, { name := "$VALUES", type := (.array (.object "com/example/managed_transactions/managedtransactions/model/Propagation")), accessFlags := 4122, slot := 7, constantValue := 0 }]
  methods := #[]
  instanceTypes := #[(.object "java/lang/String"), .int, .int]
  staticTypes := #[(.object "com/example/managed_transactions/managedtransactions/model/Propagation"), (.object "com/example/managed_transactions/managedtransactions/model/Propagation"), (.object "com/example/managed_transactions/managedtransactions/model/Propagation"), (.object "com/example/managed_transactions/managedtransactions/model/Propagation"), (.object "com/example/managed_transactions/managedtransactions/model/Propagation"), (.object "com/example/managed_transactions/managedtransactions/model/Propagation"), (.object "com/example/managed_transactions/managedtransactions/model/Propagation"), (.array (.object "com/example/managed_transactions/managedtransactions/model/Propagation"))]
  resolved := Array.replicate 67 none
  statics := some 0 }

def pool7 : Array CpInfo := pool [(1, .methodref 2 3), (0, .class_ 4), (0, .nameAndType 5 6), (0, u "java/lang/Object"), (0, u "<init>"), (0, u "()V"), (0, .fieldref 8 9), (0, .class_ 10), (0, .nameAndType 11 12), (0, u "com/example/managed_transactions/managedtransactions/model/TransactionDefinition"), (0, u "settings"), (0, u "Lcom/example/managed_transactions/managedtransactions/model/TransactionDefinition$Settings;"), (0, .class_ 14), (0, u "com/example/managed_transactions/managedtransactions/model/TransactionDefinition$Settings"), (0, .methodref 13 3), (0, .string 17), (0, u "propagation"), (0, .methodref 19 20), (0, .class_ 21), (0, .nameAndType 22 23), (0, u "java/util/Objects"), (0, u "requireNonNull"), (0, u "(Ljava/lang/Object;Ljava/lang/String;)Ljava/lang/Object;"), (0, .class_ 25), (0, u "com/example/managed_transactions/managedtransactions/model/Propagation"), (0, .fieldref 13 27), (0, .nameAndType 17 28), (0, u "Lcom/example/managed_transactions/managedtransactions/model/Propagation;"), (0, .methodref 8 30), (0, .nameAndType 5 31), (0, u "(Lcom/example/managed_transactions/managedtransactions/model/TransactionDefinition$Settings;)V"), (4, u "()Lcom/example/managed_transactions/managedtransactions/model/Propagation;"), (2, u "of"), (0, u "(Lcom/example/managed_transactions/managedtransactions/model/Propagation;)Lcom/example/managed_transactions/managedtransactions/model/TransactionDefinition;"), (2, u "isolation"), (0, u "()Lcom/example/managed_transactions/managedtransactions/model/Isolation;"), (6, u "readOnly"), (0, u "()Z"), (93, .fieldref 13 147), (0, .nameAndType 43 148), (0, u "Lcom/example/managed_transactions/managedtransactions/model/Isolation;"), (0, .fieldref 13 150), (0, .nameAndType 51 151), (0, u "Z"), (121, u "isReadOnly")] 77

def k7c0 : Code := { maxStack := 2, maxLocals := 2, code := prog_13_method_1_code, exceptionTable := #[], attributes := #[] }
def k7m0 : Method := { name := "<init>", desc := "(Lcom/example/managed_transactions/managedtransactions/model/TransactionDefinition$Settings;)V", sig := { parameters := [(.object "com/example/managed_transactions/managedtransactions/model/TransactionDefinition$Settings")], returnType := none }, accessFlags := 2, code := some k7c0 }
def k7c1 : Code := { maxStack := 3, maxLocals := 2, code := prog_13_method_2_code, exceptionTable := #[], attributes := #[] }
def k7m1 : Method := { name := "of", desc := "(Lcom/example/managed_transactions/managedtransactions/model/Propagation;)Lcom/example/managed_transactions/managedtransactions/model/TransactionDefinition;", sig := { parameters := [(.object "com/example/managed_transactions/managedtransactions/model/Propagation")], returnType := some (.object "com/example/managed_transactions/managedtransactions/model/TransactionDefinition") }, accessFlags := 9, code := some k7c1 }
def k7c2 : Code := { maxStack := 1, maxLocals := 1, code := prog_13_method_11_code, exceptionTable := #[], attributes := #[] }
def k7m2 : Method := { name := "propagation", desc := "()Lcom/example/managed_transactions/managedtransactions/model/Propagation;", sig := { parameters := [], returnType := some (.object "com/example/managed_transactions/managedtransactions/model/Propagation") }, accessFlags := 1, code := some k7c2 }
def k7c3 : Code := { maxStack := 1, maxLocals := 1, code := prog_13_method_12_code, exceptionTable := #[], attributes := #[] }
def k7m3 : Method := { name := "isolation", desc := "()Lcom/example/managed_transactions/managedtransactions/model/Isolation;", sig := { parameters := [], returnType := some (.object "com/example/managed_transactions/managedtransactions/model/Isolation") }, accessFlags := 1, code := some k7c3 }
def k7c4 : Code := { maxStack := 1, maxLocals := 1, code := prog_13_method_13_code, exceptionTable := #[], attributes := #[] }
def k7m4 : Method := { name := "isReadOnly", desc := "()Z", sig := { parameters := [], returnType := some .boolean }, accessFlags := 1, code := some k7c4 }
/-- com/example/managed_transactions/managedtransactions/model/TransactionDefinition -/
def k7 : Class := { plain "com/example/managed_transactions/managedtransactions/model/TransactionDefinition" (some 0) with
  accessFlags := 49
  interfaces := #[]
  cf := some (fileOf pool7 8 #[.nestMembers #[13]] #[{ accessFlags := 2, nameIndex := 5, descriptorIndex := 31, attributes := #[] }, { accessFlags := 9, nameIndex := 39, descriptorIndex := 40, attributes := #[] }, { accessFlags := 1, nameIndex := 17, descriptorIndex := 36, attributes := #[] }, { accessFlags := 1, nameIndex := 43, descriptorIndex := 44, attributes := #[] }, { accessFlags := 1, nameIndex := 273, descriptorIndex := 52, attributes := #[] }] 49 2 #[] #[{ accessFlags := 18, nameIndex := 11, descriptorIndex := 12, attributes := #[] }])
  fields := #[{ name := "settings", type := (.object "com/example/managed_transactions/managedtransactions/model/TransactionDefinition$Settings"), accessFlags := 18, slot := 0, constantValue := 0 }]
  methods := #[k7m0, k7m1, k7m2, k7m3, k7m4]
  instanceTypes := #[(.object "com/example/managed_transactions/managedtransactions/model/TransactionDefinition$Settings")]
  staticTypes := #[]
  resolved := (((((Array.replicate 351 none).setIfInBounds 13 (some (.cls 8))).setIfInBounds 15 (some (.method ⟨8, 0⟩))).setIfInBounds 26 (some (.field 8 0))).setIfInBounds 146 (some (.field 8 1))).setIfInBounds 149 (some (.field 8 2))
  statics := none }

def pool8 : Array CpInfo := pool [(1, .methodref 2 3), (0, .class_ 4), (0, .nameAndType 5 6), (0, u "java/lang/Object"), (0, u "<init>"), (0, u "()V"), (0, .fieldref 8 9), (0, .class_ 10), (0, .nameAndType 11 12), (0, u "com/example/managed_transactions/managedtransactions/model/Isolation"), (0, u "DEFAULT"), (0, u "Lcom/example/managed_transactions/managedtransactions/model/Isolation;"), (0, .fieldref 14 15), (0, .class_ 16), (0, .nameAndType 17 12), (0, u "com/example/managed_transactions/managedtransactions/model/TransactionDefinition$Settings"), (0, u "isolation"), (0, .methodref 19 20), (0, .class_ 21), (0, .nameAndType 22 23), (0, u "java/util/OptionalInt"), (0, u "empty"), (0, u "()Ljava/util/OptionalInt;"), (0, .fieldref 14 25), (0, .nameAndType 26 27), (0, u "timeout"), (0, u "Ljava/util/OptionalInt;"), (0, .interfaceMethodref 29 30), (0, .class_ 31), (0, .nameAndType 32 33), (0, u "java/util/Set"), (0, u "of"), (0, u "()Ljava/util/Set;"), (0, .fieldref 14 35), (0, .nameAndType 36 37), (0, u "rollbackFor"), (0, u "Ljava/util/Set;"), (0, .fieldref 14 39), (0, .nameAndType 40 37), (0, u "noRollbackFor"), (3, u "propagation"), (0, u "Lcom/example/managed_transactions/managedtransactions/model/Propagation;"), (2, u "readOnly"), (0, u "Z"), (9, .class_ 60), (0, u "com/example/managed_transactions/managedtransactions/model/TransactionDefinition")] 2

def k8c0 : Code := { maxStack := 2, maxLocals := 1, code := prog_14_method_1_code, exceptionTable := #[], attributes := #[] }
def k8m0 : Method := { name := "<init>", desc := "()V", sig := { parameters := [], returnType := none }, accessFlags := 2, code := some k8c0 }
/-- com/example/managed_transactions/managedtransactions/model/TransactionDefinition$Settings -/
def k8 : Class := { plain "com/example/managed_transactions/managedtransactions/model/TransactionDefinition$Settings" (some 0) with
  accessFlags := 48
  interfaces := #[]
  cf := some (fileOf pool8 14 #[.nestHost 59] #[{ accessFlags := 2, nameIndex := 5, descriptorIndex := 6, attributes := #[] }] 48 2 #[] #[{ accessFlags := 2, nameIndex := 44, descriptorIndex := 45, attributes := #[] }, { accessFlags := 2, nameIndex := 17, descriptorIndex := 12, attributes := #[] }, { accessFlags := 2, nameIndex := 48, descriptorIndex := 49, attributes := #[] }, { accessFlags := 2, nameIndex := 26, descriptorIndex := 27, attributes := #[] }, { accessFlags := 2, nameIndex := 36, descriptorIndex := 37, attributes := #[] }, { accessFlags := 2, nameIndex := 40, descriptorIndex := 37, attributes := #[] }])
  fields := #[{ name := "propagation", type := (.object "com/example/managed_transactions/managedtransactions/model/Propagation"), accessFlags := 2, slot := 0, constantValue := 0 }, { name := "isolation", type := (.object "com/example/managed_transactions/managedtransactions/model/Isolation"), accessFlags := 2, slot := 1, constantValue := 0 }, { name := "readOnly", type := .boolean, accessFlags := 2, slot := 2, constantValue := 0 }, { name := "timeout", type := (.object "java/util/OptionalInt"), accessFlags := 2, slot := 3, constantValue := 0 }, { name := "rollbackFor", type := (.object "java/util/Set"), accessFlags := 2, slot := 4, constantValue := 0 }, { name := "noRollbackFor", type := (.object "java/util/Set"), accessFlags := 2, slot := 5, constantValue := 0 }]
  methods := #[k8m0]
  instanceTypes := #[(.object "com/example/managed_transactions/managedtransactions/model/Propagation"), (.object "com/example/managed_transactions/managedtransactions/model/Isolation"), .boolean, (.object "java/util/OptionalInt"), (.object "java/util/Set"), (.object "java/util/Set")]
  staticTypes := #[]
  resolved := Array.replicate 63 none
  statics := none }

def pool9 : Array CpInfo := pool [(1, .class_ 2), (0, u "com/example/managed_transactions/managedtransactions/model/Isolation"), (2, u "DEFAULT"), (0, u "Lcom/example/managed_transactions/managedtransactions/model/Isolation;"), (2, u "READ_UNCOMMITTED"), (2, u "READ_COMMITTED"), (2, u "REPEATABLE_READ"), (2, u "SERIALIZABLE"), (2, u "$VALUES"), (0, u "[Lcom/example/managed_transactions/managedtransactions/model/Isolation;"), (6, .class_ 31), (1, u "java/lang/Enum"), (8, u "jdbcLevel"), (0, u "Ljava/util/OptionalInt;")] 36

/-- com/example/managed_transactions/managedtransactions/model/Isolation -/
def k9 : Class := { plain "com/example/managed_transactions/managedtransactions/model/Isolation" (some 5) with
  accessFlags := 16433
  interfaces := #[]
  cf := some (fileOf pool9 1 #[] #[] 16433 29 #[] #[{ accessFlags := 16409, nameIndex := 5, descriptorIndex := 6, attributes := #[] }, { accessFlags := 16409, nameIndex := 9, descriptorIndex := 6, attributes := #[] }, { accessFlags := 16409, nameIndex := 12, descriptorIndex := 6, attributes := #[] }, { accessFlags := 16409, nameIndex := 15, descriptorIndex := 6, attributes := #[] }, { accessFlags := 16409, nameIndex := 18, descriptorIndex := 6, attributes := #[] }, { accessFlags := 18, nameIndex := 40, descriptorIndex := 41, attributes := #[] }, { accessFlags := 4122, nameIndex := 21, descriptorIndex := 22, attributes := #[] }])
  fields := #[{ name := "DEFAULT", type := (.object "com/example/managed_transactions/managedtransactions/model/Isolation"), accessFlags := 16409, slot := 0, constantValue := 0 }, { name := "READ_UNCOMMITTED", type := (.object "com/example/managed_transactions/managedtransactions/model/Isolation"), accessFlags := 16409, slot := 1, constantValue := 0 }, { name := "READ_COMMITTED", type := (.object "com/example/managed_transactions/managedtransactions/model/Isolation"), accessFlags := 16409, slot := 2, constantValue := 0 }, { name := "REPEATABLE_READ", type := (.object "com/example/managed_transactions/managedtransactions/model/Isolation"), accessFlags := 16409, slot := 3, constantValue := 0 }, { name := "SERIALIZABLE", type := (.object "com/example/managed_transactions/managedtransactions/model/Isolation"), accessFlags := 16409, slot := 4, constantValue := 0 }, { name := "jdbcLevel", type := (.object "java/util/OptionalInt"), accessFlags := 18, slot := 3, constantValue := 0 }, { name := "$VALUES", type := (.array (.object "com/example/managed_transactions/managedtransactions/model/Isolation")), accessFlags := 4122, slot := 5, constantValue := 0 }]
  methods := #[]
  instanceTypes := #[(.object "java/lang/String"), .int, .int, (.object "java/util/OptionalInt")]
  staticTypes := #[(.object "com/example/managed_transactions/managedtransactions/model/Isolation"), (.object "com/example/managed_transactions/managedtransactions/model/Isolation"), (.object "com/example/managed_transactions/managedtransactions/model/Isolation"), (.object "com/example/managed_transactions/managedtransactions/model/Isolation"), (.object "com/example/managed_transactions/managedtransactions/model/Isolation"), (.array (.object "com/example/managed_transactions/managedtransactions/model/Isolation"))]
  resolved := Array.replicate 78 none
  statics := some 1 }

def pool10 : Array CpInfo := pool [(2, .class_ 4), (1, u "java/lang/Object"), (0, u "<init>"), (0, u "()V"), (1, .class_ 10), (1, u "java/util/OptionalInt"), (0, u "isPresent"), (0, u "Z"), (2, u "value"), (0, u "I"), (0, .fieldref 8 18), (0, .nameAndType 19 20), (0, u "EMPTY"), (0, u "Ljava/util/OptionalInt;"), (28, u "empty"), (46, u "()Ljava/util/OptionalInt;")] 39

def k10m0 : Method := { name := "<init>", desc := "()V", sig := { parameters := [], returnType := none }, accessFlags := 2, code := none }
def k10c1 : Code := { maxStack := 1, maxLocals := 0, code := jdk_2649_method_2_code, exceptionTable := #[], attributes := #[] }
def k10m1 : Method := { name := "empty", desc := "()Ljava/util/OptionalInt;", sig := { parameters := [], returnType := some (.object "java/util/OptionalInt") }, accessFlags := 9, code := some k10c1 }
/-- java/util/OptionalInt -/
def k10 : Class := { plain "java/util/OptionalInt" (some 0) with
  accessFlags := 49
  interfaces := #[]
  cf := some (fileOf pool10 8 #[] #[{ accessFlags := 2, nameIndex := 5, descriptorIndex := 6, attributes := #[] }, { accessFlags := 9, nameIndex := 49, descriptorIndex := 96, attributes := #[] }] 49 2 #[] #[{ accessFlags := 26, nameIndex := 19, descriptorIndex := 20, attributes := #[] }, { accessFlags := 18, nameIndex := 11, descriptorIndex := 12, attributes := #[] }, { accessFlags := 18, nameIndex := 15, descriptorIndex := 16, attributes := #[] }])
  fields := #[{ name := "EMPTY", type := (.object "java/util/OptionalInt"), accessFlags := 26, slot := 0, constantValue := 0 }, { name := "isPresent", type := .boolean, accessFlags := 18, slot := 0, constantValue := 0 }, { name := "value", type := .int, accessFlags := 18, slot := 1, constantValue := 0 }]
  methods := #[k10m0, k10m1]
  instanceTypes := #[.boolean, .int]
  staticTypes := #[(.object "java/util/OptionalInt")]
  resolved := Array.replicate 136 none
  statics := some 2 }

def pool11 : Array CpInfo := pool [(8, .class_ 10), (1, u "java/lang/Iterable"), (24, .class_ 36), (0, u "java/lang/Object")] 25

/-- java/lang/Iterable -/
def k11 : Class := { plain "java/lang/Iterable" (some 0) with
  accessFlags := 1537
  interfaces := #[]
  cf := some (fileOf pool11 8 #[] #[] 1537 35 #[] #[])
  fields := #[]
  methods := #[]
  instanceTypes := #[]
  staticTypes := #[]
  resolved := Array.replicate 62 none
  statics := none }

def pool12 : Array CpInfo := pool [(10, .class_ 12), (1, u "java/util/Collection"), (47, .class_ 61), (0, u "java/lang/Object"), (0, .class_ 63), (0, u "java/lang/Iterable")] 51

/-- java/util/Collection -/
def k12 : Class := { plain "java/util/Collection" (some 0) with
  accessFlags := 1537
  interfaces := #[11]
  cf := some (fileOf pool12 10 #[] #[] 1537 60 #[62] #[])
  fields := #[]
  methods := #[]
  instanceTypes := #[]
  staticTypes := #[]
  resolved := Array.replicate 115 none
  statics := none }

def pool13 : Array CpInfo := pool [(9, .fieldref 10 11), (0, .class_ 12), (0, .nameAndType 13 14), (0, u "java/util/ImmutableCollections"), (0, u "EMPTY_SET"), (0, u "Ljava/util/ImmutableCollections$SetN;"), (11, .class_ 27), (0, u "java/lang/Object"), (5, .class_ 34), (0, u "java/util/Set"), (1, .class_ 38), (1, u "java/util/Collection"), (4, u "of"), (0, u "()Ljava/util/Set;")] 99

def k13c0 : Code := { maxStack := 1, maxLocals := 0, code := jdk_96_method_17_code, exceptionTable := #[], attributes := #[] }
def k13m0 : Method := { name := "of", desc := "()Ljava/util/Set;", sig := { parameters := [], returnType := some (.object "java/util/Set") }, accessFlags := 9, code := some k13c0 }
/-- java/util/Set -/
def k13 : Class := { plain "java/util/Set" (some 0) with
  accessFlags := 1537
  interfaces := #[12]
  cf := some (fileOf pool13 33 #[] #[{ accessFlags := 9, nameIndex := 43, descriptorIndex := 44, attributes := #[] }] 1537 26 #[36] #[])
  fields := #[]
  methods := #[k13m0]
  instanceTypes := #[]
  staticTypes := #[]
  resolved := Array.replicate 144 none
  statics := none }

def pool14 : Array CpInfo := pool [(2, .class_ 4), (1, u "java/lang/Object"), (0, u "<init>"), (0, u "()V"), (3, .class_ 11), (0, u "java/util/ImmutableCollections$List12"), (0, .class_ 13), (0, u "java/util/ImmutableCollections$ListN"), (3, u "Z"), (29, .class_ 49), (1, u "java/util/ImmutableCollections"), (0, u "$assertionsDisabled"), (5, u "[Ljava/lang/Object;"), (5, u "EMPTY_LIST"), (0, u "Ljava/util/ImmutableCollections$ListN;"), (8, u "EMPTY_LIST_NULLS"), (22, u "SALT32L"), (0, u "J"), (2, u "REVERSE"), (6, u "archivedObjects"), (2, u "EMPTY"), (0, u "Ljava/lang/Object;"), (0, .class_ 112), (0, u "java/util/ImmutableCollections$SetN"), (5, u "EMPTY_SET"), (0, u "Ljava/util/ImmutableCollections$SetN;"), (0, .class_ 121), (0, u "java/util/ImmutableCollections$MapN"), (3, u "EMPTY_MAP"), (0, u "Ljava/util/ImmutableCollections$MapN;"), (4, u "EXPAND_FACTOR"), (0, u "I"), (36, .class_ 170), (0, u "java/util/ImmutableCollections$MapN$MapNIterator"), (0, .class_ 172), (0, u "java/util/ImmutableCollections$MapN$1"), (0, .class_ 174), (0, u "java/util/ImmutableCollections$Map1"), (0, .class_ 176), (0, u "java/util/ImmutableCollections$AbstractImmutableMap"), (0, .class_ 178), (0, u "java/util/ImmutableCollections$SetN$SetNIterator"), (0, .class_ 180), (0, u "java/util/ImmutableCollections$Set12"), (0, .class_ 182), (0, u "java/util/ImmutableCollections$Set12$1"), (0, .class_ 184), (0, u "java/util/ImmutableCollections$AbstractImmutableSet"), (0, .class_ 186), (0, u "java/util/ImmutableCollections$SubList"), (0, .class_ 188), (0, u "java/util/ImmutableCollections$ListItr"), (0, .class_ 190), (0, u "java/util/ImmutableCollections$AbstractImmutableList"), (0, .class_ 192), (0, u "java/util/ImmutableCollections$AbstractImmutableCollection"), (0, .class_ 194), (0, u "java/util/ImmutableCollections$Access"), (0, .class_ 196), (0, u "java/util/ImmutableCollections$Access$1")] 16

def k14m0 : Method := { name := "<init>", desc := "()V", sig := { parameters := [], returnType := none }, accessFlags := 2, code := none }
/-- java/util/ImmutableCollections -/
def k14 : Class := { plain "java/util/ImmutableCollections" (some 0) with
  accessFlags := 32
  interfaces := #[]
  cf := some (fileOf pool14 47 #[.nestMembers #[120, 169, 171, 173, 175, 111, 177, 179, 181, 183, 12, 10, 185, 187, 189, 191, 193, 195]] #[{ accessFlags := 2, nameIndex := 5, descriptorIndex := 6, attributes := #[] }] 32 2 #[] #[{ accessFlags := 26, nameIndex := 95, descriptorIndex := 96, attributes := #[] }, { accessFlags := 26, nameIndex := 99, descriptorIndex := 17, attributes := #[] }, { accessFlags := 10, nameIndex := 106, descriptorIndex := 56, attributes := #[] }, { accessFlags := 26, nameIndex := 109, descriptorIndex := 110, attributes := #[] }, { accessFlags := 24, nameIndex := 62, descriptorIndex := 63, attributes := #[] }, { accessFlags := 24, nameIndex := 72, descriptorIndex := 63, attributes := #[] }, { accessFlags := 24, nameIndex := 118, descriptorIndex := 119, attributes := #[] }, { accessFlags := 24, nameIndex := 125, descriptorIndex := 126, attributes := #[] }, { accessFlags := 24, nameIndex := 131, descriptorIndex := 132, attributes := #[] }, { accessFlags := 4120, nameIndex := 50, descriptorIndex := 17, attributes := #[] }])
  fields := #[{ name := "SALT32L", type := .long, accessFlags := 26, slot := 0, constantValue := 0 }, { name := "REVERSE", type := .boolean, accessFlags := 26, slot := 1, constantValue := 0 }, { name := "archivedObjects", type := (.array (.object "java/lang/Object")), accessFlags := 10, slot := 2, constantValue := 0 }, { name := "EMPTY", type := (.object "java/lang/Object"), accessFlags := 26, slot := 3, constantValue := 0 }, { name := "EMPTY_LIST", type := (.object "java/util/ImmutableCollections$ListN"), accessFlags := 24, slot := 4, constantValue := 0 }, { name := "EMPTY_LIST_NULLS", type := (.object "java/util/ImmutableCollections$ListN"), accessFlags := 24, slot := 5, constantValue := 0 }, { name := "EMPTY_SET", type := (.object "java/util/ImmutableCollections$SetN"), accessFlags := 24, slot := 6, constantValue := 0 }, { name := "EMPTY_MAP", type := (.object "java/util/ImmutableCollections$MapN"), accessFlags := 24, slot := 7, constantValue := 0 }, { name := "EXPAND_FACTOR", type := .int, accessFlags := 24, slot := 8, constantValue := 0 }, { name := "$assertionsDisabled", type := .boolean, accessFlags := 4120, slot := 9, constantValue := 0 }]
  methods := #[k14m0]
  instanceTypes := #[]
  staticTypes := #[.long, .boolean, (.array (.object "java/lang/Object")), (.object "java/lang/Object"), (.object "java/util/ImmutableCollections$ListN"), (.object "java/util/ImmutableCollections$ListN"), (.object "java/util/ImmutableCollections$SetN"), (.object "java/util/ImmutableCollections$MapN"), .int, .boolean]
  resolved := Array.replicate 213 none
  statics := some 3 }

def pool15 : Array CpInfo := pool [(2, .class_ 4), (1, u "java/lang/CharSequence"), (42, .class_ 48), (0, u "java/lang/CharSequence$1CodePointIterator"), (10, .class_ 60), (0, u "java/lang/CharSequence$1CharIterator"), (5, .class_ 67), (0, u "java/lang/Object")] 63

/-- java/lang/CharSequence -/
def k15 : Class := { plain "java/lang/CharSequence" (some 0) with
  accessFlags := 1537
  interfaces := #[]
  cf := some (fileOf pool15 2 #[.nestMembers #[47, 59]] #[] 1537 66 #[] #[])
  fields := #[]
  methods := #[]
  instanceTypes := #[]
  staticTypes := #[]
  resolved := Array.replicate 131 none
  statics := none }

def pool16 : Array CpInfo := pool [(1, .class_ 2), (0, u "java/lang/constant/ConstantDesc"), (0, .class_ 4), (0, u "java/lang/Object")] 32

/-- java/lang/constant/ConstantDesc -/
def k16 : Class := { plain "java/lang/constant/ConstantDesc" (some 0) with
  accessFlags := 1537
  interfaces := #[]
  cf := some (fileOf pool16 1 #[] #[] 1537 3 #[] #[])
  fields := #[]
  methods := #[]
  instanceTypes := #[]
  staticTypes := #[]
  resolved := Array.replicate 37 none
  statics := none }

def pool17 : Array CpInfo := pool [(2, .class_ 4), (1, u "java/lang/Object"), (0, u "<init>"), (0, u "()V"), (3, .class_ 12), (1, u "java/lang/String"), (0, u "value"), (0, u "[B"), (2, u "coder"), (0, u "B"), (2, u "hash"), (0, u "I"), (2, u "hashIsZero"), (0, u "Z"), (13, u "COMPACT_STRINGS"), (534, .class_ 576), (0, u "java/lang/CharSequence"), (22, u "CASE_INSENSITIVE_ORDER"), (0, u "Ljava/util/Comparator;"), (500, u "serialPersistentFields"), (0, u "[Ljava/io/ObjectStreamField;"), (0, .class_ 1104), (0, u "java/lang/String$CaseInsensitiveComparator"), (1, .class_ 1107), (0, u "java/io/Serializable"), (0, .class_ 1109), (0, u "java/lang/Comparable"), (0, .class_ 1111), (0, u "java/lang/constant/Constable"), (0, .class_ 1113), (0, u "java/lang/constant/ConstantDesc"), (2, u "serialVersionUID"), (0, u "J"), (3, u "REPL"), (0, u "C"), (2, u "LATIN1"), (1, u "UTF16")] 323

def k17m0 : Method := { name := "<init>", desc := "()V", sig := { parameters := [], returnType := none }, accessFlags := 1, code := none }
/-- java/lang/String -/
def k17 : Class := { plain "java/lang/String" (some 0) with
  accessFlags := 49
  interfaces := #[4, 3, 15, 2, 16]
  cf := some (fileOf pool17 10 #[.nestMembers #[1103]] #[{ accessFlags := 1, nameIndex := 5, descriptorIndex := 6, attributes := #[] }] 49 2 #[1106, 1108, 575, 1110, 1112] #[{ accessFlags := 18, nameIndex := 13, descriptorIndex := 14, attributes := #[] }, { accessFlags := 18, nameIndex := 17, descriptorIndex := 18, attributes := #[] }, { accessFlags := 2, nameIndex := 21, descriptorIndex := 22, attributes := #[] }, { accessFlags := 2, nameIndex := 25, descriptorIndex := 26, attributes := #[] }, { accessFlags := 26, nameIndex := 1116, descriptorIndex := 1117, attributes := #[] }, { accessFlags := 24, nameIndex := 40, descriptorIndex := 26, attributes := #[] }, { accessFlags := 26, nameIndex := 1101, descriptorIndex := 1102, attributes := #[] }, { accessFlags := 26, nameIndex := 1121, descriptorIndex := 1122, attributes := #[] }, { accessFlags := 25, nameIndex := 599, descriptorIndex := 600, attributes := #[] }, { accessFlags := 24, nameIndex := 1125, descriptorIndex := 18, attributes := #[] }, { accessFlags := 24, nameIndex := 1127, descriptorIndex := 18, attributes := #[] }])
  fields := #[{ name := "value", type := (.array .byte), accessFlags := 18, slot := 0, constantValue := 0 }, { name := "coder", type := .byte, accessFlags := 18, slot := 1, constantValue := 0 }, { name := "hash", type := .int, accessFlags := 2, slot := 2, constantValue := 0 }, { name := "hashIsZero", type := .boolean, accessFlags := 2, slot := 3, constantValue := 0 }, { name := "serialVersionUID", type := .long, accessFlags := 26, slot := 0, constantValue := 0 }, { name := "COMPACT_STRINGS", type := .boolean, accessFlags := 24, slot := 1, constantValue := 0 }, { name := "serialPersistentFields", type := (.array (.object "java/io/ObjectStreamField")), accessFlags := 26, slot := 2, constantValue := 0 }, { name := "REPL", type := .char, accessFlags := 26, slot := 3, constantValue := 0 }, { name := "CASE_INSENSITIVE_ORDER", type := (.object "java/util/Comparator"), accessFlags := 25, slot := 4, constantValue := 0 }, { name := "LATIN1", type := .byte, accessFlags := 24, slot := 5, constantValue := 0 }, { name := "UTF16", type := .byte, accessFlags := 24, slot := 6, constantValue := 0 }]
  methods := #[k17m0]
  instanceTypes := #[(.array .byte), .byte, .int, .boolean]
  staticTypes := #[.long, .boolean, (.array (.object "java/io/ObjectStreamField")), .char, (.object "java/util/Comparator"), .byte, .byte]
  resolved := Array.replicate 1451 none
  statics := none }

def pool18 : Array CpInfo := pool [(2, .class_ 4), (1, u "java/lang/Object"), (0, u "<init>"), (0, u "()V"), (35, .class_ 44), (1, u "java/util/Objects"), (0, u "requireNonNull"), (48, u "(Ljava/lang/Object;Ljava/lang/String;)Ljava/lang/Object;")] 89

def k18m0 : Method := { name := "<init>", desc := "()V", sig := { parameters := [], returnType := none }, accessFlags := 2, code := none }
def k18c1 : Code := { maxStack := 3, maxLocals := 2, code := jdk_31_method_11_code, exceptionTable := #[], attributes := #[] }
def k18m1 : Method := { name := "requireNonNull", desc := "(Ljava/lang/Object;Ljava/lang/String;)Ljava/lang/Object;", sig := { parameters := [(.object "java/lang/Object"), (.object "java/lang/String")], returnType := some (.object "java/lang/Object") }, accessFlags := 9, code := some k18c1 }
/-- java/util/Objects -/
def k18 : Class := { plain "java/util/Objects" (some 0) with
  accessFlags := 49
  interfaces := #[]
  cf := some (fileOf pool18 42 #[] #[{ accessFlags := 2, nameIndex := 5, descriptorIndex := 6, attributes := #[] }, { accessFlags := 9, nameIndex := 45, descriptorIndex := 94, attributes := #[] }] 49 2 #[] #[])
  fields := #[]
  methods := #[k18m0, k18m1]
  instanceTypes := #[]
  staticTypes := #[]
  resolved := Array.replicate 184 none
  statics := none }

def pool19 : Array CpInfo := pool [(2, .class_ 4), (1, u "java/lang/Object"), (0, u "<init>"), (0, u "()V"), (1, .class_ 10), (1, u "java/util/AbstractCollection"), (66, .class_ 78), (0, u "java/util/Collection")] 81

def k19m0 : Method := { name := "<init>", desc := "()V", sig := { parameters := [], returnType := none }, accessFlags := 4, code := none }
/-- java/util/AbstractCollection -/
def k19 : Class := { plain "java/util/AbstractCollection" (some 0) with
  accessFlags := 1057
  interfaces := #[12]
  cf := some (fileOf pool19 8 #[] #[{ accessFlags := 4, nameIndex := 5, descriptorIndex := 6, attributes := #[] }] 1057 2 #[77] #[])
  fields := #[]
  methods := #[k19m0]
  instanceTypes := #[]
  staticTypes := #[]
  resolved := Array.replicate 160 none
  statics := none }

def pool20 : Array CpInfo := pool [(2, .class_ 4), (1, u "java/util/AbstractCollection"), (0, u "<init>"), (0, u "()V"), (1, .class_ 10), (1, u "java/util/ImmutableCollections"), (2, .class_ 14), (0, u "java/util/ImmutableCollections$AbstractImmutableCollection")] 41

def k20m0 : Method := { name := "<init>", desc := "()V", sig := { parameters := [], returnType := none }, accessFlags := 0, code := none }
/-- java/util/ImmutableCollections$AbstractImmutableCollection -/
def k20 : Class := { plain "java/util/ImmutableCollections$AbstractImmutableCollection" (some 19) with
  accessFlags := 1056
  interfaces := #[]
  cf := some (fileOf pool20 13 #[.nestHost 8] #[{ accessFlags := 0, nameIndex := 5, descriptorIndex := 6, attributes := #[] }] 1056 2 #[] #[])
  fields := #[]
  methods := #[k20m0]
  instanceTypes := #[]
  staticTypes := #[]
  resolved := Array.replicate 56 none
  statics := none }

def pool21 : Array CpInfo := pool [(2, .class_ 4), (1, u "java/util/ImmutableCollections$AbstractImmutableCollection"), (0, u "<init>"), (0, u "()V"), (0, .class_ 8), (0, u "java/util/Set"), (7, .class_ 17), (0, u "java/util/ImmutableCollections$AbstractImmutableSet"), (43, .class_ 62), (0, u "java/util/ImmutableCollections")] 3

def k21m0 : Method := { name := "<init>", desc := "()V", sig := { parameters := [], returnType := none }, accessFlags := 0, code := none }
/-- java/util/ImmutableCollections$AbstractImmutableSet -/
def k21 : Class := { plain "java/util/ImmutableCollections$AbstractImmutableSet" (some 20) with
  accessFlags := 1056
  interfaces := #[13]
  cf := some (fileOf pool21 16 #[.nestHost 61] #[{ accessFlags := 0, nameIndex := 5, descriptorIndex := 6, attributes := #[] }] 1056 2 #[7] #[])
  fields := #[]
  methods := #[k21m0]
  instanceTypes := #[]
  staticTypes := #[]
  resolved := Array.replicate 66 none
  statics := none }

def pool22 : Array CpInfo := pool [(1, .class_ 2), (0, u "java/util/ImmutableCollections"), (1, .class_ 6), (1, u "java/util/ImmutableCollections$AbstractImmutableSet"), (3, .class_ 12), (1, u "java/util/ImmutableCollections$SetN"), (0, u "size"), (0, u "I"), (4, u "elements"), (0, u "[Ljava/lang/Object;"), (86, .class_ 108), (0, u "java/io/Serializable")] 59

/-- java/util/ImmutableCollections$SetN -/
def k22 : Class := { plain "java/util/ImmutableCollections$SetN" (some 21) with
  accessFlags := 48
  interfaces := #[4]
  cf := some (fileOf pool22 10 #[.nestHost 1] #[] 48 4 #[107] #[{ accessFlags := 16, nameIndex := 19, descriptorIndex := 20, attributes := #[] }, { accessFlags := 16, nameIndex := 13, descriptorIndex := 14, attributes := #[] }])
  fields := #[{ name := "elements", type := (.array (.object "java/lang/Object")), accessFlags := 16, slot := 0, constantValue := 0 }, { name := "size", type := .int, accessFlags := 16, slot := 1, constantValue := 0 }]
  methods := #[]
  instanceTypes := #[(.array (.object "java/lang/Object")), .int]
  staticTypes := #[]
  resolved := Array.replicate 168 none
  statics := none }

def pool23 : Array CpInfo := pool [(1, u "java/lang/Cloneable"), (0, .class_ 1), (0, u "java/lang/Object"), (0, .class_ 3)] 3

/-- java/lang/Cloneable -/
def k23 : Class := { plain "java/lang/Cloneable" (some 0) with
  accessFlags := 1537
  interfaces := #[]
  cf := some (fileOf pool23 2 #[] #[] 1537 4 #[] #[])
  fields := #[]
  methods := #[]
  instanceTypes := #[]
  staticTypes := #[]
  resolved := Array.replicate 8 none
  statics := none }

/-- the primitive byte -/
def k24 : Class := { plain "byte" none with kind := .primitive 'B', accessFlags := 0x411 }
/-- [B -/
def k25 : Class := { plain "[B" (some 0) with kind := .array 24 .byte, interfaces := #[23, 4], accessFlags := 1041 }

/-- the primitive int -/
def k26 : Class := { plain "int" none with kind := .primitive 'I', accessFlags := 0x411 }
/-- [I -/
def k27 : Class := { plain "[I" (some 0) with kind := .array 26 .int, interfaces := #[23, 4], accessFlags := 1041 }

/-- [Ljava/lang/Object; -/
def k28 : Class := { plain "[Ljava/lang/Object;" (some 0) with kind := .array 0 (.object "java/lang/Object"), interfaces := #[23, 4], accessFlags := 1041 }

def heap : Heap := #[{ cls := 6, slots := #[.ref 5, .ref 6, .ref 7, .ref 8, .ref 9, .ref 10, .ref 11, .null], vm := .statics 6 },
  { cls := 9, slots := #[.ref 12, .null, .null, .null, .null, .null], vm := .statics 9 },
  { cls := 10, slots := #[.ref 14], vm := .statics 10 },
  { cls := 14, slots := #[.long 0, .int 0, .null, .null, .null, .null, .ref 13, .null, .int 0, .int 0], vm := .statics 14 },
  { cls := 28, slots := #[], vm := .none },
  { cls := 6, slots := #[.null, .int 0, .int 0], vm := .none },
  { cls := 6, slots := #[.null, .int 1, .int 0], vm := .none },
  { cls := 6, slots := #[.null, .int 2, .int 0], vm := .none },
  { cls := 6, slots := #[.null, .int 3, .int 0], vm := .none },
  { cls := 6, slots := #[.null, .int 4, .int 0], vm := .none },
  { cls := 6, slots := #[.null, .int 5, .int 0], vm := .none },
  { cls := 6, slots := #[.null, .int 6, .int 0], vm := .none },
  { cls := 9, slots := #[.null, .int 0, .int 0, .null], vm := .none },
  { cls := 22, slots := #[.ref 4, .int 0], vm := .none },
  { cls := 10, slots := #[.int 0, .int 0], vm := .none }]
def classes : Array Class := #[k0, k1, k2, k3, k4, k5, k6, k7, k8, k9, k10, k11, k12, k13, k14, k15, k16, k17, k18, k19, k20, k21, k22, k23, k24, k25, k26, k27, k28]
def interned : List (Array UInt16 × Addr) := []
def slotsUsed : Nat := 54
def theMethod : MethodId := ⟨1, 1⟩
def args0 : Array Value := #[.int 5]
def aboutOver (below : List Frame) : State where
  vm := { classes := classes, interned := interned.toArray }
  heap := heap
  slotsUsed := slotsUsed
  threads := #[{ frames := .invoking theMethod args0 :: below }]
def below0 : List Frame := [.native { method := ⟨0, 0⟩, args := #[] }]
def about1 : State := aboutOver below0
def p0 : Program := .bare "" "" ""
def e0 : Env := launch0.env 0 0 0
theorem w_frames : about1.frames = Frame.invoking theMethod args0 :: below0 := rfl
set_option maxRecDepth 65536 in
theorem w_args : argsFit about1.vm theMethod args0 = true := by decide +kernel
set_option maxRecDepth 65536 in
theorem w_heap : heapFits about1 = true := by decide +kernel
set_option maxRecDepth 65536 in
theorem w_runnable : about1.curStatus? = some .runnable := by decide +kernel
set_option maxRecDepth 65536 in
theorem w_alone : about1.alone = true := by decide +kernel
set_option maxRecDepth 65536 in
theorem w_named : about1.methodNamed? x = some theMethod := by decide +kernel
set_option maxRecDepth 65536 in
theorem w_hears : about1.hears theMethod below0 = true := by decide +kernel
set_option maxRecDepth 65536 in
theorem w_ripe : about1.ripe theMethod args0 below0 = true := by decide +kernel
theorem w_running : about1.status = .running := rfl
set_option maxRecDepth 65536 in
theorem w_room : about1.hasRoom e0.platform room_1 = true :=
  launch0.hasRoom_least _ room_1 (by decide +kernel) (by decide +kernel) (by decide +kernel) (by decide +kernel) (by decide +kernel) (by decide +kernel)
theorem allAtoms_all (ts : List Jvm.Cond) (a : Array Jvm.Value) (st : Jvm.State) : (allAtoms ts).before a st = ts.all (fun c => c.before a st) := by
  induction ts with
  | nil => rfl
  | cons c t ih =>
    show (Jvm.Cond.and c (allAtoms t)).before a st = _
    rw [Jvm.Cond.before_and, ih, List.all_cons]
def words1 : List Jvm.Cond := Jvm.Cond.code x code maxLocals ret :: tables_1
/-- a 'code' word, met by the world's own term for the bytes: nothing is compared byte by byte -/
theorem code_word {y : MethodName} {bytes : ByteArray} {mx : Nat} {rt : Option FieldType} {a : Array Value} {s : State} {m : MethodId} {meth : Method} {c : Code} (h1 : s.methodNamed? y = some m) (h2 : s.vm.method? m = some meth) (h3 : meth.code = some c) (h4 : c.code = bytes)
    (h5 : (c.maxLocals == mx && c.exceptionTable.isEmpty && decide (c.maxStack ≤ mostOperands) && decide (meth.sig.returnType = rt) && !meth.locks && decide (parseMethodDescriptor y.desc = some meth.sig)) = true) : (Jvm.Cond.code y bytes mx rt).before a s = true := by
  simp only [Bool.and_eq_true, beq_iff_eq, Bool.not_eq_true', decide_eq_true_eq] at h5
  obtain ⟨⟨⟨⟨⟨g1, g2⟩, g3⟩, g4⟩, g5⟩, g6⟩ := h5
  simp [Cond.before, Cond.holds, Cond.value, h1, h2, h3, h4, g1, g2, g3, g4, g5, g6]
def isCode : Jvm.Cond → Bool
  | .code _ _ _ _ => true
  | _ => false
theorem all_split {L : List Jvm.Cond} {P : Jvm.Cond → Bool} (h1 : L.all (fun c => isCode c || P c) = true) (h2 : ∀ c ∈ L.filter isCode, P c = true) : L.all P = true := by
  refine List.all_eq_true.mpr fun c hc => ?_
  have h := List.all_eq_true.mp h1 c hc
  rcases Bool.eq_false_or_eq_true (isCode c) with hi | hi
  · exact h2 c (List.mem_filter.mpr ⟨hc, hi⟩)
  · simpa [hi] using h
set_option maxRecDepth 65536 in
theorem w_c0 : (Jvm.Cond.code x code maxLocals ret).before args0 about1 = true := code_word (m := ⟨1, 1⟩) (meth := k1m1) (c := k1c1) (by decide +kernel) rfl rfl rfl (by decide +kernel)
set_option maxRecDepth 65536 in
theorem w_c1 : (Jvm.Cond.code ({ cls := "com/example/managed_transactions/managedtransactions/model/TransactionDefinitionOfPinLaw", name := "pick", desc := "(I)Lcom/example/managed_transactions/managedtransactions/model/Propagation;" } : Jvm.MethodName) method_3_code (1 : Nat) (Option.some (Jvm.ClassFile.FieldType.object "com/example/managed_transactions/managedtransactions/model/Propagation"))).before args0 about1 = true := code_word (m := ⟨1, 2⟩) (meth := k1m2) (c := k1c2) (by decide +kernel) rfl rfl rfl (by decide +kernel)
set_option maxRecDepth 65536 in
theorem w_c2 : (Jvm.Cond.code ({ cls := "com/example/managed_transactions/managedtransactions/model/TransactionDefinition", name := "of", desc := "(Lcom/example/managed_transactions/managedtransactions/model/Propagation;)Lcom/example/managed_transactions/managedtransactions/model/TransactionDefinition;" } : Jvm.MethodName) prog_13_method_2_code (2 : Nat) (Option.some (Jvm.ClassFile.FieldType.object "com/example/managed_transactions/managedtransactions/model/TransactionDefinition"))).before args0 about1 = true := code_word (m := ⟨7, 1⟩) (meth := k7m1) (c := k7c1) (by decide +kernel) rfl rfl rfl (by decide +kernel)
set_option maxRecDepth 65536 in
theorem w_c3 : (Jvm.Cond.code ({ cls := "com/example/managed_transactions/managedtransactions/model/TransactionDefinition$Settings", name := "<init>", desc := "()V" } : Jvm.MethodName) prog_14_method_1_code (1 : Nat) (Option.none : Option Jvm.ClassFile.FieldType)).before args0 about1 = true := code_word (m := ⟨8, 0⟩) (meth := k8m0) (c := k8c0) (by decide +kernel) rfl rfl rfl (by decide +kernel)
set_option maxRecDepth 65536 in
theorem w_c4 : (Jvm.Cond.code ({ cls := "java/lang/Object", name := "<init>", desc := "()V" } : Jvm.MethodName) object_method_1_code (1 : Nat) (Option.none : Option Jvm.ClassFile.FieldType)).before args0 about1 = true := code_word (m := ⟨0, 0⟩) (meth := k0m0) (c := k0c0) (by decide +kernel) rfl rfl rfl (by decide +kernel)
set_option maxRecDepth 65536 in
theorem w_c5 : (Jvm.Cond.code ({ cls := "java/util/OptionalInt", name := "empty", desc := "()Ljava/util/OptionalInt;" } : Jvm.MethodName) jdk_2649_method_2_code (0 : Nat) (Option.some (Jvm.ClassFile.FieldType.object "java/util/OptionalInt"))).before args0 about1 = true := code_word (m := ⟨10, 1⟩) (meth := k10m1) (c := k10c1) (by decide +kernel) rfl rfl rfl (by decide +kernel)
set_option maxRecDepth 65536 in
theorem w_c6 : (Jvm.Cond.code ({ cls := "java/util/Set", name := "of", desc := "()Ljava/util/Set;" } : Jvm.MethodName) jdk_96_method_17_code (0 : Nat) (Option.some (Jvm.ClassFile.FieldType.object "java/util/Set"))).before args0 about1 = true := code_word (m := ⟨13, 0⟩) (meth := k13m0) (c := k13c0) (by decide +kernel) rfl rfl rfl (by decide +kernel)
set_option maxRecDepth 65536 in
theorem w_c7 : (Jvm.Cond.code ({ cls := "java/util/Objects", name := "requireNonNull", desc := "(Ljava/lang/Object;Ljava/lang/String;)Ljava/lang/Object;" } : Jvm.MethodName) jdk_31_method_11_code (2 : Nat) (Option.some (Jvm.ClassFile.FieldType.object "java/lang/Object"))).before args0 about1 = true := code_word (m := ⟨18, 1⟩) (meth := k18m1) (c := k18c1) (by decide +kernel) rfl rfl rfl (by decide +kernel)
set_option maxRecDepth 65536 in
theorem w_c8 : (Jvm.Cond.code ({ cls := "com/example/managed_transactions/managedtransactions/model/TransactionDefinition", name := "<init>", desc := "(Lcom/example/managed_transactions/managedtransactions/model/TransactionDefinition$Settings;)V" } : Jvm.MethodName) prog_13_method_1_code (2 : Nat) (Option.none : Option Jvm.ClassFile.FieldType)).before args0 about1 = true := code_word (m := ⟨7, 0⟩) (meth := k7m0) (c := k7c0) (by decide +kernel) rfl rfl rfl (by decide +kernel)
set_option maxRecDepth 65536 in
theorem w_c9 : (Jvm.Cond.code ({ cls := "com/example/managed_transactions/managedtransactions/model/TransactionDefinition", name := "propagation", desc := "()Lcom/example/managed_transactions/managedtransactions/model/Propagation;" } : Jvm.MethodName) prog_13_method_11_code (1 : Nat) (Option.some (Jvm.ClassFile.FieldType.object "com/example/managed_transactions/managedtransactions/model/Propagation"))).before args0 about1 = true := code_word (m := ⟨7, 2⟩) (meth := k7m2) (c := k7c2) (by decide +kernel) rfl rfl rfl (by decide +kernel)
set_option maxRecDepth 65536 in
theorem w_c10 : (Jvm.Cond.code ({ cls := "com/example/managed_transactions/managedtransactions/model/TransactionDefinition", name := "isolation", desc := "()Lcom/example/managed_transactions/managedtransactions/model/Isolation;" } : Jvm.MethodName) prog_13_method_12_code (1 : Nat) (Option.some (Jvm.ClassFile.FieldType.object "com/example/managed_transactions/managedtransactions/model/Isolation"))).before args0 about1 = true := code_word (m := ⟨7, 3⟩) (meth := k7m3) (c := k7c3) (by decide +kernel) rfl rfl rfl (by decide +kernel)
set_option maxRecDepth 65536 in
theorem w_c11 : (Jvm.Cond.code ({ cls := "com/example/managed_transactions/managedtransactions/model/TransactionDefinition", name := "isReadOnly", desc := "()Z" } : Jvm.MethodName) prog_13_method_13_code (1 : Nat) (Option.some Jvm.ClassFile.FieldType.boolean)).before args0 about1 = true := code_word (m := ⟨7, 4⟩) (meth := k7m4) (c := k7c4) (by decide +kernel) rfl rfl rfl (by decide +kernel)
def codes1 : List Jvm.Cond := [Jvm.Cond.code x code maxLocals ret, Jvm.Cond.code ({ cls := "com/example/managed_transactions/managedtransactions/model/TransactionDefinitionOfPinLaw", name := "pick", desc := "(I)Lcom/example/managed_transactions/managedtransactions/model/Propagation;" } : Jvm.MethodName) method_3_code (1 : Nat) (Option.some (Jvm.ClassFile.FieldType.object "com/example/managed_transactions/managedtransactions/model/Propagation")), Jvm.Cond.code ({ cls := "com/example/managed_transactions/managedtransactions/model/TransactionDefinition", name := "of", desc := "(Lcom/example/managed_transactions/managedtransactions/model/Propagation;)Lcom/example/managed_transactions/managedtransactions/model/TransactionDefinition;" } : Jvm.MethodName) prog_13_method_2_code (2 : Nat) (Option.some (Jvm.ClassFile.FieldType.object "com/example/managed_transactions/managedtransactions/model/TransactionDefinition")), Jvm.Cond.code ({ cls := "com/example/managed_transactions/managedtransactions/model/TransactionDefinition$Settings", name := "<init>", desc := "()V" } : Jvm.MethodName) prog_14_method_1_code (1 : Nat) (Option.none : Option Jvm.ClassFile.FieldType), Jvm.Cond.code ({ cls := "java/lang/Object", name := "<init>", desc := "()V" } : Jvm.MethodName) object_method_1_code (1 : Nat) (Option.none : Option Jvm.ClassFile.FieldType), Jvm.Cond.code ({ cls := "java/util/OptionalInt", name := "empty", desc := "()Ljava/util/OptionalInt;" } : Jvm.MethodName) jdk_2649_method_2_code (0 : Nat) (Option.some (Jvm.ClassFile.FieldType.object "java/util/OptionalInt")), Jvm.Cond.code ({ cls := "java/util/Set", name := "of", desc := "()Ljava/util/Set;" } : Jvm.MethodName) jdk_96_method_17_code (0 : Nat) (Option.some (Jvm.ClassFile.FieldType.object "java/util/Set")), Jvm.Cond.code ({ cls := "java/util/Objects", name := "requireNonNull", desc := "(Ljava/lang/Object;Ljava/lang/String;)Ljava/lang/Object;" } : Jvm.MethodName) jdk_31_method_11_code (2 : Nat) (Option.some (Jvm.ClassFile.FieldType.object "java/lang/Object")), Jvm.Cond.code ({ cls := "com/example/managed_transactions/managedtransactions/model/TransactionDefinition", name := "<init>", desc := "(Lcom/example/managed_transactions/managedtransactions/model/TransactionDefinition$Settings;)V" } : Jvm.MethodName) prog_13_method_1_code (2 : Nat) (Option.none : Option Jvm.ClassFile.FieldType), Jvm.Cond.code ({ cls := "com/example/managed_transactions/managedtransactions/model/TransactionDefinition", name := "propagation", desc := "()Lcom/example/managed_transactions/managedtransactions/model/Propagation;" } : Jvm.MethodName) prog_13_method_11_code (1 : Nat) (Option.some (Jvm.ClassFile.FieldType.object "com/example/managed_transactions/managedtransactions/model/Propagation")), Jvm.Cond.code ({ cls := "com/example/managed_transactions/managedtransactions/model/TransactionDefinition", name := "isolation", desc := "()Lcom/example/managed_transactions/managedtransactions/model/Isolation;" } : Jvm.MethodName) prog_13_method_12_code (1 : Nat) (Option.some (Jvm.ClassFile.FieldType.object "com/example/managed_transactions/managedtransactions/model/Isolation")), Jvm.Cond.code ({ cls := "com/example/managed_transactions/managedtransactions/model/TransactionDefinition", name := "isReadOnly", desc := "()Z" } : Jvm.MethodName) prog_13_method_13_code (1 : Nat) (Option.some Jvm.ClassFile.FieldType.boolean)]
set_option maxRecDepth 65536 in
theorem codes_eq : words1.filter isCode = codes1 := rfl
theorem w_codes : ∀ c ∈ words1.filter isCode, c.before args0 about1 = true := by
  rw [codes_eq]
  intro c hc
  simp only [codes1, List.mem_cons, List.not_mem_nil, or_false] at hc
  rcases hc with rfl | rfl | rfl | rfl | rfl | rfl | rfl | rfl | rfl | rfl | rfl | rfl
  · exact w_c0
  · exact w_c1
  · exact w_c2
  · exact w_c3
  · exact w_c4
  · exact w_c5
  · exact w_c6
  · exact w_c7
  · exact w_c8
  · exact w_c9
  · exact w_c10
  · exact w_c11
set_option maxRecDepth 65536 in
theorem w_t1 : (words1.take 24).all (fun c => isCode c || c.before args0 about1) = true := by decide +kernel
set_option maxRecDepth 65536 in
theorem w_t2 : ((words1.drop 24).take 24).all (fun c => isCode c || c.before args0 about1) = true := by decide +kernel
set_option maxRecDepth 65536 in
theorem w_t3 : (((words1.drop 24).drop 24).take 24).all (fun c => isCode c || c.before args0 about1) = true := by decide +kernel
set_option maxRecDepth 65536 in
theorem w_t4 : ((((words1.drop 24).drop 24).drop 24).take 24).all (fun c => isCode c || c.before args0 about1) = true := by decide +kernel
set_option maxRecDepth 65536 in
theorem w_t5 : ((((words1.drop 24).drop 24).drop 24).drop 24).all (fun c => isCode c || c.before args0 about1) = true := by decide +kernel
theorem w_tables : (allAtoms (Jvm.Cond.code x code maxLocals ret :: tables_1)).before args0 about1 = true := by
  rw [allAtoms_all]
  show words1.all (fun c => c.before args0 about1) = true
  refine all_split ?_ w_codes
  rw [← List.take_append_drop 24 words1, List.all_append, w_t1, ← List.take_append_drop 24 (words1.drop 24), List.all_append, w_t2, ← List.take_append_drop 24 ((words1.drop 24).drop 24), List.all_append, w_t3, ← List.take_append_drop 24 (((words1.drop 24).drop 24).drop 24), List.all_append, w_t4, w_t5]
  rfl
set_option maxRecDepth 65536 in
theorem w_rest : rest_1_c.before args0 about1 = true := by decide +kernel
set_option maxRecDepth 65536 in
theorem w_case : (Jvm.Cond.and given_1 narrow_1).before args0 about1 = true := by decide +kernel
theorem w_applies : (headSpec (Jvm.Cond.code x code maxLocals ret :: tables_1) room_1).applies x e0.platform about1 = true :=
  (Spec.applies_iff w_frames).mpr ⟨w_running, w_runnable, w_alone, w_named, w_hears, w_ripe, w_room, w_tables⟩
theorem atStart : AtStart classFile x code maxLocals ret World_1 tables_1 room_1 Calls_1 rest_1 Pre_1 launch0 p0 e0 about1 theMethod args0 below0 :=
  ⟨lists_1, trivial, launch0.admits_env _ _ _, launch0.least_env, fairChoices_fair.cas, fairChoices_fair.clock, w_frames, w_args, w_heap, w_applies, trivial, w_rest, w_case⟩
end start1
theorem witness_1 : WitnessClaimed_1 := ⟨start1.p0, start1.e0, start1.about1, start1.theMethod, start1.args0, start1.below0, start1.atStart⟩
end Jvm.Pilot.@@N@@
