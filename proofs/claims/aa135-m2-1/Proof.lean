import JvmDerived
import JvmDerived.Pilot.@@N@@Statement
import JvmDerived.Pilot.@@N@@Code
set_option linter.unusedVariables false
set_option linter.unusedSimpArgs false
@@BLOCK:NumsL.lean.txt@@
namespace Jvm.Pilot.@@N@@
open Jvm Jvm.ClassFile Sem Op Lib Jvm.Free Jvm.Stand Jvm.LawKit Jvm.RoadKit Bundle Jvm.Pilot.@@N@@.Jvm.D
section Own
variable {p : Program} {l : Launch} {e : Env} {R : Room} {s : State} {m : MethodId} {args : Array Value} {below : List Frame} {meth : Method} {c : Code} {T : State} {locs : List Loc} {cells slots : Nat}
/-- from S the run ends, and it ends as Q says -/
def own_Go (p : Program) (e : Env) (below : List Frame) (Q : Outcome → State → Prop) (S : State) : Prop := ∃ s₂ o, Steps p.tables e below S s₂ ∧ s₂.status = .running ∧ Ended s₂ below o ∧ Q o s₂
theorem own_go {Q : Outcome → State → Prop} {S S' : State} (h : ∀ t, Steps p.tables e below S' t → Steps p.tables e below S t) (k : own_Go p e below Q S') : own_Go p e below Q S := by
  obtain ⟨s₂, o, h1, h2⟩ := k
  exact ⟨s₂, o, h _ h1, h2⟩
theorem own_ret {Q : Option Value → Heap → List Loc → Prop} {C S : Nat} (X : Stand p l e R s m args below meth c T locs cells slots) {v : Option Value} (hv : meth.sig.returnType = none → v = none) (hlk : meth.locks = false) {S0 : State}
    (hst : ∀ fs, (∀ (f : JFrame) (acts : List Action), f.method = m → f.locked = none → f.entered = [] → (doReturn e (T.setTop f) acts v).1 = T.setFrames fs) → Steps p.tables e below S0 (T.setFrames fs))
    (hQ : Q v T.heap locs) (hC : cells ≤ C) (hS : slots ≤ S) : own_Go p e below (fun o U' => ∃ v L, o = .returned v ∧ Q v U'.heap L ∧ FrameEnd s o U' L C S) S0 := by
  obtain ⟨fs, hr, hrun, hended, hW, hsame⟩ := X.leave (v := v) hv hlk
  exact ⟨_, _, hst fs hr, hrun, hended, _, _, rfl, hQ, ⟨_, rfl⟩, hW, hsame.mono hC hS⟩
theorem own_retN {Q : Option Value → Heap → List Loc → Prop} {C S : Nat} (X : Stand p l e R s m args below meth c T locs cells slots) (hx : p.tables.exec = Jvm.exec) {pc : Nat} {Ls : Array Slot} {z : Int32} {t : FieldType} {rest : List Value} (hret : meth.sig.returnType = some t) (ht : t = .boolean ∨ t = .byte ∨ t = .char ∨ t = .short)
    (hd : decode c.code pc = .ok (.ireturn, 1)) (hQ : Q (some (.int (nar t z))) T.heap locs) (hC : cells ≤ C) (hS : slots ≤ S) (hlk : meth.locks = false := by assumption) :
    own_Go p e below (fun o U' => ∃ v L, o = .returned v ∧ Q v U'.heap L ∧ FrameEnd s o U' L C S) (T.setTop (mkF m pc Ls (.int z :: rest))) :=
  own_ret X (fun h => by rw [hret] at h; cases h) hlk (fun fs hr => retN X hx hret ht hd hr) hQ hC hS
theorem own_retI {Q : Option Value → Heap → List Loc → Prop} {C S : Nat} (X : Stand p l e R s m args below meth c T locs cells slots) (hx : p.tables.exec = Jvm.exec) {pc : Nat} {Ls : Array Slot} {z : Int32} {rest : List Value} (hret : meth.sig.returnType = some .int)
    (hd : decode c.code pc = .ok (.ireturn, 1)) (hQ : Q (some (.int z)) T.heap locs) (hC : cells ≤ C) (hS : slots ≤ S) (hlk : meth.locks = false := by assumption) :
    own_Go p e below (fun o U' => ∃ v L, o = .returned v ∧ Q v U'.heap L ∧ FrameEnd s o U' L C S) (T.setTop (mkF m pc Ls (.int z :: rest))) :=
  own_ret X (fun h => by rw [hret] at h; cases h) hlk (fun fs hr => retOut X hx hret rfl (Or.inl ⟨rfl, Or.inl rfl, z, rfl⟩) hd hr) hQ hC hS
theorem own_retL {Q : Option Value → Heap → List Loc → Prop} {C S : Nat} (X : Stand p l e R s m args below meth c T locs cells slots) (hx : p.tables.exec = Jvm.exec) {pc : Nat} {Ls : Array Slot} {z : Int64} {rest : List Value} (hret : meth.sig.returnType = some .long)
    (hd : decode c.code pc = .ok (.lreturn, 1)) (hQ : Q (some (.long z)) T.heap locs) (hC : cells ≤ C) (hS : slots ≤ S) (hlk : meth.locks = false := by assumption) :
    own_Go p e below (fun o U' => ∃ v L, o = .returned v ∧ Q v U'.heap L ∧ FrameEnd s o U' L C S) (T.setTop (mkF m pc Ls (.long z :: rest))) :=
  own_ret X (fun h => by rw [hret] at h; cases h) hlk (fun fs hr => retOut X hx hret rfl (Or.inr (Or.inl ⟨rfl, rfl, z, rfl⟩)) hd hr) hQ hC hS
theorem own_retA {Q : Option Value → Heap → List Loc → Prop} {C S : Nat} (X : Stand p l e R s m args below meth c T locs cells slots) (hx : p.tables.exec = Jvm.exec) {pc : Nat} {Ls : Array Slot} {w : Value} {t : FieldType} {rest : List Value} (hret : meth.sig.returnType = some t) (ht : t.isReference = true) (hw : w.isRef = true)
    (hd : decode c.code pc = .ok (.areturn, 1)) (hQ : Q (some w) T.heap locs) (hC : cells ≤ C) (hS : slots ≤ S) (hlk : meth.locks = false := by assumption) :
    own_Go p e below (fun o U' => ∃ v L, o = .returned v ∧ Q v U'.heap L ∧ FrameEnd s o U' L C S) (T.setTop (mkF m pc Ls (w :: rest))) :=
  own_ret X (fun h => by rw [hret] at h; cases h) hlk (fun fs hr => retOut X hx hret (by cases t <;> first | (cases ht; done) | rfl) (Or.inr (Or.inr (Or.inr (Or.inr ⟨rfl, ht, hw⟩)))) hd hr) hQ hC hS
theorem own_ret0 {Q : Option Value → Heap → List Loc → Prop} {C S : Nat} (X : Stand p l e R s m args below meth c T locs cells slots) (hx : p.tables.exec = Jvm.exec) {pc : Nat} {Ls : Array Slot} (hret : meth.sig.returnType = none)
    (hd : decode c.code pc = .ok (.return_, 1)) (hQ : Q none T.heap locs) (hC : cells ≤ C) (hS : slots ≤ S) (hlk : meth.locks = false := by assumption) :
    own_Go p e below (fun o U' => ∃ v L, o = .returned v ∧ Q v U'.heap L ∧ FrameEnd s o U' L C S) (T.setTop (mkF m pc Ls [])) :=
  own_ret X (fun _ => rfl) hlk (fun fs hr => X.returnOut hx hret hd hr) hQ hC hS
theorem own_retW {Q : Option Value → Heap → List Loc → Prop} {C S : Nat} {vm₁ : Vm} {n : Nat} (X : Stand p l e R (s.setVm vm₁) m args below meth c T locs cells slots) {v : Option Value} (hv : meth.sig.returnType = none → v = none) (hlk : meth.locks = false) {S0 : State}
    (hst : ∀ fs, (∀ (f : JFrame) (acts : List Action), f.method = m → f.locked = none → f.entered = [] → (doReturn e (T.setTop f) acts v).1 = T.setFrames fs) → Steps p.tables e below S0 (T.setFrames fs))
    (hS₁ : s.Since vm₁ n) (hn₁ : n ≤ T.heap.size) (hQ : Q v T.heap locs) (hC : cells ≤ C) (hS : slots ≤ S) : own_Go p e below (fun o U' => ∃ v L, o = .returned v ∧ Q v U'.heap L ∧ ReturnedEndW s o U' L C S) S0 := by
  obtain ⟨fs, hr, hrun, hended, q1, q2, q3, q4⟩ := X.leaveW hS₁ hn₁ (v := v) hv hlk
  exact ⟨_, _, hst fs hr, hrun, hended, _, _, rfl, hQ, q1, q2, q3, q4.mono hC hS⟩
theorem own_retNW {Q : Option Value → Heap → List Loc → Prop} {C S : Nat} {vm₁ : Vm} {n : Nat} (X : Stand p l e R (s.setVm vm₁) m args below meth c T locs cells slots) (hx : p.tables.exec = Jvm.exec) {pc : Nat} {Ls : Array Slot} {z : Int32} {t : FieldType} {rest : List Value} (hret : meth.sig.returnType = some t) (ht : t = .boolean ∨ t = .byte ∨ t = .char ∨ t = .short)
    (hd : decode c.code pc = .ok (.ireturn, 1)) (hS₁ : s.Since vm₁ n) (hn₁ : n ≤ T.heap.size) (hQ : Q (some (.int (nar t z))) T.heap locs) (hC : cells ≤ C) (hS : slots ≤ S) (hlk : meth.locks = false := by assumption) :
    own_Go p e below (fun o U' => ∃ v L, o = .returned v ∧ Q v U'.heap L ∧ ReturnedEndW s o U' L C S) (T.setTop (mkF m pc Ls (.int z :: rest))) :=
  own_retW X (fun h => by rw [hret] at h; cases h) hlk (fun fs hr => retN X hx hret ht hd hr) hS₁ hn₁ hQ hC hS
theorem own_retIW {Q : Option Value → Heap → List Loc → Prop} {C S : Nat} {vm₁ : Vm} {n : Nat} (X : Stand p l e R (s.setVm vm₁) m args below meth c T locs cells slots) (hx : p.tables.exec = Jvm.exec) {pc : Nat} {Ls : Array Slot} {z : Int32} {rest : List Value} (hret : meth.sig.returnType = some .int)
    (hd : decode c.code pc = .ok (.ireturn, 1)) (hS₁ : s.Since vm₁ n) (hn₁ : n ≤ T.heap.size) (hQ : Q (some (.int z)) T.heap locs) (hC : cells ≤ C) (hS : slots ≤ S) (hlk : meth.locks = false := by assumption) :
    own_Go p e below (fun o U' => ∃ v L, o = .returned v ∧ Q v U'.heap L ∧ ReturnedEndW s o U' L C S) (T.setTop (mkF m pc Ls (.int z :: rest))) :=
  own_retW X (fun h => by rw [hret] at h; cases h) hlk (fun fs hr => retOut X hx hret rfl (Or.inl ⟨rfl, Or.inl rfl, z, rfl⟩) hd hr) hS₁ hn₁ hQ hC hS
theorem own_retLW {Q : Option Value → Heap → List Loc → Prop} {C S : Nat} {vm₁ : Vm} {n : Nat} (X : Stand p l e R (s.setVm vm₁) m args below meth c T locs cells slots) (hx : p.tables.exec = Jvm.exec) {pc : Nat} {Ls : Array Slot} {z : Int64} {rest : List Value} (hret : meth.sig.returnType = some .long)
    (hd : decode c.code pc = .ok (.lreturn, 1)) (hS₁ : s.Since vm₁ n) (hn₁ : n ≤ T.heap.size) (hQ : Q (some (.long z)) T.heap locs) (hC : cells ≤ C) (hS : slots ≤ S) (hlk : meth.locks = false := by assumption) :
    own_Go p e below (fun o U' => ∃ v L, o = .returned v ∧ Q v U'.heap L ∧ ReturnedEndW s o U' L C S) (T.setTop (mkF m pc Ls (.long z :: rest))) :=
  own_retW X (fun h => by rw [hret] at h; cases h) hlk (fun fs hr => retOut X hx hret rfl (Or.inr (Or.inl ⟨rfl, rfl, z, rfl⟩)) hd hr) hS₁ hn₁ hQ hC hS
theorem own_retAW {Q : Option Value → Heap → List Loc → Prop} {C S : Nat} {vm₁ : Vm} {n : Nat} (X : Stand p l e R (s.setVm vm₁) m args below meth c T locs cells slots) (hx : p.tables.exec = Jvm.exec) {pc : Nat} {Ls : Array Slot} {w : Value} {t : FieldType} {rest : List Value} (hret : meth.sig.returnType = some t) (ht : t.isReference = true) (hw : w.isRef = true)
    (hd : decode c.code pc = .ok (.areturn, 1)) (hS₁ : s.Since vm₁ n) (hn₁ : n ≤ T.heap.size) (hQ : Q (some w) T.heap locs) (hC : cells ≤ C) (hS : slots ≤ S) (hlk : meth.locks = false := by assumption) :
    own_Go p e below (fun o U' => ∃ v L, o = .returned v ∧ Q v U'.heap L ∧ ReturnedEndW s o U' L C S) (T.setTop (mkF m pc Ls (w :: rest))) :=
  own_retW X (fun h => by rw [hret] at h; cases h) hlk (fun fs hr => retOut X hx hret (by cases t <;> first | (cases ht; done) | rfl) (Or.inr (Or.inr (Or.inr (Or.inr ⟨rfl, ht, hw⟩)))) hd hr) hS₁ hn₁ hQ hC hS
theorem own_ret0W {Q : Option Value → Heap → List Loc → Prop} {C S : Nat} {vm₁ : Vm} {n : Nat} (X : Stand p l e R (s.setVm vm₁) m args below meth c T locs cells slots) (hx : p.tables.exec = Jvm.exec) {pc : Nat} {Ls : Array Slot} (hret : meth.sig.returnType = none)
    (hd : decode c.code pc = .ok (.return_, 1)) (hS₁ : s.Since vm₁ n) (hn₁ : n ≤ T.heap.size) (hQ : Q none T.heap locs) (hC : cells ≤ C) (hS : slots ≤ S) (hlk : meth.locks = false := by assumption) :
    own_Go p e below (fun o U' => ∃ v L, o = .returned v ∧ Q v U'.heap L ∧ ReturnedEndW s o U' L C S) (T.setTop (mkF m pc Ls [])) :=
  own_retW X (fun _ => rfl) hlk (fun fs hr => X.returnOut hx hret hd hr) hS₁ hn₁ hQ hC hS
theorem own_retH {Q : Option Value → Heap → List Loc → Prop} {C S : Nat} {vm₁ : Vm} {n : Nat} {Z : State} {EL : List (String × Nat)} (X : Stand p l e R (s.setVm vm₁) m args below meth c T locs cells slots) {v : Option Value} (hv : meth.sig.returnType = none → v = none) (hlk : meth.locks = false) {S0 : State}
    (hst : ∀ fs, (∀ (f : JFrame) (acts : List Action), f.method = m → f.locked = none → f.entered = [] → (doReturn e (T.setTop f) acts v).1 = T.setFrames fs) → Steps p.tables e below S0 (T.setFrames fs))
    (hS₁ : s.Since vm₁ n) (hn₁ : n ≤ T.heap.size) (hQ : Q v T.heap locs) (hF : CHr Z EL s.vm s.heap T.vm T.heap) (hC : cells ≤ C) (hS : slots ≤ S) : own_Go p e below (fun o U' => ∃ v L, o = .returned v ∧ Q v U'.heap L ∧ CHr Z EL s.vm s.heap U'.vm U'.heap ∧ ReturnedEndW s o U' L C S) S0 := by
  obtain ⟨fs, hr, hrun, hended, q1, q2, q3, q4⟩ := X.leaveW hS₁ hn₁ (v := v) hv hlk
  exact ⟨_, _, hst fs hr, hrun, hended, _, _, rfl, hQ, hF, q1, q2, q3, q4.mono hC hS⟩
theorem own_retNH {Q : Option Value → Heap → List Loc → Prop} {C S : Nat} {vm₁ : Vm} {n : Nat} {Z : State} {EL : List (String × Nat)} (X : Stand p l e R (s.setVm vm₁) m args below meth c T locs cells slots) (hx : p.tables.exec = Jvm.exec) {pc : Nat} {Ls : Array Slot} {z : Int32} {t : FieldType} {rest : List Value} (hret : meth.sig.returnType = some t) (ht : t = .boolean ∨ t = .byte ∨ t = .char ∨ t = .short)
    (hd : decode c.code pc = .ok (.ireturn, 1)) (hS₁ : s.Since vm₁ n) (hn₁ : n ≤ T.heap.size) (hQ : Q (some (.int (nar t z))) T.heap locs) (hF : CHr Z EL s.vm s.heap T.vm T.heap) (hC : cells ≤ C) (hS : slots ≤ S) (hlk : meth.locks = false := by assumption) :
    own_Go p e below (fun o U' => ∃ v L, o = .returned v ∧ Q v U'.heap L ∧ CHr Z EL s.vm s.heap U'.vm U'.heap ∧ ReturnedEndW s o U' L C S) (T.setTop (mkF m pc Ls (.int z :: rest))) :=
  own_retH X (fun h => by rw [hret] at h; cases h) hlk (fun fs hr => retN X hx hret ht hd hr) hS₁ hn₁ hQ hF hC hS
theorem own_retIH {Q : Option Value → Heap → List Loc → Prop} {C S : Nat} {vm₁ : Vm} {n : Nat} {Z : State} {EL : List (String × Nat)} (X : Stand p l e R (s.setVm vm₁) m args below meth c T locs cells slots) (hx : p.tables.exec = Jvm.exec) {pc : Nat} {Ls : Array Slot} {z : Int32} {rest : List Value} (hret : meth.sig.returnType = some .int)
    (hd : decode c.code pc = .ok (.ireturn, 1)) (hS₁ : s.Since vm₁ n) (hn₁ : n ≤ T.heap.size) (hQ : Q (some (.int z)) T.heap locs) (hF : CHr Z EL s.vm s.heap T.vm T.heap) (hC : cells ≤ C) (hS : slots ≤ S) (hlk : meth.locks = false := by assumption) :
    own_Go p e below (fun o U' => ∃ v L, o = .returned v ∧ Q v U'.heap L ∧ CHr Z EL s.vm s.heap U'.vm U'.heap ∧ ReturnedEndW s o U' L C S) (T.setTop (mkF m pc Ls (.int z :: rest))) :=
  own_retH X (fun h => by rw [hret] at h; cases h) hlk (fun fs hr => retOut X hx hret rfl (Or.inl ⟨rfl, Or.inl rfl, z, rfl⟩) hd hr) hS₁ hn₁ hQ hF hC hS
theorem own_retLH {Q : Option Value → Heap → List Loc → Prop} {C S : Nat} {vm₁ : Vm} {n : Nat} {Z : State} {EL : List (String × Nat)} (X : Stand p l e R (s.setVm vm₁) m args below meth c T locs cells slots) (hx : p.tables.exec = Jvm.exec) {pc : Nat} {Ls : Array Slot} {z : Int64} {rest : List Value} (hret : meth.sig.returnType = some .long)
    (hd : decode c.code pc = .ok (.lreturn, 1)) (hS₁ : s.Since vm₁ n) (hn₁ : n ≤ T.heap.size) (hQ : Q (some (.long z)) T.heap locs) (hF : CHr Z EL s.vm s.heap T.vm T.heap) (hC : cells ≤ C) (hS : slots ≤ S) (hlk : meth.locks = false := by assumption) :
    own_Go p e below (fun o U' => ∃ v L, o = .returned v ∧ Q v U'.heap L ∧ CHr Z EL s.vm s.heap U'.vm U'.heap ∧ ReturnedEndW s o U' L C S) (T.setTop (mkF m pc Ls (.long z :: rest))) :=
  own_retH X (fun h => by rw [hret] at h; cases h) hlk (fun fs hr => retOut X hx hret rfl (Or.inr (Or.inl ⟨rfl, rfl, z, rfl⟩)) hd hr) hS₁ hn₁ hQ hF hC hS
theorem own_retAH {Q : Option Value → Heap → List Loc → Prop} {C S : Nat} {vm₁ : Vm} {n : Nat} {Z : State} {EL : List (String × Nat)} (X : Stand p l e R (s.setVm vm₁) m args below meth c T locs cells slots) (hx : p.tables.exec = Jvm.exec) {pc : Nat} {Ls : Array Slot} {w : Value} {t : FieldType} {rest : List Value} (hret : meth.sig.returnType = some t) (ht : t.isReference = true) (hw : w.isRef = true)
    (hd : decode c.code pc = .ok (.areturn, 1)) (hS₁ : s.Since vm₁ n) (hn₁ : n ≤ T.heap.size) (hQ : Q (some w) T.heap locs) (hF : CHr Z EL s.vm s.heap T.vm T.heap) (hC : cells ≤ C) (hS : slots ≤ S) (hlk : meth.locks = false := by assumption) :
    own_Go p e below (fun o U' => ∃ v L, o = .returned v ∧ Q v U'.heap L ∧ CHr Z EL s.vm s.heap U'.vm U'.heap ∧ ReturnedEndW s o U' L C S) (T.setTop (mkF m pc Ls (w :: rest))) :=
  own_retH X (fun h => by rw [hret] at h; cases h) hlk (fun fs hr => retOut X hx hret (by cases t <;> first | (cases ht; done) | rfl) (Or.inr (Or.inr (Or.inr (Or.inr ⟨rfl, ht, hw⟩)))) hd hr) hS₁ hn₁ hQ hF hC hS
theorem own_ret0H {Q : Option Value → Heap → List Loc → Prop} {C S : Nat} {vm₁ : Vm} {n : Nat} {Z : State} {EL : List (String × Nat)} (X : Stand p l e R (s.setVm vm₁) m args below meth c T locs cells slots) (hx : p.tables.exec = Jvm.exec) {pc : Nat} {Ls : Array Slot} (hret : meth.sig.returnType = none)
    (hd : decode c.code pc = .ok (.return_, 1)) (hS₁ : s.Since vm₁ n) (hn₁ : n ≤ T.heap.size) (hQ : Q none T.heap locs) (hF : CHr Z EL s.vm s.heap T.vm T.heap) (hC : cells ≤ C) (hS : slots ≤ S) (hlk : meth.locks = false := by assumption) :
    own_Go p e below (fun o U' => ∃ v L, o = .returned v ∧ Q v U'.heap L ∧ CHr Z EL s.vm s.heap U'.vm U'.heap ∧ ReturnedEndW s o U' L C S) (T.setTop (mkF m pc Ls [])) :=
  own_retH X (fun _ => rfl) hlk (fun fs hr => X.returnOut hx hret hd hr) hS₁ hn₁ hQ hF hC hS
abbrev own_M (l : Launch) (Z : State) (h0 : Heap) (y : MethodName) (bytes : ByteArray) (maxL : Nat) (ret : Option FieldType) (ws : List Jvm.Cond) (rm : Room) (as' : Array Value) (Q : Option Value → Heap → List Loc → Prop) : Prop :=
  MetFree l y (head1 (Jvm.Cond.code y bytes maxL ret :: ws) rm) (fun a U => a = as' ∧ Z.Warmed39 U.vm ∧ U.heap = h0) (fun _ _ _ _ _ => True) (fun _ U o U' => ∃ v L, o = .returned v ∧ Q v U'.heap L ∧ FrameEnd U o U' L rm.cells rm.slots)
theorem own_body {Z : State} {y : MethodName} {bytes : ByteArray} {maxL : Nat} {ret : Option FieldType} {ws : List Jvm.Cond} {rm : Room} {as' : Array Value} {h0 : Heap} {Q : Option Value → Heap → List Loc → Prop} {Ls : Array Slot} (hpl : plainFor y = true) (ef : ∀ m, entryFrame m as' maxL = mkF m 0 Ls [])
    (k : ∀ (p : Program) (e : Env) (s : State) (m : MethodId) (below : List Frame) (meth : Method) (c : Code) (s₁ : State), Z.Warmed39 s.vm → s.heap = h0 → p.tables.exec = Jvm.exec → c.code = bytes → c.maxLocals = maxL → s.vm.findClass y.cls = some m.cls → meth.name = y.name → meth.locks = false → meth.sig.returnType = ret → Stand p l e rm s m as' below meth c s₁ [] 0 0 → s₁.heap = h0 →
      own_Go p e below (fun o U' => ∃ v L, o = .returned v ∧ Q v U'.heap L ∧ FrameEnd s o U' L rm.cells rm.slots) (s₁.setTop (mkF m 0 Ls []))) : own_M l Z h0 y bytes maxL ret ws rm as' Q := by
  refine MetFree.of_bodySF hpl hisR ?_
  intro p e s m args below meth c s₁ Bd hml0 hP hK
  obtain ⟨rfl, hZ, hh⟩ := hP
  exact own_go (fun t q => castTop (ef m) q) (k p e s m below meth c s₁ hZ hh Bd.exec Bd.bytes hml0 (findClass_of_methodNamed Bd.named) (name_of_methodNamed Bd.named Bd.method).1 Bd.notSynchronized Bd.returns (Stand.of_body Bd) (by rw [← hh, Bd.state]; rfl))
abbrev own_MH (EL : List (String × Nat)) (l : Launch) (Z : State) (h0 : Heap) (y : MethodName) (bytes : ByteArray) (maxL : Nat) (ret : Option FieldType) (ws : List Jvm.Cond) (rm : Room) (as' : Array Value) (sf : List Addr) (Q : Option Value → Heap → List Loc → Prop) : Prop :=
  MetFree l y (head1 (Jvm.Cond.code y bytes maxL ret :: ws) rm) (fun a U => a = as' ∧ Z.Warmed39 U.vm ∧ U.heap = h0 ∧ CHv Z EL U.vm h0 ∧ ∀ x ∈ sf, Safe Z EL U.vm h0 x) (fun _ _ _ _ _ => True) (fun _ U o U' => ∃ v L, o = .returned v ∧ Q v U'.heap L ∧ CHr Z EL U.vm U.heap U'.vm U'.heap ∧ ReturnedEndW U o U' L rm.cells rm.slots)
theorem own_bodyH {EL : List (String × Nat)} {Z : State} {y : MethodName} {bytes : ByteArray} {maxL : Nat} {ret : Option FieldType} {ws : List Jvm.Cond} {rm : Room} {as' : Array Value} {sf : List Addr} {h0 : Heap} {Q : Option Value → Heap → List Loc → Prop} {Ls : Array Slot} (hpl : plainFor y = true) (ef : ∀ m, entryFrame m as' maxL = mkF m 0 Ls [])
    (k : ∀ (p : Program) (e : Env) (s : State) (m : MethodId) (below : List Frame) (meth : Method) (c : Code) (s₁ : State), Z.Warmed39 s.vm → s.heap = h0 → CHv Z EL s.vm h0 → (∀ x ∈ sf, Safe Z EL s.vm h0 x) → p.tables.exec = Jvm.exec → c.code = bytes → c.maxLocals = maxL → s.vm.findClass y.cls = some m.cls → meth.name = y.name → meth.locks = false → meth.sig.returnType = ret → Stand p l e rm (s.setVm s.vm) m as' below meth c s₁ [] 0 0 → s₁.heap = h0 →
      own_Go p e below (fun o U' => ∃ v L, o = .returned v ∧ Q v U'.heap L ∧ CHr Z EL s.vm s.heap U'.vm U'.heap ∧ ReturnedEndW s o U' L rm.cells rm.slots) (s₁.setTop (mkF m 0 Ls []))) : own_MH EL l Z h0 y bytes maxL ret ws rm as' sf Q := by
  refine MetFree.of_bodySF hpl hisR ?_
  intro p e s m args below meth c s₁ Bd hml0 hP hK
  obtain ⟨rfl, hZ, hh, hC, hsf⟩ := hP
  exact own_go (fun t q => castTop (ef m) q) (k p e s m below meth c s₁ hZ hh hC hsf Bd.exec Bd.bytes hml0 (findClass_of_methodNamed Bd.named) (name_of_methodNamed Bd.named Bd.method).1 Bd.notSynchronized Bd.returns (Stand.of_body Bd) (by rw [← hh, Bd.state]; rfl))
theorem own_cat1 {v : Value} (h : v.isRef = true) : v.category = 1 := by cases v <;> simp_all [Value.isRef, Value.category]
theorem own_catR {x : Addr} : (Value.ref x).category = 1 := rfl
theorem own_catI {x : Int32} : (Value.int x).category = 1 := rfl
theorem own_catJ {x : Int64} : (Value.long x).category = 2 := rfl
theorem own_catN : Value.null.category = 1 := rfl
theorem own_st1 {L L' : Array Slot} {i : Nat} {v : Value} {o : Slot} (hold : L[i]? = some o) (ho : o = .unset ∨ ∃ w, o = .val w ∧ w.category = 1) (hv : v.category = 1) (q : L.setIfInBounds i (.val v) = L' := by rfl) : storeLocals L i v = some L' := q ▸ XS.store1 hold ho hv
theorem own_fits {v : Value} {t : FieldType} (h : v.isRef = true) (ht : t.isReference = true) : fits t v = true := by cases t <;> first | (cases ht; done) | (cases v <;> simp_all [Value.isRef, fits])
theorem own_frm {k k' : Nat} {L : List Loc} (N : Fr k L) (h : k' ≤ k) : Fr k' L := fun y hy => Nat.le_trans h (N y hy)
theorem own_lsw {g : JFrame} {target : State} (X : Stand p l e R s m args below meth c T locs cells slots) (hx : p.tables.exec = Jvm.exec) (hg : g.method = m) {df : Int} {prs : Array (Int × Int)} {len : Nat} {x : Int32} {rest : List Value} {o : Int} {pc0 pc' : Nat} (hpc : g.pc = pc0)
    (hd : decode c.code g.pc = .ok (.lookupswitch df prs, len)) (hs : g.stack = .int x :: rest) (hsrt : (prs.toList.zip (prs.toList.drop 1)).all (fun (a, next) => a.1 < next.1) = true) (hf : lookupswitch.offset prs.toList df x.toInt = o) (ho : 0 ≤ (pc0 : Int) + o) (hp : ((pc0 : Int) + o).toNat = pc')
    (hr : Steps p.tables e below (T.setTop { g with pc := pc', stack := rest }) target) : Steps p.tables e below (T.setTop g) target := by
  subst hg hpc hp
  jvm_step X.here [X.here.top, hx, hd, hs, lookupswitch.wp_chain, hf, ho]
  first | exact hr | exact ⟨by simpa using hsrt, hr⟩
theorem own_backH {Z : State} {a0 : Array Value} {EL : List (String × Nat)} {h : Heap} {vm0 : Vm} {y : MethodName} {bytes : ByteArray} {maxL : Nat} {ret : Option FieldType} {rm : Room} {len W : Nat} {as' : Array Value} {sf : List Addr} {Q : Option Value → Heap → List Loc → Prop}
    (hM : MetFree l y (head1 [Cond.code y bytes maxL ret] rm) (fun a U => a = as' ∧ Z.Warmed39 U.vm ∧ U.heap = h ∧ CHv Z EL U.vm h ∧ ∀ x ∈ sf, Safe Z EL U.vm h x) (fun _ _ _ _ _ => True) (fun _ U o U' => ∃ v L, o = .returned v ∧ Q v U'.heap L ∧ CHr Z EL U.vm U.heap U'.vm U'.heap ∧ ReturnedEndW U o U' L rm.cells rm.slots))
    (hZ : Z.Warmed39 vm0) (wc : (Cond.code y bytes maxL ret).before a0 Z = true) (wz : (Cond.initialized y.cls).before a0 Z = true) (hf : rm.frames + 1 ≤ R.frames) (hl : W + (maxL + 11) + rm.locals ≤ R.locals) (hEL : EW Z a0 EL) (H : CHv Z EL vm0 h) (hsf : ∀ x ∈ sf, x < h.size ∧ Safe Z EL vm0 h x) :
    BackS l R p e below (s.setVm vm0) args y len W (fun A a => a = as' ∧ A.U.heap = h ∧ A.cells + rm.cells ≤ R.cells ∧ A.slots + rm.slots ≤ R.slots)
      (fun A _ v B => ∃ L, Q v B.U.heap L ∧ B.locs = A.locs ++ L ∧ B.cells = A.cells + rm.cells ∧ B.slots = A.slots + rm.slots ∧ CHr Z EL vm0 h B.U.vm B.U.heap) := by
  refine BackS.of_freeW (bytes := bytes) (maxL := maxL) (ret := ret) (E := fun _ first o t L k n => (k = rm.cells ∧ n = rm.slots) ∧ CHr Z EL first.vm first.heap t.vm t.heap ∧ ∃ v, o = .returned v ∧ Q v t.heap L) hM hf hl ?_ ?_ (fun _ _ _ _ _ _ _ _ _ => trivial) ?_ ?_
  · intro m meth c A a Y hp
    have hU : Z.Warmed39 A.U.vm := wtrans (s := s.setVm vm0) hZ Y.warmed
    exact ⟨by show (Cond.and _ .tt).before a A.U = true; rw [Cond.before_and, mv hU wc]; rfl, mv hU wc, mv hU wz, hp.2.2.1, hp.2.2.2⟩
  · intro m meth c A a g mk Y hp
    have q := CHv.at Y hZ hEL H
    exact ⟨hp.1, wtrans (s := s.setVm vm0) hZ Y.warmed, hp.2.1, q.1, fun x hx => q.safe (hsf x hx).1 (hsf x hx).2⟩
  · rintro _ _ _ _ ⟨v, L, h1, h2, h3, h4⟩
    exact ⟨L, _, _, h4, ⟨rfl, rfl⟩, h3, v, h1, h2⟩
  · rintro m meth c A a g mk v t L k n Y hp _ _ ⟨⟨e1, e2⟩, e5, v', e3, e4⟩
    cases e3
    subst e1 e2
    have q := (CHv.at Y hZ hEL H).trans (vm2 := t.vm) (h2 := t.heap) (by rw [← hp.2.1]; exact e5)
    exact ⟨L, e4, rfl, rfl, rfl, q⟩
end Own
theorem own_wS {Z : State} {a0 : Array Value} (hw : ∀ d ∈ tables_1, d.before a0 Z = true) : ∀ a ∈ Bundle.stringAtoms, a.before a0 Z = true := by
  intro a ha
  simp only [Bundle.stringAtoms, Bundle.sN, List.mem_cons, List.not_mem_nil, or_false] at ha
  rcases ha with rfl | rfl | rfl | rfl | rfl | rfl | rfl
  · exact (hw _ (List.mem_of_getElem? (i := 5) rfl))
  · exact (hw _ (List.mem_of_getElem? (i := 6) rfl))
  · exact (hw _ (List.mem_of_getElem? (i := 7) rfl))
  · exact (hw _ (List.mem_of_getElem? (i := 8) rfl))
  · exact (hw _ (List.mem_of_getElem? (i := 9) rfl))
  · exact (hw _ (List.mem_of_getElem? (i := 10) rfl))
  · exact (hw _ (List.mem_of_getElem? (i := 11) rfl))
abbrev own_EL : List (String × Nat) := consts_1
theorem own_ew {Z : State} {a0 : Array Value} (hw : ∀ d ∈ tables_1, d.before a0 Z = true) : EW Z a0 own_EL := (EW.cons (hw _ (List.mem_of_getElem? (i := 4) rfl)) (by decide) (EW.cons (hw _ (List.mem_of_getElem? (i := 104) rfl)) (by decide) (EW.cons (hw _ (List.mem_of_getElem? (i := 180) rfl)) (by decide) (EW.cons (hw _ (List.mem_of_getElem? (i := 181) rfl)) (by decide) (EW.cons (hw _ (List.mem_of_getElem? (i := 179) rfl)) (by decide) EW.nil)))))
theorem dL1b_0 : decode jdk_52_method_21_code 0 = .ok (.iconst 0, 1) := by decide +kernel
theorem dL1b_1 : decode jdk_52_method_21_code 1 = .ok (.istore 5, 2) := by decide +kernel
theorem dL1b_3 : decode jdk_52_method_21_code 3 = .ok (.iload 5, 2) := by decide +kernel
theorem dL1b_5 : decode jdk_52_method_21_code 5 = .ok (.iload 4, 2) := by decide +kernel
theorem dL1b_7 : decode jdk_52_method_21_code 7 = .ok (.if_icmp .ge 37, 3) := by decide +kernel
theorem dL1b_10 : decode jdk_52_method_21_code 10 = .ok (.aload_n 0, 1) := by decide +kernel
theorem dL1b_11 : decode jdk_52_method_21_code 11 = .ok (.iload_n 1, 1) := by decide +kernel
theorem dL1b_12 : decode jdk_52_method_21_code 12 = .ok (.caload, 1) := by decide +kernel
theorem dL1b_13 : decode jdk_52_method_21_code 13 = .ok (.istore 6, 2) := by decide +kernel
theorem dL1b_15 : decode jdk_52_method_21_code 15 = .ok (.iload 6, 2) := by decide +kernel
theorem dL1b_17 : decode jdk_52_method_21_code 17 = .ok (.sipush 255, 3) := by decide +kernel
theorem dL1b_20 : decode jdk_52_method_21_code 20 = .ok (.if_icmp .le 6, 3) := by decide +kernel
theorem dL1b_26 : decode jdk_52_method_21_code 26 = .ok (.aload_n 2, 1) := by decide +kernel
theorem dL1b_27 : decode jdk_52_method_21_code 27 = .ok (.iload_n 3, 1) := by decide +kernel
theorem dL1b_28 : decode jdk_52_method_21_code 28 = .ok (.iload 6, 2) := by decide +kernel
theorem dL1b_30 : decode jdk_52_method_21_code 30 = .ok (.i2b, 1) := by decide +kernel
theorem dL1b_31 : decode jdk_52_method_21_code 31 = .ok (.bastore, 1) := by decide +kernel
theorem dL1b_32 : decode jdk_52_method_21_code 32 = .ok (.iinc 1 1, 3) := by decide +kernel
theorem dL1b_35 : decode jdk_52_method_21_code 35 = .ok (.iinc 3 1, 3) := by decide +kernel
theorem dL1b_38 : decode jdk_52_method_21_code 38 = .ok (.iinc 5 1, 3) := by decide +kernel
theorem dL1b_41 : decode jdk_52_method_21_code 41 = .ok (.goto (-38), 3) := by decide +kernel
theorem dL1b_44 : decode jdk_52_method_21_code 44 = .ok (.iload 4, 2) := by decide +kernel
theorem dL1b_46 : decode jdk_52_method_21_code 46 = .ok (.ireturn, 1) := by decide +kernel
theorem pnL1b : plainName "java/lang/StringUTF16" = true := by first | (simp [plainName, overriddenIn]; done) | decide +kernel
theorem efL1b (m : MethodId) (x0 : Addr) (x1 : Int32) (x2 : Addr) (x3 : Int32) (x4 : Int32) : entryFrame m #[(.ref x0), (.int x3), (.ref x2), (.int x3), (.int x4)] 7 = mkF m 0 #[.val (.ref x0), .val (.int x3), .val (.ref x2), .val (.int x3), .val (.int x4), .unset, .unset] [] := by first | (simp [entryFrame, mkF, argsToLocals, Value.category]; done) | rfl
def own_QL1b (Z : State) (u : Addr) (ku : ClassId) (c0 : Int32) (h0 : Heap) (n0 : Nat) (v : Option Value) (h : Heap) (L : List Loc) : Prop := v = some (.int (1 : Int32)) ∧ Fr n0 L ∧ Keep h0 h [u] ∧ Arv Z h u ku .byte (1 : Int32) [.int (nar .byte (c0.toInt8.toInt32))] (.int (0 : Int32))
set_option maxRecDepth 65536 in
set_option maxHeartbeats 40000000 in
theorem rmL1b (l : Launch) (Z : State) (a0 : Array Value) (hw : ∀ d ∈ tables_1, d.before a0 Z = true) (ws : List Jvm.Cond) (cc u : Addr) (kc ku : ClassId) (c0 : Int32) (h0 : Heap) (n0 : Nat) (Z0 : n0 ≤ h0.size) (Ac : Arv Z h0 cc kc .char (1 : Int32) [.int c0] (.int (0 : Int32))) (Au : Arv Z h0 u ku .byte (1 : Int32) [.int (0 : Int32)] (.int (0 : Int32))) (g_u : n0 ≤ u) (ne_cu : cc ≠ u) (hp0 : ¬ (255 : Int32) < c0) :
    MetFree l (⟨"java/lang/StringUTF16", "compress", "([CI[BII)I"⟩ : MethodName) (head1 (Jvm.Cond.code (⟨"java/lang/StringUTF16", "compress", "([CI[BII)I"⟩ : MethodName) jdk_52_method_21_code 7 (some .int) :: ws) ({ frames := 0, cells := 0, slots := 0, locals := 0 } : Room)) (fun a U => a = #[(.ref cc), (.int (0 : Int32)), (.ref u), (.int (0 : Int32)), (.int (1 : Int32))] ∧ Z.Warmed39 U.vm ∧ U.heap = h0) (fun _ _ _ _ _ => True) (fun _ U o U' => ∃ v L, o = .returned v ∧ own_QL1b Z u ku c0 h0 n0 v U'.heap L ∧ FrameEnd U o U' L ({ frames := 0, cells := 0, slots := 0, locals := 0 } : Room).cells ({ frames := 0, cells := 0, slots := 0, locals := 0 } : Room).slots) := by
  refine MetFree.of_bodySF (plainFor_of_name pnL1b) hisR ?_
  intro p e s m args below meth c s₁ Bd hml0 hP hK
  obtain ⟨rfl, hZ, hh⟩ := hP
  have hx := Bd.exec
  have hby := Bd.bytes
  have hml : c.maxLocals = 7 := hml0
  have hown : s.vm.findClass "java/lang/StringUTF16" = some m.cls := findClass_of_methodNamed Bd.named
  have hnm := (name_of_methodNamed Bd.named Bd.method).1
  have hlk : meth.locks = false := Bd.notSynchronized
  have X0 : Stand p l e ({ frames := 0, cells := 0, slots := 0, locals := 0 } : Room) s m #[(.ref cc), (.int (0 : Int32)), (.ref u), (.int (0 : Int32)), (.int (1 : Int32))] below meth c s₁ [] 0 0 := Stand.of_body Bd
  have e0 : s₁.heap = h0 := by rw [← hh, Bd.state]; rfl
  have N0 := Fr.nil n0
  refine own_go (fun t k => castTop (efL1b m cc (0 : Int32) u (0 : Int32) (1 : Int32)) k) ?_
  show own_Go p e below _ (s₁.setTop (mkF m 0 #[.val (.ref cc), .val (.int (0 : Int32)), .val (.ref u), .val (.int (0 : Int32)), .val (.int (1 : Int32)), .unset, .unset] []))
  refine own_go (fun t k => XS.iconst X0.here hx rfl (hb hby dL1b_0) k) ?_
  show own_Go p e below _ (s₁.setTop (mkF m 1 #[.val (.ref cc), .val (.int (0 : Int32)), .val (.ref u), .val (.int (0 : Int32)), .val (.int (1 : Int32)), .unset, .unset] [(.int (0 : Int32))]))
  refine own_go (fun t k => XS.istore X0.here hx rfl (hb hby dL1b_1) rfl (l' := #[.val (.ref cc), .val (.int (0 : Int32)), .val (.ref u), .val (.int (0 : Int32)), .val (.int (1 : Int32)), .val (.int (0 : Int32)), .unset]) rfl k) ?_
  show own_Go p e below _ (s₁.setTop (mkF m 3 #[.val (.ref cc), .val (.int (0 : Int32)), .val (.ref u), .val (.int (0 : Int32)), .val (.int (1 : Int32)), .val (.int (0 : Int32)), .unset] []))
  refine own_go (fun t k => XS.iload X0.here hx rfl (hb hby dL1b_3) rfl k) ?_
  show own_Go p e below _ (s₁.setTop (mkF m 5 #[.val (.ref cc), .val (.int (0 : Int32)), .val (.ref u), .val (.int (0 : Int32)), .val (.int (1 : Int32)), .val (.int (0 : Int32)), .unset] [(.int (0 : Int32))]))
  refine own_go (fun t k => XS.iload X0.here hx rfl (hb hby dL1b_5) rfl k) ?_
  show own_Go p e below _ (s₁.setTop (mkF m 7 #[.val (.ref cc), .val (.int (0 : Int32)), .val (.ref u), .val (.int (0 : Int32)), .val (.int (1 : Int32)), .val (.int (0 : Int32)), .unset] [(.int (1 : Int32)), (.int (0 : Int32))]))
  refine own_go (fun t k => XS.icmpNo X0.here hx rfl (hb hby dL1b_7) rfl (tlt (by decide : (0 : Int32) < (1 : Int32))).2.1 k) ?_
  show own_Go p e below _ (s₁.setTop (mkF m 10 #[.val (.ref cc), .val (.int (0 : Int32)), .val (.ref u), .val (.int (0 : Int32)), .val (.int (1 : Int32)), .val (.int (0 : Int32)), .unset] []))
  refine own_go (fun t k => XS.aloadN X0.here hx rfl (hb hby dL1b_10) rfl rfl k) ?_
  show own_Go p e below _ (s₁.setTop (mkF m 11 #[.val (.ref cc), .val (.int (0 : Int32)), .val (.ref u), .val (.int (0 : Int32)), .val (.int (1 : Int32)), .val (.int (0 : Int32)), .unset] [(.ref cc)]))
  refine own_go (fun t k => XS.iloadN X0.here hx rfl (hb hby dL1b_11) rfl k) ?_
  show own_Go p e below _ (s₁.setTop (mkF m 12 #[.val (.ref cc), .val (.int (0 : Int32)), .val (.ref u), .val (.int (0 : Int32)), .val (.int (1 : Int32)), .val (.int (0 : Int32)), .unset] [(.int (0 : Int32)), (.ref cc)]))
  obtain ⟨cl1, Ar1, qa1, Sa1, Na1, Ha1, Ga1⟩ := id Ac
  have hin1 : ¬ ((0 : Int32) < 0 ∨ cl1.slots.size ≤ ((0 : Int32)).toNatClampNeg) := inb_of Sa1 ⟨by decide, by decide⟩
  have hat1 : cl1.slots[((0 : Int32)).toNatClampNeg]? = some (.int c0) := Ha1.at hin1 rfl
  refine own_go (fun t k => X0.caload hx (j := (0 : Int32)) (v := (.int c0)) (by rw [e0]; exact Ar1.1) (State.isArrayOf_alike hZ.alike Ar1.2.1) Ar1.2.2 hin1 hat1 (g := (mkF m 12 #[.val (.ref cc), .val (.int (0 : Int32)), .val (.ref u), .val (.int (0 : Int32)), .val (.int (1 : Int32)), .val (.int (0 : Int32)), .unset] [(.int (0 : Int32)), (.ref cc)])) rfl rfl (hb hby dL1b_12) t k) ?_
  show own_Go p e below _ (s₁.setTop (mkF m 13 #[.val (.ref cc), .val (.int (0 : Int32)), .val (.ref u), .val (.int (0 : Int32)), .val (.int (1 : Int32)), .val (.int (0 : Int32)), .unset] [(.int c0)]))
  refine own_go (fun t k => XS.istore X0.here hx rfl (hb hby dL1b_13) rfl (l' := #[.val (.ref cc), .val (.int (0 : Int32)), .val (.ref u), .val (.int (0 : Int32)), .val (.int (1 : Int32)), .val (.int (0 : Int32)), .val (.int c0)]) rfl k) ?_
  show own_Go p e below _ (s₁.setTop (mkF m 15 #[.val (.ref cc), .val (.int (0 : Int32)), .val (.ref u), .val (.int (0 : Int32)), .val (.int (1 : Int32)), .val (.int (0 : Int32)), .val (.int c0)] []))
  refine own_go (fun t k => XS.iload X0.here hx rfl (hb hby dL1b_15) rfl k) ?_
  show own_Go p e below _ (s₁.setTop (mkF m 17 #[.val (.ref cc), .val (.int (0 : Int32)), .val (.ref u), .val (.int (0 : Int32)), .val (.int (1 : Int32)), .val (.int (0 : Int32)), .val (.int c0)] [(.int c0)]))
  refine own_go (fun t k => XS.sipush X0.here hx rfl (hb hby dL1b_17) k) ?_
  show own_Go p e below _ (s₁.setTop (mkF m 20 #[.val (.ref cc), .val (.int (0 : Int32)), .val (.ref u), .val (.int (0 : Int32)), .val (.int (1 : Int32)), .val (.int (0 : Int32)), .val (.int c0)] [(.int (255 : Int32)), (.int c0)]))
  refine own_go (fun t k => XS.icmpYes X0.here hx rfl (pc0 := 20) (pc' := 26) rfl (hb hby dL1b_20) rfl (flt hp0).2.2.2 (by decide) (by decide) k) ?_
  show own_Go p e below _ (s₁.setTop (mkF m 26 #[.val (.ref cc), .val (.int (0 : Int32)), .val (.ref u), .val (.int (0 : Int32)), .val (.int (1 : Int32)), .val (.int (0 : Int32)), .val (.int c0)] []))
  refine own_go (fun t k => XS.aloadN X0.here hx rfl (hb hby dL1b_26) rfl rfl k) ?_
  show own_Go p e below _ (s₁.setTop (mkF m 27 #[.val (.ref cc), .val (.int (0 : Int32)), .val (.ref u), .val (.int (0 : Int32)), .val (.int (1 : Int32)), .val (.int (0 : Int32)), .val (.int c0)] [(.ref u)]))
  refine own_go (fun t k => XS.iloadN X0.here hx rfl (hb hby dL1b_27) rfl k) ?_
  show own_Go p e below _ (s₁.setTop (mkF m 28 #[.val (.ref cc), .val (.int (0 : Int32)), .val (.ref u), .val (.int (0 : Int32)), .val (.int (1 : Int32)), .val (.int (0 : Int32)), .val (.int c0)] [(.int (0 : Int32)), (.ref u)]))
  refine own_go (fun t k => XS.iload X0.here hx rfl (hb hby dL1b_28) rfl k) ?_
  show own_Go p e below _ (s₁.setTop (mkF m 30 #[.val (.ref cc), .val (.int (0 : Int32)), .val (.ref u), .val (.int (0 : Int32)), .val (.int (1 : Int32)), .val (.int (0 : Int32)), .val (.int c0)] [(.int c0), (.int (0 : Int32)), (.ref u)]))
  refine own_go (fun t k => XS.i2b X0.here hx rfl (hb hby dL1b_30) rfl k) ?_
  show own_Go p e below _ (s₁.setTop (mkF m 31 #[.val (.ref cc), .val (.int (0 : Int32)), .val (.ref u), .val (.int (0 : Int32)), .val (.int (1 : Int32)), .val (.int (0 : Int32)), .val (.int c0)] [(.int (c0.toInt8.toInt32)), (.int (0 : Int32)), (.ref u)]))
  obtain ⟨cl2, Ar2, qa2, Sa2, Na2, Ha2, Ga2⟩ := id Au
  have hin2 : ¬ ((0 : Int32) < 0 ∨ cl2.slots.size ≤ ((0 : Int32)).toNatClampNeg) := inb_of Sa2 ⟨by decide, by decide⟩
  obtain ⟨T2, h2, X2, e2, W2, st2⟩ := stB X0 hx hZ e0 Ar2 (j := (0 : Int32)) hin2 (g := (mkF m 31 #[.val (.ref cc), .val (.int (0 : Int32)), .val (.ref u), .val (.int (0 : Int32)), .val (.int (1 : Int32)), .val (.int (0 : Int32)), .val (.int c0)] [(.int (c0.toInt8.toInt32)), (.int (0 : Int32)), (.ref u)])) rfl rfl (hb hby dL1b_31)
  have Vw2 : Arv Z h2 u ku .byte (1 : Int32) [(.int (nar .byte (c0.toInt8.toInt32)))] (.int (0 : Int32)) := Arv.set Ar2 qa2 Sa2 Na2 Ha2 Ga2 (fits_nar_byte _) W2 0 rfl (Nat.le_of_ble_eq_true rfl)
  have Ac__2 := Ac.other W2 ne_cu
  have N2 := Fr.snoc X2 N0 g_u
  have KP2 := (Keep.refl h0 [u]).wr W2 (Or.inl (List.mem_of_getElem? (i := 0) rfl))
  have sz2 := Nat.le_trans Z0 (Keep.of_wr W2).1
  refine own_go (fun t k => st2 t k) ?_
  show own_Go p e below _ (T2.setTop (mkF m 32 #[.val (.ref cc), .val (.int (0 : Int32)), .val (.ref u), .val (.int (0 : Int32)), .val (.int (1 : Int32)), .val (.int (0 : Int32)), .val (.int c0)] []))
  refine own_go (fun t k => XS.iinc X2.here hx rfl (hb hby dL1b_32) rfl (l' := #[.val (.ref cc), .val (.int (1 : Int32)), .val (.ref u), .val (.int (0 : Int32)), .val (.int (1 : Int32)), .val (.int (0 : Int32)), .val (.int c0)]) rfl k) ?_
  show own_Go p e below _ (T2.setTop (mkF m 35 #[.val (.ref cc), .val (.int (1 : Int32)), .val (.ref u), .val (.int (0 : Int32)), .val (.int (1 : Int32)), .val (.int (0 : Int32)), .val (.int c0)] []))
  refine own_go (fun t k => XS.iinc X2.here hx rfl (hb hby dL1b_35) rfl (l' := #[.val (.ref cc), .val (.int (1 : Int32)), .val (.ref u), .val (.int (1 : Int32)), .val (.int (1 : Int32)), .val (.int (0 : Int32)), .val (.int c0)]) rfl k) ?_
  show own_Go p e below _ (T2.setTop (mkF m 38 #[.val (.ref cc), .val (.int (1 : Int32)), .val (.ref u), .val (.int (1 : Int32)), .val (.int (1 : Int32)), .val (.int (0 : Int32)), .val (.int c0)] []))
  refine own_go (fun t k => XS.iinc X2.here hx rfl (hb hby dL1b_38) rfl (l' := #[.val (.ref cc), .val (.int (1 : Int32)), .val (.ref u), .val (.int (1 : Int32)), .val (.int (1 : Int32)), .val (.int (1 : Int32)), .val (.int c0)]) rfl k) ?_
  show own_Go p e below _ (T2.setTop (mkF m 41 #[.val (.ref cc), .val (.int (1 : Int32)), .val (.ref u), .val (.int (1 : Int32)), .val (.int (1 : Int32)), .val (.int (1 : Int32)), .val (.int c0)] []))
  refine own_go (fun t k => XS.goto X2.here hx rfl (pc0 := 41) (pc' := 3) rfl (hb hby dL1b_41) (by decide) (by decide) k) ?_
  show own_Go p e below _ (T2.setTop (mkF m 3 #[.val (.ref cc), .val (.int (1 : Int32)), .val (.ref u), .val (.int (1 : Int32)), .val (.int (1 : Int32)), .val (.int (1 : Int32)), .val (.int c0)] []))
  refine own_go (fun t k => XS.iload X2.here hx rfl (hb hby dL1b_3) rfl k) ?_
  show own_Go p e below _ (T2.setTop (mkF m 5 #[.val (.ref cc), .val (.int (1 : Int32)), .val (.ref u), .val (.int (1 : Int32)), .val (.int (1 : Int32)), .val (.int (1 : Int32)), .val (.int c0)] [(.int (1 : Int32))]))
  refine own_go (fun t k => XS.iload X2.here hx rfl (hb hby dL1b_5) rfl k) ?_
  show own_Go p e below _ (T2.setTop (mkF m 7 #[.val (.ref cc), .val (.int (1 : Int32)), .val (.ref u), .val (.int (1 : Int32)), .val (.int (1 : Int32)), .val (.int (1 : Int32)), .val (.int c0)] [(.int (1 : Int32)), (.int (1 : Int32))]))
  refine own_go (fun t k => XS.icmpYes X2.here hx rfl (pc0 := 7) (pc' := 44) rfl (hb hby dL1b_7) rfl (flt (by decide : ¬ ((1 : Int32) < (1 : Int32)))).2.1 (by decide) (by decide) k) ?_
  show own_Go p e below _ (T2.setTop (mkF m 44 #[.val (.ref cc), .val (.int (1 : Int32)), .val (.ref u), .val (.int (1 : Int32)), .val (.int (1 : Int32)), .val (.int (1 : Int32)), .val (.int c0)] []))
  refine own_go (fun t k => XS.iload X2.here hx rfl (hb hby dL1b_44) rfl k) ?_
  show own_Go p e below _ (T2.setTop (mkF m 46 #[.val (.ref cc), .val (.int (1 : Int32)), .val (.ref u), .val (.int (1 : Int32)), .val (.int (1 : Int32)), .val (.int (1 : Int32)), .val (.int c0)] [(.int (1 : Int32))]))
  exact own_retI X2 hx Bd.returns (hb hby dL1b_46) (by rw [e2]; exact ⟨rfl, N2, KP2, Vw2⟩) (by decide) (by decide)
theorem dL1c_0 : decode jdk_52_method_16_code 0 = .ok (.iload_n 2, 1) := by decide +kernel
theorem dL1c_1 : decode jdk_52_method_16_code 1 = .ok (.newarray .byte, 2) := by decide +kernel
theorem dL1c_3 : decode jdk_52_method_16_code 3 = .ok (.astore_n 3, 1) := by decide +kernel
theorem dL1c_4 : decode jdk_52_method_16_code 4 = .ok (.aload_n 0, 1) := by decide +kernel
theorem dL1c_5 : decode jdk_52_method_16_code 5 = .ok (.iload_n 1, 1) := by decide +kernel
theorem dL1c_6 : decode jdk_52_method_16_code 6 = .ok (.aload_n 3, 1) := by decide +kernel
theorem dL1c_7 : decode jdk_52_method_16_code 7 = .ok (.iconst 0, 1) := by decide +kernel
theorem dL1c_8 : decode jdk_52_method_16_code 8 = .ok (.iload_n 2, 1) := by decide +kernel
theorem dL1c_9 : decode jdk_52_method_16_code 9 = .ok (.invokestatic 115, 3) := by decide +kernel
theorem dL1c_12 : decode jdk_52_method_16_code 12 = .ok (.istore 4, 2) := by decide +kernel
theorem dL1c_14 : decode jdk_52_method_16_code 14 = .ok (.iload 4, 2) := by decide +kernel
theorem dL1c_16 : decode jdk_52_method_16_code 16 = .ok (.iload_n 2, 1) := by decide +kernel
theorem dL1c_17 : decode jdk_52_method_16_code 17 = .ok (.if_icmp .eq 40, 3) := by decide +kernel
theorem dL1c_57 : decode jdk_52_method_16_code 57 = .ok (.aload_n 3, 1) := by decide +kernel
theorem dL1c_58 : decode jdk_52_method_16_code 58 = .ok (.areturn, 1) := by decide +kernel
theorem pnL1c : plainName "java/lang/StringUTF16" = true := by first | (simp [plainName, overriddenIn]; done) | decide +kernel
theorem pdL1c_0 : parseMethodDescriptor "([CI[BII)I" = some ⟨[(.array .char), .int, (.array .byte), .int, .int], some .int⟩ := by decide +kernel
theorem efL1c (m : MethodId) (x0 : Addr) (x1 : Int32) (x2 : Int32) : entryFrame m #[(.ref x0), (.int x1), (.int x2)] 6 = mkF m 0 #[.val (.ref x0), .val (.int x1), .val (.int x2), .unset, .unset, .unset] [] := by first | (simp [entryFrame, mkF, argsToLocals, Value.category]; done) | rfl
def own_QL1c (Z : State) (c0 : Int32) (h0 : Heap) (n0 : Nat) (v : Option Value) (h : Heap) (L : List Loc) : Prop := ∃ (b : Addr) (kb : ClassId), v = some (.ref b) ∧ Fr n0 L ∧ Keep h0 h [] ∧ h0.size ≤ b ∧ Arv Z h b kb .byte (1 : Int32) [.int (nar .byte (c0.toInt8.toInt32))] (.int (0 : Int32))
set_option maxRecDepth 65536 in
set_option maxHeartbeats 40000000 in
theorem rmL1c (l : Launch) (Z : State) (a0 : Array Value) (hw : ∀ d ∈ tables_1, d.before a0 Z = true) (ws : List Jvm.Cond) (cc : Addr) (kc : ClassId) (c0 : Int32) (h0 : Heap) (n0 : Nat) (Z0 : n0 ≤ h0.size) (Ac : Arv Z h0 cc kc .char (1 : Int32) [.int c0] (.int (0 : Int32))) (hp0 : ¬ (255 : Int32) < c0) :
    MetFree l (⟨"java/lang/StringUTF16", "compress", "([CII)[B"⟩ : MethodName) (head1 (Jvm.Cond.code (⟨"java/lang/StringUTF16", "compress", "([CII)[B"⟩ : MethodName) jdk_52_method_16_code 6 (some (.array .byte)) :: ws) ({ frames := 1, cells := 1, slots := 1, locals := 18 } : Room)) (fun a U => a = #[(.ref cc), (.int (0 : Int32)), (.int (1 : Int32))] ∧ Z.Warmed39 U.vm ∧ U.heap = h0) (fun _ _ _ _ _ => True) (fun _ U o U' => ∃ v L, o = .returned v ∧ own_QL1c Z c0 h0 n0 v U'.heap L ∧ FrameEnd U o U' L ({ frames := 1, cells := 1, slots := 1, locals := 18 } : Room).cells ({ frames := 1, cells := 1, slots := 1, locals := 18 } : Room).slots) := by
  refine MetFree.of_bodySF (plainFor_of_name pnL1c) hisR ?_
  intro p e s m args below meth c s₁ Bd hml0 hP hK
  obtain ⟨rfl, hZ, hh⟩ := hP
  have hx := Bd.exec
  have hby := Bd.bytes
  have hml : c.maxLocals = 6 := hml0
  have hown : s.vm.findClass "java/lang/StringUTF16" = some m.cls := findClass_of_methodNamed Bd.named
  have hnm := (name_of_methodNamed Bd.named Bd.method).1
  have hlk : meth.locks = false := Bd.notSynchronized
  have X0 : Stand p l e ({ frames := 1, cells := 1, slots := 1, locals := 18 } : Room) s m #[(.ref cc), (.int (0 : Int32)), (.int (1 : Int32))] below meth c s₁ [] 0 0 := Stand.of_body Bd
  have e0 : s₁.heap = h0 := by rw [← hh, Bd.state]; rfl
  have N0 := Fr.nil n0
  refine own_go (fun t k => castTop (efL1c m cc (0 : Int32) (1 : Int32)) k) ?_
  show own_Go p e below _ (s₁.setTop (mkF m 0 #[.val (.ref cc), .val (.int (0 : Int32)), .val (.int (1 : Int32)), .unset, .unset, .unset] []))
  refine own_go (fun t k => XS.iloadN X0.here hx rfl (hb hby dL1c_0) rfl k) ?_
  show own_Go p e below _ (s₁.setTop (mkF m 1 #[.val (.ref cc), .val (.int (0 : Int32)), .val (.int (1 : Int32)), .unset, .unset, .unset] [(.int (1 : Int32))]))
  obtain ⟨T1, h1, k1, X1, e1, E1, A1, st1⟩ := newP X0 hx hZ (hw _ (List.mem_of_getElem? (i := 7) rfl)) e0 (g := (mkF m 1 #[.val (.ref cc), .val (.int (0 : Int32)), .val (.int (1 : Int32)), .unset, .unset, .unset] [(.int (1 : Int32))])) rfl (hb hby dL1c_1) rfl (by decide) (cap := 1) (by decide) (by decide) (by decide) (by decide)
  obtain ⟨b1, g1⟩ : ∃ z, z = h0.size := ⟨_, rfl⟩
  rw [← g1] at A1 st1
  have g_b1 : n0 ≤ b1 := Nat.le_trans Z0 (Nat.le_of_eq g1.symm)
  have sz_b1 : h0.size ≤ b1 := Nat.le_trans (Keep.refl h0 []).1 (Nat.le_of_eq g1.symm)
  have ne_cc_b1 : cc ≠ b1 := Nat.ne_of_lt (Nat.lt_of_lt_of_le Ac.lt (Nat.le_of_eq g1.symm))
  have Ac__1 := Ac.ext E1
  have sz1 := Nat.le_trans Z0 E1.1
  have KP1 := (Keep.refl h0 []).ext E1
  have V1 : Arv Z h1 b1 k1 .byte (1 : Int32) [(.int (0 : Int32))] (.int (0 : Int32)) := (Arv.new A1 (by decide)).pad (pad_rep [] (.int (0 : Int32)) 1)
  refine own_go (fun t k => st1 t k) ?_
  show own_Go p e below _ (T1.setTop (mkF m 3 #[.val (.ref cc), .val (.int (0 : Int32)), .val (.int (1 : Int32)), .unset, .unset, .unset] [(.ref b1)]))
  refine own_go (fun t k => XS.astoreN X1.here hx rfl (hb hby dL1c_3) rfl rfl (l' := #[.val (.ref cc), .val (.int (0 : Int32)), .val (.int (1 : Int32)), .val (.ref b1), .unset, .unset]) rfl k) ?_
  show own_Go p e below _ (T1.setTop (mkF m 4 #[.val (.ref cc), .val (.int (0 : Int32)), .val (.int (1 : Int32)), .val (.ref b1), .unset, .unset] []))
  refine own_go (fun t k => XS.aloadN X1.here hx rfl (hb hby dL1c_4) rfl rfl k) ?_
  show own_Go p e below _ (T1.setTop (mkF m 5 #[.val (.ref cc), .val (.int (0 : Int32)), .val (.int (1 : Int32)), .val (.ref b1), .unset, .unset] [(.ref cc)]))
  refine own_go (fun t k => XS.iloadN X1.here hx rfl (hb hby dL1c_5) rfl k) ?_
  show own_Go p e below _ (T1.setTop (mkF m 6 #[.val (.ref cc), .val (.int (0 : Int32)), .val (.int (1 : Int32)), .val (.ref b1), .unset, .unset] [(.int (0 : Int32)), (.ref cc)]))
  refine own_go (fun t k => XS.aloadN X1.here hx rfl (hb hby dL1c_6) rfl rfl k) ?_
  show own_Go p e below _ (T1.setTop (mkF m 7 #[.val (.ref cc), .val (.int (0 : Int32)), .val (.int (1 : Int32)), .val (.ref b1), .unset, .unset] [(.ref b1), (.int (0 : Int32)), (.ref cc)]))
  refine own_go (fun t k => XS.iconst X1.here hx rfl (hb hby dL1c_7) k) ?_
  show own_Go p e below _ (T1.setTop (mkF m 8 #[.val (.ref cc), .val (.int (0 : Int32)), .val (.int (1 : Int32)), .val (.ref b1), .unset, .unset] [(.int (0 : Int32)), (.ref b1), (.int (0 : Int32)), (.ref cc)]))
  refine own_go (fun t k => XS.iloadN X1.here hx rfl (hb hby dL1c_8) rfl k) ?_
  show own_Go p e below _ (T1.setTop (mkF m 9 #[.val (.ref cc), .val (.int (0 : Int32)), .val (.int (1 : Int32)), .val (.ref b1), .unset, .unset] [(.int (1 : Int32)), (.int (0 : Int32)), (.ref b1), (.int (0 : Int32)), (.ref cc)]))
  obtain ⟨_, _, ⟨T2, L2, k2, n2⟩, -, X2, ⟨Lc2, hQ2, l2, y2, z2⟩, st2⟩ := Jvm.LawKit.callS X1 hx (y := (⟨"java/lang/StringUTF16", "compress", "([CI[BII)I"⟩ : MethodName)) hown (mvT hZ (hw _ (List.mem_of_getElem? (i := 171) rfl))) (mvT hZ (hw _ (List.mem_of_getElem? (i := 172) rfl))) (mvT hZ (hw _ (List.mem_of_getElem? (i := 169) rfl))) (mvT hZ (hw _ (List.mem_of_getElem? (i := 173) rfl))) (by decide) (backOf (W := 0) (rmL1b l Z a0 hw [] cc b1 kc k1 c0 h1 n0 sz1 Ac__1 V1 g_b1 ne_cc_b1 hp0) hZ (hw _ (List.mem_of_getElem? (i := 173) rfl)) (hw _ (List.mem_of_getElem? (i := 169) rfl)) (by decide) (by decide)) (g := (mkF m 9 #[.val (.ref cc), .val (.int (0 : Int32)), .val (.int (1 : Int32)), .val (.ref b1), .unset, .unset] [(.int (1 : Int32)), (.int (0 : Int32)), (.ref b1), (.int (0 : Int32)), (.ref cc)])) rfl (by rw [hml]; rfl) (argsL := [(.ref cc), (.int (0 : Int32)), (.ref b1), (.int (0 : Int32)), (.int (1 : Int32))]) (rest := []) (lenOf pdL1c_0 rfl) rfl (by show 2 * 0 + _ ≤ _; exact Nat.le_of_eq rfl) (hb hby dL1c_9) (fun _ _ => ⟨rfl, e1, (by decide : 0 + 1 + 0 ≤ _), (by decide : 0 + 1 + 0 ≤ _)⟩)
  dsimp only [Pt.U, Pt.locs, Pt.cells, Pt.slots] at X2 l2 y2 z2 st2 hQ2
  subst l2 y2 z2
  obtain ⟨rfl, Nq2, K2, A2⟩ := hQ2
  have N2 := Fr.app N0 Nq2
  refine own_go (fun t k => st2 t k) ?_
  have Ac__2 := Ac__1.keep K2 (ninS ne_cc_b1 nin0)
  have KP2 := KP1.trans K2 (allS (Or.inr sz_b1) all0)
  have sz2 := Nat.le_trans sz1 K2.1
  show own_Go p e below _ (T2.setTop (mkF m 12 #[.val (.ref cc), .val (.int (0 : Int32)), .val (.int (1 : Int32)), .val (.ref b1), .unset, .unset] [(.int (1 : Int32))]))
  refine own_go (fun t k => XS.istore X2.here hx rfl (hb hby dL1c_12) rfl (l' := #[.val (.ref cc), .val (.int (0 : Int32)), .val (.int (1 : Int32)), .val (.ref b1), .val (.int (1 : Int32)), .unset]) rfl k) ?_
  show own_Go p e below _ (T2.setTop (mkF m 14 #[.val (.ref cc), .val (.int (0 : Int32)), .val (.int (1 : Int32)), .val (.ref b1), .val (.int (1 : Int32)), .unset] []))
  refine own_go (fun t k => XS.iload X2.here hx rfl (hb hby dL1c_14) rfl k) ?_
  show own_Go p e below _ (T2.setTop (mkF m 16 #[.val (.ref cc), .val (.int (0 : Int32)), .val (.int (1 : Int32)), .val (.ref b1), .val (.int (1 : Int32)), .unset] [(.int (1 : Int32))]))
  refine own_go (fun t k => XS.iloadN X2.here hx rfl (hb hby dL1c_16) rfl k) ?_
  show own_Go p e below _ (T2.setTop (mkF m 17 #[.val (.ref cc), .val (.int (0 : Int32)), .val (.int (1 : Int32)), .val (.ref b1), .val (.int (1 : Int32)), .unset] [(.int (1 : Int32)), (.int (1 : Int32))]))
  refine own_go (fun t k => XS.icmpYes X2.here hx rfl (pc0 := 17) (pc' := 57) rfl (hb hby dL1c_17) rfl (teq (by decide : (1 : Int32) = (1 : Int32))).1 (by decide) (by decide) k) ?_
  show own_Go p e below _ (T2.setTop (mkF m 57 #[.val (.ref cc), .val (.int (0 : Int32)), .val (.int (1 : Int32)), .val (.ref b1), .val (.int (1 : Int32)), .unset] []))
  refine own_go (fun t k => XS.aloadN X2.here hx rfl (hb hby dL1c_57) rfl rfl k) ?_
  show own_Go p e below _ (T2.setTop (mkF m 58 #[.val (.ref cc), .val (.int (0 : Int32)), .val (.int (1 : Int32)), .val (.ref b1), .val (.int (1 : Int32)), .unset] [(.ref b1)]))
  exact own_retA X2 hx Bd.returns rfl rfl (hb hby dL1c_58) (⟨_, _, rfl, N2, KP2, sz_b1, A2⟩) (by decide) (by decide)
theorem dL1a_0 : decode jdk_52_method_15_code 0 = .ok (.iload_n 1, 1) := by decide +kernel
theorem dL1a_1 : decode jdk_52_method_15_code 1 = .ok (.aload_n 0, 1) := by decide +kernel
theorem dL1a_2 : decode jdk_52_method_15_code 2 = .ok (.arraylength, 1) := by decide +kernel
theorem dL1a_3 : decode jdk_52_method_15_code 3 = .ok (.isub, 1) := by decide +kernel
theorem dL1a_4 : decode jdk_52_method_15_code 4 = .ok (.bipush 31, 2) := by decide +kernel
theorem dL1a_6 : decode jdk_52_method_15_code 6 = .ok (.iushr, 1) := by decide +kernel
theorem dL1a_7 : decode jdk_52_method_15_code 7 = .ok (.i2b, 1) := by decide +kernel
theorem dL1a_8 : decode jdk_52_method_15_code 8 = .ok (.ireturn, 1) := by decide +kernel
theorem pnL1a : plainName "java/lang/StringUTF16" = true := by first | (simp [plainName, overriddenIn]; done) | decide +kernel
theorem efL1a (m : MethodId) (x0 : Addr) (x1 : Int32) : entryFrame m #[(.ref x0), (.int x1)] 2 = mkF m 0 #[.val (.ref x0), .val (.int x1)] [] := by first | (simp [entryFrame, mkF, argsToLocals, Value.category]; done) | rfl
def own_QL1a (h0 : Heap) (n0 : Nat) (v : Option Value) (h : Heap) (L : List Loc) : Prop := v = some (.int (0 : Int32)) ∧ Fr n0 L ∧ h = h0
set_option maxRecDepth 65536 in
set_option maxHeartbeats 40000000 in
theorem rmL1a (l : Launch) (Z : State) (a0 : Array Value) (hw : ∀ d ∈ tables_1, d.before a0 Z = true) (ws : List Jvm.Cond) (ot : Addr) (kt : ClassId) (x0 : Int32) (h0 : Heap) (n0 : Nat) (Z0 : n0 ≤ h0.size) (At : Arv Z h0 ot kt .byte (1 : Int32) [.int x0] (.int (0 : Int32))) :
    MetFree l (⟨"java/lang/StringUTF16", "coderFromArrayLen", "([BI)B"⟩ : MethodName) (head1 (Jvm.Cond.code (⟨"java/lang/StringUTF16", "coderFromArrayLen", "([BI)B"⟩ : MethodName) jdk_52_method_15_code 2 (some .byte) :: ws) ({ frames := 0, cells := 0, slots := 0, locals := 0 } : Room)) (fun a U => a = #[(.ref ot), (.int (1 : Int32))] ∧ Z.Warmed39 U.vm ∧ U.heap = h0) (fun _ _ _ _ _ => True) (fun _ U o U' => ∃ v L, o = .returned v ∧ own_QL1a h0 n0 v U'.heap L ∧ FrameEnd U o U' L ({ frames := 0, cells := 0, slots := 0, locals := 0 } : Room).cells ({ frames := 0, cells := 0, slots := 0, locals := 0 } : Room).slots) := by
  refine MetFree.of_bodySF (plainFor_of_name pnL1a) hisR ?_
  intro p e s m args below meth c s₁ Bd hml0 hP hK
  obtain ⟨rfl, hZ, hh⟩ := hP
  have hx := Bd.exec
  have hby := Bd.bytes
  have hml : c.maxLocals = 2 := hml0
  have hown : s.vm.findClass "java/lang/StringUTF16" = some m.cls := findClass_of_methodNamed Bd.named
  have hnm := (name_of_methodNamed Bd.named Bd.method).1
  have hlk : meth.locks = false := Bd.notSynchronized
  have X0 : Stand p l e ({ frames := 0, cells := 0, slots := 0, locals := 0 } : Room) s m #[(.ref ot), (.int (1 : Int32))] below meth c s₁ [] 0 0 := Stand.of_body Bd
  have e0 : s₁.heap = h0 := by rw [← hh, Bd.state]; rfl
  have N0 := Fr.nil n0
  refine own_go (fun t k => castTop (efL1a m ot (1 : Int32)) k) ?_
  show own_Go p e below _ (s₁.setTop (mkF m 0 #[.val (.ref ot), .val (.int (1 : Int32))] []))
  refine own_go (fun t k => XS.iloadN X0.here hx rfl (hb hby dL1a_0) rfl k) ?_
  show own_Go p e below _ (s₁.setTop (mkF m 1 #[.val (.ref ot), .val (.int (1 : Int32))] [(.int (1 : Int32))]))
  refine own_go (fun t k => XS.aloadN X0.here hx rfl (hb hby dL1a_1) rfl rfl k) ?_
  show own_Go p e below _ (s₁.setTop (mkF m 2 #[.val (.ref ot), .val (.int (1 : Int32))] [(.ref ot), (.int (1 : Int32))]))
  obtain ⟨cl1, Ar1, -, Sa1, Na1, -, -⟩ := id At
  have ln1 := len_of Sa1 Na1
  refine own_go (fun t k => X0.arraylength hx (by rw [e0]; exact Ar1.1) (State.isArrayOf_alike hZ.alike Ar1.2.1) (g := (mkF m 2 #[.val (.ref ot), .val (.int (1 : Int32))] [(.ref ot), (.int (1 : Int32))])) rfl rfl (hb hby dL1a_2) t (by rw [ln1]; exact k)) ?_
  show own_Go p e below _ (s₁.setTop (mkF m 3 #[.val (.ref ot), .val (.int (1 : Int32))] [(.int (1 : Int32)), (.int (1 : Int32))]))
  refine own_go (fun t k => XS.isub X0.here hx rfl (hb hby dL1a_3) rfl k) ?_
  show own_Go p e below _ (s₁.setTop (mkF m 4 #[.val (.ref ot), .val (.int (1 : Int32))] [(.int ((1 : Int32) - (1 : Int32)))]))
  refine own_go (fun t k => XS.bipush X0.here hx rfl (hb hby dL1a_4) k) ?_
  show own_Go p e below _ (s₁.setTop (mkF m 6 #[.val (.ref ot), .val (.int (1 : Int32))] [(.int (31 : Int32)), (.int ((1 : Int32) - (1 : Int32)))]))
  refine own_go (fun t k => XS.iushr X0.here hx rfl (hb hby dL1a_6) rfl k) ?_
  show own_Go p e below _ (s₁.setTop (mkF m 7 #[.val (.ref ot), .val (.int (1 : Int32))] [(.int ((((1 : Int32) - (1 : Int32)).toUInt32 >>> ((31 : Int32) &&& 31).toUInt32).toInt32))]))
  refine own_go (fun t k => XS.i2b X0.here hx rfl (hb hby dL1a_7) rfl k) ?_
  show own_Go p e below _ (s₁.setTop (mkF m 8 #[.val (.ref ot), .val (.int (1 : Int32))] [(.int (((((1 : Int32) - (1 : Int32)).toUInt32 >>> ((31 : Int32) &&& 31).toUInt32).toInt32).toInt8.toInt32))]))
  exact own_retN X0 hx (t := .byte) Bd.returns (by simp) (hb hby dL1a_8) (by rw [e0]; exact ⟨by decide, N0, rfl⟩) (by decide) (by decide)
theorem dL1d_0 : decode jdk_42_method_149_code 0 = .ok (.aload_n 0, 1) := by decide +kernel
theorem dL1d_1 : decode jdk_42_method_149_code 1 = .ok (.invokespecial 1, 3) := by decide +kernel
theorem dL1d_4 : decode jdk_42_method_149_code 4 = .ok (.iload_n 3, 1) := by decide +kernel
theorem dL1d_5 : decode jdk_42_method_149_code 5 = .ok (.ifCond .ne 22, 3) := by decide +kernel
theorem dL1d_27 : decode jdk_42_method_149_code 27 = .ok (.getstatic 38, 3) := by decide +kernel
theorem dL1d_30 : decode jdk_42_method_149_code 30 = .ok (.ifCond .eq 28, 3) := by decide +kernel
theorem dL1d_33 : decode jdk_42_method_149_code 33 = .ok (.aload_n 1, 1) := by decide +kernel
theorem dL1d_34 : decode jdk_42_method_149_code 34 = .ok (.iload_n 2, 1) := by decide +kernel
theorem dL1d_35 : decode jdk_42_method_149_code 35 = .ok (.iload_n 3, 1) := by decide +kernel
theorem dL1d_36 : decode jdk_42_method_149_code 36 = .ok (.invokestatic 177, 3) := by decide +kernel
theorem dL1d_39 : decode jdk_42_method_149_code 39 = .ok (.astore 5, 2) := by decide +kernel
theorem dL1d_41 : decode jdk_42_method_149_code 41 = .ok (.aload_n 0, 1) := by decide +kernel
theorem dL1d_42 : decode jdk_42_method_149_code 42 = .ok (.aload 5, 2) := by decide +kernel
theorem dL1d_44 : decode jdk_42_method_149_code 44 = .ok (.iload_n 3, 1) := by decide +kernel
theorem dL1d_45 : decode jdk_42_method_149_code 45 = .ok (.invokestatic 47, 3) := by decide +kernel
theorem dL1d_48 : decode jdk_42_method_149_code 48 = .ok (.putfield 15, 3) := by decide +kernel
theorem dL1d_51 : decode jdk_42_method_149_code 51 = .ok (.aload_n 0, 1) := by decide +kernel
theorem dL1d_52 : decode jdk_42_method_149_code 52 = .ok (.aload 5, 2) := by decide +kernel
theorem dL1d_54 : decode jdk_42_method_149_code 54 = .ok (.putfield 9, 3) := by decide +kernel
theorem dL1d_57 : decode jdk_42_method_149_code 57 = .ok (.return_, 1) := by decide +kernel
theorem pnL1d : plainName "java/lang/String" = true := by first | (simp [plainName, overriddenIn]; done) | decide +kernel
theorem pdL1d_0 : parseMethodDescriptor "([CII)[B" = some ⟨[(.array .char), .int, .int], some (.array .byte)⟩ := by decide +kernel
theorem pdL1d_1 : parseMethodDescriptor "([BI)B" = some ⟨[(.array .byte), .int], some .byte⟩ := by decide +kernel
theorem efL1d (m : MethodId) (x0 : Addr) (x1 : Addr) (x2 : Int32) (x3 : Int32) : entryFrame m #[(.ref x0), (.ref x1), (.int x2), (.int x3), .null] 6 = mkF m 0 #[.val (.ref x0), .val (.ref x1), .val (.int x2), .val (.int x3), .val .null, .unset] [] := by first | (simp [entryFrame, mkF, argsToLocals, Value.category]; done) | rfl
def own_QL1d (Z : State) (a : Addr) (c0 : Int32) (h0 : Heap) (n0 : Nat) (v : Option Value) (h : Heap) (L : List Loc) : Prop := v = none ∧ Fr n0 L ∧ Keep h0 h [a] ∧ Fld Z h a "java/lang/String" "coder" "B" (.int (0 : Int32)) ∧ ∃ (b : Addr) (kb : ClassId), h0.size ≤ b ∧ Fld Z h a "java/lang/String" "value" "[B" (.ref b) ∧ Arv Z h b kb .byte (1 : Int32) [.int (nar .byte (c0.toInt8.toInt32))] (.int (0 : Int32))
set_option maxRecDepth 65536 in
set_option maxHeartbeats 40000000 in
theorem rmL1d (l : Launch) (Z : State) (a0 : Array Value) (hw : ∀ d ∈ tables_1, d.before a0 Z = true) (ws : List Jvm.Cond) (oa cc : Addr) (kc : ClassId) (cs : Int32) (c0 : Int32) (h0 : Heap) (n0 : Nat) (Z0 : n0 ≤ h0.size) (Ea : Exa Z h0 oa "java/lang/String") (Fv : Fld Z h0 oa "java/lang/String" "value" "[B" .null) (Fc : Fld Z h0 oa "java/lang/String" "coder" "B" (.int (0 : Int32))) (g_oa : n0 ≤ oa) (ne_ca : cc ≠ oa) (Ac : Arv Z h0 cc kc .char (1 : Int32) [.int c0] (.int (0 : Int32))) (SC : Sta Z Z.heap "java/lang/String" "COMPACT_STRINGS" "Z" (.int cs)) (hcs : ¬ cs = 0) (XO : Old Z n0 h0) (hp0 : ¬ (255 : Int32) < c0) :
    MetFree l (⟨"java/lang/String", "<init>", "([CIILjava/lang/Void;)V"⟩ : MethodName) (head1 (Jvm.Cond.code (⟨"java/lang/String", "<init>", "([CIILjava/lang/Void;)V"⟩ : MethodName) jdk_42_method_149_code 6 none :: ws) ({ frames := 2, cells := 1, slots := 1, locals := 35 } : Room)) (fun a U => a = #[(.ref oa), (.ref cc), (.int (0 : Int32)), (.int (1 : Int32)), .null] ∧ Z.Warmed39 U.vm ∧ U.heap = h0) (fun _ _ _ _ _ => True) (fun _ U o U' => ∃ v L, o = .returned v ∧ own_QL1d Z oa c0 h0 n0 v U'.heap L ∧ FrameEnd U o U' L ({ frames := 2, cells := 1, slots := 1, locals := 35 } : Room).cells ({ frames := 2, cells := 1, slots := 1, locals := 35 } : Room).slots) := by
  refine MetFree.of_bodySF (plainFor_of_name pnL1d) hisR ?_
  intro p e s m args below meth c s₁ Bd hml0 hP hK
  obtain ⟨rfl, hZ, hh⟩ := hP
  have hx := Bd.exec
  have hby := Bd.bytes
  have hml : c.maxLocals = 6 := hml0
  have hown : s.vm.findClass "java/lang/String" = some m.cls := findClass_of_methodNamed Bd.named
  have hnm := (name_of_methodNamed Bd.named Bd.method).1
  have hlk : meth.locks = false := Bd.notSynchronized
  have X0 : Stand p l e ({ frames := 2, cells := 1, slots := 1, locals := 35 } : Room) s m #[(.ref oa), (.ref cc), (.int (0 : Int32)), (.int (1 : Int32)), .null] below meth c s₁ [] 0 0 := Stand.of_body Bd
  have e0 : s₁.heap = h0 := by rw [← hh, Bd.state]; rfl
  have N0 := Fr.nil n0
  refine own_go (fun t k => castTop (efL1d m oa cc (0 : Int32) (1 : Int32)) k) ?_
  show own_Go p e below _ (s₁.setTop (mkF m 0 #[.val (.ref oa), .val (.ref cc), .val (.int (0 : Int32)), .val (.int (1 : Int32)), .val .null, .unset] []))
  refine own_go (fun t k => XS.aloadN X0.here hx rfl (hb hby dL1d_0) rfl rfl k) ?_
  show own_Go p e below _ (s₁.setTop (mkF m 1 #[.val (.ref oa), .val (.ref cc), .val (.int (0 : Int32)), .val (.int (1 : Int32)), .val .null, .unset] [(.ref oa)]))
  obtain ⟨T2, X2, e2, st2⟩ := initO X0 hx hZ hown (hw _ (List.mem_of_getElem? (i := 165) rfl)) (hw _ (List.mem_of_getElem? (i := 31) rfl)) (hw _ (List.mem_of_getElem? (i := 32) rfl)) e0 (g := (mkF m 1 #[.val (.ref oa), .val (.ref cc), .val (.int (0 : Int32)), .val (.int (1 : Int32)), .val .null, .unset] [(.ref oa)])) rfl (by rw [hml]; rfl) rfl (hb hby dL1d_1) (by decide) (W := 0) (by show 2 * 0 + _ ≤ _; exact Nat.le_of_eq rfl) (by decide)
  refine own_go (fun t k => st2 t k) ?_
  show own_Go p e below _ (T2.setTop (mkF m 4 #[.val (.ref oa), .val (.ref cc), .val (.int (0 : Int32)), .val (.int (1 : Int32)), .val .null, .unset] []))
  refine own_go (fun t k => XS.iloadN X2.here hx rfl (hb hby dL1d_4) rfl k) ?_
  show own_Go p e below _ (T2.setTop (mkF m 5 #[.val (.ref oa), .val (.ref cc), .val (.int (0 : Int32)), .val (.int (1 : Int32)), .val .null, .unset] [(.int (1 : Int32))]))
  refine own_go (fun t k => XS.ifYes X2.here hx rfl (pc0 := 5) (pc' := 27) rfl (hb hby dL1d_5) rfl ((if0 _ _).trans (feq (by decide : ¬ ((1 : Int32) = (0 : Int32)))).2) (by decide) (by decide) k) ?_
  show own_Go p e below _ (T2.setTop (mkF m 27 #[.val (.ref oa), .val (.ref cc), .val (.int (0 : Int32)), .val (.int (1 : Int32)), .val .null, .unset] []))
  obtain ⟨T3, X3, e3, st3⟩ := getS2 X2 hx hZ hown (host := "") (Or.inl (hw _ (List.mem_of_getElem? (i := 166) rfl))) Via.refl e2 (SC.ext XO.2) (g := (mkF m 27 #[.val (.ref oa), .val (.ref cc), .val (.int (0 : Int32)), .val (.int (1 : Int32)), .val .null, .unset] [])) rfl (hb hby dL1d_27)
  refine own_go (fun t k => st3 t k) ?_
  show own_Go p e below _ (T3.setTop (mkF m 30 #[.val (.ref oa), .val (.ref cc), .val (.int (0 : Int32)), .val (.int (1 : Int32)), .val .null, .unset] [(.int cs)]))
  refine own_go (fun t k => XS.ifNo X3.here hx rfl (hb hby dL1d_30) rfl ((if0 _ _).trans (feq hcs).1) k) ?_
  show own_Go p e below _ (T3.setTop (mkF m 33 #[.val (.ref oa), .val (.ref cc), .val (.int (0 : Int32)), .val (.int (1 : Int32)), .val .null, .unset] []))
  refine own_go (fun t k => XS.aloadN X3.here hx rfl (hb hby dL1d_33) rfl rfl k) ?_
  show own_Go p e below _ (T3.setTop (mkF m 34 #[.val (.ref oa), .val (.ref cc), .val (.int (0 : Int32)), .val (.int (1 : Int32)), .val .null, .unset] [(.ref cc)]))
  refine own_go (fun t k => XS.iloadN X3.here hx rfl (hb hby dL1d_34) rfl k) ?_
  show own_Go p e below _ (T3.setTop (mkF m 35 #[.val (.ref oa), .val (.ref cc), .val (.int (0 : Int32)), .val (.int (1 : Int32)), .val .null, .unset] [(.int (0 : Int32)), (.ref cc)]))
  refine own_go (fun t k => XS.iloadN X3.here hx rfl (hb hby dL1d_35) rfl k) ?_
  show own_Go p e below _ (T3.setTop (mkF m 36 #[.val (.ref oa), .val (.ref cc), .val (.int (0 : Int32)), .val (.int (1 : Int32)), .val .null, .unset] [(.int (1 : Int32)), (.int (0 : Int32)), (.ref cc)]))
  obtain ⟨_, _, ⟨T4, L4, k4, n4⟩, -, X4, ⟨Lc4, hQ4, l4, y4, z4⟩, st4⟩ := Jvm.LawKit.callS X3 hx (y := (⟨"java/lang/StringUTF16", "compress", "([CII)[B"⟩ : MethodName)) hown (mvT hZ (hw _ (List.mem_of_getElem? (i := 167) rfl))) (mvT hZ (hw _ (List.mem_of_getElem? (i := 168) rfl))) (mvT hZ (hw _ (List.mem_of_getElem? (i := 169) rfl))) (mvT hZ (hw _ (List.mem_of_getElem? (i := 170) rfl))) (by decide) (backOf (W := 0) (rmL1c l Z a0 hw [] cc kc c0 h0 n0 Z0 Ac hp0) hZ (hw _ (List.mem_of_getElem? (i := 170) rfl)) (hw _ (List.mem_of_getElem? (i := 169) rfl)) (by decide) (by decide)) (g := (mkF m 36 #[.val (.ref oa), .val (.ref cc), .val (.int (0 : Int32)), .val (.int (1 : Int32)), .val .null, .unset] [(.int (1 : Int32)), (.int (0 : Int32)), (.ref cc)])) rfl (by rw [hml]; rfl) (argsL := [(.ref cc), (.int (0 : Int32)), (.int (1 : Int32))]) (rest := []) (lenOf pdL1d_0 rfl) rfl (by show 2 * 0 + _ ≤ _; exact Nat.le_of_eq rfl) (hb hby dL1d_36) (fun _ _ => ⟨rfl, e3, (by decide : 0 + 1 ≤ _), (by decide : 0 + 1 ≤ _)⟩)
  dsimp only [Pt.U, Pt.locs, Pt.cells, Pt.slots] at X4 l4 y4 z4 st4 hQ4
  subst l4 y4 z4
  obtain ⟨d4, kd4, rfl, Nq4, K4, ge4, A4⟩ := hQ4
  have N4 := Fr.app N0 Nq4
  refine own_go (fun t k => st4 t k) ?_
  have g_d4 : n0 ≤ d4 := Nat.le_trans Z0 ge4
  have sz_d4 : h0.size ≤ d4 := Nat.le_trans (Keep.refl h0 [oa]).1 ge4
  have ne_oa_d4 : oa ≠ d4 := Nat.ne_of_lt (Nat.lt_of_lt_of_le Ea.lt ge4)
  have ne_cc_d4 : cc ≠ d4 := Nat.ne_of_lt (Nat.lt_of_lt_of_le Ac.lt ge4)
  have Ea__4 := Ea.keep K4
  have Fv__4 := Fv.keep K4 nin0
  have Fc__4 := Fc.keep K4 nin0
  have Ac__4 := Ac.keep K4 nin0
  have XO__4 := XO.keep K4 all0
  have KP4 := (Keep.refl h0 [oa]).trans K4 all0
  have sz4 := Nat.le_trans Z0 K4.1
  show own_Go p e below _ (T4.setTop (mkF m 39 #[.val (.ref oa), .val (.ref cc), .val (.int (0 : Int32)), .val (.int (1 : Int32)), .val .null, .unset] [(.ref d4)]))
  refine own_go (fun t k => XS.astore X4.here hx rfl (hb hby dL1d_39) rfl rfl (l' := #[.val (.ref oa), .val (.ref cc), .val (.int (0 : Int32)), .val (.int (1 : Int32)), .val .null, .val (.ref d4)]) rfl k) ?_
  show own_Go p e below _ (T4.setTop (mkF m 41 #[.val (.ref oa), .val (.ref cc), .val (.int (0 : Int32)), .val (.int (1 : Int32)), .val .null, .val (.ref d4)] []))
  refine own_go (fun t k => XS.aloadN X4.here hx rfl (hb hby dL1d_41) rfl rfl k) ?_
  show own_Go p e below _ (T4.setTop (mkF m 42 #[.val (.ref oa), .val (.ref cc), .val (.int (0 : Int32)), .val (.int (1 : Int32)), .val .null, .val (.ref d4)] [(.ref oa)]))
  refine own_go (fun t k => XS.aload X4.here hx rfl (hb hby dL1d_42) rfl rfl k) ?_
  show own_Go p e below _ (T4.setTop (mkF m 44 #[.val (.ref oa), .val (.ref cc), .val (.int (0 : Int32)), .val (.int (1 : Int32)), .val .null, .val (.ref d4)] [(.ref d4), (.ref oa)]))
  refine own_go (fun t k => XS.iloadN X4.here hx rfl (hb hby dL1d_44) rfl k) ?_
  show own_Go p e below _ (T4.setTop (mkF m 45 #[.val (.ref oa), .val (.ref cc), .val (.int (0 : Int32)), .val (.int (1 : Int32)), .val .null, .val (.ref d4)] [(.int (1 : Int32)), (.ref d4), (.ref oa)]))
  obtain ⟨_, _, ⟨T5, L5, k5, n5⟩, -, X5, ⟨Lc5, hQ5, l5, y5, z5⟩, st5⟩ := Jvm.LawKit.callS X4 hx (y := (⟨"java/lang/StringUTF16", "coderFromArrayLen", "([BI)B"⟩ : MethodName)) hown (mvT hZ (hw _ (List.mem_of_getElem? (i := 174) rfl))) (mvT hZ (hw _ (List.mem_of_getElem? (i := 175) rfl))) (mvT hZ (hw _ (List.mem_of_getElem? (i := 169) rfl))) (mvT hZ (hw _ (List.mem_of_getElem? (i := 176) rfl))) (by decide) (backOf (W := 1) (rmL1a l Z a0 hw [] d4 kd4 (nar .byte (c0.toInt8.toInt32)) T4.heap n0 sz4 A4) hZ (hw _ (List.mem_of_getElem? (i := 176) rfl)) (hw _ (List.mem_of_getElem? (i := 169) rfl)) (by decide) (by decide)) (g := (mkF m 45 #[.val (.ref oa), .val (.ref cc), .val (.int (0 : Int32)), .val (.int (1 : Int32)), .val .null, .val (.ref d4)] [(.int (1 : Int32)), (.ref d4), (.ref oa)])) rfl (by rw [hml]; rfl) (argsL := [(.ref d4), (.int (1 : Int32))]) (rest := [(.ref oa)]) (lenOf pdL1d_1 rfl) rfl (by show 2 * 0 + _ ≤ _; exact Nat.le_of_eq rfl) (hb hby dL1d_45) (fun _ _ => ⟨rfl, rfl, (by decide : 0 + 1 + 0 ≤ _), (by decide : 0 + 1 + 0 ≤ _)⟩)
  dsimp only [Pt.U, Pt.locs, Pt.cells, Pt.slots] at X5 l5 y5 z5 st5 hQ5
  subst l5 y5 z5
  obtain ⟨rfl, Nq5, e5⟩ := hQ5
  have N5 := Fr.app N4 Nq5
  refine own_go (fun t k => st5 t k) ?_
  show own_Go p e below _ (T5.setTop (mkF m 48 #[.val (.ref oa), .val (.ref cc), .val (.int (0 : Int32)), .val (.int (1 : Int32)), .val .null, .val (.ref d4)] [(.int (0 : Int32)), (.ref oa)]))
  obtain ⟨T6, h6, X6, e6, W6, st6⟩ := putF X5 hx hZ hown (host := "") (Or.inl (hw _ (List.mem_of_getElem? (i := 177) rfl))) Via.refl e5 Fc__4 Ea__4 (Or.inr ⟨(hw _ (List.mem_of_getElem? (i := 9) rfl)), rfl, hnm⟩) (hw _ (List.mem_of_getElem? (i := 6) rfl)) (ty := .byte) (by decide) rfl rfl (g := (mkF m 48 #[.val (.ref oa), .val (.ref cc), .val (.int (0 : Int32)), .val (.int (1 : Int32)), .val .null, .val (.ref d4)] [(.int (0 : Int32)), (.ref oa)])) rfl rfl (hb hby dL1d_48)
  have Fw6 := Fc__4.same W6
  have Ea__6 := Ea__4.wr W6
  have Fv__6 := Fv__4.other W6 (Or.inr (slot_ne (Or.inr (hw _ (List.mem_of_getElem? (i := 8) rfl))) (Or.inr (hw _ (List.mem_of_getElem? (i := 9) rfl))) (by decide) (t := (.array .byte)) (t' := .byte) (by decide) (by decide)))
  have Ac__6 := Ac__4.other W6 ne_ca
  have XO__6 := XO__4.wr W6 g_oa
  have A4__6 := A4.other W6 (Ne.symm ne_oa_d4)
  have N6 := Fr.snoc X6 N5 g_oa
  have KP6 := KP4.wr W6 (Or.inl (List.mem_of_getElem? (i := 0) rfl))
  have sz6 := Nat.le_trans sz4 (Keep.of_wr W6).1
  refine own_go (fun t k => st6 t k) ?_
  show own_Go p e below _ (T6.setTop (mkF m 51 #[.val (.ref oa), .val (.ref cc), .val (.int (0 : Int32)), .val (.int (1 : Int32)), .val .null, .val (.ref d4)] []))
  refine own_go (fun t k => XS.aloadN X6.here hx rfl (hb hby dL1d_51) rfl rfl k) ?_
  show own_Go p e below _ (T6.setTop (mkF m 52 #[.val (.ref oa), .val (.ref cc), .val (.int (0 : Int32)), .val (.int (1 : Int32)), .val .null, .val (.ref d4)] [(.ref oa)]))
  refine own_go (fun t k => XS.aload X6.here hx rfl (hb hby dL1d_52) rfl rfl k) ?_
  show own_Go p e below _ (T6.setTop (mkF m 54 #[.val (.ref oa), .val (.ref cc), .val (.int (0 : Int32)), .val (.int (1 : Int32)), .val .null, .val (.ref d4)] [(.ref d4), (.ref oa)]))
  obtain ⟨T7, h7, X7, e7, W7, st7⟩ := putF X6 hx hZ hown (host := "") (Or.inl (hw _ (List.mem_of_getElem? (i := 178) rfl))) Via.refl e6 Fv__6 Ea__6 (Or.inr ⟨(hw _ (List.mem_of_getElem? (i := 8) rfl)), rfl, hnm⟩) (hw _ (List.mem_of_getElem? (i := 6) rfl)) (ty := (.array .byte)) (by decide) rfl rfl (g := (mkF m 54 #[.val (.ref oa), .val (.ref cc), .val (.int (0 : Int32)), .val (.int (1 : Int32)), .val .null, .val (.ref d4)] [(.ref d4), (.ref oa)])) rfl rfl (hb hby dL1d_54)
  have Fw7 := Fv__6.same W7
  have Ea__7 := Ea__6.wr W7
  have Fw6__7 := Fw6.other W7 (Or.inr (slot_ne (Or.inr (hw _ (List.mem_of_getElem? (i := 9) rfl))) (Or.inr (hw _ (List.mem_of_getElem? (i := 8) rfl))) (by decide) (t := .byte) (t' := (.array .byte)) (by decide) (by decide)))
  have Ac__7 := Ac__6.other W7 ne_ca
  have XO__7 := XO__6.wr W7 g_oa
  have A4__7 := A4__6.other W7 (Ne.symm ne_oa_d4)
  have N7 := Fr.snoc X7 N6 g_oa
  have KP7 := KP6.wr W7 (Or.inl (List.mem_of_getElem? (i := 0) rfl))
  have sz7 := Nat.le_trans sz6 (Keep.of_wr W7).1
  refine own_go (fun t k => st7 t k) ?_
  show own_Go p e below _ (T7.setTop (mkF m 57 #[.val (.ref oa), .val (.ref cc), .val (.int (0 : Int32)), .val (.int (1 : Int32)), .val .null, .val (.ref d4)] []))
  exact own_ret0 X7 hx Bd.returns (hb hby dL1d_57) (by rw [e7]; exact ⟨rfl, N7, KP7, Fw6__7, _, _, sz_d4, Fw7, A4__7⟩) (by decide) (by decide)
theorem dL1e_0 : decode jdk_42_method_3_code 0 = .ok (.aload_n 0, 1) := by decide +kernel
theorem dL1e_1 : decode jdk_42_method_3_code 1 = .ok (.aload_n 1, 1) := by decide +kernel
theorem dL1e_2 : decode jdk_42_method_3_code 2 = .ok (.iconst 0, 1) := by decide +kernel
theorem dL1e_3 : decode jdk_42_method_3_code 3 = .ok (.aload_n 1, 1) := by decide +kernel
theorem dL1e_4 : decode jdk_42_method_3_code 4 = .ok (.arraylength, 1) := by decide +kernel
theorem dL1e_5 : decode jdk_42_method_3_code 5 = .ok (.aconst_null, 1) := by decide +kernel
theorem dL1e_6 : decode jdk_42_method_3_code 6 = .ok (.invokespecial 27, 3) := by decide +kernel
theorem dL1e_9 : decode jdk_42_method_3_code 9 = .ok (.return_, 1) := by decide +kernel
theorem pnL1e : plainName "java/lang/String" = true := by first | (simp [plainName, overriddenIn]; done) | decide +kernel
theorem pdL1e_0 : parseMethodDescriptor "([CIILjava/lang/Void;)V" = some ⟨[(.array .char), .int, .int, (.object "java/lang/Void")], none⟩ := by decide +kernel
theorem efL1e (m : MethodId) (x0 : Addr) (x1 : Addr) : entryFrame m #[(.ref x0), (.ref x1)] 2 = mkF m 0 #[.val (.ref x0), .val (.ref x1)] [] := by first | (simp [entryFrame, mkF, argsToLocals, Value.category]; done) | rfl
set_option maxRecDepth 65536 in
set_option maxHeartbeats 40000000 in
theorem rmL1e (l : Launch) (Z : State) (a0 : Array Value) (hw : ∀ d ∈ tables_1, d.before a0 Z = true) (ws : List Jvm.Cond) (oa cc : Addr) (kc : ClassId) (cs : Int32) (c0 : Int32) (h0 : Heap) (n0 : Nat) (Z0 : n0 ≤ h0.size) (Ea : Exa Z h0 oa "java/lang/String") (Fv : Fld Z h0 oa "java/lang/String" "value" "[B" .null) (Fc : Fld Z h0 oa "java/lang/String" "coder" "B" (.int (0 : Int32))) (g_oa : n0 ≤ oa) (ne_ca : cc ≠ oa) (Ac : Arv Z h0 cc kc .char (1 : Int32) [.int c0] (.int (0 : Int32))) (SC : Sta Z Z.heap "java/lang/String" "COMPACT_STRINGS" "Z" (.int cs)) (hcs : ¬ cs = 0) (XO : Old Z n0 h0) (hp0 : ¬ (255 : Int32) < c0) :
    MetFree l (⟨"java/lang/String", "<init>", "([C)V"⟩ : MethodName) (head1 (Jvm.Cond.code (⟨"java/lang/String", "<init>", "([C)V"⟩ : MethodName) jdk_42_method_3_code 2 none :: ws) ({ frames := 3, cells := 1, slots := 1, locals := 52 } : Room)) (fun a U => a = #[(.ref oa), (.ref cc)] ∧ Z.Warmed39 U.vm ∧ U.heap = h0) (fun _ _ _ _ _ => True) (fun _ U o U' => ∃ v L, o = .returned v ∧ own_QL1d Z oa c0 h0 n0 v U'.heap L ∧ FrameEnd U o U' L ({ frames := 3, cells := 1, slots := 1, locals := 52 } : Room).cells ({ frames := 3, cells := 1, slots := 1, locals := 52 } : Room).slots) := by
  refine MetFree.of_bodySF (plainFor_of_name pnL1e) hisR ?_
  intro p e s m args below meth c s₁ Bd hml0 hP hK
  obtain ⟨rfl, hZ, hh⟩ := hP
  have hx := Bd.exec
  have hby := Bd.bytes
  have hml : c.maxLocals = 2 := hml0
  have hown : s.vm.findClass "java/lang/String" = some m.cls := findClass_of_methodNamed Bd.named
  have hnm := (name_of_methodNamed Bd.named Bd.method).1
  have hlk : meth.locks = false := Bd.notSynchronized
  have X0 : Stand p l e ({ frames := 3, cells := 1, slots := 1, locals := 52 } : Room) s m #[(.ref oa), (.ref cc)] below meth c s₁ [] 0 0 := Stand.of_body Bd
  have e0 : s₁.heap = h0 := by rw [← hh, Bd.state]; rfl
  have N0 := Fr.nil n0
  refine own_go (fun t k => castTop (efL1e m oa cc) k) ?_
  show own_Go p e below _ (s₁.setTop (mkF m 0 #[.val (.ref oa), .val (.ref cc)] []))
  refine own_go (fun t k => XS.aloadN X0.here hx rfl (hb hby dL1e_0) rfl rfl k) ?_
  show own_Go p e below _ (s₁.setTop (mkF m 1 #[.val (.ref oa), .val (.ref cc)] [(.ref oa)]))
  refine own_go (fun t k => XS.aloadN X0.here hx rfl (hb hby dL1e_1) rfl rfl k) ?_
  show own_Go p e below _ (s₁.setTop (mkF m 2 #[.val (.ref oa), .val (.ref cc)] [(.ref cc), (.ref oa)]))
  refine own_go (fun t k => XS.iconst X0.here hx rfl (hb hby dL1e_2) k) ?_
  show own_Go p e below _ (s₁.setTop (mkF m 3 #[.val (.ref oa), .val (.ref cc)] [(.int (0 : Int32)), (.ref cc), (.ref oa)]))
  refine own_go (fun t k => XS.aloadN X0.here hx rfl (hb hby dL1e_3) rfl rfl k) ?_
  show own_Go p e below _ (s₁.setTop (mkF m 4 #[.val (.ref oa), .val (.ref cc)] [(.ref cc), (.int (0 : Int32)), (.ref cc), (.ref oa)]))
  obtain ⟨cl1, Ar1, -, Sa1, Na1, -, -⟩ := id Ac
  have ln1 := len_of Sa1 Na1
  refine own_go (fun t k => X0.arraylength hx (by rw [e0]; exact Ar1.1) (State.isArrayOf_alike hZ.alike Ar1.2.1) (g := (mkF m 4 #[.val (.ref oa), .val (.ref cc)] [(.ref cc), (.int (0 : Int32)), (.ref cc), (.ref oa)])) rfl rfl (hb hby dL1e_4) t (by rw [ln1]; exact k)) ?_
  show own_Go p e below _ (s₁.setTop (mkF m 5 #[.val (.ref oa), .val (.ref cc)] [(.int (1 : Int32)), (.int (0 : Int32)), (.ref cc), (.ref oa)]))
  refine own_go (fun t k => XS.aconstNull X0.here hx rfl (hb hby dL1e_5) k) ?_
  show own_Go p e below _ (s₁.setTop (mkF m 6 #[.val (.ref oa), .val (.ref cc)] [.null, (.int (1 : Int32)), (.int (0 : Int32)), (.ref cc), (.ref oa)]))
  obtain ⟨_, _, ⟨T2, L2, k2, n2⟩, -, X2, ⟨Lc2, hQ2, l2, y2, z2⟩, st2⟩ := X0.specialBack hx (y := (⟨"java/lang/String", "<init>", "([CIILjava/lang/Void;)V"⟩ : MethodName)) rfl hown (mvT hZ (hw _ (List.mem_of_getElem? (i := 161) rfl))) (mvT hZ (hw _ (List.mem_of_getElem? (i := 162) rfl))) (mvT hZ (hw _ (List.mem_of_getElem? (i := 164) rfl))) (by decide) (backOf (W := 0) (rmL1d l Z a0 hw [] oa cc kc cs c0 h0 n0 Z0 Ea Fv Fc g_oa ne_ca Ac SC hcs XO hp0) hZ (hw _ (List.mem_of_getElem? (i := 164) rfl)) (hw _ (List.mem_of_getElem? (i := 5) rfl)) (by decide) (by decide)) (g := (mkF m 6 #[.val (.ref oa), .val (.ref cc)] [.null, (.int (1 : Int32)), (.int (0 : Int32)), (.ref cc), (.ref oa)])) rfl (by rw [hml]; rfl) (Steps.refl _) (a := oa) (argsL := [(.ref cc), (.int (0 : Int32)), (.int (1 : Int32)), .null]) (rest := []) (lenOf pdL1e_0 rfl) rfl (by show 2 * 0 + _ ≤ _; exact Nat.le_of_eq rfl) (hb hby dL1e_6) (fun _ _ => ⟨rfl, e0, (by decide : 0 + 1 ≤ _), (by decide : 0 + 1 ≤ _)⟩)
  dsimp only [Pt.U, Pt.locs, Pt.cells, Pt.slots] at X2 l2 y2 z2 st2 hQ2
  subst l2 y2 z2
  obtain ⟨rfl, Nq2, K2, Fc2, d2, kd2, ge2, Fv2, A2⟩ := hQ2
  have N2 := Fr.app N0 Nq2
  refine own_go (fun t k => st2.trans k) ?_
  have g_d2 : n0 ≤ d2 := Nat.le_trans Z0 ge2
  have sz_d2 : h0.size ≤ d2 := Nat.le_trans (Keep.refl h0 [oa]).1 ge2
  have ne_oa_d2 : oa ≠ d2 := Nat.ne_of_lt (Nat.lt_of_lt_of_le Ea.lt ge2)
  have ne_cc_d2 : cc ≠ d2 := Nat.ne_of_lt (Nat.lt_of_lt_of_le Ac.lt ge2)
  have Ea__2 := Ea.keep K2
  have Ac__2 := Ac.keep K2 (ninS ne_ca nin0)
  have XO__2 := XO.keep K2 (allS g_oa all0)
  have KP2 := (Keep.refl h0 [oa]).trans K2 (allS (Or.inl (List.mem_of_getElem? (i := 0) rfl)) all0)
  have sz2 := Nat.le_trans Z0 K2.1
  show own_Go p e below _ (T2.setTop (mkF m 9 #[.val (.ref oa), .val (.ref cc)] []))
  exact own_ret0 X2 hx Bd.returns (hb hby dL1e_9) (⟨rfl, N2, KP2, Fc2, _, _, sz_d2, Fv2, A2⟩) (by decide) (by decide)
theorem dL2b_0 : decode jdk_52_method_21_code 0 = .ok (.iconst 0, 1) := by decide +kernel
theorem dL2b_1 : decode jdk_52_method_21_code 1 = .ok (.istore 5, 2) := by decide +kernel
theorem dL2b_3 : decode jdk_52_method_21_code 3 = .ok (.iload 5, 2) := by decide +kernel
theorem dL2b_5 : decode jdk_52_method_21_code 5 = .ok (.iload 4, 2) := by decide +kernel
theorem dL2b_7 : decode jdk_52_method_21_code 7 = .ok (.if_icmp .ge 37, 3) := by decide +kernel
theorem dL2b_10 : decode jdk_52_method_21_code 10 = .ok (.aload_n 0, 1) := by decide +kernel
theorem dL2b_11 : decode jdk_52_method_21_code 11 = .ok (.iload_n 1, 1) := by decide +kernel
theorem dL2b_12 : decode jdk_52_method_21_code 12 = .ok (.caload, 1) := by decide +kernel
theorem dL2b_13 : decode jdk_52_method_21_code 13 = .ok (.istore 6, 2) := by decide +kernel
theorem dL2b_15 : decode jdk_52_method_21_code 15 = .ok (.iload 6, 2) := by decide +kernel
theorem dL2b_17 : decode jdk_52_method_21_code 17 = .ok (.sipush 255, 3) := by decide +kernel
theorem dL2b_20 : decode jdk_52_method_21_code 20 = .ok (.if_icmp .le 6, 3) := by decide +kernel
theorem dL2b_26 : decode jdk_52_method_21_code 26 = .ok (.aload_n 2, 1) := by decide +kernel
theorem dL2b_27 : decode jdk_52_method_21_code 27 = .ok (.iload_n 3, 1) := by decide +kernel
theorem dL2b_28 : decode jdk_52_method_21_code 28 = .ok (.iload 6, 2) := by decide +kernel
theorem dL2b_30 : decode jdk_52_method_21_code 30 = .ok (.i2b, 1) := by decide +kernel
theorem dL2b_31 : decode jdk_52_method_21_code 31 = .ok (.bastore, 1) := by decide +kernel
theorem dL2b_32 : decode jdk_52_method_21_code 32 = .ok (.iinc 1 1, 3) := by decide +kernel
theorem dL2b_35 : decode jdk_52_method_21_code 35 = .ok (.iinc 3 1, 3) := by decide +kernel
theorem dL2b_38 : decode jdk_52_method_21_code 38 = .ok (.iinc 5 1, 3) := by decide +kernel
theorem dL2b_41 : decode jdk_52_method_21_code 41 = .ok (.goto (-38), 3) := by decide +kernel
theorem dL2b_44 : decode jdk_52_method_21_code 44 = .ok (.iload 4, 2) := by decide +kernel
theorem dL2b_46 : decode jdk_52_method_21_code 46 = .ok (.ireturn, 1) := by decide +kernel
theorem pnL2b : plainName "java/lang/StringUTF16" = true := by first | (simp [plainName, overriddenIn]; done) | decide +kernel
theorem efL2b (m : MethodId) (x0 : Addr) (x1 : Int32) (x2 : Addr) (x3 : Int32) (x4 : Int32) : entryFrame m #[(.ref x0), (.int x3), (.ref x2), (.int x3), (.int x4)] 7 = mkF m 0 #[.val (.ref x0), .val (.int x3), .val (.ref x2), .val (.int x3), .val (.int x4), .unset, .unset] [] := by first | (simp [entryFrame, mkF, argsToLocals, Value.category]; done) | rfl
def own_QL2b (Z : State) (u : Addr) (ku : ClassId) (c0 c1 : Int32) (h0 : Heap) (n0 : Nat) (v : Option Value) (h : Heap) (L : List Loc) : Prop := v = some (.int (2 : Int32)) ∧ Fr n0 L ∧ Keep h0 h [u] ∧ Arv Z h u ku .byte (2 : Int32) [.int (nar .byte (c0.toInt8.toInt32)), .int (nar .byte (c1.toInt8.toInt32))] (.int (0 : Int32))
set_option maxRecDepth 65536 in
set_option maxHeartbeats 40000000 in
theorem rmL2b (l : Launch) (Z : State) (a0 : Array Value) (hw : ∀ d ∈ tables_1, d.before a0 Z = true) (ws : List Jvm.Cond) (cc u : Addr) (kc ku : ClassId) (c0 c1 : Int32) (h0 : Heap) (n0 : Nat) (Z0 : n0 ≤ h0.size) (Ac : Arv Z h0 cc kc .char (2 : Int32) [.int c0, .int c1] (.int (0 : Int32))) (Au : Arv Z h0 u ku .byte (2 : Int32) [.int (0 : Int32), .int (0 : Int32)] (.int (0 : Int32))) (g_u : n0 ≤ u) (ne_cu : cc ≠ u) (hp0 : ¬ (255 : Int32) < c0) (hp1 : ¬ (255 : Int32) < c1) :
    MetFree l (⟨"java/lang/StringUTF16", "compress", "([CI[BII)I"⟩ : MethodName) (head1 (Jvm.Cond.code (⟨"java/lang/StringUTF16", "compress", "([CI[BII)I"⟩ : MethodName) jdk_52_method_21_code 7 (some .int) :: ws) ({ frames := 0, cells := 0, slots := 0, locals := 0 } : Room)) (fun a U => a = #[(.ref cc), (.int (0 : Int32)), (.ref u), (.int (0 : Int32)), (.int (2 : Int32))] ∧ Z.Warmed39 U.vm ∧ U.heap = h0) (fun _ _ _ _ _ => True) (fun _ U o U' => ∃ v L, o = .returned v ∧ own_QL2b Z u ku c0 c1 h0 n0 v U'.heap L ∧ FrameEnd U o U' L ({ frames := 0, cells := 0, slots := 0, locals := 0 } : Room).cells ({ frames := 0, cells := 0, slots := 0, locals := 0 } : Room).slots) := by
  refine MetFree.of_bodySF (plainFor_of_name pnL2b) hisR ?_
  intro p e s m args below meth c s₁ Bd hml0 hP hK
  obtain ⟨rfl, hZ, hh⟩ := hP
  have hx := Bd.exec
  have hby := Bd.bytes
  have hml : c.maxLocals = 7 := hml0
  have hown : s.vm.findClass "java/lang/StringUTF16" = some m.cls := findClass_of_methodNamed Bd.named
  have hnm := (name_of_methodNamed Bd.named Bd.method).1
  have hlk : meth.locks = false := Bd.notSynchronized
  have X0 : Stand p l e ({ frames := 0, cells := 0, slots := 0, locals := 0 } : Room) s m #[(.ref cc), (.int (0 : Int32)), (.ref u), (.int (0 : Int32)), (.int (2 : Int32))] below meth c s₁ [] 0 0 := Stand.of_body Bd
  have e0 : s₁.heap = h0 := by rw [← hh, Bd.state]; rfl
  have N0 := Fr.nil n0
  refine own_go (fun t k => castTop (efL2b m cc (0 : Int32) u (0 : Int32) (2 : Int32)) k) ?_
  show own_Go p e below _ (s₁.setTop (mkF m 0 #[.val (.ref cc), .val (.int (0 : Int32)), .val (.ref u), .val (.int (0 : Int32)), .val (.int (2 : Int32)), .unset, .unset] []))
  refine own_go (fun t k => XS.iconst X0.here hx rfl (hb hby dL2b_0) k) ?_
  show own_Go p e below _ (s₁.setTop (mkF m 1 #[.val (.ref cc), .val (.int (0 : Int32)), .val (.ref u), .val (.int (0 : Int32)), .val (.int (2 : Int32)), .unset, .unset] [(.int (0 : Int32))]))
  refine own_go (fun t k => XS.istore X0.here hx rfl (hb hby dL2b_1) rfl (l' := #[.val (.ref cc), .val (.int (0 : Int32)), .val (.ref u), .val (.int (0 : Int32)), .val (.int (2 : Int32)), .val (.int (0 : Int32)), .unset]) rfl k) ?_
  show own_Go p e below _ (s₁.setTop (mkF m 3 #[.val (.ref cc), .val (.int (0 : Int32)), .val (.ref u), .val (.int (0 : Int32)), .val (.int (2 : Int32)), .val (.int (0 : Int32)), .unset] []))
  refine own_go (fun t k => XS.iload X0.here hx rfl (hb hby dL2b_3) rfl k) ?_
  show own_Go p e below _ (s₁.setTop (mkF m 5 #[.val (.ref cc), .val (.int (0 : Int32)), .val (.ref u), .val (.int (0 : Int32)), .val (.int (2 : Int32)), .val (.int (0 : Int32)), .unset] [(.int (0 : Int32))]))
  refine own_go (fun t k => XS.iload X0.here hx rfl (hb hby dL2b_5) rfl k) ?_
  show own_Go p e below _ (s₁.setTop (mkF m 7 #[.val (.ref cc), .val (.int (0 : Int32)), .val (.ref u), .val (.int (0 : Int32)), .val (.int (2 : Int32)), .val (.int (0 : Int32)), .unset] [(.int (2 : Int32)), (.int (0 : Int32))]))
  refine own_go (fun t k => XS.icmpNo X0.here hx rfl (hb hby dL2b_7) rfl (tlt (by decide : (0 : Int32) < (2 : Int32))).2.1 k) ?_
  show own_Go p e below _ (s₁.setTop (mkF m 10 #[.val (.ref cc), .val (.int (0 : Int32)), .val (.ref u), .val (.int (0 : Int32)), .val (.int (2 : Int32)), .val (.int (0 : Int32)), .unset] []))
  refine own_go (fun t k => XS.aloadN X0.here hx rfl (hb hby dL2b_10) rfl rfl k) ?_
  show own_Go p e below _ (s₁.setTop (mkF m 11 #[.val (.ref cc), .val (.int (0 : Int32)), .val (.ref u), .val (.int (0 : Int32)), .val (.int (2 : Int32)), .val (.int (0 : Int32)), .unset] [(.ref cc)]))
  refine own_go (fun t k => XS.iloadN X0.here hx rfl (hb hby dL2b_11) rfl k) ?_
  show own_Go p e below _ (s₁.setTop (mkF m 12 #[.val (.ref cc), .val (.int (0 : Int32)), .val (.ref u), .val (.int (0 : Int32)), .val (.int (2 : Int32)), .val (.int (0 : Int32)), .unset] [(.int (0 : Int32)), (.ref cc)]))
  obtain ⟨cl1, Ar1, qa1, Sa1, Na1, Ha1, Ga1⟩ := id Ac
  have hin1 : ¬ ((0 : Int32) < 0 ∨ cl1.slots.size ≤ ((0 : Int32)).toNatClampNeg) := inb_of Sa1 ⟨by decide, by decide⟩
  have hat1 : cl1.slots[((0 : Int32)).toNatClampNeg]? = some (.int c0) := Ha1.at hin1 rfl
  refine own_go (fun t k => X0.caload hx (j := (0 : Int32)) (v := (.int c0)) (by rw [e0]; exact Ar1.1) (State.isArrayOf_alike hZ.alike Ar1.2.1) Ar1.2.2 hin1 hat1 (g := (mkF m 12 #[.val (.ref cc), .val (.int (0 : Int32)), .val (.ref u), .val (.int (0 : Int32)), .val (.int (2 : Int32)), .val (.int (0 : Int32)), .unset] [(.int (0 : Int32)), (.ref cc)])) rfl rfl (hb hby dL2b_12) t k) ?_
  show own_Go p e below _ (s₁.setTop (mkF m 13 #[.val (.ref cc), .val (.int (0 : Int32)), .val (.ref u), .val (.int (0 : Int32)), .val (.int (2 : Int32)), .val (.int (0 : Int32)), .unset] [(.int c0)]))
  refine own_go (fun t k => XS.istore X0.here hx rfl (hb hby dL2b_13) rfl (l' := #[.val (.ref cc), .val (.int (0 : Int32)), .val (.ref u), .val (.int (0 : Int32)), .val (.int (2 : Int32)), .val (.int (0 : Int32)), .val (.int c0)]) rfl k) ?_
  show own_Go p e below _ (s₁.setTop (mkF m 15 #[.val (.ref cc), .val (.int (0 : Int32)), .val (.ref u), .val (.int (0 : Int32)), .val (.int (2 : Int32)), .val (.int (0 : Int32)), .val (.int c0)] []))
  refine own_go (fun t k => XS.iload X0.here hx rfl (hb hby dL2b_15) rfl k) ?_
  show own_Go p e below _ (s₁.setTop (mkF m 17 #[.val (.ref cc), .val (.int (0 : Int32)), .val (.ref u), .val (.int (0 : Int32)), .val (.int (2 : Int32)), .val (.int (0 : Int32)), .val (.int c0)] [(.int c0)]))
  refine own_go (fun t k => XS.sipush X0.here hx rfl (hb hby dL2b_17) k) ?_
  show own_Go p e below _ (s₁.setTop (mkF m 20 #[.val (.ref cc), .val (.int (0 : Int32)), .val (.ref u), .val (.int (0 : Int32)), .val (.int (2 : Int32)), .val (.int (0 : Int32)), .val (.int c0)] [(.int (255 : Int32)), (.int c0)]))
  refine own_go (fun t k => XS.icmpYes X0.here hx rfl (pc0 := 20) (pc' := 26) rfl (hb hby dL2b_20) rfl (flt hp0).2.2.2 (by decide) (by decide) k) ?_
  show own_Go p e below _ (s₁.setTop (mkF m 26 #[.val (.ref cc), .val (.int (0 : Int32)), .val (.ref u), .val (.int (0 : Int32)), .val (.int (2 : Int32)), .val (.int (0 : Int32)), .val (.int c0)] []))
  refine own_go (fun t k => XS.aloadN X0.here hx rfl (hb hby dL2b_26) rfl rfl k) ?_
  show own_Go p e below _ (s₁.setTop (mkF m 27 #[.val (.ref cc), .val (.int (0 : Int32)), .val (.ref u), .val (.int (0 : Int32)), .val (.int (2 : Int32)), .val (.int (0 : Int32)), .val (.int c0)] [(.ref u)]))
  refine own_go (fun t k => XS.iloadN X0.here hx rfl (hb hby dL2b_27) rfl k) ?_
  show own_Go p e below _ (s₁.setTop (mkF m 28 #[.val (.ref cc), .val (.int (0 : Int32)), .val (.ref u), .val (.int (0 : Int32)), .val (.int (2 : Int32)), .val (.int (0 : Int32)), .val (.int c0)] [(.int (0 : Int32)), (.ref u)]))
  refine own_go (fun t k => XS.iload X0.here hx rfl (hb hby dL2b_28) rfl k) ?_
  show own_Go p e below _ (s₁.setTop (mkF m 30 #[.val (.ref cc), .val (.int (0 : Int32)), .val (.ref u), .val (.int (0 : Int32)), .val (.int (2 : Int32)), .val (.int (0 : Int32)), .val (.int c0)] [(.int c0), (.int (0 : Int32)), (.ref u)]))
  refine own_go (fun t k => XS.i2b X0.here hx rfl (hb hby dL2b_30) rfl k) ?_
  show own_Go p e below _ (s₁.setTop (mkF m 31 #[.val (.ref cc), .val (.int (0 : Int32)), .val (.ref u), .val (.int (0 : Int32)), .val (.int (2 : Int32)), .val (.int (0 : Int32)), .val (.int c0)] [(.int (c0.toInt8.toInt32)), (.int (0 : Int32)), (.ref u)]))
  obtain ⟨cl2, Ar2, qa2, Sa2, Na2, Ha2, Ga2⟩ := id Au
  have hin2 : ¬ ((0 : Int32) < 0 ∨ cl2.slots.size ≤ ((0 : Int32)).toNatClampNeg) := inb_of Sa2 ⟨by decide, by decide⟩
  obtain ⟨T2, h2, X2, e2, W2, st2⟩ := stB X0 hx hZ e0 Ar2 (j := (0 : Int32)) hin2 (g := (mkF m 31 #[.val (.ref cc), .val (.int (0 : Int32)), .val (.ref u), .val (.int (0 : Int32)), .val (.int (2 : Int32)), .val (.int (0 : Int32)), .val (.int c0)] [(.int (c0.toInt8.toInt32)), (.int (0 : Int32)), (.ref u)])) rfl rfl (hb hby dL2b_31)
  have Vw2 : Arv Z h2 u ku .byte (2 : Int32) [(.int (nar .byte (c0.toInt8.toInt32))), (.int (0 : Int32))] (.int (0 : Int32)) := Arv.set Ar2 qa2 Sa2 Na2 Ha2 Ga2 (fits_nar_byte _) W2 0 rfl (Nat.le_of_ble_eq_true rfl)
  have Ac__2 := Ac.other W2 ne_cu
  have N2 := Fr.snoc X2 N0 g_u
  have KP2 := (Keep.refl h0 [u]).wr W2 (Or.inl (List.mem_of_getElem? (i := 0) rfl))
  have sz2 := Nat.le_trans Z0 (Keep.of_wr W2).1
  refine own_go (fun t k => st2 t k) ?_
  show own_Go p e below _ (T2.setTop (mkF m 32 #[.val (.ref cc), .val (.int (0 : Int32)), .val (.ref u), .val (.int (0 : Int32)), .val (.int (2 : Int32)), .val (.int (0 : Int32)), .val (.int c0)] []))
  refine own_go (fun t k => XS.iinc X2.here hx rfl (hb hby dL2b_32) rfl (l' := #[.val (.ref cc), .val (.int (1 : Int32)), .val (.ref u), .val (.int (0 : Int32)), .val (.int (2 : Int32)), .val (.int (0 : Int32)), .val (.int c0)]) rfl k) ?_
  show own_Go p e below _ (T2.setTop (mkF m 35 #[.val (.ref cc), .val (.int (1 : Int32)), .val (.ref u), .val (.int (0 : Int32)), .val (.int (2 : Int32)), .val (.int (0 : Int32)), .val (.int c0)] []))
  refine own_go (fun t k => XS.iinc X2.here hx rfl (hb hby dL2b_35) rfl (l' := #[.val (.ref cc), .val (.int (1 : Int32)), .val (.ref u), .val (.int (1 : Int32)), .val (.int (2 : Int32)), .val (.int (0 : Int32)), .val (.int c0)]) rfl k) ?_
  show own_Go p e below _ (T2.setTop (mkF m 38 #[.val (.ref cc), .val (.int (1 : Int32)), .val (.ref u), .val (.int (1 : Int32)), .val (.int (2 : Int32)), .val (.int (0 : Int32)), .val (.int c0)] []))
  refine own_go (fun t k => XS.iinc X2.here hx rfl (hb hby dL2b_38) rfl (l' := #[.val (.ref cc), .val (.int (1 : Int32)), .val (.ref u), .val (.int (1 : Int32)), .val (.int (2 : Int32)), .val (.int (1 : Int32)), .val (.int c0)]) rfl k) ?_
  show own_Go p e below _ (T2.setTop (mkF m 41 #[.val (.ref cc), .val (.int (1 : Int32)), .val (.ref u), .val (.int (1 : Int32)), .val (.int (2 : Int32)), .val (.int (1 : Int32)), .val (.int c0)] []))
  refine own_go (fun t k => XS.goto X2.here hx rfl (pc0 := 41) (pc' := 3) rfl (hb hby dL2b_41) (by decide) (by decide) k) ?_
  show own_Go p e below _ (T2.setTop (mkF m 3 #[.val (.ref cc), .val (.int (1 : Int32)), .val (.ref u), .val (.int (1 : Int32)), .val (.int (2 : Int32)), .val (.int (1 : Int32)), .val (.int c0)] []))
  refine own_go (fun t k => XS.iload X2.here hx rfl (hb hby dL2b_3) rfl k) ?_
  show own_Go p e below _ (T2.setTop (mkF m 5 #[.val (.ref cc), .val (.int (1 : Int32)), .val (.ref u), .val (.int (1 : Int32)), .val (.int (2 : Int32)), .val (.int (1 : Int32)), .val (.int c0)] [(.int (1 : Int32))]))
  refine own_go (fun t k => XS.iload X2.here hx rfl (hb hby dL2b_5) rfl k) ?_
  show own_Go p e below _ (T2.setTop (mkF m 7 #[.val (.ref cc), .val (.int (1 : Int32)), .val (.ref u), .val (.int (1 : Int32)), .val (.int (2 : Int32)), .val (.int (1 : Int32)), .val (.int c0)] [(.int (2 : Int32)), (.int (1 : Int32))]))
  refine own_go (fun t k => XS.icmpNo X2.here hx rfl (hb hby dL2b_7) rfl (tlt (by decide : (1 : Int32) < (2 : Int32))).2.1 k) ?_
  show own_Go p e below _ (T2.setTop (mkF m 10 #[.val (.ref cc), .val (.int (1 : Int32)), .val (.ref u), .val (.int (1 : Int32)), .val (.int (2 : Int32)), .val (.int (1 : Int32)), .val (.int c0)] []))
  refine own_go (fun t k => XS.aloadN X2.here hx rfl (hb hby dL2b_10) rfl rfl k) ?_
  show own_Go p e below _ (T2.setTop (mkF m 11 #[.val (.ref cc), .val (.int (1 : Int32)), .val (.ref u), .val (.int (1 : Int32)), .val (.int (2 : Int32)), .val (.int (1 : Int32)), .val (.int c0)] [(.ref cc)]))
  refine own_go (fun t k => XS.iloadN X2.here hx rfl (hb hby dL2b_11) rfl k) ?_
  show own_Go p e below _ (T2.setTop (mkF m 12 #[.val (.ref cc), .val (.int (1 : Int32)), .val (.ref u), .val (.int (1 : Int32)), .val (.int (2 : Int32)), .val (.int (1 : Int32)), .val (.int c0)] [(.int (1 : Int32)), (.ref cc)]))
  obtain ⟨cl3, Ar3, qa3, Sa3, Na3, Ha3, Ga3⟩ := id Ac__2
  have hin3 : ¬ ((1 : Int32) < 0 ∨ cl3.slots.size ≤ ((1 : Int32)).toNatClampNeg) := inb_of Sa3 ⟨by decide, by decide⟩
  have hat3 : cl3.slots[((1 : Int32)).toNatClampNeg]? = some (.int c1) := Ha3.at hin3 rfl
  refine own_go (fun t k => X2.caload hx (j := (1 : Int32)) (v := (.int c1)) (by rw [e2]; exact Ar3.1) (State.isArrayOf_alike hZ.alike Ar3.2.1) Ar3.2.2 hin3 hat3 (g := (mkF m 12 #[.val (.ref cc), .val (.int (1 : Int32)), .val (.ref u), .val (.int (1 : Int32)), .val (.int (2 : Int32)), .val (.int (1 : Int32)), .val (.int c0)] [(.int (1 : Int32)), (.ref cc)])) rfl rfl (hb hby dL2b_12) t k) ?_
  show own_Go p e below _ (T2.setTop (mkF m 13 #[.val (.ref cc), .val (.int (1 : Int32)), .val (.ref u), .val (.int (1 : Int32)), .val (.int (2 : Int32)), .val (.int (1 : Int32)), .val (.int c0)] [(.int c1)]))
  refine own_go (fun t k => XS.istore X2.here hx rfl (hb hby dL2b_13) rfl (l' := #[.val (.ref cc), .val (.int (1 : Int32)), .val (.ref u), .val (.int (1 : Int32)), .val (.int (2 : Int32)), .val (.int (1 : Int32)), .val (.int c1)]) rfl k) ?_
  show own_Go p e below _ (T2.setTop (mkF m 15 #[.val (.ref cc), .val (.int (1 : Int32)), .val (.ref u), .val (.int (1 : Int32)), .val (.int (2 : Int32)), .val (.int (1 : Int32)), .val (.int c1)] []))
  refine own_go (fun t k => XS.iload X2.here hx rfl (hb hby dL2b_15) rfl k) ?_
  show own_Go p e below _ (T2.setTop (mkF m 17 #[.val (.ref cc), .val (.int (1 : Int32)), .val (.ref u), .val (.int (1 : Int32)), .val (.int (2 : Int32)), .val (.int (1 : Int32)), .val (.int c1)] [(.int c1)]))
  refine own_go (fun t k => XS.sipush X2.here hx rfl (hb hby dL2b_17) k) ?_
  show own_Go p e below _ (T2.setTop (mkF m 20 #[.val (.ref cc), .val (.int (1 : Int32)), .val (.ref u), .val (.int (1 : Int32)), .val (.int (2 : Int32)), .val (.int (1 : Int32)), .val (.int c1)] [(.int (255 : Int32)), (.int c1)]))
  refine own_go (fun t k => XS.icmpYes X2.here hx rfl (pc0 := 20) (pc' := 26) rfl (hb hby dL2b_20) rfl (flt hp1).2.2.2 (by decide) (by decide) k) ?_
  show own_Go p e below _ (T2.setTop (mkF m 26 #[.val (.ref cc), .val (.int (1 : Int32)), .val (.ref u), .val (.int (1 : Int32)), .val (.int (2 : Int32)), .val (.int (1 : Int32)), .val (.int c1)] []))
  refine own_go (fun t k => XS.aloadN X2.here hx rfl (hb hby dL2b_26) rfl rfl k) ?_
  show own_Go p e below _ (T2.setTop (mkF m 27 #[.val (.ref cc), .val (.int (1 : Int32)), .val (.ref u), .val (.int (1 : Int32)), .val (.int (2 : Int32)), .val (.int (1 : Int32)), .val (.int c1)] [(.ref u)]))
  refine own_go (fun t k => XS.iloadN X2.here hx rfl (hb hby dL2b_27) rfl k) ?_
  show own_Go p e below _ (T2.setTop (mkF m 28 #[.val (.ref cc), .val (.int (1 : Int32)), .val (.ref u), .val (.int (1 : Int32)), .val (.int (2 : Int32)), .val (.int (1 : Int32)), .val (.int c1)] [(.int (1 : Int32)), (.ref u)]))
  refine own_go (fun t k => XS.iload X2.here hx rfl (hb hby dL2b_28) rfl k) ?_
  show own_Go p e below _ (T2.setTop (mkF m 30 #[.val (.ref cc), .val (.int (1 : Int32)), .val (.ref u), .val (.int (1 : Int32)), .val (.int (2 : Int32)), .val (.int (1 : Int32)), .val (.int c1)] [(.int c1), (.int (1 : Int32)), (.ref u)]))
  refine own_go (fun t k => XS.i2b X2.here hx rfl (hb hby dL2b_30) rfl k) ?_
  show own_Go p e below _ (T2.setTop (mkF m 31 #[.val (.ref cc), .val (.int (1 : Int32)), .val (.ref u), .val (.int (1 : Int32)), .val (.int (2 : Int32)), .val (.int (1 : Int32)), .val (.int c1)] [(.int (c1.toInt8.toInt32)), (.int (1 : Int32)), (.ref u)]))
  obtain ⟨cl4, Ar4, qa4, Sa4, Na4, Ha4, Ga4⟩ := id Vw2
  have hin4 : ¬ ((1 : Int32) < 0 ∨ cl4.slots.size ≤ ((1 : Int32)).toNatClampNeg) := inb_of Sa4 ⟨by decide, by decide⟩
  obtain ⟨T4, h4, X4, e4, W4, st4⟩ := stB X2 hx hZ e2 Ar4 (j := (1 : Int32)) hin4 (g := (mkF m 31 #[.val (.ref cc), .val (.int (1 : Int32)), .val (.ref u), .val (.int (1 : Int32)), .val (.int (2 : Int32)), .val (.int (1 : Int32)), .val (.int c1)] [(.int (c1.toInt8.toInt32)), (.int (1 : Int32)), (.ref u)])) rfl rfl (hb hby dL2b_31)
  have Vw4 : Arv Z h4 u ku .byte (2 : Int32) [(.int (nar .byte (c0.toInt8.toInt32))), (.int (nar .byte (c1.toInt8.toInt32)))] (.int (0 : Int32)) := Arv.set Ar4 qa4 Sa4 Na4 Ha4 Ga4 (fits_nar_byte _) W4 1 rfl (Nat.le_of_ble_eq_true rfl)
  have Ac__4 := Ac__2.other W4 ne_cu
  have N4 := Fr.snoc X4 N2 g_u
  have KP4 := KP2.wr W4 (Or.inl (List.mem_of_getElem? (i := 0) rfl))
  have sz4 := Nat.le_trans sz2 (Keep.of_wr W4).1
  refine own_go (fun t k => st4 t k) ?_
  show own_Go p e below _ (T4.setTop (mkF m 32 #[.val (.ref cc), .val (.int (1 : Int32)), .val (.ref u), .val (.int (1 : Int32)), .val (.int (2 : Int32)), .val (.int (1 : Int32)), .val (.int c1)] []))
  refine own_go (fun t k => XS.iinc X4.here hx rfl (hb hby dL2b_32) rfl (l' := #[.val (.ref cc), .val (.int (2 : Int32)), .val (.ref u), .val (.int (1 : Int32)), .val (.int (2 : Int32)), .val (.int (1 : Int32)), .val (.int c1)]) rfl k) ?_
  show own_Go p e below _ (T4.setTop (mkF m 35 #[.val (.ref cc), .val (.int (2 : Int32)), .val (.ref u), .val (.int (1 : Int32)), .val (.int (2 : Int32)), .val (.int (1 : Int32)), .val (.int c1)] []))
  refine own_go (fun t k => XS.iinc X4.here hx rfl (hb hby dL2b_35) rfl (l' := #[.val (.ref cc), .val (.int (2 : Int32)), .val (.ref u), .val (.int (2 : Int32)), .val (.int (2 : Int32)), .val (.int (1 : Int32)), .val (.int c1)]) rfl k) ?_
  show own_Go p e below _ (T4.setTop (mkF m 38 #[.val (.ref cc), .val (.int (2 : Int32)), .val (.ref u), .val (.int (2 : Int32)), .val (.int (2 : Int32)), .val (.int (1 : Int32)), .val (.int c1)] []))
  refine own_go (fun t k => XS.iinc X4.here hx rfl (hb hby dL2b_38) rfl (l' := #[.val (.ref cc), .val (.int (2 : Int32)), .val (.ref u), .val (.int (2 : Int32)), .val (.int (2 : Int32)), .val (.int (2 : Int32)), .val (.int c1)]) rfl k) ?_
  show own_Go p e below _ (T4.setTop (mkF m 41 #[.val (.ref cc), .val (.int (2 : Int32)), .val (.ref u), .val (.int (2 : Int32)), .val (.int (2 : Int32)), .val (.int (2 : Int32)), .val (.int c1)] []))
  refine own_go (fun t k => XS.goto X4.here hx rfl (pc0 := 41) (pc' := 3) rfl (hb hby dL2b_41) (by decide) (by decide) k) ?_
  show own_Go p e below _ (T4.setTop (mkF m 3 #[.val (.ref cc), .val (.int (2 : Int32)), .val (.ref u), .val (.int (2 : Int32)), .val (.int (2 : Int32)), .val (.int (2 : Int32)), .val (.int c1)] []))
  refine own_go (fun t k => XS.iload X4.here hx rfl (hb hby dL2b_3) rfl k) ?_
  show own_Go p e below _ (T4.setTop (mkF m 5 #[.val (.ref cc), .val (.int (2 : Int32)), .val (.ref u), .val (.int (2 : Int32)), .val (.int (2 : Int32)), .val (.int (2 : Int32)), .val (.int c1)] [(.int (2 : Int32))]))
  refine own_go (fun t k => XS.iload X4.here hx rfl (hb hby dL2b_5) rfl k) ?_
  show own_Go p e below _ (T4.setTop (mkF m 7 #[.val (.ref cc), .val (.int (2 : Int32)), .val (.ref u), .val (.int (2 : Int32)), .val (.int (2 : Int32)), .val (.int (2 : Int32)), .val (.int c1)] [(.int (2 : Int32)), (.int (2 : Int32))]))
  refine own_go (fun t k => XS.icmpYes X4.here hx rfl (pc0 := 7) (pc' := 44) rfl (hb hby dL2b_7) rfl (flt (by decide : ¬ ((2 : Int32) < (2 : Int32)))).2.1 (by decide) (by decide) k) ?_
  show own_Go p e below _ (T4.setTop (mkF m 44 #[.val (.ref cc), .val (.int (2 : Int32)), .val (.ref u), .val (.int (2 : Int32)), .val (.int (2 : Int32)), .val (.int (2 : Int32)), .val (.int c1)] []))
  refine own_go (fun t k => XS.iload X4.here hx rfl (hb hby dL2b_44) rfl k) ?_
  show own_Go p e below _ (T4.setTop (mkF m 46 #[.val (.ref cc), .val (.int (2 : Int32)), .val (.ref u), .val (.int (2 : Int32)), .val (.int (2 : Int32)), .val (.int (2 : Int32)), .val (.int c1)] [(.int (2 : Int32))]))
  exact own_retI X4 hx Bd.returns (hb hby dL2b_46) (by rw [e4]; exact ⟨rfl, N4, KP4, Vw4⟩) (by decide) (by decide)
theorem dL2c_0 : decode jdk_52_method_16_code 0 = .ok (.iload_n 2, 1) := by decide +kernel
theorem dL2c_1 : decode jdk_52_method_16_code 1 = .ok (.newarray .byte, 2) := by decide +kernel
theorem dL2c_3 : decode jdk_52_method_16_code 3 = .ok (.astore_n 3, 1) := by decide +kernel
theorem dL2c_4 : decode jdk_52_method_16_code 4 = .ok (.aload_n 0, 1) := by decide +kernel
theorem dL2c_5 : decode jdk_52_method_16_code 5 = .ok (.iload_n 1, 1) := by decide +kernel
theorem dL2c_6 : decode jdk_52_method_16_code 6 = .ok (.aload_n 3, 1) := by decide +kernel
theorem dL2c_7 : decode jdk_52_method_16_code 7 = .ok (.iconst 0, 1) := by decide +kernel
theorem dL2c_8 : decode jdk_52_method_16_code 8 = .ok (.iload_n 2, 1) := by decide +kernel
theorem dL2c_9 : decode jdk_52_method_16_code 9 = .ok (.invokestatic 115, 3) := by decide +kernel
theorem dL2c_12 : decode jdk_52_method_16_code 12 = .ok (.istore 4, 2) := by decide +kernel
theorem dL2c_14 : decode jdk_52_method_16_code 14 = .ok (.iload 4, 2) := by decide +kernel
theorem dL2c_16 : decode jdk_52_method_16_code 16 = .ok (.iload_n 2, 1) := by decide +kernel
theorem dL2c_17 : decode jdk_52_method_16_code 17 = .ok (.if_icmp .eq 40, 3) := by decide +kernel
theorem dL2c_57 : decode jdk_52_method_16_code 57 = .ok (.aload_n 3, 1) := by decide +kernel
theorem dL2c_58 : decode jdk_52_method_16_code 58 = .ok (.areturn, 1) := by decide +kernel
theorem pnL2c : plainName "java/lang/StringUTF16" = true := by first | (simp [plainName, overriddenIn]; done) | decide +kernel
theorem pdL2c_0 : parseMethodDescriptor "([CI[BII)I" = some ⟨[(.array .char), .int, (.array .byte), .int, .int], some .int⟩ := by decide +kernel
theorem efL2c (m : MethodId) (x0 : Addr) (x1 : Int32) (x2 : Int32) : entryFrame m #[(.ref x0), (.int x1), (.int x2)] 6 = mkF m 0 #[.val (.ref x0), .val (.int x1), .val (.int x2), .unset, .unset, .unset] [] := by first | (simp [entryFrame, mkF, argsToLocals, Value.category]; done) | rfl
def own_QL2c (Z : State) (c0 c1 : Int32) (h0 : Heap) (n0 : Nat) (v : Option Value) (h : Heap) (L : List Loc) : Prop := ∃ (b : Addr) (kb : ClassId), v = some (.ref b) ∧ Fr n0 L ∧ Keep h0 h [] ∧ h0.size ≤ b ∧ Arv Z h b kb .byte (2 : Int32) [.int (nar .byte (c0.toInt8.toInt32)), .int (nar .byte (c1.toInt8.toInt32))] (.int (0 : Int32))
set_option maxRecDepth 65536 in
set_option maxHeartbeats 40000000 in
theorem rmL2c (l : Launch) (Z : State) (a0 : Array Value) (hw : ∀ d ∈ tables_1, d.before a0 Z = true) (ws : List Jvm.Cond) (cc : Addr) (kc : ClassId) (c0 c1 : Int32) (h0 : Heap) (n0 : Nat) (Z0 : n0 ≤ h0.size) (Ac : Arv Z h0 cc kc .char (2 : Int32) [.int c0, .int c1] (.int (0 : Int32))) (hp0 : ¬ (255 : Int32) < c0) (hp1 : ¬ (255 : Int32) < c1) :
    MetFree l (⟨"java/lang/StringUTF16", "compress", "([CII)[B"⟩ : MethodName) (head1 (Jvm.Cond.code (⟨"java/lang/StringUTF16", "compress", "([CII)[B"⟩ : MethodName) jdk_52_method_16_code 6 (some (.array .byte)) :: ws) ({ frames := 1, cells := 1, slots := 2, locals := 18 } : Room)) (fun a U => a = #[(.ref cc), (.int (0 : Int32)), (.int (2 : Int32))] ∧ Z.Warmed39 U.vm ∧ U.heap = h0) (fun _ _ _ _ _ => True) (fun _ U o U' => ∃ v L, o = .returned v ∧ own_QL2c Z c0 c1 h0 n0 v U'.heap L ∧ FrameEnd U o U' L ({ frames := 1, cells := 1, slots := 2, locals := 18 } : Room).cells ({ frames := 1, cells := 1, slots := 2, locals := 18 } : Room).slots) := by
  refine MetFree.of_bodySF (plainFor_of_name pnL2c) hisR ?_
  intro p e s m args below meth c s₁ Bd hml0 hP hK
  obtain ⟨rfl, hZ, hh⟩ := hP
  have hx := Bd.exec
  have hby := Bd.bytes
  have hml : c.maxLocals = 6 := hml0
  have hown : s.vm.findClass "java/lang/StringUTF16" = some m.cls := findClass_of_methodNamed Bd.named
  have hnm := (name_of_methodNamed Bd.named Bd.method).1
  have hlk : meth.locks = false := Bd.notSynchronized
  have X0 : Stand p l e ({ frames := 1, cells := 1, slots := 2, locals := 18 } : Room) s m #[(.ref cc), (.int (0 : Int32)), (.int (2 : Int32))] below meth c s₁ [] 0 0 := Stand.of_body Bd
  have e0 : s₁.heap = h0 := by rw [← hh, Bd.state]; rfl
  have N0 := Fr.nil n0
  refine own_go (fun t k => castTop (efL2c m cc (0 : Int32) (2 : Int32)) k) ?_
  show own_Go p e below _ (s₁.setTop (mkF m 0 #[.val (.ref cc), .val (.int (0 : Int32)), .val (.int (2 : Int32)), .unset, .unset, .unset] []))
  refine own_go (fun t k => XS.iloadN X0.here hx rfl (hb hby dL2c_0) rfl k) ?_
  show own_Go p e below _ (s₁.setTop (mkF m 1 #[.val (.ref cc), .val (.int (0 : Int32)), .val (.int (2 : Int32)), .unset, .unset, .unset] [(.int (2 : Int32))]))
  obtain ⟨T1, h1, k1, X1, e1, E1, A1, st1⟩ := newP X0 hx hZ (hw _ (List.mem_of_getElem? (i := 7) rfl)) e0 (g := (mkF m 1 #[.val (.ref cc), .val (.int (0 : Int32)), .val (.int (2 : Int32)), .unset, .unset, .unset] [(.int (2 : Int32))])) rfl (hb hby dL2c_1) rfl (by decide) (cap := 2) (by decide) (by decide) (by decide) (by decide)
  obtain ⟨b1, g1⟩ : ∃ z, z = h0.size := ⟨_, rfl⟩
  rw [← g1] at A1 st1
  have g_b1 : n0 ≤ b1 := Nat.le_trans Z0 (Nat.le_of_eq g1.symm)
  have sz_b1 : h0.size ≤ b1 := Nat.le_trans (Keep.refl h0 []).1 (Nat.le_of_eq g1.symm)
  have ne_cc_b1 : cc ≠ b1 := Nat.ne_of_lt (Nat.lt_of_lt_of_le Ac.lt (Nat.le_of_eq g1.symm))
  have Ac__1 := Ac.ext E1
  have sz1 := Nat.le_trans Z0 E1.1
  have KP1 := (Keep.refl h0 []).ext E1
  have V1 : Arv Z h1 b1 k1 .byte (2 : Int32) [(.int (0 : Int32)), (.int (0 : Int32))] (.int (0 : Int32)) := (Arv.new A1 (by decide)).pad (pad_rep [] (.int (0 : Int32)) 2)
  refine own_go (fun t k => st1 t k) ?_
  show own_Go p e below _ (T1.setTop (mkF m 3 #[.val (.ref cc), .val (.int (0 : Int32)), .val (.int (2 : Int32)), .unset, .unset, .unset] [(.ref b1)]))
  refine own_go (fun t k => XS.astoreN X1.here hx rfl (hb hby dL2c_3) rfl rfl (l' := #[.val (.ref cc), .val (.int (0 : Int32)), .val (.int (2 : Int32)), .val (.ref b1), .unset, .unset]) rfl k) ?_
  show own_Go p e below _ (T1.setTop (mkF m 4 #[.val (.ref cc), .val (.int (0 : Int32)), .val (.int (2 : Int32)), .val (.ref b1), .unset, .unset] []))
  refine own_go (fun t k => XS.aloadN X1.here hx rfl (hb hby dL2c_4) rfl rfl k) ?_
  show own_Go p e below _ (T1.setTop (mkF m 5 #[.val (.ref cc), .val (.int (0 : Int32)), .val (.int (2 : Int32)), .val (.ref b1), .unset, .unset] [(.ref cc)]))
  refine own_go (fun t k => XS.iloadN X1.here hx rfl (hb hby dL2c_5) rfl k) ?_
  show own_Go p e below _ (T1.setTop (mkF m 6 #[.val (.ref cc), .val (.int (0 : Int32)), .val (.int (2 : Int32)), .val (.ref b1), .unset, .unset] [(.int (0 : Int32)), (.ref cc)]))
  refine own_go (fun t k => XS.aloadN X1.here hx rfl (hb hby dL2c_6) rfl rfl k) ?_
  show own_Go p e below _ (T1.setTop (mkF m 7 #[.val (.ref cc), .val (.int (0 : Int32)), .val (.int (2 : Int32)), .val (.ref b1), .unset, .unset] [(.ref b1), (.int (0 : Int32)), (.ref cc)]))
  refine own_go (fun t k => XS.iconst X1.here hx rfl (hb hby dL2c_7) k) ?_
  show own_Go p e below _ (T1.setTop (mkF m 8 #[.val (.ref cc), .val (.int (0 : Int32)), .val (.int (2 : Int32)), .val (.ref b1), .unset, .unset] [(.int (0 : Int32)), (.ref b1), (.int (0 : Int32)), (.ref cc)]))
  refine own_go (fun t k => XS.iloadN X1.here hx rfl (hb hby dL2c_8) rfl k) ?_
  show own_Go p e below _ (T1.setTop (mkF m 9 #[.val (.ref cc), .val (.int (0 : Int32)), .val (.int (2 : Int32)), .val (.ref b1), .unset, .unset] [(.int (2 : Int32)), (.int (0 : Int32)), (.ref b1), (.int (0 : Int32)), (.ref cc)]))
  obtain ⟨_, _, ⟨T2, L2, k2, n2⟩, -, X2, ⟨Lc2, hQ2, l2, y2, z2⟩, st2⟩ := Jvm.LawKit.callS X1 hx (y := (⟨"java/lang/StringUTF16", "compress", "([CI[BII)I"⟩ : MethodName)) hown (mvT hZ (hw _ (List.mem_of_getElem? (i := 171) rfl))) (mvT hZ (hw _ (List.mem_of_getElem? (i := 172) rfl))) (mvT hZ (hw _ (List.mem_of_getElem? (i := 169) rfl))) (mvT hZ (hw _ (List.mem_of_getElem? (i := 173) rfl))) (by decide) (backOf (W := 0) (rmL2b l Z a0 hw [] cc b1 kc k1 c0 c1 h1 n0 sz1 Ac__1 V1 g_b1 ne_cc_b1 hp0 hp1) hZ (hw _ (List.mem_of_getElem? (i := 173) rfl)) (hw _ (List.mem_of_getElem? (i := 169) rfl)) (by decide) (by decide)) (g := (mkF m 9 #[.val (.ref cc), .val (.int (0 : Int32)), .val (.int (2 : Int32)), .val (.ref b1), .unset, .unset] [(.int (2 : Int32)), (.int (0 : Int32)), (.ref b1), (.int (0 : Int32)), (.ref cc)])) rfl (by rw [hml]; rfl) (argsL := [(.ref cc), (.int (0 : Int32)), (.ref b1), (.int (0 : Int32)), (.int (2 : Int32))]) (rest := []) (lenOf pdL2c_0 rfl) rfl (by show 2 * 0 + _ ≤ _; exact Nat.le_of_eq rfl) (hb hby dL2c_9) (fun _ _ => ⟨rfl, e1, (by decide : 0 + 1 + 0 ≤ _), (by decide : 0 + 2 + 0 ≤ _)⟩)
  dsimp only [Pt.U, Pt.locs, Pt.cells, Pt.slots] at X2 l2 y2 z2 st2 hQ2
  subst l2 y2 z2
  obtain ⟨rfl, Nq2, K2, A2⟩ := hQ2
  have N2 := Fr.app N0 Nq2
  refine own_go (fun t k => st2 t k) ?_
  have Ac__2 := Ac__1.keep K2 (ninS ne_cc_b1 nin0)
  have KP2 := KP1.trans K2 (allS (Or.inr sz_b1) all0)
  have sz2 := Nat.le_trans sz1 K2.1
  show own_Go p e below _ (T2.setTop (mkF m 12 #[.val (.ref cc), .val (.int (0 : Int32)), .val (.int (2 : Int32)), .val (.ref b1), .unset, .unset] [(.int (2 : Int32))]))
  refine own_go (fun t k => XS.istore X2.here hx rfl (hb hby dL2c_12) rfl (l' := #[.val (.ref cc), .val (.int (0 : Int32)), .val (.int (2 : Int32)), .val (.ref b1), .val (.int (2 : Int32)), .unset]) rfl k) ?_
  show own_Go p e below _ (T2.setTop (mkF m 14 #[.val (.ref cc), .val (.int (0 : Int32)), .val (.int (2 : Int32)), .val (.ref b1), .val (.int (2 : Int32)), .unset] []))
  refine own_go (fun t k => XS.iload X2.here hx rfl (hb hby dL2c_14) rfl k) ?_
  show own_Go p e below _ (T2.setTop (mkF m 16 #[.val (.ref cc), .val (.int (0 : Int32)), .val (.int (2 : Int32)), .val (.ref b1), .val (.int (2 : Int32)), .unset] [(.int (2 : Int32))]))
  refine own_go (fun t k => XS.iloadN X2.here hx rfl (hb hby dL2c_16) rfl k) ?_
  show own_Go p e below _ (T2.setTop (mkF m 17 #[.val (.ref cc), .val (.int (0 : Int32)), .val (.int (2 : Int32)), .val (.ref b1), .val (.int (2 : Int32)), .unset] [(.int (2 : Int32)), (.int (2 : Int32))]))
  refine own_go (fun t k => XS.icmpYes X2.here hx rfl (pc0 := 17) (pc' := 57) rfl (hb hby dL2c_17) rfl (teq (by decide : (2 : Int32) = (2 : Int32))).1 (by decide) (by decide) k) ?_
  show own_Go p e below _ (T2.setTop (mkF m 57 #[.val (.ref cc), .val (.int (0 : Int32)), .val (.int (2 : Int32)), .val (.ref b1), .val (.int (2 : Int32)), .unset] []))
  refine own_go (fun t k => XS.aloadN X2.here hx rfl (hb hby dL2c_57) rfl rfl k) ?_
  show own_Go p e below _ (T2.setTop (mkF m 58 #[.val (.ref cc), .val (.int (0 : Int32)), .val (.int (2 : Int32)), .val (.ref b1), .val (.int (2 : Int32)), .unset] [(.ref b1)]))
  exact own_retA X2 hx Bd.returns rfl rfl (hb hby dL2c_58) (⟨_, _, rfl, N2, KP2, sz_b1, A2⟩) (by decide) (by decide)
theorem dL2a_0 : decode jdk_52_method_15_code 0 = .ok (.iload_n 1, 1) := by decide +kernel
theorem dL2a_1 : decode jdk_52_method_15_code 1 = .ok (.aload_n 0, 1) := by decide +kernel
theorem dL2a_2 : decode jdk_52_method_15_code 2 = .ok (.arraylength, 1) := by decide +kernel
theorem dL2a_3 : decode jdk_52_method_15_code 3 = .ok (.isub, 1) := by decide +kernel
theorem dL2a_4 : decode jdk_52_method_15_code 4 = .ok (.bipush 31, 2) := by decide +kernel
theorem dL2a_6 : decode jdk_52_method_15_code 6 = .ok (.iushr, 1) := by decide +kernel
theorem dL2a_7 : decode jdk_52_method_15_code 7 = .ok (.i2b, 1) := by decide +kernel
theorem dL2a_8 : decode jdk_52_method_15_code 8 = .ok (.ireturn, 1) := by decide +kernel
theorem pnL2a : plainName "java/lang/StringUTF16" = true := by first | (simp [plainName, overriddenIn]; done) | decide +kernel
theorem efL2a (m : MethodId) (x0 : Addr) (x1 : Int32) : entryFrame m #[(.ref x0), (.int x1)] 2 = mkF m 0 #[.val (.ref x0), .val (.int x1)] [] := by first | (simp [entryFrame, mkF, argsToLocals, Value.category]; done) | rfl
def own_QL2a (h0 : Heap) (n0 : Nat) (v : Option Value) (h : Heap) (L : List Loc) : Prop := v = some (.int (0 : Int32)) ∧ Fr n0 L ∧ h = h0
set_option maxRecDepth 65536 in
set_option maxHeartbeats 40000000 in
theorem rmL2a (l : Launch) (Z : State) (a0 : Array Value) (hw : ∀ d ∈ tables_1, d.before a0 Z = true) (ws : List Jvm.Cond) (ot : Addr) (kt : ClassId) (x0 : Int32) (x1 : Int32) (h0 : Heap) (n0 : Nat) (Z0 : n0 ≤ h0.size) (At : Arv Z h0 ot kt .byte (2 : Int32) [.int x0, .int x1] (.int (0 : Int32))) :
    MetFree l (⟨"java/lang/StringUTF16", "coderFromArrayLen", "([BI)B"⟩ : MethodName) (head1 (Jvm.Cond.code (⟨"java/lang/StringUTF16", "coderFromArrayLen", "([BI)B"⟩ : MethodName) jdk_52_method_15_code 2 (some .byte) :: ws) ({ frames := 0, cells := 0, slots := 0, locals := 0 } : Room)) (fun a U => a = #[(.ref ot), (.int (2 : Int32))] ∧ Z.Warmed39 U.vm ∧ U.heap = h0) (fun _ _ _ _ _ => True) (fun _ U o U' => ∃ v L, o = .returned v ∧ own_QL2a h0 n0 v U'.heap L ∧ FrameEnd U o U' L ({ frames := 0, cells := 0, slots := 0, locals := 0 } : Room).cells ({ frames := 0, cells := 0, slots := 0, locals := 0 } : Room).slots) := by
  refine MetFree.of_bodySF (plainFor_of_name pnL2a) hisR ?_
  intro p e s m args below meth c s₁ Bd hml0 hP hK
  obtain ⟨rfl, hZ, hh⟩ := hP
  have hx := Bd.exec
  have hby := Bd.bytes
  have hml : c.maxLocals = 2 := hml0
  have hown : s.vm.findClass "java/lang/StringUTF16" = some m.cls := findClass_of_methodNamed Bd.named
  have hnm := (name_of_methodNamed Bd.named Bd.method).1
  have hlk : meth.locks = false := Bd.notSynchronized
  have X0 : Stand p l e ({ frames := 0, cells := 0, slots := 0, locals := 0 } : Room) s m #[(.ref ot), (.int (2 : Int32))] below meth c s₁ [] 0 0 := Stand.of_body Bd
  have e0 : s₁.heap = h0 := by rw [← hh, Bd.state]; rfl
  have N0 := Fr.nil n0
  refine own_go (fun t k => castTop (efL2a m ot (2 : Int32)) k) ?_
  show own_Go p e below _ (s₁.setTop (mkF m 0 #[.val (.ref ot), .val (.int (2 : Int32))] []))
  refine own_go (fun t k => XS.iloadN X0.here hx rfl (hb hby dL2a_0) rfl k) ?_
  show own_Go p e below _ (s₁.setTop (mkF m 1 #[.val (.ref ot), .val (.int (2 : Int32))] [(.int (2 : Int32))]))
  refine own_go (fun t k => XS.aloadN X0.here hx rfl (hb hby dL2a_1) rfl rfl k) ?_
  show own_Go p e below _ (s₁.setTop (mkF m 2 #[.val (.ref ot), .val (.int (2 : Int32))] [(.ref ot), (.int (2 : Int32))]))
  obtain ⟨cl1, Ar1, -, Sa1, Na1, -, -⟩ := id At
  have ln1 := len_of Sa1 Na1
  refine own_go (fun t k => X0.arraylength hx (by rw [e0]; exact Ar1.1) (State.isArrayOf_alike hZ.alike Ar1.2.1) (g := (mkF m 2 #[.val (.ref ot), .val (.int (2 : Int32))] [(.ref ot), (.int (2 : Int32))])) rfl rfl (hb hby dL2a_2) t (by rw [ln1]; exact k)) ?_
  show own_Go p e below _ (s₁.setTop (mkF m 3 #[.val (.ref ot), .val (.int (2 : Int32))] [(.int (2 : Int32)), (.int (2 : Int32))]))
  refine own_go (fun t k => XS.isub X0.here hx rfl (hb hby dL2a_3) rfl k) ?_
  show own_Go p e below _ (s₁.setTop (mkF m 4 #[.val (.ref ot), .val (.int (2 : Int32))] [(.int ((2 : Int32) - (2 : Int32)))]))
  refine own_go (fun t k => XS.bipush X0.here hx rfl (hb hby dL2a_4) k) ?_
  show own_Go p e below _ (s₁.setTop (mkF m 6 #[.val (.ref ot), .val (.int (2 : Int32))] [(.int (31 : Int32)), (.int ((2 : Int32) - (2 : Int32)))]))
  refine own_go (fun t k => XS.iushr X0.here hx rfl (hb hby dL2a_6) rfl k) ?_
  show own_Go p e below _ (s₁.setTop (mkF m 7 #[.val (.ref ot), .val (.int (2 : Int32))] [(.int ((((2 : Int32) - (2 : Int32)).toUInt32 >>> ((31 : Int32) &&& 31).toUInt32).toInt32))]))
  refine own_go (fun t k => XS.i2b X0.here hx rfl (hb hby dL2a_7) rfl k) ?_
  show own_Go p e below _ (s₁.setTop (mkF m 8 #[.val (.ref ot), .val (.int (2 : Int32))] [(.int (((((2 : Int32) - (2 : Int32)).toUInt32 >>> ((31 : Int32) &&& 31).toUInt32).toInt32).toInt8.toInt32))]))
  exact own_retN X0 hx (t := .byte) Bd.returns (by simp) (hb hby dL2a_8) (by rw [e0]; exact ⟨by decide, N0, rfl⟩) (by decide) (by decide)
theorem dL2d_0 : decode jdk_42_method_149_code 0 = .ok (.aload_n 0, 1) := by decide +kernel
theorem dL2d_1 : decode jdk_42_method_149_code 1 = .ok (.invokespecial 1, 3) := by decide +kernel
theorem dL2d_4 : decode jdk_42_method_149_code 4 = .ok (.iload_n 3, 1) := by decide +kernel
theorem dL2d_5 : decode jdk_42_method_149_code 5 = .ok (.ifCond .ne 22, 3) := by decide +kernel
theorem dL2d_27 : decode jdk_42_method_149_code 27 = .ok (.getstatic 38, 3) := by decide +kernel
theorem dL2d_30 : decode jdk_42_method_149_code 30 = .ok (.ifCond .eq 28, 3) := by decide +kernel
theorem dL2d_33 : decode jdk_42_method_149_code 33 = .ok (.aload_n 1, 1) := by decide +kernel
theorem dL2d_34 : decode jdk_42_method_149_code 34 = .ok (.iload_n 2, 1) := by decide +kernel
theorem dL2d_35 : decode jdk_42_method_149_code 35 = .ok (.iload_n 3, 1) := by decide +kernel
theorem dL2d_36 : decode jdk_42_method_149_code 36 = .ok (.invokestatic 177, 3) := by decide +kernel
theorem dL2d_39 : decode jdk_42_method_149_code 39 = .ok (.astore 5, 2) := by decide +kernel
theorem dL2d_41 : decode jdk_42_method_149_code 41 = .ok (.aload_n 0, 1) := by decide +kernel
theorem dL2d_42 : decode jdk_42_method_149_code 42 = .ok (.aload 5, 2) := by decide +kernel
theorem dL2d_44 : decode jdk_42_method_149_code 44 = .ok (.iload_n 3, 1) := by decide +kernel
theorem dL2d_45 : decode jdk_42_method_149_code 45 = .ok (.invokestatic 47, 3) := by decide +kernel
theorem dL2d_48 : decode jdk_42_method_149_code 48 = .ok (.putfield 15, 3) := by decide +kernel
theorem dL2d_51 : decode jdk_42_method_149_code 51 = .ok (.aload_n 0, 1) := by decide +kernel
theorem dL2d_52 : decode jdk_42_method_149_code 52 = .ok (.aload 5, 2) := by decide +kernel
theorem dL2d_54 : decode jdk_42_method_149_code 54 = .ok (.putfield 9, 3) := by decide +kernel
theorem dL2d_57 : decode jdk_42_method_149_code 57 = .ok (.return_, 1) := by decide +kernel
theorem pnL2d : plainName "java/lang/String" = true := by first | (simp [plainName, overriddenIn]; done) | decide +kernel
theorem pdL2d_0 : parseMethodDescriptor "([CII)[B" = some ⟨[(.array .char), .int, .int], some (.array .byte)⟩ := by decide +kernel
theorem pdL2d_1 : parseMethodDescriptor "([BI)B" = some ⟨[(.array .byte), .int], some .byte⟩ := by decide +kernel
theorem efL2d (m : MethodId) (x0 : Addr) (x1 : Addr) (x2 : Int32) (x3 : Int32) : entryFrame m #[(.ref x0), (.ref x1), (.int x2), (.int x3), .null] 6 = mkF m 0 #[.val (.ref x0), .val (.ref x1), .val (.int x2), .val (.int x3), .val .null, .unset] [] := by first | (simp [entryFrame, mkF, argsToLocals, Value.category]; done) | rfl
def own_QL2d (Z : State) (a : Addr) (c0 c1 : Int32) (h0 : Heap) (n0 : Nat) (v : Option Value) (h : Heap) (L : List Loc) : Prop := v = none ∧ Fr n0 L ∧ Keep h0 h [a] ∧ Fld Z h a "java/lang/String" "coder" "B" (.int (0 : Int32)) ∧ ∃ (b : Addr) (kb : ClassId), h0.size ≤ b ∧ Fld Z h a "java/lang/String" "value" "[B" (.ref b) ∧ Arv Z h b kb .byte (2 : Int32) [.int (nar .byte (c0.toInt8.toInt32)), .int (nar .byte (c1.toInt8.toInt32))] (.int (0 : Int32))
set_option maxRecDepth 65536 in
set_option maxHeartbeats 40000000 in
theorem rmL2d (l : Launch) (Z : State) (a0 : Array Value) (hw : ∀ d ∈ tables_1, d.before a0 Z = true) (ws : List Jvm.Cond) (oa cc : Addr) (kc : ClassId) (cs : Int32) (c0 c1 : Int32) (h0 : Heap) (n0 : Nat) (Z0 : n0 ≤ h0.size) (Ea : Exa Z h0 oa "java/lang/String") (Fv : Fld Z h0 oa "java/lang/String" "value" "[B" .null) (Fc : Fld Z h0 oa "java/lang/String" "coder" "B" (.int (0 : Int32))) (g_oa : n0 ≤ oa) (ne_ca : cc ≠ oa) (Ac : Arv Z h0 cc kc .char (2 : Int32) [.int c0, .int c1] (.int (0 : Int32))) (SC : Sta Z Z.heap "java/lang/String" "COMPACT_STRINGS" "Z" (.int cs)) (hcs : ¬ cs = 0) (XO : Old Z n0 h0) (hp0 : ¬ (255 : Int32) < c0) (hp1 : ¬ (255 : Int32) < c1) :
    MetFree l (⟨"java/lang/String", "<init>", "([CIILjava/lang/Void;)V"⟩ : MethodName) (head1 (Jvm.Cond.code (⟨"java/lang/String", "<init>", "([CIILjava/lang/Void;)V"⟩ : MethodName) jdk_42_method_149_code 6 none :: ws) ({ frames := 2, cells := 1, slots := 2, locals := 35 } : Room)) (fun a U => a = #[(.ref oa), (.ref cc), (.int (0 : Int32)), (.int (2 : Int32)), .null] ∧ Z.Warmed39 U.vm ∧ U.heap = h0) (fun _ _ _ _ _ => True) (fun _ U o U' => ∃ v L, o = .returned v ∧ own_QL2d Z oa c0 c1 h0 n0 v U'.heap L ∧ FrameEnd U o U' L ({ frames := 2, cells := 1, slots := 2, locals := 35 } : Room).cells ({ frames := 2, cells := 1, slots := 2, locals := 35 } : Room).slots) := by
  refine MetFree.of_bodySF (plainFor_of_name pnL2d) hisR ?_
  intro p e s m args below meth c s₁ Bd hml0 hP hK
  obtain ⟨rfl, hZ, hh⟩ := hP
  have hx := Bd.exec
  have hby := Bd.bytes
  have hml : c.maxLocals = 6 := hml0
  have hown : s.vm.findClass "java/lang/String" = some m.cls := findClass_of_methodNamed Bd.named
  have hnm := (name_of_methodNamed Bd.named Bd.method).1
  have hlk : meth.locks = false := Bd.notSynchronized
  have X0 : Stand p l e ({ frames := 2, cells := 1, slots := 2, locals := 35 } : Room) s m #[(.ref oa), (.ref cc), (.int (0 : Int32)), (.int (2 : Int32)), .null] below meth c s₁ [] 0 0 := Stand.of_body Bd
  have e0 : s₁.heap = h0 := by rw [← hh, Bd.state]; rfl
  have N0 := Fr.nil n0
  refine own_go (fun t k => castTop (efL2d m oa cc (0 : Int32) (2 : Int32)) k) ?_
  show own_Go p e below _ (s₁.setTop (mkF m 0 #[.val (.ref oa), .val (.ref cc), .val (.int (0 : Int32)), .val (.int (2 : Int32)), .val .null, .unset] []))
  refine own_go (fun t k => XS.aloadN X0.here hx rfl (hb hby dL2d_0) rfl rfl k) ?_
  show own_Go p e below _ (s₁.setTop (mkF m 1 #[.val (.ref oa), .val (.ref cc), .val (.int (0 : Int32)), .val (.int (2 : Int32)), .val .null, .unset] [(.ref oa)]))
  obtain ⟨T2, X2, e2, st2⟩ := initO X0 hx hZ hown (hw _ (List.mem_of_getElem? (i := 165) rfl)) (hw _ (List.mem_of_getElem? (i := 31) rfl)) (hw _ (List.mem_of_getElem? (i := 32) rfl)) e0 (g := (mkF m 1 #[.val (.ref oa), .val (.ref cc), .val (.int (0 : Int32)), .val (.int (2 : Int32)), .val .null, .unset] [(.ref oa)])) rfl (by rw [hml]; rfl) rfl (hb hby dL2d_1) (by decide) (W := 0) (by show 2 * 0 + _ ≤ _; exact Nat.le_of_eq rfl) (by decide)
  refine own_go (fun t k => st2 t k) ?_
  show own_Go p e below _ (T2.setTop (mkF m 4 #[.val (.ref oa), .val (.ref cc), .val (.int (0 : Int32)), .val (.int (2 : Int32)), .val .null, .unset] []))
  refine own_go (fun t k => XS.iloadN X2.here hx rfl (hb hby dL2d_4) rfl k) ?_
  show own_Go p e below _ (T2.setTop (mkF m 5 #[.val (.ref oa), .val (.ref cc), .val (.int (0 : Int32)), .val (.int (2 : Int32)), .val .null, .unset] [(.int (2 : Int32))]))
  refine own_go (fun t k => XS.ifYes X2.here hx rfl (pc0 := 5) (pc' := 27) rfl (hb hby dL2d_5) rfl ((if0 _ _).trans (feq (by decide : ¬ ((2 : Int32) = (0 : Int32)))).2) (by decide) (by decide) k) ?_
  show own_Go p e below _ (T2.setTop (mkF m 27 #[.val (.ref oa), .val (.ref cc), .val (.int (0 : Int32)), .val (.int (2 : Int32)), .val .null, .unset] []))
  obtain ⟨T3, X3, e3, st3⟩ := getS2 X2 hx hZ hown (host := "") (Or.inl (hw _ (List.mem_of_getElem? (i := 166) rfl))) Via.refl e2 (SC.ext XO.2) (g := (mkF m 27 #[.val (.ref oa), .val (.ref cc), .val (.int (0 : Int32)), .val (.int (2 : Int32)), .val .null, .unset] [])) rfl (hb hby dL2d_27)
  refine own_go (fun t k => st3 t k) ?_
  show own_Go p e below _ (T3.setTop (mkF m 30 #[.val (.ref oa), .val (.ref cc), .val (.int (0 : Int32)), .val (.int (2 : Int32)), .val .null, .unset] [(.int cs)]))
  refine own_go (fun t k => XS.ifNo X3.here hx rfl (hb hby dL2d_30) rfl ((if0 _ _).trans (feq hcs).1) k) ?_
  show own_Go p e below _ (T3.setTop (mkF m 33 #[.val (.ref oa), .val (.ref cc), .val (.int (0 : Int32)), .val (.int (2 : Int32)), .val .null, .unset] []))
  refine own_go (fun t k => XS.aloadN X3.here hx rfl (hb hby dL2d_33) rfl rfl k) ?_
  show own_Go p e below _ (T3.setTop (mkF m 34 #[.val (.ref oa), .val (.ref cc), .val (.int (0 : Int32)), .val (.int (2 : Int32)), .val .null, .unset] [(.ref cc)]))
  refine own_go (fun t k => XS.iloadN X3.here hx rfl (hb hby dL2d_34) rfl k) ?_
  show own_Go p e below _ (T3.setTop (mkF m 35 #[.val (.ref oa), .val (.ref cc), .val (.int (0 : Int32)), .val (.int (2 : Int32)), .val .null, .unset] [(.int (0 : Int32)), (.ref cc)]))
  refine own_go (fun t k => XS.iloadN X3.here hx rfl (hb hby dL2d_35) rfl k) ?_
  show own_Go p e below _ (T3.setTop (mkF m 36 #[.val (.ref oa), .val (.ref cc), .val (.int (0 : Int32)), .val (.int (2 : Int32)), .val .null, .unset] [(.int (2 : Int32)), (.int (0 : Int32)), (.ref cc)]))
  obtain ⟨_, _, ⟨T4, L4, k4, n4⟩, -, X4, ⟨Lc4, hQ4, l4, y4, z4⟩, st4⟩ := Jvm.LawKit.callS X3 hx (y := (⟨"java/lang/StringUTF16", "compress", "([CII)[B"⟩ : MethodName)) hown (mvT hZ (hw _ (List.mem_of_getElem? (i := 167) rfl))) (mvT hZ (hw _ (List.mem_of_getElem? (i := 168) rfl))) (mvT hZ (hw _ (List.mem_of_getElem? (i := 169) rfl))) (mvT hZ (hw _ (List.mem_of_getElem? (i := 170) rfl))) (by decide) (backOf (W := 0) (rmL2c l Z a0 hw [] cc kc c0 c1 h0 n0 Z0 Ac hp0 hp1) hZ (hw _ (List.mem_of_getElem? (i := 170) rfl)) (hw _ (List.mem_of_getElem? (i := 169) rfl)) (by decide) (by decide)) (g := (mkF m 36 #[.val (.ref oa), .val (.ref cc), .val (.int (0 : Int32)), .val (.int (2 : Int32)), .val .null, .unset] [(.int (2 : Int32)), (.int (0 : Int32)), (.ref cc)])) rfl (by rw [hml]; rfl) (argsL := [(.ref cc), (.int (0 : Int32)), (.int (2 : Int32))]) (rest := []) (lenOf pdL2d_0 rfl) rfl (by show 2 * 0 + _ ≤ _; exact Nat.le_of_eq rfl) (hb hby dL2d_36) (fun _ _ => ⟨rfl, e3, (by decide : 0 + 1 ≤ _), (by decide : 0 + 2 ≤ _)⟩)
  dsimp only [Pt.U, Pt.locs, Pt.cells, Pt.slots] at X4 l4 y4 z4 st4 hQ4
  subst l4 y4 z4
  obtain ⟨d4, kd4, rfl, Nq4, K4, ge4, A4⟩ := hQ4
  have N4 := Fr.app N0 Nq4
  refine own_go (fun t k => st4 t k) ?_
  have g_d4 : n0 ≤ d4 := Nat.le_trans Z0 ge4
  have sz_d4 : h0.size ≤ d4 := Nat.le_trans (Keep.refl h0 [oa]).1 ge4
  have ne_oa_d4 : oa ≠ d4 := Nat.ne_of_lt (Nat.lt_of_lt_of_le Ea.lt ge4)
  have ne_cc_d4 : cc ≠ d4 := Nat.ne_of_lt (Nat.lt_of_lt_of_le Ac.lt ge4)
  have Ea__4 := Ea.keep K4
  have Fv__4 := Fv.keep K4 nin0
  have Fc__4 := Fc.keep K4 nin0
  have Ac__4 := Ac.keep K4 nin0
  have XO__4 := XO.keep K4 all0
  have KP4 := (Keep.refl h0 [oa]).trans K4 all0
  have sz4 := Nat.le_trans Z0 K4.1
  show own_Go p e below _ (T4.setTop (mkF m 39 #[.val (.ref oa), .val (.ref cc), .val (.int (0 : Int32)), .val (.int (2 : Int32)), .val .null, .unset] [(.ref d4)]))
  refine own_go (fun t k => XS.astore X4.here hx rfl (hb hby dL2d_39) rfl rfl (l' := #[.val (.ref oa), .val (.ref cc), .val (.int (0 : Int32)), .val (.int (2 : Int32)), .val .null, .val (.ref d4)]) rfl k) ?_
  show own_Go p e below _ (T4.setTop (mkF m 41 #[.val (.ref oa), .val (.ref cc), .val (.int (0 : Int32)), .val (.int (2 : Int32)), .val .null, .val (.ref d4)] []))
  refine own_go (fun t k => XS.aloadN X4.here hx rfl (hb hby dL2d_41) rfl rfl k) ?_
  show own_Go p e below _ (T4.setTop (mkF m 42 #[.val (.ref oa), .val (.ref cc), .val (.int (0 : Int32)), .val (.int (2 : Int32)), .val .null, .val (.ref d4)] [(.ref oa)]))
  refine own_go (fun t k => XS.aload X4.here hx rfl (hb hby dL2d_42) rfl rfl k) ?_
  show own_Go p e below _ (T4.setTop (mkF m 44 #[.val (.ref oa), .val (.ref cc), .val (.int (0 : Int32)), .val (.int (2 : Int32)), .val .null, .val (.ref d4)] [(.ref d4), (.ref oa)]))
  refine own_go (fun t k => XS.iloadN X4.here hx rfl (hb hby dL2d_44) rfl k) ?_
  show own_Go p e below _ (T4.setTop (mkF m 45 #[.val (.ref oa), .val (.ref cc), .val (.int (0 : Int32)), .val (.int (2 : Int32)), .val .null, .val (.ref d4)] [(.int (2 : Int32)), (.ref d4), (.ref oa)]))
  obtain ⟨_, _, ⟨T5, L5, k5, n5⟩, -, X5, ⟨Lc5, hQ5, l5, y5, z5⟩, st5⟩ := Jvm.LawKit.callS X4 hx (y := (⟨"java/lang/StringUTF16", "coderFromArrayLen", "([BI)B"⟩ : MethodName)) hown (mvT hZ (hw _ (List.mem_of_getElem? (i := 174) rfl))) (mvT hZ (hw _ (List.mem_of_getElem? (i := 175) rfl))) (mvT hZ (hw _ (List.mem_of_getElem? (i := 169) rfl))) (mvT hZ (hw _ (List.mem_of_getElem? (i := 176) rfl))) (by decide) (backOf (W := 1) (rmL2a l Z a0 hw [] d4 kd4 (nar .byte (c0.toInt8.toInt32)) (nar .byte (c1.toInt8.toInt32)) T4.heap n0 sz4 A4) hZ (hw _ (List.mem_of_getElem? (i := 176) rfl)) (hw _ (List.mem_of_getElem? (i := 169) rfl)) (by decide) (by decide)) (g := (mkF m 45 #[.val (.ref oa), .val (.ref cc), .val (.int (0 : Int32)), .val (.int (2 : Int32)), .val .null, .val (.ref d4)] [(.int (2 : Int32)), (.ref d4), (.ref oa)])) rfl (by rw [hml]; rfl) (argsL := [(.ref d4), (.int (2 : Int32))]) (rest := [(.ref oa)]) (lenOf pdL2d_1 rfl) rfl (by show 2 * 0 + _ ≤ _; exact Nat.le_of_eq rfl) (hb hby dL2d_45) (fun _ _ => ⟨rfl, rfl, (by decide : 0 + 1 + 0 ≤ _), (by decide : 0 + 2 + 0 ≤ _)⟩)
  dsimp only [Pt.U, Pt.locs, Pt.cells, Pt.slots] at X5 l5 y5 z5 st5 hQ5
  subst l5 y5 z5
  obtain ⟨rfl, Nq5, e5⟩ := hQ5
  have N5 := Fr.app N4 Nq5
  refine own_go (fun t k => st5 t k) ?_
  show own_Go p e below _ (T5.setTop (mkF m 48 #[.val (.ref oa), .val (.ref cc), .val (.int (0 : Int32)), .val (.int (2 : Int32)), .val .null, .val (.ref d4)] [(.int (0 : Int32)), (.ref oa)]))
  obtain ⟨T6, h6, X6, e6, W6, st6⟩ := putF X5 hx hZ hown (host := "") (Or.inl (hw _ (List.mem_of_getElem? (i := 177) rfl))) Via.refl e5 Fc__4 Ea__4 (Or.inr ⟨(hw _ (List.mem_of_getElem? (i := 9) rfl)), rfl, hnm⟩) (hw _ (List.mem_of_getElem? (i := 6) rfl)) (ty := .byte) (by decide) rfl rfl (g := (mkF m 48 #[.val (.ref oa), .val (.ref cc), .val (.int (0 : Int32)), .val (.int (2 : Int32)), .val .null, .val (.ref d4)] [(.int (0 : Int32)), (.ref oa)])) rfl rfl (hb hby dL2d_48)
  have Fw6 := Fc__4.same W6
  have Ea__6 := Ea__4.wr W6
  have Fv__6 := Fv__4.other W6 (Or.inr (slot_ne (Or.inr (hw _ (List.mem_of_getElem? (i := 8) rfl))) (Or.inr (hw _ (List.mem_of_getElem? (i := 9) rfl))) (by decide) (t := (.array .byte)) (t' := .byte) (by decide) (by decide)))
  have Ac__6 := Ac__4.other W6 ne_ca
  have XO__6 := XO__4.wr W6 g_oa
  have A4__6 := A4.other W6 (Ne.symm ne_oa_d4)
  have N6 := Fr.snoc X6 N5 g_oa
  have KP6 := KP4.wr W6 (Or.inl (List.mem_of_getElem? (i := 0) rfl))
  have sz6 := Nat.le_trans sz4 (Keep.of_wr W6).1
  refine own_go (fun t k => st6 t k) ?_
  show own_Go p e below _ (T6.setTop (mkF m 51 #[.val (.ref oa), .val (.ref cc), .val (.int (0 : Int32)), .val (.int (2 : Int32)), .val .null, .val (.ref d4)] []))
  refine own_go (fun t k => XS.aloadN X6.here hx rfl (hb hby dL2d_51) rfl rfl k) ?_
  show own_Go p e below _ (T6.setTop (mkF m 52 #[.val (.ref oa), .val (.ref cc), .val (.int (0 : Int32)), .val (.int (2 : Int32)), .val .null, .val (.ref d4)] [(.ref oa)]))
  refine own_go (fun t k => XS.aload X6.here hx rfl (hb hby dL2d_52) rfl rfl k) ?_
  show own_Go p e below _ (T6.setTop (mkF m 54 #[.val (.ref oa), .val (.ref cc), .val (.int (0 : Int32)), .val (.int (2 : Int32)), .val .null, .val (.ref d4)] [(.ref d4), (.ref oa)]))
  obtain ⟨T7, h7, X7, e7, W7, st7⟩ := putF X6 hx hZ hown (host := "") (Or.inl (hw _ (List.mem_of_getElem? (i := 178) rfl))) Via.refl e6 Fv__6 Ea__6 (Or.inr ⟨(hw _ (List.mem_of_getElem? (i := 8) rfl)), rfl, hnm⟩) (hw _ (List.mem_of_getElem? (i := 6) rfl)) (ty := (.array .byte)) (by decide) rfl rfl (g := (mkF m 54 #[.val (.ref oa), .val (.ref cc), .val (.int (0 : Int32)), .val (.int (2 : Int32)), .val .null, .val (.ref d4)] [(.ref d4), (.ref oa)])) rfl rfl (hb hby dL2d_54)
  have Fw7 := Fv__6.same W7
  have Ea__7 := Ea__6.wr W7
  have Fw6__7 := Fw6.other W7 (Or.inr (slot_ne (Or.inr (hw _ (List.mem_of_getElem? (i := 9) rfl))) (Or.inr (hw _ (List.mem_of_getElem? (i := 8) rfl))) (by decide) (t := .byte) (t' := (.array .byte)) (by decide) (by decide)))
  have Ac__7 := Ac__6.other W7 ne_ca
  have XO__7 := XO__6.wr W7 g_oa
  have A4__7 := A4__6.other W7 (Ne.symm ne_oa_d4)
  have N7 := Fr.snoc X7 N6 g_oa
  have KP7 := KP6.wr W7 (Or.inl (List.mem_of_getElem? (i := 0) rfl))
  have sz7 := Nat.le_trans sz6 (Keep.of_wr W7).1
  refine own_go (fun t k => st7 t k) ?_
  show own_Go p e below _ (T7.setTop (mkF m 57 #[.val (.ref oa), .val (.ref cc), .val (.int (0 : Int32)), .val (.int (2 : Int32)), .val .null, .val (.ref d4)] []))
  exact own_ret0 X7 hx Bd.returns (hb hby dL2d_57) (by rw [e7]; exact ⟨rfl, N7, KP7, Fw6__7, _, _, sz_d4, Fw7, A4__7⟩) (by decide) (by decide)
theorem dL2e_0 : decode jdk_42_method_3_code 0 = .ok (.aload_n 0, 1) := by decide +kernel
theorem dL2e_1 : decode jdk_42_method_3_code 1 = .ok (.aload_n 1, 1) := by decide +kernel
theorem dL2e_2 : decode jdk_42_method_3_code 2 = .ok (.iconst 0, 1) := by decide +kernel
theorem dL2e_3 : decode jdk_42_method_3_code 3 = .ok (.aload_n 1, 1) := by decide +kernel
theorem dL2e_4 : decode jdk_42_method_3_code 4 = .ok (.arraylength, 1) := by decide +kernel
theorem dL2e_5 : decode jdk_42_method_3_code 5 = .ok (.aconst_null, 1) := by decide +kernel
theorem dL2e_6 : decode jdk_42_method_3_code 6 = .ok (.invokespecial 27, 3) := by decide +kernel
theorem dL2e_9 : decode jdk_42_method_3_code 9 = .ok (.return_, 1) := by decide +kernel
theorem pnL2e : plainName "java/lang/String" = true := by first | (simp [plainName, overriddenIn]; done) | decide +kernel
theorem pdL2e_0 : parseMethodDescriptor "([CIILjava/lang/Void;)V" = some ⟨[(.array .char), .int, .int, (.object "java/lang/Void")], none⟩ := by decide +kernel
theorem efL2e (m : MethodId) (x0 : Addr) (x1 : Addr) : entryFrame m #[(.ref x0), (.ref x1)] 2 = mkF m 0 #[.val (.ref x0), .val (.ref x1)] [] := by first | (simp [entryFrame, mkF, argsToLocals, Value.category]; done) | rfl
set_option maxRecDepth 65536 in
set_option maxHeartbeats 40000000 in
theorem rmL2e (l : Launch) (Z : State) (a0 : Array Value) (hw : ∀ d ∈ tables_1, d.before a0 Z = true) (ws : List Jvm.Cond) (oa cc : Addr) (kc : ClassId) (cs : Int32) (c0 c1 : Int32) (h0 : Heap) (n0 : Nat) (Z0 : n0 ≤ h0.size) (Ea : Exa Z h0 oa "java/lang/String") (Fv : Fld Z h0 oa "java/lang/String" "value" "[B" .null) (Fc : Fld Z h0 oa "java/lang/String" "coder" "B" (.int (0 : Int32))) (g_oa : n0 ≤ oa) (ne_ca : cc ≠ oa) (Ac : Arv Z h0 cc kc .char (2 : Int32) [.int c0, .int c1] (.int (0 : Int32))) (SC : Sta Z Z.heap "java/lang/String" "COMPACT_STRINGS" "Z" (.int cs)) (hcs : ¬ cs = 0) (XO : Old Z n0 h0) (hp0 : ¬ (255 : Int32) < c0) (hp1 : ¬ (255 : Int32) < c1) :
    MetFree l (⟨"java/lang/String", "<init>", "([C)V"⟩ : MethodName) (head1 (Jvm.Cond.code (⟨"java/lang/String", "<init>", "([C)V"⟩ : MethodName) jdk_42_method_3_code 2 none :: ws) ({ frames := 3, cells := 1, slots := 2, locals := 52 } : Room)) (fun a U => a = #[(.ref oa), (.ref cc)] ∧ Z.Warmed39 U.vm ∧ U.heap = h0) (fun _ _ _ _ _ => True) (fun _ U o U' => ∃ v L, o = .returned v ∧ own_QL2d Z oa c0 c1 h0 n0 v U'.heap L ∧ FrameEnd U o U' L ({ frames := 3, cells := 1, slots := 2, locals := 52 } : Room).cells ({ frames := 3, cells := 1, slots := 2, locals := 52 } : Room).slots) := by
  refine MetFree.of_bodySF (plainFor_of_name pnL2e) hisR ?_
  intro p e s m args below meth c s₁ Bd hml0 hP hK
  obtain ⟨rfl, hZ, hh⟩ := hP
  have hx := Bd.exec
  have hby := Bd.bytes
  have hml : c.maxLocals = 2 := hml0
  have hown : s.vm.findClass "java/lang/String" = some m.cls := findClass_of_methodNamed Bd.named
  have hnm := (name_of_methodNamed Bd.named Bd.method).1
  have hlk : meth.locks = false := Bd.notSynchronized
  have X0 : Stand p l e ({ frames := 3, cells := 1, slots := 2, locals := 52 } : Room) s m #[(.ref oa), (.ref cc)] below meth c s₁ [] 0 0 := Stand.of_body Bd
  have e0 : s₁.heap = h0 := by rw [← hh, Bd.state]; rfl
  have N0 := Fr.nil n0
  refine own_go (fun t k => castTop (efL2e m oa cc) k) ?_
  show own_Go p e below _ (s₁.setTop (mkF m 0 #[.val (.ref oa), .val (.ref cc)] []))
  refine own_go (fun t k => XS.aloadN X0.here hx rfl (hb hby dL2e_0) rfl rfl k) ?_
  show own_Go p e below _ (s₁.setTop (mkF m 1 #[.val (.ref oa), .val (.ref cc)] [(.ref oa)]))
  refine own_go (fun t k => XS.aloadN X0.here hx rfl (hb hby dL2e_1) rfl rfl k) ?_
  show own_Go p e below _ (s₁.setTop (mkF m 2 #[.val (.ref oa), .val (.ref cc)] [(.ref cc), (.ref oa)]))
  refine own_go (fun t k => XS.iconst X0.here hx rfl (hb hby dL2e_2) k) ?_
  show own_Go p e below _ (s₁.setTop (mkF m 3 #[.val (.ref oa), .val (.ref cc)] [(.int (0 : Int32)), (.ref cc), (.ref oa)]))
  refine own_go (fun t k => XS.aloadN X0.here hx rfl (hb hby dL2e_3) rfl rfl k) ?_
  show own_Go p e below _ (s₁.setTop (mkF m 4 #[.val (.ref oa), .val (.ref cc)] [(.ref cc), (.int (0 : Int32)), (.ref cc), (.ref oa)]))
  obtain ⟨cl1, Ar1, -, Sa1, Na1, -, -⟩ := id Ac
  have ln1 := len_of Sa1 Na1
  refine own_go (fun t k => X0.arraylength hx (by rw [e0]; exact Ar1.1) (State.isArrayOf_alike hZ.alike Ar1.2.1) (g := (mkF m 4 #[.val (.ref oa), .val (.ref cc)] [(.ref cc), (.int (0 : Int32)), (.ref cc), (.ref oa)])) rfl rfl (hb hby dL2e_4) t (by rw [ln1]; exact k)) ?_
  show own_Go p e below _ (s₁.setTop (mkF m 5 #[.val (.ref oa), .val (.ref cc)] [(.int (2 : Int32)), (.int (0 : Int32)), (.ref cc), (.ref oa)]))
  refine own_go (fun t k => XS.aconstNull X0.here hx rfl (hb hby dL2e_5) k) ?_
  show own_Go p e below _ (s₁.setTop (mkF m 6 #[.val (.ref oa), .val (.ref cc)] [.null, (.int (2 : Int32)), (.int (0 : Int32)), (.ref cc), (.ref oa)]))
  obtain ⟨_, _, ⟨T2, L2, k2, n2⟩, -, X2, ⟨Lc2, hQ2, l2, y2, z2⟩, st2⟩ := X0.specialBack hx (y := (⟨"java/lang/String", "<init>", "([CIILjava/lang/Void;)V"⟩ : MethodName)) rfl hown (mvT hZ (hw _ (List.mem_of_getElem? (i := 161) rfl))) (mvT hZ (hw _ (List.mem_of_getElem? (i := 162) rfl))) (mvT hZ (hw _ (List.mem_of_getElem? (i := 164) rfl))) (by decide) (backOf (W := 0) (rmL2d l Z a0 hw [] oa cc kc cs c0 c1 h0 n0 Z0 Ea Fv Fc g_oa ne_ca Ac SC hcs XO hp0 hp1) hZ (hw _ (List.mem_of_getElem? (i := 164) rfl)) (hw _ (List.mem_of_getElem? (i := 5) rfl)) (by decide) (by decide)) (g := (mkF m 6 #[.val (.ref oa), .val (.ref cc)] [.null, (.int (2 : Int32)), (.int (0 : Int32)), (.ref cc), (.ref oa)])) rfl (by rw [hml]; rfl) (Steps.refl _) (a := oa) (argsL := [(.ref cc), (.int (0 : Int32)), (.int (2 : Int32)), .null]) (rest := []) (lenOf pdL2e_0 rfl) rfl (by show 2 * 0 + _ ≤ _; exact Nat.le_of_eq rfl) (hb hby dL2e_6) (fun _ _ => ⟨rfl, e0, (by decide : 0 + 1 ≤ _), (by decide : 0 + 2 ≤ _)⟩)
  dsimp only [Pt.U, Pt.locs, Pt.cells, Pt.slots] at X2 l2 y2 z2 st2 hQ2
  subst l2 y2 z2
  obtain ⟨rfl, Nq2, K2, Fc2, d2, kd2, ge2, Fv2, A2⟩ := hQ2
  have N2 := Fr.app N0 Nq2
  refine own_go (fun t k => st2.trans k) ?_
  have g_d2 : n0 ≤ d2 := Nat.le_trans Z0 ge2
  have sz_d2 : h0.size ≤ d2 := Nat.le_trans (Keep.refl h0 [oa]).1 ge2
  have ne_oa_d2 : oa ≠ d2 := Nat.ne_of_lt (Nat.lt_of_lt_of_le Ea.lt ge2)
  have ne_cc_d2 : cc ≠ d2 := Nat.ne_of_lt (Nat.lt_of_lt_of_le Ac.lt ge2)
  have Ea__2 := Ea.keep K2
  have Ac__2 := Ac.keep K2 (ninS ne_ca nin0)
  have XO__2 := XO.keep K2 (allS g_oa all0)
  have KP2 := (Keep.refl h0 [oa]).trans K2 (allS (Or.inl (List.mem_of_getElem? (i := 0) rfl)) all0)
  have sz2 := Nat.le_trans Z0 K2.1
  show own_Go p e below _ (T2.setTop (mkF m 9 #[.val (.ref oa), .val (.ref cc)] []))
  exact own_ret0 X2 hx Bd.returns (hb hby dL2e_9) (⟨rfl, N2, KP2, Fc2, _, _, sz_d2, Fv2, A2⟩) (by decide) (by decide)
theorem dL3b_0 : decode jdk_52_method_21_code 0 = .ok (.iconst 0, 1) := by decide +kernel
theorem dL3b_1 : decode jdk_52_method_21_code 1 = .ok (.istore 5, 2) := by decide +kernel
theorem dL3b_3 : decode jdk_52_method_21_code 3 = .ok (.iload 5, 2) := by decide +kernel
theorem dL3b_5 : decode jdk_52_method_21_code 5 = .ok (.iload 4, 2) := by decide +kernel
theorem dL3b_7 : decode jdk_52_method_21_code 7 = .ok (.if_icmp .ge 37, 3) := by decide +kernel
theorem dL3b_10 : decode jdk_52_method_21_code 10 = .ok (.aload_n 0, 1) := by decide +kernel
theorem dL3b_11 : decode jdk_52_method_21_code 11 = .ok (.iload_n 1, 1) := by decide +kernel
theorem dL3b_12 : decode jdk_52_method_21_code 12 = .ok (.caload, 1) := by decide +kernel
theorem dL3b_13 : decode jdk_52_method_21_code 13 = .ok (.istore 6, 2) := by decide +kernel
theorem dL3b_15 : decode jdk_52_method_21_code 15 = .ok (.iload 6, 2) := by decide +kernel
theorem dL3b_17 : decode jdk_52_method_21_code 17 = .ok (.sipush 255, 3) := by decide +kernel
theorem dL3b_20 : decode jdk_52_method_21_code 20 = .ok (.if_icmp .le 6, 3) := by decide +kernel
theorem dL3b_26 : decode jdk_52_method_21_code 26 = .ok (.aload_n 2, 1) := by decide +kernel
theorem dL3b_27 : decode jdk_52_method_21_code 27 = .ok (.iload_n 3, 1) := by decide +kernel
theorem dL3b_28 : decode jdk_52_method_21_code 28 = .ok (.iload 6, 2) := by decide +kernel
theorem dL3b_30 : decode jdk_52_method_21_code 30 = .ok (.i2b, 1) := by decide +kernel
theorem dL3b_31 : decode jdk_52_method_21_code 31 = .ok (.bastore, 1) := by decide +kernel
theorem dL3b_32 : decode jdk_52_method_21_code 32 = .ok (.iinc 1 1, 3) := by decide +kernel
theorem dL3b_35 : decode jdk_52_method_21_code 35 = .ok (.iinc 3 1, 3) := by decide +kernel
theorem dL3b_38 : decode jdk_52_method_21_code 38 = .ok (.iinc 5 1, 3) := by decide +kernel
theorem dL3b_41 : decode jdk_52_method_21_code 41 = .ok (.goto (-38), 3) := by decide +kernel
theorem dL3b_44 : decode jdk_52_method_21_code 44 = .ok (.iload 4, 2) := by decide +kernel
theorem dL3b_46 : decode jdk_52_method_21_code 46 = .ok (.ireturn, 1) := by decide +kernel
theorem pnL3b : plainName "java/lang/StringUTF16" = true := by first | (simp [plainName, overriddenIn]; done) | decide +kernel
theorem efL3b (m : MethodId) (x0 : Addr) (x1 : Int32) (x2 : Addr) (x3 : Int32) (x4 : Int32) : entryFrame m #[(.ref x0), (.int x3), (.ref x2), (.int x3), (.int x4)] 7 = mkF m 0 #[.val (.ref x0), .val (.int x3), .val (.ref x2), .val (.int x3), .val (.int x4), .unset, .unset] [] := by first | (simp [entryFrame, mkF, argsToLocals, Value.category]; done) | rfl
def own_QL3b (Z : State) (u : Addr) (ku : ClassId) (c0 c1 c2 : Int32) (h0 : Heap) (n0 : Nat) (v : Option Value) (h : Heap) (L : List Loc) : Prop := v = some (.int (3 : Int32)) ∧ Fr n0 L ∧ Keep h0 h [u] ∧ Arv Z h u ku .byte (3 : Int32) [.int (nar .byte (c0.toInt8.toInt32)), .int (nar .byte (c1.toInt8.toInt32)), .int (nar .byte (c2.toInt8.toInt32))] (.int (0 : Int32))
set_option maxRecDepth 65536 in
set_option maxHeartbeats 40000000 in
theorem rmL3b (l : Launch) (Z : State) (a0 : Array Value) (hw : ∀ d ∈ tables_1, d.before a0 Z = true) (ws : List Jvm.Cond) (cc u : Addr) (kc ku : ClassId) (c0 c1 c2 : Int32) (h0 : Heap) (n0 : Nat) (Z0 : n0 ≤ h0.size) (Ac : Arv Z h0 cc kc .char (3 : Int32) [.int c0, .int c1, .int c2] (.int (0 : Int32))) (Au : Arv Z h0 u ku .byte (3 : Int32) [.int (0 : Int32), .int (0 : Int32), .int (0 : Int32)] (.int (0 : Int32))) (g_u : n0 ≤ u) (ne_cu : cc ≠ u) (hp0 : ¬ (255 : Int32) < c0) (hp1 : ¬ (255 : Int32) < c1) (hp2 : ¬ (255 : Int32) < c2) :
    MetFree l (⟨"java/lang/StringUTF16", "compress", "([CI[BII)I"⟩ : MethodName) (head1 (Jvm.Cond.code (⟨"java/lang/StringUTF16", "compress", "([CI[BII)I"⟩ : MethodName) jdk_52_method_21_code 7 (some .int) :: ws) ({ frames := 0, cells := 0, slots := 0, locals := 0 } : Room)) (fun a U => a = #[(.ref cc), (.int (0 : Int32)), (.ref u), (.int (0 : Int32)), (.int (3 : Int32))] ∧ Z.Warmed39 U.vm ∧ U.heap = h0) (fun _ _ _ _ _ => True) (fun _ U o U' => ∃ v L, o = .returned v ∧ own_QL3b Z u ku c0 c1 c2 h0 n0 v U'.heap L ∧ FrameEnd U o U' L ({ frames := 0, cells := 0, slots := 0, locals := 0 } : Room).cells ({ frames := 0, cells := 0, slots := 0, locals := 0 } : Room).slots) := by
  refine MetFree.of_bodySF (plainFor_of_name pnL3b) hisR ?_
  intro p e s m args below meth c s₁ Bd hml0 hP hK
  obtain ⟨rfl, hZ, hh⟩ := hP
  have hx := Bd.exec
  have hby := Bd.bytes
  have hml : c.maxLocals = 7 := hml0
  have hown : s.vm.findClass "java/lang/StringUTF16" = some m.cls := findClass_of_methodNamed Bd.named
  have hnm := (name_of_methodNamed Bd.named Bd.method).1
  have hlk : meth.locks = false := Bd.notSynchronized
  have X0 : Stand p l e ({ frames := 0, cells := 0, slots := 0, locals := 0 } : Room) s m #[(.ref cc), (.int (0 : Int32)), (.ref u), (.int (0 : Int32)), (.int (3 : Int32))] below meth c s₁ [] 0 0 := Stand.of_body Bd
  have e0 : s₁.heap = h0 := by rw [← hh, Bd.state]; rfl
  have N0 := Fr.nil n0
  refine own_go (fun t k => castTop (efL3b m cc (0 : Int32) u (0 : Int32) (3 : Int32)) k) ?_
  show own_Go p e below _ (s₁.setTop (mkF m 0 #[.val (.ref cc), .val (.int (0 : Int32)), .val (.ref u), .val (.int (0 : Int32)), .val (.int (3 : Int32)), .unset, .unset] []))
  refine own_go (fun t k => XS.iconst X0.here hx rfl (hb hby dL3b_0) k) ?_
  show own_Go p e below _ (s₁.setTop (mkF m 1 #[.val (.ref cc), .val (.int (0 : Int32)), .val (.ref u), .val (.int (0 : Int32)), .val (.int (3 : Int32)), .unset, .unset] [(.int (0 : Int32))]))
  refine own_go (fun t k => XS.istore X0.here hx rfl (hb hby dL3b_1) rfl (l' := #[.val (.ref cc), .val (.int (0 : Int32)), .val (.ref u), .val (.int (0 : Int32)), .val (.int (3 : Int32)), .val (.int (0 : Int32)), .unset]) rfl k) ?_
  show own_Go p e below _ (s₁.setTop (mkF m 3 #[.val (.ref cc), .val (.int (0 : Int32)), .val (.ref u), .val (.int (0 : Int32)), .val (.int (3 : Int32)), .val (.int (0 : Int32)), .unset] []))
  refine own_go (fun t k => XS.iload X0.here hx rfl (hb hby dL3b_3) rfl k) ?_
  show own_Go p e below _ (s₁.setTop (mkF m 5 #[.val (.ref cc), .val (.int (0 : Int32)), .val (.ref u), .val (.int (0 : Int32)), .val (.int (3 : Int32)), .val (.int (0 : Int32)), .unset] [(.int (0 : Int32))]))
  refine own_go (fun t k => XS.iload X0.here hx rfl (hb hby dL3b_5) rfl k) ?_
  show own_Go p e below _ (s₁.setTop (mkF m 7 #[.val (.ref cc), .val (.int (0 : Int32)), .val (.ref u), .val (.int (0 : Int32)), .val (.int (3 : Int32)), .val (.int (0 : Int32)), .unset] [(.int (3 : Int32)), (.int (0 : Int32))]))
  refine own_go (fun t k => XS.icmpNo X0.here hx rfl (hb hby dL3b_7) rfl (tlt (by decide : (0 : Int32) < (3 : Int32))).2.1 k) ?_
  show own_Go p e below _ (s₁.setTop (mkF m 10 #[.val (.ref cc), .val (.int (0 : Int32)), .val (.ref u), .val (.int (0 : Int32)), .val (.int (3 : Int32)), .val (.int (0 : Int32)), .unset] []))
  refine own_go (fun t k => XS.aloadN X0.here hx rfl (hb hby dL3b_10) rfl rfl k) ?_
  show own_Go p e below _ (s₁.setTop (mkF m 11 #[.val (.ref cc), .val (.int (0 : Int32)), .val (.ref u), .val (.int (0 : Int32)), .val (.int (3 : Int32)), .val (.int (0 : Int32)), .unset] [(.ref cc)]))
  refine own_go (fun t k => XS.iloadN X0.here hx rfl (hb hby dL3b_11) rfl k) ?_
  show own_Go p e below _ (s₁.setTop (mkF m 12 #[.val (.ref cc), .val (.int (0 : Int32)), .val (.ref u), .val (.int (0 : Int32)), .val (.int (3 : Int32)), .val (.int (0 : Int32)), .unset] [(.int (0 : Int32)), (.ref cc)]))
  obtain ⟨cl1, Ar1, qa1, Sa1, Na1, Ha1, Ga1⟩ := id Ac
  have hin1 : ¬ ((0 : Int32) < 0 ∨ cl1.slots.size ≤ ((0 : Int32)).toNatClampNeg) := inb_of Sa1 ⟨by decide, by decide⟩
  have hat1 : cl1.slots[((0 : Int32)).toNatClampNeg]? = some (.int c0) := Ha1.at hin1 rfl
  refine own_go (fun t k => X0.caload hx (j := (0 : Int32)) (v := (.int c0)) (by rw [e0]; exact Ar1.1) (State.isArrayOf_alike hZ.alike Ar1.2.1) Ar1.2.2 hin1 hat1 (g := (mkF m 12 #[.val (.ref cc), .val (.int (0 : Int32)), .val (.ref u), .val (.int (0 : Int32)), .val (.int (3 : Int32)), .val (.int (0 : Int32)), .unset] [(.int (0 : Int32)), (.ref cc)])) rfl rfl (hb hby dL3b_12) t k) ?_
  show own_Go p e below _ (s₁.setTop (mkF m 13 #[.val (.ref cc), .val (.int (0 : Int32)), .val (.ref u), .val (.int (0 : Int32)), .val (.int (3 : Int32)), .val (.int (0 : Int32)), .unset] [(.int c0)]))
  refine own_go (fun t k => XS.istore X0.here hx rfl (hb hby dL3b_13) rfl (l' := #[.val (.ref cc), .val (.int (0 : Int32)), .val (.ref u), .val (.int (0 : Int32)), .val (.int (3 : Int32)), .val (.int (0 : Int32)), .val (.int c0)]) rfl k) ?_
  show own_Go p e below _ (s₁.setTop (mkF m 15 #[.val (.ref cc), .val (.int (0 : Int32)), .val (.ref u), .val (.int (0 : Int32)), .val (.int (3 : Int32)), .val (.int (0 : Int32)), .val (.int c0)] []))
  refine own_go (fun t k => XS.iload X0.here hx rfl (hb hby dL3b_15) rfl k) ?_
  show own_Go p e below _ (s₁.setTop (mkF m 17 #[.val (.ref cc), .val (.int (0 : Int32)), .val (.ref u), .val (.int (0 : Int32)), .val (.int (3 : Int32)), .val (.int (0 : Int32)), .val (.int c0)] [(.int c0)]))
  refine own_go (fun t k => XS.sipush X0.here hx rfl (hb hby dL3b_17) k) ?_
  show own_Go p e below _ (s₁.setTop (mkF m 20 #[.val (.ref cc), .val (.int (0 : Int32)), .val (.ref u), .val (.int (0 : Int32)), .val (.int (3 : Int32)), .val (.int (0 : Int32)), .val (.int c0)] [(.int (255 : Int32)), (.int c0)]))
  refine own_go (fun t k => XS.icmpYes X0.here hx rfl (pc0 := 20) (pc' := 26) rfl (hb hby dL3b_20) rfl (flt hp0).2.2.2 (by decide) (by decide) k) ?_
  show own_Go p e below _ (s₁.setTop (mkF m 26 #[.val (.ref cc), .val (.int (0 : Int32)), .val (.ref u), .val (.int (0 : Int32)), .val (.int (3 : Int32)), .val (.int (0 : Int32)), .val (.int c0)] []))
  refine own_go (fun t k => XS.aloadN X0.here hx rfl (hb hby dL3b_26) rfl rfl k) ?_
  show own_Go p e below _ (s₁.setTop (mkF m 27 #[.val (.ref cc), .val (.int (0 : Int32)), .val (.ref u), .val (.int (0 : Int32)), .val (.int (3 : Int32)), .val (.int (0 : Int32)), .val (.int c0)] [(.ref u)]))
  refine own_go (fun t k => XS.iloadN X0.here hx rfl (hb hby dL3b_27) rfl k) ?_
  show own_Go p e below _ (s₁.setTop (mkF m 28 #[.val (.ref cc), .val (.int (0 : Int32)), .val (.ref u), .val (.int (0 : Int32)), .val (.int (3 : Int32)), .val (.int (0 : Int32)), .val (.int c0)] [(.int (0 : Int32)), (.ref u)]))
  refine own_go (fun t k => XS.iload X0.here hx rfl (hb hby dL3b_28) rfl k) ?_
  show own_Go p e below _ (s₁.setTop (mkF m 30 #[.val (.ref cc), .val (.int (0 : Int32)), .val (.ref u), .val (.int (0 : Int32)), .val (.int (3 : Int32)), .val (.int (0 : Int32)), .val (.int c0)] [(.int c0), (.int (0 : Int32)), (.ref u)]))
  refine own_go (fun t k => XS.i2b X0.here hx rfl (hb hby dL3b_30) rfl k) ?_
  show own_Go p e below _ (s₁.setTop (mkF m 31 #[.val (.ref cc), .val (.int (0 : Int32)), .val (.ref u), .val (.int (0 : Int32)), .val (.int (3 : Int32)), .val (.int (0 : Int32)), .val (.int c0)] [(.int (c0.toInt8.toInt32)), (.int (0 : Int32)), (.ref u)]))
  obtain ⟨cl2, Ar2, qa2, Sa2, Na2, Ha2, Ga2⟩ := id Au
  have hin2 : ¬ ((0 : Int32) < 0 ∨ cl2.slots.size ≤ ((0 : Int32)).toNatClampNeg) := inb_of Sa2 ⟨by decide, by decide⟩
  obtain ⟨T2, h2, X2, e2, W2, st2⟩ := stB X0 hx hZ e0 Ar2 (j := (0 : Int32)) hin2 (g := (mkF m 31 #[.val (.ref cc), .val (.int (0 : Int32)), .val (.ref u), .val (.int (0 : Int32)), .val (.int (3 : Int32)), .val (.int (0 : Int32)), .val (.int c0)] [(.int (c0.toInt8.toInt32)), (.int (0 : Int32)), (.ref u)])) rfl rfl (hb hby dL3b_31)
  have Vw2 : Arv Z h2 u ku .byte (3 : Int32) [(.int (nar .byte (c0.toInt8.toInt32))), (.int (0 : Int32)), (.int (0 : Int32))] (.int (0 : Int32)) := Arv.set Ar2 qa2 Sa2 Na2 Ha2 Ga2 (fits_nar_byte _) W2 0 rfl (Nat.le_of_ble_eq_true rfl)
  have Ac__2 := Ac.other W2 ne_cu
  have N2 := Fr.snoc X2 N0 g_u
  have KP2 := (Keep.refl h0 [u]).wr W2 (Or.inl (List.mem_of_getElem? (i := 0) rfl))
  have sz2 := Nat.le_trans Z0 (Keep.of_wr W2).1
  refine own_go (fun t k => st2 t k) ?_
  show own_Go p e below _ (T2.setTop (mkF m 32 #[.val (.ref cc), .val (.int (0 : Int32)), .val (.ref u), .val (.int (0 : Int32)), .val (.int (3 : Int32)), .val (.int (0 : Int32)), .val (.int c0)] []))
  refine own_go (fun t k => XS.iinc X2.here hx rfl (hb hby dL3b_32) rfl (l' := #[.val (.ref cc), .val (.int (1 : Int32)), .val (.ref u), .val (.int (0 : Int32)), .val (.int (3 : Int32)), .val (.int (0 : Int32)), .val (.int c0)]) rfl k) ?_
  show own_Go p e below _ (T2.setTop (mkF m 35 #[.val (.ref cc), .val (.int (1 : Int32)), .val (.ref u), .val (.int (0 : Int32)), .val (.int (3 : Int32)), .val (.int (0 : Int32)), .val (.int c0)] []))
  refine own_go (fun t k => XS.iinc X2.here hx rfl (hb hby dL3b_35) rfl (l' := #[.val (.ref cc), .val (.int (1 : Int32)), .val (.ref u), .val (.int (1 : Int32)), .val (.int (3 : Int32)), .val (.int (0 : Int32)), .val (.int c0)]) rfl k) ?_
  show own_Go p e below _ (T2.setTop (mkF m 38 #[.val (.ref cc), .val (.int (1 : Int32)), .val (.ref u), .val (.int (1 : Int32)), .val (.int (3 : Int32)), .val (.int (0 : Int32)), .val (.int c0)] []))
  refine own_go (fun t k => XS.iinc X2.here hx rfl (hb hby dL3b_38) rfl (l' := #[.val (.ref cc), .val (.int (1 : Int32)), .val (.ref u), .val (.int (1 : Int32)), .val (.int (3 : Int32)), .val (.int (1 : Int32)), .val (.int c0)]) rfl k) ?_
  show own_Go p e below _ (T2.setTop (mkF m 41 #[.val (.ref cc), .val (.int (1 : Int32)), .val (.ref u), .val (.int (1 : Int32)), .val (.int (3 : Int32)), .val (.int (1 : Int32)), .val (.int c0)] []))
  refine own_go (fun t k => XS.goto X2.here hx rfl (pc0 := 41) (pc' := 3) rfl (hb hby dL3b_41) (by decide) (by decide) k) ?_
  show own_Go p e below _ (T2.setTop (mkF m 3 #[.val (.ref cc), .val (.int (1 : Int32)), .val (.ref u), .val (.int (1 : Int32)), .val (.int (3 : Int32)), .val (.int (1 : Int32)), .val (.int c0)] []))
  refine own_go (fun t k => XS.iload X2.here hx rfl (hb hby dL3b_3) rfl k) ?_
  show own_Go p e below _ (T2.setTop (mkF m 5 #[.val (.ref cc), .val (.int (1 : Int32)), .val (.ref u), .val (.int (1 : Int32)), .val (.int (3 : Int32)), .val (.int (1 : Int32)), .val (.int c0)] [(.int (1 : Int32))]))
  refine own_go (fun t k => XS.iload X2.here hx rfl (hb hby dL3b_5) rfl k) ?_
  show own_Go p e below _ (T2.setTop (mkF m 7 #[.val (.ref cc), .val (.int (1 : Int32)), .val (.ref u), .val (.int (1 : Int32)), .val (.int (3 : Int32)), .val (.int (1 : Int32)), .val (.int c0)] [(.int (3 : Int32)), (.int (1 : Int32))]))
  refine own_go (fun t k => XS.icmpNo X2.here hx rfl (hb hby dL3b_7) rfl (tlt (by decide : (1 : Int32) < (3 : Int32))).2.1 k) ?_
  show own_Go p e below _ (T2.setTop (mkF m 10 #[.val (.ref cc), .val (.int (1 : Int32)), .val (.ref u), .val (.int (1 : Int32)), .val (.int (3 : Int32)), .val (.int (1 : Int32)), .val (.int c0)] []))
  refine own_go (fun t k => XS.aloadN X2.here hx rfl (hb hby dL3b_10) rfl rfl k) ?_
  show own_Go p e below _ (T2.setTop (mkF m 11 #[.val (.ref cc), .val (.int (1 : Int32)), .val (.ref u), .val (.int (1 : Int32)), .val (.int (3 : Int32)), .val (.int (1 : Int32)), .val (.int c0)] [(.ref cc)]))
  refine own_go (fun t k => XS.iloadN X2.here hx rfl (hb hby dL3b_11) rfl k) ?_
  show own_Go p e below _ (T2.setTop (mkF m 12 #[.val (.ref cc), .val (.int (1 : Int32)), .val (.ref u), .val (.int (1 : Int32)), .val (.int (3 : Int32)), .val (.int (1 : Int32)), .val (.int c0)] [(.int (1 : Int32)), (.ref cc)]))
  obtain ⟨cl3, Ar3, qa3, Sa3, Na3, Ha3, Ga3⟩ := id Ac__2
  have hin3 : ¬ ((1 : Int32) < 0 ∨ cl3.slots.size ≤ ((1 : Int32)).toNatClampNeg) := inb_of Sa3 ⟨by decide, by decide⟩
  have hat3 : cl3.slots[((1 : Int32)).toNatClampNeg]? = some (.int c1) := Ha3.at hin3 rfl
  refine own_go (fun t k => X2.caload hx (j := (1 : Int32)) (v := (.int c1)) (by rw [e2]; exact Ar3.1) (State.isArrayOf_alike hZ.alike Ar3.2.1) Ar3.2.2 hin3 hat3 (g := (mkF m 12 #[.val (.ref cc), .val (.int (1 : Int32)), .val (.ref u), .val (.int (1 : Int32)), .val (.int (3 : Int32)), .val (.int (1 : Int32)), .val (.int c0)] [(.int (1 : Int32)), (.ref cc)])) rfl rfl (hb hby dL3b_12) t k) ?_
  show own_Go p e below _ (T2.setTop (mkF m 13 #[.val (.ref cc), .val (.int (1 : Int32)), .val (.ref u), .val (.int (1 : Int32)), .val (.int (3 : Int32)), .val (.int (1 : Int32)), .val (.int c0)] [(.int c1)]))
  refine own_go (fun t k => XS.istore X2.here hx rfl (hb hby dL3b_13) rfl (l' := #[.val (.ref cc), .val (.int (1 : Int32)), .val (.ref u), .val (.int (1 : Int32)), .val (.int (3 : Int32)), .val (.int (1 : Int32)), .val (.int c1)]) rfl k) ?_
  show own_Go p e below _ (T2.setTop (mkF m 15 #[.val (.ref cc), .val (.int (1 : Int32)), .val (.ref u), .val (.int (1 : Int32)), .val (.int (3 : Int32)), .val (.int (1 : Int32)), .val (.int c1)] []))
  refine own_go (fun t k => XS.iload X2.here hx rfl (hb hby dL3b_15) rfl k) ?_
  show own_Go p e below _ (T2.setTop (mkF m 17 #[.val (.ref cc), .val (.int (1 : Int32)), .val (.ref u), .val (.int (1 : Int32)), .val (.int (3 : Int32)), .val (.int (1 : Int32)), .val (.int c1)] [(.int c1)]))
  refine own_go (fun t k => XS.sipush X2.here hx rfl (hb hby dL3b_17) k) ?_
  show own_Go p e below _ (T2.setTop (mkF m 20 #[.val (.ref cc), .val (.int (1 : Int32)), .val (.ref u), .val (.int (1 : Int32)), .val (.int (3 : Int32)), .val (.int (1 : Int32)), .val (.int c1)] [(.int (255 : Int32)), (.int c1)]))
  refine own_go (fun t k => XS.icmpYes X2.here hx rfl (pc0 := 20) (pc' := 26) rfl (hb hby dL3b_20) rfl (flt hp1).2.2.2 (by decide) (by decide) k) ?_
  show own_Go p e below _ (T2.setTop (mkF m 26 #[.val (.ref cc), .val (.int (1 : Int32)), .val (.ref u), .val (.int (1 : Int32)), .val (.int (3 : Int32)), .val (.int (1 : Int32)), .val (.int c1)] []))
  refine own_go (fun t k => XS.aloadN X2.here hx rfl (hb hby dL3b_26) rfl rfl k) ?_
  show own_Go p e below _ (T2.setTop (mkF m 27 #[.val (.ref cc), .val (.int (1 : Int32)), .val (.ref u), .val (.int (1 : Int32)), .val (.int (3 : Int32)), .val (.int (1 : Int32)), .val (.int c1)] [(.ref u)]))
  refine own_go (fun t k => XS.iloadN X2.here hx rfl (hb hby dL3b_27) rfl k) ?_
  show own_Go p e below _ (T2.setTop (mkF m 28 #[.val (.ref cc), .val (.int (1 : Int32)), .val (.ref u), .val (.int (1 : Int32)), .val (.int (3 : Int32)), .val (.int (1 : Int32)), .val (.int c1)] [(.int (1 : Int32)), (.ref u)]))
  refine own_go (fun t k => XS.iload X2.here hx rfl (hb hby dL3b_28) rfl k) ?_
  show own_Go p e below _ (T2.setTop (mkF m 30 #[.val (.ref cc), .val (.int (1 : Int32)), .val (.ref u), .val (.int (1 : Int32)), .val (.int (3 : Int32)), .val (.int (1 : Int32)), .val (.int c1)] [(.int c1), (.int (1 : Int32)), (.ref u)]))
  refine own_go (fun t k => XS.i2b X2.here hx rfl (hb hby dL3b_30) rfl k) ?_
  show own_Go p e below _ (T2.setTop (mkF m 31 #[.val (.ref cc), .val (.int (1 : Int32)), .val (.ref u), .val (.int (1 : Int32)), .val (.int (3 : Int32)), .val (.int (1 : Int32)), .val (.int c1)] [(.int (c1.toInt8.toInt32)), (.int (1 : Int32)), (.ref u)]))
  obtain ⟨cl4, Ar4, qa4, Sa4, Na4, Ha4, Ga4⟩ := id Vw2
  have hin4 : ¬ ((1 : Int32) < 0 ∨ cl4.slots.size ≤ ((1 : Int32)).toNatClampNeg) := inb_of Sa4 ⟨by decide, by decide⟩
  obtain ⟨T4, h4, X4, e4, W4, st4⟩ := stB X2 hx hZ e2 Ar4 (j := (1 : Int32)) hin4 (g := (mkF m 31 #[.val (.ref cc), .val (.int (1 : Int32)), .val (.ref u), .val (.int (1 : Int32)), .val (.int (3 : Int32)), .val (.int (1 : Int32)), .val (.int c1)] [(.int (c1.toInt8.toInt32)), (.int (1 : Int32)), (.ref u)])) rfl rfl (hb hby dL3b_31)
  have Vw4 : Arv Z h4 u ku .byte (3 : Int32) [(.int (nar .byte (c0.toInt8.toInt32))), (.int (nar .byte (c1.toInt8.toInt32))), (.int (0 : Int32))] (.int (0 : Int32)) := Arv.set Ar4 qa4 Sa4 Na4 Ha4 Ga4 (fits_nar_byte _) W4 1 rfl (Nat.le_of_ble_eq_true rfl)
  have Ac__4 := Ac__2.other W4 ne_cu
  have N4 := Fr.snoc X4 N2 g_u
  have KP4 := KP2.wr W4 (Or.inl (List.mem_of_getElem? (i := 0) rfl))
  have sz4 := Nat.le_trans sz2 (Keep.of_wr W4).1
  refine own_go (fun t k => st4 t k) ?_
  show own_Go p e below _ (T4.setTop (mkF m 32 #[.val (.ref cc), .val (.int (1 : Int32)), .val (.ref u), .val (.int (1 : Int32)), .val (.int (3 : Int32)), .val (.int (1 : Int32)), .val (.int c1)] []))
  refine own_go (fun t k => XS.iinc X4.here hx rfl (hb hby dL3b_32) rfl (l' := #[.val (.ref cc), .val (.int (2 : Int32)), .val (.ref u), .val (.int (1 : Int32)), .val (.int (3 : Int32)), .val (.int (1 : Int32)), .val (.int c1)]) rfl k) ?_
  show own_Go p e below _ (T4.setTop (mkF m 35 #[.val (.ref cc), .val (.int (2 : Int32)), .val (.ref u), .val (.int (1 : Int32)), .val (.int (3 : Int32)), .val (.int (1 : Int32)), .val (.int c1)] []))
  refine own_go (fun t k => XS.iinc X4.here hx rfl (hb hby dL3b_35) rfl (l' := #[.val (.ref cc), .val (.int (2 : Int32)), .val (.ref u), .val (.int (2 : Int32)), .val (.int (3 : Int32)), .val (.int (1 : Int32)), .val (.int c1)]) rfl k) ?_
  show own_Go p e below _ (T4.setTop (mkF m 38 #[.val (.ref cc), .val (.int (2 : Int32)), .val (.ref u), .val (.int (2 : Int32)), .val (.int (3 : Int32)), .val (.int (1 : Int32)), .val (.int c1)] []))
  refine own_go (fun t k => XS.iinc X4.here hx rfl (hb hby dL3b_38) rfl (l' := #[.val (.ref cc), .val (.int (2 : Int32)), .val (.ref u), .val (.int (2 : Int32)), .val (.int (3 : Int32)), .val (.int (2 : Int32)), .val (.int c1)]) rfl k) ?_
  show own_Go p e below _ (T4.setTop (mkF m 41 #[.val (.ref cc), .val (.int (2 : Int32)), .val (.ref u), .val (.int (2 : Int32)), .val (.int (3 : Int32)), .val (.int (2 : Int32)), .val (.int c1)] []))
  refine own_go (fun t k => XS.goto X4.here hx rfl (pc0 := 41) (pc' := 3) rfl (hb hby dL3b_41) (by decide) (by decide) k) ?_
  show own_Go p e below _ (T4.setTop (mkF m 3 #[.val (.ref cc), .val (.int (2 : Int32)), .val (.ref u), .val (.int (2 : Int32)), .val (.int (3 : Int32)), .val (.int (2 : Int32)), .val (.int c1)] []))
  refine own_go (fun t k => XS.iload X4.here hx rfl (hb hby dL3b_3) rfl k) ?_
  show own_Go p e below _ (T4.setTop (mkF m 5 #[.val (.ref cc), .val (.int (2 : Int32)), .val (.ref u), .val (.int (2 : Int32)), .val (.int (3 : Int32)), .val (.int (2 : Int32)), .val (.int c1)] [(.int (2 : Int32))]))
  refine own_go (fun t k => XS.iload X4.here hx rfl (hb hby dL3b_5) rfl k) ?_
  show own_Go p e below _ (T4.setTop (mkF m 7 #[.val (.ref cc), .val (.int (2 : Int32)), .val (.ref u), .val (.int (2 : Int32)), .val (.int (3 : Int32)), .val (.int (2 : Int32)), .val (.int c1)] [(.int (3 : Int32)), (.int (2 : Int32))]))
  refine own_go (fun t k => XS.icmpNo X4.here hx rfl (hb hby dL3b_7) rfl (tlt (by decide : (2 : Int32) < (3 : Int32))).2.1 k) ?_
  show own_Go p e below _ (T4.setTop (mkF m 10 #[.val (.ref cc), .val (.int (2 : Int32)), .val (.ref u), .val (.int (2 : Int32)), .val (.int (3 : Int32)), .val (.int (2 : Int32)), .val (.int c1)] []))
  refine own_go (fun t k => XS.aloadN X4.here hx rfl (hb hby dL3b_10) rfl rfl k) ?_
  show own_Go p e below _ (T4.setTop (mkF m 11 #[.val (.ref cc), .val (.int (2 : Int32)), .val (.ref u), .val (.int (2 : Int32)), .val (.int (3 : Int32)), .val (.int (2 : Int32)), .val (.int c1)] [(.ref cc)]))
  refine own_go (fun t k => XS.iloadN X4.here hx rfl (hb hby dL3b_11) rfl k) ?_
  show own_Go p e below _ (T4.setTop (mkF m 12 #[.val (.ref cc), .val (.int (2 : Int32)), .val (.ref u), .val (.int (2 : Int32)), .val (.int (3 : Int32)), .val (.int (2 : Int32)), .val (.int c1)] [(.int (2 : Int32)), (.ref cc)]))
  obtain ⟨cl5, Ar5, qa5, Sa5, Na5, Ha5, Ga5⟩ := id Ac__4
  have hin5 : ¬ ((2 : Int32) < 0 ∨ cl5.slots.size ≤ ((2 : Int32)).toNatClampNeg) := inb_of Sa5 ⟨by decide, by decide⟩
  have hat5 : cl5.slots[((2 : Int32)).toNatClampNeg]? = some (.int c2) := Ha5.at hin5 rfl
  refine own_go (fun t k => X4.caload hx (j := (2 : Int32)) (v := (.int c2)) (by rw [e4]; exact Ar5.1) (State.isArrayOf_alike hZ.alike Ar5.2.1) Ar5.2.2 hin5 hat5 (g := (mkF m 12 #[.val (.ref cc), .val (.int (2 : Int32)), .val (.ref u), .val (.int (2 : Int32)), .val (.int (3 : Int32)), .val (.int (2 : Int32)), .val (.int c1)] [(.int (2 : Int32)), (.ref cc)])) rfl rfl (hb hby dL3b_12) t k) ?_
  show own_Go p e below _ (T4.setTop (mkF m 13 #[.val (.ref cc), .val (.int (2 : Int32)), .val (.ref u), .val (.int (2 : Int32)), .val (.int (3 : Int32)), .val (.int (2 : Int32)), .val (.int c1)] [(.int c2)]))
  refine own_go (fun t k => XS.istore X4.here hx rfl (hb hby dL3b_13) rfl (l' := #[.val (.ref cc), .val (.int (2 : Int32)), .val (.ref u), .val (.int (2 : Int32)), .val (.int (3 : Int32)), .val (.int (2 : Int32)), .val (.int c2)]) rfl k) ?_
  show own_Go p e below _ (T4.setTop (mkF m 15 #[.val (.ref cc), .val (.int (2 : Int32)), .val (.ref u), .val (.int (2 : Int32)), .val (.int (3 : Int32)), .val (.int (2 : Int32)), .val (.int c2)] []))
  refine own_go (fun t k => XS.iload X4.here hx rfl (hb hby dL3b_15) rfl k) ?_
  show own_Go p e below _ (T4.setTop (mkF m 17 #[.val (.ref cc), .val (.int (2 : Int32)), .val (.ref u), .val (.int (2 : Int32)), .val (.int (3 : Int32)), .val (.int (2 : Int32)), .val (.int c2)] [(.int c2)]))
  refine own_go (fun t k => XS.sipush X4.here hx rfl (hb hby dL3b_17) k) ?_
  show own_Go p e below _ (T4.setTop (mkF m 20 #[.val (.ref cc), .val (.int (2 : Int32)), .val (.ref u), .val (.int (2 : Int32)), .val (.int (3 : Int32)), .val (.int (2 : Int32)), .val (.int c2)] [(.int (255 : Int32)), (.int c2)]))
  refine own_go (fun t k => XS.icmpYes X4.here hx rfl (pc0 := 20) (pc' := 26) rfl (hb hby dL3b_20) rfl (flt hp2).2.2.2 (by decide) (by decide) k) ?_
  show own_Go p e below _ (T4.setTop (mkF m 26 #[.val (.ref cc), .val (.int (2 : Int32)), .val (.ref u), .val (.int (2 : Int32)), .val (.int (3 : Int32)), .val (.int (2 : Int32)), .val (.int c2)] []))
  refine own_go (fun t k => XS.aloadN X4.here hx rfl (hb hby dL3b_26) rfl rfl k) ?_
  show own_Go p e below _ (T4.setTop (mkF m 27 #[.val (.ref cc), .val (.int (2 : Int32)), .val (.ref u), .val (.int (2 : Int32)), .val (.int (3 : Int32)), .val (.int (2 : Int32)), .val (.int c2)] [(.ref u)]))
  refine own_go (fun t k => XS.iloadN X4.here hx rfl (hb hby dL3b_27) rfl k) ?_
  show own_Go p e below _ (T4.setTop (mkF m 28 #[.val (.ref cc), .val (.int (2 : Int32)), .val (.ref u), .val (.int (2 : Int32)), .val (.int (3 : Int32)), .val (.int (2 : Int32)), .val (.int c2)] [(.int (2 : Int32)), (.ref u)]))
  refine own_go (fun t k => XS.iload X4.here hx rfl (hb hby dL3b_28) rfl k) ?_
  show own_Go p e below _ (T4.setTop (mkF m 30 #[.val (.ref cc), .val (.int (2 : Int32)), .val (.ref u), .val (.int (2 : Int32)), .val (.int (3 : Int32)), .val (.int (2 : Int32)), .val (.int c2)] [(.int c2), (.int (2 : Int32)), (.ref u)]))
  refine own_go (fun t k => XS.i2b X4.here hx rfl (hb hby dL3b_30) rfl k) ?_
  show own_Go p e below _ (T4.setTop (mkF m 31 #[.val (.ref cc), .val (.int (2 : Int32)), .val (.ref u), .val (.int (2 : Int32)), .val (.int (3 : Int32)), .val (.int (2 : Int32)), .val (.int c2)] [(.int (c2.toInt8.toInt32)), (.int (2 : Int32)), (.ref u)]))
  obtain ⟨cl6, Ar6, qa6, Sa6, Na6, Ha6, Ga6⟩ := id Vw4
  have hin6 : ¬ ((2 : Int32) < 0 ∨ cl6.slots.size ≤ ((2 : Int32)).toNatClampNeg) := inb_of Sa6 ⟨by decide, by decide⟩
  obtain ⟨T6, h6, X6, e6, W6, st6⟩ := stB X4 hx hZ e4 Ar6 (j := (2 : Int32)) hin6 (g := (mkF m 31 #[.val (.ref cc), .val (.int (2 : Int32)), .val (.ref u), .val (.int (2 : Int32)), .val (.int (3 : Int32)), .val (.int (2 : Int32)), .val (.int c2)] [(.int (c2.toInt8.toInt32)), (.int (2 : Int32)), (.ref u)])) rfl rfl (hb hby dL3b_31)
  have Vw6 : Arv Z h6 u ku .byte (3 : Int32) [(.int (nar .byte (c0.toInt8.toInt32))), (.int (nar .byte (c1.toInt8.toInt32))), (.int (nar .byte (c2.toInt8.toInt32)))] (.int (0 : Int32)) := Arv.set Ar6 qa6 Sa6 Na6 Ha6 Ga6 (fits_nar_byte _) W6 2 rfl (Nat.le_of_ble_eq_true rfl)
  have Ac__6 := Ac__4.other W6 ne_cu
  have N6 := Fr.snoc X6 N4 g_u
  have KP6 := KP4.wr W6 (Or.inl (List.mem_of_getElem? (i := 0) rfl))
  have sz6 := Nat.le_trans sz4 (Keep.of_wr W6).1
  refine own_go (fun t k => st6 t k) ?_
  show own_Go p e below _ (T6.setTop (mkF m 32 #[.val (.ref cc), .val (.int (2 : Int32)), .val (.ref u), .val (.int (2 : Int32)), .val (.int (3 : Int32)), .val (.int (2 : Int32)), .val (.int c2)] []))
  refine own_go (fun t k => XS.iinc X6.here hx rfl (hb hby dL3b_32) rfl (l' := #[.val (.ref cc), .val (.int (3 : Int32)), .val (.ref u), .val (.int (2 : Int32)), .val (.int (3 : Int32)), .val (.int (2 : Int32)), .val (.int c2)]) rfl k) ?_
  show own_Go p e below _ (T6.setTop (mkF m 35 #[.val (.ref cc), .val (.int (3 : Int32)), .val (.ref u), .val (.int (2 : Int32)), .val (.int (3 : Int32)), .val (.int (2 : Int32)), .val (.int c2)] []))
  refine own_go (fun t k => XS.iinc X6.here hx rfl (hb hby dL3b_35) rfl (l' := #[.val (.ref cc), .val (.int (3 : Int32)), .val (.ref u), .val (.int (3 : Int32)), .val (.int (3 : Int32)), .val (.int (2 : Int32)), .val (.int c2)]) rfl k) ?_
  show own_Go p e below _ (T6.setTop (mkF m 38 #[.val (.ref cc), .val (.int (3 : Int32)), .val (.ref u), .val (.int (3 : Int32)), .val (.int (3 : Int32)), .val (.int (2 : Int32)), .val (.int c2)] []))
  refine own_go (fun t k => XS.iinc X6.here hx rfl (hb hby dL3b_38) rfl (l' := #[.val (.ref cc), .val (.int (3 : Int32)), .val (.ref u), .val (.int (3 : Int32)), .val (.int (3 : Int32)), .val (.int (3 : Int32)), .val (.int c2)]) rfl k) ?_
  show own_Go p e below _ (T6.setTop (mkF m 41 #[.val (.ref cc), .val (.int (3 : Int32)), .val (.ref u), .val (.int (3 : Int32)), .val (.int (3 : Int32)), .val (.int (3 : Int32)), .val (.int c2)] []))
  refine own_go (fun t k => XS.goto X6.here hx rfl (pc0 := 41) (pc' := 3) rfl (hb hby dL3b_41) (by decide) (by decide) k) ?_
  show own_Go p e below _ (T6.setTop (mkF m 3 #[.val (.ref cc), .val (.int (3 : Int32)), .val (.ref u), .val (.int (3 : Int32)), .val (.int (3 : Int32)), .val (.int (3 : Int32)), .val (.int c2)] []))
  refine own_go (fun t k => XS.iload X6.here hx rfl (hb hby dL3b_3) rfl k) ?_
  show own_Go p e below _ (T6.setTop (mkF m 5 #[.val (.ref cc), .val (.int (3 : Int32)), .val (.ref u), .val (.int (3 : Int32)), .val (.int (3 : Int32)), .val (.int (3 : Int32)), .val (.int c2)] [(.int (3 : Int32))]))
  refine own_go (fun t k => XS.iload X6.here hx rfl (hb hby dL3b_5) rfl k) ?_
  show own_Go p e below _ (T6.setTop (mkF m 7 #[.val (.ref cc), .val (.int (3 : Int32)), .val (.ref u), .val (.int (3 : Int32)), .val (.int (3 : Int32)), .val (.int (3 : Int32)), .val (.int c2)] [(.int (3 : Int32)), (.int (3 : Int32))]))
  refine own_go (fun t k => XS.icmpYes X6.here hx rfl (pc0 := 7) (pc' := 44) rfl (hb hby dL3b_7) rfl (flt (by decide : ¬ ((3 : Int32) < (3 : Int32)))).2.1 (by decide) (by decide) k) ?_
  show own_Go p e below _ (T6.setTop (mkF m 44 #[.val (.ref cc), .val (.int (3 : Int32)), .val (.ref u), .val (.int (3 : Int32)), .val (.int (3 : Int32)), .val (.int (3 : Int32)), .val (.int c2)] []))
  refine own_go (fun t k => XS.iload X6.here hx rfl (hb hby dL3b_44) rfl k) ?_
  show own_Go p e below _ (T6.setTop (mkF m 46 #[.val (.ref cc), .val (.int (3 : Int32)), .val (.ref u), .val (.int (3 : Int32)), .val (.int (3 : Int32)), .val (.int (3 : Int32)), .val (.int c2)] [(.int (3 : Int32))]))
  exact own_retI X6 hx Bd.returns (hb hby dL3b_46) (by rw [e6]; exact ⟨rfl, N6, KP6, Vw6⟩) (by decide) (by decide)
theorem dL3c_0 : decode jdk_52_method_16_code 0 = .ok (.iload_n 2, 1) := by decide +kernel
theorem dL3c_1 : decode jdk_52_method_16_code 1 = .ok (.newarray .byte, 2) := by decide +kernel
theorem dL3c_3 : decode jdk_52_method_16_code 3 = .ok (.astore_n 3, 1) := by decide +kernel
theorem dL3c_4 : decode jdk_52_method_16_code 4 = .ok (.aload_n 0, 1) := by decide +kernel
theorem dL3c_5 : decode jdk_52_method_16_code 5 = .ok (.iload_n 1, 1) := by decide +kernel
theorem dL3c_6 : decode jdk_52_method_16_code 6 = .ok (.aload_n 3, 1) := by decide +kernel
theorem dL3c_7 : decode jdk_52_method_16_code 7 = .ok (.iconst 0, 1) := by decide +kernel
theorem dL3c_8 : decode jdk_52_method_16_code 8 = .ok (.iload_n 2, 1) := by decide +kernel
theorem dL3c_9 : decode jdk_52_method_16_code 9 = .ok (.invokestatic 115, 3) := by decide +kernel
theorem dL3c_12 : decode jdk_52_method_16_code 12 = .ok (.istore 4, 2) := by decide +kernel
theorem dL3c_14 : decode jdk_52_method_16_code 14 = .ok (.iload 4, 2) := by decide +kernel
theorem dL3c_16 : decode jdk_52_method_16_code 16 = .ok (.iload_n 2, 1) := by decide +kernel
theorem dL3c_17 : decode jdk_52_method_16_code 17 = .ok (.if_icmp .eq 40, 3) := by decide +kernel
theorem dL3c_57 : decode jdk_52_method_16_code 57 = .ok (.aload_n 3, 1) := by decide +kernel
theorem dL3c_58 : decode jdk_52_method_16_code 58 = .ok (.areturn, 1) := by decide +kernel
theorem pnL3c : plainName "java/lang/StringUTF16" = true := by first | (simp [plainName, overriddenIn]; done) | decide +kernel
theorem pdL3c_0 : parseMethodDescriptor "([CI[BII)I" = some ⟨[(.array .char), .int, (.array .byte), .int, .int], some .int⟩ := by decide +kernel
theorem efL3c (m : MethodId) (x0 : Addr) (x1 : Int32) (x2 : Int32) : entryFrame m #[(.ref x0), (.int x1), (.int x2)] 6 = mkF m 0 #[.val (.ref x0), .val (.int x1), .val (.int x2), .unset, .unset, .unset] [] := by first | (simp [entryFrame, mkF, argsToLocals, Value.category]; done) | rfl
def own_QL3c (Z : State) (c0 c1 c2 : Int32) (h0 : Heap) (n0 : Nat) (v : Option Value) (h : Heap) (L : List Loc) : Prop := ∃ (b : Addr) (kb : ClassId), v = some (.ref b) ∧ Fr n0 L ∧ Keep h0 h [] ∧ h0.size ≤ b ∧ Arv Z h b kb .byte (3 : Int32) [.int (nar .byte (c0.toInt8.toInt32)), .int (nar .byte (c1.toInt8.toInt32)), .int (nar .byte (c2.toInt8.toInt32))] (.int (0 : Int32))
set_option maxRecDepth 65536 in
set_option maxHeartbeats 40000000 in
theorem rmL3c (l : Launch) (Z : State) (a0 : Array Value) (hw : ∀ d ∈ tables_1, d.before a0 Z = true) (ws : List Jvm.Cond) (cc : Addr) (kc : ClassId) (c0 c1 c2 : Int32) (h0 : Heap) (n0 : Nat) (Z0 : n0 ≤ h0.size) (Ac : Arv Z h0 cc kc .char (3 : Int32) [.int c0, .int c1, .int c2] (.int (0 : Int32))) (hp0 : ¬ (255 : Int32) < c0) (hp1 : ¬ (255 : Int32) < c1) (hp2 : ¬ (255 : Int32) < c2) :
    MetFree l (⟨"java/lang/StringUTF16", "compress", "([CII)[B"⟩ : MethodName) (head1 (Jvm.Cond.code (⟨"java/lang/StringUTF16", "compress", "([CII)[B"⟩ : MethodName) jdk_52_method_16_code 6 (some (.array .byte)) :: ws) ({ frames := 1, cells := 1, slots := 3, locals := 18 } : Room)) (fun a U => a = #[(.ref cc), (.int (0 : Int32)), (.int (3 : Int32))] ∧ Z.Warmed39 U.vm ∧ U.heap = h0) (fun _ _ _ _ _ => True) (fun _ U o U' => ∃ v L, o = .returned v ∧ own_QL3c Z c0 c1 c2 h0 n0 v U'.heap L ∧ FrameEnd U o U' L ({ frames := 1, cells := 1, slots := 3, locals := 18 } : Room).cells ({ frames := 1, cells := 1, slots := 3, locals := 18 } : Room).slots) := by
  refine MetFree.of_bodySF (plainFor_of_name pnL3c) hisR ?_
  intro p e s m args below meth c s₁ Bd hml0 hP hK
  obtain ⟨rfl, hZ, hh⟩ := hP
  have hx := Bd.exec
  have hby := Bd.bytes
  have hml : c.maxLocals = 6 := hml0
  have hown : s.vm.findClass "java/lang/StringUTF16" = some m.cls := findClass_of_methodNamed Bd.named
  have hnm := (name_of_methodNamed Bd.named Bd.method).1
  have hlk : meth.locks = false := Bd.notSynchronized
  have X0 : Stand p l e ({ frames := 1, cells := 1, slots := 3, locals := 18 } : Room) s m #[(.ref cc), (.int (0 : Int32)), (.int (3 : Int32))] below meth c s₁ [] 0 0 := Stand.of_body Bd
  have e0 : s₁.heap = h0 := by rw [← hh, Bd.state]; rfl
  have N0 := Fr.nil n0
  refine own_go (fun t k => castTop (efL3c m cc (0 : Int32) (3 : Int32)) k) ?_
  show own_Go p e below _ (s₁.setTop (mkF m 0 #[.val (.ref cc), .val (.int (0 : Int32)), .val (.int (3 : Int32)), .unset, .unset, .unset] []))
  refine own_go (fun t k => XS.iloadN X0.here hx rfl (hb hby dL3c_0) rfl k) ?_
  show own_Go p e below _ (s₁.setTop (mkF m 1 #[.val (.ref cc), .val (.int (0 : Int32)), .val (.int (3 : Int32)), .unset, .unset, .unset] [(.int (3 : Int32))]))
  obtain ⟨T1, h1, k1, X1, e1, E1, A1, st1⟩ := newP X0 hx hZ (hw _ (List.mem_of_getElem? (i := 7) rfl)) e0 (g := (mkF m 1 #[.val (.ref cc), .val (.int (0 : Int32)), .val (.int (3 : Int32)), .unset, .unset, .unset] [(.int (3 : Int32))])) rfl (hb hby dL3c_1) rfl (by decide) (cap := 3) (by decide) (by decide) (by decide) (by decide)
  obtain ⟨b1, g1⟩ : ∃ z, z = h0.size := ⟨_, rfl⟩
  rw [← g1] at A1 st1
  have g_b1 : n0 ≤ b1 := Nat.le_trans Z0 (Nat.le_of_eq g1.symm)
  have sz_b1 : h0.size ≤ b1 := Nat.le_trans (Keep.refl h0 []).1 (Nat.le_of_eq g1.symm)
  have ne_cc_b1 : cc ≠ b1 := Nat.ne_of_lt (Nat.lt_of_lt_of_le Ac.lt (Nat.le_of_eq g1.symm))
  have Ac__1 := Ac.ext E1
  have sz1 := Nat.le_trans Z0 E1.1
  have KP1 := (Keep.refl h0 []).ext E1
  have V1 : Arv Z h1 b1 k1 .byte (3 : Int32) [(.int (0 : Int32)), (.int (0 : Int32)), (.int (0 : Int32))] (.int (0 : Int32)) := (Arv.new A1 (by decide)).pad (pad_rep [] (.int (0 : Int32)) 3)
  refine own_go (fun t k => st1 t k) ?_
  show own_Go p e below _ (T1.setTop (mkF m 3 #[.val (.ref cc), .val (.int (0 : Int32)), .val (.int (3 : Int32)), .unset, .unset, .unset] [(.ref b1)]))
  refine own_go (fun t k => XS.astoreN X1.here hx rfl (hb hby dL3c_3) rfl rfl (l' := #[.val (.ref cc), .val (.int (0 : Int32)), .val (.int (3 : Int32)), .val (.ref b1), .unset, .unset]) rfl k) ?_
  show own_Go p e below _ (T1.setTop (mkF m 4 #[.val (.ref cc), .val (.int (0 : Int32)), .val (.int (3 : Int32)), .val (.ref b1), .unset, .unset] []))
  refine own_go (fun t k => XS.aloadN X1.here hx rfl (hb hby dL3c_4) rfl rfl k) ?_
  show own_Go p e below _ (T1.setTop (mkF m 5 #[.val (.ref cc), .val (.int (0 : Int32)), .val (.int (3 : Int32)), .val (.ref b1), .unset, .unset] [(.ref cc)]))
  refine own_go (fun t k => XS.iloadN X1.here hx rfl (hb hby dL3c_5) rfl k) ?_
  show own_Go p e below _ (T1.setTop (mkF m 6 #[.val (.ref cc), .val (.int (0 : Int32)), .val (.int (3 : Int32)), .val (.ref b1), .unset, .unset] [(.int (0 : Int32)), (.ref cc)]))
  refine own_go (fun t k => XS.aloadN X1.here hx rfl (hb hby dL3c_6) rfl rfl k) ?_
  show own_Go p e below _ (T1.setTop (mkF m 7 #[.val (.ref cc), .val (.int (0 : Int32)), .val (.int (3 : Int32)), .val (.ref b1), .unset, .unset] [(.ref b1), (.int (0 : Int32)), (.ref cc)]))
  refine own_go (fun t k => XS.iconst X1.here hx rfl (hb hby dL3c_7) k) ?_
  show own_Go p e below _ (T1.setTop (mkF m 8 #[.val (.ref cc), .val (.int (0 : Int32)), .val (.int (3 : Int32)), .val (.ref b1), .unset, .unset] [(.int (0 : Int32)), (.ref b1), (.int (0 : Int32)), (.ref cc)]))
  refine own_go (fun t k => XS.iloadN X1.here hx rfl (hb hby dL3c_8) rfl k) ?_
  show own_Go p e below _ (T1.setTop (mkF m 9 #[.val (.ref cc), .val (.int (0 : Int32)), .val (.int (3 : Int32)), .val (.ref b1), .unset, .unset] [(.int (3 : Int32)), (.int (0 : Int32)), (.ref b1), (.int (0 : Int32)), (.ref cc)]))
  obtain ⟨_, _, ⟨T2, L2, k2, n2⟩, -, X2, ⟨Lc2, hQ2, l2, y2, z2⟩, st2⟩ := Jvm.LawKit.callS X1 hx (y := (⟨"java/lang/StringUTF16", "compress", "([CI[BII)I"⟩ : MethodName)) hown (mvT hZ (hw _ (List.mem_of_getElem? (i := 171) rfl))) (mvT hZ (hw _ (List.mem_of_getElem? (i := 172) rfl))) (mvT hZ (hw _ (List.mem_of_getElem? (i := 169) rfl))) (mvT hZ (hw _ (List.mem_of_getElem? (i := 173) rfl))) (by decide) (backOf (W := 0) (rmL3b l Z a0 hw [] cc b1 kc k1 c0 c1 c2 h1 n0 sz1 Ac__1 V1 g_b1 ne_cc_b1 hp0 hp1 hp2) hZ (hw _ (List.mem_of_getElem? (i := 173) rfl)) (hw _ (List.mem_of_getElem? (i := 169) rfl)) (by decide) (by decide)) (g := (mkF m 9 #[.val (.ref cc), .val (.int (0 : Int32)), .val (.int (3 : Int32)), .val (.ref b1), .unset, .unset] [(.int (3 : Int32)), (.int (0 : Int32)), (.ref b1), (.int (0 : Int32)), (.ref cc)])) rfl (by rw [hml]; rfl) (argsL := [(.ref cc), (.int (0 : Int32)), (.ref b1), (.int (0 : Int32)), (.int (3 : Int32))]) (rest := []) (lenOf pdL3c_0 rfl) rfl (by show 2 * 0 + _ ≤ _; exact Nat.le_of_eq rfl) (hb hby dL3c_9) (fun _ _ => ⟨rfl, e1, (by decide : 0 + 1 + 0 ≤ _), (by decide : 0 + 3 + 0 ≤ _)⟩)
  dsimp only [Pt.U, Pt.locs, Pt.cells, Pt.slots] at X2 l2 y2 z2 st2 hQ2
  subst l2 y2 z2
  obtain ⟨rfl, Nq2, K2, A2⟩ := hQ2
  have N2 := Fr.app N0 Nq2
  refine own_go (fun t k => st2 t k) ?_
  have Ac__2 := Ac__1.keep K2 (ninS ne_cc_b1 nin0)
  have KP2 := KP1.trans K2 (allS (Or.inr sz_b1) all0)
  have sz2 := Nat.le_trans sz1 K2.1
  show own_Go p e below _ (T2.setTop (mkF m 12 #[.val (.ref cc), .val (.int (0 : Int32)), .val (.int (3 : Int32)), .val (.ref b1), .unset, .unset] [(.int (3 : Int32))]))
  refine own_go (fun t k => XS.istore X2.here hx rfl (hb hby dL3c_12) rfl (l' := #[.val (.ref cc), .val (.int (0 : Int32)), .val (.int (3 : Int32)), .val (.ref b1), .val (.int (3 : Int32)), .unset]) rfl k) ?_
  show own_Go p e below _ (T2.setTop (mkF m 14 #[.val (.ref cc), .val (.int (0 : Int32)), .val (.int (3 : Int32)), .val (.ref b1), .val (.int (3 : Int32)), .unset] []))
  refine own_go (fun t k => XS.iload X2.here hx rfl (hb hby dL3c_14) rfl k) ?_
  show own_Go p e below _ (T2.setTop (mkF m 16 #[.val (.ref cc), .val (.int (0 : Int32)), .val (.int (3 : Int32)), .val (.ref b1), .val (.int (3 : Int32)), .unset] [(.int (3 : Int32))]))
  refine own_go (fun t k => XS.iloadN X2.here hx rfl (hb hby dL3c_16) rfl k) ?_
  show own_Go p e below _ (T2.setTop (mkF m 17 #[.val (.ref cc), .val (.int (0 : Int32)), .val (.int (3 : Int32)), .val (.ref b1), .val (.int (3 : Int32)), .unset] [(.int (3 : Int32)), (.int (3 : Int32))]))
  refine own_go (fun t k => XS.icmpYes X2.here hx rfl (pc0 := 17) (pc' := 57) rfl (hb hby dL3c_17) rfl (teq (by decide : (3 : Int32) = (3 : Int32))).1 (by decide) (by decide) k) ?_
  show own_Go p e below _ (T2.setTop (mkF m 57 #[.val (.ref cc), .val (.int (0 : Int32)), .val (.int (3 : Int32)), .val (.ref b1), .val (.int (3 : Int32)), .unset] []))
  refine own_go (fun t k => XS.aloadN X2.here hx rfl (hb hby dL3c_57) rfl rfl k) ?_
  show own_Go p e below _ (T2.setTop (mkF m 58 #[.val (.ref cc), .val (.int (0 : Int32)), .val (.int (3 : Int32)), .val (.ref b1), .val (.int (3 : Int32)), .unset] [(.ref b1)]))
  exact own_retA X2 hx Bd.returns rfl rfl (hb hby dL3c_58) (⟨_, _, rfl, N2, KP2, sz_b1, A2⟩) (by decide) (by decide)
theorem dL3a_0 : decode jdk_52_method_15_code 0 = .ok (.iload_n 1, 1) := by decide +kernel
theorem dL3a_1 : decode jdk_52_method_15_code 1 = .ok (.aload_n 0, 1) := by decide +kernel
theorem dL3a_2 : decode jdk_52_method_15_code 2 = .ok (.arraylength, 1) := by decide +kernel
theorem dL3a_3 : decode jdk_52_method_15_code 3 = .ok (.isub, 1) := by decide +kernel
theorem dL3a_4 : decode jdk_52_method_15_code 4 = .ok (.bipush 31, 2) := by decide +kernel
theorem dL3a_6 : decode jdk_52_method_15_code 6 = .ok (.iushr, 1) := by decide +kernel
theorem dL3a_7 : decode jdk_52_method_15_code 7 = .ok (.i2b, 1) := by decide +kernel
theorem dL3a_8 : decode jdk_52_method_15_code 8 = .ok (.ireturn, 1) := by decide +kernel
theorem pnL3a : plainName "java/lang/StringUTF16" = true := by first | (simp [plainName, overriddenIn]; done) | decide +kernel
theorem efL3a (m : MethodId) (x0 : Addr) (x1 : Int32) : entryFrame m #[(.ref x0), (.int x1)] 2 = mkF m 0 #[.val (.ref x0), .val (.int x1)] [] := by first | (simp [entryFrame, mkF, argsToLocals, Value.category]; done) | rfl
def own_QL3a (h0 : Heap) (n0 : Nat) (v : Option Value) (h : Heap) (L : List Loc) : Prop := v = some (.int (0 : Int32)) ∧ Fr n0 L ∧ h = h0
set_option maxRecDepth 65536 in
set_option maxHeartbeats 40000000 in
theorem rmL3a (l : Launch) (Z : State) (a0 : Array Value) (hw : ∀ d ∈ tables_1, d.before a0 Z = true) (ws : List Jvm.Cond) (ot : Addr) (kt : ClassId) (x0 : Int32) (x1 : Int32) (x2 : Int32) (h0 : Heap) (n0 : Nat) (Z0 : n0 ≤ h0.size) (At : Arv Z h0 ot kt .byte (3 : Int32) [.int x0, .int x1, .int x2] (.int (0 : Int32))) :
    MetFree l (⟨"java/lang/StringUTF16", "coderFromArrayLen", "([BI)B"⟩ : MethodName) (head1 (Jvm.Cond.code (⟨"java/lang/StringUTF16", "coderFromArrayLen", "([BI)B"⟩ : MethodName) jdk_52_method_15_code 2 (some .byte) :: ws) ({ frames := 0, cells := 0, slots := 0, locals := 0 } : Room)) (fun a U => a = #[(.ref ot), (.int (3 : Int32))] ∧ Z.Warmed39 U.vm ∧ U.heap = h0) (fun _ _ _ _ _ => True) (fun _ U o U' => ∃ v L, o = .returned v ∧ own_QL3a h0 n0 v U'.heap L ∧ FrameEnd U o U' L ({ frames := 0, cells := 0, slots := 0, locals := 0 } : Room).cells ({ frames := 0, cells := 0, slots := 0, locals := 0 } : Room).slots) := by
  refine MetFree.of_bodySF (plainFor_of_name pnL3a) hisR ?_
  intro p e s m args below meth c s₁ Bd hml0 hP hK
  obtain ⟨rfl, hZ, hh⟩ := hP
  have hx := Bd.exec
  have hby := Bd.bytes
  have hml : c.maxLocals = 2 := hml0
  have hown : s.vm.findClass "java/lang/StringUTF16" = some m.cls := findClass_of_methodNamed Bd.named
  have hnm := (name_of_methodNamed Bd.named Bd.method).1
  have hlk : meth.locks = false := Bd.notSynchronized
  have X0 : Stand p l e ({ frames := 0, cells := 0, slots := 0, locals := 0 } : Room) s m #[(.ref ot), (.int (3 : Int32))] below meth c s₁ [] 0 0 := Stand.of_body Bd
  have e0 : s₁.heap = h0 := by rw [← hh, Bd.state]; rfl
  have N0 := Fr.nil n0
  refine own_go (fun t k => castTop (efL3a m ot (3 : Int32)) k) ?_
  show own_Go p e below _ (s₁.setTop (mkF m 0 #[.val (.ref ot), .val (.int (3 : Int32))] []))
  refine own_go (fun t k => XS.iloadN X0.here hx rfl (hb hby dL3a_0) rfl k) ?_
  show own_Go p e below _ (s₁.setTop (mkF m 1 #[.val (.ref ot), .val (.int (3 : Int32))] [(.int (3 : Int32))]))
  refine own_go (fun t k => XS.aloadN X0.here hx rfl (hb hby dL3a_1) rfl rfl k) ?_
  show own_Go p e below _ (s₁.setTop (mkF m 2 #[.val (.ref ot), .val (.int (3 : Int32))] [(.ref ot), (.int (3 : Int32))]))
  obtain ⟨cl1, Ar1, -, Sa1, Na1, -, -⟩ := id At
  have ln1 := len_of Sa1 Na1
  refine own_go (fun t k => X0.arraylength hx (by rw [e0]; exact Ar1.1) (State.isArrayOf_alike hZ.alike Ar1.2.1) (g := (mkF m 2 #[.val (.ref ot), .val (.int (3 : Int32))] [(.ref ot), (.int (3 : Int32))])) rfl rfl (hb hby dL3a_2) t (by rw [ln1]; exact k)) ?_
  show own_Go p e below _ (s₁.setTop (mkF m 3 #[.val (.ref ot), .val (.int (3 : Int32))] [(.int (3 : Int32)), (.int (3 : Int32))]))
  refine own_go (fun t k => XS.isub X0.here hx rfl (hb hby dL3a_3) rfl k) ?_
  show own_Go p e below _ (s₁.setTop (mkF m 4 #[.val (.ref ot), .val (.int (3 : Int32))] [(.int ((3 : Int32) - (3 : Int32)))]))
  refine own_go (fun t k => XS.bipush X0.here hx rfl (hb hby dL3a_4) k) ?_
  show own_Go p e below _ (s₁.setTop (mkF m 6 #[.val (.ref ot), .val (.int (3 : Int32))] [(.int (31 : Int32)), (.int ((3 : Int32) - (3 : Int32)))]))
  refine own_go (fun t k => XS.iushr X0.here hx rfl (hb hby dL3a_6) rfl k) ?_
  show own_Go p e below _ (s₁.setTop (mkF m 7 #[.val (.ref ot), .val (.int (3 : Int32))] [(.int ((((3 : Int32) - (3 : Int32)).toUInt32 >>> ((31 : Int32) &&& 31).toUInt32).toInt32))]))
  refine own_go (fun t k => XS.i2b X0.here hx rfl (hb hby dL3a_7) rfl k) ?_
  show own_Go p e below _ (s₁.setTop (mkF m 8 #[.val (.ref ot), .val (.int (3 : Int32))] [(.int (((((3 : Int32) - (3 : Int32)).toUInt32 >>> ((31 : Int32) &&& 31).toUInt32).toInt32).toInt8.toInt32))]))
  exact own_retN X0 hx (t := .byte) Bd.returns (by simp) (hb hby dL3a_8) (by rw [e0]; exact ⟨by decide, N0, rfl⟩) (by decide) (by decide)
theorem dL3d_0 : decode jdk_42_method_149_code 0 = .ok (.aload_n 0, 1) := by decide +kernel
theorem dL3d_1 : decode jdk_42_method_149_code 1 = .ok (.invokespecial 1, 3) := by decide +kernel
theorem dL3d_4 : decode jdk_42_method_149_code 4 = .ok (.iload_n 3, 1) := by decide +kernel
theorem dL3d_5 : decode jdk_42_method_149_code 5 = .ok (.ifCond .ne 22, 3) := by decide +kernel
theorem dL3d_27 : decode jdk_42_method_149_code 27 = .ok (.getstatic 38, 3) := by decide +kernel
theorem dL3d_30 : decode jdk_42_method_149_code 30 = .ok (.ifCond .eq 28, 3) := by decide +kernel
theorem dL3d_33 : decode jdk_42_method_149_code 33 = .ok (.aload_n 1, 1) := by decide +kernel
theorem dL3d_34 : decode jdk_42_method_149_code 34 = .ok (.iload_n 2, 1) := by decide +kernel
theorem dL3d_35 : decode jdk_42_method_149_code 35 = .ok (.iload_n 3, 1) := by decide +kernel
theorem dL3d_36 : decode jdk_42_method_149_code 36 = .ok (.invokestatic 177, 3) := by decide +kernel
theorem dL3d_39 : decode jdk_42_method_149_code 39 = .ok (.astore 5, 2) := by decide +kernel
theorem dL3d_41 : decode jdk_42_method_149_code 41 = .ok (.aload_n 0, 1) := by decide +kernel
theorem dL3d_42 : decode jdk_42_method_149_code 42 = .ok (.aload 5, 2) := by decide +kernel
theorem dL3d_44 : decode jdk_42_method_149_code 44 = .ok (.iload_n 3, 1) := by decide +kernel
theorem dL3d_45 : decode jdk_42_method_149_code 45 = .ok (.invokestatic 47, 3) := by decide +kernel
theorem dL3d_48 : decode jdk_42_method_149_code 48 = .ok (.putfield 15, 3) := by decide +kernel
theorem dL3d_51 : decode jdk_42_method_149_code 51 = .ok (.aload_n 0, 1) := by decide +kernel
theorem dL3d_52 : decode jdk_42_method_149_code 52 = .ok (.aload 5, 2) := by decide +kernel
theorem dL3d_54 : decode jdk_42_method_149_code 54 = .ok (.putfield 9, 3) := by decide +kernel
theorem dL3d_57 : decode jdk_42_method_149_code 57 = .ok (.return_, 1) := by decide +kernel
theorem pnL3d : plainName "java/lang/String" = true := by first | (simp [plainName, overriddenIn]; done) | decide +kernel
theorem pdL3d_0 : parseMethodDescriptor "([CII)[B" = some ⟨[(.array .char), .int, .int], some (.array .byte)⟩ := by decide +kernel
theorem pdL3d_1 : parseMethodDescriptor "([BI)B" = some ⟨[(.array .byte), .int], some .byte⟩ := by decide +kernel
theorem efL3d (m : MethodId) (x0 : Addr) (x1 : Addr) (x2 : Int32) (x3 : Int32) : entryFrame m #[(.ref x0), (.ref x1), (.int x2), (.int x3), .null] 6 = mkF m 0 #[.val (.ref x0), .val (.ref x1), .val (.int x2), .val (.int x3), .val .null, .unset] [] := by first | (simp [entryFrame, mkF, argsToLocals, Value.category]; done) | rfl
def own_QL3d (Z : State) (a : Addr) (c0 c1 c2 : Int32) (h0 : Heap) (n0 : Nat) (v : Option Value) (h : Heap) (L : List Loc) : Prop := v = none ∧ Fr n0 L ∧ Keep h0 h [a] ∧ Fld Z h a "java/lang/String" "coder" "B" (.int (0 : Int32)) ∧ ∃ (b : Addr) (kb : ClassId), h0.size ≤ b ∧ Fld Z h a "java/lang/String" "value" "[B" (.ref b) ∧ Arv Z h b kb .byte (3 : Int32) [.int (nar .byte (c0.toInt8.toInt32)), .int (nar .byte (c1.toInt8.toInt32)), .int (nar .byte (c2.toInt8.toInt32))] (.int (0 : Int32))
set_option maxRecDepth 65536 in
set_option maxHeartbeats 40000000 in
theorem rmL3d (l : Launch) (Z : State) (a0 : Array Value) (hw : ∀ d ∈ tables_1, d.before a0 Z = true) (ws : List Jvm.Cond) (oa cc : Addr) (kc : ClassId) (cs : Int32) (c0 c1 c2 : Int32) (h0 : Heap) (n0 : Nat) (Z0 : n0 ≤ h0.size) (Ea : Exa Z h0 oa "java/lang/String") (Fv : Fld Z h0 oa "java/lang/String" "value" "[B" .null) (Fc : Fld Z h0 oa "java/lang/String" "coder" "B" (.int (0 : Int32))) (g_oa : n0 ≤ oa) (ne_ca : cc ≠ oa) (Ac : Arv Z h0 cc kc .char (3 : Int32) [.int c0, .int c1, .int c2] (.int (0 : Int32))) (SC : Sta Z Z.heap "java/lang/String" "COMPACT_STRINGS" "Z" (.int cs)) (hcs : ¬ cs = 0) (XO : Old Z n0 h0) (hp0 : ¬ (255 : Int32) < c0) (hp1 : ¬ (255 : Int32) < c1) (hp2 : ¬ (255 : Int32) < c2) :
    MetFree l (⟨"java/lang/String", "<init>", "([CIILjava/lang/Void;)V"⟩ : MethodName) (head1 (Jvm.Cond.code (⟨"java/lang/String", "<init>", "([CIILjava/lang/Void;)V"⟩ : MethodName) jdk_42_method_149_code 6 none :: ws) ({ frames := 2, cells := 1, slots := 3, locals := 35 } : Room)) (fun a U => a = #[(.ref oa), (.ref cc), (.int (0 : Int32)), (.int (3 : Int32)), .null] ∧ Z.Warmed39 U.vm ∧ U.heap = h0) (fun _ _ _ _ _ => True) (fun _ U o U' => ∃ v L, o = .returned v ∧ own_QL3d Z oa c0 c1 c2 h0 n0 v U'.heap L ∧ FrameEnd U o U' L ({ frames := 2, cells := 1, slots := 3, locals := 35 } : Room).cells ({ frames := 2, cells := 1, slots := 3, locals := 35 } : Room).slots) := by
  refine MetFree.of_bodySF (plainFor_of_name pnL3d) hisR ?_
  intro p e s m args below meth c s₁ Bd hml0 hP hK
  obtain ⟨rfl, hZ, hh⟩ := hP
  have hx := Bd.exec
  have hby := Bd.bytes
  have hml : c.maxLocals = 6 := hml0
  have hown : s.vm.findClass "java/lang/String" = some m.cls := findClass_of_methodNamed Bd.named
  have hnm := (name_of_methodNamed Bd.named Bd.method).1
  have hlk : meth.locks = false := Bd.notSynchronized
  have X0 : Stand p l e ({ frames := 2, cells := 1, slots := 3, locals := 35 } : Room) s m #[(.ref oa), (.ref cc), (.int (0 : Int32)), (.int (3 : Int32)), .null] below meth c s₁ [] 0 0 := Stand.of_body Bd
  have e0 : s₁.heap = h0 := by rw [← hh, Bd.state]; rfl
  have N0 := Fr.nil n0
  refine own_go (fun t k => castTop (efL3d m oa cc (0 : Int32) (3 : Int32)) k) ?_
  show own_Go p e below _ (s₁.setTop (mkF m 0 #[.val (.ref oa), .val (.ref cc), .val (.int (0 : Int32)), .val (.int (3 : Int32)), .val .null, .unset] []))
  refine own_go (fun t k => XS.aloadN X0.here hx rfl (hb hby dL3d_0) rfl rfl k) ?_
  show own_Go p e below _ (s₁.setTop (mkF m 1 #[.val (.ref oa), .val (.ref cc), .val (.int (0 : Int32)), .val (.int (3 : Int32)), .val .null, .unset] [(.ref oa)]))
  obtain ⟨T2, X2, e2, st2⟩ := initO X0 hx hZ hown (hw _ (List.mem_of_getElem? (i := 165) rfl)) (hw _ (List.mem_of_getElem? (i := 31) rfl)) (hw _ (List.mem_of_getElem? (i := 32) rfl)) e0 (g := (mkF m 1 #[.val (.ref oa), .val (.ref cc), .val (.int (0 : Int32)), .val (.int (3 : Int32)), .val .null, .unset] [(.ref oa)])) rfl (by rw [hml]; rfl) rfl (hb hby dL3d_1) (by decide) (W := 0) (by show 2 * 0 + _ ≤ _; exact Nat.le_of_eq rfl) (by decide)
  refine own_go (fun t k => st2 t k) ?_
  show own_Go p e below _ (T2.setTop (mkF m 4 #[.val (.ref oa), .val (.ref cc), .val (.int (0 : Int32)), .val (.int (3 : Int32)), .val .null, .unset] []))
  refine own_go (fun t k => XS.iloadN X2.here hx rfl (hb hby dL3d_4) rfl k) ?_
  show own_Go p e below _ (T2.setTop (mkF m 5 #[.val (.ref oa), .val (.ref cc), .val (.int (0 : Int32)), .val (.int (3 : Int32)), .val .null, .unset] [(.int (3 : Int32))]))
  refine own_go (fun t k => XS.ifYes X2.here hx rfl (pc0 := 5) (pc' := 27) rfl (hb hby dL3d_5) rfl ((if0 _ _).trans (feq (by decide : ¬ ((3 : Int32) = (0 : Int32)))).2) (by decide) (by decide) k) ?_
  show own_Go p e below _ (T2.setTop (mkF m 27 #[.val (.ref oa), .val (.ref cc), .val (.int (0 : Int32)), .val (.int (3 : Int32)), .val .null, .unset] []))
  obtain ⟨T3, X3, e3, st3⟩ := getS2 X2 hx hZ hown (host := "") (Or.inl (hw _ (List.mem_of_getElem? (i := 166) rfl))) Via.refl e2 (SC.ext XO.2) (g := (mkF m 27 #[.val (.ref oa), .val (.ref cc), .val (.int (0 : Int32)), .val (.int (3 : Int32)), .val .null, .unset] [])) rfl (hb hby dL3d_27)
  refine own_go (fun t k => st3 t k) ?_
  show own_Go p e below _ (T3.setTop (mkF m 30 #[.val (.ref oa), .val (.ref cc), .val (.int (0 : Int32)), .val (.int (3 : Int32)), .val .null, .unset] [(.int cs)]))
  refine own_go (fun t k => XS.ifNo X3.here hx rfl (hb hby dL3d_30) rfl ((if0 _ _).trans (feq hcs).1) k) ?_
  show own_Go p e below _ (T3.setTop (mkF m 33 #[.val (.ref oa), .val (.ref cc), .val (.int (0 : Int32)), .val (.int (3 : Int32)), .val .null, .unset] []))
  refine own_go (fun t k => XS.aloadN X3.here hx rfl (hb hby dL3d_33) rfl rfl k) ?_
  show own_Go p e below _ (T3.setTop (mkF m 34 #[.val (.ref oa), .val (.ref cc), .val (.int (0 : Int32)), .val (.int (3 : Int32)), .val .null, .unset] [(.ref cc)]))
  refine own_go (fun t k => XS.iloadN X3.here hx rfl (hb hby dL3d_34) rfl k) ?_
  show own_Go p e below _ (T3.setTop (mkF m 35 #[.val (.ref oa), .val (.ref cc), .val (.int (0 : Int32)), .val (.int (3 : Int32)), .val .null, .unset] [(.int (0 : Int32)), (.ref cc)]))
  refine own_go (fun t k => XS.iloadN X3.here hx rfl (hb hby dL3d_35) rfl k) ?_
  show own_Go p e below _ (T3.setTop (mkF m 36 #[.val (.ref oa), .val (.ref cc), .val (.int (0 : Int32)), .val (.int (3 : Int32)), .val .null, .unset] [(.int (3 : Int32)), (.int (0 : Int32)), (.ref cc)]))
  obtain ⟨_, _, ⟨T4, L4, k4, n4⟩, -, X4, ⟨Lc4, hQ4, l4, y4, z4⟩, st4⟩ := Jvm.LawKit.callS X3 hx (y := (⟨"java/lang/StringUTF16", "compress", "([CII)[B"⟩ : MethodName)) hown (mvT hZ (hw _ (List.mem_of_getElem? (i := 167) rfl))) (mvT hZ (hw _ (List.mem_of_getElem? (i := 168) rfl))) (mvT hZ (hw _ (List.mem_of_getElem? (i := 169) rfl))) (mvT hZ (hw _ (List.mem_of_getElem? (i := 170) rfl))) (by decide) (backOf (W := 0) (rmL3c l Z a0 hw [] cc kc c0 c1 c2 h0 n0 Z0 Ac hp0 hp1 hp2) hZ (hw _ (List.mem_of_getElem? (i := 170) rfl)) (hw _ (List.mem_of_getElem? (i := 169) rfl)) (by decide) (by decide)) (g := (mkF m 36 #[.val (.ref oa), .val (.ref cc), .val (.int (0 : Int32)), .val (.int (3 : Int32)), .val .null, .unset] [(.int (3 : Int32)), (.int (0 : Int32)), (.ref cc)])) rfl (by rw [hml]; rfl) (argsL := [(.ref cc), (.int (0 : Int32)), (.int (3 : Int32))]) (rest := []) (lenOf pdL3d_0 rfl) rfl (by show 2 * 0 + _ ≤ _; exact Nat.le_of_eq rfl) (hb hby dL3d_36) (fun _ _ => ⟨rfl, e3, (by decide : 0 + 1 ≤ _), (by decide : 0 + 3 ≤ _)⟩)
  dsimp only [Pt.U, Pt.locs, Pt.cells, Pt.slots] at X4 l4 y4 z4 st4 hQ4
  subst l4 y4 z4
  obtain ⟨d4, kd4, rfl, Nq4, K4, ge4, A4⟩ := hQ4
  have N4 := Fr.app N0 Nq4
  refine own_go (fun t k => st4 t k) ?_
  have g_d4 : n0 ≤ d4 := Nat.le_trans Z0 ge4
  have sz_d4 : h0.size ≤ d4 := Nat.le_trans (Keep.refl h0 [oa]).1 ge4
  have ne_oa_d4 : oa ≠ d4 := Nat.ne_of_lt (Nat.lt_of_lt_of_le Ea.lt ge4)
  have ne_cc_d4 : cc ≠ d4 := Nat.ne_of_lt (Nat.lt_of_lt_of_le Ac.lt ge4)
  have Ea__4 := Ea.keep K4
  have Fv__4 := Fv.keep K4 nin0
  have Fc__4 := Fc.keep K4 nin0
  have Ac__4 := Ac.keep K4 nin0
  have XO__4 := XO.keep K4 all0
  have KP4 := (Keep.refl h0 [oa]).trans K4 all0
  have sz4 := Nat.le_trans Z0 K4.1
  show own_Go p e below _ (T4.setTop (mkF m 39 #[.val (.ref oa), .val (.ref cc), .val (.int (0 : Int32)), .val (.int (3 : Int32)), .val .null, .unset] [(.ref d4)]))
  refine own_go (fun t k => XS.astore X4.here hx rfl (hb hby dL3d_39) rfl rfl (l' := #[.val (.ref oa), .val (.ref cc), .val (.int (0 : Int32)), .val (.int (3 : Int32)), .val .null, .val (.ref d4)]) rfl k) ?_
  show own_Go p e below _ (T4.setTop (mkF m 41 #[.val (.ref oa), .val (.ref cc), .val (.int (0 : Int32)), .val (.int (3 : Int32)), .val .null, .val (.ref d4)] []))
  refine own_go (fun t k => XS.aloadN X4.here hx rfl (hb hby dL3d_41) rfl rfl k) ?_
  show own_Go p e below _ (T4.setTop (mkF m 42 #[.val (.ref oa), .val (.ref cc), .val (.int (0 : Int32)), .val (.int (3 : Int32)), .val .null, .val (.ref d4)] [(.ref oa)]))
  refine own_go (fun t k => XS.aload X4.here hx rfl (hb hby dL3d_42) rfl rfl k) ?_
  show own_Go p e below _ (T4.setTop (mkF m 44 #[.val (.ref oa), .val (.ref cc), .val (.int (0 : Int32)), .val (.int (3 : Int32)), .val .null, .val (.ref d4)] [(.ref d4), (.ref oa)]))
  refine own_go (fun t k => XS.iloadN X4.here hx rfl (hb hby dL3d_44) rfl k) ?_
  show own_Go p e below _ (T4.setTop (mkF m 45 #[.val (.ref oa), .val (.ref cc), .val (.int (0 : Int32)), .val (.int (3 : Int32)), .val .null, .val (.ref d4)] [(.int (3 : Int32)), (.ref d4), (.ref oa)]))
  obtain ⟨_, _, ⟨T5, L5, k5, n5⟩, -, X5, ⟨Lc5, hQ5, l5, y5, z5⟩, st5⟩ := Jvm.LawKit.callS X4 hx (y := (⟨"java/lang/StringUTF16", "coderFromArrayLen", "([BI)B"⟩ : MethodName)) hown (mvT hZ (hw _ (List.mem_of_getElem? (i := 174) rfl))) (mvT hZ (hw _ (List.mem_of_getElem? (i := 175) rfl))) (mvT hZ (hw _ (List.mem_of_getElem? (i := 169) rfl))) (mvT hZ (hw _ (List.mem_of_getElem? (i := 176) rfl))) (by decide) (backOf (W := 1) (rmL3a l Z a0 hw [] d4 kd4 (nar .byte (c0.toInt8.toInt32)) (nar .byte (c1.toInt8.toInt32)) (nar .byte (c2.toInt8.toInt32)) T4.heap n0 sz4 A4) hZ (hw _ (List.mem_of_getElem? (i := 176) rfl)) (hw _ (List.mem_of_getElem? (i := 169) rfl)) (by decide) (by decide)) (g := (mkF m 45 #[.val (.ref oa), .val (.ref cc), .val (.int (0 : Int32)), .val (.int (3 : Int32)), .val .null, .val (.ref d4)] [(.int (3 : Int32)), (.ref d4), (.ref oa)])) rfl (by rw [hml]; rfl) (argsL := [(.ref d4), (.int (3 : Int32))]) (rest := [(.ref oa)]) (lenOf pdL3d_1 rfl) rfl (by show 2 * 0 + _ ≤ _; exact Nat.le_of_eq rfl) (hb hby dL3d_45) (fun _ _ => ⟨rfl, rfl, (by decide : 0 + 1 + 0 ≤ _), (by decide : 0 + 3 + 0 ≤ _)⟩)
  dsimp only [Pt.U, Pt.locs, Pt.cells, Pt.slots] at X5 l5 y5 z5 st5 hQ5
  subst l5 y5 z5
  obtain ⟨rfl, Nq5, e5⟩ := hQ5
  have N5 := Fr.app N4 Nq5
  refine own_go (fun t k => st5 t k) ?_
  show own_Go p e below _ (T5.setTop (mkF m 48 #[.val (.ref oa), .val (.ref cc), .val (.int (0 : Int32)), .val (.int (3 : Int32)), .val .null, .val (.ref d4)] [(.int (0 : Int32)), (.ref oa)]))
  obtain ⟨T6, h6, X6, e6, W6, st6⟩ := putF X5 hx hZ hown (host := "") (Or.inl (hw _ (List.mem_of_getElem? (i := 177) rfl))) Via.refl e5 Fc__4 Ea__4 (Or.inr ⟨(hw _ (List.mem_of_getElem? (i := 9) rfl)), rfl, hnm⟩) (hw _ (List.mem_of_getElem? (i := 6) rfl)) (ty := .byte) (by decide) rfl rfl (g := (mkF m 48 #[.val (.ref oa), .val (.ref cc), .val (.int (0 : Int32)), .val (.int (3 : Int32)), .val .null, .val (.ref d4)] [(.int (0 : Int32)), (.ref oa)])) rfl rfl (hb hby dL3d_48)
  have Fw6 := Fc__4.same W6
  have Ea__6 := Ea__4.wr W6
  have Fv__6 := Fv__4.other W6 (Or.inr (slot_ne (Or.inr (hw _ (List.mem_of_getElem? (i := 8) rfl))) (Or.inr (hw _ (List.mem_of_getElem? (i := 9) rfl))) (by decide) (t := (.array .byte)) (t' := .byte) (by decide) (by decide)))
  have Ac__6 := Ac__4.other W6 ne_ca
  have XO__6 := XO__4.wr W6 g_oa
  have A4__6 := A4.other W6 (Ne.symm ne_oa_d4)
  have N6 := Fr.snoc X6 N5 g_oa
  have KP6 := KP4.wr W6 (Or.inl (List.mem_of_getElem? (i := 0) rfl))
  have sz6 := Nat.le_trans sz4 (Keep.of_wr W6).1
  refine own_go (fun t k => st6 t k) ?_
  show own_Go p e below _ (T6.setTop (mkF m 51 #[.val (.ref oa), .val (.ref cc), .val (.int (0 : Int32)), .val (.int (3 : Int32)), .val .null, .val (.ref d4)] []))
  refine own_go (fun t k => XS.aloadN X6.here hx rfl (hb hby dL3d_51) rfl rfl k) ?_
  show own_Go p e below _ (T6.setTop (mkF m 52 #[.val (.ref oa), .val (.ref cc), .val (.int (0 : Int32)), .val (.int (3 : Int32)), .val .null, .val (.ref d4)] [(.ref oa)]))
  refine own_go (fun t k => XS.aload X6.here hx rfl (hb hby dL3d_52) rfl rfl k) ?_
  show own_Go p e below _ (T6.setTop (mkF m 54 #[.val (.ref oa), .val (.ref cc), .val (.int (0 : Int32)), .val (.int (3 : Int32)), .val .null, .val (.ref d4)] [(.ref d4), (.ref oa)]))
  obtain ⟨T7, h7, X7, e7, W7, st7⟩ := putF X6 hx hZ hown (host := "") (Or.inl (hw _ (List.mem_of_getElem? (i := 178) rfl))) Via.refl e6 Fv__6 Ea__6 (Or.inr ⟨(hw _ (List.mem_of_getElem? (i := 8) rfl)), rfl, hnm⟩) (hw _ (List.mem_of_getElem? (i := 6) rfl)) (ty := (.array .byte)) (by decide) rfl rfl (g := (mkF m 54 #[.val (.ref oa), .val (.ref cc), .val (.int (0 : Int32)), .val (.int (3 : Int32)), .val .null, .val (.ref d4)] [(.ref d4), (.ref oa)])) rfl rfl (hb hby dL3d_54)
  have Fw7 := Fv__6.same W7
  have Ea__7 := Ea__6.wr W7
  have Fw6__7 := Fw6.other W7 (Or.inr (slot_ne (Or.inr (hw _ (List.mem_of_getElem? (i := 9) rfl))) (Or.inr (hw _ (List.mem_of_getElem? (i := 8) rfl))) (by decide) (t := .byte) (t' := (.array .byte)) (by decide) (by decide)))
  have Ac__7 := Ac__6.other W7 ne_ca
  have XO__7 := XO__6.wr W7 g_oa
  have A4__7 := A4__6.other W7 (Ne.symm ne_oa_d4)
  have N7 := Fr.snoc X7 N6 g_oa
  have KP7 := KP6.wr W7 (Or.inl (List.mem_of_getElem? (i := 0) rfl))
  have sz7 := Nat.le_trans sz6 (Keep.of_wr W7).1
  refine own_go (fun t k => st7 t k) ?_
  show own_Go p e below _ (T7.setTop (mkF m 57 #[.val (.ref oa), .val (.ref cc), .val (.int (0 : Int32)), .val (.int (3 : Int32)), .val .null, .val (.ref d4)] []))
  exact own_ret0 X7 hx Bd.returns (hb hby dL3d_57) (by rw [e7]; exact ⟨rfl, N7, KP7, Fw6__7, _, _, sz_d4, Fw7, A4__7⟩) (by decide) (by decide)
theorem dL3e_0 : decode jdk_42_method_3_code 0 = .ok (.aload_n 0, 1) := by decide +kernel
theorem dL3e_1 : decode jdk_42_method_3_code 1 = .ok (.aload_n 1, 1) := by decide +kernel
theorem dL3e_2 : decode jdk_42_method_3_code 2 = .ok (.iconst 0, 1) := by decide +kernel
theorem dL3e_3 : decode jdk_42_method_3_code 3 = .ok (.aload_n 1, 1) := by decide +kernel
theorem dL3e_4 : decode jdk_42_method_3_code 4 = .ok (.arraylength, 1) := by decide +kernel
theorem dL3e_5 : decode jdk_42_method_3_code 5 = .ok (.aconst_null, 1) := by decide +kernel
theorem dL3e_6 : decode jdk_42_method_3_code 6 = .ok (.invokespecial 27, 3) := by decide +kernel
theorem dL3e_9 : decode jdk_42_method_3_code 9 = .ok (.return_, 1) := by decide +kernel
theorem pnL3e : plainName "java/lang/String" = true := by first | (simp [plainName, overriddenIn]; done) | decide +kernel
theorem pdL3e_0 : parseMethodDescriptor "([CIILjava/lang/Void;)V" = some ⟨[(.array .char), .int, .int, (.object "java/lang/Void")], none⟩ := by decide +kernel
theorem efL3e (m : MethodId) (x0 : Addr) (x1 : Addr) : entryFrame m #[(.ref x0), (.ref x1)] 2 = mkF m 0 #[.val (.ref x0), .val (.ref x1)] [] := by first | (simp [entryFrame, mkF, argsToLocals, Value.category]; done) | rfl
set_option maxRecDepth 65536 in
set_option maxHeartbeats 40000000 in
theorem rmL3e (l : Launch) (Z : State) (a0 : Array Value) (hw : ∀ d ∈ tables_1, d.before a0 Z = true) (ws : List Jvm.Cond) (oa cc : Addr) (kc : ClassId) (cs : Int32) (c0 c1 c2 : Int32) (h0 : Heap) (n0 : Nat) (Z0 : n0 ≤ h0.size) (Ea : Exa Z h0 oa "java/lang/String") (Fv : Fld Z h0 oa "java/lang/String" "value" "[B" .null) (Fc : Fld Z h0 oa "java/lang/String" "coder" "B" (.int (0 : Int32))) (g_oa : n0 ≤ oa) (ne_ca : cc ≠ oa) (Ac : Arv Z h0 cc kc .char (3 : Int32) [.int c0, .int c1, .int c2] (.int (0 : Int32))) (SC : Sta Z Z.heap "java/lang/String" "COMPACT_STRINGS" "Z" (.int cs)) (hcs : ¬ cs = 0) (XO : Old Z n0 h0) (hp0 : ¬ (255 : Int32) < c0) (hp1 : ¬ (255 : Int32) < c1) (hp2 : ¬ (255 : Int32) < c2) :
    MetFree l (⟨"java/lang/String", "<init>", "([C)V"⟩ : MethodName) (head1 (Jvm.Cond.code (⟨"java/lang/String", "<init>", "([C)V"⟩ : MethodName) jdk_42_method_3_code 2 none :: ws) ({ frames := 3, cells := 1, slots := 3, locals := 52 } : Room)) (fun a U => a = #[(.ref oa), (.ref cc)] ∧ Z.Warmed39 U.vm ∧ U.heap = h0) (fun _ _ _ _ _ => True) (fun _ U o U' => ∃ v L, o = .returned v ∧ own_QL3d Z oa c0 c1 c2 h0 n0 v U'.heap L ∧ FrameEnd U o U' L ({ frames := 3, cells := 1, slots := 3, locals := 52 } : Room).cells ({ frames := 3, cells := 1, slots := 3, locals := 52 } : Room).slots) := by
  refine MetFree.of_bodySF (plainFor_of_name pnL3e) hisR ?_
  intro p e s m args below meth c s₁ Bd hml0 hP hK
  obtain ⟨rfl, hZ, hh⟩ := hP
  have hx := Bd.exec
  have hby := Bd.bytes
  have hml : c.maxLocals = 2 := hml0
  have hown : s.vm.findClass "java/lang/String" = some m.cls := findClass_of_methodNamed Bd.named
  have hnm := (name_of_methodNamed Bd.named Bd.method).1
  have hlk : meth.locks = false := Bd.notSynchronized
  have X0 : Stand p l e ({ frames := 3, cells := 1, slots := 3, locals := 52 } : Room) s m #[(.ref oa), (.ref cc)] below meth c s₁ [] 0 0 := Stand.of_body Bd
  have e0 : s₁.heap = h0 := by rw [← hh, Bd.state]; rfl
  have N0 := Fr.nil n0
  refine own_go (fun t k => castTop (efL3e m oa cc) k) ?_
  show own_Go p e below _ (s₁.setTop (mkF m 0 #[.val (.ref oa), .val (.ref cc)] []))
  refine own_go (fun t k => XS.aloadN X0.here hx rfl (hb hby dL3e_0) rfl rfl k) ?_
  show own_Go p e below _ (s₁.setTop (mkF m 1 #[.val (.ref oa), .val (.ref cc)] [(.ref oa)]))
  refine own_go (fun t k => XS.aloadN X0.here hx rfl (hb hby dL3e_1) rfl rfl k) ?_
  show own_Go p e below _ (s₁.setTop (mkF m 2 #[.val (.ref oa), .val (.ref cc)] [(.ref cc), (.ref oa)]))
  refine own_go (fun t k => XS.iconst X0.here hx rfl (hb hby dL3e_2) k) ?_
  show own_Go p e below _ (s₁.setTop (mkF m 3 #[.val (.ref oa), .val (.ref cc)] [(.int (0 : Int32)), (.ref cc), (.ref oa)]))
  refine own_go (fun t k => XS.aloadN X0.here hx rfl (hb hby dL3e_3) rfl rfl k) ?_
  show own_Go p e below _ (s₁.setTop (mkF m 4 #[.val (.ref oa), .val (.ref cc)] [(.ref cc), (.int (0 : Int32)), (.ref cc), (.ref oa)]))
  obtain ⟨cl1, Ar1, -, Sa1, Na1, -, -⟩ := id Ac
  have ln1 := len_of Sa1 Na1
  refine own_go (fun t k => X0.arraylength hx (by rw [e0]; exact Ar1.1) (State.isArrayOf_alike hZ.alike Ar1.2.1) (g := (mkF m 4 #[.val (.ref oa), .val (.ref cc)] [(.ref cc), (.int (0 : Int32)), (.ref cc), (.ref oa)])) rfl rfl (hb hby dL3e_4) t (by rw [ln1]; exact k)) ?_
  show own_Go p e below _ (s₁.setTop (mkF m 5 #[.val (.ref oa), .val (.ref cc)] [(.int (3 : Int32)), (.int (0 : Int32)), (.ref cc), (.ref oa)]))
  refine own_go (fun t k => XS.aconstNull X0.here hx rfl (hb hby dL3e_5) k) ?_
  show own_Go p e below _ (s₁.setTop (mkF m 6 #[.val (.ref oa), .val (.ref cc)] [.null, (.int (3 : Int32)), (.int (0 : Int32)), (.ref cc), (.ref oa)]))
  obtain ⟨_, _, ⟨T2, L2, k2, n2⟩, -, X2, ⟨Lc2, hQ2, l2, y2, z2⟩, st2⟩ := X0.specialBack hx (y := (⟨"java/lang/String", "<init>", "([CIILjava/lang/Void;)V"⟩ : MethodName)) rfl hown (mvT hZ (hw _ (List.mem_of_getElem? (i := 161) rfl))) (mvT hZ (hw _ (List.mem_of_getElem? (i := 162) rfl))) (mvT hZ (hw _ (List.mem_of_getElem? (i := 164) rfl))) (by decide) (backOf (W := 0) (rmL3d l Z a0 hw [] oa cc kc cs c0 c1 c2 h0 n0 Z0 Ea Fv Fc g_oa ne_ca Ac SC hcs XO hp0 hp1 hp2) hZ (hw _ (List.mem_of_getElem? (i := 164) rfl)) (hw _ (List.mem_of_getElem? (i := 5) rfl)) (by decide) (by decide)) (g := (mkF m 6 #[.val (.ref oa), .val (.ref cc)] [.null, (.int (3 : Int32)), (.int (0 : Int32)), (.ref cc), (.ref oa)])) rfl (by rw [hml]; rfl) (Steps.refl _) (a := oa) (argsL := [(.ref cc), (.int (0 : Int32)), (.int (3 : Int32)), .null]) (rest := []) (lenOf pdL3e_0 rfl) rfl (by show 2 * 0 + _ ≤ _; exact Nat.le_of_eq rfl) (hb hby dL3e_6) (fun _ _ => ⟨rfl, e0, (by decide : 0 + 1 ≤ _), (by decide : 0 + 3 ≤ _)⟩)
  dsimp only [Pt.U, Pt.locs, Pt.cells, Pt.slots] at X2 l2 y2 z2 st2 hQ2
  subst l2 y2 z2
  obtain ⟨rfl, Nq2, K2, Fc2, d2, kd2, ge2, Fv2, A2⟩ := hQ2
  have N2 := Fr.app N0 Nq2
  refine own_go (fun t k => st2.trans k) ?_
  have g_d2 : n0 ≤ d2 := Nat.le_trans Z0 ge2
  have sz_d2 : h0.size ≤ d2 := Nat.le_trans (Keep.refl h0 [oa]).1 ge2
  have ne_oa_d2 : oa ≠ d2 := Nat.ne_of_lt (Nat.lt_of_lt_of_le Ea.lt ge2)
  have ne_cc_d2 : cc ≠ d2 := Nat.ne_of_lt (Nat.lt_of_lt_of_le Ac.lt ge2)
  have Ea__2 := Ea.keep K2
  have Ac__2 := Ac.keep K2 (ninS ne_ca nin0)
  have XO__2 := XO.keep K2 (allS g_oa all0)
  have KP2 := (Keep.refl h0 [oa]).trans K2 (allS (Or.inl (List.mem_of_getElem? (i := 0) rfl)) all0)
  have sz2 := Nat.le_trans Z0 K2.1
  show own_Go p e below _ (T2.setTop (mkF m 9 #[.val (.ref oa), .val (.ref cc)] []))
  exact own_ret0 X2 hx Bd.returns (hb hby dL3e_9) (⟨rfl, N2, KP2, Fc2, _, _, sz_d2, Fv2, A2⟩) (by decide) (by decide)
theorem dEd_0 : decode jdk_42_method_149_code 0 = .ok (.aload_n 0, 1) := by decide +kernel
theorem dEd_1 : decode jdk_42_method_149_code 1 = .ok (.invokespecial 1, 3) := by decide +kernel
theorem dEd_4 : decode jdk_42_method_149_code 4 = .ok (.iload_n 3, 1) := by decide +kernel
theorem dEd_5 : decode jdk_42_method_149_code 5 = .ok (.ifCond .ne 22, 3) := by decide +kernel
theorem dEd_8 : decode jdk_42_method_149_code 8 = .ok (.aload_n 0, 1) := by decide +kernel
theorem dEd_9 : decode jdk_42_method_149_code 9 = .ok (.ldc 7, 2) := by decide +kernel
theorem dEd_11 : decode jdk_42_method_149_code 11 = .ok (.getfield 9, 3) := by decide +kernel
theorem dEd_14 : decode jdk_42_method_149_code 14 = .ok (.putfield 9, 3) := by decide +kernel
theorem dEd_17 : decode jdk_42_method_149_code 17 = .ok (.aload_n 0, 1) := by decide +kernel
theorem dEd_18 : decode jdk_42_method_149_code 18 = .ok (.ldc 7, 2) := by decide +kernel
theorem dEd_20 : decode jdk_42_method_149_code 20 = .ok (.getfield 15, 3) := by decide +kernel
theorem dEd_23 : decode jdk_42_method_149_code 23 = .ok (.putfield 15, 3) := by decide +kernel
theorem dEd_26 : decode jdk_42_method_149_code 26 = .ok (.return_, 1) := by decide +kernel
theorem pnEd : plainName "java/lang/String" = true := by first | (simp [plainName, overriddenIn]; done) | decide +kernel
theorem efEd (m : MethodId) (x0 : Addr) (x1 : Addr) (x2 : Int32) (x3 : Int32) : entryFrame m #[(.ref x0), (.ref x1), (.int x3), (.int x3), .null] 6 = mkF m 0 #[.val (.ref x0), .val (.ref x1), .val (.int x3), .val (.int x3), .val .null, .unset] [] := by first | (simp [entryFrame, mkF, argsToLocals, Value.category]; done) | rfl
def own_QE (Z : State) (a : Addr) (h0 : Heap) (n0 : Nat) (v : Option Value) (h : Heap) (L : List Loc) : Prop := v = none ∧ Fr n0 L ∧ Keep h0 h [a] ∧ Fld Z h a "java/lang/String" "coder" "B" (.int (0 : Int32)) ∧ ∃ (b : Addr) (kb : ClassId), Fld Z h a "java/lang/String" "value" "[B" (.ref b) ∧ Arv Z h b kb .byte (0 : Int32) [] (.int (0 : Int32))
set_option maxRecDepth 65536 in
set_option maxHeartbeats 40000000 in
theorem rmEd (l : Launch) (Z : State) (a0 : Array Value) (hw : ∀ d ∈ tables_1, d.before a0 Z = true) (ws : List Jvm.Cond) (oa cc : Addr) (h0 : Heap) (n0 : Nat) (Z0 : n0 ≤ h0.size) (Ea : Exa Z h0 oa "java/lang/String") (Fv : Fld Z h0 oa "java/lang/String" "value" "[B" .null) (Fc : Fld Z h0 oa "java/lang/String" "coder" "B" (.int (0 : Int32))) (g_oa : n0 ≤ oa) :
    MetFree l (⟨"java/lang/String", "<init>", "([CIILjava/lang/Void;)V"⟩ : MethodName) (head1 (Jvm.Cond.code (⟨"java/lang/String", "<init>", "([CIILjava/lang/Void;)V"⟩ : MethodName) jdk_42_method_149_code 6 none :: ws) ({ frames := 1, cells := 4, slots := 8, locals := 12 } : Room)) (fun a U => a = #[(.ref oa), (.ref cc), (.int (0 : Int32)), (.int (0 : Int32)), .null] ∧ Z.Warmed39 U.vm ∧ U.heap = h0 ∧ CHv Z own_EL U.vm h0 ∧ ∀ x ∈ ([oa] : List Addr), Safe Z own_EL U.vm h0 x) (fun _ _ _ _ _ => True) (fun _ U o U' => ∃ v L, o = .returned v ∧ own_QE Z oa h0 n0 v U'.heap L ∧ CHr Z own_EL U.vm U.heap U'.vm U'.heap ∧ ReturnedEndW U o U' L ({ frames := 1, cells := 4, slots := 8, locals := 12 } : Room).cells ({ frames := 1, cells := 4, slots := 8, locals := 12 } : Room).slots) := by
  refine MetFree.of_bodySF (plainFor_of_name pnEd) hisR ?_
  intro p e s m args below meth c s₁ Bd hml0 hP hK
  obtain ⟨rfl, hZ, hh, hC0, hsf0⟩ := hP
  have hx := Bd.exec
  have hby := Bd.bytes
  have hml : c.maxLocals = 6 := hml0
  have hown : s.vm.findClass "java/lang/String" = some m.cls := findClass_of_methodNamed Bd.named
  have hnm := (name_of_methodNamed Bd.named Bd.method).1
  have hlk : meth.locks = false := Bd.notSynchronized
  have hEL := own_ew hw
  have hR0 : CHr Z own_EL s.vm h0 s.vm h0 := CHr.refl hC0
  have Zs_oa := hsf0 oa (List.mem_of_getElem? (i := 0) rfl)
  have hS0 : s.Since s.vm 0 := (State.WarmedH.refl s).since 0
  have hk0 : 0 ≤ h0.size := Nat.zero_le _
  have X0 : Stand p l e ({ frames := 1, cells := 4, slots := 8, locals := 12 } : Room) (s.setVm s.vm) m #[(.ref oa), (.ref cc), (.int (0 : Int32)), (.int (0 : Int32)), .null] below meth c s₁ [] 0 0 := Stand.of_body Bd
  have e0 : s₁.heap = h0 := by rw [← hh, Bd.state]; rfl
  have N0 := Fr.nil n0
  refine own_go (fun t k => castTop (efEd m oa cc (0 : Int32) (0 : Int32)) k) ?_
  show own_Go p e below _ (s₁.setTop (mkF m 0 #[.val (.ref oa), .val (.ref cc), .val (.int (0 : Int32)), .val (.int (0 : Int32)), .val .null, .unset] []))
  refine own_go (fun t k => XS.aloadN X0.here hx rfl (hb hby dEd_0) rfl rfl k) ?_
  show own_Go p e below _ (s₁.setTop (mkF m 1 #[.val (.ref oa), .val (.ref cc), .val (.int (0 : Int32)), .val (.int (0 : Int32)), .val .null, .unset] [(.ref oa)]))
  obtain ⟨T2, X2, e2, st2⟩ := initO X0 hx hZ hown (hw _ (List.mem_of_getElem? (i := 165) rfl)) (hw _ (List.mem_of_getElem? (i := 31) rfl)) (hw _ (List.mem_of_getElem? (i := 32) rfl)) e0 (g := (mkF m 1 #[.val (.ref oa), .val (.ref cc), .val (.int (0 : Int32)), .val (.int (0 : Int32)), .val .null, .unset] [(.ref oa)])) rfl (by rw [hml]; rfl) rfl (hb hby dEd_1) (by decide) (W := 0) (by show 2 * 0 + _ ≤ _; exact Nat.le_of_eq rfl) (by decide)
  refine own_go (fun t k => st2 t k) ?_
  show own_Go p e below _ (T2.setTop (mkF m 4 #[.val (.ref oa), .val (.ref cc), .val (.int (0 : Int32)), .val (.int (0 : Int32)), .val .null, .unset] []))
  refine own_go (fun t k => XS.iloadN X2.here hx rfl (hb hby dEd_4) rfl k) ?_
  show own_Go p e below _ (T2.setTop (mkF m 5 #[.val (.ref oa), .val (.ref cc), .val (.int (0 : Int32)), .val (.int (0 : Int32)), .val .null, .unset] [(.int (0 : Int32))]))
  refine own_go (fun t k => XS.ifNo X2.here hx rfl (hb hby dEd_5) rfl ((if0 _ _).trans (teq (by decide : (0 : Int32) = (0 : Int32))).2) k) ?_
  show own_Go p e below _ (T2.setTop (mkF m 8 #[.val (.ref oa), .val (.ref cc), .val (.int (0 : Int32)), .val (.int (0 : Int32)), .val .null, .unset] []))
  refine own_go (fun t k => XS.aloadN X2.here hx rfl (hb hby dEd_8) rfl rfl k) ?_
  show own_Go p e below _ (T2.setTop (mkF m 9 #[.val (.ref oa), .val (.ref cc), .val (.int (0 : Int32)), .val (.int (0 : Int32)), .val .null, .unset] [(.ref oa)]))
  obtain ⟨s3, T3, h3, j3, c3, kc3, X3, e3, E3, hS3, hk3, hZ3, hown3, Es3, Fc3, Fv3, Ab3, -, -, hC3, -, hne3, st3⟩ := ldcCH X2 hx hZ hown (hw _ (List.mem_of_getElem? (i := 179) rfl)) (own_wS hw) e2 hS0 hk0 hEL (List.mem_of_getElem? (i := 4) rfl) hC0 (vs := []) (z := (0 : Int32)) ⟨by decide, by decide +kernel⟩ (by decide) rfl (g := (mkF m 9 #[.val (.ref oa), .val (.ref cc), .val (.int (0 : Int32)), .val (.int (0 : Int32)), .val .null, .unset] [(.ref oa)])) rfl (hb hby dEd_9) (n := 0) (by decide) (by decide) (by decide) (by decide)
  have Ea__3 := Ea.ext E3
  have Fv__3 := Fv.ext E3
  have Fc__3 := Fc.ext E3
  have Zs_oa__3 := hC3.safe Ea.lt Zs_oa
  have hR3 := hR0.trans hC3
  have hD3 := hR3.1
  have sz3 := Nat.le_trans Z0 E3.1
  have KP3 := (Keep.refl h0 [oa]).ext E3
  have ne_oa_s3 := (hne3 oa Zs_oa__3).1
  have ne_oa_c3 := (hne3 oa Zs_oa__3).2
  refine own_go (fun t k => st3 t k) ?_
  show own_Go p e below _ (T3.setTop (mkF m 11 #[.val (.ref oa), .val (.ref cc), .val (.int (0 : Int32)), .val (.int (0 : Int32)), .val .null, .unset] [(.ref s3), (.ref oa)]))
  obtain ⟨T4, X4, e4, st4⟩ := getF X3 hx hZ3 hown3 (host := "") (Or.inl (hw _ (List.mem_of_getElem? (i := 178) rfl))) Via.refl e3 Fv3 (g := (mkF m 11 #[.val (.ref oa), .val (.ref cc), .val (.int (0 : Int32)), .val (.int (0 : Int32)), .val .null, .unset] [(.ref s3), (.ref oa)])) rfl rfl (hb hby dEd_11)
  refine own_go (fun t k => st4 t k) ?_
  show own_Go p e below _ (T4.setTop (mkF m 14 #[.val (.ref oa), .val (.ref cc), .val (.int (0 : Int32)), .val (.int (0 : Int32)), .val .null, .unset] [(.ref c3), (.ref oa)]))
  obtain ⟨T5, h5, X5, e5, W5, st5⟩ := putF X4 hx hZ3 hown3 (host := "") (Or.inl (hw _ (List.mem_of_getElem? (i := 178) rfl))) Via.refl e4 Fv__3 Ea__3 (Or.inr ⟨(hw _ (List.mem_of_getElem? (i := 8) rfl)), rfl, hnm⟩) (hw _ (List.mem_of_getElem? (i := 6) rfl)) (ty := (.array .byte)) (by decide) rfl rfl (g := (mkF m 14 #[.val (.ref oa), .val (.ref cc), .val (.int (0 : Int32)), .val (.int (0 : Int32)), .val .null, .unset] [(.ref c3), (.ref oa)])) rfl rfl (hb hby dEd_14)
  have Fw5 := Fv__3.same W5
  have Sa5 : Safe Z own_EL T3.vm h3 oa := Zs_oa__3
  have Ea__5 := Ea__3.wr W5
  have Fc__5 := Fc__3.other W5 (Or.inr (slot_ne (Or.inr (hw _ (List.mem_of_getElem? (i := 9) rfl))) (Or.inr (hw _ (List.mem_of_getElem? (i := 8) rfl))) (by decide) (t := .byte) (t' := (.array .byte)) (by decide) (by decide)))
  have Es3__5 := Es3.wr W5
  have Fc3__5 := Fc3.other W5 (Or.inl (Ne.symm ne_oa_s3))
  have Fv3__5 := Fv3.other W5 (Or.inl (Ne.symm ne_oa_s3))
  have Ab3__5 := Ab3.other W5 (Ne.symm ne_oa_c3)
  have Zs_oa__5 := Safe.wr W5 Sa5 hD3 Zs_oa__3
  have hR5 := hR3.trans (CHr.wr W5 Sa5 hD3)
  have hC5 := hR5.1
  have N5 := Fr.snoc X5 N0 g_oa
  have KP5 := KP3.wr W5 (Or.inl (List.mem_of_getElem? (i := 0) rfl))
  have sz5 := Nat.le_trans sz3 (Keep.of_wr W5).1
  have hk5 := Nat.le_trans hk3 (Keep.of_wr W5).1
  refine own_go (fun t k => st5 t k) ?_
  show own_Go p e below _ (T5.setTop (mkF m 17 #[.val (.ref oa), .val (.ref cc), .val (.int (0 : Int32)), .val (.int (0 : Int32)), .val .null, .unset] []))
  refine own_go (fun t k => XS.aloadN X5.here hx rfl (hb hby dEd_17) rfl rfl k) ?_
  show own_Go p e below _ (T5.setTop (mkF m 18 #[.val (.ref oa), .val (.ref cc), .val (.int (0 : Int32)), .val (.int (0 : Int32)), .val .null, .unset] [(.ref oa)]))
  obtain ⟨s6, T6, h6, j6, c6, kc6, X6, e6, E6, hS6, hk6, hZ6, hown6, Es6, Fc6, Fv6, Ab6, -, -, hC6, -, hne6, st6⟩ := ldcCH X5 hx hZ3 hown3 (hw _ (List.mem_of_getElem? (i := 179) rfl)) (own_wS hw) e5 hS3 hk5 hEL (List.mem_of_getElem? (i := 4) rfl) hC5 (vs := []) (z := (0 : Int32)) ⟨by decide, by decide +kernel⟩ (by decide) rfl (g := (mkF m 18 #[.val (.ref oa), .val (.ref cc), .val (.int (0 : Int32)), .val (.int (0 : Int32)), .val .null, .unset] [(.ref oa)])) rfl (hb hby dEd_18) (n := 0) (by decide) (by decide) (by decide) (by decide)
  have Ea__6 := Ea__5.ext E6
  have Fw5__6 := Fw5.ext E6
  have Fc__6 := Fc__5.ext E6
  have Es3__6 := Es3__5.ext E6
  have Fc3__6 := Fc3__5.ext E6
  have Fv3__6 := Fv3__5.ext E6
  have Ab3__6 := Ab3__5.ext E6
  have Zs_oa__6 := hC6.safe Ea__5.lt Zs_oa__5
  have hR6 := hR5.trans hC6
  have hD6 := hR6.1
  have sz6 := Nat.le_trans sz5 E6.1
  have KP6 := KP5.ext E6
  have ne_oa_s6 := (hne6 oa Zs_oa__6).1
  have ne_oa_c6 := (hne6 oa Zs_oa__6).2
  refine own_go (fun t k => st6 t k) ?_
  show own_Go p e below _ (T6.setTop (mkF m 20 #[.val (.ref oa), .val (.ref cc), .val (.int (0 : Int32)), .val (.int (0 : Int32)), .val .null, .unset] [(.ref s6), (.ref oa)]))
  obtain ⟨T7, X7, e7, st7⟩ := getF X6 hx hZ6 hown6 (host := "") (Or.inl (hw _ (List.mem_of_getElem? (i := 177) rfl))) Via.refl e6 Fc6 (g := (mkF m 20 #[.val (.ref oa), .val (.ref cc), .val (.int (0 : Int32)), .val (.int (0 : Int32)), .val .null, .unset] [(.ref s6), (.ref oa)])) rfl rfl (hb hby dEd_20)
  refine own_go (fun t k => st7 t k) ?_
  show own_Go p e below _ (T7.setTop (mkF m 23 #[.val (.ref oa), .val (.ref cc), .val (.int (0 : Int32)), .val (.int (0 : Int32)), .val .null, .unset] [(.int (0 : Int32)), (.ref oa)]))
  obtain ⟨T8, h8, X8, e8, W8, st8⟩ := putF X7 hx hZ6 hown6 (host := "") (Or.inl (hw _ (List.mem_of_getElem? (i := 177) rfl))) Via.refl e7 Fc__6 Ea__6 (Or.inr ⟨(hw _ (List.mem_of_getElem? (i := 9) rfl)), rfl, hnm⟩) (hw _ (List.mem_of_getElem? (i := 6) rfl)) (ty := .byte) (by decide) rfl rfl (g := (mkF m 23 #[.val (.ref oa), .val (.ref cc), .val (.int (0 : Int32)), .val (.int (0 : Int32)), .val .null, .unset] [(.int (0 : Int32)), (.ref oa)])) rfl rfl (hb hby dEd_23)
  have Fw8 := Fc__6.same W8
  have Sa8 : Safe Z own_EL T6.vm h6 oa := Zs_oa__6
  have Ea__8 := Ea__6.wr W8
  have Fw5__8 := Fw5__6.other W8 (Or.inr (slot_ne (Or.inr (hw _ (List.mem_of_getElem? (i := 8) rfl))) (Or.inr (hw _ (List.mem_of_getElem? (i := 9) rfl))) (by decide) (t := (.array .byte)) (t' := .byte) (by decide) (by decide)))
  have Es3__8 := Es3__6.wr W8
  have Fc3__8 := Fc3__6.other W8 (Or.inl (Ne.symm ne_oa_s3))
  have Fv3__8 := Fv3__6.other W8 (Or.inl (Ne.symm ne_oa_s3))
  have Ab3__8 := Ab3__6.other W8 (Ne.symm ne_oa_c3)
  have Es6__8 := Es6.wr W8
  have Fc6__8 := Fc6.other W8 (Or.inl (Ne.symm ne_oa_s6))
  have Fv6__8 := Fv6.other W8 (Or.inl (Ne.symm ne_oa_s6))
  have Ab6__8 := Ab6.other W8 (Ne.symm ne_oa_c6)
  have Zs_oa__8 := Safe.wr W8 Sa8 hD6 Zs_oa__6
  have hR8 := hR6.trans (CHr.wr W8 Sa8 hD6)
  have hC8 := hR8.1
  have N8 := Fr.snoc X8 N5 g_oa
  have KP8 := KP6.wr W8 (Or.inl (List.mem_of_getElem? (i := 0) rfl))
  have sz8 := Nat.le_trans sz6 (Keep.of_wr W8).1
  have hk8 := Nat.le_trans hk6 (Keep.of_wr W8).1
  refine own_go (fun t k => st8 t k) ?_
  show own_Go p e below _ (T8.setTop (mkF m 26 #[.val (.ref oa), .val (.ref cc), .val (.int (0 : Int32)), .val (.int (0 : Int32)), .val .null, .unset] []))
  have hF : CHr Z own_EL s.vm s.heap T8.vm T8.heap := by rw [hh, e8]; exact hR8.trans (CHv.at X8 hZ6 hEL hC8)
  exact own_ret0H X8 hx Bd.returns (hb hby dEd_26) hS6 (by rw [e8]; exact hk8) (by rw [e8]; exact ⟨rfl, N8, KP8, Fw8, _, _, Fw5__8, Ab3__8⟩) (hF) (by decide) (by decide)
theorem dEe_0 : decode jdk_42_method_3_code 0 = .ok (.aload_n 0, 1) := by decide +kernel
theorem dEe_1 : decode jdk_42_method_3_code 1 = .ok (.aload_n 1, 1) := by decide +kernel
theorem dEe_2 : decode jdk_42_method_3_code 2 = .ok (.iconst 0, 1) := by decide +kernel
theorem dEe_3 : decode jdk_42_method_3_code 3 = .ok (.aload_n 1, 1) := by decide +kernel
theorem dEe_4 : decode jdk_42_method_3_code 4 = .ok (.arraylength, 1) := by decide +kernel
theorem dEe_5 : decode jdk_42_method_3_code 5 = .ok (.aconst_null, 1) := by decide +kernel
theorem dEe_6 : decode jdk_42_method_3_code 6 = .ok (.invokespecial 27, 3) := by decide +kernel
theorem dEe_9 : decode jdk_42_method_3_code 9 = .ok (.return_, 1) := by decide +kernel
theorem pnEe : plainName "java/lang/String" = true := by first | (simp [plainName, overriddenIn]; done) | decide +kernel
theorem pdEe_0 : parseMethodDescriptor "([CIILjava/lang/Void;)V" = some ⟨[(.array .char), .int, .int, (.object "java/lang/Void")], none⟩ := by decide +kernel
theorem efEe (m : MethodId) (x0 : Addr) (x1 : Addr) : entryFrame m #[(.ref x0), (.ref x1)] 2 = mkF m 0 #[.val (.ref x0), .val (.ref x1)] [] := by first | (simp [entryFrame, mkF, argsToLocals, Value.category]; done) | rfl
set_option maxRecDepth 65536 in
set_option maxHeartbeats 40000000 in
theorem rmEe (l : Launch) (Z : State) (a0 : Array Value) (hw : ∀ d ∈ tables_1, d.before a0 Z = true) (ws : List Jvm.Cond) (oa cc : Addr) (kc : ClassId) (h0 : Heap) (n0 : Nat) (Z0 : n0 ≤ h0.size) (Ea : Exa Z h0 oa "java/lang/String") (Fv : Fld Z h0 oa "java/lang/String" "value" "[B" .null) (Fc : Fld Z h0 oa "java/lang/String" "coder" "B" (.int (0 : Int32))) (g_oa : n0 ≤ oa) (Ac : Arv Z h0 cc kc .char (0 : Int32) [] (.int (0 : Int32))) :
    MetFree l (⟨"java/lang/String", "<init>", "([C)V"⟩ : MethodName) (head1 (Jvm.Cond.code (⟨"java/lang/String", "<init>", "([C)V"⟩ : MethodName) jdk_42_method_3_code 2 none :: ws) ({ frames := 2, cells := 4, slots := 8, locals := 29 } : Room)) (fun a U => a = #[(.ref oa), (.ref cc)] ∧ Z.Warmed39 U.vm ∧ U.heap = h0 ∧ CHv Z own_EL U.vm h0 ∧ ∀ x ∈ ([oa] : List Addr), Safe Z own_EL U.vm h0 x) (fun _ _ _ _ _ => True) (fun _ U o U' => ∃ v L, o = .returned v ∧ own_QE Z oa h0 n0 v U'.heap L ∧ CHr Z own_EL U.vm U.heap U'.vm U'.heap ∧ ReturnedEndW U o U' L ({ frames := 2, cells := 4, slots := 8, locals := 29 } : Room).cells ({ frames := 2, cells := 4, slots := 8, locals := 29 } : Room).slots) := by
  refine MetFree.of_bodySF (plainFor_of_name pnEe) hisR ?_
  intro p e s m args below meth c s₁ Bd hml0 hP hK
  obtain ⟨rfl, hZ, hh, hC0, hsf0⟩ := hP
  have hx := Bd.exec
  have hby := Bd.bytes
  have hml : c.maxLocals = 2 := hml0
  have hown : s.vm.findClass "java/lang/String" = some m.cls := findClass_of_methodNamed Bd.named
  have hnm := (name_of_methodNamed Bd.named Bd.method).1
  have hlk : meth.locks = false := Bd.notSynchronized
  have hEL := own_ew hw
  have hR0 : CHr Z own_EL s.vm h0 s.vm h0 := CHr.refl hC0
  have Zs_oa := hsf0 oa (List.mem_of_getElem? (i := 0) rfl)
  have hS0 : s.Since s.vm 0 := (State.WarmedH.refl s).since 0
  have hk0 : 0 ≤ h0.size := Nat.zero_le _
  have X0 : Stand p l e ({ frames := 2, cells := 4, slots := 8, locals := 29 } : Room) (s.setVm s.vm) m #[(.ref oa), (.ref cc)] below meth c s₁ [] 0 0 := Stand.of_body Bd
  have e0 : s₁.heap = h0 := by rw [← hh, Bd.state]; rfl
  have N0 := Fr.nil n0
  refine own_go (fun t k => castTop (efEe m oa cc) k) ?_
  show own_Go p e below _ (s₁.setTop (mkF m 0 #[.val (.ref oa), .val (.ref cc)] []))
  refine own_go (fun t k => XS.aloadN X0.here hx rfl (hb hby dEe_0) rfl rfl k) ?_
  show own_Go p e below _ (s₁.setTop (mkF m 1 #[.val (.ref oa), .val (.ref cc)] [(.ref oa)]))
  refine own_go (fun t k => XS.aloadN X0.here hx rfl (hb hby dEe_1) rfl rfl k) ?_
  show own_Go p e below _ (s₁.setTop (mkF m 2 #[.val (.ref oa), .val (.ref cc)] [(.ref cc), (.ref oa)]))
  refine own_go (fun t k => XS.iconst X0.here hx rfl (hb hby dEe_2) k) ?_
  show own_Go p e below _ (s₁.setTop (mkF m 3 #[.val (.ref oa), .val (.ref cc)] [(.int (0 : Int32)), (.ref cc), (.ref oa)]))
  refine own_go (fun t k => XS.aloadN X0.here hx rfl (hb hby dEe_3) rfl rfl k) ?_
  show own_Go p e below _ (s₁.setTop (mkF m 4 #[.val (.ref oa), .val (.ref cc)] [(.ref cc), (.int (0 : Int32)), (.ref cc), (.ref oa)]))
  obtain ⟨cl1, Ar1, -, Sa1, Na1, -, -⟩ := id Ac
  have ln1 := len_of Sa1 Na1
  refine own_go (fun t k => X0.arraylength hx (by rw [e0]; exact Ar1.1) (State.isArrayOf_alike hZ.alike Ar1.2.1) (g := (mkF m 4 #[.val (.ref oa), .val (.ref cc)] [(.ref cc), (.int (0 : Int32)), (.ref cc), (.ref oa)])) rfl rfl (hb hby dEe_4) t (by rw [ln1]; exact k)) ?_
  show own_Go p e below _ (s₁.setTop (mkF m 5 #[.val (.ref oa), .val (.ref cc)] [(.int (0 : Int32)), (.int (0 : Int32)), (.ref cc), (.ref oa)]))
  refine own_go (fun t k => XS.aconstNull X0.here hx rfl (hb hby dEe_5) k) ?_
  show own_Go p e below _ (s₁.setTop (mkF m 6 #[.val (.ref oa), .val (.ref cc)] [.null, (.int (0 : Int32)), (.int (0 : Int32)), (.ref cc), (.ref oa)]))
  obtain ⟨_, _, ⟨T2, L2, k2, n2⟩, -, X2, hSq2, hgr2, ⟨Lc2, hQ2, l2, y2, z2, hC2⟩, st2⟩ := X0.specialBackS hx (y := (⟨"java/lang/String", "<init>", "([CIILjava/lang/Void;)V"⟩ : MethodName)) rfl hown (mvT hZ (hw _ (List.mem_of_getElem? (i := 161) rfl))) (mvT hZ (hw _ (List.mem_of_getElem? (i := 162) rfl))) (mvT hZ (hw _ (List.mem_of_getElem? (i := 164) rfl))) (by decide) (own_backH (s := s) (W := 0) (rmEd l Z a0 hw [] oa cc h0 n0 Z0 Ea Fv Fc g_oa) hZ (hw _ (List.mem_of_getElem? (i := 164) rfl)) (hw _ (List.mem_of_getElem? (i := 5) rfl)) (by decide) (by decide) hEL hC0 (allS ⟨Ea.lt, Zs_oa⟩ all0)) (g := (mkF m 6 #[.val (.ref oa), .val (.ref cc)] [.null, (.int (0 : Int32)), (.int (0 : Int32)), (.ref cc), (.ref oa)])) rfl (by rw [hml]; rfl) (Steps.refl _) (a := oa) (argsL := [(.ref cc), (.int (0 : Int32)), (.int (0 : Int32)), .null]) (rest := []) (lenOf pdEe_0 rfl) rfl (by show 2 * 0 + _ ≤ _; exact Nat.le_of_eq rfl) (hb hby dEe_6) (fun _ _ => ⟨rfl, e0, (by decide : 0 + 4 ≤ _), (by decide : 0 + 8 ≤ _)⟩)
  dsimp only [Pt.U, Pt.locs, Pt.cells, Pt.slots] at X2 l2 y2 z2 st2 hQ2 hSq2 hgr2 hC2
  subst l2 y2 z2
  obtain ⟨rfl, Nq2, K2, Fc2, d2, kd2, Fv2, A2⟩ := hQ2
  have N2 := Fr.app N0 Nq2
  refine own_go (fun t k => st2.trans k) ?_
  have hS2 := foldS (T := s₁) hS0 (by rw [e0]; exact hk0) hSq2 hgr2
  have hZ2 : Z.Warmed39 T2.vm := State.Warmed39.trans (t := s.setVm s.vm) hZ hSq2.1
  have hown2 : T2.vm.findClass "java/lang/String" = some m.cls := by rw [hSq2.1.alike.findClass]; exact hown
  have hk2 := Nat.le_refl T2.heap.size
  replace X2 : Stand p l e ({ frames := 2, cells := 4, slots := 8, locals := 29 } : Room) (s.setVm T2.vm) m #[(.ref oa), (.ref cc)] below meth c T2 _ _ _ := X2
  have Ea__2 := Ea.keep K2
  have Ac__2 := Ac.keep K2 (ninS (Ne.symm (Exa.neArv Ea Ac (hw _ (List.mem_of_getElem? (i := 6) rfl)))) nin0)
  have Zs_oa__2 := hC2.safe Ea.lt Zs_oa
  have hR2 := hR0.trans hC2
  have hD2 := hR2.1
  have KP2 := (Keep.refl h0 [oa]).trans K2 (allS (Or.inl (List.mem_of_getElem? (i := 0) rfl)) all0)
  have sz2 := Nat.le_trans Z0 K2.1
  show own_Go p e below _ (T2.setTop (mkF m 9 #[.val (.ref oa), .val (.ref cc)] []))
  have hF : CHr Z own_EL s.vm s.heap T2.vm T2.heap := by rw [hh]; exact hR2.trans (CHv.at X2 hZ2 hEL hD2)
  exact own_ret0H X2 hx Bd.returns (hb hby dEe_9) hS2 hk2 (⟨rfl, N2, KP2, Fc2, _, _, Fv2, A2⟩) (hF) (by decide) (by decide)
theorem own_mask (x : Int32) : ¬ (255 : Int32) < nar .char ((x &&& 255).toUInt32.toUInt16.toUInt32.toInt32) := by
  have e : nar .char ((x &&& 255).toUInt32.toUInt16.toUInt32.toInt32) = x &&& 255 := by simp only [nar]; rw [i2c_mask, i2c_mask]
  rw [e]
  have h : (x &&& 255).toInt = x.toInt % 2 ^ 8 := Jvm.Kit.i32_mask x 255 (k := 8) (by decide) (by decide)
  rw [Int32.lt_iff_toInt_lt]
  have h1 : (255 : Int32).toInt = 255 := by decide
  omega
section Own2
variable {p : Program} {l : Launch} {e : Env} {R : Room} {s : State} {m : MethodId} {args : Array Value} {below : List Frame} {meth : Method} {c : Code} {T : State} {locs : List Loc} {cells slots : Nat} {Z : State} {a0 : Array Value} {h : Heap}
theorem own_gcls (X : Stand p l e R s m args below meth c T locs cells slots) (hx : p.tables.exec = Jvm.exec) (hZ : Z.Warmed39 s.vm) {own C : String} {index : Nat} {a mr : Addr} (hown : s.vm.findClass own = some m.cls)
    (w1 : (Jvm.Cond.methodLink own index ⟨"java/lang/Object", "getClass", "()Ljava/lang/Class;"⟩).before a0 Z = true) (w2 : (Jvm.Cond.declares ⟨"java/lang/Object", "getClass", "()Ljava/lang/Class;"⟩).before a0 Z = true) (w4 : (Jvm.Cond.selects C ⟨"java/lang/Object", "getClass", "()Ljava/lang/Class;"⟩ ⟨"java/lang/Object", "getClass", "()Ljava/lang/Class;"⟩).before a0 Z = true)
    (w5 : (Jvm.Cond.instanceMethod ⟨"java/lang/Object", "getClass", "()Ljava/lang/Class;"⟩).before a0 Z = true) (w6 : (Jvm.Cond.native ⟨"java/lang/Object", "getClass", "()Ljava/lang/Class;"⟩).before a0 Z = true) (eT : T.heap = h) (E : Exa Z h a C) (M : Mir Z C mr)
    {g : JFrame} (hg : g.method = m) (hsize : g.locals.size = c.maxLocals) {rest : List Value} (hs : g.stack = .ref a :: rest) (hd : decode c.code g.pc = .ok (.invokevirtual index, 3)) (hf : 1 ≤ R.frames) (hl : 2 * g.monitorRoom + (rest.map fun v => v.category).sum + (nativeFrameWords "java/lang/Object" "getClass" 1 + 11) ≤ R.locals) :
    ∃ T', Stand p l e R s m args below meth c T' locs cells slots ∧ T'.heap = h ∧ ∀ target, Steps p.tables e below (T'.setTop { g with pc := g.pc + 3, stack := .ref mr :: rest }) target → Steps p.tables e below (T.setTop g) target := by
  obtain ⟨cB, kB, i1, i2, i3⟩ := isOf hZ eT E
  obtain ⟨cc, kc, m1, m2, m3, -⟩ := M
  rw [hZ.alike.findClass] at i1
  cases i1.symm.trans m1
  obtain ⟨k', q, ek⟩ := hZ.alike.2.2 _ _ m2
  obtain ⟨vm', X', st⟩ := X.getClassOf hx hown (mvT hZ w1) (mvT hZ w2) (notFace_of_selects (args := #[]) (mvT hZ w4)) (mvT hZ w4) (mvT hZ w5) (mvT hZ w6) (by rw [hZ.alike.findClass]; exact m1) i3 q (by rw [ek]; exact m3) hg hsize hs hd hf hl
  exact ⟨_, X', eT, st⟩
theorem own_ldcC (X : Stand p l e R s m args below meth c T locs cells slots) (hx : p.tables.exec = Jvm.exec) (hZ : Z.Warmed39 s.vm) {own C : String} {index : Nat} {mr : Addr} (hown : s.vm.findClass own = some m.cls) (w1 : (Jvm.Cond.classLink own index C).before a0 Z = true) (eT : T.heap = h) (M : Mir Z C mr)
    {g : JFrame} (hg : g.method = m) (hd : decode c.code g.pc = .ok (.ldc index, 2)) : ∃ T', Stand p l e R s m args below meth c T' locs cells slots ∧ T'.heap = h ∧ ∀ target, Steps p.tables e below (T'.setTop { g with pc := g.pc + 2, stack := .ref mr :: g.stack }) target → Steps p.tables e below (T.setTop g) target := by
  obtain ⟨cc, kc, m1, m2, m3, -⟩ := M
  obtain ⟨k', q, ek⟩ := hZ.alike.2.2 _ _ m2
  have hm : k'.mirror = some mr := by rw [ek]; exact m3
  have hf : s.vm.findClass C = some cc := by rw [hZ.alike.findClass]; exact m1
  obtain ⟨vm', X', st⟩ := X.ldcMirror hx hown (mvT hZ w1) (a := mr) (by simp [Term.eval, hf, q, hm]) hg hd
  exact ⟨_, X', eT, st⟩
end Own2
def own_W (Z : State) (de mr es : Addr) (kde : ClassId) : Prop := (∃ c : Int32, ¬ c = 0 ∧ Sta Z Z.heap "java/lang/String" "COMPACT_STRINGS" "Z" (.int c)) ∧ Sta Z Z.heap "java/util/ArrayList" "DEFAULTCAPACITY_EMPTY_ELEMENTDATA" "[Ljava/lang/Object;" (.ref de) ∧ Arv Z Z.heap de kde (.object "java/lang/Object") (0 : Int32) [] .null ∧ Exa Z Z.heap de "[Ljava/lang/Object;" ∧ Mir Z "[Ljava/lang/Object;" mr ∧ Sta Z Z.heap "java/util/ImmutableCollections" "EMPTY_SET" "Ljava/util/ImmutableCollections$SetN;" (.ref es) ∧ Exa Z Z.heap es "java/util/ImmutableCollections$SetN"
def own_AL (Z : State) (h : Heap) (a : Addr) (mc : Int32) (ed : Value) (sz : Int32) : Prop := Exa Z h a "java/util/ArrayList" ∧ Fld Z h a "java/util/AbstractList" "modCount" "I" (.int mc) ∧ Fld Z h a "java/util/ArrayList" "elementData" "[Ljava/lang/Object;" ed ∧ Fld Z h a "java/util/ArrayList" "size" "I" (.int sz)
theorem own_AL.keep {Z : State} {h h' : Heap} {a : Addr} {mc : Int32} {ed : Value} {sz : Int32} {ws : List Addr} (F : own_AL Z h a mc ed sz) (K : Keep h h' ws) (q : a ∉ ws) : own_AL Z h' a mc ed sz := ⟨F.1.keep K, F.2.1.keep K q, F.2.2.1.keep K q, F.2.2.2.keep K q⟩
theorem own_AL.ext {Z : State} {h h' : Heap} {a : Addr} {mc : Int32} {ed : Value} {sz : Int32} (F : own_AL Z h a mc ed sz) (E : Ext h h') : own_AL Z h' a mc ed sz := ⟨F.1.ext E, F.2.1.ext E, F.2.2.1.ext E, F.2.2.2.ext E⟩
def own_KO (Z : State) (h : Heap) (a : Addr) (kc : Value) (km : Value) (kw : Value) : Prop := Exa Z h a "com/example/convoke/convoke/apply/KeptOverride" ∧ Fld Z h a "com/example/convoke/convoke/apply/KeptOverride" "component" "Lcom/example/convoke/convoke/icalendar/Component;" kc ∧ Fld Z h a "com/example/convoke/convoke/apply/KeptOverride" "madeFor" "Ljava/lang/String;" km ∧ Fld Z h a "com/example/convoke/convoke/apply/KeptOverride" "madeWithout" "Ljava/util/Set;" kw
theorem own_KO.keep {Z : State} {h h' : Heap} {a : Addr} {kc : Value} {km : Value} {kw : Value} {ws : List Addr} (F : own_KO Z h a kc km kw) (K : Keep h h' ws) (q : a ∉ ws) : own_KO Z h' a kc km kw := ⟨F.1.keep K, F.2.1.keep K q, F.2.2.1.keep K q, F.2.2.2.keep K q⟩
theorem own_KO.ext {Z : State} {h h' : Heap} {a : Addr} {kc : Value} {km : Value} {kw : Value} (F : own_KO Z h a kc km kw) (E : Ext h h') : own_KO Z h' a kc km kw := ⟨F.1.ext E, F.2.1.ext E, F.2.2.1.ext E, F.2.2.2.ext E⟩
def own_CP (Z : State) (h : Heap) (a : Addr) (pp : Value) (pc : Value) (pn : Value) (pl : Int32) : Prop := Exa Z h a "com/example/convoke/convoke/icalendar/Component" ∧ Fld Z h a "com/example/convoke/convoke/icalendar/Component" "properties" "Ljava/util/List;" pp ∧ Fld Z h a "com/example/convoke/convoke/icalendar/Component" "components" "Ljava/util/List;" pc ∧ Fld Z h a "com/example/convoke/convoke/icalendar/Component" "name" "Ljava/lang/String;" pn ∧ Fld Z h a "com/example/convoke/convoke/icalendar/Component" "line" "I" (.int pl)
theorem own_CP.keep {Z : State} {h h' : Heap} {a : Addr} {pp : Value} {pc : Value} {pn : Value} {pl : Int32} {ws : List Addr} (F : own_CP Z h a pp pc pn pl) (K : Keep h h' ws) (q : a ∉ ws) : own_CP Z h' a pp pc pn pl := ⟨F.1.keep K, F.2.1.keep K q, F.2.2.1.keep K q, F.2.2.2.1.keep K q, F.2.2.2.2.keep K q⟩
theorem own_CP.ext {Z : State} {h h' : Heap} {a : Addr} {pp : Value} {pc : Value} {pn : Value} {pl : Int32} (F : own_CP Z h a pp pc pn pl) (E : Ext h h') : own_CP Z h' a pp pc pn pl := ⟨F.1.ext E, F.2.1.ext E, F.2.2.1.ext E, F.2.2.2.1.ext E, F.2.2.2.2.ext E⟩
def own_QP (h0 : Heap) (n0 : Nat) (v : Option Value) (h : Heap) (L : List Loc) : Prop := v = none ∧ Fr n0 L ∧ h = h0
theorem d1_0 : decode jdk_22_method_1_code 0 = .ok (.aload_n 0, 1) := by decide +kernel
theorem d1_1 : decode jdk_22_method_1_code 1 = .ok (.invokespecial 1, 3) := by decide +kernel
theorem d1_4 : decode jdk_22_method_1_code 4 = .ok (.return_, 1) := by decide +kernel
theorem pn1 : plainName "java/util/AbstractCollection" = true := by first | (simp [plainName, overriddenIn]; done) | decide +kernel
theorem ef1 (m : MethodId) (x0 : Addr) : entryFrame m #[(.ref x0)] 1 = mkF m 0 #[.val (.ref x0)] [] := by first | (simp [entryFrame, mkF, argsToLocals, Value.category]; done) | rfl
set_option maxRecDepth 65536 in
set_option maxHeartbeats 40000000 in
theorem rm1 (l : Launch) (Z : State) (a0 : Array Value) (hw : ∀ d ∈ tables_1, d.before a0 Z = true) (ws : List Jvm.Cond) (oa : Addr) (h0 : Heap) (n0 : Nat) (Z0 : n0 ≤ h0.size)  :
    MetFree l (⟨"java/util/AbstractCollection", "<init>", "()V"⟩ : MethodName) (head1 (Jvm.Cond.code (⟨"java/util/AbstractCollection", "<init>", "()V"⟩ : MethodName) jdk_22_method_1_code 1 none :: ws) ({ frames := 1, cells := 0, slots := 0, locals := 12 } : Room)) (fun a U => a = #[(.ref oa)] ∧ Z.Warmed39 U.vm ∧ U.heap = h0) (fun _ _ _ _ _ => True) (fun _ U o U' => ∃ v L, o = .returned v ∧ own_QP h0 n0 v U'.heap L ∧ FrameEnd U o U' L ({ frames := 1, cells := 0, slots := 0, locals := 12 } : Room).cells ({ frames := 1, cells := 0, slots := 0, locals := 12 } : Room).slots) := by
  refine MetFree.of_bodySF (plainFor_of_name pn1) hisR ?_
  intro p e s m args below meth c s₁ Bd hml0 hP hK
  obtain ⟨rfl, hZ, hh⟩ := hP
  have hx := Bd.exec
  have hby := Bd.bytes
  have hml : c.maxLocals = 1 := hml0
  have hown : s.vm.findClass "java/util/AbstractCollection" = some m.cls := findClass_of_methodNamed Bd.named
  have hnm := (name_of_methodNamed Bd.named Bd.method).1
  have hlk : meth.locks = false := Bd.notSynchronized
  have X0 : Stand p l e ({ frames := 1, cells := 0, slots := 0, locals := 12 } : Room) s m #[(.ref oa)] below meth c s₁ [] 0 0 := Stand.of_body Bd
  have e0 : s₁.heap = h0 := by rw [← hh, Bd.state]; rfl
  have N0 := Fr.nil n0
  refine own_go (fun t k => castTop (ef1 m oa) k) ?_
  show own_Go p e below _ (s₁.setTop (mkF m 0 #[.val (.ref oa)] []))
  refine own_go (fun t k => XS.aloadN X0.here hx rfl (hb hby d1_0) rfl rfl k) ?_
  show own_Go p e below _ (s₁.setTop (mkF m 1 #[.val (.ref oa)] [(.ref oa)]))
  obtain ⟨T2, X2, e2, st2⟩ := initO X0 hx hZ hown (hw _ (List.mem_of_getElem? (i := 30) rfl)) (hw _ (List.mem_of_getElem? (i := 31) rfl)) (hw _ (List.mem_of_getElem? (i := 32) rfl)) e0 (g := (mkF m 1 #[.val (.ref oa)] [(.ref oa)])) rfl (by rw [hml]; rfl) rfl (hb hby d1_1) (by decide) (W := 0) (by show 2 * 0 + _ ≤ _; exact Nat.le_of_eq rfl) (by decide)
  refine own_go (fun t k => st2 t k) ?_
  show own_Go p e below _ (T2.setTop (mkF m 4 #[.val (.ref oa)] []))
  exact own_ret0 X2 hx Bd.returns (hb hby d1_4) (by rw [e2]; exact ⟨rfl, N0, rfl⟩) (by decide) (by decide)
theorem d13_0 : decode jdk_30_method_1_code 0 = .ok (.aload_n 0, 1) := by decide +kernel
theorem d13_1 : decode jdk_30_method_1_code 1 = .ok (.invokespecial 1, 3) := by decide +kernel
theorem d13_4 : decode jdk_30_method_1_code 4 = .ok (.return_, 1) := by decide +kernel
theorem pn13 : plainName "java/lang/Record" = true := by first | (simp [plainName, overriddenIn]; done) | decide +kernel
theorem ef13 (m : MethodId) (x0 : Addr) : entryFrame m #[(.ref x0)] 1 = mkF m 0 #[.val (.ref x0)] [] := by first | (simp [entryFrame, mkF, argsToLocals, Value.category]; done) | rfl
set_option maxRecDepth 65536 in
set_option maxHeartbeats 40000000 in
theorem rm13 (l : Launch) (Z : State) (a0 : Array Value) (hw : ∀ d ∈ tables_1, d.before a0 Z = true) (ws : List Jvm.Cond) (oa : Addr) (h0 : Heap) (n0 : Nat) (Z0 : n0 ≤ h0.size)  :
    MetFree l (⟨"java/lang/Record", "<init>", "()V"⟩ : MethodName) (head1 (Jvm.Cond.code (⟨"java/lang/Record", "<init>", "()V"⟩ : MethodName) jdk_30_method_1_code 1 none :: ws) ({ frames := 1, cells := 0, slots := 0, locals := 12 } : Room)) (fun a U => a = #[(.ref oa)] ∧ Z.Warmed39 U.vm ∧ U.heap = h0) (fun _ _ _ _ _ => True) (fun _ U o U' => ∃ v L, o = .returned v ∧ own_QP h0 n0 v U'.heap L ∧ FrameEnd U o U' L ({ frames := 1, cells := 0, slots := 0, locals := 12 } : Room).cells ({ frames := 1, cells := 0, slots := 0, locals := 12 } : Room).slots) := by
  refine MetFree.of_bodySF (plainFor_of_name pn13) hisR ?_
  intro p e s m args below meth c s₁ Bd hml0 hP hK
  obtain ⟨rfl, hZ, hh⟩ := hP
  have hx := Bd.exec
  have hby := Bd.bytes
  have hml : c.maxLocals = 1 := hml0
  have hown : s.vm.findClass "java/lang/Record" = some m.cls := findClass_of_methodNamed Bd.named
  have hnm := (name_of_methodNamed Bd.named Bd.method).1
  have hlk : meth.locks = false := Bd.notSynchronized
  have X0 : Stand p l e ({ frames := 1, cells := 0, slots := 0, locals := 12 } : Room) s m #[(.ref oa)] below meth c s₁ [] 0 0 := Stand.of_body Bd
  have e0 : s₁.heap = h0 := by rw [← hh, Bd.state]; rfl
  have N0 := Fr.nil n0
  refine own_go (fun t k => castTop (ef13 m oa) k) ?_
  show own_Go p e below _ (s₁.setTop (mkF m 0 #[.val (.ref oa)] []))
  refine own_go (fun t k => XS.aloadN X0.here hx rfl (hb hby d13_0) rfl rfl k) ?_
  show own_Go p e below _ (s₁.setTop (mkF m 1 #[.val (.ref oa)] [(.ref oa)]))
  obtain ⟨T2, X2, e2, st2⟩ := initO X0 hx hZ hown (hw _ (List.mem_of_getElem? (i := 125) rfl)) (hw _ (List.mem_of_getElem? (i := 31) rfl)) (hw _ (List.mem_of_getElem? (i := 32) rfl)) e0 (g := (mkF m 1 #[.val (.ref oa)] [(.ref oa)])) rfl (by rw [hml]; rfl) rfl (hb hby d13_1) (by decide) (W := 0) (by show 2 * 0 + _ ≤ _; exact Nat.le_of_eq rfl) (by decide)
  refine own_go (fun t k => st2 t k) ?_
  show own_Go p e below _ (T2.setTop (mkF m 4 #[.val (.ref oa)] []))
  exact own_ret0 X2 hx Bd.returns (hb hby d13_4) (by rw [e2]; exact ⟨rfl, N0, rfl⟩) (by decide) (by decide)
theorem d2_0 : decode jdk_39_method_1_code 0 = .ok (.aload_n 0, 1) := by decide +kernel
theorem d2_1 : decode jdk_39_method_1_code 1 = .ok (.invokespecial 1, 3) := by decide +kernel
theorem d2_4 : decode jdk_39_method_1_code 4 = .ok (.aload_n 0, 1) := by decide +kernel
theorem d2_5 : decode jdk_39_method_1_code 5 = .ok (.iconst 0, 1) := by decide +kernel
theorem d2_6 : decode jdk_39_method_1_code 6 = .ok (.putfield 7, 3) := by decide +kernel
theorem d2_9 : decode jdk_39_method_1_code 9 = .ok (.return_, 1) := by decide +kernel
theorem pn2 : plainName "java/util/AbstractList" = true := by first | (simp [plainName, overriddenIn]; done) | decide +kernel
theorem pd2_0 : parseMethodDescriptor "()V" = some ⟨[], none⟩ := by decide +kernel
theorem ef2 (m : MethodId) (x0 : Addr) : entryFrame m #[(.ref x0)] 1 = mkF m 0 #[.val (.ref x0)] [] := by first | (simp [entryFrame, mkF, argsToLocals, Value.category]; done) | rfl
def own_Q2 (Z : State) (oa : Addr) (h0 : Heap) (n0 : Nat) (v : Option Value) (h : Heap) (L : List Loc) : Prop := v = none ∧ Fr n0 L ∧ (∃ w, Wr h0 h oa (Jvm.RoadKit.slotOf Z "java/util/AbstractList" "modCount" "I") w) ∧ Fld Z h oa "java/util/AbstractList" "modCount" "I" (.int (0 : Int32))
set_option maxRecDepth 65536 in
set_option maxHeartbeats 40000000 in
theorem rm2 (l : Launch) (Z : State) (a0 : Array Value) (hw : ∀ d ∈ tables_1, d.before a0 Z = true) (ws : List Jvm.Cond) (oa : Addr) (x0 : Int32) (h0 : Heap) (n0 : Nat) (Z0 : n0 ≤ h0.size) (Ea : Exa Z h0 oa "java/util/ArrayList") (Fm : Fld Z h0 oa "java/util/AbstractList" "modCount" "I" (.int x0)) (g_oa : n0 ≤ oa) :
    MetFree l (⟨"java/util/AbstractList", "<init>", "()V"⟩ : MethodName) (head1 (Jvm.Cond.code (⟨"java/util/AbstractList", "<init>", "()V"⟩ : MethodName) jdk_39_method_1_code 1 none :: ws) ({ frames := 2, cells := 0, slots := 0, locals := 24 } : Room)) (fun a U => a = #[(.ref oa)] ∧ Z.Warmed39 U.vm ∧ U.heap = h0) (fun _ _ _ _ _ => True) (fun _ U o U' => ∃ v L, o = .returned v ∧ own_Q2 Z oa h0 n0 v U'.heap L ∧ FrameEnd U o U' L ({ frames := 2, cells := 0, slots := 0, locals := 24 } : Room).cells ({ frames := 2, cells := 0, slots := 0, locals := 24 } : Room).slots) := by
  refine MetFree.of_bodySF (plainFor_of_name pn2) hisR ?_
  intro p e s m args below meth c s₁ Bd hml0 hP hK
  obtain ⟨rfl, hZ, hh⟩ := hP
  have hx := Bd.exec
  have hby := Bd.bytes
  have hml : c.maxLocals = 1 := hml0
  have hown : s.vm.findClass "java/util/AbstractList" = some m.cls := findClass_of_methodNamed Bd.named
  have hnm := (name_of_methodNamed Bd.named Bd.method).1
  have hlk : meth.locks = false := Bd.notSynchronized
  have X0 : Stand p l e ({ frames := 2, cells := 0, slots := 0, locals := 24 } : Room) s m #[(.ref oa)] below meth c s₁ [] 0 0 := Stand.of_body Bd
  have e0 : s₁.heap = h0 := by rw [← hh, Bd.state]; rfl
  have N0 := Fr.nil n0
  refine own_go (fun t k => castTop (ef2 m oa) k) ?_
  show own_Go p e below _ (s₁.setTop (mkF m 0 #[.val (.ref oa)] []))
  refine own_go (fun t k => XS.aloadN X0.here hx rfl (hb hby d2_0) rfl rfl k) ?_
  show own_Go p e below _ (s₁.setTop (mkF m 1 #[.val (.ref oa)] [(.ref oa)]))
  obtain ⟨_, _, ⟨T1, L1, k1, n1⟩, -, X1, ⟨Lc1, hQ1, l1, y1, z1⟩, st1⟩ := X0.specialBack hx (y := (⟨"java/util/AbstractCollection", "<init>", "()V"⟩ : MethodName)) rfl hown (mvT hZ (hw _ (List.mem_of_getElem? (i := 24) rfl))) (mvT hZ (hw _ (List.mem_of_getElem? (i := 25) rfl))) (mvT hZ (hw _ (List.mem_of_getElem? (i := 29) rfl))) (by decide) (backOf (W := 0) (rm1 l Z a0 hw [] oa h0 n0 Z0) hZ (hw _ (List.mem_of_getElem? (i := 29) rfl)) (hw _ (List.mem_of_getElem? (i := 28) rfl)) (by decide) (by decide)) (g := (mkF m 1 #[.val (.ref oa)] [(.ref oa)])) rfl (by rw [hml]; rfl) (Steps.refl _) (a := oa) (argsL := []) (rest := []) (lenOf pd2_0 rfl) rfl (by show 2 * 0 + _ ≤ _; exact Nat.le_of_eq rfl) (hb hby d2_1) (fun _ _ => ⟨rfl, e0, (by decide : 0 + 0 ≤ _), (by decide : 0 + 0 ≤ _)⟩)
  dsimp only [Pt.U, Pt.locs, Pt.cells, Pt.slots] at X1 l1 y1 z1 st1 hQ1
  subst l1 y1 z1
  obtain ⟨rfl, Nq1, e1⟩ := hQ1
  have N1 := Fr.app N0 Nq1
  refine own_go (fun t k => st1.trans k) ?_
  show own_Go p e below _ (T1.setTop (mkF m 4 #[.val (.ref oa)] []))
  refine own_go (fun t k => XS.aloadN X1.here hx rfl (hb hby d2_4) rfl rfl k) ?_
  show own_Go p e below _ (T1.setTop (mkF m 5 #[.val (.ref oa)] [(.ref oa)]))
  refine own_go (fun t k => XS.iconst X1.here hx rfl (hb hby d2_5) k) ?_
  show own_Go p e below _ (T1.setTop (mkF m 6 #[.val (.ref oa)] [(.int (0 : Int32)), (.ref oa)]))
  obtain ⟨T2, h2, X2, e2, W2, st2⟩ := putF X1 hx hZ hown (host := "") (Or.inl (hw _ (List.mem_of_getElem? (i := 33) rfl))) Via.refl e1 Fm Ea (Or.inl (hw _ (List.mem_of_getElem? (i := 34) rfl))) (hw _ (List.mem_of_getElem? (i := 13) rfl)) (ty := .int) (by decide) rfl rfl (g := (mkF m 6 #[.val (.ref oa)] [(.int (0 : Int32)), (.ref oa)])) rfl rfl (hb hby d2_6)
  have Fw2 := Fm.same W2
  have Ea__2 := Ea.wr W2
  have N2 := Fr.snoc X2 N1 g_oa
  have KP2 := (Keep.refl h0 [oa]).wr W2 (Or.inl (List.mem_of_getElem? (i := 0) rfl))
  have sz2 := Nat.le_trans Z0 (Keep.of_wr W2).1
  refine own_go (fun t k => st2 t k) ?_
  show own_Go p e below _ (T2.setTop (mkF m 9 #[.val (.ref oa)] []))
  exact own_ret0 X2 hx Bd.returns (hb hby d2_9) (by rw [e2]; exact ⟨rfl, N2, ⟨_, W2⟩, Fw2⟩) (by decide) (by decide)
theorem d3_0 : decode jdk_38_method_2_code 0 = .ok (.aload_n 0, 1) := by decide +kernel
theorem d3_1 : decode jdk_38_method_2_code 1 = .ok (.invokespecial 1, 3) := by decide +kernel
theorem d3_4 : decode jdk_38_method_2_code 4 = .ok (.aload_n 0, 1) := by decide +kernel
theorem d3_5 : decode jdk_38_method_2_code 5 = .ok (.getstatic 39, 3) := by decide +kernel
theorem d3_8 : decode jdk_38_method_2_code 8 = .ok (.putfield 9, 3) := by decide +kernel
theorem d3_11 : decode jdk_38_method_2_code 11 = .ok (.return_, 1) := by decide +kernel
theorem pn3 : plainName "java/util/ArrayList" = true := by first | (simp [plainName, overriddenIn]; done) | decide +kernel
theorem pd3_0 : parseMethodDescriptor "()V" = some ⟨[], none⟩ := by decide +kernel
theorem ef3 (m : MethodId) (x0 : Addr) : entryFrame m #[(.ref x0)] 1 = mkF m 0 #[.val (.ref x0)] [] := by first | (simp [entryFrame, mkF, argsToLocals, Value.category]; done) | rfl
def own_Q3 (Z : State) (oa de : Addr) (h0 : Heap) (n0 : Nat) (v : Option Value) (h : Heap) (L : List Loc) : Prop := v = none ∧ Fr n0 L ∧ Keep h0 h [oa] ∧ own_AL Z h oa (0 : Int32) (.ref de) (0 : Int32)
set_option maxRecDepth 65536 in
set_option maxHeartbeats 40000000 in
theorem rm3 (l : Launch) (Z : State) (a0 : Array Value) (hw : ∀ d ∈ tables_1, d.before a0 Z = true) (ws : List Jvm.Cond) (oa : Addr) (de mr es : Addr) (kde : ClassId) (h0 : Heap) (n0 : Nat) (Z0 : n0 ≤ h0.size) (G : own_AL Z h0 oa (0 : Int32) .null (0 : Int32)) (g_oa : n0 ≤ oa) (XO : Old Z n0 h0) (WW : own_W Z de mr es kde) :
    MetFree l (⟨"java/util/ArrayList", "<init>", "()V"⟩ : MethodName) (head1 (Jvm.Cond.code (⟨"java/util/ArrayList", "<init>", "()V"⟩ : MethodName) jdk_38_method_2_code 1 none :: ws) ({ frames := 3, cells := 0, slots := 0, locals := 36 } : Room)) (fun a U => a = #[(.ref oa)] ∧ Z.Warmed39 U.vm ∧ U.heap = h0) (fun _ _ _ _ _ => True) (fun _ U o U' => ∃ v L, o = .returned v ∧ own_Q3 Z oa de h0 n0 v U'.heap L ∧ FrameEnd U o U' L ({ frames := 3, cells := 0, slots := 0, locals := 36 } : Room).cells ({ frames := 3, cells := 0, slots := 0, locals := 36 } : Room).slots) := by
  refine MetFree.of_bodySF (plainFor_of_name pn3) hisR ?_
  intro p e s m args below meth c s₁ Bd hml0 hP hK
  obtain ⟨rfl, hZ, hh⟩ := hP
  have hx := Bd.exec
  have hby := Bd.bytes
  have hml : c.maxLocals = 1 := hml0
  have hown : s.vm.findClass "java/util/ArrayList" = some m.cls := findClass_of_methodNamed Bd.named
  have hnm := (name_of_methodNamed Bd.named Bd.method).1
  have hlk : meth.locks = false := Bd.notSynchronized
  have X0 : Stand p l e ({ frames := 3, cells := 0, slots := 0, locals := 36 } : Room) s m #[(.ref oa)] below meth c s₁ [] 0 0 := Stand.of_body Bd
  have e0 : s₁.heap = h0 := by rw [← hh, Bd.state]; rfl
  have N0 := Fr.nil n0
  refine own_go (fun t k => castTop (ef3 m oa) k) ?_
  obtain ⟨⟨cs, hcs, SC⟩, SDE, ADE, EDE, MR, SES, EES⟩ := id WW
  obtain ⟨Ea, Fm, Fe, Fs⟩ := G
  show own_Go p e below _ (s₁.setTop (mkF m 0 #[.val (.ref oa)] []))
  refine own_go (fun t k => XS.aloadN X0.here hx rfl (hb hby d3_0) rfl rfl k) ?_
  show own_Go p e below _ (s₁.setTop (mkF m 1 #[.val (.ref oa)] [(.ref oa)]))
  obtain ⟨_, _, ⟨T1, L1, k1, n1⟩, -, X1, ⟨Lc1, hQ1, l1, y1, z1⟩, st1⟩ := X0.specialBack hx (y := (⟨"java/util/AbstractList", "<init>", "()V"⟩ : MethodName)) rfl hown (mvT hZ (hw _ (List.mem_of_getElem? (i := 18) rfl))) (mvT hZ (hw _ (List.mem_of_getElem? (i := 19) rfl))) (mvT hZ (hw _ (List.mem_of_getElem? (i := 23) rfl))) (by decide) (backOf (W := 0) (rm2 l Z a0 hw [] oa (0 : Int32) h0 n0 Z0 Ea Fm g_oa) hZ (hw _ (List.mem_of_getElem? (i := 23) rfl)) (hw _ (List.mem_of_getElem? (i := 22) rfl)) (by decide) (by decide)) (g := (mkF m 1 #[.val (.ref oa)] [(.ref oa)])) rfl (by rw [hml]; rfl) (Steps.refl _) (a := oa) (argsL := []) (rest := []) (lenOf pd3_0 rfl) rfl (by show 2 * 0 + _ ≤ _; exact Nat.le_of_eq rfl) (hb hby d3_1) (fun _ _ => ⟨rfl, e0, (by decide : 0 + 0 ≤ _), (by decide : 0 + 0 ≤ _)⟩)
  dsimp only [Pt.U, Pt.locs, Pt.cells, Pt.slots] at X1 l1 y1 z1 st1 hQ1
  subst l1 y1 z1
  obtain ⟨rfl, Nq1, ⟨wv1, W1⟩, Fm1⟩ := hQ1
  have N1 := Fr.app N0 Nq1
  refine own_go (fun t k => st1.trans k) ?_
  have XO__1 := XO.wr W1 g_oa
  have Ea__1 := Ea.wr W1
  have Fe__1 := Fe.other W1 (Or.inr (slot_ne (Or.inl (hw _ (List.mem_of_getElem? (i := 37) rfl))) (Or.inl (hw _ (List.mem_of_getElem? (i := 34) rfl))) (by decide) (t := (.array (.object "java/lang/Object"))) (t' := .int) (by decide) (by decide)))
  have Fs__1 := Fs.other W1 (Or.inr (slot_ne (Or.inl (hw _ (List.mem_of_getElem? (i := 77) rfl))) (Or.inl (hw _ (List.mem_of_getElem? (i := 34) rfl))) (by decide) (t := .int) (t' := .int) (by decide) (by decide)))
  have KP1 := (Keep.refl h0 [oa]).wr W1 (Or.inl (List.mem_of_getElem? (i := 0) rfl))
  have sz1 := Nat.le_trans Z0 (Keep.of_wr W1).1
  show own_Go p e below _ (T1.setTop (mkF m 4 #[.val (.ref oa)] []))
  refine own_go (fun t k => XS.aloadN X1.here hx rfl (hb hby d3_4) rfl rfl k) ?_
  show own_Go p e below _ (T1.setTop (mkF m 5 #[.val (.ref oa)] [(.ref oa)]))
  obtain ⟨T2, X2, e2, st2⟩ := getS2 X1 hx hZ hown (host := "") (Or.inl (hw _ (List.mem_of_getElem? (i := 35) rfl))) Via.refl rfl (SDE.ext XO__1.2) (g := (mkF m 5 #[.val (.ref oa)] [(.ref oa)])) rfl (hb hby d3_5)
  refine own_go (fun t k => st2 t k) ?_
  show own_Go p e below _ (T2.setTop (mkF m 8 #[.val (.ref oa)] [(.ref de), (.ref oa)]))
  obtain ⟨T3, h3, X3, e3, W3, st3⟩ := putF X2 hx hZ hown (host := "") (Or.inl (hw _ (List.mem_of_getElem? (i := 36) rfl))) Via.refl e2 Fe__1 Ea__1 (Or.inl (hw _ (List.mem_of_getElem? (i := 37) rfl))) (hw _ (List.mem_of_getElem? (i := 13) rfl)) (ty := (.array (.object "java/lang/Object"))) (by decide) rfl rfl (g := (mkF m 8 #[.val (.ref oa)] [(.ref de), (.ref oa)])) rfl rfl (hb hby d3_8)
  have Fw3 := Fe__1.same W3
  have XO__3 := XO__1.wr W3 g_oa
  have Ea__3 := Ea__1.wr W3
  have Fm1__3 := Fm1.other W3 (Or.inr (slot_ne (Or.inl (hw _ (List.mem_of_getElem? (i := 34) rfl))) (Or.inl (hw _ (List.mem_of_getElem? (i := 37) rfl))) (by decide) (t := .int) (t' := (.array (.object "java/lang/Object"))) (by decide) (by decide)))
  have Fs__3 := Fs__1.other W3 (Or.inr (slot_ne (Or.inl (hw _ (List.mem_of_getElem? (i := 77) rfl))) (Or.inl (hw _ (List.mem_of_getElem? (i := 37) rfl))) (by decide) (t := .int) (t' := (.array (.object "java/lang/Object"))) (by decide) (by decide)))
  have N3 := Fr.snoc X3 N1 g_oa
  have KP3 := KP1.wr W3 (Or.inl (List.mem_of_getElem? (i := 0) rfl))
  have sz3 := Nat.le_trans sz1 (Keep.of_wr W3).1
  refine own_go (fun t k => st3 t k) ?_
  show own_Go p e below _ (T3.setTop (mkF m 11 #[.val (.ref oa)] []))
  exact own_ret0 X3 hx Bd.returns (hb hby d3_11) (by rw [e3]; exact ⟨rfl, N3, KP3, ⟨Ea__3, Fm1__3, Fw3, Fs__3⟩⟩) (by decide) (by decide)
theorem d4_0 : decode jdk_29_method_69_code 0 = .ok (.iload_n 0, 1) := by decide +kernel
theorem d4_1 : decode jdk_29_method_69_code 1 = .ok (.iload_n 1, 1) := by decide +kernel
theorem d4_2 : decode jdk_29_method_69_code 2 = .ok (.if_icmp .gt 7, 3) := by decide +kernel
theorem d4_5 : decode jdk_29_method_69_code 5 = .ok (.iload_n 0, 1) := by decide +kernel
theorem d4_6 : decode jdk_29_method_69_code 6 = .ok (.goto 4, 3) := by decide +kernel
theorem d4_10 : decode jdk_29_method_69_code 10 = .ok (.ireturn, 1) := by decide +kernel
theorem ef4 (m : MethodId) (x0 : Int32) (x1 : Int32) : entryFrame m #[(.int x1), (.int x1)] 2 = mkF m 0 #[.val (.int x1), .val (.int x1)] [] := by first | (simp [entryFrame, mkF, argsToLocals, Value.category]; done) | rfl
def own_Q4 (h0 : Heap) (n0 : Nat) (v : Option Value) (h : Heap) (L : List Loc) : Prop := v = some (.int (0 : Int32)) ∧ Fr n0 L ∧ h = h0
set_option maxRecDepth 65536 in
set_option maxHeartbeats 40000000 in
theorem rm4 (l : Launch) (Z : State) (a0 : Array Value) (hw : ∀ d ∈ tables_1, d.before a0 Z = true) (ws : List Jvm.Cond)  (h0 : Heap) (n0 : Nat) (Z0 : n0 ≤ h0.size)  :
    MetFree l (⟨"java/lang/Math", "min", "(II)I"⟩ : MethodName) (head1 (Jvm.Cond.code (⟨"java/lang/Math", "min", "(II)I"⟩ : MethodName) jdk_29_method_69_code 2 (some .int) :: ws) ({ frames := 0, cells := 0, slots := 0, locals := 0 } : Room)) (fun a U => a = #[(.int (0 : Int32)), (.int (0 : Int32))] ∧ Z.Warmed39 U.vm ∧ U.heap = h0) (fun _ _ _ _ _ => True) (fun _ U o U' => ∃ v L, o = .returned v ∧ own_Q4 h0 n0 v U'.heap L ∧ FrameEnd U o U' L ({ frames := 0, cells := 0, slots := 0, locals := 0 } : Room).cells ({ frames := 0, cells := 0, slots := 0, locals := 0 } : Room).slots) := by
  refine MetFree.of_bodySF (Jvm.Free.JP.mathPlain rfl (by decide +kernel)) hisR ?_
  intro p e s m args below meth c s₁ Bd hml0 hP hK
  obtain ⟨rfl, hZ, hh⟩ := hP
  have hx := Bd.exec
  have hby := Bd.bytes
  have hml : c.maxLocals = 2 := hml0
  have hown : s.vm.findClass "java/lang/Math" = some m.cls := findClass_of_methodNamed Bd.named
  have hnm := (name_of_methodNamed Bd.named Bd.method).1
  have hlk : meth.locks = false := Bd.notSynchronized
  have X0 : Stand p l e ({ frames := 0, cells := 0, slots := 0, locals := 0 } : Room) s m #[(.int (0 : Int32)), (.int (0 : Int32))] below meth c s₁ [] 0 0 := Stand.of_body Bd
  have e0 : s₁.heap = h0 := by rw [← hh, Bd.state]; rfl
  have N0 := Fr.nil n0
  refine own_go (fun t k => castTop (ef4 m (0 : Int32) (0 : Int32)) k) ?_
  show own_Go p e below _ (s₁.setTop (mkF m 0 #[.val (.int (0 : Int32)), .val (.int (0 : Int32))] []))
  refine own_go (fun t k => XS.iloadN X0.here hx rfl (hb hby d4_0) rfl k) ?_
  show own_Go p e below _ (s₁.setTop (mkF m 1 #[.val (.int (0 : Int32)), .val (.int (0 : Int32))] [(.int (0 : Int32))]))
  refine own_go (fun t k => XS.iloadN X0.here hx rfl (hb hby d4_1) rfl k) ?_
  show own_Go p e below _ (s₁.setTop (mkF m 2 #[.val (.int (0 : Int32)), .val (.int (0 : Int32))] [(.int (0 : Int32)), (.int (0 : Int32))]))
  refine own_go (fun t k => XS.icmpNo X0.here hx rfl (hb hby d4_2) rfl (flt (by decide : ¬ ((0 : Int32) < (0 : Int32)))).2.2.1 k) ?_
  show own_Go p e below _ (s₁.setTop (mkF m 5 #[.val (.int (0 : Int32)), .val (.int (0 : Int32))] []))
  refine own_go (fun t k => XS.iloadN X0.here hx rfl (hb hby d4_5) rfl k) ?_
  show own_Go p e below _ (s₁.setTop (mkF m 6 #[.val (.int (0 : Int32)), .val (.int (0 : Int32))] [(.int (0 : Int32))]))
  refine own_go (fun t k => XS.goto X0.here hx rfl (pc0 := 6) (pc' := 10) rfl (hb hby d4_6) (by decide) (by decide) k) ?_
  show own_Go p e below _ (s₁.setTop (mkF m 10 #[.val (.int (0 : Int32)), .val (.int (0 : Int32))] [(.int (0 : Int32))]))
  exact own_retI X0 hx Bd.returns (hb hby d4_10) (by rw [e0]; exact ⟨rfl, N0, rfl⟩) (by decide) (by decide)
theorem d5_0 : decode jdk_65_method_120_code 0 = .ok (.aload_n 2, 1) := by decide +kernel
theorem d5_1 : decode jdk_65_method_120_code 1 = .ok (.ldc 110, 2) := by decide +kernel
theorem d5_3 : decode jdk_65_method_120_code 3 = .ok (.if_acmp .ne 10, 3) := by decide +kernel
theorem d5_6 : decode jdk_65_method_120_code 6 = .ok (.iload_n 1, 1) := by decide +kernel
theorem d5_7 : decode jdk_65_method_120_code 7 = .ok (.anewarray 2, 3) := by decide +kernel
theorem d5_10 : decode jdk_65_method_120_code 10 = .ok (.goto 14, 3) := by decide +kernel
theorem d5_24 : decode jdk_65_method_120_code 24 = .ok (.astore_n 3, 1) := by decide +kernel
theorem d5_25 : decode jdk_65_method_120_code 25 = .ok (.aload_n 0, 1) := by decide +kernel
theorem d5_26 : decode jdk_65_method_120_code 26 = .ok (.iconst 0, 1) := by decide +kernel
theorem d5_27 : decode jdk_65_method_120_code 27 = .ok (.aload_n 3, 1) := by decide +kernel
theorem d5_28 : decode jdk_65_method_120_code 28 = .ok (.iconst 0, 1) := by decide +kernel
theorem d5_29 : decode jdk_65_method_120_code 29 = .ok (.aload_n 0, 1) := by decide +kernel
theorem d5_30 : decode jdk_65_method_120_code 30 = .ok (.arraylength, 1) := by decide +kernel
theorem d5_31 : decode jdk_65_method_120_code 31 = .ok (.iload_n 1, 1) := by decide +kernel
theorem d5_32 : decode jdk_65_method_120_code 32 = .ok (.invokestatic 304, 3) := by decide +kernel
theorem d5_35 : decode jdk_65_method_120_code 35 = .ok (.invokestatic 150, 3) := by decide +kernel
theorem d5_38 : decode jdk_65_method_120_code 38 = .ok (.aload_n 3, 1) := by decide +kernel
theorem d5_39 : decode jdk_65_method_120_code 39 = .ok (.areturn, 1) := by decide +kernel
theorem pn5 : plainName "java/util/Arrays" = true := by first | (simp [plainName, overriddenIn]; done) | decide +kernel
theorem pd5_0 : parseMethodDescriptor "(II)I" = some ⟨[.int, .int], some .int⟩ := by decide +kernel
theorem ef5 (m : MethodId) (x0 : Addr) (x1 : Int32) (x2 : Addr) : entryFrame m #[(.ref x0), (.int x1), (.ref x2)] 4 = mkF m 0 #[.val (.ref x0), .val (.int x1), .val (.ref x2), .unset] [] := by first | (simp [entryFrame, mkF, argsToLocals, Value.category]; done) | rfl
def own_QN (Z : State) (h0 : Heap) (n0 : Nat) (v : Option Value) (h : Heap) (L : List Loc) : Prop := ∃ (b : Addr) (kb : ClassId), v = some (.ref b) ∧ Fr n0 L ∧ Keep h0 h [] ∧ h0.size ≤ b ∧ Arv Z h b kb (.object "java/lang/Object") (0 : Int32) [] .null
set_option maxRecDepth 65536 in
set_option maxHeartbeats 40000000 in
theorem rm5 (l : Launch) (Z : State) (a0 : Array Value) (hw : ∀ d ∈ tables_1, d.before a0 Z = true) (ws : List Jvm.Cond) (de mr es : Addr) (kde : ClassId) (h0 : Heap) (n0 : Nat) (Z0 : n0 ≤ h0.size) (XO : Old Z n0 h0) (WW : own_W Z de mr es kde) :
    MetFree l (⟨"java/util/Arrays", "copyOf", "([Ljava/lang/Object;ILjava/lang/Class;)[Ljava/lang/Object;"⟩ : MethodName) (head1 (Jvm.Cond.code (⟨"java/util/Arrays", "copyOf", "([Ljava/lang/Object;ILjava/lang/Class;)[Ljava/lang/Object;"⟩ : MethodName) jdk_65_method_120_code 4 (some (.array (.object "java/lang/Object"))) :: ws) ({ frames := 1, cells := 1, slots := 0, locals := 32 } : Room)) (fun a U => a = #[(.ref de), (.int (0 : Int32)), (.ref mr)] ∧ Z.Warmed39 U.vm ∧ U.heap = h0) (fun _ _ _ _ _ => True) (fun _ U o U' => ∃ v L, o = .returned v ∧ own_QN Z h0 n0 v U'.heap L ∧ FrameEnd U o U' L ({ frames := 1, cells := 1, slots := 0, locals := 32 } : Room).cells ({ frames := 1, cells := 1, slots := 0, locals := 32 } : Room).slots) := by
  refine MetFree.of_bodySF (plainFor_of_name pn5) hisR ?_
  intro p e s m args below meth c s₁ Bd hml0 hP hK
  obtain ⟨rfl, hZ, hh⟩ := hP
  have hx := Bd.exec
  have hby := Bd.bytes
  have hml : c.maxLocals = 4 := hml0
  have hown : s.vm.findClass "java/util/Arrays" = some m.cls := findClass_of_methodNamed Bd.named
  have hnm := (name_of_methodNamed Bd.named Bd.method).1
  have hlk : meth.locks = false := Bd.notSynchronized
  have X0 : Stand p l e ({ frames := 1, cells := 1, slots := 0, locals := 32 } : Room) s m #[(.ref de), (.int (0 : Int32)), (.ref mr)] below meth c s₁ [] 0 0 := Stand.of_body Bd
  have e0 : s₁.heap = h0 := by rw [← hh, Bd.state]; rfl
  have N0 := Fr.nil n0
  refine own_go (fun t k => castTop (ef5 m de (0 : Int32) mr) k) ?_
  obtain ⟨⟨cs, hcs, SC⟩, SDE, ADE, EDE, MR, SES, EES⟩ := id WW
  show own_Go p e below _ (s₁.setTop (mkF m 0 #[.val (.ref de), .val (.int (0 : Int32)), .val (.ref mr), .unset] []))
  refine own_go (fun t k => XS.aloadN X0.here hx rfl (hb hby d5_0) rfl rfl k) ?_
  show own_Go p e below _ (s₁.setTop (mkF m 1 #[.val (.ref de), .val (.int (0 : Int32)), .val (.ref mr), .unset] [(.ref mr)]))
  obtain ⟨T1, X1, e1, st1⟩ := own_ldcC X0 hx hZ hown (hw _ (List.mem_of_getElem? (i := 91) rfl)) e0 MR (g := (mkF m 1 #[.val (.ref de), .val (.int (0 : Int32)), .val (.ref mr), .unset] [(.ref mr)])) rfl (hb hby d5_1)
  refine own_go (fun t k => st1 t k) ?_
  show own_Go p e below _ (T1.setTop (mkF m 3 #[.val (.ref de), .val (.int (0 : Int32)), .val (.ref mr), .unset] [(.ref mr), (.ref mr)]))
  refine own_go (fun t k => Jvm.RoadKit.acmp (g := (mkF m 3 #[.val (.ref de), .val (.int (0 : Int32)), .val (.ref mr), .unset] [(.ref mr), (.ref mr)])) X1 hx rfl rfl rfl (pc0 := 3) (pc' := 6) (same := true) rfl (hb hby d5_3) rfl (decide_eq_true rfl) (by decide) (by decide) k) ?_
  show own_Go p e below _ (T1.setTop (mkF m 6 #[.val (.ref de), .val (.int (0 : Int32)), .val (.ref mr), .unset] []))
  refine own_go (fun t k => XS.iloadN X1.here hx rfl (hb hby d5_6) rfl k) ?_
  show own_Go p e below _ (T1.setTop (mkF m 7 #[.val (.ref de), .val (.int (0 : Int32)), .val (.ref mr), .unset] [(.int (0 : Int32))]))
  obtain ⟨T2, h2, k2, X2, e2, E2, A2, O2, st2⟩ := newR X1 hx hZ hown (hw _ (List.mem_of_getElem? (i := 92) rfl)) (hw _ (List.mem_of_getElem? (i := 93) rfl)) e1 (g := (mkF m 7 #[.val (.ref de), .val (.int (0 : Int32)), .val (.ref mr), .unset] [(.int (0 : Int32))])) rfl (hb hby d5_7) rfl (by decide) (cap := 0) (by decide) (by decide) (by decide) (by decide)
  obtain ⟨b2, g2⟩ : ∃ z, z = h0.size := ⟨_, rfl⟩
  rw [← g2] at A2 st2
  have g_b2 : n0 ≤ b2 := Nat.le_trans Z0 (Nat.le_of_eq g2.symm)
  have sz_b2 : h0.size ≤ b2 := Nat.le_trans (Keep.refl h0 []).1 (Nat.le_of_eq g2.symm)
  have XO__2 := XO.ext E2
  have sz2 := Nat.le_trans Z0 E2.1
  have KP2 := (Keep.refl h0 []).ext E2
  have V2 : Arv Z h2 b2 k2 (.object "java/lang/Object") (0 : Int32) [] .null := Arv.new A2 (by decide)
  refine own_go (fun t k => st2 t k) ?_
  show own_Go p e below _ (T2.setTop (mkF m 10 #[.val (.ref de), .val (.int (0 : Int32)), .val (.ref mr), .unset] [(.ref b2)]))
  refine own_go (fun t k => XS.goto X2.here hx rfl (pc0 := 10) (pc' := 24) rfl (hb hby d5_10) (by decide) (by decide) k) ?_
  show own_Go p e below _ (T2.setTop (mkF m 24 #[.val (.ref de), .val (.int (0 : Int32)), .val (.ref mr), .unset] [(.ref b2)]))
  refine own_go (fun t k => XS.astoreN X2.here hx rfl (hb hby d5_24) rfl rfl (l' := #[.val (.ref de), .val (.int (0 : Int32)), .val (.ref mr), .val (.ref b2)]) rfl k) ?_
  show own_Go p e below _ (T2.setTop (mkF m 25 #[.val (.ref de), .val (.int (0 : Int32)), .val (.ref mr), .val (.ref b2)] []))
  refine own_go (fun t k => XS.aloadN X2.here hx rfl (hb hby d5_25) rfl rfl k) ?_
  show own_Go p e below _ (T2.setTop (mkF m 26 #[.val (.ref de), .val (.int (0 : Int32)), .val (.ref mr), .val (.ref b2)] [(.ref de)]))
  refine own_go (fun t k => XS.iconst X2.here hx rfl (hb hby d5_26) k) ?_
  show own_Go p e below _ (T2.setTop (mkF m 27 #[.val (.ref de), .val (.int (0 : Int32)), .val (.ref mr), .val (.ref b2)] [(.int (0 : Int32)), (.ref de)]))
  refine own_go (fun t k => XS.aloadN X2.here hx rfl (hb hby d5_27) rfl rfl k) ?_
  show own_Go p e below _ (T2.setTop (mkF m 28 #[.val (.ref de), .val (.int (0 : Int32)), .val (.ref mr), .val (.ref b2)] [(.ref b2), (.int (0 : Int32)), (.ref de)]))
  refine own_go (fun t k => XS.iconst X2.here hx rfl (hb hby d5_28) k) ?_
  show own_Go p e below _ (T2.setTop (mkF m 29 #[.val (.ref de), .val (.int (0 : Int32)), .val (.ref mr), .val (.ref b2)] [(.int (0 : Int32)), (.ref b2), (.int (0 : Int32)), (.ref de)]))
  refine own_go (fun t k => XS.aloadN X2.here hx rfl (hb hby d5_29) rfl rfl k) ?_
  show own_Go p e below _ (T2.setTop (mkF m 30 #[.val (.ref de), .val (.int (0 : Int32)), .val (.ref mr), .val (.ref b2)] [(.ref de), (.int (0 : Int32)), (.ref b2), (.int (0 : Int32)), (.ref de)]))
  obtain ⟨cl3, Ar3, -, Sa3, Na3, -, -⟩ := id (ADE.ext XO__2.2)
  have ln3 := len_of Sa3 Na3
  refine own_go (fun t k => X2.arraylength hx (by rw [e2]; exact Ar3.1) (State.isArrayOf_alike hZ.alike Ar3.2.1) (g := (mkF m 30 #[.val (.ref de), .val (.int (0 : Int32)), .val (.ref mr), .val (.ref b2)] [(.ref de), (.int (0 : Int32)), (.ref b2), (.int (0 : Int32)), (.ref de)])) rfl rfl (hb hby d5_30) t (by rw [ln3]; exact k)) ?_
  show own_Go p e below _ (T2.setTop (mkF m 31 #[.val (.ref de), .val (.int (0 : Int32)), .val (.ref mr), .val (.ref b2)] [(.int (0 : Int32)), (.int (0 : Int32)), (.ref b2), (.int (0 : Int32)), (.ref de)]))
  refine own_go (fun t k => XS.iloadN X2.here hx rfl (hb hby d5_31) rfl k) ?_
  show own_Go p e below _ (T2.setTop (mkF m 32 #[.val (.ref de), .val (.int (0 : Int32)), .val (.ref mr), .val (.ref b2)] [(.int (0 : Int32)), (.int (0 : Int32)), (.int (0 : Int32)), (.ref b2), (.int (0 : Int32)), (.ref de)]))
  obtain ⟨_, _, ⟨T4, L4, k4, n4⟩, -, X4, ⟨Lc4, hQ4, l4, y4, z4⟩, st4⟩ := Jvm.LawKit.callS X2 hx (y := (⟨"java/lang/Math", "min", "(II)I"⟩ : MethodName)) hown (mvT hZ (hw _ (List.mem_of_getElem? (i := 94) rfl))) (mvT hZ (hw _ (List.mem_of_getElem? (i := 95) rfl))) (mvT hZ (hw _ (List.mem_of_getElem? (i := 96) rfl))) (mvT hZ (hw _ (List.mem_of_getElem? (i := 97) rfl))) (by decide) (backOf (W := 4) (rm4 l Z a0 hw [] h2 n0 sz2) hZ (hw _ (List.mem_of_getElem? (i := 97) rfl)) (hw _ (List.mem_of_getElem? (i := 96) rfl)) (by decide) (by decide)) (g := (mkF m 32 #[.val (.ref de), .val (.int (0 : Int32)), .val (.ref mr), .val (.ref b2)] [(.int (0 : Int32)), (.int (0 : Int32)), (.int (0 : Int32)), (.ref b2), (.int (0 : Int32)), (.ref de)])) rfl (by rw [hml]; rfl) (argsL := [(.int (0 : Int32)), (.int (0 : Int32))]) (rest := [(.int (0 : Int32)), (.ref b2), (.int (0 : Int32)), (.ref de)]) (lenOf pd5_0 rfl) rfl (by show 2 * 0 + _ ≤ _; exact Nat.le_of_eq rfl) (hb hby d5_32) (fun _ _ => ⟨rfl, e2, (by decide : 0 + 1 + 0 ≤ _), (by decide : 0 + 0 + 0 ≤ _)⟩)
  dsimp only [Pt.U, Pt.locs, Pt.cells, Pt.slots] at X4 l4 y4 z4 st4 hQ4
  subst l4 y4 z4
  obtain ⟨rfl, Nq4, e4⟩ := hQ4
  have N4 := Fr.app N0 Nq4
  refine own_go (fun t k => st4 t k) ?_
  show own_Go p e below _ (T4.setTop (mkF m 35 #[.val (.ref de), .val (.int (0 : Int32)), .val (.ref mr), .val (.ref b2)] [(.int (0 : Int32)), (.int (0 : Int32)), (.ref b2), (.int (0 : Int32)), (.ref de)]))
  obtain ⟨T5, h5, L5, X5, e5, N5, K5, A5, st5⟩ := cpA X4 hx hZ hown (hw _ (List.mem_of_getElem? (i := 98) rfl)) (hw _ (List.mem_of_getElem? (i := 101) rfl)) (hw _ (List.mem_of_getElem? (i := 99) rfl)) (hw _ (List.mem_of_getElem? (i := 100) rfl)) e4 (ADE.ext XO__2.2) V2 (us := []) (Or.inr ⟨rfl, rfl, trivial⟩) (by decide) (by decide) (by decide) (by decide) (by decide) rfl (by decide) N4 g_b2 (g := (mkF m 35 #[.val (.ref de), .val (.int (0 : Int32)), .val (.ref mr), .val (.ref b2)] [(.int (0 : Int32)), (.int (0 : Int32)), (.ref b2), (.int (0 : Int32)), (.ref de)])) rfl (by rw [hml]; rfl) rfl (hb hby d5_35) (by decide) (W := 0) (by show 2 * 0 + _ ≤ _; exact Nat.le_of_eq rfl) (by decide)
  have XO__5 := XO__2.keep K5 (allS g_b2 all0)
  have KP5 := KP2.trans K5 (allS (Or.inr sz_b2) all0)
  have sz5 := Nat.le_trans sz2 K5.1
  refine own_go (fun t k => st5 t k) ?_
  show own_Go p e below _ (T5.setTop (mkF m 38 #[.val (.ref de), .val (.int (0 : Int32)), .val (.ref mr), .val (.ref b2)] []))
  refine own_go (fun t k => XS.aloadN X5.here hx rfl (hb hby d5_38) rfl rfl k) ?_
  show own_Go p e below _ (T5.setTop (mkF m 39 #[.val (.ref de), .val (.int (0 : Int32)), .val (.ref mr), .val (.ref b2)] [(.ref b2)]))
  exact own_retA X5 hx Bd.returns rfl rfl (hb hby d5_39) (by rw [e5]; exact ⟨_, _, rfl, N5, KP5, sz_b2, A5⟩) (by decide) (by decide)
theorem d6_0 : decode jdk_65_method_119_code 0 = .ok (.aload_n 0, 1) := by decide +kernel
theorem d6_1 : decode jdk_65_method_119_code 1 = .ok (.iload_n 1, 1) := by decide +kernel
theorem d6_2 : decode jdk_65_method_119_code 2 = .ok (.aload_n 0, 1) := by decide +kernel
theorem d6_3 : decode jdk_65_method_119_code 3 = .ok (.invokevirtual 86, 3) := by decide +kernel
theorem d6_6 : decode jdk_65_method_119_code 6 = .ok (.invokestatic 300, 3) := by decide +kernel
theorem d6_9 : decode jdk_65_method_119_code 9 = .ok (.areturn, 1) := by decide +kernel
theorem pn6 : plainName "java/util/Arrays" = true := by first | (simp [plainName, overriddenIn]; done) | decide +kernel
theorem pd6_0 : parseMethodDescriptor "([Ljava/lang/Object;ILjava/lang/Class;)[Ljava/lang/Object;" = some ⟨[(.array (.object "java/lang/Object")), .int, (.object "java/lang/Class")], some (.array (.object "java/lang/Object"))⟩ := by decide +kernel
theorem ef6 (m : MethodId) (x0 : Addr) (x1 : Int32) : entryFrame m #[(.ref x0), (.int x1)] 2 = mkF m 0 #[.val (.ref x0), .val (.int x1)] [] := by first | (simp [entryFrame, mkF, argsToLocals, Value.category]; done) | rfl
set_option maxRecDepth 65536 in
set_option maxHeartbeats 40000000 in
theorem rm6 (l : Launch) (Z : State) (a0 : Array Value) (hw : ∀ d ∈ tables_1, d.before a0 Z = true) (ws : List Jvm.Cond) (de mr es : Addr) (kde : ClassId) (h0 : Heap) (n0 : Nat) (Z0 : n0 ≤ h0.size) (XO : Old Z n0 h0) (WW : own_W Z de mr es kde) :
    MetFree l (⟨"java/util/Arrays", "copyOf", "([Ljava/lang/Object;I)[Ljava/lang/Object;"⟩ : MethodName) (head1 (Jvm.Cond.code (⟨"java/util/Arrays", "copyOf", "([Ljava/lang/Object;I)[Ljava/lang/Object;"⟩ : MethodName) jdk_65_method_119_code 2 (some (.array (.object "java/lang/Object"))) :: ws) ({ frames := 2, cells := 1, slots := 0, locals := 47 } : Room)) (fun a U => a = #[(.ref de), (.int (0 : Int32))] ∧ Z.Warmed39 U.vm ∧ U.heap = h0) (fun _ _ _ _ _ => True) (fun _ U o U' => ∃ v L, o = .returned v ∧ own_QN Z h0 n0 v U'.heap L ∧ FrameEnd U o U' L ({ frames := 2, cells := 1, slots := 0, locals := 47 } : Room).cells ({ frames := 2, cells := 1, slots := 0, locals := 47 } : Room).slots) := by
  refine MetFree.of_bodySF (plainFor_of_name pn6) hisR ?_
  intro p e s m args below meth c s₁ Bd hml0 hP hK
  obtain ⟨rfl, hZ, hh⟩ := hP
  have hx := Bd.exec
  have hby := Bd.bytes
  have hml : c.maxLocals = 2 := hml0
  have hown : s.vm.findClass "java/util/Arrays" = some m.cls := findClass_of_methodNamed Bd.named
  have hnm := (name_of_methodNamed Bd.named Bd.method).1
  have hlk : meth.locks = false := Bd.notSynchronized
  have X0 : Stand p l e ({ frames := 2, cells := 1, slots := 0, locals := 47 } : Room) s m #[(.ref de), (.int (0 : Int32))] below meth c s₁ [] 0 0 := Stand.of_body Bd
  have e0 : s₁.heap = h0 := by rw [← hh, Bd.state]; rfl
  have N0 := Fr.nil n0
  refine own_go (fun t k => castTop (ef6 m de (0 : Int32)) k) ?_
  obtain ⟨⟨cs, hcs, SC⟩, SDE, ADE, EDE, MR, SES, EES⟩ := id WW
  show own_Go p e below _ (s₁.setTop (mkF m 0 #[.val (.ref de), .val (.int (0 : Int32))] []))
  refine own_go (fun t k => XS.aloadN X0.here hx rfl (hb hby d6_0) rfl rfl k) ?_
  show own_Go p e below _ (s₁.setTop (mkF m 1 #[.val (.ref de), .val (.int (0 : Int32))] [(.ref de)]))
  refine own_go (fun t k => XS.iloadN X0.here hx rfl (hb hby d6_1) rfl k) ?_
  show own_Go p e below _ (s₁.setTop (mkF m 2 #[.val (.ref de), .val (.int (0 : Int32))] [(.int (0 : Int32)), (.ref de)]))
  refine own_go (fun t k => XS.aloadN X0.here hx rfl (hb hby d6_2) rfl rfl k) ?_
  show own_Go p e below _ (s₁.setTop (mkF m 3 #[.val (.ref de), .val (.int (0 : Int32))] [(.ref de), (.int (0 : Int32)), (.ref de)]))
  obtain ⟨T1, X1, e1, st1⟩ := own_gcls X0 hx hZ hown (hw _ (List.mem_of_getElem? (i := 82) rfl)) (hw _ (List.mem_of_getElem? (i := 83) rfl)) (hw _ (List.mem_of_getElem? (i := 85) rfl)) (hw _ (List.mem_of_getElem? (i := 84) rfl)) (hw _ (List.mem_of_getElem? (i := 86) rfl)) e0 (EDE.ext XO.2) MR (g := (mkF m 3 #[.val (.ref de), .val (.int (0 : Int32))] [(.ref de), (.int (0 : Int32)), (.ref de)])) rfl (by rw [hml]; rfl) rfl (hb hby d6_3) (by decide) (Nat.le_of_ble_eq_true rfl)
  refine own_go (fun t k => st1 t k) ?_
  show own_Go p e below _ (T1.setTop (mkF m 6 #[.val (.ref de), .val (.int (0 : Int32))] [(.ref mr), (.int (0 : Int32)), (.ref de)]))
  obtain ⟨_, _, ⟨T2, L2, k2, n2⟩, -, X2, ⟨Lc2, hQ2, l2, y2, z2⟩, st2⟩ := Jvm.LawKit.callS X1 hx (y := (⟨"java/util/Arrays", "copyOf", "([Ljava/lang/Object;ILjava/lang/Class;)[Ljava/lang/Object;"⟩ : MethodName)) hown (mvT hZ (hw _ (List.mem_of_getElem? (i := 88) rfl))) (mvT hZ (hw _ (List.mem_of_getElem? (i := 89) rfl))) (mvT hZ (hw _ (List.mem_of_getElem? (i := 80) rfl))) (mvT hZ (hw _ (List.mem_of_getElem? (i := 90) rfl))) (by decide) (backOf (W := 0) (rm5 l Z a0 hw [] de mr es kde h0 n0 Z0 XO WW) hZ (hw _ (List.mem_of_getElem? (i := 90) rfl)) (hw _ (List.mem_of_getElem? (i := 80) rfl)) (by decide) (by decide)) (g := (mkF m 6 #[.val (.ref de), .val (.int (0 : Int32))] [(.ref mr), (.int (0 : Int32)), (.ref de)])) rfl (by rw [hml]; rfl) (argsL := [(.ref de), (.int (0 : Int32)), (.ref mr)]) (rest := []) (lenOf pd6_0 rfl) rfl (by show 2 * 0 + _ ≤ _; exact Nat.le_of_eq rfl) (hb hby d6_6) (fun _ _ => ⟨rfl, e1, (by decide : 0 + 1 ≤ _), (by decide : 0 + 0 ≤ _)⟩)
  dsimp only [Pt.U, Pt.locs, Pt.cells, Pt.slots] at X2 l2 y2 z2 st2 hQ2
  subst l2 y2 z2
  obtain ⟨d2, kd2, rfl, Nq2, K2, ge2, A2⟩ := hQ2
  have N2 := Fr.app N0 Nq2
  refine own_go (fun t k => st2 t k) ?_
  have g_d2 : n0 ≤ d2 := Nat.le_trans Z0 ge2
  have sz_d2 : h0.size ≤ d2 := Nat.le_trans (Keep.refl h0 []).1 ge2
  have XO__2 := XO.keep K2 all0
  have KP2 := (Keep.refl h0 []).trans K2 all0
  have sz2 := Nat.le_trans Z0 K2.1
  show own_Go p e below _ (T2.setTop (mkF m 9 #[.val (.ref de), .val (.int (0 : Int32))] [(.ref d2)]))
  exact own_retA X2 hx Bd.returns rfl rfl (hb hby d6_9) (⟨_, _, rfl, N2, KP2, sz_d2, A2⟩) (by decide) (by decide)
theorem d7_0 : decode jdk_38_method_16_code 0 = .ok (.aload_n 0, 1) := by decide +kernel
theorem d7_1 : decode jdk_38_method_16_code 1 = .ok (.getfield 9, 3) := by decide +kernel
theorem d7_4 : decode jdk_38_method_16_code 4 = .ok (.aload_n 0, 1) := by decide +kernel
theorem d7_5 : decode jdk_38_method_16_code 5 = .ok (.getfield 48, 3) := by decide +kernel
theorem d7_8 : decode jdk_38_method_16_code 8 = .ok (.invokestatic 66, 3) := by decide +kernel
theorem d7_11 : decode jdk_38_method_16_code 11 = .ok (.areturn, 1) := by decide +kernel
theorem pn7 : plainName "java/util/ArrayList" = true := by first | (simp [plainName, overriddenIn]; done) | decide +kernel
theorem pd7_0 : parseMethodDescriptor "([Ljava/lang/Object;I)[Ljava/lang/Object;" = some ⟨[(.array (.object "java/lang/Object")), .int], some (.array (.object "java/lang/Object"))⟩ := by decide +kernel
theorem ef7 (m : MethodId) (x0 : Addr) : entryFrame m #[(.ref x0)] 1 = mkF m 0 #[.val (.ref x0)] [] := by first | (simp [entryFrame, mkF, argsToLocals, Value.category]; done) | rfl
set_option maxRecDepth 65536 in
set_option maxHeartbeats 40000000 in
theorem rm7 (l : Launch) (Z : State) (a0 : Array Value) (hw : ∀ d ∈ tables_1, d.before a0 Z = true) (ws : List Jvm.Cond) (oa : Addr) (de mr es : Addr) (kde : ClassId) (h0 : Heap) (n0 : Nat) (Z0 : n0 ≤ h0.size) (XO : Old Z n0 h0) (WW : own_W Z de mr es kde) (G : own_AL Z h0 oa (0 : Int32) (.ref de) (0 : Int32)) :
    MetFree l (⟨"java/util/ArrayList", "toArray", "()[Ljava/lang/Object;"⟩ : MethodName) (head1 (Jvm.Cond.code (⟨"java/util/ArrayList", "toArray", "()[Ljava/lang/Object;"⟩ : MethodName) jdk_38_method_16_code 1 (some (.array (.object "java/lang/Object"))) :: ws) ({ frames := 3, cells := 1, slots := 0, locals := 60 } : Room)) (fun a U => a = #[(.ref oa)] ∧ Z.Warmed39 U.vm ∧ U.heap = h0) (fun _ _ _ _ _ => True) (fun _ U o U' => ∃ v L, o = .returned v ∧ own_QN Z h0 n0 v U'.heap L ∧ FrameEnd U o U' L ({ frames := 3, cells := 1, slots := 0, locals := 60 } : Room).cells ({ frames := 3, cells := 1, slots := 0, locals := 60 } : Room).slots) := by
  refine MetFree.of_bodySF (plainFor_of_name pn7) hisR ?_
  intro p e s m args below meth c s₁ Bd hml0 hP hK
  obtain ⟨rfl, hZ, hh⟩ := hP
  have hx := Bd.exec
  have hby := Bd.bytes
  have hml : c.maxLocals = 1 := hml0
  have hown : s.vm.findClass "java/util/ArrayList" = some m.cls := findClass_of_methodNamed Bd.named
  have hnm := (name_of_methodNamed Bd.named Bd.method).1
  have hlk : meth.locks = false := Bd.notSynchronized
  have X0 : Stand p l e ({ frames := 3, cells := 1, slots := 0, locals := 60 } : Room) s m #[(.ref oa)] below meth c s₁ [] 0 0 := Stand.of_body Bd
  have e0 : s₁.heap = h0 := by rw [← hh, Bd.state]; rfl
  have N0 := Fr.nil n0
  refine own_go (fun t k => castTop (ef7 m oa) k) ?_
  obtain ⟨⟨cs, hcs, SC⟩, SDE, ADE, EDE, MR, SES, EES⟩ := id WW
  show own_Go p e below _ (s₁.setTop (mkF m 0 #[.val (.ref oa)] []))
  refine own_go (fun t k => XS.aloadN X0.here hx rfl (hb hby d7_0) rfl rfl k) ?_
  show own_Go p e below _ (s₁.setTop (mkF m 1 #[.val (.ref oa)] [(.ref oa)]))
  obtain ⟨T1, X1, e1, st1⟩ := getF X0 hx hZ hown (host := "") (Or.inl (hw _ (List.mem_of_getElem? (i := 36) rfl))) Via.refl e0 G.2.2.1 (g := (mkF m 1 #[.val (.ref oa)] [(.ref oa)])) rfl rfl (hb hby d7_1)
  refine own_go (fun t k => st1 t k) ?_
  show own_Go p e below _ (T1.setTop (mkF m 4 #[.val (.ref oa)] [(.ref de)]))
  refine own_go (fun t k => XS.aloadN X1.here hx rfl (hb hby d7_4) rfl rfl k) ?_
  show own_Go p e below _ (T1.setTop (mkF m 5 #[.val (.ref oa)] [(.ref oa), (.ref de)]))
  obtain ⟨T2, X2, e2, st2⟩ := getF X1 hx hZ hown (host := "") (Or.inl (hw _ (List.mem_of_getElem? (i := 76) rfl))) Via.refl e1 G.2.2.2 (g := (mkF m 5 #[.val (.ref oa)] [(.ref oa), (.ref de)])) rfl rfl (hb hby d7_5)
  refine own_go (fun t k => st2 t k) ?_
  show own_Go p e below _ (T2.setTop (mkF m 8 #[.val (.ref oa)] [(.int (0 : Int32)), (.ref de)]))
  obtain ⟨_, _, ⟨T3, L3, k3, n3⟩, -, X3, ⟨Lc3, hQ3, l3, y3, z3⟩, st3⟩ := Jvm.LawKit.callS X2 hx (y := (⟨"java/util/Arrays", "copyOf", "([Ljava/lang/Object;I)[Ljava/lang/Object;"⟩ : MethodName)) hown (mvT hZ (hw _ (List.mem_of_getElem? (i := 78) rfl))) (mvT hZ (hw _ (List.mem_of_getElem? (i := 79) rfl))) (mvT hZ (hw _ (List.mem_of_getElem? (i := 80) rfl))) (mvT hZ (hw _ (List.mem_of_getElem? (i := 81) rfl))) (by decide) (backOf (W := 0) (rm6 l Z a0 hw [] de mr es kde h0 n0 Z0 XO WW) hZ (hw _ (List.mem_of_getElem? (i := 81) rfl)) (hw _ (List.mem_of_getElem? (i := 80) rfl)) (by decide) (by decide)) (g := (mkF m 8 #[.val (.ref oa)] [(.int (0 : Int32)), (.ref de)])) rfl (by rw [hml]; rfl) (argsL := [(.ref de), (.int (0 : Int32))]) (rest := []) (lenOf pd7_0 rfl) rfl (by show 2 * 0 + _ ≤ _; exact Nat.le_of_eq rfl) (hb hby d7_8) (fun _ _ => ⟨rfl, e2, (by decide : 0 + 1 ≤ _), (by decide : 0 + 0 ≤ _)⟩)
  dsimp only [Pt.U, Pt.locs, Pt.cells, Pt.slots] at X3 l3 y3 z3 st3 hQ3
  subst l3 y3 z3
  obtain ⟨d3, kd3, rfl, Nq3, K3, ge3, A3⟩ := hQ3
  have N3 := Fr.app N0 Nq3
  refine own_go (fun t k => st3 t k) ?_
  have g_d3 : n0 ≤ d3 := Nat.le_trans Z0 ge3
  have sz_d3 : h0.size ≤ d3 := Nat.le_trans (Keep.refl h0 []).1 ge3
  have ne_oa_d3 : oa ≠ d3 := Nat.ne_of_lt (Nat.lt_of_lt_of_le G.1.lt ge3)
  have XO__3 := XO.keep K3 all0
  have G__3 := G.keep K3 nin0
  have KP3 := (Keep.refl h0 []).trans K3 all0
  have sz3 := Nat.le_trans Z0 K3.1
  show own_Go p e below _ (T3.setTop (mkF m 11 #[.val (.ref oa)] [(.ref d3)]))
  exact own_retA X3 hx Bd.returns rfl rfl (hb hby d7_11) (⟨_, _, rfl, N3, KP3, sz_d3, A3⟩) (by decide) (by decide)
theorem d8_0 : decode jdk_38_method_41_code 0 = .ok (.aload_n 1, 1) := by decide +kernel
theorem d8_1 : decode jdk_38_method_41_code 1 = .ok (.invokeinterface 42 1, 5) := by decide +kernel
theorem d8_6 : decode jdk_38_method_41_code 6 = .ok (.astore_n 2, 1) := by decide +kernel
theorem d8_7 : decode jdk_38_method_41_code 7 = .ok (.aload_n 0, 1) := by decide +kernel
theorem d8_8 : decode jdk_38_method_41_code 8 = .ok (.dup, 1) := by decide +kernel
theorem d8_9 : decode jdk_38_method_41_code 9 = .ok (.getfield 63, 3) := by decide +kernel
theorem d8_12 : decode jdk_38_method_41_code 12 = .ok (.iconst 1, 1) := by decide +kernel
theorem d8_13 : decode jdk_38_method_41_code 13 = .ok (.iadd, 1) := by decide +kernel
theorem d8_14 : decode jdk_38_method_41_code 14 = .ok (.putfield 63, 3) := by decide +kernel
theorem d8_17 : decode jdk_38_method_41_code 17 = .ok (.aload_n 2, 1) := by decide +kernel
theorem d8_18 : decode jdk_38_method_41_code 18 = .ok (.arraylength, 1) := by decide +kernel
theorem d8_19 : decode jdk_38_method_41_code 19 = .ok (.istore_n 3, 1) := by decide +kernel
theorem d8_20 : decode jdk_38_method_41_code 20 = .ok (.iload_n 3, 1) := by decide +kernel
theorem d8_21 : decode jdk_38_method_41_code 21 = .ok (.ifCond .ne 5, 3) := by decide +kernel
theorem d8_24 : decode jdk_38_method_41_code 24 = .ok (.iconst 0, 1) := by decide +kernel
theorem d8_25 : decode jdk_38_method_41_code 25 = .ok (.ireturn, 1) := by decide +kernel
theorem pn8 : plainName "java/util/ArrayList" = true := by first | (simp [plainName, overriddenIn]; done) | decide +kernel
theorem pd8_0 : parseMethodDescriptor "()[Ljava/lang/Object;" = some ⟨[], some (.array (.object "java/lang/Object"))⟩ := by decide +kernel
theorem ef8 (m : MethodId) (x0 : Addr) (x1 : Addr) : entryFrame m #[(.ref x0), (.ref x1)] 6 = mkF m 0 #[.val (.ref x0), .val (.ref x1), .unset, .unset, .unset, .unset] [] := by first | (simp [entryFrame, mkF, argsToLocals, Value.category]; done) | rfl
def own_Q8 (oa : Addr) (h0 : Heap) (n0 : Nat) (v : Option Value) (h : Heap) (L : List Loc) : Prop := v = some (.int (0 : Int32)) ∧ Fr n0 L ∧ Keep h0 h [oa]
set_option maxRecDepth 65536 in
set_option maxHeartbeats 40000000 in
theorem rm8 (l : Launch) (Z : State) (a0 : Array Value) (hw : ∀ d ∈ tables_1, d.before a0 Z = true) (ws : List Jvm.Cond) (oa ob : Addr) (de mr es : Addr) (kde : ClassId) (h0 : Heap) (n0 : Nat) (Z0 : n0 ≤ h0.size) (XO : Old Z n0 h0) (WW : own_W Z de mr es kde) (Ga : own_AL Z h0 oa (0 : Int32) (.ref de) (0 : Int32)) (Gb : own_AL Z h0 ob (0 : Int32) (.ref de) (0 : Int32)) (ne_ab : oa ≠ ob) (g_oa : n0 ≤ oa) :
    MetFree l (⟨"java/util/ArrayList", "addAll", "(Ljava/util/Collection;)Z"⟩ : MethodName) (head1 (Jvm.Cond.code (⟨"java/util/ArrayList", "addAll", "(Ljava/util/Collection;)Z"⟩ : MethodName) jdk_38_method_41_code 6 (some .boolean) :: ws) ({ frames := 4, cells := 1, slots := 0, locals := 72 } : Room)) (fun a U => a = #[(.ref oa), (.ref ob)] ∧ Z.Warmed39 U.vm ∧ U.heap = h0) (fun _ _ _ _ _ => True) (fun _ U o U' => ∃ v L, o = .returned v ∧ own_Q8 oa h0 n0 v U'.heap L ∧ FrameEnd U o U' L ({ frames := 4, cells := 1, slots := 0, locals := 72 } : Room).cells ({ frames := 4, cells := 1, slots := 0, locals := 72 } : Room).slots) := by
  refine MetFree.of_bodySF (plainFor_of_name pn8) hisR ?_
  intro p e s m args below meth c s₁ Bd hml0 hP hK
  obtain ⟨rfl, hZ, hh⟩ := hP
  have hx := Bd.exec
  have hby := Bd.bytes
  have hml : c.maxLocals = 6 := hml0
  have hown : s.vm.findClass "java/util/ArrayList" = some m.cls := findClass_of_methodNamed Bd.named
  have hnm := (name_of_methodNamed Bd.named Bd.method).1
  have hlk : meth.locks = false := Bd.notSynchronized
  have X0 : Stand p l e ({ frames := 4, cells := 1, slots := 0, locals := 72 } : Room) s m #[(.ref oa), (.ref ob)] below meth c s₁ [] 0 0 := Stand.of_body Bd
  have e0 : s₁.heap = h0 := by rw [← hh, Bd.state]; rfl
  have N0 := Fr.nil n0
  refine own_go (fun t k => castTop (ef8 m oa ob) k) ?_
  obtain ⟨⟨cs, hcs, SC⟩, SDE, ADE, EDE, MR, SES, EES⟩ := id WW
  obtain ⟨Ea, Fm, Fe, Fs⟩ := Ga
  show own_Go p e below _ (s₁.setTop (mkF m 0 #[.val (.ref oa), .val (.ref ob), .unset, .unset, .unset, .unset] []))
  refine own_go (fun t k => XS.aloadN X0.here hx rfl (hb hby d8_0) rfl rfl k) ?_
  show own_Go p e below _ (s₁.setTop (mkF m 1 #[.val (.ref oa), .val (.ref ob), .unset, .unset, .unset, .unset] [(.ref ob)]))
  obtain ⟨cq1, kq1, q1a, q1b, q1c⟩ := isOf hZ e0 Gb.1
  obtain ⟨_, _, ⟨T1, L1, k1, n1⟩, -, X1, ⟨Lc1, hQ1, l1, y1, z1⟩, st1⟩ := X0.interfaceBack hx (xi := (⟨"java/util/Collection", "toArray", "()[Ljava/lang/Object;"⟩ : MethodName)) (y := (⟨"java/util/ArrayList", "toArray", "()[Ljava/lang/Object;"⟩ : MethodName)) hown (mvT hZ (hw _ (List.mem_of_getElem? (i := 67) rfl))) (mvT hZ (hw _ (List.mem_of_getElem? (i := 68) rfl))) (mvT hZ (hw _ (List.mem_of_getElem? (i := 69) rfl))) (mvT hZ (hw _ (List.mem_of_getElem? (i := 70) rfl))) (mvT hZ (hw _ (List.mem_of_getElem? (i := 71) rfl))) (mvT hZ (hw _ (List.mem_of_getElem? (i := 72) rfl))) (mvT hZ (hw _ (List.mem_of_getElem? (i := 73) rfl))) (mvT hZ (hw _ (List.mem_of_getElem? (i := 74) rfl))) (by decide) (backOf (W := 0) (rm7 l Z a0 hw [] ob de mr es kde h0 n0 Z0 XO WW Gb) hZ (hw _ (List.mem_of_getElem? (i := 75) rfl)) (hw _ (List.mem_of_getElem? (i := 14) rfl)) (by decide) (by decide)) q1a q1b q1c (g := (mkF m 1 #[.val (.ref oa), .val (.ref ob), .unset, .unset, .unset, .unset] [(.ref ob)])) rfl (by rw [hml]; rfl) (Steps.refl _) (argsL := []) (rest := []) (lenOf pd8_0 rfl) rfl (by show 2 * 0 + _ ≤ _; exact Nat.le_of_eq rfl) (hb hby d8_1) (fun _ _ => ⟨rfl, e0, (by decide : 0 + 1 ≤ _), (by decide : 0 + 0 ≤ _)⟩)
  dsimp only [Pt.U, Pt.locs, Pt.cells, Pt.slots] at X1 l1 y1 z1 st1 hQ1
  subst l1 y1 z1
  obtain ⟨d1, kd1, rfl, Nq1, K1, ge1, A1⟩ := hQ1
  have N1 := Fr.app N0 Nq1
  refine own_go (fun t k => st1.trans k) ?_
  have g_d1 : n0 ≤ d1 := Nat.le_trans Z0 ge1
  have sz_d1 : h0.size ≤ d1 := Nat.le_trans (Keep.refl h0 [oa]).1 ge1
  have ne_ob_d1 : ob ≠ d1 := Nat.ne_of_lt (Nat.lt_of_lt_of_le Gb.1.lt ge1)
  have ne_oa_d1 : oa ≠ d1 := Nat.ne_of_lt (Nat.lt_of_lt_of_le Ea.lt ge1)
  have XO__1 := XO.keep K1 all0
  have Gb__1 := Gb.keep K1 nin0
  have Ea__1 := Ea.keep K1
  have Fm__1 := Fm.keep K1 nin0
  have Fe__1 := Fe.keep K1 nin0
  have Fs__1 := Fs.keep K1 nin0
  have KP1 := (Keep.refl h0 [oa]).trans K1 all0
  have sz1 := Nat.le_trans Z0 K1.1
  show own_Go p e below _ (T1.setTop (mkF m 6 #[.val (.ref oa), .val (.ref ob), .unset, .unset, .unset, .unset] [(.ref d1)]))
  refine own_go (fun t k => XS.astoreN X1.here hx rfl (hb hby d8_6) rfl rfl (l' := #[.val (.ref oa), .val (.ref ob), .val (.ref d1), .unset, .unset, .unset]) rfl k) ?_
  show own_Go p e below _ (T1.setTop (mkF m 7 #[.val (.ref oa), .val (.ref ob), .val (.ref d1), .unset, .unset, .unset] []))
  refine own_go (fun t k => XS.aloadN X1.here hx rfl (hb hby d8_7) rfl rfl k) ?_
  show own_Go p e below _ (T1.setTop (mkF m 8 #[.val (.ref oa), .val (.ref ob), .val (.ref d1), .unset, .unset, .unset] [(.ref oa)]))
  refine own_go (fun t k => XS.dup X1.here hx rfl (hb hby d8_8) rfl rfl k) ?_
  show own_Go p e below _ (T1.setTop (mkF m 9 #[.val (.ref oa), .val (.ref ob), .val (.ref d1), .unset, .unset, .unset] [(.ref oa), (.ref oa)]))
  obtain ⟨T2, X2, e2, st2⟩ := getF X1 hx hZ hown (host := "") (Or.inl (hw _ (List.mem_of_getElem? (i := 102) rfl))) (Via.of (hw _ (List.mem_of_getElem? (i := 103) rfl))) rfl Fm__1 (g := (mkF m 9 #[.val (.ref oa), .val (.ref ob), .val (.ref d1), .unset, .unset, .unset] [(.ref oa), (.ref oa)])) rfl rfl (hb hby d8_9)
  refine own_go (fun t k => st2 t k) ?_
  show own_Go p e below _ (T2.setTop (mkF m 12 #[.val (.ref oa), .val (.ref ob), .val (.ref d1), .unset, .unset, .unset] [(.int (0 : Int32)), (.ref oa)]))
  refine own_go (fun t k => XS.iconst X2.here hx rfl (hb hby d8_12) k) ?_
  show own_Go p e below _ (T2.setTop (mkF m 13 #[.val (.ref oa), .val (.ref ob), .val (.ref d1), .unset, .unset, .unset] [(.int (1 : Int32)), (.int (0 : Int32)), (.ref oa)]))
  refine own_go (fun t k => XS.iadd X2.here hx rfl (hb hby d8_13) rfl k) ?_
  show own_Go p e below _ (T2.setTop (mkF m 14 #[.val (.ref oa), .val (.ref ob), .val (.ref d1), .unset, .unset, .unset] [(.int ((0 : Int32) + (1 : Int32))), (.ref oa)]))
  obtain ⟨T3, h3, X3, e3, W3, st3⟩ := putF X2 hx hZ hown (host := "") (Or.inl (hw _ (List.mem_of_getElem? (i := 102) rfl))) (Via.of (hw _ (List.mem_of_getElem? (i := 103) rfl))) e2 Fm__1 Ea__1 (Or.inl (hw _ (List.mem_of_getElem? (i := 34) rfl))) (hw _ (List.mem_of_getElem? (i := 13) rfl)) (ty := .int) (by decide) rfl rfl (g := (mkF m 14 #[.val (.ref oa), .val (.ref ob), .val (.ref d1), .unset, .unset, .unset] [(.int ((0 : Int32) + (1 : Int32))), (.ref oa)])) rfl rfl (hb hby d8_14)
  have Fw3 := Fm__1.same W3
  have XO__3 := XO__1.wr W3 g_oa
  have Gb__3 := Gb__1.keep (Keep.of_wr W3) (ninS (Ne.symm ne_ab) nin0)
  have Ea__3 := Ea__1.wr W3
  have Fe__3 := Fe__1.other W3 (Or.inr (slot_ne (Or.inl (hw _ (List.mem_of_getElem? (i := 37) rfl))) (Or.inl (hw _ (List.mem_of_getElem? (i := 34) rfl))) (by decide) (t := (.array (.object "java/lang/Object"))) (t' := .int) (by decide) (by decide)))
  have Fs__3 := Fs__1.other W3 (Or.inr (slot_ne (Or.inl (hw _ (List.mem_of_getElem? (i := 77) rfl))) (Or.inl (hw _ (List.mem_of_getElem? (i := 34) rfl))) (by decide) (t := .int) (t' := .int) (by decide) (by decide)))
  have A1__3 := A1.other W3 (Ne.symm ne_oa_d1)
  have N3 := Fr.snoc X3 N1 g_oa
  have KP3 := KP1.wr W3 (Or.inl (List.mem_of_getElem? (i := 0) rfl))
  have sz3 := Nat.le_trans sz1 (Keep.of_wr W3).1
  refine own_go (fun t k => st3 t k) ?_
  show own_Go p e below _ (T3.setTop (mkF m 17 #[.val (.ref oa), .val (.ref ob), .val (.ref d1), .unset, .unset, .unset] []))
  refine own_go (fun t k => XS.aloadN X3.here hx rfl (hb hby d8_17) rfl rfl k) ?_
  show own_Go p e below _ (T3.setTop (mkF m 18 #[.val (.ref oa), .val (.ref ob), .val (.ref d1), .unset, .unset, .unset] [(.ref d1)]))
  obtain ⟨cl4, Ar4, -, Sa4, Na4, -, -⟩ := id A1__3
  have ln4 := len_of Sa4 Na4
  refine own_go (fun t k => X3.arraylength hx (by rw [e3]; exact Ar4.1) (State.isArrayOf_alike hZ.alike Ar4.2.1) (g := (mkF m 18 #[.val (.ref oa), .val (.ref ob), .val (.ref d1), .unset, .unset, .unset] [(.ref d1)])) rfl rfl (hb hby d8_18) t (by rw [ln4]; exact k)) ?_
  show own_Go p e below _ (T3.setTop (mkF m 19 #[.val (.ref oa), .val (.ref ob), .val (.ref d1), .unset, .unset, .unset] [(.int (0 : Int32))]))
  refine own_go (fun t k => XS.istoreN X3.here hx rfl (hb hby d8_19) rfl (l' := #[.val (.ref oa), .val (.ref ob), .val (.ref d1), .val (.int (0 : Int32)), .unset, .unset]) rfl k) ?_
  show own_Go p e below _ (T3.setTop (mkF m 20 #[.val (.ref oa), .val (.ref ob), .val (.ref d1), .val (.int (0 : Int32)), .unset, .unset] []))
  refine own_go (fun t k => XS.iloadN X3.here hx rfl (hb hby d8_20) rfl k) ?_
  show own_Go p e below _ (T3.setTop (mkF m 21 #[.val (.ref oa), .val (.ref ob), .val (.ref d1), .val (.int (0 : Int32)), .unset, .unset] [(.int (0 : Int32))]))
  refine own_go (fun t k => XS.ifNo X3.here hx rfl (hb hby d8_21) rfl ((if0 _ _).trans (teq (by decide : (0 : Int32) = (0 : Int32))).2) k) ?_
  show own_Go p e below _ (T3.setTop (mkF m 24 #[.val (.ref oa), .val (.ref ob), .val (.ref d1), .val (.int (0 : Int32)), .unset, .unset] []))
  refine own_go (fun t k => XS.iconst X3.here hx rfl (hb hby d8_24) k) ?_
  show own_Go p e below _ (T3.setTop (mkF m 25 #[.val (.ref oa), .val (.ref ob), .val (.ref d1), .val (.int (0 : Int32)), .unset, .unset] [(.int (0 : Int32))]))
  exact own_retN X3 hx (t := .boolean) Bd.returns (by simp) (hb hby d8_25) (by rw [e3]; exact ⟨rfl, N3, KP3⟩) (by decide) (by decide)
theorem d9_0 : decode prog_90_method_1_code 0 = .ok (.aload_n 0, 1) := by decide +kernel
theorem d9_1 : decode prog_90_method_1_code 1 = .ok (.invokespecial 1, 3) := by decide +kernel
theorem d9_4 : decode prog_90_method_1_code 4 = .ok (.aload_n 0, 1) := by decide +kernel
theorem d9_5 : decode prog_90_method_1_code 5 = .ok (.new 7, 3) := by decide +kernel
theorem d9_8 : decode prog_90_method_1_code 8 = .ok (.dup, 1) := by decide +kernel
theorem d9_9 : decode prog_90_method_1_code 9 = .ok (.invokespecial 9, 3) := by decide +kernel
theorem d9_12 : decode prog_90_method_1_code 12 = .ok (.putfield 10, 3) := by decide +kernel
theorem d9_15 : decode prog_90_method_1_code 15 = .ok (.aload_n 0, 1) := by decide +kernel
theorem d9_16 : decode prog_90_method_1_code 16 = .ok (.new 7, 3) := by decide +kernel
theorem d9_19 : decode prog_90_method_1_code 19 = .ok (.dup, 1) := by decide +kernel
theorem d9_20 : decode prog_90_method_1_code 20 = .ok (.invokespecial 9, 3) := by decide +kernel
theorem d9_23 : decode prog_90_method_1_code 23 = .ok (.putfield 16, 3) := by decide +kernel
theorem d9_26 : decode prog_90_method_1_code 26 = .ok (.aload_n 0, 1) := by decide +kernel
theorem d9_27 : decode prog_90_method_1_code 27 = .ok (.aload_n 1, 1) := by decide +kernel
theorem d9_28 : decode prog_90_method_1_code 28 = .ok (.putfield 19, 3) := by decide +kernel
theorem d9_31 : decode prog_90_method_1_code 31 = .ok (.aload_n 0, 1) := by decide +kernel
theorem d9_32 : decode prog_90_method_1_code 32 = .ok (.iload_n 2, 1) := by decide +kernel
theorem d9_33 : decode prog_90_method_1_code 33 = .ok (.putfield 23, 3) := by decide +kernel
theorem d9_36 : decode prog_90_method_1_code 36 = .ok (.return_, 1) := by decide +kernel
theorem pn9 : plainName "com/example/convoke/convoke/icalendar/Component" = true := by first | (simp [plainName, overriddenIn]; done) | decide +kernel
theorem pd9_0 : parseMethodDescriptor "()V" = some ⟨[], none⟩ := by decide +kernel
theorem ef9 (m : MethodId) (x0 : Addr) (x1 : Value) (x2 : Int32) (r_x1 : x1.isRef = true) : entryFrame m #[(.ref x0), x1, (.int x2)] 3 = mkF m 0 #[.val (.ref x0), .val x1, .val (.int x2)] [] := by
  have c_x1 := own_cat1 r_x1
  simp [entryFrame, mkF, argsToLocals, own_catR, own_catI, own_catJ, own_catN, c_x1]
def own_Q9 (Z : State) (oa de : Addr) (h0 : Heap) (n0 : Nat) (v : Option Value) (h : Heap) (L : List Loc) : Prop := ∃ (l1 l2 : Addr) (w : Value), v = none ∧ Fr n0 L ∧ Keep h0 h [oa] ∧ own_CP Z h oa (.ref l1) (.ref l2) w (0 : Int32) ∧ h0.size ≤ l1 ∧ h0.size ≤ l2 ∧ l1 ≠ l2 ∧ own_AL Z h l1 (0 : Int32) (.ref de) (0 : Int32) ∧ own_AL Z h l2 (0 : Int32) (.ref de) (0 : Int32)
set_option maxRecDepth 65536 in
set_option maxHeartbeats 40000000 in
theorem rm9 (l : Launch) (Z : State) (a0 : Array Value) (hw : ∀ d ∈ tables_1, d.before a0 Z = true) (ws : List Jvm.Cond) (oa : Addr) (nv : Value) (de mr es : Addr) (kde : ClassId) (h0 : Heap) (n0 : Nat) (Z0 : n0 ≤ h0.size) (G : own_CP Z h0 oa .null .null .null (0 : Int32)) (g_oa : n0 ≤ oa) (r_nv : nv.isRef = true) (XO : Old Z n0 h0) (WW : own_W Z de mr es kde) :
    MetFree l (⟨"com/example/convoke/convoke/icalendar/Component", "<init>", "(Ljava/lang/String;I)V"⟩ : MethodName) (head1 (Jvm.Cond.code (⟨"com/example/convoke/convoke/icalendar/Component", "<init>", "(Ljava/lang/String;I)V"⟩ : MethodName) prog_90_method_1_code 3 none :: ws) ({ frames := 4, cells := 2, slots := 6, locals := 50 } : Room)) (fun a U => a = #[(.ref oa), nv, (.int (0 : Int32))] ∧ Z.Warmed39 U.vm ∧ U.heap = h0) (fun _ _ _ _ _ => True) (fun _ U o U' => ∃ v L, o = .returned v ∧ own_Q9 Z oa de h0 n0 v U'.heap L ∧ FrameEnd U o U' L ({ frames := 4, cells := 2, slots := 6, locals := 50 } : Room).cells ({ frames := 4, cells := 2, slots := 6, locals := 50 } : Room).slots) := by
  refine MetFree.of_bodySF (plainFor_of_name pn9) hisR ?_
  intro p e s m args below meth c s₁ Bd hml0 hP hK
  obtain ⟨rfl, hZ, hh⟩ := hP
  have hx := Bd.exec
  have hby := Bd.bytes
  have hml : c.maxLocals = 3 := hml0
  have hown : s.vm.findClass "com/example/convoke/convoke/icalendar/Component" = some m.cls := findClass_of_methodNamed Bd.named
  have hnm := (name_of_methodNamed Bd.named Bd.method).1
  have hlk : meth.locks = false := Bd.notSynchronized
  have X0 : Stand p l e ({ frames := 4, cells := 2, slots := 6, locals := 50 } : Room) s m #[(.ref oa), nv, (.int (0 : Int32))] below meth c s₁ [] 0 0 := Stand.of_body Bd
  have e0 : s₁.heap = h0 := by rw [← hh, Bd.state]; rfl
  have N0 := Fr.nil n0
  refine own_go (fun t k => castTop (ef9 m oa nv (0 : Int32) r_nv) k) ?_
  obtain ⟨⟨cs, hcs, SC⟩, SDE, ADE, EDE, MR, SES, EES⟩ := id WW
  obtain ⟨Ea, Fproperties, Fcomponents, Fname, Fline⟩ := G
  show own_Go p e below _ (s₁.setTop (mkF m 0 #[.val (.ref oa), .val nv, .val (.int (0 : Int32))] []))
  refine own_go (fun t k => XS.aloadN X0.here hx rfl (hb hby d9_0) rfl rfl k) ?_
  show own_Go p e below _ (s₁.setTop (mkF m 1 #[.val (.ref oa), .val nv, .val (.int (0 : Int32))] [(.ref oa)]))
  obtain ⟨T2, X2, e2, st2⟩ := initO X0 hx hZ hown (hw _ (List.mem_of_getElem? (i := 47) rfl)) (hw _ (List.mem_of_getElem? (i := 31) rfl)) (hw _ (List.mem_of_getElem? (i := 32) rfl)) e0 (g := (mkF m 1 #[.val (.ref oa), .val nv, .val (.int (0 : Int32))] [(.ref oa)])) rfl (by rw [hml]; rfl) rfl (hb hby d9_1) (by decide) (W := 0) (by show 2 * 0 + _ ≤ _; exact Nat.le_of_eq rfl) (by decide)
  refine own_go (fun t k => st2 t k) ?_
  show own_Go p e below _ (T2.setTop (mkF m 4 #[.val (.ref oa), .val nv, .val (.int (0 : Int32))] []))
  refine own_go (fun t k => XS.aloadN X2.here hx rfl (hb hby d9_4) rfl rfl k) ?_
  show own_Go p e below _ (T2.setTop (mkF m 5 #[.val (.ref oa), .val nv, .val (.int (0 : Int32))] [(.ref oa)]))
  obtain ⟨T3, h3, X3, e3, E3, A3, D3, -, st3⟩ := newO X2 hx hZ hown (hw _ (List.mem_of_getElem? (i := 48) rfl)) (hw _ (List.mem_of_getElem? (i := 13) rfl)) (hw _ (List.mem_of_getElem? (i := 14) rfl)) e2 (g := (mkF m 5 #[.val (.ref oa), .val nv, .val (.int (0 : Int32))] [(.ref oa)])) rfl (hb hby d9_5) (by decide) (by decide)
  obtain ⟨b3, g3⟩ : ∃ z, z = h0.size := ⟨_, rfl⟩
  rw [← g3] at A3 D3 st3
  have g_b3 : n0 ≤ b3 := Nat.le_trans Z0 (Nat.le_of_eq g3.symm)
  have sz_b3 : h0.size ≤ b3 := Nat.le_trans (Keep.refl h0 [oa]).1 (Nat.le_of_eq g3.symm)
  have ne_oa_b3 : oa ≠ b3 := Nat.ne_of_lt (Nat.lt_of_lt_of_le Ea.lt (Nat.le_of_eq g3.symm))
  have XO__3 := XO.ext E3
  have Ea__3 := Ea.ext E3
  have Fproperties__3 := Fproperties.ext E3
  have Fcomponents__3 := Fcomponents.ext E3
  have Fname__3 := Fname.ext E3
  have Fline__3 := Fline.ext E3
  have sz3 := Nat.le_trans Z0 E3.1
  have KP3 := (Keep.refl h0 [oa]).ext E3
  have F3_modCount : Fld Z h3 b3 "java/util/AbstractList" "modCount" "I" (.int (0 : Int32)) := D3 (Or.inl (hw _ (List.mem_of_getElem? (i := 34) rfl))) (ty := .int) (by decide)
  have F3_elementData : Fld Z h3 b3 "java/util/ArrayList" "elementData" "[Ljava/lang/Object;" .null := D3 (Or.inl (hw _ (List.mem_of_getElem? (i := 37) rfl))) (ty := (.array (.object "java/lang/Object"))) (by decide)
  have F3_size : Fld Z h3 b3 "java/util/ArrayList" "size" "I" (.int (0 : Int32)) := D3 (Or.inl (hw _ (List.mem_of_getElem? (i := 77) rfl))) (ty := .int) (by decide)
  refine own_go (fun t k => st3 t k) ?_
  show own_Go p e below _ (T3.setTop (mkF m 8 #[.val (.ref oa), .val nv, .val (.int (0 : Int32))] [(.ref b3), (.ref oa)]))
  refine own_go (fun t k => XS.dup X3.here hx rfl (hb hby d9_8) rfl rfl k) ?_
  show own_Go p e below _ (T3.setTop (mkF m 9 #[.val (.ref oa), .val nv, .val (.int (0 : Int32))] [(.ref b3), (.ref b3), (.ref oa)]))
  obtain ⟨_, _, ⟨T4, L4, k4, n4⟩, -, X4, ⟨Lc4, hQ4, l4, y4, z4⟩, st4⟩ := X3.specialBack hx (y := (⟨"java/util/ArrayList", "<init>", "()V"⟩ : MethodName)) rfl hown (mvT hZ (hw _ (List.mem_of_getElem? (i := 49) rfl))) (mvT hZ (hw _ (List.mem_of_getElem? (i := 16) rfl))) (mvT hZ (hw _ (List.mem_of_getElem? (i := 17) rfl))) (by decide) (backOf (W := 2) (rm3 l Z a0 hw [] b3 de mr es kde h3 n0 sz3 ⟨A3, F3_modCount, F3_elementData, F3_size⟩ g_b3 XO__3 WW) hZ (hw _ (List.mem_of_getElem? (i := 17) rfl)) (hw _ (List.mem_of_getElem? (i := 14) rfl)) (by decide) (by decide)) (g := (mkF m 9 #[.val (.ref oa), .val nv, .val (.int (0 : Int32))] [(.ref b3), (.ref b3), (.ref oa)])) rfl (by rw [hml]; rfl) (Steps.refl _) (a := b3) (argsL := []) (rest := [(.ref b3), (.ref oa)]) (lenOf pd9_0 rfl) rfl (by show 2 * 0 + _ ≤ _; exact Nat.le_of_eq rfl) (hb hby d9_9) (fun _ _ => ⟨rfl, e3, (by decide : 0 + 1 + 0 ≤ _), (by decide : 0 + 3 + 0 ≤ _)⟩)
  dsimp only [Pt.U, Pt.locs, Pt.cells, Pt.slots] at X4 l4 y4 z4 st4 hQ4
  subst l4 y4 z4
  obtain ⟨rfl, Nq4, K4, G4⟩ := hQ4
  have N4 := Fr.app N0 Nq4
  refine own_go (fun t k => st4.trans k) ?_
  have XO__4 := XO__3.keep K4 (allS g_b3 all0)
  have Ea__4 := Ea__3.keep K4
  have Fproperties__4 := Fproperties__3.keep K4 (ninS ne_oa_b3 nin0)
  have Fcomponents__4 := Fcomponents__3.keep K4 (ninS ne_oa_b3 nin0)
  have Fname__4 := Fname__3.keep K4 (ninS ne_oa_b3 nin0)
  have Fline__4 := Fline__3.keep K4 (ninS ne_oa_b3 nin0)
  have A3__4 := A3.keep K4
  have KP4 := KP3.trans K4 (allS (Or.inr sz_b3) all0)
  have sz4 := Nat.le_trans sz3 K4.1
  show own_Go p e below _ (T4.setTop (mkF m 12 #[.val (.ref oa), .val nv, .val (.int (0 : Int32))] [(.ref b3), (.ref oa)]))
  obtain ⟨T5, h5, X5, e5, W5, st5⟩ := putF X4 hx hZ hown (host := "") (Or.inl (hw _ (List.mem_of_getElem? (i := 50) rfl))) Via.refl rfl Fproperties__4 Ea__4 (Or.inr ⟨(hw _ (List.mem_of_getElem? (i := 51) rfl)), rfl, hnm⟩) (hw _ (List.mem_of_getElem? (i := 43) rfl)) (ty := (.object "java/util/List")) (by decide) rfl rfl (g := (mkF m 12 #[.val (.ref oa), .val nv, .val (.int (0 : Int32))] [(.ref b3), (.ref oa)])) rfl rfl (hb hby d9_12)
  have Fw5 := Fproperties__4.same W5
  have XO__5 := XO__4.wr W5 g_oa
  have Ea__5 := Ea__4.wr W5
  have Fcomponents__5 := Fcomponents__4.other W5 (Or.inr (slot_ne (Or.inr (hw _ (List.mem_of_getElem? (i := 53) rfl))) (Or.inr (hw _ (List.mem_of_getElem? (i := 51) rfl))) (by decide) (t := (.object "java/util/List")) (t' := (.object "java/util/List")) (by decide) (by decide)))
  have Fname__5 := Fname__4.other W5 (Or.inr (slot_ne (Or.inr (hw _ (List.mem_of_getElem? (i := 55) rfl))) (Or.inr (hw _ (List.mem_of_getElem? (i := 51) rfl))) (by decide) (t := (.object "java/lang/String")) (t' := (.object "java/util/List")) (by decide) (by decide)))
  have Fline__5 := Fline__4.other W5 (Or.inr (slot_ne (Or.inr (hw _ (List.mem_of_getElem? (i := 57) rfl))) (Or.inr (hw _ (List.mem_of_getElem? (i := 51) rfl))) (by decide) (t := .int) (t' := (.object "java/util/List")) (by decide) (by decide)))
  have G4__5 := G4.keep (Keep.of_wr W5) (ninS (Ne.symm ne_oa_b3) nin0)
  have N5 := Fr.snoc X5 N4 g_oa
  have KP5 := KP4.wr W5 (Or.inl (List.mem_of_getElem? (i := 0) rfl))
  have sz5 := Nat.le_trans sz4 (Keep.of_wr W5).1
  refine own_go (fun t k => st5 t k) ?_
  show own_Go p e below _ (T5.setTop (mkF m 15 #[.val (.ref oa), .val nv, .val (.int (0 : Int32))] []))
  refine own_go (fun t k => XS.aloadN X5.here hx rfl (hb hby d9_15) rfl rfl k) ?_
  show own_Go p e below _ (T5.setTop (mkF m 16 #[.val (.ref oa), .val nv, .val (.int (0 : Int32))] [(.ref oa)]))
  obtain ⟨T6, h6, X6, e6, E6, A6, D6, -, st6⟩ := newO X5 hx hZ hown (hw _ (List.mem_of_getElem? (i := 48) rfl)) (hw _ (List.mem_of_getElem? (i := 13) rfl)) (hw _ (List.mem_of_getElem? (i := 14) rfl)) e5 (g := (mkF m 16 #[.val (.ref oa), .val nv, .val (.int (0 : Int32))] [(.ref oa)])) rfl (hb hby d9_16) (by decide) (by decide)
  obtain ⟨b6, g6⟩ : ∃ z, z = h5.size := ⟨_, rfl⟩
  rw [← g6] at A6 D6 st6
  have g_b6 : n0 ≤ b6 := Nat.le_trans sz5 (Nat.le_of_eq g6.symm)
  have sz_b6 : h0.size ≤ b6 := Nat.le_trans KP5.1 (Nat.le_of_eq g6.symm)
  have ne_oa_b6 : oa ≠ b6 := Nat.ne_of_lt (Nat.lt_of_lt_of_le Ea__5.lt (Nat.le_of_eq g6.symm))
  have ne_b3_b6 : b3 ≠ b6 := Nat.ne_of_lt (Nat.lt_of_lt_of_le G4__5.1.lt (Nat.le_of_eq g6.symm))
  have XO__6 := XO__5.ext E6
  have Ea__6 := Ea__5.ext E6
  have Fw5__6 := Fw5.ext E6
  have Fcomponents__6 := Fcomponents__5.ext E6
  have Fname__6 := Fname__5.ext E6
  have Fline__6 := Fline__5.ext E6
  have G4__6 := G4__5.ext E6
  have sz6 := Nat.le_trans sz5 E6.1
  have KP6 := KP5.ext E6
  have F6_modCount : Fld Z h6 b6 "java/util/AbstractList" "modCount" "I" (.int (0 : Int32)) := D6 (Or.inl (hw _ (List.mem_of_getElem? (i := 34) rfl))) (ty := .int) (by decide)
  have F6_elementData : Fld Z h6 b6 "java/util/ArrayList" "elementData" "[Ljava/lang/Object;" .null := D6 (Or.inl (hw _ (List.mem_of_getElem? (i := 37) rfl))) (ty := (.array (.object "java/lang/Object"))) (by decide)
  have F6_size : Fld Z h6 b6 "java/util/ArrayList" "size" "I" (.int (0 : Int32)) := D6 (Or.inl (hw _ (List.mem_of_getElem? (i := 77) rfl))) (ty := .int) (by decide)
  refine own_go (fun t k => st6 t k) ?_
  show own_Go p e below _ (T6.setTop (mkF m 19 #[.val (.ref oa), .val nv, .val (.int (0 : Int32))] [(.ref b6), (.ref oa)]))
  refine own_go (fun t k => XS.dup X6.here hx rfl (hb hby d9_19) rfl rfl k) ?_
  show own_Go p e below _ (T6.setTop (mkF m 20 #[.val (.ref oa), .val nv, .val (.int (0 : Int32))] [(.ref b6), (.ref b6), (.ref oa)]))
  obtain ⟨_, _, ⟨T7, L7, k7, n7⟩, -, X7, ⟨Lc7, hQ7, l7, y7, z7⟩, st7⟩ := X6.specialBack hx (y := (⟨"java/util/ArrayList", "<init>", "()V"⟩ : MethodName)) rfl hown (mvT hZ (hw _ (List.mem_of_getElem? (i := 49) rfl))) (mvT hZ (hw _ (List.mem_of_getElem? (i := 16) rfl))) (mvT hZ (hw _ (List.mem_of_getElem? (i := 17) rfl))) (by decide) (backOf (W := 2) (rm3 l Z a0 hw [] b6 de mr es kde h6 n0 sz6 ⟨A6, F6_modCount, F6_elementData, F6_size⟩ g_b6 XO__6 WW) hZ (hw _ (List.mem_of_getElem? (i := 17) rfl)) (hw _ (List.mem_of_getElem? (i := 14) rfl)) (by decide) (by decide)) (g := (mkF m 20 #[.val (.ref oa), .val nv, .val (.int (0 : Int32))] [(.ref b6), (.ref b6), (.ref oa)])) rfl (by rw [hml]; rfl) (Steps.refl _) (a := b6) (argsL := []) (rest := [(.ref b6), (.ref oa)]) (lenOf pd9_0 rfl) rfl (by show 2 * 0 + _ ≤ _; exact Nat.le_of_eq rfl) (hb hby d9_20) (fun _ _ => ⟨rfl, e6, (by decide : 0 + 1 + 1 + 0 ≤ _), (by decide : 0 + 3 + 3 + 0 ≤ _)⟩)
  dsimp only [Pt.U, Pt.locs, Pt.cells, Pt.slots] at X7 l7 y7 z7 st7 hQ7
  subst l7 y7 z7
  obtain ⟨rfl, Nq7, K7, G7⟩ := hQ7
  have N7 := Fr.app N5 Nq7
  refine own_go (fun t k => st7.trans k) ?_
  have XO__7 := XO__6.keep K7 (allS g_b6 all0)
  have Ea__7 := Ea__6.keep K7
  have Fw5__7 := Fw5__6.keep K7 (ninS ne_oa_b6 nin0)
  have Fcomponents__7 := Fcomponents__6.keep K7 (ninS ne_oa_b6 nin0)
  have Fname__7 := Fname__6.keep K7 (ninS ne_oa_b6 nin0)
  have Fline__7 := Fline__6.keep K7 (ninS ne_oa_b6 nin0)
  have G4__7 := G4__6.keep K7 (ninS ne_b3_b6 nin0)
  have A6__7 := A6.keep K7
  have KP7 := KP6.trans K7 (allS (Or.inr sz_b6) all0)
  have sz7 := Nat.le_trans sz6 K7.1
  show own_Go p e below _ (T7.setTop (mkF m 23 #[.val (.ref oa), .val nv, .val (.int (0 : Int32))] [(.ref b6), (.ref oa)]))
  obtain ⟨T8, h8, X8, e8, W8, st8⟩ := putF X7 hx hZ hown (host := "") (Or.inl (hw _ (List.mem_of_getElem? (i := 52) rfl))) Via.refl rfl Fcomponents__7 Ea__7 (Or.inr ⟨(hw _ (List.mem_of_getElem? (i := 53) rfl)), rfl, hnm⟩) (hw _ (List.mem_of_getElem? (i := 43) rfl)) (ty := (.object "java/util/List")) (by decide) rfl rfl (g := (mkF m 23 #[.val (.ref oa), .val nv, .val (.int (0 : Int32))] [(.ref b6), (.ref oa)])) rfl rfl (hb hby d9_23)
  have Fw8 := Fcomponents__7.same W8
  have XO__8 := XO__7.wr W8 g_oa
  have Ea__8 := Ea__7.wr W8
  have Fw5__8 := Fw5__7.other W8 (Or.inr (slot_ne (Or.inr (hw _ (List.mem_of_getElem? (i := 51) rfl))) (Or.inr (hw _ (List.mem_of_getElem? (i := 53) rfl))) (by decide) (t := (.object "java/util/List")) (t' := (.object "java/util/List")) (by decide) (by decide)))
  have Fname__8 := Fname__7.other W8 (Or.inr (slot_ne (Or.inr (hw _ (List.mem_of_getElem? (i := 55) rfl))) (Or.inr (hw _ (List.mem_of_getElem? (i := 53) rfl))) (by decide) (t := (.object "java/lang/String")) (t' := (.object "java/util/List")) (by decide) (by decide)))
  have Fline__8 := Fline__7.other W8 (Or.inr (slot_ne (Or.inr (hw _ (List.mem_of_getElem? (i := 57) rfl))) (Or.inr (hw _ (List.mem_of_getElem? (i := 53) rfl))) (by decide) (t := .int) (t' := (.object "java/util/List")) (by decide) (by decide)))
  have G4__8 := G4__7.keep (Keep.of_wr W8) (ninS (Ne.symm ne_oa_b3) nin0)
  have G7__8 := G7.keep (Keep.of_wr W8) (ninS (Ne.symm ne_oa_b6) nin0)
  have N8 := Fr.snoc X8 N7 g_oa
  have KP8 := KP7.wr W8 (Or.inl (List.mem_of_getElem? (i := 0) rfl))
  have sz8 := Nat.le_trans sz7 (Keep.of_wr W8).1
  refine own_go (fun t k => st8 t k) ?_
  show own_Go p e below _ (T8.setTop (mkF m 26 #[.val (.ref oa), .val nv, .val (.int (0 : Int32))] []))
  refine own_go (fun t k => XS.aloadN X8.here hx rfl (hb hby d9_26) rfl rfl k) ?_
  show own_Go p e below _ (T8.setTop (mkF m 27 #[.val (.ref oa), .val nv, .val (.int (0 : Int32))] [(.ref oa)]))
  refine own_go (fun t k => XS.aloadN X8.here hx rfl (hb hby d9_27) rfl r_nv k) ?_
  show own_Go p e below _ (T8.setTop (mkF m 28 #[.val (.ref oa), .val nv, .val (.int (0 : Int32))] [nv, (.ref oa)]))
  obtain ⟨T9, h9, X9, e9, W9, st9⟩ := putF X8 hx hZ hown (host := "") (Or.inl (hw _ (List.mem_of_getElem? (i := 54) rfl))) Via.refl e8 Fname__8 Ea__8 (Or.inr ⟨(hw _ (List.mem_of_getElem? (i := 55) rfl)), rfl, hnm⟩) (hw _ (List.mem_of_getElem? (i := 43) rfl)) (ty := (.object "java/lang/String")) (by decide) rfl (own_fits r_nv rfl) (g := (mkF m 28 #[.val (.ref oa), .val nv, .val (.int (0 : Int32))] [nv, (.ref oa)])) rfl rfl (hb hby d9_28)
  have Fw9 := Fname__8.same W9
  have XO__9 := XO__8.wr W9 g_oa
  have Ea__9 := Ea__8.wr W9
  have Fw5__9 := Fw5__8.other W9 (Or.inr (slot_ne (Or.inr (hw _ (List.mem_of_getElem? (i := 51) rfl))) (Or.inr (hw _ (List.mem_of_getElem? (i := 55) rfl))) (by decide) (t := (.object "java/util/List")) (t' := (.object "java/lang/String")) (by decide) (by decide)))
  have Fw8__9 := Fw8.other W9 (Or.inr (slot_ne (Or.inr (hw _ (List.mem_of_getElem? (i := 53) rfl))) (Or.inr (hw _ (List.mem_of_getElem? (i := 55) rfl))) (by decide) (t := (.object "java/util/List")) (t' := (.object "java/lang/String")) (by decide) (by decide)))
  have Fline__9 := Fline__8.other W9 (Or.inr (slot_ne (Or.inr (hw _ (List.mem_of_getElem? (i := 57) rfl))) (Or.inr (hw _ (List.mem_of_getElem? (i := 55) rfl))) (by decide) (t := .int) (t' := (.object "java/lang/String")) (by decide) (by decide)))
  have G4__9 := G4__8.keep (Keep.of_wr W9) (ninS (Ne.symm ne_oa_b3) nin0)
  have G7__9 := G7__8.keep (Keep.of_wr W9) (ninS (Ne.symm ne_oa_b6) nin0)
  have N9 := Fr.snoc X9 N8 g_oa
  have KP9 := KP8.wr W9 (Or.inl (List.mem_of_getElem? (i := 0) rfl))
  have sz9 := Nat.le_trans sz8 (Keep.of_wr W9).1
  refine own_go (fun t k => st9 t k) ?_
  show own_Go p e below _ (T9.setTop (mkF m 31 #[.val (.ref oa), .val nv, .val (.int (0 : Int32))] []))
  refine own_go (fun t k => XS.aloadN X9.here hx rfl (hb hby d9_31) rfl rfl k) ?_
  show own_Go p e below _ (T9.setTop (mkF m 32 #[.val (.ref oa), .val nv, .val (.int (0 : Int32))] [(.ref oa)]))
  refine own_go (fun t k => XS.iloadN X9.here hx rfl (hb hby d9_32) rfl k) ?_
  show own_Go p e below _ (T9.setTop (mkF m 33 #[.val (.ref oa), .val nv, .val (.int (0 : Int32))] [(.int (0 : Int32)), (.ref oa)]))
  obtain ⟨T10, h10, X10, e10, W10, st10⟩ := putF X9 hx hZ hown (host := "") (Or.inl (hw _ (List.mem_of_getElem? (i := 56) rfl))) Via.refl e9 Fline__9 Ea__9 (Or.inr ⟨(hw _ (List.mem_of_getElem? (i := 57) rfl)), rfl, hnm⟩) (hw _ (List.mem_of_getElem? (i := 43) rfl)) (ty := .int) (by decide) rfl rfl (g := (mkF m 33 #[.val (.ref oa), .val nv, .val (.int (0 : Int32))] [(.int (0 : Int32)), (.ref oa)])) rfl rfl (hb hby d9_33)
  have Fw10 := Fline__9.same W10
  have XO__10 := XO__9.wr W10 g_oa
  have Ea__10 := Ea__9.wr W10
  have Fw5__10 := Fw5__9.other W10 (Or.inr (slot_ne (Or.inr (hw _ (List.mem_of_getElem? (i := 51) rfl))) (Or.inr (hw _ (List.mem_of_getElem? (i := 57) rfl))) (by decide) (t := (.object "java/util/List")) (t' := .int) (by decide) (by decide)))
  have Fw8__10 := Fw8__9.other W10 (Or.inr (slot_ne (Or.inr (hw _ (List.mem_of_getElem? (i := 53) rfl))) (Or.inr (hw _ (List.mem_of_getElem? (i := 57) rfl))) (by decide) (t := (.object "java/util/List")) (t' := .int) (by decide) (by decide)))
  have Fw9__10 := Fw9.other W10 (Or.inr (slot_ne (Or.inr (hw _ (List.mem_of_getElem? (i := 55) rfl))) (Or.inr (hw _ (List.mem_of_getElem? (i := 57) rfl))) (by decide) (t := (.object "java/lang/String")) (t' := .int) (by decide) (by decide)))
  have G4__10 := G4__9.keep (Keep.of_wr W10) (ninS (Ne.symm ne_oa_b3) nin0)
  have G7__10 := G7__9.keep (Keep.of_wr W10) (ninS (Ne.symm ne_oa_b6) nin0)
  have N10 := Fr.snoc X10 N9 g_oa
  have KP10 := KP9.wr W10 (Or.inl (List.mem_of_getElem? (i := 0) rfl))
  have sz10 := Nat.le_trans sz9 (Keep.of_wr W10).1
  refine own_go (fun t k => st10 t k) ?_
  show own_Go p e below _ (T10.setTop (mkF m 36 #[.val (.ref oa), .val nv, .val (.int (0 : Int32))] []))
  exact own_ret0 X10 hx Bd.returns (hb hby d9_36) (by rw [e10]; exact ⟨_, _, _, rfl, N10, KP10, ⟨Ea__10, Fw5__10, Fw8__10, Fw9__10, Fw10⟩, sz_b3, sz_b6, ne_b3_b6, G4__10, G7__10⟩) (by decide) (by decide)
theorem d10_0 : decode prog_90_method_2_code 0 = .ok (.new 11, 3) := by decide +kernel
theorem d10_3 : decode prog_90_method_2_code 3 = .ok (.dup, 1) := by decide +kernel
theorem d10_4 : decode prog_90_method_2_code 4 = .ok (.aload_n 0, 1) := by decide +kernel
theorem d10_5 : decode prog_90_method_2_code 5 = .ok (.iconst 0, 1) := by decide +kernel
theorem d10_6 : decode prog_90_method_2_code 6 = .ok (.invokespecial 27, 3) := by decide +kernel
theorem d10_9 : decode prog_90_method_2_code 9 = .ok (.astore_n 3, 1) := by decide +kernel
theorem d10_10 : decode prog_90_method_2_code 10 = .ok (.aload_n 3, 1) := by decide +kernel
theorem d10_11 : decode prog_90_method_2_code 11 = .ok (.getfield 10, 3) := by decide +kernel
theorem d10_14 : decode prog_90_method_2_code 14 = .ok (.aload_n 1, 1) := by decide +kernel
theorem d10_15 : decode prog_90_method_2_code 15 = .ok (.invokeinterface 30 2, 5) := by decide +kernel
theorem d10_20 : decode prog_90_method_2_code 20 = .ok (.pop, 1) := by decide +kernel
theorem d10_21 : decode prog_90_method_2_code 21 = .ok (.aload_n 3, 1) := by decide +kernel
theorem d10_22 : decode prog_90_method_2_code 22 = .ok (.getfield 16, 3) := by decide +kernel
theorem d10_25 : decode prog_90_method_2_code 25 = .ok (.aload_n 2, 1) := by decide +kernel
theorem d10_26 : decode prog_90_method_2_code 26 = .ok (.invokeinterface 30 2, 5) := by decide +kernel
theorem d10_31 : decode prog_90_method_2_code 31 = .ok (.pop, 1) := by decide +kernel
theorem d10_32 : decode prog_90_method_2_code 32 = .ok (.aload_n 3, 1) := by decide +kernel
theorem d10_33 : decode prog_90_method_2_code 33 = .ok (.areturn, 1) := by decide +kernel
theorem pn10 : plainName "com/example/convoke/convoke/icalendar/Component" = true := by first | (simp [plainName, overriddenIn]; done) | decide +kernel
theorem pd10_0 : parseMethodDescriptor "(Ljava/lang/String;I)V" = some ⟨[(.object "java/lang/String"), .int], none⟩ := by decide +kernel
theorem pd10_1 : parseMethodDescriptor "(Ljava/util/Collection;)Z" = some ⟨[(.object "java/util/Collection")], some .boolean⟩ := by decide +kernel
theorem ef10 (m : MethodId) (x0 : Value) (x1 : Addr) (x2 : Addr) (r_x0 : x0.isRef = true) : entryFrame m #[x0, (.ref x1), (.ref x2)] 4 = mkF m 0 #[.val x0, .val (.ref x1), .val (.ref x2), .unset] [] := by
  have c_x0 := own_cat1 r_x0
  simp [entryFrame, mkF, argsToLocals, own_catR, own_catI, own_catJ, own_catN, c_x0]
def own_QB (h0 : Heap) (n0 : Nat) (v : Option Value) (h : Heap) (L : List Loc) : Prop := ∃ b : Addr, v = some (.ref b) ∧ Fr n0 L ∧ Keep h0 h [] ∧ h0.size ≤ b
set_option maxRecDepth 65536 in
set_option maxHeartbeats 40000000 in
theorem rm10 (l : Launch) (Z : State) (a0 : Array Value) (hw : ∀ d ∈ tables_1, d.before a0 Z = true) (ws : List Jvm.Cond) (nv : Value) (p1 p2 : Addr) (de mr es : Addr) (kde : ClassId) (h0 : Heap) (n0 : Nat) (Z0 : n0 ≤ h0.size) (r_nv : nv.isRef = true) (GP1 : own_AL Z h0 p1 (0 : Int32) (.ref de) (0 : Int32)) (GP2 : own_AL Z h0 p2 (0 : Int32) (.ref de) (0 : Int32)) (XO : Old Z n0 h0) (WW : own_W Z de mr es kde) :
    MetFree l (⟨"com/example/convoke/convoke/icalendar/Component", "of", "(Ljava/lang/String;Ljava/util/List;Ljava/util/List;)Lcom/example/convoke/convoke/icalendar/Component;"⟩ : MethodName) (head1 (Jvm.Cond.code (⟨"com/example/convoke/convoke/icalendar/Component", "of", "(Ljava/lang/String;Ljava/util/List;Ljava/util/List;)Lcom/example/convoke/convoke/icalendar/Component;"⟩ : MethodName) prog_90_method_2_code 4 (some (.object "com/example/convoke/convoke/icalendar/Component")) :: ws) ({ frames := 5, cells := 5, slots := 12, locals := 89 } : Room)) (fun a U => a = #[nv, (.ref p1), (.ref p2)] ∧ Z.Warmed39 U.vm ∧ U.heap = h0) (fun _ _ _ _ _ => True) (fun _ U o U' => ∃ v L, o = .returned v ∧ own_QB h0 n0 v U'.heap L ∧ FrameEnd U o U' L ({ frames := 5, cells := 5, slots := 12, locals := 89 } : Room).cells ({ frames := 5, cells := 5, slots := 12, locals := 89 } : Room).slots) := by
  refine MetFree.of_bodySF (plainFor_of_name pn10) hisR ?_
  intro p e s m args below meth c s₁ Bd hml0 hP hK
  obtain ⟨rfl, hZ, hh⟩ := hP
  have hx := Bd.exec
  have hby := Bd.bytes
  have hml : c.maxLocals = 4 := hml0
  have hown : s.vm.findClass "com/example/convoke/convoke/icalendar/Component" = some m.cls := findClass_of_methodNamed Bd.named
  have hnm := (name_of_methodNamed Bd.named Bd.method).1
  have hlk : meth.locks = false := Bd.notSynchronized
  have X0 : Stand p l e ({ frames := 5, cells := 5, slots := 12, locals := 89 } : Room) s m #[nv, (.ref p1), (.ref p2)] below meth c s₁ [] 0 0 := Stand.of_body Bd
  have e0 : s₁.heap = h0 := by rw [← hh, Bd.state]; rfl
  have N0 := Fr.nil n0
  refine own_go (fun t k => castTop (ef10 m nv p1 p2 r_nv) k) ?_
  obtain ⟨⟨cs, hcs, SC⟩, SDE, ADE, EDE, MR, SES, EES⟩ := id WW
  show own_Go p e below _ (s₁.setTop (mkF m 0 #[.val nv, .val (.ref p1), .val (.ref p2), .unset] []))
  obtain ⟨T1, h1, X1, e1, E1, A1, D1, -, st1⟩ := newO X0 hx hZ hown (hw _ (List.mem_of_getElem? (i := 42) rfl)) (hw _ (List.mem_of_getElem? (i := 43) rfl)) (hw _ (List.mem_of_getElem? (i := 40) rfl)) e0 (g := (mkF m 0 #[.val nv, .val (.ref p1), .val (.ref p2), .unset] [])) rfl (hb hby d10_0) (by decide) (by decide)
  obtain ⟨b1, g1⟩ : ∃ z, z = h0.size := ⟨_, rfl⟩
  rw [← g1] at A1 D1 st1
  have g_b1 : n0 ≤ b1 := Nat.le_trans Z0 (Nat.le_of_eq g1.symm)
  have sz_b1 : h0.size ≤ b1 := Nat.le_trans (Keep.refl h0 []).1 (Nat.le_of_eq g1.symm)
  have ne_p1_b1 : p1 ≠ b1 := Nat.ne_of_lt (Nat.lt_of_lt_of_le GP1.1.lt (Nat.le_of_eq g1.symm))
  have ne_p2_b1 : p2 ≠ b1 := Nat.ne_of_lt (Nat.lt_of_lt_of_le GP2.1.lt (Nat.le_of_eq g1.symm))
  have XO__1 := XO.ext E1
  have GP1__1 := GP1.ext E1
  have GP2__1 := GP2.ext E1
  have sz1 := Nat.le_trans Z0 E1.1
  have KP1 := (Keep.refl h0 []).ext E1
  have F1_properties : Fld Z h1 b1 "com/example/convoke/convoke/icalendar/Component" "properties" "Ljava/util/List;" .null := D1 (Or.inr (hw _ (List.mem_of_getElem? (i := 51) rfl))) (ty := (.object "java/util/List")) (by decide)
  have F1_components : Fld Z h1 b1 "com/example/convoke/convoke/icalendar/Component" "components" "Ljava/util/List;" .null := D1 (Or.inr (hw _ (List.mem_of_getElem? (i := 53) rfl))) (ty := (.object "java/util/List")) (by decide)
  have F1_name : Fld Z h1 b1 "com/example/convoke/convoke/icalendar/Component" "name" "Ljava/lang/String;" .null := D1 (Or.inr (hw _ (List.mem_of_getElem? (i := 55) rfl))) (ty := (.object "java/lang/String")) (by decide)
  have F1_line : Fld Z h1 b1 "com/example/convoke/convoke/icalendar/Component" "line" "I" (.int (0 : Int32)) := D1 (Or.inr (hw _ (List.mem_of_getElem? (i := 57) rfl))) (ty := .int) (by decide)
  refine own_go (fun t k => st1 t k) ?_
  show own_Go p e below _ (T1.setTop (mkF m 3 #[.val nv, .val (.ref p1), .val (.ref p2), .unset] [(.ref b1)]))
  refine own_go (fun t k => XS.dup X1.here hx rfl (hb hby d10_3) rfl rfl k) ?_
  show own_Go p e below _ (T1.setTop (mkF m 4 #[.val nv, .val (.ref p1), .val (.ref p2), .unset] [(.ref b1), (.ref b1)]))
  refine own_go (fun t k => XS.aloadN X1.here hx rfl (hb hby d10_4) rfl r_nv k) ?_
  show own_Go p e below _ (T1.setTop (mkF m 5 #[.val nv, .val (.ref p1), .val (.ref p2), .unset] [nv, (.ref b1), (.ref b1)]))
  refine own_go (fun t k => XS.iconst X1.here hx rfl (hb hby d10_5) k) ?_
  show own_Go p e below _ (T1.setTop (mkF m 6 #[.val nv, .val (.ref p1), .val (.ref p2), .unset] [(.int (0 : Int32)), nv, (.ref b1), (.ref b1)]))
  obtain ⟨_, _, ⟨T2, L2, k2, n2⟩, -, X2, ⟨Lc2, hQ2, l2, y2, z2⟩, st2⟩ := X1.specialBack hx (y := (⟨"com/example/convoke/convoke/icalendar/Component", "<init>", "(Ljava/lang/String;I)V"⟩ : MethodName)) rfl hown (mvT hZ (hw _ (List.mem_of_getElem? (i := 44) rfl))) (mvT hZ (hw _ (List.mem_of_getElem? (i := 45) rfl))) (mvT hZ (hw _ (List.mem_of_getElem? (i := 46) rfl))) (by decide) (backOf (W := 1) (rm9 l Z a0 hw [] b1 nv de mr es kde h1 n0 sz1 ⟨A1, F1_properties, F1_components, F1_name, F1_line⟩ g_b1 r_nv XO__1 WW) hZ (hw _ (List.mem_of_getElem? (i := 46) rfl)) (hw _ (List.mem_of_getElem? (i := 40) rfl)) (by decide) (by decide)) (g := (mkF m 6 #[.val nv, .val (.ref p1), .val (.ref p2), .unset] [(.int (0 : Int32)), nv, (.ref b1), (.ref b1)])) rfl (by rw [hml]; rfl) (Steps.refl _) (a := b1) (argsL := [nv, (.int (0 : Int32))]) (rest := [(.ref b1)]) (lenOf pd10_0 rfl) rfl (by show 2 * 0 + _ ≤ _; exact Nat.le_of_eq rfl) (hb hby d10_6) (fun _ _ => ⟨rfl, e1, (by decide : 0 + 1 + 2 ≤ _), (by decide : 0 + 6 + 6 ≤ _)⟩)
  dsimp only [Pt.U, Pt.locs, Pt.cells, Pt.slots] at X2 l2 y2 z2 st2 hQ2
  subst l2 y2 z2
  obtain ⟨la2, lb2, wq2, rfl, Nq2, K2, G2, gea2, geb2, nel2, Ga2, Gb2⟩ := hQ2
  have N2 := Fr.app N0 Nq2
  refine own_go (fun t k => st2.trans k) ?_
  have g_la2 : n0 ≤ la2 := Nat.le_trans sz1 gea2
  have sz_la2 : h0.size ≤ la2 := Nat.le_trans KP1.1 gea2
  have ne_p1_la2 : p1 ≠ la2 := Nat.ne_of_lt (Nat.lt_of_lt_of_le GP1__1.1.lt gea2)
  have ne_p2_la2 : p2 ≠ la2 := Nat.ne_of_lt (Nat.lt_of_lt_of_le GP2__1.1.lt gea2)
  have ne_b1_la2 : b1 ≠ la2 := Nat.ne_of_lt (Nat.lt_of_lt_of_le A1.lt gea2)
  have g_lb2 : n0 ≤ lb2 := Nat.le_trans sz1 geb2
  have sz_lb2 : h0.size ≤ lb2 := Nat.le_trans KP1.1 geb2
  have ne_p1_lb2 : p1 ≠ lb2 := Nat.ne_of_lt (Nat.lt_of_lt_of_le GP1__1.1.lt geb2)
  have ne_p2_lb2 : p2 ≠ lb2 := Nat.ne_of_lt (Nat.lt_of_lt_of_le GP2__1.1.lt geb2)
  have ne_b1_lb2 : b1 ≠ lb2 := Nat.ne_of_lt (Nat.lt_of_lt_of_le A1.lt geb2)
  have XO__2 := XO__1.keep K2 (allS g_b1 all0)
  have GP1__2 := GP1__1.keep K2 (ninS ne_p1_b1 nin0)
  have GP2__2 := GP2__1.keep K2 (ninS ne_p2_b1 nin0)
  have A1__2 := A1.keep K2
  have KP2 := KP1.trans K2 (allS (Or.inr sz_b1) all0)
  have sz2 := Nat.le_trans sz1 K2.1
  show own_Go p e below _ (T2.setTop (mkF m 9 #[.val nv, .val (.ref p1), .val (.ref p2), .unset] [(.ref b1)]))
  refine own_go (fun t k => XS.astoreN X2.here hx rfl (hb hby d10_9) rfl rfl (l' := #[.val nv, .val (.ref p1), .val (.ref p2), .val (.ref b1)]) rfl k) ?_
  show own_Go p e below _ (T2.setTop (mkF m 10 #[.val nv, .val (.ref p1), .val (.ref p2), .val (.ref b1)] []))
  refine own_go (fun t k => XS.aloadN X2.here hx rfl (hb hby d10_10) rfl rfl k) ?_
  show own_Go p e below _ (T2.setTop (mkF m 11 #[.val nv, .val (.ref p1), .val (.ref p2), .val (.ref b1)] [(.ref b1)]))
  obtain ⟨T3, X3, e3, st3⟩ := getF X2 hx hZ hown (host := "") (Or.inl (hw _ (List.mem_of_getElem? (i := 50) rfl))) Via.refl rfl G2.2.1 (g := (mkF m 11 #[.val nv, .val (.ref p1), .val (.ref p2), .val (.ref b1)] [(.ref b1)])) rfl rfl (hb hby d10_11)
  refine own_go (fun t k => st3 t k) ?_
  show own_Go p e below _ (T3.setTop (mkF m 14 #[.val nv, .val (.ref p1), .val (.ref p2), .val (.ref b1)] [(.ref la2)]))
  refine own_go (fun t k => XS.aloadN X3.here hx rfl (hb hby d10_14) rfl rfl k) ?_
  show own_Go p e below _ (T3.setTop (mkF m 15 #[.val nv, .val (.ref p1), .val (.ref p2), .val (.ref b1)] [(.ref p1), (.ref la2)]))
  obtain ⟨cq4, kq4, q4a, q4b, q4c⟩ := isOf hZ e3 Ga2.1
  obtain ⟨_, _, ⟨T4, L4, k4, n4⟩, -, X4, ⟨Lc4, hQ4, l4, y4, z4⟩, st4⟩ := X3.interfaceBack hx (xi := (⟨"java/util/List", "addAll", "(Ljava/util/Collection;)Z"⟩ : MethodName)) (y := (⟨"java/util/ArrayList", "addAll", "(Ljava/util/Collection;)Z"⟩ : MethodName)) hown (mvT hZ (hw _ (List.mem_of_getElem? (i := 58) rfl))) (mvT hZ (hw _ (List.mem_of_getElem? (i := 59) rfl))) (mvT hZ (hw _ (List.mem_of_getElem? (i := 60) rfl))) (mvT hZ (hw _ (List.mem_of_getElem? (i := 61) rfl))) (mvT hZ (hw _ (List.mem_of_getElem? (i := 62) rfl))) (mvT hZ (hw _ (List.mem_of_getElem? (i := 63) rfl))) (mvT hZ (hw _ (List.mem_of_getElem? (i := 64) rfl))) (mvT hZ (hw _ (List.mem_of_getElem? (i := 65) rfl))) (by decide) (backOf (W := 0) (rm8 l Z a0 hw [] la2 p1 de mr es kde T2.heap n0 sz2 XO__2 WW Ga2 GP1__2 (Ne.symm ne_p1_la2) g_la2) hZ (hw _ (List.mem_of_getElem? (i := 66) rfl)) (hw _ (List.mem_of_getElem? (i := 14) rfl)) (by decide) (by decide)) q4a q4b q4c (g := (mkF m 15 #[.val nv, .val (.ref p1), .val (.ref p2), .val (.ref b1)] [(.ref p1), (.ref la2)])) rfl (by rw [hml]; rfl) (Steps.refl _) (argsL := [(.ref p1)]) (rest := []) (lenOf pd10_1 rfl) rfl (by show 2 * 0 + _ ≤ _; exact Nat.le_of_eq rfl) (hb hby d10_15) (fun _ _ => ⟨rfl, e3, (by decide : 0 + 1 + 2 + 1 ≤ _), (by decide : 0 + 6 + 6 + 0 ≤ _)⟩)
  dsimp only [Pt.U, Pt.locs, Pt.cells, Pt.slots] at X4 l4 y4 z4 st4 hQ4
  subst l4 y4 z4
  obtain ⟨rfl, Nq4, K4⟩ := hQ4
  have N4 := Fr.app N2 Nq4
  refine own_go (fun t k => st4.trans k) ?_
  have XO__4 := XO__2.keep K4 (allS g_la2 all0)
  have GP1__4 := GP1__2.keep K4 (ninS ne_p1_la2 nin0)
  have GP2__4 := GP2__2.keep K4 (ninS ne_p2_la2 nin0)
  have G2__4 := G2.keep K4 (ninS ne_b1_la2 nin0)
  have Gb2__4 := Gb2.keep K4 (ninS (Ne.symm nel2) nin0)
  have KP4 := KP2.trans K4 (allS (Or.inr sz_la2) all0)
  have sz4 := Nat.le_trans sz2 K4.1
  show own_Go p e below _ (T4.setTop (mkF m 20 #[.val nv, .val (.ref p1), .val (.ref p2), .val (.ref b1)] [(.int (0 : Int32))]))
  refine own_go (fun t k => XS.pop X4.here hx rfl (hb hby d10_20) rfl rfl k) ?_
  show own_Go p e below _ (T4.setTop (mkF m 21 #[.val nv, .val (.ref p1), .val (.ref p2), .val (.ref b1)] []))
  refine own_go (fun t k => XS.aloadN X4.here hx rfl (hb hby d10_21) rfl rfl k) ?_
  show own_Go p e below _ (T4.setTop (mkF m 22 #[.val nv, .val (.ref p1), .val (.ref p2), .val (.ref b1)] [(.ref b1)]))
  obtain ⟨T5, X5, e5, st5⟩ := getF X4 hx hZ hown (host := "") (Or.inl (hw _ (List.mem_of_getElem? (i := 52) rfl))) Via.refl rfl G2__4.2.2.1 (g := (mkF m 22 #[.val nv, .val (.ref p1), .val (.ref p2), .val (.ref b1)] [(.ref b1)])) rfl rfl (hb hby d10_22)
  refine own_go (fun t k => st5 t k) ?_
  show own_Go p e below _ (T5.setTop (mkF m 25 #[.val nv, .val (.ref p1), .val (.ref p2), .val (.ref b1)] [(.ref lb2)]))
  refine own_go (fun t k => XS.aloadN X5.here hx rfl (hb hby d10_25) rfl rfl k) ?_
  show own_Go p e below _ (T5.setTop (mkF m 26 #[.val nv, .val (.ref p1), .val (.ref p2), .val (.ref b1)] [(.ref p2), (.ref lb2)]))
  obtain ⟨cq6, kq6, q6a, q6b, q6c⟩ := isOf hZ e5 Gb2__4.1
  obtain ⟨_, _, ⟨T6, L6, k6, n6⟩, -, X6, ⟨Lc6, hQ6, l6, y6, z6⟩, st6⟩ := X5.interfaceBack hx (xi := (⟨"java/util/List", "addAll", "(Ljava/util/Collection;)Z"⟩ : MethodName)) (y := (⟨"java/util/ArrayList", "addAll", "(Ljava/util/Collection;)Z"⟩ : MethodName)) hown (mvT hZ (hw _ (List.mem_of_getElem? (i := 58) rfl))) (mvT hZ (hw _ (List.mem_of_getElem? (i := 59) rfl))) (mvT hZ (hw _ (List.mem_of_getElem? (i := 60) rfl))) (mvT hZ (hw _ (List.mem_of_getElem? (i := 61) rfl))) (mvT hZ (hw _ (List.mem_of_getElem? (i := 62) rfl))) (mvT hZ (hw _ (List.mem_of_getElem? (i := 63) rfl))) (mvT hZ (hw _ (List.mem_of_getElem? (i := 64) rfl))) (mvT hZ (hw _ (List.mem_of_getElem? (i := 65) rfl))) (by decide) (backOf (W := 0) (rm8 l Z a0 hw [] lb2 p2 de mr es kde T4.heap n0 sz4 XO__4 WW Gb2__4 GP2__4 (Ne.symm ne_p2_lb2) g_lb2) hZ (hw _ (List.mem_of_getElem? (i := 66) rfl)) (hw _ (List.mem_of_getElem? (i := 14) rfl)) (by decide) (by decide)) q6a q6b q6c (g := (mkF m 26 #[.val nv, .val (.ref p1), .val (.ref p2), .val (.ref b1)] [(.ref p2), (.ref lb2)])) rfl (by rw [hml]; rfl) (Steps.refl _) (argsL := [(.ref p2)]) (rest := []) (lenOf pd10_1 rfl) rfl (by show 2 * 0 + _ ≤ _; exact Nat.le_of_eq rfl) (hb hby d10_26) (fun _ _ => ⟨rfl, e5, (by decide : 0 + 1 + 2 + 1 + 1 ≤ _), (by decide : 0 + 6 + 6 + 0 ≤ _)⟩)
  dsimp only [Pt.U, Pt.locs, Pt.cells, Pt.slots] at X6 l6 y6 z6 st6 hQ6
  subst l6 y6 z6
  obtain ⟨rfl, Nq6, K6⟩ := hQ6
  have N6 := Fr.app N4 Nq6
  refine own_go (fun t k => st6.trans k) ?_
  have XO__6 := XO__4.keep K6 (allS g_lb2 all0)
  have GP1__6 := GP1__4.keep K6 (ninS ne_p1_lb2 nin0)
  have GP2__6 := GP2__4.keep K6 (ninS ne_p2_lb2 nin0)
  have G2__6 := G2__4.keep K6 (ninS ne_b1_lb2 nin0)
  have KP6 := KP4.trans K6 (allS (Or.inr sz_lb2) all0)
  have sz6 := Nat.le_trans sz4 K6.1
  show own_Go p e below _ (T6.setTop (mkF m 31 #[.val nv, .val (.ref p1), .val (.ref p2), .val (.ref b1)] [(.int (0 : Int32))]))
  refine own_go (fun t k => XS.pop X6.here hx rfl (hb hby d10_31) rfl rfl k) ?_
  show own_Go p e below _ (T6.setTop (mkF m 32 #[.val nv, .val (.ref p1), .val (.ref p2), .val (.ref b1)] []))
  refine own_go (fun t k => XS.aloadN X6.here hx rfl (hb hby d10_32) rfl rfl k) ?_
  show own_Go p e below _ (T6.setTop (mkF m 33 #[.val nv, .val (.ref p1), .val (.ref p2), .val (.ref b1)] [(.ref b1)]))
  exact own_retA X6 hx Bd.returns rfl rfl (hb hby d10_33) (⟨_, rfl, N6, KP6, sz_b1⟩) (by decide) (by decide)
theorem d11_0 : decode jdk_96_method_17_code 0 = .ok (.getstatic 9, 3) := by decide +kernel
theorem d11_3 : decode jdk_96_method_17_code 3 = .ok (.areturn, 1) := by decide +kernel
theorem pn11 : plainName "java/util/Set" = true := by first | (simp [plainName, overriddenIn]; done) | decide +kernel
theorem ef11 (m : MethodId)  : entryFrame m #[] 0 = mkF m 0 #[] [] := by first | (simp [entryFrame, mkF, argsToLocals, Value.category]; done) | rfl
def own_Qe (es : Addr) (h0 : Heap) (n0 : Nat) (v : Option Value) (h : Heap) (L : List Loc) : Prop := v = some (.ref es) ∧ Fr n0 L ∧ h = h0
set_option maxRecDepth 65536 in
set_option maxHeartbeats 40000000 in
theorem rm11 (l : Launch) (Z : State) (a0 : Array Value) (hw : ∀ d ∈ tables_1, d.before a0 Z = true) (ws : List Jvm.Cond) (de mr es : Addr) (kde : ClassId) (h0 : Heap) (n0 : Nat) (Z0 : n0 ≤ h0.size) (XO : Old Z n0 h0) (WW : own_W Z de mr es kde) :
    MetFree l (⟨"java/util/Set", "of", "()Ljava/util/Set;"⟩ : MethodName) (head1 (Jvm.Cond.code (⟨"java/util/Set", "of", "()Ljava/util/Set;"⟩ : MethodName) jdk_96_method_17_code 0 (some (.object "java/util/Set")) :: ws) ({ frames := 0, cells := 0, slots := 0, locals := 0 } : Room)) (fun a U => a = #[] ∧ Z.Warmed39 U.vm ∧ U.heap = h0) (fun _ _ _ _ _ => True) (fun _ U o U' => ∃ v L, o = .returned v ∧ own_Qe es h0 n0 v U'.heap L ∧ FrameEnd U o U' L ({ frames := 0, cells := 0, slots := 0, locals := 0 } : Room).cells ({ frames := 0, cells := 0, slots := 0, locals := 0 } : Room).slots) := by
  refine MetFree.of_bodySF (plainFor_of_name pn11) hisR ?_
  intro p e s m args below meth c s₁ Bd hml0 hP hK
  obtain ⟨rfl, hZ, hh⟩ := hP
  have hx := Bd.exec
  have hby := Bd.bytes
  have hml : c.maxLocals = 0 := hml0
  have hown : s.vm.findClass "java/util/Set" = some m.cls := findClass_of_methodNamed Bd.named
  have hnm := (name_of_methodNamed Bd.named Bd.method).1
  have hlk : meth.locks = false := Bd.notSynchronized
  have X0 : Stand p l e ({ frames := 0, cells := 0, slots := 0, locals := 0 } : Room) s m #[] below meth c s₁ [] 0 0 := Stand.of_body Bd
  have e0 : s₁.heap = h0 := by rw [← hh, Bd.state]; rfl
  have N0 := Fr.nil n0
  refine own_go (fun t k => castTop (ef11 m ) k) ?_
  obtain ⟨⟨cs, hcs, SC⟩, SDE, ADE, EDE, MR, SES, EES⟩ := id WW
  show own_Go p e below _ (s₁.setTop (mkF m 0 #[] []))
  obtain ⟨T1, X1, e1, st1⟩ := getS2 X0 hx hZ hown (host := "") (Or.inl (hw _ (List.mem_of_getElem? (i := 115) rfl))) Via.refl e0 (SES.ext XO.2) (g := (mkF m 0 #[] [])) rfl (hb hby d11_0)
  refine own_go (fun t k => st1 t k) ?_
  show own_Go p e below _ (T1.setTop (mkF m 3 #[] [(.ref es)]))
  exact own_retA X1 hx Bd.returns rfl rfl (hb hby d11_3) (by rw [e1]; exact ⟨rfl, N0, rfl⟩) (by decide) (by decide)
theorem d12_0 : decode jdk_96_method_29_code 0 = .ok (.aload_n 0, 1) := by decide +kernel
theorem d12_1 : decode jdk_96_method_29_code 1 = .ok (.instanceof 31, 3) := by decide +kernel
theorem d12_4 : decode jdk_96_method_29_code 4 = .ok (.ifCond .eq 8, 3) := by decide +kernel
theorem d12_7 : decode jdk_96_method_29_code 7 = .ok (.aload_n 0, 1) := by decide +kernel
theorem d12_8 : decode jdk_96_method_29_code 8 = .ok (.checkcast 33, 3) := by decide +kernel
theorem d12_11 : decode jdk_96_method_29_code 11 = .ok (.areturn, 1) := by decide +kernel
theorem pn12 : plainName "java/util/Set" = true := by first | (simp [plainName, overriddenIn]; done) | decide +kernel
theorem ef12 (m : MethodId) (x0 : Addr) : entryFrame m #[(.ref x0)] 1 = mkF m 0 #[.val (.ref x0)] [] := by first | (simp [entryFrame, mkF, argsToLocals, Value.category]; done) | rfl
set_option maxRecDepth 65536 in
set_option maxHeartbeats 40000000 in
theorem rm12 (l : Launch) (Z : State) (a0 : Array Value) (hw : ∀ d ∈ tables_1, d.before a0 Z = true) (ws : List Jvm.Cond) (de mr es : Addr) (kde : ClassId) (h0 : Heap) (n0 : Nat) (Z0 : n0 ≤ h0.size) (XO : Old Z n0 h0) (WW : own_W Z de mr es kde) :
    MetFree l (⟨"java/util/Set", "copyOf", "(Ljava/util/Collection;)Ljava/util/Set;"⟩ : MethodName) (head1 (Jvm.Cond.code (⟨"java/util/Set", "copyOf", "(Ljava/util/Collection;)Ljava/util/Set;"⟩ : MethodName) jdk_96_method_29_code 1 (some (.object "java/util/Set")) :: ws) ({ frames := 0, cells := 0, slots := 0, locals := 0 } : Room)) (fun a U => a = #[(.ref es)] ∧ Z.Warmed39 U.vm ∧ U.heap = h0) (fun _ _ _ _ _ => True) (fun _ U o U' => ∃ v L, o = .returned v ∧ own_Qe es h0 n0 v U'.heap L ∧ FrameEnd U o U' L ({ frames := 0, cells := 0, slots := 0, locals := 0 } : Room).cells ({ frames := 0, cells := 0, slots := 0, locals := 0 } : Room).slots) := by
  refine MetFree.of_bodySF (plainFor_of_name pn12) hisR ?_
  intro p e s m args below meth c s₁ Bd hml0 hP hK
  obtain ⟨rfl, hZ, hh⟩ := hP
  have hx := Bd.exec
  have hby := Bd.bytes
  have hml : c.maxLocals = 1 := hml0
  have hown : s.vm.findClass "java/util/Set" = some m.cls := findClass_of_methodNamed Bd.named
  have hnm := (name_of_methodNamed Bd.named Bd.method).1
  have hlk : meth.locks = false := Bd.notSynchronized
  have X0 : Stand p l e ({ frames := 0, cells := 0, slots := 0, locals := 0 } : Room) s m #[(.ref es)] below meth c s₁ [] 0 0 := Stand.of_body Bd
  have e0 : s₁.heap = h0 := by rw [← hh, Bd.state]; rfl
  have N0 := Fr.nil n0
  refine own_go (fun t k => castTop (ef12 m es) k) ?_
  obtain ⟨⟨cs, hcs, SC⟩, SDE, ADE, EDE, MR, SES, EES⟩ := id WW
  show own_Go p e below _ (s₁.setTop (mkF m 0 #[.val (.ref es)] []))
  refine own_go (fun t k => XS.aloadN X0.here hx rfl (hb hby d12_0) rfl rfl k) ?_
  show own_Go p e below _ (s₁.setTop (mkF m 1 #[.val (.ref es)] [(.ref es)]))
  obtain ⟨T1, X1, e1, st1⟩ := instY X0 hx hZ hown (hw _ (List.mem_of_getElem? (i := 129) rfl)) e0 (Ins.of_exa (EES.ext XO.2) (hw _ (List.mem_of_getElem? (i := 130) rfl))) (g := (mkF m 1 #[.val (.ref es)] [(.ref es)])) rfl rfl (hb hby d12_1)
  refine own_go (fun t k => st1 t k) ?_
  show own_Go p e below _ (T1.setTop (mkF m 4 #[.val (.ref es)] [(.int (1 : Int32))]))
  refine own_go (fun t k => XS.ifNo X1.here hx rfl (hb hby d12_4) rfl ((if0 _ _).trans (feq (by decide : ¬ ((1 : Int32) = (0 : Int32)))).1) k) ?_
  show own_Go p e below _ (T1.setTop (mkF m 7 #[.val (.ref es)] []))
  refine own_go (fun t k => XS.aloadN X1.here hx rfl (hb hby d12_7) rfl rfl k) ?_
  show own_Go p e below _ (T1.setTop (mkF m 8 #[.val (.ref es)] [(.ref es)]))
  obtain ⟨T2, X2, e2, st2⟩ := castY X1 hx hZ hown (hw _ (List.mem_of_getElem? (i := 131) rfl)) e1 (Ins.of_exa (EES.ext XO.2) (hw _ (List.mem_of_getElem? (i := 132) rfl))) (g := (mkF m 8 #[.val (.ref es)] [(.ref es)])) rfl rfl (hb hby d12_8)
  refine own_go (fun t k => st2 t k) ?_
  show own_Go p e below _ (T2.setTop (mkF m 11 #[.val (.ref es)] [(.ref es)]))
  exact own_retA X2 hx Bd.returns rfl rfl (hb hby d12_11) (by rw [e2]; exact ⟨rfl, N0, rfl⟩) (by decide) (by decide)
theorem d14_0 : decode prog_19_method_1_code 0 = .ok (.aload_n 0, 1) := by decide +kernel
theorem d14_1 : decode prog_19_method_1_code 1 = .ok (.invokespecial 1, 3) := by decide +kernel
theorem d14_4 : decode prog_19_method_1_code 4 = .ok (.aload_n 3, 1) := by decide +kernel
theorem d14_5 : decode prog_19_method_1_code 5 = .ok (.invokestatic 7, 3) := by decide +kernel
theorem d14_8 : decode prog_19_method_1_code 8 = .ok (.astore_n 3, 1) := by decide +kernel
theorem d14_9 : decode prog_19_method_1_code 9 = .ok (.aload_n 0, 1) := by decide +kernel
theorem d14_10 : decode prog_19_method_1_code 10 = .ok (.aload_n 1, 1) := by decide +kernel
theorem d14_11 : decode prog_19_method_1_code 11 = .ok (.putfield 13, 3) := by decide +kernel
theorem d14_14 : decode prog_19_method_1_code 14 = .ok (.aload_n 0, 1) := by decide +kernel
theorem d14_15 : decode prog_19_method_1_code 15 = .ok (.aload_n 2, 1) := by decide +kernel
theorem d14_16 : decode prog_19_method_1_code 16 = .ok (.putfield 19, 3) := by decide +kernel
theorem d14_19 : decode prog_19_method_1_code 19 = .ok (.aload_n 0, 1) := by decide +kernel
theorem d14_20 : decode prog_19_method_1_code 20 = .ok (.aload_n 3, 1) := by decide +kernel
theorem d14_21 : decode prog_19_method_1_code 21 = .ok (.putfield 23, 3) := by decide +kernel
theorem d14_24 : decode prog_19_method_1_code 24 = .ok (.return_, 1) := by decide +kernel
theorem pn14 : plainName "com/example/convoke/convoke/apply/KeptOverride" = true := by first | (simp [plainName, overriddenIn]; done) | decide +kernel
theorem pd14_0 : parseMethodDescriptor "()V" = some ⟨[], none⟩ := by decide +kernel
theorem pd14_1 : parseMethodDescriptor "(Ljava/util/Collection;)Ljava/util/Set;" = some ⟨[(.object "java/util/Collection")], some (.object "java/util/Set")⟩ := by decide +kernel
theorem ef14 (m : MethodId) (x0 : Addr) (x1 : Value) (x2 : Value) (x3 : Addr) (r_x1 : x1.isRef = true) (r_x2 : x2.isRef = true) : entryFrame m #[(.ref x0), x1, x2, (.ref x3)] 4 = mkF m 0 #[.val (.ref x0), .val x1, .val x2, .val (.ref x3)] [] := by
  have c_x1 := own_cat1 r_x1
  have c_x2 := own_cat1 r_x2
  simp [entryFrame, mkF, argsToLocals, own_catR, own_catI, own_catJ, own_catN, c_x1, c_x2]
def own_Q14 (Z : State) (oa : Addr) (cv mv_ : Value) (es : Addr) (h0 : Heap) (n0 : Nat) (v : Option Value) (h : Heap) (L : List Loc) : Prop := v = none ∧ Fr n0 L ∧ Keep h0 h [oa] ∧ own_KO Z h oa cv mv_ (.ref es)
set_option maxRecDepth 65536 in
set_option maxHeartbeats 40000000 in
theorem rm14 (l : Launch) (Z : State) (a0 : Array Value) (hw : ∀ d ∈ tables_1, d.before a0 Z = true) (ws : List Jvm.Cond) (oa : Addr) (cv mv_ : Value) (de mr es : Addr) (kde : ClassId) (h0 : Heap) (n0 : Nat) (Z0 : n0 ≤ h0.size) (G : own_KO Z h0 oa .null .null .null) (g_oa : n0 ≤ oa) (r_cv : cv.isRef = true) (r_mv_ : mv_.isRef = true) (XO : Old Z n0 h0) (WW : own_W Z de mr es kde) :
    MetFree l (⟨"com/example/convoke/convoke/apply/KeptOverride", "<init>", "(Lcom/example/convoke/convoke/icalendar/Component;Ljava/lang/String;Ljava/util/Set;)V"⟩ : MethodName) (head1 (Jvm.Cond.code (⟨"com/example/convoke/convoke/apply/KeptOverride", "<init>", "(Lcom/example/convoke/convoke/icalendar/Component;Ljava/lang/String;Ljava/util/Set;)V"⟩ : MethodName) prog_19_method_1_code 4 none :: ws) ({ frames := 2, cells := 0, slots := 0, locals := 24 } : Room)) (fun a U => a = #[(.ref oa), cv, mv_, (.ref es)] ∧ Z.Warmed39 U.vm ∧ U.heap = h0) (fun _ _ _ _ _ => True) (fun _ U o U' => ∃ v L, o = .returned v ∧ own_Q14 Z oa cv mv_ es h0 n0 v U'.heap L ∧ FrameEnd U o U' L ({ frames := 2, cells := 0, slots := 0, locals := 24 } : Room).cells ({ frames := 2, cells := 0, slots := 0, locals := 24 } : Room).slots) := by
  refine MetFree.of_bodySF (plainFor_of_name pn14) hisR ?_
  intro p e s m args below meth c s₁ Bd hml0 hP hK
  obtain ⟨rfl, hZ, hh⟩ := hP
  have hx := Bd.exec
  have hby := Bd.bytes
  have hml : c.maxLocals = 4 := hml0
  have hown : s.vm.findClass "com/example/convoke/convoke/apply/KeptOverride" = some m.cls := findClass_of_methodNamed Bd.named
  have hnm := (name_of_methodNamed Bd.named Bd.method).1
  have hlk : meth.locks = false := Bd.notSynchronized
  have X0 : Stand p l e ({ frames := 2, cells := 0, slots := 0, locals := 24 } : Room) s m #[(.ref oa), cv, mv_, (.ref es)] below meth c s₁ [] 0 0 := Stand.of_body Bd
  have e0 : s₁.heap = h0 := by rw [← hh, Bd.state]; rfl
  have N0 := Fr.nil n0
  refine own_go (fun t k => castTop (ef14 m oa cv mv_ es r_cv r_mv_) k) ?_
  obtain ⟨⟨cs, hcs, SC⟩, SDE, ADE, EDE, MR, SES, EES⟩ := id WW
  obtain ⟨Ea, Fcomponent, FmadeFor, FmadeWithout⟩ := G
  show own_Go p e below _ (s₁.setTop (mkF m 0 #[.val (.ref oa), .val cv, .val mv_, .val (.ref es)] []))
  refine own_go (fun t k => XS.aloadN X0.here hx rfl (hb hby d14_0) rfl rfl k) ?_
  show own_Go p e below _ (s₁.setTop (mkF m 1 #[.val (.ref oa), .val cv, .val mv_, .val (.ref es)] [(.ref oa)]))
  obtain ⟨_, _, ⟨T1, L1, k1, n1⟩, -, X1, ⟨Lc1, hQ1, l1, y1, z1⟩, st1⟩ := X0.specialBack hx (y := (⟨"java/lang/Record", "<init>", "()V"⟩ : MethodName)) rfl hown (mvT hZ (hw _ (List.mem_of_getElem? (i := 120) rfl))) (mvT hZ (hw _ (List.mem_of_getElem? (i := 121) rfl))) (mvT hZ (hw _ (List.mem_of_getElem? (i := 124) rfl))) (by decide) (backOf (W := 0) (rm13 l Z a0 hw [] oa h0 n0 Z0) hZ (hw _ (List.mem_of_getElem? (i := 124) rfl)) (hw _ (List.mem_of_getElem? (i := 123) rfl)) (by decide) (by decide)) (g := (mkF m 1 #[.val (.ref oa), .val cv, .val mv_, .val (.ref es)] [(.ref oa)])) rfl (by rw [hml]; rfl) (Steps.refl _) (a := oa) (argsL := []) (rest := []) (lenOf pd14_0 rfl) rfl (by show 2 * 0 + _ ≤ _; exact Nat.le_of_eq rfl) (hb hby d14_1) (fun _ _ => ⟨rfl, e0, (by decide : 0 + 0 ≤ _), (by decide : 0 + 0 ≤ _)⟩)
  dsimp only [Pt.U, Pt.locs, Pt.cells, Pt.slots] at X1 l1 y1 z1 st1 hQ1
  subst l1 y1 z1
  obtain ⟨rfl, Nq1, e1⟩ := hQ1
  have N1 := Fr.app N0 Nq1
  refine own_go (fun t k => st1.trans k) ?_
  show own_Go p e below _ (T1.setTop (mkF m 4 #[.val (.ref oa), .val cv, .val mv_, .val (.ref es)] []))
  refine own_go (fun t k => XS.aloadN X1.here hx rfl (hb hby d14_4) rfl rfl k) ?_
  show own_Go p e below _ (T1.setTop (mkF m 5 #[.val (.ref oa), .val cv, .val mv_, .val (.ref es)] [(.ref es)]))
  obtain ⟨_, _, ⟨T2, L2, k2, n2⟩, -, X2, ⟨Lc2, hQ2, l2, y2, z2⟩, st2⟩ := Jvm.LawKit.callS X1 hx (y := (⟨"java/util/Set", "copyOf", "(Ljava/util/Collection;)Ljava/util/Set;"⟩ : MethodName)) hown (mvT hZ (hw _ (List.mem_of_getElem? (i := 126) rfl))) (mvT hZ (hw _ (List.mem_of_getElem? (i := 127) rfl))) (mvT hZ (hw _ (List.mem_of_getElem? (i := 113) rfl))) (mvT hZ (hw _ (List.mem_of_getElem? (i := 128) rfl))) (by decide) (backOf (W := 0) (rm12 l Z a0 hw [] de mr es kde h0 n0 Z0 XO WW) hZ (hw _ (List.mem_of_getElem? (i := 128) rfl)) (hw _ (List.mem_of_getElem? (i := 113) rfl)) (by decide) (by decide)) (g := (mkF m 5 #[.val (.ref oa), .val cv, .val mv_, .val (.ref es)] [(.ref es)])) rfl (by rw [hml]; rfl) (argsL := [(.ref es)]) (rest := []) (lenOf pd14_1 rfl) rfl (by show 2 * 0 + _ ≤ _; exact Nat.le_of_eq rfl) (hb hby d14_5) (fun _ _ => ⟨rfl, e1, (by decide : 0 + 0 ≤ _), (by decide : 0 + 0 ≤ _)⟩)
  dsimp only [Pt.U, Pt.locs, Pt.cells, Pt.slots] at X2 l2 y2 z2 st2 hQ2
  subst l2 y2 z2
  obtain ⟨rfl, Nq2, e2⟩ := hQ2
  have N2 := Fr.app N1 Nq2
  refine own_go (fun t k => st2 t k) ?_
  show own_Go p e below _ (T2.setTop (mkF m 8 #[.val (.ref oa), .val cv, .val mv_, .val (.ref es)] [(.ref es)]))
  refine own_go (fun t k => XS.astoreN X2.here hx rfl (hb hby d14_8) rfl rfl (l' := #[.val (.ref oa), .val cv, .val mv_, .val (.ref es)]) rfl k) ?_
  show own_Go p e below _ (T2.setTop (mkF m 9 #[.val (.ref oa), .val cv, .val mv_, .val (.ref es)] []))
  refine own_go (fun t k => XS.aloadN X2.here hx rfl (hb hby d14_9) rfl rfl k) ?_
  show own_Go p e below _ (T2.setTop (mkF m 10 #[.val (.ref oa), .val cv, .val mv_, .val (.ref es)] [(.ref oa)]))
  refine own_go (fun t k => XS.aloadN X2.here hx rfl (hb hby d14_10) rfl r_cv k) ?_
  show own_Go p e below _ (T2.setTop (mkF m 11 #[.val (.ref oa), .val cv, .val mv_, .val (.ref es)] [cv, (.ref oa)]))
  obtain ⟨T3, h3, X3, e3, W3, st3⟩ := putF X2 hx hZ hown (host := "") (Or.inl (hw _ (List.mem_of_getElem? (i := 133) rfl))) Via.refl e2 Fcomponent Ea (Or.inr ⟨(hw _ (List.mem_of_getElem? (i := 134) rfl)), rfl, hnm⟩) (hw _ (List.mem_of_getElem? (i := 110) rfl)) (ty := (.object "com/example/convoke/convoke/icalendar/Component")) (by decide) rfl (own_fits r_cv rfl) (g := (mkF m 11 #[.val (.ref oa), .val cv, .val mv_, .val (.ref es)] [cv, (.ref oa)])) rfl rfl (hb hby d14_11)
  have Fw3 := Fcomponent.same W3
  have XO__3 := XO.wr W3 g_oa
  have Ea__3 := Ea.wr W3
  have FmadeFor__3 := FmadeFor.other W3 (Or.inr (slot_ne (Or.inr (hw _ (List.mem_of_getElem? (i := 136) rfl))) (Or.inr (hw _ (List.mem_of_getElem? (i := 134) rfl))) (by decide) (t := (.object "java/lang/String")) (t' := (.object "com/example/convoke/convoke/icalendar/Component")) (by decide) (by decide)))
  have FmadeWithout__3 := FmadeWithout.other W3 (Or.inr (slot_ne (Or.inr (hw _ (List.mem_of_getElem? (i := 138) rfl))) (Or.inr (hw _ (List.mem_of_getElem? (i := 134) rfl))) (by decide) (t := (.object "java/util/Set")) (t' := (.object "com/example/convoke/convoke/icalendar/Component")) (by decide) (by decide)))
  have N3 := Fr.snoc X3 N2 g_oa
  have KP3 := (Keep.refl h0 [oa]).wr W3 (Or.inl (List.mem_of_getElem? (i := 0) rfl))
  have sz3 := Nat.le_trans Z0 (Keep.of_wr W3).1
  refine own_go (fun t k => st3 t k) ?_
  show own_Go p e below _ (T3.setTop (mkF m 14 #[.val (.ref oa), .val cv, .val mv_, .val (.ref es)] []))
  refine own_go (fun t k => XS.aloadN X3.here hx rfl (hb hby d14_14) rfl rfl k) ?_
  show own_Go p e below _ (T3.setTop (mkF m 15 #[.val (.ref oa), .val cv, .val mv_, .val (.ref es)] [(.ref oa)]))
  refine own_go (fun t k => XS.aloadN X3.here hx rfl (hb hby d14_15) rfl r_mv_ k) ?_
  show own_Go p e below _ (T3.setTop (mkF m 16 #[.val (.ref oa), .val cv, .val mv_, .val (.ref es)] [mv_, (.ref oa)]))
  obtain ⟨T4, h4, X4, e4, W4, st4⟩ := putF X3 hx hZ hown (host := "") (Or.inl (hw _ (List.mem_of_getElem? (i := 135) rfl))) Via.refl e3 FmadeFor__3 Ea__3 (Or.inr ⟨(hw _ (List.mem_of_getElem? (i := 136) rfl)), rfl, hnm⟩) (hw _ (List.mem_of_getElem? (i := 110) rfl)) (ty := (.object "java/lang/String")) (by decide) rfl (own_fits r_mv_ rfl) (g := (mkF m 16 #[.val (.ref oa), .val cv, .val mv_, .val (.ref es)] [mv_, (.ref oa)])) rfl rfl (hb hby d14_16)
  have Fw4 := FmadeFor__3.same W4
  have XO__4 := XO__3.wr W4 g_oa
  have Ea__4 := Ea__3.wr W4
  have Fw3__4 := Fw3.other W4 (Or.inr (slot_ne (Or.inr (hw _ (List.mem_of_getElem? (i := 134) rfl))) (Or.inr (hw _ (List.mem_of_getElem? (i := 136) rfl))) (by decide) (t := (.object "com/example/convoke/convoke/icalendar/Component")) (t' := (.object "java/lang/String")) (by decide) (by decide)))
  have FmadeWithout__4 := FmadeWithout__3.other W4 (Or.inr (slot_ne (Or.inr (hw _ (List.mem_of_getElem? (i := 138) rfl))) (Or.inr (hw _ (List.mem_of_getElem? (i := 136) rfl))) (by decide) (t := (.object "java/util/Set")) (t' := (.object "java/lang/String")) (by decide) (by decide)))
  have N4 := Fr.snoc X4 N3 g_oa
  have KP4 := KP3.wr W4 (Or.inl (List.mem_of_getElem? (i := 0) rfl))
  have sz4 := Nat.le_trans sz3 (Keep.of_wr W4).1
  refine own_go (fun t k => st4 t k) ?_
  show own_Go p e below _ (T4.setTop (mkF m 19 #[.val (.ref oa), .val cv, .val mv_, .val (.ref es)] []))
  refine own_go (fun t k => XS.aloadN X4.here hx rfl (hb hby d14_19) rfl rfl k) ?_
  show own_Go p e below _ (T4.setTop (mkF m 20 #[.val (.ref oa), .val cv, .val mv_, .val (.ref es)] [(.ref oa)]))
  refine own_go (fun t k => XS.aloadN X4.here hx rfl (hb hby d14_20) rfl rfl k) ?_
  show own_Go p e below _ (T4.setTop (mkF m 21 #[.val (.ref oa), .val cv, .val mv_, .val (.ref es)] [(.ref es), (.ref oa)]))
  obtain ⟨T5, h5, X5, e5, W5, st5⟩ := putF X4 hx hZ hown (host := "") (Or.inl (hw _ (List.mem_of_getElem? (i := 137) rfl))) Via.refl e4 FmadeWithout__4 Ea__4 (Or.inr ⟨(hw _ (List.mem_of_getElem? (i := 138) rfl)), rfl, hnm⟩) (hw _ (List.mem_of_getElem? (i := 110) rfl)) (ty := (.object "java/util/Set")) (by decide) rfl rfl (g := (mkF m 21 #[.val (.ref oa), .val cv, .val mv_, .val (.ref es)] [(.ref es), (.ref oa)])) rfl rfl (hb hby d14_21)
  have Fw5 := FmadeWithout__4.same W5
  have XO__5 := XO__4.wr W5 g_oa
  have Ea__5 := Ea__4.wr W5
  have Fw3__5 := Fw3__4.other W5 (Or.inr (slot_ne (Or.inr (hw _ (List.mem_of_getElem? (i := 134) rfl))) (Or.inr (hw _ (List.mem_of_getElem? (i := 138) rfl))) (by decide) (t := (.object "com/example/convoke/convoke/icalendar/Component")) (t' := (.object "java/util/Set")) (by decide) (by decide)))
  have Fw4__5 := Fw4.other W5 (Or.inr (slot_ne (Or.inr (hw _ (List.mem_of_getElem? (i := 136) rfl))) (Or.inr (hw _ (List.mem_of_getElem? (i := 138) rfl))) (by decide) (t := (.object "java/lang/String")) (t' := (.object "java/util/Set")) (by decide) (by decide)))
  have N5 := Fr.snoc X5 N4 g_oa
  have KP5 := KP4.wr W5 (Or.inl (List.mem_of_getElem? (i := 0) rfl))
  have sz5 := Nat.le_trans sz4 (Keep.of_wr W5).1
  refine own_go (fun t k => st5 t k) ?_
  show own_Go p e below _ (T5.setTop (mkF m 24 #[.val (.ref oa), .val cv, .val mv_, .val (.ref es)] []))
  exact own_ret0 X5 hx Bd.returns (hb hby d14_24) (by rw [e5]; exact ⟨rfl, N5, KP5, ⟨Ea__5, Fw3__5, Fw4__5, Fw5⟩⟩) (by decide) (by decide)
theorem d15_0 : decode prog_19_method_2_code 0 = .ok (.new 14, 3) := by decide +kernel
theorem d15_3 : decode prog_19_method_2_code 3 = .ok (.dup, 1) := by decide +kernel
theorem d15_4 : decode prog_19_method_2_code 4 = .ok (.aload_n 0, 1) := by decide +kernel
theorem d15_5 : decode prog_19_method_2_code 5 = .ok (.aconst_null, 1) := by decide +kernel
theorem d15_6 : decode prog_19_method_2_code 6 = .ok (.invokestatic 27, 3) := by decide +kernel
theorem d15_9 : decode prog_19_method_2_code 9 = .ok (.invokespecial 31, 3) := by decide +kernel
theorem d15_12 : decode prog_19_method_2_code 12 = .ok (.areturn, 1) := by decide +kernel
theorem pn15 : plainName "com/example/convoke/convoke/apply/KeptOverride" = true := by first | (simp [plainName, overriddenIn]; done) | decide +kernel
theorem pd15_0 : parseMethodDescriptor "()Ljava/util/Set;" = some ⟨[], some (.object "java/util/Set")⟩ := by decide +kernel
theorem pd15_1 : parseMethodDescriptor "(Lcom/example/convoke/convoke/icalendar/Component;Ljava/lang/String;Ljava/util/Set;)V" = some ⟨[(.object "com/example/convoke/convoke/icalendar/Component"), (.object "java/lang/String"), (.object "java/util/Set")], none⟩ := by decide +kernel
theorem ef15 (m : MethodId) (x0 : Value) (r_x0 : x0.isRef = true) : entryFrame m #[x0] 1 = mkF m 0 #[.val x0] [] := by
  have c_x0 := own_cat1 r_x0
  simp [entryFrame, mkF, argsToLocals, own_catR, own_catI, own_catJ, own_catN, c_x0]
def own_QK (Z : State) (cv mv_ : Value) (es : Addr) (h0 : Heap) (n0 : Nat) (v : Option Value) (h : Heap) (L : List Loc) : Prop := ∃ b : Addr, v = some (.ref b) ∧ Fr n0 L ∧ Keep h0 h [] ∧ h0.size ≤ b ∧ own_KO Z h b cv mv_ (.ref es)
set_option maxRecDepth 65536 in
set_option maxHeartbeats 40000000 in
theorem rm15 (l : Launch) (Z : State) (a0 : Array Value) (hw : ∀ d ∈ tables_1, d.before a0 Z = true) (ws : List Jvm.Cond) (cv : Value) (de mr es : Addr) (kde : ClassId) (h0 : Heap) (n0 : Nat) (Z0 : n0 ≤ h0.size) (r_cv : cv.isRef = true) (XO : Old Z n0 h0) (WW : own_W Z de mr es kde) :
    MetFree l (⟨"com/example/convoke/convoke/apply/KeptOverride", "received", "(Lcom/example/convoke/convoke/icalendar/Component;)Lcom/example/convoke/convoke/apply/KeptOverride;"⟩ : MethodName) (head1 (Jvm.Cond.code (⟨"com/example/convoke/convoke/apply/KeptOverride", "received", "(Lcom/example/convoke/convoke/icalendar/Component;)Lcom/example/convoke/convoke/apply/KeptOverride;"⟩ : MethodName) prog_19_method_2_code 1 (some (.object "com/example/convoke/convoke/apply/KeptOverride")) :: ws) ({ frames := 3, cells := 1, slots := 3, locals := 40 } : Room)) (fun a U => a = #[cv] ∧ Z.Warmed39 U.vm ∧ U.heap = h0) (fun _ _ _ _ _ => True) (fun _ U o U' => ∃ v L, o = .returned v ∧ own_QK Z cv .null es h0 n0 v U'.heap L ∧ FrameEnd U o U' L ({ frames := 3, cells := 1, slots := 3, locals := 40 } : Room).cells ({ frames := 3, cells := 1, slots := 3, locals := 40 } : Room).slots) := by
  refine MetFree.of_bodySF (plainFor_of_name pn15) hisR ?_
  intro p e s m args below meth c s₁ Bd hml0 hP hK
  obtain ⟨rfl, hZ, hh⟩ := hP
  have hx := Bd.exec
  have hby := Bd.bytes
  have hml : c.maxLocals = 1 := hml0
  have hown : s.vm.findClass "com/example/convoke/convoke/apply/KeptOverride" = some m.cls := findClass_of_methodNamed Bd.named
  have hnm := (name_of_methodNamed Bd.named Bd.method).1
  have hlk : meth.locks = false := Bd.notSynchronized
  have X0 : Stand p l e ({ frames := 3, cells := 1, slots := 3, locals := 40 } : Room) s m #[cv] below meth c s₁ [] 0 0 := Stand.of_body Bd
  have e0 : s₁.heap = h0 := by rw [← hh, Bd.state]; rfl
  have N0 := Fr.nil n0
  refine own_go (fun t k => castTop (ef15 m cv r_cv) k) ?_
  obtain ⟨⟨cs, hcs, SC⟩, SDE, ADE, EDE, MR, SES, EES⟩ := id WW
  show own_Go p e below _ (s₁.setTop (mkF m 0 #[.val cv] []))
  obtain ⟨T1, h1, X1, e1, E1, A1, D1, -, st1⟩ := newO X0 hx hZ hown (hw _ (List.mem_of_getElem? (i := 109) rfl)) (hw _ (List.mem_of_getElem? (i := 110) rfl)) (hw _ (List.mem_of_getElem? (i := 107) rfl)) e0 (g := (mkF m 0 #[.val cv] [])) rfl (hb hby d15_0) (by decide) (by decide)
  obtain ⟨b1, g1⟩ : ∃ z, z = h0.size := ⟨_, rfl⟩
  rw [← g1] at A1 D1 st1
  have g_b1 : n0 ≤ b1 := Nat.le_trans Z0 (Nat.le_of_eq g1.symm)
  have sz_b1 : h0.size ≤ b1 := Nat.le_trans (Keep.refl h0 []).1 (Nat.le_of_eq g1.symm)
  have XO__1 := XO.ext E1
  have sz1 := Nat.le_trans Z0 E1.1
  have KP1 := (Keep.refl h0 []).ext E1
  have F1_component : Fld Z h1 b1 "com/example/convoke/convoke/apply/KeptOverride" "component" "Lcom/example/convoke/convoke/icalendar/Component;" .null := D1 (Or.inr (hw _ (List.mem_of_getElem? (i := 134) rfl))) (ty := (.object "com/example/convoke/convoke/icalendar/Component")) (by decide)
  have F1_madeFor : Fld Z h1 b1 "com/example/convoke/convoke/apply/KeptOverride" "madeFor" "Ljava/lang/String;" .null := D1 (Or.inr (hw _ (List.mem_of_getElem? (i := 136) rfl))) (ty := (.object "java/lang/String")) (by decide)
  have F1_madeWithout : Fld Z h1 b1 "com/example/convoke/convoke/apply/KeptOverride" "madeWithout" "Ljava/util/Set;" .null := D1 (Or.inr (hw _ (List.mem_of_getElem? (i := 138) rfl))) (ty := (.object "java/util/Set")) (by decide)
  refine own_go (fun t k => st1 t k) ?_
  show own_Go p e below _ (T1.setTop (mkF m 3 #[.val cv] [(.ref b1)]))
  refine own_go (fun t k => XS.dup X1.here hx rfl (hb hby d15_3) rfl rfl k) ?_
  show own_Go p e below _ (T1.setTop (mkF m 4 #[.val cv] [(.ref b1), (.ref b1)]))
  refine own_go (fun t k => XS.aloadN X1.here hx rfl (hb hby d15_4) rfl r_cv k) ?_
  show own_Go p e below _ (T1.setTop (mkF m 5 #[.val cv] [cv, (.ref b1), (.ref b1)]))
  refine own_go (fun t k => XS.aconstNull X1.here hx rfl (hb hby d15_5) k) ?_
  show own_Go p e below _ (T1.setTop (mkF m 6 #[.val cv] [.null, cv, (.ref b1), (.ref b1)]))
  obtain ⟨_, _, ⟨T2, L2, k2, n2⟩, -, X2, ⟨Lc2, hQ2, l2, y2, z2⟩, st2⟩ := Jvm.LawKit.callS X1 hx (y := (⟨"java/util/Set", "of", "()Ljava/util/Set;"⟩ : MethodName)) hown (mvT hZ (hw _ (List.mem_of_getElem? (i := 111) rfl))) (mvT hZ (hw _ (List.mem_of_getElem? (i := 112) rfl))) (mvT hZ (hw _ (List.mem_of_getElem? (i := 113) rfl))) (mvT hZ (hw _ (List.mem_of_getElem? (i := 114) rfl))) (by decide) (backOf (W := 4) (rm11 l Z a0 hw [] de mr es kde h1 n0 sz1 XO__1 WW) hZ (hw _ (List.mem_of_getElem? (i := 114) rfl)) (hw _ (List.mem_of_getElem? (i := 113) rfl)) (by decide) (by decide)) (g := (mkF m 6 #[.val cv] [.null, cv, (.ref b1), (.ref b1)])) rfl (by rw [hml]; rfl) (argsL := []) (rest := [.null, cv, (.ref b1), (.ref b1)]) (lenOf pd15_0 rfl) rfl (by show 2 * 0 + _ ≤ _; simp [own_catR, own_catI, own_catJ, own_catN, own_cat1 r_cv]) (hb hby d15_6) (fun _ _ => ⟨rfl, e1, (by decide : 0 + 1 + 0 ≤ _), (by decide : 0 + 3 + 0 ≤ _)⟩)
  dsimp only [Pt.U, Pt.locs, Pt.cells, Pt.slots] at X2 l2 y2 z2 st2 hQ2
  subst l2 y2 z2
  obtain ⟨rfl, Nq2, e2⟩ := hQ2
  have N2 := Fr.app N0 Nq2
  refine own_go (fun t k => st2 t k) ?_
  show own_Go p e below _ (T2.setTop (mkF m 9 #[.val cv] [(.ref es), .null, cv, (.ref b1), (.ref b1)]))
  obtain ⟨_, _, ⟨T3, L3, k3, n3⟩, -, X3, ⟨Lc3, hQ3, l3, y3, z3⟩, st3⟩ := X2.specialBack hx (y := (⟨"com/example/convoke/convoke/apply/KeptOverride", "<init>", "(Lcom/example/convoke/convoke/icalendar/Component;Ljava/lang/String;Ljava/util/Set;)V"⟩ : MethodName)) rfl hown (mvT hZ (hw _ (List.mem_of_getElem? (i := 117) rfl))) (mvT hZ (hw _ (List.mem_of_getElem? (i := 118) rfl))) (mvT hZ (hw _ (List.mem_of_getElem? (i := 119) rfl))) (by decide) (backOf (W := 1) (rm14 l Z a0 hw [] b1 cv .null de mr es kde h1 n0 sz1 ⟨A1, F1_component, F1_madeFor, F1_madeWithout⟩ g_b1 r_cv rfl XO__1 WW) hZ (hw _ (List.mem_of_getElem? (i := 119) rfl)) (hw _ (List.mem_of_getElem? (i := 107) rfl)) (by decide) (by decide)) (g := (mkF m 9 #[.val cv] [(.ref es), .null, cv, (.ref b1), (.ref b1)])) rfl (by rw [hml]; rfl) (Steps.refl _) (a := b1) (argsL := [cv, .null, (.ref es)]) (rest := [(.ref b1)]) (lenOf pd15_1 rfl) rfl (by show 2 * 0 + _ ≤ _; exact Nat.le_of_eq rfl) (hb hby d15_9) (fun _ _ => ⟨rfl, e2, (by decide : 0 + 1 + 0 ≤ _), (by decide : 0 + 3 + 0 ≤ _)⟩)
  dsimp only [Pt.U, Pt.locs, Pt.cells, Pt.slots] at X3 l3 y3 z3 st3 hQ3
  subst l3 y3 z3
  obtain ⟨rfl, Nq3, K3, G3⟩ := hQ3
  have N3 := Fr.app N2 Nq3
  refine own_go (fun t k => st3.trans k) ?_
  have XO__3 := XO__1.keep K3 (allS g_b1 all0)
  have A1__3 := A1.keep K3
  have KP3 := KP1.trans K3 (allS (Or.inr sz_b1) all0)
  have sz3 := Nat.le_trans sz1 K3.1
  show own_Go p e below _ (T3.setTop (mkF m 12 #[.val cv] [(.ref b1)]))
  exact own_retA X3 hx Bd.returns rfl rfl (hb hby d15_12) (⟨_, rfl, N3, KP3, sz_b1, G3⟩) (by decide) (by decide)
theorem d16_0 : decode prog_19_method_10_code 0 = .ok (.new 14, 3) := by decide +kernel
theorem d16_3 : decode prog_19_method_10_code 3 = .ok (.dup, 1) := by decide +kernel
theorem d16_4 : decode prog_19_method_10_code 4 = .ok (.aload_n 1, 1) := by decide +kernel
theorem d16_5 : decode prog_19_method_10_code 5 = .ok (.aload_n 0, 1) := by decide +kernel
theorem d16_6 : decode prog_19_method_10_code 6 = .ok (.getfield 19, 3) := by decide +kernel
theorem d16_9 : decode prog_19_method_10_code 9 = .ok (.aload_n 0, 1) := by decide +kernel
theorem d16_10 : decode prog_19_method_10_code 10 = .ok (.getfield 23, 3) := by decide +kernel
theorem d16_13 : decode prog_19_method_10_code 13 = .ok (.invokespecial 31, 3) := by decide +kernel
theorem d16_16 : decode prog_19_method_10_code 16 = .ok (.areturn, 1) := by decide +kernel
theorem pn16 : plainName "com/example/convoke/convoke/apply/KeptOverride" = true := by first | (simp [plainName, overriddenIn]; done) | decide +kernel
theorem pd16_0 : parseMethodDescriptor "(Lcom/example/convoke/convoke/icalendar/Component;Ljava/lang/String;Ljava/util/Set;)V" = some ⟨[(.object "com/example/convoke/convoke/icalendar/Component"), (.object "java/lang/String"), (.object "java/util/Set")], none⟩ := by decide +kernel
theorem ef16 (m : MethodId) (x0 : Addr) (x1 : Value) (r_x1 : x1.isRef = true) : entryFrame m #[(.ref x0), x1] 2 = mkF m 0 #[.val (.ref x0), .val x1] [] := by
  have c_x1 := own_cat1 r_x1
  simp [entryFrame, mkF, argsToLocals, own_catR, own_catI, own_catJ, own_catN, c_x1]
set_option maxRecDepth 65536 in
set_option maxHeartbeats 40000000 in
theorem rm16 (l : Launch) (Z : State) (a0 : Array Value) (hw : ∀ d ∈ tables_1, d.before a0 Z = true) (ws : List Jvm.Cond) (oa : Addr) (cv mv_ dv : Value) (de mr es : Addr) (kde : ClassId) (h0 : Heap) (n0 : Nat) (Z0 : n0 ≤ h0.size) (G : own_KO Z h0 oa cv mv_ (.ref es)) (r_mv_ : mv_.isRef = true) (r_dv : dv.isRef = true) (XO : Old Z n0 h0) (WW : own_W Z de mr es kde) :
    MetFree l (⟨"com/example/convoke/convoke/apply/KeptOverride", "with", "(Lcom/example/convoke/convoke/icalendar/Component;)Lcom/example/convoke/convoke/apply/KeptOverride;"⟩ : MethodName) (head1 (Jvm.Cond.code (⟨"com/example/convoke/convoke/apply/KeptOverride", "with", "(Lcom/example/convoke/convoke/icalendar/Component;)Lcom/example/convoke/convoke/apply/KeptOverride;"⟩ : MethodName) prog_19_method_10_code 2 (some (.object "com/example/convoke/convoke/apply/KeptOverride")) :: ws) ({ frames := 3, cells := 1, slots := 3, locals := 40 } : Room)) (fun a U => a = #[(.ref oa), dv] ∧ Z.Warmed39 U.vm ∧ U.heap = h0) (fun _ _ _ _ _ => True) (fun _ U o U' => ∃ v L, o = .returned v ∧ own_QK Z dv mv_ es h0 n0 v U'.heap L ∧ FrameEnd U o U' L ({ frames := 3, cells := 1, slots := 3, locals := 40 } : Room).cells ({ frames := 3, cells := 1, slots := 3, locals := 40 } : Room).slots) := by
  refine MetFree.of_bodySF (plainFor_of_name pn16) hisR ?_
  intro p e s m args below meth c s₁ Bd hml0 hP hK
  obtain ⟨rfl, hZ, hh⟩ := hP
  have hx := Bd.exec
  have hby := Bd.bytes
  have hml : c.maxLocals = 2 := hml0
  have hown : s.vm.findClass "com/example/convoke/convoke/apply/KeptOverride" = some m.cls := findClass_of_methodNamed Bd.named
  have hnm := (name_of_methodNamed Bd.named Bd.method).1
  have hlk : meth.locks = false := Bd.notSynchronized
  have X0 : Stand p l e ({ frames := 3, cells := 1, slots := 3, locals := 40 } : Room) s m #[(.ref oa), dv] below meth c s₁ [] 0 0 := Stand.of_body Bd
  have e0 : s₁.heap = h0 := by rw [← hh, Bd.state]; rfl
  have N0 := Fr.nil n0
  refine own_go (fun t k => castTop (ef16 m oa dv r_dv) k) ?_
  obtain ⟨⟨cs, hcs, SC⟩, SDE, ADE, EDE, MR, SES, EES⟩ := id WW
  show own_Go p e below _ (s₁.setTop (mkF m 0 #[.val (.ref oa), .val dv] []))
  obtain ⟨T1, h1, X1, e1, E1, A1, D1, -, st1⟩ := newO X0 hx hZ hown (hw _ (List.mem_of_getElem? (i := 109) rfl)) (hw _ (List.mem_of_getElem? (i := 110) rfl)) (hw _ (List.mem_of_getElem? (i := 107) rfl)) e0 (g := (mkF m 0 #[.val (.ref oa), .val dv] [])) rfl (hb hby d16_0) (by decide) (by decide)
  obtain ⟨b1, g1⟩ : ∃ z, z = h0.size := ⟨_, rfl⟩
  rw [← g1] at A1 D1 st1
  have g_b1 : n0 ≤ b1 := Nat.le_trans Z0 (Nat.le_of_eq g1.symm)
  have sz_b1 : h0.size ≤ b1 := Nat.le_trans (Keep.refl h0 []).1 (Nat.le_of_eq g1.symm)
  have ne_oa_b1 : oa ≠ b1 := Nat.ne_of_lt (Nat.lt_of_lt_of_le G.1.lt (Nat.le_of_eq g1.symm))
  have XO__1 := XO.ext E1
  have G__1 := G.ext E1
  have sz1 := Nat.le_trans Z0 E1.1
  have KP1 := (Keep.refl h0 []).ext E1
  have F1_component : Fld Z h1 b1 "com/example/convoke/convoke/apply/KeptOverride" "component" "Lcom/example/convoke/convoke/icalendar/Component;" .null := D1 (Or.inr (hw _ (List.mem_of_getElem? (i := 134) rfl))) (ty := (.object "com/example/convoke/convoke/icalendar/Component")) (by decide)
  have F1_madeFor : Fld Z h1 b1 "com/example/convoke/convoke/apply/KeptOverride" "madeFor" "Ljava/lang/String;" .null := D1 (Or.inr (hw _ (List.mem_of_getElem? (i := 136) rfl))) (ty := (.object "java/lang/String")) (by decide)
  have F1_madeWithout : Fld Z h1 b1 "com/example/convoke/convoke/apply/KeptOverride" "madeWithout" "Ljava/util/Set;" .null := D1 (Or.inr (hw _ (List.mem_of_getElem? (i := 138) rfl))) (ty := (.object "java/util/Set")) (by decide)
  refine own_go (fun t k => st1 t k) ?_
  show own_Go p e below _ (T1.setTop (mkF m 3 #[.val (.ref oa), .val dv] [(.ref b1)]))
  refine own_go (fun t k => XS.dup X1.here hx rfl (hb hby d16_3) rfl rfl k) ?_
  show own_Go p e below _ (T1.setTop (mkF m 4 #[.val (.ref oa), .val dv] [(.ref b1), (.ref b1)]))
  refine own_go (fun t k => XS.aloadN X1.here hx rfl (hb hby d16_4) rfl r_dv k) ?_
  show own_Go p e below _ (T1.setTop (mkF m 5 #[.val (.ref oa), .val dv] [dv, (.ref b1), (.ref b1)]))
  refine own_go (fun t k => XS.aloadN X1.here hx rfl (hb hby d16_5) rfl rfl k) ?_
  show own_Go p e below _ (T1.setTop (mkF m 6 #[.val (.ref oa), .val dv] [(.ref oa), dv, (.ref b1), (.ref b1)]))
  obtain ⟨T2, X2, e2, st2⟩ := getF X1 hx hZ hown (host := "") (Or.inl (hw _ (List.mem_of_getElem? (i := 135) rfl))) Via.refl e1 G__1.2.2.1 (g := (mkF m 6 #[.val (.ref oa), .val dv] [(.ref oa), dv, (.ref b1), (.ref b1)])) rfl rfl (hb hby d16_6)
  refine own_go (fun t k => st2 t k) ?_
  show own_Go p e below _ (T2.setTop (mkF m 9 #[.val (.ref oa), .val dv] [mv_, dv, (.ref b1), (.ref b1)]))
  refine own_go (fun t k => XS.aloadN X2.here hx rfl (hb hby d16_9) rfl rfl k) ?_
  show own_Go p e below _ (T2.setTop (mkF m 10 #[.val (.ref oa), .val dv] [(.ref oa), mv_, dv, (.ref b1), (.ref b1)]))
  obtain ⟨T3, X3, e3, st3⟩ := getF X2 hx hZ hown (host := "") (Or.inl (hw _ (List.mem_of_getElem? (i := 137) rfl))) Via.refl e2 G__1.2.2.2 (g := (mkF m 10 #[.val (.ref oa), .val dv] [(.ref oa), mv_, dv, (.ref b1), (.ref b1)])) rfl rfl (hb hby d16_10)
  refine own_go (fun t k => st3 t k) ?_
  show own_Go p e below _ (T3.setTop (mkF m 13 #[.val (.ref oa), .val dv] [(.ref es), mv_, dv, (.ref b1), (.ref b1)]))
  obtain ⟨_, _, ⟨T4, L4, k4, n4⟩, -, X4, ⟨Lc4, hQ4, l4, y4, z4⟩, st4⟩ := X3.specialBack hx (y := (⟨"com/example/convoke/convoke/apply/KeptOverride", "<init>", "(Lcom/example/convoke/convoke/icalendar/Component;Ljava/lang/String;Ljava/util/Set;)V"⟩ : MethodName)) rfl hown (mvT hZ (hw _ (List.mem_of_getElem? (i := 117) rfl))) (mvT hZ (hw _ (List.mem_of_getElem? (i := 118) rfl))) (mvT hZ (hw _ (List.mem_of_getElem? (i := 119) rfl))) (by decide) (backOf (W := 1) (rm14 l Z a0 hw [] b1 dv mv_ de mr es kde h1 n0 sz1 ⟨A1, F1_component, F1_madeFor, F1_madeWithout⟩ g_b1 r_dv r_mv_ XO__1 WW) hZ (hw _ (List.mem_of_getElem? (i := 119) rfl)) (hw _ (List.mem_of_getElem? (i := 107) rfl)) (by decide) (by decide)) (g := (mkF m 13 #[.val (.ref oa), .val dv] [(.ref es), mv_, dv, (.ref b1), (.ref b1)])) rfl (by rw [hml]; rfl) (Steps.refl _) (a := b1) (argsL := [dv, mv_, (.ref es)]) (rest := [(.ref b1)]) (lenOf pd16_0 rfl) rfl (by show 2 * 0 + _ ≤ _; exact Nat.le_of_eq rfl) (hb hby d16_13) (fun _ _ => ⟨rfl, e3, (by decide : 0 + 1 + 0 ≤ _), (by decide : 0 + 3 + 0 ≤ _)⟩)
  dsimp only [Pt.U, Pt.locs, Pt.cells, Pt.slots] at X4 l4 y4 z4 st4 hQ4
  subst l4 y4 z4
  obtain ⟨rfl, Nq4, K4, G4⟩ := hQ4
  have N4 := Fr.app N0 Nq4
  refine own_go (fun t k => st4.trans k) ?_
  have XO__4 := XO__1.keep K4 (allS g_b1 all0)
  have G__4 := G__1.keep K4 (ninS ne_oa_b1 nin0)
  have A1__4 := A1.keep K4
  have KP4 := KP1.trans K4 (allS (Or.inr sz_b1) all0)
  have sz4 := Nat.le_trans sz1 K4.1
  show own_Go p e below _ (T4.setTop (mkF m 16 #[.val (.ref oa), .val dv] [(.ref b1)]))
  exact own_retA X4 hx Bd.returns rfl rfl (hb hby d16_16) (⟨_, rfl, N4, KP4, sz_b1, G4⟩) (by decide) (by decide)
theorem d17_0 : decode prog_19_method_26_code 0 = .ok (.aload_n 0, 1) := by decide +kernel
theorem d17_1 : decode prog_19_method_26_code 1 = .ok (.getfield 23, 3) := by decide +kernel
theorem d17_4 : decode prog_19_method_26_code 4 = .ok (.areturn, 1) := by decide +kernel
theorem pn17 : plainName "com/example/convoke/convoke/apply/KeptOverride" = true := by first | (simp [plainName, overriddenIn]; done) | decide +kernel
theorem ef17 (m : MethodId) (x0 : Addr) : entryFrame m #[(.ref x0)] 1 = mkF m 0 #[.val (.ref x0)] [] := by first | (simp [entryFrame, mkF, argsToLocals, Value.category]; done) | rfl
set_option maxRecDepth 65536 in
set_option maxHeartbeats 40000000 in
theorem rm17 (l : Launch) (Z : State) (a0 : Array Value) (hw : ∀ d ∈ tables_1, d.before a0 Z = true) (ws : List Jvm.Cond) (oa : Addr) (cv mv_ : Value) (de mr es : Addr) (kde : ClassId) (h0 : Heap) (n0 : Nat) (Z0 : n0 ≤ h0.size) (G : own_KO Z h0 oa cv mv_ (.ref es)) (XO : Old Z n0 h0) (WW : own_W Z de mr es kde) :
    MetFree l (⟨"com/example/convoke/convoke/apply/KeptOverride", "madeWithout", "()Ljava/util/Set;"⟩ : MethodName) (head1 (Jvm.Cond.code (⟨"com/example/convoke/convoke/apply/KeptOverride", "madeWithout", "()Ljava/util/Set;"⟩ : MethodName) prog_19_method_26_code 1 (some (.object "java/util/Set")) :: ws) ({ frames := 0, cells := 0, slots := 0, locals := 0 } : Room)) (fun a U => a = #[(.ref oa)] ∧ Z.Warmed39 U.vm ∧ U.heap = h0) (fun _ _ _ _ _ => True) (fun _ U o U' => ∃ v L, o = .returned v ∧ own_Qe es h0 n0 v U'.heap L ∧ FrameEnd U o U' L ({ frames := 0, cells := 0, slots := 0, locals := 0 } : Room).cells ({ frames := 0, cells := 0, slots := 0, locals := 0 } : Room).slots) := by
  refine MetFree.of_bodySF (plainFor_of_name pn17) hisR ?_
  intro p e s m args below meth c s₁ Bd hml0 hP hK
  obtain ⟨rfl, hZ, hh⟩ := hP
  have hx := Bd.exec
  have hby := Bd.bytes
  have hml : c.maxLocals = 1 := hml0
  have hown : s.vm.findClass "com/example/convoke/convoke/apply/KeptOverride" = some m.cls := findClass_of_methodNamed Bd.named
  have hnm := (name_of_methodNamed Bd.named Bd.method).1
  have hlk : meth.locks = false := Bd.notSynchronized
  have X0 : Stand p l e ({ frames := 0, cells := 0, slots := 0, locals := 0 } : Room) s m #[(.ref oa)] below meth c s₁ [] 0 0 := Stand.of_body Bd
  have e0 : s₁.heap = h0 := by rw [← hh, Bd.state]; rfl
  have N0 := Fr.nil n0
  refine own_go (fun t k => castTop (ef17 m oa) k) ?_
  obtain ⟨⟨cs, hcs, SC⟩, SDE, ADE, EDE, MR, SES, EES⟩ := id WW
  show own_Go p e below _ (s₁.setTop (mkF m 0 #[.val (.ref oa)] []))
  refine own_go (fun t k => XS.aloadN X0.here hx rfl (hb hby d17_0) rfl rfl k) ?_
  show own_Go p e below _ (s₁.setTop (mkF m 1 #[.val (.ref oa)] [(.ref oa)]))
  obtain ⟨T1, X1, e1, st1⟩ := getF X0 hx hZ hown (host := "") (Or.inl (hw _ (List.mem_of_getElem? (i := 137) rfl))) Via.refl e0 G.2.2.2 (g := (mkF m 1 #[.val (.ref oa)] [(.ref oa)])) rfl rfl (hb hby d17_1)
  refine own_go (fun t k => st1 t k) ?_
  show own_Go p e below _ (T1.setTop (mkF m 4 #[.val (.ref oa)] [(.ref es)]))
  exact own_retA X1 hx Bd.returns rfl rfl (hb hby d17_4) (by rw [e1]; exact ⟨rfl, N0, rfl⟩) (by decide) (by decide)
def own_nn : Value → Int32
  | .null => 0
  | _ => 1
theorem d18_0 : decode prog_19_method_9_code 0 = .ok (.aload_n 0, 1) := by decide +kernel
theorem d18_1 : decode prog_19_method_9_code 1 = .ok (.getfield 19, 3) := by decide +kernel
theorem d18_4 : decode prog_19_method_9_code 4 = .ok (.ifnull 7, 3) := by decide +kernel
theorem d18_7 : decode prog_19_method_9_code 7 = .ok (.iconst 1, 1) := by decide +kernel
theorem d18_8 : decode prog_19_method_9_code 8 = .ok (.goto 4, 3) := by decide +kernel
theorem d18_11 : decode prog_19_method_9_code 11 = .ok (.iconst 0, 1) := by decide +kernel
theorem d18_12 : decode prog_19_method_9_code 12 = .ok (.ireturn, 1) := by decide +kernel
theorem pn18 : plainName "com/example/convoke/convoke/apply/KeptOverride" = true := by first | (simp [plainName, overriddenIn]; done) | decide +kernel
theorem ef18 (m : MethodId) (x0 : Addr) : entryFrame m #[(.ref x0)] 1 = mkF m 0 #[.val (.ref x0)] [] := by first | (simp [entryFrame, mkF, argsToLocals, Value.category]; done) | rfl
def own_Qm (mv_ : Value) (h0 : Heap) (n0 : Nat) (v : Option Value) (h : Heap) (L : List Loc) : Prop := v = some (.int (own_nn mv_)) ∧ Fr n0 L ∧ h = h0
set_option maxRecDepth 65536 in
set_option maxHeartbeats 40000000 in
theorem rm18 (l : Launch) (Z : State) (a0 : Array Value) (hw : ∀ d ∈ tables_1, d.before a0 Z = true) (ws : List Jvm.Cond) (oa : Addr) (cv mv_ : Value) (de mr es : Addr) (kde : ClassId) (h0 : Heap) (n0 : Nat) (Z0 : n0 ≤ h0.size) (G : own_KO Z h0 oa cv mv_ (.ref es)) (r_mv_ : mv_.isRef = true) (XO : Old Z n0 h0) (WW : own_W Z de mr es kde) :
    MetFree l (⟨"com/example/convoke/convoke/apply/KeptOverride", "isMade", "()Z"⟩ : MethodName) (head1 (Jvm.Cond.code (⟨"com/example/convoke/convoke/apply/KeptOverride", "isMade", "()Z"⟩ : MethodName) prog_19_method_9_code 1 (some .boolean) :: ws) ({ frames := 0, cells := 0, slots := 0, locals := 0 } : Room)) (fun a U => a = #[(.ref oa)] ∧ Z.Warmed39 U.vm ∧ U.heap = h0) (fun _ _ _ _ _ => True) (fun _ U o U' => ∃ v L, o = .returned v ∧ own_Qm mv_ h0 n0 v U'.heap L ∧ FrameEnd U o U' L ({ frames := 0, cells := 0, slots := 0, locals := 0 } : Room).cells ({ frames := 0, cells := 0, slots := 0, locals := 0 } : Room).slots) := by
  refine MetFree.of_bodySF (plainFor_of_name pn18) hisR ?_
  intro p e s m args below meth c s₁ Bd hml0 hP hK
  obtain ⟨rfl, hZ, hh⟩ := hP
  have hx := Bd.exec
  have hby := Bd.bytes
  have hml : c.maxLocals = 1 := hml0
  have hown : s.vm.findClass "com/example/convoke/convoke/apply/KeptOverride" = some m.cls := findClass_of_methodNamed Bd.named
  have hnm := (name_of_methodNamed Bd.named Bd.method).1
  have hlk : meth.locks = false := Bd.notSynchronized
  have X0 : Stand p l e ({ frames := 0, cells := 0, slots := 0, locals := 0 } : Room) s m #[(.ref oa)] below meth c s₁ [] 0 0 := Stand.of_body Bd
  have e0 : s₁.heap = h0 := by rw [← hh, Bd.state]; rfl
  have N0 := Fr.nil n0
  refine own_go (fun t k => castTop (ef18 m oa) k) ?_
  obtain ⟨⟨cs, hcs, SC⟩, SDE, ADE, EDE, MR, SES, EES⟩ := id WW
  show own_Go p e below _ (s₁.setTop (mkF m 0 #[.val (.ref oa)] []))
  refine own_go (fun t k => XS.aloadN X0.here hx rfl (hb hby d18_0) rfl rfl k) ?_
  show own_Go p e below _ (s₁.setTop (mkF m 1 #[.val (.ref oa)] [(.ref oa)]))
  obtain ⟨T1, X1, e1, st1⟩ := getF X0 hx hZ hown (host := "") (Or.inl (hw _ (List.mem_of_getElem? (i := 135) rfl))) Via.refl e0 G.2.2.1 (g := (mkF m 1 #[.val (.ref oa)] [(.ref oa)])) rfl rfl (hb hby d18_1)
  refine own_go (fun t k => st1 t k) ?_
  show own_Go p e below _ (T1.setTop (mkF m 4 #[.val (.ref oa)] [mv_]))
  rcases ref_cases r_mv_ with rfl | ⟨a_mv_, rfl⟩
  · refine own_go (fun t k => XS.ifnullYes X1.here hx rfl (pc0 := 4) (pc' := 11) rfl (hb hby d18_4) rfl (by decide) (by decide) k) ?_
    show own_Go p e below _ (T1.setTop (mkF m 11 #[.val (.ref oa)] []))
    refine own_go (fun t k => XS.iconst X1.here hx rfl (hb hby d18_11) k) ?_
    show own_Go p e below _ (T1.setTop (mkF m 12 #[.val (.ref oa)] [(.int (0 : Int32))]))
    exact own_retN X1 hx (t := .boolean) Bd.returns (by simp) (hb hby d18_12) (by rw [e1]; exact ⟨rfl, N0, rfl⟩) (by decide) (by decide)
  · refine own_go (fun t k => XS.ifnullNo X1.here hx rfl (hb hby d18_4) rfl k) ?_
    show own_Go p e below _ (T1.setTop (mkF m 7 #[.val (.ref oa)] []))
    refine own_go (fun t k => XS.iconst X1.here hx rfl (hb hby d18_7) k) ?_
    show own_Go p e below _ (T1.setTop (mkF m 8 #[.val (.ref oa)] [(.int (1 : Int32))]))
    refine own_go (fun t k => XS.goto X1.here hx rfl (pc0 := 8) (pc' := 12) rfl (hb hby d18_8) (by decide) (by decide) k) ?_
    show own_Go p e below _ (T1.setTop (mkF m 12 #[.val (.ref oa)] [(.int (1 : Int32))]))
    exact own_retN X1 hx (t := .boolean) Bd.returns (by simp) (hb hby d18_12) (by rw [e1]; exact ⟨rfl, N0, rfl⟩) (by decide) (by decide)
theorem d19_0 : decode method_3_code 0 = .ok (.iload_n 0, 1) := by decide +kernel
theorem d19_1 : decode method_3_code 1 = .ok (.iconst 1, 1) := by decide +kernel
theorem d19_2 : decode method_3_code 2 = .ok (.iand, 1) := by decide +kernel
theorem d19_3 : decode method_3_code 3 = .ok (.ifCond .ne 5, 3) := by decide +kernel
theorem d19_6 : decode method_3_code 6 = .ok (.aconst_null, 1) := by decide +kernel
theorem d19_7 : decode method_3_code 7 = .ok (.areturn, 1) := by decide +kernel
theorem d19_8 : decode method_3_code 8 = .ok (.iload_n 0, 1) := by decide +kernel
theorem d19_9 : decode method_3_code 9 = .ok (.iconst 1, 1) := by decide +kernel
theorem d19_10 : decode method_3_code 10 = .ok (.iushr, 1) := by decide +kernel
theorem d19_11 : decode method_3_code 11 = .ok (.iconst 3, 1) := by decide +kernel
theorem d19_12 : decode method_3_code 12 = .ok (.iand, 1) := by decide +kernel
theorem d19_13 : decode method_3_code 13 = .ok (.istore 4, 2) := by decide +kernel
theorem d19_15 : decode method_3_code 15 = .ok (.iload 4, 2) := by decide +kernel
theorem d19_17 : decode method_3_code 17 = .ok (.iconst 1, 1) := by decide +kernel
theorem d19_18 : decode method_3_code 18 = .ok (.if_icmp .ne 6, 3) := by decide +kernel
theorem d19_21 : decode method_3_code 21 = .ok (.ldc 46, 2) := by decide +kernel
theorem d19_23 : decode method_3_code 23 = .ok (.areturn, 1) := by decide +kernel
theorem d19_24 : decode method_3_code 24 = .ok (.iload 4, 2) := by decide +kernel
theorem d19_26 : decode method_3_code 26 = .ok (.iconst 2, 1) := by decide +kernel
theorem d19_27 : decode method_3_code 27 = .ok (.if_icmp .ne 6, 3) := by decide +kernel
theorem d19_30 : decode method_3_code 30 = .ok (.ldc 48, 2) := by decide +kernel
theorem d19_32 : decode method_3_code 32 = .ok (.areturn, 1) := by decide +kernel
theorem d19_33 : decode method_3_code 33 = .ok (.iload_n 1, 1) := by decide +kernel
theorem d19_34 : decode method_3_code 34 = .ok (.sipush 255, 3) := by decide +kernel
theorem d19_37 : decode method_3_code 37 = .ok (.iand, 1) := by decide +kernel
theorem d19_38 : decode method_3_code 38 = .ok (.i2c, 1) := by decide +kernel
theorem d19_39 : decode method_3_code 39 = .ok (.istore 5, 2) := by decide +kernel
theorem d19_41 : decode method_3_code 41 = .ok (.iload_n 1, 1) := by decide +kernel
theorem d19_42 : decode method_3_code 42 = .ok (.bipush 8, 2) := by decide +kernel
theorem d19_44 : decode method_3_code 44 = .ok (.iushr, 1) := by decide +kernel
theorem d19_45 : decode method_3_code 45 = .ok (.sipush 255, 3) := by decide +kernel
theorem d19_48 : decode method_3_code 48 = .ok (.iand, 1) := by decide +kernel
theorem d19_49 : decode method_3_code 49 = .ok (.i2c, 1) := by decide +kernel
theorem d19_50 : decode method_3_code 50 = .ok (.istore 6, 2) := by decide +kernel
theorem d19_52 : decode method_3_code 52 = .ok (.iload_n 2, 1) := by decide +kernel
theorem d19_53 : decode method_3_code 53 = .ok (.sipush 255, 3) := by decide +kernel
theorem d19_56 : decode method_3_code 56 = .ok (.iand, 1) := by decide +kernel
theorem d19_57 : decode method_3_code 57 = .ok (.i2c, 1) := by decide +kernel
theorem d19_58 : decode method_3_code 58 = .ok (.istore 7, 2) := by decide +kernel
theorem d19_60 : decode method_3_code 60 = .ok (.iload_n 3, 1) := by decide +kernel
theorem d19_61 : decode method_3_code 61 = .ok (.iconst 3, 1) := by decide +kernel
theorem d19_62 : decode method_3_code 62 = .ok (.iand, 1) := by decide +kernel
theorem d19_63 : decode method_3_code 63 = .ok (.istore 8, 2) := by decide +kernel
theorem d19_65 : decode method_3_code 65 = .ok (.iload 8, 2) := by decide +kernel
theorem d19_67 : decode method_3_code 67 = .ok (.ifCond .ne 14, 3) := by decide +kernel
theorem d19_70 : decode method_3_code 70 = .ok (.new 50, 3) := by decide +kernel
theorem d19_73 : decode method_3_code 73 = .ok (.dup, 1) := by decide +kernel
theorem d19_74 : decode method_3_code 74 = .ok (.iconst 0, 1) := by decide +kernel
theorem d19_75 : decode method_3_code 75 = .ok (.newarray .char, 2) := by decide +kernel
theorem d19_77 : decode method_3_code 77 = .ok (.invokespecial 52, 3) := by decide +kernel
theorem d19_80 : decode method_3_code 80 = .ok (.areturn, 1) := by decide +kernel
theorem d19_81 : decode method_3_code 81 = .ok (.iload 8, 2) := by decide +kernel
theorem d19_83 : decode method_3_code 83 = .ok (.iconst 1, 1) := by decide +kernel
theorem d19_84 : decode method_3_code 84 = .ok (.if_icmp .ne 19, 3) := by decide +kernel
theorem d19_87 : decode method_3_code 87 = .ok (.new 50, 3) := by decide +kernel
theorem d19_90 : decode method_3_code 90 = .ok (.dup, 1) := by decide +kernel
theorem d19_91 : decode method_3_code 91 = .ok (.iconst 1, 1) := by decide +kernel
theorem d19_92 : decode method_3_code 92 = .ok (.newarray .char, 2) := by decide +kernel
theorem d19_94 : decode method_3_code 94 = .ok (.dup, 1) := by decide +kernel
theorem d19_95 : decode method_3_code 95 = .ok (.iconst 0, 1) := by decide +kernel
theorem d19_96 : decode method_3_code 96 = .ok (.iload 5, 2) := by decide +kernel
theorem d19_98 : decode method_3_code 98 = .ok (.castore, 1) := by decide +kernel
theorem d19_99 : decode method_3_code 99 = .ok (.invokespecial 52, 3) := by decide +kernel
theorem d19_102 : decode method_3_code 102 = .ok (.areturn, 1) := by decide +kernel
theorem d19_103 : decode method_3_code 103 = .ok (.iload 8, 2) := by decide +kernel
theorem d19_105 : decode method_3_code 105 = .ok (.iconst 2, 1) := by decide +kernel
theorem d19_106 : decode method_3_code 106 = .ok (.if_icmp .ne 24, 3) := by decide +kernel
theorem d19_109 : decode method_3_code 109 = .ok (.new 50, 3) := by decide +kernel
theorem d19_112 : decode method_3_code 112 = .ok (.dup, 1) := by decide +kernel
theorem d19_113 : decode method_3_code 113 = .ok (.iconst 2, 1) := by decide +kernel
theorem d19_114 : decode method_3_code 114 = .ok (.newarray .char, 2) := by decide +kernel
theorem d19_116 : decode method_3_code 116 = .ok (.dup, 1) := by decide +kernel
theorem d19_117 : decode method_3_code 117 = .ok (.iconst 0, 1) := by decide +kernel
theorem d19_118 : decode method_3_code 118 = .ok (.iload 5, 2) := by decide +kernel
theorem d19_120 : decode method_3_code 120 = .ok (.castore, 1) := by decide +kernel
theorem d19_121 : decode method_3_code 121 = .ok (.dup, 1) := by decide +kernel
theorem d19_122 : decode method_3_code 122 = .ok (.iconst 1, 1) := by decide +kernel
theorem d19_123 : decode method_3_code 123 = .ok (.iload 6, 2) := by decide +kernel
theorem d19_125 : decode method_3_code 125 = .ok (.castore, 1) := by decide +kernel
theorem d19_126 : decode method_3_code 126 = .ok (.invokespecial 52, 3) := by decide +kernel
theorem d19_129 : decode method_3_code 129 = .ok (.areturn, 1) := by decide +kernel
theorem d19_130 : decode method_3_code 130 = .ok (.new 50, 3) := by decide +kernel
theorem d19_133 : decode method_3_code 133 = .ok (.dup, 1) := by decide +kernel
theorem d19_134 : decode method_3_code 134 = .ok (.iconst 3, 1) := by decide +kernel
theorem d19_135 : decode method_3_code 135 = .ok (.newarray .char, 2) := by decide +kernel
theorem d19_137 : decode method_3_code 137 = .ok (.dup, 1) := by decide +kernel
theorem d19_138 : decode method_3_code 138 = .ok (.iconst 0, 1) := by decide +kernel
theorem d19_139 : decode method_3_code 139 = .ok (.iload 5, 2) := by decide +kernel
theorem d19_141 : decode method_3_code 141 = .ok (.castore, 1) := by decide +kernel
theorem d19_142 : decode method_3_code 142 = .ok (.dup, 1) := by decide +kernel
theorem d19_143 : decode method_3_code 143 = .ok (.iconst 1, 1) := by decide +kernel
theorem d19_144 : decode method_3_code 144 = .ok (.iload 6, 2) := by decide +kernel
theorem d19_146 : decode method_3_code 146 = .ok (.castore, 1) := by decide +kernel
theorem d19_147 : decode method_3_code 147 = .ok (.dup, 1) := by decide +kernel
theorem d19_148 : decode method_3_code 148 = .ok (.iconst 2, 1) := by decide +kernel
theorem d19_149 : decode method_3_code 149 = .ok (.iload 7, 2) := by decide +kernel
theorem d19_151 : decode method_3_code 151 = .ok (.castore, 1) := by decide +kernel
theorem d19_152 : decode method_3_code 152 = .ok (.invokespecial 52, 3) := by decide +kernel
theorem d19_155 : decode method_3_code 155 = .ok (.areturn, 1) := by decide +kernel
theorem pn19 : plainName "com/example/convoke/convoke/apply/KeptOverrideIsMadePinLaw" = true := by first | (simp [plainName, overriddenIn]; done) | decide +kernel
theorem pd19_0 : parseMethodDescriptor "([C)V" = some ⟨[(.array .char)], none⟩ := by decide +kernel
theorem ef19 (m : MethodId) (x0 : Int32) (x1 : Int32) (x2 : Int32) (x3 : Int32) : entryFrame m #[(.int x0), (.int x1), (.int x2), (.int x3)] 9 = mkF m 0 #[.val (.int x0), .val (.int x1), .val (.int x2), .val (.int x3), .unset, .unset, .unset, .unset, .unset] [] := by first | (simp [entryFrame, mkF, argsToLocals, Value.category]; done) | rfl
def own_QV (h0 : Heap) (n0 : Nat) (v : Option Value) (h : Heap) (L : List Loc) : Prop := ∃ w : Value, v = some w ∧ w.isRef = true ∧ Fr n0 L ∧ Keep h0 h []
set_option maxRecDepth 65536 in
set_option maxHeartbeats 40000000 in
theorem rm19 (l : Launch) (Z : State) (a0 : Array Value) (hw : ∀ d ∈ tables_1, d.before a0 Z = true) (ws : List Jvm.Cond) (q0 q1 q2 q3 : Int32) (de mr es : Addr) (kde : ClassId) (h0 : Heap) (n0 : Nat) (Z0 : n0 ≤ h0.size) (XO : Old Z n0 h0) (WW : own_W Z de mr es kde) :
    MetFree l (⟨"com/example/convoke/convoke/apply/KeptOverrideIsMadePinLaw", "madeFor", "(IIII)Ljava/lang/String;"⟩ : MethodName) (head1 (Jvm.Cond.code (⟨"com/example/convoke/convoke/apply/KeptOverrideIsMadePinLaw", "madeFor", "(IIII)Ljava/lang/String;"⟩ : MethodName) method_3_code 9 (some (.object "java/lang/String")) :: ws) ({ frames := 4, cells := 6, slots := 28, locals := 66 } : Room)) (fun a U => a = #[(.int q0), (.int q1), (.int q2), (.int q3)] ∧ Z.Warmed39 U.vm ∧ U.heap = h0 ∧ CHv Z own_EL U.vm h0 ∧ ∀ x ∈ ([] : List Addr), Safe Z own_EL U.vm h0 x) (fun _ _ _ _ _ => True) (fun _ U o U' => ∃ v L, o = .returned v ∧ own_QV h0 n0 v U'.heap L ∧ CHr Z own_EL U.vm U.heap U'.vm U'.heap ∧ ReturnedEndW U o U' L ({ frames := 4, cells := 6, slots := 28, locals := 66 } : Room).cells ({ frames := 4, cells := 6, slots := 28, locals := 66 } : Room).slots) := by
  refine MetFree.of_bodySF (plainFor_of_name pn19) hisR ?_
  intro p e s m args below meth c s₁ Bd hml0 hP hK
  obtain ⟨rfl, hZ, hh, hC0, hsf0⟩ := hP
  have hx := Bd.exec
  have hby := Bd.bytes
  have hml : c.maxLocals = 9 := hml0
  have hown : s.vm.findClass "com/example/convoke/convoke/apply/KeptOverrideIsMadePinLaw" = some m.cls := findClass_of_methodNamed Bd.named
  have hnm := (name_of_methodNamed Bd.named Bd.method).1
  have hlk : meth.locks = false := Bd.notSynchronized
  have hEL := own_ew hw
  have hR0 : CHr Z own_EL s.vm h0 s.vm h0 := CHr.refl hC0
  have hS0 : s.Since s.vm 0 := (State.WarmedH.refl s).since 0
  have hk0 : 0 ≤ h0.size := Nat.zero_le _
  have X0 : Stand p l e ({ frames := 4, cells := 6, slots := 28, locals := 66 } : Room) (s.setVm s.vm) m #[(.int q0), (.int q1), (.int q2), (.int q3)] below meth c s₁ [] 0 0 := Stand.of_body Bd
  have e0 : s₁.heap = h0 := by rw [← hh, Bd.state]; rfl
  have N0 := Fr.nil n0
  refine own_go (fun t k => castTop (ef19 m q0 q1 q2 q3) k) ?_
  obtain ⟨⟨cs, hcs, SC⟩, SDE, ADE, EDE, MR, SES, EES⟩ := id WW
  show own_Go p e below _ (s₁.setTop (mkF m 0 #[.val (.int q0), .val (.int q1), .val (.int q2), .val (.int q3), .unset, .unset, .unset, .unset, .unset] []))
  refine own_go (fun t k => XS.iloadN X0.here hx rfl (hb hby d19_0) rfl k) ?_
  show own_Go p e below _ (s₁.setTop (mkF m 1 #[.val (.int q0), .val (.int q1), .val (.int q2), .val (.int q3), .unset, .unset, .unset, .unset, .unset] [(.int q0)]))
  refine own_go (fun t k => XS.iconst X0.here hx rfl (hb hby d19_1) k) ?_
  show own_Go p e below _ (s₁.setTop (mkF m 2 #[.val (.int q0), .val (.int q1), .val (.int q2), .val (.int q3), .unset, .unset, .unset, .unset, .unset] [(.int (1 : Int32)), (.int q0)]))
  refine own_go (fun t k => XS.iand X0.here hx rfl (hb hby d19_2) rfl k) ?_
  show own_Go p e below _ (s₁.setTop (mkF m 3 #[.val (.int q0), .val (.int q1), .val (.int q2), .val (.int q3), .unset, .unset, .unset, .unset, .unset] [(.int (q0 &&& (1 : Int32)))]))
  by_cases hc3 : (q0 &&& (1 : Int32)) = (0 : Int32)
  · refine own_go (fun t k => XS.ifNo X0.here hx rfl (hb hby d19_3) rfl ((if0 _ _).trans (teq hc3).2) k) ?_
    show own_Go p e below _ (s₁.setTop (mkF m 6 #[.val (.int q0), .val (.int q1), .val (.int q2), .val (.int q3), .unset, .unset, .unset, .unset, .unset] []))
    refine own_go (fun t k => XS.aconstNull X0.here hx rfl (hb hby d19_6) k) ?_
    show own_Go p e below _ (s₁.setTop (mkF m 7 #[.val (.int q0), .val (.int q1), .val (.int q2), .val (.int q3), .unset, .unset, .unset, .unset, .unset] [.null]))
    have hF : CHr Z own_EL s.vm s.heap s₁.vm s₁.heap := by rw [hh, e0]; exact hR0.trans (CHv.at X0 hZ hEL hC0)
    exact own_retAH X0 hx Bd.returns rfl rfl (hb hby d19_7) hS0 (by rw [e0]; exact hk0) (by rw [e0]; exact ⟨_, rfl, rfl, N0, (Keep.refl h0 [])⟩) (hF) (by decide) (by decide)
  · refine own_go (fun t k => XS.ifYes X0.here hx rfl (pc0 := 3) (pc' := 8) rfl (hb hby d19_3) rfl ((if0 _ _).trans (feq hc3).2) (by decide) (by decide) k) ?_
    show own_Go p e below _ (s₁.setTop (mkF m 8 #[.val (.int q0), .val (.int q1), .val (.int q2), .val (.int q3), .unset, .unset, .unset, .unset, .unset] []))
    refine own_go (fun t k => XS.iloadN X0.here hx rfl (hb hby d19_8) rfl k) ?_
    show own_Go p e below _ (s₁.setTop (mkF m 9 #[.val (.int q0), .val (.int q1), .val (.int q2), .val (.int q3), .unset, .unset, .unset, .unset, .unset] [(.int q0)]))
    refine own_go (fun t k => XS.iconst X0.here hx rfl (hb hby d19_9) k) ?_
    show own_Go p e below _ (s₁.setTop (mkF m 10 #[.val (.int q0), .val (.int q1), .val (.int q2), .val (.int q3), .unset, .unset, .unset, .unset, .unset] [(.int (1 : Int32)), (.int q0)]))
    refine own_go (fun t k => XS.iushr X0.here hx rfl (hb hby d19_10) rfl k) ?_
    show own_Go p e below _ (s₁.setTop (mkF m 11 #[.val (.int q0), .val (.int q1), .val (.int q2), .val (.int q3), .unset, .unset, .unset, .unset, .unset] [(.int ((q0.toUInt32 >>> ((1 : Int32) &&& 31).toUInt32).toInt32))]))
    refine own_go (fun t k => XS.iconst X0.here hx rfl (hb hby d19_11) k) ?_
    show own_Go p e below _ (s₁.setTop (mkF m 12 #[.val (.int q0), .val (.int q1), .val (.int q2), .val (.int q3), .unset, .unset, .unset, .unset, .unset] [(.int (3 : Int32)), (.int ((q0.toUInt32 >>> ((1 : Int32) &&& 31).toUInt32).toInt32))]))
    refine own_go (fun t k => XS.iand X0.here hx rfl (hb hby d19_12) rfl k) ?_
    show own_Go p e below _ (s₁.setTop (mkF m 13 #[.val (.int q0), .val (.int q1), .val (.int q2), .val (.int q3), .unset, .unset, .unset, .unset, .unset] [(.int (((q0.toUInt32 >>> ((1 : Int32) &&& 31).toUInt32).toInt32) &&& (3 : Int32)))]))
    refine own_go (fun t k => XS.istore X0.here hx rfl (hb hby d19_13) rfl (l' := #[.val (.int q0), .val (.int q1), .val (.int q2), .val (.int q3), .val (.int (((q0.toUInt32 >>> ((1 : Int32) &&& 31).toUInt32).toInt32) &&& (3 : Int32))), .unset, .unset, .unset, .unset]) rfl k) ?_
    show own_Go p e below _ (s₁.setTop (mkF m 15 #[.val (.int q0), .val (.int q1), .val (.int q2), .val (.int q3), .val (.int (((q0.toUInt32 >>> ((1 : Int32) &&& 31).toUInt32).toInt32) &&& (3 : Int32))), .unset, .unset, .unset, .unset] []))
    refine own_go (fun t k => XS.iload X0.here hx rfl (hb hby d19_15) rfl k) ?_
    show own_Go p e below _ (s₁.setTop (mkF m 17 #[.val (.int q0), .val (.int q1), .val (.int q2), .val (.int q3), .val (.int (((q0.toUInt32 >>> ((1 : Int32) &&& 31).toUInt32).toInt32) &&& (3 : Int32))), .unset, .unset, .unset, .unset] [(.int (((q0.toUInt32 >>> ((1 : Int32) &&& 31).toUInt32).toInt32) &&& (3 : Int32)))]))
    refine own_go (fun t k => XS.iconst X0.here hx rfl (hb hby d19_17) k) ?_
    show own_Go p e below _ (s₁.setTop (mkF m 18 #[.val (.int q0), .val (.int q1), .val (.int q2), .val (.int q3), .val (.int (((q0.toUInt32 >>> ((1 : Int32) &&& 31).toUInt32).toInt32) &&& (3 : Int32))), .unset, .unset, .unset, .unset] [(.int (1 : Int32)), (.int (((q0.toUInt32 >>> ((1 : Int32) &&& 31).toUInt32).toInt32) &&& (3 : Int32)))]))
    by_cases hc18 : (((q0.toUInt32 >>> ((1 : Int32) &&& 31).toUInt32).toInt32) &&& (3 : Int32)) = (1 : Int32)
    · refine own_go (fun t k => XS.icmpNo X0.here hx rfl (hb hby d19_18) rfl (teq hc18).2 k) ?_
      show own_Go p e below _ (s₁.setTop (mkF m 21 #[.val (.int q0), .val (.int q1), .val (.int q2), .val (.int q3), .val (.int (((q0.toUInt32 >>> ((1 : Int32) &&& 31).toUInt32).toInt32) &&& (3 : Int32))), .unset, .unset, .unset, .unset] []))
      obtain ⟨s1, T1, h1, j1, c1, kc1, X1, e1, E1, hS1, hk1, hZ1, hown1, Es1, Fc1, Fv1, Ab1, -, -, hC1, -, hne1, st1⟩ := ldcCH X0 hx hZ hown (hw _ (List.mem_of_getElem? (i := 180) rfl)) (own_wS hw) e0 hS0 hk0 hEL (List.mem_of_getElem? (i := 2) rfl) hC0 (vs := [(.int (82 : Int32)), (.int (69 : Int32)), (.int (80 : Int32)), (.int (76 : Int32)), (.int (89 : Int32))]) (z := (5 : Int32)) ⟨by decide, by decide +kernel⟩ (by decide) rfl (g := (mkF m 21 #[.val (.int q0), .val (.int q1), .val (.int q2), .val (.int q3), .val (.int (((q0.toUInt32 >>> ((1 : Int32) &&& 31).toUInt32).toInt32) &&& (3 : Int32))), .unset, .unset, .unset, .unset] [])) rfl (hb hby d19_21) (n := 20) (by decide) (by decide) (by decide) (by decide)
      have XO__1 := XO.ext E1
      have hR1 := hR0.trans hC1
      have hD1 := hR1.1
      have sz1 := Nat.le_trans Z0 E1.1
      have KP1 := (Keep.refl h0 []).ext E1
      refine own_go (fun t k => st1 t k) ?_
      show own_Go p e below _ (T1.setTop (mkF m 23 #[.val (.int q0), .val (.int q1), .val (.int q2), .val (.int q3), .val (.int (((q0.toUInt32 >>> ((1 : Int32) &&& 31).toUInt32).toInt32) &&& (3 : Int32))), .unset, .unset, .unset, .unset] [(.ref s1)]))
      have hF : CHr Z own_EL s.vm s.heap T1.vm T1.heap := by rw [hh, e1]; exact hR1.trans (CHv.at X1 hZ1 hEL hD1)
      exact own_retAH X1 hx Bd.returns rfl rfl (hb hby d19_23) hS1 (by rw [e1]; exact hk1) (by rw [e1]; exact ⟨_, rfl, rfl, N0, KP1⟩) (hF) (by decide) (by decide)
    · refine own_go (fun t k => XS.icmpYes X0.here hx rfl (pc0 := 18) (pc' := 24) rfl (hb hby d19_18) rfl (feq hc18).2 (by decide) (by decide) k) ?_
      show own_Go p e below _ (s₁.setTop (mkF m 24 #[.val (.int q0), .val (.int q1), .val (.int q2), .val (.int q3), .val (.int (((q0.toUInt32 >>> ((1 : Int32) &&& 31).toUInt32).toInt32) &&& (3 : Int32))), .unset, .unset, .unset, .unset] []))
      refine own_go (fun t k => XS.iload X0.here hx rfl (hb hby d19_24) rfl k) ?_
      show own_Go p e below _ (s₁.setTop (mkF m 26 #[.val (.int q0), .val (.int q1), .val (.int q2), .val (.int q3), .val (.int (((q0.toUInt32 >>> ((1 : Int32) &&& 31).toUInt32).toInt32) &&& (3 : Int32))), .unset, .unset, .unset, .unset] [(.int (((q0.toUInt32 >>> ((1 : Int32) &&& 31).toUInt32).toInt32) &&& (3 : Int32)))]))
      refine own_go (fun t k => XS.iconst X0.here hx rfl (hb hby d19_26) k) ?_
      show own_Go p e below _ (s₁.setTop (mkF m 27 #[.val (.int q0), .val (.int q1), .val (.int q2), .val (.int q3), .val (.int (((q0.toUInt32 >>> ((1 : Int32) &&& 31).toUInt32).toInt32) &&& (3 : Int32))), .unset, .unset, .unset, .unset] [(.int (2 : Int32)), (.int (((q0.toUInt32 >>> ((1 : Int32) &&& 31).toUInt32).toInt32) &&& (3 : Int32)))]))
      by_cases hc27 : (((q0.toUInt32 >>> ((1 : Int32) &&& 31).toUInt32).toInt32) &&& (3 : Int32)) = (2 : Int32)
      · refine own_go (fun t k => XS.icmpNo X0.here hx rfl (hb hby d19_27) rfl (teq hc27).2 k) ?_
        show own_Go p e below _ (s₁.setTop (mkF m 30 #[.val (.int q0), .val (.int q1), .val (.int q2), .val (.int q3), .val (.int (((q0.toUInt32 >>> ((1 : Int32) &&& 31).toUInt32).toInt32) &&& (3 : Int32))), .unset, .unset, .unset, .unset] []))
        obtain ⟨s2, T2, h2, j2, c2, kc2, X2, e2, E2, hS2, hk2, hZ2, hown2, Es2, Fc2, Fv2, Ab2, -, -, hC2, -, hne2, st2⟩ := ldcCH X0 hx hZ hown (hw _ (List.mem_of_getElem? (i := 181) rfl)) (own_wS hw) e0 hS0 hk0 hEL (List.mem_of_getElem? (i := 3) rfl) hC0 (vs := [(.int (67 : Int32)), (.int (65 : Int32)), (.int (78 : Int32)), (.int (67 : Int32)), (.int (69 : Int32)), (.int (76 : Int32))]) (z := (6 : Int32)) ⟨by decide, by decide +kernel⟩ (by decide) rfl (g := (mkF m 30 #[.val (.int q0), .val (.int q1), .val (.int q2), .val (.int q3), .val (.int (((q0.toUInt32 >>> ((1 : Int32) &&& 31).toUInt32).toInt32) &&& (3 : Int32))), .unset, .unset, .unset, .unset] [])) rfl (hb hby d19_30) (n := 24) (by decide) (by decide) (by decide) (by decide)
        have XO__2 := XO.ext E2
        have hR2 := hR0.trans hC2
        have hD2 := hR2.1
        have sz2 := Nat.le_trans Z0 E2.1
        have KP2 := (Keep.refl h0 []).ext E2
        refine own_go (fun t k => st2 t k) ?_
        show own_Go p e below _ (T2.setTop (mkF m 32 #[.val (.int q0), .val (.int q1), .val (.int q2), .val (.int q3), .val (.int (((q0.toUInt32 >>> ((1 : Int32) &&& 31).toUInt32).toInt32) &&& (3 : Int32))), .unset, .unset, .unset, .unset] [(.ref s2)]))
        have hF : CHr Z own_EL s.vm s.heap T2.vm T2.heap := by rw [hh, e2]; exact hR2.trans (CHv.at X2 hZ2 hEL hD2)
        exact own_retAH X2 hx Bd.returns rfl rfl (hb hby d19_32) hS2 (by rw [e2]; exact hk2) (by rw [e2]; exact ⟨_, rfl, rfl, N0, KP2⟩) (hF) (by decide) (by decide)
      · refine own_go (fun t k => XS.icmpYes X0.here hx rfl (pc0 := 27) (pc' := 33) rfl (hb hby d19_27) rfl (feq hc27).2 (by decide) (by decide) k) ?_
        show own_Go p e below _ (s₁.setTop (mkF m 33 #[.val (.int q0), .val (.int q1), .val (.int q2), .val (.int q3), .val (.int (((q0.toUInt32 >>> ((1 : Int32) &&& 31).toUInt32).toInt32) &&& (3 : Int32))), .unset, .unset, .unset, .unset] []))
        refine own_go (fun t k => XS.iloadN X0.here hx rfl (hb hby d19_33) rfl k) ?_
        show own_Go p e below _ (s₁.setTop (mkF m 34 #[.val (.int q0), .val (.int q1), .val (.int q2), .val (.int q3), .val (.int (((q0.toUInt32 >>> ((1 : Int32) &&& 31).toUInt32).toInt32) &&& (3 : Int32))), .unset, .unset, .unset, .unset] [(.int q1)]))
        refine own_go (fun t k => XS.sipush X0.here hx rfl (hb hby d19_34) k) ?_
        show own_Go p e below _ (s₁.setTop (mkF m 37 #[.val (.int q0), .val (.int q1), .val (.int q2), .val (.int q3), .val (.int (((q0.toUInt32 >>> ((1 : Int32) &&& 31).toUInt32).toInt32) &&& (3 : Int32))), .unset, .unset, .unset, .unset] [(.int (255 : Int32)), (.int q1)]))
        refine own_go (fun t k => XS.iand X0.here hx rfl (hb hby d19_37) rfl k) ?_
        show own_Go p e below _ (s₁.setTop (mkF m 38 #[.val (.int q0), .val (.int q1), .val (.int q2), .val (.int q3), .val (.int (((q0.toUInt32 >>> ((1 : Int32) &&& 31).toUInt32).toInt32) &&& (3 : Int32))), .unset, .unset, .unset, .unset] [(.int (q1 &&& (255 : Int32)))]))
        refine own_go (fun t k => XS.i2c X0.here hx rfl (hb hby d19_38) rfl k) ?_
        show own_Go p e below _ (s₁.setTop (mkF m 39 #[.val (.int q0), .val (.int q1), .val (.int q2), .val (.int q3), .val (.int (((q0.toUInt32 >>> ((1 : Int32) &&& 31).toUInt32).toInt32) &&& (3 : Int32))), .unset, .unset, .unset, .unset] [(.int ((q1 &&& (255 : Int32)).toUInt32.toUInt16.toUInt32.toInt32))]))
        refine own_go (fun t k => XS.istore X0.here hx rfl (hb hby d19_39) rfl (l' := #[.val (.int q0), .val (.int q1), .val (.int q2), .val (.int q3), .val (.int (((q0.toUInt32 >>> ((1 : Int32) &&& 31).toUInt32).toInt32) &&& (3 : Int32))), .val (.int ((q1 &&& (255 : Int32)).toUInt32.toUInt16.toUInt32.toInt32)), .unset, .unset, .unset]) rfl k) ?_
        show own_Go p e below _ (s₁.setTop (mkF m 41 #[.val (.int q0), .val (.int q1), .val (.int q2), .val (.int q3), .val (.int (((q0.toUInt32 >>> ((1 : Int32) &&& 31).toUInt32).toInt32) &&& (3 : Int32))), .val (.int ((q1 &&& (255 : Int32)).toUInt32.toUInt16.toUInt32.toInt32)), .unset, .unset, .unset] []))
        refine own_go (fun t k => XS.iloadN X0.here hx rfl (hb hby d19_41) rfl k) ?_
        show own_Go p e below _ (s₁.setTop (mkF m 42 #[.val (.int q0), .val (.int q1), .val (.int q2), .val (.int q3), .val (.int (((q0.toUInt32 >>> ((1 : Int32) &&& 31).toUInt32).toInt32) &&& (3 : Int32))), .val (.int ((q1 &&& (255 : Int32)).toUInt32.toUInt16.toUInt32.toInt32)), .unset, .unset, .unset] [(.int q1)]))
        refine own_go (fun t k => XS.bipush X0.here hx rfl (hb hby d19_42) k) ?_
        show own_Go p e below _ (s₁.setTop (mkF m 44 #[.val (.int q0), .val (.int q1), .val (.int q2), .val (.int q3), .val (.int (((q0.toUInt32 >>> ((1 : Int32) &&& 31).toUInt32).toInt32) &&& (3 : Int32))), .val (.int ((q1 &&& (255 : Int32)).toUInt32.toUInt16.toUInt32.toInt32)), .unset, .unset, .unset] [(.int (8 : Int32)), (.int q1)]))
        refine own_go (fun t k => XS.iushr X0.here hx rfl (hb hby d19_44) rfl k) ?_
        show own_Go p e below _ (s₁.setTop (mkF m 45 #[.val (.int q0), .val (.int q1), .val (.int q2), .val (.int q3), .val (.int (((q0.toUInt32 >>> ((1 : Int32) &&& 31).toUInt32).toInt32) &&& (3 : Int32))), .val (.int ((q1 &&& (255 : Int32)).toUInt32.toUInt16.toUInt32.toInt32)), .unset, .unset, .unset] [(.int ((q1.toUInt32 >>> ((8 : Int32) &&& 31).toUInt32).toInt32))]))
        refine own_go (fun t k => XS.sipush X0.here hx rfl (hb hby d19_45) k) ?_
        show own_Go p e below _ (s₁.setTop (mkF m 48 #[.val (.int q0), .val (.int q1), .val (.int q2), .val (.int q3), .val (.int (((q0.toUInt32 >>> ((1 : Int32) &&& 31).toUInt32).toInt32) &&& (3 : Int32))), .val (.int ((q1 &&& (255 : Int32)).toUInt32.toUInt16.toUInt32.toInt32)), .unset, .unset, .unset] [(.int (255 : Int32)), (.int ((q1.toUInt32 >>> ((8 : Int32) &&& 31).toUInt32).toInt32))]))
        refine own_go (fun t k => XS.iand X0.here hx rfl (hb hby d19_48) rfl k) ?_
        show own_Go p e below _ (s₁.setTop (mkF m 49 #[.val (.int q0), .val (.int q1), .val (.int q2), .val (.int q3), .val (.int (((q0.toUInt32 >>> ((1 : Int32) &&& 31).toUInt32).toInt32) &&& (3 : Int32))), .val (.int ((q1 &&& (255 : Int32)).toUInt32.toUInt16.toUInt32.toInt32)), .unset, .unset, .unset] [(.int (((q1.toUInt32 >>> ((8 : Int32) &&& 31).toUInt32).toInt32) &&& (255 : Int32)))]))
        refine own_go (fun t k => XS.i2c X0.here hx rfl (hb hby d19_49) rfl k) ?_
        show own_Go p e below _ (s₁.setTop (mkF m 50 #[.val (.int q0), .val (.int q1), .val (.int q2), .val (.int q3), .val (.int (((q0.toUInt32 >>> ((1 : Int32) &&& 31).toUInt32).toInt32) &&& (3 : Int32))), .val (.int ((q1 &&& (255 : Int32)).toUInt32.toUInt16.toUInt32.toInt32)), .unset, .unset, .unset] [(.int ((((q1.toUInt32 >>> ((8 : Int32) &&& 31).toUInt32).toInt32) &&& (255 : Int32)).toUInt32.toUInt16.toUInt32.toInt32))]))
        refine own_go (fun t k => XS.istore X0.here hx rfl (hb hby d19_50) rfl (l' := #[.val (.int q0), .val (.int q1), .val (.int q2), .val (.int q3), .val (.int (((q0.toUInt32 >>> ((1 : Int32) &&& 31).toUInt32).toInt32) &&& (3 : Int32))), .val (.int ((q1 &&& (255 : Int32)).toUInt32.toUInt16.toUInt32.toInt32)), .val (.int ((((q1.toUInt32 >>> ((8 : Int32) &&& 31).toUInt32).toInt32) &&& (255 : Int32)).toUInt32.toUInt16.toUInt32.toInt32)), .unset, .unset]) rfl k) ?_
        show own_Go p e below _ (s₁.setTop (mkF m 52 #[.val (.int q0), .val (.int q1), .val (.int q2), .val (.int q3), .val (.int (((q0.toUInt32 >>> ((1 : Int32) &&& 31).toUInt32).toInt32) &&& (3 : Int32))), .val (.int ((q1 &&& (255 : Int32)).toUInt32.toUInt16.toUInt32.toInt32)), .val (.int ((((q1.toUInt32 >>> ((8 : Int32) &&& 31).toUInt32).toInt32) &&& (255 : Int32)).toUInt32.toUInt16.toUInt32.toInt32)), .unset, .unset] []))
        refine own_go (fun t k => XS.iloadN X0.here hx rfl (hb hby d19_52) rfl k) ?_
        show own_Go p e below _ (s₁.setTop (mkF m 53 #[.val (.int q0), .val (.int q1), .val (.int q2), .val (.int q3), .val (.int (((q0.toUInt32 >>> ((1 : Int32) &&& 31).toUInt32).toInt32) &&& (3 : Int32))), .val (.int ((q1 &&& (255 : Int32)).toUInt32.toUInt16.toUInt32.toInt32)), .val (.int ((((q1.toUInt32 >>> ((8 : Int32) &&& 31).toUInt32).toInt32) &&& (255 : Int32)).toUInt32.toUInt16.toUInt32.toInt32)), .unset, .unset] [(.int q2)]))
        refine own_go (fun t k => XS.sipush X0.here hx rfl (hb hby d19_53) k) ?_
        show own_Go p e below _ (s₁.setTop (mkF m 56 #[.val (.int q0), .val (.int q1), .val (.int q2), .val (.int q3), .val (.int (((q0.toUInt32 >>> ((1 : Int32) &&& 31).toUInt32).toInt32) &&& (3 : Int32))), .val (.int ((q1 &&& (255 : Int32)).toUInt32.toUInt16.toUInt32.toInt32)), .val (.int ((((q1.toUInt32 >>> ((8 : Int32) &&& 31).toUInt32).toInt32) &&& (255 : Int32)).toUInt32.toUInt16.toUInt32.toInt32)), .unset, .unset] [(.int (255 : Int32)), (.int q2)]))
        refine own_go (fun t k => XS.iand X0.here hx rfl (hb hby d19_56) rfl k) ?_
        show own_Go p e below _ (s₁.setTop (mkF m 57 #[.val (.int q0), .val (.int q1), .val (.int q2), .val (.int q3), .val (.int (((q0.toUInt32 >>> ((1 : Int32) &&& 31).toUInt32).toInt32) &&& (3 : Int32))), .val (.int ((q1 &&& (255 : Int32)).toUInt32.toUInt16.toUInt32.toInt32)), .val (.int ((((q1.toUInt32 >>> ((8 : Int32) &&& 31).toUInt32).toInt32) &&& (255 : Int32)).toUInt32.toUInt16.toUInt32.toInt32)), .unset, .unset] [(.int (q2 &&& (255 : Int32)))]))
        refine own_go (fun t k => XS.i2c X0.here hx rfl (hb hby d19_57) rfl k) ?_
        show own_Go p e below _ (s₁.setTop (mkF m 58 #[.val (.int q0), .val (.int q1), .val (.int q2), .val (.int q3), .val (.int (((q0.toUInt32 >>> ((1 : Int32) &&& 31).toUInt32).toInt32) &&& (3 : Int32))), .val (.int ((q1 &&& (255 : Int32)).toUInt32.toUInt16.toUInt32.toInt32)), .val (.int ((((q1.toUInt32 >>> ((8 : Int32) &&& 31).toUInt32).toInt32) &&& (255 : Int32)).toUInt32.toUInt16.toUInt32.toInt32)), .unset, .unset] [(.int ((q2 &&& (255 : Int32)).toUInt32.toUInt16.toUInt32.toInt32))]))
        refine own_go (fun t k => XS.istore X0.here hx rfl (hb hby d19_58) rfl (l' := #[.val (.int q0), .val (.int q1), .val (.int q2), .val (.int q3), .val (.int (((q0.toUInt32 >>> ((1 : Int32) &&& 31).toUInt32).toInt32) &&& (3 : Int32))), .val (.int ((q1 &&& (255 : Int32)).toUInt32.toUInt16.toUInt32.toInt32)), .val (.int ((((q1.toUInt32 >>> ((8 : Int32) &&& 31).toUInt32).toInt32) &&& (255 : Int32)).toUInt32.toUInt16.toUInt32.toInt32)), .val (.int ((q2 &&& (255 : Int32)).toUInt32.toUInt16.toUInt32.toInt32)), .unset]) rfl k) ?_
        show own_Go p e below _ (s₁.setTop (mkF m 60 #[.val (.int q0), .val (.int q1), .val (.int q2), .val (.int q3), .val (.int (((q0.toUInt32 >>> ((1 : Int32) &&& 31).toUInt32).toInt32) &&& (3 : Int32))), .val (.int ((q1 &&& (255 : Int32)).toUInt32.toUInt16.toUInt32.toInt32)), .val (.int ((((q1.toUInt32 >>> ((8 : Int32) &&& 31).toUInt32).toInt32) &&& (255 : Int32)).toUInt32.toUInt16.toUInt32.toInt32)), .val (.int ((q2 &&& (255 : Int32)).toUInt32.toUInt16.toUInt32.toInt32)), .unset] []))
        refine own_go (fun t k => XS.iloadN X0.here hx rfl (hb hby d19_60) rfl k) ?_
        show own_Go p e below _ (s₁.setTop (mkF m 61 #[.val (.int q0), .val (.int q1), .val (.int q2), .val (.int q3), .val (.int (((q0.toUInt32 >>> ((1 : Int32) &&& 31).toUInt32).toInt32) &&& (3 : Int32))), .val (.int ((q1 &&& (255 : Int32)).toUInt32.toUInt16.toUInt32.toInt32)), .val (.int ((((q1.toUInt32 >>> ((8 : Int32) &&& 31).toUInt32).toInt32) &&& (255 : Int32)).toUInt32.toUInt16.toUInt32.toInt32)), .val (.int ((q2 &&& (255 : Int32)).toUInt32.toUInt16.toUInt32.toInt32)), .unset] [(.int q3)]))
        refine own_go (fun t k => XS.iconst X0.here hx rfl (hb hby d19_61) k) ?_
        show own_Go p e below _ (s₁.setTop (mkF m 62 #[.val (.int q0), .val (.int q1), .val (.int q2), .val (.int q3), .val (.int (((q0.toUInt32 >>> ((1 : Int32) &&& 31).toUInt32).toInt32) &&& (3 : Int32))), .val (.int ((q1 &&& (255 : Int32)).toUInt32.toUInt16.toUInt32.toInt32)), .val (.int ((((q1.toUInt32 >>> ((8 : Int32) &&& 31).toUInt32).toInt32) &&& (255 : Int32)).toUInt32.toUInt16.toUInt32.toInt32)), .val (.int ((q2 &&& (255 : Int32)).toUInt32.toUInt16.toUInt32.toInt32)), .unset] [(.int (3 : Int32)), (.int q3)]))
        refine own_go (fun t k => XS.iand X0.here hx rfl (hb hby d19_62) rfl k) ?_
        show own_Go p e below _ (s₁.setTop (mkF m 63 #[.val (.int q0), .val (.int q1), .val (.int q2), .val (.int q3), .val (.int (((q0.toUInt32 >>> ((1 : Int32) &&& 31).toUInt32).toInt32) &&& (3 : Int32))), .val (.int ((q1 &&& (255 : Int32)).toUInt32.toUInt16.toUInt32.toInt32)), .val (.int ((((q1.toUInt32 >>> ((8 : Int32) &&& 31).toUInt32).toInt32) &&& (255 : Int32)).toUInt32.toUInt16.toUInt32.toInt32)), .val (.int ((q2 &&& (255 : Int32)).toUInt32.toUInt16.toUInt32.toInt32)), .unset] [(.int (q3 &&& (3 : Int32)))]))
        refine own_go (fun t k => XS.istore X0.here hx rfl (hb hby d19_63) rfl (l' := #[.val (.int q0), .val (.int q1), .val (.int q2), .val (.int q3), .val (.int (((q0.toUInt32 >>> ((1 : Int32) &&& 31).toUInt32).toInt32) &&& (3 : Int32))), .val (.int ((q1 &&& (255 : Int32)).toUInt32.toUInt16.toUInt32.toInt32)), .val (.int ((((q1.toUInt32 >>> ((8 : Int32) &&& 31).toUInt32).toInt32) &&& (255 : Int32)).toUInt32.toUInt16.toUInt32.toInt32)), .val (.int ((q2 &&& (255 : Int32)).toUInt32.toUInt16.toUInt32.toInt32)), .val (.int (q3 &&& (3 : Int32)))]) rfl k) ?_
        show own_Go p e below _ (s₁.setTop (mkF m 65 #[.val (.int q0), .val (.int q1), .val (.int q2), .val (.int q3), .val (.int (((q0.toUInt32 >>> ((1 : Int32) &&& 31).toUInt32).toInt32) &&& (3 : Int32))), .val (.int ((q1 &&& (255 : Int32)).toUInt32.toUInt16.toUInt32.toInt32)), .val (.int ((((q1.toUInt32 >>> ((8 : Int32) &&& 31).toUInt32).toInt32) &&& (255 : Int32)).toUInt32.toUInt16.toUInt32.toInt32)), .val (.int ((q2 &&& (255 : Int32)).toUInt32.toUInt16.toUInt32.toInt32)), .val (.int (q3 &&& (3 : Int32)))] []))
        refine own_go (fun t k => XS.iload X0.here hx rfl (hb hby d19_65) rfl k) ?_
        show own_Go p e below _ (s₁.setTop (mkF m 67 #[.val (.int q0), .val (.int q1), .val (.int q2), .val (.int q3), .val (.int (((q0.toUInt32 >>> ((1 : Int32) &&& 31).toUInt32).toInt32) &&& (3 : Int32))), .val (.int ((q1 &&& (255 : Int32)).toUInt32.toUInt16.toUInt32.toInt32)), .val (.int ((((q1.toUInt32 >>> ((8 : Int32) &&& 31).toUInt32).toInt32) &&& (255 : Int32)).toUInt32.toUInt16.toUInt32.toInt32)), .val (.int ((q2 &&& (255 : Int32)).toUInt32.toUInt16.toUInt32.toInt32)), .val (.int (q3 &&& (3 : Int32)))] [(.int (q3 &&& (3 : Int32)))]))
        by_cases hc67 : (q3 &&& (3 : Int32)) = (0 : Int32)
        · refine own_go (fun t k => XS.ifNo X0.here hx rfl (hb hby d19_67) rfl ((if0 _ _).trans (teq hc67).2) k) ?_
          show own_Go p e below _ (s₁.setTop (mkF m 70 #[.val (.int q0), .val (.int q1), .val (.int q2), .val (.int q3), .val (.int (((q0.toUInt32 >>> ((1 : Int32) &&& 31).toUInt32).toInt32) &&& (3 : Int32))), .val (.int ((q1 &&& (255 : Int32)).toUInt32.toUInt16.toUInt32.toInt32)), .val (.int ((((q1.toUInt32 >>> ((8 : Int32) &&& 31).toUInt32).toInt32) &&& (255 : Int32)).toUInt32.toUInt16.toUInt32.toInt32)), .val (.int ((q2 &&& (255 : Int32)).toUInt32.toUInt16.toUInt32.toInt32)), .val (.int (q3 &&& (3 : Int32)))] []))
          obtain ⟨T3, h3, X3, e3, E3, A3, D3, -, st3⟩ := newO X0 hx hZ hown (hw _ (List.mem_of_getElem? (i := 156) rfl)) (hw _ (List.mem_of_getElem? (i := 6) rfl)) (hw _ (List.mem_of_getElem? (i := 5) rfl)) e0 (g := (mkF m 70 #[.val (.int q0), .val (.int q1), .val (.int q2), .val (.int q3), .val (.int (((q0.toUInt32 >>> ((1 : Int32) &&& 31).toUInt32).toInt32) &&& (3 : Int32))), .val (.int ((q1 &&& (255 : Int32)).toUInt32.toUInt16.toUInt32.toInt32)), .val (.int ((((q1.toUInt32 >>> ((8 : Int32) &&& 31).toUInt32).toInt32) &&& (255 : Int32)).toUInt32.toUInt16.toUInt32.toInt32)), .val (.int ((q2 &&& (255 : Int32)).toUInt32.toUInt16.toUInt32.toInt32)), .val (.int (q3 &&& (3 : Int32)))] [])) rfl (hb hby d19_70) (by decide) (by decide)
          obtain ⟨b3, g3⟩ : ∃ z, z = h0.size := ⟨_, rfl⟩
          rw [← g3] at A3 D3 st3
          have g_b3 : n0 ≤ b3 := Nat.le_trans Z0 (Nat.le_of_eq g3.symm)
          have sz_b3 : h0.size ≤ b3 := Nat.le_trans (Keep.refl h0 []).1 (Nat.le_of_eq g3.symm)
          have XO__3 := XO.ext E3
          have hR3 := hR0.trans (CHr.ext E3 hC0)
          have hC3 := hR3.1
          have sz3 := Nat.le_trans Z0 E3.1
          have KP3 := (Keep.refl h0 []).ext E3
          have hk3 := Nat.le_trans hk0 E3.1
          have Zs3 : Safe Z own_EL s.vm h3 b3 := Safe.ext E3 hC0 (Safe.new (Nat.le_of_eq g3.symm))
          have F3_value : Fld Z h3 b3 "java/lang/String" "value" "[B" .null := D3 (Or.inr (hw _ (List.mem_of_getElem? (i := 8) rfl))) (ty := (.array .byte)) (by decide)
          have F3_coder : Fld Z h3 b3 "java/lang/String" "coder" "B" (.int (0 : Int32)) := D3 (Or.inr (hw _ (List.mem_of_getElem? (i := 9) rfl))) (ty := .byte) (by decide)
          refine own_go (fun t k => st3 t k) ?_
          show own_Go p e below _ (T3.setTop (mkF m 73 #[.val (.int q0), .val (.int q1), .val (.int q2), .val (.int q3), .val (.int (((q0.toUInt32 >>> ((1 : Int32) &&& 31).toUInt32).toInt32) &&& (3 : Int32))), .val (.int ((q1 &&& (255 : Int32)).toUInt32.toUInt16.toUInt32.toInt32)), .val (.int ((((q1.toUInt32 >>> ((8 : Int32) &&& 31).toUInt32).toInt32) &&& (255 : Int32)).toUInt32.toUInt16.toUInt32.toInt32)), .val (.int ((q2 &&& (255 : Int32)).toUInt32.toUInt16.toUInt32.toInt32)), .val (.int (q3 &&& (3 : Int32)))] [(.ref b3)]))
          refine own_go (fun t k => XS.dup X3.here hx rfl (hb hby d19_73) rfl rfl k) ?_
          show own_Go p e below _ (T3.setTop (mkF m 74 #[.val (.int q0), .val (.int q1), .val (.int q2), .val (.int q3), .val (.int (((q0.toUInt32 >>> ((1 : Int32) &&& 31).toUInt32).toInt32) &&& (3 : Int32))), .val (.int ((q1 &&& (255 : Int32)).toUInt32.toUInt16.toUInt32.toInt32)), .val (.int ((((q1.toUInt32 >>> ((8 : Int32) &&& 31).toUInt32).toInt32) &&& (255 : Int32)).toUInt32.toUInt16.toUInt32.toInt32)), .val (.int ((q2 &&& (255 : Int32)).toUInt32.toUInt16.toUInt32.toInt32)), .val (.int (q3 &&& (3 : Int32)))] [(.ref b3), (.ref b3)]))
          refine own_go (fun t k => XS.iconst X3.here hx rfl (hb hby d19_74) k) ?_
          show own_Go p e below _ (T3.setTop (mkF m 75 #[.val (.int q0), .val (.int q1), .val (.int q2), .val (.int q3), .val (.int (((q0.toUInt32 >>> ((1 : Int32) &&& 31).toUInt32).toInt32) &&& (3 : Int32))), .val (.int ((q1 &&& (255 : Int32)).toUInt32.toUInt16.toUInt32.toInt32)), .val (.int ((((q1.toUInt32 >>> ((8 : Int32) &&& 31).toUInt32).toInt32) &&& (255 : Int32)).toUInt32.toUInt16.toUInt32.toInt32)), .val (.int ((q2 &&& (255 : Int32)).toUInt32.toUInt16.toUInt32.toInt32)), .val (.int (q3 &&& (3 : Int32)))] [(.int (0 : Int32)), (.ref b3), (.ref b3)]))
          obtain ⟨T4, h4, k4, X4, e4, E4, A4, st4⟩ := newP X3 hx hZ (hw _ (List.mem_of_getElem? (i := 157) rfl)) e3 (g := (mkF m 75 #[.val (.int q0), .val (.int q1), .val (.int q2), .val (.int q3), .val (.int (((q0.toUInt32 >>> ((1 : Int32) &&& 31).toUInt32).toInt32) &&& (3 : Int32))), .val (.int ((q1 &&& (255 : Int32)).toUInt32.toUInt16.toUInt32.toInt32)), .val (.int ((((q1.toUInt32 >>> ((8 : Int32) &&& 31).toUInt32).toInt32) &&& (255 : Int32)).toUInt32.toUInt16.toUInt32.toInt32)), .val (.int ((q2 &&& (255 : Int32)).toUInt32.toUInt16.toUInt32.toInt32)), .val (.int (q3 &&& (3 : Int32)))] [(.int (0 : Int32)), (.ref b3), (.ref b3)])) rfl (hb hby d19_75) rfl (by decide) (cap := 0) (by decide) (by decide) (by decide) (by decide)
          obtain ⟨b4, g4⟩ : ∃ z, z = h3.size := ⟨_, rfl⟩
          rw [← g4] at A4 st4
          have g_b4 : n0 ≤ b4 := Nat.le_trans sz3 (Nat.le_of_eq g4.symm)
          have sz_b4 : h0.size ≤ b4 := Nat.le_trans KP3.1 (Nat.le_of_eq g4.symm)
          have ne_b3_b4 : b3 ≠ b4 := Nat.ne_of_lt (Nat.lt_of_lt_of_le A3.lt (Nat.le_of_eq g4.symm))
          have XO__4 := XO__3.ext E4
          have A3__4 := A3.ext E4
          have F3_value__4 := F3_value.ext E4
          have F3_coder__4 := F3_coder.ext E4
          have Zs3__4 := Zs3.ext E4 hC3
          have hR4 := hR3.trans (CHr.ext E4 hC3)
          have hC4 := hR4.1
          have sz4 := Nat.le_trans sz3 E4.1
          have KP4 := KP3.ext E4
          have hk4 := Nat.le_trans hk3 E4.1
          have V4 : Arv Z h4 b4 k4 .char (0 : Int32) [] (.int (0 : Int32)) := Arv.new A4 (by decide)
          refine own_go (fun t k => st4 t k) ?_
          show own_Go p e below _ (T4.setTop (mkF m 77 #[.val (.int q0), .val (.int q1), .val (.int q2), .val (.int q3), .val (.int (((q0.toUInt32 >>> ((1 : Int32) &&& 31).toUInt32).toInt32) &&& (3 : Int32))), .val (.int ((q1 &&& (255 : Int32)).toUInt32.toUInt16.toUInt32.toInt32)), .val (.int ((((q1.toUInt32 >>> ((8 : Int32) &&& 31).toUInt32).toInt32) &&& (255 : Int32)).toUInt32.toUInt16.toUInt32.toInt32)), .val (.int ((q2 &&& (255 : Int32)).toUInt32.toUInt16.toUInt32.toInt32)), .val (.int (q3 &&& (3 : Int32)))] [(.ref b4), (.ref b3), (.ref b3)]))
          obtain ⟨_, _, ⟨T5, L5, k5, n5⟩, -, X5, hSq5, hgr5, ⟨Lc5, hQ5, l5, y5, z5, hC5⟩, st5⟩ := X4.specialBackS hx (y := (⟨"java/lang/String", "<init>", "([C)V"⟩ : MethodName)) rfl hown (mvT hZ (hw _ (List.mem_of_getElem? (i := 158) rfl))) (mvT hZ (hw _ (List.mem_of_getElem? (i := 159) rfl))) (mvT hZ (hw _ (List.mem_of_getElem? (i := 160) rfl))) (by decide) (own_backH (s := s) (W := 1) (rmEe l Z a0 hw [] b3 b4 k4 h4 n0 sz4 A3__4 F3_value__4 F3_coder__4 g_b3 V4) hZ (hw _ (List.mem_of_getElem? (i := 160) rfl)) (hw _ (List.mem_of_getElem? (i := 5) rfl)) (by decide) (by decide) hEL hC4 (allS ⟨A3__4.lt, Zs3__4⟩ all0)) (g := (mkF m 77 #[.val (.int q0), .val (.int q1), .val (.int q2), .val (.int q3), .val (.int (((q0.toUInt32 >>> ((1 : Int32) &&& 31).toUInt32).toInt32) &&& (3 : Int32))), .val (.int ((q1 &&& (255 : Int32)).toUInt32.toUInt16.toUInt32.toInt32)), .val (.int ((((q1.toUInt32 >>> ((8 : Int32) &&& 31).toUInt32).toInt32) &&& (255 : Int32)).toUInt32.toUInt16.toUInt32.toInt32)), .val (.int ((q2 &&& (255 : Int32)).toUInt32.toUInt16.toUInt32.toInt32)), .val (.int (q3 &&& (3 : Int32)))] [(.ref b4), (.ref b3), (.ref b3)])) rfl (by rw [hml]; rfl) (Steps.refl _) (a := b3) (argsL := [(.ref b4)]) (rest := [(.ref b3)]) (lenOf pd19_0 rfl) rfl (by show 2 * 0 + _ ≤ _; exact Nat.le_of_eq rfl) (hb hby d19_77) (fun _ _ => ⟨rfl, e4, (by decide : 0 + 1 + 1 + 4 ≤ _), (by decide : 0 + 4 + 0 + 8 ≤ _)⟩)
          dsimp only [Pt.U, Pt.locs, Pt.cells, Pt.slots] at X5 l5 y5 z5 st5 hQ5 hSq5 hgr5 hC5
          subst l5 y5 z5
          obtain ⟨rfl, Nq5, K5, Fc5, d5, kd5, Fv5, A5⟩ := hQ5
          have N5 := Fr.app N0 Nq5
          refine own_go (fun t k => st5.trans k) ?_
          have hS5 := foldS (T := T4) hS0 (by rw [e4]; exact hk4) hSq5 hgr5
          have hZ5 : Z.Warmed39 T5.vm := State.Warmed39.trans (t := s.setVm s.vm) hZ hSq5.1
          have hown5 : T5.vm.findClass "com/example/convoke/convoke/apply/KeptOverrideIsMadePinLaw" = some m.cls := by rw [hSq5.1.alike.findClass]; exact hown
          have hk5 := Nat.le_refl T5.heap.size
          replace X5 : Stand p l e ({ frames := 4, cells := 6, slots := 28, locals := 66 } : Room) (s.setVm T5.vm) m #[(.int q0), (.int q1), (.int q2), (.int q3)] below meth c T5 _ _ _ := X5
          have XO__5 := XO__4.keep K5 (allS g_b3 all0)
          have A3__5 := A3__4.keep K5
          have V4__5 := V4.keep K5 (ninS (Ne.symm ne_b3_b4) nin0)
          have Zs3__5 := hC5.safe A3__4.lt Zs3__4
          have hR5 := hR4.trans hC5
          have hD5 := hR5.1
          have KP5 := KP4.trans K5 (allS (Or.inr sz_b3) all0)
          have sz5 := Nat.le_trans sz4 K5.1
          show own_Go p e below _ (T5.setTop (mkF m 80 #[.val (.int q0), .val (.int q1), .val (.int q2), .val (.int q3), .val (.int (((q0.toUInt32 >>> ((1 : Int32) &&& 31).toUInt32).toInt32) &&& (3 : Int32))), .val (.int ((q1 &&& (255 : Int32)).toUInt32.toUInt16.toUInt32.toInt32)), .val (.int ((((q1.toUInt32 >>> ((8 : Int32) &&& 31).toUInt32).toInt32) &&& (255 : Int32)).toUInt32.toUInt16.toUInt32.toInt32)), .val (.int ((q2 &&& (255 : Int32)).toUInt32.toUInt16.toUInt32.toInt32)), .val (.int (q3 &&& (3 : Int32)))] [(.ref b3)]))
          have hF : CHr Z own_EL s.vm s.heap T5.vm T5.heap := by rw [hh]; exact hR5.trans (CHv.at X5 hZ5 hEL hD5)
          exact own_retAH X5 hx Bd.returns rfl rfl (hb hby d19_80) hS5 hk5 (⟨_, rfl, rfl, N5, KP5⟩) (hF) (by decide) (by decide)
        · refine own_go (fun t k => XS.ifYes X0.here hx rfl (pc0 := 67) (pc' := 81) rfl (hb hby d19_67) rfl ((if0 _ _).trans (feq hc67).2) (by decide) (by decide) k) ?_
          show own_Go p e below _ (s₁.setTop (mkF m 81 #[.val (.int q0), .val (.int q1), .val (.int q2), .val (.int q3), .val (.int (((q0.toUInt32 >>> ((1 : Int32) &&& 31).toUInt32).toInt32) &&& (3 : Int32))), .val (.int ((q1 &&& (255 : Int32)).toUInt32.toUInt16.toUInt32.toInt32)), .val (.int ((((q1.toUInt32 >>> ((8 : Int32) &&& 31).toUInt32).toInt32) &&& (255 : Int32)).toUInt32.toUInt16.toUInt32.toInt32)), .val (.int ((q2 &&& (255 : Int32)).toUInt32.toUInt16.toUInt32.toInt32)), .val (.int (q3 &&& (3 : Int32)))] []))
          refine own_go (fun t k => XS.iload X0.here hx rfl (hb hby d19_81) rfl k) ?_
          show own_Go p e below _ (s₁.setTop (mkF m 83 #[.val (.int q0), .val (.int q1), .val (.int q2), .val (.int q3), .val (.int (((q0.toUInt32 >>> ((1 : Int32) &&& 31).toUInt32).toInt32) &&& (3 : Int32))), .val (.int ((q1 &&& (255 : Int32)).toUInt32.toUInt16.toUInt32.toInt32)), .val (.int ((((q1.toUInt32 >>> ((8 : Int32) &&& 31).toUInt32).toInt32) &&& (255 : Int32)).toUInt32.toUInt16.toUInt32.toInt32)), .val (.int ((q2 &&& (255 : Int32)).toUInt32.toUInt16.toUInt32.toInt32)), .val (.int (q3 &&& (3 : Int32)))] [(.int (q3 &&& (3 : Int32)))]))
          refine own_go (fun t k => XS.iconst X0.here hx rfl (hb hby d19_83) k) ?_
          show own_Go p e below _ (s₁.setTop (mkF m 84 #[.val (.int q0), .val (.int q1), .val (.int q2), .val (.int q3), .val (.int (((q0.toUInt32 >>> ((1 : Int32) &&& 31).toUInt32).toInt32) &&& (3 : Int32))), .val (.int ((q1 &&& (255 : Int32)).toUInt32.toUInt16.toUInt32.toInt32)), .val (.int ((((q1.toUInt32 >>> ((8 : Int32) &&& 31).toUInt32).toInt32) &&& (255 : Int32)).toUInt32.toUInt16.toUInt32.toInt32)), .val (.int ((q2 &&& (255 : Int32)).toUInt32.toUInt16.toUInt32.toInt32)), .val (.int (q3 &&& (3 : Int32)))] [(.int (1 : Int32)), (.int (q3 &&& (3 : Int32)))]))
          by_cases hc84 : (q3 &&& (3 : Int32)) = (1 : Int32)
          · refine own_go (fun t k => XS.icmpNo X0.here hx rfl (hb hby d19_84) rfl (teq hc84).2 k) ?_
            show own_Go p e below _ (s₁.setTop (mkF m 87 #[.val (.int q0), .val (.int q1), .val (.int q2), .val (.int q3), .val (.int (((q0.toUInt32 >>> ((1 : Int32) &&& 31).toUInt32).toInt32) &&& (3 : Int32))), .val (.int ((q1 &&& (255 : Int32)).toUInt32.toUInt16.toUInt32.toInt32)), .val (.int ((((q1.toUInt32 >>> ((8 : Int32) &&& 31).toUInt32).toInt32) &&& (255 : Int32)).toUInt32.toUInt16.toUInt32.toInt32)), .val (.int ((q2 &&& (255 : Int32)).toUInt32.toUInt16.toUInt32.toInt32)), .val (.int (q3 &&& (3 : Int32)))] []))
            obtain ⟨T6, h6, X6, e6, E6, A6, D6, -, st6⟩ := newO X0 hx hZ hown (hw _ (List.mem_of_getElem? (i := 156) rfl)) (hw _ (List.mem_of_getElem? (i := 6) rfl)) (hw _ (List.mem_of_getElem? (i := 5) rfl)) e0 (g := (mkF m 87 #[.val (.int q0), .val (.int q1), .val (.int q2), .val (.int q3), .val (.int (((q0.toUInt32 >>> ((1 : Int32) &&& 31).toUInt32).toInt32) &&& (3 : Int32))), .val (.int ((q1 &&& (255 : Int32)).toUInt32.toUInt16.toUInt32.toInt32)), .val (.int ((((q1.toUInt32 >>> ((8 : Int32) &&& 31).toUInt32).toInt32) &&& (255 : Int32)).toUInt32.toUInt16.toUInt32.toInt32)), .val (.int ((q2 &&& (255 : Int32)).toUInt32.toUInt16.toUInt32.toInt32)), .val (.int (q3 &&& (3 : Int32)))] [])) rfl (hb hby d19_87) (by decide) (by decide)
            obtain ⟨b6, g6⟩ : ∃ z, z = h0.size := ⟨_, rfl⟩
            rw [← g6] at A6 D6 st6
            have g_b6 : n0 ≤ b6 := Nat.le_trans Z0 (Nat.le_of_eq g6.symm)
            have sz_b6 : h0.size ≤ b6 := Nat.le_trans (Keep.refl h0 []).1 (Nat.le_of_eq g6.symm)
            have XO__6 := XO.ext E6
            have hR6 := hR0.trans (CHr.ext E6 hC0)
            have hC6 := hR6.1
            have sz6 := Nat.le_trans Z0 E6.1
            have KP6 := (Keep.refl h0 []).ext E6
            have hk6 := Nat.le_trans hk0 E6.1
            have Zs6 : Safe Z own_EL s.vm h6 b6 := Safe.ext E6 hC0 (Safe.new (Nat.le_of_eq g6.symm))
            have F6_value : Fld Z h6 b6 "java/lang/String" "value" "[B" .null := D6 (Or.inr (hw _ (List.mem_of_getElem? (i := 8) rfl))) (ty := (.array .byte)) (by decide)
            have F6_coder : Fld Z h6 b6 "java/lang/String" "coder" "B" (.int (0 : Int32)) := D6 (Or.inr (hw _ (List.mem_of_getElem? (i := 9) rfl))) (ty := .byte) (by decide)
            refine own_go (fun t k => st6 t k) ?_
            show own_Go p e below _ (T6.setTop (mkF m 90 #[.val (.int q0), .val (.int q1), .val (.int q2), .val (.int q3), .val (.int (((q0.toUInt32 >>> ((1 : Int32) &&& 31).toUInt32).toInt32) &&& (3 : Int32))), .val (.int ((q1 &&& (255 : Int32)).toUInt32.toUInt16.toUInt32.toInt32)), .val (.int ((((q1.toUInt32 >>> ((8 : Int32) &&& 31).toUInt32).toInt32) &&& (255 : Int32)).toUInt32.toUInt16.toUInt32.toInt32)), .val (.int ((q2 &&& (255 : Int32)).toUInt32.toUInt16.toUInt32.toInt32)), .val (.int (q3 &&& (3 : Int32)))] [(.ref b6)]))
            refine own_go (fun t k => XS.dup X6.here hx rfl (hb hby d19_90) rfl rfl k) ?_
            show own_Go p e below _ (T6.setTop (mkF m 91 #[.val (.int q0), .val (.int q1), .val (.int q2), .val (.int q3), .val (.int (((q0.toUInt32 >>> ((1 : Int32) &&& 31).toUInt32).toInt32) &&& (3 : Int32))), .val (.int ((q1 &&& (255 : Int32)).toUInt32.toUInt16.toUInt32.toInt32)), .val (.int ((((q1.toUInt32 >>> ((8 : Int32) &&& 31).toUInt32).toInt32) &&& (255 : Int32)).toUInt32.toUInt16.toUInt32.toInt32)), .val (.int ((q2 &&& (255 : Int32)).toUInt32.toUInt16.toUInt32.toInt32)), .val (.int (q3 &&& (3 : Int32)))] [(.ref b6), (.ref b6)]))
            refine own_go (fun t k => XS.iconst X6.here hx rfl (hb hby d19_91) k) ?_
            show own_Go p e below _ (T6.setTop (mkF m 92 #[.val (.int q0), .val (.int q1), .val (.int q2), .val (.int q3), .val (.int (((q0.toUInt32 >>> ((1 : Int32) &&& 31).toUInt32).toInt32) &&& (3 : Int32))), .val (.int ((q1 &&& (255 : Int32)).toUInt32.toUInt16.toUInt32.toInt32)), .val (.int ((((q1.toUInt32 >>> ((8 : Int32) &&& 31).toUInt32).toInt32) &&& (255 : Int32)).toUInt32.toUInt16.toUInt32.toInt32)), .val (.int ((q2 &&& (255 : Int32)).toUInt32.toUInt16.toUInt32.toInt32)), .val (.int (q3 &&& (3 : Int32)))] [(.int (1 : Int32)), (.ref b6), (.ref b6)]))
            obtain ⟨T7, h7, k7, X7, e7, E7, A7, st7⟩ := newP X6 hx hZ (hw _ (List.mem_of_getElem? (i := 157) rfl)) e6 (g := (mkF m 92 #[.val (.int q0), .val (.int q1), .val (.int q2), .val (.int q3), .val (.int (((q0.toUInt32 >>> ((1 : Int32) &&& 31).toUInt32).toInt32) &&& (3 : Int32))), .val (.int ((q1 &&& (255 : Int32)).toUInt32.toUInt16.toUInt32.toInt32)), .val (.int ((((q1.toUInt32 >>> ((8 : Int32) &&& 31).toUInt32).toInt32) &&& (255 : Int32)).toUInt32.toUInt16.toUInt32.toInt32)), .val (.int ((q2 &&& (255 : Int32)).toUInt32.toUInt16.toUInt32.toInt32)), .val (.int (q3 &&& (3 : Int32)))] [(.int (1 : Int32)), (.ref b6), (.ref b6)])) rfl (hb hby d19_92) rfl (by decide) (cap := 1) (by decide) (by decide) (by decide) (by decide)
            obtain ⟨b7, g7⟩ : ∃ z, z = h6.size := ⟨_, rfl⟩
            rw [← g7] at A7 st7
            have g_b7 : n0 ≤ b7 := Nat.le_trans sz6 (Nat.le_of_eq g7.symm)
            have sz_b7 : h0.size ≤ b7 := Nat.le_trans KP6.1 (Nat.le_of_eq g7.symm)
            have ne_b6_b7 : b6 ≠ b7 := Nat.ne_of_lt (Nat.lt_of_lt_of_le A6.lt (Nat.le_of_eq g7.symm))
            have XO__7 := XO__6.ext E7
            have A6__7 := A6.ext E7
            have F6_value__7 := F6_value.ext E7
            have F6_coder__7 := F6_coder.ext E7
            have Zs6__7 := Zs6.ext E7 hC6
            have hR7 := hR6.trans (CHr.ext E7 hC6)
            have hC7 := hR7.1
            have sz7 := Nat.le_trans sz6 E7.1
            have KP7 := KP6.ext E7
            have hk7 := Nat.le_trans hk6 E7.1
            have V7 : Arv Z h7 b7 k7 .char (1 : Int32) [(.int (0 : Int32))] (.int (0 : Int32)) := (Arv.new A7 (by decide)).pad (pad_rep [] (.int (0 : Int32)) 1)
            refine own_go (fun t k => st7 t k) ?_
            show own_Go p e below _ (T7.setTop (mkF m 94 #[.val (.int q0), .val (.int q1), .val (.int q2), .val (.int q3), .val (.int (((q0.toUInt32 >>> ((1 : Int32) &&& 31).toUInt32).toInt32) &&& (3 : Int32))), .val (.int ((q1 &&& (255 : Int32)).toUInt32.toUInt16.toUInt32.toInt32)), .val (.int ((((q1.toUInt32 >>> ((8 : Int32) &&& 31).toUInt32).toInt32) &&& (255 : Int32)).toUInt32.toUInt16.toUInt32.toInt32)), .val (.int ((q2 &&& (255 : Int32)).toUInt32.toUInt16.toUInt32.toInt32)), .val (.int (q3 &&& (3 : Int32)))] [(.ref b7), (.ref b6), (.ref b6)]))
            refine own_go (fun t k => XS.dup X7.here hx rfl (hb hby d19_94) rfl rfl k) ?_
            show own_Go p e below _ (T7.setTop (mkF m 95 #[.val (.int q0), .val (.int q1), .val (.int q2), .val (.int q3), .val (.int (((q0.toUInt32 >>> ((1 : Int32) &&& 31).toUInt32).toInt32) &&& (3 : Int32))), .val (.int ((q1 &&& (255 : Int32)).toUInt32.toUInt16.toUInt32.toInt32)), .val (.int ((((q1.toUInt32 >>> ((8 : Int32) &&& 31).toUInt32).toInt32) &&& (255 : Int32)).toUInt32.toUInt16.toUInt32.toInt32)), .val (.int ((q2 &&& (255 : Int32)).toUInt32.toUInt16.toUInt32.toInt32)), .val (.int (q3 &&& (3 : Int32)))] [(.ref b7), (.ref b7), (.ref b6), (.ref b6)]))
            refine own_go (fun t k => XS.iconst X7.here hx rfl (hb hby d19_95) k) ?_
            show own_Go p e below _ (T7.setTop (mkF m 96 #[.val (.int q0), .val (.int q1), .val (.int q2), .val (.int q3), .val (.int (((q0.toUInt32 >>> ((1 : Int32) &&& 31).toUInt32).toInt32) &&& (3 : Int32))), .val (.int ((q1 &&& (255 : Int32)).toUInt32.toUInt16.toUInt32.toInt32)), .val (.int ((((q1.toUInt32 >>> ((8 : Int32) &&& 31).toUInt32).toInt32) &&& (255 : Int32)).toUInt32.toUInt16.toUInt32.toInt32)), .val (.int ((q2 &&& (255 : Int32)).toUInt32.toUInt16.toUInt32.toInt32)), .val (.int (q3 &&& (3 : Int32)))] [(.int (0 : Int32)), (.ref b7), (.ref b7), (.ref b6), (.ref b6)]))
            refine own_go (fun t k => XS.iload X7.here hx rfl (hb hby d19_96) rfl k) ?_
            show own_Go p e below _ (T7.setTop (mkF m 98 #[.val (.int q0), .val (.int q1), .val (.int q2), .val (.int q3), .val (.int (((q0.toUInt32 >>> ((1 : Int32) &&& 31).toUInt32).toInt32) &&& (3 : Int32))), .val (.int ((q1 &&& (255 : Int32)).toUInt32.toUInt16.toUInt32.toInt32)), .val (.int ((((q1.toUInt32 >>> ((8 : Int32) &&& 31).toUInt32).toInt32) &&& (255 : Int32)).toUInt32.toUInt16.toUInt32.toInt32)), .val (.int ((q2 &&& (255 : Int32)).toUInt32.toUInt16.toUInt32.toInt32)), .val (.int (q3 &&& (3 : Int32)))] [(.int ((q1 &&& (255 : Int32)).toUInt32.toUInt16.toUInt32.toInt32)), (.int (0 : Int32)), (.ref b7), (.ref b7), (.ref b6), (.ref b6)]))
            obtain ⟨cl8, Ar8, qa8, Sa8, Na8, Ha8, Ga8⟩ := id V7
            have hin8 : ¬ ((0 : Int32) < 0 ∨ cl8.slots.size ≤ ((0 : Int32)).toNatClampNeg) := inb_of Sa8 ⟨by decide, by decide⟩
            obtain ⟨T8, h8, X8, e8, W8, st8⟩ := stC X7 hx hZ e7 Ar8 (j := (0 : Int32)) hin8 (g := (mkF m 98 #[.val (.int q0), .val (.int q1), .val (.int q2), .val (.int q3), .val (.int (((q0.toUInt32 >>> ((1 : Int32) &&& 31).toUInt32).toInt32) &&& (3 : Int32))), .val (.int ((q1 &&& (255 : Int32)).toUInt32.toUInt16.toUInt32.toInt32)), .val (.int ((((q1.toUInt32 >>> ((8 : Int32) &&& 31).toUInt32).toInt32) &&& (255 : Int32)).toUInt32.toUInt16.toUInt32.toInt32)), .val (.int ((q2 &&& (255 : Int32)).toUInt32.toUInt16.toUInt32.toInt32)), .val (.int (q3 &&& (3 : Int32)))] [(.int ((q1 &&& (255 : Int32)).toUInt32.toUInt16.toUInt32.toInt32)), (.int (0 : Int32)), (.ref b7), (.ref b7), (.ref b6), (.ref b6)])) rfl rfl (hb hby d19_98)
            have Vw8 : Arv Z h8 b7 k7 .char (1 : Int32) [(.int (nar .char ((q1 &&& (255 : Int32)).toUInt32.toUInt16.toUInt32.toInt32)))] (.int (0 : Int32)) := Arv.set Ar8 qa8 Sa8 Na8 Ha8 Ga8 (fits_nar_char _) W8 0 rfl (Nat.le_of_ble_eq_true rfl)
            have Sa8 : Safe Z own_EL s.vm h7 b7 := (Safe.arv hZ.alike V7 (by decide))
            have XO__8 := XO__7.wr W8 g_b7
            have A6__8 := A6__7.wr W8
            have F6_value__8 := F6_value__7.other W8 (Or.inl ne_b6_b7)
            have F6_coder__8 := F6_coder__7.other W8 (Or.inl ne_b6_b7)
            have Zs6__8 := Safe.wr W8 Sa8 hC7 Zs6__7
            have hR8 := hR7.trans (CHr.wr W8 Sa8 hC7)
            have hC8 := hR8.1
            have N8 := Fr.snoc X8 N0 g_b7
            have KP8 := KP7.wr W8 (Or.inr sz_b7)
            have sz8 := Nat.le_trans sz7 (Keep.of_wr W8).1
            have hk8 := Nat.le_trans hk7 (Keep.of_wr W8).1
            refine own_go (fun t k => st8 t k) ?_
            show own_Go p e below _ (T8.setTop (mkF m 99 #[.val (.int q0), .val (.int q1), .val (.int q2), .val (.int q3), .val (.int (((q0.toUInt32 >>> ((1 : Int32) &&& 31).toUInt32).toInt32) &&& (3 : Int32))), .val (.int ((q1 &&& (255 : Int32)).toUInt32.toUInt16.toUInt32.toInt32)), .val (.int ((((q1.toUInt32 >>> ((8 : Int32) &&& 31).toUInt32).toInt32) &&& (255 : Int32)).toUInt32.toUInt16.toUInt32.toInt32)), .val (.int ((q2 &&& (255 : Int32)).toUInt32.toUInt16.toUInt32.toInt32)), .val (.int (q3 &&& (3 : Int32)))] [(.ref b7), (.ref b6), (.ref b6)]))
            obtain ⟨_, _, ⟨T9, L9, k9, n9⟩, -, X9, ⟨Lc9, hQ9, l9, y9, z9⟩, st9⟩ := X8.specialBack hx (y := (⟨"java/lang/String", "<init>", "([C)V"⟩ : MethodName)) rfl hown (mvT hZ (hw _ (List.mem_of_getElem? (i := 158) rfl))) (mvT hZ (hw _ (List.mem_of_getElem? (i := 159) rfl))) (mvT hZ (hw _ (List.mem_of_getElem? (i := 160) rfl))) (by decide) (backOf (W := 1) (rmL1e l Z a0 hw [] b6 b7 k7 cs (nar .char ((q1 &&& (255 : Int32)).toUInt32.toUInt16.toUInt32.toInt32)) h8 n0 sz8 A6__8 F6_value__8 F6_coder__8 g_b6 (Ne.symm ne_b6_b7) Vw8 SC hcs XO__8 (own_mask _)) hZ (hw _ (List.mem_of_getElem? (i := 160) rfl)) (hw _ (List.mem_of_getElem? (i := 5) rfl)) (by decide) (by decide)) (g := (mkF m 99 #[.val (.int q0), .val (.int q1), .val (.int q2), .val (.int q3), .val (.int (((q0.toUInt32 >>> ((1 : Int32) &&& 31).toUInt32).toInt32) &&& (3 : Int32))), .val (.int ((q1 &&& (255 : Int32)).toUInt32.toUInt16.toUInt32.toInt32)), .val (.int ((((q1.toUInt32 >>> ((8 : Int32) &&& 31).toUInt32).toInt32) &&& (255 : Int32)).toUInt32.toUInt16.toUInt32.toInt32)), .val (.int ((q2 &&& (255 : Int32)).toUInt32.toUInt16.toUInt32.toInt32)), .val (.int (q3 &&& (3 : Int32)))] [(.ref b7), (.ref b6), (.ref b6)])) rfl (by rw [hml]; rfl) (Steps.refl _) (a := b6) (argsL := [(.ref b7)]) (rest := [(.ref b6)]) (lenOf pd19_0 rfl) rfl (by show 2 * 0 + _ ≤ _; exact Nat.le_of_eq rfl) (hb hby d19_99) (fun _ _ => ⟨rfl, e8, (by decide : 0 + 1 + 1 + 1 ≤ _), (by decide : 0 + 4 + 1 + 1 ≤ _)⟩)
            dsimp only [Pt.U, Pt.locs, Pt.cells, Pt.slots] at X9 l9 y9 z9 st9 hQ9
            subst l9 y9 z9
            obtain ⟨rfl, Nq9, K9, Fc9, d9, kd9, ge9, Fv9, A9⟩ := hQ9
            have N9 := Fr.app N8 Nq9
            refine own_go (fun t k => st9.trans k) ?_
            have g_d9 : n0 ≤ d9 := Nat.le_trans sz8 ge9
            have sz_d9 : h0.size ≤ d9 := Nat.le_trans KP8.1 ge9
            have ne_b6_d9 : b6 ≠ d9 := Nat.ne_of_lt (Nat.lt_of_lt_of_le A6__8.lt ge9)
            have ne_b7_d9 : b7 ≠ d9 := Nat.ne_of_lt (Nat.lt_of_lt_of_le Vw8.lt ge9)
            have XO__9 := XO__8.keep K9 (allS g_b6 all0)
            have A6__9 := A6__8.keep K9
            have Vw8__9 := Vw8.keep K9 (ninS (Ne.symm ne_b6_b7) nin0)
            have Zs6__9 := Zs6__8.keep K9 (show ∀ y ∈ ([b6] : List Addr), Safe Z own_EL s.vm h8 y from (sfS Zs6__8 sf0)) hC8
            have hR9 := hR8.trans (CHr.keep K9 (show ∀ y ∈ ([b6] : List Addr), Safe Z own_EL s.vm h8 y from (sfS Zs6__8 sf0)) hC8)
            have hC9 := hR9.1
            have KP9 := KP8.trans K9 (allS (Or.inr sz_b6) all0)
            have sz9 := Nat.le_trans sz8 K9.1
            have hk9 := Nat.le_trans hk8 K9.1
            show own_Go p e below _ (T9.setTop (mkF m 102 #[.val (.int q0), .val (.int q1), .val (.int q2), .val (.int q3), .val (.int (((q0.toUInt32 >>> ((1 : Int32) &&& 31).toUInt32).toInt32) &&& (3 : Int32))), .val (.int ((q1 &&& (255 : Int32)).toUInt32.toUInt16.toUInt32.toInt32)), .val (.int ((((q1.toUInt32 >>> ((8 : Int32) &&& 31).toUInt32).toInt32) &&& (255 : Int32)).toUInt32.toUInt16.toUInt32.toInt32)), .val (.int ((q2 &&& (255 : Int32)).toUInt32.toUInt16.toUInt32.toInt32)), .val (.int (q3 &&& (3 : Int32)))] [(.ref b6)]))
            have hF : CHr Z own_EL s.vm s.heap T9.vm T9.heap := by rw [hh]; exact hR9.trans (CHv.at X9 hZ hEL hC9)
            exact own_retAH X9 hx Bd.returns rfl rfl (hb hby d19_102) hS0 hk9 (⟨_, rfl, rfl, N9, KP9⟩) (hF) (by decide) (by decide)
          · refine own_go (fun t k => XS.icmpYes X0.here hx rfl (pc0 := 84) (pc' := 103) rfl (hb hby d19_84) rfl (feq hc84).2 (by decide) (by decide) k) ?_
            show own_Go p e below _ (s₁.setTop (mkF m 103 #[.val (.int q0), .val (.int q1), .val (.int q2), .val (.int q3), .val (.int (((q0.toUInt32 >>> ((1 : Int32) &&& 31).toUInt32).toInt32) &&& (3 : Int32))), .val (.int ((q1 &&& (255 : Int32)).toUInt32.toUInt16.toUInt32.toInt32)), .val (.int ((((q1.toUInt32 >>> ((8 : Int32) &&& 31).toUInt32).toInt32) &&& (255 : Int32)).toUInt32.toUInt16.toUInt32.toInt32)), .val (.int ((q2 &&& (255 : Int32)).toUInt32.toUInt16.toUInt32.toInt32)), .val (.int (q3 &&& (3 : Int32)))] []))
            refine own_go (fun t k => XS.iload X0.here hx rfl (hb hby d19_103) rfl k) ?_
            show own_Go p e below _ (s₁.setTop (mkF m 105 #[.val (.int q0), .val (.int q1), .val (.int q2), .val (.int q3), .val (.int (((q0.toUInt32 >>> ((1 : Int32) &&& 31).toUInt32).toInt32) &&& (3 : Int32))), .val (.int ((q1 &&& (255 : Int32)).toUInt32.toUInt16.toUInt32.toInt32)), .val (.int ((((q1.toUInt32 >>> ((8 : Int32) &&& 31).toUInt32).toInt32) &&& (255 : Int32)).toUInt32.toUInt16.toUInt32.toInt32)), .val (.int ((q2 &&& (255 : Int32)).toUInt32.toUInt16.toUInt32.toInt32)), .val (.int (q3 &&& (3 : Int32)))] [(.int (q3 &&& (3 : Int32)))]))
            refine own_go (fun t k => XS.iconst X0.here hx rfl (hb hby d19_105) k) ?_
            show own_Go p e below _ (s₁.setTop (mkF m 106 #[.val (.int q0), .val (.int q1), .val (.int q2), .val (.int q3), .val (.int (((q0.toUInt32 >>> ((1 : Int32) &&& 31).toUInt32).toInt32) &&& (3 : Int32))), .val (.int ((q1 &&& (255 : Int32)).toUInt32.toUInt16.toUInt32.toInt32)), .val (.int ((((q1.toUInt32 >>> ((8 : Int32) &&& 31).toUInt32).toInt32) &&& (255 : Int32)).toUInt32.toUInt16.toUInt32.toInt32)), .val (.int ((q2 &&& (255 : Int32)).toUInt32.toUInt16.toUInt32.toInt32)), .val (.int (q3 &&& (3 : Int32)))] [(.int (2 : Int32)), (.int (q3 &&& (3 : Int32)))]))
            by_cases hc106 : (q3 &&& (3 : Int32)) = (2 : Int32)
            · refine own_go (fun t k => XS.icmpNo X0.here hx rfl (hb hby d19_106) rfl (teq hc106).2 k) ?_
              show own_Go p e below _ (s₁.setTop (mkF m 109 #[.val (.int q0), .val (.int q1), .val (.int q2), .val (.int q3), .val (.int (((q0.toUInt32 >>> ((1 : Int32) &&& 31).toUInt32).toInt32) &&& (3 : Int32))), .val (.int ((q1 &&& (255 : Int32)).toUInt32.toUInt16.toUInt32.toInt32)), .val (.int ((((q1.toUInt32 >>> ((8 : Int32) &&& 31).toUInt32).toInt32) &&& (255 : Int32)).toUInt32.toUInt16.toUInt32.toInt32)), .val (.int ((q2 &&& (255 : Int32)).toUInt32.toUInt16.toUInt32.toInt32)), .val (.int (q3 &&& (3 : Int32)))] []))
              obtain ⟨T10, h10, X10, e10, E10, A10, D10, -, st10⟩ := newO X0 hx hZ hown (hw _ (List.mem_of_getElem? (i := 156) rfl)) (hw _ (List.mem_of_getElem? (i := 6) rfl)) (hw _ (List.mem_of_getElem? (i := 5) rfl)) e0 (g := (mkF m 109 #[.val (.int q0), .val (.int q1), .val (.int q2), .val (.int q3), .val (.int (((q0.toUInt32 >>> ((1 : Int32) &&& 31).toUInt32).toInt32) &&& (3 : Int32))), .val (.int ((q1 &&& (255 : Int32)).toUInt32.toUInt16.toUInt32.toInt32)), .val (.int ((((q1.toUInt32 >>> ((8 : Int32) &&& 31).toUInt32).toInt32) &&& (255 : Int32)).toUInt32.toUInt16.toUInt32.toInt32)), .val (.int ((q2 &&& (255 : Int32)).toUInt32.toUInt16.toUInt32.toInt32)), .val (.int (q3 &&& (3 : Int32)))] [])) rfl (hb hby d19_109) (by decide) (by decide)
              obtain ⟨b10, g10⟩ : ∃ z, z = h0.size := ⟨_, rfl⟩
              rw [← g10] at A10 D10 st10
              have g_b10 : n0 ≤ b10 := Nat.le_trans Z0 (Nat.le_of_eq g10.symm)
              have sz_b10 : h0.size ≤ b10 := Nat.le_trans (Keep.refl h0 []).1 (Nat.le_of_eq g10.symm)
              have XO__10 := XO.ext E10
              have hR10 := hR0.trans (CHr.ext E10 hC0)
              have hC10 := hR10.1
              have sz10 := Nat.le_trans Z0 E10.1
              have KP10 := (Keep.refl h0 []).ext E10
              have hk10 := Nat.le_trans hk0 E10.1
              have Zs10 : Safe Z own_EL s.vm h10 b10 := Safe.ext E10 hC0 (Safe.new (Nat.le_of_eq g10.symm))
              have F10_value : Fld Z h10 b10 "java/lang/String" "value" "[B" .null := D10 (Or.inr (hw _ (List.mem_of_getElem? (i := 8) rfl))) (ty := (.array .byte)) (by decide)
              have F10_coder : Fld Z h10 b10 "java/lang/String" "coder" "B" (.int (0 : Int32)) := D10 (Or.inr (hw _ (List.mem_of_getElem? (i := 9) rfl))) (ty := .byte) (by decide)
              refine own_go (fun t k => st10 t k) ?_
              show own_Go p e below _ (T10.setTop (mkF m 112 #[.val (.int q0), .val (.int q1), .val (.int q2), .val (.int q3), .val (.int (((q0.toUInt32 >>> ((1 : Int32) &&& 31).toUInt32).toInt32) &&& (3 : Int32))), .val (.int ((q1 &&& (255 : Int32)).toUInt32.toUInt16.toUInt32.toInt32)), .val (.int ((((q1.toUInt32 >>> ((8 : Int32) &&& 31).toUInt32).toInt32) &&& (255 : Int32)).toUInt32.toUInt16.toUInt32.toInt32)), .val (.int ((q2 &&& (255 : Int32)).toUInt32.toUInt16.toUInt32.toInt32)), .val (.int (q3 &&& (3 : Int32)))] [(.ref b10)]))
              refine own_go (fun t k => XS.dup X10.here hx rfl (hb hby d19_112) rfl rfl k) ?_
              show own_Go p e below _ (T10.setTop (mkF m 113 #[.val (.int q0), .val (.int q1), .val (.int q2), .val (.int q3), .val (.int (((q0.toUInt32 >>> ((1 : Int32) &&& 31).toUInt32).toInt32) &&& (3 : Int32))), .val (.int ((q1 &&& (255 : Int32)).toUInt32.toUInt16.toUInt32.toInt32)), .val (.int ((((q1.toUInt32 >>> ((8 : Int32) &&& 31).toUInt32).toInt32) &&& (255 : Int32)).toUInt32.toUInt16.toUInt32.toInt32)), .val (.int ((q2 &&& (255 : Int32)).toUInt32.toUInt16.toUInt32.toInt32)), .val (.int (q3 &&& (3 : Int32)))] [(.ref b10), (.ref b10)]))
              refine own_go (fun t k => XS.iconst X10.here hx rfl (hb hby d19_113) k) ?_
              show own_Go p e below _ (T10.setTop (mkF m 114 #[.val (.int q0), .val (.int q1), .val (.int q2), .val (.int q3), .val (.int (((q0.toUInt32 >>> ((1 : Int32) &&& 31).toUInt32).toInt32) &&& (3 : Int32))), .val (.int ((q1 &&& (255 : Int32)).toUInt32.toUInt16.toUInt32.toInt32)), .val (.int ((((q1.toUInt32 >>> ((8 : Int32) &&& 31).toUInt32).toInt32) &&& (255 : Int32)).toUInt32.toUInt16.toUInt32.toInt32)), .val (.int ((q2 &&& (255 : Int32)).toUInt32.toUInt16.toUInt32.toInt32)), .val (.int (q3 &&& (3 : Int32)))] [(.int (2 : Int32)), (.ref b10), (.ref b10)]))
              obtain ⟨T11, h11, k11, X11, e11, E11, A11, st11⟩ := newP X10 hx hZ (hw _ (List.mem_of_getElem? (i := 157) rfl)) e10 (g := (mkF m 114 #[.val (.int q0), .val (.int q1), .val (.int q2), .val (.int q3), .val (.int (((q0.toUInt32 >>> ((1 : Int32) &&& 31).toUInt32).toInt32) &&& (3 : Int32))), .val (.int ((q1 &&& (255 : Int32)).toUInt32.toUInt16.toUInt32.toInt32)), .val (.int ((((q1.toUInt32 >>> ((8 : Int32) &&& 31).toUInt32).toInt32) &&& (255 : Int32)).toUInt32.toUInt16.toUInt32.toInt32)), .val (.int ((q2 &&& (255 : Int32)).toUInt32.toUInt16.toUInt32.toInt32)), .val (.int (q3 &&& (3 : Int32)))] [(.int (2 : Int32)), (.ref b10), (.ref b10)])) rfl (hb hby d19_114) rfl (by decide) (cap := 2) (by decide) (by decide) (by decide) (by decide)
              obtain ⟨b11, g11⟩ : ∃ z, z = h10.size := ⟨_, rfl⟩
              rw [← g11] at A11 st11
              have g_b11 : n0 ≤ b11 := Nat.le_trans sz10 (Nat.le_of_eq g11.symm)
              have sz_b11 : h0.size ≤ b11 := Nat.le_trans KP10.1 (Nat.le_of_eq g11.symm)
              have ne_b10_b11 : b10 ≠ b11 := Nat.ne_of_lt (Nat.lt_of_lt_of_le A10.lt (Nat.le_of_eq g11.symm))
              have XO__11 := XO__10.ext E11
              have A10__11 := A10.ext E11
              have F10_value__11 := F10_value.ext E11
              have F10_coder__11 := F10_coder.ext E11
              have Zs10__11 := Zs10.ext E11 hC10
              have hR11 := hR10.trans (CHr.ext E11 hC10)
              have hC11 := hR11.1
              have sz11 := Nat.le_trans sz10 E11.1
              have KP11 := KP10.ext E11
              have hk11 := Nat.le_trans hk10 E11.1
              have V11 : Arv Z h11 b11 k11 .char (2 : Int32) [(.int (0 : Int32)), (.int (0 : Int32))] (.int (0 : Int32)) := (Arv.new A11 (by decide)).pad (pad_rep [] (.int (0 : Int32)) 2)
              refine own_go (fun t k => st11 t k) ?_
              show own_Go p e below _ (T11.setTop (mkF m 116 #[.val (.int q0), .val (.int q1), .val (.int q2), .val (.int q3), .val (.int (((q0.toUInt32 >>> ((1 : Int32) &&& 31).toUInt32).toInt32) &&& (3 : Int32))), .val (.int ((q1 &&& (255 : Int32)).toUInt32.toUInt16.toUInt32.toInt32)), .val (.int ((((q1.toUInt32 >>> ((8 : Int32) &&& 31).toUInt32).toInt32) &&& (255 : Int32)).toUInt32.toUInt16.toUInt32.toInt32)), .val (.int ((q2 &&& (255 : Int32)).toUInt32.toUInt16.toUInt32.toInt32)), .val (.int (q3 &&& (3 : Int32)))] [(.ref b11), (.ref b10), (.ref b10)]))
              refine own_go (fun t k => XS.dup X11.here hx rfl (hb hby d19_116) rfl rfl k) ?_
              show own_Go p e below _ (T11.setTop (mkF m 117 #[.val (.int q0), .val (.int q1), .val (.int q2), .val (.int q3), .val (.int (((q0.toUInt32 >>> ((1 : Int32) &&& 31).toUInt32).toInt32) &&& (3 : Int32))), .val (.int ((q1 &&& (255 : Int32)).toUInt32.toUInt16.toUInt32.toInt32)), .val (.int ((((q1.toUInt32 >>> ((8 : Int32) &&& 31).toUInt32).toInt32) &&& (255 : Int32)).toUInt32.toUInt16.toUInt32.toInt32)), .val (.int ((q2 &&& (255 : Int32)).toUInt32.toUInt16.toUInt32.toInt32)), .val (.int (q3 &&& (3 : Int32)))] [(.ref b11), (.ref b11), (.ref b10), (.ref b10)]))
              refine own_go (fun t k => XS.iconst X11.here hx rfl (hb hby d19_117) k) ?_
              show own_Go p e below _ (T11.setTop (mkF m 118 #[.val (.int q0), .val (.int q1), .val (.int q2), .val (.int q3), .val (.int (((q0.toUInt32 >>> ((1 : Int32) &&& 31).toUInt32).toInt32) &&& (3 : Int32))), .val (.int ((q1 &&& (255 : Int32)).toUInt32.toUInt16.toUInt32.toInt32)), .val (.int ((((q1.toUInt32 >>> ((8 : Int32) &&& 31).toUInt32).toInt32) &&& (255 : Int32)).toUInt32.toUInt16.toUInt32.toInt32)), .val (.int ((q2 &&& (255 : Int32)).toUInt32.toUInt16.toUInt32.toInt32)), .val (.int (q3 &&& (3 : Int32)))] [(.int (0 : Int32)), (.ref b11), (.ref b11), (.ref b10), (.ref b10)]))
              refine own_go (fun t k => XS.iload X11.here hx rfl (hb hby d19_118) rfl k) ?_
              show own_Go p e below _ (T11.setTop (mkF m 120 #[.val (.int q0), .val (.int q1), .val (.int q2), .val (.int q3), .val (.int (((q0.toUInt32 >>> ((1 : Int32) &&& 31).toUInt32).toInt32) &&& (3 : Int32))), .val (.int ((q1 &&& (255 : Int32)).toUInt32.toUInt16.toUInt32.toInt32)), .val (.int ((((q1.toUInt32 >>> ((8 : Int32) &&& 31).toUInt32).toInt32) &&& (255 : Int32)).toUInt32.toUInt16.toUInt32.toInt32)), .val (.int ((q2 &&& (255 : Int32)).toUInt32.toUInt16.toUInt32.toInt32)), .val (.int (q3 &&& (3 : Int32)))] [(.int ((q1 &&& (255 : Int32)).toUInt32.toUInt16.toUInt32.toInt32)), (.int (0 : Int32)), (.ref b11), (.ref b11), (.ref b10), (.ref b10)]))
              obtain ⟨cl12, Ar12, qa12, Sa12, Na12, Ha12, Ga12⟩ := id V11
              have hin12 : ¬ ((0 : Int32) < 0 ∨ cl12.slots.size ≤ ((0 : Int32)).toNatClampNeg) := inb_of Sa12 ⟨by decide, by decide⟩
              obtain ⟨T12, h12, X12, e12, W12, st12⟩ := stC X11 hx hZ e11 Ar12 (j := (0 : Int32)) hin12 (g := (mkF m 120 #[.val (.int q0), .val (.int q1), .val (.int q2), .val (.int q3), .val (.int (((q0.toUInt32 >>> ((1 : Int32) &&& 31).toUInt32).toInt32) &&& (3 : Int32))), .val (.int ((q1 &&& (255 : Int32)).toUInt32.toUInt16.toUInt32.toInt32)), .val (.int ((((q1.toUInt32 >>> ((8 : Int32) &&& 31).toUInt32).toInt32) &&& (255 : Int32)).toUInt32.toUInt16.toUInt32.toInt32)), .val (.int ((q2 &&& (255 : Int32)).toUInt32.toUInt16.toUInt32.toInt32)), .val (.int (q3 &&& (3 : Int32)))] [(.int ((q1 &&& (255 : Int32)).toUInt32.toUInt16.toUInt32.toInt32)), (.int (0 : Int32)), (.ref b11), (.ref b11), (.ref b10), (.ref b10)])) rfl rfl (hb hby d19_120)
              have Vw12 : Arv Z h12 b11 k11 .char (2 : Int32) [(.int (nar .char ((q1 &&& (255 : Int32)).toUInt32.toUInt16.toUInt32.toInt32))), (.int (0 : Int32))] (.int (0 : Int32)) := Arv.set Ar12 qa12 Sa12 Na12 Ha12 Ga12 (fits_nar_char _) W12 0 rfl (Nat.le_of_ble_eq_true rfl)
              have Sa12 : Safe Z own_EL s.vm h11 b11 := (Safe.arv hZ.alike V11 (by decide))
              have XO__12 := XO__11.wr W12 g_b11
              have A10__12 := A10__11.wr W12
              have F10_value__12 := F10_value__11.other W12 (Or.inl ne_b10_b11)
              have F10_coder__12 := F10_coder__11.other W12 (Or.inl ne_b10_b11)
              have Zs10__12 := Safe.wr W12 Sa12 hC11 Zs10__11
              have hR12 := hR11.trans (CHr.wr W12 Sa12 hC11)
              have hC12 := hR12.1
              have N12 := Fr.snoc X12 N0 g_b11
              have KP12 := KP11.wr W12 (Or.inr sz_b11)
              have sz12 := Nat.le_trans sz11 (Keep.of_wr W12).1
              have hk12 := Nat.le_trans hk11 (Keep.of_wr W12).1
              refine own_go (fun t k => st12 t k) ?_
              show own_Go p e below _ (T12.setTop (mkF m 121 #[.val (.int q0), .val (.int q1), .val (.int q2), .val (.int q3), .val (.int (((q0.toUInt32 >>> ((1 : Int32) &&& 31).toUInt32).toInt32) &&& (3 : Int32))), .val (.int ((q1 &&& (255 : Int32)).toUInt32.toUInt16.toUInt32.toInt32)), .val (.int ((((q1.toUInt32 >>> ((8 : Int32) &&& 31).toUInt32).toInt32) &&& (255 : Int32)).toUInt32.toUInt16.toUInt32.toInt32)), .val (.int ((q2 &&& (255 : Int32)).toUInt32.toUInt16.toUInt32.toInt32)), .val (.int (q3 &&& (3 : Int32)))] [(.ref b11), (.ref b10), (.ref b10)]))
              refine own_go (fun t k => XS.dup X12.here hx rfl (hb hby d19_121) rfl rfl k) ?_
              show own_Go p e below _ (T12.setTop (mkF m 122 #[.val (.int q0), .val (.int q1), .val (.int q2), .val (.int q3), .val (.int (((q0.toUInt32 >>> ((1 : Int32) &&& 31).toUInt32).toInt32) &&& (3 : Int32))), .val (.int ((q1 &&& (255 : Int32)).toUInt32.toUInt16.toUInt32.toInt32)), .val (.int ((((q1.toUInt32 >>> ((8 : Int32) &&& 31).toUInt32).toInt32) &&& (255 : Int32)).toUInt32.toUInt16.toUInt32.toInt32)), .val (.int ((q2 &&& (255 : Int32)).toUInt32.toUInt16.toUInt32.toInt32)), .val (.int (q3 &&& (3 : Int32)))] [(.ref b11), (.ref b11), (.ref b10), (.ref b10)]))
              refine own_go (fun t k => XS.iconst X12.here hx rfl (hb hby d19_122) k) ?_
              show own_Go p e below _ (T12.setTop (mkF m 123 #[.val (.int q0), .val (.int q1), .val (.int q2), .val (.int q3), .val (.int (((q0.toUInt32 >>> ((1 : Int32) &&& 31).toUInt32).toInt32) &&& (3 : Int32))), .val (.int ((q1 &&& (255 : Int32)).toUInt32.toUInt16.toUInt32.toInt32)), .val (.int ((((q1.toUInt32 >>> ((8 : Int32) &&& 31).toUInt32).toInt32) &&& (255 : Int32)).toUInt32.toUInt16.toUInt32.toInt32)), .val (.int ((q2 &&& (255 : Int32)).toUInt32.toUInt16.toUInt32.toInt32)), .val (.int (q3 &&& (3 : Int32)))] [(.int (1 : Int32)), (.ref b11), (.ref b11), (.ref b10), (.ref b10)]))
              refine own_go (fun t k => XS.iload X12.here hx rfl (hb hby d19_123) rfl k) ?_
              show own_Go p e below _ (T12.setTop (mkF m 125 #[.val (.int q0), .val (.int q1), .val (.int q2), .val (.int q3), .val (.int (((q0.toUInt32 >>> ((1 : Int32) &&& 31).toUInt32).toInt32) &&& (3 : Int32))), .val (.int ((q1 &&& (255 : Int32)).toUInt32.toUInt16.toUInt32.toInt32)), .val (.int ((((q1.toUInt32 >>> ((8 : Int32) &&& 31).toUInt32).toInt32) &&& (255 : Int32)).toUInt32.toUInt16.toUInt32.toInt32)), .val (.int ((q2 &&& (255 : Int32)).toUInt32.toUInt16.toUInt32.toInt32)), .val (.int (q3 &&& (3 : Int32)))] [(.int ((((q1.toUInt32 >>> ((8 : Int32) &&& 31).toUInt32).toInt32) &&& (255 : Int32)).toUInt32.toUInt16.toUInt32.toInt32)), (.int (1 : Int32)), (.ref b11), (.ref b11), (.ref b10), (.ref b10)]))
              obtain ⟨cl13, Ar13, qa13, Sa13, Na13, Ha13, Ga13⟩ := id Vw12
              have hin13 : ¬ ((1 : Int32) < 0 ∨ cl13.slots.size ≤ ((1 : Int32)).toNatClampNeg) := inb_of Sa13 ⟨by decide, by decide⟩
              obtain ⟨T13, h13, X13, e13, W13, st13⟩ := stC X12 hx hZ e12 Ar13 (j := (1 : Int32)) hin13 (g := (mkF m 125 #[.val (.int q0), .val (.int q1), .val (.int q2), .val (.int q3), .val (.int (((q0.toUInt32 >>> ((1 : Int32) &&& 31).toUInt32).toInt32) &&& (3 : Int32))), .val (.int ((q1 &&& (255 : Int32)).toUInt32.toUInt16.toUInt32.toInt32)), .val (.int ((((q1.toUInt32 >>> ((8 : Int32) &&& 31).toUInt32).toInt32) &&& (255 : Int32)).toUInt32.toUInt16.toUInt32.toInt32)), .val (.int ((q2 &&& (255 : Int32)).toUInt32.toUInt16.toUInt32.toInt32)), .val (.int (q3 &&& (3 : Int32)))] [(.int ((((q1.toUInt32 >>> ((8 : Int32) &&& 31).toUInt32).toInt32) &&& (255 : Int32)).toUInt32.toUInt16.toUInt32.toInt32)), (.int (1 : Int32)), (.ref b11), (.ref b11), (.ref b10), (.ref b10)])) rfl rfl (hb hby d19_125)
              have Vw13 : Arv Z h13 b11 k11 .char (2 : Int32) [(.int (nar .char ((q1 &&& (255 : Int32)).toUInt32.toUInt16.toUInt32.toInt32))), (.int (nar .char ((((q1.toUInt32 >>> ((8 : Int32) &&& 31).toUInt32).toInt32) &&& (255 : Int32)).toUInt32.toUInt16.toUInt32.toInt32)))] (.int (0 : Int32)) := Arv.set Ar13 qa13 Sa13 Na13 Ha13 Ga13 (fits_nar_char _) W13 1 rfl (Nat.le_of_ble_eq_true rfl)
              have Sa13 : Safe Z own_EL s.vm h12 b11 := (Safe.arv hZ.alike Vw12 (by decide))
              have XO__13 := XO__12.wr W13 g_b11
              have A10__13 := A10__12.wr W13
              have F10_value__13 := F10_value__12.other W13 (Or.inl ne_b10_b11)
              have F10_coder__13 := F10_coder__12.other W13 (Or.inl ne_b10_b11)
              have Zs10__13 := Safe.wr W13 Sa13 hC12 Zs10__12
              have hR13 := hR12.trans (CHr.wr W13 Sa13 hC12)
              have hC13 := hR13.1
              have N13 := Fr.snoc X13 N12 g_b11
              have KP13 := KP12.wr W13 (Or.inr sz_b11)
              have sz13 := Nat.le_trans sz12 (Keep.of_wr W13).1
              have hk13 := Nat.le_trans hk12 (Keep.of_wr W13).1
              refine own_go (fun t k => st13 t k) ?_
              show own_Go p e below _ (T13.setTop (mkF m 126 #[.val (.int q0), .val (.int q1), .val (.int q2), .val (.int q3), .val (.int (((q0.toUInt32 >>> ((1 : Int32) &&& 31).toUInt32).toInt32) &&& (3 : Int32))), .val (.int ((q1 &&& (255 : Int32)).toUInt32.toUInt16.toUInt32.toInt32)), .val (.int ((((q1.toUInt32 >>> ((8 : Int32) &&& 31).toUInt32).toInt32) &&& (255 : Int32)).toUInt32.toUInt16.toUInt32.toInt32)), .val (.int ((q2 &&& (255 : Int32)).toUInt32.toUInt16.toUInt32.toInt32)), .val (.int (q3 &&& (3 : Int32)))] [(.ref b11), (.ref b10), (.ref b10)]))
              obtain ⟨_, _, ⟨T14, L14, k14, n14⟩, -, X14, ⟨Lc14, hQ14, l14, y14, z14⟩, st14⟩ := X13.specialBack hx (y := (⟨"java/lang/String", "<init>", "([C)V"⟩ : MethodName)) rfl hown (mvT hZ (hw _ (List.mem_of_getElem? (i := 158) rfl))) (mvT hZ (hw _ (List.mem_of_getElem? (i := 159) rfl))) (mvT hZ (hw _ (List.mem_of_getElem? (i := 160) rfl))) (by decide) (backOf (W := 1) (rmL2e l Z a0 hw [] b10 b11 k11 cs (nar .char ((q1 &&& (255 : Int32)).toUInt32.toUInt16.toUInt32.toInt32)) (nar .char ((((q1.toUInt32 >>> ((8 : Int32) &&& 31).toUInt32).toInt32) &&& (255 : Int32)).toUInt32.toUInt16.toUInt32.toInt32)) h13 n0 sz13 A10__13 F10_value__13 F10_coder__13 g_b10 (Ne.symm ne_b10_b11) Vw13 SC hcs XO__13 (own_mask _) (own_mask _)) hZ (hw _ (List.mem_of_getElem? (i := 160) rfl)) (hw _ (List.mem_of_getElem? (i := 5) rfl)) (by decide) (by decide)) (g := (mkF m 126 #[.val (.int q0), .val (.int q1), .val (.int q2), .val (.int q3), .val (.int (((q0.toUInt32 >>> ((1 : Int32) &&& 31).toUInt32).toInt32) &&& (3 : Int32))), .val (.int ((q1 &&& (255 : Int32)).toUInt32.toUInt16.toUInt32.toInt32)), .val (.int ((((q1.toUInt32 >>> ((8 : Int32) &&& 31).toUInt32).toInt32) &&& (255 : Int32)).toUInt32.toUInt16.toUInt32.toInt32)), .val (.int ((q2 &&& (255 : Int32)).toUInt32.toUInt16.toUInt32.toInt32)), .val (.int (q3 &&& (3 : Int32)))] [(.ref b11), (.ref b10), (.ref b10)])) rfl (by rw [hml]; rfl) (Steps.refl _) (a := b10) (argsL := [(.ref b11)]) (rest := [(.ref b10)]) (lenOf pd19_0 rfl) rfl (by show 2 * 0 + _ ≤ _; exact Nat.le_of_eq rfl) (hb hby d19_126) (fun _ _ => ⟨rfl, e13, (by decide : 0 + 1 + 1 + 1 ≤ _), (by decide : 0 + 4 + 2 + 2 ≤ _)⟩)
              dsimp only [Pt.U, Pt.locs, Pt.cells, Pt.slots] at X14 l14 y14 z14 st14 hQ14
              subst l14 y14 z14
              obtain ⟨rfl, Nq14, K14, Fc14, d14, kd14, ge14, Fv14, A14⟩ := hQ14
              have N14 := Fr.app N13 Nq14
              refine own_go (fun t k => st14.trans k) ?_
              have g_d14 : n0 ≤ d14 := Nat.le_trans sz13 ge14
              have sz_d14 : h0.size ≤ d14 := Nat.le_trans KP13.1 ge14
              have ne_b10_d14 : b10 ≠ d14 := Nat.ne_of_lt (Nat.lt_of_lt_of_le A10__13.lt ge14)
              have ne_b11_d14 : b11 ≠ d14 := Nat.ne_of_lt (Nat.lt_of_lt_of_le Vw13.lt ge14)
              have XO__14 := XO__13.keep K14 (allS g_b10 all0)
              have A10__14 := A10__13.keep K14
              have Vw13__14 := Vw13.keep K14 (ninS (Ne.symm ne_b10_b11) nin0)
              have Zs10__14 := Zs10__13.keep K14 (show ∀ y ∈ ([b10] : List Addr), Safe Z own_EL s.vm h13 y from (sfS Zs10__13 sf0)) hC13
              have hR14 := hR13.trans (CHr.keep K14 (show ∀ y ∈ ([b10] : List Addr), Safe Z own_EL s.vm h13 y from (sfS Zs10__13 sf0)) hC13)
              have hC14 := hR14.1
              have KP14 := KP13.trans K14 (allS (Or.inr sz_b10) all0)
              have sz14 := Nat.le_trans sz13 K14.1
              have hk14 := Nat.le_trans hk13 K14.1
              show own_Go p e below _ (T14.setTop (mkF m 129 #[.val (.int q0), .val (.int q1), .val (.int q2), .val (.int q3), .val (.int (((q0.toUInt32 >>> ((1 : Int32) &&& 31).toUInt32).toInt32) &&& (3 : Int32))), .val (.int ((q1 &&& (255 : Int32)).toUInt32.toUInt16.toUInt32.toInt32)), .val (.int ((((q1.toUInt32 >>> ((8 : Int32) &&& 31).toUInt32).toInt32) &&& (255 : Int32)).toUInt32.toUInt16.toUInt32.toInt32)), .val (.int ((q2 &&& (255 : Int32)).toUInt32.toUInt16.toUInt32.toInt32)), .val (.int (q3 &&& (3 : Int32)))] [(.ref b10)]))
              have hF : CHr Z own_EL s.vm s.heap T14.vm T14.heap := by rw [hh]; exact hR14.trans (CHv.at X14 hZ hEL hC14)
              exact own_retAH X14 hx Bd.returns rfl rfl (hb hby d19_129) hS0 hk14 (⟨_, rfl, rfl, N14, KP14⟩) (hF) (by decide) (by decide)
            · refine own_go (fun t k => XS.icmpYes X0.here hx rfl (pc0 := 106) (pc' := 130) rfl (hb hby d19_106) rfl (feq hc106).2 (by decide) (by decide) k) ?_
              show own_Go p e below _ (s₁.setTop (mkF m 130 #[.val (.int q0), .val (.int q1), .val (.int q2), .val (.int q3), .val (.int (((q0.toUInt32 >>> ((1 : Int32) &&& 31).toUInt32).toInt32) &&& (3 : Int32))), .val (.int ((q1 &&& (255 : Int32)).toUInt32.toUInt16.toUInt32.toInt32)), .val (.int ((((q1.toUInt32 >>> ((8 : Int32) &&& 31).toUInt32).toInt32) &&& (255 : Int32)).toUInt32.toUInt16.toUInt32.toInt32)), .val (.int ((q2 &&& (255 : Int32)).toUInt32.toUInt16.toUInt32.toInt32)), .val (.int (q3 &&& (3 : Int32)))] []))
              obtain ⟨T15, h15, X15, e15, E15, A15, D15, -, st15⟩ := newO X0 hx hZ hown (hw _ (List.mem_of_getElem? (i := 156) rfl)) (hw _ (List.mem_of_getElem? (i := 6) rfl)) (hw _ (List.mem_of_getElem? (i := 5) rfl)) e0 (g := (mkF m 130 #[.val (.int q0), .val (.int q1), .val (.int q2), .val (.int q3), .val (.int (((q0.toUInt32 >>> ((1 : Int32) &&& 31).toUInt32).toInt32) &&& (3 : Int32))), .val (.int ((q1 &&& (255 : Int32)).toUInt32.toUInt16.toUInt32.toInt32)), .val (.int ((((q1.toUInt32 >>> ((8 : Int32) &&& 31).toUInt32).toInt32) &&& (255 : Int32)).toUInt32.toUInt16.toUInt32.toInt32)), .val (.int ((q2 &&& (255 : Int32)).toUInt32.toUInt16.toUInt32.toInt32)), .val (.int (q3 &&& (3 : Int32)))] [])) rfl (hb hby d19_130) (by decide) (by decide)
              obtain ⟨b15, g15⟩ : ∃ z, z = h0.size := ⟨_, rfl⟩
              rw [← g15] at A15 D15 st15
              have g_b15 : n0 ≤ b15 := Nat.le_trans Z0 (Nat.le_of_eq g15.symm)
              have sz_b15 : h0.size ≤ b15 := Nat.le_trans (Keep.refl h0 []).1 (Nat.le_of_eq g15.symm)
              have XO__15 := XO.ext E15
              have hR15 := hR0.trans (CHr.ext E15 hC0)
              have hC15 := hR15.1
              have sz15 := Nat.le_trans Z0 E15.1
              have KP15 := (Keep.refl h0 []).ext E15
              have hk15 := Nat.le_trans hk0 E15.1
              have Zs15 : Safe Z own_EL s.vm h15 b15 := Safe.ext E15 hC0 (Safe.new (Nat.le_of_eq g15.symm))
              have F15_value : Fld Z h15 b15 "java/lang/String" "value" "[B" .null := D15 (Or.inr (hw _ (List.mem_of_getElem? (i := 8) rfl))) (ty := (.array .byte)) (by decide)
              have F15_coder : Fld Z h15 b15 "java/lang/String" "coder" "B" (.int (0 : Int32)) := D15 (Or.inr (hw _ (List.mem_of_getElem? (i := 9) rfl))) (ty := .byte) (by decide)
              refine own_go (fun t k => st15 t k) ?_
              show own_Go p e below _ (T15.setTop (mkF m 133 #[.val (.int q0), .val (.int q1), .val (.int q2), .val (.int q3), .val (.int (((q0.toUInt32 >>> ((1 : Int32) &&& 31).toUInt32).toInt32) &&& (3 : Int32))), .val (.int ((q1 &&& (255 : Int32)).toUInt32.toUInt16.toUInt32.toInt32)), .val (.int ((((q1.toUInt32 >>> ((8 : Int32) &&& 31).toUInt32).toInt32) &&& (255 : Int32)).toUInt32.toUInt16.toUInt32.toInt32)), .val (.int ((q2 &&& (255 : Int32)).toUInt32.toUInt16.toUInt32.toInt32)), .val (.int (q3 &&& (3 : Int32)))] [(.ref b15)]))
              refine own_go (fun t k => XS.dup X15.here hx rfl (hb hby d19_133) rfl rfl k) ?_
              show own_Go p e below _ (T15.setTop (mkF m 134 #[.val (.int q0), .val (.int q1), .val (.int q2), .val (.int q3), .val (.int (((q0.toUInt32 >>> ((1 : Int32) &&& 31).toUInt32).toInt32) &&& (3 : Int32))), .val (.int ((q1 &&& (255 : Int32)).toUInt32.toUInt16.toUInt32.toInt32)), .val (.int ((((q1.toUInt32 >>> ((8 : Int32) &&& 31).toUInt32).toInt32) &&& (255 : Int32)).toUInt32.toUInt16.toUInt32.toInt32)), .val (.int ((q2 &&& (255 : Int32)).toUInt32.toUInt16.toUInt32.toInt32)), .val (.int (q3 &&& (3 : Int32)))] [(.ref b15), (.ref b15)]))
              refine own_go (fun t k => XS.iconst X15.here hx rfl (hb hby d19_134) k) ?_
              show own_Go p e below _ (T15.setTop (mkF m 135 #[.val (.int q0), .val (.int q1), .val (.int q2), .val (.int q3), .val (.int (((q0.toUInt32 >>> ((1 : Int32) &&& 31).toUInt32).toInt32) &&& (3 : Int32))), .val (.int ((q1 &&& (255 : Int32)).toUInt32.toUInt16.toUInt32.toInt32)), .val (.int ((((q1.toUInt32 >>> ((8 : Int32) &&& 31).toUInt32).toInt32) &&& (255 : Int32)).toUInt32.toUInt16.toUInt32.toInt32)), .val (.int ((q2 &&& (255 : Int32)).toUInt32.toUInt16.toUInt32.toInt32)), .val (.int (q3 &&& (3 : Int32)))] [(.int (3 : Int32)), (.ref b15), (.ref b15)]))
              obtain ⟨T16, h16, k16, X16, e16, E16, A16, st16⟩ := newP X15 hx hZ (hw _ (List.mem_of_getElem? (i := 157) rfl)) e15 (g := (mkF m 135 #[.val (.int q0), .val (.int q1), .val (.int q2), .val (.int q3), .val (.int (((q0.toUInt32 >>> ((1 : Int32) &&& 31).toUInt32).toInt32) &&& (3 : Int32))), .val (.int ((q1 &&& (255 : Int32)).toUInt32.toUInt16.toUInt32.toInt32)), .val (.int ((((q1.toUInt32 >>> ((8 : Int32) &&& 31).toUInt32).toInt32) &&& (255 : Int32)).toUInt32.toUInt16.toUInt32.toInt32)), .val (.int ((q2 &&& (255 : Int32)).toUInt32.toUInt16.toUInt32.toInt32)), .val (.int (q3 &&& (3 : Int32)))] [(.int (3 : Int32)), (.ref b15), (.ref b15)])) rfl (hb hby d19_135) rfl (by decide) (cap := 3) (by decide) (by decide) (by decide) (by decide)
              obtain ⟨b16, g16⟩ : ∃ z, z = h15.size := ⟨_, rfl⟩
              rw [← g16] at A16 st16
              have g_b16 : n0 ≤ b16 := Nat.le_trans sz15 (Nat.le_of_eq g16.symm)
              have sz_b16 : h0.size ≤ b16 := Nat.le_trans KP15.1 (Nat.le_of_eq g16.symm)
              have ne_b15_b16 : b15 ≠ b16 := Nat.ne_of_lt (Nat.lt_of_lt_of_le A15.lt (Nat.le_of_eq g16.symm))
              have XO__16 := XO__15.ext E16
              have A15__16 := A15.ext E16
              have F15_value__16 := F15_value.ext E16
              have F15_coder__16 := F15_coder.ext E16
              have Zs15__16 := Zs15.ext E16 hC15
              have hR16 := hR15.trans (CHr.ext E16 hC15)
              have hC16 := hR16.1
              have sz16 := Nat.le_trans sz15 E16.1
              have KP16 := KP15.ext E16
              have hk16 := Nat.le_trans hk15 E16.1
              have V16 : Arv Z h16 b16 k16 .char (3 : Int32) [(.int (0 : Int32)), (.int (0 : Int32)), (.int (0 : Int32))] (.int (0 : Int32)) := (Arv.new A16 (by decide)).pad (pad_rep [] (.int (0 : Int32)) 3)
              refine own_go (fun t k => st16 t k) ?_
              show own_Go p e below _ (T16.setTop (mkF m 137 #[.val (.int q0), .val (.int q1), .val (.int q2), .val (.int q3), .val (.int (((q0.toUInt32 >>> ((1 : Int32) &&& 31).toUInt32).toInt32) &&& (3 : Int32))), .val (.int ((q1 &&& (255 : Int32)).toUInt32.toUInt16.toUInt32.toInt32)), .val (.int ((((q1.toUInt32 >>> ((8 : Int32) &&& 31).toUInt32).toInt32) &&& (255 : Int32)).toUInt32.toUInt16.toUInt32.toInt32)), .val (.int ((q2 &&& (255 : Int32)).toUInt32.toUInt16.toUInt32.toInt32)), .val (.int (q3 &&& (3 : Int32)))] [(.ref b16), (.ref b15), (.ref b15)]))
              refine own_go (fun t k => XS.dup X16.here hx rfl (hb hby d19_137) rfl rfl k) ?_
              show own_Go p e below _ (T16.setTop (mkF m 138 #[.val (.int q0), .val (.int q1), .val (.int q2), .val (.int q3), .val (.int (((q0.toUInt32 >>> ((1 : Int32) &&& 31).toUInt32).toInt32) &&& (3 : Int32))), .val (.int ((q1 &&& (255 : Int32)).toUInt32.toUInt16.toUInt32.toInt32)), .val (.int ((((q1.toUInt32 >>> ((8 : Int32) &&& 31).toUInt32).toInt32) &&& (255 : Int32)).toUInt32.toUInt16.toUInt32.toInt32)), .val (.int ((q2 &&& (255 : Int32)).toUInt32.toUInt16.toUInt32.toInt32)), .val (.int (q3 &&& (3 : Int32)))] [(.ref b16), (.ref b16), (.ref b15), (.ref b15)]))
              refine own_go (fun t k => XS.iconst X16.here hx rfl (hb hby d19_138) k) ?_
              show own_Go p e below _ (T16.setTop (mkF m 139 #[.val (.int q0), .val (.int q1), .val (.int q2), .val (.int q3), .val (.int (((q0.toUInt32 >>> ((1 : Int32) &&& 31).toUInt32).toInt32) &&& (3 : Int32))), .val (.int ((q1 &&& (255 : Int32)).toUInt32.toUInt16.toUInt32.toInt32)), .val (.int ((((q1.toUInt32 >>> ((8 : Int32) &&& 31).toUInt32).toInt32) &&& (255 : Int32)).toUInt32.toUInt16.toUInt32.toInt32)), .val (.int ((q2 &&& (255 : Int32)).toUInt32.toUInt16.toUInt32.toInt32)), .val (.int (q3 &&& (3 : Int32)))] [(.int (0 : Int32)), (.ref b16), (.ref b16), (.ref b15), (.ref b15)]))
              refine own_go (fun t k => XS.iload X16.here hx rfl (hb hby d19_139) rfl k) ?_
              show own_Go p e below _ (T16.setTop (mkF m 141 #[.val (.int q0), .val (.int q1), .val (.int q2), .val (.int q3), .val (.int (((q0.toUInt32 >>> ((1 : Int32) &&& 31).toUInt32).toInt32) &&& (3 : Int32))), .val (.int ((q1 &&& (255 : Int32)).toUInt32.toUInt16.toUInt32.toInt32)), .val (.int ((((q1.toUInt32 >>> ((8 : Int32) &&& 31).toUInt32).toInt32) &&& (255 : Int32)).toUInt32.toUInt16.toUInt32.toInt32)), .val (.int ((q2 &&& (255 : Int32)).toUInt32.toUInt16.toUInt32.toInt32)), .val (.int (q3 &&& (3 : Int32)))] [(.int ((q1 &&& (255 : Int32)).toUInt32.toUInt16.toUInt32.toInt32)), (.int (0 : Int32)), (.ref b16), (.ref b16), (.ref b15), (.ref b15)]))
              obtain ⟨cl17, Ar17, qa17, Sa17, Na17, Ha17, Ga17⟩ := id V16
              have hin17 : ¬ ((0 : Int32) < 0 ∨ cl17.slots.size ≤ ((0 : Int32)).toNatClampNeg) := inb_of Sa17 ⟨by decide, by decide⟩
              obtain ⟨T17, h17, X17, e17, W17, st17⟩ := stC X16 hx hZ e16 Ar17 (j := (0 : Int32)) hin17 (g := (mkF m 141 #[.val (.int q0), .val (.int q1), .val (.int q2), .val (.int q3), .val (.int (((q0.toUInt32 >>> ((1 : Int32) &&& 31).toUInt32).toInt32) &&& (3 : Int32))), .val (.int ((q1 &&& (255 : Int32)).toUInt32.toUInt16.toUInt32.toInt32)), .val (.int ((((q1.toUInt32 >>> ((8 : Int32) &&& 31).toUInt32).toInt32) &&& (255 : Int32)).toUInt32.toUInt16.toUInt32.toInt32)), .val (.int ((q2 &&& (255 : Int32)).toUInt32.toUInt16.toUInt32.toInt32)), .val (.int (q3 &&& (3 : Int32)))] [(.int ((q1 &&& (255 : Int32)).toUInt32.toUInt16.toUInt32.toInt32)), (.int (0 : Int32)), (.ref b16), (.ref b16), (.ref b15), (.ref b15)])) rfl rfl (hb hby d19_141)
              have Vw17 : Arv Z h17 b16 k16 .char (3 : Int32) [(.int (nar .char ((q1 &&& (255 : Int32)).toUInt32.toUInt16.toUInt32.toInt32))), (.int (0 : Int32)), (.int (0 : Int32))] (.int (0 : Int32)) := Arv.set Ar17 qa17 Sa17 Na17 Ha17 Ga17 (fits_nar_char _) W17 0 rfl (Nat.le_of_ble_eq_true rfl)
              have Sa17 : Safe Z own_EL s.vm h16 b16 := (Safe.arv hZ.alike V16 (by decide))
              have XO__17 := XO__16.wr W17 g_b16
              have A15__17 := A15__16.wr W17
              have F15_value__17 := F15_value__16.other W17 (Or.inl ne_b15_b16)
              have F15_coder__17 := F15_coder__16.other W17 (Or.inl ne_b15_b16)
              have Zs15__17 := Safe.wr W17 Sa17 hC16 Zs15__16
              have hR17 := hR16.trans (CHr.wr W17 Sa17 hC16)
              have hC17 := hR17.1
              have N17 := Fr.snoc X17 N0 g_b16
              have KP17 := KP16.wr W17 (Or.inr sz_b16)
              have sz17 := Nat.le_trans sz16 (Keep.of_wr W17).1
              have hk17 := Nat.le_trans hk16 (Keep.of_wr W17).1
              refine own_go (fun t k => st17 t k) ?_
              show own_Go p e below _ (T17.setTop (mkF m 142 #[.val (.int q0), .val (.int q1), .val (.int q2), .val (.int q3), .val (.int (((q0.toUInt32 >>> ((1 : Int32) &&& 31).toUInt32).toInt32) &&& (3 : Int32))), .val (.int ((q1 &&& (255 : Int32)).toUInt32.toUInt16.toUInt32.toInt32)), .val (.int ((((q1.toUInt32 >>> ((8 : Int32) &&& 31).toUInt32).toInt32) &&& (255 : Int32)).toUInt32.toUInt16.toUInt32.toInt32)), .val (.int ((q2 &&& (255 : Int32)).toUInt32.toUInt16.toUInt32.toInt32)), .val (.int (q3 &&& (3 : Int32)))] [(.ref b16), (.ref b15), (.ref b15)]))
              refine own_go (fun t k => XS.dup X17.here hx rfl (hb hby d19_142) rfl rfl k) ?_
              show own_Go p e below _ (T17.setTop (mkF m 143 #[.val (.int q0), .val (.int q1), .val (.int q2), .val (.int q3), .val (.int (((q0.toUInt32 >>> ((1 : Int32) &&& 31).toUInt32).toInt32) &&& (3 : Int32))), .val (.int ((q1 &&& (255 : Int32)).toUInt32.toUInt16.toUInt32.toInt32)), .val (.int ((((q1.toUInt32 >>> ((8 : Int32) &&& 31).toUInt32).toInt32) &&& (255 : Int32)).toUInt32.toUInt16.toUInt32.toInt32)), .val (.int ((q2 &&& (255 : Int32)).toUInt32.toUInt16.toUInt32.toInt32)), .val (.int (q3 &&& (3 : Int32)))] [(.ref b16), (.ref b16), (.ref b15), (.ref b15)]))
              refine own_go (fun t k => XS.iconst X17.here hx rfl (hb hby d19_143) k) ?_
              show own_Go p e below _ (T17.setTop (mkF m 144 #[.val (.int q0), .val (.int q1), .val (.int q2), .val (.int q3), .val (.int (((q0.toUInt32 >>> ((1 : Int32) &&& 31).toUInt32).toInt32) &&& (3 : Int32))), .val (.int ((q1 &&& (255 : Int32)).toUInt32.toUInt16.toUInt32.toInt32)), .val (.int ((((q1.toUInt32 >>> ((8 : Int32) &&& 31).toUInt32).toInt32) &&& (255 : Int32)).toUInt32.toUInt16.toUInt32.toInt32)), .val (.int ((q2 &&& (255 : Int32)).toUInt32.toUInt16.toUInt32.toInt32)), .val (.int (q3 &&& (3 : Int32)))] [(.int (1 : Int32)), (.ref b16), (.ref b16), (.ref b15), (.ref b15)]))
              refine own_go (fun t k => XS.iload X17.here hx rfl (hb hby d19_144) rfl k) ?_
              show own_Go p e below _ (T17.setTop (mkF m 146 #[.val (.int q0), .val (.int q1), .val (.int q2), .val (.int q3), .val (.int (((q0.toUInt32 >>> ((1 : Int32) &&& 31).toUInt32).toInt32) &&& (3 : Int32))), .val (.int ((q1 &&& (255 : Int32)).toUInt32.toUInt16.toUInt32.toInt32)), .val (.int ((((q1.toUInt32 >>> ((8 : Int32) &&& 31).toUInt32).toInt32) &&& (255 : Int32)).toUInt32.toUInt16.toUInt32.toInt32)), .val (.int ((q2 &&& (255 : Int32)).toUInt32.toUInt16.toUInt32.toInt32)), .val (.int (q3 &&& (3 : Int32)))] [(.int ((((q1.toUInt32 >>> ((8 : Int32) &&& 31).toUInt32).toInt32) &&& (255 : Int32)).toUInt32.toUInt16.toUInt32.toInt32)), (.int (1 : Int32)), (.ref b16), (.ref b16), (.ref b15), (.ref b15)]))
              obtain ⟨cl18, Ar18, qa18, Sa18, Na18, Ha18, Ga18⟩ := id Vw17
              have hin18 : ¬ ((1 : Int32) < 0 ∨ cl18.slots.size ≤ ((1 : Int32)).toNatClampNeg) := inb_of Sa18 ⟨by decide, by decide⟩
              obtain ⟨T18, h18, X18, e18, W18, st18⟩ := stC X17 hx hZ e17 Ar18 (j := (1 : Int32)) hin18 (g := (mkF m 146 #[.val (.int q0), .val (.int q1), .val (.int q2), .val (.int q3), .val (.int (((q0.toUInt32 >>> ((1 : Int32) &&& 31).toUInt32).toInt32) &&& (3 : Int32))), .val (.int ((q1 &&& (255 : Int32)).toUInt32.toUInt16.toUInt32.toInt32)), .val (.int ((((q1.toUInt32 >>> ((8 : Int32) &&& 31).toUInt32).toInt32) &&& (255 : Int32)).toUInt32.toUInt16.toUInt32.toInt32)), .val (.int ((q2 &&& (255 : Int32)).toUInt32.toUInt16.toUInt32.toInt32)), .val (.int (q3 &&& (3 : Int32)))] [(.int ((((q1.toUInt32 >>> ((8 : Int32) &&& 31).toUInt32).toInt32) &&& (255 : Int32)).toUInt32.toUInt16.toUInt32.toInt32)), (.int (1 : Int32)), (.ref b16), (.ref b16), (.ref b15), (.ref b15)])) rfl rfl (hb hby d19_146)
              have Vw18 : Arv Z h18 b16 k16 .char (3 : Int32) [(.int (nar .char ((q1 &&& (255 : Int32)).toUInt32.toUInt16.toUInt32.toInt32))), (.int (nar .char ((((q1.toUInt32 >>> ((8 : Int32) &&& 31).toUInt32).toInt32) &&& (255 : Int32)).toUInt32.toUInt16.toUInt32.toInt32))), (.int (0 : Int32))] (.int (0 : Int32)) := Arv.set Ar18 qa18 Sa18 Na18 Ha18 Ga18 (fits_nar_char _) W18 1 rfl (Nat.le_of_ble_eq_true rfl)
              have Sa18 : Safe Z own_EL s.vm h17 b16 := (Safe.arv hZ.alike Vw17 (by decide))
              have XO__18 := XO__17.wr W18 g_b16
              have A15__18 := A15__17.wr W18
              have F15_value__18 := F15_value__17.other W18 (Or.inl ne_b15_b16)
              have F15_coder__18 := F15_coder__17.other W18 (Or.inl ne_b15_b16)
              have Zs15__18 := Safe.wr W18 Sa18 hC17 Zs15__17
              have hR18 := hR17.trans (CHr.wr W18 Sa18 hC17)
              have hC18 := hR18.1
              have N18 := Fr.snoc X18 N17 g_b16
              have KP18 := KP17.wr W18 (Or.inr sz_b16)
              have sz18 := Nat.le_trans sz17 (Keep.of_wr W18).1
              have hk18 := Nat.le_trans hk17 (Keep.of_wr W18).1
              refine own_go (fun t k => st18 t k) ?_
              show own_Go p e below _ (T18.setTop (mkF m 147 #[.val (.int q0), .val (.int q1), .val (.int q2), .val (.int q3), .val (.int (((q0.toUInt32 >>> ((1 : Int32) &&& 31).toUInt32).toInt32) &&& (3 : Int32))), .val (.int ((q1 &&& (255 : Int32)).toUInt32.toUInt16.toUInt32.toInt32)), .val (.int ((((q1.toUInt32 >>> ((8 : Int32) &&& 31).toUInt32).toInt32) &&& (255 : Int32)).toUInt32.toUInt16.toUInt32.toInt32)), .val (.int ((q2 &&& (255 : Int32)).toUInt32.toUInt16.toUInt32.toInt32)), .val (.int (q3 &&& (3 : Int32)))] [(.ref b16), (.ref b15), (.ref b15)]))
              refine own_go (fun t k => XS.dup X18.here hx rfl (hb hby d19_147) rfl rfl k) ?_
              show own_Go p e below _ (T18.setTop (mkF m 148 #[.val (.int q0), .val (.int q1), .val (.int q2), .val (.int q3), .val (.int (((q0.toUInt32 >>> ((1 : Int32) &&& 31).toUInt32).toInt32) &&& (3 : Int32))), .val (.int ((q1 &&& (255 : Int32)).toUInt32.toUInt16.toUInt32.toInt32)), .val (.int ((((q1.toUInt32 >>> ((8 : Int32) &&& 31).toUInt32).toInt32) &&& (255 : Int32)).toUInt32.toUInt16.toUInt32.toInt32)), .val (.int ((q2 &&& (255 : Int32)).toUInt32.toUInt16.toUInt32.toInt32)), .val (.int (q3 &&& (3 : Int32)))] [(.ref b16), (.ref b16), (.ref b15), (.ref b15)]))
              refine own_go (fun t k => XS.iconst X18.here hx rfl (hb hby d19_148) k) ?_
              show own_Go p e below _ (T18.setTop (mkF m 149 #[.val (.int q0), .val (.int q1), .val (.int q2), .val (.int q3), .val (.int (((q0.toUInt32 >>> ((1 : Int32) &&& 31).toUInt32).toInt32) &&& (3 : Int32))), .val (.int ((q1 &&& (255 : Int32)).toUInt32.toUInt16.toUInt32.toInt32)), .val (.int ((((q1.toUInt32 >>> ((8 : Int32) &&& 31).toUInt32).toInt32) &&& (255 : Int32)).toUInt32.toUInt16.toUInt32.toInt32)), .val (.int ((q2 &&& (255 : Int32)).toUInt32.toUInt16.toUInt32.toInt32)), .val (.int (q3 &&& (3 : Int32)))] [(.int (2 : Int32)), (.ref b16), (.ref b16), (.ref b15), (.ref b15)]))
              refine own_go (fun t k => XS.iload X18.here hx rfl (hb hby d19_149) rfl k) ?_
              show own_Go p e below _ (T18.setTop (mkF m 151 #[.val (.int q0), .val (.int q1), .val (.int q2), .val (.int q3), .val (.int (((q0.toUInt32 >>> ((1 : Int32) &&& 31).toUInt32).toInt32) &&& (3 : Int32))), .val (.int ((q1 &&& (255 : Int32)).toUInt32.toUInt16.toUInt32.toInt32)), .val (.int ((((q1.toUInt32 >>> ((8 : Int32) &&& 31).toUInt32).toInt32) &&& (255 : Int32)).toUInt32.toUInt16.toUInt32.toInt32)), .val (.int ((q2 &&& (255 : Int32)).toUInt32.toUInt16.toUInt32.toInt32)), .val (.int (q3 &&& (3 : Int32)))] [(.int ((q2 &&& (255 : Int32)).toUInt32.toUInt16.toUInt32.toInt32)), (.int (2 : Int32)), (.ref b16), (.ref b16), (.ref b15), (.ref b15)]))
              obtain ⟨cl19, Ar19, qa19, Sa19, Na19, Ha19, Ga19⟩ := id Vw18
              have hin19 : ¬ ((2 : Int32) < 0 ∨ cl19.slots.size ≤ ((2 : Int32)).toNatClampNeg) := inb_of Sa19 ⟨by decide, by decide⟩
              obtain ⟨T19, h19, X19, e19, W19, st19⟩ := stC X18 hx hZ e18 Ar19 (j := (2 : Int32)) hin19 (g := (mkF m 151 #[.val (.int q0), .val (.int q1), .val (.int q2), .val (.int q3), .val (.int (((q0.toUInt32 >>> ((1 : Int32) &&& 31).toUInt32).toInt32) &&& (3 : Int32))), .val (.int ((q1 &&& (255 : Int32)).toUInt32.toUInt16.toUInt32.toInt32)), .val (.int ((((q1.toUInt32 >>> ((8 : Int32) &&& 31).toUInt32).toInt32) &&& (255 : Int32)).toUInt32.toUInt16.toUInt32.toInt32)), .val (.int ((q2 &&& (255 : Int32)).toUInt32.toUInt16.toUInt32.toInt32)), .val (.int (q3 &&& (3 : Int32)))] [(.int ((q2 &&& (255 : Int32)).toUInt32.toUInt16.toUInt32.toInt32)), (.int (2 : Int32)), (.ref b16), (.ref b16), (.ref b15), (.ref b15)])) rfl rfl (hb hby d19_151)
              have Vw19 : Arv Z h19 b16 k16 .char (3 : Int32) [(.int (nar .char ((q1 &&& (255 : Int32)).toUInt32.toUInt16.toUInt32.toInt32))), (.int (nar .char ((((q1.toUInt32 >>> ((8 : Int32) &&& 31).toUInt32).toInt32) &&& (255 : Int32)).toUInt32.toUInt16.toUInt32.toInt32))), (.int (nar .char ((q2 &&& (255 : Int32)).toUInt32.toUInt16.toUInt32.toInt32)))] (.int (0 : Int32)) := Arv.set Ar19 qa19 Sa19 Na19 Ha19 Ga19 (fits_nar_char _) W19 2 rfl (Nat.le_of_ble_eq_true rfl)
              have Sa19 : Safe Z own_EL s.vm h18 b16 := (Safe.arv hZ.alike Vw18 (by decide))
              have XO__19 := XO__18.wr W19 g_b16
              have A15__19 := A15__18.wr W19
              have F15_value__19 := F15_value__18.other W19 (Or.inl ne_b15_b16)
              have F15_coder__19 := F15_coder__18.other W19 (Or.inl ne_b15_b16)
              have Zs15__19 := Safe.wr W19 Sa19 hC18 Zs15__18
              have hR19 := hR18.trans (CHr.wr W19 Sa19 hC18)
              have hC19 := hR19.1
              have N19 := Fr.snoc X19 N18 g_b16
              have KP19 := KP18.wr W19 (Or.inr sz_b16)
              have sz19 := Nat.le_trans sz18 (Keep.of_wr W19).1
              have hk19 := Nat.le_trans hk18 (Keep.of_wr W19).1
              refine own_go (fun t k => st19 t k) ?_
              show own_Go p e below _ (T19.setTop (mkF m 152 #[.val (.int q0), .val (.int q1), .val (.int q2), .val (.int q3), .val (.int (((q0.toUInt32 >>> ((1 : Int32) &&& 31).toUInt32).toInt32) &&& (3 : Int32))), .val (.int ((q1 &&& (255 : Int32)).toUInt32.toUInt16.toUInt32.toInt32)), .val (.int ((((q1.toUInt32 >>> ((8 : Int32) &&& 31).toUInt32).toInt32) &&& (255 : Int32)).toUInt32.toUInt16.toUInt32.toInt32)), .val (.int ((q2 &&& (255 : Int32)).toUInt32.toUInt16.toUInt32.toInt32)), .val (.int (q3 &&& (3 : Int32)))] [(.ref b16), (.ref b15), (.ref b15)]))
              obtain ⟨_, _, ⟨T20, L20, k20, n20⟩, -, X20, ⟨Lc20, hQ20, l20, y20, z20⟩, st20⟩ := X19.specialBack hx (y := (⟨"java/lang/String", "<init>", "([C)V"⟩ : MethodName)) rfl hown (mvT hZ (hw _ (List.mem_of_getElem? (i := 158) rfl))) (mvT hZ (hw _ (List.mem_of_getElem? (i := 159) rfl))) (mvT hZ (hw _ (List.mem_of_getElem? (i := 160) rfl))) (by decide) (backOf (W := 1) (rmL3e l Z a0 hw [] b15 b16 k16 cs (nar .char ((q1 &&& (255 : Int32)).toUInt32.toUInt16.toUInt32.toInt32)) (nar .char ((((q1.toUInt32 >>> ((8 : Int32) &&& 31).toUInt32).toInt32) &&& (255 : Int32)).toUInt32.toUInt16.toUInt32.toInt32)) (nar .char ((q2 &&& (255 : Int32)).toUInt32.toUInt16.toUInt32.toInt32)) h19 n0 sz19 A15__19 F15_value__19 F15_coder__19 g_b15 (Ne.symm ne_b15_b16) Vw19 SC hcs XO__19 (own_mask _) (own_mask _) (own_mask _)) hZ (hw _ (List.mem_of_getElem? (i := 160) rfl)) (hw _ (List.mem_of_getElem? (i := 5) rfl)) (by decide) (by decide)) (g := (mkF m 152 #[.val (.int q0), .val (.int q1), .val (.int q2), .val (.int q3), .val (.int (((q0.toUInt32 >>> ((1 : Int32) &&& 31).toUInt32).toInt32) &&& (3 : Int32))), .val (.int ((q1 &&& (255 : Int32)).toUInt32.toUInt16.toUInt32.toInt32)), .val (.int ((((q1.toUInt32 >>> ((8 : Int32) &&& 31).toUInt32).toInt32) &&& (255 : Int32)).toUInt32.toUInt16.toUInt32.toInt32)), .val (.int ((q2 &&& (255 : Int32)).toUInt32.toUInt16.toUInt32.toInt32)), .val (.int (q3 &&& (3 : Int32)))] [(.ref b16), (.ref b15), (.ref b15)])) rfl (by rw [hml]; rfl) (Steps.refl _) (a := b15) (argsL := [(.ref b16)]) (rest := [(.ref b15)]) (lenOf pd19_0 rfl) rfl (by show 2 * 0 + _ ≤ _; exact Nat.le_of_eq rfl) (hb hby d19_152) (fun _ _ => ⟨rfl, e19, (by decide : 0 + 1 + 1 + 1 ≤ _), (by decide : 0 + 4 + 3 + 3 ≤ _)⟩)
              dsimp only [Pt.U, Pt.locs, Pt.cells, Pt.slots] at X20 l20 y20 z20 st20 hQ20
              subst l20 y20 z20
              obtain ⟨rfl, Nq20, K20, Fc20, d20, kd20, ge20, Fv20, A20⟩ := hQ20
              have N20 := Fr.app N19 Nq20
              refine own_go (fun t k => st20.trans k) ?_
              have g_d20 : n0 ≤ d20 := Nat.le_trans sz19 ge20
              have sz_d20 : h0.size ≤ d20 := Nat.le_trans KP19.1 ge20
              have ne_b15_d20 : b15 ≠ d20 := Nat.ne_of_lt (Nat.lt_of_lt_of_le A15__19.lt ge20)
              have ne_b16_d20 : b16 ≠ d20 := Nat.ne_of_lt (Nat.lt_of_lt_of_le Vw19.lt ge20)
              have XO__20 := XO__19.keep K20 (allS g_b15 all0)
              have A15__20 := A15__19.keep K20
              have Vw19__20 := Vw19.keep K20 (ninS (Ne.symm ne_b15_b16) nin0)
              have Zs15__20 := Zs15__19.keep K20 (show ∀ y ∈ ([b15] : List Addr), Safe Z own_EL s.vm h19 y from (sfS Zs15__19 sf0)) hC19
              have hR20 := hR19.trans (CHr.keep K20 (show ∀ y ∈ ([b15] : List Addr), Safe Z own_EL s.vm h19 y from (sfS Zs15__19 sf0)) hC19)
              have hC20 := hR20.1
              have KP20 := KP19.trans K20 (allS (Or.inr sz_b15) all0)
              have sz20 := Nat.le_trans sz19 K20.1
              have hk20 := Nat.le_trans hk19 K20.1
              show own_Go p e below _ (T20.setTop (mkF m 155 #[.val (.int q0), .val (.int q1), .val (.int q2), .val (.int q3), .val (.int (((q0.toUInt32 >>> ((1 : Int32) &&& 31).toUInt32).toInt32) &&& (3 : Int32))), .val (.int ((q1 &&& (255 : Int32)).toUInt32.toUInt16.toUInt32.toInt32)), .val (.int ((((q1.toUInt32 >>> ((8 : Int32) &&& 31).toUInt32).toInt32) &&& (255 : Int32)).toUInt32.toUInt16.toUInt32.toInt32)), .val (.int ((q2 &&& (255 : Int32)).toUInt32.toUInt16.toUInt32.toInt32)), .val (.int (q3 &&& (3 : Int32)))] [(.ref b15)]))
              have hF : CHr Z own_EL s.vm s.heap T20.vm T20.heap := by rw [hh]; exact hR20.trans (CHv.at X20 hZ hEL hC20)
              exact own_retAH X20 hx Bd.returns rfl rfl (hb hby d19_155) hS0 hk20 (⟨_, rfl, rfl, N20, KP20⟩) (hF) (by decide) (by decide)
theorem pn0 : plainName "com/example/convoke/convoke/apply/KeptOverrideIsMadePinLaw" = true := by first | (simp [plainName, overriddenIn]; done) | decide +kernel
theorem pd0_0 : parseMethodDescriptor "(IIII)Ljava/lang/String;" = some ⟨[.int, .int, .int, .int], some (.object "java/lang/String")⟩ := by decide +kernel
theorem pd0_1 : parseMethodDescriptor "()V" = some ⟨[], none⟩ := by decide +kernel
theorem pd0_2 : parseMethodDescriptor "(Ljava/lang/String;Ljava/util/List;Ljava/util/List;)Lcom/example/convoke/convoke/icalendar/Component;" = some ⟨[(.object "java/lang/String"), (.object "java/util/List"), (.object "java/util/List")], some (.object "com/example/convoke/convoke/icalendar/Component")⟩ := by decide +kernel
theorem pd0_3 : parseMethodDescriptor "(Lcom/example/convoke/convoke/icalendar/Component;)Lcom/example/convoke/convoke/apply/KeptOverride;" = some ⟨[(.object "com/example/convoke/convoke/icalendar/Component")], some (.object "com/example/convoke/convoke/apply/KeptOverride")⟩ := by decide +kernel
theorem pd0_4 : parseMethodDescriptor "()Ljava/util/Set;" = some ⟨[], some (.object "java/util/Set")⟩ := by decide +kernel
theorem pd0_5 : parseMethodDescriptor "(Lcom/example/convoke/convoke/icalendar/Component;Ljava/lang/String;Ljava/util/Set;)V" = some ⟨[(.object "com/example/convoke/convoke/icalendar/Component"), (.object "java/lang/String"), (.object "java/util/Set")], none⟩ := by decide +kernel
theorem pd0_6 : parseMethodDescriptor "()Z" = some ⟨[], some .boolean⟩ := by decide +kernel
theorem ef0 (m : MethodId) (x0 : Int32) (x1 : Int32) (x2 : Int32) (x3 : Int32) : entryFrame m #[(.int x0), (.int x1), (.int x2), (.int x3)] maxLocals = mkF m 0 #[.val (.int x0), .val (.int x1), .val (.int x2), .val (.int x3), .unset, .unset, .unset, .unset, .unset, .unset] [] := by first | (simp [entryFrame, mkF, argsToLocals, Value.category, maxLocals]; done) | rfl
def own_Q0 (n0 : Nat) (v : Option Value) (h : Heap) (L : List Loc) : Prop := v = some (.int 1) ∧ Fr n0 L
set_option maxRecDepth 65536 in
set_option maxHeartbeats 40000000 in
theorem rm0 (l : Launch) (Z : State) (a0 : Array Value) (hw : ∀ d ∈ tables_1, d.before a0 Z = true) (ws : List Jvm.Cond) (p0 p1 p2 p3 : Int32) (de mr es : Addr) (kde : ClassId) (h0 : Heap) (n0 : Nat) (Z0 : n0 ≤ h0.size) (XO : Old Z n0 h0) (WW : own_W Z de mr es kde) :
    MetFree l x (head1 (Jvm.Cond.code x code maxLocals ret :: ws) room_1) (fun a U => a = #[(.int p0), (.int p1), (.int p2), (.int p3)] ∧ Z.Warmed39 U.vm ∧ U.heap = h0 ∧ CHv Z own_EL U.vm h0 ∧ ∀ x ∈ ([] : List Addr), Safe Z own_EL U.vm h0 x) (fun _ _ _ _ _ => True) (fun _ U o U' => ∃ v L, o = .returned v ∧ own_Q0 n0 v U'.heap L ∧ CHr Z own_EL U.vm U.heap U'.vm U'.heap ∧ ReturnedEndW U o U' L room_1.cells room_1.slots) := by
  refine MetFree.of_bodySF (plainFor_of_name pn0) hisR ?_
  intro p e s m args below meth c s₁ Bd hml0 hP hK
  obtain ⟨rfl, hZ, hh, hC0, hsf0⟩ := hP
  have hx := Bd.exec
  have hby := Bd.bytes
  have hml : c.maxLocals = 10 := hml0
  have hown : s.vm.findClass "com/example/convoke/convoke/apply/KeptOverrideIsMadePinLaw" = some m.cls := findClass_of_methodNamed Bd.named
  have hnm := (name_of_methodNamed Bd.named Bd.method).1
  have hlk : meth.locks = false := Bd.notSynchronized
  have hEL := own_ew hw
  have hR0 : CHr Z own_EL s.vm h0 s.vm h0 := CHr.refl hC0
  have hS0 : s.Since s.vm 0 := (State.WarmedH.refl s).since 0
  have hk0 : 0 ≤ h0.size := Nat.zero_le _
  have X0 : Stand p l e room_1 (s.setVm s.vm) m #[(.int p0), (.int p1), (.int p2), (.int p3)] below meth c s₁ [] 0 0 := Stand.of_body Bd
  have e0 : s₁.heap = h0 := by rw [← hh, Bd.state]; rfl
  have N0 := Fr.nil n0
  refine own_go (fun t k => castTop (ef0 m p0 p1 p2 p3) k) ?_
  obtain ⟨⟨cs, hcs, SC⟩, SDE, ADE, EDE, MR, SES, EES⟩ := id WW
  show own_Go p e below _ (s₁.setTop (mkF m 0 #[.val (.int p0), .val (.int p1), .val (.int p2), .val (.int p3), .unset, .unset, .unset, .unset, .unset, .unset] []))
  refine own_go (fun t k => XS.iloadN X0.here hx rfl (hb hby at_0) rfl k) ?_
  show own_Go p e below _ (s₁.setTop (mkF m 1 #[.val (.int p0), .val (.int p1), .val (.int p2), .val (.int p3), .unset, .unset, .unset, .unset, .unset, .unset] [(.int p0)]))
  refine own_go (fun t k => XS.iloadN X0.here hx rfl (hb hby at_1) rfl k) ?_
  show own_Go p e below _ (s₁.setTop (mkF m 2 #[.val (.int p0), .val (.int p1), .val (.int p2), .val (.int p3), .unset, .unset, .unset, .unset, .unset, .unset] [(.int p1), (.int p0)]))
  refine own_go (fun t k => XS.iloadN X0.here hx rfl (hb hby at_2) rfl k) ?_
  show own_Go p e below _ (s₁.setTop (mkF m 3 #[.val (.int p0), .val (.int p1), .val (.int p2), .val (.int p3), .unset, .unset, .unset, .unset, .unset, .unset] [(.int p2), (.int p1), (.int p0)]))
  refine own_go (fun t k => XS.iloadN X0.here hx rfl (hb hby at_3) rfl k) ?_
  show own_Go p e below _ (s₁.setTop (mkF m 4 #[.val (.int p0), .val (.int p1), .val (.int p2), .val (.int p3), .unset, .unset, .unset, .unset, .unset, .unset] [(.int p3), (.int p2), (.int p1), (.int p0)]))
  obtain ⟨_, _, ⟨T1, L1, k1, n1⟩, -, X1, hSq1, hgr1, ⟨Lc1, hQ1, l1, y1, z1, hC1⟩, st1⟩ := callSS X0 hx (y := (⟨"com/example/convoke/convoke/apply/KeptOverrideIsMadePinLaw", "madeFor", "(IIII)Ljava/lang/String;"⟩ : MethodName)) hown (mvT hZ (hw _ (List.mem_of_getElem? (i := 0) rfl))) (mvT hZ (hw _ (List.mem_of_getElem? (i := 1) rfl))) (mvT hZ (hw _ (List.mem_of_getElem? (i := 2) rfl))) (mvT hZ (hw _ (List.mem_of_getElem? (i := 3) rfl))) (by decide) (own_backH (s := s) (W := 0) (rm19 l Z a0 hw [] p0 p1 p2 p3 de mr es kde h0 n0 Z0 XO WW) hZ (hw _ (List.mem_of_getElem? (i := 3) rfl)) (hw _ (List.mem_of_getElem? (i := 2) rfl)) (by decide) (by decide) hEL hC0 all0) (g := (mkF m 4 #[.val (.int p0), .val (.int p1), .val (.int p2), .val (.int p3), .unset, .unset, .unset, .unset, .unset, .unset] [(.int p3), (.int p2), (.int p1), (.int p0)])) rfl (by rw [hml]; rfl) (argsL := [(.int p0), (.int p1), (.int p2), (.int p3)]) (rest := []) (lenOf pd0_0 rfl) rfl (by show 2 * 0 + _ ≤ _; exact Nat.le_of_eq rfl) (hb hby at_4) (fun _ _ => ⟨rfl, e0, (by decide : 0 + 6 ≤ _), (by decide : 0 + 28 ≤ _)⟩)
  dsimp only [Pt.U, Pt.locs, Pt.cells, Pt.slots] at X1 l1 y1 z1 st1 hQ1 hSq1 hgr1 hC1
  subst l1 y1 z1
  obtain ⟨w1, rfl, r_w1, Nq1, K1⟩ := hQ1
  have N1 := Fr.app N0 Nq1
  refine own_go (fun t k => st1.trans k) ?_
  have hS1 := foldS (T := s₁) hS0 (by rw [e0]; exact hk0) hSq1 hgr1
  have hZ1 : Z.Warmed39 T1.vm := State.Warmed39.trans (t := s.setVm s.vm) hZ hSq1.1
  have hown1 : T1.vm.findClass "com/example/convoke/convoke/apply/KeptOverrideIsMadePinLaw" = some m.cls := by rw [hSq1.1.alike.findClass]; exact hown
  have hk1 := Nat.le_refl T1.heap.size
  replace X1 : Stand p l e room_1 (s.setVm T1.vm) m #[(.int p0), (.int p1), (.int p2), (.int p3)] below meth c T1 _ _ _ := X1
  have XO__1 := XO.keep K1 all0
  have hR1 := hR0.trans hC1
  have hD1 := hR1.1
  have KP1 := (Keep.refl h0 []).trans K1 all0
  have sz1 := Nat.le_trans Z0 K1.1
  rcases ref_cases r_w1 with rfl | ⟨a_w1, rfl⟩
  · show own_Go p e below _ (T1.setTop (mkF m 7 #[.val (.int p0), .val (.int p1), .val (.int p2), .val (.int p3), .unset, .unset, .unset, .unset, .unset, .unset] [.null]))
    refine own_go (fun t k => XS.astore X1.here hx rfl (hb hby at_7) rfl rfl (l' := #[.val (.int p0), .val (.int p1), .val (.int p2), .val (.int p3), .val .null, .unset, .unset, .unset, .unset, .unset]) rfl k) ?_
    show own_Go p e below _ (T1.setTop (mkF m 9 #[.val (.int p0), .val (.int p1), .val (.int p2), .val (.int p3), .val .null, .unset, .unset, .unset, .unset, .unset] []))
    obtain ⟨s2, T2, h2, j2, c2, kc2, X2, e2, E2, hS2, hk2, hZ2, hown2, Es2, Fc2, Fv2, Ab2, -, -, hC2, -, hne2, st2⟩ := ldcCH X1 hx hZ1 hown1 (hw _ (List.mem_of_getElem? (i := 4) rfl)) (own_wS hw) rfl hS1 hk1 hEL (List.mem_of_getElem? (i := 0) rfl) hD1 (vs := [(.int (86 : Int32)), (.int (69 : Int32)), (.int (86 : Int32)), (.int (69 : Int32)), (.int (78 : Int32)), (.int (84 : Int32))]) (z := (6 : Int32)) ⟨by decide, by decide +kernel⟩ (by decide) rfl (g := (mkF m 9 #[.val (.int p0), .val (.int p1), .val (.int p2), .val (.int p3), .val .null, .unset, .unset, .unset, .unset, .unset] [])) rfl (hb hby at_9) (n := 24) (by decide) (by decide) (by decide) (by decide)
    have XO__2 := XO__1.ext E2
    have hR2 := hR1.trans hC2
    have hD2 := hR2.1
    have sz2 := Nat.le_trans sz1 E2.1
    have KP2 := KP1.ext E2
    refine own_go (fun t k => st2 t k) ?_
    show own_Go p e below _ (T2.setTop (mkF m 11 #[.val (.int p0), .val (.int p1), .val (.int p2), .val (.int p3), .val .null, .unset, .unset, .unset, .unset, .unset] [(.ref s2)]))
    obtain ⟨T3, h3, X3, e3, E3, A3, D3, -, st3⟩ := newO X2 hx hZ2 hown2 (hw _ (List.mem_of_getElem? (i := 12) rfl)) (hw _ (List.mem_of_getElem? (i := 13) rfl)) (hw _ (List.mem_of_getElem? (i := 14) rfl)) e2 (g := (mkF m 11 #[.val (.int p0), .val (.int p1), .val (.int p2), .val (.int p3), .val .null, .unset, .unset, .unset, .unset, .unset] [(.ref s2)])) rfl (hb hby at_11) (by decide) (by decide)
    obtain ⟨b3, g3⟩ : ∃ z, z = h2.size := ⟨_, rfl⟩
    rw [← g3] at A3 D3 st3
    have g_b3 : n0 ≤ b3 := Nat.le_trans sz2 (Nat.le_of_eq g3.symm)
    have sz_b3 : h0.size ≤ b3 := Nat.le_trans KP2.1 (Nat.le_of_eq g3.symm)
    have ne_s2_b3 : s2 ≠ b3 := Nat.ne_of_lt (Nat.lt_of_lt_of_le Es2.lt (Nat.le_of_eq g3.symm))
    have ne_c2_b3 : c2 ≠ b3 := Nat.ne_of_lt (Nat.lt_of_lt_of_le Ab2.lt (Nat.le_of_eq g3.symm))
    have XO__3 := XO__2.ext E3
    have Es2__3 := Es2.ext E3
    have Fc2__3 := Fc2.ext E3
    have Fv2__3 := Fv2.ext E3
    have Ab2__3 := Ab2.ext E3
    have hR3 := hR2.trans (CHr.ext E3 hD2)
    have hC3 := hR3.1
    have sz3 := Nat.le_trans sz2 E3.1
    have KP3 := KP2.ext E3
    have hk3 := Nat.le_trans hk2 E3.1
    have F3_modCount : Fld Z h3 b3 "java/util/AbstractList" "modCount" "I" (.int (0 : Int32)) := D3 (Or.inl (hw _ (List.mem_of_getElem? (i := 34) rfl))) (ty := .int) (by decide)
    have F3_elementData : Fld Z h3 b3 "java/util/ArrayList" "elementData" "[Ljava/lang/Object;" .null := D3 (Or.inl (hw _ (List.mem_of_getElem? (i := 37) rfl))) (ty := (.array (.object "java/lang/Object"))) (by decide)
    have F3_size : Fld Z h3 b3 "java/util/ArrayList" "size" "I" (.int (0 : Int32)) := D3 (Or.inl (hw _ (List.mem_of_getElem? (i := 77) rfl))) (ty := .int) (by decide)
    refine own_go (fun t k => st3 t k) ?_
    show own_Go p e below _ (T3.setTop (mkF m 14 #[.val (.int p0), .val (.int p1), .val (.int p2), .val (.int p3), .val .null, .unset, .unset, .unset, .unset, .unset] [(.ref b3), (.ref s2)]))
    refine own_go (fun t k => XS.dup X3.here hx rfl (hb hby at_14) rfl rfl k) ?_
    show own_Go p e below _ (T3.setTop (mkF m 15 #[.val (.int p0), .val (.int p1), .val (.int p2), .val (.int p3), .val .null, .unset, .unset, .unset, .unset, .unset] [(.ref b3), (.ref b3), (.ref s2)]))
    obtain ⟨_, _, ⟨T4, L4, k4, n4⟩, -, X4, ⟨Lc4, hQ4, l4, y4, z4⟩, st4⟩ := X3.specialBack hx (y := (⟨"java/util/ArrayList", "<init>", "()V"⟩ : MethodName)) rfl hown2 (mvT hZ2 (hw _ (List.mem_of_getElem? (i := 15) rfl))) (mvT hZ2 (hw _ (List.mem_of_getElem? (i := 16) rfl))) (mvT hZ2 (hw _ (List.mem_of_getElem? (i := 17) rfl))) (by decide) (backOf (W := 2) (rm3 l Z a0 hw [] b3 de mr es kde h3 n0 sz3 ⟨A3, F3_modCount, F3_elementData, F3_size⟩ g_b3 XO__3 WW) hZ2 (hw _ (List.mem_of_getElem? (i := 17) rfl)) (hw _ (List.mem_of_getElem? (i := 14) rfl)) (by decide) (by decide)) (g := (mkF m 15 #[.val (.int p0), .val (.int p1), .val (.int p2), .val (.int p3), .val .null, .unset, .unset, .unset, .unset, .unset] [(.ref b3), (.ref b3), (.ref s2)])) rfl (by rw [hml]; rfl) (Steps.refl _) (a := b3) (argsL := []) (rest := [(.ref b3), (.ref s2)]) (lenOf pd0_1 rfl) rfl (by show 2 * 0 + _ ≤ _; exact Nat.le_of_eq rfl) (hb hby at_15) (fun _ _ => ⟨rfl, e3, (by decide : 0 + 6 + 2 + 1 + 0 ≤ _), (by decide : 0 + 28 + (24 + 4) + 3 + 0 ≤ _)⟩)
    dsimp only [Pt.U, Pt.locs, Pt.cells, Pt.slots] at X4 l4 y4 z4 st4 hQ4
    subst l4 y4 z4
    obtain ⟨rfl, Nq4, K4, G4⟩ := hQ4
    have N4 := Fr.app N1 Nq4
    refine own_go (fun t k => st4.trans k) ?_
    have XO__4 := XO__3.keep K4 (allS g_b3 all0)
    have Es2__4 := Es2__3.keep K4
    have Fc2__4 := Fc2__3.keep K4 (ninS ne_s2_b3 nin0)
    have Fv2__4 := Fv2__3.keep K4 (ninS ne_s2_b3 nin0)
    have Ab2__4 := Ab2__3.keep K4 (ninS ne_c2_b3 nin0)
    have A3__4 := A3.keep K4
    have hR4 := hR3.trans (CHr.keep K4 (show ∀ y ∈ ([b3] : List Addr), Safe Z own_EL T2.vm h3 y from (sfS (Safe.exa hZ2.alike A3 (by decide) (by decide)) sf0)) hC3)
    have hC4 := hR4.1
    have KP4 := KP3.trans K4 (allS (Or.inr sz_b3) all0)
    have sz4 := Nat.le_trans sz3 K4.1
    have hk4 := Nat.le_trans hk3 K4.1
    show own_Go p e below _ (T4.setTop (mkF m 18 #[.val (.int p0), .val (.int p1), .val (.int p2), .val (.int p3), .val .null, .unset, .unset, .unset, .unset, .unset] [(.ref b3), (.ref s2)]))
    obtain ⟨T5, h5, X5, e5, E5, A5, D5, -, st5⟩ := newO X4 hx hZ2 hown2 (hw _ (List.mem_of_getElem? (i := 12) rfl)) (hw _ (List.mem_of_getElem? (i := 13) rfl)) (hw _ (List.mem_of_getElem? (i := 14) rfl)) rfl (g := (mkF m 18 #[.val (.int p0), .val (.int p1), .val (.int p2), .val (.int p3), .val .null, .unset, .unset, .unset, .unset, .unset] [(.ref b3), (.ref s2)])) rfl (hb hby at_18) (by decide) (by decide)
    obtain ⟨b5, g5⟩ : ∃ z, z = T4.heap.size := ⟨_, rfl⟩
    rw [← g5] at A5 D5 st5
    have g_b5 : n0 ≤ b5 := Nat.le_trans sz4 (Nat.le_of_eq g5.symm)
    have sz_b5 : h0.size ≤ b5 := Nat.le_trans KP4.1 (Nat.le_of_eq g5.symm)
    have ne_s2_b5 : s2 ≠ b5 := Nat.ne_of_lt (Nat.lt_of_lt_of_le Es2__4.lt (Nat.le_of_eq g5.symm))
    have ne_c2_b5 : c2 ≠ b5 := Nat.ne_of_lt (Nat.lt_of_lt_of_le Ab2__4.lt (Nat.le_of_eq g5.symm))
    have ne_b3_b5 : b3 ≠ b5 := Nat.ne_of_lt (Nat.lt_of_lt_of_le G4.1.lt (Nat.le_of_eq g5.symm))
    have XO__5 := XO__4.ext E5
    have Es2__5 := Es2__4.ext E5
    have Fc2__5 := Fc2__4.ext E5
    have Fv2__5 := Fv2__4.ext E5
    have Ab2__5 := Ab2__4.ext E5
    have G4__5 := G4.ext E5
    have hR5 := hR4.trans (CHr.ext E5 hC4)
    have hC5 := hR5.1
    have sz5 := Nat.le_trans sz4 E5.1
    have KP5 := KP4.ext E5
    have hk5 := Nat.le_trans hk4 E5.1
    have F5_modCount : Fld Z h5 b5 "java/util/AbstractList" "modCount" "I" (.int (0 : Int32)) := D5 (Or.inl (hw _ (List.mem_of_getElem? (i := 34) rfl))) (ty := .int) (by decide)
    have F5_elementData : Fld Z h5 b5 "java/util/ArrayList" "elementData" "[Ljava/lang/Object;" .null := D5 (Or.inl (hw _ (List.mem_of_getElem? (i := 37) rfl))) (ty := (.array (.object "java/lang/Object"))) (by decide)
    have F5_size : Fld Z h5 b5 "java/util/ArrayList" "size" "I" (.int (0 : Int32)) := D5 (Or.inl (hw _ (List.mem_of_getElem? (i := 77) rfl))) (ty := .int) (by decide)
    refine own_go (fun t k => st5 t k) ?_
    show own_Go p e below _ (T5.setTop (mkF m 21 #[.val (.int p0), .val (.int p1), .val (.int p2), .val (.int p3), .val .null, .unset, .unset, .unset, .unset, .unset] [(.ref b5), (.ref b3), (.ref s2)]))
    refine own_go (fun t k => XS.dup X5.here hx rfl (hb hby at_21) rfl rfl k) ?_
    show own_Go p e below _ (T5.setTop (mkF m 22 #[.val (.int p0), .val (.int p1), .val (.int p2), .val (.int p3), .val .null, .unset, .unset, .unset, .unset, .unset] [(.ref b5), (.ref b5), (.ref b3), (.ref s2)]))
    obtain ⟨_, _, ⟨T6, L6, k6, n6⟩, -, X6, ⟨Lc6, hQ6, l6, y6, z6⟩, st6⟩ := X5.specialBack hx (y := (⟨"java/util/ArrayList", "<init>", "()V"⟩ : MethodName)) rfl hown2 (mvT hZ2 (hw _ (List.mem_of_getElem? (i := 15) rfl))) (mvT hZ2 (hw _ (List.mem_of_getElem? (i := 16) rfl))) (mvT hZ2 (hw _ (List.mem_of_getElem? (i := 17) rfl))) (by decide) (backOf (W := 3) (rm3 l Z a0 hw [] b5 de mr es kde h5 n0 sz5 ⟨A5, F5_modCount, F5_elementData, F5_size⟩ g_b5 XO__5 WW) hZ2 (hw _ (List.mem_of_getElem? (i := 17) rfl)) (hw _ (List.mem_of_getElem? (i := 14) rfl)) (by decide) (by decide)) (g := (mkF m 22 #[.val (.int p0), .val (.int p1), .val (.int p2), .val (.int p3), .val .null, .unset, .unset, .unset, .unset, .unset] [(.ref b5), (.ref b5), (.ref b3), (.ref s2)])) rfl (by rw [hml]; rfl) (Steps.refl _) (a := b5) (argsL := []) (rest := [(.ref b5), (.ref b3), (.ref s2)]) (lenOf pd0_1 rfl) rfl (by show 2 * 0 + _ ≤ _; exact Nat.le_of_eq rfl) (hb hby at_22) (fun _ _ => ⟨rfl, e5, (by decide : 0 + 6 + 2 + 1 + 1 + 0 ≤ _), (by decide : 0 + 28 + (24 + 4) + 3 + 3 + 0 ≤ _)⟩)
    dsimp only [Pt.U, Pt.locs, Pt.cells, Pt.slots] at X6 l6 y6 z6 st6 hQ6
    subst l6 y6 z6
    obtain ⟨rfl, Nq6, K6, G6⟩ := hQ6
    have N6 := Fr.app N4 Nq6
    refine own_go (fun t k => st6.trans k) ?_
    have XO__6 := XO__5.keep K6 (allS g_b5 all0)
    have Es2__6 := Es2__5.keep K6
    have Fc2__6 := Fc2__5.keep K6 (ninS ne_s2_b5 nin0)
    have Fv2__6 := Fv2__5.keep K6 (ninS ne_s2_b5 nin0)
    have Ab2__6 := Ab2__5.keep K6 (ninS ne_c2_b5 nin0)
    have G4__6 := G4__5.keep K6 (ninS ne_b3_b5 nin0)
    have A5__6 := A5.keep K6
    have hR6 := hR5.trans (CHr.keep K6 (show ∀ y ∈ ([b5] : List Addr), Safe Z own_EL T2.vm h5 y from (sfS (Safe.exa hZ2.alike A5 (by decide) (by decide)) sf0)) hC5)
    have hC6 := hR6.1
    have KP6 := KP5.trans K6 (allS (Or.inr sz_b5) all0)
    have sz6 := Nat.le_trans sz5 K6.1
    have hk6 := Nat.le_trans hk5 K6.1
    show own_Go p e below _ (T6.setTop (mkF m 25 #[.val (.int p0), .val (.int p1), .val (.int p2), .val (.int p3), .val .null, .unset, .unset, .unset, .unset, .unset] [(.ref b5), (.ref b3), (.ref s2)]))
    obtain ⟨_, _, ⟨T7, L7, k7, n7⟩, -, X7, ⟨Lc7, hQ7, l7, y7, z7⟩, st7⟩ := Jvm.LawKit.callS X6 hx (y := (⟨"com/example/convoke/convoke/icalendar/Component", "of", "(Ljava/lang/String;Ljava/util/List;Ljava/util/List;)Lcom/example/convoke/convoke/icalendar/Component;"⟩ : MethodName)) hown2 (mvT hZ2 (hw _ (List.mem_of_getElem? (i := 38) rfl))) (mvT hZ2 (hw _ (List.mem_of_getElem? (i := 39) rfl))) (mvT hZ2 (hw _ (List.mem_of_getElem? (i := 40) rfl))) (mvT hZ2 (hw _ (List.mem_of_getElem? (i := 41) rfl))) (by decide) (backOf (W := 0) (rm10 l Z a0 hw [] (.ref s2) b3 b5 de mr es kde T6.heap n0 sz6 rfl G4__6 G6 XO__6 WW) hZ2 (hw _ (List.mem_of_getElem? (i := 41) rfl)) (hw _ (List.mem_of_getElem? (i := 40) rfl)) (by decide) (by decide)) (g := (mkF m 25 #[.val (.int p0), .val (.int p1), .val (.int p2), .val (.int p3), .val .null, .unset, .unset, .unset, .unset, .unset] [(.ref b5), (.ref b3), (.ref s2)])) rfl (by rw [hml]; rfl) (argsL := [(.ref s2), (.ref b3), (.ref b5)]) (rest := []) (lenOf pd0_2 rfl) rfl (by show 2 * 0 + _ ≤ _; exact Nat.le_of_eq rfl) (hb hby at_25) (fun _ _ => ⟨rfl, rfl, (by decide : 0 + 6 + 2 + 1 + 1 + 5 ≤ _), (by decide : 0 + 28 + (24 + 4) + 3 + 3 + 12 ≤ _)⟩)
    dsimp only [Pt.U, Pt.locs, Pt.cells, Pt.slots] at X7 l7 y7 z7 st7 hQ7
    subst l7 y7 z7
    obtain ⟨c7, rfl, Nq7, K7, ge7⟩ := hQ7
    have N7 := Fr.app N6 Nq7
    refine own_go (fun t k => st7 t k) ?_
    have g_c7 : n0 ≤ c7 := Nat.le_trans sz6 ge7
    have sz_c7 : h0.size ≤ c7 := Nat.le_trans KP6.1 ge7
    have ne_s2_c7 : s2 ≠ c7 := Nat.ne_of_lt (Nat.lt_of_lt_of_le Es2__6.lt ge7)
    have ne_c2_c7 : c2 ≠ c7 := Nat.ne_of_lt (Nat.lt_of_lt_of_le Ab2__6.lt ge7)
    have ne_b3_c7 : b3 ≠ c7 := Nat.ne_of_lt (Nat.lt_of_lt_of_le G4__6.1.lt ge7)
    have ne_b5_c7 : b5 ≠ c7 := Nat.ne_of_lt (Nat.lt_of_lt_of_le G6.1.lt ge7)
    have XO__7 := XO__6.keep K7 all0
    have Es2__7 := Es2__6.keep K7
    have Fc2__7 := Fc2__6.keep K7 nin0
    have Fv2__7 := Fv2__6.keep K7 nin0
    have Ab2__7 := Ab2__6.keep K7 nin0
    have G4__7 := G4__6.keep K7 nin0
    have G6__7 := G6.keep K7 nin0
    have hR7 := hR6.trans (CHr.keep K7 (show ∀ y ∈ ([] : List Addr), Safe Z own_EL T2.vm T6.heap y from sf0) hC6)
    have hC7 := hR7.1
    have KP7 := KP6.trans K7 all0
    have sz7 := Nat.le_trans sz6 K7.1
    have hk7 := Nat.le_trans hk6 K7.1
    show own_Go p e below _ (T7.setTop (mkF m 28 #[.val (.int p0), .val (.int p1), .val (.int p2), .val (.int p3), .val .null, .unset, .unset, .unset, .unset, .unset] [(.ref c7)]))
    refine own_go (fun t k => XS.astore X7.here hx rfl (hb hby at_28) rfl rfl (l' := #[.val (.int p0), .val (.int p1), .val (.int p2), .val (.int p3), .val .null, .val (.ref c7), .unset, .unset, .unset, .unset]) rfl k) ?_
    show own_Go p e below _ (T7.setTop (mkF m 30 #[.val (.int p0), .val (.int p1), .val (.int p2), .val (.int p3), .val .null, .val (.ref c7), .unset, .unset, .unset, .unset] []))
    obtain ⟨s8, T8, h8, j8, c8, kc8, X8, e8, E8, hS8, hk8, hZ8, hown8, Es8, Fc8, Fv8, Ab8, -, -, hC8, -, hne8, st8⟩ := ldcCH X7 hx hZ2 hown2 (hw _ (List.mem_of_getElem? (i := 104) rfl)) (own_wS hw) rfl hS2 hk7 hEL (List.mem_of_getElem? (i := 1) rfl) hC7 (vs := [(.int (86 : Int32)), (.int (84 : Int32)), (.int (79 : Int32)), (.int (68 : Int32)), (.int (79 : Int32))]) (z := (5 : Int32)) ⟨by decide, by decide +kernel⟩ (by decide) rfl (g := (mkF m 30 #[.val (.int p0), .val (.int p1), .val (.int p2), .val (.int p3), .val .null, .val (.ref c7), .unset, .unset, .unset, .unset] [])) rfl (hb hby at_30) (n := 20) (by decide) (by decide) (by decide) (by decide)
    have XO__8 := XO__7.ext E8
    have Es2__8 := Es2__7.ext E8
    have Fc2__8 := Fc2__7.ext E8
    have Fv2__8 := Fv2__7.ext E8
    have Ab2__8 := Ab2__7.ext E8
    have G4__8 := G4__7.ext E8
    have G6__8 := G6__7.ext E8
    have hR8 := hR7.trans hC8
    have hD8 := hR8.1
    have sz8 := Nat.le_trans sz7 E8.1
    have KP8 := KP7.ext E8
    refine own_go (fun t k => st8 t k) ?_
    show own_Go p e below _ (T8.setTop (mkF m 32 #[.val (.int p0), .val (.int p1), .val (.int p2), .val (.int p3), .val .null, .val (.ref c7), .unset, .unset, .unset, .unset] [(.ref s8)]))
    obtain ⟨T9, h9, X9, e9, E9, A9, D9, -, st9⟩ := newO X8 hx hZ8 hown8 (hw _ (List.mem_of_getElem? (i := 12) rfl)) (hw _ (List.mem_of_getElem? (i := 13) rfl)) (hw _ (List.mem_of_getElem? (i := 14) rfl)) e8 (g := (mkF m 32 #[.val (.int p0), .val (.int p1), .val (.int p2), .val (.int p3), .val .null, .val (.ref c7), .unset, .unset, .unset, .unset] [(.ref s8)])) rfl (hb hby at_32) (by decide) (by decide)
    obtain ⟨b9, g9⟩ : ∃ z, z = h8.size := ⟨_, rfl⟩
    rw [← g9] at A9 D9 st9
    have g_b9 : n0 ≤ b9 := Nat.le_trans sz8 (Nat.le_of_eq g9.symm)
    have sz_b9 : h0.size ≤ b9 := Nat.le_trans KP8.1 (Nat.le_of_eq g9.symm)
    have ne_s2_b9 : s2 ≠ b9 := Nat.ne_of_lt (Nat.lt_of_lt_of_le Es2__8.lt (Nat.le_of_eq g9.symm))
    have ne_c2_b9 : c2 ≠ b9 := Nat.ne_of_lt (Nat.lt_of_lt_of_le Ab2__8.lt (Nat.le_of_eq g9.symm))
    have ne_b3_b9 : b3 ≠ b9 := Nat.ne_of_lt (Nat.lt_of_lt_of_le G4__8.1.lt (Nat.le_of_eq g9.symm))
    have ne_b5_b9 : b5 ≠ b9 := Nat.ne_of_lt (Nat.lt_of_lt_of_le G6__8.1.lt (Nat.le_of_eq g9.symm))
    have ne_s8_b9 : s8 ≠ b9 := Nat.ne_of_lt (Nat.lt_of_lt_of_le Es8.lt (Nat.le_of_eq g9.symm))
    have ne_c8_b9 : c8 ≠ b9 := Nat.ne_of_lt (Nat.lt_of_lt_of_le Ab8.lt (Nat.le_of_eq g9.symm))
    have XO__9 := XO__8.ext E9
    have Es2__9 := Es2__8.ext E9
    have Fc2__9 := Fc2__8.ext E9
    have Fv2__9 := Fv2__8.ext E9
    have Ab2__9 := Ab2__8.ext E9
    have G4__9 := G4__8.ext E9
    have G6__9 := G6__8.ext E9
    have Es8__9 := Es8.ext E9
    have Fc8__9 := Fc8.ext E9
    have Fv8__9 := Fv8.ext E9
    have Ab8__9 := Ab8.ext E9
    have hR9 := hR8.trans (CHr.ext E9 hD8)
    have hC9 := hR9.1
    have sz9 := Nat.le_trans sz8 E9.1
    have KP9 := KP8.ext E9
    have hk9 := Nat.le_trans hk8 E9.1
    have F9_modCount : Fld Z h9 b9 "java/util/AbstractList" "modCount" "I" (.int (0 : Int32)) := D9 (Or.inl (hw _ (List.mem_of_getElem? (i := 34) rfl))) (ty := .int) (by decide)
    have F9_elementData : Fld Z h9 b9 "java/util/ArrayList" "elementData" "[Ljava/lang/Object;" .null := D9 (Or.inl (hw _ (List.mem_of_getElem? (i := 37) rfl))) (ty := (.array (.object "java/lang/Object"))) (by decide)
    have F9_size : Fld Z h9 b9 "java/util/ArrayList" "size" "I" (.int (0 : Int32)) := D9 (Or.inl (hw _ (List.mem_of_getElem? (i := 77) rfl))) (ty := .int) (by decide)
    refine own_go (fun t k => st9 t k) ?_
    show own_Go p e below _ (T9.setTop (mkF m 35 #[.val (.int p0), .val (.int p1), .val (.int p2), .val (.int p3), .val .null, .val (.ref c7), .unset, .unset, .unset, .unset] [(.ref b9), (.ref s8)]))
    refine own_go (fun t k => XS.dup X9.here hx rfl (hb hby at_35) rfl rfl k) ?_
    show own_Go p e below _ (T9.setTop (mkF m 36 #[.val (.int p0), .val (.int p1), .val (.int p2), .val (.int p3), .val .null, .val (.ref c7), .unset, .unset, .unset, .unset] [(.ref b9), (.ref b9), (.ref s8)]))
    obtain ⟨_, _, ⟨T10, L10, k10, n10⟩, -, X10, ⟨Lc10, hQ10, l10, y10, z10⟩, st10⟩ := X9.specialBack hx (y := (⟨"java/util/ArrayList", "<init>", "()V"⟩ : MethodName)) rfl hown8 (mvT hZ8 (hw _ (List.mem_of_getElem? (i := 15) rfl))) (mvT hZ8 (hw _ (List.mem_of_getElem? (i := 16) rfl))) (mvT hZ8 (hw _ (List.mem_of_getElem? (i := 17) rfl))) (by decide) (backOf (W := 2) (rm3 l Z a0 hw [] b9 de mr es kde h9 n0 sz9 ⟨A9, F9_modCount, F9_elementData, F9_size⟩ g_b9 XO__9 WW) hZ8 (hw _ (List.mem_of_getElem? (i := 17) rfl)) (hw _ (List.mem_of_getElem? (i := 14) rfl)) (by decide) (by decide)) (g := (mkF m 36 #[.val (.int p0), .val (.int p1), .val (.int p2), .val (.int p3), .val .null, .val (.ref c7), .unset, .unset, .unset, .unset] [(.ref b9), (.ref b9), (.ref s8)])) rfl (by rw [hml]; rfl) (Steps.refl _) (a := b9) (argsL := []) (rest := [(.ref b9), (.ref s8)]) (lenOf pd0_1 rfl) rfl (by show 2 * 0 + _ ≤ _; exact Nat.le_of_eq rfl) (hb hby at_36) (fun _ _ => ⟨rfl, e9, (by decide : 0 + 6 + 2 + 1 + 1 + 5 + 2 + 1 + 0 ≤ _), (by decide : 0 + 28 + (24 + 4) + 3 + 3 + 12 + (20 + 4) + 3 + 0 ≤ _)⟩)
    dsimp only [Pt.U, Pt.locs, Pt.cells, Pt.slots] at X10 l10 y10 z10 st10 hQ10
    subst l10 y10 z10
    obtain ⟨rfl, Nq10, K10, G10⟩ := hQ10
    have N10 := Fr.app N7 Nq10
    refine own_go (fun t k => st10.trans k) ?_
    have XO__10 := XO__9.keep K10 (allS g_b9 all0)
    have Es2__10 := Es2__9.keep K10
    have Fc2__10 := Fc2__9.keep K10 (ninS ne_s2_b9 nin0)
    have Fv2__10 := Fv2__9.keep K10 (ninS ne_s2_b9 nin0)
    have Ab2__10 := Ab2__9.keep K10 (ninS ne_c2_b9 nin0)
    have G4__10 := G4__9.keep K10 (ninS ne_b3_b9 nin0)
    have G6__10 := G6__9.keep K10 (ninS ne_b5_b9 nin0)
    have Es8__10 := Es8__9.keep K10
    have Fc8__10 := Fc8__9.keep K10 (ninS ne_s8_b9 nin0)
    have Fv8__10 := Fv8__9.keep K10 (ninS ne_s8_b9 nin0)
    have Ab8__10 := Ab8__9.keep K10 (ninS ne_c8_b9 nin0)
    have A9__10 := A9.keep K10
    have hR10 := hR9.trans (CHr.keep K10 (show ∀ y ∈ ([b9] : List Addr), Safe Z own_EL T8.vm h9 y from (sfS (Safe.exa hZ8.alike A9 (by decide) (by decide)) sf0)) hC9)
    have hC10 := hR10.1
    have KP10 := KP9.trans K10 (allS (Or.inr sz_b9) all0)
    have sz10 := Nat.le_trans sz9 K10.1
    have hk10 := Nat.le_trans hk9 K10.1
    show own_Go p e below _ (T10.setTop (mkF m 39 #[.val (.int p0), .val (.int p1), .val (.int p2), .val (.int p3), .val .null, .val (.ref c7), .unset, .unset, .unset, .unset] [(.ref b9), (.ref s8)]))
    obtain ⟨T11, h11, X11, e11, E11, A11, D11, -, st11⟩ := newO X10 hx hZ8 hown8 (hw _ (List.mem_of_getElem? (i := 12) rfl)) (hw _ (List.mem_of_getElem? (i := 13) rfl)) (hw _ (List.mem_of_getElem? (i := 14) rfl)) rfl (g := (mkF m 39 #[.val (.int p0), .val (.int p1), .val (.int p2), .val (.int p3), .val .null, .val (.ref c7), .unset, .unset, .unset, .unset] [(.ref b9), (.ref s8)])) rfl (hb hby at_39) (by decide) (by decide)
    obtain ⟨b11, g11⟩ : ∃ z, z = T10.heap.size := ⟨_, rfl⟩
    rw [← g11] at A11 D11 st11
    have g_b11 : n0 ≤ b11 := Nat.le_trans sz10 (Nat.le_of_eq g11.symm)
    have sz_b11 : h0.size ≤ b11 := Nat.le_trans KP10.1 (Nat.le_of_eq g11.symm)
    have ne_s2_b11 : s2 ≠ b11 := Nat.ne_of_lt (Nat.lt_of_lt_of_le Es2__10.lt (Nat.le_of_eq g11.symm))
    have ne_c2_b11 : c2 ≠ b11 := Nat.ne_of_lt (Nat.lt_of_lt_of_le Ab2__10.lt (Nat.le_of_eq g11.symm))
    have ne_b3_b11 : b3 ≠ b11 := Nat.ne_of_lt (Nat.lt_of_lt_of_le G4__10.1.lt (Nat.le_of_eq g11.symm))
    have ne_b5_b11 : b5 ≠ b11 := Nat.ne_of_lt (Nat.lt_of_lt_of_le G6__10.1.lt (Nat.le_of_eq g11.symm))
    have ne_s8_b11 : s8 ≠ b11 := Nat.ne_of_lt (Nat.lt_of_lt_of_le Es8__10.lt (Nat.le_of_eq g11.symm))
    have ne_c8_b11 : c8 ≠ b11 := Nat.ne_of_lt (Nat.lt_of_lt_of_le Ab8__10.lt (Nat.le_of_eq g11.symm))
    have ne_b9_b11 : b9 ≠ b11 := Nat.ne_of_lt (Nat.lt_of_lt_of_le G10.1.lt (Nat.le_of_eq g11.symm))
    have XO__11 := XO__10.ext E11
    have Es2__11 := Es2__10.ext E11
    have Fc2__11 := Fc2__10.ext E11
    have Fv2__11 := Fv2__10.ext E11
    have Ab2__11 := Ab2__10.ext E11
    have G4__11 := G4__10.ext E11
    have G6__11 := G6__10.ext E11
    have Es8__11 := Es8__10.ext E11
    have Fc8__11 := Fc8__10.ext E11
    have Fv8__11 := Fv8__10.ext E11
    have Ab8__11 := Ab8__10.ext E11
    have G10__11 := G10.ext E11
    have hR11 := hR10.trans (CHr.ext E11 hC10)
    have hC11 := hR11.1
    have sz11 := Nat.le_trans sz10 E11.1
    have KP11 := KP10.ext E11
    have hk11 := Nat.le_trans hk10 E11.1
    have F11_modCount : Fld Z h11 b11 "java/util/AbstractList" "modCount" "I" (.int (0 : Int32)) := D11 (Or.inl (hw _ (List.mem_of_getElem? (i := 34) rfl))) (ty := .int) (by decide)
    have F11_elementData : Fld Z h11 b11 "java/util/ArrayList" "elementData" "[Ljava/lang/Object;" .null := D11 (Or.inl (hw _ (List.mem_of_getElem? (i := 37) rfl))) (ty := (.array (.object "java/lang/Object"))) (by decide)
    have F11_size : Fld Z h11 b11 "java/util/ArrayList" "size" "I" (.int (0 : Int32)) := D11 (Or.inl (hw _ (List.mem_of_getElem? (i := 77) rfl))) (ty := .int) (by decide)
    refine own_go (fun t k => st11 t k) ?_
    show own_Go p e below _ (T11.setTop (mkF m 42 #[.val (.int p0), .val (.int p1), .val (.int p2), .val (.int p3), .val .null, .val (.ref c7), .unset, .unset, .unset, .unset] [(.ref b11), (.ref b9), (.ref s8)]))
    refine own_go (fun t k => XS.dup X11.here hx rfl (hb hby at_42) rfl rfl k) ?_
    show own_Go p e below _ (T11.setTop (mkF m 43 #[.val (.int p0), .val (.int p1), .val (.int p2), .val (.int p3), .val .null, .val (.ref c7), .unset, .unset, .unset, .unset] [(.ref b11), (.ref b11), (.ref b9), (.ref s8)]))
    obtain ⟨_, _, ⟨T12, L12, k12, n12⟩, -, X12, ⟨Lc12, hQ12, l12, y12, z12⟩, st12⟩ := X11.specialBack hx (y := (⟨"java/util/ArrayList", "<init>", "()V"⟩ : MethodName)) rfl hown8 (mvT hZ8 (hw _ (List.mem_of_getElem? (i := 15) rfl))) (mvT hZ8 (hw _ (List.mem_of_getElem? (i := 16) rfl))) (mvT hZ8 (hw _ (List.mem_of_getElem? (i := 17) rfl))) (by decide) (backOf (W := 3) (rm3 l Z a0 hw [] b11 de mr es kde h11 n0 sz11 ⟨A11, F11_modCount, F11_elementData, F11_size⟩ g_b11 XO__11 WW) hZ8 (hw _ (List.mem_of_getElem? (i := 17) rfl)) (hw _ (List.mem_of_getElem? (i := 14) rfl)) (by decide) (by decide)) (g := (mkF m 43 #[.val (.int p0), .val (.int p1), .val (.int p2), .val (.int p3), .val .null, .val (.ref c7), .unset, .unset, .unset, .unset] [(.ref b11), (.ref b11), (.ref b9), (.ref s8)])) rfl (by rw [hml]; rfl) (Steps.refl _) (a := b11) (argsL := []) (rest := [(.ref b11), (.ref b9), (.ref s8)]) (lenOf pd0_1 rfl) rfl (by show 2 * 0 + _ ≤ _; exact Nat.le_of_eq rfl) (hb hby at_43) (fun _ _ => ⟨rfl, e11, (by decide : 0 + 6 + 2 + 1 + 1 + 5 + 2 + 1 + 1 + 0 ≤ _), (by decide : 0 + 28 + (24 + 4) + 3 + 3 + 12 + (20 + 4) + 3 + 3 + 0 ≤ _)⟩)
    dsimp only [Pt.U, Pt.locs, Pt.cells, Pt.slots] at X12 l12 y12 z12 st12 hQ12
    subst l12 y12 z12
    obtain ⟨rfl, Nq12, K12, G12⟩ := hQ12
    have N12 := Fr.app N10 Nq12
    refine own_go (fun t k => st12.trans k) ?_
    have XO__12 := XO__11.keep K12 (allS g_b11 all0)
    have Es2__12 := Es2__11.keep K12
    have Fc2__12 := Fc2__11.keep K12 (ninS ne_s2_b11 nin0)
    have Fv2__12 := Fv2__11.keep K12 (ninS ne_s2_b11 nin0)
    have Ab2__12 := Ab2__11.keep K12 (ninS ne_c2_b11 nin0)
    have G4__12 := G4__11.keep K12 (ninS ne_b3_b11 nin0)
    have G6__12 := G6__11.keep K12 (ninS ne_b5_b11 nin0)
    have Es8__12 := Es8__11.keep K12
    have Fc8__12 := Fc8__11.keep K12 (ninS ne_s8_b11 nin0)
    have Fv8__12 := Fv8__11.keep K12 (ninS ne_s8_b11 nin0)
    have Ab8__12 := Ab8__11.keep K12 (ninS ne_c8_b11 nin0)
    have G10__12 := G10__11.keep K12 (ninS ne_b9_b11 nin0)
    have A11__12 := A11.keep K12
    have hR12 := hR11.trans (CHr.keep K12 (show ∀ y ∈ ([b11] : List Addr), Safe Z own_EL T8.vm h11 y from (sfS (Safe.exa hZ8.alike A11 (by decide) (by decide)) sf0)) hC11)
    have hC12 := hR12.1
    have KP12 := KP11.trans K12 (allS (Or.inr sz_b11) all0)
    have sz12 := Nat.le_trans sz11 K12.1
    have hk12 := Nat.le_trans hk11 K12.1
    show own_Go p e below _ (T12.setTop (mkF m 46 #[.val (.int p0), .val (.int p1), .val (.int p2), .val (.int p3), .val .null, .val (.ref c7), .unset, .unset, .unset, .unset] [(.ref b11), (.ref b9), (.ref s8)]))
    obtain ⟨_, _, ⟨T13, L13, k13, n13⟩, -, X13, ⟨Lc13, hQ13, l13, y13, z13⟩, st13⟩ := Jvm.LawKit.callS X12 hx (y := (⟨"com/example/convoke/convoke/icalendar/Component", "of", "(Ljava/lang/String;Ljava/util/List;Ljava/util/List;)Lcom/example/convoke/convoke/icalendar/Component;"⟩ : MethodName)) hown8 (mvT hZ8 (hw _ (List.mem_of_getElem? (i := 38) rfl))) (mvT hZ8 (hw _ (List.mem_of_getElem? (i := 39) rfl))) (mvT hZ8 (hw _ (List.mem_of_getElem? (i := 40) rfl))) (mvT hZ8 (hw _ (List.mem_of_getElem? (i := 41) rfl))) (by decide) (backOf (W := 0) (rm10 l Z a0 hw [] (.ref s8) b9 b11 de mr es kde T12.heap n0 sz12 rfl G10__12 G12 XO__12 WW) hZ8 (hw _ (List.mem_of_getElem? (i := 41) rfl)) (hw _ (List.mem_of_getElem? (i := 40) rfl)) (by decide) (by decide)) (g := (mkF m 46 #[.val (.int p0), .val (.int p1), .val (.int p2), .val (.int p3), .val .null, .val (.ref c7), .unset, .unset, .unset, .unset] [(.ref b11), (.ref b9), (.ref s8)])) rfl (by rw [hml]; rfl) (argsL := [(.ref s8), (.ref b9), (.ref b11)]) (rest := []) (lenOf pd0_2 rfl) rfl (by show 2 * 0 + _ ≤ _; exact Nat.le_of_eq rfl) (hb hby at_46) (fun _ _ => ⟨rfl, rfl, (by decide : 0 + 6 + 2 + 1 + 1 + 5 + 2 + 1 + 1 + 5 ≤ _), (by decide : 0 + 28 + (24 + 4) + 3 + 3 + 12 + (20 + 4) + 3 + 3 + 12 ≤ _)⟩)
    dsimp only [Pt.U, Pt.locs, Pt.cells, Pt.slots] at X13 l13 y13 z13 st13 hQ13
    subst l13 y13 z13
    obtain ⟨c13, rfl, Nq13, K13, ge13⟩ := hQ13
    have N13 := Fr.app N12 Nq13
    refine own_go (fun t k => st13 t k) ?_
    have g_c13 : n0 ≤ c13 := Nat.le_trans sz12 ge13
    have sz_c13 : h0.size ≤ c13 := Nat.le_trans KP12.1 ge13
    have ne_s2_c13 : s2 ≠ c13 := Nat.ne_of_lt (Nat.lt_of_lt_of_le Es2__12.lt ge13)
    have ne_c2_c13 : c2 ≠ c13 := Nat.ne_of_lt (Nat.lt_of_lt_of_le Ab2__12.lt ge13)
    have ne_b3_c13 : b3 ≠ c13 := Nat.ne_of_lt (Nat.lt_of_lt_of_le G4__12.1.lt ge13)
    have ne_b5_c13 : b5 ≠ c13 := Nat.ne_of_lt (Nat.lt_of_lt_of_le G6__12.1.lt ge13)
    have ne_s8_c13 : s8 ≠ c13 := Nat.ne_of_lt (Nat.lt_of_lt_of_le Es8__12.lt ge13)
    have ne_c8_c13 : c8 ≠ c13 := Nat.ne_of_lt (Nat.lt_of_lt_of_le Ab8__12.lt ge13)
    have ne_b9_c13 : b9 ≠ c13 := Nat.ne_of_lt (Nat.lt_of_lt_of_le G10__12.1.lt ge13)
    have ne_b11_c13 : b11 ≠ c13 := Nat.ne_of_lt (Nat.lt_of_lt_of_le G12.1.lt ge13)
    have XO__13 := XO__12.keep K13 all0
    have Es2__13 := Es2__12.keep K13
    have Fc2__13 := Fc2__12.keep K13 nin0
    have Fv2__13 := Fv2__12.keep K13 nin0
    have Ab2__13 := Ab2__12.keep K13 nin0
    have G4__13 := G4__12.keep K13 nin0
    have G6__13 := G6__12.keep K13 nin0
    have Es8__13 := Es8__12.keep K13
    have Fc8__13 := Fc8__12.keep K13 nin0
    have Fv8__13 := Fv8__12.keep K13 nin0
    have Ab8__13 := Ab8__12.keep K13 nin0
    have G10__13 := G10__12.keep K13 nin0
    have G12__13 := G12.keep K13 nin0
    have hR13 := hR12.trans (CHr.keep K13 (show ∀ y ∈ ([] : List Addr), Safe Z own_EL T8.vm T12.heap y from sf0) hC12)
    have hC13 := hR13.1
    have KP13 := KP12.trans K13 all0
    have sz13 := Nat.le_trans sz12 K13.1
    have hk13 := Nat.le_trans hk12 K13.1
    show own_Go p e below _ (T13.setTop (mkF m 49 #[.val (.int p0), .val (.int p1), .val (.int p2), .val (.int p3), .val .null, .val (.ref c7), .unset, .unset, .unset, .unset] [(.ref c13)]))
    refine own_go (fun t k => XS.astore X13.here hx rfl (hb hby at_49) rfl rfl (l' := #[.val (.int p0), .val (.int p1), .val (.int p2), .val (.int p3), .val .null, .val (.ref c7), .val (.ref c13), .unset, .unset, .unset]) rfl k) ?_
    show own_Go p e below _ (T13.setTop (mkF m 51 #[.val (.int p0), .val (.int p1), .val (.int p2), .val (.int p3), .val .null, .val (.ref c7), .val (.ref c13), .unset, .unset, .unset] []))
    refine own_go (fun t k => XS.aload X13.here hx rfl (hb hby at_51) rfl rfl k) ?_
    show own_Go p e below _ (T13.setTop (mkF m 53 #[.val (.int p0), .val (.int p1), .val (.int p2), .val (.int p3), .val .null, .val (.ref c7), .val (.ref c13), .unset, .unset, .unset] [(.ref c7)]))
    obtain ⟨_, _, ⟨T14, L14, k14, n14⟩, -, X14, ⟨Lc14, hQ14, l14, y14, z14⟩, st14⟩ := Jvm.LawKit.callS X13 hx (y := (⟨"com/example/convoke/convoke/apply/KeptOverride", "received", "(Lcom/example/convoke/convoke/icalendar/Component;)Lcom/example/convoke/convoke/apply/KeptOverride;"⟩ : MethodName)) hown8 (mvT hZ8 (hw _ (List.mem_of_getElem? (i := 105) rfl))) (mvT hZ8 (hw _ (List.mem_of_getElem? (i := 106) rfl))) (mvT hZ8 (hw _ (List.mem_of_getElem? (i := 107) rfl))) (mvT hZ8 (hw _ (List.mem_of_getElem? (i := 108) rfl))) (by decide) (backOf (W := 0) (rm15 l Z a0 hw [] (.ref c7) de mr es kde T13.heap n0 sz13 rfl XO__13 WW) hZ8 (hw _ (List.mem_of_getElem? (i := 108) rfl)) (hw _ (List.mem_of_getElem? (i := 107) rfl)) (by decide) (by decide)) (g := (mkF m 53 #[.val (.int p0), .val (.int p1), .val (.int p2), .val (.int p3), .val .null, .val (.ref c7), .val (.ref c13), .unset, .unset, .unset] [(.ref c7)])) rfl (by rw [hml]; rfl) (argsL := [(.ref c7)]) (rest := []) (lenOf pd0_3 rfl) rfl (by show 2 * 0 + _ ≤ _; exact Nat.le_of_eq rfl) (hb hby at_53) (fun _ _ => ⟨rfl, rfl, (by decide : 0 + 6 + 2 + 1 + 1 + 5 + 2 + 1 + 1 + 5 + 1 ≤ _), (by decide : 0 + 28 + (24 + 4) + 3 + 3 + 12 + (20 + 4) + 3 + 3 + 12 + 3 ≤ _)⟩)
    dsimp only [Pt.U, Pt.locs, Pt.cells, Pt.slots] at X14 l14 y14 z14 st14 hQ14
    subst l14 y14 z14
    obtain ⟨c14, rfl, Nq14, K14, ge14, G14⟩ := hQ14
    have N14 := Fr.app N13 Nq14
    refine own_go (fun t k => st14 t k) ?_
    have g_c14 : n0 ≤ c14 := Nat.le_trans sz13 ge14
    have sz_c14 : h0.size ≤ c14 := Nat.le_trans KP13.1 ge14
    have ne_s2_c14 : s2 ≠ c14 := Nat.ne_of_lt (Nat.lt_of_lt_of_le Es2__13.lt ge14)
    have ne_c2_c14 : c2 ≠ c14 := Nat.ne_of_lt (Nat.lt_of_lt_of_le Ab2__13.lt ge14)
    have ne_b3_c14 : b3 ≠ c14 := Nat.ne_of_lt (Nat.lt_of_lt_of_le G4__13.1.lt ge14)
    have ne_b5_c14 : b5 ≠ c14 := Nat.ne_of_lt (Nat.lt_of_lt_of_le G6__13.1.lt ge14)
    have ne_s8_c14 : s8 ≠ c14 := Nat.ne_of_lt (Nat.lt_of_lt_of_le Es8__13.lt ge14)
    have ne_c8_c14 : c8 ≠ c14 := Nat.ne_of_lt (Nat.lt_of_lt_of_le Ab8__13.lt ge14)
    have ne_b9_c14 : b9 ≠ c14 := Nat.ne_of_lt (Nat.lt_of_lt_of_le G10__13.1.lt ge14)
    have ne_b11_c14 : b11 ≠ c14 := Nat.ne_of_lt (Nat.lt_of_lt_of_le G12__13.1.lt ge14)
    have XO__14 := XO__13.keep K14 all0
    have Es2__14 := Es2__13.keep K14
    have Fc2__14 := Fc2__13.keep K14 nin0
    have Fv2__14 := Fv2__13.keep K14 nin0
    have Ab2__14 := Ab2__13.keep K14 nin0
    have G4__14 := G4__13.keep K14 nin0
    have G6__14 := G6__13.keep K14 nin0
    have Es8__14 := Es8__13.keep K14
    have Fc8__14 := Fc8__13.keep K14 nin0
    have Fv8__14 := Fv8__13.keep K14 nin0
    have Ab8__14 := Ab8__13.keep K14 nin0
    have G10__14 := G10__13.keep K14 nin0
    have G12__14 := G12__13.keep K14 nin0
    have hR14 := hR13.trans (CHr.keep K14 (show ∀ y ∈ ([] : List Addr), Safe Z own_EL T8.vm T13.heap y from sf0) hC13)
    have hC14 := hR14.1
    have KP14 := KP13.trans K14 all0
    have sz14 := Nat.le_trans sz13 K14.1
    have hk14 := Nat.le_trans hk13 K14.1
    show own_Go p e below _ (T14.setTop (mkF m 56 #[.val (.int p0), .val (.int p1), .val (.int p2), .val (.int p3), .val .null, .val (.ref c7), .val (.ref c13), .unset, .unset, .unset] [(.ref c14)]))
    refine own_go (fun t k => XS.astore X14.here hx rfl (hb hby at_56) rfl rfl (l' := #[.val (.int p0), .val (.int p1), .val (.int p2), .val (.int p3), .val .null, .val (.ref c7), .val (.ref c13), .val (.ref c14), .unset, .unset]) rfl k) ?_
    show own_Go p e below _ (T14.setTop (mkF m 58 #[.val (.int p0), .val (.int p1), .val (.int p2), .val (.int p3), .val .null, .val (.ref c7), .val (.ref c13), .val (.ref c14), .unset, .unset] []))
    obtain ⟨T15, h15, X15, e15, E15, A15, D15, -, st15⟩ := newO X14 hx hZ8 hown8 (hw _ (List.mem_of_getElem? (i := 139) rfl)) (hw _ (List.mem_of_getElem? (i := 110) rfl)) (hw _ (List.mem_of_getElem? (i := 107) rfl)) rfl (g := (mkF m 58 #[.val (.int p0), .val (.int p1), .val (.int p2), .val (.int p3), .val .null, .val (.ref c7), .val (.ref c13), .val (.ref c14), .unset, .unset] [])) rfl (hb hby at_58) (by decide) (by decide)
    obtain ⟨b15, g15⟩ : ∃ z, z = T14.heap.size := ⟨_, rfl⟩
    rw [← g15] at A15 D15 st15
    have g_b15 : n0 ≤ b15 := Nat.le_trans sz14 (Nat.le_of_eq g15.symm)
    have sz_b15 : h0.size ≤ b15 := Nat.le_trans KP14.1 (Nat.le_of_eq g15.symm)
    have ne_s2_b15 : s2 ≠ b15 := Nat.ne_of_lt (Nat.lt_of_lt_of_le Es2__14.lt (Nat.le_of_eq g15.symm))
    have ne_c2_b15 : c2 ≠ b15 := Nat.ne_of_lt (Nat.lt_of_lt_of_le Ab2__14.lt (Nat.le_of_eq g15.symm))
    have ne_b3_b15 : b3 ≠ b15 := Nat.ne_of_lt (Nat.lt_of_lt_of_le G4__14.1.lt (Nat.le_of_eq g15.symm))
    have ne_b5_b15 : b5 ≠ b15 := Nat.ne_of_lt (Nat.lt_of_lt_of_le G6__14.1.lt (Nat.le_of_eq g15.symm))
    have ne_s8_b15 : s8 ≠ b15 := Nat.ne_of_lt (Nat.lt_of_lt_of_le Es8__14.lt (Nat.le_of_eq g15.symm))
    have ne_c8_b15 : c8 ≠ b15 := Nat.ne_of_lt (Nat.lt_of_lt_of_le Ab8__14.lt (Nat.le_of_eq g15.symm))
    have ne_b9_b15 : b9 ≠ b15 := Nat.ne_of_lt (Nat.lt_of_lt_of_le G10__14.1.lt (Nat.le_of_eq g15.symm))
    have ne_b11_b15 : b11 ≠ b15 := Nat.ne_of_lt (Nat.lt_of_lt_of_le G12__14.1.lt (Nat.le_of_eq g15.symm))
    have ne_c14_b15 : c14 ≠ b15 := Nat.ne_of_lt (Nat.lt_of_lt_of_le G14.1.lt (Nat.le_of_eq g15.symm))
    have XO__15 := XO__14.ext E15
    have Es2__15 := Es2__14.ext E15
    have Fc2__15 := Fc2__14.ext E15
    have Fv2__15 := Fv2__14.ext E15
    have Ab2__15 := Ab2__14.ext E15
    have G4__15 := G4__14.ext E15
    have G6__15 := G6__14.ext E15
    have Es8__15 := Es8__14.ext E15
    have Fc8__15 := Fc8__14.ext E15
    have Fv8__15 := Fv8__14.ext E15
    have Ab8__15 := Ab8__14.ext E15
    have G10__15 := G10__14.ext E15
    have G12__15 := G12__14.ext E15
    have G14__15 := G14.ext E15
    have hR15 := hR14.trans (CHr.ext E15 hC14)
    have hC15 := hR15.1
    have sz15 := Nat.le_trans sz14 E15.1
    have KP15 := KP14.ext E15
    have hk15 := Nat.le_trans hk14 E15.1
    have F15_component : Fld Z h15 b15 "com/example/convoke/convoke/apply/KeptOverride" "component" "Lcom/example/convoke/convoke/icalendar/Component;" .null := D15 (Or.inr (hw _ (List.mem_of_getElem? (i := 134) rfl))) (ty := (.object "com/example/convoke/convoke/icalendar/Component")) (by decide)
    have F15_madeFor : Fld Z h15 b15 "com/example/convoke/convoke/apply/KeptOverride" "madeFor" "Ljava/lang/String;" .null := D15 (Or.inr (hw _ (List.mem_of_getElem? (i := 136) rfl))) (ty := (.object "java/lang/String")) (by decide)
    have F15_madeWithout : Fld Z h15 b15 "com/example/convoke/convoke/apply/KeptOverride" "madeWithout" "Ljava/util/Set;" .null := D15 (Or.inr (hw _ (List.mem_of_getElem? (i := 138) rfl))) (ty := (.object "java/util/Set")) (by decide)
    refine own_go (fun t k => st15 t k) ?_
    show own_Go p e below _ (T15.setTop (mkF m 61 #[.val (.int p0), .val (.int p1), .val (.int p2), .val (.int p3), .val .null, .val (.ref c7), .val (.ref c13), .val (.ref c14), .unset, .unset] [(.ref b15)]))
    refine own_go (fun t k => XS.dup X15.here hx rfl (hb hby at_61) rfl rfl k) ?_
    show own_Go p e below _ (T15.setTop (mkF m 62 #[.val (.int p0), .val (.int p1), .val (.int p2), .val (.int p3), .val .null, .val (.ref c7), .val (.ref c13), .val (.ref c14), .unset, .unset] [(.ref b15), (.ref b15)]))
    refine own_go (fun t k => XS.aload X15.here hx rfl (hb hby at_62) rfl rfl k) ?_
    show own_Go p e below _ (T15.setTop (mkF m 64 #[.val (.int p0), .val (.int p1), .val (.int p2), .val (.int p3), .val .null, .val (.ref c7), .val (.ref c13), .val (.ref c14), .unset, .unset] [(.ref c7), (.ref b15), (.ref b15)]))
    refine own_go (fun t k => XS.aload X15.here hx rfl (hb hby at_64) rfl rfl k) ?_
    show own_Go p e below _ (T15.setTop (mkF m 66 #[.val (.int p0), .val (.int p1), .val (.int p2), .val (.int p3), .val .null, .val (.ref c7), .val (.ref c13), .val (.ref c14), .unset, .unset] [.null, (.ref c7), (.ref b15), (.ref b15)]))
    refine own_go (fun t k => XS.aload X15.here hx rfl (hb hby at_66) rfl rfl k) ?_
    show own_Go p e below _ (T15.setTop (mkF m 68 #[.val (.int p0), .val (.int p1), .val (.int p2), .val (.int p3), .val .null, .val (.ref c7), .val (.ref c13), .val (.ref c14), .unset, .unset] [(.ref c14), .null, (.ref c7), (.ref b15), (.ref b15)]))
    obtain ⟨cq16, kq16, q16a, q16b, q16c⟩ := isOf hZ8 e15 G14__15.1
    obtain ⟨_, _, ⟨T16, L16, k16, n16⟩, -, X16, ⟨Lc16, hQ16, l16, y16, z16⟩, st16⟩ := X15.virtualBack hx (y := (⟨"com/example/convoke/convoke/apply/KeptOverride", "madeWithout", "()Ljava/util/Set;"⟩ : MethodName)) (z := (⟨"com/example/convoke/convoke/apply/KeptOverride", "madeWithout", "()Ljava/util/Set;"⟩ : MethodName)) hown8 (mvT hZ8 (hw _ (List.mem_of_getElem? (i := 140) rfl))) (mvT hZ8 (hw _ (List.mem_of_getElem? (i := 141) rfl))) (notFace_of_selects (args := #[]) (mvT hZ8 (hw _ (List.mem_of_getElem? (i := 143) rfl)))) (mvT hZ8 (hw _ (List.mem_of_getElem? (i := 143) rfl))) (mvT hZ8 (hw _ (List.mem_of_getElem? (i := 142) rfl))) (by decide) (backOf (W := 4) (rm17 l Z a0 hw [] c14 (.ref c7) .null de mr es kde h15 n0 sz15 G14__15 XO__15 WW) hZ8 (hw _ (List.mem_of_getElem? (i := 144) rfl)) (hw _ (List.mem_of_getElem? (i := 107) rfl)) (by decide) (by decide)) q16a q16c (g := (mkF m 68 #[.val (.int p0), .val (.int p1), .val (.int p2), .val (.int p3), .val .null, .val (.ref c7), .val (.ref c13), .val (.ref c14), .unset, .unset] [(.ref c14), .null, (.ref c7), (.ref b15), (.ref b15)])) rfl (by rw [hml]; rfl) (Steps.refl _) (argsL := []) (rest := [.null, (.ref c7), (.ref b15), (.ref b15)]) (lenOf pd0_4 rfl) rfl (by show 2 * 0 + _ ≤ _; exact Nat.le_of_eq rfl) (hb hby at_68) (fun _ _ => ⟨rfl, e15, (by decide : 0 + 6 + 2 + 1 + 1 + 5 + 2 + 1 + 1 + 5 + 1 + 1 + 0 ≤ _), (by decide : 0 + 28 + (24 + 4) + 3 + 3 + 12 + (20 + 4) + 3 + 3 + 12 + 3 + 3 + 0 ≤ _)⟩)
    dsimp only [Pt.U, Pt.locs, Pt.cells, Pt.slots] at X16 l16 y16 z16 st16 hQ16
    subst l16 y16 z16
    obtain ⟨rfl, Nq16, e16⟩ := hQ16
    have N16 := Fr.app N14 Nq16
    refine own_go (fun t k => st16.trans k) ?_
    show own_Go p e below _ (T16.setTop (mkF m 71 #[.val (.int p0), .val (.int p1), .val (.int p2), .val (.int p3), .val .null, .val (.ref c7), .val (.ref c13), .val (.ref c14), .unset, .unset] [(.ref es), .null, (.ref c7), (.ref b15), (.ref b15)]))
    obtain ⟨_, _, ⟨T17, L17, k17, n17⟩, -, X17, ⟨Lc17, hQ17, l17, y17, z17⟩, st17⟩ := X16.specialBack hx (y := (⟨"com/example/convoke/convoke/apply/KeptOverride", "<init>", "(Lcom/example/convoke/convoke/icalendar/Component;Ljava/lang/String;Ljava/util/Set;)V"⟩ : MethodName)) rfl hown8 (mvT hZ8 (hw _ (List.mem_of_getElem? (i := 145) rfl))) (mvT hZ8 (hw _ (List.mem_of_getElem? (i := 118) rfl))) (mvT hZ8 (hw _ (List.mem_of_getElem? (i := 119) rfl))) (by decide) (backOf (W := 1) (rm14 l Z a0 hw [] b15 (.ref c7) .null de mr es kde h15 n0 sz15 ⟨A15, F15_component, F15_madeFor, F15_madeWithout⟩ g_b15 rfl rfl XO__15 WW) hZ8 (hw _ (List.mem_of_getElem? (i := 119) rfl)) (hw _ (List.mem_of_getElem? (i := 107) rfl)) (by decide) (by decide)) (g := (mkF m 71 #[.val (.int p0), .val (.int p1), .val (.int p2), .val (.int p3), .val .null, .val (.ref c7), .val (.ref c13), .val (.ref c14), .unset, .unset] [(.ref es), .null, (.ref c7), (.ref b15), (.ref b15)])) rfl (by rw [hml]; rfl) (Steps.refl _) (a := b15) (argsL := [(.ref c7), .null, (.ref es)]) (rest := [(.ref b15)]) (lenOf pd0_5 rfl) rfl (by show 2 * 0 + _ ≤ _; exact Nat.le_of_eq rfl) (hb hby at_71) (fun _ _ => ⟨rfl, e16, (by decide : 0 + 6 + 2 + 1 + 1 + 5 + 2 + 1 + 1 + 5 + 1 + 1 + 0 ≤ _), (by decide : 0 + 28 + (24 + 4) + 3 + 3 + 12 + (20 + 4) + 3 + 3 + 12 + 3 + 3 + 0 ≤ _)⟩)
    dsimp only [Pt.U, Pt.locs, Pt.cells, Pt.slots] at X17 l17 y17 z17 st17 hQ17
    subst l17 y17 z17
    obtain ⟨rfl, Nq17, K17, G17⟩ := hQ17
    have N17 := Fr.app N16 Nq17
    refine own_go (fun t k => st17.trans k) ?_
    have XO__17 := XO__15.keep K17 (allS g_b15 all0)
    have Es2__17 := Es2__15.keep K17
    have Fc2__17 := Fc2__15.keep K17 (ninS ne_s2_b15 nin0)
    have Fv2__17 := Fv2__15.keep K17 (ninS ne_s2_b15 nin0)
    have Ab2__17 := Ab2__15.keep K17 (ninS ne_c2_b15 nin0)
    have G4__17 := G4__15.keep K17 (ninS ne_b3_b15 nin0)
    have G6__17 := G6__15.keep K17 (ninS ne_b5_b15 nin0)
    have Es8__17 := Es8__15.keep K17
    have Fc8__17 := Fc8__15.keep K17 (ninS ne_s8_b15 nin0)
    have Fv8__17 := Fv8__15.keep K17 (ninS ne_s8_b15 nin0)
    have Ab8__17 := Ab8__15.keep K17 (ninS ne_c8_b15 nin0)
    have G10__17 := G10__15.keep K17 (ninS ne_b9_b15 nin0)
    have G12__17 := G12__15.keep K17 (ninS ne_b11_b15 nin0)
    have G14__17 := G14__15.keep K17 (ninS ne_c14_b15 nin0)
    have A15__17 := A15.keep K17
    have hR17 := hR15.trans (CHr.keep K17 (show ∀ y ∈ ([b15] : List Addr), Safe Z own_EL T8.vm h15 y from (sfS (Safe.exa hZ8.alike A15 (by decide) (by decide)) sf0)) hC15)
    have hC17 := hR17.1
    have KP17 := KP15.trans K17 (allS (Or.inr sz_b15) all0)
    have sz17 := Nat.le_trans sz15 K17.1
    have hk17 := Nat.le_trans hk15 K17.1
    show own_Go p e below _ (T17.setTop (mkF m 74 #[.val (.int p0), .val (.int p1), .val (.int p2), .val (.int p3), .val .null, .val (.ref c7), .val (.ref c13), .val (.ref c14), .unset, .unset] [(.ref b15)]))
    refine own_go (fun t k => XS.astore X17.here hx rfl (hb hby at_74) rfl rfl (l' := #[.val (.int p0), .val (.int p1), .val (.int p2), .val (.int p3), .val .null, .val (.ref c7), .val (.ref c13), .val (.ref c14), .val (.ref b15), .unset]) rfl k) ?_
    show own_Go p e below _ (T17.setTop (mkF m 76 #[.val (.int p0), .val (.int p1), .val (.int p2), .val (.int p3), .val .null, .val (.ref c7), .val (.ref c13), .val (.ref c14), .val (.ref b15), .unset] []))
    refine own_go (fun t k => XS.aload X17.here hx rfl (hb hby at_76) rfl rfl k) ?_
    show own_Go p e below _ (T17.setTop (mkF m 78 #[.val (.int p0), .val (.int p1), .val (.int p2), .val (.int p3), .val .null, .val (.ref c7), .val (.ref c13), .val (.ref c14), .val (.ref b15), .unset] [.null]))
    refine own_go (fun t k => XS.ifnullYes X17.here hx rfl (pc0 := 78) (pc' := 85) rfl (hb hby at_78) rfl (by decide) (by decide) k) ?_
    show own_Go p e below _ (T17.setTop (mkF m 85 #[.val (.int p0), .val (.int p1), .val (.int p2), .val (.int p3), .val .null, .val (.ref c7), .val (.ref c13), .val (.ref c14), .val (.ref b15), .unset] []))
    refine own_go (fun t k => XS.iconst X17.here hx rfl (hb hby at_85) k) ?_
    show own_Go p e below _ (T17.setTop (mkF m 86 #[.val (.int p0), .val (.int p1), .val (.int p2), .val (.int p3), .val .null, .val (.ref c7), .val (.ref c13), .val (.ref c14), .val (.ref b15), .unset] [(.int (0 : Int32))]))
    refine own_go (fun t k => XS.istore X17.here hx rfl (hb hby at_86) rfl (l' := #[.val (.int p0), .val (.int p1), .val (.int p2), .val (.int p3), .val .null, .val (.ref c7), .val (.ref c13), .val (.ref c14), .val (.ref b15), .val (.int (0 : Int32))]) rfl k) ?_
    show own_Go p e below _ (T17.setTop (mkF m 88 #[.val (.int p0), .val (.int p1), .val (.int p2), .val (.int p3), .val .null, .val (.ref c7), .val (.ref c13), .val (.ref c14), .val (.ref b15), .val (.int (0 : Int32))] []))
    refine own_go (fun t k => XS.aload X17.here hx rfl (hb hby at_88) rfl rfl k) ?_
    show own_Go p e below _ (T17.setTop (mkF m 90 #[.val (.int p0), .val (.int p1), .val (.int p2), .val (.int p3), .val .null, .val (.ref c7), .val (.ref c13), .val (.ref c14), .val (.ref b15), .val (.int (0 : Int32))] [(.ref c14)]))
    obtain ⟨cq18, kq18, q18a, q18b, q18c⟩ := isOf hZ8 rfl G14__17.1
    obtain ⟨_, _, ⟨T18, L18, k18, n18⟩, -, X18, ⟨Lc18, hQ18, l18, y18, z18⟩, st18⟩ := X17.virtualBack hx (y := (⟨"com/example/convoke/convoke/apply/KeptOverride", "isMade", "()Z"⟩ : MethodName)) (z := (⟨"com/example/convoke/convoke/apply/KeptOverride", "isMade", "()Z"⟩ : MethodName)) hown8 (mvT hZ8 (hw _ (List.mem_of_getElem? (i := 146) rfl))) (mvT hZ8 (hw _ (List.mem_of_getElem? (i := 147) rfl))) (notFace_of_selects (args := #[]) (mvT hZ8 (hw _ (List.mem_of_getElem? (i := 149) rfl)))) (mvT hZ8 (hw _ (List.mem_of_getElem? (i := 149) rfl))) (mvT hZ8 (hw _ (List.mem_of_getElem? (i := 148) rfl))) (by decide) (backOf (W := 0) (rm18 l Z a0 hw [] c14 (.ref c7) .null de mr es kde T17.heap n0 sz17 G14__17 rfl XO__17 WW) hZ8 (hw _ (List.mem_of_getElem? (i := 150) rfl)) (hw _ (List.mem_of_getElem? (i := 107) rfl)) (by decide) (by decide)) q18a q18c (g := (mkF m 90 #[.val (.int p0), .val (.int p1), .val (.int p2), .val (.int p3), .val .null, .val (.ref c7), .val (.ref c13), .val (.ref c14), .val (.ref b15), .val (.int (0 : Int32))] [(.ref c14)])) rfl (by rw [hml]; rfl) (Steps.refl _) (argsL := []) (rest := []) (lenOf pd0_6 rfl) rfl (by show 2 * 0 + _ ≤ _; exact Nat.le_of_eq rfl) (hb hby at_90) (fun _ _ => ⟨rfl, rfl, (by decide : 0 + 6 + 2 + 1 + 1 + 5 + 2 + 1 + 1 + 5 + 1 + 1 + 0 ≤ _), (by decide : 0 + 28 + (24 + 4) + 3 + 3 + 12 + (20 + 4) + 3 + 3 + 12 + 3 + 3 + 0 ≤ _)⟩)
    dsimp only [Pt.U, Pt.locs, Pt.cells, Pt.slots] at X18 l18 y18 z18 st18 hQ18
    subst l18 y18 z18
    obtain ⟨rfl, Nq18, e18⟩ := hQ18
    have N18 := Fr.app N17 Nq18
    refine own_go (fun t k => st18.trans k) ?_
    show own_Go p e below _ (T18.setTop (mkF m 93 #[.val (.int p0), .val (.int p1), .val (.int p2), .val (.int p3), .val .null, .val (.ref c7), .val (.ref c13), .val (.ref c14), .val (.ref b15), .val (.int (0 : Int32))] [(.int (own_nn .null))]))
    refine own_go (fun t k => XS.ifNo X18.here hx rfl (hb hby at_93) rfl ((if0 _ _).trans (teq (rfl : (own_nn .null) = (0 : Int32))).2) k) ?_
    show own_Go p e below _ (T18.setTop (mkF m 96 #[.val (.int p0), .val (.int p1), .val (.int p2), .val (.int p3), .val .null, .val (.ref c7), .val (.ref c13), .val (.ref c14), .val (.ref b15), .val (.int (0 : Int32))] []))
    refine own_go (fun t k => XS.aload X18.here hx rfl (hb hby at_96) rfl rfl k) ?_
    show own_Go p e below _ (T18.setTop (mkF m 98 #[.val (.int p0), .val (.int p1), .val (.int p2), .val (.int p3), .val .null, .val (.ref c7), .val (.ref c13), .val (.ref c14), .val (.ref b15), .val (.int (0 : Int32))] [(.ref b15)]))
    obtain ⟨cq19, kq19, q19a, q19b, q19c⟩ := isOf hZ8 e18 G17.1
    obtain ⟨_, _, ⟨T19, L19, k19, n19⟩, -, X19, ⟨Lc19, hQ19, l19, y19, z19⟩, st19⟩ := X18.virtualBack hx (y := (⟨"com/example/convoke/convoke/apply/KeptOverride", "isMade", "()Z"⟩ : MethodName)) (z := (⟨"com/example/convoke/convoke/apply/KeptOverride", "isMade", "()Z"⟩ : MethodName)) hown8 (mvT hZ8 (hw _ (List.mem_of_getElem? (i := 146) rfl))) (mvT hZ8 (hw _ (List.mem_of_getElem? (i := 147) rfl))) (notFace_of_selects (args := #[]) (mvT hZ8 (hw _ (List.mem_of_getElem? (i := 149) rfl)))) (mvT hZ8 (hw _ (List.mem_of_getElem? (i := 149) rfl))) (mvT hZ8 (hw _ (List.mem_of_getElem? (i := 148) rfl))) (by decide) (backOf (W := 0) (rm18 l Z a0 hw [] b15 (.ref c7) .null de mr es kde T17.heap n0 sz17 G17 rfl XO__17 WW) hZ8 (hw _ (List.mem_of_getElem? (i := 150) rfl)) (hw _ (List.mem_of_getElem? (i := 107) rfl)) (by decide) (by decide)) q19a q19c (g := (mkF m 98 #[.val (.int p0), .val (.int p1), .val (.int p2), .val (.int p3), .val .null, .val (.ref c7), .val (.ref c13), .val (.ref c14), .val (.ref b15), .val (.int (0 : Int32))] [(.ref b15)])) rfl (by rw [hml]; rfl) (Steps.refl _) (argsL := []) (rest := []) (lenOf pd0_6 rfl) rfl (by show 2 * 0 + _ ≤ _; exact Nat.le_of_eq rfl) (hb hby at_98) (fun _ _ => ⟨rfl, e18, (by decide : 0 + 6 + 2 + 1 + 1 + 5 + 2 + 1 + 1 + 5 + 1 + 1 + 0 ≤ _), (by decide : 0 + 28 + (24 + 4) + 3 + 3 + 12 + (20 + 4) + 3 + 3 + 12 + 3 + 3 + 0 ≤ _)⟩)
    dsimp only [Pt.U, Pt.locs, Pt.cells, Pt.slots] at X19 l19 y19 z19 st19 hQ19
    subst l19 y19 z19
    obtain ⟨rfl, Nq19, e19⟩ := hQ19
    have N19 := Fr.app N18 Nq19
    refine own_go (fun t k => st19.trans k) ?_
    show own_Go p e below _ (T19.setTop (mkF m 101 #[.val (.int p0), .val (.int p1), .val (.int p2), .val (.int p3), .val .null, .val (.ref c7), .val (.ref c13), .val (.ref c14), .val (.ref b15), .val (.int (0 : Int32))] [(.int (own_nn .null))]))
    refine own_go (fun t k => XS.iload X19.here hx rfl (hb hby at_101) rfl k) ?_
    show own_Go p e below _ (T19.setTop (mkF m 103 #[.val (.int p0), .val (.int p1), .val (.int p2), .val (.int p3), .val .null, .val (.ref c7), .val (.ref c13), .val (.ref c14), .val (.ref b15), .val (.int (0 : Int32))] [(.int (0 : Int32)), (.int (own_nn .null))]))
    refine own_go (fun t k => XS.icmpNo X19.here hx rfl (hb hby at_103) rfl (teq (rfl : (own_nn .null) = (0 : Int32))).2 k) ?_
    show own_Go p e below _ (T19.setTop (mkF m 106 #[.val (.int p0), .val (.int p1), .val (.int p2), .val (.int p3), .val .null, .val (.ref c7), .val (.ref c13), .val (.ref c14), .val (.ref b15), .val (.int (0 : Int32))] []))
    refine own_go (fun t k => XS.aload X19.here hx rfl (hb hby at_106) rfl rfl k) ?_
    show own_Go p e below _ (T19.setTop (mkF m 108 #[.val (.int p0), .val (.int p1), .val (.int p2), .val (.int p3), .val .null, .val (.ref c7), .val (.ref c13), .val (.ref c14), .val (.ref b15), .val (.int (0 : Int32))] [(.ref b15)]))
    refine own_go (fun t k => XS.aload X19.here hx rfl (hb hby at_108) rfl rfl k) ?_
    show own_Go p e below _ (T19.setTop (mkF m 110 #[.val (.int p0), .val (.int p1), .val (.int p2), .val (.int p3), .val .null, .val (.ref c7), .val (.ref c13), .val (.ref c14), .val (.ref b15), .val (.int (0 : Int32))] [(.ref c13), (.ref b15)]))
    obtain ⟨cq20, kq20, q20a, q20b, q20c⟩ := isOf hZ8 e19 G17.1
    obtain ⟨_, _, ⟨T20, L20, k20, n20⟩, -, X20, ⟨Lc20, hQ20, l20, y20, z20⟩, st20⟩ := X19.virtualBack hx (y := (⟨"com/example/convoke/convoke/apply/KeptOverride", "with", "(Lcom/example/convoke/convoke/icalendar/Component;)Lcom/example/convoke/convoke/apply/KeptOverride;"⟩ : MethodName)) (z := (⟨"com/example/convoke/convoke/apply/KeptOverride", "with", "(Lcom/example/convoke/convoke/icalendar/Component;)Lcom/example/convoke/convoke/apply/KeptOverride;"⟩ : MethodName)) hown8 (mvT hZ8 (hw _ (List.mem_of_getElem? (i := 151) rfl))) (mvT hZ8 (hw _ (List.mem_of_getElem? (i := 152) rfl))) (notFace_of_selects (args := #[]) (mvT hZ8 (hw _ (List.mem_of_getElem? (i := 154) rfl)))) (mvT hZ8 (hw _ (List.mem_of_getElem? (i := 154) rfl))) (mvT hZ8 (hw _ (List.mem_of_getElem? (i := 153) rfl))) (by decide) (backOf (W := 0) (rm16 l Z a0 hw [] b15 (.ref c7) .null (.ref c13) de mr es kde T17.heap n0 sz17 G17 rfl rfl XO__17 WW) hZ8 (hw _ (List.mem_of_getElem? (i := 155) rfl)) (hw _ (List.mem_of_getElem? (i := 107) rfl)) (by decide) (by decide)) q20a q20c (g := (mkF m 110 #[.val (.int p0), .val (.int p1), .val (.int p2), .val (.int p3), .val .null, .val (.ref c7), .val (.ref c13), .val (.ref c14), .val (.ref b15), .val (.int (0 : Int32))] [(.ref c13), (.ref b15)])) rfl (by rw [hml]; rfl) (Steps.refl _) (argsL := [(.ref c13)]) (rest := []) (lenOf pd0_3 rfl) rfl (by show 2 * 0 + _ ≤ _; exact Nat.le_of_eq rfl) (hb hby at_110) (fun _ _ => ⟨rfl, e19, (by decide : 0 + 6 + 2 + 1 + 1 + 5 + 2 + 1 + 1 + 5 + 1 + 1 + 1 ≤ _), (by decide : 0 + 28 + (24 + 4) + 3 + 3 + 12 + (20 + 4) + 3 + 3 + 12 + 3 + 3 + 3 ≤ _)⟩)
    dsimp only [Pt.U, Pt.locs, Pt.cells, Pt.slots] at X20 l20 y20 z20 st20 hQ20
    subst l20 y20 z20
    obtain ⟨c20, rfl, Nq20, K20, ge20, G20⟩ := hQ20
    have N20 := Fr.app N19 Nq20
    refine own_go (fun t k => st20.trans k) ?_
    have g_c20 : n0 ≤ c20 := Nat.le_trans sz17 ge20
    have sz_c20 : h0.size ≤ c20 := Nat.le_trans KP17.1 ge20
    have ne_s2_c20 : s2 ≠ c20 := Nat.ne_of_lt (Nat.lt_of_lt_of_le Es2__17.lt ge20)
    have ne_c2_c20 : c2 ≠ c20 := Nat.ne_of_lt (Nat.lt_of_lt_of_le Ab2__17.lt ge20)
    have ne_b3_c20 : b3 ≠ c20 := Nat.ne_of_lt (Nat.lt_of_lt_of_le G4__17.1.lt ge20)
    have ne_b5_c20 : b5 ≠ c20 := Nat.ne_of_lt (Nat.lt_of_lt_of_le G6__17.1.lt ge20)
    have ne_s8_c20 : s8 ≠ c20 := Nat.ne_of_lt (Nat.lt_of_lt_of_le Es8__17.lt ge20)
    have ne_c8_c20 : c8 ≠ c20 := Nat.ne_of_lt (Nat.lt_of_lt_of_le Ab8__17.lt ge20)
    have ne_b9_c20 : b9 ≠ c20 := Nat.ne_of_lt (Nat.lt_of_lt_of_le G10__17.1.lt ge20)
    have ne_b11_c20 : b11 ≠ c20 := Nat.ne_of_lt (Nat.lt_of_lt_of_le G12__17.1.lt ge20)
    have ne_c14_c20 : c14 ≠ c20 := Nat.ne_of_lt (Nat.lt_of_lt_of_le G14__17.1.lt ge20)
    have ne_b15_c20 : b15 ≠ c20 := Nat.ne_of_lt (Nat.lt_of_lt_of_le G17.1.lt ge20)
    have XO__20 := XO__17.keep K20 all0
    have Es2__20 := Es2__17.keep K20
    have Fc2__20 := Fc2__17.keep K20 nin0
    have Fv2__20 := Fv2__17.keep K20 nin0
    have Ab2__20 := Ab2__17.keep K20 nin0
    have G4__20 := G4__17.keep K20 nin0
    have G6__20 := G6__17.keep K20 nin0
    have Es8__20 := Es8__17.keep K20
    have Fc8__20 := Fc8__17.keep K20 nin0
    have Fv8__20 := Fv8__17.keep K20 nin0
    have Ab8__20 := Ab8__17.keep K20 nin0
    have G10__20 := G10__17.keep K20 nin0
    have G12__20 := G12__17.keep K20 nin0
    have G14__20 := G14__17.keep K20 nin0
    have G17__20 := G17.keep K20 nin0
    have hR20 := hR17.trans (CHr.keep K20 (show ∀ y ∈ ([] : List Addr), Safe Z own_EL T8.vm T17.heap y from sf0) hC17)
    have hC20 := hR20.1
    have KP20 := KP17.trans K20 all0
    have sz20 := Nat.le_trans sz17 K20.1
    have hk20 := Nat.le_trans hk17 K20.1
    show own_Go p e below _ (T20.setTop (mkF m 113 #[.val (.int p0), .val (.int p1), .val (.int p2), .val (.int p3), .val .null, .val (.ref c7), .val (.ref c13), .val (.ref c14), .val (.ref b15), .val (.int (0 : Int32))] [(.ref c20)]))
    obtain ⟨cq21, kq21, q21a, q21b, q21c⟩ := isOf hZ8 rfl G20.1
    obtain ⟨_, _, ⟨T21, L21, k21, n21⟩, -, X21, ⟨Lc21, hQ21, l21, y21, z21⟩, st21⟩ := X20.virtualBack hx (y := (⟨"com/example/convoke/convoke/apply/KeptOverride", "isMade", "()Z"⟩ : MethodName)) (z := (⟨"com/example/convoke/convoke/apply/KeptOverride", "isMade", "()Z"⟩ : MethodName)) hown8 (mvT hZ8 (hw _ (List.mem_of_getElem? (i := 146) rfl))) (mvT hZ8 (hw _ (List.mem_of_getElem? (i := 147) rfl))) (notFace_of_selects (args := #[]) (mvT hZ8 (hw _ (List.mem_of_getElem? (i := 149) rfl)))) (mvT hZ8 (hw _ (List.mem_of_getElem? (i := 149) rfl))) (mvT hZ8 (hw _ (List.mem_of_getElem? (i := 148) rfl))) (by decide) (backOf (W := 0) (rm18 l Z a0 hw [] c20 (.ref c13) .null de mr es kde T20.heap n0 sz20 G20 rfl XO__20 WW) hZ8 (hw _ (List.mem_of_getElem? (i := 150) rfl)) (hw _ (List.mem_of_getElem? (i := 107) rfl)) (by decide) (by decide)) q21a q21c (g := (mkF m 113 #[.val (.int p0), .val (.int p1), .val (.int p2), .val (.int p3), .val .null, .val (.ref c7), .val (.ref c13), .val (.ref c14), .val (.ref b15), .val (.int (0 : Int32))] [(.ref c20)])) rfl (by rw [hml]; rfl) (Steps.refl _) (argsL := []) (rest := []) (lenOf pd0_6 rfl) rfl (by show 2 * 0 + _ ≤ _; exact Nat.le_of_eq rfl) (hb hby at_113) (fun _ _ => ⟨rfl, rfl, (by decide : 0 + 6 + 2 + 1 + 1 + 5 + 2 + 1 + 1 + 5 + 1 + 1 + 1 + 0 ≤ _), (by decide : 0 + 28 + (24 + 4) + 3 + 3 + 12 + (20 + 4) + 3 + 3 + 12 + 3 + 3 + 3 + 0 ≤ _)⟩)
    dsimp only [Pt.U, Pt.locs, Pt.cells, Pt.slots] at X21 l21 y21 z21 st21 hQ21
    subst l21 y21 z21
    obtain ⟨rfl, Nq21, e21⟩ := hQ21
    have N21 := Fr.app N20 Nq21
    refine own_go (fun t k => st21.trans k) ?_
    show own_Go p e below _ (T21.setTop (mkF m 116 #[.val (.int p0), .val (.int p1), .val (.int p2), .val (.int p3), .val .null, .val (.ref c7), .val (.ref c13), .val (.ref c14), .val (.ref b15), .val (.int (0 : Int32))] [(.int (own_nn .null))]))
    refine own_go (fun t k => XS.iload X21.here hx rfl (hb hby at_116) rfl k) ?_
    show own_Go p e below _ (T21.setTop (mkF m 118 #[.val (.int p0), .val (.int p1), .val (.int p2), .val (.int p3), .val .null, .val (.ref c7), .val (.ref c13), .val (.ref c14), .val (.ref b15), .val (.int (0 : Int32))] [(.int (0 : Int32)), (.int (own_nn .null))]))
    refine own_go (fun t k => XS.icmpNo X21.here hx rfl (hb hby at_118) rfl (teq (rfl : (own_nn .null) = (0 : Int32))).2 k) ?_
    show own_Go p e below _ (T21.setTop (mkF m 121 #[.val (.int p0), .val (.int p1), .val (.int p2), .val (.int p3), .val .null, .val (.ref c7), .val (.ref c13), .val (.ref c14), .val (.ref b15), .val (.int (0 : Int32))] []))
    refine own_go (fun t k => XS.aload X21.here hx rfl (hb hby at_121) rfl rfl k) ?_
    show own_Go p e below _ (T21.setTop (mkF m 123 #[.val (.int p0), .val (.int p1), .val (.int p2), .val (.int p3), .val .null, .val (.ref c7), .val (.ref c13), .val (.ref c14), .val (.ref b15), .val (.int (0 : Int32))] [(.ref c14)]))
    refine own_go (fun t k => XS.aload X21.here hx rfl (hb hby at_123) rfl rfl k) ?_
    show own_Go p e below _ (T21.setTop (mkF m 125 #[.val (.int p0), .val (.int p1), .val (.int p2), .val (.int p3), .val .null, .val (.ref c7), .val (.ref c13), .val (.ref c14), .val (.ref b15), .val (.int (0 : Int32))] [(.ref c13), (.ref c14)]))
    obtain ⟨cq22, kq22, q22a, q22b, q22c⟩ := isOf hZ8 e21 G14__20.1
    obtain ⟨_, _, ⟨T22, L22, k22, n22⟩, -, X22, ⟨Lc22, hQ22, l22, y22, z22⟩, st22⟩ := X21.virtualBack hx (y := (⟨"com/example/convoke/convoke/apply/KeptOverride", "with", "(Lcom/example/convoke/convoke/icalendar/Component;)Lcom/example/convoke/convoke/apply/KeptOverride;"⟩ : MethodName)) (z := (⟨"com/example/convoke/convoke/apply/KeptOverride", "with", "(Lcom/example/convoke/convoke/icalendar/Component;)Lcom/example/convoke/convoke/apply/KeptOverride;"⟩ : MethodName)) hown8 (mvT hZ8 (hw _ (List.mem_of_getElem? (i := 151) rfl))) (mvT hZ8 (hw _ (List.mem_of_getElem? (i := 152) rfl))) (notFace_of_selects (args := #[]) (mvT hZ8 (hw _ (List.mem_of_getElem? (i := 154) rfl)))) (mvT hZ8 (hw _ (List.mem_of_getElem? (i := 154) rfl))) (mvT hZ8 (hw _ (List.mem_of_getElem? (i := 153) rfl))) (by decide) (backOf (W := 0) (rm16 l Z a0 hw [] c14 (.ref c7) .null (.ref c13) de mr es kde T20.heap n0 sz20 G14__20 rfl rfl XO__20 WW) hZ8 (hw _ (List.mem_of_getElem? (i := 155) rfl)) (hw _ (List.mem_of_getElem? (i := 107) rfl)) (by decide) (by decide)) q22a q22c (g := (mkF m 125 #[.val (.int p0), .val (.int p1), .val (.int p2), .val (.int p3), .val .null, .val (.ref c7), .val (.ref c13), .val (.ref c14), .val (.ref b15), .val (.int (0 : Int32))] [(.ref c13), (.ref c14)])) rfl (by rw [hml]; rfl) (Steps.refl _) (argsL := [(.ref c13)]) (rest := []) (lenOf pd0_3 rfl) rfl (by show 2 * 0 + _ ≤ _; exact Nat.le_of_eq rfl) (hb hby at_125) (fun _ _ => ⟨rfl, e21, (by decide : 0 + 6 + 2 + 1 + 1 + 5 + 2 + 1 + 1 + 5 + 1 + 1 + 1 + 1 ≤ _), (by decide : 0 + 28 + (24 + 4) + 3 + 3 + 12 + (20 + 4) + 3 + 3 + 12 + 3 + 3 + 3 + 3 ≤ _)⟩)
    dsimp only [Pt.U, Pt.locs, Pt.cells, Pt.slots] at X22 l22 y22 z22 st22 hQ22
    subst l22 y22 z22
    obtain ⟨c22, rfl, Nq22, K22, ge22, G22⟩ := hQ22
    have N22 := Fr.app N21 Nq22
    refine own_go (fun t k => st22.trans k) ?_
    have g_c22 : n0 ≤ c22 := Nat.le_trans sz20 ge22
    have sz_c22 : h0.size ≤ c22 := Nat.le_trans KP20.1 ge22
    have ne_s2_c22 : s2 ≠ c22 := Nat.ne_of_lt (Nat.lt_of_lt_of_le Es2__20.lt ge22)
    have ne_c2_c22 : c2 ≠ c22 := Nat.ne_of_lt (Nat.lt_of_lt_of_le Ab2__20.lt ge22)
    have ne_b3_c22 : b3 ≠ c22 := Nat.ne_of_lt (Nat.lt_of_lt_of_le G4__20.1.lt ge22)
    have ne_b5_c22 : b5 ≠ c22 := Nat.ne_of_lt (Nat.lt_of_lt_of_le G6__20.1.lt ge22)
    have ne_s8_c22 : s8 ≠ c22 := Nat.ne_of_lt (Nat.lt_of_lt_of_le Es8__20.lt ge22)
    have ne_c8_c22 : c8 ≠ c22 := Nat.ne_of_lt (Nat.lt_of_lt_of_le Ab8__20.lt ge22)
    have ne_b9_c22 : b9 ≠ c22 := Nat.ne_of_lt (Nat.lt_of_lt_of_le G10__20.1.lt ge22)
    have ne_b11_c22 : b11 ≠ c22 := Nat.ne_of_lt (Nat.lt_of_lt_of_le G12__20.1.lt ge22)
    have ne_c14_c22 : c14 ≠ c22 := Nat.ne_of_lt (Nat.lt_of_lt_of_le G14__20.1.lt ge22)
    have ne_b15_c22 : b15 ≠ c22 := Nat.ne_of_lt (Nat.lt_of_lt_of_le G17__20.1.lt ge22)
    have ne_c20_c22 : c20 ≠ c22 := Nat.ne_of_lt (Nat.lt_of_lt_of_le G20.1.lt ge22)
    have XO__22 := XO__20.keep K22 all0
    have Es2__22 := Es2__20.keep K22
    have Fc2__22 := Fc2__20.keep K22 nin0
    have Fv2__22 := Fv2__20.keep K22 nin0
    have Ab2__22 := Ab2__20.keep K22 nin0
    have G4__22 := G4__20.keep K22 nin0
    have G6__22 := G6__20.keep K22 nin0
    have Es8__22 := Es8__20.keep K22
    have Fc8__22 := Fc8__20.keep K22 nin0
    have Fv8__22 := Fv8__20.keep K22 nin0
    have Ab8__22 := Ab8__20.keep K22 nin0
    have G10__22 := G10__20.keep K22 nin0
    have G12__22 := G12__20.keep K22 nin0
    have G14__22 := G14__20.keep K22 nin0
    have G17__22 := G17__20.keep K22 nin0
    have G20__22 := G20.keep K22 nin0
    have hR22 := hR20.trans (CHr.keep K22 (show ∀ y ∈ ([] : List Addr), Safe Z own_EL T8.vm T20.heap y from sf0) hC20)
    have hC22 := hR22.1
    have KP22 := KP20.trans K22 all0
    have sz22 := Nat.le_trans sz20 K22.1
    have hk22 := Nat.le_trans hk20 K22.1
    show own_Go p e below _ (T22.setTop (mkF m 128 #[.val (.int p0), .val (.int p1), .val (.int p2), .val (.int p3), .val .null, .val (.ref c7), .val (.ref c13), .val (.ref c14), .val (.ref b15), .val (.int (0 : Int32))] [(.ref c22)]))
    obtain ⟨cq23, kq23, q23a, q23b, q23c⟩ := isOf hZ8 rfl G22.1
    obtain ⟨_, _, ⟨T23, L23, k23, n23⟩, -, X23, ⟨Lc23, hQ23, l23, y23, z23⟩, st23⟩ := X22.virtualBack hx (y := (⟨"com/example/convoke/convoke/apply/KeptOverride", "isMade", "()Z"⟩ : MethodName)) (z := (⟨"com/example/convoke/convoke/apply/KeptOverride", "isMade", "()Z"⟩ : MethodName)) hown8 (mvT hZ8 (hw _ (List.mem_of_getElem? (i := 146) rfl))) (mvT hZ8 (hw _ (List.mem_of_getElem? (i := 147) rfl))) (notFace_of_selects (args := #[]) (mvT hZ8 (hw _ (List.mem_of_getElem? (i := 149) rfl)))) (mvT hZ8 (hw _ (List.mem_of_getElem? (i := 149) rfl))) (mvT hZ8 (hw _ (List.mem_of_getElem? (i := 148) rfl))) (by decide) (backOf (W := 0) (rm18 l Z a0 hw [] c22 (.ref c13) .null de mr es kde T22.heap n0 sz22 G22 rfl XO__22 WW) hZ8 (hw _ (List.mem_of_getElem? (i := 150) rfl)) (hw _ (List.mem_of_getElem? (i := 107) rfl)) (by decide) (by decide)) q23a q23c (g := (mkF m 128 #[.val (.int p0), .val (.int p1), .val (.int p2), .val (.int p3), .val .null, .val (.ref c7), .val (.ref c13), .val (.ref c14), .val (.ref b15), .val (.int (0 : Int32))] [(.ref c22)])) rfl (by rw [hml]; rfl) (Steps.refl _) (argsL := []) (rest := []) (lenOf pd0_6 rfl) rfl (by show 2 * 0 + _ ≤ _; exact Nat.le_of_eq rfl) (hb hby at_128) (fun _ _ => ⟨rfl, rfl, (by decide : 0 + 6 + 2 + 1 + 1 + 5 + 2 + 1 + 1 + 5 + 1 + 1 + 1 + 1 + 0 ≤ _), (by decide : 0 + 28 + (24 + 4) + 3 + 3 + 12 + (20 + 4) + 3 + 3 + 12 + 3 + 3 + 3 + 3 + 0 ≤ _)⟩)
    dsimp only [Pt.U, Pt.locs, Pt.cells, Pt.slots] at X23 l23 y23 z23 st23 hQ23
    subst l23 y23 z23
    obtain ⟨rfl, Nq23, e23⟩ := hQ23
    have N23 := Fr.app N22 Nq23
    refine own_go (fun t k => st23.trans k) ?_
    show own_Go p e below _ (T23.setTop (mkF m 131 #[.val (.int p0), .val (.int p1), .val (.int p2), .val (.int p3), .val .null, .val (.ref c7), .val (.ref c13), .val (.ref c14), .val (.ref b15), .val (.int (0 : Int32))] [(.int (own_nn .null))]))
    refine own_go (fun t k => XS.ifNo X23.here hx rfl (hb hby at_131) rfl ((if0 _ _).trans (teq (rfl : (own_nn .null) = (0 : Int32))).2) k) ?_
    show own_Go p e below _ (T23.setTop (mkF m 134 #[.val (.int p0), .val (.int p1), .val (.int p2), .val (.int p3), .val .null, .val (.ref c7), .val (.ref c13), .val (.ref c14), .val (.ref b15), .val (.int (0 : Int32))] []))
    refine own_go (fun t k => XS.iconst X23.here hx rfl (hb hby at_134) k) ?_
    show own_Go p e below _ (T23.setTop (mkF m 135 #[.val (.int p0), .val (.int p1), .val (.int p2), .val (.int p3), .val .null, .val (.ref c7), .val (.ref c13), .val (.ref c14), .val (.ref b15), .val (.int (0 : Int32))] [(.int (1 : Int32))]))
    refine own_go (fun t k => XS.goto X23.here hx rfl (pc0 := 135) (pc' := 139) rfl (hb hby at_135) (by decide) (by decide) k) ?_
    show own_Go p e below _ (T23.setTop (mkF m 139 #[.val (.int p0), .val (.int p1), .val (.int p2), .val (.int p3), .val .null, .val (.ref c7), .val (.ref c13), .val (.ref c14), .val (.ref b15), .val (.int (0 : Int32))] [(.int (1 : Int32))]))
    have hF : CHr Z own_EL s.vm s.heap T23.vm T23.heap := by rw [hh, e23]; exact hR22.trans (CHv.at X23 hZ8 hEL hC22)
    exact own_retNH X23 hx (t := .boolean) Bd.returns (by simp) (hb hby at_139) hS8 (by rw [e23]; exact hk22) (⟨rfl, N23⟩) (hF) (by decide) (by decide)
  · show own_Go p e below _ (T1.setTop (mkF m 7 #[.val (.int p0), .val (.int p1), .val (.int p2), .val (.int p3), .unset, .unset, .unset, .unset, .unset, .unset] [(.ref a_w1)]))
    refine own_go (fun t k => XS.astore X1.here hx rfl (hb hby at_7) rfl rfl (l' := #[.val (.int p0), .val (.int p1), .val (.int p2), .val (.int p3), .val (.ref a_w1), .unset, .unset, .unset, .unset, .unset]) rfl k) ?_
    show own_Go p e below _ (T1.setTop (mkF m 9 #[.val (.int p0), .val (.int p1), .val (.int p2), .val (.int p3), .val (.ref a_w1), .unset, .unset, .unset, .unset, .unset] []))
    obtain ⟨s24, T24, h24, j24, c24, kc24, X24, e24, E24, hS24, hk24, hZ24, hown24, Es24, Fc24, Fv24, Ab24, -, -, hC24, -, hne24, st24⟩ := ldcCH X1 hx hZ1 hown1 (hw _ (List.mem_of_getElem? (i := 4) rfl)) (own_wS hw) rfl hS1 hk1 hEL (List.mem_of_getElem? (i := 0) rfl) hD1 (vs := [(.int (86 : Int32)), (.int (69 : Int32)), (.int (86 : Int32)), (.int (69 : Int32)), (.int (78 : Int32)), (.int (84 : Int32))]) (z := (6 : Int32)) ⟨by decide, by decide +kernel⟩ (by decide) rfl (g := (mkF m 9 #[.val (.int p0), .val (.int p1), .val (.int p2), .val (.int p3), .val (.ref a_w1), .unset, .unset, .unset, .unset, .unset] [])) rfl (hb hby at_9) (n := 24) (by decide) (by decide) (by decide) (by decide)
    have XO__24 := XO__1.ext E24
    have hR24 := hR1.trans hC24
    have hD24 := hR24.1
    have sz24 := Nat.le_trans sz1 E24.1
    have KP24 := KP1.ext E24
    refine own_go (fun t k => st24 t k) ?_
    show own_Go p e below _ (T24.setTop (mkF m 11 #[.val (.int p0), .val (.int p1), .val (.int p2), .val (.int p3), .val (.ref a_w1), .unset, .unset, .unset, .unset, .unset] [(.ref s24)]))
    obtain ⟨T25, h25, X25, e25, E25, A25, D25, -, st25⟩ := newO X24 hx hZ24 hown24 (hw _ (List.mem_of_getElem? (i := 12) rfl)) (hw _ (List.mem_of_getElem? (i := 13) rfl)) (hw _ (List.mem_of_getElem? (i := 14) rfl)) e24 (g := (mkF m 11 #[.val (.int p0), .val (.int p1), .val (.int p2), .val (.int p3), .val (.ref a_w1), .unset, .unset, .unset, .unset, .unset] [(.ref s24)])) rfl (hb hby at_11) (by decide) (by decide)
    obtain ⟨b25, g25⟩ : ∃ z, z = h24.size := ⟨_, rfl⟩
    rw [← g25] at A25 D25 st25
    have g_b25 : n0 ≤ b25 := Nat.le_trans sz24 (Nat.le_of_eq g25.symm)
    have sz_b25 : h0.size ≤ b25 := Nat.le_trans KP24.1 (Nat.le_of_eq g25.symm)
    have ne_s24_b25 : s24 ≠ b25 := Nat.ne_of_lt (Nat.lt_of_lt_of_le Es24.lt (Nat.le_of_eq g25.symm))
    have ne_c24_b25 : c24 ≠ b25 := Nat.ne_of_lt (Nat.lt_of_lt_of_le Ab24.lt (Nat.le_of_eq g25.symm))
    have XO__25 := XO__24.ext E25
    have Es24__25 := Es24.ext E25
    have Fc24__25 := Fc24.ext E25
    have Fv24__25 := Fv24.ext E25
    have Ab24__25 := Ab24.ext E25
    have hR25 := hR24.trans (CHr.ext E25 hD24)
    have hC25 := hR25.1
    have sz25 := Nat.le_trans sz24 E25.1
    have KP25 := KP24.ext E25
    have hk25 := Nat.le_trans hk24 E25.1
    have F25_modCount : Fld Z h25 b25 "java/util/AbstractList" "modCount" "I" (.int (0 : Int32)) := D25 (Or.inl (hw _ (List.mem_of_getElem? (i := 34) rfl))) (ty := .int) (by decide)
    have F25_elementData : Fld Z h25 b25 "java/util/ArrayList" "elementData" "[Ljava/lang/Object;" .null := D25 (Or.inl (hw _ (List.mem_of_getElem? (i := 37) rfl))) (ty := (.array (.object "java/lang/Object"))) (by decide)
    have F25_size : Fld Z h25 b25 "java/util/ArrayList" "size" "I" (.int (0 : Int32)) := D25 (Or.inl (hw _ (List.mem_of_getElem? (i := 77) rfl))) (ty := .int) (by decide)
    refine own_go (fun t k => st25 t k) ?_
    show own_Go p e below _ (T25.setTop (mkF m 14 #[.val (.int p0), .val (.int p1), .val (.int p2), .val (.int p3), .val (.ref a_w1), .unset, .unset, .unset, .unset, .unset] [(.ref b25), (.ref s24)]))
    refine own_go (fun t k => XS.dup X25.here hx rfl (hb hby at_14) rfl rfl k) ?_
    show own_Go p e below _ (T25.setTop (mkF m 15 #[.val (.int p0), .val (.int p1), .val (.int p2), .val (.int p3), .val (.ref a_w1), .unset, .unset, .unset, .unset, .unset] [(.ref b25), (.ref b25), (.ref s24)]))
    obtain ⟨_, _, ⟨T26, L26, k26, n26⟩, -, X26, ⟨Lc26, hQ26, l26, y26, z26⟩, st26⟩ := X25.specialBack hx (y := (⟨"java/util/ArrayList", "<init>", "()V"⟩ : MethodName)) rfl hown24 (mvT hZ24 (hw _ (List.mem_of_getElem? (i := 15) rfl))) (mvT hZ24 (hw _ (List.mem_of_getElem? (i := 16) rfl))) (mvT hZ24 (hw _ (List.mem_of_getElem? (i := 17) rfl))) (by decide) (backOf (W := 2) (rm3 l Z a0 hw [] b25 de mr es kde h25 n0 sz25 ⟨A25, F25_modCount, F25_elementData, F25_size⟩ g_b25 XO__25 WW) hZ24 (hw _ (List.mem_of_getElem? (i := 17) rfl)) (hw _ (List.mem_of_getElem? (i := 14) rfl)) (by decide) (by decide)) (g := (mkF m 15 #[.val (.int p0), .val (.int p1), .val (.int p2), .val (.int p3), .val (.ref a_w1), .unset, .unset, .unset, .unset, .unset] [(.ref b25), (.ref b25), (.ref s24)])) rfl (by rw [hml]; rfl) (Steps.refl _) (a := b25) (argsL := []) (rest := [(.ref b25), (.ref s24)]) (lenOf pd0_1 rfl) rfl (by show 2 * 0 + _ ≤ _; exact Nat.le_of_eq rfl) (hb hby at_15) (fun _ _ => ⟨rfl, e25, (by decide : 0 + 6 + 2 + 1 + 0 ≤ _), (by decide : 0 + 28 + (24 + 4) + 3 + 0 ≤ _)⟩)
    dsimp only [Pt.U, Pt.locs, Pt.cells, Pt.slots] at X26 l26 y26 z26 st26 hQ26
    subst l26 y26 z26
    obtain ⟨rfl, Nq26, K26, G26⟩ := hQ26
    have N26 := Fr.app N1 Nq26
    refine own_go (fun t k => st26.trans k) ?_
    have XO__26 := XO__25.keep K26 (allS g_b25 all0)
    have Es24__26 := Es24__25.keep K26
    have Fc24__26 := Fc24__25.keep K26 (ninS ne_s24_b25 nin0)
    have Fv24__26 := Fv24__25.keep K26 (ninS ne_s24_b25 nin0)
    have Ab24__26 := Ab24__25.keep K26 (ninS ne_c24_b25 nin0)
    have A25__26 := A25.keep K26
    have hR26 := hR25.trans (CHr.keep K26 (show ∀ y ∈ ([b25] : List Addr), Safe Z own_EL T24.vm h25 y from (sfS (Safe.exa hZ24.alike A25 (by decide) (by decide)) sf0)) hC25)
    have hC26 := hR26.1
    have KP26 := KP25.trans K26 (allS (Or.inr sz_b25) all0)
    have sz26 := Nat.le_trans sz25 K26.1
    have hk26 := Nat.le_trans hk25 K26.1
    show own_Go p e below _ (T26.setTop (mkF m 18 #[.val (.int p0), .val (.int p1), .val (.int p2), .val (.int p3), .val (.ref a_w1), .unset, .unset, .unset, .unset, .unset] [(.ref b25), (.ref s24)]))
    obtain ⟨T27, h27, X27, e27, E27, A27, D27, -, st27⟩ := newO X26 hx hZ24 hown24 (hw _ (List.mem_of_getElem? (i := 12) rfl)) (hw _ (List.mem_of_getElem? (i := 13) rfl)) (hw _ (List.mem_of_getElem? (i := 14) rfl)) rfl (g := (mkF m 18 #[.val (.int p0), .val (.int p1), .val (.int p2), .val (.int p3), .val (.ref a_w1), .unset, .unset, .unset, .unset, .unset] [(.ref b25), (.ref s24)])) rfl (hb hby at_18) (by decide) (by decide)
    obtain ⟨b27, g27⟩ : ∃ z, z = T26.heap.size := ⟨_, rfl⟩
    rw [← g27] at A27 D27 st27
    have g_b27 : n0 ≤ b27 := Nat.le_trans sz26 (Nat.le_of_eq g27.symm)
    have sz_b27 : h0.size ≤ b27 := Nat.le_trans KP26.1 (Nat.le_of_eq g27.symm)
    have ne_s24_b27 : s24 ≠ b27 := Nat.ne_of_lt (Nat.lt_of_lt_of_le Es24__26.lt (Nat.le_of_eq g27.symm))
    have ne_c24_b27 : c24 ≠ b27 := Nat.ne_of_lt (Nat.lt_of_lt_of_le Ab24__26.lt (Nat.le_of_eq g27.symm))
    have ne_b25_b27 : b25 ≠ b27 := Nat.ne_of_lt (Nat.lt_of_lt_of_le G26.1.lt (Nat.le_of_eq g27.symm))
    have XO__27 := XO__26.ext E27
    have Es24__27 := Es24__26.ext E27
    have Fc24__27 := Fc24__26.ext E27
    have Fv24__27 := Fv24__26.ext E27
    have Ab24__27 := Ab24__26.ext E27
    have G26__27 := G26.ext E27
    have hR27 := hR26.trans (CHr.ext E27 hC26)
    have hC27 := hR27.1
    have sz27 := Nat.le_trans sz26 E27.1
    have KP27 := KP26.ext E27
    have hk27 := Nat.le_trans hk26 E27.1
    have F27_modCount : Fld Z h27 b27 "java/util/AbstractList" "modCount" "I" (.int (0 : Int32)) := D27 (Or.inl (hw _ (List.mem_of_getElem? (i := 34) rfl))) (ty := .int) (by decide)
    have F27_elementData : Fld Z h27 b27 "java/util/ArrayList" "elementData" "[Ljava/lang/Object;" .null := D27 (Or.inl (hw _ (List.mem_of_getElem? (i := 37) rfl))) (ty := (.array (.object "java/lang/Object"))) (by decide)
    have F27_size : Fld Z h27 b27 "java/util/ArrayList" "size" "I" (.int (0 : Int32)) := D27 (Or.inl (hw _ (List.mem_of_getElem? (i := 77) rfl))) (ty := .int) (by decide)
    refine own_go (fun t k => st27 t k) ?_
    show own_Go p e below _ (T27.setTop (mkF m 21 #[.val (.int p0), .val (.int p1), .val (.int p2), .val (.int p3), .val (.ref a_w1), .unset, .unset, .unset, .unset, .unset] [(.ref b27), (.ref b25), (.ref s24)]))
    refine own_go (fun t k => XS.dup X27.here hx rfl (hb hby at_21) rfl rfl k) ?_
    show own_Go p e below _ (T27.setTop (mkF m 22 #[.val (.int p0), .val (.int p1), .val (.int p2), .val (.int p3), .val (.ref a_w1), .unset, .unset, .unset, .unset, .unset] [(.ref b27), (.ref b27), (.ref b25), (.ref s24)]))
    obtain ⟨_, _, ⟨T28, L28, k28, n28⟩, -, X28, ⟨Lc28, hQ28, l28, y28, z28⟩, st28⟩ := X27.specialBack hx (y := (⟨"java/util/ArrayList", "<init>", "()V"⟩ : MethodName)) rfl hown24 (mvT hZ24 (hw _ (List.mem_of_getElem? (i := 15) rfl))) (mvT hZ24 (hw _ (List.mem_of_getElem? (i := 16) rfl))) (mvT hZ24 (hw _ (List.mem_of_getElem? (i := 17) rfl))) (by decide) (backOf (W := 3) (rm3 l Z a0 hw [] b27 de mr es kde h27 n0 sz27 ⟨A27, F27_modCount, F27_elementData, F27_size⟩ g_b27 XO__27 WW) hZ24 (hw _ (List.mem_of_getElem? (i := 17) rfl)) (hw _ (List.mem_of_getElem? (i := 14) rfl)) (by decide) (by decide)) (g := (mkF m 22 #[.val (.int p0), .val (.int p1), .val (.int p2), .val (.int p3), .val (.ref a_w1), .unset, .unset, .unset, .unset, .unset] [(.ref b27), (.ref b27), (.ref b25), (.ref s24)])) rfl (by rw [hml]; rfl) (Steps.refl _) (a := b27) (argsL := []) (rest := [(.ref b27), (.ref b25), (.ref s24)]) (lenOf pd0_1 rfl) rfl (by show 2 * 0 + _ ≤ _; exact Nat.le_of_eq rfl) (hb hby at_22) (fun _ _ => ⟨rfl, e27, (by decide : 0 + 6 + 2 + 1 + 1 + 0 ≤ _), (by decide : 0 + 28 + (24 + 4) + 3 + 3 + 0 ≤ _)⟩)
    dsimp only [Pt.U, Pt.locs, Pt.cells, Pt.slots] at X28 l28 y28 z28 st28 hQ28
    subst l28 y28 z28
    obtain ⟨rfl, Nq28, K28, G28⟩ := hQ28
    have N28 := Fr.app N26 Nq28
    refine own_go (fun t k => st28.trans k) ?_
    have XO__28 := XO__27.keep K28 (allS g_b27 all0)
    have Es24__28 := Es24__27.keep K28
    have Fc24__28 := Fc24__27.keep K28 (ninS ne_s24_b27 nin0)
    have Fv24__28 := Fv24__27.keep K28 (ninS ne_s24_b27 nin0)
    have Ab24__28 := Ab24__27.keep K28 (ninS ne_c24_b27 nin0)
    have G26__28 := G26__27.keep K28 (ninS ne_b25_b27 nin0)
    have A27__28 := A27.keep K28
    have hR28 := hR27.trans (CHr.keep K28 (show ∀ y ∈ ([b27] : List Addr), Safe Z own_EL T24.vm h27 y from (sfS (Safe.exa hZ24.alike A27 (by decide) (by decide)) sf0)) hC27)
    have hC28 := hR28.1
    have KP28 := KP27.trans K28 (allS (Or.inr sz_b27) all0)
    have sz28 := Nat.le_trans sz27 K28.1
    have hk28 := Nat.le_trans hk27 K28.1
    show own_Go p e below _ (T28.setTop (mkF m 25 #[.val (.int p0), .val (.int p1), .val (.int p2), .val (.int p3), .val (.ref a_w1), .unset, .unset, .unset, .unset, .unset] [(.ref b27), (.ref b25), (.ref s24)]))
    obtain ⟨_, _, ⟨T29, L29, k29, n29⟩, -, X29, ⟨Lc29, hQ29, l29, y29, z29⟩, st29⟩ := Jvm.LawKit.callS X28 hx (y := (⟨"com/example/convoke/convoke/icalendar/Component", "of", "(Ljava/lang/String;Ljava/util/List;Ljava/util/List;)Lcom/example/convoke/convoke/icalendar/Component;"⟩ : MethodName)) hown24 (mvT hZ24 (hw _ (List.mem_of_getElem? (i := 38) rfl))) (mvT hZ24 (hw _ (List.mem_of_getElem? (i := 39) rfl))) (mvT hZ24 (hw _ (List.mem_of_getElem? (i := 40) rfl))) (mvT hZ24 (hw _ (List.mem_of_getElem? (i := 41) rfl))) (by decide) (backOf (W := 0) (rm10 l Z a0 hw [] (.ref s24) b25 b27 de mr es kde T28.heap n0 sz28 rfl G26__28 G28 XO__28 WW) hZ24 (hw _ (List.mem_of_getElem? (i := 41) rfl)) (hw _ (List.mem_of_getElem? (i := 40) rfl)) (by decide) (by decide)) (g := (mkF m 25 #[.val (.int p0), .val (.int p1), .val (.int p2), .val (.int p3), .val (.ref a_w1), .unset, .unset, .unset, .unset, .unset] [(.ref b27), (.ref b25), (.ref s24)])) rfl (by rw [hml]; rfl) (argsL := [(.ref s24), (.ref b25), (.ref b27)]) (rest := []) (lenOf pd0_2 rfl) rfl (by show 2 * 0 + _ ≤ _; exact Nat.le_of_eq rfl) (hb hby at_25) (fun _ _ => ⟨rfl, rfl, (by decide : 0 + 6 + 2 + 1 + 1 + 5 ≤ _), (by decide : 0 + 28 + (24 + 4) + 3 + 3 + 12 ≤ _)⟩)
    dsimp only [Pt.U, Pt.locs, Pt.cells, Pt.slots] at X29 l29 y29 z29 st29 hQ29
    subst l29 y29 z29
    obtain ⟨c29, rfl, Nq29, K29, ge29⟩ := hQ29
    have N29 := Fr.app N28 Nq29
    refine own_go (fun t k => st29 t k) ?_
    have g_c29 : n0 ≤ c29 := Nat.le_trans sz28 ge29
    have sz_c29 : h0.size ≤ c29 := Nat.le_trans KP28.1 ge29
    have ne_s24_c29 : s24 ≠ c29 := Nat.ne_of_lt (Nat.lt_of_lt_of_le Es24__28.lt ge29)
    have ne_c24_c29 : c24 ≠ c29 := Nat.ne_of_lt (Nat.lt_of_lt_of_le Ab24__28.lt ge29)
    have ne_b25_c29 : b25 ≠ c29 := Nat.ne_of_lt (Nat.lt_of_lt_of_le G26__28.1.lt ge29)
    have ne_b27_c29 : b27 ≠ c29 := Nat.ne_of_lt (Nat.lt_of_lt_of_le G28.1.lt ge29)
    have XO__29 := XO__28.keep K29 all0
    have Es24__29 := Es24__28.keep K29
    have Fc24__29 := Fc24__28.keep K29 nin0
    have Fv24__29 := Fv24__28.keep K29 nin0
    have Ab24__29 := Ab24__28.keep K29 nin0
    have G26__29 := G26__28.keep K29 nin0
    have G28__29 := G28.keep K29 nin0
    have hR29 := hR28.trans (CHr.keep K29 (show ∀ y ∈ ([] : List Addr), Safe Z own_EL T24.vm T28.heap y from sf0) hC28)
    have hC29 := hR29.1
    have KP29 := KP28.trans K29 all0
    have sz29 := Nat.le_trans sz28 K29.1
    have hk29 := Nat.le_trans hk28 K29.1
    show own_Go p e below _ (T29.setTop (mkF m 28 #[.val (.int p0), .val (.int p1), .val (.int p2), .val (.int p3), .val (.ref a_w1), .unset, .unset, .unset, .unset, .unset] [(.ref c29)]))
    refine own_go (fun t k => XS.astore X29.here hx rfl (hb hby at_28) rfl rfl (l' := #[.val (.int p0), .val (.int p1), .val (.int p2), .val (.int p3), .val (.ref a_w1), .val (.ref c29), .unset, .unset, .unset, .unset]) rfl k) ?_
    show own_Go p e below _ (T29.setTop (mkF m 30 #[.val (.int p0), .val (.int p1), .val (.int p2), .val (.int p3), .val (.ref a_w1), .val (.ref c29), .unset, .unset, .unset, .unset] []))
    obtain ⟨s30, T30, h30, j30, c30, kc30, X30, e30, E30, hS30, hk30, hZ30, hown30, Es30, Fc30, Fv30, Ab30, -, -, hC30, -, hne30, st30⟩ := ldcCH X29 hx hZ24 hown24 (hw _ (List.mem_of_getElem? (i := 104) rfl)) (own_wS hw) rfl hS24 hk29 hEL (List.mem_of_getElem? (i := 1) rfl) hC29 (vs := [(.int (86 : Int32)), (.int (84 : Int32)), (.int (79 : Int32)), (.int (68 : Int32)), (.int (79 : Int32))]) (z := (5 : Int32)) ⟨by decide, by decide +kernel⟩ (by decide) rfl (g := (mkF m 30 #[.val (.int p0), .val (.int p1), .val (.int p2), .val (.int p3), .val (.ref a_w1), .val (.ref c29), .unset, .unset, .unset, .unset] [])) rfl (hb hby at_30) (n := 20) (by decide) (by decide) (by decide) (by decide)
    have XO__30 := XO__29.ext E30
    have Es24__30 := Es24__29.ext E30
    have Fc24__30 := Fc24__29.ext E30
    have Fv24__30 := Fv24__29.ext E30
    have Ab24__30 := Ab24__29.ext E30
    have G26__30 := G26__29.ext E30
    have G28__30 := G28__29.ext E30
    have hR30 := hR29.trans hC30
    have hD30 := hR30.1
    have sz30 := Nat.le_trans sz29 E30.1
    have KP30 := KP29.ext E30
    refine own_go (fun t k => st30 t k) ?_
    show own_Go p e below _ (T30.setTop (mkF m 32 #[.val (.int p0), .val (.int p1), .val (.int p2), .val (.int p3), .val (.ref a_w1), .val (.ref c29), .unset, .unset, .unset, .unset] [(.ref s30)]))
    obtain ⟨T31, h31, X31, e31, E31, A31, D31, -, st31⟩ := newO X30 hx hZ30 hown30 (hw _ (List.mem_of_getElem? (i := 12) rfl)) (hw _ (List.mem_of_getElem? (i := 13) rfl)) (hw _ (List.mem_of_getElem? (i := 14) rfl)) e30 (g := (mkF m 32 #[.val (.int p0), .val (.int p1), .val (.int p2), .val (.int p3), .val (.ref a_w1), .val (.ref c29), .unset, .unset, .unset, .unset] [(.ref s30)])) rfl (hb hby at_32) (by decide) (by decide)
    obtain ⟨b31, g31⟩ : ∃ z, z = h30.size := ⟨_, rfl⟩
    rw [← g31] at A31 D31 st31
    have g_b31 : n0 ≤ b31 := Nat.le_trans sz30 (Nat.le_of_eq g31.symm)
    have sz_b31 : h0.size ≤ b31 := Nat.le_trans KP30.1 (Nat.le_of_eq g31.symm)
    have ne_s24_b31 : s24 ≠ b31 := Nat.ne_of_lt (Nat.lt_of_lt_of_le Es24__30.lt (Nat.le_of_eq g31.symm))
    have ne_c24_b31 : c24 ≠ b31 := Nat.ne_of_lt (Nat.lt_of_lt_of_le Ab24__30.lt (Nat.le_of_eq g31.symm))
    have ne_b25_b31 : b25 ≠ b31 := Nat.ne_of_lt (Nat.lt_of_lt_of_le G26__30.1.lt (Nat.le_of_eq g31.symm))
    have ne_b27_b31 : b27 ≠ b31 := Nat.ne_of_lt (Nat.lt_of_lt_of_le G28__30.1.lt (Nat.le_of_eq g31.symm))
    have ne_s30_b31 : s30 ≠ b31 := Nat.ne_of_lt (Nat.lt_of_lt_of_le Es30.lt (Nat.le_of_eq g31.symm))
    have ne_c30_b31 : c30 ≠ b31 := Nat.ne_of_lt (Nat.lt_of_lt_of_le Ab30.lt (Nat.le_of_eq g31.symm))
    have XO__31 := XO__30.ext E31
    have Es24__31 := Es24__30.ext E31
    have Fc24__31 := Fc24__30.ext E31
    have Fv24__31 := Fv24__30.ext E31
    have Ab24__31 := Ab24__30.ext E31
    have G26__31 := G26__30.ext E31
    have G28__31 := G28__30.ext E31
    have Es30__31 := Es30.ext E31
    have Fc30__31 := Fc30.ext E31
    have Fv30__31 := Fv30.ext E31
    have Ab30__31 := Ab30.ext E31
    have hR31 := hR30.trans (CHr.ext E31 hD30)
    have hC31 := hR31.1
    have sz31 := Nat.le_trans sz30 E31.1
    have KP31 := KP30.ext E31
    have hk31 := Nat.le_trans hk30 E31.1
    have F31_modCount : Fld Z h31 b31 "java/util/AbstractList" "modCount" "I" (.int (0 : Int32)) := D31 (Or.inl (hw _ (List.mem_of_getElem? (i := 34) rfl))) (ty := .int) (by decide)
    have F31_elementData : Fld Z h31 b31 "java/util/ArrayList" "elementData" "[Ljava/lang/Object;" .null := D31 (Or.inl (hw _ (List.mem_of_getElem? (i := 37) rfl))) (ty := (.array (.object "java/lang/Object"))) (by decide)
    have F31_size : Fld Z h31 b31 "java/util/ArrayList" "size" "I" (.int (0 : Int32)) := D31 (Or.inl (hw _ (List.mem_of_getElem? (i := 77) rfl))) (ty := .int) (by decide)
    refine own_go (fun t k => st31 t k) ?_
    show own_Go p e below _ (T31.setTop (mkF m 35 #[.val (.int p0), .val (.int p1), .val (.int p2), .val (.int p3), .val (.ref a_w1), .val (.ref c29), .unset, .unset, .unset, .unset] [(.ref b31), (.ref s30)]))
    refine own_go (fun t k => XS.dup X31.here hx rfl (hb hby at_35) rfl rfl k) ?_
    show own_Go p e below _ (T31.setTop (mkF m 36 #[.val (.int p0), .val (.int p1), .val (.int p2), .val (.int p3), .val (.ref a_w1), .val (.ref c29), .unset, .unset, .unset, .unset] [(.ref b31), (.ref b31), (.ref s30)]))
    obtain ⟨_, _, ⟨T32, L32, k32, n32⟩, -, X32, ⟨Lc32, hQ32, l32, y32, z32⟩, st32⟩ := X31.specialBack hx (y := (⟨"java/util/ArrayList", "<init>", "()V"⟩ : MethodName)) rfl hown30 (mvT hZ30 (hw _ (List.mem_of_getElem? (i := 15) rfl))) (mvT hZ30 (hw _ (List.mem_of_getElem? (i := 16) rfl))) (mvT hZ30 (hw _ (List.mem_of_getElem? (i := 17) rfl))) (by decide) (backOf (W := 2) (rm3 l Z a0 hw [] b31 de mr es kde h31 n0 sz31 ⟨A31, F31_modCount, F31_elementData, F31_size⟩ g_b31 XO__31 WW) hZ30 (hw _ (List.mem_of_getElem? (i := 17) rfl)) (hw _ (List.mem_of_getElem? (i := 14) rfl)) (by decide) (by decide)) (g := (mkF m 36 #[.val (.int p0), .val (.int p1), .val (.int p2), .val (.int p3), .val (.ref a_w1), .val (.ref c29), .unset, .unset, .unset, .unset] [(.ref b31), (.ref b31), (.ref s30)])) rfl (by rw [hml]; rfl) (Steps.refl _) (a := b31) (argsL := []) (rest := [(.ref b31), (.ref s30)]) (lenOf pd0_1 rfl) rfl (by show 2 * 0 + _ ≤ _; exact Nat.le_of_eq rfl) (hb hby at_36) (fun _ _ => ⟨rfl, e31, (by decide : 0 + 6 + 2 + 1 + 1 + 5 + 2 + 1 + 0 ≤ _), (by decide : 0 + 28 + (24 + 4) + 3 + 3 + 12 + (20 + 4) + 3 + 0 ≤ _)⟩)
    dsimp only [Pt.U, Pt.locs, Pt.cells, Pt.slots] at X32 l32 y32 z32 st32 hQ32
    subst l32 y32 z32
    obtain ⟨rfl, Nq32, K32, G32⟩ := hQ32
    have N32 := Fr.app N29 Nq32
    refine own_go (fun t k => st32.trans k) ?_
    have XO__32 := XO__31.keep K32 (allS g_b31 all0)
    have Es24__32 := Es24__31.keep K32
    have Fc24__32 := Fc24__31.keep K32 (ninS ne_s24_b31 nin0)
    have Fv24__32 := Fv24__31.keep K32 (ninS ne_s24_b31 nin0)
    have Ab24__32 := Ab24__31.keep K32 (ninS ne_c24_b31 nin0)
    have G26__32 := G26__31.keep K32 (ninS ne_b25_b31 nin0)
    have G28__32 := G28__31.keep K32 (ninS ne_b27_b31 nin0)
    have Es30__32 := Es30__31.keep K32
    have Fc30__32 := Fc30__31.keep K32 (ninS ne_s30_b31 nin0)
    have Fv30__32 := Fv30__31.keep K32 (ninS ne_s30_b31 nin0)
    have Ab30__32 := Ab30__31.keep K32 (ninS ne_c30_b31 nin0)
    have A31__32 := A31.keep K32
    have hR32 := hR31.trans (CHr.keep K32 (show ∀ y ∈ ([b31] : List Addr), Safe Z own_EL T30.vm h31 y from (sfS (Safe.exa hZ30.alike A31 (by decide) (by decide)) sf0)) hC31)
    have hC32 := hR32.1
    have KP32 := KP31.trans K32 (allS (Or.inr sz_b31) all0)
    have sz32 := Nat.le_trans sz31 K32.1
    have hk32 := Nat.le_trans hk31 K32.1
    show own_Go p e below _ (T32.setTop (mkF m 39 #[.val (.int p0), .val (.int p1), .val (.int p2), .val (.int p3), .val (.ref a_w1), .val (.ref c29), .unset, .unset, .unset, .unset] [(.ref b31), (.ref s30)]))
    obtain ⟨T33, h33, X33, e33, E33, A33, D33, -, st33⟩ := newO X32 hx hZ30 hown30 (hw _ (List.mem_of_getElem? (i := 12) rfl)) (hw _ (List.mem_of_getElem? (i := 13) rfl)) (hw _ (List.mem_of_getElem? (i := 14) rfl)) rfl (g := (mkF m 39 #[.val (.int p0), .val (.int p1), .val (.int p2), .val (.int p3), .val (.ref a_w1), .val (.ref c29), .unset, .unset, .unset, .unset] [(.ref b31), (.ref s30)])) rfl (hb hby at_39) (by decide) (by decide)
    obtain ⟨b33, g33⟩ : ∃ z, z = T32.heap.size := ⟨_, rfl⟩
    rw [← g33] at A33 D33 st33
    have g_b33 : n0 ≤ b33 := Nat.le_trans sz32 (Nat.le_of_eq g33.symm)
    have sz_b33 : h0.size ≤ b33 := Nat.le_trans KP32.1 (Nat.le_of_eq g33.symm)
    have ne_s24_b33 : s24 ≠ b33 := Nat.ne_of_lt (Nat.lt_of_lt_of_le Es24__32.lt (Nat.le_of_eq g33.symm))
    have ne_c24_b33 : c24 ≠ b33 := Nat.ne_of_lt (Nat.lt_of_lt_of_le Ab24__32.lt (Nat.le_of_eq g33.symm))
    have ne_b25_b33 : b25 ≠ b33 := Nat.ne_of_lt (Nat.lt_of_lt_of_le G26__32.1.lt (Nat.le_of_eq g33.symm))
    have ne_b27_b33 : b27 ≠ b33 := Nat.ne_of_lt (Nat.lt_of_lt_of_le G28__32.1.lt (Nat.le_of_eq g33.symm))
    have ne_s30_b33 : s30 ≠ b33 := Nat.ne_of_lt (Nat.lt_of_lt_of_le Es30__32.lt (Nat.le_of_eq g33.symm))
    have ne_c30_b33 : c30 ≠ b33 := Nat.ne_of_lt (Nat.lt_of_lt_of_le Ab30__32.lt (Nat.le_of_eq g33.symm))
    have ne_b31_b33 : b31 ≠ b33 := Nat.ne_of_lt (Nat.lt_of_lt_of_le G32.1.lt (Nat.le_of_eq g33.symm))
    have XO__33 := XO__32.ext E33
    have Es24__33 := Es24__32.ext E33
    have Fc24__33 := Fc24__32.ext E33
    have Fv24__33 := Fv24__32.ext E33
    have Ab24__33 := Ab24__32.ext E33
    have G26__33 := G26__32.ext E33
    have G28__33 := G28__32.ext E33
    have Es30__33 := Es30__32.ext E33
    have Fc30__33 := Fc30__32.ext E33
    have Fv30__33 := Fv30__32.ext E33
    have Ab30__33 := Ab30__32.ext E33
    have G32__33 := G32.ext E33
    have hR33 := hR32.trans (CHr.ext E33 hC32)
    have hC33 := hR33.1
    have sz33 := Nat.le_trans sz32 E33.1
    have KP33 := KP32.ext E33
    have hk33 := Nat.le_trans hk32 E33.1
    have F33_modCount : Fld Z h33 b33 "java/util/AbstractList" "modCount" "I" (.int (0 : Int32)) := D33 (Or.inl (hw _ (List.mem_of_getElem? (i := 34) rfl))) (ty := .int) (by decide)
    have F33_elementData : Fld Z h33 b33 "java/util/ArrayList" "elementData" "[Ljava/lang/Object;" .null := D33 (Or.inl (hw _ (List.mem_of_getElem? (i := 37) rfl))) (ty := (.array (.object "java/lang/Object"))) (by decide)
    have F33_size : Fld Z h33 b33 "java/util/ArrayList" "size" "I" (.int (0 : Int32)) := D33 (Or.inl (hw _ (List.mem_of_getElem? (i := 77) rfl))) (ty := .int) (by decide)
    refine own_go (fun t k => st33 t k) ?_
    show own_Go p e below _ (T33.setTop (mkF m 42 #[.val (.int p0), .val (.int p1), .val (.int p2), .val (.int p3), .val (.ref a_w1), .val (.ref c29), .unset, .unset, .unset, .unset] [(.ref b33), (.ref b31), (.ref s30)]))
    refine own_go (fun t k => XS.dup X33.here hx rfl (hb hby at_42) rfl rfl k) ?_
    show own_Go p e below _ (T33.setTop (mkF m 43 #[.val (.int p0), .val (.int p1), .val (.int p2), .val (.int p3), .val (.ref a_w1), .val (.ref c29), .unset, .unset, .unset, .unset] [(.ref b33), (.ref b33), (.ref b31), (.ref s30)]))
    obtain ⟨_, _, ⟨T34, L34, k34, n34⟩, -, X34, ⟨Lc34, hQ34, l34, y34, z34⟩, st34⟩ := X33.specialBack hx (y := (⟨"java/util/ArrayList", "<init>", "()V"⟩ : MethodName)) rfl hown30 (mvT hZ30 (hw _ (List.mem_of_getElem? (i := 15) rfl))) (mvT hZ30 (hw _ (List.mem_of_getElem? (i := 16) rfl))) (mvT hZ30 (hw _ (List.mem_of_getElem? (i := 17) rfl))) (by decide) (backOf (W := 3) (rm3 l Z a0 hw [] b33 de mr es kde h33 n0 sz33 ⟨A33, F33_modCount, F33_elementData, F33_size⟩ g_b33 XO__33 WW) hZ30 (hw _ (List.mem_of_getElem? (i := 17) rfl)) (hw _ (List.mem_of_getElem? (i := 14) rfl)) (by decide) (by decide)) (g := (mkF m 43 #[.val (.int p0), .val (.int p1), .val (.int p2), .val (.int p3), .val (.ref a_w1), .val (.ref c29), .unset, .unset, .unset, .unset] [(.ref b33), (.ref b33), (.ref b31), (.ref s30)])) rfl (by rw [hml]; rfl) (Steps.refl _) (a := b33) (argsL := []) (rest := [(.ref b33), (.ref b31), (.ref s30)]) (lenOf pd0_1 rfl) rfl (by show 2 * 0 + _ ≤ _; exact Nat.le_of_eq rfl) (hb hby at_43) (fun _ _ => ⟨rfl, e33, (by decide : 0 + 6 + 2 + 1 + 1 + 5 + 2 + 1 + 1 + 0 ≤ _), (by decide : 0 + 28 + (24 + 4) + 3 + 3 + 12 + (20 + 4) + 3 + 3 + 0 ≤ _)⟩)
    dsimp only [Pt.U, Pt.locs, Pt.cells, Pt.slots] at X34 l34 y34 z34 st34 hQ34
    subst l34 y34 z34
    obtain ⟨rfl, Nq34, K34, G34⟩ := hQ34
    have N34 := Fr.app N32 Nq34
    refine own_go (fun t k => st34.trans k) ?_
    have XO__34 := XO__33.keep K34 (allS g_b33 all0)
    have Es24__34 := Es24__33.keep K34
    have Fc24__34 := Fc24__33.keep K34 (ninS ne_s24_b33 nin0)
    have Fv24__34 := Fv24__33.keep K34 (ninS ne_s24_b33 nin0)
    have Ab24__34 := Ab24__33.keep K34 (ninS ne_c24_b33 nin0)
    have G26__34 := G26__33.keep K34 (ninS ne_b25_b33 nin0)
    have G28__34 := G28__33.keep K34 (ninS ne_b27_b33 nin0)
    have Es30__34 := Es30__33.keep K34
    have Fc30__34 := Fc30__33.keep K34 (ninS ne_s30_b33 nin0)
    have Fv30__34 := Fv30__33.keep K34 (ninS ne_s30_b33 nin0)
    have Ab30__34 := Ab30__33.keep K34 (ninS ne_c30_b33 nin0)
    have G32__34 := G32__33.keep K34 (ninS ne_b31_b33 nin0)
    have A33__34 := A33.keep K34
    have hR34 := hR33.trans (CHr.keep K34 (show ∀ y ∈ ([b33] : List Addr), Safe Z own_EL T30.vm h33 y from (sfS (Safe.exa hZ30.alike A33 (by decide) (by decide)) sf0)) hC33)
    have hC34 := hR34.1
    have KP34 := KP33.trans K34 (allS (Or.inr sz_b33) all0)
    have sz34 := Nat.le_trans sz33 K34.1
    have hk34 := Nat.le_trans hk33 K34.1
    show own_Go p e below _ (T34.setTop (mkF m 46 #[.val (.int p0), .val (.int p1), .val (.int p2), .val (.int p3), .val (.ref a_w1), .val (.ref c29), .unset, .unset, .unset, .unset] [(.ref b33), (.ref b31), (.ref s30)]))
    obtain ⟨_, _, ⟨T35, L35, k35, n35⟩, -, X35, ⟨Lc35, hQ35, l35, y35, z35⟩, st35⟩ := Jvm.LawKit.callS X34 hx (y := (⟨"com/example/convoke/convoke/icalendar/Component", "of", "(Ljava/lang/String;Ljava/util/List;Ljava/util/List;)Lcom/example/convoke/convoke/icalendar/Component;"⟩ : MethodName)) hown30 (mvT hZ30 (hw _ (List.mem_of_getElem? (i := 38) rfl))) (mvT hZ30 (hw _ (List.mem_of_getElem? (i := 39) rfl))) (mvT hZ30 (hw _ (List.mem_of_getElem? (i := 40) rfl))) (mvT hZ30 (hw _ (List.mem_of_getElem? (i := 41) rfl))) (by decide) (backOf (W := 0) (rm10 l Z a0 hw [] (.ref s30) b31 b33 de mr es kde T34.heap n0 sz34 rfl G32__34 G34 XO__34 WW) hZ30 (hw _ (List.mem_of_getElem? (i := 41) rfl)) (hw _ (List.mem_of_getElem? (i := 40) rfl)) (by decide) (by decide)) (g := (mkF m 46 #[.val (.int p0), .val (.int p1), .val (.int p2), .val (.int p3), .val (.ref a_w1), .val (.ref c29), .unset, .unset, .unset, .unset] [(.ref b33), (.ref b31), (.ref s30)])) rfl (by rw [hml]; rfl) (argsL := [(.ref s30), (.ref b31), (.ref b33)]) (rest := []) (lenOf pd0_2 rfl) rfl (by show 2 * 0 + _ ≤ _; exact Nat.le_of_eq rfl) (hb hby at_46) (fun _ _ => ⟨rfl, rfl, (by decide : 0 + 6 + 2 + 1 + 1 + 5 + 2 + 1 + 1 + 5 ≤ _), (by decide : 0 + 28 + (24 + 4) + 3 + 3 + 12 + (20 + 4) + 3 + 3 + 12 ≤ _)⟩)
    dsimp only [Pt.U, Pt.locs, Pt.cells, Pt.slots] at X35 l35 y35 z35 st35 hQ35
    subst l35 y35 z35
    obtain ⟨c35, rfl, Nq35, K35, ge35⟩ := hQ35
    have N35 := Fr.app N34 Nq35
    refine own_go (fun t k => st35 t k) ?_
    have g_c35 : n0 ≤ c35 := Nat.le_trans sz34 ge35
    have sz_c35 : h0.size ≤ c35 := Nat.le_trans KP34.1 ge35
    have ne_s24_c35 : s24 ≠ c35 := Nat.ne_of_lt (Nat.lt_of_lt_of_le Es24__34.lt ge35)
    have ne_c24_c35 : c24 ≠ c35 := Nat.ne_of_lt (Nat.lt_of_lt_of_le Ab24__34.lt ge35)
    have ne_b25_c35 : b25 ≠ c35 := Nat.ne_of_lt (Nat.lt_of_lt_of_le G26__34.1.lt ge35)
    have ne_b27_c35 : b27 ≠ c35 := Nat.ne_of_lt (Nat.lt_of_lt_of_le G28__34.1.lt ge35)
    have ne_s30_c35 : s30 ≠ c35 := Nat.ne_of_lt (Nat.lt_of_lt_of_le Es30__34.lt ge35)
    have ne_c30_c35 : c30 ≠ c35 := Nat.ne_of_lt (Nat.lt_of_lt_of_le Ab30__34.lt ge35)
    have ne_b31_c35 : b31 ≠ c35 := Nat.ne_of_lt (Nat.lt_of_lt_of_le G32__34.1.lt ge35)
    have ne_b33_c35 : b33 ≠ c35 := Nat.ne_of_lt (Nat.lt_of_lt_of_le G34.1.lt ge35)
    have XO__35 := XO__34.keep K35 all0
    have Es24__35 := Es24__34.keep K35
    have Fc24__35 := Fc24__34.keep K35 nin0
    have Fv24__35 := Fv24__34.keep K35 nin0
    have Ab24__35 := Ab24__34.keep K35 nin0
    have G26__35 := G26__34.keep K35 nin0
    have G28__35 := G28__34.keep K35 nin0
    have Es30__35 := Es30__34.keep K35
    have Fc30__35 := Fc30__34.keep K35 nin0
    have Fv30__35 := Fv30__34.keep K35 nin0
    have Ab30__35 := Ab30__34.keep K35 nin0
    have G32__35 := G32__34.keep K35 nin0
    have G34__35 := G34.keep K35 nin0
    have hR35 := hR34.trans (CHr.keep K35 (show ∀ y ∈ ([] : List Addr), Safe Z own_EL T30.vm T34.heap y from sf0) hC34)
    have hC35 := hR35.1
    have KP35 := KP34.trans K35 all0
    have sz35 := Nat.le_trans sz34 K35.1
    have hk35 := Nat.le_trans hk34 K35.1
    show own_Go p e below _ (T35.setTop (mkF m 49 #[.val (.int p0), .val (.int p1), .val (.int p2), .val (.int p3), .val (.ref a_w1), .val (.ref c29), .unset, .unset, .unset, .unset] [(.ref c35)]))
    refine own_go (fun t k => XS.astore X35.here hx rfl (hb hby at_49) rfl rfl (l' := #[.val (.int p0), .val (.int p1), .val (.int p2), .val (.int p3), .val (.ref a_w1), .val (.ref c29), .val (.ref c35), .unset, .unset, .unset]) rfl k) ?_
    show own_Go p e below _ (T35.setTop (mkF m 51 #[.val (.int p0), .val (.int p1), .val (.int p2), .val (.int p3), .val (.ref a_w1), .val (.ref c29), .val (.ref c35), .unset, .unset, .unset] []))
    refine own_go (fun t k => XS.aload X35.here hx rfl (hb hby at_51) rfl rfl k) ?_
    show own_Go p e below _ (T35.setTop (mkF m 53 #[.val (.int p0), .val (.int p1), .val (.int p2), .val (.int p3), .val (.ref a_w1), .val (.ref c29), .val (.ref c35), .unset, .unset, .unset] [(.ref c29)]))
    obtain ⟨_, _, ⟨T36, L36, k36, n36⟩, -, X36, ⟨Lc36, hQ36, l36, y36, z36⟩, st36⟩ := Jvm.LawKit.callS X35 hx (y := (⟨"com/example/convoke/convoke/apply/KeptOverride", "received", "(Lcom/example/convoke/convoke/icalendar/Component;)Lcom/example/convoke/convoke/apply/KeptOverride;"⟩ : MethodName)) hown30 (mvT hZ30 (hw _ (List.mem_of_getElem? (i := 105) rfl))) (mvT hZ30 (hw _ (List.mem_of_getElem? (i := 106) rfl))) (mvT hZ30 (hw _ (List.mem_of_getElem? (i := 107) rfl))) (mvT hZ30 (hw _ (List.mem_of_getElem? (i := 108) rfl))) (by decide) (backOf (W := 0) (rm15 l Z a0 hw [] (.ref c29) de mr es kde T35.heap n0 sz35 rfl XO__35 WW) hZ30 (hw _ (List.mem_of_getElem? (i := 108) rfl)) (hw _ (List.mem_of_getElem? (i := 107) rfl)) (by decide) (by decide)) (g := (mkF m 53 #[.val (.int p0), .val (.int p1), .val (.int p2), .val (.int p3), .val (.ref a_w1), .val (.ref c29), .val (.ref c35), .unset, .unset, .unset] [(.ref c29)])) rfl (by rw [hml]; rfl) (argsL := [(.ref c29)]) (rest := []) (lenOf pd0_3 rfl) rfl (by show 2 * 0 + _ ≤ _; exact Nat.le_of_eq rfl) (hb hby at_53) (fun _ _ => ⟨rfl, rfl, (by decide : 0 + 6 + 2 + 1 + 1 + 5 + 2 + 1 + 1 + 5 + 1 ≤ _), (by decide : 0 + 28 + (24 + 4) + 3 + 3 + 12 + (20 + 4) + 3 + 3 + 12 + 3 ≤ _)⟩)
    dsimp only [Pt.U, Pt.locs, Pt.cells, Pt.slots] at X36 l36 y36 z36 st36 hQ36
    subst l36 y36 z36
    obtain ⟨c36, rfl, Nq36, K36, ge36, G36⟩ := hQ36
    have N36 := Fr.app N35 Nq36
    refine own_go (fun t k => st36 t k) ?_
    have g_c36 : n0 ≤ c36 := Nat.le_trans sz35 ge36
    have sz_c36 : h0.size ≤ c36 := Nat.le_trans KP35.1 ge36
    have ne_s24_c36 : s24 ≠ c36 := Nat.ne_of_lt (Nat.lt_of_lt_of_le Es24__35.lt ge36)
    have ne_c24_c36 : c24 ≠ c36 := Nat.ne_of_lt (Nat.lt_of_lt_of_le Ab24__35.lt ge36)
    have ne_b25_c36 : b25 ≠ c36 := Nat.ne_of_lt (Nat.lt_of_lt_of_le G26__35.1.lt ge36)
    have ne_b27_c36 : b27 ≠ c36 := Nat.ne_of_lt (Nat.lt_of_lt_of_le G28__35.1.lt ge36)
    have ne_s30_c36 : s30 ≠ c36 := Nat.ne_of_lt (Nat.lt_of_lt_of_le Es30__35.lt ge36)
    have ne_c30_c36 : c30 ≠ c36 := Nat.ne_of_lt (Nat.lt_of_lt_of_le Ab30__35.lt ge36)
    have ne_b31_c36 : b31 ≠ c36 := Nat.ne_of_lt (Nat.lt_of_lt_of_le G32__35.1.lt ge36)
    have ne_b33_c36 : b33 ≠ c36 := Nat.ne_of_lt (Nat.lt_of_lt_of_le G34__35.1.lt ge36)
    have XO__36 := XO__35.keep K36 all0
    have Es24__36 := Es24__35.keep K36
    have Fc24__36 := Fc24__35.keep K36 nin0
    have Fv24__36 := Fv24__35.keep K36 nin0
    have Ab24__36 := Ab24__35.keep K36 nin0
    have G26__36 := G26__35.keep K36 nin0
    have G28__36 := G28__35.keep K36 nin0
    have Es30__36 := Es30__35.keep K36
    have Fc30__36 := Fc30__35.keep K36 nin0
    have Fv30__36 := Fv30__35.keep K36 nin0
    have Ab30__36 := Ab30__35.keep K36 nin0
    have G32__36 := G32__35.keep K36 nin0
    have G34__36 := G34__35.keep K36 nin0
    have hR36 := hR35.trans (CHr.keep K36 (show ∀ y ∈ ([] : List Addr), Safe Z own_EL T30.vm T35.heap y from sf0) hC35)
    have hC36 := hR36.1
    have KP36 := KP35.trans K36 all0
    have sz36 := Nat.le_trans sz35 K36.1
    have hk36 := Nat.le_trans hk35 K36.1
    show own_Go p e below _ (T36.setTop (mkF m 56 #[.val (.int p0), .val (.int p1), .val (.int p2), .val (.int p3), .val (.ref a_w1), .val (.ref c29), .val (.ref c35), .unset, .unset, .unset] [(.ref c36)]))
    refine own_go (fun t k => XS.astore X36.here hx rfl (hb hby at_56) rfl rfl (l' := #[.val (.int p0), .val (.int p1), .val (.int p2), .val (.int p3), .val (.ref a_w1), .val (.ref c29), .val (.ref c35), .val (.ref c36), .unset, .unset]) rfl k) ?_
    show own_Go p e below _ (T36.setTop (mkF m 58 #[.val (.int p0), .val (.int p1), .val (.int p2), .val (.int p3), .val (.ref a_w1), .val (.ref c29), .val (.ref c35), .val (.ref c36), .unset, .unset] []))
    obtain ⟨T37, h37, X37, e37, E37, A37, D37, -, st37⟩ := newO X36 hx hZ30 hown30 (hw _ (List.mem_of_getElem? (i := 139) rfl)) (hw _ (List.mem_of_getElem? (i := 110) rfl)) (hw _ (List.mem_of_getElem? (i := 107) rfl)) rfl (g := (mkF m 58 #[.val (.int p0), .val (.int p1), .val (.int p2), .val (.int p3), .val (.ref a_w1), .val (.ref c29), .val (.ref c35), .val (.ref c36), .unset, .unset] [])) rfl (hb hby at_58) (by decide) (by decide)
    obtain ⟨b37, g37⟩ : ∃ z, z = T36.heap.size := ⟨_, rfl⟩
    rw [← g37] at A37 D37 st37
    have g_b37 : n0 ≤ b37 := Nat.le_trans sz36 (Nat.le_of_eq g37.symm)
    have sz_b37 : h0.size ≤ b37 := Nat.le_trans KP36.1 (Nat.le_of_eq g37.symm)
    have ne_s24_b37 : s24 ≠ b37 := Nat.ne_of_lt (Nat.lt_of_lt_of_le Es24__36.lt (Nat.le_of_eq g37.symm))
    have ne_c24_b37 : c24 ≠ b37 := Nat.ne_of_lt (Nat.lt_of_lt_of_le Ab24__36.lt (Nat.le_of_eq g37.symm))
    have ne_b25_b37 : b25 ≠ b37 := Nat.ne_of_lt (Nat.lt_of_lt_of_le G26__36.1.lt (Nat.le_of_eq g37.symm))
    have ne_b27_b37 : b27 ≠ b37 := Nat.ne_of_lt (Nat.lt_of_lt_of_le G28__36.1.lt (Nat.le_of_eq g37.symm))
    have ne_s30_b37 : s30 ≠ b37 := Nat.ne_of_lt (Nat.lt_of_lt_of_le Es30__36.lt (Nat.le_of_eq g37.symm))
    have ne_c30_b37 : c30 ≠ b37 := Nat.ne_of_lt (Nat.lt_of_lt_of_le Ab30__36.lt (Nat.le_of_eq g37.symm))
    have ne_b31_b37 : b31 ≠ b37 := Nat.ne_of_lt (Nat.lt_of_lt_of_le G32__36.1.lt (Nat.le_of_eq g37.symm))
    have ne_b33_b37 : b33 ≠ b37 := Nat.ne_of_lt (Nat.lt_of_lt_of_le G34__36.1.lt (Nat.le_of_eq g37.symm))
    have ne_c36_b37 : c36 ≠ b37 := Nat.ne_of_lt (Nat.lt_of_lt_of_le G36.1.lt (Nat.le_of_eq g37.symm))
    have XO__37 := XO__36.ext E37
    have Es24__37 := Es24__36.ext E37
    have Fc24__37 := Fc24__36.ext E37
    have Fv24__37 := Fv24__36.ext E37
    have Ab24__37 := Ab24__36.ext E37
    have G26__37 := G26__36.ext E37
    have G28__37 := G28__36.ext E37
    have Es30__37 := Es30__36.ext E37
    have Fc30__37 := Fc30__36.ext E37
    have Fv30__37 := Fv30__36.ext E37
    have Ab30__37 := Ab30__36.ext E37
    have G32__37 := G32__36.ext E37
    have G34__37 := G34__36.ext E37
    have G36__37 := G36.ext E37
    have hR37 := hR36.trans (CHr.ext E37 hC36)
    have hC37 := hR37.1
    have sz37 := Nat.le_trans sz36 E37.1
    have KP37 := KP36.ext E37
    have hk37 := Nat.le_trans hk36 E37.1
    have F37_component : Fld Z h37 b37 "com/example/convoke/convoke/apply/KeptOverride" "component" "Lcom/example/convoke/convoke/icalendar/Component;" .null := D37 (Or.inr (hw _ (List.mem_of_getElem? (i := 134) rfl))) (ty := (.object "com/example/convoke/convoke/icalendar/Component")) (by decide)
    have F37_madeFor : Fld Z h37 b37 "com/example/convoke/convoke/apply/KeptOverride" "madeFor" "Ljava/lang/String;" .null := D37 (Or.inr (hw _ (List.mem_of_getElem? (i := 136) rfl))) (ty := (.object "java/lang/String")) (by decide)
    have F37_madeWithout : Fld Z h37 b37 "com/example/convoke/convoke/apply/KeptOverride" "madeWithout" "Ljava/util/Set;" .null := D37 (Or.inr (hw _ (List.mem_of_getElem? (i := 138) rfl))) (ty := (.object "java/util/Set")) (by decide)
    refine own_go (fun t k => st37 t k) ?_
    show own_Go p e below _ (T37.setTop (mkF m 61 #[.val (.int p0), .val (.int p1), .val (.int p2), .val (.int p3), .val (.ref a_w1), .val (.ref c29), .val (.ref c35), .val (.ref c36), .unset, .unset] [(.ref b37)]))
    refine own_go (fun t k => XS.dup X37.here hx rfl (hb hby at_61) rfl rfl k) ?_
    show own_Go p e below _ (T37.setTop (mkF m 62 #[.val (.int p0), .val (.int p1), .val (.int p2), .val (.int p3), .val (.ref a_w1), .val (.ref c29), .val (.ref c35), .val (.ref c36), .unset, .unset] [(.ref b37), (.ref b37)]))
    refine own_go (fun t k => XS.aload X37.here hx rfl (hb hby at_62) rfl rfl k) ?_
    show own_Go p e below _ (T37.setTop (mkF m 64 #[.val (.int p0), .val (.int p1), .val (.int p2), .val (.int p3), .val (.ref a_w1), .val (.ref c29), .val (.ref c35), .val (.ref c36), .unset, .unset] [(.ref c29), (.ref b37), (.ref b37)]))
    refine own_go (fun t k => XS.aload X37.here hx rfl (hb hby at_64) rfl rfl k) ?_
    show own_Go p e below _ (T37.setTop (mkF m 66 #[.val (.int p0), .val (.int p1), .val (.int p2), .val (.int p3), .val (.ref a_w1), .val (.ref c29), .val (.ref c35), .val (.ref c36), .unset, .unset] [(.ref a_w1), (.ref c29), (.ref b37), (.ref b37)]))
    refine own_go (fun t k => XS.aload X37.here hx rfl (hb hby at_66) rfl rfl k) ?_
    show own_Go p e below _ (T37.setTop (mkF m 68 #[.val (.int p0), .val (.int p1), .val (.int p2), .val (.int p3), .val (.ref a_w1), .val (.ref c29), .val (.ref c35), .val (.ref c36), .unset, .unset] [(.ref c36), (.ref a_w1), (.ref c29), (.ref b37), (.ref b37)]))
    obtain ⟨cq38, kq38, q38a, q38b, q38c⟩ := isOf hZ30 e37 G36__37.1
    obtain ⟨_, _, ⟨T38, L38, k38, n38⟩, -, X38, ⟨Lc38, hQ38, l38, y38, z38⟩, st38⟩ := X37.virtualBack hx (y := (⟨"com/example/convoke/convoke/apply/KeptOverride", "madeWithout", "()Ljava/util/Set;"⟩ : MethodName)) (z := (⟨"com/example/convoke/convoke/apply/KeptOverride", "madeWithout", "()Ljava/util/Set;"⟩ : MethodName)) hown30 (mvT hZ30 (hw _ (List.mem_of_getElem? (i := 140) rfl))) (mvT hZ30 (hw _ (List.mem_of_getElem? (i := 141) rfl))) (notFace_of_selects (args := #[]) (mvT hZ30 (hw _ (List.mem_of_getElem? (i := 143) rfl)))) (mvT hZ30 (hw _ (List.mem_of_getElem? (i := 143) rfl))) (mvT hZ30 (hw _ (List.mem_of_getElem? (i := 142) rfl))) (by decide) (backOf (W := 4) (rm17 l Z a0 hw [] c36 (.ref c29) .null de mr es kde h37 n0 sz37 G36__37 XO__37 WW) hZ30 (hw _ (List.mem_of_getElem? (i := 144) rfl)) (hw _ (List.mem_of_getElem? (i := 107) rfl)) (by decide) (by decide)) q38a q38c (g := (mkF m 68 #[.val (.int p0), .val (.int p1), .val (.int p2), .val (.int p3), .val (.ref a_w1), .val (.ref c29), .val (.ref c35), .val (.ref c36), .unset, .unset] [(.ref c36), (.ref a_w1), (.ref c29), (.ref b37), (.ref b37)])) rfl (by rw [hml]; rfl) (Steps.refl _) (argsL := []) (rest := [(.ref a_w1), (.ref c29), (.ref b37), (.ref b37)]) (lenOf pd0_4 rfl) rfl (by show 2 * 0 + _ ≤ _; exact Nat.le_of_eq rfl) (hb hby at_68) (fun _ _ => ⟨rfl, e37, (by decide : 0 + 6 + 2 + 1 + 1 + 5 + 2 + 1 + 1 + 5 + 1 + 1 + 0 ≤ _), (by decide : 0 + 28 + (24 + 4) + 3 + 3 + 12 + (20 + 4) + 3 + 3 + 12 + 3 + 3 + 0 ≤ _)⟩)
    dsimp only [Pt.U, Pt.locs, Pt.cells, Pt.slots] at X38 l38 y38 z38 st38 hQ38
    subst l38 y38 z38
    obtain ⟨rfl, Nq38, e38⟩ := hQ38
    have N38 := Fr.app N36 Nq38
    refine own_go (fun t k => st38.trans k) ?_
    show own_Go p e below _ (T38.setTop (mkF m 71 #[.val (.int p0), .val (.int p1), .val (.int p2), .val (.int p3), .val (.ref a_w1), .val (.ref c29), .val (.ref c35), .val (.ref c36), .unset, .unset] [(.ref es), (.ref a_w1), (.ref c29), (.ref b37), (.ref b37)]))
    obtain ⟨_, _, ⟨T39, L39, k39, n39⟩, -, X39, ⟨Lc39, hQ39, l39, y39, z39⟩, st39⟩ := X38.specialBack hx (y := (⟨"com/example/convoke/convoke/apply/KeptOverride", "<init>", "(Lcom/example/convoke/convoke/icalendar/Component;Ljava/lang/String;Ljava/util/Set;)V"⟩ : MethodName)) rfl hown30 (mvT hZ30 (hw _ (List.mem_of_getElem? (i := 145) rfl))) (mvT hZ30 (hw _ (List.mem_of_getElem? (i := 118) rfl))) (mvT hZ30 (hw _ (List.mem_of_getElem? (i := 119) rfl))) (by decide) (backOf (W := 1) (rm14 l Z a0 hw [] b37 (.ref c29) (.ref a_w1) de mr es kde h37 n0 sz37 ⟨A37, F37_component, F37_madeFor, F37_madeWithout⟩ g_b37 rfl rfl XO__37 WW) hZ30 (hw _ (List.mem_of_getElem? (i := 119) rfl)) (hw _ (List.mem_of_getElem? (i := 107) rfl)) (by decide) (by decide)) (g := (mkF m 71 #[.val (.int p0), .val (.int p1), .val (.int p2), .val (.int p3), .val (.ref a_w1), .val (.ref c29), .val (.ref c35), .val (.ref c36), .unset, .unset] [(.ref es), (.ref a_w1), (.ref c29), (.ref b37), (.ref b37)])) rfl (by rw [hml]; rfl) (Steps.refl _) (a := b37) (argsL := [(.ref c29), (.ref a_w1), (.ref es)]) (rest := [(.ref b37)]) (lenOf pd0_5 rfl) rfl (by show 2 * 0 + _ ≤ _; exact Nat.le_of_eq rfl) (hb hby at_71) (fun _ _ => ⟨rfl, e38, (by decide : 0 + 6 + 2 + 1 + 1 + 5 + 2 + 1 + 1 + 5 + 1 + 1 + 0 ≤ _), (by decide : 0 + 28 + (24 + 4) + 3 + 3 + 12 + (20 + 4) + 3 + 3 + 12 + 3 + 3 + 0 ≤ _)⟩)
    dsimp only [Pt.U, Pt.locs, Pt.cells, Pt.slots] at X39 l39 y39 z39 st39 hQ39
    subst l39 y39 z39
    obtain ⟨rfl, Nq39, K39, G39⟩ := hQ39
    have N39 := Fr.app N38 Nq39
    refine own_go (fun t k => st39.trans k) ?_
    have XO__39 := XO__37.keep K39 (allS g_b37 all0)
    have Es24__39 := Es24__37.keep K39
    have Fc24__39 := Fc24__37.keep K39 (ninS ne_s24_b37 nin0)
    have Fv24__39 := Fv24__37.keep K39 (ninS ne_s24_b37 nin0)
    have Ab24__39 := Ab24__37.keep K39 (ninS ne_c24_b37 nin0)
    have G26__39 := G26__37.keep K39 (ninS ne_b25_b37 nin0)
    have G28__39 := G28__37.keep K39 (ninS ne_b27_b37 nin0)
    have Es30__39 := Es30__37.keep K39
    have Fc30__39 := Fc30__37.keep K39 (ninS ne_s30_b37 nin0)
    have Fv30__39 := Fv30__37.keep K39 (ninS ne_s30_b37 nin0)
    have Ab30__39 := Ab30__37.keep K39 (ninS ne_c30_b37 nin0)
    have G32__39 := G32__37.keep K39 (ninS ne_b31_b37 nin0)
    have G34__39 := G34__37.keep K39 (ninS ne_b33_b37 nin0)
    have G36__39 := G36__37.keep K39 (ninS ne_c36_b37 nin0)
    have A37__39 := A37.keep K39
    have hR39 := hR37.trans (CHr.keep K39 (show ∀ y ∈ ([b37] : List Addr), Safe Z own_EL T30.vm h37 y from (sfS (Safe.exa hZ30.alike A37 (by decide) (by decide)) sf0)) hC37)
    have hC39 := hR39.1
    have KP39 := KP37.trans K39 (allS (Or.inr sz_b37) all0)
    have sz39 := Nat.le_trans sz37 K39.1
    have hk39 := Nat.le_trans hk37 K39.1
    show own_Go p e below _ (T39.setTop (mkF m 74 #[.val (.int p0), .val (.int p1), .val (.int p2), .val (.int p3), .val (.ref a_w1), .val (.ref c29), .val (.ref c35), .val (.ref c36), .unset, .unset] [(.ref b37)]))
    refine own_go (fun t k => XS.astore X39.here hx rfl (hb hby at_74) rfl rfl (l' := #[.val (.int p0), .val (.int p1), .val (.int p2), .val (.int p3), .val (.ref a_w1), .val (.ref c29), .val (.ref c35), .val (.ref c36), .val (.ref b37), .unset]) rfl k) ?_
    show own_Go p e below _ (T39.setTop (mkF m 76 #[.val (.int p0), .val (.int p1), .val (.int p2), .val (.int p3), .val (.ref a_w1), .val (.ref c29), .val (.ref c35), .val (.ref c36), .val (.ref b37), .unset] []))
    refine own_go (fun t k => XS.aload X39.here hx rfl (hb hby at_76) rfl rfl k) ?_
    show own_Go p e below _ (T39.setTop (mkF m 78 #[.val (.int p0), .val (.int p1), .val (.int p2), .val (.int p3), .val (.ref a_w1), .val (.ref c29), .val (.ref c35), .val (.ref c36), .val (.ref b37), .unset] [(.ref a_w1)]))
    refine own_go (fun t k => XS.ifnullNo X39.here hx rfl (hb hby at_78) rfl k) ?_
    show own_Go p e below _ (T39.setTop (mkF m 81 #[.val (.int p0), .val (.int p1), .val (.int p2), .val (.int p3), .val (.ref a_w1), .val (.ref c29), .val (.ref c35), .val (.ref c36), .val (.ref b37), .unset] []))
    refine own_go (fun t k => XS.iconst X39.here hx rfl (hb hby at_81) k) ?_
    show own_Go p e below _ (T39.setTop (mkF m 82 #[.val (.int p0), .val (.int p1), .val (.int p2), .val (.int p3), .val (.ref a_w1), .val (.ref c29), .val (.ref c35), .val (.ref c36), .val (.ref b37), .unset] [(.int (1 : Int32))]))
    refine own_go (fun t k => XS.goto X39.here hx rfl (pc0 := 82) (pc' := 86) rfl (hb hby at_82) (by decide) (by decide) k) ?_
    show own_Go p e below _ (T39.setTop (mkF m 86 #[.val (.int p0), .val (.int p1), .val (.int p2), .val (.int p3), .val (.ref a_w1), .val (.ref c29), .val (.ref c35), .val (.ref c36), .val (.ref b37), .unset] [(.int (1 : Int32))]))
    refine own_go (fun t k => XS.istore X39.here hx rfl (hb hby at_86) rfl (l' := #[.val (.int p0), .val (.int p1), .val (.int p2), .val (.int p3), .val (.ref a_w1), .val (.ref c29), .val (.ref c35), .val (.ref c36), .val (.ref b37), .val (.int (1 : Int32))]) rfl k) ?_
    show own_Go p e below _ (T39.setTop (mkF m 88 #[.val (.int p0), .val (.int p1), .val (.int p2), .val (.int p3), .val (.ref a_w1), .val (.ref c29), .val (.ref c35), .val (.ref c36), .val (.ref b37), .val (.int (1 : Int32))] []))
    refine own_go (fun t k => XS.aload X39.here hx rfl (hb hby at_88) rfl rfl k) ?_
    show own_Go p e below _ (T39.setTop (mkF m 90 #[.val (.int p0), .val (.int p1), .val (.int p2), .val (.int p3), .val (.ref a_w1), .val (.ref c29), .val (.ref c35), .val (.ref c36), .val (.ref b37), .val (.int (1 : Int32))] [(.ref c36)]))
    obtain ⟨cq40, kq40, q40a, q40b, q40c⟩ := isOf hZ30 rfl G36__39.1
    obtain ⟨_, _, ⟨T40, L40, k40, n40⟩, -, X40, ⟨Lc40, hQ40, l40, y40, z40⟩, st40⟩ := X39.virtualBack hx (y := (⟨"com/example/convoke/convoke/apply/KeptOverride", "isMade", "()Z"⟩ : MethodName)) (z := (⟨"com/example/convoke/convoke/apply/KeptOverride", "isMade", "()Z"⟩ : MethodName)) hown30 (mvT hZ30 (hw _ (List.mem_of_getElem? (i := 146) rfl))) (mvT hZ30 (hw _ (List.mem_of_getElem? (i := 147) rfl))) (notFace_of_selects (args := #[]) (mvT hZ30 (hw _ (List.mem_of_getElem? (i := 149) rfl)))) (mvT hZ30 (hw _ (List.mem_of_getElem? (i := 149) rfl))) (mvT hZ30 (hw _ (List.mem_of_getElem? (i := 148) rfl))) (by decide) (backOf (W := 0) (rm18 l Z a0 hw [] c36 (.ref c29) .null de mr es kde T39.heap n0 sz39 G36__39 rfl XO__39 WW) hZ30 (hw _ (List.mem_of_getElem? (i := 150) rfl)) (hw _ (List.mem_of_getElem? (i := 107) rfl)) (by decide) (by decide)) q40a q40c (g := (mkF m 90 #[.val (.int p0), .val (.int p1), .val (.int p2), .val (.int p3), .val (.ref a_w1), .val (.ref c29), .val (.ref c35), .val (.ref c36), .val (.ref b37), .val (.int (1 : Int32))] [(.ref c36)])) rfl (by rw [hml]; rfl) (Steps.refl _) (argsL := []) (rest := []) (lenOf pd0_6 rfl) rfl (by show 2 * 0 + _ ≤ _; exact Nat.le_of_eq rfl) (hb hby at_90) (fun _ _ => ⟨rfl, rfl, (by decide : 0 + 6 + 2 + 1 + 1 + 5 + 2 + 1 + 1 + 5 + 1 + 1 + 0 ≤ _), (by decide : 0 + 28 + (24 + 4) + 3 + 3 + 12 + (20 + 4) + 3 + 3 + 12 + 3 + 3 + 0 ≤ _)⟩)
    dsimp only [Pt.U, Pt.locs, Pt.cells, Pt.slots] at X40 l40 y40 z40 st40 hQ40
    subst l40 y40 z40
    obtain ⟨rfl, Nq40, e40⟩ := hQ40
    have N40 := Fr.app N39 Nq40
    refine own_go (fun t k => st40.trans k) ?_
    show own_Go p e below _ (T40.setTop (mkF m 93 #[.val (.int p0), .val (.int p1), .val (.int p2), .val (.int p3), .val (.ref a_w1), .val (.ref c29), .val (.ref c35), .val (.ref c36), .val (.ref b37), .val (.int (1 : Int32))] [(.int (own_nn .null))]))
    refine own_go (fun t k => XS.ifNo X40.here hx rfl (hb hby at_93) rfl ((if0 _ _).trans (teq (rfl : (own_nn .null) = (0 : Int32))).2) k) ?_
    show own_Go p e below _ (T40.setTop (mkF m 96 #[.val (.int p0), .val (.int p1), .val (.int p2), .val (.int p3), .val (.ref a_w1), .val (.ref c29), .val (.ref c35), .val (.ref c36), .val (.ref b37), .val (.int (1 : Int32))] []))
    refine own_go (fun t k => XS.aload X40.here hx rfl (hb hby at_96) rfl rfl k) ?_
    show own_Go p e below _ (T40.setTop (mkF m 98 #[.val (.int p0), .val (.int p1), .val (.int p2), .val (.int p3), .val (.ref a_w1), .val (.ref c29), .val (.ref c35), .val (.ref c36), .val (.ref b37), .val (.int (1 : Int32))] [(.ref b37)]))
    obtain ⟨cq41, kq41, q41a, q41b, q41c⟩ := isOf hZ30 e40 G39.1
    obtain ⟨_, _, ⟨T41, L41, k41, n41⟩, -, X41, ⟨Lc41, hQ41, l41, y41, z41⟩, st41⟩ := X40.virtualBack hx (y := (⟨"com/example/convoke/convoke/apply/KeptOverride", "isMade", "()Z"⟩ : MethodName)) (z := (⟨"com/example/convoke/convoke/apply/KeptOverride", "isMade", "()Z"⟩ : MethodName)) hown30 (mvT hZ30 (hw _ (List.mem_of_getElem? (i := 146) rfl))) (mvT hZ30 (hw _ (List.mem_of_getElem? (i := 147) rfl))) (notFace_of_selects (args := #[]) (mvT hZ30 (hw _ (List.mem_of_getElem? (i := 149) rfl)))) (mvT hZ30 (hw _ (List.mem_of_getElem? (i := 149) rfl))) (mvT hZ30 (hw _ (List.mem_of_getElem? (i := 148) rfl))) (by decide) (backOf (W := 0) (rm18 l Z a0 hw [] b37 (.ref c29) (.ref a_w1) de mr es kde T39.heap n0 sz39 G39 rfl XO__39 WW) hZ30 (hw _ (List.mem_of_getElem? (i := 150) rfl)) (hw _ (List.mem_of_getElem? (i := 107) rfl)) (by decide) (by decide)) q41a q41c (g := (mkF m 98 #[.val (.int p0), .val (.int p1), .val (.int p2), .val (.int p3), .val (.ref a_w1), .val (.ref c29), .val (.ref c35), .val (.ref c36), .val (.ref b37), .val (.int (1 : Int32))] [(.ref b37)])) rfl (by rw [hml]; rfl) (Steps.refl _) (argsL := []) (rest := []) (lenOf pd0_6 rfl) rfl (by show 2 * 0 + _ ≤ _; exact Nat.le_of_eq rfl) (hb hby at_98) (fun _ _ => ⟨rfl, e40, (by decide : 0 + 6 + 2 + 1 + 1 + 5 + 2 + 1 + 1 + 5 + 1 + 1 + 0 ≤ _), (by decide : 0 + 28 + (24 + 4) + 3 + 3 + 12 + (20 + 4) + 3 + 3 + 12 + 3 + 3 + 0 ≤ _)⟩)
    dsimp only [Pt.U, Pt.locs, Pt.cells, Pt.slots] at X41 l41 y41 z41 st41 hQ41
    subst l41 y41 z41
    obtain ⟨rfl, Nq41, e41⟩ := hQ41
    have N41 := Fr.app N40 Nq41
    refine own_go (fun t k => st41.trans k) ?_
    show own_Go p e below _ (T41.setTop (mkF m 101 #[.val (.int p0), .val (.int p1), .val (.int p2), .val (.int p3), .val (.ref a_w1), .val (.ref c29), .val (.ref c35), .val (.ref c36), .val (.ref b37), .val (.int (1 : Int32))] [(.int (own_nn (.ref a_w1)))]))
    refine own_go (fun t k => XS.iload X41.here hx rfl (hb hby at_101) rfl k) ?_
    show own_Go p e below _ (T41.setTop (mkF m 103 #[.val (.int p0), .val (.int p1), .val (.int p2), .val (.int p3), .val (.ref a_w1), .val (.ref c29), .val (.ref c35), .val (.ref c36), .val (.ref b37), .val (.int (1 : Int32))] [(.int (1 : Int32)), (.int (own_nn (.ref a_w1)))]))
    refine own_go (fun t k => XS.icmpNo X41.here hx rfl (hb hby at_103) rfl (teq (rfl : (own_nn (.ref a_w1)) = (1 : Int32))).2 k) ?_
    show own_Go p e below _ (T41.setTop (mkF m 106 #[.val (.int p0), .val (.int p1), .val (.int p2), .val (.int p3), .val (.ref a_w1), .val (.ref c29), .val (.ref c35), .val (.ref c36), .val (.ref b37), .val (.int (1 : Int32))] []))
    refine own_go (fun t k => XS.aload X41.here hx rfl (hb hby at_106) rfl rfl k) ?_
    show own_Go p e below _ (T41.setTop (mkF m 108 #[.val (.int p0), .val (.int p1), .val (.int p2), .val (.int p3), .val (.ref a_w1), .val (.ref c29), .val (.ref c35), .val (.ref c36), .val (.ref b37), .val (.int (1 : Int32))] [(.ref b37)]))
    refine own_go (fun t k => XS.aload X41.here hx rfl (hb hby at_108) rfl rfl k) ?_
    show own_Go p e below _ (T41.setTop (mkF m 110 #[.val (.int p0), .val (.int p1), .val (.int p2), .val (.int p3), .val (.ref a_w1), .val (.ref c29), .val (.ref c35), .val (.ref c36), .val (.ref b37), .val (.int (1 : Int32))] [(.ref c35), (.ref b37)]))
    obtain ⟨cq42, kq42, q42a, q42b, q42c⟩ := isOf hZ30 e41 G39.1
    obtain ⟨_, _, ⟨T42, L42, k42, n42⟩, -, X42, ⟨Lc42, hQ42, l42, y42, z42⟩, st42⟩ := X41.virtualBack hx (y := (⟨"com/example/convoke/convoke/apply/KeptOverride", "with", "(Lcom/example/convoke/convoke/icalendar/Component;)Lcom/example/convoke/convoke/apply/KeptOverride;"⟩ : MethodName)) (z := (⟨"com/example/convoke/convoke/apply/KeptOverride", "with", "(Lcom/example/convoke/convoke/icalendar/Component;)Lcom/example/convoke/convoke/apply/KeptOverride;"⟩ : MethodName)) hown30 (mvT hZ30 (hw _ (List.mem_of_getElem? (i := 151) rfl))) (mvT hZ30 (hw _ (List.mem_of_getElem? (i := 152) rfl))) (notFace_of_selects (args := #[]) (mvT hZ30 (hw _ (List.mem_of_getElem? (i := 154) rfl)))) (mvT hZ30 (hw _ (List.mem_of_getElem? (i := 154) rfl))) (mvT hZ30 (hw _ (List.mem_of_getElem? (i := 153) rfl))) (by decide) (backOf (W := 0) (rm16 l Z a0 hw [] b37 (.ref c29) (.ref a_w1) (.ref c35) de mr es kde T39.heap n0 sz39 G39 rfl rfl XO__39 WW) hZ30 (hw _ (List.mem_of_getElem? (i := 155) rfl)) (hw _ (List.mem_of_getElem? (i := 107) rfl)) (by decide) (by decide)) q42a q42c (g := (mkF m 110 #[.val (.int p0), .val (.int p1), .val (.int p2), .val (.int p3), .val (.ref a_w1), .val (.ref c29), .val (.ref c35), .val (.ref c36), .val (.ref b37), .val (.int (1 : Int32))] [(.ref c35), (.ref b37)])) rfl (by rw [hml]; rfl) (Steps.refl _) (argsL := [(.ref c35)]) (rest := []) (lenOf pd0_3 rfl) rfl (by show 2 * 0 + _ ≤ _; exact Nat.le_of_eq rfl) (hb hby at_110) (fun _ _ => ⟨rfl, e41, (by decide : 0 + 6 + 2 + 1 + 1 + 5 + 2 + 1 + 1 + 5 + 1 + 1 + 1 ≤ _), (by decide : 0 + 28 + (24 + 4) + 3 + 3 + 12 + (20 + 4) + 3 + 3 + 12 + 3 + 3 + 3 ≤ _)⟩)
    dsimp only [Pt.U, Pt.locs, Pt.cells, Pt.slots] at X42 l42 y42 z42 st42 hQ42
    subst l42 y42 z42
    obtain ⟨c42, rfl, Nq42, K42, ge42, G42⟩ := hQ42
    have N42 := Fr.app N41 Nq42
    refine own_go (fun t k => st42.trans k) ?_
    have g_c42 : n0 ≤ c42 := Nat.le_trans sz39 ge42
    have sz_c42 : h0.size ≤ c42 := Nat.le_trans KP39.1 ge42
    have ne_s24_c42 : s24 ≠ c42 := Nat.ne_of_lt (Nat.lt_of_lt_of_le Es24__39.lt ge42)
    have ne_c24_c42 : c24 ≠ c42 := Nat.ne_of_lt (Nat.lt_of_lt_of_le Ab24__39.lt ge42)
    have ne_b25_c42 : b25 ≠ c42 := Nat.ne_of_lt (Nat.lt_of_lt_of_le G26__39.1.lt ge42)
    have ne_b27_c42 : b27 ≠ c42 := Nat.ne_of_lt (Nat.lt_of_lt_of_le G28__39.1.lt ge42)
    have ne_s30_c42 : s30 ≠ c42 := Nat.ne_of_lt (Nat.lt_of_lt_of_le Es30__39.lt ge42)
    have ne_c30_c42 : c30 ≠ c42 := Nat.ne_of_lt (Nat.lt_of_lt_of_le Ab30__39.lt ge42)
    have ne_b31_c42 : b31 ≠ c42 := Nat.ne_of_lt (Nat.lt_of_lt_of_le G32__39.1.lt ge42)
    have ne_b33_c42 : b33 ≠ c42 := Nat.ne_of_lt (Nat.lt_of_lt_of_le G34__39.1.lt ge42)
    have ne_c36_c42 : c36 ≠ c42 := Nat.ne_of_lt (Nat.lt_of_lt_of_le G36__39.1.lt ge42)
    have ne_b37_c42 : b37 ≠ c42 := Nat.ne_of_lt (Nat.lt_of_lt_of_le G39.1.lt ge42)
    have XO__42 := XO__39.keep K42 all0
    have Es24__42 := Es24__39.keep K42
    have Fc24__42 := Fc24__39.keep K42 nin0
    have Fv24__42 := Fv24__39.keep K42 nin0
    have Ab24__42 := Ab24__39.keep K42 nin0
    have G26__42 := G26__39.keep K42 nin0
    have G28__42 := G28__39.keep K42 nin0
    have Es30__42 := Es30__39.keep K42
    have Fc30__42 := Fc30__39.keep K42 nin0
    have Fv30__42 := Fv30__39.keep K42 nin0
    have Ab30__42 := Ab30__39.keep K42 nin0
    have G32__42 := G32__39.keep K42 nin0
    have G34__42 := G34__39.keep K42 nin0
    have G36__42 := G36__39.keep K42 nin0
    have G39__42 := G39.keep K42 nin0
    have hR42 := hR39.trans (CHr.keep K42 (show ∀ y ∈ ([] : List Addr), Safe Z own_EL T30.vm T39.heap y from sf0) hC39)
    have hC42 := hR42.1
    have KP42 := KP39.trans K42 all0
    have sz42 := Nat.le_trans sz39 K42.1
    have hk42 := Nat.le_trans hk39 K42.1
    show own_Go p e below _ (T42.setTop (mkF m 113 #[.val (.int p0), .val (.int p1), .val (.int p2), .val (.int p3), .val (.ref a_w1), .val (.ref c29), .val (.ref c35), .val (.ref c36), .val (.ref b37), .val (.int (1 : Int32))] [(.ref c42)]))
    obtain ⟨cq43, kq43, q43a, q43b, q43c⟩ := isOf hZ30 rfl G42.1
    obtain ⟨_, _, ⟨T43, L43, k43, n43⟩, -, X43, ⟨Lc43, hQ43, l43, y43, z43⟩, st43⟩ := X42.virtualBack hx (y := (⟨"com/example/convoke/convoke/apply/KeptOverride", "isMade", "()Z"⟩ : MethodName)) (z := (⟨"com/example/convoke/convoke/apply/KeptOverride", "isMade", "()Z"⟩ : MethodName)) hown30 (mvT hZ30 (hw _ (List.mem_of_getElem? (i := 146) rfl))) (mvT hZ30 (hw _ (List.mem_of_getElem? (i := 147) rfl))) (notFace_of_selects (args := #[]) (mvT hZ30 (hw _ (List.mem_of_getElem? (i := 149) rfl)))) (mvT hZ30 (hw _ (List.mem_of_getElem? (i := 149) rfl))) (mvT hZ30 (hw _ (List.mem_of_getElem? (i := 148) rfl))) (by decide) (backOf (W := 0) (rm18 l Z a0 hw [] c42 (.ref c35) (.ref a_w1) de mr es kde T42.heap n0 sz42 G42 rfl XO__42 WW) hZ30 (hw _ (List.mem_of_getElem? (i := 150) rfl)) (hw _ (List.mem_of_getElem? (i := 107) rfl)) (by decide) (by decide)) q43a q43c (g := (mkF m 113 #[.val (.int p0), .val (.int p1), .val (.int p2), .val (.int p3), .val (.ref a_w1), .val (.ref c29), .val (.ref c35), .val (.ref c36), .val (.ref b37), .val (.int (1 : Int32))] [(.ref c42)])) rfl (by rw [hml]; rfl) (Steps.refl _) (argsL := []) (rest := []) (lenOf pd0_6 rfl) rfl (by show 2 * 0 + _ ≤ _; exact Nat.le_of_eq rfl) (hb hby at_113) (fun _ _ => ⟨rfl, rfl, (by decide : 0 + 6 + 2 + 1 + 1 + 5 + 2 + 1 + 1 + 5 + 1 + 1 + 1 + 0 ≤ _), (by decide : 0 + 28 + (24 + 4) + 3 + 3 + 12 + (20 + 4) + 3 + 3 + 12 + 3 + 3 + 3 + 0 ≤ _)⟩)
    dsimp only [Pt.U, Pt.locs, Pt.cells, Pt.slots] at X43 l43 y43 z43 st43 hQ43
    subst l43 y43 z43
    obtain ⟨rfl, Nq43, e43⟩ := hQ43
    have N43 := Fr.app N42 Nq43
    refine own_go (fun t k => st43.trans k) ?_
    show own_Go p e below _ (T43.setTop (mkF m 116 #[.val (.int p0), .val (.int p1), .val (.int p2), .val (.int p3), .val (.ref a_w1), .val (.ref c29), .val (.ref c35), .val (.ref c36), .val (.ref b37), .val (.int (1 : Int32))] [(.int (own_nn (.ref a_w1)))]))
    refine own_go (fun t k => XS.iload X43.here hx rfl (hb hby at_116) rfl k) ?_
    show own_Go p e below _ (T43.setTop (mkF m 118 #[.val (.int p0), .val (.int p1), .val (.int p2), .val (.int p3), .val (.ref a_w1), .val (.ref c29), .val (.ref c35), .val (.ref c36), .val (.ref b37), .val (.int (1 : Int32))] [(.int (1 : Int32)), (.int (own_nn (.ref a_w1)))]))
    refine own_go (fun t k => XS.icmpNo X43.here hx rfl (hb hby at_118) rfl (teq (rfl : (own_nn (.ref a_w1)) = (1 : Int32))).2 k) ?_
    show own_Go p e below _ (T43.setTop (mkF m 121 #[.val (.int p0), .val (.int p1), .val (.int p2), .val (.int p3), .val (.ref a_w1), .val (.ref c29), .val (.ref c35), .val (.ref c36), .val (.ref b37), .val (.int (1 : Int32))] []))
    refine own_go (fun t k => XS.aload X43.here hx rfl (hb hby at_121) rfl rfl k) ?_
    show own_Go p e below _ (T43.setTop (mkF m 123 #[.val (.int p0), .val (.int p1), .val (.int p2), .val (.int p3), .val (.ref a_w1), .val (.ref c29), .val (.ref c35), .val (.ref c36), .val (.ref b37), .val (.int (1 : Int32))] [(.ref c36)]))
    refine own_go (fun t k => XS.aload X43.here hx rfl (hb hby at_123) rfl rfl k) ?_
    show own_Go p e below _ (T43.setTop (mkF m 125 #[.val (.int p0), .val (.int p1), .val (.int p2), .val (.int p3), .val (.ref a_w1), .val (.ref c29), .val (.ref c35), .val (.ref c36), .val (.ref b37), .val (.int (1 : Int32))] [(.ref c35), (.ref c36)]))
    obtain ⟨cq44, kq44, q44a, q44b, q44c⟩ := isOf hZ30 e43 G36__42.1
    obtain ⟨_, _, ⟨T44, L44, k44, n44⟩, -, X44, ⟨Lc44, hQ44, l44, y44, z44⟩, st44⟩ := X43.virtualBack hx (y := (⟨"com/example/convoke/convoke/apply/KeptOverride", "with", "(Lcom/example/convoke/convoke/icalendar/Component;)Lcom/example/convoke/convoke/apply/KeptOverride;"⟩ : MethodName)) (z := (⟨"com/example/convoke/convoke/apply/KeptOverride", "with", "(Lcom/example/convoke/convoke/icalendar/Component;)Lcom/example/convoke/convoke/apply/KeptOverride;"⟩ : MethodName)) hown30 (mvT hZ30 (hw _ (List.mem_of_getElem? (i := 151) rfl))) (mvT hZ30 (hw _ (List.mem_of_getElem? (i := 152) rfl))) (notFace_of_selects (args := #[]) (mvT hZ30 (hw _ (List.mem_of_getElem? (i := 154) rfl)))) (mvT hZ30 (hw _ (List.mem_of_getElem? (i := 154) rfl))) (mvT hZ30 (hw _ (List.mem_of_getElem? (i := 153) rfl))) (by decide) (backOf (W := 0) (rm16 l Z a0 hw [] c36 (.ref c29) .null (.ref c35) de mr es kde T42.heap n0 sz42 G36__42 rfl rfl XO__42 WW) hZ30 (hw _ (List.mem_of_getElem? (i := 155) rfl)) (hw _ (List.mem_of_getElem? (i := 107) rfl)) (by decide) (by decide)) q44a q44c (g := (mkF m 125 #[.val (.int p0), .val (.int p1), .val (.int p2), .val (.int p3), .val (.ref a_w1), .val (.ref c29), .val (.ref c35), .val (.ref c36), .val (.ref b37), .val (.int (1 : Int32))] [(.ref c35), (.ref c36)])) rfl (by rw [hml]; rfl) (Steps.refl _) (argsL := [(.ref c35)]) (rest := []) (lenOf pd0_3 rfl) rfl (by show 2 * 0 + _ ≤ _; exact Nat.le_of_eq rfl) (hb hby at_125) (fun _ _ => ⟨rfl, e43, (by decide : 0 + 6 + 2 + 1 + 1 + 5 + 2 + 1 + 1 + 5 + 1 + 1 + 1 + 1 ≤ _), (by decide : 0 + 28 + (24 + 4) + 3 + 3 + 12 + (20 + 4) + 3 + 3 + 12 + 3 + 3 + 3 + 3 ≤ _)⟩)
    dsimp only [Pt.U, Pt.locs, Pt.cells, Pt.slots] at X44 l44 y44 z44 st44 hQ44
    subst l44 y44 z44
    obtain ⟨c44, rfl, Nq44, K44, ge44, G44⟩ := hQ44
    have N44 := Fr.app N43 Nq44
    refine own_go (fun t k => st44.trans k) ?_
    have g_c44 : n0 ≤ c44 := Nat.le_trans sz42 ge44
    have sz_c44 : h0.size ≤ c44 := Nat.le_trans KP42.1 ge44
    have ne_s24_c44 : s24 ≠ c44 := Nat.ne_of_lt (Nat.lt_of_lt_of_le Es24__42.lt ge44)
    have ne_c24_c44 : c24 ≠ c44 := Nat.ne_of_lt (Nat.lt_of_lt_of_le Ab24__42.lt ge44)
    have ne_b25_c44 : b25 ≠ c44 := Nat.ne_of_lt (Nat.lt_of_lt_of_le G26__42.1.lt ge44)
    have ne_b27_c44 : b27 ≠ c44 := Nat.ne_of_lt (Nat.lt_of_lt_of_le G28__42.1.lt ge44)
    have ne_s30_c44 : s30 ≠ c44 := Nat.ne_of_lt (Nat.lt_of_lt_of_le Es30__42.lt ge44)
    have ne_c30_c44 : c30 ≠ c44 := Nat.ne_of_lt (Nat.lt_of_lt_of_le Ab30__42.lt ge44)
    have ne_b31_c44 : b31 ≠ c44 := Nat.ne_of_lt (Nat.lt_of_lt_of_le G32__42.1.lt ge44)
    have ne_b33_c44 : b33 ≠ c44 := Nat.ne_of_lt (Nat.lt_of_lt_of_le G34__42.1.lt ge44)
    have ne_c36_c44 : c36 ≠ c44 := Nat.ne_of_lt (Nat.lt_of_lt_of_le G36__42.1.lt ge44)
    have ne_b37_c44 : b37 ≠ c44 := Nat.ne_of_lt (Nat.lt_of_lt_of_le G39__42.1.lt ge44)
    have ne_c42_c44 : c42 ≠ c44 := Nat.ne_of_lt (Nat.lt_of_lt_of_le G42.1.lt ge44)
    have XO__44 := XO__42.keep K44 all0
    have Es24__44 := Es24__42.keep K44
    have Fc24__44 := Fc24__42.keep K44 nin0
    have Fv24__44 := Fv24__42.keep K44 nin0
    have Ab24__44 := Ab24__42.keep K44 nin0
    have G26__44 := G26__42.keep K44 nin0
    have G28__44 := G28__42.keep K44 nin0
    have Es30__44 := Es30__42.keep K44
    have Fc30__44 := Fc30__42.keep K44 nin0
    have Fv30__44 := Fv30__42.keep K44 nin0
    have Ab30__44 := Ab30__42.keep K44 nin0
    have G32__44 := G32__42.keep K44 nin0
    have G34__44 := G34__42.keep K44 nin0
    have G36__44 := G36__42.keep K44 nin0
    have G39__44 := G39__42.keep K44 nin0
    have G42__44 := G42.keep K44 nin0
    have hR44 := hR42.trans (CHr.keep K44 (show ∀ y ∈ ([] : List Addr), Safe Z own_EL T30.vm T42.heap y from sf0) hC42)
    have hC44 := hR44.1
    have KP44 := KP42.trans K44 all0
    have sz44 := Nat.le_trans sz42 K44.1
    have hk44 := Nat.le_trans hk42 K44.1
    show own_Go p e below _ (T44.setTop (mkF m 128 #[.val (.int p0), .val (.int p1), .val (.int p2), .val (.int p3), .val (.ref a_w1), .val (.ref c29), .val (.ref c35), .val (.ref c36), .val (.ref b37), .val (.int (1 : Int32))] [(.ref c44)]))
    obtain ⟨cq45, kq45, q45a, q45b, q45c⟩ := isOf hZ30 rfl G44.1
    obtain ⟨_, _, ⟨T45, L45, k45, n45⟩, -, X45, ⟨Lc45, hQ45, l45, y45, z45⟩, st45⟩ := X44.virtualBack hx (y := (⟨"com/example/convoke/convoke/apply/KeptOverride", "isMade", "()Z"⟩ : MethodName)) (z := (⟨"com/example/convoke/convoke/apply/KeptOverride", "isMade", "()Z"⟩ : MethodName)) hown30 (mvT hZ30 (hw _ (List.mem_of_getElem? (i := 146) rfl))) (mvT hZ30 (hw _ (List.mem_of_getElem? (i := 147) rfl))) (notFace_of_selects (args := #[]) (mvT hZ30 (hw _ (List.mem_of_getElem? (i := 149) rfl)))) (mvT hZ30 (hw _ (List.mem_of_getElem? (i := 149) rfl))) (mvT hZ30 (hw _ (List.mem_of_getElem? (i := 148) rfl))) (by decide) (backOf (W := 0) (rm18 l Z a0 hw [] c44 (.ref c35) .null de mr es kde T44.heap n0 sz44 G44 rfl XO__44 WW) hZ30 (hw _ (List.mem_of_getElem? (i := 150) rfl)) (hw _ (List.mem_of_getElem? (i := 107) rfl)) (by decide) (by decide)) q45a q45c (g := (mkF m 128 #[.val (.int p0), .val (.int p1), .val (.int p2), .val (.int p3), .val (.ref a_w1), .val (.ref c29), .val (.ref c35), .val (.ref c36), .val (.ref b37), .val (.int (1 : Int32))] [(.ref c44)])) rfl (by rw [hml]; rfl) (Steps.refl _) (argsL := []) (rest := []) (lenOf pd0_6 rfl) rfl (by show 2 * 0 + _ ≤ _; exact Nat.le_of_eq rfl) (hb hby at_128) (fun _ _ => ⟨rfl, rfl, (by decide : 0 + 6 + 2 + 1 + 1 + 5 + 2 + 1 + 1 + 5 + 1 + 1 + 1 + 1 + 0 ≤ _), (by decide : 0 + 28 + (24 + 4) + 3 + 3 + 12 + (20 + 4) + 3 + 3 + 12 + 3 + 3 + 3 + 3 + 0 ≤ _)⟩)
    dsimp only [Pt.U, Pt.locs, Pt.cells, Pt.slots] at X45 l45 y45 z45 st45 hQ45
    subst l45 y45 z45
    obtain ⟨rfl, Nq45, e45⟩ := hQ45
    have N45 := Fr.app N44 Nq45
    refine own_go (fun t k => st45.trans k) ?_
    show own_Go p e below _ (T45.setTop (mkF m 131 #[.val (.int p0), .val (.int p1), .val (.int p2), .val (.int p3), .val (.ref a_w1), .val (.ref c29), .val (.ref c35), .val (.ref c36), .val (.ref b37), .val (.int (1 : Int32))] [(.int (own_nn .null))]))
    refine own_go (fun t k => XS.ifNo X45.here hx rfl (hb hby at_131) rfl ((if0 _ _).trans (teq (rfl : (own_nn .null) = (0 : Int32))).2) k) ?_
    show own_Go p e below _ (T45.setTop (mkF m 134 #[.val (.int p0), .val (.int p1), .val (.int p2), .val (.int p3), .val (.ref a_w1), .val (.ref c29), .val (.ref c35), .val (.ref c36), .val (.ref b37), .val (.int (1 : Int32))] []))
    refine own_go (fun t k => XS.iconst X45.here hx rfl (hb hby at_134) k) ?_
    show own_Go p e below _ (T45.setTop (mkF m 135 #[.val (.int p0), .val (.int p1), .val (.int p2), .val (.int p3), .val (.ref a_w1), .val (.ref c29), .val (.ref c35), .val (.ref c36), .val (.ref b37), .val (.int (1 : Int32))] [(.int (1 : Int32))]))
    refine own_go (fun t k => XS.goto X45.here hx rfl (pc0 := 135) (pc' := 139) rfl (hb hby at_135) (by decide) (by decide) k) ?_
    show own_Go p e below _ (T45.setTop (mkF m 139 #[.val (.int p0), .val (.int p1), .val (.int p2), .val (.int p3), .val (.ref a_w1), .val (.ref c29), .val (.ref c35), .val (.ref c36), .val (.ref b37), .val (.int (1 : Int32))] [(.int (1 : Int32))]))
    have hF : CHr Z own_EL s.vm s.heap T45.vm T45.heap := by rw [hh, e45]; exact hR44.trans (CHv.at X45 hZ30 hEL hC44)
    exact own_retNH X45 hx (t := .boolean) Bd.returns (by simp) (hb hby at_139) hS30 (by rw [e45]; exact hk44) (⟨rfl, N45⟩) (hF) (by decide) (by decide)
theorem own_eqN {args : Array Value} {first s : State} {o : Option Outcome} {idx : List Nat} {a b : Term} {x y : Int32} (ha : a.eval args first o idx s = some (.int x)) (hb : b.eval args first o idx s = some (.int y)) : (Jvm.Cond.eq a b).value args first o s idx = some (decide (x = y)) := by simp [Cond.value, ha, hb]
theorem own_eqI {args : Array Value} {first s : State} {o : Option Outcome} {idx : List Nat} {t : Term} {n : Int32} (h : (Jvm.Cond.eq t (.int n)).value args first o s idx = some true) : t.eval args first o idx s = some (.int n) := by
  simp only [Cond.value, Term.eval] at h
  cases ht : t.eval args first o idx s with
  | none => simp [ht] at h
  | some x => cases x <;> simp [ht] at h ⊢ <;> exact h
theorem own_len {args : Array Value} {s : State} {t : Term} {a : Addr} {cl : Cell} {ty : FieldType} {z : Int32} (h : (Term.length t).eval args s none [] s = some (.int z)) (ht : t.eval args s none [] s = some (.ref a)) (A : Arr s s.heap a cl ty) : cl.slots.size < 2 ^ 31 ∧ cl.slots.size.toInt32 = z := by
  have q := A.fin (Vm.Alike.refl _)
  simp [Term.eval, ht, q] at h
  exact ⟨h.1, h.2⟩
set_option maxRecDepth 65536 in
set_option maxHeartbeats 40000000 in
theorem comes_1 {Post : Tables → Env → Array Value → State → Outcome → State → Prop} (hpost : ∀ tb e args s v u, (limb_1_1.after args s (.returned v) u = true ∧ limb_1_2.after args s (.returned v) u = true ∧ True) → ReturnedEndW s (.returned v) u (Jvm.fieldLocs frame_1_writes args s ++ Jvm.arrayLocs frame_1_arrays args s ++ Jvm.staticLocs frame_1_statics s) 64 5376 → Post tb e args s (.returned v) u) :
    ArmFor flags0 classFile x code maxLocals ret World_1 tables_1 room_1 Calls_1 rest_1 Pre_1 Post := by
  intro l hfl _ _ p e ha hc hk s m args below hf hA hF happ hP
  obtain ⟨hcalls, hrest, hpre⟩ := hP
  obtain ⟨-, -, -, hnamed, -, -, -, hat⟩ := (Spec.applies_iff hf).mp happ
  obtain ⟨hg, hn⟩ := and_e (Cond.before_iff.mp (show (Jvm.Cond.and given_1 narrow_1).before args s = true from hpre))
  obtain ⟨gc, gr0⟩ := and_e hg
  obtain ⟨ga0, gr1⟩ := and_e gr0
  obtain ⟨ga1, gr2⟩ := and_e gr1
  obtain ⟨ga2, ga3⟩ := and_e gr2
  obtain ⟨w0, w1, w2, w3, rfl⟩ : ∃ w0 w1 w2 w3 : Value, args = #[w0, w1, w2, w3] := by
    have hs : args.size = 4 := by simpa [Cond.value, given_1] using gc
    obtain ⟨L⟩ := args
    match L, hs with
    | [w0, w1, w2, w3], _ => exact ⟨w0, w1, w2, w3, rfl⟩
  have hw := fun d (hd : d ∈ tables_1) => atoms_spec (ws := Jvm.Cond.code x code maxLocals ret :: tables_1) hat d (List.mem_cons_of_mem _ hd)
  have hfit : Fit s := fun {y c} hc i hi => by
    obtain ⟨ha, rfl⟩ := Array.getElem?_eq_some_iff.mp hc
    have q := List.all_eq_true.mp ((Array.all_eq_true_iff_forall_mem.mp hF) _ (Array.getElem_mem ha)) i (List.mem_range.mpr hi)
    simpa [Array.getElem?_eq_getElem hi] using q
  obtain ⟨hsets, hown0⟩ := atoms_of _ (rest_1_c_eq ▸ (show rest_1_c.before _ s = true from hrest))
  obtain ⟨i0, ei0⟩ := is_v ga0
  obtain rfl : w0 = (.int i0) := Option.some.inj ei0
  obtain ⟨i1, ei1⟩ := is_v ga1
  obtain rfl : w1 = (.int i1) := Option.some.inj ei1
  obtain ⟨i2, ei2⟩ := is_v ga2
  obtain rfl : w2 = (.int i2) := Option.some.inj ei2
  obtain ⟨i3, ei3⟩ := is_v ga3
  obtain rfl : w3 = (.int i3) := Option.some.inj ei3
  obtain ⟨cs, ecs⟩ := is_v (Cond.before_iff.mp (hsets _ (List.mem_of_getElem? (i := 17) rfl)))
  have SC := Sta.start ecs (Or.inl (hsets _ (List.mem_of_getElem? (i := 16) rfl)))
  have hcs : ¬ cs = 0 := gotF (own_eqN ecs (Term.int_eval 0)) (not_v (Cond.before_iff.mp (hsets _ (List.mem_of_getElem? (i := 18) rfl))))
  have hde := Cond.before_iff.mp (hsets _ (List.mem_of_getElem? (i := 7) rfl))
  obtain ⟨de, vde⟩ := exa_v hde
  have EDE := Exa.start vde hde
  have SDE := Sta.start vde (Or.inr ⟨(hw _ (List.mem_of_getElem? (i := 14) rfl)), (hsets _ (List.mem_of_getElem? (i := 2) rfl))⟩)
  obtain ⟨cl, Ade⟩ := Arr.start vde (Cond.before_iff.mp (hsets _ (List.mem_of_getElem? (i := 6) rfl)))
  have lde := own_len (own_eqI (Cond.before_iff.mp (hsets _ (List.mem_of_getElem? (i := 8) rfl)))) vde Ade
  have ADE := Arv.start (dv := .null) (vs := []) hfit Ade lde.1 lde.2 (by decide) rfl trivial
  have hes := Cond.before_iff.mp (hsets _ (List.mem_of_getElem? (i := 11) rfl))
  obtain ⟨es, ves⟩ := exa_v hes
  have EES := Exa.start ves hes
  have SES := Sta.start ves (Or.inl (hsets _ (List.mem_of_getElem? (i := 10) rfl)))
  obtain ⟨cm, km, mr, MR⟩ := hcalls.1
  have MR' : Mir s "[Ljava/lang/Object;" mr := ⟨cm, km, MR⟩
  have WW : own_W s de mr es cl.cls := ⟨⟨cs, hcs, SC⟩, SDE, ADE, EDE, MR', SES, EES⟩
  have hC : CHv s own_EL s.vm s.heap := CHv.start (own_ew hw) (fun p hp => hcalls.2.1 p hp) (hsets _ (List.mem_of_getElem? (i := 18) rfl)) (hw _ (List.mem_of_getElem? (i := 7) rfl)) (hw _ (List.mem_of_getElem? (i := 6) rfl))
  obtain ⟨n, o, h1, h2, h3, _, L, rfl, ⟨rfl, N⟩, -, hq⟩ := rm0 l s _ hw tables_1 i0 i1 i2 i3 de mr es cl.cls s.heap s.heap.size (Nat.le_refl _) (Old.start s) WW p e ha hc hk s m _ below hf ((Spec.applies_iff_loose hf).mp happ).1 ⟨rfl, State.Warmed39.refl s, rfl, hC, all0⟩ trivial
  refine ⟨n, _, h1, h2, h3, hpost _ _ _ _ _ _ ⟨Cond.after_iff.mpr rfl, Cond.after_iff.mpr (eq_i res_at (Term.int_eval (1)) rfl), trivial⟩ ⟨hq.1, hq.2.1, hq.2.2.1, (hq.2.2.2.sift fun y hy => Or.inr (N y hy)).mono (by decide) (by decide)⟩⟩
theorem main_1_1 : Claimed_1_1 := comes_1 fun _ _ _ _ _ _ h hF => ⟨h.1, hF⟩
theorem main_1_2 : Claimed_1_2 := comes_1 fun _ _ _ _ _ _ h hF => ⟨h.2.1, hF⟩
end Jvm.Pilot.@@N@@
namespace Jvm.Pilot.@@N@@
open Jvm Jvm.ClassFile Sem Op Lib Jvm.Free Jvm.Stand Jvm.Pilot.@@N@@.Jvm.D
/-! MADE BY PROGRAM (witnessworld.py) out of the Statement's table words and the real class files: 40 classes; the members and pool entries that the words name. The judged class is class 1, her method 1. -/
namespace start1
open Jvm.ClassFile
def u (s : String) : CpInfo := .utf8 (stringToUtf16 s)
/-- a pool by its gaps: so many unusable entries, then the entry; so many at the end -/
def gap : Nat → List CpInfo → List CpInfo
  | 0, r => r
  | n + 1, r => .unusable :: gap n r
def poolList (es : List (Nat × CpInfo)) (last : Nat) : List CpInfo := es.foldr (fun e r => gap e.1 (e.2 :: r)) (gap last [])
def pool (es : List (Nat × CpInfo)) (last : Nat) : Array CpInfo := ⟨poolList es last⟩
def fileOf (pool : Array CpInfo) (this : Nat) (attrs : Array Attribute := #[]) (ms : Array MethodInfo := #[]) (fl : Nat := 33) (sup : Nat := 0) (ifs : Array Nat := #[]) (fds : Array FieldInfo := #[]) : ClassFile where
  minorVersion := 0
  majorVersion := 65
  constantPool := pool
  accessFlags := fl
  thisClass := this
  superClass := sup
  interfaces := ifs
  fields := fds
  methods := ms
  attributes := attrs
def plain (name : String) (sup : Option ClassId) : Class where
  name := name
  kind := .ordinary
  loader := none
  accessFlags := 33
  super := sup
  interfaces := #[]
  cf := none
  fields := #[]
  methods := #[]
  instanceTypes := #[]
  staticTypes := #[]
  resolved := #[]
  callSites := []
  init := .initialized
  statics := none
  mirror := none

def pool0 : Array CpInfo := pool [(5, u "<init>"), (0, u "()V"), (1, .class_ 10), (1, u "java/lang/Object"), (0, u "getClass"), (0, u "()Ljava/lang/Class;")] 111

def k0c0 : Code := { maxStack := 0, maxLocals := 1, code := object_method_1_code, exceptionTable := #[], attributes := #[] }
def k0m0 : Method := { name := "<init>", desc := "()V", sig := { parameters := [], returnType := none }, accessFlags := 1, code := some k0c0 }
def k0m1 : Method := { name := "getClass", desc := "()Ljava/lang/Class;", sig := { parameters := [], returnType := some (.object "java/lang/Class") }, accessFlags := 273, code := none }
/-- java/lang/Object -/
def k0 : Class := { plain "java/lang/Object" none with
  accessFlags := 33
  interfaces := #[]
  cf := some (fileOf pool0 8 #[] #[{ accessFlags := 1, nameIndex := 5, descriptorIndex := 6, attributes := #[] }, { accessFlags := 273, nameIndex := 11, descriptorIndex := 12, attributes := #[] }] 33 0 #[] #[])
  fields := #[]
  methods := #[k0m0, k0m1]
  instanceTypes := #[]
  staticTypes := #[]
  resolved := Array.replicate 124 none
  statics := none }

def pool1 : Array CpInfo := pool [(2, .class_ 4), (0, .nameAndType 5 6), (0, u "java/lang/Object"), (0, u "<init>"), (0, u "()V"), (0, .methodref 8 9), (0, .class_ 10), (0, .nameAndType 11 12), (0, u "com/example/convoke/convoke/apply/KeptOverrideIsMadePinLaw"), (0, u "madeFor"), (0, u "(IIII)Ljava/lang/String;"), (0, .string 14), (0, u "VEVENT"), (0, .class_ 16), (0, u "java/util/ArrayList"), (0, .methodref 15 3), (0, .methodref 19 20), (0, .class_ 21), (0, .nameAndType 22 23), (0, u "com/example/convoke/convoke/icalendar/Component"), (0, u "of"), (0, u "(Ljava/lang/String;Ljava/util/List;Ljava/util/List;)Lcom/example/convoke/convoke/icalendar/Component;"), (0, .string 25), (0, u "VTODO"), (0, .methodref 27 28), (0, .class_ 29), (0, .nameAndType 30 31), (0, u "com/example/convoke/convoke/apply/KeptOverride"), (0, u "received"), (0, u "(Lcom/example/convoke/convoke/icalendar/Component;)Lcom/example/convoke/convoke/apply/KeptOverride;"), (0, .methodref 27 33), (0, .nameAndType 34 35), (0, u "madeWithout"), (0, u "()Ljava/util/Set;"), (0, .methodref 27 37), (0, .nameAndType 5 38), (0, u "(Lcom/example/convoke/convoke/icalendar/Component;Ljava/lang/String;Ljava/util/Set;)V"), (0, .methodref 27 40), (0, .nameAndType 41 42), (0, u "isMade"), (0, u "()Z"), (0, .methodref 27 44), (0, .nameAndType 45 31), (0, u "with"), (0, .string 47), (0, u "REPLY"), (0, .string 49), (0, u "CANCEL"), (0, .class_ 51), (0, u "java/lang/String"), (0, .methodref 50 53), (0, .nameAndType 5 54), (0, u "([C)V"), (2, u "law"), (0, u "(IIII)Z")] 3

def k1m0 : Method := { name := "<init>", desc := "()V", sig := { parameters := [], returnType := none }, accessFlags := 2, code := none }
def k1c1 : Code := { maxStack := 5, maxLocals := 10, code := code, exceptionTable := #[], attributes := #[] }
def k1m1 : Method := { name := "law", desc := "(IIII)Z", sig := { parameters := [.int, .int, .int, .int], returnType := some .boolean }, accessFlags := 9, code := some k1c1 }
def k1c2 : Code := { maxStack := 6, maxLocals := 9, code := method_3_code, exceptionTable := #[], attributes := #[] }
def k1m2 : Method := { name := "madeFor", desc := "(IIII)Ljava/lang/String;", sig := { parameters := [.int, .int, .int, .int], returnType := some (.object "java/lang/String") }, accessFlags := 10, code := some k1c2 }
/-- com/example/convoke/convoke/apply/KeptOverrideIsMadePinLaw -/
def k1 : Class := { plain "com/example/convoke/convoke/apply/KeptOverrideIsMadePinLaw" (some 0) with
  accessFlags := 49
  interfaces := #[]
  cf := some (fileOf pool1 8 #[] #[{ accessFlags := 2, nameIndex := 5, descriptorIndex := 6, attributes := #[] }, { accessFlags := 9, nameIndex := 57, descriptorIndex := 58, attributes := #[] }, { accessFlags := 10, nameIndex := 11, descriptorIndex := 12, attributes := #[] }] 49 2 #[] #[])
  fields := #[]
  methods := #[k1m0, k1m1, k1m2]
  instanceTypes := #[]
  staticTypes := #[]
  resolved := Array.replicate 62 none
  statics := none }

def pool2 : Array CpInfo := pool [(1, .class_ 2), (0, u "java/io/Serializable"), (0, .class_ 4), (0, u "java/lang/Object")] 2

/-- java/io/Serializable -/
def k2 : Class := { plain "java/io/Serializable" (some 0) with
  accessFlags := 1537
  interfaces := #[]
  cf := some (fileOf pool2 1 #[] #[] 1537 3 #[] #[])
  fields := #[]
  methods := #[]
  instanceTypes := #[]
  staticTypes := #[]
  resolved := Array.replicate 7 none
  statics := none }

def pool3 : Array CpInfo := pool [(1, .class_ 2), (0, u "java/lang/Comparable"), (0, .class_ 4), (0, u "java/lang/Object")] 7

/-- java/lang/Comparable -/
def k3 : Class := { plain "java/lang/Comparable" (some 0) with
  accessFlags := 1537
  interfaces := #[]
  cf := some (fileOf pool3 1 #[] #[] 1537 3 #[] #[])
  fields := #[]
  methods := #[]
  instanceTypes := #[]
  staticTypes := #[]
  resolved := Array.replicate 12 none
  statics := none }

def pool4 : Array CpInfo := pool [(2, .class_ 4), (1, u "java/lang/CharSequence"), (42, .class_ 48), (0, u "java/lang/CharSequence$1CodePointIterator"), (10, .class_ 60), (0, u "java/lang/CharSequence$1CharIterator"), (5, .class_ 67), (0, u "java/lang/Object")] 63

/-- java/lang/CharSequence -/
def k4 : Class := { plain "java/lang/CharSequence" (some 0) with
  accessFlags := 1537
  interfaces := #[]
  cf := some (fileOf pool4 2 #[.nestMembers #[47, 59]] #[] 1537 66 #[] #[])
  fields := #[]
  methods := #[]
  instanceTypes := #[]
  staticTypes := #[]
  resolved := Array.replicate 131 none
  statics := none }

def pool5 : Array CpInfo := pool [(1, .class_ 2), (0, u "java/lang/constant/Constable"), (0, .class_ 4), (0, u "java/lang/Object")] 6

/-- java/lang/constant/Constable -/
def k5 : Class := { plain "java/lang/constant/Constable" (some 0) with
  accessFlags := 1537
  interfaces := #[]
  cf := some (fileOf pool5 1 #[] #[] 1537 3 #[] #[])
  fields := #[]
  methods := #[]
  instanceTypes := #[]
  staticTypes := #[]
  resolved := Array.replicate 11 none
  statics := none }

def pool6 : Array CpInfo := pool [(1, .class_ 2), (0, u "java/lang/constant/ConstantDesc"), (0, .class_ 4), (0, u "java/lang/Object")] 32

/-- java/lang/constant/ConstantDesc -/
def k6 : Class := { plain "java/lang/constant/ConstantDesc" (some 0) with
  accessFlags := 1537
  interfaces := #[]
  cf := some (fileOf pool6 1 #[] #[] 1537 3 #[] #[])
  fields := #[]
  methods := #[]
  instanceTypes := #[]
  staticTypes := #[]
  resolved := Array.replicate 37 none
  statics := none }

def pool7 : Array CpInfo := pool [(1, .methodref 2 3), (0, .class_ 4), (0, .nameAndType 5 6), (0, u "java/lang/Object"), (0, u "<init>"), (0, u "()V"), (0, .string 8), (0, u ""), (0, .fieldref 10 11), (0, .class_ 12), (0, .nameAndType 13 14), (0, u "java/lang/String"), (0, u "value"), (0, u "[B"), (0, .fieldref 10 16), (0, .nameAndType 17 18), (0, u "coder"), (0, u "B"), (2, u "hash"), (0, u "I"), (2, u "hashIsZero"), (0, u "Z"), (0, .methodref 10 28), (0, .nameAndType 5 29), (0, u "([CIILjava/lang/Void;)V"), (8, .fieldref 10 39), (0, .nameAndType 40 26), (0, u "COMPACT_STRINGS"), (1, .class_ 44), (1, u "java/lang/StringUTF16"), (0, u "compress"), (1, .methodref 42 48), (0, .nameAndType 49 50), (0, u "coderFromArrayLen"), (0, u "([BI)B"), (126, .methodref 42 178), (0, .nameAndType 45 179), (0, u "([CII)[B"), (395, .class_ 576), (0, u "java/lang/CharSequence"), (22, u "CASE_INSENSITIVE_ORDER"), (0, u "Ljava/util/Comparator;"), (409, u "([C)V"), (90, u "serialPersistentFields"), (0, u "[Ljava/io/ObjectStreamField;"), (0, .class_ 1104), (0, u "java/lang/String$CaseInsensitiveComparator"), (1, .class_ 1107), (0, u "java/io/Serializable"), (0, .class_ 1109), (0, u "java/lang/Comparable"), (0, .class_ 1111), (0, u "java/lang/constant/Constable"), (0, .class_ 1113), (0, u "java/lang/constant/ConstantDesc"), (2, u "serialVersionUID"), (0, u "J"), (3, u "REPL"), (0, u "C"), (2, u "LATIN1"), (1, u "UTF16")] 323

def k7m0 : Method := { name := "<init>", desc := "()V", sig := { parameters := [], returnType := none }, accessFlags := 1, code := none }
def k7c1 : Code := { maxStack := 5, maxLocals := 2, code := jdk_42_method_3_code, exceptionTable := #[], attributes := #[] }
def k7m1 : Method := { name := "<init>", desc := "([C)V", sig := { parameters := [(.array .char)], returnType := none }, accessFlags := 1, code := some k7c1 }
def k7c2 : Code := { maxStack := 4, maxLocals := 6, code := jdk_42_method_149_code, exceptionTable := #[], attributes := #[] }
def k7m2 : Method := { name := "<init>", desc := "([CIILjava/lang/Void;)V", sig := { parameters := [(.array .char), .int, .int, (.object "java/lang/Void")], returnType := none }, accessFlags := 2, code := some k7c2 }
/-- java/lang/String -/
def k7 : Class := { plain "java/lang/String" (some 0) with
  accessFlags := 49
  interfaces := #[2, 3, 4, 5, 6]
  cf := some (fileOf pool7 10 #[.nestMembers #[1103]] #[{ accessFlags := 1, nameIndex := 5, descriptorIndex := 6, attributes := #[] }, { accessFlags := 1, nameIndex := 5, descriptorIndex := 1010, attributes := #[] }, { accessFlags := 2, nameIndex := 5, descriptorIndex := 29, attributes := #[] }] 49 2 #[1106, 1108, 575, 1110, 1112] #[{ accessFlags := 18, nameIndex := 13, descriptorIndex := 14, attributes := #[] }, { accessFlags := 18, nameIndex := 17, descriptorIndex := 18, attributes := #[] }, { accessFlags := 2, nameIndex := 21, descriptorIndex := 22, attributes := #[] }, { accessFlags := 2, nameIndex := 25, descriptorIndex := 26, attributes := #[] }, { accessFlags := 26, nameIndex := 1116, descriptorIndex := 1117, attributes := #[] }, { accessFlags := 24, nameIndex := 40, descriptorIndex := 26, attributes := #[] }, { accessFlags := 26, nameIndex := 1101, descriptorIndex := 1102, attributes := #[] }, { accessFlags := 26, nameIndex := 1121, descriptorIndex := 1122, attributes := #[] }, { accessFlags := 25, nameIndex := 599, descriptorIndex := 600, attributes := #[] }, { accessFlags := 24, nameIndex := 1125, descriptorIndex := 18, attributes := #[] }, { accessFlags := 24, nameIndex := 1127, descriptorIndex := 18, attributes := #[] }])
  fields := #[{ name := "value", type := (.array .byte), accessFlags := 18, slot := 0, constantValue := 0 }, { name := "coder", type := .byte, accessFlags := 18, slot := 1, constantValue := 0 }, { name := "hash", type := .int, accessFlags := 2, slot := 2, constantValue := 0 }, { name := "hashIsZero", type := .boolean, accessFlags := 2, slot := 3, constantValue := 0 }, { name := "serialVersionUID", type := .long, accessFlags := 26, slot := 0, constantValue := 0 }, { name := "COMPACT_STRINGS", type := .boolean, accessFlags := 24, slot := 1, constantValue := 0 }, { name := "serialPersistentFields", type := (.array (.object "java/io/ObjectStreamField")), accessFlags := 26, slot := 2, constantValue := 0 }, { name := "REPL", type := .char, accessFlags := 26, slot := 3, constantValue := 0 }, { name := "CASE_INSENSITIVE_ORDER", type := (.object "java/util/Comparator"), accessFlags := 25, slot := 4, constantValue := 0 }, { name := "LATIN1", type := .byte, accessFlags := 24, slot := 5, constantValue := 0 }, { name := "UTF16", type := .byte, accessFlags := 24, slot := 6, constantValue := 0 }]
  methods := #[k7m0, k7m1, k7m2]
  instanceTypes := #[(.array .byte), .byte, .int, .boolean]
  staticTypes := #[.long, .boolean, (.array (.object "java/io/ObjectStreamField")), .char, (.object "java/util/Comparator"), .byte, .byte]
  resolved := Array.replicate 1451 none
  statics := some 0 }

def pool8 : Array CpInfo := pool [(8, .class_ 10), (1, u "java/lang/Iterable"), (24, .class_ 36), (0, u "java/lang/Object")] 25

/-- java/lang/Iterable -/
def k8 : Class := { plain "java/lang/Iterable" (some 0) with
  accessFlags := 1537
  interfaces := #[]
  cf := some (fileOf pool8 8 #[] #[] 1537 35 #[] #[])
  fields := #[]
  methods := #[]
  instanceTypes := #[]
  staticTypes := #[]
  resolved := Array.replicate 62 none
  statics := none }

def pool9 : Array CpInfo := pool [(10, .class_ 12), (1, u "java/util/Collection"), (0, u "toArray"), (46, .class_ 61), (0, u "java/lang/Object"), (0, .class_ 63), (0, u "java/lang/Iterable"), (6, u "()[Ljava/lang/Object;")] 44

def k9m0 : Method := { name := "toArray", desc := "()[Ljava/lang/Object;", sig := { parameters := [], returnType := some (.array (.object "java/lang/Object")) }, accessFlags := 1025, code := none }
/-- java/util/Collection -/
def k9 : Class := { plain "java/util/Collection" (some 0) with
  accessFlags := 1537
  interfaces := #[8]
  cf := some (fileOf pool9 10 #[] #[{ accessFlags := 1025, nameIndex := 13, descriptorIndex := 70, attributes := #[] }] 1537 60 #[62] #[])
  fields := #[]
  methods := #[k9m0]
  instanceTypes := #[]
  staticTypes := #[]
  resolved := Array.replicate 115 none
  statics := none }

def pool10 : Array CpInfo := pool [(1, .methodref 2 3), (0, .class_ 4), (0, .nameAndType 5 6), (0, u "java/lang/Object"), (0, u "<init>"), (0, u "()V"), (1, .class_ 10), (1, u "java/util/AbstractCollection"), (66, .class_ 78), (0, u "java/util/Collection")] 81

def k10c0 : Code := { maxStack := 1, maxLocals := 1, code := jdk_22_method_1_code, exceptionTable := #[], attributes := #[] }
def k10m0 : Method := { name := "<init>", desc := "()V", sig := { parameters := [], returnType := none }, accessFlags := 4, code := some k10c0 }
/-- java/util/AbstractCollection -/
def k10 : Class := { plain "java/util/AbstractCollection" (some 0) with
  accessFlags := 1057
  interfaces := #[9]
  cf := some (fileOf pool10 8 #[] #[{ accessFlags := 4, nameIndex := 5, descriptorIndex := 6, attributes := #[] }] 1057 2 #[77] #[])
  fields := #[]
  methods := #[k10m0]
  instanceTypes := #[]
  staticTypes := #[]
  resolved := Array.replicate 160 none
  statics := none }

def pool11 : Array CpInfo := pool [(8, .class_ 10), (1, u "java/util/SequencedCollection"), (15, .class_ 27), (0, u "java/lang/Object"), (0, .class_ 29), (0, u "java/util/Collection")] 27

/-- java/util/SequencedCollection -/
def k11 : Class := { plain "java/util/SequencedCollection" (some 0) with
  accessFlags := 1537
  interfaces := #[9]
  cf := some (fileOf pool11 8 #[] #[] 1537 26 #[28] #[])
  fields := #[]
  methods := #[]
  instanceTypes := #[]
  staticTypes := #[]
  resolved := Array.replicate 57 none
  statics := none }

def pool12 : Array CpInfo := pool [(8, .class_ 10), (1, u "java/util/List"), (92, .class_ 104), (0, u "java/lang/Object"), (15, .class_ 121), (0, u "java/util/SequencedCollection"), (9, u "(Ljava/util/Collection;)Z"), (1, u "addAll")] 117

def k12m0 : Method := { name := "addAll", desc := "(Ljava/util/Collection;)Z", sig := { parameters := [(.object "java/util/Collection")], returnType := some .boolean }, accessFlags := 1025, code := none }
/-- java/util/List -/
def k12 : Class := { plain "java/util/List" (some 0) with
  accessFlags := 1537
  interfaces := #[11]
  cf := some (fileOf pool12 8 #[] #[{ accessFlags := 1025, nameIndex := 133, descriptorIndex := 131, attributes := #[] }] 1537 103 #[120] #[])
  fields := #[]
  methods := #[k12m0]
  instanceTypes := #[]
  staticTypes := #[]
  resolved := Array.replicate 251 none
  statics := none }

def pool13 : Array CpInfo := pool [(1, .methodref 2 3), (0, .class_ 4), (0, .nameAndType 5 6), (0, u "java/util/AbstractCollection"), (0, u "<init>"), (0, u "()V"), (0, .fieldref 8 9), (0, .class_ 10), (0, .nameAndType 11 12), (0, u "java/util/AbstractList"), (0, u "modCount"), (0, u "I"), (64, .class_ 78), (0, u "java/util/AbstractList$Itr"), (3, .class_ 83), (0, u "java/util/AbstractList$ListItr"), (9, .class_ 94), (0, u "java/util/AbstractList$RandomAccessSubList"), (3, .class_ 99), (0, u "java/util/AbstractList$SubList"), (33, .class_ 134), (0, u "java/util/List"), (73, .class_ 209), (0, u "java/util/AbstractList$SubList$1"), (0, .class_ 211), (0, u "java/util/AbstractList$RandomAccessSpliterator")] 6

def k13c0 : Code := { maxStack := 2, maxLocals := 1, code := jdk_39_method_1_code, exceptionTable := #[], attributes := #[] }
def k13m0 : Method := { name := "<init>", desc := "()V", sig := { parameters := [], returnType := none }, accessFlags := 4, code := some k13c0 }
/-- java/util/AbstractList -/
def k13 : Class := { plain "java/util/AbstractList" (some 10) with
  accessFlags := 1057
  interfaces := #[12]
  cf := some (fileOf pool13 8 #[.nestMembers #[93, 98, 208, 210, 82, 77]] #[{ accessFlags := 4, nameIndex := 5, descriptorIndex := 6, attributes := #[] }] 1057 2 #[133] #[{ accessFlags := 132, nameIndex := 11, descriptorIndex := 12, attributes := #[] }])
  fields := #[{ name := "modCount", type := .int, accessFlags := 132, slot := 0, constantValue := 0 }]
  methods := #[k13m0]
  instanceTypes := #[.int]
  staticTypes := #[]
  resolved := Array.replicate 218 none
  statics := none }

def pool14 : Array CpInfo := pool [(1, .class_ 2), (0, u "java/util/RandomAccess"), (0, .class_ 4), (0, u "java/lang/Object")] 2

/-- java/util/RandomAccess -/
def k14 : Class := { plain "java/util/RandomAccess" (some 0) with
  accessFlags := 1537
  interfaces := #[]
  cf := some (fileOf pool14 1 #[] #[] 1537 3 #[] #[])
  fields := #[]
  methods := #[]
  instanceTypes := #[]
  staticTypes := #[]
  resolved := Array.replicate 7 none
  statics := none }

def pool15 : Array CpInfo := pool [(1, .class_ 2), (0, u "java/lang/Cloneable"), (0, .class_ 4), (0, u "java/lang/Object")] 2

/-- java/lang/Cloneable -/
def k15 : Class := { plain "java/lang/Cloneable" (some 0) with
  accessFlags := 1537
  interfaces := #[]
  cf := some (fileOf pool15 1 #[] #[] 1537 3 #[] #[])
  fields := #[]
  methods := #[]
  instanceTypes := #[]
  staticTypes := #[]
  resolved := Array.replicate 7 none
  statics := none }

def pool16 : Array CpInfo := pool [(1, .methodref 2 3), (0, .class_ 4), (0, .nameAndType 5 6), (0, u "java/util/AbstractList"), (0, u "<init>"), (0, u "()V"), (2, .fieldref 10 11), (0, .class_ 12), (0, .nameAndType 13 14), (0, u "java/util/ArrayList"), (0, u "elementData"), (0, u "[Ljava/lang/Object;"), (2, u "EMPTY_ELEMENTDATA"), (21, .fieldref 10 40), (0, .nameAndType 41 14), (0, u "DEFAULTCAPACITY_EMPTY_ELEMENTDATA"), (0, .interfaceMethodref 43 44), (0, .class_ 45), (0, .nameAndType 46 47), (0, u "java/util/Collection"), (0, u "toArray"), (0, u "()[Ljava/lang/Object;"), (0, .fieldref 10 49), (0, .nameAndType 50 51), (0, u "size"), (0, u "I"), (6, .class_ 60), (1, u "java/util/Arrays"), (0, u "copyOf"), (1, .fieldref 10 64), (0, .nameAndType 65 51), (0, u "modCount"), (0, .methodref 58 67), (0, .nameAndType 61 68), (0, u "([Ljava/lang/Object;I)[Ljava/lang/Object;"), (79, .class_ 149), (0, u "java/util/List"), (112, .class_ 263), (0, u "java/util/ArrayList$ListItr"), (3, .class_ 268), (0, u "java/util/ArrayList$Itr"), (7, .class_ 277), (0, u "java/util/ArrayList$SubList"), (12, .class_ 291), (0, u "java/util/ArrayList$ArrayListSpliterator"), (37, .class_ 330), (0, u "java/util/RandomAccess"), (0, .class_ 332), (0, u "java/lang/Cloneable"), (0, .class_ 334), (0, u "java/io/Serializable"), (0, u "serialVersionUID"), (0, u "J"), (3, u "DEFAULT_CAPACITY"), (79, u "addAll"), (0, u "(Ljava/util/Collection;)Z"), (78, .class_ 501), (0, u "java/util/ArrayList$SubList$2"), (0, .class_ 503), (0, u "java/util/ArrayList$SubList$1")] 5

def k16c0 : Code := { maxStack := 2, maxLocals := 1, code := jdk_38_method_2_code, exceptionTable := #[], attributes := #[] }
def k16m0 : Method := { name := "<init>", desc := "()V", sig := { parameters := [], returnType := none }, accessFlags := 1, code := some k16c0 }
def k16c1 : Code := { maxStack := 2, maxLocals := 1, code := jdk_38_method_16_code, exceptionTable := #[], attributes := #[] }
def k16m1 : Method := { name := "toArray", desc := "()[Ljava/lang/Object;", sig := { parameters := [], returnType := some (.array (.object "java/lang/Object")) }, accessFlags := 1, code := some k16c1 }
def k16c2 : Code := { maxStack := 5, maxLocals := 6, code := jdk_38_method_41_code, exceptionTable := #[], attributes := #[] }
def k16m2 : Method := { name := "addAll", desc := "(Ljava/util/Collection;)Z", sig := { parameters := [(.object "java/util/Collection")], returnType := some .boolean }, accessFlags := 1, code := some k16c2 }
/-- java/util/ArrayList -/
def k16 : Class := { plain "java/util/ArrayList" (some 13) with
  accessFlags := 33
  interfaces := #[12, 14, 15, 2]
  cf := some (fileOf pool16 10 #[.nestMembers #[290, 276, 500, 502, 262, 267]] #[{ accessFlags := 1, nameIndex := 5, descriptorIndex := 6, attributes := #[] }, { accessFlags := 1, nameIndex := 46, descriptorIndex := 47, attributes := #[] }, { accessFlags := 1, nameIndex := 420, descriptorIndex := 421, attributes := #[] }] 33 2 #[148, 329, 331, 333] #[{ accessFlags := 26, nameIndex := 335, descriptorIndex := 336, attributes := #[] }, { accessFlags := 26, nameIndex := 340, descriptorIndex := 51, attributes := #[] }, { accessFlags := 26, nameIndex := 17, descriptorIndex := 14, attributes := #[] }, { accessFlags := 26, nameIndex := 41, descriptorIndex := 14, attributes := #[] }, { accessFlags := 128, nameIndex := 13, descriptorIndex := 14, attributes := #[] }, { accessFlags := 2, nameIndex := 50, descriptorIndex := 51, attributes := #[] }])
  fields := #[{ name := "serialVersionUID", type := .long, accessFlags := 26, slot := 0, constantValue := 0 }, { name := "DEFAULT_CAPACITY", type := .int, accessFlags := 26, slot := 1, constantValue := 0 }, { name := "EMPTY_ELEMENTDATA", type := (.array (.object "java/lang/Object")), accessFlags := 26, slot := 2, constantValue := 0 }, { name := "DEFAULTCAPACITY_EMPTY_ELEMENTDATA", type := (.array (.object "java/lang/Object")), accessFlags := 26, slot := 3, constantValue := 0 }, { name := "elementData", type := (.array (.object "java/lang/Object")), accessFlags := 128, slot := 1, constantValue := 0 }, { name := "size", type := .int, accessFlags := 2, slot := 2, constantValue := 0 }]
  methods := #[k16m0, k16m1, k16m2]
  instanceTypes := #[.int, (.array (.object "java/lang/Object")), .int]
  staticTypes := #[.long, .int, (.array (.object "java/lang/Object")), (.array (.object "java/lang/Object"))]
  resolved := Array.replicate 509 none
  statics := some 1 }

def pool17 : Array CpInfo := pool [(1, .methodref 2 3), (0, .class_ 4), (0, .nameAndType 5 6), (0, u "java/lang/Object"), (0, u "<init>"), (0, u "()V"), (0, .class_ 8), (0, u "java/util/ArrayList"), (0, .methodref 7 3), (0, .fieldref 11 12), (0, .class_ 13), (0, .nameAndType 14 15), (0, u "com/example/convoke/convoke/icalendar/Component"), (0, u "properties"), (0, u "Ljava/util/List;"), (0, .fieldref 11 17), (0, .nameAndType 18 15), (0, u "components"), (0, .fieldref 11 20), (0, .nameAndType 21 22), (0, u "name"), (0, u "Ljava/lang/String;"), (0, .fieldref 11 24), (0, .nameAndType 25 26), (0, u "line"), (0, u "I"), (0, .methodref 11 28), (0, .nameAndType 5 29), (0, u "(Ljava/lang/String;I)V"), (0, .interfaceMethodref 31 32), (0, .class_ 33), (0, .nameAndType 34 35), (0, u "java/util/List"), (0, u "addAll"), (0, u "(Ljava/util/Collection;)Z"), (4, u "HEADING"), (2, u "of"), (0, u "(Ljava/lang/String;Ljava/util/List;Ljava/util/List;)Lcom/example/convoke/convoke/icalendar/Component;"), (7, .class_ 54), (1, u "com/example/convoke/convoke/icalendar/Component$Key"), (62, u "firstByName"), (0, u "Ljava/util/Map;"), (2, u "firstAttendees"), (2, u "WALKED_ONCE"), (33, u "TZID"), (74, u "CALENDAR"), (1, u "TIME_ZONE"), (0, u "ATTENDEE"), (1, u "MOST_WALKED")] 39

def k17c0 : Code := { maxStack := 3, maxLocals := 3, code := prog_90_method_1_code, exceptionTable := #[], attributes := #[] }
def k17m0 : Method := { name := "<init>", desc := "(Ljava/lang/String;I)V", sig := { parameters := [(.object "java/lang/String"), .int], returnType := none }, accessFlags := 0, code := some k17c0 }
def k17c1 : Code := { maxStack := 4, maxLocals := 4, code := prog_90_method_2_code, exceptionTable := #[], attributes := #[] }
def k17m1 : Method := { name := "of", desc := "(Ljava/lang/String;Ljava/util/List;Ljava/util/List;)Lcom/example/convoke/convoke/icalendar/Component;", sig := { parameters := [(.object "java/lang/String"), (.object "java/util/List"), (.object "java/util/List")], returnType := some (.object "com/example/convoke/convoke/icalendar/Component") }, accessFlags := 9, code := some k17c1 }
/-- com/example/convoke/convoke/icalendar/Component -/
def k17 : Class := { plain "com/example/convoke/convoke/icalendar/Component" (some 0) with
  accessFlags := 49
  interfaces := #[]
  cf := some (fileOf pool17 11 #[.nestMembers #[52]] #[{ accessFlags := 0, nameIndex := 5, descriptorIndex := 29, attributes := #[] }, { accessFlags := 9, nameIndex := 43, descriptorIndex := 44, attributes := #[] }] 49 2 #[] #[{ accessFlags := 26, nameIndex := 233, descriptorIndex := 22, attributes := #[] }, { accessFlags := 26, nameIndex := 235, descriptorIndex := 22, attributes := #[] }, { accessFlags := 26, nameIndex := 158, descriptorIndex := 22, attributes := #[] }, { accessFlags := 26, nameIndex := 236, descriptorIndex := 22, attributes := #[] }, { accessFlags := 26, nameIndex := 238, descriptorIndex := 26, attributes := #[] }, { accessFlags := 26, nameIndex := 124, descriptorIndex := 118, attributes := #[] }, { accessFlags := 26, nameIndex := 40, descriptorIndex := 15, attributes := #[] }, { accessFlags := 18, nameIndex := 21, descriptorIndex := 22, attributes := #[] }, { accessFlags := 18, nameIndex := 25, descriptorIndex := 26, attributes := #[] }, { accessFlags := 18, nameIndex := 14, descriptorIndex := 15, attributes := #[] }, { accessFlags := 18, nameIndex := 18, descriptorIndex := 15, attributes := #[] }, { accessFlags := 2, nameIndex := 117, descriptorIndex := 118, attributes := #[] }, { accessFlags := 2, nameIndex := 121, descriptorIndex := 118, attributes := #[] }])
  fields := #[{ name := "CALENDAR", type := (.object "java/lang/String"), accessFlags := 26, slot := 0, constantValue := 0 }, { name := "TIME_ZONE", type := (.object "java/lang/String"), accessFlags := 26, slot := 1, constantValue := 0 }, { name := "TZID", type := (.object "java/lang/String"), accessFlags := 26, slot := 2, constantValue := 0 }, { name := "ATTENDEE", type := (.object "java/lang/String"), accessFlags := 26, slot := 3, constantValue := 0 }, { name := "MOST_WALKED", type := .int, accessFlags := 26, slot := 4, constantValue := 0 }, { name := "WALKED_ONCE", type := (.object "java/util/Map"), accessFlags := 26, slot := 5, constantValue := 0 }, { name := "HEADING", type := (.object "java/util/List"), accessFlags := 26, slot := 6, constantValue := 0 }, { name := "name", type := (.object "java/lang/String"), accessFlags := 18, slot := 0, constantValue := 0 }, { name := "line", type := .int, accessFlags := 18, slot := 1, constantValue := 0 }, { name := "properties", type := (.object "java/util/List"), accessFlags := 18, slot := 2, constantValue := 0 }, { name := "components", type := (.object "java/util/List"), accessFlags := 18, slot := 3, constantValue := 0 }, { name := "firstByName", type := (.object "java/util/Map"), accessFlags := 2, slot := 4, constantValue := 0 }, { name := "firstAttendees", type := (.object "java/util/Map"), accessFlags := 2, slot := 5, constantValue := 0 }]
  methods := #[k17m0, k17m1]
  instanceTypes := #[(.object "java/lang/String"), .int, (.object "java/util/List"), (.object "java/util/List"), (.object "java/util/Map"), (.object "java/util/Map")]
  staticTypes := #[(.object "java/lang/String"), (.object "java/lang/String"), (.object "java/lang/String"), (.object "java/lang/String"), .int, (.object "java/util/Map"), (.object "java/util/List")]
  resolved := Array.replicate 278 none
  statics := none }

def pool18 : Array CpInfo := pool [(2, .class_ 4), (1, u "java/lang/Object"), (0, u "<init>"), (0, u "()V"), (7, .class_ 16), (1, u "java/util/Arrays"), (57, .class_ 76), (1, u "java/util/Arrays$NaturalOrder"), (9, .methodref 2 87), (0, .nameAndType 88 89), (0, u "getClass"), (0, u "()Ljava/lang/Class;"), (20, .class_ 111), (0, u "[Ljava/lang/Object;"), (1, .class_ 115), (1, u "java/util/Arrays$LegacyMergeSort"), (1, u "Z"), (32, .methodref 151 152), (0, .class_ 153), (0, .nameAndType 154 155), (0, u "java/lang/System"), (0, u "arraycopy"), (0, u "(Ljava/lang/Object;ILjava/lang/Object;II)V"), (144, .methodref 14 301), (0, .nameAndType 302 303), (0, u "copyOf"), (0, u "([Ljava/lang/Object;ILjava/lang/Class;)[Ljava/lang/Object;"), (0, .methodref 305 306), (0, .class_ 307), (0, .nameAndType 308 309), (0, u "java/lang/Math"), (0, u "min"), (0, u "(II)I"), (65, .class_ 376), (0, u "java/util/Arrays$ArrayList"), (68, u "$assertionsDisabled"), (269, u "MIN_ARRAY_SORT_GRAN"), (0, u "I"), (2, u "INSERTIONSORT_THRESHOLD"), (140, u "([Ljava/lang/Object;I)[Ljava/lang/Object;"), (114, .class_ 976), (0, u "java/util/Arrays$ArrayItr")] 52

def k18m0 : Method := { name := "<init>", desc := "()V", sig := { parameters := [], returnType := none }, accessFlags := 2, code := none }
def k18c1 : Code := { maxStack := 3, maxLocals := 2, code := jdk_65_method_119_code, exceptionTable := #[], attributes := #[] }
def k18m1 : Method := { name := "copyOf", desc := "([Ljava/lang/Object;I)[Ljava/lang/Object;", sig := { parameters := [(.array (.object "java/lang/Object")), .int], returnType := some (.array (.object "java/lang/Object")) }, accessFlags := 9, code := some k18c1 }
def k18c2 : Code := { maxStack := 6, maxLocals := 4, code := jdk_65_method_120_code, exceptionTable := #[], attributes := #[] }
def k18m2 : Method := { name := "copyOf", desc := "([Ljava/lang/Object;ILjava/lang/Class;)[Ljava/lang/Object;", sig := { parameters := [(.array (.object "java/lang/Object")), .int, (.object "java/lang/Class")], returnType := some (.array (.object "java/lang/Object")) }, accessFlags := 9, code := some k18c2 }
/-- java/util/Arrays -/
def k18 : Class := { plain "java/util/Arrays" (some 0) with
  accessFlags := 49
  interfaces := #[]
  cf := some (fileOf pool18 14 #[.nestMembers #[975, 375, 113, 74]] #[{ accessFlags := 2, nameIndex := 5, descriptorIndex := 6, attributes := #[] }, { accessFlags := 9, nameIndex := 302, descriptorIndex := 860, attributes := #[] }, { accessFlags := 9, nameIndex := 302, descriptorIndex := 303, attributes := #[] }] 49 2 #[] #[{ accessFlags := 26, nameIndex := 715, descriptorIndex := 716, attributes := #[] }, { accessFlags := 26, nameIndex := 719, descriptorIndex := 716, attributes := #[] }, { accessFlags := 4120, nameIndex := 445, descriptorIndex := 117, attributes := #[] }])
  fields := #[{ name := "MIN_ARRAY_SORT_GRAN", type := .int, accessFlags := 26, slot := 0, constantValue := 0 }, { name := "INSERTIONSORT_THRESHOLD", type := .int, accessFlags := 26, slot := 1, constantValue := 0 }, { name := "$assertionsDisabled", type := .boolean, accessFlags := 4120, slot := 2, constantValue := 0 }]
  methods := #[k18m0, k18m1, k18m2]
  instanceTypes := #[]
  staticTypes := #[.int, .int, .boolean]
  resolved := Array.replicate 1029 none
  statics := none }

def pool19 : Array CpInfo := pool [(1, .class_ 2), (0, u "java/lang/Math"), (1, .class_ 6), (1, u "java/lang/Object"), (0, u "<init>"), (0, u "()V"), (89, .class_ 100), (1, u "java/lang/Math$RandomNumberGeneratorHolder"), (71, u "negativeZeroFloatBits"), (0, u "J"), (2, u "negativeZeroDoubleBits"), (24, u "min"), (43, u "$assertionsDisabled"), (0, u "Z"), (88, u "(II)I"), (2, u "twoToTheDoubleScaleDown"), (0, u "D"), (4, u "twoToTheDoubleScaleUp"), (9, u "E"), (3, u "PI"), (2, u "TAU"), (2, u "DEGREES_TO_RADIANS"), (0, u "RADIANS_TO_DEGREES")] 94

def k19m0 : Method := { name := "<init>", desc := "()V", sig := { parameters := [], returnType := none }, accessFlags := 2, code := none }
def k19c1 : Code := { maxStack := 2, maxLocals := 2, code := jdk_29_method_69_code, exceptionTable := #[], attributes := #[] }
def k19m1 : Method := { name := "min", desc := "(II)I", sig := { parameters := [.int, .int], returnType := some .int }, accessFlags := 9, code := some k19c1 }
/-- java/lang/Math -/
def k19 : Class := { plain "java/lang/Math" (some 0) with
  accessFlags := 49
  interfaces := #[]
  cf := some (fileOf pool19 1 #[.nestMembers #[98]] #[{ accessFlags := 2, nameIndex := 7, descriptorIndex := 8, attributes := #[] }, { accessFlags := 9, nameIndex := 201, descriptorIndex := 335, attributes := #[] }] 49 4 #[] #[{ accessFlags := 25, nameIndex := 354, descriptorIndex := 339, attributes := #[] }, { accessFlags := 25, nameIndex := 358, descriptorIndex := 339, attributes := #[] }, { accessFlags := 25, nameIndex := 361, descriptorIndex := 339, attributes := #[] }, { accessFlags := 26, nameIndex := 364, descriptorIndex := 339, attributes := #[] }, { accessFlags := 26, nameIndex := 365, descriptorIndex := 339, attributes := #[] }, { accessFlags := 26, nameIndex := 172, descriptorIndex := 173, attributes := #[] }, { accessFlags := 26, nameIndex := 176, descriptorIndex := 173, attributes := #[] }, { accessFlags := 8, nameIndex := 344, descriptorIndex := 339, attributes := #[] }, { accessFlags := 8, nameIndex := 338, descriptorIndex := 339, attributes := #[] }, { accessFlags := 4120, nameIndex := 245, descriptorIndex := 246, attributes := #[] }])
  fields := #[{ name := "E", type := .double, accessFlags := 25, slot := 0, constantValue := 0 }, { name := "PI", type := .double, accessFlags := 25, slot := 1, constantValue := 0 }, { name := "TAU", type := .double, accessFlags := 25, slot := 2, constantValue := 0 }, { name := "DEGREES_TO_RADIANS", type := .double, accessFlags := 26, slot := 3, constantValue := 0 }, { name := "RADIANS_TO_DEGREES", type := .double, accessFlags := 26, slot := 4, constantValue := 0 }, { name := "negativeZeroFloatBits", type := .long, accessFlags := 26, slot := 5, constantValue := 0 }, { name := "negativeZeroDoubleBits", type := .long, accessFlags := 26, slot := 6, constantValue := 0 }, { name := "twoToTheDoubleScaleUp", type := .double, accessFlags := 8, slot := 7, constantValue := 0 }, { name := "twoToTheDoubleScaleDown", type := .double, accessFlags := 8, slot := 8, constantValue := 0 }, { name := "$assertionsDisabled", type := .boolean, accessFlags := 4120, slot := 9, constantValue := 0 }]
  methods := #[k19m0, k19m1]
  instanceTypes := #[]
  staticTypes := #[.double, .double, .double, .double, .double, .long, .long, .double, .double, .boolean]
  resolved := Array.replicate 460 none
  statics := none }

def pool20 : Array CpInfo := pool [(2, .class_ 4), (1, u "java/lang/Object"), (0, u "<init>"), (0, u "()V"), (1, .class_ 10), (1, u "java/lang/System"), (0, u "allowSecurityManager"), (0, u "I"), (16, u "cons"), (0, u "Ljava/io/Console;"), (77, .class_ 110), (1, u "java/lang/System$CallersHolder"), (43, u "initialErrStream"), (0, u "Ljava/io/PrintStream;"), (19, u "security"), (0, u "Ljava/lang/SecurityManager;"), (31, .class_ 209), (0, u "java/lang/System$1"), (7, u "props"), (0, u "Ljava/util/Properties;"), (2, u "lineSeparator"), (0, u "Ljava/lang/String;"), (96, .class_ 321), (1, u "java/lang/System$LoggerFinder"), (5, .class_ 328), (0, u "java/lang/System$Logger"), (67, u "err"), (2, u "out"), (91, u "notSupportedJnuEncoding"), (15, u "in"), (17, u "initialIn"), (0, u "Ljava/io/InputStream;"), (35, u "bootLayer"), (0, u "Ljava/lang/ModuleLayer;"), (99, .class_ 664), (0, u "java/lang/System$2"), (9, u "NEVER"), (2, u "MAYBE"), (49, u "arraycopy"), (0, u "(Ljava/lang/Object;ILjava/lang/Object;II)V"), (72, .class_ 802), (0, u "java/lang/System$Logger$Level")] 31

def k20m0 : Method := { name := "<init>", desc := "()V", sig := { parameters := [], returnType := none }, accessFlags := 2, code := none }
def k20m1 : Method := { name := "arraycopy", desc := "(Ljava/lang/Object;ILjava/lang/Object;II)V", sig := { parameters := [(.object "java/lang/Object"), .int, (.object "java/lang/Object"), .int, .int], returnType := none }, accessFlags := 265, code := none }
/-- java/lang/System -/
def k20 : Class := { plain "java/lang/System" (some 0) with
  accessFlags := 49
  interfaces := #[]
  cf := some (fileOf pool20 8 #[.nestMembers #[319, 327, 801, 108, 663, 208]] #[{ accessFlags := 2, nameIndex := 5, descriptorIndex := 6, attributes := #[] }, { accessFlags := 265, nameIndex := 727, descriptorIndex := 728, attributes := #[] }] 49 2 #[] #[{ accessFlags := 25, nameIndex := 507, descriptorIndex := 526, attributes := #[] }, { accessFlags := 25, nameIndex := 399, descriptorIndex := 155, attributes := #[] }, { accessFlags := 25, nameIndex := 396, descriptorIndex := 155, attributes := #[] }, { accessFlags := 10, nameIndex := 525, descriptorIndex := 526, attributes := #[] }, { accessFlags := 26, nameIndex := 674, descriptorIndex := 12, attributes := #[] }, { accessFlags := 26, nameIndex := 677, descriptorIndex := 12, attributes := #[] }, { accessFlags := 10, nameIndex := 11, descriptorIndex := 12, attributes := #[] }, { accessFlags := 74, nameIndex := 175, descriptorIndex := 176, attributes := #[] }, { accessFlags := 10, nameIndex := 491, descriptorIndex := 222, attributes := #[] }, { accessFlags := 74, nameIndex := 29, descriptorIndex := 30, attributes := #[] }, { accessFlags := 74, nameIndex := 154, descriptorIndex := 155, attributes := #[] }, { accessFlags := 10, nameIndex := 217, descriptorIndex := 218, attributes := #[] }, { accessFlags := 10, nameIndex := 221, descriptorIndex := 222, attributes := #[] }, { accessFlags := 8, nameIndex := 562, descriptorIndex := 563, attributes := #[] }])
  fields := #[{ name := "in", type := (.object "java/io/InputStream"), accessFlags := 25, slot := 0, constantValue := 0 }, { name := "out", type := (.object "java/io/PrintStream"), accessFlags := 25, slot := 1, constantValue := 0 }, { name := "err", type := (.object "java/io/PrintStream"), accessFlags := 25, slot := 2, constantValue := 0 }, { name := "initialIn", type := (.object "java/io/InputStream"), accessFlags := 10, slot := 3, constantValue := 0 }, { name := "NEVER", type := .int, accessFlags := 26, slot := 4, constantValue := 0 }, { name := "MAYBE", type := .int, accessFlags := 26, slot := 5, constantValue := 0 }, { name := "allowSecurityManager", type := .int, accessFlags := 10, slot := 6, constantValue := 0 }, { name := "security", type := (.object "java/lang/SecurityManager"), accessFlags := 74, slot := 7, constantValue := 0 }, { name := "notSupportedJnuEncoding", type := (.object "java/lang/String"), accessFlags := 10, slot := 8, constantValue := 0 }, { name := "cons", type := (.object "java/io/Console"), accessFlags := 74, slot := 9, constantValue := 0 }, { name := "initialErrStream", type := (.object "java/io/PrintStream"), accessFlags := 74, slot := 10, constantValue := 0 }, { name := "props", type := (.object "java/util/Properties"), accessFlags := 10, slot := 11, constantValue := 0 }, { name := "lineSeparator", type := (.object "java/lang/String"), accessFlags := 10, slot := 12, constantValue := 0 }, { name := "bootLayer", type := (.object "java/lang/ModuleLayer"), accessFlags := 8, slot := 13, constantValue := 0 }]
  methods := #[k20m0, k20m1]
  instanceTypes := #[]
  staticTypes := #[(.object "java/io/InputStream"), (.object "java/io/PrintStream"), (.object "java/io/PrintStream"), (.object "java/io/InputStream"), .int, .int, .int, (.object "java/lang/SecurityManager"), (.object "java/lang/String"), (.object "java/io/Console"), (.object "java/io/PrintStream"), (.object "java/util/Properties"), (.object "java/lang/String"), (.object "java/lang/ModuleLayer")]
  resolved := Array.replicate 834 none
  statics := none }

def pool21 : Array CpInfo := pool [(1, .methodref 2 3), (0, .class_ 4), (0, .nameAndType 5 6), (0, u "java/lang/Object"), (0, u "<init>"), (0, u "()V"), (0, .class_ 8), (0, u "java/lang/Record")] 13

def k21c0 : Code := { maxStack := 1, maxLocals := 1, code := jdk_30_method_1_code, exceptionTable := #[], attributes := #[] }
def k21m0 : Method := { name := "<init>", desc := "()V", sig := { parameters := [], returnType := none }, accessFlags := 4, code := some k21c0 }
/-- java/lang/Record -/
def k21 : Class := { plain "java/lang/Record" (some 0) with
  accessFlags := 1057
  interfaces := #[]
  cf := some (fileOf pool21 7 #[] #[{ accessFlags := 4, nameIndex := 5, descriptorIndex := 6, attributes := #[] }] 1057 2 #[] #[])
  fields := #[]
  methods := #[k21m0]
  instanceTypes := #[]
  staticTypes := #[]
  resolved := Array.replicate 22 none
  statics := none }

def pool22 : Array CpInfo := pool [(1, .methodref 2 3), (0, .class_ 4), (0, .nameAndType 5 6), (0, u "java/lang/Record"), (0, u "<init>"), (0, u "()V"), (0, .interfaceMethodref 8 9), (0, .class_ 10), (0, .nameAndType 11 12), (0, u "java/util/Set"), (0, u "copyOf"), (0, u "(Ljava/util/Collection;)Ljava/util/Set;"), (0, .fieldref 14 15), (0, .class_ 16), (0, .nameAndType 17 18), (0, u "com/example/convoke/convoke/apply/KeptOverride"), (0, u "component"), (0, u "Lcom/example/convoke/convoke/icalendar/Component;"), (0, .fieldref 14 20), (0, .nameAndType 21 22), (0, u "madeFor"), (0, u "Ljava/lang/String;"), (0, .fieldref 14 24), (0, .nameAndType 25 26), (0, u "madeWithout"), (0, u "Ljava/util/Set;"), (0, .interfaceMethodref 8 28), (0, .nameAndType 29 30), (0, u "of"), (0, u "()Ljava/util/Set;"), (0, .methodref 14 32), (0, .nameAndType 5 33), (0, u "(Lcom/example/convoke/convoke/icalendar/Component;Ljava/lang/String;Ljava/util/Set;)V"), (26, u "()Z"), (12, u "RECURRING"), (73, u "isMade"), (1, u "DTSTART"), (42, u "SEQUENCE"), (16, u "DTSTAMP"), (34, u "with"), (0, u "(Lcom/example/convoke/convoke/icalendar/Component;)Lcom/example/convoke/convoke/apply/KeptOverride;"), (5, u "DTEND"), (1, u "DUE"), (40, u "RECURRENCE_ID"), (5, u "received")] 56

def k22c0 : Code := { maxStack := 2, maxLocals := 4, code := prog_19_method_1_code, exceptionTable := #[], attributes := #[] }
def k22m0 : Method := { name := "<init>", desc := "(Lcom/example/convoke/convoke/icalendar/Component;Ljava/lang/String;Ljava/util/Set;)V", sig := { parameters := [(.object "com/example/convoke/convoke/icalendar/Component"), (.object "java/lang/String"), (.object "java/util/Set")], returnType := none }, accessFlags := 0, code := some k22c0 }
def k22c1 : Code := { maxStack := 5, maxLocals := 1, code := prog_19_method_2_code, exceptionTable := #[], attributes := #[] }
def k22m1 : Method := { name := "received", desc := "(Lcom/example/convoke/convoke/icalendar/Component;)Lcom/example/convoke/convoke/apply/KeptOverride;", sig := { parameters := [(.object "com/example/convoke/convoke/icalendar/Component")], returnType := some (.object "com/example/convoke/convoke/apply/KeptOverride") }, accessFlags := 8, code := some k22c1 }
def k22c2 : Code := { maxStack := 1, maxLocals := 1, code := prog_19_method_9_code, exceptionTable := #[], attributes := #[] }
def k22m2 : Method := { name := "isMade", desc := "()Z", sig := { parameters := [], returnType := some .boolean }, accessFlags := 0, code := some k22c2 }
def k22c3 : Code := { maxStack := 5, maxLocals := 2, code := prog_19_method_10_code, exceptionTable := #[], attributes := #[] }
def k22m3 : Method := { name := "with", desc := "(Lcom/example/convoke/convoke/icalendar/Component;)Lcom/example/convoke/convoke/apply/KeptOverride;", sig := { parameters := [(.object "com/example/convoke/convoke/icalendar/Component")], returnType := some (.object "com/example/convoke/convoke/apply/KeptOverride") }, accessFlags := 0, code := some k22c3 }
def k22c4 : Code := { maxStack := 1, maxLocals := 1, code := prog_19_method_26_code, exceptionTable := #[], attributes := #[] }
def k22m4 : Method := { name := "madeWithout", desc := "()Ljava/util/Set;", sig := { parameters := [], returnType := some (.object "java/util/Set") }, accessFlags := 1, code := some k22c4 }
/-- com/example/convoke/convoke/apply/KeptOverride -/
def k22 : Class := { plain "com/example/convoke/convoke/apply/KeptOverride" (some 21) with
  accessFlags := 48
  interfaces := #[]
  cf := some (fileOf pool22 14 #[] #[{ accessFlags := 0, nameIndex := 5, descriptorIndex := 33, attributes := #[] }, { accessFlags := 8, nameIndex := 300, descriptorIndex := 245, attributes := #[] }, { accessFlags := 0, nameIndex := 147, descriptorIndex := 60, attributes := #[] }, { accessFlags := 0, nameIndex := 244, descriptorIndex := 245, attributes := #[] }, { accessFlags := 1, nameIndex := 25, descriptorIndex := 30, attributes := #[] }] 48 2 #[] #[{ accessFlags := 18, nameIndex := 17, descriptorIndex := 18, attributes := #[] }, { accessFlags := 18, nameIndex := 21, descriptorIndex := 22, attributes := #[] }, { accessFlags := 18, nameIndex := 25, descriptorIndex := 26, attributes := #[] }, { accessFlags := 26, nameIndex := 294, descriptorIndex := 22, attributes := #[] }, { accessFlags := 26, nameIndex := 149, descriptorIndex := 22, attributes := #[] }, { accessFlags := 26, nameIndex := 251, descriptorIndex := 22, attributes := #[] }, { accessFlags := 26, nameIndex := 253, descriptorIndex := 22, attributes := #[] }, { accessFlags := 26, nameIndex := 192, descriptorIndex := 22, attributes := #[] }, { accessFlags := 26, nameIndex := 209, descriptorIndex := 22, attributes := #[] }, { accessFlags := 26, nameIndex := 73, descriptorIndex := 26, attributes := #[] }])
  fields := #[{ name := "component", type := (.object "com/example/convoke/convoke/icalendar/Component"), accessFlags := 18, slot := 0, constantValue := 0 }, { name := "madeFor", type := (.object "java/lang/String"), accessFlags := 18, slot := 1, constantValue := 0 }, { name := "madeWithout", type := (.object "java/util/Set"), accessFlags := 18, slot := 2, constantValue := 0 }, { name := "RECURRENCE_ID", type := (.object "java/lang/String"), accessFlags := 26, slot := 0, constantValue := 0 }, { name := "DTSTART", type := (.object "java/lang/String"), accessFlags := 26, slot := 1, constantValue := 0 }, { name := "DTEND", type := (.object "java/lang/String"), accessFlags := 26, slot := 2, constantValue := 0 }, { name := "DUE", type := (.object "java/lang/String"), accessFlags := 26, slot := 3, constantValue := 0 }, { name := "SEQUENCE", type := (.object "java/lang/String"), accessFlags := 26, slot := 4, constantValue := 0 }, { name := "DTSTAMP", type := (.object "java/lang/String"), accessFlags := 26, slot := 5, constantValue := 0 }, { name := "RECURRING", type := (.object "java/util/Set"), accessFlags := 26, slot := 6, constantValue := 0 }]
  methods := #[k22m0, k22m1, k22m2, k22m3, k22m4]
  instanceTypes := #[(.object "com/example/convoke/convoke/icalendar/Component"), (.object "java/lang/String"), (.object "java/util/Set")]
  staticTypes := #[(.object "java/lang/String"), (.object "java/lang/String"), (.object "java/lang/String"), (.object "java/lang/String"), (.object "java/lang/String"), (.object "java/lang/String"), (.object "java/util/Set")]
  resolved := Array.replicate 357 none
  statics := none }

def pool23 : Array CpInfo := pool [(9, .fieldref 10 11), (0, .class_ 12), (0, .nameAndType 13 14), (0, u "java/util/ImmutableCollections"), (0, u "EMPTY_SET"), (0, u "Ljava/util/ImmutableCollections$SetN;"), (11, .class_ 27), (0, u "java/lang/Object"), (3, .class_ 32), (0, u "java/util/ImmutableCollections$AbstractImmutableSet"), (0, .class_ 34), (0, u "java/util/Set"), (1, .class_ 38), (1, u "java/util/Collection"), (4, u "of"), (0, u "()Ljava/util/Set;"), (86, u "copyOf"), (0, u "(Ljava/util/Collection;)Ljava/util/Set;")] 11

def k23c0 : Code := { maxStack := 1, maxLocals := 0, code := jdk_96_method_17_code, exceptionTable := #[], attributes := #[] }
def k23m0 : Method := { name := "of", desc := "()Ljava/util/Set;", sig := { parameters := [], returnType := some (.object "java/util/Set") }, accessFlags := 9, code := some k23c0 }
def k23c1 : Code := { maxStack := 3, maxLocals := 1, code := jdk_96_method_29_code, exceptionTable := #[], attributes := #[] }
def k23m1 : Method := { name := "copyOf", desc := "(Ljava/util/Collection;)Ljava/util/Set;", sig := { parameters := [(.object "java/util/Collection")], returnType := some (.object "java/util/Set") }, accessFlags := 9, code := some k23c1 }
/-- java/util/Set -/
def k23 : Class := { plain "java/util/Set" (some 0) with
  accessFlags := 1537
  interfaces := #[9]
  cf := some (fileOf pool23 33 #[] #[{ accessFlags := 9, nameIndex := 43, descriptorIndex := 44, attributes := #[] }, { accessFlags := 9, nameIndex := 131, descriptorIndex := 132, attributes := #[] }] 1537 26 #[36] #[])
  fields := #[]
  methods := #[k23m0, k23m1]
  instanceTypes := #[]
  staticTypes := #[]
  resolved := Array.replicate 144 none
  statics := none }

def pool24 : Array CpInfo := pool [(2, .class_ 4), (1, u "java/lang/Object"), (0, u "<init>"), (0, u "()V"), (3, .class_ 11), (0, u "java/util/ImmutableCollections$List12"), (0, .class_ 13), (0, u "java/util/ImmutableCollections$ListN"), (3, u "Z"), (29, .class_ 49), (1, u "java/util/ImmutableCollections"), (0, u "$assertionsDisabled"), (5, u "[Ljava/lang/Object;"), (5, u "EMPTY_LIST"), (0, u "Ljava/util/ImmutableCollections$ListN;"), (8, u "EMPTY_LIST_NULLS"), (22, u "SALT32L"), (0, u "J"), (2, u "REVERSE"), (6, u "archivedObjects"), (2, u "EMPTY"), (0, u "Ljava/lang/Object;"), (0, .class_ 112), (0, u "java/util/ImmutableCollections$SetN"), (5, u "EMPTY_SET"), (0, u "Ljava/util/ImmutableCollections$SetN;"), (0, .class_ 121), (0, u "java/util/ImmutableCollections$MapN"), (3, u "EMPTY_MAP"), (0, u "Ljava/util/ImmutableCollections$MapN;"), (4, u "EXPAND_FACTOR"), (0, u "I"), (36, .class_ 170), (0, u "java/util/ImmutableCollections$MapN$MapNIterator"), (0, .class_ 172), (0, u "java/util/ImmutableCollections$MapN$1"), (0, .class_ 174), (0, u "java/util/ImmutableCollections$Map1"), (0, .class_ 176), (0, u "java/util/ImmutableCollections$AbstractImmutableMap"), (0, .class_ 178), (0, u "java/util/ImmutableCollections$SetN$SetNIterator"), (0, .class_ 180), (0, u "java/util/ImmutableCollections$Set12"), (0, .class_ 182), (0, u "java/util/ImmutableCollections$Set12$1"), (0, .class_ 184), (0, u "java/util/ImmutableCollections$AbstractImmutableSet"), (0, .class_ 186), (0, u "java/util/ImmutableCollections$SubList"), (0, .class_ 188), (0, u "java/util/ImmutableCollections$ListItr"), (0, .class_ 190), (0, u "java/util/ImmutableCollections$AbstractImmutableList"), (0, .class_ 192), (0, u "java/util/ImmutableCollections$AbstractImmutableCollection"), (0, .class_ 194), (0, u "java/util/ImmutableCollections$Access"), (0, .class_ 196), (0, u "java/util/ImmutableCollections$Access$1")] 16

def k24m0 : Method := { name := "<init>", desc := "()V", sig := { parameters := [], returnType := none }, accessFlags := 2, code := none }
/-- java/util/ImmutableCollections -/
def k24 : Class := { plain "java/util/ImmutableCollections" (some 0) with
  accessFlags := 32
  interfaces := #[]
  cf := some (fileOf pool24 47 #[.nestMembers #[120, 169, 171, 173, 175, 111, 177, 179, 181, 183, 12, 10, 185, 187, 189, 191, 193, 195]] #[{ accessFlags := 2, nameIndex := 5, descriptorIndex := 6, attributes := #[] }] 32 2 #[] #[{ accessFlags := 26, nameIndex := 95, descriptorIndex := 96, attributes := #[] }, { accessFlags := 26, nameIndex := 99, descriptorIndex := 17, attributes := #[] }, { accessFlags := 10, nameIndex := 106, descriptorIndex := 56, attributes := #[] }, { accessFlags := 26, nameIndex := 109, descriptorIndex := 110, attributes := #[] }, { accessFlags := 24, nameIndex := 62, descriptorIndex := 63, attributes := #[] }, { accessFlags := 24, nameIndex := 72, descriptorIndex := 63, attributes := #[] }, { accessFlags := 24, nameIndex := 118, descriptorIndex := 119, attributes := #[] }, { accessFlags := 24, nameIndex := 125, descriptorIndex := 126, attributes := #[] }, { accessFlags := 24, nameIndex := 131, descriptorIndex := 132, attributes := #[] }, { accessFlags := 4120, nameIndex := 50, descriptorIndex := 17, attributes := #[] }])
  fields := #[{ name := "SALT32L", type := .long, accessFlags := 26, slot := 0, constantValue := 0 }, { name := "REVERSE", type := .boolean, accessFlags := 26, slot := 1, constantValue := 0 }, { name := "archivedObjects", type := (.array (.object "java/lang/Object")), accessFlags := 10, slot := 2, constantValue := 0 }, { name := "EMPTY", type := (.object "java/lang/Object"), accessFlags := 26, slot := 3, constantValue := 0 }, { name := "EMPTY_LIST", type := (.object "java/util/ImmutableCollections$ListN"), accessFlags := 24, slot := 4, constantValue := 0 }, { name := "EMPTY_LIST_NULLS", type := (.object "java/util/ImmutableCollections$ListN"), accessFlags := 24, slot := 5, constantValue := 0 }, { name := "EMPTY_SET", type := (.object "java/util/ImmutableCollections$SetN"), accessFlags := 24, slot := 6, constantValue := 0 }, { name := "EMPTY_MAP", type := (.object "java/util/ImmutableCollections$MapN"), accessFlags := 24, slot := 7, constantValue := 0 }, { name := "EXPAND_FACTOR", type := .int, accessFlags := 24, slot := 8, constantValue := 0 }, { name := "$assertionsDisabled", type := .boolean, accessFlags := 4120, slot := 9, constantValue := 0 }]
  methods := #[k24m0]
  instanceTypes := #[]
  staticTypes := #[.long, .boolean, (.array (.object "java/lang/Object")), (.object "java/lang/Object"), (.object "java/util/ImmutableCollections$ListN"), (.object "java/util/ImmutableCollections$ListN"), (.object "java/util/ImmutableCollections$SetN"), (.object "java/util/ImmutableCollections$MapN"), .int, .boolean]
  resolved := Array.replicate 213 none
  statics := some 2 }

def pool25 : Array CpInfo := pool [(2, .class_ 4), (1, u "java/util/AbstractCollection"), (0, u "<init>"), (0, u "()V"), (1, .class_ 10), (1, u "java/util/ImmutableCollections"), (2, .class_ 14), (0, u "java/util/ImmutableCollections$AbstractImmutableCollection")] 41

def k25m0 : Method := { name := "<init>", desc := "()V", sig := { parameters := [], returnType := none }, accessFlags := 0, code := none }
/-- java/util/ImmutableCollections$AbstractImmutableCollection -/
def k25 : Class := { plain "java/util/ImmutableCollections$AbstractImmutableCollection" (some 10) with
  accessFlags := 1056
  interfaces := #[]
  cf := some (fileOf pool25 13 #[.nestHost 8] #[{ accessFlags := 0, nameIndex := 5, descriptorIndex := 6, attributes := #[] }] 1056 2 #[] #[])
  fields := #[]
  methods := #[k25m0]
  instanceTypes := #[]
  staticTypes := #[]
  resolved := Array.replicate 56 none
  statics := none }

def pool26 : Array CpInfo := pool [(2, .class_ 4), (1, u "java/util/ImmutableCollections$AbstractImmutableCollection"), (0, u "<init>"), (0, u "()V"), (0, .class_ 8), (0, u "java/util/Set"), (7, .class_ 17), (0, u "java/util/ImmutableCollections$AbstractImmutableSet"), (43, .class_ 62), (0, u "java/util/ImmutableCollections")] 3

def k26m0 : Method := { name := "<init>", desc := "()V", sig := { parameters := [], returnType := none }, accessFlags := 0, code := none }
/-- java/util/ImmutableCollections$AbstractImmutableSet -/
def k26 : Class := { plain "java/util/ImmutableCollections$AbstractImmutableSet" (some 25) with
  accessFlags := 1056
  interfaces := #[23]
  cf := some (fileOf pool26 16 #[.nestHost 61] #[{ accessFlags := 0, nameIndex := 5, descriptorIndex := 6, attributes := #[] }] 1056 2 #[7] #[])
  fields := #[]
  methods := #[k26m0]
  instanceTypes := #[]
  staticTypes := #[]
  resolved := Array.replicate 66 none
  statics := none }

def pool27 : Array CpInfo := pool [(1, .class_ 2), (0, u "java/util/ImmutableCollections"), (1, .class_ 6), (1, u "java/util/ImmutableCollections$AbstractImmutableSet"), (3, .class_ 12), (1, u "java/util/ImmutableCollections$SetN"), (0, u "size"), (0, u "I"), (4, u "elements"), (0, u "[Ljava/lang/Object;"), (86, .class_ 108), (0, u "java/io/Serializable")] 59

/-- java/util/ImmutableCollections$SetN -/
def k27 : Class := { plain "java/util/ImmutableCollections$SetN" (some 26) with
  accessFlags := 48
  interfaces := #[2]
  cf := some (fileOf pool27 10 #[.nestHost 1] #[] 48 4 #[107] #[{ accessFlags := 16, nameIndex := 19, descriptorIndex := 20, attributes := #[] }, { accessFlags := 16, nameIndex := 13, descriptorIndex := 14, attributes := #[] }])
  fields := #[{ name := "elements", type := (.array (.object "java/lang/Object")), accessFlags := 16, slot := 0, constantValue := 0 }, { name := "size", type := .int, accessFlags := 16, slot := 1, constantValue := 0 }]
  methods := #[]
  instanceTypes := #[(.array (.object "java/lang/Object")), .int]
  staticTypes := #[]
  resolved := Array.replicate 168 none
  statics := none }

def pool28 : Array CpInfo := pool [(6, .class_ 8), (1, u "java/lang/Object"), (0, u "<init>"), (0, u "()V"), (1, .class_ 14), (1, u "java/lang/StringUTF16"), (31, u "$assertionsDisabled"), (0, u "Z"), (13, u "HI_BYTE_SHIFT"), (0, u "I"), (2, u "LO_BYTE_SHIFT"), (49, .methodref 12 116), (0, .nameAndType 117 118), (0, u "compress"), (0, u "([CI[BII)I"), (3, u "([CII)[B"), (138, u "coderFromArrayLen"), (0, u "([BI)B"), (106, .class_ 371), (1, u "java/lang/StringUTF16$LinesSpliterator"), (58, u "MAX_LENGTH"), (196, .class_ 628), (0, u "java/lang/StringUTF16$CodePointsSpliterator"), (0, .class_ 630), (0, u "java/lang/StringUTF16$CharsSpliterator")] 4

def k28m0 : Method := { name := "<init>", desc := "()V", sig := { parameters := [], returnType := none }, accessFlags := 0, code := none }
def k28c1 : Code := { maxStack := 2, maxLocals := 2, code := jdk_52_method_15_code, exceptionTable := #[], attributes := #[] }
def k28m1 : Method := { name := "coderFromArrayLen", desc := "([BI)B", sig := { parameters := [(.array .byte), .int], returnType := some .byte }, accessFlags := 8, code := some k28c1 }
def k28c2 : Code := { maxStack := 5, maxLocals := 6, code := jdk_52_method_16_code, exceptionTable := #[], attributes := #[] }
def k28m2 : Method := { name := "compress", desc := "([CII)[B", sig := { parameters := [(.array .char), .int, .int], returnType := some (.array .byte) }, accessFlags := 9, code := some k28c2 }
def k28c3 : Code := { maxStack := 3, maxLocals := 7, code := jdk_52_method_21_code, exceptionTable := #[], attributes := #[] }
def k28m3 : Method := { name := "compress", desc := "([CI[BII)I", sig := { parameters := [(.array .char), .int, (.array .byte), .int, .int], returnType := some .int }, accessFlags := 9, code := some k28c3 }
/-- java/lang/StringUTF16 -/
def k28 : Class := { plain "java/lang/StringUTF16" (some 0) with
  accessFlags := 48
  interfaces := #[]
  cf := some (fileOf pool28 12 #[.nestMembers #[627, 629, 369]] #[{ accessFlags := 0, nameIndex := 9, descriptorIndex := 10, attributes := #[] }, { accessFlags := 8, nameIndex := 261, descriptorIndex := 262, attributes := #[] }, { accessFlags := 9, nameIndex := 117, descriptorIndex := 122, attributes := #[] }, { accessFlags := 9, nameIndex := 117, descriptorIndex := 118, attributes := #[] }] 48 6 #[] #[{ accessFlags := 26, nameIndex := 61, descriptorIndex := 62, attributes := #[] }, { accessFlags := 26, nameIndex := 65, descriptorIndex := 62, attributes := #[] }, { accessFlags := 24, nameIndex := 430, descriptorIndex := 62, attributes := #[] }, { accessFlags := 4120, nameIndex := 46, descriptorIndex := 47, attributes := #[] }])
  fields := #[{ name := "HI_BYTE_SHIFT", type := .int, accessFlags := 26, slot := 0, constantValue := 0 }, { name := "LO_BYTE_SHIFT", type := .int, accessFlags := 26, slot := 1, constantValue := 0 }, { name := "MAX_LENGTH", type := .int, accessFlags := 24, slot := 2, constantValue := 0 }, { name := "$assertionsDisabled", type := .boolean, accessFlags := 4120, slot := 3, constantValue := 0 }]
  methods := #[k28m0, k28m1, k28m2, k28m3]
  instanceTypes := #[]
  staticTypes := #[.int, .int, .int, .boolean]
  resolved := Array.replicate 635 none
  statics := none }

def pool29 : Array CpInfo := pool [(4, .class_ 6), (1, u "java/lang/Object"), (0, u "<init>"), (0, u "()V"), (5, .class_ 16), (1, u "java/lang/StringLatin1"), (104, u "$assertionsDisabled"), (0, u "Z"), (98, .class_ 223), (1, u "java/lang/StringLatin1$LinesSpliterator"), (166, .class_ 391), (0, u "java/lang/StringLatin1$CharsSpliterator")] 3

def k29m0 : Method := { name := "<init>", desc := "()V", sig := { parameters := [], returnType := none }, accessFlags := 0, code := none }
/-- java/lang/StringLatin1 -/
def k29 : Class := { plain "java/lang/StringLatin1" (some 0) with
  accessFlags := 48
  interfaces := #[]
  cf := some (fileOf pool29 14 #[.nestMembers #[390, 221]] #[{ accessFlags := 0, nameIndex := 7, descriptorIndex := 8, attributes := #[] }] 48 4 #[] #[{ accessFlags := 4120, nameIndex := 121, descriptorIndex := 122, attributes := #[] }])
  fields := #[{ name := "$assertionsDisabled", type := .boolean, accessFlags := 4120, slot := 0, constantValue := 0 }]
  methods := #[k29m0]
  instanceTypes := #[]
  staticTypes := #[.boolean]
  resolved := Array.replicate 395 none
  statics := none }

def pool30 : Array CpInfo := pool [(2, .class_ 4), (1, u "java/lang/Object"), (0, u "<init>"), (0, u "()V"), (17, .class_ 26), (1, u "jdk/internal/util/Preconditions"), (28, .class_ 56), (0, u "jdk/internal/util/Preconditions$4"), (57, .class_ 115), (0, u "jdk/internal/util/Preconditions$1"), (7, u "SIOOBE_FORMATTER"), (0, u "Ljava/util/function/BiFunction;"), (0, .class_ 126), (0, u "jdk/internal/util/Preconditions$2"), (3, u "AIOOBE_FORMATTER"), (0, .class_ 132), (0, u "jdk/internal/util/Preconditions$3"), (3, u "IOOBE_FORMATTER")] 57

def k30m0 : Method := { name := "<init>", desc := "()V", sig := { parameters := [], returnType := none }, accessFlags := 1, code := none }
/-- jdk/internal/util/Preconditions -/
def k30 : Class := { plain "jdk/internal/util/Preconditions" (some 0) with
  accessFlags := 33
  interfaces := #[]
  cf := some (fileOf pool30 24 #[.nestMembers #[55, 131, 125, 114]] #[{ accessFlags := 1, nameIndex := 5, descriptorIndex := 6, attributes := #[] }] 33 2 #[] #[{ accessFlags := 25, nameIndex := 123, descriptorIndex := 124, attributes := #[] }, { accessFlags := 25, nameIndex := 130, descriptorIndex := 124, attributes := #[] }, { accessFlags := 25, nameIndex := 136, descriptorIndex := 124, attributes := #[] }])
  fields := #[{ name := "SIOOBE_FORMATTER", type := (.object "java/util/function/BiFunction"), accessFlags := 25, slot := 0, constantValue := 0 }, { name := "AIOOBE_FORMATTER", type := (.object "java/util/function/BiFunction"), accessFlags := 25, slot := 1, constantValue := 0 }, { name := "IOOBE_FORMATTER", type := (.object "java/util/function/BiFunction"), accessFlags := 25, slot := 2, constantValue := 0 }]
  methods := #[k30m0]
  instanceTypes := #[]
  staticTypes := #[(.object "java/util/function/BiFunction"), (.object "java/util/function/BiFunction"), (.object "java/util/function/BiFunction")]
  resolved := Array.replicate 194 none
  statics := some 3 }

def pool31 : Array CpInfo := pool [(9, u "<init>"), (6, .class_ 18), (1, u "java/lang/Object"), (0, u "()V"), (1, .class_ 23), (1, u "jdk/internal/util/ArraysSupport"), (0, u "LOG2_ARRAY_LONG_INDEX_SCALE"), (0, u "I"), (2, u "U"), (0, u "Ljdk/internal/misc/Unsafe;"), (8, u "BIG_ENDIAN"), (0, u "Z"), (8, u "LOG2_BYTE_BIT_SIZE"), (4, u "LOG2_ARRAY_INT_INDEX_SCALE"), (54, u "JLA"), (0, u "Ljdk/internal/access/JavaLangAccess;"), (11, u "LOG2_ARRAY_BOOLEAN_INDEX_SCALE"), (9, u "LOG2_ARRAY_BYTE_INDEX_SCALE"), (5, u "LOG2_ARRAY_CHAR_INDEX_SCALE"), (5, u "LOG2_ARRAY_SHORT_INDEX_SCALE"), (18, u "LOG2_ARRAY_FLOAT_INDEX_SCALE"), (24, u "LOG2_ARRAY_DOUBLE_INDEX_SCALE"), (89, u "T_BOOLEAN"), (2, u "T_CHAR"), (1, u "T_FLOAT"), (1, u "T_DOUBLE"), (1, u "T_BYTE"), (1, u "T_SHORT"), (1, u "T_INT"), (1, u "T_LONG"), (1, u "SOFT_MAX_ARRAY_LENGTH")] 83

def k31m0 : Method := { name := "<init>", desc := "()V", sig := { parameters := [], returnType := none }, accessFlags := 2, code := none }
/-- jdk/internal/util/ArraysSupport -/
def k31 : Class := { plain "jdk/internal/util/ArraysSupport" (some 0) with
  accessFlags := 33
  interfaces := #[]
  cf := some (fileOf pool31 21 #[] #[{ accessFlags := 2, nameIndex := 9, descriptorIndex := 19, attributes := #[] }] 33 16 #[] #[{ accessFlags := 24, nameIndex := 28, descriptorIndex := 29, attributes := #[] }, { accessFlags := 26, nameIndex := 38, descriptorIndex := 39, attributes := #[] }, { accessFlags := 25, nameIndex := 121, descriptorIndex := 25, attributes := #[] }, { accessFlags := 25, nameIndex := 131, descriptorIndex := 25, attributes := #[] }, { accessFlags := 25, nameIndex := 137, descriptorIndex := 25, attributes := #[] }, { accessFlags := 25, nameIndex := 143, descriptorIndex := 25, attributes := #[] }, { accessFlags := 25, nameIndex := 53, descriptorIndex := 25, attributes := #[] }, { accessFlags := 25, nameIndex := 24, descriptorIndex := 25, attributes := #[] }, { accessFlags := 25, nameIndex := 162, descriptorIndex := 25, attributes := #[] }, { accessFlags := 25, nameIndex := 187, descriptorIndex := 25, attributes := #[] }, { accessFlags := 26, nameIndex := 48, descriptorIndex := 25, attributes := #[] }, { accessFlags := 25, nameIndex := 277, descriptorIndex := 25, attributes := #[] }, { accessFlags := 25, nameIndex := 280, descriptorIndex := 25, attributes := #[] }, { accessFlags := 25, nameIndex := 282, descriptorIndex := 25, attributes := #[] }, { accessFlags := 25, nameIndex := 284, descriptorIndex := 25, attributes := #[] }, { accessFlags := 25, nameIndex := 286, descriptorIndex := 25, attributes := #[] }, { accessFlags := 25, nameIndex := 288, descriptorIndex := 25, attributes := #[] }, { accessFlags := 25, nameIndex := 290, descriptorIndex := 25, attributes := #[] }, { accessFlags := 25, nameIndex := 292, descriptorIndex := 25, attributes := #[] }, { accessFlags := 26, nameIndex := 108, descriptorIndex := 109, attributes := #[] }, { accessFlags := 25, nameIndex := 294, descriptorIndex := 25, attributes := #[] }])
  fields := #[{ name := "U", type := (.object "jdk/internal/misc/Unsafe"), accessFlags := 24, slot := 0, constantValue := 0 }, { name := "BIG_ENDIAN", type := .boolean, accessFlags := 26, slot := 1, constantValue := 0 }, { name := "LOG2_ARRAY_BOOLEAN_INDEX_SCALE", type := .int, accessFlags := 25, slot := 2, constantValue := 0 }, { name := "LOG2_ARRAY_BYTE_INDEX_SCALE", type := .int, accessFlags := 25, slot := 3, constantValue := 0 }, { name := "LOG2_ARRAY_CHAR_INDEX_SCALE", type := .int, accessFlags := 25, slot := 4, constantValue := 0 }, { name := "LOG2_ARRAY_SHORT_INDEX_SCALE", type := .int, accessFlags := 25, slot := 5, constantValue := 0 }, { name := "LOG2_ARRAY_INT_INDEX_SCALE", type := .int, accessFlags := 25, slot := 6, constantValue := 0 }, { name := "LOG2_ARRAY_LONG_INDEX_SCALE", type := .int, accessFlags := 25, slot := 7, constantValue := 0 }, { name := "LOG2_ARRAY_FLOAT_INDEX_SCALE", type := .int, accessFlags := 25, slot := 8, constantValue := 0 }, { name := "LOG2_ARRAY_DOUBLE_INDEX_SCALE", type := .int, accessFlags := 25, slot := 9, constantValue := 0 }, { name := "LOG2_BYTE_BIT_SIZE", type := .int, accessFlags := 26, slot := 10, constantValue := 0 }, { name := "T_BOOLEAN", type := .int, accessFlags := 25, slot := 11, constantValue := 0 }, { name := "T_CHAR", type := .int, accessFlags := 25, slot := 12, constantValue := 0 }, { name := "T_FLOAT", type := .int, accessFlags := 25, slot := 13, constantValue := 0 }, { name := "T_DOUBLE", type := .int, accessFlags := 25, slot := 14, constantValue := 0 }, { name := "T_BYTE", type := .int, accessFlags := 25, slot := 15, constantValue := 0 }, { name := "T_SHORT", type := .int, accessFlags := 25, slot := 16, constantValue := 0 }, { name := "T_INT", type := .int, accessFlags := 25, slot := 17, constantValue := 0 }, { name := "T_LONG", type := .int, accessFlags := 25, slot := 18, constantValue := 0 }, { name := "JLA", type := (.object "jdk/internal/access/JavaLangAccess"), accessFlags := 26, slot := 19, constantValue := 0 }, { name := "SOFT_MAX_ARRAY_LENGTH", type := .int, accessFlags := 25, slot := 20, constantValue := 0 }]
  methods := #[k31m0]
  instanceTypes := #[]
  staticTypes := #[(.object "jdk/internal/misc/Unsafe"), .boolean, .int, .int, .int, .int, .int, .int, .int, .int, .int, .int, .int, .int, .int, .int, .int, .int, .int, (.object "jdk/internal/access/JavaLangAccess"), .int]
  resolved := Array.replicate 378 none
  statics := none }

def pool32 : Array CpInfo := pool [(1, u "java/lang/Class"), (0, .class_ 1), (0, u "java/lang/Object"), (0, .class_ 3)] 0

/-- java/lang/Class -/
def k32 : Class := { plain "java/lang/Class" (some 0) with
  accessFlags := 49
  interfaces := #[]
  cf := some (fileOf pool32 2 #[] #[] 49 4 #[] #[])
  fields := #[]
  methods := #[]
  instanceTypes := #[]
  staticTypes := #[]
  resolved := Array.replicate 5 none
  statics := none }

/-- the primitive byte -/
def k33 : Class := { plain "byte" none with kind := .primitive 'B', accessFlags := 0x411 }
/-- [B -/
def k34 : Class := { plain "[B" (some 0) with kind := .array 33 .byte, interfaces := #[15, 2], accessFlags := 1041 }

/-- the primitive char -/
def k35 : Class := { plain "char" none with kind := .primitive 'C', accessFlags := 0x411 }
/-- [C -/
def k36 : Class := { plain "[C" (some 0) with kind := .array 35 .char, interfaces := #[15, 2], accessFlags := 1041 }

/-- the primitive int -/
def k37 : Class := { plain "int" none with kind := .primitive 'I', accessFlags := 0x411 }
/-- [I -/
def k38 : Class := { plain "[I" (some 0) with kind := .array 37 .int, interfaces := #[15, 2], accessFlags := 1041 }

/-- [Ljava/lang/Object; -/
def k39 : Class := { plain "[Ljava/lang/Object;" (some 0) with kind := .array 0 (.object "java/lang/Object"), mirror := some 4, interfaces := #[15, 2], accessFlags := 1041 }

def heap : Heap := #[{ cls := 7, slots := #[.long 0, .int 1, .null, .int 0, .null, .int 0, .int 0], vm := .statics 7 },
  { cls := 16, slots := #[.long 0, .int 0, .ref 5, .ref 6], vm := .statics 16 },
  { cls := 24, slots := #[.long 0, .int 0, .null, .null, .null, .null, .ref 7, .null, .int 0, .int 0], vm := .statics 24 },
  { cls := 30, slots := #[.null, .null, .null], vm := .statics 30 },
  { cls := 32, slots := #[], vm := .mirror 39 },
  { cls := 39, slots := #[], vm := .none },
  { cls := 39, slots := #[], vm := .none },
  { cls := 27, slots := #[.ref 5, .int 0], vm := .none }]
def classes : Array Class := #[k0, k1, k2, k3, k4, k5, k6, k7, k8, k9, k10, k11, k12, k13, k14, k15, k16, k17, k18, k19, k20, k21, k22, k23, k24, k25, k26, k27, k28, k29, k30, k31, k32, k33, k34, k35, k36, k37, k38, k39]
def interned : List (Array UInt16 × Addr) := []
def slotsUsed : Nat := 26
def theMethod : MethodId := ⟨1, 1⟩
def args0 : Array Value := #[.int 3, .int 3, .int 3, .int 3]
def aboutOver (below : List Frame) : State where
  vm := { classes := classes, interned := interned.toArray }
  heap := heap
  slotsUsed := slotsUsed
  threads := #[{ frames := .invoking theMethod args0 :: below }]
def below0 : List Frame := [.native { method := ⟨0, 0⟩, args := #[] }]
def about1 : State := aboutOver below0
def p0 : Program := .bare "" "" ""
def e0 : Env := launch0.env 0 0 0
theorem w_frames : about1.frames = Frame.invoking theMethod args0 :: below0 := rfl
set_option maxRecDepth 65536 in
theorem w_args : argsFit about1.vm theMethod args0 = true := by decide +kernel
set_option maxRecDepth 65536 in
theorem w_heap : heapFits about1 = true := by decide +kernel
set_option maxRecDepth 65536 in
theorem w_runnable : about1.curStatus? = some .runnable := by decide +kernel
set_option maxRecDepth 65536 in
theorem w_alone : about1.alone = true := by decide +kernel
set_option maxRecDepth 65536 in
theorem w_named : about1.methodNamed? x = some theMethod := by decide +kernel
set_option maxRecDepth 65536 in
theorem w_hears : about1.hears theMethod below0 = true := by decide +kernel
set_option maxRecDepth 65536 in
theorem w_ripe : about1.ripe theMethod args0 below0 = true := by decide +kernel
theorem w_running : about1.status = .running := rfl
set_option maxRecDepth 65536 in
theorem w_room : about1.hasRoom e0.platform room_1 = true :=
  launch0.hasRoom_least _ room_1 (by decide +kernel) (by decide +kernel) (by decide +kernel) (by decide +kernel) (by decide +kernel) (by decide +kernel)
theorem allAtoms_all (ts : List Jvm.Cond) (a : Array Jvm.Value) (st : Jvm.State) : (allAtoms ts).before a st = ts.all (fun c => c.before a st) := by
  induction ts with
  | nil => rfl
  | cons c t ih =>
    show (Jvm.Cond.and c (allAtoms t)).before a st = _
    rw [Jvm.Cond.before_and, ih, List.all_cons]
def words1 : List Jvm.Cond := Jvm.Cond.code x code maxLocals ret :: tables_1
/-- a 'code' word, met by the world's own term for the bytes: nothing is compared byte by byte -/
theorem code_word {y : MethodName} {bytes : ByteArray} {mx : Nat} {rt : Option FieldType} {a : Array Value} {s : State} {m : MethodId} {meth : Method} {c : Code} (h1 : s.methodNamed? y = some m) (h2 : s.vm.method? m = some meth) (h3 : meth.code = some c) (h4 : c.code = bytes)
    (h5 : (c.maxLocals == mx && c.exceptionTable.isEmpty && decide (c.maxStack ≤ mostOperands) && decide (meth.sig.returnType = rt) && !meth.locks && decide (parseMethodDescriptor y.desc = some meth.sig)) = true) : (Jvm.Cond.code y bytes mx rt).before a s = true := by
  simp only [Bool.and_eq_true, beq_iff_eq, Bool.not_eq_true', decide_eq_true_eq] at h5
  obtain ⟨⟨⟨⟨⟨g1, g2⟩, g3⟩, g4⟩, g5⟩, g6⟩ := h5
  simp [Cond.before, Cond.holds, Cond.value, h1, h2, h3, h4, g1, g2, g3, g4, g5, g6]
def isCode : Jvm.Cond → Bool
  | .code _ _ _ _ => true
  | _ => false
theorem all_split {L : List Jvm.Cond} {P : Jvm.Cond → Bool} (h1 : L.all (fun c => isCode c || P c) = true) (h2 : ∀ c ∈ L.filter isCode, P c = true) : L.all P = true := by
  refine List.all_eq_true.mpr fun c hc => ?_
  have h := List.all_eq_true.mp h1 c hc
  rcases Bool.eq_false_or_eq_true (isCode c) with hi | hi
  · exact h2 c (List.mem_filter.mpr ⟨hc, hi⟩)
  · simpa [hi] using h
set_option maxRecDepth 65536 in
theorem w_c0 : (Jvm.Cond.code x code maxLocals ret).before args0 about1 = true := code_word (m := ⟨1, 1⟩) (meth := k1m1) (c := k1c1) (by decide +kernel) rfl rfl rfl (by decide +kernel)
set_option maxRecDepth 65536 in
theorem w_c1 : (Jvm.Cond.code ({ cls := "com/example/convoke/convoke/apply/KeptOverrideIsMadePinLaw", name := "madeFor", desc := "(IIII)Ljava/lang/String;" } : Jvm.MethodName) method_3_code (9 : Nat) (Option.some (Jvm.ClassFile.FieldType.object "java/lang/String"))).before args0 about1 = true := code_word (m := ⟨1, 2⟩) (meth := k1m2) (c := k1c2) (by decide +kernel) rfl rfl rfl (by decide +kernel)
set_option maxRecDepth 65536 in
theorem w_c2 : (Jvm.Cond.code ({ cls := "java/util/ArrayList", name := "<init>", desc := "()V" } : Jvm.MethodName) jdk_38_method_2_code (1 : Nat) (Option.none : Option Jvm.ClassFile.FieldType)).before args0 about1 = true := code_word (m := ⟨16, 0⟩) (meth := k16m0) (c := k16c0) (by decide +kernel) rfl rfl rfl (by decide +kernel)
set_option maxRecDepth 65536 in
theorem w_c3 : (Jvm.Cond.code ({ cls := "java/util/AbstractList", name := "<init>", desc := "()V" } : Jvm.MethodName) jdk_39_method_1_code (1 : Nat) (Option.none : Option Jvm.ClassFile.FieldType)).before args0 about1 = true := code_word (m := ⟨13, 0⟩) (meth := k13m0) (c := k13c0) (by decide +kernel) rfl rfl rfl (by decide +kernel)
set_option maxRecDepth 65536 in
theorem w_c4 : (Jvm.Cond.code ({ cls := "java/util/AbstractCollection", name := "<init>", desc := "()V" } : Jvm.MethodName) jdk_22_method_1_code (1 : Nat) (Option.none : Option Jvm.ClassFile.FieldType)).before args0 about1 = true := code_word (m := ⟨10, 0⟩) (meth := k10m0) (c := k10c0) (by decide +kernel) rfl rfl rfl (by decide +kernel)
set_option maxRecDepth 65536 in
theorem w_c5 : (Jvm.Cond.code ({ cls := "java/lang/Object", name := "<init>", desc := "()V" } : Jvm.MethodName) object_method_1_code (1 : Nat) (Option.none : Option Jvm.ClassFile.FieldType)).before args0 about1 = true := code_word (m := ⟨0, 0⟩) (meth := k0m0) (c := k0c0) (by decide +kernel) rfl rfl rfl (by decide +kernel)
set_option maxRecDepth 65536 in
theorem w_c6 : (Jvm.Cond.code ({ cls := "com/example/convoke/convoke/icalendar/Component", name := "of", desc := "(Ljava/lang/String;Ljava/util/List;Ljava/util/List;)Lcom/example/convoke/convoke/icalendar/Component;" } : Jvm.MethodName) prog_90_method_2_code (4 : Nat) (Option.some (Jvm.ClassFile.FieldType.object "com/example/convoke/convoke/icalendar/Component"))).before args0 about1 = true := code_word (m := ⟨17, 1⟩) (meth := k17m1) (c := k17c1) (by decide +kernel) rfl rfl rfl (by decide +kernel)
set_option maxRecDepth 65536 in
theorem w_c7 : (Jvm.Cond.code ({ cls := "com/example/convoke/convoke/icalendar/Component", name := "<init>", desc := "(Ljava/lang/String;I)V" } : Jvm.MethodName) prog_90_method_1_code (3 : Nat) (Option.none : Option Jvm.ClassFile.FieldType)).before args0 about1 = true := code_word (m := ⟨17, 0⟩) (meth := k17m0) (c := k17c0) (by decide +kernel) rfl rfl rfl (by decide +kernel)
set_option maxRecDepth 65536 in
theorem w_c8 : (Jvm.Cond.code ({ cls := "java/util/ArrayList", name := "addAll", desc := "(Ljava/util/Collection;)Z" } : Jvm.MethodName) jdk_38_method_41_code (6 : Nat) (Option.some Jvm.ClassFile.FieldType.boolean)).before args0 about1 = true := code_word (m := ⟨16, 2⟩) (meth := k16m2) (c := k16c2) (by decide +kernel) rfl rfl rfl (by decide +kernel)
set_option maxRecDepth 65536 in
theorem w_c9 : (Jvm.Cond.code ({ cls := "java/util/ArrayList", name := "toArray", desc := "()[Ljava/lang/Object;" } : Jvm.MethodName) jdk_38_method_16_code (1 : Nat) (Option.some (Jvm.ClassFile.FieldType.array (Jvm.ClassFile.FieldType.object "java/lang/Object")))).before args0 about1 = true := code_word (m := ⟨16, 1⟩) (meth := k16m1) (c := k16c1) (by decide +kernel) rfl rfl rfl (by decide +kernel)
set_option maxRecDepth 65536 in
theorem w_c10 : (Jvm.Cond.code ({ cls := "java/util/Arrays", name := "copyOf", desc := "([Ljava/lang/Object;I)[Ljava/lang/Object;" } : Jvm.MethodName) jdk_65_method_119_code (2 : Nat) (Option.some (Jvm.ClassFile.FieldType.array (Jvm.ClassFile.FieldType.object "java/lang/Object")))).before args0 about1 = true := code_word (m := ⟨18, 1⟩) (meth := k18m1) (c := k18c1) (by decide +kernel) rfl rfl rfl (by decide +kernel)
set_option maxRecDepth 65536 in
theorem w_c11 : (Jvm.Cond.code ({ cls := "java/util/Arrays", name := "copyOf", desc := "([Ljava/lang/Object;ILjava/lang/Class;)[Ljava/lang/Object;" } : Jvm.MethodName) jdk_65_method_120_code (4 : Nat) (Option.some (Jvm.ClassFile.FieldType.array (Jvm.ClassFile.FieldType.object "java/lang/Object")))).before args0 about1 = true := code_word (m := ⟨18, 2⟩) (meth := k18m2) (c := k18c2) (by decide +kernel) rfl rfl rfl (by decide +kernel)
set_option maxRecDepth 65536 in
theorem w_c12 : (Jvm.Cond.code ({ cls := "java/lang/Math", name := "min", desc := "(II)I" } : Jvm.MethodName) jdk_29_method_69_code (2 : Nat) (Option.some Jvm.ClassFile.FieldType.int)).before args0 about1 = true := code_word (m := ⟨19, 1⟩) (meth := k19m1) (c := k19c1) (by decide +kernel) rfl rfl rfl (by decide +kernel)
set_option maxRecDepth 65536 in
theorem w_c13 : (Jvm.Cond.code ({ cls := "com/example/convoke/convoke/apply/KeptOverride", name := "received", desc := "(Lcom/example/convoke/convoke/icalendar/Component;)Lcom/example/convoke/convoke/apply/KeptOverride;" } : Jvm.MethodName) prog_19_method_2_code (1 : Nat) (Option.some (Jvm.ClassFile.FieldType.object "com/example/convoke/convoke/apply/KeptOverride"))).before args0 about1 = true := code_word (m := ⟨22, 1⟩) (meth := k22m1) (c := k22c1) (by decide +kernel) rfl rfl rfl (by decide +kernel)
set_option maxRecDepth 65536 in
theorem w_c14 : (Jvm.Cond.code ({ cls := "java/util/Set", name := "of", desc := "()Ljava/util/Set;" } : Jvm.MethodName) jdk_96_method_17_code (0 : Nat) (Option.some (Jvm.ClassFile.FieldType.object "java/util/Set"))).before args0 about1 = true := code_word (m := ⟨23, 0⟩) (meth := k23m0) (c := k23c0) (by decide +kernel) rfl rfl rfl (by decide +kernel)
set_option maxRecDepth 65536 in
theorem w_c15 : (Jvm.Cond.code ({ cls := "com/example/convoke/convoke/apply/KeptOverride", name := "<init>", desc := "(Lcom/example/convoke/convoke/icalendar/Component;Ljava/lang/String;Ljava/util/Set;)V" } : Jvm.MethodName) prog_19_method_1_code (4 : Nat) (Option.none : Option Jvm.ClassFile.FieldType)).before args0 about1 = true := code_word (m := ⟨22, 0⟩) (meth := k22m0) (c := k22c0) (by decide +kernel) rfl rfl rfl (by decide +kernel)
set_option maxRecDepth 65536 in
theorem w_c16 : (Jvm.Cond.code ({ cls := "java/lang/Record", name := "<init>", desc := "()V" } : Jvm.MethodName) jdk_30_method_1_code (1 : Nat) (Option.none : Option Jvm.ClassFile.FieldType)).before args0 about1 = true := code_word (m := ⟨21, 0⟩) (meth := k21m0) (c := k21c0) (by decide +kernel) rfl rfl rfl (by decide +kernel)
set_option maxRecDepth 65536 in
theorem w_c17 : (Jvm.Cond.code ({ cls := "java/util/Set", name := "copyOf", desc := "(Ljava/util/Collection;)Ljava/util/Set;" } : Jvm.MethodName) jdk_96_method_29_code (1 : Nat) (Option.some (Jvm.ClassFile.FieldType.object "java/util/Set"))).before args0 about1 = true := code_word (m := ⟨23, 1⟩) (meth := k23m1) (c := k23c1) (by decide +kernel) rfl rfl rfl (by decide +kernel)
set_option maxRecDepth 65536 in
theorem w_c18 : (Jvm.Cond.code ({ cls := "com/example/convoke/convoke/apply/KeptOverride", name := "madeWithout", desc := "()Ljava/util/Set;" } : Jvm.MethodName) prog_19_method_26_code (1 : Nat) (Option.some (Jvm.ClassFile.FieldType.object "java/util/Set"))).before args0 about1 = true := code_word (m := ⟨22, 4⟩) (meth := k22m4) (c := k22c4) (by decide +kernel) rfl rfl rfl (by decide +kernel)
set_option maxRecDepth 65536 in
theorem w_c19 : (Jvm.Cond.code ({ cls := "com/example/convoke/convoke/apply/KeptOverride", name := "isMade", desc := "()Z" } : Jvm.MethodName) prog_19_method_9_code (1 : Nat) (Option.some Jvm.ClassFile.FieldType.boolean)).before args0 about1 = true := code_word (m := ⟨22, 2⟩) (meth := k22m2) (c := k22c2) (by decide +kernel) rfl rfl rfl (by decide +kernel)
set_option maxRecDepth 65536 in
theorem w_c20 : (Jvm.Cond.code ({ cls := "com/example/convoke/convoke/apply/KeptOverride", name := "with", desc := "(Lcom/example/convoke/convoke/icalendar/Component;)Lcom/example/convoke/convoke/apply/KeptOverride;" } : Jvm.MethodName) prog_19_method_10_code (2 : Nat) (Option.some (Jvm.ClassFile.FieldType.object "com/example/convoke/convoke/apply/KeptOverride"))).before args0 about1 = true := code_word (m := ⟨22, 3⟩) (meth := k22m3) (c := k22c3) (by decide +kernel) rfl rfl rfl (by decide +kernel)
set_option maxRecDepth 65536 in
theorem w_c21 : (Jvm.Cond.code ({ cls := "java/lang/String", name := "<init>", desc := "([C)V" } : Jvm.MethodName) jdk_42_method_3_code (2 : Nat) (Option.none : Option Jvm.ClassFile.FieldType)).before args0 about1 = true := code_word (m := ⟨7, 1⟩) (meth := k7m1) (c := k7c1) (by decide +kernel) rfl rfl rfl (by decide +kernel)
set_option maxRecDepth 65536 in
theorem w_c22 : (Jvm.Cond.code ({ cls := "java/lang/String", name := "<init>", desc := "([CIILjava/lang/Void;)V" } : Jvm.MethodName) jdk_42_method_149_code (6 : Nat) (Option.none : Option Jvm.ClassFile.FieldType)).before args0 about1 = true := code_word (m := ⟨7, 2⟩) (meth := k7m2) (c := k7c2) (by decide +kernel) rfl rfl rfl (by decide +kernel)
set_option maxRecDepth 65536 in
theorem w_c23 : (Jvm.Cond.code ({ cls := "java/lang/StringUTF16", name := "compress", desc := "([CII)[B" } : Jvm.MethodName) jdk_52_method_16_code (6 : Nat) (Option.some (Jvm.ClassFile.FieldType.array Jvm.ClassFile.FieldType.byte))).before args0 about1 = true := code_word (m := ⟨28, 2⟩) (meth := k28m2) (c := k28c2) (by decide +kernel) rfl rfl rfl (by decide +kernel)
set_option maxRecDepth 65536 in
theorem w_c24 : (Jvm.Cond.code ({ cls := "java/lang/StringUTF16", name := "compress", desc := "([CI[BII)I" } : Jvm.MethodName) jdk_52_method_21_code (7 : Nat) (Option.some Jvm.ClassFile.FieldType.int)).before args0 about1 = true := code_word (m := ⟨28, 3⟩) (meth := k28m3) (c := k28c3) (by decide +kernel) rfl rfl rfl (by decide +kernel)
set_option maxRecDepth 65536 in
theorem w_c25 : (Jvm.Cond.code ({ cls := "java/lang/StringUTF16", name := "coderFromArrayLen", desc := "([BI)B" } : Jvm.MethodName) jdk_52_method_15_code (2 : Nat) (Option.some Jvm.ClassFile.FieldType.byte)).before args0 about1 = true := code_word (m := ⟨28, 1⟩) (meth := k28m1) (c := k28c1) (by decide +kernel) rfl rfl rfl (by decide +kernel)
def codes1 : List Jvm.Cond := [Jvm.Cond.code x code maxLocals ret, Jvm.Cond.code ({ cls := "com/example/convoke/convoke/apply/KeptOverrideIsMadePinLaw", name := "madeFor", desc := "(IIII)Ljava/lang/String;" } : Jvm.MethodName) method_3_code (9 : Nat) (Option.some (Jvm.ClassFile.FieldType.object "java/lang/String")), Jvm.Cond.code ({ cls := "java/util/ArrayList", name := "<init>", desc := "()V" } : Jvm.MethodName) jdk_38_method_2_code (1 : Nat) (Option.none : Option Jvm.ClassFile.FieldType), Jvm.Cond.code ({ cls := "java/util/AbstractList", name := "<init>", desc := "()V" } : Jvm.MethodName) jdk_39_method_1_code (1 : Nat) (Option.none : Option Jvm.ClassFile.FieldType), Jvm.Cond.code ({ cls := "java/util/AbstractCollection", name := "<init>", desc := "()V" } : Jvm.MethodName) jdk_22_method_1_code (1 : Nat) (Option.none : Option Jvm.ClassFile.FieldType), Jvm.Cond.code ({ cls := "java/lang/Object", name := "<init>", desc := "()V" } : Jvm.MethodName) object_method_1_code (1 : Nat) (Option.none : Option Jvm.ClassFile.FieldType), Jvm.Cond.code ({ cls := "com/example/convoke/convoke/icalendar/Component", name := "of", desc := "(Ljava/lang/String;Ljava/util/List;Ljava/util/List;)Lcom/example/convoke/convoke/icalendar/Component;" } : Jvm.MethodName) prog_90_method_2_code (4 : Nat) (Option.some (Jvm.ClassFile.FieldType.object "com/example/convoke/convoke/icalendar/Component")), Jvm.Cond.code ({ cls := "com/example/convoke/convoke/icalendar/Component", name := "<init>", desc := "(Ljava/lang/String;I)V" } : Jvm.MethodName) prog_90_method_1_code (3 : Nat) (Option.none : Option Jvm.ClassFile.FieldType), Jvm.Cond.code ({ cls := "java/util/ArrayList", name := "addAll", desc := "(Ljava/util/Collection;)Z" } : Jvm.MethodName) jdk_38_method_41_code (6 : Nat) (Option.some Jvm.ClassFile.FieldType.boolean), Jvm.Cond.code ({ cls := "java/util/ArrayList", name := "toArray", desc := "()[Ljava/lang/Object;" } : Jvm.MethodName) jdk_38_method_16_code (1 : Nat) (Option.some (Jvm.ClassFile.FieldType.array (Jvm.ClassFile.FieldType.object "java/lang/Object"))), Jvm.Cond.code ({ cls := "java/util/Arrays", name := "copyOf", desc := "([Ljava/lang/Object;I)[Ljava/lang/Object;" } : Jvm.MethodName) jdk_65_method_119_code (2 : Nat) (Option.some (Jvm.ClassFile.FieldType.array (Jvm.ClassFile.FieldType.object "java/lang/Object"))), Jvm.Cond.code ({ cls := "java/util/Arrays", name := "copyOf", desc := "([Ljava/lang/Object;ILjava/lang/Class;)[Ljava/lang/Object;" } : Jvm.MethodName) jdk_65_method_120_code (4 : Nat) (Option.some (Jvm.ClassFile.FieldType.array (Jvm.ClassFile.FieldType.object "java/lang/Object"))), Jvm.Cond.code ({ cls := "java/lang/Math", name := "min", desc := "(II)I" } : Jvm.MethodName) jdk_29_method_69_code (2 : Nat) (Option.some Jvm.ClassFile.FieldType.int), Jvm.Cond.code ({ cls := "com/example/convoke/convoke/apply/KeptOverride", name := "received", desc := "(Lcom/example/convoke/convoke/icalendar/Component;)Lcom/example/convoke/convoke/apply/KeptOverride;" } : Jvm.MethodName) prog_19_method_2_code (1 : Nat) (Option.some (Jvm.ClassFile.FieldType.object "com/example/convoke/convoke/apply/KeptOverride")), Jvm.Cond.code ({ cls := "java/util/Set", name := "of", desc := "()Ljava/util/Set;" } : Jvm.MethodName) jdk_96_method_17_code (0 : Nat) (Option.some (Jvm.ClassFile.FieldType.object "java/util/Set")), Jvm.Cond.code ({ cls := "com/example/convoke/convoke/apply/KeptOverride", name := "<init>", desc := "(Lcom/example/convoke/convoke/icalendar/Component;Ljava/lang/String;Ljava/util/Set;)V" } : Jvm.MethodName) prog_19_method_1_code (4 : Nat) (Option.none : Option Jvm.ClassFile.FieldType), Jvm.Cond.code ({ cls := "java/lang/Record", name := "<init>", desc := "()V" } : Jvm.MethodName) jdk_30_method_1_code (1 : Nat) (Option.none : Option Jvm.ClassFile.FieldType), Jvm.Cond.code ({ cls := "java/util/Set", name := "copyOf", desc := "(Ljava/util/Collection;)Ljava/util/Set;" } : Jvm.MethodName) jdk_96_method_29_code (1 : Nat) (Option.some (Jvm.ClassFile.FieldType.object "java/util/Set")), Jvm.Cond.code ({ cls := "com/example/convoke/convoke/apply/KeptOverride", name := "madeWithout", desc := "()Ljava/util/Set;" } : Jvm.MethodName) prog_19_method_26_code (1 : Nat) (Option.some (Jvm.ClassFile.FieldType.object "java/util/Set")), Jvm.Cond.code ({ cls := "com/example/convoke/convoke/apply/KeptOverride", name := "isMade", desc := "()Z" } : Jvm.MethodName) prog_19_method_9_code (1 : Nat) (Option.some Jvm.ClassFile.FieldType.boolean), Jvm.Cond.code ({ cls := "com/example/convoke/convoke/apply/KeptOverride", name := "with", desc := "(Lcom/example/convoke/convoke/icalendar/Component;)Lcom/example/convoke/convoke/apply/KeptOverride;" } : Jvm.MethodName) prog_19_method_10_code (2 : Nat) (Option.some (Jvm.ClassFile.FieldType.object "com/example/convoke/convoke/apply/KeptOverride")), Jvm.Cond.code ({ cls := "java/lang/String", name := "<init>", desc := "([C)V" } : Jvm.MethodName) jdk_42_method_3_code (2 : Nat) (Option.none : Option Jvm.ClassFile.FieldType), Jvm.Cond.code ({ cls := "java/lang/String", name := "<init>", desc := "([CIILjava/lang/Void;)V" } : Jvm.MethodName) jdk_42_method_149_code (6 : Nat) (Option.none : Option Jvm.ClassFile.FieldType), Jvm.Cond.code ({ cls := "java/lang/StringUTF16", name := "compress", desc := "([CII)[B" } : Jvm.MethodName) jdk_52_method_16_code (6 : Nat) (Option.some (Jvm.ClassFile.FieldType.array Jvm.ClassFile.FieldType.byte)), Jvm.Cond.code ({ cls := "java/lang/StringUTF16", name := "compress", desc := "([CI[BII)I" } : Jvm.MethodName) jdk_52_method_21_code (7 : Nat) (Option.some Jvm.ClassFile.FieldType.int), Jvm.Cond.code ({ cls := "java/lang/StringUTF16", name := "coderFromArrayLen", desc := "([BI)B" } : Jvm.MethodName) jdk_52_method_15_code (2 : Nat) (Option.some Jvm.ClassFile.FieldType.byte)]
set_option maxRecDepth 65536 in
theorem codes_eq : words1.filter isCode = codes1 := rfl
theorem w_codes : ∀ c ∈ words1.filter isCode, c.before args0 about1 = true := by
  rw [codes_eq]
  intro c hc
  simp only [codes1, List.mem_cons, List.not_mem_nil, or_false] at hc
  rcases hc with rfl | rfl | rfl | rfl | rfl | rfl | rfl | rfl | rfl | rfl | rfl | rfl | rfl | rfl | rfl | rfl | rfl | rfl | rfl | rfl | rfl | rfl | rfl | rfl | rfl | rfl
  · exact w_c0
  · exact w_c1
  · exact w_c2
  · exact w_c3
  · exact w_c4
  · exact w_c5
  · exact w_c6
  · exact w_c7
  · exact w_c8
  · exact w_c9
  · exact w_c10
  · exact w_c11
  · exact w_c12
  · exact w_c13
  · exact w_c14
  · exact w_c15
  · exact w_c16
  · exact w_c17
  · exact w_c18
  · exact w_c19
  · exact w_c20
  · exact w_c21
  · exact w_c22
  · exact w_c23
  · exact w_c24
  · exact w_c25
set_option maxRecDepth 65536 in
theorem w_t1 : (words1.take 24).all (fun c => isCode c || c.before args0 about1) = true := by decide +kernel
set_option maxRecDepth 65536 in
theorem w_t2 : ((words1.drop 24).take 24).all (fun c => isCode c || c.before args0 about1) = true := by decide +kernel
set_option maxRecDepth 65536 in
theorem w_t3 : (((words1.drop 24).drop 24).take 24).all (fun c => isCode c || c.before args0 about1) = true := by decide +kernel
set_option maxRecDepth 65536 in
theorem w_t4 : ((((words1.drop 24).drop 24).drop 24).take 24).all (fun c => isCode c || c.before args0 about1) = true := by decide +kernel
set_option maxRecDepth 65536 in
theorem w_t5 : (((((words1.drop 24).drop 24).drop 24).drop 24).take 24).all (fun c => isCode c || c.before args0 about1) = true := by decide +kernel
set_option maxRecDepth 65536 in
theorem w_t6 : ((((((words1.drop 24).drop 24).drop 24).drop 24).drop 24).take 24).all (fun c => isCode c || c.before args0 about1) = true := by decide +kernel
set_option maxRecDepth 65536 in
theorem w_t7 : (((((((words1.drop 24).drop 24).drop 24).drop 24).drop 24).drop 24).take 24).all (fun c => isCode c || c.before args0 about1) = true := by decide +kernel
set_option maxRecDepth 65536 in
theorem w_t8 : (((((((words1.drop 24).drop 24).drop 24).drop 24).drop 24).drop 24).drop 24).all (fun c => isCode c || c.before args0 about1) = true := by decide +kernel
theorem w_tables : (allAtoms (Jvm.Cond.code x code maxLocals ret :: tables_1)).before args0 about1 = true := by
  rw [allAtoms_all]
  show words1.all (fun c => c.before args0 about1) = true
  refine all_split ?_ w_codes
  rw [← List.take_append_drop 24 words1, List.all_append, w_t1, ← List.take_append_drop 24 (words1.drop 24), List.all_append, w_t2, ← List.take_append_drop 24 ((words1.drop 24).drop 24), List.all_append, w_t3, ← List.take_append_drop 24 (((words1.drop 24).drop 24).drop 24), List.all_append, w_t4, ← List.take_append_drop 24 ((((words1.drop 24).drop 24).drop 24).drop 24), List.all_append, w_t5, ← List.take_append_drop 24 (((((words1.drop 24).drop 24).drop 24).drop 24).drop 24), List.all_append, w_t6, ← List.take_append_drop 24 ((((((words1.drop 24).drop 24).drop 24).drop 24).drop 24).drop 24), List.all_append, w_t7, w_t8]
  rfl
set_option maxRecDepth 65536 in
theorem w_rest : rest_1_c.before args0 about1 = true := by decide +kernel
set_option maxRecDepth 65536 in
theorem w_case : (Jvm.Cond.and given_1 narrow_1).before args0 about1 = true := by decide +kernel
set_option maxRecDepth 65536 in
theorem w_consts : constsHeld consts_1 about1 := Jvm.Lit.constsHeldB_iff.mp (by decide +kernel)
theorem w_applies : (headSpec (Jvm.Cond.code x code maxLocals ret :: tables_1) room_1).applies x e0.platform about1 = true :=
  (Spec.applies_iff w_frames).mpr ⟨w_running, w_runnable, w_alone, w_named, w_hears, w_ripe, w_room, w_tables⟩
theorem atStart : AtStart classFile x code maxLocals ret World_1 tables_1 room_1 Calls_1 rest_1 Pre_1 launch0 p0 e0 about1 theMethod args0 below0 :=
  ⟨lists_1, trivial, launch0.admits_env _ _ _, launch0.least_env, fairChoices_fair.cas, fairChoices_fair.clock, w_frames, w_args, w_heap, w_applies, ⟨⟨39, k39, 4, by decide +kernel, rfl, rfl, _, rfl, rfl⟩, ⟨w_consts, trivial⟩⟩, w_rest, w_case⟩
end start1
theorem witness_1 : WitnessClaimed_1 := ⟨start1.p0, start1.e0, start1.about1, start1.theMethod, start1.args0, start1.below0, start1.atStart⟩
end Jvm.Pilot.@@N@@
