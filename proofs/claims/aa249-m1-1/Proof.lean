import JvmDerived
import JvmDerived.Pilot.@@N@@Statement
import JvmDerived.Pilot.@@N@@Code
set_option linter.unusedVariables false
set_option linter.unusedSimpArgs false
@@BLOCK:NumsL.lean.txt@@
namespace Jvm.Pilot.@@N@@
open Jvm Jvm.ClassFile Sem Op Lib Jvm.Free Jvm.Stand Jvm.LawKit Jvm.RoadKit Bundle Jvm.Pilot.@@N@@.Jvm.D
section Own
variable {p : Program} {l : Launch} {e : Env} {R : Room} {s : State} {m : MethodId} {args : Array Value} {below : List Frame} {meth : Method} {c : Code} {T : State} {locs : List Loc} {cells slots : Nat}
/-- from S the run ends, and it ends as Q says -/
def own_Go (p : Program) (e : Env) (below : List Frame) (Q : Outcome → State → Prop) (S : State) : Prop := ∃ s₂ o, Steps p.tables e below S s₂ ∧ s₂.status = .running ∧ Ended s₂ below o ∧ Q o s₂
theorem own_go {Q : Outcome → State → Prop} {S S' : State} (h : ∀ t, Steps p.tables e below S' t → Steps p.tables e below S t) (k : own_Go p e below Q S') : own_Go p e below Q S := by
  obtain ⟨s₂, o, h1, h2⟩ := k
  exact ⟨s₂, o, h _ h1, h2⟩
theorem own_ret {Q : Option Value → Heap → List Loc → Prop} {C S : Nat} (X : Stand p l e R s m args below meth c T locs cells slots) {v : Option Value} (hv : meth.sig.returnType = none → v = none) (hlk : meth.locks = false) {S0 : State}
    (hst : ∀ fs, (∀ (f : JFrame) (acts : List Action), f.method = m → f.locked = none → f.entered = [] → (doReturn e (T.setTop f) acts v).1 = T.setFrames fs) → Steps p.tables e below S0 (T.setFrames fs))
    (hQ : Q v T.heap locs) (hC : cells ≤ C) (hS : slots ≤ S) : own_Go p e below (fun o U' => ∃ v L, o = .returned v ∧ Q v U'.heap L ∧ FrameEnd s o U' L C S) S0 := by
  obtain ⟨fs, hr, hrun, hended, hW, hsame⟩ := X.leave (v := v) hv hlk
  exact ⟨_, _, hst fs hr, hrun, hended, _, _, rfl, hQ, ⟨_, rfl⟩, hW, hsame.mono hC hS⟩
theorem own_retN {Q : Option Value → Heap → List Loc → Prop} {C S : Nat} (X : Stand p l e R s m args below meth c T locs cells slots) (hx : p.tables.exec = Jvm.exec) {pc : Nat} {Ls : Array Slot} {z : Int32} {t : FieldType} {rest : List Value} (hret : meth.sig.returnType = some t) (ht : t = .boolean ∨ t = .byte ∨ t = .char ∨ t = .short)
    (hd : decode c.code pc = .ok (.ireturn, 1)) (hQ : Q (some (.int (nar t z))) T.heap locs) (hC : cells ≤ C) (hS : slots ≤ S) (hlk : meth.locks = false := by assumption) :
    own_Go p e below (fun o U' => ∃ v L, o = .returned v ∧ Q v U'.heap L ∧ FrameEnd s o U' L C S) (T.setTop (mkF m pc Ls (.int z :: rest))) :=
  own_ret X (fun h => by rw [hret] at h; cases h) hlk (fun fs hr => retN X hx hret ht hd hr) hQ hC hS
theorem own_retI {Q : Option Value → Heap → List Loc → Prop} {C S : Nat} (X : Stand p l e R s m args below meth c T locs cells slots) (hx : p.tables.exec = Jvm.exec) {pc : Nat} {Ls : Array Slot} {z : Int32} {rest : List Value} (hret : meth.sig.returnType = some .int)
    (hd : decode c.code pc = .ok (.ireturn, 1)) (hQ : Q (some (.int z)) T.heap locs) (hC : cells ≤ C) (hS : slots ≤ S) (hlk : meth.locks = false := by assumption) :
    own_Go p e below (fun o U' => ∃ v L, o = .returned v ∧ Q v U'.heap L ∧ FrameEnd s o U' L C S) (T.setTop (mkF m pc Ls (.int z :: rest))) :=
  own_ret X (fun h => by rw [hret] at h; cases h) hlk (fun fs hr => retOut X hx hret rfl (Or.inl ⟨rfl, Or.inl rfl, z, rfl⟩) hd hr) hQ hC hS
theorem own_retL {Q : Option Value → Heap → List Loc → Prop} {C S : Nat} (X : Stand p l e R s m args below meth c T locs cells slots) (hx : p.tables.exec = Jvm.exec) {pc : Nat} {Ls : Array Slot} {z : Int64} {rest : List Value} (hret : meth.sig.returnType = some .long)
    (hd : decode c.code pc = .ok (.lreturn, 1)) (hQ : Q (some (.long z)) T.heap locs) (hC : cells ≤ C) (hS : slots ≤ S) (hlk : meth.locks = false := by assumption) :
    own_Go p e below (fun o U' => ∃ v L, o = .returned v ∧ Q v U'.heap L ∧ FrameEnd s o U' L C S) (T.setTop (mkF m pc Ls (.long z :: rest))) :=
  own_ret X (fun h => by rw [hret] at h; cases h) hlk (fun fs hr => retOut X hx hret rfl (Or.inr (Or.inl ⟨rfl, rfl, z, rfl⟩)) hd hr) hQ hC hS
theorem own_retA {Q : Option Value → Heap → List Loc → Prop} {C S : Nat} (X : Stand p l e R s m args below meth c T locs cells slots) (hx : p.tables.exec = Jvm.exec) {pc : Nat} {Ls : Array Slot} {w : Value} {t : FieldType} {rest : List Value} (hret : meth.sig.returnType = some t) (ht : t.isReference = true) (hw : w.isRef = true)
    (hd : decode c.code pc = .ok (.areturn, 1)) (hQ : Q (some w) T.heap locs) (hC : cells ≤ C) (hS : slots ≤ S) (hlk : meth.locks = false := by assumption) :
    own_Go p e below (fun o U' => ∃ v L, o = .returned v ∧ Q v U'.heap L ∧ FrameEnd s o U' L C S) (T.setTop (mkF m pc Ls (w :: rest))) :=
  own_ret X (fun h => by rw [hret] at h; cases h) hlk (fun fs hr => retOut X hx hret (by cases t <;> first | (cases ht; done) | rfl) (Or.inr (Or.inr (Or.inr (Or.inr ⟨rfl, ht, hw⟩)))) hd hr) hQ hC hS
theorem own_ret0 {Q : Option Value → Heap → List Loc → Prop} {C S : Nat} (X : Stand p l e R s m args below meth c T locs cells slots) (hx : p.tables.exec = Jvm.exec) {pc : Nat} {Ls : Array Slot} (hret : meth.sig.returnType = none)
    (hd : decode c.code pc = .ok (.return_, 1)) (hQ : Q none T.heap locs) (hC : cells ≤ C) (hS : slots ≤ S) (hlk : meth.locks = false := by assumption) :
    own_Go p e below (fun o U' => ∃ v L, o = .returned v ∧ Q v U'.heap L ∧ FrameEnd s o U' L C S) (T.setTop (mkF m pc Ls [])) :=
  own_ret X (fun _ => rfl) hlk (fun fs hr => X.returnOut hx hret hd hr) hQ hC hS
theorem own_retW {Q : Option Value → Heap → List Loc → Prop} {C S : Nat} {vm₁ : Vm} {n : Nat} (X : Stand p l e R (s.setVm vm₁) m args below meth c T locs cells slots) {v : Option Value} (hv : meth.sig.returnType = none → v = none) (hlk : meth.locks = false) {S0 : State}
    (hst : ∀ fs, (∀ (f : JFrame) (acts : List Action), f.method = m → f.locked = none → f.entered = [] → (doReturn e (T.setTop f) acts v).1 = T.setFrames fs) → Steps p.tables e below S0 (T.setFrames fs))
    (hS₁ : s.Since vm₁ n) (hn₁ : n ≤ T.heap.size) (hQ : Q v T.heap locs) (hC : cells ≤ C) (hS : slots ≤ S) : own_Go p e below (fun o U' => ∃ v L, o = .returned v ∧ Q v U'.heap L ∧ ReturnedEndW s o U' L C S) S0 := by
  obtain ⟨fs, hr, hrun, hended, q1, q2, q3, q4⟩ := X.leaveW hS₁ hn₁ (v := v) hv hlk
  exact ⟨_, _, hst fs hr, hrun, hended, _, _, rfl, hQ, q1, q2, q3, q4.mono hC hS⟩
theorem own_retNW {Q : Option Value → Heap → List Loc → Prop} {C S : Nat} {vm₁ : Vm} {n : Nat} (X : Stand p l e R (s.setVm vm₁) m args below meth c T locs cells slots) (hx : p.tables.exec = Jvm.exec) {pc : Nat} {Ls : Array Slot} {z : Int32} {t : FieldType} {rest : List Value} (hret : meth.sig.returnType = some t) (ht : t = .boolean ∨ t = .byte ∨ t = .char ∨ t = .short)
    (hd : decode c.code pc = .ok (.ireturn, 1)) (hS₁ : s.Since vm₁ n) (hn₁ : n ≤ T.heap.size) (hQ : Q (some (.int (nar t z))) T.heap locs) (hC : cells ≤ C) (hS : slots ≤ S) (hlk : meth.locks = false := by assumption) :
    own_Go p e below (fun o U' => ∃ v L, o = .returned v ∧ Q v U'.heap L ∧ ReturnedEndW s o U' L C S) (T.setTop (mkF m pc Ls (.int z :: rest))) :=
  own_retW X (fun h => by rw [hret] at h; cases h) hlk (fun fs hr => retN X hx hret ht hd hr) hS₁ hn₁ hQ hC hS
theorem own_retIW {Q : Option Value → Heap → List Loc → Prop} {C S : Nat} {vm₁ : Vm} {n : Nat} (X : Stand p l e R (s.setVm vm₁) m args below meth c T locs cells slots) (hx : p.tables.exec = Jvm.exec) {pc : Nat} {Ls : Array Slot} {z : Int32} {rest : List Value} (hret : meth.sig.returnType = some .int)
    (hd : decode c.code pc = .ok (.ireturn, 1)) (hS₁ : s.Since vm₁ n) (hn₁ : n ≤ T.heap.size) (hQ : Q (some (.int z)) T.heap locs) (hC : cells ≤ C) (hS : slots ≤ S) (hlk : meth.locks = false := by assumption) :
    own_Go p e below (fun o U' => ∃ v L, o = .returned v ∧ Q v U'.heap L ∧ ReturnedEndW s o U' L C S) (T.setTop (mkF m pc Ls (.int z :: rest))) :=
  own_retW X (fun h => by rw [hret] at h; cases h) hlk (fun fs hr => retOut X hx hret rfl (Or.inl ⟨rfl, Or.inl rfl, z, rfl⟩) hd hr) hS₁ hn₁ hQ hC hS
theorem own_retLW {Q : Option Value → Heap → List Loc → Prop} {C S : Nat} {vm₁ : Vm} {n : Nat} (X : Stand p l e R (s.setVm vm₁) m args below meth c T locs cells slots) (hx : p.tables.exec = Jvm.exec) {pc : Nat} {Ls : Array Slot} {z : Int64} {rest : List Value} (hret : meth.sig.returnType = some .long)
    (hd : decode c.code pc = .ok (.lreturn, 1)) (hS₁ : s.Since vm₁ n) (hn₁ : n ≤ T.heap.size) (hQ : Q (some (.long z)) T.heap locs) (hC : cells ≤ C) (hS : slots ≤ S) (hlk : meth.locks = false := by assumption) :
    own_Go p e below (fun o U' => ∃ v L, o = .returned v ∧ Q v U'.heap L ∧ ReturnedEndW s o U' L C S) (T.setTop (mkF m pc Ls (.long z :: rest))) :=
  own_retW X (fun h => by rw [hret] at h; cases h) hlk (fun fs hr => retOut X hx hret rfl (Or.inr (Or.inl ⟨rfl, rfl, z, rfl⟩)) hd hr) hS₁ hn₁ hQ hC hS
theorem own_retAW {Q : Option Value → Heap → List Loc → Prop} {C S : Nat} {vm₁ : Vm} {n : Nat} (X : Stand p l e R (s.setVm vm₁) m args below meth c T locs cells slots) (hx : p.tables.exec = Jvm.exec) {pc : Nat} {Ls : Array Slot} {w : Value} {t : FieldType} {rest : List Value} (hret : meth.sig.returnType = some t) (ht : t.isReference = true) (hw : w.isRef = true)
    (hd : decode c.code pc = .ok (.areturn, 1)) (hS₁ : s.Since vm₁ n) (hn₁ : n ≤ T.heap.size) (hQ : Q (some w) T.heap locs) (hC : cells ≤ C) (hS : slots ≤ S) (hlk : meth.locks = false := by assumption) :
    own_Go p e below (fun o U' => ∃ v L, o = .returned v ∧ Q v U'.heap L ∧ ReturnedEndW s o U' L C S) (T.setTop (mkF m pc Ls (w :: rest))) :=
  own_retW X (fun h => by rw [hret] at h; cases h) hlk (fun fs hr => retOut X hx hret (by cases t <;> first | (cases ht; done) | rfl) (Or.inr (Or.inr (Or.inr (Or.inr ⟨rfl, ht, hw⟩)))) hd hr) hS₁ hn₁ hQ hC hS
theorem own_ret0W {Q : Option Value → Heap → List Loc → Prop} {C S : Nat} {vm₁ : Vm} {n : Nat} (X : Stand p l e R (s.setVm vm₁) m args below meth c T locs cells slots) (hx : p.tables.exec = Jvm.exec) {pc : Nat} {Ls : Array Slot} (hret : meth.sig.returnType = none)
    (hd : decode c.code pc = .ok (.return_, 1)) (hS₁ : s.Since vm₁ n) (hn₁ : n ≤ T.heap.size) (hQ : Q none T.heap locs) (hC : cells ≤ C) (hS : slots ≤ S) (hlk : meth.locks = false := by assumption) :
    own_Go p e below (fun o U' => ∃ v L, o = .returned v ∧ Q v U'.heap L ∧ ReturnedEndW s o U' L C S) (T.setTop (mkF m pc Ls [])) :=
  own_retW X (fun _ => rfl) hlk (fun fs hr => X.returnOut hx hret hd hr) hS₁ hn₁ hQ hC hS
theorem own_retH {Q : Option Value → Heap → List Loc → Prop} {C S : Nat} {vm₁ : Vm} {n : Nat} {Z : State} {EL : List (String × Nat)} (X : Stand p l e R (s.setVm vm₁) m args below meth c T locs cells slots) {v : Option Value} (hv : meth.sig.returnType = none → v = none) (hlk : meth.locks = false) {S0 : State}
    (hst : ∀ fs, (∀ (f : JFrame) (acts : List Action), f.method = m → f.locked = none → f.entered = [] → (doReturn e (T.setTop f) acts v).1 = T.setFrames fs) → Steps p.tables e below S0 (T.setFrames fs))
    (hS₁ : s.Since vm₁ n) (hn₁ : n ≤ T.heap.size) (hQ : Q v T.heap locs) (hF : CHr Z EL s.vm s.heap T.vm T.heap) (hC : cells ≤ C) (hS : slots ≤ S) : own_Go p e below (fun o U' => ∃ v L, o = .returned v ∧ Q v U'.heap L ∧ CHr Z EL s.vm s.heap U'.vm U'.heap ∧ ReturnedEndW s o U' L C S) S0 := by
  obtain ⟨fs, hr, hrun, hended, q1, q2, q3, q4⟩ := X.leaveW hS₁ hn₁ (v := v) hv hlk
  exact ⟨_, _, hst fs hr, hrun, hended, _, _, rfl, hQ, hF, q1, q2, q3, q4.mono hC hS⟩
theorem own_retNH {Q : Option Value → Heap → List Loc → Prop} {C S : Nat} {vm₁ : Vm} {n : Nat} {Z : State} {EL : List (String × Nat)} (X : Stand p l e R (s.setVm vm₁) m args below meth c T locs cells slots) (hx : p.tables.exec = Jvm.exec) {pc : Nat} {Ls : Array Slot} {z : Int32} {t : FieldType} {rest : List Value} (hret : meth.sig.returnType = some t) (ht : t = .boolean ∨ t = .byte ∨ t = .char ∨ t = .short)
    (hd : decode c.code pc = .ok (.ireturn, 1)) (hS₁ : s.Since vm₁ n) (hn₁ : n ≤ T.heap.size) (hQ : Q (some (.int (nar t z))) T.heap locs) (hF : CHr Z EL s.vm s.heap T.vm T.heap) (hC : cells ≤ C) (hS : slots ≤ S) (hlk : meth.locks = false := by assumption) :
    own_Go p e below (fun o U' => ∃ v L, o = .returned v ∧ Q v U'.heap L ∧ CHr Z EL s.vm s.heap U'.vm U'.heap ∧ ReturnedEndW s o U' L C S) (T.setTop (mkF m pc Ls (.int z :: rest))) :=
  own_retH X (fun h => by rw [hret] at h; cases h) hlk (fun fs hr => retN X hx hret ht hd hr) hS₁ hn₁ hQ hF hC hS
theorem own_retIH {Q : Option Value → Heap → List Loc → Prop} {C S : Nat} {vm₁ : Vm} {n : Nat} {Z : State} {EL : List (String × Nat)} (X : Stand p l e R (s.setVm vm₁) m args below meth c T locs cells slots) (hx : p.tables.exec = Jvm.exec) {pc : Nat} {Ls : Array Slot} {z : Int32} {rest : List Value} (hret : meth.sig.returnType = some .int)
    (hd : decode c.code pc = .ok (.ireturn, 1)) (hS₁ : s.Since vm₁ n) (hn₁ : n ≤ T.heap.size) (hQ : Q (some (.int z)) T.heap locs) (hF : CHr Z EL s.vm s.heap T.vm T.heap) (hC : cells ≤ C) (hS : slots ≤ S) (hlk : meth.locks = false := by assumption) :
    own_Go p e below (fun o U' => ∃ v L, o = .returned v ∧ Q v U'.heap L ∧ CHr Z EL s.vm s.heap U'.vm U'.heap ∧ ReturnedEndW s o U' L C S) (T.setTop (mkF m pc Ls (.int z :: rest))) :=
  own_retH X (fun h => by rw [hret] at h; cases h) hlk (fun fs hr => retOut X hx hret rfl (Or.inl ⟨rfl, Or.inl rfl, z, rfl⟩) hd hr) hS₁ hn₁ hQ hF hC hS
theorem own_retLH {Q : Option Value → Heap → List Loc → Prop} {C S : Nat} {vm₁ : Vm} {n : Nat} {Z : State} {EL : List (String × Nat)} (X : Stand p l e R (s.setVm vm₁) m args below meth c T locs cells slots) (hx : p.tables.exec = Jvm.exec) {pc : Nat} {Ls : Array Slot} {z : Int64} {rest : List Value} (hret : meth.sig.returnType = some .long)
    (hd : decode c.code pc = .ok (.lreturn, 1)) (hS₁ : s.Since vm₁ n) (hn₁ : n ≤ T.heap.size) (hQ : Q (some (.long z)) T.heap locs) (hF : CHr Z EL s.vm s.heap T.vm T.heap) (hC : cells ≤ C) (hS : slots ≤ S) (hlk : meth.locks = false := by assumption) :
    own_Go p e below (fun o U' => ∃ v L, o = .returned v ∧ Q v U'.heap L ∧ CHr Z EL s.vm s.heap U'.vm U'.heap ∧ ReturnedEndW s o U' L C S) (T.setTop (mkF m pc Ls (.long z :: rest))) :=
  own_retH X (fun h => by rw [hret] at h; cases h) hlk (fun fs hr => retOut X hx hret rfl (Or.inr (Or.inl ⟨rfl, rfl, z, rfl⟩)) hd hr) hS₁ hn₁ hQ hF hC hS
theorem own_retAH {Q : Option Value → Heap → List Loc → Prop} {C S : Nat} {vm₁ : Vm} {n : Nat} {Z : State} {EL : List (String × Nat)} (X : Stand p l e R (s.setVm vm₁) m args below meth c T locs cells slots) (hx : p.tables.exec = Jvm.exec) {pc : Nat} {Ls : Array Slot} {w : Value} {t : FieldType} {rest : List Value} (hret : meth.sig.returnType = some t) (ht : t.isReference = true) (hw : w.isRef = true)
    (hd : decode c.code pc = .ok (.areturn, 1)) (hS₁ : s.Since vm₁ n) (hn₁ : n ≤ T.heap.size) (hQ : Q (some w) T.heap locs) (hF : CHr Z EL s.vm s.heap T.vm T.heap) (hC : cells ≤ C) (hS : slots ≤ S) (hlk : meth.locks = false := by assumption) :
    own_Go p e below (fun o U' => ∃ v L, o = .returned v ∧ Q v U'.heap L ∧ CHr Z EL s.vm s.heap U'.vm U'.heap ∧ ReturnedEndW s o U' L C S) (T.setTop (mkF m pc Ls (w :: rest))) :=
  own_retH X (fun h => by rw [hret] at h; cases h) hlk (fun fs hr => retOut X hx hret (by cases t <;> first | (cases ht; done) | rfl) (Or.inr (Or.inr (Or.inr (Or.inr ⟨rfl, ht, hw⟩)))) hd hr) hS₁ hn₁ hQ hF hC hS
theorem own_ret0H {Q : Option Value → Heap → List Loc → Prop} {C S : Nat} {vm₁ : Vm} {n : Nat} {Z : State} {EL : List (String × Nat)} (X : Stand p l e R (s.setVm vm₁) m args below meth c T locs cells slots) (hx : p.tables.exec = Jvm.exec) {pc : Nat} {Ls : Array Slot} (hret : meth.sig.returnType = none)
    (hd : decode c.code pc = .ok (.return_, 1)) (hS₁ : s.Since vm₁ n) (hn₁ : n ≤ T.heap.size) (hQ : Q none T.heap locs) (hF : CHr Z EL s.vm s.heap T.vm T.heap) (hC : cells ≤ C) (hS : slots ≤ S) (hlk : meth.locks = false := by assumption) :
    own_Go p e below (fun o U' => ∃ v L, o = .returned v ∧ Q v U'.heap L ∧ CHr Z EL s.vm s.heap U'.vm U'.heap ∧ ReturnedEndW s o U' L C S) (T.setTop (mkF m pc Ls [])) :=
  own_retH X (fun _ => rfl) hlk (fun fs hr => X.returnOut hx hret hd hr) hS₁ hn₁ hQ hF hC hS
theorem own_cat1 {v : Value} (h : v.isRef = true) : v.category = 1 := by cases v <;> simp_all [Value.isRef, Value.category]
theorem own_catR {x : Addr} : (Value.ref x).category = 1 := rfl
theorem own_catI {x : Int32} : (Value.int x).category = 1 := rfl
theorem own_catJ {x : Int64} : (Value.long x).category = 2 := rfl
theorem own_catN : Value.null.category = 1 := rfl
theorem own_st1 {L L' : Array Slot} {i : Nat} {v : Value} {o : Slot} (hold : L[i]? = some o) (ho : o = .unset ∨ ∃ w, o = .val w ∧ w.category = 1) (hv : v.category = 1) (q : L.setIfInBounds i (.val v) = L' := by rfl) : storeLocals L i v = some L' := q ▸ XS.store1 hold ho hv
theorem own_fits {v : Value} {t : FieldType} (h : v.isRef = true) (ht : t.isReference = true) : fits t v = true := by cases t <;> first | (cases ht; done) | (cases v <;> simp_all [Value.isRef, fits])
theorem own_frm {k k' : Nat} {L : List Loc} (N : Fr k L) (h : k' ≤ k) : Fr k' L := fun y hy => Nat.le_trans h (N y hy)
theorem own_lsw {g : JFrame} {target : State} (X : Stand p l e R s m args below meth c T locs cells slots) (hx : p.tables.exec = Jvm.exec) (hg : g.method = m) {df : Int} {prs : Array (Int × Int)} {len : Nat} {x : Int32} {rest : List Value} {o : Int} {pc0 pc' : Nat} (hpc : g.pc = pc0)
    (hd : decode c.code g.pc = .ok (.lookupswitch df prs, len)) (hs : g.stack = .int x :: rest) (hsrt : (prs.toList.zip (prs.toList.drop 1)).all (fun (a, next) => a.1 < next.1) = true) (hf : lookupswitch.offset prs.toList df x.toInt = o) (ho : 0 ≤ (pc0 : Int) + o) (hp : ((pc0 : Int) + o).toNat = pc')
    (hr : Steps p.tables e below (T.setTop { g with pc := pc', stack := rest }) target) : Steps p.tables e below (T.setTop g) target := by
  subst hg hpc hp
  jvm_step X.here [X.here.top, hx, hd, hs, lookupswitch.wp_chain, hf, ho]
  first | exact hr | exact ⟨by simpa using hsrt, hr⟩
theorem own_backH {Z : State} {a0 : Array Value} {EL : List (String × Nat)} {h : Heap} {vm0 : Vm} {y : MethodName} {bytes : ByteArray} {maxL : Nat} {ret : Option FieldType} {rm : Room} {len W : Nat} {as' : Array Value} {sf : List Addr} {Q : Option Value → Heap → List Loc → Prop}
    (hM : MetFree l y (head1 [Cond.code y bytes maxL ret] rm) (fun a U => a = as' ∧ Z.Warmed39 U.vm ∧ U.heap = h ∧ CHv Z EL U.vm h ∧ ∀ x ∈ sf, Safe Z EL U.vm h x) (fun _ _ _ _ _ => True) (fun _ U o U' => ∃ v L, o = .returned v ∧ Q v U'.heap L ∧ CHr Z EL U.vm U.heap U'.vm U'.heap ∧ ReturnedEndW U o U' L rm.cells rm.slots))
    (hZ : Z.Warmed39 vm0) (wc : (Cond.code y bytes maxL ret).before a0 Z = true) (wz : (Cond.initialized y.cls).before a0 Z = true) (hf : rm.frames + 1 ≤ R.frames) (hl : W + (maxL + 11) + rm.locals ≤ R.locals) (hEL : EW Z a0 EL) (H : CHv Z EL vm0 h) (hsf : ∀ x ∈ sf, x < h.size ∧ Safe Z EL vm0 h x) :
    BackS l R p e below (s.setVm vm0) args y len W (fun A a => a = as' ∧ A.U.heap = h ∧ A.cells + rm.cells ≤ R.cells ∧ A.slots + rm.slots ≤ R.slots)
      (fun A _ v B => ∃ L, Q v B.U.heap L ∧ B.locs = A.locs ++ L ∧ B.cells = A.cells + rm.cells ∧ B.slots = A.slots + rm.slots ∧ CHr Z EL vm0 h B.U.vm B.U.heap) := by
  refine BackS.of_freeW (bytes := bytes) (maxL := maxL) (ret := ret) (E := fun _ first o t L k n => (k = rm.cells ∧ n = rm.slots) ∧ CHr Z EL first.vm first.heap t.vm t.heap ∧ ∃ v, o = .returned v ∧ Q v t.heap L) hM hf hl ?_ ?_ (fun _ _ _ _ _ _ _ _ _ => trivial) ?_ ?_
  · intro m meth c A a Y hp
    have hU : Z.Warmed39 A.U.vm := wtrans (s := s.setVm vm0) hZ Y.warmed
    exact ⟨by show (Cond.and _ .tt).before a A.U = true; rw [Cond.before_and, mv hU wc]; rfl, mv hU wc, mv hU wz, hp.2.2.1, hp.2.2.2⟩
  · intro m meth c A a g mk Y hp
    have q := CHv.at Y hZ hEL H
    exact ⟨hp.1, wtrans (s := s.setVm vm0) hZ Y.warmed, hp.2.1, q.1, fun x hx => q.safe (hsf x hx).1 (hsf x hx).2⟩
  · rintro _ _ _ _ ⟨v, L, h1, h2, h3, h4⟩
    exact ⟨L, _, _, h4, ⟨rfl, rfl⟩, h3, v, h1, h2⟩
  · rintro m meth c A a g mk v t L k n Y hp _ _ ⟨⟨e1, e2⟩, e5, v', e3, e4⟩
    cases e3
    subst e1 e2
    have q := (CHv.at Y hZ hEL H).trans (vm2 := t.vm) (h2 := t.heap) (by rw [← hp.2.1]; exact e5)
    exact ⟨L, e4, rfl, rfl, rfl, q⟩
end Own
theorem own_wS {Z : State} {a0 : Array Value} (hw : ∀ d ∈ tables_1, d.before a0 Z = true) : ∀ a ∈ Bundle.stringAtoms, a.before a0 Z = true := by
  intro a ha
  simp only [Bundle.stringAtoms, Bundle.sN, List.mem_cons, List.not_mem_nil, or_false] at ha
  rcases ha with rfl | rfl | rfl | rfl | rfl | rfl | rfl
  · exact (hw _ (List.mem_of_getElem? (i := 42) rfl))
  · exact (hw _ (List.mem_of_getElem? (i := 41) rfl))
  · exact (hw _ (List.mem_of_getElem? (i := 56) rfl))
  · exact (hw _ (List.mem_of_getElem? (i := 66) rfl))
  · exact (hw _ (List.mem_of_getElem? (i := 64) rfl))
  · exact (hw _ (List.mem_of_getElem? (i := 76) rfl))
  · exact (hw _ (List.mem_of_getElem? (i := 77) rfl))
abbrev own_EL : List (String × Nat) := consts_1
theorem own_ew {Z : State} {a0 : Array Value} (hw : ∀ d ∈ tables_1, d.before a0 Z = true) : EW Z a0 own_EL := (EW.cons (hw _ (List.mem_of_getElem? (i := 75) rfl)) (by decide) EW.nil)
theorem dL1b_0 : decode jdk_52_method_21_code 0 = .ok (.iconst 0, 1) := by decide +kernel
theorem dL1b_1 : decode jdk_52_method_21_code 1 = .ok (.istore 5, 2) := by decide +kernel
theorem dL1b_3 : decode jdk_52_method_21_code 3 = .ok (.iload 5, 2) := by decide +kernel
theorem dL1b_5 : decode jdk_52_method_21_code 5 = .ok (.iload 4, 2) := by decide +kernel
theorem dL1b_7 : decode jdk_52_method_21_code 7 = .ok (.if_icmp .ge 37, 3) := by decide +kernel
theorem dL1b_10 : decode jdk_52_method_21_code 10 = .ok (.aload_n 0, 1) := by decide +kernel
theorem dL1b_11 : decode jdk_52_method_21_code 11 = .ok (.iload_n 1, 1) := by decide +kernel
theorem dL1b_12 : decode jdk_52_method_21_code 12 = .ok (.caload, 1) := by decide +kernel
theorem dL1b_13 : decode jdk_52_method_21_code 13 = .ok (.istore 6, 2) := by decide +kernel
theorem dL1b_15 : decode jdk_52_method_21_code 15 = .ok (.iload 6, 2) := by decide +kernel
theorem dL1b_17 : decode jdk_52_method_21_code 17 = .ok (.sipush 255, 3) := by decide +kernel
theorem dL1b_20 : decode jdk_52_method_21_code 20 = .ok (.if_icmp .le 6, 3) := by decide +kernel
theorem dL1b_26 : decode jdk_52_method_21_code 26 = .ok (.aload_n 2, 1) := by decide +kernel
theorem dL1b_27 : decode jdk_52_method_21_code 27 = .ok (.iload_n 3, 1) := by decide +kernel
theorem dL1b_28 : decode jdk_52_method_21_code 28 = .ok (.iload 6, 2) := by decide +kernel
theorem dL1b_30 : decode jdk_52_method_21_code 30 = .ok (.i2b, 1) := by decide +kernel
theorem dL1b_31 : decode jdk_52_method_21_code 31 = .ok (.bastore, 1) := by decide +kernel
theorem dL1b_32 : decode jdk_52_method_21_code 32 = .ok (.iinc 1 1, 3) := by decide +kernel
theorem dL1b_35 : decode jdk_52_method_21_code 35 = .ok (.iinc 3 1, 3) := by decide +kernel
theorem dL1b_38 : decode jdk_52_method_21_code 38 = .ok (.iinc 5 1, 3) := by decide +kernel
theorem dL1b_41 : decode jdk_52_method_21_code 41 = .ok (.goto (-38), 3) := by decide +kernel
theorem dL1b_44 : decode jdk_52_method_21_code 44 = .ok (.iload 4, 2) := by decide +kernel
theorem dL1b_46 : decode jdk_52_method_21_code 46 = .ok (.ireturn, 1) := by decide +kernel
theorem pnL1b : plainName "java/lang/StringUTF16" = true := by first | (simp [plainName, overriddenIn]; done) | decide +kernel
theorem efL1b (m : MethodId) (x0 : Addr) (x1 : Int32) (x2 : Addr) (x3 : Int32) (x4 : Int32) : entryFrame m #[(.ref x0), (.int x3), (.ref x2), (.int x3), (.int x4)] 7 = mkF m 0 #[.val (.ref x0), .val (.int x3), .val (.ref x2), .val (.int x3), .val (.int x4), .unset, .unset] [] := by first | (simp [entryFrame, mkF, argsToLocals, Value.category]; done) | rfl
def own_QL1b (Z : State) (u : Addr) (ku : ClassId) (c0 : Int32) (h0 : Heap) (n0 : Nat) (v : Option Value) (h : Heap) (L : List Loc) : Prop := v = some (.int (1 : Int32)) ∧ Fr n0 L ∧ Keep h0 h [u] ∧ Arv Z h u ku .byte (1 : Int32) [.int (nar .byte (c0.toInt8.toInt32))] (.int (0 : Int32))
set_option maxRecDepth 65536 in
set_option maxHeartbeats 40000000 in
theorem rmL1b (l : Launch) (Z : State) (a0 : Array Value) (hw : ∀ d ∈ tables_1, d.before a0 Z = true) (ws : List Jvm.Cond) (cc u : Addr) (kc ku : ClassId) (c0 : Int32) (h0 : Heap) (n0 : Nat) (Z0 : n0 ≤ h0.size) (Ac : Arv Z h0 cc kc .char (1 : Int32) [.int c0] (.int (0 : Int32))) (Au : Arv Z h0 u ku .byte (1 : Int32) [.int (0 : Int32)] (.int (0 : Int32))) (g_u : n0 ≤ u) (ne_cu : cc ≠ u) (hp0 : ¬ (255 : Int32) < c0) :
    MetFree l (⟨"java/lang/StringUTF16", "compress", "([CI[BII)I"⟩ : MethodName) (head1 (Jvm.Cond.code (⟨"java/lang/StringUTF16", "compress", "([CI[BII)I"⟩ : MethodName) jdk_52_method_21_code 7 (some .int) :: ws) ({ frames := 0, cells := 0, slots := 0, locals := 0 } : Room)) (fun a U => a = #[(.ref cc), (.int (0 : Int32)), (.ref u), (.int (0 : Int32)), (.int (1 : Int32))] ∧ Z.Warmed39 U.vm ∧ U.heap = h0) (fun _ _ _ _ _ => True) (fun _ U o U' => ∃ v L, o = .returned v ∧ own_QL1b Z u ku c0 h0 n0 v U'.heap L ∧ FrameEnd U o U' L ({ frames := 0, cells := 0, slots := 0, locals := 0 } : Room).cells ({ frames := 0, cells := 0, slots := 0, locals := 0 } : Room).slots) := by
  refine MetFree.of_bodySF (plainFor_of_name pnL1b) hisR ?_
  intro p e s m args below meth c s₁ Bd hml0 hP hK
  obtain ⟨rfl, hZ, hh⟩ := hP
  have hx := Bd.exec
  have hby := Bd.bytes
  have hml : c.maxLocals = 7 := hml0
  have hown : s.vm.findClass "java/lang/StringUTF16" = some m.cls := findClass_of_methodNamed Bd.named
  have hnm := (name_of_methodNamed Bd.named Bd.method).1
  have hlk : meth.locks = false := Bd.notSynchronized
  have X0 : Stand p l e ({ frames := 0, cells := 0, slots := 0, locals := 0 } : Room) s m #[(.ref cc), (.int (0 : Int32)), (.ref u), (.int (0 : Int32)), (.int (1 : Int32))] below meth c s₁ [] 0 0 := Stand.of_body Bd
  have e0 : s₁.heap = h0 := by rw [← hh, Bd.state]; rfl
  have N0 := Fr.nil n0
  refine own_go (fun t k => castTop (efL1b m cc (0 : Int32) u (0 : Int32) (1 : Int32)) k) ?_
  show own_Go p e below _ (s₁.setTop (mkF m 0 #[.val (.ref cc), .val (.int (0 : Int32)), .val (.ref u), .val (.int (0 : Int32)), .val (.int (1 : Int32)), .unset, .unset] []))
  refine own_go (fun t k => XS.iconst X0.here hx rfl (hb hby dL1b_0) k) ?_
  show own_Go p e below _ (s₁.setTop (mkF m 1 #[.val (.ref cc), .val (.int (0 : Int32)), .val (.ref u), .val (.int (0 : Int32)), .val (.int (1 : Int32)), .unset, .unset] [(.int (0 : Int32))]))
  refine own_go (fun t k => XS.istore X0.here hx rfl (hb hby dL1b_1) rfl (l' := #[.val (.ref cc), .val (.int (0 : Int32)), .val (.ref u), .val (.int (0 : Int32)), .val (.int (1 : Int32)), .val (.int (0 : Int32)), .unset]) rfl k) ?_
  show own_Go p e below _ (s₁.setTop (mkF m 3 #[.val (.ref cc), .val (.int (0 : Int32)), .val (.ref u), .val (.int (0 : Int32)), .val (.int (1 : Int32)), .val (.int (0 : Int32)), .unset] []))
  refine own_go (fun t k => XS.iload X0.here hx rfl (hb hby dL1b_3) rfl k) ?_
  show own_Go p e below _ (s₁.setTop (mkF m 5 #[.val (.ref cc), .val (.int (0 : Int32)), .val (.ref u), .val (.int (0 : Int32)), .val (.int (1 : Int32)), .val (.int (0 : Int32)), .unset] [(.int (0 : Int32))]))
  refine own_go (fun t k => XS.iload X0.here hx rfl (hb hby dL1b_5) rfl k) ?_
  show own_Go p e below _ (s₁.setTop (mkF m 7 #[.val (.ref cc), .val (.int (0 : Int32)), .val (.ref u), .val (.int (0 : Int32)), .val (.int (1 : Int32)), .val (.int (0 : Int32)), .unset] [(.int (1 : Int32)), (.int (0 : Int32))]))
  refine own_go (fun t k => XS.icmpNo X0.here hx rfl (hb hby dL1b_7) rfl (tlt (by decide : (0 : Int32) < (1 : Int32))).2.1 k) ?_
  show own_Go p e below _ (s₁.setTop (mkF m 10 #[.val (.ref cc), .val (.int (0 : Int32)), .val (.ref u), .val (.int (0 : Int32)), .val (.int (1 : Int32)), .val (.int (0 : Int32)), .unset] []))
  refine own_go (fun t k => XS.aloadN X0.here hx rfl (hb hby dL1b_10) rfl rfl k) ?_
  show own_Go p e below _ (s₁.setTop (mkF m 11 #[.val (.ref cc), .val (.int (0 : Int32)), .val (.ref u), .val (.int (0 : Int32)), .val (.int (1 : Int32)), .val (.int (0 : Int32)), .unset] [(.ref cc)]))
  refine own_go (fun t k => XS.iloadN X0.here hx rfl (hb hby dL1b_11) rfl k) ?_
  show own_Go p e below _ (s₁.setTop (mkF m 12 #[.val (.ref cc), .val (.int (0 : Int32)), .val (.ref u), .val (.int (0 : Int32)), .val (.int (1 : Int32)), .val (.int (0 : Int32)), .unset] [(.int (0 : Int32)), (.ref cc)]))
  obtain ⟨cl1, Ar1, qa1, Sa1, Na1, Ha1, Ga1⟩ := id Ac
  have hin1 : ¬ ((0 : Int32) < 0 ∨ cl1.slots.size ≤ ((0 : Int32)).toNatClampNeg) := inb_of Sa1 ⟨by decide, by decide⟩
  have hat1 : cl1.slots[((0 : Int32)).toNatClampNeg]? = some (.int c0) := Ha1.at hin1 rfl
  refine own_go (fun t k => X0.caload hx (j := (0 : Int32)) (v := (.int c0)) (by rw [e0]; exact Ar1.1) (State.isArrayOf_alike hZ.alike Ar1.2.1) Ar1.2.2 hin1 hat1 (g := (mkF m 12 #[.val (.ref cc), .val (.int (0 : Int32)), .val (.ref u), .val (.int (0 : Int32)), .val (.int (1 : Int32)), .val (.int (0 : Int32)), .unset] [(.int (0 : Int32)), (.ref cc)])) rfl rfl (hb hby dL1b_12) t k) ?_
  show own_Go p e below _ (s₁.setTop (mkF m 13 #[.val (.ref cc), .val (.int (0 : Int32)), .val (.ref u), .val (.int (0 : Int32)), .val (.int (1 : Int32)), .val (.int (0 : Int32)), .unset] [(.int c0)]))
  refine own_go (fun t k => XS.istore X0.here hx rfl (hb hby dL1b_13) rfl (l' := #[.val (.ref cc), .val (.int (0 : Int32)), .val (.ref u), .val (.int (0 : Int32)), .val (.int (1 : Int32)), .val (.int (0 : Int32)), .val (.int c0)]) rfl k) ?_
  show own_Go p e below _ (s₁.setTop (mkF m 15 #[.val (.ref cc), .val (.int (0 : Int32)), .val (.ref u), .val (.int (0 : Int32)), .val (.int (1 : Int32)), .val (.int (0 : Int32)), .val (.int c0)] []))
  refine own_go (fun t k => XS.iload X0.here hx rfl (hb hby dL1b_15) rfl k) ?_
  show own_Go p e below _ (s₁.setTop (mkF m 17 #[.val (.ref cc), .val (.int (0 : Int32)), .val (.ref u), .val (.int (0 : Int32)), .val (.int (1 : Int32)), .val (.int (0 : Int32)), .val (.int c0)] [(.int c0)]))
  refine own_go (fun t k => XS.sipush X0.here hx rfl (hb hby dL1b_17) k) ?_
  show own_Go p e below _ (s₁.setTop (mkF m 20 #[.val (.ref cc), .val (.int (0 : Int32)), .val (.ref u), .val (.int (0 : Int32)), .val (.int (1 : Int32)), .val (.int (0 : Int32)), .val (.int c0)] [(.int (255 : Int32)), (.int c0)]))
  refine own_go (fun t k => XS.icmpYes X0.here hx rfl (pc0 := 20) (pc' := 26) rfl (hb hby dL1b_20) rfl (flt hp0).2.2.2 (by decide) (by decide) k) ?_
  show own_Go p e below _ (s₁.setTop (mkF m 26 #[.val (.ref cc), .val (.int (0 : Int32)), .val (.ref u), .val (.int (0 : Int32)), .val (.int (1 : Int32)), .val (.int (0 : Int32)), .val (.int c0)] []))
  refine own_go (fun t k => XS.aloadN X0.here hx rfl (hb hby dL1b_26) rfl rfl k) ?_
  show own_Go p e below _ (s₁.setTop (mkF m 27 #[.val (.ref cc), .val (.int (0 : Int32)), .val (.ref u), .val (.int (0 : Int32)), .val (.int (1 : Int32)), .val (.int (0 : Int32)), .val (.int c0)] [(.ref u)]))
  refine own_go (fun t k => XS.iloadN X0.here hx rfl (hb hby dL1b_27) rfl k) ?_
  show own_Go p e below _ (s₁.setTop (mkF m 28 #[.val (.ref cc), .val (.int (0 : Int32)), .val (.ref u), .val (.int (0 : Int32)), .val (.int (1 : Int32)), .val (.int (0 : Int32)), .val (.int c0)] [(.int (0 : Int32)), (.ref u)]))
  refine own_go (fun t k => XS.iload X0.here hx rfl (hb hby dL1b_28) rfl k) ?_
  show own_Go p e below _ (s₁.setTop (mkF m 30 #[.val (.ref cc), .val (.int (0 : Int32)), .val (.ref u), .val (.int (0 : Int32)), .val (.int (1 : Int32)), .val (.int (0 : Int32)), .val (.int c0)] [(.int c0), (.int (0 : Int32)), (.ref u)]))
  refine own_go (fun t k => XS.i2b X0.here hx rfl (hb hby dL1b_30) rfl k) ?_
  show own_Go p e below _ (s₁.setTop (mkF m 31 #[.val (.ref cc), .val (.int (0 : Int32)), .val (.ref u), .val (.int (0 : Int32)), .val (.int (1 : Int32)), .val (.int (0 : Int32)), .val (.int c0)] [(.int (c0.toInt8.toInt32)), (.int (0 : Int32)), (.ref u)]))
  obtain ⟨cl2, Ar2, qa2, Sa2, Na2, Ha2, Ga2⟩ := id Au
  have hin2 : ¬ ((0 : Int32) < 0 ∨ cl2.slots.size ≤ ((0 : Int32)).toNatClampNeg) := inb_of Sa2 ⟨by decide, by decide⟩
  obtain ⟨T2, h2, X2, e2, W2, st2⟩ := stB X0 hx hZ e0 Ar2 (j := (0 : Int32)) hin2 (g := (mkF m 31 #[.val (.ref cc), .val (.int (0 : Int32)), .val (.ref u), .val (.int (0 : Int32)), .val (.int (1 : Int32)), .val (.int (0 : Int32)), .val (.int c0)] [(.int (c0.toInt8.toInt32)), (.int (0 : Int32)), (.ref u)])) rfl rfl (hb hby dL1b_31)
  have Vw2 : Arv Z h2 u ku .byte (1 : Int32) [(.int (nar .byte (c0.toInt8.toInt32)))] (.int (0 : Int32)) := Arv.set Ar2 qa2 Sa2 Na2 Ha2 Ga2 (fits_nar_byte _) W2 0 rfl (Nat.le_of_ble_eq_true rfl)
  have Ac__2 := Ac.other W2 ne_cu
  have N2 := Fr.snoc X2 N0 g_u
  have KP2 := (Keep.refl h0 [u]).wr W2 (Or.inl (List.mem_of_getElem? (i := 0) rfl))
  have sz2 := Nat.le_trans Z0 (Keep.of_wr W2).1
  refine own_go (fun t k => st2 t k) ?_
  show own_Go p e below _ (T2.setTop (mkF m 32 #[.val (.ref cc), .val (.int (0 : Int32)), .val (.ref u), .val (.int (0 : Int32)), .val (.int (1 : Int32)), .val (.int (0 : Int32)), .val (.int c0)] []))
  refine own_go (fun t k => XS.iinc X2.here hx rfl (hb hby dL1b_32) rfl (l' := #[.val (.ref cc), .val (.int (1 : Int32)), .val (.ref u), .val (.int (0 : Int32)), .val (.int (1 : Int32)), .val (.int (0 : Int32)), .val (.int c0)]) rfl k) ?_
  show own_Go p e below _ (T2.setTop (mkF m 35 #[.val (.ref cc), .val (.int (1 : Int32)), .val (.ref u), .val (.int (0 : Int32)), .val (.int (1 : Int32)), .val (.int (0 : Int32)), .val (.int c0)] []))
  refine own_go (fun t k => XS.iinc X2.here hx rfl (hb hby dL1b_35) rfl (l' := #[.val (.ref cc), .val (.int (1 : Int32)), .val (.ref u), .val (.int (1 : Int32)), .val (.int (1 : Int32)), .val (.int (0 : Int32)), .val (.int c0)]) rfl k) ?_
  show own_Go p e below _ (T2.setTop (mkF m 38 #[.val (.ref cc), .val (.int (1 : Int32)), .val (.ref u), .val (.int (1 : Int32)), .val (.int (1 : Int32)), .val (.int (0 : Int32)), .val (.int c0)] []))
  refine own_go (fun t k => XS.iinc X2.here hx rfl (hb hby dL1b_38) rfl (l' := #[.val (.ref cc), .val (.int (1 : Int32)), .val (.ref u), .val (.int (1 : Int32)), .val (.int (1 : Int32)), .val (.int (1 : Int32)), .val (.int c0)]) rfl k) ?_
  show own_Go p e below _ (T2.setTop (mkF m 41 #[.val (.ref cc), .val (.int (1 : Int32)), .val (.ref u), .val (.int (1 : Int32)), .val (.int (1 : Int32)), .val (.int (1 : Int32)), .val (.int c0)] []))
  refine own_go (fun t k => XS.goto X2.here hx rfl (pc0 := 41) (pc' := 3) rfl (hb hby dL1b_41) (by decide) (by decide) k) ?_
  show own_Go p e below _ (T2.setTop (mkF m 3 #[.val (.ref cc), .val (.int (1 : Int32)), .val (.ref u), .val (.int (1 : Int32)), .val (.int (1 : Int32)), .val (.int (1 : Int32)), .val (.int c0)] []))
  refine own_go (fun t k => XS.iload X2.here hx rfl (hb hby dL1b_3) rfl k) ?_
  show own_Go p e below _ (T2.setTop (mkF m 5 #[.val (.ref cc), .val (.int (1 : Int32)), .val (.ref u), .val (.int (1 : Int32)), .val (.int (1 : Int32)), .val (.int (1 : Int32)), .val (.int c0)] [(.int (1 : Int32))]))
  refine own_go (fun t k => XS.iload X2.here hx rfl (hb hby dL1b_5) rfl k) ?_
  show own_Go p e below _ (T2.setTop (mkF m 7 #[.val (.ref cc), .val (.int (1 : Int32)), .val (.ref u), .val (.int (1 : Int32)), .val (.int (1 : Int32)), .val (.int (1 : Int32)), .val (.int c0)] [(.int (1 : Int32)), (.int (1 : Int32))]))
  refine own_go (fun t k => XS.icmpYes X2.here hx rfl (pc0 := 7) (pc' := 44) rfl (hb hby dL1b_7) rfl (flt (by decide : ¬ ((1 : Int32) < (1 : Int32)))).2.1 (by decide) (by decide) k) ?_
  show own_Go p e below _ (T2.setTop (mkF m 44 #[.val (.ref cc), .val (.int (1 : Int32)), .val (.ref u), .val (.int (1 : Int32)), .val (.int (1 : Int32)), .val (.int (1 : Int32)), .val (.int c0)] []))
  refine own_go (fun t k => XS.iload X2.here hx rfl (hb hby dL1b_44) rfl k) ?_
  show own_Go p e below _ (T2.setTop (mkF m 46 #[.val (.ref cc), .val (.int (1 : Int32)), .val (.ref u), .val (.int (1 : Int32)), .val (.int (1 : Int32)), .val (.int (1 : Int32)), .val (.int c0)] [(.int (1 : Int32))]))
  exact own_retI X2 hx Bd.returns (hb hby dL1b_46) (by rw [e2]; exact ⟨rfl, N2, KP2, Vw2⟩) (by decide) (by decide)
theorem dL1c_0 : decode jdk_52_method_16_code 0 = .ok (.iload_n 2, 1) := by decide +kernel
theorem dL1c_1 : decode jdk_52_method_16_code 1 = .ok (.newarray .byte, 2) := by decide +kernel
theorem dL1c_3 : decode jdk_52_method_16_code 3 = .ok (.astore_n 3, 1) := by decide +kernel
theorem dL1c_4 : decode jdk_52_method_16_code 4 = .ok (.aload_n 0, 1) := by decide +kernel
theorem dL1c_5 : decode jdk_52_method_16_code 5 = .ok (.iload_n 1, 1) := by decide +kernel
theorem dL1c_6 : decode jdk_52_method_16_code 6 = .ok (.aload_n 3, 1) := by decide +kernel
theorem dL1c_7 : decode jdk_52_method_16_code 7 = .ok (.iconst 0, 1) := by decide +kernel
theorem dL1c_8 : decode jdk_52_method_16_code 8 = .ok (.iload_n 2, 1) := by decide +kernel
theorem dL1c_9 : decode jdk_52_method_16_code 9 = .ok (.invokestatic 115, 3) := by decide +kernel
theorem dL1c_12 : decode jdk_52_method_16_code 12 = .ok (.istore 4, 2) := by decide +kernel
theorem dL1c_14 : decode jdk_52_method_16_code 14 = .ok (.iload 4, 2) := by decide +kernel
theorem dL1c_16 : decode jdk_52_method_16_code 16 = .ok (.iload_n 2, 1) := by decide +kernel
theorem dL1c_17 : decode jdk_52_method_16_code 17 = .ok (.if_icmp .eq 40, 3) := by decide +kernel
theorem dL1c_57 : decode jdk_52_method_16_code 57 = .ok (.aload_n 3, 1) := by decide +kernel
theorem dL1c_58 : decode jdk_52_method_16_code 58 = .ok (.areturn, 1) := by decide +kernel
theorem pnL1c : plainName "java/lang/StringUTF16" = true := by first | (simp [plainName, overriddenIn]; done) | decide +kernel
theorem pdL1c_0 : parseMethodDescriptor "([CI[BII)I" = some ⟨[(.array .char), .int, (.array .byte), .int, .int], some .int⟩ := by decide +kernel
theorem efL1c (m : MethodId) (x0 : Addr) (x1 : Int32) (x2 : Int32) : entryFrame m #[(.ref x0), (.int x1), (.int x2)] 6 = mkF m 0 #[.val (.ref x0), .val (.int x1), .val (.int x2), .unset, .unset, .unset] [] := by first | (simp [entryFrame, mkF, argsToLocals, Value.category]; done) | rfl
def own_QL1c (Z : State) (c0 : Int32) (h0 : Heap) (n0 : Nat) (v : Option Value) (h : Heap) (L : List Loc) : Prop := ∃ (b : Addr) (kb : ClassId), v = some (.ref b) ∧ Fr n0 L ∧ Keep h0 h [] ∧ h0.size ≤ b ∧ Arv Z h b kb .byte (1 : Int32) [.int (nar .byte (c0.toInt8.toInt32))] (.int (0 : Int32))
set_option maxRecDepth 65536 in
set_option maxHeartbeats 40000000 in
theorem rmL1c (l : Launch) (Z : State) (a0 : Array Value) (hw : ∀ d ∈ tables_1, d.before a0 Z = true) (ws : List Jvm.Cond) (cc : Addr) (kc : ClassId) (c0 : Int32) (h0 : Heap) (n0 : Nat) (Z0 : n0 ≤ h0.size) (Ac : Arv Z h0 cc kc .char (1 : Int32) [.int c0] (.int (0 : Int32))) (hp0 : ¬ (255 : Int32) < c0) :
    MetFree l (⟨"java/lang/StringUTF16", "compress", "([CII)[B"⟩ : MethodName) (head1 (Jvm.Cond.code (⟨"java/lang/StringUTF16", "compress", "([CII)[B"⟩ : MethodName) jdk_52_method_16_code 6 (some (.array .byte)) :: ws) ({ frames := 1, cells := 1, slots := 1, locals := 18 } : Room)) (fun a U => a = #[(.ref cc), (.int (0 : Int32)), (.int (1 : Int32))] ∧ Z.Warmed39 U.vm ∧ U.heap = h0) (fun _ _ _ _ _ => True) (fun _ U o U' => ∃ v L, o = .returned v ∧ own_QL1c Z c0 h0 n0 v U'.heap L ∧ FrameEnd U o U' L ({ frames := 1, cells := 1, slots := 1, locals := 18 } : Room).cells ({ frames := 1, cells := 1, slots := 1, locals := 18 } : Room).slots) := by
  refine MetFree.of_bodySF (plainFor_of_name pnL1c) hisR ?_
  intro p e s m args below meth c s₁ Bd hml0 hP hK
  obtain ⟨rfl, hZ, hh⟩ := hP
  have hx := Bd.exec
  have hby := Bd.bytes
  have hml : c.maxLocals = 6 := hml0
  have hown : s.vm.findClass "java/lang/StringUTF16" = some m.cls := findClass_of_methodNamed Bd.named
  have hnm := (name_of_methodNamed Bd.named Bd.method).1
  have hlk : meth.locks = false := Bd.notSynchronized
  have X0 : Stand p l e ({ frames := 1, cells := 1, slots := 1, locals := 18 } : Room) s m #[(.ref cc), (.int (0 : Int32)), (.int (1 : Int32))] below meth c s₁ [] 0 0 := Stand.of_body Bd
  have e0 : s₁.heap = h0 := by rw [← hh, Bd.state]; rfl
  have N0 := Fr.nil n0
  refine own_go (fun t k => castTop (efL1c m cc (0 : Int32) (1 : Int32)) k) ?_
  show own_Go p e below _ (s₁.setTop (mkF m 0 #[.val (.ref cc), .val (.int (0 : Int32)), .val (.int (1 : Int32)), .unset, .unset, .unset] []))
  refine own_go (fun t k => XS.iloadN X0.here hx rfl (hb hby dL1c_0) rfl k) ?_
  show own_Go p e below _ (s₁.setTop (mkF m 1 #[.val (.ref cc), .val (.int (0 : Int32)), .val (.int (1 : Int32)), .unset, .unset, .unset] [(.int (1 : Int32))]))
  obtain ⟨T1, h1, k1, X1, e1, E1, A1, st1⟩ := newP X0 hx hZ (hw _ (List.mem_of_getElem? (i := 56) rfl)) e0 (g := (mkF m 1 #[.val (.ref cc), .val (.int (0 : Int32)), .val (.int (1 : Int32)), .unset, .unset, .unset] [(.int (1 : Int32))])) rfl (hb hby dL1c_1) rfl (by decide) (cap := 1) (by decide) (by decide) (by decide) (by decide)
  obtain ⟨b1, g1⟩ : ∃ z, z = h0.size := ⟨_, rfl⟩
  rw [← g1] at A1 st1
  have g_b1 : n0 ≤ b1 := Nat.le_trans Z0 (Nat.le_of_eq g1.symm)
  have sz_b1 : h0.size ≤ b1 := Nat.le_trans (Keep.refl h0 []).1 (Nat.le_of_eq g1.symm)
  have ne_cc_b1 : cc ≠ b1 := Nat.ne_of_lt (Nat.lt_of_lt_of_le Ac.lt (Nat.le_of_eq g1.symm))
  have Ac__1 := Ac.ext E1
  have sz1 := Nat.le_trans Z0 E1.1
  have KP1 := (Keep.refl h0 []).ext E1
  have V1 : Arv Z h1 b1 k1 .byte (1 : Int32) [(.int (0 : Int32))] (.int (0 : Int32)) := (Arv.new A1 (by decide)).pad (pad_rep [] (.int (0 : Int32)) 1)
  refine own_go (fun t k => st1 t k) ?_
  show own_Go p e below _ (T1.setTop (mkF m 3 #[.val (.ref cc), .val (.int (0 : Int32)), .val (.int (1 : Int32)), .unset, .unset, .unset] [(.ref b1)]))
  refine own_go (fun t k => XS.astoreN X1.here hx rfl (hb hby dL1c_3) rfl rfl (l' := #[.val (.ref cc), .val (.int (0 : Int32)), .val (.int (1 : Int32)), .val (.ref b1), .unset, .unset]) rfl k) ?_
  show own_Go p e below _ (T1.setTop (mkF m 4 #[.val (.ref cc), .val (.int (0 : Int32)), .val (.int (1 : Int32)), .val (.ref b1), .unset, .unset] []))
  refine own_go (fun t k => XS.aloadN X1.here hx rfl (hb hby dL1c_4) rfl rfl k) ?_
  show own_Go p e below _ (T1.setTop (mkF m 5 #[.val (.ref cc), .val (.int (0 : Int32)), .val (.int (1 : Int32)), .val (.ref b1), .unset, .unset] [(.ref cc)]))
  refine own_go (fun t k => XS.iloadN X1.here hx rfl (hb hby dL1c_5) rfl k) ?_
  show own_Go p e below _ (T1.setTop (mkF m 6 #[.val (.ref cc), .val (.int (0 : Int32)), .val (.int (1 : Int32)), .val (.ref b1), .unset, .unset] [(.int (0 : Int32)), (.ref cc)]))
  refine own_go (fun t k => XS.aloadN X1.here hx rfl (hb hby dL1c_6) rfl rfl k) ?_
  show own_Go p e below _ (T1.setTop (mkF m 7 #[.val (.ref cc), .val (.int (0 : Int32)), .val (.int (1 : Int32)), .val (.ref b1), .unset, .unset] [(.ref b1), (.int (0 : Int32)), (.ref cc)]))
  refine own_go (fun t k => XS.iconst X1.here hx rfl (hb hby dL1c_7) k) ?_
  show own_Go p e below _ (T1.setTop (mkF m 8 #[.val (.ref cc), .val (.int (0 : Int32)), .val (.int (1 : Int32)), .val (.ref b1), .unset, .unset] [(.int (0 : Int32)), (.ref b1), (.int (0 : Int32)), (.ref cc)]))
  refine own_go (fun t k => XS.iloadN X1.here hx rfl (hb hby dL1c_8) rfl k) ?_
  show own_Go p e below _ (T1.setTop (mkF m 9 #[.val (.ref cc), .val (.int (0 : Int32)), .val (.int (1 : Int32)), .val (.ref b1), .unset, .unset] [(.int (1 : Int32)), (.int (0 : Int32)), (.ref b1), (.int (0 : Int32)), (.ref cc)]))
  obtain ⟨_, _, ⟨T2, L2, k2, n2⟩, -, X2, ⟨Lc2, hQ2, l2, y2, z2⟩, st2⟩ := Jvm.LawKit.callS X1 hx (y := (⟨"java/lang/StringUTF16", "compress", "([CI[BII)I"⟩ : MethodName)) hown (mvT hZ (hw _ (List.mem_of_getElem? (i := 57) rfl))) (mvT hZ (hw _ (List.mem_of_getElem? (i := 58) rfl))) (mvT hZ (hw _ (List.mem_of_getElem? (i := 54) rfl))) (mvT hZ (hw _ (List.mem_of_getElem? (i := 59) rfl))) (by decide) (backOf (W := 0) (rmL1b l Z a0 hw [] cc b1 kc k1 c0 h1 n0 sz1 Ac__1 V1 g_b1 ne_cc_b1 hp0) hZ (hw _ (List.mem_of_getElem? (i := 59) rfl)) (hw _ (List.mem_of_getElem? (i := 54) rfl)) (by decide) (by decide)) (g := (mkF m 9 #[.val (.ref cc), .val (.int (0 : Int32)), .val (.int (1 : Int32)), .val (.ref b1), .unset, .unset] [(.int (1 : Int32)), (.int (0 : Int32)), (.ref b1), (.int (0 : Int32)), (.ref cc)])) rfl (by rw [hml]; rfl) (argsL := [(.ref cc), (.int (0 : Int32)), (.ref b1), (.int (0 : Int32)), (.int (1 : Int32))]) (rest := []) (lenOf pdL1c_0 rfl) rfl (by show 2 * 0 + _ ≤ _; exact Nat.le_of_eq rfl) (hb hby dL1c_9) (fun _ _ => ⟨rfl, e1, (by decide : 0 + 1 + 0 ≤ _), (by decide : 0 + 1 + 0 ≤ _)⟩)
  dsimp only [Pt.U, Pt.locs, Pt.cells, Pt.slots] at X2 l2 y2 z2 st2 hQ2
  subst l2 y2 z2
  obtain ⟨rfl, Nq2, K2, A2⟩ := hQ2
  have N2 := Fr.app N0 Nq2
  refine own_go (fun t k => st2 t k) ?_
  have Ac__2 := Ac__1.keep K2 (ninS ne_cc_b1 nin0)
  have KP2 := KP1.trans K2 (allS (Or.inr sz_b1) all0)
  have sz2 := Nat.le_trans sz1 K2.1
  show own_Go p e below _ (T2.setTop (mkF m 12 #[.val (.ref cc), .val (.int (0 : Int32)), .val (.int (1 : Int32)), .val (.ref b1), .unset, .unset] [(.int (1 : Int32))]))
  refine own_go (fun t k => XS.istore X2.here hx rfl (hb hby dL1c_12) rfl (l' := #[.val (.ref cc), .val (.int (0 : Int32)), .val (.int (1 : Int32)), .val (.ref b1), .val (.int (1 : Int32)), .unset]) rfl k) ?_
  show own_Go p e below _ (T2.setTop (mkF m 14 #[.val (.ref cc), .val (.int (0 : Int32)), .val (.int (1 : Int32)), .val (.ref b1), .val (.int (1 : Int32)), .unset] []))
  refine own_go (fun t k => XS.iload X2.here hx rfl (hb hby dL1c_14) rfl k) ?_
  show own_Go p e below _ (T2.setTop (mkF m 16 #[.val (.ref cc), .val (.int (0 : Int32)), .val (.int (1 : Int32)), .val (.ref b1), .val (.int (1 : Int32)), .unset] [(.int (1 : Int32))]))
  refine own_go (fun t k => XS.iloadN X2.here hx rfl (hb hby dL1c_16) rfl k) ?_
  show own_Go p e below _ (T2.setTop (mkF m 17 #[.val (.ref cc), .val (.int (0 : Int32)), .val (.int (1 : Int32)), .val (.ref b1), .val (.int (1 : Int32)), .unset] [(.int (1 : Int32)), (.int (1 : Int32))]))
  refine own_go (fun t k => XS.icmpYes X2.here hx rfl (pc0 := 17) (pc' := 57) rfl (hb hby dL1c_17) rfl (teq (by decide : (1 : Int32) = (1 : Int32))).1 (by decide) (by decide) k) ?_
  show own_Go p e below _ (T2.setTop (mkF m 57 #[.val (.ref cc), .val (.int (0 : Int32)), .val (.int (1 : Int32)), .val (.ref b1), .val (.int (1 : Int32)), .unset] []))
  refine own_go (fun t k => XS.aloadN X2.here hx rfl (hb hby dL1c_57) rfl rfl k) ?_
  show own_Go p e below _ (T2.setTop (mkF m 58 #[.val (.ref cc), .val (.int (0 : Int32)), .val (.int (1 : Int32)), .val (.ref b1), .val (.int (1 : Int32)), .unset] [(.ref b1)]))
  exact own_retA X2 hx Bd.returns rfl rfl (hb hby dL1c_58) (⟨_, _, rfl, N2, KP2, sz_b1, A2⟩) (by decide) (by decide)
theorem dL1a_0 : decode jdk_52_method_15_code 0 = .ok (.iload_n 1, 1) := by decide +kernel
theorem dL1a_1 : decode jdk_52_method_15_code 1 = .ok (.aload_n 0, 1) := by decide +kernel
theorem dL1a_2 : decode jdk_52_method_15_code 2 = .ok (.arraylength, 1) := by decide +kernel
theorem dL1a_3 : decode jdk_52_method_15_code 3 = .ok (.isub, 1) := by decide +kernel
theorem dL1a_4 : decode jdk_52_method_15_code 4 = .ok (.bipush 31, 2) := by decide +kernel
theorem dL1a_6 : decode jdk_52_method_15_code 6 = .ok (.iushr, 1) := by decide +kernel
theorem dL1a_7 : decode jdk_52_method_15_code 7 = .ok (.i2b, 1) := by decide +kernel
theorem dL1a_8 : decode jdk_52_method_15_code 8 = .ok (.ireturn, 1) := by decide +kernel
theorem pnL1a : plainName "java/lang/StringUTF16" = true := by first | (simp [plainName, overriddenIn]; done) | decide +kernel
theorem efL1a (m : MethodId) (x0 : Addr) (x1 : Int32) : entryFrame m #[(.ref x0), (.int x1)] 2 = mkF m 0 #[.val (.ref x0), .val (.int x1)] [] := by first | (simp [entryFrame, mkF, argsToLocals, Value.category]; done) | rfl
def own_QL1a (h0 : Heap) (n0 : Nat) (v : Option Value) (h : Heap) (L : List Loc) : Prop := v = some (.int (0 : Int32)) ∧ Fr n0 L ∧ h = h0
set_option maxRecDepth 65536 in
set_option maxHeartbeats 40000000 in
theorem rmL1a (l : Launch) (Z : State) (a0 : Array Value) (hw : ∀ d ∈ tables_1, d.before a0 Z = true) (ws : List Jvm.Cond) (ot : Addr) (kt : ClassId) (x0 : Int32) (h0 : Heap) (n0 : Nat) (Z0 : n0 ≤ h0.size) (At : Arv Z h0 ot kt .byte (1 : Int32) [.int x0] (.int (0 : Int32))) :
    MetFree l (⟨"java/lang/StringUTF16", "coderFromArrayLen", "([BI)B"⟩ : MethodName) (head1 (Jvm.Cond.code (⟨"java/lang/StringUTF16", "coderFromArrayLen", "([BI)B"⟩ : MethodName) jdk_52_method_15_code 2 (some .byte) :: ws) ({ frames := 0, cells := 0, slots := 0, locals := 0 } : Room)) (fun a U => a = #[(.ref ot), (.int (1 : Int32))] ∧ Z.Warmed39 U.vm ∧ U.heap = h0) (fun _ _ _ _ _ => True) (fun _ U o U' => ∃ v L, o = .returned v ∧ own_QL1a h0 n0 v U'.heap L ∧ FrameEnd U o U' L ({ frames := 0, cells := 0, slots := 0, locals := 0 } : Room).cells ({ frames := 0, cells := 0, slots := 0, locals := 0 } : Room).slots) := by
  refine MetFree.of_bodySF (plainFor_of_name pnL1a) hisR ?_
  intro p e s m args below meth c s₁ Bd hml0 hP hK
  obtain ⟨rfl, hZ, hh⟩ := hP
  have hx := Bd.exec
  have hby := Bd.bytes
  have hml : c.maxLocals = 2 := hml0
  have hown : s.vm.findClass "java/lang/StringUTF16" = some m.cls := findClass_of_methodNamed Bd.named
  have hnm := (name_of_methodNamed Bd.named Bd.method).1
  have hlk : meth.locks = false := Bd.notSynchronized
  have X0 : Stand p l e ({ frames := 0, cells := 0, slots := 0, locals := 0 } : Room) s m #[(.ref ot), (.int (1 : Int32))] below meth c s₁ [] 0 0 := Stand.of_body Bd
  have e0 : s₁.heap = h0 := by rw [← hh, Bd.state]; rfl
  have N0 := Fr.nil n0
  refine own_go (fun t k => castTop (efL1a m ot (1 : Int32)) k) ?_
  show own_Go p e below _ (s₁.setTop (mkF m 0 #[.val (.ref ot), .val (.int (1 : Int32))] []))
  refine own_go (fun t k => XS.iloadN X0.here hx rfl (hb hby dL1a_0) rfl k) ?_
  show own_Go p e below _ (s₁.setTop (mkF m 1 #[.val (.ref ot), .val (.int (1 : Int32))] [(.int (1 : Int32))]))
  refine own_go (fun t k => XS.aloadN X0.here hx rfl (hb hby dL1a_1) rfl rfl k) ?_
  show own_Go p e below _ (s₁.setTop (mkF m 2 #[.val (.ref ot), .val (.int (1 : Int32))] [(.ref ot), (.int (1 : Int32))]))
  obtain ⟨cl1, Ar1, -, Sa1, Na1, -, -⟩ := id At
  have ln1 := len_of Sa1 Na1
  refine own_go (fun t k => X0.arraylength hx (by rw [e0]; exact Ar1.1) (State.isArrayOf_alike hZ.alike Ar1.2.1) (g := (mkF m 2 #[.val (.ref ot), .val (.int (1 : Int32))] [(.ref ot), (.int (1 : Int32))])) rfl rfl (hb hby dL1a_2) t (by rw [ln1]; exact k)) ?_
  show own_Go p e below _ (s₁.setTop (mkF m 3 #[.val (.ref ot), .val (.int (1 : Int32))] [(.int (1 : Int32)), (.int (1 : Int32))]))
  refine own_go (fun t k => XS.isub X0.here hx rfl (hb hby dL1a_3) rfl k) ?_
  show own_Go p e below _ (s₁.setTop (mkF m 4 #[.val (.ref ot), .val (.int (1 : Int32))] [(.int ((1 : Int32) - (1 : Int32)))]))
  refine own_go (fun t k => XS.bipush X0.here hx rfl (hb hby dL1a_4) k) ?_
  show own_Go p e below _ (s₁.setTop (mkF m 6 #[.val (.ref ot), .val (.int (1 : Int32))] [(.int (31 : Int32)), (.int ((1 : Int32) - (1 : Int32)))]))
  refine own_go (fun t k => XS.iushr X0.here hx rfl (hb hby dL1a_6) rfl k) ?_
  show own_Go p e below _ (s₁.setTop (mkF m 7 #[.val (.ref ot), .val (.int (1 : Int32))] [(.int ((((1 : Int32) - (1 : Int32)).toUInt32 >>> ((31 : Int32) &&& 31).toUInt32).toInt32))]))
  refine own_go (fun t k => XS.i2b X0.here hx rfl (hb hby dL1a_7) rfl k) ?_
  show own_Go p e below _ (s₁.setTop (mkF m 8 #[.val (.ref ot), .val (.int (1 : Int32))] [(.int (((((1 : Int32) - (1 : Int32)).toUInt32 >>> ((31 : Int32) &&& 31).toUInt32).toInt32).toInt8.toInt32))]))
  exact own_retN X0 hx (t := .byte) Bd.returns (by simp) (hb hby dL1a_8) (by rw [e0]; exact ⟨by decide, N0, rfl⟩) (by decide) (by decide)
theorem dL1d_0 : decode jdk_42_method_149_code 0 = .ok (.aload_n 0, 1) := by decide +kernel
theorem dL1d_1 : decode jdk_42_method_149_code 1 = .ok (.invokespecial 1, 3) := by decide +kernel
theorem dL1d_4 : decode jdk_42_method_149_code 4 = .ok (.iload_n 3, 1) := by decide +kernel
theorem dL1d_5 : decode jdk_42_method_149_code 5 = .ok (.ifCond .ne 22, 3) := by decide +kernel
theorem dL1d_27 : decode jdk_42_method_149_code 27 = .ok (.getstatic 38, 3) := by decide +kernel
theorem dL1d_30 : decode jdk_42_method_149_code 30 = .ok (.ifCond .eq 28, 3) := by decide +kernel
theorem dL1d_33 : decode jdk_42_method_149_code 33 = .ok (.aload_n 1, 1) := by decide +kernel
theorem dL1d_34 : decode jdk_42_method_149_code 34 = .ok (.iload_n 2, 1) := by decide +kernel
theorem dL1d_35 : decode jdk_42_method_149_code 35 = .ok (.iload_n 3, 1) := by decide +kernel
theorem dL1d_36 : decode jdk_42_method_149_code 36 = .ok (.invokestatic 177, 3) := by decide +kernel
theorem dL1d_39 : decode jdk_42_method_149_code 39 = .ok (.astore 5, 2) := by decide +kernel
theorem dL1d_41 : decode jdk_42_method_149_code 41 = .ok (.aload_n 0, 1) := by decide +kernel
theorem dL1d_42 : decode jdk_42_method_149_code 42 = .ok (.aload 5, 2) := by decide +kernel
theorem dL1d_44 : decode jdk_42_method_149_code 44 = .ok (.iload_n 3, 1) := by decide +kernel
theorem dL1d_45 : decode jdk_42_method_149_code 45 = .ok (.invokestatic 47, 3) := by decide +kernel
theorem dL1d_48 : decode jdk_42_method_149_code 48 = .ok (.putfield 15, 3) := by decide +kernel
theorem dL1d_51 : decode jdk_42_method_149_code 51 = .ok (.aload_n 0, 1) := by decide +kernel
theorem dL1d_52 : decode jdk_42_method_149_code 52 = .ok (.aload 5, 2) := by decide +kernel
theorem dL1d_54 : decode jdk_42_method_149_code 54 = .ok (.putfield 9, 3) := by decide +kernel
theorem dL1d_57 : decode jdk_42_method_149_code 57 = .ok (.return_, 1) := by decide +kernel
theorem pnL1d : plainName "java/lang/String" = true := by first | (simp [plainName, overriddenIn]; done) | decide +kernel
theorem pdL1d_0 : parseMethodDescriptor "([CII)[B" = some ⟨[(.array .char), .int, .int], some (.array .byte)⟩ := by decide +kernel
theorem pdL1d_1 : parseMethodDescriptor "([BI)B" = some ⟨[(.array .byte), .int], some .byte⟩ := by decide +kernel
theorem efL1d (m : MethodId) (x0 : Addr) (x1 : Addr) (x2 : Int32) (x3 : Int32) : entryFrame m #[(.ref x0), (.ref x1), (.int x2), (.int x3), .null] 6 = mkF m 0 #[.val (.ref x0), .val (.ref x1), .val (.int x2), .val (.int x3), .val .null, .unset] [] := by first | (simp [entryFrame, mkF, argsToLocals, Value.category]; done) | rfl
def own_QL1d (Z : State) (a : Addr) (c0 : Int32) (h0 : Heap) (n0 : Nat) (v : Option Value) (h : Heap) (L : List Loc) : Prop := v = none ∧ Fr n0 L ∧ Keep h0 h [a] ∧ Fld Z h a "java/lang/String" "coder" "B" (.int (0 : Int32)) ∧ ∃ (b : Addr) (kb : ClassId), h0.size ≤ b ∧ Fld Z h a "java/lang/String" "value" "[B" (.ref b) ∧ Arv Z h b kb .byte (1 : Int32) [.int (nar .byte (c0.toInt8.toInt32))] (.int (0 : Int32))
set_option maxRecDepth 65536 in
set_option maxHeartbeats 40000000 in
theorem rmL1d (l : Launch) (Z : State) (a0 : Array Value) (hw : ∀ d ∈ tables_1, d.before a0 Z = true) (ws : List Jvm.Cond) (oa cc : Addr) (kc : ClassId) (cs : Int32) (c0 : Int32) (h0 : Heap) (n0 : Nat) (Z0 : n0 ≤ h0.size) (Ea : Exa Z h0 oa "java/lang/String") (Fv : Fld Z h0 oa "java/lang/String" "value" "[B" .null) (Fc : Fld Z h0 oa "java/lang/String" "coder" "B" (.int (0 : Int32))) (g_oa : n0 ≤ oa) (ne_ca : cc ≠ oa) (Ac : Arv Z h0 cc kc .char (1 : Int32) [.int c0] (.int (0 : Int32))) (SC : Sta Z Z.heap "java/lang/String" "COMPACT_STRINGS" "Z" (.int cs)) (hcs : ¬ cs = 0) (XO : Old Z n0 h0) (hp0 : ¬ (255 : Int32) < c0) :
    MetFree l (⟨"java/lang/String", "<init>", "([CIILjava/lang/Void;)V"⟩ : MethodName) (head1 (Jvm.Cond.code (⟨"java/lang/String", "<init>", "([CIILjava/lang/Void;)V"⟩ : MethodName) jdk_42_method_149_code 6 none :: ws) ({ frames := 2, cells := 1, slots := 1, locals := 35 } : Room)) (fun a U => a = #[(.ref oa), (.ref cc), (.int (0 : Int32)), (.int (1 : Int32)), .null] ∧ Z.Warmed39 U.vm ∧ U.heap = h0) (fun _ _ _ _ _ => True) (fun _ U o U' => ∃ v L, o = .returned v ∧ own_QL1d Z oa c0 h0 n0 v U'.heap L ∧ FrameEnd U o U' L ({ frames := 2, cells := 1, slots := 1, locals := 35 } : Room).cells ({ frames := 2, cells := 1, slots := 1, locals := 35 } : Room).slots) := by
  refine MetFree.of_bodySF (plainFor_of_name pnL1d) hisR ?_
  intro p e s m args below meth c s₁ Bd hml0 hP hK
  obtain ⟨rfl, hZ, hh⟩ := hP
  have hx := Bd.exec
  have hby := Bd.bytes
  have hml : c.maxLocals = 6 := hml0
  have hown : s.vm.findClass "java/lang/String" = some m.cls := findClass_of_methodNamed Bd.named
  have hnm := (name_of_methodNamed Bd.named Bd.method).1
  have hlk : meth.locks = false := Bd.notSynchronized
  have X0 : Stand p l e ({ frames := 2, cells := 1, slots := 1, locals := 35 } : Room) s m #[(.ref oa), (.ref cc), (.int (0 : Int32)), (.int (1 : Int32)), .null] below meth c s₁ [] 0 0 := Stand.of_body Bd
  have e0 : s₁.heap = h0 := by rw [← hh, Bd.state]; rfl
  have N0 := Fr.nil n0
  refine own_go (fun t k => castTop (efL1d m oa cc (0 : Int32) (1 : Int32)) k) ?_
  show own_Go p e below _ (s₁.setTop (mkF m 0 #[.val (.ref oa), .val (.ref cc), .val (.int (0 : Int32)), .val (.int (1 : Int32)), .val .null, .unset] []))
  refine own_go (fun t k => XS.aloadN X0.here hx rfl (hb hby dL1d_0) rfl rfl k) ?_
  show own_Go p e below _ (s₁.setTop (mkF m 1 #[.val (.ref oa), .val (.ref cc), .val (.int (0 : Int32)), .val (.int (1 : Int32)), .val .null, .unset] [(.ref oa)]))
  obtain ⟨T2, X2, e2, st2⟩ := initO X0 hx hZ hown (hw _ (List.mem_of_getElem? (i := 50) rfl)) (hw _ (List.mem_of_getElem? (i := 20) rfl)) (hw _ (List.mem_of_getElem? (i := 21) rfl)) e0 (g := (mkF m 1 #[.val (.ref oa), .val (.ref cc), .val (.int (0 : Int32)), .val (.int (1 : Int32)), .val .null, .unset] [(.ref oa)])) rfl (by rw [hml]; rfl) rfl (hb hby dL1d_1) (by decide) (W := 0) (by show 2 * 0 + _ ≤ _; exact Nat.le_of_eq rfl) (by decide)
  refine own_go (fun t k => st2 t k) ?_
  show own_Go p e below _ (T2.setTop (mkF m 4 #[.val (.ref oa), .val (.ref cc), .val (.int (0 : Int32)), .val (.int (1 : Int32)), .val .null, .unset] []))
  refine own_go (fun t k => XS.iloadN X2.here hx rfl (hb hby dL1d_4) rfl k) ?_
  show own_Go p e below _ (T2.setTop (mkF m 5 #[.val (.ref oa), .val (.ref cc), .val (.int (0 : Int32)), .val (.int (1 : Int32)), .val .null, .unset] [(.int (1 : Int32))]))
  refine own_go (fun t k => XS.ifYes X2.here hx rfl (pc0 := 5) (pc' := 27) rfl (hb hby dL1d_5) rfl ((if0 _ _).trans (feq (by decide : ¬ ((1 : Int32) = (0 : Int32)))).2) (by decide) (by decide) k) ?_
  show own_Go p e below _ (T2.setTop (mkF m 27 #[.val (.ref oa), .val (.ref cc), .val (.int (0 : Int32)), .val (.int (1 : Int32)), .val .null, .unset] []))
  obtain ⟨T3, X3, e3, st3⟩ := getS2 X2 hx hZ hown (host := "") (Or.inl (hw _ (List.mem_of_getElem? (i := 51) rfl))) Via.refl e2 (SC.ext XO.2) (g := (mkF m 27 #[.val (.ref oa), .val (.ref cc), .val (.int (0 : Int32)), .val (.int (1 : Int32)), .val .null, .unset] [])) rfl (hb hby dL1d_27)
  refine own_go (fun t k => st3 t k) ?_
  show own_Go p e below _ (T3.setTop (mkF m 30 #[.val (.ref oa), .val (.ref cc), .val (.int (0 : Int32)), .val (.int (1 : Int32)), .val .null, .unset] [(.int cs)]))
  refine own_go (fun t k => XS.ifNo X3.here hx rfl (hb hby dL1d_30) rfl ((if0 _ _).trans (feq hcs).1) k) ?_
  show own_Go p e below _ (T3.setTop (mkF m 33 #[.val (.ref oa), .val (.ref cc), .val (.int (0 : Int32)), .val (.int (1 : Int32)), .val .null, .unset] []))
  refine own_go (fun t k => XS.aloadN X3.here hx rfl (hb hby dL1d_33) rfl rfl k) ?_
  show own_Go p e below _ (T3.setTop (mkF m 34 #[.val (.ref oa), .val (.ref cc), .val (.int (0 : Int32)), .val (.int (1 : Int32)), .val .null, .unset] [(.ref cc)]))
  refine own_go (fun t k => XS.iloadN X3.here hx rfl (hb hby dL1d_34) rfl k) ?_
  show own_Go p e below _ (T3.setTop (mkF m 35 #[.val (.ref oa), .val (.ref cc), .val (.int (0 : Int32)), .val (.int (1 : Int32)), .val .null, .unset] [(.int (0 : Int32)), (.ref cc)]))
  refine own_go (fun t k => XS.iloadN X3.here hx rfl (hb hby dL1d_35) rfl k) ?_
  show own_Go p e below _ (T3.setTop (mkF m 36 #[.val (.ref oa), .val (.ref cc), .val (.int (0 : Int32)), .val (.int (1 : Int32)), .val .null, .unset] [(.int (1 : Int32)), (.int (0 : Int32)), (.ref cc)]))
  obtain ⟨_, _, ⟨T4, L4, k4, n4⟩, -, X4, ⟨Lc4, hQ4, l4, y4, z4⟩, st4⟩ := Jvm.LawKit.callS X3 hx (y := (⟨"java/lang/StringUTF16", "compress", "([CII)[B"⟩ : MethodName)) hown (mvT hZ (hw _ (List.mem_of_getElem? (i := 52) rfl))) (mvT hZ (hw _ (List.mem_of_getElem? (i := 53) rfl))) (mvT hZ (hw _ (List.mem_of_getElem? (i := 54) rfl))) (mvT hZ (hw _ (List.mem_of_getElem? (i := 55) rfl))) (by decide) (backOf (W := 0) (rmL1c l Z a0 hw [] cc kc c0 h0 n0 Z0 Ac hp0) hZ (hw _ (List.mem_of_getElem? (i := 55) rfl)) (hw _ (List.mem_of_getElem? (i := 54) rfl)) (by decide) (by decide)) (g := (mkF m 36 #[.val (.ref oa), .val (.ref cc), .val (.int (0 : Int32)), .val (.int (1 : Int32)), .val .null, .unset] [(.int (1 : Int32)), (.int (0 : Int32)), (.ref cc)])) rfl (by rw [hml]; rfl) (argsL := [(.ref cc), (.int (0 : Int32)), (.int (1 : Int32))]) (rest := []) (lenOf pdL1d_0 rfl) rfl (by show 2 * 0 + _ ≤ _; exact Nat.le_of_eq rfl) (hb hby dL1d_36) (fun _ _ => ⟨rfl, e3, (by decide : 0 + 1 ≤ _), (by decide : 0 + 1 ≤ _)⟩)
  dsimp only [Pt.U, Pt.locs, Pt.cells, Pt.slots] at X4 l4 y4 z4 st4 hQ4
  subst l4 y4 z4
  obtain ⟨d4, kd4, rfl, Nq4, K4, ge4, A4⟩ := hQ4
  have N4 := Fr.app N0 Nq4
  refine own_go (fun t k => st4 t k) ?_
  have g_d4 : n0 ≤ d4 := Nat.le_trans Z0 ge4
  have sz_d4 : h0.size ≤ d4 := Nat.le_trans (Keep.refl h0 [oa]).1 ge4
  have ne_oa_d4 : oa ≠ d4 := Nat.ne_of_lt (Nat.lt_of_lt_of_le Ea.lt ge4)
  have ne_cc_d4 : cc ≠ d4 := Nat.ne_of_lt (Nat.lt_of_lt_of_le Ac.lt ge4)
  have Ea__4 := Ea.keep K4
  have Fv__4 := Fv.keep K4 nin0
  have Fc__4 := Fc.keep K4 nin0
  have Ac__4 := Ac.keep K4 nin0
  have XO__4 := XO.keep K4 all0
  have KP4 := (Keep.refl h0 [oa]).trans K4 all0
  have sz4 := Nat.le_trans Z0 K4.1
  show own_Go p e below _ (T4.setTop (mkF m 39 #[.val (.ref oa), .val (.ref cc), .val (.int (0 : Int32)), .val (.int (1 : Int32)), .val .null, .unset] [(.ref d4)]))
  refine own_go (fun t k => XS.astore X4.here hx rfl (hb hby dL1d_39) rfl rfl (l' := #[.val (.ref oa), .val (.ref cc), .val (.int (0 : Int32)), .val (.int (1 : Int32)), .val .null, .val (.ref d4)]) rfl k) ?_
  show own_Go p e below _ (T4.setTop (mkF m 41 #[.val (.ref oa), .val (.ref cc), .val (.int (0 : Int32)), .val (.int (1 : Int32)), .val .null, .val (.ref d4)] []))
  refine own_go (fun t k => XS.aloadN X4.here hx rfl (hb hby dL1d_41) rfl rfl k) ?_
  show own_Go p e below _ (T4.setTop (mkF m 42 #[.val (.ref oa), .val (.ref cc), .val (.int (0 : Int32)), .val (.int (1 : Int32)), .val .null, .val (.ref d4)] [(.ref oa)]))
  refine own_go (fun t k => XS.aload X4.here hx rfl (hb hby dL1d_42) rfl rfl k) ?_
  show own_Go p e below _ (T4.setTop (mkF m 44 #[.val (.ref oa), .val (.ref cc), .val (.int (0 : Int32)), .val (.int (1 : Int32)), .val .null, .val (.ref d4)] [(.ref d4), (.ref oa)]))
  refine own_go (fun t k => XS.iloadN X4.here hx rfl (hb hby dL1d_44) rfl k) ?_
  show own_Go p e below _ (T4.setTop (mkF m 45 #[.val (.ref oa), .val (.ref cc), .val (.int (0 : Int32)), .val (.int (1 : Int32)), .val .null, .val (.ref d4)] [(.int (1 : Int32)), (.ref d4), (.ref oa)]))
  obtain ⟨_, _, ⟨T5, L5, k5, n5⟩, -, X5, ⟨Lc5, hQ5, l5, y5, z5⟩, st5⟩ := Jvm.LawKit.callS X4 hx (y := (⟨"java/lang/StringUTF16", "coderFromArrayLen", "([BI)B"⟩ : MethodName)) hown (mvT hZ (hw _ (List.mem_of_getElem? (i := 60) rfl))) (mvT hZ (hw _ (List.mem_of_getElem? (i := 61) rfl))) (mvT hZ (hw _ (List.mem_of_getElem? (i := 54) rfl))) (mvT hZ (hw _ (List.mem_of_getElem? (i := 62) rfl))) (by decide) (backOf (W := 1) (rmL1a l Z a0 hw [] d4 kd4 (nar .byte (c0.toInt8.toInt32)) T4.heap n0 sz4 A4) hZ (hw _ (List.mem_of_getElem? (i := 62) rfl)) (hw _ (List.mem_of_getElem? (i := 54) rfl)) (by decide) (by decide)) (g := (mkF m 45 #[.val (.ref oa), .val (.ref cc), .val (.int (0 : Int32)), .val (.int (1 : Int32)), .val .null, .val (.ref d4)] [(.int (1 : Int32)), (.ref d4), (.ref oa)])) rfl (by rw [hml]; rfl) (argsL := [(.ref d4), (.int (1 : Int32))]) (rest := [(.ref oa)]) (lenOf pdL1d_1 rfl) rfl (by show 2 * 0 + _ ≤ _; exact Nat.le_of_eq rfl) (hb hby dL1d_45) (fun _ _ => ⟨rfl, rfl, (by decide : 0 + 1 + 0 ≤ _), (by decide : 0 + 1 + 0 ≤ _)⟩)
  dsimp only [Pt.U, Pt.locs, Pt.cells, Pt.slots] at X5 l5 y5 z5 st5 hQ5
  subst l5 y5 z5
  obtain ⟨rfl, Nq5, e5⟩ := hQ5
  have N5 := Fr.app N4 Nq5
  refine own_go (fun t k => st5 t k) ?_
  show own_Go p e below _ (T5.setTop (mkF m 48 #[.val (.ref oa), .val (.ref cc), .val (.int (0 : Int32)), .val (.int (1 : Int32)), .val .null, .val (.ref d4)] [(.int (0 : Int32)), (.ref oa)]))
  obtain ⟨T6, h6, X6, e6, W6, st6⟩ := putF X5 hx hZ hown (host := "") (Or.inl (hw _ (List.mem_of_getElem? (i := 63) rfl))) Via.refl e5 Fc__4 Ea__4 (Or.inr ⟨(hw _ (List.mem_of_getElem? (i := 64) rfl)), rfl, hnm⟩) (hw _ (List.mem_of_getElem? (i := 41) rfl)) (ty := .byte) (by decide) rfl rfl (g := (mkF m 48 #[.val (.ref oa), .val (.ref cc), .val (.int (0 : Int32)), .val (.int (1 : Int32)), .val .null, .val (.ref d4)] [(.int (0 : Int32)), (.ref oa)])) rfl rfl (hb hby dL1d_48)
  have Fw6 := Fc__4.same W6
  have Ea__6 := Ea__4.wr W6
  have Fv__6 := Fv__4.other W6 (Or.inr (slot_ne (Or.inr (hw _ (List.mem_of_getElem? (i := 66) rfl))) (Or.inr (hw _ (List.mem_of_getElem? (i := 64) rfl))) (by decide) (t := (.array .byte)) (t' := .byte) (by decide) (by decide)))
  have Ac__6 := Ac__4.other W6 ne_ca
  have XO__6 := XO__4.wr W6 g_oa
  have A4__6 := A4.other W6 (Ne.symm ne_oa_d4)
  have N6 := Fr.snoc X6 N5 g_oa
  have KP6 := KP4.wr W6 (Or.inl (List.mem_of_getElem? (i := 0) rfl))
  have sz6 := Nat.le_trans sz4 (Keep.of_wr W6).1
  refine own_go (fun t k => st6 t k) ?_
  show own_Go p e below _ (T6.setTop (mkF m 51 #[.val (.ref oa), .val (.ref cc), .val (.int (0 : Int32)), .val (.int (1 : Int32)), .val .null, .val (.ref d4)] []))
  refine own_go (fun t k => XS.aloadN X6.here hx rfl (hb hby dL1d_51) rfl rfl k) ?_
  show own_Go p e below _ (T6.setTop (mkF m 52 #[.val (.ref oa), .val (.ref cc), .val (.int (0 : Int32)), .val (.int (1 : Int32)), .val .null, .val (.ref d4)] [(.ref oa)]))
  refine own_go (fun t k => XS.aload X6.here hx rfl (hb hby dL1d_52) rfl rfl k) ?_
  show own_Go p e below _ (T6.setTop (mkF m 54 #[.val (.ref oa), .val (.ref cc), .val (.int (0 : Int32)), .val (.int (1 : Int32)), .val .null, .val (.ref d4)] [(.ref d4), (.ref oa)]))
  obtain ⟨T7, h7, X7, e7, W7, st7⟩ := putF X6 hx hZ hown (host := "") (Or.inl (hw _ (List.mem_of_getElem? (i := 65) rfl))) Via.refl e6 Fv__6 Ea__6 (Or.inr ⟨(hw _ (List.mem_of_getElem? (i := 66) rfl)), rfl, hnm⟩) (hw _ (List.mem_of_getElem? (i := 41) rfl)) (ty := (.array .byte)) (by decide) rfl rfl (g := (mkF m 54 #[.val (.ref oa), .val (.ref cc), .val (.int (0 : Int32)), .val (.int (1 : Int32)), .val .null, .val (.ref d4)] [(.ref d4), (.ref oa)])) rfl rfl (hb hby dL1d_54)
  have Fw7 := Fv__6.same W7
  have Ea__7 := Ea__6.wr W7
  have Fw6__7 := Fw6.other W7 (Or.inr (slot_ne (Or.inr (hw _ (List.mem_of_getElem? (i := 64) rfl))) (Or.inr (hw _ (List.mem_of_getElem? (i := 66) rfl))) (by decide) (t := .byte) (t' := (.array .byte)) (by decide) (by decide)))
  have Ac__7 := Ac__6.other W7 ne_ca
  have XO__7 := XO__6.wr W7 g_oa
  have A4__7 := A4__6.other W7 (Ne.symm ne_oa_d4)
  have N7 := Fr.snoc X7 N6 g_oa
  have KP7 := KP6.wr W7 (Or.inl (List.mem_of_getElem? (i := 0) rfl))
  have sz7 := Nat.le_trans sz6 (Keep.of_wr W7).1
  refine own_go (fun t k => st7 t k) ?_
  show own_Go p e below _ (T7.setTop (mkF m 57 #[.val (.ref oa), .val (.ref cc), .val (.int (0 : Int32)), .val (.int (1 : Int32)), .val .null, .val (.ref d4)] []))
  exact own_ret0 X7 hx Bd.returns (hb hby dL1d_57) (by rw [e7]; exact ⟨rfl, N7, KP7, Fw6__7, _, _, sz_d4, Fw7, A4__7⟩) (by decide) (by decide)
theorem dL1e_0 : decode jdk_42_method_3_code 0 = .ok (.aload_n 0, 1) := by decide +kernel
theorem dL1e_1 : decode jdk_42_method_3_code 1 = .ok (.aload_n 1, 1) := by decide +kernel
theorem dL1e_2 : decode jdk_42_method_3_code 2 = .ok (.iconst 0, 1) := by decide +kernel
theorem dL1e_3 : decode jdk_42_method_3_code 3 = .ok (.aload_n 1, 1) := by decide +kernel
theorem dL1e_4 : decode jdk_42_method_3_code 4 = .ok (.arraylength, 1) := by decide +kernel
theorem dL1e_5 : decode jdk_42_method_3_code 5 = .ok (.aconst_null, 1) := by decide +kernel
theorem dL1e_6 : decode jdk_42_method_3_code 6 = .ok (.invokespecial 27, 3) := by decide +kernel
theorem dL1e_9 : decode jdk_42_method_3_code 9 = .ok (.return_, 1) := by decide +kernel
theorem pnL1e : plainName "java/lang/String" = true := by first | (simp [plainName, overriddenIn]; done) | decide +kernel
theorem pdL1e_0 : parseMethodDescriptor "([CIILjava/lang/Void;)V" = some ⟨[(.array .char), .int, .int, (.object "java/lang/Void")], none⟩ := by decide +kernel
theorem efL1e (m : MethodId) (x0 : Addr) (x1 : Addr) : entryFrame m #[(.ref x0), (.ref x1)] 2 = mkF m 0 #[.val (.ref x0), .val (.ref x1)] [] := by first | (simp [entryFrame, mkF, argsToLocals, Value.category]; done) | rfl
set_option maxRecDepth 65536 in
set_option maxHeartbeats 40000000 in
theorem rmL1e (l : Launch) (Z : State) (a0 : Array Value) (hw : ∀ d ∈ tables_1, d.before a0 Z = true) (ws : List Jvm.Cond) (oa cc : Addr) (kc : ClassId) (cs : Int32) (c0 : Int32) (h0 : Heap) (n0 : Nat) (Z0 : n0 ≤ h0.size) (Ea : Exa Z h0 oa "java/lang/String") (Fv : Fld Z h0 oa "java/lang/String" "value" "[B" .null) (Fc : Fld Z h0 oa "java/lang/String" "coder" "B" (.int (0 : Int32))) (g_oa : n0 ≤ oa) (ne_ca : cc ≠ oa) (Ac : Arv Z h0 cc kc .char (1 : Int32) [.int c0] (.int (0 : Int32))) (SC : Sta Z Z.heap "java/lang/String" "COMPACT_STRINGS" "Z" (.int cs)) (hcs : ¬ cs = 0) (XO : Old Z n0 h0) (hp0 : ¬ (255 : Int32) < c0) :
    MetFree l (⟨"java/lang/String", "<init>", "([C)V"⟩ : MethodName) (head1 (Jvm.Cond.code (⟨"java/lang/String", "<init>", "([C)V"⟩ : MethodName) jdk_42_method_3_code 2 none :: ws) ({ frames := 3, cells := 1, slots := 1, locals := 52 } : Room)) (fun a U => a = #[(.ref oa), (.ref cc)] ∧ Z.Warmed39 U.vm ∧ U.heap = h0) (fun _ _ _ _ _ => True) (fun _ U o U' => ∃ v L, o = .returned v ∧ own_QL1d Z oa c0 h0 n0 v U'.heap L ∧ FrameEnd U o U' L ({ frames := 3, cells := 1, slots := 1, locals := 52 } : Room).cells ({ frames := 3, cells := 1, slots := 1, locals := 52 } : Room).slots) := by
  refine MetFree.of_bodySF (plainFor_of_name pnL1e) hisR ?_
  intro p e s m args below meth c s₁ Bd hml0 hP hK
  obtain ⟨rfl, hZ, hh⟩ := hP
  have hx := Bd.exec
  have hby := Bd.bytes
  have hml : c.maxLocals = 2 := hml0
  have hown : s.vm.findClass "java/lang/String" = some m.cls := findClass_of_methodNamed Bd.named
  have hnm := (name_of_methodNamed Bd.named Bd.method).1
  have hlk : meth.locks = false := Bd.notSynchronized
  have X0 : Stand p l e ({ frames := 3, cells := 1, slots := 1, locals := 52 } : Room) s m #[(.ref oa), (.ref cc)] below meth c s₁ [] 0 0 := Stand.of_body Bd
  have e0 : s₁.heap = h0 := by rw [← hh, Bd.state]; rfl
  have N0 := Fr.nil n0
  refine own_go (fun t k => castTop (efL1e m oa cc) k) ?_
  show own_Go p e below _ (s₁.setTop (mkF m 0 #[.val (.ref oa), .val (.ref cc)] []))
  refine own_go (fun t k => XS.aloadN X0.here hx rfl (hb hby dL1e_0) rfl rfl k) ?_
  show own_Go p e below _ (s₁.setTop (mkF m 1 #[.val (.ref oa), .val (.ref cc)] [(.ref oa)]))
  refine own_go (fun t k => XS.aloadN X0.here hx rfl (hb hby dL1e_1) rfl rfl k) ?_
  show own_Go p e below _ (s₁.setTop (mkF m 2 #[.val (.ref oa), .val (.ref cc)] [(.ref cc), (.ref oa)]))
  refine own_go (fun t k => XS.iconst X0.here hx rfl (hb hby dL1e_2) k) ?_
  show own_Go p e below _ (s₁.setTop (mkF m 3 #[.val (.ref oa), .val (.ref cc)] [(.int (0 : Int32)), (.ref cc), (.ref oa)]))
  refine own_go (fun t k => XS.aloadN X0.here hx rfl (hb hby dL1e_3) rfl rfl k) ?_
  show own_Go p e below _ (s₁.setTop (mkF m 4 #[.val (.ref oa), .val (.ref cc)] [(.ref cc), (.int (0 : Int32)), (.ref cc), (.ref oa)]))
  obtain ⟨cl1, Ar1, -, Sa1, Na1, -, -⟩ := id Ac
  have ln1 := len_of Sa1 Na1
  refine own_go (fun t k => X0.arraylength hx (by rw [e0]; exact Ar1.1) (State.isArrayOf_alike hZ.alike Ar1.2.1) (g := (mkF m 4 #[.val (.ref oa), .val (.ref cc)] [(.ref cc), (.int (0 : Int32)), (.ref cc), (.ref oa)])) rfl rfl (hb hby dL1e_4) t (by rw [ln1]; exact k)) ?_
  show own_Go p e below _ (s₁.setTop (mkF m 5 #[.val (.ref oa), .val (.ref cc)] [(.int (1 : Int32)), (.int (0 : Int32)), (.ref cc), (.ref oa)]))
  refine own_go (fun t k => XS.aconstNull X0.here hx rfl (hb hby dL1e_5) k) ?_
  show own_Go p e below _ (s₁.setTop (mkF m 6 #[.val (.ref oa), .val (.ref cc)] [.null, (.int (1 : Int32)), (.int (0 : Int32)), (.ref cc), (.ref oa)]))
  obtain ⟨_, _, ⟨T2, L2, k2, n2⟩, -, X2, ⟨Lc2, hQ2, l2, y2, z2⟩, st2⟩ := X0.specialBack hx (y := (⟨"java/lang/String", "<init>", "([CIILjava/lang/Void;)V"⟩ : MethodName)) rfl hown (mvT hZ (hw _ (List.mem_of_getElem? (i := 46) rfl))) (mvT hZ (hw _ (List.mem_of_getElem? (i := 47) rfl))) (mvT hZ (hw _ (List.mem_of_getElem? (i := 49) rfl))) (by decide) (backOf (W := 0) (rmL1d l Z a0 hw [] oa cc kc cs c0 h0 n0 Z0 Ea Fv Fc g_oa ne_ca Ac SC hcs XO hp0) hZ (hw _ (List.mem_of_getElem? (i := 49) rfl)) (hw _ (List.mem_of_getElem? (i := 42) rfl)) (by decide) (by decide)) (g := (mkF m 6 #[.val (.ref oa), .val (.ref cc)] [.null, (.int (1 : Int32)), (.int (0 : Int32)), (.ref cc), (.ref oa)])) rfl (by rw [hml]; rfl) (Steps.refl _) (a := oa) (argsL := [(.ref cc), (.int (0 : Int32)), (.int (1 : Int32)), .null]) (rest := []) (lenOf pdL1e_0 rfl) rfl (by show 2 * 0 + _ ≤ _; exact Nat.le_of_eq rfl) (hb hby dL1e_6) (fun _ _ => ⟨rfl, e0, (by decide : 0 + 1 ≤ _), (by decide : 0 + 1 ≤ _)⟩)
  dsimp only [Pt.U, Pt.locs, Pt.cells, Pt.slots] at X2 l2 y2 z2 st2 hQ2
  subst l2 y2 z2
  obtain ⟨rfl, Nq2, K2, Fc2, d2, kd2, ge2, Fv2, A2⟩ := hQ2
  have N2 := Fr.app N0 Nq2
  refine own_go (fun t k => st2.trans k) ?_
  have g_d2 : n0 ≤ d2 := Nat.le_trans Z0 ge2
  have sz_d2 : h0.size ≤ d2 := Nat.le_trans (Keep.refl h0 [oa]).1 ge2
  have ne_oa_d2 : oa ≠ d2 := Nat.ne_of_lt (Nat.lt_of_lt_of_le Ea.lt ge2)
  have ne_cc_d2 : cc ≠ d2 := Nat.ne_of_lt (Nat.lt_of_lt_of_le Ac.lt ge2)
  have Ea__2 := Ea.keep K2
  have Ac__2 := Ac.keep K2 (ninS ne_ca nin0)
  have XO__2 := XO.keep K2 (allS g_oa all0)
  have KP2 := (Keep.refl h0 [oa]).trans K2 (allS (Or.inl (List.mem_of_getElem? (i := 0) rfl)) all0)
  have sz2 := Nat.le_trans Z0 K2.1
  show own_Go p e below _ (T2.setTop (mkF m 9 #[.val (.ref oa), .val (.ref cc)] []))
  exact own_ret0 X2 hx Bd.returns (hb hby dL1e_9) (⟨rfl, N2, KP2, Fc2, _, _, sz_d2, Fv2, A2⟩) (by decide) (by decide)
theorem dEd_0 : decode jdk_42_method_149_code 0 = .ok (.aload_n 0, 1) := by decide +kernel
theorem dEd_1 : decode jdk_42_method_149_code 1 = .ok (.invokespecial 1, 3) := by decide +kernel
theorem dEd_4 : decode jdk_42_method_149_code 4 = .ok (.iload_n 3, 1) := by decide +kernel
theorem dEd_5 : decode jdk_42_method_149_code 5 = .ok (.ifCond .ne 22, 3) := by decide +kernel
theorem dEd_8 : decode jdk_42_method_149_code 8 = .ok (.aload_n 0, 1) := by decide +kernel
theorem dEd_9 : decode jdk_42_method_149_code 9 = .ok (.ldc 7, 2) := by decide +kernel
theorem dEd_11 : decode jdk_42_method_149_code 11 = .ok (.getfield 9, 3) := by decide +kernel
theorem dEd_14 : decode jdk_42_method_149_code 14 = .ok (.putfield 9, 3) := by decide +kernel
theorem dEd_17 : decode jdk_42_method_149_code 17 = .ok (.aload_n 0, 1) := by decide +kernel
theorem dEd_18 : decode jdk_42_method_149_code 18 = .ok (.ldc 7, 2) := by decide +kernel
theorem dEd_20 : decode jdk_42_method_149_code 20 = .ok (.getfield 15, 3) := by decide +kernel
theorem dEd_23 : decode jdk_42_method_149_code 23 = .ok (.putfield 15, 3) := by decide +kernel
theorem dEd_26 : decode jdk_42_method_149_code 26 = .ok (.return_, 1) := by decide +kernel
theorem pnEd : plainName "java/lang/String" = true := by first | (simp [plainName, overriddenIn]; done) | decide +kernel
theorem efEd (m : MethodId) (x0 : Addr) (x1 : Addr) (x2 : Int32) (x3 : Int32) : entryFrame m #[(.ref x0), (.ref x1), (.int x3), (.int x3), .null] 6 = mkF m 0 #[.val (.ref x0), .val (.ref x1), .val (.int x3), .val (.int x3), .val .null, .unset] [] := by first | (simp [entryFrame, mkF, argsToLocals, Value.category]; done) | rfl
def own_QE (Z : State) (a : Addr) (h0 : Heap) (n0 : Nat) (v : Option Value) (h : Heap) (L : List Loc) : Prop := v = none ∧ Fr n0 L ∧ Keep h0 h [a] ∧ Fld Z h a "java/lang/String" "coder" "B" (.int (0 : Int32)) ∧ ∃ (b : Addr) (kb : ClassId), Fld Z h a "java/lang/String" "value" "[B" (.ref b) ∧ Arv Z h b kb .byte (0 : Int32) [] (.int (0 : Int32))
set_option maxRecDepth 65536 in
set_option maxHeartbeats 40000000 in
theorem rmEd (l : Launch) (Z : State) (a0 : Array Value) (hw : ∀ d ∈ tables_1, d.before a0 Z = true) (ws : List Jvm.Cond) (oa cc : Addr) (h0 : Heap) (n0 : Nat) (Z0 : n0 ≤ h0.size) (Ea : Exa Z h0 oa "java/lang/String") (Fv : Fld Z h0 oa "java/lang/String" "value" "[B" .null) (Fc : Fld Z h0 oa "java/lang/String" "coder" "B" (.int (0 : Int32))) (g_oa : n0 ≤ oa) :
    MetFree l (⟨"java/lang/String", "<init>", "([CIILjava/lang/Void;)V"⟩ : MethodName) (head1 (Jvm.Cond.code (⟨"java/lang/String", "<init>", "([CIILjava/lang/Void;)V"⟩ : MethodName) jdk_42_method_149_code 6 none :: ws) ({ frames := 1, cells := 4, slots := 8, locals := 12 } : Room)) (fun a U => a = #[(.ref oa), (.ref cc), (.int (0 : Int32)), (.int (0 : Int32)), .null] ∧ Z.Warmed39 U.vm ∧ U.heap = h0 ∧ CHv Z own_EL U.vm h0 ∧ ∀ x ∈ ([oa] : List Addr), Safe Z own_EL U.vm h0 x) (fun _ _ _ _ _ => True) (fun _ U o U' => ∃ v L, o = .returned v ∧ own_QE Z oa h0 n0 v U'.heap L ∧ CHr Z own_EL U.vm U.heap U'.vm U'.heap ∧ ReturnedEndW U o U' L ({ frames := 1, cells := 4, slots := 8, locals := 12 } : Room).cells ({ frames := 1, cells := 4, slots := 8, locals := 12 } : Room).slots) := by
  refine MetFree.of_bodySF (plainFor_of_name pnEd) hisR ?_
  intro p e s m args below meth c s₁ Bd hml0 hP hK
  obtain ⟨rfl, hZ, hh, hC0, hsf0⟩ := hP
  have hx := Bd.exec
  have hby := Bd.bytes
  have hml : c.maxLocals = 6 := hml0
  have hown : s.vm.findClass "java/lang/String" = some m.cls := findClass_of_methodNamed Bd.named
  have hnm := (name_of_methodNamed Bd.named Bd.method).1
  have hlk : meth.locks = false := Bd.notSynchronized
  have hEL := own_ew hw
  have hR0 : CHr Z own_EL s.vm h0 s.vm h0 := CHr.refl hC0
  have Zs_oa := hsf0 oa (List.mem_of_getElem? (i := 0) rfl)
  have hS0 : s.Since s.vm 0 := (State.WarmedH.refl s).since 0
  have hk0 : 0 ≤ h0.size := Nat.zero_le _
  have X0 : Stand p l e ({ frames := 1, cells := 4, slots := 8, locals := 12 } : Room) (s.setVm s.vm) m #[(.ref oa), (.ref cc), (.int (0 : Int32)), (.int (0 : Int32)), .null] below meth c s₁ [] 0 0 := Stand.of_body Bd
  have e0 : s₁.heap = h0 := by rw [← hh, Bd.state]; rfl
  have N0 := Fr.nil n0
  refine own_go (fun t k => castTop (efEd m oa cc (0 : Int32) (0 : Int32)) k) ?_
  show own_Go p e below _ (s₁.setTop (mkF m 0 #[.val (.ref oa), .val (.ref cc), .val (.int (0 : Int32)), .val (.int (0 : Int32)), .val .null, .unset] []))
  refine own_go (fun t k => XS.aloadN X0.here hx rfl (hb hby dEd_0) rfl rfl k) ?_
  show own_Go p e below _ (s₁.setTop (mkF m 1 #[.val (.ref oa), .val (.ref cc), .val (.int (0 : Int32)), .val (.int (0 : Int32)), .val .null, .unset] [(.ref oa)]))
  obtain ⟨T2, X2, e2, st2⟩ := initO X0 hx hZ hown (hw _ (List.mem_of_getElem? (i := 50) rfl)) (hw _ (List.mem_of_getElem? (i := 20) rfl)) (hw _ (List.mem_of_getElem? (i := 21) rfl)) e0 (g := (mkF m 1 #[.val (.ref oa), .val (.ref cc), .val (.int (0 : Int32)), .val (.int (0 : Int32)), .val .null, .unset] [(.ref oa)])) rfl (by rw [hml]; rfl) rfl (hb hby dEd_1) (by decide) (W := 0) (by show 2 * 0 + _ ≤ _; exact Nat.le_of_eq rfl) (by decide)
  refine own_go (fun t k => st2 t k) ?_
  show own_Go p e below _ (T2.setTop (mkF m 4 #[.val (.ref oa), .val (.ref cc), .val (.int (0 : Int32)), .val (.int (0 : Int32)), .val .null, .unset] []))
  refine own_go (fun t k => XS.iloadN X2.here hx rfl (hb hby dEd_4) rfl k) ?_
  show own_Go p e below _ (T2.setTop (mkF m 5 #[.val (.ref oa), .val (.ref cc), .val (.int (0 : Int32)), .val (.int (0 : Int32)), .val .null, .unset] [(.int (0 : Int32))]))
  refine own_go (fun t k => XS.ifNo X2.here hx rfl (hb hby dEd_5) rfl ((if0 _ _).trans (teq (by decide : (0 : Int32) = (0 : Int32))).2) k) ?_
  show own_Go p e below _ (T2.setTop (mkF m 8 #[.val (.ref oa), .val (.ref cc), .val (.int (0 : Int32)), .val (.int (0 : Int32)), .val .null, .unset] []))
  refine own_go (fun t k => XS.aloadN X2.here hx rfl (hb hby dEd_8) rfl rfl k) ?_
  show own_Go p e below _ (T2.setTop (mkF m 9 #[.val (.ref oa), .val (.ref cc), .val (.int (0 : Int32)), .val (.int (0 : Int32)), .val .null, .unset] [(.ref oa)]))
  obtain ⟨s3, T3, h3, j3, c3, kc3, X3, e3, E3, hS3, hk3, hZ3, hown3, Es3, Fc3, Fv3, Ab3, -, -, hC3, -, hne3, st3⟩ := ldcCH X2 hx hZ hown (hw _ (List.mem_of_getElem? (i := 75) rfl)) (own_wS hw) e2 hS0 hk0 hEL (List.mem_of_getElem? (i := 0) rfl) hC0 (vs := []) (z := (0 : Int32)) ⟨by decide, by decide +kernel⟩ (by decide) rfl (g := (mkF m 9 #[.val (.ref oa), .val (.ref cc), .val (.int (0 : Int32)), .val (.int (0 : Int32)), .val .null, .unset] [(.ref oa)])) rfl (hb hby dEd_9) (n := 0) (by decide) (by decide) (by decide) (by decide)
  have Ea__3 := Ea.ext E3
  have Fv__3 := Fv.ext E3
  have Fc__3 := Fc.ext E3
  have Zs_oa__3 := hC3.safe Ea.lt Zs_oa
  have hR3 := hR0.trans hC3
  have hD3 := hR3.1
  have sz3 := Nat.le_trans Z0 E3.1
  have KP3 := (Keep.refl h0 [oa]).ext E3
  have ne_oa_s3 := (hne3 oa Zs_oa__3).1
  have ne_oa_c3 := (hne3 oa Zs_oa__3).2
  refine own_go (fun t k => st3 t k) ?_
  show own_Go p e below _ (T3.setTop (mkF m 11 #[.val (.ref oa), .val (.ref cc), .val (.int (0 : Int32)), .val (.int (0 : Int32)), .val .null, .unset] [(.ref s3), (.ref oa)]))
  obtain ⟨T4, X4, e4, st4⟩ := getF X3 hx hZ3 hown3 (host := "") (Or.inl (hw _ (List.mem_of_getElem? (i := 65) rfl))) Via.refl e3 Fv3 (g := (mkF m 11 #[.val (.ref oa), .val (.ref cc), .val (.int (0 : Int32)), .val (.int (0 : Int32)), .val .null, .unset] [(.ref s3), (.ref oa)])) rfl rfl (hb hby dEd_11)
  refine own_go (fun t k => st4 t k) ?_
  show own_Go p e below _ (T4.setTop (mkF m 14 #[.val (.ref oa), .val (.ref cc), .val (.int (0 : Int32)), .val (.int (0 : Int32)), .val .null, .unset] [(.ref c3), (.ref oa)]))
  obtain ⟨T5, h5, X5, e5, W5, st5⟩ := putF X4 hx hZ3 hown3 (host := "") (Or.inl (hw _ (List.mem_of_getElem? (i := 65) rfl))) Via.refl e4 Fv__3 Ea__3 (Or.inr ⟨(hw _ (List.mem_of_getElem? (i := 66) rfl)), rfl, hnm⟩) (hw _ (List.mem_of_getElem? (i := 41) rfl)) (ty := (.array .byte)) (by decide) rfl rfl (g := (mkF m 14 #[.val (.ref oa), .val (.ref cc), .val (.int (0 : Int32)), .val (.int (0 : Int32)), .val .null, .unset] [(.ref c3), (.ref oa)])) rfl rfl (hb hby dEd_14)
  have Fw5 := Fv__3.same W5
  have Sa5 : Safe Z own_EL T3.vm h3 oa := Zs_oa__3
  have Ea__5 := Ea__3.wr W5
  have Fc__5 := Fc__3.other W5 (Or.inr (slot_ne (Or.inr (hw _ (List.mem_of_getElem? (i := 64) rfl))) (Or.inr (hw _ (List.mem_of_getElem? (i := 66) rfl))) (by decide) (t := .byte) (t' := (.array .byte)) (by decide) (by decide)))
  have Es3__5 := Es3.wr W5
  have Fc3__5 := Fc3.other W5 (Or.inl (Ne.symm ne_oa_s3))
  have Fv3__5 := Fv3.other W5 (Or.inl (Ne.symm ne_oa_s3))
  have Ab3__5 := Ab3.other W5 (Ne.symm ne_oa_c3)
  have Zs_oa__5 := Safe.wr W5 Sa5 hD3 Zs_oa__3
  have hR5 := hR3.trans (CHr.wr W5 Sa5 hD3)
  have hC5 := hR5.1
  have N5 := Fr.snoc X5 N0 g_oa
  have KP5 := KP3.wr W5 (Or.inl (List.mem_of_getElem? (i := 0) rfl))
  have sz5 := Nat.le_trans sz3 (Keep.of_wr W5).1
  have hk5 := Nat.le_trans hk3 (Keep.of_wr W5).1
  refine own_go (fun t k => st5 t k) ?_
  show own_Go p e below _ (T5.setTop (mkF m 17 #[.val (.ref oa), .val (.ref cc), .val (.int (0 : Int32)), .val (.int (0 : Int32)), .val .null, .unset] []))
  refine own_go (fun t k => XS.aloadN X5.here hx rfl (hb hby dEd_17) rfl rfl k) ?_
  show own_Go p e below _ (T5.setTop (mkF m 18 #[.val (.ref oa), .val (.ref cc), .val (.int (0 : Int32)), .val (.int (0 : Int32)), .val .null, .unset] [(.ref oa)]))
  obtain ⟨s6, T6, h6, j6, c6, kc6, X6, e6, E6, hS6, hk6, hZ6, hown6, Es6, Fc6, Fv6, Ab6, -, -, hC6, -, hne6, st6⟩ := ldcCH X5 hx hZ3 hown3 (hw _ (List.mem_of_getElem? (i := 75) rfl)) (own_wS hw) e5 hS3 hk5 hEL (List.mem_of_getElem? (i := 0) rfl) hC5 (vs := []) (z := (0 : Int32)) ⟨by decide, by decide +kernel⟩ (by decide) rfl (g := (mkF m 18 #[.val (.ref oa), .val (.ref cc), .val (.int (0 : Int32)), .val (.int (0 : Int32)), .val .null, .unset] [(.ref oa)])) rfl (hb hby dEd_18) (n := 0) (by decide) (by decide) (by decide) (by decide)
  have Ea__6 := Ea__5.ext E6
  have Fw5__6 := Fw5.ext E6
  have Fc__6 := Fc__5.ext E6
  have Es3__6 := Es3__5.ext E6
  have Fc3__6 := Fc3__5.ext E6
  have Fv3__6 := Fv3__5.ext E6
  have Ab3__6 := Ab3__5.ext E6
  have Zs_oa__6 := hC6.safe Ea__5.lt Zs_oa__5
  have hR6 := hR5.trans hC6
  have hD6 := hR6.1
  have sz6 := Nat.le_trans sz5 E6.1
  have KP6 := KP5.ext E6
  have ne_oa_s6 := (hne6 oa Zs_oa__6).1
  have ne_oa_c6 := (hne6 oa Zs_oa__6).2
  refine own_go (fun t k => st6 t k) ?_
  show own_Go p e below _ (T6.setTop (mkF m 20 #[.val (.ref oa), .val (.ref cc), .val (.int (0 : Int32)), .val (.int (0 : Int32)), .val .null, .unset] [(.ref s6), (.ref oa)]))
  obtain ⟨T7, X7, e7, st7⟩ := getF X6 hx hZ6 hown6 (host := "") (Or.inl (hw _ (List.mem_of_getElem? (i := 63) rfl))) Via.refl e6 Fc6 (g := (mkF m 20 #[.val (.ref oa), .val (.ref cc), .val (.int (0 : Int32)), .val (.int (0 : Int32)), .val .null, .unset] [(.ref s6), (.ref oa)])) rfl rfl (hb hby dEd_20)
  refine own_go (fun t k => st7 t k) ?_
  show own_Go p e below _ (T7.setTop (mkF m 23 #[.val (.ref oa), .val (.ref cc), .val (.int (0 : Int32)), .val (.int (0 : Int32)), .val .null, .unset] [(.int (0 : Int32)), (.ref oa)]))
  obtain ⟨T8, h8, X8, e8, W8, st8⟩ := putF X7 hx hZ6 hown6 (host := "") (Or.inl (hw _ (List.mem_of_getElem? (i := 63) rfl))) Via.refl e7 Fc__6 Ea__6 (Or.inr ⟨(hw _ (List.mem_of_getElem? (i := 64) rfl)), rfl, hnm⟩) (hw _ (List.mem_of_getElem? (i := 41) rfl)) (ty := .byte) (by decide) rfl rfl (g := (mkF m 23 #[.val (.ref oa), .val (.ref cc), .val (.int (0 : Int32)), .val (.int (0 : Int32)), .val .null, .unset] [(.int (0 : Int32)), (.ref oa)])) rfl rfl (hb hby dEd_23)
  have Fw8 := Fc__6.same W8
  have Sa8 : Safe Z own_EL T6.vm h6 oa := Zs_oa__6
  have Ea__8 := Ea__6.wr W8
  have Fw5__8 := Fw5__6.other W8 (Or.inr (slot_ne (Or.inr (hw _ (List.mem_of_getElem? (i := 66) rfl))) (Or.inr (hw _ (List.mem_of_getElem? (i := 64) rfl))) (by decide) (t := (.array .byte)) (t' := .byte) (by decide) (by decide)))
  have Es3__8 := Es3__6.wr W8
  have Fc3__8 := Fc3__6.other W8 (Or.inl (Ne.symm ne_oa_s3))
  have Fv3__8 := Fv3__6.other W8 (Or.inl (Ne.symm ne_oa_s3))
  have Ab3__8 := Ab3__6.other W8 (Ne.symm ne_oa_c3)
  have Es6__8 := Es6.wr W8
  have Fc6__8 := Fc6.other W8 (Or.inl (Ne.symm ne_oa_s6))
  have Fv6__8 := Fv6.other W8 (Or.inl (Ne.symm ne_oa_s6))
  have Ab6__8 := Ab6.other W8 (Ne.symm ne_oa_c6)
  have Zs_oa__8 := Safe.wr W8 Sa8 hD6 Zs_oa__6
  have hR8 := hR6.trans (CHr.wr W8 Sa8 hD6)
  have hC8 := hR8.1
  have N8 := Fr.snoc X8 N5 g_oa
  have KP8 := KP6.wr W8 (Or.inl (List.mem_of_getElem? (i := 0) rfl))
  have sz8 := Nat.le_trans sz6 (Keep.of_wr W8).1
  have hk8 := Nat.le_trans hk6 (Keep.of_wr W8).1
  refine own_go (fun t k => st8 t k) ?_
  show own_Go p e below _ (T8.setTop (mkF m 26 #[.val (.ref oa), .val (.ref cc), .val (.int (0 : Int32)), .val (.int (0 : Int32)), .val .null, .unset] []))
  have hF : CHr Z own_EL s.vm s.heap T8.vm T8.heap := by rw [hh, e8]; exact hR8.trans (CHv.at X8 hZ6 hEL hC8)
  exact own_ret0H X8 hx Bd.returns (hb hby dEd_26) hS6 (by rw [e8]; exact hk8) (by rw [e8]; exact ⟨rfl, N8, KP8, Fw8, _, _, Fw5__8, Ab3__8⟩) (hF) (by decide) (by decide)
theorem dEe_0 : decode jdk_42_method_3_code 0 = .ok (.aload_n 0, 1) := by decide +kernel
theorem dEe_1 : decode jdk_42_method_3_code 1 = .ok (.aload_n 1, 1) := by decide +kernel
theorem dEe_2 : decode jdk_42_method_3_code 2 = .ok (.iconst 0, 1) := by decide +kernel
theorem dEe_3 : decode jdk_42_method_3_code 3 = .ok (.aload_n 1, 1) := by decide +kernel
theorem dEe_4 : decode jdk_42_method_3_code 4 = .ok (.arraylength, 1) := by decide +kernel
theorem dEe_5 : decode jdk_42_method_3_code 5 = .ok (.aconst_null, 1) := by decide +kernel
theorem dEe_6 : decode jdk_42_method_3_code 6 = .ok (.invokespecial 27, 3) := by decide +kernel
theorem dEe_9 : decode jdk_42_method_3_code 9 = .ok (.return_, 1) := by decide +kernel
theorem pnEe : plainName "java/lang/String" = true := by first | (simp [plainName, overriddenIn]; done) | decide +kernel
theorem pdEe_0 : parseMethodDescriptor "([CIILjava/lang/Void;)V" = some ⟨[(.array .char), .int, .int, (.object "java/lang/Void")], none⟩ := by decide +kernel
theorem efEe (m : MethodId) (x0 : Addr) (x1 : Addr) : entryFrame m #[(.ref x0), (.ref x1)] 2 = mkF m 0 #[.val (.ref x0), .val (.ref x1)] [] := by first | (simp [entryFrame, mkF, argsToLocals, Value.category]; done) | rfl
set_option maxRecDepth 65536 in
set_option maxHeartbeats 40000000 in
theorem rmEe (l : Launch) (Z : State) (a0 : Array Value) (hw : ∀ d ∈ tables_1, d.before a0 Z = true) (ws : List Jvm.Cond) (oa cc : Addr) (kc : ClassId) (h0 : Heap) (n0 : Nat) (Z0 : n0 ≤ h0.size) (Ea : Exa Z h0 oa "java/lang/String") (Fv : Fld Z h0 oa "java/lang/String" "value" "[B" .null) (Fc : Fld Z h0 oa "java/lang/String" "coder" "B" (.int (0 : Int32))) (g_oa : n0 ≤ oa) (Ac : Arv Z h0 cc kc .char (0 : Int32) [] (.int (0 : Int32))) :
    MetFree l (⟨"java/lang/String", "<init>", "([C)V"⟩ : MethodName) (head1 (Jvm.Cond.code (⟨"java/lang/String", "<init>", "([C)V"⟩ : MethodName) jdk_42_method_3_code 2 none :: ws) ({ frames := 2, cells := 4, slots := 8, locals := 29 } : Room)) (fun a U => a = #[(.ref oa), (.ref cc)] ∧ Z.Warmed39 U.vm ∧ U.heap = h0 ∧ CHv Z own_EL U.vm h0 ∧ ∀ x ∈ ([oa] : List Addr), Safe Z own_EL U.vm h0 x) (fun _ _ _ _ _ => True) (fun _ U o U' => ∃ v L, o = .returned v ∧ own_QE Z oa h0 n0 v U'.heap L ∧ CHr Z own_EL U.vm U.heap U'.vm U'.heap ∧ ReturnedEndW U o U' L ({ frames := 2, cells := 4, slots := 8, locals := 29 } : Room).cells ({ frames := 2, cells := 4, slots := 8, locals := 29 } : Room).slots) := by
  refine MetFree.of_bodySF (plainFor_of_name pnEe) hisR ?_
  intro p e s m args below meth c s₁ Bd hml0 hP hK
  obtain ⟨rfl, hZ, hh, hC0, hsf0⟩ := hP
  have hx := Bd.exec
  have hby := Bd.bytes
  have hml : c.maxLocals = 2 := hml0
  have hown : s.vm.findClass "java/lang/String" = some m.cls := findClass_of_methodNamed Bd.named
  have hnm := (name_of_methodNamed Bd.named Bd.method).1
  have hlk : meth.locks = false := Bd.notSynchronized
  have hEL := own_ew hw
  have hR0 : CHr Z own_EL s.vm h0 s.vm h0 := CHr.refl hC0
  have Zs_oa := hsf0 oa (List.mem_of_getElem? (i := 0) rfl)
  have hS0 : s.Since s.vm 0 := (State.WarmedH.refl s).since 0
  have hk0 : 0 ≤ h0.size := Nat.zero_le _
  have X0 : Stand p l e ({ frames := 2, cells := 4, slots := 8, locals := 29 } : Room) (s.setVm s.vm) m #[(.ref oa), (.ref cc)] below meth c s₁ [] 0 0 := Stand.of_body Bd
  have e0 : s₁.heap = h0 := by rw [← hh, Bd.state]; rfl
  have N0 := Fr.nil n0
  refine own_go (fun t k => castTop (efEe m oa cc) k) ?_
  show own_Go p e below _ (s₁.setTop (mkF m 0 #[.val (.ref oa), .val (.ref cc)] []))
  refine own_go (fun t k => XS.aloadN X0.here hx rfl (hb hby dEe_0) rfl rfl k) ?_
  show own_Go p e below _ (s₁.setTop (mkF m 1 #[.val (.ref oa), .val (.ref cc)] [(.ref oa)]))
  refine own_go (fun t k => XS.aloadN X0.here hx rfl (hb hby dEe_1) rfl rfl k) ?_
  show own_Go p e below _ (s₁.setTop (mkF m 2 #[.val (.ref oa), .val (.ref cc)] [(.ref cc), (.ref oa)]))
  refine own_go (fun t k => XS.iconst X0.here hx rfl (hb hby dEe_2) k) ?_
  show own_Go p e below _ (s₁.setTop (mkF m 3 #[.val (.ref oa), .val (.ref cc)] [(.int (0 : Int32)), (.ref cc), (.ref oa)]))
  refine own_go (fun t k => XS.aloadN X0.here hx rfl (hb hby dEe_3) rfl rfl k) ?_
  show own_Go p e below _ (s₁.setTop (mkF m 4 #[.val (.ref oa), .val (.ref cc)] [(.ref cc), (.int (0 : Int32)), (.ref cc), (.ref oa)]))
  obtain ⟨cl1, Ar1, -, Sa1, Na1, -, -⟩ := id Ac
  have ln1 := len_of Sa1 Na1
  refine own_go (fun t k => X0.arraylength hx (by rw [e0]; exact Ar1.1) (State.isArrayOf_alike hZ.alike Ar1.2.1) (g := (mkF m 4 #[.val (.ref oa), .val (.ref cc)] [(.ref cc), (.int (0 : Int32)), (.ref cc), (.ref oa)])) rfl rfl (hb hby dEe_4) t (by rw [ln1]; exact k)) ?_
  show own_Go p e below _ (s₁.setTop (mkF m 5 #[.val (.ref oa), .val (.ref cc)] [(.int (0 : Int32)), (.int (0 : Int32)), (.ref cc), (.ref oa)]))
  refine own_go (fun t k => XS.aconstNull X0.here hx rfl (hb hby dEe_5) k) ?_
  show own_Go p e below _ (s₁.setTop (mkF m 6 #[.val (.ref oa), .val (.ref cc)] [.null, (.int (0 : Int32)), (.int (0 : Int32)), (.ref cc), (.ref oa)]))
  obtain ⟨_, _, ⟨T2, L2, k2, n2⟩, -, X2, hSq2, hgr2, ⟨Lc2, hQ2, l2, y2, z2, hC2⟩, st2⟩ := X0.specialBackS hx (y := (⟨"java/lang/String", "<init>", "([CIILjava/lang/Void;)V"⟩ : MethodName)) rfl hown (mvT hZ (hw _ (List.mem_of_getElem? (i := 46) rfl))) (mvT hZ (hw _ (List.mem_of_getElem? (i := 47) rfl))) (mvT hZ (hw _ (List.mem_of_getElem? (i := 49) rfl))) (by decide) (own_backH (s := s) (W := 0) (rmEd l Z a0 hw [] oa cc h0 n0 Z0 Ea Fv Fc g_oa) hZ (hw _ (List.mem_of_getElem? (i := 49) rfl)) (hw _ (List.mem_of_getElem? (i := 42) rfl)) (by decide) (by decide) hEL hC0 (allS ⟨Ea.lt, Zs_oa⟩ all0)) (g := (mkF m 6 #[.val (.ref oa), .val (.ref cc)] [.null, (.int (0 : Int32)), (.int (0 : Int32)), (.ref cc), (.ref oa)])) rfl (by rw [hml]; rfl) (Steps.refl _) (a := oa) (argsL := [(.ref cc), (.int (0 : Int32)), (.int (0 : Int32)), .null]) (rest := []) (lenOf pdEe_0 rfl) rfl (by show 2 * 0 + _ ≤ _; exact Nat.le_of_eq rfl) (hb hby dEe_6) (fun _ _ => ⟨rfl, e0, (by decide : 0 + 4 ≤ _), (by decide : 0 + 8 ≤ _)⟩)
  dsimp only [Pt.U, Pt.locs, Pt.cells, Pt.slots] at X2 l2 y2 z2 st2 hQ2 hSq2 hgr2 hC2
  subst l2 y2 z2
  obtain ⟨rfl, Nq2, K2, Fc2, d2, kd2, Fv2, A2⟩ := hQ2
  have N2 := Fr.app N0 Nq2
  refine own_go (fun t k => st2.trans k) ?_
  have hS2 := foldS (T := s₁) hS0 (by rw [e0]; exact hk0) hSq2 hgr2
  have hZ2 : Z.Warmed39 T2.vm := State.Warmed39.trans (t := s.setVm s.vm) hZ hSq2.1
  have hown2 : T2.vm.findClass "java/lang/String" = some m.cls := by rw [hSq2.1.alike.findClass]; exact hown
  have hk2 := Nat.le_refl T2.heap.size
  replace X2 : Stand p l e ({ frames := 2, cells := 4, slots := 8, locals := 29 } : Room) (s.setVm T2.vm) m #[(.ref oa), (.ref cc)] below meth c T2 _ _ _ := X2
  have Ea__2 := Ea.keep K2
  have Ac__2 := Ac.keep K2 (ninS (Ne.symm (Exa.neArv Ea Ac (hw _ (List.mem_of_getElem? (i := 41) rfl)))) nin0)
  have Zs_oa__2 := hC2.safe Ea.lt Zs_oa
  have hR2 := hR0.trans hC2
  have hD2 := hR2.1
  have KP2 := (Keep.refl h0 [oa]).trans K2 (allS (Or.inl (List.mem_of_getElem? (i := 0) rfl)) all0)
  have sz2 := Nat.le_trans Z0 K2.1
  show own_Go p e below _ (T2.setTop (mkF m 9 #[.val (.ref oa), .val (.ref cc)] []))
  have hF : CHr Z own_EL s.vm s.heap T2.vm T2.heap := by rw [hh]; exact hR2.trans (CHv.at X2 hZ2 hEL hD2)
  exact own_ret0H X2 hx Bd.returns (hb hby dEe_9) hS2 hk2 (⟨rfl, N2, KP2, Fc2, _, _, Fv2, A2⟩) (hF) (by decide) (by decide)
def own_W (Z : State) : Prop := (∃ c : Int32, ¬ c = 0 ∧ Sta Z Z.heap "java/lang/String" "COMPACT_STRINGS" "Z" (.int c)) ∧ (∃ a : Addr, Sta Z Z.heap "com/example/tariff_reader/tariffreader/model/Unit" "MINUTE_MILE" "Lcom/example/tariff_reader/tariffreader/model/Unit;" (.ref a)) ∧ (∃ a : Addr, Sta Z Z.heap "com/example/tariff_reader/tariffreader/model/Unit" "MINUTE" "Lcom/example/tariff_reader/tariffreader/model/Unit;" (.ref a)) ∧ (∃ a : Addr, Sta Z Z.heap "com/example/tariff_reader/tariffreader/model/Unit" "QUERY" "Lcom/example/tariff_reader/tariffreader/model/Unit;" (.ref a)) ∧ (∃ a : Addr, Sta Z Z.heap "com/example/tariff_reader/tariffreader/model/Unit" "MONTH" "Lcom/example/tariff_reader/tariffreader/model/Unit;" (.ref a)) ∧ (∃ a : Addr, Sta Z Z.heap "com/example/tariff_reader/tariffreader/model/Unit" "OCCURRENCE" "Lcom/example/tariff_reader/tariffreader/model/Unit;" (.ref a)) ∧ (∃ a : Addr, Sta Z Z.heap "com/example/tariff_reader/tariffreader/model/Direction" "ORIGINATING" "Lcom/example/tariff_reader/tariffreader/model/Direction;" (.ref a)) ∧ (∃ a : Addr, Sta Z Z.heap "com/example/tariff_reader/tariffreader/model/Direction" "TERMINATING" "Lcom/example/tariff_reader/tariffreader/model/Direction;" (.ref a)) ∧ (∃ a : Addr, Sta Z Z.heap "com/example/tariff_reader/tariffreader/model/Direction" "BOTH" "Lcom/example/tariff_reader/tariffreader/model/Direction;" (.ref a))
def own_Ql (Z : State) (h : Heap) (a : Addr) (v1 v2 v3 v4 v5 v6 : Value) : Prop := Exa Z h a "com/example/tariff_reader/tariffreader/text/Qualifiers" ∧ Fld Z h a "com/example/tariff_reader/tariffreader/text/Qualifiers" "area" "Ljava/lang/String;" v1 ∧ Fld Z h a "com/example/tariff_reader/tariffreader/text/Qualifiers" "schedule" "Ljava/lang/String;" v2 ∧ Fld Z h a "com/example/tariff_reader/tariffreader/text/Qualifiers" "traffic" "Ljava/lang/String;" v3 ∧ Fld Z h a "com/example/tariff_reader/tariffreader/text/Qualifiers" "direction" "Lcom/example/tariff_reader/tariffreader/model/Direction;" v4 ∧ Fld Z h a "com/example/tariff_reader/tariffreader/text/Qualifiers" "band" "Ljava/lang/String;" v5 ∧ Fld Z h a "com/example/tariff_reader/tariffreader/text/Qualifiers" "unit" "Lcom/example/tariff_reader/tariffreader/model/Unit;" v6
theorem own_Ql.keep {Z : State} {h h' : Heap} {a : Addr} {v1 v2 v3 v4 v5 v6 : Value} {ws : List Addr} (F : own_Ql Z h a v1 v2 v3 v4 v5 v6) (K : Keep h h' ws) (q : a ∉ ws) : own_Ql Z h' a v1 v2 v3 v4 v5 v6 := ⟨F.1.keep K, F.2.1.keep K q, F.2.2.1.keep K q, F.2.2.2.1.keep K q, F.2.2.2.2.1.keep K q, F.2.2.2.2.2.1.keep K q, F.2.2.2.2.2.2.keep K q⟩
theorem own_Ql.ext {Z : State} {h h' : Heap} {a : Addr} {v1 v2 v3 v4 v5 v6 : Value} (F : own_Ql Z h a v1 v2 v3 v4 v5 v6) (E : Ext h h') : own_Ql Z h' a v1 v2 v3 v4 v5 v6 := ⟨F.1.ext E, F.2.1.ext E, F.2.2.1.ext E, F.2.2.2.1.ext E, F.2.2.2.2.1.ext E, F.2.2.2.2.2.1.ext E, F.2.2.2.2.2.2.ext E⟩
def own_bo : Value → Value → Bool
  | .null, _ => false
  | _, .null => false
  | _, _ => true
theorem own_boN (y : Value) : own_bo .null y = false := rfl
theorem own_boR (x y : Addr) : own_bo (.ref x) (.ref y) = true := rfl
theorem own_boS (x : Addr) : own_bo (.ref x) .null = false := rfl
theorem own_bo_iff {x y : Value} (hx : x.isRef = true) (hy : y.isRef = true) : own_bo x y = false ↔ (x = .null ∨ y = .null) := by
  rcases ref_cases hx with rfl | ⟨a, rfl⟩ <;> rcases ref_cases hy with rfl | ⟨b, rfl⟩ <;> simp [own_bo]
theorem own_mask (x : Int32) : ¬ (255 : Int32) < nar .char ((x &&& 255).toUInt32.toUInt16.toUInt32.toInt32) := by
  have e : nar .char ((x &&& 255).toUInt32.toUInt16.toUInt32.toInt32) = x &&& 255 := by simp only [nar]; rw [i2c_mask, i2c_mask]
  rw [e]
  have h : (x &&& 255).toInt = x.toInt % 2 ^ 8 := Jvm.Kit.i32_mask x 255 (k := 8) (by decide) (by decide)
  rw [Int32.lt_iff_toInt_lt]
  have h1 : (255 : Int32).toInt = 255 := by decide
  omega
theorem dS_0 : decode method_4_code 0 = .ok (.iload_n 0, 1) := by decide +kernel
theorem dS_1 : decode method_4_code 1 = .ok (.ifCond .ne 5, 3) := by decide +kernel
theorem dS_4 : decode method_4_code 4 = .ok (.aconst_null, 1) := by decide +kernel
theorem dS_5 : decode method_4_code 5 = .ok (.areturn, 1) := by decide +kernel
theorem dS_6 : decode method_4_code 6 = .ok (.iload_n 1, 1) := by decide +kernel
theorem dS_7 : decode method_4_code 7 = .ok (.sipush 256, 3) := by decide +kernel
theorem dS_10 : decode method_4_code 10 = .ok (.iand, 1) := by decide +kernel
theorem dS_11 : decode method_4_code 11 = .ok (.ifCond .eq 14, 3) := by decide +kernel
theorem dS_14 : decode method_4_code 14 = .ok (.new 34, 3) := by decide +kernel
theorem dS_17 : decode method_4_code 17 = .ok (.dup, 1) := by decide +kernel
theorem dS_18 : decode method_4_code 18 = .ok (.iconst 0, 1) := by decide +kernel
theorem dS_19 : decode method_4_code 19 = .ok (.newarray .char, 2) := by decide +kernel
theorem dS_21 : decode method_4_code 21 = .ok (.invokespecial 36, 3) := by decide +kernel
theorem dS_24 : decode method_4_code 24 = .ok (.areturn, 1) := by decide +kernel
theorem dS_25 : decode method_4_code 25 = .ok (.iconst 1, 1) := by decide +kernel
theorem dS_26 : decode method_4_code 26 = .ok (.newarray .char, 2) := by decide +kernel
theorem dS_28 : decode method_4_code 28 = .ok (.astore_n 2, 1) := by decide +kernel
theorem dS_29 : decode method_4_code 29 = .ok (.aload_n 2, 1) := by decide +kernel
theorem dS_30 : decode method_4_code 30 = .ok (.iconst 0, 1) := by decide +kernel
theorem dS_31 : decode method_4_code 31 = .ok (.iload_n 1, 1) := by decide +kernel
theorem dS_32 : decode method_4_code 32 = .ok (.sipush 255, 3) := by decide +kernel
theorem dS_35 : decode method_4_code 35 = .ok (.iand, 1) := by decide +kernel
theorem dS_36 : decode method_4_code 36 = .ok (.i2c, 1) := by decide +kernel
theorem dS_37 : decode method_4_code 37 = .ok (.castore, 1) := by decide +kernel
theorem dS_38 : decode method_4_code 38 = .ok (.new 34, 3) := by decide +kernel
theorem dS_41 : decode method_4_code 41 = .ok (.dup, 1) := by decide +kernel
theorem dS_42 : decode method_4_code 42 = .ok (.aload_n 2, 1) := by decide +kernel
theorem dS_43 : decode method_4_code 43 = .ok (.invokespecial 36, 3) := by decide +kernel
theorem dS_46 : decode method_4_code 46 = .ok (.areturn, 1) := by decide +kernel
theorem pnS : plainName "com/example/tariff_reader/tariffreader/text/QualifiersOverlapsPinLaw" = true := by first | (simp [plainName, overriddenIn]; done) | decide +kernel
theorem pdS_0 : parseMethodDescriptor "([C)V" = some ⟨[(.array .char)], none⟩ := by decide +kernel
theorem efS (m : MethodId) (x0 : Int32) (x1 : Int32) : entryFrame m #[(.int x0), (.int x1)] 3 = mkF m 0 #[.val (.int x0), .val (.int x1), .unset] [] := by first | (simp [entryFrame, mkF, argsToLocals, Value.category]; done) | rfl
def own_QS (pr : Int32) (h0 : Heap) (n0 : Nat) (v : Option Value) (h : Heap) (L : List Loc) : Prop := ∃ w : Value, v = some w ∧ w.isRef = true ∧ (w = .null ↔ pr = 0) ∧ Fr n0 L ∧ Keep h0 h []
set_option maxRecDepth 65536 in
set_option maxHeartbeats 40000000 in
theorem rmS (l : Launch) (Z : State) (a0 : Array Value) (hw : ∀ d ∈ tables_1, d.before a0 Z = true) (ws : List Jvm.Cond) (pr xc : Int32) (h0 : Heap) (n0 : Nat) (Z0 : n0 ≤ h0.size) (XO : Old Z n0 h0) (WW : own_W Z) :
    MetFree l (⟨"com/example/tariff_reader/tariffreader/text/QualifiersOverlapsPinLaw", "str", "(ZI)Ljava/lang/String;"⟩ : MethodName) (head1 (Jvm.Cond.code (⟨"com/example/tariff_reader/tariffreader/text/QualifiersOverlapsPinLaw", "str", "(ZI)Ljava/lang/String;"⟩ : MethodName) method_4_code 3 (some (.object "java/lang/String")) :: ws) ({ frames := 4, cells := 6, slots := 12, locals := 66 } : Room)) (fun a U => a = #[(.int pr), (.int xc)] ∧ Z.Warmed39 U.vm ∧ U.heap = h0 ∧ CHv Z own_EL U.vm h0 ∧ ∀ x ∈ ([] : List Addr), Safe Z own_EL U.vm h0 x) (fun _ _ _ _ _ => True) (fun _ U o U' => ∃ v L, o = .returned v ∧ own_QS pr h0 n0 v U'.heap L ∧ CHr Z own_EL U.vm U.heap U'.vm U'.heap ∧ ReturnedEndW U o U' L ({ frames := 4, cells := 6, slots := 12, locals := 66 } : Room).cells ({ frames := 4, cells := 6, slots := 12, locals := 66 } : Room).slots) := by
  refine MetFree.of_bodySF (plainFor_of_name pnS) hisR ?_
  intro p e s m args below meth c s₁ Bd hml0 hP hK
  obtain ⟨rfl, hZ, hh, hC0, hsf0⟩ := hP
  have hx := Bd.exec
  have hby := Bd.bytes
  have hml : c.maxLocals = 3 := hml0
  have hown : s.vm.findClass "com/example/tariff_reader/tariffreader/text/QualifiersOverlapsPinLaw" = some m.cls := findClass_of_methodNamed Bd.named
  have hnm := (name_of_methodNamed Bd.named Bd.method).1
  have hlk : meth.locks = false := Bd.notSynchronized
  have hEL := own_ew hw
  have hR0 : CHr Z own_EL s.vm h0 s.vm h0 := CHr.refl hC0
  have hS0 : s.Since s.vm 0 := (State.WarmedH.refl s).since 0
  have hk0 : 0 ≤ h0.size := Nat.zero_le _
  have X0 : Stand p l e ({ frames := 4, cells := 6, slots := 12, locals := 66 } : Room) (s.setVm s.vm) m #[(.int pr), (.int xc)] below meth c s₁ [] 0 0 := Stand.of_body Bd
  have e0 : s₁.heap = h0 := by rw [← hh, Bd.state]; rfl
  have N0 := Fr.nil n0
  refine own_go (fun t k => castTop (efS m pr xc) k) ?_
  obtain ⟨⟨cs, hcs, SC⟩, ⟨aMINUTE_MILE, SMINUTE_MILE⟩, ⟨aMINUTE, SMINUTE⟩, ⟨aQUERY, SQUERY⟩, ⟨aMONTH, SMONTH⟩, ⟨aOCCURRENCE, SOCCURRENCE⟩, ⟨aORIGINATING, SORIGINATING⟩, ⟨aTERMINATING, STERMINATING⟩, ⟨aBOTH, SBOTH⟩⟩ := id WW
  show own_Go p e below _ (s₁.setTop (mkF m 0 #[.val (.int pr), .val (.int xc), .unset] []))
  refine own_go (fun t k => XS.iloadN X0.here hx rfl (hb hby dS_0) rfl k) ?_
  show own_Go p e below _ (s₁.setTop (mkF m 1 #[.val (.int pr), .val (.int xc), .unset] [(.int pr)]))
  by_cases hc1 : pr = (0 : Int32)
  · refine own_go (fun t k => XS.ifNo X0.here hx rfl (hb hby dS_1) rfl ((if0 _ _).trans (teq hc1).2) k) ?_
    show own_Go p e below _ (s₁.setTop (mkF m 4 #[.val (.int pr), .val (.int xc), .unset] []))
    refine own_go (fun t k => XS.aconstNull X0.here hx rfl (hb hby dS_4) k) ?_
    show own_Go p e below _ (s₁.setTop (mkF m 5 #[.val (.int pr), .val (.int xc), .unset] [.null]))
    have hF : CHr Z own_EL s.vm s.heap s₁.vm s₁.heap := by rw [hh, e0]; exact hR0.trans (CHv.at X0 hZ hEL hC0)
    exact own_retAH X0 hx Bd.returns rfl rfl (hb hby dS_5) hS0 (by rw [e0]; exact hk0) (by rw [e0]; exact ⟨_, rfl, rfl, ⟨fun _ => hc1, fun _ => rfl⟩, N0, (Keep.refl h0 [])⟩) (hF) (by decide) (by decide)
  · refine own_go (fun t k => XS.ifYes X0.here hx rfl (pc0 := 1) (pc' := 6) rfl (hb hby dS_1) rfl ((if0 _ _).trans (feq hc1).2) (by decide) (by decide) k) ?_
    show own_Go p e below _ (s₁.setTop (mkF m 6 #[.val (.int pr), .val (.int xc), .unset] []))
    refine own_go (fun t k => XS.iloadN X0.here hx rfl (hb hby dS_6) rfl k) ?_
    show own_Go p e below _ (s₁.setTop (mkF m 7 #[.val (.int pr), .val (.int xc), .unset] [(.int xc)]))
    refine own_go (fun t k => XS.sipush X0.here hx rfl (hb hby dS_7) k) ?_
    show own_Go p e below _ (s₁.setTop (mkF m 10 #[.val (.int pr), .val (.int xc), .unset] [(.int (256 : Int32)), (.int xc)]))
    refine own_go (fun t k => XS.iand X0.here hx rfl (hb hby dS_10) rfl k) ?_
    show own_Go p e below _ (s₁.setTop (mkF m 11 #[.val (.int pr), .val (.int xc), .unset] [(.int (xc &&& (256 : Int32)))]))
    by_cases hc11 : (xc &&& (256 : Int32)) = (0 : Int32)
    · refine own_go (fun t k => XS.ifYes X0.here hx rfl (pc0 := 11) (pc' := 25) rfl (hb hby dS_11) rfl ((if0 _ _).trans (teq hc11).1) (by decide) (by decide) k) ?_
      show own_Go p e below _ (s₁.setTop (mkF m 25 #[.val (.int pr), .val (.int xc), .unset] []))
      refine own_go (fun t k => XS.iconst X0.here hx rfl (hb hby dS_25) k) ?_
      show own_Go p e below _ (s₁.setTop (mkF m 26 #[.val (.int pr), .val (.int xc), .unset] [(.int (1 : Int32))]))
      obtain ⟨T1, h1, k1, X1, e1, E1, A1, st1⟩ := newP X0 hx hZ (hw _ (List.mem_of_getElem? (i := 39) rfl)) e0 (g := (mkF m 26 #[.val (.int pr), .val (.int xc), .unset] [(.int (1 : Int32))])) rfl (hb hby dS_26) rfl (by decide) (cap := 1) (by decide) (by decide) (by decide) (by decide)
      obtain ⟨b1, g1⟩ : ∃ z, z = h0.size := ⟨_, rfl⟩
      rw [← g1] at A1 st1
      have g_b1 : n0 ≤ b1 := Nat.le_trans Z0 (Nat.le_of_eq g1.symm)
      have sz_b1 : h0.size ≤ b1 := Nat.le_trans (Keep.refl h0 []).1 (Nat.le_of_eq g1.symm)
      have XO__1 := XO.ext E1
      have hR1 := hR0.trans (CHr.ext E1 hC0)
      have hC1 := hR1.1
      have sz1 := Nat.le_trans Z0 E1.1
      have KP1 := (Keep.refl h0 []).ext E1
      have hk1 := Nat.le_trans hk0 E1.1
      have V1 : Arv Z h1 b1 k1 .char (1 : Int32) [(.int (0 : Int32))] (.int (0 : Int32)) := (Arv.new A1 (by decide)).pad (pad_rep [] (.int (0 : Int32)) 1)
      refine own_go (fun t k => st1 t k) ?_
      show own_Go p e below _ (T1.setTop (mkF m 28 #[.val (.int pr), .val (.int xc), .unset] [(.ref b1)]))
      refine own_go (fun t k => XS.astoreN X1.here hx rfl (hb hby dS_28) rfl rfl (l' := #[.val (.int pr), .val (.int xc), .val (.ref b1)]) rfl k) ?_
      show own_Go p e below _ (T1.setTop (mkF m 29 #[.val (.int pr), .val (.int xc), .val (.ref b1)] []))
      refine own_go (fun t k => XS.aloadN X1.here hx rfl (hb hby dS_29) rfl rfl k) ?_
      show own_Go p e below _ (T1.setTop (mkF m 30 #[.val (.int pr), .val (.int xc), .val (.ref b1)] [(.ref b1)]))
      refine own_go (fun t k => XS.iconst X1.here hx rfl (hb hby dS_30) k) ?_
      show own_Go p e below _ (T1.setTop (mkF m 31 #[.val (.int pr), .val (.int xc), .val (.ref b1)] [(.int (0 : Int32)), (.ref b1)]))
      refine own_go (fun t k => XS.iloadN X1.here hx rfl (hb hby dS_31) rfl k) ?_
      show own_Go p e below _ (T1.setTop (mkF m 32 #[.val (.int pr), .val (.int xc), .val (.ref b1)] [(.int xc), (.int (0 : Int32)), (.ref b1)]))
      refine own_go (fun t k => XS.sipush X1.here hx rfl (hb hby dS_32) k) ?_
      show own_Go p e below _ (T1.setTop (mkF m 35 #[.val (.int pr), .val (.int xc), .val (.ref b1)] [(.int (255 : Int32)), (.int xc), (.int (0 : Int32)), (.ref b1)]))
      refine own_go (fun t k => XS.iand X1.here hx rfl (hb hby dS_35) rfl k) ?_
      show own_Go p e below _ (T1.setTop (mkF m 36 #[.val (.int pr), .val (.int xc), .val (.ref b1)] [(.int (xc &&& (255 : Int32))), (.int (0 : Int32)), (.ref b1)]))
      refine own_go (fun t k => XS.i2c X1.here hx rfl (hb hby dS_36) rfl k) ?_
      show own_Go p e below _ (T1.setTop (mkF m 37 #[.val (.int pr), .val (.int xc), .val (.ref b1)] [(.int ((xc &&& (255 : Int32)).toUInt32.toUInt16.toUInt32.toInt32)), (.int (0 : Int32)), (.ref b1)]))
      obtain ⟨cl2, Ar2, qa2, Sa2, Na2, Ha2, Ga2⟩ := id V1
      have hin2 : ¬ ((0 : Int32) < 0 ∨ cl2.slots.size ≤ ((0 : Int32)).toNatClampNeg) := inb_of Sa2 ⟨by decide, by decide⟩
      obtain ⟨T2, h2, X2, e2, W2, st2⟩ := stC X1 hx hZ e1 Ar2 (j := (0 : Int32)) hin2 (g := (mkF m 37 #[.val (.int pr), .val (.int xc), .val (.ref b1)] [(.int ((xc &&& (255 : Int32)).toUInt32.toUInt16.toUInt32.toInt32)), (.int (0 : Int32)), (.ref b1)])) rfl rfl (hb hby dS_37)
      have Vw2 : Arv Z h2 b1 k1 .char (1 : Int32) [(.int (nar .char ((xc &&& (255 : Int32)).toUInt32.toUInt16.toUInt32.toInt32)))] (.int (0 : Int32)) := Arv.set Ar2 qa2 Sa2 Na2 Ha2 Ga2 (fits_nar_char _) W2 0 rfl (Nat.le_of_ble_eq_true rfl)
      have Sa2 : Safe Z own_EL s.vm h1 b1 := (Safe.arv hZ.alike V1 (by decide))
      have XO__2 := XO__1.wr W2 g_b1
      have hR2 := hR1.trans (CHr.wr W2 Sa2 hC1)
      have hC2 := hR2.1
      have N2 := Fr.snoc X2 N0 g_b1
      have KP2 := KP1.wr W2 (Or.inr sz_b1)
      have sz2 := Nat.le_trans sz1 (Keep.of_wr W2).1
      have hk2 := Nat.le_trans hk1 (Keep.of_wr W2).1
      refine own_go (fun t k => st2 t k) ?_
      show own_Go p e below _ (T2.setTop (mkF m 38 #[.val (.int pr), .val (.int xc), .val (.ref b1)] []))
      obtain ⟨T3, h3, X3, e3, E3, A3, D3, -, st3⟩ := newO X2 hx hZ hown (hw _ (List.mem_of_getElem? (i := 40) rfl)) (hw _ (List.mem_of_getElem? (i := 41) rfl)) (hw _ (List.mem_of_getElem? (i := 42) rfl)) e2 (g := (mkF m 38 #[.val (.int pr), .val (.int xc), .val (.ref b1)] [])) rfl (hb hby dS_38) (by decide) (by decide)
      obtain ⟨b3, g3⟩ : ∃ z, z = h2.size := ⟨_, rfl⟩
      rw [← g3] at A3 D3 st3
      have g_b3 : n0 ≤ b3 := Nat.le_trans sz2 (Nat.le_of_eq g3.symm)
      have sz_b3 : h0.size ≤ b3 := Nat.le_trans KP2.1 (Nat.le_of_eq g3.symm)
      have ne_b1_b3 : b1 ≠ b3 := Nat.ne_of_lt (Nat.lt_of_lt_of_le Vw2.lt (Nat.le_of_eq g3.symm))
      have XO__3 := XO__2.ext E3
      have Vw2__3 := Vw2.ext E3
      have hR3 := hR2.trans (CHr.ext E3 hC2)
      have hC3 := hR3.1
      have sz3 := Nat.le_trans sz2 E3.1
      have KP3 := KP2.ext E3
      have hk3 := Nat.le_trans hk2 E3.1
      have Zs3 : Safe Z own_EL s.vm h3 b3 := Safe.ext E3 hC2 (Safe.new (Nat.le_of_eq g3.symm))
      have F3_coder : Fld Z h3 b3 "java/lang/String" "coder" "B" (.int (0 : Int32)) := D3 (Or.inr (hw _ (List.mem_of_getElem? (i := 64) rfl))) (ty := .byte) (by decide)
      have F3_value : Fld Z h3 b3 "java/lang/String" "value" "[B" .null := D3 (Or.inr (hw _ (List.mem_of_getElem? (i := 66) rfl))) (ty := (.array .byte)) (by decide)
      refine own_go (fun t k => st3 t k) ?_
      show own_Go p e below _ (T3.setTop (mkF m 41 #[.val (.int pr), .val (.int xc), .val (.ref b1)] [(.ref b3)]))
      refine own_go (fun t k => XS.dup X3.here hx rfl (hb hby dS_41) rfl rfl k) ?_
      show own_Go p e below _ (T3.setTop (mkF m 42 #[.val (.int pr), .val (.int xc), .val (.ref b1)] [(.ref b3), (.ref b3)]))
      refine own_go (fun t k => XS.aloadN X3.here hx rfl (hb hby dS_42) rfl rfl k) ?_
      show own_Go p e below _ (T3.setTop (mkF m 43 #[.val (.int pr), .val (.int xc), .val (.ref b1)] [(.ref b1), (.ref b3), (.ref b3)]))
      obtain ⟨_, _, ⟨T4, L4, k4, n4⟩, -, X4, ⟨Lc4, hQ4, l4, y4, z4⟩, st4⟩ := X3.specialBack hx (y := (⟨"java/lang/String", "<init>", "([C)V"⟩ : MethodName)) rfl hown (mvT hZ (hw _ (List.mem_of_getElem? (i := 43) rfl))) (mvT hZ (hw _ (List.mem_of_getElem? (i := 44) rfl))) (mvT hZ (hw _ (List.mem_of_getElem? (i := 45) rfl))) (by decide) (backOf (W := 1) (rmL1e l Z a0 hw [] b3 b1 k1 cs (nar .char ((xc &&& (255 : Int32)).toUInt32.toUInt16.toUInt32.toInt32)) h3 n0 sz3 A3 F3_value F3_coder g_b3 ne_b1_b3 Vw2__3 SC hcs XO__3 (own_mask _)) hZ (hw _ (List.mem_of_getElem? (i := 45) rfl)) (hw _ (List.mem_of_getElem? (i := 42) rfl)) (by decide) (by decide)) (g := (mkF m 43 #[.val (.int pr), .val (.int xc), .val (.ref b1)] [(.ref b1), (.ref b3), (.ref b3)])) rfl (by rw [hml]; rfl) (Steps.refl _) (a := b3) (argsL := [(.ref b1)]) (rest := [(.ref b3)]) (lenOf pdS_0 rfl) rfl (by show 2 * 0 + _ ≤ _; exact Nat.le_of_eq rfl) (hb hby dS_43) (fun _ _ => ⟨rfl, e3, (by decide : 0 + 1 + 1 + 1 ≤ _), (by decide : 0 + 1 + 4 + 1 ≤ _)⟩)
      dsimp only [Pt.U, Pt.locs, Pt.cells, Pt.slots] at X4 l4 y4 z4 st4 hQ4
      subst l4 y4 z4
      obtain ⟨rfl, Nq4, K4, Fc4, d4, kd4, ge4, Fv4, A4⟩ := hQ4
      have N4 := Fr.app N2 Nq4
      refine own_go (fun t k => st4.trans k) ?_
      have g_d4 : n0 ≤ d4 := Nat.le_trans sz3 ge4
      have sz_d4 : h0.size ≤ d4 := Nat.le_trans KP3.1 ge4
      have ne_b1_d4 : b1 ≠ d4 := Nat.ne_of_lt (Nat.lt_of_lt_of_le Vw2__3.lt ge4)
      have ne_b3_d4 : b3 ≠ d4 := Nat.ne_of_lt (Nat.lt_of_lt_of_le A3.lt ge4)
      have XO__4 := XO__3.keep K4 (allS g_b3 all0)
      have Vw2__4 := Vw2__3.keep K4 (ninS ne_b1_b3 nin0)
      have A3__4 := A3.keep K4
      have Zs3__4 := Zs3.keep K4 (show ∀ y ∈ ([b3] : List Addr), Safe Z own_EL s.vm h3 y from (sfS Zs3 sf0)) hC3
      have hR4 := hR3.trans (CHr.keep K4 (show ∀ y ∈ ([b3] : List Addr), Safe Z own_EL s.vm h3 y from (sfS Zs3 sf0)) hC3)
      have hC4 := hR4.1
      have KP4 := KP3.trans K4 (allS (Or.inr sz_b3) all0)
      have sz4 := Nat.le_trans sz3 K4.1
      have hk4 := Nat.le_trans hk3 K4.1
      show own_Go p e below _ (T4.setTop (mkF m 46 #[.val (.int pr), .val (.int xc), .val (.ref b1)] [(.ref b3)]))
      have hF : CHr Z own_EL s.vm s.heap T4.vm T4.heap := by rw [hh]; exact hR4.trans (CHv.at X4 hZ hEL hC4)
      exact own_retAH X4 hx Bd.returns rfl rfl (hb hby dS_46) hS0 hk4 (⟨_, rfl, rfl, ⟨nofun, fun q => absurd q hc1⟩, N4, KP4⟩) (hF) (by decide) (by decide)
    · refine own_go (fun t k => XS.ifNo X0.here hx rfl (hb hby dS_11) rfl ((if0 _ _).trans (feq hc11).1) k) ?_
      show own_Go p e below _ (s₁.setTop (mkF m 14 #[.val (.int pr), .val (.int xc), .unset] []))
      obtain ⟨T5, h5, X5, e5, E5, A5, D5, -, st5⟩ := newO X0 hx hZ hown (hw _ (List.mem_of_getElem? (i := 40) rfl)) (hw _ (List.mem_of_getElem? (i := 41) rfl)) (hw _ (List.mem_of_getElem? (i := 42) rfl)) e0 (g := (mkF m 14 #[.val (.int pr), .val (.int xc), .unset] [])) rfl (hb hby dS_14) (by decide) (by decide)
      obtain ⟨b5, g5⟩ : ∃ z, z = h0.size := ⟨_, rfl⟩
      rw [← g5] at A5 D5 st5
      have g_b5 : n0 ≤ b5 := Nat.le_trans Z0 (Nat.le_of_eq g5.symm)
      have sz_b5 : h0.size ≤ b5 := Nat.le_trans (Keep.refl h0 []).1 (Nat.le_of_eq g5.symm)
      have XO__5 := XO.ext E5
      have hR5 := hR0.trans (CHr.ext E5 hC0)
      have hC5 := hR5.1
      have sz5 := Nat.le_trans Z0 E5.1
      have KP5 := (Keep.refl h0 []).ext E5
      have hk5 := Nat.le_trans hk0 E5.1
      have Zs5 : Safe Z own_EL s.vm h5 b5 := Safe.ext E5 hC0 (Safe.new (Nat.le_of_eq g5.symm))
      have F5_coder : Fld Z h5 b5 "java/lang/String" "coder" "B" (.int (0 : Int32)) := D5 (Or.inr (hw _ (List.mem_of_getElem? (i := 64) rfl))) (ty := .byte) (by decide)
      have F5_value : Fld Z h5 b5 "java/lang/String" "value" "[B" .null := D5 (Or.inr (hw _ (List.mem_of_getElem? (i := 66) rfl))) (ty := (.array .byte)) (by decide)
      refine own_go (fun t k => st5 t k) ?_
      show own_Go p e below _ (T5.setTop (mkF m 17 #[.val (.int pr), .val (.int xc), .unset] [(.ref b5)]))
      refine own_go (fun t k => XS.dup X5.here hx rfl (hb hby dS_17) rfl rfl k) ?_
      show own_Go p e below _ (T5.setTop (mkF m 18 #[.val (.int pr), .val (.int xc), .unset] [(.ref b5), (.ref b5)]))
      refine own_go (fun t k => XS.iconst X5.here hx rfl (hb hby dS_18) k) ?_
      show own_Go p e below _ (T5.setTop (mkF m 19 #[.val (.int pr), .val (.int xc), .unset] [(.int (0 : Int32)), (.ref b5), (.ref b5)]))
      obtain ⟨T6, h6, k6, X6, e6, E6, A6, st6⟩ := newP X5 hx hZ (hw _ (List.mem_of_getElem? (i := 39) rfl)) e5 (g := (mkF m 19 #[.val (.int pr), .val (.int xc), .unset] [(.int (0 : Int32)), (.ref b5), (.ref b5)])) rfl (hb hby dS_19) rfl (by decide) (cap := 0) (by decide) (by decide) (by decide) (by decide)
      obtain ⟨b6, g6⟩ : ∃ z, z = h5.size := ⟨_, rfl⟩
      rw [← g6] at A6 st6
      have g_b6 : n0 ≤ b6 := Nat.le_trans sz5 (Nat.le_of_eq g6.symm)
      have sz_b6 : h0.size ≤ b6 := Nat.le_trans KP5.1 (Nat.le_of_eq g6.symm)
      have ne_b5_b6 : b5 ≠ b6 := Nat.ne_of_lt (Nat.lt_of_lt_of_le A5.lt (Nat.le_of_eq g6.symm))
      have XO__6 := XO__5.ext E6
      have A5__6 := A5.ext E6
      have F5_coder__6 := F5_coder.ext E6
      have F5_value__6 := F5_value.ext E6
      have Zs5__6 := Zs5.ext E6 hC5
      have hR6 := hR5.trans (CHr.ext E6 hC5)
      have hC6 := hR6.1
      have sz6 := Nat.le_trans sz5 E6.1
      have KP6 := KP5.ext E6
      have hk6 := Nat.le_trans hk5 E6.1
      have V6 : Arv Z h6 b6 k6 .char (0 : Int32) [] (.int (0 : Int32)) := Arv.new A6 (by decide)
      refine own_go (fun t k => st6 t k) ?_
      show own_Go p e below _ (T6.setTop (mkF m 21 #[.val (.int pr), .val (.int xc), .unset] [(.ref b6), (.ref b5), (.ref b5)]))
      obtain ⟨_, _, ⟨T7, L7, k7, n7⟩, -, X7, hSq7, hgr7, ⟨Lc7, hQ7, l7, y7, z7, hC7⟩, st7⟩ := X6.specialBackS hx (y := (⟨"java/lang/String", "<init>", "([C)V"⟩ : MethodName)) rfl hown (mvT hZ (hw _ (List.mem_of_getElem? (i := 43) rfl))) (mvT hZ (hw _ (List.mem_of_getElem? (i := 44) rfl))) (mvT hZ (hw _ (List.mem_of_getElem? (i := 45) rfl))) (by decide) (own_backH (s := s) (W := 1) (rmEe l Z a0 hw [] b5 b6 k6 h6 n0 sz6 A5__6 F5_value__6 F5_coder__6 g_b5 V6) hZ (hw _ (List.mem_of_getElem? (i := 45) rfl)) (hw _ (List.mem_of_getElem? (i := 42) rfl)) (by decide) (by decide) hEL hC6 (allS ⟨A5__6.lt, Zs5__6⟩ all0)) (g := (mkF m 21 #[.val (.int pr), .val (.int xc), .unset] [(.ref b6), (.ref b5), (.ref b5)])) rfl (by rw [hml]; rfl) (Steps.refl _) (a := b5) (argsL := [(.ref b6)]) (rest := [(.ref b5)]) (lenOf pdS_0 rfl) rfl (by show 2 * 0 + _ ≤ _; exact Nat.le_of_eq rfl) (hb hby dS_21) (fun _ _ => ⟨rfl, e6, (by decide : 0 + 1 + 1 + 4 ≤ _), (by decide : 0 + 4 + 0 + 8 ≤ _)⟩)
      dsimp only [Pt.U, Pt.locs, Pt.cells, Pt.slots] at X7 l7 y7 z7 st7 hQ7 hSq7 hgr7 hC7
      subst l7 y7 z7
      obtain ⟨rfl, Nq7, K7, Fc7, d7, kd7, Fv7, A7⟩ := hQ7
      have N7 := Fr.app N0 Nq7
      refine own_go (fun t k => st7.trans k) ?_
      have hS7 := foldS (T := T6) hS0 (by rw [e6]; exact hk6) hSq7 hgr7
      have hZ7 : Z.Warmed39 T7.vm := State.Warmed39.trans (t := s.setVm s.vm) hZ hSq7.1
      have hown7 : T7.vm.findClass "com/example/tariff_reader/tariffreader/text/QualifiersOverlapsPinLaw" = some m.cls := by rw [hSq7.1.alike.findClass]; exact hown
      have hk7 := Nat.le_refl T7.heap.size
      replace X7 : Stand p l e ({ frames := 4, cells := 6, slots := 12, locals := 66 } : Room) (s.setVm T7.vm) m #[(.int pr), (.int xc)] below meth c T7 _ _ _ := X7
      have XO__7 := XO__6.keep K7 (allS g_b5 all0)
      have A5__7 := A5__6.keep K7
      have V6__7 := V6.keep K7 (ninS (Ne.symm ne_b5_b6) nin0)
      have Zs5__7 := hC7.safe A5__6.lt Zs5__6
      have hR7 := hR6.trans hC7
      have hD7 := hR7.1
      have KP7 := KP6.trans K7 (allS (Or.inr sz_b5) all0)
      have sz7 := Nat.le_trans sz6 K7.1
      show own_Go p e below _ (T7.setTop (mkF m 24 #[.val (.int pr), .val (.int xc), .unset] [(.ref b5)]))
      have hF : CHr Z own_EL s.vm s.heap T7.vm T7.heap := by rw [hh]; exact hR7.trans (CHv.at X7 hZ7 hEL hD7)
      exact own_retAH X7 hx Bd.returns rfl rfl (hb hby dS_24) hS7 hk7 (⟨_, rfl, rfl, ⟨nofun, fun q => absurd q hc1⟩, N7, KP7⟩) (hF) (by decide) (by decide)
theorem d5_0 : decode method_5_code 0 = .ok (.iload_n 0, 1) := by decide +kernel
theorem d5_1 : decode method_5_code 1 = .ok (.ifCond .ne 5, 3) := by decide +kernel
theorem d5_4 : decode method_5_code 4 = .ok (.aconst_null, 1) := by decide +kernel
theorem d5_5 : decode method_5_code 5 = .ok (.areturn, 1) := by decide +kernel
theorem d5_6 : decode method_5_code 6 = .ok (.iload_n 1, 1) := by decide +kernel
theorem d5_7 : decode method_5_code 7 = .ok (.ifCond .ne 7, 3) := by decide +kernel
theorem d5_10 : decode method_5_code 10 = .ok (.getstatic 39, 3) := by decide +kernel
theorem d5_13 : decode method_5_code 13 = .ok (.areturn, 1) := by decide +kernel
theorem d5_14 : decode method_5_code 14 = .ok (.iload_n 1, 1) := by decide +kernel
theorem d5_15 : decode method_5_code 15 = .ok (.iconst 1, 1) := by decide +kernel
theorem d5_16 : decode method_5_code 16 = .ok (.if_icmp .ne 7, 3) := by decide +kernel
theorem d5_19 : decode method_5_code 19 = .ok (.getstatic 45, 3) := by decide +kernel
theorem d5_22 : decode method_5_code 22 = .ok (.areturn, 1) := by decide +kernel
theorem d5_23 : decode method_5_code 23 = .ok (.getstatic 48, 3) := by decide +kernel
theorem d5_26 : decode method_5_code 26 = .ok (.areturn, 1) := by decide +kernel
theorem pn5 : plainName "com/example/tariff_reader/tariffreader/text/QualifiersOverlapsPinLaw" = true := by first | (simp [plainName, overriddenIn]; done) | decide +kernel
theorem ef5 (m : MethodId) (x0 : Int32) (x1 : Int32) : entryFrame m #[(.int x0), (.int x1)] 2 = mkF m 0 #[.val (.int x0), .val (.int x1)] [] := by first | (simp [entryFrame, mkF, argsToLocals, Value.category]; done) | rfl
def own_Qv (pr : Int32) (h0 : Heap) (n0 : Nat) (v : Option Value) (h : Heap) (L : List Loc) : Prop := ∃ w : Value, v = some w ∧ w.isRef = true ∧ (w = .null ↔ pr = 0) ∧ Fr n0 L ∧ h = h0
set_option maxRecDepth 65536 in
set_option maxHeartbeats 40000000 in
theorem rm5 (l : Launch) (Z : State) (a0 : Array Value) (hw : ∀ d ∈ tables_1, d.before a0 Z = true) (ws : List Jvm.Cond) (pr xc : Int32) (h0 : Heap) (n0 : Nat) (Z0 : n0 ≤ h0.size) (XO : Old Z n0 h0) (WW : own_W Z) :
    MetFree l (⟨"com/example/tariff_reader/tariffreader/text/QualifiersOverlapsPinLaw", "dir", "(ZI)Lcom/example/tariff_reader/tariffreader/model/Direction;"⟩ : MethodName) (head1 (Jvm.Cond.code (⟨"com/example/tariff_reader/tariffreader/text/QualifiersOverlapsPinLaw", "dir", "(ZI)Lcom/example/tariff_reader/tariffreader/model/Direction;"⟩ : MethodName) method_5_code 2 (some (.object "com/example/tariff_reader/tariffreader/model/Direction")) :: ws) ({ frames := 0, cells := 0, slots := 0, locals := 0 } : Room)) (fun a U => a = #[(.int pr), (.int xc)] ∧ Z.Warmed39 U.vm ∧ U.heap = h0) (fun _ _ _ _ _ => True) (fun _ U o U' => ∃ v L, o = .returned v ∧ own_Qv pr h0 n0 v U'.heap L ∧ FrameEnd U o U' L ({ frames := 0, cells := 0, slots := 0, locals := 0 } : Room).cells ({ frames := 0, cells := 0, slots := 0, locals := 0 } : Room).slots) := by
  refine MetFree.of_bodySF (plainFor_of_name pn5) hisR ?_
  intro p e s m args below meth c s₁ Bd hml0 hP hK
  obtain ⟨rfl, hZ, hh⟩ := hP
  have hx := Bd.exec
  have hby := Bd.bytes
  have hml : c.maxLocals = 2 := hml0
  have hown : s.vm.findClass "com/example/tariff_reader/tariffreader/text/QualifiersOverlapsPinLaw" = some m.cls := findClass_of_methodNamed Bd.named
  have hnm := (name_of_methodNamed Bd.named Bd.method).1
  have hlk : meth.locks = false := Bd.notSynchronized
  have X0 : Stand p l e ({ frames := 0, cells := 0, slots := 0, locals := 0 } : Room) s m #[(.int pr), (.int xc)] below meth c s₁ [] 0 0 := Stand.of_body Bd
  have e0 : s₁.heap = h0 := by rw [← hh, Bd.state]; rfl
  have N0 := Fr.nil n0
  refine own_go (fun t k => castTop (ef5 m pr xc) k) ?_
  obtain ⟨⟨cs, hcs, SC⟩, ⟨aMINUTE_MILE, SMINUTE_MILE⟩, ⟨aMINUTE, SMINUTE⟩, ⟨aQUERY, SQUERY⟩, ⟨aMONTH, SMONTH⟩, ⟨aOCCURRENCE, SOCCURRENCE⟩, ⟨aORIGINATING, SORIGINATING⟩, ⟨aTERMINATING, STERMINATING⟩, ⟨aBOTH, SBOTH⟩⟩ := id WW
  show own_Go p e below _ (s₁.setTop (mkF m 0 #[.val (.int pr), .val (.int xc)] []))
  refine own_go (fun t k => XS.iloadN X0.here hx rfl (hb hby d5_0) rfl k) ?_
  show own_Go p e below _ (s₁.setTop (mkF m 1 #[.val (.int pr), .val (.int xc)] [(.int pr)]))
  by_cases hc1 : pr = (0 : Int32)
  · refine own_go (fun t k => XS.ifNo X0.here hx rfl (hb hby d5_1) rfl ((if0 _ _).trans (teq hc1).2) k) ?_
    show own_Go p e below _ (s₁.setTop (mkF m 4 #[.val (.int pr), .val (.int xc)] []))
    refine own_go (fun t k => XS.aconstNull X0.here hx rfl (hb hby d5_4) k) ?_
    show own_Go p e below _ (s₁.setTop (mkF m 5 #[.val (.int pr), .val (.int xc)] [.null]))
    exact own_retA X0 hx Bd.returns rfl rfl (hb hby d5_5) (by rw [e0]; exact ⟨_, rfl, rfl, ⟨fun _ => hc1, fun _ => rfl⟩, N0, rfl⟩) (by decide) (by decide)
  · refine own_go (fun t k => XS.ifYes X0.here hx rfl (pc0 := 1) (pc' := 6) rfl (hb hby d5_1) rfl ((if0 _ _).trans (feq hc1).2) (by decide) (by decide) k) ?_
    show own_Go p e below _ (s₁.setTop (mkF m 6 #[.val (.int pr), .val (.int xc)] []))
    refine own_go (fun t k => XS.iloadN X0.here hx rfl (hb hby d5_6) rfl k) ?_
    show own_Go p e below _ (s₁.setTop (mkF m 7 #[.val (.int pr), .val (.int xc)] [(.int xc)]))
    by_cases hc7 : xc = (0 : Int32)
    · refine own_go (fun t k => XS.ifNo X0.here hx rfl (hb hby d5_7) rfl ((if0 _ _).trans (teq hc7).2) k) ?_
      show own_Go p e below _ (s₁.setTop (mkF m 10 #[.val (.int pr), .val (.int xc)] []))
      obtain ⟨T1, X1, e1, st1⟩ := getS2 X0 hx hZ hown (host := "") (Or.inl (hw _ (List.mem_of_getElem? (i := 70) rfl))) Via.refl e0 (SORIGINATING.ext XO.2) (g := (mkF m 10 #[.val (.int pr), .val (.int xc)] [])) rfl (hb hby d5_10)
      refine own_go (fun t k => st1 t k) ?_
      show own_Go p e below _ (T1.setTop (mkF m 13 #[.val (.int pr), .val (.int xc)] [(.ref aORIGINATING)]))
      exact own_retA X1 hx Bd.returns rfl rfl (hb hby d5_13) (by rw [e1]; exact ⟨_, rfl, rfl, ⟨nofun, fun q => absurd q hc1⟩, N0, rfl⟩) (by decide) (by decide)
    · refine own_go (fun t k => XS.ifYes X0.here hx rfl (pc0 := 7) (pc' := 14) rfl (hb hby d5_7) rfl ((if0 _ _).trans (feq hc7).2) (by decide) (by decide) k) ?_
      show own_Go p e below _ (s₁.setTop (mkF m 14 #[.val (.int pr), .val (.int xc)] []))
      refine own_go (fun t k => XS.iloadN X0.here hx rfl (hb hby d5_14) rfl k) ?_
      show own_Go p e below _ (s₁.setTop (mkF m 15 #[.val (.int pr), .val (.int xc)] [(.int xc)]))
      refine own_go (fun t k => XS.iconst X0.here hx rfl (hb hby d5_15) k) ?_
      show own_Go p e below _ (s₁.setTop (mkF m 16 #[.val (.int pr), .val (.int xc)] [(.int (1 : Int32)), (.int xc)]))
      by_cases hc16 : xc = (1 : Int32)
      · refine own_go (fun t k => XS.icmpNo X0.here hx rfl (hb hby d5_16) rfl (teq hc16).2 k) ?_
        show own_Go p e below _ (s₁.setTop (mkF m 19 #[.val (.int pr), .val (.int xc)] []))
        obtain ⟨T2, X2, e2, st2⟩ := getS2 X0 hx hZ hown (host := "") (Or.inl (hw _ (List.mem_of_getElem? (i := 86) rfl))) Via.refl e0 (STERMINATING.ext XO.2) (g := (mkF m 19 #[.val (.int pr), .val (.int xc)] [])) rfl (hb hby d5_19)
        refine own_go (fun t k => st2 t k) ?_
        show own_Go p e below _ (T2.setTop (mkF m 22 #[.val (.int pr), .val (.int xc)] [(.ref aTERMINATING)]))
        exact own_retA X2 hx Bd.returns rfl rfl (hb hby d5_22) (by rw [e2]; exact ⟨_, rfl, rfl, ⟨nofun, fun q => absurd q hc1⟩, N0, rfl⟩) (by decide) (by decide)
      · refine own_go (fun t k => XS.icmpYes X0.here hx rfl (pc0 := 16) (pc' := 23) rfl (hb hby d5_16) rfl (feq hc16).2 (by decide) (by decide) k) ?_
        show own_Go p e below _ (s₁.setTop (mkF m 23 #[.val (.int pr), .val (.int xc)] []))
        obtain ⟨T3, X3, e3, st3⟩ := getS2 X0 hx hZ hown (host := "") (Or.inl (hw _ (List.mem_of_getElem? (i := 67) rfl))) Via.refl e0 (SBOTH.ext XO.2) (g := (mkF m 23 #[.val (.int pr), .val (.int xc)] [])) rfl (hb hby d5_23)
        refine own_go (fun t k => st3 t k) ?_
        show own_Go p e below _ (T3.setTop (mkF m 26 #[.val (.int pr), .val (.int xc)] [(.ref aBOTH)]))
        exact own_retA X3 hx Bd.returns rfl rfl (hb hby d5_26) (by rw [e3]; exact ⟨_, rfl, rfl, ⟨nofun, fun q => absurd q hc1⟩, N0, rfl⟩) (by decide) (by decide)
theorem d6_0 : decode method_6_code 0 = .ok (.iload_n 0, 1) := by decide +kernel
theorem d6_1 : decode method_6_code 1 = .ok (.ifCond .ne 5, 3) := by decide +kernel
theorem d6_4 : decode method_6_code 4 = .ok (.aconst_null, 1) := by decide +kernel
theorem d6_5 : decode method_6_code 5 = .ok (.areturn, 1) := by decide +kernel
theorem d6_6 : decode method_6_code 6 = .ok (.iload_n 1, 1) := by decide +kernel
theorem d6_7 : decode method_6_code 7 = .ok (.ifCond .ne 7, 3) := by decide +kernel
theorem d6_10 : decode method_6_code 10 = .ok (.getstatic 51, 3) := by decide +kernel
theorem d6_13 : decode method_6_code 13 = .ok (.areturn, 1) := by decide +kernel
theorem d6_14 : decode method_6_code 14 = .ok (.iload_n 1, 1) := by decide +kernel
theorem d6_15 : decode method_6_code 15 = .ok (.iconst 1, 1) := by decide +kernel
theorem d6_16 : decode method_6_code 16 = .ok (.if_icmp .ne 7, 3) := by decide +kernel
theorem d6_19 : decode method_6_code 19 = .ok (.getstatic 57, 3) := by decide +kernel
theorem d6_22 : decode method_6_code 22 = .ok (.areturn, 1) := by decide +kernel
theorem d6_23 : decode method_6_code 23 = .ok (.iload_n 1, 1) := by decide +kernel
theorem d6_24 : decode method_6_code 24 = .ok (.iconst 2, 1) := by decide +kernel
theorem d6_25 : decode method_6_code 25 = .ok (.if_icmp .ne 7, 3) := by decide +kernel
theorem d6_28 : decode method_6_code 28 = .ok (.getstatic 60, 3) := by decide +kernel
theorem d6_31 : decode method_6_code 31 = .ok (.areturn, 1) := by decide +kernel
theorem d6_32 : decode method_6_code 32 = .ok (.iload_n 1, 1) := by decide +kernel
theorem d6_33 : decode method_6_code 33 = .ok (.iconst 3, 1) := by decide +kernel
theorem d6_34 : decode method_6_code 34 = .ok (.if_icmp .ne 7, 3) := by decide +kernel
theorem d6_37 : decode method_6_code 37 = .ok (.getstatic 63, 3) := by decide +kernel
theorem d6_40 : decode method_6_code 40 = .ok (.areturn, 1) := by decide +kernel
theorem d6_41 : decode method_6_code 41 = .ok (.getstatic 66, 3) := by decide +kernel
theorem d6_44 : decode method_6_code 44 = .ok (.areturn, 1) := by decide +kernel
theorem pn6 : plainName "com/example/tariff_reader/tariffreader/text/QualifiersOverlapsPinLaw" = true := by first | (simp [plainName, overriddenIn]; done) | decide +kernel
theorem ef6 (m : MethodId) (x0 : Int32) (x1 : Int32) : entryFrame m #[(.int x0), (.int x1)] 2 = mkF m 0 #[.val (.int x0), .val (.int x1)] [] := by first | (simp [entryFrame, mkF, argsToLocals, Value.category]; done) | rfl
set_option maxRecDepth 65536 in
set_option maxHeartbeats 40000000 in
theorem rm6 (l : Launch) (Z : State) (a0 : Array Value) (hw : ∀ d ∈ tables_1, d.before a0 Z = true) (ws : List Jvm.Cond) (pr xc : Int32) (h0 : Heap) (n0 : Nat) (Z0 : n0 ≤ h0.size) (XO : Old Z n0 h0) (WW : own_W Z) :
    MetFree l (⟨"com/example/tariff_reader/tariffreader/text/QualifiersOverlapsPinLaw", "unit", "(ZI)Lcom/example/tariff_reader/tariffreader/model/Unit;"⟩ : MethodName) (head1 (Jvm.Cond.code (⟨"com/example/tariff_reader/tariffreader/text/QualifiersOverlapsPinLaw", "unit", "(ZI)Lcom/example/tariff_reader/tariffreader/model/Unit;"⟩ : MethodName) method_6_code 2 (some (.object "com/example/tariff_reader/tariffreader/model/Unit")) :: ws) ({ frames := 0, cells := 0, slots := 0, locals := 0 } : Room)) (fun a U => a = #[(.int pr), (.int xc)] ∧ Z.Warmed39 U.vm ∧ U.heap = h0) (fun _ _ _ _ _ => True) (fun _ U o U' => ∃ v L, o = .returned v ∧ own_Qv pr h0 n0 v U'.heap L ∧ FrameEnd U o U' L ({ frames := 0, cells := 0, slots := 0, locals := 0 } : Room).cells ({ frames := 0, cells := 0, slots := 0, locals := 0 } : Room).slots) := by
  refine MetFree.of_bodySF (plainFor_of_name pn6) hisR ?_
  intro p e s m args below meth c s₁ Bd hml0 hP hK
  obtain ⟨rfl, hZ, hh⟩ := hP
  have hx := Bd.exec
  have hby := Bd.bytes
  have hml : c.maxLocals = 2 := hml0
  have hown : s.vm.findClass "com/example/tariff_reader/tariffreader/text/QualifiersOverlapsPinLaw" = some m.cls := findClass_of_methodNamed Bd.named
  have hnm := (name_of_methodNamed Bd.named Bd.method).1
  have hlk : meth.locks = false := Bd.notSynchronized
  have X0 : Stand p l e ({ frames := 0, cells := 0, slots := 0, locals := 0 } : Room) s m #[(.int pr), (.int xc)] below meth c s₁ [] 0 0 := Stand.of_body Bd
  have e0 : s₁.heap = h0 := by rw [← hh, Bd.state]; rfl
  have N0 := Fr.nil n0
  refine own_go (fun t k => castTop (ef6 m pr xc) k) ?_
  obtain ⟨⟨cs, hcs, SC⟩, ⟨aMINUTE_MILE, SMINUTE_MILE⟩, ⟨aMINUTE, SMINUTE⟩, ⟨aQUERY, SQUERY⟩, ⟨aMONTH, SMONTH⟩, ⟨aOCCURRENCE, SOCCURRENCE⟩, ⟨aORIGINATING, SORIGINATING⟩, ⟨aTERMINATING, STERMINATING⟩, ⟨aBOTH, SBOTH⟩⟩ := id WW
  show own_Go p e below _ (s₁.setTop (mkF m 0 #[.val (.int pr), .val (.int xc)] []))
  refine own_go (fun t k => XS.iloadN X0.here hx rfl (hb hby d6_0) rfl k) ?_
  show own_Go p e below _ (s₁.setTop (mkF m 1 #[.val (.int pr), .val (.int xc)] [(.int pr)]))
  by_cases hc1 : pr = (0 : Int32)
  · refine own_go (fun t k => XS.ifNo X0.here hx rfl (hb hby d6_1) rfl ((if0 _ _).trans (teq hc1).2) k) ?_
    show own_Go p e below _ (s₁.setTop (mkF m 4 #[.val (.int pr), .val (.int xc)] []))
    refine own_go (fun t k => XS.aconstNull X0.here hx rfl (hb hby d6_4) k) ?_
    show own_Go p e below _ (s₁.setTop (mkF m 5 #[.val (.int pr), .val (.int xc)] [.null]))
    exact own_retA X0 hx Bd.returns rfl rfl (hb hby d6_5) (by rw [e0]; exact ⟨_, rfl, rfl, ⟨fun _ => hc1, fun _ => rfl⟩, N0, rfl⟩) (by decide) (by decide)
  · refine own_go (fun t k => XS.ifYes X0.here hx rfl (pc0 := 1) (pc' := 6) rfl (hb hby d6_1) rfl ((if0 _ _).trans (feq hc1).2) (by decide) (by decide) k) ?_
    show own_Go p e below _ (s₁.setTop (mkF m 6 #[.val (.int pr), .val (.int xc)] []))
    refine own_go (fun t k => XS.iloadN X0.here hx rfl (hb hby d6_6) rfl k) ?_
    show own_Go p e below _ (s₁.setTop (mkF m 7 #[.val (.int pr), .val (.int xc)] [(.int xc)]))
    by_cases hc7 : xc = (0 : Int32)
    · refine own_go (fun t k => XS.ifNo X0.here hx rfl (hb hby d6_7) rfl ((if0 _ _).trans (teq hc7).2) k) ?_
      show own_Go p e below _ (s₁.setTop (mkF m 10 #[.val (.int pr), .val (.int xc)] []))
      obtain ⟨T1, X1, e1, st1⟩ := getS2 X0 hx hZ hown (host := "") (Or.inl (hw _ (List.mem_of_getElem? (i := 72) rfl))) Via.refl e0 (SMINUTE_MILE.ext XO.2) (g := (mkF m 10 #[.val (.int pr), .val (.int xc)] [])) rfl (hb hby d6_10)
      refine own_go (fun t k => st1 t k) ?_
      show own_Go p e below _ (T1.setTop (mkF m 13 #[.val (.int pr), .val (.int xc)] [(.ref aMINUTE_MILE)]))
      exact own_retA X1 hx Bd.returns rfl rfl (hb hby d6_13) (by rw [e1]; exact ⟨_, rfl, rfl, ⟨nofun, fun q => absurd q hc1⟩, N0, rfl⟩) (by decide) (by decide)
    · refine own_go (fun t k => XS.ifYes X0.here hx rfl (pc0 := 7) (pc' := 14) rfl (hb hby d6_7) rfl ((if0 _ _).trans (feq hc7).2) (by decide) (by decide) k) ?_
      show own_Go p e below _ (s₁.setTop (mkF m 14 #[.val (.int pr), .val (.int xc)] []))
      refine own_go (fun t k => XS.iloadN X0.here hx rfl (hb hby d6_14) rfl k) ?_
      show own_Go p e below _ (s₁.setTop (mkF m 15 #[.val (.int pr), .val (.int xc)] [(.int xc)]))
      refine own_go (fun t k => XS.iconst X0.here hx rfl (hb hby d6_15) k) ?_
      show own_Go p e below _ (s₁.setTop (mkF m 16 #[.val (.int pr), .val (.int xc)] [(.int (1 : Int32)), (.int xc)]))
      by_cases hc16 : xc = (1 : Int32)
      · refine own_go (fun t k => XS.icmpNo X0.here hx rfl (hb hby d6_16) rfl (teq hc16).2 k) ?_
        show own_Go p e below _ (s₁.setTop (mkF m 19 #[.val (.int pr), .val (.int xc)] []))
        obtain ⟨T2, X2, e2, st2⟩ := getS2 X0 hx hZ hown (host := "") (Or.inl (hw _ (List.mem_of_getElem? (i := 78) rfl))) Via.refl e0 (SMINUTE.ext XO.2) (g := (mkF m 19 #[.val (.int pr), .val (.int xc)] [])) rfl (hb hby d6_19)
        refine own_go (fun t k => st2 t k) ?_
        show own_Go p e below _ (T2.setTop (mkF m 22 #[.val (.int pr), .val (.int xc)] [(.ref aMINUTE)]))
        exact own_retA X2 hx Bd.returns rfl rfl (hb hby d6_22) (by rw [e2]; exact ⟨_, rfl, rfl, ⟨nofun, fun q => absurd q hc1⟩, N0, rfl⟩) (by decide) (by decide)
      · refine own_go (fun t k => XS.icmpYes X0.here hx rfl (pc0 := 16) (pc' := 23) rfl (hb hby d6_16) rfl (feq hc16).2 (by decide) (by decide) k) ?_
        show own_Go p e below _ (s₁.setTop (mkF m 23 #[.val (.int pr), .val (.int xc)] []))
        refine own_go (fun t k => XS.iloadN X0.here hx rfl (hb hby d6_23) rfl k) ?_
        show own_Go p e below _ (s₁.setTop (mkF m 24 #[.val (.int pr), .val (.int xc)] [(.int xc)]))
        refine own_go (fun t k => XS.iconst X0.here hx rfl (hb hby d6_24) k) ?_
        show own_Go p e below _ (s₁.setTop (mkF m 25 #[.val (.int pr), .val (.int xc)] [(.int (2 : Int32)), (.int xc)]))
        by_cases hc25 : xc = (2 : Int32)
        · refine own_go (fun t k => XS.icmpNo X0.here hx rfl (hb hby d6_25) rfl (teq hc25).2 k) ?_
          show own_Go p e below _ (s₁.setTop (mkF m 28 #[.val (.int pr), .val (.int xc)] []))
          obtain ⟨T3, X3, e3, st3⟩ := getS2 X0 hx hZ hown (host := "") (Or.inl (hw _ (List.mem_of_getElem? (i := 84) rfl))) Via.refl e0 (SQUERY.ext XO.2) (g := (mkF m 28 #[.val (.int pr), .val (.int xc)] [])) rfl (hb hby d6_28)
          refine own_go (fun t k => st3 t k) ?_
          show own_Go p e below _ (T3.setTop (mkF m 31 #[.val (.int pr), .val (.int xc)] [(.ref aQUERY)]))
          exact own_retA X3 hx Bd.returns rfl rfl (hb hby d6_31) (by rw [e3]; exact ⟨_, rfl, rfl, ⟨nofun, fun q => absurd q hc1⟩, N0, rfl⟩) (by decide) (by decide)
        · refine own_go (fun t k => XS.icmpYes X0.here hx rfl (pc0 := 25) (pc' := 32) rfl (hb hby d6_25) rfl (feq hc25).2 (by decide) (by decide) k) ?_
          show own_Go p e below _ (s₁.setTop (mkF m 32 #[.val (.int pr), .val (.int xc)] []))
          refine own_go (fun t k => XS.iloadN X0.here hx rfl (hb hby d6_32) rfl k) ?_
          show own_Go p e below _ (s₁.setTop (mkF m 33 #[.val (.int pr), .val (.int xc)] [(.int xc)]))
          refine own_go (fun t k => XS.iconst X0.here hx rfl (hb hby d6_33) k) ?_
          show own_Go p e below _ (s₁.setTop (mkF m 34 #[.val (.int pr), .val (.int xc)] [(.int (3 : Int32)), (.int xc)]))
          by_cases hc34 : xc = (3 : Int32)
          · refine own_go (fun t k => XS.icmpNo X0.here hx rfl (hb hby d6_34) rfl (teq hc34).2 k) ?_
            show own_Go p e below _ (s₁.setTop (mkF m 37 #[.val (.int pr), .val (.int xc)] []))
            obtain ⟨T4, X4, e4, st4⟩ := getS2 X0 hx hZ hown (host := "") (Or.inl (hw _ (List.mem_of_getElem? (i := 82) rfl))) Via.refl e0 (SMONTH.ext XO.2) (g := (mkF m 37 #[.val (.int pr), .val (.int xc)] [])) rfl (hb hby d6_37)
            refine own_go (fun t k => st4 t k) ?_
            show own_Go p e below _ (T4.setTop (mkF m 40 #[.val (.int pr), .val (.int xc)] [(.ref aMONTH)]))
            exact own_retA X4 hx Bd.returns rfl rfl (hb hby d6_40) (by rw [e4]; exact ⟨_, rfl, rfl, ⟨nofun, fun q => absurd q hc1⟩, N0, rfl⟩) (by decide) (by decide)
          · refine own_go (fun t k => XS.icmpYes X0.here hx rfl (pc0 := 34) (pc' := 41) rfl (hb hby d6_34) rfl (feq hc34).2 (by decide) (by decide) k) ?_
            show own_Go p e below _ (s₁.setTop (mkF m 41 #[.val (.int pr), .val (.int xc)] []))
            obtain ⟨T5, X5, e5, st5⟩ := getS2 X0 hx hZ hown (host := "") (Or.inl (hw _ (List.mem_of_getElem? (i := 80) rfl))) Via.refl e0 (SOCCURRENCE.ext XO.2) (g := (mkF m 41 #[.val (.int pr), .val (.int xc)] [])) rfl (hb hby d6_41)
            refine own_go (fun t k => st5 t k) ?_
            show own_Go p e below _ (T5.setTop (mkF m 44 #[.val (.int pr), .val (.int xc)] [(.ref aOCCURRENCE)]))
            exact own_retA X5 hx Bd.returns rfl rfl (hb hby d6_44) (by rw [e5]; exact ⟨_, rfl, rfl, ⟨nofun, fun q => absurd q hc1⟩, N0, rfl⟩) (by decide) (by decide)
theorem d7_0 : decode prog_63_method_1_code 0 = .ok (.aload_n 0, 1) := by decide +kernel
theorem d7_1 : decode prog_63_method_1_code 1 = .ok (.invokespecial 1, 3) := by decide +kernel
theorem d7_4 : decode prog_63_method_1_code 4 = .ok (.aload_n 0, 1) := by decide +kernel
theorem d7_5 : decode prog_63_method_1_code 5 = .ok (.aload_n 1, 1) := by decide +kernel
theorem d7_6 : decode prog_63_method_1_code 6 = .ok (.putfield 7, 3) := by decide +kernel
theorem d7_9 : decode prog_63_method_1_code 9 = .ok (.aload_n 0, 1) := by decide +kernel
theorem d7_10 : decode prog_63_method_1_code 10 = .ok (.aload_n 2, 1) := by decide +kernel
theorem d7_11 : decode prog_63_method_1_code 11 = .ok (.putfield 13, 3) := by decide +kernel
theorem d7_14 : decode prog_63_method_1_code 14 = .ok (.aload_n 0, 1) := by decide +kernel
theorem d7_15 : decode prog_63_method_1_code 15 = .ok (.aload_n 3, 1) := by decide +kernel
theorem d7_16 : decode prog_63_method_1_code 16 = .ok (.putfield 16, 3) := by decide +kernel
theorem d7_19 : decode prog_63_method_1_code 19 = .ok (.aload_n 0, 1) := by decide +kernel
theorem d7_20 : decode prog_63_method_1_code 20 = .ok (.aload 4, 2) := by decide +kernel
theorem d7_22 : decode prog_63_method_1_code 22 = .ok (.putfield 19, 3) := by decide +kernel
theorem d7_25 : decode prog_63_method_1_code 25 = .ok (.aload_n 0, 1) := by decide +kernel
theorem d7_26 : decode prog_63_method_1_code 26 = .ok (.aload 5, 2) := by decide +kernel
theorem d7_28 : decode prog_63_method_1_code 28 = .ok (.putfield 23, 3) := by decide +kernel
theorem d7_31 : decode prog_63_method_1_code 31 = .ok (.aload_n 0, 1) := by decide +kernel
theorem d7_32 : decode prog_63_method_1_code 32 = .ok (.aload 6, 2) := by decide +kernel
theorem d7_34 : decode prog_63_method_1_code 34 = .ok (.putfield 26, 3) := by decide +kernel
theorem d7_37 : decode prog_63_method_1_code 37 = .ok (.return_, 1) := by decide +kernel
theorem pn7 : plainName "com/example/tariff_reader/tariffreader/text/Qualifiers" = true := by first | (simp [plainName, overriddenIn]; done) | decide +kernel
theorem ef7 (m : MethodId) (x0 : Addr) (x1 : Value) (x2 : Value) (x3 : Value) (x4 : Value) (x5 : Value) (x6 : Value) (r_x1 : x1.isRef = true) (r_x2 : x2.isRef = true) (r_x3 : x3.isRef = true) (r_x4 : x4.isRef = true) (r_x5 : x5.isRef = true) (r_x6 : x6.isRef = true) : entryFrame m #[(.ref x0), x1, x2, x3, x4, x5, x6] 7 = mkF m 0 #[.val (.ref x0), .val x1, .val x2, .val x3, .val x4, .val x5, .val x6] [] := by
  have c_x1 := own_cat1 r_x1
  have c_x2 := own_cat1 r_x2
  have c_x3 := own_cat1 r_x3
  have c_x4 := own_cat1 r_x4
  have c_x5 := own_cat1 r_x5
  have c_x6 := own_cat1 r_x6
  simp [entryFrame, mkF, argsToLocals, own_catR, own_catI, own_catJ, own_catN, c_x1, c_x2, c_x3, c_x4, c_x5, c_x6]
def own_Q7 (Z : State) (a : Addr) (v1 v2 v3 v4 v5 v6 : Value) (h0 : Heap) (n0 : Nat) (v : Option Value) (h : Heap) (L : List Loc) : Prop := v = none ∧ Fr n0 L ∧ Keep h0 h [a] ∧ own_Ql Z h a v1 v2 v3 v4 v5 v6
set_option maxRecDepth 65536 in
set_option maxHeartbeats 40000000 in
theorem rm7 (l : Launch) (Z : State) (a0 : Array Value) (hw : ∀ d ∈ tables_1, d.before a0 Z = true) (ws : List Jvm.Cond) (oa : Addr) (v1 v2 v3 v4 v5 v6 : Value) (h0 : Heap) (n0 : Nat) (Z0 : n0 ≤ h0.size) (G : own_Ql Z h0 oa .null .null .null .null .null .null) (g_oa : n0 ≤ oa) (r_v1 : v1.isRef = true) (r_v2 : v2.isRef = true) (r_v3 : v3.isRef = true) (r_v4 : v4.isRef = true) (r_v5 : v5.isRef = true) (r_v6 : v6.isRef = true) :
    MetFree l (⟨"com/example/tariff_reader/tariffreader/text/Qualifiers", "<init>", "(Ljava/lang/String;Ljava/lang/String;Ljava/lang/String;Lcom/example/tariff_reader/tariffreader/model/Direction;Ljava/lang/String;Lcom/example/tariff_reader/tariffreader/model/Unit;)V"⟩ : MethodName) (head1 (Jvm.Cond.code (⟨"com/example/tariff_reader/tariffreader/text/Qualifiers", "<init>", "(Ljava/lang/String;Ljava/lang/String;Ljava/lang/String;Lcom/example/tariff_reader/tariffreader/model/Direction;Ljava/lang/String;Lcom/example/tariff_reader/tariffreader/model/Unit;)V"⟩ : MethodName) prog_63_method_1_code 7 none :: ws) ({ frames := 1, cells := 0, slots := 0, locals := 12 } : Room)) (fun a U => a = #[(.ref oa), v1, v2, v3, v4, v5, v6] ∧ Z.Warmed39 U.vm ∧ U.heap = h0) (fun _ _ _ _ _ => True) (fun _ U o U' => ∃ v L, o = .returned v ∧ own_Q7 Z oa v1 v2 v3 v4 v5 v6 h0 n0 v U'.heap L ∧ FrameEnd U o U' L ({ frames := 1, cells := 0, slots := 0, locals := 12 } : Room).cells ({ frames := 1, cells := 0, slots := 0, locals := 12 } : Room).slots) := by
  refine MetFree.of_bodySF (plainFor_of_name pn7) hisR ?_
  intro p e s m args below meth c s₁ Bd hml0 hP hK
  obtain ⟨rfl, hZ, hh⟩ := hP
  have hx := Bd.exec
  have hby := Bd.bytes
  have hml : c.maxLocals = 7 := hml0
  have hown : s.vm.findClass "com/example/tariff_reader/tariffreader/text/Qualifiers" = some m.cls := findClass_of_methodNamed Bd.named
  have hnm := (name_of_methodNamed Bd.named Bd.method).1
  have hlk : meth.locks = false := Bd.notSynchronized
  have X0 : Stand p l e ({ frames := 1, cells := 0, slots := 0, locals := 12 } : Room) s m #[(.ref oa), v1, v2, v3, v4, v5, v6] below meth c s₁ [] 0 0 := Stand.of_body Bd
  have e0 : s₁.heap = h0 := by rw [← hh, Bd.state]; rfl
  have N0 := Fr.nil n0
  refine own_go (fun t k => castTop (ef7 m oa v1 v2 v3 v4 v5 v6 r_v1 r_v2 r_v3 r_v4 r_v5 r_v6) k) ?_
  obtain ⟨Ea, Farea, Fschedule, Ftraffic, Fdirection, Fband, Funit⟩ := G
  show own_Go p e below _ (s₁.setTop (mkF m 0 #[.val (.ref oa), .val v1, .val v2, .val v3, .val v4, .val v5, .val v6] []))
  refine own_go (fun t k => XS.aloadN X0.here hx rfl (hb hby d7_0) rfl rfl k) ?_
  show own_Go p e below _ (s₁.setTop (mkF m 1 #[.val (.ref oa), .val v1, .val v2, .val v3, .val v4, .val v5, .val v6] [(.ref oa)]))
  obtain ⟨T2, X2, e2, st2⟩ := initO X0 hx hZ hown (hw _ (List.mem_of_getElem? (i := 19) rfl)) (hw _ (List.mem_of_getElem? (i := 20) rfl)) (hw _ (List.mem_of_getElem? (i := 21) rfl)) e0 (g := (mkF m 1 #[.val (.ref oa), .val v1, .val v2, .val v3, .val v4, .val v5, .val v6] [(.ref oa)])) rfl (by rw [hml]; rfl) rfl (hb hby d7_1) (by decide) (W := 0) (by show 2 * 0 + _ ≤ _; exact Nat.le_of_eq rfl) (by decide)
  refine own_go (fun t k => st2 t k) ?_
  show own_Go p e below _ (T2.setTop (mkF m 4 #[.val (.ref oa), .val v1, .val v2, .val v3, .val v4, .val v5, .val v6] []))
  refine own_go (fun t k => XS.aloadN X2.here hx rfl (hb hby d7_4) rfl rfl k) ?_
  show own_Go p e below _ (T2.setTop (mkF m 5 #[.val (.ref oa), .val v1, .val v2, .val v3, .val v4, .val v5, .val v6] [(.ref oa)]))
  refine own_go (fun t k => XS.aloadN X2.here hx rfl (hb hby d7_5) rfl r_v1 k) ?_
  show own_Go p e below _ (T2.setTop (mkF m 6 #[.val (.ref oa), .val v1, .val v2, .val v3, .val v4, .val v5, .val v6] [v1, (.ref oa)]))
  obtain ⟨T3, h3, X3, e3, W3, st3⟩ := putF X2 hx hZ hown (host := "") (Or.inl (hw _ (List.mem_of_getElem? (i := 22) rfl))) Via.refl e2 Farea Ea (Or.inr ⟨(hw _ (List.mem_of_getElem? (i := 23) rfl)), rfl, hnm⟩) (hw _ (List.mem_of_getElem? (i := 14) rfl)) (ty := (.object "java/lang/String")) (by decide) rfl (own_fits r_v1 rfl) (g := (mkF m 6 #[.val (.ref oa), .val v1, .val v2, .val v3, .val v4, .val v5, .val v6] [v1, (.ref oa)])) rfl rfl (hb hby d7_6)
  have Fw3 := Farea.same W3
  have Ea__3 := Ea.wr W3
  have Fschedule__3 := Fschedule.other W3 (Or.inr (slot_ne (Or.inr (hw _ (List.mem_of_getElem? (i := 25) rfl))) (Or.inr (hw _ (List.mem_of_getElem? (i := 23) rfl))) (by decide) (t := (.object "java/lang/String")) (t' := (.object "java/lang/String")) (by decide) (by decide)))
  have Ftraffic__3 := Ftraffic.other W3 (Or.inr (slot_ne (Or.inr (hw _ (List.mem_of_getElem? (i := 27) rfl))) (Or.inr (hw _ (List.mem_of_getElem? (i := 23) rfl))) (by decide) (t := (.object "java/lang/String")) (t' := (.object "java/lang/String")) (by decide) (by decide)))
  have Fdirection__3 := Fdirection.other W3 (Or.inr (slot_ne (Or.inr (hw _ (List.mem_of_getElem? (i := 29) rfl))) (Or.inr (hw _ (List.mem_of_getElem? (i := 23) rfl))) (by decide) (t := (.object "com/example/tariff_reader/tariffreader/model/Direction")) (t' := (.object "java/lang/String")) (by decide) (by decide)))
  have Fband__3 := Fband.other W3 (Or.inr (slot_ne (Or.inr (hw _ (List.mem_of_getElem? (i := 31) rfl))) (Or.inr (hw _ (List.mem_of_getElem? (i := 23) rfl))) (by decide) (t := (.object "java/lang/String")) (t' := (.object "java/lang/String")) (by decide) (by decide)))
  have Funit__3 := Funit.other W3 (Or.inr (slot_ne (Or.inr (hw _ (List.mem_of_getElem? (i := 33) rfl))) (Or.inr (hw _ (List.mem_of_getElem? (i := 23) rfl))) (by decide) (t := (.object "com/example/tariff_reader/tariffreader/model/Unit")) (t' := (.object "java/lang/String")) (by decide) (by decide)))
  have N3 := Fr.snoc X3 N0 g_oa
  have KP3 := (Keep.refl h0 [oa]).wr W3 (Or.inl (List.mem_of_getElem? (i := 0) rfl))
  have sz3 := Nat.le_trans Z0 (Keep.of_wr W3).1
  refine own_go (fun t k => st3 t k) ?_
  show own_Go p e below _ (T3.setTop (mkF m 9 #[.val (.ref oa), .val v1, .val v2, .val v3, .val v4, .val v5, .val v6] []))
  refine own_go (fun t k => XS.aloadN X3.here hx rfl (hb hby d7_9) rfl rfl k) ?_
  show own_Go p e below _ (T3.setTop (mkF m 10 #[.val (.ref oa), .val v1, .val v2, .val v3, .val v4, .val v5, .val v6] [(.ref oa)]))
  refine own_go (fun t k => XS.aloadN X3.here hx rfl (hb hby d7_10) rfl r_v2 k) ?_
  show own_Go p e below _ (T3.setTop (mkF m 11 #[.val (.ref oa), .val v1, .val v2, .val v3, .val v4, .val v5, .val v6] [v2, (.ref oa)]))
  obtain ⟨T4, h4, X4, e4, W4, st4⟩ := putF X3 hx hZ hown (host := "") (Or.inl (hw _ (List.mem_of_getElem? (i := 24) rfl))) Via.refl e3 Fschedule__3 Ea__3 (Or.inr ⟨(hw _ (List.mem_of_getElem? (i := 25) rfl)), rfl, hnm⟩) (hw _ (List.mem_of_getElem? (i := 14) rfl)) (ty := (.object "java/lang/String")) (by decide) rfl (own_fits r_v2 rfl) (g := (mkF m 11 #[.val (.ref oa), .val v1, .val v2, .val v3, .val v4, .val v5, .val v6] [v2, (.ref oa)])) rfl rfl (hb hby d7_11)
  have Fw4 := Fschedule__3.same W4
  have Ea__4 := Ea__3.wr W4
  have Fw3__4 := Fw3.other W4 (Or.inr (slot_ne (Or.inr (hw _ (List.mem_of_getElem? (i := 23) rfl))) (Or.inr (hw _ (List.mem_of_getElem? (i := 25) rfl))) (by decide) (t := (.object "java/lang/String")) (t' := (.object "java/lang/String")) (by decide) (by decide)))
  have Ftraffic__4 := Ftraffic__3.other W4 (Or.inr (slot_ne (Or.inr (hw _ (List.mem_of_getElem? (i := 27) rfl))) (Or.inr (hw _ (List.mem_of_getElem? (i := 25) rfl))) (by decide) (t := (.object "java/lang/String")) (t' := (.object "java/lang/String")) (by decide) (by decide)))
  have Fdirection__4 := Fdirection__3.other W4 (Or.inr (slot_ne (Or.inr (hw _ (List.mem_of_getElem? (i := 29) rfl))) (Or.inr (hw _ (List.mem_of_getElem? (i := 25) rfl))) (by decide) (t := (.object "com/example/tariff_reader/tariffreader/model/Direction")) (t' := (.object "java/lang/String")) (by decide) (by decide)))
  have Fband__4 := Fband__3.other W4 (Or.inr (slot_ne (Or.inr (hw _ (List.mem_of_getElem? (i := 31) rfl))) (Or.inr (hw _ (List.mem_of_getElem? (i := 25) rfl))) (by decide) (t := (.object "java/lang/String")) (t' := (.object "java/lang/String")) (by decide) (by decide)))
  have Funit__4 := Funit__3.other W4 (Or.inr (slot_ne (Or.inr (hw _ (List.mem_of_getElem? (i := 33) rfl))) (Or.inr (hw _ (List.mem_of_getElem? (i := 25) rfl))) (by decide) (t := (.object "com/example/tariff_reader/tariffreader/model/Unit")) (t' := (.object "java/lang/String")) (by decide) (by decide)))
  have N4 := Fr.snoc X4 N3 g_oa
  have KP4 := KP3.wr W4 (Or.inl (List.mem_of_getElem? (i := 0) rfl))
  have sz4 := Nat.le_trans sz3 (Keep.of_wr W4).1
  refine own_go (fun t k => st4 t k) ?_
  show own_Go p e below _ (T4.setTop (mkF m 14 #[.val (.ref oa), .val v1, .val v2, .val v3, .val v4, .val v5, .val v6] []))
  refine own_go (fun t k => XS.aloadN X4.here hx rfl (hb hby d7_14) rfl rfl k) ?_
  show own_Go p e below _ (T4.setTop (mkF m 15 #[.val (.ref oa), .val v1, .val v2, .val v3, .val v4, .val v5, .val v6] [(.ref oa)]))
  refine own_go (fun t k => XS.aloadN X4.here hx rfl (hb hby d7_15) rfl r_v3 k) ?_
  show own_Go p e below _ (T4.setTop (mkF m 16 #[.val (.ref oa), .val v1, .val v2, .val v3, .val v4, .val v5, .val v6] [v3, (.ref oa)]))
  obtain ⟨T5, h5, X5, e5, W5, st5⟩ := putF X4 hx hZ hown (host := "") (Or.inl (hw _ (List.mem_of_getElem? (i := 26) rfl))) Via.refl e4 Ftraffic__4 Ea__4 (Or.inr ⟨(hw _ (List.mem_of_getElem? (i := 27) rfl)), rfl, hnm⟩) (hw _ (List.mem_of_getElem? (i := 14) rfl)) (ty := (.object "java/lang/String")) (by decide) rfl (own_fits r_v3 rfl) (g := (mkF m 16 #[.val (.ref oa), .val v1, .val v2, .val v3, .val v4, .val v5, .val v6] [v3, (.ref oa)])) rfl rfl (hb hby d7_16)
  have Fw5 := Ftraffic__4.same W5
  have Ea__5 := Ea__4.wr W5
  have Fw3__5 := Fw3__4.other W5 (Or.inr (slot_ne (Or.inr (hw _ (List.mem_of_getElem? (i := 23) rfl))) (Or.inr (hw _ (List.mem_of_getElem? (i := 27) rfl))) (by decide) (t := (.object "java/lang/String")) (t' := (.object "java/lang/String")) (by decide) (by decide)))
  have Fw4__5 := Fw4.other W5 (Or.inr (slot_ne (Or.inr (hw _ (List.mem_of_getElem? (i := 25) rfl))) (Or.inr (hw _ (List.mem_of_getElem? (i := 27) rfl))) (by decide) (t := (.object "java/lang/String")) (t' := (.object "java/lang/String")) (by decide) (by decide)))
  have Fdirection__5 := Fdirection__4.other W5 (Or.inr (slot_ne (Or.inr (hw _ (List.mem_of_getElem? (i := 29) rfl))) (Or.inr (hw _ (List.mem_of_getElem? (i := 27) rfl))) (by decide) (t := (.object "com/example/tariff_reader/tariffreader/model/Direction")) (t' := (.object "java/lang/String")) (by decide) (by decide)))
  have Fband__5 := Fband__4.other W5 (Or.inr (slot_ne (Or.inr (hw _ (List.mem_of_getElem? (i := 31) rfl))) (Or.inr (hw _ (List.mem_of_getElem? (i := 27) rfl))) (by decide) (t := (.object "java/lang/String")) (t' := (.object "java/lang/String")) (by decide) (by decide)))
  have Funit__5 := Funit__4.other W5 (Or.inr (slot_ne (Or.inr (hw _ (List.mem_of_getElem? (i := 33) rfl))) (Or.inr (hw _ (List.mem_of_getElem? (i := 27) rfl))) (by decide) (t := (.object "com/example/tariff_reader/tariffreader/model/Unit")) (t' := (.object "java/lang/String")) (by decide) (by decide)))
  have N5 := Fr.snoc X5 N4 g_oa
  have KP5 := KP4.wr W5 (Or.inl (List.mem_of_getElem? (i := 0) rfl))
  have sz5 := Nat.le_trans sz4 (Keep.of_wr W5).1
  refine own_go (fun t k => st5 t k) ?_
  show own_Go p e below _ (T5.setTop (mkF m 19 #[.val (.ref oa), .val v1, .val v2, .val v3, .val v4, .val v5, .val v6] []))
  refine own_go (fun t k => XS.aloadN X5.here hx rfl (hb hby d7_19) rfl rfl k) ?_
  show own_Go p e below _ (T5.setTop (mkF m 20 #[.val (.ref oa), .val v1, .val v2, .val v3, .val v4, .val v5, .val v6] [(.ref oa)]))
  refine own_go (fun t k => XS.aload X5.here hx rfl (hb hby d7_20) rfl r_v4 k) ?_
  show own_Go p e below _ (T5.setTop (mkF m 22 #[.val (.ref oa), .val v1, .val v2, .val v3, .val v4, .val v5, .val v6] [v4, (.ref oa)]))
  obtain ⟨T6, h6, X6, e6, W6, st6⟩ := putF X5 hx hZ hown (host := "") (Or.inl (hw _ (List.mem_of_getElem? (i := 28) rfl))) Via.refl e5 Fdirection__5 Ea__5 (Or.inr ⟨(hw _ (List.mem_of_getElem? (i := 29) rfl)), rfl, hnm⟩) (hw _ (List.mem_of_getElem? (i := 14) rfl)) (ty := (.object "com/example/tariff_reader/tariffreader/model/Direction")) (by decide) rfl (own_fits r_v4 rfl) (g := (mkF m 22 #[.val (.ref oa), .val v1, .val v2, .val v3, .val v4, .val v5, .val v6] [v4, (.ref oa)])) rfl rfl (hb hby d7_22)
  have Fw6 := Fdirection__5.same W6
  have Ea__6 := Ea__5.wr W6
  have Fw3__6 := Fw3__5.other W6 (Or.inr (slot_ne (Or.inr (hw _ (List.mem_of_getElem? (i := 23) rfl))) (Or.inr (hw _ (List.mem_of_getElem? (i := 29) rfl))) (by decide) (t := (.object "java/lang/String")) (t' := (.object "com/example/tariff_reader/tariffreader/model/Direction")) (by decide) (by decide)))
  have Fw4__6 := Fw4__5.other W6 (Or.inr (slot_ne (Or.inr (hw _ (List.mem_of_getElem? (i := 25) rfl))) (Or.inr (hw _ (List.mem_of_getElem? (i := 29) rfl))) (by decide) (t := (.object "java/lang/String")) (t' := (.object "com/example/tariff_reader/tariffreader/model/Direction")) (by decide) (by decide)))
  have Fw5__6 := Fw5.other W6 (Or.inr (slot_ne (Or.inr (hw _ (List.mem_of_getElem? (i := 27) rfl))) (Or.inr (hw _ (List.mem_of_getElem? (i := 29) rfl))) (by decide) (t := (.object "java/lang/String")) (t' := (.object "com/example/tariff_reader/tariffreader/model/Direction")) (by decide) (by decide)))
  have Fband__6 := Fband__5.other W6 (Or.inr (slot_ne (Or.inr (hw _ (List.mem_of_getElem? (i := 31) rfl))) (Or.inr (hw _ (List.mem_of_getElem? (i := 29) rfl))) (by decide) (t := (.object "java/lang/String")) (t' := (.object "com/example/tariff_reader/tariffreader/model/Direction")) (by decide) (by decide)))
  have Funit__6 := Funit__5.other W6 (Or.inr (slot_ne (Or.inr (hw _ (List.mem_of_getElem? (i := 33) rfl))) (Or.inr (hw _ (List.mem_of_getElem? (i := 29) rfl))) (by decide) (t := (.object "com/example/tariff_reader/tariffreader/model/Unit")) (t' := (.object "com/example/tariff_reader/tariffreader/model/Direction")) (by decide) (by decide)))
  have N6 := Fr.snoc X6 N5 g_oa
  have KP6 := KP5.wr W6 (Or.inl (List.mem_of_getElem? (i := 0) rfl))
  have sz6 := Nat.le_trans sz5 (Keep.of_wr W6).1
  refine own_go (fun t k => st6 t k) ?_
  show own_Go p e below _ (T6.setTop (mkF m 25 #[.val (.ref oa), .val v1, .val v2, .val v3, .val v4, .val v5, .val v6] []))
  refine own_go (fun t k => XS.aloadN X6.here hx rfl (hb hby d7_25) rfl rfl k) ?_
  show own_Go p e below _ (T6.setTop (mkF m 26 #[.val (.ref oa), .val v1, .val v2, .val v3, .val v4, .val v5, .val v6] [(.ref oa)]))
  refine own_go (fun t k => XS.aload X6.here hx rfl (hb hby d7_26) rfl r_v5 k) ?_
  show own_Go p e below _ (T6.setTop (mkF m 28 #[.val (.ref oa), .val v1, .val v2, .val v3, .val v4, .val v5, .val v6] [v5, (.ref oa)]))
  obtain ⟨T7, h7, X7, e7, W7, st7⟩ := putF X6 hx hZ hown (host := "") (Or.inl (hw _ (List.mem_of_getElem? (i := 30) rfl))) Via.refl e6 Fband__6 Ea__6 (Or.inr ⟨(hw _ (List.mem_of_getElem? (i := 31) rfl)), rfl, hnm⟩) (hw _ (List.mem_of_getElem? (i := 14) rfl)) (ty := (.object "java/lang/String")) (by decide) rfl (own_fits r_v5 rfl) (g := (mkF m 28 #[.val (.ref oa), .val v1, .val v2, .val v3, .val v4, .val v5, .val v6] [v5, (.ref oa)])) rfl rfl (hb hby d7_28)
  have Fw7 := Fband__6.same W7
  have Ea__7 := Ea__6.wr W7
  have Fw3__7 := Fw3__6.other W7 (Or.inr (slot_ne (Or.inr (hw _ (List.mem_of_getElem? (i := 23) rfl))) (Or.inr (hw _ (List.mem_of_getElem? (i := 31) rfl))) (by decide) (t := (.object "java/lang/String")) (t' := (.object "java/lang/String")) (by decide) (by decide)))
  have Fw4__7 := Fw4__6.other W7 (Or.inr (slot_ne (Or.inr (hw _ (List.mem_of_getElem? (i := 25) rfl))) (Or.inr (hw _ (List.mem_of_getElem? (i := 31) rfl))) (by decide) (t := (.object "java/lang/String")) (t' := (.object "java/lang/String")) (by decide) (by decide)))
  have Fw5__7 := Fw5__6.other W7 (Or.inr (slot_ne (Or.inr (hw _ (List.mem_of_getElem? (i := 27) rfl))) (Or.inr (hw _ (List.mem_of_getElem? (i := 31) rfl))) (by decide) (t := (.object "java/lang/String")) (t' := (.object "java/lang/String")) (by decide) (by decide)))
  have Fw6__7 := Fw6.other W7 (Or.inr (slot_ne (Or.inr (hw _ (List.mem_of_getElem? (i := 29) rfl))) (Or.inr (hw _ (List.mem_of_getElem? (i := 31) rfl))) (by decide) (t := (.object "com/example/tariff_reader/tariffreader/model/Direction")) (t' := (.object "java/lang/String")) (by decide) (by decide)))
  have Funit__7 := Funit__6.other W7 (Or.inr (slot_ne (Or.inr (hw _ (List.mem_of_getElem? (i := 33) rfl))) (Or.inr (hw _ (List.mem_of_getElem? (i := 31) rfl))) (by decide) (t := (.object "com/example/tariff_reader/tariffreader/model/Unit")) (t' := (.object "java/lang/String")) (by decide) (by decide)))
  have N7 := Fr.snoc X7 N6 g_oa
  have KP7 := KP6.wr W7 (Or.inl (List.mem_of_getElem? (i := 0) rfl))
  have sz7 := Nat.le_trans sz6 (Keep.of_wr W7).1
  refine own_go (fun t k => st7 t k) ?_
  show own_Go p e below _ (T7.setTop (mkF m 31 #[.val (.ref oa), .val v1, .val v2, .val v3, .val v4, .val v5, .val v6] []))
  refine own_go (fun t k => XS.aloadN X7.here hx rfl (hb hby d7_31) rfl rfl k) ?_
  show own_Go p e below _ (T7.setTop (mkF m 32 #[.val (.ref oa), .val v1, .val v2, .val v3, .val v4, .val v5, .val v6] [(.ref oa)]))
  refine own_go (fun t k => XS.aload X7.here hx rfl (hb hby d7_32) rfl r_v6 k) ?_
  show own_Go p e below _ (T7.setTop (mkF m 34 #[.val (.ref oa), .val v1, .val v2, .val v3, .val v4, .val v5, .val v6] [v6, (.ref oa)]))
  obtain ⟨T8, h8, X8, e8, W8, st8⟩ := putF X7 hx hZ hown (host := "") (Or.inl (hw _ (List.mem_of_getElem? (i := 32) rfl))) Via.refl e7 Funit__7 Ea__7 (Or.inr ⟨(hw _ (List.mem_of_getElem? (i := 33) rfl)), rfl, hnm⟩) (hw _ (List.mem_of_getElem? (i := 14) rfl)) (ty := (.object "com/example/tariff_reader/tariffreader/model/Unit")) (by decide) rfl (own_fits r_v6 rfl) (g := (mkF m 34 #[.val (.ref oa), .val v1, .val v2, .val v3, .val v4, .val v5, .val v6] [v6, (.ref oa)])) rfl rfl (hb hby d7_34)
  have Fw8 := Funit__7.same W8
  have Ea__8 := Ea__7.wr W8
  have Fw3__8 := Fw3__7.other W8 (Or.inr (slot_ne (Or.inr (hw _ (List.mem_of_getElem? (i := 23) rfl))) (Or.inr (hw _ (List.mem_of_getElem? (i := 33) rfl))) (by decide) (t := (.object "java/lang/String")) (t' := (.object "com/example/tariff_reader/tariffreader/model/Unit")) (by decide) (by decide)))
  have Fw4__8 := Fw4__7.other W8 (Or.inr (slot_ne (Or.inr (hw _ (List.mem_of_getElem? (i := 25) rfl))) (Or.inr (hw _ (List.mem_of_getElem? (i := 33) rfl))) (by decide) (t := (.object "java/lang/String")) (t' := (.object "com/example/tariff_reader/tariffreader/model/Unit")) (by decide) (by decide)))
  have Fw5__8 := Fw5__7.other W8 (Or.inr (slot_ne (Or.inr (hw _ (List.mem_of_getElem? (i := 27) rfl))) (Or.inr (hw _ (List.mem_of_getElem? (i := 33) rfl))) (by decide) (t := (.object "java/lang/String")) (t' := (.object "com/example/tariff_reader/tariffreader/model/Unit")) (by decide) (by decide)))
  have Fw6__8 := Fw6__7.other W8 (Or.inr (slot_ne (Or.inr (hw _ (List.mem_of_getElem? (i := 29) rfl))) (Or.inr (hw _ (List.mem_of_getElem? (i := 33) rfl))) (by decide) (t := (.object "com/example/tariff_reader/tariffreader/model/Direction")) (t' := (.object "com/example/tariff_reader/tariffreader/model/Unit")) (by decide) (by decide)))
  have Fw7__8 := Fw7.other W8 (Or.inr (slot_ne (Or.inr (hw _ (List.mem_of_getElem? (i := 31) rfl))) (Or.inr (hw _ (List.mem_of_getElem? (i := 33) rfl))) (by decide) (t := (.object "java/lang/String")) (t' := (.object "com/example/tariff_reader/tariffreader/model/Unit")) (by decide) (by decide)))
  have N8 := Fr.snoc X8 N7 g_oa
  have KP8 := KP7.wr W8 (Or.inl (List.mem_of_getElem? (i := 0) rfl))
  have sz8 := Nat.le_trans sz7 (Keep.of_wr W8).1
  refine own_go (fun t k => st8 t k) ?_
  show own_Go p e below _ (T8.setTop (mkF m 37 #[.val (.ref oa), .val v1, .val v2, .val v3, .val v4, .val v5, .val v6] []))
  exact own_ret0 X8 hx Bd.returns (hb hby d7_37) (by rw [e8]; exact ⟨rfl, N8, KP8, ⟨Ea__8, Fw3__8, Fw4__8, Fw5__8, Fw6__8, Fw7__8, Fw8⟩⟩) (by decide) (by decide)
theorem d8_0 : decode method_3_code 0 = .ok (.iload_n 0, 1) := by decide +kernel
theorem d8_1 : decode method_3_code 1 = .ok (.iconst 1, 1) := by decide +kernel
theorem d8_2 : decode method_3_code 2 = .ok (.iand, 1) := by decide +kernel
theorem d8_3 : decode method_3_code 3 = .ok (.ifCond .eq 7, 3) := by decide +kernel
theorem d8_6 : decode method_3_code 6 = .ok (.iconst 1, 1) := by decide +kernel
theorem d8_7 : decode method_3_code 7 = .ok (.goto 4, 3) := by decide +kernel
theorem d8_10 : decode method_3_code 10 = .ok (.iconst 0, 1) := by decide +kernel
theorem d8_11 : decode method_3_code 11 = .ok (.iload_n 1, 1) := by decide +kernel
theorem d8_12 : decode method_3_code 12 = .ok (.invokestatic 19, 3) := by decide +kernel
theorem d8_15 : decode method_3_code 15 = .ok (.astore_n 3, 1) := by decide +kernel
theorem d8_16 : decode method_3_code 16 = .ok (.iload_n 0, 1) := by decide +kernel
theorem d8_17 : decode method_3_code 17 = .ok (.iconst 2, 1) := by decide +kernel
theorem d8_18 : decode method_3_code 18 = .ok (.iand, 1) := by decide +kernel
theorem d8_19 : decode method_3_code 19 = .ok (.ifCond .eq 7, 3) := by decide +kernel
theorem d8_22 : decode method_3_code 22 = .ok (.iconst 1, 1) := by decide +kernel
theorem d8_23 : decode method_3_code 23 = .ok (.goto 4, 3) := by decide +kernel
theorem d8_26 : decode method_3_code 26 = .ok (.iconst 0, 1) := by decide +kernel
theorem d8_27 : decode method_3_code 27 = .ok (.iload_n 1, 1) := by decide +kernel
theorem d8_28 : decode method_3_code 28 = .ok (.bipush 9, 2) := by decide +kernel
theorem d8_30 : decode method_3_code 30 = .ok (.iushr, 1) := by decide +kernel
theorem d8_31 : decode method_3_code 31 = .ok (.invokestatic 19, 3) := by decide +kernel
theorem d8_34 : decode method_3_code 34 = .ok (.astore 4, 2) := by decide +kernel
theorem d8_36 : decode method_3_code 36 = .ok (.iload_n 0, 1) := by decide +kernel
theorem d8_37 : decode method_3_code 37 = .ok (.iconst 4, 1) := by decide +kernel
theorem d8_38 : decode method_3_code 38 = .ok (.iand, 1) := by decide +kernel
theorem d8_39 : decode method_3_code 39 = .ok (.ifCond .eq 7, 3) := by decide +kernel
theorem d8_42 : decode method_3_code 42 = .ok (.iconst 1, 1) := by decide +kernel
theorem d8_43 : decode method_3_code 43 = .ok (.goto 4, 3) := by decide +kernel
theorem d8_46 : decode method_3_code 46 = .ok (.iconst 0, 1) := by decide +kernel
theorem d8_47 : decode method_3_code 47 = .ok (.iload_n 1, 1) := by decide +kernel
theorem d8_48 : decode method_3_code 48 = .ok (.bipush 18, 2) := by decide +kernel
theorem d8_50 : decode method_3_code 50 = .ok (.iushr, 1) := by decide +kernel
theorem d8_51 : decode method_3_code 51 = .ok (.invokestatic 19, 3) := by decide +kernel
theorem d8_54 : decode method_3_code 54 = .ok (.astore 5, 2) := by decide +kernel
theorem d8_56 : decode method_3_code 56 = .ok (.iload_n 0, 1) := by decide +kernel
theorem d8_57 : decode method_3_code 57 = .ok (.bipush 8, 2) := by decide +kernel
theorem d8_59 : decode method_3_code 59 = .ok (.iand, 1) := by decide +kernel
theorem d8_60 : decode method_3_code 60 = .ok (.ifCond .eq 7, 3) := by decide +kernel
theorem d8_63 : decode method_3_code 63 = .ok (.iconst 1, 1) := by decide +kernel
theorem d8_64 : decode method_3_code 64 = .ok (.goto 4, 3) := by decide +kernel
theorem d8_67 : decode method_3_code 67 = .ok (.iconst 0, 1) := by decide +kernel
theorem d8_68 : decode method_3_code 68 = .ok (.iload_n 2, 1) := by decide +kernel
theorem d8_69 : decode method_3_code 69 = .ok (.iconst 3, 1) := by decide +kernel
theorem d8_70 : decode method_3_code 70 = .ok (.iand, 1) := by decide +kernel
theorem d8_71 : decode method_3_code 71 = .ok (.invokestatic 23, 3) := by decide +kernel
theorem d8_74 : decode method_3_code 74 = .ok (.astore 6, 2) := by decide +kernel
theorem d8_76 : decode method_3_code 76 = .ok (.iload_n 0, 1) := by decide +kernel
theorem d8_77 : decode method_3_code 77 = .ok (.bipush 16, 2) := by decide +kernel
theorem d8_79 : decode method_3_code 79 = .ok (.iand, 1) := by decide +kernel
theorem d8_80 : decode method_3_code 80 = .ok (.ifCond .eq 7, 3) := by decide +kernel
theorem d8_83 : decode method_3_code 83 = .ok (.iconst 1, 1) := by decide +kernel
theorem d8_84 : decode method_3_code 84 = .ok (.goto 4, 3) := by decide +kernel
theorem d8_87 : decode method_3_code 87 = .ok (.iconst 0, 1) := by decide +kernel
theorem d8_88 : decode method_3_code 88 = .ok (.iload_n 1, 1) := by decide +kernel
theorem d8_89 : decode method_3_code 89 = .ok (.bipush 23, 2) := by decide +kernel
theorem d8_91 : decode method_3_code 91 = .ok (.iushr, 1) := by decide +kernel
theorem d8_92 : decode method_3_code 92 = .ok (.invokestatic 19, 3) := by decide +kernel
theorem d8_95 : decode method_3_code 95 = .ok (.astore 7, 2) := by decide +kernel
theorem d8_97 : decode method_3_code 97 = .ok (.iload_n 0, 1) := by decide +kernel
theorem d8_98 : decode method_3_code 98 = .ok (.bipush 32, 2) := by decide +kernel
theorem d8_100 : decode method_3_code 100 = .ok (.iand, 1) := by decide +kernel
theorem d8_101 : decode method_3_code 101 = .ok (.ifCond .eq 7, 3) := by decide +kernel
theorem d8_104 : decode method_3_code 104 = .ok (.iconst 1, 1) := by decide +kernel
theorem d8_105 : decode method_3_code 105 = .ok (.goto 4, 3) := by decide +kernel
theorem d8_108 : decode method_3_code 108 = .ok (.iconst 0, 1) := by decide +kernel
theorem d8_109 : decode method_3_code 109 = .ok (.iload_n 2, 1) := by decide +kernel
theorem d8_110 : decode method_3_code 110 = .ok (.iconst 2, 1) := by decide +kernel
theorem d8_111 : decode method_3_code 111 = .ok (.iushr, 1) := by decide +kernel
theorem d8_112 : decode method_3_code 112 = .ok (.bipush 7, 2) := by decide +kernel
theorem d8_114 : decode method_3_code 114 = .ok (.iand, 1) := by decide +kernel
theorem d8_115 : decode method_3_code 115 = .ok (.iconst 5, 1) := by decide +kernel
theorem d8_116 : decode method_3_code 116 = .ok (.irem, 1) := by decide +kernel
theorem d8_117 : decode method_3_code 117 = .ok (.invokestatic 27, 3) := by decide +kernel
theorem d8_120 : decode method_3_code 120 = .ok (.astore 8, 2) := by decide +kernel
theorem d8_122 : decode method_3_code 122 = .ok (.new 14, 3) := by decide +kernel
theorem d8_125 : decode method_3_code 125 = .ok (.dup, 1) := by decide +kernel
theorem d8_126 : decode method_3_code 126 = .ok (.aload_n 3, 1) := by decide +kernel
theorem d8_127 : decode method_3_code 127 = .ok (.aload 4, 2) := by decide +kernel
theorem d8_129 : decode method_3_code 129 = .ok (.aload 5, 2) := by decide +kernel
theorem d8_131 : decode method_3_code 131 = .ok (.aload 6, 2) := by decide +kernel
theorem d8_133 : decode method_3_code 133 = .ok (.aload 7, 2) := by decide +kernel
theorem d8_135 : decode method_3_code 135 = .ok (.aload 8, 2) := by decide +kernel
theorem d8_137 : decode method_3_code 137 = .ok (.invokespecial 31, 3) := by decide +kernel
theorem d8_140 : decode method_3_code 140 = .ok (.areturn, 1) := by decide +kernel
theorem pn8 : plainName "com/example/tariff_reader/tariffreader/text/QualifiersOverlapsPinLaw" = true := by first | (simp [plainName, overriddenIn]; done) | decide +kernel
theorem pd8_0 : parseMethodDescriptor "(ZI)Ljava/lang/String;" = some ⟨[.boolean, .int], some (.object "java/lang/String")⟩ := by decide +kernel
theorem pd8_1 : parseMethodDescriptor "(ZI)Lcom/example/tariff_reader/tariffreader/model/Direction;" = some ⟨[.boolean, .int], some (.object "com/example/tariff_reader/tariffreader/model/Direction")⟩ := by decide +kernel
theorem pd8_2 : parseMethodDescriptor "(ZI)Lcom/example/tariff_reader/tariffreader/model/Unit;" = some ⟨[.boolean, .int], some (.object "com/example/tariff_reader/tariffreader/model/Unit")⟩ := by decide +kernel
theorem pd8_3 : parseMethodDescriptor "(Ljava/lang/String;Ljava/lang/String;Ljava/lang/String;Lcom/example/tariff_reader/tariffreader/model/Direction;Ljava/lang/String;Lcom/example/tariff_reader/tariffreader/model/Unit;)V" = some ⟨[(.object "java/lang/String"), (.object "java/lang/String"), (.object "java/lang/String"), (.object "com/example/tariff_reader/tariffreader/model/Direction"), (.object "java/lang/String"), (.object "com/example/tariff_reader/tariffreader/model/Unit")], none⟩ := by decide +kernel
theorem ef8 (m : MethodId) (x0 : Int32) (x1 : Int32) (x2 : Int32) : entryFrame m #[(.int x0), (.int x1), (.int x2)] 9 = mkF m 0 #[.val (.int x0), .val (.int x1), .val (.int x2), .unset, .unset, .unset, .unset, .unset, .unset] [] := by first | (simp [entryFrame, mkF, argsToLocals, Value.category]; done) | rfl
def own_Q8 (Z : State) (m_ : Int32) (h0 : Heap) (n0 : Nat) (v : Option Value) (h : Heap) (L : List Loc) : Prop := ∃ (b : Addr) (v1 v2 v3 v4 v5 v6 : Value), v = some (.ref b) ∧ Fr n0 L ∧ Keep h0 h [] ∧ h0.size ≤ b ∧ own_Ql Z h b v1 v2 v3 v4 v5 v6 ∧ v1.isRef = true ∧ v2.isRef = true ∧ v3.isRef = true ∧ v4.isRef = true ∧ v5.isRef = true ∧ v6.isRef = true ∧ (v1 = .null ↔ (m_ &&& (1 : Int32)) = 0) ∧ (v2 = .null ↔ (m_ &&& (2 : Int32)) = 0) ∧ (v3 = .null ↔ (m_ &&& (4 : Int32)) = 0) ∧ (v4 = .null ↔ (m_ &&& (8 : Int32)) = 0) ∧ (v5 = .null ↔ (m_ &&& (16 : Int32)) = 0) ∧ (v6 = .null ↔ (m_ &&& (32 : Int32)) = 0)
set_option maxRecDepth 65536 in
set_option maxHeartbeats 40000000 in
theorem rm8 (l : Launch) (Z : State) (a0 : Array Value) (hw : ∀ d ∈ tables_1, d.before a0 Z = true) (ws : List Jvm.Cond) (m_ ch en : Int32) (h0 : Heap) (n0 : Nat) (Z0 : n0 ≤ h0.size) (XO : Old Z n0 h0) (WW : own_W Z) :
    MetFree l (⟨"com/example/tariff_reader/tariffreader/text/QualifiersOverlapsPinLaw", "make", "(III)Lcom/example/tariff_reader/tariffreader/text/Qualifiers;"⟩ : MethodName) (head1 (Jvm.Cond.code (⟨"com/example/tariff_reader/tariffreader/text/QualifiersOverlapsPinLaw", "make", "(III)Lcom/example/tariff_reader/tariffreader/text/Qualifiers;"⟩ : MethodName) method_3_code 9 (some (.object "com/example/tariff_reader/tariffreader/text/Qualifiers")) :: ws) ({ frames := 5, cells := 25, slots := 54, locals := 80 } : Room)) (fun a U => a = #[(.int m_), (.int ch), (.int en)] ∧ Z.Warmed39 U.vm ∧ U.heap = h0 ∧ CHv Z own_EL U.vm h0 ∧ ∀ x ∈ ([] : List Addr), Safe Z own_EL U.vm h0 x) (fun _ _ _ _ _ => True) (fun _ U o U' => ∃ v L, o = .returned v ∧ own_Q8 Z m_ h0 n0 v U'.heap L ∧ CHr Z own_EL U.vm U.heap U'.vm U'.heap ∧ ReturnedEndW U o U' L ({ frames := 5, cells := 25, slots := 54, locals := 80 } : Room).cells ({ frames := 5, cells := 25, slots := 54, locals := 80 } : Room).slots) := by
  refine MetFree.of_bodySF (plainFor_of_name pn8) hisR ?_
  intro p e s m args below meth c s₁ Bd hml0 hP hK
  obtain ⟨rfl, hZ, hh, hC0, hsf0⟩ := hP
  have hx := Bd.exec
  have hby := Bd.bytes
  have hml : c.maxLocals = 9 := hml0
  have hown : s.vm.findClass "com/example/tariff_reader/tariffreader/text/QualifiersOverlapsPinLaw" = some m.cls := findClass_of_methodNamed Bd.named
  have hnm := (name_of_methodNamed Bd.named Bd.method).1
  have hlk : meth.locks = false := Bd.notSynchronized
  have hEL := own_ew hw
  have hR0 : CHr Z own_EL s.vm h0 s.vm h0 := CHr.refl hC0
  have hS0 : s.Since s.vm 0 := (State.WarmedH.refl s).since 0
  have hk0 : 0 ≤ h0.size := Nat.zero_le _
  have X0 : Stand p l e ({ frames := 5, cells := 25, slots := 54, locals := 80 } : Room) (s.setVm s.vm) m #[(.int m_), (.int ch), (.int en)] below meth c s₁ [] 0 0 := Stand.of_body Bd
  have e0 : s₁.heap = h0 := by rw [← hh, Bd.state]; rfl
  have N0 := Fr.nil n0
  refine own_go (fun t k => castTop (ef8 m m_ ch en) k) ?_
  have J11 : ∀ (jv11 : Int32) (hj11 : jv11 = 0 ↔ (m_ &&& (1 : Int32)) = 0), own_Go p e below (fun o U' => ∃ v L, o = .returned v ∧ own_Q8 Z m_ h0 n0 v U'.heap L ∧ CHr Z own_EL s.vm s.heap U'.vm U'.heap ∧ ReturnedEndW s o U' L ({ frames := 5, cells := 25, slots := 54, locals := 80 } : Room).cells ({ frames := 5, cells := 25, slots := 54, locals := 80 } : Room).slots) (s₁.setTop (mkF m 11 #[.val (.int m_), .val (.int ch), .val (.int en), .unset, .unset, .unset, .unset, .unset, .unset] [(.int jv11)])) := by
    intro jv11 hj11
    show own_Go p e below _ (s₁.setTop (mkF m 11 #[.val (.int m_), .val (.int ch), .val (.int en), .unset, .unset, .unset, .unset, .unset, .unset] [(.int jv11)]))
    refine own_go (fun t k => XS.iloadN X0.here hx rfl (hb hby d8_11) rfl k) ?_
    show own_Go p e below _ (s₁.setTop (mkF m 12 #[.val (.int m_), .val (.int ch), .val (.int en), .unset, .unset, .unset, .unset, .unset, .unset] [(.int ch), (.int jv11)]))
    obtain ⟨_, _, ⟨T2, L2, k2, n2⟩, -, X2, hSq2, hgr2, ⟨Lc2, hQ2, l2, y2, z2, hC2⟩, st2⟩ := callSS X0 hx (y := (⟨"com/example/tariff_reader/tariffreader/text/QualifiersOverlapsPinLaw", "str", "(ZI)Ljava/lang/String;"⟩ : MethodName)) hown (mvT hZ (hw _ (List.mem_of_getElem? (i := 4) rfl))) (mvT hZ (hw _ (List.mem_of_getElem? (i := 5) rfl))) (mvT hZ (hw _ (List.mem_of_getElem? (i := 2) rfl))) (mvT hZ (hw _ (List.mem_of_getElem? (i := 6) rfl))) (by decide) (own_backH (s := s) (W := 0) (rmS l Z a0 hw [] jv11 ch h0 n0 Z0 XO WW) hZ (hw _ (List.mem_of_getElem? (i := 6) rfl)) (hw _ (List.mem_of_getElem? (i := 2) rfl)) (by decide) (by decide) hEL hC0 all0) (g := (mkF m 12 #[.val (.int m_), .val (.int ch), .val (.int en), .unset, .unset, .unset, .unset, .unset, .unset] [(.int ch), (.int jv11)])) rfl (by rw [hml]; rfl) (argsL := [(.int jv11), (.int ch)]) (rest := []) (lenOf pd8_0 rfl) rfl (by show 2 * 0 + _ ≤ _; exact Nat.le_of_eq rfl) (hb hby d8_12) (fun _ _ => ⟨rfl, e0, (by decide : 0 + 6 ≤ _), (by decide : 0 + 12 ≤ _)⟩)
    dsimp only [Pt.U, Pt.locs, Pt.cells, Pt.slots] at X2 l2 y2 z2 st2 hQ2 hSq2 hgr2 hC2
    subst l2 y2 z2
    obtain ⟨w2, rfl, r_w2, i_w2, Nq2, K2⟩ := hQ2
    have N2 := Fr.app N0 Nq2
    refine own_go (fun t k => st2.trans k) ?_
    have hS2 := foldS (T := s₁) hS0 (by rw [e0]; exact hk0) hSq2 hgr2
    have hZ2 : Z.Warmed39 T2.vm := State.Warmed39.trans (t := s.setVm s.vm) hZ hSq2.1
    have hown2 : T2.vm.findClass "com/example/tariff_reader/tariffreader/text/QualifiersOverlapsPinLaw" = some m.cls := by rw [hSq2.1.alike.findClass]; exact hown
    have hk2 := Nat.le_refl T2.heap.size
    replace X2 : Stand p l e ({ frames := 5, cells := 25, slots := 54, locals := 80 } : Room) (s.setVm T2.vm) m #[(.int m_), (.int ch), (.int en)] below meth c T2 _ _ _ := X2
    have XO__2 := XO.keep K2 all0
    have hR2 := hR0.trans hC2
    have hD2 := hR2.1
    have KP2 := (Keep.refl h0 []).trans K2 all0
    have sz2 := Nat.le_trans Z0 K2.1
    show own_Go p e below _ (T2.setTop (mkF m 15 #[.val (.int m_), .val (.int ch), .val (.int en), .unset, .unset, .unset, .unset, .unset, .unset] [w2]))
    refine own_go (fun t k => XS.astoreN X2.here hx rfl (hb hby d8_15) rfl r_w2 (l' := #[.val (.int m_), .val (.int ch), .val (.int en), .val w2, .unset, .unset, .unset, .unset, .unset]) (own_st1 rfl (Or.inl rfl) (own_cat1 r_w2)) k) ?_
    have J27 : ∀ (jv27 : Int32) (hj27 : jv27 = 0 ↔ (m_ &&& (2 : Int32)) = 0), own_Go p e below (fun o U' => ∃ v L, o = .returned v ∧ own_Q8 Z m_ h0 n0 v U'.heap L ∧ CHr Z own_EL s.vm s.heap U'.vm U'.heap ∧ ReturnedEndW s o U' L ({ frames := 5, cells := 25, slots := 54, locals := 80 } : Room).cells ({ frames := 5, cells := 25, slots := 54, locals := 80 } : Room).slots) (T2.setTop (mkF m 27 #[.val (.int m_), .val (.int ch), .val (.int en), .val w2, .unset, .unset, .unset, .unset, .unset] [(.int jv27)])) := by
      intro jv27 hj27
      show own_Go p e below _ (T2.setTop (mkF m 27 #[.val (.int m_), .val (.int ch), .val (.int en), .val w2, .unset, .unset, .unset, .unset, .unset] [(.int jv27)]))
      refine own_go (fun t k => XS.iloadN X2.here hx rfl (hb hby d8_27) rfl k) ?_
      show own_Go p e below _ (T2.setTop (mkF m 28 #[.val (.int m_), .val (.int ch), .val (.int en), .val w2, .unset, .unset, .unset, .unset, .unset] [(.int ch), (.int jv27)]))
      refine own_go (fun t k => XS.bipush X2.here hx rfl (hb hby d8_28) k) ?_
      show own_Go p e below _ (T2.setTop (mkF m 30 #[.val (.int m_), .val (.int ch), .val (.int en), .val w2, .unset, .unset, .unset, .unset, .unset] [(.int (9 : Int32)), (.int ch), (.int jv27)]))
      refine own_go (fun t k => XS.iushr X2.here hx rfl (hb hby d8_30) rfl k) ?_
      show own_Go p e below _ (T2.setTop (mkF m 31 #[.val (.int m_), .val (.int ch), .val (.int en), .val w2, .unset, .unset, .unset, .unset, .unset] [(.int ((ch.toUInt32 >>> ((9 : Int32) &&& 31).toUInt32).toInt32)), (.int jv27)]))
      obtain ⟨_, _, ⟨T4, L4, k4, n4⟩, -, X4, hSq4, hgr4, ⟨Lc4, hQ4, l4, y4, z4, hC4⟩, st4⟩ := callSS X2 hx (y := (⟨"com/example/tariff_reader/tariffreader/text/QualifiersOverlapsPinLaw", "str", "(ZI)Ljava/lang/String;"⟩ : MethodName)) hown2 (mvT hZ2 (hw _ (List.mem_of_getElem? (i := 4) rfl))) (mvT hZ2 (hw _ (List.mem_of_getElem? (i := 5) rfl))) (mvT hZ2 (hw _ (List.mem_of_getElem? (i := 2) rfl))) (mvT hZ2 (hw _ (List.mem_of_getElem? (i := 6) rfl))) (by decide) (own_backH (s := s) (W := 0) (rmS l Z a0 hw [] jv27 ((ch.toUInt32 >>> ((9 : Int32) &&& 31).toUInt32).toInt32) T2.heap n0 sz2 XO__2 WW) hZ2 (hw _ (List.mem_of_getElem? (i := 6) rfl)) (hw _ (List.mem_of_getElem? (i := 2) rfl)) (by decide) (by decide) hEL hD2 all0) (g := (mkF m 31 #[.val (.int m_), .val (.int ch), .val (.int en), .val w2, .unset, .unset, .unset, .unset, .unset] [(.int ((ch.toUInt32 >>> ((9 : Int32) &&& 31).toUInt32).toInt32)), (.int jv27)])) rfl (by rw [hml]; rfl) (argsL := [(.int jv27), (.int ((ch.toUInt32 >>> ((9 : Int32) &&& 31).toUInt32).toInt32))]) (rest := []) (lenOf pd8_0 rfl) rfl (by show 2 * 0 + _ ≤ _; exact Nat.le_of_eq rfl) (hb hby d8_31) (fun _ _ => ⟨rfl, rfl, (by decide : 0 + 6 + 6 ≤ _), (by decide : 0 + 12 + 12 ≤ _)⟩)
      dsimp only [Pt.U, Pt.locs, Pt.cells, Pt.slots] at X4 l4 y4 z4 st4 hQ4 hSq4 hgr4 hC4
      subst l4 y4 z4
      obtain ⟨w4, rfl, r_w4, i_w4, Nq4, K4⟩ := hQ4
      have N4 := Fr.app N2 Nq4
      refine own_go (fun t k => st4.trans k) ?_
      have hS4 := foldS (T := T2) hS2 hk2 hSq4 hgr4
      have hZ4 : Z.Warmed39 T4.vm := State.Warmed39.trans (t := s.setVm T2.vm) hZ2 hSq4.1
      have hown4 : T4.vm.findClass "com/example/tariff_reader/tariffreader/text/QualifiersOverlapsPinLaw" = some m.cls := by rw [hSq4.1.alike.findClass]; exact hown2
      have hk4 := Nat.le_refl T4.heap.size
      replace X4 : Stand p l e ({ frames := 5, cells := 25, slots := 54, locals := 80 } : Room) (s.setVm T4.vm) m #[(.int m_), (.int ch), (.int en)] below meth c T4 _ _ _ := X4
      have XO__4 := XO__2.keep K4 all0
      have hR4 := hR2.trans hC4
      have hD4 := hR4.1
      have KP4 := KP2.trans K4 all0
      have sz4 := Nat.le_trans sz2 K4.1
      show own_Go p e below _ (T4.setTop (mkF m 34 #[.val (.int m_), .val (.int ch), .val (.int en), .val w2, .unset, .unset, .unset, .unset, .unset] [w4]))
      refine own_go (fun t k => XS.astore X4.here hx rfl (hb hby d8_34) rfl r_w4 (l' := #[.val (.int m_), .val (.int ch), .val (.int en), .val w2, .val w4, .unset, .unset, .unset, .unset]) (own_st1 rfl (Or.inl rfl) (own_cat1 r_w4)) k) ?_
      have J47 : ∀ (jv47 : Int32) (hj47 : jv47 = 0 ↔ (m_ &&& (4 : Int32)) = 0), own_Go p e below (fun o U' => ∃ v L, o = .returned v ∧ own_Q8 Z m_ h0 n0 v U'.heap L ∧ CHr Z own_EL s.vm s.heap U'.vm U'.heap ∧ ReturnedEndW s o U' L ({ frames := 5, cells := 25, slots := 54, locals := 80 } : Room).cells ({ frames := 5, cells := 25, slots := 54, locals := 80 } : Room).slots) (T4.setTop (mkF m 47 #[.val (.int m_), .val (.int ch), .val (.int en), .val w2, .val w4, .unset, .unset, .unset, .unset] [(.int jv47)])) := by
        intro jv47 hj47
        show own_Go p e below _ (T4.setTop (mkF m 47 #[.val (.int m_), .val (.int ch), .val (.int en), .val w2, .val w4, .unset, .unset, .unset, .unset] [(.int jv47)]))
        refine own_go (fun t k => XS.iloadN X4.here hx rfl (hb hby d8_47) rfl k) ?_
        show own_Go p e below _ (T4.setTop (mkF m 48 #[.val (.int m_), .val (.int ch), .val (.int en), .val w2, .val w4, .unset, .unset, .unset, .unset] [(.int ch), (.int jv47)]))
        refine own_go (fun t k => XS.bipush X4.here hx rfl (hb hby d8_48) k) ?_
        show own_Go p e below _ (T4.setTop (mkF m 50 #[.val (.int m_), .val (.int ch), .val (.int en), .val w2, .val w4, .unset, .unset, .unset, .unset] [(.int (18 : Int32)), (.int ch), (.int jv47)]))
        refine own_go (fun t k => XS.iushr X4.here hx rfl (hb hby d8_50) rfl k) ?_
        show own_Go p e below _ (T4.setTop (mkF m 51 #[.val (.int m_), .val (.int ch), .val (.int en), .val w2, .val w4, .unset, .unset, .unset, .unset] [(.int ((ch.toUInt32 >>> ((18 : Int32) &&& 31).toUInt32).toInt32)), (.int jv47)]))
        obtain ⟨_, _, ⟨T6, L6, k6, n6⟩, -, X6, hSq6, hgr6, ⟨Lc6, hQ6, l6, y6, z6, hC6⟩, st6⟩ := callSS X4 hx (y := (⟨"com/example/tariff_reader/tariffreader/text/QualifiersOverlapsPinLaw", "str", "(ZI)Ljava/lang/String;"⟩ : MethodName)) hown4 (mvT hZ4 (hw _ (List.mem_of_getElem? (i := 4) rfl))) (mvT hZ4 (hw _ (List.mem_of_getElem? (i := 5) rfl))) (mvT hZ4 (hw _ (List.mem_of_getElem? (i := 2) rfl))) (mvT hZ4 (hw _ (List.mem_of_getElem? (i := 6) rfl))) (by decide) (own_backH (s := s) (W := 0) (rmS l Z a0 hw [] jv47 ((ch.toUInt32 >>> ((18 : Int32) &&& 31).toUInt32).toInt32) T4.heap n0 sz4 XO__4 WW) hZ4 (hw _ (List.mem_of_getElem? (i := 6) rfl)) (hw _ (List.mem_of_getElem? (i := 2) rfl)) (by decide) (by decide) hEL hD4 all0) (g := (mkF m 51 #[.val (.int m_), .val (.int ch), .val (.int en), .val w2, .val w4, .unset, .unset, .unset, .unset] [(.int ((ch.toUInt32 >>> ((18 : Int32) &&& 31).toUInt32).toInt32)), (.int jv47)])) rfl (by rw [hml]; rfl) (argsL := [(.int jv47), (.int ((ch.toUInt32 >>> ((18 : Int32) &&& 31).toUInt32).toInt32))]) (rest := []) (lenOf pd8_0 rfl) rfl (by show 2 * 0 + _ ≤ _; exact Nat.le_of_eq rfl) (hb hby d8_51) (fun _ _ => ⟨rfl, rfl, (by decide : 0 + 6 + 6 + 6 ≤ _), (by decide : 0 + 12 + 12 + 12 ≤ _)⟩)
        dsimp only [Pt.U, Pt.locs, Pt.cells, Pt.slots] at X6 l6 y6 z6 st6 hQ6 hSq6 hgr6 hC6
        subst l6 y6 z6
        obtain ⟨w6, rfl, r_w6, i_w6, Nq6, K6⟩ := hQ6
        have N6 := Fr.app N4 Nq6
        refine own_go (fun t k => st6.trans k) ?_
        have hS6 := foldS (T := T4) hS4 hk4 hSq6 hgr6
        have hZ6 : Z.Warmed39 T6.vm := State.Warmed39.trans (t := s.setVm T4.vm) hZ4 hSq6.1
        have hown6 : T6.vm.findClass "com/example/tariff_reader/tariffreader/text/QualifiersOverlapsPinLaw" = some m.cls := by rw [hSq6.1.alike.findClass]; exact hown4
        have hk6 := Nat.le_refl T6.heap.size
        replace X6 : Stand p l e ({ frames := 5, cells := 25, slots := 54, locals := 80 } : Room) (s.setVm T6.vm) m #[(.int m_), (.int ch), (.int en)] below meth c T6 _ _ _ := X6
        have XO__6 := XO__4.keep K6 all0
        have hR6 := hR4.trans hC6
        have hD6 := hR6.1
        have KP6 := KP4.trans K6 all0
        have sz6 := Nat.le_trans sz4 K6.1
        show own_Go p e below _ (T6.setTop (mkF m 54 #[.val (.int m_), .val (.int ch), .val (.int en), .val w2, .val w4, .unset, .unset, .unset, .unset] [w6]))
        refine own_go (fun t k => XS.astore X6.here hx rfl (hb hby d8_54) rfl r_w6 (l' := #[.val (.int m_), .val (.int ch), .val (.int en), .val w2, .val w4, .val w6, .unset, .unset, .unset]) (own_st1 rfl (Or.inl rfl) (own_cat1 r_w6)) k) ?_
        have J68 : ∀ (jv68 : Int32) (hj68 : jv68 = 0 ↔ (m_ &&& (8 : Int32)) = 0), own_Go p e below (fun o U' => ∃ v L, o = .returned v ∧ own_Q8 Z m_ h0 n0 v U'.heap L ∧ CHr Z own_EL s.vm s.heap U'.vm U'.heap ∧ ReturnedEndW s o U' L ({ frames := 5, cells := 25, slots := 54, locals := 80 } : Room).cells ({ frames := 5, cells := 25, slots := 54, locals := 80 } : Room).slots) (T6.setTop (mkF m 68 #[.val (.int m_), .val (.int ch), .val (.int en), .val w2, .val w4, .val w6, .unset, .unset, .unset] [(.int jv68)])) := by
          intro jv68 hj68
          show own_Go p e below _ (T6.setTop (mkF m 68 #[.val (.int m_), .val (.int ch), .val (.int en), .val w2, .val w4, .val w6, .unset, .unset, .unset] [(.int jv68)]))
          refine own_go (fun t k => XS.iloadN X6.here hx rfl (hb hby d8_68) rfl k) ?_
          show own_Go p e below _ (T6.setTop (mkF m 69 #[.val (.int m_), .val (.int ch), .val (.int en), .val w2, .val w4, .val w6, .unset, .unset, .unset] [(.int en), (.int jv68)]))
          refine own_go (fun t k => XS.iconst X6.here hx rfl (hb hby d8_69) k) ?_
          show own_Go p e below _ (T6.setTop (mkF m 70 #[.val (.int m_), .val (.int ch), .val (.int en), .val w2, .val w4, .val w6, .unset, .unset, .unset] [(.int (3 : Int32)), (.int en), (.int jv68)]))
          refine own_go (fun t k => XS.iand X6.here hx rfl (hb hby d8_70) rfl k) ?_
          show own_Go p e below _ (T6.setTop (mkF m 71 #[.val (.int m_), .val (.int ch), .val (.int en), .val w2, .val w4, .val w6, .unset, .unset, .unset] [(.int (en &&& (3 : Int32))), (.int jv68)]))
          obtain ⟨_, _, ⟨T8, L8, k8, n8⟩, -, X8, ⟨Lc8, hQ8, l8, y8, z8⟩, st8⟩ := Jvm.LawKit.callS X6 hx (y := (⟨"com/example/tariff_reader/tariffreader/text/QualifiersOverlapsPinLaw", "dir", "(ZI)Lcom/example/tariff_reader/tariffreader/model/Direction;"⟩ : MethodName)) hown6 (mvT hZ6 (hw _ (List.mem_of_getElem? (i := 7) rfl))) (mvT hZ6 (hw _ (List.mem_of_getElem? (i := 8) rfl))) (mvT hZ6 (hw _ (List.mem_of_getElem? (i := 2) rfl))) (mvT hZ6 (hw _ (List.mem_of_getElem? (i := 9) rfl))) (by decide) (backOf (W := 0) (rm5 l Z a0 hw [] jv68 (en &&& (3 : Int32)) T6.heap n0 sz6 XO__6 WW) hZ6 (hw _ (List.mem_of_getElem? (i := 9) rfl)) (hw _ (List.mem_of_getElem? (i := 2) rfl)) (by decide) (by decide)) (g := (mkF m 71 #[.val (.int m_), .val (.int ch), .val (.int en), .val w2, .val w4, .val w6, .unset, .unset, .unset] [(.int (en &&& (3 : Int32))), (.int jv68)])) rfl (by rw [hml]; rfl) (argsL := [(.int jv68), (.int (en &&& (3 : Int32)))]) (rest := []) (lenOf pd8_1 rfl) rfl (by show 2 * 0 + _ ≤ _; exact Nat.le_of_eq rfl) (hb hby d8_71) (fun _ _ => ⟨rfl, rfl, (by decide : 0 + 6 + 6 + 6 + 0 ≤ _), (by decide : 0 + 12 + 12 + 12 + 0 ≤ _)⟩)
          dsimp only [Pt.U, Pt.locs, Pt.cells, Pt.slots] at X8 l8 y8 z8 st8 hQ8
          subst l8 y8 z8
          obtain ⟨w8, rfl, r_w8, i_w8, Nq8, e8⟩ := hQ8
          have N8 := Fr.app N6 Nq8
          refine own_go (fun t k => st8 t k) ?_
          show own_Go p e below _ (T8.setTop (mkF m 74 #[.val (.int m_), .val (.int ch), .val (.int en), .val w2, .val w4, .val w6, .unset, .unset, .unset] [w8]))
          refine own_go (fun t k => XS.astore X8.here hx rfl (hb hby d8_74) rfl r_w8 (l' := #[.val (.int m_), .val (.int ch), .val (.int en), .val w2, .val w4, .val w6, .val w8, .unset, .unset]) (own_st1 rfl (Or.inl rfl) (own_cat1 r_w8)) k) ?_
          have J88 : ∀ (jv88 : Int32) (hj88 : jv88 = 0 ↔ (m_ &&& (16 : Int32)) = 0), own_Go p e below (fun o U' => ∃ v L, o = .returned v ∧ own_Q8 Z m_ h0 n0 v U'.heap L ∧ CHr Z own_EL s.vm s.heap U'.vm U'.heap ∧ ReturnedEndW s o U' L ({ frames := 5, cells := 25, slots := 54, locals := 80 } : Room).cells ({ frames := 5, cells := 25, slots := 54, locals := 80 } : Room).slots) (T8.setTop (mkF m 88 #[.val (.int m_), .val (.int ch), .val (.int en), .val w2, .val w4, .val w6, .val w8, .unset, .unset] [(.int jv88)])) := by
            intro jv88 hj88
            show own_Go p e below _ (T8.setTop (mkF m 88 #[.val (.int m_), .val (.int ch), .val (.int en), .val w2, .val w4, .val w6, .val w8, .unset, .unset] [(.int jv88)]))
            refine own_go (fun t k => XS.iloadN X8.here hx rfl (hb hby d8_88) rfl k) ?_
            show own_Go p e below _ (T8.setTop (mkF m 89 #[.val (.int m_), .val (.int ch), .val (.int en), .val w2, .val w4, .val w6, .val w8, .unset, .unset] [(.int ch), (.int jv88)]))
            refine own_go (fun t k => XS.bipush X8.here hx rfl (hb hby d8_89) k) ?_
            show own_Go p e below _ (T8.setTop (mkF m 91 #[.val (.int m_), .val (.int ch), .val (.int en), .val w2, .val w4, .val w6, .val w8, .unset, .unset] [(.int (23 : Int32)), (.int ch), (.int jv88)]))
            refine own_go (fun t k => XS.iushr X8.here hx rfl (hb hby d8_91) rfl k) ?_
            show own_Go p e below _ (T8.setTop (mkF m 92 #[.val (.int m_), .val (.int ch), .val (.int en), .val w2, .val w4, .val w6, .val w8, .unset, .unset] [(.int ((ch.toUInt32 >>> ((23 : Int32) &&& 31).toUInt32).toInt32)), (.int jv88)]))
            obtain ⟨_, _, ⟨T10, L10, k10, n10⟩, -, X10, hSq10, hgr10, ⟨Lc10, hQ10, l10, y10, z10, hC10⟩, st10⟩ := callSS X8 hx (y := (⟨"com/example/tariff_reader/tariffreader/text/QualifiersOverlapsPinLaw", "str", "(ZI)Ljava/lang/String;"⟩ : MethodName)) hown6 (mvT hZ6 (hw _ (List.mem_of_getElem? (i := 4) rfl))) (mvT hZ6 (hw _ (List.mem_of_getElem? (i := 5) rfl))) (mvT hZ6 (hw _ (List.mem_of_getElem? (i := 2) rfl))) (mvT hZ6 (hw _ (List.mem_of_getElem? (i := 6) rfl))) (by decide) (own_backH (s := s) (W := 0) (rmS l Z a0 hw [] jv88 ((ch.toUInt32 >>> ((23 : Int32) &&& 31).toUInt32).toInt32) T6.heap n0 sz6 XO__6 WW) hZ6 (hw _ (List.mem_of_getElem? (i := 6) rfl)) (hw _ (List.mem_of_getElem? (i := 2) rfl)) (by decide) (by decide) hEL hD6 all0) (g := (mkF m 92 #[.val (.int m_), .val (.int ch), .val (.int en), .val w2, .val w4, .val w6, .val w8, .unset, .unset] [(.int ((ch.toUInt32 >>> ((23 : Int32) &&& 31).toUInt32).toInt32)), (.int jv88)])) rfl (by rw [hml]; rfl) (argsL := [(.int jv88), (.int ((ch.toUInt32 >>> ((23 : Int32) &&& 31).toUInt32).toInt32))]) (rest := []) (lenOf pd8_0 rfl) rfl (by show 2 * 0 + _ ≤ _; exact Nat.le_of_eq rfl) (hb hby d8_92) (fun _ _ => ⟨rfl, e8, (by decide : 0 + 6 + 6 + 6 + 6 ≤ _), (by decide : 0 + 12 + 12 + 12 + 12 ≤ _)⟩)
            dsimp only [Pt.U, Pt.locs, Pt.cells, Pt.slots] at X10 l10 y10 z10 st10 hQ10 hSq10 hgr10 hC10
            subst l10 y10 z10
            obtain ⟨w10, rfl, r_w10, i_w10, Nq10, K10⟩ := hQ10
            have N10 := Fr.app N8 Nq10
            refine own_go (fun t k => st10.trans k) ?_
            have hS10 := foldS (T := T8) hS6 (by rw [e8]; exact hk6) hSq10 hgr10
            have hZ10 : Z.Warmed39 T10.vm := State.Warmed39.trans (t := s.setVm T6.vm) hZ6 hSq10.1
            have hown10 : T10.vm.findClass "com/example/tariff_reader/tariffreader/text/QualifiersOverlapsPinLaw" = some m.cls := by rw [hSq10.1.alike.findClass]; exact hown6
            have hk10 := Nat.le_refl T10.heap.size
            replace X10 : Stand p l e ({ frames := 5, cells := 25, slots := 54, locals := 80 } : Room) (s.setVm T10.vm) m #[(.int m_), (.int ch), (.int en)] below meth c T10 _ _ _ := X10
            have XO__10 := XO__6.keep K10 all0
            have hR10 := hR6.trans hC10
            have hD10 := hR10.1
            have KP10 := KP6.trans K10 all0
            have sz10 := Nat.le_trans sz6 K10.1
            show own_Go p e below _ (T10.setTop (mkF m 95 #[.val (.int m_), .val (.int ch), .val (.int en), .val w2, .val w4, .val w6, .val w8, .unset, .unset] [w10]))
            refine own_go (fun t k => XS.astore X10.here hx rfl (hb hby d8_95) rfl r_w10 (l' := #[.val (.int m_), .val (.int ch), .val (.int en), .val w2, .val w4, .val w6, .val w8, .val w10, .unset]) (own_st1 rfl (Or.inl rfl) (own_cat1 r_w10)) k) ?_
            have J109 : ∀ (jv109 : Int32) (hj109 : jv109 = 0 ↔ (m_ &&& (32 : Int32)) = 0), own_Go p e below (fun o U' => ∃ v L, o = .returned v ∧ own_Q8 Z m_ h0 n0 v U'.heap L ∧ CHr Z own_EL s.vm s.heap U'.vm U'.heap ∧ ReturnedEndW s o U' L ({ frames := 5, cells := 25, slots := 54, locals := 80 } : Room).cells ({ frames := 5, cells := 25, slots := 54, locals := 80 } : Room).slots) (T10.setTop (mkF m 109 #[.val (.int m_), .val (.int ch), .val (.int en), .val w2, .val w4, .val w6, .val w8, .val w10, .unset] [(.int jv109)])) := by
              intro jv109 hj109
              show own_Go p e below _ (T10.setTop (mkF m 109 #[.val (.int m_), .val (.int ch), .val (.int en), .val w2, .val w4, .val w6, .val w8, .val w10, .unset] [(.int jv109)]))
              refine own_go (fun t k => XS.iloadN X10.here hx rfl (hb hby d8_109) rfl k) ?_
              show own_Go p e below _ (T10.setTop (mkF m 110 #[.val (.int m_), .val (.int ch), .val (.int en), .val w2, .val w4, .val w6, .val w8, .val w10, .unset] [(.int en), (.int jv109)]))
              refine own_go (fun t k => XS.iconst X10.here hx rfl (hb hby d8_110) k) ?_
              show own_Go p e below _ (T10.setTop (mkF m 111 #[.val (.int m_), .val (.int ch), .val (.int en), .val w2, .val w4, .val w6, .val w8, .val w10, .unset] [(.int (2 : Int32)), (.int en), (.int jv109)]))
              refine own_go (fun t k => XS.iushr X10.here hx rfl (hb hby d8_111) rfl k) ?_
              show own_Go p e below _ (T10.setTop (mkF m 112 #[.val (.int m_), .val (.int ch), .val (.int en), .val w2, .val w4, .val w6, .val w8, .val w10, .unset] [(.int ((en.toUInt32 >>> ((2 : Int32) &&& 31).toUInt32).toInt32)), (.int jv109)]))
              refine own_go (fun t k => XS.bipush X10.here hx rfl (hb hby d8_112) k) ?_
              show own_Go p e below _ (T10.setTop (mkF m 114 #[.val (.int m_), .val (.int ch), .val (.int en), .val w2, .val w4, .val w6, .val w8, .val w10, .unset] [(.int (7 : Int32)), (.int ((en.toUInt32 >>> ((2 : Int32) &&& 31).toUInt32).toInt32)), (.int jv109)]))
              refine own_go (fun t k => XS.iand X10.here hx rfl (hb hby d8_114) rfl k) ?_
              show own_Go p e below _ (T10.setTop (mkF m 115 #[.val (.int m_), .val (.int ch), .val (.int en), .val w2, .val w4, .val w6, .val w8, .val w10, .unset] [(.int (((en.toUInt32 >>> ((2 : Int32) &&& 31).toUInt32).toInt32) &&& (7 : Int32))), (.int jv109)]))
              refine own_go (fun t k => XS.iconst X10.here hx rfl (hb hby d8_115) k) ?_
              show own_Go p e below _ (T10.setTop (mkF m 116 #[.val (.int m_), .val (.int ch), .val (.int en), .val w2, .val w4, .val w6, .val w8, .val w10, .unset] [(.int (5 : Int32)), (.int (((en.toUInt32 >>> ((2 : Int32) &&& 31).toUInt32).toInt32) &&& (7 : Int32))), (.int jv109)]))
              refine own_go (fun t k => iremM X10 hx rfl (hb hby d8_116) rfl (by decide) k) ?_
              show own_Go p e below _ (T10.setTop (mkF m 117 #[.val (.int m_), .val (.int ch), .val (.int en), .val w2, .val w4, .val w6, .val w8, .val w10, .unset] [(.int ((((en.toUInt32 >>> ((2 : Int32) &&& 31).toUInt32).toInt32) &&& (7 : Int32)) % (5 : Int32))), (.int jv109)]))
              obtain ⟨_, _, ⟨T12, L12, k12, n12⟩, -, X12, ⟨Lc12, hQ12, l12, y12, z12⟩, st12⟩ := Jvm.LawKit.callS X10 hx (y := (⟨"com/example/tariff_reader/tariffreader/text/QualifiersOverlapsPinLaw", "unit", "(ZI)Lcom/example/tariff_reader/tariffreader/model/Unit;"⟩ : MethodName)) hown10 (mvT hZ10 (hw _ (List.mem_of_getElem? (i := 10) rfl))) (mvT hZ10 (hw _ (List.mem_of_getElem? (i := 11) rfl))) (mvT hZ10 (hw _ (List.mem_of_getElem? (i := 2) rfl))) (mvT hZ10 (hw _ (List.mem_of_getElem? (i := 12) rfl))) (by decide) (backOf (W := 0) (rm6 l Z a0 hw [] jv109 ((((en.toUInt32 >>> ((2 : Int32) &&& 31).toUInt32).toInt32) &&& (7 : Int32)) % (5 : Int32)) T10.heap n0 sz10 XO__10 WW) hZ10 (hw _ (List.mem_of_getElem? (i := 12) rfl)) (hw _ (List.mem_of_getElem? (i := 2) rfl)) (by decide) (by decide)) (g := (mkF m 117 #[.val (.int m_), .val (.int ch), .val (.int en), .val w2, .val w4, .val w6, .val w8, .val w10, .unset] [(.int ((((en.toUInt32 >>> ((2 : Int32) &&& 31).toUInt32).toInt32) &&& (7 : Int32)) % (5 : Int32))), (.int jv109)])) rfl (by rw [hml]; rfl) (argsL := [(.int jv109), (.int ((((en.toUInt32 >>> ((2 : Int32) &&& 31).toUInt32).toInt32) &&& (7 : Int32)) % (5 : Int32)))]) (rest := []) (lenOf pd8_2 rfl) rfl (by show 2 * 0 + _ ≤ _; exact Nat.le_of_eq rfl) (hb hby d8_117) (fun _ _ => ⟨rfl, rfl, (by decide : 0 + 6 + 6 + 6 + 6 + 0 ≤ _), (by decide : 0 + 12 + 12 + 12 + 12 + 0 ≤ _)⟩)
              dsimp only [Pt.U, Pt.locs, Pt.cells, Pt.slots] at X12 l12 y12 z12 st12 hQ12
              subst l12 y12 z12
              obtain ⟨w12, rfl, r_w12, i_w12, Nq12, e12⟩ := hQ12
              have N12 := Fr.app N10 Nq12
              refine own_go (fun t k => st12 t k) ?_
              show own_Go p e below _ (T12.setTop (mkF m 120 #[.val (.int m_), .val (.int ch), .val (.int en), .val w2, .val w4, .val w6, .val w8, .val w10, .unset] [w12]))
              refine own_go (fun t k => XS.astore X12.here hx rfl (hb hby d8_120) rfl r_w12 (l' := #[.val (.int m_), .val (.int ch), .val (.int en), .val w2, .val w4, .val w6, .val w8, .val w10, .val w12]) (own_st1 rfl (Or.inl rfl) (own_cat1 r_w12)) k) ?_
              show own_Go p e below _ (T12.setTop (mkF m 122 #[.val (.int m_), .val (.int ch), .val (.int en), .val w2, .val w4, .val w6, .val w8, .val w10, .val w12] []))
              obtain ⟨T13, h13, X13, e13, E13, A13, D13, -, st13⟩ := newO X12 hx hZ10 hown10 (hw _ (List.mem_of_getElem? (i := 13) rfl)) (hw _ (List.mem_of_getElem? (i := 14) rfl)) (hw _ (List.mem_of_getElem? (i := 15) rfl)) e12 (g := (mkF m 122 #[.val (.int m_), .val (.int ch), .val (.int en), .val w2, .val w4, .val w6, .val w8, .val w10, .val w12] [])) rfl (hb hby d8_122) (by decide) (by decide)
              obtain ⟨b13, g13⟩ : ∃ z, z = T10.heap.size := ⟨_, rfl⟩
              rw [← g13] at A13 D13 st13
              have g_b13 : n0 ≤ b13 := Nat.le_trans sz10 (Nat.le_of_eq g13.symm)
              have sz_b13 : h0.size ≤ b13 := Nat.le_trans KP10.1 (Nat.le_of_eq g13.symm)
              have XO__13 := XO__10.ext E13
              have hR13 := hR10.trans (CHr.ext E13 hD10)
              have hC13 := hR13.1
              have sz13 := Nat.le_trans sz10 E13.1
              have KP13 := KP10.ext E13
              have hk13 := Nat.le_trans hk10 E13.1
              have F13_area : Fld Z h13 b13 "com/example/tariff_reader/tariffreader/text/Qualifiers" "area" "Ljava/lang/String;" .null := D13 (Or.inr (hw _ (List.mem_of_getElem? (i := 23) rfl))) (ty := (.object "java/lang/String")) (by decide)
              have F13_schedule : Fld Z h13 b13 "com/example/tariff_reader/tariffreader/text/Qualifiers" "schedule" "Ljava/lang/String;" .null := D13 (Or.inr (hw _ (List.mem_of_getElem? (i := 25) rfl))) (ty := (.object "java/lang/String")) (by decide)
              have F13_traffic : Fld Z h13 b13 "com/example/tariff_reader/tariffreader/text/Qualifiers" "traffic" "Ljava/lang/String;" .null := D13 (Or.inr (hw _ (List.mem_of_getElem? (i := 27) rfl))) (ty := (.object "java/lang/String")) (by decide)
              have F13_direction : Fld Z h13 b13 "com/example/tariff_reader/tariffreader/text/Qualifiers" "direction" "Lcom/example/tariff_reader/tariffreader/model/Direction;" .null := D13 (Or.inr (hw _ (List.mem_of_getElem? (i := 29) rfl))) (ty := (.object "com/example/tariff_reader/tariffreader/model/Direction")) (by decide)
              have F13_band : Fld Z h13 b13 "com/example/tariff_reader/tariffreader/text/Qualifiers" "band" "Ljava/lang/String;" .null := D13 (Or.inr (hw _ (List.mem_of_getElem? (i := 31) rfl))) (ty := (.object "java/lang/String")) (by decide)
              have F13_unit : Fld Z h13 b13 "com/example/tariff_reader/tariffreader/text/Qualifiers" "unit" "Lcom/example/tariff_reader/tariffreader/model/Unit;" .null := D13 (Or.inr (hw _ (List.mem_of_getElem? (i := 33) rfl))) (ty := (.object "com/example/tariff_reader/tariffreader/model/Unit")) (by decide)
              refine own_go (fun t k => st13 t k) ?_
              show own_Go p e below _ (T13.setTop (mkF m 125 #[.val (.int m_), .val (.int ch), .val (.int en), .val w2, .val w4, .val w6, .val w8, .val w10, .val w12] [(.ref b13)]))
              refine own_go (fun t k => XS.dup X13.here hx rfl (hb hby d8_125) rfl rfl k) ?_
              show own_Go p e below _ (T13.setTop (mkF m 126 #[.val (.int m_), .val (.int ch), .val (.int en), .val w2, .val w4, .val w6, .val w8, .val w10, .val w12] [(.ref b13), (.ref b13)]))
              refine own_go (fun t k => XS.aloadN X13.here hx rfl (hb hby d8_126) rfl r_w2 k) ?_
              show own_Go p e below _ (T13.setTop (mkF m 127 #[.val (.int m_), .val (.int ch), .val (.int en), .val w2, .val w4, .val w6, .val w8, .val w10, .val w12] [w2, (.ref b13), (.ref b13)]))
              refine own_go (fun t k => XS.aload X13.here hx rfl (hb hby d8_127) rfl r_w4 k) ?_
              show own_Go p e below _ (T13.setTop (mkF m 129 #[.val (.int m_), .val (.int ch), .val (.int en), .val w2, .val w4, .val w6, .val w8, .val w10, .val w12] [w4, w2, (.ref b13), (.ref b13)]))
              refine own_go (fun t k => XS.aload X13.here hx rfl (hb hby d8_129) rfl r_w6 k) ?_
              show own_Go p e below _ (T13.setTop (mkF m 131 #[.val (.int m_), .val (.int ch), .val (.int en), .val w2, .val w4, .val w6, .val w8, .val w10, .val w12] [w6, w4, w2, (.ref b13), (.ref b13)]))
              refine own_go (fun t k => XS.aload X13.here hx rfl (hb hby d8_131) rfl r_w8 k) ?_
              show own_Go p e below _ (T13.setTop (mkF m 133 #[.val (.int m_), .val (.int ch), .val (.int en), .val w2, .val w4, .val w6, .val w8, .val w10, .val w12] [w8, w6, w4, w2, (.ref b13), (.ref b13)]))
              refine own_go (fun t k => XS.aload X13.here hx rfl (hb hby d8_133) rfl r_w10 k) ?_
              show own_Go p e below _ (T13.setTop (mkF m 135 #[.val (.int m_), .val (.int ch), .val (.int en), .val w2, .val w4, .val w6, .val w8, .val w10, .val w12] [w10, w8, w6, w4, w2, (.ref b13), (.ref b13)]))
              refine own_go (fun t k => XS.aload X13.here hx rfl (hb hby d8_135) rfl r_w12 k) ?_
              show own_Go p e below _ (T13.setTop (mkF m 137 #[.val (.int m_), .val (.int ch), .val (.int en), .val w2, .val w4, .val w6, .val w8, .val w10, .val w12] [w12, w10, w8, w6, w4, w2, (.ref b13), (.ref b13)]))
              obtain ⟨_, _, ⟨T14, L14, k14, n14⟩, -, X14, ⟨Lc14, hQ14, l14, y14, z14⟩, st14⟩ := X13.specialBack hx (y := (⟨"com/example/tariff_reader/tariffreader/text/Qualifiers", "<init>", "(Ljava/lang/String;Ljava/lang/String;Ljava/lang/String;Lcom/example/tariff_reader/tariffreader/model/Direction;Ljava/lang/String;Lcom/example/tariff_reader/tariffreader/model/Unit;)V"⟩ : MethodName)) rfl hown10 (mvT hZ10 (hw _ (List.mem_of_getElem? (i := 16) rfl))) (mvT hZ10 (hw _ (List.mem_of_getElem? (i := 17) rfl))) (mvT hZ10 (hw _ (List.mem_of_getElem? (i := 18) rfl))) (by decide) (backOf (W := 1) (rm7 l Z a0 hw [] b13 w2 w4 w6 w8 w10 w12 h13 n0 sz13 ⟨A13, F13_area, F13_schedule, F13_traffic, F13_direction, F13_band, F13_unit⟩ g_b13 r_w2 r_w4 r_w6 r_w8 r_w10 r_w12) hZ10 (hw _ (List.mem_of_getElem? (i := 18) rfl)) (hw _ (List.mem_of_getElem? (i := 15) rfl)) (by decide) (by decide)) (g := (mkF m 137 #[.val (.int m_), .val (.int ch), .val (.int en), .val w2, .val w4, .val w6, .val w8, .val w10, .val w12] [w12, w10, w8, w6, w4, w2, (.ref b13), (.ref b13)])) rfl (by rw [hml]; rfl) (Steps.refl _) (a := b13) (argsL := [w2, w4, w6, w8, w10, w12]) (rest := [(.ref b13)]) (lenOf pd8_3 rfl) rfl (by show 2 * 0 + _ ≤ _; exact Nat.le_of_eq rfl) (hb hby d8_137) (fun _ _ => ⟨rfl, e13, (by decide : 0 + 6 + 6 + 6 + 6 + 1 + 0 ≤ _), (by decide : 0 + 12 + 12 + 12 + 12 + 6 + 0 ≤ _)⟩)
              dsimp only [Pt.U, Pt.locs, Pt.cells, Pt.slots] at X14 l14 y14 z14 st14 hQ14
              subst l14 y14 z14
              obtain ⟨rfl, Nq14, K14, G14⟩ := hQ14
              have N14 := Fr.app N12 Nq14
              refine own_go (fun t k => st14.trans k) ?_
              have XO__14 := XO__13.keep K14 (allS g_b13 all0)
              have A13__14 := A13.keep K14
              have hR14 := hR13.trans (CHr.keep K14 (show ∀ y ∈ ([b13] : List Addr), Safe Z own_EL T10.vm h13 y from (sfS (Safe.exa hZ10.alike A13 (by decide) (by decide)) sf0)) hC13)
              have hC14 := hR14.1
              have KP14 := KP13.trans K14 (allS (Or.inr sz_b13) all0)
              have sz14 := Nat.le_trans sz13 K14.1
              have hk14 := Nat.le_trans hk13 K14.1
              show own_Go p e below _ (T14.setTop (mkF m 140 #[.val (.int m_), .val (.int ch), .val (.int en), .val w2, .val w4, .val w6, .val w8, .val w10, .val w12] [(.ref b13)]))
              have hF : CHr Z own_EL s.vm s.heap T14.vm T14.heap := by rw [hh]; exact hR14.trans (CHv.at X14 hZ10 hEL hC14)
              exact own_retAH X14 hx Bd.returns rfl rfl (hb hby d8_140) hS10 hk14 (⟨_, _, _, _, _, _, _, rfl, N14, KP14, sz_b13, G14, r_w2, r_w4, r_w6, r_w8, r_w10, r_w12, i_w2.trans hj11, i_w4.trans hj27, i_w6.trans hj47, i_w8.trans hj68, i_w10.trans hj88, i_w12.trans hj109⟩) (hF) (by decide) (by decide)
            show own_Go p e below _ (T10.setTop (mkF m 97 #[.val (.int m_), .val (.int ch), .val (.int en), .val w2, .val w4, .val w6, .val w8, .val w10, .unset] []))
            refine own_go (fun t k => XS.iloadN X10.here hx rfl (hb hby d8_97) rfl k) ?_
            show own_Go p e below _ (T10.setTop (mkF m 98 #[.val (.int m_), .val (.int ch), .val (.int en), .val w2, .val w4, .val w6, .val w8, .val w10, .unset] [(.int m_)]))
            refine own_go (fun t k => XS.bipush X10.here hx rfl (hb hby d8_98) k) ?_
            show own_Go p e below _ (T10.setTop (mkF m 100 #[.val (.int m_), .val (.int ch), .val (.int en), .val w2, .val w4, .val w6, .val w8, .val w10, .unset] [(.int (32 : Int32)), (.int m_)]))
            refine own_go (fun t k => XS.iand X10.here hx rfl (hb hby d8_100) rfl k) ?_
            show own_Go p e below _ (T10.setTop (mkF m 101 #[.val (.int m_), .val (.int ch), .val (.int en), .val w2, .val w4, .val w6, .val w8, .val w10, .unset] [(.int (m_ &&& (32 : Int32)))]))
            by_cases hc101 : (m_ &&& (32 : Int32)) = (0 : Int32)
            · refine own_go (fun t k => XS.ifYes X10.here hx rfl (pc0 := 101) (pc' := 108) rfl (hb hby d8_101) rfl ((if0 _ _).trans (teq hc101).1) (by decide) (by decide) k) ?_
              show own_Go p e below _ (T10.setTop (mkF m 108 #[.val (.int m_), .val (.int ch), .val (.int en), .val w2, .val w4, .val w6, .val w8, .val w10, .unset] []))
              refine own_go (fun t k => XS.iconst X10.here hx rfl (hb hby d8_108) k) ?_
              exact J109 _ ⟨fun _ => hc101, fun _ => rfl⟩
            · refine own_go (fun t k => XS.ifNo X10.here hx rfl (hb hby d8_101) rfl ((if0 _ _).trans (feq hc101).1) k) ?_
              show own_Go p e below _ (T10.setTop (mkF m 104 #[.val (.int m_), .val (.int ch), .val (.int en), .val w2, .val w4, .val w6, .val w8, .val w10, .unset] []))
              refine own_go (fun t k => XS.iconst X10.here hx rfl (hb hby d8_104) k) ?_
              show own_Go p e below _ (T10.setTop (mkF m 105 #[.val (.int m_), .val (.int ch), .val (.int en), .val w2, .val w4, .val w6, .val w8, .val w10, .unset] [(.int (1 : Int32))]))
              refine own_go (fun t k => XS.goto X10.here hx rfl (pc0 := 105) (pc' := 109) rfl (hb hby d8_105) (by decide) (by decide) k) ?_
              exact J109 _ ⟨fun q => absurd q (by decide), fun q => absurd q hc101⟩
          show own_Go p e below _ (T8.setTop (mkF m 76 #[.val (.int m_), .val (.int ch), .val (.int en), .val w2, .val w4, .val w6, .val w8, .unset, .unset] []))
          refine own_go (fun t k => XS.iloadN X8.here hx rfl (hb hby d8_76) rfl k) ?_
          show own_Go p e below _ (T8.setTop (mkF m 77 #[.val (.int m_), .val (.int ch), .val (.int en), .val w2, .val w4, .val w6, .val w8, .unset, .unset] [(.int m_)]))
          refine own_go (fun t k => XS.bipush X8.here hx rfl (hb hby d8_77) k) ?_
          show own_Go p e below _ (T8.setTop (mkF m 79 #[.val (.int m_), .val (.int ch), .val (.int en), .val w2, .val w4, .val w6, .val w8, .unset, .unset] [(.int (16 : Int32)), (.int m_)]))
          refine own_go (fun t k => XS.iand X8.here hx rfl (hb hby d8_79) rfl k) ?_
          show own_Go p e below _ (T8.setTop (mkF m 80 #[.val (.int m_), .val (.int ch), .val (.int en), .val w2, .val w4, .val w6, .val w8, .unset, .unset] [(.int (m_ &&& (16 : Int32)))]))
          by_cases hc80 : (m_ &&& (16 : Int32)) = (0 : Int32)
          · refine own_go (fun t k => XS.ifYes X8.here hx rfl (pc0 := 80) (pc' := 87) rfl (hb hby d8_80) rfl ((if0 _ _).trans (teq hc80).1) (by decide) (by decide) k) ?_
            show own_Go p e below _ (T8.setTop (mkF m 87 #[.val (.int m_), .val (.int ch), .val (.int en), .val w2, .val w4, .val w6, .val w8, .unset, .unset] []))
            refine own_go (fun t k => XS.iconst X8.here hx rfl (hb hby d8_87) k) ?_
            exact J88 _ ⟨fun _ => hc80, fun _ => rfl⟩
          · refine own_go (fun t k => XS.ifNo X8.here hx rfl (hb hby d8_80) rfl ((if0 _ _).trans (feq hc80).1) k) ?_
            show own_Go p e below _ (T8.setTop (mkF m 83 #[.val (.int m_), .val (.int ch), .val (.int en), .val w2, .val w4, .val w6, .val w8, .unset, .unset] []))
            refine own_go (fun t k => XS.iconst X8.here hx rfl (hb hby d8_83) k) ?_
            show own_Go p e below _ (T8.setTop (mkF m 84 #[.val (.int m_), .val (.int ch), .val (.int en), .val w2, .val w4, .val w6, .val w8, .unset, .unset] [(.int (1 : Int32))]))
            refine own_go (fun t k => XS.goto X8.here hx rfl (pc0 := 84) (pc' := 88) rfl (hb hby d8_84) (by decide) (by decide) k) ?_
            exact J88 _ ⟨fun q => absurd q (by decide), fun q => absurd q hc80⟩
        show own_Go p e below _ (T6.setTop (mkF m 56 #[.val (.int m_), .val (.int ch), .val (.int en), .val w2, .val w4, .val w6, .unset, .unset, .unset] []))
        refine own_go (fun t k => XS.iloadN X6.here hx rfl (hb hby d8_56) rfl k) ?_
        show own_Go p e below _ (T6.setTop (mkF m 57 #[.val (.int m_), .val (.int ch), .val (.int en), .val w2, .val w4, .val w6, .unset, .unset, .unset] [(.int m_)]))
        refine own_go (fun t k => XS.bipush X6.here hx rfl (hb hby d8_57) k) ?_
        show own_Go p e below _ (T6.setTop (mkF m 59 #[.val (.int m_), .val (.int ch), .val (.int en), .val w2, .val w4, .val w6, .unset, .unset, .unset] [(.int (8 : Int32)), (.int m_)]))
        refine own_go (fun t k => XS.iand X6.here hx rfl (hb hby d8_59) rfl k) ?_
        show own_Go p e below _ (T6.setTop (mkF m 60 #[.val (.int m_), .val (.int ch), .val (.int en), .val w2, .val w4, .val w6, .unset, .unset, .unset] [(.int (m_ &&& (8 : Int32)))]))
        by_cases hc60 : (m_ &&& (8 : Int32)) = (0 : Int32)
        · refine own_go (fun t k => XS.ifYes X6.here hx rfl (pc0 := 60) (pc' := 67) rfl (hb hby d8_60) rfl ((if0 _ _).trans (teq hc60).1) (by decide) (by decide) k) ?_
          show own_Go p e below _ (T6.setTop (mkF m 67 #[.val (.int m_), .val (.int ch), .val (.int en), .val w2, .val w4, .val w6, .unset, .unset, .unset] []))
          refine own_go (fun t k => XS.iconst X6.here hx rfl (hb hby d8_67) k) ?_
          exact J68 _ ⟨fun _ => hc60, fun _ => rfl⟩
        · refine own_go (fun t k => XS.ifNo X6.here hx rfl (hb hby d8_60) rfl ((if0 _ _).trans (feq hc60).1) k) ?_
          show own_Go p e below _ (T6.setTop (mkF m 63 #[.val (.int m_), .val (.int ch), .val (.int en), .val w2, .val w4, .val w6, .unset, .unset, .unset] []))
          refine own_go (fun t k => XS.iconst X6.here hx rfl (hb hby d8_63) k) ?_
          show own_Go p e below _ (T6.setTop (mkF m 64 #[.val (.int m_), .val (.int ch), .val (.int en), .val w2, .val w4, .val w6, .unset, .unset, .unset] [(.int (1 : Int32))]))
          refine own_go (fun t k => XS.goto X6.here hx rfl (pc0 := 64) (pc' := 68) rfl (hb hby d8_64) (by decide) (by decide) k) ?_
          exact J68 _ ⟨fun q => absurd q (by decide), fun q => absurd q hc60⟩
      show own_Go p e below _ (T4.setTop (mkF m 36 #[.val (.int m_), .val (.int ch), .val (.int en), .val w2, .val w4, .unset, .unset, .unset, .unset] []))
      refine own_go (fun t k => XS.iloadN X4.here hx rfl (hb hby d8_36) rfl k) ?_
      show own_Go p e below _ (T4.setTop (mkF m 37 #[.val (.int m_), .val (.int ch), .val (.int en), .val w2, .val w4, .unset, .unset, .unset, .unset] [(.int m_)]))
      refine own_go (fun t k => XS.iconst X4.here hx rfl (hb hby d8_37) k) ?_
      show own_Go p e below _ (T4.setTop (mkF m 38 #[.val (.int m_), .val (.int ch), .val (.int en), .val w2, .val w4, .unset, .unset, .unset, .unset] [(.int (4 : Int32)), (.int m_)]))
      refine own_go (fun t k => XS.iand X4.here hx rfl (hb hby d8_38) rfl k) ?_
      show own_Go p e below _ (T4.setTop (mkF m 39 #[.val (.int m_), .val (.int ch), .val (.int en), .val w2, .val w4, .unset, .unset, .unset, .unset] [(.int (m_ &&& (4 : Int32)))]))
      by_cases hc39 : (m_ &&& (4 : Int32)) = (0 : Int32)
      · refine own_go (fun t k => XS.ifYes X4.here hx rfl (pc0 := 39) (pc' := 46) rfl (hb hby d8_39) rfl ((if0 _ _).trans (teq hc39).1) (by decide) (by decide) k) ?_
        show own_Go p e below _ (T4.setTop (mkF m 46 #[.val (.int m_), .val (.int ch), .val (.int en), .val w2, .val w4, .unset, .unset, .unset, .unset] []))
        refine own_go (fun t k => XS.iconst X4.here hx rfl (hb hby d8_46) k) ?_
        exact J47 _ ⟨fun _ => hc39, fun _ => rfl⟩
      · refine own_go (fun t k => XS.ifNo X4.here hx rfl (hb hby d8_39) rfl ((if0 _ _).trans (feq hc39).1) k) ?_
        show own_Go p e below _ (T4.setTop (mkF m 42 #[.val (.int m_), .val (.int ch), .val (.int en), .val w2, .val w4, .unset, .unset, .unset, .unset] []))
        refine own_go (fun t k => XS.iconst X4.here hx rfl (hb hby d8_42) k) ?_
        show own_Go p e below _ (T4.setTop (mkF m 43 #[.val (.int m_), .val (.int ch), .val (.int en), .val w2, .val w4, .unset, .unset, .unset, .unset] [(.int (1 : Int32))]))
        refine own_go (fun t k => XS.goto X4.here hx rfl (pc0 := 43) (pc' := 47) rfl (hb hby d8_43) (by decide) (by decide) k) ?_
        exact J47 _ ⟨fun q => absurd q (by decide), fun q => absurd q hc39⟩
    show own_Go p e below _ (T2.setTop (mkF m 16 #[.val (.int m_), .val (.int ch), .val (.int en), .val w2, .unset, .unset, .unset, .unset, .unset] []))
    refine own_go (fun t k => XS.iloadN X2.here hx rfl (hb hby d8_16) rfl k) ?_
    show own_Go p e below _ (T2.setTop (mkF m 17 #[.val (.int m_), .val (.int ch), .val (.int en), .val w2, .unset, .unset, .unset, .unset, .unset] [(.int m_)]))
    refine own_go (fun t k => XS.iconst X2.here hx rfl (hb hby d8_17) k) ?_
    show own_Go p e below _ (T2.setTop (mkF m 18 #[.val (.int m_), .val (.int ch), .val (.int en), .val w2, .unset, .unset, .unset, .unset, .unset] [(.int (2 : Int32)), (.int m_)]))
    refine own_go (fun t k => XS.iand X2.here hx rfl (hb hby d8_18) rfl k) ?_
    show own_Go p e below _ (T2.setTop (mkF m 19 #[.val (.int m_), .val (.int ch), .val (.int en), .val w2, .unset, .unset, .unset, .unset, .unset] [(.int (m_ &&& (2 : Int32)))]))
    by_cases hc19 : (m_ &&& (2 : Int32)) = (0 : Int32)
    · refine own_go (fun t k => XS.ifYes X2.here hx rfl (pc0 := 19) (pc' := 26) rfl (hb hby d8_19) rfl ((if0 _ _).trans (teq hc19).1) (by decide) (by decide) k) ?_
      show own_Go p e below _ (T2.setTop (mkF m 26 #[.val (.int m_), .val (.int ch), .val (.int en), .val w2, .unset, .unset, .unset, .unset, .unset] []))
      refine own_go (fun t k => XS.iconst X2.here hx rfl (hb hby d8_26) k) ?_
      exact J27 _ ⟨fun _ => hc19, fun _ => rfl⟩
    · refine own_go (fun t k => XS.ifNo X2.here hx rfl (hb hby d8_19) rfl ((if0 _ _).trans (feq hc19).1) k) ?_
      show own_Go p e below _ (T2.setTop (mkF m 22 #[.val (.int m_), .val (.int ch), .val (.int en), .val w2, .unset, .unset, .unset, .unset, .unset] []))
      refine own_go (fun t k => XS.iconst X2.here hx rfl (hb hby d8_22) k) ?_
      show own_Go p e below _ (T2.setTop (mkF m 23 #[.val (.int m_), .val (.int ch), .val (.int en), .val w2, .unset, .unset, .unset, .unset, .unset] [(.int (1 : Int32))]))
      refine own_go (fun t k => XS.goto X2.here hx rfl (pc0 := 23) (pc' := 27) rfl (hb hby d8_23) (by decide) (by decide) k) ?_
      exact J27 _ ⟨fun q => absurd q (by decide), fun q => absurd q hc19⟩
  show own_Go p e below _ (s₁.setTop (mkF m 0 #[.val (.int m_), .val (.int ch), .val (.int en), .unset, .unset, .unset, .unset, .unset, .unset] []))
  refine own_go (fun t k => XS.iloadN X0.here hx rfl (hb hby d8_0) rfl k) ?_
  show own_Go p e below _ (s₁.setTop (mkF m 1 #[.val (.int m_), .val (.int ch), .val (.int en), .unset, .unset, .unset, .unset, .unset, .unset] [(.int m_)]))
  refine own_go (fun t k => XS.iconst X0.here hx rfl (hb hby d8_1) k) ?_
  show own_Go p e below _ (s₁.setTop (mkF m 2 #[.val (.int m_), .val (.int ch), .val (.int en), .unset, .unset, .unset, .unset, .unset, .unset] [(.int (1 : Int32)), (.int m_)]))
  refine own_go (fun t k => XS.iand X0.here hx rfl (hb hby d8_2) rfl k) ?_
  show own_Go p e below _ (s₁.setTop (mkF m 3 #[.val (.int m_), .val (.int ch), .val (.int en), .unset, .unset, .unset, .unset, .unset, .unset] [(.int (m_ &&& (1 : Int32)))]))
  by_cases hc3 : (m_ &&& (1 : Int32)) = (0 : Int32)
  · refine own_go (fun t k => XS.ifYes X0.here hx rfl (pc0 := 3) (pc' := 10) rfl (hb hby d8_3) rfl ((if0 _ _).trans (teq hc3).1) (by decide) (by decide) k) ?_
    show own_Go p e below _ (s₁.setTop (mkF m 10 #[.val (.int m_), .val (.int ch), .val (.int en), .unset, .unset, .unset, .unset, .unset, .unset] []))
    refine own_go (fun t k => XS.iconst X0.here hx rfl (hb hby d8_10) k) ?_
    exact J11 _ ⟨fun _ => hc3, fun _ => rfl⟩
  · refine own_go (fun t k => XS.ifNo X0.here hx rfl (hb hby d8_3) rfl ((if0 _ _).trans (feq hc3).1) k) ?_
    show own_Go p e below _ (s₁.setTop (mkF m 6 #[.val (.int m_), .val (.int ch), .val (.int en), .unset, .unset, .unset, .unset, .unset, .unset] []))
    refine own_go (fun t k => XS.iconst X0.here hx rfl (hb hby d8_6) k) ?_
    show own_Go p e below _ (s₁.setTop (mkF m 7 #[.val (.int m_), .val (.int ch), .val (.int en), .unset, .unset, .unset, .unset, .unset, .unset] [(.int (1 : Int32))]))
    refine own_go (fun t k => XS.goto X0.here hx rfl (pc0 := 7) (pc' := 11) rfl (hb hby d8_7) (by decide) (by decide) k) ?_
    exact J11 _ ⟨fun q => absurd q (by decide), fun q => absurd q hc3⟩
def own_ov (x1 x2 x3 x4 x5 x6 y1 y2 y3 y4 y5 y6 : Value) : Int32 := if (own_bo x1 y1 || own_bo x2 y2 || own_bo x3 y3 || own_bo x4 y4 || own_bo x5 y5 || own_bo x6 y6) = true then 1 else 0
theorem d9_0 : decode prog_63_method_3_code 0 = .ok (.aload_n 0, 1) := by decide +kernel
theorem d9_1 : decode prog_63_method_3_code 1 = .ok (.getfield 7, 3) := by decide +kernel
theorem d9_4 : decode prog_63_method_3_code 4 = .ok (.ifnull 10, 3) := by decide +kernel
theorem d9_7 : decode prog_63_method_3_code 7 = .ok (.aload_n 1, 1) := by decide +kernel
theorem d9_8 : decode prog_63_method_3_code 8 = .ok (.getfield 7, 3) := by decide +kernel
theorem d9_11 : decode prog_63_method_3_code 11 = .ok (.ifnonnull 73, 3) := by decide +kernel
theorem d9_14 : decode prog_63_method_3_code 14 = .ok (.aload_n 0, 1) := by decide +kernel
theorem d9_15 : decode prog_63_method_3_code 15 = .ok (.getfield 13, 3) := by decide +kernel
theorem d9_18 : decode prog_63_method_3_code 18 = .ok (.ifnull 10, 3) := by decide +kernel
theorem d9_21 : decode prog_63_method_3_code 21 = .ok (.aload_n 1, 1) := by decide +kernel
theorem d9_22 : decode prog_63_method_3_code 22 = .ok (.getfield 13, 3) := by decide +kernel
theorem d9_25 : decode prog_63_method_3_code 25 = .ok (.ifnonnull 59, 3) := by decide +kernel
theorem d9_28 : decode prog_63_method_3_code 28 = .ok (.aload_n 0, 1) := by decide +kernel
theorem d9_29 : decode prog_63_method_3_code 29 = .ok (.getfield 16, 3) := by decide +kernel
theorem d9_32 : decode prog_63_method_3_code 32 = .ok (.ifnull 10, 3) := by decide +kernel
theorem d9_35 : decode prog_63_method_3_code 35 = .ok (.aload_n 1, 1) := by decide +kernel
theorem d9_36 : decode prog_63_method_3_code 36 = .ok (.getfield 16, 3) := by decide +kernel
theorem d9_39 : decode prog_63_method_3_code 39 = .ok (.ifnonnull 45, 3) := by decide +kernel
theorem d9_42 : decode prog_63_method_3_code 42 = .ok (.aload_n 0, 1) := by decide +kernel
theorem d9_43 : decode prog_63_method_3_code 43 = .ok (.getfield 19, 3) := by decide +kernel
theorem d9_46 : decode prog_63_method_3_code 46 = .ok (.ifnull 10, 3) := by decide +kernel
theorem d9_49 : decode prog_63_method_3_code 49 = .ok (.aload_n 1, 1) := by decide +kernel
theorem d9_50 : decode prog_63_method_3_code 50 = .ok (.getfield 19, 3) := by decide +kernel
theorem d9_53 : decode prog_63_method_3_code 53 = .ok (.ifnonnull 31, 3) := by decide +kernel
theorem d9_56 : decode prog_63_method_3_code 56 = .ok (.aload_n 0, 1) := by decide +kernel
theorem d9_57 : decode prog_63_method_3_code 57 = .ok (.getfield 23, 3) := by decide +kernel
theorem d9_60 : decode prog_63_method_3_code 60 = .ok (.ifnull 10, 3) := by decide +kernel
theorem d9_63 : decode prog_63_method_3_code 63 = .ok (.aload_n 1, 1) := by decide +kernel
theorem d9_64 : decode prog_63_method_3_code 64 = .ok (.getfield 23, 3) := by decide +kernel
theorem d9_67 : decode prog_63_method_3_code 67 = .ok (.ifnonnull 17, 3) := by decide +kernel
theorem d9_70 : decode prog_63_method_3_code 70 = .ok (.aload_n 0, 1) := by decide +kernel
theorem d9_71 : decode prog_63_method_3_code 71 = .ok (.getfield 26, 3) := by decide +kernel
theorem d9_74 : decode prog_63_method_3_code 74 = .ok (.ifnull 14, 3) := by decide +kernel
theorem d9_77 : decode prog_63_method_3_code 77 = .ok (.aload_n 1, 1) := by decide +kernel
theorem d9_78 : decode prog_63_method_3_code 78 = .ok (.getfield 26, 3) := by decide +kernel
theorem d9_81 : decode prog_63_method_3_code 81 = .ok (.ifnull 7, 3) := by decide +kernel
theorem d9_84 : decode prog_63_method_3_code 84 = .ok (.iconst 1, 1) := by decide +kernel
theorem d9_85 : decode prog_63_method_3_code 85 = .ok (.goto 4, 3) := by decide +kernel
theorem d9_88 : decode prog_63_method_3_code 88 = .ok (.iconst 0, 1) := by decide +kernel
theorem d9_89 : decode prog_63_method_3_code 89 = .ok (.ireturn, 1) := by decide +kernel
theorem pn9 : plainName "com/example/tariff_reader/tariffreader/text/Qualifiers" = true := by first | (simp [plainName, overriddenIn]; done) | decide +kernel
theorem ef9 (m : MethodId) (x0 : Addr) (x1 : Addr) : entryFrame m #[(.ref x0), (.ref x1)] 2 = mkF m 0 #[.val (.ref x0), .val (.ref x1)] [] := by first | (simp [entryFrame, mkF, argsToLocals, Value.category]; done) | rfl
def own_Q9 (x1 x2 x3 x4 x5 x6 y1 y2 y3 y4 y5 y6 : Value) (h0 : Heap) (n0 : Nat) (v : Option Value) (h : Heap) (L : List Loc) : Prop := v = some (.int (own_ov x1 x2 x3 x4 x5 x6 y1 y2 y3 y4 y5 y6)) ∧ Fr n0 L ∧ h = h0
set_option maxRecDepth 65536 in
set_option maxHeartbeats 40000000 in
theorem rm9 (l : Launch) (Z : State) (a0 : Array Value) (hw : ∀ d ∈ tables_1, d.before a0 Z = true) (ws : List Jvm.Cond) (oa ob : Addr) (x1 x2 x3 x4 x5 x6 y1 y2 y3 y4 y5 y6 : Value) (h0 : Heap) (n0 : Nat) (Z0 : n0 ≤ h0.size) (Ga : own_Ql Z h0 oa x1 x2 x3 x4 x5 x6) (Gb : own_Ql Z h0 ob y1 y2 y3 y4 y5 y6) (r_x1 : x1.isRef = true) (r_x2 : x2.isRef = true) (r_x3 : x3.isRef = true) (r_x4 : x4.isRef = true) (r_x5 : x5.isRef = true) (r_x6 : x6.isRef = true) (r_y1 : y1.isRef = true) (r_y2 : y2.isRef = true) (r_y3 : y3.isRef = true) (r_y4 : y4.isRef = true) (r_y5 : y5.isRef = true) (r_y6 : y6.isRef = true) :
    MetFree l (⟨"com/example/tariff_reader/tariffreader/text/Qualifiers", "overlaps", "(Lcom/example/tariff_reader/tariffreader/text/Qualifiers;)Z"⟩ : MethodName) (head1 (Jvm.Cond.code (⟨"com/example/tariff_reader/tariffreader/text/Qualifiers", "overlaps", "(Lcom/example/tariff_reader/tariffreader/text/Qualifiers;)Z"⟩ : MethodName) prog_63_method_3_code 2 (some .boolean) :: ws) ({ frames := 0, cells := 0, slots := 0, locals := 0 } : Room)) (fun a U => a = #[(.ref oa), (.ref ob)] ∧ Z.Warmed39 U.vm ∧ U.heap = h0) (fun _ _ _ _ _ => True) (fun _ U o U' => ∃ v L, o = .returned v ∧ own_Q9 x1 x2 x3 x4 x5 x6 y1 y2 y3 y4 y5 y6 h0 n0 v U'.heap L ∧ FrameEnd U o U' L ({ frames := 0, cells := 0, slots := 0, locals := 0 } : Room).cells ({ frames := 0, cells := 0, slots := 0, locals := 0 } : Room).slots) := by
  refine MetFree.of_bodySF (plainFor_of_name pn9) hisR ?_
  intro p e s m args below meth c s₁ Bd hml0 hP hK
  obtain ⟨rfl, hZ, hh⟩ := hP
  have hx := Bd.exec
  have hby := Bd.bytes
  have hml : c.maxLocals = 2 := hml0
  have hown : s.vm.findClass "com/example/tariff_reader/tariffreader/text/Qualifiers" = some m.cls := findClass_of_methodNamed Bd.named
  have hnm := (name_of_methodNamed Bd.named Bd.method).1
  have hlk : meth.locks = false := Bd.notSynchronized
  have X0 : Stand p l e ({ frames := 0, cells := 0, slots := 0, locals := 0 } : Room) s m #[(.ref oa), (.ref ob)] below meth c s₁ [] 0 0 := Stand.of_body Bd
  have e0 : s₁.heap = h0 := by rw [← hh, Bd.state]; rfl
  have N0 := Fr.nil n0
  refine own_go (fun t k => castTop (ef9 m oa ob) k) ?_
  have J14 : ∀ (TJ1 : State) (lo1 : List Loc) (XJ1 : Stand p l e ({ frames := 0, cells := 0, slots := 0, locals := 0 } : Room) s m #[(.ref oa), (.ref ob)] below meth c TJ1 lo1 (0) (0)) (NJ1 : Fr n0 lo1) (eJ1 : TJ1.heap = h0) (hb1 : own_bo x1 y1 = false), own_Go p e below (fun o U' => ∃ v L, o = .returned v ∧ own_Q9 x1 x2 x3 x4 x5 x6 y1 y2 y3 y4 y5 y6 h0 n0 v U'.heap L ∧ FrameEnd s o U' L ({ frames := 0, cells := 0, slots := 0, locals := 0 } : Room).cells ({ frames := 0, cells := 0, slots := 0, locals := 0 } : Room).slots) (TJ1.setTop (mkF m 14 #[.val (.ref oa), .val (.ref ob)] [])) := by
    intro TJ1 lo1 XJ1 NJ1 eJ1 hb1
    have J28 : ∀ (TJ2 : State) (lo2 : List Loc) (XJ2 : Stand p l e ({ frames := 0, cells := 0, slots := 0, locals := 0 } : Room) s m #[(.ref oa), (.ref ob)] below meth c TJ2 lo2 (0) (0)) (NJ2 : Fr n0 lo2) (eJ2 : TJ2.heap = h0) (hb2 : own_bo x2 y2 = false), own_Go p e below (fun o U' => ∃ v L, o = .returned v ∧ own_Q9 x1 x2 x3 x4 x5 x6 y1 y2 y3 y4 y5 y6 h0 n0 v U'.heap L ∧ FrameEnd s o U' L ({ frames := 0, cells := 0, slots := 0, locals := 0 } : Room).cells ({ frames := 0, cells := 0, slots := 0, locals := 0 } : Room).slots) (TJ2.setTop (mkF m 28 #[.val (.ref oa), .val (.ref ob)] [])) := by
      intro TJ2 lo2 XJ2 NJ2 eJ2 hb2
      have J42 : ∀ (TJ3 : State) (lo3 : List Loc) (XJ3 : Stand p l e ({ frames := 0, cells := 0, slots := 0, locals := 0 } : Room) s m #[(.ref oa), (.ref ob)] below meth c TJ3 lo3 (0) (0)) (NJ3 : Fr n0 lo3) (eJ3 : TJ3.heap = h0) (hb3 : own_bo x3 y3 = false), own_Go p e below (fun o U' => ∃ v L, o = .returned v ∧ own_Q9 x1 x2 x3 x4 x5 x6 y1 y2 y3 y4 y5 y6 h0 n0 v U'.heap L ∧ FrameEnd s o U' L ({ frames := 0, cells := 0, slots := 0, locals := 0 } : Room).cells ({ frames := 0, cells := 0, slots := 0, locals := 0 } : Room).slots) (TJ3.setTop (mkF m 42 #[.val (.ref oa), .val (.ref ob)] [])) := by
        intro TJ3 lo3 XJ3 NJ3 eJ3 hb3
        have J56 : ∀ (TJ4 : State) (lo4 : List Loc) (XJ4 : Stand p l e ({ frames := 0, cells := 0, slots := 0, locals := 0 } : Room) s m #[(.ref oa), (.ref ob)] below meth c TJ4 lo4 (0) (0)) (NJ4 : Fr n0 lo4) (eJ4 : TJ4.heap = h0) (hb4 : own_bo x4 y4 = false), own_Go p e below (fun o U' => ∃ v L, o = .returned v ∧ own_Q9 x1 x2 x3 x4 x5 x6 y1 y2 y3 y4 y5 y6 h0 n0 v U'.heap L ∧ FrameEnd s o U' L ({ frames := 0, cells := 0, slots := 0, locals := 0 } : Room).cells ({ frames := 0, cells := 0, slots := 0, locals := 0 } : Room).slots) (TJ4.setTop (mkF m 56 #[.val (.ref oa), .val (.ref ob)] [])) := by
          intro TJ4 lo4 XJ4 NJ4 eJ4 hb4
          have J70 : ∀ (TJ5 : State) (lo5 : List Loc) (XJ5 : Stand p l e ({ frames := 0, cells := 0, slots := 0, locals := 0 } : Room) s m #[(.ref oa), (.ref ob)] below meth c TJ5 lo5 (0) (0)) (NJ5 : Fr n0 lo5) (eJ5 : TJ5.heap = h0) (hb5 : own_bo x5 y5 = false), own_Go p e below (fun o U' => ∃ v L, o = .returned v ∧ own_Q9 x1 x2 x3 x4 x5 x6 y1 y2 y3 y4 y5 y6 h0 n0 v U'.heap L ∧ FrameEnd s o U' L ({ frames := 0, cells := 0, slots := 0, locals := 0 } : Room).cells ({ frames := 0, cells := 0, slots := 0, locals := 0 } : Room).slots) (TJ5.setTop (mkF m 70 #[.val (.ref oa), .val (.ref ob)] [])) := by
            intro TJ5 lo5 XJ5 NJ5 eJ5 hb5
            show own_Go p e below _ (TJ5.setTop (mkF m 70 #[.val (.ref oa), .val (.ref ob)] []))
            refine own_go (fun t k => XS.aloadN XJ5.here hx rfl (hb hby d9_70) rfl rfl k) ?_
            show own_Go p e below _ (TJ5.setTop (mkF m 71 #[.val (.ref oa), .val (.ref ob)] [(.ref oa)]))
            obtain ⟨T6, X6, e6, st6⟩ := getF XJ5 hx hZ hown (host := "") (Or.inl (hw _ (List.mem_of_getElem? (i := 32) rfl))) Via.refl eJ5 Ga.2.2.2.2.2.2 (g := (mkF m 71 #[.val (.ref oa), .val (.ref ob)] [(.ref oa)])) rfl rfl (hb hby d9_71)
            refine own_go (fun t k => st6 t k) ?_
            show own_Go p e below _ (T6.setTop (mkF m 74 #[.val (.ref oa), .val (.ref ob)] [x6]))
            rcases ref_cases r_x6 with rfl | ⟨a_x6, rfl⟩
            · refine own_go (fun t k => XS.ifnullYes X6.here hx rfl (pc0 := 74) (pc' := 88) rfl (hb hby d9_74) rfl (by decide) (by decide) k) ?_
              show own_Go p e below _ (T6.setTop (mkF m 88 #[.val (.ref oa), .val (.ref ob)] []))
              refine own_go (fun t k => XS.iconst X6.here hx rfl (hb hby d9_88) k) ?_
              show own_Go p e below _ (T6.setTop (mkF m 89 #[.val (.ref oa), .val (.ref ob)] [(.int (0 : Int32))]))
              exact own_retN X6 hx (t := .boolean) Bd.returns (by simp) (hb hby d9_89) (by rw [e6]; exact ⟨by simp [own_ov, own_boN, own_boR, own_boS, nar, hb1, hb2, hb3, hb4, hb5], NJ5, rfl⟩) (by decide) (by decide)
            · refine own_go (fun t k => XS.ifnullNo X6.here hx rfl (hb hby d9_74) rfl k) ?_
              show own_Go p e below _ (T6.setTop (mkF m 77 #[.val (.ref oa), .val (.ref ob)] []))
              refine own_go (fun t k => XS.aloadN X6.here hx rfl (hb hby d9_77) rfl rfl k) ?_
              show own_Go p e below _ (T6.setTop (mkF m 78 #[.val (.ref oa), .val (.ref ob)] [(.ref ob)]))
              obtain ⟨T7, X7, e7, st7⟩ := getF X6 hx hZ hown (host := "") (Or.inl (hw _ (List.mem_of_getElem? (i := 32) rfl))) Via.refl e6 Gb.2.2.2.2.2.2 (g := (mkF m 78 #[.val (.ref oa), .val (.ref ob)] [(.ref ob)])) rfl rfl (hb hby d9_78)
              refine own_go (fun t k => st7 t k) ?_
              show own_Go p e below _ (T7.setTop (mkF m 81 #[.val (.ref oa), .val (.ref ob)] [y6]))
              rcases ref_cases r_y6 with rfl | ⟨a_y6, rfl⟩
              · refine own_go (fun t k => XS.ifnullYes X7.here hx rfl (pc0 := 81) (pc' := 88) rfl (hb hby d9_81) rfl (by decide) (by decide) k) ?_
                show own_Go p e below _ (T7.setTop (mkF m 88 #[.val (.ref oa), .val (.ref ob)] []))
                refine own_go (fun t k => XS.iconst X7.here hx rfl (hb hby d9_88) k) ?_
                show own_Go p e below _ (T7.setTop (mkF m 89 #[.val (.ref oa), .val (.ref ob)] [(.int (0 : Int32))]))
                exact own_retN X7 hx (t := .boolean) Bd.returns (by simp) (hb hby d9_89) (by rw [e7]; exact ⟨by simp [own_ov, own_boN, own_boR, own_boS, nar, hb1, hb2, hb3, hb4, hb5], NJ5, rfl⟩) (by decide) (by decide)
              · refine own_go (fun t k => XS.ifnullNo X7.here hx rfl (hb hby d9_81) rfl k) ?_
                show own_Go p e below _ (T7.setTop (mkF m 84 #[.val (.ref oa), .val (.ref ob)] []))
                refine own_go (fun t k => XS.iconst X7.here hx rfl (hb hby d9_84) k) ?_
                show own_Go p e below _ (T7.setTop (mkF m 85 #[.val (.ref oa), .val (.ref ob)] [(.int (1 : Int32))]))
                refine own_go (fun t k => XS.goto X7.here hx rfl (pc0 := 85) (pc' := 89) rfl (hb hby d9_85) (by decide) (by decide) k) ?_
                show own_Go p e below _ (T7.setTop (mkF m 89 #[.val (.ref oa), .val (.ref ob)] [(.int (1 : Int32))]))
                exact own_retN X7 hx (t := .boolean) Bd.returns (by simp) (hb hby d9_89) (by rw [e7]; exact ⟨by simp [own_ov, own_boN, own_boR, own_boS, nar, hb1, hb2, hb3, hb4, hb5], NJ5, rfl⟩) (by decide) (by decide)
          show own_Go p e below _ (TJ4.setTop (mkF m 56 #[.val (.ref oa), .val (.ref ob)] []))
          refine own_go (fun t k => XS.aloadN XJ4.here hx rfl (hb hby d9_56) rfl rfl k) ?_
          show own_Go p e below _ (TJ4.setTop (mkF m 57 #[.val (.ref oa), .val (.ref ob)] [(.ref oa)]))
          obtain ⟨T8, X8, e8, st8⟩ := getF XJ4 hx hZ hown (host := "") (Or.inl (hw _ (List.mem_of_getElem? (i := 30) rfl))) Via.refl eJ4 Ga.2.2.2.2.2.1 (g := (mkF m 57 #[.val (.ref oa), .val (.ref ob)] [(.ref oa)])) rfl rfl (hb hby d9_57)
          refine own_go (fun t k => st8 t k) ?_
          show own_Go p e below _ (T8.setTop (mkF m 60 #[.val (.ref oa), .val (.ref ob)] [x5]))
          rcases ref_cases r_x5 with rfl | ⟨a_x5, rfl⟩
          · refine own_go (fun t k => XS.ifnullYes X8.here hx rfl (pc0 := 60) (pc' := 70) rfl (hb hby d9_60) rfl (by decide) (by decide) k) ?_
            exact J70 _ _ X8 NJ4 e8 rfl
          · refine own_go (fun t k => XS.ifnullNo X8.here hx rfl (hb hby d9_60) rfl k) ?_
            show own_Go p e below _ (T8.setTop (mkF m 63 #[.val (.ref oa), .val (.ref ob)] []))
            refine own_go (fun t k => XS.aloadN X8.here hx rfl (hb hby d9_63) rfl rfl k) ?_
            show own_Go p e below _ (T8.setTop (mkF m 64 #[.val (.ref oa), .val (.ref ob)] [(.ref ob)]))
            obtain ⟨T9, X9, e9, st9⟩ := getF X8 hx hZ hown (host := "") (Or.inl (hw _ (List.mem_of_getElem? (i := 30) rfl))) Via.refl e8 Gb.2.2.2.2.2.1 (g := (mkF m 64 #[.val (.ref oa), .val (.ref ob)] [(.ref ob)])) rfl rfl (hb hby d9_64)
            refine own_go (fun t k => st9 t k) ?_
            show own_Go p e below _ (T9.setTop (mkF m 67 #[.val (.ref oa), .val (.ref ob)] [y5]))
            rcases ref_cases r_y5 with rfl | ⟨a_y5, rfl⟩
            · refine own_go (fun t k => XS.ifnonnullNo X9.here hx rfl (hb hby d9_67) rfl k) ?_
              exact J70 _ _ X9 NJ4 e9 rfl
            · refine own_go (fun t k => XS.ifnonnullYes X9.here hx rfl (pc0 := 67) (pc' := 84) rfl (hb hby d9_67) rfl (by decide) (by decide) k) ?_
              show own_Go p e below _ (T9.setTop (mkF m 84 #[.val (.ref oa), .val (.ref ob)] []))
              refine own_go (fun t k => XS.iconst X9.here hx rfl (hb hby d9_84) k) ?_
              show own_Go p e below _ (T9.setTop (mkF m 85 #[.val (.ref oa), .val (.ref ob)] [(.int (1 : Int32))]))
              refine own_go (fun t k => XS.goto X9.here hx rfl (pc0 := 85) (pc' := 89) rfl (hb hby d9_85) (by decide) (by decide) k) ?_
              show own_Go p e below _ (T9.setTop (mkF m 89 #[.val (.ref oa), .val (.ref ob)] [(.int (1 : Int32))]))
              exact own_retN X9 hx (t := .boolean) Bd.returns (by simp) (hb hby d9_89) (by rw [e9]; exact ⟨by simp [own_ov, own_boN, own_boR, own_boS, nar, hb1, hb2, hb3, hb4], NJ4, rfl⟩) (by decide) (by decide)
        show own_Go p e below _ (TJ3.setTop (mkF m 42 #[.val (.ref oa), .val (.ref ob)] []))
        refine own_go (fun t k => XS.aloadN XJ3.here hx rfl (hb hby d9_42) rfl rfl k) ?_
        show own_Go p e below _ (TJ3.setTop (mkF m 43 #[.val (.ref oa), .val (.ref ob)] [(.ref oa)]))
        obtain ⟨T10, X10, e10, st10⟩ := getF XJ3 hx hZ hown (host := "") (Or.inl (hw _ (List.mem_of_getElem? (i := 28) rfl))) Via.refl eJ3 Ga.2.2.2.2.1 (g := (mkF m 43 #[.val (.ref oa), .val (.ref ob)] [(.ref oa)])) rfl rfl (hb hby d9_43)
        refine own_go (fun t k => st10 t k) ?_
        show own_Go p e below _ (T10.setTop (mkF m 46 #[.val (.ref oa), .val (.ref ob)] [x4]))
        rcases ref_cases r_x4 with rfl | ⟨a_x4, rfl⟩
        · refine own_go (fun t k => XS.ifnullYes X10.here hx rfl (pc0 := 46) (pc' := 56) rfl (hb hby d9_46) rfl (by decide) (by decide) k) ?_
          exact J56 _ _ X10 NJ3 e10 rfl
        · refine own_go (fun t k => XS.ifnullNo X10.here hx rfl (hb hby d9_46) rfl k) ?_
          show own_Go p e below _ (T10.setTop (mkF m 49 #[.val (.ref oa), .val (.ref ob)] []))
          refine own_go (fun t k => XS.aloadN X10.here hx rfl (hb hby d9_49) rfl rfl k) ?_
          show own_Go p e below _ (T10.setTop (mkF m 50 #[.val (.ref oa), .val (.ref ob)] [(.ref ob)]))
          obtain ⟨T11, X11, e11, st11⟩ := getF X10 hx hZ hown (host := "") (Or.inl (hw _ (List.mem_of_getElem? (i := 28) rfl))) Via.refl e10 Gb.2.2.2.2.1 (g := (mkF m 50 #[.val (.ref oa), .val (.ref ob)] [(.ref ob)])) rfl rfl (hb hby d9_50)
          refine own_go (fun t k => st11 t k) ?_
          show own_Go p e below _ (T11.setTop (mkF m 53 #[.val (.ref oa), .val (.ref ob)] [y4]))
          rcases ref_cases r_y4 with rfl | ⟨a_y4, rfl⟩
          · refine own_go (fun t k => XS.ifnonnullNo X11.here hx rfl (hb hby d9_53) rfl k) ?_
            exact J56 _ _ X11 NJ3 e11 rfl
          · refine own_go (fun t k => XS.ifnonnullYes X11.here hx rfl (pc0 := 53) (pc' := 84) rfl (hb hby d9_53) rfl (by decide) (by decide) k) ?_
            show own_Go p e below _ (T11.setTop (mkF m 84 #[.val (.ref oa), .val (.ref ob)] []))
            refine own_go (fun t k => XS.iconst X11.here hx rfl (hb hby d9_84) k) ?_
            show own_Go p e below _ (T11.setTop (mkF m 85 #[.val (.ref oa), .val (.ref ob)] [(.int (1 : Int32))]))
            refine own_go (fun t k => XS.goto X11.here hx rfl (pc0 := 85) (pc' := 89) rfl (hb hby d9_85) (by decide) (by decide) k) ?_
            show own_Go p e below _ (T11.setTop (mkF m 89 #[.val (.ref oa), .val (.ref ob)] [(.int (1 : Int32))]))
            exact own_retN X11 hx (t := .boolean) Bd.returns (by simp) (hb hby d9_89) (by rw [e11]; exact ⟨by simp [own_ov, own_boN, own_boR, own_boS, nar, hb1, hb2, hb3], NJ3, rfl⟩) (by decide) (by decide)
      show own_Go p e below _ (TJ2.setTop (mkF m 28 #[.val (.ref oa), .val (.ref ob)] []))
      refine own_go (fun t k => XS.aloadN XJ2.here hx rfl (hb hby d9_28) rfl rfl k) ?_
      show own_Go p e below _ (TJ2.setTop (mkF m 29 #[.val (.ref oa), .val (.ref ob)] [(.ref oa)]))
      obtain ⟨T12, X12, e12, st12⟩ := getF XJ2 hx hZ hown (host := "") (Or.inl (hw _ (List.mem_of_getElem? (i := 26) rfl))) Via.refl eJ2 Ga.2.2.2.1 (g := (mkF m 29 #[.val (.ref oa), .val (.ref ob)] [(.ref oa)])) rfl rfl (hb hby d9_29)
      refine own_go (fun t k => st12 t k) ?_
      show own_Go p e below _ (T12.setTop (mkF m 32 #[.val (.ref oa), .val (.ref ob)] [x3]))
      rcases ref_cases r_x3 with rfl | ⟨a_x3, rfl⟩
      · refine own_go (fun t k => XS.ifnullYes X12.here hx rfl (pc0 := 32) (pc' := 42) rfl (hb hby d9_32) rfl (by decide) (by decide) k) ?_
        exact J42 _ _ X12 NJ2 e12 rfl
      · refine own_go (fun t k => XS.ifnullNo X12.here hx rfl (hb hby d9_32) rfl k) ?_
        show own_Go p e below _ (T12.setTop (mkF m 35 #[.val (.ref oa), .val (.ref ob)] []))
        refine own_go (fun t k => XS.aloadN X12.here hx rfl (hb hby d9_35) rfl rfl k) ?_
        show own_Go p e below _ (T12.setTop (mkF m 36 #[.val (.ref oa), .val (.ref ob)] [(.ref ob)]))
        obtain ⟨T13, X13, e13, st13⟩ := getF X12 hx hZ hown (host := "") (Or.inl (hw _ (List.mem_of_getElem? (i := 26) rfl))) Via.refl e12 Gb.2.2.2.1 (g := (mkF m 36 #[.val (.ref oa), .val (.ref ob)] [(.ref ob)])) rfl rfl (hb hby d9_36)
        refine own_go (fun t k => st13 t k) ?_
        show own_Go p e below _ (T13.setTop (mkF m 39 #[.val (.ref oa), .val (.ref ob)] [y3]))
        rcases ref_cases r_y3 with rfl | ⟨a_y3, rfl⟩
        · refine own_go (fun t k => XS.ifnonnullNo X13.here hx rfl (hb hby d9_39) rfl k) ?_
          exact J42 _ _ X13 NJ2 e13 rfl
        · refine own_go (fun t k => XS.ifnonnullYes X13.here hx rfl (pc0 := 39) (pc' := 84) rfl (hb hby d9_39) rfl (by decide) (by decide) k) ?_
          show own_Go p e below _ (T13.setTop (mkF m 84 #[.val (.ref oa), .val (.ref ob)] []))
          refine own_go (fun t k => XS.iconst X13.here hx rfl (hb hby d9_84) k) ?_
          show own_Go p e below _ (T13.setTop (mkF m 85 #[.val (.ref oa), .val (.ref ob)] [(.int (1 : Int32))]))
          refine own_go (fun t k => XS.goto X13.here hx rfl (pc0 := 85) (pc' := 89) rfl (hb hby d9_85) (by decide) (by decide) k) ?_
          show own_Go p e below _ (T13.setTop (mkF m 89 #[.val (.ref oa), .val (.ref ob)] [(.int (1 : Int32))]))
          exact own_retN X13 hx (t := .boolean) Bd.returns (by simp) (hb hby d9_89) (by rw [e13]; exact ⟨by simp [own_ov, own_boN, own_boR, own_boS, nar, hb1, hb2], NJ2, rfl⟩) (by decide) (by decide)
    show own_Go p e below _ (TJ1.setTop (mkF m 14 #[.val (.ref oa), .val (.ref ob)] []))
    refine own_go (fun t k => XS.aloadN XJ1.here hx rfl (hb hby d9_14) rfl rfl k) ?_
    show own_Go p e below _ (TJ1.setTop (mkF m 15 #[.val (.ref oa), .val (.ref ob)] [(.ref oa)]))
    obtain ⟨T14, X14, e14, st14⟩ := getF XJ1 hx hZ hown (host := "") (Or.inl (hw _ (List.mem_of_getElem? (i := 24) rfl))) Via.refl eJ1 Ga.2.2.1 (g := (mkF m 15 #[.val (.ref oa), .val (.ref ob)] [(.ref oa)])) rfl rfl (hb hby d9_15)
    refine own_go (fun t k => st14 t k) ?_
    show own_Go p e below _ (T14.setTop (mkF m 18 #[.val (.ref oa), .val (.ref ob)] [x2]))
    rcases ref_cases r_x2 with rfl | ⟨a_x2, rfl⟩
    · refine own_go (fun t k => XS.ifnullYes X14.here hx rfl (pc0 := 18) (pc' := 28) rfl (hb hby d9_18) rfl (by decide) (by decide) k) ?_
      exact J28 _ _ X14 NJ1 e14 rfl
    · refine own_go (fun t k => XS.ifnullNo X14.here hx rfl (hb hby d9_18) rfl k) ?_
      show own_Go p e below _ (T14.setTop (mkF m 21 #[.val (.ref oa), .val (.ref ob)] []))
      refine own_go (fun t k => XS.aloadN X14.here hx rfl (hb hby d9_21) rfl rfl k) ?_
      show own_Go p e below _ (T14.setTop (mkF m 22 #[.val (.ref oa), .val (.ref ob)] [(.ref ob)]))
      obtain ⟨T15, X15, e15, st15⟩ := getF X14 hx hZ hown (host := "") (Or.inl (hw _ (List.mem_of_getElem? (i := 24) rfl))) Via.refl e14 Gb.2.2.1 (g := (mkF m 22 #[.val (.ref oa), .val (.ref ob)] [(.ref ob)])) rfl rfl (hb hby d9_22)
      refine own_go (fun t k => st15 t k) ?_
      show own_Go p e below _ (T15.setTop (mkF m 25 #[.val (.ref oa), .val (.ref ob)] [y2]))
      rcases ref_cases r_y2 with rfl | ⟨a_y2, rfl⟩
      · refine own_go (fun t k => XS.ifnonnullNo X15.here hx rfl (hb hby d9_25) rfl k) ?_
        exact J28 _ _ X15 NJ1 e15 rfl
      · refine own_go (fun t k => XS.ifnonnullYes X15.here hx rfl (pc0 := 25) (pc' := 84) rfl (hb hby d9_25) rfl (by decide) (by decide) k) ?_
        show own_Go p e below _ (T15.setTop (mkF m 84 #[.val (.ref oa), .val (.ref ob)] []))
        refine own_go (fun t k => XS.iconst X15.here hx rfl (hb hby d9_84) k) ?_
        show own_Go p e below _ (T15.setTop (mkF m 85 #[.val (.ref oa), .val (.ref ob)] [(.int (1 : Int32))]))
        refine own_go (fun t k => XS.goto X15.here hx rfl (pc0 := 85) (pc' := 89) rfl (hb hby d9_85) (by decide) (by decide) k) ?_
        show own_Go p e below _ (T15.setTop (mkF m 89 #[.val (.ref oa), .val (.ref ob)] [(.int (1 : Int32))]))
        exact own_retN X15 hx (t := .boolean) Bd.returns (by simp) (hb hby d9_89) (by rw [e15]; exact ⟨by simp [own_ov, own_boN, own_boR, own_boS, nar, hb1], NJ1, rfl⟩) (by decide) (by decide)
  show own_Go p e below _ (s₁.setTop (mkF m 0 #[.val (.ref oa), .val (.ref ob)] []))
  refine own_go (fun t k => XS.aloadN X0.here hx rfl (hb hby d9_0) rfl rfl k) ?_
  show own_Go p e below _ (s₁.setTop (mkF m 1 #[.val (.ref oa), .val (.ref ob)] [(.ref oa)]))
  obtain ⟨T16, X16, e16, st16⟩ := getF X0 hx hZ hown (host := "") (Or.inl (hw _ (List.mem_of_getElem? (i := 22) rfl))) Via.refl e0 Ga.2.1 (g := (mkF m 1 #[.val (.ref oa), .val (.ref ob)] [(.ref oa)])) rfl rfl (hb hby d9_1)
  refine own_go (fun t k => st16 t k) ?_
  show own_Go p e below _ (T16.setTop (mkF m 4 #[.val (.ref oa), .val (.ref ob)] [x1]))
  rcases ref_cases r_x1 with rfl | ⟨a_x1, rfl⟩
  · refine own_go (fun t k => XS.ifnullYes X16.here hx rfl (pc0 := 4) (pc' := 14) rfl (hb hby d9_4) rfl (by decide) (by decide) k) ?_
    exact J14 _ _ X16 N0 e16 rfl
  · refine own_go (fun t k => XS.ifnullNo X16.here hx rfl (hb hby d9_4) rfl k) ?_
    show own_Go p e below _ (T16.setTop (mkF m 7 #[.val (.ref oa), .val (.ref ob)] []))
    refine own_go (fun t k => XS.aloadN X16.here hx rfl (hb hby d9_7) rfl rfl k) ?_
    show own_Go p e below _ (T16.setTop (mkF m 8 #[.val (.ref oa), .val (.ref ob)] [(.ref ob)]))
    obtain ⟨T17, X17, e17, st17⟩ := getF X16 hx hZ hown (host := "") (Or.inl (hw _ (List.mem_of_getElem? (i := 22) rfl))) Via.refl e16 Gb.2.1 (g := (mkF m 8 #[.val (.ref oa), .val (.ref ob)] [(.ref ob)])) rfl rfl (hb hby d9_8)
    refine own_go (fun t k => st17 t k) ?_
    show own_Go p e below _ (T17.setTop (mkF m 11 #[.val (.ref oa), .val (.ref ob)] [y1]))
    rcases ref_cases r_y1 with rfl | ⟨a_y1, rfl⟩
    · refine own_go (fun t k => XS.ifnonnullNo X17.here hx rfl (hb hby d9_11) rfl k) ?_
      exact J14 _ _ X17 N0 e17 rfl
    · refine own_go (fun t k => XS.ifnonnullYes X17.here hx rfl (pc0 := 11) (pc' := 84) rfl (hb hby d9_11) rfl (by decide) (by decide) k) ?_
      show own_Go p e below _ (T17.setTop (mkF m 84 #[.val (.ref oa), .val (.ref ob)] []))
      refine own_go (fun t k => XS.iconst X17.here hx rfl (hb hby d9_84) k) ?_
      show own_Go p e below _ (T17.setTop (mkF m 85 #[.val (.ref oa), .val (.ref ob)] [(.int (1 : Int32))]))
      refine own_go (fun t k => XS.goto X17.here hx rfl (pc0 := 85) (pc' := 89) rfl (hb hby d9_85) (by decide) (by decide) k) ?_
      show own_Go p e below _ (T17.setTop (mkF m 89 #[.val (.ref oa), .val (.ref ob)] [(.int (1 : Int32))]))
      exact own_retN X17 hx (t := .boolean) Bd.returns (by simp) (hb hby d9_89) (by rw [e17]; exact ⟨by simp [own_ov, own_boN, own_boR, own_boS, nar], N0, rfl⟩) (by decide) (by decide)
theorem own_bit (x : Int32) (i : Nat) (m_ : Int32) (hm : m_.toBitVec = BitVec.twoPow 32 i) (hi : i < 32) : (x &&& m_) = 0 ↔ x.toBitVec.getLsbD i = false := by
  rw [← Int32.toBitVec_inj, Int32.toBitVec_and, hm, BitVec.and_twoPow]
  cases h : x.toBitVec.getLsbD i with
  | false => simp
  | true =>
    simp only [if_true, Bool.true_eq_false, iff_false]
    intro q
    have := congrArg (fun z => BitVec.getLsbD z i) q
    simp [hi] at this
theorem own_bits (a b p : Int32) (ha : a = p &&& 63) : (a &&& b) = 0 ↔ ((a &&& 1 = 0 ∨ b &&& 1 = 0) ∧ (a &&& 2 = 0 ∨ b &&& 2 = 0) ∧ (a &&& 4 = 0 ∨ b &&& 4 = 0) ∧ (a &&& 8 = 0 ∨ b &&& 8 = 0) ∧ (a &&& 16 = 0 ∨ b &&& 16 = 0) ∧ (a &&& 32 = 0 ∨ b &&& 32 = 0)) := by
  rw [own_bit a 0 1 (by decide) (by decide), own_bit b 0 1 (by decide) (by decide), own_bit a 1 2 (by decide) (by decide), own_bit b 1 2 (by decide) (by decide), own_bit a 2 4 (by decide) (by decide), own_bit b 2 4 (by decide) (by decide), own_bit a 3 8 (by decide) (by decide), own_bit b 3 8 (by decide) (by decide), own_bit a 4 16 (by decide) (by decide), own_bit b 4 16 (by decide) (by decide), own_bit a 5 32 (by decide) (by decide), own_bit b 5 32 (by decide) (by decide)]
  have hz : ∀ i, 6 ≤ i → a.toBitVec.getLsbD i = false := by
    intro i hi
    rw [ha, Int32.toBitVec_and, BitVec.getLsbD_and]
    have : (63 : Int32).toBitVec.getLsbD i = false := by
      rw [show (63 : Int32).toBitVec = 63#32 from rfl, BitVec.getLsbD_ofNat]
      have : Nat.testBit 63 i = false := Nat.testBit_lt_two_pow (Nat.lt_of_lt_of_le (by decide : 63 < 2 ^ 6) (Nat.pow_le_pow_right (by decide) hi))
      simp [this]
    rw [this, Bool.and_false]
  rw [← Int32.toBitVec_inj, Int32.toBitVec_and]
  constructor
  · intro q
    have k : ∀ i, (a.toBitVec.getLsbD i = false ∨ b.toBitVec.getLsbD i = false) := fun i => by
      have := congrArg (fun z => BitVec.getLsbD z i) q
      simp only [BitVec.getLsbD_and] at this
      have z : (0 : Int32).toBitVec.getLsbD i = false := by rw [show (0 : Int32).toBitVec = 0#32 from rfl]; simp
      rw [z] at this
      generalize a.toBitVec.getLsbD i = u at this ⊢
      generalize b.toBitVec.getLsbD i = w at this ⊢
      cases u <;> cases w <;> simp_all
    exact ⟨k 0, k 1, k 2, k 3, k 4, k 5⟩
  · rintro ⟨k0, k1, k2, k3, k4, k5⟩
    apply BitVec.eq_of_getLsbD_eq
    intro i _
    rw [show (0 : Int32).toBitVec = 0#32 from rfl, BitVec.getLsbD_and]
    simp only [BitVec.getLsbD_zero, Bool.and_eq_false_iff]
    match i with
    | 0 => exact k0
    | 1 => exact k1
    | 2 => exact k2
    | 3 => exact k3
    | 4 => exact k4
    | 5 => exact k5
    | j + 6 => exact Or.inl (hz _ (by omega))
theorem own_ov_eq {x1 x2 x3 x4 x5 x6 y1 y2 y3 y4 y5 y6 : Value} {a b p : Int32} (ha : a = p &&& 63) (r_x1 : x1.isRef = true) (r_x2 : x2.isRef = true) (r_x3 : x3.isRef = true) (r_x4 : x4.isRef = true) (r_x5 : x5.isRef = true) (r_x6 : x6.isRef = true) (r_y1 : y1.isRef = true) (r_y2 : y2.isRef = true) (r_y3 : y3.isRef = true) (r_y4 : y4.isRef = true) (r_y5 : y5.isRef = true) (r_y6 : y6.isRef = true) (i_x1 : x1 = .null ↔ (a &&& (1 : Int32)) = 0) (i_x2 : x2 = .null ↔ (a &&& (2 : Int32)) = 0) (i_x3 : x3 = .null ↔ (a &&& (4 : Int32)) = 0) (i_x4 : x4 = .null ↔ (a &&& (8 : Int32)) = 0) (i_x5 : x5 = .null ↔ (a &&& (16 : Int32)) = 0) (i_x6 : x6 = .null ↔ (a &&& (32 : Int32)) = 0) (i_y1 : y1 = .null ↔ (b &&& (1 : Int32)) = 0) (i_y2 : y2 = .null ↔ (b &&& (2 : Int32)) = 0) (i_y3 : y3 = .null ↔ (b &&& (4 : Int32)) = 0) (i_y4 : y4 = .null ↔ (b &&& (8 : Int32)) = 0) (i_y5 : y5 = .null ↔ (b &&& (16 : Int32)) = 0) (i_y6 : y6 = .null ↔ (b &&& (32 : Int32)) = 0) : own_ov x1 x2 x3 x4 x5 x6 y1 y2 y3 y4 y5 y6 = if (a &&& b) = 0 then 0 else 1 := by
  have h := own_bits a b p ha
  have b1 : own_bo x1 y1 = false ↔ ((a &&& (1 : Int32)) = 0 ∨ (b &&& (1 : Int32)) = 0) := by rw [own_bo_iff r_x1 r_y1, i_x1, i_y1]
  have b2 : own_bo x2 y2 = false ↔ ((a &&& (2 : Int32)) = 0 ∨ (b &&& (2 : Int32)) = 0) := by rw [own_bo_iff r_x2 r_y2, i_x2, i_y2]
  have b3 : own_bo x3 y3 = false ↔ ((a &&& (4 : Int32)) = 0 ∨ (b &&& (4 : Int32)) = 0) := by rw [own_bo_iff r_x3 r_y3, i_x3, i_y3]
  have b4 : own_bo x4 y4 = false ↔ ((a &&& (8 : Int32)) = 0 ∨ (b &&& (8 : Int32)) = 0) := by rw [own_bo_iff r_x4 r_y4, i_x4, i_y4]
  have b5 : own_bo x5 y5 = false ↔ ((a &&& (16 : Int32)) = 0 ∨ (b &&& (16 : Int32)) = 0) := by rw [own_bo_iff r_x5 r_y5, i_x5, i_y5]
  have b6 : own_bo x6 y6 = false ↔ ((a &&& (32 : Int32)) = 0 ∨ (b &&& (32 : Int32)) = 0) := by rw [own_bo_iff r_x6 r_y6, i_x6, i_y6]
  have key : (own_bo x1 y1 || own_bo x2 y2 || own_bo x3 y3 || own_bo x4 y4 || own_bo x5 y5 || own_bo x6 y6) = true ↔ ¬ (a &&& b) = 0 := by
    rw [h, ← b1, ← b2, ← b3, ← b4, ← b5, ← b6]
    cases own_bo x1 y1 <;> cases own_bo x2 y2 <;> cases own_bo x3 y3 <;> cases own_bo x4 y4 <;> cases own_bo x5 y5 <;> cases own_bo x6 y6 <;> simp
  unfold own_ov
  by_cases q : (a &&& b) = 0
  · rw [if_pos q, if_neg (fun z => key.mp z q)]
  · rw [if_neg q, if_pos (key.mpr q)]
theorem pn0 : plainName "com/example/tariff_reader/tariffreader/text/QualifiersOverlapsPinLaw" = true := by first | (simp [plainName, overriddenIn]; done) | decide +kernel
theorem pd0_0 : parseMethodDescriptor "(III)Lcom/example/tariff_reader/tariffreader/text/Qualifiers;" = some ⟨[.int, .int, .int], some (.object "com/example/tariff_reader/tariffreader/text/Qualifiers")⟩ := by decide +kernel
theorem pd0_1 : parseMethodDescriptor "(Lcom/example/tariff_reader/tariffreader/text/Qualifiers;)Z" = some ⟨[(.object "com/example/tariff_reader/tariffreader/text/Qualifiers")], some .boolean⟩ := by decide +kernel
theorem ef0 (m : MethodId) (x0 : Int32) (x1 : Int32) (x2 : Int32) (x3 : Int32) : entryFrame m #[(.int x0), (.int x1), (.int x2), (.int x3)] maxLocals = mkF m 0 #[.val (.int x0), .val (.int x1), .val (.int x2), .val (.int x3), .unset, .unset, .unset, .unset, .unset] [] := by first | (simp [entryFrame, mkF, argsToLocals, Value.category, maxLocals]; done) | rfl
def own_Q0 (n0 : Nat) (v : Option Value) (h : Heap) (L : List Loc) : Prop := v = some (.int 1) ∧ Fr n0 L
set_option maxRecDepth 65536 in
set_option maxHeartbeats 40000000 in
theorem rm0 (l : Launch) (Z : State) (a0 : Array Value) (hw : ∀ d ∈ tables_1, d.before a0 Z = true) (ws : List Jvm.Cond) (p0 p1 p2 p3 : Int32) (h0 : Heap) (n0 : Nat) (Z0 : n0 ≤ h0.size) (XO : Old Z n0 h0) (WW : own_W Z) :
    MetFree l x (head1 (Jvm.Cond.code x code maxLocals ret :: ws) room_1) (fun a U => a = #[(.int p0), (.int p1), (.int p2), (.int p3)] ∧ Z.Warmed39 U.vm ∧ U.heap = h0 ∧ CHv Z own_EL U.vm h0 ∧ ∀ x ∈ ([] : List Addr), Safe Z own_EL U.vm h0 x) (fun _ _ _ _ _ => True) (fun _ U o U' => ∃ v L, o = .returned v ∧ own_Q0 n0 v U'.heap L ∧ CHr Z own_EL U.vm U.heap U'.vm U'.heap ∧ ReturnedEndW U o U' L room_1.cells room_1.slots) := by
  refine MetFree.of_bodySF (plainFor_of_name pn0) hisR ?_
  intro p e s m args below meth c s₁ Bd hml0 hP hK
  obtain ⟨rfl, hZ, hh, hC0, hsf0⟩ := hP
  have hx := Bd.exec
  have hby := Bd.bytes
  have hml : c.maxLocals = 9 := hml0
  have hown : s.vm.findClass "com/example/tariff_reader/tariffreader/text/QualifiersOverlapsPinLaw" = some m.cls := findClass_of_methodNamed Bd.named
  have hnm := (name_of_methodNamed Bd.named Bd.method).1
  have hlk : meth.locks = false := Bd.notSynchronized
  have hEL := own_ew hw
  have hR0 : CHr Z own_EL s.vm h0 s.vm h0 := CHr.refl hC0
  have hS0 : s.Since s.vm 0 := (State.WarmedH.refl s).since 0
  have hk0 : 0 ≤ h0.size := Nat.zero_le _
  have X0 : Stand p l e room_1 (s.setVm s.vm) m #[(.int p0), (.int p1), (.int p2), (.int p3)] below meth c s₁ [] 0 0 := Stand.of_body Bd
  have e0 : s₁.heap = h0 := by rw [← hh, Bd.state]; rfl
  have N0 := Fr.nil n0
  refine own_go (fun t k => castTop (ef0 m p0 p1 p2 p3) k) ?_
  show own_Go p e below _ (s₁.setTop (mkF m 0 #[.val (.int p0), .val (.int p1), .val (.int p2), .val (.int p3), .unset, .unset, .unset, .unset, .unset] []))
  refine own_go (fun t k => XS.iloadN X0.here hx rfl (hb hby at_0) rfl k) ?_
  show own_Go p e below _ (s₁.setTop (mkF m 1 #[.val (.int p0), .val (.int p1), .val (.int p2), .val (.int p3), .unset, .unset, .unset, .unset, .unset] [(.int p0)]))
  refine own_go (fun t k => XS.bipush X0.here hx rfl (hb hby at_1) k) ?_
  show own_Go p e below _ (s₁.setTop (mkF m 3 #[.val (.int p0), .val (.int p1), .val (.int p2), .val (.int p3), .unset, .unset, .unset, .unset, .unset] [(.int (63 : Int32)), (.int p0)]))
  refine own_go (fun t k => XS.iand X0.here hx rfl (hb hby at_3) rfl k) ?_
  show own_Go p e below _ (s₁.setTop (mkF m 4 #[.val (.int p0), .val (.int p1), .val (.int p2), .val (.int p3), .unset, .unset, .unset, .unset, .unset] [(.int (p0 &&& (63 : Int32)))]))
  refine own_go (fun t k => XS.istore X0.here hx rfl (hb hby at_4) rfl (l' := #[.val (.int p0), .val (.int p1), .val (.int p2), .val (.int p3), .val (.int (p0 &&& (63 : Int32))), .unset, .unset, .unset, .unset]) rfl k) ?_
  show own_Go p e below _ (s₁.setTop (mkF m 6 #[.val (.int p0), .val (.int p1), .val (.int p2), .val (.int p3), .val (.int (p0 &&& (63 : Int32))), .unset, .unset, .unset, .unset] []))
  refine own_go (fun t k => XS.iloadN X0.here hx rfl (hb hby at_6) rfl k) ?_
  show own_Go p e below _ (s₁.setTop (mkF m 7 #[.val (.int p0), .val (.int p1), .val (.int p2), .val (.int p3), .val (.int (p0 &&& (63 : Int32))), .unset, .unset, .unset, .unset] [(.int p0)]))
  refine own_go (fun t k => XS.bipush X0.here hx rfl (hb hby at_7) k) ?_
  show own_Go p e below _ (s₁.setTop (mkF m 9 #[.val (.int p0), .val (.int p1), .val (.int p2), .val (.int p3), .val (.int (p0 &&& (63 : Int32))), .unset, .unset, .unset, .unset] [(.int (6 : Int32)), (.int p0)]))
  refine own_go (fun t k => XS.iushr X0.here hx rfl (hb hby at_9) rfl k) ?_
  show own_Go p e below _ (s₁.setTop (mkF m 10 #[.val (.int p0), .val (.int p1), .val (.int p2), .val (.int p3), .val (.int (p0 &&& (63 : Int32))), .unset, .unset, .unset, .unset] [(.int ((p0.toUInt32 >>> ((6 : Int32) &&& 31).toUInt32).toInt32))]))
  refine own_go (fun t k => XS.bipush X0.here hx rfl (hb hby at_10) k) ?_
  show own_Go p e below _ (s₁.setTop (mkF m 12 #[.val (.int p0), .val (.int p1), .val (.int p2), .val (.int p3), .val (.int (p0 &&& (63 : Int32))), .unset, .unset, .unset, .unset] [(.int (63 : Int32)), (.int ((p0.toUInt32 >>> ((6 : Int32) &&& 31).toUInt32).toInt32))]))
  refine own_go (fun t k => XS.iand X0.here hx rfl (hb hby at_12) rfl k) ?_
  show own_Go p e below _ (s₁.setTop (mkF m 13 #[.val (.int p0), .val (.int p1), .val (.int p2), .val (.int p3), .val (.int (p0 &&& (63 : Int32))), .unset, .unset, .unset, .unset] [(.int (((p0.toUInt32 >>> ((6 : Int32) &&& 31).toUInt32).toInt32) &&& (63 : Int32)))]))
  refine own_go (fun t k => XS.istore X0.here hx rfl (hb hby at_13) rfl (l' := #[.val (.int p0), .val (.int p1), .val (.int p2), .val (.int p3), .val (.int (p0 &&& (63 : Int32))), .val (.int (((p0.toUInt32 >>> ((6 : Int32) &&& 31).toUInt32).toInt32) &&& (63 : Int32))), .unset, .unset, .unset]) rfl k) ?_
  show own_Go p e below _ (s₁.setTop (mkF m 15 #[.val (.int p0), .val (.int p1), .val (.int p2), .val (.int p3), .val (.int (p0 &&& (63 : Int32))), .val (.int (((p0.toUInt32 >>> ((6 : Int32) &&& 31).toUInt32).toInt32) &&& (63 : Int32))), .unset, .unset, .unset] []))
  refine own_go (fun t k => XS.iload X0.here hx rfl (hb hby at_15) rfl k) ?_
  show own_Go p e below _ (s₁.setTop (mkF m 17 #[.val (.int p0), .val (.int p1), .val (.int p2), .val (.int p3), .val (.int (p0 &&& (63 : Int32))), .val (.int (((p0.toUInt32 >>> ((6 : Int32) &&& 31).toUInt32).toInt32) &&& (63 : Int32))), .unset, .unset, .unset] [(.int (p0 &&& (63 : Int32)))]))
  refine own_go (fun t k => XS.iloadN X0.here hx rfl (hb hby at_17) rfl k) ?_
  show own_Go p e below _ (s₁.setTop (mkF m 18 #[.val (.int p0), .val (.int p1), .val (.int p2), .val (.int p3), .val (.int (p0 &&& (63 : Int32))), .val (.int (((p0.toUInt32 >>> ((6 : Int32) &&& 31).toUInt32).toInt32) &&& (63 : Int32))), .unset, .unset, .unset] [(.int p1), (.int (p0 &&& (63 : Int32)))]))
  refine own_go (fun t k => XS.iloadN X0.here hx rfl (hb hby at_18) rfl k) ?_
  show own_Go p e below _ (s₁.setTop (mkF m 19 #[.val (.int p0), .val (.int p1), .val (.int p2), .val (.int p3), .val (.int (p0 &&& (63 : Int32))), .val (.int (((p0.toUInt32 >>> ((6 : Int32) &&& 31).toUInt32).toInt32) &&& (63 : Int32))), .unset, .unset, .unset] [(.int p3), (.int p1), (.int (p0 &&& (63 : Int32)))]))
  obtain ⟨_, _, ⟨T1, L1, k1, n1⟩, -, X1, hSq1, hgr1, ⟨Lc1, hQ1, l1, y1, z1, hC1⟩, st1⟩ := callSS X0 hx (y := (⟨"com/example/tariff_reader/tariffreader/text/QualifiersOverlapsPinLaw", "make", "(III)Lcom/example/tariff_reader/tariffreader/text/Qualifiers;"⟩ : MethodName)) hown (mvT hZ (hw _ (List.mem_of_getElem? (i := 0) rfl))) (mvT hZ (hw _ (List.mem_of_getElem? (i := 1) rfl))) (mvT hZ (hw _ (List.mem_of_getElem? (i := 2) rfl))) (mvT hZ (hw _ (List.mem_of_getElem? (i := 3) rfl))) (by decide) (own_backH (s := s) (W := 0) (rm8 l Z a0 hw [] (p0 &&& (63 : Int32)) p1 p3 h0 n0 Z0 XO WW) hZ (hw _ (List.mem_of_getElem? (i := 3) rfl)) (hw _ (List.mem_of_getElem? (i := 2) rfl)) (by decide) (by decide) hEL hC0 all0) (g := (mkF m 19 #[.val (.int p0), .val (.int p1), .val (.int p2), .val (.int p3), .val (.int (p0 &&& (63 : Int32))), .val (.int (((p0.toUInt32 >>> ((6 : Int32) &&& 31).toUInt32).toInt32) &&& (63 : Int32))), .unset, .unset, .unset] [(.int p3), (.int p1), (.int (p0 &&& (63 : Int32)))])) rfl (by rw [hml]; rfl) (argsL := [(.int (p0 &&& (63 : Int32))), (.int p1), (.int p3)]) (rest := []) (lenOf pd0_0 rfl) rfl (by show 2 * 0 + _ ≤ _; exact Nat.le_of_eq rfl) (hb hby at_19) (fun _ _ => ⟨rfl, e0, (by decide : 0 + 25 ≤ _), (by decide : 0 + 54 ≤ _)⟩)
  dsimp only [Pt.U, Pt.locs, Pt.cells, Pt.slots] at X1 l1 y1 z1 st1 hQ1 hSq1 hgr1 hC1
  subst l1 y1 z1
  obtain ⟨c1, m1_1, m1_2, m1_3, m1_4, m1_5, m1_6, rfl, Nq1, K1, ge1, G1, r_m1_1, r_m1_2, r_m1_3, r_m1_4, r_m1_5, r_m1_6, i_m1_1, i_m1_2, i_m1_3, i_m1_4, i_m1_5, i_m1_6⟩ := hQ1
  have N1 := Fr.app N0 Nq1
  refine own_go (fun t k => st1.trans k) ?_
  have hS1 := foldS (T := s₁) hS0 (by rw [e0]; exact hk0) hSq1 hgr1
  have hZ1 : Z.Warmed39 T1.vm := State.Warmed39.trans (t := s.setVm s.vm) hZ hSq1.1
  have hown1 : T1.vm.findClass "com/example/tariff_reader/tariffreader/text/QualifiersOverlapsPinLaw" = some m.cls := by rw [hSq1.1.alike.findClass]; exact hown
  have hk1 := Nat.le_refl T1.heap.size
  replace X1 : Stand p l e room_1 (s.setVm T1.vm) m #[(.int p0), (.int p1), (.int p2), (.int p3)] below meth c T1 _ _ _ := X1
  have g_c1 : n0 ≤ c1 := Nat.le_trans Z0 ge1
  have sz_c1 : h0.size ≤ c1 := Nat.le_trans (Keep.refl h0 []).1 ge1
  have XO__1 := XO.keep K1 all0
  have hR1 := hR0.trans hC1
  have hD1 := hR1.1
  have KP1 := (Keep.refl h0 []).trans K1 all0
  have sz1 := Nat.le_trans Z0 K1.1
  show own_Go p e below _ (T1.setTop (mkF m 22 #[.val (.int p0), .val (.int p1), .val (.int p2), .val (.int p3), .val (.int (p0 &&& (63 : Int32))), .val (.int (((p0.toUInt32 >>> ((6 : Int32) &&& 31).toUInt32).toInt32) &&& (63 : Int32))), .unset, .unset, .unset] [(.ref c1)]))
  refine own_go (fun t k => XS.astore X1.here hx rfl (hb hby at_22) rfl rfl (l' := #[.val (.int p0), .val (.int p1), .val (.int p2), .val (.int p3), .val (.int (p0 &&& (63 : Int32))), .val (.int (((p0.toUInt32 >>> ((6 : Int32) &&& 31).toUInt32).toInt32) &&& (63 : Int32))), .val (.ref c1), .unset, .unset]) rfl k) ?_
  show own_Go p e below _ (T1.setTop (mkF m 24 #[.val (.int p0), .val (.int p1), .val (.int p2), .val (.int p3), .val (.int (p0 &&& (63 : Int32))), .val (.int (((p0.toUInt32 >>> ((6 : Int32) &&& 31).toUInt32).toInt32) &&& (63 : Int32))), .val (.ref c1), .unset, .unset] []))
  refine own_go (fun t k => XS.iload X1.here hx rfl (hb hby at_24) rfl k) ?_
  show own_Go p e below _ (T1.setTop (mkF m 26 #[.val (.int p0), .val (.int p1), .val (.int p2), .val (.int p3), .val (.int (p0 &&& (63 : Int32))), .val (.int (((p0.toUInt32 >>> ((6 : Int32) &&& 31).toUInt32).toInt32) &&& (63 : Int32))), .val (.ref c1), .unset, .unset] [(.int (((p0.toUInt32 >>> ((6 : Int32) &&& 31).toUInt32).toInt32) &&& (63 : Int32)))]))
  refine own_go (fun t k => XS.iloadN X1.here hx rfl (hb hby at_26) rfl k) ?_
  show own_Go p e below _ (T1.setTop (mkF m 27 #[.val (.int p0), .val (.int p1), .val (.int p2), .val (.int p3), .val (.int (p0 &&& (63 : Int32))), .val (.int (((p0.toUInt32 >>> ((6 : Int32) &&& 31).toUInt32).toInt32) &&& (63 : Int32))), .val (.ref c1), .unset, .unset] [(.int p2), (.int (((p0.toUInt32 >>> ((6 : Int32) &&& 31).toUInt32).toInt32) &&& (63 : Int32)))]))
  refine own_go (fun t k => XS.iloadN X1.here hx rfl (hb hby at_27) rfl k) ?_
  show own_Go p e below _ (T1.setTop (mkF m 28 #[.val (.int p0), .val (.int p1), .val (.int p2), .val (.int p3), .val (.int (p0 &&& (63 : Int32))), .val (.int (((p0.toUInt32 >>> ((6 : Int32) &&& 31).toUInt32).toInt32) &&& (63 : Int32))), .val (.ref c1), .unset, .unset] [(.int p3), (.int p2), (.int (((p0.toUInt32 >>> ((6 : Int32) &&& 31).toUInt32).toInt32) &&& (63 : Int32)))]))
  refine own_go (fun t k => XS.bipush X1.here hx rfl (hb hby at_28) k) ?_
  show own_Go p e below _ (T1.setTop (mkF m 30 #[.val (.int p0), .val (.int p1), .val (.int p2), .val (.int p3), .val (.int (p0 &&& (63 : Int32))), .val (.int (((p0.toUInt32 >>> ((6 : Int32) &&& 31).toUInt32).toInt32) &&& (63 : Int32))), .val (.ref c1), .unset, .unset] [(.int (8 : Int32)), (.int p3), (.int p2), (.int (((p0.toUInt32 >>> ((6 : Int32) &&& 31).toUInt32).toInt32) &&& (63 : Int32)))]))
  refine own_go (fun t k => XS.iushr X1.here hx rfl (hb hby at_30) rfl k) ?_
  show own_Go p e below _ (T1.setTop (mkF m 31 #[.val (.int p0), .val (.int p1), .val (.int p2), .val (.int p3), .val (.int (p0 &&& (63 : Int32))), .val (.int (((p0.toUInt32 >>> ((6 : Int32) &&& 31).toUInt32).toInt32) &&& (63 : Int32))), .val (.ref c1), .unset, .unset] [(.int ((p3.toUInt32 >>> ((8 : Int32) &&& 31).toUInt32).toInt32)), (.int p2), (.int (((p0.toUInt32 >>> ((6 : Int32) &&& 31).toUInt32).toInt32) &&& (63 : Int32)))]))
  obtain ⟨_, _, ⟨T2, L2, k2, n2⟩, -, X2, hSq2, hgr2, ⟨Lc2, hQ2, l2, y2, z2, hC2⟩, st2⟩ := callSS X1 hx (y := (⟨"com/example/tariff_reader/tariffreader/text/QualifiersOverlapsPinLaw", "make", "(III)Lcom/example/tariff_reader/tariffreader/text/Qualifiers;"⟩ : MethodName)) hown1 (mvT hZ1 (hw _ (List.mem_of_getElem? (i := 0) rfl))) (mvT hZ1 (hw _ (List.mem_of_getElem? (i := 1) rfl))) (mvT hZ1 (hw _ (List.mem_of_getElem? (i := 2) rfl))) (mvT hZ1 (hw _ (List.mem_of_getElem? (i := 3) rfl))) (by decide) (own_backH (s := s) (W := 0) (rm8 l Z a0 hw [] (((p0.toUInt32 >>> ((6 : Int32) &&& 31).toUInt32).toInt32) &&& (63 : Int32)) p2 ((p3.toUInt32 >>> ((8 : Int32) &&& 31).toUInt32).toInt32) T1.heap n0 sz1 XO__1 WW) hZ1 (hw _ (List.mem_of_getElem? (i := 3) rfl)) (hw _ (List.mem_of_getElem? (i := 2) rfl)) (by decide) (by decide) hEL hD1 all0) (g := (mkF m 31 #[.val (.int p0), .val (.int p1), .val (.int p2), .val (.int p3), .val (.int (p0 &&& (63 : Int32))), .val (.int (((p0.toUInt32 >>> ((6 : Int32) &&& 31).toUInt32).toInt32) &&& (63 : Int32))), .val (.ref c1), .unset, .unset] [(.int ((p3.toUInt32 >>> ((8 : Int32) &&& 31).toUInt32).toInt32)), (.int p2), (.int (((p0.toUInt32 >>> ((6 : Int32) &&& 31).toUInt32).toInt32) &&& (63 : Int32)))])) rfl (by rw [hml]; rfl) (argsL := [(.int (((p0.toUInt32 >>> ((6 : Int32) &&& 31).toUInt32).toInt32) &&& (63 : Int32))), (.int p2), (.int ((p3.toUInt32 >>> ((8 : Int32) &&& 31).toUInt32).toInt32))]) (rest := []) (lenOf pd0_0 rfl) rfl (by show 2 * 0 + _ ≤ _; exact Nat.le_of_eq rfl) (hb hby at_31) (fun _ _ => ⟨rfl, rfl, (by decide : 0 + 25 + 25 ≤ _), (by decide : 0 + 54 + 54 ≤ _)⟩)
  dsimp only [Pt.U, Pt.locs, Pt.cells, Pt.slots] at X2 l2 y2 z2 st2 hQ2 hSq2 hgr2 hC2
  subst l2 y2 z2
  obtain ⟨c2, m2_1, m2_2, m2_3, m2_4, m2_5, m2_6, rfl, Nq2, K2, ge2, G2, r_m2_1, r_m2_2, r_m2_3, r_m2_4, r_m2_5, r_m2_6, i_m2_1, i_m2_2, i_m2_3, i_m2_4, i_m2_5, i_m2_6⟩ := hQ2
  have N2 := Fr.app N1 Nq2
  refine own_go (fun t k => st2.trans k) ?_
  have hS2 := foldS (T := T1) hS1 hk1 hSq2 hgr2
  have hZ2 : Z.Warmed39 T2.vm := State.Warmed39.trans (t := s.setVm T1.vm) hZ1 hSq2.1
  have hown2 : T2.vm.findClass "com/example/tariff_reader/tariffreader/text/QualifiersOverlapsPinLaw" = some m.cls := by rw [hSq2.1.alike.findClass]; exact hown1
  have hk2 := Nat.le_refl T2.heap.size
  replace X2 : Stand p l e room_1 (s.setVm T2.vm) m #[(.int p0), (.int p1), (.int p2), (.int p3)] below meth c T2 _ _ _ := X2
  have g_c2 : n0 ≤ c2 := Nat.le_trans sz1 ge2
  have sz_c2 : h0.size ≤ c2 := Nat.le_trans KP1.1 ge2
  have ne_c1_c2 : c1 ≠ c2 := Nat.ne_of_lt (Nat.lt_of_lt_of_le G1.1.lt ge2)
  have XO__2 := XO__1.keep K2 all0
  have G1__2 := G1.keep K2 nin0
  have hR2 := hR1.trans hC2
  have hD2 := hR2.1
  have KP2 := KP1.trans K2 all0
  have sz2 := Nat.le_trans sz1 K2.1
  show own_Go p e below _ (T2.setTop (mkF m 34 #[.val (.int p0), .val (.int p1), .val (.int p2), .val (.int p3), .val (.int (p0 &&& (63 : Int32))), .val (.int (((p0.toUInt32 >>> ((6 : Int32) &&& 31).toUInt32).toInt32) &&& (63 : Int32))), .val (.ref c1), .unset, .unset] [(.ref c2)]))
  refine own_go (fun t k => XS.astore X2.here hx rfl (hb hby at_34) rfl rfl (l' := #[.val (.int p0), .val (.int p1), .val (.int p2), .val (.int p3), .val (.int (p0 &&& (63 : Int32))), .val (.int (((p0.toUInt32 >>> ((6 : Int32) &&& 31).toUInt32).toInt32) &&& (63 : Int32))), .val (.ref c1), .val (.ref c2), .unset]) rfl k) ?_
  show own_Go p e below _ (T2.setTop (mkF m 36 #[.val (.int p0), .val (.int p1), .val (.int p2), .val (.int p3), .val (.int (p0 &&& (63 : Int32))), .val (.int (((p0.toUInt32 >>> ((6 : Int32) &&& 31).toUInt32).toInt32) &&& (63 : Int32))), .val (.ref c1), .val (.ref c2), .unset] []))
  refine own_go (fun t k => XS.iload X2.here hx rfl (hb hby at_36) rfl k) ?_
  show own_Go p e below _ (T2.setTop (mkF m 38 #[.val (.int p0), .val (.int p1), .val (.int p2), .val (.int p3), .val (.int (p0 &&& (63 : Int32))), .val (.int (((p0.toUInt32 >>> ((6 : Int32) &&& 31).toUInt32).toInt32) &&& (63 : Int32))), .val (.ref c1), .val (.ref c2), .unset] [(.int (p0 &&& (63 : Int32)))]))
  refine own_go (fun t k => XS.iload X2.here hx rfl (hb hby at_38) rfl k) ?_
  show own_Go p e below _ (T2.setTop (mkF m 40 #[.val (.int p0), .val (.int p1), .val (.int p2), .val (.int p3), .val (.int (p0 &&& (63 : Int32))), .val (.int (((p0.toUInt32 >>> ((6 : Int32) &&& 31).toUInt32).toInt32) &&& (63 : Int32))), .val (.ref c1), .val (.ref c2), .unset] [(.int (((p0.toUInt32 >>> ((6 : Int32) &&& 31).toUInt32).toInt32) &&& (63 : Int32))), (.int (p0 &&& (63 : Int32)))]))
  refine own_go (fun t k => XS.iand X2.here hx rfl (hb hby at_40) rfl k) ?_
  show own_Go p e below _ (T2.setTop (mkF m 41 #[.val (.int p0), .val (.int p1), .val (.int p2), .val (.int p3), .val (.int (p0 &&& (63 : Int32))), .val (.int (((p0.toUInt32 >>> ((6 : Int32) &&& 31).toUInt32).toInt32) &&& (63 : Int32))), .val (.ref c1), .val (.ref c2), .unset] [(.int ((p0 &&& (63 : Int32)) &&& (((p0.toUInt32 >>> ((6 : Int32) &&& 31).toUInt32).toInt32) &&& (63 : Int32))))]))
  by_cases hc41 : ((p0 &&& (63 : Int32)) &&& (((p0.toUInt32 >>> ((6 : Int32) &&& 31).toUInt32).toInt32) &&& (63 : Int32))) = (0 : Int32)
  · refine own_go (fun t k => XS.ifYes X2.here hx rfl (pc0 := 41) (pc' := 48) rfl (hb hby at_41) rfl ((if0 _ _).trans (teq hc41).1) (by decide) (by decide) k) ?_
    show own_Go p e below _ (T2.setTop (mkF m 48 #[.val (.int p0), .val (.int p1), .val (.int p2), .val (.int p3), .val (.int (p0 &&& (63 : Int32))), .val (.int (((p0.toUInt32 >>> ((6 : Int32) &&& 31).toUInt32).toInt32) &&& (63 : Int32))), .val (.ref c1), .val (.ref c2), .unset] []))
    refine own_go (fun t k => XS.iconst X2.here hx rfl (hb hby at_48) k) ?_
    show own_Go p e below _ (T2.setTop (mkF m 49 #[.val (.int p0), .val (.int p1), .val (.int p2), .val (.int p3), .val (.int (p0 &&& (63 : Int32))), .val (.int (((p0.toUInt32 >>> ((6 : Int32) &&& 31).toUInt32).toInt32) &&& (63 : Int32))), .val (.ref c1), .val (.ref c2), .unset] [(.int (0 : Int32))]))
    refine own_go (fun t k => XS.istore X2.here hx rfl (hb hby at_49) rfl (l' := #[.val (.int p0), .val (.int p1), .val (.int p2), .val (.int p3), .val (.int (p0 &&& (63 : Int32))), .val (.int (((p0.toUInt32 >>> ((6 : Int32) &&& 31).toUInt32).toInt32) &&& (63 : Int32))), .val (.ref c1), .val (.ref c2), .val (.int (0 : Int32))]) rfl k) ?_
    show own_Go p e below _ (T2.setTop (mkF m 51 #[.val (.int p0), .val (.int p1), .val (.int p2), .val (.int p3), .val (.int (p0 &&& (63 : Int32))), .val (.int (((p0.toUInt32 >>> ((6 : Int32) &&& 31).toUInt32).toInt32) &&& (63 : Int32))), .val (.ref c1), .val (.ref c2), .val (.int (0 : Int32))] []))
    refine own_go (fun t k => XS.aload X2.here hx rfl (hb hby at_51) rfl rfl k) ?_
    show own_Go p e below _ (T2.setTop (mkF m 53 #[.val (.int p0), .val (.int p1), .val (.int p2), .val (.int p3), .val (.int (p0 &&& (63 : Int32))), .val (.int (((p0.toUInt32 >>> ((6 : Int32) &&& 31).toUInt32).toInt32) &&& (63 : Int32))), .val (.ref c1), .val (.ref c2), .val (.int (0 : Int32))] [(.ref c1)]))
    refine own_go (fun t k => XS.aload X2.here hx rfl (hb hby at_53) rfl rfl k) ?_
    show own_Go p e below _ (T2.setTop (mkF m 55 #[.val (.int p0), .val (.int p1), .val (.int p2), .val (.int p3), .val (.int (p0 &&& (63 : Int32))), .val (.int (((p0.toUInt32 >>> ((6 : Int32) &&& 31).toUInt32).toInt32) &&& (63 : Int32))), .val (.ref c1), .val (.ref c2), .val (.int (0 : Int32))] [(.ref c2), (.ref c1)]))
    obtain ⟨cq3, kq3, q3a, q3b, q3c⟩ := isOf hZ2 rfl G1__2.1
    obtain ⟨_, _, ⟨T3, L3, k3, n3⟩, -, X3, ⟨Lc3, hQ3, l3, y3, z3⟩, st3⟩ := X2.virtualBack hx (y := (⟨"com/example/tariff_reader/tariffreader/text/Qualifiers", "overlaps", "(Lcom/example/tariff_reader/tariffreader/text/Qualifiers;)Z"⟩ : MethodName)) (z := (⟨"com/example/tariff_reader/tariffreader/text/Qualifiers", "overlaps", "(Lcom/example/tariff_reader/tariffreader/text/Qualifiers;)Z"⟩ : MethodName)) hown2 (mvT hZ2 (hw _ (List.mem_of_getElem? (i := 34) rfl))) (mvT hZ2 (hw _ (List.mem_of_getElem? (i := 35) rfl))) (notFace_of_selects (args := #[]) (mvT hZ2 (hw _ (List.mem_of_getElem? (i := 37) rfl)))) (mvT hZ2 (hw _ (List.mem_of_getElem? (i := 37) rfl))) (mvT hZ2 (hw _ (List.mem_of_getElem? (i := 36) rfl))) (by decide) (backOf (W := 0) (rm9 l Z a0 hw [] c1 c2 m1_1 m1_2 m1_3 m1_4 m1_5 m1_6 m2_1 m2_2 m2_3 m2_4 m2_5 m2_6 T2.heap n0 sz2 G1__2 G2 r_m1_1 r_m1_2 r_m1_3 r_m1_4 r_m1_5 r_m1_6 r_m2_1 r_m2_2 r_m2_3 r_m2_4 r_m2_5 r_m2_6) hZ2 (hw _ (List.mem_of_getElem? (i := 38) rfl)) (hw _ (List.mem_of_getElem? (i := 15) rfl)) (by decide) (by decide)) q3a q3c (g := (mkF m 55 #[.val (.int p0), .val (.int p1), .val (.int p2), .val (.int p3), .val (.int (p0 &&& (63 : Int32))), .val (.int (((p0.toUInt32 >>> ((6 : Int32) &&& 31).toUInt32).toInt32) &&& (63 : Int32))), .val (.ref c1), .val (.ref c2), .val (.int (0 : Int32))] [(.ref c2), (.ref c1)])) rfl (by rw [hml]; rfl) (Steps.refl _) (argsL := [(.ref c2)]) (rest := []) (lenOf pd0_1 rfl) rfl (by show 2 * 0 + _ ≤ _; exact Nat.le_of_eq rfl) (hb hby at_55) (fun _ _ => ⟨rfl, rfl, (by decide : 0 + 25 + 25 + 0 ≤ _), (by decide : 0 + 54 + 54 + 0 ≤ _)⟩)
    dsimp only [Pt.U, Pt.locs, Pt.cells, Pt.slots] at X3 l3 y3 z3 st3 hQ3
    subst l3 y3 z3
    obtain ⟨rfl, Nq3, e3⟩ := hQ3
    have N3 := Fr.app N2 Nq3
    refine own_go (fun t k => st3.trans k) ?_
    show own_Go p e below _ (T3.setTop (mkF m 58 #[.val (.int p0), .val (.int p1), .val (.int p2), .val (.int p3), .val (.int (p0 &&& (63 : Int32))), .val (.int (((p0.toUInt32 >>> ((6 : Int32) &&& 31).toUInt32).toInt32) &&& (63 : Int32))), .val (.ref c1), .val (.ref c2), .val (.int (0 : Int32))] [(.int (own_ov m1_1 m1_2 m1_3 m1_4 m1_5 m1_6 m2_1 m2_2 m2_3 m2_4 m2_5 m2_6))]))
    refine own_go (fun t k => XS.iload X3.here hx rfl (hb hby at_58) rfl k) ?_
    show own_Go p e below _ (T3.setTop (mkF m 60 #[.val (.int p0), .val (.int p1), .val (.int p2), .val (.int p3), .val (.int (p0 &&& (63 : Int32))), .val (.int (((p0.toUInt32 >>> ((6 : Int32) &&& 31).toUInt32).toInt32) &&& (63 : Int32))), .val (.ref c1), .val (.ref c2), .val (.int (0 : Int32))] [(.int (0 : Int32)), (.int (own_ov m1_1 m1_2 m1_3 m1_4 m1_5 m1_6 m2_1 m2_2 m2_3 m2_4 m2_5 m2_6))]))
    refine own_go (fun t k => XS.icmpNo X3.here hx rfl (hb hby at_60) rfl (teq (by rw [own_ov_eq (p := p0) rfl r_m1_1 r_m1_2 r_m1_3 r_m1_4 r_m1_5 r_m1_6 r_m2_1 r_m2_2 r_m2_3 r_m2_4 r_m2_5 r_m2_6 i_m1_1 i_m1_2 i_m1_3 i_m1_4 i_m1_5 i_m1_6 i_m2_1 i_m2_2 i_m2_3 i_m2_4 i_m2_5 i_m2_6]; exact if_pos hc41 : (own_ov m1_1 m1_2 m1_3 m1_4 m1_5 m1_6 m2_1 m2_2 m2_3 m2_4 m2_5 m2_6) = (0 : Int32))).2 k) ?_
    show own_Go p e below _ (T3.setTop (mkF m 63 #[.val (.int p0), .val (.int p1), .val (.int p2), .val (.int p3), .val (.int (p0 &&& (63 : Int32))), .val (.int (((p0.toUInt32 >>> ((6 : Int32) &&& 31).toUInt32).toInt32) &&& (63 : Int32))), .val (.ref c1), .val (.ref c2), .val (.int (0 : Int32))] []))
    refine own_go (fun t k => XS.iconst X3.here hx rfl (hb hby at_63) k) ?_
    show own_Go p e below _ (T3.setTop (mkF m 64 #[.val (.int p0), .val (.int p1), .val (.int p2), .val (.int p3), .val (.int (p0 &&& (63 : Int32))), .val (.int (((p0.toUInt32 >>> ((6 : Int32) &&& 31).toUInt32).toInt32) &&& (63 : Int32))), .val (.ref c1), .val (.ref c2), .val (.int (0 : Int32))] [(.int (1 : Int32))]))
    refine own_go (fun t k => XS.goto X3.here hx rfl (pc0 := 64) (pc' := 68) rfl (hb hby at_64) (by decide) (by decide) k) ?_
    show own_Go p e below _ (T3.setTop (mkF m 68 #[.val (.int p0), .val (.int p1), .val (.int p2), .val (.int p3), .val (.int (p0 &&& (63 : Int32))), .val (.int (((p0.toUInt32 >>> ((6 : Int32) &&& 31).toUInt32).toInt32) &&& (63 : Int32))), .val (.ref c1), .val (.ref c2), .val (.int (0 : Int32))] [(.int (1 : Int32))]))
    have hF : CHr Z own_EL s.vm s.heap T3.vm T3.heap := by rw [hh, e3]; exact hR2.trans (CHv.at X3 hZ2 hEL hD2)
    exact own_retNH X3 hx (t := .boolean) Bd.returns (by simp) (hb hby at_68) hS2 (by rw [e3]; exact hk2) (⟨rfl, N3⟩) (hF) (by decide) (by decide)
  · refine own_go (fun t k => XS.ifNo X2.here hx rfl (hb hby at_41) rfl ((if0 _ _).trans (feq hc41).1) k) ?_
    show own_Go p e below _ (T2.setTop (mkF m 44 #[.val (.int p0), .val (.int p1), .val (.int p2), .val (.int p3), .val (.int (p0 &&& (63 : Int32))), .val (.int (((p0.toUInt32 >>> ((6 : Int32) &&& 31).toUInt32).toInt32) &&& (63 : Int32))), .val (.ref c1), .val (.ref c2), .unset] []))
    refine own_go (fun t k => XS.iconst X2.here hx rfl (hb hby at_44) k) ?_
    show own_Go p e below _ (T2.setTop (mkF m 45 #[.val (.int p0), .val (.int p1), .val (.int p2), .val (.int p3), .val (.int (p0 &&& (63 : Int32))), .val (.int (((p0.toUInt32 >>> ((6 : Int32) &&& 31).toUInt32).toInt32) &&& (63 : Int32))), .val (.ref c1), .val (.ref c2), .unset] [(.int (1 : Int32))]))
    refine own_go (fun t k => XS.goto X2.here hx rfl (pc0 := 45) (pc' := 49) rfl (hb hby at_45) (by decide) (by decide) k) ?_
    show own_Go p e below _ (T2.setTop (mkF m 49 #[.val (.int p0), .val (.int p1), .val (.int p2), .val (.int p3), .val (.int (p0 &&& (63 : Int32))), .val (.int (((p0.toUInt32 >>> ((6 : Int32) &&& 31).toUInt32).toInt32) &&& (63 : Int32))), .val (.ref c1), .val (.ref c2), .unset] [(.int (1 : Int32))]))
    refine own_go (fun t k => XS.istore X2.here hx rfl (hb hby at_49) rfl (l' := #[.val (.int p0), .val (.int p1), .val (.int p2), .val (.int p3), .val (.int (p0 &&& (63 : Int32))), .val (.int (((p0.toUInt32 >>> ((6 : Int32) &&& 31).toUInt32).toInt32) &&& (63 : Int32))), .val (.ref c1), .val (.ref c2), .val (.int (1 : Int32))]) rfl k) ?_
    show own_Go p e below _ (T2.setTop (mkF m 51 #[.val (.int p0), .val (.int p1), .val (.int p2), .val (.int p3), .val (.int (p0 &&& (63 : Int32))), .val (.int (((p0.toUInt32 >>> ((6 : Int32) &&& 31).toUInt32).toInt32) &&& (63 : Int32))), .val (.ref c1), .val (.ref c2), .val (.int (1 : Int32))] []))
    refine own_go (fun t k => XS.aload X2.here hx rfl (hb hby at_51) rfl rfl k) ?_
    show own_Go p e below _ (T2.setTop (mkF m 53 #[.val (.int p0), .val (.int p1), .val (.int p2), .val (.int p3), .val (.int (p0 &&& (63 : Int32))), .val (.int (((p0.toUInt32 >>> ((6 : Int32) &&& 31).toUInt32).toInt32) &&& (63 : Int32))), .val (.ref c1), .val (.ref c2), .val (.int (1 : Int32))] [(.ref c1)]))
    refine own_go (fun t k => XS.aload X2.here hx rfl (hb hby at_53) rfl rfl k) ?_
    show own_Go p e below _ (T2.setTop (mkF m 55 #[.val (.int p0), .val (.int p1), .val (.int p2), .val (.int p3), .val (.int (p0 &&& (63 : Int32))), .val (.int (((p0.toUInt32 >>> ((6 : Int32) &&& 31).toUInt32).toInt32) &&& (63 : Int32))), .val (.ref c1), .val (.ref c2), .val (.int (1 : Int32))] [(.ref c2), (.ref c1)]))
    obtain ⟨cq4, kq4, q4a, q4b, q4c⟩ := isOf hZ2 rfl G1__2.1
    obtain ⟨_, _, ⟨T4, L4, k4, n4⟩, -, X4, ⟨Lc4, hQ4, l4, y4, z4⟩, st4⟩ := X2.virtualBack hx (y := (⟨"com/example/tariff_reader/tariffreader/text/Qualifiers", "overlaps", "(Lcom/example/tariff_reader/tariffreader/text/Qualifiers;)Z"⟩ : MethodName)) (z := (⟨"com/example/tariff_reader/tariffreader/text/Qualifiers", "overlaps", "(Lcom/example/tariff_reader/tariffreader/text/Qualifiers;)Z"⟩ : MethodName)) hown2 (mvT hZ2 (hw _ (List.mem_of_getElem? (i := 34) rfl))) (mvT hZ2 (hw _ (List.mem_of_getElem? (i := 35) rfl))) (notFace_of_selects (args := #[]) (mvT hZ2 (hw _ (List.mem_of_getElem? (i := 37) rfl)))) (mvT hZ2 (hw _ (List.mem_of_getElem? (i := 37) rfl))) (mvT hZ2 (hw _ (List.mem_of_getElem? (i := 36) rfl))) (by decide) (backOf (W := 0) (rm9 l Z a0 hw [] c1 c2 m1_1 m1_2 m1_3 m1_4 m1_5 m1_6 m2_1 m2_2 m2_3 m2_4 m2_5 m2_6 T2.heap n0 sz2 G1__2 G2 r_m1_1 r_m1_2 r_m1_3 r_m1_4 r_m1_5 r_m1_6 r_m2_1 r_m2_2 r_m2_3 r_m2_4 r_m2_5 r_m2_6) hZ2 (hw _ (List.mem_of_getElem? (i := 38) rfl)) (hw _ (List.mem_of_getElem? (i := 15) rfl)) (by decide) (by decide)) q4a q4c (g := (mkF m 55 #[.val (.int p0), .val (.int p1), .val (.int p2), .val (.int p3), .val (.int (p0 &&& (63 : Int32))), .val (.int (((p0.toUInt32 >>> ((6 : Int32) &&& 31).toUInt32).toInt32) &&& (63 : Int32))), .val (.ref c1), .val (.ref c2), .val (.int (1 : Int32))] [(.ref c2), (.ref c1)])) rfl (by rw [hml]; rfl) (Steps.refl _) (argsL := [(.ref c2)]) (rest := []) (lenOf pd0_1 rfl) rfl (by show 2 * 0 + _ ≤ _; exact Nat.le_of_eq rfl) (hb hby at_55) (fun _ _ => ⟨rfl, rfl, (by decide : 0 + 25 + 25 + 0 ≤ _), (by decide : 0 + 54 + 54 + 0 ≤ _)⟩)
    dsimp only [Pt.U, Pt.locs, Pt.cells, Pt.slots] at X4 l4 y4 z4 st4 hQ4
    subst l4 y4 z4
    obtain ⟨rfl, Nq4, e4⟩ := hQ4
    have N4 := Fr.app N2 Nq4
    refine own_go (fun t k => st4.trans k) ?_
    show own_Go p e below _ (T4.setTop (mkF m 58 #[.val (.int p0), .val (.int p1), .val (.int p2), .val (.int p3), .val (.int (p0 &&& (63 : Int32))), .val (.int (((p0.toUInt32 >>> ((6 : Int32) &&& 31).toUInt32).toInt32) &&& (63 : Int32))), .val (.ref c1), .val (.ref c2), .val (.int (1 : Int32))] [(.int (own_ov m1_1 m1_2 m1_3 m1_4 m1_5 m1_6 m2_1 m2_2 m2_3 m2_4 m2_5 m2_6))]))
    refine own_go (fun t k => XS.iload X4.here hx rfl (hb hby at_58) rfl k) ?_
    show own_Go p e below _ (T4.setTop (mkF m 60 #[.val (.int p0), .val (.int p1), .val (.int p2), .val (.int p3), .val (.int (p0 &&& (63 : Int32))), .val (.int (((p0.toUInt32 >>> ((6 : Int32) &&& 31).toUInt32).toInt32) &&& (63 : Int32))), .val (.ref c1), .val (.ref c2), .val (.int (1 : Int32))] [(.int (1 : Int32)), (.int (own_ov m1_1 m1_2 m1_3 m1_4 m1_5 m1_6 m2_1 m2_2 m2_3 m2_4 m2_5 m2_6))]))
    refine own_go (fun t k => XS.icmpNo X4.here hx rfl (hb hby at_60) rfl (teq (by rw [own_ov_eq (p := p0) rfl r_m1_1 r_m1_2 r_m1_3 r_m1_4 r_m1_5 r_m1_6 r_m2_1 r_m2_2 r_m2_3 r_m2_4 r_m2_5 r_m2_6 i_m1_1 i_m1_2 i_m1_3 i_m1_4 i_m1_5 i_m1_6 i_m2_1 i_m2_2 i_m2_3 i_m2_4 i_m2_5 i_m2_6]; exact if_neg hc41 : (own_ov m1_1 m1_2 m1_3 m1_4 m1_5 m1_6 m2_1 m2_2 m2_3 m2_4 m2_5 m2_6) = (1 : Int32))).2 k) ?_
    show own_Go p e below _ (T4.setTop (mkF m 63 #[.val (.int p0), .val (.int p1), .val (.int p2), .val (.int p3), .val (.int (p0 &&& (63 : Int32))), .val (.int (((p0.toUInt32 >>> ((6 : Int32) &&& 31).toUInt32).toInt32) &&& (63 : Int32))), .val (.ref c1), .val (.ref c2), .val (.int (1 : Int32))] []))
    refine own_go (fun t k => XS.iconst X4.here hx rfl (hb hby at_63) k) ?_
    show own_Go p e below _ (T4.setTop (mkF m 64 #[.val (.int p0), .val (.int p1), .val (.int p2), .val (.int p3), .val (.int (p0 &&& (63 : Int32))), .val (.int (((p0.toUInt32 >>> ((6 : Int32) &&& 31).toUInt32).toInt32) &&& (63 : Int32))), .val (.ref c1), .val (.ref c2), .val (.int (1 : Int32))] [(.int (1 : Int32))]))
    refine own_go (fun t k => XS.goto X4.here hx rfl (pc0 := 64) (pc' := 68) rfl (hb hby at_64) (by decide) (by decide) k) ?_
    show own_Go p e below _ (T4.setTop (mkF m 68 #[.val (.int p0), .val (.int p1), .val (.int p2), .val (.int p3), .val (.int (p0 &&& (63 : Int32))), .val (.int (((p0.toUInt32 >>> ((6 : Int32) &&& 31).toUInt32).toInt32) &&& (63 : Int32))), .val (.ref c1), .val (.ref c2), .val (.int (1 : Int32))] [(.int (1 : Int32))]))
    have hF : CHr Z own_EL s.vm s.heap T4.vm T4.heap := by rw [hh, e4]; exact hR2.trans (CHv.at X4 hZ2 hEL hD2)
    exact own_retNH X4 hx (t := .boolean) Bd.returns (by simp) (hb hby at_68) hS2 (by rw [e4]; exact hk2) (⟨rfl, N4⟩) (hF) (by decide) (by decide)
theorem own_eqN {args : Array Value} {first s : State} {o : Option Outcome} {idx : List Nat} {a b : Term} {x y : Int32} (ha : a.eval args first o idx s = some (.int x)) (hb : b.eval args first o idx s = some (.int y)) : (Jvm.Cond.eq a b).value args first o s idx = some (decide (x = y)) := by simp [Cond.value, ha, hb]
set_option maxRecDepth 65536 in
set_option maxHeartbeats 40000000 in
theorem comes_1 {Post : Tables → Env → Array Value → State → Outcome → State → Prop} (hpost : ∀ tb e args s v u, (limb_1_1.after args s (.returned v) u = true ∧ limb_1_2.after args s (.returned v) u = true ∧ True) → ReturnedEndW s (.returned v) u (Jvm.fieldLocs frame_1_writes args s ++ Jvm.arrayLocs frame_1_arrays args s ++ Jvm.staticLocs frame_1_statics s) 64 1216 → Post tb e args s (.returned v) u) :
    ArmFor flags0 classFile x code maxLocals ret World_1 tables_1 room_1 Calls_1 rest_1 Pre_1 Post := by
  intro l hfl _ _ p e ha hc hk s m args below hf hA hF happ hP
  obtain ⟨hcalls, hrest, hpre⟩ := hP
  obtain ⟨-, -, -, hnamed, -, -, -, hat⟩ := (Spec.applies_iff hf).mp happ
  obtain ⟨hg, hn⟩ := and_e (Cond.before_iff.mp (show (Jvm.Cond.and given_1 narrow_1).before args s = true from hpre))
  obtain ⟨gc, gr0⟩ := and_e hg
  obtain ⟨ga0, gr1⟩ := and_e gr0
  obtain ⟨ga1, gr2⟩ := and_e gr1
  obtain ⟨ga2, ga3⟩ := and_e gr2
  obtain ⟨w0, w1, w2, w3, rfl⟩ : ∃ w0 w1 w2 w3 : Value, args = #[w0, w1, w2, w3] := by
    have hs : args.size = 4 := by simpa [Cond.value, given_1] using gc
    obtain ⟨L⟩ := args
    match L, hs with
    | [w0, w1, w2, w3], _ => exact ⟨w0, w1, w2, w3, rfl⟩
  have hw := fun d (hd : d ∈ tables_1) => atoms_spec (ws := Jvm.Cond.code x code maxLocals ret :: tables_1) hat d (List.mem_cons_of_mem _ hd)
  have hfit : Fit s := fun {y c} hc i hi => by
    obtain ⟨ha, rfl⟩ := Array.getElem?_eq_some_iff.mp hc
    have q := List.all_eq_true.mp ((Array.all_eq_true_iff_forall_mem.mp hF) _ (Array.getElem_mem ha)) i (List.mem_range.mpr hi)
    simpa [Array.getElem?_eq_getElem hi] using q
  obtain ⟨hsets, hown0⟩ := atoms_of _ (rest_1_c_eq ▸ (show rest_1_c.before _ s = true from hrest))
  obtain ⟨i0, ei0⟩ := is_v ga0
  obtain rfl : w0 = (.int i0) := Option.some.inj ei0
  obtain ⟨i1, ei1⟩ := is_v ga1
  obtain rfl : w1 = (.int i1) := Option.some.inj ei1
  obtain ⟨i2, ei2⟩ := is_v ga2
  obtain rfl : w2 = (.int i2) := Option.some.inj ei2
  obtain ⟨i3, ei3⟩ := is_v ga3
  obtain rfl : w3 = (.int i3) := Option.some.inj ei3
  obtain ⟨hn1a, hn1b⟩ := and_e hn
  obtain ⟨hn2a, hn2b⟩ := and_e hn1b
  obtain ⟨hn3a, hn3b⟩ := and_e hn2b
  obtain ⟨hn4a, hn4b⟩ := and_e hn3b
  obtain ⟨hn5a, hn5b⟩ := and_e hn4b
  obtain ⟨hn6a, hn6b⟩ := and_e hn5b
  obtain ⟨hn7a, hn7b⟩ := and_e hn6b
  obtain ⟨aMINUTE_MILE, vMINUTE_MILE⟩ := exa_v hn3a
  have SMINUTE_MILE := Sta.start vMINUTE_MILE (Or.inr ⟨(hw _ (List.mem_of_getElem? (i := 73) rfl)), (hw _ (List.mem_of_getElem? (i := 74) rfl))⟩)
  obtain ⟨aMINUTE, vMINUTE⟩ := exa_v hn4a
  have SMINUTE := Sta.start vMINUTE (Or.inr ⟨(hw _ (List.mem_of_getElem? (i := 73) rfl)), (hw _ (List.mem_of_getElem? (i := 79) rfl))⟩)
  obtain ⟨aQUERY, vQUERY⟩ := exa_v hn7a
  have SQUERY := Sta.start vQUERY (Or.inr ⟨(hw _ (List.mem_of_getElem? (i := 73) rfl)), (hw _ (List.mem_of_getElem? (i := 85) rfl))⟩)
  obtain ⟨aMONTH, vMONTH⟩ := exa_v hn6a
  have SMONTH := Sta.start vMONTH (Or.inr ⟨(hw _ (List.mem_of_getElem? (i := 73) rfl)), (hw _ (List.mem_of_getElem? (i := 83) rfl))⟩)
  obtain ⟨aOCCURRENCE, vOCCURRENCE⟩ := exa_v hn5a
  have SOCCURRENCE := Sta.start vOCCURRENCE (Or.inr ⟨(hw _ (List.mem_of_getElem? (i := 73) rfl)), (hw _ (List.mem_of_getElem? (i := 81) rfl))⟩)
  obtain ⟨aORIGINATING, vORIGINATING⟩ := exa_v hn2a
  have SORIGINATING := Sta.start vORIGINATING (Or.inr ⟨(hw _ (List.mem_of_getElem? (i := 68) rfl)), (hw _ (List.mem_of_getElem? (i := 71) rfl))⟩)
  obtain ⟨aTERMINATING, vTERMINATING⟩ := exa_v hn7b
  have STERMINATING := Sta.start vTERMINATING (Or.inr ⟨(hw _ (List.mem_of_getElem? (i := 68) rfl)), (hw _ (List.mem_of_getElem? (i := 87) rfl))⟩)
  obtain ⟨aBOTH, vBOTH⟩ := exa_v hn1a
  have SBOTH := Sta.start vBOTH (Or.inr ⟨(hw _ (List.mem_of_getElem? (i := 68) rfl)), (hw _ (List.mem_of_getElem? (i := 69) rfl))⟩)
  obtain ⟨cs, ecs⟩ := is_v (Cond.before_iff.mp (hsets _ (List.mem_of_getElem? (i := 1) rfl)))
  have SCS := Sta.start ecs (Or.inl (hsets _ (List.mem_of_getElem? (i := 0) rfl)))
  have hcs : ¬ cs = 0 := gotF (own_eqN ecs (Term.int_eval 0)) (not_v (Cond.before_iff.mp (hsets _ (List.mem_of_getElem? (i := 2) rfl))))
  have WW : own_W s := ⟨⟨cs, hcs, SCS⟩, ⟨aMINUTE_MILE, SMINUTE_MILE⟩, ⟨aMINUTE, SMINUTE⟩, ⟨aQUERY, SQUERY⟩, ⟨aMONTH, SMONTH⟩, ⟨aOCCURRENCE, SOCCURRENCE⟩, ⟨aORIGINATING, SORIGINATING⟩, ⟨aTERMINATING, STERMINATING⟩, ⟨aBOTH, SBOTH⟩⟩
  have hC : CHv s own_EL s.vm s.heap := CHv.start (own_ew hw) (fun p hp => hcalls.1 p hp) (hsets _ (List.mem_of_getElem? (i := 2) rfl)) (hw _ (List.mem_of_getElem? (i := 56) rfl)) (hw _ (List.mem_of_getElem? (i := 41) rfl))
  obtain ⟨n, o, h1, h2, h3, _, L, rfl, ⟨rfl, N⟩, -, hq⟩ := rm0 l s _ hw tables_1 i0 i1 i2 i3 s.heap s.heap.size (Nat.le_refl _) (Old.start s) WW p e ha hc hk s m _ below hf ((Spec.applies_iff_loose hf).mp happ).1 ⟨rfl, State.Warmed39.refl s, rfl, hC, all0⟩ trivial
  refine ⟨n, _, h1, h2, h3, hpost _ _ _ _ _ _ ⟨Cond.after_iff.mpr rfl, Cond.after_iff.mpr (eq_i res_at (Term.int_eval (1)) rfl), trivial⟩ ⟨hq.1, hq.2.1, hq.2.2.1, (hq.2.2.2.sift fun y hy => Or.inr (N y hy)).mono (by decide) (by decide)⟩⟩
theorem main_1_1 : Claimed_1_1 := comes_1 fun _ _ _ _ _ _ h hF => ⟨h.1, hF⟩
theorem main_1_2 : Claimed_1_2 := comes_1 fun _ _ _ _ _ _ h hF => ⟨h.2.1, hF⟩
end Jvm.Pilot.@@N@@
namespace Jvm.Pilot.@@N@@
open Jvm Jvm.ClassFile Sem Op Lib Jvm.Free Jvm.Stand Jvm.Pilot.@@N@@.Jvm.D
/-! MADE BY PROGRAM (witnessworld.py) out of the Statement's table words and the real class files: 23 classes; the members and pool entries that the words name. The judged class is class 1, her method 1. -/
namespace start1
open Jvm.ClassFile
def u (s : String) : CpInfo := .utf8 (stringToUtf16 s)
/-- a pool by its gaps: so many unusable entries, then the entry; so many at the end -/
def gap : Nat → List CpInfo → List CpInfo
  | 0, r => r
  | n + 1, r => .unusable :: gap n r
def poolList (es : List (Nat × CpInfo)) (last : Nat) : List CpInfo := es.foldr (fun e r => gap e.1 (e.2 :: r)) (gap last [])
def pool (es : List (Nat × CpInfo)) (last : Nat) : Array CpInfo := ⟨poolList es last⟩
def fileOf (pool : Array CpInfo) (this : Nat) (attrs : Array Attribute := #[]) (ms : Array MethodInfo := #[]) (fl : Nat := 33) (sup : Nat := 0) (ifs : Array Nat := #[]) (fds : Array FieldInfo := #[]) : ClassFile where
  minorVersion := 0
  majorVersion := 65
  constantPool := pool
  accessFlags := fl
  thisClass := this
  superClass := sup
  interfaces := ifs
  fields := fds
  methods := ms
  attributes := attrs
def plain (name : String) (sup : Option ClassId) : Class where
  name := name
  kind := .ordinary
  loader := none
  accessFlags := 33
  super := sup
  interfaces := #[]
  cf := none
  fields := #[]
  methods := #[]
  instanceTypes := #[]
  staticTypes := #[]
  resolved := #[]
  callSites := []
  init := .initialized
  statics := none
  mirror := none

def pool0 : Array CpInfo := pool [(5, u "<init>"), (0, u "()V"), (1, .class_ 10), (1, u "java/lang/Object")] 113

def k0c0 : Code := { maxStack := 0, maxLocals := 1, code := object_method_1_code, exceptionTable := #[], attributes := #[] }
def k0m0 : Method := { name := "<init>", desc := "()V", sig := { parameters := [], returnType := none }, accessFlags := 1, code := some k0c0 }
/-- java/lang/Object -/
def k0 : Class := { plain "java/lang/Object" none with
  accessFlags := 33
  interfaces := #[]
  cf := some (fileOf pool0 8 #[] #[{ accessFlags := 1, nameIndex := 5, descriptorIndex := 6, attributes := #[] }] 33 0 #[] #[])
  fields := #[]
  methods := #[k0m0]
  instanceTypes := #[]
  staticTypes := #[]
  resolved := Array.replicate 124 none
  statics := none }

def pool1 : Array CpInfo := pool [(2, .class_ 4), (1, u "java/lang/Object"), (0, u "<init>"), (0, u "()V"), (0, .methodref 8 9), (0, .class_ 10), (0, .nameAndType 11 12), (0, u "com/example/tariff_reader/tariffreader/text/QualifiersOverlapsPinLaw"), (0, u "make"), (0, u "(III)Lcom/example/tariff_reader/tariffreader/text/Qualifiers;"), (0, .methodref 14 15), (0, .class_ 16), (0, .nameAndType 17 18), (0, u "com/example/tariff_reader/tariffreader/text/Qualifiers"), (0, u "overlaps"), (0, u "(Lcom/example/tariff_reader/tariffreader/text/Qualifiers;)Z"), (0, .methodref 8 20), (0, .nameAndType 21 22), (0, u "str"), (0, u "(ZI)Ljava/lang/String;"), (0, .methodref 8 24), (0, .nameAndType 25 26), (0, u "dir"), (0, u "(ZI)Lcom/example/tariff_reader/tariffreader/model/Direction;"), (0, .methodref 8 28), (0, .nameAndType 29 30), (0, u "unit"), (0, u "(ZI)Lcom/example/tariff_reader/tariffreader/model/Unit;"), (0, .methodref 14 32), (0, .nameAndType 5 33), (0, u "(Ljava/lang/String;Ljava/lang/String;Ljava/lang/String;Lcom/example/tariff_reader/tariffreader/model/Direction;Ljava/lang/String;Lcom/example/tariff_reader/tariffreader/model/Unit;)V"), (0, .class_ 35), (0, u "java/lang/String"), (0, .methodref 34 37), (0, .nameAndType 5 38), (0, u "([C)V"), (0, .fieldref 40 41), (0, .class_ 42), (0, .nameAndType 43 44), (0, u "com/example/tariff_reader/tariffreader/model/Direction"), (0, u "ORIGINATING"), (0, u "Lcom/example/tariff_reader/tariffreader/model/Direction;"), (0, .fieldref 40 46), (0, .nameAndType 47 44), (0, u "TERMINATING"), (0, .fieldref 40 49), (0, .nameAndType 50 44), (0, u "BOTH"), (0, .fieldref 52 53), (0, .class_ 54), (0, .nameAndType 55 56), (0, u "com/example/tariff_reader/tariffreader/model/Unit"), (0, u "MINUTE_MILE"), (0, u "Lcom/example/tariff_reader/tariffreader/model/Unit;"), (0, .fieldref 52 58), (0, .nameAndType 59 56), (0, u "MINUTE"), (0, .fieldref 52 61), (0, .nameAndType 62 56), (0, u "QUERY"), (0, .fieldref 52 64), (0, .nameAndType 65 56), (0, u "MONTH"), (0, .fieldref 52 67), (0, .nameAndType 68 56), (0, u "OCCURRENCE"), (2, u "law"), (0, u "(IIII)Z")] 3

def k1m0 : Method := { name := "<init>", desc := "()V", sig := { parameters := [], returnType := none }, accessFlags := 1, code := none }
def k1c1 : Code := { maxStack := 4, maxLocals := 9, code := code, exceptionTable := #[], attributes := #[] }
def k1m1 : Method := { name := "law", desc := "(IIII)Z", sig := { parameters := [.int, .int, .int, .int], returnType := some .boolean }, accessFlags := 9, code := some k1c1 }
def k1c2 : Code := { maxStack := 8, maxLocals := 9, code := method_3_code, exceptionTable := #[], attributes := #[] }
def k1m2 : Method := { name := "make", desc := "(III)Lcom/example/tariff_reader/tariffreader/text/Qualifiers;", sig := { parameters := [.int, .int, .int], returnType := some (.object "com/example/tariff_reader/tariffreader/text/Qualifiers") }, accessFlags := 10, code := some k1c2 }
def k1c3 : Code := { maxStack := 4, maxLocals := 3, code := method_4_code, exceptionTable := #[], attributes := #[] }
def k1m3 : Method := { name := "str", desc := "(ZI)Ljava/lang/String;", sig := { parameters := [.boolean, .int], returnType := some (.object "java/lang/String") }, accessFlags := 10, code := some k1c3 }
def k1c4 : Code := { maxStack := 2, maxLocals := 2, code := method_5_code, exceptionTable := #[], attributes := #[] }
def k1m4 : Method := { name := "dir", desc := "(ZI)Lcom/example/tariff_reader/tariffreader/model/Direction;", sig := { parameters := [.boolean, .int], returnType := some (.object "com/example/tariff_reader/tariffreader/model/Direction") }, accessFlags := 10, code := some k1c4 }
def k1c5 : Code := { maxStack := 2, maxLocals := 2, code := method_6_code, exceptionTable := #[], attributes := #[] }
def k1m5 : Method := { name := "unit", desc := "(ZI)Lcom/example/tariff_reader/tariffreader/model/Unit;", sig := { parameters := [.boolean, .int], returnType := some (.object "com/example/tariff_reader/tariffreader/model/Unit") }, accessFlags := 10, code := some k1c5 }
/-- com/example/tariff_reader/tariffreader/text/QualifiersOverlapsPinLaw -/
def k1 : Class := { plain "com/example/tariff_reader/tariffreader/text/QualifiersOverlapsPinLaw" (some 0) with
  accessFlags := 49
  interfaces := #[]
  cf := some (fileOf pool1 8 #[] #[{ accessFlags := 1, nameIndex := 5, descriptorIndex := 6, attributes := #[] }, { accessFlags := 9, nameIndex := 71, descriptorIndex := 72, attributes := #[] }, { accessFlags := 10, nameIndex := 11, descriptorIndex := 12, attributes := #[] }, { accessFlags := 10, nameIndex := 21, descriptorIndex := 22, attributes := #[] }, { accessFlags := 10, nameIndex := 25, descriptorIndex := 26, attributes := #[] }, { accessFlags := 10, nameIndex := 29, descriptorIndex := 30, attributes := #[] }] 49 2 #[] #[])
  fields := #[]
  methods := #[k1m0, k1m1, k1m2, k1m3, k1m4, k1m5]
  instanceTypes := #[]
  staticTypes := #[]
  resolved := Array.replicate 76 none
  statics := none }

def pool2 : Array CpInfo := pool [(1, .methodref 2 3), (0, .class_ 4), (0, .nameAndType 5 6), (0, u "java/lang/Object"), (0, u "<init>"), (0, u "()V"), (0, .fieldref 8 9), (0, .class_ 10), (0, .nameAndType 11 12), (0, u "com/example/tariff_reader/tariffreader/text/Qualifiers"), (0, u "area"), (0, u "Ljava/lang/String;"), (0, .fieldref 8 14), (0, .nameAndType 15 12), (0, u "schedule"), (0, .fieldref 8 17), (0, .nameAndType 18 12), (0, u "traffic"), (0, .fieldref 8 20), (0, .nameAndType 21 22), (0, u "direction"), (0, u "Lcom/example/tariff_reader/tariffreader/model/Direction;"), (0, .fieldref 8 24), (0, .nameAndType 25 12), (0, u "band"), (0, .fieldref 8 27), (0, .nameAndType 28 29), (0, u "unit"), (0, u "Lcom/example/tariff_reader/tariffreader/model/Unit;"), (2, u "(Ljava/lang/String;Ljava/lang/String;Ljava/lang/String;Lcom/example/tariff_reader/tariffreader/model/Direction;Ljava/lang/String;Lcom/example/tariff_reader/tariffreader/model/Unit;)V"), (0, .class_ 34), (0, u "com/example/tariff_reader/tariffreader/text/Qualifiers$Kind"), (44, u "NONE"), (0, u "Lcom/example/tariff_reader/tariffreader/text/Qualifiers;"), (11, u "overlaps"), (0, u "(Lcom/example/tariff_reader/tariffreader/text/Qualifiers;)Z")] 19

def k2c0 : Code := { maxStack := 2, maxLocals := 7, code := prog_63_method_1_code, exceptionTable := #[], attributes := #[] }
def k2m0 : Method := { name := "<init>", desc := "(Ljava/lang/String;Ljava/lang/String;Ljava/lang/String;Lcom/example/tariff_reader/tariffreader/model/Direction;Ljava/lang/String;Lcom/example/tariff_reader/tariffreader/model/Unit;)V", sig := { parameters := [(.object "java/lang/String"), (.object "java/lang/String"), (.object "java/lang/String"), (.object "com/example/tariff_reader/tariffreader/model/Direction"), (.object "java/lang/String"), (.object "com/example/tariff_reader/tariffreader/model/Unit")], returnType := none }, accessFlags := 0, code := some k2c0 }
def k2c1 : Code := { maxStack := 1, maxLocals := 2, code := prog_63_method_3_code, exceptionTable := #[], attributes := #[] }
def k2m1 : Method := { name := "overlaps", desc := "(Lcom/example/tariff_reader/tariffreader/text/Qualifiers;)Z", sig := { parameters := [(.object "com/example/tariff_reader/tariffreader/text/Qualifiers")], returnType := some .boolean }, accessFlags := 0, code := some k2c1 }
/-- com/example/tariff_reader/tariffreader/text/Qualifiers -/
def k2 : Class := { plain "com/example/tariff_reader/tariffreader/text/Qualifiers" (some 0) with
  accessFlags := 48
  interfaces := #[]
  cf := some (fileOf pool2 8 #[.nestMembers #[33]] #[{ accessFlags := 0, nameIndex := 5, descriptorIndex := 32, attributes := #[] }, { accessFlags := 0, nameIndex := 92, descriptorIndex := 93, attributes := #[] }] 48 2 #[] #[{ accessFlags := 24, nameIndex := 79, descriptorIndex := 80, attributes := #[] }, { accessFlags := 18, nameIndex := 11, descriptorIndex := 12, attributes := #[] }, { accessFlags := 18, nameIndex := 15, descriptorIndex := 12, attributes := #[] }, { accessFlags := 18, nameIndex := 18, descriptorIndex := 12, attributes := #[] }, { accessFlags := 18, nameIndex := 21, descriptorIndex := 22, attributes := #[] }, { accessFlags := 18, nameIndex := 25, descriptorIndex := 12, attributes := #[] }, { accessFlags := 18, nameIndex := 28, descriptorIndex := 29, attributes := #[] }])
  fields := #[{ name := "NONE", type := (.object "com/example/tariff_reader/tariffreader/text/Qualifiers"), accessFlags := 24, slot := 0, constantValue := 0 }, { name := "area", type := (.object "java/lang/String"), accessFlags := 18, slot := 0, constantValue := 0 }, { name := "schedule", type := (.object "java/lang/String"), accessFlags := 18, slot := 1, constantValue := 0 }, { name := "traffic", type := (.object "java/lang/String"), accessFlags := 18, slot := 2, constantValue := 0 }, { name := "direction", type := (.object "com/example/tariff_reader/tariffreader/model/Direction"), accessFlags := 18, slot := 3, constantValue := 0 }, { name := "band", type := (.object "java/lang/String"), accessFlags := 18, slot := 4, constantValue := 0 }, { name := "unit", type := (.object "com/example/tariff_reader/tariffreader/model/Unit"), accessFlags := 18, slot := 5, constantValue := 0 }]
  methods := #[k2m0, k2m1]
  instanceTypes := #[(.object "java/lang/String"), (.object "java/lang/String"), (.object "java/lang/String"), (.object "com/example/tariff_reader/tariffreader/model/Direction"), (.object "java/lang/String"), (.object "com/example/tariff_reader/tariffreader/model/Unit")]
  staticTypes := #[(.object "com/example/tariff_reader/tariffreader/text/Qualifiers")]
  resolved := Array.replicate 113 none
  statics := none }

def pool3 : Array CpInfo := pool [(1, .class_ 2), (0, u "java/io/Serializable"), (0, .class_ 4), (0, u "java/lang/Object")] 2

/-- java/io/Serializable -/
def k3 : Class := { plain "java/io/Serializable" (some 0) with
  accessFlags := 1537
  interfaces := #[]
  cf := some (fileOf pool3 1 #[] #[] 1537 3 #[] #[])
  fields := #[]
  methods := #[]
  instanceTypes := #[]
  staticTypes := #[]
  resolved := Array.replicate 7 none
  statics := none }

def pool4 : Array CpInfo := pool [(1, .class_ 2), (0, u "java/lang/Comparable"), (0, .class_ 4), (0, u "java/lang/Object")] 7

/-- java/lang/Comparable -/
def k4 : Class := { plain "java/lang/Comparable" (some 0) with
  accessFlags := 1537
  interfaces := #[]
  cf := some (fileOf pool4 1 #[] #[] 1537 3 #[] #[])
  fields := #[]
  methods := #[]
  instanceTypes := #[]
  staticTypes := #[]
  resolved := Array.replicate 12 none
  statics := none }

def pool5 : Array CpInfo := pool [(2, .class_ 4), (1, u "java/lang/CharSequence"), (42, .class_ 48), (0, u "java/lang/CharSequence$1CodePointIterator"), (10, .class_ 60), (0, u "java/lang/CharSequence$1CharIterator"), (5, .class_ 67), (0, u "java/lang/Object")] 63

/-- java/lang/CharSequence -/
def k5 : Class := { plain "java/lang/CharSequence" (some 0) with
  accessFlags := 1537
  interfaces := #[]
  cf := some (fileOf pool5 2 #[.nestMembers #[47, 59]] #[] 1537 66 #[] #[])
  fields := #[]
  methods := #[]
  instanceTypes := #[]
  staticTypes := #[]
  resolved := Array.replicate 131 none
  statics := none }

def pool6 : Array CpInfo := pool [(1, .class_ 2), (0, u "java/lang/constant/Constable"), (0, .class_ 4), (0, u "java/lang/Object")] 6

/-- java/lang/constant/Constable -/
def k6 : Class := { plain "java/lang/constant/Constable" (some 0) with
  accessFlags := 1537
  interfaces := #[]
  cf := some (fileOf pool6 1 #[] #[] 1537 3 #[] #[])
  fields := #[]
  methods := #[]
  instanceTypes := #[]
  staticTypes := #[]
  resolved := Array.replicate 11 none
  statics := none }

def pool7 : Array CpInfo := pool [(1, .class_ 2), (0, u "java/lang/constant/ConstantDesc"), (0, .class_ 4), (0, u "java/lang/Object")] 32

/-- java/lang/constant/ConstantDesc -/
def k7 : Class := { plain "java/lang/constant/ConstantDesc" (some 0) with
  accessFlags := 1537
  interfaces := #[]
  cf := some (fileOf pool7 1 #[] #[] 1537 3 #[] #[])
  fields := #[]
  methods := #[]
  instanceTypes := #[]
  staticTypes := #[]
  resolved := Array.replicate 37 none
  statics := none }

def pool8 : Array CpInfo := pool [(1, .methodref 2 3), (0, .class_ 4), (0, .nameAndType 5 6), (0, u "java/lang/Object"), (0, u "<init>"), (0, u "()V"), (0, .string 8), (0, u ""), (0, .fieldref 10 11), (0, .class_ 12), (0, .nameAndType 13 14), (0, u "java/lang/String"), (0, u "value"), (0, u "[B"), (0, .fieldref 10 16), (0, .nameAndType 17 18), (0, u "coder"), (0, u "B"), (2, u "hash"), (0, u "I"), (2, u "hashIsZero"), (0, u "Z"), (0, .methodref 10 28), (0, .nameAndType 5 29), (0, u "([CIILjava/lang/Void;)V"), (8, .fieldref 10 39), (0, .nameAndType 40 26), (0, u "COMPACT_STRINGS"), (1, .class_ 44), (1, u "java/lang/StringUTF16"), (0, u "compress"), (1, .methodref 42 48), (0, .nameAndType 49 50), (0, u "coderFromArrayLen"), (0, u "([BI)B"), (126, .methodref 42 178), (0, .nameAndType 45 179), (0, u "([CII)[B"), (395, .class_ 576), (0, u "java/lang/CharSequence"), (22, u "CASE_INSENSITIVE_ORDER"), (0, u "Ljava/util/Comparator;"), (409, u "([C)V"), (90, u "serialPersistentFields"), (0, u "[Ljava/io/ObjectStreamField;"), (0, .class_ 1104), (0, u "java/lang/String$CaseInsensitiveComparator"), (1, .class_ 1107), (0, u "java/io/Serializable"), (0, .class_ 1109), (0, u "java/lang/Comparable"), (0, .class_ 1111), (0, u "java/lang/constant/Constable"), (0, .class_ 1113), (0, u "java/lang/constant/ConstantDesc"), (2, u "serialVersionUID"), (0, u "J"), (3, u "REPL"), (0, u "C"), (2, u "LATIN1"), (1, u "UTF16")] 323

def k8m0 : Method := { name := "<init>", desc := "()V", sig := { parameters := [], returnType := none }, accessFlags := 1, code := none }
def k8c1 : Code := { maxStack := 5, maxLocals := 2, code := jdk_42_method_3_code, exceptionTable := #[], attributes := #[] }
def k8m1 : Method := { name := "<init>", desc := "([C)V", sig := { parameters := [(.array .char)], returnType := none }, accessFlags := 1, code := some k8c1 }
def k8c2 : Code := { maxStack := 4, maxLocals := 6, code := jdk_42_method_149_code, exceptionTable := #[], attributes := #[] }
def k8m2 : Method := { name := "<init>", desc := "([CIILjava/lang/Void;)V", sig := { parameters := [(.array .char), .int, .int, (.object "java/lang/Void")], returnType := none }, accessFlags := 2, code := some k8c2 }
/-- java/lang/String -/
def k8 : Class := { plain "java/lang/String" (some 0) with
  accessFlags := 49
  interfaces := #[3, 4, 5, 6, 7]
  cf := some (fileOf pool8 10 #[.nestMembers #[1103]] #[{ accessFlags := 1, nameIndex := 5, descriptorIndex := 6, attributes := #[] }, { accessFlags := 1, nameIndex := 5, descriptorIndex := 1010, attributes := #[] }, { accessFlags := 2, nameIndex := 5, descriptorIndex := 29, attributes := #[] }] 49 2 #[1106, 1108, 575, 1110, 1112] #[{ accessFlags := 18, nameIndex := 13, descriptorIndex := 14, attributes := #[] }, { accessFlags := 18, nameIndex := 17, descriptorIndex := 18, attributes := #[] }, { accessFlags := 2, nameIndex := 21, descriptorIndex := 22, attributes := #[] }, { accessFlags := 2, nameIndex := 25, descriptorIndex := 26, attributes := #[] }, { accessFlags := 26, nameIndex := 1116, descriptorIndex := 1117, attributes := #[] }, { accessFlags := 24, nameIndex := 40, descriptorIndex := 26, attributes := #[] }, { accessFlags := 26, nameIndex := 1101, descriptorIndex := 1102, attributes := #[] }, { accessFlags := 26, nameIndex := 1121, descriptorIndex := 1122, attributes := #[] }, { accessFlags := 25, nameIndex := 599, descriptorIndex := 600, attributes := #[] }, { accessFlags := 24, nameIndex := 1125, descriptorIndex := 18, attributes := #[] }, { accessFlags := 24, nameIndex := 1127, descriptorIndex := 18, attributes := #[] }])
  fields := #[{ name := "value", type := (.array .byte), accessFlags := 18, slot := 0, constantValue := 0 }, { name := "coder", type := .byte, accessFlags := 18, slot := 1, constantValue := 0 }, { name := "hash", type := .int, accessFlags := 2, slot := 2, constantValue := 0 }, { name := "hashIsZero", type := .boolean, accessFlags := 2, slot := 3, constantValue := 0 }, { name := "serialVersionUID", type := .long, accessFlags := 26, slot := 0, constantValue := 0 }, { name := "COMPACT_STRINGS", type := .boolean, accessFlags := 24, slot := 1, constantValue := 0 }, { name := "serialPersistentFields", type := (.array (.object "java/io/ObjectStreamField")), accessFlags := 26, slot := 2, constantValue := 0 }, { name := "REPL", type := .char, accessFlags := 26, slot := 3, constantValue := 0 }, { name := "CASE_INSENSITIVE_ORDER", type := (.object "java/util/Comparator"), accessFlags := 25, slot := 4, constantValue := 0 }, { name := "LATIN1", type := .byte, accessFlags := 24, slot := 5, constantValue := 0 }, { name := "UTF16", type := .byte, accessFlags := 24, slot := 6, constantValue := 0 }]
  methods := #[k8m0, k8m1, k8m2]
  instanceTypes := #[(.array .byte), .byte, .int, .boolean]
  staticTypes := #[.long, .boolean, (.array (.object "java/io/ObjectStreamField")), .char, (.object "java/util/Comparator"), .byte, .byte]
  resolved := Array.replicate 1451 none
  statics := some 0 }

def pool9 : Array CpInfo := pool [(6, .class_ 8), (1, u "java/lang/Object"), (0, u "<init>"), (0, u "()V"), (1, .class_ 14), (1, u "java/lang/StringUTF16"), (31, u "$assertionsDisabled"), (0, u "Z"), (13, u "HI_BYTE_SHIFT"), (0, u "I"), (2, u "LO_BYTE_SHIFT"), (49, .methodref 12 116), (0, .nameAndType 117 118), (0, u "compress"), (0, u "([CI[BII)I"), (3, u "([CII)[B"), (138, u "coderFromArrayLen"), (0, u "([BI)B"), (106, .class_ 371), (1, u "java/lang/StringUTF16$LinesSpliterator"), (58, u "MAX_LENGTH"), (196, .class_ 628), (0, u "java/lang/StringUTF16$CodePointsSpliterator"), (0, .class_ 630), (0, u "java/lang/StringUTF16$CharsSpliterator")] 4

def k9m0 : Method := { name := "<init>", desc := "()V", sig := { parameters := [], returnType := none }, accessFlags := 0, code := none }
def k9c1 : Code := { maxStack := 2, maxLocals := 2, code := jdk_52_method_15_code, exceptionTable := #[], attributes := #[] }
def k9m1 : Method := { name := "coderFromArrayLen", desc := "([BI)B", sig := { parameters := [(.array .byte), .int], returnType := some .byte }, accessFlags := 8, code := some k9c1 }
def k9c2 : Code := { maxStack := 5, maxLocals := 6, code := jdk_52_method_16_code, exceptionTable := #[], attributes := #[] }
def k9m2 : Method := { name := "compress", desc := "([CII)[B", sig := { parameters := [(.array .char), .int, .int], returnType := some (.array .byte) }, accessFlags := 9, code := some k9c2 }
def k9c3 : Code := { maxStack := 3, maxLocals := 7, code := jdk_52_method_21_code, exceptionTable := #[], attributes := #[] }
def k9m3 : Method := { name := "compress", desc := "([CI[BII)I", sig := { parameters := [(.array .char), .int, (.array .byte), .int, .int], returnType := some .int }, accessFlags := 9, code := some k9c3 }
/-- java/lang/StringUTF16 -/
def k9 : Class := { plain "java/lang/StringUTF16" (some 0) with
  accessFlags := 48
  interfaces := #[]
  cf := some (fileOf pool9 12 #[.nestMembers #[627, 629, 369]] #[{ accessFlags := 0, nameIndex := 9, descriptorIndex := 10, attributes := #[] }, { accessFlags := 8, nameIndex := 261, descriptorIndex := 262, attributes := #[] }, { accessFlags := 9, nameIndex := 117, descriptorIndex := 122, attributes := #[] }, { accessFlags := 9, nameIndex := 117, descriptorIndex := 118, attributes := #[] }] 48 6 #[] #[{ accessFlags := 26, nameIndex := 61, descriptorIndex := 62, attributes := #[] }, { accessFlags := 26, nameIndex := 65, descriptorIndex := 62, attributes := #[] }, { accessFlags := 24, nameIndex := 430, descriptorIndex := 62, attributes := #[] }, { accessFlags := 4120, nameIndex := 46, descriptorIndex := 47, attributes := #[] }])
  fields := #[{ name := "HI_BYTE_SHIFT", type := .int, accessFlags := 26, slot := 0, constantValue := 0 }, { name := "LO_BYTE_SHIFT", type := .int, accessFlags := 26, slot := 1, constantValue := 0 }, { name := "MAX_LENGTH", type := .int, accessFlags := 24, slot := 2, constantValue := 0 }, { name := "$assertionsDisabled", type := .boolean, accessFlags := 4120, slot := 3, constantValue := 0 }]
  methods := #[k9m0, k9m1, k9m2, k9m3]
  instanceTypes := #[]
  staticTypes := #[.int, .int, .int, .boolean]
  resolved := Array.replicate 635 none
  statics := none }

def pool10 : Array CpInfo := pool [(2, .class_ 4), (1, u "java/lang/Enum"), (0, u "name"), (0, u "Ljava/lang/String;"), (2, u "ordinal"), (0, u "I"), (1, .class_ 14), (1, u "java/lang/Object"), (4, u "hash"), (86, .class_ 108), (1, u "java/lang/Enum$EnumDesc"), (2, .class_ 112), (0, u "java/lang/constant/Constable"), (0, .class_ 114), (0, u "java/lang/Comparable"), (0, .class_ 116), (0, u "java/io/Serializable")] 87

/-- java/lang/Enum -/
def k10 : Class := { plain "java/lang/Enum" (some 0) with
  accessFlags := 1057
  interfaces := #[6, 4, 3]
  cf := some (fileOf pool10 2 #[.nestMembers #[106]] #[] 1057 12 #[111, 113, 115] #[{ accessFlags := 18, nameIndex := 5, descriptorIndex := 6, attributes := #[] }, { accessFlags := 18, nameIndex := 9, descriptorIndex := 10, attributes := #[] }, { accessFlags := 2, nameIndex := 19, descriptorIndex := 10, attributes := #[] }])
  fields := #[{ name := "name", type := (.object "java/lang/String"), accessFlags := 18, slot := 0, constantValue := 0 }, { name := "ordinal", type := .int, accessFlags := 18, slot := 1, constantValue := 0 }, { name := "hash", type := .int, accessFlags := 2, slot := 2, constantValue := 0 }]
  methods := #[]
  instanceTypes := #[(.object "java/lang/String"), .int, .int]
  staticTypes := #[]
  resolved := Array.replicate 204 none
  statics := none }

def pool11 : Array CpInfo := pool [(1, .class_ 2), (0, u "com/example/tariff_reader/tariffreader/model/Direction"), (2, u "ORIGINATING"), (0, u "Lcom/example/tariff_reader/tariffreader/model/Direction;"), (2, u "TERMINATING"), (2, u "BOTH"), (2, u "$VALUES"), (0, u "[Lcom/example/tariff_reader/tariffreader/model/Direction;"), (6, .class_ 25), (1, u "java/lang/Enum")] 42

/-- com/example/tariff_reader/tariffreader/model/Direction -/
def k11 : Class := { plain "com/example/tariff_reader/tariffreader/model/Direction" (some 10) with
  accessFlags := 16433
  interfaces := #[]
  cf := some (fileOf pool11 1 #[] #[] 16433 23 #[] #[{ accessFlags := 16409, nameIndex := 5, descriptorIndex := 6, attributes := #[] }, { accessFlags := 16409, nameIndex := 9, descriptorIndex := 6, attributes := #[] }, { accessFlags := 16409, nameIndex := 12, descriptorIndex := 6, attributes := #[] }, { accessFlags := 4122, nameIndex := 15, descriptorIndex := 16, attributes := #[] }])
  fields := #[{ name := "ORIGINATING", type := (.object "com/example/tariff_reader/tariffreader/model/Direction"), accessFlags := 16409, slot := 0, constantValue := 0 }, { name := "TERMINATING", type := (.object "com/example/tariff_reader/tariffreader/model/Direction"), accessFlags := 16409, slot := 1, constantValue := 0 }, { name := "BOTH", type := (.object "com/example/tariff_reader/tariffreader/model/Direction"), accessFlags := 16409, slot := 2, constantValue := 0 }, { name := "$VALUES", type := (.array (.object "com/example/tariff_reader/tariffreader/model/Direction")), accessFlags := 4122, slot := 3, constantValue := 0 }]
  methods := #[]
  instanceTypes := #[(.object "java/lang/String"), .int, .int]
  staticTypes := #[(.object "com/example/tariff_reader/tariffreader/model/Direction"), (.object "com/example/tariff_reader/tariffreader/model/Direction"), (.object "com/example/tariff_reader/tariffreader/model/Direction"), (.array (.object "com/example/tariff_reader/tariffreader/model/Direction"))]
  resolved := Array.replicate 68 none
  statics := some 1 }

def pool12 : Array CpInfo := pool [(1, .class_ 2), (0, u "com/example/tariff_reader/tariffreader/model/Unit"), (2, u "MINUTE_MILE"), (0, u "Lcom/example/tariff_reader/tariffreader/model/Unit;"), (2, u "MINUTE"), (2, u "QUERY"), (2, u "MONTH"), (2, u "OCCURRENCE"), (2, u "$VALUES"), (0, u "[Lcom/example/tariff_reader/tariffreader/model/Unit;"), (6, .class_ 31), (1, u "java/lang/Enum"), (8, u "label"), (0, u "Ljava/lang/String;")] 36

/-- com/example/tariff_reader/tariffreader/model/Unit -/
def k12 : Class := { plain "com/example/tariff_reader/tariffreader/model/Unit" (some 10) with
  accessFlags := 16433
  interfaces := #[]
  cf := some (fileOf pool12 1 #[] #[] 16433 29 #[] #[{ accessFlags := 16409, nameIndex := 5, descriptorIndex := 6, attributes := #[] }, { accessFlags := 16409, nameIndex := 9, descriptorIndex := 6, attributes := #[] }, { accessFlags := 16409, nameIndex := 12, descriptorIndex := 6, attributes := #[] }, { accessFlags := 16409, nameIndex := 15, descriptorIndex := 6, attributes := #[] }, { accessFlags := 16409, nameIndex := 18, descriptorIndex := 6, attributes := #[] }, { accessFlags := 18, nameIndex := 40, descriptorIndex := 41, attributes := #[] }, { accessFlags := 4122, nameIndex := 21, descriptorIndex := 22, attributes := #[] }])
  fields := #[{ name := "MINUTE_MILE", type := (.object "com/example/tariff_reader/tariffreader/model/Unit"), accessFlags := 16409, slot := 0, constantValue := 0 }, { name := "MINUTE", type := (.object "com/example/tariff_reader/tariffreader/model/Unit"), accessFlags := 16409, slot := 1, constantValue := 0 }, { name := "QUERY", type := (.object "com/example/tariff_reader/tariffreader/model/Unit"), accessFlags := 16409, slot := 2, constantValue := 0 }, { name := "MONTH", type := (.object "com/example/tariff_reader/tariffreader/model/Unit"), accessFlags := 16409, slot := 3, constantValue := 0 }, { name := "OCCURRENCE", type := (.object "com/example/tariff_reader/tariffreader/model/Unit"), accessFlags := 16409, slot := 4, constantValue := 0 }, { name := "label", type := (.object "java/lang/String"), accessFlags := 18, slot := 3, constantValue := 0 }, { name := "$VALUES", type := (.array (.object "com/example/tariff_reader/tariffreader/model/Unit")), accessFlags := 4122, slot := 5, constantValue := 0 }]
  methods := #[]
  instanceTypes := #[(.object "java/lang/String"), .int, .int, (.object "java/lang/String")]
  staticTypes := #[(.object "com/example/tariff_reader/tariffreader/model/Unit"), (.object "com/example/tariff_reader/tariffreader/model/Unit"), (.object "com/example/tariff_reader/tariffreader/model/Unit"), (.object "com/example/tariff_reader/tariffreader/model/Unit"), (.object "com/example/tariff_reader/tariffreader/model/Unit"), (.array (.object "com/example/tariff_reader/tariffreader/model/Unit"))]
  resolved := Array.replicate 78 none
  statics := some 2 }

def pool13 : Array CpInfo := pool [(4, .class_ 6), (1, u "java/lang/Object"), (0, u "<init>"), (0, u "()V"), (5, .class_ 16), (1, u "java/lang/StringLatin1"), (104, u "$assertionsDisabled"), (0, u "Z"), (98, .class_ 223), (1, u "java/lang/StringLatin1$LinesSpliterator"), (166, .class_ 391), (0, u "java/lang/StringLatin1$CharsSpliterator")] 3

def k13m0 : Method := { name := "<init>", desc := "()V", sig := { parameters := [], returnType := none }, accessFlags := 0, code := none }
/-- java/lang/StringLatin1 -/
def k13 : Class := { plain "java/lang/StringLatin1" (some 0) with
  accessFlags := 48
  interfaces := #[]
  cf := some (fileOf pool13 14 #[.nestMembers #[390, 221]] #[{ accessFlags := 0, nameIndex := 7, descriptorIndex := 8, attributes := #[] }] 48 4 #[] #[{ accessFlags := 4120, nameIndex := 121, descriptorIndex := 122, attributes := #[] }])
  fields := #[{ name := "$assertionsDisabled", type := .boolean, accessFlags := 4120, slot := 0, constantValue := 0 }]
  methods := #[k13m0]
  instanceTypes := #[]
  staticTypes := #[.boolean]
  resolved := Array.replicate 395 none
  statics := none }

def pool14 : Array CpInfo := pool [(2, .class_ 4), (1, u "java/lang/Object"), (0, u "<init>"), (0, u "()V"), (17, .class_ 26), (1, u "jdk/internal/util/Preconditions"), (28, .class_ 56), (0, u "jdk/internal/util/Preconditions$4"), (57, .class_ 115), (0, u "jdk/internal/util/Preconditions$1"), (7, u "SIOOBE_FORMATTER"), (0, u "Ljava/util/function/BiFunction;"), (0, .class_ 126), (0, u "jdk/internal/util/Preconditions$2"), (3, u "AIOOBE_FORMATTER"), (0, .class_ 132), (0, u "jdk/internal/util/Preconditions$3"), (3, u "IOOBE_FORMATTER")] 57

def k14m0 : Method := { name := "<init>", desc := "()V", sig := { parameters := [], returnType := none }, accessFlags := 1, code := none }
/-- jdk/internal/util/Preconditions -/
def k14 : Class := { plain "jdk/internal/util/Preconditions" (some 0) with
  accessFlags := 33
  interfaces := #[]
  cf := some (fileOf pool14 24 #[.nestMembers #[55, 131, 125, 114]] #[{ accessFlags := 1, nameIndex := 5, descriptorIndex := 6, attributes := #[] }] 33 2 #[] #[{ accessFlags := 25, nameIndex := 123, descriptorIndex := 124, attributes := #[] }, { accessFlags := 25, nameIndex := 130, descriptorIndex := 124, attributes := #[] }, { accessFlags := 25, nameIndex := 136, descriptorIndex := 124, attributes := #[] }])
  fields := #[{ name := "SIOOBE_FORMATTER", type := (.object "java/util/function/BiFunction"), accessFlags := 25, slot := 0, constantValue := 0 }, { name := "AIOOBE_FORMATTER", type := (.object "java/util/function/BiFunction"), accessFlags := 25, slot := 1, constantValue := 0 }, { name := "IOOBE_FORMATTER", type := (.object "java/util/function/BiFunction"), accessFlags := 25, slot := 2, constantValue := 0 }]
  methods := #[k14m0]
  instanceTypes := #[]
  staticTypes := #[(.object "java/util/function/BiFunction"), (.object "java/util/function/BiFunction"), (.object "java/util/function/BiFunction")]
  resolved := Array.replicate 194 none
  statics := some 3 }

def pool15 : Array CpInfo := pool [(9, u "<init>"), (6, .class_ 18), (1, u "java/lang/Object"), (0, u "()V"), (1, .class_ 23), (1, u "jdk/internal/util/ArraysSupport"), (0, u "LOG2_ARRAY_LONG_INDEX_SCALE"), (0, u "I"), (2, u "U"), (0, u "Ljdk/internal/misc/Unsafe;"), (8, u "BIG_ENDIAN"), (0, u "Z"), (8, u "LOG2_BYTE_BIT_SIZE"), (4, u "LOG2_ARRAY_INT_INDEX_SCALE"), (54, u "JLA"), (0, u "Ljdk/internal/access/JavaLangAccess;"), (11, u "LOG2_ARRAY_BOOLEAN_INDEX_SCALE"), (9, u "LOG2_ARRAY_BYTE_INDEX_SCALE"), (5, u "LOG2_ARRAY_CHAR_INDEX_SCALE"), (5, u "LOG2_ARRAY_SHORT_INDEX_SCALE"), (18, u "LOG2_ARRAY_FLOAT_INDEX_SCALE"), (24, u "LOG2_ARRAY_DOUBLE_INDEX_SCALE"), (89, u "T_BOOLEAN"), (2, u "T_CHAR"), (1, u "T_FLOAT"), (1, u "T_DOUBLE"), (1, u "T_BYTE"), (1, u "T_SHORT"), (1, u "T_INT"), (1, u "T_LONG"), (1, u "SOFT_MAX_ARRAY_LENGTH")] 83

def k15m0 : Method := { name := "<init>", desc := "()V", sig := { parameters := [], returnType := none }, accessFlags := 2, code := none }
/-- jdk/internal/util/ArraysSupport -/
def k15 : Class := { plain "jdk/internal/util/ArraysSupport" (some 0) with
  accessFlags := 33
  interfaces := #[]
  cf := some (fileOf pool15 21 #[] #[{ accessFlags := 2, nameIndex := 9, descriptorIndex := 19, attributes := #[] }] 33 16 #[] #[{ accessFlags := 24, nameIndex := 28, descriptorIndex := 29, attributes := #[] }, { accessFlags := 26, nameIndex := 38, descriptorIndex := 39, attributes := #[] }, { accessFlags := 25, nameIndex := 121, descriptorIndex := 25, attributes := #[] }, { accessFlags := 25, nameIndex := 131, descriptorIndex := 25, attributes := #[] }, { accessFlags := 25, nameIndex := 137, descriptorIndex := 25, attributes := #[] }, { accessFlags := 25, nameIndex := 143, descriptorIndex := 25, attributes := #[] }, { accessFlags := 25, nameIndex := 53, descriptorIndex := 25, attributes := #[] }, { accessFlags := 25, nameIndex := 24, descriptorIndex := 25, attributes := #[] }, { accessFlags := 25, nameIndex := 162, descriptorIndex := 25, attributes := #[] }, { accessFlags := 25, nameIndex := 187, descriptorIndex := 25, attributes := #[] }, { accessFlags := 26, nameIndex := 48, descriptorIndex := 25, attributes := #[] }, { accessFlags := 25, nameIndex := 277, descriptorIndex := 25, attributes := #[] }, { accessFlags := 25, nameIndex := 280, descriptorIndex := 25, attributes := #[] }, { accessFlags := 25, nameIndex := 282, descriptorIndex := 25, attributes := #[] }, { accessFlags := 25, nameIndex := 284, descriptorIndex := 25, attributes := #[] }, { accessFlags := 25, nameIndex := 286, descriptorIndex := 25, attributes := #[] }, { accessFlags := 25, nameIndex := 288, descriptorIndex := 25, attributes := #[] }, { accessFlags := 25, nameIndex := 290, descriptorIndex := 25, attributes := #[] }, { accessFlags := 25, nameIndex := 292, descriptorIndex := 25, attributes := #[] }, { accessFlags := 26, nameIndex := 108, descriptorIndex := 109, attributes := #[] }, { accessFlags := 25, nameIndex := 294, descriptorIndex := 25, attributes := #[] }])
  fields := #[{ name := "U", type := (.object "jdk/internal/misc/Unsafe"), accessFlags := 24, slot := 0, constantValue := 0 }, { name := "BIG_ENDIAN", type := .boolean, accessFlags := 26, slot := 1, constantValue := 0 }, { name := "LOG2_ARRAY_BOOLEAN_INDEX_SCALE", type := .int, accessFlags := 25, slot := 2, constantValue := 0 }, { name := "LOG2_ARRAY_BYTE_INDEX_SCALE", type := .int, accessFlags := 25, slot := 3, constantValue := 0 }, { name := "LOG2_ARRAY_CHAR_INDEX_SCALE", type := .int, accessFlags := 25, slot := 4, constantValue := 0 }, { name := "LOG2_ARRAY_SHORT_INDEX_SCALE", type := .int, accessFlags := 25, slot := 5, constantValue := 0 }, { name := "LOG2_ARRAY_INT_INDEX_SCALE", type := .int, accessFlags := 25, slot := 6, constantValue := 0 }, { name := "LOG2_ARRAY_LONG_INDEX_SCALE", type := .int, accessFlags := 25, slot := 7, constantValue := 0 }, { name := "LOG2_ARRAY_FLOAT_INDEX_SCALE", type := .int, accessFlags := 25, slot := 8, constantValue := 0 }, { name := "LOG2_ARRAY_DOUBLE_INDEX_SCALE", type := .int, accessFlags := 25, slot := 9, constantValue := 0 }, { name := "LOG2_BYTE_BIT_SIZE", type := .int, accessFlags := 26, slot := 10, constantValue := 0 }, { name := "T_BOOLEAN", type := .int, accessFlags := 25, slot := 11, constantValue := 0 }, { name := "T_CHAR", type := .int, accessFlags := 25, slot := 12, constantValue := 0 }, { name := "T_FLOAT", type := .int, accessFlags := 25, slot := 13, constantValue := 0 }, { name := "T_DOUBLE", type := .int, accessFlags := 25, slot := 14, constantValue := 0 }, { name := "T_BYTE", type := .int, accessFlags := 25, slot := 15, constantValue := 0 }, { name := "T_SHORT", type := .int, accessFlags := 25, slot := 16, constantValue := 0 }, { name := "T_INT", type := .int, accessFlags := 25, slot := 17, constantValue := 0 }, { name := "T_LONG", type := .int, accessFlags := 25, slot := 18, constantValue := 0 }, { name := "JLA", type := (.object "jdk/internal/access/JavaLangAccess"), accessFlags := 26, slot := 19, constantValue := 0 }, { name := "SOFT_MAX_ARRAY_LENGTH", type := .int, accessFlags := 25, slot := 20, constantValue := 0 }]
  methods := #[k15m0]
  instanceTypes := #[]
  staticTypes := #[(.object "jdk/internal/misc/Unsafe"), .boolean, .int, .int, .int, .int, .int, .int, .int, .int, .int, .int, .int, .int, .int, .int, .int, .int, .int, (.object "jdk/internal/access/JavaLangAccess"), .int]
  resolved := Array.replicate 378 none
  statics := none }

def pool16 : Array CpInfo := pool [(1, u "java/lang/Cloneable"), (0, .class_ 1), (0, u "java/lang/Object"), (0, .class_ 3)] 3

/-- java/lang/Cloneable -/
def k16 : Class := { plain "java/lang/Cloneable" (some 0) with
  accessFlags := 1537
  interfaces := #[]
  cf := some (fileOf pool16 2 #[] #[] 1537 4 #[] #[])
  fields := #[]
  methods := #[]
  instanceTypes := #[]
  staticTypes := #[]
  resolved := Array.replicate 8 none
  statics := none }

/-- the primitive byte -/
def k17 : Class := { plain "byte" none with kind := .primitive 'B', accessFlags := 0x411 }
/-- [B -/
def k18 : Class := { plain "[B" (some 0) with kind := .array 17 .byte, interfaces := #[16, 3], accessFlags := 1041 }

/-- the primitive char -/
def k19 : Class := { plain "char" none with kind := .primitive 'C', accessFlags := 0x411 }
/-- [C -/
def k20 : Class := { plain "[C" (some 0) with kind := .array 19 .char, interfaces := #[16, 3], accessFlags := 1041 }

/-- the primitive int -/
def k21 : Class := { plain "int" none with kind := .primitive 'I', accessFlags := 0x411 }
/-- [I -/
def k22 : Class := { plain "[I" (some 0) with kind := .array 21 .int, interfaces := #[16, 3], accessFlags := 1041 }

def heap : Heap := #[{ cls := 8, slots := #[.long 0, .int 1, .null, .int 0, .null, .int 0, .int 0], vm := .statics 8 },
  { cls := 11, slots := #[.ref 9, .ref 10, .ref 11, .null], vm := .statics 11 },
  { cls := 12, slots := #[.ref 4, .ref 5, .ref 6, .ref 7, .ref 8, .null], vm := .statics 12 },
  { cls := 14, slots := #[.null, .null, .null], vm := .statics 14 },
  { cls := 12, slots := #[.null, .int 0, .int 0, .null], vm := .none },
  { cls := 12, slots := #[.null, .int 1, .int 0, .null], vm := .none },
  { cls := 12, slots := #[.null, .int 2, .int 0, .null], vm := .none },
  { cls := 12, slots := #[.null, .int 3, .int 0, .null], vm := .none },
  { cls := 12, slots := #[.null, .int 4, .int 0, .null], vm := .none },
  { cls := 11, slots := #[.null, .int 5, .int 0], vm := .none },
  { cls := 11, slots := #[.null, .int 6, .int 0], vm := .none },
  { cls := 11, slots := #[.null, .int 7, .int 0], vm := .none }]
def classes : Array Class := #[k0, k1, k2, k3, k4, k5, k6, k7, k8, k9, k10, k11, k12, k13, k14, k15, k16, k17, k18, k19, k20, k21, k22]
def interned : List (Array UInt16 × Addr) := []
def slotsUsed : Nat := 49
def theMethod : MethodId := ⟨1, 1⟩
def args0 : Array Value := #[.int 3, .int 3, .int 3, .int 3]
def aboutOver (below : List Frame) : State where
  vm := { classes := classes, interned := interned.toArray }
  heap := heap
  slotsUsed := slotsUsed
  threads := #[{ frames := .invoking theMethod args0 :: below }]
def below0 : List Frame := [.native { method := ⟨0, 0⟩, args := #[] }]
def about1 : State := aboutOver below0
def p0 : Program := .bare "" "" ""
def e0 : Env := launch0.env 0 0 0
theorem w_frames : about1.frames = Frame.invoking theMethod args0 :: below0 := rfl
set_option maxRecDepth 65536 in
theorem w_args : argsFit about1.vm theMethod args0 = true := by decide +kernel
set_option maxRecDepth 65536 in
theorem w_heap : heapFits about1 = true := by decide +kernel
set_option maxRecDepth 65536 in
theorem w_runnable : about1.curStatus? = some .runnable := by decide +kernel
set_option maxRecDepth 65536 in
theorem w_alone : about1.alone = true := by decide +kernel
set_option maxRecDepth 65536 in
theorem w_named : about1.methodNamed? x = some theMethod := by decide +kernel
set_option maxRecDepth 65536 in
theorem w_hears : about1.hears theMethod below0 = true := by decide +kernel
set_option maxRecDepth 65536 in
theorem w_ripe : about1.ripe theMethod args0 below0 = true := by decide +kernel
theorem w_running : about1.status = .running := rfl
set_option maxRecDepth 65536 in
theorem w_room : about1.hasRoom e0.platform room_1 = true :=
  launch0.hasRoom_least _ room_1 (by decide +kernel) (by decide +kernel) (by decide +kernel) (by decide +kernel) (by decide +kernel) (by decide +kernel)
theorem allAtoms_all (ts : List Jvm.Cond) (a : Array Jvm.Value) (st : Jvm.State) : (allAtoms ts).before a st = ts.all (fun c => c.before a st) := by
  induction ts with
  | nil => rfl
  | cons c t ih =>
    show (Jvm.Cond.and c (allAtoms t)).before a st = _
    rw [Jvm.Cond.before_and, ih, List.all_cons]
def words1 : List Jvm.Cond := Jvm.Cond.code x code maxLocals ret :: tables_1
/-- a 'code' word, met by the world's own term for the bytes: nothing is compared byte by byte -/
theorem code_word {y : MethodName} {bytes : ByteArray} {mx : Nat} {rt : Option FieldType} {a : Array Value} {s : State} {m : MethodId} {meth : Method} {c : Code} (h1 : s.methodNamed? y = some m) (h2 : s.vm.method? m = some meth) (h3 : meth.code = some c) (h4 : c.code = bytes)
    (h5 : (c.maxLocals == mx && c.exceptionTable.isEmpty && decide (c.maxStack ≤ mostOperands) && decide (meth.sig.returnType = rt) && !meth.locks && decide (parseMethodDescriptor y.desc = some meth.sig)) = true) : (Jvm.Cond.code y bytes mx rt).before a s = true := by
  simp only [Bool.and_eq_true, beq_iff_eq, Bool.not_eq_true', decide_eq_true_eq] at h5
  obtain ⟨⟨⟨⟨⟨g1, g2⟩, g3⟩, g4⟩, g5⟩, g6⟩ := h5
  simp [Cond.before, Cond.holds, Cond.value, h1, h2, h3, h4, g1, g2, g3, g4, g5, g6]
def isCode : Jvm.Cond → Bool
  | .code _ _ _ _ => true
  | _ => false
theorem all_split {L : List Jvm.Cond} {P : Jvm.Cond → Bool} (h1 : L.all (fun c => isCode c || P c) = true) (h2 : ∀ c ∈ L.filter isCode, P c = true) : L.all P = true := by
  refine List.all_eq_true.mpr fun c hc => ?_
  have h := List.all_eq_true.mp h1 c hc
  rcases Bool.eq_false_or_eq_true (isCode c) with hi | hi
  · exact h2 c (List.mem_filter.mpr ⟨hc, hi⟩)
  · simpa [hi] using h
set_option maxRecDepth 65536 in
theorem w_c0 : (Jvm.Cond.code x code maxLocals ret).before args0 about1 = true := code_word (m := ⟨1, 1⟩) (meth := k1m1) (c := k1c1) (by decide +kernel) rfl rfl rfl (by decide +kernel)
set_option maxRecDepth 65536 in
theorem w_c1 : (Jvm.Cond.code ({ cls := "com/example/tariff_reader/tariffreader/text/QualifiersOverlapsPinLaw", name := "make", desc := "(III)Lcom/example/tariff_reader/tariffreader/text/Qualifiers;" } : Jvm.MethodName) method_3_code (9 : Nat) (Option.some (Jvm.ClassFile.FieldType.object "com/example/tariff_reader/tariffreader/text/Qualifiers"))).before args0 about1 = true := code_word (m := ⟨1, 2⟩) (meth := k1m2) (c := k1c2) (by decide +kernel) rfl rfl rfl (by decide +kernel)
set_option maxRecDepth 65536 in
theorem w_c2 : (Jvm.Cond.code ({ cls := "com/example/tariff_reader/tariffreader/text/QualifiersOverlapsPinLaw", name := "str", desc := "(ZI)Ljava/lang/String;" } : Jvm.MethodName) method_4_code (3 : Nat) (Option.some (Jvm.ClassFile.FieldType.object "java/lang/String"))).before args0 about1 = true := code_word (m := ⟨1, 3⟩) (meth := k1m3) (c := k1c3) (by decide +kernel) rfl rfl rfl (by decide +kernel)
set_option maxRecDepth 65536 in
theorem w_c3 : (Jvm.Cond.code ({ cls := "com/example/tariff_reader/tariffreader/text/QualifiersOverlapsPinLaw", name := "dir", desc := "(ZI)Lcom/example/tariff_reader/tariffreader/model/Direction;" } : Jvm.MethodName) method_5_code (2 : Nat) (Option.some (Jvm.ClassFile.FieldType.object "com/example/tariff_reader/tariffreader/model/Direction"))).before args0 about1 = true := code_word (m := ⟨1, 4⟩) (meth := k1m4) (c := k1c4) (by decide +kernel) rfl rfl rfl (by decide +kernel)
set_option maxRecDepth 65536 in
theorem w_c4 : (Jvm.Cond.code ({ cls := "com/example/tariff_reader/tariffreader/text/QualifiersOverlapsPinLaw", name := "unit", desc := "(ZI)Lcom/example/tariff_reader/tariffreader/model/Unit;" } : Jvm.MethodName) method_6_code (2 : Nat) (Option.some (Jvm.ClassFile.FieldType.object "com/example/tariff_reader/tariffreader/model/Unit"))).before args0 about1 = true := code_word (m := ⟨1, 5⟩) (meth := k1m5) (c := k1c5) (by decide +kernel) rfl rfl rfl (by decide +kernel)
set_option maxRecDepth 65536 in
theorem w_c5 : (Jvm.Cond.code ({ cls := "com/example/tariff_reader/tariffreader/text/Qualifiers", name := "<init>", desc := "(Ljava/lang/String;Ljava/lang/String;Ljava/lang/String;Lcom/example/tariff_reader/tariffreader/model/Direction;Ljava/lang/String;Lcom/example/tariff_reader/tariffreader/model/Unit;)V" } : Jvm.MethodName) prog_63_method_1_code (7 : Nat) (Option.none : Option Jvm.ClassFile.FieldType)).before args0 about1 = true := code_word (m := ⟨2, 0⟩) (meth := k2m0) (c := k2c0) (by decide +kernel) rfl rfl rfl (by decide +kernel)
set_option maxRecDepth 65536 in
theorem w_c6 : (Jvm.Cond.code ({ cls := "java/lang/Object", name := "<init>", desc := "()V" } : Jvm.MethodName) object_method_1_code (1 : Nat) (Option.none : Option Jvm.ClassFile.FieldType)).before args0 about1 = true := code_word (m := ⟨0, 0⟩) (meth := k0m0) (c := k0c0) (by decide +kernel) rfl rfl rfl (by decide +kernel)
set_option maxRecDepth 65536 in
theorem w_c7 : (Jvm.Cond.code ({ cls := "com/example/tariff_reader/tariffreader/text/Qualifiers", name := "overlaps", desc := "(Lcom/example/tariff_reader/tariffreader/text/Qualifiers;)Z" } : Jvm.MethodName) prog_63_method_3_code (2 : Nat) (Option.some Jvm.ClassFile.FieldType.boolean)).before args0 about1 = true := code_word (m := ⟨2, 1⟩) (meth := k2m1) (c := k2c1) (by decide +kernel) rfl rfl rfl (by decide +kernel)
set_option maxRecDepth 65536 in
theorem w_c8 : (Jvm.Cond.code ({ cls := "java/lang/String", name := "<init>", desc := "([C)V" } : Jvm.MethodName) jdk_42_method_3_code (2 : Nat) (Option.none : Option Jvm.ClassFile.FieldType)).before args0 about1 = true := code_word (m := ⟨8, 1⟩) (meth := k8m1) (c := k8c1) (by decide +kernel) rfl rfl rfl (by decide +kernel)
set_option maxRecDepth 65536 in
theorem w_c9 : (Jvm.Cond.code ({ cls := "java/lang/String", name := "<init>", desc := "([CIILjava/lang/Void;)V" } : Jvm.MethodName) jdk_42_method_149_code (6 : Nat) (Option.none : Option Jvm.ClassFile.FieldType)).before args0 about1 = true := code_word (m := ⟨8, 2⟩) (meth := k8m2) (c := k8c2) (by decide +kernel) rfl rfl rfl (by decide +kernel)
set_option maxRecDepth 65536 in
theorem w_c10 : (Jvm.Cond.code ({ cls := "java/lang/StringUTF16", name := "compress", desc := "([CII)[B" } : Jvm.MethodName) jdk_52_method_16_code (6 : Nat) (Option.some (Jvm.ClassFile.FieldType.array Jvm.ClassFile.FieldType.byte))).before args0 about1 = true := code_word (m := ⟨9, 2⟩) (meth := k9m2) (c := k9c2) (by decide +kernel) rfl rfl rfl (by decide +kernel)
set_option maxRecDepth 65536 in
theorem w_c11 : (Jvm.Cond.code ({ cls := "java/lang/StringUTF16", name := "compress", desc := "([CI[BII)I" } : Jvm.MethodName) jdk_52_method_21_code (7 : Nat) (Option.some Jvm.ClassFile.FieldType.int)).before args0 about1 = true := code_word (m := ⟨9, 3⟩) (meth := k9m3) (c := k9c3) (by decide +kernel) rfl rfl rfl (by decide +kernel)
set_option maxRecDepth 65536 in
theorem w_c12 : (Jvm.Cond.code ({ cls := "java/lang/StringUTF16", name := "coderFromArrayLen", desc := "([BI)B" } : Jvm.MethodName) jdk_52_method_15_code (2 : Nat) (Option.some Jvm.ClassFile.FieldType.byte)).before args0 about1 = true := code_word (m := ⟨9, 1⟩) (meth := k9m1) (c := k9c1) (by decide +kernel) rfl rfl rfl (by decide +kernel)
def codes1 : List Jvm.Cond := [Jvm.Cond.code x code maxLocals ret, Jvm.Cond.code ({ cls := "com/example/tariff_reader/tariffreader/text/QualifiersOverlapsPinLaw", name := "make", desc := "(III)Lcom/example/tariff_reader/tariffreader/text/Qualifiers;" } : Jvm.MethodName) method_3_code (9 : Nat) (Option.some (Jvm.ClassFile.FieldType.object "com/example/tariff_reader/tariffreader/text/Qualifiers")), Jvm.Cond.code ({ cls := "com/example/tariff_reader/tariffreader/text/QualifiersOverlapsPinLaw", name := "str", desc := "(ZI)Ljava/lang/String;" } : Jvm.MethodName) method_4_code (3 : Nat) (Option.some (Jvm.ClassFile.FieldType.object "java/lang/String")), Jvm.Cond.code ({ cls := "com/example/tariff_reader/tariffreader/text/QualifiersOverlapsPinLaw", name := "dir", desc := "(ZI)Lcom/example/tariff_reader/tariffreader/model/Direction;" } : Jvm.MethodName) method_5_code (2 : Nat) (Option.some (Jvm.ClassFile.FieldType.object "com/example/tariff_reader/tariffreader/model/Direction")), Jvm.Cond.code ({ cls := "com/example/tariff_reader/tariffreader/text/QualifiersOverlapsPinLaw", name := "unit", desc := "(ZI)Lcom/example/tariff_reader/tariffreader/model/Unit;" } : Jvm.MethodName) method_6_code (2 : Nat) (Option.some (Jvm.ClassFile.FieldType.object "com/example/tariff_reader/tariffreader/model/Unit")), Jvm.Cond.code ({ cls := "com/example/tariff_reader/tariffreader/text/Qualifiers", name := "<init>", desc := "(Ljava/lang/String;Ljava/lang/String;Ljava/lang/String;Lcom/example/tariff_reader/tariffreader/model/Direction;Ljava/lang/String;Lcom/example/tariff_reader/tariffreader/model/Unit;)V" } : Jvm.MethodName) prog_63_method_1_code (7 : Nat) (Option.none : Option Jvm.ClassFile.FieldType), Jvm.Cond.code ({ cls := "java/lang/Object", name := "<init>", desc := "()V" } : Jvm.MethodName) object_method_1_code (1 : Nat) (Option.none : Option Jvm.ClassFile.FieldType), Jvm.Cond.code ({ cls := "com/example/tariff_reader/tariffreader/text/Qualifiers", name := "overlaps", desc := "(Lcom/example/tariff_reader/tariffreader/text/Qualifiers;)Z" } : Jvm.MethodName) prog_63_method_3_code (2 : Nat) (Option.some Jvm.ClassFile.FieldType.boolean), Jvm.Cond.code ({ cls := "java/lang/String", name := "<init>", desc := "([C)V" } : Jvm.MethodName) jdk_42_method_3_code (2 : Nat) (Option.none : Option Jvm.ClassFile.FieldType), Jvm.Cond.code ({ cls := "java/lang/String", name := "<init>", desc := "([CIILjava/lang/Void;)V" } : Jvm.MethodName) jdk_42_method_149_code (6 : Nat) (Option.none : Option Jvm.ClassFile.FieldType), Jvm.Cond.code ({ cls := "java/lang/StringUTF16", name := "compress", desc := "([CII)[B" } : Jvm.MethodName) jdk_52_method_16_code (6 : Nat) (Option.some (Jvm.ClassFile.FieldType.array Jvm.ClassFile.FieldType.byte)), Jvm.Cond.code ({ cls := "java/lang/StringUTF16", name := "compress", desc := "([CI[BII)I" } : Jvm.MethodName) jdk_52_method_21_code (7 : Nat) (Option.some Jvm.ClassFile.FieldType.int), Jvm.Cond.code ({ cls := "java/lang/StringUTF16", name := "coderFromArrayLen", desc := "([BI)B" } : Jvm.MethodName) jdk_52_method_15_code (2 : Nat) (Option.some Jvm.ClassFile.FieldType.byte)]
set_option maxRecDepth 65536 in
theorem codes_eq : words1.filter isCode = codes1 := rfl
theorem w_codes : ∀ c ∈ words1.filter isCode, c.before args0 about1 = true := by
  rw [codes_eq]
  intro c hc
  simp only [codes1, List.mem_cons, List.not_mem_nil, or_false] at hc
  rcases hc with rfl | rfl | rfl | rfl | rfl | rfl | rfl | rfl | rfl | rfl | rfl | rfl | rfl
  · exact w_c0
  · exact w_c1
  · exact w_c2
  · exact w_c3
  · exact w_c4
  · exact w_c5
  · exact w_c6
  · exact w_c7
  · exact w_c8
  · exact w_c9
  · exact w_c10
  · exact w_c11
  · exact w_c12
set_option maxRecDepth 65536 in
theorem w_t1 : (words1.take 24).all (fun c => isCode c || c.before args0 about1) = true := by decide +kernel
set_option maxRecDepth 65536 in
theorem w_t2 : ((words1.drop 24).take 24).all (fun c => isCode c || c.before args0 about1) = true := by decide +kernel
set_option maxRecDepth 65536 in
theorem w_t3 : (((words1.drop 24).drop 24).take 24).all (fun c => isCode c || c.before args0 about1) = true := by decide +kernel
set_option maxRecDepth 65536 in
theorem w_t4 : (((words1.drop 24).drop 24).drop 24).all (fun c => isCode c || c.before args0 about1) = true := by decide +kernel
theorem w_tables : (allAtoms (Jvm.Cond.code x code maxLocals ret :: tables_1)).before args0 about1 = true := by
  rw [allAtoms_all]
  show words1.all (fun c => c.before args0 about1) = true
  refine all_split ?_ w_codes
  rw [← List.take_append_drop 24 words1, List.all_append, w_t1, ← List.take_append_drop 24 (words1.drop 24), List.all_append, w_t2, ← List.take_append_drop 24 ((words1.drop 24).drop 24), List.all_append, w_t3, w_t4]
  rfl
set_option maxRecDepth 65536 in
theorem w_rest : rest_1_c.before args0 about1 = true := by decide +kernel
set_option maxRecDepth 65536 in
theorem w_case : (Jvm.Cond.and given_1 narrow_1).before args0 about1 = true := by decide +kernel
set_option maxRecDepth 65536 in
theorem w_consts : constsHeld consts_1 about1 := Jvm.Lit.constsHeldB_iff.mp (by decide +kernel)
theorem w_applies : (headSpec (Jvm.Cond.code x code maxLocals ret :: tables_1) room_1).applies x e0.platform about1 = true :=
  (Spec.applies_iff w_frames).mpr ⟨w_running, w_runnable, w_alone, w_named, w_hears, w_ripe, w_room, w_tables⟩
theorem atStart : AtStart classFile x code maxLocals ret World_1 tables_1 room_1 Calls_1 rest_1 Pre_1 launch0 p0 e0 about1 theMethod args0 below0 :=
  ⟨lists_1, trivial, launch0.admits_env _ _ _, launch0.least_env, fairChoices_fair.cas, fairChoices_fair.clock, w_frames, w_args, w_heap, w_applies, ⟨w_consts, trivial⟩, w_rest, w_case⟩
end start1
theorem witness_1 : WitnessClaimed_1 := ⟨start1.p0, start1.e0, start1.about1, start1.theMethod, start1.args0, start1.below0, start1.atStart⟩
end Jvm.Pilot.@@N@@
