import JvmDerived
import JvmDerived.Pilot.@@N@@Statement
import JvmDerived.Pilot.@@N@@Code
set_option linter.unusedVariables false
set_option linter.unusedSimpArgs false
@@BLOCK:NumsL.lean.txt@@
namespace Jvm.Pilot.@@N@@
open Jvm Jvm.ClassFile Sem Op Lib Jvm.Free Jvm.Stand Jvm.LawKit Jvm.RoadKit Bundle Jvm.Pilot.@@N@@.Jvm.D
section Own
variable {p : Program} {l : Launch} {e : Env} {R : Room} {s : State} {m : MethodId} {args : Array Value} {below : List Frame} {meth : Method} {c : Code} {T : State} {locs : List Loc} {cells slots : Nat}
/-- from S the run ends, and it ends as Q says -/
def own_Go (p : Program) (e : Env) (below : List Frame) (Q : Outcome → State → Prop) (S : State) : Prop := ∃ s₂ o, Steps p.tables e below S s₂ ∧ s₂.status = .running ∧ Ended s₂ below o ∧ Q o s₂
theorem own_go {Q : Outcome → State → Prop} {S S' : State} (h : ∀ t, Steps p.tables e below S' t → Steps p.tables e below S t) (k : own_Go p e below Q S') : own_Go p e below Q S := by
  obtain ⟨s₂, o, h1, h2⟩ := k
  exact ⟨s₂, o, h _ h1, h2⟩
theorem own_ret {Q : Option Value → Heap → List Loc → Prop} {C S : Nat} (X : Stand p l e R s m args below meth c T locs cells slots) {v : Option Value} (hv : meth.sig.returnType = none → v = none) (hlk : meth.locks = false) {S0 : State}
    (hst : ∀ fs, (∀ (f : JFrame) (acts : List Action), f.method = m → f.locked = none → f.entered = [] → (doReturn e (T.setTop f) acts v).1 = T.setFrames fs) → Steps p.tables e below S0 (T.setFrames fs))
    (hQ : Q v T.heap locs) (hC : cells ≤ C) (hS : slots ≤ S) : own_Go p e below (fun o U' => ∃ v L, o = .returned v ∧ Q v U'.heap L ∧ FrameEnd s o U' L C S) S0 := by
  obtain ⟨fs, hr, hrun, hended, hW, hsame⟩ := X.leave (v := v) hv hlk
  exact ⟨_, _, hst fs hr, hrun, hended, _, _, rfl, hQ, ⟨_, rfl⟩, hW, hsame.mono hC hS⟩
theorem own_retN {Q : Option Value → Heap → List Loc → Prop} {C S : Nat} (X : Stand p l e R s m args below meth c T locs cells slots) (hx : p.tables.exec = Jvm.exec) {pc : Nat} {Ls : Array Slot} {z : Int32} {t : FieldType} {rest : List Value} (hret : meth.sig.returnType = some t) (ht : t = .boolean ∨ t = .byte ∨ t = .char ∨ t = .short)
    (hd : decode c.code pc = .ok (.ireturn, 1)) (hQ : Q (some (.int (nar t z))) T.heap locs) (hC : cells ≤ C) (hS : slots ≤ S) (hlk : meth.locks = false := by assumption) :
    own_Go p e below (fun o U' => ∃ v L, o = .returned v ∧ Q v U'.heap L ∧ FrameEnd s o U' L C S) (T.setTop (mkF m pc Ls (.int z :: rest))) :=
  own_ret X (fun h => by rw [hret] at h; cases h) hlk (fun fs hr => retN X hx hret ht hd hr) hQ hC hS
theorem own_retI {Q : Option Value → Heap → List Loc → Prop} {C S : Nat} (X : Stand p l e R s m args below meth c T locs cells slots) (hx : p.tables.exec = Jvm.exec) {pc : Nat} {Ls : Array Slot} {z : Int32} {rest : List Value} (hret : meth.sig.returnType = some .int)
    (hd : decode c.code pc = .ok (.ireturn, 1)) (hQ : Q (some (.int z)) T.heap locs) (hC : cells ≤ C) (hS : slots ≤ S) (hlk : meth.locks = false := by assumption) :
    own_Go p e below (fun o U' => ∃ v L, o = .returned v ∧ Q v U'.heap L ∧ FrameEnd s o U' L C S) (T.setTop (mkF m pc Ls (.int z :: rest))) :=
  own_ret X (fun h => by rw [hret] at h; cases h) hlk (fun fs hr => retOut X hx hret rfl (Or.inl ⟨rfl, Or.inl rfl, z, rfl⟩) hd hr) hQ hC hS
theorem own_retL {Q : Option Value → Heap → List Loc → Prop} {C S : Nat} (X : Stand p l e R s m args below meth c T locs cells slots) (hx : p.tables.exec = Jvm.exec) {pc : Nat} {Ls : Array Slot} {z : Int64} {rest : List Value} (hret : meth.sig.returnType = some .long)
    (hd : decode c.code pc = .ok (.lreturn, 1)) (hQ : Q (some (.long z)) T.heap locs) (hC : cells ≤ C) (hS : slots ≤ S) (hlk : meth.locks = false := by assumption) :
    own_Go p e below (fun o U' => ∃ v L, o = .returned v ∧ Q v U'.heap L ∧ FrameEnd s o U' L C S) (T.setTop (mkF m pc Ls (.long z :: rest))) :=
  own_ret X (fun h => by rw [hret] at h; cases h) hlk (fun fs hr => retOut X hx hret rfl (Or.inr (Or.inl ⟨rfl, rfl, z, rfl⟩)) hd hr) hQ hC hS
theorem own_retA {Q : Option Value → Heap → List Loc → Prop} {C S : Nat} (X : Stand p l e R s m args below meth c T locs cells slots) (hx : p.tables.exec = Jvm.exec) {pc : Nat} {Ls : Array Slot} {w : Value} {t : FieldType} {rest : List Value} (hret : meth.sig.returnType = some t) (ht : t.isReference = true) (hw : w.isRef = true)
    (hd : decode c.code pc = .ok (.areturn, 1)) (hQ : Q (some w) T.heap locs) (hC : cells ≤ C) (hS : slots ≤ S) (hlk : meth.locks = false := by assumption) :
    own_Go p e below (fun o U' => ∃ v L, o = .returned v ∧ Q v U'.heap L ∧ FrameEnd s o U' L C S) (T.setTop (mkF m pc Ls (w :: rest))) :=
  own_ret X (fun h => by rw [hret] at h; cases h) hlk (fun fs hr => retOut X hx hret (by cases t <;> first | (cases ht; done) | rfl) (Or.inr (Or.inr (Or.inr (Or.inr ⟨rfl, ht, hw⟩)))) hd hr) hQ hC hS
theorem own_ret0 {Q : Option Value → Heap → List Loc → Prop} {C S : Nat} (X : Stand p l e R s m args below meth c T locs cells slots) (hx : p.tables.exec = Jvm.exec) {pc : Nat} {Ls : Array Slot} (hret : meth.sig.returnType = none)
    (hd : decode c.code pc = .ok (.return_, 1)) (hQ : Q none T.heap locs) (hC : cells ≤ C) (hS : slots ≤ S) (hlk : meth.locks = false := by assumption) :
    own_Go p e below (fun o U' => ∃ v L, o = .returned v ∧ Q v U'.heap L ∧ FrameEnd s o U' L C S) (T.setTop (mkF m pc Ls [])) :=
  own_ret X (fun _ => rfl) hlk (fun fs hr => X.returnOut hx hret hd hr) hQ hC hS
theorem own_retW {Q : Option Value → Heap → List Loc → Prop} {C S : Nat} {vm₁ : Vm} {n : Nat} (X : Stand p l e R (s.setVm vm₁) m args below meth c T locs cells slots) {v : Option Value} (hv : meth.sig.returnType = none → v = none) (hlk : meth.locks = false) {S0 : State}
    (hst : ∀ fs, (∀ (f : JFrame) (acts : List Action), f.method = m → f.locked = none → f.entered = [] → (doReturn e (T.setTop f) acts v).1 = T.setFrames fs) → Steps p.tables e below S0 (T.setFrames fs))
    (hS₁ : s.Since vm₁ n) (hn₁ : n ≤ T.heap.size) (hQ : Q v T.heap locs) (hC : cells ≤ C) (hS : slots ≤ S) : own_Go p e below (fun o U' => ∃ v L, o = .returned v ∧ Q v U'.heap L ∧ ReturnedEndW s o U' L C S) S0 := by
  obtain ⟨fs, hr, hrun, hended, q1, q2, q3, q4⟩ := X.leaveW hS₁ hn₁ (v := v) hv hlk
  exact ⟨_, _, hst fs hr, hrun, hended, _, _, rfl, hQ, q1, q2, q3, q4.mono hC hS⟩
theorem own_retNW {Q : Option Value → Heap → List Loc → Prop} {C S : Nat} {vm₁ : Vm} {n : Nat} (X : Stand p l e R (s.setVm vm₁) m args below meth c T locs cells slots) (hx : p.tables.exec = Jvm.exec) {pc : Nat} {Ls : Array Slot} {z : Int32} {t : FieldType} {rest : List Value} (hret : meth.sig.returnType = some t) (ht : t = .boolean ∨ t = .byte ∨ t = .char ∨ t = .short)
    (hd : decode c.code pc = .ok (.ireturn, 1)) (hS₁ : s.Since vm₁ n) (hn₁ : n ≤ T.heap.size) (hQ : Q (some (.int (nar t z))) T.heap locs) (hC : cells ≤ C) (hS : slots ≤ S) (hlk : meth.locks = false := by assumption) :
    own_Go p e below (fun o U' => ∃ v L, o = .returned v ∧ Q v U'.heap L ∧ ReturnedEndW s o U' L C S) (T.setTop (mkF m pc Ls (.int z :: rest))) :=
  own_retW X (fun h => by rw [hret] at h; cases h) hlk (fun fs hr => retN X hx hret ht hd hr) hS₁ hn₁ hQ hC hS
theorem own_retIW {Q : Option Value → Heap → List Loc → Prop} {C S : Nat} {vm₁ : Vm} {n : Nat} (X : Stand p l e R (s.setVm vm₁) m args below meth c T locs cells slots) (hx : p.tables.exec = Jvm.exec) {pc : Nat} {Ls : Array Slot} {z : Int32} {rest : List Value} (hret : meth.sig.returnType = some .int)
    (hd : decode c.code pc = .ok (.ireturn, 1)) (hS₁ : s.Since vm₁ n) (hn₁ : n ≤ T.heap.size) (hQ : Q (some (.int z)) T.heap locs) (hC : cells ≤ C) (hS : slots ≤ S) (hlk : meth.locks = false := by assumption) :
    own_Go p e below (fun o U' => ∃ v L, o = .returned v ∧ Q v U'.heap L ∧ ReturnedEndW s o U' L C S) (T.setTop (mkF m pc Ls (.int z :: rest))) :=
  own_retW X (fun h => by rw [hret] at h; cases h) hlk (fun fs hr => retOut X hx hret rfl (Or.inl ⟨rfl, Or.inl rfl, z, rfl⟩) hd hr) hS₁ hn₁ hQ hC hS
theorem own_retLW {Q : Option Value → Heap → List Loc → Prop} {C S : Nat} {vm₁ : Vm} {n : Nat} (X : Stand p l e R (s.setVm vm₁) m args below meth c T locs cells slots) (hx : p.tables.exec = Jvm.exec) {pc : Nat} {Ls : Array Slot} {z : Int64} {rest : List Value} (hret : meth.sig.returnType = some .long)
    (hd : decode c.code pc = .ok (.lreturn, 1)) (hS₁ : s.Since vm₁ n) (hn₁ : n ≤ T.heap.size) (hQ : Q (some (.long z)) T.heap locs) (hC : cells ≤ C) (hS : slots ≤ S) (hlk : meth.locks = false := by assumption) :
    own_Go p e below (fun o U' => ∃ v L, o = .returned v ∧ Q v U'.heap L ∧ ReturnedEndW s o U' L C S) (T.setTop (mkF m pc Ls (.long z :: rest))) :=
  own_retW X (fun h => by rw [hret] at h; cases h) hlk (fun fs hr => retOut X hx hret rfl (Or.inr (Or.inl ⟨rfl, rfl, z, rfl⟩)) hd hr) hS₁ hn₁ hQ hC hS
theorem own_retAW {Q : Option Value → Heap → List Loc → Prop} {C S : Nat} {vm₁ : Vm} {n : Nat} (X : Stand p l e R (s.setVm vm₁) m args below meth c T locs cells slots) (hx : p.tables.exec = Jvm.exec) {pc : Nat} {Ls : Array Slot} {w : Value} {t : FieldType} {rest : List Value} (hret : meth.sig.returnType = some t) (ht : t.isReference = true) (hw : w.isRef = true)
    (hd : decode c.code pc = .ok (.areturn, 1)) (hS₁ : s.Since vm₁ n) (hn₁ : n ≤ T.heap.size) (hQ : Q (some w) T.heap locs) (hC : cells ≤ C) (hS : slots ≤ S) (hlk : meth.locks = false := by assumption) :
    own_Go p e below (fun o U' => ∃ v L, o = .returned v ∧ Q v U'.heap L ∧ ReturnedEndW s o U' L C S) (T.setTop (mkF m pc Ls (w :: rest))) :=
  own_retW X (fun h => by rw [hret] at h; cases h) hlk (fun fs hr => retOut X hx hret (by cases t <;> first | (cases ht; done) | rfl) (Or.inr (Or.inr (Or.inr (Or.inr ⟨rfl, ht, hw⟩)))) hd hr) hS₁ hn₁ hQ hC hS
theorem own_ret0W {Q : Option Value → Heap → List Loc → Prop} {C S : Nat} {vm₁ : Vm} {n : Nat} (X : Stand p l e R (s.setVm vm₁) m args below meth c T locs cells slots) (hx : p.tables.exec = Jvm.exec) {pc : Nat} {Ls : Array Slot} (hret : meth.sig.returnType = none)
    (hd : decode c.code pc = .ok (.return_, 1)) (hS₁ : s.Since vm₁ n) (hn₁ : n ≤ T.heap.size) (hQ : Q none T.heap locs) (hC : cells ≤ C) (hS : slots ≤ S) (hlk : meth.locks = false := by assumption) :
    own_Go p e below (fun o U' => ∃ v L, o = .returned v ∧ Q v U'.heap L ∧ ReturnedEndW s o U' L C S) (T.setTop (mkF m pc Ls [])) :=
  own_retW X (fun _ => rfl) hlk (fun fs hr => X.returnOut hx hret hd hr) hS₁ hn₁ hQ hC hS
theorem own_retH {Q : Option Value → Heap → List Loc → Prop} {C S : Nat} {vm₁ : Vm} {n : Nat} {Z : State} {EL : List (String × Nat)} (X : Stand p l e R (s.setVm vm₁) m args below meth c T locs cells slots) {v : Option Value} (hv : meth.sig.returnType = none → v = none) (hlk : meth.locks = false) {S0 : State}
    (hst : ∀ fs, (∀ (f : JFrame) (acts : List Action), f.method = m → f.locked = none → f.entered = [] → (doReturn e (T.setTop f) acts v).1 = T.setFrames fs) → Steps p.tables e below S0 (T.setFrames fs))
    (hS₁ : s.Since vm₁ n) (hn₁ : n ≤ T.heap.size) (hQ : Q v T.heap locs) (hF : CHr Z EL s.vm s.heap T.vm T.heap) (hC : cells ≤ C) (hS : slots ≤ S) : own_Go p e below (fun o U' => ∃ v L, o = .returned v ∧ Q v U'.heap L ∧ CHr Z EL s.vm s.heap U'.vm U'.heap ∧ ReturnedEndW s o U' L C S) S0 := by
  obtain ⟨fs, hr, hrun, hended, q1, q2, q3, q4⟩ := X.leaveW hS₁ hn₁ (v := v) hv hlk
  exact ⟨_, _, hst fs hr, hrun, hended, _, _, rfl, hQ, hF, q1, q2, q3, q4.mono hC hS⟩
theorem own_retNH {Q : Option Value → Heap → List Loc → Prop} {C S : Nat} {vm₁ : Vm} {n : Nat} {Z : State} {EL : List (String × Nat)} (X : Stand p l e R (s.setVm vm₁) m args below meth c T locs cells slots) (hx : p.tables.exec = Jvm.exec) {pc : Nat} {Ls : Array Slot} {z : Int32} {t : FieldType} {rest : List Value} (hret : meth.sig.returnType = some t) (ht : t = .boolean ∨ t = .byte ∨ t = .char ∨ t = .short)
    (hd : decode c.code pc = .ok (.ireturn, 1)) (hS₁ : s.Since vm₁ n) (hn₁ : n ≤ T.heap.size) (hQ : Q (some (.int (nar t z))) T.heap locs) (hF : CHr Z EL s.vm s.heap T.vm T.heap) (hC : cells ≤ C) (hS : slots ≤ S) (hlk : meth.locks = false := by assumption) :
    own_Go p e below (fun o U' => ∃ v L, o = .returned v ∧ Q v U'.heap L ∧ CHr Z EL s.vm s.heap U'.vm U'.heap ∧ ReturnedEndW s o U' L C S) (T.setTop (mkF m pc Ls (.int z :: rest))) :=
  own_retH X (fun h => by rw [hret] at h; cases h) hlk (fun fs hr => retN X hx hret ht hd hr) hS₁ hn₁ hQ hF hC hS
theorem own_retIH {Q : Option Value → Heap → List Loc → Prop} {C S : Nat} {vm₁ : Vm} {n : Nat} {Z : State} {EL : List (String × Nat)} (X : Stand p l e R (s.setVm vm₁) m args below meth c T locs cells slots) (hx : p.tables.exec = Jvm.exec) {pc : Nat} {Ls : Array Slot} {z : Int32} {rest : List Value} (hret : meth.sig.returnType = some .int)
    (hd : decode c.code pc = .ok (.ireturn, 1)) (hS₁ : s.Since vm₁ n) (hn₁ : n ≤ T.heap.size) (hQ : Q (some (.int z)) T.heap locs) (hF : CHr Z EL s.vm s.heap T.vm T.heap) (hC : cells ≤ C) (hS : slots ≤ S) (hlk : meth.locks = false := by assumption) :
    own_Go p e below (fun o U' => ∃ v L, o = .returned v ∧ Q v U'.heap L ∧ CHr Z EL s.vm s.heap U'.vm U'.heap ∧ ReturnedEndW s o U' L C S) (T.setTop (mkF m pc Ls (.int z :: rest))) :=
  own_retH X (fun h => by rw [hret] at h; cases h) hlk (fun fs hr => retOut X hx hret rfl (Or.inl ⟨rfl, Or.inl rfl, z, rfl⟩) hd hr) hS₁ hn₁ hQ hF hC hS
theorem own_retLH {Q : Option Value → Heap → List Loc → Prop} {C S : Nat} {vm₁ : Vm} {n : Nat} {Z : State} {EL : List (String × Nat)} (X : Stand p l e R (s.setVm vm₁) m args below meth c T locs cells slots) (hx : p.tables.exec = Jvm.exec) {pc : Nat} {Ls : Array Slot} {z : Int64} {rest : List Value} (hret : meth.sig.returnType = some .long)
    (hd : decode c.code pc = .ok (.lreturn, 1)) (hS₁ : s.Since vm₁ n) (hn₁ : n ≤ T.heap.size) (hQ : Q (some (.long z)) T.heap locs) (hF : CHr Z EL s.vm s.heap T.vm T.heap) (hC : cells ≤ C) (hS : slots ≤ S) (hlk : meth.locks = false := by assumption) :
    own_Go p e below (fun o U' => ∃ v L, o = .returned v ∧ Q v U'.heap L ∧ CHr Z EL s.vm s.heap U'.vm U'.heap ∧ ReturnedEndW s o U' L C S) (T.setTop (mkF m pc Ls (.long z :: rest))) :=
  own_retH X (fun h => by rw [hret] at h; cases h) hlk (fun fs hr => retOut X hx hret rfl (Or.inr (Or.inl ⟨rfl, rfl, z, rfl⟩)) hd hr) hS₁ hn₁ hQ hF hC hS
theorem own_retAH {Q : Option Value → Heap → List Loc → Prop} {C S : Nat} {vm₁ : Vm} {n : Nat} {Z : State} {EL : List (String × Nat)} (X : Stand p l e R (s.setVm vm₁) m args below meth c T locs cells slots) (hx : p.tables.exec = Jvm.exec) {pc : Nat} {Ls : Array Slot} {w : Value} {t : FieldType} {rest : List Value} (hret : meth.sig.returnType = some t) (ht : t.isReference = true) (hw : w.isRef = true)
    (hd : decode c.code pc = .ok (.areturn, 1)) (hS₁ : s.Since vm₁ n) (hn₁ : n ≤ T.heap.size) (hQ : Q (some w) T.heap locs) (hF : CHr Z EL s.vm s.heap T.vm T.heap) (hC : cells ≤ C) (hS : slots ≤ S) (hlk : meth.locks = false := by assumption) :
    own_Go p e below (fun o U' => ∃ v L, o = .returned v ∧ Q v U'.heap L ∧ CHr Z EL s.vm s.heap U'.vm U'.heap ∧ ReturnedEndW s o U' L C S) (T.setTop (mkF m pc Ls (w :: rest))) :=
  own_retH X (fun h => by rw [hret] at h; cases h) hlk (fun fs hr => retOut X hx hret (by cases t <;> first | (cases ht; done) | rfl) (Or.inr (Or.inr (Or.inr (Or.inr ⟨rfl, ht, hw⟩)))) hd hr) hS₁ hn₁ hQ hF hC hS
theorem own_ret0H {Q : Option Value → Heap → List Loc → Prop} {C S : Nat} {vm₁ : Vm} {n : Nat} {Z : State} {EL : List (String × Nat)} (X : Stand p l e R (s.setVm vm₁) m args below meth c T locs cells slots) (hx : p.tables.exec = Jvm.exec) {pc : Nat} {Ls : Array Slot} (hret : meth.sig.returnType = none)
    (hd : decode c.code pc = .ok (.return_, 1)) (hS₁ : s.Since vm₁ n) (hn₁ : n ≤ T.heap.size) (hQ : Q none T.heap locs) (hF : CHr Z EL s.vm s.heap T.vm T.heap) (hC : cells ≤ C) (hS : slots ≤ S) (hlk : meth.locks = false := by assumption) :
    own_Go p e below (fun o U' => ∃ v L, o = .returned v ∧ Q v U'.heap L ∧ CHr Z EL s.vm s.heap U'.vm U'.heap ∧ ReturnedEndW s o U' L C S) (T.setTop (mkF m pc Ls [])) :=
  own_retH X (fun _ => rfl) hlk (fun fs hr => X.returnOut hx hret hd hr) hS₁ hn₁ hQ hF hC hS
theorem own_cat1 {v : Value} (h : v.isRef = true) : v.category = 1 := by cases v <;> simp_all [Value.isRef, Value.category]
theorem own_catR {x : Addr} : (Value.ref x).category = 1 := rfl
theorem own_catI {x : Int32} : (Value.int x).category = 1 := rfl
theorem own_catJ {x : Int64} : (Value.long x).category = 2 := rfl
theorem own_catN : Value.null.category = 1 := rfl
theorem own_st1 {L L' : Array Slot} {i : Nat} {v : Value} {o : Slot} (hold : L[i]? = some o) (ho : o = .unset ∨ ∃ w, o = .val w ∧ w.category = 1) (hv : v.category = 1) (q : L.setIfInBounds i (.val v) = L' := by rfl) : storeLocals L i v = some L' := q ▸ XS.store1 hold ho hv
theorem own_fits {v : Value} {t : FieldType} (h : v.isRef = true) (ht : t.isReference = true) : fits t v = true := by cases t <;> first | (cases ht; done) | (cases v <;> simp_all [Value.isRef, fits])
theorem own_frm {k k' : Nat} {L : List Loc} (N : Fr k L) (h : k' ≤ k) : Fr k' L := fun y hy => Nat.le_trans h (N y hy)
theorem own_lsw {g : JFrame} {target : State} (X : Stand p l e R s m args below meth c T locs cells slots) (hx : p.tables.exec = Jvm.exec) (hg : g.method = m) {df : Int} {prs : Array (Int × Int)} {len : Nat} {x : Int32} {rest : List Value} {o : Int} {pc0 pc' : Nat} (hpc : g.pc = pc0)
    (hd : decode c.code g.pc = .ok (.lookupswitch df prs, len)) (hs : g.stack = .int x :: rest) (hsrt : (prs.toList.zip (prs.toList.drop 1)).all (fun (a, next) => a.1 < next.1) = true) (hf : lookupswitch.offset prs.toList df x.toInt = o) (ho : 0 ≤ (pc0 : Int) + o) (hp : ((pc0 : Int) + o).toNat = pc')
    (hr : Steps p.tables e below (T.setTop { g with pc := pc', stack := rest }) target) : Steps p.tables e below (T.setTop g) target := by
  subst hg hpc hp
  jvm_step X.here [X.here.top, hx, hd, hs, lookupswitch.wp_chain, hf, ho]
  first | exact hr | exact ⟨by simpa using hsrt, hr⟩
theorem own_backH {Z : State} {a0 : Array Value} {EL : List (String × Nat)} {h : Heap} {vm0 : Vm} {y : MethodName} {bytes : ByteArray} {maxL : Nat} {ret : Option FieldType} {rm : Room} {len W : Nat} {as' : Array Value} {sf : List Addr} {Q : Option Value → Heap → List Loc → Prop}
    (hM : MetFree l y (head1 [Cond.code y bytes maxL ret] rm) (fun a U => a = as' ∧ Z.Warmed39 U.vm ∧ U.heap = h ∧ CHv Z EL U.vm h ∧ ∀ x ∈ sf, Safe Z EL U.vm h x) (fun _ _ _ _ _ => True) (fun _ U o U' => ∃ v L, o = .returned v ∧ Q v U'.heap L ∧ CHr Z EL U.vm U.heap U'.vm U'.heap ∧ ReturnedEndW U o U' L rm.cells rm.slots))
    (hZ : Z.Warmed39 vm0) (wc : (Cond.code y bytes maxL ret).before a0 Z = true) (wz : (Cond.initialized y.cls).before a0 Z = true) (hf : rm.frames + 1 ≤ R.frames) (hl : W + (maxL + 11) + rm.locals ≤ R.locals) (hEL : EW Z a0 EL) (H : CHv Z EL vm0 h) (hsf : ∀ x ∈ sf, x < h.size ∧ Safe Z EL vm0 h x) :
    BackS l R p e below (s.setVm vm0) args y len W (fun A a => a = as' ∧ A.U.heap = h ∧ A.cells + rm.cells ≤ R.cells ∧ A.slots + rm.slots ≤ R.slots)
      (fun A _ v B => ∃ L, Q v B.U.heap L ∧ B.locs = A.locs ++ L ∧ B.cells = A.cells + rm.cells ∧ B.slots = A.slots + rm.slots ∧ CHr Z EL vm0 h B.U.vm B.U.heap) := by
  refine BackS.of_freeW (bytes := bytes) (maxL := maxL) (ret := ret) (E := fun _ first o t L k n => (k = rm.cells ∧ n = rm.slots) ∧ CHr Z EL first.vm first.heap t.vm t.heap ∧ ∃ v, o = .returned v ∧ Q v t.heap L) hM hf hl ?_ ?_ (fun _ _ _ _ _ _ _ _ _ => trivial) ?_ ?_
  · intro m meth c A a Y hp
    have hU : Z.Warmed39 A.U.vm := wtrans (s := s.setVm vm0) hZ Y.warmed
    exact ⟨by show (Cond.and _ .tt).before a A.U = true; rw [Cond.before_and, mv hU wc]; rfl, mv hU wc, mv hU wz, hp.2.2.1, hp.2.2.2⟩
  · intro m meth c A a g mk Y hp
    have q := CHv.at Y hZ hEL H
    exact ⟨hp.1, wtrans (s := s.setVm vm0) hZ Y.warmed, hp.2.1, q.1, fun x hx => q.safe (hsf x hx).1 (hsf x hx).2⟩
  · rintro _ _ _ _ ⟨v, L, h1, h2, h3, h4⟩
    exact ⟨L, _, _, h4, ⟨rfl, rfl⟩, h3, v, h1, h2⟩
  · rintro m meth c A a g mk v t L k n Y hp _ _ ⟨⟨e1, e2⟩, e5, v', e3, e4⟩
    cases e3
    subst e1 e2
    have q := (CHv.at Y hZ hEL H).trans (vm2 := t.vm) (h2 := t.heap) (by rw [← hp.2.1]; exact e5)
    exact ⟨L, e4, rfl, rfl, rfl, q⟩
end Own
def own_W (Z : State) : Prop := (∃ c : Int32, ¬ c = 0 ∧ Sta Z Z.heap "java/lang/String" "COMPACT_STRINGS" "Z" (.int c)) ∧ (∃ a : Addr, Sta Z Z.heap "com/example/tariff_reader/tariffreader/model/Unit" "MINUTE_MILE" "Lcom/example/tariff_reader/tariffreader/model/Unit;" (.ref a)) ∧ (∃ a : Addr, Sta Z Z.heap "com/example/tariff_reader/tariffreader/model/Unit" "MINUTE" "Lcom/example/tariff_reader/tariffreader/model/Unit;" (.ref a)) ∧ (∃ a : Addr, Sta Z Z.heap "com/example/tariff_reader/tariffreader/model/Unit" "QUERY" "Lcom/example/tariff_reader/tariffreader/model/Unit;" (.ref a)) ∧ (∃ a : Addr, Sta Z Z.heap "com/example/tariff_reader/tariffreader/model/Unit" "MONTH" "Lcom/example/tariff_reader/tariffreader/model/Unit;" (.ref a)) ∧ (∃ a : Addr, Sta Z Z.heap "com/example/tariff_reader/tariffreader/model/Unit" "OCCURRENCE" "Lcom/example/tariff_reader/tariffreader/model/Unit;" (.ref a)) ∧ (∃ a : Addr, Sta Z Z.heap "com/example/tariff_reader/tariffreader/model/Direction" "ORIGINATING" "Lcom/example/tariff_reader/tariffreader/model/Direction;" (.ref a)) ∧ (∃ a : Addr, Sta Z Z.heap "com/example/tariff_reader/tariffreader/model/Direction" "TERMINATING" "Lcom/example/tariff_reader/tariffreader/model/Direction;" (.ref a)) ∧ (∃ a : Addr, Sta Z Z.heap "com/example/tariff_reader/tariffreader/model/Direction" "BOTH" "Lcom/example/tariff_reader/tariffreader/model/Direction;" (.ref a))
def own_Ql (Z : State) (h : Heap) (a : Addr) (v1 v2 v3 v4 v5 v6 : Value) : Prop := Exa Z h a "com/example/tariff_reader/tariffreader/text/Qualifiers" ∧ Fld Z h a "com/example/tariff_reader/tariffreader/text/Qualifiers" "area" "Ljava/lang/String;" v1 ∧ Fld Z h a "com/example/tariff_reader/tariffreader/text/Qualifiers" "schedule" "Ljava/lang/String;" v2 ∧ Fld Z h a "com/example/tariff_reader/tariffreader/text/Qualifiers" "traffic" "Ljava/lang/String;" v3 ∧ Fld Z h a "com/example/tariff_reader/tariffreader/text/Qualifiers" "direction" "Lcom/example/tariff_reader/tariffreader/model/Direction;" v4 ∧ Fld Z h a "com/example/tariff_reader/tariffreader/text/Qualifiers" "band" "Ljava/lang/String;" v5 ∧ Fld Z h a "com/example/tariff_reader/tariffreader/text/Qualifiers" "unit" "Lcom/example/tariff_reader/tariffreader/model/Unit;" v6
theorem own_Ql.keep {Z : State} {h h' : Heap} {a : Addr} {v1 v2 v3 v4 v5 v6 : Value} {ws : List Addr} (F : own_Ql Z h a v1 v2 v3 v4 v5 v6) (K : Keep h h' ws) (q : a ∉ ws) : own_Ql Z h' a v1 v2 v3 v4 v5 v6 := ⟨F.1.keep K, F.2.1.keep K q, F.2.2.1.keep K q, F.2.2.2.1.keep K q, F.2.2.2.2.1.keep K q, F.2.2.2.2.2.1.keep K q, F.2.2.2.2.2.2.keep K q⟩
theorem own_Ql.ext {Z : State} {h h' : Heap} {a : Addr} {v1 v2 v3 v4 v5 v6 : Value} (F : own_Ql Z h a v1 v2 v3 v4 v5 v6) (E : Ext h h') : own_Ql Z h' a v1 v2 v3 v4 v5 v6 := ⟨F.1.ext E, F.2.1.ext E, F.2.2.1.ext E, F.2.2.2.1.ext E, F.2.2.2.2.1.ext E, F.2.2.2.2.2.1.ext E, F.2.2.2.2.2.2.ext E⟩
def own_nn : Value → Int32
  | .null => 0
  | _ => 1
def own_or : Value → Value → Value
  | .null, w => w
  | v, _ => v
theorem d1_0 : decode jdk_43_method_3_code 0 = .ok (.iload_n 0, 1) := by decide +kernel
theorem d1_1 : decode jdk_43_method_3_code 1 = .ok (.sipush 255, 3) := by decide +kernel
theorem d1_4 : decode jdk_43_method_3_code 4 = .ok (.if_icmp .gt 7, 3) := by decide +kernel
theorem d1_7 : decode jdk_43_method_3_code 7 = .ok (.iconst 1, 1) := by decide +kernel
theorem d1_8 : decode jdk_43_method_3_code 8 = .ok (.goto 4, 3) := by decide +kernel
theorem d1_12 : decode jdk_43_method_3_code 12 = .ok (.ireturn, 1) := by decide +kernel
theorem pn1 : plainName "java/lang/StringLatin1" = true := by first | (simp [plainName, overriddenIn]; done) | decide +kernel
theorem ef1 (m : MethodId) (x0 : Int32) : entryFrame m #[(.int x0)] 1 = mkF m 0 #[.val (.int x0)] [] := by first | (simp [entryFrame, mkF, argsToLocals, Value.category]; done) | rfl
def own_Q1 (h0 : Heap) (n0 : Nat) (v : Option Value) (h : Heap) (L : List Loc) : Prop := v = some (.int 1) ∧ Fr n0 L ∧ h = h0
set_option maxRecDepth 65536 in
set_option maxHeartbeats 40000000 in
theorem rm1 (l : Launch) (Z : State) (a0 : Array Value) (hw : ∀ d ∈ tables_1, d.before a0 Z = true) (ws : List Jvm.Cond) (xc : Int32) (h0 : Heap) (n0 : Nat) (Z0 : n0 ≤ h0.size) (hle : ¬ (255 : Int32) < xc) :
    MetFree l (⟨"java/lang/StringLatin1", "canEncode", "(C)Z"⟩ : MethodName) (head1 (Jvm.Cond.code (⟨"java/lang/StringLatin1", "canEncode", "(C)Z"⟩ : MethodName) jdk_43_method_3_code 1 (some .boolean) :: ws) ({ frames := 0, cells := 0, slots := 0, locals := 0 } : Room)) (fun a U => a = #[(.int xc)] ∧ Z.Warmed39 U.vm ∧ U.heap = h0) (fun _ _ _ _ _ => True) (fun _ U o U' => ∃ v L, o = .returned v ∧ own_Q1 h0 n0 v U'.heap L ∧ FrameEnd U o U' L ({ frames := 0, cells := 0, slots := 0, locals := 0 } : Room).cells ({ frames := 0, cells := 0, slots := 0, locals := 0 } : Room).slots) := by
  refine MetFree.of_bodySF (plainFor_of_name pn1) hisR ?_
  intro p e s m args below meth c s₁ Bd hml0 hP hK
  obtain ⟨rfl, hZ, hh⟩ := hP
  have hx := Bd.exec
  have hby := Bd.bytes
  have hml : c.maxLocals = 1 := hml0
  have hown : s.vm.findClass "java/lang/StringLatin1" = some m.cls := findClass_of_methodNamed Bd.named
  have hnm := (name_of_methodNamed Bd.named Bd.method).1
  have hlk : meth.locks = false := Bd.notSynchronized
  have X0 : Stand p l e ({ frames := 0, cells := 0, slots := 0, locals := 0 } : Room) s m #[(.int xc)] below meth c s₁ [] 0 0 := Stand.of_body Bd
  have e0 : s₁.heap = h0 := by rw [← hh, Bd.state]; rfl
  have N0 := Fr.nil n0
  refine own_go (fun t k => castTop (ef1 m xc) k) ?_
  show own_Go p e below _ (s₁.setTop (mkF m 0 #[.val (.int xc)] []))
  refine own_go (fun t k => XS.iloadN X0.here hx rfl (hb hby d1_0) rfl k) ?_
  show own_Go p e below _ (s₁.setTop (mkF m 1 #[.val (.int xc)] [(.int xc)]))
  refine own_go (fun t k => XS.sipush X0.here hx rfl (hb hby d1_1) k) ?_
  show own_Go p e below _ (s₁.setTop (mkF m 4 #[.val (.int xc)] [(.int (255 : Int32)), (.int xc)]))
  refine own_go (fun t k => XS.icmpNo X0.here hx rfl (hb hby d1_4) rfl (flt hle).2.2.1 k) ?_
  show own_Go p e below _ (s₁.setTop (mkF m 7 #[.val (.int xc)] []))
  refine own_go (fun t k => XS.iconst X0.here hx rfl (hb hby d1_7) k) ?_
  show own_Go p e below _ (s₁.setTop (mkF m 8 #[.val (.int xc)] [(.int (1 : Int32))]))
  refine own_go (fun t k => XS.goto X0.here hx rfl (pc0 := 8) (pc' := 12) rfl (hb hby d1_8) (by decide) (by decide) k) ?_
  show own_Go p e below _ (s₁.setTop (mkF m 12 #[.val (.int xc)] [(.int (1 : Int32))]))
  exact own_retN X0 hx (t := .boolean) Bd.returns (by simp) (hb hby d1_12) (by rw [e0]; exact ⟨rfl, N0, rfl⟩) (by decide) (by decide)
theorem d2_0 : decode jdk_43_method_46_code 0 = .ok (.iconst 1, 1) := by decide +kernel
theorem d2_1 : decode jdk_43_method_46_code 1 = .ok (.newarray .byte, 2) := by decide +kernel
theorem d2_3 : decode jdk_43_method_46_code 3 = .ok (.dup, 1) := by decide +kernel
theorem d2_4 : decode jdk_43_method_46_code 4 = .ok (.iconst 0, 1) := by decide +kernel
theorem d2_5 : decode jdk_43_method_46_code 5 = .ok (.iload_n 0, 1) := by decide +kernel
theorem d2_6 : decode jdk_43_method_46_code 6 = .ok (.i2b, 1) := by decide +kernel
theorem d2_7 : decode jdk_43_method_46_code 7 = .ok (.bastore, 1) := by decide +kernel
theorem d2_8 : decode jdk_43_method_46_code 8 = .ok (.areturn, 1) := by decide +kernel
theorem pn2 : plainName "java/lang/StringLatin1" = true := by first | (simp [plainName, overriddenIn]; done) | decide +kernel
theorem ef2 (m : MethodId) (x0 : Int32) : entryFrame m #[(.int x0)] 1 = mkF m 0 #[.val (.int x0)] [] := by first | (simp [entryFrame, mkF, argsToLocals, Value.category]; done) | rfl
def own_Q2 (h0 : Heap) (n0 : Nat) (v : Option Value) (h : Heap) (L : List Loc) : Prop := ∃ b : Addr, v = some (.ref b) ∧ Fr n0 L ∧ Keep h0 h [] ∧ h0.size ≤ b
set_option maxRecDepth 65536 in
set_option maxHeartbeats 40000000 in
theorem rm2 (l : Launch) (Z : State) (a0 : Array Value) (hw : ∀ d ∈ tables_1, d.before a0 Z = true) (ws : List Jvm.Cond) (xc : Int32) (h0 : Heap) (n0 : Nat) (Z0 : n0 ≤ h0.size)  :
    MetFree l (⟨"java/lang/StringLatin1", "toBytes", "(C)[B"⟩ : MethodName) (head1 (Jvm.Cond.code (⟨"java/lang/StringLatin1", "toBytes", "(C)[B"⟩ : MethodName) jdk_43_method_46_code 1 (some (.array .byte)) :: ws) ({ frames := 0, cells := 1, slots := 1, locals := 0 } : Room)) (fun a U => a = #[(.int xc)] ∧ Z.Warmed39 U.vm ∧ U.heap = h0) (fun _ _ _ _ _ => True) (fun _ U o U' => ∃ v L, o = .returned v ∧ own_Q2 h0 n0 v U'.heap L ∧ FrameEnd U o U' L ({ frames := 0, cells := 1, slots := 1, locals := 0 } : Room).cells ({ frames := 0, cells := 1, slots := 1, locals := 0 } : Room).slots) := by
  refine MetFree.of_bodySF (plainFor_of_name pn2) hisR ?_
  intro p e s m args below meth c s₁ Bd hml0 hP hK
  obtain ⟨rfl, hZ, hh⟩ := hP
  have hx := Bd.exec
  have hby := Bd.bytes
  have hml : c.maxLocals = 1 := hml0
  have hown : s.vm.findClass "java/lang/StringLatin1" = some m.cls := findClass_of_methodNamed Bd.named
  have hnm := (name_of_methodNamed Bd.named Bd.method).1
  have hlk : meth.locks = false := Bd.notSynchronized
  have X0 : Stand p l e ({ frames := 0, cells := 1, slots := 1, locals := 0 } : Room) s m #[(.int xc)] below meth c s₁ [] 0 0 := Stand.of_body Bd
  have e0 : s₁.heap = h0 := by rw [← hh, Bd.state]; rfl
  have N0 := Fr.nil n0
  refine own_go (fun t k => castTop (ef2 m xc) k) ?_
  show own_Go p e below _ (s₁.setTop (mkF m 0 #[.val (.int xc)] []))
  refine own_go (fun t k => XS.iconst X0.here hx rfl (hb hby d2_0) k) ?_
  show own_Go p e below _ (s₁.setTop (mkF m 1 #[.val (.int xc)] [(.int (1 : Int32))]))
  obtain ⟨T1, h1, k1, X1, e1, E1, A1, st1⟩ := newP X0 hx hZ (hw _ (List.mem_of_getElem? (i := 27) rfl)) e0 (g := (mkF m 1 #[.val (.int xc)] [(.int (1 : Int32))])) rfl (hb hby d2_1) rfl (by decide) (cap := 1) (by decide) (by decide) (by decide) (by decide)
  obtain ⟨b1, g1⟩ : ∃ z, z = h0.size := ⟨_, rfl⟩
  rw [← g1] at A1 st1
  have g_b1 : n0 ≤ b1 := Nat.le_trans Z0 (Nat.le_of_eq g1.symm)
  have sz_b1 : h0.size ≤ b1 := Nat.le_trans (Keep.refl h0 []).1 (Nat.le_of_eq g1.symm)
  have sz1 := Nat.le_trans Z0 E1.1
  have KP1 := (Keep.refl h0 []).ext E1
  have V1 : Arv Z h1 b1 k1 .byte (1 : Int32) [(.int (0 : Int32))] (.int (0 : Int32)) := (Arv.new A1 (by decide)).pad (pad_rep [] (.int (0 : Int32)) 1)
  refine own_go (fun t k => st1 t k) ?_
  show own_Go p e below _ (T1.setTop (mkF m 3 #[.val (.int xc)] [(.ref b1)]))
  refine own_go (fun t k => XS.dup X1.here hx rfl (hb hby d2_3) rfl rfl k) ?_
  show own_Go p e below _ (T1.setTop (mkF m 4 #[.val (.int xc)] [(.ref b1), (.ref b1)]))
  refine own_go (fun t k => XS.iconst X1.here hx rfl (hb hby d2_4) k) ?_
  show own_Go p e below _ (T1.setTop (mkF m 5 #[.val (.int xc)] [(.int (0 : Int32)), (.ref b1), (.ref b1)]))
  refine own_go (fun t k => XS.iloadN X1.here hx rfl (hb hby d2_5) rfl k) ?_
  show own_Go p e below _ (T1.setTop (mkF m 6 #[.val (.int xc)] [(.int xc), (.int (0 : Int32)), (.ref b1), (.ref b1)]))
  refine own_go (fun t k => XS.i2b X1.here hx rfl (hb hby d2_6) rfl k) ?_
  show own_Go p e below _ (T1.setTop (mkF m 7 #[.val (.int xc)] [(.int (xc.toInt8.toInt32)), (.int (0 : Int32)), (.ref b1), (.ref b1)]))
  obtain ⟨cl2, Ar2, qa2, Sa2, Na2, Ha2, Ga2⟩ := id V1
  have hin2 : ¬ ((0 : Int32) < 0 ∨ cl2.slots.size ≤ ((0 : Int32)).toNatClampNeg) := inb_of Sa2 ⟨by decide, by decide⟩
  obtain ⟨T2, h2, X2, e2, W2, st2⟩ := stB X1 hx hZ e1 Ar2 (j := (0 : Int32)) hin2 (g := (mkF m 7 #[.val (.int xc)] [(.int (xc.toInt8.toInt32)), (.int (0 : Int32)), (.ref b1), (.ref b1)])) rfl rfl (hb hby d2_7)
  have Vw2 : Arv Z h2 b1 k1 .byte (1 : Int32) [(.int (nar .byte (xc.toInt8.toInt32)))] (.int (0 : Int32)) := Arv.set Ar2 qa2 Sa2 Na2 Ha2 Ga2 (fits_nar_byte _) W2 0 rfl (Nat.le_of_ble_eq_true rfl)
  have N2 := Fr.snoc X2 N0 g_b1
  have KP2 := KP1.wr W2 (Or.inr sz_b1)
  have sz2 := Nat.le_trans sz1 (Keep.of_wr W2).1
  refine own_go (fun t k => st2 t k) ?_
  show own_Go p e below _ (T2.setTop (mkF m 8 #[.val (.int xc)] [(.ref b1)]))
  exact own_retA X2 hx Bd.returns rfl rfl (hb hby d2_8) (by rw [e2]; exact ⟨_, rfl, N2, KP2, sz_b1⟩) (by decide) (by decide)
theorem d3_0 : decode jdk_42_method_151_code 0 = .ok (.aload_n 0, 1) := by decide +kernel
theorem d3_1 : decode jdk_42_method_151_code 1 = .ok (.invokespecial 1, 3) := by decide +kernel
theorem d3_4 : decode jdk_42_method_151_code 4 = .ok (.aload_n 0, 1) := by decide +kernel
theorem d3_5 : decode jdk_42_method_151_code 5 = .ok (.aload_n 1, 1) := by decide +kernel
theorem d3_6 : decode jdk_42_method_151_code 6 = .ok (.putfield 9, 3) := by decide +kernel
theorem d3_9 : decode jdk_42_method_151_code 9 = .ok (.aload_n 0, 1) := by decide +kernel
theorem d3_10 : decode jdk_42_method_151_code 10 = .ok (.iload_n 2, 1) := by decide +kernel
theorem d3_11 : decode jdk_42_method_151_code 11 = .ok (.putfield 15, 3) := by decide +kernel
theorem d3_14 : decode jdk_42_method_151_code 14 = .ok (.return_, 1) := by decide +kernel
theorem pn3 : plainName "java/lang/String" = true := by first | (simp [plainName, overriddenIn]; done) | decide +kernel
theorem ef3 (m : MethodId) (x0 : Addr) (x1 : Addr) (x2 : Int32) : entryFrame m #[(.ref x0), (.ref x1), (.int x2)] 3 = mkF m 0 #[.val (.ref x0), .val (.ref x1), .val (.int x2)] [] := by first | (simp [entryFrame, mkF, argsToLocals, Value.category]; done) | rfl
def own_Q3 (Z : State) (a t : Addr) (h0 : Heap) (n0 : Nat) (v : Option Value) (h : Heap) (L : List Loc) : Prop := v = none ∧ Fr n0 L ∧ Keep h0 h [a] ∧ Fld Z h a "java/lang/String" "value" "[B" (.ref t) ∧ Fld Z h a "java/lang/String" "coder" "B" (.int (0 : Int32))
set_option maxRecDepth 65536 in
set_option maxHeartbeats 40000000 in
theorem rm3 (l : Launch) (Z : State) (a0 : Array Value) (hw : ∀ d ∈ tables_1, d.before a0 Z = true) (ws : List Jvm.Cond) (oa ot : Addr) (h0 : Heap) (n0 : Nat) (Z0 : n0 ≤ h0.size) (Ea : Exa Z h0 oa "java/lang/String") (Fv : Fld Z h0 oa "java/lang/String" "value" "[B" .null) (Fc : Fld Z h0 oa "java/lang/String" "coder" "B" (.int (0 : Int32))) (g_oa : n0 ≤ oa) :
    MetFree l (⟨"java/lang/String", "<init>", "([BB)V"⟩ : MethodName) (head1 (Jvm.Cond.code (⟨"java/lang/String", "<init>", "([BB)V"⟩ : MethodName) jdk_42_method_151_code 3 none :: ws) ({ frames := 1, cells := 0, slots := 0, locals := 12 } : Room)) (fun a U => a = #[(.ref oa), (.ref ot), (.int (0 : Int32))] ∧ Z.Warmed39 U.vm ∧ U.heap = h0) (fun _ _ _ _ _ => True) (fun _ U o U' => ∃ v L, o = .returned v ∧ own_Q3 Z oa ot h0 n0 v U'.heap L ∧ FrameEnd U o U' L ({ frames := 1, cells := 0, slots := 0, locals := 12 } : Room).cells ({ frames := 1, cells := 0, slots := 0, locals := 12 } : Room).slots) := by
  refine MetFree.of_bodySF (plainFor_of_name pn3) hisR ?_
  intro p e s m args below meth c s₁ Bd hml0 hP hK
  obtain ⟨rfl, hZ, hh⟩ := hP
  have hx := Bd.exec
  have hby := Bd.bytes
  have hml : c.maxLocals = 3 := hml0
  have hown : s.vm.findClass "java/lang/String" = some m.cls := findClass_of_methodNamed Bd.named
  have hnm := (name_of_methodNamed Bd.named Bd.method).1
  have hlk : meth.locks = false := Bd.notSynchronized
  have X0 : Stand p l e ({ frames := 1, cells := 0, slots := 0, locals := 12 } : Room) s m #[(.ref oa), (.ref ot), (.int (0 : Int32))] below meth c s₁ [] 0 0 := Stand.of_body Bd
  have e0 : s₁.heap = h0 := by rw [← hh, Bd.state]; rfl
  have N0 := Fr.nil n0
  refine own_go (fun t k => castTop (ef3 m oa ot (0 : Int32)) k) ?_
  show own_Go p e below _ (s₁.setTop (mkF m 0 #[.val (.ref oa), .val (.ref ot), .val (.int (0 : Int32))] []))
  refine own_go (fun t k => XS.aloadN X0.here hx rfl (hb hby d3_0) rfl rfl k) ?_
  show own_Go p e below _ (s₁.setTop (mkF m 1 #[.val (.ref oa), .val (.ref ot), .val (.int (0 : Int32))] [(.ref oa)]))
  obtain ⟨T2, X2, e2, st2⟩ := initO X0 hx hZ hown (hw _ (List.mem_of_getElem? (i := 32) rfl)) (hw _ (List.mem_of_getElem? (i := 33) rfl)) (hw _ (List.mem_of_getElem? (i := 34) rfl)) e0 (g := (mkF m 1 #[.val (.ref oa), .val (.ref ot), .val (.int (0 : Int32))] [(.ref oa)])) rfl (by rw [hml]; rfl) rfl (hb hby d3_1) (by decide) (W := 0) (by show 2 * 0 + _ ≤ _; exact Nat.le_of_eq rfl) (by decide)
  refine own_go (fun t k => st2 t k) ?_
  show own_Go p e below _ (T2.setTop (mkF m 4 #[.val (.ref oa), .val (.ref ot), .val (.int (0 : Int32))] []))
  refine own_go (fun t k => XS.aloadN X2.here hx rfl (hb hby d3_4) rfl rfl k) ?_
  show own_Go p e below _ (T2.setTop (mkF m 5 #[.val (.ref oa), .val (.ref ot), .val (.int (0 : Int32))] [(.ref oa)]))
  refine own_go (fun t k => XS.aloadN X2.here hx rfl (hb hby d3_5) rfl rfl k) ?_
  show own_Go p e below _ (T2.setTop (mkF m 6 #[.val (.ref oa), .val (.ref ot), .val (.int (0 : Int32))] [(.ref ot), (.ref oa)]))
  obtain ⟨T3, h3, X3, e3, W3, st3⟩ := putF X2 hx hZ hown (host := "") (Or.inl (hw _ (List.mem_of_getElem? (i := 35) rfl))) Via.refl e2 Fv Ea (Or.inr ⟨(hw _ (List.mem_of_getElem? (i := 36) rfl)), rfl, hnm⟩) (hw _ (List.mem_of_getElem? (i := 23) rfl)) (ty := (.array .byte)) (by decide) rfl rfl (g := (mkF m 6 #[.val (.ref oa), .val (.ref ot), .val (.int (0 : Int32))] [(.ref ot), (.ref oa)])) rfl rfl (hb hby d3_6)
  have Fw3 := Fv.same W3
  have Ea__3 := Ea.wr W3
  have Fc__3 := Fc.other W3 (Or.inr (slot_ne (Or.inr (hw _ (List.mem_of_getElem? (i := 38) rfl))) (Or.inr (hw _ (List.mem_of_getElem? (i := 36) rfl))) (by decide) (t := .byte) (t' := (.array .byte)) (by decide) (by decide)))
  have N3 := Fr.snoc X3 N0 g_oa
  have KP3 := (Keep.refl h0 [oa]).wr W3 (Or.inl (List.mem_of_getElem? (i := 0) rfl))
  have sz3 := Nat.le_trans Z0 (Keep.of_wr W3).1
  refine own_go (fun t k => st3 t k) ?_
  show own_Go p e below _ (T3.setTop (mkF m 9 #[.val (.ref oa), .val (.ref ot), .val (.int (0 : Int32))] []))
  refine own_go (fun t k => XS.aloadN X3.here hx rfl (hb hby d3_9) rfl rfl k) ?_
  show own_Go p e below _ (T3.setTop (mkF m 10 #[.val (.ref oa), .val (.ref ot), .val (.int (0 : Int32))] [(.ref oa)]))
  refine own_go (fun t k => XS.iloadN X3.here hx rfl (hb hby d3_10) rfl k) ?_
  show own_Go p e below _ (T3.setTop (mkF m 11 #[.val (.ref oa), .val (.ref ot), .val (.int (0 : Int32))] [(.int (0 : Int32)), (.ref oa)]))
  obtain ⟨T4, h4, X4, e4, W4, st4⟩ := putF X3 hx hZ hown (host := "") (Or.inl (hw _ (List.mem_of_getElem? (i := 37) rfl))) Via.refl e3 Fc__3 Ea__3 (Or.inr ⟨(hw _ (List.mem_of_getElem? (i := 38) rfl)), rfl, hnm⟩) (hw _ (List.mem_of_getElem? (i := 23) rfl)) (ty := .byte) (by decide) rfl rfl (g := (mkF m 11 #[.val (.ref oa), .val (.ref ot), .val (.int (0 : Int32))] [(.int (0 : Int32)), (.ref oa)])) rfl rfl (hb hby d3_11)
  have Fw4 := Fc__3.same W4
  have Ea__4 := Ea__3.wr W4
  have Fw3__4 := Fw3.other W4 (Or.inr (slot_ne (Or.inr (hw _ (List.mem_of_getElem? (i := 36) rfl))) (Or.inr (hw _ (List.mem_of_getElem? (i := 38) rfl))) (by decide) (t := (.array .byte)) (t' := .byte) (by decide) (by decide)))
  have N4 := Fr.snoc X4 N3 g_oa
  have KP4 := KP3.wr W4 (Or.inl (List.mem_of_getElem? (i := 0) rfl))
  have sz4 := Nat.le_trans sz3 (Keep.of_wr W4).1
  refine own_go (fun t k => st4 t k) ?_
  show own_Go p e below _ (T4.setTop (mkF m 14 #[.val (.ref oa), .val (.ref ot), .val (.int (0 : Int32))] []))
  exact own_ret0 X4 hx Bd.returns (hb hby d3_14) (by rw [e4]; exact ⟨rfl, N4, KP4, Fw3__4, Fw4⟩) (by decide) (by decide)
theorem d4_0 : decode jdk_42_method_139_code 0 = .ok (.getstatic 38, 3) := by decide +kernel
theorem d4_3 : decode jdk_42_method_139_code 3 = .ok (.ifCond .eq 23, 3) := by decide +kernel
theorem d4_6 : decode jdk_42_method_139_code 6 = .ok (.iload_n 0, 1) := by decide +kernel
theorem d4_7 : decode jdk_42_method_139_code 7 = .ok (.invokestatic 1015, 3) := by decide +kernel
theorem d4_10 : decode jdk_42_method_139_code 10 = .ok (.ifCond .eq 16, 3) := by decide +kernel
theorem d4_13 : decode jdk_42_method_139_code 13 = .ok (.new 10, 3) := by decide +kernel
theorem d4_16 : decode jdk_42_method_139_code 16 = .ok (.dup, 1) := by decide +kernel
theorem d4_17 : decode jdk_42_method_139_code 17 = .ok (.iload_n 0, 1) := by decide +kernel
theorem d4_18 : decode jdk_42_method_139_code 18 = .ok (.invokestatic 1018, 3) := by decide +kernel
theorem d4_21 : decode jdk_42_method_139_code 21 = .ok (.iconst 0, 1) := by decide +kernel
theorem d4_22 : decode jdk_42_method_139_code 22 = .ok (.invokespecial 209, 3) := by decide +kernel
theorem d4_25 : decode jdk_42_method_139_code 25 = .ok (.areturn, 1) := by decide +kernel
theorem pn4 : plainName "java/lang/String" = true := by first | (simp [plainName, overriddenIn]; done) | decide +kernel
theorem pd4_0 : parseMethodDescriptor "(C)Z" = some ⟨[.char], some .boolean⟩ := by decide +kernel
theorem pd4_1 : parseMethodDescriptor "(C)[B" = some ⟨[.char], some (.array .byte)⟩ := by decide +kernel
theorem pd4_2 : parseMethodDescriptor "([BB)V" = some ⟨[(.array .byte), .byte], none⟩ := by decide +kernel
theorem ef4 (m : MethodId) (x0 : Int32) : entryFrame m #[(.int x0)] 1 = mkF m 0 #[.val (.int x0)] [] := by first | (simp [entryFrame, mkF, argsToLocals, Value.category]; done) | rfl
set_option maxRecDepth 65536 in
set_option maxHeartbeats 40000000 in
theorem rm4 (l : Launch) (Z : State) (a0 : Array Value) (hw : ∀ d ∈ tables_1, d.before a0 Z = true) (ws : List Jvm.Cond) (xc : Int32) (h0 : Heap) (n0 : Nat) (Z0 : n0 ≤ h0.size) (XO : Old Z n0 h0) (WW : own_W Z) (hle : ¬ (255 : Int32) < xc) :
    MetFree l (⟨"java/lang/String", "valueOf", "(C)Ljava/lang/String;"⟩ : MethodName) (head1 (Jvm.Cond.code (⟨"java/lang/String", "valueOf", "(C)Ljava/lang/String;"⟩ : MethodName) jdk_42_method_139_code 1 (some (.object "java/lang/String")) :: ws) ({ frames := 2, cells := 2, slots := 5, locals := 29 } : Room)) (fun a U => a = #[(.int xc)] ∧ Z.Warmed39 U.vm ∧ U.heap = h0) (fun _ _ _ _ _ => True) (fun _ U o U' => ∃ v L, o = .returned v ∧ own_Q2 h0 n0 v U'.heap L ∧ FrameEnd U o U' L ({ frames := 2, cells := 2, slots := 5, locals := 29 } : Room).cells ({ frames := 2, cells := 2, slots := 5, locals := 29 } : Room).slots) := by
  refine MetFree.of_bodySF (plainFor_of_name pn4) hisR ?_
  intro p e s m args below meth c s₁ Bd hml0 hP hK
  obtain ⟨rfl, hZ, hh⟩ := hP
  have hx := Bd.exec
  have hby := Bd.bytes
  have hml : c.maxLocals = 1 := hml0
  have hown : s.vm.findClass "java/lang/String" = some m.cls := findClass_of_methodNamed Bd.named
  have hnm := (name_of_methodNamed Bd.named Bd.method).1
  have hlk : meth.locks = false := Bd.notSynchronized
  have X0 : Stand p l e ({ frames := 2, cells := 2, slots := 5, locals := 29 } : Room) s m #[(.int xc)] below meth c s₁ [] 0 0 := Stand.of_body Bd
  have e0 : s₁.heap = h0 := by rw [← hh, Bd.state]; rfl
  have N0 := Fr.nil n0
  refine own_go (fun t k => castTop (ef4 m xc) k) ?_
  obtain ⟨⟨cs, hcs, SCS⟩, ⟨aMINUTE_MILE, SMINUTE_MILE⟩, ⟨aMINUTE, SMINUTE⟩, ⟨aQUERY, SQUERY⟩, ⟨aMONTH, SMONTH⟩, ⟨aOCCURRENCE, SOCCURRENCE⟩, ⟨aORIGINATING, SORIGINATING⟩, ⟨aTERMINATING, STERMINATING⟩, ⟨aBOTH, SBOTH⟩⟩ := id WW
  show own_Go p e below _ (s₁.setTop (mkF m 0 #[.val (.int xc)] []))
  obtain ⟨T1, X1, e1, st1⟩ := getS2 X0 hx hZ hown (host := "") (Or.inl (hw _ (List.mem_of_getElem? (i := 17) rfl))) Via.refl e0 (SCS.ext XO.2) (g := (mkF m 0 #[.val (.int xc)] [])) rfl (hb hby d4_0)
  refine own_go (fun t k => st1 t k) ?_
  show own_Go p e below _ (T1.setTop (mkF m 3 #[.val (.int xc)] [(.int cs)]))
  refine own_go (fun t k => XS.ifNo X1.here hx rfl (hb hby d4_3) rfl ((if0 _ _).trans (feq hcs).1) k) ?_
  show own_Go p e below _ (T1.setTop (mkF m 6 #[.val (.int xc)] []))
  refine own_go (fun t k => XS.iloadN X1.here hx rfl (hb hby d4_6) rfl k) ?_
  show own_Go p e below _ (T1.setTop (mkF m 7 #[.val (.int xc)] [(.int xc)]))
  obtain ⟨_, _, ⟨T2, L2, k2, n2⟩, -, X2, ⟨Lc2, hQ2, l2, y2, z2⟩, st2⟩ := Jvm.LawKit.callS X1 hx (y := (⟨"java/lang/StringLatin1", "canEncode", "(C)Z"⟩ : MethodName)) hown (mvT hZ (hw _ (List.mem_of_getElem? (i := 18) rfl))) (mvT hZ (hw _ (List.mem_of_getElem? (i := 19) rfl))) (mvT hZ (hw _ (List.mem_of_getElem? (i := 20) rfl))) (mvT hZ (hw _ (List.mem_of_getElem? (i := 21) rfl))) (by decide) (backOf (W := 0) (rm1 l Z a0 hw [] xc h0 n0 Z0 hle) hZ (hw _ (List.mem_of_getElem? (i := 21) rfl)) (hw _ (List.mem_of_getElem? (i := 20) rfl)) (by decide) (by decide)) (g := (mkF m 7 #[.val (.int xc)] [(.int xc)])) rfl (by rw [hml]; rfl) (argsL := [(.int xc)]) (rest := []) (lenOf pd4_0 rfl) rfl (by show 2 * 0 + _ ≤ _; exact Nat.le_of_eq rfl) (hb hby d4_7) (fun _ _ => ⟨rfl, e1, (by decide : 0 + 0 ≤ _), (by decide : 0 + 0 ≤ _)⟩)
  dsimp only [Pt.U, Pt.locs, Pt.cells, Pt.slots] at X2 l2 y2 z2 st2 hQ2
  subst l2 y2 z2
  obtain ⟨rfl, Nq2, e2⟩ := hQ2
  have N2 := Fr.app N0 Nq2
  refine own_go (fun t k => st2 t k) ?_
  show own_Go p e below _ (T2.setTop (mkF m 10 #[.val (.int xc)] [(.int (1 : Int32))]))
  refine own_go (fun t k => XS.ifNo X2.here hx rfl (hb hby d4_10) rfl ((if0 _ _).trans (feq (by decide : ¬ ((1 : Int32) = (0 : Int32)))).1) k) ?_
  show own_Go p e below _ (T2.setTop (mkF m 13 #[.val (.int xc)] []))
  obtain ⟨T3, h3, X3, e3, E3, A3, D3, -, st3⟩ := newO X2 hx hZ hown (hw _ (List.mem_of_getElem? (i := 22) rfl)) (hw _ (List.mem_of_getElem? (i := 23) rfl)) (hw _ (List.mem_of_getElem? (i := 15) rfl)) e2 (g := (mkF m 13 #[.val (.int xc)] [])) rfl (hb hby d4_13) (by decide) (by decide)
  obtain ⟨b3, g3⟩ : ∃ z, z = h0.size := ⟨_, rfl⟩
  rw [← g3] at A3 D3 st3
  have g_b3 : n0 ≤ b3 := Nat.le_trans Z0 (Nat.le_of_eq g3.symm)
  have sz_b3 : h0.size ≤ b3 := Nat.le_trans (Keep.refl h0 []).1 (Nat.le_of_eq g3.symm)
  have XO__3 := XO.ext E3
  have sz3 := Nat.le_trans Z0 E3.1
  have KP3 := (Keep.refl h0 []).ext E3
  have F3_value : Fld Z h3 b3 "java/lang/String" "value" "[B" .null := D3 (Or.inr (hw _ (List.mem_of_getElem? (i := 36) rfl))) (ty := (.array .byte)) (by decide)
  have F3_coder : Fld Z h3 b3 "java/lang/String" "coder" "B" (.int (0 : Int32)) := D3 (Or.inr (hw _ (List.mem_of_getElem? (i := 38) rfl))) (ty := .byte) (by decide)
  refine own_go (fun t k => st3 t k) ?_
  show own_Go p e below _ (T3.setTop (mkF m 16 #[.val (.int xc)] [(.ref b3)]))
  refine own_go (fun t k => XS.dup X3.here hx rfl (hb hby d4_16) rfl rfl k) ?_
  show own_Go p e below _ (T3.setTop (mkF m 17 #[.val (.int xc)] [(.ref b3), (.ref b3)]))
  refine own_go (fun t k => XS.iloadN X3.here hx rfl (hb hby d4_17) rfl k) ?_
  show own_Go p e below _ (T3.setTop (mkF m 18 #[.val (.int xc)] [(.int xc), (.ref b3), (.ref b3)]))
  obtain ⟨_, _, ⟨T4, L4, k4, n4⟩, -, X4, ⟨Lc4, hQ4, l4, y4, z4⟩, st4⟩ := Jvm.LawKit.callS X3 hx (y := (⟨"java/lang/StringLatin1", "toBytes", "(C)[B"⟩ : MethodName)) hown (mvT hZ (hw _ (List.mem_of_getElem? (i := 24) rfl))) (mvT hZ (hw _ (List.mem_of_getElem? (i := 25) rfl))) (mvT hZ (hw _ (List.mem_of_getElem? (i := 20) rfl))) (mvT hZ (hw _ (List.mem_of_getElem? (i := 26) rfl))) (by decide) (backOf (W := 2) (rm2 l Z a0 hw [] xc h3 n0 sz3) hZ (hw _ (List.mem_of_getElem? (i := 26) rfl)) (hw _ (List.mem_of_getElem? (i := 20) rfl)) (by decide) (by decide)) (g := (mkF m 18 #[.val (.int xc)] [(.int xc), (.ref b3), (.ref b3)])) rfl (by rw [hml]; rfl) (argsL := [(.int xc)]) (rest := [(.ref b3), (.ref b3)]) (lenOf pd4_1 rfl) rfl (by show 2 * 0 + _ ≤ _; exact Nat.le_of_eq rfl) (hb hby d4_18) (fun _ _ => ⟨rfl, e3, (by decide : 0 + 1 + 1 ≤ _), (by decide : 0 + 4 + 1 ≤ _)⟩)
  dsimp only [Pt.U, Pt.locs, Pt.cells, Pt.slots] at X4 l4 y4 z4 st4 hQ4
  subst l4 y4 z4
  obtain ⟨c4, rfl, Nq4, K4, ge4⟩ := hQ4
  have N4 := Fr.app N2 Nq4
  refine own_go (fun t k => st4 t k) ?_
  have g_c4 : n0 ≤ c4 := Nat.le_trans sz3 ge4
  have sz_c4 : h0.size ≤ c4 := Nat.le_trans KP3.1 ge4
  have ne_b3_c4 : b3 ≠ c4 := Nat.ne_of_lt (Nat.lt_of_lt_of_le A3.lt ge4)
  have XO__4 := XO__3.keep K4 all0
  have A3__4 := A3.keep K4
  have F3_value__4 := F3_value.keep K4 nin0
  have F3_coder__4 := F3_coder.keep K4 nin0
  have KP4 := KP3.trans K4 all0
  have sz4 := Nat.le_trans sz3 K4.1
  show own_Go p e below _ (T4.setTop (mkF m 21 #[.val (.int xc)] [(.ref c4), (.ref b3), (.ref b3)]))
  refine own_go (fun t k => XS.iconst X4.here hx rfl (hb hby d4_21) k) ?_
  show own_Go p e below _ (T4.setTop (mkF m 22 #[.val (.int xc)] [(.int (0 : Int32)), (.ref c4), (.ref b3), (.ref b3)]))
  obtain ⟨_, _, ⟨T5, L5, k5, n5⟩, -, X5, ⟨Lc5, hQ5, l5, y5, z5⟩, st5⟩ := X4.specialBack hx (y := (⟨"java/lang/String", "<init>", "([BB)V"⟩ : MethodName)) rfl hown (mvT hZ (hw _ (List.mem_of_getElem? (i := 28) rfl))) (mvT hZ (hw _ (List.mem_of_getElem? (i := 29) rfl))) (mvT hZ (hw _ (List.mem_of_getElem? (i := 31) rfl))) (by decide) (backOf (W := 1) (rm3 l Z a0 hw [] b3 c4 T4.heap n0 sz4 A3__4 F3_value__4 F3_coder__4 g_b3) hZ (hw _ (List.mem_of_getElem? (i := 31) rfl)) (hw _ (List.mem_of_getElem? (i := 15) rfl)) (by decide) (by decide)) (g := (mkF m 22 #[.val (.int xc)] [(.int (0 : Int32)), (.ref c4), (.ref b3), (.ref b3)])) rfl (by rw [hml]; rfl) (Steps.refl _) (a := b3) (argsL := [(.ref c4), (.int (0 : Int32))]) (rest := [(.ref b3)]) (lenOf pd4_2 rfl) rfl (by show 2 * 0 + _ ≤ _; exact Nat.le_of_eq rfl) (hb hby d4_22) (fun _ _ => ⟨rfl, rfl, (by decide : 0 + 1 + 1 + 0 ≤ _), (by decide : 0 + 4 + 1 + 0 ≤ _)⟩)
  dsimp only [Pt.U, Pt.locs, Pt.cells, Pt.slots] at X5 l5 y5 z5 st5 hQ5
  subst l5 y5 z5
  obtain ⟨rfl, Nq5, K5, Fv5, Fc5⟩ := hQ5
  have N5 := Fr.app N4 Nq5
  refine own_go (fun t k => st5.trans k) ?_
  have XO__5 := XO__4.keep K5 (allS g_b3 all0)
  have A3__5 := A3__4.keep K5
  have KP5 := KP4.trans K5 (allS (Or.inr sz_b3) all0)
  have sz5 := Nat.le_trans sz4 K5.1
  show own_Go p e below _ (T5.setTop (mkF m 25 #[.val (.int xc)] [(.ref b3)]))
  exact own_retA X5 hx Bd.returns rfl rfl (hb hby d4_25) (⟨_, rfl, N5, KP5, sz_b3⟩) (by decide) (by decide)
theorem d5_0 : decode method_3_code 0 = .ok (.iload_n 0, 1) := by decide +kernel
theorem d5_1 : decode method_3_code 1 = .ok (.ldc 27, 2) := by decide +kernel
theorem d5_3 : decode method_3_code 3 = .ok (.iand, 1) := by decide +kernel
theorem d5_4 : decode method_3_code 4 = .ok (.bipush 6, 2) := by decide +kernel
theorem d5_6 : decode method_3_code 6 = .ok (.irem, 1) := by decide +kernel
theorem d5_7 : decode method_3_code 7 = .ok (.istore_n 1, 1) := by decide +kernel
theorem d5_8 : decode method_3_code 8 = .ok (.iload_n 1, 1) := by decide +kernel
theorem d5_9 : decode method_3_code 9 = .ok (.iconst 1, 1) := by decide +kernel
theorem d5_10 : decode method_3_code 10 = .ok (.if_icmp .ne 7, 3) := by decide +kernel
theorem d5_13 : decode method_3_code 13 = .ok (.getstatic 28, 3) := by decide +kernel
theorem d5_16 : decode method_3_code 16 = .ok (.areturn, 1) := by decide +kernel
theorem d5_17 : decode method_3_code 17 = .ok (.iload_n 1, 1) := by decide +kernel
theorem d5_18 : decode method_3_code 18 = .ok (.iconst 2, 1) := by decide +kernel
theorem d5_19 : decode method_3_code 19 = .ok (.if_icmp .ne 7, 3) := by decide +kernel
theorem d5_22 : decode method_3_code 22 = .ok (.getstatic 34, 3) := by decide +kernel
theorem d5_25 : decode method_3_code 25 = .ok (.areturn, 1) := by decide +kernel
theorem d5_26 : decode method_3_code 26 = .ok (.iload_n 1, 1) := by decide +kernel
theorem d5_27 : decode method_3_code 27 = .ok (.iconst 3, 1) := by decide +kernel
theorem d5_28 : decode method_3_code 28 = .ok (.if_icmp .ne 7, 3) := by decide +kernel
theorem d5_31 : decode method_3_code 31 = .ok (.getstatic 37, 3) := by decide +kernel
theorem d5_34 : decode method_3_code 34 = .ok (.areturn, 1) := by decide +kernel
theorem d5_35 : decode method_3_code 35 = .ok (.iload_n 1, 1) := by decide +kernel
theorem d5_36 : decode method_3_code 36 = .ok (.iconst 4, 1) := by decide +kernel
theorem d5_37 : decode method_3_code 37 = .ok (.if_icmp .ne 7, 3) := by decide +kernel
theorem d5_40 : decode method_3_code 40 = .ok (.getstatic 40, 3) := by decide +kernel
theorem d5_43 : decode method_3_code 43 = .ok (.areturn, 1) := by decide +kernel
theorem d5_44 : decode method_3_code 44 = .ok (.iload_n 1, 1) := by decide +kernel
theorem d5_45 : decode method_3_code 45 = .ok (.iconst 5, 1) := by decide +kernel
theorem d5_46 : decode method_3_code 46 = .ok (.if_icmp .ne 7, 3) := by decide +kernel
theorem d5_49 : decode method_3_code 49 = .ok (.getstatic 43, 3) := by decide +kernel
theorem d5_52 : decode method_3_code 52 = .ok (.areturn, 1) := by decide +kernel
theorem d5_53 : decode method_3_code 53 = .ok (.aconst_null, 1) := by decide +kernel
theorem d5_54 : decode method_3_code 54 = .ok (.areturn, 1) := by decide +kernel
theorem pn5 : plainName "com/example/tariff_reader/tariffreader/text/QualifiersStatesUnitPinLaw" = true := by first | (simp [plainName, overriddenIn]; done) | decide +kernel
theorem ef5 (m : MethodId) (x0 : Int32) : entryFrame m #[(.int x0)] 2 = mkF m 0 #[.val (.int x0), .unset] [] := by first | (simp [entryFrame, mkF, argsToLocals, Value.category]; done) | rfl
def own_Qv (h0 : Heap) (n0 : Nat) (v : Option Value) (h : Heap) (L : List Loc) : Prop := ∃ w : Value, v = some w ∧ w.isRef = true ∧ Fr n0 L ∧ h = h0
set_option maxRecDepth 65536 in
set_option maxHeartbeats 40000000 in
theorem rm5 (l : Launch) (Z : State) (a0 : Array Value) (hw : ∀ d ∈ tables_1, d.before a0 Z = true) (ws : List Jvm.Cond) (xc : Int32) (h0 : Heap) (n0 : Nat) (Z0 : n0 ≤ h0.size) (XO : Old Z n0 h0) (WW : own_W Z) :
    MetFree l (⟨"com/example/tariff_reader/tariffreader/text/QualifiersStatesUnitPinLaw", "unit", "(I)Lcom/example/tariff_reader/tariffreader/model/Unit;"⟩ : MethodName) (head1 (Jvm.Cond.code (⟨"com/example/tariff_reader/tariffreader/text/QualifiersStatesUnitPinLaw", "unit", "(I)Lcom/example/tariff_reader/tariffreader/model/Unit;"⟩ : MethodName) method_3_code 2 (some (.object "com/example/tariff_reader/tariffreader/model/Unit")) :: ws) ({ frames := 0, cells := 0, slots := 0, locals := 0 } : Room)) (fun a U => a = #[(.int xc)] ∧ Z.Warmed39 U.vm ∧ U.heap = h0) (fun _ _ _ _ _ => True) (fun _ U o U' => ∃ v L, o = .returned v ∧ own_Qv h0 n0 v U'.heap L ∧ FrameEnd U o U' L ({ frames := 0, cells := 0, slots := 0, locals := 0 } : Room).cells ({ frames := 0, cells := 0, slots := 0, locals := 0 } : Room).slots) := by
  refine MetFree.of_bodySF (plainFor_of_name pn5) hisR ?_
  intro p e s m args below meth c s₁ Bd hml0 hP hK
  obtain ⟨rfl, hZ, hh⟩ := hP
  have hx := Bd.exec
  have hby := Bd.bytes
  have hml : c.maxLocals = 2 := hml0
  have hown : s.vm.findClass "com/example/tariff_reader/tariffreader/text/QualifiersStatesUnitPinLaw" = some m.cls := findClass_of_methodNamed Bd.named
  have hnm := (name_of_methodNamed Bd.named Bd.method).1
  have hlk : meth.locks = false := Bd.notSynchronized
  have X0 : Stand p l e ({ frames := 0, cells := 0, slots := 0, locals := 0 } : Room) s m #[(.int xc)] below meth c s₁ [] 0 0 := Stand.of_body Bd
  have e0 : s₁.heap = h0 := by rw [← hh, Bd.state]; rfl
  have N0 := Fr.nil n0
  refine own_go (fun t k => castTop (ef5 m xc) k) ?_
  obtain ⟨⟨cs, hcs, SCS⟩, ⟨aMINUTE_MILE, SMINUTE_MILE⟩, ⟨aMINUTE, SMINUTE⟩, ⟨aQUERY, SQUERY⟩, ⟨aMONTH, SMONTH⟩, ⟨aOCCURRENCE, SOCCURRENCE⟩, ⟨aORIGINATING, SORIGINATING⟩, ⟨aTERMINATING, STERMINATING⟩, ⟨aBOTH, SBOTH⟩⟩ := id WW
  show own_Go p e below _ (s₁.setTop (mkF m 0 #[.val (.int xc), .unset] []))
  refine own_go (fun t k => XS.iloadN X0.here hx rfl (hb hby d5_0) rfl k) ?_
  show own_Go p e below _ (s₁.setTop (mkF m 1 #[.val (.int xc), .unset] [(.int xc)]))
  refine own_go (fun t k => X0.ldcInt hx hown (mvT hZ (hw _ (List.mem_of_getElem? (i := 4) rfl))) (g := (mkF m 1 #[.val (.int xc), .unset] [(.int xc)])) rfl (hb hby d5_1) t k) ?_
  show own_Go p e below _ (s₁.setTop (mkF m 3 #[.val (.int xc), .unset] [(.int (2147483647 : Int32)), (.int xc)]))
  refine own_go (fun t k => XS.iand X0.here hx rfl (hb hby d5_3) rfl k) ?_
  show own_Go p e below _ (s₁.setTop (mkF m 4 #[.val (.int xc), .unset] [(.int (xc &&& (2147483647 : Int32)))]))
  refine own_go (fun t k => XS.bipush X0.here hx rfl (hb hby d5_4) k) ?_
  show own_Go p e below _ (s₁.setTop (mkF m 6 #[.val (.int xc), .unset] [(.int (6 : Int32)), (.int (xc &&& (2147483647 : Int32)))]))
  refine own_go (fun t k => iremM X0 hx rfl (hb hby d5_6) rfl (by decide) k) ?_
  show own_Go p e below _ (s₁.setTop (mkF m 7 #[.val (.int xc), .unset] [(.int ((xc &&& (2147483647 : Int32)) % (6 : Int32)))]))
  refine own_go (fun t k => XS.istoreN X0.here hx rfl (hb hby d5_7) rfl (l' := #[.val (.int xc), .val (.int ((xc &&& (2147483647 : Int32)) % (6 : Int32)))]) rfl k) ?_
  show own_Go p e below _ (s₁.setTop (mkF m 8 #[.val (.int xc), .val (.int ((xc &&& (2147483647 : Int32)) % (6 : Int32)))] []))
  refine own_go (fun t k => XS.iloadN X0.here hx rfl (hb hby d5_8) rfl k) ?_
  show own_Go p e below _ (s₁.setTop (mkF m 9 #[.val (.int xc), .val (.int ((xc &&& (2147483647 : Int32)) % (6 : Int32)))] [(.int ((xc &&& (2147483647 : Int32)) % (6 : Int32)))]))
  refine own_go (fun t k => XS.iconst X0.here hx rfl (hb hby d5_9) k) ?_
  show own_Go p e below _ (s₁.setTop (mkF m 10 #[.val (.int xc), .val (.int ((xc &&& (2147483647 : Int32)) % (6 : Int32)))] [(.int (1 : Int32)), (.int ((xc &&& (2147483647 : Int32)) % (6 : Int32)))]))
  by_cases hc10 : ((xc &&& (2147483647 : Int32)) % (6 : Int32)) = (1 : Int32)
  · refine own_go (fun t k => XS.icmpNo X0.here hx rfl (hb hby d5_10) rfl (teq hc10).2 k) ?_
    show own_Go p e below _ (s₁.setTop (mkF m 13 #[.val (.int xc), .val (.int ((xc &&& (2147483647 : Int32)) % (6 : Int32)))] []))
    obtain ⟨T1, X1, e1, st1⟩ := getS2 X0 hx hZ hown (host := "") (Or.inl (hw _ (List.mem_of_getElem? (i := 8) rfl))) Via.refl e0 (SMINUTE_MILE.ext XO.2) (g := (mkF m 13 #[.val (.int xc), .val (.int ((xc &&& (2147483647 : Int32)) % (6 : Int32)))] [])) rfl (hb hby d5_13)
    refine own_go (fun t k => st1 t k) ?_
    show own_Go p e below _ (T1.setTop (mkF m 16 #[.val (.int xc), .val (.int ((xc &&& (2147483647 : Int32)) % (6 : Int32)))] [(.ref aMINUTE_MILE)]))
    exact own_retA X1 hx Bd.returns rfl rfl (hb hby d5_16) (by rw [e1]; exact ⟨_, rfl, rfl, N0, rfl⟩) (by decide) (by decide)
  · refine own_go (fun t k => XS.icmpYes X0.here hx rfl (pc0 := 10) (pc' := 17) rfl (hb hby d5_10) rfl (feq hc10).2 (by decide) (by decide) k) ?_
    show own_Go p e below _ (s₁.setTop (mkF m 17 #[.val (.int xc), .val (.int ((xc &&& (2147483647 : Int32)) % (6 : Int32)))] []))
    refine own_go (fun t k => XS.iloadN X0.here hx rfl (hb hby d5_17) rfl k) ?_
    show own_Go p e below _ (s₁.setTop (mkF m 18 #[.val (.int xc), .val (.int ((xc &&& (2147483647 : Int32)) % (6 : Int32)))] [(.int ((xc &&& (2147483647 : Int32)) % (6 : Int32)))]))
    refine own_go (fun t k => XS.iconst X0.here hx rfl (hb hby d5_18) k) ?_
    show own_Go p e below _ (s₁.setTop (mkF m 19 #[.val (.int xc), .val (.int ((xc &&& (2147483647 : Int32)) % (6 : Int32)))] [(.int (2 : Int32)), (.int ((xc &&& (2147483647 : Int32)) % (6 : Int32)))]))
    by_cases hc19 : ((xc &&& (2147483647 : Int32)) % (6 : Int32)) = (2 : Int32)
    · refine own_go (fun t k => XS.icmpNo X0.here hx rfl (hb hby d5_19) rfl (teq hc19).2 k) ?_
      show own_Go p e below _ (s₁.setTop (mkF m 22 #[.val (.int xc), .val (.int ((xc &&& (2147483647 : Int32)) % (6 : Int32)))] []))
      obtain ⟨T2, X2, e2, st2⟩ := getS2 X0 hx hZ hown (host := "") (Or.inl (hw _ (List.mem_of_getElem? (i := 80) rfl))) Via.refl e0 (SMINUTE.ext XO.2) (g := (mkF m 22 #[.val (.int xc), .val (.int ((xc &&& (2147483647 : Int32)) % (6 : Int32)))] [])) rfl (hb hby d5_22)
      refine own_go (fun t k => st2 t k) ?_
      show own_Go p e below _ (T2.setTop (mkF m 25 #[.val (.int xc), .val (.int ((xc &&& (2147483647 : Int32)) % (6 : Int32)))] [(.ref aMINUTE)]))
      exact own_retA X2 hx Bd.returns rfl rfl (hb hby d5_25) (by rw [e2]; exact ⟨_, rfl, rfl, N0, rfl⟩) (by decide) (by decide)
    · refine own_go (fun t k => XS.icmpYes X0.here hx rfl (pc0 := 19) (pc' := 26) rfl (hb hby d5_19) rfl (feq hc19).2 (by decide) (by decide) k) ?_
      show own_Go p e below _ (s₁.setTop (mkF m 26 #[.val (.int xc), .val (.int ((xc &&& (2147483647 : Int32)) % (6 : Int32)))] []))
      refine own_go (fun t k => XS.iloadN X0.here hx rfl (hb hby d5_26) rfl k) ?_
      show own_Go p e below _ (s₁.setTop (mkF m 27 #[.val (.int xc), .val (.int ((xc &&& (2147483647 : Int32)) % (6 : Int32)))] [(.int ((xc &&& (2147483647 : Int32)) % (6 : Int32)))]))
      refine own_go (fun t k => XS.iconst X0.here hx rfl (hb hby d5_27) k) ?_
      show own_Go p e below _ (s₁.setTop (mkF m 28 #[.val (.int xc), .val (.int ((xc &&& (2147483647 : Int32)) % (6 : Int32)))] [(.int (3 : Int32)), (.int ((xc &&& (2147483647 : Int32)) % (6 : Int32)))]))
      by_cases hc28 : ((xc &&& (2147483647 : Int32)) % (6 : Int32)) = (3 : Int32)
      · refine own_go (fun t k => XS.icmpNo X0.here hx rfl (hb hby d5_28) rfl (teq hc28).2 k) ?_
        show own_Go p e below _ (s₁.setTop (mkF m 31 #[.val (.int xc), .val (.int ((xc &&& (2147483647 : Int32)) % (6 : Int32)))] []))
        obtain ⟨T3, X3, e3, st3⟩ := getS2 X0 hx hZ hown (host := "") (Or.inl (hw _ (List.mem_of_getElem? (i := 5) rfl))) Via.refl e0 (SQUERY.ext XO.2) (g := (mkF m 31 #[.val (.int xc), .val (.int ((xc &&& (2147483647 : Int32)) % (6 : Int32)))] [])) rfl (hb hby d5_31)
        refine own_go (fun t k => st3 t k) ?_
        show own_Go p e below _ (T3.setTop (mkF m 34 #[.val (.int xc), .val (.int ((xc &&& (2147483647 : Int32)) % (6 : Int32)))] [(.ref aQUERY)]))
        exact own_retA X3 hx Bd.returns rfl rfl (hb hby d5_34) (by rw [e3]; exact ⟨_, rfl, rfl, N0, rfl⟩) (by decide) (by decide)
      · refine own_go (fun t k => XS.icmpYes X0.here hx rfl (pc0 := 28) (pc' := 35) rfl (hb hby d5_28) rfl (feq hc28).2 (by decide) (by decide) k) ?_
        show own_Go p e below _ (s₁.setTop (mkF m 35 #[.val (.int xc), .val (.int ((xc &&& (2147483647 : Int32)) % (6 : Int32)))] []))
        refine own_go (fun t k => XS.iloadN X0.here hx rfl (hb hby d5_35) rfl k) ?_
        show own_Go p e below _ (s₁.setTop (mkF m 36 #[.val (.int xc), .val (.int ((xc &&& (2147483647 : Int32)) % (6 : Int32)))] [(.int ((xc &&& (2147483647 : Int32)) % (6 : Int32)))]))
        refine own_go (fun t k => XS.iconst X0.here hx rfl (hb hby d5_36) k) ?_
        show own_Go p e below _ (s₁.setTop (mkF m 37 #[.val (.int xc), .val (.int ((xc &&& (2147483647 : Int32)) % (6 : Int32)))] [(.int (4 : Int32)), (.int ((xc &&& (2147483647 : Int32)) % (6 : Int32)))]))
        by_cases hc37 : ((xc &&& (2147483647 : Int32)) % (6 : Int32)) = (4 : Int32)
        · refine own_go (fun t k => XS.icmpNo X0.here hx rfl (hb hby d5_37) rfl (teq hc37).2 k) ?_
          show own_Go p e below _ (s₁.setTop (mkF m 40 #[.val (.int xc), .val (.int ((xc &&& (2147483647 : Int32)) % (6 : Int32)))] []))
          obtain ⟨T4, X4, e4, st4⟩ := getS2 X0 hx hZ hown (host := "") (Or.inl (hw _ (List.mem_of_getElem? (i := 73) rfl))) Via.refl e0 (SMONTH.ext XO.2) (g := (mkF m 40 #[.val (.int xc), .val (.int ((xc &&& (2147483647 : Int32)) % (6 : Int32)))] [])) rfl (hb hby d5_40)
          refine own_go (fun t k => st4 t k) ?_
          show own_Go p e below _ (T4.setTop (mkF m 43 #[.val (.int xc), .val (.int ((xc &&& (2147483647 : Int32)) % (6 : Int32)))] [(.ref aMONTH)]))
          exact own_retA X4 hx Bd.returns rfl rfl (hb hby d5_43) (by rw [e4]; exact ⟨_, rfl, rfl, N0, rfl⟩) (by decide) (by decide)
        · refine own_go (fun t k => XS.icmpYes X0.here hx rfl (pc0 := 37) (pc' := 44) rfl (hb hby d5_37) rfl (feq hc37).2 (by decide) (by decide) k) ?_
          show own_Go p e below _ (s₁.setTop (mkF m 44 #[.val (.int xc), .val (.int ((xc &&& (2147483647 : Int32)) % (6 : Int32)))] []))
          refine own_go (fun t k => XS.iloadN X0.here hx rfl (hb hby d5_44) rfl k) ?_
          show own_Go p e below _ (s₁.setTop (mkF m 45 #[.val (.int xc), .val (.int ((xc &&& (2147483647 : Int32)) % (6 : Int32)))] [(.int ((xc &&& (2147483647 : Int32)) % (6 : Int32)))]))
          refine own_go (fun t k => XS.iconst X0.here hx rfl (hb hby d5_45) k) ?_
          show own_Go p e below _ (s₁.setTop (mkF m 46 #[.val (.int xc), .val (.int ((xc &&& (2147483647 : Int32)) % (6 : Int32)))] [(.int (5 : Int32)), (.int ((xc &&& (2147483647 : Int32)) % (6 : Int32)))]))
          by_cases hc46 : ((xc &&& (2147483647 : Int32)) % (6 : Int32)) = (5 : Int32)
          · refine own_go (fun t k => XS.icmpNo X0.here hx rfl (hb hby d5_46) rfl (teq hc46).2 k) ?_
            show own_Go p e below _ (s₁.setTop (mkF m 49 #[.val (.int xc), .val (.int ((xc &&& (2147483647 : Int32)) % (6 : Int32)))] []))
            obtain ⟨T5, X5, e5, st5⟩ := getS2 X0 hx hZ hown (host := "") (Or.inl (hw _ (List.mem_of_getElem? (i := 82) rfl))) Via.refl e0 (SOCCURRENCE.ext XO.2) (g := (mkF m 49 #[.val (.int xc), .val (.int ((xc &&& (2147483647 : Int32)) % (6 : Int32)))] [])) rfl (hb hby d5_49)
            refine own_go (fun t k => st5 t k) ?_
            show own_Go p e below _ (T5.setTop (mkF m 52 #[.val (.int xc), .val (.int ((xc &&& (2147483647 : Int32)) % (6 : Int32)))] [(.ref aOCCURRENCE)]))
            exact own_retA X5 hx Bd.returns rfl rfl (hb hby d5_52) (by rw [e5]; exact ⟨_, rfl, rfl, N0, rfl⟩) (by decide) (by decide)
          · refine own_go (fun t k => XS.icmpYes X0.here hx rfl (pc0 := 46) (pc' := 53) rfl (hb hby d5_46) rfl (feq hc46).2 (by decide) (by decide) k) ?_
            show own_Go p e below _ (s₁.setTop (mkF m 53 #[.val (.int xc), .val (.int ((xc &&& (2147483647 : Int32)) % (6 : Int32)))] []))
            refine own_go (fun t k => XS.aconstNull X0.here hx rfl (hb hby d5_53) k) ?_
            show own_Go p e below _ (s₁.setTop (mkF m 54 #[.val (.int xc), .val (.int ((xc &&& (2147483647 : Int32)) % (6 : Int32)))] [.null]))
            exact own_retA X0 hx Bd.returns rfl rfl (hb hby d5_54) (by rw [e0]; exact ⟨_, rfl, rfl, N0, rfl⟩) (by decide) (by decide)
theorem d6_0 : decode method_4_code 0 = .ok (.iload_n 0, 1) := by decide +kernel
theorem d6_1 : decode method_4_code 1 = .ok (.iconst 1, 1) := by decide +kernel
theorem d6_2 : decode method_4_code 2 = .ok (.if_icmp .ne 7, 3) := by decide +kernel
theorem d6_5 : decode method_4_code 5 = .ok (.getstatic 46, 3) := by decide +kernel
theorem d6_8 : decode method_4_code 8 = .ok (.areturn, 1) := by decide +kernel
theorem d6_9 : decode method_4_code 9 = .ok (.iload_n 0, 1) := by decide +kernel
theorem d6_10 : decode method_4_code 10 = .ok (.iconst 2, 1) := by decide +kernel
theorem d6_11 : decode method_4_code 11 = .ok (.if_icmp .ne 7, 3) := by decide +kernel
theorem d6_14 : decode method_4_code 14 = .ok (.getstatic 52, 3) := by decide +kernel
theorem d6_17 : decode method_4_code 17 = .ok (.areturn, 1) := by decide +kernel
theorem d6_18 : decode method_4_code 18 = .ok (.iload_n 0, 1) := by decide +kernel
theorem d6_19 : decode method_4_code 19 = .ok (.iconst 3, 1) := by decide +kernel
theorem d6_20 : decode method_4_code 20 = .ok (.if_icmp .ne 7, 3) := by decide +kernel
theorem d6_23 : decode method_4_code 23 = .ok (.getstatic 55, 3) := by decide +kernel
theorem d6_26 : decode method_4_code 26 = .ok (.areturn, 1) := by decide +kernel
theorem d6_27 : decode method_4_code 27 = .ok (.aconst_null, 1) := by decide +kernel
theorem d6_28 : decode method_4_code 28 = .ok (.areturn, 1) := by decide +kernel
theorem pn6 : plainName "com/example/tariff_reader/tariffreader/text/QualifiersStatesUnitPinLaw" = true := by first | (simp [plainName, overriddenIn]; done) | decide +kernel
theorem ef6 (m : MethodId) (x0 : Int32) : entryFrame m #[(.int x0)] 1 = mkF m 0 #[.val (.int x0)] [] := by first | (simp [entryFrame, mkF, argsToLocals, Value.category]; done) | rfl
set_option maxRecDepth 65536 in
set_option maxHeartbeats 40000000 in
theorem rm6 (l : Launch) (Z : State) (a0 : Array Value) (hw : ∀ d ∈ tables_1, d.before a0 Z = true) (ws : List Jvm.Cond) (xc : Int32) (h0 : Heap) (n0 : Nat) (Z0 : n0 ≤ h0.size) (XO : Old Z n0 h0) (WW : own_W Z) :
    MetFree l (⟨"com/example/tariff_reader/tariffreader/text/QualifiersStatesUnitPinLaw", "direction", "(I)Lcom/example/tariff_reader/tariffreader/model/Direction;"⟩ : MethodName) (head1 (Jvm.Cond.code (⟨"com/example/tariff_reader/tariffreader/text/QualifiersStatesUnitPinLaw", "direction", "(I)Lcom/example/tariff_reader/tariffreader/model/Direction;"⟩ : MethodName) method_4_code 1 (some (.object "com/example/tariff_reader/tariffreader/model/Direction")) :: ws) ({ frames := 0, cells := 0, slots := 0, locals := 0 } : Room)) (fun a U => a = #[(.int xc)] ∧ Z.Warmed39 U.vm ∧ U.heap = h0) (fun _ _ _ _ _ => True) (fun _ U o U' => ∃ v L, o = .returned v ∧ own_Qv h0 n0 v U'.heap L ∧ FrameEnd U o U' L ({ frames := 0, cells := 0, slots := 0, locals := 0 } : Room).cells ({ frames := 0, cells := 0, slots := 0, locals := 0 } : Room).slots) := by
  refine MetFree.of_bodySF (plainFor_of_name pn6) hisR ?_
  intro p e s m args below meth c s₁ Bd hml0 hP hK
  obtain ⟨rfl, hZ, hh⟩ := hP
  have hx := Bd.exec
  have hby := Bd.bytes
  have hml : c.maxLocals = 1 := hml0
  have hown : s.vm.findClass "com/example/tariff_reader/tariffreader/text/QualifiersStatesUnitPinLaw" = some m.cls := findClass_of_methodNamed Bd.named
  have hnm := (name_of_methodNamed Bd.named Bd.method).1
  have hlk : meth.locks = false := Bd.notSynchronized
  have X0 : Stand p l e ({ frames := 0, cells := 0, slots := 0, locals := 0 } : Room) s m #[(.int xc)] below meth c s₁ [] 0 0 := Stand.of_body Bd
  have e0 : s₁.heap = h0 := by rw [← hh, Bd.state]; rfl
  have N0 := Fr.nil n0
  refine own_go (fun t k => castTop (ef6 m xc) k) ?_
  obtain ⟨⟨cs, hcs, SCS⟩, ⟨aMINUTE_MILE, SMINUTE_MILE⟩, ⟨aMINUTE, SMINUTE⟩, ⟨aQUERY, SQUERY⟩, ⟨aMONTH, SMONTH⟩, ⟨aOCCURRENCE, SOCCURRENCE⟩, ⟨aORIGINATING, SORIGINATING⟩, ⟨aTERMINATING, STERMINATING⟩, ⟨aBOTH, SBOTH⟩⟩ := id WW
  show own_Go p e below _ (s₁.setTop (mkF m 0 #[.val (.int xc)] []))
  refine own_go (fun t k => XS.iloadN X0.here hx rfl (hb hby d6_0) rfl k) ?_
  show own_Go p e below _ (s₁.setTop (mkF m 1 #[.val (.int xc)] [(.int xc)]))
  refine own_go (fun t k => XS.iconst X0.here hx rfl (hb hby d6_1) k) ?_
  show own_Go p e below _ (s₁.setTop (mkF m 2 #[.val (.int xc)] [(.int (1 : Int32)), (.int xc)]))
  by_cases hc2 : xc = (1 : Int32)
  · refine own_go (fun t k => XS.icmpNo X0.here hx rfl (hb hby d6_2) rfl (teq hc2).2 k) ?_
    show own_Go p e below _ (s₁.setTop (mkF m 5 #[.val (.int xc)] []))
    obtain ⟨T1, X1, e1, st1⟩ := getS2 X0 hx hZ hown (host := "") (Or.inl (hw _ (List.mem_of_getElem? (i := 75) rfl))) Via.refl e0 (SORIGINATING.ext XO.2) (g := (mkF m 5 #[.val (.int xc)] [])) rfl (hb hby d6_5)
    refine own_go (fun t k => st1 t k) ?_
    show own_Go p e below _ (T1.setTop (mkF m 8 #[.val (.int xc)] [(.ref aORIGINATING)]))
    exact own_retA X1 hx Bd.returns rfl rfl (hb hby d6_8) (by rw [e1]; exact ⟨_, rfl, rfl, N0, rfl⟩) (by decide) (by decide)
  · refine own_go (fun t k => XS.icmpYes X0.here hx rfl (pc0 := 2) (pc' := 9) rfl (hb hby d6_2) rfl (feq hc2).2 (by decide) (by decide) k) ?_
    show own_Go p e below _ (s₁.setTop (mkF m 9 #[.val (.int xc)] []))
    refine own_go (fun t k => XS.iloadN X0.here hx rfl (hb hby d6_9) rfl k) ?_
    show own_Go p e below _ (s₁.setTop (mkF m 10 #[.val (.int xc)] [(.int xc)]))
    refine own_go (fun t k => XS.iconst X0.here hx rfl (hb hby d6_10) k) ?_
    show own_Go p e below _ (s₁.setTop (mkF m 11 #[.val (.int xc)] [(.int (2 : Int32)), (.int xc)]))
    by_cases hc11 : xc = (2 : Int32)
    · refine own_go (fun t k => XS.icmpNo X0.here hx rfl (hb hby d6_11) rfl (teq hc11).2 k) ?_
      show own_Go p e below _ (s₁.setTop (mkF m 14 #[.val (.int xc)] []))
      obtain ⟨T2, X2, e2, st2⟩ := getS2 X0 hx hZ hown (host := "") (Or.inl (hw _ (List.mem_of_getElem? (i := 84) rfl))) Via.refl e0 (STERMINATING.ext XO.2) (g := (mkF m 14 #[.val (.int xc)] [])) rfl (hb hby d6_14)
      refine own_go (fun t k => st2 t k) ?_
      show own_Go p e below _ (T2.setTop (mkF m 17 #[.val (.int xc)] [(.ref aTERMINATING)]))
      exact own_retA X2 hx Bd.returns rfl rfl (hb hby d6_17) (by rw [e2]; exact ⟨_, rfl, rfl, N0, rfl⟩) (by decide) (by decide)
    · refine own_go (fun t k => XS.icmpYes X0.here hx rfl (pc0 := 11) (pc' := 18) rfl (hb hby d6_11) rfl (feq hc11).2 (by decide) (by decide) k) ?_
      show own_Go p e below _ (s₁.setTop (mkF m 18 #[.val (.int xc)] []))
      refine own_go (fun t k => XS.iloadN X0.here hx rfl (hb hby d6_18) rfl k) ?_
      show own_Go p e below _ (s₁.setTop (mkF m 19 #[.val (.int xc)] [(.int xc)]))
      refine own_go (fun t k => XS.iconst X0.here hx rfl (hb hby d6_19) k) ?_
      show own_Go p e below _ (s₁.setTop (mkF m 20 #[.val (.int xc)] [(.int (3 : Int32)), (.int xc)]))
      by_cases hc20 : xc = (3 : Int32)
      · refine own_go (fun t k => XS.icmpNo X0.here hx rfl (hb hby d6_20) rfl (teq hc20).2 k) ?_
        show own_Go p e below _ (s₁.setTop (mkF m 23 #[.val (.int xc)] []))
        obtain ⟨T3, X3, e3, st3⟩ := getS2 X0 hx hZ hown (host := "") (Or.inl (hw _ (List.mem_of_getElem? (i := 78) rfl))) Via.refl e0 (SBOTH.ext XO.2) (g := (mkF m 23 #[.val (.int xc)] [])) rfl (hb hby d6_23)
        refine own_go (fun t k => st3 t k) ?_
        show own_Go p e below _ (T3.setTop (mkF m 26 #[.val (.int xc)] [(.ref aBOTH)]))
        exact own_retA X3 hx Bd.returns rfl rfl (hb hby d6_26) (by rw [e3]; exact ⟨_, rfl, rfl, N0, rfl⟩) (by decide) (by decide)
      · refine own_go (fun t k => XS.icmpYes X0.here hx rfl (pc0 := 20) (pc' := 27) rfl (hb hby d6_20) rfl (feq hc20).2 (by decide) (by decide) k) ?_
        show own_Go p e below _ (s₁.setTop (mkF m 27 #[.val (.int xc)] []))
        refine own_go (fun t k => XS.aconstNull X0.here hx rfl (hb hby d6_27) k) ?_
        show own_Go p e below _ (s₁.setTop (mkF m 28 #[.val (.int xc)] [.null]))
        exact own_retA X0 hx Bd.returns rfl rfl (hb hby d6_28) (by rw [e0]; exact ⟨_, rfl, rfl, N0, rfl⟩) (by decide) (by decide)
theorem d7_0 : decode prog_63_method_1_code 0 = .ok (.aload_n 0, 1) := by decide +kernel
theorem d7_1 : decode prog_63_method_1_code 1 = .ok (.invokespecial 1, 3) := by decide +kernel
theorem d7_4 : decode prog_63_method_1_code 4 = .ok (.aload_n 0, 1) := by decide +kernel
theorem d7_5 : decode prog_63_method_1_code 5 = .ok (.aload_n 1, 1) := by decide +kernel
theorem d7_6 : decode prog_63_method_1_code 6 = .ok (.putfield 7, 3) := by decide +kernel
theorem d7_9 : decode prog_63_method_1_code 9 = .ok (.aload_n 0, 1) := by decide +kernel
theorem d7_10 : decode prog_63_method_1_code 10 = .ok (.aload_n 2, 1) := by decide +kernel
theorem d7_11 : decode prog_63_method_1_code 11 = .ok (.putfield 13, 3) := by decide +kernel
theorem d7_14 : decode prog_63_method_1_code 14 = .ok (.aload_n 0, 1) := by decide +kernel
theorem d7_15 : decode prog_63_method_1_code 15 = .ok (.aload_n 3, 1) := by decide +kernel
theorem d7_16 : decode prog_63_method_1_code 16 = .ok (.putfield 16, 3) := by decide +kernel
theorem d7_19 : decode prog_63_method_1_code 19 = .ok (.aload_n 0, 1) := by decide +kernel
theorem d7_20 : decode prog_63_method_1_code 20 = .ok (.aload 4, 2) := by decide +kernel
theorem d7_22 : decode prog_63_method_1_code 22 = .ok (.putfield 19, 3) := by decide +kernel
theorem d7_25 : decode prog_63_method_1_code 25 = .ok (.aload_n 0, 1) := by decide +kernel
theorem d7_26 : decode prog_63_method_1_code 26 = .ok (.aload 5, 2) := by decide +kernel
theorem d7_28 : decode prog_63_method_1_code 28 = .ok (.putfield 23, 3) := by decide +kernel
theorem d7_31 : decode prog_63_method_1_code 31 = .ok (.aload_n 0, 1) := by decide +kernel
theorem d7_32 : decode prog_63_method_1_code 32 = .ok (.aload 6, 2) := by decide +kernel
theorem d7_34 : decode prog_63_method_1_code 34 = .ok (.putfield 26, 3) := by decide +kernel
theorem d7_37 : decode prog_63_method_1_code 37 = .ok (.return_, 1) := by decide +kernel
theorem pn7 : plainName "com/example/tariff_reader/tariffreader/text/Qualifiers" = true := by first | (simp [plainName, overriddenIn]; done) | decide +kernel
theorem ef7 (m : MethodId) (x0 : Addr) (x1 : Value) (x2 : Value) (x3 : Value) (x4 : Value) (x5 : Value) (x6 : Value) (r_x1 : x1.isRef = true) (r_x2 : x2.isRef = true) (r_x3 : x3.isRef = true) (r_x4 : x4.isRef = true) (r_x5 : x5.isRef = true) (r_x6 : x6.isRef = true) : entryFrame m #[(.ref x0), x1, x2, x3, x4, x5, x6] 7 = mkF m 0 #[.val (.ref x0), .val x1, .val x2, .val x3, .val x4, .val x5, .val x6] [] := by
  have c_x1 := own_cat1 r_x1
  have c_x2 := own_cat1 r_x2
  have c_x3 := own_cat1 r_x3
  have c_x4 := own_cat1 r_x4
  have c_x5 := own_cat1 r_x5
  have c_x6 := own_cat1 r_x6
  simp [entryFrame, mkF, argsToLocals, own_catR, own_catI, own_catJ, own_catN, c_x1, c_x2, c_x3, c_x4, c_x5, c_x6]
def own_Q7 (Z : State) (a : Addr) (v1 v2 v3 v4 v5 v6 : Value) (h0 : Heap) (n0 : Nat) (v : Option Value) (h : Heap) (L : List Loc) : Prop := v = none ∧ Fr n0 L ∧ Keep h0 h [a] ∧ own_Ql Z h a v1 v2 v3 v4 v5 v6
set_option maxRecDepth 65536 in
set_option maxHeartbeats 40000000 in
theorem rm7 (l : Launch) (Z : State) (a0 : Array Value) (hw : ∀ d ∈ tables_1, d.before a0 Z = true) (ws : List Jvm.Cond) (oa : Addr) (v1 v2 v3 v4 v5 v6 : Value) (h0 : Heap) (n0 : Nat) (Z0 : n0 ≤ h0.size) (G : own_Ql Z h0 oa .null .null .null .null .null .null) (g_oa : n0 ≤ oa) (r_v1 : v1.isRef = true) (r_v2 : v2.isRef = true) (r_v3 : v3.isRef = true) (r_v4 : v4.isRef = true) (r_v5 : v5.isRef = true) (r_v6 : v6.isRef = true) :
    MetFree l (⟨"com/example/tariff_reader/tariffreader/text/Qualifiers", "<init>", "(Ljava/lang/String;Ljava/lang/String;Ljava/lang/String;Lcom/example/tariff_reader/tariffreader/model/Direction;Ljava/lang/String;Lcom/example/tariff_reader/tariffreader/model/Unit;)V"⟩ : MethodName) (head1 (Jvm.Cond.code (⟨"com/example/tariff_reader/tariffreader/text/Qualifiers", "<init>", "(Ljava/lang/String;Ljava/lang/String;Ljava/lang/String;Lcom/example/tariff_reader/tariffreader/model/Direction;Ljava/lang/String;Lcom/example/tariff_reader/tariffreader/model/Unit;)V"⟩ : MethodName) prog_63_method_1_code 7 none :: ws) ({ frames := 1, cells := 0, slots := 0, locals := 12 } : Room)) (fun a U => a = #[(.ref oa), v1, v2, v3, v4, v5, v6] ∧ Z.Warmed39 U.vm ∧ U.heap = h0) (fun _ _ _ _ _ => True) (fun _ U o U' => ∃ v L, o = .returned v ∧ own_Q7 Z oa v1 v2 v3 v4 v5 v6 h0 n0 v U'.heap L ∧ FrameEnd U o U' L ({ frames := 1, cells := 0, slots := 0, locals := 12 } : Room).cells ({ frames := 1, cells := 0, slots := 0, locals := 12 } : Room).slots) := by
  refine MetFree.of_bodySF (plainFor_of_name pn7) hisR ?_
  intro p e s m args below meth c s₁ Bd hml0 hP hK
  obtain ⟨rfl, hZ, hh⟩ := hP
  have hx := Bd.exec
  have hby := Bd.bytes
  have hml : c.maxLocals = 7 := hml0
  have hown : s.vm.findClass "com/example/tariff_reader/tariffreader/text/Qualifiers" = some m.cls := findClass_of_methodNamed Bd.named
  have hnm := (name_of_methodNamed Bd.named Bd.method).1
  have hlk : meth.locks = false := Bd.notSynchronized
  have X0 : Stand p l e ({ frames := 1, cells := 0, slots := 0, locals := 12 } : Room) s m #[(.ref oa), v1, v2, v3, v4, v5, v6] below meth c s₁ [] 0 0 := Stand.of_body Bd
  have e0 : s₁.heap = h0 := by rw [← hh, Bd.state]; rfl
  have N0 := Fr.nil n0
  refine own_go (fun t k => castTop (ef7 m oa v1 v2 v3 v4 v5 v6 r_v1 r_v2 r_v3 r_v4 r_v5 r_v6) k) ?_
  obtain ⟨Ea, Farea, Fschedule, Ftraffic, Fdirection, Fband, Funit⟩ := G
  show own_Go p e below _ (s₁.setTop (mkF m 0 #[.val (.ref oa), .val v1, .val v2, .val v3, .val v4, .val v5, .val v6] []))
  refine own_go (fun t k => XS.aloadN X0.here hx rfl (hb hby d7_0) rfl rfl k) ?_
  show own_Go p e below _ (s₁.setTop (mkF m 1 #[.val (.ref oa), .val v1, .val v2, .val v3, .val v4, .val v5, .val v6] [(.ref oa)]))
  obtain ⟨T2, X2, e2, st2⟩ := initO X0 hx hZ hown (hw _ (List.mem_of_getElem? (i := 48) rfl)) (hw _ (List.mem_of_getElem? (i := 33) rfl)) (hw _ (List.mem_of_getElem? (i := 34) rfl)) e0 (g := (mkF m 1 #[.val (.ref oa), .val v1, .val v2, .val v3, .val v4, .val v5, .val v6] [(.ref oa)])) rfl (by rw [hml]; rfl) rfl (hb hby d7_1) (by decide) (W := 0) (by show 2 * 0 + _ ≤ _; exact Nat.le_of_eq rfl) (by decide)
  refine own_go (fun t k => st2 t k) ?_
  show own_Go p e below _ (T2.setTop (mkF m 4 #[.val (.ref oa), .val v1, .val v2, .val v3, .val v4, .val v5, .val v6] []))
  refine own_go (fun t k => XS.aloadN X2.here hx rfl (hb hby d7_4) rfl rfl k) ?_
  show own_Go p e below _ (T2.setTop (mkF m 5 #[.val (.ref oa), .val v1, .val v2, .val v3, .val v4, .val v5, .val v6] [(.ref oa)]))
  refine own_go (fun t k => XS.aloadN X2.here hx rfl (hb hby d7_5) rfl r_v1 k) ?_
  show own_Go p e below _ (T2.setTop (mkF m 6 #[.val (.ref oa), .val v1, .val v2, .val v3, .val v4, .val v5, .val v6] [v1, (.ref oa)]))
  obtain ⟨T3, h3, X3, e3, W3, st3⟩ := putF X2 hx hZ hown (host := "") (Or.inl (hw _ (List.mem_of_getElem? (i := 49) rfl))) Via.refl e2 Farea Ea (Or.inr ⟨(hw _ (List.mem_of_getElem? (i := 50) rfl)), rfl, hnm⟩) (hw _ (List.mem_of_getElem? (i := 43) rfl)) (ty := (.object "java/lang/String")) (by decide) rfl (own_fits r_v1 rfl) (g := (mkF m 6 #[.val (.ref oa), .val v1, .val v2, .val v3, .val v4, .val v5, .val v6] [v1, (.ref oa)])) rfl rfl (hb hby d7_6)
  have Fw3 := Farea.same W3
  have Ea__3 := Ea.wr W3
  have Fschedule__3 := Fschedule.other W3 (Or.inr (slot_ne (Or.inr (hw _ (List.mem_of_getElem? (i := 52) rfl))) (Or.inr (hw _ (List.mem_of_getElem? (i := 50) rfl))) (by decide) (t := (.object "java/lang/String")) (t' := (.object "java/lang/String")) (by decide) (by decide)))
  have Ftraffic__3 := Ftraffic.other W3 (Or.inr (slot_ne (Or.inr (hw _ (List.mem_of_getElem? (i := 54) rfl))) (Or.inr (hw _ (List.mem_of_getElem? (i := 50) rfl))) (by decide) (t := (.object "java/lang/String")) (t' := (.object "java/lang/String")) (by decide) (by decide)))
  have Fdirection__3 := Fdirection.other W3 (Or.inr (slot_ne (Or.inr (hw _ (List.mem_of_getElem? (i := 56) rfl))) (Or.inr (hw _ (List.mem_of_getElem? (i := 50) rfl))) (by decide) (t := (.object "com/example/tariff_reader/tariffreader/model/Direction")) (t' := (.object "java/lang/String")) (by decide) (by decide)))
  have Fband__3 := Fband.other W3 (Or.inr (slot_ne (Or.inr (hw _ (List.mem_of_getElem? (i := 58) rfl))) (Or.inr (hw _ (List.mem_of_getElem? (i := 50) rfl))) (by decide) (t := (.object "java/lang/String")) (t' := (.object "java/lang/String")) (by decide) (by decide)))
  have Funit__3 := Funit.other W3 (Or.inr (slot_ne (Or.inr (hw _ (List.mem_of_getElem? (i := 60) rfl))) (Or.inr (hw _ (List.mem_of_getElem? (i := 50) rfl))) (by decide) (t := (.object "com/example/tariff_reader/tariffreader/model/Unit")) (t' := (.object "java/lang/String")) (by decide) (by decide)))
  have N3 := Fr.snoc X3 N0 g_oa
  have KP3 := (Keep.refl h0 [oa]).wr W3 (Or.inl (List.mem_of_getElem? (i := 0) rfl))
  have sz3 := Nat.le_trans Z0 (Keep.of_wr W3).1
  refine own_go (fun t k => st3 t k) ?_
  show own_Go p e below _ (T3.setTop (mkF m 9 #[.val (.ref oa), .val v1, .val v2, .val v3, .val v4, .val v5, .val v6] []))
  refine own_go (fun t k => XS.aloadN X3.here hx rfl (hb hby d7_9) rfl rfl k) ?_
  show own_Go p e below _ (T3.setTop (mkF m 10 #[.val (.ref oa), .val v1, .val v2, .val v3, .val v4, .val v5, .val v6] [(.ref oa)]))
  refine own_go (fun t k => XS.aloadN X3.here hx rfl (hb hby d7_10) rfl r_v2 k) ?_
  show own_Go p e below _ (T3.setTop (mkF m 11 #[.val (.ref oa), .val v1, .val v2, .val v3, .val v4, .val v5, .val v6] [v2, (.ref oa)]))
  obtain ⟨T4, h4, X4, e4, W4, st4⟩ := putF X3 hx hZ hown (host := "") (Or.inl (hw _ (List.mem_of_getElem? (i := 51) rfl))) Via.refl e3 Fschedule__3 Ea__3 (Or.inr ⟨(hw _ (List.mem_of_getElem? (i := 52) rfl)), rfl, hnm⟩) (hw _ (List.mem_of_getElem? (i := 43) rfl)) (ty := (.object "java/lang/String")) (by decide) rfl (own_fits r_v2 rfl) (g := (mkF m 11 #[.val (.ref oa), .val v1, .val v2, .val v3, .val v4, .val v5, .val v6] [v2, (.ref oa)])) rfl rfl (hb hby d7_11)
  have Fw4 := Fschedule__3.same W4
  have Ea__4 := Ea__3.wr W4
  have Fw3__4 := Fw3.other W4 (Or.inr (slot_ne (Or.inr (hw _ (List.mem_of_getElem? (i := 50) rfl))) (Or.inr (hw _ (List.mem_of_getElem? (i := 52) rfl))) (by decide) (t := (.object "java/lang/String")) (t' := (.object "java/lang/String")) (by decide) (by decide)))
  have Ftraffic__4 := Ftraffic__3.other W4 (Or.inr (slot_ne (Or.inr (hw _ (List.mem_of_getElem? (i := 54) rfl))) (Or.inr (hw _ (List.mem_of_getElem? (i := 52) rfl))) (by decide) (t := (.object "java/lang/String")) (t' := (.object "java/lang/String")) (by decide) (by decide)))
  have Fdirection__4 := Fdirection__3.other W4 (Or.inr (slot_ne (Or.inr (hw _ (List.mem_of_getElem? (i := 56) rfl))) (Or.inr (hw _ (List.mem_of_getElem? (i := 52) rfl))) (by decide) (t := (.object "com/example/tariff_reader/tariffreader/model/Direction")) (t' := (.object "java/lang/String")) (by decide) (by decide)))
  have Fband__4 := Fband__3.other W4 (Or.inr (slot_ne (Or.inr (hw _ (List.mem_of_getElem? (i := 58) rfl))) (Or.inr (hw _ (List.mem_of_getElem? (i := 52) rfl))) (by decide) (t := (.object "java/lang/String")) (t' := (.object "java/lang/String")) (by decide) (by decide)))
  have Funit__4 := Funit__3.other W4 (Or.inr (slot_ne (Or.inr (hw _ (List.mem_of_getElem? (i := 60) rfl))) (Or.inr (hw _ (List.mem_of_getElem? (i := 52) rfl))) (by decide) (t := (.object "com/example/tariff_reader/tariffreader/model/Unit")) (t' := (.object "java/lang/String")) (by decide) (by decide)))
  have N4 := Fr.snoc X4 N3 g_oa
  have KP4 := KP3.wr W4 (Or.inl (List.mem_of_getElem? (i := 0) rfl))
  have sz4 := Nat.le_trans sz3 (Keep.of_wr W4).1
  refine own_go (fun t k => st4 t k) ?_
  show own_Go p e below _ (T4.setTop (mkF m 14 #[.val (.ref oa), .val v1, .val v2, .val v3, .val v4, .val v5, .val v6] []))
  refine own_go (fun t k => XS.aloadN X4.here hx rfl (hb hby d7_14) rfl rfl k) ?_
  show own_Go p e below _ (T4.setTop (mkF m 15 #[.val (.ref oa), .val v1, .val v2, .val v3, .val v4, .val v5, .val v6] [(.ref oa)]))
  refine own_go (fun t k => XS.aloadN X4.here hx rfl (hb hby d7_15) rfl r_v3 k) ?_
  show own_Go p e below _ (T4.setTop (mkF m 16 #[.val (.ref oa), .val v1, .val v2, .val v3, .val v4, .val v5, .val v6] [v3, (.ref oa)]))
  obtain ⟨T5, h5, X5, e5, W5, st5⟩ := putF X4 hx hZ hown (host := "") (Or.inl (hw _ (List.mem_of_getElem? (i := 53) rfl))) Via.refl e4 Ftraffic__4 Ea__4 (Or.inr ⟨(hw _ (List.mem_of_getElem? (i := 54) rfl)), rfl, hnm⟩) (hw _ (List.mem_of_getElem? (i := 43) rfl)) (ty := (.object "java/lang/String")) (by decide) rfl (own_fits r_v3 rfl) (g := (mkF m 16 #[.val (.ref oa), .val v1, .val v2, .val v3, .val v4, .val v5, .val v6] [v3, (.ref oa)])) rfl rfl (hb hby d7_16)
  have Fw5 := Ftraffic__4.same W5
  have Ea__5 := Ea__4.wr W5
  have Fw3__5 := Fw3__4.other W5 (Or.inr (slot_ne (Or.inr (hw _ (List.mem_of_getElem? (i := 50) rfl))) (Or.inr (hw _ (List.mem_of_getElem? (i := 54) rfl))) (by decide) (t := (.object "java/lang/String")) (t' := (.object "java/lang/String")) (by decide) (by decide)))
  have Fw4__5 := Fw4.other W5 (Or.inr (slot_ne (Or.inr (hw _ (List.mem_of_getElem? (i := 52) rfl))) (Or.inr (hw _ (List.mem_of_getElem? (i := 54) rfl))) (by decide) (t := (.object "java/lang/String")) (t' := (.object "java/lang/String")) (by decide) (by decide)))
  have Fdirection__5 := Fdirection__4.other W5 (Or.inr (slot_ne (Or.inr (hw _ (List.mem_of_getElem? (i := 56) rfl))) (Or.inr (hw _ (List.mem_of_getElem? (i := 54) rfl))) (by decide) (t := (.object "com/example/tariff_reader/tariffreader/model/Direction")) (t' := (.object "java/lang/String")) (by decide) (by decide)))
  have Fband__5 := Fband__4.other W5 (Or.inr (slot_ne (Or.inr (hw _ (List.mem_of_getElem? (i := 58) rfl))) (Or.inr (hw _ (List.mem_of_getElem? (i := 54) rfl))) (by decide) (t := (.object "java/lang/String")) (t' := (.object "java/lang/String")) (by decide) (by decide)))
  have Funit__5 := Funit__4.other W5 (Or.inr (slot_ne (Or.inr (hw _ (List.mem_of_getElem? (i := 60) rfl))) (Or.inr (hw _ (List.mem_of_getElem? (i := 54) rfl))) (by decide) (t := (.object "com/example/tariff_reader/tariffreader/model/Unit")) (t' := (.object "java/lang/String")) (by decide) (by decide)))
  have N5 := Fr.snoc X5 N4 g_oa
  have KP5 := KP4.wr W5 (Or.inl (List.mem_of_getElem? (i := 0) rfl))
  have sz5 := Nat.le_trans sz4 (Keep.of_wr W5).1
  refine own_go (fun t k => st5 t k) ?_
  show own_Go p e below _ (T5.setTop (mkF m 19 #[.val (.ref oa), .val v1, .val v2, .val v3, .val v4, .val v5, .val v6] []))
  refine own_go (fun t k => XS.aloadN X5.here hx rfl (hb hby d7_19) rfl rfl k) ?_
  show own_Go p e below _ (T5.setTop (mkF m 20 #[.val (.ref oa), .val v1, .val v2, .val v3, .val v4, .val v5, .val v6] [(.ref oa)]))
  refine own_go (fun t k => XS.aload X5.here hx rfl (hb hby d7_20) rfl r_v4 k) ?_
  show own_Go p e below _ (T5.setTop (mkF m 22 #[.val (.ref oa), .val v1, .val v2, .val v3, .val v4, .val v5, .val v6] [v4, (.ref oa)]))
  obtain ⟨T6, h6, X6, e6, W6, st6⟩ := putF X5 hx hZ hown (host := "") (Or.inl (hw _ (List.mem_of_getElem? (i := 55) rfl))) Via.refl e5 Fdirection__5 Ea__5 (Or.inr ⟨(hw _ (List.mem_of_getElem? (i := 56) rfl)), rfl, hnm⟩) (hw _ (List.mem_of_getElem? (i := 43) rfl)) (ty := (.object "com/example/tariff_reader/tariffreader/model/Direction")) (by decide) rfl (own_fits r_v4 rfl) (g := (mkF m 22 #[.val (.ref oa), .val v1, .val v2, .val v3, .val v4, .val v5, .val v6] [v4, (.ref oa)])) rfl rfl (hb hby d7_22)
  have Fw6 := Fdirection__5.same W6
  have Ea__6 := Ea__5.wr W6
  have Fw3__6 := Fw3__5.other W6 (Or.inr (slot_ne (Or.inr (hw _ (List.mem_of_getElem? (i := 50) rfl))) (Or.inr (hw _ (List.mem_of_getElem? (i := 56) rfl))) (by decide) (t := (.object "java/lang/String")) (t' := (.object "com/example/tariff_reader/tariffreader/model/Direction")) (by decide) (by decide)))
  have Fw4__6 := Fw4__5.other W6 (Or.inr (slot_ne (Or.inr (hw _ (List.mem_of_getElem? (i := 52) rfl))) (Or.inr (hw _ (List.mem_of_getElem? (i := 56) rfl))) (by decide) (t := (.object "java/lang/String")) (t' := (.object "com/example/tariff_reader/tariffreader/model/Direction")) (by decide) (by decide)))
  have Fw5__6 := Fw5.other W6 (Or.inr (slot_ne (Or.inr (hw _ (List.mem_of_getElem? (i := 54) rfl))) (Or.inr (hw _ (List.mem_of_getElem? (i := 56) rfl))) (by decide) (t := (.object "java/lang/String")) (t' := (.object "com/example/tariff_reader/tariffreader/model/Direction")) (by decide) (by decide)))
  have Fband__6 := Fband__5.other W6 (Or.inr (slot_ne (Or.inr (hw _ (List.mem_of_getElem? (i := 58) rfl))) (Or.inr (hw _ (List.mem_of_getElem? (i := 56) rfl))) (by decide) (t := (.object "java/lang/String")) (t' := (.object "com/example/tariff_reader/tariffreader/model/Direction")) (by decide) (by decide)))
  have Funit__6 := Funit__5.other W6 (Or.inr (slot_ne (Or.inr (hw _ (List.mem_of_getElem? (i := 60) rfl))) (Or.inr (hw _ (List.mem_of_getElem? (i := 56) rfl))) (by decide) (t := (.object "com/example/tariff_reader/tariffreader/model/Unit")) (t' := (.object "com/example/tariff_reader/tariffreader/model/Direction")) (by decide) (by decide)))
  have N6 := Fr.snoc X6 N5 g_oa
  have KP6 := KP5.wr W6 (Or.inl (List.mem_of_getElem? (i := 0) rfl))
  have sz6 := Nat.le_trans sz5 (Keep.of_wr W6).1
  refine own_go (fun t k => st6 t k) ?_
  show own_Go p e below _ (T6.setTop (mkF m 25 #[.val (.ref oa), .val v1, .val v2, .val v3, .val v4, .val v5, .val v6] []))
  refine own_go (fun t k => XS.aloadN X6.here hx rfl (hb hby d7_25) rfl rfl k) ?_
  show own_Go p e below _ (T6.setTop (mkF m 26 #[.val (.ref oa), .val v1, .val v2, .val v3, .val v4, .val v5, .val v6] [(.ref oa)]))
  refine own_go (fun t k => XS.aload X6.here hx rfl (hb hby d7_26) rfl r_v5 k) ?_
  show own_Go p e below _ (T6.setTop (mkF m 28 #[.val (.ref oa), .val v1, .val v2, .val v3, .val v4, .val v5, .val v6] [v5, (.ref oa)]))
  obtain ⟨T7, h7, X7, e7, W7, st7⟩ := putF X6 hx hZ hown (host := "") (Or.inl (hw _ (List.mem_of_getElem? (i := 57) rfl))) Via.refl e6 Fband__6 Ea__6 (Or.inr ⟨(hw _ (List.mem_of_getElem? (i := 58) rfl)), rfl, hnm⟩) (hw _ (List.mem_of_getElem? (i := 43) rfl)) (ty := (.object "java/lang/String")) (by decide) rfl (own_fits r_v5 rfl) (g := (mkF m 28 #[.val (.ref oa), .val v1, .val v2, .val v3, .val v4, .val v5, .val v6] [v5, (.ref oa)])) rfl rfl (hb hby d7_28)
  have Fw7 := Fband__6.same W7
  have Ea__7 := Ea__6.wr W7
  have Fw3__7 := Fw3__6.other W7 (Or.inr (slot_ne (Or.inr (hw _ (List.mem_of_getElem? (i := 50) rfl))) (Or.inr (hw _ (List.mem_of_getElem? (i := 58) rfl))) (by decide) (t := (.object "java/lang/String")) (t' := (.object "java/lang/String")) (by decide) (by decide)))
  have Fw4__7 := Fw4__6.other W7 (Or.inr (slot_ne (Or.inr (hw _ (List.mem_of_getElem? (i := 52) rfl))) (Or.inr (hw _ (List.mem_of_getElem? (i := 58) rfl))) (by decide) (t := (.object "java/lang/String")) (t' := (.object "java/lang/String")) (by decide) (by decide)))
  have Fw5__7 := Fw5__6.other W7 (Or.inr (slot_ne (Or.inr (hw _ (List.mem_of_getElem? (i := 54) rfl))) (Or.inr (hw _ (List.mem_of_getElem? (i := 58) rfl))) (by decide) (t := (.object "java/lang/String")) (t' := (.object "java/lang/String")) (by decide) (by decide)))
  have Fw6__7 := Fw6.other W7 (Or.inr (slot_ne (Or.inr (hw _ (List.mem_of_getElem? (i := 56) rfl))) (Or.inr (hw _ (List.mem_of_getElem? (i := 58) rfl))) (by decide) (t := (.object "com/example/tariff_reader/tariffreader/model/Direction")) (t' := (.object "java/lang/String")) (by decide) (by decide)))
  have Funit__7 := Funit__6.other W7 (Or.inr (slot_ne (Or.inr (hw _ (List.mem_of_getElem? (i := 60) rfl))) (Or.inr (hw _ (List.mem_of_getElem? (i := 58) rfl))) (by decide) (t := (.object "com/example/tariff_reader/tariffreader/model/Unit")) (t' := (.object "java/lang/String")) (by decide) (by decide)))
  have N7 := Fr.snoc X7 N6 g_oa
  have KP7 := KP6.wr W7 (Or.inl (List.mem_of_getElem? (i := 0) rfl))
  have sz7 := Nat.le_trans sz6 (Keep.of_wr W7).1
  refine own_go (fun t k => st7 t k) ?_
  show own_Go p e below _ (T7.setTop (mkF m 31 #[.val (.ref oa), .val v1, .val v2, .val v3, .val v4, .val v5, .val v6] []))
  refine own_go (fun t k => XS.aloadN X7.here hx rfl (hb hby d7_31) rfl rfl k) ?_
  show own_Go p e below _ (T7.setTop (mkF m 32 #[.val (.ref oa), .val v1, .val v2, .val v3, .val v4, .val v5, .val v6] [(.ref oa)]))
  refine own_go (fun t k => XS.aload X7.here hx rfl (hb hby d7_32) rfl r_v6 k) ?_
  show own_Go p e below _ (T7.setTop (mkF m 34 #[.val (.ref oa), .val v1, .val v2, .val v3, .val v4, .val v5, .val v6] [v6, (.ref oa)]))
  obtain ⟨T8, h8, X8, e8, W8, st8⟩ := putF X7 hx hZ hown (host := "") (Or.inl (hw _ (List.mem_of_getElem? (i := 59) rfl))) Via.refl e7 Funit__7 Ea__7 (Or.inr ⟨(hw _ (List.mem_of_getElem? (i := 60) rfl)), rfl, hnm⟩) (hw _ (List.mem_of_getElem? (i := 43) rfl)) (ty := (.object "com/example/tariff_reader/tariffreader/model/Unit")) (by decide) rfl (own_fits r_v6 rfl) (g := (mkF m 34 #[.val (.ref oa), .val v1, .val v2, .val v3, .val v4, .val v5, .val v6] [v6, (.ref oa)])) rfl rfl (hb hby d7_34)
  have Fw8 := Funit__7.same W8
  have Ea__8 := Ea__7.wr W8
  have Fw3__8 := Fw3__7.other W8 (Or.inr (slot_ne (Or.inr (hw _ (List.mem_of_getElem? (i := 50) rfl))) (Or.inr (hw _ (List.mem_of_getElem? (i := 60) rfl))) (by decide) (t := (.object "java/lang/String")) (t' := (.object "com/example/tariff_reader/tariffreader/model/Unit")) (by decide) (by decide)))
  have Fw4__8 := Fw4__7.other W8 (Or.inr (slot_ne (Or.inr (hw _ (List.mem_of_getElem? (i := 52) rfl))) (Or.inr (hw _ (List.mem_of_getElem? (i := 60) rfl))) (by decide) (t := (.object "java/lang/String")) (t' := (.object "com/example/tariff_reader/tariffreader/model/Unit")) (by decide) (by decide)))
  have Fw5__8 := Fw5__7.other W8 (Or.inr (slot_ne (Or.inr (hw _ (List.mem_of_getElem? (i := 54) rfl))) (Or.inr (hw _ (List.mem_of_getElem? (i := 60) rfl))) (by decide) (t := (.object "java/lang/String")) (t' := (.object "com/example/tariff_reader/tariffreader/model/Unit")) (by decide) (by decide)))
  have Fw6__8 := Fw6__7.other W8 (Or.inr (slot_ne (Or.inr (hw _ (List.mem_of_getElem? (i := 56) rfl))) (Or.inr (hw _ (List.mem_of_getElem? (i := 60) rfl))) (by decide) (t := (.object "com/example/tariff_reader/tariffreader/model/Direction")) (t' := (.object "com/example/tariff_reader/tariffreader/model/Unit")) (by decide) (by decide)))
  have Fw7__8 := Fw7.other W8 (Or.inr (slot_ne (Or.inr (hw _ (List.mem_of_getElem? (i := 58) rfl))) (Or.inr (hw _ (List.mem_of_getElem? (i := 60) rfl))) (by decide) (t := (.object "java/lang/String")) (t' := (.object "com/example/tariff_reader/tariffreader/model/Unit")) (by decide) (by decide)))
  have N8 := Fr.snoc X8 N7 g_oa
  have KP8 := KP7.wr W8 (Or.inl (List.mem_of_getElem? (i := 0) rfl))
  have sz8 := Nat.le_trans sz7 (Keep.of_wr W8).1
  refine own_go (fun t k => st8 t k) ?_
  show own_Go p e below _ (T8.setTop (mkF m 37 #[.val (.ref oa), .val v1, .val v2, .val v3, .val v4, .val v5, .val v6] []))
  exact own_ret0 X8 hx Bd.returns (hb hby d7_37) (by rw [e8]; exact ⟨rfl, N8, KP8, ⟨Ea__8, Fw3__8, Fw4__8, Fw5__8, Fw6__8, Fw7__8, Fw8⟩⟩) (by decide) (by decide)
theorem own_mask (x : Int32) : ¬ (255 : Int32) < (x &&& 255).toUInt32.toUInt16.toUInt32.toInt32 := by
  rw [i2c_mask]
  have h : (x &&& 255).toInt = x.toInt % 2 ^ 8 := Jvm.Kit.i32_mask x 255 (k := 8) (by decide) (by decide)
  rw [Int32.lt_iff_toInt_lt]
  have h1 : (255 : Int32).toInt = 255 := by decide
  omega
theorem d8_0 : decode method_5_code 0 = .ok (.iload_n 0, 1) := by decide +kernel
theorem d8_1 : decode method_5_code 1 = .ok (.bipush 8, 2) := by decide +kernel
theorem d8_3 : decode method_5_code 3 = .ok (.iushr, 1) := by decide +kernel
theorem d8_4 : decode method_5_code 4 = .ok (.sipush 255, 3) := by decide +kernel
theorem d8_7 : decode method_5_code 7 = .ok (.iand, 1) := by decide +kernel
theorem d8_8 : decode method_5_code 8 = .ok (.i2c, 1) := by decide +kernel
theorem d8_9 : decode method_5_code 9 = .ok (.invokestatic 58, 3) := by decide +kernel
theorem d8_12 : decode method_5_code 12 = .ok (.astore_n 2, 1) := by decide +kernel
theorem d8_13 : decode method_5_code 13 = .ok (.iload_n 0, 1) := by decide +kernel
theorem d8_14 : decode method_5_code 14 = .ok (.iconst 1, 1) := by decide +kernel
theorem d8_15 : decode method_5_code 15 = .ok (.iand, 1) := by decide +kernel
theorem d8_16 : decode method_5_code 16 = .ok (.ifCond .eq 7, 3) := by decide +kernel
theorem d8_19 : decode method_5_code 19 = .ok (.aload_n 2, 1) := by decide +kernel
theorem d8_20 : decode method_5_code 20 = .ok (.goto 4, 3) := by decide +kernel
theorem d8_23 : decode method_5_code 23 = .ok (.aconst_null, 1) := by decide +kernel
theorem d8_24 : decode method_5_code 24 = .ok (.astore_n 3, 1) := by decide +kernel
theorem d8_25 : decode method_5_code 25 = .ok (.iload_n 0, 1) := by decide +kernel
theorem d8_26 : decode method_5_code 26 = .ok (.iconst 2, 1) := by decide +kernel
theorem d8_27 : decode method_5_code 27 = .ok (.iand, 1) := by decide +kernel
theorem d8_28 : decode method_5_code 28 = .ok (.ifCond .eq 7, 3) := by decide +kernel
theorem d8_31 : decode method_5_code 31 = .ok (.aload_n 2, 1) := by decide +kernel
theorem d8_32 : decode method_5_code 32 = .ok (.goto 4, 3) := by decide +kernel
theorem d8_35 : decode method_5_code 35 = .ok (.aconst_null, 1) := by decide +kernel
theorem d8_36 : decode method_5_code 36 = .ok (.astore 4, 2) := by decide +kernel
theorem d8_38 : decode method_5_code 38 = .ok (.iload_n 0, 1) := by decide +kernel
theorem d8_39 : decode method_5_code 39 = .ok (.iconst 4, 1) := by decide +kernel
theorem d8_40 : decode method_5_code 40 = .ok (.iand, 1) := by decide +kernel
theorem d8_41 : decode method_5_code 41 = .ok (.ifCond .eq 7, 3) := by decide +kernel
theorem d8_44 : decode method_5_code 44 = .ok (.aload_n 2, 1) := by decide +kernel
theorem d8_45 : decode method_5_code 45 = .ok (.goto 4, 3) := by decide +kernel
theorem d8_48 : decode method_5_code 48 = .ok (.aconst_null, 1) := by decide +kernel
theorem d8_49 : decode method_5_code 49 = .ok (.astore 5, 2) := by decide +kernel
theorem d8_51 : decode method_5_code 51 = .ok (.iload_n 0, 1) := by decide +kernel
theorem d8_52 : decode method_5_code 52 = .ok (.bipush 8, 2) := by decide +kernel
theorem d8_54 : decode method_5_code 54 = .ok (.iand, 1) := by decide +kernel
theorem d8_55 : decode method_5_code 55 = .ok (.ifCond .eq 7, 3) := by decide +kernel
theorem d8_58 : decode method_5_code 58 = .ok (.aload_n 2, 1) := by decide +kernel
theorem d8_59 : decode method_5_code 59 = .ok (.goto 4, 3) := by decide +kernel
theorem d8_62 : decode method_5_code 62 = .ok (.aconst_null, 1) := by decide +kernel
theorem d8_63 : decode method_5_code 63 = .ok (.astore 6, 2) := by decide +kernel
theorem d8_65 : decode method_5_code 65 = .ok (.iload_n 0, 1) := by decide +kernel
theorem d8_66 : decode method_5_code 66 = .ok (.iconst 4, 1) := by decide +kernel
theorem d8_67 : decode method_5_code 67 = .ok (.iushr, 1) := by decide +kernel
theorem d8_68 : decode method_5_code 68 = .ok (.iconst 3, 1) := by decide +kernel
theorem d8_69 : decode method_5_code 69 = .ok (.iand, 1) := by decide +kernel
theorem d8_70 : decode method_5_code 70 = .ok (.invokestatic 64, 3) := by decide +kernel
theorem d8_73 : decode method_5_code 73 = .ok (.astore 7, 2) := by decide +kernel
theorem d8_75 : decode method_5_code 75 = .ok (.new 18, 3) := by decide +kernel
theorem d8_78 : decode method_5_code 78 = .ok (.dup, 1) := by decide +kernel
theorem d8_79 : decode method_5_code 79 = .ok (.aload_n 3, 1) := by decide +kernel
theorem d8_80 : decode method_5_code 80 = .ok (.aload 4, 2) := by decide +kernel
theorem d8_82 : decode method_5_code 82 = .ok (.aload 5, 2) := by decide +kernel
theorem d8_84 : decode method_5_code 84 = .ok (.aload 7, 2) := by decide +kernel
theorem d8_86 : decode method_5_code 86 = .ok (.aload 6, 2) := by decide +kernel
theorem d8_88 : decode method_5_code 88 = .ok (.aload_n 1, 1) := by decide +kernel
theorem d8_89 : decode method_5_code 89 = .ok (.invokespecial 68, 3) := by decide +kernel
theorem d8_92 : decode method_5_code 92 = .ok (.areturn, 1) := by decide +kernel
theorem pn8 : plainName "com/example/tariff_reader/tariffreader/text/QualifiersStatesUnitPinLaw" = true := by first | (simp [plainName, overriddenIn]; done) | decide +kernel
theorem pd8_0 : parseMethodDescriptor "(C)Ljava/lang/String;" = some ⟨[.char], some (.object "java/lang/String")⟩ := by decide +kernel
theorem pd8_1 : parseMethodDescriptor "(I)Lcom/example/tariff_reader/tariffreader/model/Direction;" = some ⟨[.int], some (.object "com/example/tariff_reader/tariffreader/model/Direction")⟩ := by decide +kernel
theorem pd8_2 : parseMethodDescriptor "(Ljava/lang/String;Ljava/lang/String;Ljava/lang/String;Lcom/example/tariff_reader/tariffreader/model/Direction;Ljava/lang/String;Lcom/example/tariff_reader/tariffreader/model/Unit;)V" = some ⟨[(.object "java/lang/String"), (.object "java/lang/String"), (.object "java/lang/String"), (.object "com/example/tariff_reader/tariffreader/model/Direction"), (.object "java/lang/String"), (.object "com/example/tariff_reader/tariffreader/model/Unit")], none⟩ := by decide +kernel
theorem ef8 (m : MethodId) (x0 : Int32) (x1 : Value) (r_x1 : x1.isRef = true) : entryFrame m #[(.int x0), x1] 8 = mkF m 0 #[.val (.int x0), .val x1, .unset, .unset, .unset, .unset, .unset, .unset] [] := by
  have c_x1 := own_cat1 r_x1
  simp [entryFrame, mkF, argsToLocals, own_catR, own_catI, own_catJ, own_catN, c_x1]
def own_Q8 (Z : State) (u : Value) (h0 : Heap) (n0 : Nat) (v : Option Value) (h : Heap) (L : List Loc) : Prop := ∃ (b : Addr) (v1 v2 v3 v4 v5 : Value), v = some (.ref b) ∧ Fr n0 L ∧ Keep h0 h [] ∧ h0.size ≤ b ∧ own_Ql Z h b v1 v2 v3 v4 v5 u ∧ v1.isRef = true ∧ v2.isRef = true ∧ v3.isRef = true ∧ v4.isRef = true ∧ v5.isRef = true
set_option maxRecDepth 65536 in
set_option maxHeartbeats 40000000 in
theorem rm8 (l : Launch) (Z : State) (a0 : Array Value) (hw : ∀ d ∈ tables_1, d.before a0 Z = true) (ws : List Jvm.Cond) (xf : Int32) (xu : Value) (h0 : Heap) (n0 : Nat) (Z0 : n0 ≤ h0.size) (XO : Old Z n0 h0) (WW : own_W Z) (r_xu : xu.isRef = true) :
    MetFree l (⟨"com/example/tariff_reader/tariffreader/text/QualifiersStatesUnitPinLaw", "make", "(ILcom/example/tariff_reader/tariffreader/model/Unit;)Lcom/example/tariff_reader/tariffreader/text/Qualifiers;"⟩ : MethodName) (head1 (Jvm.Cond.code (⟨"com/example/tariff_reader/tariffreader/text/QualifiersStatesUnitPinLaw", "make", "(ILcom/example/tariff_reader/tariffreader/model/Unit;)Lcom/example/tariff_reader/tariffreader/text/Qualifiers;"⟩ : MethodName) method_5_code 8 (some (.object "com/example/tariff_reader/tariffreader/text/Qualifiers")) :: ws) ({ frames := 3, cells := 3, slots := 11, locals := 41 } : Room)) (fun a U => a = #[(.int xf), xu] ∧ Z.Warmed39 U.vm ∧ U.heap = h0) (fun _ _ _ _ _ => True) (fun _ U o U' => ∃ v L, o = .returned v ∧ own_Q8 Z xu h0 n0 v U'.heap L ∧ FrameEnd U o U' L ({ frames := 3, cells := 3, slots := 11, locals := 41 } : Room).cells ({ frames := 3, cells := 3, slots := 11, locals := 41 } : Room).slots) := by
  refine MetFree.of_bodySF (plainFor_of_name pn8) hisR ?_
  intro p e s m args below meth c s₁ Bd hml0 hP hK
  obtain ⟨rfl, hZ, hh⟩ := hP
  have hx := Bd.exec
  have hby := Bd.bytes
  have hml : c.maxLocals = 8 := hml0
  have hown : s.vm.findClass "com/example/tariff_reader/tariffreader/text/QualifiersStatesUnitPinLaw" = some m.cls := findClass_of_methodNamed Bd.named
  have hnm := (name_of_methodNamed Bd.named Bd.method).1
  have hlk : meth.locks = false := Bd.notSynchronized
  have X0 : Stand p l e ({ frames := 3, cells := 3, slots := 11, locals := 41 } : Room) s m #[(.int xf), xu] below meth c s₁ [] 0 0 := Stand.of_body Bd
  have e0 : s₁.heap = h0 := by rw [← hh, Bd.state]; rfl
  have N0 := Fr.nil n0
  refine own_go (fun t k => castTop (ef8 m xf xu r_xu) k) ?_
  obtain ⟨⟨cs, hcs, SCS⟩, ⟨aMINUTE_MILE, SMINUTE_MILE⟩, ⟨aMINUTE, SMINUTE⟩, ⟨aQUERY, SQUERY⟩, ⟨aMONTH, SMONTH⟩, ⟨aOCCURRENCE, SOCCURRENCE⟩, ⟨aORIGINATING, SORIGINATING⟩, ⟨aTERMINATING, STERMINATING⟩, ⟨aBOTH, SBOTH⟩⟩ := id WW
  show own_Go p e below _ (s₁.setTop (mkF m 0 #[.val (.int xf), .val xu, .unset, .unset, .unset, .unset, .unset, .unset] []))
  refine own_go (fun t k => XS.iloadN X0.here hx rfl (hb hby d8_0) rfl k) ?_
  show own_Go p e below _ (s₁.setTop (mkF m 1 #[.val (.int xf), .val xu, .unset, .unset, .unset, .unset, .unset, .unset] [(.int xf)]))
  refine own_go (fun t k => XS.bipush X0.here hx rfl (hb hby d8_1) k) ?_
  show own_Go p e below _ (s₁.setTop (mkF m 3 #[.val (.int xf), .val xu, .unset, .unset, .unset, .unset, .unset, .unset] [(.int (8 : Int32)), (.int xf)]))
  refine own_go (fun t k => XS.iushr X0.here hx rfl (hb hby d8_3) rfl k) ?_
  show own_Go p e below _ (s₁.setTop (mkF m 4 #[.val (.int xf), .val xu, .unset, .unset, .unset, .unset, .unset, .unset] [(.int ((xf.toUInt32 >>> ((8 : Int32) &&& 31).toUInt32).toInt32))]))
  refine own_go (fun t k => XS.sipush X0.here hx rfl (hb hby d8_4) k) ?_
  show own_Go p e below _ (s₁.setTop (mkF m 7 #[.val (.int xf), .val xu, .unset, .unset, .unset, .unset, .unset, .unset] [(.int (255 : Int32)), (.int ((xf.toUInt32 >>> ((8 : Int32) &&& 31).toUInt32).toInt32))]))
  refine own_go (fun t k => XS.iand X0.here hx rfl (hb hby d8_7) rfl k) ?_
  show own_Go p e below _ (s₁.setTop (mkF m 8 #[.val (.int xf), .val xu, .unset, .unset, .unset, .unset, .unset, .unset] [(.int (((xf.toUInt32 >>> ((8 : Int32) &&& 31).toUInt32).toInt32) &&& (255 : Int32)))]))
  refine own_go (fun t k => XS.i2c X0.here hx rfl (hb hby d8_8) rfl k) ?_
  show own_Go p e below _ (s₁.setTop (mkF m 9 #[.val (.int xf), .val xu, .unset, .unset, .unset, .unset, .unset, .unset] [(.int ((((xf.toUInt32 >>> ((8 : Int32) &&& 31).toUInt32).toInt32) &&& (255 : Int32)).toUInt32.toUInt16.toUInt32.toInt32))]))
  obtain ⟨_, _, ⟨T1, L1, k1, n1⟩, -, X1, ⟨Lc1, hQ1, l1, y1, z1⟩, st1⟩ := Jvm.LawKit.callS X0 hx (y := (⟨"java/lang/String", "valueOf", "(C)Ljava/lang/String;"⟩ : MethodName)) hown (mvT hZ (hw _ (List.mem_of_getElem? (i := 13) rfl))) (mvT hZ (hw _ (List.mem_of_getElem? (i := 14) rfl))) (mvT hZ (hw _ (List.mem_of_getElem? (i := 15) rfl))) (mvT hZ (hw _ (List.mem_of_getElem? (i := 16) rfl))) (by decide) (backOf (W := 0) (rm4 l Z a0 hw [] ((((xf.toUInt32 >>> ((8 : Int32) &&& 31).toUInt32).toInt32) &&& (255 : Int32)).toUInt32.toUInt16.toUInt32.toInt32) h0 n0 Z0 XO WW (own_mask _)) hZ (hw _ (List.mem_of_getElem? (i := 16) rfl)) (hw _ (List.mem_of_getElem? (i := 15) rfl)) (by decide) (by decide)) (g := (mkF m 9 #[.val (.int xf), .val xu, .unset, .unset, .unset, .unset, .unset, .unset] [(.int ((((xf.toUInt32 >>> ((8 : Int32) &&& 31).toUInt32).toInt32) &&& (255 : Int32)).toUInt32.toUInt16.toUInt32.toInt32))])) rfl (by rw [hml]; rfl) (argsL := [(.int ((((xf.toUInt32 >>> ((8 : Int32) &&& 31).toUInt32).toInt32) &&& (255 : Int32)).toUInt32.toUInt16.toUInt32.toInt32))]) (rest := []) (lenOf pd8_0 rfl) rfl (by show 2 * 0 + _ ≤ _; exact Nat.le_of_eq rfl) (hb hby d8_9) (fun _ _ => ⟨rfl, e0, (by decide : 0 + 2 ≤ _), (by decide : 0 + 5 ≤ _)⟩)
  dsimp only [Pt.U, Pt.locs, Pt.cells, Pt.slots] at X1 l1 y1 z1 st1 hQ1
  subst l1 y1 z1
  obtain ⟨c1, rfl, Nq1, K1, ge1⟩ := hQ1
  have N1 := Fr.app N0 Nq1
  refine own_go (fun t k => st1 t k) ?_
  have g_c1 : n0 ≤ c1 := Nat.le_trans Z0 ge1
  have sz_c1 : h0.size ≤ c1 := Nat.le_trans (Keep.refl h0 []).1 ge1
  have XO__1 := XO.keep K1 all0
  have KP1 := (Keep.refl h0 []).trans K1 all0
  have sz1 := Nat.le_trans Z0 K1.1
  show own_Go p e below _ (T1.setTop (mkF m 12 #[.val (.int xf), .val xu, .unset, .unset, .unset, .unset, .unset, .unset] [(.ref c1)]))
  refine own_go (fun t k => XS.astoreN X1.here hx rfl (hb hby d8_12) rfl rfl (l' := #[.val (.int xf), .val xu, .val (.ref c1), .unset, .unset, .unset, .unset, .unset]) rfl k) ?_
  have J24 : ∀ (jv24 : Value) (r_jv24 : jv24.isRef = true), own_Go p e below (fun o U' => ∃ v L, o = .returned v ∧ own_Q8 Z xu h0 n0 v U'.heap L ∧ FrameEnd s o U' L ({ frames := 3, cells := 3, slots := 11, locals := 41 } : Room).cells ({ frames := 3, cells := 3, slots := 11, locals := 41 } : Room).slots) (T1.setTop (mkF m 24 #[.val (.int xf), .val xu, .val (.ref c1), .unset, .unset, .unset, .unset, .unset] [jv24])) := by
    intro jv24 r_jv24
    show own_Go p e below _ (T1.setTop (mkF m 24 #[.val (.int xf), .val xu, .val (.ref c1), .unset, .unset, .unset, .unset, .unset] [jv24]))
    refine own_go (fun t k => XS.astoreN X1.here hx rfl (hb hby d8_24) rfl r_jv24 (l' := #[.val (.int xf), .val xu, .val (.ref c1), .val jv24, .unset, .unset, .unset, .unset]) (own_st1 rfl (Or.inl rfl) (own_cat1 r_jv24)) k) ?_
    have J36 : ∀ (jv36 : Value) (r_jv36 : jv36.isRef = true), own_Go p e below (fun o U' => ∃ v L, o = .returned v ∧ own_Q8 Z xu h0 n0 v U'.heap L ∧ FrameEnd s o U' L ({ frames := 3, cells := 3, slots := 11, locals := 41 } : Room).cells ({ frames := 3, cells := 3, slots := 11, locals := 41 } : Room).slots) (T1.setTop (mkF m 36 #[.val (.int xf), .val xu, .val (.ref c1), .val jv24, .unset, .unset, .unset, .unset] [jv36])) := by
      intro jv36 r_jv36
      show own_Go p e below _ (T1.setTop (mkF m 36 #[.val (.int xf), .val xu, .val (.ref c1), .val jv24, .unset, .unset, .unset, .unset] [jv36]))
      refine own_go (fun t k => XS.astore X1.here hx rfl (hb hby d8_36) rfl r_jv36 (l' := #[.val (.int xf), .val xu, .val (.ref c1), .val jv24, .val jv36, .unset, .unset, .unset]) (own_st1 rfl (Or.inl rfl) (own_cat1 r_jv36)) k) ?_
      have J49 : ∀ (jv49 : Value) (r_jv49 : jv49.isRef = true), own_Go p e below (fun o U' => ∃ v L, o = .returned v ∧ own_Q8 Z xu h0 n0 v U'.heap L ∧ FrameEnd s o U' L ({ frames := 3, cells := 3, slots := 11, locals := 41 } : Room).cells ({ frames := 3, cells := 3, slots := 11, locals := 41 } : Room).slots) (T1.setTop (mkF m 49 #[.val (.int xf), .val xu, .val (.ref c1), .val jv24, .val jv36, .unset, .unset, .unset] [jv49])) := by
        intro jv49 r_jv49
        show own_Go p e below _ (T1.setTop (mkF m 49 #[.val (.int xf), .val xu, .val (.ref c1), .val jv24, .val jv36, .unset, .unset, .unset] [jv49]))
        refine own_go (fun t k => XS.astore X1.here hx rfl (hb hby d8_49) rfl r_jv49 (l' := #[.val (.int xf), .val xu, .val (.ref c1), .val jv24, .val jv36, .val jv49, .unset, .unset]) (own_st1 rfl (Or.inl rfl) (own_cat1 r_jv49)) k) ?_
        have J63 : ∀ (jv63 : Value) (r_jv63 : jv63.isRef = true), own_Go p e below (fun o U' => ∃ v L, o = .returned v ∧ own_Q8 Z xu h0 n0 v U'.heap L ∧ FrameEnd s o U' L ({ frames := 3, cells := 3, slots := 11, locals := 41 } : Room).cells ({ frames := 3, cells := 3, slots := 11, locals := 41 } : Room).slots) (T1.setTop (mkF m 63 #[.val (.int xf), .val xu, .val (.ref c1), .val jv24, .val jv36, .val jv49, .unset, .unset] [jv63])) := by
          intro jv63 r_jv63
          show own_Go p e below _ (T1.setTop (mkF m 63 #[.val (.int xf), .val xu, .val (.ref c1), .val jv24, .val jv36, .val jv49, .unset, .unset] [jv63]))
          refine own_go (fun t k => XS.astore X1.here hx rfl (hb hby d8_63) rfl r_jv63 (l' := #[.val (.int xf), .val xu, .val (.ref c1), .val jv24, .val jv36, .val jv49, .val jv63, .unset]) (own_st1 rfl (Or.inl rfl) (own_cat1 r_jv63)) k) ?_
          show own_Go p e below _ (T1.setTop (mkF m 65 #[.val (.int xf), .val xu, .val (.ref c1), .val jv24, .val jv36, .val jv49, .val jv63, .unset] []))
          refine own_go (fun t k => XS.iloadN X1.here hx rfl (hb hby d8_65) rfl k) ?_
          show own_Go p e below _ (T1.setTop (mkF m 66 #[.val (.int xf), .val xu, .val (.ref c1), .val jv24, .val jv36, .val jv49, .val jv63, .unset] [(.int xf)]))
          refine own_go (fun t k => XS.iconst X1.here hx rfl (hb hby d8_66) k) ?_
          show own_Go p e below _ (T1.setTop (mkF m 67 #[.val (.int xf), .val xu, .val (.ref c1), .val jv24, .val jv36, .val jv49, .val jv63, .unset] [(.int (4 : Int32)), (.int xf)]))
          refine own_go (fun t k => XS.iushr X1.here hx rfl (hb hby d8_67) rfl k) ?_
          show own_Go p e below _ (T1.setTop (mkF m 68 #[.val (.int xf), .val xu, .val (.ref c1), .val jv24, .val jv36, .val jv49, .val jv63, .unset] [(.int ((xf.toUInt32 >>> ((4 : Int32) &&& 31).toUInt32).toInt32))]))
          refine own_go (fun t k => XS.iconst X1.here hx rfl (hb hby d8_68) k) ?_
          show own_Go p e below _ (T1.setTop (mkF m 69 #[.val (.int xf), .val xu, .val (.ref c1), .val jv24, .val jv36, .val jv49, .val jv63, .unset] [(.int (3 : Int32)), (.int ((xf.toUInt32 >>> ((4 : Int32) &&& 31).toUInt32).toInt32))]))
          refine own_go (fun t k => XS.iand X1.here hx rfl (hb hby d8_69) rfl k) ?_
          show own_Go p e below _ (T1.setTop (mkF m 70 #[.val (.int xf), .val xu, .val (.ref c1), .val jv24, .val jv36, .val jv49, .val jv63, .unset] [(.int (((xf.toUInt32 >>> ((4 : Int32) &&& 31).toUInt32).toInt32) &&& (3 : Int32)))]))
          obtain ⟨_, _, ⟨T6, L6, k6, n6⟩, -, X6, ⟨Lc6, hQ6, l6, y6, z6⟩, st6⟩ := Jvm.LawKit.callS X1 hx (y := (⟨"com/example/tariff_reader/tariffreader/text/QualifiersStatesUnitPinLaw", "direction", "(I)Lcom/example/tariff_reader/tariffreader/model/Direction;"⟩ : MethodName)) hown (mvT hZ (hw _ (List.mem_of_getElem? (i := 39) rfl))) (mvT hZ (hw _ (List.mem_of_getElem? (i := 40) rfl))) (mvT hZ (hw _ (List.mem_of_getElem? (i := 2) rfl))) (mvT hZ (hw _ (List.mem_of_getElem? (i := 41) rfl))) (by decide) (backOf (W := 0) (rm6 l Z a0 hw [] (((xf.toUInt32 >>> ((4 : Int32) &&& 31).toUInt32).toInt32) &&& (3 : Int32)) T1.heap n0 sz1 XO__1 WW) hZ (hw _ (List.mem_of_getElem? (i := 41) rfl)) (hw _ (List.mem_of_getElem? (i := 2) rfl)) (by decide) (by decide)) (g := (mkF m 70 #[.val (.int xf), .val xu, .val (.ref c1), .val jv24, .val jv36, .val jv49, .val jv63, .unset] [(.int (((xf.toUInt32 >>> ((4 : Int32) &&& 31).toUInt32).toInt32) &&& (3 : Int32)))])) rfl (by rw [hml]; rfl) (argsL := [(.int (((xf.toUInt32 >>> ((4 : Int32) &&& 31).toUInt32).toInt32) &&& (3 : Int32)))]) (rest := []) (lenOf pd8_1 rfl) rfl (by show 2 * 0 + _ ≤ _; exact Nat.le_of_eq rfl) (hb hby d8_70) (fun _ _ => ⟨rfl, rfl, (by decide : 0 + 2 + 0 ≤ _), (by decide : 0 + 5 + 0 ≤ _)⟩)
          dsimp only [Pt.U, Pt.locs, Pt.cells, Pt.slots] at X6 l6 y6 z6 st6 hQ6
          subst l6 y6 z6
          obtain ⟨w6, rfl, r_w6, Nq6, e6⟩ := hQ6
          have N6 := Fr.app N1 Nq6
          refine own_go (fun t k => st6 t k) ?_
          show own_Go p e below _ (T6.setTop (mkF m 73 #[.val (.int xf), .val xu, .val (.ref c1), .val jv24, .val jv36, .val jv49, .val jv63, .unset] [w6]))
          refine own_go (fun t k => XS.astore X6.here hx rfl (hb hby d8_73) rfl r_w6 (l' := #[.val (.int xf), .val xu, .val (.ref c1), .val jv24, .val jv36, .val jv49, .val jv63, .val w6]) (own_st1 rfl (Or.inl rfl) (own_cat1 r_w6)) k) ?_
          show own_Go p e below _ (T6.setTop (mkF m 75 #[.val (.int xf), .val xu, .val (.ref c1), .val jv24, .val jv36, .val jv49, .val jv63, .val w6] []))
          obtain ⟨T7, h7, X7, e7, E7, A7, D7, -, st7⟩ := newO X6 hx hZ hown (hw _ (List.mem_of_getElem? (i := 42) rfl)) (hw _ (List.mem_of_getElem? (i := 43) rfl)) (hw _ (List.mem_of_getElem? (i := 44) rfl)) e6 (g := (mkF m 75 #[.val (.int xf), .val xu, .val (.ref c1), .val jv24, .val jv36, .val jv49, .val jv63, .val w6] [])) rfl (hb hby d8_75) (by decide) (by decide)
          obtain ⟨b7, g7⟩ : ∃ z, z = T1.heap.size := ⟨_, rfl⟩
          rw [← g7] at A7 D7 st7
          have g_b7 : n0 ≤ b7 := Nat.le_trans sz1 (Nat.le_of_eq g7.symm)
          have sz_b7 : h0.size ≤ b7 := Nat.le_trans KP1.1 (Nat.le_of_eq g7.symm)
          have XO__7 := XO__1.ext E7
          have sz7 := Nat.le_trans sz1 E7.1
          have KP7 := KP1.ext E7
          have F7_area : Fld Z h7 b7 "com/example/tariff_reader/tariffreader/text/Qualifiers" "area" "Ljava/lang/String;" .null := D7 (Or.inr (hw _ (List.mem_of_getElem? (i := 50) rfl))) (ty := (.object "java/lang/String")) (by decide)
          have F7_schedule : Fld Z h7 b7 "com/example/tariff_reader/tariffreader/text/Qualifiers" "schedule" "Ljava/lang/String;" .null := D7 (Or.inr (hw _ (List.mem_of_getElem? (i := 52) rfl))) (ty := (.object "java/lang/String")) (by decide)
          have F7_traffic : Fld Z h7 b7 "com/example/tariff_reader/tariffreader/text/Qualifiers" "traffic" "Ljava/lang/String;" .null := D7 (Or.inr (hw _ (List.mem_of_getElem? (i := 54) rfl))) (ty := (.object "java/lang/String")) (by decide)
          have F7_direction : Fld Z h7 b7 "com/example/tariff_reader/tariffreader/text/Qualifiers" "direction" "Lcom/example/tariff_reader/tariffreader/model/Direction;" .null := D7 (Or.inr (hw _ (List.mem_of_getElem? (i := 56) rfl))) (ty := (.object "com/example/tariff_reader/tariffreader/model/Direction")) (by decide)
          have F7_band : Fld Z h7 b7 "com/example/tariff_reader/tariffreader/text/Qualifiers" "band" "Ljava/lang/String;" .null := D7 (Or.inr (hw _ (List.mem_of_getElem? (i := 58) rfl))) (ty := (.object "java/lang/String")) (by decide)
          have F7_unit : Fld Z h7 b7 "com/example/tariff_reader/tariffreader/text/Qualifiers" "unit" "Lcom/example/tariff_reader/tariffreader/model/Unit;" .null := D7 (Or.inr (hw _ (List.mem_of_getElem? (i := 60) rfl))) (ty := (.object "com/example/tariff_reader/tariffreader/model/Unit")) (by decide)
          refine own_go (fun t k => st7 t k) ?_
          show own_Go p e below _ (T7.setTop (mkF m 78 #[.val (.int xf), .val xu, .val (.ref c1), .val jv24, .val jv36, .val jv49, .val jv63, .val w6] [(.ref b7)]))
          refine own_go (fun t k => XS.dup X7.here hx rfl (hb hby d8_78) rfl rfl k) ?_
          show own_Go p e below _ (T7.setTop (mkF m 79 #[.val (.int xf), .val xu, .val (.ref c1), .val jv24, .val jv36, .val jv49, .val jv63, .val w6] [(.ref b7), (.ref b7)]))
          refine own_go (fun t k => XS.aloadN X7.here hx rfl (hb hby d8_79) rfl r_jv24 k) ?_
          show own_Go p e below _ (T7.setTop (mkF m 80 #[.val (.int xf), .val xu, .val (.ref c1), .val jv24, .val jv36, .val jv49, .val jv63, .val w6] [jv24, (.ref b7), (.ref b7)]))
          refine own_go (fun t k => XS.aload X7.here hx rfl (hb hby d8_80) rfl r_jv36 k) ?_
          show own_Go p e below _ (T7.setTop (mkF m 82 #[.val (.int xf), .val xu, .val (.ref c1), .val jv24, .val jv36, .val jv49, .val jv63, .val w6] [jv36, jv24, (.ref b7), (.ref b7)]))
          refine own_go (fun t k => XS.aload X7.here hx rfl (hb hby d8_82) rfl r_jv49 k) ?_
          show own_Go p e below _ (T7.setTop (mkF m 84 #[.val (.int xf), .val xu, .val (.ref c1), .val jv24, .val jv36, .val jv49, .val jv63, .val w6] [jv49, jv36, jv24, (.ref b7), (.ref b7)]))
          refine own_go (fun t k => XS.aload X7.here hx rfl (hb hby d8_84) rfl r_w6 k) ?_
          show own_Go p e below _ (T7.setTop (mkF m 86 #[.val (.int xf), .val xu, .val (.ref c1), .val jv24, .val jv36, .val jv49, .val jv63, .val w6] [w6, jv49, jv36, jv24, (.ref b7), (.ref b7)]))
          refine own_go (fun t k => XS.aload X7.here hx rfl (hb hby d8_86) rfl r_jv63 k) ?_
          show own_Go p e below _ (T7.setTop (mkF m 88 #[.val (.int xf), .val xu, .val (.ref c1), .val jv24, .val jv36, .val jv49, .val jv63, .val w6] [jv63, w6, jv49, jv36, jv24, (.ref b7), (.ref b7)]))
          refine own_go (fun t k => XS.aloadN X7.here hx rfl (hb hby d8_88) rfl r_xu k) ?_
          show own_Go p e below _ (T7.setTop (mkF m 89 #[.val (.int xf), .val xu, .val (.ref c1), .val jv24, .val jv36, .val jv49, .val jv63, .val w6] [xu, jv63, w6, jv49, jv36, jv24, (.ref b7), (.ref b7)]))
          obtain ⟨_, _, ⟨T8, L8, k8, n8⟩, -, X8, ⟨Lc8, hQ8, l8, y8, z8⟩, st8⟩ := X7.specialBack hx (y := (⟨"com/example/tariff_reader/tariffreader/text/Qualifiers", "<init>", "(Ljava/lang/String;Ljava/lang/String;Ljava/lang/String;Lcom/example/tariff_reader/tariffreader/model/Direction;Ljava/lang/String;Lcom/example/tariff_reader/tariffreader/model/Unit;)V"⟩ : MethodName)) rfl hown (mvT hZ (hw _ (List.mem_of_getElem? (i := 45) rfl))) (mvT hZ (hw _ (List.mem_of_getElem? (i := 46) rfl))) (mvT hZ (hw _ (List.mem_of_getElem? (i := 47) rfl))) (by decide) (backOf (W := 1) (rm7 l Z a0 hw [] b7 jv24 jv36 jv49 w6 jv63 xu h7 n0 sz7 ⟨A7, F7_area, F7_schedule, F7_traffic, F7_direction, F7_band, F7_unit⟩ g_b7 r_jv24 r_jv36 r_jv49 r_w6 r_jv63 r_xu) hZ (hw _ (List.mem_of_getElem? (i := 47) rfl)) (hw _ (List.mem_of_getElem? (i := 44) rfl)) (by decide) (by decide)) (g := (mkF m 89 #[.val (.int xf), .val xu, .val (.ref c1), .val jv24, .val jv36, .val jv49, .val jv63, .val w6] [xu, jv63, w6, jv49, jv36, jv24, (.ref b7), (.ref b7)])) rfl (by rw [hml]; rfl) (Steps.refl _) (a := b7) (argsL := [jv24, jv36, jv49, w6, jv63, xu]) (rest := [(.ref b7)]) (lenOf pd8_2 rfl) rfl (by show 2 * 0 + _ ≤ _; exact Nat.le_of_eq rfl) (hb hby d8_89) (fun _ _ => ⟨rfl, e7, (by decide : 0 + 2 + 1 + 0 ≤ _), (by decide : 0 + 5 + 6 + 0 ≤ _)⟩)
          dsimp only [Pt.U, Pt.locs, Pt.cells, Pt.slots] at X8 l8 y8 z8 st8 hQ8
          subst l8 y8 z8
          obtain ⟨rfl, Nq8, K8, G8⟩ := hQ8
          have N8 := Fr.app N6 Nq8
          refine own_go (fun t k => st8.trans k) ?_
          have XO__8 := XO__7.keep K8 (allS g_b7 all0)
          have A7__8 := A7.keep K8
          have KP8 := KP7.trans K8 (allS (Or.inr sz_b7) all0)
          have sz8 := Nat.le_trans sz7 K8.1
          show own_Go p e below _ (T8.setTop (mkF m 92 #[.val (.int xf), .val xu, .val (.ref c1), .val jv24, .val jv36, .val jv49, .val jv63, .val w6] [(.ref b7)]))
          exact own_retA X8 hx Bd.returns rfl rfl (hb hby d8_92) (⟨_, _, _, _, _, _, rfl, N8, KP8, sz_b7, G8, r_jv24, r_jv36, r_jv49, r_w6, r_jv63⟩) (by decide) (by decide)
        show own_Go p e below _ (T1.setTop (mkF m 51 #[.val (.int xf), .val xu, .val (.ref c1), .val jv24, .val jv36, .val jv49, .unset, .unset] []))
        refine own_go (fun t k => XS.iloadN X1.here hx rfl (hb hby d8_51) rfl k) ?_
        show own_Go p e below _ (T1.setTop (mkF m 52 #[.val (.int xf), .val xu, .val (.ref c1), .val jv24, .val jv36, .val jv49, .unset, .unset] [(.int xf)]))
        refine own_go (fun t k => XS.bipush X1.here hx rfl (hb hby d8_52) k) ?_
        show own_Go p e below _ (T1.setTop (mkF m 54 #[.val (.int xf), .val xu, .val (.ref c1), .val jv24, .val jv36, .val jv49, .unset, .unset] [(.int (8 : Int32)), (.int xf)]))
        refine own_go (fun t k => XS.iand X1.here hx rfl (hb hby d8_54) rfl k) ?_
        show own_Go p e below _ (T1.setTop (mkF m 55 #[.val (.int xf), .val xu, .val (.ref c1), .val jv24, .val jv36, .val jv49, .unset, .unset] [(.int (xf &&& (8 : Int32)))]))
        by_cases hc55 : (xf &&& (8 : Int32)) = (0 : Int32)
        · refine own_go (fun t k => XS.ifYes X1.here hx rfl (pc0 := 55) (pc' := 62) rfl (hb hby d8_55) rfl ((if0 _ _).trans (teq hc55).1) (by decide) (by decide) k) ?_
          show own_Go p e below _ (T1.setTop (mkF m 62 #[.val (.int xf), .val xu, .val (.ref c1), .val jv24, .val jv36, .val jv49, .unset, .unset] []))
          refine own_go (fun t k => XS.aconstNull X1.here hx rfl (hb hby d8_62) k) ?_
          exact J63 _ rfl
        · refine own_go (fun t k => XS.ifNo X1.here hx rfl (hb hby d8_55) rfl ((if0 _ _).trans (feq hc55).1) k) ?_
          show own_Go p e below _ (T1.setTop (mkF m 58 #[.val (.int xf), .val xu, .val (.ref c1), .val jv24, .val jv36, .val jv49, .unset, .unset] []))
          refine own_go (fun t k => XS.aloadN X1.here hx rfl (hb hby d8_58) rfl rfl k) ?_
          show own_Go p e below _ (T1.setTop (mkF m 59 #[.val (.int xf), .val xu, .val (.ref c1), .val jv24, .val jv36, .val jv49, .unset, .unset] [(.ref c1)]))
          refine own_go (fun t k => XS.goto X1.here hx rfl (pc0 := 59) (pc' := 63) rfl (hb hby d8_59) (by decide) (by decide) k) ?_
          exact J63 _ rfl
      show own_Go p e below _ (T1.setTop (mkF m 38 #[.val (.int xf), .val xu, .val (.ref c1), .val jv24, .val jv36, .unset, .unset, .unset] []))
      refine own_go (fun t k => XS.iloadN X1.here hx rfl (hb hby d8_38) rfl k) ?_
      show own_Go p e below _ (T1.setTop (mkF m 39 #[.val (.int xf), .val xu, .val (.ref c1), .val jv24, .val jv36, .unset, .unset, .unset] [(.int xf)]))
      refine own_go (fun t k => XS.iconst X1.here hx rfl (hb hby d8_39) k) ?_
      show own_Go p e below _ (T1.setTop (mkF m 40 #[.val (.int xf), .val xu, .val (.ref c1), .val jv24, .val jv36, .unset, .unset, .unset] [(.int (4 : Int32)), (.int xf)]))
      refine own_go (fun t k => XS.iand X1.here hx rfl (hb hby d8_40) rfl k) ?_
      show own_Go p e below _ (T1.setTop (mkF m 41 #[.val (.int xf), .val xu, .val (.ref c1), .val jv24, .val jv36, .unset, .unset, .unset] [(.int (xf &&& (4 : Int32)))]))
      by_cases hc41 : (xf &&& (4 : Int32)) = (0 : Int32)
      · refine own_go (fun t k => XS.ifYes X1.here hx rfl (pc0 := 41) (pc' := 48) rfl (hb hby d8_41) rfl ((if0 _ _).trans (teq hc41).1) (by decide) (by decide) k) ?_
        show own_Go p e below _ (T1.setTop (mkF m 48 #[.val (.int xf), .val xu, .val (.ref c1), .val jv24, .val jv36, .unset, .unset, .unset] []))
        refine own_go (fun t k => XS.aconstNull X1.here hx rfl (hb hby d8_48) k) ?_
        exact J49 _ rfl
      · refine own_go (fun t k => XS.ifNo X1.here hx rfl (hb hby d8_41) rfl ((if0 _ _).trans (feq hc41).1) k) ?_
        show own_Go p e below _ (T1.setTop (mkF m 44 #[.val (.int xf), .val xu, .val (.ref c1), .val jv24, .val jv36, .unset, .unset, .unset] []))
        refine own_go (fun t k => XS.aloadN X1.here hx rfl (hb hby d8_44) rfl rfl k) ?_
        show own_Go p e below _ (T1.setTop (mkF m 45 #[.val (.int xf), .val xu, .val (.ref c1), .val jv24, .val jv36, .unset, .unset, .unset] [(.ref c1)]))
        refine own_go (fun t k => XS.goto X1.here hx rfl (pc0 := 45) (pc' := 49) rfl (hb hby d8_45) (by decide) (by decide) k) ?_
        exact J49 _ rfl
    show own_Go p e below _ (T1.setTop (mkF m 25 #[.val (.int xf), .val xu, .val (.ref c1), .val jv24, .unset, .unset, .unset, .unset] []))
    refine own_go (fun t k => XS.iloadN X1.here hx rfl (hb hby d8_25) rfl k) ?_
    show own_Go p e below _ (T1.setTop (mkF m 26 #[.val (.int xf), .val xu, .val (.ref c1), .val jv24, .unset, .unset, .unset, .unset] [(.int xf)]))
    refine own_go (fun t k => XS.iconst X1.here hx rfl (hb hby d8_26) k) ?_
    show own_Go p e below _ (T1.setTop (mkF m 27 #[.val (.int xf), .val xu, .val (.ref c1), .val jv24, .unset, .unset, .unset, .unset] [(.int (2 : Int32)), (.int xf)]))
    refine own_go (fun t k => XS.iand X1.here hx rfl (hb hby d8_27) rfl k) ?_
    show own_Go p e below _ (T1.setTop (mkF m 28 #[.val (.int xf), .val xu, .val (.ref c1), .val jv24, .unset, .unset, .unset, .unset] [(.int (xf &&& (2 : Int32)))]))
    by_cases hc28 : (xf &&& (2 : Int32)) = (0 : Int32)
    · refine own_go (fun t k => XS.ifYes X1.here hx rfl (pc0 := 28) (pc' := 35) rfl (hb hby d8_28) rfl ((if0 _ _).trans (teq hc28).1) (by decide) (by decide) k) ?_
      show own_Go p e below _ (T1.setTop (mkF m 35 #[.val (.int xf), .val xu, .val (.ref c1), .val jv24, .unset, .unset, .unset, .unset] []))
      refine own_go (fun t k => XS.aconstNull X1.here hx rfl (hb hby d8_35) k) ?_
      exact J36 _ rfl
    · refine own_go (fun t k => XS.ifNo X1.here hx rfl (hb hby d8_28) rfl ((if0 _ _).trans (feq hc28).1) k) ?_
      show own_Go p e below _ (T1.setTop (mkF m 31 #[.val (.int xf), .val xu, .val (.ref c1), .val jv24, .unset, .unset, .unset, .unset] []))
      refine own_go (fun t k => XS.aloadN X1.here hx rfl (hb hby d8_31) rfl rfl k) ?_
      show own_Go p e below _ (T1.setTop (mkF m 32 #[.val (.int xf), .val xu, .val (.ref c1), .val jv24, .unset, .unset, .unset, .unset] [(.ref c1)]))
      refine own_go (fun t k => XS.goto X1.here hx rfl (pc0 := 32) (pc' := 36) rfl (hb hby d8_32) (by decide) (by decide) k) ?_
      exact J36 _ rfl
  show own_Go p e below _ (T1.setTop (mkF m 13 #[.val (.int xf), .val xu, .val (.ref c1), .unset, .unset, .unset, .unset, .unset] []))
  refine own_go (fun t k => XS.iloadN X1.here hx rfl (hb hby d8_13) rfl k) ?_
  show own_Go p e below _ (T1.setTop (mkF m 14 #[.val (.int xf), .val xu, .val (.ref c1), .unset, .unset, .unset, .unset, .unset] [(.int xf)]))
  refine own_go (fun t k => XS.iconst X1.here hx rfl (hb hby d8_14) k) ?_
  show own_Go p e below _ (T1.setTop (mkF m 15 #[.val (.int xf), .val xu, .val (.ref c1), .unset, .unset, .unset, .unset, .unset] [(.int (1 : Int32)), (.int xf)]))
  refine own_go (fun t k => XS.iand X1.here hx rfl (hb hby d8_15) rfl k) ?_
  show own_Go p e below _ (T1.setTop (mkF m 16 #[.val (.int xf), .val xu, .val (.ref c1), .unset, .unset, .unset, .unset, .unset] [(.int (xf &&& (1 : Int32)))]))
  by_cases hc16 : (xf &&& (1 : Int32)) = (0 : Int32)
  · refine own_go (fun t k => XS.ifYes X1.here hx rfl (pc0 := 16) (pc' := 23) rfl (hb hby d8_16) rfl ((if0 _ _).trans (teq hc16).1) (by decide) (by decide) k) ?_
    show own_Go p e below _ (T1.setTop (mkF m 23 #[.val (.int xf), .val xu, .val (.ref c1), .unset, .unset, .unset, .unset, .unset] []))
    refine own_go (fun t k => XS.aconstNull X1.here hx rfl (hb hby d8_23) k) ?_
    exact J24 _ rfl
  · refine own_go (fun t k => XS.ifNo X1.here hx rfl (hb hby d8_16) rfl ((if0 _ _).trans (feq hc16).1) k) ?_
    show own_Go p e below _ (T1.setTop (mkF m 19 #[.val (.int xf), .val xu, .val (.ref c1), .unset, .unset, .unset, .unset, .unset] []))
    refine own_go (fun t k => XS.aloadN X1.here hx rfl (hb hby d8_19) rfl rfl k) ?_
    show own_Go p e below _ (T1.setTop (mkF m 20 #[.val (.int xf), .val xu, .val (.ref c1), .unset, .unset, .unset, .unset, .unset] [(.ref c1)]))
    refine own_go (fun t k => XS.goto X1.here hx rfl (pc0 := 20) (pc' := 24) rfl (hb hby d8_20) (by decide) (by decide) k) ?_
    exact J24 _ rfl
theorem d9_0 : decode prog_63_method_4_code 0 = .ok (.aload_n 0, 1) := by decide +kernel
theorem d9_1 : decode prog_63_method_4_code 1 = .ok (.getfield 26, 3) := by decide +kernel
theorem d9_4 : decode prog_63_method_4_code 4 = .ok (.ifnull 7, 3) := by decide +kernel
theorem d9_7 : decode prog_63_method_4_code 7 = .ok (.iconst 1, 1) := by decide +kernel
theorem d9_8 : decode prog_63_method_4_code 8 = .ok (.goto 4, 3) := by decide +kernel
theorem d9_11 : decode prog_63_method_4_code 11 = .ok (.iconst 0, 1) := by decide +kernel
theorem d9_12 : decode prog_63_method_4_code 12 = .ok (.ireturn, 1) := by decide +kernel
theorem pn9 : plainName "com/example/tariff_reader/tariffreader/text/Qualifiers" = true := by first | (simp [plainName, overriddenIn]; done) | decide +kernel
theorem ef9 (m : MethodId) (x0 : Addr) : entryFrame m #[(.ref x0)] 1 = mkF m 0 #[.val (.ref x0)] [] := by first | (simp [entryFrame, mkF, argsToLocals, Value.category]; done) | rfl
def own_Q9 (u : Value) (h0 : Heap) (n0 : Nat) (v : Option Value) (h : Heap) (L : List Loc) : Prop := v = some (.int (own_nn u)) ∧ Fr n0 L ∧ h = h0
set_option maxRecDepth 65536 in
set_option maxHeartbeats 40000000 in
theorem rm9 (l : Launch) (Z : State) (a0 : Array Value) (hw : ∀ d ∈ tables_1, d.before a0 Z = true) (ws : List Jvm.Cond) (oa : Addr) (xu : Value) (h0 : Heap) (n0 : Nat) (Z0 : n0 ≤ h0.size) (Fu : Fld Z h0 oa "com/example/tariff_reader/tariffreader/text/Qualifiers" "unit" "Lcom/example/tariff_reader/tariffreader/model/Unit;" xu) (r_xu : xu.isRef = true) :
    MetFree l (⟨"com/example/tariff_reader/tariffreader/text/Qualifiers", "statesUnit", "()Z"⟩ : MethodName) (head1 (Jvm.Cond.code (⟨"com/example/tariff_reader/tariffreader/text/Qualifiers", "statesUnit", "()Z"⟩ : MethodName) prog_63_method_4_code 1 (some .boolean) :: ws) ({ frames := 0, cells := 0, slots := 0, locals := 0 } : Room)) (fun a U => a = #[(.ref oa)] ∧ Z.Warmed39 U.vm ∧ U.heap = h0) (fun _ _ _ _ _ => True) (fun _ U o U' => ∃ v L, o = .returned v ∧ own_Q9 xu h0 n0 v U'.heap L ∧ FrameEnd U o U' L ({ frames := 0, cells := 0, slots := 0, locals := 0 } : Room).cells ({ frames := 0, cells := 0, slots := 0, locals := 0 } : Room).slots) := by
  refine MetFree.of_bodySF (plainFor_of_name pn9) hisR ?_
  intro p e s m args below meth c s₁ Bd hml0 hP hK
  obtain ⟨rfl, hZ, hh⟩ := hP
  have hx := Bd.exec
  have hby := Bd.bytes
  have hml : c.maxLocals = 1 := hml0
  have hown : s.vm.findClass "com/example/tariff_reader/tariffreader/text/Qualifiers" = some m.cls := findClass_of_methodNamed Bd.named
  have hnm := (name_of_methodNamed Bd.named Bd.method).1
  have hlk : meth.locks = false := Bd.notSynchronized
  have X0 : Stand p l e ({ frames := 0, cells := 0, slots := 0, locals := 0 } : Room) s m #[(.ref oa)] below meth c s₁ [] 0 0 := Stand.of_body Bd
  have e0 : s₁.heap = h0 := by rw [← hh, Bd.state]; rfl
  have N0 := Fr.nil n0
  refine own_go (fun t k => castTop (ef9 m oa) k) ?_
  show own_Go p e below _ (s₁.setTop (mkF m 0 #[.val (.ref oa)] []))
  refine own_go (fun t k => XS.aloadN X0.here hx rfl (hb hby d9_0) rfl rfl k) ?_
  show own_Go p e below _ (s₁.setTop (mkF m 1 #[.val (.ref oa)] [(.ref oa)]))
  obtain ⟨T1, X1, e1, st1⟩ := getF X0 hx hZ hown (host := "") (Or.inl (hw _ (List.mem_of_getElem? (i := 59) rfl))) Via.refl e0 Fu (g := (mkF m 1 #[.val (.ref oa)] [(.ref oa)])) rfl rfl (hb hby d9_1)
  refine own_go (fun t k => st1 t k) ?_
  show own_Go p e below _ (T1.setTop (mkF m 4 #[.val (.ref oa)] [xu]))
  rcases ref_cases r_xu with rfl | ⟨a_xu, rfl⟩
  · refine own_go (fun t k => XS.ifnullYes X1.here hx rfl (pc0 := 4) (pc' := 11) rfl (hb hby d9_4) rfl (by decide) (by decide) k) ?_
    show own_Go p e below _ (T1.setTop (mkF m 11 #[.val (.ref oa)] []))
    refine own_go (fun t k => XS.iconst X1.here hx rfl (hb hby d9_11) k) ?_
    show own_Go p e below _ (T1.setTop (mkF m 12 #[.val (.ref oa)] [(.int (0 : Int32))]))
    exact own_retN X1 hx (t := .boolean) Bd.returns (by simp) (hb hby d9_12) (by rw [e1]; exact ⟨rfl, N0, rfl⟩) (by decide) (by decide)
  · refine own_go (fun t k => XS.ifnullNo X1.here hx rfl (hb hby d9_4) rfl k) ?_
    show own_Go p e below _ (T1.setTop (mkF m 7 #[.val (.ref oa)] []))
    refine own_go (fun t k => XS.iconst X1.here hx rfl (hb hby d9_7) k) ?_
    show own_Go p e below _ (T1.setTop (mkF m 8 #[.val (.ref oa)] [(.int (1 : Int32))]))
    refine own_go (fun t k => XS.goto X1.here hx rfl (pc0 := 8) (pc' := 12) rfl (hb hby d9_8) (by decide) (by decide) k) ?_
    show own_Go p e below _ (T1.setTop (mkF m 12 #[.val (.ref oa)] [(.int (1 : Int32))]))
    exact own_retN X1 hx (t := .boolean) Bd.returns (by simp) (hb hby d9_12) (by rw [e1]; exact ⟨rfl, N0, rfl⟩) (by decide) (by decide)
theorem d10_0 : decode prog_63_method_2_code 0 = .ok (.new 8, 3) := by decide +kernel
theorem d10_3 : decode prog_63_method_2_code 3 = .ok (.dup, 1) := by decide +kernel
theorem d10_4 : decode prog_63_method_2_code 4 = .ok (.aload_n 0, 1) := by decide +kernel
theorem d10_5 : decode prog_63_method_2_code 5 = .ok (.getfield 7, 3) := by decide +kernel
theorem d10_8 : decode prog_63_method_2_code 8 = .ok (.ifnull 10, 3) := by decide +kernel
theorem d10_11 : decode prog_63_method_2_code 11 = .ok (.aload_n 0, 1) := by decide +kernel
theorem d10_12 : decode prog_63_method_2_code 12 = .ok (.getfield 7, 3) := by decide +kernel
theorem d10_15 : decode prog_63_method_2_code 15 = .ok (.goto 7, 3) := by decide +kernel
theorem d10_18 : decode prog_63_method_2_code 18 = .ok (.aload_n 1, 1) := by decide +kernel
theorem d10_19 : decode prog_63_method_2_code 19 = .ok (.getfield 7, 3) := by decide +kernel
theorem d10_22 : decode prog_63_method_2_code 22 = .ok (.aload_n 0, 1) := by decide +kernel
theorem d10_23 : decode prog_63_method_2_code 23 = .ok (.getfield 13, 3) := by decide +kernel
theorem d10_26 : decode prog_63_method_2_code 26 = .ok (.ifnull 10, 3) := by decide +kernel
theorem d10_29 : decode prog_63_method_2_code 29 = .ok (.aload_n 0, 1) := by decide +kernel
theorem d10_30 : decode prog_63_method_2_code 30 = .ok (.getfield 13, 3) := by decide +kernel
theorem d10_33 : decode prog_63_method_2_code 33 = .ok (.goto 7, 3) := by decide +kernel
theorem d10_36 : decode prog_63_method_2_code 36 = .ok (.aload_n 1, 1) := by decide +kernel
theorem d10_37 : decode prog_63_method_2_code 37 = .ok (.getfield 13, 3) := by decide +kernel
theorem d10_40 : decode prog_63_method_2_code 40 = .ok (.aload_n 0, 1) := by decide +kernel
theorem d10_41 : decode prog_63_method_2_code 41 = .ok (.getfield 16, 3) := by decide +kernel
theorem d10_44 : decode prog_63_method_2_code 44 = .ok (.ifnull 10, 3) := by decide +kernel
theorem d10_47 : decode prog_63_method_2_code 47 = .ok (.aload_n 0, 1) := by decide +kernel
theorem d10_48 : decode prog_63_method_2_code 48 = .ok (.getfield 16, 3) := by decide +kernel
theorem d10_51 : decode prog_63_method_2_code 51 = .ok (.goto 7, 3) := by decide +kernel
theorem d10_54 : decode prog_63_method_2_code 54 = .ok (.aload_n 1, 1) := by decide +kernel
theorem d10_55 : decode prog_63_method_2_code 55 = .ok (.getfield 16, 3) := by decide +kernel
theorem d10_58 : decode prog_63_method_2_code 58 = .ok (.aload_n 0, 1) := by decide +kernel
theorem d10_59 : decode prog_63_method_2_code 59 = .ok (.getfield 19, 3) := by decide +kernel
theorem d10_62 : decode prog_63_method_2_code 62 = .ok (.ifnull 10, 3) := by decide +kernel
theorem d10_65 : decode prog_63_method_2_code 65 = .ok (.aload_n 0, 1) := by decide +kernel
theorem d10_66 : decode prog_63_method_2_code 66 = .ok (.getfield 19, 3) := by decide +kernel
theorem d10_69 : decode prog_63_method_2_code 69 = .ok (.goto 7, 3) := by decide +kernel
theorem d10_72 : decode prog_63_method_2_code 72 = .ok (.aload_n 1, 1) := by decide +kernel
theorem d10_73 : decode prog_63_method_2_code 73 = .ok (.getfield 19, 3) := by decide +kernel
theorem d10_76 : decode prog_63_method_2_code 76 = .ok (.aload_n 0, 1) := by decide +kernel
theorem d10_77 : decode prog_63_method_2_code 77 = .ok (.getfield 23, 3) := by decide +kernel
theorem d10_80 : decode prog_63_method_2_code 80 = .ok (.ifnull 10, 3) := by decide +kernel
theorem d10_83 : decode prog_63_method_2_code 83 = .ok (.aload_n 0, 1) := by decide +kernel
theorem d10_84 : decode prog_63_method_2_code 84 = .ok (.getfield 23, 3) := by decide +kernel
theorem d10_87 : decode prog_63_method_2_code 87 = .ok (.goto 7, 3) := by decide +kernel
theorem d10_90 : decode prog_63_method_2_code 90 = .ok (.aload_n 1, 1) := by decide +kernel
theorem d10_91 : decode prog_63_method_2_code 91 = .ok (.getfield 23, 3) := by decide +kernel
theorem d10_94 : decode prog_63_method_2_code 94 = .ok (.aload_n 0, 1) := by decide +kernel
theorem d10_95 : decode prog_63_method_2_code 95 = .ok (.getfield 26, 3) := by decide +kernel
theorem d10_98 : decode prog_63_method_2_code 98 = .ok (.ifnull 10, 3) := by decide +kernel
theorem d10_101 : decode prog_63_method_2_code 101 = .ok (.aload_n 0, 1) := by decide +kernel
theorem d10_102 : decode prog_63_method_2_code 102 = .ok (.getfield 26, 3) := by decide +kernel
theorem d10_105 : decode prog_63_method_2_code 105 = .ok (.goto 7, 3) := by decide +kernel
theorem d10_108 : decode prog_63_method_2_code 108 = .ok (.aload_n 1, 1) := by decide +kernel
theorem d10_109 : decode prog_63_method_2_code 109 = .ok (.getfield 26, 3) := by decide +kernel
theorem d10_112 : decode prog_63_method_2_code 112 = .ok (.invokespecial 30, 3) := by decide +kernel
theorem d10_115 : decode prog_63_method_2_code 115 = .ok (.areturn, 1) := by decide +kernel
theorem pn10 : plainName "com/example/tariff_reader/tariffreader/text/Qualifiers" = true := by first | (simp [plainName, overriddenIn]; done) | decide +kernel
theorem pd10_0 : parseMethodDescriptor "(Ljava/lang/String;Ljava/lang/String;Ljava/lang/String;Lcom/example/tariff_reader/tariffreader/model/Direction;Ljava/lang/String;Lcom/example/tariff_reader/tariffreader/model/Unit;)V" = some ⟨[(.object "java/lang/String"), (.object "java/lang/String"), (.object "java/lang/String"), (.object "com/example/tariff_reader/tariffreader/model/Direction"), (.object "java/lang/String"), (.object "com/example/tariff_reader/tariffreader/model/Unit")], none⟩ := by decide +kernel
theorem ef10 (m : MethodId) (x0 : Addr) (x1 : Addr) : entryFrame m #[(.ref x0), (.ref x1)] 2 = mkF m 0 #[.val (.ref x0), .val (.ref x1)] [] := by first | (simp [entryFrame, mkF, argsToLocals, Value.category]; done) | rfl
def own_Q10 (Z : State) (x6 y6 : Value) (h0 : Heap) (n0 : Nat) (v : Option Value) (h : Heap) (L : List Loc) : Prop := ∃ (b : Addr) (v1 v2 v3 v4 v5 : Value), v = some (.ref b) ∧ Fr n0 L ∧ Keep h0 h [] ∧ h0.size ≤ b ∧ own_Ql Z h b v1 v2 v3 v4 v5 (own_or x6 y6)
set_option maxRecDepth 65536 in
set_option maxHeartbeats 40000000 in
theorem rm10 (l : Launch) (Z : State) (a0 : Array Value) (hw : ∀ d ∈ tables_1, d.before a0 Z = true) (ws : List Jvm.Cond) (oa ob : Addr) (x1 x2 x3 x4 x5 x6 y1 y2 y3 y4 y5 y6 : Value) (h0 : Heap) (n0 : Nat) (Z0 : n0 ≤ h0.size) (Ga : own_Ql Z h0 oa x1 x2 x3 x4 x5 x6) (Gb : own_Ql Z h0 ob y1 y2 y3 y4 y5 y6) (r_x1 : x1.isRef = true) (r_x2 : x2.isRef = true) (r_x3 : x3.isRef = true) (r_x4 : x4.isRef = true) (r_x5 : x5.isRef = true) (r_x6 : x6.isRef = true) (r_y1 : y1.isRef = true) (r_y2 : y2.isRef = true) (r_y3 : y3.isRef = true) (r_y4 : y4.isRef = true) (r_y5 : y5.isRef = true) (r_y6 : y6.isRef = true) :
    MetFree l (⟨"com/example/tariff_reader/tariffreader/text/Qualifiers", "orElse", "(Lcom/example/tariff_reader/tariffreader/text/Qualifiers;)Lcom/example/tariff_reader/tariffreader/text/Qualifiers;"⟩ : MethodName) (head1 (Jvm.Cond.code (⟨"com/example/tariff_reader/tariffreader/text/Qualifiers", "orElse", "(Lcom/example/tariff_reader/tariffreader/text/Qualifiers;)Lcom/example/tariff_reader/tariffreader/text/Qualifiers;"⟩ : MethodName) prog_63_method_2_code 2 (some (.object "com/example/tariff_reader/tariffreader/text/Qualifiers")) :: ws) ({ frames := 2, cells := 1, slots := 6, locals := 32 } : Room)) (fun a U => a = #[(.ref oa), (.ref ob)] ∧ Z.Warmed39 U.vm ∧ U.heap = h0) (fun _ _ _ _ _ => True) (fun _ U o U' => ∃ v L, o = .returned v ∧ own_Q10 Z x6 y6 h0 n0 v U'.heap L ∧ FrameEnd U o U' L ({ frames := 2, cells := 1, slots := 6, locals := 32 } : Room).cells ({ frames := 2, cells := 1, slots := 6, locals := 32 } : Room).slots) := by
  refine MetFree.of_bodySF (plainFor_of_name pn10) hisR ?_
  intro p e s m args below meth c s₁ Bd hml0 hP hK
  obtain ⟨rfl, hZ, hh⟩ := hP
  have hx := Bd.exec
  have hby := Bd.bytes
  have hml : c.maxLocals = 2 := hml0
  have hown : s.vm.findClass "com/example/tariff_reader/tariffreader/text/Qualifiers" = some m.cls := findClass_of_methodNamed Bd.named
  have hnm := (name_of_methodNamed Bd.named Bd.method).1
  have hlk : meth.locks = false := Bd.notSynchronized
  have X0 : Stand p l e ({ frames := 2, cells := 1, slots := 6, locals := 32 } : Room) s m #[(.ref oa), (.ref ob)] below meth c s₁ [] 0 0 := Stand.of_body Bd
  have e0 : s₁.heap = h0 := by rw [← hh, Bd.state]; rfl
  have N0 := Fr.nil n0
  refine own_go (fun t k => castTop (ef10 m oa ob) k) ?_
  show own_Go p e below _ (s₁.setTop (mkF m 0 #[.val (.ref oa), .val (.ref ob)] []))
  obtain ⟨T1, h1, X1, e1, E1, A1, D1, -, st1⟩ := newO X0 hx hZ hown (hw _ (List.mem_of_getElem? (i := 71) rfl)) (hw _ (List.mem_of_getElem? (i := 43) rfl)) (hw _ (List.mem_of_getElem? (i := 44) rfl)) e0 (g := (mkF m 0 #[.val (.ref oa), .val (.ref ob)] [])) rfl (hb hby d10_0) (by decide) (by decide)
  obtain ⟨b1, g1⟩ : ∃ z, z = h0.size := ⟨_, rfl⟩
  rw [← g1] at A1 D1 st1
  have g_b1 : n0 ≤ b1 := Nat.le_trans Z0 (Nat.le_of_eq g1.symm)
  have sz_b1 : h0.size ≤ b1 := Nat.le_trans (Keep.refl h0 []).1 (Nat.le_of_eq g1.symm)
  have ne_oa_b1 : oa ≠ b1 := Nat.ne_of_lt (Nat.lt_of_lt_of_le Ga.1.lt (Nat.le_of_eq g1.symm))
  have ne_ob_b1 : ob ≠ b1 := Nat.ne_of_lt (Nat.lt_of_lt_of_le Gb.1.lt (Nat.le_of_eq g1.symm))
  have Ga__1 := Ga.ext E1
  have Gb__1 := Gb.ext E1
  have sz1 := Nat.le_trans Z0 E1.1
  have KP1 := (Keep.refl h0 []).ext E1
  have F1_area : Fld Z h1 b1 "com/example/tariff_reader/tariffreader/text/Qualifiers" "area" "Ljava/lang/String;" .null := D1 (Or.inr (hw _ (List.mem_of_getElem? (i := 50) rfl))) (ty := (.object "java/lang/String")) (by decide)
  have F1_schedule : Fld Z h1 b1 "com/example/tariff_reader/tariffreader/text/Qualifiers" "schedule" "Ljava/lang/String;" .null := D1 (Or.inr (hw _ (List.mem_of_getElem? (i := 52) rfl))) (ty := (.object "java/lang/String")) (by decide)
  have F1_traffic : Fld Z h1 b1 "com/example/tariff_reader/tariffreader/text/Qualifiers" "traffic" "Ljava/lang/String;" .null := D1 (Or.inr (hw _ (List.mem_of_getElem? (i := 54) rfl))) (ty := (.object "java/lang/String")) (by decide)
  have F1_direction : Fld Z h1 b1 "com/example/tariff_reader/tariffreader/text/Qualifiers" "direction" "Lcom/example/tariff_reader/tariffreader/model/Direction;" .null := D1 (Or.inr (hw _ (List.mem_of_getElem? (i := 56) rfl))) (ty := (.object "com/example/tariff_reader/tariffreader/model/Direction")) (by decide)
  have F1_band : Fld Z h1 b1 "com/example/tariff_reader/tariffreader/text/Qualifiers" "band" "Ljava/lang/String;" .null := D1 (Or.inr (hw _ (List.mem_of_getElem? (i := 58) rfl))) (ty := (.object "java/lang/String")) (by decide)
  have F1_unit : Fld Z h1 b1 "com/example/tariff_reader/tariffreader/text/Qualifiers" "unit" "Lcom/example/tariff_reader/tariffreader/model/Unit;" .null := D1 (Or.inr (hw _ (List.mem_of_getElem? (i := 60) rfl))) (ty := (.object "com/example/tariff_reader/tariffreader/model/Unit")) (by decide)
  refine own_go (fun t k => st1 t k) ?_
  show own_Go p e below _ (T1.setTop (mkF m 3 #[.val (.ref oa), .val (.ref ob)] [(.ref b1)]))
  refine own_go (fun t k => XS.dup X1.here hx rfl (hb hby d10_3) rfl rfl k) ?_
  have J22 : ∀ (jv22 : Value) (TJ2 : State) (lo2 : List Loc) (XJ2 : Stand p l e ({ frames := 2, cells := 1, slots := 6, locals := 32 } : Room) s m #[(.ref oa), (.ref ob)] below meth c TJ2 lo2 (0 + 1) (0 + 6)) (NJ2 : Fr n0 lo2) (eJ2 : TJ2.heap = h1) (r_jv22 : jv22.isRef = true), own_Go p e below (fun o U' => ∃ v L, o = .returned v ∧ own_Q10 Z x6 y6 h0 n0 v U'.heap L ∧ FrameEnd s o U' L ({ frames := 2, cells := 1, slots := 6, locals := 32 } : Room).cells ({ frames := 2, cells := 1, slots := 6, locals := 32 } : Room).slots) (TJ2.setTop (mkF m 22 #[.val (.ref oa), .val (.ref ob)] [jv22, (.ref b1), (.ref b1)])) := by
    intro jv22 TJ2 lo2 XJ2 NJ2 eJ2 r_jv22
    have J40 : ∀ (jv40 : Value) (jv22 : Value) (TJ3 : State) (lo3 : List Loc) (XJ3 : Stand p l e ({ frames := 2, cells := 1, slots := 6, locals := 32 } : Room) s m #[(.ref oa), (.ref ob)] below meth c TJ3 lo3 (0 + 1) (0 + 6)) (NJ3 : Fr n0 lo3) (eJ3 : TJ3.heap = h1) (r_jv40 : jv40.isRef = true) (r_jv22 : jv22.isRef = true), own_Go p e below (fun o U' => ∃ v L, o = .returned v ∧ own_Q10 Z x6 y6 h0 n0 v U'.heap L ∧ FrameEnd s o U' L ({ frames := 2, cells := 1, slots := 6, locals := 32 } : Room).cells ({ frames := 2, cells := 1, slots := 6, locals := 32 } : Room).slots) (TJ3.setTop (mkF m 40 #[.val (.ref oa), .val (.ref ob)] [jv40, jv22, (.ref b1), (.ref b1)])) := by
      intro jv40 jv22 TJ3 lo3 XJ3 NJ3 eJ3 r_jv40 r_jv22
      have J58 : ∀ (jv58 : Value) (jv40 : Value) (jv22 : Value) (TJ4 : State) (lo4 : List Loc) (XJ4 : Stand p l e ({ frames := 2, cells := 1, slots := 6, locals := 32 } : Room) s m #[(.ref oa), (.ref ob)] below meth c TJ4 lo4 (0 + 1) (0 + 6)) (NJ4 : Fr n0 lo4) (eJ4 : TJ4.heap = h1) (r_jv58 : jv58.isRef = true) (r_jv40 : jv40.isRef = true) (r_jv22 : jv22.isRef = true), own_Go p e below (fun o U' => ∃ v L, o = .returned v ∧ own_Q10 Z x6 y6 h0 n0 v U'.heap L ∧ FrameEnd s o U' L ({ frames := 2, cells := 1, slots := 6, locals := 32 } : Room).cells ({ frames := 2, cells := 1, slots := 6, locals := 32 } : Room).slots) (TJ4.setTop (mkF m 58 #[.val (.ref oa), .val (.ref ob)] [jv58, jv40, jv22, (.ref b1), (.ref b1)])) := by
        intro jv58 jv40 jv22 TJ4 lo4 XJ4 NJ4 eJ4 r_jv58 r_jv40 r_jv22
        have J76 : ∀ (jv76 : Value) (jv58 : Value) (jv40 : Value) (jv22 : Value) (TJ5 : State) (lo5 : List Loc) (XJ5 : Stand p l e ({ frames := 2, cells := 1, slots := 6, locals := 32 } : Room) s m #[(.ref oa), (.ref ob)] below meth c TJ5 lo5 (0 + 1) (0 + 6)) (NJ5 : Fr n0 lo5) (eJ5 : TJ5.heap = h1) (r_jv76 : jv76.isRef = true) (r_jv58 : jv58.isRef = true) (r_jv40 : jv40.isRef = true) (r_jv22 : jv22.isRef = true), own_Go p e below (fun o U' => ∃ v L, o = .returned v ∧ own_Q10 Z x6 y6 h0 n0 v U'.heap L ∧ FrameEnd s o U' L ({ frames := 2, cells := 1, slots := 6, locals := 32 } : Room).cells ({ frames := 2, cells := 1, slots := 6, locals := 32 } : Room).slots) (TJ5.setTop (mkF m 76 #[.val (.ref oa), .val (.ref ob)] [jv76, jv58, jv40, jv22, (.ref b1), (.ref b1)])) := by
          intro jv76 jv58 jv40 jv22 TJ5 lo5 XJ5 NJ5 eJ5 r_jv76 r_jv58 r_jv40 r_jv22
          have J94 : ∀ (jv94 : Value) (jv76 : Value) (jv58 : Value) (jv40 : Value) (jv22 : Value) (TJ6 : State) (lo6 : List Loc) (XJ6 : Stand p l e ({ frames := 2, cells := 1, slots := 6, locals := 32 } : Room) s m #[(.ref oa), (.ref ob)] below meth c TJ6 lo6 (0 + 1) (0 + 6)) (NJ6 : Fr n0 lo6) (eJ6 : TJ6.heap = h1) (r_jv94 : jv94.isRef = true) (r_jv76 : jv76.isRef = true) (r_jv58 : jv58.isRef = true) (r_jv40 : jv40.isRef = true) (r_jv22 : jv22.isRef = true), own_Go p e below (fun o U' => ∃ v L, o = .returned v ∧ own_Q10 Z x6 y6 h0 n0 v U'.heap L ∧ FrameEnd s o U' L ({ frames := 2, cells := 1, slots := 6, locals := 32 } : Room).cells ({ frames := 2, cells := 1, slots := 6, locals := 32 } : Room).slots) (TJ6.setTop (mkF m 94 #[.val (.ref oa), .val (.ref ob)] [jv94, jv76, jv58, jv40, jv22, (.ref b1), (.ref b1)])) := by
            intro jv94 jv76 jv58 jv40 jv22 TJ6 lo6 XJ6 NJ6 eJ6 r_jv94 r_jv76 r_jv58 r_jv40 r_jv22
            show own_Go p e below _ (TJ6.setTop (mkF m 94 #[.val (.ref oa), .val (.ref ob)] [jv94, jv76, jv58, jv40, jv22, (.ref b1), (.ref b1)]))
            refine own_go (fun t k => XS.aloadN XJ6.here hx rfl (hb hby d10_94) rfl rfl k) ?_
            show own_Go p e below _ (TJ6.setTop (mkF m 95 #[.val (.ref oa), .val (.ref ob)] [(.ref oa), jv94, jv76, jv58, jv40, jv22, (.ref b1), (.ref b1)]))
            obtain ⟨T7, X7, e7, st7⟩ := getF XJ6 hx hZ hown (host := "") (Or.inl (hw _ (List.mem_of_getElem? (i := 59) rfl))) Via.refl eJ6 Ga__1.2.2.2.2.2.2 (g := (mkF m 95 #[.val (.ref oa), .val (.ref ob)] [(.ref oa), jv94, jv76, jv58, jv40, jv22, (.ref b1), (.ref b1)])) rfl rfl (hb hby d10_95)
            refine own_go (fun t k => st7 t k) ?_
            show own_Go p e below _ (T7.setTop (mkF m 98 #[.val (.ref oa), .val (.ref ob)] [x6, jv94, jv76, jv58, jv40, jv22, (.ref b1), (.ref b1)]))
            rcases ref_cases r_x6 with rfl | ⟨a_x6, rfl⟩
            · refine own_go (fun t k => XS.ifnullYes X7.here hx rfl (pc0 := 98) (pc' := 108) rfl (hb hby d10_98) rfl (by decide) (by decide) k) ?_
              show own_Go p e below _ (T7.setTop (mkF m 108 #[.val (.ref oa), .val (.ref ob)] [jv94, jv76, jv58, jv40, jv22, (.ref b1), (.ref b1)]))
              refine own_go (fun t k => XS.aloadN X7.here hx rfl (hb hby d10_108) rfl rfl k) ?_
              show own_Go p e below _ (T7.setTop (mkF m 109 #[.val (.ref oa), .val (.ref ob)] [(.ref ob), jv94, jv76, jv58, jv40, jv22, (.ref b1), (.ref b1)]))
              obtain ⟨T8, X8, e8, st8⟩ := getF X7 hx hZ hown (host := "") (Or.inl (hw _ (List.mem_of_getElem? (i := 59) rfl))) Via.refl e7 Gb__1.2.2.2.2.2.2 (g := (mkF m 109 #[.val (.ref oa), .val (.ref ob)] [(.ref ob), jv94, jv76, jv58, jv40, jv22, (.ref b1), (.ref b1)])) rfl rfl (hb hby d10_109)
              refine own_go (fun t k => st8 t k) ?_
              show own_Go p e below _ (T8.setTop (mkF m 112 #[.val (.ref oa), .val (.ref ob)] [y6, jv94, jv76, jv58, jv40, jv22, (.ref b1), (.ref b1)]))
              obtain ⟨_, _, ⟨T9, L9, k9, n9⟩, -, X9, ⟨Lc9, hQ9, l9, y9, z9⟩, st9⟩ := X8.specialBack hx (y := (⟨"com/example/tariff_reader/tariffreader/text/Qualifiers", "<init>", "(Ljava/lang/String;Ljava/lang/String;Ljava/lang/String;Lcom/example/tariff_reader/tariffreader/model/Direction;Ljava/lang/String;Lcom/example/tariff_reader/tariffreader/model/Unit;)V"⟩ : MethodName)) rfl hown (mvT hZ (hw _ (List.mem_of_getElem? (i := 72) rfl))) (mvT hZ (hw _ (List.mem_of_getElem? (i := 46) rfl))) (mvT hZ (hw _ (List.mem_of_getElem? (i := 47) rfl))) (by decide) (backOf (W := 1) (rm7 l Z a0 hw [] b1 jv22 jv40 jv58 jv76 jv94 y6 h1 n0 sz1 ⟨A1, F1_area, F1_schedule, F1_traffic, F1_direction, F1_band, F1_unit⟩ g_b1 r_jv22 r_jv40 r_jv58 r_jv76 r_jv94 r_y6) hZ (hw _ (List.mem_of_getElem? (i := 47) rfl)) (hw _ (List.mem_of_getElem? (i := 44) rfl)) (by decide) (by decide)) (g := (mkF m 112 #[.val (.ref oa), .val (.ref ob)] [y6, jv94, jv76, jv58, jv40, jv22, (.ref b1), (.ref b1)])) rfl (by rw [hml]; rfl) (Steps.refl _) (a := b1) (argsL := [jv22, jv40, jv58, jv76, jv94, y6]) (rest := [(.ref b1)]) (lenOf pd10_0 rfl) rfl (by show 2 * 0 + _ ≤ _; exact Nat.le_of_eq rfl) (hb hby d10_112) (fun _ _ => ⟨rfl, e8, (by decide : 0 + 1 + 0 ≤ _), (by decide : 0 + 6 + 0 ≤ _)⟩)
              dsimp only [Pt.U, Pt.locs, Pt.cells, Pt.slots] at X9 l9 y9 z9 st9 hQ9
              subst l9 y9 z9
              obtain ⟨rfl, Nq9, K9, G9⟩ := hQ9
              have N9 := Fr.app NJ6 Nq9
              refine own_go (fun t k => st9.trans k) ?_
              have Ga__9 := Ga__1.keep K9 (ninS ne_oa_b1 nin0)
              have Gb__9 := Gb__1.keep K9 (ninS ne_ob_b1 nin0)
              have A1__9 := A1.keep K9
              have KP9 := KP1.trans K9 (allS (Or.inr sz_b1) all0)
              have sz9 := Nat.le_trans sz1 K9.1
              show own_Go p e below _ (T9.setTop (mkF m 115 #[.val (.ref oa), .val (.ref ob)] [(.ref b1)]))
              exact own_retA X9 hx Bd.returns rfl rfl (hb hby d10_115) (⟨_, _, _, _, _, _, rfl, N9, KP9, sz_b1, G9⟩) (by decide) (by decide)
            · refine own_go (fun t k => XS.ifnullNo X7.here hx rfl (hb hby d10_98) rfl k) ?_
              show own_Go p e below _ (T7.setTop (mkF m 101 #[.val (.ref oa), .val (.ref ob)] [jv94, jv76, jv58, jv40, jv22, (.ref b1), (.ref b1)]))
              refine own_go (fun t k => XS.aloadN X7.here hx rfl (hb hby d10_101) rfl rfl k) ?_
              show own_Go p e below _ (T7.setTop (mkF m 102 #[.val (.ref oa), .val (.ref ob)] [(.ref oa), jv94, jv76, jv58, jv40, jv22, (.ref b1), (.ref b1)]))
              obtain ⟨T10, X10, e10, st10⟩ := getF X7 hx hZ hown (host := "") (Or.inl (hw _ (List.mem_of_getElem? (i := 59) rfl))) Via.refl e7 Ga__1.2.2.2.2.2.2 (g := (mkF m 102 #[.val (.ref oa), .val (.ref ob)] [(.ref oa), jv94, jv76, jv58, jv40, jv22, (.ref b1), (.ref b1)])) rfl rfl (hb hby d10_102)
              refine own_go (fun t k => st10 t k) ?_
              show own_Go p e below _ (T10.setTop (mkF m 105 #[.val (.ref oa), .val (.ref ob)] [(.ref a_x6), jv94, jv76, jv58, jv40, jv22, (.ref b1), (.ref b1)]))
              refine own_go (fun t k => XS.goto X10.here hx rfl (pc0 := 105) (pc' := 112) rfl (hb hby d10_105) (by decide) (by decide) k) ?_
              show own_Go p e below _ (T10.setTop (mkF m 112 #[.val (.ref oa), .val (.ref ob)] [(.ref a_x6), jv94, jv76, jv58, jv40, jv22, (.ref b1), (.ref b1)]))
              obtain ⟨_, _, ⟨T11, L11, k11, n11⟩, -, X11, ⟨Lc11, hQ11, l11, y11, z11⟩, st11⟩ := X10.specialBack hx (y := (⟨"com/example/tariff_reader/tariffreader/text/Qualifiers", "<init>", "(Ljava/lang/String;Ljava/lang/String;Ljava/lang/String;Lcom/example/tariff_reader/tariffreader/model/Direction;Ljava/lang/String;Lcom/example/tariff_reader/tariffreader/model/Unit;)V"⟩ : MethodName)) rfl hown (mvT hZ (hw _ (List.mem_of_getElem? (i := 72) rfl))) (mvT hZ (hw _ (List.mem_of_getElem? (i := 46) rfl))) (mvT hZ (hw _ (List.mem_of_getElem? (i := 47) rfl))) (by decide) (backOf (W := 1) (rm7 l Z a0 hw [] b1 jv22 jv40 jv58 jv76 jv94 (.ref a_x6) h1 n0 sz1 ⟨A1, F1_area, F1_schedule, F1_traffic, F1_direction, F1_band, F1_unit⟩ g_b1 r_jv22 r_jv40 r_jv58 r_jv76 r_jv94 rfl) hZ (hw _ (List.mem_of_getElem? (i := 47) rfl)) (hw _ (List.mem_of_getElem? (i := 44) rfl)) (by decide) (by decide)) (g := (mkF m 112 #[.val (.ref oa), .val (.ref ob)] [(.ref a_x6), jv94, jv76, jv58, jv40, jv22, (.ref b1), (.ref b1)])) rfl (by rw [hml]; rfl) (Steps.refl _) (a := b1) (argsL := [jv22, jv40, jv58, jv76, jv94, (.ref a_x6)]) (rest := [(.ref b1)]) (lenOf pd10_0 rfl) rfl (by show 2 * 0 + _ ≤ _; exact Nat.le_of_eq rfl) (hb hby d10_112) (fun _ _ => ⟨rfl, e10, (by decide : 0 + 1 + 0 ≤ _), (by decide : 0 + 6 + 0 ≤ _)⟩)
              dsimp only [Pt.U, Pt.locs, Pt.cells, Pt.slots] at X11 l11 y11 z11 st11 hQ11
              subst l11 y11 z11
              obtain ⟨rfl, Nq11, K11, G11⟩ := hQ11
              have N11 := Fr.app NJ6 Nq11
              refine own_go (fun t k => st11.trans k) ?_
              have Ga__11 := Ga__1.keep K11 (ninS ne_oa_b1 nin0)
              have Gb__11 := Gb__1.keep K11 (ninS ne_ob_b1 nin0)
              have A1__11 := A1.keep K11
              have KP11 := KP1.trans K11 (allS (Or.inr sz_b1) all0)
              have sz11 := Nat.le_trans sz1 K11.1
              show own_Go p e below _ (T11.setTop (mkF m 115 #[.val (.ref oa), .val (.ref ob)] [(.ref b1)]))
              exact own_retA X11 hx Bd.returns rfl rfl (hb hby d10_115) (⟨_, _, _, _, _, _, rfl, N11, KP11, sz_b1, G11⟩) (by decide) (by decide)
          show own_Go p e below _ (TJ5.setTop (mkF m 76 #[.val (.ref oa), .val (.ref ob)] [jv76, jv58, jv40, jv22, (.ref b1), (.ref b1)]))
          refine own_go (fun t k => XS.aloadN XJ5.here hx rfl (hb hby d10_76) rfl rfl k) ?_
          show own_Go p e below _ (TJ5.setTop (mkF m 77 #[.val (.ref oa), .val (.ref ob)] [(.ref oa), jv76, jv58, jv40, jv22, (.ref b1), (.ref b1)]))
          obtain ⟨T12, X12, e12, st12⟩ := getF XJ5 hx hZ hown (host := "") (Or.inl (hw _ (List.mem_of_getElem? (i := 57) rfl))) Via.refl eJ5 Ga__1.2.2.2.2.2.1 (g := (mkF m 77 #[.val (.ref oa), .val (.ref ob)] [(.ref oa), jv76, jv58, jv40, jv22, (.ref b1), (.ref b1)])) rfl rfl (hb hby d10_77)
          refine own_go (fun t k => st12 t k) ?_
          show own_Go p e below _ (T12.setTop (mkF m 80 #[.val (.ref oa), .val (.ref ob)] [x5, jv76, jv58, jv40, jv22, (.ref b1), (.ref b1)]))
          rcases ref_cases r_x5 with rfl | ⟨a_x5, rfl⟩
          · refine own_go (fun t k => XS.ifnullYes X12.here hx rfl (pc0 := 80) (pc' := 90) rfl (hb hby d10_80) rfl (by decide) (by decide) k) ?_
            show own_Go p e below _ (T12.setTop (mkF m 90 #[.val (.ref oa), .val (.ref ob)] [jv76, jv58, jv40, jv22, (.ref b1), (.ref b1)]))
            refine own_go (fun t k => XS.aloadN X12.here hx rfl (hb hby d10_90) rfl rfl k) ?_
            show own_Go p e below _ (T12.setTop (mkF m 91 #[.val (.ref oa), .val (.ref ob)] [(.ref ob), jv76, jv58, jv40, jv22, (.ref b1), (.ref b1)]))
            obtain ⟨T13, X13, e13, st13⟩ := getF X12 hx hZ hown (host := "") (Or.inl (hw _ (List.mem_of_getElem? (i := 57) rfl))) Via.refl e12 Gb__1.2.2.2.2.2.1 (g := (mkF m 91 #[.val (.ref oa), .val (.ref ob)] [(.ref ob), jv76, jv58, jv40, jv22, (.ref b1), (.ref b1)])) rfl rfl (hb hby d10_91)
            refine own_go (fun t k => st13 t k) ?_
            exact J94 _ _ _ _ _ _ _ X13 NJ5 e13 r_y5 r_jv76 r_jv58 r_jv40 r_jv22
          · refine own_go (fun t k => XS.ifnullNo X12.here hx rfl (hb hby d10_80) rfl k) ?_
            show own_Go p e below _ (T12.setTop (mkF m 83 #[.val (.ref oa), .val (.ref ob)] [jv76, jv58, jv40, jv22, (.ref b1), (.ref b1)]))
            refine own_go (fun t k => XS.aloadN X12.here hx rfl (hb hby d10_83) rfl rfl k) ?_
            show own_Go p e below _ (T12.setTop (mkF m 84 #[.val (.ref oa), .val (.ref ob)] [(.ref oa), jv76, jv58, jv40, jv22, (.ref b1), (.ref b1)]))
            obtain ⟨T14, X14, e14, st14⟩ := getF X12 hx hZ hown (host := "") (Or.inl (hw _ (List.mem_of_getElem? (i := 57) rfl))) Via.refl e12 Ga__1.2.2.2.2.2.1 (g := (mkF m 84 #[.val (.ref oa), .val (.ref ob)] [(.ref oa), jv76, jv58, jv40, jv22, (.ref b1), (.ref b1)])) rfl rfl (hb hby d10_84)
            refine own_go (fun t k => st14 t k) ?_
            show own_Go p e below _ (T14.setTop (mkF m 87 #[.val (.ref oa), .val (.ref ob)] [(.ref a_x5), jv76, jv58, jv40, jv22, (.ref b1), (.ref b1)]))
            refine own_go (fun t k => XS.goto X14.here hx rfl (pc0 := 87) (pc' := 94) rfl (hb hby d10_87) (by decide) (by decide) k) ?_
            exact J94 _ _ _ _ _ _ _ X14 NJ5 e14 rfl r_jv76 r_jv58 r_jv40 r_jv22
        show own_Go p e below _ (TJ4.setTop (mkF m 58 #[.val (.ref oa), .val (.ref ob)] [jv58, jv40, jv22, (.ref b1), (.ref b1)]))
        refine own_go (fun t k => XS.aloadN XJ4.here hx rfl (hb hby d10_58) rfl rfl k) ?_
        show own_Go p e below _ (TJ4.setTop (mkF m 59 #[.val (.ref oa), .val (.ref ob)] [(.ref oa), jv58, jv40, jv22, (.ref b1), (.ref b1)]))
        obtain ⟨T15, X15, e15, st15⟩ := getF XJ4 hx hZ hown (host := "") (Or.inl (hw _ (List.mem_of_getElem? (i := 55) rfl))) Via.refl eJ4 Ga__1.2.2.2.2.1 (g := (mkF m 59 #[.val (.ref oa), .val (.ref ob)] [(.ref oa), jv58, jv40, jv22, (.ref b1), (.ref b1)])) rfl rfl (hb hby d10_59)
        refine own_go (fun t k => st15 t k) ?_
        show own_Go p e below _ (T15.setTop (mkF m 62 #[.val (.ref oa), .val (.ref ob)] [x4, jv58, jv40, jv22, (.ref b1), (.ref b1)]))
        rcases ref_cases r_x4 with rfl | ⟨a_x4, rfl⟩
        · refine own_go (fun t k => XS.ifnullYes X15.here hx rfl (pc0 := 62) (pc' := 72) rfl (hb hby d10_62) rfl (by decide) (by decide) k) ?_
          show own_Go p e below _ (T15.setTop (mkF m 72 #[.val (.ref oa), .val (.ref ob)] [jv58, jv40, jv22, (.ref b1), (.ref b1)]))
          refine own_go (fun t k => XS.aloadN X15.here hx rfl (hb hby d10_72) rfl rfl k) ?_
          show own_Go p e below _ (T15.setTop (mkF m 73 #[.val (.ref oa), .val (.ref ob)] [(.ref ob), jv58, jv40, jv22, (.ref b1), (.ref b1)]))
          obtain ⟨T16, X16, e16, st16⟩ := getF X15 hx hZ hown (host := "") (Or.inl (hw _ (List.mem_of_getElem? (i := 55) rfl))) Via.refl e15 Gb__1.2.2.2.2.1 (g := (mkF m 73 #[.val (.ref oa), .val (.ref ob)] [(.ref ob), jv58, jv40, jv22, (.ref b1), (.ref b1)])) rfl rfl (hb hby d10_73)
          refine own_go (fun t k => st16 t k) ?_
          exact J76 _ _ _ _ _ _ X16 NJ4 e16 r_y4 r_jv58 r_jv40 r_jv22
        · refine own_go (fun t k => XS.ifnullNo X15.here hx rfl (hb hby d10_62) rfl k) ?_
          show own_Go p e below _ (T15.setTop (mkF m 65 #[.val (.ref oa), .val (.ref ob)] [jv58, jv40, jv22, (.ref b1), (.ref b1)]))
          refine own_go (fun t k => XS.aloadN X15.here hx rfl (hb hby d10_65) rfl rfl k) ?_
          show own_Go p e below _ (T15.setTop (mkF m 66 #[.val (.ref oa), .val (.ref ob)] [(.ref oa), jv58, jv40, jv22, (.ref b1), (.ref b1)]))
          obtain ⟨T17, X17, e17, st17⟩ := getF X15 hx hZ hown (host := "") (Or.inl (hw _ (List.mem_of_getElem? (i := 55) rfl))) Via.refl e15 Ga__1.2.2.2.2.1 (g := (mkF m 66 #[.val (.ref oa), .val (.ref ob)] [(.ref oa), jv58, jv40, jv22, (.ref b1), (.ref b1)])) rfl rfl (hb hby d10_66)
          refine own_go (fun t k => st17 t k) ?_
          show own_Go p e below _ (T17.setTop (mkF m 69 #[.val (.ref oa), .val (.ref ob)] [(.ref a_x4), jv58, jv40, jv22, (.ref b1), (.ref b1)]))
          refine own_go (fun t k => XS.goto X17.here hx rfl (pc0 := 69) (pc' := 76) rfl (hb hby d10_69) (by decide) (by decide) k) ?_
          exact J76 _ _ _ _ _ _ X17 NJ4 e17 rfl r_jv58 r_jv40 r_jv22
      show own_Go p e below _ (TJ3.setTop (mkF m 40 #[.val (.ref oa), .val (.ref ob)] [jv40, jv22, (.ref b1), (.ref b1)]))
      refine own_go (fun t k => XS.aloadN XJ3.here hx rfl (hb hby d10_40) rfl rfl k) ?_
      show own_Go p e below _ (TJ3.setTop (mkF m 41 #[.val (.ref oa), .val (.ref ob)] [(.ref oa), jv40, jv22, (.ref b1), (.ref b1)]))
      obtain ⟨T18, X18, e18, st18⟩ := getF XJ3 hx hZ hown (host := "") (Or.inl (hw _ (List.mem_of_getElem? (i := 53) rfl))) Via.refl eJ3 Ga__1.2.2.2.1 (g := (mkF m 41 #[.val (.ref oa), .val (.ref ob)] [(.ref oa), jv40, jv22, (.ref b1), (.ref b1)])) rfl rfl (hb hby d10_41)
      refine own_go (fun t k => st18 t k) ?_
      show own_Go p e below _ (T18.setTop (mkF m 44 #[.val (.ref oa), .val (.ref ob)] [x3, jv40, jv22, (.ref b1), (.ref b1)]))
      rcases ref_cases r_x3 with rfl | ⟨a_x3, rfl⟩
      · refine own_go (fun t k => XS.ifnullYes X18.here hx rfl (pc0 := 44) (pc' := 54) rfl (hb hby d10_44) rfl (by decide) (by decide) k) ?_
        show own_Go p e below _ (T18.setTop (mkF m 54 #[.val (.ref oa), .val (.ref ob)] [jv40, jv22, (.ref b1), (.ref b1)]))
        refine own_go (fun t k => XS.aloadN X18.here hx rfl (hb hby d10_54) rfl rfl k) ?_
        show own_Go p e below _ (T18.setTop (mkF m 55 #[.val (.ref oa), .val (.ref ob)] [(.ref ob), jv40, jv22, (.ref b1), (.ref b1)]))
        obtain ⟨T19, X19, e19, st19⟩ := getF X18 hx hZ hown (host := "") (Or.inl (hw _ (List.mem_of_getElem? (i := 53) rfl))) Via.refl e18 Gb__1.2.2.2.1 (g := (mkF m 55 #[.val (.ref oa), .val (.ref ob)] [(.ref ob), jv40, jv22, (.ref b1), (.ref b1)])) rfl rfl (hb hby d10_55)
        refine own_go (fun t k => st19 t k) ?_
        exact J58 _ _ _ _ _ X19 NJ3 e19 r_y3 r_jv40 r_jv22
      · refine own_go (fun t k => XS.ifnullNo X18.here hx rfl (hb hby d10_44) rfl k) ?_
        show own_Go p e below _ (T18.setTop (mkF m 47 #[.val (.ref oa), .val (.ref ob)] [jv40, jv22, (.ref b1), (.ref b1)]))
        refine own_go (fun t k => XS.aloadN X18.here hx rfl (hb hby d10_47) rfl rfl k) ?_
        show own_Go p e below _ (T18.setTop (mkF m 48 #[.val (.ref oa), .val (.ref ob)] [(.ref oa), jv40, jv22, (.ref b1), (.ref b1)]))
        obtain ⟨T20, X20, e20, st20⟩ := getF X18 hx hZ hown (host := "") (Or.inl (hw _ (List.mem_of_getElem? (i := 53) rfl))) Via.refl e18 Ga__1.2.2.2.1 (g := (mkF m 48 #[.val (.ref oa), .val (.ref ob)] [(.ref oa), jv40, jv22, (.ref b1), (.ref b1)])) rfl rfl (hb hby d10_48)
        refine own_go (fun t k => st20 t k) ?_
        show own_Go p e below _ (T20.setTop (mkF m 51 #[.val (.ref oa), .val (.ref ob)] [(.ref a_x3), jv40, jv22, (.ref b1), (.ref b1)]))
        refine own_go (fun t k => XS.goto X20.here hx rfl (pc0 := 51) (pc' := 58) rfl (hb hby d10_51) (by decide) (by decide) k) ?_
        exact J58 _ _ _ _ _ X20 NJ3 e20 rfl r_jv40 r_jv22
    show own_Go p e below _ (TJ2.setTop (mkF m 22 #[.val (.ref oa), .val (.ref ob)] [jv22, (.ref b1), (.ref b1)]))
    refine own_go (fun t k => XS.aloadN XJ2.here hx rfl (hb hby d10_22) rfl rfl k) ?_
    show own_Go p e below _ (TJ2.setTop (mkF m 23 #[.val (.ref oa), .val (.ref ob)] [(.ref oa), jv22, (.ref b1), (.ref b1)]))
    obtain ⟨T21, X21, e21, st21⟩ := getF XJ2 hx hZ hown (host := "") (Or.inl (hw _ (List.mem_of_getElem? (i := 51) rfl))) Via.refl eJ2 Ga__1.2.2.1 (g := (mkF m 23 #[.val (.ref oa), .val (.ref ob)] [(.ref oa), jv22, (.ref b1), (.ref b1)])) rfl rfl (hb hby d10_23)
    refine own_go (fun t k => st21 t k) ?_
    show own_Go p e below _ (T21.setTop (mkF m 26 #[.val (.ref oa), .val (.ref ob)] [x2, jv22, (.ref b1), (.ref b1)]))
    rcases ref_cases r_x2 with rfl | ⟨a_x2, rfl⟩
    · refine own_go (fun t k => XS.ifnullYes X21.here hx rfl (pc0 := 26) (pc' := 36) rfl (hb hby d10_26) rfl (by decide) (by decide) k) ?_
      show own_Go p e below _ (T21.setTop (mkF m 36 #[.val (.ref oa), .val (.ref ob)] [jv22, (.ref b1), (.ref b1)]))
      refine own_go (fun t k => XS.aloadN X21.here hx rfl (hb hby d10_36) rfl rfl k) ?_
      show own_Go p e below _ (T21.setTop (mkF m 37 #[.val (.ref oa), .val (.ref ob)] [(.ref ob), jv22, (.ref b1), (.ref b1)]))
      obtain ⟨T22, X22, e22, st22⟩ := getF X21 hx hZ hown (host := "") (Or.inl (hw _ (List.mem_of_getElem? (i := 51) rfl))) Via.refl e21 Gb__1.2.2.1 (g := (mkF m 37 #[.val (.ref oa), .val (.ref ob)] [(.ref ob), jv22, (.ref b1), (.ref b1)])) rfl rfl (hb hby d10_37)
      refine own_go (fun t k => st22 t k) ?_
      exact J40 _ _ _ _ X22 NJ2 e22 r_y2 r_jv22
    · refine own_go (fun t k => XS.ifnullNo X21.here hx rfl (hb hby d10_26) rfl k) ?_
      show own_Go p e below _ (T21.setTop (mkF m 29 #[.val (.ref oa), .val (.ref ob)] [jv22, (.ref b1), (.ref b1)]))
      refine own_go (fun t k => XS.aloadN X21.here hx rfl (hb hby d10_29) rfl rfl k) ?_
      show own_Go p e below _ (T21.setTop (mkF m 30 #[.val (.ref oa), .val (.ref ob)] [(.ref oa), jv22, (.ref b1), (.ref b1)]))
      obtain ⟨T23, X23, e23, st23⟩ := getF X21 hx hZ hown (host := "") (Or.inl (hw _ (List.mem_of_getElem? (i := 51) rfl))) Via.refl e21 Ga__1.2.2.1 (g := (mkF m 30 #[.val (.ref oa), .val (.ref ob)] [(.ref oa), jv22, (.ref b1), (.ref b1)])) rfl rfl (hb hby d10_30)
      refine own_go (fun t k => st23 t k) ?_
      show own_Go p e below _ (T23.setTop (mkF m 33 #[.val (.ref oa), .val (.ref ob)] [(.ref a_x2), jv22, (.ref b1), (.ref b1)]))
      refine own_go (fun t k => XS.goto X23.here hx rfl (pc0 := 33) (pc' := 40) rfl (hb hby d10_33) (by decide) (by decide) k) ?_
      exact J40 _ _ _ _ X23 NJ2 e23 rfl r_jv22
  show own_Go p e below _ (T1.setTop (mkF m 4 #[.val (.ref oa), .val (.ref ob)] [(.ref b1), (.ref b1)]))
  refine own_go (fun t k => XS.aloadN X1.here hx rfl (hb hby d10_4) rfl rfl k) ?_
  show own_Go p e below _ (T1.setTop (mkF m 5 #[.val (.ref oa), .val (.ref ob)] [(.ref oa), (.ref b1), (.ref b1)]))
  obtain ⟨T24, X24, e24, st24⟩ := getF X1 hx hZ hown (host := "") (Or.inl (hw _ (List.mem_of_getElem? (i := 49) rfl))) Via.refl e1 Ga__1.2.1 (g := (mkF m 5 #[.val (.ref oa), .val (.ref ob)] [(.ref oa), (.ref b1), (.ref b1)])) rfl rfl (hb hby d10_5)
  refine own_go (fun t k => st24 t k) ?_
  show own_Go p e below _ (T24.setTop (mkF m 8 #[.val (.ref oa), .val (.ref ob)] [x1, (.ref b1), (.ref b1)]))
  rcases ref_cases r_x1 with rfl | ⟨a_x1, rfl⟩
  · refine own_go (fun t k => XS.ifnullYes X24.here hx rfl (pc0 := 8) (pc' := 18) rfl (hb hby d10_8) rfl (by decide) (by decide) k) ?_
    show own_Go p e below _ (T24.setTop (mkF m 18 #[.val (.ref oa), .val (.ref ob)] [(.ref b1), (.ref b1)]))
    refine own_go (fun t k => XS.aloadN X24.here hx rfl (hb hby d10_18) rfl rfl k) ?_
    show own_Go p e below _ (T24.setTop (mkF m 19 #[.val (.ref oa), .val (.ref ob)] [(.ref ob), (.ref b1), (.ref b1)]))
    obtain ⟨T25, X25, e25, st25⟩ := getF X24 hx hZ hown (host := "") (Or.inl (hw _ (List.mem_of_getElem? (i := 49) rfl))) Via.refl e24 Gb__1.2.1 (g := (mkF m 19 #[.val (.ref oa), .val (.ref ob)] [(.ref ob), (.ref b1), (.ref b1)])) rfl rfl (hb hby d10_19)
    refine own_go (fun t k => st25 t k) ?_
    exact J22 _ _ _ X25 N0 e25 r_y1
  · refine own_go (fun t k => XS.ifnullNo X24.here hx rfl (hb hby d10_8) rfl k) ?_
    show own_Go p e below _ (T24.setTop (mkF m 11 #[.val (.ref oa), .val (.ref ob)] [(.ref b1), (.ref b1)]))
    refine own_go (fun t k => XS.aloadN X24.here hx rfl (hb hby d10_11) rfl rfl k) ?_
    show own_Go p e below _ (T24.setTop (mkF m 12 #[.val (.ref oa), .val (.ref ob)] [(.ref oa), (.ref b1), (.ref b1)]))
    obtain ⟨T26, X26, e26, st26⟩ := getF X24 hx hZ hown (host := "") (Or.inl (hw _ (List.mem_of_getElem? (i := 49) rfl))) Via.refl e24 Ga__1.2.1 (g := (mkF m 12 #[.val (.ref oa), .val (.ref ob)] [(.ref oa), (.ref b1), (.ref b1)])) rfl rfl (hb hby d10_12)
    refine own_go (fun t k => st26 t k) ?_
    show own_Go p e below _ (T26.setTop (mkF m 15 #[.val (.ref oa), .val (.ref ob)] [(.ref a_x1), (.ref b1), (.ref b1)]))
    refine own_go (fun t k => XS.goto X26.here hx rfl (pc0 := 15) (pc' := 22) rfl (hb hby d10_15) (by decide) (by decide) k) ?_
    exact J22 _ _ _ X26 N0 e26 rfl
theorem pn0 : plainName "com/example/tariff_reader/tariffreader/text/QualifiersStatesUnitPinLaw" = true := by first | (simp [plainName, overriddenIn]; done) | decide +kernel
theorem pd0_0 : parseMethodDescriptor "(I)Lcom/example/tariff_reader/tariffreader/model/Unit;" = some ⟨[.int], some (.object "com/example/tariff_reader/tariffreader/model/Unit")⟩ := by decide +kernel
theorem pd0_1 : parseMethodDescriptor "(ILcom/example/tariff_reader/tariffreader/model/Unit;)Lcom/example/tariff_reader/tariffreader/text/Qualifiers;" = some ⟨[.int, (.object "com/example/tariff_reader/tariffreader/model/Unit")], some (.object "com/example/tariff_reader/tariffreader/text/Qualifiers")⟩ := by decide +kernel
theorem pd0_2 : parseMethodDescriptor "()Z" = some ⟨[], some .boolean⟩ := by decide +kernel
theorem pd0_3 : parseMethodDescriptor "(Lcom/example/tariff_reader/tariffreader/text/Qualifiers;)Lcom/example/tariff_reader/tariffreader/text/Qualifiers;" = some ⟨[(.object "com/example/tariff_reader/tariffreader/text/Qualifiers")], some (.object "com/example/tariff_reader/tariffreader/text/Qualifiers")⟩ := by decide +kernel
theorem ef0 (m : MethodId) (x0 : Int32) (x1 : Int32) (x2 : Int32) (x3 : Int32) : entryFrame m #[(.int x0), (.int x1), (.int x2), (.int x3)] maxLocals = mkF m 0 #[.val (.int x0), .val (.int x1), .val (.int x2), .val (.int x3), .unset, .unset, .unset, .unset, .unset, .unset, .unset] [] := by first | (simp [entryFrame, mkF, argsToLocals, Value.category, maxLocals]; done) | rfl
def own_Q0 (n0 : Nat) (v : Option Value) (h : Heap) (L : List Loc) : Prop := v = some (.int 1) ∧ Fr n0 L
set_option maxRecDepth 65536 in
set_option maxHeartbeats 40000000 in
theorem rm0 (l : Launch) (Z : State) (a0 : Array Value) (hw : ∀ d ∈ tables_1, d.before a0 Z = true) (ws : List Jvm.Cond) (p0 p1 p2 p3 : Int32) (h0 : Heap) (n0 : Nat) (Z0 : n0 ≤ h0.size) (XO : Old Z n0 h0) (WW : own_W Z) :
    MetFree l x (head1 (Jvm.Cond.code x code maxLocals ret :: ws) room_1) (fun a U => a = #[(.int p0), (.int p1), (.int p2), (.int p3)] ∧ Z.Warmed39 U.vm ∧ U.heap = h0) (fun _ _ _ _ _ => True) (fun _ U o U' => ∃ v L, o = .returned v ∧ own_Q0 n0 v U'.heap L ∧ FrameEnd U o U' L room_1.cells room_1.slots) := by
  refine MetFree.of_bodySF (plainFor_of_name pn0) hisR ?_
  intro p e s m args below meth c s₁ Bd hml0 hP hK
  obtain ⟨rfl, hZ, hh⟩ := hP
  have hx := Bd.exec
  have hby := Bd.bytes
  have hml : c.maxLocals = 11 := hml0
  have hown : s.vm.findClass "com/example/tariff_reader/tariffreader/text/QualifiersStatesUnitPinLaw" = some m.cls := findClass_of_methodNamed Bd.named
  have hnm := (name_of_methodNamed Bd.named Bd.method).1
  have hlk : meth.locks = false := Bd.notSynchronized
  have X0 : Stand p l e room_1 s m #[(.int p0), (.int p1), (.int p2), (.int p3)] below meth c s₁ [] 0 0 := Stand.of_body Bd
  have e0 : s₁.heap = h0 := by rw [← hh, Bd.state]; rfl
  have N0 := Fr.nil n0
  refine own_go (fun t k => castTop (ef0 m p0 p1 p2 p3) k) ?_
  show own_Go p e below _ (s₁.setTop (mkF m 0 #[.val (.int p0), .val (.int p1), .val (.int p2), .val (.int p3), .unset, .unset, .unset, .unset, .unset, .unset, .unset] []))
  refine own_go (fun t k => XS.iloadN X0.here hx rfl (hb hby at_0) rfl k) ?_
  show own_Go p e below _ (s₁.setTop (mkF m 1 #[.val (.int p0), .val (.int p1), .val (.int p2), .val (.int p3), .unset, .unset, .unset, .unset, .unset, .unset, .unset] [(.int p1)]))
  obtain ⟨_, _, ⟨T1, L1, k1, n1⟩, -, X1, ⟨Lc1, hQ1, l1, y1, z1⟩, st1⟩ := Jvm.LawKit.callS X0 hx (y := (⟨"com/example/tariff_reader/tariffreader/text/QualifiersStatesUnitPinLaw", "unit", "(I)Lcom/example/tariff_reader/tariffreader/model/Unit;"⟩ : MethodName)) hown (mvT hZ (hw _ (List.mem_of_getElem? (i := 0) rfl))) (mvT hZ (hw _ (List.mem_of_getElem? (i := 1) rfl))) (mvT hZ (hw _ (List.mem_of_getElem? (i := 2) rfl))) (mvT hZ (hw _ (List.mem_of_getElem? (i := 3) rfl))) (by decide) (backOf (W := 0) (rm5 l Z a0 hw [] p1 h0 n0 Z0 XO WW) hZ (hw _ (List.mem_of_getElem? (i := 3) rfl)) (hw _ (List.mem_of_getElem? (i := 2) rfl)) (by decide) (by decide)) (g := (mkF m 1 #[.val (.int p0), .val (.int p1), .val (.int p2), .val (.int p3), .unset, .unset, .unset, .unset, .unset, .unset, .unset] [(.int p1)])) rfl (by rw [hml]; rfl) (argsL := [(.int p1)]) (rest := []) (lenOf pd0_0 rfl) rfl (by show 2 * 0 + _ ≤ _; exact Nat.le_of_eq rfl) (hb hby at_1) (fun _ _ => ⟨rfl, e0, (by decide : 0 + 0 ≤ _), (by decide : 0 + 0 ≤ _)⟩)
  dsimp only [Pt.U, Pt.locs, Pt.cells, Pt.slots] at X1 l1 y1 z1 st1 hQ1
  subst l1 y1 z1
  obtain ⟨w1, rfl, r_w1, Nq1, e1⟩ := hQ1
  have N1 := Fr.app N0 Nq1
  refine own_go (fun t k => st1 t k) ?_
  rcases ref_cases r_w1 with rfl | ⟨a_w1, rfl⟩
  · show own_Go p e below _ (T1.setTop (mkF m 4 #[.val (.int p0), .val (.int p1), .val (.int p2), .val (.int p3), .unset, .unset, .unset, .unset, .unset, .unset, .unset] [.null]))
    refine own_go (fun t k => XS.astore X1.here hx rfl (hb hby at_4) rfl rfl (l' := #[.val (.int p0), .val (.int p1), .val (.int p2), .val (.int p3), .val .null, .unset, .unset, .unset, .unset, .unset, .unset]) rfl k) ?_
    show own_Go p e below _ (T1.setTop (mkF m 6 #[.val (.int p0), .val (.int p1), .val (.int p2), .val (.int p3), .val .null, .unset, .unset, .unset, .unset, .unset, .unset] []))
    refine own_go (fun t k => XS.iloadN X1.here hx rfl (hb hby at_6) rfl k) ?_
    show own_Go p e below _ (T1.setTop (mkF m 7 #[.val (.int p0), .val (.int p1), .val (.int p2), .val (.int p3), .val .null, .unset, .unset, .unset, .unset, .unset, .unset] [(.int p3)]))
    obtain ⟨_, _, ⟨T2, L2, k2, n2⟩, -, X2, ⟨Lc2, hQ2, l2, y2, z2⟩, st2⟩ := Jvm.LawKit.callS X1 hx (y := (⟨"com/example/tariff_reader/tariffreader/text/QualifiersStatesUnitPinLaw", "unit", "(I)Lcom/example/tariff_reader/tariffreader/model/Unit;"⟩ : MethodName)) hown (mvT hZ (hw _ (List.mem_of_getElem? (i := 0) rfl))) (mvT hZ (hw _ (List.mem_of_getElem? (i := 1) rfl))) (mvT hZ (hw _ (List.mem_of_getElem? (i := 2) rfl))) (mvT hZ (hw _ (List.mem_of_getElem? (i := 3) rfl))) (by decide) (backOf (W := 0) (rm5 l Z a0 hw [] p3 h0 n0 Z0 XO WW) hZ (hw _ (List.mem_of_getElem? (i := 3) rfl)) (hw _ (List.mem_of_getElem? (i := 2) rfl)) (by decide) (by decide)) (g := (mkF m 7 #[.val (.int p0), .val (.int p1), .val (.int p2), .val (.int p3), .val .null, .unset, .unset, .unset, .unset, .unset, .unset] [(.int p3)])) rfl (by rw [hml]; rfl) (argsL := [(.int p3)]) (rest := []) (lenOf pd0_0 rfl) rfl (by show 2 * 0 + _ ≤ _; exact Nat.le_of_eq rfl) (hb hby at_7) (fun _ _ => ⟨rfl, e1, (by decide : 0 + 0 ≤ _), (by decide : 0 + 0 ≤ _)⟩)
    dsimp only [Pt.U, Pt.locs, Pt.cells, Pt.slots] at X2 l2 y2 z2 st2 hQ2
    subst l2 y2 z2
    obtain ⟨w2, rfl, r_w2, Nq2, e2⟩ := hQ2
    have N2 := Fr.app N1 Nq2
    refine own_go (fun t k => st2 t k) ?_
    rcases ref_cases r_w2 with rfl | ⟨a_w2, rfl⟩
    · show own_Go p e below _ (T2.setTop (mkF m 10 #[.val (.int p0), .val (.int p1), .val (.int p2), .val (.int p3), .val .null, .unset, .unset, .unset, .unset, .unset, .unset] [.null]))
      refine own_go (fun t k => XS.astore X2.here hx rfl (hb hby at_10) rfl rfl (l' := #[.val (.int p0), .val (.int p1), .val (.int p2), .val (.int p3), .val .null, .val .null, .unset, .unset, .unset, .unset, .unset]) rfl k) ?_
      show own_Go p e below _ (T2.setTop (mkF m 12 #[.val (.int p0), .val (.int p1), .val (.int p2), .val (.int p3), .val .null, .val .null, .unset, .unset, .unset, .unset, .unset] []))
      refine own_go (fun t k => XS.iloadN X2.here hx rfl (hb hby at_12) rfl k) ?_
      show own_Go p e below _ (T2.setTop (mkF m 13 #[.val (.int p0), .val (.int p1), .val (.int p2), .val (.int p3), .val .null, .val .null, .unset, .unset, .unset, .unset, .unset] [(.int p0)]))
      refine own_go (fun t k => XS.aload X2.here hx rfl (hb hby at_13) rfl rfl k) ?_
      show own_Go p e below _ (T2.setTop (mkF m 15 #[.val (.int p0), .val (.int p1), .val (.int p2), .val (.int p3), .val .null, .val .null, .unset, .unset, .unset, .unset, .unset] [.null, (.int p0)]))
      obtain ⟨_, _, ⟨T3, L3, k3, n3⟩, -, X3, ⟨Lc3, hQ3, l3, y3, z3⟩, st3⟩ := Jvm.LawKit.callS X2 hx (y := (⟨"com/example/tariff_reader/tariffreader/text/QualifiersStatesUnitPinLaw", "make", "(ILcom/example/tariff_reader/tariffreader/model/Unit;)Lcom/example/tariff_reader/tariffreader/text/Qualifiers;"⟩ : MethodName)) hown (mvT hZ (hw _ (List.mem_of_getElem? (i := 10) rfl))) (mvT hZ (hw _ (List.mem_of_getElem? (i := 11) rfl))) (mvT hZ (hw _ (List.mem_of_getElem? (i := 2) rfl))) (mvT hZ (hw _ (List.mem_of_getElem? (i := 12) rfl))) (by decide) (backOf (W := 0) (rm8 l Z a0 hw [] p0 .null h0 n0 Z0 XO WW rfl) hZ (hw _ (List.mem_of_getElem? (i := 12) rfl)) (hw _ (List.mem_of_getElem? (i := 2) rfl)) (by decide) (by decide)) (g := (mkF m 15 #[.val (.int p0), .val (.int p1), .val (.int p2), .val (.int p3), .val .null, .val .null, .unset, .unset, .unset, .unset, .unset] [.null, (.int p0)])) rfl (by rw [hml]; rfl) (argsL := [(.int p0), .null]) (rest := []) (lenOf pd0_1 rfl) rfl (by show 2 * 0 + _ ≤ _; exact Nat.le_of_eq rfl) (hb hby at_15) (fun _ _ => ⟨rfl, e2, (by decide : 0 + 3 ≤ _), (by decide : 0 + 11 ≤ _)⟩)
      dsimp only [Pt.U, Pt.locs, Pt.cells, Pt.slots] at X3 l3 y3 z3 st3 hQ3
      subst l3 y3 z3
      obtain ⟨c3, m3_1, m3_2, m3_3, m3_4, m3_5, rfl, Nq3, K3, ge3, G3, r_m3_1, r_m3_2, r_m3_3, r_m3_4, r_m3_5⟩ := hQ3
      have N3 := Fr.app N2 Nq3
      refine own_go (fun t k => st3 t k) ?_
      have g_c3 : n0 ≤ c3 := Nat.le_trans Z0 ge3
      have sz_c3 : h0.size ≤ c3 := Nat.le_trans (Keep.refl h0 []).1 ge3
      have XO__3 := XO.keep K3 all0
      have KP3 := (Keep.refl h0 []).trans K3 all0
      have sz3 := Nat.le_trans Z0 K3.1
      show own_Go p e below _ (T3.setTop (mkF m 18 #[.val (.int p0), .val (.int p1), .val (.int p2), .val (.int p3), .val .null, .val .null, .unset, .unset, .unset, .unset, .unset] [(.ref c3)]))
      refine own_go (fun t k => XS.astore X3.here hx rfl (hb hby at_18) rfl rfl (l' := #[.val (.int p0), .val (.int p1), .val (.int p2), .val (.int p3), .val .null, .val .null, .val (.ref c3), .unset, .unset, .unset, .unset]) rfl k) ?_
      show own_Go p e below _ (T3.setTop (mkF m 20 #[.val (.int p0), .val (.int p1), .val (.int p2), .val (.int p3), .val .null, .val .null, .val (.ref c3), .unset, .unset, .unset, .unset] []))
      refine own_go (fun t k => XS.iloadN X3.here hx rfl (hb hby at_20) rfl k) ?_
      show own_Go p e below _ (T3.setTop (mkF m 21 #[.val (.int p0), .val (.int p1), .val (.int p2), .val (.int p3), .val .null, .val .null, .val (.ref c3), .unset, .unset, .unset, .unset] [(.int p2)]))
      refine own_go (fun t k => XS.aload X3.here hx rfl (hb hby at_21) rfl rfl k) ?_
      show own_Go p e below _ (T3.setTop (mkF m 23 #[.val (.int p0), .val (.int p1), .val (.int p2), .val (.int p3), .val .null, .val .null, .val (.ref c3), .unset, .unset, .unset, .unset] [.null, (.int p2)]))
      obtain ⟨_, _, ⟨T4, L4, k4, n4⟩, -, X4, ⟨Lc4, hQ4, l4, y4, z4⟩, st4⟩ := Jvm.LawKit.callS X3 hx (y := (⟨"com/example/tariff_reader/tariffreader/text/QualifiersStatesUnitPinLaw", "make", "(ILcom/example/tariff_reader/tariffreader/model/Unit;)Lcom/example/tariff_reader/tariffreader/text/Qualifiers;"⟩ : MethodName)) hown (mvT hZ (hw _ (List.mem_of_getElem? (i := 10) rfl))) (mvT hZ (hw _ (List.mem_of_getElem? (i := 11) rfl))) (mvT hZ (hw _ (List.mem_of_getElem? (i := 2) rfl))) (mvT hZ (hw _ (List.mem_of_getElem? (i := 12) rfl))) (by decide) (backOf (W := 0) (rm8 l Z a0 hw [] p2 .null T3.heap n0 sz3 XO__3 WW rfl) hZ (hw _ (List.mem_of_getElem? (i := 12) rfl)) (hw _ (List.mem_of_getElem? (i := 2) rfl)) (by decide) (by decide)) (g := (mkF m 23 #[.val (.int p0), .val (.int p1), .val (.int p2), .val (.int p3), .val .null, .val .null, .val (.ref c3), .unset, .unset, .unset, .unset] [.null, (.int p2)])) rfl (by rw [hml]; rfl) (argsL := [(.int p2), .null]) (rest := []) (lenOf pd0_1 rfl) rfl (by show 2 * 0 + _ ≤ _; exact Nat.le_of_eq rfl) (hb hby at_23) (fun _ _ => ⟨rfl, rfl, (by decide : 0 + 3 + 3 ≤ _), (by decide : 0 + 11 + 11 ≤ _)⟩)
      dsimp only [Pt.U, Pt.locs, Pt.cells, Pt.slots] at X4 l4 y4 z4 st4 hQ4
      subst l4 y4 z4
      obtain ⟨c4, m4_1, m4_2, m4_3, m4_4, m4_5, rfl, Nq4, K4, ge4, G4, r_m4_1, r_m4_2, r_m4_3, r_m4_4, r_m4_5⟩ := hQ4
      have N4 := Fr.app N3 Nq4
      refine own_go (fun t k => st4 t k) ?_
      have g_c4 : n0 ≤ c4 := Nat.le_trans sz3 ge4
      have sz_c4 : h0.size ≤ c4 := Nat.le_trans KP3.1 ge4
      have ne_c3_c4 : c3 ≠ c4 := Nat.ne_of_lt (Nat.lt_of_lt_of_le G3.1.lt ge4)
      have XO__4 := XO__3.keep K4 all0
      have G3__4 := G3.keep K4 nin0
      have KP4 := KP3.trans K4 all0
      have sz4 := Nat.le_trans sz3 K4.1
      show own_Go p e below _ (T4.setTop (mkF m 26 #[.val (.int p0), .val (.int p1), .val (.int p2), .val (.int p3), .val .null, .val .null, .val (.ref c3), .unset, .unset, .unset, .unset] [(.ref c4)]))
      refine own_go (fun t k => XS.astore X4.here hx rfl (hb hby at_26) rfl rfl (l' := #[.val (.int p0), .val (.int p1), .val (.int p2), .val (.int p3), .val .null, .val .null, .val (.ref c3), .val (.ref c4), .unset, .unset, .unset]) rfl k) ?_
      show own_Go p e below _ (T4.setTop (mkF m 28 #[.val (.int p0), .val (.int p1), .val (.int p2), .val (.int p3), .val .null, .val .null, .val (.ref c3), .val (.ref c4), .unset, .unset, .unset] []))
      refine own_go (fun t k => XS.aload X4.here hx rfl (hb hby at_28) rfl rfl k) ?_
      show own_Go p e below _ (T4.setTop (mkF m 30 #[.val (.int p0), .val (.int p1), .val (.int p2), .val (.int p3), .val .null, .val .null, .val (.ref c3), .val (.ref c4), .unset, .unset, .unset] [(.ref c3)]))
      obtain ⟨cq5, kq5, q5a, q5b, q5c⟩ := isOf hZ rfl G3__4.1
      obtain ⟨_, _, ⟨T5, L5, k5, n5⟩, -, X5, ⟨Lc5, hQ5, l5, y5, z5⟩, st5⟩ := X4.virtualBack hx (y := (⟨"com/example/tariff_reader/tariffreader/text/Qualifiers", "statesUnit", "()Z"⟩ : MethodName)) (z := (⟨"com/example/tariff_reader/tariffreader/text/Qualifiers", "statesUnit", "()Z"⟩ : MethodName)) hown (mvT hZ (hw _ (List.mem_of_getElem? (i := 61) rfl))) (mvT hZ (hw _ (List.mem_of_getElem? (i := 62) rfl))) (notFace_of_selects (args := #[]) (mvT hZ (hw _ (List.mem_of_getElem? (i := 64) rfl)))) (mvT hZ (hw _ (List.mem_of_getElem? (i := 64) rfl))) (mvT hZ (hw _ (List.mem_of_getElem? (i := 63) rfl))) (by decide) (backOf (W := 0) (rm9 l Z a0 hw [] c3 .null T4.heap n0 sz4 G3__4.2.2.2.2.2.2 rfl) hZ (hw _ (List.mem_of_getElem? (i := 65) rfl)) (hw _ (List.mem_of_getElem? (i := 44) rfl)) (by decide) (by decide)) q5a q5c (g := (mkF m 30 #[.val (.int p0), .val (.int p1), .val (.int p2), .val (.int p3), .val .null, .val .null, .val (.ref c3), .val (.ref c4), .unset, .unset, .unset] [(.ref c3)])) rfl (by rw [hml]; rfl) (Steps.refl _) (argsL := []) (rest := []) (lenOf pd0_2 rfl) rfl (by show 2 * 0 + _ ≤ _; exact Nat.le_of_eq rfl) (hb hby at_30) (fun _ _ => ⟨rfl, rfl, (by decide : 0 + 3 + 3 + 0 ≤ _), (by decide : 0 + 11 + 11 + 0 ≤ _)⟩)
      dsimp only [Pt.U, Pt.locs, Pt.cells, Pt.slots] at X5 l5 y5 z5 st5 hQ5
      subst l5 y5 z5
      obtain ⟨rfl, Nq5, e5⟩ := hQ5
      have N5 := Fr.app N4 Nq5
      refine own_go (fun t k => st5.trans k) ?_
      show own_Go p e below _ (T5.setTop (mkF m 33 #[.val (.int p0), .val (.int p1), .val (.int p2), .val (.int p3), .val .null, .val .null, .val (.ref c3), .val (.ref c4), .unset, .unset, .unset] [(.int (own_nn .null))]))
      refine own_go (fun t k => XS.istore X5.here hx rfl (hb hby at_33) rfl (l' := #[.val (.int p0), .val (.int p1), .val (.int p2), .val (.int p3), .val .null, .val .null, .val (.ref c3), .val (.ref c4), .val (.int (own_nn .null)), .unset, .unset]) rfl k) ?_
      show own_Go p e below _ (T5.setTop (mkF m 35 #[.val (.int p0), .val (.int p1), .val (.int p2), .val (.int p3), .val .null, .val .null, .val (.ref c3), .val (.ref c4), .val (.int (own_nn .null)), .unset, .unset] []))
      refine own_go (fun t k => XS.aload X5.here hx rfl (hb hby at_35) rfl rfl k) ?_
      show own_Go p e below _ (T5.setTop (mkF m 37 #[.val (.int p0), .val (.int p1), .val (.int p2), .val (.int p3), .val .null, .val .null, .val (.ref c3), .val (.ref c4), .val (.int (own_nn .null)), .unset, .unset] [(.ref c4)]))
      obtain ⟨cq6, kq6, q6a, q6b, q6c⟩ := isOf hZ e5 G4.1
      obtain ⟨_, _, ⟨T6, L6, k6, n6⟩, -, X6, ⟨Lc6, hQ6, l6, y6, z6⟩, st6⟩ := X5.virtualBack hx (y := (⟨"com/example/tariff_reader/tariffreader/text/Qualifiers", "statesUnit", "()Z"⟩ : MethodName)) (z := (⟨"com/example/tariff_reader/tariffreader/text/Qualifiers", "statesUnit", "()Z"⟩ : MethodName)) hown (mvT hZ (hw _ (List.mem_of_getElem? (i := 61) rfl))) (mvT hZ (hw _ (List.mem_of_getElem? (i := 62) rfl))) (notFace_of_selects (args := #[]) (mvT hZ (hw _ (List.mem_of_getElem? (i := 64) rfl)))) (mvT hZ (hw _ (List.mem_of_getElem? (i := 64) rfl))) (mvT hZ (hw _ (List.mem_of_getElem? (i := 63) rfl))) (by decide) (backOf (W := 0) (rm9 l Z a0 hw [] c4 .null T4.heap n0 sz4 G4.2.2.2.2.2.2 rfl) hZ (hw _ (List.mem_of_getElem? (i := 65) rfl)) (hw _ (List.mem_of_getElem? (i := 44) rfl)) (by decide) (by decide)) q6a q6c (g := (mkF m 37 #[.val (.int p0), .val (.int p1), .val (.int p2), .val (.int p3), .val .null, .val .null, .val (.ref c3), .val (.ref c4), .val (.int (own_nn .null)), .unset, .unset] [(.ref c4)])) rfl (by rw [hml]; rfl) (Steps.refl _) (argsL := []) (rest := []) (lenOf pd0_2 rfl) rfl (by show 2 * 0 + _ ≤ _; exact Nat.le_of_eq rfl) (hb hby at_37) (fun _ _ => ⟨rfl, e5, (by decide : 0 + 3 + 3 + 0 ≤ _), (by decide : 0 + 11 + 11 + 0 ≤ _)⟩)
      dsimp only [Pt.U, Pt.locs, Pt.cells, Pt.slots] at X6 l6 y6 z6 st6 hQ6
      subst l6 y6 z6
      obtain ⟨rfl, Nq6, e6⟩ := hQ6
      have N6 := Fr.app N5 Nq6
      refine own_go (fun t k => st6.trans k) ?_
      show own_Go p e below _ (T6.setTop (mkF m 40 #[.val (.int p0), .val (.int p1), .val (.int p2), .val (.int p3), .val .null, .val .null, .val (.ref c3), .val (.ref c4), .val (.int (own_nn .null)), .unset, .unset] [(.int (own_nn .null))]))
      refine own_go (fun t k => XS.istore X6.here hx rfl (hb hby at_40) rfl (l' := #[.val (.int p0), .val (.int p1), .val (.int p2), .val (.int p3), .val .null, .val .null, .val (.ref c3), .val (.ref c4), .val (.int (own_nn .null)), .val (.int (own_nn .null)), .unset]) rfl k) ?_
      show own_Go p e below _ (T6.setTop (mkF m 42 #[.val (.int p0), .val (.int p1), .val (.int p2), .val (.int p3), .val .null, .val .null, .val (.ref c3), .val (.ref c4), .val (.int (own_nn .null)), .val (.int (own_nn .null)), .unset] []))
      refine own_go (fun t k => XS.aload X6.here hx rfl (hb hby at_42) rfl rfl k) ?_
      show own_Go p e below _ (T6.setTop (mkF m 44 #[.val (.int p0), .val (.int p1), .val (.int p2), .val (.int p3), .val .null, .val .null, .val (.ref c3), .val (.ref c4), .val (.int (own_nn .null)), .val (.int (own_nn .null)), .unset] [(.ref c3)]))
      refine own_go (fun t k => XS.aload X6.here hx rfl (hb hby at_44) rfl rfl k) ?_
      show own_Go p e below _ (T6.setTop (mkF m 46 #[.val (.int p0), .val (.int p1), .val (.int p2), .val (.int p3), .val .null, .val .null, .val (.ref c3), .val (.ref c4), .val (.int (own_nn .null)), .val (.int (own_nn .null)), .unset] [(.ref c4), (.ref c3)]))
      obtain ⟨cq7, kq7, q7a, q7b, q7c⟩ := isOf hZ e6 G3__4.1
      obtain ⟨_, _, ⟨T7, L7, k7, n7⟩, -, X7, ⟨Lc7, hQ7, l7, y7, z7⟩, st7⟩ := X6.virtualBack hx (y := (⟨"com/example/tariff_reader/tariffreader/text/Qualifiers", "orElse", "(Lcom/example/tariff_reader/tariffreader/text/Qualifiers;)Lcom/example/tariff_reader/tariffreader/text/Qualifiers;"⟩ : MethodName)) (z := (⟨"com/example/tariff_reader/tariffreader/text/Qualifiers", "orElse", "(Lcom/example/tariff_reader/tariffreader/text/Qualifiers;)Lcom/example/tariff_reader/tariffreader/text/Qualifiers;"⟩ : MethodName)) hown (mvT hZ (hw _ (List.mem_of_getElem? (i := 66) rfl))) (mvT hZ (hw _ (List.mem_of_getElem? (i := 67) rfl))) (notFace_of_selects (args := #[]) (mvT hZ (hw _ (List.mem_of_getElem? (i := 69) rfl)))) (mvT hZ (hw _ (List.mem_of_getElem? (i := 69) rfl))) (mvT hZ (hw _ (List.mem_of_getElem? (i := 68) rfl))) (by decide) (backOf (W := 0) (rm10 l Z a0 hw [] c3 c4 m3_1 m3_2 m3_3 m3_4 m3_5 .null m4_1 m4_2 m4_3 m4_4 m4_5 .null T4.heap n0 sz4 G3__4 G4 r_m3_1 r_m3_2 r_m3_3 r_m3_4 r_m3_5 rfl r_m4_1 r_m4_2 r_m4_3 r_m4_4 r_m4_5 rfl) hZ (hw _ (List.mem_of_getElem? (i := 70) rfl)) (hw _ (List.mem_of_getElem? (i := 44) rfl)) (by decide) (by decide)) q7a q7c (g := (mkF m 46 #[.val (.int p0), .val (.int p1), .val (.int p2), .val (.int p3), .val .null, .val .null, .val (.ref c3), .val (.ref c4), .val (.int (own_nn .null)), .val (.int (own_nn .null)), .unset] [(.ref c4), (.ref c3)])) rfl (by rw [hml]; rfl) (Steps.refl _) (argsL := [(.ref c4)]) (rest := []) (lenOf pd0_3 rfl) rfl (by show 2 * 0 + _ ≤ _; exact Nat.le_of_eq rfl) (hb hby at_46) (fun _ _ => ⟨rfl, e6, (by decide : 0 + 3 + 3 + 1 ≤ _), (by decide : 0 + 11 + 11 + 6 ≤ _)⟩)
      dsimp only [Pt.U, Pt.locs, Pt.cells, Pt.slots] at X7 l7 y7 z7 st7 hQ7
      subst l7 y7 z7
      obtain ⟨c7, m7_1, m7_2, m7_3, m7_4, m7_5, rfl, Nq7, K7, ge7, G7⟩ := hQ7
      have N7 := Fr.app N6 Nq7
      refine own_go (fun t k => st7.trans k) ?_
      have g_c7 : n0 ≤ c7 := Nat.le_trans sz4 ge7
      have sz_c7 : h0.size ≤ c7 := Nat.le_trans KP4.1 ge7
      have ne_c3_c7 : c3 ≠ c7 := Nat.ne_of_lt (Nat.lt_of_lt_of_le G3__4.1.lt ge7)
      have ne_c4_c7 : c4 ≠ c7 := Nat.ne_of_lt (Nat.lt_of_lt_of_le G4.1.lt ge7)
      have XO__7 := XO__4.keep K7 all0
      have G3__7 := G3__4.keep K7 nin0
      have G4__7 := G4.keep K7 nin0
      have KP7 := KP4.trans K7 all0
      have sz7 := Nat.le_trans sz4 K7.1
      show own_Go p e below _ (T7.setTop (mkF m 49 #[.val (.int p0), .val (.int p1), .val (.int p2), .val (.int p3), .val .null, .val .null, .val (.ref c3), .val (.ref c4), .val (.int (own_nn .null)), .val (.int (own_nn .null)), .unset] [(.ref c7)]))
      obtain ⟨cq8, kq8, q8a, q8b, q8c⟩ := isOf hZ rfl G7.1
      obtain ⟨_, _, ⟨T8, L8, k8, n8⟩, -, X8, ⟨Lc8, hQ8, l8, y8, z8⟩, st8⟩ := X7.virtualBack hx (y := (⟨"com/example/tariff_reader/tariffreader/text/Qualifiers", "statesUnit", "()Z"⟩ : MethodName)) (z := (⟨"com/example/tariff_reader/tariffreader/text/Qualifiers", "statesUnit", "()Z"⟩ : MethodName)) hown (mvT hZ (hw _ (List.mem_of_getElem? (i := 61) rfl))) (mvT hZ (hw _ (List.mem_of_getElem? (i := 62) rfl))) (notFace_of_selects (args := #[]) (mvT hZ (hw _ (List.mem_of_getElem? (i := 64) rfl)))) (mvT hZ (hw _ (List.mem_of_getElem? (i := 64) rfl))) (mvT hZ (hw _ (List.mem_of_getElem? (i := 63) rfl))) (by decide) (backOf (W := 0) (rm9 l Z a0 hw [] c7 (own_or .null .null) T7.heap n0 sz7 G7.2.2.2.2.2.2 rfl) hZ (hw _ (List.mem_of_getElem? (i := 65) rfl)) (hw _ (List.mem_of_getElem? (i := 44) rfl)) (by decide) (by decide)) q8a q8c (g := (mkF m 49 #[.val (.int p0), .val (.int p1), .val (.int p2), .val (.int p3), .val .null, .val .null, .val (.ref c3), .val (.ref c4), .val (.int (own_nn .null)), .val (.int (own_nn .null)), .unset] [(.ref c7)])) rfl (by rw [hml]; rfl) (Steps.refl _) (argsL := []) (rest := []) (lenOf pd0_2 rfl) rfl (by show 2 * 0 + _ ≤ _; exact Nat.le_of_eq rfl) (hb hby at_49) (fun _ _ => ⟨rfl, rfl, (by decide : 0 + 3 + 3 + 1 + 0 ≤ _), (by decide : 0 + 11 + 11 + 6 + 0 ≤ _)⟩)
      dsimp only [Pt.U, Pt.locs, Pt.cells, Pt.slots] at X8 l8 y8 z8 st8 hQ8
      subst l8 y8 z8
      obtain ⟨rfl, Nq8, e8⟩ := hQ8
      have N8 := Fr.app N7 Nq8
      refine own_go (fun t k => st8.trans k) ?_
      show own_Go p e below _ (T8.setTop (mkF m 52 #[.val (.int p0), .val (.int p1), .val (.int p2), .val (.int p3), .val .null, .val .null, .val (.ref c3), .val (.ref c4), .val (.int (own_nn .null)), .val (.int (own_nn .null)), .unset] [(.int (own_nn (own_or .null .null)))]))
      refine own_go (fun t k => XS.istore X8.here hx rfl (hb hby at_52) rfl (l' := #[.val (.int p0), .val (.int p1), .val (.int p2), .val (.int p3), .val .null, .val .null, .val (.ref c3), .val (.ref c4), .val (.int (own_nn .null)), .val (.int (own_nn .null)), .val (.int (own_nn (own_or .null .null)))]) rfl k) ?_
      show own_Go p e below _ (T8.setTop (mkF m 54 #[.val (.int p0), .val (.int p1), .val (.int p2), .val (.int p3), .val .null, .val .null, .val (.ref c3), .val (.ref c4), .val (.int (own_nn .null)), .val (.int (own_nn .null)), .val (.int (own_nn (own_or .null .null)))] []))
      refine own_go (fun t k => XS.iload X8.here hx rfl (hb hby at_54) rfl k) ?_
      show own_Go p e below _ (T8.setTop (mkF m 56 #[.val (.int p0), .val (.int p1), .val (.int p2), .val (.int p3), .val .null, .val .null, .val (.ref c3), .val (.ref c4), .val (.int (own_nn .null)), .val (.int (own_nn .null)), .val (.int (own_nn (own_or .null .null)))] [(.int (own_nn .null))]))
      refine own_go (fun t k => XS.aload X8.here hx rfl (hb hby at_56) rfl rfl k) ?_
      show own_Go p e below _ (T8.setTop (mkF m 58 #[.val (.int p0), .val (.int p1), .val (.int p2), .val (.int p3), .val .null, .val .null, .val (.ref c3), .val (.ref c4), .val (.int (own_nn .null)), .val (.int (own_nn .null)), .val (.int (own_nn (own_or .null .null)))] [.null, (.int (own_nn .null))]))
      refine own_go (fun t k => XS.ifnullYes X8.here hx rfl (pc0 := 58) (pc' := 65) rfl (hb hby at_58) rfl (by decide) (by decide) k) ?_
      show own_Go p e below _ (T8.setTop (mkF m 65 #[.val (.int p0), .val (.int p1), .val (.int p2), .val (.int p3), .val .null, .val .null, .val (.ref c3), .val (.ref c4), .val (.int (own_nn .null)), .val (.int (own_nn .null)), .val (.int (own_nn (own_or .null .null)))] [(.int (own_nn .null))]))
      refine own_go (fun t k => XS.iconst X8.here hx rfl (hb hby at_65) k) ?_
      show own_Go p e below _ (T8.setTop (mkF m 66 #[.val (.int p0), .val (.int p1), .val (.int p2), .val (.int p3), .val .null, .val .null, .val (.ref c3), .val (.ref c4), .val (.int (own_nn .null)), .val (.int (own_nn .null)), .val (.int (own_nn (own_or .null .null)))] [(.int (0 : Int32)), (.int (own_nn .null))]))
      refine own_go (fun t k => XS.icmpNo X8.here hx rfl (hb hby at_66) rfl (teq (rfl : (own_nn .null) = (0 : Int32))).2 k) ?_
      show own_Go p e below _ (T8.setTop (mkF m 69 #[.val (.int p0), .val (.int p1), .val (.int p2), .val (.int p3), .val .null, .val .null, .val (.ref c3), .val (.ref c4), .val (.int (own_nn .null)), .val (.int (own_nn .null)), .val (.int (own_nn (own_or .null .null)))] []))
      refine own_go (fun t k => XS.iload X8.here hx rfl (hb hby at_69) rfl k) ?_
      show own_Go p e below _ (T8.setTop (mkF m 71 #[.val (.int p0), .val (.int p1), .val (.int p2), .val (.int p3), .val .null, .val .null, .val (.ref c3), .val (.ref c4), .val (.int (own_nn .null)), .val (.int (own_nn .null)), .val (.int (own_nn (own_or .null .null)))] [(.int (own_nn .null))]))
      refine own_go (fun t k => XS.aload X8.here hx rfl (hb hby at_71) rfl rfl k) ?_
      show own_Go p e below _ (T8.setTop (mkF m 73 #[.val (.int p0), .val (.int p1), .val (.int p2), .val (.int p3), .val .null, .val .null, .val (.ref c3), .val (.ref c4), .val (.int (own_nn .null)), .val (.int (own_nn .null)), .val (.int (own_nn (own_or .null .null)))] [.null, (.int (own_nn .null))]))
      refine own_go (fun t k => XS.ifnullYes X8.here hx rfl (pc0 := 73) (pc' := 80) rfl (hb hby at_73) rfl (by decide) (by decide) k) ?_
      show own_Go p e below _ (T8.setTop (mkF m 80 #[.val (.int p0), .val (.int p1), .val (.int p2), .val (.int p3), .val .null, .val .null, .val (.ref c3), .val (.ref c4), .val (.int (own_nn .null)), .val (.int (own_nn .null)), .val (.int (own_nn (own_or .null .null)))] [(.int (own_nn .null))]))
      refine own_go (fun t k => XS.iconst X8.here hx rfl (hb hby at_80) k) ?_
      show own_Go p e below _ (T8.setTop (mkF m 81 #[.val (.int p0), .val (.int p1), .val (.int p2), .val (.int p3), .val .null, .val .null, .val (.ref c3), .val (.ref c4), .val (.int (own_nn .null)), .val (.int (own_nn .null)), .val (.int (own_nn (own_or .null .null)))] [(.int (0 : Int32)), (.int (own_nn .null))]))
      refine own_go (fun t k => XS.icmpNo X8.here hx rfl (hb hby at_81) rfl (teq (rfl : (own_nn .null) = (0 : Int32))).2 k) ?_
      show own_Go p e below _ (T8.setTop (mkF m 84 #[.val (.int p0), .val (.int p1), .val (.int p2), .val (.int p3), .val .null, .val .null, .val (.ref c3), .val (.ref c4), .val (.int (own_nn .null)), .val (.int (own_nn .null)), .val (.int (own_nn (own_or .null .null)))] []))
      refine own_go (fun t k => XS.iload X8.here hx rfl (hb hby at_84) rfl k) ?_
      show own_Go p e below _ (T8.setTop (mkF m 86 #[.val (.int p0), .val (.int p1), .val (.int p2), .val (.int p3), .val .null, .val .null, .val (.ref c3), .val (.ref c4), .val (.int (own_nn .null)), .val (.int (own_nn .null)), .val (.int (own_nn (own_or .null .null)))] [(.int (own_nn (own_or .null .null)))]))
      refine own_go (fun t k => XS.iload X8.here hx rfl (hb hby at_86) rfl k) ?_
      show own_Go p e below _ (T8.setTop (mkF m 88 #[.val (.int p0), .val (.int p1), .val (.int p2), .val (.int p3), .val .null, .val .null, .val (.ref c3), .val (.ref c4), .val (.int (own_nn .null)), .val (.int (own_nn .null)), .val (.int (own_nn (own_or .null .null)))] [(.int (own_nn .null)), (.int (own_nn (own_or .null .null)))]))
      refine own_go (fun t k => XS.ifNo X8.here hx rfl (hb hby at_88) rfl ((if0 _ _).trans (teq (rfl : (own_nn .null) = (0 : Int32))).2) k) ?_
      show own_Go p e below _ (T8.setTop (mkF m 91 #[.val (.int p0), .val (.int p1), .val (.int p2), .val (.int p3), .val .null, .val .null, .val (.ref c3), .val (.ref c4), .val (.int (own_nn .null)), .val (.int (own_nn .null)), .val (.int (own_nn (own_or .null .null)))] [(.int (own_nn (own_or .null .null)))]))
      refine own_go (fun t k => XS.iload X8.here hx rfl (hb hby at_91) rfl k) ?_
      show own_Go p e below _ (T8.setTop (mkF m 93 #[.val (.int p0), .val (.int p1), .val (.int p2), .val (.int p3), .val .null, .val .null, .val (.ref c3), .val (.ref c4), .val (.int (own_nn .null)), .val (.int (own_nn .null)), .val (.int (own_nn (own_or .null .null)))] [(.int (own_nn .null)), (.int (own_nn (own_or .null .null)))]))
      refine own_go (fun t k => XS.ifYes X8.here hx rfl (pc0 := 93) (pc' := 100) rfl (hb hby at_93) rfl ((if0 _ _).trans (teq (rfl : (own_nn .null) = (0 : Int32))).1) (by decide) (by decide) k) ?_
      show own_Go p e below _ (T8.setTop (mkF m 100 #[.val (.int p0), .val (.int p1), .val (.int p2), .val (.int p3), .val .null, .val .null, .val (.ref c3), .val (.ref c4), .val (.int (own_nn .null)), .val (.int (own_nn .null)), .val (.int (own_nn (own_or .null .null)))] [(.int (own_nn (own_or .null .null)))]))
      refine own_go (fun t k => XS.iconst X8.here hx rfl (hb hby at_100) k) ?_
      show own_Go p e below _ (T8.setTop (mkF m 101 #[.val (.int p0), .val (.int p1), .val (.int p2), .val (.int p3), .val .null, .val .null, .val (.ref c3), .val (.ref c4), .val (.int (own_nn .null)), .val (.int (own_nn .null)), .val (.int (own_nn (own_or .null .null)))] [(.int (0 : Int32)), (.int (own_nn (own_or .null .null)))]))
      refine own_go (fun t k => XS.icmpNo X8.here hx rfl (hb hby at_101) rfl (teq (rfl : (own_nn (own_or .null .null)) = (0 : Int32))).2 k) ?_
      show own_Go p e below _ (T8.setTop (mkF m 104 #[.val (.int p0), .val (.int p1), .val (.int p2), .val (.int p3), .val .null, .val .null, .val (.ref c3), .val (.ref c4), .val (.int (own_nn .null)), .val (.int (own_nn .null)), .val (.int (own_nn (own_or .null .null)))] []))
      refine own_go (fun t k => XS.iconst X8.here hx rfl (hb hby at_104) k) ?_
      show own_Go p e below _ (T8.setTop (mkF m 105 #[.val (.int p0), .val (.int p1), .val (.int p2), .val (.int p3), .val .null, .val .null, .val (.ref c3), .val (.ref c4), .val (.int (own_nn .null)), .val (.int (own_nn .null)), .val (.int (own_nn (own_or .null .null)))] [(.int (1 : Int32))]))
      refine own_go (fun t k => XS.goto X8.here hx rfl (pc0 := 105) (pc' := 109) rfl (hb hby at_105) (by decide) (by decide) k) ?_
      show own_Go p e below _ (T8.setTop (mkF m 109 #[.val (.int p0), .val (.int p1), .val (.int p2), .val (.int p3), .val .null, .val .null, .val (.ref c3), .val (.ref c4), .val (.int (own_nn .null)), .val (.int (own_nn .null)), .val (.int (own_nn (own_or .null .null)))] [(.int (1 : Int32))]))
      exact own_retN X8 hx (t := .boolean) Bd.returns (by simp) (hb hby at_109) (⟨rfl, N8⟩) (by decide) (by decide)
    · show own_Go p e below _ (T2.setTop (mkF m 10 #[.val (.int p0), .val (.int p1), .val (.int p2), .val (.int p3), .val .null, .unset, .unset, .unset, .unset, .unset, .unset] [(.ref a_w2)]))
      refine own_go (fun t k => XS.astore X2.here hx rfl (hb hby at_10) rfl rfl (l' := #[.val (.int p0), .val (.int p1), .val (.int p2), .val (.int p3), .val .null, .val (.ref a_w2), .unset, .unset, .unset, .unset, .unset]) rfl k) ?_
      show own_Go p e below _ (T2.setTop (mkF m 12 #[.val (.int p0), .val (.int p1), .val (.int p2), .val (.int p3), .val .null, .val (.ref a_w2), .unset, .unset, .unset, .unset, .unset] []))
      refine own_go (fun t k => XS.iloadN X2.here hx rfl (hb hby at_12) rfl k) ?_
      show own_Go p e below _ (T2.setTop (mkF m 13 #[.val (.int p0), .val (.int p1), .val (.int p2), .val (.int p3), .val .null, .val (.ref a_w2), .unset, .unset, .unset, .unset, .unset] [(.int p0)]))
      refine own_go (fun t k => XS.aload X2.here hx rfl (hb hby at_13) rfl rfl k) ?_
      show own_Go p e below _ (T2.setTop (mkF m 15 #[.val (.int p0), .val (.int p1), .val (.int p2), .val (.int p3), .val .null, .val (.ref a_w2), .unset, .unset, .unset, .unset, .unset] [.null, (.int p0)]))
      obtain ⟨_, _, ⟨T9, L9, k9, n9⟩, -, X9, ⟨Lc9, hQ9, l9, y9, z9⟩, st9⟩ := Jvm.LawKit.callS X2 hx (y := (⟨"com/example/tariff_reader/tariffreader/text/QualifiersStatesUnitPinLaw", "make", "(ILcom/example/tariff_reader/tariffreader/model/Unit;)Lcom/example/tariff_reader/tariffreader/text/Qualifiers;"⟩ : MethodName)) hown (mvT hZ (hw _ (List.mem_of_getElem? (i := 10) rfl))) (mvT hZ (hw _ (List.mem_of_getElem? (i := 11) rfl))) (mvT hZ (hw _ (List.mem_of_getElem? (i := 2) rfl))) (mvT hZ (hw _ (List.mem_of_getElem? (i := 12) rfl))) (by decide) (backOf (W := 0) (rm8 l Z a0 hw [] p0 .null h0 n0 Z0 XO WW rfl) hZ (hw _ (List.mem_of_getElem? (i := 12) rfl)) (hw _ (List.mem_of_getElem? (i := 2) rfl)) (by decide) (by decide)) (g := (mkF m 15 #[.val (.int p0), .val (.int p1), .val (.int p2), .val (.int p3), .val .null, .val (.ref a_w2), .unset, .unset, .unset, .unset, .unset] [.null, (.int p0)])) rfl (by rw [hml]; rfl) (argsL := [(.int p0), .null]) (rest := []) (lenOf pd0_1 rfl) rfl (by show 2 * 0 + _ ≤ _; exact Nat.le_of_eq rfl) (hb hby at_15) (fun _ _ => ⟨rfl, e2, (by decide : 0 + 3 ≤ _), (by decide : 0 + 11 ≤ _)⟩)
      dsimp only [Pt.U, Pt.locs, Pt.cells, Pt.slots] at X9 l9 y9 z9 st9 hQ9
      subst l9 y9 z9
      obtain ⟨c9, m9_1, m9_2, m9_3, m9_4, m9_5, rfl, Nq9, K9, ge9, G9, r_m9_1, r_m9_2, r_m9_3, r_m9_4, r_m9_5⟩ := hQ9
      have N9 := Fr.app N2 Nq9
      refine own_go (fun t k => st9 t k) ?_
      have g_c9 : n0 ≤ c9 := Nat.le_trans Z0 ge9
      have sz_c9 : h0.size ≤ c9 := Nat.le_trans (Keep.refl h0 []).1 ge9
      have XO__9 := XO.keep K9 all0
      have KP9 := (Keep.refl h0 []).trans K9 all0
      have sz9 := Nat.le_trans Z0 K9.1
      show own_Go p e below _ (T9.setTop (mkF m 18 #[.val (.int p0), .val (.int p1), .val (.int p2), .val (.int p3), .val .null, .val (.ref a_w2), .unset, .unset, .unset, .unset, .unset] [(.ref c9)]))
      refine own_go (fun t k => XS.astore X9.here hx rfl (hb hby at_18) rfl rfl (l' := #[.val (.int p0), .val (.int p1), .val (.int p2), .val (.int p3), .val .null, .val (.ref a_w2), .val (.ref c9), .unset, .unset, .unset, .unset]) rfl k) ?_
      show own_Go p e below _ (T9.setTop (mkF m 20 #[.val (.int p0), .val (.int p1), .val (.int p2), .val (.int p3), .val .null, .val (.ref a_w2), .val (.ref c9), .unset, .unset, .unset, .unset] []))
      refine own_go (fun t k => XS.iloadN X9.here hx rfl (hb hby at_20) rfl k) ?_
      show own_Go p e below _ (T9.setTop (mkF m 21 #[.val (.int p0), .val (.int p1), .val (.int p2), .val (.int p3), .val .null, .val (.ref a_w2), .val (.ref c9), .unset, .unset, .unset, .unset] [(.int p2)]))
      refine own_go (fun t k => XS.aload X9.here hx rfl (hb hby at_21) rfl rfl k) ?_
      show own_Go p e below _ (T9.setTop (mkF m 23 #[.val (.int p0), .val (.int p1), .val (.int p2), .val (.int p3), .val .null, .val (.ref a_w2), .val (.ref c9), .unset, .unset, .unset, .unset] [(.ref a_w2), (.int p2)]))
      obtain ⟨_, _, ⟨T10, L10, k10, n10⟩, -, X10, ⟨Lc10, hQ10, l10, y10, z10⟩, st10⟩ := Jvm.LawKit.callS X9 hx (y := (⟨"com/example/tariff_reader/tariffreader/text/QualifiersStatesUnitPinLaw", "make", "(ILcom/example/tariff_reader/tariffreader/model/Unit;)Lcom/example/tariff_reader/tariffreader/text/Qualifiers;"⟩ : MethodName)) hown (mvT hZ (hw _ (List.mem_of_getElem? (i := 10) rfl))) (mvT hZ (hw _ (List.mem_of_getElem? (i := 11) rfl))) (mvT hZ (hw _ (List.mem_of_getElem? (i := 2) rfl))) (mvT hZ (hw _ (List.mem_of_getElem? (i := 12) rfl))) (by decide) (backOf (W := 0) (rm8 l Z a0 hw [] p2 (.ref a_w2) T9.heap n0 sz9 XO__9 WW rfl) hZ (hw _ (List.mem_of_getElem? (i := 12) rfl)) (hw _ (List.mem_of_getElem? (i := 2) rfl)) (by decide) (by decide)) (g := (mkF m 23 #[.val (.int p0), .val (.int p1), .val (.int p2), .val (.int p3), .val .null, .val (.ref a_w2), .val (.ref c9), .unset, .unset, .unset, .unset] [(.ref a_w2), (.int p2)])) rfl (by rw [hml]; rfl) (argsL := [(.int p2), (.ref a_w2)]) (rest := []) (lenOf pd0_1 rfl) rfl (by show 2 * 0 + _ ≤ _; exact Nat.le_of_eq rfl) (hb hby at_23) (fun _ _ => ⟨rfl, rfl, (by decide : 0 + 3 + 3 ≤ _), (by decide : 0 + 11 + 11 ≤ _)⟩)
      dsimp only [Pt.U, Pt.locs, Pt.cells, Pt.slots] at X10 l10 y10 z10 st10 hQ10
      subst l10 y10 z10
      obtain ⟨c10, m10_1, m10_2, m10_3, m10_4, m10_5, rfl, Nq10, K10, ge10, G10, r_m10_1, r_m10_2, r_m10_3, r_m10_4, r_m10_5⟩ := hQ10
      have N10 := Fr.app N9 Nq10
      refine own_go (fun t k => st10 t k) ?_
      have g_c10 : n0 ≤ c10 := Nat.le_trans sz9 ge10
      have sz_c10 : h0.size ≤ c10 := Nat.le_trans KP9.1 ge10
      have ne_c9_c10 : c9 ≠ c10 := Nat.ne_of_lt (Nat.lt_of_lt_of_le G9.1.lt ge10)
      have XO__10 := XO__9.keep K10 all0
      have G9__10 := G9.keep K10 nin0
      have KP10 := KP9.trans K10 all0
      have sz10 := Nat.le_trans sz9 K10.1
      show own_Go p e below _ (T10.setTop (mkF m 26 #[.val (.int p0), .val (.int p1), .val (.int p2), .val (.int p3), .val .null, .val (.ref a_w2), .val (.ref c9), .unset, .unset, .unset, .unset] [(.ref c10)]))
      refine own_go (fun t k => XS.astore X10.here hx rfl (hb hby at_26) rfl rfl (l' := #[.val (.int p0), .val (.int p1), .val (.int p2), .val (.int p3), .val .null, .val (.ref a_w2), .val (.ref c9), .val (.ref c10), .unset, .unset, .unset]) rfl k) ?_
      show own_Go p e below _ (T10.setTop (mkF m 28 #[.val (.int p0), .val (.int p1), .val (.int p2), .val (.int p3), .val .null, .val (.ref a_w2), .val (.ref c9), .val (.ref c10), .unset, .unset, .unset] []))
      refine own_go (fun t k => XS.aload X10.here hx rfl (hb hby at_28) rfl rfl k) ?_
      show own_Go p e below _ (T10.setTop (mkF m 30 #[.val (.int p0), .val (.int p1), .val (.int p2), .val (.int p3), .val .null, .val (.ref a_w2), .val (.ref c9), .val (.ref c10), .unset, .unset, .unset] [(.ref c9)]))
      obtain ⟨cq11, kq11, q11a, q11b, q11c⟩ := isOf hZ rfl G9__10.1
      obtain ⟨_, _, ⟨T11, L11, k11, n11⟩, -, X11, ⟨Lc11, hQ11, l11, y11, z11⟩, st11⟩ := X10.virtualBack hx (y := (⟨"com/example/tariff_reader/tariffreader/text/Qualifiers", "statesUnit", "()Z"⟩ : MethodName)) (z := (⟨"com/example/tariff_reader/tariffreader/text/Qualifiers", "statesUnit", "()Z"⟩ : MethodName)) hown (mvT hZ (hw _ (List.mem_of_getElem? (i := 61) rfl))) (mvT hZ (hw _ (List.mem_of_getElem? (i := 62) rfl))) (notFace_of_selects (args := #[]) (mvT hZ (hw _ (List.mem_of_getElem? (i := 64) rfl)))) (mvT hZ (hw _ (List.mem_of_getElem? (i := 64) rfl))) (mvT hZ (hw _ (List.mem_of_getElem? (i := 63) rfl))) (by decide) (backOf (W := 0) (rm9 l Z a0 hw [] c9 .null T10.heap n0 sz10 G9__10.2.2.2.2.2.2 rfl) hZ (hw _ (List.mem_of_getElem? (i := 65) rfl)) (hw _ (List.mem_of_getElem? (i := 44) rfl)) (by decide) (by decide)) q11a q11c (g := (mkF m 30 #[.val (.int p0), .val (.int p1), .val (.int p2), .val (.int p3), .val .null, .val (.ref a_w2), .val (.ref c9), .val (.ref c10), .unset, .unset, .unset] [(.ref c9)])) rfl (by rw [hml]; rfl) (Steps.refl _) (argsL := []) (rest := []) (lenOf pd0_2 rfl) rfl (by show 2 * 0 + _ ≤ _; exact Nat.le_of_eq rfl) (hb hby at_30) (fun _ _ => ⟨rfl, rfl, (by decide : 0 + 3 + 3 + 0 ≤ _), (by decide : 0 + 11 + 11 + 0 ≤ _)⟩)
      dsimp only [Pt.U, Pt.locs, Pt.cells, Pt.slots] at X11 l11 y11 z11 st11 hQ11
      subst l11 y11 z11
      obtain ⟨rfl, Nq11, e11⟩ := hQ11
      have N11 := Fr.app N10 Nq11
      refine own_go (fun t k => st11.trans k) ?_
      show own_Go p e below _ (T11.setTop (mkF m 33 #[.val (.int p0), .val (.int p1), .val (.int p2), .val (.int p3), .val .null, .val (.ref a_w2), .val (.ref c9), .val (.ref c10), .unset, .unset, .unset] [(.int (own_nn .null))]))
      refine own_go (fun t k => XS.istore X11.here hx rfl (hb hby at_33) rfl (l' := #[.val (.int p0), .val (.int p1), .val (.int p2), .val (.int p3), .val .null, .val (.ref a_w2), .val (.ref c9), .val (.ref c10), .val (.int (own_nn .null)), .unset, .unset]) rfl k) ?_
      show own_Go p e below _ (T11.setTop (mkF m 35 #[.val (.int p0), .val (.int p1), .val (.int p2), .val (.int p3), .val .null, .val (.ref a_w2), .val (.ref c9), .val (.ref c10), .val (.int (own_nn .null)), .unset, .unset] []))
      refine own_go (fun t k => XS.aload X11.here hx rfl (hb hby at_35) rfl rfl k) ?_
      show own_Go p e below _ (T11.setTop (mkF m 37 #[.val (.int p0), .val (.int p1), .val (.int p2), .val (.int p3), .val .null, .val (.ref a_w2), .val (.ref c9), .val (.ref c10), .val (.int (own_nn .null)), .unset, .unset] [(.ref c10)]))
      obtain ⟨cq12, kq12, q12a, q12b, q12c⟩ := isOf hZ e11 G10.1
      obtain ⟨_, _, ⟨T12, L12, k12, n12⟩, -, X12, ⟨Lc12, hQ12, l12, y12, z12⟩, st12⟩ := X11.virtualBack hx (y := (⟨"com/example/tariff_reader/tariffreader/text/Qualifiers", "statesUnit", "()Z"⟩ : MethodName)) (z := (⟨"com/example/tariff_reader/tariffreader/text/Qualifiers", "statesUnit", "()Z"⟩ : MethodName)) hown (mvT hZ (hw _ (List.mem_of_getElem? (i := 61) rfl))) (mvT hZ (hw _ (List.mem_of_getElem? (i := 62) rfl))) (notFace_of_selects (args := #[]) (mvT hZ (hw _ (List.mem_of_getElem? (i := 64) rfl)))) (mvT hZ (hw _ (List.mem_of_getElem? (i := 64) rfl))) (mvT hZ (hw _ (List.mem_of_getElem? (i := 63) rfl))) (by decide) (backOf (W := 0) (rm9 l Z a0 hw [] c10 (.ref a_w2) T10.heap n0 sz10 G10.2.2.2.2.2.2 rfl) hZ (hw _ (List.mem_of_getElem? (i := 65) rfl)) (hw _ (List.mem_of_getElem? (i := 44) rfl)) (by decide) (by decide)) q12a q12c (g := (mkF m 37 #[.val (.int p0), .val (.int p1), .val (.int p2), .val (.int p3), .val .null, .val (.ref a_w2), .val (.ref c9), .val (.ref c10), .val (.int (own_nn .null)), .unset, .unset] [(.ref c10)])) rfl (by rw [hml]; rfl) (Steps.refl _) (argsL := []) (rest := []) (lenOf pd0_2 rfl) rfl (by show 2 * 0 + _ ≤ _; exact Nat.le_of_eq rfl) (hb hby at_37) (fun _ _ => ⟨rfl, e11, (by decide : 0 + 3 + 3 + 0 ≤ _), (by decide : 0 + 11 + 11 + 0 ≤ _)⟩)
      dsimp only [Pt.U, Pt.locs, Pt.cells, Pt.slots] at X12 l12 y12 z12 st12 hQ12
      subst l12 y12 z12
      obtain ⟨rfl, Nq12, e12⟩ := hQ12
      have N12 := Fr.app N11 Nq12
      refine own_go (fun t k => st12.trans k) ?_
      show own_Go p e below _ (T12.setTop (mkF m 40 #[.val (.int p0), .val (.int p1), .val (.int p2), .val (.int p3), .val .null, .val (.ref a_w2), .val (.ref c9), .val (.ref c10), .val (.int (own_nn .null)), .unset, .unset] [(.int (own_nn (.ref a_w2)))]))
      refine own_go (fun t k => XS.istore X12.here hx rfl (hb hby at_40) rfl (l' := #[.val (.int p0), .val (.int p1), .val (.int p2), .val (.int p3), .val .null, .val (.ref a_w2), .val (.ref c9), .val (.ref c10), .val (.int (own_nn .null)), .val (.int (own_nn (.ref a_w2))), .unset]) rfl k) ?_
      show own_Go p e below _ (T12.setTop (mkF m 42 #[.val (.int p0), .val (.int p1), .val (.int p2), .val (.int p3), .val .null, .val (.ref a_w2), .val (.ref c9), .val (.ref c10), .val (.int (own_nn .null)), .val (.int (own_nn (.ref a_w2))), .unset] []))
      refine own_go (fun t k => XS.aload X12.here hx rfl (hb hby at_42) rfl rfl k) ?_
      show own_Go p e below _ (T12.setTop (mkF m 44 #[.val (.int p0), .val (.int p1), .val (.int p2), .val (.int p3), .val .null, .val (.ref a_w2), .val (.ref c9), .val (.ref c10), .val (.int (own_nn .null)), .val (.int (own_nn (.ref a_w2))), .unset] [(.ref c9)]))
      refine own_go (fun t k => XS.aload X12.here hx rfl (hb hby at_44) rfl rfl k) ?_
      show own_Go p e below _ (T12.setTop (mkF m 46 #[.val (.int p0), .val (.int p1), .val (.int p2), .val (.int p3), .val .null, .val (.ref a_w2), .val (.ref c9), .val (.ref c10), .val (.int (own_nn .null)), .val (.int (own_nn (.ref a_w2))), .unset] [(.ref c10), (.ref c9)]))
      obtain ⟨cq13, kq13, q13a, q13b, q13c⟩ := isOf hZ e12 G9__10.1
      obtain ⟨_, _, ⟨T13, L13, k13, n13⟩, -, X13, ⟨Lc13, hQ13, l13, y13, z13⟩, st13⟩ := X12.virtualBack hx (y := (⟨"com/example/tariff_reader/tariffreader/text/Qualifiers", "orElse", "(Lcom/example/tariff_reader/tariffreader/text/Qualifiers;)Lcom/example/tariff_reader/tariffreader/text/Qualifiers;"⟩ : MethodName)) (z := (⟨"com/example/tariff_reader/tariffreader/text/Qualifiers", "orElse", "(Lcom/example/tariff_reader/tariffreader/text/Qualifiers;)Lcom/example/tariff_reader/tariffreader/text/Qualifiers;"⟩ : MethodName)) hown (mvT hZ (hw _ (List.mem_of_getElem? (i := 66) rfl))) (mvT hZ (hw _ (List.mem_of_getElem? (i := 67) rfl))) (notFace_of_selects (args := #[]) (mvT hZ (hw _ (List.mem_of_getElem? (i := 69) rfl)))) (mvT hZ (hw _ (List.mem_of_getElem? (i := 69) rfl))) (mvT hZ (hw _ (List.mem_of_getElem? (i := 68) rfl))) (by decide) (backOf (W := 0) (rm10 l Z a0 hw [] c9 c10 m9_1 m9_2 m9_3 m9_4 m9_5 .null m10_1 m10_2 m10_3 m10_4 m10_5 (.ref a_w2) T10.heap n0 sz10 G9__10 G10 r_m9_1 r_m9_2 r_m9_3 r_m9_4 r_m9_5 rfl r_m10_1 r_m10_2 r_m10_3 r_m10_4 r_m10_5 rfl) hZ (hw _ (List.mem_of_getElem? (i := 70) rfl)) (hw _ (List.mem_of_getElem? (i := 44) rfl)) (by decide) (by decide)) q13a q13c (g := (mkF m 46 #[.val (.int p0), .val (.int p1), .val (.int p2), .val (.int p3), .val .null, .val (.ref a_w2), .val (.ref c9), .val (.ref c10), .val (.int (own_nn .null)), .val (.int (own_nn (.ref a_w2))), .unset] [(.ref c10), (.ref c9)])) rfl (by rw [hml]; rfl) (Steps.refl _) (argsL := [(.ref c10)]) (rest := []) (lenOf pd0_3 rfl) rfl (by show 2 * 0 + _ ≤ _; exact Nat.le_of_eq rfl) (hb hby at_46) (fun _ _ => ⟨rfl, e12, (by decide : 0 + 3 + 3 + 1 ≤ _), (by decide : 0 + 11 + 11 + 6 ≤ _)⟩)
      dsimp only [Pt.U, Pt.locs, Pt.cells, Pt.slots] at X13 l13 y13 z13 st13 hQ13
      subst l13 y13 z13
      obtain ⟨c13, m13_1, m13_2, m13_3, m13_4, m13_5, rfl, Nq13, K13, ge13, G13⟩ := hQ13
      have N13 := Fr.app N12 Nq13
      refine own_go (fun t k => st13.trans k) ?_
      have g_c13 : n0 ≤ c13 := Nat.le_trans sz10 ge13
      have sz_c13 : h0.size ≤ c13 := Nat.le_trans KP10.1 ge13
      have ne_c9_c13 : c9 ≠ c13 := Nat.ne_of_lt (Nat.lt_of_lt_of_le G9__10.1.lt ge13)
      have ne_c10_c13 : c10 ≠ c13 := Nat.ne_of_lt (Nat.lt_of_lt_of_le G10.1.lt ge13)
      have XO__13 := XO__10.keep K13 all0
      have G9__13 := G9__10.keep K13 nin0
      have G10__13 := G10.keep K13 nin0
      have KP13 := KP10.trans K13 all0
      have sz13 := Nat.le_trans sz10 K13.1
      show own_Go p e below _ (T13.setTop (mkF m 49 #[.val (.int p0), .val (.int p1), .val (.int p2), .val (.int p3), .val .null, .val (.ref a_w2), .val (.ref c9), .val (.ref c10), .val (.int (own_nn .null)), .val (.int (own_nn (.ref a_w2))), .unset] [(.ref c13)]))
      obtain ⟨cq14, kq14, q14a, q14b, q14c⟩ := isOf hZ rfl G13.1
      obtain ⟨_, _, ⟨T14, L14, k14, n14⟩, -, X14, ⟨Lc14, hQ14, l14, y14, z14⟩, st14⟩ := X13.virtualBack hx (y := (⟨"com/example/tariff_reader/tariffreader/text/Qualifiers", "statesUnit", "()Z"⟩ : MethodName)) (z := (⟨"com/example/tariff_reader/tariffreader/text/Qualifiers", "statesUnit", "()Z"⟩ : MethodName)) hown (mvT hZ (hw _ (List.mem_of_getElem? (i := 61) rfl))) (mvT hZ (hw _ (List.mem_of_getElem? (i := 62) rfl))) (notFace_of_selects (args := #[]) (mvT hZ (hw _ (List.mem_of_getElem? (i := 64) rfl)))) (mvT hZ (hw _ (List.mem_of_getElem? (i := 64) rfl))) (mvT hZ (hw _ (List.mem_of_getElem? (i := 63) rfl))) (by decide) (backOf (W := 0) (rm9 l Z a0 hw [] c13 (own_or .null (.ref a_w2)) T13.heap n0 sz13 G13.2.2.2.2.2.2 rfl) hZ (hw _ (List.mem_of_getElem? (i := 65) rfl)) (hw _ (List.mem_of_getElem? (i := 44) rfl)) (by decide) (by decide)) q14a q14c (g := (mkF m 49 #[.val (.int p0), .val (.int p1), .val (.int p2), .val (.int p3), .val .null, .val (.ref a_w2), .val (.ref c9), .val (.ref c10), .val (.int (own_nn .null)), .val (.int (own_nn (.ref a_w2))), .unset] [(.ref c13)])) rfl (by rw [hml]; rfl) (Steps.refl _) (argsL := []) (rest := []) (lenOf pd0_2 rfl) rfl (by show 2 * 0 + _ ≤ _; exact Nat.le_of_eq rfl) (hb hby at_49) (fun _ _ => ⟨rfl, rfl, (by decide : 0 + 3 + 3 + 1 + 0 ≤ _), (by decide : 0 + 11 + 11 + 6 + 0 ≤ _)⟩)
      dsimp only [Pt.U, Pt.locs, Pt.cells, Pt.slots] at X14 l14 y14 z14 st14 hQ14
      subst l14 y14 z14
      obtain ⟨rfl, Nq14, e14⟩ := hQ14
      have N14 := Fr.app N13 Nq14
      refine own_go (fun t k => st14.trans k) ?_
      show own_Go p e below _ (T14.setTop (mkF m 52 #[.val (.int p0), .val (.int p1), .val (.int p2), .val (.int p3), .val .null, .val (.ref a_w2), .val (.ref c9), .val (.ref c10), .val (.int (own_nn .null)), .val (.int (own_nn (.ref a_w2))), .unset] [(.int (own_nn (own_or .null (.ref a_w2))))]))
      refine own_go (fun t k => XS.istore X14.here hx rfl (hb hby at_52) rfl (l' := #[.val (.int p0), .val (.int p1), .val (.int p2), .val (.int p3), .val .null, .val (.ref a_w2), .val (.ref c9), .val (.ref c10), .val (.int (own_nn .null)), .val (.int (own_nn (.ref a_w2))), .val (.int (own_nn (own_or .null (.ref a_w2))))]) rfl k) ?_
      show own_Go p e below _ (T14.setTop (mkF m 54 #[.val (.int p0), .val (.int p1), .val (.int p2), .val (.int p3), .val .null, .val (.ref a_w2), .val (.ref c9), .val (.ref c10), .val (.int (own_nn .null)), .val (.int (own_nn (.ref a_w2))), .val (.int (own_nn (own_or .null (.ref a_w2))))] []))
      refine own_go (fun t k => XS.iload X14.here hx rfl (hb hby at_54) rfl k) ?_
      show own_Go p e below _ (T14.setTop (mkF m 56 #[.val (.int p0), .val (.int p1), .val (.int p2), .val (.int p3), .val .null, .val (.ref a_w2), .val (.ref c9), .val (.ref c10), .val (.int (own_nn .null)), .val (.int (own_nn (.ref a_w2))), .val (.int (own_nn (own_or .null (.ref a_w2))))] [(.int (own_nn .null))]))
      refine own_go (fun t k => XS.aload X14.here hx rfl (hb hby at_56) rfl rfl k) ?_
      show own_Go p e below _ (T14.setTop (mkF m 58 #[.val (.int p0), .val (.int p1), .val (.int p2), .val (.int p3), .val .null, .val (.ref a_w2), .val (.ref c9), .val (.ref c10), .val (.int (own_nn .null)), .val (.int (own_nn (.ref a_w2))), .val (.int (own_nn (own_or .null (.ref a_w2))))] [.null, (.int (own_nn .null))]))
      refine own_go (fun t k => XS.ifnullYes X14.here hx rfl (pc0 := 58) (pc' := 65) rfl (hb hby at_58) rfl (by decide) (by decide) k) ?_
      show own_Go p e below _ (T14.setTop (mkF m 65 #[.val (.int p0), .val (.int p1), .val (.int p2), .val (.int p3), .val .null, .val (.ref a_w2), .val (.ref c9), .val (.ref c10), .val (.int (own_nn .null)), .val (.int (own_nn (.ref a_w2))), .val (.int (own_nn (own_or .null (.ref a_w2))))] [(.int (own_nn .null))]))
      refine own_go (fun t k => XS.iconst X14.here hx rfl (hb hby at_65) k) ?_
      show own_Go p e below _ (T14.setTop (mkF m 66 #[.val (.int p0), .val (.int p1), .val (.int p2), .val (.int p3), .val .null, .val (.ref a_w2), .val (.ref c9), .val (.ref c10), .val (.int (own_nn .null)), .val (.int (own_nn (.ref a_w2))), .val (.int (own_nn (own_or .null (.ref a_w2))))] [(.int (0 : Int32)), (.int (own_nn .null))]))
      refine own_go (fun t k => XS.icmpNo X14.here hx rfl (hb hby at_66) rfl (teq (rfl : (own_nn .null) = (0 : Int32))).2 k) ?_
      show own_Go p e below _ (T14.setTop (mkF m 69 #[.val (.int p0), .val (.int p1), .val (.int p2), .val (.int p3), .val .null, .val (.ref a_w2), .val (.ref c9), .val (.ref c10), .val (.int (own_nn .null)), .val (.int (own_nn (.ref a_w2))), .val (.int (own_nn (own_or .null (.ref a_w2))))] []))
      refine own_go (fun t k => XS.iload X14.here hx rfl (hb hby at_69) rfl k) ?_
      show own_Go p e below _ (T14.setTop (mkF m 71 #[.val (.int p0), .val (.int p1), .val (.int p2), .val (.int p3), .val .null, .val (.ref a_w2), .val (.ref c9), .val (.ref c10), .val (.int (own_nn .null)), .val (.int (own_nn (.ref a_w2))), .val (.int (own_nn (own_or .null (.ref a_w2))))] [(.int (own_nn (.ref a_w2)))]))
      refine own_go (fun t k => XS.aload X14.here hx rfl (hb hby at_71) rfl rfl k) ?_
      show own_Go p e below _ (T14.setTop (mkF m 73 #[.val (.int p0), .val (.int p1), .val (.int p2), .val (.int p3), .val .null, .val (.ref a_w2), .val (.ref c9), .val (.ref c10), .val (.int (own_nn .null)), .val (.int (own_nn (.ref a_w2))), .val (.int (own_nn (own_or .null (.ref a_w2))))] [(.ref a_w2), (.int (own_nn (.ref a_w2)))]))
      refine own_go (fun t k => XS.ifnullNo X14.here hx rfl (hb hby at_73) rfl k) ?_
      show own_Go p e below _ (T14.setTop (mkF m 76 #[.val (.int p0), .val (.int p1), .val (.int p2), .val (.int p3), .val .null, .val (.ref a_w2), .val (.ref c9), .val (.ref c10), .val (.int (own_nn .null)), .val (.int (own_nn (.ref a_w2))), .val (.int (own_nn (own_or .null (.ref a_w2))))] [(.int (own_nn (.ref a_w2)))]))
      refine own_go (fun t k => XS.iconst X14.here hx rfl (hb hby at_76) k) ?_
      show own_Go p e below _ (T14.setTop (mkF m 77 #[.val (.int p0), .val (.int p1), .val (.int p2), .val (.int p3), .val .null, .val (.ref a_w2), .val (.ref c9), .val (.ref c10), .val (.int (own_nn .null)), .val (.int (own_nn (.ref a_w2))), .val (.int (own_nn (own_or .null (.ref a_w2))))] [(.int (1 : Int32)), (.int (own_nn (.ref a_w2)))]))
      refine own_go (fun t k => XS.goto X14.here hx rfl (pc0 := 77) (pc' := 81) rfl (hb hby at_77) (by decide) (by decide) k) ?_
      show own_Go p e below _ (T14.setTop (mkF m 81 #[.val (.int p0), .val (.int p1), .val (.int p2), .val (.int p3), .val .null, .val (.ref a_w2), .val (.ref c9), .val (.ref c10), .val (.int (own_nn .null)), .val (.int (own_nn (.ref a_w2))), .val (.int (own_nn (own_or .null (.ref a_w2))))] [(.int (1 : Int32)), (.int (own_nn (.ref a_w2)))]))
      refine own_go (fun t k => XS.icmpNo X14.here hx rfl (hb hby at_81) rfl (teq (rfl : (own_nn (.ref a_w2)) = (1 : Int32))).2 k) ?_
      show own_Go p e below _ (T14.setTop (mkF m 84 #[.val (.int p0), .val (.int p1), .val (.int p2), .val (.int p3), .val .null, .val (.ref a_w2), .val (.ref c9), .val (.ref c10), .val (.int (own_nn .null)), .val (.int (own_nn (.ref a_w2))), .val (.int (own_nn (own_or .null (.ref a_w2))))] []))
      refine own_go (fun t k => XS.iload X14.here hx rfl (hb hby at_84) rfl k) ?_
      show own_Go p e below _ (T14.setTop (mkF m 86 #[.val (.int p0), .val (.int p1), .val (.int p2), .val (.int p3), .val .null, .val (.ref a_w2), .val (.ref c9), .val (.ref c10), .val (.int (own_nn .null)), .val (.int (own_nn (.ref a_w2))), .val (.int (own_nn (own_or .null (.ref a_w2))))] [(.int (own_nn (own_or .null (.ref a_w2))))]))
      refine own_go (fun t k => XS.iload X14.here hx rfl (hb hby at_86) rfl k) ?_
      show own_Go p e below _ (T14.setTop (mkF m 88 #[.val (.int p0), .val (.int p1), .val (.int p2), .val (.int p3), .val .null, .val (.ref a_w2), .val (.ref c9), .val (.ref c10), .val (.int (own_nn .null)), .val (.int (own_nn (.ref a_w2))), .val (.int (own_nn (own_or .null (.ref a_w2))))] [(.int (own_nn .null)), (.int (own_nn (own_or .null (.ref a_w2))))]))
      refine own_go (fun t k => XS.ifNo X14.here hx rfl (hb hby at_88) rfl ((if0 _ _).trans (teq (rfl : (own_nn .null) = (0 : Int32))).2) k) ?_
      show own_Go p e below _ (T14.setTop (mkF m 91 #[.val (.int p0), .val (.int p1), .val (.int p2), .val (.int p3), .val .null, .val (.ref a_w2), .val (.ref c9), .val (.ref c10), .val (.int (own_nn .null)), .val (.int (own_nn (.ref a_w2))), .val (.int (own_nn (own_or .null (.ref a_w2))))] [(.int (own_nn (own_or .null (.ref a_w2))))]))
      refine own_go (fun t k => XS.iload X14.here hx rfl (hb hby at_91) rfl k) ?_
      show own_Go p e below _ (T14.setTop (mkF m 93 #[.val (.int p0), .val (.int p1), .val (.int p2), .val (.int p3), .val .null, .val (.ref a_w2), .val (.ref c9), .val (.ref c10), .val (.int (own_nn .null)), .val (.int (own_nn (.ref a_w2))), .val (.int (own_nn (own_or .null (.ref a_w2))))] [(.int (own_nn (.ref a_w2))), (.int (own_nn (own_or .null (.ref a_w2))))]))
      refine own_go (fun t k => XS.ifNo X14.here hx rfl (hb hby at_93) rfl ((if0 _ _).trans (feq (fun (q : (own_nn (.ref a_w2)) = (0 : Int32)) => absurd q (by show ¬ ((1 : Int32) = 0); decide))).1) k) ?_
      show own_Go p e below _ (T14.setTop (mkF m 96 #[.val (.int p0), .val (.int p1), .val (.int p2), .val (.int p3), .val .null, .val (.ref a_w2), .val (.ref c9), .val (.ref c10), .val (.int (own_nn .null)), .val (.int (own_nn (.ref a_w2))), .val (.int (own_nn (own_or .null (.ref a_w2))))] [(.int (own_nn (own_or .null (.ref a_w2))))]))
      refine own_go (fun t k => XS.iconst X14.here hx rfl (hb hby at_96) k) ?_
      show own_Go p e below _ (T14.setTop (mkF m 97 #[.val (.int p0), .val (.int p1), .val (.int p2), .val (.int p3), .val .null, .val (.ref a_w2), .val (.ref c9), .val (.ref c10), .val (.int (own_nn .null)), .val (.int (own_nn (.ref a_w2))), .val (.int (own_nn (own_or .null (.ref a_w2))))] [(.int (1 : Int32)), (.int (own_nn (own_or .null (.ref a_w2))))]))
      refine own_go (fun t k => XS.goto X14.here hx rfl (pc0 := 97) (pc' := 101) rfl (hb hby at_97) (by decide) (by decide) k) ?_
      show own_Go p e below _ (T14.setTop (mkF m 101 #[.val (.int p0), .val (.int p1), .val (.int p2), .val (.int p3), .val .null, .val (.ref a_w2), .val (.ref c9), .val (.ref c10), .val (.int (own_nn .null)), .val (.int (own_nn (.ref a_w2))), .val (.int (own_nn (own_or .null (.ref a_w2))))] [(.int (1 : Int32)), (.int (own_nn (own_or .null (.ref a_w2))))]))
      refine own_go (fun t k => XS.icmpNo X14.here hx rfl (hb hby at_101) rfl (teq (rfl : (own_nn (own_or .null (.ref a_w2))) = (1 : Int32))).2 k) ?_
      show own_Go p e below _ (T14.setTop (mkF m 104 #[.val (.int p0), .val (.int p1), .val (.int p2), .val (.int p3), .val .null, .val (.ref a_w2), .val (.ref c9), .val (.ref c10), .val (.int (own_nn .null)), .val (.int (own_nn (.ref a_w2))), .val (.int (own_nn (own_or .null (.ref a_w2))))] []))
      refine own_go (fun t k => XS.iconst X14.here hx rfl (hb hby at_104) k) ?_
      show own_Go p e below _ (T14.setTop (mkF m 105 #[.val (.int p0), .val (.int p1), .val (.int p2), .val (.int p3), .val .null, .val (.ref a_w2), .val (.ref c9), .val (.ref c10), .val (.int (own_nn .null)), .val (.int (own_nn (.ref a_w2))), .val (.int (own_nn (own_or .null (.ref a_w2))))] [(.int (1 : Int32))]))
      refine own_go (fun t k => XS.goto X14.here hx rfl (pc0 := 105) (pc' := 109) rfl (hb hby at_105) (by decide) (by decide) k) ?_
      show own_Go p e below _ (T14.setTop (mkF m 109 #[.val (.int p0), .val (.int p1), .val (.int p2), .val (.int p3), .val .null, .val (.ref a_w2), .val (.ref c9), .val (.ref c10), .val (.int (own_nn .null)), .val (.int (own_nn (.ref a_w2))), .val (.int (own_nn (own_or .null (.ref a_w2))))] [(.int (1 : Int32))]))
      exact own_retN X14 hx (t := .boolean) Bd.returns (by simp) (hb hby at_109) (⟨rfl, N14⟩) (by decide) (by decide)
  · show own_Go p e below _ (T1.setTop (mkF m 4 #[.val (.int p0), .val (.int p1), .val (.int p2), .val (.int p3), .unset, .unset, .unset, .unset, .unset, .unset, .unset] [(.ref a_w1)]))
    refine own_go (fun t k => XS.astore X1.here hx rfl (hb hby at_4) rfl rfl (l' := #[.val (.int p0), .val (.int p1), .val (.int p2), .val (.int p3), .val (.ref a_w1), .unset, .unset, .unset, .unset, .unset, .unset]) rfl k) ?_
    show own_Go p e below _ (T1.setTop (mkF m 6 #[.val (.int p0), .val (.int p1), .val (.int p2), .val (.int p3), .val (.ref a_w1), .unset, .unset, .unset, .unset, .unset, .unset] []))
    refine own_go (fun t k => XS.iloadN X1.here hx rfl (hb hby at_6) rfl k) ?_
    show own_Go p e below _ (T1.setTop (mkF m 7 #[.val (.int p0), .val (.int p1), .val (.int p2), .val (.int p3), .val (.ref a_w1), .unset, .unset, .unset, .unset, .unset, .unset] [(.int p3)]))
    obtain ⟨_, _, ⟨T15, L15, k15, n15⟩, -, X15, ⟨Lc15, hQ15, l15, y15, z15⟩, st15⟩ := Jvm.LawKit.callS X1 hx (y := (⟨"com/example/tariff_reader/tariffreader/text/QualifiersStatesUnitPinLaw", "unit", "(I)Lcom/example/tariff_reader/tariffreader/model/Unit;"⟩ : MethodName)) hown (mvT hZ (hw _ (List.mem_of_getElem? (i := 0) rfl))) (mvT hZ (hw _ (List.mem_of_getElem? (i := 1) rfl))) (mvT hZ (hw _ (List.mem_of_getElem? (i := 2) rfl))) (mvT hZ (hw _ (List.mem_of_getElem? (i := 3) rfl))) (by decide) (backOf (W := 0) (rm5 l Z a0 hw [] p3 h0 n0 Z0 XO WW) hZ (hw _ (List.mem_of_getElem? (i := 3) rfl)) (hw _ (List.mem_of_getElem? (i := 2) rfl)) (by decide) (by decide)) (g := (mkF m 7 #[.val (.int p0), .val (.int p1), .val (.int p2), .val (.int p3), .val (.ref a_w1), .unset, .unset, .unset, .unset, .unset, .unset] [(.int p3)])) rfl (by rw [hml]; rfl) (argsL := [(.int p3)]) (rest := []) (lenOf pd0_0 rfl) rfl (by show 2 * 0 + _ ≤ _; exact Nat.le_of_eq rfl) (hb hby at_7) (fun _ _ => ⟨rfl, e1, (by decide : 0 + 0 ≤ _), (by decide : 0 + 0 ≤ _)⟩)
    dsimp only [Pt.U, Pt.locs, Pt.cells, Pt.slots] at X15 l15 y15 z15 st15 hQ15
    subst l15 y15 z15
    obtain ⟨w15, rfl, r_w15, Nq15, e15⟩ := hQ15
    have N15 := Fr.app N1 Nq15
    refine own_go (fun t k => st15 t k) ?_
    rcases ref_cases r_w15 with rfl | ⟨a_w15, rfl⟩
    · show own_Go p e below _ (T15.setTop (mkF m 10 #[.val (.int p0), .val (.int p1), .val (.int p2), .val (.int p3), .val (.ref a_w1), .unset, .unset, .unset, .unset, .unset, .unset] [.null]))
      refine own_go (fun t k => XS.astore X15.here hx rfl (hb hby at_10) rfl rfl (l' := #[.val (.int p0), .val (.int p1), .val (.int p2), .val (.int p3), .val (.ref a_w1), .val .null, .unset, .unset, .unset, .unset, .unset]) rfl k) ?_
      show own_Go p e below _ (T15.setTop (mkF m 12 #[.val (.int p0), .val (.int p1), .val (.int p2), .val (.int p3), .val (.ref a_w1), .val .null, .unset, .unset, .unset, .unset, .unset] []))
      refine own_go (fun t k => XS.iloadN X15.here hx rfl (hb hby at_12) rfl k) ?_
      show own_Go p e below _ (T15.setTop (mkF m 13 #[.val (.int p0), .val (.int p1), .val (.int p2), .val (.int p3), .val (.ref a_w1), .val .null, .unset, .unset, .unset, .unset, .unset] [(.int p0)]))
      refine own_go (fun t k => XS.aload X15.here hx rfl (hb hby at_13) rfl rfl k) ?_
      show own_Go p e below _ (T15.setTop (mkF m 15 #[.val (.int p0), .val (.int p1), .val (.int p2), .val (.int p3), .val (.ref a_w1), .val .null, .unset, .unset, .unset, .unset, .unset] [(.ref a_w1), (.int p0)]))
      obtain ⟨_, _, ⟨T16, L16, k16, n16⟩, -, X16, ⟨Lc16, hQ16, l16, y16, z16⟩, st16⟩ := Jvm.LawKit.callS X15 hx (y := (⟨"com/example/tariff_reader/tariffreader/text/QualifiersStatesUnitPinLaw", "make", "(ILcom/example/tariff_reader/tariffreader/model/Unit;)Lcom/example/tariff_reader/tariffreader/text/Qualifiers;"⟩ : MethodName)) hown (mvT hZ (hw _ (List.mem_of_getElem? (i := 10) rfl))) (mvT hZ (hw _ (List.mem_of_getElem? (i := 11) rfl))) (mvT hZ (hw _ (List.mem_of_getElem? (i := 2) rfl))) (mvT hZ (hw _ (List.mem_of_getElem? (i := 12) rfl))) (by decide) (backOf (W := 0) (rm8 l Z a0 hw [] p0 (.ref a_w1) h0 n0 Z0 XO WW rfl) hZ (hw _ (List.mem_of_getElem? (i := 12) rfl)) (hw _ (List.mem_of_getElem? (i := 2) rfl)) (by decide) (by decide)) (g := (mkF m 15 #[.val (.int p0), .val (.int p1), .val (.int p2), .val (.int p3), .val (.ref a_w1), .val .null, .unset, .unset, .unset, .unset, .unset] [(.ref a_w1), (.int p0)])) rfl (by rw [hml]; rfl) (argsL := [(.int p0), (.ref a_w1)]) (rest := []) (lenOf pd0_1 rfl) rfl (by show 2 * 0 + _ ≤ _; exact Nat.le_of_eq rfl) (hb hby at_15) (fun _ _ => ⟨rfl, e15, (by decide : 0 + 3 ≤ _), (by decide : 0 + 11 ≤ _)⟩)
      dsimp only [Pt.U, Pt.locs, Pt.cells, Pt.slots] at X16 l16 y16 z16 st16 hQ16
      subst l16 y16 z16
      obtain ⟨c16, m16_1, m16_2, m16_3, m16_4, m16_5, rfl, Nq16, K16, ge16, G16, r_m16_1, r_m16_2, r_m16_3, r_m16_4, r_m16_5⟩ := hQ16
      have N16 := Fr.app N15 Nq16
      refine own_go (fun t k => st16 t k) ?_
      have g_c16 : n0 ≤ c16 := Nat.le_trans Z0 ge16
      have sz_c16 : h0.size ≤ c16 := Nat.le_trans (Keep.refl h0 []).1 ge16
      have XO__16 := XO.keep K16 all0
      have KP16 := (Keep.refl h0 []).trans K16 all0
      have sz16 := Nat.le_trans Z0 K16.1
      show own_Go p e below _ (T16.setTop (mkF m 18 #[.val (.int p0), .val (.int p1), .val (.int p2), .val (.int p3), .val (.ref a_w1), .val .null, .unset, .unset, .unset, .unset, .unset] [(.ref c16)]))
      refine own_go (fun t k => XS.astore X16.here hx rfl (hb hby at_18) rfl rfl (l' := #[.val (.int p0), .val (.int p1), .val (.int p2), .val (.int p3), .val (.ref a_w1), .val .null, .val (.ref c16), .unset, .unset, .unset, .unset]) rfl k) ?_
      show own_Go p e below _ (T16.setTop (mkF m 20 #[.val (.int p0), .val (.int p1), .val (.int p2), .val (.int p3), .val (.ref a_w1), .val .null, .val (.ref c16), .unset, .unset, .unset, .unset] []))
      refine own_go (fun t k => XS.iloadN X16.here hx rfl (hb hby at_20) rfl k) ?_
      show own_Go p e below _ (T16.setTop (mkF m 21 #[.val (.int p0), .val (.int p1), .val (.int p2), .val (.int p3), .val (.ref a_w1), .val .null, .val (.ref c16), .unset, .unset, .unset, .unset] [(.int p2)]))
      refine own_go (fun t k => XS.aload X16.here hx rfl (hb hby at_21) rfl rfl k) ?_
      show own_Go p e below _ (T16.setTop (mkF m 23 #[.val (.int p0), .val (.int p1), .val (.int p2), .val (.int p3), .val (.ref a_w1), .val .null, .val (.ref c16), .unset, .unset, .unset, .unset] [.null, (.int p2)]))
      obtain ⟨_, _, ⟨T17, L17, k17, n17⟩, -, X17, ⟨Lc17, hQ17, l17, y17, z17⟩, st17⟩ := Jvm.LawKit.callS X16 hx (y := (⟨"com/example/tariff_reader/tariffreader/text/QualifiersStatesUnitPinLaw", "make", "(ILcom/example/tariff_reader/tariffreader/model/Unit;)Lcom/example/tariff_reader/tariffreader/text/Qualifiers;"⟩ : MethodName)) hown (mvT hZ (hw _ (List.mem_of_getElem? (i := 10) rfl))) (mvT hZ (hw _ (List.mem_of_getElem? (i := 11) rfl))) (mvT hZ (hw _ (List.mem_of_getElem? (i := 2) rfl))) (mvT hZ (hw _ (List.mem_of_getElem? (i := 12) rfl))) (by decide) (backOf (W := 0) (rm8 l Z a0 hw [] p2 .null T16.heap n0 sz16 XO__16 WW rfl) hZ (hw _ (List.mem_of_getElem? (i := 12) rfl)) (hw _ (List.mem_of_getElem? (i := 2) rfl)) (by decide) (by decide)) (g := (mkF m 23 #[.val (.int p0), .val (.int p1), .val (.int p2), .val (.int p3), .val (.ref a_w1), .val .null, .val (.ref c16), .unset, .unset, .unset, .unset] [.null, (.int p2)])) rfl (by rw [hml]; rfl) (argsL := [(.int p2), .null]) (rest := []) (lenOf pd0_1 rfl) rfl (by show 2 * 0 + _ ≤ _; exact Nat.le_of_eq rfl) (hb hby at_23) (fun _ _ => ⟨rfl, rfl, (by decide : 0 + 3 + 3 ≤ _), (by decide : 0 + 11 + 11 ≤ _)⟩)
      dsimp only [Pt.U, Pt.locs, Pt.cells, Pt.slots] at X17 l17 y17 z17 st17 hQ17
      subst l17 y17 z17
      obtain ⟨c17, m17_1, m17_2, m17_3, m17_4, m17_5, rfl, Nq17, K17, ge17, G17, r_m17_1, r_m17_2, r_m17_3, r_m17_4, r_m17_5⟩ := hQ17
      have N17 := Fr.app N16 Nq17
      refine own_go (fun t k => st17 t k) ?_
      have g_c17 : n0 ≤ c17 := Nat.le_trans sz16 ge17
      have sz_c17 : h0.size ≤ c17 := Nat.le_trans KP16.1 ge17
      have ne_c16_c17 : c16 ≠ c17 := Nat.ne_of_lt (Nat.lt_of_lt_of_le G16.1.lt ge17)
      have XO__17 := XO__16.keep K17 all0
      have G16__17 := G16.keep K17 nin0
      have KP17 := KP16.trans K17 all0
      have sz17 := Nat.le_trans sz16 K17.1
      show own_Go p e below _ (T17.setTop (mkF m 26 #[.val (.int p0), .val (.int p1), .val (.int p2), .val (.int p3), .val (.ref a_w1), .val .null, .val (.ref c16), .unset, .unset, .unset, .unset] [(.ref c17)]))
      refine own_go (fun t k => XS.astore X17.here hx rfl (hb hby at_26) rfl rfl (l' := #[.val (.int p0), .val (.int p1), .val (.int p2), .val (.int p3), .val (.ref a_w1), .val .null, .val (.ref c16), .val (.ref c17), .unset, .unset, .unset]) rfl k) ?_
      show own_Go p e below _ (T17.setTop (mkF m 28 #[.val (.int p0), .val (.int p1), .val (.int p2), .val (.int p3), .val (.ref a_w1), .val .null, .val (.ref c16), .val (.ref c17), .unset, .unset, .unset] []))
      refine own_go (fun t k => XS.aload X17.here hx rfl (hb hby at_28) rfl rfl k) ?_
      show own_Go p e below _ (T17.setTop (mkF m 30 #[.val (.int p0), .val (.int p1), .val (.int p2), .val (.int p3), .val (.ref a_w1), .val .null, .val (.ref c16), .val (.ref c17), .unset, .unset, .unset] [(.ref c16)]))
      obtain ⟨cq18, kq18, q18a, q18b, q18c⟩ := isOf hZ rfl G16__17.1
      obtain ⟨_, _, ⟨T18, L18, k18, n18⟩, -, X18, ⟨Lc18, hQ18, l18, y18, z18⟩, st18⟩ := X17.virtualBack hx (y := (⟨"com/example/tariff_reader/tariffreader/text/Qualifiers", "statesUnit", "()Z"⟩ : MethodName)) (z := (⟨"com/example/tariff_reader/tariffreader/text/Qualifiers", "statesUnit", "()Z"⟩ : MethodName)) hown (mvT hZ (hw _ (List.mem_of_getElem? (i := 61) rfl))) (mvT hZ (hw _ (List.mem_of_getElem? (i := 62) rfl))) (notFace_of_selects (args := #[]) (mvT hZ (hw _ (List.mem_of_getElem? (i := 64) rfl)))) (mvT hZ (hw _ (List.mem_of_getElem? (i := 64) rfl))) (mvT hZ (hw _ (List.mem_of_getElem? (i := 63) rfl))) (by decide) (backOf (W := 0) (rm9 l Z a0 hw [] c16 (.ref a_w1) T17.heap n0 sz17 G16__17.2.2.2.2.2.2 rfl) hZ (hw _ (List.mem_of_getElem? (i := 65) rfl)) (hw _ (List.mem_of_getElem? (i := 44) rfl)) (by decide) (by decide)) q18a q18c (g := (mkF m 30 #[.val (.int p0), .val (.int p1), .val (.int p2), .val (.int p3), .val (.ref a_w1), .val .null, .val (.ref c16), .val (.ref c17), .unset, .unset, .unset] [(.ref c16)])) rfl (by rw [hml]; rfl) (Steps.refl _) (argsL := []) (rest := []) (lenOf pd0_2 rfl) rfl (by show 2 * 0 + _ ≤ _; exact Nat.le_of_eq rfl) (hb hby at_30) (fun _ _ => ⟨rfl, rfl, (by decide : 0 + 3 + 3 + 0 ≤ _), (by decide : 0 + 11 + 11 + 0 ≤ _)⟩)
      dsimp only [Pt.U, Pt.locs, Pt.cells, Pt.slots] at X18 l18 y18 z18 st18 hQ18
      subst l18 y18 z18
      obtain ⟨rfl, Nq18, e18⟩ := hQ18
      have N18 := Fr.app N17 Nq18
      refine own_go (fun t k => st18.trans k) ?_
      show own_Go p e below _ (T18.setTop (mkF m 33 #[.val (.int p0), .val (.int p1), .val (.int p2), .val (.int p3), .val (.ref a_w1), .val .null, .val (.ref c16), .val (.ref c17), .unset, .unset, .unset] [(.int (own_nn (.ref a_w1)))]))
      refine own_go (fun t k => XS.istore X18.here hx rfl (hb hby at_33) rfl (l' := #[.val (.int p0), .val (.int p1), .val (.int p2), .val (.int p3), .val (.ref a_w1), .val .null, .val (.ref c16), .val (.ref c17), .val (.int (own_nn (.ref a_w1))), .unset, .unset]) rfl k) ?_
      show own_Go p e below _ (T18.setTop (mkF m 35 #[.val (.int p0), .val (.int p1), .val (.int p2), .val (.int p3), .val (.ref a_w1), .val .null, .val (.ref c16), .val (.ref c17), .val (.int (own_nn (.ref a_w1))), .unset, .unset] []))
      refine own_go (fun t k => XS.aload X18.here hx rfl (hb hby at_35) rfl rfl k) ?_
      show own_Go p e below _ (T18.setTop (mkF m 37 #[.val (.int p0), .val (.int p1), .val (.int p2), .val (.int p3), .val (.ref a_w1), .val .null, .val (.ref c16), .val (.ref c17), .val (.int (own_nn (.ref a_w1))), .unset, .unset] [(.ref c17)]))
      obtain ⟨cq19, kq19, q19a, q19b, q19c⟩ := isOf hZ e18 G17.1
      obtain ⟨_, _, ⟨T19, L19, k19, n19⟩, -, X19, ⟨Lc19, hQ19, l19, y19, z19⟩, st19⟩ := X18.virtualBack hx (y := (⟨"com/example/tariff_reader/tariffreader/text/Qualifiers", "statesUnit", "()Z"⟩ : MethodName)) (z := (⟨"com/example/tariff_reader/tariffreader/text/Qualifiers", "statesUnit", "()Z"⟩ : MethodName)) hown (mvT hZ (hw _ (List.mem_of_getElem? (i := 61) rfl))) (mvT hZ (hw _ (List.mem_of_getElem? (i := 62) rfl))) (notFace_of_selects (args := #[]) (mvT hZ (hw _ (List.mem_of_getElem? (i := 64) rfl)))) (mvT hZ (hw _ (List.mem_of_getElem? (i := 64) rfl))) (mvT hZ (hw _ (List.mem_of_getElem? (i := 63) rfl))) (by decide) (backOf (W := 0) (rm9 l Z a0 hw [] c17 .null T17.heap n0 sz17 G17.2.2.2.2.2.2 rfl) hZ (hw _ (List.mem_of_getElem? (i := 65) rfl)) (hw _ (List.mem_of_getElem? (i := 44) rfl)) (by decide) (by decide)) q19a q19c (g := (mkF m 37 #[.val (.int p0), .val (.int p1), .val (.int p2), .val (.int p3), .val (.ref a_w1), .val .null, .val (.ref c16), .val (.ref c17), .val (.int (own_nn (.ref a_w1))), .unset, .unset] [(.ref c17)])) rfl (by rw [hml]; rfl) (Steps.refl _) (argsL := []) (rest := []) (lenOf pd0_2 rfl) rfl (by show 2 * 0 + _ ≤ _; exact Nat.le_of_eq rfl) (hb hby at_37) (fun _ _ => ⟨rfl, e18, (by decide : 0 + 3 + 3 + 0 ≤ _), (by decide : 0 + 11 + 11 + 0 ≤ _)⟩)
      dsimp only [Pt.U, Pt.locs, Pt.cells, Pt.slots] at X19 l19 y19 z19 st19 hQ19
      subst l19 y19 z19
      obtain ⟨rfl, Nq19, e19⟩ := hQ19
      have N19 := Fr.app N18 Nq19
      refine own_go (fun t k => st19.trans k) ?_
      show own_Go p e below _ (T19.setTop (mkF m 40 #[.val (.int p0), .val (.int p1), .val (.int p2), .val (.int p3), .val (.ref a_w1), .val .null, .val (.ref c16), .val (.ref c17), .val (.int (own_nn (.ref a_w1))), .unset, .unset] [(.int (own_nn .null))]))
      refine own_go (fun t k => XS.istore X19.here hx rfl (hb hby at_40) rfl (l' := #[.val (.int p0), .val (.int p1), .val (.int p2), .val (.int p3), .val (.ref a_w1), .val .null, .val (.ref c16), .val (.ref c17), .val (.int (own_nn (.ref a_w1))), .val (.int (own_nn .null)), .unset]) rfl k) ?_
      show own_Go p e below _ (T19.setTop (mkF m 42 #[.val (.int p0), .val (.int p1), .val (.int p2), .val (.int p3), .val (.ref a_w1), .val .null, .val (.ref c16), .val (.ref c17), .val (.int (own_nn (.ref a_w1))), .val (.int (own_nn .null)), .unset] []))
      refine own_go (fun t k => XS.aload X19.here hx rfl (hb hby at_42) rfl rfl k) ?_
      show own_Go p e below _ (T19.setTop (mkF m 44 #[.val (.int p0), .val (.int p1), .val (.int p2), .val (.int p3), .val (.ref a_w1), .val .null, .val (.ref c16), .val (.ref c17), .val (.int (own_nn (.ref a_w1))), .val (.int (own_nn .null)), .unset] [(.ref c16)]))
      refine own_go (fun t k => XS.aload X19.here hx rfl (hb hby at_44) rfl rfl k) ?_
      show own_Go p e below _ (T19.setTop (mkF m 46 #[.val (.int p0), .val (.int p1), .val (.int p2), .val (.int p3), .val (.ref a_w1), .val .null, .val (.ref c16), .val (.ref c17), .val (.int (own_nn (.ref a_w1))), .val (.int (own_nn .null)), .unset] [(.ref c17), (.ref c16)]))
      obtain ⟨cq20, kq20, q20a, q20b, q20c⟩ := isOf hZ e19 G16__17.1
      obtain ⟨_, _, ⟨T20, L20, k20, n20⟩, -, X20, ⟨Lc20, hQ20, l20, y20, z20⟩, st20⟩ := X19.virtualBack hx (y := (⟨"com/example/tariff_reader/tariffreader/text/Qualifiers", "orElse", "(Lcom/example/tariff_reader/tariffreader/text/Qualifiers;)Lcom/example/tariff_reader/tariffreader/text/Qualifiers;"⟩ : MethodName)) (z := (⟨"com/example/tariff_reader/tariffreader/text/Qualifiers", "orElse", "(Lcom/example/tariff_reader/tariffreader/text/Qualifiers;)Lcom/example/tariff_reader/tariffreader/text/Qualifiers;"⟩ : MethodName)) hown (mvT hZ (hw _ (List.mem_of_getElem? (i := 66) rfl))) (mvT hZ (hw _ (List.mem_of_getElem? (i := 67) rfl))) (notFace_of_selects (args := #[]) (mvT hZ (hw _ (List.mem_of_getElem? (i := 69) rfl)))) (mvT hZ (hw _ (List.mem_of_getElem? (i := 69) rfl))) (mvT hZ (hw _ (List.mem_of_getElem? (i := 68) rfl))) (by decide) (backOf (W := 0) (rm10 l Z a0 hw [] c16 c17 m16_1 m16_2 m16_3 m16_4 m16_5 (.ref a_w1) m17_1 m17_2 m17_3 m17_4 m17_5 .null T17.heap n0 sz17 G16__17 G17 r_m16_1 r_m16_2 r_m16_3 r_m16_4 r_m16_5 rfl r_m17_1 r_m17_2 r_m17_3 r_m17_4 r_m17_5 rfl) hZ (hw _ (List.mem_of_getElem? (i := 70) rfl)) (hw _ (List.mem_of_getElem? (i := 44) rfl)) (by decide) (by decide)) q20a q20c (g := (mkF m 46 #[.val (.int p0), .val (.int p1), .val (.int p2), .val (.int p3), .val (.ref a_w1), .val .null, .val (.ref c16), .val (.ref c17), .val (.int (own_nn (.ref a_w1))), .val (.int (own_nn .null)), .unset] [(.ref c17), (.ref c16)])) rfl (by rw [hml]; rfl) (Steps.refl _) (argsL := [(.ref c17)]) (rest := []) (lenOf pd0_3 rfl) rfl (by show 2 * 0 + _ ≤ _; exact Nat.le_of_eq rfl) (hb hby at_46) (fun _ _ => ⟨rfl, e19, (by decide : 0 + 3 + 3 + 1 ≤ _), (by decide : 0 + 11 + 11 + 6 ≤ _)⟩)
      dsimp only [Pt.U, Pt.locs, Pt.cells, Pt.slots] at X20 l20 y20 z20 st20 hQ20
      subst l20 y20 z20
      obtain ⟨c20, m20_1, m20_2, m20_3, m20_4, m20_5, rfl, Nq20, K20, ge20, G20⟩ := hQ20
      have N20 := Fr.app N19 Nq20
      refine own_go (fun t k => st20.trans k) ?_
      have g_c20 : n0 ≤ c20 := Nat.le_trans sz17 ge20
      have sz_c20 : h0.size ≤ c20 := Nat.le_trans KP17.1 ge20
      have ne_c16_c20 : c16 ≠ c20 := Nat.ne_of_lt (Nat.lt_of_lt_of_le G16__17.1.lt ge20)
      have ne_c17_c20 : c17 ≠ c20 := Nat.ne_of_lt (Nat.lt_of_lt_of_le G17.1.lt ge20)
      have XO__20 := XO__17.keep K20 all0
      have G16__20 := G16__17.keep K20 nin0
      have G17__20 := G17.keep K20 nin0
      have KP20 := KP17.trans K20 all0
      have sz20 := Nat.le_trans sz17 K20.1
      show own_Go p e below _ (T20.setTop (mkF m 49 #[.val (.int p0), .val (.int p1), .val (.int p2), .val (.int p3), .val (.ref a_w1), .val .null, .val (.ref c16), .val (.ref c17), .val (.int (own_nn (.ref a_w1))), .val (.int (own_nn .null)), .unset] [(.ref c20)]))
      obtain ⟨cq21, kq21, q21a, q21b, q21c⟩ := isOf hZ rfl G20.1
      obtain ⟨_, _, ⟨T21, L21, k21, n21⟩, -, X21, ⟨Lc21, hQ21, l21, y21, z21⟩, st21⟩ := X20.virtualBack hx (y := (⟨"com/example/tariff_reader/tariffreader/text/Qualifiers", "statesUnit", "()Z"⟩ : MethodName)) (z := (⟨"com/example/tariff_reader/tariffreader/text/Qualifiers", "statesUnit", "()Z"⟩ : MethodName)) hown (mvT hZ (hw _ (List.mem_of_getElem? (i := 61) rfl))) (mvT hZ (hw _ (List.mem_of_getElem? (i := 62) rfl))) (notFace_of_selects (args := #[]) (mvT hZ (hw _ (List.mem_of_getElem? (i := 64) rfl)))) (mvT hZ (hw _ (List.mem_of_getElem? (i := 64) rfl))) (mvT hZ (hw _ (List.mem_of_getElem? (i := 63) rfl))) (by decide) (backOf (W := 0) (rm9 l Z a0 hw [] c20 (own_or (.ref a_w1) .null) T20.heap n0 sz20 G20.2.2.2.2.2.2 rfl) hZ (hw _ (List.mem_of_getElem? (i := 65) rfl)) (hw _ (List.mem_of_getElem? (i := 44) rfl)) (by decide) (by decide)) q21a q21c (g := (mkF m 49 #[.val (.int p0), .val (.int p1), .val (.int p2), .val (.int p3), .val (.ref a_w1), .val .null, .val (.ref c16), .val (.ref c17), .val (.int (own_nn (.ref a_w1))), .val (.int (own_nn .null)), .unset] [(.ref c20)])) rfl (by rw [hml]; rfl) (Steps.refl _) (argsL := []) (rest := []) (lenOf pd0_2 rfl) rfl (by show 2 * 0 + _ ≤ _; exact Nat.le_of_eq rfl) (hb hby at_49) (fun _ _ => ⟨rfl, rfl, (by decide : 0 + 3 + 3 + 1 + 0 ≤ _), (by decide : 0 + 11 + 11 + 6 + 0 ≤ _)⟩)
      dsimp only [Pt.U, Pt.locs, Pt.cells, Pt.slots] at X21 l21 y21 z21 st21 hQ21
      subst l21 y21 z21
      obtain ⟨rfl, Nq21, e21⟩ := hQ21
      have N21 := Fr.app N20 Nq21
      refine own_go (fun t k => st21.trans k) ?_
      show own_Go p e below _ (T21.setTop (mkF m 52 #[.val (.int p0), .val (.int p1), .val (.int p2), .val (.int p3), .val (.ref a_w1), .val .null, .val (.ref c16), .val (.ref c17), .val (.int (own_nn (.ref a_w1))), .val (.int (own_nn .null)), .unset] [(.int (own_nn (own_or (.ref a_w1) .null)))]))
      refine own_go (fun t k => XS.istore X21.here hx rfl (hb hby at_52) rfl (l' := #[.val (.int p0), .val (.int p1), .val (.int p2), .val (.int p3), .val (.ref a_w1), .val .null, .val (.ref c16), .val (.ref c17), .val (.int (own_nn (.ref a_w1))), .val (.int (own_nn .null)), .val (.int (own_nn (own_or (.ref a_w1) .null)))]) rfl k) ?_
      show own_Go p e below _ (T21.setTop (mkF m 54 #[.val (.int p0), .val (.int p1), .val (.int p2), .val (.int p3), .val (.ref a_w1), .val .null, .val (.ref c16), .val (.ref c17), .val (.int (own_nn (.ref a_w1))), .val (.int (own_nn .null)), .val (.int (own_nn (own_or (.ref a_w1) .null)))] []))
      refine own_go (fun t k => XS.iload X21.here hx rfl (hb hby at_54) rfl k) ?_
      show own_Go p e below _ (T21.setTop (mkF m 56 #[.val (.int p0), .val (.int p1), .val (.int p2), .val (.int p3), .val (.ref a_w1), .val .null, .val (.ref c16), .val (.ref c17), .val (.int (own_nn (.ref a_w1))), .val (.int (own_nn .null)), .val (.int (own_nn (own_or (.ref a_w1) .null)))] [(.int (own_nn (.ref a_w1)))]))
      refine own_go (fun t k => XS.aload X21.here hx rfl (hb hby at_56) rfl rfl k) ?_
      show own_Go p e below _ (T21.setTop (mkF m 58 #[.val (.int p0), .val (.int p1), .val (.int p2), .val (.int p3), .val (.ref a_w1), .val .null, .val (.ref c16), .val (.ref c17), .val (.int (own_nn (.ref a_w1))), .val (.int (own_nn .null)), .val (.int (own_nn (own_or (.ref a_w1) .null)))] [(.ref a_w1), (.int (own_nn (.ref a_w1)))]))
      refine own_go (fun t k => XS.ifnullNo X21.here hx rfl (hb hby at_58) rfl k) ?_
      show own_Go p e below _ (T21.setTop (mkF m 61 #[.val (.int p0), .val (.int p1), .val (.int p2), .val (.int p3), .val (.ref a_w1), .val .null, .val (.ref c16), .val (.ref c17), .val (.int (own_nn (.ref a_w1))), .val (.int (own_nn .null)), .val (.int (own_nn (own_or (.ref a_w1) .null)))] [(.int (own_nn (.ref a_w1)))]))
      refine own_go (fun t k => XS.iconst X21.here hx rfl (hb hby at_61) k) ?_
      show own_Go p e below _ (T21.setTop (mkF m 62 #[.val (.int p0), .val (.int p1), .val (.int p2), .val (.int p3), .val (.ref a_w1), .val .null, .val (.ref c16), .val (.ref c17), .val (.int (own_nn (.ref a_w1))), .val (.int (own_nn .null)), .val (.int (own_nn (own_or (.ref a_w1) .null)))] [(.int (1 : Int32)), (.int (own_nn (.ref a_w1)))]))
      refine own_go (fun t k => XS.goto X21.here hx rfl (pc0 := 62) (pc' := 66) rfl (hb hby at_62) (by decide) (by decide) k) ?_
      show own_Go p e below _ (T21.setTop (mkF m 66 #[.val (.int p0), .val (.int p1), .val (.int p2), .val (.int p3), .val (.ref a_w1), .val .null, .val (.ref c16), .val (.ref c17), .val (.int (own_nn (.ref a_w1))), .val (.int (own_nn .null)), .val (.int (own_nn (own_or (.ref a_w1) .null)))] [(.int (1 : Int32)), (.int (own_nn (.ref a_w1)))]))
      refine own_go (fun t k => XS.icmpNo X21.here hx rfl (hb hby at_66) rfl (teq (rfl : (own_nn (.ref a_w1)) = (1 : Int32))).2 k) ?_
      show own_Go p e below _ (T21.setTop (mkF m 69 #[.val (.int p0), .val (.int p1), .val (.int p2), .val (.int p3), .val (.ref a_w1), .val .null, .val (.ref c16), .val (.ref c17), .val (.int (own_nn (.ref a_w1))), .val (.int (own_nn .null)), .val (.int (own_nn (own_or (.ref a_w1) .null)))] []))
      refine own_go (fun t k => XS.iload X21.here hx rfl (hb hby at_69) rfl k) ?_
      show own_Go p e below _ (T21.setTop (mkF m 71 #[.val (.int p0), .val (.int p1), .val (.int p2), .val (.int p3), .val (.ref a_w1), .val .null, .val (.ref c16), .val (.ref c17), .val (.int (own_nn (.ref a_w1))), .val (.int (own_nn .null)), .val (.int (own_nn (own_or (.ref a_w1) .null)))] [(.int (own_nn .null))]))
      refine own_go (fun t k => XS.aload X21.here hx rfl (hb hby at_71) rfl rfl k) ?_
      show own_Go p e below _ (T21.setTop (mkF m 73 #[.val (.int p0), .val (.int p1), .val (.int p2), .val (.int p3), .val (.ref a_w1), .val .null, .val (.ref c16), .val (.ref c17), .val (.int (own_nn (.ref a_w1))), .val (.int (own_nn .null)), .val (.int (own_nn (own_or (.ref a_w1) .null)))] [.null, (.int (own_nn .null))]))
      refine own_go (fun t k => XS.ifnullYes X21.here hx rfl (pc0 := 73) (pc' := 80) rfl (hb hby at_73) rfl (by decide) (by decide) k) ?_
      show own_Go p e below _ (T21.setTop (mkF m 80 #[.val (.int p0), .val (.int p1), .val (.int p2), .val (.int p3), .val (.ref a_w1), .val .null, .val (.ref c16), .val (.ref c17), .val (.int (own_nn (.ref a_w1))), .val (.int (own_nn .null)), .val (.int (own_nn (own_or (.ref a_w1) .null)))] [(.int (own_nn .null))]))
      refine own_go (fun t k => XS.iconst X21.here hx rfl (hb hby at_80) k) ?_
      show own_Go p e below _ (T21.setTop (mkF m 81 #[.val (.int p0), .val (.int p1), .val (.int p2), .val (.int p3), .val (.ref a_w1), .val .null, .val (.ref c16), .val (.ref c17), .val (.int (own_nn (.ref a_w1))), .val (.int (own_nn .null)), .val (.int (own_nn (own_or (.ref a_w1) .null)))] [(.int (0 : Int32)), (.int (own_nn .null))]))
      refine own_go (fun t k => XS.icmpNo X21.here hx rfl (hb hby at_81) rfl (teq (rfl : (own_nn .null) = (0 : Int32))).2 k) ?_
      show own_Go p e below _ (T21.setTop (mkF m 84 #[.val (.int p0), .val (.int p1), .val (.int p2), .val (.int p3), .val (.ref a_w1), .val .null, .val (.ref c16), .val (.ref c17), .val (.int (own_nn (.ref a_w1))), .val (.int (own_nn .null)), .val (.int (own_nn (own_or (.ref a_w1) .null)))] []))
      refine own_go (fun t k => XS.iload X21.here hx rfl (hb hby at_84) rfl k) ?_
      show own_Go p e below _ (T21.setTop (mkF m 86 #[.val (.int p0), .val (.int p1), .val (.int p2), .val (.int p3), .val (.ref a_w1), .val .null, .val (.ref c16), .val (.ref c17), .val (.int (own_nn (.ref a_w1))), .val (.int (own_nn .null)), .val (.int (own_nn (own_or (.ref a_w1) .null)))] [(.int (own_nn (own_or (.ref a_w1) .null)))]))
      refine own_go (fun t k => XS.iload X21.here hx rfl (hb hby at_86) rfl k) ?_
      show own_Go p e below _ (T21.setTop (mkF m 88 #[.val (.int p0), .val (.int p1), .val (.int p2), .val (.int p3), .val (.ref a_w1), .val .null, .val (.ref c16), .val (.ref c17), .val (.int (own_nn (.ref a_w1))), .val (.int (own_nn .null)), .val (.int (own_nn (own_or (.ref a_w1) .null)))] [(.int (own_nn (.ref a_w1))), (.int (own_nn (own_or (.ref a_w1) .null)))]))
      refine own_go (fun t k => XS.ifYes X21.here hx rfl (pc0 := 88) (pc' := 96) rfl (hb hby at_88) rfl ((if0 _ _).trans (feq (fun (q : (own_nn (.ref a_w1)) = (0 : Int32)) => absurd q (by show ¬ ((1 : Int32) = 0); decide))).2) (by decide) (by decide) k) ?_
      show own_Go p e below _ (T21.setTop (mkF m 96 #[.val (.int p0), .val (.int p1), .val (.int p2), .val (.int p3), .val (.ref a_w1), .val .null, .val (.ref c16), .val (.ref c17), .val (.int (own_nn (.ref a_w1))), .val (.int (own_nn .null)), .val (.int (own_nn (own_or (.ref a_w1) .null)))] [(.int (own_nn (own_or (.ref a_w1) .null)))]))
      refine own_go (fun t k => XS.iconst X21.here hx rfl (hb hby at_96) k) ?_
      show own_Go p e below _ (T21.setTop (mkF m 97 #[.val (.int p0), .val (.int p1), .val (.int p2), .val (.int p3), .val (.ref a_w1), .val .null, .val (.ref c16), .val (.ref c17), .val (.int (own_nn (.ref a_w1))), .val (.int (own_nn .null)), .val (.int (own_nn (own_or (.ref a_w1) .null)))] [(.int (1 : Int32)), (.int (own_nn (own_or (.ref a_w1) .null)))]))
      refine own_go (fun t k => XS.goto X21.here hx rfl (pc0 := 97) (pc' := 101) rfl (hb hby at_97) (by decide) (by decide) k) ?_
      show own_Go p e below _ (T21.setTop (mkF m 101 #[.val (.int p0), .val (.int p1), .val (.int p2), .val (.int p3), .val (.ref a_w1), .val .null, .val (.ref c16), .val (.ref c17), .val (.int (own_nn (.ref a_w1))), .val (.int (own_nn .null)), .val (.int (own_nn (own_or (.ref a_w1) .null)))] [(.int (1 : Int32)), (.int (own_nn (own_or (.ref a_w1) .null)))]))
      refine own_go (fun t k => XS.icmpNo X21.here hx rfl (hb hby at_101) rfl (teq (rfl : (own_nn (own_or (.ref a_w1) .null)) = (1 : Int32))).2 k) ?_
      show own_Go p e below _ (T21.setTop (mkF m 104 #[.val (.int p0), .val (.int p1), .val (.int p2), .val (.int p3), .val (.ref a_w1), .val .null, .val (.ref c16), .val (.ref c17), .val (.int (own_nn (.ref a_w1))), .val (.int (own_nn .null)), .val (.int (own_nn (own_or (.ref a_w1) .null)))] []))
      refine own_go (fun t k => XS.iconst X21.here hx rfl (hb hby at_104) k) ?_
      show own_Go p e below _ (T21.setTop (mkF m 105 #[.val (.int p0), .val (.int p1), .val (.int p2), .val (.int p3), .val (.ref a_w1), .val .null, .val (.ref c16), .val (.ref c17), .val (.int (own_nn (.ref a_w1))), .val (.int (own_nn .null)), .val (.int (own_nn (own_or (.ref a_w1) .null)))] [(.int (1 : Int32))]))
      refine own_go (fun t k => XS.goto X21.here hx rfl (pc0 := 105) (pc' := 109) rfl (hb hby at_105) (by decide) (by decide) k) ?_
      show own_Go p e below _ (T21.setTop (mkF m 109 #[.val (.int p0), .val (.int p1), .val (.int p2), .val (.int p3), .val (.ref a_w1), .val .null, .val (.ref c16), .val (.ref c17), .val (.int (own_nn (.ref a_w1))), .val (.int (own_nn .null)), .val (.int (own_nn (own_or (.ref a_w1) .null)))] [(.int (1 : Int32))]))
      exact own_retN X21 hx (t := .boolean) Bd.returns (by simp) (hb hby at_109) (⟨rfl, N21⟩) (by decide) (by decide)
    · show own_Go p e below _ (T15.setTop (mkF m 10 #[.val (.int p0), .val (.int p1), .val (.int p2), .val (.int p3), .val (.ref a_w1), .unset, .unset, .unset, .unset, .unset, .unset] [(.ref a_w15)]))
      refine own_go (fun t k => XS.astore X15.here hx rfl (hb hby at_10) rfl rfl (l' := #[.val (.int p0), .val (.int p1), .val (.int p2), .val (.int p3), .val (.ref a_w1), .val (.ref a_w15), .unset, .unset, .unset, .unset, .unset]) rfl k) ?_
      show own_Go p e below _ (T15.setTop (mkF m 12 #[.val (.int p0), .val (.int p1), .val (.int p2), .val (.int p3), .val (.ref a_w1), .val (.ref a_w15), .unset, .unset, .unset, .unset, .unset] []))
      refine own_go (fun t k => XS.iloadN X15.here hx rfl (hb hby at_12) rfl k) ?_
      show own_Go p e below _ (T15.setTop (mkF m 13 #[.val (.int p0), .val (.int p1), .val (.int p2), .val (.int p3), .val (.ref a_w1), .val (.ref a_w15), .unset, .unset, .unset, .unset, .unset] [(.int p0)]))
      refine own_go (fun t k => XS.aload X15.here hx rfl (hb hby at_13) rfl rfl k) ?_
      show own_Go p e below _ (T15.setTop (mkF m 15 #[.val (.int p0), .val (.int p1), .val (.int p2), .val (.int p3), .val (.ref a_w1), .val (.ref a_w15), .unset, .unset, .unset, .unset, .unset] [(.ref a_w1), (.int p0)]))
      obtain ⟨_, _, ⟨T22, L22, k22, n22⟩, -, X22, ⟨Lc22, hQ22, l22, y22, z22⟩, st22⟩ := Jvm.LawKit.callS X15 hx (y := (⟨"com/example/tariff_reader/tariffreader/text/QualifiersStatesUnitPinLaw", "make", "(ILcom/example/tariff_reader/tariffreader/model/Unit;)Lcom/example/tariff_reader/tariffreader/text/Qualifiers;"⟩ : MethodName)) hown (mvT hZ (hw _ (List.mem_of_getElem? (i := 10) rfl))) (mvT hZ (hw _ (List.mem_of_getElem? (i := 11) rfl))) (mvT hZ (hw _ (List.mem_of_getElem? (i := 2) rfl))) (mvT hZ (hw _ (List.mem_of_getElem? (i := 12) rfl))) (by decide) (backOf (W := 0) (rm8 l Z a0 hw [] p0 (.ref a_w1) h0 n0 Z0 XO WW rfl) hZ (hw _ (List.mem_of_getElem? (i := 12) rfl)) (hw _ (List.mem_of_getElem? (i := 2) rfl)) (by decide) (by decide)) (g := (mkF m 15 #[.val (.int p0), .val (.int p1), .val (.int p2), .val (.int p3), .val (.ref a_w1), .val (.ref a_w15), .unset, .unset, .unset, .unset, .unset] [(.ref a_w1), (.int p0)])) rfl (by rw [hml]; rfl) (argsL := [(.int p0), (.ref a_w1)]) (rest := []) (lenOf pd0_1 rfl) rfl (by show 2 * 0 + _ ≤ _; exact Nat.le_of_eq rfl) (hb hby at_15) (fun _ _ => ⟨rfl, e15, (by decide : 0 + 3 ≤ _), (by decide : 0 + 11 ≤ _)⟩)
      dsimp only [Pt.U, Pt.locs, Pt.cells, Pt.slots] at X22 l22 y22 z22 st22 hQ22
      subst l22 y22 z22
      obtain ⟨c22, m22_1, m22_2, m22_3, m22_4, m22_5, rfl, Nq22, K22, ge22, G22, r_m22_1, r_m22_2, r_m22_3, r_m22_4, r_m22_5⟩ := hQ22
      have N22 := Fr.app N15 Nq22
      refine own_go (fun t k => st22 t k) ?_
      have g_c22 : n0 ≤ c22 := Nat.le_trans Z0 ge22
      have sz_c22 : h0.size ≤ c22 := Nat.le_trans (Keep.refl h0 []).1 ge22
      have XO__22 := XO.keep K22 all0
      have KP22 := (Keep.refl h0 []).trans K22 all0
      have sz22 := Nat.le_trans Z0 K22.1
      show own_Go p e below _ (T22.setTop (mkF m 18 #[.val (.int p0), .val (.int p1), .val (.int p2), .val (.int p3), .val (.ref a_w1), .val (.ref a_w15), .unset, .unset, .unset, .unset, .unset] [(.ref c22)]))
      refine own_go (fun t k => XS.astore X22.here hx rfl (hb hby at_18) rfl rfl (l' := #[.val (.int p0), .val (.int p1), .val (.int p2), .val (.int p3), .val (.ref a_w1), .val (.ref a_w15), .val (.ref c22), .unset, .unset, .unset, .unset]) rfl k) ?_
      show own_Go p e below _ (T22.setTop (mkF m 20 #[.val (.int p0), .val (.int p1), .val (.int p2), .val (.int p3), .val (.ref a_w1), .val (.ref a_w15), .val (.ref c22), .unset, .unset, .unset, .unset] []))
      refine own_go (fun t k => XS.iloadN X22.here hx rfl (hb hby at_20) rfl k) ?_
      show own_Go p e below _ (T22.setTop (mkF m 21 #[.val (.int p0), .val (.int p1), .val (.int p2), .val (.int p3), .val (.ref a_w1), .val (.ref a_w15), .val (.ref c22), .unset, .unset, .unset, .unset] [(.int p2)]))
      refine own_go (fun t k => XS.aload X22.here hx rfl (hb hby at_21) rfl rfl k) ?_
      show own_Go p e below _ (T22.setTop (mkF m 23 #[.val (.int p0), .val (.int p1), .val (.int p2), .val (.int p3), .val (.ref a_w1), .val (.ref a_w15), .val (.ref c22), .unset, .unset, .unset, .unset] [(.ref a_w15), (.int p2)]))
      obtain ⟨_, _, ⟨T23, L23, k23, n23⟩, -, X23, ⟨Lc23, hQ23, l23, y23, z23⟩, st23⟩ := Jvm.LawKit.callS X22 hx (y := (⟨"com/example/tariff_reader/tariffreader/text/QualifiersStatesUnitPinLaw", "make", "(ILcom/example/tariff_reader/tariffreader/model/Unit;)Lcom/example/tariff_reader/tariffreader/text/Qualifiers;"⟩ : MethodName)) hown (mvT hZ (hw _ (List.mem_of_getElem? (i := 10) rfl))) (mvT hZ (hw _ (List.mem_of_getElem? (i := 11) rfl))) (mvT hZ (hw _ (List.mem_of_getElem? (i := 2) rfl))) (mvT hZ (hw _ (List.mem_of_getElem? (i := 12) rfl))) (by decide) (backOf (W := 0) (rm8 l Z a0 hw [] p2 (.ref a_w15) T22.heap n0 sz22 XO__22 WW rfl) hZ (hw _ (List.mem_of_getElem? (i := 12) rfl)) (hw _ (List.mem_of_getElem? (i := 2) rfl)) (by decide) (by decide)) (g := (mkF m 23 #[.val (.int p0), .val (.int p1), .val (.int p2), .val (.int p3), .val (.ref a_w1), .val (.ref a_w15), .val (.ref c22), .unset, .unset, .unset, .unset] [(.ref a_w15), (.int p2)])) rfl (by rw [hml]; rfl) (argsL := [(.int p2), (.ref a_w15)]) (rest := []) (lenOf pd0_1 rfl) rfl (by show 2 * 0 + _ ≤ _; exact Nat.le_of_eq rfl) (hb hby at_23) (fun _ _ => ⟨rfl, rfl, (by decide : 0 + 3 + 3 ≤ _), (by decide : 0 + 11 + 11 ≤ _)⟩)
      dsimp only [Pt.U, Pt.locs, Pt.cells, Pt.slots] at X23 l23 y23 z23 st23 hQ23
      subst l23 y23 z23
      obtain ⟨c23, m23_1, m23_2, m23_3, m23_4, m23_5, rfl, Nq23, K23, ge23, G23, r_m23_1, r_m23_2, r_m23_3, r_m23_4, r_m23_5⟩ := hQ23
      have N23 := Fr.app N22 Nq23
      refine own_go (fun t k => st23 t k) ?_
      have g_c23 : n0 ≤ c23 := Nat.le_trans sz22 ge23
      have sz_c23 : h0.size ≤ c23 := Nat.le_trans KP22.1 ge23
      have ne_c22_c23 : c22 ≠ c23 := Nat.ne_of_lt (Nat.lt_of_lt_of_le G22.1.lt ge23)
      have XO__23 := XO__22.keep K23 all0
      have G22__23 := G22.keep K23 nin0
      have KP23 := KP22.trans K23 all0
      have sz23 := Nat.le_trans sz22 K23.1
      show own_Go p e below _ (T23.setTop (mkF m 26 #[.val (.int p0), .val (.int p1), .val (.int p2), .val (.int p3), .val (.ref a_w1), .val (.ref a_w15), .val (.ref c22), .unset, .unset, .unset, .unset] [(.ref c23)]))
      refine own_go (fun t k => XS.astore X23.here hx rfl (hb hby at_26) rfl rfl (l' := #[.val (.int p0), .val (.int p1), .val (.int p2), .val (.int p3), .val (.ref a_w1), .val (.ref a_w15), .val (.ref c22), .val (.ref c23), .unset, .unset, .unset]) rfl k) ?_
      show own_Go p e below _ (T23.setTop (mkF m 28 #[.val (.int p0), .val (.int p1), .val (.int p2), .val (.int p3), .val (.ref a_w1), .val (.ref a_w15), .val (.ref c22), .val (.ref c23), .unset, .unset, .unset] []))
      refine own_go (fun t k => XS.aload X23.here hx rfl (hb hby at_28) rfl rfl k) ?_
      show own_Go p e below _ (T23.setTop (mkF m 30 #[.val (.int p0), .val (.int p1), .val (.int p2), .val (.int p3), .val (.ref a_w1), .val (.ref a_w15), .val (.ref c22), .val (.ref c23), .unset, .unset, .unset] [(.ref c22)]))
      obtain ⟨cq24, kq24, q24a, q24b, q24c⟩ := isOf hZ rfl G22__23.1
      obtain ⟨_, _, ⟨T24, L24, k24, n24⟩, -, X24, ⟨Lc24, hQ24, l24, y24, z24⟩, st24⟩ := X23.virtualBack hx (y := (⟨"com/example/tariff_reader/tariffreader/text/Qualifiers", "statesUnit", "()Z"⟩ : MethodName)) (z := (⟨"com/example/tariff_reader/tariffreader/text/Qualifiers", "statesUnit", "()Z"⟩ : MethodName)) hown (mvT hZ (hw _ (List.mem_of_getElem? (i := 61) rfl))) (mvT hZ (hw _ (List.mem_of_getElem? (i := 62) rfl))) (notFace_of_selects (args := #[]) (mvT hZ (hw _ (List.mem_of_getElem? (i := 64) rfl)))) (mvT hZ (hw _ (List.mem_of_getElem? (i := 64) rfl))) (mvT hZ (hw _ (List.mem_of_getElem? (i := 63) rfl))) (by decide) (backOf (W := 0) (rm9 l Z a0 hw [] c22 (.ref a_w1) T23.heap n0 sz23 G22__23.2.2.2.2.2.2 rfl) hZ (hw _ (List.mem_of_getElem? (i := 65) rfl)) (hw _ (List.mem_of_getElem? (i := 44) rfl)) (by decide) (by decide)) q24a q24c (g := (mkF m 30 #[.val (.int p0), .val (.int p1), .val (.int p2), .val (.int p3), .val (.ref a_w1), .val (.ref a_w15), .val (.ref c22), .val (.ref c23), .unset, .unset, .unset] [(.ref c22)])) rfl (by rw [hml]; rfl) (Steps.refl _) (argsL := []) (rest := []) (lenOf pd0_2 rfl) rfl (by show 2 * 0 + _ ≤ _; exact Nat.le_of_eq rfl) (hb hby at_30) (fun _ _ => ⟨rfl, rfl, (by decide : 0 + 3 + 3 + 0 ≤ _), (by decide : 0 + 11 + 11 + 0 ≤ _)⟩)
      dsimp only [Pt.U, Pt.locs, Pt.cells, Pt.slots] at X24 l24 y24 z24 st24 hQ24
      subst l24 y24 z24
      obtain ⟨rfl, Nq24, e24⟩ := hQ24
      have N24 := Fr.app N23 Nq24
      refine own_go (fun t k => st24.trans k) ?_
      show own_Go p e below _ (T24.setTop (mkF m 33 #[.val (.int p0), .val (.int p1), .val (.int p2), .val (.int p3), .val (.ref a_w1), .val (.ref a_w15), .val (.ref c22), .val (.ref c23), .unset, .unset, .unset] [(.int (own_nn (.ref a_w1)))]))
      refine own_go (fun t k => XS.istore X24.here hx rfl (hb hby at_33) rfl (l' := #[.val (.int p0), .val (.int p1), .val (.int p2), .val (.int p3), .val (.ref a_w1), .val (.ref a_w15), .val (.ref c22), .val (.ref c23), .val (.int (own_nn (.ref a_w1))), .unset, .unset]) rfl k) ?_
      show own_Go p e below _ (T24.setTop (mkF m 35 #[.val (.int p0), .val (.int p1), .val (.int p2), .val (.int p3), .val (.ref a_w1), .val (.ref a_w15), .val (.ref c22), .val (.ref c23), .val (.int (own_nn (.ref a_w1))), .unset, .unset] []))
      refine own_go (fun t k => XS.aload X24.here hx rfl (hb hby at_35) rfl rfl k) ?_
      show own_Go p e below _ (T24.setTop (mkF m 37 #[.val (.int p0), .val (.int p1), .val (.int p2), .val (.int p3), .val (.ref a_w1), .val (.ref a_w15), .val (.ref c22), .val (.ref c23), .val (.int (own_nn (.ref a_w1))), .unset, .unset] [(.ref c23)]))
      obtain ⟨cq25, kq25, q25a, q25b, q25c⟩ := isOf hZ e24 G23.1
      obtain ⟨_, _, ⟨T25, L25, k25, n25⟩, -, X25, ⟨Lc25, hQ25, l25, y25, z25⟩, st25⟩ := X24.virtualBack hx (y := (⟨"com/example/tariff_reader/tariffreader/text/Qualifiers", "statesUnit", "()Z"⟩ : MethodName)) (z := (⟨"com/example/tariff_reader/tariffreader/text/Qualifiers", "statesUnit", "()Z"⟩ : MethodName)) hown (mvT hZ (hw _ (List.mem_of_getElem? (i := 61) rfl))) (mvT hZ (hw _ (List.mem_of_getElem? (i := 62) rfl))) (notFace_of_selects (args := #[]) (mvT hZ (hw _ (List.mem_of_getElem? (i := 64) rfl)))) (mvT hZ (hw _ (List.mem_of_getElem? (i := 64) rfl))) (mvT hZ (hw _ (List.mem_of_getElem? (i := 63) rfl))) (by decide) (backOf (W := 0) (rm9 l Z a0 hw [] c23 (.ref a_w15) T23.heap n0 sz23 G23.2.2.2.2.2.2 rfl) hZ (hw _ (List.mem_of_getElem? (i := 65) rfl)) (hw _ (List.mem_of_getElem? (i := 44) rfl)) (by decide) (by decide)) q25a q25c (g := (mkF m 37 #[.val (.int p0), .val (.int p1), .val (.int p2), .val (.int p3), .val (.ref a_w1), .val (.ref a_w15), .val (.ref c22), .val (.ref c23), .val (.int (own_nn (.ref a_w1))), .unset, .unset] [(.ref c23)])) rfl (by rw [hml]; rfl) (Steps.refl _) (argsL := []) (rest := []) (lenOf pd0_2 rfl) rfl (by show 2 * 0 + _ ≤ _; exact Nat.le_of_eq rfl) (hb hby at_37) (fun _ _ => ⟨rfl, e24, (by decide : 0 + 3 + 3 + 0 ≤ _), (by decide : 0 + 11 + 11 + 0 ≤ _)⟩)
      dsimp only [Pt.U, Pt.locs, Pt.cells, Pt.slots] at X25 l25 y25 z25 st25 hQ25
      subst l25 y25 z25
      obtain ⟨rfl, Nq25, e25⟩ := hQ25
      have N25 := Fr.app N24 Nq25
      refine own_go (fun t k => st25.trans k) ?_
      show own_Go p e below _ (T25.setTop (mkF m 40 #[.val (.int p0), .val (.int p1), .val (.int p2), .val (.int p3), .val (.ref a_w1), .val (.ref a_w15), .val (.ref c22), .val (.ref c23), .val (.int (own_nn (.ref a_w1))), .unset, .unset] [(.int (own_nn (.ref a_w15)))]))
      refine own_go (fun t k => XS.istore X25.here hx rfl (hb hby at_40) rfl (l' := #[.val (.int p0), .val (.int p1), .val (.int p2), .val (.int p3), .val (.ref a_w1), .val (.ref a_w15), .val (.ref c22), .val (.ref c23), .val (.int (own_nn (.ref a_w1))), .val (.int (own_nn (.ref a_w15))), .unset]) rfl k) ?_
      show own_Go p e below _ (T25.setTop (mkF m 42 #[.val (.int p0), .val (.int p1), .val (.int p2), .val (.int p3), .val (.ref a_w1), .val (.ref a_w15), .val (.ref c22), .val (.ref c23), .val (.int (own_nn (.ref a_w1))), .val (.int (own_nn (.ref a_w15))), .unset] []))
      refine own_go (fun t k => XS.aload X25.here hx rfl (hb hby at_42) rfl rfl k) ?_
      show own_Go p e below _ (T25.setTop (mkF m 44 #[.val (.int p0), .val (.int p1), .val (.int p2), .val (.int p3), .val (.ref a_w1), .val (.ref a_w15), .val (.ref c22), .val (.ref c23), .val (.int (own_nn (.ref a_w1))), .val (.int (own_nn (.ref a_w15))), .unset] [(.ref c22)]))
      refine own_go (fun t k => XS.aload X25.here hx rfl (hb hby at_44) rfl rfl k) ?_
      show own_Go p e below _ (T25.setTop (mkF m 46 #[.val (.int p0), .val (.int p1), .val (.int p2), .val (.int p3), .val (.ref a_w1), .val (.ref a_w15), .val (.ref c22), .val (.ref c23), .val (.int (own_nn (.ref a_w1))), .val (.int (own_nn (.ref a_w15))), .unset] [(.ref c23), (.ref c22)]))
      obtain ⟨cq26, kq26, q26a, q26b, q26c⟩ := isOf hZ e25 G22__23.1
      obtain ⟨_, _, ⟨T26, L26, k26, n26⟩, -, X26, ⟨Lc26, hQ26, l26, y26, z26⟩, st26⟩ := X25.virtualBack hx (y := (⟨"com/example/tariff_reader/tariffreader/text/Qualifiers", "orElse", "(Lcom/example/tariff_reader/tariffreader/text/Qualifiers;)Lcom/example/tariff_reader/tariffreader/text/Qualifiers;"⟩ : MethodName)) (z := (⟨"com/example/tariff_reader/tariffreader/text/Qualifiers", "orElse", "(Lcom/example/tariff_reader/tariffreader/text/Qualifiers;)Lcom/example/tariff_reader/tariffreader/text/Qualifiers;"⟩ : MethodName)) hown (mvT hZ (hw _ (List.mem_of_getElem? (i := 66) rfl))) (mvT hZ (hw _ (List.mem_of_getElem? (i := 67) rfl))) (notFace_of_selects (args := #[]) (mvT hZ (hw _ (List.mem_of_getElem? (i := 69) rfl)))) (mvT hZ (hw _ (List.mem_of_getElem? (i := 69) rfl))) (mvT hZ (hw _ (List.mem_of_getElem? (i := 68) rfl))) (by decide) (backOf (W := 0) (rm10 l Z a0 hw [] c22 c23 m22_1 m22_2 m22_3 m22_4 m22_5 (.ref a_w1) m23_1 m23_2 m23_3 m23_4 m23_5 (.ref a_w15) T23.heap n0 sz23 G22__23 G23 r_m22_1 r_m22_2 r_m22_3 r_m22_4 r_m22_5 rfl r_m23_1 r_m23_2 r_m23_3 r_m23_4 r_m23_5 rfl) hZ (hw _ (List.mem_of_getElem? (i := 70) rfl)) (hw _ (List.mem_of_getElem? (i := 44) rfl)) (by decide) (by decide)) q26a q26c (g := (mkF m 46 #[.val (.int p0), .val (.int p1), .val (.int p2), .val (.int p3), .val (.ref a_w1), .val (.ref a_w15), .val (.ref c22), .val (.ref c23), .val (.int (own_nn (.ref a_w1))), .val (.int (own_nn (.ref a_w15))), .unset] [(.ref c23), (.ref c22)])) rfl (by rw [hml]; rfl) (Steps.refl _) (argsL := [(.ref c23)]) (rest := []) (lenOf pd0_3 rfl) rfl (by show 2 * 0 + _ ≤ _; exact Nat.le_of_eq rfl) (hb hby at_46) (fun _ _ => ⟨rfl, e25, (by decide : 0 + 3 + 3 + 1 ≤ _), (by decide : 0 + 11 + 11 + 6 ≤ _)⟩)
      dsimp only [Pt.U, Pt.locs, Pt.cells, Pt.slots] at X26 l26 y26 z26 st26 hQ26
      subst l26 y26 z26
      obtain ⟨c26, m26_1, m26_2, m26_3, m26_4, m26_5, rfl, Nq26, K26, ge26, G26⟩ := hQ26
      have N26 := Fr.app N25 Nq26
      refine own_go (fun t k => st26.trans k) ?_
      have g_c26 : n0 ≤ c26 := Nat.le_trans sz23 ge26
      have sz_c26 : h0.size ≤ c26 := Nat.le_trans KP23.1 ge26
      have ne_c22_c26 : c22 ≠ c26 := Nat.ne_of_lt (Nat.lt_of_lt_of_le G22__23.1.lt ge26)
      have ne_c23_c26 : c23 ≠ c26 := Nat.ne_of_lt (Nat.lt_of_lt_of_le G23.1.lt ge26)
      have XO__26 := XO__23.keep K26 all0
      have G22__26 := G22__23.keep K26 nin0
      have G23__26 := G23.keep K26 nin0
      have KP26 := KP23.trans K26 all0
      have sz26 := Nat.le_trans sz23 K26.1
      show own_Go p e below _ (T26.setTop (mkF m 49 #[.val (.int p0), .val (.int p1), .val (.int p2), .val (.int p3), .val (.ref a_w1), .val (.ref a_w15), .val (.ref c22), .val (.ref c23), .val (.int (own_nn (.ref a_w1))), .val (.int (own_nn (.ref a_w15))), .unset] [(.ref c26)]))
      obtain ⟨cq27, kq27, q27a, q27b, q27c⟩ := isOf hZ rfl G26.1
      obtain ⟨_, _, ⟨T27, L27, k27, n27⟩, -, X27, ⟨Lc27, hQ27, l27, y27, z27⟩, st27⟩ := X26.virtualBack hx (y := (⟨"com/example/tariff_reader/tariffreader/text/Qualifiers", "statesUnit", "()Z"⟩ : MethodName)) (z := (⟨"com/example/tariff_reader/tariffreader/text/Qualifiers", "statesUnit", "()Z"⟩ : MethodName)) hown (mvT hZ (hw _ (List.mem_of_getElem? (i := 61) rfl))) (mvT hZ (hw _ (List.mem_of_getElem? (i := 62) rfl))) (notFace_of_selects (args := #[]) (mvT hZ (hw _ (List.mem_of_getElem? (i := 64) rfl)))) (mvT hZ (hw _ (List.mem_of_getElem? (i := 64) rfl))) (mvT hZ (hw _ (List.mem_of_getElem? (i := 63) rfl))) (by decide) (backOf (W := 0) (rm9 l Z a0 hw [] c26 (own_or (.ref a_w1) (.ref a_w15)) T26.heap n0 sz26 G26.2.2.2.2.2.2 rfl) hZ (hw _ (List.mem_of_getElem? (i := 65) rfl)) (hw _ (List.mem_of_getElem? (i := 44) rfl)) (by decide) (by decide)) q27a q27c (g := (mkF m 49 #[.val (.int p0), .val (.int p1), .val (.int p2), .val (.int p3), .val (.ref a_w1), .val (.ref a_w15), .val (.ref c22), .val (.ref c23), .val (.int (own_nn (.ref a_w1))), .val (.int (own_nn (.ref a_w15))), .unset] [(.ref c26)])) rfl (by rw [hml]; rfl) (Steps.refl _) (argsL := []) (rest := []) (lenOf pd0_2 rfl) rfl (by show 2 * 0 + _ ≤ _; exact Nat.le_of_eq rfl) (hb hby at_49) (fun _ _ => ⟨rfl, rfl, (by decide : 0 + 3 + 3 + 1 + 0 ≤ _), (by decide : 0 + 11 + 11 + 6 + 0 ≤ _)⟩)
      dsimp only [Pt.U, Pt.locs, Pt.cells, Pt.slots] at X27 l27 y27 z27 st27 hQ27
      subst l27 y27 z27
      obtain ⟨rfl, Nq27, e27⟩ := hQ27
      have N27 := Fr.app N26 Nq27
      refine own_go (fun t k => st27.trans k) ?_
      show own_Go p e below _ (T27.setTop (mkF m 52 #[.val (.int p0), .val (.int p1), .val (.int p2), .val (.int p3), .val (.ref a_w1), .val (.ref a_w15), .val (.ref c22), .val (.ref c23), .val (.int (own_nn (.ref a_w1))), .val (.int (own_nn (.ref a_w15))), .unset] [(.int (own_nn (own_or (.ref a_w1) (.ref a_w15))))]))
      refine own_go (fun t k => XS.istore X27.here hx rfl (hb hby at_52) rfl (l' := #[.val (.int p0), .val (.int p1), .val (.int p2), .val (.int p3), .val (.ref a_w1), .val (.ref a_w15), .val (.ref c22), .val (.ref c23), .val (.int (own_nn (.ref a_w1))), .val (.int (own_nn (.ref a_w15))), .val (.int (own_nn (own_or (.ref a_w1) (.ref a_w15))))]) rfl k) ?_
      show own_Go p e below _ (T27.setTop (mkF m 54 #[.val (.int p0), .val (.int p1), .val (.int p2), .val (.int p3), .val (.ref a_w1), .val (.ref a_w15), .val (.ref c22), .val (.ref c23), .val (.int (own_nn (.ref a_w1))), .val (.int (own_nn (.ref a_w15))), .val (.int (own_nn (own_or (.ref a_w1) (.ref a_w15))))] []))
      refine own_go (fun t k => XS.iload X27.here hx rfl (hb hby at_54) rfl k) ?_
      show own_Go p e below _ (T27.setTop (mkF m 56 #[.val (.int p0), .val (.int p1), .val (.int p2), .val (.int p3), .val (.ref a_w1), .val (.ref a_w15), .val (.ref c22), .val (.ref c23), .val (.int (own_nn (.ref a_w1))), .val (.int (own_nn (.ref a_w15))), .val (.int (own_nn (own_or (.ref a_w1) (.ref a_w15))))] [(.int (own_nn (.ref a_w1)))]))
      refine own_go (fun t k => XS.aload X27.here hx rfl (hb hby at_56) rfl rfl k) ?_
      show own_Go p e below _ (T27.setTop (mkF m 58 #[.val (.int p0), .val (.int p1), .val (.int p2), .val (.int p3), .val (.ref a_w1), .val (.ref a_w15), .val (.ref c22), .val (.ref c23), .val (.int (own_nn (.ref a_w1))), .val (.int (own_nn (.ref a_w15))), .val (.int (own_nn (own_or (.ref a_w1) (.ref a_w15))))] [(.ref a_w1), (.int (own_nn (.ref a_w1)))]))
      refine own_go (fun t k => XS.ifnullNo X27.here hx rfl (hb hby at_58) rfl k) ?_
      show own_Go p e below _ (T27.setTop (mkF m 61 #[.val (.int p0), .val (.int p1), .val (.int p2), .val (.int p3), .val (.ref a_w1), .val (.ref a_w15), .val (.ref c22), .val (.ref c23), .val (.int (own_nn (.ref a_w1))), .val (.int (own_nn (.ref a_w15))), .val (.int (own_nn (own_or (.ref a_w1) (.ref a_w15))))] [(.int (own_nn (.ref a_w1)))]))
      refine own_go (fun t k => XS.iconst X27.here hx rfl (hb hby at_61) k) ?_
      show own_Go p e below _ (T27.setTop (mkF m 62 #[.val (.int p0), .val (.int p1), .val (.int p2), .val (.int p3), .val (.ref a_w1), .val (.ref a_w15), .val (.ref c22), .val (.ref c23), .val (.int (own_nn (.ref a_w1))), .val (.int (own_nn (.ref a_w15))), .val (.int (own_nn (own_or (.ref a_w1) (.ref a_w15))))] [(.int (1 : Int32)), (.int (own_nn (.ref a_w1)))]))
      refine own_go (fun t k => XS.goto X27.here hx rfl (pc0 := 62) (pc' := 66) rfl (hb hby at_62) (by decide) (by decide) k) ?_
      show own_Go p e below _ (T27.setTop (mkF m 66 #[.val (.int p0), .val (.int p1), .val (.int p2), .val (.int p3), .val (.ref a_w1), .val (.ref a_w15), .val (.ref c22), .val (.ref c23), .val (.int (own_nn (.ref a_w1))), .val (.int (own_nn (.ref a_w15))), .val (.int (own_nn (own_or (.ref a_w1) (.ref a_w15))))] [(.int (1 : Int32)), (.int (own_nn (.ref a_w1)))]))
      refine own_go (fun t k => XS.icmpNo X27.here hx rfl (hb hby at_66) rfl (teq (rfl : (own_nn (.ref a_w1)) = (1 : Int32))).2 k) ?_
      show own_Go p e below _ (T27.setTop (mkF m 69 #[.val (.int p0), .val (.int p1), .val (.int p2), .val (.int p3), .val (.ref a_w1), .val (.ref a_w15), .val (.ref c22), .val (.ref c23), .val (.int (own_nn (.ref a_w1))), .val (.int (own_nn (.ref a_w15))), .val (.int (own_nn (own_or (.ref a_w1) (.ref a_w15))))] []))
      refine own_go (fun t k => XS.iload X27.here hx rfl (hb hby at_69) rfl k) ?_
      show own_Go p e below _ (T27.setTop (mkF m 71 #[.val (.int p0), .val (.int p1), .val (.int p2), .val (.int p3), .val (.ref a_w1), .val (.ref a_w15), .val (.ref c22), .val (.ref c23), .val (.int (own_nn (.ref a_w1))), .val (.int (own_nn (.ref a_w15))), .val (.int (own_nn (own_or (.ref a_w1) (.ref a_w15))))] [(.int (own_nn (.ref a_w15)))]))
      refine own_go (fun t k => XS.aload X27.here hx rfl (hb hby at_71) rfl rfl k) ?_
      show own_Go p e below _ (T27.setTop (mkF m 73 #[.val (.int p0), .val (.int p1), .val (.int p2), .val (.int p3), .val (.ref a_w1), .val (.ref a_w15), .val (.ref c22), .val (.ref c23), .val (.int (own_nn (.ref a_w1))), .val (.int (own_nn (.ref a_w15))), .val (.int (own_nn (own_or (.ref a_w1) (.ref a_w15))))] [(.ref a_w15), (.int (own_nn (.ref a_w15)))]))
      refine own_go (fun t k => XS.ifnullNo X27.here hx rfl (hb hby at_73) rfl k) ?_
      show own_Go p e below _ (T27.setTop (mkF m 76 #[.val (.int p0), .val (.int p1), .val (.int p2), .val (.int p3), .val (.ref a_w1), .val (.ref a_w15), .val (.ref c22), .val (.ref c23), .val (.int (own_nn (.ref a_w1))), .val (.int (own_nn (.ref a_w15))), .val (.int (own_nn (own_or (.ref a_w1) (.ref a_w15))))] [(.int (own_nn (.ref a_w15)))]))
      refine own_go (fun t k => XS.iconst X27.here hx rfl (hb hby at_76) k) ?_
      show own_Go p e below _ (T27.setTop (mkF m 77 #[.val (.int p0), .val (.int p1), .val (.int p2), .val (.int p3), .val (.ref a_w1), .val (.ref a_w15), .val (.ref c22), .val (.ref c23), .val (.int (own_nn (.ref a_w1))), .val (.int (own_nn (.ref a_w15))), .val (.int (own_nn (own_or (.ref a_w1) (.ref a_w15))))] [(.int (1 : Int32)), (.int (own_nn (.ref a_w15)))]))
      refine own_go (fun t k => XS.goto X27.here hx rfl (pc0 := 77) (pc' := 81) rfl (hb hby at_77) (by decide) (by decide) k) ?_
      show own_Go p e below _ (T27.setTop (mkF m 81 #[.val (.int p0), .val (.int p1), .val (.int p2), .val (.int p3), .val (.ref a_w1), .val (.ref a_w15), .val (.ref c22), .val (.ref c23), .val (.int (own_nn (.ref a_w1))), .val (.int (own_nn (.ref a_w15))), .val (.int (own_nn (own_or (.ref a_w1) (.ref a_w15))))] [(.int (1 : Int32)), (.int (own_nn (.ref a_w15)))]))
      refine own_go (fun t k => XS.icmpNo X27.here hx rfl (hb hby at_81) rfl (teq (rfl : (own_nn (.ref a_w15)) = (1 : Int32))).2 k) ?_
      show own_Go p e below _ (T27.setTop (mkF m 84 #[.val (.int p0), .val (.int p1), .val (.int p2), .val (.int p3), .val (.ref a_w1), .val (.ref a_w15), .val (.ref c22), .val (.ref c23), .val (.int (own_nn (.ref a_w1))), .val (.int (own_nn (.ref a_w15))), .val (.int (own_nn (own_or (.ref a_w1) (.ref a_w15))))] []))
      refine own_go (fun t k => XS.iload X27.here hx rfl (hb hby at_84) rfl k) ?_
      show own_Go p e below _ (T27.setTop (mkF m 86 #[.val (.int p0), .val (.int p1), .val (.int p2), .val (.int p3), .val (.ref a_w1), .val (.ref a_w15), .val (.ref c22), .val (.ref c23), .val (.int (own_nn (.ref a_w1))), .val (.int (own_nn (.ref a_w15))), .val (.int (own_nn (own_or (.ref a_w1) (.ref a_w15))))] [(.int (own_nn (own_or (.ref a_w1) (.ref a_w15))))]))
      refine own_go (fun t k => XS.iload X27.here hx rfl (hb hby at_86) rfl k) ?_
      show own_Go p e below _ (T27.setTop (mkF m 88 #[.val (.int p0), .val (.int p1), .val (.int p2), .val (.int p3), .val (.ref a_w1), .val (.ref a_w15), .val (.ref c22), .val (.ref c23), .val (.int (own_nn (.ref a_w1))), .val (.int (own_nn (.ref a_w15))), .val (.int (own_nn (own_or (.ref a_w1) (.ref a_w15))))] [(.int (own_nn (.ref a_w1))), (.int (own_nn (own_or (.ref a_w1) (.ref a_w15))))]))
      refine own_go (fun t k => XS.ifYes X27.here hx rfl (pc0 := 88) (pc' := 96) rfl (hb hby at_88) rfl ((if0 _ _).trans (feq (fun (q : (own_nn (.ref a_w1)) = (0 : Int32)) => absurd q (by show ¬ ((1 : Int32) = 0); decide))).2) (by decide) (by decide) k) ?_
      show own_Go p e below _ (T27.setTop (mkF m 96 #[.val (.int p0), .val (.int p1), .val (.int p2), .val (.int p3), .val (.ref a_w1), .val (.ref a_w15), .val (.ref c22), .val (.ref c23), .val (.int (own_nn (.ref a_w1))), .val (.int (own_nn (.ref a_w15))), .val (.int (own_nn (own_or (.ref a_w1) (.ref a_w15))))] [(.int (own_nn (own_or (.ref a_w1) (.ref a_w15))))]))
      refine own_go (fun t k => XS.iconst X27.here hx rfl (hb hby at_96) k) ?_
      show own_Go p e below _ (T27.setTop (mkF m 97 #[.val (.int p0), .val (.int p1), .val (.int p2), .val (.int p3), .val (.ref a_w1), .val (.ref a_w15), .val (.ref c22), .val (.ref c23), .val (.int (own_nn (.ref a_w1))), .val (.int (own_nn (.ref a_w15))), .val (.int (own_nn (own_or (.ref a_w1) (.ref a_w15))))] [(.int (1 : Int32)), (.int (own_nn (own_or (.ref a_w1) (.ref a_w15))))]))
      refine own_go (fun t k => XS.goto X27.here hx rfl (pc0 := 97) (pc' := 101) rfl (hb hby at_97) (by decide) (by decide) k) ?_
      show own_Go p e below _ (T27.setTop (mkF m 101 #[.val (.int p0), .val (.int p1), .val (.int p2), .val (.int p3), .val (.ref a_w1), .val (.ref a_w15), .val (.ref c22), .val (.ref c23), .val (.int (own_nn (.ref a_w1))), .val (.int (own_nn (.ref a_w15))), .val (.int (own_nn (own_or (.ref a_w1) (.ref a_w15))))] [(.int (1 : Int32)), (.int (own_nn (own_or (.ref a_w1) (.ref a_w15))))]))
      refine own_go (fun t k => XS.icmpNo X27.here hx rfl (hb hby at_101) rfl (teq (rfl : (own_nn (own_or (.ref a_w1) (.ref a_w15))) = (1 : Int32))).2 k) ?_
      show own_Go p e below _ (T27.setTop (mkF m 104 #[.val (.int p0), .val (.int p1), .val (.int p2), .val (.int p3), .val (.ref a_w1), .val (.ref a_w15), .val (.ref c22), .val (.ref c23), .val (.int (own_nn (.ref a_w1))), .val (.int (own_nn (.ref a_w15))), .val (.int (own_nn (own_or (.ref a_w1) (.ref a_w15))))] []))
      refine own_go (fun t k => XS.iconst X27.here hx rfl (hb hby at_104) k) ?_
      show own_Go p e below _ (T27.setTop (mkF m 105 #[.val (.int p0), .val (.int p1), .val (.int p2), .val (.int p3), .val (.ref a_w1), .val (.ref a_w15), .val (.ref c22), .val (.ref c23), .val (.int (own_nn (.ref a_w1))), .val (.int (own_nn (.ref a_w15))), .val (.int (own_nn (own_or (.ref a_w1) (.ref a_w15))))] [(.int (1 : Int32))]))
      refine own_go (fun t k => XS.goto X27.here hx rfl (pc0 := 105) (pc' := 109) rfl (hb hby at_105) (by decide) (by decide) k) ?_
      show own_Go p e below _ (T27.setTop (mkF m 109 #[.val (.int p0), .val (.int p1), .val (.int p2), .val (.int p3), .val (.ref a_w1), .val (.ref a_w15), .val (.ref c22), .val (.ref c23), .val (.int (own_nn (.ref a_w1))), .val (.int (own_nn (.ref a_w15))), .val (.int (own_nn (own_or (.ref a_w1) (.ref a_w15))))] [(.int (1 : Int32))]))
      exact own_retN X27 hx (t := .boolean) Bd.returns (by simp) (hb hby at_109) (⟨rfl, N27⟩) (by decide) (by decide)
theorem eq_I {args : Array Value} {first s : State} {o : Option Outcome} {idx : List Nat} {a b : Term} {x y : Int32} (ha : a.eval args first o idx s = some (.int x)) (hb : b.eval args first o idx s = some (.int y)) : (Jvm.Cond.eq a b).value args first o s idx = some (decide (x = y)) := by simp [Cond.value, ha, hb]
set_option maxRecDepth 65536 in
set_option maxHeartbeats 40000000 in
theorem comes_1 {Post : Tables → Env → Array Value → State → Outcome → State → Prop} (hpost : ∀ tb e args s v u, (limb_1_1.after args s (.returned v) u = true ∧ limb_1_2.after args s (.returned v) u = true ∧ True) → FrameEnd s (.returned v) u (Jvm.fieldLocs frame_1_writes args s ++ Jvm.arrayLocs frame_1_arrays args s ++ Jvm.staticLocs frame_1_statics s) 24 128 → Post tb e args s (.returned v) u) :
    ArmFor flags0 classFile x code maxLocals ret World_1 tables_1 room_1 Calls_1 rest_1 Pre_1 Post := by
  intro l hfl _ _ p e ha hc hk s m args below hf hA hF happ hP
  obtain ⟨hcalls, hrest, hpre⟩ := hP
  obtain ⟨-, -, -, hnamed, -, -, -, hat⟩ := (Spec.applies_iff hf).mp happ
  obtain ⟨hg, hn⟩ := and_e (Cond.before_iff.mp (show (Jvm.Cond.and given_1 narrow_1).before args s = true from hpre))
  obtain ⟨gc, gr0⟩ := and_e hg
  obtain ⟨ga0, gr1⟩ := and_e gr0
  obtain ⟨ga1, gr2⟩ := and_e gr1
  obtain ⟨ga2, ga3⟩ := and_e gr2
  obtain ⟨w0, w1, w2, w3, rfl⟩ : ∃ w0 w1 w2 w3 : Value, args = #[w0, w1, w2, w3] := by
    have hs : args.size = 4 := by simpa [Cond.value, given_1] using gc
    obtain ⟨L⟩ := args
    match L, hs with
    | [w0, w1, w2, w3], _ => exact ⟨w0, w1, w2, w3, rfl⟩
  have hw := fun d (hd : d ∈ tables_1) => atoms_spec (ws := Jvm.Cond.code x code maxLocals ret :: tables_1) hat d (List.mem_cons_of_mem _ hd)
  have hfit : Fit s := fun {y c} hc i hi => by
    obtain ⟨ha, rfl⟩ := Array.getElem?_eq_some_iff.mp hc
    have q := List.all_eq_true.mp ((Array.all_eq_true_iff_forall_mem.mp hF) _ (Array.getElem_mem ha)) i (List.mem_range.mpr hi)
    simpa [Array.getElem?_eq_getElem hi] using q
  obtain ⟨hsets, hown0⟩ := atoms_of _ (rest_1_c_eq ▸ (show rest_1_c.before _ s = true from hrest))
  obtain ⟨i0, ei0⟩ := is_v ga0
  obtain rfl : w0 = (.int i0) := Option.some.inj ei0
  obtain ⟨i1, ei1⟩ := is_v ga1
  obtain rfl : w1 = (.int i1) := Option.some.inj ei1
  obtain ⟨i2, ei2⟩ := is_v ga2
  obtain rfl : w2 = (.int i2) := Option.some.inj ei2
  obtain ⟨i3, ei3⟩ := is_v ga3
  obtain rfl : w3 = (.int i3) := Option.some.inj ei3
  obtain ⟨hn1a, hn1b⟩ := and_e hn
  obtain ⟨hn2a, hn2b⟩ := and_e hn1b
  obtain ⟨hn3a, hn3b⟩ := and_e hn2b
  obtain ⟨hn4a, hn4b⟩ := and_e hn3b
  obtain ⟨hn5a, hn5b⟩ := and_e hn4b
  obtain ⟨hn6a, hn6b⟩ := and_e hn5b
  obtain ⟨hn7a, hn7b⟩ := and_e hn6b
  obtain ⟨aMINUTE_MILE, vMINUTE_MILE⟩ := exa_v hn2a
  have SMINUTE_MILE := Sta.start vMINUTE_MILE (Or.inr ⟨(hw _ (List.mem_of_getElem? (i := 6) rfl)), (hw _ (List.mem_of_getElem? (i := 9) rfl))⟩)
  obtain ⟨aMINUTE, vMINUTE⟩ := exa_v hn6a
  have SMINUTE := Sta.start vMINUTE (Or.inr ⟨(hw _ (List.mem_of_getElem? (i := 6) rfl)), (hw _ (List.mem_of_getElem? (i := 81) rfl))⟩)
  obtain ⟨aQUERY, vQUERY⟩ := exa_v hn1a
  have SQUERY := Sta.start vQUERY (Or.inr ⟨(hw _ (List.mem_of_getElem? (i := 6) rfl)), (hw _ (List.mem_of_getElem? (i := 7) rfl))⟩)
  obtain ⟨aMONTH, vMONTH⟩ := exa_v hn3a
  have SMONTH := Sta.start vMONTH (Or.inr ⟨(hw _ (List.mem_of_getElem? (i := 6) rfl)), (hw _ (List.mem_of_getElem? (i := 74) rfl))⟩)
  obtain ⟨aOCCURRENCE, vOCCURRENCE⟩ := exa_v hn7a
  have SOCCURRENCE := Sta.start vOCCURRENCE (Or.inr ⟨(hw _ (List.mem_of_getElem? (i := 6) rfl)), (hw _ (List.mem_of_getElem? (i := 83) rfl))⟩)
  obtain ⟨aORIGINATING, vORIGINATING⟩ := exa_v hn4a
  have SORIGINATING := Sta.start vORIGINATING (Or.inr ⟨(hw _ (List.mem_of_getElem? (i := 76) rfl)), (hw _ (List.mem_of_getElem? (i := 77) rfl))⟩)
  obtain ⟨aTERMINATING, vTERMINATING⟩ := exa_v hn7b
  have STERMINATING := Sta.start vTERMINATING (Or.inr ⟨(hw _ (List.mem_of_getElem? (i := 76) rfl)), (hw _ (List.mem_of_getElem? (i := 85) rfl))⟩)
  obtain ⟨aBOTH, vBOTH⟩ := exa_v hn5a
  have SBOTH := Sta.start vBOTH (Or.inr ⟨(hw _ (List.mem_of_getElem? (i := 76) rfl)), (hw _ (List.mem_of_getElem? (i := 79) rfl))⟩)
  obtain ⟨cs, ecs⟩ := is_v (Cond.before_iff.mp (hsets _ (List.mem_of_getElem? (i := 1) rfl)))
  have SCS := Sta.start ecs (Or.inl (hsets _ (List.mem_of_getElem? (i := 0) rfl)))
  have hcs : ¬ cs = 0 := gotF (eq_I ecs (Term.int_eval 0)) (not_v (Cond.before_iff.mp (hsets _ (List.mem_of_getElem? (i := 2) rfl))))
  have WW : own_W s := ⟨⟨cs, hcs, SCS⟩, ⟨aMINUTE_MILE, SMINUTE_MILE⟩, ⟨aMINUTE, SMINUTE⟩, ⟨aQUERY, SQUERY⟩, ⟨aMONTH, SMONTH⟩, ⟨aOCCURRENCE, SOCCURRENCE⟩, ⟨aORIGINATING, SORIGINATING⟩, ⟨aTERMINATING, STERMINATING⟩, ⟨aBOTH, SBOTH⟩⟩
  obtain ⟨n, o, h1, h2, h3, _, L, rfl, ⟨rfl, N⟩, hq⟩ := rm0 l s _ hw tables_1 i0 i1 i2 i3 s.heap s.heap.size (Nat.le_refl _) (Old.start s) WW p e ha hc hk s m _ below hf ((Spec.applies_iff_loose hf).mp happ).1 ⟨rfl, State.Warmed39.refl s, rfl⟩ trivial
  refine ⟨n, _, h1, h2, h3, hpost _ _ _ _ _ _ ⟨Cond.after_iff.mpr rfl, Cond.after_iff.mpr (eq_i res_at (Term.int_eval (1)) rfl), trivial⟩ ⟨hq.1, hq.2.1, (hq.2.2.sift fun y hy => Or.inr (N y hy)).mono (by decide) (by decide)⟩⟩
theorem main_1_1 : Claimed_1_1 := comes_1 fun _ _ _ _ _ _ h hF => ⟨h.1, hF⟩
theorem main_1_2 : Claimed_1_2 := comes_1 fun _ _ _ _ _ _ h hF => ⟨h.2.1, hF⟩
end Jvm.Pilot.@@N@@
namespace Jvm.Pilot.@@N@@
open Jvm Jvm.ClassFile Sem Op Lib Jvm.Free Jvm.Stand Jvm.Pilot.@@N@@.Jvm.D
/-! MADE BY PROGRAM (witnessworld.py) out of the Statement's table words and the real class files: 20 classes; the members and pool entries that the words name. The judged class is class 1, her method 1. -/
namespace start1
open Jvm.ClassFile
def u (s : String) : CpInfo := .utf8 (stringToUtf16 s)
/-- a pool by its gaps: so many unusable entries, then the entry; so many at the end -/
def gap : Nat → List CpInfo → List CpInfo
  | 0, r => r
  | n + 1, r => .unusable :: gap n r
def poolList (es : List (Nat × CpInfo)) (last : Nat) : List CpInfo := es.foldr (fun e r => gap e.1 (e.2 :: r)) (gap last [])
def pool (es : List (Nat × CpInfo)) (last : Nat) : Array CpInfo := ⟨poolList es last⟩
def fileOf (pool : Array CpInfo) (this : Nat) (attrs : Array Attribute := #[]) (ms : Array MethodInfo := #[]) (fl : Nat := 33) (sup : Nat := 0) (ifs : Array Nat := #[]) (fds : Array FieldInfo := #[]) : ClassFile where
  minorVersion := 0
  majorVersion := 65
  constantPool := pool
  accessFlags := fl
  thisClass := this
  superClass := sup
  interfaces := ifs
  fields := fds
  methods := ms
  attributes := attrs
def plain (name : String) (sup : Option ClassId) : Class where
  name := name
  kind := .ordinary
  loader := none
  accessFlags := 33
  super := sup
  interfaces := #[]
  cf := none
  fields := #[]
  methods := #[]
  instanceTypes := #[]
  staticTypes := #[]
  resolved := #[]
  callSites := []
  init := .initialized
  statics := none
  mirror := none

def pool0 : Array CpInfo := pool [(5, u "<init>"), (0, u "()V"), (1, .class_ 10), (1, u "java/lang/Object")] 113

def k0c0 : Code := { maxStack := 0, maxLocals := 1, code := object_method_1_code, exceptionTable := #[], attributes := #[] }
def k0m0 : Method := { name := "<init>", desc := "()V", sig := { parameters := [], returnType := none }, accessFlags := 1, code := some k0c0 }
/-- java/lang/Object -/
def k0 : Class := { plain "java/lang/Object" none with
  accessFlags := 33
  interfaces := #[]
  cf := some (fileOf pool0 8 #[] #[{ accessFlags := 1, nameIndex := 5, descriptorIndex := 6, attributes := #[] }] 33 0 #[] #[])
  fields := #[]
  methods := #[k0m0]
  instanceTypes := #[]
  staticTypes := #[]
  resolved := Array.replicate 124 none
  statics := none }

def pool1 : Array CpInfo := pool [(2, .class_ 4), (1, u "java/lang/Object"), (0, u "<init>"), (0, u "()V"), (0, .methodref 8 9), (0, .class_ 10), (0, .nameAndType 11 12), (0, u "com/example/tariff_reader/tariffreader/text/QualifiersStatesUnitPinLaw"), (0, u "unit"), (0, u "(I)Lcom/example/tariff_reader/tariffreader/model/Unit;"), (0, .methodref 8 14), (0, .nameAndType 15 16), (0, u "make"), (0, u "(ILcom/example/tariff_reader/tariffreader/model/Unit;)Lcom/example/tariff_reader/tariffreader/text/Qualifiers;"), (0, .methodref 18 19), (0, .class_ 20), (0, .nameAndType 21 22), (0, u "com/example/tariff_reader/tariffreader/text/Qualifiers"), (0, u "statesUnit"), (0, u "()Z"), (0, .methodref 18 24), (0, .nameAndType 25 26), (0, u "orElse"), (0, u "(Lcom/example/tariff_reader/tariffreader/text/Qualifiers;)Lcom/example/tariff_reader/tariffreader/text/Qualifiers;"), (0, .integer 2147483647), (0, .fieldref 29 30), (0, .class_ 31), (0, .nameAndType 32 33), (0, u "com/example/tariff_reader/tariffreader/model/Unit"), (0, u "MINUTE_MILE"), (0, u "Lcom/example/tariff_reader/tariffreader/model/Unit;"), (0, .fieldref 29 35), (0, .nameAndType 36 33), (0, u "MINUTE"), (0, .fieldref 29 38), (0, .nameAndType 39 33), (0, u "QUERY"), (0, .fieldref 29 41), (0, .nameAndType 42 33), (0, u "MONTH"), (0, .fieldref 29 44), (0, .nameAndType 45 33), (0, u "OCCURRENCE"), (0, .fieldref 47 48), (0, .class_ 49), (0, .nameAndType 50 51), (0, u "com/example/tariff_reader/tariffreader/model/Direction"), (0, u "ORIGINATING"), (0, u "Lcom/example/tariff_reader/tariffreader/model/Direction;"), (0, .fieldref 47 53), (0, .nameAndType 54 51), (0, u "TERMINATING"), (0, .fieldref 47 56), (0, .nameAndType 57 51), (0, u "BOTH"), (0, .methodref 59 60), (0, .class_ 61), (0, .nameAndType 62 63), (0, u "java/lang/String"), (0, u "valueOf"), (0, u "(C)Ljava/lang/String;"), (0, .methodref 8 65), (0, .nameAndType 66 67), (0, u "direction"), (0, u "(I)Lcom/example/tariff_reader/tariffreader/model/Direction;"), (0, .methodref 18 69), (0, .nameAndType 5 70), (0, u "(Ljava/lang/String;Ljava/lang/String;Ljava/lang/String;Lcom/example/tariff_reader/tariffreader/model/Direction;Ljava/lang/String;Lcom/example/tariff_reader/tariffreader/model/Unit;)V"), (2, u "law"), (0, u "(IIII)Z")] 3

def k1m0 : Method := { name := "<init>", desc := "()V", sig := { parameters := [], returnType := none }, accessFlags := 1, code := none }
def k1c1 : Code := { maxStack := 2, maxLocals := 11, code := code, exceptionTable := #[], attributes := #[] }
def k1m1 : Method := { name := "law", desc := "(IIII)Z", sig := { parameters := [.int, .int, .int, .int], returnType := some .boolean }, accessFlags := 9, code := some k1c1 }
def k1c2 : Code := { maxStack := 2, maxLocals := 2, code := method_3_code, exceptionTable := #[], attributes := #[] }
def k1m2 : Method := { name := "unit", desc := "(I)Lcom/example/tariff_reader/tariffreader/model/Unit;", sig := { parameters := [.int], returnType := some (.object "com/example/tariff_reader/tariffreader/model/Unit") }, accessFlags := 10, code := some k1c2 }
def k1c3 : Code := { maxStack := 2, maxLocals := 1, code := method_4_code, exceptionTable := #[], attributes := #[] }
def k1m3 : Method := { name := "direction", desc := "(I)Lcom/example/tariff_reader/tariffreader/model/Direction;", sig := { parameters := [.int], returnType := some (.object "com/example/tariff_reader/tariffreader/model/Direction") }, accessFlags := 10, code := some k1c3 }
def k1c4 : Code := { maxStack := 8, maxLocals := 8, code := method_5_code, exceptionTable := #[], attributes := #[] }
def k1m4 : Method := { name := "make", desc := "(ILcom/example/tariff_reader/tariffreader/model/Unit;)Lcom/example/tariff_reader/tariffreader/text/Qualifiers;", sig := { parameters := [.int, (.object "com/example/tariff_reader/tariffreader/model/Unit")], returnType := some (.object "com/example/tariff_reader/tariffreader/text/Qualifiers") }, accessFlags := 10, code := some k1c4 }
/-- com/example/tariff_reader/tariffreader/text/QualifiersStatesUnitPinLaw -/
def k1 : Class := { plain "com/example/tariff_reader/tariffreader/text/QualifiersStatesUnitPinLaw" (some 0) with
  accessFlags := 49
  interfaces := #[]
  cf := some (fileOf pool1 8 #[] #[{ accessFlags := 1, nameIndex := 5, descriptorIndex := 6, attributes := #[] }, { accessFlags := 9, nameIndex := 73, descriptorIndex := 74, attributes := #[] }, { accessFlags := 10, nameIndex := 11, descriptorIndex := 12, attributes := #[] }, { accessFlags := 10, nameIndex := 66, descriptorIndex := 67, attributes := #[] }, { accessFlags := 10, nameIndex := 15, descriptorIndex := 16, attributes := #[] }] 49 2 #[] #[])
  fields := #[]
  methods := #[k1m0, k1m1, k1m2, k1m3, k1m4]
  instanceTypes := #[]
  staticTypes := #[]
  resolved := Array.replicate 78 none
  statics := none }

def pool2 : Array CpInfo := pool [(1, .class_ 2), (0, u "java/lang/constant/Constable"), (0, .class_ 4), (0, u "java/lang/Object")] 6

/-- java/lang/constant/Constable -/
def k2 : Class := { plain "java/lang/constant/Constable" (some 0) with
  accessFlags := 1537
  interfaces := #[]
  cf := some (fileOf pool2 1 #[] #[] 1537 3 #[] #[])
  fields := #[]
  methods := #[]
  instanceTypes := #[]
  staticTypes := #[]
  resolved := Array.replicate 11 none
  statics := none }

def pool3 : Array CpInfo := pool [(1, .class_ 2), (0, u "java/lang/Comparable"), (0, .class_ 4), (0, u "java/lang/Object")] 7

/-- java/lang/Comparable -/
def k3 : Class := { plain "java/lang/Comparable" (some 0) with
  accessFlags := 1537
  interfaces := #[]
  cf := some (fileOf pool3 1 #[] #[] 1537 3 #[] #[])
  fields := #[]
  methods := #[]
  instanceTypes := #[]
  staticTypes := #[]
  resolved := Array.replicate 12 none
  statics := none }

def pool4 : Array CpInfo := pool [(1, .class_ 2), (0, u "java/io/Serializable"), (0, .class_ 4), (0, u "java/lang/Object")] 2

/-- java/io/Serializable -/
def k4 : Class := { plain "java/io/Serializable" (some 0) with
  accessFlags := 1537
  interfaces := #[]
  cf := some (fileOf pool4 1 #[] #[] 1537 3 #[] #[])
  fields := #[]
  methods := #[]
  instanceTypes := #[]
  staticTypes := #[]
  resolved := Array.replicate 7 none
  statics := none }

def pool5 : Array CpInfo := pool [(2, .class_ 4), (1, u "java/lang/Enum"), (0, u "name"), (0, u "Ljava/lang/String;"), (2, u "ordinal"), (0, u "I"), (1, .class_ 14), (1, u "java/lang/Object"), (4, u "hash"), (86, .class_ 108), (1, u "java/lang/Enum$EnumDesc"), (2, .class_ 112), (0, u "java/lang/constant/Constable"), (0, .class_ 114), (0, u "java/lang/Comparable"), (0, .class_ 116), (0, u "java/io/Serializable")] 87

/-- java/lang/Enum -/
def k5 : Class := { plain "java/lang/Enum" (some 0) with
  accessFlags := 1057
  interfaces := #[2, 3, 4]
  cf := some (fileOf pool5 2 #[.nestMembers #[106]] #[] 1057 12 #[111, 113, 115] #[{ accessFlags := 18, nameIndex := 5, descriptorIndex := 6, attributes := #[] }, { accessFlags := 18, nameIndex := 9, descriptorIndex := 10, attributes := #[] }, { accessFlags := 2, nameIndex := 19, descriptorIndex := 10, attributes := #[] }])
  fields := #[{ name := "name", type := (.object "java/lang/String"), accessFlags := 18, slot := 0, constantValue := 0 }, { name := "ordinal", type := .int, accessFlags := 18, slot := 1, constantValue := 0 }, { name := "hash", type := .int, accessFlags := 2, slot := 2, constantValue := 0 }]
  methods := #[]
  instanceTypes := #[(.object "java/lang/String"), .int, .int]
  staticTypes := #[]
  resolved := Array.replicate 204 none
  statics := none }

def pool6 : Array CpInfo := pool [(1, .class_ 2), (0, u "com/example/tariff_reader/tariffreader/model/Unit"), (2, u "MINUTE_MILE"), (0, u "Lcom/example/tariff_reader/tariffreader/model/Unit;"), (2, u "MINUTE"), (2, u "QUERY"), (2, u "MONTH"), (2, u "OCCURRENCE"), (2, u "$VALUES"), (0, u "[Lcom/example/tariff_reader/tariffreader/model/Unit;"), (6, .class_ 31), (1, u "java/lang/Enum"), (8, u "label"), (0, u "Ljava/lang/String;")] 36

/-- com/example/tariff_reader/tariffreader/model/Unit -/
def k6 : Class := { plain "com/example/tariff_reader/tariffreader/model/Unit" (some 5) with
  accessFlags := 16433
  interfaces := #[]
  cf := some (fileOf pool6 1 #[] #[] 16433 29 #[] #[{ accessFlags := 16409, nameIndex := 5, descriptorIndex := 6, attributes := #[] }, { accessFlags := 16409, nameIndex := 9, descriptorIndex := 6, attributes := #[] }, { accessFlags := 16409, nameIndex := 12, descriptorIndex := 6, attributes := #[] }, { accessFlags := 16409, nameIndex := 15, descriptorIndex := 6, attributes := #[] }, { accessFlags := 16409, nameIndex := 18, descriptorIndex := 6, attributes := #[] }, { accessFlags := 18, nameIndex := 40, descriptorIndex := 41, attributes := #[] }, { accessFlags := 4122, nameIndex := 21, descriptorIndex := 22, attributes := #[] }])
  fields := #[{ name := "MINUTE_MILE", type := (.object "com/example/tariff_reader/tariffreader/model/Unit"), accessFlags := 16409, slot := 0, constantValue := 0 }, { name := "MINUTE", type := (.object "com/example/tariff_reader/tariffreader/model/Unit"), accessFlags := 16409, slot := 1, constantValue := 0 }, { name := "QUERY", type := (.object "com/example/tariff_reader/tariffreader/model/Unit"), accessFlags := 16409, slot := 2, constantValue := 0 }, { name := "MONTH", type := (.object "com/example/tariff_reader/tariffreader/model/Unit"), accessFlags := 16409, slot := 3, constantValue := 0 }, { name := "OCCURRENCE", type := (.object "com/example/tariff_reader/tariffreader/model/Unit"), accessFlags := 16409, slot := 4, constantValue := 0 }, { name := "label", type := (.object "java/lang/String"), accessFlags := 18, slot := 3, constantValue := 0 }, { name := "$VALUES", type := (.array (.object "com/example/tariff_reader/tariffreader/model/Unit")), accessFlags := 4122, slot := 5, constantValue := 0 }]
  methods := #[]
  instanceTypes := #[(.object "java/lang/String"), .int, .int, (.object "java/lang/String")]
  staticTypes := #[(.object "com/example/tariff_reader/tariffreader/model/Unit"), (.object "com/example/tariff_reader/tariffreader/model/Unit"), (.object "com/example/tariff_reader/tariffreader/model/Unit"), (.object "com/example/tariff_reader/tariffreader/model/Unit"), (.object "com/example/tariff_reader/tariffreader/model/Unit"), (.array (.object "com/example/tariff_reader/tariffreader/model/Unit"))]
  resolved := Array.replicate 78 none
  statics := some 0 }

def pool7 : Array CpInfo := pool [(2, .class_ 4), (1, u "java/lang/CharSequence"), (42, .class_ 48), (0, u "java/lang/CharSequence$1CodePointIterator"), (10, .class_ 60), (0, u "java/lang/CharSequence$1CharIterator"), (5, .class_ 67), (0, u "java/lang/Object")] 63

/-- java/lang/CharSequence -/
def k7 : Class := { plain "java/lang/CharSequence" (some 0) with
  accessFlags := 1537
  interfaces := #[]
  cf := some (fileOf pool7 2 #[.nestMembers #[47, 59]] #[] 1537 66 #[] #[])
  fields := #[]
  methods := #[]
  instanceTypes := #[]
  staticTypes := #[]
  resolved := Array.replicate 131 none
  statics := none }

def pool8 : Array CpInfo := pool [(1, .class_ 2), (0, u "java/lang/constant/ConstantDesc"), (0, .class_ 4), (0, u "java/lang/Object")] 32

/-- java/lang/constant/ConstantDesc -/
def k8 : Class := { plain "java/lang/constant/ConstantDesc" (some 0) with
  accessFlags := 1537
  interfaces := #[]
  cf := some (fileOf pool8 1 #[] #[] 1537 3 #[] #[])
  fields := #[]
  methods := #[]
  instanceTypes := #[]
  staticTypes := #[]
  resolved := Array.replicate 37 none
  statics := none }

def pool9 : Array CpInfo := pool [(1, .methodref 2 3), (0, .class_ 4), (0, .nameAndType 5 6), (0, u "java/lang/Object"), (0, u "<init>"), (0, u "()V"), (2, .fieldref 10 11), (0, .class_ 12), (0, .nameAndType 13 14), (0, u "java/lang/String"), (0, u "value"), (0, u "[B"), (0, .fieldref 10 16), (0, .nameAndType 17 18), (0, u "coder"), (0, u "B"), (2, u "hash"), (0, u "I"), (2, u "hashIsZero"), (0, u "Z"), (11, .fieldref 10 39), (0, .nameAndType 40 26), (0, u "COMPACT_STRINGS"), (12, u "toBytes"), (53, .class_ 109), (1, u "java/lang/StringLatin1"), (99, .methodref 10 210), (0, .nameAndType 5 211), (0, u "([BB)V"), (157, u "(C)Z"), (205, .class_ 576), (0, u "java/lang/CharSequence"), (22, u "CASE_INSENSITIVE_ORDER"), (0, u "Ljava/util/Comparator;"), (181, u "valueOf"), (0, u "(C)Ljava/lang/String;"), (231, .methodref 107 1016), (0, .nameAndType 1017 369), (0, u "canEncode"), (0, .methodref 107 1019), (0, .nameAndType 53 1020), (0, u "(C)[B"), (80, u "serialPersistentFields"), (0, u "[Ljava/io/ObjectStreamField;"), (0, .class_ 1104), (0, u "java/lang/String$CaseInsensitiveComparator"), (1, .class_ 1107), (0, u "java/io/Serializable"), (0, .class_ 1109), (0, u "java/lang/Comparable"), (0, .class_ 1111), (0, u "java/lang/constant/Constable"), (0, .class_ 1113), (0, u "java/lang/constant/ConstantDesc"), (2, u "serialVersionUID"), (0, u "J"), (3, u "REPL"), (0, u "C"), (2, u "LATIN1"), (1, u "UTF16")] 323

def k9m0 : Method := { name := "<init>", desc := "()V", sig := { parameters := [], returnType := none }, accessFlags := 1, code := none }
def k9c1 : Code := { maxStack := 4, maxLocals := 1, code := jdk_42_method_139_code, exceptionTable := #[], attributes := #[] }
def k9m1 : Method := { name := "valueOf", desc := "(C)Ljava/lang/String;", sig := { parameters := [.char], returnType := some (.object "java/lang/String") }, accessFlags := 9, code := some k9c1 }
def k9c2 : Code := { maxStack := 2, maxLocals := 3, code := jdk_42_method_151_code, exceptionTable := #[], attributes := #[] }
def k9m2 : Method := { name := "<init>", desc := "([BB)V", sig := { parameters := [(.array .byte), .byte], returnType := none }, accessFlags := 0, code := some k9c2 }
/-- java/lang/String -/
def k9 : Class := { plain "java/lang/String" (some 0) with
  accessFlags := 49
  interfaces := #[4, 3, 7, 2, 8]
  cf := some (fileOf pool9 10 #[.nestMembers #[1103]] #[{ accessFlags := 1, nameIndex := 5, descriptorIndex := 6, attributes := #[] }, { accessFlags := 9, nameIndex := 782, descriptorIndex := 783, attributes := #[] }, { accessFlags := 0, nameIndex := 5, descriptorIndex := 211, attributes := #[] }] 49 2 #[1106, 1108, 575, 1110, 1112] #[{ accessFlags := 18, nameIndex := 13, descriptorIndex := 14, attributes := #[] }, { accessFlags := 18, nameIndex := 17, descriptorIndex := 18, attributes := #[] }, { accessFlags := 2, nameIndex := 21, descriptorIndex := 22, attributes := #[] }, { accessFlags := 2, nameIndex := 25, descriptorIndex := 26, attributes := #[] }, { accessFlags := 26, nameIndex := 1116, descriptorIndex := 1117, attributes := #[] }, { accessFlags := 24, nameIndex := 40, descriptorIndex := 26, attributes := #[] }, { accessFlags := 26, nameIndex := 1101, descriptorIndex := 1102, attributes := #[] }, { accessFlags := 26, nameIndex := 1121, descriptorIndex := 1122, attributes := #[] }, { accessFlags := 25, nameIndex := 599, descriptorIndex := 600, attributes := #[] }, { accessFlags := 24, nameIndex := 1125, descriptorIndex := 18, attributes := #[] }, { accessFlags := 24, nameIndex := 1127, descriptorIndex := 18, attributes := #[] }])
  fields := #[{ name := "value", type := (.array .byte), accessFlags := 18, slot := 0, constantValue := 0 }, { name := "coder", type := .byte, accessFlags := 18, slot := 1, constantValue := 0 }, { name := "hash", type := .int, accessFlags := 2, slot := 2, constantValue := 0 }, { name := "hashIsZero", type := .boolean, accessFlags := 2, slot := 3, constantValue := 0 }, { name := "serialVersionUID", type := .long, accessFlags := 26, slot := 0, constantValue := 0 }, { name := "COMPACT_STRINGS", type := .boolean, accessFlags := 24, slot := 1, constantValue := 0 }, { name := "serialPersistentFields", type := (.array (.object "java/io/ObjectStreamField")), accessFlags := 26, slot := 2, constantValue := 0 }, { name := "REPL", type := .char, accessFlags := 26, slot := 3, constantValue := 0 }, { name := "CASE_INSENSITIVE_ORDER", type := (.object "java/util/Comparator"), accessFlags := 25, slot := 4, constantValue := 0 }, { name := "LATIN1", type := .byte, accessFlags := 24, slot := 5, constantValue := 0 }, { name := "UTF16", type := .byte, accessFlags := 24, slot := 6, constantValue := 0 }]
  methods := #[k9m0, k9m1, k9m2]
  instanceTypes := #[(.array .byte), .byte, .int, .boolean]
  staticTypes := #[.long, .boolean, (.array (.object "java/io/ObjectStreamField")), .char, (.object "java/util/Comparator"), .byte, .byte]
  resolved := Array.replicate 1451 none
  statics := some 1 }

def pool10 : Array CpInfo := pool [(4, .class_ 6), (1, u "java/lang/Object"), (0, u "<init>"), (0, u "()V"), (5, .class_ 16), (1, u "java/lang/StringLatin1"), (73, u "canEncode"), (14, u "(C)Z"), (15, u "$assertionsDisabled"), (0, u "Z"), (98, .class_ 223), (1, u "java/lang/StringLatin1$LinesSpliterator"), (156, u "toBytes"), (1, u "(C)[B"), (7, .class_ 391), (0, u "java/lang/StringLatin1$CharsSpliterator")] 3

def k10m0 : Method := { name := "<init>", desc := "()V", sig := { parameters := [], returnType := none }, accessFlags := 0, code := none }
def k10c1 : Code := { maxStack := 2, maxLocals := 1, code := jdk_43_method_3_code, exceptionTable := #[], attributes := #[] }
def k10m1 : Method := { name := "canEncode", desc := "(C)Z", sig := { parameters := [.char], returnType := some .boolean }, accessFlags := 9, code := some k10c1 }
def k10c2 : Code := { maxStack := 4, maxLocals := 1, code := jdk_43_method_46_code, exceptionTable := #[], attributes := #[] }
def k10m2 : Method := { name := "toBytes", desc := "(C)[B", sig := { parameters := [.char], returnType := some (.array .byte) }, accessFlags := 9, code := some k10c2 }
/-- java/lang/StringLatin1 -/
def k10 : Class := { plain "java/lang/StringLatin1" (some 0) with
  accessFlags := 48
  interfaces := #[]
  cf := some (fileOf pool10 14 #[.nestMembers #[390, 221]] #[{ accessFlags := 0, nameIndex := 7, descriptorIndex := 8, attributes := #[] }, { accessFlags := 9, nameIndex := 90, descriptorIndex := 105, attributes := #[] }, { accessFlags := 9, nameIndex := 380, descriptorIndex := 382, attributes := #[] }] 48 4 #[] #[{ accessFlags := 4120, nameIndex := 121, descriptorIndex := 122, attributes := #[] }])
  fields := #[{ name := "$assertionsDisabled", type := .boolean, accessFlags := 4120, slot := 0, constantValue := 0 }]
  methods := #[k10m0, k10m1, k10m2]
  instanceTypes := #[]
  staticTypes := #[.boolean]
  resolved := Array.replicate 395 none
  statics := none }

def pool11 : Array CpInfo := pool [(1, .methodref 2 3), (0, .class_ 4), (0, .nameAndType 5 6), (0, u "java/lang/Object"), (0, u "<init>"), (0, u "()V"), (0, .fieldref 8 9), (0, .class_ 10), (0, .nameAndType 11 12), (0, u "com/example/tariff_reader/tariffreader/text/Qualifiers"), (0, u "area"), (0, u "Ljava/lang/String;"), (0, .fieldref 8 14), (0, .nameAndType 15 12), (0, u "schedule"), (0, .fieldref 8 17), (0, .nameAndType 18 12), (0, u "traffic"), (0, .fieldref 8 20), (0, .nameAndType 21 22), (0, u "direction"), (0, u "Lcom/example/tariff_reader/tariffreader/model/Direction;"), (0, .fieldref 8 24), (0, .nameAndType 25 12), (0, u "band"), (0, .fieldref 8 27), (0, .nameAndType 28 29), (0, u "unit"), (0, u "Lcom/example/tariff_reader/tariffreader/model/Unit;"), (0, .methodref 8 31), (0, .nameAndType 5 32), (0, u "(Ljava/lang/String;Ljava/lang/String;Ljava/lang/String;Lcom/example/tariff_reader/tariffreader/model/Direction;Ljava/lang/String;Lcom/example/tariff_reader/tariffreader/model/Unit;)V"), (0, .class_ 34), (0, u "com/example/tariff_reader/tariffreader/text/Qualifiers$Kind"), (44, u "NONE"), (0, u "Lcom/example/tariff_reader/tariffreader/text/Qualifiers;"), (2, u "orElse"), (0, u "(Lcom/example/tariff_reader/tariffreader/text/Qualifiers;)Lcom/example/tariff_reader/tariffreader/text/Qualifiers;"), (9, u "statesUnit"), (0, u "()Z")] 17

def k11c0 : Code := { maxStack := 2, maxLocals := 7, code := prog_63_method_1_code, exceptionTable := #[], attributes := #[] }
def k11m0 : Method := { name := "<init>", desc := "(Ljava/lang/String;Ljava/lang/String;Ljava/lang/String;Lcom/example/tariff_reader/tariffreader/model/Direction;Ljava/lang/String;Lcom/example/tariff_reader/tariffreader/model/Unit;)V", sig := { parameters := [(.object "java/lang/String"), (.object "java/lang/String"), (.object "java/lang/String"), (.object "com/example/tariff_reader/tariffreader/model/Direction"), (.object "java/lang/String"), (.object "com/example/tariff_reader/tariffreader/model/Unit")], returnType := none }, accessFlags := 0, code := some k11c0 }
def k11c1 : Code := { maxStack := 8, maxLocals := 2, code := prog_63_method_2_code, exceptionTable := #[], attributes := #[] }
def k11m1 : Method := { name := "orElse", desc := "(Lcom/example/tariff_reader/tariffreader/text/Qualifiers;)Lcom/example/tariff_reader/tariffreader/text/Qualifiers;", sig := { parameters := [(.object "com/example/tariff_reader/tariffreader/text/Qualifiers")], returnType := some (.object "com/example/tariff_reader/tariffreader/text/Qualifiers") }, accessFlags := 0, code := some k11c1 }
def k11c2 : Code := { maxStack := 1, maxLocals := 1, code := prog_63_method_4_code, exceptionTable := #[], attributes := #[] }
def k11m2 : Method := { name := "statesUnit", desc := "()Z", sig := { parameters := [], returnType := some .boolean }, accessFlags := 0, code := some k11c2 }
/-- com/example/tariff_reader/tariffreader/text/Qualifiers -/
def k11 : Class := { plain "com/example/tariff_reader/tariffreader/text/Qualifiers" (some 0) with
  accessFlags := 48
  interfaces := #[]
  cf := some (fileOf pool11 8 #[.nestMembers #[33]] #[{ accessFlags := 0, nameIndex := 5, descriptorIndex := 32, attributes := #[] }, { accessFlags := 0, nameIndex := 83, descriptorIndex := 84, attributes := #[] }, { accessFlags := 0, nameIndex := 94, descriptorIndex := 95, attributes := #[] }] 48 2 #[] #[{ accessFlags := 24, nameIndex := 79, descriptorIndex := 80, attributes := #[] }, { accessFlags := 18, nameIndex := 11, descriptorIndex := 12, attributes := #[] }, { accessFlags := 18, nameIndex := 15, descriptorIndex := 12, attributes := #[] }, { accessFlags := 18, nameIndex := 18, descriptorIndex := 12, attributes := #[] }, { accessFlags := 18, nameIndex := 21, descriptorIndex := 22, attributes := #[] }, { accessFlags := 18, nameIndex := 25, descriptorIndex := 12, attributes := #[] }, { accessFlags := 18, nameIndex := 28, descriptorIndex := 29, attributes := #[] }])
  fields := #[{ name := "NONE", type := (.object "com/example/tariff_reader/tariffreader/text/Qualifiers"), accessFlags := 24, slot := 0, constantValue := 0 }, { name := "area", type := (.object "java/lang/String"), accessFlags := 18, slot := 0, constantValue := 0 }, { name := "schedule", type := (.object "java/lang/String"), accessFlags := 18, slot := 1, constantValue := 0 }, { name := "traffic", type := (.object "java/lang/String"), accessFlags := 18, slot := 2, constantValue := 0 }, { name := "direction", type := (.object "com/example/tariff_reader/tariffreader/model/Direction"), accessFlags := 18, slot := 3, constantValue := 0 }, { name := "band", type := (.object "java/lang/String"), accessFlags := 18, slot := 4, constantValue := 0 }, { name := "unit", type := (.object "com/example/tariff_reader/tariffreader/model/Unit"), accessFlags := 18, slot := 5, constantValue := 0 }]
  methods := #[k11m0, k11m1, k11m2]
  instanceTypes := #[(.object "java/lang/String"), (.object "java/lang/String"), (.object "java/lang/String"), (.object "com/example/tariff_reader/tariffreader/model/Direction"), (.object "java/lang/String"), (.object "com/example/tariff_reader/tariffreader/model/Unit")]
  staticTypes := #[(.object "com/example/tariff_reader/tariffreader/text/Qualifiers")]
  resolved := Array.replicate 113 none
  statics := none }

def pool12 : Array CpInfo := pool [(1, .class_ 2), (0, u "com/example/tariff_reader/tariffreader/model/Direction"), (2, u "ORIGINATING"), (0, u "Lcom/example/tariff_reader/tariffreader/model/Direction;"), (2, u "TERMINATING"), (2, u "BOTH"), (2, u "$VALUES"), (0, u "[Lcom/example/tariff_reader/tariffreader/model/Direction;"), (6, .class_ 25), (1, u "java/lang/Enum")] 42

/-- com/example/tariff_reader/tariffreader/model/Direction -/
def k12 : Class := { plain "com/example/tariff_reader/tariffreader/model/Direction" (some 5) with
  accessFlags := 16433
  interfaces := #[]
  cf := some (fileOf pool12 1 #[] #[] 16433 23 #[] #[{ accessFlags := 16409, nameIndex := 5, descriptorIndex := 6, attributes := #[] }, { accessFlags := 16409, nameIndex := 9, descriptorIndex := 6, attributes := #[] }, { accessFlags := 16409, nameIndex := 12, descriptorIndex := 6, attributes := #[] }, { accessFlags := 4122, nameIndex := 15, descriptorIndex := 16, attributes := #[] }])
  fields := #[{ name := "ORIGINATING", type := (.object "com/example/tariff_reader/tariffreader/model/Direction"), accessFlags := 16409, slot := 0, constantValue := 0 }, { name := "TERMINATING", type := (.object "com/example/tariff_reader/tariffreader/model/Direction"), accessFlags := 16409, slot := 1, constantValue := 0 }, { name := "BOTH", type := (.object "com/example/tariff_reader/tariffreader/model/Direction"), accessFlags := 16409, slot := 2, constantValue := 0 }, { name := "$VALUES", type := (.array (.object "com/example/tariff_reader/tariffreader/model/Direction")), accessFlags := 4122, slot := 3, constantValue := 0 }]
  methods := #[]
  instanceTypes := #[(.object "java/lang/String"), .int, .int]
  staticTypes := #[(.object "com/example/tariff_reader/tariffreader/model/Direction"), (.object "com/example/tariff_reader/tariffreader/model/Direction"), (.object "com/example/tariff_reader/tariffreader/model/Direction"), (.array (.object "com/example/tariff_reader/tariffreader/model/Direction"))]
  resolved := Array.replicate 68 none
  statics := some 2 }

def pool13 : Array CpInfo := pool [(2, .class_ 4), (1, u "java/lang/Object"), (0, u "<init>"), (0, u "()V"), (17, .class_ 26), (1, u "jdk/internal/util/Preconditions"), (28, .class_ 56), (0, u "jdk/internal/util/Preconditions$4"), (57, .class_ 115), (0, u "jdk/internal/util/Preconditions$1"), (7, u "SIOOBE_FORMATTER"), (0, u "Ljava/util/function/BiFunction;"), (0, .class_ 126), (0, u "jdk/internal/util/Preconditions$2"), (3, u "AIOOBE_FORMATTER"), (0, .class_ 132), (0, u "jdk/internal/util/Preconditions$3"), (3, u "IOOBE_FORMATTER")] 57

def k13m0 : Method := { name := "<init>", desc := "()V", sig := { parameters := [], returnType := none }, accessFlags := 1, code := none }
/-- jdk/internal/util/Preconditions -/
def k13 : Class := { plain "jdk/internal/util/Preconditions" (some 0) with
  accessFlags := 33
  interfaces := #[]
  cf := some (fileOf pool13 24 #[.nestMembers #[55, 131, 125, 114]] #[{ accessFlags := 1, nameIndex := 5, descriptorIndex := 6, attributes := #[] }] 33 2 #[] #[{ accessFlags := 25, nameIndex := 123, descriptorIndex := 124, attributes := #[] }, { accessFlags := 25, nameIndex := 130, descriptorIndex := 124, attributes := #[] }, { accessFlags := 25, nameIndex := 136, descriptorIndex := 124, attributes := #[] }])
  fields := #[{ name := "SIOOBE_FORMATTER", type := (.object "java/util/function/BiFunction"), accessFlags := 25, slot := 0, constantValue := 0 }, { name := "AIOOBE_FORMATTER", type := (.object "java/util/function/BiFunction"), accessFlags := 25, slot := 1, constantValue := 0 }, { name := "IOOBE_FORMATTER", type := (.object "java/util/function/BiFunction"), accessFlags := 25, slot := 2, constantValue := 0 }]
  methods := #[k13m0]
  instanceTypes := #[]
  staticTypes := #[(.object "java/util/function/BiFunction"), (.object "java/util/function/BiFunction"), (.object "java/util/function/BiFunction")]
  resolved := Array.replicate 194 none
  statics := some 3 }

def pool14 : Array CpInfo := pool [(9, u "<init>"), (6, .class_ 18), (1, u "java/lang/Object"), (0, u "()V"), (1, .class_ 23), (1, u "jdk/internal/util/ArraysSupport"), (0, u "LOG2_ARRAY_LONG_INDEX_SCALE"), (0, u "I"), (2, u "U"), (0, u "Ljdk/internal/misc/Unsafe;"), (8, u "BIG_ENDIAN"), (0, u "Z"), (8, u "LOG2_BYTE_BIT_SIZE"), (4, u "LOG2_ARRAY_INT_INDEX_SCALE"), (54, u "JLA"), (0, u "Ljdk/internal/access/JavaLangAccess;"), (11, u "LOG2_ARRAY_BOOLEAN_INDEX_SCALE"), (9, u "LOG2_ARRAY_BYTE_INDEX_SCALE"), (5, u "LOG2_ARRAY_CHAR_INDEX_SCALE"), (5, u "LOG2_ARRAY_SHORT_INDEX_SCALE"), (18, u "LOG2_ARRAY_FLOAT_INDEX_SCALE"), (24, u "LOG2_ARRAY_DOUBLE_INDEX_SCALE"), (89, u "T_BOOLEAN"), (2, u "T_CHAR"), (1, u "T_FLOAT"), (1, u "T_DOUBLE"), (1, u "T_BYTE"), (1, u "T_SHORT"), (1, u "T_INT"), (1, u "T_LONG"), (1, u "SOFT_MAX_ARRAY_LENGTH")] 83

def k14m0 : Method := { name := "<init>", desc := "()V", sig := { parameters := [], returnType := none }, accessFlags := 2, code := none }
/-- jdk/internal/util/ArraysSupport -/
def k14 : Class := { plain "jdk/internal/util/ArraysSupport" (some 0) with
  accessFlags := 33
  interfaces := #[]
  cf := some (fileOf pool14 21 #[] #[{ accessFlags := 2, nameIndex := 9, descriptorIndex := 19, attributes := #[] }] 33 16 #[] #[{ accessFlags := 24, nameIndex := 28, descriptorIndex := 29, attributes := #[] }, { accessFlags := 26, nameIndex := 38, descriptorIndex := 39, attributes := #[] }, { accessFlags := 25, nameIndex := 121, descriptorIndex := 25, attributes := #[] }, { accessFlags := 25, nameIndex := 131, descriptorIndex := 25, attributes := #[] }, { accessFlags := 25, nameIndex := 137, descriptorIndex := 25, attributes := #[] }, { accessFlags := 25, nameIndex := 143, descriptorIndex := 25, attributes := #[] }, { accessFlags := 25, nameIndex := 53, descriptorIndex := 25, attributes := #[] }, { accessFlags := 25, nameIndex := 24, descriptorIndex := 25, attributes := #[] }, { accessFlags := 25, nameIndex := 162, descriptorIndex := 25, attributes := #[] }, { accessFlags := 25, nameIndex := 187, descriptorIndex := 25, attributes := #[] }, { accessFlags := 26, nameIndex := 48, descriptorIndex := 25, attributes := #[] }, { accessFlags := 25, nameIndex := 277, descriptorIndex := 25, attributes := #[] }, { accessFlags := 25, nameIndex := 280, descriptorIndex := 25, attributes := #[] }, { accessFlags := 25, nameIndex := 282, descriptorIndex := 25, attributes := #[] }, { accessFlags := 25, nameIndex := 284, descriptorIndex := 25, attributes := #[] }, { accessFlags := 25, nameIndex := 286, descriptorIndex := 25, attributes := #[] }, { accessFlags := 25, nameIndex := 288, descriptorIndex := 25, attributes := #[] }, { accessFlags := 25, nameIndex := 290, descriptorIndex := 25, attributes := #[] }, { accessFlags := 25, nameIndex := 292, descriptorIndex := 25, attributes := #[] }, { accessFlags := 26, nameIndex := 108, descriptorIndex := 109, attributes := #[] }, { accessFlags := 25, nameIndex := 294, descriptorIndex := 25, attributes := #[] }])
  fields := #[{ name := "U", type := (.object "jdk/internal/misc/Unsafe"), accessFlags := 24, slot := 0, constantValue := 0 }, { name := "BIG_ENDIAN", type := .boolean, accessFlags := 26, slot := 1, constantValue := 0 }, { name := "LOG2_ARRAY_BOOLEAN_INDEX_SCALE", type := .int, accessFlags := 25, slot := 2, constantValue := 0 }, { name := "LOG2_ARRAY_BYTE_INDEX_SCALE", type := .int, accessFlags := 25, slot := 3, constantValue := 0 }, { name := "LOG2_ARRAY_CHAR_INDEX_SCALE", type := .int, accessFlags := 25, slot := 4, constantValue := 0 }, { name := "LOG2_ARRAY_SHORT_INDEX_SCALE", type := .int, accessFlags := 25, slot := 5, constantValue := 0 }, { name := "LOG2_ARRAY_INT_INDEX_SCALE", type := .int, accessFlags := 25, slot := 6, constantValue := 0 }, { name := "LOG2_ARRAY_LONG_INDEX_SCALE", type := .int, accessFlags := 25, slot := 7, constantValue := 0 }, { name := "LOG2_ARRAY_FLOAT_INDEX_SCALE", type := .int, accessFlags := 25, slot := 8, constantValue := 0 }, { name := "LOG2_ARRAY_DOUBLE_INDEX_SCALE", type := .int, accessFlags := 25, slot := 9, constantValue := 0 }, { name := "LOG2_BYTE_BIT_SIZE", type := .int, accessFlags := 26, slot := 10, constantValue := 0 }, { name := "T_BOOLEAN", type := .int, accessFlags := 25, slot := 11, constantValue := 0 }, { name := "T_CHAR", type := .int, accessFlags := 25, slot := 12, constantValue := 0 }, { name := "T_FLOAT", type := .int, accessFlags := 25, slot := 13, constantValue := 0 }, { name := "T_DOUBLE", type := .int, accessFlags := 25, slot := 14, constantValue := 0 }, { name := "T_BYTE", type := .int, accessFlags := 25, slot := 15, constantValue := 0 }, { name := "T_SHORT", type := .int, accessFlags := 25, slot := 16, constantValue := 0 }, { name := "T_INT", type := .int, accessFlags := 25, slot := 17, constantValue := 0 }, { name := "T_LONG", type := .int, accessFlags := 25, slot := 18, constantValue := 0 }, { name := "JLA", type := (.object "jdk/internal/access/JavaLangAccess"), accessFlags := 26, slot := 19, constantValue := 0 }, { name := "SOFT_MAX_ARRAY_LENGTH", type := .int, accessFlags := 25, slot := 20, constantValue := 0 }]
  methods := #[k14m0]
  instanceTypes := #[]
  staticTypes := #[(.object "jdk/internal/misc/Unsafe"), .boolean, .int, .int, .int, .int, .int, .int, .int, .int, .int, .int, .int, .int, .int, .int, .int, .int, .int, (.object "jdk/internal/access/JavaLangAccess"), .int]
  resolved := Array.replicate 378 none
  statics := none }

def pool15 : Array CpInfo := pool [(1, u "java/lang/Cloneable"), (0, .class_ 1), (0, u "java/lang/Object"), (0, .class_ 3)] 3

/-- java/lang/Cloneable -/
def k15 : Class := { plain "java/lang/Cloneable" (some 0) with
  accessFlags := 1537
  interfaces := #[]
  cf := some (fileOf pool15 2 #[] #[] 1537 4 #[] #[])
  fields := #[]
  methods := #[]
  instanceTypes := #[]
  staticTypes := #[]
  resolved := Array.replicate 8 none
  statics := none }

/-- the primitive byte -/
def k16 : Class := { plain "byte" none with kind := .primitive 'B', accessFlags := 0x411 }
/-- [B -/
def k17 : Class := { plain "[B" (some 0) with kind := .array 16 .byte, interfaces := #[15, 4], accessFlags := 1041 }

/-- the primitive int -/
def k18 : Class := { plain "int" none with kind := .primitive 'I', accessFlags := 0x411 }
/-- [I -/
def k19 : Class := { plain "[I" (some 0) with kind := .array 18 .int, interfaces := #[15, 4], accessFlags := 1041 }

def heap : Heap := #[{ cls := 6, slots := #[.ref 4, .ref 5, .ref 6, .ref 7, .ref 8, .null], vm := .statics 6 },
  { cls := 9, slots := #[.long 0, .int 1, .null, .int 0, .null, .int 0, .int 0], vm := .statics 9 },
  { cls := 12, slots := #[.ref 9, .ref 10, .ref 11, .null], vm := .statics 12 },
  { cls := 13, slots := #[.null, .null, .null], vm := .statics 13 },
  { cls := 6, slots := #[.null, .int 0, .int 0, .null], vm := .none },
  { cls := 6, slots := #[.null, .int 1, .int 0, .null], vm := .none },
  { cls := 6, slots := #[.null, .int 2, .int 0, .null], vm := .none },
  { cls := 6, slots := #[.null, .int 3, .int 0, .null], vm := .none },
  { cls := 6, slots := #[.null, .int 4, .int 0, .null], vm := .none },
  { cls := 12, slots := #[.null, .int 5, .int 0], vm := .none },
  { cls := 12, slots := #[.null, .int 6, .int 0], vm := .none },
  { cls := 12, slots := #[.null, .int 7, .int 0], vm := .none }]
def classes : Array Class := #[k0, k1, k2, k3, k4, k5, k6, k7, k8, k9, k10, k11, k12, k13, k14, k15, k16, k17, k18, k19]
def interned : List (Array UInt16 × Addr) := []
def slotsUsed : Nat := 49
def theMethod : MethodId := ⟨1, 1⟩
def args0 : Array Value := #[.int 3, .int 3, .int 3, .int 3]
def aboutOver (below : List Frame) : State where
  vm := { classes := classes, interned := interned.toArray }
  heap := heap
  slotsUsed := slotsUsed
  threads := #[{ frames := .invoking theMethod args0 :: below }]
def below0 : List Frame := [.native { method := ⟨0, 0⟩, args := #[] }]
def about1 : State := aboutOver below0
def p0 : Program := .bare "" "" ""
def e0 : Env := launch0.env 0 0 0
theorem w_frames : about1.frames = Frame.invoking theMethod args0 :: below0 := rfl
set_option maxRecDepth 65536 in
theorem w_args : argsFit about1.vm theMethod args0 = true := by decide +kernel
set_option maxRecDepth 65536 in
theorem w_heap : heapFits about1 = true := by decide +kernel
set_option maxRecDepth 65536 in
theorem w_runnable : about1.curStatus? = some .runnable := by decide +kernel
set_option maxRecDepth 65536 in
theorem w_alone : about1.alone = true := by decide +kernel
set_option maxRecDepth 65536 in
theorem w_named : about1.methodNamed? x = some theMethod := by decide +kernel
set_option maxRecDepth 65536 in
theorem w_hears : about1.hears theMethod below0 = true := by decide +kernel
set_option maxRecDepth 65536 in
theorem w_ripe : about1.ripe theMethod args0 below0 = true := by decide +kernel
theorem w_running : about1.status = .running := rfl
set_option maxRecDepth 65536 in
theorem w_room : about1.hasRoom e0.platform room_1 = true :=
  launch0.hasRoom_least _ room_1 (by decide +kernel) (by decide +kernel) (by decide +kernel) (by decide +kernel) (by decide +kernel) (by decide +kernel)
theorem allAtoms_all (ts : List Jvm.Cond) (a : Array Jvm.Value) (st : Jvm.State) : (allAtoms ts).before a st = ts.all (fun c => c.before a st) := by
  induction ts with
  | nil => rfl
  | cons c t ih =>
    show (Jvm.Cond.and c (allAtoms t)).before a st = _
    rw [Jvm.Cond.before_and, ih, List.all_cons]
def words1 : List Jvm.Cond := Jvm.Cond.code x code maxLocals ret :: tables_1
/-- a 'code' word, met by the world's own term for the bytes: nothing is compared byte by byte -/
theorem code_word {y : MethodName} {bytes : ByteArray} {mx : Nat} {rt : Option FieldType} {a : Array Value} {s : State} {m : MethodId} {meth : Method} {c : Code} (h1 : s.methodNamed? y = some m) (h2 : s.vm.method? m = some meth) (h3 : meth.code = some c) (h4 : c.code = bytes)
    (h5 : (c.maxLocals == mx && c.exceptionTable.isEmpty && decide (c.maxStack ≤ mostOperands) && decide (meth.sig.returnType = rt) && !meth.locks && decide (parseMethodDescriptor y.desc = some meth.sig)) = true) : (Jvm.Cond.code y bytes mx rt).before a s = true := by
  simp only [Bool.and_eq_true, beq_iff_eq, Bool.not_eq_true', decide_eq_true_eq] at h5
  obtain ⟨⟨⟨⟨⟨g1, g2⟩, g3⟩, g4⟩, g5⟩, g6⟩ := h5
  simp [Cond.before, Cond.holds, Cond.value, h1, h2, h3, h4, g1, g2, g3, g4, g5, g6]
def isCode : Jvm.Cond → Bool
  | .code _ _ _ _ => true
  | _ => false
theorem all_split {L : List Jvm.Cond} {P : Jvm.Cond → Bool} (h1 : L.all (fun c => isCode c || P c) = true) (h2 : ∀ c ∈ L.filter isCode, P c = true) : L.all P = true := by
  refine List.all_eq_true.mpr fun c hc => ?_
  have h := List.all_eq_true.mp h1 c hc
  rcases Bool.eq_false_or_eq_true (isCode c) with hi | hi
  · exact h2 c (List.mem_filter.mpr ⟨hc, hi⟩)
  · simpa [hi] using h
set_option maxRecDepth 65536 in
theorem w_c0 : (Jvm.Cond.code x code maxLocals ret).before args0 about1 = true := code_word (m := ⟨1, 1⟩) (meth := k1m1) (c := k1c1) (by decide +kernel) rfl rfl rfl (by decide +kernel)
set_option maxRecDepth 65536 in
theorem w_c1 : (Jvm.Cond.code ({ cls := "com/example/tariff_reader/tariffreader/text/QualifiersStatesUnitPinLaw", name := "unit", desc := "(I)Lcom/example/tariff_reader/tariffreader/model/Unit;" } : Jvm.MethodName) method_3_code (2 : Nat) (Option.some (Jvm.ClassFile.FieldType.object "com/example/tariff_reader/tariffreader/model/Unit"))).before args0 about1 = true := code_word (m := ⟨1, 2⟩) (meth := k1m2) (c := k1c2) (by decide +kernel) rfl rfl rfl (by decide +kernel)
set_option maxRecDepth 65536 in
theorem w_c2 : (Jvm.Cond.code ({ cls := "com/example/tariff_reader/tariffreader/text/QualifiersStatesUnitPinLaw", name := "make", desc := "(ILcom/example/tariff_reader/tariffreader/model/Unit;)Lcom/example/tariff_reader/tariffreader/text/Qualifiers;" } : Jvm.MethodName) method_5_code (8 : Nat) (Option.some (Jvm.ClassFile.FieldType.object "com/example/tariff_reader/tariffreader/text/Qualifiers"))).before args0 about1 = true := code_word (m := ⟨1, 4⟩) (meth := k1m4) (c := k1c4) (by decide +kernel) rfl rfl rfl (by decide +kernel)
set_option maxRecDepth 65536 in
theorem w_c3 : (Jvm.Cond.code ({ cls := "java/lang/String", name := "valueOf", desc := "(C)Ljava/lang/String;" } : Jvm.MethodName) jdk_42_method_139_code (1 : Nat) (Option.some (Jvm.ClassFile.FieldType.object "java/lang/String"))).before args0 about1 = true := code_word (m := ⟨9, 1⟩) (meth := k9m1) (c := k9c1) (by decide +kernel) rfl rfl rfl (by decide +kernel)
set_option maxRecDepth 65536 in
theorem w_c4 : (Jvm.Cond.code ({ cls := "java/lang/StringLatin1", name := "canEncode", desc := "(C)Z" } : Jvm.MethodName) jdk_43_method_3_code (1 : Nat) (Option.some Jvm.ClassFile.FieldType.boolean)).before args0 about1 = true := code_word (m := ⟨10, 1⟩) (meth := k10m1) (c := k10c1) (by decide +kernel) rfl rfl rfl (by decide +kernel)
set_option maxRecDepth 65536 in
theorem w_c5 : (Jvm.Cond.code ({ cls := "java/lang/StringLatin1", name := "toBytes", desc := "(C)[B" } : Jvm.MethodName) jdk_43_method_46_code (1 : Nat) (Option.some (Jvm.ClassFile.FieldType.array Jvm.ClassFile.FieldType.byte))).before args0 about1 = true := code_word (m := ⟨10, 2⟩) (meth := k10m2) (c := k10c2) (by decide +kernel) rfl rfl rfl (by decide +kernel)
set_option maxRecDepth 65536 in
theorem w_c6 : (Jvm.Cond.code ({ cls := "java/lang/String", name := "<init>", desc := "([BB)V" } : Jvm.MethodName) jdk_42_method_151_code (3 : Nat) (Option.none : Option Jvm.ClassFile.FieldType)).before args0 about1 = true := code_word (m := ⟨9, 2⟩) (meth := k9m2) (c := k9c2) (by decide +kernel) rfl rfl rfl (by decide +kernel)
set_option maxRecDepth 65536 in
theorem w_c7 : (Jvm.Cond.code ({ cls := "java/lang/Object", name := "<init>", desc := "()V" } : Jvm.MethodName) object_method_1_code (1 : Nat) (Option.none : Option Jvm.ClassFile.FieldType)).before args0 about1 = true := code_word (m := ⟨0, 0⟩) (meth := k0m0) (c := k0c0) (by decide +kernel) rfl rfl rfl (by decide +kernel)
set_option maxRecDepth 65536 in
theorem w_c8 : (Jvm.Cond.code ({ cls := "com/example/tariff_reader/tariffreader/text/QualifiersStatesUnitPinLaw", name := "direction", desc := "(I)Lcom/example/tariff_reader/tariffreader/model/Direction;" } : Jvm.MethodName) method_4_code (1 : Nat) (Option.some (Jvm.ClassFile.FieldType.object "com/example/tariff_reader/tariffreader/model/Direction"))).before args0 about1 = true := code_word (m := ⟨1, 3⟩) (meth := k1m3) (c := k1c3) (by decide +kernel) rfl rfl rfl (by decide +kernel)
set_option maxRecDepth 65536 in
theorem w_c9 : (Jvm.Cond.code ({ cls := "com/example/tariff_reader/tariffreader/text/Qualifiers", name := "<init>", desc := "(Ljava/lang/String;Ljava/lang/String;Ljava/lang/String;Lcom/example/tariff_reader/tariffreader/model/Direction;Ljava/lang/String;Lcom/example/tariff_reader/tariffreader/model/Unit;)V" } : Jvm.MethodName) prog_63_method_1_code (7 : Nat) (Option.none : Option Jvm.ClassFile.FieldType)).before args0 about1 = true := code_word (m := ⟨11, 0⟩) (meth := k11m0) (c := k11c0) (by decide +kernel) rfl rfl rfl (by decide +kernel)
set_option maxRecDepth 65536 in
theorem w_c10 : (Jvm.Cond.code ({ cls := "com/example/tariff_reader/tariffreader/text/Qualifiers", name := "statesUnit", desc := "()Z" } : Jvm.MethodName) prog_63_method_4_code (1 : Nat) (Option.some Jvm.ClassFile.FieldType.boolean)).before args0 about1 = true := code_word (m := ⟨11, 2⟩) (meth := k11m2) (c := k11c2) (by decide +kernel) rfl rfl rfl (by decide +kernel)
set_option maxRecDepth 65536 in
theorem w_c11 : (Jvm.Cond.code ({ cls := "com/example/tariff_reader/tariffreader/text/Qualifiers", name := "orElse", desc := "(Lcom/example/tariff_reader/tariffreader/text/Qualifiers;)Lcom/example/tariff_reader/tariffreader/text/Qualifiers;" } : Jvm.MethodName) prog_63_method_2_code (2 : Nat) (Option.some (Jvm.ClassFile.FieldType.object "com/example/tariff_reader/tariffreader/text/Qualifiers"))).before args0 about1 = true := code_word (m := ⟨11, 1⟩) (meth := k11m1) (c := k11c1) (by decide +kernel) rfl rfl rfl (by decide +kernel)
def codes1 : List Jvm.Cond := [Jvm.Cond.code x code maxLocals ret, Jvm.Cond.code ({ cls := "com/example/tariff_reader/tariffreader/text/QualifiersStatesUnitPinLaw", name := "unit", desc := "(I)Lcom/example/tariff_reader/tariffreader/model/Unit;" } : Jvm.MethodName) method_3_code (2 : Nat) (Option.some (Jvm.ClassFile.FieldType.object "com/example/tariff_reader/tariffreader/model/Unit")), Jvm.Cond.code ({ cls := "com/example/tariff_reader/tariffreader/text/QualifiersStatesUnitPinLaw", name := "make", desc := "(ILcom/example/tariff_reader/tariffreader/model/Unit;)Lcom/example/tariff_reader/tariffreader/text/Qualifiers;" } : Jvm.MethodName) method_5_code (8 : Nat) (Option.some (Jvm.ClassFile.FieldType.object "com/example/tariff_reader/tariffreader/text/Qualifiers")), Jvm.Cond.code ({ cls := "java/lang/String", name := "valueOf", desc := "(C)Ljava/lang/String;" } : Jvm.MethodName) jdk_42_method_139_code (1 : Nat) (Option.some (Jvm.ClassFile.FieldType.object "java/lang/String")), Jvm.Cond.code ({ cls := "java/lang/StringLatin1", name := "canEncode", desc := "(C)Z" } : Jvm.MethodName) jdk_43_method_3_code (1 : Nat) (Option.some Jvm.ClassFile.FieldType.boolean), Jvm.Cond.code ({ cls := "java/lang/StringLatin1", name := "toBytes", desc := "(C)[B" } : Jvm.MethodName) jdk_43_method_46_code (1 : Nat) (Option.some (Jvm.ClassFile.FieldType.array Jvm.ClassFile.FieldType.byte)), Jvm.Cond.code ({ cls := "java/lang/String", name := "<init>", desc := "([BB)V" } : Jvm.MethodName) jdk_42_method_151_code (3 : Nat) (Option.none : Option Jvm.ClassFile.FieldType), Jvm.Cond.code ({ cls := "java/lang/Object", name := "<init>", desc := "()V" } : Jvm.MethodName) object_method_1_code (1 : Nat) (Option.none : Option Jvm.ClassFile.FieldType), Jvm.Cond.code ({ cls := "com/example/tariff_reader/tariffreader/text/QualifiersStatesUnitPinLaw", name := "direction", desc := "(I)Lcom/example/tariff_reader/tariffreader/model/Direction;" } : Jvm.MethodName) method_4_code (1 : Nat) (Option.some (Jvm.ClassFile.FieldType.object "com/example/tariff_reader/tariffreader/model/Direction")), Jvm.Cond.code ({ cls := "com/example/tariff_reader/tariffreader/text/Qualifiers", name := "<init>", desc := "(Ljava/lang/String;Ljava/lang/String;Ljava/lang/String;Lcom/example/tariff_reader/tariffreader/model/Direction;Ljava/lang/String;Lcom/example/tariff_reader/tariffreader/model/Unit;)V" } : Jvm.MethodName) prog_63_method_1_code (7 : Nat) (Option.none : Option Jvm.ClassFile.FieldType), Jvm.Cond.code ({ cls := "com/example/tariff_reader/tariffreader/text/Qualifiers", name := "statesUnit", desc := "()Z" } : Jvm.MethodName) prog_63_method_4_code (1 : Nat) (Option.some Jvm.ClassFile.FieldType.boolean), Jvm.Cond.code ({ cls := "com/example/tariff_reader/tariffreader/text/Qualifiers", name := "orElse", desc := "(Lcom/example/tariff_reader/tariffreader/text/Qualifiers;)Lcom/example/tariff_reader/tariffreader/text/Qualifiers;" } : Jvm.MethodName) prog_63_method_2_code (2 : Nat) (Option.some (Jvm.ClassFile.FieldType.object "com/example/tariff_reader/tariffreader/text/Qualifiers"))]
set_option maxRecDepth 65536 in
theorem codes_eq : words1.filter isCode = codes1 := rfl
theorem w_codes : ∀ c ∈ words1.filter isCode, c.before args0 about1 = true := by
  rw [codes_eq]
  intro c hc
  simp only [codes1, List.mem_cons, List.not_mem_nil, or_false] at hc
  rcases hc with rfl | rfl | rfl | rfl | rfl | rfl | rfl | rfl | rfl | rfl | rfl | rfl
  · exact w_c0
  · exact w_c1
  · exact w_c2
  · exact w_c3
  · exact w_c4
  · exact w_c5
  · exact w_c6
  · exact w_c7
  · exact w_c8
  · exact w_c9
  · exact w_c10
  · exact w_c11
set_option maxRecDepth 65536 in
theorem w_t1 : (words1.take 24).all (fun c => isCode c || c.before args0 about1) = true := by decide +kernel
set_option maxRecDepth 65536 in
theorem w_t2 : ((words1.drop 24).take 24).all (fun c => isCode c || c.before args0 about1) = true := by decide +kernel
set_option maxRecDepth 65536 in
theorem w_t3 : (((words1.drop 24).drop 24).take 24).all (fun c => isCode c || c.before args0 about1) = true := by decide +kernel
set_option maxRecDepth 65536 in
theorem w_t4 : (((words1.drop 24).drop 24).drop 24).all (fun c => isCode c || c.before args0 about1) = true := by decide +kernel
theorem w_tables : (allAtoms (Jvm.Cond.code x code maxLocals ret :: tables_1)).before args0 about1 = true := by
  rw [allAtoms_all]
  show words1.all (fun c => c.before args0 about1) = true
  refine all_split ?_ w_codes
  rw [← List.take_append_drop 24 words1, List.all_append, w_t1, ← List.take_append_drop 24 (words1.drop 24), List.all_append, w_t2, ← List.take_append_drop 24 ((words1.drop 24).drop 24), List.all_append, w_t3, w_t4]
  rfl
set_option maxRecDepth 65536 in
theorem w_rest : rest_1_c.before args0 about1 = true := by decide +kernel
set_option maxRecDepth 65536 in
theorem w_case : (Jvm.Cond.and given_1 narrow_1).before args0 about1 = true := by decide +kernel
theorem w_applies : (headSpec (Jvm.Cond.code x code maxLocals ret :: tables_1) room_1).applies x e0.platform about1 = true :=
  (Spec.applies_iff w_frames).mpr ⟨w_running, w_runnable, w_alone, w_named, w_hears, w_ripe, w_room, w_tables⟩
theorem atStart : AtStart classFile x code maxLocals ret World_1 tables_1 room_1 Calls_1 rest_1 Pre_1 launch0 p0 e0 about1 theMethod args0 below0 :=
  ⟨lists_1, trivial, launch0.admits_env _ _ _, launch0.least_env, fairChoices_fair.cas, fairChoices_fair.clock, w_frames, w_args, w_heap, w_applies, trivial, w_rest, w_case⟩
end start1
theorem witness_1 : WitnessClaimed_1 := ⟨start1.p0, start1.e0, start1.about1, start1.theMethod, start1.args0, start1.below0, start1.atStart⟩
end Jvm.Pilot.@@N@@
