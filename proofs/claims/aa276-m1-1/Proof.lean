import JvmDerived
import JvmDerived.Pilot.@@N@@Statement
import JvmDerived.Pilot.@@N@@Code
set_option linter.unusedVariables false
set_option linter.unusedSimpArgs false
@@BLOCK:NumsL.lean.txt@@
namespace Jvm.Pilot.@@N@@
open Jvm Jvm.ClassFile Sem Op Lib Jvm.Free Jvm.Stand Jvm.LawKit Jvm.RoadKit Bundle Jvm.Pilot.@@N@@.Jvm.D
section Own
variable {p : Program} {l : Launch} {e : Env} {R : Room} {s : State} {m : MethodId} {args : Array Value} {below : List Frame} {meth : Method} {c : Code} {T : State} {locs : List Loc} {cells slots : Nat}
/-- from S the run ends, and it ends as Q says -/
def own_Go (p : Program) (e : Env) (below : List Frame) (Q : Outcome → State → Prop) (S : State) : Prop := ∃ s₂ o, Steps p.tables e below S s₂ ∧ s₂.status = .running ∧ Ended s₂ below o ∧ Q o s₂
theorem own_go {Q : Outcome → State → Prop} {S S' : State} (h : ∀ t, Steps p.tables e below S' t → Steps p.tables e below S t) (k : own_Go p e below Q S') : own_Go p e below Q S := by
  obtain ⟨s₂, o, h1, h2⟩ := k
  exact ⟨s₂, o, h _ h1, h2⟩
theorem own_ret {Q : Option Value → Heap → List Loc → Prop} {C S : Nat} (X : Stand p l e R s m args below meth c T locs cells slots) {v : Option Value} (hv : meth.sig.returnType = none → v = none) (hlk : meth.locks = false) {S0 : State}
    (hst : ∀ fs, (∀ (f : JFrame) (acts : List Action), f.method = m → f.locked = none → f.entered = [] → (doReturn e (T.setTop f) acts v).1 = T.setFrames fs) → Steps p.tables e below S0 (T.setFrames fs))
    (hQ : Q v T.heap locs) (hC : cells ≤ C) (hS : slots ≤ S) : own_Go p e below (fun o U' => ∃ v L, o = .returned v ∧ Q v U'.heap L ∧ FrameEnd s o U' L C S) S0 := by
  obtain ⟨fs, hr, hrun, hended, hW, hsame⟩ := X.leave (v := v) hv hlk
  exact ⟨_, _, hst fs hr, hrun, hended, _, _, rfl, hQ, ⟨_, rfl⟩, hW, hsame.mono hC hS⟩
theorem own_retN {Q : Option Value → Heap → List Loc → Prop} {C S : Nat} (X : Stand p l e R s m args below meth c T locs cells slots) (hx : p.tables.exec = Jvm.exec) {pc : Nat} {Ls : Array Slot} {z : Int32} {t : FieldType} {rest : List Value} (hret : meth.sig.returnType = some t) (ht : t = .boolean ∨ t = .byte ∨ t = .char ∨ t = .short)
    (hd : decode c.code pc = .ok (.ireturn, 1)) (hQ : Q (some (.int (nar t z))) T.heap locs) (hC : cells ≤ C) (hS : slots ≤ S) (hlk : meth.locks = false := by assumption) :
    own_Go p e below (fun o U' => ∃ v L, o = .returned v ∧ Q v U'.heap L ∧ FrameEnd s o U' L C S) (T.setTop (mkF m pc Ls (.int z :: rest))) :=
  own_ret X (fun h => by rw [hret] at h; cases h) hlk (fun fs hr => retN X hx hret ht hd hr) hQ hC hS
theorem own_retI {Q : Option Value → Heap → List Loc → Prop} {C S : Nat} (X : Stand p l e R s m args below meth c T locs cells slots) (hx : p.tables.exec = Jvm.exec) {pc : Nat} {Ls : Array Slot} {z : Int32} {rest : List Value} (hret : meth.sig.returnType = some .int)
    (hd : decode c.code pc = .ok (.ireturn, 1)) (hQ : Q (some (.int z)) T.heap locs) (hC : cells ≤ C) (hS : slots ≤ S) (hlk : meth.locks = false := by assumption) :
    own_Go p e below (fun o U' => ∃ v L, o = .returned v ∧ Q v U'.heap L ∧ FrameEnd s o U' L C S) (T.setTop (mkF m pc Ls (.int z :: rest))) :=
  own_ret X (fun h => by rw [hret] at h; cases h) hlk (fun fs hr => retOut X hx hret rfl (Or.inl ⟨rfl, Or.inl rfl, z, rfl⟩) hd hr) hQ hC hS
theorem own_retL {Q : Option Value → Heap → List Loc → Prop} {C S : Nat} (X : Stand p l e R s m args below meth c T locs cells slots) (hx : p.tables.exec = Jvm.exec) {pc : Nat} {Ls : Array Slot} {z : Int64} {rest : List Value} (hret : meth.sig.returnType = some .long)
    (hd : decode c.code pc = .ok (.lreturn, 1)) (hQ : Q (some (.long z)) T.heap locs) (hC : cells ≤ C) (hS : slots ≤ S) (hlk : meth.locks = false := by assumption) :
    own_Go p e below (fun o U' => ∃ v L, o = .returned v ∧ Q v U'.heap L ∧ FrameEnd s o U' L C S) (T.setTop (mkF m pc Ls (.long z :: rest))) :=
  own_ret X (fun h => by rw [hret] at h; cases h) hlk (fun fs hr => retOut X hx hret rfl (Or.inr (Or.inl ⟨rfl, rfl, z, rfl⟩)) hd hr) hQ hC hS
theorem own_retA {Q : Option Value → Heap → List Loc → Prop} {C S : Nat} (X : Stand p l e R s m args below meth c T locs cells slots) (hx : p.tables.exec = Jvm.exec) {pc : Nat} {Ls : Array Slot} {w : Value} {t : FieldType} {rest : List Value} (hret : meth.sig.returnType = some t) (ht : t.isReference = true) (hw : w.isRef = true)
    (hd : decode c.code pc = .ok (.areturn, 1)) (hQ : Q (some w) T.heap locs) (hC : cells ≤ C) (hS : slots ≤ S) (hlk : meth.locks = false := by assumption) :
    own_Go p e below (fun o U' => ∃ v L, o = .returned v ∧ Q v U'.heap L ∧ FrameEnd s o U' L C S) (T.setTop (mkF m pc Ls (w :: rest))) :=
  own_ret X (fun h => by rw [hret] at h; cases h) hlk (fun fs hr => retOut X hx hret (by cases t <;> first | (cases ht; done) | rfl) (Or.inr (Or.inr (Or.inr (Or.inr ⟨rfl, ht, hw⟩)))) hd hr) hQ hC hS
theorem own_ret0 {Q : Option Value → Heap → List Loc → Prop} {C S : Nat} (X : Stand p l e R s m args below meth c T locs cells slots) (hx : p.tables.exec = Jvm.exec) {pc : Nat} {Ls : Array Slot} (hret : meth.sig.returnType = none)
    (hd : decode c.code pc = .ok (.return_, 1)) (hQ : Q none T.heap locs) (hC : cells ≤ C) (hS : slots ≤ S) (hlk : meth.locks = false := by assumption) :
    own_Go p e below (fun o U' => ∃ v L, o = .returned v ∧ Q v U'.heap L ∧ FrameEnd s o U' L C S) (T.setTop (mkF m pc Ls [])) :=
  own_ret X (fun _ => rfl) hlk (fun fs hr => X.returnOut hx hret hd hr) hQ hC hS
theorem own_retW {Q : Option Value → Heap → List Loc → Prop} {C S : Nat} {vm₁ : Vm} {n : Nat} (X : Stand p l e R (s.setVm vm₁) m args below meth c T locs cells slots) {v : Option Value} (hv : meth.sig.returnType = none → v = none) (hlk : meth.locks = false) {S0 : State}
    (hst : ∀ fs, (∀ (f : JFrame) (acts : List Action), f.method = m → f.locked = none → f.entered = [] → (doReturn e (T.setTop f) acts v).1 = T.setFrames fs) → Steps p.tables e below S0 (T.setFrames fs))
    (hS₁ : s.Since vm₁ n) (hn₁ : n ≤ T.heap.size) (hQ : Q v T.heap locs) (hC : cells ≤ C) (hS : slots ≤ S) : own_Go p e below (fun o U' => ∃ v L, o = .returned v ∧ Q v U'.heap L ∧ ReturnedEndW s o U' L C S) S0 := by
  obtain ⟨fs, hr, hrun, hended, q1, q2, q3, q4⟩ := X.leaveW hS₁ hn₁ (v := v) hv hlk
  exact ⟨_, _, hst fs hr, hrun, hended, _, _, rfl, hQ, q1, q2, q3, q4.mono hC hS⟩
theorem own_retNW {Q : Option Value → Heap → List Loc → Prop} {C S : Nat} {vm₁ : Vm} {n : Nat} (X : Stand p l e R (s.setVm vm₁) m args below meth c T locs cells slots) (hx : p.tables.exec = Jvm.exec) {pc : Nat} {Ls : Array Slot} {z : Int32} {t : FieldType} {rest : List Value} (hret : meth.sig.returnType = some t) (ht : t = .boolean ∨ t = .byte ∨ t = .char ∨ t = .short)
    (hd : decode c.code pc = .ok (.ireturn, 1)) (hS₁ : s.Since vm₁ n) (hn₁ : n ≤ T.heap.size) (hQ : Q (some (.int (nar t z))) T.heap locs) (hC : cells ≤ C) (hS : slots ≤ S) (hlk : meth.locks = false := by assumption) :
    own_Go p e below (fun o U' => ∃ v L, o = .returned v ∧ Q v U'.heap L ∧ ReturnedEndW s o U' L C S) (T.setTop (mkF m pc Ls (.int z :: rest))) :=
  own_retW X (fun h => by rw [hret] at h; cases h) hlk (fun fs hr => retN X hx hret ht hd hr) hS₁ hn₁ hQ hC hS
theorem own_retIW {Q : Option Value → Heap → List Loc → Prop} {C S : Nat} {vm₁ : Vm} {n : Nat} (X : Stand p l e R (s.setVm vm₁) m args below meth c T locs cells slots) (hx : p.tables.exec = Jvm.exec) {pc : Nat} {Ls : Array Slot} {z : Int32} {rest : List Value} (hret : meth.sig.returnType = some .int)
    (hd : decode c.code pc = .ok (.ireturn, 1)) (hS₁ : s.Since vm₁ n) (hn₁ : n ≤ T.heap.size) (hQ : Q (some (.int z)) T.heap locs) (hC : cells ≤ C) (hS : slots ≤ S) (hlk : meth.locks = false := by assumption) :
    own_Go p e below (fun o U' => ∃ v L, o = .returned v ∧ Q v U'.heap L ∧ ReturnedEndW s o U' L C S) (T.setTop (mkF m pc Ls (.int z :: rest))) :=
  own_retW X (fun h => by rw [hret] at h; cases h) hlk (fun fs hr => retOut X hx hret rfl (Or.inl ⟨rfl, Or.inl rfl, z, rfl⟩) hd hr) hS₁ hn₁ hQ hC hS
theorem own_retLW {Q : Option Value → Heap → List Loc → Prop} {C S : Nat} {vm₁ : Vm} {n : Nat} (X : Stand p l e R (s.setVm vm₁) m args below meth c T locs cells slots) (hx : p.tables.exec = Jvm.exec) {pc : Nat} {Ls : Array Slot} {z : Int64} {rest : List Value} (hret : meth.sig.returnType = some .long)
    (hd : decode c.code pc = .ok (.lreturn, 1)) (hS₁ : s.Since vm₁ n) (hn₁ : n ≤ T.heap.size) (hQ : Q (some (.long z)) T.heap locs) (hC : cells ≤ C) (hS : slots ≤ S) (hlk : meth.locks = false := by assumption) :
    own_Go p e below (fun o U' => ∃ v L, o = .returned v ∧ Q v U'.heap L ∧ ReturnedEndW s o U' L C S) (T.setTop (mkF m pc Ls (.long z :: rest))) :=
  own_retW X (fun h => by rw [hret] at h; cases h) hlk (fun fs hr => retOut X hx hret rfl (Or.inr (Or.inl ⟨rfl, rfl, z, rfl⟩)) hd hr) hS₁ hn₁ hQ hC hS
theorem own_retAW {Q : Option Value → Heap → List Loc → Prop} {C S : Nat} {vm₁ : Vm} {n : Nat} (X : Stand p l e R (s.setVm vm₁) m args below meth c T locs cells slots) (hx : p.tables.exec = Jvm.exec) {pc : Nat} {Ls : Array Slot} {w : Value} {t : FieldType} {rest : List Value} (hret : meth.sig.returnType = some t) (ht : t.isReference = true) (hw : w.isRef = true)
    (hd : decode c.code pc = .ok (.areturn, 1)) (hS₁ : s.Since vm₁ n) (hn₁ : n ≤ T.heap.size) (hQ : Q (some w) T.heap locs) (hC : cells ≤ C) (hS : slots ≤ S) (hlk : meth.locks = false := by assumption) :
    own_Go p e below (fun o U' => ∃ v L, o = .returned v ∧ Q v U'.heap L ∧ ReturnedEndW s o U' L C S) (T.setTop (mkF m pc Ls (w :: rest))) :=
  own_retW X (fun h => by rw [hret] at h; cases h) hlk (fun fs hr => retOut X hx hret (by cases t <;> first | (cases ht; done) | rfl) (Or.inr (Or.inr (Or.inr (Or.inr ⟨rfl, ht, hw⟩)))) hd hr) hS₁ hn₁ hQ hC hS
theorem own_ret0W {Q : Option Value → Heap → List Loc → Prop} {C S : Nat} {vm₁ : Vm} {n : Nat} (X : Stand p l e R (s.setVm vm₁) m args below meth c T locs cells slots) (hx : p.tables.exec = Jvm.exec) {pc : Nat} {Ls : Array Slot} (hret : meth.sig.returnType = none)
    (hd : decode c.code pc = .ok (.return_, 1)) (hS₁ : s.Since vm₁ n) (hn₁ : n ≤ T.heap.size) (hQ : Q none T.heap locs) (hC : cells ≤ C) (hS : slots ≤ S) (hlk : meth.locks = false := by assumption) :
    own_Go p e below (fun o U' => ∃ v L, o = .returned v ∧ Q v U'.heap L ∧ ReturnedEndW s o U' L C S) (T.setTop (mkF m pc Ls [])) :=
  own_retW X (fun _ => rfl) hlk (fun fs hr => X.returnOut hx hret hd hr) hS₁ hn₁ hQ hC hS
theorem own_retH {Q : Option Value → Heap → List Loc → Prop} {C S : Nat} {vm₁ : Vm} {n : Nat} {Z : State} {EL : List (String × Nat)} (X : Stand p l e R (s.setVm vm₁) m args below meth c T locs cells slots) {v : Option Value} (hv : meth.sig.returnType = none → v = none) (hlk : meth.locks = false) {S0 : State}
    (hst : ∀ fs, (∀ (f : JFrame) (acts : List Action), f.method = m → f.locked = none → f.entered = [] → (doReturn e (T.setTop f) acts v).1 = T.setFrames fs) → Steps p.tables e below S0 (T.setFrames fs))
    (hS₁ : s.Since vm₁ n) (hn₁ : n ≤ T.heap.size) (hQ : Q v T.heap locs) (hF : CHr Z EL s.vm s.heap T.vm T.heap) (hC : cells ≤ C) (hS : slots ≤ S) : own_Go p e below (fun o U' => ∃ v L, o = .returned v ∧ Q v U'.heap L ∧ CHr Z EL s.vm s.heap U'.vm U'.heap ∧ ReturnedEndW s o U' L C S) S0 := by
  obtain ⟨fs, hr, hrun, hended, q1, q2, q3, q4⟩ := X.leaveW hS₁ hn₁ (v := v) hv hlk
  exact ⟨_, _, hst fs hr, hrun, hended, _, _, rfl, hQ, hF, q1, q2, q3, q4.mono hC hS⟩
theorem own_retNH {Q : Option Value → Heap → List Loc → Prop} {C S : Nat} {vm₁ : Vm} {n : Nat} {Z : State} {EL : List (String × Nat)} (X : Stand p l e R (s.setVm vm₁) m args below meth c T locs cells slots) (hx : p.tables.exec = Jvm.exec) {pc : Nat} {Ls : Array Slot} {z : Int32} {t : FieldType} {rest : List Value} (hret : meth.sig.returnType = some t) (ht : t = .boolean ∨ t = .byte ∨ t = .char ∨ t = .short)
    (hd : decode c.code pc = .ok (.ireturn, 1)) (hS₁ : s.Since vm₁ n) (hn₁ : n ≤ T.heap.size) (hQ : Q (some (.int (nar t z))) T.heap locs) (hF : CHr Z EL s.vm s.heap T.vm T.heap) (hC : cells ≤ C) (hS : slots ≤ S) (hlk : meth.locks = false := by assumption) :
    own_Go p e below (fun o U' => ∃ v L, o = .returned v ∧ Q v U'.heap L ∧ CHr Z EL s.vm s.heap U'.vm U'.heap ∧ ReturnedEndW s o U' L C S) (T.setTop (mkF m pc Ls (.int z :: rest))) :=
  own_retH X (fun h => by rw [hret] at h; cases h) hlk (fun fs hr => retN X hx hret ht hd hr) hS₁ hn₁ hQ hF hC hS
theorem own_retIH {Q : Option Value → Heap → List Loc → Prop} {C S : Nat} {vm₁ : Vm} {n : Nat} {Z : State} {EL : List (String × Nat)} (X : Stand p l e R (s.setVm vm₁) m args below meth c T locs cells slots) (hx : p.tables.exec = Jvm.exec) {pc : Nat} {Ls : Array Slot} {z : Int32} {rest : List Value} (hret : meth.sig.returnType = some .int)
    (hd : decode c.code pc = .ok (.ireturn, 1)) (hS₁ : s.Since vm₁ n) (hn₁ : n ≤ T.heap.size) (hQ : Q (some (.int z)) T.heap locs) (hF : CHr Z EL s.vm s.heap T.vm T.heap) (hC : cells ≤ C) (hS : slots ≤ S) (hlk : meth.locks = false := by assumption) :
    own_Go p e below (fun o U' => ∃ v L, o = .returned v ∧ Q v U'.heap L ∧ CHr Z EL s.vm s.heap U'.vm U'.heap ∧ ReturnedEndW s o U' L C S) (T.setTop (mkF m pc Ls (.int z :: rest))) :=
  own_retH X (fun h => by rw [hret] at h; cases h) hlk (fun fs hr => retOut X hx hret rfl (Or.inl ⟨rfl, Or.inl rfl, z, rfl⟩) hd hr) hS₁ hn₁ hQ hF hC hS
theorem own_retLH {Q : Option Value → Heap → List Loc → Prop} {C S : Nat} {vm₁ : Vm} {n : Nat} {Z : State} {EL : List (String × Nat)} (X : Stand p l e R (s.setVm vm₁) m args below meth c T locs cells slots) (hx : p.tables.exec = Jvm.exec) {pc : Nat} {Ls : Array Slot} {z : Int64} {rest : List Value} (hret : meth.sig.returnType = some .long)
    (hd : decode c.code pc = .ok (.lreturn, 1)) (hS₁ : s.Since vm₁ n) (hn₁ : n ≤ T.heap.size) (hQ : Q (some (.long z)) T.heap locs) (hF : CHr Z EL s.vm s.heap T.vm T.heap) (hC : cells ≤ C) (hS : slots ≤ S) (hlk : meth.locks = false := by assumption) :
    own_Go p e below (fun o U' => ∃ v L, o = .returned v ∧ Q v U'.heap L ∧ CHr Z EL s.vm s.heap U'.vm U'.heap ∧ ReturnedEndW s o U' L C S) (T.setTop (mkF m pc Ls (.long z :: rest))) :=
  own_retH X (fun h => by rw [hret] at h; cases h) hlk (fun fs hr => retOut X hx hret rfl (Or.inr (Or.inl ⟨rfl, rfl, z, rfl⟩)) hd hr) hS₁ hn₁ hQ hF hC hS
theorem own_retAH {Q : Option Value → Heap → List Loc → Prop} {C S : Nat} {vm₁ : Vm} {n : Nat} {Z : State} {EL : List (String × Nat)} (X : Stand p l e R (s.setVm vm₁) m args below meth c T locs cells slots) (hx : p.tables.exec = Jvm.exec) {pc : Nat} {Ls : Array Slot} {w : Value} {t : FieldType} {rest : List Value} (hret : meth.sig.returnType = some t) (ht : t.isReference = true) (hw : w.isRef = true)
    (hd : decode c.code pc = .ok (.areturn, 1)) (hS₁ : s.Since vm₁ n) (hn₁ : n ≤ T.heap.size) (hQ : Q (some w) T.heap locs) (hF : CHr Z EL s.vm s.heap T.vm T.heap) (hC : cells ≤ C) (hS : slots ≤ S) (hlk : meth.locks = false := by assumption) :
    own_Go p e below (fun o U' => ∃ v L, o = .returned v ∧ Q v U'.heap L ∧ CHr Z EL s.vm s.heap U'.vm U'.heap ∧ ReturnedEndW s o U' L C S) (T.setTop (mkF m pc Ls (w :: rest))) :=
  own_retH X (fun h => by rw [hret] at h; cases h) hlk (fun fs hr => retOut X hx hret (by cases t <;> first | (cases ht; done) | rfl) (Or.inr (Or.inr (Or.inr (Or.inr ⟨rfl, ht, hw⟩)))) hd hr) hS₁ hn₁ hQ hF hC hS
theorem own_ret0H {Q : Option Value → Heap → List Loc → Prop} {C S : Nat} {vm₁ : Vm} {n : Nat} {Z : State} {EL : List (String × Nat)} (X : Stand p l e R (s.setVm vm₁) m args below meth c T locs cells slots) (hx : p.tables.exec = Jvm.exec) {pc : Nat} {Ls : Array Slot} (hret : meth.sig.returnType = none)
    (hd : decode c.code pc = .ok (.return_, 1)) (hS₁ : s.Since vm₁ n) (hn₁ : n ≤ T.heap.size) (hQ : Q none T.heap locs) (hF : CHr Z EL s.vm s.heap T.vm T.heap) (hC : cells ≤ C) (hS : slots ≤ S) (hlk : meth.locks = false := by assumption) :
    own_Go p e below (fun o U' => ∃ v L, o = .returned v ∧ Q v U'.heap L ∧ CHr Z EL s.vm s.heap U'.vm U'.heap ∧ ReturnedEndW s o U' L C S) (T.setTop (mkF m pc Ls [])) :=
  own_retH X (fun _ => rfl) hlk (fun fs hr => X.returnOut hx hret hd hr) hS₁ hn₁ hQ hF hC hS
theorem own_cat1 {v : Value} (h : v.isRef = true) : v.category = 1 := by cases v <;> simp_all [Value.isRef, Value.category]
theorem own_catR {x : Addr} : (Value.ref x).category = 1 := rfl
theorem own_catI {x : Int32} : (Value.int x).category = 1 := rfl
theorem own_catJ {x : Int64} : (Value.long x).category = 2 := rfl
theorem own_catN : Value.null.category = 1 := rfl
theorem own_st1 {L L' : Array Slot} {i : Nat} {v : Value} {o : Slot} (hold : L[i]? = some o) (ho : o = .unset ∨ ∃ w, o = .val w ∧ w.category = 1) (hv : v.category = 1) (q : L.setIfInBounds i (.val v) = L' := by rfl) : storeLocals L i v = some L' := q ▸ XS.store1 hold ho hv
theorem own_fits {v : Value} {t : FieldType} (h : v.isRef = true) (ht : t.isReference = true) : fits t v = true := by cases t <;> first | (cases ht; done) | (cases v <;> simp_all [Value.isRef, fits])
theorem own_frm {k k' : Nat} {L : List Loc} (N : Fr k L) (h : k' ≤ k) : Fr k' L := fun y hy => Nat.le_trans h (N y hy)
theorem own_lsw {g : JFrame} {target : State} (X : Stand p l e R s m args below meth c T locs cells slots) (hx : p.tables.exec = Jvm.exec) (hg : g.method = m) {df : Int} {prs : Array (Int × Int)} {len : Nat} {x : Int32} {rest : List Value} {o : Int} {pc0 pc' : Nat} (hpc : g.pc = pc0)
    (hd : decode c.code g.pc = .ok (.lookupswitch df prs, len)) (hs : g.stack = .int x :: rest) (hsrt : (prs.toList.zip (prs.toList.drop 1)).all (fun (a, next) => a.1 < next.1) = true) (hf : lookupswitch.offset prs.toList df x.toInt = o) (ho : 0 ≤ (pc0 : Int) + o) (hp : ((pc0 : Int) + o).toNat = pc')
    (hr : Steps p.tables e below (T.setTop { g with pc := pc', stack := rest }) target) : Steps p.tables e below (T.setTop g) target := by
  subst hg hpc hp
  jvm_step X.here [X.here.top, hx, hd, hs, lookupswitch.wp_chain, hf, ho]
  first | exact hr | exact ⟨by simpa using hsrt, hr⟩
theorem own_backH {Z : State} {a0 : Array Value} {EL : List (String × Nat)} {h : Heap} {vm0 : Vm} {y : MethodName} {bytes : ByteArray} {maxL : Nat} {ret : Option FieldType} {rm : Room} {len W : Nat} {as' : Array Value} {sf : List Addr} {Q : Option Value → Heap → List Loc → Prop}
    (hM : MetFree l y (head1 [Cond.code y bytes maxL ret] rm) (fun a U => a = as' ∧ Z.Warmed39 U.vm ∧ U.heap = h ∧ CHv Z EL U.vm h ∧ ∀ x ∈ sf, Safe Z EL U.vm h x) (fun _ _ _ _ _ => True) (fun _ U o U' => ∃ v L, o = .returned v ∧ Q v U'.heap L ∧ CHr Z EL U.vm U.heap U'.vm U'.heap ∧ ReturnedEndW U o U' L rm.cells rm.slots))
    (hZ : Z.Warmed39 vm0) (wc : (Cond.code y bytes maxL ret).before a0 Z = true) (wz : (Cond.initialized y.cls).before a0 Z = true) (hf : rm.frames + 1 ≤ R.frames) (hl : W + (maxL + 11) + rm.locals ≤ R.locals) (hEL : EW Z a0 EL) (H : CHv Z EL vm0 h) (hsf : ∀ x ∈ sf, x < h.size ∧ Safe Z EL vm0 h x) :
    BackS l R p e below (s.setVm vm0) args y len W (fun A a => a = as' ∧ A.U.heap = h ∧ A.cells + rm.cells ≤ R.cells ∧ A.slots + rm.slots ≤ R.slots)
      (fun A _ v B => ∃ L, Q v B.U.heap L ∧ B.locs = A.locs ++ L ∧ B.cells = A.cells + rm.cells ∧ B.slots = A.slots + rm.slots ∧ CHr Z EL vm0 h B.U.vm B.U.heap) := by
  refine BackS.of_freeW (bytes := bytes) (maxL := maxL) (ret := ret) (E := fun _ first o t L k n => (k = rm.cells ∧ n = rm.slots) ∧ CHr Z EL first.vm first.heap t.vm t.heap ∧ ∃ v, o = .returned v ∧ Q v t.heap L) hM hf hl ?_ ?_ (fun _ _ _ _ _ _ _ _ _ => trivial) ?_ ?_
  · intro m meth c A a Y hp
    have hU : Z.Warmed39 A.U.vm := wtrans (s := s.setVm vm0) hZ Y.warmed
    exact ⟨by show (Cond.and _ .tt).before a A.U = true; rw [Cond.before_and, mv hU wc]; rfl, mv hU wc, mv hU wz, hp.2.2.1, hp.2.2.2⟩
  · intro m meth c A a g mk Y hp
    have q := CHv.at Y hZ hEL H
    exact ⟨hp.1, wtrans (s := s.setVm vm0) hZ Y.warmed, hp.2.1, q.1, fun x hx => q.safe (hsf x hx).1 (hsf x hx).2⟩
  · rintro _ _ _ _ ⟨v, L, h1, h2, h3, h4⟩
    exact ⟨L, _, _, h4, ⟨rfl, rfl⟩, h3, v, h1, h2⟩
  · rintro m meth c A a g mk v t L k n Y hp _ _ ⟨⟨e1, e2⟩, e5, v', e3, e4⟩
    cases e3
    subst e1 e2
    have q := (CHv.at Y hZ hEL H).trans (vm2 := t.vm) (h2 := t.heap) (by rw [← hp.2.1]; exact e5)
    exact ⟨L, e4, rfl, rfl, rfl, q⟩
end Own
theorem own_wS {Z : State} {a0 : Array Value} (hw : ∀ d ∈ tables_1, d.before a0 Z = true) : ∀ a ∈ Bundle.stringAtoms, a.before a0 Z = true := by
  intro a ha
  simp only [Bundle.stringAtoms, Bundle.sN, List.mem_cons, List.not_mem_nil, or_false] at ha
  rcases ha with rfl | rfl | rfl | rfl | rfl | rfl | rfl
  · exact (hw _ (List.mem_of_getElem? (i := 7) rfl))
  · exact (hw _ (List.mem_of_getElem? (i := 6) rfl))
  · exact (hw _ (List.mem_of_getElem? (i := 19) rfl))
  · exact (hw _ (List.mem_of_getElem? (i := 20) rfl))
  · exact (hw _ (List.mem_of_getElem? (i := 21) rfl))
  · exact (hw _ (List.mem_of_getElem? (i := 22) rfl))
  · exact (hw _ (List.mem_of_getElem? (i := 23) rfl))
abbrev own_EL : List (String × Nat) := consts_1
theorem own_ew {Z : State} {a0 : Array Value} (hw : ∀ d ∈ tables_1, d.before a0 Z = true) : EW Z a0 own_EL := (EW.cons (hw _ (List.mem_of_getElem? (i := 30) rfl)) (by decide) (EW.cons (hw _ (List.mem_of_getElem? (i := 42) rfl)) (by decide) (EW.cons (hw _ (List.mem_of_getElem? (i := 18) rfl)) (by decide) EW.nil)))
theorem dL1b_0 : decode jdk_52_method_21_code 0 = .ok (.iconst 0, 1) := by decide +kernel
theorem dL1b_1 : decode jdk_52_method_21_code 1 = .ok (.istore 5, 2) := by decide +kernel
theorem dL1b_3 : decode jdk_52_method_21_code 3 = .ok (.iload 5, 2) := by decide +kernel
theorem dL1b_5 : decode jdk_52_method_21_code 5 = .ok (.iload 4, 2) := by decide +kernel
theorem dL1b_7 : decode jdk_52_method_21_code 7 = .ok (.if_icmp .ge 37, 3) := by decide +kernel
theorem dL1b_10 : decode jdk_52_method_21_code 10 = .ok (.aload_n 0, 1) := by decide +kernel
theorem dL1b_11 : decode jdk_52_method_21_code 11 = .ok (.iload_n 1, 1) := by decide +kernel
theorem dL1b_12 : decode jdk_52_method_21_code 12 = .ok (.caload, 1) := by decide +kernel
theorem dL1b_13 : decode jdk_52_method_21_code 13 = .ok (.istore 6, 2) := by decide +kernel
theorem dL1b_15 : decode jdk_52_method_21_code 15 = .ok (.iload 6, 2) := by decide +kernel
theorem dL1b_17 : decode jdk_52_method_21_code 17 = .ok (.sipush 255, 3) := by decide +kernel
theorem dL1b_20 : decode jdk_52_method_21_code 20 = .ok (.if_icmp .le 6, 3) := by decide +kernel
theorem dL1b_26 : decode jdk_52_method_21_code 26 = .ok (.aload_n 2, 1) := by decide +kernel
theorem dL1b_27 : decode jdk_52_method_21_code 27 = .ok (.iload_n 3, 1) := by decide +kernel
theorem dL1b_28 : decode jdk_52_method_21_code 28 = .ok (.iload 6, 2) := by decide +kernel
theorem dL1b_30 : decode jdk_52_method_21_code 30 = .ok (.i2b, 1) := by decide +kernel
theorem dL1b_31 : decode jdk_52_method_21_code 31 = .ok (.bastore, 1) := by decide +kernel
theorem dL1b_32 : decode jdk_52_method_21_code 32 = .ok (.iinc 1 1, 3) := by decide +kernel
theorem dL1b_35 : decode jdk_52_method_21_code 35 = .ok (.iinc 3 1, 3) := by decide +kernel
theorem dL1b_38 : decode jdk_52_method_21_code 38 = .ok (.iinc 5 1, 3) := by decide +kernel
theorem dL1b_41 : decode jdk_52_method_21_code 41 = .ok (.goto (-38), 3) := by decide +kernel
theorem dL1b_44 : decode jdk_52_method_21_code 44 = .ok (.iload 4, 2) := by decide +kernel
theorem dL1b_46 : decode jdk_52_method_21_code 46 = .ok (.ireturn, 1) := by decide +kernel
theorem pnL1b : plainName "java/lang/StringUTF16" = true := by first | (simp [plainName, overriddenIn]; done) | decide +kernel
theorem efL1b (m : MethodId) (x0 : Addr) (x1 : Int32) (x2 : Addr) (x3 : Int32) (x4 : Int32) : entryFrame m #[(.ref x0), (.int x3), (.ref x2), (.int x3), (.int x4)] 7 = mkF m 0 #[.val (.ref x0), .val (.int x3), .val (.ref x2), .val (.int x3), .val (.int x4), .unset, .unset] [] := by first | (simp [entryFrame, mkF, argsToLocals, Value.category]; done) | rfl
def own_QL1b (Z : State) (u : Addr) (ku : ClassId) (c0 : Int32) (h0 : Heap) (n0 : Nat) (v : Option Value) (h : Heap) (L : List Loc) : Prop := v = some (.int (1 : Int32)) ∧ Fr n0 L ∧ Keep h0 h [u] ∧ Arv Z h u ku .byte (1 : Int32) [.int (nar .byte (c0.toInt8.toInt32))] (.int (0 : Int32))
set_option maxRecDepth 65536 in
set_option maxHeartbeats 40000000 in
theorem rmL1b (l : Launch) (Z : State) (a0 : Array Value) (hw : ∀ d ∈ tables_1, d.before a0 Z = true) (ws : List Jvm.Cond) (cc u : Addr) (kc ku : ClassId) (c0 : Int32) (h0 : Heap) (n0 : Nat) (Z0 : n0 ≤ h0.size) (Ac : Arv Z h0 cc kc .char (1 : Int32) [.int c0] (.int (0 : Int32))) (Au : Arv Z h0 u ku .byte (1 : Int32) [.int (0 : Int32)] (.int (0 : Int32))) (g_u : n0 ≤ u) (ne_cu : cc ≠ u) (hp0 : ¬ (255 : Int32) < c0) :
    MetFree l (⟨"java/lang/StringUTF16", "compress", "([CI[BII)I"⟩ : MethodName) (head1 (Jvm.Cond.code (⟨"java/lang/StringUTF16", "compress", "([CI[BII)I"⟩ : MethodName) jdk_52_method_21_code 7 (some .int) :: ws) ({ frames := 0, cells := 0, slots := 0, locals := 0 } : Room)) (fun a U => a = #[(.ref cc), (.int (0 : Int32)), (.ref u), (.int (0 : Int32)), (.int (1 : Int32))] ∧ Z.Warmed39 U.vm ∧ U.heap = h0) (fun _ _ _ _ _ => True) (fun _ U o U' => ∃ v L, o = .returned v ∧ own_QL1b Z u ku c0 h0 n0 v U'.heap L ∧ FrameEnd U o U' L ({ frames := 0, cells := 0, slots := 0, locals := 0 } : Room).cells ({ frames := 0, cells := 0, slots := 0, locals := 0 } : Room).slots) := by
  refine MetFree.of_bodySF (plainFor_of_name pnL1b) hisR ?_
  intro p e s m args below meth c s₁ Bd hml0 hP hK
  obtain ⟨rfl, hZ, hh⟩ := hP
  have hx := Bd.exec
  have hby := Bd.bytes
  have hml : c.maxLocals = 7 := hml0
  have hown : s.vm.findClass "java/lang/StringUTF16" = some m.cls := findClass_of_methodNamed Bd.named
  have hnm := (name_of_methodNamed Bd.named Bd.method).1
  have hlk : meth.locks = false := Bd.notSynchronized
  have X0 : Stand p l e ({ frames := 0, cells := 0, slots := 0, locals := 0 } : Room) s m #[(.ref cc), (.int (0 : Int32)), (.ref u), (.int (0 : Int32)), (.int (1 : Int32))] below meth c s₁ [] 0 0 := Stand.of_body Bd
  have e0 : s₁.heap = h0 := by rw [← hh, Bd.state]; rfl
  have N0 := Fr.nil n0
  refine own_go (fun t k => castTop (efL1b m cc (0 : Int32) u (0 : Int32) (1 : Int32)) k) ?_
  show own_Go p e below _ (s₁.setTop (mkF m 0 #[.val (.ref cc), .val (.int (0 : Int32)), .val (.ref u), .val (.int (0 : Int32)), .val (.int (1 : Int32)), .unset, .unset] []))
  refine own_go (fun t k => XS.iconst X0.here hx rfl (hb hby dL1b_0) k) ?_
  show own_Go p e below _ (s₁.setTop (mkF m 1 #[.val (.ref cc), .val (.int (0 : Int32)), .val (.ref u), .val (.int (0 : Int32)), .val (.int (1 : Int32)), .unset, .unset] [(.int (0 : Int32))]))
  refine own_go (fun t k => XS.istore X0.here hx rfl (hb hby dL1b_1) rfl (l' := #[.val (.ref cc), .val (.int (0 : Int32)), .val (.ref u), .val (.int (0 : Int32)), .val (.int (1 : Int32)), .val (.int (0 : Int32)), .unset]) rfl k) ?_
  show own_Go p e below _ (s₁.setTop (mkF m 3 #[.val (.ref cc), .val (.int (0 : Int32)), .val (.ref u), .val (.int (0 : Int32)), .val (.int (1 : Int32)), .val (.int (0 : Int32)), .unset] []))
  refine own_go (fun t k => XS.iload X0.here hx rfl (hb hby dL1b_3) rfl k) ?_
  show own_Go p e below _ (s₁.setTop (mkF m 5 #[.val (.ref cc), .val (.int (0 : Int32)), .val (.ref u), .val (.int (0 : Int32)), .val (.int (1 : Int32)), .val (.int (0 : Int32)), .unset] [(.int (0 : Int32))]))
  refine own_go (fun t k => XS.iload X0.here hx rfl (hb hby dL1b_5) rfl k) ?_
  show own_Go p e below _ (s₁.setTop (mkF m 7 #[.val (.ref cc), .val (.int (0 : Int32)), .val (.ref u), .val (.int (0 : Int32)), .val (.int (1 : Int32)), .val (.int (0 : Int32)), .unset] [(.int (1 : Int32)), (.int (0 : Int32))]))
  refine own_go (fun t k => XS.icmpNo X0.here hx rfl (hb hby dL1b_7) rfl (tlt (by decide : (0 : Int32) < (1 : Int32))).2.1 k) ?_
  show own_Go p e below _ (s₁.setTop (mkF m 10 #[.val (.ref cc), .val (.int (0 : Int32)), .val (.ref u), .val (.int (0 : Int32)), .val (.int (1 : Int32)), .val (.int (0 : Int32)), .unset] []))
  refine own_go (fun t k => XS.aloadN X0.here hx rfl (hb hby dL1b_10) rfl rfl k) ?_
  show own_Go p e below _ (s₁.setTop (mkF m 11 #[.val (.ref cc), .val (.int (0 : Int32)), .val (.ref u), .val (.int (0 : Int32)), .val (.int (1 : Int32)), .val (.int (0 : Int32)), .unset] [(.ref cc)]))
  refine own_go (fun t k => XS.iloadN X0.here hx rfl (hb hby dL1b_11) rfl k) ?_
  show own_Go p e below _ (s₁.setTop (mkF m 12 #[.val (.ref cc), .val (.int (0 : Int32)), .val (.ref u), .val (.int (0 : Int32)), .val (.int (1 : Int32)), .val (.int (0 : Int32)), .unset] [(.int (0 : Int32)), (.ref cc)]))
  obtain ⟨cl1, Ar1, qa1, Sa1, Na1, Ha1, Ga1⟩ := id Ac
  have hin1 : ¬ ((0 : Int32) < 0 ∨ cl1.slots.size ≤ ((0 : Int32)).toNatClampNeg) := inb_of Sa1 ⟨by decide, by decide⟩
  have hat1 : cl1.slots[((0 : Int32)).toNatClampNeg]? = some (.int c0) := Ha1.at hin1 rfl
  refine own_go (fun t k => X0.caload hx (j := (0 : Int32)) (v := (.int c0)) (by rw [e0]; exact Ar1.1) (State.isArrayOf_alike hZ.alike Ar1.2.1) Ar1.2.2 hin1 hat1 (g := (mkF m 12 #[.val (.ref cc), .val (.int (0 : Int32)), .val (.ref u), .val (.int (0 : Int32)), .val (.int (1 : Int32)), .val (.int (0 : Int32)), .unset] [(.int (0 : Int32)), (.ref cc)])) rfl rfl (hb hby dL1b_12) t k) ?_
  show own_Go p e below _ (s₁.setTop (mkF m 13 #[.val (.ref cc), .val (.int (0 : Int32)), .val (.ref u), .val (.int (0 : Int32)), .val (.int (1 : Int32)), .val (.int (0 : Int32)), .unset] [(.int c0)]))
  refine own_go (fun t k => XS.istore X0.here hx rfl (hb hby dL1b_13) rfl (l' := #[.val (.ref cc), .val (.int (0 : Int32)), .val (.ref u), .val (.int (0 : Int32)), .val (.int (1 : Int32)), .val (.int (0 : Int32)), .val (.int c0)]) rfl k) ?_
  show own_Go p e below _ (s₁.setTop (mkF m 15 #[.val (.ref cc), .val (.int (0 : Int32)), .val (.ref u), .val (.int (0 : Int32)), .val (.int (1 : Int32)), .val (.int (0 : Int32)), .val (.int c0)] []))
  refine own_go (fun t k => XS.iload X0.here hx rfl (hb hby dL1b_15) rfl k) ?_
  show own_Go p e below _ (s₁.setTop (mkF m 17 #[.val (.ref cc), .val (.int (0 : Int32)), .val (.ref u), .val (.int (0 : Int32)), .val (.int (1 : Int32)), .val (.int (0 : Int32)), .val (.int c0)] [(.int c0)]))
  refine own_go (fun t k => XS.sipush X0.here hx rfl (hb hby dL1b_17) k) ?_
  show own_Go p e below _ (s₁.setTop (mkF m 20 #[.val (.ref cc), .val (.int (0 : Int32)), .val (.ref u), .val (.int (0 : Int32)), .val (.int (1 : Int32)), .val (.int (0 : Int32)), .val (.int c0)] [(.int (255 : Int32)), (.int c0)]))
  refine own_go (fun t k => XS.icmpYes X0.here hx rfl (pc0 := 20) (pc' := 26) rfl (hb hby dL1b_20) rfl (flt hp0).2.2.2 (by decide) (by decide) k) ?_
  show own_Go p e below _ (s₁.setTop (mkF m 26 #[.val (.ref cc), .val (.int (0 : Int32)), .val (.ref u), .val (.int (0 : Int32)), .val (.int (1 : Int32)), .val (.int (0 : Int32)), .val (.int c0)] []))
  refine own_go (fun t k => XS.aloadN X0.here hx rfl (hb hby dL1b_26) rfl rfl k) ?_
  show own_Go p e below _ (s₁.setTop (mkF m 27 #[.val (.ref cc), .val (.int (0 : Int32)), .val (.ref u), .val (.int (0 : Int32)), .val (.int (1 : Int32)), .val (.int (0 : Int32)), .val (.int c0)] [(.ref u)]))
  refine own_go (fun t k => XS.iloadN X0.here hx rfl (hb hby dL1b_27) rfl k) ?_
  show own_Go p e below _ (s₁.setTop (mkF m 28 #[.val (.ref cc), .val (.int (0 : Int32)), .val (.ref u), .val (.int (0 : Int32)), .val (.int (1 : Int32)), .val (.int (0 : Int32)), .val (.int c0)] [(.int (0 : Int32)), (.ref u)]))
  refine own_go (fun t k => XS.iload X0.here hx rfl (hb hby dL1b_28) rfl k) ?_
  show own_Go p e below _ (s₁.setTop (mkF m 30 #[.val (.ref cc), .val (.int (0 : Int32)), .val (.ref u), .val (.int (0 : Int32)), .val (.int (1 : Int32)), .val (.int (0 : Int32)), .val (.int c0)] [(.int c0), (.int (0 : Int32)), (.ref u)]))
  refine own_go (fun t k => XS.i2b X0.here hx rfl (hb hby dL1b_30) rfl k) ?_
  show own_Go p e below _ (s₁.setTop (mkF m 31 #[.val (.ref cc), .val (.int (0 : Int32)), .val (.ref u), .val (.int (0 : Int32)), .val (.int (1 : Int32)), .val (.int (0 : Int32)), .val (.int c0)] [(.int (c0.toInt8.toInt32)), (.int (0 : Int32)), (.ref u)]))
  obtain ⟨cl2, Ar2, qa2, Sa2, Na2, Ha2, Ga2⟩ := id Au
  have hin2 : ¬ ((0 : Int32) < 0 ∨ cl2.slots.size ≤ ((0 : Int32)).toNatClampNeg) := inb_of Sa2 ⟨by decide, by decide⟩
  obtain ⟨T2, h2, X2, e2, W2, st2⟩ := stB X0 hx hZ e0 Ar2 (j := (0 : Int32)) hin2 (g := (mkF m 31 #[.val (.ref cc), .val (.int (0 : Int32)), .val (.ref u), .val (.int (0 : Int32)), .val (.int (1 : Int32)), .val (.int (0 : Int32)), .val (.int c0)] [(.int (c0.toInt8.toInt32)), (.int (0 : Int32)), (.ref u)])) rfl rfl (hb hby dL1b_31)
  have Vw2 : Arv Z h2 u ku .byte (1 : Int32) [(.int (nar .byte (c0.toInt8.toInt32)))] (.int (0 : Int32)) := Arv.set Ar2 qa2 Sa2 Na2 Ha2 Ga2 (fits_nar_byte _) W2 0 rfl (Nat.le_of_ble_eq_true rfl)
  have Ac__2 := Ac.other W2 ne_cu
  have N2 := Fr.snoc X2 N0 g_u
  have KP2 := (Keep.refl h0 [u]).wr W2 (Or.inl (List.mem_of_getElem? (i := 0) rfl))
  have sz2 := Nat.le_trans Z0 (Keep.of_wr W2).1
  refine own_go (fun t k => st2 t k) ?_
  show own_Go p e below _ (T2.setTop (mkF m 32 #[.val (.ref cc), .val (.int (0 : Int32)), .val (.ref u), .val (.int (0 : Int32)), .val (.int (1 : Int32)), .val (.int (0 : Int32)), .val (.int c0)] []))
  refine own_go (fun t k => XS.iinc X2.here hx rfl (hb hby dL1b_32) rfl (l' := #[.val (.ref cc), .val (.int (1 : Int32)), .val (.ref u), .val (.int (0 : Int32)), .val (.int (1 : Int32)), .val (.int (0 : Int32)), .val (.int c0)]) rfl k) ?_
  show own_Go p e below _ (T2.setTop (mkF m 35 #[.val (.ref cc), .val (.int (1 : Int32)), .val (.ref u), .val (.int (0 : Int32)), .val (.int (1 : Int32)), .val (.int (0 : Int32)), .val (.int c0)] []))
  refine own_go (fun t k => XS.iinc X2.here hx rfl (hb hby dL1b_35) rfl (l' := #[.val (.ref cc), .val (.int (1 : Int32)), .val (.ref u), .val (.int (1 : Int32)), .val (.int (1 : Int32)), .val (.int (0 : Int32)), .val (.int c0)]) rfl k) ?_
  show own_Go p e below _ (T2.setTop (mkF m 38 #[.val (.ref cc), .val (.int (1 : Int32)), .val (.ref u), .val (.int (1 : Int32)), .val (.int (1 : Int32)), .val (.int (0 : Int32)), .val (.int c0)] []))
  refine own_go (fun t k => XS.iinc X2.here hx rfl (hb hby dL1b_38) rfl (l' := #[.val (.ref cc), .val (.int (1 : Int32)), .val (.ref u), .val (.int (1 : Int32)), .val (.int (1 : Int32)), .val (.int (1 : Int32)), .val (.int c0)]) rfl k) ?_
  show own_Go p e below _ (T2.setTop (mkF m 41 #[.val (.ref cc), .val (.int (1 : Int32)), .val (.ref u), .val (.int (1 : Int32)), .val (.int (1 : Int32)), .val (.int (1 : Int32)), .val (.int c0)] []))
  refine own_go (fun t k => XS.goto X2.here hx rfl (pc0 := 41) (pc' := 3) rfl (hb hby dL1b_41) (by decide) (by decide) k) ?_
  show own_Go p e below _ (T2.setTop (mkF m 3 #[.val (.ref cc), .val (.int (1 : Int32)), .val (.ref u), .val (.int (1 : Int32)), .val (.int (1 : Int32)), .val (.int (1 : Int32)), .val (.int c0)] []))
  refine own_go (fun t k => XS.iload X2.here hx rfl (hb hby dL1b_3) rfl k) ?_
  show own_Go p e below _ (T2.setTop (mkF m 5 #[.val (.ref cc), .val (.int (1 : Int32)), .val (.ref u), .val (.int (1 : Int32)), .val (.int (1 : Int32)), .val (.int (1 : Int32)), .val (.int c0)] [(.int (1 : Int32))]))
  refine own_go (fun t k => XS.iload X2.here hx rfl (hb hby dL1b_5) rfl k) ?_
  show own_Go p e below _ (T2.setTop (mkF m 7 #[.val (.ref cc), .val (.int (1 : Int32)), .val (.ref u), .val (.int (1 : Int32)), .val (.int (1 : Int32)), .val (.int (1 : Int32)), .val (.int c0)] [(.int (1 : Int32)), (.int (1 : Int32))]))
  refine own_go (fun t k => XS.icmpYes X2.here hx rfl (pc0 := 7) (pc' := 44) rfl (hb hby dL1b_7) rfl (flt (by decide : ¬ ((1 : Int32) < (1 : Int32)))).2.1 (by decide) (by decide) k) ?_
  show own_Go p e below _ (T2.setTop (mkF m 44 #[.val (.ref cc), .val (.int (1 : Int32)), .val (.ref u), .val (.int (1 : Int32)), .val (.int (1 : Int32)), .val (.int (1 : Int32)), .val (.int c0)] []))
  refine own_go (fun t k => XS.iload X2.here hx rfl (hb hby dL1b_44) rfl k) ?_
  show own_Go p e below _ (T2.setTop (mkF m 46 #[.val (.ref cc), .val (.int (1 : Int32)), .val (.ref u), .val (.int (1 : Int32)), .val (.int (1 : Int32)), .val (.int (1 : Int32)), .val (.int c0)] [(.int (1 : Int32))]))
  exact own_retI X2 hx Bd.returns (hb hby dL1b_46) (by rw [e2]; exact ⟨rfl, N2, KP2, Vw2⟩) (by decide) (by decide)
theorem dL1c_0 : decode jdk_52_method_16_code 0 = .ok (.iload_n 2, 1) := by decide +kernel
theorem dL1c_1 : decode jdk_52_method_16_code 1 = .ok (.newarray .byte, 2) := by decide +kernel
theorem dL1c_3 : decode jdk_52_method_16_code 3 = .ok (.astore_n 3, 1) := by decide +kernel
theorem dL1c_4 : decode jdk_52_method_16_code 4 = .ok (.aload_n 0, 1) := by decide +kernel
theorem dL1c_5 : decode jdk_52_method_16_code 5 = .ok (.iload_n 1, 1) := by decide +kernel
theorem dL1c_6 : decode jdk_52_method_16_code 6 = .ok (.aload_n 3, 1) := by decide +kernel
theorem dL1c_7 : decode jdk_52_method_16_code 7 = .ok (.iconst 0, 1) := by decide +kernel
theorem dL1c_8 : decode jdk_52_method_16_code 8 = .ok (.iload_n 2, 1) := by decide +kernel
theorem dL1c_9 : decode jdk_52_method_16_code 9 = .ok (.invokestatic 115, 3) := by decide +kernel
theorem dL1c_12 : decode jdk_52_method_16_code 12 = .ok (.istore 4, 2) := by decide +kernel
theorem dL1c_14 : decode jdk_52_method_16_code 14 = .ok (.iload 4, 2) := by decide +kernel
theorem dL1c_16 : decode jdk_52_method_16_code 16 = .ok (.iload_n 2, 1) := by decide +kernel
theorem dL1c_17 : decode jdk_52_method_16_code 17 = .ok (.if_icmp .eq 40, 3) := by decide +kernel
theorem dL1c_57 : decode jdk_52_method_16_code 57 = .ok (.aload_n 3, 1) := by decide +kernel
theorem dL1c_58 : decode jdk_52_method_16_code 58 = .ok (.areturn, 1) := by decide +kernel
theorem pnL1c : plainName "java/lang/StringUTF16" = true := by first | (simp [plainName, overriddenIn]; done) | decide +kernel
theorem pdL1c_0 : parseMethodDescriptor "([CI[BII)I" = some ⟨[(.array .char), .int, (.array .byte), .int, .int], some .int⟩ := by decide +kernel
theorem efL1c (m : MethodId) (x0 : Addr) (x1 : Int32) (x2 : Int32) : entryFrame m #[(.ref x0), (.int x1), (.int x2)] 6 = mkF m 0 #[.val (.ref x0), .val (.int x1), .val (.int x2), .unset, .unset, .unset] [] := by first | (simp [entryFrame, mkF, argsToLocals, Value.category]; done) | rfl
def own_QL1c (Z : State) (c0 : Int32) (h0 : Heap) (n0 : Nat) (v : Option Value) (h : Heap) (L : List Loc) : Prop := ∃ (b : Addr) (kb : ClassId), v = some (.ref b) ∧ Fr n0 L ∧ Keep h0 h [] ∧ h0.size ≤ b ∧ Arv Z h b kb .byte (1 : Int32) [.int (nar .byte (c0.toInt8.toInt32))] (.int (0 : Int32))
set_option maxRecDepth 65536 in
set_option maxHeartbeats 40000000 in
theorem rmL1c (l : Launch) (Z : State) (a0 : Array Value) (hw : ∀ d ∈ tables_1, d.before a0 Z = true) (ws : List Jvm.Cond) (cc : Addr) (kc : ClassId) (c0 : Int32) (h0 : Heap) (n0 : Nat) (Z0 : n0 ≤ h0.size) (Ac : Arv Z h0 cc kc .char (1 : Int32) [.int c0] (.int (0 : Int32))) (hp0 : ¬ (255 : Int32) < c0) :
    MetFree l (⟨"java/lang/StringUTF16", "compress", "([CII)[B"⟩ : MethodName) (head1 (Jvm.Cond.code (⟨"java/lang/StringUTF16", "compress", "([CII)[B"⟩ : MethodName) jdk_52_method_16_code 6 (some (.array .byte)) :: ws) ({ frames := 1, cells := 1, slots := 1, locals := 18 } : Room)) (fun a U => a = #[(.ref cc), (.int (0 : Int32)), (.int (1 : Int32))] ∧ Z.Warmed39 U.vm ∧ U.heap = h0) (fun _ _ _ _ _ => True) (fun _ U o U' => ∃ v L, o = .returned v ∧ own_QL1c Z c0 h0 n0 v U'.heap L ∧ FrameEnd U o U' L ({ frames := 1, cells := 1, slots := 1, locals := 18 } : Room).cells ({ frames := 1, cells := 1, slots := 1, locals := 18 } : Room).slots) := by
  refine MetFree.of_bodySF (plainFor_of_name pnL1c) hisR ?_
  intro p e s m args below meth c s₁ Bd hml0 hP hK
  obtain ⟨rfl, hZ, hh⟩ := hP
  have hx := Bd.exec
  have hby := Bd.bytes
  have hml : c.maxLocals = 6 := hml0
  have hown : s.vm.findClass "java/lang/StringUTF16" = some m.cls := findClass_of_methodNamed Bd.named
  have hnm := (name_of_methodNamed Bd.named Bd.method).1
  have hlk : meth.locks = false := Bd.notSynchronized
  have X0 : Stand p l e ({ frames := 1, cells := 1, slots := 1, locals := 18 } : Room) s m #[(.ref cc), (.int (0 : Int32)), (.int (1 : Int32))] below meth c s₁ [] 0 0 := Stand.of_body Bd
  have e0 : s₁.heap = h0 := by rw [← hh, Bd.state]; rfl
  have N0 := Fr.nil n0
  refine own_go (fun t k => castTop (efL1c m cc (0 : Int32) (1 : Int32)) k) ?_
  show own_Go p e below _ (s₁.setTop (mkF m 0 #[.val (.ref cc), .val (.int (0 : Int32)), .val (.int (1 : Int32)), .unset, .unset, .unset] []))
  refine own_go (fun t k => XS.iloadN X0.here hx rfl (hb hby dL1c_0) rfl k) ?_
  show own_Go p e below _ (s₁.setTop (mkF m 1 #[.val (.ref cc), .val (.int (0 : Int32)), .val (.int (1 : Int32)), .unset, .unset, .unset] [(.int (1 : Int32))]))
  obtain ⟨T1, h1, k1, X1, e1, E1, A1, st1⟩ := newP X0 hx hZ (hw _ (List.mem_of_getElem? (i := 19) rfl)) e0 (g := (mkF m 1 #[.val (.ref cc), .val (.int (0 : Int32)), .val (.int (1 : Int32)), .unset, .unset, .unset] [(.int (1 : Int32))])) rfl (hb hby dL1c_1) rfl (by decide) (cap := 1) (by decide) (by decide) (by decide) (by decide)
  obtain ⟨b1, g1⟩ : ∃ z, z = h0.size := ⟨_, rfl⟩
  rw [← g1] at A1 st1
  have g_b1 : n0 ≤ b1 := Nat.le_trans Z0 (Nat.le_of_eq g1.symm)
  have sz_b1 : h0.size ≤ b1 := Nat.le_trans (Keep.refl h0 []).1 (Nat.le_of_eq g1.symm)
  have ne_cc_b1 : cc ≠ b1 := Nat.ne_of_lt (Nat.lt_of_lt_of_le Ac.lt (Nat.le_of_eq g1.symm))
  have Ac__1 := Ac.ext E1
  have sz1 := Nat.le_trans Z0 E1.1
  have KP1 := (Keep.refl h0 []).ext E1
  have V1 : Arv Z h1 b1 k1 .byte (1 : Int32) [(.int (0 : Int32))] (.int (0 : Int32)) := (Arv.new A1 (by decide)).pad (pad_rep [] (.int (0 : Int32)) 1)
  refine own_go (fun t k => st1 t k) ?_
  show own_Go p e below _ (T1.setTop (mkF m 3 #[.val (.ref cc), .val (.int (0 : Int32)), .val (.int (1 : Int32)), .unset, .unset, .unset] [(.ref b1)]))
  refine own_go (fun t k => XS.astoreN X1.here hx rfl (hb hby dL1c_3) rfl rfl (l' := #[.val (.ref cc), .val (.int (0 : Int32)), .val (.int (1 : Int32)), .val (.ref b1), .unset, .unset]) rfl k) ?_
  show own_Go p e below _ (T1.setTop (mkF m 4 #[.val (.ref cc), .val (.int (0 : Int32)), .val (.int (1 : Int32)), .val (.ref b1), .unset, .unset] []))
  refine own_go (fun t k => XS.aloadN X1.here hx rfl (hb hby dL1c_4) rfl rfl k) ?_
  show own_Go p e below _ (T1.setTop (mkF m 5 #[.val (.ref cc), .val (.int (0 : Int32)), .val (.int (1 : Int32)), .val (.ref b1), .unset, .unset] [(.ref cc)]))
  refine own_go (fun t k => XS.iloadN X1.here hx rfl (hb hby dL1c_5) rfl k) ?_
  show own_Go p e below _ (T1.setTop (mkF m 6 #[.val (.ref cc), .val (.int (0 : Int32)), .val (.int (1 : Int32)), .val (.ref b1), .unset, .unset] [(.int (0 : Int32)), (.ref cc)]))
  refine own_go (fun t k => XS.aloadN X1.here hx rfl (hb hby dL1c_6) rfl rfl k) ?_
  show own_Go p e below _ (T1.setTop (mkF m 7 #[.val (.ref cc), .val (.int (0 : Int32)), .val (.int (1 : Int32)), .val (.ref b1), .unset, .unset] [(.ref b1), (.int (0 : Int32)), (.ref cc)]))
  refine own_go (fun t k => XS.iconst X1.here hx rfl (hb hby dL1c_7) k) ?_
  show own_Go p e below _ (T1.setTop (mkF m 8 #[.val (.ref cc), .val (.int (0 : Int32)), .val (.int (1 : Int32)), .val (.ref b1), .unset, .unset] [(.int (0 : Int32)), (.ref b1), (.int (0 : Int32)), (.ref cc)]))
  refine own_go (fun t k => XS.iloadN X1.here hx rfl (hb hby dL1c_8) rfl k) ?_
  show own_Go p e below _ (T1.setTop (mkF m 9 #[.val (.ref cc), .val (.int (0 : Int32)), .val (.int (1 : Int32)), .val (.ref b1), .unset, .unset] [(.int (1 : Int32)), (.int (0 : Int32)), (.ref b1), (.int (0 : Int32)), (.ref cc)]))
  obtain ⟨_, _, ⟨T2, L2, k2, n2⟩, -, X2, ⟨Lc2, hQ2, l2, y2, z2⟩, st2⟩ := Jvm.LawKit.callS X1 hx (y := (⟨"java/lang/StringUTF16", "compress", "([CI[BII)I"⟩ : MethodName)) hown (mvT hZ (hw _ (List.mem_of_getElem? (i := 52) rfl))) (mvT hZ (hw _ (List.mem_of_getElem? (i := 53) rfl))) (mvT hZ (hw _ (List.mem_of_getElem? (i := 50) rfl))) (mvT hZ (hw _ (List.mem_of_getElem? (i := 54) rfl))) (by decide) (backOf (W := 0) (rmL1b l Z a0 hw [] cc b1 kc k1 c0 h1 n0 sz1 Ac__1 V1 g_b1 ne_cc_b1 hp0) hZ (hw _ (List.mem_of_getElem? (i := 54) rfl)) (hw _ (List.mem_of_getElem? (i := 50) rfl)) (by decide) (by decide)) (g := (mkF m 9 #[.val (.ref cc), .val (.int (0 : Int32)), .val (.int (1 : Int32)), .val (.ref b1), .unset, .unset] [(.int (1 : Int32)), (.int (0 : Int32)), (.ref b1), (.int (0 : Int32)), (.ref cc)])) rfl (by rw [hml]; rfl) (argsL := [(.ref cc), (.int (0 : Int32)), (.ref b1), (.int (0 : Int32)), (.int (1 : Int32))]) (rest := []) (lenOf pdL1c_0 rfl) rfl (by show 2 * 0 + _ ≤ _; exact Nat.le_of_eq rfl) (hb hby dL1c_9) (fun _ _ => ⟨rfl, e1, (by decide : 0 + 1 + 0 ≤ _), (by decide : 0 + 1 + 0 ≤ _)⟩)
  dsimp only [Pt.U, Pt.locs, Pt.cells, Pt.slots] at X2 l2 y2 z2 st2 hQ2
  subst l2 y2 z2
  obtain ⟨rfl, Nq2, K2, A2⟩ := hQ2
  have N2 := Fr.app N0 Nq2
  refine own_go (fun t k => st2 t k) ?_
  have Ac__2 := Ac__1.keep K2 (ninS ne_cc_b1 nin0)
  have KP2 := KP1.trans K2 (allS (Or.inr sz_b1) all0)
  have sz2 := Nat.le_trans sz1 K2.1
  show own_Go p e below _ (T2.setTop (mkF m 12 #[.val (.ref cc), .val (.int (0 : Int32)), .val (.int (1 : Int32)), .val (.ref b1), .unset, .unset] [(.int (1 : Int32))]))
  refine own_go (fun t k => XS.istore X2.here hx rfl (hb hby dL1c_12) rfl (l' := #[.val (.ref cc), .val (.int (0 : Int32)), .val (.int (1 : Int32)), .val (.ref b1), .val (.int (1 : Int32)), .unset]) rfl k) ?_
  show own_Go p e below _ (T2.setTop (mkF m 14 #[.val (.ref cc), .val (.int (0 : Int32)), .val (.int (1 : Int32)), .val (.ref b1), .val (.int (1 : Int32)), .unset] []))
  refine own_go (fun t k => XS.iload X2.here hx rfl (hb hby dL1c_14) rfl k) ?_
  show own_Go p e below _ (T2.setTop (mkF m 16 #[.val (.ref cc), .val (.int (0 : Int32)), .val (.int (1 : Int32)), .val (.ref b1), .val (.int (1 : Int32)), .unset] [(.int (1 : Int32))]))
  refine own_go (fun t k => XS.iloadN X2.here hx rfl (hb hby dL1c_16) rfl k) ?_
  show own_Go p e below _ (T2.setTop (mkF m 17 #[.val (.ref cc), .val (.int (0 : Int32)), .val (.int (1 : Int32)), .val (.ref b1), .val (.int (1 : Int32)), .unset] [(.int (1 : Int32)), (.int (1 : Int32))]))
  refine own_go (fun t k => XS.icmpYes X2.here hx rfl (pc0 := 17) (pc' := 57) rfl (hb hby dL1c_17) rfl (teq (by decide : (1 : Int32) = (1 : Int32))).1 (by decide) (by decide) k) ?_
  show own_Go p e below _ (T2.setTop (mkF m 57 #[.val (.ref cc), .val (.int (0 : Int32)), .val (.int (1 : Int32)), .val (.ref b1), .val (.int (1 : Int32)), .unset] []))
  refine own_go (fun t k => XS.aloadN X2.here hx rfl (hb hby dL1c_57) rfl rfl k) ?_
  show own_Go p e below _ (T2.setTop (mkF m 58 #[.val (.ref cc), .val (.int (0 : Int32)), .val (.int (1 : Int32)), .val (.ref b1), .val (.int (1 : Int32)), .unset] [(.ref b1)]))
  exact own_retA X2 hx Bd.returns rfl rfl (hb hby dL1c_58) (⟨_, _, rfl, N2, KP2, sz_b1, A2⟩) (by decide) (by decide)
theorem dL1a_0 : decode jdk_52_method_15_code 0 = .ok (.iload_n 1, 1) := by decide +kernel
theorem dL1a_1 : decode jdk_52_method_15_code 1 = .ok (.aload_n 0, 1) := by decide +kernel
theorem dL1a_2 : decode jdk_52_method_15_code 2 = .ok (.arraylength, 1) := by decide +kernel
theorem dL1a_3 : decode jdk_52_method_15_code 3 = .ok (.isub, 1) := by decide +kernel
theorem dL1a_4 : decode jdk_52_method_15_code 4 = .ok (.bipush 31, 2) := by decide +kernel
theorem dL1a_6 : decode jdk_52_method_15_code 6 = .ok (.iushr, 1) := by decide +kernel
theorem dL1a_7 : decode jdk_52_method_15_code 7 = .ok (.i2b, 1) := by decide +kernel
theorem dL1a_8 : decode jdk_52_method_15_code 8 = .ok (.ireturn, 1) := by decide +kernel
theorem pnL1a : plainName "java/lang/StringUTF16" = true := by first | (simp [plainName, overriddenIn]; done) | decide +kernel
theorem efL1a (m : MethodId) (x0 : Addr) (x1 : Int32) : entryFrame m #[(.ref x0), (.int x1)] 2 = mkF m 0 #[.val (.ref x0), .val (.int x1)] [] := by first | (simp [entryFrame, mkF, argsToLocals, Value.category]; done) | rfl
def own_QL1a (h0 : Heap) (n0 : Nat) (v : Option Value) (h : Heap) (L : List Loc) : Prop := v = some (.int (0 : Int32)) ∧ Fr n0 L ∧ h = h0
set_option maxRecDepth 65536 in
set_option maxHeartbeats 40000000 in
theorem rmL1a (l : Launch) (Z : State) (a0 : Array Value) (hw : ∀ d ∈ tables_1, d.before a0 Z = true) (ws : List Jvm.Cond) (ot : Addr) (kt : ClassId) (x0 : Int32) (h0 : Heap) (n0 : Nat) (Z0 : n0 ≤ h0.size) (At : Arv Z h0 ot kt .byte (1 : Int32) [.int x0] (.int (0 : Int32))) :
    MetFree l (⟨"java/lang/StringUTF16", "coderFromArrayLen", "([BI)B"⟩ : MethodName) (head1 (Jvm.Cond.code (⟨"java/lang/StringUTF16", "coderFromArrayLen", "([BI)B"⟩ : MethodName) jdk_52_method_15_code 2 (some .byte) :: ws) ({ frames := 0, cells := 0, slots := 0, locals := 0 } : Room)) (fun a U => a = #[(.ref ot), (.int (1 : Int32))] ∧ Z.Warmed39 U.vm ∧ U.heap = h0) (fun _ _ _ _ _ => True) (fun _ U o U' => ∃ v L, o = .returned v ∧ own_QL1a h0 n0 v U'.heap L ∧ FrameEnd U o U' L ({ frames := 0, cells := 0, slots := 0, locals := 0 } : Room).cells ({ frames := 0, cells := 0, slots := 0, locals := 0 } : Room).slots) := by
  refine MetFree.of_bodySF (plainFor_of_name pnL1a) hisR ?_
  intro p e s m args below meth c s₁ Bd hml0 hP hK
  obtain ⟨rfl, hZ, hh⟩ := hP
  have hx := Bd.exec
  have hby := Bd.bytes
  have hml : c.maxLocals = 2 := hml0
  have hown : s.vm.findClass "java/lang/StringUTF16" = some m.cls := findClass_of_methodNamed Bd.named
  have hnm := (name_of_methodNamed Bd.named Bd.method).1
  have hlk : meth.locks = false := Bd.notSynchronized
  have X0 : Stand p l e ({ frames := 0, cells := 0, slots := 0, locals := 0 } : Room) s m #[(.ref ot), (.int (1 : Int32))] below meth c s₁ [] 0 0 := Stand.of_body Bd
  have e0 : s₁.heap = h0 := by rw [← hh, Bd.state]; rfl
  have N0 := Fr.nil n0
  refine own_go (fun t k => castTop (efL1a m ot (1 : Int32)) k) ?_
  show own_Go p e below _ (s₁.setTop (mkF m 0 #[.val (.ref ot), .val (.int (1 : Int32))] []))
  refine own_go (fun t k => XS.iloadN X0.here hx rfl (hb hby dL1a_0) rfl k) ?_
  show own_Go p e below _ (s₁.setTop (mkF m 1 #[.val (.ref ot), .val (.int (1 : Int32))] [(.int (1 : Int32))]))
  refine own_go (fun t k => XS.aloadN X0.here hx rfl (hb hby dL1a_1) rfl rfl k) ?_
  show own_Go p e below _ (s₁.setTop (mkF m 2 #[.val (.ref ot), .val (.int (1 : Int32))] [(.ref ot), (.int (1 : Int32))]))
  obtain ⟨cl1, Ar1, -, Sa1, Na1, -, -⟩ := id At
  have ln1 := len_of Sa1 Na1
  refine own_go (fun t k => X0.arraylength hx (by rw [e0]; exact Ar1.1) (State.isArrayOf_alike hZ.alike Ar1.2.1) (g := (mkF m 2 #[.val (.ref ot), .val (.int (1 : Int32))] [(.ref ot), (.int (1 : Int32))])) rfl rfl (hb hby dL1a_2) t (by rw [ln1]; exact k)) ?_
  show own_Go p e below _ (s₁.setTop (mkF m 3 #[.val (.ref ot), .val (.int (1 : Int32))] [(.int (1 : Int32)), (.int (1 : Int32))]))
  refine own_go (fun t k => XS.isub X0.here hx rfl (hb hby dL1a_3) rfl k) ?_
  show own_Go p e below _ (s₁.setTop (mkF m 4 #[.val (.ref ot), .val (.int (1 : Int32))] [(.int ((1 : Int32) - (1 : Int32)))]))
  refine own_go (fun t k => XS.bipush X0.here hx rfl (hb hby dL1a_4) k) ?_
  show own_Go p e below _ (s₁.setTop (mkF m 6 #[.val (.ref ot), .val (.int (1 : Int32))] [(.int (31 : Int32)), (.int ((1 : Int32) - (1 : Int32)))]))
  refine own_go (fun t k => XS.iushr X0.here hx rfl (hb hby dL1a_6) rfl k) ?_
  show own_Go p e below _ (s₁.setTop (mkF m 7 #[.val (.ref ot), .val (.int (1 : Int32))] [(.int ((((1 : Int32) - (1 : Int32)).toUInt32 >>> ((31 : Int32) &&& 31).toUInt32).toInt32))]))
  refine own_go (fun t k => XS.i2b X0.here hx rfl (hb hby dL1a_7) rfl k) ?_
  show own_Go p e below _ (s₁.setTop (mkF m 8 #[.val (.ref ot), .val (.int (1 : Int32))] [(.int (((((1 : Int32) - (1 : Int32)).toUInt32 >>> ((31 : Int32) &&& 31).toUInt32).toInt32).toInt8.toInt32))]))
  exact own_retN X0 hx (t := .byte) Bd.returns (by simp) (hb hby dL1a_8) (by rw [e0]; exact ⟨by decide, N0, rfl⟩) (by decide) (by decide)
theorem dL1d_0 : decode jdk_42_method_149_code 0 = .ok (.aload_n 0, 1) := by decide +kernel
theorem dL1d_1 : decode jdk_42_method_149_code 1 = .ok (.invokespecial 1, 3) := by decide +kernel
theorem dL1d_4 : decode jdk_42_method_149_code 4 = .ok (.iload_n 3, 1) := by decide +kernel
theorem dL1d_5 : decode jdk_42_method_149_code 5 = .ok (.ifCond .ne 22, 3) := by decide +kernel
theorem dL1d_27 : decode jdk_42_method_149_code 27 = .ok (.getstatic 38, 3) := by decide +kernel
theorem dL1d_30 : decode jdk_42_method_149_code 30 = .ok (.ifCond .eq 28, 3) := by decide +kernel
theorem dL1d_33 : decode jdk_42_method_149_code 33 = .ok (.aload_n 1, 1) := by decide +kernel
theorem dL1d_34 : decode jdk_42_method_149_code 34 = .ok (.iload_n 2, 1) := by decide +kernel
theorem dL1d_35 : decode jdk_42_method_149_code 35 = .ok (.iload_n 3, 1) := by decide +kernel
theorem dL1d_36 : decode jdk_42_method_149_code 36 = .ok (.invokestatic 177, 3) := by decide +kernel
theorem dL1d_39 : decode jdk_42_method_149_code 39 = .ok (.astore 5, 2) := by decide +kernel
theorem dL1d_41 : decode jdk_42_method_149_code 41 = .ok (.aload_n 0, 1) := by decide +kernel
theorem dL1d_42 : decode jdk_42_method_149_code 42 = .ok (.aload 5, 2) := by decide +kernel
theorem dL1d_44 : decode jdk_42_method_149_code 44 = .ok (.iload_n 3, 1) := by decide +kernel
theorem dL1d_45 : decode jdk_42_method_149_code 45 = .ok (.invokestatic 47, 3) := by decide +kernel
theorem dL1d_48 : decode jdk_42_method_149_code 48 = .ok (.putfield 15, 3) := by decide +kernel
theorem dL1d_51 : decode jdk_42_method_149_code 51 = .ok (.aload_n 0, 1) := by decide +kernel
theorem dL1d_52 : decode jdk_42_method_149_code 52 = .ok (.aload 5, 2) := by decide +kernel
theorem dL1d_54 : decode jdk_42_method_149_code 54 = .ok (.putfield 9, 3) := by decide +kernel
theorem dL1d_57 : decode jdk_42_method_149_code 57 = .ok (.return_, 1) := by decide +kernel
theorem pnL1d : plainName "java/lang/String" = true := by first | (simp [plainName, overriddenIn]; done) | decide +kernel
theorem pdL1d_0 : parseMethodDescriptor "([CII)[B" = some ⟨[(.array .char), .int, .int], some (.array .byte)⟩ := by decide +kernel
theorem pdL1d_1 : parseMethodDescriptor "([BI)B" = some ⟨[(.array .byte), .int], some .byte⟩ := by decide +kernel
theorem efL1d (m : MethodId) (x0 : Addr) (x1 : Addr) (x2 : Int32) (x3 : Int32) : entryFrame m #[(.ref x0), (.ref x1), (.int x2), (.int x3), .null] 6 = mkF m 0 #[.val (.ref x0), .val (.ref x1), .val (.int x2), .val (.int x3), .val .null, .unset] [] := by first | (simp [entryFrame, mkF, argsToLocals, Value.category]; done) | rfl
def own_QL1d (Z : State) (a : Addr) (c0 : Int32) (h0 : Heap) (n0 : Nat) (v : Option Value) (h : Heap) (L : List Loc) : Prop := v = none ∧ Fr n0 L ∧ Keep h0 h [a] ∧ Fld Z h a "java/lang/String" "coder" "B" (.int (0 : Int32)) ∧ ∃ (b : Addr) (kb : ClassId), h0.size ≤ b ∧ Fld Z h a "java/lang/String" "value" "[B" (.ref b) ∧ Arv Z h b kb .byte (1 : Int32) [.int (nar .byte (c0.toInt8.toInt32))] (.int (0 : Int32))
set_option maxRecDepth 65536 in
set_option maxHeartbeats 40000000 in
theorem rmL1d (l : Launch) (Z : State) (a0 : Array Value) (hw : ∀ d ∈ tables_1, d.before a0 Z = true) (ws : List Jvm.Cond) (oa cc : Addr) (kc : ClassId) (cs : Int32) (c0 : Int32) (h0 : Heap) (n0 : Nat) (Z0 : n0 ≤ h0.size) (Ea : Exa Z h0 oa "java/lang/String") (Fv : Fld Z h0 oa "java/lang/String" "value" "[B" .null) (Fc : Fld Z h0 oa "java/lang/String" "coder" "B" (.int (0 : Int32))) (g_oa : n0 ≤ oa) (ne_ca : cc ≠ oa) (Ac : Arv Z h0 cc kc .char (1 : Int32) [.int c0] (.int (0 : Int32))) (SC : Sta Z Z.heap "java/lang/String" "COMPACT_STRINGS" "Z" (.int cs)) (hcs : ¬ cs = 0) (XO : Old Z n0 h0) (hp0 : ¬ (255 : Int32) < c0) :
    MetFree l (⟨"java/lang/String", "<init>", "([CIILjava/lang/Void;)V"⟩ : MethodName) (head1 (Jvm.Cond.code (⟨"java/lang/String", "<init>", "([CIILjava/lang/Void;)V"⟩ : MethodName) jdk_42_method_149_code 6 none :: ws) ({ frames := 2, cells := 1, slots := 1, locals := 35 } : Room)) (fun a U => a = #[(.ref oa), (.ref cc), (.int (0 : Int32)), (.int (1 : Int32)), .null] ∧ Z.Warmed39 U.vm ∧ U.heap = h0) (fun _ _ _ _ _ => True) (fun _ U o U' => ∃ v L, o = .returned v ∧ own_QL1d Z oa c0 h0 n0 v U'.heap L ∧ FrameEnd U o U' L ({ frames := 2, cells := 1, slots := 1, locals := 35 } : Room).cells ({ frames := 2, cells := 1, slots := 1, locals := 35 } : Room).slots) := by
  refine MetFree.of_bodySF (plainFor_of_name pnL1d) hisR ?_
  intro p e s m args below meth c s₁ Bd hml0 hP hK
  obtain ⟨rfl, hZ, hh⟩ := hP
  have hx := Bd.exec
  have hby := Bd.bytes
  have hml : c.maxLocals = 6 := hml0
  have hown : s.vm.findClass "java/lang/String" = some m.cls := findClass_of_methodNamed Bd.named
  have hnm := (name_of_methodNamed Bd.named Bd.method).1
  have hlk : meth.locks = false := Bd.notSynchronized
  have X0 : Stand p l e ({ frames := 2, cells := 1, slots := 1, locals := 35 } : Room) s m #[(.ref oa), (.ref cc), (.int (0 : Int32)), (.int (1 : Int32)), .null] below meth c s₁ [] 0 0 := Stand.of_body Bd
  have e0 : s₁.heap = h0 := by rw [← hh, Bd.state]; rfl
  have N0 := Fr.nil n0
  refine own_go (fun t k => castTop (efL1d m oa cc (0 : Int32) (1 : Int32)) k) ?_
  show own_Go p e below _ (s₁.setTop (mkF m 0 #[.val (.ref oa), .val (.ref cc), .val (.int (0 : Int32)), .val (.int (1 : Int32)), .val .null, .unset] []))
  refine own_go (fun t k => XS.aloadN X0.here hx rfl (hb hby dL1d_0) rfl rfl k) ?_
  show own_Go p e below _ (s₁.setTop (mkF m 1 #[.val (.ref oa), .val (.ref cc), .val (.int (0 : Int32)), .val (.int (1 : Int32)), .val .null, .unset] [(.ref oa)]))
  obtain ⟨T2, X2, e2, st2⟩ := initO X0 hx hZ hown (hw _ (List.mem_of_getElem? (i := 15) rfl)) (hw _ (List.mem_of_getElem? (i := 16) rfl)) (hw _ (List.mem_of_getElem? (i := 17) rfl)) e0 (g := (mkF m 1 #[.val (.ref oa), .val (.ref cc), .val (.int (0 : Int32)), .val (.int (1 : Int32)), .val .null, .unset] [(.ref oa)])) rfl (by rw [hml]; rfl) rfl (hb hby dL1d_1) (by decide) (W := 0) (by show 2 * 0 + _ ≤ _; exact Nat.le_of_eq rfl) (by decide)
  refine own_go (fun t k => st2 t k) ?_
  show own_Go p e below _ (T2.setTop (mkF m 4 #[.val (.ref oa), .val (.ref cc), .val (.int (0 : Int32)), .val (.int (1 : Int32)), .val .null, .unset] []))
  refine own_go (fun t k => XS.iloadN X2.here hx rfl (hb hby dL1d_4) rfl k) ?_
  show own_Go p e below _ (T2.setTop (mkF m 5 #[.val (.ref oa), .val (.ref cc), .val (.int (0 : Int32)), .val (.int (1 : Int32)), .val .null, .unset] [(.int (1 : Int32))]))
  refine own_go (fun t k => XS.ifYes X2.here hx rfl (pc0 := 5) (pc' := 27) rfl (hb hby dL1d_5) rfl ((if0 _ _).trans (feq (by decide : ¬ ((1 : Int32) = (0 : Int32)))).2) (by decide) (by decide) k) ?_
  show own_Go p e below _ (T2.setTop (mkF m 27 #[.val (.ref oa), .val (.ref cc), .val (.int (0 : Int32)), .val (.int (1 : Int32)), .val .null, .unset] []))
  obtain ⟨T3, X3, e3, st3⟩ := getS2 X2 hx hZ hown (host := "") (Or.inl (hw _ (List.mem_of_getElem? (i := 37) rfl))) Via.refl e2 (SC.ext XO.2) (g := (mkF m 27 #[.val (.ref oa), .val (.ref cc), .val (.int (0 : Int32)), .val (.int (1 : Int32)), .val .null, .unset] [])) rfl (hb hby dL1d_27)
  refine own_go (fun t k => st3 t k) ?_
  show own_Go p e below _ (T3.setTop (mkF m 30 #[.val (.ref oa), .val (.ref cc), .val (.int (0 : Int32)), .val (.int (1 : Int32)), .val .null, .unset] [(.int cs)]))
  refine own_go (fun t k => XS.ifNo X3.here hx rfl (hb hby dL1d_30) rfl ((if0 _ _).trans (feq hcs).1) k) ?_
  show own_Go p e below _ (T3.setTop (mkF m 33 #[.val (.ref oa), .val (.ref cc), .val (.int (0 : Int32)), .val (.int (1 : Int32)), .val .null, .unset] []))
  refine own_go (fun t k => XS.aloadN X3.here hx rfl (hb hby dL1d_33) rfl rfl k) ?_
  show own_Go p e below _ (T3.setTop (mkF m 34 #[.val (.ref oa), .val (.ref cc), .val (.int (0 : Int32)), .val (.int (1 : Int32)), .val .null, .unset] [(.ref cc)]))
  refine own_go (fun t k => XS.iloadN X3.here hx rfl (hb hby dL1d_34) rfl k) ?_
  show own_Go p e below _ (T3.setTop (mkF m 35 #[.val (.ref oa), .val (.ref cc), .val (.int (0 : Int32)), .val (.int (1 : Int32)), .val .null, .unset] [(.int (0 : Int32)), (.ref cc)]))
  refine own_go (fun t k => XS.iloadN X3.here hx rfl (hb hby dL1d_35) rfl k) ?_
  show own_Go p e below _ (T3.setTop (mkF m 36 #[.val (.ref oa), .val (.ref cc), .val (.int (0 : Int32)), .val (.int (1 : Int32)), .val .null, .unset] [(.int (1 : Int32)), (.int (0 : Int32)), (.ref cc)]))
  obtain ⟨_, _, ⟨T4, L4, k4, n4⟩, -, X4, ⟨Lc4, hQ4, l4, y4, z4⟩, st4⟩ := Jvm.LawKit.callS X3 hx (y := (⟨"java/lang/StringUTF16", "compress", "([CII)[B"⟩ : MethodName)) hown (mvT hZ (hw _ (List.mem_of_getElem? (i := 48) rfl))) (mvT hZ (hw _ (List.mem_of_getElem? (i := 49) rfl))) (mvT hZ (hw _ (List.mem_of_getElem? (i := 50) rfl))) (mvT hZ (hw _ (List.mem_of_getElem? (i := 51) rfl))) (by decide) (backOf (W := 0) (rmL1c l Z a0 hw [] cc kc c0 h0 n0 Z0 Ac hp0) hZ (hw _ (List.mem_of_getElem? (i := 51) rfl)) (hw _ (List.mem_of_getElem? (i := 50) rfl)) (by decide) (by decide)) (g := (mkF m 36 #[.val (.ref oa), .val (.ref cc), .val (.int (0 : Int32)), .val (.int (1 : Int32)), .val .null, .unset] [(.int (1 : Int32)), (.int (0 : Int32)), (.ref cc)])) rfl (by rw [hml]; rfl) (argsL := [(.ref cc), (.int (0 : Int32)), (.int (1 : Int32))]) (rest := []) (lenOf pdL1d_0 rfl) rfl (by show 2 * 0 + _ ≤ _; exact Nat.le_of_eq rfl) (hb hby dL1d_36) (fun _ _ => ⟨rfl, e3, (by decide : 0 + 1 ≤ _), (by decide : 0 + 1 ≤ _)⟩)
  dsimp only [Pt.U, Pt.locs, Pt.cells, Pt.slots] at X4 l4 y4 z4 st4 hQ4
  subst l4 y4 z4
  obtain ⟨d4, kd4, rfl, Nq4, K4, ge4, A4⟩ := hQ4
  have N4 := Fr.app N0 Nq4
  refine own_go (fun t k => st4 t k) ?_
  have g_d4 : n0 ≤ d4 := Nat.le_trans Z0 ge4
  have sz_d4 : h0.size ≤ d4 := Nat.le_trans (Keep.refl h0 [oa]).1 ge4
  have ne_oa_d4 : oa ≠ d4 := Nat.ne_of_lt (Nat.lt_of_lt_of_le Ea.lt ge4)
  have ne_cc_d4 : cc ≠ d4 := Nat.ne_of_lt (Nat.lt_of_lt_of_le Ac.lt ge4)
  have Ea__4 := Ea.keep K4
  have Fv__4 := Fv.keep K4 nin0
  have Fc__4 := Fc.keep K4 nin0
  have Ac__4 := Ac.keep K4 nin0
  have XO__4 := XO.keep K4 all0
  have KP4 := (Keep.refl h0 [oa]).trans K4 all0
  have sz4 := Nat.le_trans Z0 K4.1
  show own_Go p e below _ (T4.setTop (mkF m 39 #[.val (.ref oa), .val (.ref cc), .val (.int (0 : Int32)), .val (.int (1 : Int32)), .val .null, .unset] [(.ref d4)]))
  refine own_go (fun t k => XS.astore X4.here hx rfl (hb hby dL1d_39) rfl rfl (l' := #[.val (.ref oa), .val (.ref cc), .val (.int (0 : Int32)), .val (.int (1 : Int32)), .val .null, .val (.ref d4)]) rfl k) ?_
  show own_Go p e below _ (T4.setTop (mkF m 41 #[.val (.ref oa), .val (.ref cc), .val (.int (0 : Int32)), .val (.int (1 : Int32)), .val .null, .val (.ref d4)] []))
  refine own_go (fun t k => XS.aloadN X4.here hx rfl (hb hby dL1d_41) rfl rfl k) ?_
  show own_Go p e below _ (T4.setTop (mkF m 42 #[.val (.ref oa), .val (.ref cc), .val (.int (0 : Int32)), .val (.int (1 : Int32)), .val .null, .val (.ref d4)] [(.ref oa)]))
  refine own_go (fun t k => XS.aload X4.here hx rfl (hb hby dL1d_42) rfl rfl k) ?_
  show own_Go p e below _ (T4.setTop (mkF m 44 #[.val (.ref oa), .val (.ref cc), .val (.int (0 : Int32)), .val (.int (1 : Int32)), .val .null, .val (.ref d4)] [(.ref d4), (.ref oa)]))
  refine own_go (fun t k => XS.iloadN X4.here hx rfl (hb hby dL1d_44) rfl k) ?_
  show own_Go p e below _ (T4.setTop (mkF m 45 #[.val (.ref oa), .val (.ref cc), .val (.int (0 : Int32)), .val (.int (1 : Int32)), .val .null, .val (.ref d4)] [(.int (1 : Int32)), (.ref d4), (.ref oa)]))
  obtain ⟨_, _, ⟨T5, L5, k5, n5⟩, -, X5, ⟨Lc5, hQ5, l5, y5, z5⟩, st5⟩ := Jvm.LawKit.callS X4 hx (y := (⟨"java/lang/StringUTF16", "coderFromArrayLen", "([BI)B"⟩ : MethodName)) hown (mvT hZ (hw _ (List.mem_of_getElem? (i := 55) rfl))) (mvT hZ (hw _ (List.mem_of_getElem? (i := 56) rfl))) (mvT hZ (hw _ (List.mem_of_getElem? (i := 50) rfl))) (mvT hZ (hw _ (List.mem_of_getElem? (i := 57) rfl))) (by decide) (backOf (W := 1) (rmL1a l Z a0 hw [] d4 kd4 (nar .byte (c0.toInt8.toInt32)) T4.heap n0 sz4 A4) hZ (hw _ (List.mem_of_getElem? (i := 57) rfl)) (hw _ (List.mem_of_getElem? (i := 50) rfl)) (by decide) (by decide)) (g := (mkF m 45 #[.val (.ref oa), .val (.ref cc), .val (.int (0 : Int32)), .val (.int (1 : Int32)), .val .null, .val (.ref d4)] [(.int (1 : Int32)), (.ref d4), (.ref oa)])) rfl (by rw [hml]; rfl) (argsL := [(.ref d4), (.int (1 : Int32))]) (rest := [(.ref oa)]) (lenOf pdL1d_1 rfl) rfl (by show 2 * 0 + _ ≤ _; exact Nat.le_of_eq rfl) (hb hby dL1d_45) (fun _ _ => ⟨rfl, rfl, (by decide : 0 + 1 + 0 ≤ _), (by decide : 0 + 1 + 0 ≤ _)⟩)
  dsimp only [Pt.U, Pt.locs, Pt.cells, Pt.slots] at X5 l5 y5 z5 st5 hQ5
  subst l5 y5 z5
  obtain ⟨rfl, Nq5, e5⟩ := hQ5
  have N5 := Fr.app N4 Nq5
  refine own_go (fun t k => st5 t k) ?_
  show own_Go p e below _ (T5.setTop (mkF m 48 #[.val (.ref oa), .val (.ref cc), .val (.int (0 : Int32)), .val (.int (1 : Int32)), .val .null, .val (.ref d4)] [(.int (0 : Int32)), (.ref oa)]))
  obtain ⟨T6, h6, X6, e6, W6, st6⟩ := putF X5 hx hZ hown (host := "") (Or.inl (hw _ (List.mem_of_getElem? (i := 25) rfl))) Via.refl e5 Fc__4 Ea__4 (Or.inr ⟨(hw _ (List.mem_of_getElem? (i := 21) rfl)), rfl, hnm⟩) (hw _ (List.mem_of_getElem? (i := 6) rfl)) (ty := .byte) (by decide) rfl rfl (g := (mkF m 48 #[.val (.ref oa), .val (.ref cc), .val (.int (0 : Int32)), .val (.int (1 : Int32)), .val .null, .val (.ref d4)] [(.int (0 : Int32)), (.ref oa)])) rfl rfl (hb hby dL1d_48)
  have Fw6 := Fc__4.same W6
  have Ea__6 := Ea__4.wr W6
  have Fv__6 := Fv__4.other W6 (Or.inr (slot_ne (Or.inr (hw _ (List.mem_of_getElem? (i := 20) rfl))) (Or.inr (hw _ (List.mem_of_getElem? (i := 21) rfl))) (by decide) (t := (.array .byte)) (t' := .byte) (by decide) (by decide)))
  have Ac__6 := Ac__4.other W6 ne_ca
  have XO__6 := XO__4.wr W6 g_oa
  have A4__6 := A4.other W6 (Ne.symm ne_oa_d4)
  have N6 := Fr.snoc X6 N5 g_oa
  have KP6 := KP4.wr W6 (Or.inl (List.mem_of_getElem? (i := 0) rfl))
  have sz6 := Nat.le_trans sz4 (Keep.of_wr W6).1
  refine own_go (fun t k => st6 t k) ?_
  show own_Go p e below _ (T6.setTop (mkF m 51 #[.val (.ref oa), .val (.ref cc), .val (.int (0 : Int32)), .val (.int (1 : Int32)), .val .null, .val (.ref d4)] []))
  refine own_go (fun t k => XS.aloadN X6.here hx rfl (hb hby dL1d_51) rfl rfl k) ?_
  show own_Go p e below _ (T6.setTop (mkF m 52 #[.val (.ref oa), .val (.ref cc), .val (.int (0 : Int32)), .val (.int (1 : Int32)), .val .null, .val (.ref d4)] [(.ref oa)]))
  refine own_go (fun t k => XS.aload X6.here hx rfl (hb hby dL1d_52) rfl rfl k) ?_
  show own_Go p e below _ (T6.setTop (mkF m 54 #[.val (.ref oa), .val (.ref cc), .val (.int (0 : Int32)), .val (.int (1 : Int32)), .val .null, .val (.ref d4)] [(.ref d4), (.ref oa)]))
  obtain ⟨T7, h7, X7, e7, W7, st7⟩ := putF X6 hx hZ hown (host := "") (Or.inl (hw _ (List.mem_of_getElem? (i := 24) rfl))) Via.refl e6 Fv__6 Ea__6 (Or.inr ⟨(hw _ (List.mem_of_getElem? (i := 20) rfl)), rfl, hnm⟩) (hw _ (List.mem_of_getElem? (i := 6) rfl)) (ty := (.array .byte)) (by decide) rfl rfl (g := (mkF m 54 #[.val (.ref oa), .val (.ref cc), .val (.int (0 : Int32)), .val (.int (1 : Int32)), .val .null, .val (.ref d4)] [(.ref d4), (.ref oa)])) rfl rfl (hb hby dL1d_54)
  have Fw7 := Fv__6.same W7
  have Ea__7 := Ea__6.wr W7
  have Fw6__7 := Fw6.other W7 (Or.inr (slot_ne (Or.inr (hw _ (List.mem_of_getElem? (i := 21) rfl))) (Or.inr (hw _ (List.mem_of_getElem? (i := 20) rfl))) (by decide) (t := .byte) (t' := (.array .byte)) (by decide) (by decide)))
  have Ac__7 := Ac__6.other W7 ne_ca
  have XO__7 := XO__6.wr W7 g_oa
  have A4__7 := A4__6.other W7 (Ne.symm ne_oa_d4)
  have N7 := Fr.snoc X7 N6 g_oa
  have KP7 := KP6.wr W7 (Or.inl (List.mem_of_getElem? (i := 0) rfl))
  have sz7 := Nat.le_trans sz6 (Keep.of_wr W7).1
  refine own_go (fun t k => st7 t k) ?_
  show own_Go p e below _ (T7.setTop (mkF m 57 #[.val (.ref oa), .val (.ref cc), .val (.int (0 : Int32)), .val (.int (1 : Int32)), .val .null, .val (.ref d4)] []))
  exact own_ret0 X7 hx Bd.returns (hb hby dL1d_57) (by rw [e7]; exact ⟨rfl, N7, KP7, Fw6__7, _, _, sz_d4, Fw7, A4__7⟩) (by decide) (by decide)
theorem dL1e_0 : decode jdk_42_method_3_code 0 = .ok (.aload_n 0, 1) := by decide +kernel
theorem dL1e_1 : decode jdk_42_method_3_code 1 = .ok (.aload_n 1, 1) := by decide +kernel
theorem dL1e_2 : decode jdk_42_method_3_code 2 = .ok (.iconst 0, 1) := by decide +kernel
theorem dL1e_3 : decode jdk_42_method_3_code 3 = .ok (.aload_n 1, 1) := by decide +kernel
theorem dL1e_4 : decode jdk_42_method_3_code 4 = .ok (.arraylength, 1) := by decide +kernel
theorem dL1e_5 : decode jdk_42_method_3_code 5 = .ok (.aconst_null, 1) := by decide +kernel
theorem dL1e_6 : decode jdk_42_method_3_code 6 = .ok (.invokespecial 27, 3) := by decide +kernel
theorem dL1e_9 : decode jdk_42_method_3_code 9 = .ok (.return_, 1) := by decide +kernel
theorem pnL1e : plainName "java/lang/String" = true := by first | (simp [plainName, overriddenIn]; done) | decide +kernel
theorem pdL1e_0 : parseMethodDescriptor "([CIILjava/lang/Void;)V" = some ⟨[(.array .char), .int, .int, (.object "java/lang/Void")], none⟩ := by decide +kernel
theorem efL1e (m : MethodId) (x0 : Addr) (x1 : Addr) : entryFrame m #[(.ref x0), (.ref x1)] 2 = mkF m 0 #[.val (.ref x0), .val (.ref x1)] [] := by first | (simp [entryFrame, mkF, argsToLocals, Value.category]; done) | rfl
set_option maxRecDepth 65536 in
set_option maxHeartbeats 40000000 in
theorem rmL1e (l : Launch) (Z : State) (a0 : Array Value) (hw : ∀ d ∈ tables_1, d.before a0 Z = true) (ws : List Jvm.Cond) (oa cc : Addr) (kc : ClassId) (cs : Int32) (c0 : Int32) (h0 : Heap) (n0 : Nat) (Z0 : n0 ≤ h0.size) (Ea : Exa Z h0 oa "java/lang/String") (Fv : Fld Z h0 oa "java/lang/String" "value" "[B" .null) (Fc : Fld Z h0 oa "java/lang/String" "coder" "B" (.int (0 : Int32))) (g_oa : n0 ≤ oa) (ne_ca : cc ≠ oa) (Ac : Arv Z h0 cc kc .char (1 : Int32) [.int c0] (.int (0 : Int32))) (SC : Sta Z Z.heap "java/lang/String" "COMPACT_STRINGS" "Z" (.int cs)) (hcs : ¬ cs = 0) (XO : Old Z n0 h0) (hp0 : ¬ (255 : Int32) < c0) :
    MetFree l (⟨"java/lang/String", "<init>", "([C)V"⟩ : MethodName) (head1 (Jvm.Cond.code (⟨"java/lang/String", "<init>", "([C)V"⟩ : MethodName) jdk_42_method_3_code 2 none :: ws) ({ frames := 3, cells := 1, slots := 1, locals := 52 } : Room)) (fun a U => a = #[(.ref oa), (.ref cc)] ∧ Z.Warmed39 U.vm ∧ U.heap = h0) (fun _ _ _ _ _ => True) (fun _ U o U' => ∃ v L, o = .returned v ∧ own_QL1d Z oa c0 h0 n0 v U'.heap L ∧ FrameEnd U o U' L ({ frames := 3, cells := 1, slots := 1, locals := 52 } : Room).cells ({ frames := 3, cells := 1, slots := 1, locals := 52 } : Room).slots) := by
  refine MetFree.of_bodySF (plainFor_of_name pnL1e) hisR ?_
  intro p e s m args below meth c s₁ Bd hml0 hP hK
  obtain ⟨rfl, hZ, hh⟩ := hP
  have hx := Bd.exec
  have hby := Bd.bytes
  have hml : c.maxLocals = 2 := hml0
  have hown : s.vm.findClass "java/lang/String" = some m.cls := findClass_of_methodNamed Bd.named
  have hnm := (name_of_methodNamed Bd.named Bd.method).1
  have hlk : meth.locks = false := Bd.notSynchronized
  have X0 : Stand p l e ({ frames := 3, cells := 1, slots := 1, locals := 52 } : Room) s m #[(.ref oa), (.ref cc)] below meth c s₁ [] 0 0 := Stand.of_body Bd
  have e0 : s₁.heap = h0 := by rw [← hh, Bd.state]; rfl
  have N0 := Fr.nil n0
  refine own_go (fun t k => castTop (efL1e m oa cc) k) ?_
  show own_Go p e below _ (s₁.setTop (mkF m 0 #[.val (.ref oa), .val (.ref cc)] []))
  refine own_go (fun t k => XS.aloadN X0.here hx rfl (hb hby dL1e_0) rfl rfl k) ?_
  show own_Go p e below _ (s₁.setTop (mkF m 1 #[.val (.ref oa), .val (.ref cc)] [(.ref oa)]))
  refine own_go (fun t k => XS.aloadN X0.here hx rfl (hb hby dL1e_1) rfl rfl k) ?_
  show own_Go p e below _ (s₁.setTop (mkF m 2 #[.val (.ref oa), .val (.ref cc)] [(.ref cc), (.ref oa)]))
  refine own_go (fun t k => XS.iconst X0.here hx rfl (hb hby dL1e_2) k) ?_
  show own_Go p e below _ (s₁.setTop (mkF m 3 #[.val (.ref oa), .val (.ref cc)] [(.int (0 : Int32)), (.ref cc), (.ref oa)]))
  refine own_go (fun t k => XS.aloadN X0.here hx rfl (hb hby dL1e_3) rfl rfl k) ?_
  show own_Go p e below _ (s₁.setTop (mkF m 4 #[.val (.ref oa), .val (.ref cc)] [(.ref cc), (.int (0 : Int32)), (.ref cc), (.ref oa)]))
  obtain ⟨cl1, Ar1, -, Sa1, Na1, -, -⟩ := id Ac
  have ln1 := len_of Sa1 Na1
  refine own_go (fun t k => X0.arraylength hx (by rw [e0]; exact Ar1.1) (State.isArrayOf_alike hZ.alike Ar1.2.1) (g := (mkF m 4 #[.val (.ref oa), .val (.ref cc)] [(.ref cc), (.int (0 : Int32)), (.ref cc), (.ref oa)])) rfl rfl (hb hby dL1e_4) t (by rw [ln1]; exact k)) ?_
  show own_Go p e below _ (s₁.setTop (mkF m 5 #[.val (.ref oa), .val (.ref cc)] [(.int (1 : Int32)), (.int (0 : Int32)), (.ref cc), (.ref oa)]))
  refine own_go (fun t k => XS.aconstNull X0.here hx rfl (hb hby dL1e_5) k) ?_
  show own_Go p e below _ (s₁.setTop (mkF m 6 #[.val (.ref oa), .val (.ref cc)] [.null, (.int (1 : Int32)), (.int (0 : Int32)), (.ref cc), (.ref oa)]))
  obtain ⟨_, _, ⟨T2, L2, k2, n2⟩, -, X2, ⟨Lc2, hQ2, l2, y2, z2⟩, st2⟩ := X0.specialBack hx (y := (⟨"java/lang/String", "<init>", "([CIILjava/lang/Void;)V"⟩ : MethodName)) rfl hown (mvT hZ (hw _ (List.mem_of_getElem? (i := 11) rfl))) (mvT hZ (hw _ (List.mem_of_getElem? (i := 12) rfl))) (mvT hZ (hw _ (List.mem_of_getElem? (i := 14) rfl))) (by decide) (backOf (W := 0) (rmL1d l Z a0 hw [] oa cc kc cs c0 h0 n0 Z0 Ea Fv Fc g_oa ne_ca Ac SC hcs XO hp0) hZ (hw _ (List.mem_of_getElem? (i := 14) rfl)) (hw _ (List.mem_of_getElem? (i := 7) rfl)) (by decide) (by decide)) (g := (mkF m 6 #[.val (.ref oa), .val (.ref cc)] [.null, (.int (1 : Int32)), (.int (0 : Int32)), (.ref cc), (.ref oa)])) rfl (by rw [hml]; rfl) (Steps.refl _) (a := oa) (argsL := [(.ref cc), (.int (0 : Int32)), (.int (1 : Int32)), .null]) (rest := []) (lenOf pdL1e_0 rfl) rfl (by show 2 * 0 + _ ≤ _; exact Nat.le_of_eq rfl) (hb hby dL1e_6) (fun _ _ => ⟨rfl, e0, (by decide : 0 + 1 ≤ _), (by decide : 0 + 1 ≤ _)⟩)
  dsimp only [Pt.U, Pt.locs, Pt.cells, Pt.slots] at X2 l2 y2 z2 st2 hQ2
  subst l2 y2 z2
  obtain ⟨rfl, Nq2, K2, Fc2, d2, kd2, ge2, Fv2, A2⟩ := hQ2
  have N2 := Fr.app N0 Nq2
  refine own_go (fun t k => st2.trans k) ?_
  have g_d2 : n0 ≤ d2 := Nat.le_trans Z0 ge2
  have sz_d2 : h0.size ≤ d2 := Nat.le_trans (Keep.refl h0 [oa]).1 ge2
  have ne_oa_d2 : oa ≠ d2 := Nat.ne_of_lt (Nat.lt_of_lt_of_le Ea.lt ge2)
  have ne_cc_d2 : cc ≠ d2 := Nat.ne_of_lt (Nat.lt_of_lt_of_le Ac.lt ge2)
  have Ea__2 := Ea.keep K2
  have Ac__2 := Ac.keep K2 (ninS ne_ca nin0)
  have XO__2 := XO.keep K2 (allS g_oa all0)
  have KP2 := (Keep.refl h0 [oa]).trans K2 (allS (Or.inl (List.mem_of_getElem? (i := 0) rfl)) all0)
  have sz2 := Nat.le_trans Z0 K2.1
  show own_Go p e below _ (T2.setTop (mkF m 9 #[.val (.ref oa), .val (.ref cc)] []))
  exact own_ret0 X2 hx Bd.returns (hb hby dL1e_9) (⟨rfl, N2, KP2, Fc2, _, _, sz_d2, Fv2, A2⟩) (by decide) (by decide)
theorem dL2b_0 : decode jdk_52_method_21_code 0 = .ok (.iconst 0, 1) := by decide +kernel
theorem dL2b_1 : decode jdk_52_method_21_code 1 = .ok (.istore 5, 2) := by decide +kernel
theorem dL2b_3 : decode jdk_52_method_21_code 3 = .ok (.iload 5, 2) := by decide +kernel
theorem dL2b_5 : decode jdk_52_method_21_code 5 = .ok (.iload 4, 2) := by decide +kernel
theorem dL2b_7 : decode jdk_52_method_21_code 7 = .ok (.if_icmp .ge 37, 3) := by decide +kernel
theorem dL2b_10 : decode jdk_52_method_21_code 10 = .ok (.aload_n 0, 1) := by decide +kernel
theorem dL2b_11 : decode jdk_52_method_21_code 11 = .ok (.iload_n 1, 1) := by decide +kernel
theorem dL2b_12 : decode jdk_52_method_21_code 12 = .ok (.caload, 1) := by decide +kernel
theorem dL2b_13 : decode jdk_52_method_21_code 13 = .ok (.istore 6, 2) := by decide +kernel
theorem dL2b_15 : decode jdk_52_method_21_code 15 = .ok (.iload 6, 2) := by decide +kernel
theorem dL2b_17 : decode jdk_52_method_21_code 17 = .ok (.sipush 255, 3) := by decide +kernel
theorem dL2b_20 : decode jdk_52_method_21_code 20 = .ok (.if_icmp .le 6, 3) := by decide +kernel
theorem dL2b_26 : decode jdk_52_method_21_code 26 = .ok (.aload_n 2, 1) := by decide +kernel
theorem dL2b_27 : decode jdk_52_method_21_code 27 = .ok (.iload_n 3, 1) := by decide +kernel
theorem dL2b_28 : decode jdk_52_method_21_code 28 = .ok (.iload 6, 2) := by decide +kernel
theorem dL2b_30 : decode jdk_52_method_21_code 30 = .ok (.i2b, 1) := by decide +kernel
theorem dL2b_31 : decode jdk_52_method_21_code 31 = .ok (.bastore, 1) := by decide +kernel
theorem dL2b_32 : decode jdk_52_method_21_code 32 = .ok (.iinc 1 1, 3) := by decide +kernel
theorem dL2b_35 : decode jdk_52_method_21_code 35 = .ok (.iinc 3 1, 3) := by decide +kernel
theorem dL2b_38 : decode jdk_52_method_21_code 38 = .ok (.iinc 5 1, 3) := by decide +kernel
theorem dL2b_41 : decode jdk_52_method_21_code 41 = .ok (.goto (-38), 3) := by decide +kernel
theorem dL2b_44 : decode jdk_52_method_21_code 44 = .ok (.iload 4, 2) := by decide +kernel
theorem dL2b_46 : decode jdk_52_method_21_code 46 = .ok (.ireturn, 1) := by decide +kernel
theorem pnL2b : plainName "java/lang/StringUTF16" = true := by first | (simp [plainName, overriddenIn]; done) | decide +kernel
theorem efL2b (m : MethodId) (x0 : Addr) (x1 : Int32) (x2 : Addr) (x3 : Int32) (x4 : Int32) : entryFrame m #[(.ref x0), (.int x3), (.ref x2), (.int x3), (.int x4)] 7 = mkF m 0 #[.val (.ref x0), .val (.int x3), .val (.ref x2), .val (.int x3), .val (.int x4), .unset, .unset] [] := by first | (simp [entryFrame, mkF, argsToLocals, Value.category]; done) | rfl
def own_QL2b (Z : State) (u : Addr) (ku : ClassId) (c0 c1 : Int32) (h0 : Heap) (n0 : Nat) (v : Option Value) (h : Heap) (L : List Loc) : Prop := v = some (.int (2 : Int32)) ∧ Fr n0 L ∧ Keep h0 h [u] ∧ Arv Z h u ku .byte (2 : Int32) [.int (nar .byte (c0.toInt8.toInt32)), .int (nar .byte (c1.toInt8.toInt32))] (.int (0 : Int32))
set_option maxRecDepth 65536 in
set_option maxHeartbeats 40000000 in
theorem rmL2b (l : Launch) (Z : State) (a0 : Array Value) (hw : ∀ d ∈ tables_1, d.before a0 Z = true) (ws : List Jvm.Cond) (cc u : Addr) (kc ku : ClassId) (c0 c1 : Int32) (h0 : Heap) (n0 : Nat) (Z0 : n0 ≤ h0.size) (Ac : Arv Z h0 cc kc .char (2 : Int32) [.int c0, .int c1] (.int (0 : Int32))) (Au : Arv Z h0 u ku .byte (2 : Int32) [.int (0 : Int32), .int (0 : Int32)] (.int (0 : Int32))) (g_u : n0 ≤ u) (ne_cu : cc ≠ u) (hp0 : ¬ (255 : Int32) < c0) (hp1 : ¬ (255 : Int32) < c1) :
    MetFree l (⟨"java/lang/StringUTF16", "compress", "([CI[BII)I"⟩ : MethodName) (head1 (Jvm.Cond.code (⟨"java/lang/StringUTF16", "compress", "([CI[BII)I"⟩ : MethodName) jdk_52_method_21_code 7 (some .int) :: ws) ({ frames := 0, cells := 0, slots := 0, locals := 0 } : Room)) (fun a U => a = #[(.ref cc), (.int (0 : Int32)), (.ref u), (.int (0 : Int32)), (.int (2 : Int32))] ∧ Z.Warmed39 U.vm ∧ U.heap = h0) (fun _ _ _ _ _ => True) (fun _ U o U' => ∃ v L, o = .returned v ∧ own_QL2b Z u ku c0 c1 h0 n0 v U'.heap L ∧ FrameEnd U o U' L ({ frames := 0, cells := 0, slots := 0, locals := 0 } : Room).cells ({ frames := 0, cells := 0, slots := 0, locals := 0 } : Room).slots) := by
  refine MetFree.of_bodySF (plainFor_of_name pnL2b) hisR ?_
  intro p e s m args below meth c s₁ Bd hml0 hP hK
  obtain ⟨rfl, hZ, hh⟩ := hP
  have hx := Bd.exec
  have hby := Bd.bytes
  have hml : c.maxLocals = 7 := hml0
  have hown : s.vm.findClass "java/lang/StringUTF16" = some m.cls := findClass_of_methodNamed Bd.named
  have hnm := (name_of_methodNamed Bd.named Bd.method).1
  have hlk : meth.locks = false := Bd.notSynchronized
  have X0 : Stand p l e ({ frames := 0, cells := 0, slots := 0, locals := 0 } : Room) s m #[(.ref cc), (.int (0 : Int32)), (.ref u), (.int (0 : Int32)), (.int (2 : Int32))] below meth c s₁ [] 0 0 := Stand.of_body Bd
  have e0 : s₁.heap = h0 := by rw [← hh, Bd.state]; rfl
  have N0 := Fr.nil n0
  refine own_go (fun t k => castTop (efL2b m cc (0 : Int32) u (0 : Int32) (2 : Int32)) k) ?_
  show own_Go p e below _ (s₁.setTop (mkF m 0 #[.val (.ref cc), .val (.int (0 : Int32)), .val (.ref u), .val (.int (0 : Int32)), .val (.int (2 : Int32)), .unset, .unset] []))
  refine own_go (fun t k => XS.iconst X0.here hx rfl (hb hby dL2b_0) k) ?_
  show own_Go p e below _ (s₁.setTop (mkF m 1 #[.val (.ref cc), .val (.int (0 : Int32)), .val (.ref u), .val (.int (0 : Int32)), .val (.int (2 : Int32)), .unset, .unset] [(.int (0 : Int32))]))
  refine own_go (fun t k => XS.istore X0.here hx rfl (hb hby dL2b_1) rfl (l' := #[.val (.ref cc), .val (.int (0 : Int32)), .val (.ref u), .val (.int (0 : Int32)), .val (.int (2 : Int32)), .val (.int (0 : Int32)), .unset]) rfl k) ?_
  show own_Go p e below _ (s₁.setTop (mkF m 3 #[.val (.ref cc), .val (.int (0 : Int32)), .val (.ref u), .val (.int (0 : Int32)), .val (.int (2 : Int32)), .val (.int (0 : Int32)), .unset] []))
  refine own_go (fun t k => XS.iload X0.here hx rfl (hb hby dL2b_3) rfl k) ?_
  show own_Go p e below _ (s₁.setTop (mkF m 5 #[.val (.ref cc), .val (.int (0 : Int32)), .val (.ref u), .val (.int (0 : Int32)), .val (.int (2 : Int32)), .val (.int (0 : Int32)), .unset] [(.int (0 : Int32))]))
  refine own_go (fun t k => XS.iload X0.here hx rfl (hb hby dL2b_5) rfl k) ?_
  show own_Go p e below _ (s₁.setTop (mkF m 7 #[.val (.ref cc), .val (.int (0 : Int32)), .val (.ref u), .val (.int (0 : Int32)), .val (.int (2 : Int32)), .val (.int (0 : Int32)), .unset] [(.int (2 : Int32)), (.int (0 : Int32))]))
  refine own_go (fun t k => XS.icmpNo X0.here hx rfl (hb hby dL2b_7) rfl (tlt (by decide : (0 : Int32) < (2 : Int32))).2.1 k) ?_
  show own_Go p e below _ (s₁.setTop (mkF m 10 #[.val (.ref cc), .val (.int (0 : Int32)), .val (.ref u), .val (.int (0 : Int32)), .val (.int (2 : Int32)), .val (.int (0 : Int32)), .unset] []))
  refine own_go (fun t k => XS.aloadN X0.here hx rfl (hb hby dL2b_10) rfl rfl k) ?_
  show own_Go p e below _ (s₁.setTop (mkF m 11 #[.val (.ref cc), .val (.int (0 : Int32)), .val (.ref u), .val (.int (0 : Int32)), .val (.int (2 : Int32)), .val (.int (0 : Int32)), .unset] [(.ref cc)]))
  refine own_go (fun t k => XS.iloadN X0.here hx rfl (hb hby dL2b_11) rfl k) ?_
  show own_Go p e below _ (s₁.setTop (mkF m 12 #[.val (.ref cc), .val (.int (0 : Int32)), .val (.ref u), .val (.int (0 : Int32)), .val (.int (2 : Int32)), .val (.int (0 : Int32)), .unset] [(.int (0 : Int32)), (.ref cc)]))
  obtain ⟨cl1, Ar1, qa1, Sa1, Na1, Ha1, Ga1⟩ := id Ac
  have hin1 : ¬ ((0 : Int32) < 0 ∨ cl1.slots.size ≤ ((0 : Int32)).toNatClampNeg) := inb_of Sa1 ⟨by decide, by decide⟩
  have hat1 : cl1.slots[((0 : Int32)).toNatClampNeg]? = some (.int c0) := Ha1.at hin1 rfl
  refine own_go (fun t k => X0.caload hx (j := (0 : Int32)) (v := (.int c0)) (by rw [e0]; exact Ar1.1) (State.isArrayOf_alike hZ.alike Ar1.2.1) Ar1.2.2 hin1 hat1 (g := (mkF m 12 #[.val (.ref cc), .val (.int (0 : Int32)), .val (.ref u), .val (.int (0 : Int32)), .val (.int (2 : Int32)), .val (.int (0 : Int32)), .unset] [(.int (0 : Int32)), (.ref cc)])) rfl rfl (hb hby dL2b_12) t k) ?_
  show own_Go p e below _ (s₁.setTop (mkF m 13 #[.val (.ref cc), .val (.int (0 : Int32)), .val (.ref u), .val (.int (0 : Int32)), .val (.int (2 : Int32)), .val (.int (0 : Int32)), .unset] [(.int c0)]))
  refine own_go (fun t k => XS.istore X0.here hx rfl (hb hby dL2b_13) rfl (l' := #[.val (.ref cc), .val (.int (0 : Int32)), .val (.ref u), .val (.int (0 : Int32)), .val (.int (2 : Int32)), .val (.int (0 : Int32)), .val (.int c0)]) rfl k) ?_
  show own_Go p e below _ (s₁.setTop (mkF m 15 #[.val (.ref cc), .val (.int (0 : Int32)), .val (.ref u), .val (.int (0 : Int32)), .val (.int (2 : Int32)), .val (.int (0 : Int32)), .val (.int c0)] []))
  refine own_go (fun t k => XS.iload X0.here hx rfl (hb hby dL2b_15) rfl k) ?_
  show own_Go p e below _ (s₁.setTop (mkF m 17 #[.val (.ref cc), .val (.int (0 : Int32)), .val (.ref u), .val (.int (0 : Int32)), .val (.int (2 : Int32)), .val (.int (0 : Int32)), .val (.int c0)] [(.int c0)]))
  refine own_go (fun t k => XS.sipush X0.here hx rfl (hb hby dL2b_17) k) ?_
  show own_Go p e below _ (s₁.setTop (mkF m 20 #[.val (.ref cc), .val (.int (0 : Int32)), .val (.ref u), .val (.int (0 : Int32)), .val (.int (2 : Int32)), .val (.int (0 : Int32)), .val (.int c0)] [(.int (255 : Int32)), (.int c0)]))
  refine own_go (fun t k => XS.icmpYes X0.here hx rfl (pc0 := 20) (pc' := 26) rfl (hb hby dL2b_20) rfl (flt hp0).2.2.2 (by decide) (by decide) k) ?_
  show own_Go p e below _ (s₁.setTop (mkF m 26 #[.val (.ref cc), .val (.int (0 : Int32)), .val (.ref u), .val (.int (0 : Int32)), .val (.int (2 : Int32)), .val (.int (0 : Int32)), .val (.int c0)] []))
  refine own_go (fun t k => XS.aloadN X0.here hx rfl (hb hby dL2b_26) rfl rfl k) ?_
  show own_Go p e below _ (s₁.setTop (mkF m 27 #[.val (.ref cc), .val (.int (0 : Int32)), .val (.ref u), .val (.int (0 : Int32)), .val (.int (2 : Int32)), .val (.int (0 : Int32)), .val (.int c0)] [(.ref u)]))
  refine own_go (fun t k => XS.iloadN X0.here hx rfl (hb hby dL2b_27) rfl k) ?_
  show own_Go p e below _ (s₁.setTop (mkF m 28 #[.val (.ref cc), .val (.int (0 : Int32)), .val (.ref u), .val (.int (0 : Int32)), .val (.int (2 : Int32)), .val (.int (0 : Int32)), .val (.int c0)] [(.int (0 : Int32)), (.ref u)]))
  refine own_go (fun t k => XS.iload X0.here hx rfl (hb hby dL2b_28) rfl k) ?_
  show own_Go p e below _ (s₁.setTop (mkF m 30 #[.val (.ref cc), .val (.int (0 : Int32)), .val (.ref u), .val (.int (0 : Int32)), .val (.int (2 : Int32)), .val (.int (0 : Int32)), .val (.int c0)] [(.int c0), (.int (0 : Int32)), (.ref u)]))
  refine own_go (fun t k => XS.i2b X0.here hx rfl (hb hby dL2b_30) rfl k) ?_
  show own_Go p e below _ (s₁.setTop (mkF m 31 #[.val (.ref cc), .val (.int (0 : Int32)), .val (.ref u), .val (.int (0 : Int32)), .val (.int (2 : Int32)), .val (.int (0 : Int32)), .val (.int c0)] [(.int (c0.toInt8.toInt32)), (.int (0 : Int32)), (.ref u)]))
  obtain ⟨cl2, Ar2, qa2, Sa2, Na2, Ha2, Ga2⟩ := id Au
  have hin2 : ¬ ((0 : Int32) < 0 ∨ cl2.slots.size ≤ ((0 : Int32)).toNatClampNeg) := inb_of Sa2 ⟨by decide, by decide⟩
  obtain ⟨T2, h2, X2, e2, W2, st2⟩ := stB X0 hx hZ e0 Ar2 (j := (0 : Int32)) hin2 (g := (mkF m 31 #[.val (.ref cc), .val (.int (0 : Int32)), .val (.ref u), .val (.int (0 : Int32)), .val (.int (2 : Int32)), .val (.int (0 : Int32)), .val (.int c0)] [(.int (c0.toInt8.toInt32)), (.int (0 : Int32)), (.ref u)])) rfl rfl (hb hby dL2b_31)
  have Vw2 : Arv Z h2 u ku .byte (2 : Int32) [(.int (nar .byte (c0.toInt8.toInt32))), (.int (0 : Int32))] (.int (0 : Int32)) := Arv.set Ar2 qa2 Sa2 Na2 Ha2 Ga2 (fits_nar_byte _) W2 0 rfl (Nat.le_of_ble_eq_true rfl)
  have Ac__2 := Ac.other W2 ne_cu
  have N2 := Fr.snoc X2 N0 g_u
  have KP2 := (Keep.refl h0 [u]).wr W2 (Or.inl (List.mem_of_getElem? (i := 0) rfl))
  have sz2 := Nat.le_trans Z0 (Keep.of_wr W2).1
  refine own_go (fun t k => st2 t k) ?_
  show own_Go p e below _ (T2.setTop (mkF m 32 #[.val (.ref cc), .val (.int (0 : Int32)), .val (.ref u), .val (.int (0 : Int32)), .val (.int (2 : Int32)), .val (.int (0 : Int32)), .val (.int c0)] []))
  refine own_go (fun t k => XS.iinc X2.here hx rfl (hb hby dL2b_32) rfl (l' := #[.val (.ref cc), .val (.int (1 : Int32)), .val (.ref u), .val (.int (0 : Int32)), .val (.int (2 : Int32)), .val (.int (0 : Int32)), .val (.int c0)]) rfl k) ?_
  show own_Go p e below _ (T2.setTop (mkF m 35 #[.val (.ref cc), .val (.int (1 : Int32)), .val (.ref u), .val (.int (0 : Int32)), .val (.int (2 : Int32)), .val (.int (0 : Int32)), .val (.int c0)] []))
  refine own_go (fun t k => XS.iinc X2.here hx rfl (hb hby dL2b_35) rfl (l' := #[.val (.ref cc), .val (.int (1 : Int32)), .val (.ref u), .val (.int (1 : Int32)), .val (.int (2 : Int32)), .val (.int (0 : Int32)), .val (.int c0)]) rfl k) ?_
  show own_Go p e below _ (T2.setTop (mkF m 38 #[.val (.ref cc), .val (.int (1 : Int32)), .val (.ref u), .val (.int (1 : Int32)), .val (.int (2 : Int32)), .val (.int (0 : Int32)), .val (.int c0)] []))
  refine own_go (fun t k => XS.iinc X2.here hx rfl (hb hby dL2b_38) rfl (l' := #[.val (.ref cc), .val (.int (1 : Int32)), .val (.ref u), .val (.int (1 : Int32)), .val (.int (2 : Int32)), .val (.int (1 : Int32)), .val (.int c0)]) rfl k) ?_
  show own_Go p e below _ (T2.setTop (mkF m 41 #[.val (.ref cc), .val (.int (1 : Int32)), .val (.ref u), .val (.int (1 : Int32)), .val (.int (2 : Int32)), .val (.int (1 : Int32)), .val (.int c0)] []))
  refine own_go (fun t k => XS.goto X2.here hx rfl (pc0 := 41) (pc' := 3) rfl (hb hby dL2b_41) (by decide) (by decide) k) ?_
  show own_Go p e below _ (T2.setTop (mkF m 3 #[.val (.ref cc), .val (.int (1 : Int32)), .val (.ref u), .val (.int (1 : Int32)), .val (.int (2 : Int32)), .val (.int (1 : Int32)), .val (.int c0)] []))
  refine own_go (fun t k => XS.iload X2.here hx rfl (hb hby dL2b_3) rfl k) ?_
  show own_Go p e below _ (T2.setTop (mkF m 5 #[.val (.ref cc), .val (.int (1 : Int32)), .val (.ref u), .val (.int (1 : Int32)), .val (.int (2 : Int32)), .val (.int (1 : Int32)), .val (.int c0)] [(.int (1 : Int32))]))
  refine own_go (fun t k => XS.iload X2.here hx rfl (hb hby dL2b_5) rfl k) ?_
  show own_Go p e below _ (T2.setTop (mkF m 7 #[.val (.ref cc), .val (.int (1 : Int32)), .val (.ref u), .val (.int (1 : Int32)), .val (.int (2 : Int32)), .val (.int (1 : Int32)), .val (.int c0)] [(.int (2 : Int32)), (.int (1 : Int32))]))
  refine own_go (fun t k => XS.icmpNo X2.here hx rfl (hb hby dL2b_7) rfl (tlt (by decide : (1 : Int32) < (2 : Int32))).2.1 k) ?_
  show own_Go p e below _ (T2.setTop (mkF m 10 #[.val (.ref cc), .val (.int (1 : Int32)), .val (.ref u), .val (.int (1 : Int32)), .val (.int (2 : Int32)), .val (.int (1 : Int32)), .val (.int c0)] []))
  refine own_go (fun t k => XS.aloadN X2.here hx rfl (hb hby dL2b_10) rfl rfl k) ?_
  show own_Go p e below _ (T2.setTop (mkF m 11 #[.val (.ref cc), .val (.int (1 : Int32)), .val (.ref u), .val (.int (1 : Int32)), .val (.int (2 : Int32)), .val (.int (1 : Int32)), .val (.int c0)] [(.ref cc)]))
  refine own_go (fun t k => XS.iloadN X2.here hx rfl (hb hby dL2b_11) rfl k) ?_
  show own_Go p e below _ (T2.setTop (mkF m 12 #[.val (.ref cc), .val (.int (1 : Int32)), .val (.ref u), .val (.int (1 : Int32)), .val (.int (2 : Int32)), .val (.int (1 : Int32)), .val (.int c0)] [(.int (1 : Int32)), (.ref cc)]))
  obtain ⟨cl3, Ar3, qa3, Sa3, Na3, Ha3, Ga3⟩ := id Ac__2
  have hin3 : ¬ ((1 : Int32) < 0 ∨ cl3.slots.size ≤ ((1 : Int32)).toNatClampNeg) := inb_of Sa3 ⟨by decide, by decide⟩
  have hat3 : cl3.slots[((1 : Int32)).toNatClampNeg]? = some (.int c1) := Ha3.at hin3 rfl
  refine own_go (fun t k => X2.caload hx (j := (1 : Int32)) (v := (.int c1)) (by rw [e2]; exact Ar3.1) (State.isArrayOf_alike hZ.alike Ar3.2.1) Ar3.2.2 hin3 hat3 (g := (mkF m 12 #[.val (.ref cc), .val (.int (1 : Int32)), .val (.ref u), .val (.int (1 : Int32)), .val (.int (2 : Int32)), .val (.int (1 : Int32)), .val (.int c0)] [(.int (1 : Int32)), (.ref cc)])) rfl rfl (hb hby dL2b_12) t k) ?_
  show own_Go p e below _ (T2.setTop (mkF m 13 #[.val (.ref cc), .val (.int (1 : Int32)), .val (.ref u), .val (.int (1 : Int32)), .val (.int (2 : Int32)), .val (.int (1 : Int32)), .val (.int c0)] [(.int c1)]))
  refine own_go (fun t k => XS.istore X2.here hx rfl (hb hby dL2b_13) rfl (l' := #[.val (.ref cc), .val (.int (1 : Int32)), .val (.ref u), .val (.int (1 : Int32)), .val (.int (2 : Int32)), .val (.int (1 : Int32)), .val (.int c1)]) rfl k) ?_
  show own_Go p e below _ (T2.setTop (mkF m 15 #[.val (.ref cc), .val (.int (1 : Int32)), .val (.ref u), .val (.int (1 : Int32)), .val (.int (2 : Int32)), .val (.int (1 : Int32)), .val (.int c1)] []))
  refine own_go (fun t k => XS.iload X2.here hx rfl (hb hby dL2b_15) rfl k) ?_
  show own_Go p e below _ (T2.setTop (mkF m 17 #[.val (.ref cc), .val (.int (1 : Int32)), .val (.ref u), .val (.int (1 : Int32)), .val (.int (2 : Int32)), .val (.int (1 : Int32)), .val (.int c1)] [(.int c1)]))
  refine own_go (fun t k => XS.sipush X2.here hx rfl (hb hby dL2b_17) k) ?_
  show own_Go p e below _ (T2.setTop (mkF m 20 #[.val (.ref cc), .val (.int (1 : Int32)), .val (.ref u), .val (.int (1 : Int32)), .val (.int (2 : Int32)), .val (.int (1 : Int32)), .val (.int c1)] [(.int (255 : Int32)), (.int c1)]))
  refine own_go (fun t k => XS.icmpYes X2.here hx rfl (pc0 := 20) (pc' := 26) rfl (hb hby dL2b_20) rfl (flt hp1).2.2.2 (by decide) (by decide) k) ?_
  show own_Go p e below _ (T2.setTop (mkF m 26 #[.val (.ref cc), .val (.int (1 : Int32)), .val (.ref u), .val (.int (1 : Int32)), .val (.int (2 : Int32)), .val (.int (1 : Int32)), .val (.int c1)] []))
  refine own_go (fun t k => XS.aloadN X2.here hx rfl (hb hby dL2b_26) rfl rfl k) ?_
  show own_Go p e below _ (T2.setTop (mkF m 27 #[.val (.ref cc), .val (.int (1 : Int32)), .val (.ref u), .val (.int (1 : Int32)), .val (.int (2 : Int32)), .val (.int (1 : Int32)), .val (.int c1)] [(.ref u)]))
  refine own_go (fun t k => XS.iloadN X2.here hx rfl (hb hby dL2b_27) rfl k) ?_
  show own_Go p e below _ (T2.setTop (mkF m 28 #[.val (.ref cc), .val (.int (1 : Int32)), .val (.ref u), .val (.int (1 : Int32)), .val (.int (2 : Int32)), .val (.int (1 : Int32)), .val (.int c1)] [(.int (1 : Int32)), (.ref u)]))
  refine own_go (fun t k => XS.iload X2.here hx rfl (hb hby dL2b_28) rfl k) ?_
  show own_Go p e below _ (T2.setTop (mkF m 30 #[.val (.ref cc), .val (.int (1 : Int32)), .val (.ref u), .val (.int (1 : Int32)), .val (.int (2 : Int32)), .val (.int (1 : Int32)), .val (.int c1)] [(.int c1), (.int (1 : Int32)), (.ref u)]))
  refine own_go (fun t k => XS.i2b X2.here hx rfl (hb hby dL2b_30) rfl k) ?_
  show own_Go p e below _ (T2.setTop (mkF m 31 #[.val (.ref cc), .val (.int (1 : Int32)), .val (.ref u), .val (.int (1 : Int32)), .val (.int (2 : Int32)), .val (.int (1 : Int32)), .val (.int c1)] [(.int (c1.toInt8.toInt32)), (.int (1 : Int32)), (.ref u)]))
  obtain ⟨cl4, Ar4, qa4, Sa4, Na4, Ha4, Ga4⟩ := id Vw2
  have hin4 : ¬ ((1 : Int32) < 0 ∨ cl4.slots.size ≤ ((1 : Int32)).toNatClampNeg) := inb_of Sa4 ⟨by decide, by decide⟩
  obtain ⟨T4, h4, X4, e4, W4, st4⟩ := stB X2 hx hZ e2 Ar4 (j := (1 : Int32)) hin4 (g := (mkF m 31 #[.val (.ref cc), .val (.int (1 : Int32)), .val (.ref u), .val (.int (1 : Int32)), .val (.int (2 : Int32)), .val (.int (1 : Int32)), .val (.int c1)] [(.int (c1.toInt8.toInt32)), (.int (1 : Int32)), (.ref u)])) rfl rfl (hb hby dL2b_31)
  have Vw4 : Arv Z h4 u ku .byte (2 : Int32) [(.int (nar .byte (c0.toInt8.toInt32))), (.int (nar .byte (c1.toInt8.toInt32)))] (.int (0 : Int32)) := Arv.set Ar4 qa4 Sa4 Na4 Ha4 Ga4 (fits_nar_byte _) W4 1 rfl (Nat.le_of_ble_eq_true rfl)
  have Ac__4 := Ac__2.other W4 ne_cu
  have N4 := Fr.snoc X4 N2 g_u
  have KP4 := KP2.wr W4 (Or.inl (List.mem_of_getElem? (i := 0) rfl))
  have sz4 := Nat.le_trans sz2 (Keep.of_wr W4).1
  refine own_go (fun t k => st4 t k) ?_
  show own_Go p e below _ (T4.setTop (mkF m 32 #[.val (.ref cc), .val (.int (1 : Int32)), .val (.ref u), .val (.int (1 : Int32)), .val (.int (2 : Int32)), .val (.int (1 : Int32)), .val (.int c1)] []))
  refine own_go (fun t k => XS.iinc X4.here hx rfl (hb hby dL2b_32) rfl (l' := #[.val (.ref cc), .val (.int (2 : Int32)), .val (.ref u), .val (.int (1 : Int32)), .val (.int (2 : Int32)), .val (.int (1 : Int32)), .val (.int c1)]) rfl k) ?_
  show own_Go p e below _ (T4.setTop (mkF m 35 #[.val (.ref cc), .val (.int (2 : Int32)), .val (.ref u), .val (.int (1 : Int32)), .val (.int (2 : Int32)), .val (.int (1 : Int32)), .val (.int c1)] []))
  refine own_go (fun t k => XS.iinc X4.here hx rfl (hb hby dL2b_35) rfl (l' := #[.val (.ref cc), .val (.int (2 : Int32)), .val (.ref u), .val (.int (2 : Int32)), .val (.int (2 : Int32)), .val (.int (1 : Int32)), .val (.int c1)]) rfl k) ?_
  show own_Go p e below _ (T4.setTop (mkF m 38 #[.val (.ref cc), .val (.int (2 : Int32)), .val (.ref u), .val (.int (2 : Int32)), .val (.int (2 : Int32)), .val (.int (1 : Int32)), .val (.int c1)] []))
  refine own_go (fun t k => XS.iinc X4.here hx rfl (hb hby dL2b_38) rfl (l' := #[.val (.ref cc), .val (.int (2 : Int32)), .val (.ref u), .val (.int (2 : Int32)), .val (.int (2 : Int32)), .val (.int (2 : Int32)), .val (.int c1)]) rfl k) ?_
  show own_Go p e below _ (T4.setTop (mkF m 41 #[.val (.ref cc), .val (.int (2 : Int32)), .val (.ref u), .val (.int (2 : Int32)), .val (.int (2 : Int32)), .val (.int (2 : Int32)), .val (.int c1)] []))
  refine own_go (fun t k => XS.goto X4.here hx rfl (pc0 := 41) (pc' := 3) rfl (hb hby dL2b_41) (by decide) (by decide) k) ?_
  show own_Go p e below _ (T4.setTop (mkF m 3 #[.val (.ref cc), .val (.int (2 : Int32)), .val (.ref u), .val (.int (2 : Int32)), .val (.int (2 : Int32)), .val (.int (2 : Int32)), .val (.int c1)] []))
  refine own_go (fun t k => XS.iload X4.here hx rfl (hb hby dL2b_3) rfl k) ?_
  show own_Go p e below _ (T4.setTop (mkF m 5 #[.val (.ref cc), .val (.int (2 : Int32)), .val (.ref u), .val (.int (2 : Int32)), .val (.int (2 : Int32)), .val (.int (2 : Int32)), .val (.int c1)] [(.int (2 : Int32))]))
  refine own_go (fun t k => XS.iload X4.here hx rfl (hb hby dL2b_5) rfl k) ?_
  show own_Go p e below _ (T4.setTop (mkF m 7 #[.val (.ref cc), .val (.int (2 : Int32)), .val (.ref u), .val (.int (2 : Int32)), .val (.int (2 : Int32)), .val (.int (2 : Int32)), .val (.int c1)] [(.int (2 : Int32)), (.int (2 : Int32))]))
  refine own_go (fun t k => XS.icmpYes X4.here hx rfl (pc0 := 7) (pc' := 44) rfl (hb hby dL2b_7) rfl (flt (by decide : ¬ ((2 : Int32) < (2 : Int32)))).2.1 (by decide) (by decide) k) ?_
  show own_Go p e below _ (T4.setTop (mkF m 44 #[.val (.ref cc), .val (.int (2 : Int32)), .val (.ref u), .val (.int (2 : Int32)), .val (.int (2 : Int32)), .val (.int (2 : Int32)), .val (.int c1)] []))
  refine own_go (fun t k => XS.iload X4.here hx rfl (hb hby dL2b_44) rfl k) ?_
  show own_Go p e below _ (T4.setTop (mkF m 46 #[.val (.ref cc), .val (.int (2 : Int32)), .val (.ref u), .val (.int (2 : Int32)), .val (.int (2 : Int32)), .val (.int (2 : Int32)), .val (.int c1)] [(.int (2 : Int32))]))
  exact own_retI X4 hx Bd.returns (hb hby dL2b_46) (by rw [e4]; exact ⟨rfl, N4, KP4, Vw4⟩) (by decide) (by decide)
theorem dL2c_0 : decode jdk_52_method_16_code 0 = .ok (.iload_n 2, 1) := by decide +kernel
theorem dL2c_1 : decode jdk_52_method_16_code 1 = .ok (.newarray .byte, 2) := by decide +kernel
theorem dL2c_3 : decode jdk_52_method_16_code 3 = .ok (.astore_n 3, 1) := by decide +kernel
theorem dL2c_4 : decode jdk_52_method_16_code 4 = .ok (.aload_n 0, 1) := by decide +kernel
theorem dL2c_5 : decode jdk_52_method_16_code 5 = .ok (.iload_n 1, 1) := by decide +kernel
theorem dL2c_6 : decode jdk_52_method_16_code 6 = .ok (.aload_n 3, 1) := by decide +kernel
theorem dL2c_7 : decode jdk_52_method_16_code 7 = .ok (.iconst 0, 1) := by decide +kernel
theorem dL2c_8 : decode jdk_52_method_16_code 8 = .ok (.iload_n 2, 1) := by decide +kernel
theorem dL2c_9 : decode jdk_52_method_16_code 9 = .ok (.invokestatic 115, 3) := by decide +kernel
theorem dL2c_12 : decode jdk_52_method_16_code 12 = .ok (.istore 4, 2) := by decide +kernel
theorem dL2c_14 : decode jdk_52_method_16_code 14 = .ok (.iload 4, 2) := by decide +kernel
theorem dL2c_16 : decode jdk_52_method_16_code 16 = .ok (.iload_n 2, 1) := by decide +kernel
theorem dL2c_17 : decode jdk_52_method_16_code 17 = .ok (.if_icmp .eq 40, 3) := by decide +kernel
theorem dL2c_57 : decode jdk_52_method_16_code 57 = .ok (.aload_n 3, 1) := by decide +kernel
theorem dL2c_58 : decode jdk_52_method_16_code 58 = .ok (.areturn, 1) := by decide +kernel
theorem pnL2c : plainName "java/lang/StringUTF16" = true := by first | (simp [plainName, overriddenIn]; done) | decide +kernel
theorem pdL2c_0 : parseMethodDescriptor "([CI[BII)I" = some ⟨[(.array .char), .int, (.array .byte), .int, .int], some .int⟩ := by decide +kernel
theorem efL2c (m : MethodId) (x0 : Addr) (x1 : Int32) (x2 : Int32) : entryFrame m #[(.ref x0), (.int x1), (.int x2)] 6 = mkF m 0 #[.val (.ref x0), .val (.int x1), .val (.int x2), .unset, .unset, .unset] [] := by first | (simp [entryFrame, mkF, argsToLocals, Value.category]; done) | rfl
def own_QL2c (Z : State) (c0 c1 : Int32) (h0 : Heap) (n0 : Nat) (v : Option Value) (h : Heap) (L : List Loc) : Prop := ∃ (b : Addr) (kb : ClassId), v = some (.ref b) ∧ Fr n0 L ∧ Keep h0 h [] ∧ h0.size ≤ b ∧ Arv Z h b kb .byte (2 : Int32) [.int (nar .byte (c0.toInt8.toInt32)), .int (nar .byte (c1.toInt8.toInt32))] (.int (0 : Int32))
set_option maxRecDepth 65536 in
set_option maxHeartbeats 40000000 in
theorem rmL2c (l : Launch) (Z : State) (a0 : Array Value) (hw : ∀ d ∈ tables_1, d.before a0 Z = true) (ws : List Jvm.Cond) (cc : Addr) (kc : ClassId) (c0 c1 : Int32) (h0 : Heap) (n0 : Nat) (Z0 : n0 ≤ h0.size) (Ac : Arv Z h0 cc kc .char (2 : Int32) [.int c0, .int c1] (.int (0 : Int32))) (hp0 : ¬ (255 : Int32) < c0) (hp1 : ¬ (255 : Int32) < c1) :
    MetFree l (⟨"java/lang/StringUTF16", "compress", "([CII)[B"⟩ : MethodName) (head1 (Jvm.Cond.code (⟨"java/lang/StringUTF16", "compress", "([CII)[B"⟩ : MethodName) jdk_52_method_16_code 6 (some (.array .byte)) :: ws) ({ frames := 1, cells := 1, slots := 2, locals := 18 } : Room)) (fun a U => a = #[(.ref cc), (.int (0 : Int32)), (.int (2 : Int32))] ∧ Z.Warmed39 U.vm ∧ U.heap = h0) (fun _ _ _ _ _ => True) (fun _ U o U' => ∃ v L, o = .returned v ∧ own_QL2c Z c0 c1 h0 n0 v U'.heap L ∧ FrameEnd U o U' L ({ frames := 1, cells := 1, slots := 2, locals := 18 } : Room).cells ({ frames := 1, cells := 1, slots := 2, locals := 18 } : Room).slots) := by
  refine MetFree.of_bodySF (plainFor_of_name pnL2c) hisR ?_
  intro p e s m args below meth c s₁ Bd hml0 hP hK
  obtain ⟨rfl, hZ, hh⟩ := hP
  have hx := Bd.exec
  have hby := Bd.bytes
  have hml : c.maxLocals = 6 := hml0
  have hown : s.vm.findClass "java/lang/StringUTF16" = some m.cls := findClass_of_methodNamed Bd.named
  have hnm := (name_of_methodNamed Bd.named Bd.method).1
  have hlk : meth.locks = false := Bd.notSynchronized
  have X0 : Stand p l e ({ frames := 1, cells := 1, slots := 2, locals := 18 } : Room) s m #[(.ref cc), (.int (0 : Int32)), (.int (2 : Int32))] below meth c s₁ [] 0 0 := Stand.of_body Bd
  have e0 : s₁.heap = h0 := by rw [← hh, Bd.state]; rfl
  have N0 := Fr.nil n0
  refine own_go (fun t k => castTop (efL2c m cc (0 : Int32) (2 : Int32)) k) ?_
  show own_Go p e below _ (s₁.setTop (mkF m 0 #[.val (.ref cc), .val (.int (0 : Int32)), .val (.int (2 : Int32)), .unset, .unset, .unset] []))
  refine own_go (fun t k => XS.iloadN X0.here hx rfl (hb hby dL2c_0) rfl k) ?_
  show own_Go p e below _ (s₁.setTop (mkF m 1 #[.val (.ref cc), .val (.int (0 : Int32)), .val (.int (2 : Int32)), .unset, .unset, .unset] [(.int (2 : Int32))]))
  obtain ⟨T1, h1, k1, X1, e1, E1, A1, st1⟩ := newP X0 hx hZ (hw _ (List.mem_of_getElem? (i := 19) rfl)) e0 (g := (mkF m 1 #[.val (.ref cc), .val (.int (0 : Int32)), .val (.int (2 : Int32)), .unset, .unset, .unset] [(.int (2 : Int32))])) rfl (hb hby dL2c_1) rfl (by decide) (cap := 2) (by decide) (by decide) (by decide) (by decide)
  obtain ⟨b1, g1⟩ : ∃ z, z = h0.size := ⟨_, rfl⟩
  rw [← g1] at A1 st1
  have g_b1 : n0 ≤ b1 := Nat.le_trans Z0 (Nat.le_of_eq g1.symm)
  have sz_b1 : h0.size ≤ b1 := Nat.le_trans (Keep.refl h0 []).1 (Nat.le_of_eq g1.symm)
  have ne_cc_b1 : cc ≠ b1 := Nat.ne_of_lt (Nat.lt_of_lt_of_le Ac.lt (Nat.le_of_eq g1.symm))
  have Ac__1 := Ac.ext E1
  have sz1 := Nat.le_trans Z0 E1.1
  have KP1 := (Keep.refl h0 []).ext E1
  have V1 : Arv Z h1 b1 k1 .byte (2 : Int32) [(.int (0 : Int32)), (.int (0 : Int32))] (.int (0 : Int32)) := (Arv.new A1 (by decide)).pad (pad_rep [] (.int (0 : Int32)) 2)
  refine own_go (fun t k => st1 t k) ?_
  show own_Go p e below _ (T1.setTop (mkF m 3 #[.val (.ref cc), .val (.int (0 : Int32)), .val (.int (2 : Int32)), .unset, .unset, .unset] [(.ref b1)]))
  refine own_go (fun t k => XS.astoreN X1.here hx rfl (hb hby dL2c_3) rfl rfl (l' := #[.val (.ref cc), .val (.int (0 : Int32)), .val (.int (2 : Int32)), .val (.ref b1), .unset, .unset]) rfl k) ?_
  show own_Go p e below _ (T1.setTop (mkF m 4 #[.val (.ref cc), .val (.int (0 : Int32)), .val (.int (2 : Int32)), .val (.ref b1), .unset, .unset] []))
  refine own_go (fun t k => XS.aloadN X1.here hx rfl (hb hby dL2c_4) rfl rfl k) ?_
  show own_Go p e below _ (T1.setTop (mkF m 5 #[.val (.ref cc), .val (.int (0 : Int32)), .val (.int (2 : Int32)), .val (.ref b1), .unset, .unset] [(.ref cc)]))
  refine own_go (fun t k => XS.iloadN X1.here hx rfl (hb hby dL2c_5) rfl k) ?_
  show own_Go p e below _ (T1.setTop (mkF m 6 #[.val (.ref cc), .val (.int (0 : Int32)), .val (.int (2 : Int32)), .val (.ref b1), .unset, .unset] [(.int (0 : Int32)), (.ref cc)]))
  refine own_go (fun t k => XS.aloadN X1.here hx rfl (hb hby dL2c_6) rfl rfl k) ?_
  show own_Go p e below _ (T1.setTop (mkF m 7 #[.val (.ref cc), .val (.int (0 : Int32)), .val (.int (2 : Int32)), .val (.ref b1), .unset, .unset] [(.ref b1), (.int (0 : Int32)), (.ref cc)]))
  refine own_go (fun t k => XS.iconst X1.here hx rfl (hb hby dL2c_7) k) ?_
  show own_Go p e below _ (T1.setTop (mkF m 8 #[.val (.ref cc), .val (.int (0 : Int32)), .val (.int (2 : Int32)), .val (.ref b1), .unset, .unset] [(.int (0 : Int32)), (.ref b1), (.int (0 : Int32)), (.ref cc)]))
  refine own_go (fun t k => XS.iloadN X1.here hx rfl (hb hby dL2c_8) rfl k) ?_
  show own_Go p e below _ (T1.setTop (mkF m 9 #[.val (.ref cc), .val (.int (0 : Int32)), .val (.int (2 : Int32)), .val (.ref b1), .unset, .unset] [(.int (2 : Int32)), (.int (0 : Int32)), (.ref b1), (.int (0 : Int32)), (.ref cc)]))
  obtain ⟨_, _, ⟨T2, L2, k2, n2⟩, -, X2, ⟨Lc2, hQ2, l2, y2, z2⟩, st2⟩ := Jvm.LawKit.callS X1 hx (y := (⟨"java/lang/StringUTF16", "compress", "([CI[BII)I"⟩ : MethodName)) hown (mvT hZ (hw _ (List.mem_of_getElem? (i := 52) rfl))) (mvT hZ (hw _ (List.mem_of_getElem? (i := 53) rfl))) (mvT hZ (hw _ (List.mem_of_getElem? (i := 50) rfl))) (mvT hZ (hw _ (List.mem_of_getElem? (i := 54) rfl))) (by decide) (backOf (W := 0) (rmL2b l Z a0 hw [] cc b1 kc k1 c0 c1 h1 n0 sz1 Ac__1 V1 g_b1 ne_cc_b1 hp0 hp1) hZ (hw _ (List.mem_of_getElem? (i := 54) rfl)) (hw _ (List.mem_of_getElem? (i := 50) rfl)) (by decide) (by decide)) (g := (mkF m 9 #[.val (.ref cc), .val (.int (0 : Int32)), .val (.int (2 : Int32)), .val (.ref b1), .unset, .unset] [(.int (2 : Int32)), (.int (0 : Int32)), (.ref b1), (.int (0 : Int32)), (.ref cc)])) rfl (by rw [hml]; rfl) (argsL := [(.ref cc), (.int (0 : Int32)), (.ref b1), (.int (0 : Int32)), (.int (2 : Int32))]) (rest := []) (lenOf pdL2c_0 rfl) rfl (by show 2 * 0 + _ ≤ _; exact Nat.le_of_eq rfl) (hb hby dL2c_9) (fun _ _ => ⟨rfl, e1, (by decide : 0 + 1 + 0 ≤ _), (by decide : 0 + 2 + 0 ≤ _)⟩)
  dsimp only [Pt.U, Pt.locs, Pt.cells, Pt.slots] at X2 l2 y2 z2 st2 hQ2
  subst l2 y2 z2
  obtain ⟨rfl, Nq2, K2, A2⟩ := hQ2
  have N2 := Fr.app N0 Nq2
  refine own_go (fun t k => st2 t k) ?_
  have Ac__2 := Ac__1.keep K2 (ninS ne_cc_b1 nin0)
  have KP2 := KP1.trans K2 (allS (Or.inr sz_b1) all0)
  have sz2 := Nat.le_trans sz1 K2.1
  show own_Go p e below _ (T2.setTop (mkF m 12 #[.val (.ref cc), .val (.int (0 : Int32)), .val (.int (2 : Int32)), .val (.ref b1), .unset, .unset] [(.int (2 : Int32))]))
  refine own_go (fun t k => XS.istore X2.here hx rfl (hb hby dL2c_12) rfl (l' := #[.val (.ref cc), .val (.int (0 : Int32)), .val (.int (2 : Int32)), .val (.ref b1), .val (.int (2 : Int32)), .unset]) rfl k) ?_
  show own_Go p e below _ (T2.setTop (mkF m 14 #[.val (.ref cc), .val (.int (0 : Int32)), .val (.int (2 : Int32)), .val (.ref b1), .val (.int (2 : Int32)), .unset] []))
  refine own_go (fun t k => XS.iload X2.here hx rfl (hb hby dL2c_14) rfl k) ?_
  show own_Go p e below _ (T2.setTop (mkF m 16 #[.val (.ref cc), .val (.int (0 : Int32)), .val (.int (2 : Int32)), .val (.ref b1), .val (.int (2 : Int32)), .unset] [(.int (2 : Int32))]))
  refine own_go (fun t k => XS.iloadN X2.here hx rfl (hb hby dL2c_16) rfl k) ?_
  show own_Go p e below _ (T2.setTop (mkF m 17 #[.val (.ref cc), .val (.int (0 : Int32)), .val (.int (2 : Int32)), .val (.ref b1), .val (.int (2 : Int32)), .unset] [(.int (2 : Int32)), (.int (2 : Int32))]))
  refine own_go (fun t k => XS.icmpYes X2.here hx rfl (pc0 := 17) (pc' := 57) rfl (hb hby dL2c_17) rfl (teq (by decide : (2 : Int32) = (2 : Int32))).1 (by decide) (by decide) k) ?_
  show own_Go p e below _ (T2.setTop (mkF m 57 #[.val (.ref cc), .val (.int (0 : Int32)), .val (.int (2 : Int32)), .val (.ref b1), .val (.int (2 : Int32)), .unset] []))
  refine own_go (fun t k => XS.aloadN X2.here hx rfl (hb hby dL2c_57) rfl rfl k) ?_
  show own_Go p e below _ (T2.setTop (mkF m 58 #[.val (.ref cc), .val (.int (0 : Int32)), .val (.int (2 : Int32)), .val (.ref b1), .val (.int (2 : Int32)), .unset] [(.ref b1)]))
  exact own_retA X2 hx Bd.returns rfl rfl (hb hby dL2c_58) (⟨_, _, rfl, N2, KP2, sz_b1, A2⟩) (by decide) (by decide)
theorem dL2a_0 : decode jdk_52_method_15_code 0 = .ok (.iload_n 1, 1) := by decide +kernel
theorem dL2a_1 : decode jdk_52_method_15_code 1 = .ok (.aload_n 0, 1) := by decide +kernel
theorem dL2a_2 : decode jdk_52_method_15_code 2 = .ok (.arraylength, 1) := by decide +kernel
theorem dL2a_3 : decode jdk_52_method_15_code 3 = .ok (.isub, 1) := by decide +kernel
theorem dL2a_4 : decode jdk_52_method_15_code 4 = .ok (.bipush 31, 2) := by decide +kernel
theorem dL2a_6 : decode jdk_52_method_15_code 6 = .ok (.iushr, 1) := by decide +kernel
theorem dL2a_7 : decode jdk_52_method_15_code 7 = .ok (.i2b, 1) := by decide +kernel
theorem dL2a_8 : decode jdk_52_method_15_code 8 = .ok (.ireturn, 1) := by decide +kernel
theorem pnL2a : plainName "java/lang/StringUTF16" = true := by first | (simp [plainName, overriddenIn]; done) | decide +kernel
theorem efL2a (m : MethodId) (x0 : Addr) (x1 : Int32) : entryFrame m #[(.ref x0), (.int x1)] 2 = mkF m 0 #[.val (.ref x0), .val (.int x1)] [] := by first | (simp [entryFrame, mkF, argsToLocals, Value.category]; done) | rfl
def own_QL2a (h0 : Heap) (n0 : Nat) (v : Option Value) (h : Heap) (L : List Loc) : Prop := v = some (.int (0 : Int32)) ∧ Fr n0 L ∧ h = h0
set_option maxRecDepth 65536 in
set_option maxHeartbeats 40000000 in
theorem rmL2a (l : Launch) (Z : State) (a0 : Array Value) (hw : ∀ d ∈ tables_1, d.before a0 Z = true) (ws : List Jvm.Cond) (ot : Addr) (kt : ClassId) (x0 : Int32) (x1 : Int32) (h0 : Heap) (n0 : Nat) (Z0 : n0 ≤ h0.size) (At : Arv Z h0 ot kt .byte (2 : Int32) [.int x0, .int x1] (.int (0 : Int32))) :
    MetFree l (⟨"java/lang/StringUTF16", "coderFromArrayLen", "([BI)B"⟩ : MethodName) (head1 (Jvm.Cond.code (⟨"java/lang/StringUTF16", "coderFromArrayLen", "([BI)B"⟩ : MethodName) jdk_52_method_15_code 2 (some .byte) :: ws) ({ frames := 0, cells := 0, slots := 0, locals := 0 } : Room)) (fun a U => a = #[(.ref ot), (.int (2 : Int32))] ∧ Z.Warmed39 U.vm ∧ U.heap = h0) (fun _ _ _ _ _ => True) (fun _ U o U' => ∃ v L, o = .returned v ∧ own_QL2a h0 n0 v U'.heap L ∧ FrameEnd U o U' L ({ frames := 0, cells := 0, slots := 0, locals := 0 } : Room).cells ({ frames := 0, cells := 0, slots := 0, locals := 0 } : Room).slots) := by
  refine MetFree.of_bodySF (plainFor_of_name pnL2a) hisR ?_
  intro p e s m args below meth c s₁ Bd hml0 hP hK
  obtain ⟨rfl, hZ, hh⟩ := hP
  have hx := Bd.exec
  have hby := Bd.bytes
  have hml : c.maxLocals = 2 := hml0
  have hown : s.vm.findClass "java/lang/StringUTF16" = some m.cls := findClass_of_methodNamed Bd.named
  have hnm := (name_of_methodNamed Bd.named Bd.method).1
  have hlk : meth.locks = false := Bd.notSynchronized
  have X0 : Stand p l e ({ frames := 0, cells := 0, slots := 0, locals := 0 } : Room) s m #[(.ref ot), (.int (2 : Int32))] below meth c s₁ [] 0 0 := Stand.of_body Bd
  have e0 : s₁.heap = h0 := by rw [← hh, Bd.state]; rfl
  have N0 := Fr.nil n0
  refine own_go (fun t k => castTop (efL2a m ot (2 : Int32)) k) ?_
  show own_Go p e below _ (s₁.setTop (mkF m 0 #[.val (.ref ot), .val (.int (2 : Int32))] []))
  refine own_go (fun t k => XS.iloadN X0.here hx rfl (hb hby dL2a_0) rfl k) ?_
  show own_Go p e below _ (s₁.setTop (mkF m 1 #[.val (.ref ot), .val (.int (2 : Int32))] [(.int (2 : Int32))]))
  refine own_go (fun t k => XS.aloadN X0.here hx rfl (hb hby dL2a_1) rfl rfl k) ?_
  show own_Go p e below _ (s₁.setTop (mkF m 2 #[.val (.ref ot), .val (.int (2 : Int32))] [(.ref ot), (.int (2 : Int32))]))
  obtain ⟨cl1, Ar1, -, Sa1, Na1, -, -⟩ := id At
  have ln1 := len_of Sa1 Na1
  refine own_go (fun t k => X0.arraylength hx (by rw [e0]; exact Ar1.1) (State.isArrayOf_alike hZ.alike Ar1.2.1) (g := (mkF m 2 #[.val (.ref ot), .val (.int (2 : Int32))] [(.ref ot), (.int (2 : Int32))])) rfl rfl (hb hby dL2a_2) t (by rw [ln1]; exact k)) ?_
  show own_Go p e below _ (s₁.setTop (mkF m 3 #[.val (.ref ot), .val (.int (2 : Int32))] [(.int (2 : Int32)), (.int (2 : Int32))]))
  refine own_go (fun t k => XS.isub X0.here hx rfl (hb hby dL2a_3) rfl k) ?_
  show own_Go p e below _ (s₁.setTop (mkF m 4 #[.val (.ref ot), .val (.int (2 : Int32))] [(.int ((2 : Int32) - (2 : Int32)))]))
  refine own_go (fun t k => XS.bipush X0.here hx rfl (hb hby dL2a_4) k) ?_
  show own_Go p e below _ (s₁.setTop (mkF m 6 #[.val (.ref ot), .val (.int (2 : Int32))] [(.int (31 : Int32)), (.int ((2 : Int32) - (2 : Int32)))]))
  refine own_go (fun t k => XS.iushr X0.here hx rfl (hb hby dL2a_6) rfl k) ?_
  show own_Go p e below _ (s₁.setTop (mkF m 7 #[.val (.ref ot), .val (.int (2 : Int32))] [(.int ((((2 : Int32) - (2 : Int32)).toUInt32 >>> ((31 : Int32) &&& 31).toUInt32).toInt32))]))
  refine own_go (fun t k => XS.i2b X0.here hx rfl (hb hby dL2a_7) rfl k) ?_
  show own_Go p e below _ (s₁.setTop (mkF m 8 #[.val (.ref ot), .val (.int (2 : Int32))] [(.int (((((2 : Int32) - (2 : Int32)).toUInt32 >>> ((31 : Int32) &&& 31).toUInt32).toInt32).toInt8.toInt32))]))
  exact own_retN X0 hx (t := .byte) Bd.returns (by simp) (hb hby dL2a_8) (by rw [e0]; exact ⟨by decide, N0, rfl⟩) (by decide) (by decide)
theorem dL2d_0 : decode jdk_42_method_149_code 0 = .ok (.aload_n 0, 1) := by decide +kernel
theorem dL2d_1 : decode jdk_42_method_149_code 1 = .ok (.invokespecial 1, 3) := by decide +kernel
theorem dL2d_4 : decode jdk_42_method_149_code 4 = .ok (.iload_n 3, 1) := by decide +kernel
theorem dL2d_5 : decode jdk_42_method_149_code 5 = .ok (.ifCond .ne 22, 3) := by decide +kernel
theorem dL2d_27 : decode jdk_42_method_149_code 27 = .ok (.getstatic 38, 3) := by decide +kernel
theorem dL2d_30 : decode jdk_42_method_149_code 30 = .ok (.ifCond .eq 28, 3) := by decide +kernel
theorem dL2d_33 : decode jdk_42_method_149_code 33 = .ok (.aload_n 1, 1) := by decide +kernel
theorem dL2d_34 : decode jdk_42_method_149_code 34 = .ok (.iload_n 2, 1) := by decide +kernel
theorem dL2d_35 : decode jdk_42_method_149_code 35 = .ok (.iload_n 3, 1) := by decide +kernel
theorem dL2d_36 : decode jdk_42_method_149_code 36 = .ok (.invokestatic 177, 3) := by decide +kernel
theorem dL2d_39 : decode jdk_42_method_149_code 39 = .ok (.astore 5, 2) := by decide +kernel
theorem dL2d_41 : decode jdk_42_method_149_code 41 = .ok (.aload_n 0, 1) := by decide +kernel
theorem dL2d_42 : decode jdk_42_method_149_code 42 = .ok (.aload 5, 2) := by decide +kernel
theorem dL2d_44 : decode jdk_42_method_149_code 44 = .ok (.iload_n 3, 1) := by decide +kernel
theorem dL2d_45 : decode jdk_42_method_149_code 45 = .ok (.invokestatic 47, 3) := by decide +kernel
theorem dL2d_48 : decode jdk_42_method_149_code 48 = .ok (.putfield 15, 3) := by decide +kernel
theorem dL2d_51 : decode jdk_42_method_149_code 51 = .ok (.aload_n 0, 1) := by decide +kernel
theorem dL2d_52 : decode jdk_42_method_149_code 52 = .ok (.aload 5, 2) := by decide +kernel
theorem dL2d_54 : decode jdk_42_method_149_code 54 = .ok (.putfield 9, 3) := by decide +kernel
theorem dL2d_57 : decode jdk_42_method_149_code 57 = .ok (.return_, 1) := by decide +kernel
theorem pnL2d : plainName "java/lang/String" = true := by first | (simp [plainName, overriddenIn]; done) | decide +kernel
theorem pdL2d_0 : parseMethodDescriptor "([CII)[B" = some ⟨[(.array .char), .int, .int], some (.array .byte)⟩ := by decide +kernel
theorem pdL2d_1 : parseMethodDescriptor "([BI)B" = some ⟨[(.array .byte), .int], some .byte⟩ := by decide +kernel
theorem efL2d (m : MethodId) (x0 : Addr) (x1 : Addr) (x2 : Int32) (x3 : Int32) : entryFrame m #[(.ref x0), (.ref x1), (.int x2), (.int x3), .null] 6 = mkF m 0 #[.val (.ref x0), .val (.ref x1), .val (.int x2), .val (.int x3), .val .null, .unset] [] := by first | (simp [entryFrame, mkF, argsToLocals, Value.category]; done) | rfl
def own_QL2d (Z : State) (a : Addr) (c0 c1 : Int32) (h0 : Heap) (n0 : Nat) (v : Option Value) (h : Heap) (L : List Loc) : Prop := v = none ∧ Fr n0 L ∧ Keep h0 h [a] ∧ Fld Z h a "java/lang/String" "coder" "B" (.int (0 : Int32)) ∧ ∃ (b : Addr) (kb : ClassId), h0.size ≤ b ∧ Fld Z h a "java/lang/String" "value" "[B" (.ref b) ∧ Arv Z h b kb .byte (2 : Int32) [.int (nar .byte (c0.toInt8.toInt32)), .int (nar .byte (c1.toInt8.toInt32))] (.int (0 : Int32))
set_option maxRecDepth 65536 in
set_option maxHeartbeats 40000000 in
theorem rmL2d (l : Launch) (Z : State) (a0 : Array Value) (hw : ∀ d ∈ tables_1, d.before a0 Z = true) (ws : List Jvm.Cond) (oa cc : Addr) (kc : ClassId) (cs : Int32) (c0 c1 : Int32) (h0 : Heap) (n0 : Nat) (Z0 : n0 ≤ h0.size) (Ea : Exa Z h0 oa "java/lang/String") (Fv : Fld Z h0 oa "java/lang/String" "value" "[B" .null) (Fc : Fld Z h0 oa "java/lang/String" "coder" "B" (.int (0 : Int32))) (g_oa : n0 ≤ oa) (ne_ca : cc ≠ oa) (Ac : Arv Z h0 cc kc .char (2 : Int32) [.int c0, .int c1] (.int (0 : Int32))) (SC : Sta Z Z.heap "java/lang/String" "COMPACT_STRINGS" "Z" (.int cs)) (hcs : ¬ cs = 0) (XO : Old Z n0 h0) (hp0 : ¬ (255 : Int32) < c0) (hp1 : ¬ (255 : Int32) < c1) :
    MetFree l (⟨"java/lang/String", "<init>", "([CIILjava/lang/Void;)V"⟩ : MethodName) (head1 (Jvm.Cond.code (⟨"java/lang/String", "<init>", "([CIILjava/lang/Void;)V"⟩ : MethodName) jdk_42_method_149_code 6 none :: ws) ({ frames := 2, cells := 1, slots := 2, locals := 35 } : Room)) (fun a U => a = #[(.ref oa), (.ref cc), (.int (0 : Int32)), (.int (2 : Int32)), .null] ∧ Z.Warmed39 U.vm ∧ U.heap = h0) (fun _ _ _ _ _ => True) (fun _ U o U' => ∃ v L, o = .returned v ∧ own_QL2d Z oa c0 c1 h0 n0 v U'.heap L ∧ FrameEnd U o U' L ({ frames := 2, cells := 1, slots := 2, locals := 35 } : Room).cells ({ frames := 2, cells := 1, slots := 2, locals := 35 } : Room).slots) := by
  refine MetFree.of_bodySF (plainFor_of_name pnL2d) hisR ?_
  intro p e s m args below meth c s₁ Bd hml0 hP hK
  obtain ⟨rfl, hZ, hh⟩ := hP
  have hx := Bd.exec
  have hby := Bd.bytes
  have hml : c.maxLocals = 6 := hml0
  have hown : s.vm.findClass "java/lang/String" = some m.cls := findClass_of_methodNamed Bd.named
  have hnm := (name_of_methodNamed Bd.named Bd.method).1
  have hlk : meth.locks = false := Bd.notSynchronized
  have X0 : Stand p l e ({ frames := 2, cells := 1, slots := 2, locals := 35 } : Room) s m #[(.ref oa), (.ref cc), (.int (0 : Int32)), (.int (2 : Int32)), .null] below meth c s₁ [] 0 0 := Stand.of_body Bd
  have e0 : s₁.heap = h0 := by rw [← hh, Bd.state]; rfl
  have N0 := Fr.nil n0
  refine own_go (fun t k => castTop (efL2d m oa cc (0 : Int32) (2 : Int32)) k) ?_
  show own_Go p e below _ (s₁.setTop (mkF m 0 #[.val (.ref oa), .val (.ref cc), .val (.int (0 : Int32)), .val (.int (2 : Int32)), .val .null, .unset] []))
  refine own_go (fun t k => XS.aloadN X0.here hx rfl (hb hby dL2d_0) rfl rfl k) ?_
  show own_Go p e below _ (s₁.setTop (mkF m 1 #[.val (.ref oa), .val (.ref cc), .val (.int (0 : Int32)), .val (.int (2 : Int32)), .val .null, .unset] [(.ref oa)]))
  obtain ⟨T2, X2, e2, st2⟩ := initO X0 hx hZ hown (hw _ (List.mem_of_getElem? (i := 15) rfl)) (hw _ (List.mem_of_getElem? (i := 16) rfl)) (hw _ (List.mem_of_getElem? (i := 17) rfl)) e0 (g := (mkF m 1 #[.val (.ref oa), .val (.ref cc), .val (.int (0 : Int32)), .val (.int (2 : Int32)), .val .null, .unset] [(.ref oa)])) rfl (by rw [hml]; rfl) rfl (hb hby dL2d_1) (by decide) (W := 0) (by show 2 * 0 + _ ≤ _; exact Nat.le_of_eq rfl) (by decide)
  refine own_go (fun t k => st2 t k) ?_
  show own_Go p e below _ (T2.setTop (mkF m 4 #[.val (.ref oa), .val (.ref cc), .val (.int (0 : Int32)), .val (.int (2 : Int32)), .val .null, .unset] []))
  refine own_go (fun t k => XS.iloadN X2.here hx rfl (hb hby dL2d_4) rfl k) ?_
  show own_Go p e below _ (T2.setTop (mkF m 5 #[.val (.ref oa), .val (.ref cc), .val (.int (0 : Int32)), .val (.int (2 : Int32)), .val .null, .unset] [(.int (2 : Int32))]))
  refine own_go (fun t k => XS.ifYes X2.here hx rfl (pc0 := 5) (pc' := 27) rfl (hb hby dL2d_5) rfl ((if0 _ _).trans (feq (by decide : ¬ ((2 : Int32) = (0 : Int32)))).2) (by decide) (by decide) k) ?_
  show own_Go p e below _ (T2.setTop (mkF m 27 #[.val (.ref oa), .val (.ref cc), .val (.int (0 : Int32)), .val (.int (2 : Int32)), .val .null, .unset] []))
  obtain ⟨T3, X3, e3, st3⟩ := getS2 X2 hx hZ hown (host := "") (Or.inl (hw _ (List.mem_of_getElem? (i := 37) rfl))) Via.refl e2 (SC.ext XO.2) (g := (mkF m 27 #[.val (.ref oa), .val (.ref cc), .val (.int (0 : Int32)), .val (.int (2 : Int32)), .val .null, .unset] [])) rfl (hb hby dL2d_27)
  refine own_go (fun t k => st3 t k) ?_
  show own_Go p e below _ (T3.setTop (mkF m 30 #[.val (.ref oa), .val (.ref cc), .val (.int (0 : Int32)), .val (.int (2 : Int32)), .val .null, .unset] [(.int cs)]))
  refine own_go (fun t k => XS.ifNo X3.here hx rfl (hb hby dL2d_30) rfl ((if0 _ _).trans (feq hcs).1) k) ?_
  show own_Go p e below _ (T3.setTop (mkF m 33 #[.val (.ref oa), .val (.ref cc), .val (.int (0 : Int32)), .val (.int (2 : Int32)), .val .null, .unset] []))
  refine own_go (fun t k => XS.aloadN X3.here hx rfl (hb hby dL2d_33) rfl rfl k) ?_
  show own_Go p e below _ (T3.setTop (mkF m 34 #[.val (.ref oa), .val (.ref cc), .val (.int (0 : Int32)), .val (.int (2 : Int32)), .val .null, .unset] [(.ref cc)]))
  refine own_go (fun t k => XS.iloadN X3.here hx rfl (hb hby dL2d_34) rfl k) ?_
  show own_Go p e below _ (T3.setTop (mkF m 35 #[.val (.ref oa), .val (.ref cc), .val (.int (0 : Int32)), .val (.int (2 : Int32)), .val .null, .unset] [(.int (0 : Int32)), (.ref cc)]))
  refine own_go (fun t k => XS.iloadN X3.here hx rfl (hb hby dL2d_35) rfl k) ?_
  show own_Go p e below _ (T3.setTop (mkF m 36 #[.val (.ref oa), .val (.ref cc), .val (.int (0 : Int32)), .val (.int (2 : Int32)), .val .null, .unset] [(.int (2 : Int32)), (.int (0 : Int32)), (.ref cc)]))
  obtain ⟨_, _, ⟨T4, L4, k4, n4⟩, -, X4, ⟨Lc4, hQ4, l4, y4, z4⟩, st4⟩ := Jvm.LawKit.callS X3 hx (y := (⟨"java/lang/StringUTF16", "compress", "([CII)[B"⟩ : MethodName)) hown (mvT hZ (hw _ (List.mem_of_getElem? (i := 48) rfl))) (mvT hZ (hw _ (List.mem_of_getElem? (i := 49) rfl))) (mvT hZ (hw _ (List.mem_of_getElem? (i := 50) rfl))) (mvT hZ (hw _ (List.mem_of_getElem? (i := 51) rfl))) (by decide) (backOf (W := 0) (rmL2c l Z a0 hw [] cc kc c0 c1 h0 n0 Z0 Ac hp0 hp1) hZ (hw _ (List.mem_of_getElem? (i := 51) rfl)) (hw _ (List.mem_of_getElem? (i := 50) rfl)) (by decide) (by decide)) (g := (mkF m 36 #[.val (.ref oa), .val (.ref cc), .val (.int (0 : Int32)), .val (.int (2 : Int32)), .val .null, .unset] [(.int (2 : Int32)), (.int (0 : Int32)), (.ref cc)])) rfl (by rw [hml]; rfl) (argsL := [(.ref cc), (.int (0 : Int32)), (.int (2 : Int32))]) (rest := []) (lenOf pdL2d_0 rfl) rfl (by show 2 * 0 + _ ≤ _; exact Nat.le_of_eq rfl) (hb hby dL2d_36) (fun _ _ => ⟨rfl, e3, (by decide : 0 + 1 ≤ _), (by decide : 0 + 2 ≤ _)⟩)
  dsimp only [Pt.U, Pt.locs, Pt.cells, Pt.slots] at X4 l4 y4 z4 st4 hQ4
  subst l4 y4 z4
  obtain ⟨d4, kd4, rfl, Nq4, K4, ge4, A4⟩ := hQ4
  have N4 := Fr.app N0 Nq4
  refine own_go (fun t k => st4 t k) ?_
  have g_d4 : n0 ≤ d4 := Nat.le_trans Z0 ge4
  have sz_d4 : h0.size ≤ d4 := Nat.le_trans (Keep.refl h0 [oa]).1 ge4
  have ne_oa_d4 : oa ≠ d4 := Nat.ne_of_lt (Nat.lt_of_lt_of_le Ea.lt ge4)
  have ne_cc_d4 : cc ≠ d4 := Nat.ne_of_lt (Nat.lt_of_lt_of_le Ac.lt ge4)
  have Ea__4 := Ea.keep K4
  have Fv__4 := Fv.keep K4 nin0
  have Fc__4 := Fc.keep K4 nin0
  have Ac__4 := Ac.keep K4 nin0
  have XO__4 := XO.keep K4 all0
  have KP4 := (Keep.refl h0 [oa]).trans K4 all0
  have sz4 := Nat.le_trans Z0 K4.1
  show own_Go p e below _ (T4.setTop (mkF m 39 #[.val (.ref oa), .val (.ref cc), .val (.int (0 : Int32)), .val (.int (2 : Int32)), .val .null, .unset] [(.ref d4)]))
  refine own_go (fun t k => XS.astore X4.here hx rfl (hb hby dL2d_39) rfl rfl (l' := #[.val (.ref oa), .val (.ref cc), .val (.int (0 : Int32)), .val (.int (2 : Int32)), .val .null, .val (.ref d4)]) rfl k) ?_
  show own_Go p e below _ (T4.setTop (mkF m 41 #[.val (.ref oa), .val (.ref cc), .val (.int (0 : Int32)), .val (.int (2 : Int32)), .val .null, .val (.ref d4)] []))
  refine own_go (fun t k => XS.aloadN X4.here hx rfl (hb hby dL2d_41) rfl rfl k) ?_
  show own_Go p e below _ (T4.setTop (mkF m 42 #[.val (.ref oa), .val (.ref cc), .val (.int (0 : Int32)), .val (.int (2 : Int32)), .val .null, .val (.ref d4)] [(.ref oa)]))
  refine own_go (fun t k => XS.aload X4.here hx rfl (hb hby dL2d_42) rfl rfl k) ?_
  show own_Go p e below _ (T4.setTop (mkF m 44 #[.val (.ref oa), .val (.ref cc), .val (.int (0 : Int32)), .val (.int (2 : Int32)), .val .null, .val (.ref d4)] [(.ref d4), (.ref oa)]))
  refine own_go (fun t k => XS.iloadN X4.here hx rfl (hb hby dL2d_44) rfl k) ?_
  show own_Go p e below _ (T4.setTop (mkF m 45 #[.val (.ref oa), .val (.ref cc), .val (.int (0 : Int32)), .val (.int (2 : Int32)), .val .null, .val (.ref d4)] [(.int (2 : Int32)), (.ref d4), (.ref oa)]))
  obtain ⟨_, _, ⟨T5, L5, k5, n5⟩, -, X5, ⟨Lc5, hQ5, l5, y5, z5⟩, st5⟩ := Jvm.LawKit.callS X4 hx (y := (⟨"java/lang/StringUTF16", "coderFromArrayLen", "([BI)B"⟩ : MethodName)) hown (mvT hZ (hw _ (List.mem_of_getElem? (i := 55) rfl))) (mvT hZ (hw _ (List.mem_of_getElem? (i := 56) rfl))) (mvT hZ (hw _ (List.mem_of_getElem? (i := 50) rfl))) (mvT hZ (hw _ (List.mem_of_getElem? (i := 57) rfl))) (by decide) (backOf (W := 1) (rmL2a l Z a0 hw [] d4 kd4 (nar .byte (c0.toInt8.toInt32)) (nar .byte (c1.toInt8.toInt32)) T4.heap n0 sz4 A4) hZ (hw _ (List.mem_of_getElem? (i := 57) rfl)) (hw _ (List.mem_of_getElem? (i := 50) rfl)) (by decide) (by decide)) (g := (mkF m 45 #[.val (.ref oa), .val (.ref cc), .val (.int (0 : Int32)), .val (.int (2 : Int32)), .val .null, .val (.ref d4)] [(.int (2 : Int32)), (.ref d4), (.ref oa)])) rfl (by rw [hml]; rfl) (argsL := [(.ref d4), (.int (2 : Int32))]) (rest := [(.ref oa)]) (lenOf pdL2d_1 rfl) rfl (by show 2 * 0 + _ ≤ _; exact Nat.le_of_eq rfl) (hb hby dL2d_45) (fun _ _ => ⟨rfl, rfl, (by decide : 0 + 1 + 0 ≤ _), (by decide : 0 + 2 + 0 ≤ _)⟩)
  dsimp only [Pt.U, Pt.locs, Pt.cells, Pt.slots] at X5 l5 y5 z5 st5 hQ5
  subst l5 y5 z5
  obtain ⟨rfl, Nq5, e5⟩ := hQ5
  have N5 := Fr.app N4 Nq5
  refine own_go (fun t k => st5 t k) ?_
  show own_Go p e below _ (T5.setTop (mkF m 48 #[.val (.ref oa), .val (.ref cc), .val (.int (0 : Int32)), .val (.int (2 : Int32)), .val .null, .val (.ref d4)] [(.int (0 : Int32)), (.ref oa)]))
  obtain ⟨T6, h6, X6, e6, W6, st6⟩ := putF X5 hx hZ hown (host := "") (Or.inl (hw _ (List.mem_of_getElem? (i := 25) rfl))) Via.refl e5 Fc__4 Ea__4 (Or.inr ⟨(hw _ (List.mem_of_getElem? (i := 21) rfl)), rfl, hnm⟩) (hw _ (List.mem_of_getElem? (i := 6) rfl)) (ty := .byte) (by decide) rfl rfl (g := (mkF m 48 #[.val (.ref oa), .val (.ref cc), .val (.int (0 : Int32)), .val (.int (2 : Int32)), .val .null, .val (.ref d4)] [(.int (0 : Int32)), (.ref oa)])) rfl rfl (hb hby dL2d_48)
  have Fw6 := Fc__4.same W6
  have Ea__6 := Ea__4.wr W6
  have Fv__6 := Fv__4.other W6 (Or.inr (slot_ne (Or.inr (hw _ (List.mem_of_getElem? (i := 20) rfl))) (Or.inr (hw _ (List.mem_of_getElem? (i := 21) rfl))) (by decide) (t := (.array .byte)) (t' := .byte) (by decide) (by decide)))
  have Ac__6 := Ac__4.other W6 ne_ca
  have XO__6 := XO__4.wr W6 g_oa
  have A4__6 := A4.other W6 (Ne.symm ne_oa_d4)
  have N6 := Fr.snoc X6 N5 g_oa
  have KP6 := KP4.wr W6 (Or.inl (List.mem_of_getElem? (i := 0) rfl))
  have sz6 := Nat.le_trans sz4 (Keep.of_wr W6).1
  refine own_go (fun t k => st6 t k) ?_
  show own_Go p e below _ (T6.setTop (mkF m 51 #[.val (.ref oa), .val (.ref cc), .val (.int (0 : Int32)), .val (.int (2 : Int32)), .val .null, .val (.ref d4)] []))
  refine own_go (fun t k => XS.aloadN X6.here hx rfl (hb hby dL2d_51) rfl rfl k) ?_
  show own_Go p e below _ (T6.setTop (mkF m 52 #[.val (.ref oa), .val (.ref cc), .val (.int (0 : Int32)), .val (.int (2 : Int32)), .val .null, .val (.ref d4)] [(.ref oa)]))
  refine own_go (fun t k => XS.aload X6.here hx rfl (hb hby dL2d_52) rfl rfl k) ?_
  show own_Go p e below _ (T6.setTop (mkF m 54 #[.val (.ref oa), .val (.ref cc), .val (.int (0 : Int32)), .val (.int (2 : Int32)), .val .null, .val (.ref d4)] [(.ref d4), (.ref oa)]))
  obtain ⟨T7, h7, X7, e7, W7, st7⟩ := putF X6 hx hZ hown (host := "") (Or.inl (hw _ (List.mem_of_getElem? (i := 24) rfl))) Via.refl e6 Fv__6 Ea__6 (Or.inr ⟨(hw _ (List.mem_of_getElem? (i := 20) rfl)), rfl, hnm⟩) (hw _ (List.mem_of_getElem? (i := 6) rfl)) (ty := (.array .byte)) (by decide) rfl rfl (g := (mkF m 54 #[.val (.ref oa), .val (.ref cc), .val (.int (0 : Int32)), .val (.int (2 : Int32)), .val .null, .val (.ref d4)] [(.ref d4), (.ref oa)])) rfl rfl (hb hby dL2d_54)
  have Fw7 := Fv__6.same W7
  have Ea__7 := Ea__6.wr W7
  have Fw6__7 := Fw6.other W7 (Or.inr (slot_ne (Or.inr (hw _ (List.mem_of_getElem? (i := 21) rfl))) (Or.inr (hw _ (List.mem_of_getElem? (i := 20) rfl))) (by decide) (t := .byte) (t' := (.array .byte)) (by decide) (by decide)))
  have Ac__7 := Ac__6.other W7 ne_ca
  have XO__7 := XO__6.wr W7 g_oa
  have A4__7 := A4__6.other W7 (Ne.symm ne_oa_d4)
  have N7 := Fr.snoc X7 N6 g_oa
  have KP7 := KP6.wr W7 (Or.inl (List.mem_of_getElem? (i := 0) rfl))
  have sz7 := Nat.le_trans sz6 (Keep.of_wr W7).1
  refine own_go (fun t k => st7 t k) ?_
  show own_Go p e below _ (T7.setTop (mkF m 57 #[.val (.ref oa), .val (.ref cc), .val (.int (0 : Int32)), .val (.int (2 : Int32)), .val .null, .val (.ref d4)] []))
  exact own_ret0 X7 hx Bd.returns (hb hby dL2d_57) (by rw [e7]; exact ⟨rfl, N7, KP7, Fw6__7, _, _, sz_d4, Fw7, A4__7⟩) (by decide) (by decide)
theorem dL2e_0 : decode jdk_42_method_3_code 0 = .ok (.aload_n 0, 1) := by decide +kernel
theorem dL2e_1 : decode jdk_42_method_3_code 1 = .ok (.aload_n 1, 1) := by decide +kernel
theorem dL2e_2 : decode jdk_42_method_3_code 2 = .ok (.iconst 0, 1) := by decide +kernel
theorem dL2e_3 : decode jdk_42_method_3_code 3 = .ok (.aload_n 1, 1) := by decide +kernel
theorem dL2e_4 : decode jdk_42_method_3_code 4 = .ok (.arraylength, 1) := by decide +kernel
theorem dL2e_5 : decode jdk_42_method_3_code 5 = .ok (.aconst_null, 1) := by decide +kernel
theorem dL2e_6 : decode jdk_42_method_3_code 6 = .ok (.invokespecial 27, 3) := by decide +kernel
theorem dL2e_9 : decode jdk_42_method_3_code 9 = .ok (.return_, 1) := by decide +kernel
theorem pnL2e : plainName "java/lang/String" = true := by first | (simp [plainName, overriddenIn]; done) | decide +kernel
theorem pdL2e_0 : parseMethodDescriptor "([CIILjava/lang/Void;)V" = some ⟨[(.array .char), .int, .int, (.object "java/lang/Void")], none⟩ := by decide +kernel
theorem efL2e (m : MethodId) (x0 : Addr) (x1 : Addr) : entryFrame m #[(.ref x0), (.ref x1)] 2 = mkF m 0 #[.val (.ref x0), .val (.ref x1)] [] := by first | (simp [entryFrame, mkF, argsToLocals, Value.category]; done) | rfl
set_option maxRecDepth 65536 in
set_option maxHeartbeats 40000000 in
theorem rmL2e (l : Launch) (Z : State) (a0 : Array Value) (hw : ∀ d ∈ tables_1, d.before a0 Z = true) (ws : List Jvm.Cond) (oa cc : Addr) (kc : ClassId) (cs : Int32) (c0 c1 : Int32) (h0 : Heap) (n0 : Nat) (Z0 : n0 ≤ h0.size) (Ea : Exa Z h0 oa "java/lang/String") (Fv : Fld Z h0 oa "java/lang/String" "value" "[B" .null) (Fc : Fld Z h0 oa "java/lang/String" "coder" "B" (.int (0 : Int32))) (g_oa : n0 ≤ oa) (ne_ca : cc ≠ oa) (Ac : Arv Z h0 cc kc .char (2 : Int32) [.int c0, .int c1] (.int (0 : Int32))) (SC : Sta Z Z.heap "java/lang/String" "COMPACT_STRINGS" "Z" (.int cs)) (hcs : ¬ cs = 0) (XO : Old Z n0 h0) (hp0 : ¬ (255 : Int32) < c0) (hp1 : ¬ (255 : Int32) < c1) :
    MetFree l (⟨"java/lang/String", "<init>", "([C)V"⟩ : MethodName) (head1 (Jvm.Cond.code (⟨"java/lang/String", "<init>", "([C)V"⟩ : MethodName) jdk_42_method_3_code 2 none :: ws) ({ frames := 3, cells := 1, slots := 2, locals := 52 } : Room)) (fun a U => a = #[(.ref oa), (.ref cc)] ∧ Z.Warmed39 U.vm ∧ U.heap = h0) (fun _ _ _ _ _ => True) (fun _ U o U' => ∃ v L, o = .returned v ∧ own_QL2d Z oa c0 c1 h0 n0 v U'.heap L ∧ FrameEnd U o U' L ({ frames := 3, cells := 1, slots := 2, locals := 52 } : Room).cells ({ frames := 3, cells := 1, slots := 2, locals := 52 } : Room).slots) := by
  refine MetFree.of_bodySF (plainFor_of_name pnL2e) hisR ?_
  intro p e s m args below meth c s₁ Bd hml0 hP hK
  obtain ⟨rfl, hZ, hh⟩ := hP
  have hx := Bd.exec
  have hby := Bd.bytes
  have hml : c.maxLocals = 2 := hml0
  have hown : s.vm.findClass "java/lang/String" = some m.cls := findClass_of_methodNamed Bd.named
  have hnm := (name_of_methodNamed Bd.named Bd.method).1
  have hlk : meth.locks = false := Bd.notSynchronized
  have X0 : Stand p l e ({ frames := 3, cells := 1, slots := 2, locals := 52 } : Room) s m #[(.ref oa), (.ref cc)] below meth c s₁ [] 0 0 := Stand.of_body Bd
  have e0 : s₁.heap = h0 := by rw [← hh, Bd.state]; rfl
  have N0 := Fr.nil n0
  refine own_go (fun t k => castTop (efL2e m oa cc) k) ?_
  show own_Go p e below _ (s₁.setTop (mkF m 0 #[.val (.ref oa), .val (.ref cc)] []))
  refine own_go (fun t k => XS.aloadN X0.here hx rfl (hb hby dL2e_0) rfl rfl k) ?_
  show own_Go p e below _ (s₁.setTop (mkF m 1 #[.val (.ref oa), .val (.ref cc)] [(.ref oa)]))
  refine own_go (fun t k => XS.aloadN X0.here hx rfl (hb hby dL2e_1) rfl rfl k) ?_
  show own_Go p e below _ (s₁.setTop (mkF m 2 #[.val (.ref oa), .val (.ref cc)] [(.ref cc), (.ref oa)]))
  refine own_go (fun t k => XS.iconst X0.here hx rfl (hb hby dL2e_2) k) ?_
  show own_Go p e below _ (s₁.setTop (mkF m 3 #[.val (.ref oa), .val (.ref cc)] [(.int (0 : Int32)), (.ref cc), (.ref oa)]))
  refine own_go (fun t k => XS.aloadN X0.here hx rfl (hb hby dL2e_3) rfl rfl k) ?_
  show own_Go p e below _ (s₁.setTop (mkF m 4 #[.val (.ref oa), .val (.ref cc)] [(.ref cc), (.int (0 : Int32)), (.ref cc), (.ref oa)]))
  obtain ⟨cl1, Ar1, -, Sa1, Na1, -, -⟩ := id Ac
  have ln1 := len_of Sa1 Na1
  refine own_go (fun t k => X0.arraylength hx (by rw [e0]; exact Ar1.1) (State.isArrayOf_alike hZ.alike Ar1.2.1) (g := (mkF m 4 #[.val (.ref oa), .val (.ref cc)] [(.ref cc), (.int (0 : Int32)), (.ref cc), (.ref oa)])) rfl rfl (hb hby dL2e_4) t (by rw [ln1]; exact k)) ?_
  show own_Go p e below _ (s₁.setTop (mkF m 5 #[.val (.ref oa), .val (.ref cc)] [(.int (2 : Int32)), (.int (0 : Int32)), (.ref cc), (.ref oa)]))
  refine own_go (fun t k => XS.aconstNull X0.here hx rfl (hb hby dL2e_5) k) ?_
  show own_Go p e below _ (s₁.setTop (mkF m 6 #[.val (.ref oa), .val (.ref cc)] [.null, (.int (2 : Int32)), (.int (0 : Int32)), (.ref cc), (.ref oa)]))
  obtain ⟨_, _, ⟨T2, L2, k2, n2⟩, -, X2, ⟨Lc2, hQ2, l2, y2, z2⟩, st2⟩ := X0.specialBack hx (y := (⟨"java/lang/String", "<init>", "([CIILjava/lang/Void;)V"⟩ : MethodName)) rfl hown (mvT hZ (hw _ (List.mem_of_getElem? (i := 11) rfl))) (mvT hZ (hw _ (List.mem_of_getElem? (i := 12) rfl))) (mvT hZ (hw _ (List.mem_of_getElem? (i := 14) rfl))) (by decide) (backOf (W := 0) (rmL2d l Z a0 hw [] oa cc kc cs c0 c1 h0 n0 Z0 Ea Fv Fc g_oa ne_ca Ac SC hcs XO hp0 hp1) hZ (hw _ (List.mem_of_getElem? (i := 14) rfl)) (hw _ (List.mem_of_getElem? (i := 7) rfl)) (by decide) (by decide)) (g := (mkF m 6 #[.val (.ref oa), .val (.ref cc)] [.null, (.int (2 : Int32)), (.int (0 : Int32)), (.ref cc), (.ref oa)])) rfl (by rw [hml]; rfl) (Steps.refl _) (a := oa) (argsL := [(.ref cc), (.int (0 : Int32)), (.int (2 : Int32)), .null]) (rest := []) (lenOf pdL2e_0 rfl) rfl (by show 2 * 0 + _ ≤ _; exact Nat.le_of_eq rfl) (hb hby dL2e_6) (fun _ _ => ⟨rfl, e0, (by decide : 0 + 1 ≤ _), (by decide : 0 + 2 ≤ _)⟩)
  dsimp only [Pt.U, Pt.locs, Pt.cells, Pt.slots] at X2 l2 y2 z2 st2 hQ2
  subst l2 y2 z2
  obtain ⟨rfl, Nq2, K2, Fc2, d2, kd2, ge2, Fv2, A2⟩ := hQ2
  have N2 := Fr.app N0 Nq2
  refine own_go (fun t k => st2.trans k) ?_
  have g_d2 : n0 ≤ d2 := Nat.le_trans Z0 ge2
  have sz_d2 : h0.size ≤ d2 := Nat.le_trans (Keep.refl h0 [oa]).1 ge2
  have ne_oa_d2 : oa ≠ d2 := Nat.ne_of_lt (Nat.lt_of_lt_of_le Ea.lt ge2)
  have ne_cc_d2 : cc ≠ d2 := Nat.ne_of_lt (Nat.lt_of_lt_of_le Ac.lt ge2)
  have Ea__2 := Ea.keep K2
  have Ac__2 := Ac.keep K2 (ninS ne_ca nin0)
  have XO__2 := XO.keep K2 (allS g_oa all0)
  have KP2 := (Keep.refl h0 [oa]).trans K2 (allS (Or.inl (List.mem_of_getElem? (i := 0) rfl)) all0)
  have sz2 := Nat.le_trans Z0 K2.1
  show own_Go p e below _ (T2.setTop (mkF m 9 #[.val (.ref oa), .val (.ref cc)] []))
  exact own_ret0 X2 hx Bd.returns (hb hby dL2e_9) (⟨rfl, N2, KP2, Fc2, _, _, sz_d2, Fv2, A2⟩) (by decide) (by decide)
theorem dL3b_0 : decode jdk_52_method_21_code 0 = .ok (.iconst 0, 1) := by decide +kernel
theorem dL3b_1 : decode jdk_52_method_21_code 1 = .ok (.istore 5, 2) := by decide +kernel
theorem dL3b_3 : decode jdk_52_method_21_code 3 = .ok (.iload 5, 2) := by decide +kernel
theorem dL3b_5 : decode jdk_52_method_21_code 5 = .ok (.iload 4, 2) := by decide +kernel
theorem dL3b_7 : decode jdk_52_method_21_code 7 = .ok (.if_icmp .ge 37, 3) := by decide +kernel
theorem dL3b_10 : decode jdk_52_method_21_code 10 = .ok (.aload_n 0, 1) := by decide +kernel
theorem dL3b_11 : decode jdk_52_method_21_code 11 = .ok (.iload_n 1, 1) := by decide +kernel
theorem dL3b_12 : decode jdk_52_method_21_code 12 = .ok (.caload, 1) := by decide +kernel
theorem dL3b_13 : decode jdk_52_method_21_code 13 = .ok (.istore 6, 2) := by decide +kernel
theorem dL3b_15 : decode jdk_52_method_21_code 15 = .ok (.iload 6, 2) := by decide +kernel
theorem dL3b_17 : decode jdk_52_method_21_code 17 = .ok (.sipush 255, 3) := by decide +kernel
theorem dL3b_20 : decode jdk_52_method_21_code 20 = .ok (.if_icmp .le 6, 3) := by decide +kernel
theorem dL3b_26 : decode jdk_52_method_21_code 26 = .ok (.aload_n 2, 1) := by decide +kernel
theorem dL3b_27 : decode jdk_52_method_21_code 27 = .ok (.iload_n 3, 1) := by decide +kernel
theorem dL3b_28 : decode jdk_52_method_21_code 28 = .ok (.iload 6, 2) := by decide +kernel
theorem dL3b_30 : decode jdk_52_method_21_code 30 = .ok (.i2b, 1) := by decide +kernel
theorem dL3b_31 : decode jdk_52_method_21_code 31 = .ok (.bastore, 1) := by decide +kernel
theorem dL3b_32 : decode jdk_52_method_21_code 32 = .ok (.iinc 1 1, 3) := by decide +kernel
theorem dL3b_35 : decode jdk_52_method_21_code 35 = .ok (.iinc 3 1, 3) := by decide +kernel
theorem dL3b_38 : decode jdk_52_method_21_code 38 = .ok (.iinc 5 1, 3) := by decide +kernel
theorem dL3b_41 : decode jdk_52_method_21_code 41 = .ok (.goto (-38), 3) := by decide +kernel
theorem dL3b_44 : decode jdk_52_method_21_code 44 = .ok (.iload 4, 2) := by decide +kernel
theorem dL3b_46 : decode jdk_52_method_21_code 46 = .ok (.ireturn, 1) := by decide +kernel
theorem pnL3b : plainName "java/lang/StringUTF16" = true := by first | (simp [plainName, overriddenIn]; done) | decide +kernel
theorem efL3b (m : MethodId) (x0 : Addr) (x1 : Int32) (x2 : Addr) (x3 : Int32) (x4 : Int32) : entryFrame m #[(.ref x0), (.int x3), (.ref x2), (.int x3), (.int x4)] 7 = mkF m 0 #[.val (.ref x0), .val (.int x3), .val (.ref x2), .val (.int x3), .val (.int x4), .unset, .unset] [] := by first | (simp [entryFrame, mkF, argsToLocals, Value.category]; done) | rfl
def own_QL3b (Z : State) (u : Addr) (ku : ClassId) (c0 c1 c2 : Int32) (h0 : Heap) (n0 : Nat) (v : Option Value) (h : Heap) (L : List Loc) : Prop := v = some (.int (3 : Int32)) ∧ Fr n0 L ∧ Keep h0 h [u] ∧ Arv Z h u ku .byte (3 : Int32) [.int (nar .byte (c0.toInt8.toInt32)), .int (nar .byte (c1.toInt8.toInt32)), .int (nar .byte (c2.toInt8.toInt32))] (.int (0 : Int32))
set_option maxRecDepth 65536 in
set_option maxHeartbeats 40000000 in
theorem rmL3b (l : Launch) (Z : State) (a0 : Array Value) (hw : ∀ d ∈ tables_1, d.before a0 Z = true) (ws : List Jvm.Cond) (cc u : Addr) (kc ku : ClassId) (c0 c1 c2 : Int32) (h0 : Heap) (n0 : Nat) (Z0 : n0 ≤ h0.size) (Ac : Arv Z h0 cc kc .char (3 : Int32) [.int c0, .int c1, .int c2] (.int (0 : Int32))) (Au : Arv Z h0 u ku .byte (3 : Int32) [.int (0 : Int32), .int (0 : Int32), .int (0 : Int32)] (.int (0 : Int32))) (g_u : n0 ≤ u) (ne_cu : cc ≠ u) (hp0 : ¬ (255 : Int32) < c0) (hp1 : ¬ (255 : Int32) < c1) (hp2 : ¬ (255 : Int32) < c2) :
    MetFree l (⟨"java/lang/StringUTF16", "compress", "([CI[BII)I"⟩ : MethodName) (head1 (Jvm.Cond.code (⟨"java/lang/StringUTF16", "compress", "([CI[BII)I"⟩ : MethodName) jdk_52_method_21_code 7 (some .int) :: ws) ({ frames := 0, cells := 0, slots := 0, locals := 0 } : Room)) (fun a U => a = #[(.ref cc), (.int (0 : Int32)), (.ref u), (.int (0 : Int32)), (.int (3 : Int32))] ∧ Z.Warmed39 U.vm ∧ U.heap = h0) (fun _ _ _ _ _ => True) (fun _ U o U' => ∃ v L, o = .returned v ∧ own_QL3b Z u ku c0 c1 c2 h0 n0 v U'.heap L ∧ FrameEnd U o U' L ({ frames := 0, cells := 0, slots := 0, locals := 0 } : Room).cells ({ frames := 0, cells := 0, slots := 0, locals := 0 } : Room).slots) := by
  refine MetFree.of_bodySF (plainFor_of_name pnL3b) hisR ?_
  intro p e s m args below meth c s₁ Bd hml0 hP hK
  obtain ⟨rfl, hZ, hh⟩ := hP
  have hx := Bd.exec
  have hby := Bd.bytes
  have hml : c.maxLocals = 7 := hml0
  have hown : s.vm.findClass "java/lang/StringUTF16" = some m.cls := findClass_of_methodNamed Bd.named
  have hnm := (name_of_methodNamed Bd.named Bd.method).1
  have hlk : meth.locks = false := Bd.notSynchronized
  have X0 : Stand p l e ({ frames := 0, cells := 0, slots := 0, locals := 0 } : Room) s m #[(.ref cc), (.int (0 : Int32)), (.ref u), (.int (0 : Int32)), (.int (3 : Int32))] below meth c s₁ [] 0 0 := Stand.of_body Bd
  have e0 : s₁.heap = h0 := by rw [← hh, Bd.state]; rfl
  have N0 := Fr.nil n0
  refine own_go (fun t k => castTop (efL3b m cc (0 : Int32) u (0 : Int32) (3 : Int32)) k) ?_
  show own_Go p e below _ (s₁.setTop (mkF m 0 #[.val (.ref cc), .val (.int (0 : Int32)), .val (.ref u), .val (.int (0 : Int32)), .val (.int (3 : Int32)), .unset, .unset] []))
  refine own_go (fun t k => XS.iconst X0.here hx rfl (hb hby dL3b_0) k) ?_
  show own_Go p e below _ (s₁.setTop (mkF m 1 #[.val (.ref cc), .val (.int (0 : Int32)), .val (.ref u), .val (.int (0 : Int32)), .val (.int (3 : Int32)), .unset, .unset] [(.int (0 : Int32))]))
  refine own_go (fun t k => XS.istore X0.here hx rfl (hb hby dL3b_1) rfl (l' := #[.val (.ref cc), .val (.int (0 : Int32)), .val (.ref u), .val (.int (0 : Int32)), .val (.int (3 : Int32)), .val (.int (0 : Int32)), .unset]) rfl k) ?_
  show own_Go p e below _ (s₁.setTop (mkF m 3 #[.val (.ref cc), .val (.int (0 : Int32)), .val (.ref u), .val (.int (0 : Int32)), .val (.int (3 : Int32)), .val (.int (0 : Int32)), .unset] []))
  refine own_go (fun t k => XS.iload X0.here hx rfl (hb hby dL3b_3) rfl k) ?_
  show own_Go p e below _ (s₁.setTop (mkF m 5 #[.val (.ref cc), .val (.int (0 : Int32)), .val (.ref u), .val (.int (0 : Int32)), .val (.int (3 : Int32)), .val (.int (0 : Int32)), .unset] [(.int (0 : Int32))]))
  refine own_go (fun t k => XS.iload X0.here hx rfl (hb hby dL3b_5) rfl k) ?_
  show own_Go p e below _ (s₁.setTop (mkF m 7 #[.val (.ref cc), .val (.int (0 : Int32)), .val (.ref u), .val (.int (0 : Int32)), .val (.int (3 : Int32)), .val (.int (0 : Int32)), .unset] [(.int (3 : Int32)), (.int (0 : Int32))]))
  refine own_go (fun t k => XS.icmpNo X0.here hx rfl (hb hby dL3b_7) rfl (tlt (by decide : (0 : Int32) < (3 : Int32))).2.1 k) ?_
  show own_Go p e below _ (s₁.setTop (mkF m 10 #[.val (.ref cc), .val (.int (0 : Int32)), .val (.ref u), .val (.int (0 : Int32)), .val (.int (3 : Int32)), .val (.int (0 : Int32)), .unset] []))
  refine own_go (fun t k => XS.aloadN X0.here hx rfl (hb hby dL3b_10) rfl rfl k) ?_
  show own_Go p e below _ (s₁.setTop (mkF m 11 #[.val (.ref cc), .val (.int (0 : Int32)), .val (.ref u), .val (.int (0 : Int32)), .val (.int (3 : Int32)), .val (.int (0 : Int32)), .unset] [(.ref cc)]))
  refine own_go (fun t k => XS.iloadN X0.here hx rfl (hb hby dL3b_11) rfl k) ?_
  show own_Go p e below _ (s₁.setTop (mkF m 12 #[.val (.ref cc), .val (.int (0 : Int32)), .val (.ref u), .val (.int (0 : Int32)), .val (.int (3 : Int32)), .val (.int (0 : Int32)), .unset] [(.int (0 : Int32)), (.ref cc)]))
  obtain ⟨cl1, Ar1, qa1, Sa1, Na1, Ha1, Ga1⟩ := id Ac
  have hin1 : ¬ ((0 : Int32) < 0 ∨ cl1.slots.size ≤ ((0 : Int32)).toNatClampNeg) := inb_of Sa1 ⟨by decide, by decide⟩
  have hat1 : cl1.slots[((0 : Int32)).toNatClampNeg]? = some (.int c0) := Ha1.at hin1 rfl
  refine own_go (fun t k => X0.caload hx (j := (0 : Int32)) (v := (.int c0)) (by rw [e0]; exact Ar1.1) (State.isArrayOf_alike hZ.alike Ar1.2.1) Ar1.2.2 hin1 hat1 (g := (mkF m 12 #[.val (.ref cc), .val (.int (0 : Int32)), .val (.ref u), .val (.int (0 : Int32)), .val (.int (3 : Int32)), .val (.int (0 : Int32)), .unset] [(.int (0 : Int32)), (.ref cc)])) rfl rfl (hb hby dL3b_12) t k) ?_
  show own_Go p e below _ (s₁.setTop (mkF m 13 #[.val (.ref cc), .val (.int (0 : Int32)), .val (.ref u), .val (.int (0 : Int32)), .val (.int (3 : Int32)), .val (.int (0 : Int32)), .unset] [(.int c0)]))
  refine own_go (fun t k => XS.istore X0.here hx rfl (hb hby dL3b_13) rfl (l' := #[.val (.ref cc), .val (.int (0 : Int32)), .val (.ref u), .val (.int (0 : Int32)), .val (.int (3 : Int32)), .val (.int (0 : Int32)), .val (.int c0)]) rfl k) ?_
  show own_Go p e below _ (s₁.setTop (mkF m 15 #[.val (.ref cc), .val (.int (0 : Int32)), .val (.ref u), .val (.int (0 : Int32)), .val (.int (3 : Int32)), .val (.int (0 : Int32)), .val (.int c0)] []))
  refine own_go (fun t k => XS.iload X0.here hx rfl (hb hby dL3b_15) rfl k) ?_
  show own_Go p e below _ (s₁.setTop (mkF m 17 #[.val (.ref cc), .val (.int (0 : Int32)), .val (.ref u), .val (.int (0 : Int32)), .val (.int (3 : Int32)), .val (.int (0 : Int32)), .val (.int c0)] [(.int c0)]))
  refine own_go (fun t k => XS.sipush X0.here hx rfl (hb hby dL3b_17) k) ?_
  show own_Go p e below _ (s₁.setTop (mkF m 20 #[.val (.ref cc), .val (.int (0 : Int32)), .val (.ref u), .val (.int (0 : Int32)), .val (.int (3 : Int32)), .val (.int (0 : Int32)), .val (.int c0)] [(.int (255 : Int32)), (.int c0)]))
  refine own_go (fun t k => XS.icmpYes X0.here hx rfl (pc0 := 20) (pc' := 26) rfl (hb hby dL3b_20) rfl (flt hp0).2.2.2 (by decide) (by decide) k) ?_
  show own_Go p e below _ (s₁.setTop (mkF m 26 #[.val (.ref cc), .val (.int (0 : Int32)), .val (.ref u), .val (.int (0 : Int32)), .val (.int (3 : Int32)), .val (.int (0 : Int32)), .val (.int c0)] []))
  refine own_go (fun t k => XS.aloadN X0.here hx rfl (hb hby dL3b_26) rfl rfl k) ?_
  show own_Go p e below _ (s₁.setTop (mkF m 27 #[.val (.ref cc), .val (.int (0 : Int32)), .val (.ref u), .val (.int (0 : Int32)), .val (.int (3 : Int32)), .val (.int (0 : Int32)), .val (.int c0)] [(.ref u)]))
  refine own_go (fun t k => XS.iloadN X0.here hx rfl (hb hby dL3b_27) rfl k) ?_
  show own_Go p e below _ (s₁.setTop (mkF m 28 #[.val (.ref cc), .val (.int (0 : Int32)), .val (.ref u), .val (.int (0 : Int32)), .val (.int (3 : Int32)), .val (.int (0 : Int32)), .val (.int c0)] [(.int (0 : Int32)), (.ref u)]))
  refine own_go (fun t k => XS.iload X0.here hx rfl (hb hby dL3b_28) rfl k) ?_
  show own_Go p e below _ (s₁.setTop (mkF m 30 #[.val (.ref cc), .val (.int (0 : Int32)), .val (.ref u), .val (.int (0 : Int32)), .val (.int (3 : Int32)), .val (.int (0 : Int32)), .val (.int c0)] [(.int c0), (.int (0 : Int32)), (.ref u)]))
  refine own_go (fun t k => XS.i2b X0.here hx rfl (hb hby dL3b_30) rfl k) ?_
  show own_Go p e below _ (s₁.setTop (mkF m 31 #[.val (.ref cc), .val (.int (0 : Int32)), .val (.ref u), .val (.int (0 : Int32)), .val (.int (3 : Int32)), .val (.int (0 : Int32)), .val (.int c0)] [(.int (c0.toInt8.toInt32)), (.int (0 : Int32)), (.ref u)]))
  obtain ⟨cl2, Ar2, qa2, Sa2, Na2, Ha2, Ga2⟩ := id Au
  have hin2 : ¬ ((0 : Int32) < 0 ∨ cl2.slots.size ≤ ((0 : Int32)).toNatClampNeg) := inb_of Sa2 ⟨by decide, by decide⟩
  obtain ⟨T2, h2, X2, e2, W2, st2⟩ := stB X0 hx hZ e0 Ar2 (j := (0 : Int32)) hin2 (g := (mkF m 31 #[.val (.ref cc), .val (.int (0 : Int32)), .val (.ref u), .val (.int (0 : Int32)), .val (.int (3 : Int32)), .val (.int (0 : Int32)), .val (.int c0)] [(.int (c0.toInt8.toInt32)), (.int (0 : Int32)), (.ref u)])) rfl rfl (hb hby dL3b_31)
  have Vw2 : Arv Z h2 u ku .byte (3 : Int32) [(.int (nar .byte (c0.toInt8.toInt32))), (.int (0 : Int32)), (.int (0 : Int32))] (.int (0 : Int32)) := Arv.set Ar2 qa2 Sa2 Na2 Ha2 Ga2 (fits_nar_byte _) W2 0 rfl (Nat.le_of_ble_eq_true rfl)
  have Ac__2 := Ac.other W2 ne_cu
  have N2 := Fr.snoc X2 N0 g_u
  have KP2 := (Keep.refl h0 [u]).wr W2 (Or.inl (List.mem_of_getElem? (i := 0) rfl))
  have sz2 := Nat.le_trans Z0 (Keep.of_wr W2).1
  refine own_go (fun t k => st2 t k) ?_
  show own_Go p e below _ (T2.setTop (mkF m 32 #[.val (.ref cc), .val (.int (0 : Int32)), .val (.ref u), .val (.int (0 : Int32)), .val (.int (3 : Int32)), .val (.int (0 : Int32)), .val (.int c0)] []))
  refine own_go (fun t k => XS.iinc X2.here hx rfl (hb hby dL3b_32) rfl (l' := #[.val (.ref cc), .val (.int (1 : Int32)), .val (.ref u), .val (.int (0 : Int32)), .val (.int (3 : Int32)), .val (.int (0 : Int32)), .val (.int c0)]) rfl k) ?_
  show own_Go p e below _ (T2.setTop (mkF m 35 #[.val (.ref cc), .val (.int (1 : Int32)), .val (.ref u), .val (.int (0 : Int32)), .val (.int (3 : Int32)), .val (.int (0 : Int32)), .val (.int c0)] []))
  refine own_go (fun t k => XS.iinc X2.here hx rfl (hb hby dL3b_35) rfl (l' := #[.val (.ref cc), .val (.int (1 : Int32)), .val (.ref u), .val (.int (1 : Int32)), .val (.int (3 : Int32)), .val (.int (0 : Int32)), .val (.int c0)]) rfl k) ?_
  show own_Go p e below _ (T2.setTop (mkF m 38 #[.val (.ref cc), .val (.int (1 : Int32)), .val (.ref u), .val (.int (1 : Int32)), .val (.int (3 : Int32)), .val (.int (0 : Int32)), .val (.int c0)] []))
  refine own_go (fun t k => XS.iinc X2.here hx rfl (hb hby dL3b_38) rfl (l' := #[.val (.ref cc), .val (.int (1 : Int32)), .val (.ref u), .val (.int (1 : Int32)), .val (.int (3 : Int32)), .val (.int (1 : Int32)), .val (.int c0)]) rfl k) ?_
  show own_Go p e below _ (T2.setTop (mkF m 41 #[.val (.ref cc), .val (.int (1 : Int32)), .val (.ref u), .val (.int (1 : Int32)), .val (.int (3 : Int32)), .val (.int (1 : Int32)), .val (.int c0)] []))
  refine own_go (fun t k => XS.goto X2.here hx rfl (pc0 := 41) (pc' := 3) rfl (hb hby dL3b_41) (by decide) (by decide) k) ?_
  show own_Go p e below _ (T2.setTop (mkF m 3 #[.val (.ref cc), .val (.int (1 : Int32)), .val (.ref u), .val (.int (1 : Int32)), .val (.int (3 : Int32)), .val (.int (1 : Int32)), .val (.int c0)] []))
  refine own_go (fun t k => XS.iload X2.here hx rfl (hb hby dL3b_3) rfl k) ?_
  show own_Go p e below _ (T2.setTop (mkF m 5 #[.val (.ref cc), .val (.int (1 : Int32)), .val (.ref u), .val (.int (1 : Int32)), .val (.int (3 : Int32)), .val (.int (1 : Int32)), .val (.int c0)] [(.int (1 : Int32))]))
  refine own_go (fun t k => XS.iload X2.here hx rfl (hb hby dL3b_5) rfl k) ?_
  show own_Go p e below _ (T2.setTop (mkF m 7 #[.val (.ref cc), .val (.int (1 : Int32)), .val (.ref u), .val (.int (1 : Int32)), .val (.int (3 : Int32)), .val (.int (1 : Int32)), .val (.int c0)] [(.int (3 : Int32)), (.int (1 : Int32))]))
  refine own_go (fun t k => XS.icmpNo X2.here hx rfl (hb hby dL3b_7) rfl (tlt (by decide : (1 : Int32) < (3 : Int32))).2.1 k) ?_
  show own_Go p e below _ (T2.setTop (mkF m 10 #[.val (.ref cc), .val (.int (1 : Int32)), .val (.ref u), .val (.int (1 : Int32)), .val (.int (3 : Int32)), .val (.int (1 : Int32)), .val (.int c0)] []))
  refine own_go (fun t k => XS.aloadN X2.here hx rfl (hb hby dL3b_10) rfl rfl k) ?_
  show own_Go p e below _ (T2.setTop (mkF m 11 #[.val (.ref cc), .val (.int (1 : Int32)), .val (.ref u), .val (.int (1 : Int32)), .val (.int (3 : Int32)), .val (.int (1 : Int32)), .val (.int c0)] [(.ref cc)]))
  refine own_go (fun t k => XS.iloadN X2.here hx rfl (hb hby dL3b_11) rfl k) ?_
  show own_Go p e below _ (T2.setTop (mkF m 12 #[.val (.ref cc), .val (.int (1 : Int32)), .val (.ref u), .val (.int (1 : Int32)), .val (.int (3 : Int32)), .val (.int (1 : Int32)), .val (.int c0)] [(.int (1 : Int32)), (.ref cc)]))
  obtain ⟨cl3, Ar3, qa3, Sa3, Na3, Ha3, Ga3⟩ := id Ac__2
  have hin3 : ¬ ((1 : Int32) < 0 ∨ cl3.slots.size ≤ ((1 : Int32)).toNatClampNeg) := inb_of Sa3 ⟨by decide, by decide⟩
  have hat3 : cl3.slots[((1 : Int32)).toNatClampNeg]? = some (.int c1) := Ha3.at hin3 rfl
  refine own_go (fun t k => X2.caload hx (j := (1 : Int32)) (v := (.int c1)) (by rw [e2]; exact Ar3.1) (State.isArrayOf_alike hZ.alike Ar3.2.1) Ar3.2.2 hin3 hat3 (g := (mkF m 12 #[.val (.ref cc), .val (.int (1 : Int32)), .val (.ref u), .val (.int (1 : Int32)), .val (.int (3 : Int32)), .val (.int (1 : Int32)), .val (.int c0)] [(.int (1 : Int32)), (.ref cc)])) rfl rfl (hb hby dL3b_12) t k) ?_
  show own_Go p e below _ (T2.setTop (mkF m 13 #[.val (.ref cc), .val (.int (1 : Int32)), .val (.ref u), .val (.int (1 : Int32)), .val (.int (3 : Int32)), .val (.int (1 : Int32)), .val (.int c0)] [(.int c1)]))
  refine own_go (fun t k => XS.istore X2.here hx rfl (hb hby dL3b_13) rfl (l' := #[.val (.ref cc), .val (.int (1 : Int32)), .val (.ref u), .val (.int (1 : Int32)), .val (.int (3 : Int32)), .val (.int (1 : Int32)), .val (.int c1)]) rfl k) ?_
  show own_Go p e below _ (T2.setTop (mkF m 15 #[.val (.ref cc), .val (.int (1 : Int32)), .val (.ref u), .val (.int (1 : Int32)), .val (.int (3 : Int32)), .val (.int (1 : Int32)), .val (.int c1)] []))
  refine own_go (fun t k => XS.iload X2.here hx rfl (hb hby dL3b_15) rfl k) ?_
  show own_Go p e below _ (T2.setTop (mkF m 17 #[.val (.ref cc), .val (.int (1 : Int32)), .val (.ref u), .val (.int (1 : Int32)), .val (.int (3 : Int32)), .val (.int (1 : Int32)), .val (.int c1)] [(.int c1)]))
  refine own_go (fun t k => XS.sipush X2.here hx rfl (hb hby dL3b_17) k) ?_
  show own_Go p e below _ (T2.setTop (mkF m 20 #[.val (.ref cc), .val (.int (1 : Int32)), .val (.ref u), .val (.int (1 : Int32)), .val (.int (3 : Int32)), .val (.int (1 : Int32)), .val (.int c1)] [(.int (255 : Int32)), (.int c1)]))
  refine own_go (fun t k => XS.icmpYes X2.here hx rfl (pc0 := 20) (pc' := 26) rfl (hb hby dL3b_20) rfl (flt hp1).2.2.2 (by decide) (by decide) k) ?_
  show own_Go p e below _ (T2.setTop (mkF m 26 #[.val (.ref cc), .val (.int (1 : Int32)), .val (.ref u), .val (.int (1 : Int32)), .val (.int (3 : Int32)), .val (.int (1 : Int32)), .val (.int c1)] []))
  refine own_go (fun t k => XS.aloadN X2.here hx rfl (hb hby dL3b_26) rfl rfl k) ?_
  show own_Go p e below _ (T2.setTop (mkF m 27 #[.val (.ref cc), .val (.int (1 : Int32)), .val (.ref u), .val (.int (1 : Int32)), .val (.int (3 : Int32)), .val (.int (1 : Int32)), .val (.int c1)] [(.ref u)]))
  refine own_go (fun t k => XS.iloadN X2.here hx rfl (hb hby dL3b_27) rfl k) ?_
  show own_Go p e below _ (T2.setTop (mkF m 28 #[.val (.ref cc), .val (.int (1 : Int32)), .val (.ref u), .val (.int (1 : Int32)), .val (.int (3 : Int32)), .val (.int (1 : Int32)), .val (.int c1)] [(.int (1 : Int32)), (.ref u)]))
  refine own_go (fun t k => XS.iload X2.here hx rfl (hb hby dL3b_28) rfl k) ?_
  show own_Go p e below _ (T2.setTop (mkF m 30 #[.val (.ref cc), .val (.int (1 : Int32)), .val (.ref u), .val (.int (1 : Int32)), .val (.int (3 : Int32)), .val (.int (1 : Int32)), .val (.int c1)] [(.int c1), (.int (1 : Int32)), (.ref u)]))
  refine own_go (fun t k => XS.i2b X2.here hx rfl (hb hby dL3b_30) rfl k) ?_
  show own_Go p e below _ (T2.setTop (mkF m 31 #[.val (.ref cc), .val (.int (1 : Int32)), .val (.ref u), .val (.int (1 : Int32)), .val (.int (3 : Int32)), .val (.int (1 : Int32)), .val (.int c1)] [(.int (c1.toInt8.toInt32)), (.int (1 : Int32)), (.ref u)]))
  obtain ⟨cl4, Ar4, qa4, Sa4, Na4, Ha4, Ga4⟩ := id Vw2
  have hin4 : ¬ ((1 : Int32) < 0 ∨ cl4.slots.size ≤ ((1 : Int32)).toNatClampNeg) := inb_of Sa4 ⟨by decide, by decide⟩
  obtain ⟨T4, h4, X4, e4, W4, st4⟩ := stB X2 hx hZ e2 Ar4 (j := (1 : Int32)) hin4 (g := (mkF m 31 #[.val (.ref cc), .val (.int (1 : Int32)), .val (.ref u), .val (.int (1 : Int32)), .val (.int (3 : Int32)), .val (.int (1 : Int32)), .val (.int c1)] [(.int (c1.toInt8.toInt32)), (.int (1 : Int32)), (.ref u)])) rfl rfl (hb hby dL3b_31)
  have Vw4 : Arv Z h4 u ku .byte (3 : Int32) [(.int (nar .byte (c0.toInt8.toInt32))), (.int (nar .byte (c1.toInt8.toInt32))), (.int (0 : Int32))] (.int (0 : Int32)) := Arv.set Ar4 qa4 Sa4 Na4 Ha4 Ga4 (fits_nar_byte _) W4 1 rfl (Nat.le_of_ble_eq_true rfl)
  have Ac__4 := Ac__2.other W4 ne_cu
  have N4 := Fr.snoc X4 N2 g_u
  have KP4 := KP2.wr W4 (Or.inl (List.mem_of_getElem? (i := 0) rfl))
  have sz4 := Nat.le_trans sz2 (Keep.of_wr W4).1
  refine own_go (fun t k => st4 t k) ?_
  show own_Go p e below _ (T4.setTop (mkF m 32 #[.val (.ref cc), .val (.int (1 : Int32)), .val (.ref u), .val (.int (1 : Int32)), .val (.int (3 : Int32)), .val (.int (1 : Int32)), .val (.int c1)] []))
  refine own_go (fun t k => XS.iinc X4.here hx rfl (hb hby dL3b_32) rfl (l' := #[.val (.ref cc), .val (.int (2 : Int32)), .val (.ref u), .val (.int (1 : Int32)), .val (.int (3 : Int32)), .val (.int (1 : Int32)), .val (.int c1)]) rfl k) ?_
  show own_Go p e below _ (T4.setTop (mkF m 35 #[.val (.ref cc), .val (.int (2 : Int32)), .val (.ref u), .val (.int (1 : Int32)), .val (.int (3 : Int32)), .val (.int (1 : Int32)), .val (.int c1)] []))
  refine own_go (fun t k => XS.iinc X4.here hx rfl (hb hby dL3b_35) rfl (l' := #[.val (.ref cc), .val (.int (2 : Int32)), .val (.ref u), .val (.int (2 : Int32)), .val (.int (3 : Int32)), .val (.int (1 : Int32)), .val (.int c1)]) rfl k) ?_
  show own_Go p e below _ (T4.setTop (mkF m 38 #[.val (.ref cc), .val (.int (2 : Int32)), .val (.ref u), .val (.int (2 : Int32)), .val (.int (3 : Int32)), .val (.int (1 : Int32)), .val (.int c1)] []))
  refine own_go (fun t k => XS.iinc X4.here hx rfl (hb hby dL3b_38) rfl (l' := #[.val (.ref cc), .val (.int (2 : Int32)), .val (.ref u), .val (.int (2 : Int32)), .val (.int (3 : Int32)), .val (.int (2 : Int32)), .val (.int c1)]) rfl k) ?_
  show own_Go p e below _ (T4.setTop (mkF m 41 #[.val (.ref cc), .val (.int (2 : Int32)), .val (.ref u), .val (.int (2 : Int32)), .val (.int (3 : Int32)), .val (.int (2 : Int32)), .val (.int c1)] []))
  refine own_go (fun t k => XS.goto X4.here hx rfl (pc0 := 41) (pc' := 3) rfl (hb hby dL3b_41) (by decide) (by decide) k) ?_
  show own_Go p e below _ (T4.setTop (mkF m 3 #[.val (.ref cc), .val (.int (2 : Int32)), .val (.ref u), .val (.int (2 : Int32)), .val (.int (3 : Int32)), .val (.int (2 : Int32)), .val (.int c1)] []))
  refine own_go (fun t k => XS.iload X4.here hx rfl (hb hby dL3b_3) rfl k) ?_
  show own_Go p e below _ (T4.setTop (mkF m 5 #[.val (.ref cc), .val (.int (2 : Int32)), .val (.ref u), .val (.int (2 : Int32)), .val (.int (3 : Int32)), .val (.int (2 : Int32)), .val (.int c1)] [(.int (2 : Int32))]))
  refine own_go (fun t k => XS.iload X4.here hx rfl (hb hby dL3b_5) rfl k) ?_
  show own_Go p e below _ (T4.setTop (mkF m 7 #[.val (.ref cc), .val (.int (2 : Int32)), .val (.ref u), .val (.int (2 : Int32)), .val (.int (3 : Int32)), .val (.int (2 : Int32)), .val (.int c1)] [(.int (3 : Int32)), (.int (2 : Int32))]))
  refine own_go (fun t k => XS.icmpNo X4.here hx rfl (hb hby dL3b_7) rfl (tlt (by decide : (2 : Int32) < (3 : Int32))).2.1 k) ?_
  show own_Go p e below _ (T4.setTop (mkF m 10 #[.val (.ref cc), .val (.int (2 : Int32)), .val (.ref u), .val (.int (2 : Int32)), .val (.int (3 : Int32)), .val (.int (2 : Int32)), .val (.int c1)] []))
  refine own_go (fun t k => XS.aloadN X4.here hx rfl (hb hby dL3b_10) rfl rfl k) ?_
  show own_Go p e below _ (T4.setTop (mkF m 11 #[.val (.ref cc), .val (.int (2 : Int32)), .val (.ref u), .val (.int (2 : Int32)), .val (.int (3 : Int32)), .val (.int (2 : Int32)), .val (.int c1)] [(.ref cc)]))
  refine own_go (fun t k => XS.iloadN X4.here hx rfl (hb hby dL3b_11) rfl k) ?_
  show own_Go p e below _ (T4.setTop (mkF m 12 #[.val (.ref cc), .val (.int (2 : Int32)), .val (.ref u), .val (.int (2 : Int32)), .val (.int (3 : Int32)), .val (.int (2 : Int32)), .val (.int c1)] [(.int (2 : Int32)), (.ref cc)]))
  obtain ⟨cl5, Ar5, qa5, Sa5, Na5, Ha5, Ga5⟩ := id Ac__4
  have hin5 : ¬ ((2 : Int32) < 0 ∨ cl5.slots.size ≤ ((2 : Int32)).toNatClampNeg) := inb_of Sa5 ⟨by decide, by decide⟩
  have hat5 : cl5.slots[((2 : Int32)).toNatClampNeg]? = some (.int c2) := Ha5.at hin5 rfl
  refine own_go (fun t k => X4.caload hx (j := (2 : Int32)) (v := (.int c2)) (by rw [e4]; exact Ar5.1) (State.isArrayOf_alike hZ.alike Ar5.2.1) Ar5.2.2 hin5 hat5 (g := (mkF m 12 #[.val (.ref cc), .val (.int (2 : Int32)), .val (.ref u), .val (.int (2 : Int32)), .val (.int (3 : Int32)), .val (.int (2 : Int32)), .val (.int c1)] [(.int (2 : Int32)), (.ref cc)])) rfl rfl (hb hby dL3b_12) t k) ?_
  show own_Go p e below _ (T4.setTop (mkF m 13 #[.val (.ref cc), .val (.int (2 : Int32)), .val (.ref u), .val (.int (2 : Int32)), .val (.int (3 : Int32)), .val (.int (2 : Int32)), .val (.int c1)] [(.int c2)]))
  refine own_go (fun t k => XS.istore X4.here hx rfl (hb hby dL3b_13) rfl (l' := #[.val (.ref cc), .val (.int (2 : Int32)), .val (.ref u), .val (.int (2 : Int32)), .val (.int (3 : Int32)), .val (.int (2 : Int32)), .val (.int c2)]) rfl k) ?_
  show own_Go p e below _ (T4.setTop (mkF m 15 #[.val (.ref cc), .val (.int (2 : Int32)), .val (.ref u), .val (.int (2 : Int32)), .val (.int (3 : Int32)), .val (.int (2 : Int32)), .val (.int c2)] []))
  refine own_go (fun t k => XS.iload X4.here hx rfl (hb hby dL3b_15) rfl k) ?_
  show own_Go p e below _ (T4.setTop (mkF m 17 #[.val (.ref cc), .val (.int (2 : Int32)), .val (.ref u), .val (.int (2 : Int32)), .val (.int (3 : Int32)), .val (.int (2 : Int32)), .val (.int c2)] [(.int c2)]))
  refine own_go (fun t k => XS.sipush X4.here hx rfl (hb hby dL3b_17) k) ?_
  show own_Go p e below _ (T4.setTop (mkF m 20 #[.val (.ref cc), .val (.int (2 : Int32)), .val (.ref u), .val (.int (2 : Int32)), .val (.int (3 : Int32)), .val (.int (2 : Int32)), .val (.int c2)] [(.int (255 : Int32)), (.int c2)]))
  refine own_go (fun t k => XS.icmpYes X4.here hx rfl (pc0 := 20) (pc' := 26) rfl (hb hby dL3b_20) rfl (flt hp2).2.2.2 (by decide) (by decide) k) ?_
  show own_Go p e below _ (T4.setTop (mkF m 26 #[.val (.ref cc), .val (.int (2 : Int32)), .val (.ref u), .val (.int (2 : Int32)), .val (.int (3 : Int32)), .val (.int (2 : Int32)), .val (.int c2)] []))
  refine own_go (fun t k => XS.aloadN X4.here hx rfl (hb hby dL3b_26) rfl rfl k) ?_
  show own_Go p e below _ (T4.setTop (mkF m 27 #[.val (.ref cc), .val (.int (2 : Int32)), .val (.ref u), .val (.int (2 : Int32)), .val (.int (3 : Int32)), .val (.int (2 : Int32)), .val (.int c2)] [(.ref u)]))
  refine own_go (fun t k => XS.iloadN X4.here hx rfl (hb hby dL3b_27) rfl k) ?_
  show own_Go p e below _ (T4.setTop (mkF m 28 #[.val (.ref cc), .val (.int (2 : Int32)), .val (.ref u), .val (.int (2 : Int32)), .val (.int (3 : Int32)), .val (.int (2 : Int32)), .val (.int c2)] [(.int (2 : Int32)), (.ref u)]))
  refine own_go (fun t k => XS.iload X4.here hx rfl (hb hby dL3b_28) rfl k) ?_
  show own_Go p e below _ (T4.setTop (mkF m 30 #[.val (.ref cc), .val (.int (2 : Int32)), .val (.ref u), .val (.int (2 : Int32)), .val (.int (3 : Int32)), .val (.int (2 : Int32)), .val (.int c2)] [(.int c2), (.int (2 : Int32)), (.ref u)]))
  refine own_go (fun t k => XS.i2b X4.here hx rfl (hb hby dL3b_30) rfl k) ?_
  show own_Go p e below _ (T4.setTop (mkF m 31 #[.val (.ref cc), .val (.int (2 : Int32)), .val (.ref u), .val (.int (2 : Int32)), .val (.int (3 : Int32)), .val (.int (2 : Int32)), .val (.int c2)] [(.int (c2.toInt8.toInt32)), (.int (2 : Int32)), (.ref u)]))
  obtain ⟨cl6, Ar6, qa6, Sa6, Na6, Ha6, Ga6⟩ := id Vw4
  have hin6 : ¬ ((2 : Int32) < 0 ∨ cl6.slots.size ≤ ((2 : Int32)).toNatClampNeg) := inb_of Sa6 ⟨by decide, by decide⟩
  obtain ⟨T6, h6, X6, e6, W6, st6⟩ := stB X4 hx hZ e4 Ar6 (j := (2 : Int32)) hin6 (g := (mkF m 31 #[.val (.ref cc), .val (.int (2 : Int32)), .val (.ref u), .val (.int (2 : Int32)), .val (.int (3 : Int32)), .val (.int (2 : Int32)), .val (.int c2)] [(.int (c2.toInt8.toInt32)), (.int (2 : Int32)), (.ref u)])) rfl rfl (hb hby dL3b_31)
  have Vw6 : Arv Z h6 u ku .byte (3 : Int32) [(.int (nar .byte (c0.toInt8.toInt32))), (.int (nar .byte (c1.toInt8.toInt32))), (.int (nar .byte (c2.toInt8.toInt32)))] (.int (0 : Int32)) := Arv.set Ar6 qa6 Sa6 Na6 Ha6 Ga6 (fits_nar_byte _) W6 2 rfl (Nat.le_of_ble_eq_true rfl)
  have Ac__6 := Ac__4.other W6 ne_cu
  have N6 := Fr.snoc X6 N4 g_u
  have KP6 := KP4.wr W6 (Or.inl (List.mem_of_getElem? (i := 0) rfl))
  have sz6 := Nat.le_trans sz4 (Keep.of_wr W6).1
  refine own_go (fun t k => st6 t k) ?_
  show own_Go p e below _ (T6.setTop (mkF m 32 #[.val (.ref cc), .val (.int (2 : Int32)), .val (.ref u), .val (.int (2 : Int32)), .val (.int (3 : Int32)), .val (.int (2 : Int32)), .val (.int c2)] []))
  refine own_go (fun t k => XS.iinc X6.here hx rfl (hb hby dL3b_32) rfl (l' := #[.val (.ref cc), .val (.int (3 : Int32)), .val (.ref u), .val (.int (2 : Int32)), .val (.int (3 : Int32)), .val (.int (2 : Int32)), .val (.int c2)]) rfl k) ?_
  show own_Go p e below _ (T6.setTop (mkF m 35 #[.val (.ref cc), .val (.int (3 : Int32)), .val (.ref u), .val (.int (2 : Int32)), .val (.int (3 : Int32)), .val (.int (2 : Int32)), .val (.int c2)] []))
  refine own_go (fun t k => XS.iinc X6.here hx rfl (hb hby dL3b_35) rfl (l' := #[.val (.ref cc), .val (.int (3 : Int32)), .val (.ref u), .val (.int (3 : Int32)), .val (.int (3 : Int32)), .val (.int (2 : Int32)), .val (.int c2)]) rfl k) ?_
  show own_Go p e below _ (T6.setTop (mkF m 38 #[.val (.ref cc), .val (.int (3 : Int32)), .val (.ref u), .val (.int (3 : Int32)), .val (.int (3 : Int32)), .val (.int (2 : Int32)), .val (.int c2)] []))
  refine own_go (fun t k => XS.iinc X6.here hx rfl (hb hby dL3b_38) rfl (l' := #[.val (.ref cc), .val (.int (3 : Int32)), .val (.ref u), .val (.int (3 : Int32)), .val (.int (3 : Int32)), .val (.int (3 : Int32)), .val (.int c2)]) rfl k) ?_
  show own_Go p e below _ (T6.setTop (mkF m 41 #[.val (.ref cc), .val (.int (3 : Int32)), .val (.ref u), .val (.int (3 : Int32)), .val (.int (3 : Int32)), .val (.int (3 : Int32)), .val (.int c2)] []))
  refine own_go (fun t k => XS.goto X6.here hx rfl (pc0 := 41) (pc' := 3) rfl (hb hby dL3b_41) (by decide) (by decide) k) ?_
  show own_Go p e below _ (T6.setTop (mkF m 3 #[.val (.ref cc), .val (.int (3 : Int32)), .val (.ref u), .val (.int (3 : Int32)), .val (.int (3 : Int32)), .val (.int (3 : Int32)), .val (.int c2)] []))
  refine own_go (fun t k => XS.iload X6.here hx rfl (hb hby dL3b_3) rfl k) ?_
  show own_Go p e below _ (T6.setTop (mkF m 5 #[.val (.ref cc), .val (.int (3 : Int32)), .val (.ref u), .val (.int (3 : Int32)), .val (.int (3 : Int32)), .val (.int (3 : Int32)), .val (.int c2)] [(.int (3 : Int32))]))
  refine own_go (fun t k => XS.iload X6.here hx rfl (hb hby dL3b_5) rfl k) ?_
  show own_Go p e below _ (T6.setTop (mkF m 7 #[.val (.ref cc), .val (.int (3 : Int32)), .val (.ref u), .val (.int (3 : Int32)), .val (.int (3 : Int32)), .val (.int (3 : Int32)), .val (.int c2)] [(.int (3 : Int32)), (.int (3 : Int32))]))
  refine own_go (fun t k => XS.icmpYes X6.here hx rfl (pc0 := 7) (pc' := 44) rfl (hb hby dL3b_7) rfl (flt (by decide : ¬ ((3 : Int32) < (3 : Int32)))).2.1 (by decide) (by decide) k) ?_
  show own_Go p e below _ (T6.setTop (mkF m 44 #[.val (.ref cc), .val (.int (3 : Int32)), .val (.ref u), .val (.int (3 : Int32)), .val (.int (3 : Int32)), .val (.int (3 : Int32)), .val (.int c2)] []))
  refine own_go (fun t k => XS.iload X6.here hx rfl (hb hby dL3b_44) rfl k) ?_
  show own_Go p e below _ (T6.setTop (mkF m 46 #[.val (.ref cc), .val (.int (3 : Int32)), .val (.ref u), .val (.int (3 : Int32)), .val (.int (3 : Int32)), .val (.int (3 : Int32)), .val (.int c2)] [(.int (3 : Int32))]))
  exact own_retI X6 hx Bd.returns (hb hby dL3b_46) (by rw [e6]; exact ⟨rfl, N6, KP6, Vw6⟩) (by decide) (by decide)
theorem dL3c_0 : decode jdk_52_method_16_code 0 = .ok (.iload_n 2, 1) := by decide +kernel
theorem dL3c_1 : decode jdk_52_method_16_code 1 = .ok (.newarray .byte, 2) := by decide +kernel
theorem dL3c_3 : decode jdk_52_method_16_code 3 = .ok (.astore_n 3, 1) := by decide +kernel
theorem dL3c_4 : decode jdk_52_method_16_code 4 = .ok (.aload_n 0, 1) := by decide +kernel
theorem dL3c_5 : decode jdk_52_method_16_code 5 = .ok (.iload_n 1, 1) := by decide +kernel
theorem dL3c_6 : decode jdk_52_method_16_code 6 = .ok (.aload_n 3, 1) := by decide +kernel
theorem dL3c_7 : decode jdk_52_method_16_code 7 = .ok (.iconst 0, 1) := by decide +kernel
theorem dL3c_8 : decode jdk_52_method_16_code 8 = .ok (.iload_n 2, 1) := by decide +kernel
theorem dL3c_9 : decode jdk_52_method_16_code 9 = .ok (.invokestatic 115, 3) := by decide +kernel
theorem dL3c_12 : decode jdk_52_method_16_code 12 = .ok (.istore 4, 2) := by decide +kernel
theorem dL3c_14 : decode jdk_52_method_16_code 14 = .ok (.iload 4, 2) := by decide +kernel
theorem dL3c_16 : decode jdk_52_method_16_code 16 = .ok (.iload_n 2, 1) := by decide +kernel
theorem dL3c_17 : decode jdk_52_method_16_code 17 = .ok (.if_icmp .eq 40, 3) := by decide +kernel
theorem dL3c_57 : decode jdk_52_method_16_code 57 = .ok (.aload_n 3, 1) := by decide +kernel
theorem dL3c_58 : decode jdk_52_method_16_code 58 = .ok (.areturn, 1) := by decide +kernel
theorem pnL3c : plainName "java/lang/StringUTF16" = true := by first | (simp [plainName, overriddenIn]; done) | decide +kernel
theorem pdL3c_0 : parseMethodDescriptor "([CI[BII)I" = some ⟨[(.array .char), .int, (.array .byte), .int, .int], some .int⟩ := by decide +kernel
theorem efL3c (m : MethodId) (x0 : Addr) (x1 : Int32) (x2 : Int32) : entryFrame m #[(.ref x0), (.int x1), (.int x2)] 6 = mkF m 0 #[.val (.ref x0), .val (.int x1), .val (.int x2), .unset, .unset, .unset] [] := by first | (simp [entryFrame, mkF, argsToLocals, Value.category]; done) | rfl
def own_QL3c (Z : State) (c0 c1 c2 : Int32) (h0 : Heap) (n0 : Nat) (v : Option Value) (h : Heap) (L : List Loc) : Prop := ∃ (b : Addr) (kb : ClassId), v = some (.ref b) ∧ Fr n0 L ∧ Keep h0 h [] ∧ h0.size ≤ b ∧ Arv Z h b kb .byte (3 : Int32) [.int (nar .byte (c0.toInt8.toInt32)), .int (nar .byte (c1.toInt8.toInt32)), .int (nar .byte (c2.toInt8.toInt32))] (.int (0 : Int32))
set_option maxRecDepth 65536 in
set_option maxHeartbeats 40000000 in
theorem rmL3c (l : Launch) (Z : State) (a0 : Array Value) (hw : ∀ d ∈ tables_1, d.before a0 Z = true) (ws : List Jvm.Cond) (cc : Addr) (kc : ClassId) (c0 c1 c2 : Int32) (h0 : Heap) (n0 : Nat) (Z0 : n0 ≤ h0.size) (Ac : Arv Z h0 cc kc .char (3 : Int32) [.int c0, .int c1, .int c2] (.int (0 : Int32))) (hp0 : ¬ (255 : Int32) < c0) (hp1 : ¬ (255 : Int32) < c1) (hp2 : ¬ (255 : Int32) < c2) :
    MetFree l (⟨"java/lang/StringUTF16", "compress", "([CII)[B"⟩ : MethodName) (head1 (Jvm.Cond.code (⟨"java/lang/StringUTF16", "compress", "([CII)[B"⟩ : MethodName) jdk_52_method_16_code 6 (some (.array .byte)) :: ws) ({ frames := 1, cells := 1, slots := 3, locals := 18 } : Room)) (fun a U => a = #[(.ref cc), (.int (0 : Int32)), (.int (3 : Int32))] ∧ Z.Warmed39 U.vm ∧ U.heap = h0) (fun _ _ _ _ _ => True) (fun _ U o U' => ∃ v L, o = .returned v ∧ own_QL3c Z c0 c1 c2 h0 n0 v U'.heap L ∧ FrameEnd U o U' L ({ frames := 1, cells := 1, slots := 3, locals := 18 } : Room).cells ({ frames := 1, cells := 1, slots := 3, locals := 18 } : Room).slots) := by
  refine MetFree.of_bodySF (plainFor_of_name pnL3c) hisR ?_
  intro p e s m args below meth c s₁ Bd hml0 hP hK
  obtain ⟨rfl, hZ, hh⟩ := hP
  have hx := Bd.exec
  have hby := Bd.bytes
  have hml : c.maxLocals = 6 := hml0
  have hown : s.vm.findClass "java/lang/StringUTF16" = some m.cls := findClass_of_methodNamed Bd.named
  have hnm := (name_of_methodNamed Bd.named Bd.method).1
  have hlk : meth.locks = false := Bd.notSynchronized
  have X0 : Stand p l e ({ frames := 1, cells := 1, slots := 3, locals := 18 } : Room) s m #[(.ref cc), (.int (0 : Int32)), (.int (3 : Int32))] below meth c s₁ [] 0 0 := Stand.of_body Bd
  have e0 : s₁.heap = h0 := by rw [← hh, Bd.state]; rfl
  have N0 := Fr.nil n0
  refine own_go (fun t k => castTop (efL3c m cc (0 : Int32) (3 : Int32)) k) ?_
  show own_Go p e below _ (s₁.setTop (mkF m 0 #[.val (.ref cc), .val (.int (0 : Int32)), .val (.int (3 : Int32)), .unset, .unset, .unset] []))
  refine own_go (fun t k => XS.iloadN X0.here hx rfl (hb hby dL3c_0) rfl k) ?_
  show own_Go p e below _ (s₁.setTop (mkF m 1 #[.val (.ref cc), .val (.int (0 : Int32)), .val (.int (3 : Int32)), .unset, .unset, .unset] [(.int (3 : Int32))]))
  obtain ⟨T1, h1, k1, X1, e1, E1, A1, st1⟩ := newP X0 hx hZ (hw _ (List.mem_of_getElem? (i := 19) rfl)) e0 (g := (mkF m 1 #[.val (.ref cc), .val (.int (0 : Int32)), .val (.int (3 : Int32)), .unset, .unset, .unset] [(.int (3 : Int32))])) rfl (hb hby dL3c_1) rfl (by decide) (cap := 3) (by decide) (by decide) (by decide) (by decide)
  obtain ⟨b1, g1⟩ : ∃ z, z = h0.size := ⟨_, rfl⟩
  rw [← g1] at A1 st1
  have g_b1 : n0 ≤ b1 := Nat.le_trans Z0 (Nat.le_of_eq g1.symm)
  have sz_b1 : h0.size ≤ b1 := Nat.le_trans (Keep.refl h0 []).1 (Nat.le_of_eq g1.symm)
  have ne_cc_b1 : cc ≠ b1 := Nat.ne_of_lt (Nat.lt_of_lt_of_le Ac.lt (Nat.le_of_eq g1.symm))
  have Ac__1 := Ac.ext E1
  have sz1 := Nat.le_trans Z0 E1.1
  have KP1 := (Keep.refl h0 []).ext E1
  have V1 : Arv Z h1 b1 k1 .byte (3 : Int32) [(.int (0 : Int32)), (.int (0 : Int32)), (.int (0 : Int32))] (.int (0 : Int32)) := (Arv.new A1 (by decide)).pad (pad_rep [] (.int (0 : Int32)) 3)
  refine own_go (fun t k => st1 t k) ?_
  show own_Go p e below _ (T1.setTop (mkF m 3 #[.val (.ref cc), .val (.int (0 : Int32)), .val (.int (3 : Int32)), .unset, .unset, .unset] [(.ref b1)]))
  refine own_go (fun t k => XS.astoreN X1.here hx rfl (hb hby dL3c_3) rfl rfl (l' := #[.val (.ref cc), .val (.int (0 : Int32)), .val (.int (3 : Int32)), .val (.ref b1), .unset, .unset]) rfl k) ?_
  show own_Go p e below _ (T1.setTop (mkF m 4 #[.val (.ref cc), .val (.int (0 : Int32)), .val (.int (3 : Int32)), .val (.ref b1), .unset, .unset] []))
  refine own_go (fun t k => XS.aloadN X1.here hx rfl (hb hby dL3c_4) rfl rfl k) ?_
  show own_Go p e below _ (T1.setTop (mkF m 5 #[.val (.ref cc), .val (.int (0 : Int32)), .val (.int (3 : Int32)), .val (.ref b1), .unset, .unset] [(.ref cc)]))
  refine own_go (fun t k => XS.iloadN X1.here hx rfl (hb hby dL3c_5) rfl k) ?_
  show own_Go p e below _ (T1.setTop (mkF m 6 #[.val (.ref cc), .val (.int (0 : Int32)), .val (.int (3 : Int32)), .val (.ref b1), .unset, .unset] [(.int (0 : Int32)), (.ref cc)]))
  refine own_go (fun t k => XS.aloadN X1.here hx rfl (hb hby dL3c_6) rfl rfl k) ?_
  show own_Go p e below _ (T1.setTop (mkF m 7 #[.val (.ref cc), .val (.int (0 : Int32)), .val (.int (3 : Int32)), .val (.ref b1), .unset, .unset] [(.ref b1), (.int (0 : Int32)), (.ref cc)]))
  refine own_go (fun t k => XS.iconst X1.here hx rfl (hb hby dL3c_7) k) ?_
  show own_Go p e below _ (T1.setTop (mkF m 8 #[.val (.ref cc), .val (.int (0 : Int32)), .val (.int (3 : Int32)), .val (.ref b1), .unset, .unset] [(.int (0 : Int32)), (.ref b1), (.int (0 : Int32)), (.ref cc)]))
  refine own_go (fun t k => XS.iloadN X1.here hx rfl (hb hby dL3c_8) rfl k) ?_
  show own_Go p e below _ (T1.setTop (mkF m 9 #[.val (.ref cc), .val (.int (0 : Int32)), .val (.int (3 : Int32)), .val (.ref b1), .unset, .unset] [(.int (3 : Int32)), (.int (0 : Int32)), (.ref b1), (.int (0 : Int32)), (.ref cc)]))
  obtain ⟨_, _, ⟨T2, L2, k2, n2⟩, -, X2, ⟨Lc2, hQ2, l2, y2, z2⟩, st2⟩ := Jvm.LawKit.callS X1 hx (y := (⟨"java/lang/StringUTF16", "compress", "([CI[BII)I"⟩ : MethodName)) hown (mvT hZ (hw _ (List.mem_of_getElem? (i := 52) rfl))) (mvT hZ (hw _ (List.mem_of_getElem? (i := 53) rfl))) (mvT hZ (hw _ (List.mem_of_getElem? (i := 50) rfl))) (mvT hZ (hw _ (List.mem_of_getElem? (i := 54) rfl))) (by decide) (backOf (W := 0) (rmL3b l Z a0 hw [] cc b1 kc k1 c0 c1 c2 h1 n0 sz1 Ac__1 V1 g_b1 ne_cc_b1 hp0 hp1 hp2) hZ (hw _ (List.mem_of_getElem? (i := 54) rfl)) (hw _ (List.mem_of_getElem? (i := 50) rfl)) (by decide) (by decide)) (g := (mkF m 9 #[.val (.ref cc), .val (.int (0 : Int32)), .val (.int (3 : Int32)), .val (.ref b1), .unset, .unset] [(.int (3 : Int32)), (.int (0 : Int32)), (.ref b1), (.int (0 : Int32)), (.ref cc)])) rfl (by rw [hml]; rfl) (argsL := [(.ref cc), (.int (0 : Int32)), (.ref b1), (.int (0 : Int32)), (.int (3 : Int32))]) (rest := []) (lenOf pdL3c_0 rfl) rfl (by show 2 * 0 + _ ≤ _; exact Nat.le_of_eq rfl) (hb hby dL3c_9) (fun _ _ => ⟨rfl, e1, (by decide : 0 + 1 + 0 ≤ _), (by decide : 0 + 3 + 0 ≤ _)⟩)
  dsimp only [Pt.U, Pt.locs, Pt.cells, Pt.slots] at X2 l2 y2 z2 st2 hQ2
  subst l2 y2 z2
  obtain ⟨rfl, Nq2, K2, A2⟩ := hQ2
  have N2 := Fr.app N0 Nq2
  refine own_go (fun t k => st2 t k) ?_
  have Ac__2 := Ac__1.keep K2 (ninS ne_cc_b1 nin0)
  have KP2 := KP1.trans K2 (allS (Or.inr sz_b1) all0)
  have sz2 := Nat.le_trans sz1 K2.1
  show own_Go p e below _ (T2.setTop (mkF m 12 #[.val (.ref cc), .val (.int (0 : Int32)), .val (.int (3 : Int32)), .val (.ref b1), .unset, .unset] [(.int (3 : Int32))]))
  refine own_go (fun t k => XS.istore X2.here hx rfl (hb hby dL3c_12) rfl (l' := #[.val (.ref cc), .val (.int (0 : Int32)), .val (.int (3 : Int32)), .val (.ref b1), .val (.int (3 : Int32)), .unset]) rfl k) ?_
  show own_Go p e below _ (T2.setTop (mkF m 14 #[.val (.ref cc), .val (.int (0 : Int32)), .val (.int (3 : Int32)), .val (.ref b1), .val (.int (3 : Int32)), .unset] []))
  refine own_go (fun t k => XS.iload X2.here hx rfl (hb hby dL3c_14) rfl k) ?_
  show own_Go p e below _ (T2.setTop (mkF m 16 #[.val (.ref cc), .val (.int (0 : Int32)), .val (.int (3 : Int32)), .val (.ref b1), .val (.int (3 : Int32)), .unset] [(.int (3 : Int32))]))
  refine own_go (fun t k => XS.iloadN X2.here hx rfl (hb hby dL3c_16) rfl k) ?_
  show own_Go p e below _ (T2.setTop (mkF m 17 #[.val (.ref cc), .val (.int (0 : Int32)), .val (.int (3 : Int32)), .val (.ref b1), .val (.int (3 : Int32)), .unset] [(.int (3 : Int32)), (.int (3 : Int32))]))
  refine own_go (fun t k => XS.icmpYes X2.here hx rfl (pc0 := 17) (pc' := 57) rfl (hb hby dL3c_17) rfl (teq (by decide : (3 : Int32) = (3 : Int32))).1 (by decide) (by decide) k) ?_
  show own_Go p e below _ (T2.setTop (mkF m 57 #[.val (.ref cc), .val (.int (0 : Int32)), .val (.int (3 : Int32)), .val (.ref b1), .val (.int (3 : Int32)), .unset] []))
  refine own_go (fun t k => XS.aloadN X2.here hx rfl (hb hby dL3c_57) rfl rfl k) ?_
  show own_Go p e below _ (T2.setTop (mkF m 58 #[.val (.ref cc), .val (.int (0 : Int32)), .val (.int (3 : Int32)), .val (.ref b1), .val (.int (3 : Int32)), .unset] [(.ref b1)]))
  exact own_retA X2 hx Bd.returns rfl rfl (hb hby dL3c_58) (⟨_, _, rfl, N2, KP2, sz_b1, A2⟩) (by decide) (by decide)
theorem dL3a_0 : decode jdk_52_method_15_code 0 = .ok (.iload_n 1, 1) := by decide +kernel
theorem dL3a_1 : decode jdk_52_method_15_code 1 = .ok (.aload_n 0, 1) := by decide +kernel
theorem dL3a_2 : decode jdk_52_method_15_code 2 = .ok (.arraylength, 1) := by decide +kernel
theorem dL3a_3 : decode jdk_52_method_15_code 3 = .ok (.isub, 1) := by decide +kernel
theorem dL3a_4 : decode jdk_52_method_15_code 4 = .ok (.bipush 31, 2) := by decide +kernel
theorem dL3a_6 : decode jdk_52_method_15_code 6 = .ok (.iushr, 1) := by decide +kernel
theorem dL3a_7 : decode jdk_52_method_15_code 7 = .ok (.i2b, 1) := by decide +kernel
theorem dL3a_8 : decode jdk_52_method_15_code 8 = .ok (.ireturn, 1) := by decide +kernel
theorem pnL3a : plainName "java/lang/StringUTF16" = true := by first | (simp [plainName, overriddenIn]; done) | decide +kernel
theorem efL3a (m : MethodId) (x0 : Addr) (x1 : Int32) : entryFrame m #[(.ref x0), (.int x1)] 2 = mkF m 0 #[.val (.ref x0), .val (.int x1)] [] := by first | (simp [entryFrame, mkF, argsToLocals, Value.category]; done) | rfl
def own_QL3a (h0 : Heap) (n0 : Nat) (v : Option Value) (h : Heap) (L : List Loc) : Prop := v = some (.int (0 : Int32)) ∧ Fr n0 L ∧ h = h0
set_option maxRecDepth 65536 in
set_option maxHeartbeats 40000000 in
theorem rmL3a (l : Launch) (Z : State) (a0 : Array Value) (hw : ∀ d ∈ tables_1, d.before a0 Z = true) (ws : List Jvm.Cond) (ot : Addr) (kt : ClassId) (x0 : Int32) (x1 : Int32) (x2 : Int32) (h0 : Heap) (n0 : Nat) (Z0 : n0 ≤ h0.size) (At : Arv Z h0 ot kt .byte (3 : Int32) [.int x0, .int x1, .int x2] (.int (0 : Int32))) :
    MetFree l (⟨"java/lang/StringUTF16", "coderFromArrayLen", "([BI)B"⟩ : MethodName) (head1 (Jvm.Cond.code (⟨"java/lang/StringUTF16", "coderFromArrayLen", "([BI)B"⟩ : MethodName) jdk_52_method_15_code 2 (some .byte) :: ws) ({ frames := 0, cells := 0, slots := 0, locals := 0 } : Room)) (fun a U => a = #[(.ref ot), (.int (3 : Int32))] ∧ Z.Warmed39 U.vm ∧ U.heap = h0) (fun _ _ _ _ _ => True) (fun _ U o U' => ∃ v L, o = .returned v ∧ own_QL3a h0 n0 v U'.heap L ∧ FrameEnd U o U' L ({ frames := 0, cells := 0, slots := 0, locals := 0 } : Room).cells ({ frames := 0, cells := 0, slots := 0, locals := 0 } : Room).slots) := by
  refine MetFree.of_bodySF (plainFor_of_name pnL3a) hisR ?_
  intro p e s m args below meth c s₁ Bd hml0 hP hK
  obtain ⟨rfl, hZ, hh⟩ := hP
  have hx := Bd.exec
  have hby := Bd.bytes
  have hml : c.maxLocals = 2 := hml0
  have hown : s.vm.findClass "java/lang/StringUTF16" = some m.cls := findClass_of_methodNamed Bd.named
  have hnm := (name_of_methodNamed Bd.named Bd.method).1
  have hlk : meth.locks = false := Bd.notSynchronized
  have X0 : Stand p l e ({ frames := 0, cells := 0, slots := 0, locals := 0 } : Room) s m #[(.ref ot), (.int (3 : Int32))] below meth c s₁ [] 0 0 := Stand.of_body Bd
  have e0 : s₁.heap = h0 := by rw [← hh, Bd.state]; rfl
  have N0 := Fr.nil n0
  refine own_go (fun t k => castTop (efL3a m ot (3 : Int32)) k) ?_
  show own_Go p e below _ (s₁.setTop (mkF m 0 #[.val (.ref ot), .val (.int (3 : Int32))] []))
  refine own_go (fun t k => XS.iloadN X0.here hx rfl (hb hby dL3a_0) rfl k) ?_
  show own_Go p e below _ (s₁.setTop (mkF m 1 #[.val (.ref ot), .val (.int (3 : Int32))] [(.int (3 : Int32))]))
  refine own_go (fun t k => XS.aloadN X0.here hx rfl (hb hby dL3a_1) rfl rfl k) ?_
  show own_Go p e below _ (s₁.setTop (mkF m 2 #[.val (.ref ot), .val (.int (3 : Int32))] [(.ref ot), (.int (3 : Int32))]))
  obtain ⟨cl1, Ar1, -, Sa1, Na1, -, -⟩ := id At
  have ln1 := len_of Sa1 Na1
  refine own_go (fun t k => X0.arraylength hx (by rw [e0]; exact Ar1.1) (State.isArrayOf_alike hZ.alike Ar1.2.1) (g := (mkF m 2 #[.val (.ref ot), .val (.int (3 : Int32))] [(.ref ot), (.int (3 : Int32))])) rfl rfl (hb hby dL3a_2) t (by rw [ln1]; exact k)) ?_
  show own_Go p e below _ (s₁.setTop (mkF m 3 #[.val (.ref ot), .val (.int (3 : Int32))] [(.int (3 : Int32)), (.int (3 : Int32))]))
  refine own_go (fun t k => XS.isub X0.here hx rfl (hb hby dL3a_3) rfl k) ?_
  show own_Go p e below _ (s₁.setTop (mkF m 4 #[.val (.ref ot), .val (.int (3 : Int32))] [(.int ((3 : Int32) - (3 : Int32)))]))
  refine own_go (fun t k => XS.bipush X0.here hx rfl (hb hby dL3a_4) k) ?_
  show own_Go p e below _ (s₁.setTop (mkF m 6 #[.val (.ref ot), .val (.int (3 : Int32))] [(.int (31 : Int32)), (.int ((3 : Int32) - (3 : Int32)))]))
  refine own_go (fun t k => XS.iushr X0.here hx rfl (hb hby dL3a_6) rfl k) ?_
  show own_Go p e below _ (s₁.setTop (mkF m 7 #[.val (.ref ot), .val (.int (3 : Int32))] [(.int ((((3 : Int32) - (3 : Int32)).toUInt32 >>> ((31 : Int32) &&& 31).toUInt32).toInt32))]))
  refine own_go (fun t k => XS.i2b X0.here hx rfl (hb hby dL3a_7) rfl k) ?_
  show own_Go p e below _ (s₁.setTop (mkF m 8 #[.val (.ref ot), .val (.int (3 : Int32))] [(.int (((((3 : Int32) - (3 : Int32)).toUInt32 >>> ((31 : Int32) &&& 31).toUInt32).toInt32).toInt8.toInt32))]))
  exact own_retN X0 hx (t := .byte) Bd.returns (by simp) (hb hby dL3a_8) (by rw [e0]; exact ⟨by decide, N0, rfl⟩) (by decide) (by decide)
theorem dL3d_0 : decode jdk_42_method_149_code 0 = .ok (.aload_n 0, 1) := by decide +kernel
theorem dL3d_1 : decode jdk_42_method_149_code 1 = .ok (.invokespecial 1, 3) := by decide +kernel
theorem dL3d_4 : decode jdk_42_method_149_code 4 = .ok (.iload_n 3, 1) := by decide +kernel
theorem dL3d_5 : decode jdk_42_method_149_code 5 = .ok (.ifCond .ne 22, 3) := by decide +kernel
theorem dL3d_27 : decode jdk_42_method_149_code 27 = .ok (.getstatic 38, 3) := by decide +kernel
theorem dL3d_30 : decode jdk_42_method_149_code 30 = .ok (.ifCond .eq 28, 3) := by decide +kernel
theorem dL3d_33 : decode jdk_42_method_149_code 33 = .ok (.aload_n 1, 1) := by decide +kernel
theorem dL3d_34 : decode jdk_42_method_149_code 34 = .ok (.iload_n 2, 1) := by decide +kernel
theorem dL3d_35 : decode jdk_42_method_149_code 35 = .ok (.iload_n 3, 1) := by decide +kernel
theorem dL3d_36 : decode jdk_42_method_149_code 36 = .ok (.invokestatic 177, 3) := by decide +kernel
theorem dL3d_39 : decode jdk_42_method_149_code 39 = .ok (.astore 5, 2) := by decide +kernel
theorem dL3d_41 : decode jdk_42_method_149_code 41 = .ok (.aload_n 0, 1) := by decide +kernel
theorem dL3d_42 : decode jdk_42_method_149_code 42 = .ok (.aload 5, 2) := by decide +kernel
theorem dL3d_44 : decode jdk_42_method_149_code 44 = .ok (.iload_n 3, 1) := by decide +kernel
theorem dL3d_45 : decode jdk_42_method_149_code 45 = .ok (.invokestatic 47, 3) := by decide +kernel
theorem dL3d_48 : decode jdk_42_method_149_code 48 = .ok (.putfield 15, 3) := by decide +kernel
theorem dL3d_51 : decode jdk_42_method_149_code 51 = .ok (.aload_n 0, 1) := by decide +kernel
theorem dL3d_52 : decode jdk_42_method_149_code 52 = .ok (.aload 5, 2) := by decide +kernel
theorem dL3d_54 : decode jdk_42_method_149_code 54 = .ok (.putfield 9, 3) := by decide +kernel
theorem dL3d_57 : decode jdk_42_method_149_code 57 = .ok (.return_, 1) := by decide +kernel
theorem pnL3d : plainName "java/lang/String" = true := by first | (simp [plainName, overriddenIn]; done) | decide +kernel
theorem pdL3d_0 : parseMethodDescriptor "([CII)[B" = some ⟨[(.array .char), .int, .int], some (.array .byte)⟩ := by decide +kernel
theorem pdL3d_1 : parseMethodDescriptor "([BI)B" = some ⟨[(.array .byte), .int], some .byte⟩ := by decide +kernel
theorem efL3d (m : MethodId) (x0 : Addr) (x1 : Addr) (x2 : Int32) (x3 : Int32) : entryFrame m #[(.ref x0), (.ref x1), (.int x2), (.int x3), .null] 6 = mkF m 0 #[.val (.ref x0), .val (.ref x1), .val (.int x2), .val (.int x3), .val .null, .unset] [] := by first | (simp [entryFrame, mkF, argsToLocals, Value.category]; done) | rfl
def own_QL3d (Z : State) (a : Addr) (c0 c1 c2 : Int32) (h0 : Heap) (n0 : Nat) (v : Option Value) (h : Heap) (L : List Loc) : Prop := v = none ∧ Fr n0 L ∧ Keep h0 h [a] ∧ Fld Z h a "java/lang/String" "coder" "B" (.int (0 : Int32)) ∧ ∃ (b : Addr) (kb : ClassId), h0.size ≤ b ∧ Fld Z h a "java/lang/String" "value" "[B" (.ref b) ∧ Arv Z h b kb .byte (3 : Int32) [.int (nar .byte (c0.toInt8.toInt32)), .int (nar .byte (c1.toInt8.toInt32)), .int (nar .byte (c2.toInt8.toInt32))] (.int (0 : Int32))
set_option maxRecDepth 65536 in
set_option maxHeartbeats 40000000 in
theorem rmL3d (l : Launch) (Z : State) (a0 : Array Value) (hw : ∀ d ∈ tables_1, d.before a0 Z = true) (ws : List Jvm.Cond) (oa cc : Addr) (kc : ClassId) (cs : Int32) (c0 c1 c2 : Int32) (h0 : Heap) (n0 : Nat) (Z0 : n0 ≤ h0.size) (Ea : Exa Z h0 oa "java/lang/String") (Fv : Fld Z h0 oa "java/lang/String" "value" "[B" .null) (Fc : Fld Z h0 oa "java/lang/String" "coder" "B" (.int (0 : Int32))) (g_oa : n0 ≤ oa) (ne_ca : cc ≠ oa) (Ac : Arv Z h0 cc kc .char (3 : Int32) [.int c0, .int c1, .int c2] (.int (0 : Int32))) (SC : Sta Z Z.heap "java/lang/String" "COMPACT_STRINGS" "Z" (.int cs)) (hcs : ¬ cs = 0) (XO : Old Z n0 h0) (hp0 : ¬ (255 : Int32) < c0) (hp1 : ¬ (255 : Int32) < c1) (hp2 : ¬ (255 : Int32) < c2) :
    MetFree l (⟨"java/lang/String", "<init>", "([CIILjava/lang/Void;)V"⟩ : MethodName) (head1 (Jvm.Cond.code (⟨"java/lang/String", "<init>", "([CIILjava/lang/Void;)V"⟩ : MethodName) jdk_42_method_149_code 6 none :: ws) ({ frames := 2, cells := 1, slots := 3, locals := 35 } : Room)) (fun a U => a = #[(.ref oa), (.ref cc), (.int (0 : Int32)), (.int (3 : Int32)), .null] ∧ Z.Warmed39 U.vm ∧ U.heap = h0) (fun _ _ _ _ _ => True) (fun _ U o U' => ∃ v L, o = .returned v ∧ own_QL3d Z oa c0 c1 c2 h0 n0 v U'.heap L ∧ FrameEnd U o U' L ({ frames := 2, cells := 1, slots := 3, locals := 35 } : Room).cells ({ frames := 2, cells := 1, slots := 3, locals := 35 } : Room).slots) := by
  refine MetFree.of_bodySF (plainFor_of_name pnL3d) hisR ?_
  intro p e s m args below meth c s₁ Bd hml0 hP hK
  obtain ⟨rfl, hZ, hh⟩ := hP
  have hx := Bd.exec
  have hby := Bd.bytes
  have hml : c.maxLocals = 6 := hml0
  have hown : s.vm.findClass "java/lang/String" = some m.cls := findClass_of_methodNamed Bd.named
  have hnm := (name_of_methodNamed Bd.named Bd.method).1
  have hlk : meth.locks = false := Bd.notSynchronized
  have X0 : Stand p l e ({ frames := 2, cells := 1, slots := 3, locals := 35 } : Room) s m #[(.ref oa), (.ref cc), (.int (0 : Int32)), (.int (3 : Int32)), .null] below meth c s₁ [] 0 0 := Stand.of_body Bd
  have e0 : s₁.heap = h0 := by rw [← hh, Bd.state]; rfl
  have N0 := Fr.nil n0
  refine own_go (fun t k => castTop (efL3d m oa cc (0 : Int32) (3 : Int32)) k) ?_
  show own_Go p e below _ (s₁.setTop (mkF m 0 #[.val (.ref oa), .val (.ref cc), .val (.int (0 : Int32)), .val (.int (3 : Int32)), .val .null, .unset] []))
  refine own_go (fun t k => XS.aloadN X0.here hx rfl (hb hby dL3d_0) rfl rfl k) ?_
  show own_Go p e below _ (s₁.setTop (mkF m 1 #[.val (.ref oa), .val (.ref cc), .val (.int (0 : Int32)), .val (.int (3 : Int32)), .val .null, .unset] [(.ref oa)]))
  obtain ⟨T2, X2, e2, st2⟩ := initO X0 hx hZ hown (hw _ (List.mem_of_getElem? (i := 15) rfl)) (hw _ (List.mem_of_getElem? (i := 16) rfl)) (hw _ (List.mem_of_getElem? (i := 17) rfl)) e0 (g := (mkF m 1 #[.val (.ref oa), .val (.ref cc), .val (.int (0 : Int32)), .val (.int (3 : Int32)), .val .null, .unset] [(.ref oa)])) rfl (by rw [hml]; rfl) rfl (hb hby dL3d_1) (by decide) (W := 0) (by show 2 * 0 + _ ≤ _; exact Nat.le_of_eq rfl) (by decide)
  refine own_go (fun t k => st2 t k) ?_
  show own_Go p e below _ (T2.setTop (mkF m 4 #[.val (.ref oa), .val (.ref cc), .val (.int (0 : Int32)), .val (.int (3 : Int32)), .val .null, .unset] []))
  refine own_go (fun t k => XS.iloadN X2.here hx rfl (hb hby dL3d_4) rfl k) ?_
  show own_Go p e below _ (T2.setTop (mkF m 5 #[.val (.ref oa), .val (.ref cc), .val (.int (0 : Int32)), .val (.int (3 : Int32)), .val .null, .unset] [(.int (3 : Int32))]))
  refine own_go (fun t k => XS.ifYes X2.here hx rfl (pc0 := 5) (pc' := 27) rfl (hb hby dL3d_5) rfl ((if0 _ _).trans (feq (by decide : ¬ ((3 : Int32) = (0 : Int32)))).2) (by decide) (by decide) k) ?_
  show own_Go p e below _ (T2.setTop (mkF m 27 #[.val (.ref oa), .val (.ref cc), .val (.int (0 : Int32)), .val (.int (3 : Int32)), .val .null, .unset] []))
  obtain ⟨T3, X3, e3, st3⟩ := getS2 X2 hx hZ hown (host := "") (Or.inl (hw _ (List.mem_of_getElem? (i := 37) rfl))) Via.refl e2 (SC.ext XO.2) (g := (mkF m 27 #[.val (.ref oa), .val (.ref cc), .val (.int (0 : Int32)), .val (.int (3 : Int32)), .val .null, .unset] [])) rfl (hb hby dL3d_27)
  refine own_go (fun t k => st3 t k) ?_
  show own_Go p e below _ (T3.setTop (mkF m 30 #[.val (.ref oa), .val (.ref cc), .val (.int (0 : Int32)), .val (.int (3 : Int32)), .val .null, .unset] [(.int cs)]))
  refine own_go (fun t k => XS.ifNo X3.here hx rfl (hb hby dL3d_30) rfl ((if0 _ _).trans (feq hcs).1) k) ?_
  show own_Go p e below _ (T3.setTop (mkF m 33 #[.val (.ref oa), .val (.ref cc), .val (.int (0 : Int32)), .val (.int (3 : Int32)), .val .null, .unset] []))
  refine own_go (fun t k => XS.aloadN X3.here hx rfl (hb hby dL3d_33) rfl rfl k) ?_
  show own_Go p e below _ (T3.setTop (mkF m 34 #[.val (.ref oa), .val (.ref cc), .val (.int (0 : Int32)), .val (.int (3 : Int32)), .val .null, .unset] [(.ref cc)]))
  refine own_go (fun t k => XS.iloadN X3.here hx rfl (hb hby dL3d_34) rfl k) ?_
  show own_Go p e below _ (T3.setTop (mkF m 35 #[.val (.ref oa), .val (.ref cc), .val (.int (0 : Int32)), .val (.int (3 : Int32)), .val .null, .unset] [(.int (0 : Int32)), (.ref cc)]))
  refine own_go (fun t k => XS.iloadN X3.here hx rfl (hb hby dL3d_35) rfl k) ?_
  show own_Go p e below _ (T3.setTop (mkF m 36 #[.val (.ref oa), .val (.ref cc), .val (.int (0 : Int32)), .val (.int (3 : Int32)), .val .null, .unset] [(.int (3 : Int32)), (.int (0 : Int32)), (.ref cc)]))
  obtain ⟨_, _, ⟨T4, L4, k4, n4⟩, -, X4, ⟨Lc4, hQ4, l4, y4, z4⟩, st4⟩ := Jvm.LawKit.callS X3 hx (y := (⟨"java/lang/StringUTF16", "compress", "([CII)[B"⟩ : MethodName)) hown (mvT hZ (hw _ (List.mem_of_getElem? (i := 48) rfl))) (mvT hZ (hw _ (List.mem_of_getElem? (i := 49) rfl))) (mvT hZ (hw _ (List.mem_of_getElem? (i := 50) rfl))) (mvT hZ (hw _ (List.mem_of_getElem? (i := 51) rfl))) (by decide) (backOf (W := 0) (rmL3c l Z a0 hw [] cc kc c0 c1 c2 h0 n0 Z0 Ac hp0 hp1 hp2) hZ (hw _ (List.mem_of_getElem? (i := 51) rfl)) (hw _ (List.mem_of_getElem? (i := 50) rfl)) (by decide) (by decide)) (g := (mkF m 36 #[.val (.ref oa), .val (.ref cc), .val (.int (0 : Int32)), .val (.int (3 : Int32)), .val .null, .unset] [(.int (3 : Int32)), (.int (0 : Int32)), (.ref cc)])) rfl (by rw [hml]; rfl) (argsL := [(.ref cc), (.int (0 : Int32)), (.int (3 : Int32))]) (rest := []) (lenOf pdL3d_0 rfl) rfl (by show 2 * 0 + _ ≤ _; exact Nat.le_of_eq rfl) (hb hby dL3d_36) (fun _ _ => ⟨rfl, e3, (by decide : 0 + 1 ≤ _), (by decide : 0 + 3 ≤ _)⟩)
  dsimp only [Pt.U, Pt.locs, Pt.cells, Pt.slots] at X4 l4 y4 z4 st4 hQ4
  subst l4 y4 z4
  obtain ⟨d4, kd4, rfl, Nq4, K4, ge4, A4⟩ := hQ4
  have N4 := Fr.app N0 Nq4
  refine own_go (fun t k => st4 t k) ?_
  have g_d4 : n0 ≤ d4 := Nat.le_trans Z0 ge4
  have sz_d4 : h0.size ≤ d4 := Nat.le_trans (Keep.refl h0 [oa]).1 ge4
  have ne_oa_d4 : oa ≠ d4 := Nat.ne_of_lt (Nat.lt_of_lt_of_le Ea.lt ge4)
  have ne_cc_d4 : cc ≠ d4 := Nat.ne_of_lt (Nat.lt_of_lt_of_le Ac.lt ge4)
  have Ea__4 := Ea.keep K4
  have Fv__4 := Fv.keep K4 nin0
  have Fc__4 := Fc.keep K4 nin0
  have Ac__4 := Ac.keep K4 nin0
  have XO__4 := XO.keep K4 all0
  have KP4 := (Keep.refl h0 [oa]).trans K4 all0
  have sz4 := Nat.le_trans Z0 K4.1
  show own_Go p e below _ (T4.setTop (mkF m 39 #[.val (.ref oa), .val (.ref cc), .val (.int (0 : Int32)), .val (.int (3 : Int32)), .val .null, .unset] [(.ref d4)]))
  refine own_go (fun t k => XS.astore X4.here hx rfl (hb hby dL3d_39) rfl rfl (l' := #[.val (.ref oa), .val (.ref cc), .val (.int (0 : Int32)), .val (.int (3 : Int32)), .val .null, .val (.ref d4)]) rfl k) ?_
  show own_Go p e below _ (T4.setTop (mkF m 41 #[.val (.ref oa), .val (.ref cc), .val (.int (0 : Int32)), .val (.int (3 : Int32)), .val .null, .val (.ref d4)] []))
  refine own_go (fun t k => XS.aloadN X4.here hx rfl (hb hby dL3d_41) rfl rfl k) ?_
  show own_Go p e below _ (T4.setTop (mkF m 42 #[.val (.ref oa), .val (.ref cc), .val (.int (0 : Int32)), .val (.int (3 : Int32)), .val .null, .val (.ref d4)] [(.ref oa)]))
  refine own_go (fun t k => XS.aload X4.here hx rfl (hb hby dL3d_42) rfl rfl k) ?_
  show own_Go p e below _ (T4.setTop (mkF m 44 #[.val (.ref oa), .val (.ref cc), .val (.int (0 : Int32)), .val (.int (3 : Int32)), .val .null, .val (.ref d4)] [(.ref d4), (.ref oa)]))
  refine own_go (fun t k => XS.iloadN X4.here hx rfl (hb hby dL3d_44) rfl k) ?_
  show own_Go p e below _ (T4.setTop (mkF m 45 #[.val (.ref oa), .val (.ref cc), .val (.int (0 : Int32)), .val (.int (3 : Int32)), .val .null, .val (.ref d4)] [(.int (3 : Int32)), (.ref d4), (.ref oa)]))
  obtain ⟨_, _, ⟨T5, L5, k5, n5⟩, -, X5, ⟨Lc5, hQ5, l5, y5, z5⟩, st5⟩ := Jvm.LawKit.callS X4 hx (y := (⟨"java/lang/StringUTF16", "coderFromArrayLen", "([BI)B"⟩ : MethodName)) hown (mvT hZ (hw _ (List.mem_of_getElem? (i := 55) rfl))) (mvT hZ (hw _ (List.mem_of_getElem? (i := 56) rfl))) (mvT hZ (hw _ (List.mem_of_getElem? (i := 50) rfl))) (mvT hZ (hw _ (List.mem_of_getElem? (i := 57) rfl))) (by decide) (backOf (W := 1) (rmL3a l Z a0 hw [] d4 kd4 (nar .byte (c0.toInt8.toInt32)) (nar .byte (c1.toInt8.toInt32)) (nar .byte (c2.toInt8.toInt32)) T4.heap n0 sz4 A4) hZ (hw _ (List.mem_of_getElem? (i := 57) rfl)) (hw _ (List.mem_of_getElem? (i := 50) rfl)) (by decide) (by decide)) (g := (mkF m 45 #[.val (.ref oa), .val (.ref cc), .val (.int (0 : Int32)), .val (.int (3 : Int32)), .val .null, .val (.ref d4)] [(.int (3 : Int32)), (.ref d4), (.ref oa)])) rfl (by rw [hml]; rfl) (argsL := [(.ref d4), (.int (3 : Int32))]) (rest := [(.ref oa)]) (lenOf pdL3d_1 rfl) rfl (by show 2 * 0 + _ ≤ _; exact Nat.le_of_eq rfl) (hb hby dL3d_45) (fun _ _ => ⟨rfl, rfl, (by decide : 0 + 1 + 0 ≤ _), (by decide : 0 + 3 + 0 ≤ _)⟩)
  dsimp only [Pt.U, Pt.locs, Pt.cells, Pt.slots] at X5 l5 y5 z5 st5 hQ5
  subst l5 y5 z5
  obtain ⟨rfl, Nq5, e5⟩ := hQ5
  have N5 := Fr.app N4 Nq5
  refine own_go (fun t k => st5 t k) ?_
  show own_Go p e below _ (T5.setTop (mkF m 48 #[.val (.ref oa), .val (.ref cc), .val (.int (0 : Int32)), .val (.int (3 : Int32)), .val .null, .val (.ref d4)] [(.int (0 : Int32)), (.ref oa)]))
  obtain ⟨T6, h6, X6, e6, W6, st6⟩ := putF X5 hx hZ hown (host := "") (Or.inl (hw _ (List.mem_of_getElem? (i := 25) rfl))) Via.refl e5 Fc__4 Ea__4 (Or.inr ⟨(hw _ (List.mem_of_getElem? (i := 21) rfl)), rfl, hnm⟩) (hw _ (List.mem_of_getElem? (i := 6) rfl)) (ty := .byte) (by decide) rfl rfl (g := (mkF m 48 #[.val (.ref oa), .val (.ref cc), .val (.int (0 : Int32)), .val (.int (3 : Int32)), .val .null, .val (.ref d4)] [(.int (0 : Int32)), (.ref oa)])) rfl rfl (hb hby dL3d_48)
  have Fw6 := Fc__4.same W6
  have Ea__6 := Ea__4.wr W6
  have Fv__6 := Fv__4.other W6 (Or.inr (slot_ne (Or.inr (hw _ (List.mem_of_getElem? (i := 20) rfl))) (Or.inr (hw _ (List.mem_of_getElem? (i := 21) rfl))) (by decide) (t := (.array .byte)) (t' := .byte) (by decide) (by decide)))
  have Ac__6 := Ac__4.other W6 ne_ca
  have XO__6 := XO__4.wr W6 g_oa
  have A4__6 := A4.other W6 (Ne.symm ne_oa_d4)
  have N6 := Fr.snoc X6 N5 g_oa
  have KP6 := KP4.wr W6 (Or.inl (List.mem_of_getElem? (i := 0) rfl))
  have sz6 := Nat.le_trans sz4 (Keep.of_wr W6).1
  refine own_go (fun t k => st6 t k) ?_
  show own_Go p e below _ (T6.setTop (mkF m 51 #[.val (.ref oa), .val (.ref cc), .val (.int (0 : Int32)), .val (.int (3 : Int32)), .val .null, .val (.ref d4)] []))
  refine own_go (fun t k => XS.aloadN X6.here hx rfl (hb hby dL3d_51) rfl rfl k) ?_
  show own_Go p e below _ (T6.setTop (mkF m 52 #[.val (.ref oa), .val (.ref cc), .val (.int (0 : Int32)), .val (.int (3 : Int32)), .val .null, .val (.ref d4)] [(.ref oa)]))
  refine own_go (fun t k => XS.aload X6.here hx rfl (hb hby dL3d_52) rfl rfl k) ?_
  show own_Go p e below _ (T6.setTop (mkF m 54 #[.val (.ref oa), .val (.ref cc), .val (.int (0 : Int32)), .val (.int (3 : Int32)), .val .null, .val (.ref d4)] [(.ref d4), (.ref oa)]))
  obtain ⟨T7, h7, X7, e7, W7, st7⟩ := putF X6 hx hZ hown (host := "") (Or.inl (hw _ (List.mem_of_getElem? (i := 24) rfl))) Via.refl e6 Fv__6 Ea__6 (Or.inr ⟨(hw _ (List.mem_of_getElem? (i := 20) rfl)), rfl, hnm⟩) (hw _ (List.mem_of_getElem? (i := 6) rfl)) (ty := (.array .byte)) (by decide) rfl rfl (g := (mkF m 54 #[.val (.ref oa), .val (.ref cc), .val (.int (0 : Int32)), .val (.int (3 : Int32)), .val .null, .val (.ref d4)] [(.ref d4), (.ref oa)])) rfl rfl (hb hby dL3d_54)
  have Fw7 := Fv__6.same W7
  have Ea__7 := Ea__6.wr W7
  have Fw6__7 := Fw6.other W7 (Or.inr (slot_ne (Or.inr (hw _ (List.mem_of_getElem? (i := 21) rfl))) (Or.inr (hw _ (List.mem_of_getElem? (i := 20) rfl))) (by decide) (t := .byte) (t' := (.array .byte)) (by decide) (by decide)))
  have Ac__7 := Ac__6.other W7 ne_ca
  have XO__7 := XO__6.wr W7 g_oa
  have A4__7 := A4__6.other W7 (Ne.symm ne_oa_d4)
  have N7 := Fr.snoc X7 N6 g_oa
  have KP7 := KP6.wr W7 (Or.inl (List.mem_of_getElem? (i := 0) rfl))
  have sz7 := Nat.le_trans sz6 (Keep.of_wr W7).1
  refine own_go (fun t k => st7 t k) ?_
  show own_Go p e below _ (T7.setTop (mkF m 57 #[.val (.ref oa), .val (.ref cc), .val (.int (0 : Int32)), .val (.int (3 : Int32)), .val .null, .val (.ref d4)] []))
  exact own_ret0 X7 hx Bd.returns (hb hby dL3d_57) (by rw [e7]; exact ⟨rfl, N7, KP7, Fw6__7, _, _, sz_d4, Fw7, A4__7⟩) (by decide) (by decide)
theorem dL3e_0 : decode jdk_42_method_3_code 0 = .ok (.aload_n 0, 1) := by decide +kernel
theorem dL3e_1 : decode jdk_42_method_3_code 1 = .ok (.aload_n 1, 1) := by decide +kernel
theorem dL3e_2 : decode jdk_42_method_3_code 2 = .ok (.iconst 0, 1) := by decide +kernel
theorem dL3e_3 : decode jdk_42_method_3_code 3 = .ok (.aload_n 1, 1) := by decide +kernel
theorem dL3e_4 : decode jdk_42_method_3_code 4 = .ok (.arraylength, 1) := by decide +kernel
theorem dL3e_5 : decode jdk_42_method_3_code 5 = .ok (.aconst_null, 1) := by decide +kernel
theorem dL3e_6 : decode jdk_42_method_3_code 6 = .ok (.invokespecial 27, 3) := by decide +kernel
theorem dL3e_9 : decode jdk_42_method_3_code 9 = .ok (.return_, 1) := by decide +kernel
theorem pnL3e : plainName "java/lang/String" = true := by first | (simp [plainName, overriddenIn]; done) | decide +kernel
theorem pdL3e_0 : parseMethodDescriptor "([CIILjava/lang/Void;)V" = some ⟨[(.array .char), .int, .int, (.object "java/lang/Void")], none⟩ := by decide +kernel
theorem efL3e (m : MethodId) (x0 : Addr) (x1 : Addr) : entryFrame m #[(.ref x0), (.ref x1)] 2 = mkF m 0 #[.val (.ref x0), .val (.ref x1)] [] := by first | (simp [entryFrame, mkF, argsToLocals, Value.category]; done) | rfl
set_option maxRecDepth 65536 in
set_option maxHeartbeats 40000000 in
theorem rmL3e (l : Launch) (Z : State) (a0 : Array Value) (hw : ∀ d ∈ tables_1, d.before a0 Z = true) (ws : List Jvm.Cond) (oa cc : Addr) (kc : ClassId) (cs : Int32) (c0 c1 c2 : Int32) (h0 : Heap) (n0 : Nat) (Z0 : n0 ≤ h0.size) (Ea : Exa Z h0 oa "java/lang/String") (Fv : Fld Z h0 oa "java/lang/String" "value" "[B" .null) (Fc : Fld Z h0 oa "java/lang/String" "coder" "B" (.int (0 : Int32))) (g_oa : n0 ≤ oa) (ne_ca : cc ≠ oa) (Ac : Arv Z h0 cc kc .char (3 : Int32) [.int c0, .int c1, .int c2] (.int (0 : Int32))) (SC : Sta Z Z.heap "java/lang/String" "COMPACT_STRINGS" "Z" (.int cs)) (hcs : ¬ cs = 0) (XO : Old Z n0 h0) (hp0 : ¬ (255 : Int32) < c0) (hp1 : ¬ (255 : Int32) < c1) (hp2 : ¬ (255 : Int32) < c2) :
    MetFree l (⟨"java/lang/String", "<init>", "([C)V"⟩ : MethodName) (head1 (Jvm.Cond.code (⟨"java/lang/String", "<init>", "([C)V"⟩ : MethodName) jdk_42_method_3_code 2 none :: ws) ({ frames := 3, cells := 1, slots := 3, locals := 52 } : Room)) (fun a U => a = #[(.ref oa), (.ref cc)] ∧ Z.Warmed39 U.vm ∧ U.heap = h0) (fun _ _ _ _ _ => True) (fun _ U o U' => ∃ v L, o = .returned v ∧ own_QL3d Z oa c0 c1 c2 h0 n0 v U'.heap L ∧ FrameEnd U o U' L ({ frames := 3, cells := 1, slots := 3, locals := 52 } : Room).cells ({ frames := 3, cells := 1, slots := 3, locals := 52 } : Room).slots) := by
  refine MetFree.of_bodySF (plainFor_of_name pnL3e) hisR ?_
  intro p e s m args below meth c s₁ Bd hml0 hP hK
  obtain ⟨rfl, hZ, hh⟩ := hP
  have hx := Bd.exec
  have hby := Bd.bytes
  have hml : c.maxLocals = 2 := hml0
  have hown : s.vm.findClass "java/lang/String" = some m.cls := findClass_of_methodNamed Bd.named
  have hnm := (name_of_methodNamed Bd.named Bd.method).1
  have hlk : meth.locks = false := Bd.notSynchronized
  have X0 : Stand p l e ({ frames := 3, cells := 1, slots := 3, locals := 52 } : Room) s m #[(.ref oa), (.ref cc)] below meth c s₁ [] 0 0 := Stand.of_body Bd
  have e0 : s₁.heap = h0 := by rw [← hh, Bd.state]; rfl
  have N0 := Fr.nil n0
  refine own_go (fun t k => castTop (efL3e m oa cc) k) ?_
  show own_Go p e below _ (s₁.setTop (mkF m 0 #[.val (.ref oa), .val (.ref cc)] []))
  refine own_go (fun t k => XS.aloadN X0.here hx rfl (hb hby dL3e_0) rfl rfl k) ?_
  show own_Go p e below _ (s₁.setTop (mkF m 1 #[.val (.ref oa), .val (.ref cc)] [(.ref oa)]))
  refine own_go (fun t k => XS.aloadN X0.here hx rfl (hb hby dL3e_1) rfl rfl k) ?_
  show own_Go p e below _ (s₁.setTop (mkF m 2 #[.val (.ref oa), .val (.ref cc)] [(.ref cc), (.ref oa)]))
  refine own_go (fun t k => XS.iconst X0.here hx rfl (hb hby dL3e_2) k) ?_
  show own_Go p e below _ (s₁.setTop (mkF m 3 #[.val (.ref oa), .val (.ref cc)] [(.int (0 : Int32)), (.ref cc), (.ref oa)]))
  refine own_go (fun t k => XS.aloadN X0.here hx rfl (hb hby dL3e_3) rfl rfl k) ?_
  show own_Go p e below _ (s₁.setTop (mkF m 4 #[.val (.ref oa), .val (.ref cc)] [(.ref cc), (.int (0 : Int32)), (.ref cc), (.ref oa)]))
  obtain ⟨cl1, Ar1, -, Sa1, Na1, -, -⟩ := id Ac
  have ln1 := len_of Sa1 Na1
  refine own_go (fun t k => X0.arraylength hx (by rw [e0]; exact Ar1.1) (State.isArrayOf_alike hZ.alike Ar1.2.1) (g := (mkF m 4 #[.val (.ref oa), .val (.ref cc)] [(.ref cc), (.int (0 : Int32)), (.ref cc), (.ref oa)])) rfl rfl (hb hby dL3e_4) t (by rw [ln1]; exact k)) ?_
  show own_Go p e below _ (s₁.setTop (mkF m 5 #[.val (.ref oa), .val (.ref cc)] [(.int (3 : Int32)), (.int (0 : Int32)), (.ref cc), (.ref oa)]))
  refine own_go (fun t k => XS.aconstNull X0.here hx rfl (hb hby dL3e_5) k) ?_
  show own_Go p e below _ (s₁.setTop (mkF m 6 #[.val (.ref oa), .val (.ref cc)] [.null, (.int (3 : Int32)), (.int (0 : Int32)), (.ref cc), (.ref oa)]))
  obtain ⟨_, _, ⟨T2, L2, k2, n2⟩, -, X2, ⟨Lc2, hQ2, l2, y2, z2⟩, st2⟩ := X0.specialBack hx (y := (⟨"java/lang/String", "<init>", "([CIILjava/lang/Void;)V"⟩ : MethodName)) rfl hown (mvT hZ (hw _ (List.mem_of_getElem? (i := 11) rfl))) (mvT hZ (hw _ (List.mem_of_getElem? (i := 12) rfl))) (mvT hZ (hw _ (List.mem_of_getElem? (i := 14) rfl))) (by decide) (backOf (W := 0) (rmL3d l Z a0 hw [] oa cc kc cs c0 c1 c2 h0 n0 Z0 Ea Fv Fc g_oa ne_ca Ac SC hcs XO hp0 hp1 hp2) hZ (hw _ (List.mem_of_getElem? (i := 14) rfl)) (hw _ (List.mem_of_getElem? (i := 7) rfl)) (by decide) (by decide)) (g := (mkF m 6 #[.val (.ref oa), .val (.ref cc)] [.null, (.int (3 : Int32)), (.int (0 : Int32)), (.ref cc), (.ref oa)])) rfl (by rw [hml]; rfl) (Steps.refl _) (a := oa) (argsL := [(.ref cc), (.int (0 : Int32)), (.int (3 : Int32)), .null]) (rest := []) (lenOf pdL3e_0 rfl) rfl (by show 2 * 0 + _ ≤ _; exact Nat.le_of_eq rfl) (hb hby dL3e_6) (fun _ _ => ⟨rfl, e0, (by decide : 0 + 1 ≤ _), (by decide : 0 + 3 ≤ _)⟩)
  dsimp only [Pt.U, Pt.locs, Pt.cells, Pt.slots] at X2 l2 y2 z2 st2 hQ2
  subst l2 y2 z2
  obtain ⟨rfl, Nq2, K2, Fc2, d2, kd2, ge2, Fv2, A2⟩ := hQ2
  have N2 := Fr.app N0 Nq2
  refine own_go (fun t k => st2.trans k) ?_
  have g_d2 : n0 ≤ d2 := Nat.le_trans Z0 ge2
  have sz_d2 : h0.size ≤ d2 := Nat.le_trans (Keep.refl h0 [oa]).1 ge2
  have ne_oa_d2 : oa ≠ d2 := Nat.ne_of_lt (Nat.lt_of_lt_of_le Ea.lt ge2)
  have ne_cc_d2 : cc ≠ d2 := Nat.ne_of_lt (Nat.lt_of_lt_of_le Ac.lt ge2)
  have Ea__2 := Ea.keep K2
  have Ac__2 := Ac.keep K2 (ninS ne_ca nin0)
  have XO__2 := XO.keep K2 (allS g_oa all0)
  have KP2 := (Keep.refl h0 [oa]).trans K2 (allS (Or.inl (List.mem_of_getElem? (i := 0) rfl)) all0)
  have sz2 := Nat.le_trans Z0 K2.1
  show own_Go p e below _ (T2.setTop (mkF m 9 #[.val (.ref oa), .val (.ref cc)] []))
  exact own_ret0 X2 hx Bd.returns (hb hby dL3e_9) (⟨rfl, N2, KP2, Fc2, _, _, sz_d2, Fv2, A2⟩) (by decide) (by decide)
theorem dEd_0 : decode jdk_42_method_149_code 0 = .ok (.aload_n 0, 1) := by decide +kernel
theorem dEd_1 : decode jdk_42_method_149_code 1 = .ok (.invokespecial 1, 3) := by decide +kernel
theorem dEd_4 : decode jdk_42_method_149_code 4 = .ok (.iload_n 3, 1) := by decide +kernel
theorem dEd_5 : decode jdk_42_method_149_code 5 = .ok (.ifCond .ne 22, 3) := by decide +kernel
theorem dEd_8 : decode jdk_42_method_149_code 8 = .ok (.aload_n 0, 1) := by decide +kernel
theorem dEd_9 : decode jdk_42_method_149_code 9 = .ok (.ldc 7, 2) := by decide +kernel
theorem dEd_11 : decode jdk_42_method_149_code 11 = .ok (.getfield 9, 3) := by decide +kernel
theorem dEd_14 : decode jdk_42_method_149_code 14 = .ok (.putfield 9, 3) := by decide +kernel
theorem dEd_17 : decode jdk_42_method_149_code 17 = .ok (.aload_n 0, 1) := by decide +kernel
theorem dEd_18 : decode jdk_42_method_149_code 18 = .ok (.ldc 7, 2) := by decide +kernel
theorem dEd_20 : decode jdk_42_method_149_code 20 = .ok (.getfield 15, 3) := by decide +kernel
theorem dEd_23 : decode jdk_42_method_149_code 23 = .ok (.putfield 15, 3) := by decide +kernel
theorem dEd_26 : decode jdk_42_method_149_code 26 = .ok (.return_, 1) := by decide +kernel
theorem pnEd : plainName "java/lang/String" = true := by first | (simp [plainName, overriddenIn]; done) | decide +kernel
theorem efEd (m : MethodId) (x0 : Addr) (x1 : Addr) (x2 : Int32) (x3 : Int32) : entryFrame m #[(.ref x0), (.ref x1), (.int x3), (.int x3), .null] 6 = mkF m 0 #[.val (.ref x0), .val (.ref x1), .val (.int x3), .val (.int x3), .val .null, .unset] [] := by first | (simp [entryFrame, mkF, argsToLocals, Value.category]; done) | rfl
def own_QE (Z : State) (a : Addr) (h0 : Heap) (n0 : Nat) (v : Option Value) (h : Heap) (L : List Loc) : Prop := v = none ∧ Fr n0 L ∧ Keep h0 h [a] ∧ Fld Z h a "java/lang/String" "coder" "B" (.int (0 : Int32)) ∧ ∃ (b : Addr) (kb : ClassId), Fld Z h a "java/lang/String" "value" "[B" (.ref b) ∧ Arv Z h b kb .byte (0 : Int32) [] (.int (0 : Int32))
set_option maxRecDepth 65536 in
set_option maxHeartbeats 40000000 in
theorem rmEd (l : Launch) (Z : State) (a0 : Array Value) (hw : ∀ d ∈ tables_1, d.before a0 Z = true) (ws : List Jvm.Cond) (oa cc : Addr) (h0 : Heap) (n0 : Nat) (Z0 : n0 ≤ h0.size) (Ea : Exa Z h0 oa "java/lang/String") (Fv : Fld Z h0 oa "java/lang/String" "value" "[B" .null) (Fc : Fld Z h0 oa "java/lang/String" "coder" "B" (.int (0 : Int32))) (g_oa : n0 ≤ oa) :
    MetFree l (⟨"java/lang/String", "<init>", "([CIILjava/lang/Void;)V"⟩ : MethodName) (head1 (Jvm.Cond.code (⟨"java/lang/String", "<init>", "([CIILjava/lang/Void;)V"⟩ : MethodName) jdk_42_method_149_code 6 none :: ws) ({ frames := 1, cells := 4, slots := 8, locals := 12 } : Room)) (fun a U => a = #[(.ref oa), (.ref cc), (.int (0 : Int32)), (.int (0 : Int32)), .null] ∧ Z.Warmed39 U.vm ∧ U.heap = h0 ∧ CHv Z own_EL U.vm h0 ∧ ∀ x ∈ ([oa] : List Addr), Safe Z own_EL U.vm h0 x) (fun _ _ _ _ _ => True) (fun _ U o U' => ∃ v L, o = .returned v ∧ own_QE Z oa h0 n0 v U'.heap L ∧ CHr Z own_EL U.vm U.heap U'.vm U'.heap ∧ ReturnedEndW U o U' L ({ frames := 1, cells := 4, slots := 8, locals := 12 } : Room).cells ({ frames := 1, cells := 4, slots := 8, locals := 12 } : Room).slots) := by
  refine MetFree.of_bodySF (plainFor_of_name pnEd) hisR ?_
  intro p e s m args below meth c s₁ Bd hml0 hP hK
  obtain ⟨rfl, hZ, hh, hC0, hsf0⟩ := hP
  have hx := Bd.exec
  have hby := Bd.bytes
  have hml : c.maxLocals = 6 := hml0
  have hown : s.vm.findClass "java/lang/String" = some m.cls := findClass_of_methodNamed Bd.named
  have hnm := (name_of_methodNamed Bd.named Bd.method).1
  have hlk : meth.locks = false := Bd.notSynchronized
  have hEL := own_ew hw
  have hR0 : CHr Z own_EL s.vm h0 s.vm h0 := CHr.refl hC0
  have Zs_oa := hsf0 oa (List.mem_of_getElem? (i := 0) rfl)
  have hS0 : s.Since s.vm 0 := (State.WarmedH.refl s).since 0
  have hk0 : 0 ≤ h0.size := Nat.zero_le _
  have X0 : Stand p l e ({ frames := 1, cells := 4, slots := 8, locals := 12 } : Room) (s.setVm s.vm) m #[(.ref oa), (.ref cc), (.int (0 : Int32)), (.int (0 : Int32)), .null] below meth c s₁ [] 0 0 := Stand.of_body Bd
  have e0 : s₁.heap = h0 := by rw [← hh, Bd.state]; rfl
  have N0 := Fr.nil n0
  refine own_go (fun t k => castTop (efEd m oa cc (0 : Int32) (0 : Int32)) k) ?_
  show own_Go p e below _ (s₁.setTop (mkF m 0 #[.val (.ref oa), .val (.ref cc), .val (.int (0 : Int32)), .val (.int (0 : Int32)), .val .null, .unset] []))
  refine own_go (fun t k => XS.aloadN X0.here hx rfl (hb hby dEd_0) rfl rfl k) ?_
  show own_Go p e below _ (s₁.setTop (mkF m 1 #[.val (.ref oa), .val (.ref cc), .val (.int (0 : Int32)), .val (.int (0 : Int32)), .val .null, .unset] [(.ref oa)]))
  obtain ⟨T2, X2, e2, st2⟩ := initO X0 hx hZ hown (hw _ (List.mem_of_getElem? (i := 15) rfl)) (hw _ (List.mem_of_getElem? (i := 16) rfl)) (hw _ (List.mem_of_getElem? (i := 17) rfl)) e0 (g := (mkF m 1 #[.val (.ref oa), .val (.ref cc), .val (.int (0 : Int32)), .val (.int (0 : Int32)), .val .null, .unset] [(.ref oa)])) rfl (by rw [hml]; rfl) rfl (hb hby dEd_1) (by decide) (W := 0) (by show 2 * 0 + _ ≤ _; exact Nat.le_of_eq rfl) (by decide)
  refine own_go (fun t k => st2 t k) ?_
  show own_Go p e below _ (T2.setTop (mkF m 4 #[.val (.ref oa), .val (.ref cc), .val (.int (0 : Int32)), .val (.int (0 : Int32)), .val .null, .unset] []))
  refine own_go (fun t k => XS.iloadN X2.here hx rfl (hb hby dEd_4) rfl k) ?_
  show own_Go p e below _ (T2.setTop (mkF m 5 #[.val (.ref oa), .val (.ref cc), .val (.int (0 : Int32)), .val (.int (0 : Int32)), .val .null, .unset] [(.int (0 : Int32))]))
  refine own_go (fun t k => XS.ifNo X2.here hx rfl (hb hby dEd_5) rfl ((if0 _ _).trans (teq (by decide : (0 : Int32) = (0 : Int32))).2) k) ?_
  show own_Go p e below _ (T2.setTop (mkF m 8 #[.val (.ref oa), .val (.ref cc), .val (.int (0 : Int32)), .val (.int (0 : Int32)), .val .null, .unset] []))
  refine own_go (fun t k => XS.aloadN X2.here hx rfl (hb hby dEd_8) rfl rfl k) ?_
  show own_Go p e below _ (T2.setTop (mkF m 9 #[.val (.ref oa), .val (.ref cc), .val (.int (0 : Int32)), .val (.int (0 : Int32)), .val .null, .unset] [(.ref oa)]))
  obtain ⟨s3, T3, h3, j3, c3, kc3, X3, e3, E3, hS3, hk3, hZ3, hown3, Es3, Fc3, Fv3, Ab3, -, -, hC3, -, hne3, st3⟩ := ldcCH X2 hx hZ hown (hw _ (List.mem_of_getElem? (i := 18) rfl)) (own_wS hw) e2 hS0 hk0 hEL (List.mem_of_getElem? (i := 2) rfl) hC0 (vs := []) (z := (0 : Int32)) ⟨by decide, by decide +kernel⟩ (by decide) rfl (g := (mkF m 9 #[.val (.ref oa), .val (.ref cc), .val (.int (0 : Int32)), .val (.int (0 : Int32)), .val .null, .unset] [(.ref oa)])) rfl (hb hby dEd_9) (n := 0) (by decide) (by decide) (by decide) (by decide)
  have Ea__3 := Ea.ext E3
  have Fv__3 := Fv.ext E3
  have Fc__3 := Fc.ext E3
  have Zs_oa__3 := hC3.safe Ea.lt Zs_oa
  have hR3 := hR0.trans hC3
  have hD3 := hR3.1
  have sz3 := Nat.le_trans Z0 E3.1
  have KP3 := (Keep.refl h0 [oa]).ext E3
  have ne_oa_s3 := (hne3 oa Zs_oa__3).1
  have ne_oa_c3 := (hne3 oa Zs_oa__3).2
  refine own_go (fun t k => st3 t k) ?_
  show own_Go p e below _ (T3.setTop (mkF m 11 #[.val (.ref oa), .val (.ref cc), .val (.int (0 : Int32)), .val (.int (0 : Int32)), .val .null, .unset] [(.ref s3), (.ref oa)]))
  obtain ⟨T4, X4, e4, st4⟩ := getF X3 hx hZ3 hown3 (host := "") (Or.inl (hw _ (List.mem_of_getElem? (i := 24) rfl))) Via.refl e3 Fv3 (g := (mkF m 11 #[.val (.ref oa), .val (.ref cc), .val (.int (0 : Int32)), .val (.int (0 : Int32)), .val .null, .unset] [(.ref s3), (.ref oa)])) rfl rfl (hb hby dEd_11)
  refine own_go (fun t k => st4 t k) ?_
  show own_Go p e below _ (T4.setTop (mkF m 14 #[.val (.ref oa), .val (.ref cc), .val (.int (0 : Int32)), .val (.int (0 : Int32)), .val .null, .unset] [(.ref c3), (.ref oa)]))
  obtain ⟨T5, h5, X5, e5, W5, st5⟩ := putF X4 hx hZ3 hown3 (host := "") (Or.inl (hw _ (List.mem_of_getElem? (i := 24) rfl))) Via.refl e4 Fv__3 Ea__3 (Or.inr ⟨(hw _ (List.mem_of_getElem? (i := 20) rfl)), rfl, hnm⟩) (hw _ (List.mem_of_getElem? (i := 6) rfl)) (ty := (.array .byte)) (by decide) rfl rfl (g := (mkF m 14 #[.val (.ref oa), .val (.ref cc), .val (.int (0 : Int32)), .val (.int (0 : Int32)), .val .null, .unset] [(.ref c3), (.ref oa)])) rfl rfl (hb hby dEd_14)
  have Fw5 := Fv__3.same W5
  have Sa5 : Safe Z own_EL T3.vm h3 oa := Zs_oa__3
  have Ea__5 := Ea__3.wr W5
  have Fc__5 := Fc__3.other W5 (Or.inr (slot_ne (Or.inr (hw _ (List.mem_of_getElem? (i := 21) rfl))) (Or.inr (hw _ (List.mem_of_getElem? (i := 20) rfl))) (by decide) (t := .byte) (t' := (.array .byte)) (by decide) (by decide)))
  have Es3__5 := Es3.wr W5
  have Fc3__5 := Fc3.other W5 (Or.inl (Ne.symm ne_oa_s3))
  have Fv3__5 := Fv3.other W5 (Or.inl (Ne.symm ne_oa_s3))
  have Ab3__5 := Ab3.other W5 (Ne.symm ne_oa_c3)
  have Zs_oa__5 := Safe.wr W5 Sa5 hD3 Zs_oa__3
  have hR5 := hR3.trans (CHr.wr W5 Sa5 hD3)
  have hC5 := hR5.1
  have N5 := Fr.snoc X5 N0 g_oa
  have KP5 := KP3.wr W5 (Or.inl (List.mem_of_getElem? (i := 0) rfl))
  have sz5 := Nat.le_trans sz3 (Keep.of_wr W5).1
  have hk5 := Nat.le_trans hk3 (Keep.of_wr W5).1
  refine own_go (fun t k => st5 t k) ?_
  show own_Go p e below _ (T5.setTop (mkF m 17 #[.val (.ref oa), .val (.ref cc), .val (.int (0 : Int32)), .val (.int (0 : Int32)), .val .null, .unset] []))
  refine own_go (fun t k => XS.aloadN X5.here hx rfl (hb hby dEd_17) rfl rfl k) ?_
  show own_Go p e below _ (T5.setTop (mkF m 18 #[.val (.ref oa), .val (.ref cc), .val (.int (0 : Int32)), .val (.int (0 : Int32)), .val .null, .unset] [(.ref oa)]))
  obtain ⟨s6, T6, h6, j6, c6, kc6, X6, e6, E6, hS6, hk6, hZ6, hown6, Es6, Fc6, Fv6, Ab6, -, -, hC6, -, hne6, st6⟩ := ldcCH X5 hx hZ3 hown3 (hw _ (List.mem_of_getElem? (i := 18) rfl)) (own_wS hw) e5 hS3 hk5 hEL (List.mem_of_getElem? (i := 2) rfl) hC5 (vs := []) (z := (0 : Int32)) ⟨by decide, by decide +kernel⟩ (by decide) rfl (g := (mkF m 18 #[.val (.ref oa), .val (.ref cc), .val (.int (0 : Int32)), .val (.int (0 : Int32)), .val .null, .unset] [(.ref oa)])) rfl (hb hby dEd_18) (n := 0) (by decide) (by decide) (by decide) (by decide)
  have Ea__6 := Ea__5.ext E6
  have Fw5__6 := Fw5.ext E6
  have Fc__6 := Fc__5.ext E6
  have Es3__6 := Es3__5.ext E6
  have Fc3__6 := Fc3__5.ext E6
  have Fv3__6 := Fv3__5.ext E6
  have Ab3__6 := Ab3__5.ext E6
  have Zs_oa__6 := hC6.safe Ea__5.lt Zs_oa__5
  have hR6 := hR5.trans hC6
  have hD6 := hR6.1
  have sz6 := Nat.le_trans sz5 E6.1
  have KP6 := KP5.ext E6
  have ne_oa_s6 := (hne6 oa Zs_oa__6).1
  have ne_oa_c6 := (hne6 oa Zs_oa__6).2
  refine own_go (fun t k => st6 t k) ?_
  show own_Go p e below _ (T6.setTop (mkF m 20 #[.val (.ref oa), .val (.ref cc), .val (.int (0 : Int32)), .val (.int (0 : Int32)), .val .null, .unset] [(.ref s6), (.ref oa)]))
  obtain ⟨T7, X7, e7, st7⟩ := getF X6 hx hZ6 hown6 (host := "") (Or.inl (hw _ (List.mem_of_getElem? (i := 25) rfl))) Via.refl e6 Fc6 (g := (mkF m 20 #[.val (.ref oa), .val (.ref cc), .val (.int (0 : Int32)), .val (.int (0 : Int32)), .val .null, .unset] [(.ref s6), (.ref oa)])) rfl rfl (hb hby dEd_20)
  refine own_go (fun t k => st7 t k) ?_
  show own_Go p e below _ (T7.setTop (mkF m 23 #[.val (.ref oa), .val (.ref cc), .val (.int (0 : Int32)), .val (.int (0 : Int32)), .val .null, .unset] [(.int (0 : Int32)), (.ref oa)]))
  obtain ⟨T8, h8, X8, e8, W8, st8⟩ := putF X7 hx hZ6 hown6 (host := "") (Or.inl (hw _ (List.mem_of_getElem? (i := 25) rfl))) Via.refl e7 Fc__6 Ea__6 (Or.inr ⟨(hw _ (List.mem_of_getElem? (i := 21) rfl)), rfl, hnm⟩) (hw _ (List.mem_of_getElem? (i := 6) rfl)) (ty := .byte) (by decide) rfl rfl (g := (mkF m 23 #[.val (.ref oa), .val (.ref cc), .val (.int (0 : Int32)), .val (.int (0 : Int32)), .val .null, .unset] [(.int (0 : Int32)), (.ref oa)])) rfl rfl (hb hby dEd_23)
  have Fw8 := Fc__6.same W8
  have Sa8 : Safe Z own_EL T6.vm h6 oa := Zs_oa__6
  have Ea__8 := Ea__6.wr W8
  have Fw5__8 := Fw5__6.other W8 (Or.inr (slot_ne (Or.inr (hw _ (List.mem_of_getElem? (i := 20) rfl))) (Or.inr (hw _ (List.mem_of_getElem? (i := 21) rfl))) (by decide) (t := (.array .byte)) (t' := .byte) (by decide) (by decide)))
  have Es3__8 := Es3__6.wr W8
  have Fc3__8 := Fc3__6.other W8 (Or.inl (Ne.symm ne_oa_s3))
  have Fv3__8 := Fv3__6.other W8 (Or.inl (Ne.symm ne_oa_s3))
  have Ab3__8 := Ab3__6.other W8 (Ne.symm ne_oa_c3)
  have Es6__8 := Es6.wr W8
  have Fc6__8 := Fc6.other W8 (Or.inl (Ne.symm ne_oa_s6))
  have Fv6__8 := Fv6.other W8 (Or.inl (Ne.symm ne_oa_s6))
  have Ab6__8 := Ab6.other W8 (Ne.symm ne_oa_c6)
  have Zs_oa__8 := Safe.wr W8 Sa8 hD6 Zs_oa__6
  have hR8 := hR6.trans (CHr.wr W8 Sa8 hD6)
  have hC8 := hR8.1
  have N8 := Fr.snoc X8 N5 g_oa
  have KP8 := KP6.wr W8 (Or.inl (List.mem_of_getElem? (i := 0) rfl))
  have sz8 := Nat.le_trans sz6 (Keep.of_wr W8).1
  have hk8 := Nat.le_trans hk6 (Keep.of_wr W8).1
  refine own_go (fun t k => st8 t k) ?_
  show own_Go p e below _ (T8.setTop (mkF m 26 #[.val (.ref oa), .val (.ref cc), .val (.int (0 : Int32)), .val (.int (0 : Int32)), .val .null, .unset] []))
  have hF : CHr Z own_EL s.vm s.heap T8.vm T8.heap := by rw [hh, e8]; exact hR8.trans (CHv.at X8 hZ6 hEL hC8)
  exact own_ret0H X8 hx Bd.returns (hb hby dEd_26) hS6 (by rw [e8]; exact hk8) (by rw [e8]; exact ⟨rfl, N8, KP8, Fw8, _, _, Fw5__8, Ab3__8⟩) (hF) (by decide) (by decide)
theorem dEe_0 : decode jdk_42_method_3_code 0 = .ok (.aload_n 0, 1) := by decide +kernel
theorem dEe_1 : decode jdk_42_method_3_code 1 = .ok (.aload_n 1, 1) := by decide +kernel
theorem dEe_2 : decode jdk_42_method_3_code 2 = .ok (.iconst 0, 1) := by decide +kernel
theorem dEe_3 : decode jdk_42_method_3_code 3 = .ok (.aload_n 1, 1) := by decide +kernel
theorem dEe_4 : decode jdk_42_method_3_code 4 = .ok (.arraylength, 1) := by decide +kernel
theorem dEe_5 : decode jdk_42_method_3_code 5 = .ok (.aconst_null, 1) := by decide +kernel
theorem dEe_6 : decode jdk_42_method_3_code 6 = .ok (.invokespecial 27, 3) := by decide +kernel
theorem dEe_9 : decode jdk_42_method_3_code 9 = .ok (.return_, 1) := by decide +kernel
theorem pnEe : plainName "java/lang/String" = true := by first | (simp [plainName, overriddenIn]; done) | decide +kernel
theorem pdEe_0 : parseMethodDescriptor "([CIILjava/lang/Void;)V" = some ⟨[(.array .char), .int, .int, (.object "java/lang/Void")], none⟩ := by decide +kernel
theorem efEe (m : MethodId) (x0 : Addr) (x1 : Addr) : entryFrame m #[(.ref x0), (.ref x1)] 2 = mkF m 0 #[.val (.ref x0), .val (.ref x1)] [] := by first | (simp [entryFrame, mkF, argsToLocals, Value.category]; done) | rfl
set_option maxRecDepth 65536 in
set_option maxHeartbeats 40000000 in
theorem rmEe (l : Launch) (Z : State) (a0 : Array Value) (hw : ∀ d ∈ tables_1, d.before a0 Z = true) (ws : List Jvm.Cond) (oa cc : Addr) (kc : ClassId) (h0 : Heap) (n0 : Nat) (Z0 : n0 ≤ h0.size) (Ea : Exa Z h0 oa "java/lang/String") (Fv : Fld Z h0 oa "java/lang/String" "value" "[B" .null) (Fc : Fld Z h0 oa "java/lang/String" "coder" "B" (.int (0 : Int32))) (g_oa : n0 ≤ oa) (Ac : Arv Z h0 cc kc .char (0 : Int32) [] (.int (0 : Int32))) :
    MetFree l (⟨"java/lang/String", "<init>", "([C)V"⟩ : MethodName) (head1 (Jvm.Cond.code (⟨"java/lang/String", "<init>", "([C)V"⟩ : MethodName) jdk_42_method_3_code 2 none :: ws) ({ frames := 2, cells := 4, slots := 8, locals := 29 } : Room)) (fun a U => a = #[(.ref oa), (.ref cc)] ∧ Z.Warmed39 U.vm ∧ U.heap = h0 ∧ CHv Z own_EL U.vm h0 ∧ ∀ x ∈ ([oa] : List Addr), Safe Z own_EL U.vm h0 x) (fun _ _ _ _ _ => True) (fun _ U o U' => ∃ v L, o = .returned v ∧ own_QE Z oa h0 n0 v U'.heap L ∧ CHr Z own_EL U.vm U.heap U'.vm U'.heap ∧ ReturnedEndW U o U' L ({ frames := 2, cells := 4, slots := 8, locals := 29 } : Room).cells ({ frames := 2, cells := 4, slots := 8, locals := 29 } : Room).slots) := by
  refine MetFree.of_bodySF (plainFor_of_name pnEe) hisR ?_
  intro p e s m args below meth c s₁ Bd hml0 hP hK
  obtain ⟨rfl, hZ, hh, hC0, hsf0⟩ := hP
  have hx := Bd.exec
  have hby := Bd.bytes
  have hml : c.maxLocals = 2 := hml0
  have hown : s.vm.findClass "java/lang/String" = some m.cls := findClass_of_methodNamed Bd.named
  have hnm := (name_of_methodNamed Bd.named Bd.method).1
  have hlk : meth.locks = false := Bd.notSynchronized
  have hEL := own_ew hw
  have hR0 : CHr Z own_EL s.vm h0 s.vm h0 := CHr.refl hC0
  have Zs_oa := hsf0 oa (List.mem_of_getElem? (i := 0) rfl)
  have hS0 : s.Since s.vm 0 := (State.WarmedH.refl s).since 0
  have hk0 : 0 ≤ h0.size := Nat.zero_le _
  have X0 : Stand p l e ({ frames := 2, cells := 4, slots := 8, locals := 29 } : Room) (s.setVm s.vm) m #[(.ref oa), (.ref cc)] below meth c s₁ [] 0 0 := Stand.of_body Bd
  have e0 : s₁.heap = h0 := by rw [← hh, Bd.state]; rfl
  have N0 := Fr.nil n0
  refine own_go (fun t k => castTop (efEe m oa cc) k) ?_
  show own_Go p e below _ (s₁.setTop (mkF m 0 #[.val (.ref oa), .val (.ref cc)] []))
  refine own_go (fun t k => XS.aloadN X0.here hx rfl (hb hby dEe_0) rfl rfl k) ?_
  show own_Go p e below _ (s₁.setTop (mkF m 1 #[.val (.ref oa), .val (.ref cc)] [(.ref oa)]))
  refine own_go (fun t k => XS.aloadN X0.here hx rfl (hb hby dEe_1) rfl rfl k) ?_
  show own_Go p e below _ (s₁.setTop (mkF m 2 #[.val (.ref oa), .val (.ref cc)] [(.ref cc), (.ref oa)]))
  refine own_go (fun t k => XS.iconst X0.here hx rfl (hb hby dEe_2) k) ?_
  show own_Go p e below _ (s₁.setTop (mkF m 3 #[.val (.ref oa), .val (.ref cc)] [(.int (0 : Int32)), (.ref cc), (.ref oa)]))
  refine own_go (fun t k => XS.aloadN X0.here hx rfl (hb hby dEe_3) rfl rfl k) ?_
  show own_Go p e below _ (s₁.setTop (mkF m 4 #[.val (.ref oa), .val (.ref cc)] [(.ref cc), (.int (0 : Int32)), (.ref cc), (.ref oa)]))
  obtain ⟨cl1, Ar1, -, Sa1, Na1, -, -⟩ := id Ac
  have ln1 := len_of Sa1 Na1
  refine own_go (fun t k => X0.arraylength hx (by rw [e0]; exact Ar1.1) (State.isArrayOf_alike hZ.alike Ar1.2.1) (g := (mkF m 4 #[.val (.ref oa), .val (.ref cc)] [(.ref cc), (.int (0 : Int32)), (.ref cc), (.ref oa)])) rfl rfl (hb hby dEe_4) t (by rw [ln1]; exact k)) ?_
  show own_Go p e below _ (s₁.setTop (mkF m 5 #[.val (.ref oa), .val (.ref cc)] [(.int (0 : Int32)), (.int (0 : Int32)), (.ref cc), (.ref oa)]))
  refine own_go (fun t k => XS.aconstNull X0.here hx rfl (hb hby dEe_5) k) ?_
  show own_Go p e below _ (s₁.setTop (mkF m 6 #[.val (.ref oa), .val (.ref cc)] [.null, (.int (0 : Int32)), (.int (0 : Int32)), (.ref cc), (.ref oa)]))
  obtain ⟨_, _, ⟨T2, L2, k2, n2⟩, -, X2, hSq2, hgr2, ⟨Lc2, hQ2, l2, y2, z2, hC2⟩, st2⟩ := X0.specialBackS hx (y := (⟨"java/lang/String", "<init>", "([CIILjava/lang/Void;)V"⟩ : MethodName)) rfl hown (mvT hZ (hw _ (List.mem_of_getElem? (i := 11) rfl))) (mvT hZ (hw _ (List.mem_of_getElem? (i := 12) rfl))) (mvT hZ (hw _ (List.mem_of_getElem? (i := 14) rfl))) (by decide) (own_backH (s := s) (W := 0) (rmEd l Z a0 hw [] oa cc h0 n0 Z0 Ea Fv Fc g_oa) hZ (hw _ (List.mem_of_getElem? (i := 14) rfl)) (hw _ (List.mem_of_getElem? (i := 7) rfl)) (by decide) (by decide) hEL hC0 (allS ⟨Ea.lt, Zs_oa⟩ all0)) (g := (mkF m 6 #[.val (.ref oa), .val (.ref cc)] [.null, (.int (0 : Int32)), (.int (0 : Int32)), (.ref cc), (.ref oa)])) rfl (by rw [hml]; rfl) (Steps.refl _) (a := oa) (argsL := [(.ref cc), (.int (0 : Int32)), (.int (0 : Int32)), .null]) (rest := []) (lenOf pdEe_0 rfl) rfl (by show 2 * 0 + _ ≤ _; exact Nat.le_of_eq rfl) (hb hby dEe_6) (fun _ _ => ⟨rfl, e0, (by decide : 0 + 4 ≤ _), (by decide : 0 + 8 ≤ _)⟩)
  dsimp only [Pt.U, Pt.locs, Pt.cells, Pt.slots] at X2 l2 y2 z2 st2 hQ2 hSq2 hgr2 hC2
  subst l2 y2 z2
  obtain ⟨rfl, Nq2, K2, Fc2, d2, kd2, Fv2, A2⟩ := hQ2
  have N2 := Fr.app N0 Nq2
  refine own_go (fun t k => st2.trans k) ?_
  have hS2 := foldS (T := s₁) hS0 (by rw [e0]; exact hk0) hSq2 hgr2
  have hZ2 : Z.Warmed39 T2.vm := State.Warmed39.trans (t := s.setVm s.vm) hZ hSq2.1
  have hown2 : T2.vm.findClass "java/lang/String" = some m.cls := by rw [hSq2.1.alike.findClass]; exact hown
  have hk2 := Nat.le_refl T2.heap.size
  replace X2 : Stand p l e ({ frames := 2, cells := 4, slots := 8, locals := 29 } : Room) (s.setVm T2.vm) m #[(.ref oa), (.ref cc)] below meth c T2 _ _ _ := X2
  have Ea__2 := Ea.keep K2
  have Ac__2 := Ac.keep K2 (ninS (Ne.symm (Exa.neArv Ea Ac (hw _ (List.mem_of_getElem? (i := 6) rfl)))) nin0)
  have Zs_oa__2 := hC2.safe Ea.lt Zs_oa
  have hR2 := hR0.trans hC2
  have hD2 := hR2.1
  have KP2 := (Keep.refl h0 [oa]).trans K2 (allS (Or.inl (List.mem_of_getElem? (i := 0) rfl)) all0)
  have sz2 := Nat.le_trans Z0 K2.1
  show own_Go p e below _ (T2.setTop (mkF m 9 #[.val (.ref oa), .val (.ref cc)] []))
  have hF : CHr Z own_EL s.vm s.heap T2.vm T2.heap := by rw [hh]; exact hR2.trans (CHv.at X2 hZ2 hEL hD2)
  exact own_ret0H X2 hx Bd.returns (hb hby dEe_9) hS2 hk2 (⟨rfl, N2, KP2, Fc2, _, _, Fv2, A2⟩) (hF) (by decide) (by decide)
def own_W (Z : State) : Prop := ∃ c : Int32, ¬ c = 0 ∧ Sta Z Z.heap "java/lang/String" "COMPACT_STRINGS" "Z" (.int c)
def own_P8 (x : Int32) : Prop := ¬ x < 0 ∧ ¬ (255 : Int32) < x
theorem own_mask (x : Int32) : own_P8 (nar .char ((x &&& 255).toUInt32.toUInt16.toUInt32.toInt32)) := by
  have e : nar .char ((x &&& 255).toUInt32.toUInt16.toUInt32.toInt32) = x &&& 255 := by simp only [nar]; rw [i2c_mask, i2c_mask]
  rw [e]
  have h : (x &&& 255).toInt = x.toInt % 2 ^ 8 := Jvm.Kit.i32_mask x 255 (k := 8) (by decide) (by decide)
  unfold own_P8
  rw [Int32.lt_iff_toInt_lt, Int32.lt_iff_toInt_lt]
  have h1 : (255 : Int32).toInt = 255 := by decide
  have h0 : (0 : Int32).toInt = 0 := by decide
  omega
theorem own_c8 {x : Int32} (h : own_P8 x) : nar .char x = x := by
  have e : x &&& 255 = x := by
    apply Int32.toInt_inj.mp
    have q : (x &&& 255).toInt = x.toInt % 2 ^ 8 := Jvm.Kit.i32_mask x 255 (k := 8) (by decide) (by decide)
    obtain ⟨a, b⟩ := h
    rw [Int32.lt_iff_toInt_lt] at a b
    have h1 : (255 : Int32).toInt = 255 := by decide
    have h0 : (0 : Int32).toInt = 0 := by decide
    omega
  have q : nar .char (x &&& 255) = x &&& 255 := by simp only [nar]; exact i2c_mask x
  rwa [e] at q
theorem own_hp {x : Int32} (h : own_P8 x) : ¬ (255 : Int32) < nar .char x := by rw [own_c8 h]; exact h.2
theorem own_b8 {x : Int32} (h : own_P8 x) (n : Int32) (hn : 0 ≤ n.toInt ∧ n.toInt < 128) : (nar .byte ((nar .char x).toInt8.toInt32) = n) ↔ x = n := by
  rw [own_c8 h]
  have e : (nar .byte (x.toInt8.toInt32)).toInt = x.toInt.bmod 256 := by
    simp only [nar, Int8.toInt_toInt32, Int32.toInt_toInt8]
    exact Int.bmod_bmod
  rw [← Int32.toInt_inj, ← Int32.toInt_inj, e]
  obtain ⟨a, b⟩ := h
  rw [Int32.lt_iff_toInt_lt] at a b
  have h1 : (255 : Int32).toInt = 255 := by decide
  have h0 : (0 : Int32).toInt = 0 := by decide
  have := Int.bmod_emod (x := x.toInt) (m := 256)
  have r1 := Int.le_bmod (x := x.toInt) (m := 256) (by decide)
  have r2 := Int.bmod_lt (x := x.toInt) (m := 256) (by decide)
  omega
theorem dD_0 : decode method_2_code 0 = .ok (.iload_n 0, 1) := by decide +kernel
theorem dD_1 : decode method_2_code 1 = .ok (.bipush 8, 2) := by decide +kernel
theorem dD_3 : decode method_2_code 3 = .ok (.iushr, 1) := by decide +kernel
theorem dD_4 : decode method_2_code 4 = .ok (.iconst 3, 1) := by decide +kernel
theorem dD_5 : decode method_2_code 5 = .ok (.iand, 1) := by decide +kernel
theorem dD_6 : decode method_2_code 6 = .ok (.istore_n 1, 1) := by decide +kernel
theorem dD_7 : decode method_2_code 7 = .ok (.iload_n 1, 1) := by decide +kernel
theorem dD_8 : decode method_2_code 8 = .ok (.ifCond .ne 6, 3) := by decide +kernel
theorem dD_11 : decode method_2_code 11 = .ok (.bipush 89, 2) := by decide +kernel
theorem dD_13 : decode method_2_code 13 = .ok (.ireturn, 1) := by decide +kernel
theorem dD_14 : decode method_2_code 14 = .ok (.iload_n 1, 1) := by decide +kernel
theorem dD_15 : decode method_2_code 15 = .ok (.iconst 1, 1) := by decide +kernel
theorem dD_16 : decode method_2_code 16 = .ok (.if_icmp .ne 6, 3) := by decide +kernel
theorem dD_19 : decode method_2_code 19 = .ok (.bipush 78, 2) := by decide +kernel
theorem dD_21 : decode method_2_code 21 = .ok (.ireturn, 1) := by decide +kernel
theorem dD_22 : decode method_2_code 22 = .ok (.iload_n 0, 1) := by decide +kernel
theorem dD_23 : decode method_2_code 23 = .ok (.sipush 255, 3) := by decide +kernel
theorem dD_26 : decode method_2_code 26 = .ok (.iand, 1) := by decide +kernel
theorem dD_27 : decode method_2_code 27 = .ok (.i2c, 1) := by decide +kernel
theorem dD_28 : decode method_2_code 28 = .ok (.ireturn, 1) := by decide +kernel
theorem pnD : plainName "com/example/counterledger/counterledger/OpenItemIsFlagPinLaw" = true := by first | (simp [plainName, overriddenIn]; done) | decide +kernel
theorem efD (m : MethodId) (x0 : Int32) : entryFrame m #[(.int x0)] 2 = mkF m 0 #[.val (.int x0), .unset] [] := by first | (simp [entryFrame, mkF, argsToLocals, Value.category]; done) | rfl
def own_QD (h0 : Heap) (n0 : Nat) (v : Option Value) (h : Heap) (L : List Loc) : Prop := ∃ x : Int32, v = some (.int x) ∧ own_P8 x ∧ Fr n0 L ∧ h = h0
set_option maxRecDepth 65536 in
set_option maxHeartbeats 40000000 in
theorem rmD (l : Launch) (Z : State) (a0 : Array Value) (hw : ∀ d ∈ tables_1, d.before a0 Z = true) (ws : List Jvm.Cond) (xc : Int32) (h0 : Heap) (n0 : Nat) (Z0 : n0 ≤ h0.size)  :
    MetFree l (⟨"com/example/counterledger/counterledger/OpenItemIsFlagPinLaw", "draw", "(I)C"⟩ : MethodName) (head1 (Jvm.Cond.code (⟨"com/example/counterledger/counterledger/OpenItemIsFlagPinLaw", "draw", "(I)C"⟩ : MethodName) method_2_code 2 (some .char) :: ws) ({ frames := 0, cells := 0, slots := 0, locals := 0 } : Room)) (fun a U => a = #[(.int xc)] ∧ Z.Warmed39 U.vm ∧ U.heap = h0) (fun _ _ _ _ _ => True) (fun _ U o U' => ∃ v L, o = .returned v ∧ own_QD h0 n0 v U'.heap L ∧ FrameEnd U o U' L ({ frames := 0, cells := 0, slots := 0, locals := 0 } : Room).cells ({ frames := 0, cells := 0, slots := 0, locals := 0 } : Room).slots) := by
  refine MetFree.of_bodySF (plainFor_of_name pnD) hisR ?_
  intro p e s m args below meth c s₁ Bd hml0 hP hK
  obtain ⟨rfl, hZ, hh⟩ := hP
  have hx := Bd.exec
  have hby := Bd.bytes
  have hml : c.maxLocals = 2 := hml0
  have hown : s.vm.findClass "com/example/counterledger/counterledger/OpenItemIsFlagPinLaw" = some m.cls := findClass_of_methodNamed Bd.named
  have hnm := (name_of_methodNamed Bd.named Bd.method).1
  have hlk : meth.locks = false := Bd.notSynchronized
  have X0 : Stand p l e ({ frames := 0, cells := 0, slots := 0, locals := 0 } : Room) s m #[(.int xc)] below meth c s₁ [] 0 0 := Stand.of_body Bd
  have e0 : s₁.heap = h0 := by rw [← hh, Bd.state]; rfl
  have N0 := Fr.nil n0
  refine own_go (fun t k => castTop (efD m xc) k) ?_
  show own_Go p e below _ (s₁.setTop (mkF m 0 #[.val (.int xc), .unset] []))
  refine own_go (fun t k => XS.iloadN X0.here hx rfl (hb hby dD_0) rfl k) ?_
  show own_Go p e below _ (s₁.setTop (mkF m 1 #[.val (.int xc), .unset] [(.int xc)]))
  refine own_go (fun t k => XS.bipush X0.here hx rfl (hb hby dD_1) k) ?_
  show own_Go p e below _ (s₁.setTop (mkF m 3 #[.val (.int xc), .unset] [(.int (8 : Int32)), (.int xc)]))
  refine own_go (fun t k => XS.iushr X0.here hx rfl (hb hby dD_3) rfl k) ?_
  show own_Go p e below _ (s₁.setTop (mkF m 4 #[.val (.int xc), .unset] [(.int ((xc.toUInt32 >>> ((8 : Int32) &&& 31).toUInt32).toInt32))]))
  refine own_go (fun t k => XS.iconst X0.here hx rfl (hb hby dD_4) k) ?_
  show own_Go p e below _ (s₁.setTop (mkF m 5 #[.val (.int xc), .unset] [(.int (3 : Int32)), (.int ((xc.toUInt32 >>> ((8 : Int32) &&& 31).toUInt32).toInt32))]))
  refine own_go (fun t k => XS.iand X0.here hx rfl (hb hby dD_5) rfl k) ?_
  show own_Go p e below _ (s₁.setTop (mkF m 6 #[.val (.int xc), .unset] [(.int (((xc.toUInt32 >>> ((8 : Int32) &&& 31).toUInt32).toInt32) &&& (3 : Int32)))]))
  refine own_go (fun t k => XS.istoreN X0.here hx rfl (hb hby dD_6) rfl (l' := #[.val (.int xc), .val (.int (((xc.toUInt32 >>> ((8 : Int32) &&& 31).toUInt32).toInt32) &&& (3 : Int32)))]) rfl k) ?_
  show own_Go p e below _ (s₁.setTop (mkF m 7 #[.val (.int xc), .val (.int (((xc.toUInt32 >>> ((8 : Int32) &&& 31).toUInt32).toInt32) &&& (3 : Int32)))] []))
  refine own_go (fun t k => XS.iloadN X0.here hx rfl (hb hby dD_7) rfl k) ?_
  show own_Go p e below _ (s₁.setTop (mkF m 8 #[.val (.int xc), .val (.int (((xc.toUInt32 >>> ((8 : Int32) &&& 31).toUInt32).toInt32) &&& (3 : Int32)))] [(.int (((xc.toUInt32 >>> ((8 : Int32) &&& 31).toUInt32).toInt32) &&& (3 : Int32)))]))
  by_cases hc8 : (((xc.toUInt32 >>> ((8 : Int32) &&& 31).toUInt32).toInt32) &&& (3 : Int32)) = (0 : Int32)
  · refine own_go (fun t k => XS.ifNo X0.here hx rfl (hb hby dD_8) rfl ((if0 _ _).trans (teq hc8).2) k) ?_
    show own_Go p e below _ (s₁.setTop (mkF m 11 #[.val (.int xc), .val (.int (((xc.toUInt32 >>> ((8 : Int32) &&& 31).toUInt32).toInt32) &&& (3 : Int32)))] []))
    refine own_go (fun t k => XS.bipush X0.here hx rfl (hb hby dD_11) k) ?_
    show own_Go p e below _ (s₁.setTop (mkF m 13 #[.val (.int xc), .val (.int (((xc.toUInt32 >>> ((8 : Int32) &&& 31).toUInt32).toInt32) &&& (3 : Int32)))] [(.int (89 : Int32))]))
    exact own_retN X0 hx (t := .char) Bd.returns (by simp) (hb hby dD_13) (by rw [e0]; exact ⟨_, rfl, (by unfold own_P8; decide), N0, rfl⟩) (by decide) (by decide)
  · refine own_go (fun t k => XS.ifYes X0.here hx rfl (pc0 := 8) (pc' := 14) rfl (hb hby dD_8) rfl ((if0 _ _).trans (feq hc8).2) (by decide) (by decide) k) ?_
    show own_Go p e below _ (s₁.setTop (mkF m 14 #[.val (.int xc), .val (.int (((xc.toUInt32 >>> ((8 : Int32) &&& 31).toUInt32).toInt32) &&& (3 : Int32)))] []))
    refine own_go (fun t k => XS.iloadN X0.here hx rfl (hb hby dD_14) rfl k) ?_
    show own_Go p e below _ (s₁.setTop (mkF m 15 #[.val (.int xc), .val (.int (((xc.toUInt32 >>> ((8 : Int32) &&& 31).toUInt32).toInt32) &&& (3 : Int32)))] [(.int (((xc.toUInt32 >>> ((8 : Int32) &&& 31).toUInt32).toInt32) &&& (3 : Int32)))]))
    refine own_go (fun t k => XS.iconst X0.here hx rfl (hb hby dD_15) k) ?_
    show own_Go p e below _ (s₁.setTop (mkF m 16 #[.val (.int xc), .val (.int (((xc.toUInt32 >>> ((8 : Int32) &&& 31).toUInt32).toInt32) &&& (3 : Int32)))] [(.int (1 : Int32)), (.int (((xc.toUInt32 >>> ((8 : Int32) &&& 31).toUInt32).toInt32) &&& (3 : Int32)))]))
    by_cases hc16 : (((xc.toUInt32 >>> ((8 : Int32) &&& 31).toUInt32).toInt32) &&& (3 : Int32)) = (1 : Int32)
    · refine own_go (fun t k => XS.icmpNo X0.here hx rfl (hb hby dD_16) rfl (teq hc16).2 k) ?_
      show own_Go p e below _ (s₁.setTop (mkF m 19 #[.val (.int xc), .val (.int (((xc.toUInt32 >>> ((8 : Int32) &&& 31).toUInt32).toInt32) &&& (3 : Int32)))] []))
      refine own_go (fun t k => XS.bipush X0.here hx rfl (hb hby dD_19) k) ?_
      show own_Go p e below _ (s₁.setTop (mkF m 21 #[.val (.int xc), .val (.int (((xc.toUInt32 >>> ((8 : Int32) &&& 31).toUInt32).toInt32) &&& (3 : Int32)))] [(.int (78 : Int32))]))
      exact own_retN X0 hx (t := .char) Bd.returns (by simp) (hb hby dD_21) (by rw [e0]; exact ⟨_, rfl, (by unfold own_P8; decide), N0, rfl⟩) (by decide) (by decide)
    · refine own_go (fun t k => XS.icmpYes X0.here hx rfl (pc0 := 16) (pc' := 22) rfl (hb hby dD_16) rfl (feq hc16).2 (by decide) (by decide) k) ?_
      show own_Go p e below _ (s₁.setTop (mkF m 22 #[.val (.int xc), .val (.int (((xc.toUInt32 >>> ((8 : Int32) &&& 31).toUInt32).toInt32) &&& (3 : Int32)))] []))
      refine own_go (fun t k => XS.iloadN X0.here hx rfl (hb hby dD_22) rfl k) ?_
      show own_Go p e below _ (s₁.setTop (mkF m 23 #[.val (.int xc), .val (.int (((xc.toUInt32 >>> ((8 : Int32) &&& 31).toUInt32).toInt32) &&& (3 : Int32)))] [(.int xc)]))
      refine own_go (fun t k => XS.sipush X0.here hx rfl (hb hby dD_23) k) ?_
      show own_Go p e below _ (s₁.setTop (mkF m 26 #[.val (.int xc), .val (.int (((xc.toUInt32 >>> ((8 : Int32) &&& 31).toUInt32).toInt32) &&& (3 : Int32)))] [(.int (255 : Int32)), (.int xc)]))
      refine own_go (fun t k => XS.iand X0.here hx rfl (hb hby dD_26) rfl k) ?_
      show own_Go p e below _ (s₁.setTop (mkF m 27 #[.val (.int xc), .val (.int (((xc.toUInt32 >>> ((8 : Int32) &&& 31).toUInt32).toInt32) &&& (3 : Int32)))] [(.int (xc &&& (255 : Int32)))]))
      refine own_go (fun t k => XS.i2c X0.here hx rfl (hb hby dD_27) rfl k) ?_
      show own_Go p e below _ (s₁.setTop (mkF m 28 #[.val (.int xc), .val (.int (((xc.toUInt32 >>> ((8 : Int32) &&& 31).toUInt32).toInt32) &&& (3 : Int32)))] [(.int ((xc &&& (255 : Int32)).toUInt32.toUInt16.toUInt32.toInt32))]))
      exact own_retN X0 hx (t := .char) Bd.returns (by simp) (hb hby dD_28) (by rw [e0]; exact ⟨_, rfl, own_mask _, N0, rfl⟩) (by decide) (by decide)
def own_QI (k : Int32) (h0 : Heap) (n0 : Nat) (v : Option Value) (h : Heap) (L : List Loc) : Prop := v = some (.int k) ∧ Fr n0 L ∧ h = h0
theorem dM0_0 : decode jdk_43_method_13_code 0 = .ok (.aload_n 0, 1) := by decide +kernel
theorem dM0_1 : decode jdk_43_method_13_code 1 = .ok (.arraylength, 1) := by decide +kernel
theorem dM0_2 : decode jdk_43_method_13_code 2 = .ok (.aload_n 1, 1) := by decide +kernel
theorem dM0_3 : decode jdk_43_method_13_code 3 = .ok (.arraylength, 1) := by decide +kernel
theorem dM0_4 : decode jdk_43_method_13_code 4 = .ok (.if_icmp .ne 30, 3) := by decide +kernel
theorem dM0_34 : decode jdk_43_method_13_code 34 = .ok (.iconst 0, 1) := by decide +kernel
theorem dM0_35 : decode jdk_43_method_13_code 35 = .ok (.ireturn, 1) := by decide +kernel
theorem pnM0 : plainName "java/lang/StringLatin1" = true := by first | (simp [plainName, overriddenIn]; done) | decide +kernel
theorem efM0 (m : MethodId) (x0 : Addr) (x1 : Addr) : entryFrame m #[(.ref x0), (.ref x1)] 3 = mkF m 0 #[.val (.ref x0), .val (.ref x1), .unset] [] := by first | (simp [entryFrame, mkF, argsToLocals, Value.category]; done) | rfl
set_option maxRecDepth 65536 in
set_option maxHeartbeats 40000000 in
theorem rmM0 (l : Launch) (Z : State) (a0 : Array Value) (hw : ∀ d ∈ tables_1, d.before a0 Z = true) (ws : List Jvm.Cond) (ot ou : Addr) (kt ku : ClassId)  (y : Int32) (h0 : Heap) (n0 : Nat) (Z0 : n0 ≤ h0.size) (At : Arv Z h0 ot kt .byte (0 : Int32) [] (.int (0 : Int32))) (Au : Arv Z h0 ou ku .byte (1 : Int32) [.int y] (.int (0 : Int32))) :
    MetFree l (⟨"java/lang/StringLatin1", "equals", "([B[B)Z"⟩ : MethodName) (head1 (Jvm.Cond.code (⟨"java/lang/StringLatin1", "equals", "([B[B)Z"⟩ : MethodName) jdk_43_method_13_code 3 (some .boolean) :: ws) ({ frames := 0, cells := 0, slots := 0, locals := 0 } : Room)) (fun a U => a = #[(.ref ot), (.ref ou)] ∧ Z.Warmed39 U.vm ∧ U.heap = h0) (fun _ _ _ _ _ => True) (fun _ U o U' => ∃ v L, o = .returned v ∧ own_QI (0 : Int32) h0 n0 v U'.heap L ∧ FrameEnd U o U' L ({ frames := 0, cells := 0, slots := 0, locals := 0 } : Room).cells ({ frames := 0, cells := 0, slots := 0, locals := 0 } : Room).slots) := by
  refine MetFree.of_bodySF (plainFor_of_name pnM0) hisR ?_
  intro p e s m args below meth c s₁ Bd hml0 hP hK
  obtain ⟨rfl, hZ, hh⟩ := hP
  have hx := Bd.exec
  have hby := Bd.bytes
  have hml : c.maxLocals = 3 := hml0
  have hown : s.vm.findClass "java/lang/StringLatin1" = some m.cls := findClass_of_methodNamed Bd.named
  have hnm := (name_of_methodNamed Bd.named Bd.method).1
  have hlk : meth.locks = false := Bd.notSynchronized
  have X0 : Stand p l e ({ frames := 0, cells := 0, slots := 0, locals := 0 } : Room) s m #[(.ref ot), (.ref ou)] below meth c s₁ [] 0 0 := Stand.of_body Bd
  have e0 : s₁.heap = h0 := by rw [← hh, Bd.state]; rfl
  have N0 := Fr.nil n0
  refine own_go (fun t k => castTop (efM0 m ot ou) k) ?_
  show own_Go p e below _ (s₁.setTop (mkF m 0 #[.val (.ref ot), .val (.ref ou), .unset] []))
  refine own_go (fun t k => XS.aloadN X0.here hx rfl (hb hby dM0_0) rfl rfl k) ?_
  show own_Go p e below _ (s₁.setTop (mkF m 1 #[.val (.ref ot), .val (.ref ou), .unset] [(.ref ot)]))
  obtain ⟨cl1, Ar1, -, Sa1, Na1, -, -⟩ := id At
  have ln1 := len_of Sa1 Na1
  refine own_go (fun t k => X0.arraylength hx (by rw [e0]; exact Ar1.1) (State.isArrayOf_alike hZ.alike Ar1.2.1) (g := (mkF m 1 #[.val (.ref ot), .val (.ref ou), .unset] [(.ref ot)])) rfl rfl (hb hby dM0_1) t (by rw [ln1]; exact k)) ?_
  show own_Go p e below _ (s₁.setTop (mkF m 2 #[.val (.ref ot), .val (.ref ou), .unset] [(.int (0 : Int32))]))
  refine own_go (fun t k => XS.aloadN X0.here hx rfl (hb hby dM0_2) rfl rfl k) ?_
  show own_Go p e below _ (s₁.setTop (mkF m 3 #[.val (.ref ot), .val (.ref ou), .unset] [(.ref ou), (.int (0 : Int32))]))
  obtain ⟨cl2, Ar2, -, Sa2, Na2, -, -⟩ := id Au
  have ln2 := len_of Sa2 Na2
  refine own_go (fun t k => X0.arraylength hx (by rw [e0]; exact Ar2.1) (State.isArrayOf_alike hZ.alike Ar2.2.1) (g := (mkF m 3 #[.val (.ref ot), .val (.ref ou), .unset] [(.ref ou), (.int (0 : Int32))])) rfl rfl (hb hby dM0_3) t (by rw [ln2]; exact k)) ?_
  show own_Go p e below _ (s₁.setTop (mkF m 4 #[.val (.ref ot), .val (.ref ou), .unset] [(.int (1 : Int32)), (.int (0 : Int32))]))
  refine own_go (fun t k => XS.icmpYes X0.here hx rfl (pc0 := 4) (pc' := 34) rfl (hb hby dM0_4) rfl (feq (by decide : ¬ ((0 : Int32) = (1 : Int32)))).2 (by decide) (by decide) k) ?_
  show own_Go p e below _ (s₁.setTop (mkF m 34 #[.val (.ref ot), .val (.ref ou), .unset] []))
  refine own_go (fun t k => XS.iconst X0.here hx rfl (hb hby dM0_34) k) ?_
  show own_Go p e below _ (s₁.setTop (mkF m 35 #[.val (.ref ot), .val (.ref ou), .unset] [(.int (0 : Int32))]))
  exact own_retN X0 hx (t := .boolean) Bd.returns (by simp) (hb hby dM0_35) (by rw [e0]; exact ⟨by simp [nar], N0, rfl⟩) (by decide) (by decide)
theorem dQ0_0 : decode jdk_42_method_66_code 0 = .ok (.aload_n 0, 1) := by decide +kernel
theorem dQ0_1 : decode jdk_42_method_66_code 1 = .ok (.aload_n 1, 1) := by decide +kernel
theorem dQ0_2 : decode jdk_42_method_66_code 2 = .ok (.if_acmp .ne 5, 3) := by decide +kernel
theorem dQ0_7 : decode jdk_42_method_66_code 7 = .ok (.aload_n 1, 1) := by decide +kernel
theorem dQ0_8 : decode jdk_42_method_66_code 8 = .ok (.instanceof 10, 3) := by decide +kernel
theorem dQ0_11 : decode jdk_42_method_66_code 11 = .ok (.ifCond .eq 43, 3) := by decide +kernel
theorem dQ0_14 : decode jdk_42_method_66_code 14 = .ok (.aload_n 1, 1) := by decide +kernel
theorem dQ0_15 : decode jdk_42_method_66_code 15 = .ok (.checkcast 10, 3) := by decide +kernel
theorem dQ0_18 : decode jdk_42_method_66_code 18 = .ok (.astore_n 2, 1) := by decide +kernel
theorem dQ0_19 : decode jdk_42_method_66_code 19 = .ok (.getstatic 38, 3) := by decide +kernel
theorem dQ0_22 : decode jdk_42_method_66_code 22 = .ok (.ifCond .eq 14, 3) := by decide +kernel
theorem dQ0_25 : decode jdk_42_method_66_code 25 = .ok (.aload_n 0, 1) := by decide +kernel
theorem dQ0_26 : decode jdk_42_method_66_code 26 = .ok (.getfield 15, 3) := by decide +kernel
theorem dQ0_29 : decode jdk_42_method_66_code 29 = .ok (.aload_n 2, 1) := by decide +kernel
theorem dQ0_30 : decode jdk_42_method_66_code 30 = .ok (.getfield 15, 3) := by decide +kernel
theorem dQ0_33 : decode jdk_42_method_66_code 33 = .ok (.if_icmp .ne 21, 3) := by decide +kernel
theorem dQ0_36 : decode jdk_42_method_66_code 36 = .ok (.aload_n 0, 1) := by decide +kernel
theorem dQ0_37 : decode jdk_42_method_66_code 37 = .ok (.getfield 9, 3) := by decide +kernel
theorem dQ0_40 : decode jdk_42_method_66_code 40 = .ok (.aload_n 2, 1) := by decide +kernel
theorem dQ0_41 : decode jdk_42_method_66_code 41 = .ok (.getfield 9, 3) := by decide +kernel
theorem dQ0_44 : decode jdk_42_method_66_code 44 = .ok (.invokestatic 541, 3) := by decide +kernel
theorem dQ0_47 : decode jdk_42_method_66_code 47 = .ok (.ifCond .eq 7, 3) := by decide +kernel
theorem dQ0_54 : decode jdk_42_method_66_code 54 = .ok (.iconst 0, 1) := by decide +kernel
theorem dQ0_55 : decode jdk_42_method_66_code 55 = .ok (.ireturn, 1) := by decide +kernel
theorem pnQ0 : plainName "java/lang/String" = true := by first | (simp [plainName, overriddenIn]; done) | decide +kernel
theorem pdQ0_0 : parseMethodDescriptor "([B[B)Z" = some ⟨[(.array .byte), (.array .byte)], some .boolean⟩ := by decide +kernel
theorem efQ0 (m : MethodId) (x0 : Addr) (x1 : Addr) : entryFrame m #[(.ref x0), (.ref x1)] 3 = mkF m 0 #[.val (.ref x0), .val (.ref x1), .unset] [] := by first | (simp [entryFrame, mkF, argsToLocals, Value.category]; done) | rfl
set_option maxRecDepth 65536 in
set_option maxHeartbeats 40000000 in
theorem rmQ0 (l : Launch) (Z : State) (a0 : Array Value) (hw : ∀ d ∈ tables_1, d.before a0 Z = true) (ws : List Jvm.Cond) (oa ob ot ou : Addr) (kt ku : ClassId)  (y cs : Int32) (h0 : Heap) (n0 : Nat) (Z0 : n0 ≤ h0.size) (SC : Sta Z Z.heap "java/lang/String" "COMPACT_STRINGS" "Z" (.int cs)) (hcs : ¬ cs = 0) (XO : Old Z n0 h0) (ne_ab : oa ≠ ob) (Eoa : Exa Z h0 oa "java/lang/String") (Coa : Fld Z h0 oa "java/lang/String" "coder" "B" (.int (0 : Int32))) (Voa : Fld Z h0 oa "java/lang/String" "value" "[B" (.ref ot)) (Aoa : Arv Z h0 ot kt .byte (0 : Int32) [] (.int (0 : Int32))) (Eob : Exa Z h0 ob "java/lang/String") (Cob : Fld Z h0 ob "java/lang/String" "coder" "B" (.int (0 : Int32))) (Vob : Fld Z h0 ob "java/lang/String" "value" "[B" (.ref ou)) (Aob : Arv Z h0 ou ku .byte (1 : Int32) [.int y] (.int (0 : Int32))) :
    MetFree l (⟨"java/lang/String", "equals", "(Ljava/lang/Object;)Z"⟩ : MethodName) (head1 (Jvm.Cond.code (⟨"java/lang/String", "equals", "(Ljava/lang/Object;)Z"⟩ : MethodName) jdk_42_method_66_code 3 (some .boolean) :: ws) ({ frames := 1, cells := 0, slots := 0, locals := 14 } : Room)) (fun a U => a = #[(.ref oa), (.ref ob)] ∧ Z.Warmed39 U.vm ∧ U.heap = h0) (fun _ _ _ _ _ => True) (fun _ U o U' => ∃ v L, o = .returned v ∧ own_QI (0 : Int32) h0 n0 v U'.heap L ∧ FrameEnd U o U' L ({ frames := 1, cells := 0, slots := 0, locals := 14 } : Room).cells ({ frames := 1, cells := 0, slots := 0, locals := 14 } : Room).slots) := by
  refine MetFree.of_bodySF (plainFor_of_name pnQ0) hisR ?_
  intro p e s m args below meth c s₁ Bd hml0 hP hK
  obtain ⟨rfl, hZ, hh⟩ := hP
  have hx := Bd.exec
  have hby := Bd.bytes
  have hml : c.maxLocals = 3 := hml0
  have hown : s.vm.findClass "java/lang/String" = some m.cls := findClass_of_methodNamed Bd.named
  have hnm := (name_of_methodNamed Bd.named Bd.method).1
  have hlk : meth.locks = false := Bd.notSynchronized
  have X0 : Stand p l e ({ frames := 1, cells := 0, slots := 0, locals := 14 } : Room) s m #[(.ref oa), (.ref ob)] below meth c s₁ [] 0 0 := Stand.of_body Bd
  have e0 : s₁.heap = h0 := by rw [← hh, Bd.state]; rfl
  have N0 := Fr.nil n0
  refine own_go (fun t k => castTop (efQ0 m oa ob) k) ?_
  show own_Go p e below _ (s₁.setTop (mkF m 0 #[.val (.ref oa), .val (.ref ob), .unset] []))
  refine own_go (fun t k => XS.aloadN X0.here hx rfl (hb hby dQ0_0) rfl rfl k) ?_
  show own_Go p e below _ (s₁.setTop (mkF m 1 #[.val (.ref oa), .val (.ref ob), .unset] [(.ref oa)]))
  refine own_go (fun t k => XS.aloadN X0.here hx rfl (hb hby dQ0_1) rfl rfl k) ?_
  show own_Go p e below _ (s₁.setTop (mkF m 2 #[.val (.ref oa), .val (.ref ob), .unset] [(.ref ob), (.ref oa)]))
  refine own_go (fun t k => Jvm.RoadKit.acmp (g := (mkF m 2 #[.val (.ref oa), .val (.ref ob), .unset] [(.ref ob), (.ref oa)])) X0 hx rfl rfl rfl (pc0 := 2) (pc' := 7) (same := false) rfl (hb hby dQ0_2) rfl (decide_eq_false (fun q => ne_ab (Value.ref.inj q))) (by decide) (by decide) k) ?_
  show own_Go p e below _ (s₁.setTop (mkF m 7 #[.val (.ref oa), .val (.ref ob), .unset] []))
  refine own_go (fun t k => XS.aloadN X0.here hx rfl (hb hby dQ0_7) rfl rfl k) ?_
  show own_Go p e below _ (s₁.setTop (mkF m 8 #[.val (.ref oa), .val (.ref ob), .unset] [(.ref ob)]))
  obtain ⟨T1, X1, e1, st1⟩ := instY X0 hx hZ hown (hw _ (List.mem_of_getElem? (i := 36) rfl)) e0 (Ins.self Eob) (g := (mkF m 8 #[.val (.ref oa), .val (.ref ob), .unset] [(.ref ob)])) rfl rfl (hb hby dQ0_8)
  refine own_go (fun t k => st1 t k) ?_
  show own_Go p e below _ (T1.setTop (mkF m 11 #[.val (.ref oa), .val (.ref ob), .unset] [(.int (1 : Int32))]))
  refine own_go (fun t k => XS.ifNo X1.here hx rfl (hb hby dQ0_11) rfl ((if0 _ _).trans (feq (by decide : ¬ ((1 : Int32) = (0 : Int32)))).1) k) ?_
  show own_Go p e below _ (T1.setTop (mkF m 14 #[.val (.ref oa), .val (.ref ob), .unset] []))
  refine own_go (fun t k => XS.aloadN X1.here hx rfl (hb hby dQ0_14) rfl rfl k) ?_
  show own_Go p e below _ (T1.setTop (mkF m 15 #[.val (.ref oa), .val (.ref ob), .unset] [(.ref ob)]))
  obtain ⟨T2, X2, e2, st2⟩ := castY X1 hx hZ hown (hw _ (List.mem_of_getElem? (i := 36) rfl)) e1 (Ins.self Eob) (g := (mkF m 15 #[.val (.ref oa), .val (.ref ob), .unset] [(.ref ob)])) rfl rfl (hb hby dQ0_15)
  refine own_go (fun t k => st2 t k) ?_
  show own_Go p e below _ (T2.setTop (mkF m 18 #[.val (.ref oa), .val (.ref ob), .unset] [(.ref ob)]))
  refine own_go (fun t k => XS.astoreN X2.here hx rfl (hb hby dQ0_18) rfl rfl (l' := #[.val (.ref oa), .val (.ref ob), .val (.ref ob)]) rfl k) ?_
  show own_Go p e below _ (T2.setTop (mkF m 19 #[.val (.ref oa), .val (.ref ob), .val (.ref ob)] []))
  obtain ⟨T3, X3, e3, st3⟩ := getS2 X2 hx hZ hown (host := "") (Or.inl (hw _ (List.mem_of_getElem? (i := 37) rfl))) Via.refl e2 (SC.ext XO.2) (g := (mkF m 19 #[.val (.ref oa), .val (.ref ob), .val (.ref ob)] [])) rfl (hb hby dQ0_19)
  refine own_go (fun t k => st3 t k) ?_
  show own_Go p e below _ (T3.setTop (mkF m 22 #[.val (.ref oa), .val (.ref ob), .val (.ref ob)] [(.int cs)]))
  refine own_go (fun t k => XS.ifNo X3.here hx rfl (hb hby dQ0_22) rfl ((if0 _ _).trans (feq hcs).1) k) ?_
  show own_Go p e below _ (T3.setTop (mkF m 25 #[.val (.ref oa), .val (.ref ob), .val (.ref ob)] []))
  refine own_go (fun t k => XS.aloadN X3.here hx rfl (hb hby dQ0_25) rfl rfl k) ?_
  show own_Go p e below _ (T3.setTop (mkF m 26 #[.val (.ref oa), .val (.ref ob), .val (.ref ob)] [(.ref oa)]))
  obtain ⟨T4, X4, e4, st4⟩ := getF X3 hx hZ hown (host := "") (Or.inl (hw _ (List.mem_of_getElem? (i := 25) rfl))) Via.refl e3 Coa (g := (mkF m 26 #[.val (.ref oa), .val (.ref ob), .val (.ref ob)] [(.ref oa)])) rfl rfl (hb hby dQ0_26)
  refine own_go (fun t k => st4 t k) ?_
  show own_Go p e below _ (T4.setTop (mkF m 29 #[.val (.ref oa), .val (.ref ob), .val (.ref ob)] [(.int (0 : Int32))]))
  refine own_go (fun t k => XS.aloadN X4.here hx rfl (hb hby dQ0_29) rfl rfl k) ?_
  show own_Go p e below _ (T4.setTop (mkF m 30 #[.val (.ref oa), .val (.ref ob), .val (.ref ob)] [(.ref ob), (.int (0 : Int32))]))
  obtain ⟨T5, X5, e5, st5⟩ := getF X4 hx hZ hown (host := "") (Or.inl (hw _ (List.mem_of_getElem? (i := 25) rfl))) Via.refl e4 Cob (g := (mkF m 30 #[.val (.ref oa), .val (.ref ob), .val (.ref ob)] [(.ref ob), (.int (0 : Int32))])) rfl rfl (hb hby dQ0_30)
  refine own_go (fun t k => st5 t k) ?_
  show own_Go p e below _ (T5.setTop (mkF m 33 #[.val (.ref oa), .val (.ref ob), .val (.ref ob)] [(.int (0 : Int32)), (.int (0 : Int32))]))
  refine own_go (fun t k => XS.icmpNo X5.here hx rfl (hb hby dQ0_33) rfl (teq (by decide : (0 : Int32) = (0 : Int32))).2 k) ?_
  show own_Go p e below _ (T5.setTop (mkF m 36 #[.val (.ref oa), .val (.ref ob), .val (.ref ob)] []))
  refine own_go (fun t k => XS.aloadN X5.here hx rfl (hb hby dQ0_36) rfl rfl k) ?_
  show own_Go p e below _ (T5.setTop (mkF m 37 #[.val (.ref oa), .val (.ref ob), .val (.ref ob)] [(.ref oa)]))
  obtain ⟨T6, X6, e6, st6⟩ := getF X5 hx hZ hown (host := "") (Or.inl (hw _ (List.mem_of_getElem? (i := 24) rfl))) Via.refl e5 Voa (g := (mkF m 37 #[.val (.ref oa), .val (.ref ob), .val (.ref ob)] [(.ref oa)])) rfl rfl (hb hby dQ0_37)
  refine own_go (fun t k => st6 t k) ?_
  show own_Go p e below _ (T6.setTop (mkF m 40 #[.val (.ref oa), .val (.ref ob), .val (.ref ob)] [(.ref ot)]))
  refine own_go (fun t k => XS.aloadN X6.here hx rfl (hb hby dQ0_40) rfl rfl k) ?_
  show own_Go p e below _ (T6.setTop (mkF m 41 #[.val (.ref oa), .val (.ref ob), .val (.ref ob)] [(.ref ob), (.ref ot)]))
  obtain ⟨T7, X7, e7, st7⟩ := getF X6 hx hZ hown (host := "") (Or.inl (hw _ (List.mem_of_getElem? (i := 24) rfl))) Via.refl e6 Vob (g := (mkF m 41 #[.val (.ref oa), .val (.ref ob), .val (.ref ob)] [(.ref ob), (.ref ot)])) rfl rfl (hb hby dQ0_41)
  refine own_go (fun t k => st7 t k) ?_
  show own_Go p e below _ (T7.setTop (mkF m 44 #[.val (.ref oa), .val (.ref ob), .val (.ref ob)] [(.ref ou), (.ref ot)]))
  obtain ⟨_, _, ⟨T8, L8, k8, n8⟩, -, X8, ⟨Lc8, hQ8, l8, y8, z8⟩, st8⟩ := Jvm.LawKit.callS X7 hx (y := (⟨"java/lang/StringLatin1", "equals", "([B[B)Z"⟩ : MethodName)) hown (mvT hZ (hw _ (List.mem_of_getElem? (i := 38) rfl))) (mvT hZ (hw _ (List.mem_of_getElem? (i := 39) rfl))) (mvT hZ (hw _ (List.mem_of_getElem? (i := 40) rfl))) (mvT hZ (hw _ (List.mem_of_getElem? (i := 41) rfl))) (by decide) (backOf (W := 0) (rmM0 l Z a0 hw [] ot ou kt ku  y h0 n0 Z0 Aoa Aob) hZ (hw _ (List.mem_of_getElem? (i := 41) rfl)) (hw _ (List.mem_of_getElem? (i := 40) rfl)) (by decide) (by decide)) (g := (mkF m 44 #[.val (.ref oa), .val (.ref ob), .val (.ref ob)] [(.ref ou), (.ref ot)])) rfl (by rw [hml]; rfl) (argsL := [(.ref ot), (.ref ou)]) (rest := []) (lenOf pdQ0_0 rfl) rfl (by show 2 * 0 + _ ≤ _; exact Nat.le_of_eq rfl) (hb hby dQ0_44) (fun _ _ => ⟨rfl, e7, (by decide : 0 + 0 ≤ _), (by decide : 0 + 0 ≤ _)⟩)
  dsimp only [Pt.U, Pt.locs, Pt.cells, Pt.slots] at X8 l8 y8 z8 st8 hQ8
  subst l8 y8 z8
  obtain ⟨rfl, Nq8, e8⟩ := hQ8
  have N8 := Fr.app N0 Nq8
  refine own_go (fun t k => st8 t k) ?_
  show own_Go p e below _ (T8.setTop (mkF m 47 #[.val (.ref oa), .val (.ref ob), .val (.ref ob)] [(.int (0 : Int32))]))
  refine own_go (fun t k => XS.ifYes X8.here hx rfl (pc0 := 47) (pc' := 54) rfl (hb hby dQ0_47) rfl ((if0 _ _).trans (teq (by decide : (0 : Int32) = (0 : Int32))).1) (by decide) (by decide) k) ?_
  show own_Go p e below _ (T8.setTop (mkF m 54 #[.val (.ref oa), .val (.ref ob), .val (.ref ob)] []))
  refine own_go (fun t k => XS.iconst X8.here hx rfl (hb hby dQ0_54) k) ?_
  show own_Go p e below _ (T8.setTop (mkF m 55 #[.val (.ref oa), .val (.ref ob), .val (.ref ob)] [(.int (0 : Int32))]))
  exact own_retN X8 hx (t := .boolean) Bd.returns (by simp) (hb hby dQ0_55) (by rw [e8]; exact ⟨by simp [nar], N8, rfl⟩) (by decide) (by decide)
theorem dZ0_0 : decode jdk_42_method_55_code 0 = .ok (.aload_n 0, 1) := by decide +kernel
theorem dZ0_1 : decode jdk_42_method_55_code 1 = .ok (.getfield 9, 3) := by decide +kernel
theorem dZ0_4 : decode jdk_42_method_55_code 4 = .ok (.arraylength, 1) := by decide +kernel
theorem dZ0_5 : decode jdk_42_method_55_code 5 = .ok (.ifCond .ne 7, 3) := by decide +kernel
theorem dZ0_8 : decode jdk_42_method_55_code 8 = .ok (.iconst 1, 1) := by decide +kernel
theorem dZ0_9 : decode jdk_42_method_55_code 9 = .ok (.goto 4, 3) := by decide +kernel
theorem dZ0_13 : decode jdk_42_method_55_code 13 = .ok (.ireturn, 1) := by decide +kernel
theorem pnZ0 : plainName "java/lang/String" = true := by first | (simp [plainName, overriddenIn]; done) | decide +kernel
theorem efZ0 (m : MethodId) (x0 : Addr) : entryFrame m #[(.ref x0)] 1 = mkF m 0 #[.val (.ref x0)] [] := by first | (simp [entryFrame, mkF, argsToLocals, Value.category]; done) | rfl
set_option maxRecDepth 65536 in
set_option maxHeartbeats 40000000 in
theorem rmZ0 (l : Launch) (Z : State) (a0 : Array Value) (hw : ∀ d ∈ tables_1, d.before a0 Z = true) (ws : List Jvm.Cond) (oa ot : Addr) (kt : ClassId)  (h0 : Heap) (n0 : Nat) (Z0 : n0 ≤ h0.size) (V_ : Fld Z h0 oa "java/lang/String" "value" "[B" (.ref ot)) (A_ : Arv Z h0 ot kt .byte (0 : Int32) [] (.int (0 : Int32))) :
    MetFree l (⟨"java/lang/String", "isEmpty", "()Z"⟩ : MethodName) (head1 (Jvm.Cond.code (⟨"java/lang/String", "isEmpty", "()Z"⟩ : MethodName) jdk_42_method_55_code 1 (some .boolean) :: ws) ({ frames := 0, cells := 0, slots := 0, locals := 0 } : Room)) (fun a U => a = #[(.ref oa)] ∧ Z.Warmed39 U.vm ∧ U.heap = h0) (fun _ _ _ _ _ => True) (fun _ U o U' => ∃ v L, o = .returned v ∧ own_QI (1 : Int32) h0 n0 v U'.heap L ∧ FrameEnd U o U' L ({ frames := 0, cells := 0, slots := 0, locals := 0 } : Room).cells ({ frames := 0, cells := 0, slots := 0, locals := 0 } : Room).slots) := by
  refine MetFree.of_bodySF (plainFor_of_name pnZ0) hisR ?_
  intro p e s m args below meth c s₁ Bd hml0 hP hK
  obtain ⟨rfl, hZ, hh⟩ := hP
  have hx := Bd.exec
  have hby := Bd.bytes
  have hml : c.maxLocals = 1 := hml0
  have hown : s.vm.findClass "java/lang/String" = some m.cls := findClass_of_methodNamed Bd.named
  have hnm := (name_of_methodNamed Bd.named Bd.method).1
  have hlk : meth.locks = false := Bd.notSynchronized
  have X0 : Stand p l e ({ frames := 0, cells := 0, slots := 0, locals := 0 } : Room) s m #[(.ref oa)] below meth c s₁ [] 0 0 := Stand.of_body Bd
  have e0 : s₁.heap = h0 := by rw [← hh, Bd.state]; rfl
  have N0 := Fr.nil n0
  refine own_go (fun t k => castTop (efZ0 m oa) k) ?_
  show own_Go p e below _ (s₁.setTop (mkF m 0 #[.val (.ref oa)] []))
  refine own_go (fun t k => XS.aloadN X0.here hx rfl (hb hby dZ0_0) rfl rfl k) ?_
  show own_Go p e below _ (s₁.setTop (mkF m 1 #[.val (.ref oa)] [(.ref oa)]))
  obtain ⟨T1, X1, e1, st1⟩ := getF X0 hx hZ hown (host := "") (Or.inl (hw _ (List.mem_of_getElem? (i := 24) rfl))) Via.refl e0 V_ (g := (mkF m 1 #[.val (.ref oa)] [(.ref oa)])) rfl rfl (hb hby dZ0_1)
  refine own_go (fun t k => st1 t k) ?_
  show own_Go p e below _ (T1.setTop (mkF m 4 #[.val (.ref oa)] [(.ref ot)]))
  obtain ⟨cl2, Ar2, -, Sa2, Na2, -, -⟩ := id A_
  have ln2 := len_of Sa2 Na2
  refine own_go (fun t k => X1.arraylength hx (by rw [e1]; exact Ar2.1) (State.isArrayOf_alike hZ.alike Ar2.2.1) (g := (mkF m 4 #[.val (.ref oa)] [(.ref ot)])) rfl rfl (hb hby dZ0_4) t (by rw [ln2]; exact k)) ?_
  show own_Go p e below _ (T1.setTop (mkF m 5 #[.val (.ref oa)] [(.int (0 : Int32))]))
  refine own_go (fun t k => XS.ifNo X1.here hx rfl (hb hby dZ0_5) rfl ((if0 _ _).trans (teq (by decide : (0 : Int32) = (0 : Int32))).2) k) ?_
  show own_Go p e below _ (T1.setTop (mkF m 8 #[.val (.ref oa)] []))
  refine own_go (fun t k => XS.iconst X1.here hx rfl (hb hby dZ0_8) k) ?_
  show own_Go p e below _ (T1.setTop (mkF m 9 #[.val (.ref oa)] [(.int (1 : Int32))]))
  refine own_go (fun t k => XS.goto X1.here hx rfl (pc0 := 9) (pc' := 13) rfl (hb hby dZ0_9) (by decide) (by decide) k) ?_
  show own_Go p e below _ (T1.setTop (mkF m 13 #[.val (.ref oa)] [(.int (1 : Int32))]))
  exact own_retN X1 hx (t := .boolean) Bd.returns (by simp) (hb hby dZ0_13) (by rw [e1]; exact ⟨rfl, N0, rfl⟩) (by decide) (by decide)
theorem dF0_0 : decode prog_25_method_3_code 0 = .ok (.aload_n 0, 1) := by decide +kernel
theorem dF0_1 : decode prog_25_method_3_code 1 = .ok (.ldc 63, 2) := by decide +kernel
theorem dF0_3 : decode prog_25_method_3_code 3 = .ok (.invokevirtual 65, 3) := by decide +kernel
theorem dF0_6 : decode prog_25_method_3_code 6 = .ok (.ifCond .ne 19, 3) := by decide +kernel
theorem dF0_9 : decode prog_25_method_3_code 9 = .ok (.aload_n 0, 1) := by decide +kernel
theorem dF0_10 : decode prog_25_method_3_code 10 = .ok (.ldc 71, 2) := by decide +kernel
theorem dF0_12 : decode prog_25_method_3_code 12 = .ok (.invokevirtual 65, 3) := by decide +kernel
theorem dF0_15 : decode prog_25_method_3_code 15 = .ok (.ifCond .ne 10, 3) := by decide +kernel
theorem dF0_18 : decode prog_25_method_3_code 18 = .ok (.aload_n 0, 1) := by decide +kernel
theorem dF0_19 : decode prog_25_method_3_code 19 = .ok (.invokevirtual 73, 3) := by decide +kernel
theorem dF0_22 : decode prog_25_method_3_code 22 = .ok (.ifCond .eq 7, 3) := by decide +kernel
theorem dF0_25 : decode prog_25_method_3_code 25 = .ok (.iconst 1, 1) := by decide +kernel
theorem dF0_26 : decode prog_25_method_3_code 26 = .ok (.goto 4, 3) := by decide +kernel
theorem dF0_30 : decode prog_25_method_3_code 30 = .ok (.ireturn, 1) := by decide +kernel
theorem pnF0 : plainName "com/example/counterledger/counterledger/OpenItem" = true := by first | (simp [plainName, overriddenIn]; done) | decide +kernel
theorem pdF0_0 : parseMethodDescriptor "(Ljava/lang/Object;)Z" = some ⟨[(.object "java/lang/Object")], some .boolean⟩ := by decide +kernel
theorem pdF0_1 : parseMethodDescriptor "()Z" = some ⟨[], some .boolean⟩ := by decide +kernel
theorem efF0 (m : MethodId) (x0 : Addr) : entryFrame m #[(.ref x0)] 1 = mkF m 0 #[.val (.ref x0)] [] := by first | (simp [entryFrame, mkF, argsToLocals, Value.category]; done) | rfl
def own_QF (k : Int32) (h0 : Heap) (n0 : Nat) (v : Option Value) (h : Heap) (L : List Loc) : Prop := v = some (.int k) ∧ Fr n0 L ∧ Keep h0 h []
set_option maxRecDepth 65536 in
set_option maxHeartbeats 40000000 in
theorem rmF0 (l : Launch) (Z : State) (a0 : Array Value) (hw : ∀ d ∈ tables_1, d.before a0 Z = true) (ws : List Jvm.Cond) (oa ot : Addr) (kt : ClassId) (cs : Int32)  (h0 : Heap) (n0 : Nat) (Z0 : n0 ≤ h0.size) (SC : Sta Z Z.heap "java/lang/String" "COMPACT_STRINGS" "Z" (.int cs)) (hcs : ¬ cs = 0) (XO : Old Z n0 h0) (Eoa : Exa Z h0 oa "java/lang/String") (Coa : Fld Z h0 oa "java/lang/String" "coder" "B" (.int (0 : Int32))) (Voa : Fld Z h0 oa "java/lang/String" "value" "[B" (.ref ot)) (Aoa : Arv Z h0 ot kt .byte (0 : Int32) [] (.int (0 : Int32))) :
    MetFree l (⟨"com/example/counterledger/counterledger/OpenItem", "isFlag", "(Ljava/lang/String;)Z"⟩ : MethodName) (head1 (Jvm.Cond.code (⟨"com/example/counterledger/counterledger/OpenItem", "isFlag", "(Ljava/lang/String;)Z"⟩ : MethodName) prog_25_method_3_code 1 (some .boolean) :: ws) ({ frames := 2, cells := 4, slots := 16, locals := 28 } : Room)) (fun a U => a = #[(.ref oa)] ∧ Z.Warmed39 U.vm ∧ U.heap = h0 ∧ CHv Z own_EL U.vm h0 ∧ ∀ x ∈ ([oa] : List Addr), Safe Z own_EL U.vm h0 x) (fun _ _ _ _ _ => True) (fun _ U o U' => ∃ v L, o = .returned v ∧ own_QF (1 : Int32) h0 n0 v U'.heap L ∧ CHr Z own_EL U.vm U.heap U'.vm U'.heap ∧ ReturnedEndW U o U' L ({ frames := 2, cells := 4, slots := 16, locals := 28 } : Room).cells ({ frames := 2, cells := 4, slots := 16, locals := 28 } : Room).slots) := by
  refine MetFree.of_bodySF (plainFor_of_name pnF0) hisR ?_
  intro p e s m args below meth c s₁ Bd hml0 hP hK
  obtain ⟨rfl, hZ, hh, hC0, hsf0⟩ := hP
  have hx := Bd.exec
  have hby := Bd.bytes
  have hml : c.maxLocals = 1 := hml0
  have hown : s.vm.findClass "com/example/counterledger/counterledger/OpenItem" = some m.cls := findClass_of_methodNamed Bd.named
  have hnm := (name_of_methodNamed Bd.named Bd.method).1
  have hlk : meth.locks = false := Bd.notSynchronized
  have hEL := own_ew hw
  have hR0 : CHr Z own_EL s.vm h0 s.vm h0 := CHr.refl hC0
  have Zs_oa := hsf0 oa (List.mem_of_getElem? (i := 0) rfl)
  have hS0 : s.Since s.vm 0 := (State.WarmedH.refl s).since 0
  have hk0 : 0 ≤ h0.size := Nat.zero_le _
  have X0 : Stand p l e ({ frames := 2, cells := 4, slots := 16, locals := 28 } : Room) (s.setVm s.vm) m #[(.ref oa)] below meth c s₁ [] 0 0 := Stand.of_body Bd
  have e0 : s₁.heap = h0 := by rw [← hh, Bd.state]; rfl
  have N0 := Fr.nil n0
  refine own_go (fun t k => castTop (efF0 m oa) k) ?_
  show own_Go p e below _ (s₁.setTop (mkF m 0 #[.val (.ref oa)] []))
  refine own_go (fun t k => XS.aloadN X0.here hx rfl (hb hby dF0_0) rfl rfl k) ?_
  show own_Go p e below _ (s₁.setTop (mkF m 1 #[.val (.ref oa)] [(.ref oa)]))
  obtain ⟨s1, T1, h1, j1, c1, kc1, X1, e1, E1, hS1, hk1, hZ1, hown1, Es1, Fc1, Fv1, Ab1, -, -, hC1, -, hne1, st1⟩ := ldcCH X0 hx hZ hown (hw _ (List.mem_of_getElem? (i := 30) rfl)) (own_wS hw) e0 hS0 hk0 hEL (List.mem_of_getElem? (i := 0) rfl) hC0 (vs := [(.int (89 : Int32))]) (z := (1 : Int32)) ⟨by decide, by decide +kernel⟩ (by decide) rfl (g := (mkF m 1 #[.val (.ref oa)] [(.ref oa)])) rfl (hb hby dF0_1) (n := 4) (by decide) (by decide) (by decide) (by decide)
  have XO__1 := XO.ext E1
  have Eoa__1 := Eoa.ext E1
  have Coa__1 := Coa.ext E1
  have Voa__1 := Voa.ext E1
  have Aoa__1 := Aoa.ext E1
  have Zs_oa__1 := hC1.safe Eoa.lt Zs_oa
  have hR1 := hR0.trans hC1
  have hD1 := hR1.1
  have sz1 := Nat.le_trans Z0 E1.1
  have KP1 := (Keep.refl h0 []).ext E1
  have ne_oa_s1 := (hne1 oa Zs_oa__1).1
  have ne_oa_c1 := (hne1 oa Zs_oa__1).2
  refine own_go (fun t k => st1 t k) ?_
  show own_Go p e below _ (T1.setTop (mkF m 3 #[.val (.ref oa)] [(.ref s1), (.ref oa)]))
  obtain ⟨cq2, kq2, q2a, q2b, q2c⟩ := isOf hZ1 e1 Eoa__1
  obtain ⟨_, _, ⟨T2, L2, k2, n2⟩, -, X2, ⟨Lc2, hQ2, l2, y2, z2⟩, st2⟩ := X1.virtualBack hx (y := (⟨"java/lang/String", "equals", "(Ljava/lang/Object;)Z"⟩ : MethodName)) (z := (⟨"java/lang/String", "equals", "(Ljava/lang/Object;)Z"⟩ : MethodName)) hown1 (mvT hZ1 (hw _ (List.mem_of_getElem? (i := 31) rfl))) (mvT hZ1 (hw _ (List.mem_of_getElem? (i := 32) rfl))) (notFace_of_selects (args := #[]) (mvT hZ1 (hw _ (List.mem_of_getElem? (i := 34) rfl)))) (mvT hZ1 (hw _ (List.mem_of_getElem? (i := 34) rfl))) (mvT hZ1 (hw _ (List.mem_of_getElem? (i := 33) rfl))) (by decide) (backOf (W := 0) (rmQ0 l Z a0 hw [] oa s1 ot c1 kt kc1  (89 : Int32) cs h1 n0 sz1 SC hcs XO__1 ne_oa_s1 Eoa__1 Coa__1 Voa__1 Aoa__1 Es1 Fc1 Fv1 Ab1) hZ1 (hw _ (List.mem_of_getElem? (i := 35) rfl)) (hw _ (List.mem_of_getElem? (i := 7) rfl)) (by decide) (by decide)) q2a q2c (g := (mkF m 3 #[.val (.ref oa)] [(.ref s1), (.ref oa)])) rfl (by rw [hml]; rfl) (Steps.refl _) (argsL := [(.ref s1)]) (rest := []) (lenOf pdF0_0 rfl) rfl (by show 2 * 0 + _ ≤ _; exact Nat.le_of_eq rfl) (hb hby dF0_3) (fun _ _ => ⟨rfl, e1, (by decide : 0 + 2 + 0 ≤ _), (by decide : 0 + (4 + 4) + 0 ≤ _)⟩)
  dsimp only [Pt.U, Pt.locs, Pt.cells, Pt.slots] at X2 l2 y2 z2 st2 hQ2
  subst l2 y2 z2
  obtain ⟨rfl, Nq2, e2⟩ := hQ2
  have N2 := Fr.app N0 Nq2
  refine own_go (fun t k => st2.trans k) ?_
  show own_Go p e below _ (T2.setTop (mkF m 6 #[.val (.ref oa)] [(.int (0 : Int32))]))
  refine own_go (fun t k => XS.ifNo X2.here hx rfl (hb hby dF0_6) rfl ((if0 _ _).trans (teq (by decide : (0 : Int32) = (0 : Int32))).2) k) ?_
  show own_Go p e below _ (T2.setTop (mkF m 9 #[.val (.ref oa)] []))
  refine own_go (fun t k => XS.aloadN X2.here hx rfl (hb hby dF0_9) rfl rfl k) ?_
  show own_Go p e below _ (T2.setTop (mkF m 10 #[.val (.ref oa)] [(.ref oa)]))
  obtain ⟨s3, T3, h3, j3, c3, kc3, X3, e3, E3, hS3, hk3, hZ3, hown3, Es3, Fc3, Fv3, Ab3, -, -, hC3, -, hne3, st3⟩ := ldcCH X2 hx hZ1 hown1 (hw _ (List.mem_of_getElem? (i := 42) rfl)) (own_wS hw) e2 hS1 hk1 hEL (List.mem_of_getElem? (i := 1) rfl) hD1 (vs := [(.int (78 : Int32))]) (z := (1 : Int32)) ⟨by decide, by decide +kernel⟩ (by decide) rfl (g := (mkF m 10 #[.val (.ref oa)] [(.ref oa)])) rfl (hb hby dF0_10) (n := 4) (by decide) (by decide) (by decide) (by decide)
  have XO__3 := XO__1.ext E3
  have Eoa__3 := Eoa__1.ext E3
  have Coa__3 := Coa__1.ext E3
  have Voa__3 := Voa__1.ext E3
  have Aoa__3 := Aoa__1.ext E3
  have Es1__3 := Es1.ext E3
  have Fc1__3 := Fc1.ext E3
  have Fv1__3 := Fv1.ext E3
  have Ab1__3 := Ab1.ext E3
  have Zs_oa__3 := hC3.safe Eoa__1.lt Zs_oa__1
  have hR3 := hR1.trans hC3
  have hD3 := hR3.1
  have sz3 := Nat.le_trans sz1 E3.1
  have KP3 := KP1.ext E3
  have ne_oa_s3 := (hne3 oa Zs_oa__3).1
  have ne_oa_c3 := (hne3 oa Zs_oa__3).2
  refine own_go (fun t k => st3 t k) ?_
  show own_Go p e below _ (T3.setTop (mkF m 12 #[.val (.ref oa)] [(.ref s3), (.ref oa)]))
  obtain ⟨cq4, kq4, q4a, q4b, q4c⟩ := isOf hZ3 e3 Eoa__3
  obtain ⟨_, _, ⟨T4, L4, k4, n4⟩, -, X4, ⟨Lc4, hQ4, l4, y4, z4⟩, st4⟩ := X3.virtualBack hx (y := (⟨"java/lang/String", "equals", "(Ljava/lang/Object;)Z"⟩ : MethodName)) (z := (⟨"java/lang/String", "equals", "(Ljava/lang/Object;)Z"⟩ : MethodName)) hown3 (mvT hZ3 (hw _ (List.mem_of_getElem? (i := 31) rfl))) (mvT hZ3 (hw _ (List.mem_of_getElem? (i := 32) rfl))) (notFace_of_selects (args := #[]) (mvT hZ3 (hw _ (List.mem_of_getElem? (i := 34) rfl)))) (mvT hZ3 (hw _ (List.mem_of_getElem? (i := 34) rfl))) (mvT hZ3 (hw _ (List.mem_of_getElem? (i := 33) rfl))) (by decide) (backOf (W := 0) (rmQ0 l Z a0 hw [] oa s3 ot c3 kt kc3  (78 : Int32) cs h3 n0 sz3 SC hcs XO__3 ne_oa_s3 Eoa__3 Coa__3 Voa__3 Aoa__3 Es3 Fc3 Fv3 Ab3) hZ3 (hw _ (List.mem_of_getElem? (i := 35) rfl)) (hw _ (List.mem_of_getElem? (i := 7) rfl)) (by decide) (by decide)) q4a q4c (g := (mkF m 12 #[.val (.ref oa)] [(.ref s3), (.ref oa)])) rfl (by rw [hml]; rfl) (Steps.refl _) (argsL := [(.ref s3)]) (rest := []) (lenOf pdF0_0 rfl) rfl (by show 2 * 0 + _ ≤ _; exact Nat.le_of_eq rfl) (hb hby dF0_12) (fun _ _ => ⟨rfl, e3, (by decide : 0 + 2 + 2 + 0 ≤ _), (by decide : 0 + (4 + 4) + (4 + 4) + 0 ≤ _)⟩)
  dsimp only [Pt.U, Pt.locs, Pt.cells, Pt.slots] at X4 l4 y4 z4 st4 hQ4
  subst l4 y4 z4
  obtain ⟨rfl, Nq4, e4⟩ := hQ4
  have N4 := Fr.app N2 Nq4
  refine own_go (fun t k => st4.trans k) ?_
  show own_Go p e below _ (T4.setTop (mkF m 15 #[.val (.ref oa)] [(.int (0 : Int32))]))
  refine own_go (fun t k => XS.ifNo X4.here hx rfl (hb hby dF0_15) rfl ((if0 _ _).trans (teq (by decide : (0 : Int32) = (0 : Int32))).2) k) ?_
  show own_Go p e below _ (T4.setTop (mkF m 18 #[.val (.ref oa)] []))
  refine own_go (fun t k => XS.aloadN X4.here hx rfl (hb hby dF0_18) rfl rfl k) ?_
  show own_Go p e below _ (T4.setTop (mkF m 19 #[.val (.ref oa)] [(.ref oa)]))
  obtain ⟨cq5, kq5, q5a, q5b, q5c⟩ := isOf hZ3 e4 Eoa__3
  obtain ⟨_, _, ⟨T5, L5, k5, n5⟩, -, X5, ⟨Lc5, hQ5, l5, y5, z5⟩, st5⟩ := X4.virtualBack hx (y := (⟨"java/lang/String", "isEmpty", "()Z"⟩ : MethodName)) (z := (⟨"java/lang/String", "isEmpty", "()Z"⟩ : MethodName)) hown3 (mvT hZ3 (hw _ (List.mem_of_getElem? (i := 43) rfl))) (mvT hZ3 (hw _ (List.mem_of_getElem? (i := 44) rfl))) (notFace_of_selects (args := #[]) (mvT hZ3 (hw _ (List.mem_of_getElem? (i := 46) rfl)))) (mvT hZ3 (hw _ (List.mem_of_getElem? (i := 46) rfl))) (mvT hZ3 (hw _ (List.mem_of_getElem? (i := 45) rfl))) (by decide) (backOf (W := 0) (rmZ0 l Z a0 hw [] oa ot kt  h3 n0 sz3 Voa__3 Aoa__3) hZ3 (hw _ (List.mem_of_getElem? (i := 47) rfl)) (hw _ (List.mem_of_getElem? (i := 7) rfl)) (by decide) (by decide)) q5a q5c (g := (mkF m 19 #[.val (.ref oa)] [(.ref oa)])) rfl (by rw [hml]; rfl) (Steps.refl _) (argsL := []) (rest := []) (lenOf pdF0_1 rfl) rfl (by show 2 * 0 + _ ≤ _; exact Nat.le_of_eq rfl) (hb hby dF0_19) (fun _ _ => ⟨rfl, e4, (by decide : 0 + 2 + 2 + 0 ≤ _), (by decide : 0 + (4 + 4) + (4 + 4) + 0 ≤ _)⟩)
  dsimp only [Pt.U, Pt.locs, Pt.cells, Pt.slots] at X5 l5 y5 z5 st5 hQ5
  subst l5 y5 z5
  obtain ⟨rfl, Nq5, e5⟩ := hQ5
  have N5 := Fr.app N4 Nq5
  refine own_go (fun t k => st5.trans k) ?_
  show own_Go p e below _ (T5.setTop (mkF m 22 #[.val (.ref oa)] [(.int (1 : Int32))]))
  refine own_go (fun t k => XS.ifNo X5.here hx rfl (hb hby dF0_22) rfl ((if0 _ _).trans (feq (by decide : ¬ ((1 : Int32) = (0 : Int32)))).1) k) ?_
  show own_Go p e below _ (T5.setTop (mkF m 25 #[.val (.ref oa)] []))
  refine own_go (fun t k => XS.iconst X5.here hx rfl (hb hby dF0_25) k) ?_
  show own_Go p e below _ (T5.setTop (mkF m 26 #[.val (.ref oa)] [(.int (1 : Int32))]))
  refine own_go (fun t k => XS.goto X5.here hx rfl (pc0 := 26) (pc' := 30) rfl (hb hby dF0_26) (by decide) (by decide) k) ?_
  show own_Go p e below _ (T5.setTop (mkF m 30 #[.val (.ref oa)] [(.int (1 : Int32))]))
  have hF : CHr Z own_EL s.vm s.heap T5.vm T5.heap := by rw [hh, e5]; exact hR3.trans (CHv.at X5 hZ3 hEL hD3)
  exact own_retNH X5 hx (t := .boolean) Bd.returns (by simp) (hb hby dF0_30) hS3 (by rw [e5]; exact hk3) (by rw [e5]; exact ⟨by simp [nar], N5, KP3⟩) (hF) (by decide) (by decide)
theorem dM1_0 : decode jdk_43_method_13_code 0 = .ok (.aload_n 0, 1) := by decide +kernel
theorem dM1_1 : decode jdk_43_method_13_code 1 = .ok (.arraylength, 1) := by decide +kernel
theorem dM1_2 : decode jdk_43_method_13_code 2 = .ok (.aload_n 1, 1) := by decide +kernel
theorem dM1_3 : decode jdk_43_method_13_code 3 = .ok (.arraylength, 1) := by decide +kernel
theorem dM1_4 : decode jdk_43_method_13_code 4 = .ok (.if_icmp .ne 30, 3) := by decide +kernel
theorem dM1_7 : decode jdk_43_method_13_code 7 = .ok (.iconst 0, 1) := by decide +kernel
theorem dM1_8 : decode jdk_43_method_13_code 8 = .ok (.istore_n 2, 1) := by decide +kernel
theorem dM1_9 : decode jdk_43_method_13_code 9 = .ok (.iload_n 2, 1) := by decide +kernel
theorem dM1_10 : decode jdk_43_method_13_code 10 = .ok (.aload_n 0, 1) := by decide +kernel
theorem dM1_11 : decode jdk_43_method_13_code 11 = .ok (.arraylength, 1) := by decide +kernel
theorem dM1_12 : decode jdk_43_method_13_code 12 = .ok (.if_icmp .ge 20, 3) := by decide +kernel
theorem dM1_15 : decode jdk_43_method_13_code 15 = .ok (.aload_n 0, 1) := by decide +kernel
theorem dM1_16 : decode jdk_43_method_13_code 16 = .ok (.iload_n 2, 1) := by decide +kernel
theorem dM1_17 : decode jdk_43_method_13_code 17 = .ok (.baload, 1) := by decide +kernel
theorem dM1_18 : decode jdk_43_method_13_code 18 = .ok (.aload_n 1, 1) := by decide +kernel
theorem dM1_19 : decode jdk_43_method_13_code 19 = .ok (.iload_n 2, 1) := by decide +kernel
theorem dM1_20 : decode jdk_43_method_13_code 20 = .ok (.baload, 1) := by decide +kernel
theorem dM1_21 : decode jdk_43_method_13_code 21 = .ok (.if_icmp .eq 5, 3) := by decide +kernel
theorem dM1_24 : decode jdk_43_method_13_code 24 = .ok (.iconst 0, 1) := by decide +kernel
theorem dM1_25 : decode jdk_43_method_13_code 25 = .ok (.ireturn, 1) := by decide +kernel
theorem dM1_26 : decode jdk_43_method_13_code 26 = .ok (.iinc 2 1, 3) := by decide +kernel
theorem dM1_29 : decode jdk_43_method_13_code 29 = .ok (.goto (-20), 3) := by decide +kernel
theorem dM1_32 : decode jdk_43_method_13_code 32 = .ok (.iconst 1, 1) := by decide +kernel
theorem dM1_33 : decode jdk_43_method_13_code 33 = .ok (.ireturn, 1) := by decide +kernel
theorem pnM1 : plainName "java/lang/StringLatin1" = true := by first | (simp [plainName, overriddenIn]; done) | decide +kernel
theorem efM1 (m : MethodId) (x0 : Addr) (x1 : Addr) : entryFrame m #[(.ref x0), (.ref x1)] 3 = mkF m 0 #[.val (.ref x0), .val (.ref x1), .unset] [] := by first | (simp [entryFrame, mkF, argsToLocals, Value.category]; done) | rfl
set_option maxRecDepth 65536 in
set_option maxHeartbeats 40000000 in
theorem rmM1 (l : Launch) (Z : State) (a0 : Array Value) (hw : ∀ d ∈ tables_1, d.before a0 Z = true) (ws : List Jvm.Cond) (ot ou : Addr) (kt ku : ClassId) (b0 : Int32) (y : Int32) (h0 : Heap) (n0 : Nat) (Z0 : n0 ≤ h0.size) (At : Arv Z h0 ot kt .byte (1 : Int32) [.int b0] (.int (0 : Int32))) (Au : Arv Z h0 ou ku .byte (1 : Int32) [.int y] (.int (0 : Int32))) :
    MetFree l (⟨"java/lang/StringLatin1", "equals", "([B[B)Z"⟩ : MethodName) (head1 (Jvm.Cond.code (⟨"java/lang/StringLatin1", "equals", "([B[B)Z"⟩ : MethodName) jdk_43_method_13_code 3 (some .boolean) :: ws) ({ frames := 0, cells := 0, slots := 0, locals := 0 } : Room)) (fun a U => a = #[(.ref ot), (.ref ou)] ∧ Z.Warmed39 U.vm ∧ U.heap = h0) (fun _ _ _ _ _ => True) (fun _ U o U' => ∃ v L, o = .returned v ∧ own_QI (if b0 = y then (1 : Int32) else 0) h0 n0 v U'.heap L ∧ FrameEnd U o U' L ({ frames := 0, cells := 0, slots := 0, locals := 0 } : Room).cells ({ frames := 0, cells := 0, slots := 0, locals := 0 } : Room).slots) := by
  refine MetFree.of_bodySF (plainFor_of_name pnM1) hisR ?_
  intro p e s m args below meth c s₁ Bd hml0 hP hK
  obtain ⟨rfl, hZ, hh⟩ := hP
  have hx := Bd.exec
  have hby := Bd.bytes
  have hml : c.maxLocals = 3 := hml0
  have hown : s.vm.findClass "java/lang/StringLatin1" = some m.cls := findClass_of_methodNamed Bd.named
  have hnm := (name_of_methodNamed Bd.named Bd.method).1
  have hlk : meth.locks = false := Bd.notSynchronized
  have X0 : Stand p l e ({ frames := 0, cells := 0, slots := 0, locals := 0 } : Room) s m #[(.ref ot), (.ref ou)] below meth c s₁ [] 0 0 := Stand.of_body Bd
  have e0 : s₁.heap = h0 := by rw [← hh, Bd.state]; rfl
  have N0 := Fr.nil n0
  refine own_go (fun t k => castTop (efM1 m ot ou) k) ?_
  show own_Go p e below _ (s₁.setTop (mkF m 0 #[.val (.ref ot), .val (.ref ou), .unset] []))
  refine own_go (fun t k => XS.aloadN X0.here hx rfl (hb hby dM1_0) rfl rfl k) ?_
  show own_Go p e below _ (s₁.setTop (mkF m 1 #[.val (.ref ot), .val (.ref ou), .unset] [(.ref ot)]))
  obtain ⟨cl1, Ar1, -, Sa1, Na1, -, -⟩ := id At
  have ln1 := len_of Sa1 Na1
  refine own_go (fun t k => X0.arraylength hx (by rw [e0]; exact Ar1.1) (State.isArrayOf_alike hZ.alike Ar1.2.1) (g := (mkF m 1 #[.val (.ref ot), .val (.ref ou), .unset] [(.ref ot)])) rfl rfl (hb hby dM1_1) t (by rw [ln1]; exact k)) ?_
  show own_Go p e below _ (s₁.setTop (mkF m 2 #[.val (.ref ot), .val (.ref ou), .unset] [(.int (1 : Int32))]))
  refine own_go (fun t k => XS.aloadN X0.here hx rfl (hb hby dM1_2) rfl rfl k) ?_
  show own_Go p e below _ (s₁.setTop (mkF m 3 #[.val (.ref ot), .val (.ref ou), .unset] [(.ref ou), (.int (1 : Int32))]))
  obtain ⟨cl2, Ar2, -, Sa2, Na2, -, -⟩ := id Au
  have ln2 := len_of Sa2 Na2
  refine own_go (fun t k => X0.arraylength hx (by rw [e0]; exact Ar2.1) (State.isArrayOf_alike hZ.alike Ar2.2.1) (g := (mkF m 3 #[.val (.ref ot), .val (.ref ou), .unset] [(.ref ou), (.int (1 : Int32))])) rfl rfl (hb hby dM1_3) t (by rw [ln2]; exact k)) ?_
  show own_Go p e below _ (s₁.setTop (mkF m 4 #[.val (.ref ot), .val (.ref ou), .unset] [(.int (1 : Int32)), (.int (1 : Int32))]))
  refine own_go (fun t k => XS.icmpNo X0.here hx rfl (hb hby dM1_4) rfl (teq (by decide : (1 : Int32) = (1 : Int32))).2 k) ?_
  show own_Go p e below _ (s₁.setTop (mkF m 7 #[.val (.ref ot), .val (.ref ou), .unset] []))
  refine own_go (fun t k => XS.iconst X0.here hx rfl (hb hby dM1_7) k) ?_
  show own_Go p e below _ (s₁.setTop (mkF m 8 #[.val (.ref ot), .val (.ref ou), .unset] [(.int (0 : Int32))]))
  refine own_go (fun t k => XS.istoreN X0.here hx rfl (hb hby dM1_8) rfl (l' := #[.val (.ref ot), .val (.ref ou), .val (.int (0 : Int32))]) rfl k) ?_
  show own_Go p e below _ (s₁.setTop (mkF m 9 #[.val (.ref ot), .val (.ref ou), .val (.int (0 : Int32))] []))
  refine own_go (fun t k => XS.iloadN X0.here hx rfl (hb hby dM1_9) rfl k) ?_
  show own_Go p e below _ (s₁.setTop (mkF m 10 #[.val (.ref ot), .val (.ref ou), .val (.int (0 : Int32))] [(.int (0 : Int32))]))
  refine own_go (fun t k => XS.aloadN X0.here hx rfl (hb hby dM1_10) rfl rfl k) ?_
  show own_Go p e below _ (s₁.setTop (mkF m 11 #[.val (.ref ot), .val (.ref ou), .val (.int (0 : Int32))] [(.ref ot), (.int (0 : Int32))]))
  obtain ⟨cl3, Ar3, -, Sa3, Na3, -, -⟩ := id At
  have ln3 := len_of Sa3 Na3
  refine own_go (fun t k => X0.arraylength hx (by rw [e0]; exact Ar3.1) (State.isArrayOf_alike hZ.alike Ar3.2.1) (g := (mkF m 11 #[.val (.ref ot), .val (.ref ou), .val (.int (0 : Int32))] [(.ref ot), (.int (0 : Int32))])) rfl rfl (hb hby dM1_11) t (by rw [ln3]; exact k)) ?_
  show own_Go p e below _ (s₁.setTop (mkF m 12 #[.val (.ref ot), .val (.ref ou), .val (.int (0 : Int32))] [(.int (1 : Int32)), (.int (0 : Int32))]))
  refine own_go (fun t k => XS.icmpNo X0.here hx rfl (hb hby dM1_12) rfl (tlt (by decide : (0 : Int32) < (1 : Int32))).2.1 k) ?_
  show own_Go p e below _ (s₁.setTop (mkF m 15 #[.val (.ref ot), .val (.ref ou), .val (.int (0 : Int32))] []))
  refine own_go (fun t k => XS.aloadN X0.here hx rfl (hb hby dM1_15) rfl rfl k) ?_
  show own_Go p e below _ (s₁.setTop (mkF m 16 #[.val (.ref ot), .val (.ref ou), .val (.int (0 : Int32))] [(.ref ot)]))
  refine own_go (fun t k => XS.iloadN X0.here hx rfl (hb hby dM1_16) rfl k) ?_
  show own_Go p e below _ (s₁.setTop (mkF m 17 #[.val (.ref ot), .val (.ref ou), .val (.int (0 : Int32))] [(.int (0 : Int32)), (.ref ot)]))
  obtain ⟨cl4, Ar4, qa4, Sa4, Na4, Ha4, Ga4⟩ := id At
  have hin4 : ¬ ((0 : Int32) < 0 ∨ cl4.slots.size ≤ ((0 : Int32)).toNatClampNeg) := inb_of Sa4 ⟨by decide, by decide⟩
  have hat4 : cl4.slots[((0 : Int32)).toNatClampNeg]? = some (.int b0) := Ha4.at hin4 rfl
  refine own_go (fun t k => X0.baloadBytes hx (j := (0 : Int32)) (v := (.int b0)) (by rw [e0]; exact Ar4.1) (State.isArrayOf_alike hZ.alike Ar4.2.1) Ar4.2.2 hin4 hat4 (g := (mkF m 17 #[.val (.ref ot), .val (.ref ou), .val (.int (0 : Int32))] [(.int (0 : Int32)), (.ref ot)])) rfl rfl (hb hby dM1_17) t k) ?_
  show own_Go p e below _ (s₁.setTop (mkF m 18 #[.val (.ref ot), .val (.ref ou), .val (.int (0 : Int32))] [(.int b0)]))
  refine own_go (fun t k => XS.aloadN X0.here hx rfl (hb hby dM1_18) rfl rfl k) ?_
  show own_Go p e below _ (s₁.setTop (mkF m 19 #[.val (.ref ot), .val (.ref ou), .val (.int (0 : Int32))] [(.ref ou), (.int b0)]))
  refine own_go (fun t k => XS.iloadN X0.here hx rfl (hb hby dM1_19) rfl k) ?_
  show own_Go p e below _ (s₁.setTop (mkF m 20 #[.val (.ref ot), .val (.ref ou), .val (.int (0 : Int32))] [(.int (0 : Int32)), (.ref ou), (.int b0)]))
  obtain ⟨cl5, Ar5, qa5, Sa5, Na5, Ha5, Ga5⟩ := id Au
  have hin5 : ¬ ((0 : Int32) < 0 ∨ cl5.slots.size ≤ ((0 : Int32)).toNatClampNeg) := inb_of Sa5 ⟨by decide, by decide⟩
  have hat5 : cl5.slots[((0 : Int32)).toNatClampNeg]? = some (.int y) := Ha5.at hin5 rfl
  refine own_go (fun t k => X0.baloadBytes hx (j := (0 : Int32)) (v := (.int y)) (by rw [e0]; exact Ar5.1) (State.isArrayOf_alike hZ.alike Ar5.2.1) Ar5.2.2 hin5 hat5 (g := (mkF m 20 #[.val (.ref ot), .val (.ref ou), .val (.int (0 : Int32))] [(.int (0 : Int32)), (.ref ou), (.int b0)])) rfl rfl (hb hby dM1_20) t k) ?_
  show own_Go p e below _ (s₁.setTop (mkF m 21 #[.val (.ref ot), .val (.ref ou), .val (.int (0 : Int32))] [(.int y), (.int b0)]))
  by_cases hc21 : b0 = y
  · refine own_go (fun t k => XS.icmpYes X0.here hx rfl (pc0 := 21) (pc' := 26) rfl (hb hby dM1_21) rfl (teq hc21).1 (by decide) (by decide) k) ?_
    show own_Go p e below _ (s₁.setTop (mkF m 26 #[.val (.ref ot), .val (.ref ou), .val (.int (0 : Int32))] []))
    refine own_go (fun t k => XS.iinc X0.here hx rfl (hb hby dM1_26) rfl (l' := #[.val (.ref ot), .val (.ref ou), .val (.int (1 : Int32))]) rfl k) ?_
    show own_Go p e below _ (s₁.setTop (mkF m 29 #[.val (.ref ot), .val (.ref ou), .val (.int (1 : Int32))] []))
    refine own_go (fun t k => XS.goto X0.here hx rfl (pc0 := 29) (pc' := 9) rfl (hb hby dM1_29) (by decide) (by decide) k) ?_
    show own_Go p e below _ (s₁.setTop (mkF m 9 #[.val (.ref ot), .val (.ref ou), .val (.int (1 : Int32))] []))
    refine own_go (fun t k => XS.iloadN X0.here hx rfl (hb hby dM1_9) rfl k) ?_
    show own_Go p e below _ (s₁.setTop (mkF m 10 #[.val (.ref ot), .val (.ref ou), .val (.int (1 : Int32))] [(.int (1 : Int32))]))
    refine own_go (fun t k => XS.aloadN X0.here hx rfl (hb hby dM1_10) rfl rfl k) ?_
    show own_Go p e below _ (s₁.setTop (mkF m 11 #[.val (.ref ot), .val (.ref ou), .val (.int (1 : Int32))] [(.ref ot), (.int (1 : Int32))]))
    obtain ⟨cl6, Ar6, -, Sa6, Na6, -, -⟩ := id At
    have ln6 := len_of Sa6 Na6
    refine own_go (fun t k => X0.arraylength hx (by rw [e0]; exact Ar6.1) (State.isArrayOf_alike hZ.alike Ar6.2.1) (g := (mkF m 11 #[.val (.ref ot), .val (.ref ou), .val (.int (1 : Int32))] [(.ref ot), (.int (1 : Int32))])) rfl rfl (hb hby dM1_11) t (by rw [ln6]; exact k)) ?_
    show own_Go p e below _ (s₁.setTop (mkF m 12 #[.val (.ref ot), .val (.ref ou), .val (.int (1 : Int32))] [(.int (1 : Int32)), (.int (1 : Int32))]))
    refine own_go (fun t k => XS.icmpYes X0.here hx rfl (pc0 := 12) (pc' := 32) rfl (hb hby dM1_12) rfl (flt (by decide : ¬ ((1 : Int32) < (1 : Int32)))).2.1 (by decide) (by decide) k) ?_
    show own_Go p e below _ (s₁.setTop (mkF m 32 #[.val (.ref ot), .val (.ref ou), .val (.int (1 : Int32))] []))
    refine own_go (fun t k => XS.iconst X0.here hx rfl (hb hby dM1_32) k) ?_
    show own_Go p e below _ (s₁.setTop (mkF m 33 #[.val (.ref ot), .val (.ref ou), .val (.int (1 : Int32))] [(.int (1 : Int32))]))
    exact own_retN X0 hx (t := .boolean) Bd.returns (by simp) (hb hby dM1_33) (by rw [e0]; exact ⟨by simp [nar, hc21], N0, rfl⟩) (by decide) (by decide)
  · refine own_go (fun t k => XS.icmpNo X0.here hx rfl (hb hby dM1_21) rfl (feq hc21).1 k) ?_
    show own_Go p e below _ (s₁.setTop (mkF m 24 #[.val (.ref ot), .val (.ref ou), .val (.int (0 : Int32))] []))
    refine own_go (fun t k => XS.iconst X0.here hx rfl (hb hby dM1_24) k) ?_
    show own_Go p e below _ (s₁.setTop (mkF m 25 #[.val (.ref ot), .val (.ref ou), .val (.int (0 : Int32))] [(.int (0 : Int32))]))
    exact own_retN X0 hx (t := .boolean) Bd.returns (by simp) (hb hby dM1_25) (by rw [e0]; exact ⟨by simp [nar, hc21], N0, rfl⟩) (by decide) (by decide)
theorem dQ1_0 : decode jdk_42_method_66_code 0 = .ok (.aload_n 0, 1) := by decide +kernel
theorem dQ1_1 : decode jdk_42_method_66_code 1 = .ok (.aload_n 1, 1) := by decide +kernel
theorem dQ1_2 : decode jdk_42_method_66_code 2 = .ok (.if_acmp .ne 5, 3) := by decide +kernel
theorem dQ1_7 : decode jdk_42_method_66_code 7 = .ok (.aload_n 1, 1) := by decide +kernel
theorem dQ1_8 : decode jdk_42_method_66_code 8 = .ok (.instanceof 10, 3) := by decide +kernel
theorem dQ1_11 : decode jdk_42_method_66_code 11 = .ok (.ifCond .eq 43, 3) := by decide +kernel
theorem dQ1_14 : decode jdk_42_method_66_code 14 = .ok (.aload_n 1, 1) := by decide +kernel
theorem dQ1_15 : decode jdk_42_method_66_code 15 = .ok (.checkcast 10, 3) := by decide +kernel
theorem dQ1_18 : decode jdk_42_method_66_code 18 = .ok (.astore_n 2, 1) := by decide +kernel
theorem dQ1_19 : decode jdk_42_method_66_code 19 = .ok (.getstatic 38, 3) := by decide +kernel
theorem dQ1_22 : decode jdk_42_method_66_code 22 = .ok (.ifCond .eq 14, 3) := by decide +kernel
theorem dQ1_25 : decode jdk_42_method_66_code 25 = .ok (.aload_n 0, 1) := by decide +kernel
theorem dQ1_26 : decode jdk_42_method_66_code 26 = .ok (.getfield 15, 3) := by decide +kernel
theorem dQ1_29 : decode jdk_42_method_66_code 29 = .ok (.aload_n 2, 1) := by decide +kernel
theorem dQ1_30 : decode jdk_42_method_66_code 30 = .ok (.getfield 15, 3) := by decide +kernel
theorem dQ1_33 : decode jdk_42_method_66_code 33 = .ok (.if_icmp .ne 21, 3) := by decide +kernel
theorem dQ1_36 : decode jdk_42_method_66_code 36 = .ok (.aload_n 0, 1) := by decide +kernel
theorem dQ1_37 : decode jdk_42_method_66_code 37 = .ok (.getfield 9, 3) := by decide +kernel
theorem dQ1_40 : decode jdk_42_method_66_code 40 = .ok (.aload_n 2, 1) := by decide +kernel
theorem dQ1_41 : decode jdk_42_method_66_code 41 = .ok (.getfield 9, 3) := by decide +kernel
theorem dQ1_44 : decode jdk_42_method_66_code 44 = .ok (.invokestatic 541, 3) := by decide +kernel
theorem dQ1_47 : decode jdk_42_method_66_code 47 = .ok (.ifCond .eq 7, 3) := by decide +kernel
theorem dQ1_50 : decode jdk_42_method_66_code 50 = .ok (.iconst 1, 1) := by decide +kernel
theorem dQ1_51 : decode jdk_42_method_66_code 51 = .ok (.goto 4, 3) := by decide +kernel
theorem dQ1_54 : decode jdk_42_method_66_code 54 = .ok (.iconst 0, 1) := by decide +kernel
theorem dQ1_55 : decode jdk_42_method_66_code 55 = .ok (.ireturn, 1) := by decide +kernel
theorem pnQ1 : plainName "java/lang/String" = true := by first | (simp [plainName, overriddenIn]; done) | decide +kernel
theorem pdQ1_0 : parseMethodDescriptor "([B[B)Z" = some ⟨[(.array .byte), (.array .byte)], some .boolean⟩ := by decide +kernel
theorem efQ1 (m : MethodId) (x0 : Addr) (x1 : Addr) : entryFrame m #[(.ref x0), (.ref x1)] 3 = mkF m 0 #[.val (.ref x0), .val (.ref x1), .unset] [] := by first | (simp [entryFrame, mkF, argsToLocals, Value.category]; done) | rfl
set_option maxRecDepth 65536 in
set_option maxHeartbeats 40000000 in
theorem rmQ1 (l : Launch) (Z : State) (a0 : Array Value) (hw : ∀ d ∈ tables_1, d.before a0 Z = true) (ws : List Jvm.Cond) (oa ob ot ou : Addr) (kt ku : ClassId) (b0 : Int32) (y cs : Int32) (h0 : Heap) (n0 : Nat) (Z0 : n0 ≤ h0.size) (SC : Sta Z Z.heap "java/lang/String" "COMPACT_STRINGS" "Z" (.int cs)) (hcs : ¬ cs = 0) (XO : Old Z n0 h0) (ne_ab : oa ≠ ob) (Eoa : Exa Z h0 oa "java/lang/String") (Coa : Fld Z h0 oa "java/lang/String" "coder" "B" (.int (0 : Int32))) (Voa : Fld Z h0 oa "java/lang/String" "value" "[B" (.ref ot)) (Aoa : Arv Z h0 ot kt .byte (1 : Int32) [.int b0] (.int (0 : Int32))) (Eob : Exa Z h0 ob "java/lang/String") (Cob : Fld Z h0 ob "java/lang/String" "coder" "B" (.int (0 : Int32))) (Vob : Fld Z h0 ob "java/lang/String" "value" "[B" (.ref ou)) (Aob : Arv Z h0 ou ku .byte (1 : Int32) [.int y] (.int (0 : Int32))) :
    MetFree l (⟨"java/lang/String", "equals", "(Ljava/lang/Object;)Z"⟩ : MethodName) (head1 (Jvm.Cond.code (⟨"java/lang/String", "equals", "(Ljava/lang/Object;)Z"⟩ : MethodName) jdk_42_method_66_code 3 (some .boolean) :: ws) ({ frames := 1, cells := 0, slots := 0, locals := 14 } : Room)) (fun a U => a = #[(.ref oa), (.ref ob)] ∧ Z.Warmed39 U.vm ∧ U.heap = h0) (fun _ _ _ _ _ => True) (fun _ U o U' => ∃ v L, o = .returned v ∧ own_QI (if b0 = y then (1 : Int32) else 0) h0 n0 v U'.heap L ∧ FrameEnd U o U' L ({ frames := 1, cells := 0, slots := 0, locals := 14 } : Room).cells ({ frames := 1, cells := 0, slots := 0, locals := 14 } : Room).slots) := by
  refine MetFree.of_bodySF (plainFor_of_name pnQ1) hisR ?_
  intro p e s m args below meth c s₁ Bd hml0 hP hK
  obtain ⟨rfl, hZ, hh⟩ := hP
  have hx := Bd.exec
  have hby := Bd.bytes
  have hml : c.maxLocals = 3 := hml0
  have hown : s.vm.findClass "java/lang/String" = some m.cls := findClass_of_methodNamed Bd.named
  have hnm := (name_of_methodNamed Bd.named Bd.method).1
  have hlk : meth.locks = false := Bd.notSynchronized
  have X0 : Stand p l e ({ frames := 1, cells := 0, slots := 0, locals := 14 } : Room) s m #[(.ref oa), (.ref ob)] below meth c s₁ [] 0 0 := Stand.of_body Bd
  have e0 : s₁.heap = h0 := by rw [← hh, Bd.state]; rfl
  have N0 := Fr.nil n0
  refine own_go (fun t k => castTop (efQ1 m oa ob) k) ?_
  show own_Go p e below _ (s₁.setTop (mkF m 0 #[.val (.ref oa), .val (.ref ob), .unset] []))
  refine own_go (fun t k => XS.aloadN X0.here hx rfl (hb hby dQ1_0) rfl rfl k) ?_
  show own_Go p e below _ (s₁.setTop (mkF m 1 #[.val (.ref oa), .val (.ref ob), .unset] [(.ref oa)]))
  refine own_go (fun t k => XS.aloadN X0.here hx rfl (hb hby dQ1_1) rfl rfl k) ?_
  show own_Go p e below _ (s₁.setTop (mkF m 2 #[.val (.ref oa), .val (.ref ob), .unset] [(.ref ob), (.ref oa)]))
  refine own_go (fun t k => Jvm.RoadKit.acmp (g := (mkF m 2 #[.val (.ref oa), .val (.ref ob), .unset] [(.ref ob), (.ref oa)])) X0 hx rfl rfl rfl (pc0 := 2) (pc' := 7) (same := false) rfl (hb hby dQ1_2) rfl (decide_eq_false (fun q => ne_ab (Value.ref.inj q))) (by decide) (by decide) k) ?_
  show own_Go p e below _ (s₁.setTop (mkF m 7 #[.val (.ref oa), .val (.ref ob), .unset] []))
  refine own_go (fun t k => XS.aloadN X0.here hx rfl (hb hby dQ1_7) rfl rfl k) ?_
  show own_Go p e below _ (s₁.setTop (mkF m 8 #[.val (.ref oa), .val (.ref ob), .unset] [(.ref ob)]))
  obtain ⟨T1, X1, e1, st1⟩ := instY X0 hx hZ hown (hw _ (List.mem_of_getElem? (i := 36) rfl)) e0 (Ins.self Eob) (g := (mkF m 8 #[.val (.ref oa), .val (.ref ob), .unset] [(.ref ob)])) rfl rfl (hb hby dQ1_8)
  refine own_go (fun t k => st1 t k) ?_
  show own_Go p e below _ (T1.setTop (mkF m 11 #[.val (.ref oa), .val (.ref ob), .unset] [(.int (1 : Int32))]))
  refine own_go (fun t k => XS.ifNo X1.here hx rfl (hb hby dQ1_11) rfl ((if0 _ _).trans (feq (by decide : ¬ ((1 : Int32) = (0 : Int32)))).1) k) ?_
  show own_Go p e below _ (T1.setTop (mkF m 14 #[.val (.ref oa), .val (.ref ob), .unset] []))
  refine own_go (fun t k => XS.aloadN X1.here hx rfl (hb hby dQ1_14) rfl rfl k) ?_
  show own_Go p e below _ (T1.setTop (mkF m 15 #[.val (.ref oa), .val (.ref ob), .unset] [(.ref ob)]))
  obtain ⟨T2, X2, e2, st2⟩ := castY X1 hx hZ hown (hw _ (List.mem_of_getElem? (i := 36) rfl)) e1 (Ins.self Eob) (g := (mkF m 15 #[.val (.ref oa), .val (.ref ob), .unset] [(.ref ob)])) rfl rfl (hb hby dQ1_15)
  refine own_go (fun t k => st2 t k) ?_
  show own_Go p e below _ (T2.setTop (mkF m 18 #[.val (.ref oa), .val (.ref ob), .unset] [(.ref ob)]))
  refine own_go (fun t k => XS.astoreN X2.here hx rfl (hb hby dQ1_18) rfl rfl (l' := #[.val (.ref oa), .val (.ref ob), .val (.ref ob)]) rfl k) ?_
  show own_Go p e below _ (T2.setTop (mkF m 19 #[.val (.ref oa), .val (.ref ob), .val (.ref ob)] []))
  obtain ⟨T3, X3, e3, st3⟩ := getS2 X2 hx hZ hown (host := "") (Or.inl (hw _ (List.mem_of_getElem? (i := 37) rfl))) Via.refl e2 (SC.ext XO.2) (g := (mkF m 19 #[.val (.ref oa), .val (.ref ob), .val (.ref ob)] [])) rfl (hb hby dQ1_19)
  refine own_go (fun t k => st3 t k) ?_
  show own_Go p e below _ (T3.setTop (mkF m 22 #[.val (.ref oa), .val (.ref ob), .val (.ref ob)] [(.int cs)]))
  refine own_go (fun t k => XS.ifNo X3.here hx rfl (hb hby dQ1_22) rfl ((if0 _ _).trans (feq hcs).1) k) ?_
  show own_Go p e below _ (T3.setTop (mkF m 25 #[.val (.ref oa), .val (.ref ob), .val (.ref ob)] []))
  refine own_go (fun t k => XS.aloadN X3.here hx rfl (hb hby dQ1_25) rfl rfl k) ?_
  show own_Go p e below _ (T3.setTop (mkF m 26 #[.val (.ref oa), .val (.ref ob), .val (.ref ob)] [(.ref oa)]))
  obtain ⟨T4, X4, e4, st4⟩ := getF X3 hx hZ hown (host := "") (Or.inl (hw _ (List.mem_of_getElem? (i := 25) rfl))) Via.refl e3 Coa (g := (mkF m 26 #[.val (.ref oa), .val (.ref ob), .val (.ref ob)] [(.ref oa)])) rfl rfl (hb hby dQ1_26)
  refine own_go (fun t k => st4 t k) ?_
  show own_Go p e below _ (T4.setTop (mkF m 29 #[.val (.ref oa), .val (.ref ob), .val (.ref ob)] [(.int (0 : Int32))]))
  refine own_go (fun t k => XS.aloadN X4.here hx rfl (hb hby dQ1_29) rfl rfl k) ?_
  show own_Go p e below _ (T4.setTop (mkF m 30 #[.val (.ref oa), .val (.ref ob), .val (.ref ob)] [(.ref ob), (.int (0 : Int32))]))
  obtain ⟨T5, X5, e5, st5⟩ := getF X4 hx hZ hown (host := "") (Or.inl (hw _ (List.mem_of_getElem? (i := 25) rfl))) Via.refl e4 Cob (g := (mkF m 30 #[.val (.ref oa), .val (.ref ob), .val (.ref ob)] [(.ref ob), (.int (0 : Int32))])) rfl rfl (hb hby dQ1_30)
  refine own_go (fun t k => st5 t k) ?_
  show own_Go p e below _ (T5.setTop (mkF m 33 #[.val (.ref oa), .val (.ref ob), .val (.ref ob)] [(.int (0 : Int32)), (.int (0 : Int32))]))
  refine own_go (fun t k => XS.icmpNo X5.here hx rfl (hb hby dQ1_33) rfl (teq (by decide : (0 : Int32) = (0 : Int32))).2 k) ?_
  show own_Go p e below _ (T5.setTop (mkF m 36 #[.val (.ref oa), .val (.ref ob), .val (.ref ob)] []))
  refine own_go (fun t k => XS.aloadN X5.here hx rfl (hb hby dQ1_36) rfl rfl k) ?_
  show own_Go p e below _ (T5.setTop (mkF m 37 #[.val (.ref oa), .val (.ref ob), .val (.ref ob)] [(.ref oa)]))
  obtain ⟨T6, X6, e6, st6⟩ := getF X5 hx hZ hown (host := "") (Or.inl (hw _ (List.mem_of_getElem? (i := 24) rfl))) Via.refl e5 Voa (g := (mkF m 37 #[.val (.ref oa), .val (.ref ob), .val (.ref ob)] [(.ref oa)])) rfl rfl (hb hby dQ1_37)
  refine own_go (fun t k => st6 t k) ?_
  show own_Go p e below _ (T6.setTop (mkF m 40 #[.val (.ref oa), .val (.ref ob), .val (.ref ob)] [(.ref ot)]))
  refine own_go (fun t k => XS.aloadN X6.here hx rfl (hb hby dQ1_40) rfl rfl k) ?_
  show own_Go p e below _ (T6.setTop (mkF m 41 #[.val (.ref oa), .val (.ref ob), .val (.ref ob)] [(.ref ob), (.ref ot)]))
  obtain ⟨T7, X7, e7, st7⟩ := getF X6 hx hZ hown (host := "") (Or.inl (hw _ (List.mem_of_getElem? (i := 24) rfl))) Via.refl e6 Vob (g := (mkF m 41 #[.val (.ref oa), .val (.ref ob), .val (.ref ob)] [(.ref ob), (.ref ot)])) rfl rfl (hb hby dQ1_41)
  refine own_go (fun t k => st7 t k) ?_
  show own_Go p e below _ (T7.setTop (mkF m 44 #[.val (.ref oa), .val (.ref ob), .val (.ref ob)] [(.ref ou), (.ref ot)]))
  obtain ⟨_, _, ⟨T8, L8, k8, n8⟩, -, X8, ⟨Lc8, hQ8, l8, y8, z8⟩, st8⟩ := Jvm.LawKit.callS X7 hx (y := (⟨"java/lang/StringLatin1", "equals", "([B[B)Z"⟩ : MethodName)) hown (mvT hZ (hw _ (List.mem_of_getElem? (i := 38) rfl))) (mvT hZ (hw _ (List.mem_of_getElem? (i := 39) rfl))) (mvT hZ (hw _ (List.mem_of_getElem? (i := 40) rfl))) (mvT hZ (hw _ (List.mem_of_getElem? (i := 41) rfl))) (by decide) (backOf (W := 0) (rmM1 l Z a0 hw [] ot ou kt ku b0 y h0 n0 Z0 Aoa Aob) hZ (hw _ (List.mem_of_getElem? (i := 41) rfl)) (hw _ (List.mem_of_getElem? (i := 40) rfl)) (by decide) (by decide)) (g := (mkF m 44 #[.val (.ref oa), .val (.ref ob), .val (.ref ob)] [(.ref ou), (.ref ot)])) rfl (by rw [hml]; rfl) (argsL := [(.ref ot), (.ref ou)]) (rest := []) (lenOf pdQ1_0 rfl) rfl (by show 2 * 0 + _ ≤ _; exact Nat.le_of_eq rfl) (hb hby dQ1_44) (fun _ _ => ⟨rfl, e7, (by decide : 0 + 0 ≤ _), (by decide : 0 + 0 ≤ _)⟩)
  dsimp only [Pt.U, Pt.locs, Pt.cells, Pt.slots] at X8 l8 y8 z8 st8 hQ8
  subst l8 y8 z8
  obtain ⟨rfl, Nq8, e8⟩ := hQ8
  have N8 := Fr.app N0 Nq8
  refine own_go (fun t k => st8 t k) ?_
  show own_Go p e below _ (T8.setTop (mkF m 47 #[.val (.ref oa), .val (.ref ob), .val (.ref ob)] [(.int (if b0 = y then (1 : Int32) else 0))]))
  by_cases hc47 : (if b0 = y then (1 : Int32) else 0) = (0 : Int32)
  · refine own_go (fun t k => XS.ifYes X8.here hx rfl (pc0 := 47) (pc' := 54) rfl (hb hby dQ1_47) rfl ((if0 _ _).trans (teq hc47).1) (by decide) (by decide) k) ?_
    show own_Go p e below _ (T8.setTop (mkF m 54 #[.val (.ref oa), .val (.ref ob), .val (.ref ob)] []))
    refine own_go (fun t k => XS.iconst X8.here hx rfl (hb hby dQ1_54) k) ?_
    show own_Go p e below _ (T8.setTop (mkF m 55 #[.val (.ref oa), .val (.ref ob), .val (.ref ob)] [(.int (0 : Int32))]))
    exact own_retN X8 hx (t := .boolean) Bd.returns (by simp) (hb hby dQ1_55) (by rw [e8]; exact ⟨by by_cases q : b0 = y <;> simp_all [nar], N8, rfl⟩) (by decide) (by decide)
  · refine own_go (fun t k => XS.ifNo X8.here hx rfl (hb hby dQ1_47) rfl ((if0 _ _).trans (feq hc47).1) k) ?_
    show own_Go p e below _ (T8.setTop (mkF m 50 #[.val (.ref oa), .val (.ref ob), .val (.ref ob)] []))
    refine own_go (fun t k => XS.iconst X8.here hx rfl (hb hby dQ1_50) k) ?_
    show own_Go p e below _ (T8.setTop (mkF m 51 #[.val (.ref oa), .val (.ref ob), .val (.ref ob)] [(.int (1 : Int32))]))
    refine own_go (fun t k => XS.goto X8.here hx rfl (pc0 := 51) (pc' := 55) rfl (hb hby dQ1_51) (by decide) (by decide) k) ?_
    show own_Go p e below _ (T8.setTop (mkF m 55 #[.val (.ref oa), .val (.ref ob), .val (.ref ob)] [(.int (1 : Int32))]))
    exact own_retN X8 hx (t := .boolean) Bd.returns (by simp) (hb hby dQ1_55) (by rw [e8]; exact ⟨by by_cases q : b0 = y <;> simp_all [nar], N8, rfl⟩) (by decide) (by decide)
theorem dZ1_0 : decode jdk_42_method_55_code 0 = .ok (.aload_n 0, 1) := by decide +kernel
theorem dZ1_1 : decode jdk_42_method_55_code 1 = .ok (.getfield 9, 3) := by decide +kernel
theorem dZ1_4 : decode jdk_42_method_55_code 4 = .ok (.arraylength, 1) := by decide +kernel
theorem dZ1_5 : decode jdk_42_method_55_code 5 = .ok (.ifCond .ne 7, 3) := by decide +kernel
theorem dZ1_12 : decode jdk_42_method_55_code 12 = .ok (.iconst 0, 1) := by decide +kernel
theorem dZ1_13 : decode jdk_42_method_55_code 13 = .ok (.ireturn, 1) := by decide +kernel
theorem pnZ1 : plainName "java/lang/String" = true := by first | (simp [plainName, overriddenIn]; done) | decide +kernel
theorem efZ1 (m : MethodId) (x0 : Addr) : entryFrame m #[(.ref x0)] 1 = mkF m 0 #[.val (.ref x0)] [] := by first | (simp [entryFrame, mkF, argsToLocals, Value.category]; done) | rfl
set_option maxRecDepth 65536 in
set_option maxHeartbeats 40000000 in
theorem rmZ1 (l : Launch) (Z : State) (a0 : Array Value) (hw : ∀ d ∈ tables_1, d.before a0 Z = true) (ws : List Jvm.Cond) (oa ot : Addr) (kt : ClassId) (b0 : Int32) (h0 : Heap) (n0 : Nat) (Z0 : n0 ≤ h0.size) (V_ : Fld Z h0 oa "java/lang/String" "value" "[B" (.ref ot)) (A_ : Arv Z h0 ot kt .byte (1 : Int32) [.int b0] (.int (0 : Int32))) :
    MetFree l (⟨"java/lang/String", "isEmpty", "()Z"⟩ : MethodName) (head1 (Jvm.Cond.code (⟨"java/lang/String", "isEmpty", "()Z"⟩ : MethodName) jdk_42_method_55_code 1 (some .boolean) :: ws) ({ frames := 0, cells := 0, slots := 0, locals := 0 } : Room)) (fun a U => a = #[(.ref oa)] ∧ Z.Warmed39 U.vm ∧ U.heap = h0) (fun _ _ _ _ _ => True) (fun _ U o U' => ∃ v L, o = .returned v ∧ own_QI (0 : Int32) h0 n0 v U'.heap L ∧ FrameEnd U o U' L ({ frames := 0, cells := 0, slots := 0, locals := 0 } : Room).cells ({ frames := 0, cells := 0, slots := 0, locals := 0 } : Room).slots) := by
  refine MetFree.of_bodySF (plainFor_of_name pnZ1) hisR ?_
  intro p e s m args below meth c s₁ Bd hml0 hP hK
  obtain ⟨rfl, hZ, hh⟩ := hP
  have hx := Bd.exec
  have hby := Bd.bytes
  have hml : c.maxLocals = 1 := hml0
  have hown : s.vm.findClass "java/lang/String" = some m.cls := findClass_of_methodNamed Bd.named
  have hnm := (name_of_methodNamed Bd.named Bd.method).1
  have hlk : meth.locks = false := Bd.notSynchronized
  have X0 : Stand p l e ({ frames := 0, cells := 0, slots := 0, locals := 0 } : Room) s m #[(.ref oa)] below meth c s₁ [] 0 0 := Stand.of_body Bd
  have e0 : s₁.heap = h0 := by rw [← hh, Bd.state]; rfl
  have N0 := Fr.nil n0
  refine own_go (fun t k => castTop (efZ1 m oa) k) ?_
  show own_Go p e below _ (s₁.setTop (mkF m 0 #[.val (.ref oa)] []))
  refine own_go (fun t k => XS.aloadN X0.here hx rfl (hb hby dZ1_0) rfl rfl k) ?_
  show own_Go p e below _ (s₁.setTop (mkF m 1 #[.val (.ref oa)] [(.ref oa)]))
  obtain ⟨T1, X1, e1, st1⟩ := getF X0 hx hZ hown (host := "") (Or.inl (hw _ (List.mem_of_getElem? (i := 24) rfl))) Via.refl e0 V_ (g := (mkF m 1 #[.val (.ref oa)] [(.ref oa)])) rfl rfl (hb hby dZ1_1)
  refine own_go (fun t k => st1 t k) ?_
  show own_Go p e below _ (T1.setTop (mkF m 4 #[.val (.ref oa)] [(.ref ot)]))
  obtain ⟨cl2, Ar2, -, Sa2, Na2, -, -⟩ := id A_
  have ln2 := len_of Sa2 Na2
  refine own_go (fun t k => X1.arraylength hx (by rw [e1]; exact Ar2.1) (State.isArrayOf_alike hZ.alike Ar2.2.1) (g := (mkF m 4 #[.val (.ref oa)] [(.ref ot)])) rfl rfl (hb hby dZ1_4) t (by rw [ln2]; exact k)) ?_
  show own_Go p e below _ (T1.setTop (mkF m 5 #[.val (.ref oa)] [(.int (1 : Int32))]))
  refine own_go (fun t k => XS.ifYes X1.here hx rfl (pc0 := 5) (pc' := 12) rfl (hb hby dZ1_5) rfl ((if0 _ _).trans (feq (by decide : ¬ ((1 : Int32) = (0 : Int32)))).2) (by decide) (by decide) k) ?_
  show own_Go p e below _ (T1.setTop (mkF m 12 #[.val (.ref oa)] []))
  refine own_go (fun t k => XS.iconst X1.here hx rfl (hb hby dZ1_12) k) ?_
  show own_Go p e below _ (T1.setTop (mkF m 13 #[.val (.ref oa)] [(.int (0 : Int32))]))
  exact own_retN X1 hx (t := .boolean) Bd.returns (by simp) (hb hby dZ1_13) (by rw [e1]; exact ⟨rfl, N0, rfl⟩) (by decide) (by decide)
theorem dF1_0 : decode prog_25_method_3_code 0 = .ok (.aload_n 0, 1) := by decide +kernel
theorem dF1_1 : decode prog_25_method_3_code 1 = .ok (.ldc 63, 2) := by decide +kernel
theorem dF1_3 : decode prog_25_method_3_code 3 = .ok (.invokevirtual 65, 3) := by decide +kernel
theorem dF1_6 : decode prog_25_method_3_code 6 = .ok (.ifCond .ne 19, 3) := by decide +kernel
theorem dF1_9 : decode prog_25_method_3_code 9 = .ok (.aload_n 0, 1) := by decide +kernel
theorem dF1_10 : decode prog_25_method_3_code 10 = .ok (.ldc 71, 2) := by decide +kernel
theorem dF1_12 : decode prog_25_method_3_code 12 = .ok (.invokevirtual 65, 3) := by decide +kernel
theorem dF1_15 : decode prog_25_method_3_code 15 = .ok (.ifCond .ne 10, 3) := by decide +kernel
theorem dF1_18 : decode prog_25_method_3_code 18 = .ok (.aload_n 0, 1) := by decide +kernel
theorem dF1_19 : decode prog_25_method_3_code 19 = .ok (.invokevirtual 73, 3) := by decide +kernel
theorem dF1_22 : decode prog_25_method_3_code 22 = .ok (.ifCond .eq 7, 3) := by decide +kernel
theorem dF1_25 : decode prog_25_method_3_code 25 = .ok (.iconst 1, 1) := by decide +kernel
theorem dF1_26 : decode prog_25_method_3_code 26 = .ok (.goto 4, 3) := by decide +kernel
theorem dF1_29 : decode prog_25_method_3_code 29 = .ok (.iconst 0, 1) := by decide +kernel
theorem dF1_30 : decode prog_25_method_3_code 30 = .ok (.ireturn, 1) := by decide +kernel
theorem pnF1 : plainName "com/example/counterledger/counterledger/OpenItem" = true := by first | (simp [plainName, overriddenIn]; done) | decide +kernel
theorem pdF1_0 : parseMethodDescriptor "(Ljava/lang/Object;)Z" = some ⟨[(.object "java/lang/Object")], some .boolean⟩ := by decide +kernel
theorem pdF1_1 : parseMethodDescriptor "()Z" = some ⟨[], some .boolean⟩ := by decide +kernel
theorem efF1 (m : MethodId) (x0 : Addr) : entryFrame m #[(.ref x0)] 1 = mkF m 0 #[.val (.ref x0)] [] := by first | (simp [entryFrame, mkF, argsToLocals, Value.category]; done) | rfl
set_option maxRecDepth 65536 in
set_option maxHeartbeats 40000000 in
theorem rmF1 (l : Launch) (Z : State) (a0 : Array Value) (hw : ∀ d ∈ tables_1, d.before a0 Z = true) (ws : List Jvm.Cond) (oa ot : Addr) (kt : ClassId) (cs : Int32) (b0 : Int32) (h0 : Heap) (n0 : Nat) (Z0 : n0 ≤ h0.size) (SC : Sta Z Z.heap "java/lang/String" "COMPACT_STRINGS" "Z" (.int cs)) (hcs : ¬ cs = 0) (XO : Old Z n0 h0) (Eoa : Exa Z h0 oa "java/lang/String") (Coa : Fld Z h0 oa "java/lang/String" "coder" "B" (.int (0 : Int32))) (Voa : Fld Z h0 oa "java/lang/String" "value" "[B" (.ref ot)) (Aoa : Arv Z h0 ot kt .byte (1 : Int32) [.int b0] (.int (0 : Int32))) :
    MetFree l (⟨"com/example/counterledger/counterledger/OpenItem", "isFlag", "(Ljava/lang/String;)Z"⟩ : MethodName) (head1 (Jvm.Cond.code (⟨"com/example/counterledger/counterledger/OpenItem", "isFlag", "(Ljava/lang/String;)Z"⟩ : MethodName) prog_25_method_3_code 1 (some .boolean) :: ws) ({ frames := 2, cells := 4, slots := 16, locals := 28 } : Room)) (fun a U => a = #[(.ref oa)] ∧ Z.Warmed39 U.vm ∧ U.heap = h0 ∧ CHv Z own_EL U.vm h0 ∧ ∀ x ∈ ([oa] : List Addr), Safe Z own_EL U.vm h0 x) (fun _ _ _ _ _ => True) (fun _ U o U' => ∃ v L, o = .returned v ∧ own_QF (if b0 = 89 then (1 : Int32) else if b0 = 78 then 1 else 0) h0 n0 v U'.heap L ∧ CHr Z own_EL U.vm U.heap U'.vm U'.heap ∧ ReturnedEndW U o U' L ({ frames := 2, cells := 4, slots := 16, locals := 28 } : Room).cells ({ frames := 2, cells := 4, slots := 16, locals := 28 } : Room).slots) := by
  refine MetFree.of_bodySF (plainFor_of_name pnF1) hisR ?_
  intro p e s m args below meth c s₁ Bd hml0 hP hK
  obtain ⟨rfl, hZ, hh, hC0, hsf0⟩ := hP
  have hx := Bd.exec
  have hby := Bd.bytes
  have hml : c.maxLocals = 1 := hml0
  have hown : s.vm.findClass "com/example/counterledger/counterledger/OpenItem" = some m.cls := findClass_of_methodNamed Bd.named
  have hnm := (name_of_methodNamed Bd.named Bd.method).1
  have hlk : meth.locks = false := Bd.notSynchronized
  have hEL := own_ew hw
  have hR0 : CHr Z own_EL s.vm h0 s.vm h0 := CHr.refl hC0
  have Zs_oa := hsf0 oa (List.mem_of_getElem? (i := 0) rfl)
  have hS0 : s.Since s.vm 0 := (State.WarmedH.refl s).since 0
  have hk0 : 0 ≤ h0.size := Nat.zero_le _
  have X0 : Stand p l e ({ frames := 2, cells := 4, slots := 16, locals := 28 } : Room) (s.setVm s.vm) m #[(.ref oa)] below meth c s₁ [] 0 0 := Stand.of_body Bd
  have e0 : s₁.heap = h0 := by rw [← hh, Bd.state]; rfl
  have N0 := Fr.nil n0
  refine own_go (fun t k => castTop (efF1 m oa) k) ?_
  show own_Go p e below _ (s₁.setTop (mkF m 0 #[.val (.ref oa)] []))
  refine own_go (fun t k => XS.aloadN X0.here hx rfl (hb hby dF1_0) rfl rfl k) ?_
  show own_Go p e below _ (s₁.setTop (mkF m 1 #[.val (.ref oa)] [(.ref oa)]))
  obtain ⟨s1, T1, h1, j1, c1, kc1, X1, e1, E1, hS1, hk1, hZ1, hown1, Es1, Fc1, Fv1, Ab1, -, -, hC1, -, hne1, st1⟩ := ldcCH X0 hx hZ hown (hw _ (List.mem_of_getElem? (i := 30) rfl)) (own_wS hw) e0 hS0 hk0 hEL (List.mem_of_getElem? (i := 0) rfl) hC0 (vs := [(.int (89 : Int32))]) (z := (1 : Int32)) ⟨by decide, by decide +kernel⟩ (by decide) rfl (g := (mkF m 1 #[.val (.ref oa)] [(.ref oa)])) rfl (hb hby dF1_1) (n := 4) (by decide) (by decide) (by decide) (by decide)
  have XO__1 := XO.ext E1
  have Eoa__1 := Eoa.ext E1
  have Coa__1 := Coa.ext E1
  have Voa__1 := Voa.ext E1
  have Aoa__1 := Aoa.ext E1
  have Zs_oa__1 := hC1.safe Eoa.lt Zs_oa
  have hR1 := hR0.trans hC1
  have hD1 := hR1.1
  have sz1 := Nat.le_trans Z0 E1.1
  have KP1 := (Keep.refl h0 []).ext E1
  have ne_oa_s1 := (hne1 oa Zs_oa__1).1
  have ne_oa_c1 := (hne1 oa Zs_oa__1).2
  refine own_go (fun t k => st1 t k) ?_
  show own_Go p e below _ (T1.setTop (mkF m 3 #[.val (.ref oa)] [(.ref s1), (.ref oa)]))
  obtain ⟨cq2, kq2, q2a, q2b, q2c⟩ := isOf hZ1 e1 Eoa__1
  obtain ⟨_, _, ⟨T2, L2, k2, n2⟩, -, X2, ⟨Lc2, hQ2, l2, y2, z2⟩, st2⟩ := X1.virtualBack hx (y := (⟨"java/lang/String", "equals", "(Ljava/lang/Object;)Z"⟩ : MethodName)) (z := (⟨"java/lang/String", "equals", "(Ljava/lang/Object;)Z"⟩ : MethodName)) hown1 (mvT hZ1 (hw _ (List.mem_of_getElem? (i := 31) rfl))) (mvT hZ1 (hw _ (List.mem_of_getElem? (i := 32) rfl))) (notFace_of_selects (args := #[]) (mvT hZ1 (hw _ (List.mem_of_getElem? (i := 34) rfl)))) (mvT hZ1 (hw _ (List.mem_of_getElem? (i := 34) rfl))) (mvT hZ1 (hw _ (List.mem_of_getElem? (i := 33) rfl))) (by decide) (backOf (W := 0) (rmQ1 l Z a0 hw [] oa s1 ot c1 kt kc1 b0 (89 : Int32) cs h1 n0 sz1 SC hcs XO__1 ne_oa_s1 Eoa__1 Coa__1 Voa__1 Aoa__1 Es1 Fc1 Fv1 Ab1) hZ1 (hw _ (List.mem_of_getElem? (i := 35) rfl)) (hw _ (List.mem_of_getElem? (i := 7) rfl)) (by decide) (by decide)) q2a q2c (g := (mkF m 3 #[.val (.ref oa)] [(.ref s1), (.ref oa)])) rfl (by rw [hml]; rfl) (Steps.refl _) (argsL := [(.ref s1)]) (rest := []) (lenOf pdF1_0 rfl) rfl (by show 2 * 0 + _ ≤ _; exact Nat.le_of_eq rfl) (hb hby dF1_3) (fun _ _ => ⟨rfl, e1, (by decide : 0 + 2 + 0 ≤ _), (by decide : 0 + (4 + 4) + 0 ≤ _)⟩)
  dsimp only [Pt.U, Pt.locs, Pt.cells, Pt.slots] at X2 l2 y2 z2 st2 hQ2
  subst l2 y2 z2
  obtain ⟨rfl, Nq2, e2⟩ := hQ2
  have N2 := Fr.app N0 Nq2
  refine own_go (fun t k => st2.trans k) ?_
  show own_Go p e below _ (T2.setTop (mkF m 6 #[.val (.ref oa)] [(.int (if b0 = (89 : Int32) then (1 : Int32) else 0))]))
  by_cases hy : b0 = (89 : Int32)
  · rw [show (if b0 = (89 : Int32) then (1 : Int32) else 0) = (1 : Int32) from if_pos hy]
    show own_Go p e below _ (T2.setTop (mkF m 6 #[.val (.ref oa)] [(.int (1 : Int32))]))
    refine own_go (fun t k => XS.ifYes X2.here hx rfl (pc0 := 6) (pc' := 25) rfl (hb hby dF1_6) rfl ((if0 _ _).trans (feq (by decide : ¬ ((1 : Int32) = (0 : Int32)))).2) (by decide) (by decide) k) ?_
    show own_Go p e below _ (T2.setTop (mkF m 25 #[.val (.ref oa)] []))
    refine own_go (fun t k => XS.iconst X2.here hx rfl (hb hby dF1_25) k) ?_
    show own_Go p e below _ (T2.setTop (mkF m 26 #[.val (.ref oa)] [(.int (1 : Int32))]))
    refine own_go (fun t k => XS.goto X2.here hx rfl (pc0 := 26) (pc' := 30) rfl (hb hby dF1_26) (by decide) (by decide) k) ?_
    show own_Go p e below _ (T2.setTop (mkF m 30 #[.val (.ref oa)] [(.int (1 : Int32))]))
    have hF : CHr Z own_EL s.vm s.heap T2.vm T2.heap := by rw [hh, e2]; exact hR1.trans (CHv.at X2 hZ1 hEL hD1)
    exact own_retNH X2 hx (t := .boolean) Bd.returns (by simp) (hb hby dF1_30) hS1 (by rw [e2]; exact hk1) (by rw [e2]; exact ⟨by simp [nar, hy], N2, KP1⟩) (hF) (by decide) (by decide)
  · rw [show (if b0 = (89 : Int32) then (1 : Int32) else 0) = (0 : Int32) from if_neg hy]
    show own_Go p e below _ (T2.setTop (mkF m 6 #[.val (.ref oa)] [(.int (0 : Int32))]))
    refine own_go (fun t k => XS.ifNo X2.here hx rfl (hb hby dF1_6) rfl ((if0 _ _).trans (teq (by decide : (0 : Int32) = (0 : Int32))).2) k) ?_
    show own_Go p e below _ (T2.setTop (mkF m 9 #[.val (.ref oa)] []))
    refine own_go (fun t k => XS.aloadN X2.here hx rfl (hb hby dF1_9) rfl rfl k) ?_
    show own_Go p e below _ (T2.setTop (mkF m 10 #[.val (.ref oa)] [(.ref oa)]))
    obtain ⟨s3, T3, h3, j3, c3, kc3, X3, e3, E3, hS3, hk3, hZ3, hown3, Es3, Fc3, Fv3, Ab3, -, -, hC3, -, hne3, st3⟩ := ldcCH X2 hx hZ1 hown1 (hw _ (List.mem_of_getElem? (i := 42) rfl)) (own_wS hw) e2 hS1 hk1 hEL (List.mem_of_getElem? (i := 1) rfl) hD1 (vs := [(.int (78 : Int32))]) (z := (1 : Int32)) ⟨by decide, by decide +kernel⟩ (by decide) rfl (g := (mkF m 10 #[.val (.ref oa)] [(.ref oa)])) rfl (hb hby dF1_10) (n := 4) (by decide) (by decide) (by decide) (by decide)
    have XO__3 := XO__1.ext E3
    have Eoa__3 := Eoa__1.ext E3
    have Coa__3 := Coa__1.ext E3
    have Voa__3 := Voa__1.ext E3
    have Aoa__3 := Aoa__1.ext E3
    have Es1__3 := Es1.ext E3
    have Fc1__3 := Fc1.ext E3
    have Fv1__3 := Fv1.ext E3
    have Ab1__3 := Ab1.ext E3
    have Zs_oa__3 := hC3.safe Eoa__1.lt Zs_oa__1
    have hR3 := hR1.trans hC3
    have hD3 := hR3.1
    have sz3 := Nat.le_trans sz1 E3.1
    have KP3 := KP1.ext E3
    have ne_oa_s3 := (hne3 oa Zs_oa__3).1
    have ne_oa_c3 := (hne3 oa Zs_oa__3).2
    refine own_go (fun t k => st3 t k) ?_
    show own_Go p e below _ (T3.setTop (mkF m 12 #[.val (.ref oa)] [(.ref s3), (.ref oa)]))
    obtain ⟨cq4, kq4, q4a, q4b, q4c⟩ := isOf hZ3 e3 Eoa__3
    obtain ⟨_, _, ⟨T4, L4, k4, n4⟩, -, X4, ⟨Lc4, hQ4, l4, y4, z4⟩, st4⟩ := X3.virtualBack hx (y := (⟨"java/lang/String", "equals", "(Ljava/lang/Object;)Z"⟩ : MethodName)) (z := (⟨"java/lang/String", "equals", "(Ljava/lang/Object;)Z"⟩ : MethodName)) hown3 (mvT hZ3 (hw _ (List.mem_of_getElem? (i := 31) rfl))) (mvT hZ3 (hw _ (List.mem_of_getElem? (i := 32) rfl))) (notFace_of_selects (args := #[]) (mvT hZ3 (hw _ (List.mem_of_getElem? (i := 34) rfl)))) (mvT hZ3 (hw _ (List.mem_of_getElem? (i := 34) rfl))) (mvT hZ3 (hw _ (List.mem_of_getElem? (i := 33) rfl))) (by decide) (backOf (W := 0) (rmQ1 l Z a0 hw [] oa s3 ot c3 kt kc3 b0 (78 : Int32) cs h3 n0 sz3 SC hcs XO__3 ne_oa_s3 Eoa__3 Coa__3 Voa__3 Aoa__3 Es3 Fc3 Fv3 Ab3) hZ3 (hw _ (List.mem_of_getElem? (i := 35) rfl)) (hw _ (List.mem_of_getElem? (i := 7) rfl)) (by decide) (by decide)) q4a q4c (g := (mkF m 12 #[.val (.ref oa)] [(.ref s3), (.ref oa)])) rfl (by rw [hml]; rfl) (Steps.refl _) (argsL := [(.ref s3)]) (rest := []) (lenOf pdF1_0 rfl) rfl (by show 2 * 0 + _ ≤ _; exact Nat.le_of_eq rfl) (hb hby dF1_12) (fun _ _ => ⟨rfl, e3, (by decide : 0 + 2 + 2 + 0 ≤ _), (by decide : 0 + (4 + 4) + (4 + 4) + 0 ≤ _)⟩)
    dsimp only [Pt.U, Pt.locs, Pt.cells, Pt.slots] at X4 l4 y4 z4 st4 hQ4
    subst l4 y4 z4
    obtain ⟨rfl, Nq4, e4⟩ := hQ4
    have N4 := Fr.app N2 Nq4
    refine own_go (fun t k => st4.trans k) ?_
    show own_Go p e below _ (T4.setTop (mkF m 15 #[.val (.ref oa)] [(.int (if b0 = (78 : Int32) then (1 : Int32) else 0))]))
    by_cases hn : b0 = (78 : Int32)
    · rw [show (if b0 = (78 : Int32) then (1 : Int32) else 0) = (1 : Int32) from if_pos hn]
      show own_Go p e below _ (T4.setTop (mkF m 15 #[.val (.ref oa)] [(.int (1 : Int32))]))
      refine own_go (fun t k => XS.ifYes X4.here hx rfl (pc0 := 15) (pc' := 25) rfl (hb hby dF1_15) rfl ((if0 _ _).trans (feq (by decide : ¬ ((1 : Int32) = (0 : Int32)))).2) (by decide) (by decide) k) ?_
      show own_Go p e below _ (T4.setTop (mkF m 25 #[.val (.ref oa)] []))
      refine own_go (fun t k => XS.iconst X4.here hx rfl (hb hby dF1_25) k) ?_
      show own_Go p e below _ (T4.setTop (mkF m 26 #[.val (.ref oa)] [(.int (1 : Int32))]))
      refine own_go (fun t k => XS.goto X4.here hx rfl (pc0 := 26) (pc' := 30) rfl (hb hby dF1_26) (by decide) (by decide) k) ?_
      show own_Go p e below _ (T4.setTop (mkF m 30 #[.val (.ref oa)] [(.int (1 : Int32))]))
      have hF : CHr Z own_EL s.vm s.heap T4.vm T4.heap := by rw [hh, e4]; exact hR3.trans (CHv.at X4 hZ3 hEL hD3)
      exact own_retNH X4 hx (t := .boolean) Bd.returns (by simp) (hb hby dF1_30) hS3 (by rw [e4]; exact hk3) (by rw [e4]; exact ⟨by simp [nar, hy, hn], N4, KP3⟩) (hF) (by decide) (by decide)
    · rw [show (if b0 = (78 : Int32) then (1 : Int32) else 0) = (0 : Int32) from if_neg hn]
      show own_Go p e below _ (T4.setTop (mkF m 15 #[.val (.ref oa)] [(.int (0 : Int32))]))
      refine own_go (fun t k => XS.ifNo X4.here hx rfl (hb hby dF1_15) rfl ((if0 _ _).trans (teq (by decide : (0 : Int32) = (0 : Int32))).2) k) ?_
      show own_Go p e below _ (T4.setTop (mkF m 18 #[.val (.ref oa)] []))
      refine own_go (fun t k => XS.aloadN X4.here hx rfl (hb hby dF1_18) rfl rfl k) ?_
      show own_Go p e below _ (T4.setTop (mkF m 19 #[.val (.ref oa)] [(.ref oa)]))
      obtain ⟨cq5, kq5, q5a, q5b, q5c⟩ := isOf hZ3 e4 Eoa__3
      obtain ⟨_, _, ⟨T5, L5, k5, n5⟩, -, X5, ⟨Lc5, hQ5, l5, y5, z5⟩, st5⟩ := X4.virtualBack hx (y := (⟨"java/lang/String", "isEmpty", "()Z"⟩ : MethodName)) (z := (⟨"java/lang/String", "isEmpty", "()Z"⟩ : MethodName)) hown3 (mvT hZ3 (hw _ (List.mem_of_getElem? (i := 43) rfl))) (mvT hZ3 (hw _ (List.mem_of_getElem? (i := 44) rfl))) (notFace_of_selects (args := #[]) (mvT hZ3 (hw _ (List.mem_of_getElem? (i := 46) rfl)))) (mvT hZ3 (hw _ (List.mem_of_getElem? (i := 46) rfl))) (mvT hZ3 (hw _ (List.mem_of_getElem? (i := 45) rfl))) (by decide) (backOf (W := 0) (rmZ1 l Z a0 hw [] oa ot kt b0 h3 n0 sz3 Voa__3 Aoa__3) hZ3 (hw _ (List.mem_of_getElem? (i := 47) rfl)) (hw _ (List.mem_of_getElem? (i := 7) rfl)) (by decide) (by decide)) q5a q5c (g := (mkF m 19 #[.val (.ref oa)] [(.ref oa)])) rfl (by rw [hml]; rfl) (Steps.refl _) (argsL := []) (rest := []) (lenOf pdF1_1 rfl) rfl (by show 2 * 0 + _ ≤ _; exact Nat.le_of_eq rfl) (hb hby dF1_19) (fun _ _ => ⟨rfl, e4, (by decide : 0 + 2 + 2 + 0 ≤ _), (by decide : 0 + (4 + 4) + (4 + 4) + 0 ≤ _)⟩)
      dsimp only [Pt.U, Pt.locs, Pt.cells, Pt.slots] at X5 l5 y5 z5 st5 hQ5
      subst l5 y5 z5
      obtain ⟨rfl, Nq5, e5⟩ := hQ5
      have N5 := Fr.app N4 Nq5
      refine own_go (fun t k => st5.trans k) ?_
      show own_Go p e below _ (T5.setTop (mkF m 22 #[.val (.ref oa)] [(.int (0 : Int32))]))
      refine own_go (fun t k => XS.ifYes X5.here hx rfl (pc0 := 22) (pc' := 29) rfl (hb hby dF1_22) rfl ((if0 _ _).trans (teq (by decide : (0 : Int32) = (0 : Int32))).1) (by decide) (by decide) k) ?_
      show own_Go p e below _ (T5.setTop (mkF m 29 #[.val (.ref oa)] []))
      refine own_go (fun t k => XS.iconst X5.here hx rfl (hb hby dF1_29) k) ?_
      show own_Go p e below _ (T5.setTop (mkF m 30 #[.val (.ref oa)] [(.int (0 : Int32))]))
      have hF : CHr Z own_EL s.vm s.heap T5.vm T5.heap := by rw [hh, e5]; exact hR3.trans (CHv.at X5 hZ3 hEL hD3)
      exact own_retNH X5 hx (t := .boolean) Bd.returns (by simp) (hb hby dF1_30) hS3 (by rw [e5]; exact hk3) (by rw [e5]; exact ⟨by simp [nar, hy, hn], N5, KP3⟩) (hF) (by decide) (by decide)
theorem dM2_0 : decode jdk_43_method_13_code 0 = .ok (.aload_n 0, 1) := by decide +kernel
theorem dM2_1 : decode jdk_43_method_13_code 1 = .ok (.arraylength, 1) := by decide +kernel
theorem dM2_2 : decode jdk_43_method_13_code 2 = .ok (.aload_n 1, 1) := by decide +kernel
theorem dM2_3 : decode jdk_43_method_13_code 3 = .ok (.arraylength, 1) := by decide +kernel
theorem dM2_4 : decode jdk_43_method_13_code 4 = .ok (.if_icmp .ne 30, 3) := by decide +kernel
theorem dM2_34 : decode jdk_43_method_13_code 34 = .ok (.iconst 0, 1) := by decide +kernel
theorem dM2_35 : decode jdk_43_method_13_code 35 = .ok (.ireturn, 1) := by decide +kernel
theorem pnM2 : plainName "java/lang/StringLatin1" = true := by first | (simp [plainName, overriddenIn]; done) | decide +kernel
theorem efM2 (m : MethodId) (x0 : Addr) (x1 : Addr) : entryFrame m #[(.ref x0), (.ref x1)] 3 = mkF m 0 #[.val (.ref x0), .val (.ref x1), .unset] [] := by first | (simp [entryFrame, mkF, argsToLocals, Value.category]; done) | rfl
set_option maxRecDepth 65536 in
set_option maxHeartbeats 40000000 in
theorem rmM2 (l : Launch) (Z : State) (a0 : Array Value) (hw : ∀ d ∈ tables_1, d.before a0 Z = true) (ws : List Jvm.Cond) (ot ou : Addr) (kt ku : ClassId) (b0 : Int32) (b1 : Int32) (y : Int32) (h0 : Heap) (n0 : Nat) (Z0 : n0 ≤ h0.size) (At : Arv Z h0 ot kt .byte (2 : Int32) [.int b0, .int b1] (.int (0 : Int32))) (Au : Arv Z h0 ou ku .byte (1 : Int32) [.int y] (.int (0 : Int32))) :
    MetFree l (⟨"java/lang/StringLatin1", "equals", "([B[B)Z"⟩ : MethodName) (head1 (Jvm.Cond.code (⟨"java/lang/StringLatin1", "equals", "([B[B)Z"⟩ : MethodName) jdk_43_method_13_code 3 (some .boolean) :: ws) ({ frames := 0, cells := 0, slots := 0, locals := 0 } : Room)) (fun a U => a = #[(.ref ot), (.ref ou)] ∧ Z.Warmed39 U.vm ∧ U.heap = h0) (fun _ _ _ _ _ => True) (fun _ U o U' => ∃ v L, o = .returned v ∧ own_QI (0 : Int32) h0 n0 v U'.heap L ∧ FrameEnd U o U' L ({ frames := 0, cells := 0, slots := 0, locals := 0 } : Room).cells ({ frames := 0, cells := 0, slots := 0, locals := 0 } : Room).slots) := by
  refine MetFree.of_bodySF (plainFor_of_name pnM2) hisR ?_
  intro p e s m args below meth c s₁ Bd hml0 hP hK
  obtain ⟨rfl, hZ, hh⟩ := hP
  have hx := Bd.exec
  have hby := Bd.bytes
  have hml : c.maxLocals = 3 := hml0
  have hown : s.vm.findClass "java/lang/StringLatin1" = some m.cls := findClass_of_methodNamed Bd.named
  have hnm := (name_of_methodNamed Bd.named Bd.method).1
  have hlk : meth.locks = false := Bd.notSynchronized
  have X0 : Stand p l e ({ frames := 0, cells := 0, slots := 0, locals := 0 } : Room) s m #[(.ref ot), (.ref ou)] below meth c s₁ [] 0 0 := Stand.of_body Bd
  have e0 : s₁.heap = h0 := by rw [← hh, Bd.state]; rfl
  have N0 := Fr.nil n0
  refine own_go (fun t k => castTop (efM2 m ot ou) k) ?_
  show own_Go p e below _ (s₁.setTop (mkF m 0 #[.val (.ref ot), .val (.ref ou), .unset] []))
  refine own_go (fun t k => XS.aloadN X0.here hx rfl (hb hby dM2_0) rfl rfl k) ?_
  show own_Go p e below _ (s₁.setTop (mkF m 1 #[.val (.ref ot), .val (.ref ou), .unset] [(.ref ot)]))
  obtain ⟨cl1, Ar1, -, Sa1, Na1, -, -⟩ := id At
  have ln1 := len_of Sa1 Na1
  refine own_go (fun t k => X0.arraylength hx (by rw [e0]; exact Ar1.1) (State.isArrayOf_alike hZ.alike Ar1.2.1) (g := (mkF m 1 #[.val (.ref ot), .val (.ref ou), .unset] [(.ref ot)])) rfl rfl (hb hby dM2_1) t (by rw [ln1]; exact k)) ?_
  show own_Go p e below _ (s₁.setTop (mkF m 2 #[.val (.ref ot), .val (.ref ou), .unset] [(.int (2 : Int32))]))
  refine own_go (fun t k => XS.aloadN X0.here hx rfl (hb hby dM2_2) rfl rfl k) ?_
  show own_Go p e below _ (s₁.setTop (mkF m 3 #[.val (.ref ot), .val (.ref ou), .unset] [(.ref ou), (.int (2 : Int32))]))
  obtain ⟨cl2, Ar2, -, Sa2, Na2, -, -⟩ := id Au
  have ln2 := len_of Sa2 Na2
  refine own_go (fun t k => X0.arraylength hx (by rw [e0]; exact Ar2.1) (State.isArrayOf_alike hZ.alike Ar2.2.1) (g := (mkF m 3 #[.val (.ref ot), .val (.ref ou), .unset] [(.ref ou), (.int (2 : Int32))])) rfl rfl (hb hby dM2_3) t (by rw [ln2]; exact k)) ?_
  show own_Go p e below _ (s₁.setTop (mkF m 4 #[.val (.ref ot), .val (.ref ou), .unset] [(.int (1 : Int32)), (.int (2 : Int32))]))
  refine own_go (fun t k => XS.icmpYes X0.here hx rfl (pc0 := 4) (pc' := 34) rfl (hb hby dM2_4) rfl (feq (by decide : ¬ ((2 : Int32) = (1 : Int32)))).2 (by decide) (by decide) k) ?_
  show own_Go p e below _ (s₁.setTop (mkF m 34 #[.val (.ref ot), .val (.ref ou), .unset] []))
  refine own_go (fun t k => XS.iconst X0.here hx rfl (hb hby dM2_34) k) ?_
  show own_Go p e below _ (s₁.setTop (mkF m 35 #[.val (.ref ot), .val (.ref ou), .unset] [(.int (0 : Int32))]))
  exact own_retN X0 hx (t := .boolean) Bd.returns (by simp) (hb hby dM2_35) (by rw [e0]; exact ⟨by simp [nar], N0, rfl⟩) (by decide) (by decide)
theorem dQ2_0 : decode jdk_42_method_66_code 0 = .ok (.aload_n 0, 1) := by decide +kernel
theorem dQ2_1 : decode jdk_42_method_66_code 1 = .ok (.aload_n 1, 1) := by decide +kernel
theorem dQ2_2 : decode jdk_42_method_66_code 2 = .ok (.if_acmp .ne 5, 3) := by decide +kernel
theorem dQ2_7 : decode jdk_42_method_66_code 7 = .ok (.aload_n 1, 1) := by decide +kernel
theorem dQ2_8 : decode jdk_42_method_66_code 8 = .ok (.instanceof 10, 3) := by decide +kernel
theorem dQ2_11 : decode jdk_42_method_66_code 11 = .ok (.ifCond .eq 43, 3) := by decide +kernel
theorem dQ2_14 : decode jdk_42_method_66_code 14 = .ok (.aload_n 1, 1) := by decide +kernel
theorem dQ2_15 : decode jdk_42_method_66_code 15 = .ok (.checkcast 10, 3) := by decide +kernel
theorem dQ2_18 : decode jdk_42_method_66_code 18 = .ok (.astore_n 2, 1) := by decide +kernel
theorem dQ2_19 : decode jdk_42_method_66_code 19 = .ok (.getstatic 38, 3) := by decide +kernel
theorem dQ2_22 : decode jdk_42_method_66_code 22 = .ok (.ifCond .eq 14, 3) := by decide +kernel
theorem dQ2_25 : decode jdk_42_method_66_code 25 = .ok (.aload_n 0, 1) := by decide +kernel
theorem dQ2_26 : decode jdk_42_method_66_code 26 = .ok (.getfield 15, 3) := by decide +kernel
theorem dQ2_29 : decode jdk_42_method_66_code 29 = .ok (.aload_n 2, 1) := by decide +kernel
theorem dQ2_30 : decode jdk_42_method_66_code 30 = .ok (.getfield 15, 3) := by decide +kernel
theorem dQ2_33 : decode jdk_42_method_66_code 33 = .ok (.if_icmp .ne 21, 3) := by decide +kernel
theorem dQ2_36 : decode jdk_42_method_66_code 36 = .ok (.aload_n 0, 1) := by decide +kernel
theorem dQ2_37 : decode jdk_42_method_66_code 37 = .ok (.getfield 9, 3) := by decide +kernel
theorem dQ2_40 : decode jdk_42_method_66_code 40 = .ok (.aload_n 2, 1) := by decide +kernel
theorem dQ2_41 : decode jdk_42_method_66_code 41 = .ok (.getfield 9, 3) := by decide +kernel
theorem dQ2_44 : decode jdk_42_method_66_code 44 = .ok (.invokestatic 541, 3) := by decide +kernel
theorem dQ2_47 : decode jdk_42_method_66_code 47 = .ok (.ifCond .eq 7, 3) := by decide +kernel
theorem dQ2_54 : decode jdk_42_method_66_code 54 = .ok (.iconst 0, 1) := by decide +kernel
theorem dQ2_55 : decode jdk_42_method_66_code 55 = .ok (.ireturn, 1) := by decide +kernel
theorem pnQ2 : plainName "java/lang/String" = true := by first | (simp [plainName, overriddenIn]; done) | decide +kernel
theorem pdQ2_0 : parseMethodDescriptor "([B[B)Z" = some ⟨[(.array .byte), (.array .byte)], some .boolean⟩ := by decide +kernel
theorem efQ2 (m : MethodId) (x0 : Addr) (x1 : Addr) : entryFrame m #[(.ref x0), (.ref x1)] 3 = mkF m 0 #[.val (.ref x0), .val (.ref x1), .unset] [] := by first | (simp [entryFrame, mkF, argsToLocals, Value.category]; done) | rfl
set_option maxRecDepth 65536 in
set_option maxHeartbeats 40000000 in
theorem rmQ2 (l : Launch) (Z : State) (a0 : Array Value) (hw : ∀ d ∈ tables_1, d.before a0 Z = true) (ws : List Jvm.Cond) (oa ob ot ou : Addr) (kt ku : ClassId) (b0 : Int32) (b1 : Int32) (y cs : Int32) (h0 : Heap) (n0 : Nat) (Z0 : n0 ≤ h0.size) (SC : Sta Z Z.heap "java/lang/String" "COMPACT_STRINGS" "Z" (.int cs)) (hcs : ¬ cs = 0) (XO : Old Z n0 h0) (ne_ab : oa ≠ ob) (Eoa : Exa Z h0 oa "java/lang/String") (Coa : Fld Z h0 oa "java/lang/String" "coder" "B" (.int (0 : Int32))) (Voa : Fld Z h0 oa "java/lang/String" "value" "[B" (.ref ot)) (Aoa : Arv Z h0 ot kt .byte (2 : Int32) [.int b0, .int b1] (.int (0 : Int32))) (Eob : Exa Z h0 ob "java/lang/String") (Cob : Fld Z h0 ob "java/lang/String" "coder" "B" (.int (0 : Int32))) (Vob : Fld Z h0 ob "java/lang/String" "value" "[B" (.ref ou)) (Aob : Arv Z h0 ou ku .byte (1 : Int32) [.int y] (.int (0 : Int32))) :
    MetFree l (⟨"java/lang/String", "equals", "(Ljava/lang/Object;)Z"⟩ : MethodName) (head1 (Jvm.Cond.code (⟨"java/lang/String", "equals", "(Ljava/lang/Object;)Z"⟩ : MethodName) jdk_42_method_66_code 3 (some .boolean) :: ws) ({ frames := 1, cells := 0, slots := 0, locals := 14 } : Room)) (fun a U => a = #[(.ref oa), (.ref ob)] ∧ Z.Warmed39 U.vm ∧ U.heap = h0) (fun _ _ _ _ _ => True) (fun _ U o U' => ∃ v L, o = .returned v ∧ own_QI (0 : Int32) h0 n0 v U'.heap L ∧ FrameEnd U o U' L ({ frames := 1, cells := 0, slots := 0, locals := 14 } : Room).cells ({ frames := 1, cells := 0, slots := 0, locals := 14 } : Room).slots) := by
  refine MetFree.of_bodySF (plainFor_of_name pnQ2) hisR ?_
  intro p e s m args below meth c s₁ Bd hml0 hP hK
  obtain ⟨rfl, hZ, hh⟩ := hP
  have hx := Bd.exec
  have hby := Bd.bytes
  have hml : c.maxLocals = 3 := hml0
  have hown : s.vm.findClass "java/lang/String" = some m.cls := findClass_of_methodNamed Bd.named
  have hnm := (name_of_methodNamed Bd.named Bd.method).1
  have hlk : meth.locks = false := Bd.notSynchronized
  have X0 : Stand p l e ({ frames := 1, cells := 0, slots := 0, locals := 14 } : Room) s m #[(.ref oa), (.ref ob)] below meth c s₁ [] 0 0 := Stand.of_body Bd
  have e0 : s₁.heap = h0 := by rw [← hh, Bd.state]; rfl
  have N0 := Fr.nil n0
  refine own_go (fun t k => castTop (efQ2 m oa ob) k) ?_
  show own_Go p e below _ (s₁.setTop (mkF m 0 #[.val (.ref oa), .val (.ref ob), .unset] []))
  refine own_go (fun t k => XS.aloadN X0.here hx rfl (hb hby dQ2_0) rfl rfl k) ?_
  show own_Go p e below _ (s₁.setTop (mkF m 1 #[.val (.ref oa), .val (.ref ob), .unset] [(.ref oa)]))
  refine own_go (fun t k => XS.aloadN X0.here hx rfl (hb hby dQ2_1) rfl rfl k) ?_
  show own_Go p e below _ (s₁.setTop (mkF m 2 #[.val (.ref oa), .val (.ref ob), .unset] [(.ref ob), (.ref oa)]))
  refine own_go (fun t k => Jvm.RoadKit.acmp (g := (mkF m 2 #[.val (.ref oa), .val (.ref ob), .unset] [(.ref ob), (.ref oa)])) X0 hx rfl rfl rfl (pc0 := 2) (pc' := 7) (same := false) rfl (hb hby dQ2_2) rfl (decide_eq_false (fun q => ne_ab (Value.ref.inj q))) (by decide) (by decide) k) ?_
  show own_Go p e below _ (s₁.setTop (mkF m 7 #[.val (.ref oa), .val (.ref ob), .unset] []))
  refine own_go (fun t k => XS.aloadN X0.here hx rfl (hb hby dQ2_7) rfl rfl k) ?_
  show own_Go p e below _ (s₁.setTop (mkF m 8 #[.val (.ref oa), .val (.ref ob), .unset] [(.ref ob)]))
  obtain ⟨T1, X1, e1, st1⟩ := instY X0 hx hZ hown (hw _ (List.mem_of_getElem? (i := 36) rfl)) e0 (Ins.self Eob) (g := (mkF m 8 #[.val (.ref oa), .val (.ref ob), .unset] [(.ref ob)])) rfl rfl (hb hby dQ2_8)
  refine own_go (fun t k => st1 t k) ?_
  show own_Go p e below _ (T1.setTop (mkF m 11 #[.val (.ref oa), .val (.ref ob), .unset] [(.int (1 : Int32))]))
  refine own_go (fun t k => XS.ifNo X1.here hx rfl (hb hby dQ2_11) rfl ((if0 _ _).trans (feq (by decide : ¬ ((1 : Int32) = (0 : Int32)))).1) k) ?_
  show own_Go p e below _ (T1.setTop (mkF m 14 #[.val (.ref oa), .val (.ref ob), .unset] []))
  refine own_go (fun t k => XS.aloadN X1.here hx rfl (hb hby dQ2_14) rfl rfl k) ?_
  show own_Go p e below _ (T1.setTop (mkF m 15 #[.val (.ref oa), .val (.ref ob), .unset] [(.ref ob)]))
  obtain ⟨T2, X2, e2, st2⟩ := castY X1 hx hZ hown (hw _ (List.mem_of_getElem? (i := 36) rfl)) e1 (Ins.self Eob) (g := (mkF m 15 #[.val (.ref oa), .val (.ref ob), .unset] [(.ref ob)])) rfl rfl (hb hby dQ2_15)
  refine own_go (fun t k => st2 t k) ?_
  show own_Go p e below _ (T2.setTop (mkF m 18 #[.val (.ref oa), .val (.ref ob), .unset] [(.ref ob)]))
  refine own_go (fun t k => XS.astoreN X2.here hx rfl (hb hby dQ2_18) rfl rfl (l' := #[.val (.ref oa), .val (.ref ob), .val (.ref ob)]) rfl k) ?_
  show own_Go p e below _ (T2.setTop (mkF m 19 #[.val (.ref oa), .val (.ref ob), .val (.ref ob)] []))
  obtain ⟨T3, X3, e3, st3⟩ := getS2 X2 hx hZ hown (host := "") (Or.inl (hw _ (List.mem_of_getElem? (i := 37) rfl))) Via.refl e2 (SC.ext XO.2) (g := (mkF m 19 #[.val (.ref oa), .val (.ref ob), .val (.ref ob)] [])) rfl (hb hby dQ2_19)
  refine own_go (fun t k => st3 t k) ?_
  show own_Go p e below _ (T3.setTop (mkF m 22 #[.val (.ref oa), .val (.ref ob), .val (.ref ob)] [(.int cs)]))
  refine own_go (fun t k => XS.ifNo X3.here hx rfl (hb hby dQ2_22) rfl ((if0 _ _).trans (feq hcs).1) k) ?_
  show own_Go p e below _ (T3.setTop (mkF m 25 #[.val (.ref oa), .val (.ref ob), .val (.ref ob)] []))
  refine own_go (fun t k => XS.aloadN X3.here hx rfl (hb hby dQ2_25) rfl rfl k) ?_
  show own_Go p e below _ (T3.setTop (mkF m 26 #[.val (.ref oa), .val (.ref ob), .val (.ref ob)] [(.ref oa)]))
  obtain ⟨T4, X4, e4, st4⟩ := getF X3 hx hZ hown (host := "") (Or.inl (hw _ (List.mem_of_getElem? (i := 25) rfl))) Via.refl e3 Coa (g := (mkF m 26 #[.val (.ref oa), .val (.ref ob), .val (.ref ob)] [(.ref oa)])) rfl rfl (hb hby dQ2_26)
  refine own_go (fun t k => st4 t k) ?_
  show own_Go p e below _ (T4.setTop (mkF m 29 #[.val (.ref oa), .val (.ref ob), .val (.ref ob)] [(.int (0 : Int32))]))
  refine own_go (fun t k => XS.aloadN X4.here hx rfl (hb hby dQ2_29) rfl rfl k) ?_
  show own_Go p e below _ (T4.setTop (mkF m 30 #[.val (.ref oa), .val (.ref ob), .val (.ref ob)] [(.ref ob), (.int (0 : Int32))]))
  obtain ⟨T5, X5, e5, st5⟩ := getF X4 hx hZ hown (host := "") (Or.inl (hw _ (List.mem_of_getElem? (i := 25) rfl))) Via.refl e4 Cob (g := (mkF m 30 #[.val (.ref oa), .val (.ref ob), .val (.ref ob)] [(.ref ob), (.int (0 : Int32))])) rfl rfl (hb hby dQ2_30)
  refine own_go (fun t k => st5 t k) ?_
  show own_Go p e below _ (T5.setTop (mkF m 33 #[.val (.ref oa), .val (.ref ob), .val (.ref ob)] [(.int (0 : Int32)), (.int (0 : Int32))]))
  refine own_go (fun t k => XS.icmpNo X5.here hx rfl (hb hby dQ2_33) rfl (teq (by decide : (0 : Int32) = (0 : Int32))).2 k) ?_
  show own_Go p e below _ (T5.setTop (mkF m 36 #[.val (.ref oa), .val (.ref ob), .val (.ref ob)] []))
  refine own_go (fun t k => XS.aloadN X5.here hx rfl (hb hby dQ2_36) rfl rfl k) ?_
  show own_Go p e below _ (T5.setTop (mkF m 37 #[.val (.ref oa), .val (.ref ob), .val (.ref ob)] [(.ref oa)]))
  obtain ⟨T6, X6, e6, st6⟩ := getF X5 hx hZ hown (host := "") (Or.inl (hw _ (List.mem_of_getElem? (i := 24) rfl))) Via.refl e5 Voa (g := (mkF m 37 #[.val (.ref oa), .val (.ref ob), .val (.ref ob)] [(.ref oa)])) rfl rfl (hb hby dQ2_37)
  refine own_go (fun t k => st6 t k) ?_
  show own_Go p e below _ (T6.setTop (mkF m 40 #[.val (.ref oa), .val (.ref ob), .val (.ref ob)] [(.ref ot)]))
  refine own_go (fun t k => XS.aloadN X6.here hx rfl (hb hby dQ2_40) rfl rfl k) ?_
  show own_Go p e below _ (T6.setTop (mkF m 41 #[.val (.ref oa), .val (.ref ob), .val (.ref ob)] [(.ref ob), (.ref ot)]))
  obtain ⟨T7, X7, e7, st7⟩ := getF X6 hx hZ hown (host := "") (Or.inl (hw _ (List.mem_of_getElem? (i := 24) rfl))) Via.refl e6 Vob (g := (mkF m 41 #[.val (.ref oa), .val (.ref ob), .val (.ref ob)] [(.ref ob), (.ref ot)])) rfl rfl (hb hby dQ2_41)
  refine own_go (fun t k => st7 t k) ?_
  show own_Go p e below _ (T7.setTop (mkF m 44 #[.val (.ref oa), .val (.ref ob), .val (.ref ob)] [(.ref ou), (.ref ot)]))
  obtain ⟨_, _, ⟨T8, L8, k8, n8⟩, -, X8, ⟨Lc8, hQ8, l8, y8, z8⟩, st8⟩ := Jvm.LawKit.callS X7 hx (y := (⟨"java/lang/StringLatin1", "equals", "([B[B)Z"⟩ : MethodName)) hown (mvT hZ (hw _ (List.mem_of_getElem? (i := 38) rfl))) (mvT hZ (hw _ (List.mem_of_getElem? (i := 39) rfl))) (mvT hZ (hw _ (List.mem_of_getElem? (i := 40) rfl))) (mvT hZ (hw _ (List.mem_of_getElem? (i := 41) rfl))) (by decide) (backOf (W := 0) (rmM2 l Z a0 hw [] ot ou kt ku b0 b1 y h0 n0 Z0 Aoa Aob) hZ (hw _ (List.mem_of_getElem? (i := 41) rfl)) (hw _ (List.mem_of_getElem? (i := 40) rfl)) (by decide) (by decide)) (g := (mkF m 44 #[.val (.ref oa), .val (.ref ob), .val (.ref ob)] [(.ref ou), (.ref ot)])) rfl (by rw [hml]; rfl) (argsL := [(.ref ot), (.ref ou)]) (rest := []) (lenOf pdQ2_0 rfl) rfl (by show 2 * 0 + _ ≤ _; exact Nat.le_of_eq rfl) (hb hby dQ2_44) (fun _ _ => ⟨rfl, e7, (by decide : 0 + 0 ≤ _), (by decide : 0 + 0 ≤ _)⟩)
  dsimp only [Pt.U, Pt.locs, Pt.cells, Pt.slots] at X8 l8 y8 z8 st8 hQ8
  subst l8 y8 z8
  obtain ⟨rfl, Nq8, e8⟩ := hQ8
  have N8 := Fr.app N0 Nq8
  refine own_go (fun t k => st8 t k) ?_
  show own_Go p e below _ (T8.setTop (mkF m 47 #[.val (.ref oa), .val (.ref ob), .val (.ref ob)] [(.int (0 : Int32))]))
  refine own_go (fun t k => XS.ifYes X8.here hx rfl (pc0 := 47) (pc' := 54) rfl (hb hby dQ2_47) rfl ((if0 _ _).trans (teq (by decide : (0 : Int32) = (0 : Int32))).1) (by decide) (by decide) k) ?_
  show own_Go p e below _ (T8.setTop (mkF m 54 #[.val (.ref oa), .val (.ref ob), .val (.ref ob)] []))
  refine own_go (fun t k => XS.iconst X8.here hx rfl (hb hby dQ2_54) k) ?_
  show own_Go p e below _ (T8.setTop (mkF m 55 #[.val (.ref oa), .val (.ref ob), .val (.ref ob)] [(.int (0 : Int32))]))
  exact own_retN X8 hx (t := .boolean) Bd.returns (by simp) (hb hby dQ2_55) (by rw [e8]; exact ⟨by simp [nar], N8, rfl⟩) (by decide) (by decide)
theorem dZ2_0 : decode jdk_42_method_55_code 0 = .ok (.aload_n 0, 1) := by decide +kernel
theorem dZ2_1 : decode jdk_42_method_55_code 1 = .ok (.getfield 9, 3) := by decide +kernel
theorem dZ2_4 : decode jdk_42_method_55_code 4 = .ok (.arraylength, 1) := by decide +kernel
theorem dZ2_5 : decode jdk_42_method_55_code 5 = .ok (.ifCond .ne 7, 3) := by decide +kernel
theorem dZ2_12 : decode jdk_42_method_55_code 12 = .ok (.iconst 0, 1) := by decide +kernel
theorem dZ2_13 : decode jdk_42_method_55_code 13 = .ok (.ireturn, 1) := by decide +kernel
theorem pnZ2 : plainName "java/lang/String" = true := by first | (simp [plainName, overriddenIn]; done) | decide +kernel
theorem efZ2 (m : MethodId) (x0 : Addr) : entryFrame m #[(.ref x0)] 1 = mkF m 0 #[.val (.ref x0)] [] := by first | (simp [entryFrame, mkF, argsToLocals, Value.category]; done) | rfl
set_option maxRecDepth 65536 in
set_option maxHeartbeats 40000000 in
theorem rmZ2 (l : Launch) (Z : State) (a0 : Array Value) (hw : ∀ d ∈ tables_1, d.before a0 Z = true) (ws : List Jvm.Cond) (oa ot : Addr) (kt : ClassId) (b0 : Int32) (b1 : Int32) (h0 : Heap) (n0 : Nat) (Z0 : n0 ≤ h0.size) (V_ : Fld Z h0 oa "java/lang/String" "value" "[B" (.ref ot)) (A_ : Arv Z h0 ot kt .byte (2 : Int32) [.int b0, .int b1] (.int (0 : Int32))) :
    MetFree l (⟨"java/lang/String", "isEmpty", "()Z"⟩ : MethodName) (head1 (Jvm.Cond.code (⟨"java/lang/String", "isEmpty", "()Z"⟩ : MethodName) jdk_42_method_55_code 1 (some .boolean) :: ws) ({ frames := 0, cells := 0, slots := 0, locals := 0 } : Room)) (fun a U => a = #[(.ref oa)] ∧ Z.Warmed39 U.vm ∧ U.heap = h0) (fun _ _ _ _ _ => True) (fun _ U o U' => ∃ v L, o = .returned v ∧ own_QI (0 : Int32) h0 n0 v U'.heap L ∧ FrameEnd U o U' L ({ frames := 0, cells := 0, slots := 0, locals := 0 } : Room).cells ({ frames := 0, cells := 0, slots := 0, locals := 0 } : Room).slots) := by
  refine MetFree.of_bodySF (plainFor_of_name pnZ2) hisR ?_
  intro p e s m args below meth c s₁ Bd hml0 hP hK
  obtain ⟨rfl, hZ, hh⟩ := hP
  have hx := Bd.exec
  have hby := Bd.bytes
  have hml : c.maxLocals = 1 := hml0
  have hown : s.vm.findClass "java/lang/String" = some m.cls := findClass_of_methodNamed Bd.named
  have hnm := (name_of_methodNamed Bd.named Bd.method).1
  have hlk : meth.locks = false := Bd.notSynchronized
  have X0 : Stand p l e ({ frames := 0, cells := 0, slots := 0, locals := 0 } : Room) s m #[(.ref oa)] below meth c s₁ [] 0 0 := Stand.of_body Bd
  have e0 : s₁.heap = h0 := by rw [← hh, Bd.state]; rfl
  have N0 := Fr.nil n0
  refine own_go (fun t k => castTop (efZ2 m oa) k) ?_
  show own_Go p e below _ (s₁.setTop (mkF m 0 #[.val (.ref oa)] []))
  refine own_go (fun t k => XS.aloadN X0.here hx rfl (hb hby dZ2_0) rfl rfl k) ?_
  show own_Go p e below _ (s₁.setTop (mkF m 1 #[.val (.ref oa)] [(.ref oa)]))
  obtain ⟨T1, X1, e1, st1⟩ := getF X0 hx hZ hown (host := "") (Or.inl (hw _ (List.mem_of_getElem? (i := 24) rfl))) Via.refl e0 V_ (g := (mkF m 1 #[.val (.ref oa)] [(.ref oa)])) rfl rfl (hb hby dZ2_1)
  refine own_go (fun t k => st1 t k) ?_
  show own_Go p e below _ (T1.setTop (mkF m 4 #[.val (.ref oa)] [(.ref ot)]))
  obtain ⟨cl2, Ar2, -, Sa2, Na2, -, -⟩ := id A_
  have ln2 := len_of Sa2 Na2
  refine own_go (fun t k => X1.arraylength hx (by rw [e1]; exact Ar2.1) (State.isArrayOf_alike hZ.alike Ar2.2.1) (g := (mkF m 4 #[.val (.ref oa)] [(.ref ot)])) rfl rfl (hb hby dZ2_4) t (by rw [ln2]; exact k)) ?_
  show own_Go p e below _ (T1.setTop (mkF m 5 #[.val (.ref oa)] [(.int (2 : Int32))]))
  refine own_go (fun t k => XS.ifYes X1.here hx rfl (pc0 := 5) (pc' := 12) rfl (hb hby dZ2_5) rfl ((if0 _ _).trans (feq (by decide : ¬ ((2 : Int32) = (0 : Int32)))).2) (by decide) (by decide) k) ?_
  show own_Go p e below _ (T1.setTop (mkF m 12 #[.val (.ref oa)] []))
  refine own_go (fun t k => XS.iconst X1.here hx rfl (hb hby dZ2_12) k) ?_
  show own_Go p e below _ (T1.setTop (mkF m 13 #[.val (.ref oa)] [(.int (0 : Int32))]))
  exact own_retN X1 hx (t := .boolean) Bd.returns (by simp) (hb hby dZ2_13) (by rw [e1]; exact ⟨rfl, N0, rfl⟩) (by decide) (by decide)
theorem dF2_0 : decode prog_25_method_3_code 0 = .ok (.aload_n 0, 1) := by decide +kernel
theorem dF2_1 : decode prog_25_method_3_code 1 = .ok (.ldc 63, 2) := by decide +kernel
theorem dF2_3 : decode prog_25_method_3_code 3 = .ok (.invokevirtual 65, 3) := by decide +kernel
theorem dF2_6 : decode prog_25_method_3_code 6 = .ok (.ifCond .ne 19, 3) := by decide +kernel
theorem dF2_9 : decode prog_25_method_3_code 9 = .ok (.aload_n 0, 1) := by decide +kernel
theorem dF2_10 : decode prog_25_method_3_code 10 = .ok (.ldc 71, 2) := by decide +kernel
theorem dF2_12 : decode prog_25_method_3_code 12 = .ok (.invokevirtual 65, 3) := by decide +kernel
theorem dF2_15 : decode prog_25_method_3_code 15 = .ok (.ifCond .ne 10, 3) := by decide +kernel
theorem dF2_18 : decode prog_25_method_3_code 18 = .ok (.aload_n 0, 1) := by decide +kernel
theorem dF2_19 : decode prog_25_method_3_code 19 = .ok (.invokevirtual 73, 3) := by decide +kernel
theorem dF2_22 : decode prog_25_method_3_code 22 = .ok (.ifCond .eq 7, 3) := by decide +kernel
theorem dF2_29 : decode prog_25_method_3_code 29 = .ok (.iconst 0, 1) := by decide +kernel
theorem dF2_30 : decode prog_25_method_3_code 30 = .ok (.ireturn, 1) := by decide +kernel
theorem pnF2 : plainName "com/example/counterledger/counterledger/OpenItem" = true := by first | (simp [plainName, overriddenIn]; done) | decide +kernel
theorem pdF2_0 : parseMethodDescriptor "(Ljava/lang/Object;)Z" = some ⟨[(.object "java/lang/Object")], some .boolean⟩ := by decide +kernel
theorem pdF2_1 : parseMethodDescriptor "()Z" = some ⟨[], some .boolean⟩ := by decide +kernel
theorem efF2 (m : MethodId) (x0 : Addr) : entryFrame m #[(.ref x0)] 1 = mkF m 0 #[.val (.ref x0)] [] := by first | (simp [entryFrame, mkF, argsToLocals, Value.category]; done) | rfl
set_option maxRecDepth 65536 in
set_option maxHeartbeats 40000000 in
theorem rmF2 (l : Launch) (Z : State) (a0 : Array Value) (hw : ∀ d ∈ tables_1, d.before a0 Z = true) (ws : List Jvm.Cond) (oa ot : Addr) (kt : ClassId) (cs : Int32) (b0 : Int32) (b1 : Int32) (h0 : Heap) (n0 : Nat) (Z0 : n0 ≤ h0.size) (SC : Sta Z Z.heap "java/lang/String" "COMPACT_STRINGS" "Z" (.int cs)) (hcs : ¬ cs = 0) (XO : Old Z n0 h0) (Eoa : Exa Z h0 oa "java/lang/String") (Coa : Fld Z h0 oa "java/lang/String" "coder" "B" (.int (0 : Int32))) (Voa : Fld Z h0 oa "java/lang/String" "value" "[B" (.ref ot)) (Aoa : Arv Z h0 ot kt .byte (2 : Int32) [.int b0, .int b1] (.int (0 : Int32))) :
    MetFree l (⟨"com/example/counterledger/counterledger/OpenItem", "isFlag", "(Ljava/lang/String;)Z"⟩ : MethodName) (head1 (Jvm.Cond.code (⟨"com/example/counterledger/counterledger/OpenItem", "isFlag", "(Ljava/lang/String;)Z"⟩ : MethodName) prog_25_method_3_code 1 (some .boolean) :: ws) ({ frames := 2, cells := 4, slots := 16, locals := 28 } : Room)) (fun a U => a = #[(.ref oa)] ∧ Z.Warmed39 U.vm ∧ U.heap = h0 ∧ CHv Z own_EL U.vm h0 ∧ ∀ x ∈ ([oa] : List Addr), Safe Z own_EL U.vm h0 x) (fun _ _ _ _ _ => True) (fun _ U o U' => ∃ v L, o = .returned v ∧ own_QF (0 : Int32) h0 n0 v U'.heap L ∧ CHr Z own_EL U.vm U.heap U'.vm U'.heap ∧ ReturnedEndW U o U' L ({ frames := 2, cells := 4, slots := 16, locals := 28 } : Room).cells ({ frames := 2, cells := 4, slots := 16, locals := 28 } : Room).slots) := by
  refine MetFree.of_bodySF (plainFor_of_name pnF2) hisR ?_
  intro p e s m args below meth c s₁ Bd hml0 hP hK
  obtain ⟨rfl, hZ, hh, hC0, hsf0⟩ := hP
  have hx := Bd.exec
  have hby := Bd.bytes
  have hml : c.maxLocals = 1 := hml0
  have hown : s.vm.findClass "com/example/counterledger/counterledger/OpenItem" = some m.cls := findClass_of_methodNamed Bd.named
  have hnm := (name_of_methodNamed Bd.named Bd.method).1
  have hlk : meth.locks = false := Bd.notSynchronized
  have hEL := own_ew hw
  have hR0 : CHr Z own_EL s.vm h0 s.vm h0 := CHr.refl hC0
  have Zs_oa := hsf0 oa (List.mem_of_getElem? (i := 0) rfl)
  have hS0 : s.Since s.vm 0 := (State.WarmedH.refl s).since 0
  have hk0 : 0 ≤ h0.size := Nat.zero_le _
  have X0 : Stand p l e ({ frames := 2, cells := 4, slots := 16, locals := 28 } : Room) (s.setVm s.vm) m #[(.ref oa)] below meth c s₁ [] 0 0 := Stand.of_body Bd
  have e0 : s₁.heap = h0 := by rw [← hh, Bd.state]; rfl
  have N0 := Fr.nil n0
  refine own_go (fun t k => castTop (efF2 m oa) k) ?_
  show own_Go p e below _ (s₁.setTop (mkF m 0 #[.val (.ref oa)] []))
  refine own_go (fun t k => XS.aloadN X0.here hx rfl (hb hby dF2_0) rfl rfl k) ?_
  show own_Go p e below _ (s₁.setTop (mkF m 1 #[.val (.ref oa)] [(.ref oa)]))
  obtain ⟨s1, T1, h1, j1, c1, kc1, X1, e1, E1, hS1, hk1, hZ1, hown1, Es1, Fc1, Fv1, Ab1, -, -, hC1, -, hne1, st1⟩ := ldcCH X0 hx hZ hown (hw _ (List.mem_of_getElem? (i := 30) rfl)) (own_wS hw) e0 hS0 hk0 hEL (List.mem_of_getElem? (i := 0) rfl) hC0 (vs := [(.int (89 : Int32))]) (z := (1 : Int32)) ⟨by decide, by decide +kernel⟩ (by decide) rfl (g := (mkF m 1 #[.val (.ref oa)] [(.ref oa)])) rfl (hb hby dF2_1) (n := 4) (by decide) (by decide) (by decide) (by decide)
  have XO__1 := XO.ext E1
  have Eoa__1 := Eoa.ext E1
  have Coa__1 := Coa.ext E1
  have Voa__1 := Voa.ext E1
  have Aoa__1 := Aoa.ext E1
  have Zs_oa__1 := hC1.safe Eoa.lt Zs_oa
  have hR1 := hR0.trans hC1
  have hD1 := hR1.1
  have sz1 := Nat.le_trans Z0 E1.1
  have KP1 := (Keep.refl h0 []).ext E1
  have ne_oa_s1 := (hne1 oa Zs_oa__1).1
  have ne_oa_c1 := (hne1 oa Zs_oa__1).2
  refine own_go (fun t k => st1 t k) ?_
  show own_Go p e below _ (T1.setTop (mkF m 3 #[.val (.ref oa)] [(.ref s1), (.ref oa)]))
  obtain ⟨cq2, kq2, q2a, q2b, q2c⟩ := isOf hZ1 e1 Eoa__1
  obtain ⟨_, _, ⟨T2, L2, k2, n2⟩, -, X2, ⟨Lc2, hQ2, l2, y2, z2⟩, st2⟩ := X1.virtualBack hx (y := (⟨"java/lang/String", "equals", "(Ljava/lang/Object;)Z"⟩ : MethodName)) (z := (⟨"java/lang/String", "equals", "(Ljava/lang/Object;)Z"⟩ : MethodName)) hown1 (mvT hZ1 (hw _ (List.mem_of_getElem? (i := 31) rfl))) (mvT hZ1 (hw _ (List.mem_of_getElem? (i := 32) rfl))) (notFace_of_selects (args := #[]) (mvT hZ1 (hw _ (List.mem_of_getElem? (i := 34) rfl)))) (mvT hZ1 (hw _ (List.mem_of_getElem? (i := 34) rfl))) (mvT hZ1 (hw _ (List.mem_of_getElem? (i := 33) rfl))) (by decide) (backOf (W := 0) (rmQ2 l Z a0 hw [] oa s1 ot c1 kt kc1 b0 b1 (89 : Int32) cs h1 n0 sz1 SC hcs XO__1 ne_oa_s1 Eoa__1 Coa__1 Voa__1 Aoa__1 Es1 Fc1 Fv1 Ab1) hZ1 (hw _ (List.mem_of_getElem? (i := 35) rfl)) (hw _ (List.mem_of_getElem? (i := 7) rfl)) (by decide) (by decide)) q2a q2c (g := (mkF m 3 #[.val (.ref oa)] [(.ref s1), (.ref oa)])) rfl (by rw [hml]; rfl) (Steps.refl _) (argsL := [(.ref s1)]) (rest := []) (lenOf pdF2_0 rfl) rfl (by show 2 * 0 + _ ≤ _; exact Nat.le_of_eq rfl) (hb hby dF2_3) (fun _ _ => ⟨rfl, e1, (by decide : 0 + 2 + 0 ≤ _), (by decide : 0 + (4 + 4) + 0 ≤ _)⟩)
  dsimp only [Pt.U, Pt.locs, Pt.cells, Pt.slots] at X2 l2 y2 z2 st2 hQ2
  subst l2 y2 z2
  obtain ⟨rfl, Nq2, e2⟩ := hQ2
  have N2 := Fr.app N0 Nq2
  refine own_go (fun t k => st2.trans k) ?_
  show own_Go p e below _ (T2.setTop (mkF m 6 #[.val (.ref oa)] [(.int (0 : Int32))]))
  refine own_go (fun t k => XS.ifNo X2.here hx rfl (hb hby dF2_6) rfl ((if0 _ _).trans (teq (by decide : (0 : Int32) = (0 : Int32))).2) k) ?_
  show own_Go p e below _ (T2.setTop (mkF m 9 #[.val (.ref oa)] []))
  refine own_go (fun t k => XS.aloadN X2.here hx rfl (hb hby dF2_9) rfl rfl k) ?_
  show own_Go p e below _ (T2.setTop (mkF m 10 #[.val (.ref oa)] [(.ref oa)]))
  obtain ⟨s3, T3, h3, j3, c3, kc3, X3, e3, E3, hS3, hk3, hZ3, hown3, Es3, Fc3, Fv3, Ab3, -, -, hC3, -, hne3, st3⟩ := ldcCH X2 hx hZ1 hown1 (hw _ (List.mem_of_getElem? (i := 42) rfl)) (own_wS hw) e2 hS1 hk1 hEL (List.mem_of_getElem? (i := 1) rfl) hD1 (vs := [(.int (78 : Int32))]) (z := (1 : Int32)) ⟨by decide, by decide +kernel⟩ (by decide) rfl (g := (mkF m 10 #[.val (.ref oa)] [(.ref oa)])) rfl (hb hby dF2_10) (n := 4) (by decide) (by decide) (by decide) (by decide)
  have XO__3 := XO__1.ext E3
  have Eoa__3 := Eoa__1.ext E3
  have Coa__3 := Coa__1.ext E3
  have Voa__3 := Voa__1.ext E3
  have Aoa__3 := Aoa__1.ext E3
  have Es1__3 := Es1.ext E3
  have Fc1__3 := Fc1.ext E3
  have Fv1__3 := Fv1.ext E3
  have Ab1__3 := Ab1.ext E3
  have Zs_oa__3 := hC3.safe Eoa__1.lt Zs_oa__1
  have hR3 := hR1.trans hC3
  have hD3 := hR3.1
  have sz3 := Nat.le_trans sz1 E3.1
  have KP3 := KP1.ext E3
  have ne_oa_s3 := (hne3 oa Zs_oa__3).1
  have ne_oa_c3 := (hne3 oa Zs_oa__3).2
  refine own_go (fun t k => st3 t k) ?_
  show own_Go p e below _ (T3.setTop (mkF m 12 #[.val (.ref oa)] [(.ref s3), (.ref oa)]))
  obtain ⟨cq4, kq4, q4a, q4b, q4c⟩ := isOf hZ3 e3 Eoa__3
  obtain ⟨_, _, ⟨T4, L4, k4, n4⟩, -, X4, ⟨Lc4, hQ4, l4, y4, z4⟩, st4⟩ := X3.virtualBack hx (y := (⟨"java/lang/String", "equals", "(Ljava/lang/Object;)Z"⟩ : MethodName)) (z := (⟨"java/lang/String", "equals", "(Ljava/lang/Object;)Z"⟩ : MethodName)) hown3 (mvT hZ3 (hw _ (List.mem_of_getElem? (i := 31) rfl))) (mvT hZ3 (hw _ (List.mem_of_getElem? (i := 32) rfl))) (notFace_of_selects (args := #[]) (mvT hZ3 (hw _ (List.mem_of_getElem? (i := 34) rfl)))) (mvT hZ3 (hw _ (List.mem_of_getElem? (i := 34) rfl))) (mvT hZ3 (hw _ (List.mem_of_getElem? (i := 33) rfl))) (by decide) (backOf (W := 0) (rmQ2 l Z a0 hw [] oa s3 ot c3 kt kc3 b0 b1 (78 : Int32) cs h3 n0 sz3 SC hcs XO__3 ne_oa_s3 Eoa__3 Coa__3 Voa__3 Aoa__3 Es3 Fc3 Fv3 Ab3) hZ3 (hw _ (List.mem_of_getElem? (i := 35) rfl)) (hw _ (List.mem_of_getElem? (i := 7) rfl)) (by decide) (by decide)) q4a q4c (g := (mkF m 12 #[.val (.ref oa)] [(.ref s3), (.ref oa)])) rfl (by rw [hml]; rfl) (Steps.refl _) (argsL := [(.ref s3)]) (rest := []) (lenOf pdF2_0 rfl) rfl (by show 2 * 0 + _ ≤ _; exact Nat.le_of_eq rfl) (hb hby dF2_12) (fun _ _ => ⟨rfl, e3, (by decide : 0 + 2 + 2 + 0 ≤ _), (by decide : 0 + (4 + 4) + (4 + 4) + 0 ≤ _)⟩)
  dsimp only [Pt.U, Pt.locs, Pt.cells, Pt.slots] at X4 l4 y4 z4 st4 hQ4
  subst l4 y4 z4
  obtain ⟨rfl, Nq4, e4⟩ := hQ4
  have N4 := Fr.app N2 Nq4
  refine own_go (fun t k => st4.trans k) ?_
  show own_Go p e below _ (T4.setTop (mkF m 15 #[.val (.ref oa)] [(.int (0 : Int32))]))
  refine own_go (fun t k => XS.ifNo X4.here hx rfl (hb hby dF2_15) rfl ((if0 _ _).trans (teq (by decide : (0 : Int32) = (0 : Int32))).2) k) ?_
  show own_Go p e below _ (T4.setTop (mkF m 18 #[.val (.ref oa)] []))
  refine own_go (fun t k => XS.aloadN X4.here hx rfl (hb hby dF2_18) rfl rfl k) ?_
  show own_Go p e below _ (T4.setTop (mkF m 19 #[.val (.ref oa)] [(.ref oa)]))
  obtain ⟨cq5, kq5, q5a, q5b, q5c⟩ := isOf hZ3 e4 Eoa__3
  obtain ⟨_, _, ⟨T5, L5, k5, n5⟩, -, X5, ⟨Lc5, hQ5, l5, y5, z5⟩, st5⟩ := X4.virtualBack hx (y := (⟨"java/lang/String", "isEmpty", "()Z"⟩ : MethodName)) (z := (⟨"java/lang/String", "isEmpty", "()Z"⟩ : MethodName)) hown3 (mvT hZ3 (hw _ (List.mem_of_getElem? (i := 43) rfl))) (mvT hZ3 (hw _ (List.mem_of_getElem? (i := 44) rfl))) (notFace_of_selects (args := #[]) (mvT hZ3 (hw _ (List.mem_of_getElem? (i := 46) rfl)))) (mvT hZ3 (hw _ (List.mem_of_getElem? (i := 46) rfl))) (mvT hZ3 (hw _ (List.mem_of_getElem? (i := 45) rfl))) (by decide) (backOf (W := 0) (rmZ2 l Z a0 hw [] oa ot kt b0 b1 h3 n0 sz3 Voa__3 Aoa__3) hZ3 (hw _ (List.mem_of_getElem? (i := 47) rfl)) (hw _ (List.mem_of_getElem? (i := 7) rfl)) (by decide) (by decide)) q5a q5c (g := (mkF m 19 #[.val (.ref oa)] [(.ref oa)])) rfl (by rw [hml]; rfl) (Steps.refl _) (argsL := []) (rest := []) (lenOf pdF2_1 rfl) rfl (by show 2 * 0 + _ ≤ _; exact Nat.le_of_eq rfl) (hb hby dF2_19) (fun _ _ => ⟨rfl, e4, (by decide : 0 + 2 + 2 + 0 ≤ _), (by decide : 0 + (4 + 4) + (4 + 4) + 0 ≤ _)⟩)
  dsimp only [Pt.U, Pt.locs, Pt.cells, Pt.slots] at X5 l5 y5 z5 st5 hQ5
  subst l5 y5 z5
  obtain ⟨rfl, Nq5, e5⟩ := hQ5
  have N5 := Fr.app N4 Nq5
  refine own_go (fun t k => st5.trans k) ?_
  show own_Go p e below _ (T5.setTop (mkF m 22 #[.val (.ref oa)] [(.int (0 : Int32))]))
  refine own_go (fun t k => XS.ifYes X5.here hx rfl (pc0 := 22) (pc' := 29) rfl (hb hby dF2_22) rfl ((if0 _ _).trans (teq (by decide : (0 : Int32) = (0 : Int32))).1) (by decide) (by decide) k) ?_
  show own_Go p e below _ (T5.setTop (mkF m 29 #[.val (.ref oa)] []))
  refine own_go (fun t k => XS.iconst X5.here hx rfl (hb hby dF2_29) k) ?_
  show own_Go p e below _ (T5.setTop (mkF m 30 #[.val (.ref oa)] [(.int (0 : Int32))]))
  have hF : CHr Z own_EL s.vm s.heap T5.vm T5.heap := by rw [hh, e5]; exact hR3.trans (CHv.at X5 hZ3 hEL hD3)
  exact own_retNH X5 hx (t := .boolean) Bd.returns (by simp) (hb hby dF2_30) hS3 (by rw [e5]; exact hk3) (by rw [e5]; exact ⟨by simp [nar], N5, KP3⟩) (hF) (by decide) (by decide)
theorem dM3_0 : decode jdk_43_method_13_code 0 = .ok (.aload_n 0, 1) := by decide +kernel
theorem dM3_1 : decode jdk_43_method_13_code 1 = .ok (.arraylength, 1) := by decide +kernel
theorem dM3_2 : decode jdk_43_method_13_code 2 = .ok (.aload_n 1, 1) := by decide +kernel
theorem dM3_3 : decode jdk_43_method_13_code 3 = .ok (.arraylength, 1) := by decide +kernel
theorem dM3_4 : decode jdk_43_method_13_code 4 = .ok (.if_icmp .ne 30, 3) := by decide +kernel
theorem dM3_34 : decode jdk_43_method_13_code 34 = .ok (.iconst 0, 1) := by decide +kernel
theorem dM3_35 : decode jdk_43_method_13_code 35 = .ok (.ireturn, 1) := by decide +kernel
theorem pnM3 : plainName "java/lang/StringLatin1" = true := by first | (simp [plainName, overriddenIn]; done) | decide +kernel
theorem efM3 (m : MethodId) (x0 : Addr) (x1 : Addr) : entryFrame m #[(.ref x0), (.ref x1)] 3 = mkF m 0 #[.val (.ref x0), .val (.ref x1), .unset] [] := by first | (simp [entryFrame, mkF, argsToLocals, Value.category]; done) | rfl
set_option maxRecDepth 65536 in
set_option maxHeartbeats 40000000 in
theorem rmM3 (l : Launch) (Z : State) (a0 : Array Value) (hw : ∀ d ∈ tables_1, d.before a0 Z = true) (ws : List Jvm.Cond) (ot ou : Addr) (kt ku : ClassId) (b0 : Int32) (b1 : Int32) (b2 : Int32) (y : Int32) (h0 : Heap) (n0 : Nat) (Z0 : n0 ≤ h0.size) (At : Arv Z h0 ot kt .byte (3 : Int32) [.int b0, .int b1, .int b2] (.int (0 : Int32))) (Au : Arv Z h0 ou ku .byte (1 : Int32) [.int y] (.int (0 : Int32))) :
    MetFree l (⟨"java/lang/StringLatin1", "equals", "([B[B)Z"⟩ : MethodName) (head1 (Jvm.Cond.code (⟨"java/lang/StringLatin1", "equals", "([B[B)Z"⟩ : MethodName) jdk_43_method_13_code 3 (some .boolean) :: ws) ({ frames := 0, cells := 0, slots := 0, locals := 0 } : Room)) (fun a U => a = #[(.ref ot), (.ref ou)] ∧ Z.Warmed39 U.vm ∧ U.heap = h0) (fun _ _ _ _ _ => True) (fun _ U o U' => ∃ v L, o = .returned v ∧ own_QI (0 : Int32) h0 n0 v U'.heap L ∧ FrameEnd U o U' L ({ frames := 0, cells := 0, slots := 0, locals := 0 } : Room).cells ({ frames := 0, cells := 0, slots := 0, locals := 0 } : Room).slots) := by
  refine MetFree.of_bodySF (plainFor_of_name pnM3) hisR ?_
  intro p e s m args below meth c s₁ Bd hml0 hP hK
  obtain ⟨rfl, hZ, hh⟩ := hP
  have hx := Bd.exec
  have hby := Bd.bytes
  have hml : c.maxLocals = 3 := hml0
  have hown : s.vm.findClass "java/lang/StringLatin1" = some m.cls := findClass_of_methodNamed Bd.named
  have hnm := (name_of_methodNamed Bd.named Bd.method).1
  have hlk : meth.locks = false := Bd.notSynchronized
  have X0 : Stand p l e ({ frames := 0, cells := 0, slots := 0, locals := 0 } : Room) s m #[(.ref ot), (.ref ou)] below meth c s₁ [] 0 0 := Stand.of_body Bd
  have e0 : s₁.heap = h0 := by rw [← hh, Bd.state]; rfl
  have N0 := Fr.nil n0
  refine own_go (fun t k => castTop (efM3 m ot ou) k) ?_
  show own_Go p e below _ (s₁.setTop (mkF m 0 #[.val (.ref ot), .val (.ref ou), .unset] []))
  refine own_go (fun t k => XS.aloadN X0.here hx rfl (hb hby dM3_0) rfl rfl k) ?_
  show own_Go p e below _ (s₁.setTop (mkF m 1 #[.val (.ref ot), .val (.ref ou), .unset] [(.ref ot)]))
  obtain ⟨cl1, Ar1, -, Sa1, Na1, -, -⟩ := id At
  have ln1 := len_of Sa1 Na1
  refine own_go (fun t k => X0.arraylength hx (by rw [e0]; exact Ar1.1) (State.isArrayOf_alike hZ.alike Ar1.2.1) (g := (mkF m 1 #[.val (.ref ot), .val (.ref ou), .unset] [(.ref ot)])) rfl rfl (hb hby dM3_1) t (by rw [ln1]; exact k)) ?_
  show own_Go p e below _ (s₁.setTop (mkF m 2 #[.val (.ref ot), .val (.ref ou), .unset] [(.int (3 : Int32))]))
  refine own_go (fun t k => XS.aloadN X0.here hx rfl (hb hby dM3_2) rfl rfl k) ?_
  show own_Go p e below _ (s₁.setTop (mkF m 3 #[.val (.ref ot), .val (.ref ou), .unset] [(.ref ou), (.int (3 : Int32))]))
  obtain ⟨cl2, Ar2, -, Sa2, Na2, -, -⟩ := id Au
  have ln2 := len_of Sa2 Na2
  refine own_go (fun t k => X0.arraylength hx (by rw [e0]; exact Ar2.1) (State.isArrayOf_alike hZ.alike Ar2.2.1) (g := (mkF m 3 #[.val (.ref ot), .val (.ref ou), .unset] [(.ref ou), (.int (3 : Int32))])) rfl rfl (hb hby dM3_3) t (by rw [ln2]; exact k)) ?_
  show own_Go p e below _ (s₁.setTop (mkF m 4 #[.val (.ref ot), .val (.ref ou), .unset] [(.int (1 : Int32)), (.int (3 : Int32))]))
  refine own_go (fun t k => XS.icmpYes X0.here hx rfl (pc0 := 4) (pc' := 34) rfl (hb hby dM3_4) rfl (feq (by decide : ¬ ((3 : Int32) = (1 : Int32)))).2 (by decide) (by decide) k) ?_
  show own_Go p e below _ (s₁.setTop (mkF m 34 #[.val (.ref ot), .val (.ref ou), .unset] []))
  refine own_go (fun t k => XS.iconst X0.here hx rfl (hb hby dM3_34) k) ?_
  show own_Go p e below _ (s₁.setTop (mkF m 35 #[.val (.ref ot), .val (.ref ou), .unset] [(.int (0 : Int32))]))
  exact own_retN X0 hx (t := .boolean) Bd.returns (by simp) (hb hby dM3_35) (by rw [e0]; exact ⟨by simp [nar], N0, rfl⟩) (by decide) (by decide)
theorem dQ3_0 : decode jdk_42_method_66_code 0 = .ok (.aload_n 0, 1) := by decide +kernel
theorem dQ3_1 : decode jdk_42_method_66_code 1 = .ok (.aload_n 1, 1) := by decide +kernel
theorem dQ3_2 : decode jdk_42_method_66_code 2 = .ok (.if_acmp .ne 5, 3) := by decide +kernel
theorem dQ3_7 : decode jdk_42_method_66_code 7 = .ok (.aload_n 1, 1) := by decide +kernel
theorem dQ3_8 : decode jdk_42_method_66_code 8 = .ok (.instanceof 10, 3) := by decide +kernel
theorem dQ3_11 : decode jdk_42_method_66_code 11 = .ok (.ifCond .eq 43, 3) := by decide +kernel
theorem dQ3_14 : decode jdk_42_method_66_code 14 = .ok (.aload_n 1, 1) := by decide +kernel
theorem dQ3_15 : decode jdk_42_method_66_code 15 = .ok (.checkcast 10, 3) := by decide +kernel
theorem dQ3_18 : decode jdk_42_method_66_code 18 = .ok (.astore_n 2, 1) := by decide +kernel
theorem dQ3_19 : decode jdk_42_method_66_code 19 = .ok (.getstatic 38, 3) := by decide +kernel
theorem dQ3_22 : decode jdk_42_method_66_code 22 = .ok (.ifCond .eq 14, 3) := by decide +kernel
theorem dQ3_25 : decode jdk_42_method_66_code 25 = .ok (.aload_n 0, 1) := by decide +kernel
theorem dQ3_26 : decode jdk_42_method_66_code 26 = .ok (.getfield 15, 3) := by decide +kernel
theorem dQ3_29 : decode jdk_42_method_66_code 29 = .ok (.aload_n 2, 1) := by decide +kernel
theorem dQ3_30 : decode jdk_42_method_66_code 30 = .ok (.getfield 15, 3) := by decide +kernel
theorem dQ3_33 : decode jdk_42_method_66_code 33 = .ok (.if_icmp .ne 21, 3) := by decide +kernel
theorem dQ3_36 : decode jdk_42_method_66_code 36 = .ok (.aload_n 0, 1) := by decide +kernel
theorem dQ3_37 : decode jdk_42_method_66_code 37 = .ok (.getfield 9, 3) := by decide +kernel
theorem dQ3_40 : decode jdk_42_method_66_code 40 = .ok (.aload_n 2, 1) := by decide +kernel
theorem dQ3_41 : decode jdk_42_method_66_code 41 = .ok (.getfield 9, 3) := by decide +kernel
theorem dQ3_44 : decode jdk_42_method_66_code 44 = .ok (.invokestatic 541, 3) := by decide +kernel
theorem dQ3_47 : decode jdk_42_method_66_code 47 = .ok (.ifCond .eq 7, 3) := by decide +kernel
theorem dQ3_54 : decode jdk_42_method_66_code 54 = .ok (.iconst 0, 1) := by decide +kernel
theorem dQ3_55 : decode jdk_42_method_66_code 55 = .ok (.ireturn, 1) := by decide +kernel
theorem pnQ3 : plainName "java/lang/String" = true := by first | (simp [plainName, overriddenIn]; done) | decide +kernel
theorem pdQ3_0 : parseMethodDescriptor "([B[B)Z" = some ⟨[(.array .byte), (.array .byte)], some .boolean⟩ := by decide +kernel
theorem efQ3 (m : MethodId) (x0 : Addr) (x1 : Addr) : entryFrame m #[(.ref x0), (.ref x1)] 3 = mkF m 0 #[.val (.ref x0), .val (.ref x1), .unset] [] := by first | (simp [entryFrame, mkF, argsToLocals, Value.category]; done) | rfl
set_option maxRecDepth 65536 in
set_option maxHeartbeats 40000000 in
theorem rmQ3 (l : Launch) (Z : State) (a0 : Array Value) (hw : ∀ d ∈ tables_1, d.before a0 Z = true) (ws : List Jvm.Cond) (oa ob ot ou : Addr) (kt ku : ClassId) (b0 : Int32) (b1 : Int32) (b2 : Int32) (y cs : Int32) (h0 : Heap) (n0 : Nat) (Z0 : n0 ≤ h0.size) (SC : Sta Z Z.heap "java/lang/String" "COMPACT_STRINGS" "Z" (.int cs)) (hcs : ¬ cs = 0) (XO : Old Z n0 h0) (ne_ab : oa ≠ ob) (Eoa : Exa Z h0 oa "java/lang/String") (Coa : Fld Z h0 oa "java/lang/String" "coder" "B" (.int (0 : Int32))) (Voa : Fld Z h0 oa "java/lang/String" "value" "[B" (.ref ot)) (Aoa : Arv Z h0 ot kt .byte (3 : Int32) [.int b0, .int b1, .int b2] (.int (0 : Int32))) (Eob : Exa Z h0 ob "java/lang/String") (Cob : Fld Z h0 ob "java/lang/String" "coder" "B" (.int (0 : Int32))) (Vob : Fld Z h0 ob "java/lang/String" "value" "[B" (.ref ou)) (Aob : Arv Z h0 ou ku .byte (1 : Int32) [.int y] (.int (0 : Int32))) :
    MetFree l (⟨"java/lang/String", "equals", "(Ljava/lang/Object;)Z"⟩ : MethodName) (head1 (Jvm.Cond.code (⟨"java/lang/String", "equals", "(Ljava/lang/Object;)Z"⟩ : MethodName) jdk_42_method_66_code 3 (some .boolean) :: ws) ({ frames := 1, cells := 0, slots := 0, locals := 14 } : Room)) (fun a U => a = #[(.ref oa), (.ref ob)] ∧ Z.Warmed39 U.vm ∧ U.heap = h0) (fun _ _ _ _ _ => True) (fun _ U o U' => ∃ v L, o = .returned v ∧ own_QI (0 : Int32) h0 n0 v U'.heap L ∧ FrameEnd U o U' L ({ frames := 1, cells := 0, slots := 0, locals := 14 } : Room).cells ({ frames := 1, cells := 0, slots := 0, locals := 14 } : Room).slots) := by
  refine MetFree.of_bodySF (plainFor_of_name pnQ3) hisR ?_
  intro p e s m args below meth c s₁ Bd hml0 hP hK
  obtain ⟨rfl, hZ, hh⟩ := hP
  have hx := Bd.exec
  have hby := Bd.bytes
  have hml : c.maxLocals = 3 := hml0
  have hown : s.vm.findClass "java/lang/String" = some m.cls := findClass_of_methodNamed Bd.named
  have hnm := (name_of_methodNamed Bd.named Bd.method).1
  have hlk : meth.locks = false := Bd.notSynchronized
  have X0 : Stand p l e ({ frames := 1, cells := 0, slots := 0, locals := 14 } : Room) s m #[(.ref oa), (.ref ob)] below meth c s₁ [] 0 0 := Stand.of_body Bd
  have e0 : s₁.heap = h0 := by rw [← hh, Bd.state]; rfl
  have N0 := Fr.nil n0
  refine own_go (fun t k => castTop (efQ3 m oa ob) k) ?_
  show own_Go p e below _ (s₁.setTop (mkF m 0 #[.val (.ref oa), .val (.ref ob), .unset] []))
  refine own_go (fun t k => XS.aloadN X0.here hx rfl (hb hby dQ3_0) rfl rfl k) ?_
  show own_Go p e below _ (s₁.setTop (mkF m 1 #[.val (.ref oa), .val (.ref ob), .unset] [(.ref oa)]))
  refine own_go (fun t k => XS.aloadN X0.here hx rfl (hb hby dQ3_1) rfl rfl k) ?_
  show own_Go p e below _ (s₁.setTop (mkF m 2 #[.val (.ref oa), .val (.ref ob), .unset] [(.ref ob), (.ref oa)]))
  refine own_go (fun t k => Jvm.RoadKit.acmp (g := (mkF m 2 #[.val (.ref oa), .val (.ref ob), .unset] [(.ref ob), (.ref oa)])) X0 hx rfl rfl rfl (pc0 := 2) (pc' := 7) (same := false) rfl (hb hby dQ3_2) rfl (decide_eq_false (fun q => ne_ab (Value.ref.inj q))) (by decide) (by decide) k) ?_
  show own_Go p e below _ (s₁.setTop (mkF m 7 #[.val (.ref oa), .val (.ref ob), .unset] []))
  refine own_go (fun t k => XS.aloadN X0.here hx rfl (hb hby dQ3_7) rfl rfl k) ?_
  show own_Go p e below _ (s₁.setTop (mkF m 8 #[.val (.ref oa), .val (.ref ob), .unset] [(.ref ob)]))
  obtain ⟨T1, X1, e1, st1⟩ := instY X0 hx hZ hown (hw _ (List.mem_of_getElem? (i := 36) rfl)) e0 (Ins.self Eob) (g := (mkF m 8 #[.val (.ref oa), .val (.ref ob), .unset] [(.ref ob)])) rfl rfl (hb hby dQ3_8)
  refine own_go (fun t k => st1 t k) ?_
  show own_Go p e below _ (T1.setTop (mkF m 11 #[.val (.ref oa), .val (.ref ob), .unset] [(.int (1 : Int32))]))
  refine own_go (fun t k => XS.ifNo X1.here hx rfl (hb hby dQ3_11) rfl ((if0 _ _).trans (feq (by decide : ¬ ((1 : Int32) = (0 : Int32)))).1) k) ?_
  show own_Go p e below _ (T1.setTop (mkF m 14 #[.val (.ref oa), .val (.ref ob), .unset] []))
  refine own_go (fun t k => XS.aloadN X1.here hx rfl (hb hby dQ3_14) rfl rfl k) ?_
  show own_Go p e below _ (T1.setTop (mkF m 15 #[.val (.ref oa), .val (.ref ob), .unset] [(.ref ob)]))
  obtain ⟨T2, X2, e2, st2⟩ := castY X1 hx hZ hown (hw _ (List.mem_of_getElem? (i := 36) rfl)) e1 (Ins.self Eob) (g := (mkF m 15 #[.val (.ref oa), .val (.ref ob), .unset] [(.ref ob)])) rfl rfl (hb hby dQ3_15)
  refine own_go (fun t k => st2 t k) ?_
  show own_Go p e below _ (T2.setTop (mkF m 18 #[.val (.ref oa), .val (.ref ob), .unset] [(.ref ob)]))
  refine own_go (fun t k => XS.astoreN X2.here hx rfl (hb hby dQ3_18) rfl rfl (l' := #[.val (.ref oa), .val (.ref ob), .val (.ref ob)]) rfl k) ?_
  show own_Go p e below _ (T2.setTop (mkF m 19 #[.val (.ref oa), .val (.ref ob), .val (.ref ob)] []))
  obtain ⟨T3, X3, e3, st3⟩ := getS2 X2 hx hZ hown (host := "") (Or.inl (hw _ (List.mem_of_getElem? (i := 37) rfl))) Via.refl e2 (SC.ext XO.2) (g := (mkF m 19 #[.val (.ref oa), .val (.ref ob), .val (.ref ob)] [])) rfl (hb hby dQ3_19)
  refine own_go (fun t k => st3 t k) ?_
  show own_Go p e below _ (T3.setTop (mkF m 22 #[.val (.ref oa), .val (.ref ob), .val (.ref ob)] [(.int cs)]))
  refine own_go (fun t k => XS.ifNo X3.here hx rfl (hb hby dQ3_22) rfl ((if0 _ _).trans (feq hcs).1) k) ?_
  show own_Go p e below _ (T3.setTop (mkF m 25 #[.val (.ref oa), .val (.ref ob), .val (.ref ob)] []))
  refine own_go (fun t k => XS.aloadN X3.here hx rfl (hb hby dQ3_25) rfl rfl k) ?_
  show own_Go p e below _ (T3.setTop (mkF m 26 #[.val (.ref oa), .val (.ref ob), .val (.ref ob)] [(.ref oa)]))
  obtain ⟨T4, X4, e4, st4⟩ := getF X3 hx hZ hown (host := "") (Or.inl (hw _ (List.mem_of_getElem? (i := 25) rfl))) Via.refl e3 Coa (g := (mkF m 26 #[.val (.ref oa), .val (.ref ob), .val (.ref ob)] [(.ref oa)])) rfl rfl (hb hby dQ3_26)
  refine own_go (fun t k => st4 t k) ?_
  show own_Go p e below _ (T4.setTop (mkF m 29 #[.val (.ref oa), .val (.ref ob), .val (.ref ob)] [(.int (0 : Int32))]))
  refine own_go (fun t k => XS.aloadN X4.here hx rfl (hb hby dQ3_29) rfl rfl k) ?_
  show own_Go p e below _ (T4.setTop (mkF m 30 #[.val (.ref oa), .val (.ref ob), .val (.ref ob)] [(.ref ob), (.int (0 : Int32))]))
  obtain ⟨T5, X5, e5, st5⟩ := getF X4 hx hZ hown (host := "") (Or.inl (hw _ (List.mem_of_getElem? (i := 25) rfl))) Via.refl e4 Cob (g := (mkF m 30 #[.val (.ref oa), .val (.ref ob), .val (.ref ob)] [(.ref ob), (.int (0 : Int32))])) rfl rfl (hb hby dQ3_30)
  refine own_go (fun t k => st5 t k) ?_
  show own_Go p e below _ (T5.setTop (mkF m 33 #[.val (.ref oa), .val (.ref ob), .val (.ref ob)] [(.int (0 : Int32)), (.int (0 : Int32))]))
  refine own_go (fun t k => XS.icmpNo X5.here hx rfl (hb hby dQ3_33) rfl (teq (by decide : (0 : Int32) = (0 : Int32))).2 k) ?_
  show own_Go p e below _ (T5.setTop (mkF m 36 #[.val (.ref oa), .val (.ref ob), .val (.ref ob)] []))
  refine own_go (fun t k => XS.aloadN X5.here hx rfl (hb hby dQ3_36) rfl rfl k) ?_
  show own_Go p e below _ (T5.setTop (mkF m 37 #[.val (.ref oa), .val (.ref ob), .val (.ref ob)] [(.ref oa)]))
  obtain ⟨T6, X6, e6, st6⟩ := getF X5 hx hZ hown (host := "") (Or.inl (hw _ (List.mem_of_getElem? (i := 24) rfl))) Via.refl e5 Voa (g := (mkF m 37 #[.val (.ref oa), .val (.ref ob), .val (.ref ob)] [(.ref oa)])) rfl rfl (hb hby dQ3_37)
  refine own_go (fun t k => st6 t k) ?_
  show own_Go p e below _ (T6.setTop (mkF m 40 #[.val (.ref oa), .val (.ref ob), .val (.ref ob)] [(.ref ot)]))
  refine own_go (fun t k => XS.aloadN X6.here hx rfl (hb hby dQ3_40) rfl rfl k) ?_
  show own_Go p e below _ (T6.setTop (mkF m 41 #[.val (.ref oa), .val (.ref ob), .val (.ref ob)] [(.ref ob), (.ref ot)]))
  obtain ⟨T7, X7, e7, st7⟩ := getF X6 hx hZ hown (host := "") (Or.inl (hw _ (List.mem_of_getElem? (i := 24) rfl))) Via.refl e6 Vob (g := (mkF m 41 #[.val (.ref oa), .val (.ref ob), .val (.ref ob)] [(.ref ob), (.ref ot)])) rfl rfl (hb hby dQ3_41)
  refine own_go (fun t k => st7 t k) ?_
  show own_Go p e below _ (T7.setTop (mkF m 44 #[.val (.ref oa), .val (.ref ob), .val (.ref ob)] [(.ref ou), (.ref ot)]))
  obtain ⟨_, _, ⟨T8, L8, k8, n8⟩, -, X8, ⟨Lc8, hQ8, l8, y8, z8⟩, st8⟩ := Jvm.LawKit.callS X7 hx (y := (⟨"java/lang/StringLatin1", "equals", "([B[B)Z"⟩ : MethodName)) hown (mvT hZ (hw _ (List.mem_of_getElem? (i := 38) rfl))) (mvT hZ (hw _ (List.mem_of_getElem? (i := 39) rfl))) (mvT hZ (hw _ (List.mem_of_getElem? (i := 40) rfl))) (mvT hZ (hw _ (List.mem_of_getElem? (i := 41) rfl))) (by decide) (backOf (W := 0) (rmM3 l Z a0 hw [] ot ou kt ku b0 b1 b2 y h0 n0 Z0 Aoa Aob) hZ (hw _ (List.mem_of_getElem? (i := 41) rfl)) (hw _ (List.mem_of_getElem? (i := 40) rfl)) (by decide) (by decide)) (g := (mkF m 44 #[.val (.ref oa), .val (.ref ob), .val (.ref ob)] [(.ref ou), (.ref ot)])) rfl (by rw [hml]; rfl) (argsL := [(.ref ot), (.ref ou)]) (rest := []) (lenOf pdQ3_0 rfl) rfl (by show 2 * 0 + _ ≤ _; exact Nat.le_of_eq rfl) (hb hby dQ3_44) (fun _ _ => ⟨rfl, e7, (by decide : 0 + 0 ≤ _), (by decide : 0 + 0 ≤ _)⟩)
  dsimp only [Pt.U, Pt.locs, Pt.cells, Pt.slots] at X8 l8 y8 z8 st8 hQ8
  subst l8 y8 z8
  obtain ⟨rfl, Nq8, e8⟩ := hQ8
  have N8 := Fr.app N0 Nq8
  refine own_go (fun t k => st8 t k) ?_
  show own_Go p e below _ (T8.setTop (mkF m 47 #[.val (.ref oa), .val (.ref ob), .val (.ref ob)] [(.int (0 : Int32))]))
  refine own_go (fun t k => XS.ifYes X8.here hx rfl (pc0 := 47) (pc' := 54) rfl (hb hby dQ3_47) rfl ((if0 _ _).trans (teq (by decide : (0 : Int32) = (0 : Int32))).1) (by decide) (by decide) k) ?_
  show own_Go p e below _ (T8.setTop (mkF m 54 #[.val (.ref oa), .val (.ref ob), .val (.ref ob)] []))
  refine own_go (fun t k => XS.iconst X8.here hx rfl (hb hby dQ3_54) k) ?_
  show own_Go p e below _ (T8.setTop (mkF m 55 #[.val (.ref oa), .val (.ref ob), .val (.ref ob)] [(.int (0 : Int32))]))
  exact own_retN X8 hx (t := .boolean) Bd.returns (by simp) (hb hby dQ3_55) (by rw [e8]; exact ⟨by simp [nar], N8, rfl⟩) (by decide) (by decide)
theorem dZ3_0 : decode jdk_42_method_55_code 0 = .ok (.aload_n 0, 1) := by decide +kernel
theorem dZ3_1 : decode jdk_42_method_55_code 1 = .ok (.getfield 9, 3) := by decide +kernel
theorem dZ3_4 : decode jdk_42_method_55_code 4 = .ok (.arraylength, 1) := by decide +kernel
theorem dZ3_5 : decode jdk_42_method_55_code 5 = .ok (.ifCond .ne 7, 3) := by decide +kernel
theorem dZ3_12 : decode jdk_42_method_55_code 12 = .ok (.iconst 0, 1) := by decide +kernel
theorem dZ3_13 : decode jdk_42_method_55_code 13 = .ok (.ireturn, 1) := by decide +kernel
theorem pnZ3 : plainName "java/lang/String" = true := by first | (simp [plainName, overriddenIn]; done) | decide +kernel
theorem efZ3 (m : MethodId) (x0 : Addr) : entryFrame m #[(.ref x0)] 1 = mkF m 0 #[.val (.ref x0)] [] := by first | (simp [entryFrame, mkF, argsToLocals, Value.category]; done) | rfl
set_option maxRecDepth 65536 in
set_option maxHeartbeats 40000000 in
theorem rmZ3 (l : Launch) (Z : State) (a0 : Array Value) (hw : ∀ d ∈ tables_1, d.before a0 Z = true) (ws : List Jvm.Cond) (oa ot : Addr) (kt : ClassId) (b0 : Int32) (b1 : Int32) (b2 : Int32) (h0 : Heap) (n0 : Nat) (Z0 : n0 ≤ h0.size) (V_ : Fld Z h0 oa "java/lang/String" "value" "[B" (.ref ot)) (A_ : Arv Z h0 ot kt .byte (3 : Int32) [.int b0, .int b1, .int b2] (.int (0 : Int32))) :
    MetFree l (⟨"java/lang/String", "isEmpty", "()Z"⟩ : MethodName) (head1 (Jvm.Cond.code (⟨"java/lang/String", "isEmpty", "()Z"⟩ : MethodName) jdk_42_method_55_code 1 (some .boolean) :: ws) ({ frames := 0, cells := 0, slots := 0, locals := 0 } : Room)) (fun a U => a = #[(.ref oa)] ∧ Z.Warmed39 U.vm ∧ U.heap = h0) (fun _ _ _ _ _ => True) (fun _ U o U' => ∃ v L, o = .returned v ∧ own_QI (0 : Int32) h0 n0 v U'.heap L ∧ FrameEnd U o U' L ({ frames := 0, cells := 0, slots := 0, locals := 0 } : Room).cells ({ frames := 0, cells := 0, slots := 0, locals := 0 } : Room).slots) := by
  refine MetFree.of_bodySF (plainFor_of_name pnZ3) hisR ?_
  intro p e s m args below meth c s₁ Bd hml0 hP hK
  obtain ⟨rfl, hZ, hh⟩ := hP
  have hx := Bd.exec
  have hby := Bd.bytes
  have hml : c.maxLocals = 1 := hml0
  have hown : s.vm.findClass "java/lang/String" = some m.cls := findClass_of_methodNamed Bd.named
  have hnm := (name_of_methodNamed Bd.named Bd.method).1
  have hlk : meth.locks = false := Bd.notSynchronized
  have X0 : Stand p l e ({ frames := 0, cells := 0, slots := 0, locals := 0 } : Room) s m #[(.ref oa)] below meth c s₁ [] 0 0 := Stand.of_body Bd
  have e0 : s₁.heap = h0 := by rw [← hh, Bd.state]; rfl
  have N0 := Fr.nil n0
  refine own_go (fun t k => castTop (efZ3 m oa) k) ?_
  show own_Go p e below _ (s₁.setTop (mkF m 0 #[.val (.ref oa)] []))
  refine own_go (fun t k => XS.aloadN X0.here hx rfl (hb hby dZ3_0) rfl rfl k) ?_
  show own_Go p e below _ (s₁.setTop (mkF m 1 #[.val (.ref oa)] [(.ref oa)]))
  obtain ⟨T1, X1, e1, st1⟩ := getF X0 hx hZ hown (host := "") (Or.inl (hw _ (List.mem_of_getElem? (i := 24) rfl))) Via.refl e0 V_ (g := (mkF m 1 #[.val (.ref oa)] [(.ref oa)])) rfl rfl (hb hby dZ3_1)
  refine own_go (fun t k => st1 t k) ?_
  show own_Go p e below _ (T1.setTop (mkF m 4 #[.val (.ref oa)] [(.ref ot)]))
  obtain ⟨cl2, Ar2, -, Sa2, Na2, -, -⟩ := id A_
  have ln2 := len_of Sa2 Na2
  refine own_go (fun t k => X1.arraylength hx (by rw [e1]; exact Ar2.1) (State.isArrayOf_alike hZ.alike Ar2.2.1) (g := (mkF m 4 #[.val (.ref oa)] [(.ref ot)])) rfl rfl (hb hby dZ3_4) t (by rw [ln2]; exact k)) ?_
  show own_Go p e below _ (T1.setTop (mkF m 5 #[.val (.ref oa)] [(.int (3 : Int32))]))
  refine own_go (fun t k => XS.ifYes X1.here hx rfl (pc0 := 5) (pc' := 12) rfl (hb hby dZ3_5) rfl ((if0 _ _).trans (feq (by decide : ¬ ((3 : Int32) = (0 : Int32)))).2) (by decide) (by decide) k) ?_
  show own_Go p e below _ (T1.setTop (mkF m 12 #[.val (.ref oa)] []))
  refine own_go (fun t k => XS.iconst X1.here hx rfl (hb hby dZ3_12) k) ?_
  show own_Go p e below _ (T1.setTop (mkF m 13 #[.val (.ref oa)] [(.int (0 : Int32))]))
  exact own_retN X1 hx (t := .boolean) Bd.returns (by simp) (hb hby dZ3_13) (by rw [e1]; exact ⟨rfl, N0, rfl⟩) (by decide) (by decide)
theorem dF3_0 : decode prog_25_method_3_code 0 = .ok (.aload_n 0, 1) := by decide +kernel
theorem dF3_1 : decode prog_25_method_3_code 1 = .ok (.ldc 63, 2) := by decide +kernel
theorem dF3_3 : decode prog_25_method_3_code 3 = .ok (.invokevirtual 65, 3) := by decide +kernel
theorem dF3_6 : decode prog_25_method_3_code 6 = .ok (.ifCond .ne 19, 3) := by decide +kernel
theorem dF3_9 : decode prog_25_method_3_code 9 = .ok (.aload_n 0, 1) := by decide +kernel
theorem dF3_10 : decode prog_25_method_3_code 10 = .ok (.ldc 71, 2) := by decide +kernel
theorem dF3_12 : decode prog_25_method_3_code 12 = .ok (.invokevirtual 65, 3) := by decide +kernel
theorem dF3_15 : decode prog_25_method_3_code 15 = .ok (.ifCond .ne 10, 3) := by decide +kernel
theorem dF3_18 : decode prog_25_method_3_code 18 = .ok (.aload_n 0, 1) := by decide +kernel
theorem dF3_19 : decode prog_25_method_3_code 19 = .ok (.invokevirtual 73, 3) := by decide +kernel
theorem dF3_22 : decode prog_25_method_3_code 22 = .ok (.ifCond .eq 7, 3) := by decide +kernel
theorem dF3_29 : decode prog_25_method_3_code 29 = .ok (.iconst 0, 1) := by decide +kernel
theorem dF3_30 : decode prog_25_method_3_code 30 = .ok (.ireturn, 1) := by decide +kernel
theorem pnF3 : plainName "com/example/counterledger/counterledger/OpenItem" = true := by first | (simp [plainName, overriddenIn]; done) | decide +kernel
theorem pdF3_0 : parseMethodDescriptor "(Ljava/lang/Object;)Z" = some ⟨[(.object "java/lang/Object")], some .boolean⟩ := by decide +kernel
theorem pdF3_1 : parseMethodDescriptor "()Z" = some ⟨[], some .boolean⟩ := by decide +kernel
theorem efF3 (m : MethodId) (x0 : Addr) : entryFrame m #[(.ref x0)] 1 = mkF m 0 #[.val (.ref x0)] [] := by first | (simp [entryFrame, mkF, argsToLocals, Value.category]; done) | rfl
set_option maxRecDepth 65536 in
set_option maxHeartbeats 40000000 in
theorem rmF3 (l : Launch) (Z : State) (a0 : Array Value) (hw : ∀ d ∈ tables_1, d.before a0 Z = true) (ws : List Jvm.Cond) (oa ot : Addr) (kt : ClassId) (cs : Int32) (b0 : Int32) (b1 : Int32) (b2 : Int32) (h0 : Heap) (n0 : Nat) (Z0 : n0 ≤ h0.size) (SC : Sta Z Z.heap "java/lang/String" "COMPACT_STRINGS" "Z" (.int cs)) (hcs : ¬ cs = 0) (XO : Old Z n0 h0) (Eoa : Exa Z h0 oa "java/lang/String") (Coa : Fld Z h0 oa "java/lang/String" "coder" "B" (.int (0 : Int32))) (Voa : Fld Z h0 oa "java/lang/String" "value" "[B" (.ref ot)) (Aoa : Arv Z h0 ot kt .byte (3 : Int32) [.int b0, .int b1, .int b2] (.int (0 : Int32))) :
    MetFree l (⟨"com/example/counterledger/counterledger/OpenItem", "isFlag", "(Ljava/lang/String;)Z"⟩ : MethodName) (head1 (Jvm.Cond.code (⟨"com/example/counterledger/counterledger/OpenItem", "isFlag", "(Ljava/lang/String;)Z"⟩ : MethodName) prog_25_method_3_code 1 (some .boolean) :: ws) ({ frames := 2, cells := 4, slots := 16, locals := 28 } : Room)) (fun a U => a = #[(.ref oa)] ∧ Z.Warmed39 U.vm ∧ U.heap = h0 ∧ CHv Z own_EL U.vm h0 ∧ ∀ x ∈ ([oa] : List Addr), Safe Z own_EL U.vm h0 x) (fun _ _ _ _ _ => True) (fun _ U o U' => ∃ v L, o = .returned v ∧ own_QF (0 : Int32) h0 n0 v U'.heap L ∧ CHr Z own_EL U.vm U.heap U'.vm U'.heap ∧ ReturnedEndW U o U' L ({ frames := 2, cells := 4, slots := 16, locals := 28 } : Room).cells ({ frames := 2, cells := 4, slots := 16, locals := 28 } : Room).slots) := by
  refine MetFree.of_bodySF (plainFor_of_name pnF3) hisR ?_
  intro p e s m args below meth c s₁ Bd hml0 hP hK
  obtain ⟨rfl, hZ, hh, hC0, hsf0⟩ := hP
  have hx := Bd.exec
  have hby := Bd.bytes
  have hml : c.maxLocals = 1 := hml0
  have hown : s.vm.findClass "com/example/counterledger/counterledger/OpenItem" = some m.cls := findClass_of_methodNamed Bd.named
  have hnm := (name_of_methodNamed Bd.named Bd.method).1
  have hlk : meth.locks = false := Bd.notSynchronized
  have hEL := own_ew hw
  have hR0 : CHr Z own_EL s.vm h0 s.vm h0 := CHr.refl hC0
  have Zs_oa := hsf0 oa (List.mem_of_getElem? (i := 0) rfl)
  have hS0 : s.Since s.vm 0 := (State.WarmedH.refl s).since 0
  have hk0 : 0 ≤ h0.size := Nat.zero_le _
  have X0 : Stand p l e ({ frames := 2, cells := 4, slots := 16, locals := 28 } : Room) (s.setVm s.vm) m #[(.ref oa)] below meth c s₁ [] 0 0 := Stand.of_body Bd
  have e0 : s₁.heap = h0 := by rw [← hh, Bd.state]; rfl
  have N0 := Fr.nil n0
  refine own_go (fun t k => castTop (efF3 m oa) k) ?_
  show own_Go p e below _ (s₁.setTop (mkF m 0 #[.val (.ref oa)] []))
  refine own_go (fun t k => XS.aloadN X0.here hx rfl (hb hby dF3_0) rfl rfl k) ?_
  show own_Go p e below _ (s₁.setTop (mkF m 1 #[.val (.ref oa)] [(.ref oa)]))
  obtain ⟨s1, T1, h1, j1, c1, kc1, X1, e1, E1, hS1, hk1, hZ1, hown1, Es1, Fc1, Fv1, Ab1, -, -, hC1, -, hne1, st1⟩ := ldcCH X0 hx hZ hown (hw _ (List.mem_of_getElem? (i := 30) rfl)) (own_wS hw) e0 hS0 hk0 hEL (List.mem_of_getElem? (i := 0) rfl) hC0 (vs := [(.int (89 : Int32))]) (z := (1 : Int32)) ⟨by decide, by decide +kernel⟩ (by decide) rfl (g := (mkF m 1 #[.val (.ref oa)] [(.ref oa)])) rfl (hb hby dF3_1) (n := 4) (by decide) (by decide) (by decide) (by decide)
  have XO__1 := XO.ext E1
  have Eoa__1 := Eoa.ext E1
  have Coa__1 := Coa.ext E1
  have Voa__1 := Voa.ext E1
  have Aoa__1 := Aoa.ext E1
  have Zs_oa__1 := hC1.safe Eoa.lt Zs_oa
  have hR1 := hR0.trans hC1
  have hD1 := hR1.1
  have sz1 := Nat.le_trans Z0 E1.1
  have KP1 := (Keep.refl h0 []).ext E1
  have ne_oa_s1 := (hne1 oa Zs_oa__1).1
  have ne_oa_c1 := (hne1 oa Zs_oa__1).2
  refine own_go (fun t k => st1 t k) ?_
  show own_Go p e below _ (T1.setTop (mkF m 3 #[.val (.ref oa)] [(.ref s1), (.ref oa)]))
  obtain ⟨cq2, kq2, q2a, q2b, q2c⟩ := isOf hZ1 e1 Eoa__1
  obtain ⟨_, _, ⟨T2, L2, k2, n2⟩, -, X2, ⟨Lc2, hQ2, l2, y2, z2⟩, st2⟩ := X1.virtualBack hx (y := (⟨"java/lang/String", "equals", "(Ljava/lang/Object;)Z"⟩ : MethodName)) (z := (⟨"java/lang/String", "equals", "(Ljava/lang/Object;)Z"⟩ : MethodName)) hown1 (mvT hZ1 (hw _ (List.mem_of_getElem? (i := 31) rfl))) (mvT hZ1 (hw _ (List.mem_of_getElem? (i := 32) rfl))) (notFace_of_selects (args := #[]) (mvT hZ1 (hw _ (List.mem_of_getElem? (i := 34) rfl)))) (mvT hZ1 (hw _ (List.mem_of_getElem? (i := 34) rfl))) (mvT hZ1 (hw _ (List.mem_of_getElem? (i := 33) rfl))) (by decide) (backOf (W := 0) (rmQ3 l Z a0 hw [] oa s1 ot c1 kt kc1 b0 b1 b2 (89 : Int32) cs h1 n0 sz1 SC hcs XO__1 ne_oa_s1 Eoa__1 Coa__1 Voa__1 Aoa__1 Es1 Fc1 Fv1 Ab1) hZ1 (hw _ (List.mem_of_getElem? (i := 35) rfl)) (hw _ (List.mem_of_getElem? (i := 7) rfl)) (by decide) (by decide)) q2a q2c (g := (mkF m 3 #[.val (.ref oa)] [(.ref s1), (.ref oa)])) rfl (by rw [hml]; rfl) (Steps.refl _) (argsL := [(.ref s1)]) (rest := []) (lenOf pdF3_0 rfl) rfl (by show 2 * 0 + _ ≤ _; exact Nat.le_of_eq rfl) (hb hby dF3_3) (fun _ _ => ⟨rfl, e1, (by decide : 0 + 2 + 0 ≤ _), (by decide : 0 + (4 + 4) + 0 ≤ _)⟩)
  dsimp only [Pt.U, Pt.locs, Pt.cells, Pt.slots] at X2 l2 y2 z2 st2 hQ2
  subst l2 y2 z2
  obtain ⟨rfl, Nq2, e2⟩ := hQ2
  have N2 := Fr.app N0 Nq2
  refine own_go (fun t k => st2.trans k) ?_
  show own_Go p e below _ (T2.setTop (mkF m 6 #[.val (.ref oa)] [(.int (0 : Int32))]))
  refine own_go (fun t k => XS.ifNo X2.here hx rfl (hb hby dF3_6) rfl ((if0 _ _).trans (teq (by decide : (0 : Int32) = (0 : Int32))).2) k) ?_
  show own_Go p e below _ (T2.setTop (mkF m 9 #[.val (.ref oa)] []))
  refine own_go (fun t k => XS.aloadN X2.here hx rfl (hb hby dF3_9) rfl rfl k) ?_
  show own_Go p e below _ (T2.setTop (mkF m 10 #[.val (.ref oa)] [(.ref oa)]))
  obtain ⟨s3, T3, h3, j3, c3, kc3, X3, e3, E3, hS3, hk3, hZ3, hown3, Es3, Fc3, Fv3, Ab3, -, -, hC3, -, hne3, st3⟩ := ldcCH X2 hx hZ1 hown1 (hw _ (List.mem_of_getElem? (i := 42) rfl)) (own_wS hw) e2 hS1 hk1 hEL (List.mem_of_getElem? (i := 1) rfl) hD1 (vs := [(.int (78 : Int32))]) (z := (1 : Int32)) ⟨by decide, by decide +kernel⟩ (by decide) rfl (g := (mkF m 10 #[.val (.ref oa)] [(.ref oa)])) rfl (hb hby dF3_10) (n := 4) (by decide) (by decide) (by decide) (by decide)
  have XO__3 := XO__1.ext E3
  have Eoa__3 := Eoa__1.ext E3
  have Coa__3 := Coa__1.ext E3
  have Voa__3 := Voa__1.ext E3
  have Aoa__3 := Aoa__1.ext E3
  have Es1__3 := Es1.ext E3
  have Fc1__3 := Fc1.ext E3
  have Fv1__3 := Fv1.ext E3
  have Ab1__3 := Ab1.ext E3
  have Zs_oa__3 := hC3.safe Eoa__1.lt Zs_oa__1
  have hR3 := hR1.trans hC3
  have hD3 := hR3.1
  have sz3 := Nat.le_trans sz1 E3.1
  have KP3 := KP1.ext E3
  have ne_oa_s3 := (hne3 oa Zs_oa__3).1
  have ne_oa_c3 := (hne3 oa Zs_oa__3).2
  refine own_go (fun t k => st3 t k) ?_
  show own_Go p e below _ (T3.setTop (mkF m 12 #[.val (.ref oa)] [(.ref s3), (.ref oa)]))
  obtain ⟨cq4, kq4, q4a, q4b, q4c⟩ := isOf hZ3 e3 Eoa__3
  obtain ⟨_, _, ⟨T4, L4, k4, n4⟩, -, X4, ⟨Lc4, hQ4, l4, y4, z4⟩, st4⟩ := X3.virtualBack hx (y := (⟨"java/lang/String", "equals", "(Ljava/lang/Object;)Z"⟩ : MethodName)) (z := (⟨"java/lang/String", "equals", "(Ljava/lang/Object;)Z"⟩ : MethodName)) hown3 (mvT hZ3 (hw _ (List.mem_of_getElem? (i := 31) rfl))) (mvT hZ3 (hw _ (List.mem_of_getElem? (i := 32) rfl))) (notFace_of_selects (args := #[]) (mvT hZ3 (hw _ (List.mem_of_getElem? (i := 34) rfl)))) (mvT hZ3 (hw _ (List.mem_of_getElem? (i := 34) rfl))) (mvT hZ3 (hw _ (List.mem_of_getElem? (i := 33) rfl))) (by decide) (backOf (W := 0) (rmQ3 l Z a0 hw [] oa s3 ot c3 kt kc3 b0 b1 b2 (78 : Int32) cs h3 n0 sz3 SC hcs XO__3 ne_oa_s3 Eoa__3 Coa__3 Voa__3 Aoa__3 Es3 Fc3 Fv3 Ab3) hZ3 (hw _ (List.mem_of_getElem? (i := 35) rfl)) (hw _ (List.mem_of_getElem? (i := 7) rfl)) (by decide) (by decide)) q4a q4c (g := (mkF m 12 #[.val (.ref oa)] [(.ref s3), (.ref oa)])) rfl (by rw [hml]; rfl) (Steps.refl _) (argsL := [(.ref s3)]) (rest := []) (lenOf pdF3_0 rfl) rfl (by show 2 * 0 + _ ≤ _; exact Nat.le_of_eq rfl) (hb hby dF3_12) (fun _ _ => ⟨rfl, e3, (by decide : 0 + 2 + 2 + 0 ≤ _), (by decide : 0 + (4 + 4) + (4 + 4) + 0 ≤ _)⟩)
  dsimp only [Pt.U, Pt.locs, Pt.cells, Pt.slots] at X4 l4 y4 z4 st4 hQ4
  subst l4 y4 z4
  obtain ⟨rfl, Nq4, e4⟩ := hQ4
  have N4 := Fr.app N2 Nq4
  refine own_go (fun t k => st4.trans k) ?_
  show own_Go p e below _ (T4.setTop (mkF m 15 #[.val (.ref oa)] [(.int (0 : Int32))]))
  refine own_go (fun t k => XS.ifNo X4.here hx rfl (hb hby dF3_15) rfl ((if0 _ _).trans (teq (by decide : (0 : Int32) = (0 : Int32))).2) k) ?_
  show own_Go p e below _ (T4.setTop (mkF m 18 #[.val (.ref oa)] []))
  refine own_go (fun t k => XS.aloadN X4.here hx rfl (hb hby dF3_18) rfl rfl k) ?_
  show own_Go p e below _ (T4.setTop (mkF m 19 #[.val (.ref oa)] [(.ref oa)]))
  obtain ⟨cq5, kq5, q5a, q5b, q5c⟩ := isOf hZ3 e4 Eoa__3
  obtain ⟨_, _, ⟨T5, L5, k5, n5⟩, -, X5, ⟨Lc5, hQ5, l5, y5, z5⟩, st5⟩ := X4.virtualBack hx (y := (⟨"java/lang/String", "isEmpty", "()Z"⟩ : MethodName)) (z := (⟨"java/lang/String", "isEmpty", "()Z"⟩ : MethodName)) hown3 (mvT hZ3 (hw _ (List.mem_of_getElem? (i := 43) rfl))) (mvT hZ3 (hw _ (List.mem_of_getElem? (i := 44) rfl))) (notFace_of_selects (args := #[]) (mvT hZ3 (hw _ (List.mem_of_getElem? (i := 46) rfl)))) (mvT hZ3 (hw _ (List.mem_of_getElem? (i := 46) rfl))) (mvT hZ3 (hw _ (List.mem_of_getElem? (i := 45) rfl))) (by decide) (backOf (W := 0) (rmZ3 l Z a0 hw [] oa ot kt b0 b1 b2 h3 n0 sz3 Voa__3 Aoa__3) hZ3 (hw _ (List.mem_of_getElem? (i := 47) rfl)) (hw _ (List.mem_of_getElem? (i := 7) rfl)) (by decide) (by decide)) q5a q5c (g := (mkF m 19 #[.val (.ref oa)] [(.ref oa)])) rfl (by rw [hml]; rfl) (Steps.refl _) (argsL := []) (rest := []) (lenOf pdF3_1 rfl) rfl (by show 2 * 0 + _ ≤ _; exact Nat.le_of_eq rfl) (hb hby dF3_19) (fun _ _ => ⟨rfl, e4, (by decide : 0 + 2 + 2 + 0 ≤ _), (by decide : 0 + (4 + 4) + (4 + 4) + 0 ≤ _)⟩)
  dsimp only [Pt.U, Pt.locs, Pt.cells, Pt.slots] at X5 l5 y5 z5 st5 hQ5
  subst l5 y5 z5
  obtain ⟨rfl, Nq5, e5⟩ := hQ5
  have N5 := Fr.app N4 Nq5
  refine own_go (fun t k => st5.trans k) ?_
  show own_Go p e below _ (T5.setTop (mkF m 22 #[.val (.ref oa)] [(.int (0 : Int32))]))
  refine own_go (fun t k => XS.ifYes X5.here hx rfl (pc0 := 22) (pc' := 29) rfl (hb hby dF3_22) rfl ((if0 _ _).trans (teq (by decide : (0 : Int32) = (0 : Int32))).1) (by decide) (by decide) k) ?_
  show own_Go p e below _ (T5.setTop (mkF m 29 #[.val (.ref oa)] []))
  refine own_go (fun t k => XS.iconst X5.here hx rfl (hb hby dF3_29) k) ?_
  show own_Go p e below _ (T5.setTop (mkF m 30 #[.val (.ref oa)] [(.int (0 : Int32))]))
  have hF : CHr Z own_EL s.vm s.heap T5.vm T5.heap := by rw [hh, e5]; exact hR3.trans (CHv.at X5 hZ3 hEL hD3)
  exact own_retNH X5 hx (t := .boolean) Bd.returns (by simp) (hb hby dF3_30) hS3 (by rw [e5]; exact hk3) (by rw [e5]; exact ⟨by simp [nar], N5, KP3⟩) (hF) (by decide) (by decide)
theorem pn0 : plainName "com/example/counterledger/counterledger/OpenItemIsFlagPinLaw" = true := by first | (simp [plainName, overriddenIn]; done) | decide +kernel
theorem pd0_0 : parseMethodDescriptor "(I)C" = some ⟨[.int], some .char⟩ := by decide +kernel
theorem pd0_1 : parseMethodDescriptor "([C)V" = some ⟨[(.array .char)], none⟩ := by decide +kernel
theorem pd0_2 : parseMethodDescriptor "(Ljava/lang/String;)Z" = some ⟨[(.object "java/lang/String")], some .boolean⟩ := by decide +kernel
theorem ef0 (m : MethodId) (x0 : Int32) (x1 : Int32) (x2 : Int32) (x3 : Int32) : entryFrame m #[(.int x0), (.int x1), (.int x2), (.int x3)] maxLocals = mkF m 0 #[.val (.int x0), .val (.int x1), .val (.int x2), .val (.int x3), .unset, .unset, .unset, .unset, .unset, .unset, .unset, .unset, .unset, .unset] [] := by first | (simp [entryFrame, mkF, argsToLocals, Value.category, maxLocals]; done) | rfl
def own_Q0 (n0 : Nat) (v : Option Value) (h : Heap) (L : List Loc) : Prop := v = some (.int 1) ∧ Fr n0 L
set_option maxRecDepth 65536 in
set_option maxHeartbeats 40000000 in
theorem rm0 (l : Launch) (Z : State) (a0 : Array Value) (hw : ∀ d ∈ tables_1, d.before a0 Z = true) (ws : List Jvm.Cond) (p0 p1 p2 p3 : Int32) (h0 : Heap) (n0 : Nat) (Z0 : n0 ≤ h0.size) (XO : Old Z n0 h0) (WW : own_W Z) :
    MetFree l x (head1 (Jvm.Cond.code x code maxLocals ret :: ws) room_1) (fun a U => a = #[(.int p0), (.int p1), (.int p2), (.int p3)] ∧ Z.Warmed39 U.vm ∧ U.heap = h0 ∧ CHv Z own_EL U.vm h0 ∧ ∀ x ∈ ([] : List Addr), Safe Z own_EL U.vm h0 x) (fun _ _ _ _ _ => True) (fun _ U o U' => ∃ v L, o = .returned v ∧ own_Q0 n0 v U'.heap L ∧ CHr Z own_EL U.vm U.heap U'.vm U'.heap ∧ ReturnedEndW U o U' L room_1.cells room_1.slots) := by
  refine MetFree.of_bodySF (plainFor_of_name pn0) hisR ?_
  intro p e s m args below meth c s₁ Bd hml0 hP hK
  obtain ⟨rfl, hZ, hh, hC0, hsf0⟩ := hP
  have hx := Bd.exec
  have hby := Bd.bytes
  have hml : c.maxLocals = 14 := hml0
  have hown : s.vm.findClass "com/example/counterledger/counterledger/OpenItemIsFlagPinLaw" = some m.cls := findClass_of_methodNamed Bd.named
  have hnm := (name_of_methodNamed Bd.named Bd.method).1
  have hlk : meth.locks = false := Bd.notSynchronized
  have hEL := own_ew hw
  have hR0 : CHr Z own_EL s.vm h0 s.vm h0 := CHr.refl hC0
  have hS0 : s.Since s.vm 0 := (State.WarmedH.refl s).since 0
  have hk0 : 0 ≤ h0.size := Nat.zero_le _
  have X0 : Stand p l e room_1 (s.setVm s.vm) m #[(.int p0), (.int p1), (.int p2), (.int p3)] below meth c s₁ [] 0 0 := Stand.of_body Bd
  have e0 : s₁.heap = h0 := by rw [← hh, Bd.state]; rfl
  have N0 := Fr.nil n0
  refine own_go (fun t k => castTop (ef0 m p0 p1 p2 p3) k) ?_
  obtain ⟨cs, hcs, SC⟩ := id WW
  show own_Go p e below _ (s₁.setTop (mkF m 0 #[.val (.int p0), .val (.int p1), .val (.int p2), .val (.int p3), .unset, .unset, .unset, .unset, .unset, .unset, .unset, .unset, .unset, .unset] []))
  refine own_go (fun t k => XS.iloadN X0.here hx rfl (hb hby at_0) rfl k) ?_
  show own_Go p e below _ (s₁.setTop (mkF m 1 #[.val (.int p0), .val (.int p1), .val (.int p2), .val (.int p3), .unset, .unset, .unset, .unset, .unset, .unset, .unset, .unset, .unset, .unset] [(.int p0)]))
  refine own_go (fun t k => XS.iconst X0.here hx rfl (hb hby at_1) k) ?_
  show own_Go p e below _ (s₁.setTop (mkF m 2 #[.val (.int p0), .val (.int p1), .val (.int p2), .val (.int p3), .unset, .unset, .unset, .unset, .unset, .unset, .unset, .unset, .unset, .unset] [(.int (3 : Int32)), (.int p0)]))
  refine own_go (fun t k => XS.iand X0.here hx rfl (hb hby at_2) rfl k) ?_
  show own_Go p e below _ (s₁.setTop (mkF m 3 #[.val (.int p0), .val (.int p1), .val (.int p2), .val (.int p3), .unset, .unset, .unset, .unset, .unset, .unset, .unset, .unset, .unset, .unset] [(.int (p0 &&& (3 : Int32)))]))
  refine own_go (fun t k => XS.istore X0.here hx rfl (hb hby at_3) rfl (l' := #[.val (.int p0), .val (.int p1), .val (.int p2), .val (.int p3), .val (.int (p0 &&& (3 : Int32))), .unset, .unset, .unset, .unset, .unset, .unset, .unset, .unset, .unset]) rfl k) ?_
  show own_Go p e below _ (s₁.setTop (mkF m 5 #[.val (.int p0), .val (.int p1), .val (.int p2), .val (.int p3), .val (.int (p0 &&& (3 : Int32))), .unset, .unset, .unset, .unset, .unset, .unset, .unset, .unset, .unset] []))
  refine own_go (fun t k => XS.iloadN X0.here hx rfl (hb hby at_5) rfl k) ?_
  show own_Go p e below _ (s₁.setTop (mkF m 6 #[.val (.int p0), .val (.int p1), .val (.int p2), .val (.int p3), .val (.int (p0 &&& (3 : Int32))), .unset, .unset, .unset, .unset, .unset, .unset, .unset, .unset, .unset] [(.int p1)]))
  obtain ⟨_, _, ⟨T1, L1, k1, n1⟩, -, X1, ⟨Lc1, hQ1, l1, y1, z1⟩, st1⟩ := Jvm.LawKit.callS X0 hx (y := (⟨"com/example/counterledger/counterledger/OpenItemIsFlagPinLaw", "draw", "(I)C"⟩ : MethodName)) hown (mvT hZ (hw _ (List.mem_of_getElem? (i := 0) rfl))) (mvT hZ (hw _ (List.mem_of_getElem? (i := 1) rfl))) (mvT hZ (hw _ (List.mem_of_getElem? (i := 2) rfl))) (mvT hZ (hw _ (List.mem_of_getElem? (i := 3) rfl))) (by decide) (backOf (W := 0) (rmD l Z a0 hw [] p1 h0 n0 Z0) hZ (hw _ (List.mem_of_getElem? (i := 3) rfl)) (hw _ (List.mem_of_getElem? (i := 2) rfl)) (by decide) (by decide)) (g := (mkF m 6 #[.val (.int p0), .val (.int p1), .val (.int p2), .val (.int p3), .val (.int (p0 &&& (3 : Int32))), .unset, .unset, .unset, .unset, .unset, .unset, .unset, .unset, .unset] [(.int p1)])) rfl (by rw [hml]; rfl) (argsL := [(.int p1)]) (rest := []) (lenOf pd0_0 rfl) rfl (by show 2 * 0 + _ ≤ _; exact Nat.le_of_eq rfl) (hb hby at_6) (fun _ _ => ⟨rfl, e0, (by decide : 0 + 0 ≤ _), (by decide : 0 + 0 ≤ _)⟩)
  dsimp only [Pt.U, Pt.locs, Pt.cells, Pt.slots] at X1 l1 y1 z1 st1 hQ1
  subst l1 y1 z1
  obtain ⟨x1, rfl, p_x1, Nq1, e1⟩ := hQ1
  have N1 := Fr.app N0 Nq1
  refine own_go (fun t k => st1 t k) ?_
  show own_Go p e below _ (T1.setTop (mkF m 9 #[.val (.int p0), .val (.int p1), .val (.int p2), .val (.int p3), .val (.int (p0 &&& (3 : Int32))), .unset, .unset, .unset, .unset, .unset, .unset, .unset, .unset, .unset] [(.int x1)]))
  refine own_go (fun t k => XS.istore X1.here hx rfl (hb hby at_9) rfl (l' := #[.val (.int p0), .val (.int p1), .val (.int p2), .val (.int p3), .val (.int (p0 &&& (3 : Int32))), .val (.int x1), .unset, .unset, .unset, .unset, .unset, .unset, .unset, .unset]) rfl k) ?_
  show own_Go p e below _ (T1.setTop (mkF m 11 #[.val (.int p0), .val (.int p1), .val (.int p2), .val (.int p3), .val (.int (p0 &&& (3 : Int32))), .val (.int x1), .unset, .unset, .unset, .unset, .unset, .unset, .unset, .unset] []))
  refine own_go (fun t k => XS.iloadN X1.here hx rfl (hb hby at_11) rfl k) ?_
  show own_Go p e below _ (T1.setTop (mkF m 12 #[.val (.int p0), .val (.int p1), .val (.int p2), .val (.int p3), .val (.int (p0 &&& (3 : Int32))), .val (.int x1), .unset, .unset, .unset, .unset, .unset, .unset, .unset, .unset] [(.int p2)]))
  obtain ⟨_, _, ⟨T2, L2, k2, n2⟩, -, X2, ⟨Lc2, hQ2, l2, y2, z2⟩, st2⟩ := Jvm.LawKit.callS X1 hx (y := (⟨"com/example/counterledger/counterledger/OpenItemIsFlagPinLaw", "draw", "(I)C"⟩ : MethodName)) hown (mvT hZ (hw _ (List.mem_of_getElem? (i := 0) rfl))) (mvT hZ (hw _ (List.mem_of_getElem? (i := 1) rfl))) (mvT hZ (hw _ (List.mem_of_getElem? (i := 2) rfl))) (mvT hZ (hw _ (List.mem_of_getElem? (i := 3) rfl))) (by decide) (backOf (W := 0) (rmD l Z a0 hw [] p2 h0 n0 Z0) hZ (hw _ (List.mem_of_getElem? (i := 3) rfl)) (hw _ (List.mem_of_getElem? (i := 2) rfl)) (by decide) (by decide)) (g := (mkF m 12 #[.val (.int p0), .val (.int p1), .val (.int p2), .val (.int p3), .val (.int (p0 &&& (3 : Int32))), .val (.int x1), .unset, .unset, .unset, .unset, .unset, .unset, .unset, .unset] [(.int p2)])) rfl (by rw [hml]; rfl) (argsL := [(.int p2)]) (rest := []) (lenOf pd0_0 rfl) rfl (by show 2 * 0 + _ ≤ _; exact Nat.le_of_eq rfl) (hb hby at_12) (fun _ _ => ⟨rfl, e1, (by decide : 0 + 0 ≤ _), (by decide : 0 + 0 ≤ _)⟩)
  dsimp only [Pt.U, Pt.locs, Pt.cells, Pt.slots] at X2 l2 y2 z2 st2 hQ2
  subst l2 y2 z2
  obtain ⟨x2, rfl, p_x2, Nq2, e2⟩ := hQ2
  have N2 := Fr.app N1 Nq2
  refine own_go (fun t k => st2 t k) ?_
  show own_Go p e below _ (T2.setTop (mkF m 15 #[.val (.int p0), .val (.int p1), .val (.int p2), .val (.int p3), .val (.int (p0 &&& (3 : Int32))), .val (.int x1), .unset, .unset, .unset, .unset, .unset, .unset, .unset, .unset] [(.int x2)]))
  refine own_go (fun t k => XS.istore X2.here hx rfl (hb hby at_15) rfl (l' := #[.val (.int p0), .val (.int p1), .val (.int p2), .val (.int p3), .val (.int (p0 &&& (3 : Int32))), .val (.int x1), .val (.int x2), .unset, .unset, .unset, .unset, .unset, .unset, .unset]) rfl k) ?_
  show own_Go p e below _ (T2.setTop (mkF m 17 #[.val (.int p0), .val (.int p1), .val (.int p2), .val (.int p3), .val (.int (p0 &&& (3 : Int32))), .val (.int x1), .val (.int x2), .unset, .unset, .unset, .unset, .unset, .unset, .unset] []))
  refine own_go (fun t k => XS.iloadN X2.here hx rfl (hb hby at_17) rfl k) ?_
  show own_Go p e below _ (T2.setTop (mkF m 18 #[.val (.int p0), .val (.int p1), .val (.int p2), .val (.int p3), .val (.int (p0 &&& (3 : Int32))), .val (.int x1), .val (.int x2), .unset, .unset, .unset, .unset, .unset, .unset, .unset] [(.int p3)]))
  obtain ⟨_, _, ⟨T3, L3, k3, n3⟩, -, X3, ⟨Lc3, hQ3, l3, y3, z3⟩, st3⟩ := Jvm.LawKit.callS X2 hx (y := (⟨"com/example/counterledger/counterledger/OpenItemIsFlagPinLaw", "draw", "(I)C"⟩ : MethodName)) hown (mvT hZ (hw _ (List.mem_of_getElem? (i := 0) rfl))) (mvT hZ (hw _ (List.mem_of_getElem? (i := 1) rfl))) (mvT hZ (hw _ (List.mem_of_getElem? (i := 2) rfl))) (mvT hZ (hw _ (List.mem_of_getElem? (i := 3) rfl))) (by decide) (backOf (W := 0) (rmD l Z a0 hw [] p3 h0 n0 Z0) hZ (hw _ (List.mem_of_getElem? (i := 3) rfl)) (hw _ (List.mem_of_getElem? (i := 2) rfl)) (by decide) (by decide)) (g := (mkF m 18 #[.val (.int p0), .val (.int p1), .val (.int p2), .val (.int p3), .val (.int (p0 &&& (3 : Int32))), .val (.int x1), .val (.int x2), .unset, .unset, .unset, .unset, .unset, .unset, .unset] [(.int p3)])) rfl (by rw [hml]; rfl) (argsL := [(.int p3)]) (rest := []) (lenOf pd0_0 rfl) rfl (by show 2 * 0 + _ ≤ _; exact Nat.le_of_eq rfl) (hb hby at_18) (fun _ _ => ⟨rfl, e2, (by decide : 0 + 0 ≤ _), (by decide : 0 + 0 ≤ _)⟩)
  dsimp only [Pt.U, Pt.locs, Pt.cells, Pt.slots] at X3 l3 y3 z3 st3 hQ3
  subst l3 y3 z3
  obtain ⟨x3, rfl, p_x3, Nq3, e3⟩ := hQ3
  have N3 := Fr.app N2 Nq3
  refine own_go (fun t k => st3 t k) ?_
  show own_Go p e below _ (T3.setTop (mkF m 21 #[.val (.int p0), .val (.int p1), .val (.int p2), .val (.int p3), .val (.int (p0 &&& (3 : Int32))), .val (.int x1), .val (.int x2), .unset, .unset, .unset, .unset, .unset, .unset, .unset] [(.int x3)]))
  refine own_go (fun t k => XS.istore X3.here hx rfl (hb hby at_21) rfl (l' := #[.val (.int p0), .val (.int p1), .val (.int p2), .val (.int p3), .val (.int (p0 &&& (3 : Int32))), .val (.int x1), .val (.int x2), .val (.int x3), .unset, .unset, .unset, .unset, .unset, .unset]) rfl k) ?_
  show own_Go p e below _ (T3.setTop (mkF m 23 #[.val (.int p0), .val (.int p1), .val (.int p2), .val (.int p3), .val (.int (p0 &&& (3 : Int32))), .val (.int x1), .val (.int x2), .val (.int x3), .unset, .unset, .unset, .unset, .unset, .unset] []))
  refine own_go (fun t k => XS.iconst X3.here hx rfl (hb hby at_23) k) ?_
  show own_Go p e below _ (T3.setTop (mkF m 24 #[.val (.int p0), .val (.int p1), .val (.int p2), .val (.int p3), .val (.int (p0 &&& (3 : Int32))), .val (.int x1), .val (.int x2), .val (.int x3), .unset, .unset, .unset, .unset, .unset, .unset] [(.int (0 : Int32))]))
  obtain ⟨T4, h4, k4, X4, e4, E4, A4, st4⟩ := newP X3 hx hZ (hw _ (List.mem_of_getElem? (i := 4) rfl)) e3 (g := (mkF m 24 #[.val (.int p0), .val (.int p1), .val (.int p2), .val (.int p3), .val (.int (p0 &&& (3 : Int32))), .val (.int x1), .val (.int x2), .val (.int x3), .unset, .unset, .unset, .unset, .unset, .unset] [(.int (0 : Int32))])) rfl (hb hby at_24) rfl (by decide) (cap := 0) (by decide) (by decide) (by decide) (by decide)
  obtain ⟨b4, g4⟩ : ∃ z, z = h0.size := ⟨_, rfl⟩
  rw [← g4] at A4 st4
  have g_b4 : n0 ≤ b4 := Nat.le_trans Z0 (Nat.le_of_eq g4.symm)
  have sz_b4 : h0.size ≤ b4 := Nat.le_trans (Keep.refl h0 []).1 (Nat.le_of_eq g4.symm)
  have XO__4 := XO.ext E4
  have hR4 := hR0.trans (CHr.ext E4 hC0)
  have hC4 := hR4.1
  have sz4 := Nat.le_trans Z0 E4.1
  have KP4 := (Keep.refl h0 []).ext E4
  have hk4 := Nat.le_trans hk0 E4.1
  have V4 : Arv Z h4 b4 k4 .char (0 : Int32) [] (.int (0 : Int32)) := Arv.new A4 (by decide)
  refine own_go (fun t k => st4 t k) ?_
  show own_Go p e below _ (T4.setTop (mkF m 26 #[.val (.int p0), .val (.int p1), .val (.int p2), .val (.int p3), .val (.int (p0 &&& (3 : Int32))), .val (.int x1), .val (.int x2), .val (.int x3), .unset, .unset, .unset, .unset, .unset, .unset] [(.ref b4)]))
  refine own_go (fun t k => XS.astore X4.here hx rfl (hb hby at_26) rfl rfl (l' := #[.val (.int p0), .val (.int p1), .val (.int p2), .val (.int p3), .val (.int (p0 &&& (3 : Int32))), .val (.int x1), .val (.int x2), .val (.int x3), .val (.ref b4), .unset, .unset, .unset, .unset, .unset]) rfl k) ?_
  show own_Go p e below _ (T4.setTop (mkF m 28 #[.val (.int p0), .val (.int p1), .val (.int p2), .val (.int p3), .val (.int (p0 &&& (3 : Int32))), .val (.int x1), .val (.int x2), .val (.int x3), .val (.ref b4), .unset, .unset, .unset, .unset, .unset] []))
  refine own_go (fun t k => XS.iconst X4.here hx rfl (hb hby at_28) k) ?_
  show own_Go p e below _ (T4.setTop (mkF m 29 #[.val (.int p0), .val (.int p1), .val (.int p2), .val (.int p3), .val (.int (p0 &&& (3 : Int32))), .val (.int x1), .val (.int x2), .val (.int x3), .val (.ref b4), .unset, .unset, .unset, .unset, .unset] [(.int (1 : Int32))]))
  obtain ⟨T5, h5, k5, X5, e5, E5, A5, st5⟩ := newP X4 hx hZ (hw _ (List.mem_of_getElem? (i := 4) rfl)) e4 (g := (mkF m 29 #[.val (.int p0), .val (.int p1), .val (.int p2), .val (.int p3), .val (.int (p0 &&& (3 : Int32))), .val (.int x1), .val (.int x2), .val (.int x3), .val (.ref b4), .unset, .unset, .unset, .unset, .unset] [(.int (1 : Int32))])) rfl (hb hby at_29) rfl (by decide) (cap := 1) (by decide) (by decide) (by decide) (by decide)
  obtain ⟨b5, g5⟩ : ∃ z, z = h4.size := ⟨_, rfl⟩
  rw [← g5] at A5 st5
  have g_b5 : n0 ≤ b5 := Nat.le_trans sz4 (Nat.le_of_eq g5.symm)
  have sz_b5 : h0.size ≤ b5 := Nat.le_trans KP4.1 (Nat.le_of_eq g5.symm)
  have ne_b4_b5 : b4 ≠ b5 := Nat.ne_of_lt (Nat.lt_of_lt_of_le V4.lt (Nat.le_of_eq g5.symm))
  have XO__5 := XO__4.ext E5
  have V4__5 := V4.ext E5
  have hR5 := hR4.trans (CHr.ext E5 hC4)
  have hC5 := hR5.1
  have sz5 := Nat.le_trans sz4 E5.1
  have KP5 := KP4.ext E5
  have hk5 := Nat.le_trans hk4 E5.1
  have V5 : Arv Z h5 b5 k5 .char (1 : Int32) [(.int (0 : Int32))] (.int (0 : Int32)) := (Arv.new A5 (by decide)).pad (pad_rep [] (.int (0 : Int32)) 1)
  refine own_go (fun t k => st5 t k) ?_
  show own_Go p e below _ (T5.setTop (mkF m 31 #[.val (.int p0), .val (.int p1), .val (.int p2), .val (.int p3), .val (.int (p0 &&& (3 : Int32))), .val (.int x1), .val (.int x2), .val (.int x3), .val (.ref b4), .unset, .unset, .unset, .unset, .unset] [(.ref b5)]))
  refine own_go (fun t k => XS.dup X5.here hx rfl (hb hby at_31) rfl rfl k) ?_
  show own_Go p e below _ (T5.setTop (mkF m 32 #[.val (.int p0), .val (.int p1), .val (.int p2), .val (.int p3), .val (.int (p0 &&& (3 : Int32))), .val (.int x1), .val (.int x2), .val (.int x3), .val (.ref b4), .unset, .unset, .unset, .unset, .unset] [(.ref b5), (.ref b5)]))
  refine own_go (fun t k => XS.iconst X5.here hx rfl (hb hby at_32) k) ?_
  show own_Go p e below _ (T5.setTop (mkF m 33 #[.val (.int p0), .val (.int p1), .val (.int p2), .val (.int p3), .val (.int (p0 &&& (3 : Int32))), .val (.int x1), .val (.int x2), .val (.int x3), .val (.ref b4), .unset, .unset, .unset, .unset, .unset] [(.int (0 : Int32)), (.ref b5), (.ref b5)]))
  refine own_go (fun t k => XS.iload X5.here hx rfl (hb hby at_33) rfl k) ?_
  show own_Go p e below _ (T5.setTop (mkF m 35 #[.val (.int p0), .val (.int p1), .val (.int p2), .val (.int p3), .val (.int (p0 &&& (3 : Int32))), .val (.int x1), .val (.int x2), .val (.int x3), .val (.ref b4), .unset, .unset, .unset, .unset, .unset] [(.int x1), (.int (0 : Int32)), (.ref b5), (.ref b5)]))
  obtain ⟨cl6, Ar6, qa6, Sa6, Na6, Ha6, Ga6⟩ := id V5
  have hin6 : ¬ ((0 : Int32) < 0 ∨ cl6.slots.size ≤ ((0 : Int32)).toNatClampNeg) := inb_of Sa6 ⟨by decide, by decide⟩
  obtain ⟨T6, h6, X6, e6, W6, st6⟩ := stC X5 hx hZ e5 Ar6 (j := (0 : Int32)) hin6 (g := (mkF m 35 #[.val (.int p0), .val (.int p1), .val (.int p2), .val (.int p3), .val (.int (p0 &&& (3 : Int32))), .val (.int x1), .val (.int x2), .val (.int x3), .val (.ref b4), .unset, .unset, .unset, .unset, .unset] [(.int x1), (.int (0 : Int32)), (.ref b5), (.ref b5)])) rfl rfl (hb hby at_35)
  have Vw6 : Arv Z h6 b5 k5 .char (1 : Int32) [(.int (nar .char x1))] (.int (0 : Int32)) := Arv.set Ar6 qa6 Sa6 Na6 Ha6 Ga6 (fits_nar_char _) W6 0 rfl (Nat.le_of_ble_eq_true rfl)
  have Sa6 : Safe Z own_EL s.vm h5 b5 := (Safe.arv hZ.alike V5 (by decide))
  have XO__6 := XO__5.wr W6 g_b5
  have V4__6 := V4__5.other W6 ne_b4_b5
  have hR6 := hR5.trans (CHr.wr W6 Sa6 hC5)
  have hC6 := hR6.1
  have N6 := Fr.snoc X6 N3 g_b5
  have KP6 := KP5.wr W6 (Or.inr sz_b5)
  have sz6 := Nat.le_trans sz5 (Keep.of_wr W6).1
  have hk6 := Nat.le_trans hk5 (Keep.of_wr W6).1
  refine own_go (fun t k => st6 t k) ?_
  show own_Go p e below _ (T6.setTop (mkF m 36 #[.val (.int p0), .val (.int p1), .val (.int p2), .val (.int p3), .val (.int (p0 &&& (3 : Int32))), .val (.int x1), .val (.int x2), .val (.int x3), .val (.ref b4), .unset, .unset, .unset, .unset, .unset] [(.ref b5)]))
  refine own_go (fun t k => XS.astore X6.here hx rfl (hb hby at_36) rfl rfl (l' := #[.val (.int p0), .val (.int p1), .val (.int p2), .val (.int p3), .val (.int (p0 &&& (3 : Int32))), .val (.int x1), .val (.int x2), .val (.int x3), .val (.ref b4), .val (.ref b5), .unset, .unset, .unset, .unset]) rfl k) ?_
  show own_Go p e below _ (T6.setTop (mkF m 38 #[.val (.int p0), .val (.int p1), .val (.int p2), .val (.int p3), .val (.int (p0 &&& (3 : Int32))), .val (.int x1), .val (.int x2), .val (.int x3), .val (.ref b4), .val (.ref b5), .unset, .unset, .unset, .unset] []))
  refine own_go (fun t k => XS.iconst X6.here hx rfl (hb hby at_38) k) ?_
  show own_Go p e below _ (T6.setTop (mkF m 39 #[.val (.int p0), .val (.int p1), .val (.int p2), .val (.int p3), .val (.int (p0 &&& (3 : Int32))), .val (.int x1), .val (.int x2), .val (.int x3), .val (.ref b4), .val (.ref b5), .unset, .unset, .unset, .unset] [(.int (2 : Int32))]))
  obtain ⟨T7, h7, k7, X7, e7, E7, A7, st7⟩ := newP X6 hx hZ (hw _ (List.mem_of_getElem? (i := 4) rfl)) e6 (g := (mkF m 39 #[.val (.int p0), .val (.int p1), .val (.int p2), .val (.int p3), .val (.int (p0 &&& (3 : Int32))), .val (.int x1), .val (.int x2), .val (.int x3), .val (.ref b4), .val (.ref b5), .unset, .unset, .unset, .unset] [(.int (2 : Int32))])) rfl (hb hby at_39) rfl (by decide) (cap := 2) (by decide) (by decide) (by decide) (by decide)
  obtain ⟨b7, g7⟩ : ∃ z, z = h6.size := ⟨_, rfl⟩
  rw [← g7] at A7 st7
  have g_b7 : n0 ≤ b7 := Nat.le_trans sz6 (Nat.le_of_eq g7.symm)
  have sz_b7 : h0.size ≤ b7 := Nat.le_trans KP6.1 (Nat.le_of_eq g7.symm)
  have ne_b4_b7 : b4 ≠ b7 := Nat.ne_of_lt (Nat.lt_of_lt_of_le V4__6.lt (Nat.le_of_eq g7.symm))
  have ne_b5_b7 : b5 ≠ b7 := Nat.ne_of_lt (Nat.lt_of_lt_of_le Vw6.lt (Nat.le_of_eq g7.symm))
  have XO__7 := XO__6.ext E7
  have V4__7 := V4__6.ext E7
  have Vw6__7 := Vw6.ext E7
  have hR7 := hR6.trans (CHr.ext E7 hC6)
  have hC7 := hR7.1
  have sz7 := Nat.le_trans sz6 E7.1
  have KP7 := KP6.ext E7
  have hk7 := Nat.le_trans hk6 E7.1
  have V7 : Arv Z h7 b7 k7 .char (2 : Int32) [(.int (0 : Int32)), (.int (0 : Int32))] (.int (0 : Int32)) := (Arv.new A7 (by decide)).pad (pad_rep [] (.int (0 : Int32)) 2)
  refine own_go (fun t k => st7 t k) ?_
  show own_Go p e below _ (T7.setTop (mkF m 41 #[.val (.int p0), .val (.int p1), .val (.int p2), .val (.int p3), .val (.int (p0 &&& (3 : Int32))), .val (.int x1), .val (.int x2), .val (.int x3), .val (.ref b4), .val (.ref b5), .unset, .unset, .unset, .unset] [(.ref b7)]))
  refine own_go (fun t k => XS.dup X7.here hx rfl (hb hby at_41) rfl rfl k) ?_
  show own_Go p e below _ (T7.setTop (mkF m 42 #[.val (.int p0), .val (.int p1), .val (.int p2), .val (.int p3), .val (.int (p0 &&& (3 : Int32))), .val (.int x1), .val (.int x2), .val (.int x3), .val (.ref b4), .val (.ref b5), .unset, .unset, .unset, .unset] [(.ref b7), (.ref b7)]))
  refine own_go (fun t k => XS.iconst X7.here hx rfl (hb hby at_42) k) ?_
  show own_Go p e below _ (T7.setTop (mkF m 43 #[.val (.int p0), .val (.int p1), .val (.int p2), .val (.int p3), .val (.int (p0 &&& (3 : Int32))), .val (.int x1), .val (.int x2), .val (.int x3), .val (.ref b4), .val (.ref b5), .unset, .unset, .unset, .unset] [(.int (0 : Int32)), (.ref b7), (.ref b7)]))
  refine own_go (fun t k => XS.iload X7.here hx rfl (hb hby at_43) rfl k) ?_
  show own_Go p e below _ (T7.setTop (mkF m 45 #[.val (.int p0), .val (.int p1), .val (.int p2), .val (.int p3), .val (.int (p0 &&& (3 : Int32))), .val (.int x1), .val (.int x2), .val (.int x3), .val (.ref b4), .val (.ref b5), .unset, .unset, .unset, .unset] [(.int x1), (.int (0 : Int32)), (.ref b7), (.ref b7)]))
  obtain ⟨cl8, Ar8, qa8, Sa8, Na8, Ha8, Ga8⟩ := id V7
  have hin8 : ¬ ((0 : Int32) < 0 ∨ cl8.slots.size ≤ ((0 : Int32)).toNatClampNeg) := inb_of Sa8 ⟨by decide, by decide⟩
  obtain ⟨T8, h8, X8, e8, W8, st8⟩ := stC X7 hx hZ e7 Ar8 (j := (0 : Int32)) hin8 (g := (mkF m 45 #[.val (.int p0), .val (.int p1), .val (.int p2), .val (.int p3), .val (.int (p0 &&& (3 : Int32))), .val (.int x1), .val (.int x2), .val (.int x3), .val (.ref b4), .val (.ref b5), .unset, .unset, .unset, .unset] [(.int x1), (.int (0 : Int32)), (.ref b7), (.ref b7)])) rfl rfl (hb hby at_45)
  have Vw8 : Arv Z h8 b7 k7 .char (2 : Int32) [(.int (nar .char x1)), (.int (0 : Int32))] (.int (0 : Int32)) := Arv.set Ar8 qa8 Sa8 Na8 Ha8 Ga8 (fits_nar_char _) W8 0 rfl (Nat.le_of_ble_eq_true rfl)
  have Sa8 : Safe Z own_EL s.vm h7 b7 := (Safe.arv hZ.alike V7 (by decide))
  have XO__8 := XO__7.wr W8 g_b7
  have V4__8 := V4__7.other W8 ne_b4_b7
  have Vw6__8 := Vw6__7.other W8 ne_b5_b7
  have hR8 := hR7.trans (CHr.wr W8 Sa8 hC7)
  have hC8 := hR8.1
  have N8 := Fr.snoc X8 N6 g_b7
  have KP8 := KP7.wr W8 (Or.inr sz_b7)
  have sz8 := Nat.le_trans sz7 (Keep.of_wr W8).1
  have hk8 := Nat.le_trans hk7 (Keep.of_wr W8).1
  refine own_go (fun t k => st8 t k) ?_
  show own_Go p e below _ (T8.setTop (mkF m 46 #[.val (.int p0), .val (.int p1), .val (.int p2), .val (.int p3), .val (.int (p0 &&& (3 : Int32))), .val (.int x1), .val (.int x2), .val (.int x3), .val (.ref b4), .val (.ref b5), .unset, .unset, .unset, .unset] [(.ref b7)]))
  refine own_go (fun t k => XS.dup X8.here hx rfl (hb hby at_46) rfl rfl k) ?_
  show own_Go p e below _ (T8.setTop (mkF m 47 #[.val (.int p0), .val (.int p1), .val (.int p2), .val (.int p3), .val (.int (p0 &&& (3 : Int32))), .val (.int x1), .val (.int x2), .val (.int x3), .val (.ref b4), .val (.ref b5), .unset, .unset, .unset, .unset] [(.ref b7), (.ref b7)]))
  refine own_go (fun t k => XS.iconst X8.here hx rfl (hb hby at_47) k) ?_
  show own_Go p e below _ (T8.setTop (mkF m 48 #[.val (.int p0), .val (.int p1), .val (.int p2), .val (.int p3), .val (.int (p0 &&& (3 : Int32))), .val (.int x1), .val (.int x2), .val (.int x3), .val (.ref b4), .val (.ref b5), .unset, .unset, .unset, .unset] [(.int (1 : Int32)), (.ref b7), (.ref b7)]))
  refine own_go (fun t k => XS.iload X8.here hx rfl (hb hby at_48) rfl k) ?_
  show own_Go p e below _ (T8.setTop (mkF m 50 #[.val (.int p0), .val (.int p1), .val (.int p2), .val (.int p3), .val (.int (p0 &&& (3 : Int32))), .val (.int x1), .val (.int x2), .val (.int x3), .val (.ref b4), .val (.ref b5), .unset, .unset, .unset, .unset] [(.int x2), (.int (1 : Int32)), (.ref b7), (.ref b7)]))
  obtain ⟨cl9, Ar9, qa9, Sa9, Na9, Ha9, Ga9⟩ := id Vw8
  have hin9 : ¬ ((1 : Int32) < 0 ∨ cl9.slots.size ≤ ((1 : Int32)).toNatClampNeg) := inb_of Sa9 ⟨by decide, by decide⟩
  obtain ⟨T9, h9, X9, e9, W9, st9⟩ := stC X8 hx hZ e8 Ar9 (j := (1 : Int32)) hin9 (g := (mkF m 50 #[.val (.int p0), .val (.int p1), .val (.int p2), .val (.int p3), .val (.int (p0 &&& (3 : Int32))), .val (.int x1), .val (.int x2), .val (.int x3), .val (.ref b4), .val (.ref b5), .unset, .unset, .unset, .unset] [(.int x2), (.int (1 : Int32)), (.ref b7), (.ref b7)])) rfl rfl (hb hby at_50)
  have Vw9 : Arv Z h9 b7 k7 .char (2 : Int32) [(.int (nar .char x1)), (.int (nar .char x2))] (.int (0 : Int32)) := Arv.set Ar9 qa9 Sa9 Na9 Ha9 Ga9 (fits_nar_char _) W9 1 rfl (Nat.le_of_ble_eq_true rfl)
  have Sa9 : Safe Z own_EL s.vm h8 b7 := (Safe.arv hZ.alike Vw8 (by decide))
  have XO__9 := XO__8.wr W9 g_b7
  have V4__9 := V4__8.other W9 ne_b4_b7
  have Vw6__9 := Vw6__8.other W9 ne_b5_b7
  have hR9 := hR8.trans (CHr.wr W9 Sa9 hC8)
  have hC9 := hR9.1
  have N9 := Fr.snoc X9 N8 g_b7
  have KP9 := KP8.wr W9 (Or.inr sz_b7)
  have sz9 := Nat.le_trans sz8 (Keep.of_wr W9).1
  have hk9 := Nat.le_trans hk8 (Keep.of_wr W9).1
  refine own_go (fun t k => st9 t k) ?_
  show own_Go p e below _ (T9.setTop (mkF m 51 #[.val (.int p0), .val (.int p1), .val (.int p2), .val (.int p3), .val (.int (p0 &&& (3 : Int32))), .val (.int x1), .val (.int x2), .val (.int x3), .val (.ref b4), .val (.ref b5), .unset, .unset, .unset, .unset] [(.ref b7)]))
  refine own_go (fun t k => XS.astore X9.here hx rfl (hb hby at_51) rfl rfl (l' := #[.val (.int p0), .val (.int p1), .val (.int p2), .val (.int p3), .val (.int (p0 &&& (3 : Int32))), .val (.int x1), .val (.int x2), .val (.int x3), .val (.ref b4), .val (.ref b5), .val (.ref b7), .unset, .unset, .unset]) rfl k) ?_
  show own_Go p e below _ (T9.setTop (mkF m 53 #[.val (.int p0), .val (.int p1), .val (.int p2), .val (.int p3), .val (.int (p0 &&& (3 : Int32))), .val (.int x1), .val (.int x2), .val (.int x3), .val (.ref b4), .val (.ref b5), .val (.ref b7), .unset, .unset, .unset] []))
  refine own_go (fun t k => XS.iconst X9.here hx rfl (hb hby at_53) k) ?_
  show own_Go p e below _ (T9.setTop (mkF m 54 #[.val (.int p0), .val (.int p1), .val (.int p2), .val (.int p3), .val (.int (p0 &&& (3 : Int32))), .val (.int x1), .val (.int x2), .val (.int x3), .val (.ref b4), .val (.ref b5), .val (.ref b7), .unset, .unset, .unset] [(.int (3 : Int32))]))
  obtain ⟨T10, h10, k10, X10, e10, E10, A10, st10⟩ := newP X9 hx hZ (hw _ (List.mem_of_getElem? (i := 4) rfl)) e9 (g := (mkF m 54 #[.val (.int p0), .val (.int p1), .val (.int p2), .val (.int p3), .val (.int (p0 &&& (3 : Int32))), .val (.int x1), .val (.int x2), .val (.int x3), .val (.ref b4), .val (.ref b5), .val (.ref b7), .unset, .unset, .unset] [(.int (3 : Int32))])) rfl (hb hby at_54) rfl (by decide) (cap := 3) (by decide) (by decide) (by decide) (by decide)
  obtain ⟨b10, g10⟩ : ∃ z, z = h9.size := ⟨_, rfl⟩
  rw [← g10] at A10 st10
  have g_b10 : n0 ≤ b10 := Nat.le_trans sz9 (Nat.le_of_eq g10.symm)
  have sz_b10 : h0.size ≤ b10 := Nat.le_trans KP9.1 (Nat.le_of_eq g10.symm)
  have ne_b4_b10 : b4 ≠ b10 := Nat.ne_of_lt (Nat.lt_of_lt_of_le V4__9.lt (Nat.le_of_eq g10.symm))
  have ne_b5_b10 : b5 ≠ b10 := Nat.ne_of_lt (Nat.lt_of_lt_of_le Vw6__9.lt (Nat.le_of_eq g10.symm))
  have ne_b7_b10 : b7 ≠ b10 := Nat.ne_of_lt (Nat.lt_of_lt_of_le Vw9.lt (Nat.le_of_eq g10.symm))
  have XO__10 := XO__9.ext E10
  have V4__10 := V4__9.ext E10
  have Vw6__10 := Vw6__9.ext E10
  have Vw9__10 := Vw9.ext E10
  have hR10 := hR9.trans (CHr.ext E10 hC9)
  have hC10 := hR10.1
  have sz10 := Nat.le_trans sz9 E10.1
  have KP10 := KP9.ext E10
  have hk10 := Nat.le_trans hk9 E10.1
  have V10 : Arv Z h10 b10 k10 .char (3 : Int32) [(.int (0 : Int32)), (.int (0 : Int32)), (.int (0 : Int32))] (.int (0 : Int32)) := (Arv.new A10 (by decide)).pad (pad_rep [] (.int (0 : Int32)) 3)
  refine own_go (fun t k => st10 t k) ?_
  show own_Go p e below _ (T10.setTop (mkF m 56 #[.val (.int p0), .val (.int p1), .val (.int p2), .val (.int p3), .val (.int (p0 &&& (3 : Int32))), .val (.int x1), .val (.int x2), .val (.int x3), .val (.ref b4), .val (.ref b5), .val (.ref b7), .unset, .unset, .unset] [(.ref b10)]))
  refine own_go (fun t k => XS.dup X10.here hx rfl (hb hby at_56) rfl rfl k) ?_
  show own_Go p e below _ (T10.setTop (mkF m 57 #[.val (.int p0), .val (.int p1), .val (.int p2), .val (.int p3), .val (.int (p0 &&& (3 : Int32))), .val (.int x1), .val (.int x2), .val (.int x3), .val (.ref b4), .val (.ref b5), .val (.ref b7), .unset, .unset, .unset] [(.ref b10), (.ref b10)]))
  refine own_go (fun t k => XS.iconst X10.here hx rfl (hb hby at_57) k) ?_
  show own_Go p e below _ (T10.setTop (mkF m 58 #[.val (.int p0), .val (.int p1), .val (.int p2), .val (.int p3), .val (.int (p0 &&& (3 : Int32))), .val (.int x1), .val (.int x2), .val (.int x3), .val (.ref b4), .val (.ref b5), .val (.ref b7), .unset, .unset, .unset] [(.int (0 : Int32)), (.ref b10), (.ref b10)]))
  refine own_go (fun t k => XS.iload X10.here hx rfl (hb hby at_58) rfl k) ?_
  show own_Go p e below _ (T10.setTop (mkF m 60 #[.val (.int p0), .val (.int p1), .val (.int p2), .val (.int p3), .val (.int (p0 &&& (3 : Int32))), .val (.int x1), .val (.int x2), .val (.int x3), .val (.ref b4), .val (.ref b5), .val (.ref b7), .unset, .unset, .unset] [(.int x1), (.int (0 : Int32)), (.ref b10), (.ref b10)]))
  obtain ⟨cl11, Ar11, qa11, Sa11, Na11, Ha11, Ga11⟩ := id V10
  have hin11 : ¬ ((0 : Int32) < 0 ∨ cl11.slots.size ≤ ((0 : Int32)).toNatClampNeg) := inb_of Sa11 ⟨by decide, by decide⟩
  obtain ⟨T11, h11, X11, e11, W11, st11⟩ := stC X10 hx hZ e10 Ar11 (j := (0 : Int32)) hin11 (g := (mkF m 60 #[.val (.int p0), .val (.int p1), .val (.int p2), .val (.int p3), .val (.int (p0 &&& (3 : Int32))), .val (.int x1), .val (.int x2), .val (.int x3), .val (.ref b4), .val (.ref b5), .val (.ref b7), .unset, .unset, .unset] [(.int x1), (.int (0 : Int32)), (.ref b10), (.ref b10)])) rfl rfl (hb hby at_60)
  have Vw11 : Arv Z h11 b10 k10 .char (3 : Int32) [(.int (nar .char x1)), (.int (0 : Int32)), (.int (0 : Int32))] (.int (0 : Int32)) := Arv.set Ar11 qa11 Sa11 Na11 Ha11 Ga11 (fits_nar_char _) W11 0 rfl (Nat.le_of_ble_eq_true rfl)
  have Sa11 : Safe Z own_EL s.vm h10 b10 := (Safe.arv hZ.alike V10 (by decide))
  have XO__11 := XO__10.wr W11 g_b10
  have V4__11 := V4__10.other W11 ne_b4_b10
  have Vw6__11 := Vw6__10.other W11 ne_b5_b10
  have Vw9__11 := Vw9__10.other W11 ne_b7_b10
  have hR11 := hR10.trans (CHr.wr W11 Sa11 hC10)
  have hC11 := hR11.1
  have N11 := Fr.snoc X11 N9 g_b10
  have KP11 := KP10.wr W11 (Or.inr sz_b10)
  have sz11 := Nat.le_trans sz10 (Keep.of_wr W11).1
  have hk11 := Nat.le_trans hk10 (Keep.of_wr W11).1
  refine own_go (fun t k => st11 t k) ?_
  show own_Go p e below _ (T11.setTop (mkF m 61 #[.val (.int p0), .val (.int p1), .val (.int p2), .val (.int p3), .val (.int (p0 &&& (3 : Int32))), .val (.int x1), .val (.int x2), .val (.int x3), .val (.ref b4), .val (.ref b5), .val (.ref b7), .unset, .unset, .unset] [(.ref b10)]))
  refine own_go (fun t k => XS.dup X11.here hx rfl (hb hby at_61) rfl rfl k) ?_
  show own_Go p e below _ (T11.setTop (mkF m 62 #[.val (.int p0), .val (.int p1), .val (.int p2), .val (.int p3), .val (.int (p0 &&& (3 : Int32))), .val (.int x1), .val (.int x2), .val (.int x3), .val (.ref b4), .val (.ref b5), .val (.ref b7), .unset, .unset, .unset] [(.ref b10), (.ref b10)]))
  refine own_go (fun t k => XS.iconst X11.here hx rfl (hb hby at_62) k) ?_
  show own_Go p e below _ (T11.setTop (mkF m 63 #[.val (.int p0), .val (.int p1), .val (.int p2), .val (.int p3), .val (.int (p0 &&& (3 : Int32))), .val (.int x1), .val (.int x2), .val (.int x3), .val (.ref b4), .val (.ref b5), .val (.ref b7), .unset, .unset, .unset] [(.int (1 : Int32)), (.ref b10), (.ref b10)]))
  refine own_go (fun t k => XS.iload X11.here hx rfl (hb hby at_63) rfl k) ?_
  show own_Go p e below _ (T11.setTop (mkF m 65 #[.val (.int p0), .val (.int p1), .val (.int p2), .val (.int p3), .val (.int (p0 &&& (3 : Int32))), .val (.int x1), .val (.int x2), .val (.int x3), .val (.ref b4), .val (.ref b5), .val (.ref b7), .unset, .unset, .unset] [(.int x2), (.int (1 : Int32)), (.ref b10), (.ref b10)]))
  obtain ⟨cl12, Ar12, qa12, Sa12, Na12, Ha12, Ga12⟩ := id Vw11
  have hin12 : ¬ ((1 : Int32) < 0 ∨ cl12.slots.size ≤ ((1 : Int32)).toNatClampNeg) := inb_of Sa12 ⟨by decide, by decide⟩
  obtain ⟨T12, h12, X12, e12, W12, st12⟩ := stC X11 hx hZ e11 Ar12 (j := (1 : Int32)) hin12 (g := (mkF m 65 #[.val (.int p0), .val (.int p1), .val (.int p2), .val (.int p3), .val (.int (p0 &&& (3 : Int32))), .val (.int x1), .val (.int x2), .val (.int x3), .val (.ref b4), .val (.ref b5), .val (.ref b7), .unset, .unset, .unset] [(.int x2), (.int (1 : Int32)), (.ref b10), (.ref b10)])) rfl rfl (hb hby at_65)
  have Vw12 : Arv Z h12 b10 k10 .char (3 : Int32) [(.int (nar .char x1)), (.int (nar .char x2)), (.int (0 : Int32))] (.int (0 : Int32)) := Arv.set Ar12 qa12 Sa12 Na12 Ha12 Ga12 (fits_nar_char _) W12 1 rfl (Nat.le_of_ble_eq_true rfl)
  have Sa12 : Safe Z own_EL s.vm h11 b10 := (Safe.arv hZ.alike Vw11 (by decide))
  have XO__12 := XO__11.wr W12 g_b10
  have V4__12 := V4__11.other W12 ne_b4_b10
  have Vw6__12 := Vw6__11.other W12 ne_b5_b10
  have Vw9__12 := Vw9__11.other W12 ne_b7_b10
  have hR12 := hR11.trans (CHr.wr W12 Sa12 hC11)
  have hC12 := hR12.1
  have N12 := Fr.snoc X12 N11 g_b10
  have KP12 := KP11.wr W12 (Or.inr sz_b10)
  have sz12 := Nat.le_trans sz11 (Keep.of_wr W12).1
  have hk12 := Nat.le_trans hk11 (Keep.of_wr W12).1
  refine own_go (fun t k => st12 t k) ?_
  show own_Go p e below _ (T12.setTop (mkF m 66 #[.val (.int p0), .val (.int p1), .val (.int p2), .val (.int p3), .val (.int (p0 &&& (3 : Int32))), .val (.int x1), .val (.int x2), .val (.int x3), .val (.ref b4), .val (.ref b5), .val (.ref b7), .unset, .unset, .unset] [(.ref b10)]))
  refine own_go (fun t k => XS.dup X12.here hx rfl (hb hby at_66) rfl rfl k) ?_
  show own_Go p e below _ (T12.setTop (mkF m 67 #[.val (.int p0), .val (.int p1), .val (.int p2), .val (.int p3), .val (.int (p0 &&& (3 : Int32))), .val (.int x1), .val (.int x2), .val (.int x3), .val (.ref b4), .val (.ref b5), .val (.ref b7), .unset, .unset, .unset] [(.ref b10), (.ref b10)]))
  refine own_go (fun t k => XS.iconst X12.here hx rfl (hb hby at_67) k) ?_
  show own_Go p e below _ (T12.setTop (mkF m 68 #[.val (.int p0), .val (.int p1), .val (.int p2), .val (.int p3), .val (.int (p0 &&& (3 : Int32))), .val (.int x1), .val (.int x2), .val (.int x3), .val (.ref b4), .val (.ref b5), .val (.ref b7), .unset, .unset, .unset] [(.int (2 : Int32)), (.ref b10), (.ref b10)]))
  refine own_go (fun t k => XS.iload X12.here hx rfl (hb hby at_68) rfl k) ?_
  show own_Go p e below _ (T12.setTop (mkF m 70 #[.val (.int p0), .val (.int p1), .val (.int p2), .val (.int p3), .val (.int (p0 &&& (3 : Int32))), .val (.int x1), .val (.int x2), .val (.int x3), .val (.ref b4), .val (.ref b5), .val (.ref b7), .unset, .unset, .unset] [(.int x3), (.int (2 : Int32)), (.ref b10), (.ref b10)]))
  obtain ⟨cl13, Ar13, qa13, Sa13, Na13, Ha13, Ga13⟩ := id Vw12
  have hin13 : ¬ ((2 : Int32) < 0 ∨ cl13.slots.size ≤ ((2 : Int32)).toNatClampNeg) := inb_of Sa13 ⟨by decide, by decide⟩
  obtain ⟨T13, h13, X13, e13, W13, st13⟩ := stC X12 hx hZ e12 Ar13 (j := (2 : Int32)) hin13 (g := (mkF m 70 #[.val (.int p0), .val (.int p1), .val (.int p2), .val (.int p3), .val (.int (p0 &&& (3 : Int32))), .val (.int x1), .val (.int x2), .val (.int x3), .val (.ref b4), .val (.ref b5), .val (.ref b7), .unset, .unset, .unset] [(.int x3), (.int (2 : Int32)), (.ref b10), (.ref b10)])) rfl rfl (hb hby at_70)
  have Vw13 : Arv Z h13 b10 k10 .char (3 : Int32) [(.int (nar .char x1)), (.int (nar .char x2)), (.int (nar .char x3))] (.int (0 : Int32)) := Arv.set Ar13 qa13 Sa13 Na13 Ha13 Ga13 (fits_nar_char _) W13 2 rfl (Nat.le_of_ble_eq_true rfl)
  have Sa13 : Safe Z own_EL s.vm h12 b10 := (Safe.arv hZ.alike Vw12 (by decide))
  have XO__13 := XO__12.wr W13 g_b10
  have V4__13 := V4__12.other W13 ne_b4_b10
  have Vw6__13 := Vw6__12.other W13 ne_b5_b10
  have Vw9__13 := Vw9__12.other W13 ne_b7_b10
  have hR13 := hR12.trans (CHr.wr W13 Sa13 hC12)
  have hC13 := hR13.1
  have N13 := Fr.snoc X13 N12 g_b10
  have KP13 := KP12.wr W13 (Or.inr sz_b10)
  have sz13 := Nat.le_trans sz12 (Keep.of_wr W13).1
  have hk13 := Nat.le_trans hk12 (Keep.of_wr W13).1
  refine own_go (fun t k => st13 t k) ?_
  show own_Go p e below _ (T13.setTop (mkF m 71 #[.val (.int p0), .val (.int p1), .val (.int p2), .val (.int p3), .val (.int (p0 &&& (3 : Int32))), .val (.int x1), .val (.int x2), .val (.int x3), .val (.ref b4), .val (.ref b5), .val (.ref b7), .unset, .unset, .unset] [(.ref b10)]))
  refine own_go (fun t k => XS.astore X13.here hx rfl (hb hby at_71) rfl rfl (l' := #[.val (.int p0), .val (.int p1), .val (.int p2), .val (.int p3), .val (.int (p0 &&& (3 : Int32))), .val (.int x1), .val (.int x2), .val (.int x3), .val (.ref b4), .val (.ref b5), .val (.ref b7), .val (.ref b10), .unset, .unset]) rfl k) ?_
  show own_Go p e below _ (T13.setTop (mkF m 73 #[.val (.int p0), .val (.int p1), .val (.int p2), .val (.int p3), .val (.int (p0 &&& (3 : Int32))), .val (.int x1), .val (.int x2), .val (.int x3), .val (.ref b4), .val (.ref b5), .val (.ref b7), .val (.ref b10), .unset, .unset] []))
  refine own_go (fun t k => XS.iload X13.here hx rfl (hb hby at_73) rfl k) ?_
  show own_Go p e below _ (T13.setTop (mkF m 75 #[.val (.int p0), .val (.int p1), .val (.int p2), .val (.int p3), .val (.int (p0 &&& (3 : Int32))), .val (.int x1), .val (.int x2), .val (.int x3), .val (.ref b4), .val (.ref b5), .val (.ref b7), .val (.ref b10), .unset, .unset] [(.int (p0 &&& (3 : Int32)))]))
  by_cases hc75 : (p0 &&& (3 : Int32)) = (0 : Int32)
  · refine own_go (fun t k => XS.ifNo X13.here hx rfl (hb hby at_75) rfl ((if0 _ _).trans (teq hc75).2) k) ?_
    show own_Go p e below _ (T13.setTop (mkF m 78 #[.val (.int p0), .val (.int p1), .val (.int p2), .val (.int p3), .val (.int (p0 &&& (3 : Int32))), .val (.int x1), .val (.int x2), .val (.int x3), .val (.ref b4), .val (.ref b5), .val (.ref b7), .val (.ref b10), .unset, .unset] []))
    obtain ⟨T14, h14, X14, e14, E14, A14, D14, -, st14⟩ := newO X13 hx hZ hown (hw _ (List.mem_of_getElem? (i := 5) rfl)) (hw _ (List.mem_of_getElem? (i := 6) rfl)) (hw _ (List.mem_of_getElem? (i := 7) rfl)) e13 (g := (mkF m 78 #[.val (.int p0), .val (.int p1), .val (.int p2), .val (.int p3), .val (.int (p0 &&& (3 : Int32))), .val (.int x1), .val (.int x2), .val (.int x3), .val (.ref b4), .val (.ref b5), .val (.ref b7), .val (.ref b10), .unset, .unset] [])) rfl (hb hby at_78) (by decide) (by decide)
    obtain ⟨b14, g14⟩ : ∃ z, z = h13.size := ⟨_, rfl⟩
    rw [← g14] at A14 D14 st14
    have g_b14 : n0 ≤ b14 := Nat.le_trans sz13 (Nat.le_of_eq g14.symm)
    have sz_b14 : h0.size ≤ b14 := Nat.le_trans KP13.1 (Nat.le_of_eq g14.symm)
    have ne_b4_b14 : b4 ≠ b14 := Nat.ne_of_lt (Nat.lt_of_lt_of_le V4__13.lt (Nat.le_of_eq g14.symm))
    have ne_b5_b14 : b5 ≠ b14 := Nat.ne_of_lt (Nat.lt_of_lt_of_le Vw6__13.lt (Nat.le_of_eq g14.symm))
    have ne_b7_b14 : b7 ≠ b14 := Nat.ne_of_lt (Nat.lt_of_lt_of_le Vw9__13.lt (Nat.le_of_eq g14.symm))
    have ne_b10_b14 : b10 ≠ b14 := Nat.ne_of_lt (Nat.lt_of_lt_of_le Vw13.lt (Nat.le_of_eq g14.symm))
    have XO__14 := XO__13.ext E14
    have V4__14 := V4__13.ext E14
    have Vw6__14 := Vw6__13.ext E14
    have Vw9__14 := Vw9__13.ext E14
    have Vw13__14 := Vw13.ext E14
    have hR14 := hR13.trans (CHr.ext E14 hC13)
    have hC14 := hR14.1
    have sz14 := Nat.le_trans sz13 E14.1
    have KP14 := KP13.ext E14
    have hk14 := Nat.le_trans hk13 E14.1
    have Zs14 : Safe Z own_EL s.vm h14 b14 := Safe.ext E14 hC13 (Safe.new (Nat.le_of_eq g14.symm))
    have F14_value : Fld Z h14 b14 "java/lang/String" "value" "[B" .null := D14 (Or.inr (hw _ (List.mem_of_getElem? (i := 20) rfl))) (ty := (.array .byte)) (by decide)
    have F14_coder : Fld Z h14 b14 "java/lang/String" "coder" "B" (.int (0 : Int32)) := D14 (Or.inr (hw _ (List.mem_of_getElem? (i := 21) rfl))) (ty := .byte) (by decide)
    refine own_go (fun t k => st14 t k) ?_
    show own_Go p e below _ (T14.setTop (mkF m 81 #[.val (.int p0), .val (.int p1), .val (.int p2), .val (.int p3), .val (.int (p0 &&& (3 : Int32))), .val (.int x1), .val (.int x2), .val (.int x3), .val (.ref b4), .val (.ref b5), .val (.ref b7), .val (.ref b10), .unset, .unset] [(.ref b14)]))
    refine own_go (fun t k => XS.dup X14.here hx rfl (hb hby at_81) rfl rfl k) ?_
    show own_Go p e below _ (T14.setTop (mkF m 82 #[.val (.int p0), .val (.int p1), .val (.int p2), .val (.int p3), .val (.int (p0 &&& (3 : Int32))), .val (.int x1), .val (.int x2), .val (.int x3), .val (.ref b4), .val (.ref b5), .val (.ref b7), .val (.ref b10), .unset, .unset] [(.ref b14), (.ref b14)]))
    refine own_go (fun t k => XS.aload X14.here hx rfl (hb hby at_82) rfl rfl k) ?_
    show own_Go p e below _ (T14.setTop (mkF m 84 #[.val (.int p0), .val (.int p1), .val (.int p2), .val (.int p3), .val (.int (p0 &&& (3 : Int32))), .val (.int x1), .val (.int x2), .val (.int x3), .val (.ref b4), .val (.ref b5), .val (.ref b7), .val (.ref b10), .unset, .unset] [(.ref b4), (.ref b14), (.ref b14)]))
    obtain ⟨_, _, ⟨T15, L15, k15, n15⟩, -, X15, hSq15, hgr15, ⟨Lc15, hQ15, l15, y15, z15, hC15⟩, st15⟩ := X14.specialBackS hx (y := (⟨"java/lang/String", "<init>", "([C)V"⟩ : MethodName)) rfl hown (mvT hZ (hw _ (List.mem_of_getElem? (i := 8) rfl))) (mvT hZ (hw _ (List.mem_of_getElem? (i := 9) rfl))) (mvT hZ (hw _ (List.mem_of_getElem? (i := 10) rfl))) (by decide) (own_backH (s := s) (W := 1) (rmEe l Z a0 hw [] b14 b4 k4 h14 n0 sz14 A14 F14_value F14_coder g_b14 V4__14) hZ (hw _ (List.mem_of_getElem? (i := 10) rfl)) (hw _ (List.mem_of_getElem? (i := 7) rfl)) (by decide) (by decide) hEL hC14 (allS ⟨A14.lt, Zs14⟩ all0)) (g := (mkF m 84 #[.val (.int p0), .val (.int p1), .val (.int p2), .val (.int p3), .val (.int (p0 &&& (3 : Int32))), .val (.int x1), .val (.int x2), .val (.int x3), .val (.ref b4), .val (.ref b5), .val (.ref b7), .val (.ref b10), .unset, .unset] [(.ref b4), (.ref b14), (.ref b14)])) rfl (by rw [hml]; rfl) (Steps.refl _) (a := b14) (argsL := [(.ref b4)]) (rest := [(.ref b14)]) (lenOf pd0_1 rfl) rfl (by show 2 * 0 + _ ≤ _; exact Nat.le_of_eq rfl) (hb hby at_84) (fun _ _ => ⟨rfl, e14, (by decide : 0 + 1 + 1 + 1 + 1 + 1 + 4 ≤ _), (by decide : 0 + 0 + 1 + 2 + 3 + 4 + 8 ≤ _)⟩)
    dsimp only [Pt.U, Pt.locs, Pt.cells, Pt.slots] at X15 l15 y15 z15 st15 hQ15 hSq15 hgr15 hC15
    subst l15 y15 z15
    obtain ⟨rfl, Nq15, K15, Fc15, d15, kd15, Fv15, A15⟩ := hQ15
    have N15 := Fr.app N13 Nq15
    refine own_go (fun t k => st15.trans k) ?_
    have hS15 := foldS (T := T14) hS0 (by rw [e14]; exact hk14) hSq15 hgr15
    have hZ15 : Z.Warmed39 T15.vm := State.Warmed39.trans (t := s.setVm s.vm) hZ hSq15.1
    have hown15 : T15.vm.findClass "com/example/counterledger/counterledger/OpenItemIsFlagPinLaw" = some m.cls := by rw [hSq15.1.alike.findClass]; exact hown
    have hk15 := Nat.le_refl T15.heap.size
    replace X15 : Stand p l e room_1 (s.setVm T15.vm) m #[(.int p0), (.int p1), (.int p2), (.int p3)] below meth c T15 _ _ _ := X15
    have XO__15 := XO__14.keep K15 (allS g_b14 all0)
    have V4__15 := V4__14.keep K15 (ninS ne_b4_b14 nin0)
    have Vw6__15 := Vw6__14.keep K15 (ninS ne_b5_b14 nin0)
    have Vw9__15 := Vw9__14.keep K15 (ninS ne_b7_b14 nin0)
    have Vw13__15 := Vw13__14.keep K15 (ninS ne_b10_b14 nin0)
    have A14__15 := A14.keep K15
    have Zs14__15 := hC15.safe A14.lt Zs14
    have hR15 := hR14.trans hC15
    have hD15 := hR15.1
    have KP15 := KP14.trans K15 (allS (Or.inr sz_b14) all0)
    have sz15 := Nat.le_trans sz14 K15.1
    show own_Go p e below _ (T15.setTop (mkF m 87 #[.val (.int p0), .val (.int p1), .val (.int p2), .val (.int p3), .val (.int (p0 &&& (3 : Int32))), .val (.int x1), .val (.int x2), .val (.int x3), .val (.ref b4), .val (.ref b5), .val (.ref b7), .val (.ref b10), .unset, .unset] [(.ref b14)]))
    refine own_go (fun t k => XS.astore X15.here hx rfl (hb hby at_87) rfl rfl (l' := #[.val (.int p0), .val (.int p1), .val (.int p2), .val (.int p3), .val (.int (p0 &&& (3 : Int32))), .val (.int x1), .val (.int x2), .val (.int x3), .val (.ref b4), .val (.ref b5), .val (.ref b7), .val (.ref b10), .val (.ref b14), .unset]) rfl k) ?_
    show own_Go p e below _ (T15.setTop (mkF m 89 #[.val (.int p0), .val (.int p1), .val (.int p2), .val (.int p3), .val (.int (p0 &&& (3 : Int32))), .val (.int x1), .val (.int x2), .val (.int x3), .val (.ref b4), .val (.ref b5), .val (.ref b7), .val (.ref b10), .val (.ref b14), .unset] []))
    refine own_go (fun t k => XS.goto X15.here hx rfl (pc0 := 89) (pc' := 143) rfl (hb hby at_89) (by decide) (by decide) k) ?_
    show own_Go p e below _ (T15.setTop (mkF m 143 #[.val (.int p0), .val (.int p1), .val (.int p2), .val (.int p3), .val (.int (p0 &&& (3 : Int32))), .val (.int x1), .val (.int x2), .val (.int x3), .val (.ref b4), .val (.ref b5), .val (.ref b7), .val (.ref b10), .val (.ref b14), .unset] []))
    refine own_go (fun t k => XS.iload X15.here hx rfl (hb hby at_143) rfl k) ?_
    show own_Go p e below _ (T15.setTop (mkF m 145 #[.val (.int p0), .val (.int p1), .val (.int p2), .val (.int p3), .val (.int (p0 &&& (3 : Int32))), .val (.int x1), .val (.int x2), .val (.int x3), .val (.ref b4), .val (.ref b5), .val (.ref b7), .val (.ref b10), .val (.ref b14), .unset] [(.int (p0 &&& (3 : Int32)))]))
    refine own_go (fun t k => XS.ifYes X15.here hx rfl (pc0 := 145) (pc' := 168) rfl (hb hby at_145) rfl ((if0 _ _).trans (teq hc75).1) (by decide) (by decide) k) ?_
    show own_Go p e below _ (T15.setTop (mkF m 168 #[.val (.int p0), .val (.int p1), .val (.int p2), .val (.int p3), .val (.int (p0 &&& (3 : Int32))), .val (.int x1), .val (.int x2), .val (.int x3), .val (.ref b4), .val (.ref b5), .val (.ref b7), .val (.ref b10), .val (.ref b14), .unset] []))
    refine own_go (fun t k => XS.iconst X15.here hx rfl (hb hby at_168) k) ?_
    show own_Go p e below _ (T15.setTop (mkF m 169 #[.val (.int p0), .val (.int p1), .val (.int p2), .val (.int p3), .val (.int (p0 &&& (3 : Int32))), .val (.int x1), .val (.int x2), .val (.int x3), .val (.ref b4), .val (.ref b5), .val (.ref b7), .val (.ref b10), .val (.ref b14), .unset] [(.int (1 : Int32))]))
    refine own_go (fun t k => XS.goto X15.here hx rfl (pc0 := 169) (pc' := 173) rfl (hb hby at_169) (by decide) (by decide) k) ?_
    show own_Go p e below _ (T15.setTop (mkF m 173 #[.val (.int p0), .val (.int p1), .val (.int p2), .val (.int p3), .val (.int (p0 &&& (3 : Int32))), .val (.int x1), .val (.int x2), .val (.int x3), .val (.ref b4), .val (.ref b5), .val (.ref b7), .val (.ref b10), .val (.ref b14), .unset] [(.int (1 : Int32))]))
    refine own_go (fun t k => XS.istore X15.here hx rfl (hb hby at_173) rfl (l' := #[.val (.int p0), .val (.int p1), .val (.int p2), .val (.int p3), .val (.int (p0 &&& (3 : Int32))), .val (.int x1), .val (.int x2), .val (.int x3), .val (.ref b4), .val (.ref b5), .val (.ref b7), .val (.ref b10), .val (.ref b14), .val (.int (1 : Int32))]) rfl k) ?_
    show own_Go p e below _ (T15.setTop (mkF m 175 #[.val (.int p0), .val (.int p1), .val (.int p2), .val (.int p3), .val (.int (p0 &&& (3 : Int32))), .val (.int x1), .val (.int x2), .val (.int x3), .val (.ref b4), .val (.ref b5), .val (.ref b7), .val (.ref b10), .val (.ref b14), .val (.int (1 : Int32))] []))
    refine own_go (fun t k => XS.aload X15.here hx rfl (hb hby at_175) rfl rfl k) ?_
    show own_Go p e below _ (T15.setTop (mkF m 177 #[.val (.int p0), .val (.int p1), .val (.int p2), .val (.int p3), .val (.int (p0 &&& (3 : Int32))), .val (.int x1), .val (.int x2), .val (.int x3), .val (.ref b4), .val (.ref b5), .val (.ref b7), .val (.ref b10), .val (.ref b14), .val (.int (1 : Int32))] [(.ref b14)]))
    obtain ⟨_, _, ⟨T16, L16, k16, n16⟩, -, X16, hSq16, hgr16, ⟨Lc16, hQ16, l16, y16, z16, hC16⟩, st16⟩ := callSS X15 hx (y := (⟨"com/example/counterledger/counterledger/OpenItem", "isFlag", "(Ljava/lang/String;)Z"⟩ : MethodName)) hown15 (mvT hZ15 (hw _ (List.mem_of_getElem? (i := 26) rfl))) (mvT hZ15 (hw _ (List.mem_of_getElem? (i := 27) rfl))) (mvT hZ15 (hw _ (List.mem_of_getElem? (i := 28) rfl))) (mvT hZ15 (hw _ (List.mem_of_getElem? (i := 29) rfl))) (by decide) (own_backH (s := s) (W := 0) (rmF0 l Z a0 hw [] b14 d15 kd15 cs  T15.heap n0 sz15 SC hcs XO__15 A14__15 Fc15 Fv15 A15) hZ15 (hw _ (List.mem_of_getElem? (i := 29) rfl)) (hw _ (List.mem_of_getElem? (i := 28) rfl)) (by decide) (by decide) hEL hD15 (allS ⟨A14__15.lt, Zs14__15⟩ all0)) (g := (mkF m 177 #[.val (.int p0), .val (.int p1), .val (.int p2), .val (.int p3), .val (.int (p0 &&& (3 : Int32))), .val (.int x1), .val (.int x2), .val (.int x3), .val (.ref b4), .val (.ref b5), .val (.ref b7), .val (.ref b10), .val (.ref b14), .val (.int (1 : Int32))] [(.ref b14)])) rfl (by rw [hml]; rfl) (argsL := [(.ref b14)]) (rest := []) (lenOf pd0_2 rfl) rfl (by show 2 * 0 + _ ≤ _; exact Nat.le_of_eq rfl) (hb hby at_177) (fun _ _ => ⟨rfl, rfl, (by decide : 0 + 1 + 1 + 1 + 1 + 1 + 4 + 4 ≤ _), (by decide : 0 + 0 + 1 + 2 + 3 + 4 + 8 + 16 ≤ _)⟩)
    dsimp only [Pt.U, Pt.locs, Pt.cells, Pt.slots] at X16 l16 y16 z16 st16 hQ16 hSq16 hgr16 hC16
    subst l16 y16 z16
    obtain ⟨rfl, Nq16, K16⟩ := hQ16
    have N16 := Fr.app N15 Nq16
    refine own_go (fun t k => st16.trans k) ?_
    have hS16 := foldS (T := T15) hS15 hk15 hSq16 hgr16
    have hZ16 : Z.Warmed39 T16.vm := State.Warmed39.trans (t := s.setVm T15.vm) hZ15 hSq16.1
    have hown16 : T16.vm.findClass "com/example/counterledger/counterledger/OpenItemIsFlagPinLaw" = some m.cls := by rw [hSq16.1.alike.findClass]; exact hown15
    have hk16 := Nat.le_refl T16.heap.size
    replace X16 : Stand p l e room_1 (s.setVm T16.vm) m #[(.int p0), (.int p1), (.int p2), (.int p3)] below meth c T16 _ _ _ := X16
    have XO__16 := XO__15.keep K16 all0
    have V4__16 := V4__15.keep K16 nin0
    have Vw6__16 := Vw6__15.keep K16 nin0
    have Vw9__16 := Vw9__15.keep K16 nin0
    have Vw13__16 := Vw13__15.keep K16 nin0
    have A14__16 := A14__15.keep K16
    have Fc15__16 := Fc15.keep K16 nin0
    have Fv15__16 := Fv15.keep K16 nin0
    have A15__16 := A15.keep K16 nin0
    have Zs14__16 := hC16.safe A14__15.lt Zs14__15
    have hR16 := hR15.trans hC16
    have hD16 := hR16.1
    have KP16 := KP15.trans K16 all0
    have sz16 := Nat.le_trans sz15 K16.1
    show own_Go p e below _ (T16.setTop (mkF m 180 #[.val (.int p0), .val (.int p1), .val (.int p2), .val (.int p3), .val (.int (p0 &&& (3 : Int32))), .val (.int x1), .val (.int x2), .val (.int x3), .val (.ref b4), .val (.ref b5), .val (.ref b7), .val (.ref b10), .val (.ref b14), .val (.int (1 : Int32))] [(.int (1 : Int32))]))
    refine own_go (fun t k => XS.iload X16.here hx rfl (hb hby at_180) rfl k) ?_
    show own_Go p e below _ (T16.setTop (mkF m 182 #[.val (.int p0), .val (.int p1), .val (.int p2), .val (.int p3), .val (.int (p0 &&& (3 : Int32))), .val (.int x1), .val (.int x2), .val (.int x3), .val (.ref b4), .val (.ref b5), .val (.ref b7), .val (.ref b10), .val (.ref b14), .val (.int (1 : Int32))] [(.int (1 : Int32)), (.int (1 : Int32))]))
    refine own_go (fun t k => XS.icmpNo X16.here hx rfl (hb hby at_182) rfl (teq (by decide : (1 : Int32) = (1 : Int32))).2 k) ?_
    show own_Go p e below _ (T16.setTop (mkF m 185 #[.val (.int p0), .val (.int p1), .val (.int p2), .val (.int p3), .val (.int (p0 &&& (3 : Int32))), .val (.int x1), .val (.int x2), .val (.int x3), .val (.ref b4), .val (.ref b5), .val (.ref b7), .val (.ref b10), .val (.ref b14), .val (.int (1 : Int32))] []))
    refine own_go (fun t k => XS.iconst X16.here hx rfl (hb hby at_185) k) ?_
    show own_Go p e below _ (T16.setTop (mkF m 186 #[.val (.int p0), .val (.int p1), .val (.int p2), .val (.int p3), .val (.int (p0 &&& (3 : Int32))), .val (.int x1), .val (.int x2), .val (.int x3), .val (.ref b4), .val (.ref b5), .val (.ref b7), .val (.ref b10), .val (.ref b14), .val (.int (1 : Int32))] [(.int (1 : Int32))]))
    refine own_go (fun t k => XS.goto X16.here hx rfl (pc0 := 186) (pc' := 190) rfl (hb hby at_186) (by decide) (by decide) k) ?_
    show own_Go p e below _ (T16.setTop (mkF m 190 #[.val (.int p0), .val (.int p1), .val (.int p2), .val (.int p3), .val (.int (p0 &&& (3 : Int32))), .val (.int x1), .val (.int x2), .val (.int x3), .val (.ref b4), .val (.ref b5), .val (.ref b7), .val (.ref b10), .val (.ref b14), .val (.int (1 : Int32))] [(.int (1 : Int32))]))
    have hF : CHr Z own_EL s.vm s.heap T16.vm T16.heap := by rw [hh]; exact hR16.trans (CHv.at X16 hZ16 hEL hD16)
    exact own_retNH X16 hx (t := .boolean) Bd.returns (by simp) (hb hby at_190) hS16 hk16 (⟨rfl, N16⟩) (hF) (by decide) (by decide)
  · refine own_go (fun t k => XS.ifYes X13.here hx rfl (pc0 := 75) (pc' := 92) rfl (hb hby at_75) rfl ((if0 _ _).trans (feq hc75).2) (by decide) (by decide) k) ?_
    show own_Go p e below _ (T13.setTop (mkF m 92 #[.val (.int p0), .val (.int p1), .val (.int p2), .val (.int p3), .val (.int (p0 &&& (3 : Int32))), .val (.int x1), .val (.int x2), .val (.int x3), .val (.ref b4), .val (.ref b5), .val (.ref b7), .val (.ref b10), .unset, .unset] []))
    refine own_go (fun t k => XS.iload X13.here hx rfl (hb hby at_92) rfl k) ?_
    show own_Go p e below _ (T13.setTop (mkF m 94 #[.val (.int p0), .val (.int p1), .val (.int p2), .val (.int p3), .val (.int (p0 &&& (3 : Int32))), .val (.int x1), .val (.int x2), .val (.int x3), .val (.ref b4), .val (.ref b5), .val (.ref b7), .val (.ref b10), .unset, .unset] [(.int (p0 &&& (3 : Int32)))]))
    refine own_go (fun t k => XS.iconst X13.here hx rfl (hb hby at_94) k) ?_
    show own_Go p e below _ (T13.setTop (mkF m 95 #[.val (.int p0), .val (.int p1), .val (.int p2), .val (.int p3), .val (.int (p0 &&& (3 : Int32))), .val (.int x1), .val (.int x2), .val (.int x3), .val (.ref b4), .val (.ref b5), .val (.ref b7), .val (.ref b10), .unset, .unset] [(.int (1 : Int32)), (.int (p0 &&& (3 : Int32)))]))
    by_cases hc95 : (p0 &&& (3 : Int32)) = (1 : Int32)
    · refine own_go (fun t k => XS.icmpNo X13.here hx rfl (hb hby at_95) rfl (teq hc95).2 k) ?_
      show own_Go p e below _ (T13.setTop (mkF m 98 #[.val (.int p0), .val (.int p1), .val (.int p2), .val (.int p3), .val (.int (p0 &&& (3 : Int32))), .val (.int x1), .val (.int x2), .val (.int x3), .val (.ref b4), .val (.ref b5), .val (.ref b7), .val (.ref b10), .unset, .unset] []))
      obtain ⟨T17, h17, X17, e17, E17, A17, D17, -, st17⟩ := newO X13 hx hZ hown (hw _ (List.mem_of_getElem? (i := 5) rfl)) (hw _ (List.mem_of_getElem? (i := 6) rfl)) (hw _ (List.mem_of_getElem? (i := 7) rfl)) e13 (g := (mkF m 98 #[.val (.int p0), .val (.int p1), .val (.int p2), .val (.int p3), .val (.int (p0 &&& (3 : Int32))), .val (.int x1), .val (.int x2), .val (.int x3), .val (.ref b4), .val (.ref b5), .val (.ref b7), .val (.ref b10), .unset, .unset] [])) rfl (hb hby at_98) (by decide) (by decide)
      obtain ⟨b17, g17⟩ : ∃ z, z = h13.size := ⟨_, rfl⟩
      rw [← g17] at A17 D17 st17
      have g_b17 : n0 ≤ b17 := Nat.le_trans sz13 (Nat.le_of_eq g17.symm)
      have sz_b17 : h0.size ≤ b17 := Nat.le_trans KP13.1 (Nat.le_of_eq g17.symm)
      have ne_b4_b17 : b4 ≠ b17 := Nat.ne_of_lt (Nat.lt_of_lt_of_le V4__13.lt (Nat.le_of_eq g17.symm))
      have ne_b5_b17 : b5 ≠ b17 := Nat.ne_of_lt (Nat.lt_of_lt_of_le Vw6__13.lt (Nat.le_of_eq g17.symm))
      have ne_b7_b17 : b7 ≠ b17 := Nat.ne_of_lt (Nat.lt_of_lt_of_le Vw9__13.lt (Nat.le_of_eq g17.symm))
      have ne_b10_b17 : b10 ≠ b17 := Nat.ne_of_lt (Nat.lt_of_lt_of_le Vw13.lt (Nat.le_of_eq g17.symm))
      have XO__17 := XO__13.ext E17
      have V4__17 := V4__13.ext E17
      have Vw6__17 := Vw6__13.ext E17
      have Vw9__17 := Vw9__13.ext E17
      have Vw13__17 := Vw13.ext E17
      have hR17 := hR13.trans (CHr.ext E17 hC13)
      have hC17 := hR17.1
      have sz17 := Nat.le_trans sz13 E17.1
      have KP17 := KP13.ext E17
      have hk17 := Nat.le_trans hk13 E17.1
      have Zs17 : Safe Z own_EL s.vm h17 b17 := Safe.ext E17 hC13 (Safe.new (Nat.le_of_eq g17.symm))
      have F17_value : Fld Z h17 b17 "java/lang/String" "value" "[B" .null := D17 (Or.inr (hw _ (List.mem_of_getElem? (i := 20) rfl))) (ty := (.array .byte)) (by decide)
      have F17_coder : Fld Z h17 b17 "java/lang/String" "coder" "B" (.int (0 : Int32)) := D17 (Or.inr (hw _ (List.mem_of_getElem? (i := 21) rfl))) (ty := .byte) (by decide)
      refine own_go (fun t k => st17 t k) ?_
      show own_Go p e below _ (T17.setTop (mkF m 101 #[.val (.int p0), .val (.int p1), .val (.int p2), .val (.int p3), .val (.int (p0 &&& (3 : Int32))), .val (.int x1), .val (.int x2), .val (.int x3), .val (.ref b4), .val (.ref b5), .val (.ref b7), .val (.ref b10), .unset, .unset] [(.ref b17)]))
      refine own_go (fun t k => XS.dup X17.here hx rfl (hb hby at_101) rfl rfl k) ?_
      show own_Go p e below _ (T17.setTop (mkF m 102 #[.val (.int p0), .val (.int p1), .val (.int p2), .val (.int p3), .val (.int (p0 &&& (3 : Int32))), .val (.int x1), .val (.int x2), .val (.int x3), .val (.ref b4), .val (.ref b5), .val (.ref b7), .val (.ref b10), .unset, .unset] [(.ref b17), (.ref b17)]))
      refine own_go (fun t k => XS.aload X17.here hx rfl (hb hby at_102) rfl rfl k) ?_
      show own_Go p e below _ (T17.setTop (mkF m 104 #[.val (.int p0), .val (.int p1), .val (.int p2), .val (.int p3), .val (.int (p0 &&& (3 : Int32))), .val (.int x1), .val (.int x2), .val (.int x3), .val (.ref b4), .val (.ref b5), .val (.ref b7), .val (.ref b10), .unset, .unset] [(.ref b5), (.ref b17), (.ref b17)]))
      obtain ⟨_, _, ⟨T18, L18, k18, n18⟩, -, X18, ⟨Lc18, hQ18, l18, y18, z18⟩, st18⟩ := X17.specialBack hx (y := (⟨"java/lang/String", "<init>", "([C)V"⟩ : MethodName)) rfl hown (mvT hZ (hw _ (List.mem_of_getElem? (i := 8) rfl))) (mvT hZ (hw _ (List.mem_of_getElem? (i := 9) rfl))) (mvT hZ (hw _ (List.mem_of_getElem? (i := 10) rfl))) (by decide) (backOf (W := 1) (rmL1e l Z a0 hw [] b17 b5 k5 cs (nar .char x1) h17 n0 sz17 A17 F17_value F17_coder g_b17 ne_b5_b17 Vw6__17 SC hcs XO__17 (own_hp p_x1)) hZ (hw _ (List.mem_of_getElem? (i := 10) rfl)) (hw _ (List.mem_of_getElem? (i := 7) rfl)) (by decide) (by decide)) (g := (mkF m 104 #[.val (.int p0), .val (.int p1), .val (.int p2), .val (.int p3), .val (.int (p0 &&& (3 : Int32))), .val (.int x1), .val (.int x2), .val (.int x3), .val (.ref b4), .val (.ref b5), .val (.ref b7), .val (.ref b10), .unset, .unset] [(.ref b5), (.ref b17), (.ref b17)])) rfl (by rw [hml]; rfl) (Steps.refl _) (a := b17) (argsL := [(.ref b5)]) (rest := [(.ref b17)]) (lenOf pd0_1 rfl) rfl (by show 2 * 0 + _ ≤ _; exact Nat.le_of_eq rfl) (hb hby at_104) (fun _ _ => ⟨rfl, e17, (by decide : 0 + 1 + 1 + 1 + 1 + 1 + 1 ≤ _), (by decide : 0 + 0 + 1 + 2 + 3 + 4 + 1 ≤ _)⟩)
      dsimp only [Pt.U, Pt.locs, Pt.cells, Pt.slots] at X18 l18 y18 z18 st18 hQ18
      subst l18 y18 z18
      obtain ⟨rfl, Nq18, K18, Fc18, d18, kd18, ge18, Fv18, A18⟩ := hQ18
      have N18 := Fr.app N13 Nq18
      refine own_go (fun t k => st18.trans k) ?_
      have g_d18 : n0 ≤ d18 := Nat.le_trans sz17 ge18
      have sz_d18 : h0.size ≤ d18 := Nat.le_trans KP17.1 ge18
      have ne_b4_d18 : b4 ≠ d18 := Nat.ne_of_lt (Nat.lt_of_lt_of_le V4__17.lt ge18)
      have ne_b5_d18 : b5 ≠ d18 := Nat.ne_of_lt (Nat.lt_of_lt_of_le Vw6__17.lt ge18)
      have ne_b7_d18 : b7 ≠ d18 := Nat.ne_of_lt (Nat.lt_of_lt_of_le Vw9__17.lt ge18)
      have ne_b10_d18 : b10 ≠ d18 := Nat.ne_of_lt (Nat.lt_of_lt_of_le Vw13__17.lt ge18)
      have ne_b17_d18 : b17 ≠ d18 := Nat.ne_of_lt (Nat.lt_of_lt_of_le A17.lt ge18)
      have XO__18 := XO__17.keep K18 (allS g_b17 all0)
      have V4__18 := V4__17.keep K18 (ninS ne_b4_b17 nin0)
      have Vw6__18 := Vw6__17.keep K18 (ninS ne_b5_b17 nin0)
      have Vw9__18 := Vw9__17.keep K18 (ninS ne_b7_b17 nin0)
      have Vw13__18 := Vw13__17.keep K18 (ninS ne_b10_b17 nin0)
      have A17__18 := A17.keep K18
      have Zs17__18 := Zs17.keep K18 (show ∀ y ∈ ([b17] : List Addr), Safe Z own_EL s.vm h17 y from (sfS Zs17 sf0)) hC17
      have hR18 := hR17.trans (CHr.keep K18 (show ∀ y ∈ ([b17] : List Addr), Safe Z own_EL s.vm h17 y from (sfS Zs17 sf0)) hC17)
      have hC18 := hR18.1
      have KP18 := KP17.trans K18 (allS (Or.inr sz_b17) all0)
      have sz18 := Nat.le_trans sz17 K18.1
      have hk18 := Nat.le_trans hk17 K18.1
      show own_Go p e below _ (T18.setTop (mkF m 107 #[.val (.int p0), .val (.int p1), .val (.int p2), .val (.int p3), .val (.int (p0 &&& (3 : Int32))), .val (.int x1), .val (.int x2), .val (.int x3), .val (.ref b4), .val (.ref b5), .val (.ref b7), .val (.ref b10), .unset, .unset] [(.ref b17)]))
      refine own_go (fun t k => XS.astore X18.here hx rfl (hb hby at_107) rfl rfl (l' := #[.val (.int p0), .val (.int p1), .val (.int p2), .val (.int p3), .val (.int (p0 &&& (3 : Int32))), .val (.int x1), .val (.int x2), .val (.int x3), .val (.ref b4), .val (.ref b5), .val (.ref b7), .val (.ref b10), .val (.ref b17), .unset]) rfl k) ?_
      show own_Go p e below _ (T18.setTop (mkF m 109 #[.val (.int p0), .val (.int p1), .val (.int p2), .val (.int p3), .val (.int (p0 &&& (3 : Int32))), .val (.int x1), .val (.int x2), .val (.int x3), .val (.ref b4), .val (.ref b5), .val (.ref b7), .val (.ref b10), .val (.ref b17), .unset] []))
      refine own_go (fun t k => XS.goto X18.here hx rfl (pc0 := 109) (pc' := 143) rfl (hb hby at_109) (by decide) (by decide) k) ?_
      show own_Go p e below _ (T18.setTop (mkF m 143 #[.val (.int p0), .val (.int p1), .val (.int p2), .val (.int p3), .val (.int (p0 &&& (3 : Int32))), .val (.int x1), .val (.int x2), .val (.int x3), .val (.ref b4), .val (.ref b5), .val (.ref b7), .val (.ref b10), .val (.ref b17), .unset] []))
      refine own_go (fun t k => XS.iload X18.here hx rfl (hb hby at_143) rfl k) ?_
      show own_Go p e below _ (T18.setTop (mkF m 145 #[.val (.int p0), .val (.int p1), .val (.int p2), .val (.int p3), .val (.int (p0 &&& (3 : Int32))), .val (.int x1), .val (.int x2), .val (.int x3), .val (.ref b4), .val (.ref b5), .val (.ref b7), .val (.ref b10), .val (.ref b17), .unset] [(.int (p0 &&& (3 : Int32)))]))
      refine own_go (fun t k => XS.ifNo X18.here hx rfl (hb hby at_145) rfl ((if0 _ _).trans (feq hc75).1) k) ?_
      show own_Go p e below _ (T18.setTop (mkF m 148 #[.val (.int p0), .val (.int p1), .val (.int p2), .val (.int p3), .val (.int (p0 &&& (3 : Int32))), .val (.int x1), .val (.int x2), .val (.int x3), .val (.ref b4), .val (.ref b5), .val (.ref b7), .val (.ref b10), .val (.ref b17), .unset] []))
      refine own_go (fun t k => XS.iload X18.here hx rfl (hb hby at_148) rfl k) ?_
      show own_Go p e below _ (T18.setTop (mkF m 150 #[.val (.int p0), .val (.int p1), .val (.int p2), .val (.int p3), .val (.int (p0 &&& (3 : Int32))), .val (.int x1), .val (.int x2), .val (.int x3), .val (.ref b4), .val (.ref b5), .val (.ref b7), .val (.ref b10), .val (.ref b17), .unset] [(.int (p0 &&& (3 : Int32)))]))
      refine own_go (fun t k => XS.iconst X18.here hx rfl (hb hby at_150) k) ?_
      show own_Go p e below _ (T18.setTop (mkF m 151 #[.val (.int p0), .val (.int p1), .val (.int p2), .val (.int p3), .val (.int (p0 &&& (3 : Int32))), .val (.int x1), .val (.int x2), .val (.int x3), .val (.ref b4), .val (.ref b5), .val (.ref b7), .val (.ref b10), .val (.ref b17), .unset] [(.int (1 : Int32)), (.int (p0 &&& (3 : Int32)))]))
      refine own_go (fun t k => XS.icmpNo X18.here hx rfl (hb hby at_151) rfl (teq hc95).2 k) ?_
      show own_Go p e below _ (T18.setTop (mkF m 154 #[.val (.int p0), .val (.int p1), .val (.int p2), .val (.int p3), .val (.int (p0 &&& (3 : Int32))), .val (.int x1), .val (.int x2), .val (.int x3), .val (.ref b4), .val (.ref b5), .val (.ref b7), .val (.ref b10), .val (.ref b17), .unset] []))
      refine own_go (fun t k => XS.iload X18.here hx rfl (hb hby at_154) rfl k) ?_
      show own_Go p e below _ (T18.setTop (mkF m 156 #[.val (.int p0), .val (.int p1), .val (.int p2), .val (.int p3), .val (.int (p0 &&& (3 : Int32))), .val (.int x1), .val (.int x2), .val (.int x3), .val (.ref b4), .val (.ref b5), .val (.ref b7), .val (.ref b10), .val (.ref b17), .unset] [(.int x1)]))
      refine own_go (fun t k => XS.bipush X18.here hx rfl (hb hby at_156) k) ?_
      show own_Go p e below _ (T18.setTop (mkF m 158 #[.val (.int p0), .val (.int p1), .val (.int p2), .val (.int p3), .val (.int (p0 &&& (3 : Int32))), .val (.int x1), .val (.int x2), .val (.int x3), .val (.ref b4), .val (.ref b5), .val (.ref b7), .val (.ref b10), .val (.ref b17), .unset] [(.int (89 : Int32)), (.int x1)]))
      by_cases hc158 : x1 = (89 : Int32)
      · refine own_go (fun t k => XS.icmpYes X18.here hx rfl (pc0 := 158) (pc' := 168) rfl (hb hby at_158) rfl (teq hc158).1 (by decide) (by decide) k) ?_
        show own_Go p e below _ (T18.setTop (mkF m 168 #[.val (.int p0), .val (.int p1), .val (.int p2), .val (.int p3), .val (.int (p0 &&& (3 : Int32))), .val (.int x1), .val (.int x2), .val (.int x3), .val (.ref b4), .val (.ref b5), .val (.ref b7), .val (.ref b10), .val (.ref b17), .unset] []))
        refine own_go (fun t k => XS.iconst X18.here hx rfl (hb hby at_168) k) ?_
        show own_Go p e below _ (T18.setTop (mkF m 169 #[.val (.int p0), .val (.int p1), .val (.int p2), .val (.int p3), .val (.int (p0 &&& (3 : Int32))), .val (.int x1), .val (.int x2), .val (.int x3), .val (.ref b4), .val (.ref b5), .val (.ref b7), .val (.ref b10), .val (.ref b17), .unset] [(.int (1 : Int32))]))
        refine own_go (fun t k => XS.goto X18.here hx rfl (pc0 := 169) (pc' := 173) rfl (hb hby at_169) (by decide) (by decide) k) ?_
        show own_Go p e below _ (T18.setTop (mkF m 173 #[.val (.int p0), .val (.int p1), .val (.int p2), .val (.int p3), .val (.int (p0 &&& (3 : Int32))), .val (.int x1), .val (.int x2), .val (.int x3), .val (.ref b4), .val (.ref b5), .val (.ref b7), .val (.ref b10), .val (.ref b17), .unset] [(.int (1 : Int32))]))
        refine own_go (fun t k => XS.istore X18.here hx rfl (hb hby at_173) rfl (l' := #[.val (.int p0), .val (.int p1), .val (.int p2), .val (.int p3), .val (.int (p0 &&& (3 : Int32))), .val (.int x1), .val (.int x2), .val (.int x3), .val (.ref b4), .val (.ref b5), .val (.ref b7), .val (.ref b10), .val (.ref b17), .val (.int (1 : Int32))]) rfl k) ?_
        show own_Go p e below _ (T18.setTop (mkF m 175 #[.val (.int p0), .val (.int p1), .val (.int p2), .val (.int p3), .val (.int (p0 &&& (3 : Int32))), .val (.int x1), .val (.int x2), .val (.int x3), .val (.ref b4), .val (.ref b5), .val (.ref b7), .val (.ref b10), .val (.ref b17), .val (.int (1 : Int32))] []))
        refine own_go (fun t k => XS.aload X18.here hx rfl (hb hby at_175) rfl rfl k) ?_
        show own_Go p e below _ (T18.setTop (mkF m 177 #[.val (.int p0), .val (.int p1), .val (.int p2), .val (.int p3), .val (.int (p0 &&& (3 : Int32))), .val (.int x1), .val (.int x2), .val (.int x3), .val (.ref b4), .val (.ref b5), .val (.ref b7), .val (.ref b10), .val (.ref b17), .val (.int (1 : Int32))] [(.ref b17)]))
        obtain ⟨_, _, ⟨T19, L19, k19, n19⟩, -, X19, hSq19, hgr19, ⟨Lc19, hQ19, l19, y19, z19, hC19⟩, st19⟩ := callSS X18 hx (y := (⟨"com/example/counterledger/counterledger/OpenItem", "isFlag", "(Ljava/lang/String;)Z"⟩ : MethodName)) hown (mvT hZ (hw _ (List.mem_of_getElem? (i := 26) rfl))) (mvT hZ (hw _ (List.mem_of_getElem? (i := 27) rfl))) (mvT hZ (hw _ (List.mem_of_getElem? (i := 28) rfl))) (mvT hZ (hw _ (List.mem_of_getElem? (i := 29) rfl))) (by decide) (own_backH (s := s) (W := 0) (rmF1 l Z a0 hw [] b17 d18 kd18 cs (nar .byte ((nar .char x1).toInt8.toInt32)) T18.heap n0 sz18 SC hcs XO__18 A17__18 Fc18 Fv18 A18) hZ (hw _ (List.mem_of_getElem? (i := 29) rfl)) (hw _ (List.mem_of_getElem? (i := 28) rfl)) (by decide) (by decide) hEL hC18 (allS ⟨A17__18.lt, Zs17__18⟩ all0)) (g := (mkF m 177 #[.val (.int p0), .val (.int p1), .val (.int p2), .val (.int p3), .val (.int (p0 &&& (3 : Int32))), .val (.int x1), .val (.int x2), .val (.int x3), .val (.ref b4), .val (.ref b5), .val (.ref b7), .val (.ref b10), .val (.ref b17), .val (.int (1 : Int32))] [(.ref b17)])) rfl (by rw [hml]; rfl) (argsL := [(.ref b17)]) (rest := []) (lenOf pd0_2 rfl) rfl (by show 2 * 0 + _ ≤ _; exact Nat.le_of_eq rfl) (hb hby at_177) (fun _ _ => ⟨rfl, rfl, (by decide : 0 + 1 + 1 + 1 + 1 + 1 + 1 + 4 ≤ _), (by decide : 0 + 0 + 1 + 2 + 3 + 4 + 1 + 16 ≤ _)⟩)
        dsimp only [Pt.U, Pt.locs, Pt.cells, Pt.slots] at X19 l19 y19 z19 st19 hQ19 hSq19 hgr19 hC19
        subst l19 y19 z19
        obtain ⟨rfl, Nq19, K19⟩ := hQ19
        have N19 := Fr.app N18 Nq19
        refine own_go (fun t k => st19.trans k) ?_
        have hS19 := foldS (T := T18) hS0 hk18 hSq19 hgr19
        have hZ19 : Z.Warmed39 T19.vm := State.Warmed39.trans (t := s.setVm s.vm) hZ hSq19.1
        have hown19 : T19.vm.findClass "com/example/counterledger/counterledger/OpenItemIsFlagPinLaw" = some m.cls := by rw [hSq19.1.alike.findClass]; exact hown
        have hk19 := Nat.le_refl T19.heap.size
        replace X19 : Stand p l e room_1 (s.setVm T19.vm) m #[(.int p0), (.int p1), (.int p2), (.int p3)] below meth c T19 _ _ _ := X19
        have XO__19 := XO__18.keep K19 all0
        have V4__19 := V4__18.keep K19 nin0
        have Vw6__19 := Vw6__18.keep K19 nin0
        have Vw9__19 := Vw9__18.keep K19 nin0
        have Vw13__19 := Vw13__18.keep K19 nin0
        have A17__19 := A17__18.keep K19
        have Fc18__19 := Fc18.keep K19 nin0
        have Fv18__19 := Fv18.keep K19 nin0
        have A18__19 := A18.keep K19 nin0
        have Zs17__19 := hC19.safe A17__18.lt Zs17__18
        have hR19 := hR18.trans hC19
        have hD19 := hR19.1
        have KP19 := KP18.trans K19 all0
        have sz19 := Nat.le_trans sz18 K19.1
        show own_Go p e below _ (T19.setTop (mkF m 180 #[.val (.int p0), .val (.int p1), .val (.int p2), .val (.int p3), .val (.int (p0 &&& (3 : Int32))), .val (.int x1), .val (.int x2), .val (.int x3), .val (.ref b4), .val (.ref b5), .val (.ref b7), .val (.ref b10), .val (.ref b17), .val (.int (1 : Int32))] [(.int (if (nar .byte ((nar .char x1).toInt8.toInt32)) = 89 then (1 : Int32) else if (nar .byte ((nar .char x1).toInt8.toInt32)) = 78 then 1 else 0))]))
        refine own_go (fun t k => XS.iload X19.here hx rfl (hb hby at_180) rfl k) ?_
        show own_Go p e below _ (T19.setTop (mkF m 182 #[.val (.int p0), .val (.int p1), .val (.int p2), .val (.int p3), .val (.int (p0 &&& (3 : Int32))), .val (.int x1), .val (.int x2), .val (.int x3), .val (.ref b4), .val (.ref b5), .val (.ref b7), .val (.ref b10), .val (.ref b17), .val (.int (1 : Int32))] [(.int (1 : Int32)), (.int (if (nar .byte ((nar .char x1).toInt8.toInt32)) = 89 then (1 : Int32) else if (nar .byte ((nar .char x1).toInt8.toInt32)) = 78 then 1 else 0))]))
        refine own_go (fun t k => XS.icmpNo X19.here hx rfl (hb hby at_182) rfl (teq (by simp only [own_b8 p_x1 89 (by decide), own_b8 p_x1 78 (by decide)]; simp [hc158] : (if (nar .byte ((nar .char x1).toInt8.toInt32)) = 89 then (1 : Int32) else if (nar .byte ((nar .char x1).toInt8.toInt32)) = 78 then 1 else 0) = (1 : Int32))).2 k) ?_
        show own_Go p e below _ (T19.setTop (mkF m 185 #[.val (.int p0), .val (.int p1), .val (.int p2), .val (.int p3), .val (.int (p0 &&& (3 : Int32))), .val (.int x1), .val (.int x2), .val (.int x3), .val (.ref b4), .val (.ref b5), .val (.ref b7), .val (.ref b10), .val (.ref b17), .val (.int (1 : Int32))] []))
        refine own_go (fun t k => XS.iconst X19.here hx rfl (hb hby at_185) k) ?_
        show own_Go p e below _ (T19.setTop (mkF m 186 #[.val (.int p0), .val (.int p1), .val (.int p2), .val (.int p3), .val (.int (p0 &&& (3 : Int32))), .val (.int x1), .val (.int x2), .val (.int x3), .val (.ref b4), .val (.ref b5), .val (.ref b7), .val (.ref b10), .val (.ref b17), .val (.int (1 : Int32))] [(.int (1 : Int32))]))
        refine own_go (fun t k => XS.goto X19.here hx rfl (pc0 := 186) (pc' := 190) rfl (hb hby at_186) (by decide) (by decide) k) ?_
        show own_Go p e below _ (T19.setTop (mkF m 190 #[.val (.int p0), .val (.int p1), .val (.int p2), .val (.int p3), .val (.int (p0 &&& (3 : Int32))), .val (.int x1), .val (.int x2), .val (.int x3), .val (.ref b4), .val (.ref b5), .val (.ref b7), .val (.ref b10), .val (.ref b17), .val (.int (1 : Int32))] [(.int (1 : Int32))]))
        have hF : CHr Z own_EL s.vm s.heap T19.vm T19.heap := by rw [hh]; exact hR19.trans (CHv.at X19 hZ19 hEL hD19)
        exact own_retNH X19 hx (t := .boolean) Bd.returns (by simp) (hb hby at_190) hS19 hk19 (⟨rfl, N19⟩) (hF) (by decide) (by decide)
      · refine own_go (fun t k => XS.icmpNo X18.here hx rfl (hb hby at_158) rfl (feq hc158).1 k) ?_
        show own_Go p e below _ (T18.setTop (mkF m 161 #[.val (.int p0), .val (.int p1), .val (.int p2), .val (.int p3), .val (.int (p0 &&& (3 : Int32))), .val (.int x1), .val (.int x2), .val (.int x3), .val (.ref b4), .val (.ref b5), .val (.ref b7), .val (.ref b10), .val (.ref b17), .unset] []))
        refine own_go (fun t k => XS.iload X18.here hx rfl (hb hby at_161) rfl k) ?_
        show own_Go p e below _ (T18.setTop (mkF m 163 #[.val (.int p0), .val (.int p1), .val (.int p2), .val (.int p3), .val (.int (p0 &&& (3 : Int32))), .val (.int x1), .val (.int x2), .val (.int x3), .val (.ref b4), .val (.ref b5), .val (.ref b7), .val (.ref b10), .val (.ref b17), .unset] [(.int x1)]))
        refine own_go (fun t k => XS.bipush X18.here hx rfl (hb hby at_163) k) ?_
        show own_Go p e below _ (T18.setTop (mkF m 165 #[.val (.int p0), .val (.int p1), .val (.int p2), .val (.int p3), .val (.int (p0 &&& (3 : Int32))), .val (.int x1), .val (.int x2), .val (.int x3), .val (.ref b4), .val (.ref b5), .val (.ref b7), .val (.ref b10), .val (.ref b17), .unset] [(.int (78 : Int32)), (.int x1)]))
        by_cases hc165 : x1 = (78 : Int32)
        · refine own_go (fun t k => XS.icmpNo X18.here hx rfl (hb hby at_165) rfl (teq hc165).2 k) ?_
          show own_Go p e below _ (T18.setTop (mkF m 168 #[.val (.int p0), .val (.int p1), .val (.int p2), .val (.int p3), .val (.int (p0 &&& (3 : Int32))), .val (.int x1), .val (.int x2), .val (.int x3), .val (.ref b4), .val (.ref b5), .val (.ref b7), .val (.ref b10), .val (.ref b17), .unset] []))
          refine own_go (fun t k => XS.iconst X18.here hx rfl (hb hby at_168) k) ?_
          show own_Go p e below _ (T18.setTop (mkF m 169 #[.val (.int p0), .val (.int p1), .val (.int p2), .val (.int p3), .val (.int (p0 &&& (3 : Int32))), .val (.int x1), .val (.int x2), .val (.int x3), .val (.ref b4), .val (.ref b5), .val (.ref b7), .val (.ref b10), .val (.ref b17), .unset] [(.int (1 : Int32))]))
          refine own_go (fun t k => XS.goto X18.here hx rfl (pc0 := 169) (pc' := 173) rfl (hb hby at_169) (by decide) (by decide) k) ?_
          show own_Go p e below _ (T18.setTop (mkF m 173 #[.val (.int p0), .val (.int p1), .val (.int p2), .val (.int p3), .val (.int (p0 &&& (3 : Int32))), .val (.int x1), .val (.int x2), .val (.int x3), .val (.ref b4), .val (.ref b5), .val (.ref b7), .val (.ref b10), .val (.ref b17), .unset] [(.int (1 : Int32))]))
          refine own_go (fun t k => XS.istore X18.here hx rfl (hb hby at_173) rfl (l' := #[.val (.int p0), .val (.int p1), .val (.int p2), .val (.int p3), .val (.int (p0 &&& (3 : Int32))), .val (.int x1), .val (.int x2), .val (.int x3), .val (.ref b4), .val (.ref b5), .val (.ref b7), .val (.ref b10), .val (.ref b17), .val (.int (1 : Int32))]) rfl k) ?_
          show own_Go p e below _ (T18.setTop (mkF m 175 #[.val (.int p0), .val (.int p1), .val (.int p2), .val (.int p3), .val (.int (p0 &&& (3 : Int32))), .val (.int x1), .val (.int x2), .val (.int x3), .val (.ref b4), .val (.ref b5), .val (.ref b7), .val (.ref b10), .val (.ref b17), .val (.int (1 : Int32))] []))
          refine own_go (fun t k => XS.aload X18.here hx rfl (hb hby at_175) rfl rfl k) ?_
          show own_Go p e below _ (T18.setTop (mkF m 177 #[.val (.int p0), .val (.int p1), .val (.int p2), .val (.int p3), .val (.int (p0 &&& (3 : Int32))), .val (.int x1), .val (.int x2), .val (.int x3), .val (.ref b4), .val (.ref b5), .val (.ref b7), .val (.ref b10), .val (.ref b17), .val (.int (1 : Int32))] [(.ref b17)]))
          obtain ⟨_, _, ⟨T20, L20, k20, n20⟩, -, X20, hSq20, hgr20, ⟨Lc20, hQ20, l20, y20, z20, hC20⟩, st20⟩ := callSS X18 hx (y := (⟨"com/example/counterledger/counterledger/OpenItem", "isFlag", "(Ljava/lang/String;)Z"⟩ : MethodName)) hown (mvT hZ (hw _ (List.mem_of_getElem? (i := 26) rfl))) (mvT hZ (hw _ (List.mem_of_getElem? (i := 27) rfl))) (mvT hZ (hw _ (List.mem_of_getElem? (i := 28) rfl))) (mvT hZ (hw _ (List.mem_of_getElem? (i := 29) rfl))) (by decide) (own_backH (s := s) (W := 0) (rmF1 l Z a0 hw [] b17 d18 kd18 cs (nar .byte ((nar .char x1).toInt8.toInt32)) T18.heap n0 sz18 SC hcs XO__18 A17__18 Fc18 Fv18 A18) hZ (hw _ (List.mem_of_getElem? (i := 29) rfl)) (hw _ (List.mem_of_getElem? (i := 28) rfl)) (by decide) (by decide) hEL hC18 (allS ⟨A17__18.lt, Zs17__18⟩ all0)) (g := (mkF m 177 #[.val (.int p0), .val (.int p1), .val (.int p2), .val (.int p3), .val (.int (p0 &&& (3 : Int32))), .val (.int x1), .val (.int x2), .val (.int x3), .val (.ref b4), .val (.ref b5), .val (.ref b7), .val (.ref b10), .val (.ref b17), .val (.int (1 : Int32))] [(.ref b17)])) rfl (by rw [hml]; rfl) (argsL := [(.ref b17)]) (rest := []) (lenOf pd0_2 rfl) rfl (by show 2 * 0 + _ ≤ _; exact Nat.le_of_eq rfl) (hb hby at_177) (fun _ _ => ⟨rfl, rfl, (by decide : 0 + 1 + 1 + 1 + 1 + 1 + 1 + 4 ≤ _), (by decide : 0 + 0 + 1 + 2 + 3 + 4 + 1 + 16 ≤ _)⟩)
          dsimp only [Pt.U, Pt.locs, Pt.cells, Pt.slots] at X20 l20 y20 z20 st20 hQ20 hSq20 hgr20 hC20
          subst l20 y20 z20
          obtain ⟨rfl, Nq20, K20⟩ := hQ20
          have N20 := Fr.app N18 Nq20
          refine own_go (fun t k => st20.trans k) ?_
          have hS20 := foldS (T := T18) hS0 hk18 hSq20 hgr20
          have hZ20 : Z.Warmed39 T20.vm := State.Warmed39.trans (t := s.setVm s.vm) hZ hSq20.1
          have hown20 : T20.vm.findClass "com/example/counterledger/counterledger/OpenItemIsFlagPinLaw" = some m.cls := by rw [hSq20.1.alike.findClass]; exact hown
          have hk20 := Nat.le_refl T20.heap.size
          replace X20 : Stand p l e room_1 (s.setVm T20.vm) m #[(.int p0), (.int p1), (.int p2), (.int p3)] below meth c T20 _ _ _ := X20
          have XO__20 := XO__18.keep K20 all0
          have V4__20 := V4__18.keep K20 nin0
          have Vw6__20 := Vw6__18.keep K20 nin0
          have Vw9__20 := Vw9__18.keep K20 nin0
          have Vw13__20 := Vw13__18.keep K20 nin0
          have A17__20 := A17__18.keep K20
          have Fc18__20 := Fc18.keep K20 nin0
          have Fv18__20 := Fv18.keep K20 nin0
          have A18__20 := A18.keep K20 nin0
          have Zs17__20 := hC20.safe A17__18.lt Zs17__18
          have hR20 := hR18.trans hC20
          have hD20 := hR20.1
          have KP20 := KP18.trans K20 all0
          have sz20 := Nat.le_trans sz18 K20.1
          show own_Go p e below _ (T20.setTop (mkF m 180 #[.val (.int p0), .val (.int p1), .val (.int p2), .val (.int p3), .val (.int (p0 &&& (3 : Int32))), .val (.int x1), .val (.int x2), .val (.int x3), .val (.ref b4), .val (.ref b5), .val (.ref b7), .val (.ref b10), .val (.ref b17), .val (.int (1 : Int32))] [(.int (if (nar .byte ((nar .char x1).toInt8.toInt32)) = 89 then (1 : Int32) else if (nar .byte ((nar .char x1).toInt8.toInt32)) = 78 then 1 else 0))]))
          refine own_go (fun t k => XS.iload X20.here hx rfl (hb hby at_180) rfl k) ?_
          show own_Go p e below _ (T20.setTop (mkF m 182 #[.val (.int p0), .val (.int p1), .val (.int p2), .val (.int p3), .val (.int (p0 &&& (3 : Int32))), .val (.int x1), .val (.int x2), .val (.int x3), .val (.ref b4), .val (.ref b5), .val (.ref b7), .val (.ref b10), .val (.ref b17), .val (.int (1 : Int32))] [(.int (1 : Int32)), (.int (if (nar .byte ((nar .char x1).toInt8.toInt32)) = 89 then (1 : Int32) else if (nar .byte ((nar .char x1).toInt8.toInt32)) = 78 then 1 else 0))]))
          refine own_go (fun t k => XS.icmpNo X20.here hx rfl (hb hby at_182) rfl (teq (by simp only [own_b8 p_x1 89 (by decide), own_b8 p_x1 78 (by decide)]; simp [hc158, hc165] : (if (nar .byte ((nar .char x1).toInt8.toInt32)) = 89 then (1 : Int32) else if (nar .byte ((nar .char x1).toInt8.toInt32)) = 78 then 1 else 0) = (1 : Int32))).2 k) ?_
          show own_Go p e below _ (T20.setTop (mkF m 185 #[.val (.int p0), .val (.int p1), .val (.int p2), .val (.int p3), .val (.int (p0 &&& (3 : Int32))), .val (.int x1), .val (.int x2), .val (.int x3), .val (.ref b4), .val (.ref b5), .val (.ref b7), .val (.ref b10), .val (.ref b17), .val (.int (1 : Int32))] []))
          refine own_go (fun t k => XS.iconst X20.here hx rfl (hb hby at_185) k) ?_
          show own_Go p e below _ (T20.setTop (mkF m 186 #[.val (.int p0), .val (.int p1), .val (.int p2), .val (.int p3), .val (.int (p0 &&& (3 : Int32))), .val (.int x1), .val (.int x2), .val (.int x3), .val (.ref b4), .val (.ref b5), .val (.ref b7), .val (.ref b10), .val (.ref b17), .val (.int (1 : Int32))] [(.int (1 : Int32))]))
          refine own_go (fun t k => XS.goto X20.here hx rfl (pc0 := 186) (pc' := 190) rfl (hb hby at_186) (by decide) (by decide) k) ?_
          show own_Go p e below _ (T20.setTop (mkF m 190 #[.val (.int p0), .val (.int p1), .val (.int p2), .val (.int p3), .val (.int (p0 &&& (3 : Int32))), .val (.int x1), .val (.int x2), .val (.int x3), .val (.ref b4), .val (.ref b5), .val (.ref b7), .val (.ref b10), .val (.ref b17), .val (.int (1 : Int32))] [(.int (1 : Int32))]))
          have hF : CHr Z own_EL s.vm s.heap T20.vm T20.heap := by rw [hh]; exact hR20.trans (CHv.at X20 hZ20 hEL hD20)
          exact own_retNH X20 hx (t := .boolean) Bd.returns (by simp) (hb hby at_190) hS20 hk20 (⟨rfl, N20⟩) (hF) (by decide) (by decide)
        · refine own_go (fun t k => XS.icmpYes X18.here hx rfl (pc0 := 165) (pc' := 172) rfl (hb hby at_165) rfl (feq hc165).2 (by decide) (by decide) k) ?_
          show own_Go p e below _ (T18.setTop (mkF m 172 #[.val (.int p0), .val (.int p1), .val (.int p2), .val (.int p3), .val (.int (p0 &&& (3 : Int32))), .val (.int x1), .val (.int x2), .val (.int x3), .val (.ref b4), .val (.ref b5), .val (.ref b7), .val (.ref b10), .val (.ref b17), .unset] []))
          refine own_go (fun t k => XS.iconst X18.here hx rfl (hb hby at_172) k) ?_
          show own_Go p e below _ (T18.setTop (mkF m 173 #[.val (.int p0), .val (.int p1), .val (.int p2), .val (.int p3), .val (.int (p0 &&& (3 : Int32))), .val (.int x1), .val (.int x2), .val (.int x3), .val (.ref b4), .val (.ref b5), .val (.ref b7), .val (.ref b10), .val (.ref b17), .unset] [(.int (0 : Int32))]))
          refine own_go (fun t k => XS.istore X18.here hx rfl (hb hby at_173) rfl (l' := #[.val (.int p0), .val (.int p1), .val (.int p2), .val (.int p3), .val (.int (p0 &&& (3 : Int32))), .val (.int x1), .val (.int x2), .val (.int x3), .val (.ref b4), .val (.ref b5), .val (.ref b7), .val (.ref b10), .val (.ref b17), .val (.int (0 : Int32))]) rfl k) ?_
          show own_Go p e below _ (T18.setTop (mkF m 175 #[.val (.int p0), .val (.int p1), .val (.int p2), .val (.int p3), .val (.int (p0 &&& (3 : Int32))), .val (.int x1), .val (.int x2), .val (.int x3), .val (.ref b4), .val (.ref b5), .val (.ref b7), .val (.ref b10), .val (.ref b17), .val (.int (0 : Int32))] []))
          refine own_go (fun t k => XS.aload X18.here hx rfl (hb hby at_175) rfl rfl k) ?_
          show own_Go p e below _ (T18.setTop (mkF m 177 #[.val (.int p0), .val (.int p1), .val (.int p2), .val (.int p3), .val (.int (p0 &&& (3 : Int32))), .val (.int x1), .val (.int x2), .val (.int x3), .val (.ref b4), .val (.ref b5), .val (.ref b7), .val (.ref b10), .val (.ref b17), .val (.int (0 : Int32))] [(.ref b17)]))
          obtain ⟨_, _, ⟨T21, L21, k21, n21⟩, -, X21, hSq21, hgr21, ⟨Lc21, hQ21, l21, y21, z21, hC21⟩, st21⟩ := callSS X18 hx (y := (⟨"com/example/counterledger/counterledger/OpenItem", "isFlag", "(Ljava/lang/String;)Z"⟩ : MethodName)) hown (mvT hZ (hw _ (List.mem_of_getElem? (i := 26) rfl))) (mvT hZ (hw _ (List.mem_of_getElem? (i := 27) rfl))) (mvT hZ (hw _ (List.mem_of_getElem? (i := 28) rfl))) (mvT hZ (hw _ (List.mem_of_getElem? (i := 29) rfl))) (by decide) (own_backH (s := s) (W := 0) (rmF1 l Z a0 hw [] b17 d18 kd18 cs (nar .byte ((nar .char x1).toInt8.toInt32)) T18.heap n0 sz18 SC hcs XO__18 A17__18 Fc18 Fv18 A18) hZ (hw _ (List.mem_of_getElem? (i := 29) rfl)) (hw _ (List.mem_of_getElem? (i := 28) rfl)) (by decide) (by decide) hEL hC18 (allS ⟨A17__18.lt, Zs17__18⟩ all0)) (g := (mkF m 177 #[.val (.int p0), .val (.int p1), .val (.int p2), .val (.int p3), .val (.int (p0 &&& (3 : Int32))), .val (.int x1), .val (.int x2), .val (.int x3), .val (.ref b4), .val (.ref b5), .val (.ref b7), .val (.ref b10), .val (.ref b17), .val (.int (0 : Int32))] [(.ref b17)])) rfl (by rw [hml]; rfl) (argsL := [(.ref b17)]) (rest := []) (lenOf pd0_2 rfl) rfl (by show 2 * 0 + _ ≤ _; exact Nat.le_of_eq rfl) (hb hby at_177) (fun _ _ => ⟨rfl, rfl, (by decide : 0 + 1 + 1 + 1 + 1 + 1 + 1 + 4 ≤ _), (by decide : 0 + 0 + 1 + 2 + 3 + 4 + 1 + 16 ≤ _)⟩)
          dsimp only [Pt.U, Pt.locs, Pt.cells, Pt.slots] at X21 l21 y21 z21 st21 hQ21 hSq21 hgr21 hC21
          subst l21 y21 z21
          obtain ⟨rfl, Nq21, K21⟩ := hQ21
          have N21 := Fr.app N18 Nq21
          refine own_go (fun t k => st21.trans k) ?_
          have hS21 := foldS (T := T18) hS0 hk18 hSq21 hgr21
          have hZ21 : Z.Warmed39 T21.vm := State.Warmed39.trans (t := s.setVm s.vm) hZ hSq21.1
          have hown21 : T21.vm.findClass "com/example/counterledger/counterledger/OpenItemIsFlagPinLaw" = some m.cls := by rw [hSq21.1.alike.findClass]; exact hown
          have hk21 := Nat.le_refl T21.heap.size
          replace X21 : Stand p l e room_1 (s.setVm T21.vm) m #[(.int p0), (.int p1), (.int p2), (.int p3)] below meth c T21 _ _ _ := X21
          have XO__21 := XO__18.keep K21 all0
          have V4__21 := V4__18.keep K21 nin0
          have Vw6__21 := Vw6__18.keep K21 nin0
          have Vw9__21 := Vw9__18.keep K21 nin0
          have Vw13__21 := Vw13__18.keep K21 nin0
          have A17__21 := A17__18.keep K21
          have Fc18__21 := Fc18.keep K21 nin0
          have Fv18__21 := Fv18.keep K21 nin0
          have A18__21 := A18.keep K21 nin0
          have Zs17__21 := hC21.safe A17__18.lt Zs17__18
          have hR21 := hR18.trans hC21
          have hD21 := hR21.1
          have KP21 := KP18.trans K21 all0
          have sz21 := Nat.le_trans sz18 K21.1
          show own_Go p e below _ (T21.setTop (mkF m 180 #[.val (.int p0), .val (.int p1), .val (.int p2), .val (.int p3), .val (.int (p0 &&& (3 : Int32))), .val (.int x1), .val (.int x2), .val (.int x3), .val (.ref b4), .val (.ref b5), .val (.ref b7), .val (.ref b10), .val (.ref b17), .val (.int (0 : Int32))] [(.int (if (nar .byte ((nar .char x1).toInt8.toInt32)) = 89 then (1 : Int32) else if (nar .byte ((nar .char x1).toInt8.toInt32)) = 78 then 1 else 0))]))
          refine own_go (fun t k => XS.iload X21.here hx rfl (hb hby at_180) rfl k) ?_
          show own_Go p e below _ (T21.setTop (mkF m 182 #[.val (.int p0), .val (.int p1), .val (.int p2), .val (.int p3), .val (.int (p0 &&& (3 : Int32))), .val (.int x1), .val (.int x2), .val (.int x3), .val (.ref b4), .val (.ref b5), .val (.ref b7), .val (.ref b10), .val (.ref b17), .val (.int (0 : Int32))] [(.int (0 : Int32)), (.int (if (nar .byte ((nar .char x1).toInt8.toInt32)) = 89 then (1 : Int32) else if (nar .byte ((nar .char x1).toInt8.toInt32)) = 78 then 1 else 0))]))
          refine own_go (fun t k => XS.icmpNo X21.here hx rfl (hb hby at_182) rfl (teq (by simp only [own_b8 p_x1 89 (by decide), own_b8 p_x1 78 (by decide)]; simp [hc158, hc165] : (if (nar .byte ((nar .char x1).toInt8.toInt32)) = 89 then (1 : Int32) else if (nar .byte ((nar .char x1).toInt8.toInt32)) = 78 then 1 else 0) = (0 : Int32))).2 k) ?_
          show own_Go p e below _ (T21.setTop (mkF m 185 #[.val (.int p0), .val (.int p1), .val (.int p2), .val (.int p3), .val (.int (p0 &&& (3 : Int32))), .val (.int x1), .val (.int x2), .val (.int x3), .val (.ref b4), .val (.ref b5), .val (.ref b7), .val (.ref b10), .val (.ref b17), .val (.int (0 : Int32))] []))
          refine own_go (fun t k => XS.iconst X21.here hx rfl (hb hby at_185) k) ?_
          show own_Go p e below _ (T21.setTop (mkF m 186 #[.val (.int p0), .val (.int p1), .val (.int p2), .val (.int p3), .val (.int (p0 &&& (3 : Int32))), .val (.int x1), .val (.int x2), .val (.int x3), .val (.ref b4), .val (.ref b5), .val (.ref b7), .val (.ref b10), .val (.ref b17), .val (.int (0 : Int32))] [(.int (1 : Int32))]))
          refine own_go (fun t k => XS.goto X21.here hx rfl (pc0 := 186) (pc' := 190) rfl (hb hby at_186) (by decide) (by decide) k) ?_
          show own_Go p e below _ (T21.setTop (mkF m 190 #[.val (.int p0), .val (.int p1), .val (.int p2), .val (.int p3), .val (.int (p0 &&& (3 : Int32))), .val (.int x1), .val (.int x2), .val (.int x3), .val (.ref b4), .val (.ref b5), .val (.ref b7), .val (.ref b10), .val (.ref b17), .val (.int (0 : Int32))] [(.int (1 : Int32))]))
          have hF : CHr Z own_EL s.vm s.heap T21.vm T21.heap := by rw [hh]; exact hR21.trans (CHv.at X21 hZ21 hEL hD21)
          exact own_retNH X21 hx (t := .boolean) Bd.returns (by simp) (hb hby at_190) hS21 hk21 (⟨rfl, N21⟩) (hF) (by decide) (by decide)
    · refine own_go (fun t k => XS.icmpYes X13.here hx rfl (pc0 := 95) (pc' := 112) rfl (hb hby at_95) rfl (feq hc95).2 (by decide) (by decide) k) ?_
      show own_Go p e below _ (T13.setTop (mkF m 112 #[.val (.int p0), .val (.int p1), .val (.int p2), .val (.int p3), .val (.int (p0 &&& (3 : Int32))), .val (.int x1), .val (.int x2), .val (.int x3), .val (.ref b4), .val (.ref b5), .val (.ref b7), .val (.ref b10), .unset, .unset] []))
      refine own_go (fun t k => XS.iload X13.here hx rfl (hb hby at_112) rfl k) ?_
      show own_Go p e below _ (T13.setTop (mkF m 114 #[.val (.int p0), .val (.int p1), .val (.int p2), .val (.int p3), .val (.int (p0 &&& (3 : Int32))), .val (.int x1), .val (.int x2), .val (.int x3), .val (.ref b4), .val (.ref b5), .val (.ref b7), .val (.ref b10), .unset, .unset] [(.int (p0 &&& (3 : Int32)))]))
      refine own_go (fun t k => XS.iconst X13.here hx rfl (hb hby at_114) k) ?_
      show own_Go p e below _ (T13.setTop (mkF m 115 #[.val (.int p0), .val (.int p1), .val (.int p2), .val (.int p3), .val (.int (p0 &&& (3 : Int32))), .val (.int x1), .val (.int x2), .val (.int x3), .val (.ref b4), .val (.ref b5), .val (.ref b7), .val (.ref b10), .unset, .unset] [(.int (2 : Int32)), (.int (p0 &&& (3 : Int32)))]))
      by_cases hc115 : (p0 &&& (3 : Int32)) = (2 : Int32)
      · refine own_go (fun t k => XS.icmpNo X13.here hx rfl (hb hby at_115) rfl (teq hc115).2 k) ?_
        show own_Go p e below _ (T13.setTop (mkF m 118 #[.val (.int p0), .val (.int p1), .val (.int p2), .val (.int p3), .val (.int (p0 &&& (3 : Int32))), .val (.int x1), .val (.int x2), .val (.int x3), .val (.ref b4), .val (.ref b5), .val (.ref b7), .val (.ref b10), .unset, .unset] []))
        obtain ⟨T22, h22, X22, e22, E22, A22, D22, -, st22⟩ := newO X13 hx hZ hown (hw _ (List.mem_of_getElem? (i := 5) rfl)) (hw _ (List.mem_of_getElem? (i := 6) rfl)) (hw _ (List.mem_of_getElem? (i := 7) rfl)) e13 (g := (mkF m 118 #[.val (.int p0), .val (.int p1), .val (.int p2), .val (.int p3), .val (.int (p0 &&& (3 : Int32))), .val (.int x1), .val (.int x2), .val (.int x3), .val (.ref b4), .val (.ref b5), .val (.ref b7), .val (.ref b10), .unset, .unset] [])) rfl (hb hby at_118) (by decide) (by decide)
        obtain ⟨b22, g22⟩ : ∃ z, z = h13.size := ⟨_, rfl⟩
        rw [← g22] at A22 D22 st22
        have g_b22 : n0 ≤ b22 := Nat.le_trans sz13 (Nat.le_of_eq g22.symm)
        have sz_b22 : h0.size ≤ b22 := Nat.le_trans KP13.1 (Nat.le_of_eq g22.symm)
        have ne_b4_b22 : b4 ≠ b22 := Nat.ne_of_lt (Nat.lt_of_lt_of_le V4__13.lt (Nat.le_of_eq g22.symm))
        have ne_b5_b22 : b5 ≠ b22 := Nat.ne_of_lt (Nat.lt_of_lt_of_le Vw6__13.lt (Nat.le_of_eq g22.symm))
        have ne_b7_b22 : b7 ≠ b22 := Nat.ne_of_lt (Nat.lt_of_lt_of_le Vw9__13.lt (Nat.le_of_eq g22.symm))
        have ne_b10_b22 : b10 ≠ b22 := Nat.ne_of_lt (Nat.lt_of_lt_of_le Vw13.lt (Nat.le_of_eq g22.symm))
        have XO__22 := XO__13.ext E22
        have V4__22 := V4__13.ext E22
        have Vw6__22 := Vw6__13.ext E22
        have Vw9__22 := Vw9__13.ext E22
        have Vw13__22 := Vw13.ext E22
        have hR22 := hR13.trans (CHr.ext E22 hC13)
        have hC22 := hR22.1
        have sz22 := Nat.le_trans sz13 E22.1
        have KP22 := KP13.ext E22
        have hk22 := Nat.le_trans hk13 E22.1
        have Zs22 : Safe Z own_EL s.vm h22 b22 := Safe.ext E22 hC13 (Safe.new (Nat.le_of_eq g22.symm))
        have F22_value : Fld Z h22 b22 "java/lang/String" "value" "[B" .null := D22 (Or.inr (hw _ (List.mem_of_getElem? (i := 20) rfl))) (ty := (.array .byte)) (by decide)
        have F22_coder : Fld Z h22 b22 "java/lang/String" "coder" "B" (.int (0 : Int32)) := D22 (Or.inr (hw _ (List.mem_of_getElem? (i := 21) rfl))) (ty := .byte) (by decide)
        refine own_go (fun t k => st22 t k) ?_
        show own_Go p e below _ (T22.setTop (mkF m 121 #[.val (.int p0), .val (.int p1), .val (.int p2), .val (.int p3), .val (.int (p0 &&& (3 : Int32))), .val (.int x1), .val (.int x2), .val (.int x3), .val (.ref b4), .val (.ref b5), .val (.ref b7), .val (.ref b10), .unset, .unset] [(.ref b22)]))
        refine own_go (fun t k => XS.dup X22.here hx rfl (hb hby at_121) rfl rfl k) ?_
        show own_Go p e below _ (T22.setTop (mkF m 122 #[.val (.int p0), .val (.int p1), .val (.int p2), .val (.int p3), .val (.int (p0 &&& (3 : Int32))), .val (.int x1), .val (.int x2), .val (.int x3), .val (.ref b4), .val (.ref b5), .val (.ref b7), .val (.ref b10), .unset, .unset] [(.ref b22), (.ref b22)]))
        refine own_go (fun t k => XS.aload X22.here hx rfl (hb hby at_122) rfl rfl k) ?_
        show own_Go p e below _ (T22.setTop (mkF m 124 #[.val (.int p0), .val (.int p1), .val (.int p2), .val (.int p3), .val (.int (p0 &&& (3 : Int32))), .val (.int x1), .val (.int x2), .val (.int x3), .val (.ref b4), .val (.ref b5), .val (.ref b7), .val (.ref b10), .unset, .unset] [(.ref b7), (.ref b22), (.ref b22)]))
        obtain ⟨_, _, ⟨T23, L23, k23, n23⟩, -, X23, ⟨Lc23, hQ23, l23, y23, z23⟩, st23⟩ := X22.specialBack hx (y := (⟨"java/lang/String", "<init>", "([C)V"⟩ : MethodName)) rfl hown (mvT hZ (hw _ (List.mem_of_getElem? (i := 8) rfl))) (mvT hZ (hw _ (List.mem_of_getElem? (i := 9) rfl))) (mvT hZ (hw _ (List.mem_of_getElem? (i := 10) rfl))) (by decide) (backOf (W := 1) (rmL2e l Z a0 hw [] b22 b7 k7 cs (nar .char x1) (nar .char x2) h22 n0 sz22 A22 F22_value F22_coder g_b22 ne_b7_b22 Vw9__22 SC hcs XO__22 (own_hp p_x1) (own_hp p_x2)) hZ (hw _ (List.mem_of_getElem? (i := 10) rfl)) (hw _ (List.mem_of_getElem? (i := 7) rfl)) (by decide) (by decide)) (g := (mkF m 124 #[.val (.int p0), .val (.int p1), .val (.int p2), .val (.int p3), .val (.int (p0 &&& (3 : Int32))), .val (.int x1), .val (.int x2), .val (.int x3), .val (.ref b4), .val (.ref b5), .val (.ref b7), .val (.ref b10), .unset, .unset] [(.ref b7), (.ref b22), (.ref b22)])) rfl (by rw [hml]; rfl) (Steps.refl _) (a := b22) (argsL := [(.ref b7)]) (rest := [(.ref b22)]) (lenOf pd0_1 rfl) rfl (by show 2 * 0 + _ ≤ _; exact Nat.le_of_eq rfl) (hb hby at_124) (fun _ _ => ⟨rfl, e22, (by decide : 0 + 1 + 1 + 1 + 1 + 1 + 1 ≤ _), (by decide : 0 + 0 + 1 + 2 + 3 + 4 + 2 ≤ _)⟩)
        dsimp only [Pt.U, Pt.locs, Pt.cells, Pt.slots] at X23 l23 y23 z23 st23 hQ23
        subst l23 y23 z23
        obtain ⟨rfl, Nq23, K23, Fc23, d23, kd23, ge23, Fv23, A23⟩ := hQ23
        have N23 := Fr.app N13 Nq23
        refine own_go (fun t k => st23.trans k) ?_
        have g_d23 : n0 ≤ d23 := Nat.le_trans sz22 ge23
        have sz_d23 : h0.size ≤ d23 := Nat.le_trans KP22.1 ge23
        have ne_b4_d23 : b4 ≠ d23 := Nat.ne_of_lt (Nat.lt_of_lt_of_le V4__22.lt ge23)
        have ne_b5_d23 : b5 ≠ d23 := Nat.ne_of_lt (Nat.lt_of_lt_of_le Vw6__22.lt ge23)
        have ne_b7_d23 : b7 ≠ d23 := Nat.ne_of_lt (Nat.lt_of_lt_of_le Vw9__22.lt ge23)
        have ne_b10_d23 : b10 ≠ d23 := Nat.ne_of_lt (Nat.lt_of_lt_of_le Vw13__22.lt ge23)
        have ne_b22_d23 : b22 ≠ d23 := Nat.ne_of_lt (Nat.lt_of_lt_of_le A22.lt ge23)
        have XO__23 := XO__22.keep K23 (allS g_b22 all0)
        have V4__23 := V4__22.keep K23 (ninS ne_b4_b22 nin0)
        have Vw6__23 := Vw6__22.keep K23 (ninS ne_b5_b22 nin0)
        have Vw9__23 := Vw9__22.keep K23 (ninS ne_b7_b22 nin0)
        have Vw13__23 := Vw13__22.keep K23 (ninS ne_b10_b22 nin0)
        have A22__23 := A22.keep K23
        have Zs22__23 := Zs22.keep K23 (show ∀ y ∈ ([b22] : List Addr), Safe Z own_EL s.vm h22 y from (sfS Zs22 sf0)) hC22
        have hR23 := hR22.trans (CHr.keep K23 (show ∀ y ∈ ([b22] : List Addr), Safe Z own_EL s.vm h22 y from (sfS Zs22 sf0)) hC22)
        have hC23 := hR23.1
        have KP23 := KP22.trans K23 (allS (Or.inr sz_b22) all0)
        have sz23 := Nat.le_trans sz22 K23.1
        have hk23 := Nat.le_trans hk22 K23.1
        show own_Go p e below _ (T23.setTop (mkF m 127 #[.val (.int p0), .val (.int p1), .val (.int p2), .val (.int p3), .val (.int (p0 &&& (3 : Int32))), .val (.int x1), .val (.int x2), .val (.int x3), .val (.ref b4), .val (.ref b5), .val (.ref b7), .val (.ref b10), .unset, .unset] [(.ref b22)]))
        refine own_go (fun t k => XS.astore X23.here hx rfl (hb hby at_127) rfl rfl (l' := #[.val (.int p0), .val (.int p1), .val (.int p2), .val (.int p3), .val (.int (p0 &&& (3 : Int32))), .val (.int x1), .val (.int x2), .val (.int x3), .val (.ref b4), .val (.ref b5), .val (.ref b7), .val (.ref b10), .val (.ref b22), .unset]) rfl k) ?_
        show own_Go p e below _ (T23.setTop (mkF m 129 #[.val (.int p0), .val (.int p1), .val (.int p2), .val (.int p3), .val (.int (p0 &&& (3 : Int32))), .val (.int x1), .val (.int x2), .val (.int x3), .val (.ref b4), .val (.ref b5), .val (.ref b7), .val (.ref b10), .val (.ref b22), .unset] []))
        refine own_go (fun t k => XS.goto X23.here hx rfl (pc0 := 129) (pc' := 143) rfl (hb hby at_129) (by decide) (by decide) k) ?_
        show own_Go p e below _ (T23.setTop (mkF m 143 #[.val (.int p0), .val (.int p1), .val (.int p2), .val (.int p3), .val (.int (p0 &&& (3 : Int32))), .val (.int x1), .val (.int x2), .val (.int x3), .val (.ref b4), .val (.ref b5), .val (.ref b7), .val (.ref b10), .val (.ref b22), .unset] []))
        refine own_go (fun t k => XS.iload X23.here hx rfl (hb hby at_143) rfl k) ?_
        show own_Go p e below _ (T23.setTop (mkF m 145 #[.val (.int p0), .val (.int p1), .val (.int p2), .val (.int p3), .val (.int (p0 &&& (3 : Int32))), .val (.int x1), .val (.int x2), .val (.int x3), .val (.ref b4), .val (.ref b5), .val (.ref b7), .val (.ref b10), .val (.ref b22), .unset] [(.int (p0 &&& (3 : Int32)))]))
        refine own_go (fun t k => XS.ifNo X23.here hx rfl (hb hby at_145) rfl ((if0 _ _).trans (feq hc75).1) k) ?_
        show own_Go p e below _ (T23.setTop (mkF m 148 #[.val (.int p0), .val (.int p1), .val (.int p2), .val (.int p3), .val (.int (p0 &&& (3 : Int32))), .val (.int x1), .val (.int x2), .val (.int x3), .val (.ref b4), .val (.ref b5), .val (.ref b7), .val (.ref b10), .val (.ref b22), .unset] []))
        refine own_go (fun t k => XS.iload X23.here hx rfl (hb hby at_148) rfl k) ?_
        show own_Go p e below _ (T23.setTop (mkF m 150 #[.val (.int p0), .val (.int p1), .val (.int p2), .val (.int p3), .val (.int (p0 &&& (3 : Int32))), .val (.int x1), .val (.int x2), .val (.int x3), .val (.ref b4), .val (.ref b5), .val (.ref b7), .val (.ref b10), .val (.ref b22), .unset] [(.int (p0 &&& (3 : Int32)))]))
        refine own_go (fun t k => XS.iconst X23.here hx rfl (hb hby at_150) k) ?_
        show own_Go p e below _ (T23.setTop (mkF m 151 #[.val (.int p0), .val (.int p1), .val (.int p2), .val (.int p3), .val (.int (p0 &&& (3 : Int32))), .val (.int x1), .val (.int x2), .val (.int x3), .val (.ref b4), .val (.ref b5), .val (.ref b7), .val (.ref b10), .val (.ref b22), .unset] [(.int (1 : Int32)), (.int (p0 &&& (3 : Int32)))]))
        refine own_go (fun t k => XS.icmpYes X23.here hx rfl (pc0 := 151) (pc' := 172) rfl (hb hby at_151) rfl (feq hc95).2 (by decide) (by decide) k) ?_
        show own_Go p e below _ (T23.setTop (mkF m 172 #[.val (.int p0), .val (.int p1), .val (.int p2), .val (.int p3), .val (.int (p0 &&& (3 : Int32))), .val (.int x1), .val (.int x2), .val (.int x3), .val (.ref b4), .val (.ref b5), .val (.ref b7), .val (.ref b10), .val (.ref b22), .unset] []))
        refine own_go (fun t k => XS.iconst X23.here hx rfl (hb hby at_172) k) ?_
        show own_Go p e below _ (T23.setTop (mkF m 173 #[.val (.int p0), .val (.int p1), .val (.int p2), .val (.int p3), .val (.int (p0 &&& (3 : Int32))), .val (.int x1), .val (.int x2), .val (.int x3), .val (.ref b4), .val (.ref b5), .val (.ref b7), .val (.ref b10), .val (.ref b22), .unset] [(.int (0 : Int32))]))
        refine own_go (fun t k => XS.istore X23.here hx rfl (hb hby at_173) rfl (l' := #[.val (.int p0), .val (.int p1), .val (.int p2), .val (.int p3), .val (.int (p0 &&& (3 : Int32))), .val (.int x1), .val (.int x2), .val (.int x3), .val (.ref b4), .val (.ref b5), .val (.ref b7), .val (.ref b10), .val (.ref b22), .val (.int (0 : Int32))]) rfl k) ?_
        show own_Go p e below _ (T23.setTop (mkF m 175 #[.val (.int p0), .val (.int p1), .val (.int p2), .val (.int p3), .val (.int (p0 &&& (3 : Int32))), .val (.int x1), .val (.int x2), .val (.int x3), .val (.ref b4), .val (.ref b5), .val (.ref b7), .val (.ref b10), .val (.ref b22), .val (.int (0 : Int32))] []))
        refine own_go (fun t k => XS.aload X23.here hx rfl (hb hby at_175) rfl rfl k) ?_
        show own_Go p e below _ (T23.setTop (mkF m 177 #[.val (.int p0), .val (.int p1), .val (.int p2), .val (.int p3), .val (.int (p0 &&& (3 : Int32))), .val (.int x1), .val (.int x2), .val (.int x3), .val (.ref b4), .val (.ref b5), .val (.ref b7), .val (.ref b10), .val (.ref b22), .val (.int (0 : Int32))] [(.ref b22)]))
        obtain ⟨_, _, ⟨T24, L24, k24, n24⟩, -, X24, hSq24, hgr24, ⟨Lc24, hQ24, l24, y24, z24, hC24⟩, st24⟩ := callSS X23 hx (y := (⟨"com/example/counterledger/counterledger/OpenItem", "isFlag", "(Ljava/lang/String;)Z"⟩ : MethodName)) hown (mvT hZ (hw _ (List.mem_of_getElem? (i := 26) rfl))) (mvT hZ (hw _ (List.mem_of_getElem? (i := 27) rfl))) (mvT hZ (hw _ (List.mem_of_getElem? (i := 28) rfl))) (mvT hZ (hw _ (List.mem_of_getElem? (i := 29) rfl))) (by decide) (own_backH (s := s) (W := 0) (rmF2 l Z a0 hw [] b22 d23 kd23 cs (nar .byte ((nar .char x1).toInt8.toInt32)) (nar .byte ((nar .char x2).toInt8.toInt32)) T23.heap n0 sz23 SC hcs XO__23 A22__23 Fc23 Fv23 A23) hZ (hw _ (List.mem_of_getElem? (i := 29) rfl)) (hw _ (List.mem_of_getElem? (i := 28) rfl)) (by decide) (by decide) hEL hC23 (allS ⟨A22__23.lt, Zs22__23⟩ all0)) (g := (mkF m 177 #[.val (.int p0), .val (.int p1), .val (.int p2), .val (.int p3), .val (.int (p0 &&& (3 : Int32))), .val (.int x1), .val (.int x2), .val (.int x3), .val (.ref b4), .val (.ref b5), .val (.ref b7), .val (.ref b10), .val (.ref b22), .val (.int (0 : Int32))] [(.ref b22)])) rfl (by rw [hml]; rfl) (argsL := [(.ref b22)]) (rest := []) (lenOf pd0_2 rfl) rfl (by show 2 * 0 + _ ≤ _; exact Nat.le_of_eq rfl) (hb hby at_177) (fun _ _ => ⟨rfl, rfl, (by decide : 0 + 1 + 1 + 1 + 1 + 1 + 1 + 4 ≤ _), (by decide : 0 + 0 + 1 + 2 + 3 + 4 + 2 + 16 ≤ _)⟩)
        dsimp only [Pt.U, Pt.locs, Pt.cells, Pt.slots] at X24 l24 y24 z24 st24 hQ24 hSq24 hgr24 hC24
        subst l24 y24 z24
        obtain ⟨rfl, Nq24, K24⟩ := hQ24
        have N24 := Fr.app N23 Nq24
        refine own_go (fun t k => st24.trans k) ?_
        have hS24 := foldS (T := T23) hS0 hk23 hSq24 hgr24
        have hZ24 : Z.Warmed39 T24.vm := State.Warmed39.trans (t := s.setVm s.vm) hZ hSq24.1
        have hown24 : T24.vm.findClass "com/example/counterledger/counterledger/OpenItemIsFlagPinLaw" = some m.cls := by rw [hSq24.1.alike.findClass]; exact hown
        have hk24 := Nat.le_refl T24.heap.size
        replace X24 : Stand p l e room_1 (s.setVm T24.vm) m #[(.int p0), (.int p1), (.int p2), (.int p3)] below meth c T24 _ _ _ := X24
        have XO__24 := XO__23.keep K24 all0
        have V4__24 := V4__23.keep K24 nin0
        have Vw6__24 := Vw6__23.keep K24 nin0
        have Vw9__24 := Vw9__23.keep K24 nin0
        have Vw13__24 := Vw13__23.keep K24 nin0
        have A22__24 := A22__23.keep K24
        have Fc23__24 := Fc23.keep K24 nin0
        have Fv23__24 := Fv23.keep K24 nin0
        have A23__24 := A23.keep K24 nin0
        have Zs22__24 := hC24.safe A22__23.lt Zs22__23
        have hR24 := hR23.trans hC24
        have hD24 := hR24.1
        have KP24 := KP23.trans K24 all0
        have sz24 := Nat.le_trans sz23 K24.1
        show own_Go p e below _ (T24.setTop (mkF m 180 #[.val (.int p0), .val (.int p1), .val (.int p2), .val (.int p3), .val (.int (p0 &&& (3 : Int32))), .val (.int x1), .val (.int x2), .val (.int x3), .val (.ref b4), .val (.ref b5), .val (.ref b7), .val (.ref b10), .val (.ref b22), .val (.int (0 : Int32))] [(.int (0 : Int32))]))
        refine own_go (fun t k => XS.iload X24.here hx rfl (hb hby at_180) rfl k) ?_
        show own_Go p e below _ (T24.setTop (mkF m 182 #[.val (.int p0), .val (.int p1), .val (.int p2), .val (.int p3), .val (.int (p0 &&& (3 : Int32))), .val (.int x1), .val (.int x2), .val (.int x3), .val (.ref b4), .val (.ref b5), .val (.ref b7), .val (.ref b10), .val (.ref b22), .val (.int (0 : Int32))] [(.int (0 : Int32)), (.int (0 : Int32))]))
        refine own_go (fun t k => XS.icmpNo X24.here hx rfl (hb hby at_182) rfl (teq (by decide : (0 : Int32) = (0 : Int32))).2 k) ?_
        show own_Go p e below _ (T24.setTop (mkF m 185 #[.val (.int p0), .val (.int p1), .val (.int p2), .val (.int p3), .val (.int (p0 &&& (3 : Int32))), .val (.int x1), .val (.int x2), .val (.int x3), .val (.ref b4), .val (.ref b5), .val (.ref b7), .val (.ref b10), .val (.ref b22), .val (.int (0 : Int32))] []))
        refine own_go (fun t k => XS.iconst X24.here hx rfl (hb hby at_185) k) ?_
        show own_Go p e below _ (T24.setTop (mkF m 186 #[.val (.int p0), .val (.int p1), .val (.int p2), .val (.int p3), .val (.int (p0 &&& (3 : Int32))), .val (.int x1), .val (.int x2), .val (.int x3), .val (.ref b4), .val (.ref b5), .val (.ref b7), .val (.ref b10), .val (.ref b22), .val (.int (0 : Int32))] [(.int (1 : Int32))]))
        refine own_go (fun t k => XS.goto X24.here hx rfl (pc0 := 186) (pc' := 190) rfl (hb hby at_186) (by decide) (by decide) k) ?_
        show own_Go p e below _ (T24.setTop (mkF m 190 #[.val (.int p0), .val (.int p1), .val (.int p2), .val (.int p3), .val (.int (p0 &&& (3 : Int32))), .val (.int x1), .val (.int x2), .val (.int x3), .val (.ref b4), .val (.ref b5), .val (.ref b7), .val (.ref b10), .val (.ref b22), .val (.int (0 : Int32))] [(.int (1 : Int32))]))
        have hF : CHr Z own_EL s.vm s.heap T24.vm T24.heap := by rw [hh]; exact hR24.trans (CHv.at X24 hZ24 hEL hD24)
        exact own_retNH X24 hx (t := .boolean) Bd.returns (by simp) (hb hby at_190) hS24 hk24 (⟨rfl, N24⟩) (hF) (by decide) (by decide)
      · refine own_go (fun t k => XS.icmpYes X13.here hx rfl (pc0 := 115) (pc' := 132) rfl (hb hby at_115) rfl (feq hc115).2 (by decide) (by decide) k) ?_
        show own_Go p e below _ (T13.setTop (mkF m 132 #[.val (.int p0), .val (.int p1), .val (.int p2), .val (.int p3), .val (.int (p0 &&& (3 : Int32))), .val (.int x1), .val (.int x2), .val (.int x3), .val (.ref b4), .val (.ref b5), .val (.ref b7), .val (.ref b10), .unset, .unset] []))
        obtain ⟨T25, h25, X25, e25, E25, A25, D25, -, st25⟩ := newO X13 hx hZ hown (hw _ (List.mem_of_getElem? (i := 5) rfl)) (hw _ (List.mem_of_getElem? (i := 6) rfl)) (hw _ (List.mem_of_getElem? (i := 7) rfl)) e13 (g := (mkF m 132 #[.val (.int p0), .val (.int p1), .val (.int p2), .val (.int p3), .val (.int (p0 &&& (3 : Int32))), .val (.int x1), .val (.int x2), .val (.int x3), .val (.ref b4), .val (.ref b5), .val (.ref b7), .val (.ref b10), .unset, .unset] [])) rfl (hb hby at_132) (by decide) (by decide)
        obtain ⟨b25, g25⟩ : ∃ z, z = h13.size := ⟨_, rfl⟩
        rw [← g25] at A25 D25 st25
        have g_b25 : n0 ≤ b25 := Nat.le_trans sz13 (Nat.le_of_eq g25.symm)
        have sz_b25 : h0.size ≤ b25 := Nat.le_trans KP13.1 (Nat.le_of_eq g25.symm)
        have ne_b4_b25 : b4 ≠ b25 := Nat.ne_of_lt (Nat.lt_of_lt_of_le V4__13.lt (Nat.le_of_eq g25.symm))
        have ne_b5_b25 : b5 ≠ b25 := Nat.ne_of_lt (Nat.lt_of_lt_of_le Vw6__13.lt (Nat.le_of_eq g25.symm))
        have ne_b7_b25 : b7 ≠ b25 := Nat.ne_of_lt (Nat.lt_of_lt_of_le Vw9__13.lt (Nat.le_of_eq g25.symm))
        have ne_b10_b25 : b10 ≠ b25 := Nat.ne_of_lt (Nat.lt_of_lt_of_le Vw13.lt (Nat.le_of_eq g25.symm))
        have XO__25 := XO__13.ext E25
        have V4__25 := V4__13.ext E25
        have Vw6__25 := Vw6__13.ext E25
        have Vw9__25 := Vw9__13.ext E25
        have Vw13__25 := Vw13.ext E25
        have hR25 := hR13.trans (CHr.ext E25 hC13)
        have hC25 := hR25.1
        have sz25 := Nat.le_trans sz13 E25.1
        have KP25 := KP13.ext E25
        have hk25 := Nat.le_trans hk13 E25.1
        have Zs25 : Safe Z own_EL s.vm h25 b25 := Safe.ext E25 hC13 (Safe.new (Nat.le_of_eq g25.symm))
        have F25_value : Fld Z h25 b25 "java/lang/String" "value" "[B" .null := D25 (Or.inr (hw _ (List.mem_of_getElem? (i := 20) rfl))) (ty := (.array .byte)) (by decide)
        have F25_coder : Fld Z h25 b25 "java/lang/String" "coder" "B" (.int (0 : Int32)) := D25 (Or.inr (hw _ (List.mem_of_getElem? (i := 21) rfl))) (ty := .byte) (by decide)
        refine own_go (fun t k => st25 t k) ?_
        show own_Go p e below _ (T25.setTop (mkF m 135 #[.val (.int p0), .val (.int p1), .val (.int p2), .val (.int p3), .val (.int (p0 &&& (3 : Int32))), .val (.int x1), .val (.int x2), .val (.int x3), .val (.ref b4), .val (.ref b5), .val (.ref b7), .val (.ref b10), .unset, .unset] [(.ref b25)]))
        refine own_go (fun t k => XS.dup X25.here hx rfl (hb hby at_135) rfl rfl k) ?_
        show own_Go p e below _ (T25.setTop (mkF m 136 #[.val (.int p0), .val (.int p1), .val (.int p2), .val (.int p3), .val (.int (p0 &&& (3 : Int32))), .val (.int x1), .val (.int x2), .val (.int x3), .val (.ref b4), .val (.ref b5), .val (.ref b7), .val (.ref b10), .unset, .unset] [(.ref b25), (.ref b25)]))
        refine own_go (fun t k => XS.aload X25.here hx rfl (hb hby at_136) rfl rfl k) ?_
        show own_Go p e below _ (T25.setTop (mkF m 138 #[.val (.int p0), .val (.int p1), .val (.int p2), .val (.int p3), .val (.int (p0 &&& (3 : Int32))), .val (.int x1), .val (.int x2), .val (.int x3), .val (.ref b4), .val (.ref b5), .val (.ref b7), .val (.ref b10), .unset, .unset] [(.ref b10), (.ref b25), (.ref b25)]))
        obtain ⟨_, _, ⟨T26, L26, k26, n26⟩, -, X26, ⟨Lc26, hQ26, l26, y26, z26⟩, st26⟩ := X25.specialBack hx (y := (⟨"java/lang/String", "<init>", "([C)V"⟩ : MethodName)) rfl hown (mvT hZ (hw _ (List.mem_of_getElem? (i := 8) rfl))) (mvT hZ (hw _ (List.mem_of_getElem? (i := 9) rfl))) (mvT hZ (hw _ (List.mem_of_getElem? (i := 10) rfl))) (by decide) (backOf (W := 1) (rmL3e l Z a0 hw [] b25 b10 k10 cs (nar .char x1) (nar .char x2) (nar .char x3) h25 n0 sz25 A25 F25_value F25_coder g_b25 ne_b10_b25 Vw13__25 SC hcs XO__25 (own_hp p_x1) (own_hp p_x2) (own_hp p_x3)) hZ (hw _ (List.mem_of_getElem? (i := 10) rfl)) (hw _ (List.mem_of_getElem? (i := 7) rfl)) (by decide) (by decide)) (g := (mkF m 138 #[.val (.int p0), .val (.int p1), .val (.int p2), .val (.int p3), .val (.int (p0 &&& (3 : Int32))), .val (.int x1), .val (.int x2), .val (.int x3), .val (.ref b4), .val (.ref b5), .val (.ref b7), .val (.ref b10), .unset, .unset] [(.ref b10), (.ref b25), (.ref b25)])) rfl (by rw [hml]; rfl) (Steps.refl _) (a := b25) (argsL := [(.ref b10)]) (rest := [(.ref b25)]) (lenOf pd0_1 rfl) rfl (by show 2 * 0 + _ ≤ _; exact Nat.le_of_eq rfl) (hb hby at_138) (fun _ _ => ⟨rfl, e25, (by decide : 0 + 1 + 1 + 1 + 1 + 1 + 1 ≤ _), (by decide : 0 + 0 + 1 + 2 + 3 + 4 + 3 ≤ _)⟩)
        dsimp only [Pt.U, Pt.locs, Pt.cells, Pt.slots] at X26 l26 y26 z26 st26 hQ26
        subst l26 y26 z26
        obtain ⟨rfl, Nq26, K26, Fc26, d26, kd26, ge26, Fv26, A26⟩ := hQ26
        have N26 := Fr.app N13 Nq26
        refine own_go (fun t k => st26.trans k) ?_
        have g_d26 : n0 ≤ d26 := Nat.le_trans sz25 ge26
        have sz_d26 : h0.size ≤ d26 := Nat.le_trans KP25.1 ge26
        have ne_b4_d26 : b4 ≠ d26 := Nat.ne_of_lt (Nat.lt_of_lt_of_le V4__25.lt ge26)
        have ne_b5_d26 : b5 ≠ d26 := Nat.ne_of_lt (Nat.lt_of_lt_of_le Vw6__25.lt ge26)
        have ne_b7_d26 : b7 ≠ d26 := Nat.ne_of_lt (Nat.lt_of_lt_of_le Vw9__25.lt ge26)
        have ne_b10_d26 : b10 ≠ d26 := Nat.ne_of_lt (Nat.lt_of_lt_of_le Vw13__25.lt ge26)
        have ne_b25_d26 : b25 ≠ d26 := Nat.ne_of_lt (Nat.lt_of_lt_of_le A25.lt ge26)
        have XO__26 := XO__25.keep K26 (allS g_b25 all0)
        have V4__26 := V4__25.keep K26 (ninS ne_b4_b25 nin0)
        have Vw6__26 := Vw6__25.keep K26 (ninS ne_b5_b25 nin0)
        have Vw9__26 := Vw9__25.keep K26 (ninS ne_b7_b25 nin0)
        have Vw13__26 := Vw13__25.keep K26 (ninS ne_b10_b25 nin0)
        have A25__26 := A25.keep K26
        have Zs25__26 := Zs25.keep K26 (show ∀ y ∈ ([b25] : List Addr), Safe Z own_EL s.vm h25 y from (sfS Zs25 sf0)) hC25
        have hR26 := hR25.trans (CHr.keep K26 (show ∀ y ∈ ([b25] : List Addr), Safe Z own_EL s.vm h25 y from (sfS Zs25 sf0)) hC25)
        have hC26 := hR26.1
        have KP26 := KP25.trans K26 (allS (Or.inr sz_b25) all0)
        have sz26 := Nat.le_trans sz25 K26.1
        have hk26 := Nat.le_trans hk25 K26.1
        show own_Go p e below _ (T26.setTop (mkF m 141 #[.val (.int p0), .val (.int p1), .val (.int p2), .val (.int p3), .val (.int (p0 &&& (3 : Int32))), .val (.int x1), .val (.int x2), .val (.int x3), .val (.ref b4), .val (.ref b5), .val (.ref b7), .val (.ref b10), .unset, .unset] [(.ref b25)]))
        refine own_go (fun t k => XS.astore X26.here hx rfl (hb hby at_141) rfl rfl (l' := #[.val (.int p0), .val (.int p1), .val (.int p2), .val (.int p3), .val (.int (p0 &&& (3 : Int32))), .val (.int x1), .val (.int x2), .val (.int x3), .val (.ref b4), .val (.ref b5), .val (.ref b7), .val (.ref b10), .val (.ref b25), .unset]) rfl k) ?_
        show own_Go p e below _ (T26.setTop (mkF m 143 #[.val (.int p0), .val (.int p1), .val (.int p2), .val (.int p3), .val (.int (p0 &&& (3 : Int32))), .val (.int x1), .val (.int x2), .val (.int x3), .val (.ref b4), .val (.ref b5), .val (.ref b7), .val (.ref b10), .val (.ref b25), .unset] []))
        refine own_go (fun t k => XS.iload X26.here hx rfl (hb hby at_143) rfl k) ?_
        show own_Go p e below _ (T26.setTop (mkF m 145 #[.val (.int p0), .val (.int p1), .val (.int p2), .val (.int p3), .val (.int (p0 &&& (3 : Int32))), .val (.int x1), .val (.int x2), .val (.int x3), .val (.ref b4), .val (.ref b5), .val (.ref b7), .val (.ref b10), .val (.ref b25), .unset] [(.int (p0 &&& (3 : Int32)))]))
        refine own_go (fun t k => XS.ifNo X26.here hx rfl (hb hby at_145) rfl ((if0 _ _).trans (feq hc75).1) k) ?_
        show own_Go p e below _ (T26.setTop (mkF m 148 #[.val (.int p0), .val (.int p1), .val (.int p2), .val (.int p3), .val (.int (p0 &&& (3 : Int32))), .val (.int x1), .val (.int x2), .val (.int x3), .val (.ref b4), .val (.ref b5), .val (.ref b7), .val (.ref b10), .val (.ref b25), .unset] []))
        refine own_go (fun t k => XS.iload X26.here hx rfl (hb hby at_148) rfl k) ?_
        show own_Go p e below _ (T26.setTop (mkF m 150 #[.val (.int p0), .val (.int p1), .val (.int p2), .val (.int p3), .val (.int (p0 &&& (3 : Int32))), .val (.int x1), .val (.int x2), .val (.int x3), .val (.ref b4), .val (.ref b5), .val (.ref b7), .val (.ref b10), .val (.ref b25), .unset] [(.int (p0 &&& (3 : Int32)))]))
        refine own_go (fun t k => XS.iconst X26.here hx rfl (hb hby at_150) k) ?_
        show own_Go p e below _ (T26.setTop (mkF m 151 #[.val (.int p0), .val (.int p1), .val (.int p2), .val (.int p3), .val (.int (p0 &&& (3 : Int32))), .val (.int x1), .val (.int x2), .val (.int x3), .val (.ref b4), .val (.ref b5), .val (.ref b7), .val (.ref b10), .val (.ref b25), .unset] [(.int (1 : Int32)), (.int (p0 &&& (3 : Int32)))]))
        refine own_go (fun t k => XS.icmpYes X26.here hx rfl (pc0 := 151) (pc' := 172) rfl (hb hby at_151) rfl (feq hc95).2 (by decide) (by decide) k) ?_
        show own_Go p e below _ (T26.setTop (mkF m 172 #[.val (.int p0), .val (.int p1), .val (.int p2), .val (.int p3), .val (.int (p0 &&& (3 : Int32))), .val (.int x1), .val (.int x2), .val (.int x3), .val (.ref b4), .val (.ref b5), .val (.ref b7), .val (.ref b10), .val (.ref b25), .unset] []))
        refine own_go (fun t k => XS.iconst X26.here hx rfl (hb hby at_172) k) ?_
        show own_Go p e below _ (T26.setTop (mkF m 173 #[.val (.int p0), .val (.int p1), .val (.int p2), .val (.int p3), .val (.int (p0 &&& (3 : Int32))), .val (.int x1), .val (.int x2), .val (.int x3), .val (.ref b4), .val (.ref b5), .val (.ref b7), .val (.ref b10), .val (.ref b25), .unset] [(.int (0 : Int32))]))
        refine own_go (fun t k => XS.istore X26.here hx rfl (hb hby at_173) rfl (l' := #[.val (.int p0), .val (.int p1), .val (.int p2), .val (.int p3), .val (.int (p0 &&& (3 : Int32))), .val (.int x1), .val (.int x2), .val (.int x3), .val (.ref b4), .val (.ref b5), .val (.ref b7), .val (.ref b10), .val (.ref b25), .val (.int (0 : Int32))]) rfl k) ?_
        show own_Go p e below _ (T26.setTop (mkF m 175 #[.val (.int p0), .val (.int p1), .val (.int p2), .val (.int p3), .val (.int (p0 &&& (3 : Int32))), .val (.int x1), .val (.int x2), .val (.int x3), .val (.ref b4), .val (.ref b5), .val (.ref b7), .val (.ref b10), .val (.ref b25), .val (.int (0 : Int32))] []))
        refine own_go (fun t k => XS.aload X26.here hx rfl (hb hby at_175) rfl rfl k) ?_
        show own_Go p e below _ (T26.setTop (mkF m 177 #[.val (.int p0), .val (.int p1), .val (.int p2), .val (.int p3), .val (.int (p0 &&& (3 : Int32))), .val (.int x1), .val (.int x2), .val (.int x3), .val (.ref b4), .val (.ref b5), .val (.ref b7), .val (.ref b10), .val (.ref b25), .val (.int (0 : Int32))] [(.ref b25)]))
        obtain ⟨_, _, ⟨T27, L27, k27, n27⟩, -, X27, hSq27, hgr27, ⟨Lc27, hQ27, l27, y27, z27, hC27⟩, st27⟩ := callSS X26 hx (y := (⟨"com/example/counterledger/counterledger/OpenItem", "isFlag", "(Ljava/lang/String;)Z"⟩ : MethodName)) hown (mvT hZ (hw _ (List.mem_of_getElem? (i := 26) rfl))) (mvT hZ (hw _ (List.mem_of_getElem? (i := 27) rfl))) (mvT hZ (hw _ (List.mem_of_getElem? (i := 28) rfl))) (mvT hZ (hw _ (List.mem_of_getElem? (i := 29) rfl))) (by decide) (own_backH (s := s) (W := 0) (rmF3 l Z a0 hw [] b25 d26 kd26 cs (nar .byte ((nar .char x1).toInt8.toInt32)) (nar .byte ((nar .char x2).toInt8.toInt32)) (nar .byte ((nar .char x3).toInt8.toInt32)) T26.heap n0 sz26 SC hcs XO__26 A25__26 Fc26 Fv26 A26) hZ (hw _ (List.mem_of_getElem? (i := 29) rfl)) (hw _ (List.mem_of_getElem? (i := 28) rfl)) (by decide) (by decide) hEL hC26 (allS ⟨A25__26.lt, Zs25__26⟩ all0)) (g := (mkF m 177 #[.val (.int p0), .val (.int p1), .val (.int p2), .val (.int p3), .val (.int (p0 &&& (3 : Int32))), .val (.int x1), .val (.int x2), .val (.int x3), .val (.ref b4), .val (.ref b5), .val (.ref b7), .val (.ref b10), .val (.ref b25), .val (.int (0 : Int32))] [(.ref b25)])) rfl (by rw [hml]; rfl) (argsL := [(.ref b25)]) (rest := []) (lenOf pd0_2 rfl) rfl (by show 2 * 0 + _ ≤ _; exact Nat.le_of_eq rfl) (hb hby at_177) (fun _ _ => ⟨rfl, rfl, (by decide : 0 + 1 + 1 + 1 + 1 + 1 + 1 + 4 ≤ _), (by decide : 0 + 0 + 1 + 2 + 3 + 4 + 3 + 16 ≤ _)⟩)
        dsimp only [Pt.U, Pt.locs, Pt.cells, Pt.slots] at X27 l27 y27 z27 st27 hQ27 hSq27 hgr27 hC27
        subst l27 y27 z27
        obtain ⟨rfl, Nq27, K27⟩ := hQ27
        have N27 := Fr.app N26 Nq27
        refine own_go (fun t k => st27.trans k) ?_
        have hS27 := foldS (T := T26) hS0 hk26 hSq27 hgr27
        have hZ27 : Z.Warmed39 T27.vm := State.Warmed39.trans (t := s.setVm s.vm) hZ hSq27.1
        have hown27 : T27.vm.findClass "com/example/counterledger/counterledger/OpenItemIsFlagPinLaw" = some m.cls := by rw [hSq27.1.alike.findClass]; exact hown
        have hk27 := Nat.le_refl T27.heap.size
        replace X27 : Stand p l e room_1 (s.setVm T27.vm) m #[(.int p0), (.int p1), (.int p2), (.int p3)] below meth c T27 _ _ _ := X27
        have XO__27 := XO__26.keep K27 all0
        have V4__27 := V4__26.keep K27 nin0
        have Vw6__27 := Vw6__26.keep K27 nin0
        have Vw9__27 := Vw9__26.keep K27 nin0
        have Vw13__27 := Vw13__26.keep K27 nin0
        have A25__27 := A25__26.keep K27
        have Fc26__27 := Fc26.keep K27 nin0
        have Fv26__27 := Fv26.keep K27 nin0
        have A26__27 := A26.keep K27 nin0
        have Zs25__27 := hC27.safe A25__26.lt Zs25__26
        have hR27 := hR26.trans hC27
        have hD27 := hR27.1
        have KP27 := KP26.trans K27 all0
        have sz27 := Nat.le_trans sz26 K27.1
        show own_Go p e below _ (T27.setTop (mkF m 180 #[.val (.int p0), .val (.int p1), .val (.int p2), .val (.int p3), .val (.int (p0 &&& (3 : Int32))), .val (.int x1), .val (.int x2), .val (.int x3), .val (.ref b4), .val (.ref b5), .val (.ref b7), .val (.ref b10), .val (.ref b25), .val (.int (0 : Int32))] [(.int (0 : Int32))]))
        refine own_go (fun t k => XS.iload X27.here hx rfl (hb hby at_180) rfl k) ?_
        show own_Go p e below _ (T27.setTop (mkF m 182 #[.val (.int p0), .val (.int p1), .val (.int p2), .val (.int p3), .val (.int (p0 &&& (3 : Int32))), .val (.int x1), .val (.int x2), .val (.int x3), .val (.ref b4), .val (.ref b5), .val (.ref b7), .val (.ref b10), .val (.ref b25), .val (.int (0 : Int32))] [(.int (0 : Int32)), (.int (0 : Int32))]))
        refine own_go (fun t k => XS.icmpNo X27.here hx rfl (hb hby at_182) rfl (teq (by decide : (0 : Int32) = (0 : Int32))).2 k) ?_
        show own_Go p e below _ (T27.setTop (mkF m 185 #[.val (.int p0), .val (.int p1), .val (.int p2), .val (.int p3), .val (.int (p0 &&& (3 : Int32))), .val (.int x1), .val (.int x2), .val (.int x3), .val (.ref b4), .val (.ref b5), .val (.ref b7), .val (.ref b10), .val (.ref b25), .val (.int (0 : Int32))] []))
        refine own_go (fun t k => XS.iconst X27.here hx rfl (hb hby at_185) k) ?_
        show own_Go p e below _ (T27.setTop (mkF m 186 #[.val (.int p0), .val (.int p1), .val (.int p2), .val (.int p3), .val (.int (p0 &&& (3 : Int32))), .val (.int x1), .val (.int x2), .val (.int x3), .val (.ref b4), .val (.ref b5), .val (.ref b7), .val (.ref b10), .val (.ref b25), .val (.int (0 : Int32))] [(.int (1 : Int32))]))
        refine own_go (fun t k => XS.goto X27.here hx rfl (pc0 := 186) (pc' := 190) rfl (hb hby at_186) (by decide) (by decide) k) ?_
        show own_Go p e below _ (T27.setTop (mkF m 190 #[.val (.int p0), .val (.int p1), .val (.int p2), .val (.int p3), .val (.int (p0 &&& (3 : Int32))), .val (.int x1), .val (.int x2), .val (.int x3), .val (.ref b4), .val (.ref b5), .val (.ref b7), .val (.ref b10), .val (.ref b25), .val (.int (0 : Int32))] [(.int (1 : Int32))]))
        have hF : CHr Z own_EL s.vm s.heap T27.vm T27.heap := by rw [hh]; exact hR27.trans (CHv.at X27 hZ27 hEL hD27)
        exact own_retNH X27 hx (t := .boolean) Bd.returns (by simp) (hb hby at_190) hS27 hk27 (⟨rfl, N27⟩) (hF) (by decide) (by decide)
theorem own_eqN {args : Array Value} {first s : State} {o : Option Outcome} {idx : List Nat} {a b : Term} {x y : Int32} (ha : a.eval args first o idx s = some (.int x)) (hb : b.eval args first o idx s = some (.int y)) : (Jvm.Cond.eq a b).value args first o s idx = some (decide (x = y)) := by simp [Cond.value, ha, hb]
set_option maxRecDepth 65536 in
set_option maxHeartbeats 40000000 in
theorem comes_1 {Post : Tables → Env → Array Value → State → Outcome → State → Prop} (hpost : ∀ tb e args s v u, (limb_1_1.after args s (.returned v) u = true ∧ limb_1_2.after args s (.returned v) u = true ∧ True) → ReturnedEndW s (.returned v) u (Jvm.fieldLocs frame_1_writes args s ++ Jvm.arrayLocs frame_1_arrays args s ++ Jvm.staticLocs frame_1_statics s) 32 3200 → Post tb e args s (.returned v) u) :
    ArmFor flags0 classFile x code maxLocals ret World_1 tables_1 room_1 Calls_1 rest_1 Pre_1 Post := by
  intro l hfl _ _ p e ha hc hk s m args below hf hA hF happ hP
  obtain ⟨hcalls, hrest, hpre⟩ := hP
  obtain ⟨-, -, -, hnamed, -, -, -, hat⟩ := (Spec.applies_iff hf).mp happ
  obtain ⟨hg, hn⟩ := and_e (Cond.before_iff.mp (show (Jvm.Cond.and given_1 narrow_1).before args s = true from hpre))
  obtain ⟨gc, gr0⟩ := and_e hg
  obtain ⟨ga0, gr1⟩ := and_e gr0
  obtain ⟨ga1, gr2⟩ := and_e gr1
  obtain ⟨ga2, ga3⟩ := and_e gr2
  obtain ⟨w0, w1, w2, w3, rfl⟩ : ∃ w0 w1 w2 w3 : Value, args = #[w0, w1, w2, w3] := by
    have hs : args.size = 4 := by simpa [Cond.value, given_1] using gc
    obtain ⟨L⟩ := args
    match L, hs with
    | [w0, w1, w2, w3], _ => exact ⟨w0, w1, w2, w3, rfl⟩
  have hw := fun d (hd : d ∈ tables_1) => atoms_spec (ws := Jvm.Cond.code x code maxLocals ret :: tables_1) hat d (List.mem_cons_of_mem _ hd)
  have hfit : Fit s := fun {y c} hc i hi => by
    obtain ⟨ha, rfl⟩ := Array.getElem?_eq_some_iff.mp hc
    have q := List.all_eq_true.mp ((Array.all_eq_true_iff_forall_mem.mp hF) _ (Array.getElem_mem ha)) i (List.mem_range.mpr hi)
    simpa [Array.getElem?_eq_getElem hi] using q
  obtain ⟨hsets, hown0⟩ := atoms_of _ (rest_1_c_eq ▸ (show rest_1_c.before _ s = true from hrest))
  obtain ⟨i0, ei0⟩ := is_v ga0
  obtain rfl : w0 = (.int i0) := Option.some.inj ei0
  obtain ⟨i1, ei1⟩ := is_v ga1
  obtain rfl : w1 = (.int i1) := Option.some.inj ei1
  obtain ⟨i2, ei2⟩ := is_v ga2
  obtain rfl : w2 = (.int i2) := Option.some.inj ei2
  obtain ⟨i3, ei3⟩ := is_v ga3
  obtain rfl : w3 = (.int i3) := Option.some.inj ei3
  obtain ⟨cs, ecs⟩ := is_v (Cond.before_iff.mp (hsets _ (List.mem_of_getElem? (i := 1) rfl)))
  have SCS := Sta.start ecs (Or.inl (hsets _ (List.mem_of_getElem? (i := 0) rfl)))
  have hcs : ¬ cs = 0 := gotF (own_eqN ecs (Term.int_eval 0)) (not_v (Cond.before_iff.mp (hsets _ (List.mem_of_getElem? (i := 2) rfl))))
  have WW : own_W s := ⟨cs, hcs, SCS⟩
  have hC : CHv s own_EL s.vm s.heap := CHv.start (own_ew hw) (fun p hp => hcalls.1 p hp) (hsets _ (List.mem_of_getElem? (i := 2) rfl)) (hw _ (List.mem_of_getElem? (i := 19) rfl)) (hw _ (List.mem_of_getElem? (i := 6) rfl))
  obtain ⟨n, o, h1, h2, h3, _, L, rfl, ⟨rfl, N⟩, -, hq⟩ := rm0 l s _ hw tables_1 i0 i1 i2 i3 s.heap s.heap.size (Nat.le_refl _) (Old.start s) WW p e ha hc hk s m _ below hf ((Spec.applies_iff_loose hf).mp happ).1 ⟨rfl, State.Warmed39.refl s, rfl, hC, all0⟩ trivial
  refine ⟨n, _, h1, h2, h3, hpost _ _ _ _ _ _ ⟨Cond.after_iff.mpr rfl, Cond.after_iff.mpr (eq_i res_at (Term.int_eval (1)) rfl), trivial⟩ ⟨hq.1, hq.2.1, hq.2.2.1, (hq.2.2.2.sift fun y hy => Or.inr (N y hy)).mono (by decide) (by decide)⟩⟩
theorem main_1_1 : Claimed_1_1 := comes_1 fun _ _ _ _ _ _ h hF => ⟨h.1, hF⟩
theorem main_1_2 : Claimed_1_2 := comes_1 fun _ _ _ _ _ _ h hF => ⟨h.2.1, hF⟩
end Jvm.Pilot.@@N@@
namespace Jvm.Pilot.@@N@@
open Jvm Jvm.ClassFile Sem Op Lib Jvm.Free Jvm.Stand Jvm.Pilot.@@N@@.Jvm.D
/-! MADE BY PROGRAM (witnessworld.py) out of the Statement's table words and the real class files: 21 classes; the members and pool entries that the words name. The judged class is class 1, her method 2. -/
namespace start1
open Jvm.ClassFile
def u (s : String) : CpInfo := .utf8 (stringToUtf16 s)
/-- a pool by its gaps: so many unusable entries, then the entry; so many at the end -/
def gap : Nat → List CpInfo → List CpInfo
  | 0, r => r
  | n + 1, r => .unusable :: gap n r
def poolList (es : List (Nat × CpInfo)) (last : Nat) : List CpInfo := es.foldr (fun e r => gap e.1 (e.2 :: r)) (gap last [])
def pool (es : List (Nat × CpInfo)) (last : Nat) : Array CpInfo := ⟨poolList es last⟩
def fileOf (pool : Array CpInfo) (this : Nat) (attrs : Array Attribute := #[]) (ms : Array MethodInfo := #[]) (fl : Nat := 33) (sup : Nat := 0) (ifs : Array Nat := #[]) (fds : Array FieldInfo := #[]) : ClassFile where
  minorVersion := 0
  majorVersion := 65
  constantPool := pool
  accessFlags := fl
  thisClass := this
  superClass := sup
  interfaces := ifs
  fields := fds
  methods := ms
  attributes := attrs
def plain (name : String) (sup : Option ClassId) : Class where
  name := name
  kind := .ordinary
  loader := none
  accessFlags := 33
  super := sup
  interfaces := #[]
  cf := none
  fields := #[]
  methods := #[]
  instanceTypes := #[]
  staticTypes := #[]
  resolved := #[]
  callSites := []
  init := .initialized
  statics := none
  mirror := none

def pool0 : Array CpInfo := pool [(5, u "<init>"), (0, u "()V"), (1, .class_ 10), (1, u "java/lang/Object")] 113

def k0c0 : Code := { maxStack := 0, maxLocals := 1, code := object_method_1_code, exceptionTable := #[], attributes := #[] }
def k0m0 : Method := { name := "<init>", desc := "()V", sig := { parameters := [], returnType := none }, accessFlags := 1, code := some k0c0 }
/-- java/lang/Object -/
def k0 : Class := { plain "java/lang/Object" none with
  accessFlags := 33
  interfaces := #[]
  cf := some (fileOf pool0 8 #[] #[{ accessFlags := 1, nameIndex := 5, descriptorIndex := 6, attributes := #[] }] 33 0 #[] #[])
  fields := #[]
  methods := #[k0m0]
  instanceTypes := #[]
  staticTypes := #[]
  resolved := Array.replicate 124 none
  statics := none }

def pool1 : Array CpInfo := pool [(2, .class_ 4), (1, u "java/lang/Object"), (0, u "<init>"), (0, u "()V"), (0, .methodref 8 9), (0, .class_ 10), (0, .nameAndType 11 12), (0, u "com/example/counterledger/counterledger/OpenItemIsFlagPinLaw"), (0, u "draw"), (0, u "(I)C"), (0, .class_ 14), (0, u "java/lang/String"), (0, .methodref 13 16), (0, .nameAndType 5 17), (0, u "([C)V"), (0, .methodref 19 20), (0, .class_ 21), (0, .nameAndType 22 23), (0, u "com/example/counterledger/counterledger/OpenItem"), (0, u "isFlag"), (0, u "(Ljava/lang/String;)Z"), (3, u "law"), (0, u "(IIII)Z")] 4

def k1m0 : Method := { name := "<init>", desc := "()V", sig := { parameters := [], returnType := none }, accessFlags := 2, code := none }
def k1c1 : Code := { maxStack := 2, maxLocals := 2, code := method_2_code, exceptionTable := #[], attributes := #[] }
def k1m1 : Method := { name := "draw", desc := "(I)C", sig := { parameters := [.int], returnType := some .char }, accessFlags := 10, code := some k1c1 }
def k1c2 : Code := { maxStack := 4, maxLocals := 14, code := code, exceptionTable := #[], attributes := #[] }
def k1m2 : Method := { name := "law", desc := "(IIII)Z", sig := { parameters := [.int, .int, .int, .int], returnType := some .boolean }, accessFlags := 9, code := some k1c2 }
/-- com/example/counterledger/counterledger/OpenItemIsFlagPinLaw -/
def k1 : Class := { plain "com/example/counterledger/counterledger/OpenItemIsFlagPinLaw" (some 0) with
  accessFlags := 49
  interfaces := #[]
  cf := some (fileOf pool1 8 #[] #[{ accessFlags := 2, nameIndex := 5, descriptorIndex := 6, attributes := #[] }, { accessFlags := 10, nameIndex := 11, descriptorIndex := 12, attributes := #[] }, { accessFlags := 9, nameIndex := 27, descriptorIndex := 28, attributes := #[] }] 49 2 #[] #[])
  fields := #[]
  methods := #[k1m0, k1m1, k1m2]
  instanceTypes := #[]
  staticTypes := #[]
  resolved := Array.replicate 33 none
  statics := none }

def pool2 : Array CpInfo := pool [(1, .class_ 2), (0, u "java/io/Serializable"), (0, .class_ 4), (0, u "java/lang/Object")] 2

/-- java/io/Serializable -/
def k2 : Class := { plain "java/io/Serializable" (some 0) with
  accessFlags := 1537
  interfaces := #[]
  cf := some (fileOf pool2 1 #[] #[] 1537 3 #[] #[])
  fields := #[]
  methods := #[]
  instanceTypes := #[]
  staticTypes := #[]
  resolved := Array.replicate 7 none
  statics := none }

def pool3 : Array CpInfo := pool [(1, .class_ 2), (0, u "java/lang/Comparable"), (0, .class_ 4), (0, u "java/lang/Object")] 7

/-- java/lang/Comparable -/
def k3 : Class := { plain "java/lang/Comparable" (some 0) with
  accessFlags := 1537
  interfaces := #[]
  cf := some (fileOf pool3 1 #[] #[] 1537 3 #[] #[])
  fields := #[]
  methods := #[]
  instanceTypes := #[]
  staticTypes := #[]
  resolved := Array.replicate 12 none
  statics := none }

def pool4 : Array CpInfo := pool [(2, .class_ 4), (1, u "java/lang/CharSequence"), (42, .class_ 48), (0, u "java/lang/CharSequence$1CodePointIterator"), (10, .class_ 60), (0, u "java/lang/CharSequence$1CharIterator"), (5, .class_ 67), (0, u "java/lang/Object")] 63

/-- java/lang/CharSequence -/
def k4 : Class := { plain "java/lang/CharSequence" (some 0) with
  accessFlags := 1537
  interfaces := #[]
  cf := some (fileOf pool4 2 #[.nestMembers #[47, 59]] #[] 1537 66 #[] #[])
  fields := #[]
  methods := #[]
  instanceTypes := #[]
  staticTypes := #[]
  resolved := Array.replicate 131 none
  statics := none }

def pool5 : Array CpInfo := pool [(1, .class_ 2), (0, u "java/lang/constant/Constable"), (0, .class_ 4), (0, u "java/lang/Object")] 6

/-- java/lang/constant/Constable -/
def k5 : Class := { plain "java/lang/constant/Constable" (some 0) with
  accessFlags := 1537
  interfaces := #[]
  cf := some (fileOf pool5 1 #[] #[] 1537 3 #[] #[])
  fields := #[]
  methods := #[]
  instanceTypes := #[]
  staticTypes := #[]
  resolved := Array.replicate 11 none
  statics := none }

def pool6 : Array CpInfo := pool [(1, .class_ 2), (0, u "java/lang/constant/ConstantDesc"), (0, .class_ 4), (0, u "java/lang/Object")] 32

/-- java/lang/constant/ConstantDesc -/
def k6 : Class := { plain "java/lang/constant/ConstantDesc" (some 0) with
  accessFlags := 1537
  interfaces := #[]
  cf := some (fileOf pool6 1 #[] #[] 1537 3 #[] #[])
  fields := #[]
  methods := #[]
  instanceTypes := #[]
  staticTypes := #[]
  resolved := Array.replicate 37 none
  statics := none }

def pool7 : Array CpInfo := pool [(1, .methodref 2 3), (0, .class_ 4), (0, .nameAndType 5 6), (0, u "java/lang/Object"), (0, u "<init>"), (0, u "()V"), (0, .string 8), (0, u ""), (0, .fieldref 10 11), (0, .class_ 12), (0, .nameAndType 13 14), (0, u "java/lang/String"), (0, u "value"), (0, u "[B"), (0, .fieldref 10 16), (0, .nameAndType 17 18), (0, u "coder"), (0, u "B"), (2, u "hash"), (0, u "I"), (2, u "hashIsZero"), (0, u "Z"), (0, .methodref 10 28), (0, .nameAndType 5 29), (0, u "([CIILjava/lang/Void;)V"), (8, .fieldref 10 39), (0, .nameAndType 40 26), (0, u "COMPACT_STRINGS"), (1, .class_ 44), (1, u "java/lang/StringUTF16"), (0, u "compress"), (1, .methodref 42 48), (0, .nameAndType 49 50), (0, u "coderFromArrayLen"), (0, u "([BI)B"), (56, .class_ 109), (1, u "java/lang/StringLatin1"), (32, u "()Z"), (34, .methodref 42 178), (0, .nameAndType 45 179), (0, u "([CII)[B"), (361, .methodref 107 542), (0, .nameAndType 543 544), (0, u "equals"), (0, u "([B[B)Z"), (28, u "(Ljava/lang/Object;)Z"), (1, .class_ 576), (0, u "java/lang/CharSequence"), (22, u "CASE_INSENSITIVE_ORDER"), (0, u "Ljava/util/Comparator;"), (91, u "isEmpty"), (317, u "([C)V"), (90, u "serialPersistentFields"), (0, u "[Ljava/io/ObjectStreamField;"), (0, .class_ 1104), (0, u "java/lang/String$CaseInsensitiveComparator"), (1, .class_ 1107), (0, u "java/io/Serializable"), (0, .class_ 1109), (0, u "java/lang/Comparable"), (0, .class_ 1111), (0, u "java/lang/constant/Constable"), (0, .class_ 1113), (0, u "java/lang/constant/ConstantDesc"), (2, u "serialVersionUID"), (0, u "J"), (3, u "REPL"), (0, u "C"), (2, u "LATIN1"), (1, u "UTF16")] 323

def k7m0 : Method := { name := "<init>", desc := "()V", sig := { parameters := [], returnType := none }, accessFlags := 1, code := none }
def k7c1 : Code := { maxStack := 5, maxLocals := 2, code := jdk_42_method_3_code, exceptionTable := #[], attributes := #[] }
def k7m1 : Method := { name := "<init>", desc := "([C)V", sig := { parameters := [(.array .char)], returnType := none }, accessFlags := 1, code := some k7c1 }
def k7c2 : Code := { maxStack := 1, maxLocals := 1, code := jdk_42_method_55_code, exceptionTable := #[], attributes := #[] }
def k7m2 : Method := { name := "isEmpty", desc := "()Z", sig := { parameters := [], returnType := some .boolean }, accessFlags := 1, code := some k7c2 }
def k7c3 : Code := { maxStack := 2, maxLocals := 3, code := jdk_42_method_66_code, exceptionTable := #[], attributes := #[] }
def k7m3 : Method := { name := "equals", desc := "(Ljava/lang/Object;)Z", sig := { parameters := [(.object "java/lang/Object")], returnType := some .boolean }, accessFlags := 1, code := some k7c3 }
def k7c4 : Code := { maxStack := 4, maxLocals := 6, code := jdk_42_method_149_code, exceptionTable := #[], attributes := #[] }
def k7m4 : Method := { name := "<init>", desc := "([CIILjava/lang/Void;)V", sig := { parameters := [(.array .char), .int, .int, (.object "java/lang/Void")], returnType := none }, accessFlags := 2, code := some k7c4 }
/-- java/lang/String -/
def k7 : Class := { plain "java/lang/String" (some 0) with
  accessFlags := 49
  interfaces := #[2, 3, 4, 5, 6]
  cf := some (fileOf pool7 10 #[.nestMembers #[1103]] #[{ accessFlags := 1, nameIndex := 5, descriptorIndex := 6, attributes := #[] }, { accessFlags := 1, nameIndex := 5, descriptorIndex := 1010, attributes := #[] }, { accessFlags := 1, nameIndex := 692, descriptorIndex := 142, attributes := #[] }, { accessFlags := 1, nameIndex := 543, descriptorIndex := 573, attributes := #[] }, { accessFlags := 2, nameIndex := 5, descriptorIndex := 29, attributes := #[] }] 49 2 #[1106, 1108, 575, 1110, 1112] #[{ accessFlags := 18, nameIndex := 13, descriptorIndex := 14, attributes := #[] }, { accessFlags := 18, nameIndex := 17, descriptorIndex := 18, attributes := #[] }, { accessFlags := 2, nameIndex := 21, descriptorIndex := 22, attributes := #[] }, { accessFlags := 2, nameIndex := 25, descriptorIndex := 26, attributes := #[] }, { accessFlags := 26, nameIndex := 1116, descriptorIndex := 1117, attributes := #[] }, { accessFlags := 24, nameIndex := 40, descriptorIndex := 26, attributes := #[] }, { accessFlags := 26, nameIndex := 1101, descriptorIndex := 1102, attributes := #[] }, { accessFlags := 26, nameIndex := 1121, descriptorIndex := 1122, attributes := #[] }, { accessFlags := 25, nameIndex := 599, descriptorIndex := 600, attributes := #[] }, { accessFlags := 24, nameIndex := 1125, descriptorIndex := 18, attributes := #[] }, { accessFlags := 24, nameIndex := 1127, descriptorIndex := 18, attributes := #[] }])
  fields := #[{ name := "value", type := (.array .byte), accessFlags := 18, slot := 0, constantValue := 0 }, { name := "coder", type := .byte, accessFlags := 18, slot := 1, constantValue := 0 }, { name := "hash", type := .int, accessFlags := 2, slot := 2, constantValue := 0 }, { name := "hashIsZero", type := .boolean, accessFlags := 2, slot := 3, constantValue := 0 }, { name := "serialVersionUID", type := .long, accessFlags := 26, slot := 0, constantValue := 0 }, { name := "COMPACT_STRINGS", type := .boolean, accessFlags := 24, slot := 1, constantValue := 0 }, { name := "serialPersistentFields", type := (.array (.object "java/io/ObjectStreamField")), accessFlags := 26, slot := 2, constantValue := 0 }, { name := "REPL", type := .char, accessFlags := 26, slot := 3, constantValue := 0 }, { name := "CASE_INSENSITIVE_ORDER", type := (.object "java/util/Comparator"), accessFlags := 25, slot := 4, constantValue := 0 }, { name := "LATIN1", type := .byte, accessFlags := 24, slot := 5, constantValue := 0 }, { name := "UTF16", type := .byte, accessFlags := 24, slot := 6, constantValue := 0 }]
  methods := #[k7m0, k7m1, k7m2, k7m3, k7m4]
  instanceTypes := #[(.array .byte), .byte, .int, .boolean]
  staticTypes := #[.long, .boolean, (.array (.object "java/io/ObjectStreamField")), .char, (.object "java/util/Comparator"), .byte, .byte]
  resolved := Array.replicate 1451 none
  statics := some 0 }

def pool8 : Array CpInfo := pool [(2, .class_ 4), (1, u "java/lang/Object"), (0, u "<init>"), (0, u "()V"), (0, .class_ 8), (0, u "java/lang/Record")] 13

def k8m0 : Method := { name := "<init>", desc := "()V", sig := { parameters := [], returnType := none }, accessFlags := 4, code := none }
/-- java/lang/Record -/
def k8 : Class := { plain "java/lang/Record" (some 0) with
  accessFlags := 1057
  interfaces := #[]
  cf := some (fileOf pool8 7 #[] #[{ accessFlags := 4, nameIndex := 5, descriptorIndex := 6, attributes := #[] }] 1057 2 #[] #[])
  fields := #[]
  methods := #[k8m0]
  instanceTypes := #[]
  staticTypes := #[]
  resolved := Array.replicate 22 none
  statics := none }

def pool9 : Array CpInfo := pool [(2, .class_ 4), (1, u "java/lang/Record"), (3, .class_ 10), (1, u "com/example/counterledger/counterledger/OpenItem"), (0, u "side"), (0, u "Lcom/example/counterledger/counterledger/Side;"), (2, u "number"), (0, u "Ljava/lang/String;"), (2, u "installment"), (0, u "I"), (2, u "party"), (2, u "site"), (2, u "documentType"), (2, u "currency"), (2, u "documentDate"), (0, u "Ljava/time/LocalDate;"), (2, u "dueDate"), (2, u "remaining"), (0, u "Lcom/example/counterledger/counterledger/Amount;"), (2, u "onHold"), (2, u "status"), (2, u "receiptMethodType"), (2, u "prepayment"), (2, u "closed"), (0, u "Z"), (3, .string 64), (0, u "Y"), (0, .methodref 66 67), (0, .class_ 68), (0, .nameAndType 69 70), (0, u "java/lang/String"), (0, u "equals"), (0, u "(Ljava/lang/Object;)Z"), (0, .string 72), (0, u "N"), (0, .methodref 66 74), (0, .nameAndType 75 76), (0, u "isEmpty"), (0, u "()Z"), (0, .class_ 78), (0, u "com/example/counterledger/counterledger/OpenItem$Key"), (29, u "(Ljava/lang/String;)Z"), (19, u "BOOK_ORDER"), (0, u "Ljava/util/Comparator;"), (6, u "isFlag")] 67

def k9c0 : Code := { maxStack := 2, maxLocals := 1, code := prog_25_method_3_code, exceptionTable := #[], attributes := #[] }
def k9m0 : Method := { name := "isFlag", desc := "(Ljava/lang/String;)Z", sig := { parameters := [(.object "java/lang/String")], returnType := some .boolean }, accessFlags := 8, code := some k9c0 }
/-- com/example/counterledger/counterledger/OpenItem -/
def k9 : Class := { plain "com/example/counterledger/counterledger/OpenItem" (some 8) with
  accessFlags := 49
  interfaces := #[]
  cf := some (fileOf pool9 8 #[.nestMembers #[77]] #[{ accessFlags := 8, nameIndex := 136, descriptorIndex := 108, attributes := #[] }] 49 2 #[] #[{ accessFlags := 18, nameIndex := 11, descriptorIndex := 12, attributes := #[] }, { accessFlags := 18, nameIndex := 15, descriptorIndex := 16, attributes := #[] }, { accessFlags := 18, nameIndex := 19, descriptorIndex := 20, attributes := #[] }, { accessFlags := 18, nameIndex := 23, descriptorIndex := 16, attributes := #[] }, { accessFlags := 18, nameIndex := 26, descriptorIndex := 16, attributes := #[] }, { accessFlags := 18, nameIndex := 29, descriptorIndex := 16, attributes := #[] }, { accessFlags := 18, nameIndex := 32, descriptorIndex := 16, attributes := #[] }, { accessFlags := 18, nameIndex := 35, descriptorIndex := 36, attributes := #[] }, { accessFlags := 18, nameIndex := 39, descriptorIndex := 36, attributes := #[] }, { accessFlags := 18, nameIndex := 42, descriptorIndex := 43, attributes := #[] }, { accessFlags := 18, nameIndex := 46, descriptorIndex := 16, attributes := #[] }, { accessFlags := 18, nameIndex := 49, descriptorIndex := 16, attributes := #[] }, { accessFlags := 18, nameIndex := 52, descriptorIndex := 16, attributes := #[] }, { accessFlags := 18, nameIndex := 55, descriptorIndex := 16, attributes := #[] }, { accessFlags := 18, nameIndex := 58, descriptorIndex := 59, attributes := #[] }, { accessFlags := 25, nameIndex := 128, descriptorIndex := 129, attributes := #[] }])
  fields := #[{ name := "side", type := (.object "com/example/counterledger/counterledger/Side"), accessFlags := 18, slot := 0, constantValue := 0 }, { name := "number", type := (.object "java/lang/String"), accessFlags := 18, slot := 1, constantValue := 0 }, { name := "installment", type := .int, accessFlags := 18, slot := 2, constantValue := 0 }, { name := "party", type := (.object "java/lang/String"), accessFlags := 18, slot := 3, constantValue := 0 }, { name := "site", type := (.object "java/lang/String"), accessFlags := 18, slot := 4, constantValue := 0 }, { name := "documentType", type := (.object "java/lang/String"), accessFlags := 18, slot := 5, constantValue := 0 }, { name := "currency", type := (.object "java/lang/String"), accessFlags := 18, slot := 6, constantValue := 0 }, { name := "documentDate", type := (.object "java/time/LocalDate"), accessFlags := 18, slot := 7, constantValue := 0 }, { name := "dueDate", type := (.object "java/time/LocalDate"), accessFlags := 18, slot := 8, constantValue := 0 }, { name := "remaining", type := (.object "com/example/counterledger/counterledger/Amount"), accessFlags := 18, slot := 9, constantValue := 0 }, { name := "onHold", type := (.object "java/lang/String"), accessFlags := 18, slot := 10, constantValue := 0 }, { name := "status", type := (.object "java/lang/String"), accessFlags := 18, slot := 11, constantValue := 0 }, { name := "receiptMethodType", type := (.object "java/lang/String"), accessFlags := 18, slot := 12, constantValue := 0 }, { name := "prepayment", type := (.object "java/lang/String"), accessFlags := 18, slot := 13, constantValue := 0 }, { name := "closed", type := .boolean, accessFlags := 18, slot := 14, constantValue := 0 }, { name := "BOOK_ORDER", type := (.object "java/util/Comparator"), accessFlags := 25, slot := 0, constantValue := 0 }]
  methods := #[k9m0]
  instanceTypes := #[(.object "com/example/counterledger/counterledger/Side"), (.object "java/lang/String"), .int, (.object "java/lang/String"), (.object "java/lang/String"), (.object "java/lang/String"), (.object "java/lang/String"), (.object "java/time/LocalDate"), (.object "java/time/LocalDate"), (.object "com/example/counterledger/counterledger/Amount"), (.object "java/lang/String"), (.object "java/lang/String"), (.object "java/lang/String"), (.object "java/lang/String"), .boolean]
  staticTypes := #[(.object "java/util/Comparator")]
  resolved := Array.replicate 204 none
  statics := none }

def pool10 : Array CpInfo := pool [(4, .class_ 6), (1, u "java/lang/Object"), (0, u "<init>"), (0, u "()V"), (5, .class_ 16), (1, u "java/lang/StringLatin1"), (104, u "$assertionsDisabled"), (0, u "Z"), (98, .class_ 223), (1, u "java/lang/StringLatin1$LinesSpliterator"), (57, u "equals"), (0, u "([B[B)Z"), (107, .class_ 391), (0, u "java/lang/StringLatin1$CharsSpliterator")] 3

def k10m0 : Method := { name := "<init>", desc := "()V", sig := { parameters := [], returnType := none }, accessFlags := 0, code := none }
def k10c1 : Code := { maxStack := 3, maxLocals := 3, code := jdk_43_method_13_code, exceptionTable := #[], attributes := #[] }
def k10m1 : Method := { name := "equals", desc := "([B[B)Z", sig := { parameters := [(.array .byte), (.array .byte)], returnType := some .boolean }, accessFlags := 9, code := some k10c1 }
/-- java/lang/StringLatin1 -/
def k10 : Class := { plain "java/lang/StringLatin1" (some 0) with
  accessFlags := 48
  interfaces := #[]
  cf := some (fileOf pool10 14 #[.nestMembers #[390, 221]] #[{ accessFlags := 0, nameIndex := 7, descriptorIndex := 8, attributes := #[] }, { accessFlags := 9, nameIndex := 281, descriptorIndex := 282, attributes := #[] }] 48 4 #[] #[{ accessFlags := 4120, nameIndex := 121, descriptorIndex := 122, attributes := #[] }])
  fields := #[{ name := "$assertionsDisabled", type := .boolean, accessFlags := 4120, slot := 0, constantValue := 0 }]
  methods := #[k10m0, k10m1]
  instanceTypes := #[]
  staticTypes := #[.boolean]
  resolved := Array.replicate 395 none
  statics := none }

def pool11 : Array CpInfo := pool [(6, .class_ 8), (1, u "java/lang/Object"), (0, u "<init>"), (0, u "()V"), (1, .class_ 14), (1, u "java/lang/StringUTF16"), (31, u "$assertionsDisabled"), (0, u "Z"), (13, u "HI_BYTE_SHIFT"), (0, u "I"), (2, u "LO_BYTE_SHIFT"), (49, .methodref 12 116), (0, .nameAndType 117 118), (0, u "compress"), (0, u "([CI[BII)I"), (3, u "([CII)[B"), (138, u "coderFromArrayLen"), (0, u "([BI)B"), (106, .class_ 371), (1, u "java/lang/StringUTF16$LinesSpliterator"), (58, u "MAX_LENGTH"), (196, .class_ 628), (0, u "java/lang/StringUTF16$CodePointsSpliterator"), (0, .class_ 630), (0, u "java/lang/StringUTF16$CharsSpliterator")] 4

def k11m0 : Method := { name := "<init>", desc := "()V", sig := { parameters := [], returnType := none }, accessFlags := 0, code := none }
def k11c1 : Code := { maxStack := 2, maxLocals := 2, code := jdk_52_method_15_code, exceptionTable := #[], attributes := #[] }
def k11m1 : Method := { name := "coderFromArrayLen", desc := "([BI)B", sig := { parameters := [(.array .byte), .int], returnType := some .byte }, accessFlags := 8, code := some k11c1 }
def k11c2 : Code := { maxStack := 5, maxLocals := 6, code := jdk_52_method_16_code, exceptionTable := #[], attributes := #[] }
def k11m2 : Method := { name := "compress", desc := "([CII)[B", sig := { parameters := [(.array .char), .int, .int], returnType := some (.array .byte) }, accessFlags := 9, code := some k11c2 }
def k11c3 : Code := { maxStack := 3, maxLocals := 7, code := jdk_52_method_21_code, exceptionTable := #[], attributes := #[] }
def k11m3 : Method := { name := "compress", desc := "([CI[BII)I", sig := { parameters := [(.array .char), .int, (.array .byte), .int, .int], returnType := some .int }, accessFlags := 9, code := some k11c3 }
/-- java/lang/StringUTF16 -/
def k11 : Class := { plain "java/lang/StringUTF16" (some 0) with
  accessFlags := 48
  interfaces := #[]
  cf := some (fileOf pool11 12 #[.nestMembers #[627, 629, 369]] #[{ accessFlags := 0, nameIndex := 9, descriptorIndex := 10, attributes := #[] }, { accessFlags := 8, nameIndex := 261, descriptorIndex := 262, attributes := #[] }, { accessFlags := 9, nameIndex := 117, descriptorIndex := 122, attributes := #[] }, { accessFlags := 9, nameIndex := 117, descriptorIndex := 118, attributes := #[] }] 48 6 #[] #[{ accessFlags := 26, nameIndex := 61, descriptorIndex := 62, attributes := #[] }, { accessFlags := 26, nameIndex := 65, descriptorIndex := 62, attributes := #[] }, { accessFlags := 24, nameIndex := 430, descriptorIndex := 62, attributes := #[] }, { accessFlags := 4120, nameIndex := 46, descriptorIndex := 47, attributes := #[] }])
  fields := #[{ name := "HI_BYTE_SHIFT", type := .int, accessFlags := 26, slot := 0, constantValue := 0 }, { name := "LO_BYTE_SHIFT", type := .int, accessFlags := 26, slot := 1, constantValue := 0 }, { name := "MAX_LENGTH", type := .int, accessFlags := 24, slot := 2, constantValue := 0 }, { name := "$assertionsDisabled", type := .boolean, accessFlags := 4120, slot := 3, constantValue := 0 }]
  methods := #[k11m0, k11m1, k11m2, k11m3]
  instanceTypes := #[]
  staticTypes := #[.int, .int, .int, .boolean]
  resolved := Array.replicate 635 none
  statics := none }

def pool12 : Array CpInfo := pool [(2, .class_ 4), (1, u "java/lang/Object"), (0, u "<init>"), (0, u "()V"), (17, .class_ 26), (1, u "jdk/internal/util/Preconditions"), (28, .class_ 56), (0, u "jdk/internal/util/Preconditions$4"), (57, .class_ 115), (0, u "jdk/internal/util/Preconditions$1"), (7, u "SIOOBE_FORMATTER"), (0, u "Ljava/util/function/BiFunction;"), (0, .class_ 126), (0, u "jdk/internal/util/Preconditions$2"), (3, u "AIOOBE_FORMATTER"), (0, .class_ 132), (0, u "jdk/internal/util/Preconditions$3"), (3, u "IOOBE_FORMATTER")] 57

def k12m0 : Method := { name := "<init>", desc := "()V", sig := { parameters := [], returnType := none }, accessFlags := 1, code := none }
/-- jdk/internal/util/Preconditions -/
def k12 : Class := { plain "jdk/internal/util/Preconditions" (some 0) with
  accessFlags := 33
  interfaces := #[]
  cf := some (fileOf pool12 24 #[.nestMembers #[55, 131, 125, 114]] #[{ accessFlags := 1, nameIndex := 5, descriptorIndex := 6, attributes := #[] }] 33 2 #[] #[{ accessFlags := 25, nameIndex := 123, descriptorIndex := 124, attributes := #[] }, { accessFlags := 25, nameIndex := 130, descriptorIndex := 124, attributes := #[] }, { accessFlags := 25, nameIndex := 136, descriptorIndex := 124, attributes := #[] }])
  fields := #[{ name := "SIOOBE_FORMATTER", type := (.object "java/util/function/BiFunction"), accessFlags := 25, slot := 0, constantValue := 0 }, { name := "AIOOBE_FORMATTER", type := (.object "java/util/function/BiFunction"), accessFlags := 25, slot := 1, constantValue := 0 }, { name := "IOOBE_FORMATTER", type := (.object "java/util/function/BiFunction"), accessFlags := 25, slot := 2, constantValue := 0 }]
  methods := #[k12m0]
  instanceTypes := #[]
  staticTypes := #[(.object "java/util/function/BiFunction"), (.object "java/util/function/BiFunction"), (.object "java/util/function/BiFunction")]
  resolved := Array.replicate 194 none
  statics := some 1 }

def pool13 : Array CpInfo := pool [(9, u "<init>"), (6, .class_ 18), (1, u "java/lang/Object"), (0, u "()V"), (1, .class_ 23), (1, u "jdk/internal/util/ArraysSupport"), (0, u "LOG2_ARRAY_LONG_INDEX_SCALE"), (0, u "I"), (2, u "U"), (0, u "Ljdk/internal/misc/Unsafe;"), (8, u "BIG_ENDIAN"), (0, u "Z"), (8, u "LOG2_BYTE_BIT_SIZE"), (4, u "LOG2_ARRAY_INT_INDEX_SCALE"), (54, u "JLA"), (0, u "Ljdk/internal/access/JavaLangAccess;"), (11, u "LOG2_ARRAY_BOOLEAN_INDEX_SCALE"), (9, u "LOG2_ARRAY_BYTE_INDEX_SCALE"), (5, u "LOG2_ARRAY_CHAR_INDEX_SCALE"), (5, u "LOG2_ARRAY_SHORT_INDEX_SCALE"), (18, u "LOG2_ARRAY_FLOAT_INDEX_SCALE"), (24, u "LOG2_ARRAY_DOUBLE_INDEX_SCALE"), (89, u "T_BOOLEAN"), (2, u "T_CHAR"), (1, u "T_FLOAT"), (1, u "T_DOUBLE"), (1, u "T_BYTE"), (1, u "T_SHORT"), (1, u "T_INT"), (1, u "T_LONG"), (1, u "SOFT_MAX_ARRAY_LENGTH")] 83

def k13m0 : Method := { name := "<init>", desc := "()V", sig := { parameters := [], returnType := none }, accessFlags := 2, code := none }
/-- jdk/internal/util/ArraysSupport -/
def k13 : Class := { plain "jdk/internal/util/ArraysSupport" (some 0) with
  accessFlags := 33
  interfaces := #[]
  cf := some (fileOf pool13 21 #[] #[{ accessFlags := 2, nameIndex := 9, descriptorIndex := 19, attributes := #[] }] 33 16 #[] #[{ accessFlags := 24, nameIndex := 28, descriptorIndex := 29, attributes := #[] }, { accessFlags := 26, nameIndex := 38, descriptorIndex := 39, attributes := #[] }, { accessFlags := 25, nameIndex := 121, descriptorIndex := 25, attributes := #[] }, { accessFlags := 25, nameIndex := 131, descriptorIndex := 25, attributes := #[] }, { accessFlags := 25, nameIndex := 137, descriptorIndex := 25, attributes := #[] }, { accessFlags := 25, nameIndex := 143, descriptorIndex := 25, attributes := #[] }, { accessFlags := 25, nameIndex := 53, descriptorIndex := 25, attributes := #[] }, { accessFlags := 25, nameIndex := 24, descriptorIndex := 25, attributes := #[] }, { accessFlags := 25, nameIndex := 162, descriptorIndex := 25, attributes := #[] }, { accessFlags := 25, nameIndex := 187, descriptorIndex := 25, attributes := #[] }, { accessFlags := 26, nameIndex := 48, descriptorIndex := 25, attributes := #[] }, { accessFlags := 25, nameIndex := 277, descriptorIndex := 25, attributes := #[] }, { accessFlags := 25, nameIndex := 280, descriptorIndex := 25, attributes := #[] }, { accessFlags := 25, nameIndex := 282, descriptorIndex := 25, attributes := #[] }, { accessFlags := 25, nameIndex := 284, descriptorIndex := 25, attributes := #[] }, { accessFlags := 25, nameIndex := 286, descriptorIndex := 25, attributes := #[] }, { accessFlags := 25, nameIndex := 288, descriptorIndex := 25, attributes := #[] }, { accessFlags := 25, nameIndex := 290, descriptorIndex := 25, attributes := #[] }, { accessFlags := 25, nameIndex := 292, descriptorIndex := 25, attributes := #[] }, { accessFlags := 26, nameIndex := 108, descriptorIndex := 109, attributes := #[] }, { accessFlags := 25, nameIndex := 294, descriptorIndex := 25, attributes := #[] }])
  fields := #[{ name := "U", type := (.object "jdk/internal/misc/Unsafe"), accessFlags := 24, slot := 0, constantValue := 0 }, { name := "BIG_ENDIAN", type := .boolean, accessFlags := 26, slot := 1, constantValue := 0 }, { name := "LOG2_ARRAY_BOOLEAN_INDEX_SCALE", type := .int, accessFlags := 25, slot := 2, constantValue := 0 }, { name := "LOG2_ARRAY_BYTE_INDEX_SCALE", type := .int, accessFlags := 25, slot := 3, constantValue := 0 }, { name := "LOG2_ARRAY_CHAR_INDEX_SCALE", type := .int, accessFlags := 25, slot := 4, constantValue := 0 }, { name := "LOG2_ARRAY_SHORT_INDEX_SCALE", type := .int, accessFlags := 25, slot := 5, constantValue := 0 }, { name := "LOG2_ARRAY_INT_INDEX_SCALE", type := .int, accessFlags := 25, slot := 6, constantValue := 0 }, { name := "LOG2_ARRAY_LONG_INDEX_SCALE", type := .int, accessFlags := 25, slot := 7, constantValue := 0 }, { name := "LOG2_ARRAY_FLOAT_INDEX_SCALE", type := .int, accessFlags := 25, slot := 8, constantValue := 0 }, { name := "LOG2_ARRAY_DOUBLE_INDEX_SCALE", type := .int, accessFlags := 25, slot := 9, constantValue := 0 }, { name := "LOG2_BYTE_BIT_SIZE", type := .int, accessFlags := 26, slot := 10, constantValue := 0 }, { name := "T_BOOLEAN", type := .int, accessFlags := 25, slot := 11, constantValue := 0 }, { name := "T_CHAR", type := .int, accessFlags := 25, slot := 12, constantValue := 0 }, { name := "T_FLOAT", type := .int, accessFlags := 25, slot := 13, constantValue := 0 }, { name := "T_DOUBLE", type := .int, accessFlags := 25, slot := 14, constantValue := 0 }, { name := "T_BYTE", type := .int, accessFlags := 25, slot := 15, constantValue := 0 }, { name := "T_SHORT", type := .int, accessFlags := 25, slot := 16, constantValue := 0 }, { name := "T_INT", type := .int, accessFlags := 25, slot := 17, constantValue := 0 }, { name := "T_LONG", type := .int, accessFlags := 25, slot := 18, constantValue := 0 }, { name := "JLA", type := (.object "jdk/internal/access/JavaLangAccess"), accessFlags := 26, slot := 19, constantValue := 0 }, { name := "SOFT_MAX_ARRAY_LENGTH", type := .int, accessFlags := 25, slot := 20, constantValue := 0 }]
  methods := #[k13m0]
  instanceTypes := #[]
  staticTypes := #[(.object "jdk/internal/misc/Unsafe"), .boolean, .int, .int, .int, .int, .int, .int, .int, .int, .int, .int, .int, .int, .int, .int, .int, .int, .int, (.object "jdk/internal/access/JavaLangAccess"), .int]
  resolved := Array.replicate 378 none
  statics := none }

def pool14 : Array CpInfo := pool [(1, u "java/lang/Cloneable"), (0, .class_ 1), (0, u "java/lang/Object"), (0, .class_ 3)] 3

/-- java/lang/Cloneable -/
def k14 : Class := { plain "java/lang/Cloneable" (some 0) with
  accessFlags := 1537
  interfaces := #[]
  cf := some (fileOf pool14 2 #[] #[] 1537 4 #[] #[])
  fields := #[]
  methods := #[]
  instanceTypes := #[]
  staticTypes := #[]
  resolved := Array.replicate 8 none
  statics := none }

/-- the primitive byte -/
def k15 : Class := { plain "byte" none with kind := .primitive 'B', accessFlags := 0x411 }
/-- [B -/
def k16 : Class := { plain "[B" (some 0) with kind := .array 15 .byte, interfaces := #[14, 2], accessFlags := 1041 }

/-- the primitive char -/
def k17 : Class := { plain "char" none with kind := .primitive 'C', accessFlags := 0x411 }
/-- [C -/
def k18 : Class := { plain "[C" (some 0) with kind := .array 17 .char, interfaces := #[14, 2], accessFlags := 1041 }

/-- the primitive int -/
def k19 : Class := { plain "int" none with kind := .primitive 'I', accessFlags := 0x411 }
/-- [I -/
def k20 : Class := { plain "[I" (some 0) with kind := .array 19 .int, interfaces := #[14, 2], accessFlags := 1041 }

def heap : Heap := #[{ cls := 7, slots := #[.long 0, .int 1, .null, .int 0, .null, .int 0, .int 0], vm := .statics 7 },
  { cls := 12, slots := #[.null, .null, .null], vm := .statics 12 }]
def classes : Array Class := #[k0, k1, k2, k3, k4, k5, k6, k7, k8, k9, k10, k11, k12, k13, k14, k15, k16, k17, k18, k19, k20]
def interned : List (Array UInt16 × Addr) := []
def slotsUsed : Nat := 10
def theMethod : MethodId := ⟨1, 2⟩
def args0 : Array Value := #[.int 3, .int 3, .int 3, .int 3]
def aboutOver (below : List Frame) : State where
  vm := { classes := classes, interned := interned.toArray }
  heap := heap
  slotsUsed := slotsUsed
  threads := #[{ frames := .invoking theMethod args0 :: below }]
def below0 : List Frame := [.native { method := ⟨0, 0⟩, args := #[] }]
def about1 : State := aboutOver below0
def p0 : Program := .bare "" "" ""
def e0 : Env := launch0.env 0 0 0
theorem w_frames : about1.frames = Frame.invoking theMethod args0 :: below0 := rfl
set_option maxRecDepth 65536 in
theorem w_args : argsFit about1.vm theMethod args0 = true := by decide +kernel
set_option maxRecDepth 65536 in
theorem w_heap : heapFits about1 = true := by decide +kernel
set_option maxRecDepth 65536 in
theorem w_runnable : about1.curStatus? = some .runnable := by decide +kernel
set_option maxRecDepth 65536 in
theorem w_alone : about1.alone = true := by decide +kernel
set_option maxRecDepth 65536 in
theorem w_named : about1.methodNamed? x = some theMethod := by decide +kernel
set_option maxRecDepth 65536 in
theorem w_hears : about1.hears theMethod below0 = true := by decide +kernel
set_option maxRecDepth 65536 in
theorem w_ripe : about1.ripe theMethod args0 below0 = true := by decide +kernel
theorem w_running : about1.status = .running := rfl
set_option maxRecDepth 65536 in
theorem w_room : about1.hasRoom e0.platform room_1 = true :=
  launch0.hasRoom_least _ room_1 (by decide +kernel) (by decide +kernel) (by decide +kernel) (by decide +kernel) (by decide +kernel) (by decide +kernel)
theorem allAtoms_all (ts : List Jvm.Cond) (a : Array Jvm.Value) (st : Jvm.State) : (allAtoms ts).before a st = ts.all (fun c => c.before a st) := by
  induction ts with
  | nil => rfl
  | cons c t ih =>
    show (Jvm.Cond.and c (allAtoms t)).before a st = _
    rw [Jvm.Cond.before_and, ih, List.all_cons]
def words1 : List Jvm.Cond := Jvm.Cond.code x code maxLocals ret :: tables_1
/-- a 'code' word, met by the world's own term for the bytes: nothing is compared byte by byte -/
theorem code_word {y : MethodName} {bytes : ByteArray} {mx : Nat} {rt : Option FieldType} {a : Array Value} {s : State} {m : MethodId} {meth : Method} {c : Code} (h1 : s.methodNamed? y = some m) (h2 : s.vm.method? m = some meth) (h3 : meth.code = some c) (h4 : c.code = bytes)
    (h5 : (c.maxLocals == mx && c.exceptionTable.isEmpty && decide (c.maxStack ≤ mostOperands) && decide (meth.sig.returnType = rt) && !meth.locks && decide (parseMethodDescriptor y.desc = some meth.sig)) = true) : (Jvm.Cond.code y bytes mx rt).before a s = true := by
  simp only [Bool.and_eq_true, beq_iff_eq, Bool.not_eq_true', decide_eq_true_eq] at h5
  obtain ⟨⟨⟨⟨⟨g1, g2⟩, g3⟩, g4⟩, g5⟩, g6⟩ := h5
  simp [Cond.before, Cond.holds, Cond.value, h1, h2, h3, h4, g1, g2, g3, g4, g5, g6]
def isCode : Jvm.Cond → Bool
  | .code _ _ _ _ => true
  | _ => false
theorem all_split {L : List Jvm.Cond} {P : Jvm.Cond → Bool} (h1 : L.all (fun c => isCode c || P c) = true) (h2 : ∀ c ∈ L.filter isCode, P c = true) : L.all P = true := by
  refine List.all_eq_true.mpr fun c hc => ?_
  have h := List.all_eq_true.mp h1 c hc
  rcases Bool.eq_false_or_eq_true (isCode c) with hi | hi
  · exact h2 c (List.mem_filter.mpr ⟨hc, hi⟩)
  · simpa [hi] using h
set_option maxRecDepth 65536 in
theorem w_c0 : (Jvm.Cond.code x code maxLocals ret).before args0 about1 = true := code_word (m := ⟨1, 2⟩) (meth := k1m2) (c := k1c2) (by decide +kernel) rfl rfl rfl (by decide +kernel)
set_option maxRecDepth 65536 in
theorem w_c1 : (Jvm.Cond.code ({ cls := "com/example/counterledger/counterledger/OpenItemIsFlagPinLaw", name := "draw", desc := "(I)C" } : Jvm.MethodName) method_2_code (2 : Nat) (Option.some Jvm.ClassFile.FieldType.char)).before args0 about1 = true := code_word (m := ⟨1, 1⟩) (meth := k1m1) (c := k1c1) (by decide +kernel) rfl rfl rfl (by decide +kernel)
set_option maxRecDepth 65536 in
theorem w_c2 : (Jvm.Cond.code ({ cls := "java/lang/String", name := "<init>", desc := "([C)V" } : Jvm.MethodName) jdk_42_method_3_code (2 : Nat) (Option.none : Option Jvm.ClassFile.FieldType)).before args0 about1 = true := code_word (m := ⟨7, 1⟩) (meth := k7m1) (c := k7c1) (by decide +kernel) rfl rfl rfl (by decide +kernel)
set_option maxRecDepth 65536 in
theorem w_c3 : (Jvm.Cond.code ({ cls := "java/lang/String", name := "<init>", desc := "([CIILjava/lang/Void;)V" } : Jvm.MethodName) jdk_42_method_149_code (6 : Nat) (Option.none : Option Jvm.ClassFile.FieldType)).before args0 about1 = true := code_word (m := ⟨7, 4⟩) (meth := k7m4) (c := k7c4) (by decide +kernel) rfl rfl rfl (by decide +kernel)
set_option maxRecDepth 65536 in
theorem w_c4 : (Jvm.Cond.code ({ cls := "java/lang/Object", name := "<init>", desc := "()V" } : Jvm.MethodName) object_method_1_code (1 : Nat) (Option.none : Option Jvm.ClassFile.FieldType)).before args0 about1 = true := code_word (m := ⟨0, 0⟩) (meth := k0m0) (c := k0c0) (by decide +kernel) rfl rfl rfl (by decide +kernel)
set_option maxRecDepth 65536 in
theorem w_c5 : (Jvm.Cond.code ({ cls := "com/example/counterledger/counterledger/OpenItem", name := "isFlag", desc := "(Ljava/lang/String;)Z" } : Jvm.MethodName) prog_25_method_3_code (1 : Nat) (Option.some Jvm.ClassFile.FieldType.boolean)).before args0 about1 = true := code_word (m := ⟨9, 0⟩) (meth := k9m0) (c := k9c0) (by decide +kernel) rfl rfl rfl (by decide +kernel)
set_option maxRecDepth 65536 in
theorem w_c6 : (Jvm.Cond.code ({ cls := "java/lang/String", name := "equals", desc := "(Ljava/lang/Object;)Z" } : Jvm.MethodName) jdk_42_method_66_code (3 : Nat) (Option.some Jvm.ClassFile.FieldType.boolean)).before args0 about1 = true := code_word (m := ⟨7, 3⟩) (meth := k7m3) (c := k7c3) (by decide +kernel) rfl rfl rfl (by decide +kernel)
set_option maxRecDepth 65536 in
theorem w_c7 : (Jvm.Cond.code ({ cls := "java/lang/StringLatin1", name := "equals", desc := "([B[B)Z" } : Jvm.MethodName) jdk_43_method_13_code (3 : Nat) (Option.some Jvm.ClassFile.FieldType.boolean)).before args0 about1 = true := code_word (m := ⟨10, 1⟩) (meth := k10m1) (c := k10c1) (by decide +kernel) rfl rfl rfl (by decide +kernel)
set_option maxRecDepth 65536 in
theorem w_c8 : (Jvm.Cond.code ({ cls := "java/lang/String", name := "isEmpty", desc := "()Z" } : Jvm.MethodName) jdk_42_method_55_code (1 : Nat) (Option.some Jvm.ClassFile.FieldType.boolean)).before args0 about1 = true := code_word (m := ⟨7, 2⟩) (meth := k7m2) (c := k7c2) (by decide +kernel) rfl rfl rfl (by decide +kernel)
set_option maxRecDepth 65536 in
theorem w_c9 : (Jvm.Cond.code ({ cls := "java/lang/StringUTF16", name := "compress", desc := "([CII)[B" } : Jvm.MethodName) jdk_52_method_16_code (6 : Nat) (Option.some (Jvm.ClassFile.FieldType.array Jvm.ClassFile.FieldType.byte))).before args0 about1 = true := code_word (m := ⟨11, 2⟩) (meth := k11m2) (c := k11c2) (by decide +kernel) rfl rfl rfl (by decide +kernel)
set_option maxRecDepth 65536 in
theorem w_c10 : (Jvm.Cond.code ({ cls := "java/lang/StringUTF16", name := "compress", desc := "([CI[BII)I" } : Jvm.MethodName) jdk_52_method_21_code (7 : Nat) (Option.some Jvm.ClassFile.FieldType.int)).before args0 about1 = true := code_word (m := ⟨11, 3⟩) (meth := k11m3) (c := k11c3) (by decide +kernel) rfl rfl rfl (by decide +kernel)
set_option maxRecDepth 65536 in
theorem w_c11 : (Jvm.Cond.code ({ cls := "java/lang/StringUTF16", name := "coderFromArrayLen", desc := "([BI)B" } : Jvm.MethodName) jdk_52_method_15_code (2 : Nat) (Option.some Jvm.ClassFile.FieldType.byte)).before args0 about1 = true := code_word (m := ⟨11, 1⟩) (meth := k11m1) (c := k11c1) (by decide +kernel) rfl rfl rfl (by decide +kernel)
def codes1 : List Jvm.Cond := [Jvm.Cond.code x code maxLocals ret, Jvm.Cond.code ({ cls := "com/example/counterledger/counterledger/OpenItemIsFlagPinLaw", name := "draw", desc := "(I)C" } : Jvm.MethodName) method_2_code (2 : Nat) (Option.some Jvm.ClassFile.FieldType.char), Jvm.Cond.code ({ cls := "java/lang/String", name := "<init>", desc := "([C)V" } : Jvm.MethodName) jdk_42_method_3_code (2 : Nat) (Option.none : Option Jvm.ClassFile.FieldType), Jvm.Cond.code ({ cls := "java/lang/String", name := "<init>", desc := "([CIILjava/lang/Void;)V" } : Jvm.MethodName) jdk_42_method_149_code (6 : Nat) (Option.none : Option Jvm.ClassFile.FieldType), Jvm.Cond.code ({ cls := "java/lang/Object", name := "<init>", desc := "()V" } : Jvm.MethodName) object_method_1_code (1 : Nat) (Option.none : Option Jvm.ClassFile.FieldType), Jvm.Cond.code ({ cls := "com/example/counterledger/counterledger/OpenItem", name := "isFlag", desc := "(Ljava/lang/String;)Z" } : Jvm.MethodName) prog_25_method_3_code (1 : Nat) (Option.some Jvm.ClassFile.FieldType.boolean), Jvm.Cond.code ({ cls := "java/lang/String", name := "equals", desc := "(Ljava/lang/Object;)Z" } : Jvm.MethodName) jdk_42_method_66_code (3 : Nat) (Option.some Jvm.ClassFile.FieldType.boolean), Jvm.Cond.code ({ cls := "java/lang/StringLatin1", name := "equals", desc := "([B[B)Z" } : Jvm.MethodName) jdk_43_method_13_code (3 : Nat) (Option.some Jvm.ClassFile.FieldType.boolean), Jvm.Cond.code ({ cls := "java/lang/String", name := "isEmpty", desc := "()Z" } : Jvm.MethodName) jdk_42_method_55_code (1 : Nat) (Option.some Jvm.ClassFile.FieldType.boolean), Jvm.Cond.code ({ cls := "java/lang/StringUTF16", name := "compress", desc := "([CII)[B" } : Jvm.MethodName) jdk_52_method_16_code (6 : Nat) (Option.some (Jvm.ClassFile.FieldType.array Jvm.ClassFile.FieldType.byte)), Jvm.Cond.code ({ cls := "java/lang/StringUTF16", name := "compress", desc := "([CI[BII)I" } : Jvm.MethodName) jdk_52_method_21_code (7 : Nat) (Option.some Jvm.ClassFile.FieldType.int), Jvm.Cond.code ({ cls := "java/lang/StringUTF16", name := "coderFromArrayLen", desc := "([BI)B" } : Jvm.MethodName) jdk_52_method_15_code (2 : Nat) (Option.some Jvm.ClassFile.FieldType.byte)]
set_option maxRecDepth 65536 in
theorem codes_eq : words1.filter isCode = codes1 := rfl
theorem w_codes : ∀ c ∈ words1.filter isCode, c.before args0 about1 = true := by
  rw [codes_eq]
  intro c hc
  simp only [codes1, List.mem_cons, List.not_mem_nil, or_false] at hc
  rcases hc with rfl | rfl | rfl | rfl | rfl | rfl | rfl | rfl | rfl | rfl | rfl | rfl
  · exact w_c0
  · exact w_c1
  · exact w_c2
  · exact w_c3
  · exact w_c4
  · exact w_c5
  · exact w_c6
  · exact w_c7
  · exact w_c8
  · exact w_c9
  · exact w_c10
  · exact w_c11
set_option maxRecDepth 65536 in
theorem w_t1 : (words1.take 24).all (fun c => isCode c || c.before args0 about1) = true := by decide +kernel
set_option maxRecDepth 65536 in
theorem w_t2 : ((words1.drop 24).take 24).all (fun c => isCode c || c.before args0 about1) = true := by decide +kernel
set_option maxRecDepth 65536 in
theorem w_t3 : ((words1.drop 24).drop 24).all (fun c => isCode c || c.before args0 about1) = true := by decide +kernel
theorem w_tables : (allAtoms (Jvm.Cond.code x code maxLocals ret :: tables_1)).before args0 about1 = true := by
  rw [allAtoms_all]
  show words1.all (fun c => c.before args0 about1) = true
  refine all_split ?_ w_codes
  rw [← List.take_append_drop 24 words1, List.all_append, w_t1, ← List.take_append_drop 24 (words1.drop 24), List.all_append, w_t2, w_t3]
  rfl
set_option maxRecDepth 65536 in
theorem w_rest : rest_1_c.before args0 about1 = true := by decide +kernel
set_option maxRecDepth 65536 in
theorem w_case : (Jvm.Cond.and given_1 narrow_1).before args0 about1 = true := by decide +kernel
set_option maxRecDepth 65536 in
theorem w_consts : constsHeld consts_1 about1 := Jvm.Lit.constsHeldB_iff.mp (by decide +kernel)
theorem w_applies : (headSpec (Jvm.Cond.code x code maxLocals ret :: tables_1) room_1).applies x e0.platform about1 = true :=
  (Spec.applies_iff w_frames).mpr ⟨w_running, w_runnable, w_alone, w_named, w_hears, w_ripe, w_room, w_tables⟩
theorem atStart : AtStart classFile x code maxLocals ret World_1 tables_1 room_1 Calls_1 rest_1 Pre_1 launch0 p0 e0 about1 theMethod args0 below0 :=
  ⟨lists_1, trivial, launch0.admits_env _ _ _, launch0.least_env, fairChoices_fair.cas, fairChoices_fair.clock, w_frames, w_args, w_heap, w_applies, ⟨w_consts, trivial⟩, w_rest, w_case⟩
end start1
theorem witness_1 : WitnessClaimed_1 := ⟨start1.p0, start1.e0, start1.about1, start1.theMethod, start1.args0, start1.below0, start1.atStart⟩
end Jvm.Pilot.@@N@@
