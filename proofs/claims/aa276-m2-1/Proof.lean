import JvmDerived
import JvmDerived.Pilot.@@N@@Statement
import JvmDerived.Pilot.@@N@@Code
set_option linter.unusedVariables false
set_option linter.unusedSimpArgs false
namespace Jvm.Pilot.@@N@@
open Jvm Jvm.ClassFile Sem Op Lib Jvm.Free Jvm.Stand Jvm.LawKit Jvm.RoadKit Bundle Jvm.Pilot.@@N@@.Jvm.D
section Own
variable {p : Program} {l : Launch} {e : Env} {R : Room} {s : State} {m : MethodId} {args : Array Value} {below : List Frame} {meth : Method} {c : Code} {T : State} {locs : List Loc} {cells slots : Nat}
/-- from S the run ends, and it ends as Q says -/
def own_Go (p : Program) (e : Env) (below : List Frame) (Q : Outcome → State → Prop) (S : State) : Prop := ∃ s₂ o, Steps p.tables e below S s₂ ∧ s₂.status = .running ∧ Ended s₂ below o ∧ Q o s₂
theorem own_go {Q : Outcome → State → Prop} {S S' : State} (h : ∀ t, Steps p.tables e below S' t → Steps p.tables e below S t) (k : own_Go p e below Q S') : own_Go p e below Q S := by
  obtain ⟨s₂, o, h1, h2⟩ := k
  exact ⟨s₂, o, h _ h1, h2⟩
theorem own_ret {Q : Option Value → Heap → List Loc → Prop} {C S : Nat} (X : Stand p l e R s m args below meth c T locs cells slots) {v : Option Value} (hv : meth.sig.returnType = none → v = none) (hlk : meth.locks = false) {S0 : State}
    (hst : ∀ fs, (∀ (f : JFrame) (acts : List Action), f.method = m → f.locked = none → f.entered = [] → (doReturn e (T.setTop f) acts v).1 = T.setFrames fs) → Steps p.tables e below S0 (T.setFrames fs))
    (hQ : Q v T.heap locs) (hC : cells ≤ C) (hS : slots ≤ S) : own_Go p e below (fun o U' => ∃ v L, o = .returned v ∧ Q v U'.heap L ∧ FrameEnd s o U' L C S) S0 := by
  obtain ⟨fs, hr, hrun, hended, hW, hsame⟩ := X.leave (v := v) hv hlk
  exact ⟨_, _, hst fs hr, hrun, hended, _, _, rfl, hQ, ⟨_, rfl⟩, hW, hsame.mono hC hS⟩
theorem own_retN {Q : Option Value → Heap → List Loc → Prop} {C S : Nat} (X : Stand p l e R s m args below meth c T locs cells slots) (hx : p.tables.exec = Jvm.exec) {pc : Nat} {Ls : Array Slot} {z : Int32} {t : FieldType} {rest : List Value} (hret : meth.sig.returnType = some t) (ht : t = .boolean ∨ t = .byte ∨ t = .char ∨ t = .short)
    (hd : decode c.code pc = .ok (.ireturn, 1)) (hQ : Q (some (.int (nar t z))) T.heap locs) (hC : cells ≤ C) (hS : slots ≤ S) (hlk : meth.locks = false := by assumption) :
    own_Go p e below (fun o U' => ∃ v L, o = .returned v ∧ Q v U'.heap L ∧ FrameEnd s o U' L C S) (T.setTop (mkF m pc Ls (.int z :: rest))) :=
  own_ret X (fun h => by rw [hret] at h; cases h) hlk (fun fs hr => retN X hx hret ht hd hr) hQ hC hS
theorem own_retI {Q : Option Value → Heap → List Loc → Prop} {C S : Nat} (X : Stand p l e R s m args below meth c T locs cells slots) (hx : p.tables.exec = Jvm.exec) {pc : Nat} {Ls : Array Slot} {z : Int32} {rest : List Value} (hret : meth.sig.returnType = some .int)
    (hd : decode c.code pc = .ok (.ireturn, 1)) (hQ : Q (some (.int z)) T.heap locs) (hC : cells ≤ C) (hS : slots ≤ S) (hlk : meth.locks = false := by assumption) :
    own_Go p e below (fun o U' => ∃ v L, o = .returned v ∧ Q v U'.heap L ∧ FrameEnd s o U' L C S) (T.setTop (mkF m pc Ls (.int z :: rest))) :=
  own_ret X (fun h => by rw [hret] at h; cases h) hlk (fun fs hr => retOut X hx hret rfl (Or.inl ⟨rfl, Or.inl rfl, z, rfl⟩) hd hr) hQ hC hS
theorem own_retL {Q : Option Value → Heap → List Loc → Prop} {C S : Nat} (X : Stand p l e R s m args below meth c T locs cells slots) (hx : p.tables.exec = Jvm.exec) {pc : Nat} {Ls : Array Slot} {z : Int64} {rest : List Value} (hret : meth.sig.returnType = some .long)
    (hd : decode c.code pc = .ok (.lreturn, 1)) (hQ : Q (some (.long z)) T.heap locs) (hC : cells ≤ C) (hS : slots ≤ S) (hlk : meth.locks = false := by assumption) :
    own_Go p e below (fun o U' => ∃ v L, o = .returned v ∧ Q v U'.heap L ∧ FrameEnd s o U' L C S) (T.setTop (mkF m pc Ls (.long z :: rest))) :=
  own_ret X (fun h => by rw [hret] at h; cases h) hlk (fun fs hr => retOut X hx hret rfl (Or.inr (Or.inl ⟨rfl, rfl, z, rfl⟩)) hd hr) hQ hC hS
theorem own_retA {Q : Option Value → Heap → List Loc → Prop} {C S : Nat} (X : Stand p l e R s m args below meth c T locs cells slots) (hx : p.tables.exec = Jvm.exec) {pc : Nat} {Ls : Array Slot} {w : Value} {t : FieldType} {rest : List Value} (hret : meth.sig.returnType = some t) (ht : t.isReference = true) (hw : w.isRef = true)
    (hd : decode c.code pc = .ok (.areturn, 1)) (hQ : Q (some w) T.heap locs) (hC : cells ≤ C) (hS : slots ≤ S) (hlk : meth.locks = false := by assumption) :
    own_Go p e below (fun o U' => ∃ v L, o = .returned v ∧ Q v U'.heap L ∧ FrameEnd s o U' L C S) (T.setTop (mkF m pc Ls (w :: rest))) :=
  own_ret X (fun h => by rw [hret] at h; cases h) hlk (fun fs hr => retOut X hx hret (by cases t <;> first | (cases ht; done) | rfl) (Or.inr (Or.inr (Or.inr (Or.inr ⟨rfl, ht, hw⟩)))) hd hr) hQ hC hS
theorem own_ret0 {Q : Option Value → Heap → List Loc → Prop} {C S : Nat} (X : Stand p l e R s m args below meth c T locs cells slots) (hx : p.tables.exec = Jvm.exec) {pc : Nat} {Ls : Array Slot} (hret : meth.sig.returnType = none)
    (hd : decode c.code pc = .ok (.return_, 1)) (hQ : Q none T.heap locs) (hC : cells ≤ C) (hS : slots ≤ S) (hlk : meth.locks = false := by assumption) :
    own_Go p e below (fun o U' => ∃ v L, o = .returned v ∧ Q v U'.heap L ∧ FrameEnd s o U' L C S) (T.setTop (mkF m pc Ls [])) :=
  own_ret X (fun _ => rfl) hlk (fun fs hr => X.returnOut hx hret hd hr) hQ hC hS
theorem own_retW {Q : Option Value → Heap → List Loc → Prop} {C S : Nat} {vm₁ : Vm} {n : Nat} (X : Stand p l e R (s.setVm vm₁) m args below meth c T locs cells slots) {v : Option Value} (hv : meth.sig.returnType = none → v = none) (hlk : meth.locks = false) {S0 : State}
    (hst : ∀ fs, (∀ (f : JFrame) (acts : List Action), f.method = m → f.locked = none → f.entered = [] → (doReturn e (T.setTop f) acts v).1 = T.setFrames fs) → Steps p.tables e below S0 (T.setFrames fs))
    (hS₁ : s.Since vm₁ n) (hn₁ : n ≤ T.heap.size) (hQ : Q v T.heap locs) (hC : cells ≤ C) (hS : slots ≤ S) : own_Go p e below (fun o U' => ∃ v L, o = .returned v ∧ Q v U'.heap L ∧ ReturnedEndW s o U' L C S) S0 := by
  obtain ⟨fs, hr, hrun, hended, q1, q2, q3, q4⟩ := X.leaveW hS₁ hn₁ (v := v) hv hlk
  exact ⟨_, _, hst fs hr, hrun, hended, _, _, rfl, hQ, q1, q2, q3, q4.mono hC hS⟩
theorem own_retNW {Q : Option Value → Heap → List Loc → Prop} {C S : Nat} {vm₁ : Vm} {n : Nat} (X : Stand p l e R (s.setVm vm₁) m args below meth c T locs cells slots) (hx : p.tables.exec = Jvm.exec) {pc : Nat} {Ls : Array Slot} {z : Int32} {t : FieldType} {rest : List Value} (hret : meth.sig.returnType = some t) (ht : t = .boolean ∨ t = .byte ∨ t = .char ∨ t = .short)
    (hd : decode c.code pc = .ok (.ireturn, 1)) (hS₁ : s.Since vm₁ n) (hn₁ : n ≤ T.heap.size) (hQ : Q (some (.int (nar t z))) T.heap locs) (hC : cells ≤ C) (hS : slots ≤ S) (hlk : meth.locks = false := by assumption) :
    own_Go p e below (fun o U' => ∃ v L, o = .returned v ∧ Q v U'.heap L ∧ ReturnedEndW s o U' L C S) (T.setTop (mkF m pc Ls (.int z :: rest))) :=
  own_retW X (fun h => by rw [hret] at h; cases h) hlk (fun fs hr => retN X hx hret ht hd hr) hS₁ hn₁ hQ hC hS
theorem own_retIW {Q : Option Value → Heap → List Loc → Prop} {C S : Nat} {vm₁ : Vm} {n : Nat} (X : Stand p l e R (s.setVm vm₁) m args below meth c T locs cells slots) (hx : p.tables.exec = Jvm.exec) {pc : Nat} {Ls : Array Slot} {z : Int32} {rest : List Value} (hret : meth.sig.returnType = some .int)
    (hd : decode c.code pc = .ok (.ireturn, 1)) (hS₁ : s.Since vm₁ n) (hn₁ : n ≤ T.heap.size) (hQ : Q (some (.int z)) T.heap locs) (hC : cells ≤ C) (hS : slots ≤ S) (hlk : meth.locks = false := by assumption) :
    own_Go p e below (fun o U' => ∃ v L, o = .returned v ∧ Q v U'.heap L ∧ ReturnedEndW s o U' L C S) (T.setTop (mkF m pc Ls (.int z :: rest))) :=
  own_retW X (fun h => by rw [hret] at h; cases h) hlk (fun fs hr => retOut X hx hret rfl (Or.inl ⟨rfl, Or.inl rfl, z, rfl⟩) hd hr) hS₁ hn₁ hQ hC hS
theorem own_retLW {Q : Option Value → Heap → List Loc → Prop} {C S : Nat} {vm₁ : Vm} {n : Nat} (X : Stand p l e R (s.setVm vm₁) m args below meth c T locs cells slots) (hx : p.tables.exec = Jvm.exec) {pc : Nat} {Ls : Array Slot} {z : Int64} {rest : List Value} (hret : meth.sig.returnType = some .long)
    (hd : decode c.code pc = .ok (.lreturn, 1)) (hS₁ : s.Since vm₁ n) (hn₁ : n ≤ T.heap.size) (hQ : Q (some (.long z)) T.heap locs) (hC : cells ≤ C) (hS : slots ≤ S) (hlk : meth.locks = false := by assumption) :
    own_Go p e below (fun o U' => ∃ v L, o = .returned v ∧ Q v U'.heap L ∧ ReturnedEndW s o U' L C S) (T.setTop (mkF m pc Ls (.long z :: rest))) :=
  own_retW X (fun h => by rw [hret] at h; cases h) hlk (fun fs hr => retOut X hx hret rfl (Or.inr (Or.inl ⟨rfl, rfl, z, rfl⟩)) hd hr) hS₁ hn₁ hQ hC hS
theorem own_retAW {Q : Option Value → Heap → List Loc → Prop} {C S : Nat} {vm₁ : Vm} {n : Nat} (X : Stand p l e R (s.setVm vm₁) m args below meth c T locs cells slots) (hx : p.tables.exec = Jvm.exec) {pc : Nat} {Ls : Array Slot} {w : Value} {t : FieldType} {rest : List Value} (hret : meth.sig.returnType = some t) (ht : t.isReference = true) (hw : w.isRef = true)
    (hd : decode c.code pc = .ok (.areturn, 1)) (hS₁ : s.Since vm₁ n) (hn₁ : n ≤ T.heap.size) (hQ : Q (some w) T.heap locs) (hC : cells ≤ C) (hS : slots ≤ S) (hlk : meth.locks = false := by assumption) :
    own_Go p e below (fun o U' => ∃ v L, o = .returned v ∧ Q v U'.heap L ∧ ReturnedEndW s o U' L C S) (T.setTop (mkF m pc Ls (w :: rest))) :=
  own_retW X (fun h => by rw [hret] at h; cases h) hlk (fun fs hr => retOut X hx hret (by cases t <;> first | (cases ht; done) | rfl) (Or.inr (Or.inr (Or.inr (Or.inr ⟨rfl, ht, hw⟩)))) hd hr) hS₁ hn₁ hQ hC hS
theorem own_ret0W {Q : Option Value → Heap → List Loc → Prop} {C S : Nat} {vm₁ : Vm} {n : Nat} (X : Stand p l e R (s.setVm vm₁) m args below meth c T locs cells slots) (hx : p.tables.exec = Jvm.exec) {pc : Nat} {Ls : Array Slot} (hret : meth.sig.returnType = none)
    (hd : decode c.code pc = .ok (.return_, 1)) (hS₁ : s.Since vm₁ n) (hn₁ : n ≤ T.heap.size) (hQ : Q none T.heap locs) (hC : cells ≤ C) (hS : slots ≤ S) (hlk : meth.locks = false := by assumption) :
    own_Go p e below (fun o U' => ∃ v L, o = .returned v ∧ Q v U'.heap L ∧ ReturnedEndW s o U' L C S) (T.setTop (mkF m pc Ls [])) :=
  own_retW X (fun _ => rfl) hlk (fun fs hr => X.returnOut hx hret hd hr) hS₁ hn₁ hQ hC hS
theorem own_retH {Q : Option Value → Heap → List Loc → Prop} {C S : Nat} {vm₁ : Vm} {n : Nat} {Z : State} {EL : List (String × Nat)} (X : Stand p l e R (s.setVm vm₁) m args below meth c T locs cells slots) {v : Option Value} (hv : meth.sig.returnType = none → v = none) (hlk : meth.locks = false) {S0 : State}
    (hst : ∀ fs, (∀ (f : JFrame) (acts : List Action), f.method = m → f.locked = none → f.entered = [] → (doReturn e (T.setTop f) acts v).1 = T.setFrames fs) → Steps p.tables e below S0 (T.setFrames fs))
    (hS₁ : s.Since vm₁ n) (hn₁ : n ≤ T.heap.size) (hQ : Q v T.heap locs) (hF : CHr Z EL s.vm s.heap T.vm T.heap) (hC : cells ≤ C) (hS : slots ≤ S) : own_Go p e below (fun o U' => ∃ v L, o = .returned v ∧ Q v U'.heap L ∧ CHr Z EL s.vm s.heap U'.vm U'.heap ∧ ReturnedEndW s o U' L C S) S0 := by
  obtain ⟨fs, hr, hrun, hended, q1, q2, q3, q4⟩ := X.leaveW hS₁ hn₁ (v := v) hv hlk
  exact ⟨_, _, hst fs hr, hrun, hended, _, _, rfl, hQ, hF, q1, q2, q3, q4.mono hC hS⟩
theorem own_retNH {Q : Option Value → Heap → List Loc → Prop} {C S : Nat} {vm₁ : Vm} {n : Nat} {Z : State} {EL : List (String × Nat)} (X : Stand p l e R (s.setVm vm₁) m args below meth c T locs cells slots) (hx : p.tables.exec = Jvm.exec) {pc : Nat} {Ls : Array Slot} {z : Int32} {t : FieldType} {rest : List Value} (hret : meth.sig.returnType = some t) (ht : t = .boolean ∨ t = .byte ∨ t = .char ∨ t = .short)
    (hd : decode c.code pc = .ok (.ireturn, 1)) (hS₁ : s.Since vm₁ n) (hn₁ : n ≤ T.heap.size) (hQ : Q (some (.int (nar t z))) T.heap locs) (hF : CHr Z EL s.vm s.heap T.vm T.heap) (hC : cells ≤ C) (hS : slots ≤ S) (hlk : meth.locks = false := by assumption) :
    own_Go p e below (fun o U' => ∃ v L, o = .returned v ∧ Q v U'.heap L ∧ CHr Z EL s.vm s.heap U'.vm U'.heap ∧ ReturnedEndW s o U' L C S) (T.setTop (mkF m pc Ls (.int z :: rest))) :=
  own_retH X (fun h => by rw [hret] at h; cases h) hlk (fun fs hr => retN X hx hret ht hd hr) hS₁ hn₁ hQ hF hC hS
theorem own_retIH {Q : Option Value → Heap → List Loc → Prop} {C S : Nat} {vm₁ : Vm} {n : Nat} {Z : State} {EL : List (String × Nat)} (X : Stand p l e R (s.setVm vm₁) m args below meth c T locs cells slots) (hx : p.tables.exec = Jvm.exec) {pc : Nat} {Ls : Array Slot} {z : Int32} {rest : List Value} (hret : meth.sig.returnType = some .int)
    (hd : decode c.code pc = .ok (.ireturn, 1)) (hS₁ : s.Since vm₁ n) (hn₁ : n ≤ T.heap.size) (hQ : Q (some (.int z)) T.heap locs) (hF : CHr Z EL s.vm s.heap T.vm T.heap) (hC : cells ≤ C) (hS : slots ≤ S) (hlk : meth.locks = false := by assumption) :
    own_Go p e below (fun o U' => ∃ v L, o = .returned v ∧ Q v U'.heap L ∧ CHr Z EL s.vm s.heap U'.vm U'.heap ∧ ReturnedEndW s o U' L C S) (T.setTop (mkF m pc Ls (.int z :: rest))) :=
  own_retH X (fun h => by rw [hret] at h; cases h) hlk (fun fs hr => retOut X hx hret rfl (Or.inl ⟨rfl, Or.inl rfl, z, rfl⟩) hd hr) hS₁ hn₁ hQ hF hC hS
theorem own_retLH {Q : Option Value → Heap → List Loc → Prop} {C S : Nat} {vm₁ : Vm} {n : Nat} {Z : State} {EL : List (String × Nat)} (X : Stand p l e R (s.setVm vm₁) m args below meth c T locs cells slots) (hx : p.tables.exec = Jvm.exec) {pc : Nat} {Ls : Array Slot} {z : Int64} {rest : List Value} (hret : meth.sig.returnType = some .long)
    (hd : decode c.code pc = .ok (.lreturn, 1)) (hS₁ : s.Since vm₁ n) (hn₁ : n ≤ T.heap.size) (hQ : Q (some (.long z)) T.heap locs) (hF : CHr Z EL s.vm s.heap T.vm T.heap) (hC : cells ≤ C) (hS : slots ≤ S) (hlk : meth.locks = false := by assumption) :
    own_Go p e below (fun o U' => ∃ v L, o = .returned v ∧ Q v U'.heap L ∧ CHr Z EL s.vm s.heap U'.vm U'.heap ∧ ReturnedEndW s o U' L C S) (T.setTop (mkF m pc Ls (.long z :: rest))) :=
  own_retH X (fun h => by rw [hret] at h; cases h) hlk (fun fs hr => retOut X hx hret rfl (Or.inr (Or.inl ⟨rfl, rfl, z, rfl⟩)) hd hr) hS₁ hn₁ hQ hF hC hS
theorem own_retAH {Q : Option Value → Heap → List Loc → Prop} {C S : Nat} {vm₁ : Vm} {n : Nat} {Z : State} {EL : List (String × Nat)} (X : Stand p l e R (s.setVm vm₁) m args below meth c T locs cells slots) (hx : p.tables.exec = Jvm.exec) {pc : Nat} {Ls : Array Slot} {w : Value} {t : FieldType} {rest : List Value} (hret : meth.sig.returnType = some t) (ht : t.isReference = true) (hw : w.isRef = true)
    (hd : decode c.code pc = .ok (.areturn, 1)) (hS₁ : s.Since vm₁ n) (hn₁ : n ≤ T.heap.size) (hQ : Q (some w) T.heap locs) (hF : CHr Z EL s.vm s.heap T.vm T.heap) (hC : cells ≤ C) (hS : slots ≤ S) (hlk : meth.locks = false := by assumption) :
    own_Go p e below (fun o U' => ∃ v L, o = .returned v ∧ Q v U'.heap L ∧ CHr Z EL s.vm s.heap U'.vm U'.heap ∧ ReturnedEndW s o U' L C S) (T.setTop (mkF m pc Ls (w :: rest))) :=
  own_retH X (fun h => by rw [hret] at h; cases h) hlk (fun fs hr => retOut X hx hret (by cases t <;> first | (cases ht; done) | rfl) (Or.inr (Or.inr (Or.inr (Or.inr ⟨rfl, ht, hw⟩)))) hd hr) hS₁ hn₁ hQ hF hC hS
theorem own_ret0H {Q : Option Value → Heap → List Loc → Prop} {C S : Nat} {vm₁ : Vm} {n : Nat} {Z : State} {EL : List (String × Nat)} (X : Stand p l e R (s.setVm vm₁) m args below meth c T locs cells slots) (hx : p.tables.exec = Jvm.exec) {pc : Nat} {Ls : Array Slot} (hret : meth.sig.returnType = none)
    (hd : decode c.code pc = .ok (.return_, 1)) (hS₁ : s.Since vm₁ n) (hn₁ : n ≤ T.heap.size) (hQ : Q none T.heap locs) (hF : CHr Z EL s.vm s.heap T.vm T.heap) (hC : cells ≤ C) (hS : slots ≤ S) (hlk : meth.locks = false := by assumption) :
    own_Go p e below (fun o U' => ∃ v L, o = .returned v ∧ Q v U'.heap L ∧ CHr Z EL s.vm s.heap U'.vm U'.heap ∧ ReturnedEndW s o U' L C S) (T.setTop (mkF m pc Ls [])) :=
  own_retH X (fun _ => rfl) hlk (fun fs hr => X.returnOut hx hret hd hr) hS₁ hn₁ hQ hF hC hS
theorem own_cat1 {v : Value} (h : v.isRef = true) : v.category = 1 := by cases v <;> simp_all [Value.isRef, Value.category]
theorem own_catR {x : Addr} : (Value.ref x).category = 1 := rfl
theorem own_catI {x : Int32} : (Value.int x).category = 1 := rfl
theorem own_catJ {x : Int64} : (Value.long x).category = 2 := rfl
theorem own_catN : Value.null.category = 1 := rfl
theorem own_st1 {L L' : Array Slot} {i : Nat} {v : Value} {o : Slot} (hold : L[i]? = some o) (ho : o = .unset ∨ ∃ w, o = .val w ∧ w.category = 1) (hv : v.category = 1) (q : L.setIfInBounds i (.val v) = L' := by rfl) : storeLocals L i v = some L' := q ▸ XS.store1 hold ho hv
theorem own_fits {v : Value} {t : FieldType} (h : v.isRef = true) (ht : t.isReference = true) : fits t v = true := by cases t <;> first | (cases ht; done) | (cases v <;> simp_all [Value.isRef, fits])
theorem own_frm {k k' : Nat} {L : List Loc} (N : Fr k L) (h : k' ≤ k) : Fr k' L := fun y hy => Nat.le_trans h (N y hy)
theorem own_lsw {g : JFrame} {target : State} (X : Stand p l e R s m args below meth c T locs cells slots) (hx : p.tables.exec = Jvm.exec) (hg : g.method = m) {df : Int} {prs : Array (Int × Int)} {len : Nat} {x : Int32} {rest : List Value} {o : Int} {pc0 pc' : Nat} (hpc : g.pc = pc0)
    (hd : decode c.code g.pc = .ok (.lookupswitch df prs, len)) (hs : g.stack = .int x :: rest) (hsrt : (prs.toList.zip (prs.toList.drop 1)).all (fun (a, next) => a.1 < next.1) = true) (hf : lookupswitch.offset prs.toList df x.toInt = o) (ho : 0 ≤ (pc0 : Int) + o) (hp : ((pc0 : Int) + o).toNat = pc')
    (hr : Steps p.tables e below (T.setTop { g with pc := pc', stack := rest }) target) : Steps p.tables e below (T.setTop g) target := by
  subst hg hpc hp
  jvm_step X.here [X.here.top, hx, hd, hs, lookupswitch.wp_chain, hf, ho]
  first | exact hr | exact ⟨by simpa using hsrt, hr⟩
theorem own_backH {Z : State} {a0 : Array Value} {EL : List (String × Nat)} {h : Heap} {vm0 : Vm} {y : MethodName} {bytes : ByteArray} {maxL : Nat} {ret : Option FieldType} {rm : Room} {len W : Nat} {as' : Array Value} {sf : List Addr} {Q : Option Value → Heap → List Loc → Prop}
    (hM : MetFree l y (head1 [Cond.code y bytes maxL ret] rm) (fun a U => a = as' ∧ Z.Warmed39 U.vm ∧ U.heap = h ∧ CHv Z EL U.vm h ∧ ∀ x ∈ sf, Safe Z EL U.vm h x) (fun _ _ _ _ _ => True) (fun _ U o U' => ∃ v L, o = .returned v ∧ Q v U'.heap L ∧ CHr Z EL U.vm U.heap U'.vm U'.heap ∧ ReturnedEndW U o U' L rm.cells rm.slots))
    (hZ : Z.Warmed39 vm0) (wc : (Cond.code y bytes maxL ret).before a0 Z = true) (wz : (Cond.initialized y.cls).before a0 Z = true) (hf : rm.frames + 1 ≤ R.frames) (hl : W + (maxL + 11) + rm.locals ≤ R.locals) (hEL : EW Z a0 EL) (H : CHv Z EL vm0 h) (hsf : ∀ x ∈ sf, x < h.size ∧ Safe Z EL vm0 h x) :
    BackS l R p e below (s.setVm vm0) args y len W (fun A a => a = as' ∧ A.U.heap = h ∧ A.cells + rm.cells ≤ R.cells ∧ A.slots + rm.slots ≤ R.slots)
      (fun A _ v B => ∃ L, Q v B.U.heap L ∧ B.locs = A.locs ++ L ∧ B.cells = A.cells + rm.cells ∧ B.slots = A.slots + rm.slots ∧ CHr Z EL vm0 h B.U.vm B.U.heap) := by
  refine BackS.of_freeW (bytes := bytes) (maxL := maxL) (ret := ret) (E := fun _ first o t L k n => (k = rm.cells ∧ n = rm.slots) ∧ CHr Z EL first.vm first.heap t.vm t.heap ∧ ∃ v, o = .returned v ∧ Q v t.heap L) hM hf hl ?_ ?_ (fun _ _ _ _ _ _ _ _ _ => trivial) ?_ ?_
  · intro m meth c A a Y hp
    have hU : Z.Warmed39 A.U.vm := wtrans (s := s.setVm vm0) hZ Y.warmed
    exact ⟨by show (Cond.and _ .tt).before a A.U = true; rw [Cond.before_and, mv hU wc]; rfl, mv hU wc, mv hU wz, hp.2.2.1, hp.2.2.2⟩
  · intro m meth c A a g mk Y hp
    have q := CHv.at Y hZ hEL H
    exact ⟨hp.1, wtrans (s := s.setVm vm0) hZ Y.warmed, hp.2.1, q.1, fun x hx => q.safe (hsf x hx).1 (hsf x hx).2⟩
  · rintro _ _ _ _ ⟨v, L, h1, h2, h3, h4⟩
    exact ⟨L, _, _, h4, ⟨rfl, rfl⟩, h3, v, h1, h2⟩
  · rintro m meth c A a g mk v t L k n Y hp _ _ ⟨⟨e1, e2⟩, e5, v', e3, e4⟩
    cases e3
    subst e1 e2
    have q := (CHv.at Y hZ hEL H).trans (vm2 := t.vm) (h2 := t.heap) (by rw [← hp.2.1]; exact e5)
    exact ⟨L, e4, rfl, rfl, rfl, q⟩
end Own
theorem d1_0 : decode jdk_37_method_2_code 0 = .ok (.aload_n 0, 1) := by decide +kernel
theorem d1_1 : decode jdk_37_method_2_code 1 = .ok (.getfield 7, 3) := by decide +kernel
theorem d1_4 : decode jdk_37_method_2_code 4 = .ok (.ireturn, 1) := by decide +kernel
theorem pn1 : plainName "java/lang/Enum" = true := by first | (simp [plainName, overriddenIn]; done) | decide +kernel
theorem ef1 (m : MethodId) (x0 : Addr) : entryFrame m #[(.ref x0)] 1 = mkF m 0 #[.val (.ref x0)] [] := by first | (simp [entryFrame, mkF, argsToLocals, Value.category]; done) | rfl
def own_QI (k : Int32) (h0 : Heap) (n0 : Nat) (v : Option Value) (h : Heap) (L : List Loc) : Prop := v = some (.int k) ∧ Fr n0 L ∧ h = h0
set_option maxRecDepth 65536 in
set_option maxHeartbeats 40000000 in
theorem rm1 (l : Launch) (Z : State) (a0 : Array Value) (hw : ∀ d ∈ tables_1, d.before a0 Z = true) (ws : List Jvm.Cond) (oa : Addr) (xk : Int32) (h0 : Heap) (n0 : Nat) (Z0 : n0 ≤ h0.size) (Fo : Fld Z h0 oa "java/lang/Enum" "ordinal" "I" (.int xk)) :
    MetFree l (⟨"java/lang/Enum", "ordinal", "()I"⟩ : MethodName) (head1 (Jvm.Cond.code (⟨"java/lang/Enum", "ordinal", "()I"⟩ : MethodName) jdk_37_method_2_code 1 (some .int) :: ws) ({ frames := 0, cells := 0, slots := 0, locals := 0 } : Room)) (fun a U => a = #[(.ref oa)] ∧ Z.Warmed39 U.vm ∧ U.heap = h0) (fun _ _ _ _ _ => True) (fun _ U o U' => ∃ v L, o = .returned v ∧ own_QI xk h0 n0 v U'.heap L ∧ FrameEnd U o U' L ({ frames := 0, cells := 0, slots := 0, locals := 0 } : Room).cells ({ frames := 0, cells := 0, slots := 0, locals := 0 } : Room).slots) := by
  refine MetFree.of_bodySF (plainFor_of_name pn1) hisR ?_
  intro p e s m args below meth c s₁ Bd hml0 hP hK
  obtain ⟨rfl, hZ, hh⟩ := hP
  have hx := Bd.exec
  have hby := Bd.bytes
  have hml : c.maxLocals = 1 := hml0
  have hown : s.vm.findClass "java/lang/Enum" = some m.cls := findClass_of_methodNamed Bd.named
  have hnm := (name_of_methodNamed Bd.named Bd.method).1
  have hlk : meth.locks = false := Bd.notSynchronized
  have X0 : Stand p l e ({ frames := 0, cells := 0, slots := 0, locals := 0 } : Room) s m #[(.ref oa)] below meth c s₁ [] 0 0 := Stand.of_body Bd
  have e0 : s₁.heap = h0 := by rw [← hh, Bd.state]; rfl
  have N0 := Fr.nil n0
  refine own_go (fun t k => castTop (ef1 m oa) k) ?_
  show own_Go p e below _ (s₁.setTop (mkF m 0 #[.val (.ref oa)] []))
  refine own_go (fun t k => XS.aloadN X0.here hx rfl (hb hby d1_0) rfl rfl k) ?_
  show own_Go p e below _ (s₁.setTop (mkF m 1 #[.val (.ref oa)] [(.ref oa)]))
  obtain ⟨T1, X1, e1, st1⟩ := getF X0 hx hZ hown (host := "") (Or.inl (hw _ (List.mem_of_getElem? (i := 17) rfl))) Via.refl e0 Fo (g := (mkF m 1 #[.val (.ref oa)] [(.ref oa)])) rfl rfl (hb hby d1_1)
  refine own_go (fun t k => st1 t k) ?_
  show own_Go p e below _ (T1.setTop (mkF m 4 #[.val (.ref oa)] [(.int xk)]))
  exact own_retI X1 hx Bd.returns (hb hby d1_4) (by rw [e1]; exact ⟨rfl, N0, rfl⟩) (by decide) (by decide)
theorem d2_0 : decode prog_42_method_4_code 0 = .ok (.getstatic 36, 3) := by decide +kernel
theorem d2_3 : decode prog_42_method_4_code 3 = .ok (.aload_n 0, 1) := by decide +kernel
theorem d2_4 : decode prog_42_method_4_code 4 = .ok (.invokevirtual 42, 3) := by decide +kernel
theorem d2_7 : decode prog_42_method_4_code 7 = .ok (.iaload, 1) := by decide +kernel
theorem d2_8 : decode prog_42_method_4_code 8 = .ok (.lookupswitch 28 #[(1, 38), (2, 44)], 28) := by decide +kernel
theorem d2_46 : decode prog_42_method_4_code 46 = .ok (.getstatic 3, 3) := by decide +kernel
theorem d2_49 : decode prog_42_method_4_code 49 = .ok (.goto 6, 3) := by decide +kernel
theorem d2_55 : decode prog_42_method_4_code 55 = .ok (.areturn, 1) := by decide +kernel
theorem pn2 : plainName "com/example/counterledger/counterledger/SettlementDocument$Kind" = true := by first | (simp [plainName, overriddenIn]; done) | decide +kernel
theorem pd2_0 : parseMethodDescriptor "()I" = some ⟨[], some .int⟩ := by decide +kernel
theorem ef2 (m : MethodId) (x0 : Addr) : entryFrame m #[(.ref x0)] 1 = mkF m 0 #[.val (.ref x0)] [] := by first | (simp [entryFrame, mkF, argsToLocals, Value.category]; done) | rfl
def own_QR (a : Addr) (h0 : Heap) (n0 : Nat) (v : Option Value) (h : Heap) (L : List Loc) : Prop := v = some (.ref a) ∧ Fr n0 L ∧ h = h0
set_option maxRecDepth 65536 in
set_option maxHeartbeats 40000000 in
theorem rm2 (l : Launch) (Z : State) (a0 : Array Value) (hw : ∀ d ∈ tables_1, d.before a0 Z = true) (ws : List Jvm.Cond) (sd am ak : Addr) (cl : Cell) (h0 : Heap) (n0 : Nat) (Z0 : n0 ≤ h0.size) (SM_ : Sta Z h0 "com/example/counterledger/counterledger/SettlementDocument$1" "$SwitchMap$com$example$counterledger$counterledger$Side" "[I" (.ref am)) (SK : Sta Z h0 "com/example/counterledger/counterledger/SettlementDocument$Kind" "PAYMENT" "Lcom/example/counterledger/counterledger/SettlementDocument$Kind;" (.ref ak)) (Es : Exa Z h0 sd "com/example/counterledger/counterledger/Side") (Fo : Fld Z h0 sd "java/lang/Enum" "ordinal" "I" (.int (0 : Int32))) (Am : Arr Z h0 am cl .int) (hin : ¬ ((0 : Int32) < 0 ∨ cl.slots.size ≤ ((0 : Int32)).toNatClampNeg)) (hat : cl.slots[((0 : Int32)).toNatClampNeg]? = some (.int (1 : Int32))) :
    MetFree l (⟨"com/example/counterledger/counterledger/SettlementDocument$Kind", "of", "(Lcom/example/counterledger/counterledger/Side;)Lcom/example/counterledger/counterledger/SettlementDocument$Kind;"⟩ : MethodName) (head1 (Jvm.Cond.code (⟨"com/example/counterledger/counterledger/SettlementDocument$Kind", "of", "(Lcom/example/counterledger/counterledger/Side;)Lcom/example/counterledger/counterledger/SettlementDocument$Kind;"⟩ : MethodName) prog_42_method_4_code 1 (some (.object "com/example/counterledger/counterledger/SettlementDocument$Kind")) :: ws) ({ frames := 1, cells := 0, slots := 0, locals := 13 } : Room)) (fun a U => a = #[(.ref sd)] ∧ Z.Warmed39 U.vm ∧ U.heap = h0) (fun _ _ _ _ _ => True) (fun _ U o U' => ∃ v L, o = .returned v ∧ own_QR ak h0 n0 v U'.heap L ∧ FrameEnd U o U' L ({ frames := 1, cells := 0, slots := 0, locals := 13 } : Room).cells ({ frames := 1, cells := 0, slots := 0, locals := 13 } : Room).slots) := by
  refine MetFree.of_bodySF (plainFor_of_name pn2) hisR ?_
  intro p e s m args below meth c s₁ Bd hml0 hP hK
  obtain ⟨rfl, hZ, hh⟩ := hP
  have hx := Bd.exec
  have hby := Bd.bytes
  have hml : c.maxLocals = 1 := hml0
  have hown : s.vm.findClass "com/example/counterledger/counterledger/SettlementDocument$Kind" = some m.cls := findClass_of_methodNamed Bd.named
  have hnm := (name_of_methodNamed Bd.named Bd.method).1
  have hlk : meth.locks = false := Bd.notSynchronized
  have X0 : Stand p l e ({ frames := 1, cells := 0, slots := 0, locals := 13 } : Room) s m #[(.ref sd)] below meth c s₁ [] 0 0 := Stand.of_body Bd
  have e0 : s₁.heap = h0 := by rw [← hh, Bd.state]; rfl
  have N0 := Fr.nil n0
  refine own_go (fun t k => castTop (ef2 m sd) k) ?_
  show own_Go p e below _ (s₁.setTop (mkF m 0 #[.val (.ref sd)] []))
  obtain ⟨T1, X1, e1, st1⟩ := getS2 X0 hx hZ hown (host := "") (Or.inl (hw _ (List.mem_of_getElem? (i := 7) rfl))) Via.refl e0 SM_ (g := (mkF m 0 #[.val (.ref sd)] [])) rfl (hb hby d2_0)
  refine own_go (fun t k => st1 t k) ?_
  show own_Go p e below _ (T1.setTop (mkF m 3 #[.val (.ref sd)] [(.ref am)]))
  refine own_go (fun t k => XS.aloadN X1.here hx rfl (hb hby d2_3) rfl rfl k) ?_
  show own_Go p e below _ (T1.setTop (mkF m 4 #[.val (.ref sd)] [(.ref sd), (.ref am)]))
  obtain ⟨cq2, kq2, q2a, q2b, q2c⟩ := isOf hZ e1 Es
  obtain ⟨_, _, ⟨T2, L2, k2, n2⟩, -, X2, ⟨Lc2, hQ2, l2, y2, z2⟩, st2⟩ := X1.virtualBackUp hx (x := (⟨"com/example/counterledger/counterledger/Side", "ordinal", "()I"⟩ : MethodName)) (y := (⟨"java/lang/Enum", "ordinal", "()I"⟩ : MethodName)) hown (mvT hZ (hw _ (List.mem_of_getElem? (i := 10) rfl))) (mvT hZ (hw _ (List.mem_of_getElem? (i := 11) rfl))) (mvT hZ (hw _ (List.mem_of_getElem? (i := 12) rfl))) (by decide) (mvT hZ (hw _ (List.mem_of_getElem? (i := 14) rfl))) (mvT hZ (hw _ (List.mem_of_getElem? (i := 13) rfl))) (backOf (W := 1) (rm1 l Z a0 hw [] sd (0 : Int32) h0 n0 Z0 Fo) hZ (hw _ (List.mem_of_getElem? (i := 16) rfl)) (hw _ (List.mem_of_getElem? (i := 15) rfl)) (by decide) (by decide)) q2a q2c (g := (mkF m 4 #[.val (.ref sd)] [(.ref sd), (.ref am)])) rfl (by rw [hml]; rfl) (Steps.refl _) (argsL := []) (rest := [(.ref am)]) (lenOf pd2_0 rfl) rfl (by show 2 * 0 + _ ≤ _; exact Nat.le_of_eq rfl) (hb hby d2_4) (fun _ _ => ⟨rfl, e1, (by decide : 0 + 0 ≤ _), (by decide : 0 + 0 ≤ _)⟩)
  dsimp only [Pt.U, Pt.locs, Pt.cells, Pt.slots] at X2 l2 y2 z2 st2 hQ2
  subst l2 y2 z2
  obtain ⟨rfl, Nq2, e2⟩ := hQ2
  have N2 := Fr.app N0 Nq2
  refine own_go (fun t k => st2.trans k) ?_
  show own_Go p e below _ (T2.setTop (mkF m 7 #[.val (.ref sd)] [(.int (0 : Int32)), (.ref am)]))
  refine own_go (fun t k => X2.iaload hx (j := (0 : Int32)) (v := .int (1 : Int32)) (by rw [e2]; exact Am.1) (State.isArrayOf_alike hZ.alike Am.2.1) Am.2.2 hin hat (g := (mkF m 7 #[.val (.ref sd)] [(.int (0 : Int32)), (.ref am)])) rfl rfl (hb hby d2_7) t k) ?_
  show own_Go p e below _ (T2.setTop (mkF m 8 #[.val (.ref sd)] [(.int (1 : Int32))]))
  refine own_go (fun t k => own_lsw X2 hx rfl (pc0 := 8) (pc' := 46) rfl (hb hby d2_8) rfl (by decide) (o := 38) (by decide) (by decide) (by decide) k) ?_
  show own_Go p e below _ (T2.setTop (mkF m 46 #[.val (.ref sd)] []))
  obtain ⟨T3, X3, e3, st3⟩ := getS2 X2 hx hZ hown (host := "") (Or.inl (hw _ (List.mem_of_getElem? (i := 53) rfl))) Via.refl e2 SK (g := (mkF m 46 #[.val (.ref sd)] [])) rfl (hb hby d2_46)
  refine own_go (fun t k => st3 t k) ?_
  show own_Go p e below _ (T3.setTop (mkF m 49 #[.val (.ref sd)] [(.ref ak)]))
  refine own_go (fun t k => XS.goto X3.here hx rfl (pc0 := 49) (pc' := 55) rfl (hb hby d2_49) (by decide) (by decide) k) ?_
  show own_Go p e below _ (T3.setTop (mkF m 55 #[.val (.ref sd)] [(.ref ak)]))
  exact own_retA X3 hx Bd.returns rfl rfl (hb hby d2_55) (by rw [e3]; exact ⟨rfl, N2, rfl⟩) (by decide) (by decide)
theorem d3_0 : decode prog_42_method_4_code 0 = .ok (.getstatic 36, 3) := by decide +kernel
theorem d3_3 : decode prog_42_method_4_code 3 = .ok (.aload_n 0, 1) := by decide +kernel
theorem d3_4 : decode prog_42_method_4_code 4 = .ok (.invokevirtual 42, 3) := by decide +kernel
theorem d3_7 : decode prog_42_method_4_code 7 = .ok (.iaload, 1) := by decide +kernel
theorem d3_8 : decode prog_42_method_4_code 8 = .ok (.lookupswitch 28 #[(1, 38), (2, 44)], 28) := by decide +kernel
theorem d3_52 : decode prog_42_method_4_code 52 = .ok (.getstatic 7, 3) := by decide +kernel
theorem d3_55 : decode prog_42_method_4_code 55 = .ok (.areturn, 1) := by decide +kernel
theorem pn3 : plainName "com/example/counterledger/counterledger/SettlementDocument$Kind" = true := by first | (simp [plainName, overriddenIn]; done) | decide +kernel
theorem pd3_0 : parseMethodDescriptor "()I" = some ⟨[], some .int⟩ := by decide +kernel
theorem ef3 (m : MethodId) (x0 : Addr) : entryFrame m #[(.ref x0)] 1 = mkF m 0 #[.val (.ref x0)] [] := by first | (simp [entryFrame, mkF, argsToLocals, Value.category]; done) | rfl
set_option maxRecDepth 65536 in
set_option maxHeartbeats 40000000 in
theorem rm3 (l : Launch) (Z : State) (a0 : Array Value) (hw : ∀ d ∈ tables_1, d.before a0 Z = true) (ws : List Jvm.Cond) (sd am ak : Addr) (cl : Cell) (h0 : Heap) (n0 : Nat) (Z0 : n0 ≤ h0.size) (SM_ : Sta Z h0 "com/example/counterledger/counterledger/SettlementDocument$1" "$SwitchMap$com$example$counterledger$counterledger$Side" "[I" (.ref am)) (SK : Sta Z h0 "com/example/counterledger/counterledger/SettlementDocument$Kind" "RECEIPT" "Lcom/example/counterledger/counterledger/SettlementDocument$Kind;" (.ref ak)) (Es : Exa Z h0 sd "com/example/counterledger/counterledger/Side") (Fo : Fld Z h0 sd "java/lang/Enum" "ordinal" "I" (.int (1 : Int32))) (Am : Arr Z h0 am cl .int) (hin : ¬ ((1 : Int32) < 0 ∨ cl.slots.size ≤ ((1 : Int32)).toNatClampNeg)) (hat : cl.slots[((1 : Int32)).toNatClampNeg]? = some (.int (2 : Int32))) :
    MetFree l (⟨"com/example/counterledger/counterledger/SettlementDocument$Kind", "of", "(Lcom/example/counterledger/counterledger/Side;)Lcom/example/counterledger/counterledger/SettlementDocument$Kind;"⟩ : MethodName) (head1 (Jvm.Cond.code (⟨"com/example/counterledger/counterledger/SettlementDocument$Kind", "of", "(Lcom/example/counterledger/counterledger/Side;)Lcom/example/counterledger/counterledger/SettlementDocument$Kind;"⟩ : MethodName) prog_42_method_4_code 1 (some (.object "com/example/counterledger/counterledger/SettlementDocument$Kind")) :: ws) ({ frames := 1, cells := 0, slots := 0, locals := 13 } : Room)) (fun a U => a = #[(.ref sd)] ∧ Z.Warmed39 U.vm ∧ U.heap = h0) (fun _ _ _ _ _ => True) (fun _ U o U' => ∃ v L, o = .returned v ∧ own_QR ak h0 n0 v U'.heap L ∧ FrameEnd U o U' L ({ frames := 1, cells := 0, slots := 0, locals := 13 } : Room).cells ({ frames := 1, cells := 0, slots := 0, locals := 13 } : Room).slots) := by
  refine MetFree.of_bodySF (plainFor_of_name pn3) hisR ?_
  intro p e s m args below meth c s₁ Bd hml0 hP hK
  obtain ⟨rfl, hZ, hh⟩ := hP
  have hx := Bd.exec
  have hby := Bd.bytes
  have hml : c.maxLocals = 1 := hml0
  have hown : s.vm.findClass "com/example/counterledger/counterledger/SettlementDocument$Kind" = some m.cls := findClass_of_methodNamed Bd.named
  have hnm := (name_of_methodNamed Bd.named Bd.method).1
  have hlk : meth.locks = false := Bd.notSynchronized
  have X0 : Stand p l e ({ frames := 1, cells := 0, slots := 0, locals := 13 } : Room) s m #[(.ref sd)] below meth c s₁ [] 0 0 := Stand.of_body Bd
  have e0 : s₁.heap = h0 := by rw [← hh, Bd.state]; rfl
  have N0 := Fr.nil n0
  refine own_go (fun t k => castTop (ef3 m sd) k) ?_
  show own_Go p e below _ (s₁.setTop (mkF m 0 #[.val (.ref sd)] []))
  obtain ⟨T1, X1, e1, st1⟩ := getS2 X0 hx hZ hown (host := "") (Or.inl (hw _ (List.mem_of_getElem? (i := 7) rfl))) Via.refl e0 SM_ (g := (mkF m 0 #[.val (.ref sd)] [])) rfl (hb hby d3_0)
  refine own_go (fun t k => st1 t k) ?_
  show own_Go p e below _ (T1.setTop (mkF m 3 #[.val (.ref sd)] [(.ref am)]))
  refine own_go (fun t k => XS.aloadN X1.here hx rfl (hb hby d3_3) rfl rfl k) ?_
  show own_Go p e below _ (T1.setTop (mkF m 4 #[.val (.ref sd)] [(.ref sd), (.ref am)]))
  obtain ⟨cq2, kq2, q2a, q2b, q2c⟩ := isOf hZ e1 Es
  obtain ⟨_, _, ⟨T2, L2, k2, n2⟩, -, X2, ⟨Lc2, hQ2, l2, y2, z2⟩, st2⟩ := X1.virtualBackUp hx (x := (⟨"com/example/counterledger/counterledger/Side", "ordinal", "()I"⟩ : MethodName)) (y := (⟨"java/lang/Enum", "ordinal", "()I"⟩ : MethodName)) hown (mvT hZ (hw _ (List.mem_of_getElem? (i := 10) rfl))) (mvT hZ (hw _ (List.mem_of_getElem? (i := 11) rfl))) (mvT hZ (hw _ (List.mem_of_getElem? (i := 12) rfl))) (by decide) (mvT hZ (hw _ (List.mem_of_getElem? (i := 14) rfl))) (mvT hZ (hw _ (List.mem_of_getElem? (i := 13) rfl))) (backOf (W := 1) (rm1 l Z a0 hw [] sd (1 : Int32) h0 n0 Z0 Fo) hZ (hw _ (List.mem_of_getElem? (i := 16) rfl)) (hw _ (List.mem_of_getElem? (i := 15) rfl)) (by decide) (by decide)) q2a q2c (g := (mkF m 4 #[.val (.ref sd)] [(.ref sd), (.ref am)])) rfl (by rw [hml]; rfl) (Steps.refl _) (argsL := []) (rest := [(.ref am)]) (lenOf pd3_0 rfl) rfl (by show 2 * 0 + _ ≤ _; exact Nat.le_of_eq rfl) (hb hby d3_4) (fun _ _ => ⟨rfl, e1, (by decide : 0 + 0 ≤ _), (by decide : 0 + 0 ≤ _)⟩)
  dsimp only [Pt.U, Pt.locs, Pt.cells, Pt.slots] at X2 l2 y2 z2 st2 hQ2
  subst l2 y2 z2
  obtain ⟨rfl, Nq2, e2⟩ := hQ2
  have N2 := Fr.app N0 Nq2
  refine own_go (fun t k => st2.trans k) ?_
  show own_Go p e below _ (T2.setTop (mkF m 7 #[.val (.ref sd)] [(.int (1 : Int32)), (.ref am)]))
  refine own_go (fun t k => X2.iaload hx (j := (1 : Int32)) (v := .int (2 : Int32)) (by rw [e2]; exact Am.1) (State.isArrayOf_alike hZ.alike Am.2.1) Am.2.2 hin hat (g := (mkF m 7 #[.val (.ref sd)] [(.int (1 : Int32)), (.ref am)])) rfl rfl (hb hby d3_7) t k) ?_
  show own_Go p e below _ (T2.setTop (mkF m 8 #[.val (.ref sd)] [(.int (2 : Int32))]))
  refine own_go (fun t k => own_lsw X2 hx rfl (pc0 := 8) (pc' := 52) rfl (hb hby d3_8) rfl (by decide) (o := 44) (by decide) (by decide) (by decide) k) ?_
  show own_Go p e below _ (T2.setTop (mkF m 52 #[.val (.ref sd)] []))
  obtain ⟨T3, X3, e3, st3⟩ := getS2 X2 hx hZ hown (host := "") (Or.inl (hw _ (List.mem_of_getElem? (i := 19) rfl))) Via.refl e2 SK (g := (mkF m 52 #[.val (.ref sd)] [])) rfl (hb hby d3_52)
  refine own_go (fun t k => st3 t k) ?_
  show own_Go p e below _ (T3.setTop (mkF m 55 #[.val (.ref sd)] [(.ref ak)]))
  exact own_retA X3 hx Bd.returns rfl rfl (hb hby d3_55) (by rw [e3]; exact ⟨rfl, N2, rfl⟩) (by decide) (by decide)
theorem d4_0 : decode prog_42_method_5_code 0 = .ok (.aload_n 0, 1) := by decide +kernel
theorem d4_1 : decode prog_42_method_5_code 1 = .ok (.getfield 33, 3) := by decide +kernel
theorem d4_4 : decode prog_42_method_5_code 4 = .ok (.areturn, 1) := by decide +kernel
theorem pn4 : plainName "com/example/counterledger/counterledger/SettlementDocument$Kind" = true := by first | (simp [plainName, overriddenIn]; done) | decide +kernel
theorem ef4 (m : MethodId) (x0 : Addr) : entryFrame m #[(.ref x0)] 1 = mkF m 0 #[.val (.ref x0)] [] := by first | (simp [entryFrame, mkF, argsToLocals, Value.category]; done) | rfl
set_option maxRecDepth 65536 in
set_option maxHeartbeats 40000000 in
theorem rm4 (l : Launch) (Z : State) (a0 : Array Value) (hw : ∀ d ∈ tables_1, d.before a0 Z = true) (ws : List Jvm.Cond) (oa orr : Addr) (h0 : Heap) (n0 : Nat) (Z0 : n0 ≤ h0.size) (Fr_ : Fld Z h0 oa "com/example/counterledger/counterledger/SettlementDocument$Kind" "role" "Ljava/lang/String;" (.ref orr)) :
    MetFree l (⟨"com/example/counterledger/counterledger/SettlementDocument$Kind", "role", "()Ljava/lang/String;"⟩ : MethodName) (head1 (Jvm.Cond.code (⟨"com/example/counterledger/counterledger/SettlementDocument$Kind", "role", "()Ljava/lang/String;"⟩ : MethodName) prog_42_method_5_code 1 (some (.object "java/lang/String")) :: ws) ({ frames := 0, cells := 0, slots := 0, locals := 0 } : Room)) (fun a U => a = #[(.ref oa)] ∧ Z.Warmed39 U.vm ∧ U.heap = h0) (fun _ _ _ _ _ => True) (fun _ U o U' => ∃ v L, o = .returned v ∧ own_QR orr h0 n0 v U'.heap L ∧ FrameEnd U o U' L ({ frames := 0, cells := 0, slots := 0, locals := 0 } : Room).cells ({ frames := 0, cells := 0, slots := 0, locals := 0 } : Room).slots) := by
  refine MetFree.of_bodySF (plainFor_of_name pn4) hisR ?_
  intro p e s m args below meth c s₁ Bd hml0 hP hK
  obtain ⟨rfl, hZ, hh⟩ := hP
  have hx := Bd.exec
  have hby := Bd.bytes
  have hml : c.maxLocals = 1 := hml0
  have hown : s.vm.findClass "com/example/counterledger/counterledger/SettlementDocument$Kind" = some m.cls := findClass_of_methodNamed Bd.named
  have hnm := (name_of_methodNamed Bd.named Bd.method).1
  have hlk : meth.locks = false := Bd.notSynchronized
  have X0 : Stand p l e ({ frames := 0, cells := 0, slots := 0, locals := 0 } : Room) s m #[(.ref oa)] below meth c s₁ [] 0 0 := Stand.of_body Bd
  have e0 : s₁.heap = h0 := by rw [← hh, Bd.state]; rfl
  have N0 := Fr.nil n0
  refine own_go (fun t k => castTop (ef4 m oa) k) ?_
  show own_Go p e below _ (s₁.setTop (mkF m 0 #[.val (.ref oa)] []))
  refine own_go (fun t k => XS.aloadN X0.here hx rfl (hb hby d4_0) rfl rfl k) ?_
  show own_Go p e below _ (s₁.setTop (mkF m 1 #[.val (.ref oa)] [(.ref oa)]))
  obtain ⟨T1, X1, e1, st1⟩ := getF X0 hx hZ hown (host := "") (Or.inl (hw _ (List.mem_of_getElem? (i := 35) rfl))) Via.refl e0 Fr_ (g := (mkF m 1 #[.val (.ref oa)] [(.ref oa)])) rfl rfl (hb hby d4_1)
  refine own_go (fun t k => st1 t k) ?_
  show own_Go p e below _ (T1.setTop (mkF m 4 #[.val (.ref oa)] [(.ref orr)]))
  exact own_retA X1 hx Bd.returns rfl rfl (hb hby d4_4) (by rw [e1]; exact ⟨rfl, N0, rfl⟩) (by decide) (by decide)
theorem d5_0 : decode jdk_43_method_13_code 0 = .ok (.aload_n 0, 1) := by decide +kernel
theorem d5_1 : decode jdk_43_method_13_code 1 = .ok (.arraylength, 1) := by decide +kernel
theorem d5_2 : decode jdk_43_method_13_code 2 = .ok (.aload_n 1, 1) := by decide +kernel
theorem d5_3 : decode jdk_43_method_13_code 3 = .ok (.arraylength, 1) := by decide +kernel
theorem d5_4 : decode jdk_43_method_13_code 4 = .ok (.if_icmp .ne 30, 3) := by decide +kernel
theorem d5_7 : decode jdk_43_method_13_code 7 = .ok (.iconst 0, 1) := by decide +kernel
theorem d5_8 : decode jdk_43_method_13_code 8 = .ok (.istore_n 2, 1) := by decide +kernel
theorem d5_9 : decode jdk_43_method_13_code 9 = .ok (.iload_n 2, 1) := by decide +kernel
theorem d5_10 : decode jdk_43_method_13_code 10 = .ok (.aload_n 0, 1) := by decide +kernel
theorem d5_11 : decode jdk_43_method_13_code 11 = .ok (.arraylength, 1) := by decide +kernel
theorem d5_12 : decode jdk_43_method_13_code 12 = .ok (.if_icmp .ge 20, 3) := by decide +kernel
theorem d5_15 : decode jdk_43_method_13_code 15 = .ok (.aload_n 0, 1) := by decide +kernel
theorem d5_16 : decode jdk_43_method_13_code 16 = .ok (.iload_n 2, 1) := by decide +kernel
theorem d5_17 : decode jdk_43_method_13_code 17 = .ok (.baload, 1) := by decide +kernel
theorem d5_18 : decode jdk_43_method_13_code 18 = .ok (.aload_n 1, 1) := by decide +kernel
theorem d5_19 : decode jdk_43_method_13_code 19 = .ok (.iload_n 2, 1) := by decide +kernel
theorem d5_20 : decode jdk_43_method_13_code 20 = .ok (.baload, 1) := by decide +kernel
theorem d5_21 : decode jdk_43_method_13_code 21 = .ok (.if_icmp .eq 5, 3) := by decide +kernel
theorem d5_26 : decode jdk_43_method_13_code 26 = .ok (.iinc 2 1, 3) := by decide +kernel
theorem d5_29 : decode jdk_43_method_13_code 29 = .ok (.goto (-20), 3) := by decide +kernel
theorem d5_32 : decode jdk_43_method_13_code 32 = .ok (.iconst 1, 1) := by decide +kernel
theorem d5_33 : decode jdk_43_method_13_code 33 = .ok (.ireturn, 1) := by decide +kernel
theorem pn5 : plainName "java/lang/StringLatin1" = true := by first | (simp [plainName, overriddenIn]; done) | decide +kernel
theorem ef5 (m : MethodId) (x0 : Addr) (x1 : Addr) : entryFrame m #[(.ref x0), (.ref x1)] 3 = mkF m 0 #[.val (.ref x0), .val (.ref x1), .unset] [] := by first | (simp [entryFrame, mkF, argsToLocals, Value.category]; done) | rfl
set_option maxRecDepth 65536 in
set_option maxHeartbeats 40000000 in
theorem rm5 (l : Launch) (Z : State) (a0 : Array Value) (hw : ∀ d ∈ tables_1, d.before a0 Z = true) (ws : List Jvm.Cond) (ot ou : Addr) (kt ku : ClassId) (x0 x1 x2 x3 x4 x5 x6 x7 : Int32) (h0 : Heap) (n0 : Nat) (Z0 : n0 ≤ h0.size) (At : Arv Z h0 ot kt .byte (8 : Int32) [.int x0, .int x1, .int x2, .int x3, .int x4, .int x5, .int x6, .int x7] (.int 0)) (Au : Arv Z h0 ou ku .byte (8 : Int32) [.int x0, .int x1, .int x2, .int x3, .int x4, .int x5, .int x6, .int x7] (.int 0)) :
    MetFree l (⟨"java/lang/StringLatin1", "equals", "([B[B)Z"⟩ : MethodName) (head1 (Jvm.Cond.code (⟨"java/lang/StringLatin1", "equals", "([B[B)Z"⟩ : MethodName) jdk_43_method_13_code 3 (some .boolean) :: ws) ({ frames := 0, cells := 0, slots := 0, locals := 0 } : Room)) (fun a U => a = #[(.ref ot), (.ref ou)] ∧ Z.Warmed39 U.vm ∧ U.heap = h0) (fun _ _ _ _ _ => True) (fun _ U o U' => ∃ v L, o = .returned v ∧ own_QI 1 h0 n0 v U'.heap L ∧ FrameEnd U o U' L ({ frames := 0, cells := 0, slots := 0, locals := 0 } : Room).cells ({ frames := 0, cells := 0, slots := 0, locals := 0 } : Room).slots) := by
  refine MetFree.of_bodySF (plainFor_of_name pn5) hisR ?_
  intro p e s m args below meth c s₁ Bd hml0 hP hK
  obtain ⟨rfl, hZ, hh⟩ := hP
  have hx := Bd.exec
  have hby := Bd.bytes
  have hml : c.maxLocals = 3 := hml0
  have hown : s.vm.findClass "java/lang/StringLatin1" = some m.cls := findClass_of_methodNamed Bd.named
  have hnm := (name_of_methodNamed Bd.named Bd.method).1
  have hlk : meth.locks = false := Bd.notSynchronized
  have X0 : Stand p l e ({ frames := 0, cells := 0, slots := 0, locals := 0 } : Room) s m #[(.ref ot), (.ref ou)] below meth c s₁ [] 0 0 := Stand.of_body Bd
  have e0 : s₁.heap = h0 := by rw [← hh, Bd.state]; rfl
  have N0 := Fr.nil n0
  refine own_go (fun t k => castTop (ef5 m ot ou) k) ?_
  show own_Go p e below _ (s₁.setTop (mkF m 0 #[.val (.ref ot), .val (.ref ou), .unset] []))
  refine own_go (fun t k => XS.aloadN X0.here hx rfl (hb hby d5_0) rfl rfl k) ?_
  show own_Go p e below _ (s₁.setTop (mkF m 1 #[.val (.ref ot), .val (.ref ou), .unset] [(.ref ot)]))
  obtain ⟨cl1, Ar1, -, Sa1, Na1, -, -⟩ := id At
  have ln1 := len_of Sa1 Na1
  refine own_go (fun t k => X0.arraylength hx (by rw [e0]; exact Ar1.1) (State.isArrayOf_alike hZ.alike Ar1.2.1) (g := (mkF m 1 #[.val (.ref ot), .val (.ref ou), .unset] [(.ref ot)])) rfl rfl (hb hby d5_1) t (by rw [ln1]; exact k)) ?_
  show own_Go p e below _ (s₁.setTop (mkF m 2 #[.val (.ref ot), .val (.ref ou), .unset] [(.int (8 : Int32))]))
  refine own_go (fun t k => XS.aloadN X0.here hx rfl (hb hby d5_2) rfl rfl k) ?_
  show own_Go p e below _ (s₁.setTop (mkF m 3 #[.val (.ref ot), .val (.ref ou), .unset] [(.ref ou), (.int (8 : Int32))]))
  obtain ⟨cl2, Ar2, -, Sa2, Na2, -, -⟩ := id Au
  have ln2 := len_of Sa2 Na2
  refine own_go (fun t k => X0.arraylength hx (by rw [e0]; exact Ar2.1) (State.isArrayOf_alike hZ.alike Ar2.2.1) (g := (mkF m 3 #[.val (.ref ot), .val (.ref ou), .unset] [(.ref ou), (.int (8 : Int32))])) rfl rfl (hb hby d5_3) t (by rw [ln2]; exact k)) ?_
  show own_Go p e below _ (s₁.setTop (mkF m 4 #[.val (.ref ot), .val (.ref ou), .unset] [(.int (8 : Int32)), (.int (8 : Int32))]))
  refine own_go (fun t k => XS.icmpNo X0.here hx rfl (hb hby d5_4) rfl (teq (by decide : (8 : Int32) = (8 : Int32))).2 k) ?_
  show own_Go p e below _ (s₁.setTop (mkF m 7 #[.val (.ref ot), .val (.ref ou), .unset] []))
  refine own_go (fun t k => XS.iconst X0.here hx rfl (hb hby d5_7) k) ?_
  show own_Go p e below _ (s₁.setTop (mkF m 8 #[.val (.ref ot), .val (.ref ou), .unset] [(.int (0 : Int32))]))
  refine own_go (fun t k => XS.istoreN X0.here hx rfl (hb hby d5_8) rfl (l' := #[.val (.ref ot), .val (.ref ou), .val (.int (0 : Int32))]) rfl k) ?_
  show own_Go p e below _ (s₁.setTop (mkF m 9 #[.val (.ref ot), .val (.ref ou), .val (.int (0 : Int32))] []))
  refine own_go (fun t k => XS.iloadN X0.here hx rfl (hb hby d5_9) rfl k) ?_
  show own_Go p e below _ (s₁.setTop (mkF m 10 #[.val (.ref ot), .val (.ref ou), .val (.int (0 : Int32))] [(.int (0 : Int32))]))
  refine own_go (fun t k => XS.aloadN X0.here hx rfl (hb hby d5_10) rfl rfl k) ?_
  show own_Go p e below _ (s₁.setTop (mkF m 11 #[.val (.ref ot), .val (.ref ou), .val (.int (0 : Int32))] [(.ref ot), (.int (0 : Int32))]))
  obtain ⟨cl3, Ar3, -, Sa3, Na3, -, -⟩ := id At
  have ln3 := len_of Sa3 Na3
  refine own_go (fun t k => X0.arraylength hx (by rw [e0]; exact Ar3.1) (State.isArrayOf_alike hZ.alike Ar3.2.1) (g := (mkF m 11 #[.val (.ref ot), .val (.ref ou), .val (.int (0 : Int32))] [(.ref ot), (.int (0 : Int32))])) rfl rfl (hb hby d5_11) t (by rw [ln3]; exact k)) ?_
  show own_Go p e below _ (s₁.setTop (mkF m 12 #[.val (.ref ot), .val (.ref ou), .val (.int (0 : Int32))] [(.int (8 : Int32)), (.int (0 : Int32))]))
  refine own_go (fun t k => XS.icmpNo X0.here hx rfl (hb hby d5_12) rfl (tlt (by decide : (0 : Int32) < (8 : Int32))).2.1 k) ?_
  show own_Go p e below _ (s₁.setTop (mkF m 15 #[.val (.ref ot), .val (.ref ou), .val (.int (0 : Int32))] []))
  refine own_go (fun t k => XS.aloadN X0.here hx rfl (hb hby d5_15) rfl rfl k) ?_
  show own_Go p e below _ (s₁.setTop (mkF m 16 #[.val (.ref ot), .val (.ref ou), .val (.int (0 : Int32))] [(.ref ot)]))
  refine own_go (fun t k => XS.iloadN X0.here hx rfl (hb hby d5_16) rfl k) ?_
  show own_Go p e below _ (s₁.setTop (mkF m 17 #[.val (.ref ot), .val (.ref ou), .val (.int (0 : Int32))] [(.int (0 : Int32)), (.ref ot)]))
  obtain ⟨cl4, Ar4, qa4, Sa4, Na4, Ha4, Ga4⟩ := id At
  have hin4 : ¬ ((0 : Int32) < 0 ∨ cl4.slots.size ≤ ((0 : Int32)).toNatClampNeg) := inb_of Sa4 ⟨by decide, by decide⟩
  have hat4 : cl4.slots[((0 : Int32)).toNatClampNeg]? = some (.int x0) := Ha4.at hin4 rfl
  refine own_go (fun t k => X0.baloadBytes hx (j := (0 : Int32)) (v := (.int x0)) (by rw [e0]; exact Ar4.1) (State.isArrayOf_alike hZ.alike Ar4.2.1) Ar4.2.2 hin4 hat4 (g := (mkF m 17 #[.val (.ref ot), .val (.ref ou), .val (.int (0 : Int32))] [(.int (0 : Int32)), (.ref ot)])) rfl rfl (hb hby d5_17) t k) ?_
  show own_Go p e below _ (s₁.setTop (mkF m 18 #[.val (.ref ot), .val (.ref ou), .val (.int (0 : Int32))] [(.int x0)]))
  refine own_go (fun t k => XS.aloadN X0.here hx rfl (hb hby d5_18) rfl rfl k) ?_
  show own_Go p e below _ (s₁.setTop (mkF m 19 #[.val (.ref ot), .val (.ref ou), .val (.int (0 : Int32))] [(.ref ou), (.int x0)]))
  refine own_go (fun t k => XS.iloadN X0.here hx rfl (hb hby d5_19) rfl k) ?_
  show own_Go p e below _ (s₁.setTop (mkF m 20 #[.val (.ref ot), .val (.ref ou), .val (.int (0 : Int32))] [(.int (0 : Int32)), (.ref ou), (.int x0)]))
  obtain ⟨cl5, Ar5, qa5, Sa5, Na5, Ha5, Ga5⟩ := id Au
  have hin5 : ¬ ((0 : Int32) < 0 ∨ cl5.slots.size ≤ ((0 : Int32)).toNatClampNeg) := inb_of Sa5 ⟨by decide, by decide⟩
  have hat5 : cl5.slots[((0 : Int32)).toNatClampNeg]? = some (.int x0) := Ha5.at hin5 rfl
  refine own_go (fun t k => X0.baloadBytes hx (j := (0 : Int32)) (v := (.int x0)) (by rw [e0]; exact Ar5.1) (State.isArrayOf_alike hZ.alike Ar5.2.1) Ar5.2.2 hin5 hat5 (g := (mkF m 20 #[.val (.ref ot), .val (.ref ou), .val (.int (0 : Int32))] [(.int (0 : Int32)), (.ref ou), (.int x0)])) rfl rfl (hb hby d5_20) t k) ?_
  show own_Go p e below _ (s₁.setTop (mkF m 21 #[.val (.ref ot), .val (.ref ou), .val (.int (0 : Int32))] [(.int x0), (.int x0)]))
  refine own_go (fun t k => XS.icmpYes X0.here hx rfl (pc0 := 21) (pc' := 26) rfl (hb hby d5_21) rfl (teq (rfl : x0 = x0)).1 (by decide) (by decide) k) ?_
  show own_Go p e below _ (s₁.setTop (mkF m 26 #[.val (.ref ot), .val (.ref ou), .val (.int (0 : Int32))] []))
  refine own_go (fun t k => XS.iinc X0.here hx rfl (hb hby d5_26) rfl (l' := #[.val (.ref ot), .val (.ref ou), .val (.int (1 : Int32))]) rfl k) ?_
  show own_Go p e below _ (s₁.setTop (mkF m 29 #[.val (.ref ot), .val (.ref ou), .val (.int (1 : Int32))] []))
  refine own_go (fun t k => XS.goto X0.here hx rfl (pc0 := 29) (pc' := 9) rfl (hb hby d5_29) (by decide) (by decide) k) ?_
  show own_Go p e below _ (s₁.setTop (mkF m 9 #[.val (.ref ot), .val (.ref ou), .val (.int (1 : Int32))] []))
  refine own_go (fun t k => XS.iloadN X0.here hx rfl (hb hby d5_9) rfl k) ?_
  show own_Go p e below _ (s₁.setTop (mkF m 10 #[.val (.ref ot), .val (.ref ou), .val (.int (1 : Int32))] [(.int (1 : Int32))]))
  refine own_go (fun t k => XS.aloadN X0.here hx rfl (hb hby d5_10) rfl rfl k) ?_
  show own_Go p e below _ (s₁.setTop (mkF m 11 #[.val (.ref ot), .val (.ref ou), .val (.int (1 : Int32))] [(.ref ot), (.int (1 : Int32))]))
  obtain ⟨cl6, Ar6, -, Sa6, Na6, -, -⟩ := id At
  have ln6 := len_of Sa6 Na6
  refine own_go (fun t k => X0.arraylength hx (by rw [e0]; exact Ar6.1) (State.isArrayOf_alike hZ.alike Ar6.2.1) (g := (mkF m 11 #[.val (.ref ot), .val (.ref ou), .val (.int (1 : Int32))] [(.ref ot), (.int (1 : Int32))])) rfl rfl (hb hby d5_11) t (by rw [ln6]; exact k)) ?_
  show own_Go p e below _ (s₁.setTop (mkF m 12 #[.val (.ref ot), .val (.ref ou), .val (.int (1 : Int32))] [(.int (8 : Int32)), (.int (1 : Int32))]))
  refine own_go (fun t k => XS.icmpNo X0.here hx rfl (hb hby d5_12) rfl (tlt (by decide : (1 : Int32) < (8 : Int32))).2.1 k) ?_
  show own_Go p e below _ (s₁.setTop (mkF m 15 #[.val (.ref ot), .val (.ref ou), .val (.int (1 : Int32))] []))
  refine own_go (fun t k => XS.aloadN X0.here hx rfl (hb hby d5_15) rfl rfl k) ?_
  show own_Go p e below _ (s₁.setTop (mkF m 16 #[.val (.ref ot), .val (.ref ou), .val (.int (1 : Int32))] [(.ref ot)]))
  refine own_go (fun t k => XS.iloadN X0.here hx rfl (hb hby d5_16) rfl k) ?_
  show own_Go p e below _ (s₁.setTop (mkF m 17 #[.val (.ref ot), .val (.ref ou), .val (.int (1 : Int32))] [(.int (1 : Int32)), (.ref ot)]))
  obtain ⟨cl7, Ar7, qa7, Sa7, Na7, Ha7, Ga7⟩ := id At
  have hin7 : ¬ ((1 : Int32) < 0 ∨ cl7.slots.size ≤ ((1 : Int32)).toNatClampNeg) := inb_of Sa7 ⟨by decide, by decide⟩
  have hat7 : cl7.slots[((1 : Int32)).toNatClampNeg]? = some (.int x1) := Ha7.at hin7 rfl
  refine own_go (fun t k => X0.baloadBytes hx (j := (1 : Int32)) (v := (.int x1)) (by rw [e0]; exact Ar7.1) (State.isArrayOf_alike hZ.alike Ar7.2.1) Ar7.2.2 hin7 hat7 (g := (mkF m 17 #[.val (.ref ot), .val (.ref ou), .val (.int (1 : Int32))] [(.int (1 : Int32)), (.ref ot)])) rfl rfl (hb hby d5_17) t k) ?_
  show own_Go p e below _ (s₁.setTop (mkF m 18 #[.val (.ref ot), .val (.ref ou), .val (.int (1 : Int32))] [(.int x1)]))
  refine own_go (fun t k => XS.aloadN X0.here hx rfl (hb hby d5_18) rfl rfl k) ?_
  show own_Go p e below _ (s₁.setTop (mkF m 19 #[.val (.ref ot), .val (.ref ou), .val (.int (1 : Int32))] [(.ref ou), (.int x1)]))
  refine own_go (fun t k => XS.iloadN X0.here hx rfl (hb hby d5_19) rfl k) ?_
  show own_Go p e below _ (s₁.setTop (mkF m 20 #[.val (.ref ot), .val (.ref ou), .val (.int (1 : Int32))] [(.int (1 : Int32)), (.ref ou), (.int x1)]))
  obtain ⟨cl8, Ar8, qa8, Sa8, Na8, Ha8, Ga8⟩ := id Au
  have hin8 : ¬ ((1 : Int32) < 0 ∨ cl8.slots.size ≤ ((1 : Int32)).toNatClampNeg) := inb_of Sa8 ⟨by decide, by decide⟩
  have hat8 : cl8.slots[((1 : Int32)).toNatClampNeg]? = some (.int x1) := Ha8.at hin8 rfl
  refine own_go (fun t k => X0.baloadBytes hx (j := (1 : Int32)) (v := (.int x1)) (by rw [e0]; exact Ar8.1) (State.isArrayOf_alike hZ.alike Ar8.2.1) Ar8.2.2 hin8 hat8 (g := (mkF m 20 #[.val (.ref ot), .val (.ref ou), .val (.int (1 : Int32))] [(.int (1 : Int32)), (.ref ou), (.int x1)])) rfl rfl (hb hby d5_20) t k) ?_
  show own_Go p e below _ (s₁.setTop (mkF m 21 #[.val (.ref ot), .val (.ref ou), .val (.int (1 : Int32))] [(.int x1), (.int x1)]))
  refine own_go (fun t k => XS.icmpYes X0.here hx rfl (pc0 := 21) (pc' := 26) rfl (hb hby d5_21) rfl (teq (rfl : x1 = x1)).1 (by decide) (by decide) k) ?_
  show own_Go p e below _ (s₁.setTop (mkF m 26 #[.val (.ref ot), .val (.ref ou), .val (.int (1 : Int32))] []))
  refine own_go (fun t k => XS.iinc X0.here hx rfl (hb hby d5_26) rfl (l' := #[.val (.ref ot), .val (.ref ou), .val (.int (2 : Int32))]) rfl k) ?_
  show own_Go p e below _ (s₁.setTop (mkF m 29 #[.val (.ref ot), .val (.ref ou), .val (.int (2 : Int32))] []))
  refine own_go (fun t k => XS.goto X0.here hx rfl (pc0 := 29) (pc' := 9) rfl (hb hby d5_29) (by decide) (by decide) k) ?_
  show own_Go p e below _ (s₁.setTop (mkF m 9 #[.val (.ref ot), .val (.ref ou), .val (.int (2 : Int32))] []))
  refine own_go (fun t k => XS.iloadN X0.here hx rfl (hb hby d5_9) rfl k) ?_
  show own_Go p e below _ (s₁.setTop (mkF m 10 #[.val (.ref ot), .val (.ref ou), .val (.int (2 : Int32))] [(.int (2 : Int32))]))
  refine own_go (fun t k => XS.aloadN X0.here hx rfl (hb hby d5_10) rfl rfl k) ?_
  show own_Go p e below _ (s₁.setTop (mkF m 11 #[.val (.ref ot), .val (.ref ou), .val (.int (2 : Int32))] [(.ref ot), (.int (2 : Int32))]))
  obtain ⟨cl9, Ar9, -, Sa9, Na9, -, -⟩ := id At
  have ln9 := len_of Sa9 Na9
  refine own_go (fun t k => X0.arraylength hx (by rw [e0]; exact Ar9.1) (State.isArrayOf_alike hZ.alike Ar9.2.1) (g := (mkF m 11 #[.val (.ref ot), .val (.ref ou), .val (.int (2 : Int32))] [(.ref ot), (.int (2 : Int32))])) rfl rfl (hb hby d5_11) t (by rw [ln9]; exact k)) ?_
  show own_Go p e below _ (s₁.setTop (mkF m 12 #[.val (.ref ot), .val (.ref ou), .val (.int (2 : Int32))] [(.int (8 : Int32)), (.int (2 : Int32))]))
  refine own_go (fun t k => XS.icmpNo X0.here hx rfl (hb hby d5_12) rfl (tlt (by decide : (2 : Int32) < (8 : Int32))).2.1 k) ?_
  show own_Go p e below _ (s₁.setTop (mkF m 15 #[.val (.ref ot), .val (.ref ou), .val (.int (2 : Int32))] []))
  refine own_go (fun t k => XS.aloadN X0.here hx rfl (hb hby d5_15) rfl rfl k) ?_
  show own_Go p e below _ (s₁.setTop (mkF m 16 #[.val (.ref ot), .val (.ref ou), .val (.int (2 : Int32))] [(.ref ot)]))
  refine own_go (fun t k => XS.iloadN X0.here hx rfl (hb hby d5_16) rfl k) ?_
  show own_Go p e below _ (s₁.setTop (mkF m 17 #[.val (.ref ot), .val (.ref ou), .val (.int (2 : Int32))] [(.int (2 : Int32)), (.ref ot)]))
  obtain ⟨cl10, Ar10, qa10, Sa10, Na10, Ha10, Ga10⟩ := id At
  have hin10 : ¬ ((2 : Int32) < 0 ∨ cl10.slots.size ≤ ((2 : Int32)).toNatClampNeg) := inb_of Sa10 ⟨by decide, by decide⟩
  have hat10 : cl10.slots[((2 : Int32)).toNatClampNeg]? = some (.int x2) := Ha10.at hin10 rfl
  refine own_go (fun t k => X0.baloadBytes hx (j := (2 : Int32)) (v := (.int x2)) (by rw [e0]; exact Ar10.1) (State.isArrayOf_alike hZ.alike Ar10.2.1) Ar10.2.2 hin10 hat10 (g := (mkF m 17 #[.val (.ref ot), .val (.ref ou), .val (.int (2 : Int32))] [(.int (2 : Int32)), (.ref ot)])) rfl rfl (hb hby d5_17) t k) ?_
  show own_Go p e below _ (s₁.setTop (mkF m 18 #[.val (.ref ot), .val (.ref ou), .val (.int (2 : Int32))] [(.int x2)]))
  refine own_go (fun t k => XS.aloadN X0.here hx rfl (hb hby d5_18) rfl rfl k) ?_
  show own_Go p e below _ (s₁.setTop (mkF m 19 #[.val (.ref ot), .val (.ref ou), .val (.int (2 : Int32))] [(.ref ou), (.int x2)]))
  refine own_go (fun t k => XS.iloadN X0.here hx rfl (hb hby d5_19) rfl k) ?_
  show own_Go p e below _ (s₁.setTop (mkF m 20 #[.val (.ref ot), .val (.ref ou), .val (.int (2 : Int32))] [(.int (2 : Int32)), (.ref ou), (.int x2)]))
  obtain ⟨cl11, Ar11, qa11, Sa11, Na11, Ha11, Ga11⟩ := id Au
  have hin11 : ¬ ((2 : Int32) < 0 ∨ cl11.slots.size ≤ ((2 : Int32)).toNatClampNeg) := inb_of Sa11 ⟨by decide, by decide⟩
  have hat11 : cl11.slots[((2 : Int32)).toNatClampNeg]? = some (.int x2) := Ha11.at hin11 rfl
  refine own_go (fun t k => X0.baloadBytes hx (j := (2 : Int32)) (v := (.int x2)) (by rw [e0]; exact Ar11.1) (State.isArrayOf_alike hZ.alike Ar11.2.1) Ar11.2.2 hin11 hat11 (g := (mkF m 20 #[.val (.ref ot), .val (.ref ou), .val (.int (2 : Int32))] [(.int (2 : Int32)), (.ref ou), (.int x2)])) rfl rfl (hb hby d5_20) t k) ?_
  show own_Go p e below _ (s₁.setTop (mkF m 21 #[.val (.ref ot), .val (.ref ou), .val (.int (2 : Int32))] [(.int x2), (.int x2)]))
  refine own_go (fun t k => XS.icmpYes X0.here hx rfl (pc0 := 21) (pc' := 26) rfl (hb hby d5_21) rfl (teq (rfl : x2 = x2)).1 (by decide) (by decide) k) ?_
  show own_Go p e below _ (s₁.setTop (mkF m 26 #[.val (.ref ot), .val (.ref ou), .val (.int (2 : Int32))] []))
  refine own_go (fun t k => XS.iinc X0.here hx rfl (hb hby d5_26) rfl (l' := #[.val (.ref ot), .val (.ref ou), .val (.int (3 : Int32))]) rfl k) ?_
  show own_Go p e below _ (s₁.setTop (mkF m 29 #[.val (.ref ot), .val (.ref ou), .val (.int (3 : Int32))] []))
  refine own_go (fun t k => XS.goto X0.here hx rfl (pc0 := 29) (pc' := 9) rfl (hb hby d5_29) (by decide) (by decide) k) ?_
  show own_Go p e below _ (s₁.setTop (mkF m 9 #[.val (.ref ot), .val (.ref ou), .val (.int (3 : Int32))] []))
  refine own_go (fun t k => XS.iloadN X0.here hx rfl (hb hby d5_9) rfl k) ?_
  show own_Go p e below _ (s₁.setTop (mkF m 10 #[.val (.ref ot), .val (.ref ou), .val (.int (3 : Int32))] [(.int (3 : Int32))]))
  refine own_go (fun t k => XS.aloadN X0.here hx rfl (hb hby d5_10) rfl rfl k) ?_
  show own_Go p e below _ (s₁.setTop (mkF m 11 #[.val (.ref ot), .val (.ref ou), .val (.int (3 : Int32))] [(.ref ot), (.int (3 : Int32))]))
  obtain ⟨cl12, Ar12, -, Sa12, Na12, -, -⟩ := id At
  have ln12 := len_of Sa12 Na12
  refine own_go (fun t k => X0.arraylength hx (by rw [e0]; exact Ar12.1) (State.isArrayOf_alike hZ.alike Ar12.2.1) (g := (mkF m 11 #[.val (.ref ot), .val (.ref ou), .val (.int (3 : Int32))] [(.ref ot), (.int (3 : Int32))])) rfl rfl (hb hby d5_11) t (by rw [ln12]; exact k)) ?_
  show own_Go p e below _ (s₁.setTop (mkF m 12 #[.val (.ref ot), .val (.ref ou), .val (.int (3 : Int32))] [(.int (8 : Int32)), (.int (3 : Int32))]))
  refine own_go (fun t k => XS.icmpNo X0.here hx rfl (hb hby d5_12) rfl (tlt (by decide : (3 : Int32) < (8 : Int32))).2.1 k) ?_
  show own_Go p e below _ (s₁.setTop (mkF m 15 #[.val (.ref ot), .val (.ref ou), .val (.int (3 : Int32))] []))
  refine own_go (fun t k => XS.aloadN X0.here hx rfl (hb hby d5_15) rfl rfl k) ?_
  show own_Go p e below _ (s₁.setTop (mkF m 16 #[.val (.ref ot), .val (.ref ou), .val (.int (3 : Int32))] [(.ref ot)]))
  refine own_go (fun t k => XS.iloadN X0.here hx rfl (hb hby d5_16) rfl k) ?_
  show own_Go p e below _ (s₁.setTop (mkF m 17 #[.val (.ref ot), .val (.ref ou), .val (.int (3 : Int32))] [(.int (3 : Int32)), (.ref ot)]))
  obtain ⟨cl13, Ar13, qa13, Sa13, Na13, Ha13, Ga13⟩ := id At
  have hin13 : ¬ ((3 : Int32) < 0 ∨ cl13.slots.size ≤ ((3 : Int32)).toNatClampNeg) := inb_of Sa13 ⟨by decide, by decide⟩
  have hat13 : cl13.slots[((3 : Int32)).toNatClampNeg]? = some (.int x3) := Ha13.at hin13 rfl
  refine own_go (fun t k => X0.baloadBytes hx (j := (3 : Int32)) (v := (.int x3)) (by rw [e0]; exact Ar13.1) (State.isArrayOf_alike hZ.alike Ar13.2.1) Ar13.2.2 hin13 hat13 (g := (mkF m 17 #[.val (.ref ot), .val (.ref ou), .val (.int (3 : Int32))] [(.int (3 : Int32)), (.ref ot)])) rfl rfl (hb hby d5_17) t k) ?_
  show own_Go p e below _ (s₁.setTop (mkF m 18 #[.val (.ref ot), .val (.ref ou), .val (.int (3 : Int32))] [(.int x3)]))
  refine own_go (fun t k => XS.aloadN X0.here hx rfl (hb hby d5_18) rfl rfl k) ?_
  show own_Go p e below _ (s₁.setTop (mkF m 19 #[.val (.ref ot), .val (.ref ou), .val (.int (3 : Int32))] [(.ref ou), (.int x3)]))
  refine own_go (fun t k => XS.iloadN X0.here hx rfl (hb hby d5_19) rfl k) ?_
  show own_Go p e below _ (s₁.setTop (mkF m 20 #[.val (.ref ot), .val (.ref ou), .val (.int (3 : Int32))] [(.int (3 : Int32)), (.ref ou), (.int x3)]))
  obtain ⟨cl14, Ar14, qa14, Sa14, Na14, Ha14, Ga14⟩ := id Au
  have hin14 : ¬ ((3 : Int32) < 0 ∨ cl14.slots.size ≤ ((3 : Int32)).toNatClampNeg) := inb_of Sa14 ⟨by decide, by decide⟩
  have hat14 : cl14.slots[((3 : Int32)).toNatClampNeg]? = some (.int x3) := Ha14.at hin14 rfl
  refine own_go (fun t k => X0.baloadBytes hx (j := (3 : Int32)) (v := (.int x3)) (by rw [e0]; exact Ar14.1) (State.isArrayOf_alike hZ.alike Ar14.2.1) Ar14.2.2 hin14 hat14 (g := (mkF m 20 #[.val (.ref ot), .val (.ref ou), .val (.int (3 : Int32))] [(.int (3 : Int32)), (.ref ou), (.int x3)])) rfl rfl (hb hby d5_20) t k) ?_
  show own_Go p e below _ (s₁.setTop (mkF m 21 #[.val (.ref ot), .val (.ref ou), .val (.int (3 : Int32))] [(.int x3), (.int x3)]))
  refine own_go (fun t k => XS.icmpYes X0.here hx rfl (pc0 := 21) (pc' := 26) rfl (hb hby d5_21) rfl (teq (rfl : x3 = x3)).1 (by decide) (by decide) k) ?_
  show own_Go p e below _ (s₁.setTop (mkF m 26 #[.val (.ref ot), .val (.ref ou), .val (.int (3 : Int32))] []))
  refine own_go (fun t k => XS.iinc X0.here hx rfl (hb hby d5_26) rfl (l' := #[.val (.ref ot), .val (.ref ou), .val (.int (4 : Int32))]) rfl k) ?_
  show own_Go p e below _ (s₁.setTop (mkF m 29 #[.val (.ref ot), .val (.ref ou), .val (.int (4 : Int32))] []))
  refine own_go (fun t k => XS.goto X0.here hx rfl (pc0 := 29) (pc' := 9) rfl (hb hby d5_29) (by decide) (by decide) k) ?_
  show own_Go p e below _ (s₁.setTop (mkF m 9 #[.val (.ref ot), .val (.ref ou), .val (.int (4 : Int32))] []))
  refine own_go (fun t k => XS.iloadN X0.here hx rfl (hb hby d5_9) rfl k) ?_
  show own_Go p e below _ (s₁.setTop (mkF m 10 #[.val (.ref ot), .val (.ref ou), .val (.int (4 : Int32))] [(.int (4 : Int32))]))
  refine own_go (fun t k => XS.aloadN X0.here hx rfl (hb hby d5_10) rfl rfl k) ?_
  show own_Go p e below _ (s₁.setTop (mkF m 11 #[.val (.ref ot), .val (.ref ou), .val (.int (4 : Int32))] [(.ref ot), (.int (4 : Int32))]))
  obtain ⟨cl15, Ar15, -, Sa15, Na15, -, -⟩ := id At
  have ln15 := len_of Sa15 Na15
  refine own_go (fun t k => X0.arraylength hx (by rw [e0]; exact Ar15.1) (State.isArrayOf_alike hZ.alike Ar15.2.1) (g := (mkF m 11 #[.val (.ref ot), .val (.ref ou), .val (.int (4 : Int32))] [(.ref ot), (.int (4 : Int32))])) rfl rfl (hb hby d5_11) t (by rw [ln15]; exact k)) ?_
  show own_Go p e below _ (s₁.setTop (mkF m 12 #[.val (.ref ot), .val (.ref ou), .val (.int (4 : Int32))] [(.int (8 : Int32)), (.int (4 : Int32))]))
  refine own_go (fun t k => XS.icmpNo X0.here hx rfl (hb hby d5_12) rfl (tlt (by decide : (4 : Int32) < (8 : Int32))).2.1 k) ?_
  show own_Go p e below _ (s₁.setTop (mkF m 15 #[.val (.ref ot), .val (.ref ou), .val (.int (4 : Int32))] []))
  refine own_go (fun t k => XS.aloadN X0.here hx rfl (hb hby d5_15) rfl rfl k) ?_
  show own_Go p e below _ (s₁.setTop (mkF m 16 #[.val (.ref ot), .val (.ref ou), .val (.int (4 : Int32))] [(.ref ot)]))
  refine own_go (fun t k => XS.iloadN X0.here hx rfl (hb hby d5_16) rfl k) ?_
  show own_Go p e below _ (s₁.setTop (mkF m 17 #[.val (.ref ot), .val (.ref ou), .val (.int (4 : Int32))] [(.int (4 : Int32)), (.ref ot)]))
  obtain ⟨cl16, Ar16, qa16, Sa16, Na16, Ha16, Ga16⟩ := id At
  have hin16 : ¬ ((4 : Int32) < 0 ∨ cl16.slots.size ≤ ((4 : Int32)).toNatClampNeg) := inb_of Sa16 ⟨by decide, by decide⟩
  have hat16 : cl16.slots[((4 : Int32)).toNatClampNeg]? = some (.int x4) := Ha16.at hin16 rfl
  refine own_go (fun t k => X0.baloadBytes hx (j := (4 : Int32)) (v := (.int x4)) (by rw [e0]; exact Ar16.1) (State.isArrayOf_alike hZ.alike Ar16.2.1) Ar16.2.2 hin16 hat16 (g := (mkF m 17 #[.val (.ref ot), .val (.ref ou), .val (.int (4 : Int32))] [(.int (4 : Int32)), (.ref ot)])) rfl rfl (hb hby d5_17) t k) ?_
  show own_Go p e below _ (s₁.setTop (mkF m 18 #[.val (.ref ot), .val (.ref ou), .val (.int (4 : Int32))] [(.int x4)]))
  refine own_go (fun t k => XS.aloadN X0.here hx rfl (hb hby d5_18) rfl rfl k) ?_
  show own_Go p e below _ (s₁.setTop (mkF m 19 #[.val (.ref ot), .val (.ref ou), .val (.int (4 : Int32))] [(.ref ou), (.int x4)]))
  refine own_go (fun t k => XS.iloadN X0.here hx rfl (hb hby d5_19) rfl k) ?_
  show own_Go p e below _ (s₁.setTop (mkF m 20 #[.val (.ref ot), .val (.ref ou), .val (.int (4 : Int32))] [(.int (4 : Int32)), (.ref ou), (.int x4)]))
  obtain ⟨cl17, Ar17, qa17, Sa17, Na17, Ha17, Ga17⟩ := id Au
  have hin17 : ¬ ((4 : Int32) < 0 ∨ cl17.slots.size ≤ ((4 : Int32)).toNatClampNeg) := inb_of Sa17 ⟨by decide, by decide⟩
  have hat17 : cl17.slots[((4 : Int32)).toNatClampNeg]? = some (.int x4) := Ha17.at hin17 rfl
  refine own_go (fun t k => X0.baloadBytes hx (j := (4 : Int32)) (v := (.int x4)) (by rw [e0]; exact Ar17.1) (State.isArrayOf_alike hZ.alike Ar17.2.1) Ar17.2.2 hin17 hat17 (g := (mkF m 20 #[.val (.ref ot), .val (.ref ou), .val (.int (4 : Int32))] [(.int (4 : Int32)), (.ref ou), (.int x4)])) rfl rfl (hb hby d5_20) t k) ?_
  show own_Go p e below _ (s₁.setTop (mkF m 21 #[.val (.ref ot), .val (.ref ou), .val (.int (4 : Int32))] [(.int x4), (.int x4)]))
  refine own_go (fun t k => XS.icmpYes X0.here hx rfl (pc0 := 21) (pc' := 26) rfl (hb hby d5_21) rfl (teq (rfl : x4 = x4)).1 (by decide) (by decide) k) ?_
  show own_Go p e below _ (s₁.setTop (mkF m 26 #[.val (.ref ot), .val (.ref ou), .val (.int (4 : Int32))] []))
  refine own_go (fun t k => XS.iinc X0.here hx rfl (hb hby d5_26) rfl (l' := #[.val (.ref ot), .val (.ref ou), .val (.int (5 : Int32))]) rfl k) ?_
  show own_Go p e below _ (s₁.setTop (mkF m 29 #[.val (.ref ot), .val (.ref ou), .val (.int (5 : Int32))] []))
  refine own_go (fun t k => XS.goto X0.here hx rfl (pc0 := 29) (pc' := 9) rfl (hb hby d5_29) (by decide) (by decide) k) ?_
  show own_Go p e below _ (s₁.setTop (mkF m 9 #[.val (.ref ot), .val (.ref ou), .val (.int (5 : Int32))] []))
  refine own_go (fun t k => XS.iloadN X0.here hx rfl (hb hby d5_9) rfl k) ?_
  show own_Go p e below _ (s₁.setTop (mkF m 10 #[.val (.ref ot), .val (.ref ou), .val (.int (5 : Int32))] [(.int (5 : Int32))]))
  refine own_go (fun t k => XS.aloadN X0.here hx rfl (hb hby d5_10) rfl rfl k) ?_
  show own_Go p e below _ (s₁.setTop (mkF m 11 #[.val (.ref ot), .val (.ref ou), .val (.int (5 : Int32))] [(.ref ot), (.int (5 : Int32))]))
  obtain ⟨cl18, Ar18, -, Sa18, Na18, -, -⟩ := id At
  have ln18 := len_of Sa18 Na18
  refine own_go (fun t k => X0.arraylength hx (by rw [e0]; exact Ar18.1) (State.isArrayOf_alike hZ.alike Ar18.2.1) (g := (mkF m 11 #[.val (.ref ot), .val (.ref ou), .val (.int (5 : Int32))] [(.ref ot), (.int (5 : Int32))])) rfl rfl (hb hby d5_11) t (by rw [ln18]; exact k)) ?_
  show own_Go p e below _ (s₁.setTop (mkF m 12 #[.val (.ref ot), .val (.ref ou), .val (.int (5 : Int32))] [(.int (8 : Int32)), (.int (5 : Int32))]))
  refine own_go (fun t k => XS.icmpNo X0.here hx rfl (hb hby d5_12) rfl (tlt (by decide : (5 : Int32) < (8 : Int32))).2.1 k) ?_
  show own_Go p e below _ (s₁.setTop (mkF m 15 #[.val (.ref ot), .val (.ref ou), .val (.int (5 : Int32))] []))
  refine own_go (fun t k => XS.aloadN X0.here hx rfl (hb hby d5_15) rfl rfl k) ?_
  show own_Go p e below _ (s₁.setTop (mkF m 16 #[.val (.ref ot), .val (.ref ou), .val (.int (5 : Int32))] [(.ref ot)]))
  refine own_go (fun t k => XS.iloadN X0.here hx rfl (hb hby d5_16) rfl k) ?_
  show own_Go p e below _ (s₁.setTop (mkF m 17 #[.val (.ref ot), .val (.ref ou), .val (.int (5 : Int32))] [(.int (5 : Int32)), (.ref ot)]))
  obtain ⟨cl19, Ar19, qa19, Sa19, Na19, Ha19, Ga19⟩ := id At
  have hin19 : ¬ ((5 : Int32) < 0 ∨ cl19.slots.size ≤ ((5 : Int32)).toNatClampNeg) := inb_of Sa19 ⟨by decide, by decide⟩
  have hat19 : cl19.slots[((5 : Int32)).toNatClampNeg]? = some (.int x5) := Ha19.at hin19 rfl
  refine own_go (fun t k => X0.baloadBytes hx (j := (5 : Int32)) (v := (.int x5)) (by rw [e0]; exact Ar19.1) (State.isArrayOf_alike hZ.alike Ar19.2.1) Ar19.2.2 hin19 hat19 (g := (mkF m 17 #[.val (.ref ot), .val (.ref ou), .val (.int (5 : Int32))] [(.int (5 : Int32)), (.ref ot)])) rfl rfl (hb hby d5_17) t k) ?_
  show own_Go p e below _ (s₁.setTop (mkF m 18 #[.val (.ref ot), .val (.ref ou), .val (.int (5 : Int32))] [(.int x5)]))
  refine own_go (fun t k => XS.aloadN X0.here hx rfl (hb hby d5_18) rfl rfl k) ?_
  show own_Go p e below _ (s₁.setTop (mkF m 19 #[.val (.ref ot), .val (.ref ou), .val (.int (5 : Int32))] [(.ref ou), (.int x5)]))
  refine own_go (fun t k => XS.iloadN X0.here hx rfl (hb hby d5_19) rfl k) ?_
  show own_Go p e below _ (s₁.setTop (mkF m 20 #[.val (.ref ot), .val (.ref ou), .val (.int (5 : Int32))] [(.int (5 : Int32)), (.ref ou), (.int x5)]))
  obtain ⟨cl20, Ar20, qa20, Sa20, Na20, Ha20, Ga20⟩ := id Au
  have hin20 : ¬ ((5 : Int32) < 0 ∨ cl20.slots.size ≤ ((5 : Int32)).toNatClampNeg) := inb_of Sa20 ⟨by decide, by decide⟩
  have hat20 : cl20.slots[((5 : Int32)).toNatClampNeg]? = some (.int x5) := Ha20.at hin20 rfl
  refine own_go (fun t k => X0.baloadBytes hx (j := (5 : Int32)) (v := (.int x5)) (by rw [e0]; exact Ar20.1) (State.isArrayOf_alike hZ.alike Ar20.2.1) Ar20.2.2 hin20 hat20 (g := (mkF m 20 #[.val (.ref ot), .val (.ref ou), .val (.int (5 : Int32))] [(.int (5 : Int32)), (.ref ou), (.int x5)])) rfl rfl (hb hby d5_20) t k) ?_
  show own_Go p e below _ (s₁.setTop (mkF m 21 #[.val (.ref ot), .val (.ref ou), .val (.int (5 : Int32))] [(.int x5), (.int x5)]))
  refine own_go (fun t k => XS.icmpYes X0.here hx rfl (pc0 := 21) (pc' := 26) rfl (hb hby d5_21) rfl (teq (rfl : x5 = x5)).1 (by decide) (by decide) k) ?_
  show own_Go p e below _ (s₁.setTop (mkF m 26 #[.val (.ref ot), .val (.ref ou), .val (.int (5 : Int32))] []))
  refine own_go (fun t k => XS.iinc X0.here hx rfl (hb hby d5_26) rfl (l' := #[.val (.ref ot), .val (.ref ou), .val (.int (6 : Int32))]) rfl k) ?_
  show own_Go p e below _ (s₁.setTop (mkF m 29 #[.val (.ref ot), .val (.ref ou), .val (.int (6 : Int32))] []))
  refine own_go (fun t k => XS.goto X0.here hx rfl (pc0 := 29) (pc' := 9) rfl (hb hby d5_29) (by decide) (by decide) k) ?_
  show own_Go p e below _ (s₁.setTop (mkF m 9 #[.val (.ref ot), .val (.ref ou), .val (.int (6 : Int32))] []))
  refine own_go (fun t k => XS.iloadN X0.here hx rfl (hb hby d5_9) rfl k) ?_
  show own_Go p e below _ (s₁.setTop (mkF m 10 #[.val (.ref ot), .val (.ref ou), .val (.int (6 : Int32))] [(.int (6 : Int32))]))
  refine own_go (fun t k => XS.aloadN X0.here hx rfl (hb hby d5_10) rfl rfl k) ?_
  show own_Go p e below _ (s₁.setTop (mkF m 11 #[.val (.ref ot), .val (.ref ou), .val (.int (6 : Int32))] [(.ref ot), (.int (6 : Int32))]))
  obtain ⟨cl21, Ar21, -, Sa21, Na21, -, -⟩ := id At
  have ln21 := len_of Sa21 Na21
  refine own_go (fun t k => X0.arraylength hx (by rw [e0]; exact Ar21.1) (State.isArrayOf_alike hZ.alike Ar21.2.1) (g := (mkF m 11 #[.val (.ref ot), .val (.ref ou), .val (.int (6 : Int32))] [(.ref ot), (.int (6 : Int32))])) rfl rfl (hb hby d5_11) t (by rw [ln21]; exact k)) ?_
  show own_Go p e below _ (s₁.setTop (mkF m 12 #[.val (.ref ot), .val (.ref ou), .val (.int (6 : Int32))] [(.int (8 : Int32)), (.int (6 : Int32))]))
  refine own_go (fun t k => XS.icmpNo X0.here hx rfl (hb hby d5_12) rfl (tlt (by decide : (6 : Int32) < (8 : Int32))).2.1 k) ?_
  show own_Go p e below _ (s₁.setTop (mkF m 15 #[.val (.ref ot), .val (.ref ou), .val (.int (6 : Int32))] []))
  refine own_go (fun t k => XS.aloadN X0.here hx rfl (hb hby d5_15) rfl rfl k) ?_
  show own_Go p e below _ (s₁.setTop (mkF m 16 #[.val (.ref ot), .val (.ref ou), .val (.int (6 : Int32))] [(.ref ot)]))
  refine own_go (fun t k => XS.iloadN X0.here hx rfl (hb hby d5_16) rfl k) ?_
  show own_Go p e below _ (s₁.setTop (mkF m 17 #[.val (.ref ot), .val (.ref ou), .val (.int (6 : Int32))] [(.int (6 : Int32)), (.ref ot)]))
  obtain ⟨cl22, Ar22, qa22, Sa22, Na22, Ha22, Ga22⟩ := id At
  have hin22 : ¬ ((6 : Int32) < 0 ∨ cl22.slots.size ≤ ((6 : Int32)).toNatClampNeg) := inb_of Sa22 ⟨by decide, by decide⟩
  have hat22 : cl22.slots[((6 : Int32)).toNatClampNeg]? = some (.int x6) := Ha22.at hin22 rfl
  refine own_go (fun t k => X0.baloadBytes hx (j := (6 : Int32)) (v := (.int x6)) (by rw [e0]; exact Ar22.1) (State.isArrayOf_alike hZ.alike Ar22.2.1) Ar22.2.2 hin22 hat22 (g := (mkF m 17 #[.val (.ref ot), .val (.ref ou), .val (.int (6 : Int32))] [(.int (6 : Int32)), (.ref ot)])) rfl rfl (hb hby d5_17) t k) ?_
  show own_Go p e below _ (s₁.setTop (mkF m 18 #[.val (.ref ot), .val (.ref ou), .val (.int (6 : Int32))] [(.int x6)]))
  refine own_go (fun t k => XS.aloadN X0.here hx rfl (hb hby d5_18) rfl rfl k) ?_
  show own_Go p e below _ (s₁.setTop (mkF m 19 #[.val (.ref ot), .val (.ref ou), .val (.int (6 : Int32))] [(.ref ou), (.int x6)]))
  refine own_go (fun t k => XS.iloadN X0.here hx rfl (hb hby d5_19) rfl k) ?_
  show own_Go p e below _ (s₁.setTop (mkF m 20 #[.val (.ref ot), .val (.ref ou), .val (.int (6 : Int32))] [(.int (6 : Int32)), (.ref ou), (.int x6)]))
  obtain ⟨cl23, Ar23, qa23, Sa23, Na23, Ha23, Ga23⟩ := id Au
  have hin23 : ¬ ((6 : Int32) < 0 ∨ cl23.slots.size ≤ ((6 : Int32)).toNatClampNeg) := inb_of Sa23 ⟨by decide, by decide⟩
  have hat23 : cl23.slots[((6 : Int32)).toNatClampNeg]? = some (.int x6) := Ha23.at hin23 rfl
  refine own_go (fun t k => X0.baloadBytes hx (j := (6 : Int32)) (v := (.int x6)) (by rw [e0]; exact Ar23.1) (State.isArrayOf_alike hZ.alike Ar23.2.1) Ar23.2.2 hin23 hat23 (g := (mkF m 20 #[.val (.ref ot), .val (.ref ou), .val (.int (6 : Int32))] [(.int (6 : Int32)), (.ref ou), (.int x6)])) rfl rfl (hb hby d5_20) t k) ?_
  show own_Go p e below _ (s₁.setTop (mkF m 21 #[.val (.ref ot), .val (.ref ou), .val (.int (6 : Int32))] [(.int x6), (.int x6)]))
  refine own_go (fun t k => XS.icmpYes X0.here hx rfl (pc0 := 21) (pc' := 26) rfl (hb hby d5_21) rfl (teq (rfl : x6 = x6)).1 (by decide) (by decide) k) ?_
  show own_Go p e below _ (s₁.setTop (mkF m 26 #[.val (.ref ot), .val (.ref ou), .val (.int (6 : Int32))] []))
  refine own_go (fun t k => XS.iinc X0.here hx rfl (hb hby d5_26) rfl (l' := #[.val (.ref ot), .val (.ref ou), .val (.int (7 : Int32))]) rfl k) ?_
  show own_Go p e below _ (s₁.setTop (mkF m 29 #[.val (.ref ot), .val (.ref ou), .val (.int (7 : Int32))] []))
  refine own_go (fun t k => XS.goto X0.here hx rfl (pc0 := 29) (pc' := 9) rfl (hb hby d5_29) (by decide) (by decide) k) ?_
  show own_Go p e below _ (s₁.setTop (mkF m 9 #[.val (.ref ot), .val (.ref ou), .val (.int (7 : Int32))] []))
  refine own_go (fun t k => XS.iloadN X0.here hx rfl (hb hby d5_9) rfl k) ?_
  show own_Go p e below _ (s₁.setTop (mkF m 10 #[.val (.ref ot), .val (.ref ou), .val (.int (7 : Int32))] [(.int (7 : Int32))]))
  refine own_go (fun t k => XS.aloadN X0.here hx rfl (hb hby d5_10) rfl rfl k) ?_
  show own_Go p e below _ (s₁.setTop (mkF m 11 #[.val (.ref ot), .val (.ref ou), .val (.int (7 : Int32))] [(.ref ot), (.int (7 : Int32))]))
  obtain ⟨cl24, Ar24, -, Sa24, Na24, -, -⟩ := id At
  have ln24 := len_of Sa24 Na24
  refine own_go (fun t k => X0.arraylength hx (by rw [e0]; exact Ar24.1) (State.isArrayOf_alike hZ.alike Ar24.2.1) (g := (mkF m 11 #[.val (.ref ot), .val (.ref ou), .val (.int (7 : Int32))] [(.ref ot), (.int (7 : Int32))])) rfl rfl (hb hby d5_11) t (by rw [ln24]; exact k)) ?_
  show own_Go p e below _ (s₁.setTop (mkF m 12 #[.val (.ref ot), .val (.ref ou), .val (.int (7 : Int32))] [(.int (8 : Int32)), (.int (7 : Int32))]))
  refine own_go (fun t k => XS.icmpNo X0.here hx rfl (hb hby d5_12) rfl (tlt (by decide : (7 : Int32) < (8 : Int32))).2.1 k) ?_
  show own_Go p e below _ (s₁.setTop (mkF m 15 #[.val (.ref ot), .val (.ref ou), .val (.int (7 : Int32))] []))
  refine own_go (fun t k => XS.aloadN X0.here hx rfl (hb hby d5_15) rfl rfl k) ?_
  show own_Go p e below _ (s₁.setTop (mkF m 16 #[.val (.ref ot), .val (.ref ou), .val (.int (7 : Int32))] [(.ref ot)]))
  refine own_go (fun t k => XS.iloadN X0.here hx rfl (hb hby d5_16) rfl k) ?_
  show own_Go p e below _ (s₁.setTop (mkF m 17 #[.val (.ref ot), .val (.ref ou), .val (.int (7 : Int32))] [(.int (7 : Int32)), (.ref ot)]))
  obtain ⟨cl25, Ar25, qa25, Sa25, Na25, Ha25, Ga25⟩ := id At
  have hin25 : ¬ ((7 : Int32) < 0 ∨ cl25.slots.size ≤ ((7 : Int32)).toNatClampNeg) := inb_of Sa25 ⟨by decide, by decide⟩
  have hat25 : cl25.slots[((7 : Int32)).toNatClampNeg]? = some (.int x7) := Ha25.at hin25 rfl
  refine own_go (fun t k => X0.baloadBytes hx (j := (7 : Int32)) (v := (.int x7)) (by rw [e0]; exact Ar25.1) (State.isArrayOf_alike hZ.alike Ar25.2.1) Ar25.2.2 hin25 hat25 (g := (mkF m 17 #[.val (.ref ot), .val (.ref ou), .val (.int (7 : Int32))] [(.int (7 : Int32)), (.ref ot)])) rfl rfl (hb hby d5_17) t k) ?_
  show own_Go p e below _ (s₁.setTop (mkF m 18 #[.val (.ref ot), .val (.ref ou), .val (.int (7 : Int32))] [(.int x7)]))
  refine own_go (fun t k => XS.aloadN X0.here hx rfl (hb hby d5_18) rfl rfl k) ?_
  show own_Go p e below _ (s₁.setTop (mkF m 19 #[.val (.ref ot), .val (.ref ou), .val (.int (7 : Int32))] [(.ref ou), (.int x7)]))
  refine own_go (fun t k => XS.iloadN X0.here hx rfl (hb hby d5_19) rfl k) ?_
  show own_Go p e below _ (s₁.setTop (mkF m 20 #[.val (.ref ot), .val (.ref ou), .val (.int (7 : Int32))] [(.int (7 : Int32)), (.ref ou), (.int x7)]))
  obtain ⟨cl26, Ar26, qa26, Sa26, Na26, Ha26, Ga26⟩ := id Au
  have hin26 : ¬ ((7 : Int32) < 0 ∨ cl26.slots.size ≤ ((7 : Int32)).toNatClampNeg) := inb_of Sa26 ⟨by decide, by decide⟩
  have hat26 : cl26.slots[((7 : Int32)).toNatClampNeg]? = some (.int x7) := Ha26.at hin26 rfl
  refine own_go (fun t k => X0.baloadBytes hx (j := (7 : Int32)) (v := (.int x7)) (by rw [e0]; exact Ar26.1) (State.isArrayOf_alike hZ.alike Ar26.2.1) Ar26.2.2 hin26 hat26 (g := (mkF m 20 #[.val (.ref ot), .val (.ref ou), .val (.int (7 : Int32))] [(.int (7 : Int32)), (.ref ou), (.int x7)])) rfl rfl (hb hby d5_20) t k) ?_
  show own_Go p e below _ (s₁.setTop (mkF m 21 #[.val (.ref ot), .val (.ref ou), .val (.int (7 : Int32))] [(.int x7), (.int x7)]))
  refine own_go (fun t k => XS.icmpYes X0.here hx rfl (pc0 := 21) (pc' := 26) rfl (hb hby d5_21) rfl (teq (rfl : x7 = x7)).1 (by decide) (by decide) k) ?_
  show own_Go p e below _ (s₁.setTop (mkF m 26 #[.val (.ref ot), .val (.ref ou), .val (.int (7 : Int32))] []))
  refine own_go (fun t k => XS.iinc X0.here hx rfl (hb hby d5_26) rfl (l' := #[.val (.ref ot), .val (.ref ou), .val (.int (8 : Int32))]) rfl k) ?_
  show own_Go p e below _ (s₁.setTop (mkF m 29 #[.val (.ref ot), .val (.ref ou), .val (.int (8 : Int32))] []))
  refine own_go (fun t k => XS.goto X0.here hx rfl (pc0 := 29) (pc' := 9) rfl (hb hby d5_29) (by decide) (by decide) k) ?_
  show own_Go p e below _ (s₁.setTop (mkF m 9 #[.val (.ref ot), .val (.ref ou), .val (.int (8 : Int32))] []))
  refine own_go (fun t k => XS.iloadN X0.here hx rfl (hb hby d5_9) rfl k) ?_
  show own_Go p e below _ (s₁.setTop (mkF m 10 #[.val (.ref ot), .val (.ref ou), .val (.int (8 : Int32))] [(.int (8 : Int32))]))
  refine own_go (fun t k => XS.aloadN X0.here hx rfl (hb hby d5_10) rfl rfl k) ?_
  show own_Go p e below _ (s₁.setTop (mkF m 11 #[.val (.ref ot), .val (.ref ou), .val (.int (8 : Int32))] [(.ref ot), (.int (8 : Int32))]))
  obtain ⟨cl27, Ar27, -, Sa27, Na27, -, -⟩ := id At
  have ln27 := len_of Sa27 Na27
  refine own_go (fun t k => X0.arraylength hx (by rw [e0]; exact Ar27.1) (State.isArrayOf_alike hZ.alike Ar27.2.1) (g := (mkF m 11 #[.val (.ref ot), .val (.ref ou), .val (.int (8 : Int32))] [(.ref ot), (.int (8 : Int32))])) rfl rfl (hb hby d5_11) t (by rw [ln27]; exact k)) ?_
  show own_Go p e below _ (s₁.setTop (mkF m 12 #[.val (.ref ot), .val (.ref ou), .val (.int (8 : Int32))] [(.int (8 : Int32)), (.int (8 : Int32))]))
  refine own_go (fun t k => XS.icmpYes X0.here hx rfl (pc0 := 12) (pc' := 32) rfl (hb hby d5_12) rfl (flt (by decide : ¬ ((8 : Int32) < (8 : Int32)))).2.1 (by decide) (by decide) k) ?_
  show own_Go p e below _ (s₁.setTop (mkF m 32 #[.val (.ref ot), .val (.ref ou), .val (.int (8 : Int32))] []))
  refine own_go (fun t k => XS.iconst X0.here hx rfl (hb hby d5_32) k) ?_
  show own_Go p e below _ (s₁.setTop (mkF m 33 #[.val (.ref ot), .val (.ref ou), .val (.int (8 : Int32))] [(.int (1 : Int32))]))
  exact own_retN X0 hx (t := .boolean) Bd.returns (by simp) (hb hby d5_33) (by rw [e0]; exact ⟨rfl, N0, rfl⟩) (by decide) (by decide)
theorem d6_0 : decode jdk_42_method_66_code 0 = .ok (.aload_n 0, 1) := by decide +kernel
theorem d6_1 : decode jdk_42_method_66_code 1 = .ok (.aload_n 1, 1) := by decide +kernel
theorem d6_2 : decode jdk_42_method_66_code 2 = .ok (.if_acmp .ne 5, 3) := by decide +kernel
theorem d6_5 : decode jdk_42_method_66_code 5 = .ok (.iconst 1, 1) := by decide +kernel
theorem d6_6 : decode jdk_42_method_66_code 6 = .ok (.ireturn, 1) := by decide +kernel
theorem d6_7 : decode jdk_42_method_66_code 7 = .ok (.aload_n 1, 1) := by decide +kernel
theorem d6_8 : decode jdk_42_method_66_code 8 = .ok (.instanceof 10, 3) := by decide +kernel
theorem d6_11 : decode jdk_42_method_66_code 11 = .ok (.ifCond .eq 43, 3) := by decide +kernel
theorem d6_14 : decode jdk_42_method_66_code 14 = .ok (.aload_n 1, 1) := by decide +kernel
theorem d6_15 : decode jdk_42_method_66_code 15 = .ok (.checkcast 10, 3) := by decide +kernel
theorem d6_18 : decode jdk_42_method_66_code 18 = .ok (.astore_n 2, 1) := by decide +kernel
theorem d6_19 : decode jdk_42_method_66_code 19 = .ok (.getstatic 38, 3) := by decide +kernel
theorem d6_22 : decode jdk_42_method_66_code 22 = .ok (.ifCond .eq 14, 3) := by decide +kernel
theorem d6_25 : decode jdk_42_method_66_code 25 = .ok (.aload_n 0, 1) := by decide +kernel
theorem d6_26 : decode jdk_42_method_66_code 26 = .ok (.getfield 15, 3) := by decide +kernel
theorem d6_29 : decode jdk_42_method_66_code 29 = .ok (.aload_n 2, 1) := by decide +kernel
theorem d6_30 : decode jdk_42_method_66_code 30 = .ok (.getfield 15, 3) := by decide +kernel
theorem d6_33 : decode jdk_42_method_66_code 33 = .ok (.if_icmp .ne 21, 3) := by decide +kernel
theorem d6_36 : decode jdk_42_method_66_code 36 = .ok (.aload_n 0, 1) := by decide +kernel
theorem d6_37 : decode jdk_42_method_66_code 37 = .ok (.getfield 9, 3) := by decide +kernel
theorem d6_40 : decode jdk_42_method_66_code 40 = .ok (.aload_n 2, 1) := by decide +kernel
theorem d6_41 : decode jdk_42_method_66_code 41 = .ok (.getfield 9, 3) := by decide +kernel
theorem d6_44 : decode jdk_42_method_66_code 44 = .ok (.invokestatic 541, 3) := by decide +kernel
theorem d6_47 : decode jdk_42_method_66_code 47 = .ok (.ifCond .eq 7, 3) := by decide +kernel
theorem d6_50 : decode jdk_42_method_66_code 50 = .ok (.iconst 1, 1) := by decide +kernel
theorem d6_51 : decode jdk_42_method_66_code 51 = .ok (.goto 4, 3) := by decide +kernel
theorem d6_55 : decode jdk_42_method_66_code 55 = .ok (.ireturn, 1) := by decide +kernel
theorem pn6 : plainName "java/lang/String" = true := by first | (simp [plainName, overriddenIn]; done) | decide +kernel
theorem pd6_0 : parseMethodDescriptor "([B[B)Z" = some ⟨[(.array .byte), (.array .byte)], some .boolean⟩ := by decide +kernel
theorem ef6 (m : MethodId) (x0 : Addr) (x1 : Addr) : entryFrame m #[(.ref x0), (.ref x1)] 3 = mkF m 0 #[.val (.ref x0), .val (.ref x1), .unset] [] := by first | (simp [entryFrame, mkF, argsToLocals, Value.category]; done) | rfl
set_option maxRecDepth 65536 in
set_option maxHeartbeats 40000000 in
theorem rm6 (l : Launch) (Z : State) (a0 : Array Value) (hw : ∀ d ∈ tables_1, d.before a0 Z = true) (ws : List Jvm.Cond) (oa ob ot ou : Addr) (kt ku : ClassId) (x0 x1 x2 x3 x4 x5 x6 x7 cs : Int32) (h0 : Heap) (n0 : Nat) (Z0 : n0 ≤ h0.size) (SC : Sta Z h0 "java/lang/String" "COMPACT_STRINGS" "Z" (.int cs)) (hcs : ¬ cs = 0) (Eoa : Exa Z h0 oa "java/lang/String") (Coa : Fld Z h0 oa "java/lang/String" "coder" "B" (.int (0 : Int32))) (Voa : Fld Z h0 oa "java/lang/String" "value" "[B" (.ref ot)) (Aoa : Arv Z h0 ot kt .byte (8 : Int32) [.int x0, .int x1, .int x2, .int x3, .int x4, .int x5, .int x6, .int x7] (.int 0)) (Eob : Exa Z h0 ob "java/lang/String") (Cob : Fld Z h0 ob "java/lang/String" "coder" "B" (.int (0 : Int32))) (Vob : Fld Z h0 ob "java/lang/String" "value" "[B" (.ref ou)) (Aob : Arv Z h0 ou ku .byte (8 : Int32) [.int x0, .int x1, .int x2, .int x3, .int x4, .int x5, .int x6, .int x7] (.int 0)) :
    MetFree l (⟨"java/lang/String", "equals", "(Ljava/lang/Object;)Z"⟩ : MethodName) (head1 (Jvm.Cond.code (⟨"java/lang/String", "equals", "(Ljava/lang/Object;)Z"⟩ : MethodName) jdk_42_method_66_code 3 (some .boolean) :: ws) ({ frames := 1, cells := 0, slots := 0, locals := 14 } : Room)) (fun a U => a = #[(.ref oa), (.ref ob)] ∧ Z.Warmed39 U.vm ∧ U.heap = h0) (fun _ _ _ _ _ => True) (fun _ U o U' => ∃ v L, o = .returned v ∧ own_QI 1 h0 n0 v U'.heap L ∧ FrameEnd U o U' L ({ frames := 1, cells := 0, slots := 0, locals := 14 } : Room).cells ({ frames := 1, cells := 0, slots := 0, locals := 14 } : Room).slots) := by
  refine MetFree.of_bodySF (plainFor_of_name pn6) hisR ?_
  intro p e s m args below meth c s₁ Bd hml0 hP hK
  obtain ⟨rfl, hZ, hh⟩ := hP
  have hx := Bd.exec
  have hby := Bd.bytes
  have hml : c.maxLocals = 3 := hml0
  have hown : s.vm.findClass "java/lang/String" = some m.cls := findClass_of_methodNamed Bd.named
  have hnm := (name_of_methodNamed Bd.named Bd.method).1
  have hlk : meth.locks = false := Bd.notSynchronized
  have X0 : Stand p l e ({ frames := 1, cells := 0, slots := 0, locals := 14 } : Room) s m #[(.ref oa), (.ref ob)] below meth c s₁ [] 0 0 := Stand.of_body Bd
  have e0 : s₁.heap = h0 := by rw [← hh, Bd.state]; rfl
  have N0 := Fr.nil n0
  refine own_go (fun t k => castTop (ef6 m oa ob) k) ?_
  show own_Go p e below _ (s₁.setTop (mkF m 0 #[.val (.ref oa), .val (.ref ob), .unset] []))
  refine own_go (fun t k => XS.aloadN X0.here hx rfl (hb hby d6_0) rfl rfl k) ?_
  show own_Go p e below _ (s₁.setTop (mkF m 1 #[.val (.ref oa), .val (.ref ob), .unset] [(.ref oa)]))
  refine own_go (fun t k => XS.aloadN X0.here hx rfl (hb hby d6_1) rfl rfl k) ?_
  show own_Go p e below _ (s₁.setTop (mkF m 2 #[.val (.ref oa), .val (.ref ob), .unset] [(.ref ob), (.ref oa)]))
  by_cases ha2 : ((.ref oa) : Value) = (.ref ob)
  · refine own_go (fun t k => Jvm.RoadKit.acmp (g := (mkF m 2 #[.val (.ref oa), .val (.ref ob), .unset] [(.ref ob), (.ref oa)])) X0 hx rfl rfl rfl (pc0 := 2) (pc' := 5) (same := true) rfl (hb hby d6_2) rfl (decide_eq_true ha2) (by decide) (by decide) k) ?_
    show own_Go p e below _ (s₁.setTop (mkF m 5 #[.val (.ref oa), .val (.ref ob), .unset] []))
    refine own_go (fun t k => XS.iconst X0.here hx rfl (hb hby d6_5) k) ?_
    show own_Go p e below _ (s₁.setTop (mkF m 6 #[.val (.ref oa), .val (.ref ob), .unset] [(.int (1 : Int32))]))
    exact own_retN X0 hx (t := .boolean) Bd.returns (by simp) (hb hby d6_6) (by rw [e0]; exact ⟨rfl, N0, rfl⟩) (by decide) (by decide)
  · refine own_go (fun t k => Jvm.RoadKit.acmp (g := (mkF m 2 #[.val (.ref oa), .val (.ref ob), .unset] [(.ref ob), (.ref oa)])) X0 hx rfl rfl rfl (pc0 := 2) (pc' := 7) (same := false) rfl (hb hby d6_2) rfl (decide_eq_false ha2) (by decide) (by decide) k) ?_
    show own_Go p e below _ (s₁.setTop (mkF m 7 #[.val (.ref oa), .val (.ref ob), .unset] []))
    refine own_go (fun t k => XS.aloadN X0.here hx rfl (hb hby d6_7) rfl rfl k) ?_
    show own_Go p e below _ (s₁.setTop (mkF m 8 #[.val (.ref oa), .val (.ref ob), .unset] [(.ref ob)]))
    obtain ⟨T1, X1, e1, st1⟩ := instY X0 hx hZ hown (hw _ (List.mem_of_getElem? (i := 42) rfl)) e0 (Ins.self Eob) (g := (mkF m 8 #[.val (.ref oa), .val (.ref ob), .unset] [(.ref ob)])) rfl rfl (hb hby d6_8)
    refine own_go (fun t k => st1 t k) ?_
    show own_Go p e below _ (T1.setTop (mkF m 11 #[.val (.ref oa), .val (.ref ob), .unset] [(.int (1 : Int32))]))
    refine own_go (fun t k => XS.ifNo X1.here hx rfl (hb hby d6_11) rfl ((if0 _ _).trans (feq (by decide : ¬ ((1 : Int32) = (0 : Int32)))).1) k) ?_
    show own_Go p e below _ (T1.setTop (mkF m 14 #[.val (.ref oa), .val (.ref ob), .unset] []))
    refine own_go (fun t k => XS.aloadN X1.here hx rfl (hb hby d6_14) rfl rfl k) ?_
    show own_Go p e below _ (T1.setTop (mkF m 15 #[.val (.ref oa), .val (.ref ob), .unset] [(.ref ob)]))
    obtain ⟨T2, X2, e2, st2⟩ := castY X1 hx hZ hown (hw _ (List.mem_of_getElem? (i := 42) rfl)) e1 (Ins.self Eob) (g := (mkF m 15 #[.val (.ref oa), .val (.ref ob), .unset] [(.ref ob)])) rfl rfl (hb hby d6_15)
    refine own_go (fun t k => st2 t k) ?_
    show own_Go p e below _ (T2.setTop (mkF m 18 #[.val (.ref oa), .val (.ref ob), .unset] [(.ref ob)]))
    refine own_go (fun t k => XS.astoreN X2.here hx rfl (hb hby d6_18) rfl rfl (l' := #[.val (.ref oa), .val (.ref ob), .val (.ref ob)]) rfl k) ?_
    show own_Go p e below _ (T2.setTop (mkF m 19 #[.val (.ref oa), .val (.ref ob), .val (.ref ob)] []))
    obtain ⟨T3, X3, e3, st3⟩ := getS2 X2 hx hZ hown (host := "") (Or.inl (hw _ (List.mem_of_getElem? (i := 44) rfl))) Via.refl e2 SC (g := (mkF m 19 #[.val (.ref oa), .val (.ref ob), .val (.ref ob)] [])) rfl (hb hby d6_19)
    refine own_go (fun t k => st3 t k) ?_
    show own_Go p e below _ (T3.setTop (mkF m 22 #[.val (.ref oa), .val (.ref ob), .val (.ref ob)] [(.int cs)]))
    refine own_go (fun t k => XS.ifNo X3.here hx rfl (hb hby d6_22) rfl ((if0 _ _).trans (feq hcs).1) k) ?_
    show own_Go p e below _ (T3.setTop (mkF m 25 #[.val (.ref oa), .val (.ref ob), .val (.ref ob)] []))
    refine own_go (fun t k => XS.aloadN X3.here hx rfl (hb hby d6_25) rfl rfl k) ?_
    show own_Go p e below _ (T3.setTop (mkF m 26 #[.val (.ref oa), .val (.ref ob), .val (.ref ob)] [(.ref oa)]))
    obtain ⟨T4, X4, e4, st4⟩ := getF X3 hx hZ hown (host := "") (Or.inl (hw _ (List.mem_of_getElem? (i := 45) rfl))) Via.refl e3 Coa (g := (mkF m 26 #[.val (.ref oa), .val (.ref ob), .val (.ref ob)] [(.ref oa)])) rfl rfl (hb hby d6_26)
    refine own_go (fun t k => st4 t k) ?_
    show own_Go p e below _ (T4.setTop (mkF m 29 #[.val (.ref oa), .val (.ref ob), .val (.ref ob)] [(.int (0 : Int32))]))
    refine own_go (fun t k => XS.aloadN X4.here hx rfl (hb hby d6_29) rfl rfl k) ?_
    show own_Go p e below _ (T4.setTop (mkF m 30 #[.val (.ref oa), .val (.ref ob), .val (.ref ob)] [(.ref ob), (.int (0 : Int32))]))
    obtain ⟨T5, X5, e5, st5⟩ := getF X4 hx hZ hown (host := "") (Or.inl (hw _ (List.mem_of_getElem? (i := 45) rfl))) Via.refl e4 Cob (g := (mkF m 30 #[.val (.ref oa), .val (.ref ob), .val (.ref ob)] [(.ref ob), (.int (0 : Int32))])) rfl rfl (hb hby d6_30)
    refine own_go (fun t k => st5 t k) ?_
    show own_Go p e below _ (T5.setTop (mkF m 33 #[.val (.ref oa), .val (.ref ob), .val (.ref ob)] [(.int (0 : Int32)), (.int (0 : Int32))]))
    refine own_go (fun t k => XS.icmpNo X5.here hx rfl (hb hby d6_33) rfl (teq (by decide : (0 : Int32) = (0 : Int32))).2 k) ?_
    show own_Go p e below _ (T5.setTop (mkF m 36 #[.val (.ref oa), .val (.ref ob), .val (.ref ob)] []))
    refine own_go (fun t k => XS.aloadN X5.here hx rfl (hb hby d6_36) rfl rfl k) ?_
    show own_Go p e below _ (T5.setTop (mkF m 37 #[.val (.ref oa), .val (.ref ob), .val (.ref ob)] [(.ref oa)]))
    obtain ⟨T6, X6, e6, st6⟩ := getF X5 hx hZ hown (host := "") (Or.inl (hw _ (List.mem_of_getElem? (i := 46) rfl))) Via.refl e5 Voa (g := (mkF m 37 #[.val (.ref oa), .val (.ref ob), .val (.ref ob)] [(.ref oa)])) rfl rfl (hb hby d6_37)
    refine own_go (fun t k => st6 t k) ?_
    show own_Go p e below _ (T6.setTop (mkF m 40 #[.val (.ref oa), .val (.ref ob), .val (.ref ob)] [(.ref ot)]))
    refine own_go (fun t k => XS.aloadN X6.here hx rfl (hb hby d6_40) rfl rfl k) ?_
    show own_Go p e below _ (T6.setTop (mkF m 41 #[.val (.ref oa), .val (.ref ob), .val (.ref ob)] [(.ref ob), (.ref ot)]))
    obtain ⟨T7, X7, e7, st7⟩ := getF X6 hx hZ hown (host := "") (Or.inl (hw _ (List.mem_of_getElem? (i := 46) rfl))) Via.refl e6 Vob (g := (mkF m 41 #[.val (.ref oa), .val (.ref ob), .val (.ref ob)] [(.ref ob), (.ref ot)])) rfl rfl (hb hby d6_41)
    refine own_go (fun t k => st7 t k) ?_
    show own_Go p e below _ (T7.setTop (mkF m 44 #[.val (.ref oa), .val (.ref ob), .val (.ref ob)] [(.ref ou), (.ref ot)]))
    obtain ⟨_, _, ⟨T8, L8, k8, n8⟩, -, X8, ⟨Lc8, hQ8, l8, y8, z8⟩, st8⟩ := Jvm.LawKit.callS X7 hx (y := (⟨"java/lang/StringLatin1", "equals", "([B[B)Z"⟩ : MethodName)) hown (mvT hZ (hw _ (List.mem_of_getElem? (i := 47) rfl))) (mvT hZ (hw _ (List.mem_of_getElem? (i := 48) rfl))) (mvT hZ (hw _ (List.mem_of_getElem? (i := 49) rfl))) (mvT hZ (hw _ (List.mem_of_getElem? (i := 50) rfl))) (by decide) (backOf (W := 0) (rm5 l Z a0 hw [] ot ou kt ku x0 x1 x2 x3 x4 x5 x6 x7 h0 n0 Z0 Aoa Aob) hZ (hw _ (List.mem_of_getElem? (i := 50) rfl)) (hw _ (List.mem_of_getElem? (i := 49) rfl)) (by decide) (by decide)) (g := (mkF m 44 #[.val (.ref oa), .val (.ref ob), .val (.ref ob)] [(.ref ou), (.ref ot)])) rfl (by rw [hml]; rfl) (argsL := [(.ref ot), (.ref ou)]) (rest := []) (lenOf pd6_0 rfl) rfl (by show 2 * 0 + _ ≤ _; exact Nat.le_of_eq rfl) (hb hby d6_44) (fun _ _ => ⟨rfl, e7, (by decide : 0 + 0 ≤ _), (by decide : 0 + 0 ≤ _)⟩)
    dsimp only [Pt.U, Pt.locs, Pt.cells, Pt.slots] at X8 l8 y8 z8 st8 hQ8
    subst l8 y8 z8
    obtain ⟨rfl, Nq8, e8⟩ := hQ8
    have N8 := Fr.app N0 Nq8
    refine own_go (fun t k => st8 t k) ?_
    show own_Go p e below _ (T8.setTop (mkF m 47 #[.val (.ref oa), .val (.ref ob), .val (.ref ob)] [(.int (1 : Int32))]))
    refine own_go (fun t k => XS.ifNo X8.here hx rfl (hb hby d6_47) rfl ((if0 _ _).trans (feq (by decide : ¬ ((1 : Int32) = (0 : Int32)))).1) k) ?_
    show own_Go p e below _ (T8.setTop (mkF m 50 #[.val (.ref oa), .val (.ref ob), .val (.ref ob)] []))
    refine own_go (fun t k => XS.iconst X8.here hx rfl (hb hby d6_50) k) ?_
    show own_Go p e below _ (T8.setTop (mkF m 51 #[.val (.ref oa), .val (.ref ob), .val (.ref ob)] [(.int (1 : Int32))]))
    refine own_go (fun t k => XS.goto X8.here hx rfl (pc0 := 51) (pc' := 55) rfl (hb hby d6_51) (by decide) (by decide) k) ?_
    show own_Go p e below _ (T8.setTop (mkF m 55 #[.val (.ref oa), .val (.ref ob), .val (.ref ob)] [(.int (1 : Int32))]))
    exact own_retN X8 hx (t := .boolean) Bd.returns (by simp) (hb hby d6_55) (by rw [e8]; exact ⟨rfl, N8, rfl⟩) (by decide) (by decide)
theorem own_wS {Z : State} {a0 : Array Value} (hw : ∀ d ∈ tables_1, d.before a0 Z = true) : ∀ a ∈ Bundle.stringAtoms, a.before a0 Z = true := by
  intro a ha
  simp only [Bundle.stringAtoms, Bundle.sN, List.mem_cons, List.not_mem_nil, or_false] at ha
  rcases ha with rfl | rfl | rfl | rfl | rfl | rfl | rfl
  · exact (hw _ (List.mem_of_getElem? (i := 23) rfl))
  · exact (hw _ (List.mem_of_getElem? (i := 24) rfl))
  · exact (hw _ (List.mem_of_getElem? (i := 25) rfl))
  · exact (hw _ (List.mem_of_getElem? (i := 26) rfl))
  · exact (hw _ (List.mem_of_getElem? (i := 27) rfl))
  · exact (hw _ (List.mem_of_getElem? (i := 28) rfl))
  · exact (hw _ (List.mem_of_getElem? (i := 29) rfl))
abbrev own_EL : List (String × Nat) := consts_1
theorem own_ew {Z : State} {a0 : Array Value} (hw : ∀ d ∈ tables_1, d.before a0 Z = true) : EW Z a0 own_EL := (EW.cons (hw _ (List.mem_of_getElem? (i := 56) rfl)) (by decide) (EW.cons (hw _ (List.mem_of_getElem? (i := 22) rfl)) (by decide) EW.nil))
theorem pn0 : plainName "com/example/counterledger/counterledger/KindOfPinLaw" = true := by first | (simp [plainName, overriddenIn]; done) | decide +kernel
theorem pd0_0 : parseMethodDescriptor "(Lcom/example/counterledger/counterledger/Side;)Lcom/example/counterledger/counterledger/SettlementDocument$Kind;" = some ⟨[(.object "com/example/counterledger/counterledger/Side")], some (.object "com/example/counterledger/counterledger/SettlementDocument$Kind")⟩ := by decide +kernel
theorem pd0_1 : parseMethodDescriptor "()Ljava/lang/String;" = some ⟨[], some (.object "java/lang/String")⟩ := by decide +kernel
theorem pd0_2 : parseMethodDescriptor "(Ljava/lang/Object;)Z" = some ⟨[(.object "java/lang/Object")], some .boolean⟩ := by decide +kernel
theorem ef0 (m : MethodId) (x0 : Int32) : entryFrame m #[(.int x0)] maxLocals = mkF m 0 #[.val (.int x0), .unset, .unset, .unset, .unset, .unset] [] := by first | (simp [entryFrame, mkF, argsToLocals, Value.category, maxLocals]; done) | rfl
def own_Q0 (n0 : Nat) (v : Option Value) (h : Heap) (L : List Loc) : Prop := v = some (.int 1) ∧ Fr n0 L
set_option maxRecDepth 65536 in
set_option maxHeartbeats 40000000 in
theorem rm0 (l : Launch) (Z : State) (a0 : Array Value) (hw : ∀ d ∈ tables_1, d.before a0 Z = true) (ws : List Jvm.Cond) (p0 : Int32) (cs : Int32) (am : Addr) (cl : Cell) (sPAYABLES kPAYMENT rPAYMENT tPAYMENT : Addr) (cPAYMENT : ClassId) (sRECEIVABLES kRECEIPT rRECEIPT tRECEIPT : Addr) (cRECEIPT : ClassId) (h0 : Heap) (n0 : Nat) (Z0 : n0 ≤ h0.size) (XO : Old Z n0 h0) (SCS : Sta Z Z.heap "java/lang/String" "COMPACT_STRINGS" "Z" (.int cs)) (hcs : ¬ cs = 0) (SMp : Sta Z Z.heap "com/example/counterledger/counterledger/SettlementDocument$1" "$SwitchMap$com$example$counterledger$counterledger$Side" "[I" (.ref am)) (Am : Arr Z Z.heap am cl .int) (SPAYABLES : Sta Z Z.heap "com/example/counterledger/counterledger/Side" "PAYABLES" "Lcom/example/counterledger/counterledger/Side;" (.ref sPAYABLES)) (EPAYABLES : Exa Z Z.heap sPAYABLES "com/example/counterledger/counterledger/Side") (OPAYABLES : Fld Z Z.heap sPAYABLES "java/lang/Enum" "ordinal" "I" (.int (0 : Int32))) (hin2 : ¬ ((0 : Int32) < 0 ∨ cl.slots.size ≤ ((0 : Int32)).toNatClampNeg)) (hat2 : cl.slots[((0 : Int32)).toNatClampNeg]? = some (.int (1 : Int32))) (SPAYMENT : Sta Z Z.heap "com/example/counterledger/counterledger/SettlementDocument$Kind" "PAYMENT" "Lcom/example/counterledger/counterledger/SettlementDocument$Kind;" (.ref kPAYMENT)) (EPAYMENT : Exa Z Z.heap kPAYMENT "com/example/counterledger/counterledger/SettlementDocument$Kind") (RPAYMENT : Fld Z Z.heap kPAYMENT "com/example/counterledger/counterledger/SettlementDocument$Kind" "role" "Ljava/lang/String;" (.ref rPAYMENT)) (ERPAYMENT : Exa Z Z.heap rPAYMENT "java/lang/String") (CRPAYMENT : Fld Z Z.heap rPAYMENT "java/lang/String" "coder" "B" (.int (0 : Int32))) (VRPAYMENT : Fld Z Z.heap rPAYMENT "java/lang/String" "value" "[B" (.ref tPAYMENT)) (ARPAYMENT : Arv Z Z.heap tPAYMENT cPAYMENT .byte (8 : Int32) [.int (115 : Int32), .int (117 : Int32), .int (112 : Int32), .int (112 : Int32), .int (108 : Int32), .int (105 : Int32), .int (101 : Int32), .int (114 : Int32)] (.int 0)) (SRECEIVABLES : Sta Z Z.heap "com/example/counterledger/counterledger/Side" "RECEIVABLES" "Lcom/example/counterledger/counterledger/Side;" (.ref sRECEIVABLES)) (ERECEIVABLES : Exa Z Z.heap sRECEIVABLES "com/example/counterledger/counterledger/Side") (ORECEIVABLES : Fld Z Z.heap sRECEIVABLES "java/lang/Enum" "ordinal" "I" (.int (1 : Int32))) (hin3 : ¬ ((1 : Int32) < 0 ∨ cl.slots.size ≤ ((1 : Int32)).toNatClampNeg)) (hat3 : cl.slots[((1 : Int32)).toNatClampNeg]? = some (.int (2 : Int32))) (SRECEIPT : Sta Z Z.heap "com/example/counterledger/counterledger/SettlementDocument$Kind" "RECEIPT" "Lcom/example/counterledger/counterledger/SettlementDocument$Kind;" (.ref kRECEIPT)) (ERECEIPT : Exa Z Z.heap kRECEIPT "com/example/counterledger/counterledger/SettlementDocument$Kind") (RRECEIPT : Fld Z Z.heap kRECEIPT "com/example/counterledger/counterledger/SettlementDocument$Kind" "role" "Ljava/lang/String;" (.ref rRECEIPT)) (ERRECEIPT : Exa Z Z.heap rRECEIPT "java/lang/String") (CRRECEIPT : Fld Z Z.heap rRECEIPT "java/lang/String" "coder" "B" (.int (0 : Int32))) (VRRECEIPT : Fld Z Z.heap rRECEIPT "java/lang/String" "value" "[B" (.ref tRECEIPT)) (ARRECEIPT : Arv Z Z.heap tRECEIPT cRECEIPT .byte (8 : Int32) [.int (99 : Int32), .int (117 : Int32), .int (115 : Int32), .int (116 : Int32), .int (111 : Int32), .int (109 : Int32), .int (101 : Int32), .int (114 : Int32)] (.int 0)) :
    MetFree l x (head1 (Jvm.Cond.code x code maxLocals ret :: ws) room_1) (fun a U => a = #[(.int p0)] ∧ Z.Warmed39 U.vm ∧ U.heap = h0 ∧ CHv Z own_EL U.vm h0 ∧ ∀ x ∈ ([] : List Addr), Safe Z own_EL U.vm h0 x) (fun _ _ _ _ _ => True) (fun _ U o U' => ∃ v L, o = .returned v ∧ own_Q0 n0 v U'.heap L ∧ CHr Z own_EL U.vm U.heap U'.vm U'.heap ∧ ReturnedEndW U o U' L room_1.cells room_1.slots) := by
  refine MetFree.of_bodySF (plainFor_of_name pn0) hisR ?_
  intro p e s m args below meth c s₁ Bd hml0 hP hK
  obtain ⟨rfl, hZ, hh, hC0, hsf0⟩ := hP
  have hx := Bd.exec
  have hby := Bd.bytes
  have hml : c.maxLocals = 6 := hml0
  have hown : s.vm.findClass "com/example/counterledger/counterledger/KindOfPinLaw" = some m.cls := findClass_of_methodNamed Bd.named
  have hnm := (name_of_methodNamed Bd.named Bd.method).1
  have hlk : meth.locks = false := Bd.notSynchronized
  have hEL := own_ew hw
  have hR0 : CHr Z own_EL s.vm h0 s.vm h0 := CHr.refl hC0
  have hS0 : s.Since s.vm 0 := (State.WarmedH.refl s).since 0
  have hk0 : 0 ≤ h0.size := Nat.zero_le _
  have X0 : Stand p l e room_1 (s.setVm s.vm) m #[(.int p0)] below meth c s₁ [] 0 0 := Stand.of_body Bd
  have e0 : s₁.heap = h0 := by rw [← hh, Bd.state]; rfl
  have N0 := Fr.nil n0
  refine own_go (fun t k => castTop (ef0 m p0) k) ?_
  show own_Go p e below _ (s₁.setTop (mkF m 0 #[.val (.int p0), .unset, .unset, .unset, .unset, .unset] []))
  refine own_go (fun t k => XS.iloadN X0.here hx rfl (hb hby at_0) rfl k) ?_
  show own_Go p e below _ (s₁.setTop (mkF m 1 #[.val (.int p0), .unset, .unset, .unset, .unset, .unset] [(.int p0)]))
  refine own_go (fun t k => XS.iconst X0.here hx rfl (hb hby at_1) k) ?_
  show own_Go p e below _ (s₁.setTop (mkF m 2 #[.val (.int p0), .unset, .unset, .unset, .unset, .unset] [(.int (1 : Int32)), (.int p0)]))
  refine own_go (fun t k => XS.iand X0.here hx rfl (hb hby at_2) rfl k) ?_
  show own_Go p e below _ (s₁.setTop (mkF m 3 #[.val (.int p0), .unset, .unset, .unset, .unset, .unset] [(.int (p0 &&& (1 : Int32)))]))
  by_cases hc3 : (p0 &&& (1 : Int32)) = (0 : Int32)
  · refine own_go (fun t k => XS.ifYes X0.here hx rfl (pc0 := 3) (pc' := 10) rfl (hb hby at_3) rfl ((if0 _ _).trans (teq hc3).1) (by decide) (by decide) k) ?_
    show own_Go p e below _ (s₁.setTop (mkF m 10 #[.val (.int p0), .unset, .unset, .unset, .unset, .unset] []))
    refine own_go (fun t k => XS.iconst X0.here hx rfl (hb hby at_10) k) ?_
    show own_Go p e below _ (s₁.setTop (mkF m 11 #[.val (.int p0), .unset, .unset, .unset, .unset, .unset] [(.int (0 : Int32))]))
    refine own_go (fun t k => XS.istoreN X0.here hx rfl (hb hby at_11) rfl (l' := #[.val (.int p0), .val (.int (0 : Int32)), .unset, .unset, .unset, .unset]) rfl k) ?_
    show own_Go p e below _ (s₁.setTop (mkF m 12 #[.val (.int p0), .val (.int (0 : Int32)), .unset, .unset, .unset, .unset] []))
    refine own_go (fun t k => XS.iloadN X0.here hx rfl (hb hby at_12) rfl k) ?_
    show own_Go p e below _ (s₁.setTop (mkF m 13 #[.val (.int p0), .val (.int (0 : Int32)), .unset, .unset, .unset, .unset] [(.int (0 : Int32))]))
    refine own_go (fun t k => XS.ifYes X0.here hx rfl (pc0 := 13) (pc' := 22) rfl (hb hby at_13) rfl ((if0 _ _).trans (teq (by decide : (0 : Int32) = (0 : Int32))).1) (by decide) (by decide) k) ?_
    show own_Go p e below _ (s₁.setTop (mkF m 22 #[.val (.int p0), .val (.int (0 : Int32)), .unset, .unset, .unset, .unset] []))
    obtain ⟨T1, X1, e1, st1⟩ := getS2 X0 hx hZ hown (host := "") (Or.inl (hw _ (List.mem_of_getElem? (i := 0) rfl))) Via.refl e0 (SRECEIVABLES.ext XO.2) (g := (mkF m 22 #[.val (.int p0), .val (.int (0 : Int32)), .unset, .unset, .unset, .unset] [])) rfl (hb hby at_22)
    refine own_go (fun t k => st1 t k) ?_
    show own_Go p e below _ (T1.setTop (mkF m 25 #[.val (.int p0), .val (.int (0 : Int32)), .unset, .unset, .unset, .unset] [(.ref sRECEIVABLES)]))
    refine own_go (fun t k => XS.astoreN X1.here hx rfl (hb hby at_25) rfl rfl (l' := #[.val (.int p0), .val (.int (0 : Int32)), .val (.ref sRECEIVABLES), .unset, .unset, .unset]) rfl k) ?_
    show own_Go p e below _ (T1.setTop (mkF m 26 #[.val (.int p0), .val (.int (0 : Int32)), .val (.ref sRECEIVABLES), .unset, .unset, .unset] []))
    refine own_go (fun t k => XS.aloadN X1.here hx rfl (hb hby at_26) rfl rfl k) ?_
    show own_Go p e below _ (T1.setTop (mkF m 27 #[.val (.int p0), .val (.int (0 : Int32)), .val (.ref sRECEIVABLES), .unset, .unset, .unset] [(.ref sRECEIVABLES)]))
    obtain ⟨_, _, ⟨T2, L2, k2, n2⟩, -, X2, ⟨Lc2, hQ2, l2, y2, z2⟩, st2⟩ := Jvm.LawKit.callS X1 hx (y := (⟨"com/example/counterledger/counterledger/SettlementDocument$Kind", "of", "(Lcom/example/counterledger/counterledger/Side;)Lcom/example/counterledger/counterledger/SettlementDocument$Kind;"⟩ : MethodName)) hown (mvT hZ (hw _ (List.mem_of_getElem? (i := 3) rfl))) (mvT hZ (hw _ (List.mem_of_getElem? (i := 4) rfl))) (mvT hZ (hw _ (List.mem_of_getElem? (i := 5) rfl))) (mvT hZ (hw _ (List.mem_of_getElem? (i := 6) rfl))) (by decide) (backOf (W := 0) (rm3 l Z a0 hw [] sRECEIVABLES am kRECEIPT cl h0 n0 Z0 (SMp.ext XO.2) (SRECEIPT.ext XO.2) (ERECEIVABLES.ext XO.2) (ORECEIVABLES.ext XO.2) (Am.ext XO.2) hin3 hat3) hZ (hw _ (List.mem_of_getElem? (i := 6) rfl)) (hw _ (List.mem_of_getElem? (i := 5) rfl)) (by decide) (by decide)) (g := (mkF m 27 #[.val (.int p0), .val (.int (0 : Int32)), .val (.ref sRECEIVABLES), .unset, .unset, .unset] [(.ref sRECEIVABLES)])) rfl (by rw [hml]; rfl) (argsL := [(.ref sRECEIVABLES)]) (rest := []) (lenOf pd0_0 rfl) rfl (by show 2 * 0 + _ ≤ _; exact Nat.le_of_eq rfl) (hb hby at_27) (fun _ _ => ⟨rfl, e1, (by decide : 0 + 0 ≤ _), (by decide : 0 + 0 ≤ _)⟩)
    dsimp only [Pt.U, Pt.locs, Pt.cells, Pt.slots] at X2 l2 y2 z2 st2 hQ2
    subst l2 y2 z2
    obtain ⟨rfl, Nq2, e2⟩ := hQ2
    have N2 := Fr.app N0 Nq2
    refine own_go (fun t k => st2 t k) ?_
    show own_Go p e below _ (T2.setTop (mkF m 30 #[.val (.int p0), .val (.int (0 : Int32)), .val (.ref sRECEIVABLES), .unset, .unset, .unset] [(.ref kRECEIPT)]))
    refine own_go (fun t k => XS.astoreN X2.here hx rfl (hb hby at_30) rfl rfl (l' := #[.val (.int p0), .val (.int (0 : Int32)), .val (.ref sRECEIVABLES), .val (.ref kRECEIPT), .unset, .unset]) rfl k) ?_
    show own_Go p e below _ (T2.setTop (mkF m 31 #[.val (.int p0), .val (.int (0 : Int32)), .val (.ref sRECEIVABLES), .val (.ref kRECEIPT), .unset, .unset] []))
    refine own_go (fun t k => XS.iloadN X2.here hx rfl (hb hby at_31) rfl k) ?_
    show own_Go p e below _ (T2.setTop (mkF m 32 #[.val (.int p0), .val (.int (0 : Int32)), .val (.ref sRECEIVABLES), .val (.ref kRECEIPT), .unset, .unset] [(.int (0 : Int32))]))
    refine own_go (fun t k => XS.ifYes X2.here hx rfl (pc0 := 32) (pc' := 41) rfl (hb hby at_32) rfl ((if0 _ _).trans (teq (by decide : (0 : Int32) = (0 : Int32))).1) (by decide) (by decide) k) ?_
    show own_Go p e below _ (T2.setTop (mkF m 41 #[.val (.int p0), .val (.int (0 : Int32)), .val (.ref sRECEIVABLES), .val (.ref kRECEIPT), .unset, .unset] []))
    obtain ⟨T3, X3, e3, st3⟩ := getS2 X2 hx hZ hown (host := "") (Or.inl (hw _ (List.mem_of_getElem? (i := 21) rfl))) Via.refl e2 (SRECEIPT.ext XO.2) (g := (mkF m 41 #[.val (.int p0), .val (.int (0 : Int32)), .val (.ref sRECEIVABLES), .val (.ref kRECEIPT), .unset, .unset] [])) rfl (hb hby at_41)
    refine own_go (fun t k => st3 t k) ?_
    show own_Go p e below _ (T3.setTop (mkF m 44 #[.val (.int p0), .val (.int (0 : Int32)), .val (.ref sRECEIVABLES), .val (.ref kRECEIPT), .unset, .unset] [(.ref kRECEIPT)]))
    refine own_go (fun t k => XS.astore X3.here hx rfl (hb hby at_44) rfl rfl (l' := #[.val (.int p0), .val (.int (0 : Int32)), .val (.ref sRECEIVABLES), .val (.ref kRECEIPT), .val (.ref kRECEIPT), .unset]) rfl k) ?_
    show own_Go p e below _ (T3.setTop (mkF m 46 #[.val (.int p0), .val (.int (0 : Int32)), .val (.ref sRECEIVABLES), .val (.ref kRECEIPT), .val (.ref kRECEIPT), .unset] []))
    refine own_go (fun t k => XS.iloadN X3.here hx rfl (hb hby at_46) rfl k) ?_
    show own_Go p e below _ (T3.setTop (mkF m 47 #[.val (.int p0), .val (.int (0 : Int32)), .val (.ref sRECEIVABLES), .val (.ref kRECEIPT), .val (.ref kRECEIPT), .unset] [(.int (0 : Int32))]))
    refine own_go (fun t k => XS.ifYes X3.here hx rfl (pc0 := 47) (pc' := 55) rfl (hb hby at_47) rfl ((if0 _ _).trans (teq (by decide : (0 : Int32) = (0 : Int32))).1) (by decide) (by decide) k) ?_
    show own_Go p e below _ (T3.setTop (mkF m 55 #[.val (.int p0), .val (.int (0 : Int32)), .val (.ref sRECEIVABLES), .val (.ref kRECEIPT), .val (.ref kRECEIPT), .unset] []))
    obtain ⟨s4, T4, h4, j4, c4, kc4, X4, e4, E4, hS4, hk4, hZ4, hown4, Es4, Fc4, Fv4, Ab4, -, -, hC4, -, hne4, st4⟩ := ldcCH X3 hx hZ hown (hw _ (List.mem_of_getElem? (i := 22) rfl)) (own_wS hw) e3 hS0 hk0 hEL (List.mem_of_getElem? (i := 1) rfl) hC0 (vs := [(.int (99 : Int32)), (.int (117 : Int32)), (.int (115 : Int32)), (.int (116 : Int32)), (.int (111 : Int32)), (.int (109 : Int32)), (.int (101 : Int32)), (.int (114 : Int32))]) (z := (8 : Int32)) ⟨by decide, by decide +kernel⟩ (by decide) rfl (g := (mkF m 55 #[.val (.int p0), .val (.int (0 : Int32)), .val (.ref sRECEIVABLES), .val (.ref kRECEIPT), .val (.ref kRECEIPT), .unset] [])) rfl (hb hby at_55) (n := 32) (by decide) (by decide) (by decide) (by decide)
    have XO__4 := XO.ext E4
    have hR4 := hR0.trans hC4
    have hD4 := hR4.1
    have sz4 := Nat.le_trans Z0 E4.1
    have KP4 := (Keep.refl h0 []).ext E4
    refine own_go (fun t k => st4 t k) ?_
    show own_Go p e below _ (T4.setTop (mkF m 57 #[.val (.int p0), .val (.int (0 : Int32)), .val (.ref sRECEIVABLES), .val (.ref kRECEIPT), .val (.ref kRECEIPT), .unset] [(.ref s4)]))
    refine own_go (fun t k => XS.astore X4.here hx rfl (hb hby at_57) rfl rfl (l' := #[.val (.int p0), .val (.int (0 : Int32)), .val (.ref sRECEIVABLES), .val (.ref kRECEIPT), .val (.ref kRECEIPT), .val (.ref s4)]) rfl k) ?_
    show own_Go p e below _ (T4.setTop (mkF m 59 #[.val (.int p0), .val (.int (0 : Int32)), .val (.ref sRECEIVABLES), .val (.ref kRECEIPT), .val (.ref kRECEIPT), .val (.ref s4)] []))
    refine own_go (fun t k => XS.aloadN X4.here hx rfl (hb hby at_59) rfl rfl k) ?_
    show own_Go p e below _ (T4.setTop (mkF m 60 #[.val (.int p0), .val (.int (0 : Int32)), .val (.ref sRECEIVABLES), .val (.ref kRECEIPT), .val (.ref kRECEIPT), .val (.ref s4)] [(.ref kRECEIPT)]))
    refine own_go (fun t k => XS.aload X4.here hx rfl (hb hby at_60) rfl rfl k) ?_
    show own_Go p e below _ (T4.setTop (mkF m 62 #[.val (.int p0), .val (.int (0 : Int32)), .val (.ref sRECEIVABLES), .val (.ref kRECEIPT), .val (.ref kRECEIPT), .val (.ref s4)] [(.ref kRECEIPT), (.ref kRECEIPT)]))
    refine own_go (fun t k => Jvm.RoadKit.acmp (g := (mkF m 62 #[.val (.int p0), .val (.int (0 : Int32)), .val (.ref sRECEIVABLES), .val (.ref kRECEIPT), .val (.ref kRECEIPT), .val (.ref s4)] [(.ref kRECEIPT), (.ref kRECEIPT)])) X4 hx rfl rfl rfl (pc0 := 62) (pc' := 65) (same := true) rfl (hb hby at_62) rfl (decide_eq_true rfl) (by decide) (by decide) k) ?_
    show own_Go p e below _ (T4.setTop (mkF m 65 #[.val (.int p0), .val (.int (0 : Int32)), .val (.ref sRECEIVABLES), .val (.ref kRECEIPT), .val (.ref kRECEIPT), .val (.ref s4)] []))
    refine own_go (fun t k => XS.aloadN X4.here hx rfl (hb hby at_65) rfl rfl k) ?_
    show own_Go p e below _ (T4.setTop (mkF m 66 #[.val (.int p0), .val (.int (0 : Int32)), .val (.ref sRECEIVABLES), .val (.ref kRECEIPT), .val (.ref kRECEIPT), .val (.ref s4)] [(.ref kRECEIPT)]))
    obtain ⟨cq5, kq5, q5a, q5b, q5c⟩ := isOf hZ4 e4 (ERECEIPT.ext XO__4.2)
    obtain ⟨_, _, ⟨T5, L5, k5, n5⟩, -, X5, ⟨Lc5, hQ5, l5, y5, z5⟩, st5⟩ := X4.virtualBack hx (y := (⟨"com/example/counterledger/counterledger/SettlementDocument$Kind", "role", "()Ljava/lang/String;"⟩ : MethodName)) (z := (⟨"com/example/counterledger/counterledger/SettlementDocument$Kind", "role", "()Ljava/lang/String;"⟩ : MethodName)) hown4 (mvT hZ4 (hw _ (List.mem_of_getElem? (i := 30) rfl))) (mvT hZ4 (hw _ (List.mem_of_getElem? (i := 31) rfl))) (notFace_of_selects (args := #[]) (mvT hZ4 (hw _ (List.mem_of_getElem? (i := 33) rfl)))) (mvT hZ4 (hw _ (List.mem_of_getElem? (i := 33) rfl))) (mvT hZ4 (hw _ (List.mem_of_getElem? (i := 32) rfl))) (by decide) (backOf (W := 0) (rm4 l Z a0 hw [] kRECEIPT rRECEIPT h4 n0 sz4 (RRECEIPT.ext XO__4.2)) hZ4 (hw _ (List.mem_of_getElem? (i := 34) rfl)) (hw _ (List.mem_of_getElem? (i := 5) rfl)) (by decide) (by decide)) q5a q5c (g := (mkF m 66 #[.val (.int p0), .val (.int (0 : Int32)), .val (.ref sRECEIVABLES), .val (.ref kRECEIPT), .val (.ref kRECEIPT), .val (.ref s4)] [(.ref kRECEIPT)])) rfl (by rw [hml]; rfl) (Steps.refl _) (argsL := []) (rest := []) (lenOf pd0_1 rfl) rfl (by show 2 * 0 + _ ≤ _; exact Nat.le_of_eq rfl) (hb hby at_66) (fun _ _ => ⟨rfl, e4, (by decide : 0 + 2 + 0 ≤ _), (by decide : 0 + (32 + 4) + 0 ≤ _)⟩)
    dsimp only [Pt.U, Pt.locs, Pt.cells, Pt.slots] at X5 l5 y5 z5 st5 hQ5
    subst l5 y5 z5
    obtain ⟨rfl, Nq5, e5⟩ := hQ5
    have N5 := Fr.app N2 Nq5
    refine own_go (fun t k => st5.trans k) ?_
    show own_Go p e below _ (T5.setTop (mkF m 69 #[.val (.int p0), .val (.int (0 : Int32)), .val (.ref sRECEIVABLES), .val (.ref kRECEIPT), .val (.ref kRECEIPT), .val (.ref s4)] [(.ref rRECEIPT)]))
    refine own_go (fun t k => XS.aload X5.here hx rfl (hb hby at_69) rfl rfl k) ?_
    show own_Go p e below _ (T5.setTop (mkF m 71 #[.val (.int p0), .val (.int (0 : Int32)), .val (.ref sRECEIVABLES), .val (.ref kRECEIPT), .val (.ref kRECEIPT), .val (.ref s4)] [(.ref s4), (.ref rRECEIPT)]))
    obtain ⟨cq6, kq6, q6a, q6b, q6c⟩ := isOf hZ4 e5 (ERRECEIPT.ext XO__4.2)
    obtain ⟨_, _, ⟨T6, L6, k6, n6⟩, -, X6, ⟨Lc6, hQ6, l6, y6, z6⟩, st6⟩ := X5.virtualBack hx (y := (⟨"java/lang/String", "equals", "(Ljava/lang/Object;)Z"⟩ : MethodName)) (z := (⟨"java/lang/String", "equals", "(Ljava/lang/Object;)Z"⟩ : MethodName)) hown4 (mvT hZ4 (hw _ (List.mem_of_getElem? (i := 37) rfl))) (mvT hZ4 (hw _ (List.mem_of_getElem? (i := 38) rfl))) (notFace_of_selects (args := #[]) (mvT hZ4 (hw _ (List.mem_of_getElem? (i := 40) rfl)))) (mvT hZ4 (hw _ (List.mem_of_getElem? (i := 40) rfl))) (mvT hZ4 (hw _ (List.mem_of_getElem? (i := 39) rfl))) (by decide) (backOf (W := 0) (rm6 l Z a0 hw [] rRECEIPT s4 tRECEIPT c4 cRECEIPT kc4 (99 : Int32) (117 : Int32) (115 : Int32) (116 : Int32) (111 : Int32) (109 : Int32) (101 : Int32) (114 : Int32) cs h4 n0 sz4 (SCS.ext XO__4.2) hcs (ERRECEIPT.ext XO__4.2) (CRRECEIPT.ext XO__4.2) (VRRECEIPT.ext XO__4.2) (ARRECEIPT.ext XO__4.2) Es4 Fc4 Fv4 Ab4) hZ4 (hw _ (List.mem_of_getElem? (i := 41) rfl)) (hw _ (List.mem_of_getElem? (i := 23) rfl)) (by decide) (by decide)) q6a q6c (g := (mkF m 71 #[.val (.int p0), .val (.int (0 : Int32)), .val (.ref sRECEIVABLES), .val (.ref kRECEIPT), .val (.ref kRECEIPT), .val (.ref s4)] [(.ref s4), (.ref rRECEIPT)])) rfl (by rw [hml]; rfl) (Steps.refl _) (argsL := [(.ref s4)]) (rest := []) (lenOf pd0_2 rfl) rfl (by show 2 * 0 + _ ≤ _; exact Nat.le_of_eq rfl) (hb hby at_71) (fun _ _ => ⟨rfl, e5, (by decide : 0 + 2 + 0 ≤ _), (by decide : 0 + (32 + 4) + 0 ≤ _)⟩)
    dsimp only [Pt.U, Pt.locs, Pt.cells, Pt.slots] at X6 l6 y6 z6 st6 hQ6
    subst l6 y6 z6
    obtain ⟨rfl, Nq6, e6⟩ := hQ6
    have N6 := Fr.app N5 Nq6
    refine own_go (fun t k => st6.trans k) ?_
    show own_Go p e below _ (T6.setTop (mkF m 74 #[.val (.int p0), .val (.int (0 : Int32)), .val (.ref sRECEIVABLES), .val (.ref kRECEIPT), .val (.ref kRECEIPT), .val (.ref s4)] [(.int (1 : Int32))]))
    refine own_go (fun t k => XS.ifNo X6.here hx rfl (hb hby at_74) rfl ((if0 _ _).trans (feq (by decide : ¬ ((1 : Int32) = (0 : Int32)))).1) k) ?_
    show own_Go p e below _ (T6.setTop (mkF m 77 #[.val (.int p0), .val (.int (0 : Int32)), .val (.ref sRECEIVABLES), .val (.ref kRECEIPT), .val (.ref kRECEIPT), .val (.ref s4)] []))
    refine own_go (fun t k => XS.iconst X6.here hx rfl (hb hby at_77) k) ?_
    show own_Go p e below _ (T6.setTop (mkF m 78 #[.val (.int p0), .val (.int (0 : Int32)), .val (.ref sRECEIVABLES), .val (.ref kRECEIPT), .val (.ref kRECEIPT), .val (.ref s4)] [(.int (1 : Int32))]))
    refine own_go (fun t k => XS.goto X6.here hx rfl (pc0 := 78) (pc' := 82) rfl (hb hby at_78) (by decide) (by decide) k) ?_
    show own_Go p e below _ (T6.setTop (mkF m 82 #[.val (.int p0), .val (.int (0 : Int32)), .val (.ref sRECEIVABLES), .val (.ref kRECEIPT), .val (.ref kRECEIPT), .val (.ref s4)] [(.int (1 : Int32))]))
    have hF : CHr Z own_EL s.vm s.heap T6.vm T6.heap := by rw [hh, e6]; exact hR4.trans (CHv.at X6 hZ4 hEL hD4)
    exact own_retNH X6 hx (t := .boolean) Bd.returns (by simp) (hb hby at_82) hS4 (by rw [e6]; exact hk4) (⟨rfl, N6⟩) (hF) (by decide) (by decide)
  · refine own_go (fun t k => XS.ifNo X0.here hx rfl (hb hby at_3) rfl ((if0 _ _).trans (feq hc3).1) k) ?_
    show own_Go p e below _ (s₁.setTop (mkF m 6 #[.val (.int p0), .unset, .unset, .unset, .unset, .unset] []))
    refine own_go (fun t k => XS.iconst X0.here hx rfl (hb hby at_6) k) ?_
    show own_Go p e below _ (s₁.setTop (mkF m 7 #[.val (.int p0), .unset, .unset, .unset, .unset, .unset] [(.int (1 : Int32))]))
    refine own_go (fun t k => XS.goto X0.here hx rfl (pc0 := 7) (pc' := 11) rfl (hb hby at_7) (by decide) (by decide) k) ?_
    show own_Go p e below _ (s₁.setTop (mkF m 11 #[.val (.int p0), .unset, .unset, .unset, .unset, .unset] [(.int (1 : Int32))]))
    refine own_go (fun t k => XS.istoreN X0.here hx rfl (hb hby at_11) rfl (l' := #[.val (.int p0), .val (.int (1 : Int32)), .unset, .unset, .unset, .unset]) rfl k) ?_
    show own_Go p e below _ (s₁.setTop (mkF m 12 #[.val (.int p0), .val (.int (1 : Int32)), .unset, .unset, .unset, .unset] []))
    refine own_go (fun t k => XS.iloadN X0.here hx rfl (hb hby at_12) rfl k) ?_
    show own_Go p e below _ (s₁.setTop (mkF m 13 #[.val (.int p0), .val (.int (1 : Int32)), .unset, .unset, .unset, .unset] [(.int (1 : Int32))]))
    refine own_go (fun t k => XS.ifNo X0.here hx rfl (hb hby at_13) rfl ((if0 _ _).trans (feq (by decide : ¬ ((1 : Int32) = (0 : Int32)))).1) k) ?_
    show own_Go p e below _ (s₁.setTop (mkF m 16 #[.val (.int p0), .val (.int (1 : Int32)), .unset, .unset, .unset, .unset] []))
    obtain ⟨T7, X7, e7, st7⟩ := getS2 X0 hx hZ hown (host := "") (Or.inl (hw _ (List.mem_of_getElem? (i := 51) rfl))) Via.refl e0 (SPAYABLES.ext XO.2) (g := (mkF m 16 #[.val (.int p0), .val (.int (1 : Int32)), .unset, .unset, .unset, .unset] [])) rfl (hb hby at_16)
    refine own_go (fun t k => st7 t k) ?_
    show own_Go p e below _ (T7.setTop (mkF m 19 #[.val (.int p0), .val (.int (1 : Int32)), .unset, .unset, .unset, .unset] [(.ref sPAYABLES)]))
    refine own_go (fun t k => XS.goto X7.here hx rfl (pc0 := 19) (pc' := 25) rfl (hb hby at_19) (by decide) (by decide) k) ?_
    show own_Go p e below _ (T7.setTop (mkF m 25 #[.val (.int p0), .val (.int (1 : Int32)), .unset, .unset, .unset, .unset] [(.ref sPAYABLES)]))
    refine own_go (fun t k => XS.astoreN X7.here hx rfl (hb hby at_25) rfl rfl (l' := #[.val (.int p0), .val (.int (1 : Int32)), .val (.ref sPAYABLES), .unset, .unset, .unset]) rfl k) ?_
    show own_Go p e below _ (T7.setTop (mkF m 26 #[.val (.int p0), .val (.int (1 : Int32)), .val (.ref sPAYABLES), .unset, .unset, .unset] []))
    refine own_go (fun t k => XS.aloadN X7.here hx rfl (hb hby at_26) rfl rfl k) ?_
    show own_Go p e below _ (T7.setTop (mkF m 27 #[.val (.int p0), .val (.int (1 : Int32)), .val (.ref sPAYABLES), .unset, .unset, .unset] [(.ref sPAYABLES)]))
    obtain ⟨_, _, ⟨T8, L8, k8, n8⟩, -, X8, ⟨Lc8, hQ8, l8, y8, z8⟩, st8⟩ := Jvm.LawKit.callS X7 hx (y := (⟨"com/example/counterledger/counterledger/SettlementDocument$Kind", "of", "(Lcom/example/counterledger/counterledger/Side;)Lcom/example/counterledger/counterledger/SettlementDocument$Kind;"⟩ : MethodName)) hown (mvT hZ (hw _ (List.mem_of_getElem? (i := 3) rfl))) (mvT hZ (hw _ (List.mem_of_getElem? (i := 4) rfl))) (mvT hZ (hw _ (List.mem_of_getElem? (i := 5) rfl))) (mvT hZ (hw _ (List.mem_of_getElem? (i := 6) rfl))) (by decide) (backOf (W := 0) (rm2 l Z a0 hw [] sPAYABLES am kPAYMENT cl h0 n0 Z0 (SMp.ext XO.2) (SPAYMENT.ext XO.2) (EPAYABLES.ext XO.2) (OPAYABLES.ext XO.2) (Am.ext XO.2) hin2 hat2) hZ (hw _ (List.mem_of_getElem? (i := 6) rfl)) (hw _ (List.mem_of_getElem? (i := 5) rfl)) (by decide) (by decide)) (g := (mkF m 27 #[.val (.int p0), .val (.int (1 : Int32)), .val (.ref sPAYABLES), .unset, .unset, .unset] [(.ref sPAYABLES)])) rfl (by rw [hml]; rfl) (argsL := [(.ref sPAYABLES)]) (rest := []) (lenOf pd0_0 rfl) rfl (by show 2 * 0 + _ ≤ _; exact Nat.le_of_eq rfl) (hb hby at_27) (fun _ _ => ⟨rfl, e7, (by decide : 0 + 0 ≤ _), (by decide : 0 + 0 ≤ _)⟩)
    dsimp only [Pt.U, Pt.locs, Pt.cells, Pt.slots] at X8 l8 y8 z8 st8 hQ8
    subst l8 y8 z8
    obtain ⟨rfl, Nq8, e8⟩ := hQ8
    have N8 := Fr.app N0 Nq8
    refine own_go (fun t k => st8 t k) ?_
    show own_Go p e below _ (T8.setTop (mkF m 30 #[.val (.int p0), .val (.int (1 : Int32)), .val (.ref sPAYABLES), .unset, .unset, .unset] [(.ref kPAYMENT)]))
    refine own_go (fun t k => XS.astoreN X8.here hx rfl (hb hby at_30) rfl rfl (l' := #[.val (.int p0), .val (.int (1 : Int32)), .val (.ref sPAYABLES), .val (.ref kPAYMENT), .unset, .unset]) rfl k) ?_
    show own_Go p e below _ (T8.setTop (mkF m 31 #[.val (.int p0), .val (.int (1 : Int32)), .val (.ref sPAYABLES), .val (.ref kPAYMENT), .unset, .unset] []))
    refine own_go (fun t k => XS.iloadN X8.here hx rfl (hb hby at_31) rfl k) ?_
    show own_Go p e below _ (T8.setTop (mkF m 32 #[.val (.int p0), .val (.int (1 : Int32)), .val (.ref sPAYABLES), .val (.ref kPAYMENT), .unset, .unset] [(.int (1 : Int32))]))
    refine own_go (fun t k => XS.ifNo X8.here hx rfl (hb hby at_32) rfl ((if0 _ _).trans (feq (by decide : ¬ ((1 : Int32) = (0 : Int32)))).1) k) ?_
    show own_Go p e below _ (T8.setTop (mkF m 35 #[.val (.int p0), .val (.int (1 : Int32)), .val (.ref sPAYABLES), .val (.ref kPAYMENT), .unset, .unset] []))
    obtain ⟨T9, X9, e9, st9⟩ := getS2 X8 hx hZ hown (host := "") (Or.inl (hw _ (List.mem_of_getElem? (i := 55) rfl))) Via.refl e8 (SPAYMENT.ext XO.2) (g := (mkF m 35 #[.val (.int p0), .val (.int (1 : Int32)), .val (.ref sPAYABLES), .val (.ref kPAYMENT), .unset, .unset] [])) rfl (hb hby at_35)
    refine own_go (fun t k => st9 t k) ?_
    show own_Go p e below _ (T9.setTop (mkF m 38 #[.val (.int p0), .val (.int (1 : Int32)), .val (.ref sPAYABLES), .val (.ref kPAYMENT), .unset, .unset] [(.ref kPAYMENT)]))
    refine own_go (fun t k => XS.goto X9.here hx rfl (pc0 := 38) (pc' := 44) rfl (hb hby at_38) (by decide) (by decide) k) ?_
    show own_Go p e below _ (T9.setTop (mkF m 44 #[.val (.int p0), .val (.int (1 : Int32)), .val (.ref sPAYABLES), .val (.ref kPAYMENT), .unset, .unset] [(.ref kPAYMENT)]))
    refine own_go (fun t k => XS.astore X9.here hx rfl (hb hby at_44) rfl rfl (l' := #[.val (.int p0), .val (.int (1 : Int32)), .val (.ref sPAYABLES), .val (.ref kPAYMENT), .val (.ref kPAYMENT), .unset]) rfl k) ?_
    show own_Go p e below _ (T9.setTop (mkF m 46 #[.val (.int p0), .val (.int (1 : Int32)), .val (.ref sPAYABLES), .val (.ref kPAYMENT), .val (.ref kPAYMENT), .unset] []))
    refine own_go (fun t k => XS.iloadN X9.here hx rfl (hb hby at_46) rfl k) ?_
    show own_Go p e below _ (T9.setTop (mkF m 47 #[.val (.int p0), .val (.int (1 : Int32)), .val (.ref sPAYABLES), .val (.ref kPAYMENT), .val (.ref kPAYMENT), .unset] [(.int (1 : Int32))]))
    refine own_go (fun t k => XS.ifNo X9.here hx rfl (hb hby at_47) rfl ((if0 _ _).trans (feq (by decide : ¬ ((1 : Int32) = (0 : Int32)))).1) k) ?_
    show own_Go p e below _ (T9.setTop (mkF m 50 #[.val (.int p0), .val (.int (1 : Int32)), .val (.ref sPAYABLES), .val (.ref kPAYMENT), .val (.ref kPAYMENT), .unset] []))
    obtain ⟨s10, T10, h10, j10, c10, kc10, X10, e10, E10, hS10, hk10, hZ10, hown10, Es10, Fc10, Fv10, Ab10, -, -, hC10, -, hne10, st10⟩ := ldcCH X9 hx hZ hown (hw _ (List.mem_of_getElem? (i := 56) rfl)) (own_wS hw) e9 hS0 hk0 hEL (List.mem_of_getElem? (i := 0) rfl) hC0 (vs := [(.int (115 : Int32)), (.int (117 : Int32)), (.int (112 : Int32)), (.int (112 : Int32)), (.int (108 : Int32)), (.int (105 : Int32)), (.int (101 : Int32)), (.int (114 : Int32))]) (z := (8 : Int32)) ⟨by decide, by decide +kernel⟩ (by decide) rfl (g := (mkF m 50 #[.val (.int p0), .val (.int (1 : Int32)), .val (.ref sPAYABLES), .val (.ref kPAYMENT), .val (.ref kPAYMENT), .unset] [])) rfl (hb hby at_50) (n := 32) (by decide) (by decide) (by decide) (by decide)
    have XO__10 := XO.ext E10
    have hR10 := hR0.trans hC10
    have hD10 := hR10.1
    have sz10 := Nat.le_trans Z0 E10.1
    have KP10 := (Keep.refl h0 []).ext E10
    refine own_go (fun t k => st10 t k) ?_
    show own_Go p e below _ (T10.setTop (mkF m 52 #[.val (.int p0), .val (.int (1 : Int32)), .val (.ref sPAYABLES), .val (.ref kPAYMENT), .val (.ref kPAYMENT), .unset] [(.ref s10)]))
    refine own_go (fun t k => XS.goto X10.here hx rfl (pc0 := 52) (pc' := 57) rfl (hb hby at_52) (by decide) (by decide) k) ?_
    show own_Go p e below _ (T10.setTop (mkF m 57 #[.val (.int p0), .val (.int (1 : Int32)), .val (.ref sPAYABLES), .val (.ref kPAYMENT), .val (.ref kPAYMENT), .unset] [(.ref s10)]))
    refine own_go (fun t k => XS.astore X10.here hx rfl (hb hby at_57) rfl rfl (l' := #[.val (.int p0), .val (.int (1 : Int32)), .val (.ref sPAYABLES), .val (.ref kPAYMENT), .val (.ref kPAYMENT), .val (.ref s10)]) rfl k) ?_
    show own_Go p e below _ (T10.setTop (mkF m 59 #[.val (.int p0), .val (.int (1 : Int32)), .val (.ref sPAYABLES), .val (.ref kPAYMENT), .val (.ref kPAYMENT), .val (.ref s10)] []))
    refine own_go (fun t k => XS.aloadN X10.here hx rfl (hb hby at_59) rfl rfl k) ?_
    show own_Go p e below _ (T10.setTop (mkF m 60 #[.val (.int p0), .val (.int (1 : Int32)), .val (.ref sPAYABLES), .val (.ref kPAYMENT), .val (.ref kPAYMENT), .val (.ref s10)] [(.ref kPAYMENT)]))
    refine own_go (fun t k => XS.aload X10.here hx rfl (hb hby at_60) rfl rfl k) ?_
    show own_Go p e below _ (T10.setTop (mkF m 62 #[.val (.int p0), .val (.int (1 : Int32)), .val (.ref sPAYABLES), .val (.ref kPAYMENT), .val (.ref kPAYMENT), .val (.ref s10)] [(.ref kPAYMENT), (.ref kPAYMENT)]))
    refine own_go (fun t k => Jvm.RoadKit.acmp (g := (mkF m 62 #[.val (.int p0), .val (.int (1 : Int32)), .val (.ref sPAYABLES), .val (.ref kPAYMENT), .val (.ref kPAYMENT), .val (.ref s10)] [(.ref kPAYMENT), (.ref kPAYMENT)])) X10 hx rfl rfl rfl (pc0 := 62) (pc' := 65) (same := true) rfl (hb hby at_62) rfl (decide_eq_true rfl) (by decide) (by decide) k) ?_
    show own_Go p e below _ (T10.setTop (mkF m 65 #[.val (.int p0), .val (.int (1 : Int32)), .val (.ref sPAYABLES), .val (.ref kPAYMENT), .val (.ref kPAYMENT), .val (.ref s10)] []))
    refine own_go (fun t k => XS.aloadN X10.here hx rfl (hb hby at_65) rfl rfl k) ?_
    show own_Go p e below _ (T10.setTop (mkF m 66 #[.val (.int p0), .val (.int (1 : Int32)), .val (.ref sPAYABLES), .val (.ref kPAYMENT), .val (.ref kPAYMENT), .val (.ref s10)] [(.ref kPAYMENT)]))
    obtain ⟨cq11, kq11, q11a, q11b, q11c⟩ := isOf hZ10 e10 (EPAYMENT.ext XO__10.2)
    obtain ⟨_, _, ⟨T11, L11, k11, n11⟩, -, X11, ⟨Lc11, hQ11, l11, y11, z11⟩, st11⟩ := X10.virtualBack hx (y := (⟨"com/example/counterledger/counterledger/SettlementDocument$Kind", "role", "()Ljava/lang/String;"⟩ : MethodName)) (z := (⟨"com/example/counterledger/counterledger/SettlementDocument$Kind", "role", "()Ljava/lang/String;"⟩ : MethodName)) hown10 (mvT hZ10 (hw _ (List.mem_of_getElem? (i := 30) rfl))) (mvT hZ10 (hw _ (List.mem_of_getElem? (i := 31) rfl))) (notFace_of_selects (args := #[]) (mvT hZ10 (hw _ (List.mem_of_getElem? (i := 33) rfl)))) (mvT hZ10 (hw _ (List.mem_of_getElem? (i := 33) rfl))) (mvT hZ10 (hw _ (List.mem_of_getElem? (i := 32) rfl))) (by decide) (backOf (W := 0) (rm4 l Z a0 hw [] kPAYMENT rPAYMENT h10 n0 sz10 (RPAYMENT.ext XO__10.2)) hZ10 (hw _ (List.mem_of_getElem? (i := 34) rfl)) (hw _ (List.mem_of_getElem? (i := 5) rfl)) (by decide) (by decide)) q11a q11c (g := (mkF m 66 #[.val (.int p0), .val (.int (1 : Int32)), .val (.ref sPAYABLES), .val (.ref kPAYMENT), .val (.ref kPAYMENT), .val (.ref s10)] [(.ref kPAYMENT)])) rfl (by rw [hml]; rfl) (Steps.refl _) (argsL := []) (rest := []) (lenOf pd0_1 rfl) rfl (by show 2 * 0 + _ ≤ _; exact Nat.le_of_eq rfl) (hb hby at_66) (fun _ _ => ⟨rfl, e10, (by decide : 0 + 2 + 0 ≤ _), (by decide : 0 + (32 + 4) + 0 ≤ _)⟩)
    dsimp only [Pt.U, Pt.locs, Pt.cells, Pt.slots] at X11 l11 y11 z11 st11 hQ11
    subst l11 y11 z11
    obtain ⟨rfl, Nq11, e11⟩ := hQ11
    have N11 := Fr.app N8 Nq11
    refine own_go (fun t k => st11.trans k) ?_
    show own_Go p e below _ (T11.setTop (mkF m 69 #[.val (.int p0), .val (.int (1 : Int32)), .val (.ref sPAYABLES), .val (.ref kPAYMENT), .val (.ref kPAYMENT), .val (.ref s10)] [(.ref rPAYMENT)]))
    refine own_go (fun t k => XS.aload X11.here hx rfl (hb hby at_69) rfl rfl k) ?_
    show own_Go p e below _ (T11.setTop (mkF m 71 #[.val (.int p0), .val (.int (1 : Int32)), .val (.ref sPAYABLES), .val (.ref kPAYMENT), .val (.ref kPAYMENT), .val (.ref s10)] [(.ref s10), (.ref rPAYMENT)]))
    obtain ⟨cq12, kq12, q12a, q12b, q12c⟩ := isOf hZ10 e11 (ERPAYMENT.ext XO__10.2)
    obtain ⟨_, _, ⟨T12, L12, k12, n12⟩, -, X12, ⟨Lc12, hQ12, l12, y12, z12⟩, st12⟩ := X11.virtualBack hx (y := (⟨"java/lang/String", "equals", "(Ljava/lang/Object;)Z"⟩ : MethodName)) (z := (⟨"java/lang/String", "equals", "(Ljava/lang/Object;)Z"⟩ : MethodName)) hown10 (mvT hZ10 (hw _ (List.mem_of_getElem? (i := 37) rfl))) (mvT hZ10 (hw _ (List.mem_of_getElem? (i := 38) rfl))) (notFace_of_selects (args := #[]) (mvT hZ10 (hw _ (List.mem_of_getElem? (i := 40) rfl)))) (mvT hZ10 (hw _ (List.mem_of_getElem? (i := 40) rfl))) (mvT hZ10 (hw _ (List.mem_of_getElem? (i := 39) rfl))) (by decide) (backOf (W := 0) (rm6 l Z a0 hw [] rPAYMENT s10 tPAYMENT c10 cPAYMENT kc10 (115 : Int32) (117 : Int32) (112 : Int32) (112 : Int32) (108 : Int32) (105 : Int32) (101 : Int32) (114 : Int32) cs h10 n0 sz10 (SCS.ext XO__10.2) hcs (ERPAYMENT.ext XO__10.2) (CRPAYMENT.ext XO__10.2) (VRPAYMENT.ext XO__10.2) (ARPAYMENT.ext XO__10.2) Es10 Fc10 Fv10 Ab10) hZ10 (hw _ (List.mem_of_getElem? (i := 41) rfl)) (hw _ (List.mem_of_getElem? (i := 23) rfl)) (by decide) (by decide)) q12a q12c (g := (mkF m 71 #[.val (.int p0), .val (.int (1 : Int32)), .val (.ref sPAYABLES), .val (.ref kPAYMENT), .val (.ref kPAYMENT), .val (.ref s10)] [(.ref s10), (.ref rPAYMENT)])) rfl (by rw [hml]; rfl) (Steps.refl _) (argsL := [(.ref s10)]) (rest := []) (lenOf pd0_2 rfl) rfl (by show 2 * 0 + _ ≤ _; exact Nat.le_of_eq rfl) (hb hby at_71) (fun _ _ => ⟨rfl, e11, (by decide : 0 + 2 + 0 ≤ _), (by decide : 0 + (32 + 4) + 0 ≤ _)⟩)
    dsimp only [Pt.U, Pt.locs, Pt.cells, Pt.slots] at X12 l12 y12 z12 st12 hQ12
    subst l12 y12 z12
    obtain ⟨rfl, Nq12, e12⟩ := hQ12
    have N12 := Fr.app N11 Nq12
    refine own_go (fun t k => st12.trans k) ?_
    show own_Go p e below _ (T12.setTop (mkF m 74 #[.val (.int p0), .val (.int (1 : Int32)), .val (.ref sPAYABLES), .val (.ref kPAYMENT), .val (.ref kPAYMENT), .val (.ref s10)] [(.int (1 : Int32))]))
    refine own_go (fun t k => XS.ifNo X12.here hx rfl (hb hby at_74) rfl ((if0 _ _).trans (feq (by decide : ¬ ((1 : Int32) = (0 : Int32)))).1) k) ?_
    show own_Go p e below _ (T12.setTop (mkF m 77 #[.val (.int p0), .val (.int (1 : Int32)), .val (.ref sPAYABLES), .val (.ref kPAYMENT), .val (.ref kPAYMENT), .val (.ref s10)] []))
    refine own_go (fun t k => XS.iconst X12.here hx rfl (hb hby at_77) k) ?_
    show own_Go p e below _ (T12.setTop (mkF m 78 #[.val (.int p0), .val (.int (1 : Int32)), .val (.ref sPAYABLES), .val (.ref kPAYMENT), .val (.ref kPAYMENT), .val (.ref s10)] [(.int (1 : Int32))]))
    refine own_go (fun t k => XS.goto X12.here hx rfl (pc0 := 78) (pc' := 82) rfl (hb hby at_78) (by decide) (by decide) k) ?_
    show own_Go p e below _ (T12.setTop (mkF m 82 #[.val (.int p0), .val (.int (1 : Int32)), .val (.ref sPAYABLES), .val (.ref kPAYMENT), .val (.ref kPAYMENT), .val (.ref s10)] [(.int (1 : Int32))]))
    have hF : CHr Z own_EL s.vm s.heap T12.vm T12.heap := by rw [hh, e12]; exact hR10.trans (CHv.at X12 hZ10 hEL hD10)
    exact own_retNH X12 hx (t := .boolean) Bd.returns (by simp) (hb hby at_82) hS10 (by rw [e12]; exact hk10) (⟨rfl, N12⟩) (hF) (by decide) (by decide)
theorem own_eqI {args : Array Value} {first s : State} {o : Option Outcome} {idx : List Nat} {t : Term} {n : Int32} (h : (Jvm.Cond.eq t (.int n)).value args first o s idx = some true) : t.eval args first o idx s = some (.int n) := by
  simp only [Cond.value, Term.eval] at h
  cases ht : t.eval args first o idx s with
  | none => simp [ht] at h
  | some x => cases x <;> simp [ht] at h ⊢ <;> exact h
theorem own_eqN {args : Array Value} {first s : State} {o : Option Outcome} {idx : List Nat} {a b : Term} {x y : Int32} (ha : a.eval args first o idx s = some (.int x)) (hb : b.eval args first o idx s = some (.int y)) : (Jvm.Cond.eq a b).value args first o s idx = some (decide (x = y)) := by simp [Cond.value, ha, hb]
theorem own_len {args : Array Value} {s : State} {t : Term} {a : Addr} {cl : Cell} {ty : FieldType} {z : Int32} (h : (Term.length t).eval args s none [] s = some (.int z)) (ht : t.eval args s none [] s = some (.ref a)) (A : Arr s s.heap a cl ty) : cl.slots.size < 2 ^ 31 ∧ cl.slots.size.toInt32 = z := by
  have q := A.fin (Vm.Alike.refl _)
  simp [Term.eval, ht, q] at h
  exact ⟨h.1, h.2⟩
set_option maxRecDepth 65536 in
set_option maxHeartbeats 40000000 in
theorem comes_1 {Post : Tables → Env → Array Value → State → Outcome → State → Prop} (hpost : ∀ tb e args s v u, (limb_1_1.after args s (.returned v) u = true ∧ limb_1_2.after args s (.returned v) u = true ∧ True) → ReturnedEndW s (.returned v) u (Jvm.fieldLocs frame_1_writes args s ++ Jvm.arrayLocs frame_1_arrays args s ++ Jvm.staticLocs frame_1_statics s) 8 2112 → Post tb e args s (.returned v) u) :
    ArmFor flags0 classFile x code maxLocals ret World_1 tables_1 room_1 Calls_1 rest_1 Pre_1 Post := by
  intro l hfl _ _ p e ha hc hk s m args below hf hA hF happ hP
  obtain ⟨hcalls, hrest, hpre⟩ := hP
  obtain ⟨-, -, -, hnamed, -, -, -, hat⟩ := (Spec.applies_iff hf).mp happ
  obtain ⟨hg, hn⟩ := and_e (Cond.before_iff.mp (show (Jvm.Cond.and given_1 narrow_1).before args s = true from hpre))
  obtain ⟨gc, ga0⟩ := and_e hg
  obtain ⟨w0, rfl⟩ : ∃ w0 : Value, args = #[w0] := by
    have hs : args.size = 1 := by simpa [Cond.value, given_1] using gc
    obtain ⟨L⟩ := args
    match L, hs with
    | [w0], _ => exact ⟨w0, rfl⟩
  have hw := fun d (hd : d ∈ tables_1) => atoms_spec (ws := Jvm.Cond.code x code maxLocals ret :: tables_1) hat d (List.mem_cons_of_mem _ hd)
  have hfit : Fit s := fun {y c} hc i hi => by
    obtain ⟨ha, rfl⟩ := Array.getElem?_eq_some_iff.mp hc
    have q := List.all_eq_true.mp ((Array.all_eq_true_iff_forall_mem.mp hF) _ (Array.getElem_mem ha)) i (List.mem_range.mpr hi)
    simpa [Array.getElem?_eq_getElem hi] using q
  obtain ⟨hsets, hown0⟩ := atoms_of _ (rest_1_c_eq ▸ (show rest_1_c.before _ s = true from hrest))
  obtain ⟨i0, ei0⟩ := is_v ga0
  obtain rfl : w0 = (.int i0) := Option.some.inj ei0
  obtain ⟨hn1a, hn1b⟩ := and_e hn
  obtain ⟨hn2a, hn2b⟩ := and_e hn1b
  obtain ⟨hn3a, hn3b⟩ := and_e hn2b
  obtain ⟨hn4a, hn4b⟩ := and_e hn3b
  obtain ⟨hn5a, hn5b⟩ := and_e hn4b
  obtain ⟨hn6a, hn6b⟩ := and_e hn5b
  obtain ⟨hn7a, hn7b⟩ := and_e hn6b
  obtain ⟨hn8a, hn8b⟩ := and_e hn7b
  obtain ⟨hn9a, hn9b⟩ := and_e hn8b
  obtain ⟨hn10a, hn10b⟩ := and_e hn9b
  obtain ⟨hn11a, hn11b⟩ := and_e hn10b
  obtain ⟨hn12a, hn12b⟩ := and_e hn11b
  obtain ⟨hn13a, hn13b⟩ := and_e hn12b
  obtain ⟨hn14a, hn14b⟩ := and_e hn13b
  obtain ⟨hn15a, hn15b⟩ := and_e hn14b
  obtain ⟨hn16a, hn16b⟩ := and_e hn15b
  obtain ⟨hn17a, hn17b⟩ := and_e hn16b
  obtain ⟨hn18a, hn18b⟩ := and_e hn17b
  obtain ⟨hn19a, hn19b⟩ := and_e hn18b
  obtain ⟨hn20a, hn20b⟩ := and_e hn19b
  obtain ⟨hn21a, hn21b⟩ := and_e hn20b
  obtain ⟨hn22a, hn22b⟩ := and_e hn21b
  obtain ⟨hn23a, hn23b⟩ := and_e hn22b
  obtain ⟨hn24a, hn24b⟩ := and_e hn23b
  obtain ⟨hn25a, hn25b⟩ := and_e hn24b
  obtain ⟨hn26a, hn26b⟩ := and_e hn25b
  obtain ⟨hn27a, hn27b⟩ := and_e hn26b
  obtain ⟨hn28a, hn28b⟩ := and_e hn27b
  obtain ⟨hn29a, hn29b⟩ := and_e hn28b
  obtain ⟨hn30a, hn30b⟩ := and_e hn29b
  obtain ⟨hn31a, hn31b⟩ := and_e hn30b
  obtain ⟨hn32a, hn32b⟩ := and_e hn31b
  obtain ⟨hn33a, hn33b⟩ := and_e hn32b
  obtain ⟨am, vm_⟩ := arr_v hn2a
  obtain ⟨cl, Am⟩ := Arr.start vm_ hn2a
  have SMp := Sta.start vm_ (Or.inr ⟨(hw _ (List.mem_of_getElem? (i := 8) rfl)), (hw _ (List.mem_of_getElem? (i := 9) rfl))⟩)
  obtain ⟨sPAYABLES, vPAYABLES⟩ := exa_v hn11a
  have EPAYABLES := Exa.start vPAYABLES hn11a
  have SPAYABLES := Sta.start vPAYABLES (Or.inr ⟨(hw _ (List.mem_of_getElem? (i := 1) rfl)), (hw _ (List.mem_of_getElem? (i := 52) rfl))⟩)
  have OPAYABLES := Fld.start ((fld_at vPAYABLES).symm.trans (own_eqI hn12a))
  obtain ⟨hin2, hat2⟩ := elem_in (own_eqI hn13a) vm_ (Term.int_eval (0 : Int32)) Am.1
  obtain ⟨kPAYMENT, vPAYMENT⟩ := exa_v hn14a
  have EPAYMENT := Exa.start vPAYMENT hn14a
  have SPAYMENT := Sta.start vPAYMENT (Or.inr ⟨(hw _ (List.mem_of_getElem? (i := 5) rfl)), (hw _ (List.mem_of_getElem? (i := 54) rfl))⟩)
  obtain ⟨rPAYMENT, vrPAYMENT⟩ := exa_v hn15a
  have ERPAYMENT := Exa.start vrPAYMENT hn15a
  have RPAYMENT := Fld.start ((fld_at vPAYMENT).symm.trans vrPAYMENT)
  have CRPAYMENT := Fld.start ((fld_at vrPAYMENT).symm.trans (own_eqI hn16a))
  obtain ⟨tPAYMENT, vtPAYMENT⟩ := arr_v hn17a
  obtain ⟨clPAYMENT, AtPAYMENT⟩ := Arr.start vtPAYMENT hn17a
  have VRPAYMENT := Fld.start ((fld_at vrPAYMENT).symm.trans vtPAYMENT)
  have lnPAYMENT := own_len (own_eqI hn18a) vtPAYMENT AtPAYMENT
  have bPAYMENT_0 := (elem_in (own_eqI hn27a) vtPAYMENT (Term.int_eval (0 : Int32)) AtPAYMENT.1).2
  have bPAYMENT_1 := (elem_in (own_eqI hn28a) vtPAYMENT (Term.int_eval (1 : Int32)) AtPAYMENT.1).2
  have bPAYMENT_2 := (elem_in (own_eqI hn29a) vtPAYMENT (Term.int_eval (2 : Int32)) AtPAYMENT.1).2
  have bPAYMENT_3 := (elem_in (own_eqI hn30a) vtPAYMENT (Term.int_eval (3 : Int32)) AtPAYMENT.1).2
  have bPAYMENT_4 := (elem_in (own_eqI hn31a) vtPAYMENT (Term.int_eval (4 : Int32)) AtPAYMENT.1).2
  have bPAYMENT_5 := (elem_in (own_eqI hn32a) vtPAYMENT (Term.int_eval (5 : Int32)) AtPAYMENT.1).2
  have bPAYMENT_6 := (elem_in (own_eqI hn33a) vtPAYMENT (Term.int_eval (6 : Int32)) AtPAYMENT.1).2
  have bPAYMENT_7 := (elem_in (own_eqI hn33b) vtPAYMENT (Term.int_eval (7 : Int32)) AtPAYMENT.1).2
  have ARPAYMENT := Arv.start (dv := .int 0) (vs := [.int (115 : Int32), .int (117 : Int32), .int (112 : Int32), .int (112 : Int32), .int (108 : Int32), .int (105 : Int32), .int (101 : Int32), .int (114 : Int32)]) hfit AtPAYMENT lnPAYMENT.1 lnPAYMENT.2 (by decide) rfl ⟨bPAYMENT_0, bPAYMENT_1, bPAYMENT_2, bPAYMENT_3, bPAYMENT_4, bPAYMENT_5, bPAYMENT_6, bPAYMENT_7, trivial⟩
  obtain ⟨sRECEIVABLES, vRECEIVABLES⟩ := exa_v hn1a
  have ERECEIVABLES := Exa.start vRECEIVABLES hn1a
  have SRECEIVABLES := Sta.start vRECEIVABLES (Or.inr ⟨(hw _ (List.mem_of_getElem? (i := 1) rfl)), (hw _ (List.mem_of_getElem? (i := 2) rfl))⟩)
  have ORECEIVABLES := Fld.start ((fld_at vRECEIVABLES).symm.trans (own_eqI hn4a))
  obtain ⟨hin3, hat3⟩ := elem_in (own_eqI hn5a) vm_ (Term.int_eval (1 : Int32)) Am.1
  obtain ⟨kRECEIPT, vRECEIPT⟩ := exa_v hn6a
  have ERECEIPT := Exa.start vRECEIPT hn6a
  have SRECEIPT := Sta.start vRECEIPT (Or.inr ⟨(hw _ (List.mem_of_getElem? (i := 5) rfl)), (hw _ (List.mem_of_getElem? (i := 20) rfl))⟩)
  obtain ⟨rRECEIPT, vrRECEIPT⟩ := exa_v hn7a
  have ERRECEIPT := Exa.start vrRECEIPT hn7a
  have RRECEIPT := Fld.start ((fld_at vRECEIPT).symm.trans vrRECEIPT)
  have CRRECEIPT := Fld.start ((fld_at vrRECEIPT).symm.trans (own_eqI hn8a))
  obtain ⟨tRECEIPT, vtRECEIPT⟩ := arr_v hn9a
  obtain ⟨clRECEIPT, AtRECEIPT⟩ := Arr.start vtRECEIPT hn9a
  have VRRECEIPT := Fld.start ((fld_at vrRECEIPT).symm.trans vtRECEIPT)
  have lnRECEIPT := own_len (own_eqI hn10a) vtRECEIPT AtRECEIPT
  have bRECEIPT_0 := (elem_in (own_eqI hn19a) vtRECEIPT (Term.int_eval (0 : Int32)) AtRECEIPT.1).2
  have bRECEIPT_1 := (elem_in (own_eqI hn20a) vtRECEIPT (Term.int_eval (1 : Int32)) AtRECEIPT.1).2
  have bRECEIPT_2 := (elem_in (own_eqI hn21a) vtRECEIPT (Term.int_eval (2 : Int32)) AtRECEIPT.1).2
  have bRECEIPT_3 := (elem_in (own_eqI hn22a) vtRECEIPT (Term.int_eval (3 : Int32)) AtRECEIPT.1).2
  have bRECEIPT_4 := (elem_in (own_eqI hn23a) vtRECEIPT (Term.int_eval (4 : Int32)) AtRECEIPT.1).2
  have bRECEIPT_5 := (elem_in (own_eqI hn24a) vtRECEIPT (Term.int_eval (5 : Int32)) AtRECEIPT.1).2
  have bRECEIPT_6 := (elem_in (own_eqI hn25a) vtRECEIPT (Term.int_eval (6 : Int32)) AtRECEIPT.1).2
  have bRECEIPT_7 := (elem_in (own_eqI hn26a) vtRECEIPT (Term.int_eval (7 : Int32)) AtRECEIPT.1).2
  have ARRECEIPT := Arv.start (dv := .int 0) (vs := [.int (99 : Int32), .int (117 : Int32), .int (115 : Int32), .int (116 : Int32), .int (111 : Int32), .int (109 : Int32), .int (101 : Int32), .int (114 : Int32)]) hfit AtRECEIPT lnRECEIPT.1 lnRECEIPT.2 (by decide) rfl ⟨bRECEIPT_0, bRECEIPT_1, bRECEIPT_2, bRECEIPT_3, bRECEIPT_4, bRECEIPT_5, bRECEIPT_6, bRECEIPT_7, trivial⟩
  obtain ⟨cs, ecs⟩ := is_v (Cond.before_iff.mp (hsets _ (List.mem_of_getElem? (i := 1) rfl)))
  have SCS := Sta.start ecs (Or.inl (hsets _ (List.mem_of_getElem? (i := 0) rfl)))
  have hcs : ¬ cs = 0 := gotF (own_eqN ecs (Term.int_eval 0)) (not_v (Cond.before_iff.mp (hsets _ (List.mem_of_getElem? (i := 2) rfl))))
  have hC : CHv s own_EL s.vm s.heap := CHv.start (own_ew hw) (fun p hp => hcalls.1 p hp) (hsets _ (List.mem_of_getElem? (i := 2) rfl)) (hw _ (List.mem_of_getElem? (i := 25) rfl)) (hw _ (List.mem_of_getElem? (i := 24) rfl))
  obtain ⟨n, o, h1, h2, h3, _, L, rfl, ⟨rfl, N⟩, -, hq⟩ := rm0 l s _ hw tables_1 i0 cs am cl sPAYABLES kPAYMENT rPAYMENT tPAYMENT clPAYMENT.cls sRECEIVABLES kRECEIPT rRECEIPT tRECEIPT clRECEIPT.cls s.heap s.heap.size (Nat.le_refl _) (Old.start s) SCS hcs SMp Am SPAYABLES EPAYABLES OPAYABLES hin2 hat2 SPAYMENT EPAYMENT RPAYMENT ERPAYMENT CRPAYMENT VRPAYMENT ARPAYMENT SRECEIVABLES ERECEIVABLES ORECEIVABLES hin3 hat3 SRECEIPT ERECEIPT RRECEIPT ERRECEIPT CRRECEIPT VRRECEIPT ARRECEIPT p e ha hc hk s m _ below hf ((Spec.applies_iff_loose hf).mp happ).1 ⟨rfl, State.Warmed39.refl s, rfl, hC, all0⟩ trivial
  refine ⟨n, _, h1, h2, h3, hpost _ _ _ _ _ _ ⟨Cond.after_iff.mpr rfl, Cond.after_iff.mpr (eq_i res_at (Term.int_eval (1)) rfl), trivial⟩ ⟨hq.1, hq.2.1, hq.2.2.1, (hq.2.2.2.sift fun y hy => Or.inr (N y hy)).mono (by decide) (by decide)⟩⟩
theorem main_1_1 : Claimed_1_1 := comes_1 fun _ _ _ _ _ _ h hF => ⟨h.1, hF⟩
theorem main_1_2 : Claimed_1_2 := comes_1 fun _ _ _ _ _ _ h hF => ⟨h.2.1, hF⟩
end Jvm.Pilot.@@N@@
namespace Jvm.Pilot.@@N@@
open Jvm Jvm.ClassFile Sem Op Lib Jvm.Free Jvm.Stand Jvm.Pilot.@@N@@.Jvm.D
/-! MADE BY PROGRAM (witnessworld.py) out of the Statement's table words and the real class files: 20 classes; the members and pool entries that the words name. The judged class is class 1, her method 1. -/
namespace start1
open Jvm.ClassFile
def u (s : String) : CpInfo := .utf8 (stringToUtf16 s)
/-- a pool by its gaps: so many unusable entries, then the entry; so many at the end -/
def gap : Nat → List CpInfo → List CpInfo
  | 0, r => r
  | n + 1, r => .unusable :: gap n r
def poolList (es : List (Nat × CpInfo)) (last : Nat) : List CpInfo := es.foldr (fun e r => gap e.1 (e.2 :: r)) (gap last [])
def pool (es : List (Nat × CpInfo)) (last : Nat) : Array CpInfo := ⟨poolList es last⟩
def fileOf (pool : Array CpInfo) (this : Nat) (attrs : Array Attribute := #[]) (ms : Array MethodInfo := #[]) (fl : Nat := 33) (sup : Nat := 0) (ifs : Array Nat := #[]) (fds : Array FieldInfo := #[]) : ClassFile where
  minorVersion := 0
  majorVersion := 65
  constantPool := pool
  accessFlags := fl
  thisClass := this
  superClass := sup
  interfaces := ifs
  fields := fds
  methods := ms
  attributes := attrs
def plain (name : String) (sup : Option ClassId) : Class where
  name := name
  kind := .ordinary
  loader := none
  accessFlags := 33
  super := sup
  interfaces := #[]
  cf := none
  fields := #[]
  methods := #[]
  instanceTypes := #[]
  staticTypes := #[]
  resolved := #[]
  callSites := []
  init := .initialized
  statics := none
  mirror := none

def pool0 : Array CpInfo := pool [(5, u "<init>"), (0, u "()V"), (1, .class_ 10), (1, u "java/lang/Object")] 113

def k0m0 : Method := { name := "<init>", desc := "()V", sig := { parameters := [], returnType := none }, accessFlags := 1, code := none }
/-- java/lang/Object -/
def k0 : Class := { plain "java/lang/Object" none with
  accessFlags := 33
  interfaces := #[]
  cf := some (fileOf pool0 8 #[] #[{ accessFlags := 1, nameIndex := 5, descriptorIndex := 6, attributes := #[] }] 33 0 #[] #[])
  fields := #[]
  methods := #[k0m0]
  instanceTypes := #[]
  staticTypes := #[]
  resolved := Array.replicate 124 none
  statics := none }

def pool1 : Array CpInfo := pool [(2, .class_ 4), (1, u "java/lang/Object"), (0, u "<init>"), (0, u "()V"), (0, .fieldref 8 9), (0, .class_ 10), (0, .nameAndType 11 12), (0, u "com/example/counterledger/counterledger/Side"), (0, u "PAYABLES"), (0, u "Lcom/example/counterledger/counterledger/Side;"), (0, .fieldref 8 14), (0, .nameAndType 15 12), (0, u "RECEIVABLES"), (0, .methodref 17 18), (0, .class_ 19), (0, .nameAndType 20 21), (0, u "com/example/counterledger/counterledger/SettlementDocument$Kind"), (0, u "of"), (0, u "(Lcom/example/counterledger/counterledger/Side;)Lcom/example/counterledger/counterledger/SettlementDocument$Kind;"), (0, .fieldref 17 23), (0, .nameAndType 24 25), (0, u "PAYMENT"), (0, u "Lcom/example/counterledger/counterledger/SettlementDocument$Kind;"), (0, .fieldref 17 27), (0, .nameAndType 28 25), (0, u "RECEIPT"), (0, .string 30), (0, u "supplier"), (0, .string 32), (0, u "customer"), (0, .methodref 17 34), (0, .nameAndType 35 36), (0, u "role"), (0, u "()Ljava/lang/String;"), (0, .methodref 38 39), (0, .class_ 40), (0, .nameAndType 41 42), (0, u "java/lang/String"), (0, u "equals"), (0, u "(Ljava/lang/Object;)Z"), (0, .class_ 44), (0, u "com/example/counterledger/counterledger/KindOfPinLaw"), (2, u "law"), (0, u "(I)Z")] 7

def k1m0 : Method := { name := "<init>", desc := "()V", sig := { parameters := [], returnType := none }, accessFlags := 1, code := none }
def k1c1 : Code := { maxStack := 2, maxLocals := 6, code := code, exceptionTable := #[], attributes := #[] }
def k1m1 : Method := { name := "law", desc := "(I)Z", sig := { parameters := [.int], returnType := some .boolean }, accessFlags := 9, code := some k1c1 }
/-- com/example/counterledger/counterledger/KindOfPinLaw -/
def k1 : Class := { plain "com/example/counterledger/counterledger/KindOfPinLaw" (some 0) with
  accessFlags := 49
  interfaces := #[]
  cf := some (fileOf pool1 43 #[] #[{ accessFlags := 1, nameIndex := 5, descriptorIndex := 6, attributes := #[] }, { accessFlags := 9, nameIndex := 47, descriptorIndex := 48, attributes := #[] }] 49 2 #[] #[])
  fields := #[]
  methods := #[k1m0, k1m1]
  instanceTypes := #[]
  staticTypes := #[]
  resolved := Array.replicate 56 none
  statics := none }

def pool2 : Array CpInfo := pool [(1, .class_ 2), (0, u "java/lang/constant/Constable"), (0, .class_ 4), (0, u "java/lang/Object")] 6

/-- java/lang/constant/Constable -/
def k2 : Class := { plain "java/lang/constant/Constable" (some 0) with
  accessFlags := 1537
  interfaces := #[]
  cf := some (fileOf pool2 1 #[] #[] 1537 3 #[] #[])
  fields := #[]
  methods := #[]
  instanceTypes := #[]
  staticTypes := #[]
  resolved := Array.replicate 11 none
  statics := none }

def pool3 : Array CpInfo := pool [(1, .class_ 2), (0, u "java/lang/Comparable"), (0, .class_ 4), (0, u "java/lang/Object")] 7

/-- java/lang/Comparable -/
def k3 : Class := { plain "java/lang/Comparable" (some 0) with
  accessFlags := 1537
  interfaces := #[]
  cf := some (fileOf pool3 1 #[] #[] 1537 3 #[] #[])
  fields := #[]
  methods := #[]
  instanceTypes := #[]
  staticTypes := #[]
  resolved := Array.replicate 12 none
  statics := none }

def pool4 : Array CpInfo := pool [(1, .class_ 2), (0, u "java/io/Serializable"), (0, .class_ 4), (0, u "java/lang/Object")] 2

/-- java/io/Serializable -/
def k4 : Class := { plain "java/io/Serializable" (some 0) with
  accessFlags := 1537
  interfaces := #[]
  cf := some (fileOf pool4 1 #[] #[] 1537 3 #[] #[])
  fields := #[]
  methods := #[]
  instanceTypes := #[]
  staticTypes := #[]
  resolved := Array.replicate 7 none
  statics := none }

def pool5 : Array CpInfo := pool [(2, .class_ 4), (1, u "java/lang/Enum"), (0, u "name"), (0, u "Ljava/lang/String;"), (0, .fieldref 2 8), (0, .nameAndType 9 10), (0, u "ordinal"), (0, u "I"), (1, .class_ 14), (1, u "java/lang/Object"), (4, u "hash"), (86, .class_ 108), (1, u "java/lang/Enum$EnumDesc"), (2, .class_ 112), (0, u "java/lang/constant/Constable"), (0, .class_ 114), (0, u "java/lang/Comparable"), (0, .class_ 116), (0, u "java/io/Serializable"), (9, u "()I")] 77

def k5c0 : Code := { maxStack := 1, maxLocals := 1, code := jdk_37_method_2_code, exceptionTable := #[], attributes := #[] }
def k5m0 : Method := { name := "ordinal", desc := "()I", sig := { parameters := [], returnType := some .int }, accessFlags := 17, code := some k5c0 }
/-- java/lang/Enum -/
def k5 : Class := { plain "java/lang/Enum" (some 0) with
  accessFlags := 1057
  interfaces := #[2, 3, 4]
  cf := some (fileOf pool5 2 #[.nestMembers #[106]] #[{ accessFlags := 17, nameIndex := 9, descriptorIndex := 126, attributes := #[] }] 1057 12 #[111, 113, 115] #[{ accessFlags := 18, nameIndex := 5, descriptorIndex := 6, attributes := #[] }, { accessFlags := 18, nameIndex := 9, descriptorIndex := 10, attributes := #[] }, { accessFlags := 2, nameIndex := 19, descriptorIndex := 10, attributes := #[] }])
  fields := #[{ name := "name", type := (.object "java/lang/String"), accessFlags := 18, slot := 0, constantValue := 0 }, { name := "ordinal", type := .int, accessFlags := 18, slot := 1, constantValue := 0 }, { name := "hash", type := .int, accessFlags := 2, slot := 2, constantValue := 0 }]
  methods := #[k5m0]
  instanceTypes := #[(.object "java/lang/String"), .int, .int]
  staticTypes := #[]
  resolved := Array.replicate 204 none
  statics := none }

def pool6 : Array CpInfo := pool [(1, .class_ 2), (0, u "com/example/counterledger/counterledger/Side"), (2, u "PAYABLES"), (0, u "Lcom/example/counterledger/counterledger/Side;"), (2, u "RECEIVABLES"), (2, u "$VALUES"), (0, u "[Lcom/example/counterledger/counterledger/Side;"), (6, .class_ 22), (1, u "java/lang/Enum")] 24

/-- com/example/counterledger/counterledger/Side -/
def k6 : Class := { plain "com/example/counterledger/counterledger/Side" (some 5) with
  accessFlags := 16433
  interfaces := #[]
  cf := some (fileOf pool6 1 #[] #[] 16433 20 #[] #[{ accessFlags := 16409, nameIndex := 5, descriptorIndex := 6, attributes := #[] }, { accessFlags := 16409, nameIndex := 9, descriptorIndex := 6, attributes := #[] }, { accessFlags := 4122, nameIndex := 12, descriptorIndex := 13, attributes := #[] }])
  fields := #[{ name := "PAYABLES", type := (.object "com/example/counterledger/counterledger/Side"), accessFlags := 16409, slot := 0, constantValue := 0 }, { name := "RECEIVABLES", type := (.object "com/example/counterledger/counterledger/Side"), accessFlags := 16409, slot := 1, constantValue := 0 }, { name := "$VALUES", type := (.array (.object "com/example/counterledger/counterledger/Side")), accessFlags := 4122, slot := 2, constantValue := 0 }]
  methods := #[]
  instanceTypes := #[(.object "java/lang/String"), .int, .int]
  staticTypes := #[(.object "com/example/counterledger/counterledger/Side"), (.object "com/example/counterledger/counterledger/Side"), (.array (.object "com/example/counterledger/counterledger/Side"))]
  resolved := Array.replicate 47 none
  statics := some 0 }

def pool7 : Array CpInfo := pool [(1, .class_ 2), (0, u "com/example/counterledger/counterledger/SettlementDocument$Kind"), (0, .fieldref 1 4), (0, .nameAndType 5 6), (0, u "PAYMENT"), (0, u "Lcom/example/counterledger/counterledger/SettlementDocument$Kind;"), (0, .fieldref 1 8), (0, .nameAndType 9 6), (0, u "RECEIPT"), (2, u "$VALUES"), (0, u "[Lcom/example/counterledger/counterledger/SettlementDocument$Kind;"), (6, .class_ 22), (1, u "java/lang/Enum"), (8, u "prefix"), (0, u "Ljava/lang/String;"), (0, .fieldref 1 34), (0, .nameAndType 35 32), (0, u "role"), (0, .fieldref 37 38), (0, .class_ 39), (0, .nameAndType 40 41), (0, u "com/example/counterledger/counterledger/SettlementDocument$1"), (0, u "$SwitchMap$com$example$counterledger$counterledger$Side"), (0, u "[I"), (0, .methodref 43 44), (0, .class_ 45), (0, .nameAndType 46 47), (0, u "com/example/counterledger/counterledger/Side"), (0, u "ordinal"), (0, u "()I"), (29, u "of"), (0, u "(Lcom/example/counterledger/counterledger/Side;)Lcom/example/counterledger/counterledger/SettlementDocument$Kind;"), (1, u "()Ljava/lang/String;"), (6, .class_ 88), (0, u "com/example/counterledger/counterledger/SettlementDocument")] 2

def k7c0 : Code := { maxStack := 4, maxLocals := 1, code := prog_42_method_4_code, exceptionTable := #[], attributes := #[] }
def k7m0 : Method := { name := "of", desc := "(Lcom/example/counterledger/counterledger/Side;)Lcom/example/counterledger/counterledger/SettlementDocument$Kind;", sig := { parameters := [(.object "com/example/counterledger/counterledger/Side")], returnType := some (.object "com/example/counterledger/counterledger/SettlementDocument$Kind") }, accessFlags := 8, code := some k7c0 }
def k7c1 : Code := { maxStack := 1, maxLocals := 1, code := prog_42_method_5_code, exceptionTable := #[], attributes := #[] }
def k7m1 : Method := { name := "role", desc := "()Ljava/lang/String;", sig := { parameters := [], returnType := some (.object "java/lang/String") }, accessFlags := 0, code := some k7c1 }
/-- com/example/counterledger/counterledger/SettlementDocument$Kind -/
def k7 : Class := { plain "com/example/counterledger/counterledger/SettlementDocument$Kind" (some 5) with
  accessFlags := 16433
  interfaces := #[]
  cf := some (fileOf pool7 1 #[.nestHost 87] #[{ accessFlags := 8, nameIndex := 77, descriptorIndex := 78, attributes := #[] }, { accessFlags := 0, nameIndex := 35, descriptorIndex := 80, attributes := #[] }] 16433 20 #[] #[{ accessFlags := 16409, nameIndex := 5, descriptorIndex := 6, attributes := #[] }, { accessFlags := 16409, nameIndex := 9, descriptorIndex := 6, attributes := #[] }, { accessFlags := 18, nameIndex := 31, descriptorIndex := 32, attributes := #[] }, { accessFlags := 18, nameIndex := 35, descriptorIndex := 32, attributes := #[] }, { accessFlags := 4122, nameIndex := 12, descriptorIndex := 13, attributes := #[] }])
  fields := #[{ name := "PAYMENT", type := (.object "com/example/counterledger/counterledger/SettlementDocument$Kind"), accessFlags := 16409, slot := 0, constantValue := 0 }, { name := "RECEIPT", type := (.object "com/example/counterledger/counterledger/SettlementDocument$Kind"), accessFlags := 16409, slot := 1, constantValue := 0 }, { name := "prefix", type := (.object "java/lang/String"), accessFlags := 18, slot := 3, constantValue := 0 }, { name := "role", type := (.object "java/lang/String"), accessFlags := 18, slot := 4, constantValue := 0 }, { name := "$VALUES", type := (.array (.object "com/example/counterledger/counterledger/SettlementDocument$Kind")), accessFlags := 4122, slot := 2, constantValue := 0 }]
  methods := #[k7m0, k7m1]
  instanceTypes := #[(.object "java/lang/String"), .int, .int, (.object "java/lang/String"), (.object "java/lang/String")]
  staticTypes := #[(.object "com/example/counterledger/counterledger/SettlementDocument$Kind"), (.object "com/example/counterledger/counterledger/SettlementDocument$Kind"), (.array (.object "com/example/counterledger/counterledger/SettlementDocument$Kind"))]
  resolved := Array.replicate 91 none
  statics := some 1 }

def pool8 : Array CpInfo := pool [(8, .class_ 10), (1, u "com/example/counterledger/counterledger/SettlementDocument$1"), (0, u "$SwitchMap$com$example$counterledger$counterledger$Side"), (0, u "[I"), (13, .class_ 27), (0, u "java/lang/Object"), (8, .class_ 37), (0, u "com/example/counterledger/counterledger/SettlementDocument")] 2

/-- com/example/counterledger/counterledger/SettlementDocument$1 -/
def k8 : Class := { plain "com/example/counterledger/counterledger/SettlementDocument$1" (some 0) with
  accessFlags := 4128
  interfaces := #[]
  cf := some (fileOf pool8 8 #[.nestHost 36] #[] 4128 26 #[] #[{ accessFlags := 4120, nameIndex := 11, descriptorIndex := 12, attributes := #[] }])
  fields := #[{ name := "$SwitchMap$com$example$counterledger$counterledger$Side", type := (.array .int), accessFlags := 4120, slot := 0, constantValue := 0 }]
  methods := #[]
  instanceTypes := #[]
  staticTypes := #[(.array .int)]
  resolved := Array.replicate 40 none
  statics := some 2 }

def pool9 : Array CpInfo := pool [(2, .class_ 4), (1, u "java/lang/CharSequence"), (42, .class_ 48), (0, u "java/lang/CharSequence$1CodePointIterator"), (10, .class_ 60), (0, u "java/lang/CharSequence$1CharIterator"), (5, .class_ 67), (0, u "java/lang/Object")] 63

/-- java/lang/CharSequence -/
def k9 : Class := { plain "java/lang/CharSequence" (some 0) with
  accessFlags := 1537
  interfaces := #[]
  cf := some (fileOf pool9 2 #[.nestMembers #[47, 59]] #[] 1537 66 #[] #[])
  fields := #[]
  methods := #[]
  instanceTypes := #[]
  staticTypes := #[]
  resolved := Array.replicate 131 none
  statics := none }

def pool10 : Array CpInfo := pool [(1, .class_ 2), (0, u "java/lang/constant/ConstantDesc"), (0, .class_ 4), (0, u "java/lang/Object")] 32

/-- java/lang/constant/ConstantDesc -/
def k10 : Class := { plain "java/lang/constant/ConstantDesc" (some 0) with
  accessFlags := 1537
  interfaces := #[]
  cf := some (fileOf pool10 1 #[] #[] 1537 3 #[] #[])
  fields := #[]
  methods := #[]
  instanceTypes := #[]
  staticTypes := #[]
  resolved := Array.replicate 37 none
  statics := none }

def pool11 : Array CpInfo := pool [(2, .class_ 4), (1, u "java/lang/Object"), (0, u "<init>"), (0, u "()V"), (2, .fieldref 10 11), (0, .class_ 12), (0, .nameAndType 13 14), (0, u "java/lang/String"), (0, u "value"), (0, u "[B"), (0, .fieldref 10 16), (0, .nameAndType 17 18), (0, u "coder"), (0, u "B"), (2, u "hash"), (0, u "I"), (2, u "hashIsZero"), (0, u "Z"), (11, .fieldref 10 39), (0, .nameAndType 40 26), (0, u "COMPACT_STRINGS"), (66, .class_ 109), (1, u "java/lang/StringLatin1"), (431, .methodref 107 542), (0, .nameAndType 543 544), (0, u "equals"), (0, u "([B[B)Z"), (28, u "(Ljava/lang/Object;)Z"), (1, .class_ 576), (0, u "java/lang/CharSequence"), (22, u "CASE_INSENSITIVE_ORDER"), (0, u "Ljava/util/Comparator;"), (500, u "serialPersistentFields"), (0, u "[Ljava/io/ObjectStreamField;"), (0, .class_ 1104), (0, u "java/lang/String$CaseInsensitiveComparator"), (1, .class_ 1107), (0, u "java/io/Serializable"), (0, .class_ 1109), (0, u "java/lang/Comparable"), (0, .class_ 1111), (0, u "java/lang/constant/Constable"), (0, .class_ 1113), (0, u "java/lang/constant/ConstantDesc"), (2, u "serialVersionUID"), (0, u "J"), (3, u "REPL"), (0, u "C"), (2, u "LATIN1"), (1, u "UTF16")] 323

def k11m0 : Method := { name := "<init>", desc := "()V", sig := { parameters := [], returnType := none }, accessFlags := 1, code := none }
def k11c1 : Code := { maxStack := 2, maxLocals := 3, code := jdk_42_method_66_code, exceptionTable := #[], attributes := #[] }
def k11m1 : Method := { name := "equals", desc := "(Ljava/lang/Object;)Z", sig := { parameters := [(.object "java/lang/Object")], returnType := some .boolean }, accessFlags := 1, code := some k11c1 }
/-- java/lang/String -/
def k11 : Class := { plain "java/lang/String" (some 0) with
  accessFlags := 49
  interfaces := #[4, 3, 9, 2, 10]
  cf := some (fileOf pool11 10 #[.nestMembers #[1103]] #[{ accessFlags := 1, nameIndex := 5, descriptorIndex := 6, attributes := #[] }, { accessFlags := 1, nameIndex := 543, descriptorIndex := 573, attributes := #[] }] 49 2 #[1106, 1108, 575, 1110, 1112] #[{ accessFlags := 18, nameIndex := 13, descriptorIndex := 14, attributes := #[] }, { accessFlags := 18, nameIndex := 17, descriptorIndex := 18, attributes := #[] }, { accessFlags := 2, nameIndex := 21, descriptorIndex := 22, attributes := #[] }, { accessFlags := 2, nameIndex := 25, descriptorIndex := 26, attributes := #[] }, { accessFlags := 26, nameIndex := 1116, descriptorIndex := 1117, attributes := #[] }, { accessFlags := 24, nameIndex := 40, descriptorIndex := 26, attributes := #[] }, { accessFlags := 26, nameIndex := 1101, descriptorIndex := 1102, attributes := #[] }, { accessFlags := 26, nameIndex := 1121, descriptorIndex := 1122, attributes := #[] }, { accessFlags := 25, nameIndex := 599, descriptorIndex := 600, attributes := #[] }, { accessFlags := 24, nameIndex := 1125, descriptorIndex := 18, attributes := #[] }, { accessFlags := 24, nameIndex := 1127, descriptorIndex := 18, attributes := #[] }])
  fields := #[{ name := "value", type := (.array .byte), accessFlags := 18, slot := 0, constantValue := 0 }, { name := "coder", type := .byte, accessFlags := 18, slot := 1, constantValue := 0 }, { name := "hash", type := .int, accessFlags := 2, slot := 2, constantValue := 0 }, { name := "hashIsZero", type := .boolean, accessFlags := 2, slot := 3, constantValue := 0 }, { name := "serialVersionUID", type := .long, accessFlags := 26, slot := 0, constantValue := 0 }, { name := "COMPACT_STRINGS", type := .boolean, accessFlags := 24, slot := 1, constantValue := 0 }, { name := "serialPersistentFields", type := (.array (.object "java/io/ObjectStreamField")), accessFlags := 26, slot := 2, constantValue := 0 }, { name := "REPL", type := .char, accessFlags := 26, slot := 3, constantValue := 0 }, { name := "CASE_INSENSITIVE_ORDER", type := (.object "java/util/Comparator"), accessFlags := 25, slot := 4, constantValue := 0 }, { name := "LATIN1", type := .byte, accessFlags := 24, slot := 5, constantValue := 0 }, { name := "UTF16", type := .byte, accessFlags := 24, slot := 6, constantValue := 0 }]
  methods := #[k11m0, k11m1]
  instanceTypes := #[(.array .byte), .byte, .int, .boolean]
  staticTypes := #[.long, .boolean, (.array (.object "java/io/ObjectStreamField")), .char, (.object "java/util/Comparator"), .byte, .byte]
  resolved := Array.replicate 1451 none
  statics := some 3 }

def pool12 : Array CpInfo := pool [(4, .class_ 6), (1, u "java/lang/Object"), (0, u "<init>"), (0, u "()V"), (5, .class_ 16), (1, u "java/lang/StringLatin1"), (104, u "$assertionsDisabled"), (0, u "Z"), (98, .class_ 223), (1, u "java/lang/StringLatin1$LinesSpliterator"), (57, u "equals"), (0, u "([B[B)Z"), (107, .class_ 391), (0, u "java/lang/StringLatin1$CharsSpliterator")] 3

def k12m0 : Method := { name := "<init>", desc := "()V", sig := { parameters := [], returnType := none }, accessFlags := 0, code := none }
def k12c1 : Code := { maxStack := 3, maxLocals := 3, code := jdk_43_method_13_code, exceptionTable := #[], attributes := #[] }
def k12m1 : Method := { name := "equals", desc := "([B[B)Z", sig := { parameters := [(.array .byte), (.array .byte)], returnType := some .boolean }, accessFlags := 9, code := some k12c1 }
/-- java/lang/StringLatin1 -/
def k12 : Class := { plain "java/lang/StringLatin1" (some 0) with
  accessFlags := 48
  interfaces := #[]
  cf := some (fileOf pool12 14 #[.nestMembers #[390, 221]] #[{ accessFlags := 0, nameIndex := 7, descriptorIndex := 8, attributes := #[] }, { accessFlags := 9, nameIndex := 281, descriptorIndex := 282, attributes := #[] }] 48 4 #[] #[{ accessFlags := 4120, nameIndex := 121, descriptorIndex := 122, attributes := #[] }])
  fields := #[{ name := "$assertionsDisabled", type := .boolean, accessFlags := 4120, slot := 0, constantValue := 0 }]
  methods := #[k12m0, k12m1]
  instanceTypes := #[]
  staticTypes := #[.boolean]
  resolved := Array.replicate 395 none
  statics := none }

def pool13 : Array CpInfo := pool [(2, .class_ 4), (1, u "java/lang/Object"), (0, u "<init>"), (0, u "()V"), (17, .class_ 26), (1, u "jdk/internal/util/Preconditions"), (28, .class_ 56), (0, u "jdk/internal/util/Preconditions$4"), (57, .class_ 115), (0, u "jdk/internal/util/Preconditions$1"), (7, u "SIOOBE_FORMATTER"), (0, u "Ljava/util/function/BiFunction;"), (0, .class_ 126), (0, u "jdk/internal/util/Preconditions$2"), (3, u "AIOOBE_FORMATTER"), (0, .class_ 132), (0, u "jdk/internal/util/Preconditions$3"), (3, u "IOOBE_FORMATTER")] 57

def k13m0 : Method := { name := "<init>", desc := "()V", sig := { parameters := [], returnType := none }, accessFlags := 1, code := none }
/-- jdk/internal/util/Preconditions -/
def k13 : Class := { plain "jdk/internal/util/Preconditions" (some 0) with
  accessFlags := 33
  interfaces := #[]
  cf := some (fileOf pool13 24 #[.nestMembers #[55, 131, 125, 114]] #[{ accessFlags := 1, nameIndex := 5, descriptorIndex := 6, attributes := #[] }] 33 2 #[] #[{ accessFlags := 25, nameIndex := 123, descriptorIndex := 124, attributes := #[] }, { accessFlags := 25, nameIndex := 130, descriptorIndex := 124, attributes := #[] }, { accessFlags := 25, nameIndex := 136, descriptorIndex := 124, attributes := #[] }])
  fields := #[{ name := "SIOOBE_FORMATTER", type := (.object "java/util/function/BiFunction"), accessFlags := 25, slot := 0, constantValue := 0 }, { name := "AIOOBE_FORMATTER", type := (.object "java/util/function/BiFunction"), accessFlags := 25, slot := 1, constantValue := 0 }, { name := "IOOBE_FORMATTER", type := (.object "java/util/function/BiFunction"), accessFlags := 25, slot := 2, constantValue := 0 }]
  methods := #[k13m0]
  instanceTypes := #[]
  staticTypes := #[(.object "java/util/function/BiFunction"), (.object "java/util/function/BiFunction"), (.object "java/util/function/BiFunction")]
  resolved := Array.replicate 194 none
  statics := some 4 }

def pool14 : Array CpInfo := pool [(9, u "<init>"), (6, .class_ 18), (1, u "java/lang/Object"), (0, u "()V"), (1, .class_ 23), (1, u "jdk/internal/util/ArraysSupport"), (0, u "LOG2_ARRAY_LONG_INDEX_SCALE"), (0, u "I"), (2, u "U"), (0, u "Ljdk/internal/misc/Unsafe;"), (8, u "BIG_ENDIAN"), (0, u "Z"), (8, u "LOG2_BYTE_BIT_SIZE"), (4, u "LOG2_ARRAY_INT_INDEX_SCALE"), (54, u "JLA"), (0, u "Ljdk/internal/access/JavaLangAccess;"), (11, u "LOG2_ARRAY_BOOLEAN_INDEX_SCALE"), (9, u "LOG2_ARRAY_BYTE_INDEX_SCALE"), (5, u "LOG2_ARRAY_CHAR_INDEX_SCALE"), (5, u "LOG2_ARRAY_SHORT_INDEX_SCALE"), (18, u "LOG2_ARRAY_FLOAT_INDEX_SCALE"), (24, u "LOG2_ARRAY_DOUBLE_INDEX_SCALE"), (89, u "T_BOOLEAN"), (2, u "T_CHAR"), (1, u "T_FLOAT"), (1, u "T_DOUBLE"), (1, u "T_BYTE"), (1, u "T_SHORT"), (1, u "T_INT"), (1, u "T_LONG"), (1, u "SOFT_MAX_ARRAY_LENGTH")] 83

def k14m0 : Method := { name := "<init>", desc := "()V", sig := { parameters := [], returnType := none }, accessFlags := 2, code := none }
/-- jdk/internal/util/ArraysSupport -/
def k14 : Class := { plain "jdk/internal/util/ArraysSupport" (some 0) with
  accessFlags := 33
  interfaces := #[]
  cf := some (fileOf pool14 21 #[] #[{ accessFlags := 2, nameIndex := 9, descriptorIndex := 19, attributes := #[] }] 33 16 #[] #[{ accessFlags := 24, nameIndex := 28, descriptorIndex := 29, attributes := #[] }, { accessFlags := 26, nameIndex := 38, descriptorIndex := 39, attributes := #[] }, { accessFlags := 25, nameIndex := 121, descriptorIndex := 25, attributes := #[] }, { accessFlags := 25, nameIndex := 131, descriptorIndex := 25, attributes := #[] }, { accessFlags := 25, nameIndex := 137, descriptorIndex := 25, attributes := #[] }, { accessFlags := 25, nameIndex := 143, descriptorIndex := 25, attributes := #[] }, { accessFlags := 25, nameIndex := 53, descriptorIndex := 25, attributes := #[] }, { accessFlags := 25, nameIndex := 24, descriptorIndex := 25, attributes := #[] }, { accessFlags := 25, nameIndex := 162, descriptorIndex := 25, attributes := #[] }, { accessFlags := 25, nameIndex := 187, descriptorIndex := 25, attributes := #[] }, { accessFlags := 26, nameIndex := 48, descriptorIndex := 25, attributes := #[] }, { accessFlags := 25, nameIndex := 277, descriptorIndex := 25, attributes := #[] }, { accessFlags := 25, nameIndex := 280, descriptorIndex := 25, attributes := #[] }, { accessFlags := 25, nameIndex := 282, descriptorIndex := 25, attributes := #[] }, { accessFlags := 25, nameIndex := 284, descriptorIndex := 25, attributes := #[] }, { accessFlags := 25, nameIndex := 286, descriptorIndex := 25, attributes := #[] }, { accessFlags := 25, nameIndex := 288, descriptorIndex := 25, attributes := #[] }, { accessFlags := 25, nameIndex := 290, descriptorIndex := 25, attributes := #[] }, { accessFlags := 25, nameIndex := 292, descriptorIndex := 25, attributes := #[] }, { accessFlags := 26, nameIndex := 108, descriptorIndex := 109, attributes := #[] }, { accessFlags := 25, nameIndex := 294, descriptorIndex := 25, attributes := #[] }])
  fields := #[{ name := "U", type := (.object "jdk/internal/misc/Unsafe"), accessFlags := 24, slot := 0, constantValue := 0 }, { name := "BIG_ENDIAN", type := .boolean, accessFlags := 26, slot := 1, constantValue := 0 }, { name := "LOG2_ARRAY_BOOLEAN_INDEX_SCALE", type := .int, accessFlags := 25, slot := 2, constantValue := 0 }, { name := "LOG2_ARRAY_BYTE_INDEX_SCALE", type := .int, accessFlags := 25, slot := 3, constantValue := 0 }, { name := "LOG2_ARRAY_CHAR_INDEX_SCALE", type := .int, accessFlags := 25, slot := 4, constantValue := 0 }, { name := "LOG2_ARRAY_SHORT_INDEX_SCALE", type := .int, accessFlags := 25, slot := 5, constantValue := 0 }, { name := "LOG2_ARRAY_INT_INDEX_SCALE", type := .int, accessFlags := 25, slot := 6, constantValue := 0 }, { name := "LOG2_ARRAY_LONG_INDEX_SCALE", type := .int, accessFlags := 25, slot := 7, constantValue := 0 }, { name := "LOG2_ARRAY_FLOAT_INDEX_SCALE", type := .int, accessFlags := 25, slot := 8, constantValue := 0 }, { name := "LOG2_ARRAY_DOUBLE_INDEX_SCALE", type := .int, accessFlags := 25, slot := 9, constantValue := 0 }, { name := "LOG2_BYTE_BIT_SIZE", type := .int, accessFlags := 26, slot := 10, constantValue := 0 }, { name := "T_BOOLEAN", type := .int, accessFlags := 25, slot := 11, constantValue := 0 }, { name := "T_CHAR", type := .int, accessFlags := 25, slot := 12, constantValue := 0 }, { name := "T_FLOAT", type := .int, accessFlags := 25, slot := 13, constantValue := 0 }, { name := "T_DOUBLE", type := .int, accessFlags := 25, slot := 14, constantValue := 0 }, { name := "T_BYTE", type := .int, accessFlags := 25, slot := 15, constantValue := 0 }, { name := "T_SHORT", type := .int, accessFlags := 25, slot := 16, constantValue := 0 }, { name := "T_INT", type := .int, accessFlags := 25, slot := 17, constantValue := 0 }, { name := "T_LONG", type := .int, accessFlags := 25, slot := 18, constantValue := 0 }, { name := "JLA", type := (.object "jdk/internal/access/JavaLangAccess"), accessFlags := 26, slot := 19, constantValue := 0 }, { name := "SOFT_MAX_ARRAY_LENGTH", type := .int, accessFlags := 25, slot := 20, constantValue := 0 }]
  methods := #[k14m0]
  instanceTypes := #[]
  staticTypes := #[(.object "jdk/internal/misc/Unsafe"), .boolean, .int, .int, .int, .int, .int, .int, .int, .int, .int, .int, .int, .int, .int, .int, .int, .int, .int, (.object "jdk/internal/access/JavaLangAccess"), .int]
  resolved := Array.replicate 378 none
  statics := none }

def pool15 : Array CpInfo := pool [(1, u "java/lang/Cloneable"), (0, .class_ 1), (0, u "java/lang/Object"), (0, .class_ 3)] 3

/-- java/lang/Cloneable -/
def k15 : Class := { plain "java/lang/Cloneable" (some 0) with
  accessFlags := 1537
  interfaces := #[]
  cf := some (fileOf pool15 2 #[] #[] 1537 4 #[] #[])
  fields := #[]
  methods := #[]
  instanceTypes := #[]
  staticTypes := #[]
  resolved := Array.replicate 8 none
  statics := none }

/-- the primitive byte -/
def k16 : Class := { plain "byte" none with kind := .primitive 'B', accessFlags := 0x411 }
/-- [B -/
def k17 : Class := { plain "[B" (some 0) with kind := .array 16 .byte, interfaces := #[15, 4], accessFlags := 1041 }

/-- the primitive int -/
def k18 : Class := { plain "int" none with kind := .primitive 'I', accessFlags := 0x411 }
/-- [I -/
def k19 : Class := { plain "[I" (some 0) with kind := .array 18 .int, interfaces := #[15, 4], accessFlags := 1041 }

def heap : Heap := #[{ cls := 6, slots := #[.ref 6, .ref 7, .null], vm := .statics 6 },
  { cls := 7, slots := #[.ref 12, .ref 13, .null], vm := .statics 7 },
  { cls := 8, slots := #[.ref 5], vm := .statics 8 },
  { cls := 11, slots := #[.long 0, .int 1, .null, .int 0, .null, .int 0, .int 0], vm := .statics 11 },
  { cls := 13, slots := #[.null, .null, .null], vm := .statics 13 },
  { cls := 19, slots := #[.int 1, .int 2], vm := .none },
  { cls := 6, slots := #[.null, .int 0, .int 0], vm := .none },
  { cls := 6, slots := #[.null, .int 1, .int 0], vm := .none },
  { cls := 17, slots := #[.int 115, .int 117, .int 112, .int 112, .int 108, .int 105, .int 101, .int 114], vm := .none },
  { cls := 17, slots := #[.int 99, .int 117, .int 115, .int 116, .int 111, .int 109, .int 101, .int 114], vm := .none },
  { cls := 11, slots := #[.ref 8, .int 0, .int 0, .int 0], vm := .none },
  { cls := 11, slots := #[.ref 9, .int 0, .int 0, .int 0], vm := .none },
  { cls := 7, slots := #[.null, .int 0, .int 0, .ref 10, .ref 10], vm := .none },
  { cls := 7, slots := #[.null, .int 1, .int 0, .ref 11, .ref 11], vm := .none }]
def classes : Array Class := #[k0, k1, k2, k3, k4, k5, k6, k7, k8, k9, k10, k11, k12, k13, k14, k15, k16, k17, k18, k19]
def interned : List (Array UInt16 × Addr) := []
def slotsUsed : Nat := 59
def theMethod : MethodId := ⟨1, 1⟩
def args0 : Array Value := #[.int 3]
def aboutOver (below : List Frame) : State where
  vm := { classes := classes, interned := interned.toArray }
  heap := heap
  slotsUsed := slotsUsed
  threads := #[{ frames := .invoking theMethod args0 :: below }]
def below0 : List Frame := [.native { method := ⟨0, 0⟩, args := #[] }]
def about1 : State := aboutOver below0
def p0 : Program := .bare "" "" ""
def e0 : Env := launch0.env 0 0 0
theorem w_frames : about1.frames = Frame.invoking theMethod args0 :: below0 := rfl
set_option maxRecDepth 65536 in
theorem w_args : argsFit about1.vm theMethod args0 = true := by decide +kernel
set_option maxRecDepth 65536 in
theorem w_heap : heapFits about1 = true := by decide +kernel
set_option maxRecDepth 65536 in
theorem w_runnable : about1.curStatus? = some .runnable := by decide +kernel
set_option maxRecDepth 65536 in
theorem w_alone : about1.alone = true := by decide +kernel
set_option maxRecDepth 65536 in
theorem w_named : about1.methodNamed? x = some theMethod := by decide +kernel
set_option maxRecDepth 65536 in
theorem w_hears : about1.hears theMethod below0 = true := by decide +kernel
set_option maxRecDepth 65536 in
theorem w_ripe : about1.ripe theMethod args0 below0 = true := by decide +kernel
theorem w_running : about1.status = .running := rfl
set_option maxRecDepth 65536 in
theorem w_room : about1.hasRoom e0.platform room_1 = true :=
  launch0.hasRoom_least _ room_1 (by decide +kernel) (by decide +kernel) (by decide +kernel) (by decide +kernel) (by decide +kernel) (by decide +kernel)
theorem allAtoms_all (ts : List Jvm.Cond) (a : Array Jvm.Value) (st : Jvm.State) : (allAtoms ts).before a st = ts.all (fun c => c.before a st) := by
  induction ts with
  | nil => rfl
  | cons c t ih =>
    show (Jvm.Cond.and c (allAtoms t)).before a st = _
    rw [Jvm.Cond.before_and, ih, List.all_cons]
def words1 : List Jvm.Cond := Jvm.Cond.code x code maxLocals ret :: tables_1
/-- a 'code' word, met by the world's own term for the bytes: nothing is compared byte by byte -/
theorem code_word {y : MethodName} {bytes : ByteArray} {mx : Nat} {rt : Option FieldType} {a : Array Value} {s : State} {m : MethodId} {meth : Method} {c : Code} (h1 : s.methodNamed? y = some m) (h2 : s.vm.method? m = some meth) (h3 : meth.code = some c) (h4 : c.code = bytes)
    (h5 : (c.maxLocals == mx && c.exceptionTable.isEmpty && decide (c.maxStack ≤ mostOperands) && decide (meth.sig.returnType = rt) && !meth.locks && decide (parseMethodDescriptor y.desc = some meth.sig)) = true) : (Jvm.Cond.code y bytes mx rt).before a s = true := by
  simp only [Bool.and_eq_true, beq_iff_eq, Bool.not_eq_true', decide_eq_true_eq] at h5
  obtain ⟨⟨⟨⟨⟨g1, g2⟩, g3⟩, g4⟩, g5⟩, g6⟩ := h5
  simp [Cond.before, Cond.holds, Cond.value, h1, h2, h3, h4, g1, g2, g3, g4, g5, g6]
def isCode : Jvm.Cond → Bool
  | .code _ _ _ _ => true
  | _ => false
theorem all_split {L : List Jvm.Cond} {P : Jvm.Cond → Bool} (h1 : L.all (fun c => isCode c || P c) = true) (h2 : ∀ c ∈ L.filter isCode, P c = true) : L.all P = true := by
  refine List.all_eq_true.mpr fun c hc => ?_
  have h := List.all_eq_true.mp h1 c hc
  rcases Bool.eq_false_or_eq_true (isCode c) with hi | hi
  · exact h2 c (List.mem_filter.mpr ⟨hc, hi⟩)
  · simpa [hi] using h
set_option maxRecDepth 65536 in
theorem w_c0 : (Jvm.Cond.code x code maxLocals ret).before args0 about1 = true := code_word (m := ⟨1, 1⟩) (meth := k1m1) (c := k1c1) (by decide +kernel) rfl rfl rfl (by decide +kernel)
set_option maxRecDepth 65536 in
theorem w_c1 : (Jvm.Cond.code ({ cls := "com/example/counterledger/counterledger/SettlementDocument$Kind", name := "of", desc := "(Lcom/example/counterledger/counterledger/Side;)Lcom/example/counterledger/counterledger/SettlementDocument$Kind;" } : Jvm.MethodName) prog_42_method_4_code (1 : Nat) (Option.some (Jvm.ClassFile.FieldType.object "com/example/counterledger/counterledger/SettlementDocument$Kind"))).before args0 about1 = true := code_word (m := ⟨7, 0⟩) (meth := k7m0) (c := k7c0) (by decide +kernel) rfl rfl rfl (by decide +kernel)
set_option maxRecDepth 65536 in
theorem w_c2 : (Jvm.Cond.code ({ cls := "java/lang/Enum", name := "ordinal", desc := "()I" } : Jvm.MethodName) jdk_37_method_2_code (1 : Nat) (Option.some Jvm.ClassFile.FieldType.int)).before args0 about1 = true := code_word (m := ⟨5, 0⟩) (meth := k5m0) (c := k5c0) (by decide +kernel) rfl rfl rfl (by decide +kernel)
set_option maxRecDepth 65536 in
theorem w_c3 : (Jvm.Cond.code ({ cls := "com/example/counterledger/counterledger/SettlementDocument$Kind", name := "role", desc := "()Ljava/lang/String;" } : Jvm.MethodName) prog_42_method_5_code (1 : Nat) (Option.some (Jvm.ClassFile.FieldType.object "java/lang/String"))).before args0 about1 = true := code_word (m := ⟨7, 1⟩) (meth := k7m1) (c := k7c1) (by decide +kernel) rfl rfl rfl (by decide +kernel)
set_option maxRecDepth 65536 in
theorem w_c4 : (Jvm.Cond.code ({ cls := "java/lang/String", name := "equals", desc := "(Ljava/lang/Object;)Z" } : Jvm.MethodName) jdk_42_method_66_code (3 : Nat) (Option.some Jvm.ClassFile.FieldType.boolean)).before args0 about1 = true := code_word (m := ⟨11, 1⟩) (meth := k11m1) (c := k11c1) (by decide +kernel) rfl rfl rfl (by decide +kernel)
set_option maxRecDepth 65536 in
theorem w_c5 : (Jvm.Cond.code ({ cls := "java/lang/StringLatin1", name := "equals", desc := "([B[B)Z" } : Jvm.MethodName) jdk_43_method_13_code (3 : Nat) (Option.some Jvm.ClassFile.FieldType.boolean)).before args0 about1 = true := code_word (m := ⟨12, 1⟩) (meth := k12m1) (c := k12c1) (by decide +kernel) rfl rfl rfl (by decide +kernel)
def codes1 : List Jvm.Cond := [Jvm.Cond.code x code maxLocals ret, Jvm.Cond.code ({ cls := "com/example/counterledger/counterledger/SettlementDocument$Kind", name := "of", desc := "(Lcom/example/counterledger/counterledger/Side;)Lcom/example/counterledger/counterledger/SettlementDocument$Kind;" } : Jvm.MethodName) prog_42_method_4_code (1 : Nat) (Option.some (Jvm.ClassFile.FieldType.object "com/example/counterledger/counterledger/SettlementDocument$Kind")), Jvm.Cond.code ({ cls := "java/lang/Enum", name := "ordinal", desc := "()I" } : Jvm.MethodName) jdk_37_method_2_code (1 : Nat) (Option.some Jvm.ClassFile.FieldType.int), Jvm.Cond.code ({ cls := "com/example/counterledger/counterledger/SettlementDocument$Kind", name := "role", desc := "()Ljava/lang/String;" } : Jvm.MethodName) prog_42_method_5_code (1 : Nat) (Option.some (Jvm.ClassFile.FieldType.object "java/lang/String")), Jvm.Cond.code ({ cls := "java/lang/String", name := "equals", desc := "(Ljava/lang/Object;)Z" } : Jvm.MethodName) jdk_42_method_66_code (3 : Nat) (Option.some Jvm.ClassFile.FieldType.boolean), Jvm.Cond.code ({ cls := "java/lang/StringLatin1", name := "equals", desc := "([B[B)Z" } : Jvm.MethodName) jdk_43_method_13_code (3 : Nat) (Option.some Jvm.ClassFile.FieldType.boolean)]
set_option maxRecDepth 65536 in
theorem codes_eq : words1.filter isCode = codes1 := rfl
theorem w_codes : ∀ c ∈ words1.filter isCode, c.before args0 about1 = true := by
  rw [codes_eq]
  intro c hc
  simp only [codes1, List.mem_cons, List.not_mem_nil, or_false] at hc
  rcases hc with rfl | rfl | rfl | rfl | rfl | rfl
  · exact w_c0
  · exact w_c1
  · exact w_c2
  · exact w_c3
  · exact w_c4
  · exact w_c5
set_option maxRecDepth 65536 in
theorem w_t1 : (words1.take 24).all (fun c => isCode c || c.before args0 about1) = true := by decide +kernel
set_option maxRecDepth 65536 in
theorem w_t2 : ((words1.drop 24).take 24).all (fun c => isCode c || c.before args0 about1) = true := by decide +kernel
set_option maxRecDepth 65536 in
theorem w_t3 : ((words1.drop 24).drop 24).all (fun c => isCode c || c.before args0 about1) = true := by decide +kernel
theorem w_tables : (allAtoms (Jvm.Cond.code x code maxLocals ret :: tables_1)).before args0 about1 = true := by
  rw [allAtoms_all]
  show words1.all (fun c => c.before args0 about1) = true
  refine all_split ?_ w_codes
  rw [← List.take_append_drop 24 words1, List.all_append, w_t1, ← List.take_append_drop 24 (words1.drop 24), List.all_append, w_t2, w_t3]
  rfl
set_option maxRecDepth 65536 in
theorem w_rest : rest_1_c.before args0 about1 = true := by decide +kernel
set_option maxRecDepth 65536 in
theorem w_case : (Jvm.Cond.and given_1 narrow_1).before args0 about1 = true := by decide +kernel
set_option maxRecDepth 65536 in
theorem w_consts : constsHeld consts_1 about1 := Jvm.Lit.constsHeldB_iff.mp (by decide +kernel)
theorem w_applies : (headSpec (Jvm.Cond.code x code maxLocals ret :: tables_1) room_1).applies x e0.platform about1 = true :=
  (Spec.applies_iff w_frames).mpr ⟨w_running, w_runnable, w_alone, w_named, w_hears, w_ripe, w_room, w_tables⟩
theorem atStart : AtStart classFile x code maxLocals ret World_1 tables_1 room_1 Calls_1 rest_1 Pre_1 launch0 p0 e0 about1 theMethod args0 below0 :=
  ⟨lists_1, trivial, launch0.admits_env _ _ _, launch0.least_env, fairChoices_fair.cas, fairChoices_fair.clock, w_frames, w_args, w_heap, w_applies, ⟨w_consts, trivial⟩, w_rest, w_case⟩
end start1
theorem witness_1 : WitnessClaimed_1 := ⟨start1.p0, start1.e0, start1.about1, start1.theMethod, start1.args0, start1.below0, start1.atStart⟩
end Jvm.Pilot.@@N@@
