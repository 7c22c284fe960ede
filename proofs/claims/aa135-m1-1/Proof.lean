import JvmDerived
import JvmDerived.Pilot.@@N@@Statement
import JvmDerived.Pilot.@@N@@Code
set_option linter.unusedVariables false
set_option linter.unusedSimpArgs false
namespace Jvm.Pilot.@@N@@
open Jvm Jvm.ClassFile Sem Op Lib Jvm.Free Jvm.Stand Jvm.LawKit Jvm.RoadKit Bundle Jvm.Pilot.@@N@@.Jvm.D
section Own
variable {p : Program} {l : Launch} {e : Env} {R : Room} {s : State} {m : MethodId} {args : Array Value} {below : List Frame} {meth : Method} {c : Code} {T : State} {locs : List Loc} {cells slots : Nat}
/-- from S the run ends, and it ends as Q says -/
def own_Go (p : Program) (e : Env) (below : List Frame) (Q : Outcome → State → Prop) (S : State) : Prop := ∃ s₂ o, Steps p.tables e below S s₂ ∧ s₂.status = .running ∧ Ended s₂ below o ∧ Q o s₂
theorem own_go {Q : Outcome → State → Prop} {S S' : State} (h : ∀ t, Steps p.tables e below S' t → Steps p.tables e below S t) (k : own_Go p e below Q S') : own_Go p e below Q S := by
  obtain ⟨s₂, o, h1, h2⟩ := k
  exact ⟨s₂, o, h _ h1, h2⟩
theorem own_ret {Q : Option Value → Heap → List Loc → Prop} {C S : Nat} (X : Stand p l e R s m args below meth c T locs cells slots) {v : Option Value} (hv : meth.sig.returnType = none → v = none) (hlk : meth.locks = false) {S0 : State}
    (hst : ∀ fs, (∀ (f : JFrame) (acts : List Action), f.method = m → f.locked = none → f.entered = [] → (doReturn e (T.setTop f) acts v).1 = T.setFrames fs) → Steps p.tables e below S0 (T.setFrames fs))
    (hQ : Q v T.heap locs) (hC : cells ≤ C) (hS : slots ≤ S) : own_Go p e below (fun o U' => ∃ v L, o = .returned v ∧ Q v U'.heap L ∧ FrameEnd s o U' L C S) S0 := by
  obtain ⟨fs, hr, hrun, hended, hW, hsame⟩ := X.leave (v := v) hv hlk
  exact ⟨_, _, hst fs hr, hrun, hended, _, _, rfl, hQ, ⟨_, rfl⟩, hW, hsame.mono hC hS⟩
theorem own_retN {Q : Option Value → Heap → List Loc → Prop} {C S : Nat} (X : Stand p l e R s m args below meth c T locs cells slots) (hx : p.tables.exec = Jvm.exec) {pc : Nat} {Ls : Array Slot} {z : Int32} {t : FieldType} {rest : List Value} (hret : meth.sig.returnType = some t) (ht : t = .boolean ∨ t = .byte ∨ t = .char ∨ t = .short)
    (hd : decode c.code pc = .ok (.ireturn, 1)) (hQ : Q (some (.int (nar t z))) T.heap locs) (hC : cells ≤ C) (hS : slots ≤ S) (hlk : meth.locks = false := by assumption) :
    own_Go p e below (fun o U' => ∃ v L, o = .returned v ∧ Q v U'.heap L ∧ FrameEnd s o U' L C S) (T.setTop (mkF m pc Ls (.int z :: rest))) :=
  own_ret X (fun h => by rw [hret] at h; cases h) hlk (fun fs hr => retN X hx hret ht hd hr) hQ hC hS
theorem own_retI {Q : Option Value → Heap → List Loc → Prop} {C S : Nat} (X : Stand p l e R s m args below meth c T locs cells slots) (hx : p.tables.exec = Jvm.exec) {pc : Nat} {Ls : Array Slot} {z : Int32} {rest : List Value} (hret : meth.sig.returnType = some .int)
    (hd : decode c.code pc = .ok (.ireturn, 1)) (hQ : Q (some (.int z)) T.heap locs) (hC : cells ≤ C) (hS : slots ≤ S) (hlk : meth.locks = false := by assumption) :
    own_Go p e below (fun o U' => ∃ v L, o = .returned v ∧ Q v U'.heap L ∧ FrameEnd s o U' L C S) (T.setTop (mkF m pc Ls (.int z :: rest))) :=
  own_ret X (fun h => by rw [hret] at h; cases h) hlk (fun fs hr => retOut X hx hret rfl (Or.inl ⟨rfl, Or.inl rfl, z, rfl⟩) hd hr) hQ hC hS
theorem own_retL {Q : Option Value → Heap → List Loc → Prop} {C S : Nat} (X : Stand p l e R s m args below meth c T locs cells slots) (hx : p.tables.exec = Jvm.exec) {pc : Nat} {Ls : Array Slot} {z : Int64} {rest : List Value} (hret : meth.sig.returnType = some .long)
    (hd : decode c.code pc = .ok (.lreturn, 1)) (hQ : Q (some (.long z)) T.heap locs) (hC : cells ≤ C) (hS : slots ≤ S) (hlk : meth.locks = false := by assumption) :
    own_Go p e below (fun o U' => ∃ v L, o = .returned v ∧ Q v U'.heap L ∧ FrameEnd s o U' L C S) (T.setTop (mkF m pc Ls (.long z :: rest))) :=
  own_ret X (fun h => by rw [hret] at h; cases h) hlk (fun fs hr => retOut X hx hret rfl (Or.inr (Or.inl ⟨rfl, rfl, z, rfl⟩)) hd hr) hQ hC hS
theorem own_retA {Q : Option Value → Heap → List Loc → Prop} {C S : Nat} (X : Stand p l e R s m args below meth c T locs cells slots) (hx : p.tables.exec = Jvm.exec) {pc : Nat} {Ls : Array Slot} {w : Value} {t : FieldType} {rest : List Value} (hret : meth.sig.returnType = some t) (ht : t.isReference = true) (hw : w.isRef = true)
    (hd : decode c.code pc = .ok (.areturn, 1)) (hQ : Q (some w) T.heap locs) (hC : cells ≤ C) (hS : slots ≤ S) (hlk : meth.locks = false := by assumption) :
    own_Go p e below (fun o U' => ∃ v L, o = .returned v ∧ Q v U'.heap L ∧ FrameEnd s o U' L C S) (T.setTop (mkF m pc Ls (w :: rest))) :=
  own_ret X (fun h => by rw [hret] at h; cases h) hlk (fun fs hr => retOut X hx hret (by cases t <;> first | (cases ht; done) | rfl) (Or.inr (Or.inr (Or.inr (Or.inr ⟨rfl, ht, hw⟩)))) hd hr) hQ hC hS
theorem own_ret0 {Q : Option Value → Heap → List Loc → Prop} {C S : Nat} (X : Stand p l e R s m args below meth c T locs cells slots) (hx : p.tables.exec = Jvm.exec) {pc : Nat} {Ls : Array Slot} (hret : meth.sig.returnType = none)
    (hd : decode c.code pc = .ok (.return_, 1)) (hQ : Q none T.heap locs) (hC : cells ≤ C) (hS : slots ≤ S) (hlk : meth.locks = false := by assumption) :
    own_Go p e below (fun o U' => ∃ v L, o = .returned v ∧ Q v U'.heap L ∧ FrameEnd s o U' L C S) (T.setTop (mkF m pc Ls [])) :=
  own_ret X (fun _ => rfl) hlk (fun fs hr => X.returnOut hx hret hd hr) hQ hC hS
theorem own_retW {Q : Option Value → Heap → List Loc → Prop} {C S : Nat} {vm₁ : Vm} {n : Nat} (X : Stand p l e R (s.setVm vm₁) m args below meth c T locs cells slots) {v : Option Value} (hv : meth.sig.returnType = none → v = none) (hlk : meth.locks = false) {S0 : State}
    (hst : ∀ fs, (∀ (f : JFrame) (acts : List Action), f.method = m → f.locked = none → f.entered = [] → (doReturn e (T.setTop f) acts v).1 = T.setFrames fs) → Steps p.tables e below S0 (T.setFrames fs))
    (hS₁ : s.Since vm₁ n) (hn₁ : n ≤ T.heap.size) (hQ : Q v T.heap locs) (hC : cells ≤ C) (hS : slots ≤ S) : own_Go p e below (fun o U' => ∃ v L, o = .returned v ∧ Q v U'.heap L ∧ ReturnedEndW s o U' L C S) S0 := by
  obtain ⟨fs, hr, hrun, hended, q1, q2, q3, q4⟩ := X.leaveW hS₁ hn₁ (v := v) hv hlk
  exact ⟨_, _, hst fs hr, hrun, hended, _, _, rfl, hQ, q1, q2, q3, q4.mono hC hS⟩
theorem own_retNW {Q : Option Value → Heap → List Loc → Prop} {C S : Nat} {vm₁ : Vm} {n : Nat} (X : Stand p l e R (s.setVm vm₁) m args below meth c T locs cells slots) (hx : p.tables.exec = Jvm.exec) {pc : Nat} {Ls : Array Slot} {z : Int32} {t : FieldType} {rest : List Value} (hret : meth.sig.returnType = some t) (ht : t = .boolean ∨ t = .byte ∨ t = .char ∨ t = .short)
    (hd : decode c.code pc = .ok (.ireturn, 1)) (hS₁ : s.Since vm₁ n) (hn₁ : n ≤ T.heap.size) (hQ : Q (some (.int (nar t z))) T.heap locs) (hC : cells ≤ C) (hS : slots ≤ S) (hlk : meth.locks = false := by assumption) :
    own_Go p e below (fun o U' => ∃ v L, o = .returned v ∧ Q v U'.heap L ∧ ReturnedEndW s o U' L C S) (T.setTop (mkF m pc Ls (.int z :: rest))) :=
  own_retW X (fun h => by rw [hret] at h; cases h) hlk (fun fs hr => retN X hx hret ht hd hr) hS₁ hn₁ hQ hC hS
theorem own_retIW {Q : Option Value → Heap → List Loc → Prop} {C S : Nat} {vm₁ : Vm} {n : Nat} (X : Stand p l e R (s.setVm vm₁) m args below meth c T locs cells slots) (hx : p.tables.exec = Jvm.exec) {pc : Nat} {Ls : Array Slot} {z : Int32} {rest : List Value} (hret : meth.sig.returnType = some .int)
    (hd : decode c.code pc = .ok (.ireturn, 1)) (hS₁ : s.Since vm₁ n) (hn₁ : n ≤ T.heap.size) (hQ : Q (some (.int z)) T.heap locs) (hC : cells ≤ C) (hS : slots ≤ S) (hlk : meth.locks = false := by assumption) :
    own_Go p e below (fun o U' => ∃ v L, o = .returned v ∧ Q v U'.heap L ∧ ReturnedEndW s o U' L C S) (T.setTop (mkF m pc Ls (.int z :: rest))) :=
  own_retW X (fun h => by rw [hret] at h; cases h) hlk (fun fs hr => retOut X hx hret rfl (Or.inl ⟨rfl, Or.inl rfl, z, rfl⟩) hd hr) hS₁ hn₁ hQ hC hS
theorem own_retLW {Q : Option Value → Heap → List Loc → Prop} {C S : Nat} {vm₁ : Vm} {n : Nat} (X : Stand p l e R (s.setVm vm₁) m args below meth c T locs cells slots) (hx : p.tables.exec = Jvm.exec) {pc : Nat} {Ls : Array Slot} {z : Int64} {rest : List Value} (hret : meth.sig.returnType = some .long)
    (hd : decode c.code pc = .ok (.lreturn, 1)) (hS₁ : s.Since vm₁ n) (hn₁ : n ≤ T.heap.size) (hQ : Q (some (.long z)) T.heap locs) (hC : cells ≤ C) (hS : slots ≤ S) (hlk : meth.locks = false := by assumption) :
    own_Go p e below (fun o U' => ∃ v L, o = .returned v ∧ Q v U'.heap L ∧ ReturnedEndW s o U' L C S) (T.setTop (mkF m pc Ls (.long z :: rest))) :=
  own_retW X (fun h => by rw [hret] at h; cases h) hlk (fun fs hr => retOut X hx hret rfl (Or.inr (Or.inl ⟨rfl, rfl, z, rfl⟩)) hd hr) hS₁ hn₁ hQ hC hS
theorem own_retAW {Q : Option Value → Heap → List Loc → Prop} {C S : Nat} {vm₁ : Vm} {n : Nat} (X : Stand p l e R (s.setVm vm₁) m args below meth c T locs cells slots) (hx : p.tables.exec = Jvm.exec) {pc : Nat} {Ls : Array Slot} {w : Value} {t : FieldType} {rest : List Value} (hret : meth.sig.returnType = some t) (ht : t.isReference = true) (hw : w.isRef = true)
    (hd : decode c.code pc = .ok (.areturn, 1)) (hS₁ : s.Since vm₁ n) (hn₁ : n ≤ T.heap.size) (hQ : Q (some w) T.heap locs) (hC : cells ≤ C) (hS : slots ≤ S) (hlk : meth.locks = false := by assumption) :
    own_Go p e below (fun o U' => ∃ v L, o = .returned v ∧ Q v U'.heap L ∧ ReturnedEndW s o U' L C S) (T.setTop (mkF m pc Ls (w :: rest))) :=
  own_retW X (fun h => by rw [hret] at h; cases h) hlk (fun fs hr => retOut X hx hret (by cases t <;> first | (cases ht; done) | rfl) (Or.inr (Or.inr (Or.inr (Or.inr ⟨rfl, ht, hw⟩)))) hd hr) hS₁ hn₁ hQ hC hS
theorem own_ret0W {Q : Option Value → Heap → List Loc → Prop} {C S : Nat} {vm₁ : Vm} {n : Nat} (X : Stand p l e R (s.setVm vm₁) m args below meth c T locs cells slots) (hx : p.tables.exec = Jvm.exec) {pc : Nat} {Ls : Array Slot} (hret : meth.sig.returnType = none)
    (hd : decode c.code pc = .ok (.return_, 1)) (hS₁ : s.Since vm₁ n) (hn₁ : n ≤ T.heap.size) (hQ : Q none T.heap locs) (hC : cells ≤ C) (hS : slots ≤ S) (hlk : meth.locks = false := by assumption) :
    own_Go p e below (fun o U' => ∃ v L, o = .returned v ∧ Q v U'.heap L ∧ ReturnedEndW s o U' L C S) (T.setTop (mkF m pc Ls [])) :=
  own_retW X (fun _ => rfl) hlk (fun fs hr => X.returnOut hx hret hd hr) hS₁ hn₁ hQ hC hS
theorem own_retH {Q : Option Value → Heap → List Loc → Prop} {C S : Nat} {vm₁ : Vm} {n : Nat} {Z : State} {EL : List (String × Nat)} (X : Stand p l e R (s.setVm vm₁) m args below meth c T locs cells slots) {v : Option Value} (hv : meth.sig.returnType = none → v = none) (hlk : meth.locks = false) {S0 : State}
    (hst : ∀ fs, (∀ (f : JFrame) (acts : List Action), f.method = m → f.locked = none → f.entered = [] → (doReturn e (T.setTop f) acts v).1 = T.setFrames fs) → Steps p.tables e below S0 (T.setFrames fs))
    (hS₁ : s.Since vm₁ n) (hn₁ : n ≤ T.heap.size) (hQ : Q v T.heap locs) (hF : CHr Z EL s.vm s.heap T.vm T.heap) (hC : cells ≤ C) (hS : slots ≤ S) : own_Go p e below (fun o U' => ∃ v L, o = .returned v ∧ Q v U'.heap L ∧ CHr Z EL s.vm s.heap U'.vm U'.heap ∧ ReturnedEndW s o U' L C S) S0 := by
  obtain ⟨fs, hr, hrun, hended, q1, q2, q3, q4⟩ := X.leaveW hS₁ hn₁ (v := v) hv hlk
  exact ⟨_, _, hst fs hr, hrun, hended, _, _, rfl, hQ, hF, q1, q2, q3, q4.mono hC hS⟩
theorem own_retNH {Q : Option Value → Heap → List Loc → Prop} {C S : Nat} {vm₁ : Vm} {n : Nat} {Z : State} {EL : List (String × Nat)} (X : Stand p l e R (s.setVm vm₁) m args below meth c T locs cells slots) (hx : p.tables.exec = Jvm.exec) {pc : Nat} {Ls : Array Slot} {z : Int32} {t : FieldType} {rest : List Value} (hret : meth.sig.returnType = some t) (ht : t = .boolean ∨ t = .byte ∨ t = .char ∨ t = .short)
    (hd : decode c.code pc = .ok (.ireturn, 1)) (hS₁ : s.Since vm₁ n) (hn₁ : n ≤ T.heap.size) (hQ : Q (some (.int (nar t z))) T.heap locs) (hF : CHr Z EL s.vm s.heap T.vm T.heap) (hC : cells ≤ C) (hS : slots ≤ S) (hlk : meth.locks = false := by assumption) :
    own_Go p e below (fun o U' => ∃ v L, o = .returned v ∧ Q v U'.heap L ∧ CHr Z EL s.vm s.heap U'.vm U'.heap ∧ ReturnedEndW s o U' L C S) (T.setTop (mkF m pc Ls (.int z :: rest))) :=
  own_retH X (fun h => by rw [hret] at h; cases h) hlk (fun fs hr => retN X hx hret ht hd hr) hS₁ hn₁ hQ hF hC hS
theorem own_retIH {Q : Option Value → Heap → List Loc → Prop} {C S : Nat} {vm₁ : Vm} {n : Nat} {Z : State} {EL : List (String × Nat)} (X : Stand p l e R (s.setVm vm₁) m args below meth c T locs cells slots) (hx : p.tables.exec = Jvm.exec) {pc : Nat} {Ls : Array Slot} {z : Int32} {rest : List Value} (hret : meth.sig.returnType = some .int)
    (hd : decode c.code pc = .ok (.ireturn, 1)) (hS₁ : s.Since vm₁ n) (hn₁ : n ≤ T.heap.size) (hQ : Q (some (.int z)) T.heap locs) (hF : CHr Z EL s.vm s.heap T.vm T.heap) (hC : cells ≤ C) (hS : slots ≤ S) (hlk : meth.locks = false := by assumption) :
    own_Go p e below (fun o U' => ∃ v L, o = .returned v ∧ Q v U'.heap L ∧ CHr Z EL s.vm s.heap U'.vm U'.heap ∧ ReturnedEndW s o U' L C S) (T.setTop (mkF m pc Ls (.int z :: rest))) :=
  own_retH X (fun h => by rw [hret] at h; cases h) hlk (fun fs hr => retOut X hx hret rfl (Or.inl ⟨rfl, Or.inl rfl, z, rfl⟩) hd hr) hS₁ hn₁ hQ hF hC hS
theorem own_retLH {Q : Option Value → Heap → List Loc → Prop} {C S : Nat} {vm₁ : Vm} {n : Nat} {Z : State} {EL : List (String × Nat)} (X : Stand p l e R (s.setVm vm₁) m args below meth c T locs cells slots) (hx : p.tables.exec = Jvm.exec) {pc : Nat} {Ls : Array Slot} {z : Int64} {rest : List Value} (hret : meth.sig.returnType = some .long)
    (hd : decode c.code pc = .ok (.lreturn, 1)) (hS₁ : s.Since vm₁ n) (hn₁ : n ≤ T.heap.size) (hQ : Q (some (.long z)) T.heap locs) (hF : CHr Z EL s.vm s.heap T.vm T.heap) (hC : cells ≤ C) (hS : slots ≤ S) (hlk : meth.locks = false := by assumption) :
    own_Go p e below (fun o U' => ∃ v L, o = .returned v ∧ Q v U'.heap L ∧ CHr Z EL s.vm s.heap U'.vm U'.heap ∧ ReturnedEndW s o U' L C S) (T.setTop (mkF m pc Ls (.long z :: rest))) :=
  own_retH X (fun h => by rw [hret] at h; cases h) hlk (fun fs hr => retOut X hx hret rfl (Or.inr (Or.inl ⟨rfl, rfl, z, rfl⟩)) hd hr) hS₁ hn₁ hQ hF hC hS
theorem own_retAH {Q : Option Value → Heap → List Loc → Prop} {C S : Nat} {vm₁ : Vm} {n : Nat} {Z : State} {EL : List (String × Nat)} (X : Stand p l e R (s.setVm vm₁) m args below meth c T locs cells slots) (hx : p.tables.exec = Jvm.exec) {pc : Nat} {Ls : Array Slot} {w : Value} {t : FieldType} {rest : List Value} (hret : meth.sig.returnType = some t) (ht : t.isReference = true) (hw : w.isRef = true)
    (hd : decode c.code pc = .ok (.areturn, 1)) (hS₁ : s.Since vm₁ n) (hn₁ : n ≤ T.heap.size) (hQ : Q (some w) T.heap locs) (hF : CHr Z EL s.vm s.heap T.vm T.heap) (hC : cells ≤ C) (hS : slots ≤ S) (hlk : meth.locks = false := by assumption) :
    own_Go p e below (fun o U' => ∃ v L, o = .returned v ∧ Q v U'.heap L ∧ CHr Z EL s.vm s.heap U'.vm U'.heap ∧ ReturnedEndW s o U' L C S) (T.setTop (mkF m pc Ls (w :: rest))) :=
  own_retH X (fun h => by rw [hret] at h; cases h) hlk (fun fs hr => retOut X hx hret (by cases t <;> first | (cases ht; done) | rfl) (Or.inr (Or.inr (Or.inr (Or.inr ⟨rfl, ht, hw⟩)))) hd hr) hS₁ hn₁ hQ hF hC hS
theorem own_ret0H {Q : Option Value → Heap → List Loc → Prop} {C S : Nat} {vm₁ : Vm} {n : Nat} {Z : State} {EL : List (String × Nat)} (X : Stand p l e R (s.setVm vm₁) m args below meth c T locs cells slots) (hx : p.tables.exec = Jvm.exec) {pc : Nat} {Ls : Array Slot} (hret : meth.sig.returnType = none)
    (hd : decode c.code pc = .ok (.return_, 1)) (hS₁ : s.Since vm₁ n) (hn₁ : n ≤ T.heap.size) (hQ : Q none T.heap locs) (hF : CHr Z EL s.vm s.heap T.vm T.heap) (hC : cells ≤ C) (hS : slots ≤ S) (hlk : meth.locks = false := by assumption) :
    own_Go p e below (fun o U' => ∃ v L, o = .returned v ∧ Q v U'.heap L ∧ CHr Z EL s.vm s.heap U'.vm U'.heap ∧ ReturnedEndW s o U' L C S) (T.setTop (mkF m pc Ls [])) :=
  own_retH X (fun _ => rfl) hlk (fun fs hr => X.returnOut hx hret hd hr) hS₁ hn₁ hQ hF hC hS
theorem own_cat1 {v : Value} (h : v.isRef = true) : v.category = 1 := by cases v <;> simp_all [Value.isRef, Value.category]
theorem own_st1 {L L' : Array Slot} {i : Nat} {v : Value} {o : Slot} (hold : L[i]? = some o) (ho : o = .unset ∨ ∃ w, o = .val w ∧ w.category = 1) (hv : v.category = 1) (q : L.setIfInBounds i (.val v) = L' := by rfl) : storeLocals L i v = some L' := q ▸ XS.store1 hold ho hv
theorem own_fits {v : Value} {t : FieldType} (h : v.isRef = true) (ht : t.isReference = true) : fits t v = true := by cases t <;> first | (cases ht; done) | (cases v <;> simp_all [Value.isRef, fits])
theorem own_frm {k k' : Nat} {L : List Loc} (N : Fr k L) (h : k' ≤ k) : Fr k' L := fun y hy => Nat.le_trans h (N y hy)
theorem own_lsw {g : JFrame} {target : State} (X : Stand p l e R s m args below meth c T locs cells slots) (hx : p.tables.exec = Jvm.exec) (hg : g.method = m) {df : Int} {prs : Array (Int × Int)} {len : Nat} {x : Int32} {rest : List Value} {o : Int} {pc0 pc' : Nat} (hpc : g.pc = pc0)
    (hd : decode c.code g.pc = .ok (.lookupswitch df prs, len)) (hs : g.stack = .int x :: rest) (hsrt : (prs.toList.zip (prs.toList.drop 1)).all (fun (a, next) => a.1 < next.1) = true) (hf : lookupswitch.offset prs.toList df x.toInt = o) (ho : 0 ≤ (pc0 : Int) + o) (hp : ((pc0 : Int) + o).toNat = pc')
    (hr : Steps p.tables e below (T.setTop { g with pc := pc', stack := rest }) target) : Steps p.tables e below (T.setTop g) target := by
  subst hg hpc hp
  jvm_step X.here [X.here.top, hx, hd, hs, lookupswitch.wp_chain, hf, ho]
  first | exact hr | exact ⟨by simpa using hsrt, hr⟩
theorem own_backH {Z : State} {a0 : Array Value} {EL : List (String × Nat)} {h : Heap} {vm0 : Vm} {y : MethodName} {bytes : ByteArray} {maxL : Nat} {ret : Option FieldType} {rm : Room} {len W : Nat} {as' : Array Value} {sf : List Addr} {Q : Option Value → Heap → List Loc → Prop}
    (hM : MetFree l y (head1 [Cond.code y bytes maxL ret] rm) (fun a U => a = as' ∧ Z.Warmed39 U.vm ∧ U.heap = h ∧ CHv Z EL U.vm h ∧ ∀ x ∈ sf, Safe Z EL U.vm h x) (fun _ _ _ _ _ => True) (fun _ U o U' => ∃ v L, o = .returned v ∧ Q v U'.heap L ∧ CHr Z EL U.vm U.heap U'.vm U'.heap ∧ ReturnedEndW U o U' L rm.cells rm.slots))
    (hZ : Z.Warmed39 vm0) (wc : (Cond.code y bytes maxL ret).before a0 Z = true) (wz : (Cond.initialized y.cls).before a0 Z = true) (hf : rm.frames + 1 ≤ R.frames) (hl : W + (maxL + 11) + rm.locals ≤ R.locals) (hEL : EW Z a0 EL) (H : CHv Z EL vm0 h) (hsf : ∀ x ∈ sf, x < h.size ∧ Safe Z EL vm0 h x) :
    BackS l R p e below (s.setVm vm0) args y len W (fun A a => a = as' ∧ A.U.heap = h ∧ A.cells + rm.cells ≤ R.cells ∧ A.slots + rm.slots ≤ R.slots)
      (fun A _ v B => ∃ L, Q v B.U.heap L ∧ B.locs = A.locs ++ L ∧ B.cells = A.cells + rm.cells ∧ B.slots = A.slots + rm.slots ∧ CHr Z EL vm0 h B.U.vm B.U.heap) := by
  refine BackS.of_freeW (bytes := bytes) (maxL := maxL) (ret := ret) (E := fun _ first o t L k n => (k = rm.cells ∧ n = rm.slots) ∧ CHr Z EL first.vm first.heap t.vm t.heap ∧ ∃ v, o = .returned v ∧ Q v t.heap L) hM hf hl ?_ ?_ (fun _ _ _ _ _ _ _ _ _ => trivial) ?_ ?_
  · intro m meth c A a Y hp
    have hU : Z.Warmed39 A.U.vm := wtrans (s := s.setVm vm0) hZ Y.warmed
    exact ⟨by show (Cond.and _ .tt).before a A.U = true; rw [Cond.before_and, mv hU wc]; rfl, mv hU wc, mv hU wz, hp.2.2.1, hp.2.2.2⟩
  · intro m meth c A a g mk Y hp
    have q := CHv.at Y hZ hEL H
    exact ⟨hp.1, wtrans (s := s.setVm vm0) hZ Y.warmed, hp.2.1, q.1, fun x hx => q.safe (hsf x hx).1 (hsf x hx).2⟩
  · rintro _ _ _ _ ⟨v, L, h1, h2, h3, h4⟩
    exact ⟨L, _, _, h4, ⟨rfl, rfl⟩, h3, v, h1, h2⟩
  · rintro m meth c A a g mk v t L k n Y hp _ _ ⟨⟨e1, e2⟩, e5, v', e3, e4⟩
    cases e3
    subst e1 e2
    have q := (CHv.at Y hZ hEL H).trans (vm2 := t.vm) (h2 := t.heap) (by rw [← hp.2.1]; exact e5)
    exact ⟨L, e4, rfl, rfl, rfl, q⟩
end Own
def own_F : Int64 := -62167219200
def own_E : Int64 := 253402300799
def own_w (k : Int64) : Int32 := if k < -62167219200 then 0 else if (253402300799 : Int64) < k then 0 else 1
def own_Qw (k : Int64) (h0 : Heap) (n0 : Nat) (v : Option Value) (h : Heap) (L : List Loc) : Prop := v = some (.int (own_w k)) ∧ Fr n0 L ∧ h = h0
theorem d1_0 : decode prog_139_method_13_code 0 = .ok (.lload_n 0, 1) := by decide +kernel
theorem d1_1 : decode prog_139_method_13_code 1 = .ok (.getstatic 159, 3) := by decide +kernel
theorem d1_4 : decode prog_139_method_13_code 4 = .ok (.lcmp, 1) := by decide +kernel
theorem d1_5 : decode prog_139_method_13_code 5 = .ok (.ifCond .lt 15, 3) := by decide +kernel
theorem d1_8 : decode prog_139_method_13_code 8 = .ok (.lload_n 0, 1) := by decide +kernel
theorem d1_9 : decode prog_139_method_13_code 9 = .ok (.getstatic 163, 3) := by decide +kernel
theorem d1_12 : decode prog_139_method_13_code 12 = .ok (.lcmp, 1) := by decide +kernel
theorem d1_13 : decode prog_139_method_13_code 13 = .ok (.ifCond .gt 7, 3) := by decide +kernel
theorem d1_16 : decode prog_139_method_13_code 16 = .ok (.iconst 1, 1) := by decide +kernel
theorem d1_17 : decode prog_139_method_13_code 17 = .ok (.goto 4, 3) := by decide +kernel
theorem d1_20 : decode prog_139_method_13_code 20 = .ok (.iconst 0, 1) := by decide +kernel
theorem d1_21 : decode prog_139_method_13_code 21 = .ok (.ireturn, 1) := by decide +kernel
theorem pn1 : plainName "com/example/convoke/convoke/recurrence/Timeline" = true := by first | (simp [plainName, overriddenIn]; done) | decide +kernel
theorem ef1 (m : MethodId) (x0 : Int64) : entryFrame m #[(.long x0)] 2 = mkF m 0 #[.val (.long x0), .second] [] := by first | (simp [entryFrame, mkF, argsToLocals, Value.category]; done) | rfl
set_option maxRecDepth 65536 in
set_option maxHeartbeats 40000000 in
theorem rm1 (l : Launch) (Z : State) (a0 : Array Value) (hw : ∀ d ∈ tables_1, d.before a0 Z = true) (ws : List Jvm.Cond) (q : Int64) (h0 : Heap) (n0 : Nat) (Z0 : n0 ≤ h0.size) (SF : Sta Z h0 "com/example/convoke/convoke/recurrence/Timeline" "FIRST" "J" (.long (-62167219200 : Int64))) (SE : Sta Z h0 "com/example/convoke/convoke/recurrence/Timeline" "LAST" "J" (.long (253402300799 : Int64))) :
    MetFree l (⟨"com/example/convoke/convoke/recurrence/Timeline", "isWritable", "(J)Z"⟩ : MethodName) (head1 (Jvm.Cond.code (⟨"com/example/convoke/convoke/recurrence/Timeline", "isWritable", "(J)Z"⟩ : MethodName) prog_139_method_13_code 2 (some .boolean) :: ws) ({ frames := 0, cells := 0, slots := 0, locals := 0 } : Room)) (fun a U => a = #[(.long q)] ∧ Z.Warmed39 U.vm ∧ U.heap = h0) (fun _ _ _ _ _ => True) (fun _ U o U' => ∃ v L, o = .returned v ∧ own_Qw q h0 n0 v U'.heap L ∧ FrameEnd U o U' L ({ frames := 0, cells := 0, slots := 0, locals := 0 } : Room).cells ({ frames := 0, cells := 0, slots := 0, locals := 0 } : Room).slots) := by
  refine MetFree.of_bodySF (plainFor_of_name pn1) hisR ?_
  intro p e s m args below meth c s₁ Bd hml0 hP hK
  obtain ⟨rfl, hZ, hh⟩ := hP
  have hx := Bd.exec
  have hby := Bd.bytes
  have hml : c.maxLocals = 2 := hml0
  have hown : s.vm.findClass "com/example/convoke/convoke/recurrence/Timeline" = some m.cls := findClass_of_methodNamed Bd.named
  have hnm := (name_of_methodNamed Bd.named Bd.method).1
  have hlk : meth.locks = false := Bd.notSynchronized
  have X0 : Stand p l e ({ frames := 0, cells := 0, slots := 0, locals := 0 } : Room) s m #[(.long q)] below meth c s₁ [] 0 0 := Stand.of_body Bd
  have e0 : s₁.heap = h0 := by rw [← hh, Bd.state]; rfl
  have N0 := Fr.nil n0
  refine own_go (fun t k => castTop (ef1 m q) k) ?_
  show own_Go p e below _ (s₁.setTop (mkF m 0 #[.val (.long q), .second] []))
  refine own_go (fun t k => XS.lloadN X0.here hx rfl (hb hby d1_0) rfl k) ?_
  show own_Go p e below _ (s₁.setTop (mkF m 1 #[.val (.long q), .second] [(.long q)]))
  obtain ⟨T1, X1, e1, st1⟩ := getS2 X0 hx hZ hown (host := "") (Or.inl (hw _ (List.mem_of_getElem? (i := 5) rfl))) Via.refl e0 SF (g := (mkF m 1 #[.val (.long q), .second] [(.long q)])) rfl (hb hby d1_1)
  refine own_go (fun t k => st1 t k) ?_
  show own_Go p e below _ (T1.setTop (mkF m 4 #[.val (.long q), .second] [(.long (-62167219200 : Int64)), (.long q)]))
  refine own_go (fun t k => XS.lcmp X1.here hx rfl (hb hby d1_4) rfl k) ?_
  show own_Go p e below _ (T1.setTop (mkF m 5 #[.val (.long q), .second] [(.int (lcmpW q (-62167219200 : Int64)))]))
  by_cases hc5 : (lcmpW q (-62167219200 : Int64)) < (0 : Int32)
  · refine own_go (fun t k => XS.ifYes X1.here hx rfl (pc0 := 5) (pc' := 20) rfl (hb hby d1_5) rfl ((if0 _ _).trans (tlt hc5).1) (by decide) (by decide) k) ?_
    show own_Go p e below _ (T1.setTop (mkF m 20 #[.val (.long q), .second] []))
    refine own_go (fun t k => XS.iconst X1.here hx rfl (hb hby d1_20) k) ?_
    show own_Go p e below _ (T1.setTop (mkF m 21 #[.val (.long q), .second] [(.int (0 : Int32))]))
    exact own_retN X1 hx (t := .boolean) Bd.returns (by simp) (hb hby d1_21) (by rw [e1]; exact ⟨by simp only [lw_lt, lw_gt] at hc5; simp [own_w, nar, hc5], N0, rfl⟩) (by decide) (by decide)
  · refine own_go (fun t k => XS.ifNo X1.here hx rfl (hb hby d1_5) rfl ((if0 _ _).trans (flt hc5).1) k) ?_
    show own_Go p e below _ (T1.setTop (mkF m 8 #[.val (.long q), .second] []))
    refine own_go (fun t k => XS.lloadN X1.here hx rfl (hb hby d1_8) rfl k) ?_
    show own_Go p e below _ (T1.setTop (mkF m 9 #[.val (.long q), .second] [(.long q)]))
    obtain ⟨T2, X2, e2, st2⟩ := getS2 X1 hx hZ hown (host := "") (Or.inl (hw _ (List.mem_of_getElem? (i := 7) rfl))) Via.refl e1 SE (g := (mkF m 9 #[.val (.long q), .second] [(.long q)])) rfl (hb hby d1_9)
    refine own_go (fun t k => st2 t k) ?_
    show own_Go p e below _ (T2.setTop (mkF m 12 #[.val (.long q), .second] [(.long (253402300799 : Int64)), (.long q)]))
    refine own_go (fun t k => XS.lcmp X2.here hx rfl (hb hby d1_12) rfl k) ?_
    show own_Go p e below _ (T2.setTop (mkF m 13 #[.val (.long q), .second] [(.int (lcmpW q (253402300799 : Int64)))]))
    by_cases hc13 : (0 : Int32) < (lcmpW q (253402300799 : Int64))
    · refine own_go (fun t k => XS.ifYes X2.here hx rfl (pc0 := 13) (pc' := 20) rfl (hb hby d1_13) rfl ((if0 _ _).trans (tlt hc13).2.2.1) (by decide) (by decide) k) ?_
      show own_Go p e below _ (T2.setTop (mkF m 20 #[.val (.long q), .second] []))
      refine own_go (fun t k => XS.iconst X2.here hx rfl (hb hby d1_20) k) ?_
      show own_Go p e below _ (T2.setTop (mkF m 21 #[.val (.long q), .second] [(.int (0 : Int32))]))
      exact own_retN X2 hx (t := .boolean) Bd.returns (by simp) (hb hby d1_21) (by rw [e2]; exact ⟨by simp only [lw_lt, lw_gt] at hc5 hc13; simp [own_w, nar, hc5, hc13], N0, rfl⟩) (by decide) (by decide)
    · refine own_go (fun t k => XS.ifNo X2.here hx rfl (hb hby d1_13) rfl ((if0 _ _).trans (flt hc13).2.2.1) k) ?_
      show own_Go p e below _ (T2.setTop (mkF m 16 #[.val (.long q), .second] []))
      refine own_go (fun t k => XS.iconst X2.here hx rfl (hb hby d1_16) k) ?_
      show own_Go p e below _ (T2.setTop (mkF m 17 #[.val (.long q), .second] [(.int (1 : Int32))]))
      refine own_go (fun t k => XS.goto X2.here hx rfl (pc0 := 17) (pc' := 21) rfl (hb hby d1_17) (by decide) (by decide) k) ?_
      show own_Go p e below _ (T2.setTop (mkF m 21 #[.val (.long q), .second] [(.int (1 : Int32))]))
      exact own_retN X2 hx (t := .boolean) Bd.returns (by simp) (hb hby d1_21) (by rw [e2]; exact ⟨by simp only [lw_lt, lw_gt] at hc5 hc13; simp [own_w, nar, hc5, hc13], N0, rfl⟩) (by decide) (by decide)
theorem d2_0 : decode method_2_code 0 = .ok (.lload_n 0, 1) := by decide +kernel
theorem d2_1 : decode method_2_code 1 = .ok (.ldc2_w 7, 3) := by decide +kernel
theorem d2_4 : decode method_2_code 4 = .ok (.lcmp, 1) := by decide +kernel
theorem d2_5 : decode method_2_code 5 = .ok (.ifCond .lt 15, 3) := by decide +kernel
theorem d2_8 : decode method_2_code 8 = .ok (.lload_n 0, 1) := by decide +kernel
theorem d2_9 : decode method_2_code 9 = .ok (.ldc2_w 9, 3) := by decide +kernel
theorem d2_12 : decode method_2_code 12 = .ok (.lcmp, 1) := by decide +kernel
theorem d2_13 : decode method_2_code 13 = .ok (.ifCond .gt 7, 3) := by decide +kernel
theorem d2_16 : decode method_2_code 16 = .ok (.iconst 1, 1) := by decide +kernel
theorem d2_17 : decode method_2_code 17 = .ok (.goto 4, 3) := by decide +kernel
theorem d2_20 : decode method_2_code 20 = .ok (.iconst 0, 1) := by decide +kernel
theorem d2_21 : decode method_2_code 21 = .ok (.ireturn, 1) := by decide +kernel
theorem pn2 : plainName "com/example/convoke/convoke/recurrence/TimelineIsWritablePinLaw" = true := by first | (simp [plainName, overriddenIn]; done) | decide +kernel
theorem ef2 (m : MethodId) (x0 : Int64) : entryFrame m #[(.long x0)] 2 = mkF m 0 #[.val (.long x0), .second] [] := by first | (simp [entryFrame, mkF, argsToLocals, Value.category]; done) | rfl
set_option maxRecDepth 65536 in
set_option maxHeartbeats 40000000 in
theorem rm2 (l : Launch) (Z : State) (a0 : Array Value) (hw : ∀ d ∈ tables_1, d.before a0 Z = true) (ws : List Jvm.Cond) (q : Int64) (h0 : Heap) (n0 : Nat) (Z0 : n0 ≤ h0.size)  :
    MetFree l (⟨"com/example/convoke/convoke/recurrence/TimelineIsWritablePinLaw", "expected", "(J)Z"⟩ : MethodName) (head1 (Jvm.Cond.code (⟨"com/example/convoke/convoke/recurrence/TimelineIsWritablePinLaw", "expected", "(J)Z"⟩ : MethodName) method_2_code 2 (some .boolean) :: ws) ({ frames := 0, cells := 0, slots := 0, locals := 0 } : Room)) (fun a U => a = #[(.long q)] ∧ Z.Warmed39 U.vm ∧ U.heap = h0) (fun _ _ _ _ _ => True) (fun _ U o U' => ∃ v L, o = .returned v ∧ own_Qw q h0 n0 v U'.heap L ∧ FrameEnd U o U' L ({ frames := 0, cells := 0, slots := 0, locals := 0 } : Room).cells ({ frames := 0, cells := 0, slots := 0, locals := 0 } : Room).slots) := by
  refine MetFree.of_bodySF (plainFor_of_name pn2) hisR ?_
  intro p e s m args below meth c s₁ Bd hml0 hP hK
  obtain ⟨rfl, hZ, hh⟩ := hP
  have hx := Bd.exec
  have hby := Bd.bytes
  have hml : c.maxLocals = 2 := hml0
  have hown : s.vm.findClass "com/example/convoke/convoke/recurrence/TimelineIsWritablePinLaw" = some m.cls := findClass_of_methodNamed Bd.named
  have hnm := (name_of_methodNamed Bd.named Bd.method).1
  have hlk : meth.locks = false := Bd.notSynchronized
  have X0 : Stand p l e ({ frames := 0, cells := 0, slots := 0, locals := 0 } : Room) s m #[(.long q)] below meth c s₁ [] 0 0 := Stand.of_body Bd
  have e0 : s₁.heap = h0 := by rw [← hh, Bd.state]; rfl
  have N0 := Fr.nil n0
  refine own_go (fun t k => castTop (ef2 m q) k) ?_
  show own_Go p e below _ (s₁.setTop (mkF m 0 #[.val (.long q), .second] []))
  refine own_go (fun t k => XS.lloadN X0.here hx rfl (hb hby d2_0) rfl k) ?_
  show own_Go p e below _ (s₁.setTop (mkF m 1 #[.val (.long q), .second] [(.long q)]))
  refine own_go (fun t k => X0.ldc2Long hx hown (mvT hZ (hw _ (List.mem_of_getElem? (i := 13) rfl))) (g := (mkF m 1 #[.val (.long q), .second] [(.long q)])) rfl (hb hby d2_1) t k) ?_
  show own_Go p e below _ (s₁.setTop (mkF m 4 #[.val (.long q), .second] [(.long (-62167219200 : Int64)), (.long q)]))
  refine own_go (fun t k => XS.lcmp X0.here hx rfl (hb hby d2_4) rfl k) ?_
  show own_Go p e below _ (s₁.setTop (mkF m 5 #[.val (.long q), .second] [(.int (lcmpW q (-62167219200 : Int64)))]))
  by_cases hc5 : (lcmpW q (-62167219200 : Int64)) < (0 : Int32)
  · refine own_go (fun t k => XS.ifYes X0.here hx rfl (pc0 := 5) (pc' := 20) rfl (hb hby d2_5) rfl ((if0 _ _).trans (tlt hc5).1) (by decide) (by decide) k) ?_
    show own_Go p e below _ (s₁.setTop (mkF m 20 #[.val (.long q), .second] []))
    refine own_go (fun t k => XS.iconst X0.here hx rfl (hb hby d2_20) k) ?_
    show own_Go p e below _ (s₁.setTop (mkF m 21 #[.val (.long q), .second] [(.int (0 : Int32))]))
    exact own_retN X0 hx (t := .boolean) Bd.returns (by simp) (hb hby d2_21) (by rw [e0]; exact ⟨by simp only [lw_lt, lw_gt] at hc5; simp [own_w, nar, hc5], N0, rfl⟩) (by decide) (by decide)
  · refine own_go (fun t k => XS.ifNo X0.here hx rfl (hb hby d2_5) rfl ((if0 _ _).trans (flt hc5).1) k) ?_
    show own_Go p e below _ (s₁.setTop (mkF m 8 #[.val (.long q), .second] []))
    refine own_go (fun t k => XS.lloadN X0.here hx rfl (hb hby d2_8) rfl k) ?_
    show own_Go p e below _ (s₁.setTop (mkF m 9 #[.val (.long q), .second] [(.long q)]))
    refine own_go (fun t k => X0.ldc2Long hx hown (mvT hZ (hw _ (List.mem_of_getElem? (i := 0) rfl))) (g := (mkF m 9 #[.val (.long q), .second] [(.long q)])) rfl (hb hby d2_9) t k) ?_
    show own_Go p e below _ (s₁.setTop (mkF m 12 #[.val (.long q), .second] [(.long (253402300799 : Int64)), (.long q)]))
    refine own_go (fun t k => XS.lcmp X0.here hx rfl (hb hby d2_12) rfl k) ?_
    show own_Go p e below _ (s₁.setTop (mkF m 13 #[.val (.long q), .second] [(.int (lcmpW q (253402300799 : Int64)))]))
    by_cases hc13 : (0 : Int32) < (lcmpW q (253402300799 : Int64))
    · refine own_go (fun t k => XS.ifYes X0.here hx rfl (pc0 := 13) (pc' := 20) rfl (hb hby d2_13) rfl ((if0 _ _).trans (tlt hc13).2.2.1) (by decide) (by decide) k) ?_
      show own_Go p e below _ (s₁.setTop (mkF m 20 #[.val (.long q), .second] []))
      refine own_go (fun t k => XS.iconst X0.here hx rfl (hb hby d2_20) k) ?_
      show own_Go p e below _ (s₁.setTop (mkF m 21 #[.val (.long q), .second] [(.int (0 : Int32))]))
      exact own_retN X0 hx (t := .boolean) Bd.returns (by simp) (hb hby d2_21) (by rw [e0]; exact ⟨by simp only [lw_lt, lw_gt] at hc5 hc13; simp [own_w, nar, hc5, hc13], N0, rfl⟩) (by decide) (by decide)
    · refine own_go (fun t k => XS.ifNo X0.here hx rfl (hb hby d2_13) rfl ((if0 _ _).trans (flt hc13).2.2.1) k) ?_
      show own_Go p e below _ (s₁.setTop (mkF m 16 #[.val (.long q), .second] []))
      refine own_go (fun t k => XS.iconst X0.here hx rfl (hb hby d2_16) k) ?_
      show own_Go p e below _ (s₁.setTop (mkF m 17 #[.val (.long q), .second] [(.int (1 : Int32))]))
      refine own_go (fun t k => XS.goto X0.here hx rfl (pc0 := 17) (pc' := 21) rfl (hb hby d2_17) (by decide) (by decide) k) ?_
      show own_Go p e below _ (s₁.setTop (mkF m 21 #[.val (.long q), .second] [(.int (1 : Int32))]))
      exact own_retN X0 hx (t := .boolean) Bd.returns (by simp) (hb hby d2_21) (by rw [e0]; exact ⟨by simp only [lw_lt, lw_gt] at hc5 hc13; simp [own_w, nar, hc5, hc13], N0, rfl⟩) (by decide) (by decide)
theorem pn0 : plainName "com/example/convoke/convoke/recurrence/TimelineIsWritablePinLaw" = true := by first | (simp [plainName, overriddenIn]; done) | decide +kernel
theorem pd0_0 : parseMethodDescriptor "(J)Z" = some ⟨[.long], some .boolean⟩ := by decide +kernel
theorem ef0 (m : MethodId) (x0 : Int64) (x1 : Int32) (x2 : Int32) : entryFrame m #[(.long x0), (.int x1), (.int x2)] maxLocals = mkF m 0 #[.val (.long x0), .second, .val (.int x1), .val (.int x2), .unset, .unset, .unset, .unset, .unset] [] := by first | (simp [entryFrame, mkF, argsToLocals, Value.category, maxLocals]; done) | rfl
def own_Q1 (n0 : Nat) (v : Option Value) (h : Heap) (L : List Loc) : Prop := v = some (.int 1) ∧ Fr n0 L
set_option maxRecDepth 65536 in
set_option maxHeartbeats 40000000 in
theorem rm0 (l : Launch) (Z : State) (a0 : Array Value) (hw : ∀ d ∈ tables_1, d.before a0 Z = true) (ws : List Jvm.Cond) (q : Int64) (p1 p2 : Int32) (h0 : Heap) (n0 : Nat) (Z0 : n0 ≤ h0.size) (SF : Sta Z h0 "com/example/convoke/convoke/recurrence/Timeline" "FIRST" "J" (.long (-62167219200 : Int64))) (SE : Sta Z h0 "com/example/convoke/convoke/recurrence/Timeline" "LAST" "J" (.long (253402300799 : Int64))) :
    MetFree l x (head1 (Jvm.Cond.code x code maxLocals ret :: ws) room_1) (fun a U => a = #[(.long q), (.int p1), (.int p2)] ∧ Z.Warmed39 U.vm ∧ U.heap = h0) (fun _ _ _ _ _ => True) (fun _ U o U' => ∃ v L, o = .returned v ∧ own_Q1 n0 v U'.heap L ∧ FrameEnd U o U' L room_1.cells room_1.slots) := by
  refine MetFree.of_bodySF (plainFor_of_name pn0) hisR ?_
  intro p e s m args below meth c s₁ Bd hml0 hP hK
  obtain ⟨rfl, hZ, hh⟩ := hP
  have hx := Bd.exec
  have hby := Bd.bytes
  have hml : c.maxLocals = 9 := hml0
  have hown : s.vm.findClass "com/example/convoke/convoke/recurrence/TimelineIsWritablePinLaw" = some m.cls := findClass_of_methodNamed Bd.named
  have hnm := (name_of_methodNamed Bd.named Bd.method).1
  have hlk : meth.locks = false := Bd.notSynchronized
  have X0 : Stand p l e room_1 s m #[(.long q), (.int p1), (.int p2)] below meth c s₁ [] 0 0 := Stand.of_body Bd
  have e0 : s₁.heap = h0 := by rw [← hh, Bd.state]; rfl
  have N0 := Fr.nil n0
  refine own_go (fun t k => castTop (ef0 m q p1 p2) k) ?_
  have J65 : ∀ (i4 : Int32) (j5 j7 : Int64), own_Go p e below (fun o U' => ∃ v L, o = .returned v ∧ own_Q1 n0 v U'.heap L ∧ FrameEnd s o U' L room_1.cells room_1.slots) (s₁.setTop (mkF m 65 #[.val (.long q), .second, .val (.int p1), .val (.int p2), .val (.int i4), .val (.long j5), .second, .val (.long j7), .second] [])) := by
    intro i4 j5 j7
    show own_Go p e below _ (s₁.setTop (mkF m 65 #[.val (.long q), .second, .val (.int p1), .val (.int p2), .val (.int i4), .val (.long j5), .second, .val (.long j7), .second] []))
    refine own_go (fun t k => XS.lload X0.here hx rfl (hb hby at_65) rfl k) ?_
    show own_Go p e below _ (s₁.setTop (mkF m 67 #[.val (.long q), .second, .val (.int p1), .val (.int p2), .val (.int i4), .val (.long j5), .second, .val (.long j7), .second] [(.long j7)]))
    obtain ⟨_, _, ⟨T1, L1, k1, n1⟩, -, X1, ⟨Lc1, hQ1, l1, y1, z1⟩, st1⟩ := Jvm.LawKit.callS X0 hx (y := (⟨"com/example/convoke/convoke/recurrence/Timeline", "isWritable", "(J)Z"⟩ : MethodName)) hown (mvT hZ (hw _ (List.mem_of_getElem? (i := 1) rfl))) (mvT hZ (hw _ (List.mem_of_getElem? (i := 2) rfl))) (mvT hZ (hw _ (List.mem_of_getElem? (i := 3) rfl))) (mvT hZ (hw _ (List.mem_of_getElem? (i := 4) rfl))) (by decide) (backOf (W := 0) (rm1 l Z a0 hw [] j7 h0 n0 Z0 SF SE) hZ (hw _ (List.mem_of_getElem? (i := 4) rfl)) (hw _ (List.mem_of_getElem? (i := 3) rfl)) (by decide) (by decide)) (g := (mkF m 67 #[.val (.long q), .second, .val (.int p1), .val (.int p2), .val (.int i4), .val (.long j5), .second, .val (.long j7), .second] [(.long j7)])) rfl (by rw [hml]; rfl) (argsL := [(.long j7)]) (rest := []) (lenOf pd0_0 rfl) rfl (by show 2 * 0 + _ ≤ _; exact Nat.le_of_eq rfl) (hb hby at_67) (fun _ _ => ⟨rfl, e0, (by decide : 0 + 0 ≤ _), (by decide : 0 + 0 ≤ _)⟩)
    dsimp only [Pt.U, Pt.locs, Pt.cells, Pt.slots] at X1 l1 y1 z1 st1 hQ1
    subst l1 y1 z1
    obtain ⟨rfl, Nq1, e1⟩ := hQ1
    have N1 := Fr.app N0 Nq1
    refine own_go (fun t k => st1 t k) ?_
    show own_Go p e below _ (T1.setTop (mkF m 70 #[.val (.long q), .second, .val (.int p1), .val (.int p2), .val (.int i4), .val (.long j5), .second, .val (.long j7), .second] [(.int (own_w j7))]))
    refine own_go (fun t k => XS.lload X1.here hx rfl (hb hby at_70) rfl k) ?_
    show own_Go p e below _ (T1.setTop (mkF m 72 #[.val (.long q), .second, .val (.int p1), .val (.int p2), .val (.int i4), .val (.long j5), .second, .val (.long j7), .second] [(.long j7), (.int (own_w j7))]))
    obtain ⟨_, _, ⟨T2, L2, k2, n2⟩, -, X2, ⟨Lc2, hQ2, l2, y2, z2⟩, st2⟩ := Jvm.LawKit.callS X1 hx (y := (⟨"com/example/convoke/convoke/recurrence/TimelineIsWritablePinLaw", "expected", "(J)Z"⟩ : MethodName)) hown (mvT hZ (hw _ (List.mem_of_getElem? (i := 9) rfl))) (mvT hZ (hw _ (List.mem_of_getElem? (i := 10) rfl))) (mvT hZ (hw _ (List.mem_of_getElem? (i := 11) rfl))) (mvT hZ (hw _ (List.mem_of_getElem? (i := 12) rfl))) (by decide) (backOf (W := 1) (rm2 l Z a0 hw [] j7 h0 n0 Z0) hZ (hw _ (List.mem_of_getElem? (i := 12) rfl)) (hw _ (List.mem_of_getElem? (i := 11) rfl)) (by decide) (by decide)) (g := (mkF m 72 #[.val (.long q), .second, .val (.int p1), .val (.int p2), .val (.int i4), .val (.long j5), .second, .val (.long j7), .second] [(.long j7), (.int (own_w j7))])) rfl (by rw [hml]; rfl) (argsL := [(.long j7)]) (rest := [(.int (own_w j7))]) (lenOf pd0_0 rfl) rfl (by show 2 * 0 + _ ≤ _; exact Nat.le_of_eq rfl) (hb hby at_72) (fun _ _ => ⟨rfl, e1, (by decide : 0 + 0 ≤ _), (by decide : 0 + 0 ≤ _)⟩)
    dsimp only [Pt.U, Pt.locs, Pt.cells, Pt.slots] at X2 l2 y2 z2 st2 hQ2
    subst l2 y2 z2
    obtain ⟨rfl, Nq2, e2⟩ := hQ2
    have N2 := Fr.app N1 Nq2
    refine own_go (fun t k => st2 t k) ?_
    show own_Go p e below _ (T2.setTop (mkF m 75 #[.val (.long q), .second, .val (.int p1), .val (.int p2), .val (.int i4), .val (.long j5), .second, .val (.long j7), .second] [(.int (own_w j7)), (.int (own_w j7))]))
    refine own_go (fun t k => XS.icmpNo X2.here hx rfl (hb hby at_75) rfl (teq (rfl : (own_w j7) = (own_w j7))).2 k) ?_
    show own_Go p e below _ (T2.setTop (mkF m 78 #[.val (.long q), .second, .val (.int p1), .val (.int p2), .val (.int i4), .val (.long j5), .second, .val (.long j7), .second] []))
    refine own_go (fun t k => XS.iconst X2.here hx rfl (hb hby at_78) k) ?_
    show own_Go p e below _ (T2.setTop (mkF m 79 #[.val (.long q), .second, .val (.int p1), .val (.int p2), .val (.int i4), .val (.long j5), .second, .val (.long j7), .second] [(.int (1 : Int32))]))
    refine own_go (fun t k => XS.goto X2.here hx rfl (pc0 := 79) (pc' := 83) rfl (hb hby at_79) (by decide) (by decide) k) ?_
    show own_Go p e below _ (T2.setTop (mkF m 83 #[.val (.long q), .second, .val (.int p1), .val (.int p2), .val (.int i4), .val (.long j5), .second, .val (.long j7), .second] [(.int (1 : Int32))]))
    exact own_retN X2 hx (t := .boolean) Bd.returns (by simp) (hb hby at_83) (⟨rfl, N2⟩) (by decide) (by decide)
  show own_Go p e below _ (s₁.setTop (mkF m 0 #[.val (.long q), .second, .val (.int p1), .val (.int p2), .unset, .unset, .unset, .unset, .unset] []))
  refine own_go (fun t k => XS.iloadN X0.here hx rfl (hb hby at_0) rfl k) ?_
  show own_Go p e below _ (s₁.setTop (mkF m 1 #[.val (.long q), .second, .val (.int p1), .val (.int p2), .unset, .unset, .unset, .unset, .unset] [(.int p1)]))
  refine own_go (fun t k => XS.iconst X0.here hx rfl (hb hby at_1) k) ?_
  show own_Go p e below _ (s₁.setTop (mkF m 2 #[.val (.long q), .second, .val (.int p1), .val (.int p2), .unset, .unset, .unset, .unset, .unset] [(.int (3 : Int32)), (.int p1)]))
  refine own_go (fun t k => XS.iand X0.here hx rfl (hb hby at_2) rfl k) ?_
  show own_Go p e below _ (s₁.setTop (mkF m 3 #[.val (.long q), .second, .val (.int p1), .val (.int p2), .unset, .unset, .unset, .unset, .unset] [(.int (p1 &&& (3 : Int32)))]))
  refine own_go (fun t k => XS.istore X0.here hx rfl (hb hby at_3) rfl (l' := #[.val (.long q), .second, .val (.int p1), .val (.int p2), .val (.int (p1 &&& (3 : Int32))), .unset, .unset, .unset, .unset]) rfl k) ?_
  show own_Go p e below _ (s₁.setTop (mkF m 5 #[.val (.long q), .second, .val (.int p1), .val (.int p2), .val (.int (p1 &&& (3 : Int32))), .unset, .unset, .unset, .unset] []))
  refine own_go (fun t k => XS.iloadN X0.here hx rfl (hb hby at_5) rfl k) ?_
  show own_Go p e below _ (s₁.setTop (mkF m 6 #[.val (.long q), .second, .val (.int p1), .val (.int p2), .val (.int (p1 &&& (3 : Int32))), .unset, .unset, .unset, .unset] [(.int p2)]))
  refine own_go (fun t k => XS.sipush X0.here hx rfl (hb hby at_6) k) ?_
  show own_Go p e below _ (s₁.setTop (mkF m 9 #[.val (.long q), .second, .val (.int p1), .val (.int p2), .val (.int (p1 &&& (3 : Int32))), .unset, .unset, .unset, .unset] [(.int (1000 : Int32)), (.int p2)]))
  refine own_go (fun t k => iremM X0 hx rfl (hb hby at_9) rfl (by decide) k) ?_
  show own_Go p e below _ (s₁.setTop (mkF m 10 #[.val (.long q), .second, .val (.int p1), .val (.int p2), .val (.int (p1 &&& (3 : Int32))), .unset, .unset, .unset, .unset] [(.int (p2 % (1000 : Int32)))]))
  refine own_go (fun t k => XS.i2l X0.here hx rfl (hb hby at_10) rfl k) ?_
  show own_Go p e below _ (s₁.setTop (mkF m 11 #[.val (.long q), .second, .val (.int p1), .val (.int p2), .val (.int (p1 &&& (3 : Int32))), .unset, .unset, .unset, .unset] [(.long ((p2 % (1000 : Int32)).toInt64))]))
  refine own_go (fun t k => XS.lstore X0.here hx rfl (hb hby at_11) rfl (l' := #[.val (.long q), .second, .val (.int p1), .val (.int p2), .val (.int (p1 &&& (3 : Int32))), .val (.long ((p2 % (1000 : Int32)).toInt64)), .second, .unset, .unset]) rfl k) ?_
  show own_Go p e below _ (s₁.setTop (mkF m 13 #[.val (.long q), .second, .val (.int p1), .val (.int p2), .val (.int (p1 &&& (3 : Int32))), .val (.long ((p2 % (1000 : Int32)).toInt64)), .second, .unset, .unset] []))
  refine own_go (fun t k => XS.iload X0.here hx rfl (hb hby at_13) rfl k) ?_
  show own_Go p e below _ (s₁.setTop (mkF m 15 #[.val (.long q), .second, .val (.int p1), .val (.int p2), .val (.int (p1 &&& (3 : Int32))), .val (.long ((p2 % (1000 : Int32)).toInt64)), .second, .unset, .unset] [(.int (p1 &&& (3 : Int32)))]))
  by_cases hc15 : (p1 &&& (3 : Int32)) = (0 : Int32)
  · refine own_go (fun t k => XS.ifNo X0.here hx rfl (hb hby at_15) rfl ((if0 _ _).trans (teq hc15).2) k) ?_
    show own_Go p e below _ (s₁.setTop (mkF m 18 #[.val (.long q), .second, .val (.int p1), .val (.int p2), .val (.int (p1 &&& (3 : Int32))), .val (.long ((p2 % (1000 : Int32)).toInt64)), .second, .unset, .unset] []))
    refine own_go (fun t k => XS.lloadN X0.here hx rfl (hb hby at_18) rfl k) ?_
    show own_Go p e below _ (s₁.setTop (mkF m 19 #[.val (.long q), .second, .val (.int p1), .val (.int p2), .val (.int (p1 &&& (3 : Int32))), .val (.long ((p2 % (1000 : Int32)).toInt64)), .second, .unset, .unset] [(.long q)]))
    refine own_go (fun t k => XS.lstore X0.here hx rfl (hb hby at_19) rfl (l' := #[.val (.long q), .second, .val (.int p1), .val (.int p2), .val (.int (p1 &&& (3 : Int32))), .val (.long ((p2 % (1000 : Int32)).toInt64)), .second, .val (.long q), .second]) rfl k) ?_
    show own_Go p e below _ (s₁.setTop (mkF m 21 #[.val (.long q), .second, .val (.int p1), .val (.int p2), .val (.int (p1 &&& (3 : Int32))), .val (.long ((p2 % (1000 : Int32)).toInt64)), .second, .val (.long q), .second] []))
    refine own_go (fun t k => XS.goto X0.here hx rfl (pc0 := 21) (pc' := 65) rfl (hb hby at_21) (by decide) (by decide) k) ?_
    exact J65 _ _ _
  · refine own_go (fun t k => XS.ifYes X0.here hx rfl (pc0 := 15) (pc' := 24) rfl (hb hby at_15) rfl ((if0 _ _).trans (feq hc15).2) (by decide) (by decide) k) ?_
    show own_Go p e below _ (s₁.setTop (mkF m 24 #[.val (.long q), .second, .val (.int p1), .val (.int p2), .val (.int (p1 &&& (3 : Int32))), .val (.long ((p2 % (1000 : Int32)).toInt64)), .second, .unset, .unset] []))
    refine own_go (fun t k => XS.iload X0.here hx rfl (hb hby at_24) rfl k) ?_
    show own_Go p e below _ (s₁.setTop (mkF m 26 #[.val (.long q), .second, .val (.int p1), .val (.int p2), .val (.int (p1 &&& (3 : Int32))), .val (.long ((p2 % (1000 : Int32)).toInt64)), .second, .unset, .unset] [(.int (p1 &&& (3 : Int32)))]))
    refine own_go (fun t k => XS.iconst X0.here hx rfl (hb hby at_26) k) ?_
    show own_Go p e below _ (s₁.setTop (mkF m 27 #[.val (.long q), .second, .val (.int p1), .val (.int p2), .val (.int (p1 &&& (3 : Int32))), .val (.long ((p2 % (1000 : Int32)).toInt64)), .second, .unset, .unset] [(.int (1 : Int32)), (.int (p1 &&& (3 : Int32)))]))
    by_cases hc27 : (p1 &&& (3 : Int32)) = (1 : Int32)
    · refine own_go (fun t k => XS.icmpNo X0.here hx rfl (hb hby at_27) rfl (teq hc27).2 k) ?_
      show own_Go p e below _ (s₁.setTop (mkF m 30 #[.val (.long q), .second, .val (.int p1), .val (.int p2), .val (.int (p1 &&& (3 : Int32))), .val (.long ((p2 % (1000 : Int32)).toInt64)), .second, .unset, .unset] []))
      refine own_go (fun t k => X0.ldc2Long hx hown (mvT hZ (hw _ (List.mem_of_getElem? (i := 13) rfl))) (g := (mkF m 30 #[.val (.long q), .second, .val (.int p1), .val (.int p2), .val (.int (p1 &&& (3 : Int32))), .val (.long ((p2 % (1000 : Int32)).toInt64)), .second, .unset, .unset] [])) rfl (hb hby at_30) t k) ?_
      show own_Go p e below _ (s₁.setTop (mkF m 33 #[.val (.long q), .second, .val (.int p1), .val (.int p2), .val (.int (p1 &&& (3 : Int32))), .val (.long ((p2 % (1000 : Int32)).toInt64)), .second, .unset, .unset] [(.long (-62167219200 : Int64))]))
      refine own_go (fun t k => XS.lload X0.here hx rfl (hb hby at_33) rfl k) ?_
      show own_Go p e below _ (s₁.setTop (mkF m 35 #[.val (.long q), .second, .val (.int p1), .val (.int p2), .val (.int (p1 &&& (3 : Int32))), .val (.long ((p2 % (1000 : Int32)).toInt64)), .second, .unset, .unset] [(.long ((p2 % (1000 : Int32)).toInt64)), (.long (-62167219200 : Int64))]))
      refine own_go (fun t k => XS.ladd X0.here hx rfl (hb hby at_35) rfl k) ?_
      show own_Go p e below _ (s₁.setTop (mkF m 36 #[.val (.long q), .second, .val (.int p1), .val (.int p2), .val (.int (p1 &&& (3 : Int32))), .val (.long ((p2 % (1000 : Int32)).toInt64)), .second, .unset, .unset] [(.long ((-62167219200 : Int64) + ((p2 % (1000 : Int32)).toInt64)))]))
      refine own_go (fun t k => XS.lstore X0.here hx rfl (hb hby at_36) rfl (l' := #[.val (.long q), .second, .val (.int p1), .val (.int p2), .val (.int (p1 &&& (3 : Int32))), .val (.long ((p2 % (1000 : Int32)).toInt64)), .second, .val (.long ((-62167219200 : Int64) + ((p2 % (1000 : Int32)).toInt64))), .second]) rfl k) ?_
      show own_Go p e below _ (s₁.setTop (mkF m 38 #[.val (.long q), .second, .val (.int p1), .val (.int p2), .val (.int (p1 &&& (3 : Int32))), .val (.long ((p2 % (1000 : Int32)).toInt64)), .second, .val (.long ((-62167219200 : Int64) + ((p2 % (1000 : Int32)).toInt64))), .second] []))
      refine own_go (fun t k => XS.goto X0.here hx rfl (pc0 := 38) (pc' := 65) rfl (hb hby at_38) (by decide) (by decide) k) ?_
      exact J65 _ _ _
    · refine own_go (fun t k => XS.icmpYes X0.here hx rfl (pc0 := 27) (pc' := 41) rfl (hb hby at_27) rfl (feq hc27).2 (by decide) (by decide) k) ?_
      show own_Go p e below _ (s₁.setTop (mkF m 41 #[.val (.long q), .second, .val (.int p1), .val (.int p2), .val (.int (p1 &&& (3 : Int32))), .val (.long ((p2 % (1000 : Int32)).toInt64)), .second, .unset, .unset] []))
      refine own_go (fun t k => XS.iload X0.here hx rfl (hb hby at_41) rfl k) ?_
      show own_Go p e below _ (s₁.setTop (mkF m 43 #[.val (.long q), .second, .val (.int p1), .val (.int p2), .val (.int (p1 &&& (3 : Int32))), .val (.long ((p2 % (1000 : Int32)).toInt64)), .second, .unset, .unset] [(.int (p1 &&& (3 : Int32)))]))
      refine own_go (fun t k => XS.iconst X0.here hx rfl (hb hby at_43) k) ?_
      show own_Go p e below _ (s₁.setTop (mkF m 44 #[.val (.long q), .second, .val (.int p1), .val (.int p2), .val (.int (p1 &&& (3 : Int32))), .val (.long ((p2 % (1000 : Int32)).toInt64)), .second, .unset, .unset] [(.int (2 : Int32)), (.int (p1 &&& (3 : Int32)))]))
      by_cases hc44 : (p1 &&& (3 : Int32)) = (2 : Int32)
      · refine own_go (fun t k => XS.icmpNo X0.here hx rfl (hb hby at_44) rfl (teq hc44).2 k) ?_
        show own_Go p e below _ (s₁.setTop (mkF m 47 #[.val (.long q), .second, .val (.int p1), .val (.int p2), .val (.int (p1 &&& (3 : Int32))), .val (.long ((p2 % (1000 : Int32)).toInt64)), .second, .unset, .unset] []))
        refine own_go (fun t k => X0.ldc2Long hx hown (mvT hZ (hw _ (List.mem_of_getElem? (i := 0) rfl))) (g := (mkF m 47 #[.val (.long q), .second, .val (.int p1), .val (.int p2), .val (.int (p1 &&& (3 : Int32))), .val (.long ((p2 % (1000 : Int32)).toInt64)), .second, .unset, .unset] [])) rfl (hb hby at_47) t k) ?_
        show own_Go p e below _ (s₁.setTop (mkF m 50 #[.val (.long q), .second, .val (.int p1), .val (.int p2), .val (.int (p1 &&& (3 : Int32))), .val (.long ((p2 % (1000 : Int32)).toInt64)), .second, .unset, .unset] [(.long (253402300799 : Int64))]))
        refine own_go (fun t k => XS.lload X0.here hx rfl (hb hby at_50) rfl k) ?_
        show own_Go p e below _ (s₁.setTop (mkF m 52 #[.val (.long q), .second, .val (.int p1), .val (.int p2), .val (.int (p1 &&& (3 : Int32))), .val (.long ((p2 % (1000 : Int32)).toInt64)), .second, .unset, .unset] [(.long ((p2 % (1000 : Int32)).toInt64)), (.long (253402300799 : Int64))]))
        refine own_go (fun t k => XS.ladd X0.here hx rfl (hb hby at_52) rfl k) ?_
        show own_Go p e below _ (s₁.setTop (mkF m 53 #[.val (.long q), .second, .val (.int p1), .val (.int p2), .val (.int (p1 &&& (3 : Int32))), .val (.long ((p2 % (1000 : Int32)).toInt64)), .second, .unset, .unset] [(.long ((253402300799 : Int64) + ((p2 % (1000 : Int32)).toInt64)))]))
        refine own_go (fun t k => XS.lstore X0.here hx rfl (hb hby at_53) rfl (l' := #[.val (.long q), .second, .val (.int p1), .val (.int p2), .val (.int (p1 &&& (3 : Int32))), .val (.long ((p2 % (1000 : Int32)).toInt64)), .second, .val (.long ((253402300799 : Int64) + ((p2 % (1000 : Int32)).toInt64))), .second]) rfl k) ?_
        show own_Go p e below _ (s₁.setTop (mkF m 55 #[.val (.long q), .second, .val (.int p1), .val (.int p2), .val (.int (p1 &&& (3 : Int32))), .val (.long ((p2 % (1000 : Int32)).toInt64)), .second, .val (.long ((253402300799 : Int64) + ((p2 % (1000 : Int32)).toInt64))), .second] []))
        refine own_go (fun t k => XS.goto X0.here hx rfl (pc0 := 55) (pc' := 65) rfl (hb hby at_55) (by decide) (by decide) k) ?_
        exact J65 _ _ _
      · refine own_go (fun t k => XS.icmpYes X0.here hx rfl (pc0 := 44) (pc' := 58) rfl (hb hby at_44) rfl (feq hc44).2 (by decide) (by decide) k) ?_
        show own_Go p e below _ (s₁.setTop (mkF m 58 #[.val (.long q), .second, .val (.int p1), .val (.int p2), .val (.int (p1 &&& (3 : Int32))), .val (.long ((p2 % (1000 : Int32)).toInt64)), .second, .unset, .unset] []))
        refine own_go (fun t k => XS.lloadN X0.here hx rfl (hb hby at_58) rfl k) ?_
        show own_Go p e below _ (s₁.setTop (mkF m 59 #[.val (.long q), .second, .val (.int p1), .val (.int p2), .val (.int (p1 &&& (3 : Int32))), .val (.long ((p2 % (1000 : Int32)).toInt64)), .second, .unset, .unset] [(.long q)]))
        refine own_go (fun t k => X0.ldc2Long hx hown (mvT hZ (hw _ (List.mem_of_getElem? (i := 14) rfl))) (g := (mkF m 59 #[.val (.long q), .second, .val (.int p1), .val (.int p2), .val (.int (p1 &&& (3 : Int32))), .val (.long ((p2 % (1000 : Int32)).toInt64)), .second, .unset, .unset] [(.long q)])) rfl (hb hby at_59) t k) ?_
        show own_Go p e below _ (s₁.setTop (mkF m 62 #[.val (.long q), .second, .val (.int p1), .val (.int p2), .val (.int (p1 &&& (3 : Int32))), .val (.long ((p2 % (1000 : Int32)).toInt64)), .second, .unset, .unset] [(.long (400000000000 : Int64)), (.long q)]))
        refine own_go (fun t k => XS.lrem X0.here hx rfl (hb hby at_62) rfl (by decide) k) ?_
        show own_Go p e below _ (s₁.setTop (mkF m 63 #[.val (.long q), .second, .val (.int p1), .val (.int p2), .val (.int (p1 &&& (3 : Int32))), .val (.long ((p2 % (1000 : Int32)).toInt64)), .second, .unset, .unset] [(.long (q - q / (400000000000 : Int64) * (400000000000 : Int64)))]))
        refine own_go (fun t k => XS.lstore X0.here hx rfl (hb hby at_63) rfl (l' := #[.val (.long q), .second, .val (.int p1), .val (.int p2), .val (.int (p1 &&& (3 : Int32))), .val (.long ((p2 % (1000 : Int32)).toInt64)), .second, .val (.long (q - q / (400000000000 : Int64) * (400000000000 : Int64))), .second]) rfl k) ?_
        exact J65 _ _ _
theorem own_eqL {args : Array Value} {first s : State} {o : Option Outcome} {idx : List Nat} {t : Term} {n : Int64} (h : (Jvm.Cond.eq t (.long n)).value args first o s idx = some true) : t.eval args first o idx s = some (.long n) := by
  simp only [Cond.value, Term.eval] at h
  cases ht : t.eval args first o idx s with
  | none => simp [ht] at h
  | some x => cases x <;> simp [ht] at h ⊢ <;> exact h
set_option maxRecDepth 65536 in
set_option maxHeartbeats 40000000 in
theorem comes_1 {Post : Tables → Env → Array Value → State → Outcome → State → Prop} (hpost : ∀ tb e args s v u, (limb_1_1.after args s (.returned v) u = true ∧ limb_1_2.after args s (.returned v) u = true ∧ True) → FrameEnd s (.returned v) u (Jvm.fieldLocs frame_1_writes args s ++ Jvm.arrayLocs frame_1_arrays args s ++ Jvm.staticLocs frame_1_statics s) 0 0 → Post tb e args s (.returned v) u) :
    ArmFor flags0 classFile x code maxLocals ret World_1 tables_1 room_1 Calls_1 rest_1 Pre_1 Post := by
  intro l hfl _ _ p e ha hc hk s m args below hf hA hF happ hP
  obtain ⟨hcalls, hrest, hpre⟩ := hP
  obtain ⟨-, -, -, hnamed, -, -, -, hat⟩ := (Spec.applies_iff hf).mp happ
  obtain ⟨hg, hn⟩ := and_e (Cond.before_iff.mp (show (Jvm.Cond.and given_1 narrow_1).before args s = true from hpre))
  obtain ⟨gc, gr0⟩ := and_e hg
  obtain ⟨ga0, gr1⟩ := and_e gr0
  obtain ⟨ga1, ga2⟩ := and_e gr1
  obtain ⟨w0, w1, w2, rfl⟩ : ∃ w0 w1 w2 : Value, args = #[w0, w1, w2] := by
    have hs : args.size = 3 := by simpa [Cond.value, given_1] using gc
    obtain ⟨L⟩ := args
    match L, hs with
    | [w0, w1, w2], _ => exact ⟨w0, w1, w2, rfl⟩
  have hw := fun d (hd : d ∈ tables_1) => atoms_spec (ws := Jvm.Cond.code x code maxLocals ret :: tables_1) hat d (List.mem_cons_of_mem _ hd)
  have hfit : Fit s := fun {y c} hc i hi => by
    obtain ⟨ha, rfl⟩ := Array.getElem?_eq_some_iff.mp hc
    have q := List.all_eq_true.mp ((Array.all_eq_true_iff_forall_mem.mp hF) _ (Array.getElem_mem ha)) i (List.mem_range.mpr hi)
    simpa [Array.getElem?_eq_getElem hi] using q
  obtain ⟨i0, ei0⟩ := isL_v ga0
  obtain rfl : w0 = (.long i0) := Option.some.inj ei0
  obtain ⟨i1, ei1⟩ := is_v ga1
  obtain rfl : w1 = (.int i1) := Option.some.inj ei1
  obtain ⟨i2, ei2⟩ := is_v ga2
  obtain rfl : w2 = (.int i2) := Option.some.inj ei2
  obtain ⟨hn1, hn2⟩ := and_e hn
  have SF := Sta.start (own_eqL hn1) (Or.inr ⟨(hw _ (List.mem_of_getElem? (i := 3) rfl)), (hw _ (List.mem_of_getElem? (i := 6) rfl))⟩)
  have SE := Sta.start (own_eqL hn2) (Or.inr ⟨(hw _ (List.mem_of_getElem? (i := 3) rfl)), (hw _ (List.mem_of_getElem? (i := 8) rfl))⟩)
  obtain ⟨n, o, h1, h2, h3, _, L, rfl, ⟨rfl, N⟩, hq⟩ := rm0 l s _ hw tables_1 i0 i1 i2 s.heap s.heap.size (Nat.le_refl _) SF SE p e ha hc hk s m _ below hf ((Spec.applies_iff_loose hf).mp happ).1 ⟨rfl, State.Warmed39.refl s, rfl⟩ trivial
  refine ⟨n, _, h1, h2, h3, hpost _ _ _ _ _ _ ⟨Cond.after_iff.mpr rfl, Cond.after_iff.mpr (eq_i res_at (Term.int_eval (1)) rfl), trivial⟩ ⟨hq.1, hq.2.1, (hq.2.2.sift fun y hy => Or.inr (N y hy)).mono (by decide) (by decide)⟩⟩
theorem main_1_1 : Claimed_1_1 := comes_1 fun _ _ _ _ _ _ h hF => ⟨h.1, hF⟩
theorem main_1_2 : Claimed_1_2 := comes_1 fun _ _ _ _ _ _ h hF => ⟨h.2.1, hF⟩
end Jvm.Pilot.@@N@@
namespace Jvm.Pilot.@@N@@
open Jvm Jvm.ClassFile Sem Op Lib Jvm.Free Jvm.Stand Jvm.Pilot.@@N@@.Jvm.D
/-! MADE BY PROGRAM (witnessworld.py) out of the Statement's table words and the real class files: 9 classes; the members and pool entries that the words name. The judged class is class 1, her method 2. -/
namespace start1
open Jvm.ClassFile
def u (s : String) : CpInfo := .utf8 (stringToUtf16 s)
/-- a pool by its gaps: so many unusable entries, then the entry; so many at the end -/
def gap : Nat → List CpInfo → List CpInfo
  | 0, r => r
  | n + 1, r => .unusable :: gap n r
def poolList (es : List (Nat × CpInfo)) (last : Nat) : List CpInfo := es.foldr (fun e r => gap e.1 (e.2 :: r)) (gap last [])
def pool (es : List (Nat × CpInfo)) (last : Nat) : Array CpInfo := ⟨poolList es last⟩
def fileOf (pool : Array CpInfo) (this : Nat) (attrs : Array Attribute := #[]) (ms : Array MethodInfo := #[]) (fl : Nat := 33) (sup : Nat := 0) (ifs : Array Nat := #[]) (fds : Array FieldInfo := #[]) : ClassFile where
  minorVersion := 0
  majorVersion := 65
  constantPool := pool
  accessFlags := fl
  thisClass := this
  superClass := sup
  interfaces := ifs
  fields := fds
  methods := ms
  attributes := attrs
def plain (name : String) (sup : Option ClassId) : Class where
  name := name
  kind := .ordinary
  loader := none
  accessFlags := 33
  super := sup
  interfaces := #[]
  cf := none
  fields := #[]
  methods := #[]
  instanceTypes := #[]
  staticTypes := #[]
  resolved := #[]
  callSites := []
  init := .initialized
  statics := none
  mirror := none

def pool0 : Array CpInfo := pool [(5, u "<init>"), (0, u "()V"), (1, .class_ 10), (1, u "java/lang/Object")] 113

def k0m0 : Method := { name := "<init>", desc := "()V", sig := { parameters := [], returnType := none }, accessFlags := 1, code := none }
/-- java/lang/Object -/
def k0 : Class := { plain "java/lang/Object" none with
  accessFlags := 33
  interfaces := #[]
  cf := some (fileOf pool0 8 #[] #[{ accessFlags := 1, nameIndex := 5, descriptorIndex := 6, attributes := #[] }] 33 0 #[] #[])
  fields := #[]
  methods := #[k0m0]
  instanceTypes := #[]
  staticTypes := #[]
  resolved := Array.replicate 124 none
  statics := none }

def pool1 : Array CpInfo := pool [(2, .class_ 4), (1, u "java/lang/Object"), (0, u "<init>"), (0, u "()V"), (0, .long 18446744011542332416), (1, .long 253402300799), (1, .long 400000000000), (1, .methodref 14 15), (0, .class_ 16), (0, .nameAndType 17 18), (0, u "com/example/convoke/convoke/recurrence/Timeline"), (0, u "isWritable"), (0, u "(J)Z"), (0, .methodref 20 21), (0, .class_ 22), (0, .nameAndType 23 18), (0, u "com/example/convoke/convoke/recurrence/TimelineIsWritablePinLaw"), (0, u "expected"), (3, u "law"), (0, u "(JII)Z")] 2

def k1m0 : Method := { name := "<init>", desc := "()V", sig := { parameters := [], returnType := none }, accessFlags := 1, code := none }
def k1c1 : Code := { maxStack := 4, maxLocals := 2, code := method_2_code, exceptionTable := #[], attributes := #[] }
def k1m1 : Method := { name := "expected", desc := "(J)Z", sig := { parameters := [.long], returnType := some .boolean }, accessFlags := 10, code := some k1c1 }
def k1c2 : Code := { maxStack := 4, maxLocals := 9, code := code, exceptionTable := #[], attributes := #[] }
def k1m2 : Method := { name := "law", desc := "(JII)Z", sig := { parameters := [.long, .int, .int], returnType := some .boolean }, accessFlags := 9, code := some k1c2 }
/-- com/example/convoke/convoke/recurrence/TimelineIsWritablePinLaw -/
def k1 : Class := { plain "com/example/convoke/convoke/recurrence/TimelineIsWritablePinLaw" (some 0) with
  accessFlags := 49
  interfaces := #[]
  cf := some (fileOf pool1 20 #[] #[{ accessFlags := 1, nameIndex := 5, descriptorIndex := 6, attributes := #[] }, { accessFlags := 10, nameIndex := 23, descriptorIndex := 18, attributes := #[] }, { accessFlags := 9, nameIndex := 27, descriptorIndex := 28, attributes := #[] }] 49 2 #[] #[])
  fields := #[]
  methods := #[k1m0, k1m1, k1m2]
  instanceTypes := #[]
  staticTypes := #[]
  resolved := Array.replicate 31 none
  statics := none }

def pool2 : Array CpInfo := pool [(2, .class_ 4), (1, u "java/lang/Object"), (3, .class_ 10), (1, u "com/example/convoke/convoke/recurrence/Timeline"), (0, u "form"), (0, u "Lcom/example/convoke/convoke/icalendar/Moment$Form;"), (2, u "rules"), (0, u "Ljava/time/zone/ZoneRules;"), (2, u "zones"), (0, u "Lcom/example/convoke/convoke/recurrence/Zones;"), (1, .class_ 24), (1, u "com/example/convoke/convoke/recurrence/Timeline$1"), (134, .fieldref 8 160), (0, .nameAndType 161 162), (0, u "FIRST"), (0, u "J"), (0, .fieldref 8 164), (0, .nameAndType 165 162), (0, u "LAST"), (41, u "MOST_OFFSET"), (1, u "SECONDS_PER_DAY"), (13, u "isWritable"), (0, u "(J)Z")] 23

def k2c0 : Code := { maxStack := 4, maxLocals := 2, code := prog_139_method_13_code, exceptionTable := #[], attributes := #[] }
def k2m0 : Method := { name := "isWritable", desc := "(J)Z", sig := { parameters := [.long], returnType := some .boolean }, accessFlags := 8, code := some k2c0 }
/-- com/example/convoke/convoke/recurrence/Timeline -/
def k2 : Class := { plain "com/example/convoke/convoke/recurrence/Timeline" (some 0) with
  accessFlags := 48
  interfaces := #[]
  cf := some (fileOf pool2 8 #[.nestMembers #[22]] #[{ accessFlags := 8, nameIndex := 223, descriptorIndex := 224, attributes := #[] }] 48 2 #[] #[{ accessFlags := 26, nameIndex := 207, descriptorIndex := 162, attributes := #[] }, { accessFlags := 26, nameIndex := 209, descriptorIndex := 162, attributes := #[] }, { accessFlags := 26, nameIndex := 161, descriptorIndex := 162, attributes := #[] }, { accessFlags := 26, nameIndex := 165, descriptorIndex := 162, attributes := #[] }, { accessFlags := 18, nameIndex := 11, descriptorIndex := 12, attributes := #[] }, { accessFlags := 18, nameIndex := 15, descriptorIndex := 16, attributes := #[] }, { accessFlags := 18, nameIndex := 19, descriptorIndex := 20, attributes := #[] }])
  fields := #[{ name := "MOST_OFFSET", type := .long, accessFlags := 26, slot := 0, constantValue := 0 }, { name := "SECONDS_PER_DAY", type := .long, accessFlags := 26, slot := 1, constantValue := 0 }, { name := "FIRST", type := .long, accessFlags := 26, slot := 2, constantValue := 0 }, { name := "LAST", type := .long, accessFlags := 26, slot := 3, constantValue := 0 }, { name := "form", type := (.object "com/example/convoke/convoke/icalendar/Moment$Form"), accessFlags := 18, slot := 0, constantValue := 0 }, { name := "rules", type := (.object "java/time/zone/ZoneRules"), accessFlags := 18, slot := 1, constantValue := 0 }, { name := "zones", type := (.object "com/example/convoke/convoke/recurrence/Zones"), accessFlags := 18, slot := 2, constantValue := 0 }]
  methods := #[k2m0]
  instanceTypes := #[(.object "com/example/convoke/convoke/icalendar/Moment$Form"), (.object "java/time/zone/ZoneRules"), (.object "com/example/convoke/convoke/recurrence/Zones")]
  staticTypes := #[.long, .long, .long, .long]
  resolved := Array.replicate 248 none
  statics := some 0 }

def pool3 : Array CpInfo := pool [(1, u "java/lang/Cloneable"), (0, .class_ 1), (0, u "java/lang/Object"), (0, .class_ 3)] 3

/-- java/lang/Cloneable -/
def k3 : Class := { plain "java/lang/Cloneable" (some 0) with
  accessFlags := 1537
  interfaces := #[]
  cf := some (fileOf pool3 2 #[] #[] 1537 4 #[] #[])
  fields := #[]
  methods := #[]
  instanceTypes := #[]
  staticTypes := #[]
  resolved := Array.replicate 8 none
  statics := none }

def pool4 : Array CpInfo := pool [(1, u "java/io/Serializable"), (0, .class_ 1), (0, u "java/lang/Object"), (0, .class_ 3)] 3

/-- java/io/Serializable -/
def k4 : Class := { plain "java/io/Serializable" (some 0) with
  accessFlags := 1537
  interfaces := #[]
  cf := some (fileOf pool4 2 #[] #[] 1537 4 #[] #[])
  fields := #[]
  methods := #[]
  instanceTypes := #[]
  staticTypes := #[]
  resolved := Array.replicate 8 none
  statics := none }

/-- the primitive byte -/
def k5 : Class := { plain "byte" none with kind := .primitive 'B', accessFlags := 0x411 }
/-- [B -/
def k6 : Class := { plain "[B" (some 0) with kind := .array 5 .byte, interfaces := #[3, 4], accessFlags := 1041 }

/-- the primitive int -/
def k7 : Class := { plain "int" none with kind := .primitive 'I', accessFlags := 0x411 }
/-- [I -/
def k8 : Class := { plain "[I" (some 0) with kind := .array 7 .int, interfaces := #[3, 4], accessFlags := 1041 }

def heap : Heap := #[{ cls := 2, slots := #[.long 0, .long 0, .long (-62167219200), .long 253402300799], vm := .statics 2 }]
def classes : Array Class := #[k0, k1, k2, k3, k4, k5, k6, k7, k8]
def interned : List (Array UInt16 × Addr) := []
def slotsUsed : Nat := 4
def theMethod : MethodId := ⟨1, 2⟩
def args0 : Array Value := #[.long 5, .int 3, .int 7]
def aboutOver (below : List Frame) : State where
  vm := { classes := classes, interned := interned.toArray }
  heap := heap
  slotsUsed := slotsUsed
  threads := #[{ frames := .invoking theMethod args0 :: below }]
def below0 : List Frame := [.native { method := ⟨0, 0⟩, args := #[] }]
def about1 : State := aboutOver below0
def p0 : Program := .bare "" "" ""
def e0 : Env := launch0.env 0 0 0
theorem w_frames : about1.frames = Frame.invoking theMethod args0 :: below0 := rfl
set_option maxRecDepth 65536 in
theorem w_args : argsFit about1.vm theMethod args0 = true := by decide +kernel
set_option maxRecDepth 65536 in
theorem w_heap : heapFits about1 = true := by decide +kernel
set_option maxRecDepth 65536 in
theorem w_runnable : about1.curStatus? = some .runnable := by decide +kernel
set_option maxRecDepth 65536 in
theorem w_alone : about1.alone = true := by decide +kernel
set_option maxRecDepth 65536 in
theorem w_named : about1.methodNamed? x = some theMethod := by decide +kernel
set_option maxRecDepth 65536 in
theorem w_hears : about1.hears theMethod below0 = true := by decide +kernel
set_option maxRecDepth 65536 in
theorem w_ripe : about1.ripe theMethod args0 below0 = true := by decide +kernel
theorem w_running : about1.status = .running := rfl
set_option maxRecDepth 65536 in
theorem w_room : about1.hasRoom e0.platform room_1 = true :=
  launch0.hasRoom_least _ room_1 (by decide +kernel) (by decide +kernel) (by decide +kernel) (by decide +kernel) (by decide +kernel) (by decide +kernel)
theorem allAtoms_all (ts : List Jvm.Cond) (a : Array Jvm.Value) (st : Jvm.State) : (allAtoms ts).before a st = ts.all (fun c => c.before a st) := by
  induction ts with
  | nil => rfl
  | cons c t ih =>
    show (Jvm.Cond.and c (allAtoms t)).before a st = _
    rw [Jvm.Cond.before_and, ih, List.all_cons]
def words1 : List Jvm.Cond := Jvm.Cond.code x code maxLocals ret :: tables_1
/-- a 'code' word, met by the world's own term for the bytes: nothing is compared byte by byte -/
theorem code_word {y : MethodName} {bytes : ByteArray} {mx : Nat} {rt : Option FieldType} {a : Array Value} {s : State} {m : MethodId} {meth : Method} {c : Code} (h1 : s.methodNamed? y = some m) (h2 : s.vm.method? m = some meth) (h3 : meth.code = some c) (h4 : c.code = bytes)
    (h5 : (c.maxLocals == mx && c.exceptionTable.isEmpty && decide (c.maxStack ≤ mostOperands) && decide (meth.sig.returnType = rt) && !meth.locks && decide (parseMethodDescriptor y.desc = some meth.sig)) = true) : (Jvm.Cond.code y bytes mx rt).before a s = true := by
  simp only [Bool.and_eq_true, beq_iff_eq, Bool.not_eq_true', decide_eq_true_eq] at h5
  obtain ⟨⟨⟨⟨⟨g1, g2⟩, g3⟩, g4⟩, g5⟩, g6⟩ := h5
  simp [Cond.before, Cond.holds, Cond.value, h1, h2, h3, h4, g1, g2, g3, g4, g5, g6]
def isCode : Jvm.Cond → Bool
  | .code _ _ _ _ => true
  | _ => false
theorem all_split {L : List Jvm.Cond} {P : Jvm.Cond → Bool} (h1 : L.all (fun c => isCode c || P c) = true) (h2 : ∀ c ∈ L.filter isCode, P c = true) : L.all P = true := by
  refine List.all_eq_true.mpr fun c hc => ?_
  have h := List.all_eq_true.mp h1 c hc
  rcases Bool.eq_false_or_eq_true (isCode c) with hi | hi
  · exact h2 c (List.mem_filter.mpr ⟨hc, hi⟩)
  · simpa [hi] using h
set_option maxRecDepth 65536 in
theorem w_c0 : (Jvm.Cond.code x code maxLocals ret).before args0 about1 = true := code_word (m := ⟨1, 2⟩) (meth := k1m2) (c := k1c2) (by decide +kernel) rfl rfl rfl (by decide +kernel)
set_option maxRecDepth 65536 in
theorem w_c1 : (Jvm.Cond.code ({ cls := "com/example/convoke/convoke/recurrence/Timeline", name := "isWritable", desc := "(J)Z" } : Jvm.MethodName) prog_139_method_13_code (2 : Nat) (Option.some Jvm.ClassFile.FieldType.boolean)).before args0 about1 = true := code_word (m := ⟨2, 0⟩) (meth := k2m0) (c := k2c0) (by decide +kernel) rfl rfl rfl (by decide +kernel)
set_option maxRecDepth 65536 in
theorem w_c2 : (Jvm.Cond.code ({ cls := "com/example/convoke/convoke/recurrence/TimelineIsWritablePinLaw", name := "expected", desc := "(J)Z" } : Jvm.MethodName) method_2_code (2 : Nat) (Option.some Jvm.ClassFile.FieldType.boolean)).before args0 about1 = true := code_word (m := ⟨1, 1⟩) (meth := k1m1) (c := k1c1) (by decide +kernel) rfl rfl rfl (by decide +kernel)
def codes1 : List Jvm.Cond := [Jvm.Cond.code x code maxLocals ret, Jvm.Cond.code ({ cls := "com/example/convoke/convoke/recurrence/Timeline", name := "isWritable", desc := "(J)Z" } : Jvm.MethodName) prog_139_method_13_code (2 : Nat) (Option.some Jvm.ClassFile.FieldType.boolean), Jvm.Cond.code ({ cls := "com/example/convoke/convoke/recurrence/TimelineIsWritablePinLaw", name := "expected", desc := "(J)Z" } : Jvm.MethodName) method_2_code (2 : Nat) (Option.some Jvm.ClassFile.FieldType.boolean)]
set_option maxRecDepth 65536 in
theorem codes_eq : words1.filter isCode = codes1 := rfl
theorem w_codes : ∀ c ∈ words1.filter isCode, c.before args0 about1 = true := by
  rw [codes_eq]
  intro c hc
  simp only [codes1, List.mem_cons, List.not_mem_nil, or_false] at hc
  rcases hc with rfl | rfl | rfl
  · exact w_c0
  · exact w_c1
  · exact w_c2
set_option maxRecDepth 65536 in
theorem w_t1 : words1.all (fun c => isCode c || c.before args0 about1) = true := by decide +kernel
theorem w_tables : (allAtoms (Jvm.Cond.code x code maxLocals ret :: tables_1)).before args0 about1 = true := by
  rw [allAtoms_all]
  show words1.all (fun c => c.before args0 about1) = true
  refine all_split ?_ w_codes
  rw [w_t1]
set_option maxRecDepth 65536 in
theorem w_case : (Jvm.Cond.and given_1 narrow_1).before args0 about1 = true := by decide +kernel
theorem w_applies : (headSpec (Jvm.Cond.code x code maxLocals ret :: tables_1) room_1).applies x e0.platform about1 = true :=
  (Spec.applies_iff w_frames).mpr ⟨w_running, w_runnable, w_alone, w_named, w_hears, w_ripe, w_room, w_tables⟩
theorem atStart : AtStart classFile x code maxLocals ret World_1 tables_1 room_1 Calls_1 rest_1 Pre_1 launch0 p0 e0 about1 theMethod args0 below0 :=
  ⟨lists_1, trivial, launch0.admits_env _ _ _, launch0.least_env, fairChoices_fair.cas, fairChoices_fair.clock, w_frames, w_args, w_heap, w_applies, trivial, trivial, w_case⟩
end start1
theorem witness_1 : WitnessClaimed_1 := ⟨start1.p0, start1.e0, start1.about1, start1.theMethod, start1.args0, start1.below0, start1.atStart⟩
end Jvm.Pilot.@@N@@
