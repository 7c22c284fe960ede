import JvmDerived
import JvmDerived.Pilot.@@N@@Statement
import JvmDerived.Pilot.@@N@@Code
set_option linter.unusedVariables false
set_option linter.unusedSimpArgs false
namespace Jvm.Pilot.@@N@@
open Jvm Jvm.ClassFile Sem Op Lib Jvm.Free Jvm.Stand Jvm.LawKit Jvm.RoadKit Bundle Jvm.Pilot.@@N@@.Jvm.D
section Own
variable {p : Program} {l : Launch} {e : Env} {R : Room} {s : State} {m : MethodId} {args : Array Value} {below : List Frame} {meth : Method} {c : Code} {T : State} {locs : List Loc} {cells slots : Nat}
/-- from S the run ends, and it ends as Q says -/
def own_Go (p : Program) (e : Env) (below : List Frame) (Q : Outcome → State → Prop) (S : State) : Prop := ∃ s₂ o, Steps p.tables e below S s₂ ∧ s₂.status = .running ∧ Ended s₂ below o ∧ Q o s₂
theorem own_go {Q : Outcome → State → Prop} {S S' : State} (h : ∀ t, Steps p.tables e below S' t → Steps p.tables e below S t) (k : own_Go p e below Q S') : own_Go p e below Q S := by
  obtain ⟨s₂, o, h1, h2⟩ := k
  exact ⟨s₂, o, h _ h1, h2⟩
theorem own_ret {Q : Option Value → Heap → List Loc → Prop} {C S : Nat} (X : Stand p l e R s m args below meth c T locs cells slots) {v : Option Value} (hv : meth.sig.returnType = none → v = none) (hlk : meth.locks = false) {S0 : State}
    (hst : ∀ fs, (∀ (f : JFrame) (acts : List Action), f.method = m → f.locked = none → f.entered = [] → (doReturn e (T.setTop f) acts v).1 = T.setFrames fs) → Steps p.tables e below S0 (T.setFrames fs))
    (hQ : Q v T.heap locs) (hC : cells ≤ C) (hS : slots ≤ S) : own_Go p e below (fun o U' => ∃ v L, o = .returned v ∧ Q v U'.heap L ∧ FrameEnd s o U' L C S) S0 := by
  obtain ⟨fs, hr, hrun, hended, hW, hsame⟩ := X.leave (v := v) hv hlk
  exact ⟨_, _, hst fs hr, hrun, hended, _, _, rfl, hQ, ⟨_, rfl⟩, hW, hsame.mono hC hS⟩
theorem own_retN {Q : Option Value → Heap → List Loc → Prop} {C S : Nat} (X : Stand p l e R s m args below meth c T locs cells slots) (hx : p.tables.exec = Jvm.exec) {pc : Nat} {Ls : Array Slot} {z : Int32} {t : FieldType} {rest : List Value} (hret : meth.sig.returnType = some t) (ht : t = .boolean ∨ t = .byte ∨ t = .char ∨ t = .short)
    (hd : decode c.code pc = .ok (.ireturn, 1)) (hQ : Q (some (.int (nar t z))) T.heap locs) (hC : cells ≤ C) (hS : slots ≤ S) (hlk : meth.locks = false := by assumption) :
    own_Go p e below (fun o U' => ∃ v L, o = .returned v ∧ Q v U'.heap L ∧ FrameEnd s o U' L C S) (T.setTop (mkF m pc Ls (.int z :: rest))) :=
  own_ret X (fun h => by rw [hret] at h; cases h) hlk (fun fs hr => retN X hx hret ht hd hr) hQ hC hS
theorem own_retI {Q : Option Value → Heap → List Loc → Prop} {C S : Nat} (X : Stand p l e R s m args below meth c T locs cells slots) (hx : p.tables.exec = Jvm.exec) {pc : Nat} {Ls : Array Slot} {z : Int32} {rest : List Value} (hret : meth.sig.returnType = some .int)
    (hd : decode c.code pc = .ok (.ireturn, 1)) (hQ : Q (some (.int z)) T.heap locs) (hC : cells ≤ C) (hS : slots ≤ S) (hlk : meth.locks = false := by assumption) :
    own_Go p e below (fun o U' => ∃ v L, o = .returned v ∧ Q v U'.heap L ∧ FrameEnd s o U' L C S) (T.setTop (mkF m pc Ls (.int z :: rest))) :=
  own_ret X (fun h => by rw [hret] at h; cases h) hlk (fun fs hr => retOut X hx hret rfl (Or.inl ⟨rfl, Or.inl rfl, z, rfl⟩) hd hr) hQ hC hS
theorem own_retL {Q : Option Value → Heap → List Loc → Prop} {C S : Nat} (X : Stand p l e R s m args below meth c T locs cells slots) (hx : p.tables.exec = Jvm.exec) {pc : Nat} {Ls : Array Slot} {z : Int64} {rest : List Value} (hret : meth.sig.returnType = some .long)
    (hd : decode c.code pc = .ok (.lreturn, 1)) (hQ : Q (some (.long z)) T.heap locs) (hC : cells ≤ C) (hS : slots ≤ S) (hlk : meth.locks = false := by assumption) :
    own_Go p e below (fun o U' => ∃ v L, o = .returned v ∧ Q v U'.heap L ∧ FrameEnd s o U' L C S) (T.setTop (mkF m pc Ls (.long z :: rest))) :=
  own_ret X (fun h => by rw [hret] at h; cases h) hlk (fun fs hr => retOut X hx hret rfl (Or.inr (Or.inl ⟨rfl, rfl, z, rfl⟩)) hd hr) hQ hC hS
theorem own_retA {Q : Option Value → Heap → List Loc → Prop} {C S : Nat} (X : Stand p l e R s m args below meth c T locs cells slots) (hx : p.tables.exec = Jvm.exec) {pc : Nat} {Ls : Array Slot} {w : Value} {t : FieldType} {rest : List Value} (hret : meth.sig.returnType = some t) (ht : t.isReference = true) (hw : w.isRef = true)
    (hd : decode c.code pc = .ok (.areturn, 1)) (hQ : Q (some w) T.heap locs) (hC : cells ≤ C) (hS : slots ≤ S) (hlk : meth.locks = false := by assumption) :
    own_Go p e below (fun o U' => ∃ v L, o = .returned v ∧ Q v U'.heap L ∧ FrameEnd s o U' L C S) (T.setTop (mkF m pc Ls (w :: rest))) :=
  own_ret X (fun h => by rw [hret] at h; cases h) hlk (fun fs hr => retOut X hx hret (by cases t <;> first | (cases ht; done) | rfl) (Or.inr (Or.inr (Or.inr (Or.inr ⟨rfl, ht, hw⟩)))) hd hr) hQ hC hS
theorem own_ret0 {Q : Option Value → Heap → List Loc → Prop} {C S : Nat} (X : Stand p l e R s m args below meth c T locs cells slots) (hx : p.tables.exec = Jvm.exec) {pc : Nat} {Ls : Array Slot} (hret : meth.sig.returnType = none)
    (hd : decode c.code pc = .ok (.return_, 1)) (hQ : Q none T.heap locs) (hC : cells ≤ C) (hS : slots ≤ S) (hlk : meth.locks = false := by assumption) :
    own_Go p e below (fun o U' => ∃ v L, o = .returned v ∧ Q v U'.heap L ∧ FrameEnd s o U' L C S) (T.setTop (mkF m pc Ls [])) :=
  own_ret X (fun _ => rfl) hlk (fun fs hr => X.returnOut hx hret hd hr) hQ hC hS
theorem own_retW {Q : Option Value → Heap → List Loc → Prop} {C S : Nat} {vm₁ : Vm} {n : Nat} (X : Stand p l e R (s.setVm vm₁) m args below meth c T locs cells slots) {v : Option Value} (hv : meth.sig.returnType = none → v = none) (hlk : meth.locks = false) {S0 : State}
    (hst : ∀ fs, (∀ (f : JFrame) (acts : List Action), f.method = m → f.locked = none → f.entered = [] → (doReturn e (T.setTop f) acts v).1 = T.setFrames fs) → Steps p.tables e below S0 (T.setFrames fs))
    (hS₁ : s.Since vm₁ n) (hn₁ : n ≤ T.heap.size) (hQ : Q v T.heap locs) (hC : cells ≤ C) (hS : slots ≤ S) : own_Go p e below (fun o U' => ∃ v L, o = .returned v ∧ Q v U'.heap L ∧ ReturnedEndW s o U' L C S) S0 := by
  obtain ⟨fs, hr, hrun, hended, q1, q2, q3, q4⟩ := X.leaveW hS₁ hn₁ (v := v) hv hlk
  exact ⟨_, _, hst fs hr, hrun, hended, _, _, rfl, hQ, q1, q2, q3, q4.mono hC hS⟩
theorem own_retNW {Q : Option Value → Heap → List Loc → Prop} {C S : Nat} {vm₁ : Vm} {n : Nat} (X : Stand p l e R (s.setVm vm₁) m args below meth c T locs cells slots) (hx : p.tables.exec = Jvm.exec) {pc : Nat} {Ls : Array Slot} {z : Int32} {t : FieldType} {rest : List Value} (hret : meth.sig.returnType = some t) (ht : t = .boolean ∨ t = .byte ∨ t = .char ∨ t = .short)
    (hd : decode c.code pc = .ok (.ireturn, 1)) (hS₁ : s.Since vm₁ n) (hn₁ : n ≤ T.heap.size) (hQ : Q (some (.int (nar t z))) T.heap locs) (hC : cells ≤ C) (hS : slots ≤ S) (hlk : meth.locks = false := by assumption) :
    own_Go p e below (fun o U' => ∃ v L, o = .returned v ∧ Q v U'.heap L ∧ ReturnedEndW s o U' L C S) (T.setTop (mkF m pc Ls (.int z :: rest))) :=
  own_retW X (fun h => by rw [hret] at h; cases h) hlk (fun fs hr => retN X hx hret ht hd hr) hS₁ hn₁ hQ hC hS
theorem own_retIW {Q : Option Value → Heap → List Loc → Prop} {C S : Nat} {vm₁ : Vm} {n : Nat} (X : Stand p l e R (s.setVm vm₁) m args below meth c T locs cells slots) (hx : p.tables.exec = Jvm.exec) {pc : Nat} {Ls : Array Slot} {z : Int32} {rest : List Value} (hret : meth.sig.returnType = some .int)
    (hd : decode c.code pc = .ok (.ireturn, 1)) (hS₁ : s.Since vm₁ n) (hn₁ : n ≤ T.heap.size) (hQ : Q (some (.int z)) T.heap locs) (hC : cells ≤ C) (hS : slots ≤ S) (hlk : meth.locks = false := by assumption) :
    own_Go p e below (fun o U' => ∃ v L, o = .returned v ∧ Q v U'.heap L ∧ ReturnedEndW s o U' L C S) (T.setTop (mkF m pc Ls (.int z :: rest))) :=
  own_retW X (fun h => by rw [hret] at h; cases h) hlk (fun fs hr => retOut X hx hret rfl (Or.inl ⟨rfl, Or.inl rfl, z, rfl⟩) hd hr) hS₁ hn₁ hQ hC hS
theorem own_retLW {Q : Option Value → Heap → List Loc → Prop} {C S : Nat} {vm₁ : Vm} {n : Nat} (X : Stand p l e R (s.setVm vm₁) m args below meth c T locs cells slots) (hx : p.tables.exec = Jvm.exec) {pc : Nat} {Ls : Array Slot} {z : Int64} {rest : List Value} (hret : meth.sig.returnType = some .long)
    (hd : decode c.code pc = .ok (.lreturn, 1)) (hS₁ : s.Since vm₁ n) (hn₁ : n ≤ T.heap.size) (hQ : Q (some (.long z)) T.heap locs) (hC : cells ≤ C) (hS : slots ≤ S) (hlk : meth.locks = false := by assumption) :
    own_Go p e below (fun o U' => ∃ v L, o = .returned v ∧ Q v U'.heap L ∧ ReturnedEndW s o U' L C S) (T.setTop (mkF m pc Ls (.long z :: rest))) :=
  own_retW X (fun h => by rw [hret] at h; cases h) hlk (fun fs hr => retOut X hx hret rfl (Or.inr (Or.inl ⟨rfl, rfl, z, rfl⟩)) hd hr) hS₁ hn₁ hQ hC hS
theorem own_retAW {Q : Option Value → Heap → List Loc → Prop} {C S : Nat} {vm₁ : Vm} {n : Nat} (X : Stand p l e R (s.setVm vm₁) m args below meth c T locs cells slots) (hx : p.tables.exec = Jvm.exec) {pc : Nat} {Ls : Array Slot} {w : Value} {t : FieldType} {rest : List Value} (hret : meth.sig.returnType = some t) (ht : t.isReference = true) (hw : w.isRef = true)
    (hd : decode c.code pc = .ok (.areturn, 1)) (hS₁ : s.Since vm₁ n) (hn₁ : n ≤ T.heap.size) (hQ : Q (some w) T.heap locs) (hC : cells ≤ C) (hS : slots ≤ S) (hlk : meth.locks = false := by assumption) :
    own_Go p e below (fun o U' => ∃ v L, o = .returned v ∧ Q v U'.heap L ∧ ReturnedEndW s o U' L C S) (T.setTop (mkF m pc Ls (w :: rest))) :=
  own_retW X (fun h => by rw [hret] at h; cases h) hlk (fun fs hr => retOut X hx hret (by cases t <;> first | (cases ht; done) | rfl) (Or.inr (Or.inr (Or.inr (Or.inr ⟨rfl, ht, hw⟩)))) hd hr) hS₁ hn₁ hQ hC hS
theorem own_ret0W {Q : Option Value → Heap → List Loc → Prop} {C S : Nat} {vm₁ : Vm} {n : Nat} (X : Stand p l e R (s.setVm vm₁) m args below meth c T locs cells slots) (hx : p.tables.exec = Jvm.exec) {pc : Nat} {Ls : Array Slot} (hret : meth.sig.returnType = none)
    (hd : decode c.code pc = .ok (.return_, 1)) (hS₁ : s.Since vm₁ n) (hn₁ : n ≤ T.heap.size) (hQ : Q none T.heap locs) (hC : cells ≤ C) (hS : slots ≤ S) (hlk : meth.locks = false := by assumption) :
    own_Go p e below (fun o U' => ∃ v L, o = .returned v ∧ Q v U'.heap L ∧ ReturnedEndW s o U' L C S) (T.setTop (mkF m pc Ls [])) :=
  own_retW X (fun _ => rfl) hlk (fun fs hr => X.returnOut hx hret hd hr) hS₁ hn₁ hQ hC hS
theorem own_retH {Q : Option Value → Heap → List Loc → Prop} {C S : Nat} {vm₁ : Vm} {n : Nat} {Z : State} {EL : List (String × Nat)} (X : Stand p l e R (s.setVm vm₁) m args below meth c T locs cells slots) {v : Option Value} (hv : meth.sig.returnType = none → v = none) (hlk : meth.locks = false) {S0 : State}
    (hst : ∀ fs, (∀ (f : JFrame) (acts : List Action), f.method = m → f.locked = none → f.entered = [] → (doReturn e (T.setTop f) acts v).1 = T.setFrames fs) → Steps p.tables e below S0 (T.setFrames fs))
    (hS₁ : s.Since vm₁ n) (hn₁ : n ≤ T.heap.size) (hQ : Q v T.heap locs) (hF : CHr Z EL s.vm s.heap T.vm T.heap) (hC : cells ≤ C) (hS : slots ≤ S) : own_Go p e below (fun o U' => ∃ v L, o = .returned v ∧ Q v U'.heap L ∧ CHr Z EL s.vm s.heap U'.vm U'.heap ∧ ReturnedEndW s o U' L C S) S0 := by
  obtain ⟨fs, hr, hrun, hended, q1, q2, q3, q4⟩ := X.leaveW hS₁ hn₁ (v := v) hv hlk
  exact ⟨_, _, hst fs hr, hrun, hended, _, _, rfl, hQ, hF, q1, q2, q3, q4.mono hC hS⟩
theorem own_retNH {Q : Option Value → Heap → List Loc → Prop} {C S : Nat} {vm₁ : Vm} {n : Nat} {Z : State} {EL : List (String × Nat)} (X : Stand p l e R (s.setVm vm₁) m args below meth c T locs cells slots) (hx : p.tables.exec = Jvm.exec) {pc : Nat} {Ls : Array Slot} {z : Int32} {t : FieldType} {rest : List Value} (hret : meth.sig.returnType = some t) (ht : t = .boolean ∨ t = .byte ∨ t = .char ∨ t = .short)
    (hd : decode c.code pc = .ok (.ireturn, 1)) (hS₁ : s.Since vm₁ n) (hn₁ : n ≤ T.heap.size) (hQ : Q (some (.int (nar t z))) T.heap locs) (hF : CHr Z EL s.vm s.heap T.vm T.heap) (hC : cells ≤ C) (hS : slots ≤ S) (hlk : meth.locks = false := by assumption) :
    own_Go p e below (fun o U' => ∃ v L, o = .returned v ∧ Q v U'.heap L ∧ CHr Z EL s.vm s.heap U'.vm U'.heap ∧ ReturnedEndW s o U' L C S) (T.setTop (mkF m pc Ls (.int z :: rest))) :=
  own_retH X (fun h => by rw [hret] at h; cases h) hlk (fun fs hr => retN X hx hret ht hd hr) hS₁ hn₁ hQ hF hC hS
theorem own_retIH {Q : Option Value → Heap → List Loc → Prop} {C S : Nat} {vm₁ : Vm} {n : Nat} {Z : State} {EL : List (String × Nat)} (X : Stand p l e R (s.setVm vm₁) m args below meth c T locs cells slots) (hx : p.tables.exec = Jvm.exec) {pc : Nat} {Ls : Array Slot} {z : Int32} {rest : List Value} (hret : meth.sig.returnType = some .int)
    (hd : decode c.code pc = .ok (.ireturn, 1)) (hS₁ : s.Since vm₁ n) (hn₁ : n ≤ T.heap.size) (hQ : Q (some (.int z)) T.heap locs) (hF : CHr Z EL s.vm s.heap T.vm T.heap) (hC : cells ≤ C) (hS : slots ≤ S) (hlk : meth.locks = false := by assumption) :
    own_Go p e below (fun o U' => ∃ v L, o = .returned v ∧ Q v U'.heap L ∧ CHr Z EL s.vm s.heap U'.vm U'.heap ∧ ReturnedEndW s o U' L C S) (T.setTop (mkF m pc Ls (.int z :: rest))) :=
  own_retH X (fun h => by rw [hret] at h; cases h) hlk (fun fs hr => retOut X hx hret rfl (Or.inl ⟨rfl, Or.inl rfl, z, rfl⟩) hd hr) hS₁ hn₁ hQ hF hC hS
theorem own_retLH {Q : Option Value → Heap → List Loc → Prop} {C S : Nat} {vm₁ : Vm} {n : Nat} {Z : State} {EL : List (String × Nat)} (X : Stand p l e R (s.setVm vm₁) m args below meth c T locs cells slots) (hx : p.tables.exec = Jvm.exec) {pc : Nat} {Ls : Array Slot} {z : Int64} {rest : List Value} (hret : meth.sig.returnType = some .long)
    (hd : decode c.code pc = .ok (.lreturn, 1)) (hS₁ : s.Since vm₁ n) (hn₁ : n ≤ T.heap.size) (hQ : Q (some (.long z)) T.heap locs) (hF : CHr Z EL s.vm s.heap T.vm T.heap) (hC : cells ≤ C) (hS : slots ≤ S) (hlk : meth.locks = false := by assumption) :
    own_Go p e below (fun o U' => ∃ v L, o = .returned v ∧ Q v U'.heap L ∧ CHr Z EL s.vm s.heap U'.vm U'.heap ∧ ReturnedEndW s o U' L C S) (T.setTop (mkF m pc Ls (.long z :: rest))) :=
  own_retH X (fun h => by rw [hret] at h; cases h) hlk (fun fs hr => retOut X hx hret rfl (Or.inr (Or.inl ⟨rfl, rfl, z, rfl⟩)) hd hr) hS₁ hn₁ hQ hF hC hS
theorem own_retAH {Q : Option Value → Heap → List Loc → Prop} {C S : Nat} {vm₁ : Vm} {n : Nat} {Z : State} {EL : List (String × Nat)} (X : Stand p l e R (s.setVm vm₁) m args below meth c T locs cells slots) (hx : p.tables.exec = Jvm.exec) {pc : Nat} {Ls : Array Slot} {w : Value} {t : FieldType} {rest : List Value} (hret : meth.sig.returnType = some t) (ht : t.isReference = true) (hw : w.isRef = true)
    (hd : decode c.code pc = .ok (.areturn, 1)) (hS₁ : s.Since vm₁ n) (hn₁ : n ≤ T.heap.size) (hQ : Q (some w) T.heap locs) (hF : CHr Z EL s.vm s.heap T.vm T.heap) (hC : cells ≤ C) (hS : slots ≤ S) (hlk : meth.locks = false := by assumption) :
    own_Go p e below (fun o U' => ∃ v L, o = .returned v ∧ Q v U'.heap L ∧ CHr Z EL s.vm s.heap U'.vm U'.heap ∧ ReturnedEndW s o U' L C S) (T.setTop (mkF m pc Ls (w :: rest))) :=
  own_retH X (fun h => by rw [hret] at h; cases h) hlk (fun fs hr => retOut X hx hret (by cases t <;> first | (cases ht; done) | rfl) (Or.inr (Or.inr (Or.inr (Or.inr ⟨rfl, ht, hw⟩)))) hd hr) hS₁ hn₁ hQ hF hC hS
theorem own_ret0H {Q : Option Value → Heap → List Loc → Prop} {C S : Nat} {vm₁ : Vm} {n : Nat} {Z : State} {EL : List (String × Nat)} (X : Stand p l e R (s.setVm vm₁) m args below meth c T locs cells slots) (hx : p.tables.exec = Jvm.exec) {pc : Nat} {Ls : Array Slot} (hret : meth.sig.returnType = none)
    (hd : decode c.code pc = .ok (.return_, 1)) (hS₁ : s.Since vm₁ n) (hn₁ : n ≤ T.heap.size) (hQ : Q none T.heap locs) (hF : CHr Z EL s.vm s.heap T.vm T.heap) (hC : cells ≤ C) (hS : slots ≤ S) (hlk : meth.locks = false := by assumption) :
    own_Go p e below (fun o U' => ∃ v L, o = .returned v ∧ Q v U'.heap L ∧ CHr Z EL s.vm s.heap U'.vm U'.heap ∧ ReturnedEndW s o U' L C S) (T.setTop (mkF m pc Ls [])) :=
  own_retH X (fun _ => rfl) hlk (fun fs hr => X.returnOut hx hret hd hr) hS₁ hn₁ hQ hF hC hS
theorem own_cat1 {v : Value} (h : v.isRef = true) : v.category = 1 := by cases v <;> simp_all [Value.isRef, Value.category]
theorem own_st1 {L L' : Array Slot} {i : Nat} {v : Value} {o : Slot} (hold : L[i]? = some o) (ho : o = .unset ∨ ∃ w, o = .val w ∧ w.category = 1) (hv : v.category = 1) (q : L.setIfInBounds i (.val v) = L' := by rfl) : storeLocals L i v = some L' := q ▸ XS.store1 hold ho hv
theorem own_fits {v : Value} {t : FieldType} (h : v.isRef = true) (ht : t.isReference = true) : fits t v = true := by cases t <;> first | (cases ht; done) | (cases v <;> simp_all [Value.isRef, fits])
theorem own_frm {k k' : Nat} {L : List Loc} (N : Fr k L) (h : k' ≤ k) : Fr k' L := fun y hy => Nat.le_trans h (N y hy)
theorem own_lsw {g : JFrame} {target : State} (X : Stand p l e R s m args below meth c T locs cells slots) (hx : p.tables.exec = Jvm.exec) (hg : g.method = m) {df : Int} {prs : Array (Int × Int)} {len : Nat} {x : Int32} {rest : List Value} {o : Int} {pc0 pc' : Nat} (hpc : g.pc = pc0)
    (hd : decode c.code g.pc = .ok (.lookupswitch df prs, len)) (hs : g.stack = .int x :: rest) (hsrt : (prs.toList.zip (prs.toList.drop 1)).all (fun (a, next) => a.1 < next.1) = true) (hf : lookupswitch.offset prs.toList df x.toInt = o) (ho : 0 ≤ (pc0 : Int) + o) (hp : ((pc0 : Int) + o).toNat = pc')
    (hr : Steps p.tables e below (T.setTop { g with pc := pc', stack := rest }) target) : Steps p.tables e below (T.setTop g) target := by
  subst hg hpc hp
  jvm_step X.here [X.here.top, hx, hd, hs, lookupswitch.wp_chain, hf, ho]
  first | exact hr | exact ⟨by simpa using hsrt, hr⟩
theorem own_backH {Z : State} {a0 : Array Value} {EL : List (String × Nat)} {h : Heap} {vm0 : Vm} {y : MethodName} {bytes : ByteArray} {maxL : Nat} {ret : Option FieldType} {rm : Room} {len W : Nat} {as' : Array Value} {sf : List Addr} {Q : Option Value → Heap → List Loc → Prop}
    (hM : MetFree l y (head1 [Cond.code y bytes maxL ret] rm) (fun a U => a = as' ∧ Z.Warmed39 U.vm ∧ U.heap = h ∧ CHv Z EL U.vm h ∧ ∀ x ∈ sf, Safe Z EL U.vm h x) (fun _ _ _ _ _ => True) (fun _ U o U' => ∃ v L, o = .returned v ∧ Q v U'.heap L ∧ CHr Z EL U.vm U.heap U'.vm U'.heap ∧ ReturnedEndW U o U' L rm.cells rm.slots))
    (hZ : Z.Warmed39 vm0) (wc : (Cond.code y bytes maxL ret).before a0 Z = true) (wz : (Cond.initialized y.cls).before a0 Z = true) (hf : rm.frames + 1 ≤ R.frames) (hl : W + (maxL + 11) + rm.locals ≤ R.locals) (hEL : EW Z a0 EL) (H : CHv Z EL vm0 h) (hsf : ∀ x ∈ sf, x < h.size ∧ Safe Z EL vm0 h x) :
    BackS l R p e below (s.setVm vm0) args y len W (fun A a => a = as' ∧ A.U.heap = h ∧ A.cells + rm.cells ≤ R.cells ∧ A.slots + rm.slots ≤ R.slots)
      (fun A _ v B => ∃ L, Q v B.U.heap L ∧ B.locs = A.locs ++ L ∧ B.cells = A.cells + rm.cells ∧ B.slots = A.slots + rm.slots ∧ CHr Z EL vm0 h B.U.vm B.U.heap) := by
  refine BackS.of_freeW (bytes := bytes) (maxL := maxL) (ret := ret) (E := fun _ first o t L k n => (k = rm.cells ∧ n = rm.slots) ∧ CHr Z EL first.vm first.heap t.vm t.heap ∧ ∃ v, o = .returned v ∧ Q v t.heap L) hM hf hl ?_ ?_ (fun _ _ _ _ _ _ _ _ _ => trivial) ?_ ?_
  · intro m meth c A a Y hp
    have hU : Z.Warmed39 A.U.vm := wtrans (s := s.setVm vm0) hZ Y.warmed
    exact ⟨by show (Cond.and _ .tt).before a A.U = true; rw [Cond.before_and, mv hU wc]; rfl, mv hU wc, mv hU wz, hp.2.2.1, hp.2.2.2⟩
  · intro m meth c A a g mk Y hp
    have q := CHv.at Y hZ hEL H
    exact ⟨hp.1, wtrans (s := s.setVm vm0) hZ Y.warmed, hp.2.1, q.1, fun x hx => q.safe (hsf x hx).1 (hsf x hx).2⟩
  · rintro _ _ _ _ ⟨v, L, h1, h2, h3, h4⟩
    exact ⟨L, _, _, h4, ⟨rfl, rfl⟩, h3, v, h1, h2⟩
  · rintro m meth c A a g mk v t L k n Y hp _ _ ⟨⟨e1, e2⟩, e5, v', e3, e4⟩
    cases e3
    subst e1 e2
    have q := (CHv.at Y hZ hEL H).trans (vm2 := t.vm) (h2 := t.heap) (by rw [← hp.2.1]; exact e5)
    exact ⟨L, e4, rfl, rfl, rfl, q⟩
end Own
def own_cl (k b : Int32) (n : Int64) : Int32 := if k = 0 then (if n = 0 then 1 else 0) else if 0 < n then (if b = 61 then 1 else 0) else 0
def own_Qc (k b : Int32) (n : Int64) (h0 : Heap) (n0 : Nat) (v : Option Value) (h : Heap) (L : List Loc) : Prop := v = some (.int (own_cl k b n)) ∧ Fr n0 L ∧ h = h0
theorem own_lt1 (x : Int64) : x < 1 ↔ ¬ 0 < x := by
  rw [Int64.lt_iff_toInt_lt, Int64.lt_iff_toInt_lt]; have h1 : (1 : Int64).toInt = 1 := by decide
  have h0 : (0 : Int64).toInt = 0 := by decide
  omega
theorem d1_0 : decode prog_73_method_9_code 0 = .ok (.aload_n 0, 1) := by decide +kernel
theorem d1_1 : decode prog_73_method_9_code 1 = .ok (.getfield 29, 3) := by decide +kernel
theorem d1_4 : decode prog_73_method_9_code 4 = .ok (.ifCond .eq 23, 3) := by decide +kernel
theorem d1_7 : decode prog_73_method_9_code 7 = .ok (.lload_n 2, 1) := by decide +kernel
theorem d1_8 : decode prog_73_method_9_code 8 = .ok (.lconst 0, 1) := by decide +kernel
theorem d1_9 : decode prog_73_method_9_code 9 = .ok (.lcmp, 1) := by decide +kernel
theorem d1_10 : decode prog_73_method_9_code 10 = .ok (.ifCond .le 13, 3) := by decide +kernel
theorem d1_13 : decode prog_73_method_9_code 13 = .ok (.iload_n 1, 1) := by decide +kernel
theorem d1_14 : decode prog_73_method_9_code 14 = .ok (.bipush 61, 2) := by decide +kernel
theorem d1_16 : decode prog_73_method_9_code 16 = .ok (.if_icmp .ne 7, 3) := by decide +kernel
theorem d1_19 : decode prog_73_method_9_code 19 = .ok (.iconst 1, 1) := by decide +kernel
theorem d1_20 : decode prog_73_method_9_code 20 = .ok (.goto 18, 3) := by decide +kernel
theorem d1_23 : decode prog_73_method_9_code 23 = .ok (.iconst 0, 1) := by decide +kernel
theorem d1_24 : decode prog_73_method_9_code 24 = .ok (.goto 14, 3) := by decide +kernel
theorem d1_27 : decode prog_73_method_9_code 27 = .ok (.lload_n 2, 1) := by decide +kernel
theorem d1_28 : decode prog_73_method_9_code 28 = .ok (.lconst 0, 1) := by decide +kernel
theorem d1_29 : decode prog_73_method_9_code 29 = .ok (.lcmp, 1) := by decide +kernel
theorem d1_30 : decode prog_73_method_9_code 30 = .ok (.ifCond .ne 7, 3) := by decide +kernel
theorem d1_33 : decode prog_73_method_9_code 33 = .ok (.iconst 1, 1) := by decide +kernel
theorem d1_34 : decode prog_73_method_9_code 34 = .ok (.goto 4, 3) := by decide +kernel
theorem d1_37 : decode prog_73_method_9_code 37 = .ok (.iconst 0, 1) := by decide +kernel
theorem d1_38 : decode prog_73_method_9_code 38 = .ok (.ireturn, 1) := by decide +kernel
theorem pn1 : plainName "com/example/prizewell/prizewell/store/JournalFormat" = true := by first | (simp [plainName, overriddenIn]; done) | decide +kernel
theorem ef1 (m : MethodId) (x0 : Addr) (x1 : Int32) (x2 : Int64) : entryFrame m #[(.ref x0), (.int x1), (.long x2)] 4 = mkF m 0 #[.val (.ref x0), .val (.int x1), .val (.long x2), .second] [] := by first | (simp [entryFrame, mkF, argsToLocals, Value.category]; done) | rfl
set_option maxRecDepth 65536 in
set_option maxHeartbeats 40000000 in
theorem rm1 (l : Launch) (Z : State) (a0 : Array Value) (hw : ∀ d ∈ tables_1, d.before a0 Z = true) (ws : List Jvm.Cond) (oo : Addr) (xk xb : Int32) (xn : Int64) (h0 : Heap) (n0 : Nat) (Z0 : n0 ≤ h0.size) (Fk : Fld Z h0 oo "com/example/prizewell/prizewell/store/JournalFormat" "checked" "Z" (.int xk)) :
    MetFree l (⟨"com/example/prizewell/prizewell/store/JournalFormat", "closes", "(BJ)Z"⟩ : MethodName) (head1 (Jvm.Cond.code (⟨"com/example/prizewell/prizewell/store/JournalFormat", "closes", "(BJ)Z"⟩ : MethodName) prog_73_method_9_code 4 (some .boolean) :: ws) ({ frames := 0, cells := 0, slots := 0, locals := 0 } : Room)) (fun a U => a = #[(.ref oo), (.int xb), (.long xn)] ∧ Z.Warmed39 U.vm ∧ U.heap = h0) (fun _ _ _ _ _ => True) (fun _ U o U' => ∃ v L, o = .returned v ∧ own_Qc xk xb xn h0 n0 v U'.heap L ∧ FrameEnd U o U' L ({ frames := 0, cells := 0, slots := 0, locals := 0 } : Room).cells ({ frames := 0, cells := 0, slots := 0, locals := 0 } : Room).slots) := by
  refine MetFree.of_bodySF (plainFor_of_name pn1) hisR ?_
  intro p e s m args below meth c s₁ Bd hml0 hP hK
  obtain ⟨rfl, hZ, hh⟩ := hP
  have hx := Bd.exec
  have hby := Bd.bytes
  have hml : c.maxLocals = 4 := hml0
  have hown : s.vm.findClass "com/example/prizewell/prizewell/store/JournalFormat" = some m.cls := findClass_of_methodNamed Bd.named
  have hnm := (name_of_methodNamed Bd.named Bd.method).1
  have hlk : meth.locks = false := Bd.notSynchronized
  have X0 : Stand p l e ({ frames := 0, cells := 0, slots := 0, locals := 0 } : Room) s m #[(.ref oo), (.int xb), (.long xn)] below meth c s₁ [] 0 0 := Stand.of_body Bd
  have e0 : s₁.heap = h0 := by rw [← hh, Bd.state]; rfl
  have N0 := Fr.nil n0
  refine own_go (fun t k => castTop (ef1 m oo xb xn) k) ?_
  show own_Go p e below _ (s₁.setTop (mkF m 0 #[.val (.ref oo), .val (.int xb), .val (.long xn), .second] []))
  refine own_go (fun t k => XS.aloadN X0.here hx rfl (hb hby d1_0) rfl rfl k) ?_
  show own_Go p e below _ (s₁.setTop (mkF m 1 #[.val (.ref oo), .val (.int xb), .val (.long xn), .second] [(.ref oo)]))
  obtain ⟨T1, X1, e1, st1⟩ := getF X0 hx hZ hown (host := "") (Or.inl (hw _ (List.mem_of_getElem? (i := 8) rfl))) Via.refl e0 Fk (g := (mkF m 1 #[.val (.ref oo), .val (.int xb), .val (.long xn), .second] [(.ref oo)])) rfl rfl (hb hby d1_1)
  refine own_go (fun t k => st1 t k) ?_
  show own_Go p e below _ (T1.setTop (mkF m 4 #[.val (.ref oo), .val (.int xb), .val (.long xn), .second] [(.int xk)]))
  by_cases hc4 : xk = (0 : Int32)
  · refine own_go (fun t k => XS.ifYes X1.here hx rfl (pc0 := 4) (pc' := 27) rfl (hb hby d1_4) rfl ((if0 _ _).trans (teq hc4).1) (by decide) (by decide) k) ?_
    show own_Go p e below _ (T1.setTop (mkF m 27 #[.val (.ref oo), .val (.int xb), .val (.long xn), .second] []))
    refine own_go (fun t k => XS.lloadN X1.here hx rfl (hb hby d1_27) rfl k) ?_
    show own_Go p e below _ (T1.setTop (mkF m 28 #[.val (.ref oo), .val (.int xb), .val (.long xn), .second] [(.long xn)]))
    refine own_go (fun t k => XS.lconst X1.here hx rfl (hb hby d1_28) k) ?_
    show own_Go p e below _ (T1.setTop (mkF m 29 #[.val (.ref oo), .val (.int xb), .val (.long xn), .second] [(.long (0 : Int64)), (.long xn)]))
    refine own_go (fun t k => XS.lcmp X1.here hx rfl (hb hby d1_29) rfl k) ?_
    show own_Go p e below _ (T1.setTop (mkF m 30 #[.val (.ref oo), .val (.int xb), .val (.long xn), .second] [(.int (lcmpW xn (0 : Int64)))]))
    by_cases hc30 : (lcmpW xn (0 : Int64)) = (0 : Int32)
    · refine own_go (fun t k => XS.ifNo X1.here hx rfl (hb hby d1_30) rfl ((if0 _ _).trans (teq hc30).2) k) ?_
      show own_Go p e below _ (T1.setTop (mkF m 33 #[.val (.ref oo), .val (.int xb), .val (.long xn), .second] []))
      refine own_go (fun t k => XS.iconst X1.here hx rfl (hb hby d1_33) k) ?_
      show own_Go p e below _ (T1.setTop (mkF m 34 #[.val (.ref oo), .val (.int xb), .val (.long xn), .second] [(.int (1 : Int32))]))
      refine own_go (fun t k => XS.goto X1.here hx rfl (pc0 := 34) (pc' := 38) rfl (hb hby d1_34) (by decide) (by decide) k) ?_
      show own_Go p e below _ (T1.setTop (mkF m 38 #[.val (.ref oo), .val (.int xb), .val (.long xn), .second] [(.int (1 : Int32))]))
      exact own_retN X1 hx (t := .boolean) Bd.returns (by simp) (hb hby d1_38) (by rw [e1]; exact ⟨by simp only [lw_lt, lw_gt, lw_eq] at hc4 hc30; simp [own_cl, nar, hc4, hc30], N0, rfl⟩) (by decide) (by decide)
    · refine own_go (fun t k => XS.ifYes X1.here hx rfl (pc0 := 30) (pc' := 37) rfl (hb hby d1_30) rfl ((if0 _ _).trans (feq hc30).2) (by decide) (by decide) k) ?_
      show own_Go p e below _ (T1.setTop (mkF m 37 #[.val (.ref oo), .val (.int xb), .val (.long xn), .second] []))
      refine own_go (fun t k => XS.iconst X1.here hx rfl (hb hby d1_37) k) ?_
      show own_Go p e below _ (T1.setTop (mkF m 38 #[.val (.ref oo), .val (.int xb), .val (.long xn), .second] [(.int (0 : Int32))]))
      exact own_retN X1 hx (t := .boolean) Bd.returns (by simp) (hb hby d1_38) (by rw [e1]; exact ⟨by simp only [lw_lt, lw_gt, lw_eq] at hc4 hc30; simp [own_cl, nar, hc4, hc30], N0, rfl⟩) (by decide) (by decide)
  · refine own_go (fun t k => XS.ifNo X1.here hx rfl (hb hby d1_4) rfl ((if0 _ _).trans (feq hc4).1) k) ?_
    show own_Go p e below _ (T1.setTop (mkF m 7 #[.val (.ref oo), .val (.int xb), .val (.long xn), .second] []))
    refine own_go (fun t k => XS.lloadN X1.here hx rfl (hb hby d1_7) rfl k) ?_
    show own_Go p e below _ (T1.setTop (mkF m 8 #[.val (.ref oo), .val (.int xb), .val (.long xn), .second] [(.long xn)]))
    refine own_go (fun t k => XS.lconst X1.here hx rfl (hb hby d1_8) k) ?_
    show own_Go p e below _ (T1.setTop (mkF m 9 #[.val (.ref oo), .val (.int xb), .val (.long xn), .second] [(.long (0 : Int64)), (.long xn)]))
    refine own_go (fun t k => XS.lcmp X1.here hx rfl (hb hby d1_9) rfl k) ?_
    show own_Go p e below _ (T1.setTop (mkF m 10 #[.val (.ref oo), .val (.int xb), .val (.long xn), .second] [(.int (lcmpW xn (0 : Int64)))]))
    by_cases hc10 : (0 : Int32) < (lcmpW xn (0 : Int64))
    · refine own_go (fun t k => XS.ifNo X1.here hx rfl (hb hby d1_10) rfl ((if0 _ _).trans (tlt hc10).2.2.2) k) ?_
      show own_Go p e below _ (T1.setTop (mkF m 13 #[.val (.ref oo), .val (.int xb), .val (.long xn), .second] []))
      refine own_go (fun t k => XS.iloadN X1.here hx rfl (hb hby d1_13) rfl k) ?_
      show own_Go p e below _ (T1.setTop (mkF m 14 #[.val (.ref oo), .val (.int xb), .val (.long xn), .second] [(.int xb)]))
      refine own_go (fun t k => XS.bipush X1.here hx rfl (hb hby d1_14) k) ?_
      show own_Go p e below _ (T1.setTop (mkF m 16 #[.val (.ref oo), .val (.int xb), .val (.long xn), .second] [(.int (61 : Int32)), (.int xb)]))
      by_cases hc16 : xb = (61 : Int32)
      · refine own_go (fun t k => XS.icmpNo X1.here hx rfl (hb hby d1_16) rfl (teq hc16).2 k) ?_
        show own_Go p e below _ (T1.setTop (mkF m 19 #[.val (.ref oo), .val (.int xb), .val (.long xn), .second] []))
        refine own_go (fun t k => XS.iconst X1.here hx rfl (hb hby d1_19) k) ?_
        show own_Go p e below _ (T1.setTop (mkF m 20 #[.val (.ref oo), .val (.int xb), .val (.long xn), .second] [(.int (1 : Int32))]))
        refine own_go (fun t k => XS.goto X1.here hx rfl (pc0 := 20) (pc' := 38) rfl (hb hby d1_20) (by decide) (by decide) k) ?_
        show own_Go p e below _ (T1.setTop (mkF m 38 #[.val (.ref oo), .val (.int xb), .val (.long xn), .second] [(.int (1 : Int32))]))
        exact own_retN X1 hx (t := .boolean) Bd.returns (by simp) (hb hby d1_38) (by rw [e1]; exact ⟨by simp only [lw_lt, lw_gt, lw_eq] at hc4 hc10 hc16; simp [own_cl, nar, hc4, hc10, hc16], N0, rfl⟩) (by decide) (by decide)
      · refine own_go (fun t k => XS.icmpYes X1.here hx rfl (pc0 := 16) (pc' := 23) rfl (hb hby d1_16) rfl (feq hc16).2 (by decide) (by decide) k) ?_
        show own_Go p e below _ (T1.setTop (mkF m 23 #[.val (.ref oo), .val (.int xb), .val (.long xn), .second] []))
        refine own_go (fun t k => XS.iconst X1.here hx rfl (hb hby d1_23) k) ?_
        show own_Go p e below _ (T1.setTop (mkF m 24 #[.val (.ref oo), .val (.int xb), .val (.long xn), .second] [(.int (0 : Int32))]))
        refine own_go (fun t k => XS.goto X1.here hx rfl (pc0 := 24) (pc' := 38) rfl (hb hby d1_24) (by decide) (by decide) k) ?_
        show own_Go p e below _ (T1.setTop (mkF m 38 #[.val (.ref oo), .val (.int xb), .val (.long xn), .second] [(.int (0 : Int32))]))
        exact own_retN X1 hx (t := .boolean) Bd.returns (by simp) (hb hby d1_38) (by rw [e1]; exact ⟨by simp only [lw_lt, lw_gt, lw_eq] at hc4 hc10 hc16; simp [own_cl, nar, hc4, hc10, hc16], N0, rfl⟩) (by decide) (by decide)
    · refine own_go (fun t k => XS.ifYes X1.here hx rfl (pc0 := 10) (pc' := 23) rfl (hb hby d1_10) rfl ((if0 _ _).trans (flt hc10).2.2.2) (by decide) (by decide) k) ?_
      show own_Go p e below _ (T1.setTop (mkF m 23 #[.val (.ref oo), .val (.int xb), .val (.long xn), .second] []))
      refine own_go (fun t k => XS.iconst X1.here hx rfl (hb hby d1_23) k) ?_
      show own_Go p e below _ (T1.setTop (mkF m 24 #[.val (.ref oo), .val (.int xb), .val (.long xn), .second] [(.int (0 : Int32))]))
      refine own_go (fun t k => XS.goto X1.here hx rfl (pc0 := 24) (pc' := 38) rfl (hb hby d1_24) (by decide) (by decide) k) ?_
      show own_Go p e below _ (T1.setTop (mkF m 38 #[.val (.ref oo), .val (.int xb), .val (.long xn), .second] [(.int (0 : Int32))]))
      exact own_retN X1 hx (t := .boolean) Bd.returns (by simp) (hb hby d1_38) (by rw [e1]; exact ⟨by simp only [lw_lt, lw_gt, lw_eq] at hc4 hc10; simp [own_cl, nar, hc4, hc10], N0, rfl⟩) (by decide) (by decide)
theorem pn0 : plainName "com/example/prizewell/prizewell/store/JournalFormatClosesPinLaw" = true := by first | (simp [plainName, overriddenIn]; done) | decide +kernel
theorem pd0_0 : parseMethodDescriptor "(BJ)Z" = some ⟨[.byte, .long], some .boolean⟩ := by decide +kernel
theorem ef0 (m : MethodId) (x0 : Int32) (x1 : Int32) (x2 : Int64) : entryFrame m #[(.int x0), (.int x1), (.long x2)] maxLocals = mkF m 0 #[.val (.int x0), .val (.int x1), .val (.long x2), .second, .unset, .unset, .unset, .unset, .unset, .unset, .unset] [] := by first | (simp [entryFrame, mkF, argsToLocals, Value.category, maxLocals]; done) | rfl
def own_Q1 (n0 : Nat) (v : Option Value) (h : Heap) (L : List Loc) : Prop := v = some (.int 1) ∧ Fr n0 L
set_option maxRecDepth 65536 in
set_option maxHeartbeats 40000000 in
theorem rm0 (l : Launch) (Z : State) (a0 : Array Value) (hw : ∀ d ∈ tables_1, d.before a0 Z = true) (ws : List Jvm.Cond) (p0 p1 : Int32) (q2 : Int64) (aP aC : Addr) (h0 : Heap) (n0 : Nat) (Z0 : n0 ≤ h0.size) (SP : Sta Z h0 "com/example/prizewell/prizewell/store/JournalFormat" "PLAIN" "Lcom/example/prizewell/prizewell/store/JournalFormat;" (.ref aP)) (EP : Exa Z h0 aP "com/example/prizewell/prizewell/store/JournalFormat") (FP : Fld Z h0 aP "com/example/prizewell/prizewell/store/JournalFormat" "checked" "Z" (.int 0)) (SC : Sta Z h0 "com/example/prizewell/prizewell/store/JournalFormat" "CHECKED" "Lcom/example/prizewell/prizewell/store/JournalFormat;" (.ref aC)) (EC : Exa Z h0 aC "com/example/prizewell/prizewell/store/JournalFormat") (FC : Fld Z h0 aC "com/example/prizewell/prizewell/store/JournalFormat" "checked" "Z" (.int 1)) :
    MetFree l x (head1 (Jvm.Cond.code x code maxLocals ret :: ws) room_1) (fun a U => a = #[(.int p0), (.int p1), (.long q2)] ∧ Z.Warmed39 U.vm ∧ U.heap = h0) (fun _ _ _ _ _ => True) (fun _ U o U' => ∃ v L, o = .returned v ∧ own_Q1 n0 v U'.heap L ∧ FrameEnd U o U' L room_1.cells room_1.slots) := by
  refine MetFree.of_bodySF (plainFor_of_name pn0) hisR ?_
  intro p e s m args below meth c s₁ Bd hml0 hP hK
  obtain ⟨rfl, hZ, hh⟩ := hP
  have hx := Bd.exec
  have hby := Bd.bytes
  have hml : c.maxLocals = 11 := hml0
  have hown : s.vm.findClass "com/example/prizewell/prizewell/store/JournalFormatClosesPinLaw" = some m.cls := findClass_of_methodNamed Bd.named
  have hnm := (name_of_methodNamed Bd.named Bd.method).1
  have hlk : meth.locks = false := Bd.notSynchronized
  have X0 : Stand p l e room_1 s m #[(.int p0), (.int p1), (.long q2)] below meth c s₁ [] 0 0 := Stand.of_body Bd
  have e0 : s₁.heap = h0 := by rw [← hh, Bd.state]; rfl
  have N0 := Fr.nil n0
  refine own_go (fun t k => castTop (ef0 m p0 p1 q2) k) ?_
  show own_Go p e below _ (s₁.setTop (mkF m 0 #[.val (.int p0), .val (.int p1), .val (.long q2), .second, .unset, .unset, .unset, .unset, .unset, .unset, .unset] []))
  refine own_go (fun t k => XS.iloadN X0.here hx rfl (hb hby at_0) rfl k) ?_
  show own_Go p e below _ (s₁.setTop (mkF m 1 #[.val (.int p0), .val (.int p1), .val (.long q2), .second, .unset, .unset, .unset, .unset, .unset, .unset, .unset] [(.int p0)]))
  refine own_go (fun t k => XS.iconst X0.here hx rfl (hb hby at_1) k) ?_
  show own_Go p e below _ (s₁.setTop (mkF m 2 #[.val (.int p0), .val (.int p1), .val (.long q2), .second, .unset, .unset, .unset, .unset, .unset, .unset, .unset] [(.int (1 : Int32)), (.int p0)]))
  refine own_go (fun t k => XS.iand X0.here hx rfl (hb hby at_2) rfl k) ?_
  show own_Go p e below _ (s₁.setTop (mkF m 3 #[.val (.int p0), .val (.int p1), .val (.long q2), .second, .unset, .unset, .unset, .unset, .unset, .unset, .unset] [(.int (p0 &&& (1 : Int32)))]))
  by_cases hc3 : (p0 &&& (1 : Int32)) = (0 : Int32)
  · refine own_go (fun t k => XS.ifYes X0.here hx rfl (pc0 := 3) (pc' := 10) rfl (hb hby at_3) rfl ((if0 _ _).trans (teq hc3).1) (by decide) (by decide) k) ?_
    show own_Go p e below _ (s₁.setTop (mkF m 10 #[.val (.int p0), .val (.int p1), .val (.long q2), .second, .unset, .unset, .unset, .unset, .unset, .unset, .unset] []))
    refine own_go (fun t k => XS.iconst X0.here hx rfl (hb hby at_10) k) ?_
    show own_Go p e below _ (s₁.setTop (mkF m 11 #[.val (.int p0), .val (.int p1), .val (.long q2), .second, .unset, .unset, .unset, .unset, .unset, .unset, .unset] [(.int (0 : Int32))]))
    refine own_go (fun t k => XS.istore X0.here hx rfl (hb hby at_11) rfl (l' := #[.val (.int p0), .val (.int p1), .val (.long q2), .second, .val (.int (0 : Int32)), .unset, .unset, .unset, .unset, .unset, .unset]) rfl k) ?_
    show own_Go p e below _ (s₁.setTop (mkF m 13 #[.val (.int p0), .val (.int p1), .val (.long q2), .second, .val (.int (0 : Int32)), .unset, .unset, .unset, .unset, .unset, .unset] []))
    refine own_go (fun t k => XS.iload X0.here hx rfl (hb hby at_13) rfl k) ?_
    show own_Go p e below _ (s₁.setTop (mkF m 15 #[.val (.int p0), .val (.int p1), .val (.long q2), .second, .val (.int (0 : Int32)), .unset, .unset, .unset, .unset, .unset, .unset] [(.int (0 : Int32))]))
    refine own_go (fun t k => XS.ifYes X0.here hx rfl (pc0 := 15) (pc' := 24) rfl (hb hby at_15) rfl ((if0 _ _).trans (teq (by decide : (0 : Int32) = (0 : Int32))).1) (by decide) (by decide) k) ?_
    show own_Go p e below _ (s₁.setTop (mkF m 24 #[.val (.int p0), .val (.int p1), .val (.long q2), .second, .val (.int (0 : Int32)), .unset, .unset, .unset, .unset, .unset, .unset] []))
    obtain ⟨T1, X1, e1, st1⟩ := getS2 X0 hx hZ hown (host := "") (Or.inl (hw _ (List.mem_of_getElem? (i := 0) rfl))) Via.refl e0 SP (g := (mkF m 24 #[.val (.int p0), .val (.int p1), .val (.long q2), .second, .val (.int (0 : Int32)), .unset, .unset, .unset, .unset, .unset, .unset] [])) rfl (hb hby at_24)
    refine own_go (fun t k => st1 t k) ?_
    show own_Go p e below _ (T1.setTop (mkF m 27 #[.val (.int p0), .val (.int p1), .val (.long q2), .second, .val (.int (0 : Int32)), .unset, .unset, .unset, .unset, .unset, .unset] [(.ref aP)]))
    refine own_go (fun t k => XS.astore X1.here hx rfl (hb hby at_27) rfl rfl (l' := #[.val (.int p0), .val (.int p1), .val (.long q2), .second, .val (.int (0 : Int32)), .val (.ref aP), .unset, .unset, .unset, .unset, .unset]) rfl k) ?_
    have J64 : ∀ (i6 : Int32) (j7 : Int64), own_Go p e below (fun o U' => ∃ v L, o = .returned v ∧ own_Q1 n0 v U'.heap L ∧ FrameEnd s o U' L room_1.cells room_1.slots) (T1.setTop (mkF m 64 #[.val (.int p0), .val (.int p1), .val (.long q2), .second, .val (.int (0 : Int32)), .val (.ref aP), .val (.int i6), .val (.long j7), .second, .unset, .unset] [])) := by
      intro i6 j7
      have J80 : ∀ (i9 : Int32), own_Go p e below (fun o U' => ∃ v L, o = .returned v ∧ own_Q1 n0 v U'.heap L ∧ FrameEnd s o U' L room_1.cells room_1.slots) (T1.setTop (mkF m 80 #[.val (.int p0), .val (.int p1), .val (.long q2), .second, .val (.int (0 : Int32)), .val (.ref aP), .val (.int i6), .val (.long j7), .second, .val (.int i9), .unset] [])) := by
        intro i9
        show own_Go p e below _ (T1.setTop (mkF m 80 #[.val (.int p0), .val (.int p1), .val (.long q2), .second, .val (.int (0 : Int32)), .val (.ref aP), .val (.int i6), .val (.long j7), .second, .val (.int i9), .unset] []))
        refine own_go (fun t k => XS.iload X1.here hx rfl (hb hby at_80) rfl k) ?_
        show own_Go p e below _ (T1.setTop (mkF m 82 #[.val (.int p0), .val (.int p1), .val (.long q2), .second, .val (.int (0 : Int32)), .val (.ref aP), .val (.int i6), .val (.long j7), .second, .val (.int i9), .unset] [(.int (0 : Int32))]))
        refine own_go (fun t k => XS.ifYes X1.here hx rfl (pc0 := 82) (pc' := 115) rfl (hb hby at_82) rfl ((if0 _ _).trans (teq (by decide : (0 : Int32) = (0 : Int32))).1) (by decide) (by decide) k) ?_
        show own_Go p e below _ (T1.setTop (mkF m 115 #[.val (.int p0), .val (.int p1), .val (.long q2), .second, .val (.int (0 : Int32)), .val (.ref aP), .val (.int i6), .val (.long j7), .second, .val (.int i9), .unset] []))
        refine own_go (fun t k => XS.lload X1.here hx rfl (hb hby at_115) rfl k) ?_
        show own_Go p e below _ (T1.setTop (mkF m 117 #[.val (.int p0), .val (.int p1), .val (.long q2), .second, .val (.int (0 : Int32)), .val (.ref aP), .val (.int i6), .val (.long j7), .second, .val (.int i9), .unset] [(.long j7)]))
        refine own_go (fun t k => XS.lconst X1.here hx rfl (hb hby at_117) k) ?_
        show own_Go p e below _ (T1.setTop (mkF m 118 #[.val (.int p0), .val (.int p1), .val (.long q2), .second, .val (.int (0 : Int32)), .val (.ref aP), .val (.int i6), .val (.long j7), .second, .val (.int i9), .unset] [(.long (0 : Int64)), (.long j7)]))
        refine own_go (fun t k => XS.lcmp X1.here hx rfl (hb hby at_118) rfl k) ?_
        show own_Go p e below _ (T1.setTop (mkF m 119 #[.val (.int p0), .val (.int p1), .val (.long q2), .second, .val (.int (0 : Int32)), .val (.ref aP), .val (.int i6), .val (.long j7), .second, .val (.int i9), .unset] [(.int (lcmpW j7 (0 : Int64)))]))
        by_cases hc119 : (lcmpW j7 (0 : Int64)) = (0 : Int32)
        · refine own_go (fun t k => XS.ifNo X1.here hx rfl (hb hby at_119) rfl ((if0 _ _).trans (teq hc119).2) k) ?_
          show own_Go p e below _ (T1.setTop (mkF m 122 #[.val (.int p0), .val (.int p1), .val (.long q2), .second, .val (.int (0 : Int32)), .val (.ref aP), .val (.int i6), .val (.long j7), .second, .val (.int i9), .unset] []))
          refine own_go (fun t k => XS.iconst X1.here hx rfl (hb hby at_122) k) ?_
          show own_Go p e below _ (T1.setTop (mkF m 123 #[.val (.int p0), .val (.int p1), .val (.long q2), .second, .val (.int (0 : Int32)), .val (.ref aP), .val (.int i6), .val (.long j7), .second, .val (.int i9), .unset] [(.int (1 : Int32))]))
          refine own_go (fun t k => XS.goto X1.here hx rfl (pc0 := 123) (pc' := 127) rfl (hb hby at_123) (by decide) (by decide) k) ?_
          show own_Go p e below _ (T1.setTop (mkF m 127 #[.val (.int p0), .val (.int p1), .val (.long q2), .second, .val (.int (0 : Int32)), .val (.ref aP), .val (.int i6), .val (.long j7), .second, .val (.int i9), .unset] [(.int (1 : Int32))]))
          refine own_go (fun t k => XS.istore X1.here hx rfl (hb hby at_127) rfl (l' := #[.val (.int p0), .val (.int p1), .val (.long q2), .second, .val (.int (0 : Int32)), .val (.ref aP), .val (.int i6), .val (.long j7), .second, .val (.int i9), .val (.int (1 : Int32))]) rfl k) ?_
          show own_Go p e below _ (T1.setTop (mkF m 129 #[.val (.int p0), .val (.int p1), .val (.long q2), .second, .val (.int (0 : Int32)), .val (.ref aP), .val (.int i6), .val (.long j7), .second, .val (.int i9), .val (.int (1 : Int32))] []))
          refine own_go (fun t k => XS.aload X1.here hx rfl (hb hby at_129) rfl rfl k) ?_
          show own_Go p e below _ (T1.setTop (mkF m 131 #[.val (.int p0), .val (.int p1), .val (.long q2), .second, .val (.int (0 : Int32)), .val (.ref aP), .val (.int i6), .val (.long j7), .second, .val (.int i9), .val (.int (1 : Int32))] [(.ref aP)]))
          refine own_go (fun t k => XS.iload X1.here hx rfl (hb hby at_131) rfl k) ?_
          show own_Go p e below _ (T1.setTop (mkF m 133 #[.val (.int p0), .val (.int p1), .val (.long q2), .second, .val (.int (0 : Int32)), .val (.ref aP), .val (.int i6), .val (.long j7), .second, .val (.int i9), .val (.int (1 : Int32))] [(.int i9), (.ref aP)]))
          refine own_go (fun t k => XS.lload X1.here hx rfl (hb hby at_133) rfl k) ?_
          show own_Go p e below _ (T1.setTop (mkF m 135 #[.val (.int p0), .val (.int p1), .val (.long q2), .second, .val (.int (0 : Int32)), .val (.ref aP), .val (.int i6), .val (.long j7), .second, .val (.int i9), .val (.int (1 : Int32))] [(.long j7), (.int i9), (.ref aP)]))
          obtain ⟨cq4, kq4, q4a, q4b, q4c⟩ := isOf hZ e1 EP
          obtain ⟨_, _, ⟨T4, L4, k4, n4⟩, -, X4, ⟨Lc4, hQ4, l4, y4, z4⟩, st4⟩ := X1.virtualBack hx (y := (⟨"com/example/prizewell/prizewell/store/JournalFormat", "closes", "(BJ)Z"⟩ : MethodName)) (z := (⟨"com/example/prizewell/prizewell/store/JournalFormat", "closes", "(BJ)Z"⟩ : MethodName)) hown (mvT hZ (hw _ (List.mem_of_getElem? (i := 3) rfl))) (mvT hZ (hw _ (List.mem_of_getElem? (i := 4) rfl))) (notFace_of_selects (args := #[]) (mvT hZ (hw _ (List.mem_of_getElem? (i := 6) rfl)))) (mvT hZ (hw _ (List.mem_of_getElem? (i := 6) rfl))) (mvT hZ (hw _ (List.mem_of_getElem? (i := 5) rfl))) (by decide) (backOf (W := 0) (rm1 l Z a0 hw [] aP (0 : Int32) i9 j7 h0 n0 Z0 FP) hZ (hw _ (List.mem_of_getElem? (i := 7) rfl)) (hw _ (List.mem_of_getElem? (i := 1) rfl)) (by decide) (by decide)) q4a q4c (g := (mkF m 135 #[.val (.int p0), .val (.int p1), .val (.long q2), .second, .val (.int (0 : Int32)), .val (.ref aP), .val (.int i6), .val (.long j7), .second, .val (.int i9), .val (.int (1 : Int32))] [(.long j7), (.int i9), (.ref aP)])) rfl (by rw [hml]; rfl) (Steps.refl _) (argsL := [(.int i9), (.long j7)]) (rest := []) (lenOf pd0_0 rfl) rfl (by show 2 * 0 + _ ≤ _; exact Nat.le_of_eq rfl) (hb hby at_135) (fun _ _ => ⟨rfl, e1, (by decide : 0 + 0 ≤ _), (by decide : 0 + 0 ≤ _)⟩)
          dsimp only [Pt.U, Pt.locs, Pt.cells, Pt.slots] at X4 l4 y4 z4 st4 hQ4
          subst l4 y4 z4
          obtain ⟨rfl, Nq4, e4⟩ := hQ4
          have N4 := Fr.app N0 Nq4
          refine own_go (fun t k => st4.trans k) ?_
          show own_Go p e below _ (T4.setTop (mkF m 138 #[.val (.int p0), .val (.int p1), .val (.long q2), .second, .val (.int (0 : Int32)), .val (.ref aP), .val (.int i6), .val (.long j7), .second, .val (.int i9), .val (.int (1 : Int32))] [(.int (own_cl (0 : Int32) i9 j7))]))
          refine own_go (fun t k => XS.iload X4.here hx rfl (hb hby at_138) rfl k) ?_
          show own_Go p e below _ (T4.setTop (mkF m 140 #[.val (.int p0), .val (.int p1), .val (.long q2), .second, .val (.int (0 : Int32)), .val (.ref aP), .val (.int i6), .val (.long j7), .second, .val (.int i9), .val (.int (1 : Int32))] [(.int (1 : Int32)), (.int (own_cl (0 : Int32) i9 j7))]))
          refine own_go (fun t k => XS.icmpNo X4.here hx rfl (hb hby at_140) rfl (teq (by simp only [lw_lt, lw_gt, lw_eq, own_lt1, Decidable.not_not] at hc119; simp [own_cl, hc119] : (own_cl (0 : Int32) i9 j7) = (1 : Int32))).2 k) ?_
          show own_Go p e below _ (T4.setTop (mkF m 143 #[.val (.int p0), .val (.int p1), .val (.long q2), .second, .val (.int (0 : Int32)), .val (.ref aP), .val (.int i6), .val (.long j7), .second, .val (.int i9), .val (.int (1 : Int32))] []))
          refine own_go (fun t k => XS.iconst X4.here hx rfl (hb hby at_143) k) ?_
          show own_Go p e below _ (T4.setTop (mkF m 144 #[.val (.int p0), .val (.int p1), .val (.long q2), .second, .val (.int (0 : Int32)), .val (.ref aP), .val (.int i6), .val (.long j7), .second, .val (.int i9), .val (.int (1 : Int32))] [(.int (1 : Int32))]))
          refine own_go (fun t k => XS.goto X4.here hx rfl (pc0 := 144) (pc' := 148) rfl (hb hby at_144) (by decide) (by decide) k) ?_
          show own_Go p e below _ (T4.setTop (mkF m 148 #[.val (.int p0), .val (.int p1), .val (.long q2), .second, .val (.int (0 : Int32)), .val (.ref aP), .val (.int i6), .val (.long j7), .second, .val (.int i9), .val (.int (1 : Int32))] [(.int (1 : Int32))]))
          exact own_retN X4 hx (t := .boolean) Bd.returns (by simp) (hb hby at_148) (⟨rfl, N4⟩) (by decide) (by decide)
        · refine own_go (fun t k => XS.ifYes X1.here hx rfl (pc0 := 119) (pc' := 126) rfl (hb hby at_119) rfl ((if0 _ _).trans (feq hc119).2) (by decide) (by decide) k) ?_
          show own_Go p e below _ (T1.setTop (mkF m 126 #[.val (.int p0), .val (.int p1), .val (.long q2), .second, .val (.int (0 : Int32)), .val (.ref aP), .val (.int i6), .val (.long j7), .second, .val (.int i9), .unset] []))
          refine own_go (fun t k => XS.iconst X1.here hx rfl (hb hby at_126) k) ?_
          show own_Go p e below _ (T1.setTop (mkF m 127 #[.val (.int p0), .val (.int p1), .val (.long q2), .second, .val (.int (0 : Int32)), .val (.ref aP), .val (.int i6), .val (.long j7), .second, .val (.int i9), .unset] [(.int (0 : Int32))]))
          refine own_go (fun t k => XS.istore X1.here hx rfl (hb hby at_127) rfl (l' := #[.val (.int p0), .val (.int p1), .val (.long q2), .second, .val (.int (0 : Int32)), .val (.ref aP), .val (.int i6), .val (.long j7), .second, .val (.int i9), .val (.int (0 : Int32))]) rfl k) ?_
          show own_Go p e below _ (T1.setTop (mkF m 129 #[.val (.int p0), .val (.int p1), .val (.long q2), .second, .val (.int (0 : Int32)), .val (.ref aP), .val (.int i6), .val (.long j7), .second, .val (.int i9), .val (.int (0 : Int32))] []))
          refine own_go (fun t k => XS.aload X1.here hx rfl (hb hby at_129) rfl rfl k) ?_
          show own_Go p e below _ (T1.setTop (mkF m 131 #[.val (.int p0), .val (.int p1), .val (.long q2), .second, .val (.int (0 : Int32)), .val (.ref aP), .val (.int i6), .val (.long j7), .second, .val (.int i9), .val (.int (0 : Int32))] [(.ref aP)]))
          refine own_go (fun t k => XS.iload X1.here hx rfl (hb hby at_131) rfl k) ?_
          show own_Go p e below _ (T1.setTop (mkF m 133 #[.val (.int p0), .val (.int p1), .val (.long q2), .second, .val (.int (0 : Int32)), .val (.ref aP), .val (.int i6), .val (.long j7), .second, .val (.int i9), .val (.int (0 : Int32))] [(.int i9), (.ref aP)]))
          refine own_go (fun t k => XS.lload X1.here hx rfl (hb hby at_133) rfl k) ?_
          show own_Go p e below _ (T1.setTop (mkF m 135 #[.val (.int p0), .val (.int p1), .val (.long q2), .second, .val (.int (0 : Int32)), .val (.ref aP), .val (.int i6), .val (.long j7), .second, .val (.int i9), .val (.int (0 : Int32))] [(.long j7), (.int i9), (.ref aP)]))
          obtain ⟨cq5, kq5, q5a, q5b, q5c⟩ := isOf hZ e1 EP
          obtain ⟨_, _, ⟨T5, L5, k5, n5⟩, -, X5, ⟨Lc5, hQ5, l5, y5, z5⟩, st5⟩ := X1.virtualBack hx (y := (⟨"com/example/prizewell/prizewell/store/JournalFormat", "closes", "(BJ)Z"⟩ : MethodName)) (z := (⟨"com/example/prizewell/prizewell/store/JournalFormat", "closes", "(BJ)Z"⟩ : MethodName)) hown (mvT hZ (hw _ (List.mem_of_getElem? (i := 3) rfl))) (mvT hZ (hw _ (List.mem_of_getElem? (i := 4) rfl))) (notFace_of_selects (args := #[]) (mvT hZ (hw _ (List.mem_of_getElem? (i := 6) rfl)))) (mvT hZ (hw _ (List.mem_of_getElem? (i := 6) rfl))) (mvT hZ (hw _ (List.mem_of_getElem? (i := 5) rfl))) (by decide) (backOf (W := 0) (rm1 l Z a0 hw [] aP (0 : Int32) i9 j7 h0 n0 Z0 FP) hZ (hw _ (List.mem_of_getElem? (i := 7) rfl)) (hw _ (List.mem_of_getElem? (i := 1) rfl)) (by decide) (by decide)) q5a q5c (g := (mkF m 135 #[.val (.int p0), .val (.int p1), .val (.long q2), .second, .val (.int (0 : Int32)), .val (.ref aP), .val (.int i6), .val (.long j7), .second, .val (.int i9), .val (.int (0 : Int32))] [(.long j7), (.int i9), (.ref aP)])) rfl (by rw [hml]; rfl) (Steps.refl _) (argsL := [(.int i9), (.long j7)]) (rest := []) (lenOf pd0_0 rfl) rfl (by show 2 * 0 + _ ≤ _; exact Nat.le_of_eq rfl) (hb hby at_135) (fun _ _ => ⟨rfl, e1, (by decide : 0 + 0 ≤ _), (by decide : 0 + 0 ≤ _)⟩)
          dsimp only [Pt.U, Pt.locs, Pt.cells, Pt.slots] at X5 l5 y5 z5 st5 hQ5
          subst l5 y5 z5
          obtain ⟨rfl, Nq5, e5⟩ := hQ5
          have N5 := Fr.app N0 Nq5
          refine own_go (fun t k => st5.trans k) ?_
          show own_Go p e below _ (T5.setTop (mkF m 138 #[.val (.int p0), .val (.int p1), .val (.long q2), .second, .val (.int (0 : Int32)), .val (.ref aP), .val (.int i6), .val (.long j7), .second, .val (.int i9), .val (.int (0 : Int32))] [(.int (own_cl (0 : Int32) i9 j7))]))
          refine own_go (fun t k => XS.iload X5.here hx rfl (hb hby at_138) rfl k) ?_
          show own_Go p e below _ (T5.setTop (mkF m 140 #[.val (.int p0), .val (.int p1), .val (.long q2), .second, .val (.int (0 : Int32)), .val (.ref aP), .val (.int i6), .val (.long j7), .second, .val (.int i9), .val (.int (0 : Int32))] [(.int (0 : Int32)), (.int (own_cl (0 : Int32) i9 j7))]))
          refine own_go (fun t k => XS.icmpNo X5.here hx rfl (hb hby at_140) rfl (teq (by simp only [lw_lt, lw_gt, lw_eq, own_lt1, Decidable.not_not] at hc119; simp [own_cl, hc119] : (own_cl (0 : Int32) i9 j7) = (0 : Int32))).2 k) ?_
          show own_Go p e below _ (T5.setTop (mkF m 143 #[.val (.int p0), .val (.int p1), .val (.long q2), .second, .val (.int (0 : Int32)), .val (.ref aP), .val (.int i6), .val (.long j7), .second, .val (.int i9), .val (.int (0 : Int32))] []))
          refine own_go (fun t k => XS.iconst X5.here hx rfl (hb hby at_143) k) ?_
          show own_Go p e below _ (T5.setTop (mkF m 144 #[.val (.int p0), .val (.int p1), .val (.long q2), .second, .val (.int (0 : Int32)), .val (.ref aP), .val (.int i6), .val (.long j7), .second, .val (.int i9), .val (.int (0 : Int32))] [(.int (1 : Int32))]))
          refine own_go (fun t k => XS.goto X5.here hx rfl (pc0 := 144) (pc' := 148) rfl (hb hby at_144) (by decide) (by decide) k) ?_
          show own_Go p e below _ (T5.setTop (mkF m 148 #[.val (.int p0), .val (.int p1), .val (.long q2), .second, .val (.int (0 : Int32)), .val (.ref aP), .val (.int i6), .val (.long j7), .second, .val (.int i9), .val (.int (0 : Int32))] [(.int (1 : Int32))]))
          exact own_retN X5 hx (t := .boolean) Bd.returns (by simp) (hb hby at_148) (⟨rfl, N5⟩) (by decide) (by decide)
      show own_Go p e below _ (T1.setTop (mkF m 64 #[.val (.int p0), .val (.int p1), .val (.long q2), .second, .val (.int (0 : Int32)), .val (.ref aP), .val (.int i6), .val (.long j7), .second, .unset, .unset] []))
      refine own_go (fun t k => XS.iloadN X1.here hx rfl (hb hby at_64) rfl k) ?_
      show own_Go p e below _ (T1.setTop (mkF m 65 #[.val (.int p0), .val (.int p1), .val (.long q2), .second, .val (.int (0 : Int32)), .val (.ref aP), .val (.int i6), .val (.long j7), .second, .unset, .unset] [(.int p0)]))
      refine own_go (fun t k => XS.bipush X1.here hx rfl (hb hby at_65) k) ?_
      show own_Go p e below _ (T1.setTop (mkF m 67 #[.val (.int p0), .val (.int p1), .val (.long q2), .second, .val (.int (0 : Int32)), .val (.ref aP), .val (.int i6), .val (.long j7), .second, .unset, .unset] [(.int (8 : Int32)), (.int p0)]))
      refine own_go (fun t k => XS.iand X1.here hx rfl (hb hby at_67) rfl k) ?_
      show own_Go p e below _ (T1.setTop (mkF m 68 #[.val (.int p0), .val (.int p1), .val (.long q2), .second, .val (.int (0 : Int32)), .val (.ref aP), .val (.int i6), .val (.long j7), .second, .unset, .unset] [(.int (p0 &&& (8 : Int32)))]))
      by_cases hc68 : (p0 &&& (8 : Int32)) = (0 : Int32)
      · refine own_go (fun t k => XS.ifYes X1.here hx rfl (pc0 := 68) (pc' := 76) rfl (hb hby at_68) rfl ((if0 _ _).trans (teq hc68).1) (by decide) (by decide) k) ?_
        show own_Go p e below _ (T1.setTop (mkF m 76 #[.val (.int p0), .val (.int p1), .val (.long q2), .second, .val (.int (0 : Int32)), .val (.ref aP), .val (.int i6), .val (.long j7), .second, .unset, .unset] []))
        refine own_go (fun t k => XS.iloadN X1.here hx rfl (hb hby at_76) rfl k) ?_
        show own_Go p e below _ (T1.setTop (mkF m 77 #[.val (.int p0), .val (.int p1), .val (.long q2), .second, .val (.int (0 : Int32)), .val (.ref aP), .val (.int i6), .val (.long j7), .second, .unset, .unset] [(.int p1)]))
        refine own_go (fun t k => XS.i2b X1.here hx rfl (hb hby at_77) rfl k) ?_
        show own_Go p e below _ (T1.setTop (mkF m 78 #[.val (.int p0), .val (.int p1), .val (.long q2), .second, .val (.int (0 : Int32)), .val (.ref aP), .val (.int i6), .val (.long j7), .second, .unset, .unset] [(.int (p1.toInt8.toInt32))]))
        refine own_go (fun t k => XS.istore X1.here hx rfl (hb hby at_78) rfl (l' := #[.val (.int p0), .val (.int p1), .val (.long q2), .second, .val (.int (0 : Int32)), .val (.ref aP), .val (.int i6), .val (.long j7), .second, .val (.int (p1.toInt8.toInt32)), .unset]) rfl k) ?_
        exact J80 _
      · refine own_go (fun t k => XS.ifNo X1.here hx rfl (hb hby at_68) rfl ((if0 _ _).trans (feq hc68).1) k) ?_
        show own_Go p e below _ (T1.setTop (mkF m 71 #[.val (.int p0), .val (.int p1), .val (.long q2), .second, .val (.int (0 : Int32)), .val (.ref aP), .val (.int i6), .val (.long j7), .second, .unset, .unset] []))
        refine own_go (fun t k => XS.bipush X1.here hx rfl (hb hby at_71) k) ?_
        show own_Go p e below _ (T1.setTop (mkF m 73 #[.val (.int p0), .val (.int p1), .val (.long q2), .second, .val (.int (0 : Int32)), .val (.ref aP), .val (.int i6), .val (.long j7), .second, .unset, .unset] [(.int (61 : Int32))]))
        refine own_go (fun t k => XS.goto X1.here hx rfl (pc0 := 73) (pc' := 78) rfl (hb hby at_73) (by decide) (by decide) k) ?_
        show own_Go p e below _ (T1.setTop (mkF m 78 #[.val (.int p0), .val (.int p1), .val (.long q2), .second, .val (.int (0 : Int32)), .val (.ref aP), .val (.int i6), .val (.long j7), .second, .unset, .unset] [(.int (61 : Int32))]))
        refine own_go (fun t k => XS.istore X1.here hx rfl (hb hby at_78) rfl (l' := #[.val (.int p0), .val (.int p1), .val (.long q2), .second, .val (.int (0 : Int32)), .val (.ref aP), .val (.int i6), .val (.long j7), .second, .val (.int (61 : Int32)), .unset]) rfl k) ?_
        exact J80 _
    show own_Go p e below _ (T1.setTop (mkF m 29 #[.val (.int p0), .val (.int p1), .val (.long q2), .second, .val (.int (0 : Int32)), .val (.ref aP), .unset, .unset, .unset, .unset, .unset] []))
    refine own_go (fun t k => XS.iloadN X1.here hx rfl (hb hby at_29) rfl k) ?_
    show own_Go p e below _ (T1.setTop (mkF m 30 #[.val (.int p0), .val (.int p1), .val (.long q2), .second, .val (.int (0 : Int32)), .val (.ref aP), .unset, .unset, .unset, .unset, .unset] [(.int p0)]))
    refine own_go (fun t k => XS.iconst X1.here hx rfl (hb hby at_30) k) ?_
    show own_Go p e below _ (T1.setTop (mkF m 31 #[.val (.int p0), .val (.int p1), .val (.long q2), .second, .val (.int (0 : Int32)), .val (.ref aP), .unset, .unset, .unset, .unset, .unset] [(.int (1 : Int32)), (.int p0)]))
    refine own_go (fun t k => XS.iushr X1.here hx rfl (hb hby at_31) rfl k) ?_
    show own_Go p e below _ (T1.setTop (mkF m 32 #[.val (.int p0), .val (.int p1), .val (.long q2), .second, .val (.int (0 : Int32)), .val (.ref aP), .unset, .unset, .unset, .unset, .unset] [(.int ((p0.toUInt32 >>> ((1 : Int32) &&& 31).toUInt32).toInt32))]))
    refine own_go (fun t k => XS.iconst X1.here hx rfl (hb hby at_32) k) ?_
    show own_Go p e below _ (T1.setTop (mkF m 33 #[.val (.int p0), .val (.int p1), .val (.long q2), .second, .val (.int (0 : Int32)), .val (.ref aP), .unset, .unset, .unset, .unset, .unset] [(.int (3 : Int32)), (.int ((p0.toUInt32 >>> ((1 : Int32) &&& 31).toUInt32).toInt32))]))
    refine own_go (fun t k => XS.iand X1.here hx rfl (hb hby at_33) rfl k) ?_
    show own_Go p e below _ (T1.setTop (mkF m 34 #[.val (.int p0), .val (.int p1), .val (.long q2), .second, .val (.int (0 : Int32)), .val (.ref aP), .unset, .unset, .unset, .unset, .unset] [(.int (((p0.toUInt32 >>> ((1 : Int32) &&& 31).toUInt32).toInt32) &&& (3 : Int32)))]))
    refine own_go (fun t k => XS.istore X1.here hx rfl (hb hby at_34) rfl (l' := #[.val (.int p0), .val (.int p1), .val (.long q2), .second, .val (.int (0 : Int32)), .val (.ref aP), .val (.int (((p0.toUInt32 >>> ((1 : Int32) &&& 31).toUInt32).toInt32) &&& (3 : Int32))), .unset, .unset, .unset, .unset]) rfl k) ?_
    show own_Go p e below _ (T1.setTop (mkF m 36 #[.val (.int p0), .val (.int p1), .val (.long q2), .second, .val (.int (0 : Int32)), .val (.ref aP), .val (.int (((p0.toUInt32 >>> ((1 : Int32) &&& 31).toUInt32).toInt32) &&& (3 : Int32))), .unset, .unset, .unset, .unset] []))
    refine own_go (fun t k => XS.iload X1.here hx rfl (hb hby at_36) rfl k) ?_
    show own_Go p e below _ (T1.setTop (mkF m 38 #[.val (.int p0), .val (.int p1), .val (.long q2), .second, .val (.int (0 : Int32)), .val (.ref aP), .val (.int (((p0.toUInt32 >>> ((1 : Int32) &&& 31).toUInt32).toInt32) &&& (3 : Int32))), .unset, .unset, .unset, .unset] [(.int (((p0.toUInt32 >>> ((1 : Int32) &&& 31).toUInt32).toInt32) &&& (3 : Int32)))]))
    by_cases hc38 : (((p0.toUInt32 >>> ((1 : Int32) &&& 31).toUInt32).toInt32) &&& (3 : Int32)) = (0 : Int32)
    · refine own_go (fun t k => XS.ifNo X1.here hx rfl (hb hby at_38) rfl ((if0 _ _).trans (teq hc38).2) k) ?_
      show own_Go p e below _ (T1.setTop (mkF m 41 #[.val (.int p0), .val (.int p1), .val (.long q2), .second, .val (.int (0 : Int32)), .val (.ref aP), .val (.int (((p0.toUInt32 >>> ((1 : Int32) &&& 31).toUInt32).toInt32) &&& (3 : Int32))), .unset, .unset, .unset, .unset] []))
      refine own_go (fun t k => XS.lconst X1.here hx rfl (hb hby at_41) k) ?_
      show own_Go p e below _ (T1.setTop (mkF m 42 #[.val (.int p0), .val (.int p1), .val (.long q2), .second, .val (.int (0 : Int32)), .val (.ref aP), .val (.int (((p0.toUInt32 >>> ((1 : Int32) &&& 31).toUInt32).toInt32) &&& (3 : Int32))), .unset, .unset, .unset, .unset] [(.long (0 : Int64))]))
      refine own_go (fun t k => XS.lstore X1.here hx rfl (hb hby at_42) rfl (l' := #[.val (.int p0), .val (.int p1), .val (.long q2), .second, .val (.int (0 : Int32)), .val (.ref aP), .val (.int (((p0.toUInt32 >>> ((1 : Int32) &&& 31).toUInt32).toInt32) &&& (3 : Int32))), .val (.long (0 : Int64)), .second, .unset, .unset]) rfl k) ?_
      show own_Go p e below _ (T1.setTop (mkF m 44 #[.val (.int p0), .val (.int p1), .val (.long q2), .second, .val (.int (0 : Int32)), .val (.ref aP), .val (.int (((p0.toUInt32 >>> ((1 : Int32) &&& 31).toUInt32).toInt32) &&& (3 : Int32))), .val (.long (0 : Int64)), .second, .unset, .unset] []))
      refine own_go (fun t k => XS.goto X1.here hx rfl (pc0 := 44) (pc' := 64) rfl (hb hby at_44) (by decide) (by decide) k) ?_
      exact J64 _ _
    · refine own_go (fun t k => XS.ifYes X1.here hx rfl (pc0 := 38) (pc' := 47) rfl (hb hby at_38) rfl ((if0 _ _).trans (feq hc38).2) (by decide) (by decide) k) ?_
      show own_Go p e below _ (T1.setTop (mkF m 47 #[.val (.int p0), .val (.int p1), .val (.long q2), .second, .val (.int (0 : Int32)), .val (.ref aP), .val (.int (((p0.toUInt32 >>> ((1 : Int32) &&& 31).toUInt32).toInt32) &&& (3 : Int32))), .unset, .unset, .unset, .unset] []))
      refine own_go (fun t k => XS.iload X1.here hx rfl (hb hby at_47) rfl k) ?_
      show own_Go p e below _ (T1.setTop (mkF m 49 #[.val (.int p0), .val (.int p1), .val (.long q2), .second, .val (.int (0 : Int32)), .val (.ref aP), .val (.int (((p0.toUInt32 >>> ((1 : Int32) &&& 31).toUInt32).toInt32) &&& (3 : Int32))), .unset, .unset, .unset, .unset] [(.int (((p0.toUInt32 >>> ((1 : Int32) &&& 31).toUInt32).toInt32) &&& (3 : Int32)))]))
      refine own_go (fun t k => XS.iconst X1.here hx rfl (hb hby at_49) k) ?_
      show own_Go p e below _ (T1.setTop (mkF m 50 #[.val (.int p0), .val (.int p1), .val (.long q2), .second, .val (.int (0 : Int32)), .val (.ref aP), .val (.int (((p0.toUInt32 >>> ((1 : Int32) &&& 31).toUInt32).toInt32) &&& (3 : Int32))), .unset, .unset, .unset, .unset] [(.int (1 : Int32)), (.int (((p0.toUInt32 >>> ((1 : Int32) &&& 31).toUInt32).toInt32) &&& (3 : Int32)))]))
      by_cases hc50 : (((p0.toUInt32 >>> ((1 : Int32) &&& 31).toUInt32).toInt32) &&& (3 : Int32)) = (1 : Int32)
      · refine own_go (fun t k => XS.icmpNo X1.here hx rfl (hb hby at_50) rfl (teq hc50).2 k) ?_
        show own_Go p e below _ (T1.setTop (mkF m 53 #[.val (.int p0), .val (.int p1), .val (.long q2), .second, .val (.int (0 : Int32)), .val (.ref aP), .val (.int (((p0.toUInt32 >>> ((1 : Int32) &&& 31).toUInt32).toInt32) &&& (3 : Int32))), .unset, .unset, .unset, .unset] []))
        refine own_go (fun t k => XS.lloadN X1.here hx rfl (hb hby at_53) rfl k) ?_
        show own_Go p e below _ (T1.setTop (mkF m 54 #[.val (.int p0), .val (.int p1), .val (.long q2), .second, .val (.int (0 : Int32)), .val (.ref aP), .val (.int (((p0.toUInt32 >>> ((1 : Int32) &&& 31).toUInt32).toInt32) &&& (3 : Int32))), .unset, .unset, .unset, .unset] [(.long q2)]))
        refine own_go (fun t k => XS.lconst X1.here hx rfl (hb hby at_54) k) ?_
        show own_Go p e below _ (T1.setTop (mkF m 55 #[.val (.int p0), .val (.int p1), .val (.long q2), .second, .val (.int (0 : Int32)), .val (.ref aP), .val (.int (((p0.toUInt32 >>> ((1 : Int32) &&& 31).toUInt32).toInt32) &&& (3 : Int32))), .unset, .unset, .unset, .unset] [(.long (1 : Int64)), (.long q2)]))
        refine own_go (fun t k => XS.land X1.here hx rfl (hb hby at_55) rfl k) ?_
        show own_Go p e below _ (T1.setTop (mkF m 56 #[.val (.int p0), .val (.int p1), .val (.long q2), .second, .val (.int (0 : Int32)), .val (.ref aP), .val (.int (((p0.toUInt32 >>> ((1 : Int32) &&& 31).toUInt32).toInt32) &&& (3 : Int32))), .unset, .unset, .unset, .unset] [(.long (q2 &&& (1 : Int64)))]))
        refine own_go (fun t k => XS.lstore X1.here hx rfl (hb hby at_56) rfl (l' := #[.val (.int p0), .val (.int p1), .val (.long q2), .second, .val (.int (0 : Int32)), .val (.ref aP), .val (.int (((p0.toUInt32 >>> ((1 : Int32) &&& 31).toUInt32).toInt32) &&& (3 : Int32))), .val (.long (q2 &&& (1 : Int64))), .second, .unset, .unset]) rfl k) ?_
        show own_Go p e below _ (T1.setTop (mkF m 58 #[.val (.int p0), .val (.int p1), .val (.long q2), .second, .val (.int (0 : Int32)), .val (.ref aP), .val (.int (((p0.toUInt32 >>> ((1 : Int32) &&& 31).toUInt32).toInt32) &&& (3 : Int32))), .val (.long (q2 &&& (1 : Int64))), .second, .unset, .unset] []))
        refine own_go (fun t k => XS.goto X1.here hx rfl (pc0 := 58) (pc' := 64) rfl (hb hby at_58) (by decide) (by decide) k) ?_
        exact J64 _ _
      · refine own_go (fun t k => XS.icmpYes X1.here hx rfl (pc0 := 50) (pc' := 61) rfl (hb hby at_50) rfl (feq hc50).2 (by decide) (by decide) k) ?_
        show own_Go p e below _ (T1.setTop (mkF m 61 #[.val (.int p0), .val (.int p1), .val (.long q2), .second, .val (.int (0 : Int32)), .val (.ref aP), .val (.int (((p0.toUInt32 >>> ((1 : Int32) &&& 31).toUInt32).toInt32) &&& (3 : Int32))), .unset, .unset, .unset, .unset] []))
        refine own_go (fun t k => XS.lloadN X1.here hx rfl (hb hby at_61) rfl k) ?_
        show own_Go p e below _ (T1.setTop (mkF m 62 #[.val (.int p0), .val (.int p1), .val (.long q2), .second, .val (.int (0 : Int32)), .val (.ref aP), .val (.int (((p0.toUInt32 >>> ((1 : Int32) &&& 31).toUInt32).toInt32) &&& (3 : Int32))), .unset, .unset, .unset, .unset] [(.long q2)]))
        refine own_go (fun t k => XS.lstore X1.here hx rfl (hb hby at_62) rfl (l' := #[.val (.int p0), .val (.int p1), .val (.long q2), .second, .val (.int (0 : Int32)), .val (.ref aP), .val (.int (((p0.toUInt32 >>> ((1 : Int32) &&& 31).toUInt32).toInt32) &&& (3 : Int32))), .val (.long q2), .second, .unset, .unset]) rfl k) ?_
        exact J64 _ _
  · refine own_go (fun t k => XS.ifNo X0.here hx rfl (hb hby at_3) rfl ((if0 _ _).trans (feq hc3).1) k) ?_
    show own_Go p e below _ (s₁.setTop (mkF m 6 #[.val (.int p0), .val (.int p1), .val (.long q2), .second, .unset, .unset, .unset, .unset, .unset, .unset, .unset] []))
    refine own_go (fun t k => XS.iconst X0.here hx rfl (hb hby at_6) k) ?_
    show own_Go p e below _ (s₁.setTop (mkF m 7 #[.val (.int p0), .val (.int p1), .val (.long q2), .second, .unset, .unset, .unset, .unset, .unset, .unset, .unset] [(.int (1 : Int32))]))
    refine own_go (fun t k => XS.goto X0.here hx rfl (pc0 := 7) (pc' := 11) rfl (hb hby at_7) (by decide) (by decide) k) ?_
    show own_Go p e below _ (s₁.setTop (mkF m 11 #[.val (.int p0), .val (.int p1), .val (.long q2), .second, .unset, .unset, .unset, .unset, .unset, .unset, .unset] [(.int (1 : Int32))]))
    refine own_go (fun t k => XS.istore X0.here hx rfl (hb hby at_11) rfl (l' := #[.val (.int p0), .val (.int p1), .val (.long q2), .second, .val (.int (1 : Int32)), .unset, .unset, .unset, .unset, .unset, .unset]) rfl k) ?_
    show own_Go p e below _ (s₁.setTop (mkF m 13 #[.val (.int p0), .val (.int p1), .val (.long q2), .second, .val (.int (1 : Int32)), .unset, .unset, .unset, .unset, .unset, .unset] []))
    refine own_go (fun t k => XS.iload X0.here hx rfl (hb hby at_13) rfl k) ?_
    show own_Go p e below _ (s₁.setTop (mkF m 15 #[.val (.int p0), .val (.int p1), .val (.long q2), .second, .val (.int (1 : Int32)), .unset, .unset, .unset, .unset, .unset, .unset] [(.int (1 : Int32))]))
    refine own_go (fun t k => XS.ifNo X0.here hx rfl (hb hby at_15) rfl ((if0 _ _).trans (feq (by decide : ¬ ((1 : Int32) = (0 : Int32)))).1) k) ?_
    show own_Go p e below _ (s₁.setTop (mkF m 18 #[.val (.int p0), .val (.int p1), .val (.long q2), .second, .val (.int (1 : Int32)), .unset, .unset, .unset, .unset, .unset, .unset] []))
    obtain ⟨T6, X6, e6, st6⟩ := getS2 X0 hx hZ hown (host := "") (Or.inl (hw _ (List.mem_of_getElem? (i := 10) rfl))) Via.refl e0 SC (g := (mkF m 18 #[.val (.int p0), .val (.int p1), .val (.long q2), .second, .val (.int (1 : Int32)), .unset, .unset, .unset, .unset, .unset, .unset] [])) rfl (hb hby at_18)
    refine own_go (fun t k => st6 t k) ?_
    show own_Go p e below _ (T6.setTop (mkF m 21 #[.val (.int p0), .val (.int p1), .val (.long q2), .second, .val (.int (1 : Int32)), .unset, .unset, .unset, .unset, .unset, .unset] [(.ref aC)]))
    refine own_go (fun t k => XS.goto X6.here hx rfl (pc0 := 21) (pc' := 27) rfl (hb hby at_21) (by decide) (by decide) k) ?_
    show own_Go p e below _ (T6.setTop (mkF m 27 #[.val (.int p0), .val (.int p1), .val (.long q2), .second, .val (.int (1 : Int32)), .unset, .unset, .unset, .unset, .unset, .unset] [(.ref aC)]))
    refine own_go (fun t k => XS.astore X6.here hx rfl (hb hby at_27) rfl rfl (l' := #[.val (.int p0), .val (.int p1), .val (.long q2), .second, .val (.int (1 : Int32)), .val (.ref aC), .unset, .unset, .unset, .unset, .unset]) rfl k) ?_
    have J64 : ∀ (i6 : Int32) (j7 : Int64), own_Go p e below (fun o U' => ∃ v L, o = .returned v ∧ own_Q1 n0 v U'.heap L ∧ FrameEnd s o U' L room_1.cells room_1.slots) (T6.setTop (mkF m 64 #[.val (.int p0), .val (.int p1), .val (.long q2), .second, .val (.int (1 : Int32)), .val (.ref aC), .val (.int i6), .val (.long j7), .second, .unset, .unset] [])) := by
      intro i6 j7
      have J80 : ∀ (i9 : Int32), own_Go p e below (fun o U' => ∃ v L, o = .returned v ∧ own_Q1 n0 v U'.heap L ∧ FrameEnd s o U' L room_1.cells room_1.slots) (T6.setTop (mkF m 80 #[.val (.int p0), .val (.int p1), .val (.long q2), .second, .val (.int (1 : Int32)), .val (.ref aC), .val (.int i6), .val (.long j7), .second, .val (.int i9), .unset] [])) := by
        intro i9
        show own_Go p e below _ (T6.setTop (mkF m 80 #[.val (.int p0), .val (.int p1), .val (.long q2), .second, .val (.int (1 : Int32)), .val (.ref aC), .val (.int i6), .val (.long j7), .second, .val (.int i9), .unset] []))
        refine own_go (fun t k => XS.iload X6.here hx rfl (hb hby at_80) rfl k) ?_
        show own_Go p e below _ (T6.setTop (mkF m 82 #[.val (.int p0), .val (.int p1), .val (.long q2), .second, .val (.int (1 : Int32)), .val (.ref aC), .val (.int i6), .val (.long j7), .second, .val (.int i9), .unset] [(.int (1 : Int32))]))
        refine own_go (fun t k => XS.ifNo X6.here hx rfl (hb hby at_82) rfl ((if0 _ _).trans (feq (by decide : ¬ ((1 : Int32) = (0 : Int32)))).1) k) ?_
        show own_Go p e below _ (T6.setTop (mkF m 85 #[.val (.int p0), .val (.int p1), .val (.long q2), .second, .val (.int (1 : Int32)), .val (.ref aC), .val (.int i6), .val (.long j7), .second, .val (.int i9), .unset] []))
        refine own_go (fun t k => XS.lload X6.here hx rfl (hb hby at_85) rfl k) ?_
        show own_Go p e below _ (T6.setTop (mkF m 87 #[.val (.int p0), .val (.int p1), .val (.long q2), .second, .val (.int (1 : Int32)), .val (.ref aC), .val (.int i6), .val (.long j7), .second, .val (.int i9), .unset] [(.long j7)]))
        refine own_go (fun t k => XS.lconst X6.here hx rfl (hb hby at_87) k) ?_
        show own_Go p e below _ (T6.setTop (mkF m 88 #[.val (.int p0), .val (.int p1), .val (.long q2), .second, .val (.int (1 : Int32)), .val (.ref aC), .val (.int i6), .val (.long j7), .second, .val (.int i9), .unset] [(.long (1 : Int64)), (.long j7)]))
        refine own_go (fun t k => XS.lcmp X6.here hx rfl (hb hby at_88) rfl k) ?_
        show own_Go p e below _ (T6.setTop (mkF m 89 #[.val (.int p0), .val (.int p1), .val (.long q2), .second, .val (.int (1 : Int32)), .val (.ref aC), .val (.int i6), .val (.long j7), .second, .val (.int i9), .unset] [(.int (lcmpW j7 (1 : Int64)))]))
        by_cases hc89 : (lcmpW j7 (1 : Int64)) < (0 : Int32)
        · refine own_go (fun t k => XS.ifYes X6.here hx rfl (pc0 := 89) (pc' := 109) rfl (hb hby at_89) rfl ((if0 _ _).trans (tlt hc89).1) (by decide) (by decide) k) ?_
          show own_Go p e below _ (T6.setTop (mkF m 109 #[.val (.int p0), .val (.int p1), .val (.long q2), .second, .val (.int (1 : Int32)), .val (.ref aC), .val (.int i6), .val (.long j7), .second, .val (.int i9), .unset] []))
          refine own_go (fun t k => XS.iconst X6.here hx rfl (hb hby at_109) k) ?_
          show own_Go p e below _ (T6.setTop (mkF m 110 #[.val (.int p0), .val (.int p1), .val (.long q2), .second, .val (.int (1 : Int32)), .val (.ref aC), .val (.int i6), .val (.long j7), .second, .val (.int i9), .unset] [(.int (0 : Int32))]))
          refine own_go (fun t k => XS.istore X6.here hx rfl (hb hby at_110) rfl (l' := #[.val (.int p0), .val (.int p1), .val (.long q2), .second, .val (.int (1 : Int32)), .val (.ref aC), .val (.int i6), .val (.long j7), .second, .val (.int i9), .val (.int (0 : Int32))]) rfl k) ?_
          show own_Go p e below _ (T6.setTop (mkF m 112 #[.val (.int p0), .val (.int p1), .val (.long q2), .second, .val (.int (1 : Int32)), .val (.ref aC), .val (.int i6), .val (.long j7), .second, .val (.int i9), .val (.int (0 : Int32))] []))
          refine own_go (fun t k => XS.goto X6.here hx rfl (pc0 := 112) (pc' := 129) rfl (hb hby at_112) (by decide) (by decide) k) ?_
          show own_Go p e below _ (T6.setTop (mkF m 129 #[.val (.int p0), .val (.int p1), .val (.long q2), .second, .val (.int (1 : Int32)), .val (.ref aC), .val (.int i6), .val (.long j7), .second, .val (.int i9), .val (.int (0 : Int32))] []))
          refine own_go (fun t k => XS.aload X6.here hx rfl (hb hby at_129) rfl rfl k) ?_
          show own_Go p e below _ (T6.setTop (mkF m 131 #[.val (.int p0), .val (.int p1), .val (.long q2), .second, .val (.int (1 : Int32)), .val (.ref aC), .val (.int i6), .val (.long j7), .second, .val (.int i9), .val (.int (0 : Int32))] [(.ref aC)]))
          refine own_go (fun t k => XS.iload X6.here hx rfl (hb hby at_131) rfl k) ?_
          show own_Go p e below _ (T6.setTop (mkF m 133 #[.val (.int p0), .val (.int p1), .val (.long q2), .second, .val (.int (1 : Int32)), .val (.ref aC), .val (.int i6), .val (.long j7), .second, .val (.int i9), .val (.int (0 : Int32))] [(.int i9), (.ref aC)]))
          refine own_go (fun t k => XS.lload X6.here hx rfl (hb hby at_133) rfl k) ?_
          show own_Go p e below _ (T6.setTop (mkF m 135 #[.val (.int p0), .val (.int p1), .val (.long q2), .second, .val (.int (1 : Int32)), .val (.ref aC), .val (.int i6), .val (.long j7), .second, .val (.int i9), .val (.int (0 : Int32))] [(.long j7), (.int i9), (.ref aC)]))
          obtain ⟨cq9, kq9, q9a, q9b, q9c⟩ := isOf hZ e6 EC
          obtain ⟨_, _, ⟨T9, L9, k9, n9⟩, -, X9, ⟨Lc9, hQ9, l9, y9, z9⟩, st9⟩ := X6.virtualBack hx (y := (⟨"com/example/prizewell/prizewell/store/JournalFormat", "closes", "(BJ)Z"⟩ : MethodName)) (z := (⟨"com/example/prizewell/prizewell/store/JournalFormat", "closes", "(BJ)Z"⟩ : MethodName)) hown (mvT hZ (hw _ (List.mem_of_getElem? (i := 3) rfl))) (mvT hZ (hw _ (List.mem_of_getElem? (i := 4) rfl))) (notFace_of_selects (args := #[]) (mvT hZ (hw _ (List.mem_of_getElem? (i := 6) rfl)))) (mvT hZ (hw _ (List.mem_of_getElem? (i := 6) rfl))) (mvT hZ (hw _ (List.mem_of_getElem? (i := 5) rfl))) (by decide) (backOf (W := 0) (rm1 l Z a0 hw [] aC (1 : Int32) i9 j7 h0 n0 Z0 FC) hZ (hw _ (List.mem_of_getElem? (i := 7) rfl)) (hw _ (List.mem_of_getElem? (i := 1) rfl)) (by decide) (by decide)) q9a q9c (g := (mkF m 135 #[.val (.int p0), .val (.int p1), .val (.long q2), .second, .val (.int (1 : Int32)), .val (.ref aC), .val (.int i6), .val (.long j7), .second, .val (.int i9), .val (.int (0 : Int32))] [(.long j7), (.int i9), (.ref aC)])) rfl (by rw [hml]; rfl) (Steps.refl _) (argsL := [(.int i9), (.long j7)]) (rest := []) (lenOf pd0_0 rfl) rfl (by show 2 * 0 + _ ≤ _; exact Nat.le_of_eq rfl) (hb hby at_135) (fun _ _ => ⟨rfl, e6, (by decide : 0 + 0 ≤ _), (by decide : 0 + 0 ≤ _)⟩)
          dsimp only [Pt.U, Pt.locs, Pt.cells, Pt.slots] at X9 l9 y9 z9 st9 hQ9
          subst l9 y9 z9
          obtain ⟨rfl, Nq9, e9⟩ := hQ9
          have N9 := Fr.app N0 Nq9
          refine own_go (fun t k => st9.trans k) ?_
          show own_Go p e below _ (T9.setTop (mkF m 138 #[.val (.int p0), .val (.int p1), .val (.long q2), .second, .val (.int (1 : Int32)), .val (.ref aC), .val (.int i6), .val (.long j7), .second, .val (.int i9), .val (.int (0 : Int32))] [(.int (own_cl (1 : Int32) i9 j7))]))
          refine own_go (fun t k => XS.iload X9.here hx rfl (hb hby at_138) rfl k) ?_
          show own_Go p e below _ (T9.setTop (mkF m 140 #[.val (.int p0), .val (.int p1), .val (.long q2), .second, .val (.int (1 : Int32)), .val (.ref aC), .val (.int i6), .val (.long j7), .second, .val (.int i9), .val (.int (0 : Int32))] [(.int (0 : Int32)), (.int (own_cl (1 : Int32) i9 j7))]))
          refine own_go (fun t k => XS.icmpNo X9.here hx rfl (hb hby at_140) rfl (teq (by simp only [lw_lt, lw_gt, lw_eq, own_lt1, Decidable.not_not] at hc89; simp [own_cl, hc89] : (own_cl (1 : Int32) i9 j7) = (0 : Int32))).2 k) ?_
          show own_Go p e below _ (T9.setTop (mkF m 143 #[.val (.int p0), .val (.int p1), .val (.long q2), .second, .val (.int (1 : Int32)), .val (.ref aC), .val (.int i6), .val (.long j7), .second, .val (.int i9), .val (.int (0 : Int32))] []))
          refine own_go (fun t k => XS.iconst X9.here hx rfl (hb hby at_143) k) ?_
          show own_Go p e below _ (T9.setTop (mkF m 144 #[.val (.int p0), .val (.int p1), .val (.long q2), .second, .val (.int (1 : Int32)), .val (.ref aC), .val (.int i6), .val (.long j7), .second, .val (.int i9), .val (.int (0 : Int32))] [(.int (1 : Int32))]))
          refine own_go (fun t k => XS.goto X9.here hx rfl (pc0 := 144) (pc' := 148) rfl (hb hby at_144) (by decide) (by decide) k) ?_
          show own_Go p e below _ (T9.setTop (mkF m 148 #[.val (.int p0), .val (.int p1), .val (.long q2), .second, .val (.int (1 : Int32)), .val (.ref aC), .val (.int i6), .val (.long j7), .second, .val (.int i9), .val (.int (0 : Int32))] [(.int (1 : Int32))]))
          exact own_retN X9 hx (t := .boolean) Bd.returns (by simp) (hb hby at_148) (⟨rfl, N9⟩) (by decide) (by decide)
        · refine own_go (fun t k => XS.ifNo X6.here hx rfl (hb hby at_89) rfl ((if0 _ _).trans (flt hc89).1) k) ?_
          show own_Go p e below _ (T6.setTop (mkF m 92 #[.val (.int p0), .val (.int p1), .val (.long q2), .second, .val (.int (1 : Int32)), .val (.ref aC), .val (.int i6), .val (.long j7), .second, .val (.int i9), .unset] []))
          refine own_go (fun t k => XS.iload X6.here hx rfl (hb hby at_92) rfl k) ?_
          show own_Go p e below _ (T6.setTop (mkF m 94 #[.val (.int p0), .val (.int p1), .val (.long q2), .second, .val (.int (1 : Int32)), .val (.ref aC), .val (.int i6), .val (.long j7), .second, .val (.int i9), .unset] [(.int i9)]))
          refine own_go (fun t k => XS.bipush X6.here hx rfl (hb hby at_94) k) ?_
          show own_Go p e below _ (T6.setTop (mkF m 96 #[.val (.int p0), .val (.int p1), .val (.long q2), .second, .val (.int (1 : Int32)), .val (.ref aC), .val (.int i6), .val (.long j7), .second, .val (.int i9), .unset] [(.int (61 : Int32)), (.int i9)]))
          by_cases hc96 : i9 = (61 : Int32)
          · refine own_go (fun t k => XS.icmpNo X6.here hx rfl (hb hby at_96) rfl (teq hc96).2 k) ?_
            show own_Go p e below _ (T6.setTop (mkF m 99 #[.val (.int p0), .val (.int p1), .val (.long q2), .second, .val (.int (1 : Int32)), .val (.ref aC), .val (.int i6), .val (.long j7), .second, .val (.int i9), .unset] []))
            refine own_go (fun t k => XS.iconst X6.here hx rfl (hb hby at_99) k) ?_
            show own_Go p e below _ (T6.setTop (mkF m 100 #[.val (.int p0), .val (.int p1), .val (.long q2), .second, .val (.int (1 : Int32)), .val (.ref aC), .val (.int i6), .val (.long j7), .second, .val (.int i9), .unset] [(.int (1 : Int32))]))
            refine own_go (fun t k => XS.goto X6.here hx rfl (pc0 := 100) (pc' := 104) rfl (hb hby at_100) (by decide) (by decide) k) ?_
            show own_Go p e below _ (T6.setTop (mkF m 104 #[.val (.int p0), .val (.int p1), .val (.long q2), .second, .val (.int (1 : Int32)), .val (.ref aC), .val (.int i6), .val (.long j7), .second, .val (.int i9), .unset] [(.int (1 : Int32))]))
            refine own_go (fun t k => XS.istore X6.here hx rfl (hb hby at_104) rfl (l' := #[.val (.int p0), .val (.int p1), .val (.long q2), .second, .val (.int (1 : Int32)), .val (.ref aC), .val (.int i6), .val (.long j7), .second, .val (.int i9), .val (.int (1 : Int32))]) rfl k) ?_
            show own_Go p e below _ (T6.setTop (mkF m 106 #[.val (.int p0), .val (.int p1), .val (.long q2), .second, .val (.int (1 : Int32)), .val (.ref aC), .val (.int i6), .val (.long j7), .second, .val (.int i9), .val (.int (1 : Int32))] []))
            refine own_go (fun t k => XS.goto X6.here hx rfl (pc0 := 106) (pc' := 129) rfl (hb hby at_106) (by decide) (by decide) k) ?_
            show own_Go p e below _ (T6.setTop (mkF m 129 #[.val (.int p0), .val (.int p1), .val (.long q2), .second, .val (.int (1 : Int32)), .val (.ref aC), .val (.int i6), .val (.long j7), .second, .val (.int i9), .val (.int (1 : Int32))] []))
            refine own_go (fun t k => XS.aload X6.here hx rfl (hb hby at_129) rfl rfl k) ?_
            show own_Go p e below _ (T6.setTop (mkF m 131 #[.val (.int p0), .val (.int p1), .val (.long q2), .second, .val (.int (1 : Int32)), .val (.ref aC), .val (.int i6), .val (.long j7), .second, .val (.int i9), .val (.int (1 : Int32))] [(.ref aC)]))
            refine own_go (fun t k => XS.iload X6.here hx rfl (hb hby at_131) rfl k) ?_
            show own_Go p e below _ (T6.setTop (mkF m 133 #[.val (.int p0), .val (.int p1), .val (.long q2), .second, .val (.int (1 : Int32)), .val (.ref aC), .val (.int i6), .val (.long j7), .second, .val (.int i9), .val (.int (1 : Int32))] [(.int i9), (.ref aC)]))
            refine own_go (fun t k => XS.lload X6.here hx rfl (hb hby at_133) rfl k) ?_
            show own_Go p e below _ (T6.setTop (mkF m 135 #[.val (.int p0), .val (.int p1), .val (.long q2), .second, .val (.int (1 : Int32)), .val (.ref aC), .val (.int i6), .val (.long j7), .second, .val (.int i9), .val (.int (1 : Int32))] [(.long j7), (.int i9), (.ref aC)]))
            obtain ⟨cq10, kq10, q10a, q10b, q10c⟩ := isOf hZ e6 EC
            obtain ⟨_, _, ⟨T10, L10, k10, n10⟩, -, X10, ⟨Lc10, hQ10, l10, y10, z10⟩, st10⟩ := X6.virtualBack hx (y := (⟨"com/example/prizewell/prizewell/store/JournalFormat", "closes", "(BJ)Z"⟩ : MethodName)) (z := (⟨"com/example/prizewell/prizewell/store/JournalFormat", "closes", "(BJ)Z"⟩ : MethodName)) hown (mvT hZ (hw _ (List.mem_of_getElem? (i := 3) rfl))) (mvT hZ (hw _ (List.mem_of_getElem? (i := 4) rfl))) (notFace_of_selects (args := #[]) (mvT hZ (hw _ (List.mem_of_getElem? (i := 6) rfl)))) (mvT hZ (hw _ (List.mem_of_getElem? (i := 6) rfl))) (mvT hZ (hw _ (List.mem_of_getElem? (i := 5) rfl))) (by decide) (backOf (W := 0) (rm1 l Z a0 hw [] aC (1 : Int32) i9 j7 h0 n0 Z0 FC) hZ (hw _ (List.mem_of_getElem? (i := 7) rfl)) (hw _ (List.mem_of_getElem? (i := 1) rfl)) (by decide) (by decide)) q10a q10c (g := (mkF m 135 #[.val (.int p0), .val (.int p1), .val (.long q2), .second, .val (.int (1 : Int32)), .val (.ref aC), .val (.int i6), .val (.long j7), .second, .val (.int i9), .val (.int (1 : Int32))] [(.long j7), (.int i9), (.ref aC)])) rfl (by rw [hml]; rfl) (Steps.refl _) (argsL := [(.int i9), (.long j7)]) (rest := []) (lenOf pd0_0 rfl) rfl (by show 2 * 0 + _ ≤ _; exact Nat.le_of_eq rfl) (hb hby at_135) (fun _ _ => ⟨rfl, e6, (by decide : 0 + 0 ≤ _), (by decide : 0 + 0 ≤ _)⟩)
            dsimp only [Pt.U, Pt.locs, Pt.cells, Pt.slots] at X10 l10 y10 z10 st10 hQ10
            subst l10 y10 z10
            obtain ⟨rfl, Nq10, e10⟩ := hQ10
            have N10 := Fr.app N0 Nq10
            refine own_go (fun t k => st10.trans k) ?_
            show own_Go p e below _ (T10.setTop (mkF m 138 #[.val (.int p0), .val (.int p1), .val (.long q2), .second, .val (.int (1 : Int32)), .val (.ref aC), .val (.int i6), .val (.long j7), .second, .val (.int i9), .val (.int (1 : Int32))] [(.int (own_cl (1 : Int32) i9 j7))]))
            refine own_go (fun t k => XS.iload X10.here hx rfl (hb hby at_138) rfl k) ?_
            show own_Go p e below _ (T10.setTop (mkF m 140 #[.val (.int p0), .val (.int p1), .val (.long q2), .second, .val (.int (1 : Int32)), .val (.ref aC), .val (.int i6), .val (.long j7), .second, .val (.int i9), .val (.int (1 : Int32))] [(.int (1 : Int32)), (.int (own_cl (1 : Int32) i9 j7))]))
            refine own_go (fun t k => XS.icmpNo X10.here hx rfl (hb hby at_140) rfl (teq (by simp only [lw_lt, lw_gt, lw_eq, own_lt1, Decidable.not_not] at hc89 hc96; simp [own_cl, hc89, hc96] : (own_cl (1 : Int32) i9 j7) = (1 : Int32))).2 k) ?_
            show own_Go p e below _ (T10.setTop (mkF m 143 #[.val (.int p0), .val (.int p1), .val (.long q2), .second, .val (.int (1 : Int32)), .val (.ref aC), .val (.int i6), .val (.long j7), .second, .val (.int i9), .val (.int (1 : Int32))] []))
            refine own_go (fun t k => XS.iconst X10.here hx rfl (hb hby at_143) k) ?_
            show own_Go p e below _ (T10.setTop (mkF m 144 #[.val (.int p0), .val (.int p1), .val (.long q2), .second, .val (.int (1 : Int32)), .val (.ref aC), .val (.int i6), .val (.long j7), .second, .val (.int i9), .val (.int (1 : Int32))] [(.int (1 : Int32))]))
            refine own_go (fun t k => XS.goto X10.here hx rfl (pc0 := 144) (pc' := 148) rfl (hb hby at_144) (by decide) (by decide) k) ?_
            show own_Go p e below _ (T10.setTop (mkF m 148 #[.val (.int p0), .val (.int p1), .val (.long q2), .second, .val (.int (1 : Int32)), .val (.ref aC), .val (.int i6), .val (.long j7), .second, .val (.int i9), .val (.int (1 : Int32))] [(.int (1 : Int32))]))
            exact own_retN X10 hx (t := .boolean) Bd.returns (by simp) (hb hby at_148) (⟨rfl, N10⟩) (by decide) (by decide)
          · refine own_go (fun t k => XS.icmpYes X6.here hx rfl (pc0 := 96) (pc' := 103) rfl (hb hby at_96) rfl (feq hc96).2 (by decide) (by decide) k) ?_
            show own_Go p e below _ (T6.setTop (mkF m 103 #[.val (.int p0), .val (.int p1), .val (.long q2), .second, .val (.int (1 : Int32)), .val (.ref aC), .val (.int i6), .val (.long j7), .second, .val (.int i9), .unset] []))
            refine own_go (fun t k => XS.iconst X6.here hx rfl (hb hby at_103) k) ?_
            show own_Go p e below _ (T6.setTop (mkF m 104 #[.val (.int p0), .val (.int p1), .val (.long q2), .second, .val (.int (1 : Int32)), .val (.ref aC), .val (.int i6), .val (.long j7), .second, .val (.int i9), .unset] [(.int (0 : Int32))]))
            refine own_go (fun t k => XS.istore X6.here hx rfl (hb hby at_104) rfl (l' := #[.val (.int p0), .val (.int p1), .val (.long q2), .second, .val (.int (1 : Int32)), .val (.ref aC), .val (.int i6), .val (.long j7), .second, .val (.int i9), .val (.int (0 : Int32))]) rfl k) ?_
            show own_Go p e below _ (T6.setTop (mkF m 106 #[.val (.int p0), .val (.int p1), .val (.long q2), .second, .val (.int (1 : Int32)), .val (.ref aC), .val (.int i6), .val (.long j7), .second, .val (.int i9), .val (.int (0 : Int32))] []))
            refine own_go (fun t k => XS.goto X6.here hx rfl (pc0 := 106) (pc' := 129) rfl (hb hby at_106) (by decide) (by decide) k) ?_
            show own_Go p e below _ (T6.setTop (mkF m 129 #[.val (.int p0), .val (.int p1), .val (.long q2), .second, .val (.int (1 : Int32)), .val (.ref aC), .val (.int i6), .val (.long j7), .second, .val (.int i9), .val (.int (0 : Int32))] []))
            refine own_go (fun t k => XS.aload X6.here hx rfl (hb hby at_129) rfl rfl k) ?_
            show own_Go p e below _ (T6.setTop (mkF m 131 #[.val (.int p0), .val (.int p1), .val (.long q2), .second, .val (.int (1 : Int32)), .val (.ref aC), .val (.int i6), .val (.long j7), .second, .val (.int i9), .val (.int (0 : Int32))] [(.ref aC)]))
            refine own_go (fun t k => XS.iload X6.here hx rfl (hb hby at_131) rfl k) ?_
            show own_Go p e below _ (T6.setTop (mkF m 133 #[.val (.int p0), .val (.int p1), .val (.long q2), .second, .val (.int (1 : Int32)), .val (.ref aC), .val (.int i6), .val (.long j7), .second, .val (.int i9), .val (.int (0 : Int32))] [(.int i9), (.ref aC)]))
            refine own_go (fun t k => XS.lload X6.here hx rfl (hb hby at_133) rfl k) ?_
            show own_Go p e below _ (T6.setTop (mkF m 135 #[.val (.int p0), .val (.int p1), .val (.long q2), .second, .val (.int (1 : Int32)), .val (.ref aC), .val (.int i6), .val (.long j7), .second, .val (.int i9), .val (.int (0 : Int32))] [(.long j7), (.int i9), (.ref aC)]))
            obtain ⟨cq11, kq11, q11a, q11b, q11c⟩ := isOf hZ e6 EC
            obtain ⟨_, _, ⟨T11, L11, k11, n11⟩, -, X11, ⟨Lc11, hQ11, l11, y11, z11⟩, st11⟩ := X6.virtualBack hx (y := (⟨"com/example/prizewell/prizewell/store/JournalFormat", "closes", "(BJ)Z"⟩ : MethodName)) (z := (⟨"com/example/prizewell/prizewell/store/JournalFormat", "closes", "(BJ)Z"⟩ : MethodName)) hown (mvT hZ (hw _ (List.mem_of_getElem? (i := 3) rfl))) (mvT hZ (hw _ (List.mem_of_getElem? (i := 4) rfl))) (notFace_of_selects (args := #[]) (mvT hZ (hw _ (List.mem_of_getElem? (i := 6) rfl)))) (mvT hZ (hw _ (List.mem_of_getElem? (i := 6) rfl))) (mvT hZ (hw _ (List.mem_of_getElem? (i := 5) rfl))) (by decide) (backOf (W := 0) (rm1 l Z a0 hw [] aC (1 : Int32) i9 j7 h0 n0 Z0 FC) hZ (hw _ (List.mem_of_getElem? (i := 7) rfl)) (hw _ (List.mem_of_getElem? (i := 1) rfl)) (by decide) (by decide)) q11a q11c (g := (mkF m 135 #[.val (.int p0), .val (.int p1), .val (.long q2), .second, .val (.int (1 : Int32)), .val (.ref aC), .val (.int i6), .val (.long j7), .second, .val (.int i9), .val (.int (0 : Int32))] [(.long j7), (.int i9), (.ref aC)])) rfl (by rw [hml]; rfl) (Steps.refl _) (argsL := [(.int i9), (.long j7)]) (rest := []) (lenOf pd0_0 rfl) rfl (by show 2 * 0 + _ ≤ _; exact Nat.le_of_eq rfl) (hb hby at_135) (fun _ _ => ⟨rfl, e6, (by decide : 0 + 0 ≤ _), (by decide : 0 + 0 ≤ _)⟩)
            dsimp only [Pt.U, Pt.locs, Pt.cells, Pt.slots] at X11 l11 y11 z11 st11 hQ11
            subst l11 y11 z11
            obtain ⟨rfl, Nq11, e11⟩ := hQ11
            have N11 := Fr.app N0 Nq11
            refine own_go (fun t k => st11.trans k) ?_
            show own_Go p e below _ (T11.setTop (mkF m 138 #[.val (.int p0), .val (.int p1), .val (.long q2), .second, .val (.int (1 : Int32)), .val (.ref aC), .val (.int i6), .val (.long j7), .second, .val (.int i9), .val (.int (0 : Int32))] [(.int (own_cl (1 : Int32) i9 j7))]))
            refine own_go (fun t k => XS.iload X11.here hx rfl (hb hby at_138) rfl k) ?_
            show own_Go p e below _ (T11.setTop (mkF m 140 #[.val (.int p0), .val (.int p1), .val (.long q2), .second, .val (.int (1 : Int32)), .val (.ref aC), .val (.int i6), .val (.long j7), .second, .val (.int i9), .val (.int (0 : Int32))] [(.int (0 : Int32)), (.int (own_cl (1 : Int32) i9 j7))]))
            refine own_go (fun t k => XS.icmpNo X11.here hx rfl (hb hby at_140) rfl (teq (by simp only [lw_lt, lw_gt, lw_eq, own_lt1, Decidable.not_not] at hc89 hc96; simp [own_cl, hc89, hc96] : (own_cl (1 : Int32) i9 j7) = (0 : Int32))).2 k) ?_
            show own_Go p e below _ (T11.setTop (mkF m 143 #[.val (.int p0), .val (.int p1), .val (.long q2), .second, .val (.int (1 : Int32)), .val (.ref aC), .val (.int i6), .val (.long j7), .second, .val (.int i9), .val (.int (0 : Int32))] []))
            refine own_go (fun t k => XS.iconst X11.here hx rfl (hb hby at_143) k) ?_
            show own_Go p e below _ (T11.setTop (mkF m 144 #[.val (.int p0), .val (.int p1), .val (.long q2), .second, .val (.int (1 : Int32)), .val (.ref aC), .val (.int i6), .val (.long j7), .second, .val (.int i9), .val (.int (0 : Int32))] [(.int (1 : Int32))]))
            refine own_go (fun t k => XS.goto X11.here hx rfl (pc0 := 144) (pc' := 148) rfl (hb hby at_144) (by decide) (by decide) k) ?_
            show own_Go p e below _ (T11.setTop (mkF m 148 #[.val (.int p0), .val (.int p1), .val (.long q2), .second, .val (.int (1 : Int32)), .val (.ref aC), .val (.int i6), .val (.long j7), .second, .val (.int i9), .val (.int (0 : Int32))] [(.int (1 : Int32))]))
            exact own_retN X11 hx (t := .boolean) Bd.returns (by simp) (hb hby at_148) (⟨rfl, N11⟩) (by decide) (by decide)
      show own_Go p e below _ (T6.setTop (mkF m 64 #[.val (.int p0), .val (.int p1), .val (.long q2), .second, .val (.int (1 : Int32)), .val (.ref aC), .val (.int i6), .val (.long j7), .second, .unset, .unset] []))
      refine own_go (fun t k => XS.iloadN X6.here hx rfl (hb hby at_64) rfl k) ?_
      show own_Go p e below _ (T6.setTop (mkF m 65 #[.val (.int p0), .val (.int p1), .val (.long q2), .second, .val (.int (1 : Int32)), .val (.ref aC), .val (.int i6), .val (.long j7), .second, .unset, .unset] [(.int p0)]))
      refine own_go (fun t k => XS.bipush X6.here hx rfl (hb hby at_65) k) ?_
      show own_Go p e below _ (T6.setTop (mkF m 67 #[.val (.int p0), .val (.int p1), .val (.long q2), .second, .val (.int (1 : Int32)), .val (.ref aC), .val (.int i6), .val (.long j7), .second, .unset, .unset] [(.int (8 : Int32)), (.int p0)]))
      refine own_go (fun t k => XS.iand X6.here hx rfl (hb hby at_67) rfl k) ?_
      show own_Go p e below _ (T6.setTop (mkF m 68 #[.val (.int p0), .val (.int p1), .val (.long q2), .second, .val (.int (1 : Int32)), .val (.ref aC), .val (.int i6), .val (.long j7), .second, .unset, .unset] [(.int (p0 &&& (8 : Int32)))]))
      by_cases hc68 : (p0 &&& (8 : Int32)) = (0 : Int32)
      · refine own_go (fun t k => XS.ifYes X6.here hx rfl (pc0 := 68) (pc' := 76) rfl (hb hby at_68) rfl ((if0 _ _).trans (teq hc68).1) (by decide) (by decide) k) ?_
        show own_Go p e below _ (T6.setTop (mkF m 76 #[.val (.int p0), .val (.int p1), .val (.long q2), .second, .val (.int (1 : Int32)), .val (.ref aC), .val (.int i6), .val (.long j7), .second, .unset, .unset] []))
        refine own_go (fun t k => XS.iloadN X6.here hx rfl (hb hby at_76) rfl k) ?_
        show own_Go p e below _ (T6.setTop (mkF m 77 #[.val (.int p0), .val (.int p1), .val (.long q2), .second, .val (.int (1 : Int32)), .val (.ref aC), .val (.int i6), .val (.long j7), .second, .unset, .unset] [(.int p1)]))
        refine own_go (fun t k => XS.i2b X6.here hx rfl (hb hby at_77) rfl k) ?_
        show own_Go p e below _ (T6.setTop (mkF m 78 #[.val (.int p0), .val (.int p1), .val (.long q2), .second, .val (.int (1 : Int32)), .val (.ref aC), .val (.int i6), .val (.long j7), .second, .unset, .unset] [(.int (p1.toInt8.toInt32))]))
        refine own_go (fun t k => XS.istore X6.here hx rfl (hb hby at_78) rfl (l' := #[.val (.int p0), .val (.int p1), .val (.long q2), .second, .val (.int (1 : Int32)), .val (.ref aC), .val (.int i6), .val (.long j7), .second, .val (.int (p1.toInt8.toInt32)), .unset]) rfl k) ?_
        exact J80 _
      · refine own_go (fun t k => XS.ifNo X6.here hx rfl (hb hby at_68) rfl ((if0 _ _).trans (feq hc68).1) k) ?_
        show own_Go p e below _ (T6.setTop (mkF m 71 #[.val (.int p0), .val (.int p1), .val (.long q2), .second, .val (.int (1 : Int32)), .val (.ref aC), .val (.int i6), .val (.long j7), .second, .unset, .unset] []))
        refine own_go (fun t k => XS.bipush X6.here hx rfl (hb hby at_71) k) ?_
        show own_Go p e below _ (T6.setTop (mkF m 73 #[.val (.int p0), .val (.int p1), .val (.long q2), .second, .val (.int (1 : Int32)), .val (.ref aC), .val (.int i6), .val (.long j7), .second, .unset, .unset] [(.int (61 : Int32))]))
        refine own_go (fun t k => XS.goto X6.here hx rfl (pc0 := 73) (pc' := 78) rfl (hb hby at_73) (by decide) (by decide) k) ?_
        show own_Go p e below _ (T6.setTop (mkF m 78 #[.val (.int p0), .val (.int p1), .val (.long q2), .second, .val (.int (1 : Int32)), .val (.ref aC), .val (.int i6), .val (.long j7), .second, .unset, .unset] [(.int (61 : Int32))]))
        refine own_go (fun t k => XS.istore X6.here hx rfl (hb hby at_78) rfl (l' := #[.val (.int p0), .val (.int p1), .val (.long q2), .second, .val (.int (1 : Int32)), .val (.ref aC), .val (.int i6), .val (.long j7), .second, .val (.int (61 : Int32)), .unset]) rfl k) ?_
        exact J80 _
    show own_Go p e below _ (T6.setTop (mkF m 29 #[.val (.int p0), .val (.int p1), .val (.long q2), .second, .val (.int (1 : Int32)), .val (.ref aC), .unset, .unset, .unset, .unset, .unset] []))
    refine own_go (fun t k => XS.iloadN X6.here hx rfl (hb hby at_29) rfl k) ?_
    show own_Go p e below _ (T6.setTop (mkF m 30 #[.val (.int p0), .val (.int p1), .val (.long q2), .second, .val (.int (1 : Int32)), .val (.ref aC), .unset, .unset, .unset, .unset, .unset] [(.int p0)]))
    refine own_go (fun t k => XS.iconst X6.here hx rfl (hb hby at_30) k) ?_
    show own_Go p e below _ (T6.setTop (mkF m 31 #[.val (.int p0), .val (.int p1), .val (.long q2), .second, .val (.int (1 : Int32)), .val (.ref aC), .unset, .unset, .unset, .unset, .unset] [(.int (1 : Int32)), (.int p0)]))
    refine own_go (fun t k => XS.iushr X6.here hx rfl (hb hby at_31) rfl k) ?_
    show own_Go p e below _ (T6.setTop (mkF m 32 #[.val (.int p0), .val (.int p1), .val (.long q2), .second, .val (.int (1 : Int32)), .val (.ref aC), .unset, .unset, .unset, .unset, .unset] [(.int ((p0.toUInt32 >>> ((1 : Int32) &&& 31).toUInt32).toInt32))]))
    refine own_go (fun t k => XS.iconst X6.here hx rfl (hb hby at_32) k) ?_
    show own_Go p e below _ (T6.setTop (mkF m 33 #[.val (.int p0), .val (.int p1), .val (.long q2), .second, .val (.int (1 : Int32)), .val (.ref aC), .unset, .unset, .unset, .unset, .unset] [(.int (3 : Int32)), (.int ((p0.toUInt32 >>> ((1 : Int32) &&& 31).toUInt32).toInt32))]))
    refine own_go (fun t k => XS.iand X6.here hx rfl (hb hby at_33) rfl k) ?_
    show own_Go p e below _ (T6.setTop (mkF m 34 #[.val (.int p0), .val (.int p1), .val (.long q2), .second, .val (.int (1 : Int32)), .val (.ref aC), .unset, .unset, .unset, .unset, .unset] [(.int (((p0.toUInt32 >>> ((1 : Int32) &&& 31).toUInt32).toInt32) &&& (3 : Int32)))]))
    refine own_go (fun t k => XS.istore X6.here hx rfl (hb hby at_34) rfl (l' := #[.val (.int p0), .val (.int p1), .val (.long q2), .second, .val (.int (1 : Int32)), .val (.ref aC), .val (.int (((p0.toUInt32 >>> ((1 : Int32) &&& 31).toUInt32).toInt32) &&& (3 : Int32))), .unset, .unset, .unset, .unset]) rfl k) ?_
    show own_Go p e below _ (T6.setTop (mkF m 36 #[.val (.int p0), .val (.int p1), .val (.long q2), .second, .val (.int (1 : Int32)), .val (.ref aC), .val (.int (((p0.toUInt32 >>> ((1 : Int32) &&& 31).toUInt32).toInt32) &&& (3 : Int32))), .unset, .unset, .unset, .unset] []))
    refine own_go (fun t k => XS.iload X6.here hx rfl (hb hby at_36) rfl k) ?_
    show own_Go p e below _ (T6.setTop (mkF m 38 #[.val (.int p0), .val (.int p1), .val (.long q2), .second, .val (.int (1 : Int32)), .val (.ref aC), .val (.int (((p0.toUInt32 >>> ((1 : Int32) &&& 31).toUInt32).toInt32) &&& (3 : Int32))), .unset, .unset, .unset, .unset] [(.int (((p0.toUInt32 >>> ((1 : Int32) &&& 31).toUInt32).toInt32) &&& (3 : Int32)))]))
    by_cases hc38 : (((p0.toUInt32 >>> ((1 : Int32) &&& 31).toUInt32).toInt32) &&& (3 : Int32)) = (0 : Int32)
    · refine own_go (fun t k => XS.ifNo X6.here hx rfl (hb hby at_38) rfl ((if0 _ _).trans (teq hc38).2) k) ?_
      show own_Go p e below _ (T6.setTop (mkF m 41 #[.val (.int p0), .val (.int p1), .val (.long q2), .second, .val (.int (1 : Int32)), .val (.ref aC), .val (.int (((p0.toUInt32 >>> ((1 : Int32) &&& 31).toUInt32).toInt32) &&& (3 : Int32))), .unset, .unset, .unset, .unset] []))
      refine own_go (fun t k => XS.lconst X6.here hx rfl (hb hby at_41) k) ?_
      show own_Go p e below _ (T6.setTop (mkF m 42 #[.val (.int p0), .val (.int p1), .val (.long q2), .second, .val (.int (1 : Int32)), .val (.ref aC), .val (.int (((p0.toUInt32 >>> ((1 : Int32) &&& 31).toUInt32).toInt32) &&& (3 : Int32))), .unset, .unset, .unset, .unset] [(.long (0 : Int64))]))
      refine own_go (fun t k => XS.lstore X6.here hx rfl (hb hby at_42) rfl (l' := #[.val (.int p0), .val (.int p1), .val (.long q2), .second, .val (.int (1 : Int32)), .val (.ref aC), .val (.int (((p0.toUInt32 >>> ((1 : Int32) &&& 31).toUInt32).toInt32) &&& (3 : Int32))), .val (.long (0 : Int64)), .second, .unset, .unset]) rfl k) ?_
      show own_Go p e below _ (T6.setTop (mkF m 44 #[.val (.int p0), .val (.int p1), .val (.long q2), .second, .val (.int (1 : Int32)), .val (.ref aC), .val (.int (((p0.toUInt32 >>> ((1 : Int32) &&& 31).toUInt32).toInt32) &&& (3 : Int32))), .val (.long (0 : Int64)), .second, .unset, .unset] []))
      refine own_go (fun t k => XS.goto X6.here hx rfl (pc0 := 44) (pc' := 64) rfl (hb hby at_44) (by decide) (by decide) k) ?_
      exact J64 _ _
    · refine own_go (fun t k => XS.ifYes X6.here hx rfl (pc0 := 38) (pc' := 47) rfl (hb hby at_38) rfl ((if0 _ _).trans (feq hc38).2) (by decide) (by decide) k) ?_
      show own_Go p e below _ (T6.setTop (mkF m 47 #[.val (.int p0), .val (.int p1), .val (.long q2), .second, .val (.int (1 : Int32)), .val (.ref aC), .val (.int (((p0.toUInt32 >>> ((1 : Int32) &&& 31).toUInt32).toInt32) &&& (3 : Int32))), .unset, .unset, .unset, .unset] []))
      refine own_go (fun t k => XS.iload X6.here hx rfl (hb hby at_47) rfl k) ?_
      show own_Go p e below _ (T6.setTop (mkF m 49 #[.val (.int p0), .val (.int p1), .val (.long q2), .second, .val (.int (1 : Int32)), .val (.ref aC), .val (.int (((p0.toUInt32 >>> ((1 : Int32) &&& 31).toUInt32).toInt32) &&& (3 : Int32))), .unset, .unset, .unset, .unset] [(.int (((p0.toUInt32 >>> ((1 : Int32) &&& 31).toUInt32).toInt32) &&& (3 : Int32)))]))
      refine own_go (fun t k => XS.iconst X6.here hx rfl (hb hby at_49) k) ?_
      show own_Go p e below _ (T6.setTop (mkF m 50 #[.val (.int p0), .val (.int p1), .val (.long q2), .second, .val (.int (1 : Int32)), .val (.ref aC), .val (.int (((p0.toUInt32 >>> ((1 : Int32) &&& 31).toUInt32).toInt32) &&& (3 : Int32))), .unset, .unset, .unset, .unset] [(.int (1 : Int32)), (.int (((p0.toUInt32 >>> ((1 : Int32) &&& 31).toUInt32).toInt32) &&& (3 : Int32)))]))
      by_cases hc50 : (((p0.toUInt32 >>> ((1 : Int32) &&& 31).toUInt32).toInt32) &&& (3 : Int32)) = (1 : Int32)
      · refine own_go (fun t k => XS.icmpNo X6.here hx rfl (hb hby at_50) rfl (teq hc50).2 k) ?_
        show own_Go p e below _ (T6.setTop (mkF m 53 #[.val (.int p0), .val (.int p1), .val (.long q2), .second, .val (.int (1 : Int32)), .val (.ref aC), .val (.int (((p0.toUInt32 >>> ((1 : Int32) &&& 31).toUInt32).toInt32) &&& (3 : Int32))), .unset, .unset, .unset, .unset] []))
        refine own_go (fun t k => XS.lloadN X6.here hx rfl (hb hby at_53) rfl k) ?_
        show own_Go p e below _ (T6.setTop (mkF m 54 #[.val (.int p0), .val (.int p1), .val (.long q2), .second, .val (.int (1 : Int32)), .val (.ref aC), .val (.int (((p0.toUInt32 >>> ((1 : Int32) &&& 31).toUInt32).toInt32) &&& (3 : Int32))), .unset, .unset, .unset, .unset] [(.long q2)]))
        refine own_go (fun t k => XS.lconst X6.here hx rfl (hb hby at_54) k) ?_
        show own_Go p e below _ (T6.setTop (mkF m 55 #[.val (.int p0), .val (.int p1), .val (.long q2), .second, .val (.int (1 : Int32)), .val (.ref aC), .val (.int (((p0.toUInt32 >>> ((1 : Int32) &&& 31).toUInt32).toInt32) &&& (3 : Int32))), .unset, .unset, .unset, .unset] [(.long (1 : Int64)), (.long q2)]))
        refine own_go (fun t k => XS.land X6.here hx rfl (hb hby at_55) rfl k) ?_
        show own_Go p e below _ (T6.setTop (mkF m 56 #[.val (.int p0), .val (.int p1), .val (.long q2), .second, .val (.int (1 : Int32)), .val (.ref aC), .val (.int (((p0.toUInt32 >>> ((1 : Int32) &&& 31).toUInt32).toInt32) &&& (3 : Int32))), .unset, .unset, .unset, .unset] [(.long (q2 &&& (1 : Int64)))]))
        refine own_go (fun t k => XS.lstore X6.here hx rfl (hb hby at_56) rfl (l' := #[.val (.int p0), .val (.int p1), .val (.long q2), .second, .val (.int (1 : Int32)), .val (.ref aC), .val (.int (((p0.toUInt32 >>> ((1 : Int32) &&& 31).toUInt32).toInt32) &&& (3 : Int32))), .val (.long (q2 &&& (1 : Int64))), .second, .unset, .unset]) rfl k) ?_
        show own_Go p e below _ (T6.setTop (mkF m 58 #[.val (.int p0), .val (.int p1), .val (.long q2), .second, .val (.int (1 : Int32)), .val (.ref aC), .val (.int (((p0.toUInt32 >>> ((1 : Int32) &&& 31).toUInt32).toInt32) &&& (3 : Int32))), .val (.long (q2 &&& (1 : Int64))), .second, .unset, .unset] []))
        refine own_go (fun t k => XS.goto X6.here hx rfl (pc0 := 58) (pc' := 64) rfl (hb hby at_58) (by decide) (by decide) k) ?_
        exact J64 _ _
      · refine own_go (fun t k => XS.icmpYes X6.here hx rfl (pc0 := 50) (pc' := 61) rfl (hb hby at_50) rfl (feq hc50).2 (by decide) (by decide) k) ?_
        show own_Go p e below _ (T6.setTop (mkF m 61 #[.val (.int p0), .val (.int p1), .val (.long q2), .second, .val (.int (1 : Int32)), .val (.ref aC), .val (.int (((p0.toUInt32 >>> ((1 : Int32) &&& 31).toUInt32).toInt32) &&& (3 : Int32))), .unset, .unset, .unset, .unset] []))
        refine own_go (fun t k => XS.lloadN X6.here hx rfl (hb hby at_61) rfl k) ?_
        show own_Go p e below _ (T6.setTop (mkF m 62 #[.val (.int p0), .val (.int p1), .val (.long q2), .second, .val (.int (1 : Int32)), .val (.ref aC), .val (.int (((p0.toUInt32 >>> ((1 : Int32) &&& 31).toUInt32).toInt32) &&& (3 : Int32))), .unset, .unset, .unset, .unset] [(.long q2)]))
        refine own_go (fun t k => XS.lstore X6.here hx rfl (hb hby at_62) rfl (l' := #[.val (.int p0), .val (.int p1), .val (.long q2), .second, .val (.int (1 : Int32)), .val (.ref aC), .val (.int (((p0.toUInt32 >>> ((1 : Int32) &&& 31).toUInt32).toInt32) &&& (3 : Int32))), .val (.long q2), .second, .unset, .unset]) rfl k) ?_
        exact J64 _ _
theorem own_eqI {args : Array Value} {first s : State} {o : Option Outcome} {idx : List Nat} {t : Term} {n : Int32} (h : (Jvm.Cond.eq t (.int n)).value args first o s idx = some true) : t.eval args first o idx s = some (.int n) := by
  simp only [Cond.value, Term.eval] at h
  cases ht : t.eval args first o idx s with
  | none => simp [ht] at h
  | some x => cases x <;> simp [ht] at h ⊢ <;> exact h
set_option maxRecDepth 65536 in
set_option maxHeartbeats 40000000 in
theorem comes_1 {Post : Tables → Env → Array Value → State → Outcome → State → Prop} (hpost : ∀ tb e args s v u, (limb_1_1.after args s (.returned v) u = true ∧ limb_1_2.after args s (.returned v) u = true ∧ True) → FrameEnd s (.returned v) u (Jvm.fieldLocs frame_1_writes args s ++ Jvm.arrayLocs frame_1_arrays args s ++ Jvm.staticLocs frame_1_statics s) 0 0 → Post tb e args s (.returned v) u) :
    ArmFor flags0 classFile x code maxLocals ret World_1 tables_1 room_1 Calls_1 rest_1 Pre_1 Post := by
  intro l hfl _ _ p e ha hc hk s m args below hf hA hF happ hP
  obtain ⟨hcalls, hrest, hpre⟩ := hP
  obtain ⟨-, -, -, hnamed, -, -, -, hat⟩ := (Spec.applies_iff hf).mp happ
  obtain ⟨hg, hn⟩ := and_e (Cond.before_iff.mp (show (Jvm.Cond.and given_1 narrow_1).before args s = true from hpre))
  obtain ⟨gc, gr0⟩ := and_e hg
  obtain ⟨ga0, gr1⟩ := and_e gr0
  obtain ⟨ga1, ga2⟩ := and_e gr1
  obtain ⟨w0, w1, w2, rfl⟩ : ∃ w0 w1 w2 : Value, args = #[w0, w1, w2] := by
    have hs : args.size = 3 := by simpa [Cond.value, given_1] using gc
    obtain ⟨L⟩ := args
    match L, hs with
    | [w0, w1, w2], _ => exact ⟨w0, w1, w2, rfl⟩
  have hw := fun d (hd : d ∈ tables_1) => atoms_spec (ws := Jvm.Cond.code x code maxLocals ret :: tables_1) hat d (List.mem_cons_of_mem _ hd)
  have hfit : Fit s := fun {y c} hc i hi => by
    obtain ⟨ha, rfl⟩ := Array.getElem?_eq_some_iff.mp hc
    have q := List.all_eq_true.mp ((Array.all_eq_true_iff_forall_mem.mp hF) _ (Array.getElem_mem ha)) i (List.mem_range.mpr hi)
    simpa [Array.getElem?_eq_getElem hi] using q
  obtain ⟨i0, ei0⟩ := is_v ga0
  obtain rfl : w0 = (.int i0) := Option.some.inj ei0
  obtain ⟨i1, ei1⟩ := is_v ga1
  obtain rfl : w1 = (.int i1) := Option.some.inj ei1
  obtain ⟨i2, ei2⟩ := isL_v ga2
  obtain rfl : w2 = (.long i2) := Option.some.inj ei2
  obtain ⟨hn1a, hn1b⟩ := and_e hn
  obtain ⟨hn2a, hn2b⟩ := and_e hn1b
  obtain ⟨hn3a, hn3b⟩ := and_e hn2b
  obtain ⟨aP, vP⟩ := exa_v hn1a
  have SP := Sta.start vP (Or.inr ⟨(hw _ (List.mem_of_getElem? (i := 1) rfl)), (hw _ (List.mem_of_getElem? (i := 2) rfl))⟩)
  have EP := Exa.start vP hn1a
  have FP := Fld.start ((fld_at vP).symm.trans (own_eqI hn2a))
  obtain ⟨aC, vC⟩ := exa_v hn3a
  have SC := Sta.start vC (Or.inr ⟨(hw _ (List.mem_of_getElem? (i := 1) rfl)), (hw _ (List.mem_of_getElem? (i := 11) rfl))⟩)
  have EC := Exa.start vC hn3a
  have FC := Fld.start ((fld_at vC).symm.trans (own_eqI hn3b))
  obtain ⟨n, o, h1, h2, h3, _, L, rfl, ⟨rfl, N⟩, hq⟩ := rm0 l s _ hw tables_1 i0 i1 i2 aP aC s.heap s.heap.size (Nat.le_refl _) SP EP FP SC EC FC p e ha hc hk s m _ below hf ((Spec.applies_iff_loose hf).mp happ).1 ⟨rfl, State.Warmed39.refl s, rfl⟩ trivial
  refine ⟨n, _, h1, h2, h3, hpost _ _ _ _ _ _ ⟨Cond.after_iff.mpr rfl, Cond.after_iff.mpr (eq_i res_at (Term.int_eval (1)) rfl), trivial⟩ ⟨hq.1, hq.2.1, (hq.2.2.sift fun y hy => Or.inr (N y hy)).mono (by decide) (by decide)⟩⟩
theorem main_1_1 : Claimed_1_1 := comes_1 fun _ _ _ _ _ _ h hF => ⟨h.1, hF⟩
theorem main_1_2 : Claimed_1_2 := comes_1 fun _ _ _ _ _ _ h hF => ⟨h.2.1, hF⟩
end Jvm.Pilot.@@N@@
namespace Jvm.Pilot.@@N@@
open Jvm Jvm.ClassFile Sem Op Lib Jvm.Free Jvm.Stand Jvm.Pilot.@@N@@.Jvm.D
/-! MADE BY PROGRAM (witnessworld.py) out of the Statement's table words and the real class files: 12 classes; the members and pool entries that the words name. The judged class is class 1, her method 1. -/
namespace start1
open Jvm.ClassFile
def u (s : String) : CpInfo := .utf8 (stringToUtf16 s)
/-- a pool by its gaps: so many unusable entries, then the entry; so many at the end -/
def gap : Nat → List CpInfo → List CpInfo
  | 0, r => r
  | n + 1, r => .unusable :: gap n r
def poolList (es : List (Nat × CpInfo)) (last : Nat) : List CpInfo := es.foldr (fun e r => gap e.1 (e.2 :: r)) (gap last [])
def pool (es : List (Nat × CpInfo)) (last : Nat) : Array CpInfo := ⟨poolList es last⟩
def fileOf (pool : Array CpInfo) (this : Nat) (attrs : Array Attribute := #[]) (ms : Array MethodInfo := #[]) (fl : Nat := 33) (sup : Nat := 0) (ifs : Array Nat := #[]) (fds : Array FieldInfo := #[]) : ClassFile where
  minorVersion := 0
  majorVersion := 65
  constantPool := pool
  accessFlags := fl
  thisClass := this
  superClass := sup
  interfaces := ifs
  fields := fds
  methods := ms
  attributes := attrs
def plain (name : String) (sup : Option ClassId) : Class where
  name := name
  kind := .ordinary
  loader := none
  accessFlags := 33
  super := sup
  interfaces := #[]
  cf := none
  fields := #[]
  methods := #[]
  instanceTypes := #[]
  staticTypes := #[]
  resolved := #[]
  callSites := []
  init := .initialized
  statics := none
  mirror := none

def pool0 : Array CpInfo := pool [(5, u "<init>"), (0, u "()V"), (1, .class_ 10), (1, u "java/lang/Object")] 113

def k0m0 : Method := { name := "<init>", desc := "()V", sig := { parameters := [], returnType := none }, accessFlags := 1, code := none }
/-- java/lang/Object -/
def k0 : Class := { plain "java/lang/Object" none with
  accessFlags := 33
  interfaces := #[]
  cf := some (fileOf pool0 8 #[] #[{ accessFlags := 1, nameIndex := 5, descriptorIndex := 6, attributes := #[] }] 33 0 #[] #[])
  fields := #[]
  methods := #[k0m0]
  instanceTypes := #[]
  staticTypes := #[]
  resolved := Array.replicate 124 none
  statics := none }

def pool1 : Array CpInfo := pool [(2, .class_ 4), (1, u "java/lang/Object"), (0, u "<init>"), (0, u "()V"), (0, .fieldref 8 9), (0, .class_ 10), (0, .nameAndType 11 12), (0, u "com/example/prizewell/prizewell/store/JournalFormat"), (0, u "CHECKED"), (0, u "Lcom/example/prizewell/prizewell/store/JournalFormat;"), (0, .fieldref 8 14), (0, .nameAndType 15 12), (0, u "PLAIN"), (0, .methodref 8 17), (0, .nameAndType 18 19), (0, u "closes"), (0, u "(BJ)Z"), (0, .class_ 21), (0, u "com/example/prizewell/prizewell/store/JournalFormatClosesPinLaw"), (2, u "law"), (0, u "(IIJ)Z")] 3

def k1m0 : Method := { name := "<init>", desc := "()V", sig := { parameters := [], returnType := none }, accessFlags := 2, code := none }
def k1c1 : Code := { maxStack := 4, maxLocals := 11, code := code, exceptionTable := #[], attributes := #[] }
def k1m1 : Method := { name := "law", desc := "(IIJ)Z", sig := { parameters := [.int, .int, .long], returnType := some .boolean }, accessFlags := 9, code := some k1c1 }
/-- com/example/prizewell/prizewell/store/JournalFormatClosesPinLaw -/
def k1 : Class := { plain "com/example/prizewell/prizewell/store/JournalFormatClosesPinLaw" (some 0) with
  accessFlags := 49
  interfaces := #[]
  cf := some (fileOf pool1 20 #[] #[{ accessFlags := 2, nameIndex := 5, descriptorIndex := 6, attributes := #[] }, { accessFlags := 9, nameIndex := 24, descriptorIndex := 25, attributes := #[] }] 49 2 #[] #[])
  fields := #[]
  methods := #[k1m0, k1m1]
  instanceTypes := #[]
  staticTypes := #[]
  resolved := Array.replicate 29 none
  statics := none }

def pool2 : Array CpInfo := pool [(1, .class_ 2), (0, u "java/lang/constant/Constable"), (0, .class_ 4), (0, u "java/lang/Object")] 6

/-- java/lang/constant/Constable -/
def k2 : Class := { plain "java/lang/constant/Constable" (some 0) with
  accessFlags := 1537
  interfaces := #[]
  cf := some (fileOf pool2 1 #[] #[] 1537 3 #[] #[])
  fields := #[]
  methods := #[]
  instanceTypes := #[]
  staticTypes := #[]
  resolved := Array.replicate 11 none
  statics := none }

def pool3 : Array CpInfo := pool [(1, .class_ 2), (0, u "java/lang/Comparable"), (0, .class_ 4), (0, u "java/lang/Object")] 7

/-- java/lang/Comparable -/
def k3 : Class := { plain "java/lang/Comparable" (some 0) with
  accessFlags := 1537
  interfaces := #[]
  cf := some (fileOf pool3 1 #[] #[] 1537 3 #[] #[])
  fields := #[]
  methods := #[]
  instanceTypes := #[]
  staticTypes := #[]
  resolved := Array.replicate 12 none
  statics := none }

def pool4 : Array CpInfo := pool [(1, .class_ 2), (0, u "java/io/Serializable"), (0, .class_ 4), (0, u "java/lang/Object")] 2

/-- java/io/Serializable -/
def k4 : Class := { plain "java/io/Serializable" (some 0) with
  accessFlags := 1537
  interfaces := #[]
  cf := some (fileOf pool4 1 #[] #[] 1537 3 #[] #[])
  fields := #[]
  methods := #[]
  instanceTypes := #[]
  staticTypes := #[]
  resolved := Array.replicate 7 none
  statics := none }

def pool5 : Array CpInfo := pool [(2, .class_ 4), (1, u "java/lang/Enum"), (0, u "name"), (0, u "Ljava/lang/String;"), (2, u "ordinal"), (0, u "I"), (1, .class_ 14), (1, u "java/lang/Object"), (4, u "hash"), (86, .class_ 108), (1, u "java/lang/Enum$EnumDesc"), (2, .class_ 112), (0, u "java/lang/constant/Constable"), (0, .class_ 114), (0, u "java/lang/Comparable"), (0, .class_ 116), (0, u "java/io/Serializable")] 87

/-- java/lang/Enum -/
def k5 : Class := { plain "java/lang/Enum" (some 0) with
  accessFlags := 1057
  interfaces := #[2, 3, 4]
  cf := some (fileOf pool5 2 #[.nestMembers #[106]] #[] 1057 12 #[111, 113, 115] #[{ accessFlags := 18, nameIndex := 5, descriptorIndex := 6, attributes := #[] }, { accessFlags := 18, nameIndex := 9, descriptorIndex := 10, attributes := #[] }, { accessFlags := 2, nameIndex := 19, descriptorIndex := 10, attributes := #[] }])
  fields := #[{ name := "name", type := (.object "java/lang/String"), accessFlags := 18, slot := 0, constantValue := 0 }, { name := "ordinal", type := .int, accessFlags := 18, slot := 1, constantValue := 0 }, { name := "hash", type := .int, accessFlags := 2, slot := 2, constantValue := 0 }]
  methods := #[]
  instanceTypes := #[(.object "java/lang/String"), .int, .int]
  staticTypes := #[]
  resolved := Array.replicate 204 none
  statics := none }

def pool6 : Array CpInfo := pool [(1, .class_ 2), (0, u "com/example/prizewell/prizewell/store/JournalFormat"), (2, u "PLAIN"), (0, u "Lcom/example/prizewell/prizewell/store/JournalFormat;"), (2, u "CHECKED"), (2, u "$VALUES"), (0, u "[Lcom/example/prizewell/prizewell/store/JournalFormat;"), (6, .class_ 22), (1, u "java/lang/Enum"), (6, .fieldref 1 30), (0, .nameAndType 31 32), (0, u "checked"), (0, u "Z"), (8, u "firstLines"), (0, u "Ljava/util/List;"), (28, .class_ 72), (0, u "com/example/prizewell/prizewell/store/JournalFormat$UnitCheck"), (22, u "CURRENT"), (13, u "closes"), (0, u "(BJ)Z")] 24

def k6c0 : Code := { maxStack := 4, maxLocals := 4, code := prog_73_method_9_code, exceptionTable := #[], attributes := #[] }
def k6m0 : Method := { name := "closes", desc := "(BJ)Z", sig := { parameters := [.byte, .long], returnType := some .boolean }, accessFlags := 0, code := some k6c0 }
/-- com/example/prizewell/prizewell/store/JournalFormat -/
def k6 : Class := { plain "com/example/prizewell/prizewell/store/JournalFormat" (some 5) with
  accessFlags := 16432
  interfaces := #[]
  cf := some (fileOf pool6 1 #[.nestMembers #[71]] #[{ accessFlags := 0, nameIndex := 109, descriptorIndex := 110, attributes := #[] }] 16432 20 #[] #[{ accessFlags := 16409, nameIndex := 5, descriptorIndex := 6, attributes := #[] }, { accessFlags := 16409, nameIndex := 9, descriptorIndex := 6, attributes := #[] }, { accessFlags := 24, nameIndex := 95, descriptorIndex := 6, attributes := #[] }, { accessFlags := 18, nameIndex := 31, descriptorIndex := 32, attributes := #[] }, { accessFlags := 18, nameIndex := 41, descriptorIndex := 42, attributes := #[] }, { accessFlags := 4122, nameIndex := 12, descriptorIndex := 13, attributes := #[] }])
  fields := #[{ name := "PLAIN", type := (.object "com/example/prizewell/prizewell/store/JournalFormat"), accessFlags := 16409, slot := 0, constantValue := 0 }, { name := "CHECKED", type := (.object "com/example/prizewell/prizewell/store/JournalFormat"), accessFlags := 16409, slot := 1, constantValue := 0 }, { name := "CURRENT", type := (.object "com/example/prizewell/prizewell/store/JournalFormat"), accessFlags := 24, slot := 2, constantValue := 0 }, { name := "checked", type := .boolean, accessFlags := 18, slot := 3, constantValue := 0 }, { name := "firstLines", type := (.object "java/util/List"), accessFlags := 18, slot := 4, constantValue := 0 }, { name := "$VALUES", type := (.array (.object "com/example/prizewell/prizewell/store/JournalFormat")), accessFlags := 4122, slot := 3, constantValue := 0 }]
  methods := #[k6m0]
  instanceTypes := #[(.object "java/lang/String"), .int, .int, .boolean, (.object "java/util/List")]
  staticTypes := #[(.object "com/example/prizewell/prizewell/store/JournalFormat"), (.object "com/example/prizewell/prizewell/store/JournalFormat"), (.object "com/example/prizewell/prizewell/store/JournalFormat"), (.array (.object "com/example/prizewell/prizewell/store/JournalFormat"))]
  resolved := Array.replicate 135 none
  statics := some 0 }

def pool7 : Array CpInfo := pool [(1, u "java/lang/Cloneable"), (0, .class_ 1), (0, u "java/lang/Object"), (0, .class_ 3)] 3

/-- java/lang/Cloneable -/
def k7 : Class := { plain "java/lang/Cloneable" (some 0) with
  accessFlags := 1537
  interfaces := #[]
  cf := some (fileOf pool7 2 #[] #[] 1537 4 #[] #[])
  fields := #[]
  methods := #[]
  instanceTypes := #[]
  staticTypes := #[]
  resolved := Array.replicate 8 none
  statics := none }

/-- the primitive byte -/
def k8 : Class := { plain "byte" none with kind := .primitive 'B', accessFlags := 0x411 }
/-- [B -/
def k9 : Class := { plain "[B" (some 0) with kind := .array 8 .byte, interfaces := #[7, 4], accessFlags := 1041 }

/-- the primitive int -/
def k10 : Class := { plain "int" none with kind := .primitive 'I', accessFlags := 0x411 }
/-- [I -/
def k11 : Class := { plain "[I" (some 0) with kind := .array 10 .int, interfaces := #[7, 4], accessFlags := 1041 }

def heap : Heap := #[{ cls := 6, slots := #[.ref 1, .ref 2, .null, .null], vm := .statics 6 },
  { cls := 6, slots := #[.null, .int 0, .int 0, .int 0, .null], vm := .none },
  { cls := 6, slots := #[.null, .int 1, .int 0, .int 1, .null], vm := .none }]
def classes : Array Class := #[k0, k1, k2, k3, k4, k5, k6, k7, k8, k9, k10, k11]
def interned : List (Array UInt16 × Addr) := []
def slotsUsed : Nat := 14
def theMethod : MethodId := ⟨1, 1⟩
def args0 : Array Value := #[.int 3, .int 7, .long 5]
def aboutOver (below : List Frame) : State where
  vm := { classes := classes, interned := interned.toArray }
  heap := heap
  slotsUsed := slotsUsed
  threads := #[{ frames := .invoking theMethod args0 :: below }]
def below0 : List Frame := [.native { method := ⟨0, 0⟩, args := #[] }]
def about1 : State := aboutOver below0
def p0 : Program := .bare "" "" ""
def e0 : Env := launch0.env 0 0 0
theorem w_frames : about1.frames = Frame.invoking theMethod args0 :: below0 := rfl
set_option maxRecDepth 65536 in
theorem w_args : argsFit about1.vm theMethod args0 = true := by decide +kernel
set_option maxRecDepth 65536 in
theorem w_heap : heapFits about1 = true := by decide +kernel
set_option maxRecDepth 65536 in
theorem w_runnable : about1.curStatus? = some .runnable := by decide +kernel
set_option maxRecDepth 65536 in
theorem w_alone : about1.alone = true := by decide +kernel
set_option maxRecDepth 65536 in
theorem w_named : about1.methodNamed? x = some theMethod := by decide +kernel
set_option maxRecDepth 65536 in
theorem w_hears : about1.hears theMethod below0 = true := by decide +kernel
set_option maxRecDepth 65536 in
theorem w_ripe : about1.ripe theMethod args0 below0 = true := by decide +kernel
theorem w_running : about1.status = .running := rfl
set_option maxRecDepth 65536 in
theorem w_room : about1.hasRoom e0.platform room_1 = true :=
  launch0.hasRoom_least _ room_1 (by decide +kernel) (by decide +kernel) (by decide +kernel) (by decide +kernel) (by decide +kernel) (by decide +kernel)
theorem allAtoms_all (ts : List Jvm.Cond) (a : Array Jvm.Value) (st : Jvm.State) : (allAtoms ts).before a st = ts.all (fun c => c.before a st) := by
  induction ts with
  | nil => rfl
  | cons c t ih =>
    show (Jvm.Cond.and c (allAtoms t)).before a st = _
    rw [Jvm.Cond.before_and, ih, List.all_cons]
def words1 : List Jvm.Cond := Jvm.Cond.code x code maxLocals ret :: tables_1
/-- a 'code' word, met by the world's own term for the bytes: nothing is compared byte by byte -/
theorem code_word {y : MethodName} {bytes : ByteArray} {mx : Nat} {rt : Option FieldType} {a : Array Value} {s : State} {m : MethodId} {meth : Method} {c : Code} (h1 : s.methodNamed? y = some m) (h2 : s.vm.method? m = some meth) (h3 : meth.code = some c) (h4 : c.code = bytes)
    (h5 : (c.maxLocals == mx && c.exceptionTable.isEmpty && decide (c.maxStack ≤ mostOperands) && decide (meth.sig.returnType = rt) && !meth.locks && decide (parseMethodDescriptor y.desc = some meth.sig)) = true) : (Jvm.Cond.code y bytes mx rt).before a s = true := by
  simp only [Bool.and_eq_true, beq_iff_eq, Bool.not_eq_true', decide_eq_true_eq] at h5
  obtain ⟨⟨⟨⟨⟨g1, g2⟩, g3⟩, g4⟩, g5⟩, g6⟩ := h5
  simp [Cond.before, Cond.holds, Cond.value, h1, h2, h3, h4, g1, g2, g3, g4, g5, g6]
def isCode : Jvm.Cond → Bool
  | .code _ _ _ _ => true
  | _ => false
theorem all_split {L : List Jvm.Cond} {P : Jvm.Cond → Bool} (h1 : L.all (fun c => isCode c || P c) = true) (h2 : ∀ c ∈ L.filter isCode, P c = true) : L.all P = true := by
  refine List.all_eq_true.mpr fun c hc => ?_
  have h := List.all_eq_true.mp h1 c hc
  rcases Bool.eq_false_or_eq_true (isCode c) with hi | hi
  · exact h2 c (List.mem_filter.mpr ⟨hc, hi⟩)
  · simpa [hi] using h
set_option maxRecDepth 65536 in
theorem w_c0 : (Jvm.Cond.code x code maxLocals ret).before args0 about1 = true := code_word (m := ⟨1, 1⟩) (meth := k1m1) (c := k1c1) (by decide +kernel) rfl rfl rfl (by decide +kernel)
set_option maxRecDepth 65536 in
theorem w_c1 : (Jvm.Cond.code ({ cls := "com/example/prizewell/prizewell/store/JournalFormat", name := "closes", desc := "(BJ)Z" } : Jvm.MethodName) prog_73_method_9_code (4 : Nat) (Option.some Jvm.ClassFile.FieldType.boolean)).before args0 about1 = true := code_word (m := ⟨6, 0⟩) (meth := k6m0) (c := k6c0) (by decide +kernel) rfl rfl rfl (by decide +kernel)
def codes1 : List Jvm.Cond := [Jvm.Cond.code x code maxLocals ret, Jvm.Cond.code ({ cls := "com/example/prizewell/prizewell/store/JournalFormat", name := "closes", desc := "(BJ)Z" } : Jvm.MethodName) prog_73_method_9_code (4 : Nat) (Option.some Jvm.ClassFile.FieldType.boolean)]
set_option maxRecDepth 65536 in
theorem codes_eq : words1.filter isCode = codes1 := rfl
theorem w_codes : ∀ c ∈ words1.filter isCode, c.before args0 about1 = true := by
  rw [codes_eq]
  intro c hc
  simp only [codes1, List.mem_cons, List.not_mem_nil, or_false] at hc
  rcases hc with rfl | rfl
  · exact w_c0
  · exact w_c1
set_option maxRecDepth 65536 in
theorem w_t1 : words1.all (fun c => isCode c || c.before args0 about1) = true := by decide +kernel
theorem w_tables : (allAtoms (Jvm.Cond.code x code maxLocals ret :: tables_1)).before args0 about1 = true := by
  rw [allAtoms_all]
  show words1.all (fun c => c.before args0 about1) = true
  refine all_split ?_ w_codes
  rw [w_t1]
set_option maxRecDepth 65536 in
theorem w_case : (Jvm.Cond.and given_1 narrow_1).before args0 about1 = true := by decide +kernel
theorem w_applies : (headSpec (Jvm.Cond.code x code maxLocals ret :: tables_1) room_1).applies x e0.platform about1 = true :=
  (Spec.applies_iff w_frames).mpr ⟨w_running, w_runnable, w_alone, w_named, w_hears, w_ripe, w_room, w_tables⟩
theorem atStart : AtStart classFile x code maxLocals ret World_1 tables_1 room_1 Calls_1 rest_1 Pre_1 launch0 p0 e0 about1 theMethod args0 below0 :=
  ⟨lists_1, trivial, launch0.admits_env _ _ _, launch0.least_env, fairChoices_fair.cas, fairChoices_fair.clock, w_frames, w_args, w_heap, w_applies, trivial, trivial, w_case⟩
end start1
theorem witness_1 : WitnessClaimed_1 := ⟨start1.p0, start1.e0, start1.about1, start1.theMethod, start1.args0, start1.below0, start1.atStart⟩
end Jvm.Pilot.@@N@@
