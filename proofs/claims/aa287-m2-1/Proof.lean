import JvmDerived
import JvmDerived.Pilot.@@N@@Statement
import JvmDerived.Pilot.@@N@@Code
set_option linter.unusedVariables false
set_option linter.unusedSimpArgs false
@@BLOCK:NumsL.lean.txt@@
namespace Jvm.Pilot.@@N@@
set_option maxRecDepth 65536
set_option maxHeartbeats 40000000
open Jvm Jvm.ClassFile Sem Op Lib Jvm.Free Jvm.Stand Jvm.LawKit Jvm.RoadKit Bundle Jvm.Pilot.@@N@@.Jvm.D
section Own
variable {p : Program} {l : Launch} {e : Env} {R : Room} {s : State} {m : MethodId} {args : Array Value} {below : List Frame} {meth : Method} {c : Code} {T : State} {locs : List Loc} {cells slots : Nat}
/-- from S the run ends, and it ends as Q says -/
def i7 (p : Program) (e : Env) (below : List Frame) (Q : Outcome → State → Prop) (S : State) : Prop := ∃ s₂ o, Steps p.tables e below S s₂ ∧ s₂.status = .running ∧ Ended s₂ below o ∧ Q o s₂
theorem c9 {a b c : Nat} (h : a ≤ b) (k : b ≤ c) : a ≤ c := Nat.le_trans h k
theorem j3 {a b c : Nat} (h : a < b) (k : b ≤ c) : a < c := Nat.lt_of_lt_of_le h k
theorem f7 {a b : Nat} (h : a = b) : a ≤ b := Nat.le_of_eq h
abbrev c5 (p : Program) (e : Env) (below : List Frame) (m : MethodId) (T : State) (pc : Nat) (Ls : Array Slot) (S : List Value) {Q : Outcome → State → Prop} : Prop := i7 p e below Q (T.setTop (mkF m pc Ls S))
abbrev oI (z : Int32) : Slot := .val (.int z)
abbrev oJ (z : Int64) : Slot := .val (.long z)
abbrev oR (z : Addr) : Slot := .val (.ref z)
abbrev oU : Slot := .unset
theorem c8 {Q : Outcome → State → Prop} {S S' : State} (h : ∀ t, Steps p.tables e below S' t → Steps p.tables e below S t) (k : i7 p e below Q S') : i7 p e below Q S := by
 obtain ⟨s₂, o, h1, h2⟩ := k
 exact ⟨s₂, o, h _ h1, h2⟩
theorem al7 {Q : Option Value → Heap → List Loc → Prop} {C S : Nat} (X : Stand p l e R s m args below meth c T locs cells slots) {v : Option Value} (hv : meth.sig.returnType = none → v = none) (hlk : meth.locks = false) {S0 : State}
 (hst : ∀ fs, (∀ (f : JFrame) (acts : List Action), f.method = m → f.locked = none → f.entered = [] → (doReturn e (T.setTop f) acts v).1 = T.setFrames fs) → Steps p.tables e below S0 (T.setFrames fs))
 (hQ : Q v T.heap locs) (hC : cells ≤ C) (hS : slots ≤ S) : i7 p e below (fun o U' => ∃ v L, o = .returned v ∧ Q v U'.heap L ∧ FrameEnd s o U' L C S) S0 := by
 obtain ⟨fs, hr, hrun, hended, hW, hsame⟩ := X.leave (v := v) hv hlk
 exact ⟨_, _, hst fs hr, hrun, hended, _, _, rfl, hQ, ⟨_, rfl⟩, hW, hsame.mono hC hS⟩
theorem t4 {Q : Option Value → Heap → List Loc → Prop} {C S : Nat} (X : Stand p l e R s m args below meth c T locs cells slots) (hx : p.tables.exec = Jvm.exec) {pc : Nat} {Ls : Array Slot} {z : Int32} {t : FieldType} {rest : List Value} (hret : meth.sig.returnType = some t) (ht : t = .boolean ∨ t = .byte ∨ t = .char ∨ t = .short)
 (hd : decode c.code pc = .ok (.ireturn, 1)) (hQ : Q (some (.int (nar t z))) T.heap locs) (hC : cells ≤ C) (hS : slots ≤ S) (hlk : meth.locks = false := by assumption) :
 i7 p e below (fun o U' => ∃ v L, o = .returned v ∧ Q v U'.heap L ∧ FrameEnd s o U' L C S) (T.setTop (mkF m pc Ls (.int z :: rest))) :=
 al7 X (fun h => by rw [hret] at h; cases h) hlk (fun fs hr => retN X hx hret ht hd hr) hQ hC hS
theorem r8 {Q : Option Value → Heap → List Loc → Prop} {C S : Nat} (X : Stand p l e R s m args below meth c T locs cells slots) (hx : p.tables.exec = Jvm.exec) {pc : Nat} {Ls : Array Slot} {z : Int32} {rest : List Value} (hret : meth.sig.returnType = some .int)
 (hd : decode c.code pc = .ok (.ireturn, 1)) (hQ : Q (some (.int z)) T.heap locs) (hC : cells ≤ C) (hS : slots ≤ S) (hlk : meth.locks = false := by assumption) :
 i7 p e below (fun o U' => ∃ v L, o = .returned v ∧ Q v U'.heap L ∧ FrameEnd s o U' L C S) (T.setTop (mkF m pc Ls (.int z :: rest))) :=
 al7 X (fun h => by rw [hret] at h; cases h) hlk (fun fs hr => retOut X hx hret rfl (Or.inl ⟨rfl, Or.inl rfl, z, rfl⟩) hd hr) hQ hC hS
theorem ce5 {Q : Option Value → Heap → List Loc → Prop} {C S : Nat} (X : Stand p l e R s m args below meth c T locs cells slots) (hx : p.tables.exec = Jvm.exec) {pc : Nat} {Ls : Array Slot} {z : Int64} {rest : List Value} (hret : meth.sig.returnType = some .long)
 (hd : decode c.code pc = .ok (.lreturn, 1)) (hQ : Q (some (.long z)) T.heap locs) (hC : cells ≤ C) (hS : slots ≤ S) (hlk : meth.locks = false := by assumption) :
 i7 p e below (fun o U' => ∃ v L, o = .returned v ∧ Q v U'.heap L ∧ FrameEnd s o U' L C S) (T.setTop (mkF m pc Ls (.long z :: rest))) :=
 al7 X (fun h => by rw [hret] at h; cases h) hlk (fun fs hr => retOut X hx hret rfl (Or.inr (Or.inl ⟨rfl, rfl, z, rfl⟩)) hd hr) hQ hC hS
theorem p9 {Q : Option Value → Heap → List Loc → Prop} {C S : Nat} (X : Stand p l e R s m args below meth c T locs cells slots) (hx : p.tables.exec = Jvm.exec) {pc : Nat} {Ls : Array Slot} {w : Value} {t : FieldType} {rest : List Value} (hret : meth.sig.returnType = some t) (ht : t.isReference = true) (hw : w.isRef = true)
 (hd : decode c.code pc = .ok (.areturn, 1)) (hQ : Q (some w) T.heap locs) (hC : cells ≤ C) (hS : slots ≤ S) (hlk : meth.locks = false := by assumption) :
 i7 p e below (fun o U' => ∃ v L, o = .returned v ∧ Q v U'.heap L ∧ FrameEnd s o U' L C S) (T.setTop (mkF m pc Ls (w :: rest))) :=
 al7 X (fun h => by rw [hret] at h; cases h) hlk (fun fs hr => retOut X hx hret (by cases t <;> first | (cases ht; done) | rfl) (Or.inr (Or.inr (Or.inr (Or.inr ⟨rfl, ht, hw⟩)))) hd hr) hQ hC hS
theorem q0 {Q : Option Value → Heap → List Loc → Prop} {C S : Nat} (X : Stand p l e R s m args below meth c T locs cells slots) (hx : p.tables.exec = Jvm.exec) {pc : Nat} {Ls : Array Slot} (hret : meth.sig.returnType = none)
 (hd : decode c.code pc = .ok (.return_, 1)) (hQ : Q none T.heap locs) (hC : cells ≤ C) (hS : slots ≤ S) (hlk : meth.locks = false := by assumption) :
 i7 p e below (fun o U' => ∃ v L, o = .returned v ∧ Q v U'.heap L ∧ FrameEnd s o U' L C S) (T.setTop (mkF m pc Ls [])) :=
 al7 X (fun _ => rfl) hlk (fun fs hr => X.returnOut hx hret hd hr) hQ hC hS
theorem aC2 {Q : Option Value → Heap → List Loc → Prop} {C S : Nat} {vm₁ : Vm} {n : Nat} {Z : State} {EL : List (String × Nat)} (X : Stand p l e R (s.setVm vm₁) m args below meth c T locs cells slots) {v : Option Value} (hv : meth.sig.returnType = none → v = none) (hlk : meth.locks = false) {S0 : State}
 (hst : ∀ fs, (∀ (f : JFrame) (acts : List Action), f.method = m → f.locked = none → f.entered = [] → (doReturn e (T.setTop f) acts v).1 = T.setFrames fs) → Steps p.tables e below S0 (T.setFrames fs))
 (hS₁ : s.Since vm₁ n) (hn₁ : n ≤ T.heap.size) (hQ : Q v T.heap locs) (hF : CHr Z EL s.vm s.heap T.vm T.heap) (hC : cells ≤ C) (hS : slots ≤ S) : i7 p e below (fun o U' => ∃ v L, o = .returned v ∧ Q v U'.heap L ∧ CHr Z EL s.vm s.heap U'.vm U'.heap ∧ ReturnedEndW s o U' L C S) S0 := by
 obtain ⟨fs, hr, hrun, hended, q1, q2, q3, q4⟩ := X.leaveW hS₁ hn₁ (v := v) hv hlk
 exact ⟨_, _, hst fs hr, hrun, hended, _, _, rfl, hQ, hF, q1, q2, q3, q4.mono hC hS⟩
theorem Y7 {Q : Option Value → Heap → List Loc → Prop} {C S : Nat} {vm₁ : Vm} {n : Nat} {Z : State} {EL : List (String × Nat)} (X : Stand p l e R (s.setVm vm₁) m args below meth c T locs cells slots) (hx : p.tables.exec = Jvm.exec) {pc : Nat} {Ls : Array Slot} {z : Int32} {t : FieldType} {rest : List Value} (hret : meth.sig.returnType = some t) (ht : t = .boolean ∨ t = .byte ∨ t = .char ∨ t = .short)
 (hd : decode c.code pc = .ok (.ireturn, 1)) (hS₁ : s.Since vm₁ n) (hn₁ : n ≤ T.heap.size) (hQ : Q (some (.int (nar t z))) T.heap locs) (hF : CHr Z EL s.vm s.heap T.vm T.heap) (hC : cells ≤ C) (hS : slots ≤ S) (hlk : meth.locks = false := by assumption) :
 i7 p e below (fun o U' => ∃ v L, o = .returned v ∧ Q v U'.heap L ∧ CHr Z EL s.vm s.heap U'.vm U'.heap ∧ ReturnedEndW s o U' L C S) (T.setTop (mkF m pc Ls (.int z :: rest))) :=
 aC2 X (fun h => by rw [hret] at h; cases h) hlk (fun fs hr => retN X hx hret ht hd hr) hS₁ hn₁ hQ hF hC hS
theorem aB7 {Q : Option Value → Heap → List Loc → Prop} {C S : Nat} {vm₁ : Vm} {n : Nat} {Z : State} {EL : List (String × Nat)} (X : Stand p l e R (s.setVm vm₁) m args below meth c T locs cells slots) (hx : p.tables.exec = Jvm.exec) {pc : Nat} {Ls : Array Slot} {w : Value} {t : FieldType} {rest : List Value} (hret : meth.sig.returnType = some t) (ht : t.isReference = true) (hw : w.isRef = true)
 (hd : decode c.code pc = .ok (.areturn, 1)) (hS₁ : s.Since vm₁ n) (hn₁ : n ≤ T.heap.size) (hQ : Q (some w) T.heap locs) (hF : CHr Z EL s.vm s.heap T.vm T.heap) (hC : cells ≤ C) (hS : slots ≤ S) (hlk : meth.locks = false := by assumption) :
 i7 p e below (fun o U' => ∃ v L, o = .returned v ∧ Q v U'.heap L ∧ CHr Z EL s.vm s.heap U'.vm U'.heap ∧ ReturnedEndW s o U' L C S) (T.setTop (mkF m pc Ls (w :: rest))) :=
 aC2 X (fun h => by rw [hret] at h; cases h) hlk (fun fs hr => retOut X hx hret (by cases t <;> first | (cases ht; done) | rfl) (Or.inr (Or.inr (Or.inr (Or.inr ⟨rfl, ht, hw⟩)))) hd hr) hS₁ hn₁ hQ hF hC hS
theorem aB8 {Q : Option Value → Heap → List Loc → Prop} {C S : Nat} {vm₁ : Vm} {n : Nat} {Z : State} {EL : List (String × Nat)} (X : Stand p l e R (s.setVm vm₁) m args below meth c T locs cells slots) (hx : p.tables.exec = Jvm.exec) {pc : Nat} {Ls : Array Slot} (hret : meth.sig.returnType = none)
 (hd : decode c.code pc = .ok (.return_, 1)) (hS₁ : s.Since vm₁ n) (hn₁ : n ≤ T.heap.size) (hQ : Q none T.heap locs) (hF : CHr Z EL s.vm s.heap T.vm T.heap) (hC : cells ≤ C) (hS : slots ≤ S) (hlk : meth.locks = false := by assumption) :
 i7 p e below (fun o U' => ∃ v L, o = .returned v ∧ Q v U'.heap L ∧ CHr Z EL s.vm s.heap U'.vm U'.heap ∧ ReturnedEndW s o U' L C S) (T.setTop (mkF m pc Ls [])) :=
 aC2 X (fun _ => rfl) hlk (fun fs hr => X.returnOut hx hret hd hr) hS₁ hn₁ hQ hF hC hS
abbrev l0 (l : Launch) (Z : State) (h0 : Heap) (y : MethodName) (bytes : ByteArray) (maxL : Nat) (ret : Option FieldType) (ws : List Jvm.Cond) (rm : Room) (as' : Array Value) (Q : Option Value → Heap → List Loc → Prop) : Prop :=
 MetFree l y (head1 (Jvm.Cond.code y bytes maxL ret :: ws) rm) (fun a U => a = as' ∧ Z.Warmed39 U.vm ∧ U.heap = h0) (fun _ _ _ _ _ => True) (fun _ U o U' => ∃ v L, o = .returned v ∧ Q v U'.heap L ∧ FrameEnd U o U' L rm.cells rm.slots)
theorem ao7 {Z : State} {y : MethodName} {bytes : ByteArray} {maxL : Nat} {ret : Option FieldType} {ws : List Jvm.Cond} {rm : Room} {as' : Array Value} {h0 : Heap} {Q : Option Value → Heap → List Loc → Prop} {Ls : Array Slot} (hpl : plainFor y = true) (ef : ∀ m, entryFrame m as' maxL = mkF m 0 Ls [])
 (k : ∀ (p : Program) (e : Env) (s : State) (m : MethodId) (below : List Frame) (meth : Method) (c : Code) (s₁ : State), Z.Warmed39 s.vm → s.heap = h0 → p.tables.exec = Jvm.exec → c.code = bytes → c.maxLocals = maxL → s.vm.findClass y.cls = some m.cls → meth.name = y.name → meth.locks = false → meth.sig.returnType = ret → Stand p l e rm s m as' below meth c s₁ [] 0 0 → s₁.heap = h0 →
  i7 p e below (fun o U' => ∃ v L, o = .returned v ∧ Q v U'.heap L ∧ FrameEnd s o U' L rm.cells rm.slots) (s₁.setTop (mkF m 0 Ls []))) : l0 l Z h0 y bytes maxL ret ws rm as' Q := by
 refine MetFree.of_bodySF hpl hisR ?_
 intro p e s m args below meth c s₁ Bd hml0 hP hK
 obtain ⟨rfl, hZ, hh⟩ := hP
 exact c8 (fun t q => castTop (ef m) q) (k p e s m below meth c s₁ hZ hh Bd.exec Bd.bytes hml0 (findClass_of_methodNamed Bd.named) (name_of_methodNamed Bd.named Bd.method).1 Bd.notSynchronized Bd.returns (Stand.of_body Bd) (by rw [← hh, Bd.state]; rfl))
abbrev S7 (EL : List (String × Nat)) (l : Launch) (Z : State) (h0 : Heap) (y : MethodName) (bytes : ByteArray) (maxL : Nat) (ret : Option FieldType) (ws : List Jvm.Cond) (rm : Room) (as' : Array Value) (sf : List Addr) (Q : Option Value → Heap → List Loc → Prop) : Prop :=
 MetFree l y (head1 (Jvm.Cond.code y bytes maxL ret :: ws) rm) (fun a U => a = as' ∧ Z.Warmed39 U.vm ∧ U.heap = h0 ∧ CHv Z EL U.vm h0 ∧ ∀ x ∈ sf, Safe Z EL U.vm h0 x) (fun _ _ _ _ _ => True) (fun _ U o U' => ∃ v L, o = .returned v ∧ Q v U'.heap L ∧ CHr Z EL U.vm U.heap U'.vm U'.heap ∧ ReturnedEndW U o U' L rm.cells rm.slots)
theorem Y8 {EL : List (String × Nat)} {Z : State} {y : MethodName} {bytes : ByteArray} {maxL : Nat} {ret : Option FieldType} {ws : List Jvm.Cond} {rm : Room} {as' : Array Value} {sf : List Addr} {h0 : Heap} {Q : Option Value → Heap → List Loc → Prop} {Ls : Array Slot} (hpl : plainFor y = true) (ef : ∀ m, entryFrame m as' maxL = mkF m 0 Ls [])
 (k : ∀ (p : Program) (e : Env) (s : State) (m : MethodId) (below : List Frame) (meth : Method) (c : Code) (s₁ : State), Z.Warmed39 s.vm → s.heap = h0 → CHv Z EL s.vm h0 → (∀ x ∈ sf, Safe Z EL s.vm h0 x) → p.tables.exec = Jvm.exec → c.code = bytes → c.maxLocals = maxL → s.vm.findClass y.cls = some m.cls → meth.name = y.name → meth.locks = false → meth.sig.returnType = ret → Stand p l e rm (s.setVm s.vm) m as' below meth c s₁ [] 0 0 → s₁.heap = h0 →
  i7 p e below (fun o U' => ∃ v L, o = .returned v ∧ Q v U'.heap L ∧ CHr Z EL s.vm s.heap U'.vm U'.heap ∧ ReturnedEndW s o U' L rm.cells rm.slots) (s₁.setTop (mkF m 0 Ls []))) : S7 EL l Z h0 y bytes maxL ret ws rm as' sf Q := by
 refine MetFree.of_bodySF hpl hisR ?_
 intro p e s m args below meth c s₁ Bd hml0 hP hK
 obtain ⟨rfl, hZ, hh, hC, hsf⟩ := hP
 exact c8 (fun t q => castTop (ef m) q) (k p e s m below meth c s₁ hZ hh hC hsf Bd.exec Bd.bytes hml0 (findClass_of_methodNamed Bd.named) (name_of_methodNamed Bd.named Bd.method).1 Bd.notSynchronized Bd.returns (Stand.of_body Bd) (by rw [← hh, Bd.state]; rfl))
theorem aC3 {v : Value} (h : v.isRef = true) : v.category = 1 := by cases v <;> simp_all [Value.isRef, Value.category]
theorem aC4 {x : Addr} : (Value.ref x).category = 1 := rfl
theorem aC5 {x : Int32} : (Value.int x).category = 1 := rfl
theorem aC6 {x : Int64} : (Value.long x).category = 2 := rfl
theorem aC7 : Value.null.category = 1 := rfl
theorem G8 {Z : State} {a0 : Array Value} {EL : List (String × Nat)} {h : Heap} {vm0 : Vm} {y : MethodName} {bytes : ByteArray} {maxL : Nat} {ret : Option FieldType} {rm : Room} {len W : Nat} {as' : Array Value} {sf : List Addr} {Q : Option Value → Heap → List Loc → Prop}
 (hM : MetFree l y (head1 [Cond.code y bytes maxL ret] rm) (fun a U => a = as' ∧ Z.Warmed39 U.vm ∧ U.heap = h ∧ CHv Z EL U.vm h ∧ ∀ x ∈ sf, Safe Z EL U.vm h x) (fun _ _ _ _ _ => True) (fun _ U o U' => ∃ v L, o = .returned v ∧ Q v U'.heap L ∧ CHr Z EL U.vm U.heap U'.vm U'.heap ∧ ReturnedEndW U o U' L rm.cells rm.slots))
 (hZ : Z.Warmed39 vm0) (wc : (Cond.code y bytes maxL ret).before a0 Z = true) (wz : (Cond.initialized y.cls).before a0 Z = true) (hf : rm.frames + 1 ≤ R.frames) (hl : W + (maxL + 11) + rm.locals ≤ R.locals) (hEL : EW Z a0 EL) (H : CHv Z EL vm0 h) (hsf : ∀ x ∈ sf, x < h.size ∧ Safe Z EL vm0 h x) :
 BackS l R p e below (s.setVm vm0) args y len W (fun A a => a = as' ∧ A.U.heap = h ∧ A.cells + rm.cells ≤ R.cells ∧ A.slots + rm.slots ≤ R.slots)
  (fun A _ v B => ∃ L, Q v B.U.heap L ∧ B.locs = A.locs ++ L ∧ B.cells = A.cells + rm.cells ∧ B.slots = A.slots + rm.slots ∧ CHr Z EL vm0 h B.U.vm B.U.heap) := by
 refine BackS.of_freeW (bytes := bytes) (maxL := maxL) (ret := ret) (E := fun _ first o t L k n => (k = rm.cells ∧ n = rm.slots) ∧ CHr Z EL first.vm first.heap t.vm t.heap ∧ ∃ v, o = .returned v ∧ Q v t.heap L) hM hf hl ?_ ?_ (fun _ _ _ _ _ _ _ _ _ => trivial) ?_ ?_
 · intro m meth c A a Y hp
   have hU : Z.Warmed39 A.U.vm := wtrans (s := s.setVm vm0) hZ Y.warmed
   exact ⟨by show (Cond.and _ .tt).before a A.U = true; rw [Cond.before_and, mv hU wc]; rfl, mv hU wc, mv hU wz, hp.2.2.1, hp.2.2.2⟩
 · intro m meth c A a g mk Y hp
   have q := CHv.at Y hZ hEL H
   exact ⟨hp.1, wtrans (s := s.setVm vm0) hZ Y.warmed, hp.2.1, q.1, fun x hx => q.safe (hsf x hx).1 (hsf x hx).2⟩
 · rintro _ _ _ _ ⟨v, L, h1, h2, h3, h4⟩
   exact ⟨L, _, _, h4, ⟨rfl, rfl⟩, h3, v, h1, h2⟩
 · rintro m meth c A a g mk v t L k n Y hp _ _ ⟨⟨e1, e2⟩, e5, v', e3, e4⟩
   cases e3
   subst e1 e2
   have q := (CHv.at Y hZ hEL H).trans (vm2 := t.vm) (h2 := t.heap) (by rw [← hp.2.1]; exact e5)
   exact ⟨L, e4, rfl, rfl, rfl, q⟩
end Own
section Own3
variable {p : Program} {l : Launch} {e : Env} {R : Room} {s : State} {m : MethodId} {args : Array Value} {below : List Frame} {meth : Method} {c : Code} {T : State} {locs : List Loc} {cells slots : Nat}
theorem f4 (X : Stand p l e R s m args below meth c T locs cells slots) (hx : p.tables.exec = Jvm.exec) {bytes : ByteArray} (hby : c.code = bytes) {Q : Outcome → State → Prop} {pc : Nat} {Ls : Array Slot} {S : List Value} {k : Fin 4} {v : Int32} (hd : decode bytes pc = .ok (.iload_n k, 1)) (hl : Ls[k.val]? = some (.val (.int v))) (kk : i7 p e below Q (T.setTop (mkF m (pc + 1) Ls (.int v :: S)))) : i7 p e below Q (T.setTop (mkF m pc Ls (S))) := c8 (fun t k => XS.iloadN X.here hx rfl (hb hby hd) hl k) kk
theorem f5 (X : Stand p l e R s m args below meth c T locs cells slots) (hx : p.tables.exec = Jvm.exec) {bytes : ByteArray} (hby : c.code = bytes) {Q : Outcome → State → Prop} {pc : Nat} {Ls : Array Slot} {S : List Value} {k : Nat} {v : Int32} (hd : decode bytes pc = .ok (.iload k, 2)) (hl : Ls[k]? = some (.val (.int v))) (kk : i7 p e below Q (T.setTop (mkF m (pc + 2) Ls (.int v :: S)))) : i7 p e below Q (T.setTop (mkF m pc Ls (S))) := c8 (fun t k => XS.iload X.here hx rfl (hb hby hd) hl k) kk
theorem t8 (X : Stand p l e R s m args below meth c T locs cells slots) (hx : p.tables.exec = Jvm.exec) {bytes : ByteArray} (hby : c.code = bytes) {Q : Outcome → State → Prop} {pc : Nat} {Ls : Array Slot} {S : List Value} {k : Fin 4} {v : Int64} (hd : decode bytes pc = .ok (.lload_n k, 1)) (hl : Ls[k.val]? = some (.val (.long v))) (kk : i7 p e below Q (T.setTop (mkF m (pc + 1) Ls (.long v :: S)))) : i7 p e below Q (T.setTop (mkF m pc Ls (S))) := c8 (fun t k => XS.lloadN X.here hx rfl (hb hby hd) hl k) kk
theorem o3 (X : Stand p l e R s m args below meth c T locs cells slots) (hx : p.tables.exec = Jvm.exec) {bytes : ByteArray} (hby : c.code = bytes) {Q : Outcome → State → Prop} {pc : Nat} {Ls : Array Slot} {S : List Value} {k : Nat} {v : Int64} (hd : decode bytes pc = .ok (.lload k, 2)) (hl : Ls[k]? = some (.val (.long v))) (kk : i7 p e below Q (T.setTop (mkF m (pc + 2) Ls (.long v :: S)))) : i7 p e below Q (T.setTop (mkF m pc Ls (S))) := c8 (fun t k => XS.lload X.here hx rfl (hb hby hd) hl k) kk
theorem c6 (X : Stand p l e R s m args below meth c T locs cells slots) (hx : p.tables.exec = Jvm.exec) {bytes : ByteArray} (hby : c.code = bytes) {Q : Outcome → State → Prop} {pc : Nat} {Ls : Array Slot} {S : List Value} {k : Fin 4} {v : Value} (hd : decode bytes pc = .ok (.aload_n k, 1)) (hl : Ls[k.val]? = some (.val v)) (hv : v.isRef = true) (kk : i7 p e below Q (T.setTop (mkF m (pc + 1) Ls (v :: S)))) : i7 p e below Q (T.setTop (mkF m pc Ls (S))) := c8 (fun t k => XS.aloadN X.here hx rfl (hb hby hd) hl hv k) kk
theorem j0 (X : Stand p l e R s m args below meth c T locs cells slots) (hx : p.tables.exec = Jvm.exec) {bytes : ByteArray} (hby : c.code = bytes) {Q : Outcome → State → Prop} {pc : Nat} {Ls : Array Slot} {S : List Value} {k : Nat} {v : Value} (hd : decode bytes pc = .ok (.aload k, 2)) (hl : Ls[k]? = some (.val v)) (hv : v.isRef = true) (kk : i7 p e below Q (T.setTop (mkF m (pc + 2) Ls (v :: S)))) : i7 p e below Q (T.setTop (mkF m pc Ls (S))) := c8 (fun t k => XS.aload X.here hx rfl (hb hby hd) hl hv k) kk
theorem p8 (X : Stand p l e R s m args below meth c T locs cells slots) (hx : p.tables.exec = Jvm.exec) {bytes : ByteArray} (hby : c.code = bytes) {Q : Outcome → State → Prop} {pc : Nat} {Ls : Array Slot} {S : List Value} {k : Fin 4} {v : Int32} {l' : Array Slot} (hd : decode bytes pc = .ok (.istore_n k, 1)) (hl : storeLocals Ls k.val (.int v) = some l') (kk : i7 p e below Q (T.setTop (mkF m (pc + 1) l' (S)))) : i7 p e below Q (T.setTop (mkF m pc Ls (.int v :: S))) := c8 (fun t k => XS.istoreN X.here hx rfl (hb hby hd) rfl hl k) kk
theorem o4 (X : Stand p l e R s m args below meth c T locs cells slots) (hx : p.tables.exec = Jvm.exec) {bytes : ByteArray} (hby : c.code = bytes) {Q : Outcome → State → Prop} {pc : Nat} {Ls : Array Slot} {S : List Value} {k : Nat} {v : Int32} {l' : Array Slot} (hd : decode bytes pc = .ok (.istore k, 2)) (hl : storeLocals Ls k (.int v) = some l') (kk : i7 p e below Q (T.setTop (mkF m (pc + 2) l' (S)))) : i7 p e below Q (T.setTop (mkF m pc Ls (.int v :: S))) := c8 (fun t k => XS.istore X.here hx rfl (hb hby hd) rfl hl k) kk
theorem aB9 (X : Stand p l e R s m args below meth c T locs cells slots) (hx : p.tables.exec = Jvm.exec) {bytes : ByteArray} (hby : c.code = bytes) {Q : Outcome → State → Prop} {pc : Nat} {Ls : Array Slot} {S : List Value} {k : Fin 4} {v : Int64} {l' : Array Slot} (hd : decode bytes pc = .ok (.lstore_n k, 1)) (hl : storeLocals Ls k.val (.long v) = some l') (kk : i7 p e below Q (T.setTop (mkF m (pc + 1) l' (S)))) : i7 p e below Q (T.setTop (mkF m pc Ls (.long v :: S))) := c8 (fun t k => XS.lstoreN X.here hx rfl (hb hby hd) rfl hl k) kk
theorem Q9 (X : Stand p l e R s m args below meth c T locs cells slots) (hx : p.tables.exec = Jvm.exec) {bytes : ByteArray} (hby : c.code = bytes) {Q : Outcome → State → Prop} {pc : Nat} {Ls : Array Slot} {S : List Value} {k : Nat} {v : Int64} {l' : Array Slot} (hd : decode bytes pc = .ok (.lstore k, 2)) (hl : storeLocals Ls k (.long v) = some l') (kk : i7 p e below Q (T.setTop (mkF m (pc + 2) l' (S)))) : i7 p e below Q (T.setTop (mkF m pc Ls (.long v :: S))) := c8 (fun t k => XS.lstore X.here hx rfl (hb hby hd) rfl hl k) kk
theorem w9 (X : Stand p l e R s m args below meth c T locs cells slots) (hx : p.tables.exec = Jvm.exec) {bytes : ByteArray} (hby : c.code = bytes) {Q : Outcome → State → Prop} {pc : Nat} {Ls : Array Slot} {S : List Value} {k : Fin 4} {v : Value} {l' : Array Slot} (hd : decode bytes pc = .ok (.astore_n k, 1)) (hv : v.isRef = true) (hl : storeLocals Ls k.val v = some l') (kk : i7 p e below Q (T.setTop (mkF m (pc + 1) l' (S)))) : i7 p e below Q (T.setTop (mkF m pc Ls (v :: S))) := c8 (fun t k => XS.astoreN X.here hx rfl (hb hby hd) rfl hv hl k) kk
theorem t5 (X : Stand p l e R s m args below meth c T locs cells slots) (hx : p.tables.exec = Jvm.exec) {bytes : ByteArray} (hby : c.code = bytes) {Q : Outcome → State → Prop} {pc : Nat} {Ls : Array Slot} {S : List Value} {k : Nat} {v : Value} {l' : Array Slot} (hd : decode bytes pc = .ok (.astore k, 2)) (hv : v.isRef = true) (hl : storeLocals Ls k v = some l') (kk : i7 p e below Q (T.setTop (mkF m (pc + 2) l' (S)))) : i7 p e below Q (T.setTop (mkF m pc Ls (v :: S))) := c8 (fun t k => XS.astore X.here hx rfl (hb hby hd) rfl hv hl k) kk
theorem f6 (X : Stand p l e R s m args below meth c T locs cells slots) (hx : p.tables.exec = Jvm.exec) {bytes : ByteArray} (hby : c.code = bytes) {Q : Outcome → State → Prop} {pc : Nat} {Ls : Array Slot} {S : List Value} {i : Int} {z : Int32} (hd : decode bytes pc = .ok (.iconst i, 1)) (hz : Int32.ofInt i = z) (kk : i7 p e below Q (T.setTop (mkF m (pc + 1) Ls (.int z :: S)))) : i7 p e below Q (T.setTop (mkF m pc Ls (S))) := by subst hz; exact c8 (fun t k => XS.iconst X.here hx rfl (hb hby hd)  k) kk
theorem t9 (X : Stand p l e R s m args below meth c T locs cells slots) (hx : p.tables.exec = Jvm.exec) {bytes : ByteArray} (hby : c.code = bytes) {Q : Outcome → State → Prop} {pc : Nat} {Ls : Array Slot} {S : List Value} {i : Int} {z : Int32} (hd : decode bytes pc = .ok (.bipush i, 2)) (hz : (Int8.ofInt i).toInt32 = z) (kk : i7 p e below Q (T.setTop (mkF m (pc + 2) Ls (.int z :: S)))) : i7 p e below Q (T.setTop (mkF m pc Ls (S))) := by subst hz; exact c8 (fun t k => XS.bipush X.here hx rfl (hb hby hd)  k) kk
theorem M2 (X : Stand p l e R s m args below meth c T locs cells slots) (hx : p.tables.exec = Jvm.exec) {bytes : ByteArray} (hby : c.code = bytes) {Q : Outcome → State → Prop} {pc : Nat} {Ls : Array Slot} {S : List Value} {i : Int} {z : Int32} (hd : decode bytes pc = .ok (.sipush i, 3)) (hz : (Int16.ofInt i).toInt32 = z) (kk : i7 p e below Q (T.setTop (mkF m (pc + 3) Ls (.int z :: S)))) : i7 p e below Q (T.setTop (mkF m pc Ls (S))) := by subst hz; exact c8 (fun t k => XS.sipush X.here hx rfl (hb hby hd)  k) kk
theorem aX0 (X : Stand p l e R s m args below meth c T locs cells slots) (hx : p.tables.exec = Jvm.exec) {bytes : ByteArray} (hby : c.code = bytes) {Q : Outcome → State → Prop} {pc : Nat} {Ls : Array Slot} {S : List Value} (hd : decode bytes pc = .ok (.aconst_null, 1))  (kk : i7 p e below Q (T.setTop (mkF m (pc + 1) Ls (.null :: S)))) : i7 p e below Q (T.setTop (mkF m pc Ls (S))) := c8 (fun t k => XS.aconstNull X.here hx rfl (hb hby hd)  k) kk
theorem n7 (X : Stand p l e R s m args below meth c T locs cells slots) (hx : p.tables.exec = Jvm.exec) {bytes : ByteArray} (hby : c.code = bytes) {Q : Outcome → State → Prop} {pc : Nat} {Ls : Array Slot} {S : List Value} {x y : Int32} (hd : decode bytes pc = .ok (.iadd, 1))  (kk : i7 p e below Q (T.setTop (mkF m (pc + 1) Ls (.int (x + y) :: S)))) : i7 p e below Q (T.setTop (mkF m pc Ls (.int y :: .int x :: S))) := c8 (fun t k => XS.iadd X.here hx rfl (hb hby hd) rfl k) kk
theorem x7 (X : Stand p l e R s m args below meth c T locs cells slots) (hx : p.tables.exec = Jvm.exec) {bytes : ByteArray} (hby : c.code = bytes) {Q : Outcome → State → Prop} {pc : Nat} {Ls : Array Slot} {S : List Value} {x y : Int32} (hd : decode bytes pc = .ok (.isub, 1))  (kk : i7 p e below Q (T.setTop (mkF m (pc + 1) Ls (.int (x - y) :: S)))) : i7 p e below Q (T.setTop (mkF m pc Ls (.int y :: .int x :: S))) := c8 (fun t k => XS.isub X.here hx rfl (hb hby hd) rfl k) kk
theorem P3 (X : Stand p l e R s m args below meth c T locs cells slots) (hx : p.tables.exec = Jvm.exec) {bytes : ByteArray} (hby : c.code = bytes) {Q : Outcome → State → Prop} {pc : Nat} {Ls : Array Slot} {S : List Value} {x y : Int32} (hd : decode bytes pc = .ok (.imul, 1))  (kk : i7 p e below Q (T.setTop (mkF m (pc + 1) Ls (.int (x * y) :: S)))) : i7 p e below Q (T.setTop (mkF m pc Ls (.int y :: .int x :: S))) := c8 (fun t k => XS.imul X.here hx rfl (hb hby hd) rfl k) kk
theorem H1 (X : Stand p l e R s m args below meth c T locs cells slots) (hx : p.tables.exec = Jvm.exec) {bytes : ByteArray} (hby : c.code = bytes) {Q : Outcome → State → Prop} {pc : Nat} {Ls : Array Slot} {S : List Value} {x y : Int32} (hd : decode bytes pc = .ok (.iand, 1))  (kk : i7 p e below Q (T.setTop (mkF m (pc + 1) Ls (.int (x &&& y) :: S)))) : i7 p e below Q (T.setTop (mkF m pc Ls (.int y :: .int x :: S))) := c8 (fun t k => XS.iand X.here hx rfl (hb hby hd) rfl k) kk
theorem ay8 (X : Stand p l e R s m args below meth c T locs cells slots) (hx : p.tables.exec = Jvm.exec) {bytes : ByteArray} (hby : c.code = bytes) {Q : Outcome → State → Prop} {pc : Nat} {Ls : Array Slot} {S : List Value} {x y : Int32} (hd : decode bytes pc = .ok (.ior, 1))  (kk : i7 p e below Q (T.setTop (mkF m (pc + 1) Ls (.int (x ||| y) :: S)))) : i7 p e below Q (T.setTop (mkF m pc Ls (.int y :: .int x :: S))) := c8 (fun t k => XS.ior X.here hx rfl (hb hby hd) rfl k) kk
theorem ci3 (X : Stand p l e R s m args below meth c T locs cells slots) (hx : p.tables.exec = Jvm.exec) {bytes : ByteArray} (hby : c.code = bytes) {Q : Outcome → State → Prop} {pc : Nat} {Ls : Array Slot} {S : List Value} {x y : Int32} (hd : decode bytes pc = .ok (.ishr, 1))  (kk : i7 p e below Q (T.setTop (mkF m (pc + 1) Ls (.int (x >>> (y &&& 31)) :: S)))) : i7 p e below Q (T.setTop (mkF m pc Ls (.int y :: .int x :: S))) := c8 (fun t k => XS.ishr X.here hx rfl (hb hby hd) rfl k) kk
theorem ap0 (X : Stand p l e R s m args below meth c T locs cells slots) (hx : p.tables.exec = Jvm.exec) {bytes : ByteArray} (hby : c.code = bytes) {Q : Outcome → State → Prop} {pc : Nat} {Ls : Array Slot} {S : List Value} {x y : Int32} (hd : decode bytes pc = .ok (.iushr, 1))  (kk : i7 p e below Q (T.setTop (mkF m (pc + 1) Ls (.int ((x.toUInt32 >>> (y &&& 31).toUInt32).toInt32) :: S)))) : i7 p e below Q (T.setTop (mkF m pc Ls (.int y :: .int x :: S))) := c8 (fun t k => XS.iushr X.here hx rfl (hb hby hd) rfl k) kk
theorem P4 (X : Stand p l e R s m args below meth c T locs cells slots) (hx : p.tables.exec = Jvm.exec) {bytes : ByteArray} (hby : c.code = bytes) {Q : Outcome → State → Prop} {pc : Nat} {Ls : Array Slot} {S : List Value} {x y : Int64} (hd : decode bytes pc = .ok (.ladd, 1))  (kk : i7 p e below Q (T.setTop (mkF m (pc + 1) Ls (.long (x + y) :: S)))) : i7 p e below Q (T.setTop (mkF m pc Ls (.long y :: .long x :: S))) := c8 (fun t k => XS.ladd X.here hx rfl (hb hby hd) rfl k) kk
theorem ci4 (X : Stand p l e R s m args below meth c T locs cells slots) (hx : p.tables.exec = Jvm.exec) {bytes : ByteArray} (hby : c.code = bytes) {Q : Outcome → State → Prop} {pc : Nat} {Ls : Array Slot} {S : List Value} {x y : Int64} (hd : decode bytes pc = .ok (.lsub, 1))  (kk : i7 p e below Q (T.setTop (mkF m (pc + 1) Ls (.long (x - y) :: S)))) : i7 p e below Q (T.setTop (mkF m pc Ls (.long y :: .long x :: S))) := c8 (fun t k => XS.lsub X.here hx rfl (hb hby hd) rfl k) kk
theorem R1 (X : Stand p l e R s m args below meth c T locs cells slots) (hx : p.tables.exec = Jvm.exec) {bytes : ByteArray} (hby : c.code = bytes) {Q : Outcome → State → Prop} {pc : Nat} {Ls : Array Slot} {S : List Value} {x y : Int64} (hd : decode bytes pc = .ok (.land, 1))  (kk : i7 p e below Q (T.setTop (mkF m (pc + 1) Ls (.long (x &&& y) :: S)))) : i7 p e below Q (T.setTop (mkF m pc Ls (.long y :: .long x :: S))) := c8 (fun t k => XS.land X.here hx rfl (hb hby hd) rfl k) kk
theorem be6 (X : Stand p l e R s m args below meth c T locs cells slots) (hx : p.tables.exec = Jvm.exec) {bytes : ByteArray} (hby : c.code = bytes) {Q : Outcome → State → Prop} {pc : Nat} {Ls : Array Slot} {S : List Value} {x : Int64} {y : Int32} (hd : decode bytes pc = .ok (.lshl, 1))  (kk : i7 p e below Q (T.setTop (mkF m (pc + 1) Ls (.long (x <<< (y &&& 0x3f).toInt64) :: S)))) : i7 p e below Q (T.setTop (mkF m pc Ls (.int y :: .long x :: S))) := c8 (fun t k => XS.lshl X.here hx rfl (hb hby hd) rfl k) kk
theorem ap1 (X : Stand p l e R s m args below meth c T locs cells slots) (hx : p.tables.exec = Jvm.exec) {bytes : ByteArray} (hby : c.code = bytes) {Q : Outcome → State → Prop} {pc : Nat} {Ls : Array Slot} {S : List Value} {x : Int64} {y : Int32} (hd : decode bytes pc = .ok (.lushr, 1))  (kk : i7 p e below Q (T.setTop (mkF m (pc + 1) Ls (.long ((x.toUInt64 >>> (y &&& 0x3f).toInt64.toUInt64).toInt64) :: S)))) : i7 p e below Q (T.setTop (mkF m pc Ls (.int y :: .long x :: S))) := c8 (fun t k => XS.lushr X.here hx rfl (hb hby hd) rfl k) kk
theorem bD5 (X : Stand p l e R s m args below meth c T locs cells slots) (hx : p.tables.exec = Jvm.exec) {bytes : ByteArray} (hby : c.code = bytes) {Q : Outcome → State → Prop} {pc : Nat} {Ls : Array Slot} {S : List Value} {x : Int32} (hd : decode bytes pc = .ok (.i2l, 1))  (kk : i7 p e below Q (T.setTop (mkF m (pc + 1) Ls (.long (x.toInt64) :: S)))) : i7 p e below Q (T.setTop (mkF m pc Ls (.int x :: S))) := c8 (fun t k => XS.i2l X.here hx rfl (hb hby hd) rfl k) kk
theorem ay9 (X : Stand p l e R s m args below meth c T locs cells slots) (hx : p.tables.exec = Jvm.exec) {bytes : ByteArray} (hby : c.code = bytes) {Q : Outcome → State → Prop} {pc : Nat} {Ls : Array Slot} {S : List Value} {x : Int64} (hd : decode bytes pc = .ok (.l2i, 1))  (kk : i7 p e below Q (T.setTop (mkF m (pc + 1) Ls (.int (x.toInt32) :: S)))) : i7 p e below Q (T.setTop (mkF m pc Ls (.long x :: S))) := c8 (fun t k => XS.l2i X.here hx rfl (hb hby hd) rfl k) kk
theorem H4 (X : Stand p l e R s m args below meth c T locs cells slots) (hx : p.tables.exec = Jvm.exec) {bytes : ByteArray} (hby : c.code = bytes) {Q : Outcome → State → Prop} {pc : Nat} {Ls : Array Slot} {S : List Value} {x : Int32} (hd : decode bytes pc = .ok (.i2b, 1))  (kk : i7 p e below Q (T.setTop (mkF m (pc + 1) Ls (.int (x.toInt8.toInt32) :: S)))) : i7 p e below Q (T.setTop (mkF m pc Ls (.int x :: S))) := c8 (fun t k => XS.i2b X.here hx rfl (hb hby hd) rfl k) kk
theorem cH4 (X : Stand p l e R s m args below meth c T locs cells slots) (hx : p.tables.exec = Jvm.exec) {bytes : ByteArray} (hby : c.code = bytes) {Q : Outcome → State → Prop} {pc : Nat} {Ls : Array Slot} {S : List Value} {x : Int32} (hd : decode bytes pc = .ok (.i2c, 1))  (kk : i7 p e below Q (T.setTop (mkF m (pc + 1) Ls (.int (x.toUInt32.toUInt16.toUInt32.toInt32) :: S)))) : i7 p e below Q (T.setTop (mkF m pc Ls (.int x :: S))) := c8 (fun t k => XS.i2c X.here hx rfl (hb hby hd) rfl k) kk
theorem A0 (X : Stand p l e R s m args below meth c T locs cells slots) (hx : p.tables.exec = Jvm.exec) {bytes : ByteArray} (hby : c.code = bytes) {Q : Outcome → State → Prop} {pc : Nat} {Ls : Array Slot} {S : List Value} {x : Value} (hd : decode bytes pc = .ok (.dup, 1)) (hc : x.category = 1) (kk : i7 p e below Q (T.setTop (mkF m (pc + 1) Ls (x :: x :: S)))) : i7 p e below Q (T.setTop (mkF m pc Ls (x :: S))) := c8 (fun t k => XS.dup X.here hx rfl (hb hby hd) rfl hc k) kk
theorem az0 (X : Stand p l e R s m args below meth c T locs cells slots) (hx : p.tables.exec = Jvm.exec) {bytes : ByteArray} (hby : c.code = bytes) {Q : Outcome → State → Prop} {pc : Nat} {Ls : Array Slot} {S : List Value} {x : Value} (hd : decode bytes pc = .ok (.pop, 1)) (hc : x.category = 1) (kk : i7 p e below Q (T.setTop (mkF m (pc + 1) Ls (S)))) : i7 p e below Q (T.setTop (mkF m pc Ls (x :: S))) := c8 (fun t k => XS.pop X.here hx rfl (hb hby hd) rfl hc k) kk
theorem m8 (X : Stand p l e R s m args below meth c T locs cells slots) (hx : p.tables.exec = Jvm.exec) {bytes : ByteArray} (hby : c.code = bytes) {Q : Outcome → State → Prop} {pc : Nat} {Ls : Array Slot} {S : List Value} {x : Int32} {cd : ClassFile.Cond} {o : Int} (hd : decode bytes pc = .ok (.ifCond cd o, 3)) (hc : ifCond.holds cd x = false) (kk : i7 p e below Q (T.setTop (mkF m (pc + 3) Ls (S)))) : i7 p e below Q (T.setTop (mkF m pc Ls (.int x :: S))) := c8 (fun t k => XS.ifNo X.here hx rfl (hb hby hd) rfl hc k) kk
theorem m4 (X : Stand p l e R s m args below meth c T locs cells slots) (hx : p.tables.exec = Jvm.exec) {bytes : ByteArray} (hby : c.code = bytes) {Q : Outcome → State → Prop} {pc : Nat} {Ls : Array Slot} {S : List Value} {x y : Int32} {cd : ClassFile.Cond} {o : Int} (hd : decode bytes pc = .ok (.if_icmp cd o, 3)) (hc : if_icmp.holds cd x y = false) (kk : i7 p e below Q (T.setTop (mkF m (pc + 3) Ls (S)))) : i7 p e below Q (T.setTop (mkF m pc Ls (.int y :: .int x :: S))) := c8 (fun t k => XS.icmpNo X.here hx rfl (hb hby hd) rfl hc k) kk
theorem m5 (X : Stand p l e R s m args below meth c T locs cells slots) (hx : p.tables.exec = Jvm.exec) {bytes : ByteArray} (hby : c.code = bytes) {Q : Outcome → State → Prop} {pc pc' : Nat} {Ls : Array Slot} {S : List Value} {o : Int} (hd : decode bytes pc = .ok (.goto o, 3))  (kk : i7 p e below Q (T.setTop (mkF m pc' Ls (S)))) (ho : 0 ≤ (pc : Int) + o := by decide) (hp : ((pc : Int) + o).toNat = pc' := by decide) : i7 p e below Q (T.setTop (mkF m pc Ls (S))) := c8 (fun t k => XS.goto X.here hx rfl (pc0 := pc) rfl (hb hby hd)  ho hp k) kk
theorem o2 (X : Stand p l e R s m args below meth c T locs cells slots) (hx : p.tables.exec = Jvm.exec) {bytes : ByteArray} (hby : c.code = bytes) {Q : Outcome → State → Prop} {pc pc' : Nat} {Ls : Array Slot} {S : List Value} {x : Int32} {cd : ClassFile.Cond} {o : Int} (hd : decode bytes pc = .ok (.ifCond cd o, 3)) (hc : ifCond.holds cd x = true) (kk : i7 p e below Q (T.setTop (mkF m pc' Ls (S)))) (ho : 0 ≤ (pc : Int) + o := by decide) (hp : ((pc : Int) + o).toNat = pc' := by decide) : i7 p e below Q (T.setTop (mkF m pc Ls (.int x :: S))) := c8 (fun t k => XS.ifYes X.here hx rfl (pc0 := pc) rfl (hb hby hd) rfl hc ho hp k) kk
theorem j5 (X : Stand p l e R s m args below meth c T locs cells slots) (hx : p.tables.exec = Jvm.exec) {bytes : ByteArray} (hby : c.code = bytes) {Q : Outcome → State → Prop} {pc pc' : Nat} {Ls : Array Slot} {S : List Value} {x y : Int32} {cd : ClassFile.Cond} {o : Int} (hd : decode bytes pc = .ok (.if_icmp cd o, 3)) (hc : if_icmp.holds cd x y = true) (kk : i7 p e below Q (T.setTop (mkF m pc' Ls (S)))) (ho : 0 ≤ (pc : Int) + o := by decide) (hp : ((pc : Int) + o).toNat = pc' := by decide) : i7 p e below Q (T.setTop (mkF m pc Ls (.int y :: .int x :: S))) := c8 (fun t k => XS.icmpYes X.here hx rfl (pc0 := pc) rfl (hb hby hd) rfl hc ho hp k) kk
theorem aW9 (X : Stand p l e R s m args below meth c T locs cells slots) (hx : p.tables.exec = Jvm.exec) {bytes : ByteArray} (hby : c.code = bytes) {Q : Outcome → State → Prop} {pc pc' : Nat} {Ls : Array Slot} {S : List Value} {b : Addr} {o : Int} (hd : decode bytes pc = .ok (.ifnonnull o, 3))  (kk : i7 p e below Q (T.setTop (mkF m pc' Ls (S)))) (ho : 0 ≤ (pc : Int) + o := by decide) (hp : ((pc : Int) + o).toNat = pc' := by decide) : i7 p e below Q (T.setTop (mkF m pc Ls (.ref b :: S))) := c8 (fun t k => XS.ifnonnullYes X.here hx rfl (pc0 := pc) rfl (hb hby hd) rfl ho hp k) kk
end Own3
section Own4
variable {p : Program} {l : Launch} {e : Env} {R : Room} {s : State} {m : MethodId} {args : Array Value} {below : List Frame} {meth : Method} {c : Code} {T : State} {locs : List Loc} {cells slots : Nat} {Z : State} {a0 : Array Value} {h : Heap}
theorem j8 (X : Stand p l e R s m args below meth c T locs cells slots) (hx : p.tables.exec = Jvm.exec) {bts : ByteArray} (hby : c.code = bts) {mL : Nat} (hml : c.maxLocals = mL) (hZ : Z.Warmed39 s.vm) (eT : T.heap = h) {own : String} (hown : s.vm.findClass own = some m.cls) {index : Nat} {y : MethodName} {bytes : ByteArray} {maxL : Nat} {ret : Option FieldType} {rm : Room} {as' : Array Value} {Q : Option Value → Heap → List Loc → Prop}
 (wl : (Jvm.Cond.methodLink own index y).before a0 Z = true) (wt : (Jvm.Cond.static y).before a0 Z = true) (wi : (Jvm.Cond.initialized y.cls).before a0 Z = true) (wc : (Jvm.Cond.code y bytes maxL ret).before a0 Z = true) (hM : l0 l Z h y bytes maxL ret [] rm as' Q)
 {pc : Nat} (Ls : Array Slot) (hd : decode bts pc = .ok (.invokestatic index, 3)) (argsL rest : List Value) (W k n : Nat) (hlen : ∀ sig, parseMethodDescriptor y.desc = some sig → argsL.length = sig.parameters.length)
 (hW : (rest.map fun v => v.category).sum ≤ W := by exact f7 rfl) (hs : Ls.size = mL := by rfl) (has : argsL.toArray = as' := by rfl)
 (hy : y.cls ≠ "java/lang/invoke/MethodHandle" ∧ y.cls ≠ "java/lang/invoke/VarHandle" := by decide) (hf : rm.frames + 1 ≤ R.frames := by decide) (hl : W + (maxL + 11) + rm.locals ≤ R.locals := by decide) (hk : rm.cells = k := by rfl) (hn : rm.slots = n := by rfl) (hcl : cells + k ≤ R.cells := by decide) (hsl : slots + n ≤ R.slots := by decide) :
 ∃ v T' Lc, Stand p l e R s m args below meth c T' (locs ++ Lc) (cells + k) (slots + n) ∧ Q v T'.heap Lc ∧ ∀ t, Steps p.tables e below (T'.setTop (mkF m (pc + 3) Ls (v.toList ++ rest))) t → Steps p.tables e below (T.setTop (mkF m pc Ls (argsL.reverse ++ rest))) t := by
 subst hk hn
 obtain ⟨v, _, ⟨T1, L1, k1, n1⟩, -, X1, ⟨Lc, hQ, l1, y1, z1⟩, st⟩ := Jvm.LawKit.callS X hx (y := y) hown (mvT hZ wl) (mvT hZ wt) (mvT hZ wi) (mvT hZ wc) hy (backOf (W := W) hM hZ wc wi hf hl) (g := mkF m pc Ls (argsL.reverse ++ rest)) rfl (by rw [hml]; exact hs) (argsL := argsL) (rest := rest) hlen rfl (by show 2 * 0 + _ ≤ _; rw [Nat.mul_zero, Nat.zero_add]; exact hW) (hb hby hd) (fun _ _ => ⟨has, eT, hcl, hsl⟩)
 dsimp only [Pt.U, Pt.locs, Pt.cells, Pt.slots] at X1 l1 y1 z1 st hQ
 subst l1 y1 z1
 exact ⟨v, T1, Lc, X1, hQ, st⟩
theorem al9 (X : Stand p l e R s m args below meth c T locs cells slots) (hx : p.tables.exec = Jvm.exec) {bts : ByteArray} (hby : c.code = bts) {mL : Nat} (hml : c.maxLocals = mL) (hZ : Z.Warmed39 s.vm) (eT : T.heap = h) {own : String} (hown : s.vm.findClass own = some m.cls) {index : Nat} {y : MethodName} {bytes : ByteArray} {maxL : Nat} {ret : Option FieldType} {rm : Room} {as' : Array Value} {Q : Option Value → Heap → List Loc → Prop}
 (wl : (Jvm.Cond.methodLink own index y).before a0 Z = true) (wt : (Jvm.Cond.instanceMethod y).before a0 Z = true) (wp : (Jvm.Cond.privateMethod y).before a0 Z = true) (ws : (Jvm.Cond.selects y.cls y y).before a0 Z = true) (wi : (Jvm.Cond.initialized y.cls).before a0 Z = true) (wc : (Jvm.Cond.code y bytes maxL ret).before a0 Z = true) {C : String} {o : Addr} (E : Exa Z h o C) (hM : l0 l Z h y bytes maxL ret [] rm as' Q)
 {pc : Nat} (Ls : Array Slot) (hd : decode bts pc = .ok (.invokevirtual index, 3)) (argsL rest : List Value) (W k n : Nat) (hlen : ∀ sig, parseMethodDescriptor y.desc = some sig → argsL.length = sig.parameters.length)
 (hW : (rest.map fun v => v.category).sum ≤ W := by exact f7 rfl) (hs : Ls.size = mL := by rfl) (has : (Value.ref o :: argsL).toArray = as' := by rfl)
 (hy : y.cls ≠ "java/lang/invoke/MethodHandle" ∧ y.cls ≠ "java/lang/invoke/VarHandle" := by decide) (hf : rm.frames + 1 ≤ R.frames := by decide) (hl : W + (maxL + 11) + rm.locals ≤ R.locals := by decide) (hk : rm.cells = k := by rfl) (hn : rm.slots = n := by rfl) (hcl : cells + k ≤ R.cells := by decide) (hsl : slots + n ≤ R.slots := by decide) :
 ∃ v T' Lc, Stand p l e R s m args below meth c T' (locs ++ Lc) (cells + k) (slots + n) ∧ Q v T'.heap Lc ∧ ∀ t, Steps p.tables e below (T'.setTop (mkF m (pc + 3) Ls (v.toList ++ rest))) t → Steps p.tables e below (T.setTop (mkF m pc Ls (argsL.reverse ++ .ref o :: rest))) t := by
 subst hk hn
 obtain ⟨cq, kq, qa, qb, cell, qc, qd, qe⟩ := isOf hZ eT E
 obtain ⟨v, _, ⟨T1, L1, k1, n1⟩, -, X1, ⟨Lc, hQ, l1, y1, z1⟩, st⟩ := X.privateBack hx (y := y) hown (mvT hZ wl) (mvT hZ wt) (mvT hZ ws) (Cond.privateMethod_at (args := #[]) (mvT hZ wp)) (mvT hZ wc) hy (backOf (W := W) hM hZ wc wi hf hl) (g := mkF m pc Ls (argsL.reverse ++ .ref o :: rest)) rfl (by rw [hml]; exact hs) (Steps.refl _) (a := o) qc (fun q z => by rw [z] at qe; cases qe) (argsL := argsL) (rest := rest) hlen rfl (by show 2 * 0 + _ ≤ _; rw [Nat.mul_zero, Nat.zero_add]; exact hW) (hb hby hd) (fun _ _ => ⟨has, eT, hcl, hsl⟩)
 dsimp only [Pt.U, Pt.locs, Pt.cells, Pt.slots] at X1 l1 y1 z1 st hQ
 subst l1 y1 z1
 exact ⟨v, T1, Lc, X1, hQ, fun t q => st.trans q⟩
theorem D0 (X : Stand p l e R s m args below meth c T locs cells slots) (hx : p.tables.exec = Jvm.exec) {bts : ByteArray} (hby : c.code = bts) {mL : Nat} (hml : c.maxLocals = mL) (hZ : Z.Warmed39 s.vm) (eT : T.heap = h) {own : String} (hown : s.vm.findClass own = some m.cls) {index : Nat} {y : MethodName} {bytes : ByteArray} {maxL : Nat} {rm : Room} {as' : Array Value} {Q : Option Value → Heap → List Loc → Prop}
 (wl : (Jvm.Cond.methodLink own index y).before a0 Z = true) (wt : (Jvm.Cond.instanceMethod y).before a0 Z = true) (wi : (Jvm.Cond.initialized y.cls).before a0 Z = true) (wc : (Jvm.Cond.code y bytes maxL none).before a0 Z = true) {o : Addr} (hM : l0 l Z h y bytes maxL none [] rm as' Q)
 {pc : Nat} (Ls : Array Slot) (hd : decode bts pc = .ok (.invokespecial index, 3)) (argsL rest : List Value) (W k n : Nat) (hlen : ∀ sig, parseMethodDescriptor y.desc = some sig → argsL.length = sig.parameters.length) (hy1 : y.name = "<init>" := by rfl)
 (hW : (rest.map fun v => v.category).sum ≤ W := by exact f7 rfl) (hs : Ls.size = mL := by rfl) (has : (Value.ref o :: argsL).toArray = as' := by rfl)
 (hy : y.cls ≠ "java/lang/invoke/MethodHandle" ∧ y.cls ≠ "java/lang/invoke/VarHandle" := by decide) (hf : rm.frames + 1 ≤ R.frames := by decide) (hl : W + (maxL + 11) + rm.locals ≤ R.locals := by decide) (hk : rm.cells = k := by rfl) (hn : rm.slots = n := by rfl) (hcl : cells + k ≤ R.cells := by decide) (hsl : slots + n ≤ R.slots := by decide) :
 ∃ v T' Lc, Stand p l e R s m args below meth c T' (locs ++ Lc) (cells + k) (slots + n) ∧ Q v T'.heap Lc ∧ ∀ t, Steps p.tables e below (T'.setTop (mkF m (pc + 3) Ls (v.toList ++ rest))) t → Steps p.tables e below (T.setTop (mkF m pc Ls (argsL.reverse ++ .ref o :: rest))) t := by
 subst hk hn
 obtain ⟨v, _, ⟨T1, L1, k1, n1⟩, -, X1, ⟨Lc, hQ, l1, y1, z1⟩, st⟩ := X.specialBack hx (y := y) hy1 hown (mvT hZ wl) (mvT hZ wt) (mvT hZ wc) hy (backOf (W := W) hM hZ wc wi hf hl) (g := mkF m pc Ls (argsL.reverse ++ .ref o :: rest)) rfl (by rw [hml]; exact hs) (Steps.refl _) (a := o) (argsL := argsL) (rest := rest) hlen rfl (by show 2 * 0 + _ ≤ _; rw [Nat.mul_zero, Nat.zero_add]; exact hW) (hb hby hd) (fun _ _ => ⟨has, eT, hcl, hsl⟩)
 dsimp only [Pt.U, Pt.locs, Pt.cells, Pt.slots] at X1 l1 y1 z1 st hQ
 subst l1 y1 z1
 exact ⟨v, T1, Lc, X1, hQ, fun t q => st.trans q⟩
end Own4
theorem l7 {l : Launch} {Z : State} {y : MethodName} {bytes : ByteArray} {maxL : Nat} {ret : Option FieldType} {ws : List Jvm.Cond} {rm : Room} {as' : Array Value} {h0 : Heap} {Q : Option Value → Heap → List Loc → Prop} {Ls : Array Slot} (hpl : plainFor y = true)
 (k : ∀ (p : Program) (e : Env) (s : State) (m : MethodId) (below : List Frame) (meth : Method) (c : Code) (s₁ : State), Z.Warmed39 s.vm → s.heap = h0 → p.tables.exec = Jvm.exec → c.code = bytes → c.maxLocals = maxL → s.vm.findClass y.cls = some m.cls → meth.name = y.name → meth.locks = false → meth.sig.returnType = ret → Stand p l e rm s m as' below meth c s₁ [] 0 0 → s₁.heap = h0 →
  i7 p e below (fun o U' => ∃ v L, o = .returned v ∧ Q v U'.heap L ∧ FrameEnd s o U' L rm.cells rm.slots) (s₁.setTop (mkF m 0 Ls []))) (ef : ∀ m, entryFrame m as' maxL = mkF m 0 Ls [] := by intro m; first | (simp [entryFrame, mkF, argsToLocals, Value.category]; done) | rfl) : l0 l Z h0 y bytes maxL ret ws rm as' Q := ao7 hpl ef k
section Own5
variable {p : Program} {l : Launch} {e : Env} {R : Room} {s : State} {m : MethodId} {args : Array Value} {below : List Frame} {meth : Method} {c : Code} {T : State} {locs : List Loc} {cells slots : Nat} {Z : State} {a0 : Array Value} {h : Heap}
theorem d3 (X : Stand p l e R s m args below meth c T locs cells slots) (hx : p.tables.exec = Jvm.exec) {bts : ByteArray} (hby : c.code = bts) (hZ : Z.Warmed39 s.vm) (eT : T.heap = h) {own O n d : String} {index : Nat} (hown : s.vm.findClass own = some m.cls) (w : (Jvm.Cond.fieldLink own index O n d).before a0 Z = true) {a : Addr} {v : Value} (F : Fld Z h a O n d v) {pc : Nat} {Ls : Array Slot} {rest : List Value} (hd : decode bts pc = .ok (.getfield index, 3)) {Q : Outcome → State → Prop}
 (kk : ∀ T', Stand p l e R s m args below meth c T' locs cells slots → T'.heap = h → i7 p e below Q (T'.setTop (mkF m (pc + 3) Ls (v :: rest)))) : i7 p e below Q (T.setTop (mkF m pc Ls (.ref a :: rest))) := by
 obtain ⟨T', X', e', st⟩ := getF X hx hZ hown (host := "") (Or.inl w) Via.refl eT F (g := mkF m pc Ls (.ref a :: rest)) rfl rfl (hb hby hd)
 exact c8 st (kk T' X' e')
theorem m7 (X : Stand p l e R s m args below meth c T locs cells slots) (hx : p.tables.exec = Jvm.exec) {bts : ByteArray} (hby : c.code = bts) (hZ : Z.Warmed39 s.vm) (eT : T.heap = h) {a : Addr} {k : ClassId} {ty : FieldType} {n : Int32} {vs : List Value} {d : Value} (F : Arv Z h a k ty n vs d) {pc : Nat} {Ls : Array Slot} {rest : List Value} (hd : decode bts pc = .ok (.arraylength, 1)) {Q : Outcome → State → Prop}
 (kk : i7 p e below Q (T.setTop (mkF m (pc + 1) Ls (.int n :: rest)))) : i7 p e below Q (T.setTop (mkF m pc Ls (.ref a :: rest))) := by
 obtain ⟨cl, A, -, S, N, -, -⟩ := F
 have ln := len_of S N
 exact c8 (fun t k => X.arraylength hx (by rw [eT]; exact A.1) (State.isArrayOf_alike hZ.alike A.2.1) (g := mkF m pc Ls (.ref a :: rest)) rfl rfl (hb hby hd) t (by rw [ln]; exact k)) kk
theorem n3 (X : Stand p l e R s m args below meth c T locs cells slots) (hx : p.tables.exec = Jvm.exec) {bts : ByteArray} (hby : c.code = bts) (hZ : Z.Warmed39 s.vm) (eT : T.heap = h) {a : Addr} {k : ClassId} {n : Int32} {vs : List Value} {d : Value} (F : Arv Z h a k .int n vs d) {j : Int32} {v : Value} (q : ¬ j < 0 ∧ j < n) (hv : vs.getD j.toNatClampNeg d = v) {pc : Nat} {Ls : Array Slot} {rest : List Value} (hd : decode bts pc = .ok (.iaload, 1)) {Q : Outcome → State → Prop}
 (kk : i7 p e below Q (T.setTop (mkF m (pc + 1) Ls (v :: rest)))) : i7 p e below Q (T.setTop (mkF m pc Ls (.int j :: .ref a :: rest))) := by
 obtain ⟨cl, A, -, S, N, H, -⟩ := F
 have hin := inb_of S q
 exact c8 (fun t k => X.iaload hx (j := j) (v := v) (by rw [eT]; exact A.1) (State.isArrayOf_alike hZ.alike A.2.1) A.2.2 hin (H.at hin hv) (g := mkF m pc Ls (.int j :: .ref a :: rest)) rfl rfl (hb hby hd) t k) kk
theorem aD2 (X : Stand p l e R s m args below meth c T locs cells slots) (hx : p.tables.exec = Jvm.exec) {bts : ByteArray} (hby : c.code = bts) (hZ : Z.Warmed39 s.vm) (eT : T.heap = h) {a : Addr} {k : ClassId} {n : Int32} {vs : List Value} {d : Value} (F : Arv Z h a k .long n vs d) {j : Int32} {v : Value} (q : ¬ j < 0 ∧ j < n) (hv : vs.getD j.toNatClampNeg d = v) {pc : Nat} {Ls : Array Slot} {rest : List Value} (hd : decode bts pc = .ok (.laload, 1)) {Q : Outcome → State → Prop}
 (kk : i7 p e below Q (T.setTop (mkF m (pc + 1) Ls (v :: rest)))) : i7 p e below Q (T.setTop (mkF m pc Ls (.int j :: .ref a :: rest))) := by
 obtain ⟨cl, A, -, S, N, H, -⟩ := F
 have hin := inb_of S q
 exact c8 (fun t k => X.laload hx (j := j) (v := v) (by rw [eT]; exact A.1) (State.isArrayOf_alike hZ.alike A.2.1) A.2.2 hin (H.at hin hv) (g := mkF m pc Ls (.int j :: .ref a :: rest)) rfl rfl (hb hby hd) t k) kk
theorem P5 (X : Stand p l e R s m args below meth c T locs cells slots) (hx : p.tables.exec = Jvm.exec) {bts : ByteArray} (hby : c.code = bts) (hZ : Z.Warmed39 s.vm) (eT : T.heap = h) {a : Addr} {k : ClassId} {n : Int32} {vs : List Value} {d : Value} (F : Arv Z h a k .byte n vs d) {j : Int32} {v : Value} (q : ¬ j < 0 ∧ j < n) (hv : vs.getD j.toNatClampNeg d = v) {pc : Nat} {Ls : Array Slot} {rest : List Value} (hd : decode bts pc = .ok (.baload, 1)) {Q : Outcome → State → Prop}
 (kk : i7 p e below Q (T.setTop (mkF m (pc + 1) Ls (v :: rest)))) : i7 p e below Q (T.setTop (mkF m pc Ls (.int j :: .ref a :: rest))) := by
 obtain ⟨cl, A, -, S, N, H, -⟩ := F
 have hin := inb_of S q
 exact c8 (fun t k => X.baloadBytes hx (j := j) (v := v) (by rw [eT]; exact A.1) (State.isArrayOf_alike hZ.alike A.2.1) A.2.2 hin (H.at hin hv) (g := mkF m pc Ls (.int j :: .ref a :: rest)) rfl rfl (hb hby hd) t k) kk
end Own5
section Own6
variable {p : Program} {l : Launch} {e : Env} {R : Room} {s : State} {m : MethodId} {args : Array Value} {below : List Frame} {meth : Method} {c : Code} {T : State} {locs : List Loc} {cells slots : Nat} {Z : State} {a0 : Array Value} {h : Heap}
theorem o1 (X : Stand p l e R s m args below meth c T locs cells slots) (hx : p.tables.exec = Jvm.exec) {bts : ByteArray} (hby : c.code = bts) {mL : Nat} (hml : c.maxLocals = mL) (hZ : Z.Warmed39 s.vm) (eT : T.heap = h) {own : String} (hown : s.vm.findClass own = some m.cls) {index : Nat} {y : MethodName} {bytes : ByteArray} {maxL : Nat} {ret : Option FieldType} {rm : Room} {as' : Array Value} {Q : Option Value → Heap → List Loc → Prop}
 (wl : (Jvm.Cond.methodLink own index y).before a0 Z = true) {C : String} (wt : (Jvm.Cond.instanceMethod y).before a0 Z = true) (wd : (Jvm.Cond.declares y).before a0 Z = true) (ws : (Jvm.Cond.selects C y y).before a0 Z = true) (wi : (Jvm.Cond.initialized y.cls).before a0 Z = true) (wc : (Jvm.Cond.code y bytes maxL ret).before a0 Z = true) {o : Addr} (E : Exa Z h o C) (hM : l0 l Z h y bytes maxL ret [] rm as' Q)
 {pc : Nat} (Ls : Array Slot) (hd : decode bts pc = .ok (.invokevirtual index, 3)) (argsL rest : List Value) (W k n : Nat) (hlen : ∀ sig, parseMethodDescriptor y.desc = some sig → argsL.length = sig.parameters.length)
 (hW : (rest.map fun v => v.category).sum ≤ W := by exact f7 rfl) (hs : Ls.size = mL := by rfl) (has : (Value.ref o :: argsL).toArray = as' := by rfl)
 (hy : y.cls ≠ "java/lang/invoke/MethodHandle" ∧ y.cls ≠ "java/lang/invoke/VarHandle" := by decide) (hf : rm.frames + 1 ≤ R.frames := by decide) (hl : W + (maxL + 11) + rm.locals ≤ R.locals := by decide) (hk : rm.cells = k := by rfl) (hn : rm.slots = n := by rfl) (hcl : cells + k ≤ R.cells := by decide) (hsl : slots + n ≤ R.slots := by decide) :
 ∃ v T' Lc, Stand p l e R s m args below meth c T' (locs ++ Lc) (cells + k) (slots + n) ∧ Q v T'.heap Lc ∧ ∀ t, Steps p.tables e below (T'.setTop (mkF m (pc + 3) Ls (v.toList ++ rest))) t → Steps p.tables e below (T.setTop (mkF m pc Ls (argsL.reverse ++ .ref o :: rest))) t := by
 subst hk hn
 obtain ⟨cq, kq, qa, qb, qc⟩ := isOf hZ eT E
 obtain ⟨v, _, ⟨T1, L1, k1, n1⟩, -, X1, ⟨Lc, hQ, l1, y1, z1⟩, st⟩ := X.virtualBack hx (y := y) (z := y) hown (mvT hZ wl) (mvT hZ wd) (notFace_of_selects (args := #[]) (mvT hZ ws)) (mvT hZ ws) (mvT hZ wt) hy (backOf (W := W) hM hZ wc wi hf hl) qa qc (g := mkF m pc Ls (argsL.reverse ++ .ref o :: rest)) rfl (by rw [hml]; exact hs) (Steps.refl _) (argsL := argsL) (rest := rest) hlen rfl (by show 2 * 0 + _ ≤ _; rw [Nat.mul_zero, Nat.zero_add]; exact hW) (hb hby hd) (fun _ _ => ⟨has, eT, hcl, hsl⟩)
 dsimp only [Pt.U, Pt.locs, Pt.cells, Pt.slots] at X1 l1 y1 z1 st hQ
 subst l1 y1 z1
 exact ⟨v, T1, Lc, X1, hQ, fun t q => st.trans q⟩
end Own6
section Own7
variable {p : Program} {l : Launch} {e : Env} {R : Room} {s : State} {m : MethodId} {args : Array Value} {below : List Frame} {meth : Method} {c : Code} {T : State} {locs : List Loc} {cells slots : Nat} {Z : State} {a0 : Array Value} {h : Heap}
/-- as l0, of a method with an exception table -/
abbrev as7 (l : Launch) (Z : State) (h0 : Heap) (y : MethodName) (bytes : ByteArray) (maxL : Nat) (ret : Option FieldType) (hs : List (Nat × Nat × Nat × Nat)) (ws : List Jvm.Cond) (rm : Room) (as' : Array Value) (Q : Option Value → Heap → List Loc → Prop) : Prop :=
 MetFree l y (head1 (Jvm.Cond.codeWith y bytes maxL ret hs :: ws) rm) (fun a U => a = as' ∧ Z.Warmed39 U.vm ∧ U.heap = h0) (fun _ _ _ _ _ => True) (fun _ U o U' => ∃ v L, o = .returned v ∧ Q v U'.heap L ∧ FrameEnd U o U' L rm.cells rm.slots)
theorem aX3 {y : MethodName} {bytes : ByteArray} {maxL : Nat} {ret : Option FieldType} {hs : List (Nat × Nat × Nat × Nat)} {ws : List Jvm.Cond} {rm : Room} {as' : Array Value} {h0 : Heap} {Q : Option Value → Heap → List Loc → Prop} {Ls : Array Slot} (hpl : plainFor y = true)
 (k : ∀ (p : Program) (e : Env) (s : State) (m : MethodId) (below : List Frame) (meth : Method) (c : Code) (s₁ : State), Z.Warmed39 s.vm → s.heap = h0 → p.tables.exec = Jvm.exec → c.code = bytes → c.maxLocals = maxL → s.vm.findClass y.cls = some m.cls → meth.name = y.name → meth.locks = false → meth.sig.returnType = ret → Stand p l e rm s m as' below meth c s₁ [] 0 0 → s₁.heap = h0 →
  i7 p e below (fun o U' => ∃ v L, o = .returned v ∧ Q v U'.heap L ∧ FrameEnd s o U' L rm.cells rm.slots) (s₁.setTop (mkF m 0 Ls []))) (ef : ∀ m, entryFrame m as' maxL = mkF m 0 Ls [] := by intro m; first | (simp [entryFrame, mkF, argsToLocals, Value.category]; done) | rfl) : as7 l Z h0 y bytes maxL ret hs ws rm as' Q := by
 refine MetFree.of_bodySF hpl hisWith ?_
 intro p e s m args below meth c s₁ Bd hml0 hP hK
 obtain ⟨rfl, hZ, hh⟩ := hP
 exact c8 (fun t q => castTop (ef m) q) (k p e s m below meth c s₁ hZ hh Bd.exec Bd.bytes hml0 (findClass_of_methodNamed Bd.named) (name_of_methodNamed Bd.named Bd.method).1 Bd.notSynchronized Bd.returns (Stand.of_body Bd) (by rw [← hh, Bd.state]; rfl))
theorem aZ0 (X : Stand p l e R s m args below meth c T locs cells slots) (hx : p.tables.exec = Jvm.exec) {bts : ByteArray} (hby : c.code = bts) {mL : Nat} (hml : c.maxLocals = mL) (hZ : Z.Warmed39 s.vm) (eT : T.heap = h) {own : String} (hown : s.vm.findClass own = some m.cls) {index : Nat} {y : MethodName} {bytes : ByteArray} {maxL : Nat} {hh : List (Nat × Nat × Nat × Nat)} {rm : Room} {as' : Array Value} {Q : Option Value → Heap → List Loc → Prop}
 (wl : (Jvm.Cond.methodLink own index y).before a0 Z = true) (wt : (Jvm.Cond.instanceMethod y).before a0 Z = true) (wi : (Jvm.Cond.initialized y.cls).before a0 Z = true) (wc : (Jvm.Cond.codeWith y bytes maxL none hh).before a0 Z = true) {o : Addr} (hM : as7 l Z h y bytes maxL none hh [] rm as' Q)
 {pc : Nat} (Ls : Array Slot) (hd : decode bts pc = .ok (.invokespecial index, 3)) (argsL rest : List Value) (W k n : Nat) (hlen : ∀ sig, parseMethodDescriptor y.desc = some sig → argsL.length = sig.parameters.length) (hy1 : y.name = "<init>" := by rfl)
 (hW : (rest.map fun v => v.category).sum ≤ W := by exact f7 rfl) (hs : Ls.size = mL := by rfl) (has : (Value.ref o :: argsL).toArray = as' := by rfl)
 (hy : y.cls ≠ "java/lang/invoke/MethodHandle" ∧ y.cls ≠ "java/lang/invoke/VarHandle" := by decide) (hf : rm.frames + 1 ≤ R.frames := by decide) (hl : W + (maxL + 11) + rm.locals ≤ R.locals := by decide) (hk : rm.cells = k := by rfl) (hn : rm.slots = n := by rfl) (hcl : cells + k ≤ R.cells := by decide) (hsl : slots + n ≤ R.slots := by decide) :
 ∃ v T' Lc, Stand p l e R s m args below meth c T' (locs ++ Lc) (cells + k) (slots + n) ∧ Q v T'.heap Lc ∧ ∀ t, Steps p.tables e below (T'.setTop (mkF m (pc + 3) Ls (v.toList ++ rest))) t → Steps p.tables e below (T.setTop (mkF m pc Ls (argsL.reverse ++ .ref o :: rest))) t := by
 subst hk hn
 obtain ⟨v, _, ⟨T1, L1, k1, n1⟩, -, X1, ⟨Lc, hQ, l1, y1, z1⟩, st⟩ := X.specialBackH hx (y := y) hy1 hown (mvT hZ wl) (mvT hZ wt) (mvT hZ wc) hy (backOfWith (W := W) hM hZ wc wi hf hl) (g := mkF m pc Ls (argsL.reverse ++ .ref o :: rest)) rfl (by rw [hml]; exact hs) (Steps.refl _) (a := o) (argsL := argsL) (rest := rest) hlen rfl (by show 2 * 0 + _ ≤ _; rw [Nat.mul_zero, Nat.zero_add]; exact hW) (hb hby hd) (fun _ _ => ⟨has, eT, hcl, hsl⟩)
 dsimp only [Pt.U, Pt.locs, Pt.cells, Pt.slots] at X1 l1 y1 z1 st hQ
 subst l1 y1 z1
 exact ⟨v, T1, Lc, X1, hQ, fun t q => st.trans q⟩
end Own7
theorem as8 (x : Int32) {z : Int32} (h : z = (x &&& 3) % 3) : z = 0 ∨ z = 1 ∨ z = 2 := by
 have a := Jvm.Kit.i32_mask x 3 (k := 2) (by decide) (by decide)
 have b : z.toInt = (x &&& 3).toInt % 3 := by rw [h]; exact Jvm.Kit.i32_rem_nonneg (by rw [a]; omega)
 have : z.toInt = 0 ∨ z.toInt = 1 ∨ z.toInt = 2 := by omega
 rcases this with q | q | q
 · exact Or.inl (Int32.toInt_inj.mp q)
 · exact Or.inr (Or.inl (Int32.toInt_inj.mp q))
 · exact Or.inr (Or.inr (Int32.toInt_inj.mp q))
theorem R0 (x : Int32) : ¬ (x &&& 255) % 65 < 0 ∧ (x &&& 255) % 65 < 65 := by
 have a := Jvm.Kit.i32_mask x 255 (k := 8) (by decide) (by decide)
 have b : ((x &&& 255) % 65).toInt = (x &&& 255).toInt % 65 := Jvm.Kit.i32_rem_nonneg (by rw [a]; omega)
 have c0 : (0 : Int32).toInt = 0 := by decide
 have c1 : (65 : Int32).toInt = 65 := by decide
 constructor <;> rw [Int32.lt_iff_toInt_lt] <;> omega
theorem be7 {c : Int32} (h0 : ¬ c < 0) (h1 : c < 128) : c.toInt8.toInt32 = c := by
 rw [Int32.lt_iff_toInt_lt] at h0 h1
 have a0 : (0 : Int32).toInt = 0 := by decide
 have a1 : (128 : Int32).toInt = 128 := by decide
 apply Int32.toInt_inj.mp
 rw [Int8.toInt_toInt32, Int32.toInt_toInt8]
 have : c.toInt.bmod (2 ^ 8) = c.toInt := by rw [Int.bmod_def]; omega
 exact this
def ci5 (f0 f1 f2 f3 c0 c1 c2 c3 : Int64) : Prop := (¬ f0 < 0 ∧ ¬ f1 < 0 ∧ ¬ f2 < 0 ∧ ¬ f3 < 0) ∧ (¬ c0 < 0 ∧ ¬ c1 < 0 ∧ ¬ c2 < 0 ∧ ¬ c3 < 0) ∧ f1 - f0 = c0 ∧ f2 - f1 = c1 ∧ f3 - f2 = c2
theorem ce6 {x y0 y1 y2 y3 f0 f1 f2 f3 c0 c1 c2 c3 : Int64} (hf0 : f0 = x &&& 4611686018427387903) (hc0 : c0 = (y0 &&& 65535) + 1) (hc1 : c1 = (y1 &&& 65535) + 1) (hc2 : c2 = (y2 &&& 65535) + 1) (hc3 : c3 = (y3 &&& 65535) + 1) (hf1 : f1 = f0 + c0) (hf2 : f2 = f1 + c1) (hf3 : f3 = f2 + c2) : ci5 f0 f1 f2 f3 c0 c1 c2 c3 := by
 have z : (0 : Int64).toInt = 0 := by decide
 have o : (1 : Int64).toInt = 1 := by decide
 have ff : f0.toInt = x.toInt % 2 ^ 62 := by rw [hf0]; exact Jvm.Kit.i64_mask _ _ (k := 62) (by decide) (by decide)
 have cc : ∀ {y c : Int64}, c = (y &&& 65535) + 1 → c.toInt = y.toInt % 2 ^ 16 + 1 := fun {y c} h => by
  have m : (y &&& 65535).toInt = y.toInt % 2 ^ 16 := Jvm.Kit.i64_mask _ _ (k := 16) (by decide) (by decide)
  rw [h, Jvm.Kit.i64_add (by omega) (by omega), m, o]
 have e0 := cc hc0
 have e1 := cc hc1
 have e2 := cc hc2
 have e3 := cc hc3
 have g1 : f1.toInt = f0.toInt + c0.toInt := by rw [hf1]; exact Jvm.Kit.i64_add (by omega) (by omega)
 have g2 : f2.toInt = f1.toInt + c1.toInt := by rw [hf2]; exact Jvm.Kit.i64_add (by omega) (by omega)
 have g3 : f3.toInt = f2.toInt + c2.toInt := by rw [hf3]; exact Jvm.Kit.i64_add (by omega) (by omega)
 refine ⟨⟨?_, ?_, ?_, ?_⟩, ⟨?_, ?_, ?_, ?_⟩, ?_, ?_, ?_⟩
 all_goals first | (rw [Int64.lt_iff_toInt_lt]; omega) | (apply Int64.toInt_inj.mp; rw [Jvm.Kit.i64_sub (by omega) (by omega)]; omega)
theorem cd4 {x : Int64} (h : ¬ x < 0) : x &&& 9223372036854775807 = x := by
 rw [Int64.lt_iff_toInt_lt] at h
 have z : (0 : Int64).toInt = 0 := by decide
 apply Int64.toInt_inj.mp
 rw [Jvm.Kit.i64_mask _ _ (k := 63) (by decide) (by decide)]
 have := Int64.toInt_lt x
 omega
def p6 (cs : List Int32) : Int32 := Int32.ofNat cs.length
def R2 : Int32 → List (List Int32) → List Int32
 | p, [] => [p]
 | p, cs :: r => p :: R2 (p + p6 cs) r
/-- the place xo of k bytes in an array of nb -/
def r0 (xo nb : Int32) (k : Nat) : Prop := 0 ≤ xo.toInt ∧ xo.toInt + k ≤ nb.toInt
theorem ap2 {xo nb : Int32} {k : Nat} (P : r0 xo nb k) : ¬ xo < 0 := by
 rw [Int32.lt_iff_toInt_lt]; have a0 : (0 : Int32).toInt = 0 := by decide
 have := P.1; omega
theorem S6 {xo nb : Int32} {k : Nat} (P : r0 xo nb k) (j : Nat) (hj : j ≤ k) (h4 : k ≤ 4) : (xo + Int32.ofNat j).toInt = xo.toInt + j := by
 have e : (Int32.ofNat j).toInt = j := Int32.toInt_ofNat_of_lt (by omega)
 have := P.1; have := P.2; have := Int32.toInt_lt nb
 rw [Jvm.Kit.i32_add (by omega) (by omega), e]
theorem aZ1 {xo nb : Int32} {k : Nat} (P : r0 xo nb k) (j : Nat) (hj : j ≤ k) (h4 : k ≤ 4) : (xo + Int32.ofNat j) - xo = Int32.ofNat j := by
 have e : (Int32.ofNat j).toInt = j := Int32.toInt_ofNat_of_lt (by omega)
 apply Int32.toInt_inj.mp
 have t := S6 P j hj h4
 rw [Jvm.Kit.i32_sub (by rw [t]; omega) (by rw [t]; omega), t, e]; omega
theorem ap3 {xo nb : Int32} {k : Nat} (P : r0 xo nb k) (j : Nat) (hj : j ≤ k) (h4 : k ≤ 4) : (xo + Int32.ofNat j).toNatClampNeg = xo.toNatClampNeg + j := by
 have t := S6 P j hj h4; have := P.1
 simp only [Int32.toNatClampNeg, t]; omega
theorem ap4 {xo nb : Int32} {k : Nat} (P : r0 xo nb k) (j : Nat) (hj : j < k) (h4 : k ≤ 4) : ¬ xo + Int32.ofNat j < 0 ∧ xo + Int32.ofNat j < nb := by
 have t := S6 P j (by omega) h4; have := P.1; have := P.2
 have a0 : (0 : Int32).toInt = 0 := by decide
 constructor <;> rw [Int32.lt_iff_toInt_lt] <;> omega
theorem cg4 {xo nb : Int32} {k : Nat} (P : r0 xo nb k) (i j : Nat) (hi : i ≤ k) (hj : j ≤ k) (h4 : k ≤ 4) : xo + Int32.ofNat i < xo + Int32.ofNat j ↔ i < j := by
 rw [Int32.lt_iff_toInt_lt, S6 P i hi h4, S6 P j hj h4]; omega
theorem ap5 {xo nb : Int32} {k : Nat} (P : r0 xo nb k) (h4 : k ≤ 4) : ¬ nb - xo < Int32.ofNat k := by
 have := P.1; have := P.2; have := Int32.toInt_lt nb
 have e : (Int32.ofNat k).toInt = k := Int32.toInt_ofNat_of_lt (by omega)
 rw [Int32.lt_iff_toInt_lt, Jvm.Kit.i32_sub (by omega) (by omega), e]; omega
theorem ap6 {x y : Int32} (hx : ¬ x < 0) (hy : ¬ y < 0) : ¬ (x ||| y) < 0 := by
 intro h
 rw [Int32.lt_iff_toInt_lt] at *
 have a0 : (0 : Int32).toInt = 0 := by decide
 rw [a0] at *
 have mx : x.toBitVec.msb = false := by
  rw [BitVec.msb_eq_toInt]; simp only [decide_eq_false_iff_not]; exact hx
 have my : y.toBitVec.msb = false := by
  rw [BitVec.msb_eq_toInt]; simp only [decide_eq_false_iff_not]; exact hy
 have mz : (x.toBitVec ||| y.toBitVec).msb = false := by rw [BitVec.msb_or, mx, my]; rfl
 rw [BitVec.msb_eq_toInt] at mz; simp only [decide_eq_false_iff_not] at mz
 exact mz h
theorem aB6 (d : Int32) : ∀ (css : List (List Int32)) (p : Int32) (i : Nat), i ≤ css.length → (R2 p css).getD i d = p + Int32.ofNat (css.take i).flatten.length
 | [], p, i, h => by
  have : i = 0 := by simpa using h
  subst this; simp [R2]
 | cs :: r, p, 0, h => by simp [R2]
 | cs :: r, p, i + 1, h => by
  have q := aB6 d r (p + p6 cs) i (by simpa using h)
  show (R2 (p + p6 cs) r).getD i d = _
  rw [q]; simp only [List.take_succ_cons, List.flatten_cons, List.length_append, Int32.ofNat_add, p6, Int32.add_assoc]
theorem aX1 (d : Int32) : ∀ (css : List (List Int32)) (i : Nat) (cs : List Int32), css[i]? = some cs → ∀ j, j < cs.length → css.flatten.getD ((css.take i).flatten.length + j) d = cs.getD j d
 | [], i, cs, h, j, hj => by simp at h
 | c :: r, 0, cs, h, j, hj => by
  have : c = cs := by simpa using h
  subst this
  simp only [List.getD_eq_getElem?_getD, List.flatten_cons, List.take_zero, List.flatten_nil, List.length_nil, Nat.zero_add]
  rw [List.getElem?_append_left hj]
 | c :: r, i + 1, cs, h, j, hj => by
  have q := aX1 d r i cs (by simpa using h) j hj
  simp only [List.getD_eq_getElem?_getD, List.flatten_cons, List.take_succ_cons, List.length_append] at q ⊢
  rw [List.getElem?_append_right (by omega), ← q]
  congr 2; omega
theorem aX2 : ∀ (css : List (List Int32)) (i : Nat) (cs : List Int32), css[i]? = some cs → (css.take i).flatten.length + cs.length ≤ css.flatten.length ∧ (css.take (i + 1)).flatten.length = (css.take i).flatten.length + cs.length
 | [], i, cs, h => by simp at h
 | c :: r, 0, cs, h => by
  have : c = cs := by simpa using h
  subst this; simp
 | c :: r, i + 1, cs, h => by
  have q := aX2 r i cs (by simpa using h)
  simp only [List.flatten_cons, List.take_succ_cons, List.length_append] at q ⊢
  omega
theorem Z3 : ∀ (css : List (List Int32)), (∀ cs ∈ css, cs.length ≤ 2) → css.flatten.length ≤ 2 * css.length
 | [], _ => by simp
 | c :: r, h => by
  have q := Z3 r (fun cs hc => h cs (List.mem_cons_of_mem _ hc))
  have := h c (List.mem_cons_self ..)
  simp only [List.flatten_cons, List.length_append, List.length_cons]; omega
theorem ae6 {α} (l : List α) (d : α) : l = (List.range l.length).map fun i => l.getD (0 + i) d := by
 apply List.ext_getElem
 · simp
 · intro i h1 h2
   simp [h1]
theorem Z4 {α} (va us : List α) (d : α) {m q : Nat} (hm : m = va.length) (hq : q = us.length) (i : Nat) : (va ++ us).getD i d = ((va ++ List.replicate 4 d).take m ++ us ++ (va ++ List.replicate 4 d).drop (m + q)).getD i d := by
 subst hm hq
 simp only [List.getD_eq_getElem?_getD]
 rw [List.take_left, List.drop_append, List.drop_eq_nil_of_le (by omega), List.nil_append]
 by_cases h : i < (va ++ us).length
 · rw [List.getElem?_append_left h]
 · rw [List.getElem?_append_right (Nat.le_of_not_lt h), List.getElem?_eq_none (Nat.le_of_not_lt h)]
   simp only [List.drop_replicate, List.getElem?_replicate]; split <;> rfl
theorem cd5 {α} (vs : List α) (d v : α) : (vs ++ [d]).set vs.length v = vs ++ [v] := by simp
theorem aB5 {x : Int32} (h : 0 < x) : ¬ x < 0 := by
 rw [Int32.lt_iff_toInt_lt] at *; omega
theorem cd6 {x : Int32} (h : 0 < x) : ¬ x = 0 := by
 intro q; subst q; exact absurd h (by decide)
theorem ce7 {x y : Int32} (h : ¬ x < y) (h' : ¬ y < x) : x = y := by
 rw [Int32.lt_iff_toInt_lt] at *; apply Int32.toInt_inj.mp; omega
theorem aX8 {xo nb : Int32} {k : Nat} (P : r0 xo nb k) (h : 0 < k) : ¬ xo < 0 ∧ xo < nb := by
 have := P.1; have := P.2
 have a0 : (0 : Int32).toInt = 0 := by decide
 constructor <;> rw [Int32.lt_iff_toInt_lt] <;> omega
theorem aX9 {xo nb : Int32} {k : Nat} (P : r0 xo nb k) (j : Nat) (h0 : 0 < j) (hj : j ≤ k) (h4 : k ≤ 4) : xo < xo + Int32.ofNat j := by
 rw [Int32.lt_iff_toInt_lt, S6 P j hj h4]; omega
theorem aZ2 {xo nb : Int32} {k : Nat} (P : r0 xo nb k) (h4 : k ≤ 4) : ¬ xo + Int32.ofNat k < xo := by
 rw [Int32.lt_iff_toInt_lt, S6 P k (Nat.le_refl _) h4]; omega
theorem aZ3 {xo nb : Int32} {k : Nat} (P : r0 xo nb k) : xo.toNatClampNeg + k ≤ nb.toNatClampNeg := by
 have := P.1; have := P.2
 simp only [Int32.toNatClampNeg]; omega
theorem aY0 (x : Int32) : ¬ x < x := by rw [Int32.lt_iff_toInt_lt]; omega
def cg5 (css : List (List Int32)) : Int32 := css.foldl (fun p cs => p + p6 cs) 0
theorem aX4 : ∀ (css : List (List Int32)) (m : Nat), css.foldl (fun p cs => p + p6 cs) (Int32.ofNat m) = Int32.ofNat (m + css.flatten.length)
 | [], m => by simp
 | cs :: r, m => by
  have q := aX4 r (m + cs.length)
  rw [Int32.ofNat_add] at q
  simp only [List.foldl_cons, List.flatten_cons, List.length_append]
  rw [← Nat.add_assoc]; exact q
theorem G9 {css : List (List Int32)} {z : Int32} (hz : z = cg5 css) (h : ∀ cs ∈ css, 1 ≤ cs.length ∧ cs.length ≤ 2) (h2 : css.length ≤ 2) : z.toInt = css.flatten.length ∧ css.length ≤ css.flatten.length ∧ css.flatten.length ≤ 4 := by
 have a := Z3 css (fun cs hc => (h cs hc).2)
 have b : ∀ (l : List (List Int32)), (∀ cs ∈ l, 1 ≤ cs.length ∧ cs.length ≤ 2) → l.length ≤ l.flatten.length := by
  intro l hl
  induction l with
  | nil => simp
  | cons c r ih =>
   have q := ih (fun cs hc => hl cs (List.mem_cons_of_mem _ hc))
   have := (hl c (List.mem_cons_self ..)).1
   simp only [List.flatten_cons, List.length_append, List.length_cons]; omega
 refine ⟨?_, b css h, by omega⟩
 have t := aX4 css 0
 rw [Nat.zero_add] at t
 rw [hz]; show (css.foldl (fun p cs => p + p6 cs) (Int32.ofNat 0)).toInt = _
 rw [t]; exact Int32.toInt_ofNat_of_lt (by omega)
theorem G3 {z : Int32} {n : Nat} (h : z.toInt = n) : ¬ z < 0 := by
 rw [Int32.lt_iff_toInt_lt]; have a0 : (0 : Int32).toInt = 0 := by decide
 omega
theorem as9 {z : Int32} {n : Nat} (h : z.toInt = n) (h1 : 1 ≤ n) : 0 < z := by
 rw [Int32.lt_iff_toInt_lt]; have a0 : (0 : Int32).toInt = 0 := by decide
 omega
theorem H2 {z : Int32} {n : Nat} (h : z.toInt = n) : z.toNatClampNeg = n := by simp only [Int32.toNatClampNeg, h]; omega
theorem Z5 {a b : Int32} {m n : Nat} (ha : a.toInt = m) (hb : b.toInt = n) (hm : m ≤ 4) (hn : n ≤ 4) : ¬ (64 : Int32) < a + b := by
 have a1 : (64 : Int32).toInt = 64 := by decide
 rw [Int32.lt_iff_toInt_lt, Jvm.Kit.i32_add (by omega) (by omega)]; omega
theorem cg6 {a : Int32} {m : Nat} (ha : a.toInt = m) (hm : m ≤ 4) : r0 a 64 4 := by
 have a1 : (64 : Int32).toInt = 64 := by decide
 exact ⟨by omega, by rw [a1]; omega⟩
theorem ae7 (p a : Int32) : p + (0 + a) = p + a := by rw [Int32.zero_add]
theorem aD3 (p a b : Int32) : p + (0 + a + b) = p + a + b := by rw [Int32.zero_add, Int32.add_assoc]
theorem aZ4 (x : List Int32) : [x].flatten = x := by simp
theorem i9 {α} {Wa Wb : List α} (dj : ∀ y ∈ Wb, y ∉ Wa) (i j : Nat) {x y : α} (hx : Wb[i]? = some x) (hy : Wa[j]? = some y) : x ≠ y := fun q => dj x (List.mem_of_getElem? hx) (q ▸ List.mem_of_getElem? hy)
theorem Y9 {α} {P : α → Prop} {a : α} (h : P a) : ∀ y ∈ [a], P y := fun y hy => by cases List.mem_singleton.mp hy; exact h
theorem al6 {α} {P : α → Prop} {a b : α} (h : P a) (h' : P b) : ∀ y ∈ [a, b], P y := fun y hy => by
 rcases List.mem_cons.mp hy with rfl | hy
 · exact h
 · cases List.mem_singleton.mp hy; exact h'
theorem P6 {α} {P : α → Prop} : ∀ x ∈ ([] : List α), P x := fun _ q => nomatch q
theorem x8 {α} {P : α → Prop} {y : α} {L : List α} (q : P y) (r : ∀ x ∈ L, P x) : ∀ x ∈ y :: L, P x := fun x z => (List.mem_cons.mp z).elim (fun u => u ▸ q) (r x)
theorem j6 {a b : Nat} (h : Nat.ble a b = true) : a ≤ b := Nat.le_of_ble_eq_true h
theorem Z6 {a b t : Int32} (h : ¬ a < t) (q : a < b) : ¬ b < t := by
 rw [Int32.lt_iff_toInt_lt] at *; omega
abbrev c4 (c : ByteArray) (p : Nat) (i : Instr) (n : Nat) : Prop := decode c p = .ok (i, n)
abbrev M1 := jdk_123_method_2_code
abbrev x6 := jdk_123_method_3_code
abbrev b2_ := jdk_18_method_1_code
abbrev o5 := jdk_2097_method_124_code
abbrev v8 := jdk_2097_method_136_code
abbrev b5_ := jdk_2097_method_147_code
abbrev s3 := jdk_2097_method_148_code
abbrev s4 := jdk_2097_method_29_code
abbrev o7 := jdk_2097_method_30_code
abbrev b9_ := jdk_2097_method_81_code
abbrev aA4 := jdk_22_method_1_code
abbrev Q5 := jdk_29_method_65_code
abbrev L3 := jdk_29_method_69_code
abbrev aA5 := jdk_30_method_1_code
abbrev ao4 := jdk_31_method_10_code
abbrev ao5 := jdk_31_method_11_code
abbrev Y0 := jdk_39_method_1_code
abbrev R6 := jdk_41_method_11_code
abbrev F3 := jdk_41_method_13_code
abbrev F4 := jdk_42_method_10_code
abbrev p7 := jdk_42_method_11_code
abbrev v5 := jdk_42_method_149_code
abbrev Y1 := jdk_42_method_152_code
abbrev Q6 := jdk_42_method_154_code
abbrev Y2 := jdk_42_method_155_code
abbrev R7 := jdk_42_method_157_code
abbrev L7 := jdk_42_method_3_code
abbrev R8 := jdk_42_method_54_code
abbrev Q7 := jdk_42_method_56_code
abbrev s5 := jdk_42_method_66_code
abbrev t7 := jdk_43_method_13_code
abbrev G6 := jdk_43_method_2_code
abbrev M0 := jdk_52_method_15_code
abbrev B4 := jdk_52_method_16_code
abbrev t1 := jdk_52_method_21_code
abbrev x3 := jdk_65_method_121_code
abbrev w7 := jdk_65_method_123_code
abbrev w8 := jdk_65_method_124_code
abbrev ak8 := jdk_65_method_131_code
abbrev B5 := jdk_65_method_132_code
abbrev t2 := jdk_65_method_133_code
abbrev aA6 := prog_10_method_10_code
abbrev F8 := prog_10_method_1_code
abbrev R9 := prog_10_method_5_code
abbrev r6 := prog_10_method_6_code
abbrev aA7 := prog_63_method_10_code
abbrev aA8 := prog_63_method_11_code
abbrev u6 := prog_63_method_1_code
abbrev aA9 := prog_63_method_9_code
abbrev C3 := prog_64_method_1_code
abbrev j4 := prog_64_method_2_code
abbrev f8 := prog_64_method_3_code
abbrev v6 := prog_64_method_5_code
abbrev u7 := prog_64_method_6_code
abbrev t3 := prog_64_method_7_code
abbrev aB0 := prog_64_method_8_code
abbrev G7 := prog_64_method_9_code
abbrev j9 (Z : State) (a0 : Array Value) : Prop := ∀ d ∈ tables_1, d.before a0 Z = true
abbrev MN0 : MethodName := ⟨"java/lang/Number", "<init>", "()V"⟩
abbrev MN1 : MethodName := ⟨"java/math/BigInteger", "<init>", "(J)V"⟩
abbrev MN2 : MethodName := ⟨"java/math/BigInteger", "valueOf", "(J)Ljava/math/BigInteger;"⟩
abbrev MN3 : MethodName := ⟨"java/math/BigInteger", "signInt", "()I"⟩
abbrev MN4 : MethodName := ⟨"java/math/BigInteger", "getInt", "(I)I"⟩
abbrev MN5 : MethodName := ⟨"java/math/BigInteger", "equals", "(Ljava/lang/Object;)Z"⟩
abbrev MN6 : MethodName := ⟨"java/math/BigInteger", "longValue", "()J"⟩
abbrev MN7 : MethodName := ⟨"java/math/BigInteger", "signum", "()I"⟩
abbrev MN8 : MethodName := ⟨"jdk/internal/util/Preconditions", "checkIndex", "(IILjava/util/function/BiFunction;)I"⟩
abbrev MN9 : MethodName := ⟨"java/lang/String", "checkIndex", "(II)V"⟩
abbrev de6 : MethodName := ⟨"java/lang/StringLatin1", "charAt", "([BI)C"⟩
abbrev de7 : MethodName := ⟨"java/lang/String", "coder", "()B"⟩
abbrev de8 : MethodName := ⟨"java/lang/String", "isLatin1", "()Z"⟩
abbrev de9 : MethodName := ⟨"java/lang/String", "length", "()I"⟩
abbrev df0 : MethodName := ⟨"java/lang/String", "charAt", "(I)C"⟩
abbrev bY6 : MethodName := ⟨"com/example/prizewell/prizewell/core/AccountName", "isWellFormed", "(Ljava/lang/String;II)Z"⟩
abbrev bY7 : MethodName := ⟨"com/example/prizewell/prizewell/core/AccountName", "isWellFormed", "(Ljava/lang/String;)Z"⟩
abbrev bY8 : MethodName := ⟨"java/lang/Math", "max", "(II)I"⟩
abbrev aU3 : MethodName := ⟨"java/lang/Math", "min", "(II)I"⟩
abbrev aU4 : MethodName := ⟨"java/util/Arrays", "copyOf", "([JI)[J"⟩
abbrev aU5 : MethodName := ⟨"java/util/Arrays", "copyOf", "([II)[I"⟩
abbrev bY9 : MethodName := ⟨"java/util/Arrays", "copyOf", "([BI)[B"⟩
abbrev df1 : MethodName := ⟨"java/util/AbstractCollection", "<init>", "()V"⟩
abbrev df2 : MethodName := ⟨"java/lang/Record", "<init>", "()V"⟩
abbrev df3 : MethodName := ⟨"java/util/AbstractList", "<init>", "()V"⟩
abbrev df4 : MethodName := ⟨"com/example/prizewell/prizewell/core/TicketRanges", "<init>", "()V"⟩
abbrev df5 : MethodName := ⟨"java/util/Objects", "requireNonNull", "(Ljava/lang/Object;Ljava/lang/String;)Ljava/lang/Object;"⟩
abbrev df6 : MethodName := ⟨"java/util/Objects", "requireNonNull", "(Ljava/lang/Object;)Ljava/lang/Object;"⟩
abbrev aB1 : MethodName := ⟨"com/example/prizewell/prizewell/core/AccountName", "<init>", "(Ljava/lang/String;)V"⟩
abbrev bZ0 : MethodName := ⟨"java/lang/StringUTF16", "compress", "([CI[BII)I"⟩
abbrev bZ1 : MethodName := ⟨"java/lang/StringUTF16", "compress", "([CII)[B"⟩
abbrev bZ2 : MethodName := ⟨"java/lang/StringUTF16", "coderFromArrayLen", "([BI)B"⟩
abbrev bZ3 : MethodName := ⟨"java/lang/String", "<init>", "([CIILjava/lang/Void;)V"⟩
abbrev bZ4 : MethodName := ⟨"java/lang/String", "<init>", "([C)V"⟩
abbrev aU6 : MethodName := ⟨"com/example/prizewell/prizewell/core/TicketRangesAddAllPinLaw", "name", "(IZ)Ljava/lang/String;"⟩
abbrev bZ5 : MethodName := ⟨"java/lang/StringCoding", "countPositives", "([BII)I"⟩
abbrev bZ6 : MethodName := ⟨"java/lang/StringCoding", "hasNegatives", "([BII)Z"⟩
abbrev bZ7 : MethodName := ⟨"java/util/Arrays", "checkLength", "(II)V"⟩
abbrev bZ8 : MethodName := ⟨"java/util/Arrays", "copyOfRangeByte", "([BII)[B"⟩
abbrev bZ9 : MethodName := ⟨"java/util/Arrays", "copyOfRange", "([BII)[B"⟩
abbrev ca4 : MethodName := ⟨"jdk/internal/util/Preconditions", "checkFromIndexSize", "(IIILjava/util/function/BiFunction;)I"⟩
abbrev ca5 : MethodName := ⟨"java/lang/String", "checkBoundsOffCount", "(III)I"⟩
abbrev ca6 : MethodName := ⟨"java/lang/String", "<init>", "(Ljava/nio/charset/Charset;[BII)V"⟩
abbrev ca7 : MethodName := ⟨"java/lang/String", "<init>", "([BIILjava/nio/charset/Charset;)V"⟩
abbrev df7 : MethodName := ⟨"com/example/prizewell/prizewell/core/TicketRanges", "accountName", "(I)Ljava/lang/String;"⟩
abbrev df8 : MethodName := ⟨"com/example/prizewell/prizewell/core/TicketRanges", "unsigned", "(J)Ljava/math/BigInteger;"⟩
abbrev df9 : MethodName := ⟨"com/example/prizewell/prizewell/core/TicketRanges", "count", "(I)Ljava/math/BigInteger;"⟩
abbrev ca8 : MethodName := ⟨"com/example/prizewell/prizewell/core/TicketRange", "<init>", "(Lcom/example/prizewell/prizewell/core/AccountName;Ljava/math/BigInteger;Ljava/math/BigInteger;)V"⟩
abbrev aU7 : MethodName := ⟨"com/example/prizewell/prizewell/core/TicketRanges", "get", "(I)Lcom/example/prizewell/prizewell/core/TicketRange;"⟩
abbrev dg0 : MethodName := ⟨"com/example/prizewell/prizewell/core/TicketRange", "account", "()Lcom/example/prizewell/prizewell/core/AccountName;"⟩
abbrev dg1 : MethodName := ⟨"com/example/prizewell/prizewell/core/TicketRange", "first", "()Ljava/math/BigInteger;"⟩
abbrev dg2 : MethodName := ⟨"com/example/prizewell/prizewell/core/TicketRange", "count", "()Ljava/math/BigInteger;"⟩
abbrev dg3 : MethodName := ⟨"com/example/prizewell/prizewell/core/AccountName", "value", "()Ljava/lang/String;"⟩
abbrev ca9 : MethodName := ⟨"java/lang/StringLatin1", "equals", "([B[B)Z"⟩
abbrev dg4 : MethodName := ⟨"java/lang/String", "equals", "(Ljava/lang/Object;)Z"⟩
abbrev ao6 : MethodName := ⟨"com/example/prizewell/prizewell/core/TicketRangesAddAllPinLaw", "same", "(Lcom/example/prizewell/prizewell/core/TicketRanges;ILjava/lang/String;JJ)Z"⟩
abbrev cb0 : MethodName := ⟨"com/example/prizewell/prizewell/core/TicketRanges", "add", "(Lcom/example/prizewell/prizewell/core/AccountName;Ljava/math/BigInteger;Ljava/math/BigInteger;)V"⟩
abbrev cb1 : MethodName := ⟨"com/example/prizewell/prizewell/core/TicketRangesAddAllPinLaw", "put", "(Lcom/example/prizewell/prizewell/core/TicketRanges;Lcom/example/prizewell/prizewell/core/AccountName;JJ)V"⟩
abbrev Y3 : MethodName := ⟨"com/example/prizewell/prizewell/core/TicketRanges", "addAll", "(Lcom/example/prizewell/prizewell/core/TicketRanges;)V"⟩
abbrev dg5 : MethodName := ⟨"com/example/prizewell/prizewell/core/TicketRanges", "size", "()I"⟩
theorem d0 {Z : State} {a0 : Array Value} (hw : j9 Z a0) (i : Nat) {c : Jvm.Cond} (h : tables_1[i]? = some c) : c.before a0 Z = true := hw _ (List.mem_of_getElem? h)
section
variable {Z : State} {a0 : Array Value} (hw : j9 Z a0)
def cb2 := d0 hw 0 rfl
def cb3 := d0 hw 1 rfl
def r7 := d0 hw 2 rfl
def aB2 := d0 hw 3 rfl
def cb4 := d0 hw 4 rfl
def o6 := d0 hw 5 rfl
def F9 := d0 hw 6 rfl
def Q8 := d0 hw 7 rfl
def H9 := d0 hw 8 rfl
def I0 := d0 hw 9 rfl
def cH5 := d0 hw 10 rfl
def cH6 := d0 hw 11 rfl
def bD6 := d0 hw 12 rfl
def H5 := d0 hw 13 rfl
def H6 := d0 hw 14 rfl
def H7 := d0 hw 15 rfl
def H8 := d0 hw 16 rfl
def cH7 := d0 hw 17 rfl
def cH8 := d0 hw 18 rfl
def cH9 := d0 hw 19 rfl
def cI0 := d0 hw 20 rfl
def cI1 := d0 hw 21 rfl
def R4 := d0 hw 22 rfl
def J2 := d0 hw 23 rfl
def J3 := d0 hw 24 rfl
def cI2 := d0 hw 25 rfl
def cI3 := d0 hw 26 rfl
def aL7 := d0 hw 27 rfl
def cI4 := d0 hw 28 rfl
def cI5 := d0 hw 29 rfl
def cI6 := d0 hw 30 rfl
def cI7 := d0 hw 31 rfl
def aL8 := d0 hw 32 rfl
def aL9 := d0 hw 33 rfl
def cI8 := d0 hw 34 rfl
def cI9 := d0 hw 35 rfl
def cJ0 := d0 hw 36 rfl
def bD7 := d0 hw 37 rfl
def bD8 := d0 hw 38 rfl
def bD9 := d0 hw 39 rfl
def bE0 := d0 hw 40 rfl
def bE1 := d0 hw 41 rfl
def bE2 := d0 hw 42 rfl
def bE3 := d0 hw 43 rfl
def bE4 := d0 hw 45 rfl
def az1 := d0 hw 46 rfl
def U2 := d0 hw 47 rfl
def U3 := d0 hw 48 rfl
def bE5 := d0 hw 49 rfl
def bE6 := d0 hw 50 rfl
def aj1 := d0 hw 51 rfl
def bE7 := d0 hw 52 rfl
def bE8 := d0 hw 53 rfl
def bE9 := d0 hw 54 rfl
def bF0 := d0 hw 55 rfl
def bF1 := d0 hw 56 rfl
def bF2 := d0 hw 57 rfl
def bF3 := d0 hw 58 rfl
def bF4 := d0 hw 59 rfl
def am9 := d0 hw 60 rfl
def F7 := d0 hw 61 rfl
def bF5 := d0 hw 62 rfl
def aM0 := d0 hw 63 rfl
def aj2 := d0 hw 64 rfl
def bF6 := d0 hw 65 rfl
def aM1 := d0 hw 66 rfl
def aM2 := d0 hw 68 rfl
def aM3 := d0 hw 69 rfl
def cJ1 := d0 hw 70 rfl
def aM4 := d0 hw 71 rfl
def bF7 := d0 hw 72 rfl
def aM5 := d0 hw 73 rfl
def an0 := d0 hw 74 rfl
def aM6 := d0 hw 75 rfl
def bF8 := d0 hw 76 rfl
def bF9 := d0 hw 77 rfl
def bG0 := d0 hw 78 rfl
def bG1 := d0 hw 79 rfl
def B9 := d0 hw 80 rfl
def C0 := d0 hw 81 rfl
def C1 := d0 hw 82 rfl
def C2 := d0 hw 83 rfl
def cJ2 := d0 hw 84 rfl
def cJ3 := d0 hw 85 rfl
def cJ4 := d0 hw 86 rfl
def cJ5 := d0 hw 87 rfl
def cJ6 := d0 hw 88 rfl
def bG2 := d0 hw 89 rfl
def bG3 := d0 hw 90 rfl
def bG4 := d0 hw 91 rfl
def aM7 := d0 hw 92 rfl
def aj3 := d0 hw 93 rfl
def cJ7 := d0 hw 94 rfl
def aM8 := d0 hw 95 rfl
def an2 := d0 hw 96 rfl
def cJ8 := d0 hw 97 rfl
def az2 := d0 hw 98 rfl
def bG5 := d0 hw 99 rfl
def o0 := d0 hw 100 rfl
def v9 := d0 hw 101 rfl
def be8 := d0 hw 102 rfl
def be9 := d0 hw 103 rfl
def bf0 := d0 hw 104 rfl
def ci6 := d0 hw 105 rfl
def ci7 := d0 hw 106 rfl
def ci8 := d0 hw 108 rfl
def ci9 := d0 hw 109 rfl
def cj0 := d0 hw 110 rfl
def cj1 := d0 hw 111 rfl
def cj2 := d0 hw 114 rfl
def cj3 := d0 hw 115 rfl
def cj4 := d0 hw 116 rfl
def cj5 := d0 hw 117 rfl
def H3 := d0 hw 118 rfl
def at0 := d0 hw 119 rfl
def o9 := d0 hw 120 rfl
def x4 := d0 hw 121 rfl
def ae8 := d0 hw 122 rfl
def m6 := d0 hw 123 rfl
def x5 := d0 hw 124 rfl
def o8 := d0 hw 125 rfl
def B2 := d0 hw 126 rfl
def P7 := d0 hw 127 rfl
def P8 := d0 hw 128 rfl
def P9 := d0 hw 129 rfl
def Q0 := d0 hw 130 rfl
def Q1 := d0 hw 131 rfl
def i6 := d0 hw 132 rfl
def w5 := d0 hw 133 rfl
def cj6 := d0 hw 134 rfl
def cj7 := d0 hw 135 rfl
def cj8 := d0 hw 136 rfl
def cj9 := d0 hw 137 rfl
def ck0 := d0 hw 138 rfl
def x9 := d0 hw 139 rfl
def y7 := d0 hw 140 rfl
def z3 := d0 hw 141 rfl
def ae9 := d0 hw 142 rfl
def S8 := d0 hw 143 rfl
def u9 := d0 hw 144 rfl
def S9 := d0 hw 145 rfl
def ck1 := d0 hw 146 rfl
def ck2 := d0 hw 147 rfl
def bf2 := d0 hw 148 rfl
def bf3 := d0 hw 149 rfl
def bf4 := d0 hw 150 rfl
def bf5 := d0 hw 151 rfl
def bf6 := d0 hw 152 rfl
def bf7 := d0 hw 153 rfl
def aD4 := d0 hw 154 rfl
def aD5 := d0 hw 155 rfl
def aD6 := d0 hw 156 rfl
def aD7 := d0 hw 157 rfl
def af0 := d0 hw 158 rfl
def af1 := d0 hw 159 rfl
def t6 := d0 hw 160 rfl
def af2 := d0 hw 161 rfl
def I8 := d0 hw 162 rfl
def I9 := d0 hw 163 rfl
def s6 := d0 hw 164 rfl
def J0 := d0 hw 165 rfl
def J1 := d0 hw 166 rfl
def v2 := d0 hw 167 rfl
def v3 := d0 hw 168 rfl
def v4 := d0 hw 169 rfl
def af3 := d0 hw 170 rfl
def af4 := d0 hw 171 rfl
def af5 := d0 hw 172 rfl
def F6 := d0 hw 173 rfl
def D1 := d0 hw 174 rfl
def D6 := d0 hw 175 rfl
def D9 := d0 hw 176 rfl
def at1 := d0 hw 177 rfl
def at2 := d0 hw 178 rfl
def at3 := d0 hw 179 rfl
def af6 := d0 hw 180 rfl
def at4 := d0 hw 181 rfl
def at5 := d0 hw 182 rfl
def at6 := d0 hw 183 rfl
def at7 := d0 hw 184 rfl
def at8 := d0 hw 185 rfl
def bf8 := d0 hw 186 rfl
def bf9 := d0 hw 187 rfl
def bg0 := d0 hw 188 rfl
def bg1 := d0 hw 189 rfl
def bg2 := d0 hw 190 rfl
def u5 := d0 hw 191 rfl
def am0 := d0 hw 192 rfl
def aD8 := d0 hw 193 rfl
def aD9 := d0 hw 194 rfl
def aE0 := d0 hw 195 rfl
def aE1 := d0 hw 196 rfl
def aE2 := d0 hw 197 rfl
def B7 := d0 hw 198 rfl
def at9 := d0 hw 199 rfl
def bg3 := d0 hw 200 rfl
def B3 := d0 hw 201 rfl
def w6 := d0 hw 202 rfl
def T0 := d0 hw 203 rfl
def au0 := d0 hw 204 rfl
def ck3 := d0 hw 205 rfl
def ck4 := d0 hw 206 rfl
def ck5 := d0 hw 208 rfl
def ck6 := d0 hw 209 rfl
def ck7 := d0 hw 210 rfl
def ck8 := d0 hw 213 rfl
def ck9 := d0 hw 214 rfl
def cl0 := d0 hw 215 rfl
def au1 := d0 hw 216 rfl
def au2 := d0 hw 217 rfl
def R3 := d0 hw 218 rfl
def cl7 := d0 hw 219 rfl
def cl8 := d0 hw 220 rfl
def cl9 := d0 hw 221 rfl
def bg4 := d0 hw 222 rfl
def cm0 := d0 hw 223 rfl
def cm1 := d0 hw 224 rfl
def au3 := d0 hw 225 rfl
def am1 := d0 hw 226 rfl
def cm2 := d0 hw 227 rfl
def cm3 := d0 hw 228 rfl
def cm4 := d0 hw 229 rfl
def cm5 := d0 hw 230 rfl
def cm6 := d0 hw 231 rfl
def cm7 := d0 hw 232 rfl
def bg5 := d0 hw 233 rfl
def bg6 := d0 hw 234 rfl
def bg7 := d0 hw 236 rfl
def bg8 := d0 hw 237 rfl
def bg9 := d0 hw 238 rfl
def bh0 := d0 hw 239 rfl
def bh1 := d0 hw 240 rfl
def bh2 := d0 hw 241 rfl
def bh3 := d0 hw 242 rfl
def bh4 := d0 hw 243 rfl
def bh5 := d0 hw 244 rfl
def bh6 := d0 hw 245 rfl
def bh7 := d0 hw 246 rfl
def bh8 := d0 hw 247 rfl
def bh9 := d0 hw 248 rfl
def bi0 := d0 hw 249 rfl
def bi1 := d0 hw 250 rfl
def bi2 := d0 hw 251 rfl
def bi3 := d0 hw 252 rfl
def bi4 := d0 hw 253 rfl
def bi5 := d0 hw 255 rfl
def bi6 := d0 hw 257 rfl
def bi7 := d0 hw 259 rfl
def bi8 := d0 hw 260 rfl
def au4 := d0 hw 261 rfl
def bi9 := d0 hw 262 rfl
def bj0 := d0 hw 263 rfl
def bj1 := d0 hw 264 rfl
def bj2 := d0 hw 265 rfl
def bj3 := d0 hw 266 rfl
def bj4 := d0 hw 267 rfl
def bj5 := d0 hw 268 rfl
def au5 := d0 hw 269 rfl
def au6 := d0 hw 270 rfl
def au7 := d0 hw 271 rfl
def bj6 := d0 hw 272 rfl
def bj7 := d0 hw 273 rfl
def bj8 := d0 hw 274 rfl
def cm8 := d0 hw 275 rfl
def bj9 := d0 hw 276 rfl
def bk0 := d0 hw 277 rfl
def bk1 := d0 hw 278 rfl
def cm9 := d0 hw 279 rfl
def cn0 := d0 hw 280 rfl
def cn1 := d0 hw 281 rfl
def cn2 := d0 hw 282 rfl
def cn3 := d0 hw 283 rfl
def cn4 := d0 hw 284 rfl
def cn5 := d0 hw 285 rfl
def cn6 := d0 hw 286 rfl
def cn7 := d0 hw 287 rfl
def bk2 := d0 hw 288 rfl
def cn8 := d0 hw 289 rfl
def bk3 := d0 hw 290 rfl
def cn9 := d0 hw 291 rfl
def bk4 := d0 hw 292 rfl
def bk5 := d0 hw 293 rfl
def bk6 := d0 hw 294 rfl
def bk7 := d0 hw 295 rfl
def bk8 := d0 hw 296 rfl
def bk9 := d0 hw 297 rfl
def af7 := d0 hw 298 rfl
def bl0 := d0 hw 299 rfl
def af8 := d0 hw 300 rfl
def bl1 := d0 hw 301 rfl
def af9 := d0 hw 302 rfl
def co0 := d0 hw 303 rfl
def co1 := d0 hw 304 rfl
def co2 := d0 hw 305 rfl
def co3 := d0 hw 306 rfl
def co4 := d0 hw 307 rfl
def co5 := d0 hw 308 rfl
def co6 := d0 hw 309 rfl
def co7 := d0 hw 310 rfl
def co8 := d0 hw 311 rfl
def co9 := d0 hw 312 rfl
def cp0 := d0 hw 313 rfl
def au8 := d0 hw 314 rfl
def bl2 := d0 hw 315 rfl
def bl3 := d0 hw 316 rfl
def bl4 := d0 hw 317 rfl
def cp1 := d0 hw 318 rfl
def cp2 := d0 hw 319 rfl
def cp3 := d0 hw 320 rfl
def cp4 := d0 hw 321 rfl
def cp5 := d0 hw 322 rfl
def bl5 := d0 hw 323 rfl
def bl6 := d0 hw 324 rfl
def bl7 := d0 hw 325 rfl
def bl8 := d0 hw 326 rfl
def bl9 := d0 hw 327 rfl
def cp6 := d0 hw 328 rfl
def cp7 := d0 hw 329 rfl
def cp8 := d0 hw 330 rfl
def cp9 := d0 hw 331 rfl
def cq0 := d0 hw 332 rfl
def G4 := d0 hw 333 rfl
def cq2 := d0 hw 334 rfl
def bm0 := d0 hw 335 rfl
def bm1 := d0 hw 336 rfl
def bm2 := d0 hw 338 rfl
def bm3 := d0 hw 339 rfl
def bm4 := d0 hw 340 rfl
def bm5 := d0 hw 341 rfl
def bm6 := d0 hw 342 rfl
def dg6 := slot_ne (Or.inr (am0 hw)) (Or.inr (at9 hw)) (by decide) (t := (.array .int)) (t' := .int) (by decide) (by decide)
def cb5 := slot_ne (Or.inr (at9 hw)) (Or.inr (am0 hw)) (by decide) (t := .int) (t' := (.array .int)) (by decide) (by decide)
def dg7 := slot_ne (Or.inl (w5 hw)) (Or.inl (H3 hw)) (by decide) (t := .int) (t' := .int) (by decide) (by decide)
def dg8 := slot_ne (Or.inl (x4 hw)) (Or.inl (H3 hw)) (by decide) (t := (.array .long)) (t' := .int) (by decide) (by decide)
def dg9 := slot_ne (Or.inl (x5 hw)) (Or.inl (H3 hw)) (by decide) (t := (.array .int)) (t' := .int) (by decide) (by decide)
def dh0 := slot_ne (Or.inl (B2 hw)) (Or.inl (H3 hw)) (by decide) (t := (.array .byte)) (t' := .int) (by decide) (by decide)
def dh1 := slot_ne (Or.inl (w6 hw)) (Or.inl (H3 hw)) (by decide) (t := (.object "java/math/BigInteger")) (t' := .int) (by decide) (by decide)
def dm8 := slot_ne (Or.inl (H3 hw)) (Or.inl (x4 hw)) (by decide) (t := .int) (t' := (.array .long)) (by decide) (by decide)
def Y4 := slot_ne (Or.inl (w5 hw)) (Or.inl (x4 hw)) (by decide) (t := .int) (t' := (.array .long)) (by decide) (by decide)
def Y5 := slot_ne (Or.inl (x5 hw)) (Or.inl (x4 hw)) (by decide) (t := (.array .int)) (t' := (.array .long)) (by decide) (by decide)
def U4 := slot_ne (Or.inl (B2 hw)) (Or.inl (x4 hw)) (by decide) (t := (.array .byte)) (t' := (.array .long)) (by decide) (by decide)
def U5 := slot_ne (Or.inl (w6 hw)) (Or.inl (x4 hw)) (by decide) (t := (.object "java/math/BigInteger")) (t' := (.array .long)) (by decide) (by decide)
def dm5 := slot_ne (Or.inl (H3 hw)) (Or.inl (x5 hw)) (by decide) (t := .int) (t' := (.array .int)) (by decide) (by decide)
def U6 := slot_ne (Or.inl (w5 hw)) (Or.inl (x5 hw)) (by decide) (t := .int) (t' := (.array .int)) (by decide) (by decide)
def U7 := slot_ne (Or.inl (x4 hw)) (Or.inl (x5 hw)) (by decide) (t := (.array .long)) (t' := (.array .int)) (by decide) (by decide)
def U8 := slot_ne (Or.inl (B2 hw)) (Or.inl (x5 hw)) (by decide) (t := (.array .byte)) (t' := (.array .int)) (by decide) (by decide)
def U9 := slot_ne (Or.inl (w6 hw)) (Or.inl (x5 hw)) (by decide) (t := (.object "java/math/BigInteger")) (t' := (.array .int)) (by decide) (by decide)
def dm6 := slot_ne (Or.inl (H3 hw)) (Or.inl (B2 hw)) (by decide) (t := .int) (t' := (.array .byte)) (by decide) (by decide)
def an3 := slot_ne (Or.inl (w5 hw)) (Or.inl (B2 hw)) (by decide) (t := .int) (t' := (.array .byte)) (by decide) (by decide)
def an4 := slot_ne (Or.inl (x4 hw)) (Or.inl (B2 hw)) (by decide) (t := (.array .long)) (t' := (.array .byte)) (by decide) (by decide)
def an5 := slot_ne (Or.inl (x5 hw)) (Or.inl (B2 hw)) (by decide) (t := (.array .int)) (t' := (.array .byte)) (by decide) (by decide)
def an6 := slot_ne (Or.inl (w6 hw)) (Or.inl (B2 hw)) (by decide) (t := (.object "java/math/BigInteger")) (t' := (.array .byte)) (by decide) (by decide)
def az3 := slot_ne (Or.inr (H9 hw)) (Or.inr (I0 hw)) (by decide) (t := (.array .byte)) (t' := .byte) (by decide) (by decide)
def az4 := slot_ne (Or.inr (I0 hw)) (Or.inr (H9 hw)) (by decide) (t := .byte) (t' := (.array .byte)) (by decide) (by decide)
def cJ9 := slot_ne (Or.inr (af8 hw)) (Or.inr (af7 hw)) (by decide) (t := (.object "java/math/BigInteger")) (t' := (.object "com/example/prizewell/prizewell/core/AccountName")) (by decide) (by decide)
def cK0 := slot_ne (Or.inr (af9 hw)) (Or.inr (af7 hw)) (by decide) (t := (.object "java/math/BigInteger")) (t' := (.object "com/example/prizewell/prizewell/core/AccountName")) (by decide) (by decide)
def cK1 := slot_ne (Or.inr (af7 hw)) (Or.inr (af8 hw)) (by decide) (t := (.object "com/example/prizewell/prizewell/core/AccountName")) (t' := (.object "java/math/BigInteger")) (by decide) (by decide)
def cK2 := slot_ne (Or.inr (af9 hw)) (Or.inr (af8 hw)) (by decide) (t := (.object "java/math/BigInteger")) (t' := (.object "java/math/BigInteger")) (by decide) (by decide)
def cK3 := slot_ne (Or.inr (af7 hw)) (Or.inr (af9 hw)) (by decide) (t := (.object "com/example/prizewell/prizewell/core/AccountName")) (t' := (.object "java/math/BigInteger")) (by decide) (by decide)
def cK4 := slot_ne (Or.inr (af8 hw)) (Or.inr (af9 hw)) (by decide) (t := (.object "java/math/BigInteger")) (t' := (.object "java/math/BigInteger")) (by decide) (by decide)
def J4 := slot_ne (Or.inl (x4 hw)) (Or.inl (w5 hw)) (by decide) (t := (.array .long)) (t' := .int) (by decide) (by decide)
def J5 := slot_ne (Or.inl (x5 hw)) (Or.inl (w5 hw)) (by decide) (t := (.array .int)) (t' := .int) (by decide) (by decide)
def J6 := slot_ne (Or.inl (B2 hw)) (Or.inl (w5 hw)) (by decide) (t := (.array .byte)) (t' := .int) (by decide) (by decide)
def J7 := slot_ne (Or.inl (w6 hw)) (Or.inl (w5 hw)) (by decide) (t := (.object "java/math/BigInteger")) (t' := .int) (by decide) (by decide)
def J8 := slot_ne (Or.inl (w5 hw)) (Or.inl (w6 hw)) (by decide) (t := .int) (t' := (.object "java/math/BigInteger")) (by decide) (by decide)
def J9 := slot_ne (Or.inl (x4 hw)) (Or.inl (w6 hw)) (by decide) (t := (.array .long)) (t' := (.object "java/math/BigInteger")) (by decide) (by decide)
def K0 := slot_ne (Or.inl (x5 hw)) (Or.inl (w6 hw)) (by decide) (t := (.array .int)) (t' := (.object "java/math/BigInteger")) (by decide) (by decide)
def L0 := slot_ne (Or.inl (B2 hw)) (Or.inl (w6 hw)) (by decide) (t := (.array .byte)) (t' := (.object "java/math/BigInteger")) (by decide) (by decide)
end
theorem au9 {Z : State} {a0 : Array Value} (hw : j9 Z a0) : ∀ a ∈ Bundle.stringAtoms, a.before a0 Z = true := by
 intro a ha
 simp only [Bundle.stringAtoms, Bundle.sN, List.mem_cons, List.not_mem_nil, or_false] at ha
 rcases ha with rfl | rfl | rfl | rfl | rfl | rfl | rfl
 · exact (o6 hw)
 · exact (F9 hw)
 · exact (Q8 hw)
 · exact (H9 hw)
 · exact (I0 hw)
 · exact (cH5 hw)
 · exact (cH6 hw)
abbrev l3 : List (String × Nat) := consts_1
theorem U0 {Z : State} {a0 : Array Value} (hw : j9 Z a0) : EW Z a0 l3 := (EW.cons (aM4 hw) (by decide) (EW.cons (bk3 hw) (by decide) (EW.cons (cb4 hw) (by decide) EW.nil)))
def r4 (k : Int32) (h0 : Heap) (n0 : Nat) (v : Option Value) (h : Heap) (L : List Loc) : Prop := v = some (.int k) ∧ Fr n0 L ∧ h = h0
def cq3 (k : Int64) (h0 : Heap) (n0 : Nat) (v : Option Value) (h : Heap) (L : List Loc) : Prop := v = some (.long k) ∧ Fr n0 L ∧ h = h0
def U1 (h0 : Heap) (n0 : Nat) (v : Option Value) (h : Heap) (L : List Loc) : Prop := v = none ∧ Fr n0 L ∧ h = h0
abbrev p5 (n : Int64) : Int32 := (((n.toUInt64 >>> ((32 : Int32) &&& 0x3f).toInt64.toUInt64).toInt64).toInt32)
abbrev r9 (n : Int64) : Int32 := n.toInt32
def ag0 (Z : State) (h : Heap) (a t : Addr) (k : ClassId) (n : Int64) : Prop := n = 0 ∧ Fld Z h a "java/math/BigInteger" "signum" "I" (.int 0) ∧ Arv Z h t k .int 0 [] (.int 0)
def ag1 (Z : State) (h : Heap) (a t : Addr) (k : ClassId) (n : Int64) : Prop := 0 < n ∧ p5 n = 0 ∧ Fld Z h a "java/math/BigInteger" "signum" "I" (.int 1) ∧ Arv Z h t k .int 1 [.int (r9 n)] (.int 0)
def ag2 (Z : State) (h : Heap) (a t : Addr) (k : ClassId) (n : Int64) : Prop := 0 < n ∧ ¬ p5 n = 0 ∧ Fld Z h a "java/math/BigInteger" "signum" "I" (.int 1) ∧ Arv Z h t k .int 2 [.int (p5 n), .int (r9 n)] (.int 0)
/-- the BigInteger at a, older than w, stands for n -/
def own_BI (Z : State) (h : Heap) (a : Addr) (n : Int64) (w : Nat) : Prop := a < w ∧ Exa Z h a "java/math/BigInteger" ∧ ∃ (t : Addr) (k : ClassId), t < w ∧ Fld Z h a "java/math/BigInteger" "mag" "[I" (.ref t) ∧ (ag0 Z h a t k n ∨ ag1 Z h a t k n ∨ ag2 Z h a t k n)
theorem own_BI.ext {Z : State} {h h' : Heap} {a : Addr} {n : Int64} {w : Nat} (F : own_BI Z h a n w) (E : Ext h h') : own_BI Z h' a n w := by
 obtain ⟨h1, h2, t, k, h3, h4, h5⟩ := F
 refine ⟨h1, h2.ext E, t, k, h3, h4.ext E, ?_⟩
 rcases h5 with ⟨u1, u2, u3⟩ | ⟨u1, u2, u3, u4⟩ | ⟨u1, u2, u3, u4⟩
 · exact Or.inl ⟨u1, u2.ext E, u3.ext E⟩
 · exact Or.inr (Or.inl ⟨u1, u2, u3.ext E, u4.ext E⟩)
 · exact Or.inr (Or.inr ⟨u1, u2, u3.ext E, u4.ext E⟩)
theorem M3 {x w : Nat} {ws : List Addr} (h : x < w) (q : ∀ y ∈ ws, w ≤ y) : x ∉ ws := fun z => absurd (q x z) (Nat.not_le.mpr h)
theorem own_BI.keep {Z : State} {h h' : Heap} {a : Addr} {n : Int64} {w : Nat} {ws : List Addr} (F : own_BI Z h a n w) (K : Keep h h' ws) (q : ∀ y ∈ ws, w ≤ y) : own_BI Z h' a n w := by
 obtain ⟨h1, h2, t, k, h3, h4, h5⟩ := F
 have r1 := M3 h1 q
 have r2 := M3 h3 q
 refine ⟨h1, h2.keep K, t, k, h3, h4.keep K r1, ?_⟩
 rcases h5 with ⟨u1, u2, u3⟩ | ⟨u1, u2, u3, u4⟩ | ⟨u1, u2, u3, u4⟩
 · exact Or.inl ⟨u1, u2.keep K r1, u3.keep K r2⟩
 · exact Or.inr (Or.inl ⟨u1, u2, u3.keep K r1, u4.keep K r2⟩)
 · exact Or.inr (Or.inr ⟨u1, u2, u3.keep K r1, u4.keep K r2⟩)
theorem own_BI.more {Z : State} {h : Heap} {a : Addr} {n : Int64} {w w' : Nat} (F : own_BI Z h a n w) (q : w ≤ w') : own_BI Z h a n w' := by
 obtain ⟨h1, h2, t, k, h3, h4⟩ := F
 exact ⟨j3 h1 q, h2, t, k, j3 h3 q, h4⟩
theorem cd1 {x : Int64} (h : 0 < x) : ¬ x < 0 := by
 rw [Int64.lt_iff_toInt_lt] at *; omega
theorem dh2 : plainName "java/lang/Number" = true := by first | (simp [plainName, overriddenIn]; done) | decide +kernel
theorem dh3:c4 b2_ 0 (.aload_n 0) 1:=by decide +kernel
theorem dh4:c4 b2_ 1 (.invokespecial 1) 3:=by decide +kernel
theorem dh5:c4 b2_ 4 .return_ 1:=by decide +kernel
theorem dh6 (l : Launch) (Z : State) (a0 : Array Value) (w : j9 Z a0) (ws : List Jvm.Cond) (oa : Addr) (h0 : Heap) (n0 : Nat) (Z0 : n0 ≤ h0.size)  :
 l0 l Z h0 MN0 b2_ 1 none ws (Jvm.Room.mk 1 0 0 12) #[.ref oa] (U1 h0 n0) := by
 refine l7 (Ls := #[.val (.ref oa)]) (plainFor_of_name dh2) (fun p e s m U meth c s₁ Y hh f d r O hnm hlk R X0 e0 => ?_)
 replace O : s.vm.findClass "java/lang/Number" = some m.cls := O
 have N0 := Fr.nil n0
 let L_1 : Array Slot := #[oR oa]
 show c5 p e U m s₁ 0 L_1 []
 refine c6 X0 f d dh3 rfl rfl ?_
 obtain ⟨T2, X2, e2, st2⟩ := initO X0 f Y O (cl0 w) (U2 w) (U3 w) e0 (g := (mkF m 1 L_1 [.ref oa])) rfl (by rw [r]; rfl) rfl (hb d dh4) (by decide) (W := 0) (by show 2 * 0 + _ ≤ _; exact f7 rfl) (by decide)
 refine c8 st2 ?_
 show c5 p e U m T2 4 L_1 []
 exact q0 X2 f R (hb d dh5) (by rw [e2]; exact ⟨rfl, N0, rfl⟩) (by decide) (by decide)
theorem S3 : plainName "java/math/BigInteger" = true := by first | (simp [plainName, overriddenIn]; done) | decide +kernel
theorem dh7:c4 o7 0 (.aload_n 0) 1:=by decide +kernel
theorem dh8:c4 o7 1 (.invokespecial 3) 3:=by decide +kernel
theorem dh9:c4 o7 4 (.lload_n 1) 1:=by decide +kernel
theorem di0:c4 o7 5 (.lconst 0) 1:=by decide +kernel
theorem di1:c4 o7 6 .lcmp 1:=by decide +kernel
theorem di2:c4 o7 7 (.ifCond .ge 14) 3:=by decide +kernel
theorem cK5:c4 o7 21 (.aload_n 0) 1:=by decide +kernel
theorem cK6:c4 o7 22 (.iconst 1) 1:=by decide +kernel
theorem cK7:c4 o7 23 (.putfield 32) 3:=by decide +kernel
theorem cK8:c4 o7 26 (.lload_n 1) 1:=by decide +kernel
theorem cK9:c4 o7 27 (.bipush 32) 2:=by decide +kernel
theorem cL0:c4 o7 29 .lushr 1:=by decide +kernel
theorem cL1:c4 o7 30 .l2i 1:=by decide +kernel
theorem cL2:c4 o7 31 (.istore_n 3) 1:=by decide +kernel
theorem cL3:c4 o7 32 (.iload_n 3) 1:=by decide +kernel
theorem bG6:c4 o7 33 (.ifCond .ne 21) 3:=by decide +kernel
theorem cL4:c4 o7 36 (.aload_n 0) 1:=by decide +kernel
theorem cL5:c4 o7 37 (.iconst 1) 1:=by decide +kernel
theorem cL6:c4 o7 38 (.newarray .int) 2:=by decide +kernel
theorem cL7:c4 o7 40 (.putfield 28) 3:=by decide +kernel
theorem cL8:c4 o7 43 (.aload_n 0) 1:=by decide +kernel
theorem cL9:c4 o7 44 (.getfield 28) 3:=by decide +kernel
theorem cM0:c4 o7 47 (.iconst 0) 1:=by decide +kernel
theorem cM1:c4 o7 48 (.lload_n 1) 1:=by decide +kernel
theorem cM2:c4 o7 49 .l2i 1:=by decide +kernel
theorem cM3:c4 o7 50 .iastore 1:=by decide +kernel
theorem cM4:c4 o7 51 (.goto 25) 3:=by decide +kernel
theorem cM5:c4 o7 54 (.aload_n 0) 1:=by decide +kernel
theorem cM6:c4 o7 55 (.iconst 2) 1:=by decide +kernel
theorem cM7:c4 o7 56 (.newarray .int) 2:=by decide +kernel
theorem cM8:c4 o7 58 (.putfield 28) 3:=by decide +kernel
theorem cM9:c4 o7 61 (.aload_n 0) 1:=by decide +kernel
theorem cN0:c4 o7 62 (.getfield 28) 3:=by decide +kernel
theorem cN1:c4 o7 65 (.iconst 0) 1:=by decide +kernel
theorem cN2:c4 o7 66 (.iload_n 3) 1:=by decide +kernel
theorem cN3:c4 o7 67 .iastore 1:=by decide +kernel
theorem cN4:c4 o7 68 (.aload_n 0) 1:=by decide +kernel
theorem cN5:c4 o7 69 (.getfield 28) 3:=by decide +kernel
theorem cN6:c4 o7 72 (.iconst 1) 1:=by decide +kernel
theorem cN7:c4 o7 73 (.lload_n 1) 1:=by decide +kernel
theorem cN8:c4 o7 74 .l2i 1:=by decide +kernel
theorem cN9:c4 o7 75 .iastore 1:=by decide +kernel
theorem bG7:c4 o7 76 .return_ 1:=by decide +kernel
theorem S5 : parseMethodDescriptor "()V" = some ⟨[], none⟩ := by decide +kernel
def cg7 (Z : State) (oa : Addr) (xn : Int64) (h0 : Heap) (n0 : Nat) (v : Option Value) (h : Heap) (L : List Loc) : Prop := v = none ∧ Fr n0 L ∧ Keep h0 h [oa] ∧ ∃ (t : Addr) (k : ClassId), h0.size ≤ t ∧ Fld Z h oa "java/math/BigInteger" "mag" "[I" (.ref t) ∧ (ag0 Z h oa t k xn ∨ ag1 Z h oa t k xn ∨ ag2 Z h oa t k xn)
theorem di3 (l : Launch) (Z : State) (a0 : Array Value) (w : j9 Z a0) (ws : List Jvm.Cond) (oa : Addr) (xn : Int64) (h0 : Heap) (n0 : Nat) (Z0 : n0 ≤ h0.size) (Ea : Exa Z h0 oa "java/math/BigInteger") (Fs : Fld Z h0 oa "java/math/BigInteger" "signum" "I" (.int 0)) (Fm : Fld Z h0 oa "java/math/BigInteger" "mag" "[I" .null) (g_oa : n0 ≤ oa) (hpos : 0 < xn) :
 l0 l Z h0 MN1 o7 4 none ws (Jvm.Room.mk 2 1 2 24) #[.ref oa, .long xn] (cg7 Z oa xn h0 n0) := by
 refine l7 (Ls := #[.val (.ref oa), .val (.long xn), .second, .unset]) (plainFor_of_name S3) (fun p e s m U meth c s₁ Y hh f d r O hnm hlk R X0 e0 => ?_)
 replace O : s.vm.findClass "java/math/BigInteger" = some m.cls := O
 have N0 := Fr.nil n0
 let L_1 : Array Slot := #[oR oa,oJ xn,.second,oU]
 show c5 p e U m s₁ 0 L_1 []
 refine c6 X0 f d dh7 rfl rfl ?_
 obtain ⟨_, T1, Lc1, X1, hQ1, st1⟩ := D0 X0 f d r Y e0 O (ck6 w) (ck7 w) (ck8 w) (ck9 w) (o := oa) (dh6 l Z a0 w [] oa h0 n0 Z0) L_1 dh8 [] [] 0 0 0 (lenOf S5 rfl)
 obtain ⟨rfl, Nq1, e1⟩ := hQ1
 have N1 := Fr.app N0 Nq1
 refine c8 st1 ?_
 show c5 p e U m T1 4 L_1 []
 refine t8 X1 f d dh9 rfl ?_
 show c5 p e U m T1 5 L_1 [.long xn]
 refine c8 (fun t k => XS.lconst X1.here f rfl (hb d di0) k) ?_
 show c5 p e U m T1 6 L_1 [(.long (0 : Int64)), .long xn]
 refine c8 (fun t k => XS.lcmp X1.here f rfl (hb d di1) rfl k) ?_
 show c5 p e U m T1 7 L_1 [(.int (lcmpW xn (0 : Int64)))]
 refine o2 (pc := 7) (pc' := 21) X1 f d di2 ((if0 _ _).trans (flt (by rw [lw_lt]; exact cd1 hpos : ¬ ((lcmpW xn (0 : Int64)) < (0 : Int32)))).2.1) ?_
 refine c6 X1 f d cK5 rfl rfl ?_
 refine f6 X1 f d cK6 (z := (1 : Int32)) rfl ?_
 obtain ⟨T2, h2, X2, e2, W2, st2⟩ := putF X1 f Y O (host := "") (Or.inl (B7 w)) Via.refl e1 Fs Ea (Or.inr ⟨(at9 w), rfl, hnm⟩) (au0 w) (ty := .int) (by decide) rfl rfl (g := (mkF m 23 L_1 [.int 1, .ref oa])) rfl rfl (hb d cK7)
 have Fw2 := Fs.same W2
 have Ea__2 := Ea.wr W2
 have Fm__2 := Fm.other W2 (Or.inr (dg6 w))
 have N2 := Fr.snoc X2 N1 g_oa
 have KP2 := (Keep.refl h0 [oa]).wr W2 (Or.inl (List.mem_of_getElem? (i := 0) rfl))
 have sz2 := c9 Z0 (Keep.of_wr W2).1
 refine c8 st2 ?_
 show c5 p e U m T2 26 L_1 []
 refine t8 X2 f d cK8 rfl ?_
 refine t9 X2 f d cK9 (z := (32 : Int32)) rfl ?_
 refine ap1 X2 f d cL0 ?_
 show c5 p e U m T2 30 L_1 [(.long ((xn.toUInt64 >>> ((32 : Int32) &&& 0x3f).toInt64.toUInt64).toInt64))]
 refine ay9 X2 f d cL1 ?_
 show c5 p e U m T2 31 L_1 [(.int (p5 xn))]
 let L_2 : Array Slot := #[oR oa,oJ xn,.second,(oI (p5 xn))]
 refine p8 X2 f d cL2 (l' := L_2) rfl ?_
 refine f4 X2 f d cL3 rfl ?_
 by_cases hc33 : (p5 xn) = (0 : Int32)
 · refine m8 X2 f d bG6 ((if0 _ _).trans (teq hc33).2) ?_
   refine c6 X2 f d cL4 rfl rfl ?_
   refine f6 X2 f d cL5 (z := (1 : Int32)) rfl ?_
   obtain ⟨T3, h3, k3, X3, e3, E3, A3, st3⟩ := newP (aty := .int) X2 f Y (ae8 w) e2 (g := (mkF m 38 L_2 [.int 1, .ref oa])) rfl (hb d cL6) rfl (by decide) (cap := 1) (by decide) (by decide) (by decide) (by decide)
   obtain ⟨b3, g3⟩ : ∃ z, z = h2.size := ⟨_, rfl⟩
   rw [← g3] at A3 st3
   have g_b3 : n0 ≤ b3 := c9 sz2 (f7 g3.symm)
   have sz_b3 : h0.size ≤ b3 := c9 KP2.1 (f7 g3.symm)
   have ne_oa_b3 : oa ≠ b3 := Nat.ne_of_lt (j3 Ea__2.lt (f7 g3.symm))
   have Ea__3 := Ea__2.ext E3
   have Fw2__3 := Fw2.ext E3
   have Fm__3 := Fm__2.ext E3
   have KP3 := KP2.ext E3
   have V3 : Arv Z h3 b3 k3 .int 1 [.int 0] (.int 0) := (Arv.new A3 (by decide)).pad (pad_rep [] (.int 0) 1)
   refine c8 st3 ?_
   obtain ⟨T4, h4, X4, e4, W4, st4⟩ := putF X3 f Y O (host := "") (Or.inl (u5 w)) Via.refl e3 Fm__3 Ea__3 (Or.inr ⟨(am0 w), rfl, hnm⟩) (au0 w) (ty := (.array .int)) (by decide) rfl rfl (g := (mkF m 40 L_2 [.ref b3, .ref oa])) rfl rfl (hb d cL7)
   have Fw4 := Fm__3.same W4
   have Fw2__4 := Fw2__3.other W4 (Or.inr (cb5 w))
   have V3__4 := V3.other W4 (Ne.symm ne_oa_b3)
   have N4 := Fr.snoc X4 N2 g_oa
   have KP4 := KP3.wr W4 (Or.inl (List.mem_of_getElem? (i := 0) rfl))
   refine c8 st4 ?_
   show c5 p e U m T4 43 L_2 []
   refine c6 X4 f d cL8 rfl rfl ?_
   refine d3 X4 f d Y e4 O (u5 w) Fw4 cL9 (fun T5 X5 e5 => ?_)
   refine f6 X5 f d cM0 (z := (0 : Int32)) rfl ?_
   refine t8 X5 f d cM1 rfl ?_
   refine ay9 X5 f d cM2 ?_
   show c5 p e U m T5 50 L_2 [(.int (xn.toInt32)), .int 0, .ref b3]
   obtain ⟨cl6, Ar6, qa6, Sa6, Na6, Ha6, Ga6⟩ := id V3__4
   have hin6 : ¬ ((0 : Int32) < 0 ∨ cl6.slots.size ≤ ((0 : Int32)).toNatClampNeg) := inb_of Sa6 ⟨by decide, by decide⟩
   obtain ⟨T6, h6, X6, e6, W6, st6⟩ := stI X5 f Y e5 Ar6 (j := (0 : Int32)) hin6 (g := (mkF m 50 L_2 [(.int (xn.toInt32)), .int 0, .ref b3])) rfl rfl (hb d cM3)
   have Vw6 : Arv Z h6 b3 k3 .int 1 [(.int (xn.toInt32))] (.int 0) := Arv.set Ar6 qa6 Sa6 Na6 Ha6 Ga6 rfl W6 0 rfl (Nat.le_of_ble_eq_true rfl)
   have Fw2__6 := Fw2__4.other W6 (Or.inl ne_oa_b3)
   have Fw4__6 := Fw4.other W6 (Or.inl ne_oa_b3)
   have N6 := Fr.snoc X6 N4 g_b3
   have KP6 := KP4.wr W6 (Or.inr sz_b3)
   refine c8 st6 ?_
   show c5 p e U m T6 51 L_2 []
   refine m5 (pc := 51) (pc' := 76) X6 f d cM4 ?_
   show c5 p e U m T6 76 L_2 []
   exact q0 X6 f R (hb d bG7) (by rw [e6]; exact ⟨rfl, N6, KP6, _, _, sz_b3, Fw4__6, Or.inr (Or.inl ⟨hpos, hc33, Fw2__6, Vw6⟩)⟩) (by decide) (by decide)
 · refine o2 (pc := 33) (pc' := 54) X2 f d bG6 ((if0 _ _).trans (feq hc33).2) ?_
   refine c6 X2 f d cM5 rfl rfl ?_
   refine f6 X2 f d cM6 (z := (2 : Int32)) rfl ?_
   obtain ⟨T7, h7, k7, X7, e7, E7, A7, st7⟩ := newP (aty := .int) X2 f Y (ae8 w) e2 (g := (mkF m 56 L_2 [.int 2, .ref oa])) rfl (hb d cM7) rfl (by decide) (cap := 2) (by decide) (by decide) (by decide) (by decide)
   obtain ⟨b7, g7⟩ : ∃ z, z = h2.size := ⟨_, rfl⟩
   rw [← g7] at A7 st7
   have g_b7 : n0 ≤ b7 := c9 sz2 (f7 g7.symm)
   have sz_b7 : h0.size ≤ b7 := c9 KP2.1 (f7 g7.symm)
   have ne_oa_b7 : oa ≠ b7 := Nat.ne_of_lt (j3 Ea__2.lt (f7 g7.symm))
   have Ea__7 := Ea__2.ext E7
   have Fw2__7 := Fw2.ext E7
   have Fm__7 := Fm__2.ext E7
   have KP7 := KP2.ext E7
   have V7 : Arv Z h7 b7 k7 .int 2 [.int 0, .int 0] (.int 0) := (Arv.new A7 (by decide)).pad (pad_rep [] (.int 0) 2)
   refine c8 st7 ?_
   obtain ⟨T8, h8, X8, e8, W8, st8⟩ := putF X7 f Y O (host := "") (Or.inl (u5 w)) Via.refl e7 Fm__7 Ea__7 (Or.inr ⟨(am0 w), rfl, hnm⟩) (au0 w) (ty := (.array .int)) (by decide) rfl rfl (g := (mkF m 58 L_2 [.ref b7, .ref oa])) rfl rfl (hb d cM8)
   have Fw8 := Fm__7.same W8
   have Fw2__8 := Fw2__7.other W8 (Or.inr (cb5 w))
   have V7__8 := V7.other W8 (Ne.symm ne_oa_b7)
   have N8 := Fr.snoc X8 N2 g_oa
   have KP8 := KP7.wr W8 (Or.inl (List.mem_of_getElem? (i := 0) rfl))
   refine c8 st8 ?_
   show c5 p e U m T8 61 L_2 []
   refine c6 X8 f d cM9 rfl rfl ?_
   refine d3 X8 f d Y e8 O (u5 w) Fw8 cN0 (fun T9 X9 e9 => ?_)
   refine f6 X9 f d cN1 (z := (0 : Int32)) rfl ?_
   refine f4 X9 f d cN2 rfl ?_
   show c5 p e U m T9 67 L_2 [(.int (p5 xn)), .int 0, .ref b7]
   obtain ⟨cl10, Ar10, qa10, Sa10, Na10, Ha10, Ga10⟩ := id V7__8
   have hin10 : ¬ ((0 : Int32) < 0 ∨ cl10.slots.size ≤ ((0 : Int32)).toNatClampNeg) := inb_of Sa10 ⟨by decide, by decide⟩
   obtain ⟨T10, h10, X10, e10, W10, st10⟩ := stI X9 f Y e9 Ar10 (j := (0 : Int32)) hin10 (g := (mkF m 67 L_2 [(.int (p5 xn)), .int 0, .ref b7])) rfl rfl (hb d cN3)
   have Vw10 : Arv Z h10 b7 k7 .int 2 [(.int (p5 xn)), .int 0] (.int 0) := Arv.set Ar10 qa10 Sa10 Na10 Ha10 Ga10 rfl W10 0 rfl (Nat.le_of_ble_eq_true rfl)
   have Fw2__10 := Fw2__8.other W10 (Or.inl ne_oa_b7)
   have Fw8__10 := Fw8.other W10 (Or.inl ne_oa_b7)
   have N10 := Fr.snoc X10 N8 g_b7
   have KP10 := KP8.wr W10 (Or.inr sz_b7)
   refine c8 st10 ?_
   show c5 p e U m T10 68 L_2 []
   refine c6 X10 f d cN4 rfl rfl ?_
   refine d3 X10 f d Y e10 O (u5 w) Fw8__10 cN5 (fun T11 X11 e11 => ?_)
   refine f6 X11 f d cN6 (z := (1 : Int32)) rfl ?_
   refine t8 X11 f d cN7 rfl ?_
   refine ay9 X11 f d cN8 ?_
   show c5 p e U m T11 75 L_2 [(.int (xn.toInt32)), .int 1, .ref b7]
   obtain ⟨cl12, Ar12, qa12, Sa12, Na12, Ha12, Ga12⟩ := id Vw10
   have hin12 : ¬ ((1 : Int32) < 0 ∨ cl12.slots.size ≤ ((1 : Int32)).toNatClampNeg) := inb_of Sa12 ⟨by decide, by decide⟩
   obtain ⟨T12, h12, X12, e12, W12, st12⟩ := stI X11 f Y e11 Ar12 (j := (1 : Int32)) hin12 (g := (mkF m 75 L_2 [(.int (xn.toInt32)), .int 1, .ref b7])) rfl rfl (hb d cN9)
   have Vw12 : Arv Z h12 b7 k7 .int 2 [(.int (p5 xn)), (.int (xn.toInt32))] (.int 0) := Arv.set Ar12 qa12 Sa12 Na12 Ha12 Ga12 rfl W12 1 rfl (Nat.le_of_ble_eq_true rfl)
   have Fw2__12 := Fw2__10.other W12 (Or.inl ne_oa_b7)
   have Fw8__12 := Fw8__10.other W12 (Or.inl ne_oa_b7)
   have N12 := Fr.snoc X12 N10 g_b7
   have KP12 := KP10.wr W12 (Or.inr sz_b7)
   refine c8 st12 ?_
   show c5 p e U m T12 76 L_2 []
   exact q0 X12 f R (hb d bG7) (by rw [e12]; exact ⟨rfl, N12, KP12, _, _, sz_b7, Fw8__12, Or.inr (Or.inr ⟨hpos, hc33, Fw2__12, Vw12⟩)⟩) (by decide) (by decide)
theorem ce8 {Z : State} {h : Heap} {a t : Addr} {k : ClassId} {n : Int64} (E : Exa Z h a "java/math/BigInteger") (F : Fld Z h a "java/math/BigInteger" "mag" "[I" (.ref t)) (O : ag0 Z h a t k n ∨ ag1 Z h a t k n ∨ ag2 Z h a t k n) : own_BI Z h a n h.size := by
 have ht : t < h.size := by
  rcases O with O | O | O
  · exact O.2.2.lt
  · exact O.2.2.2.lt
  · exact O.2.2.2.lt
 have ha : a < h.size := by obtain ⟨cell, k, h1, -⟩ := E; exact (Array.getElem?_eq_some_iff.mp h1).1
 exact ⟨ha, E, t, k, ht, F, O⟩
theorem cd7 {x : Int64} (h1 : 0 < x) (h2 : ¬ (16 : Int64) < x) : 0 < x.toInt32 ∧ ¬ (16 : Int32) < x.toInt32 ∧ x.toInt32.toInt64 = x ∧ ¬ x.toInt32 < 0 ∧ x.toInt32 < 17 := by
 rw [Int64.lt_iff_toInt_lt] at h1 h2
 have a0 : (0 : Int64).toInt = 0 := by decide
 have a1 : (16 : Int64).toInt = 16 := by decide
 have b0 : (0 : Int32).toInt = 0 := by decide
 have b1 : (16 : Int32).toInt = 16 := by decide
 have b2 : (17 : Int32).toInt = 17 := by decide
 have e : x.toInt32.toInt = x.toInt := Jvm.Kit.i32_of_i64 (by omega) (by omega)
 refine ⟨by rw [Int32.lt_iff_toInt_lt]; omega, by rw [Int32.lt_iff_toInt_lt]; omega, ?_, by rw [Int32.lt_iff_toInt_lt]; omega, by rw [Int32.lt_iff_toInt_lt]; omega⟩
 apply Int64.toInt_inj.mp
 rw [Jvm.Kit.i64_of_i32, e]
theorem cg8 {x : Int64} (h1 : ¬ x < 0) (h2 : ¬ x = 0) : 0 < x := by
 rw [Int64.lt_iff_toInt_lt] at *
 have a0 : (0 : Int64).toInt = 0 := by decide
 have : x.toInt ≠ 0 := fun q => h2 (Int64.toInt_inj.mp (by rw [q]; rfl))
 omega
def ag3 (Z : State) (uo u8 i8 : Addr) : Prop := Sta Z Z.heap "java/nio/charset/StandardCharsets" "US_ASCII" "Ljava/nio/charset/Charset;" (.ref uo) ∧ Sta Z Z.heap "sun/nio/cs/US_ASCII" "INSTANCE" "Lsun/nio/cs/US_ASCII;" (.ref uo) ∧ Sta Z Z.heap "sun/nio/cs/UTF_8" "INSTANCE" "Lsun/nio/cs/UTF_8;" (.ref u8) ∧ Sta Z Z.heap "sun/nio/cs/ISO_8859_1" "INSTANCE" "Lsun/nio/cs/ISO_8859_1;" (.ref i8) ∧ Exa Z Z.heap uo "sun/nio/cs/US_ASCII" ∧ uo ≠ u8 ∧ uo ≠ i8
def s8 (als : List Value) (x : Int32) : Prop := ¬ x < 0 ∧ x < 128 ∧ als.getD x.toNatClampNeg (.int 0) = .int 1
def I3 : List Int32 := [65, 66, 67, 68, 69, 70, 71, 72, 73, 74, 75, 76, 77, 78, 79, 80, 81, 82, 83, 84, 85, 86, 87, 88, 89, 90, 97, 98, 99, 100, 101, 102, 103, 104, 105, 106, 107, 108, 109, 110, 111, 112, 113, 114, 115, 116, 117, 118, 119, 120, 121, 122, 48, 49, 50, 51, 52, 53, 54, 55, 56, 57, 46, 95, 45]
def m9 (cs : List Int32) : List Value := cs.map Value.int
def own_nm (als : List Value) (cs : List Int32) : Prop := (∃ c0, cs = [c0] ∧ s8 als c0) ∨ ∃ c0 c1, cs = [c0, c1] ∧ s8 als c0 ∧ s8 als c1
def r5 (Z : State) (z0 pc0 : Addr) (kpc : ClassId) (pcs : List Value) (fm : Value) (al : Addr) (kal : ClassId) (als : List Value) : Prop := Sta Z Z.heap "com/example/prizewell/prizewell/core/AccountName" "ALLOWED" "[Z" (.ref al) ∧ Arv Z Z.heap al kal .boolean (128 : Int32) als (.int 0) ∧ fm.isRef = true ∧ (∃ c : Int32, ¬ c = 0 ∧ Sta Z Z.heap "java/lang/String" "COMPACT_STRINGS" "Z" (.int c)) ∧ Sta Z Z.heap "jdk/internal/util/Preconditions" "SIOOBE_FORMATTER" "Ljava/util/function/BiFunction;" fm ∧ Sta Z Z.heap "java/math/BigInteger" "ZERO" "Ljava/math/BigInteger;" (.ref z0) ∧ own_BI Z Z.heap z0 0 Z.heap.size ∧ Sta Z Z.heap "java/math/BigInteger" "posConst" "[Ljava/math/BigInteger;" (.ref pc0) ∧ Arv Z Z.heap pc0 kpc (.object "java/math/BigInteger") (17 : Int32) pcs .null ∧ (∀ i : Int32, 0 < i → ¬ 16 < i → ∃ a, pcs.getD i.toNatClampNeg .null = .ref a ∧ own_BI Z Z.heap a i.toInt64 Z.heap.size) ∧ (∀ c ∈ I3, s8 als c) ∧ ∃ uo u8 i8 : Addr, ag3 Z uo u8 i8
def aj4 (n1 S1 S2 : Nat) (y : Addr) : Prop := y < n1 ∨ (S1 ≤ y ∧ y < S2)
theorem G2 {n1 S1 S2 y : Nat} (g : n1 ≤ y) (q : y < S1) : ¬ aj4 n1 S1 S2 y := fun h => h.elim (fun a => absurd a (Nat.not_lt.mpr g)) (fun a => absurd a.1 (Nat.not_le.mpr q))
/-- a BigInteger n whose cells lie in P -/
def own_BP (Z : State) (h : Heap) (a : Addr) (n : Int64) (P : Addr → Prop) : Prop := P a ∧ Exa Z h a "java/math/BigInteger" ∧ ∃ (t : Addr) (k : ClassId), P t ∧ Fld Z h a "java/math/BigInteger" "mag" "[I" (.ref t) ∧ (ag0 Z h a t k n ∨ ag1 Z h a t k n ∨ ag2 Z h a t k n)
theorem own_BP.ext {Z : State} {h h' : Heap} {a : Addr} {n : Int64} {P : Addr → Prop} (F : own_BP Z h a n P) (E : Ext h h') : own_BP Z h' a n P := by
 obtain ⟨h1, h2, t, k, h3, h4, h5⟩ := F
 refine ⟨h1, h2.ext E, t, k, h3, h4.ext E, ?_⟩
 rcases h5 with ⟨u1, u2, u3⟩ | ⟨u1, u2, u3, u4⟩ | ⟨u1, u2, u3, u4⟩
 · exact Or.inl ⟨u1, u2.ext E, u3.ext E⟩
 · exact Or.inr (Or.inl ⟨u1, u2, u3.ext E, u4.ext E⟩)
 · exact Or.inr (Or.inr ⟨u1, u2, u3.ext E, u4.ext E⟩)
theorem own_BP.keep {Z : State} {h h' : Heap} {a : Addr} {n : Int64} {P : Addr → Prop} {ws : List Addr} (F : own_BP Z h a n P) (K : Keep h h' ws) (q : ∀ y ∈ ws, ¬ P y) : own_BP Z h' a n P := by
 obtain ⟨h1, h2, t, k, h3, h4, h5⟩ := F
 have r1 : a ∉ ws := fun z => q a z h1
 have r2 : t ∉ ws := fun z => q t z h3
 refine ⟨h1, h2.keep K, t, k, h3, h4.keep K r1, ?_⟩
 rcases h5 with ⟨u1, u2, u3⟩ | ⟨u1, u2, u3, u4⟩ | ⟨u1, u2, u3, u4⟩
 · exact Or.inl ⟨u1, u2.keep K r1, u3.keep K r2⟩
 · exact Or.inr (Or.inl ⟨u1, u2, u3.keep K r1, u4.keep K r2⟩)
 · exact Or.inr (Or.inr ⟨u1, u2, u3.keep K r1, u4.keep K r2⟩)
theorem own_BP.imp {Z : State} {h : Heap} {a : Addr} {n : Int64} {P P' : Addr → Prop} (F : own_BP Z h a n P) (q : ∀ y, P y → P' y) : own_BP Z h a n P' := by
 obtain ⟨h1, h2, t, k, h3, h4⟩ := F
 exact ⟨q _ h1, h2, t, k, q _ h3, h4⟩
theorem own_BP.bi {Z : State} {h : Heap} {a : Addr} {n : Int64} {P : Addr → Prop} (F : own_BP Z h a n P) : own_BI Z h a n h.size := by
 obtain ⟨h1, h2, t, k, h3, h4, h5⟩ := F
 exact ce8 h2 h4 h5
theorem own_BI.bp {Z : State} {h : Heap} {a : Addr} {n : Int64} {w : Nat} {P : Addr → Prop} (F : own_BI Z h a n w) (q : ∀ y, y < w → P y) : own_BP Z h a n P := by
 obtain ⟨h1, h2, t, k, h3, h4⟩ := F
 exact ⟨q _ h1, h2, t, k, q _ h3, h4⟩
theorem ce9 {Z : State} {h : Heap} {a t : Addr} {k : ClassId} {n : Int64} {n1 S1 : Nat} (E : Exa Z h a "java/math/BigInteger") (F : Fld Z h a "java/math/BigInteger" "mag" "[I" (.ref t)) (O : ag0 Z h a t k n ∨ ag1 Z h a t k n ∨ ag2 Z h a t k n) (ha : S1 ≤ a) (ht : S1 ≤ t) : own_BP Z h a n (aj4 n1 S1 h.size) := by
 have q : t < h.size := by
  rcases O with O | O | O
  · exact O.2.2.lt
  · exact O.2.2.2.lt
  · exact O.2.2.2.lt
 exact ⟨Or.inr ⟨ha, E.lt⟩, E, t, k, Or.inr ⟨ht, q⟩, F, O⟩
theorem di4:c4 s4 0 (.lload_n 0) 1:=by decide +kernel
theorem di5:c4 s4 1 (.lconst 0) 1:=by decide +kernel
theorem di6:c4 s4 2 .lcmp 1:=by decide +kernel
theorem cb6:c4 s4 3 (.ifCond .ne 7) 3:=by decide +kernel
theorem di7:c4 s4 6 (.getstatic 22) 3:=by decide +kernel
theorem di8:c4 s4 9 .areturn 1:=by decide +kernel
theorem cO0:c4 s4 10 (.lload_n 0) 1:=by decide +kernel
theorem cO1:c4 s4 11 (.lconst 0) 1:=by decide +kernel
theorem cO2:c4 s4 12 .lcmp 1:=by decide +kernel
theorem cO3:c4 s4 13 (.ifCond .le 18) 3:=by decide +kernel
theorem cO4:c4 s4 16 (.lload_n 0) 1:=by decide +kernel
theorem cO5:c4 s4 17 (.ldc2_w 345) 3:=by decide +kernel
theorem cO6:c4 s4 20 .lcmp 1:=by decide +kernel
theorem bG8:c4 s4 21 (.ifCond .gt 10) 3:=by decide +kernel
theorem cO7:c4 s4 24 (.getstatic 347) 3:=by decide +kernel
theorem cO8:c4 s4 27 (.lload_n 0) 1:=by decide +kernel
theorem cO9:c4 s4 28 .l2i 1:=by decide +kernel
theorem cP0:c4 s4 29 .aaload 1:=by decide +kernel
theorem cP1:c4 s4 30 .areturn 1:=by decide +kernel
theorem cP2:c4 s4 31 (.lload_n 0) 1:=by decide +kernel
theorem cP3:c4 s4 32 (.lconst 0) 1:=by decide +kernel
theorem cP4:c4 s4 33 .lcmp 1:=by decide +kernel
theorem cP5:c4 s4 34 (.ifCond .ge 19) 3:=by decide +kernel
theorem cP6:c4 s4 53 (.new 23) 3:=by decide +kernel
theorem cP7:c4 s4 56 .dup 1:=by decide +kernel
theorem cP8:c4 s4 57 (.lload_n 0) 1:=by decide +kernel
theorem cP9:c4 s4 58 (.invokespecial 356) 3:=by decide +kernel
theorem cQ0:c4 s4 61 .areturn 1:=by decide +kernel
theorem di9 : parseMethodDescriptor "(J)V" = some ⟨[.long], none⟩ := by decide +kernel
def aZ5 (Z : State) (xn : Int64) (h0 : Heap) (n0 : Nat) (v : Option Value) (h : Heap) (L : List Loc) : Prop := ∃ a, v = some (.ref a) ∧ Fr n0 L ∧ Keep h0 h [] ∧ own_BP Z h a xn (aj4 n0 h0.size h.size)
theorem Y6 (l : Launch) (Z : State) (a0 : Array Value) (w : j9 Z a0) (ws : List Jvm.Cond) (xn : Int64) (z0 pc0 : Addr) (kpc : ClassId) (pcs : List Value) (fm : Value) (al : Addr) (kal : ClassId) (als : List Value) (h0 : Heap) (n0 : Nat) (Z0 : n0 ≤ h0.size) (hnn : ¬ xn < 0) (XO : Old Z n0 h0) (WW : r5 Z z0 pc0 kpc pcs fm al kal als) :
 l0 l Z h0 MN2 s4 2 (some (.object "java/math/BigInteger")) ws (Jvm.Room.mk 3 2 8 41) #[.long xn] (aZ5 Z xn h0 n0) := by
 refine l7 (Ls := #[.val (.long xn), .second]) (plainFor_of_name S3) (fun p e s m U meth c s₁ Y hh f d r O hnm hlk R X0 e0 => ?_)
 replace O : s.vm.findClass "java/math/BigInteger" = some m.cls := O
 have N0 := Fr.nil n0
 obtain ⟨SAl, AAl, r_fm, ⟨cs, hcs, SC⟩, SFM, SZ, BZ, SPc, APc, HPc, HAL, uo, u8, i8, CS⟩ := id WW
 let L_1 : Array Slot := #[oJ xn,.second]
 show c5 p e U m s₁ 0 L_1 []
 refine t8 X0 f d di4 rfl ?_
 show c5 p e U m s₁ 1 L_1 [.long xn]
 refine c8 (fun t k => XS.lconst X0.here f rfl (hb d di5) k) ?_
 show c5 p e U m s₁ 2 L_1 [(.long (0 : Int64)), .long xn]
 refine c8 (fun t k => XS.lcmp X0.here f rfl (hb d di6) rfl k) ?_
 show c5 p e U m s₁ 3 L_1 [(.int (lcmpW xn (0 : Int64)))]
 by_cases hc3 : (lcmpW xn (0 : Int64)) = (0 : Int32)
 · refine m8 X0 f d cb6 ((if0 _ _).trans (teq hc3).2) ?_
   obtain ⟨T1, X1, e1, st1⟩ := getS2 X0 f Y O (host := "") (Or.inl (cq2 w)) Via.refl e0 (SZ.ext XO.2) (g := (mkF m 6 L_1 [])) rfl (hb d di7)
   refine c8 st1 ?_
   show c5 p e U m T1 9 L_1 [.ref z0]
   exact p9 X1 f R rfl rfl (hb d di8) (by rw [e1]; exact ⟨_, rfl, N0, (Keep.refl h0 []), by have q := (lw_eq _ _).mp hc3; subst q; exact (BZ.ext XO.2).bp (fun y hy => Or.inl (XO.1 ▸ hy))⟩) (by decide) (by decide)
 · refine o2 (pc := 3) (pc' := 10) X0 f d cb6 ((if0 _ _).trans (feq hc3).2) ?_
   have hpos : 0 < xn := cg8 hnn (fun q => hc3 ((lw_eq _ _).mpr q))
   refine t8 X0 f d cO0 rfl ?_
   show c5 p e U m s₁ 11 L_1 [.long xn]
   refine c8 (fun t k => XS.lconst X0.here f rfl (hb d cO1) k) ?_
   show c5 p e U m s₁ 12 L_1 [(.long (0 : Int64)), .long xn]
   refine c8 (fun t k => XS.lcmp X0.here f rfl (hb d cO2) rfl k) ?_
   show c5 p e U m s₁ 13 L_1 [(.int (lcmpW xn (0 : Int64)))]
   refine m8 X0 f d cO3 ((if0 _ _).trans (tlt ((lw_gt _ _).mpr hpos : (0 : Int32) < (lcmpW xn (0 : Int64)))).2.2.2) ?_
   refine t8 X0 f d cO4 rfl ?_
   show c5 p e U m s₁ 17 L_1 [.long xn]
   refine c8 (fun t k => X0.ldc2Long f O (mvT Y (ck1 w)) (g := (mkF m 17 L_1 [.long xn])) rfl (hb d cO5) t k) ?_
   show c5 p e U m s₁ 20 L_1 [(.long (16 : Int64)), .long xn]
   refine c8 (fun t k => XS.lcmp X0.here f rfl (hb d cO6) rfl k) ?_
   show c5 p e U m s₁ 21 L_1 [(.int (lcmpW xn (16 : Int64)))]
   by_cases hc21 : (0 : Int32) < (lcmpW xn (16 : Int64))
   · refine o2 (pc := 21) (pc' := 31) X0 f d bG8 ((if0 _ _).trans (tlt hc21).2.2.1) ?_
     refine t8 X0 f d cP2 rfl ?_
     show c5 p e U m s₁ 32 L_1 [.long xn]
     refine c8 (fun t k => XS.lconst X0.here f rfl (hb d cP3) k) ?_
     show c5 p e U m s₁ 33 L_1 [(.long (0 : Int64)), .long xn]
     refine c8 (fun t k => XS.lcmp X0.here f rfl (hb d cP4) rfl k) ?_
     show c5 p e U m s₁ 34 L_1 [(.int (lcmpW xn (0 : Int64)))]
     refine o2 (pc := 34) (pc' := 53) X0 f d cP5 ((if0 _ _).trans (flt (by rw [lw_lt]; exact hnn : ¬ ((lcmpW xn (0 : Int64)) < (0 : Int32)))).2.1) ?_
     obtain ⟨T2, h2, X2, e2, E2, A2, D2, -, st2⟩ := newO X0 f Y O (T0 w) (au0 w) (u9 w) e0 (g := (mkF m 53 L_1 [])) rfl (hb d cP6) (by decide) (by decide)
     obtain ⟨b2, g2⟩ : ∃ z, z = h0.size := ⟨_, rfl⟩
     rw [← g2] at A2 D2 st2
     have g_b2 : n0 ≤ b2 := c9 Z0 (f7 g2.symm)
     have sz_b2 : h0.size ≤ b2 := c9 (Keep.refl h0 []).1 (f7 g2.symm)
     have sz2 := c9 Z0 E2.1
     have KP2 := (Keep.refl h0 []).ext E2
     have F2_mag : Fld Z h2 b2 "java/math/BigInteger" "mag" "[I" .null := D2 (Or.inr (am0 w)) (ty := (.array .int)) (by decide)
     have F2_signum : Fld Z h2 b2 "java/math/BigInteger" "signum" "I" (.int 0) := D2 (Or.inr (at9 w)) (ty := .int) (by decide)
     refine c8 st2 ?_
     show c5 p e U m T2 56 L_1 [.ref b2]
     refine A0 X2 f d cP7 rfl ?_
     refine t8 X2 f d cP8 rfl ?_
     obtain ⟨_, T3, Lc3, X3, hQ3, st3⟩ := D0 X2 f d r Y e2 O (ck3 w) (ck4 w) (u9 w) (ck5 w) (o := b2) (di3 l Z a0 w [] b2 xn h2 n0 sz2 A2 F2_signum F2_mag g_b2 hpos) L_1 cP9 [.long xn] [.ref b2] 1 1 2 (lenOf di9 rfl)
     obtain ⟨rfl, Nq3, K3, tq3, kq3, ge3, Fm3, Or3⟩ := hQ3
     have N3 := Fr.app N0 Nq3
     refine c8 st3 ?_
     have sz_tq3 : h0.size ≤ tq3 := c9 KP2.1 ge3
     have A2__3 := A2.keep K3
     have KP3 := KP2.trans K3 (allS (Or.inr sz_b2) all0)
     show c5 p e U m T3 61 L_1 [.ref b2]
     exact p9 X3 f R rfl rfl (hb d cQ0) (⟨_, rfl, N3, KP3, ce9 A2__3 Fm3 Or3 sz_b2 sz_tq3⟩) (by decide) (by decide)
   · refine m8 X0 f d bG8 ((if0 _ _).trans (flt hc21).2.2.1) ?_
     have h16 : ¬ (16 : Int64) < xn := fun q => hc21 ((lw_gt _ _).mpr q)
     obtain ⟨T4, X4, e4, st4⟩ := getS2 X0 f Y O (host := "") (Or.inl (ck2 w)) Via.refl e0 (SPc.ext XO.2) (g := (mkF m 24 L_1 [])) rfl (hb d cO7)
     refine c8 st4 ?_
     show c5 p e U m T4 27 L_1 [.ref pc0]
     refine t8 X4 f d cO8 rfl ?_
     refine ay9 X4 f d cO9 ?_
     show c5 p e U m T4 29 L_1 [(.int (xn.toInt32)), .ref pc0]
     have sm := cd7 hpos h16
     obtain ⟨ap, hap, BP⟩ := HPc (r9 xn) sm.1 sm.2.1
     obtain ⟨cl5, Ar5, qa5, Sa5, Na5, Ha5, Ga5⟩ := (APc.ext XO.2)
     have hin5 : ¬ (r9 xn < 0 ∨ cl5.slots.size ≤ (r9 xn).toNatClampNeg) := inb_of Sa5 ⟨sm.2.2.2.1, sm.2.2.2.2⟩
     have hat5 : cl5.slots[(r9 xn).toNatClampNeg]? = some (.ref ap) := Ha5.at hin5 hap
     refine c8 (fun t k => X4.aaload f (j := r9 xn) (v := .ref ap) (by rw [e4]; exact Ar5.1) (State.isArrayOf_alike Y.alike Ar5.2.1) rfl Ar5.2.2 hin5 hat5 (g := (mkF m 29 L_1 [(.int (xn.toInt32)), .ref pc0])) rfl rfl (hb d cP0) t k) ?_
     show c5 p e U m T4 30 L_1 [.ref ap]
     exact p9 X4 f R rfl rfl (hb d cP1) (by rw [e4]; exact ⟨_, rfl, N0, (Keep.refl h0 []), by rw [sm.2.2.1] at BP; exact (BP.ext XO.2).bp (fun y hy => Or.inl (XO.1 ▸ hy))⟩) (by decide) (by decide)
theorem aU8:c4 b5_ 0 (.aload_n 0) 1:=by decide +kernel
theorem aU9:c4 b5_ 1 (.getfield 32) 3:=by decide +kernel
theorem aV0:c4 b5_ 4 (.ifCond .ge 7) 3:=by decide +kernel
theorem aM9:c4 b5_ 11 (.iconst 0) 1:=by decide +kernel
theorem aN0:c4 b5_ 12 .ireturn 1:=by decide +kernel
theorem aV1 (l : Launch) (Z : State) (a0 : Array Value) (w : j9 Z a0) (ws : List Jvm.Cond) (oa : Addr) (w_oa : Nat) (xn : Int64) (h0 : Heap) (n0 : Nat) (Z0 : n0 ≤ h0.size) (B_oa : own_BI Z h0 oa xn w_oa) :
 l0 l Z h0 MN3 b5_ 1 (some .int) ws (Jvm.Room.mk 0 0 0 0) #[.ref oa] (r4 (0 : Int32) h0 n0) := by
 refine l7 (Ls := #[.val (.ref oa)]) (plainFor_of_name S3) (fun p e s m U meth c s₁ Y hh f d r O hnm hlk R X0 e0 => ?_)
 replace O : s.vm.findClass "java/math/BigInteger" = some m.cls := O
 have N0 := Fr.nil n0
 let L_1 : Array Slot := #[oR oa]
 show c5 p e U m s₁ 0 L_1 []
 obtain ⟨l_oa, E_oa, t_oa, k_oa, lt_oa, Fm_oa, O_oa⟩ := id B_oa
 rcases O_oa with ⟨u0_oa, Fs_oa, At_oa⟩ | ⟨u1_oa, u2_oa, Fs_oa, At_oa⟩ | ⟨u1_oa, u2_oa, Fs_oa, At_oa⟩
 · skip
   show c5 p e U m s₁ 0 L_1 []
   refine c6 X0 f d aU8 rfl rfl ?_
   refine d3 X0 f d Y e0 O (B7 w) Fs_oa aU9 (fun T1 X1 e1 => ?_)
   refine o2 (pc := 4) (pc' := 11) X1 f d aV0 ((if0 _ _).trans (flt (by decide : ¬ ((0 : Int32) < (0 : Int32)))).2.1) ?_
   refine f6 X1 f d aM9 (z := (0 : Int32)) rfl ?_
   show c5 p e U m T1 12 L_1 [.int 0]
   exact r8 X1 f R (hb d aN0) (by rw [e1]; exact ⟨rfl, N0, rfl⟩) (by decide) (by decide)
 · skip
   show c5 p e U m s₁ 0 L_1 []
   refine c6 X0 f d aU8 rfl rfl ?_
   refine d3 X0 f d Y e0 O (B7 w) Fs_oa aU9 (fun T2 X2 e2 => ?_)
   refine o2 (pc := 4) (pc' := 11) X2 f d aV0 ((if0 _ _).trans (flt (by decide : ¬ ((1 : Int32) < (0 : Int32)))).2.1) ?_
   refine f6 X2 f d aM9 (z := (0 : Int32)) rfl ?_
   show c5 p e U m T2 12 L_1 [.int 0]
   exact r8 X2 f R (hb d aN0) (by rw [e2]; exact ⟨rfl, N0, rfl⟩) (by decide) (by decide)
 · skip
   show c5 p e U m s₁ 0 L_1 []
   refine c6 X0 f d aU8 rfl rfl ?_
   refine d3 X0 f d Y e0 O (B7 w) Fs_oa aU9 (fun T3 X3 e3 => ?_)
   refine o2 (pc := 4) (pc' := 11) X3 f d aV0 ((if0 _ _).trans (flt (by decide : ¬ ((1 : Int32) < (0 : Int32)))).2.1) ?_
   refine f6 X3 f d aM9 (z := (0 : Int32)) rfl ?_
   show c5 p e U m T3 12 L_1 [.int 0]
   exact r8 X3 f R (hb d aN0) (by rw [e3]; exact ⟨rfl, N0, rfl⟩) (by decide) (by decide)
theorem ak9:c4 s3 0 (.iload_n 1) 1:=by decide +kernel
theorem al0:c4 s3 1 (.ifCond .ge 5) 3:=by decide +kernel
theorem al1:c4 s3 6 (.iload_n 1) 1:=by decide +kernel
theorem al2:c4 s3 7 (.aload_n 0) 1:=by decide +kernel
theorem al3:c4 s3 8 (.getfield 28) 3:=by decide +kernel
theorem aj5:c4 s3 11 .arraylength 1:=by decide +kernel
theorem aj6:c4 s3 12 (.if_icmp .lt 8) 3:=by decide +kernel
theorem aN1:c4 s3 15 (.aload_n 0) 1:=by decide +kernel
theorem aN2:c4 s3 16 (.invokevirtual 860) 3:=by decide +kernel
theorem aN3:c4 s3 19 .ireturn 1:=by decide +kernel
theorem aN4:c4 s3 20 (.aload_n 0) 1:=by decide +kernel
theorem aN5:c4 s3 21 (.getfield 28) 3:=by decide +kernel
theorem aN6:c4 s3 24 (.aload_n 0) 1:=by decide +kernel
theorem aN7:c4 s3 25 (.getfield 28) 3:=by decide +kernel
theorem aN8:c4 s3 28 .arraylength 1:=by decide +kernel
theorem aN9:c4 s3 29 (.iload_n 1) 1:=by decide +kernel
theorem aO0:c4 s3 30 .isub 1:=by decide +kernel
theorem aO1:c4 s3 31 (.iconst 1) 1:=by decide +kernel
theorem aO2:c4 s3 32 .isub 1:=by decide +kernel
theorem aO3:c4 s3 33 .iaload 1:=by decide +kernel
theorem aO4:c4 s3 34 (.istore_n 2) 1:=by decide +kernel
theorem aO5:c4 s3 35 (.aload_n 0) 1:=by decide +kernel
theorem aO6:c4 s3 36 (.getfield 32) 3:=by decide +kernel
theorem aO7:c4 s3 39 (.ifCond .lt 7) 3:=by decide +kernel
theorem aO8:c4 s3 42 (.iload_n 2) 1:=by decide +kernel
theorem aO9:c4 s3 43 (.goto 19) 3:=by decide +kernel
theorem aP0:c4 s3 62 .ireturn 1:=by decide +kernel
theorem v7 : parseMethodDescriptor "()I" = some ⟨[], some .int⟩ := by decide +kernel
theorem cQ1 (l : Launch) (Z : State) (a0 : Array Value) (w : j9 Z a0) (ws : List Jvm.Cond) (oa : Addr) (w_oa : Nat) (xn : Int64) (h0 : Heap) (n0 : Nat) (Z0 : n0 ≤ h0.size) (B_oa : own_BI Z h0 oa xn w_oa) :
 l0 l Z h0 MN4 s3 3 (some .int) ws (Jvm.Room.mk 1 0 0 16) #[.ref oa, .int 0] (r4 (r9 xn) h0 n0) := by
 refine l7 (Ls := #[.val (.ref oa), .val (.int 0), .unset]) (plainFor_of_name S3) (fun p e s m U meth c s₁ Y hh f d r O hnm hlk R X0 e0 => ?_)
 replace O : s.vm.findClass "java/math/BigInteger" = some m.cls := O
 have N0 := Fr.nil n0
 let L_1 : Array Slot := #[oR oa,oI 0,oU]
 show c5 p e U m s₁ 0 L_1 []
 obtain ⟨l_oa, E_oa, t_oa, k_oa, lt_oa, Fm_oa, O_oa⟩ := id B_oa
 rcases O_oa with ⟨u0_oa, Fs_oa, At_oa⟩ | ⟨u1_oa, u2_oa, Fs_oa, At_oa⟩ | ⟨u1_oa, u2_oa, Fs_oa, At_oa⟩
 · skip
   show c5 p e U m s₁ 0 L_1 []
   refine f4 X0 f d ak9 rfl ?_
   refine o2 (pc := 1) (pc' := 6) X0 f d al0 ((if0 _ _).trans (flt (by decide : ¬ ((0 : Int32) < (0 : Int32)))).2.1) ?_
   refine f4 X0 f d al1 rfl ?_
   refine c6 X0 f d al2 rfl rfl ?_
   refine d3 X0 f d Y e0 O (u5 w) Fm_oa al3 (fun T1 X1 e1 => ?_)
   refine m7 X1 f d Y e1 At_oa aj5 ?_
   refine m4 X1 f d aj6 (flt (by decide : ¬ ((0 : Int32) < (0 : Int32)))).1 ?_
   refine c6 X1 f d aN1 rfl rfl ?_
   obtain ⟨_, T3, Lc3, X3, hQ3, st3⟩ := al9 X1 f d r Y e1 O (aD8 w) (aD9 w) (aE0 w) (aE1 w) (u9 w) (aE2 w) E_oa (aV1 l Z a0 w [] oa w_oa xn h0 n0 Z0 B_oa) L_1 aN2 [] [] 0 0 0 (lenOf v7 rfl)
   obtain ⟨rfl, Nq3, e3⟩ := hQ3
   have N3 := Fr.app N0 Nq3
   refine c8 st3 ?_
   show c5 p e U m T3 19 L_1 [.int 0]
   exact r8 X3 f R (hb d aN3) (by rw [e3]; exact ⟨by rw [u0_oa]; rfl, N3, rfl⟩) (by decide) (by decide)
 · skip
   show c5 p e U m s₁ 0 L_1 []
   refine f4 X0 f d ak9 rfl ?_
   refine o2 (pc := 1) (pc' := 6) X0 f d al0 ((if0 _ _).trans (flt (by decide : ¬ ((0 : Int32) < (0 : Int32)))).2.1) ?_
   refine f4 X0 f d al1 rfl ?_
   refine c6 X0 f d al2 rfl rfl ?_
   refine d3 X0 f d Y e0 O (u5 w) Fm_oa al3 (fun T4 X4 e4 => ?_)
   refine m7 X4 f d Y e4 At_oa aj5 ?_
   refine j5 (pc := 12) (pc' := 20) X4 f d aj6 (tlt (by decide : (0 : Int32) < (1 : Int32))).1 ?_
   refine c6 X4 f d aN4 rfl rfl ?_
   refine d3 X4 f d Y e4 O (u5 w) Fm_oa aN5 (fun T6 X6 e6 => ?_)
   refine c6 X6 f d aN6 rfl rfl ?_
   refine d3 X6 f d Y e6 O (u5 w) Fm_oa aN7 (fun T7 X7 e7 => ?_)
   refine m7 X7 f d Y e7 At_oa aN8 ?_
   refine f4 X7 f d aN9 rfl ?_
   refine x7 X7 f d aO0 ?_
   show c5 p e U m T7 31 L_1 [.int 1, .ref t_oa]
   refine f6 X7 f d aO1 (z := (1 : Int32)) rfl ?_
   refine x7 X7 f d aO2 ?_
   show c5 p e U m T7 33 L_1 [.int 0, .ref t_oa]
   refine n3 X7 f d Y e7 At_oa ⟨by decide, by decide⟩ rfl aO3 ?_
   let L_2 : Array Slot := #[oR oa,oI 0,(oI (r9 xn))]
   refine p8 X7 f d aO4 (l' := L_2) rfl ?_
   refine c6 X7 f d aO5 rfl rfl ?_
   refine d3 X7 f d Y e7 O (B7 w) Fs_oa aO6 (fun T10 X10 e10 => ?_)
   refine m8 X10 f d aO7 ((if0 _ _).trans (flt (by decide : ¬ ((1 : Int32) < (0 : Int32)))).1) ?_
   refine f4 X10 f d aO8 rfl ?_
   refine m5 (pc := 43) (pc' := 62) X10 f d aO9 ?_
   show c5 p e U m T10 62 L_2 [(.int (r9 xn))]
   exact r8 X10 f R (hb d aP0) (by rw [e10]; exact ⟨rfl, N0, rfl⟩) (by decide) (by decide)
 · skip
   show c5 p e U m s₁ 0 L_1 []
   refine f4 X0 f d ak9 rfl ?_
   refine o2 (pc := 1) (pc' := 6) X0 f d al0 ((if0 _ _).trans (flt (by decide : ¬ ((0 : Int32) < (0 : Int32)))).2.1) ?_
   refine f4 X0 f d al1 rfl ?_
   refine c6 X0 f d al2 rfl rfl ?_
   refine d3 X0 f d Y e0 O (u5 w) Fm_oa al3 (fun T11 X11 e11 => ?_)
   refine m7 X11 f d Y e11 At_oa aj5 ?_
   refine j5 (pc := 12) (pc' := 20) X11 f d aj6 (tlt (by decide : (0 : Int32) < (2 : Int32))).1 ?_
   refine c6 X11 f d aN4 rfl rfl ?_
   refine d3 X11 f d Y e11 O (u5 w) Fm_oa aN5 (fun T13 X13 e13 => ?_)
   refine c6 X13 f d aN6 rfl rfl ?_
   refine d3 X13 f d Y e13 O (u5 w) Fm_oa aN7 (fun T14 X14 e14 => ?_)
   refine m7 X14 f d Y e14 At_oa aN8 ?_
   refine f4 X14 f d aN9 rfl ?_
   refine x7 X14 f d aO0 ?_
   show c5 p e U m T14 31 L_1 [.int 2, .ref t_oa]
   refine f6 X14 f d aO1 (z := (1 : Int32)) rfl ?_
   refine x7 X14 f d aO2 ?_
   show c5 p e U m T14 33 L_1 [.int 1, .ref t_oa]
   refine n3 X14 f d Y e14 At_oa ⟨by decide, by decide⟩ rfl aO3 ?_
   let L_3 : Array Slot := #[oR oa,oI 0,(oI (r9 xn))]
   refine p8 X14 f d aO4 (l' := L_3) rfl ?_
   refine c6 X14 f d aO5 rfl rfl ?_
   refine d3 X14 f d Y e14 O (B7 w) Fs_oa aO6 (fun T17 X17 e17 => ?_)
   refine m8 X17 f d aO7 ((if0 _ _).trans (flt (by decide : ¬ ((1 : Int32) < (0 : Int32)))).1) ?_
   refine f4 X17 f d aO8 rfl ?_
   refine m5 (pc := 43) (pc' := 62) X17 f d aO9 ?_
   show c5 p e U m T17 62 L_3 [(.int (r9 xn))]
   exact r8 X17 f R (hb d aP0) (by rw [e17]; exact ⟨rfl, N0, rfl⟩) (by decide) (by decide)
theorem cQ2 (l : Launch) (Z : State) (a0 : Array Value) (w : j9 Z a0) (ws : List Jvm.Cond) (oa : Addr) (w_oa : Nat) (xn : Int64) (h0 : Heap) (n0 : Nat) (Z0 : n0 ≤ h0.size) (B_oa : own_BI Z h0 oa xn w_oa) :
 l0 l Z h0 MN4 s3 3 (some .int) ws (Jvm.Room.mk 1 0 0 16) #[.ref oa, .int 1] (r4 (p5 xn) h0 n0) := by
 refine l7 (Ls := #[.val (.ref oa), .val (.int 1), .unset]) (plainFor_of_name S3) (fun p e s m U meth c s₁ Y hh f d r O hnm hlk R X0 e0 => ?_)
 replace O : s.vm.findClass "java/math/BigInteger" = some m.cls := O
 have N0 := Fr.nil n0
 let L_1 : Array Slot := #[oR oa,oI 1,oU]
 show c5 p e U m s₁ 0 L_1 []
 obtain ⟨l_oa, E_oa, t_oa, k_oa, lt_oa, Fm_oa, O_oa⟩ := id B_oa
 rcases O_oa with ⟨u0_oa, Fs_oa, At_oa⟩ | ⟨u1_oa, u2_oa, Fs_oa, At_oa⟩ | ⟨u1_oa, u2_oa, Fs_oa, At_oa⟩
 · skip
   show c5 p e U m s₁ 0 L_1 []
   refine f4 X0 f d ak9 rfl ?_
   refine o2 (pc := 1) (pc' := 6) X0 f d al0 ((if0 _ _).trans (flt (by decide : ¬ ((1 : Int32) < (0 : Int32)))).2.1) ?_
   refine f4 X0 f d al1 rfl ?_
   refine c6 X0 f d al2 rfl rfl ?_
   refine d3 X0 f d Y e0 O (u5 w) Fm_oa al3 (fun T1 X1 e1 => ?_)
   refine m7 X1 f d Y e1 At_oa aj5 ?_
   refine m4 X1 f d aj6 (flt (by decide : ¬ ((1 : Int32) < (0 : Int32)))).1 ?_
   refine c6 X1 f d aN1 rfl rfl ?_
   obtain ⟨_, T3, Lc3, X3, hQ3, st3⟩ := al9 X1 f d r Y e1 O (aD8 w) (aD9 w) (aE0 w) (aE1 w) (u9 w) (aE2 w) E_oa (aV1 l Z a0 w [] oa w_oa xn h0 n0 Z0 B_oa) L_1 aN2 [] [] 0 0 0 (lenOf v7 rfl)
   obtain ⟨rfl, Nq3, e3⟩ := hQ3
   have N3 := Fr.app N0 Nq3
   refine c8 st3 ?_
   show c5 p e U m T3 19 L_1 [.int 0]
   exact r8 X3 f R (hb d aN3) (by rw [e3]; exact ⟨by rw [u0_oa]; rfl, N3, rfl⟩) (by decide) (by decide)
 · skip
   show c5 p e U m s₁ 0 L_1 []
   refine f4 X0 f d ak9 rfl ?_
   refine o2 (pc := 1) (pc' := 6) X0 f d al0 ((if0 _ _).trans (flt (by decide : ¬ ((1 : Int32) < (0 : Int32)))).2.1) ?_
   refine f4 X0 f d al1 rfl ?_
   refine c6 X0 f d al2 rfl rfl ?_
   refine d3 X0 f d Y e0 O (u5 w) Fm_oa al3 (fun T4 X4 e4 => ?_)
   refine m7 X4 f d Y e4 At_oa aj5 ?_
   refine m4 X4 f d aj6 (flt (by decide : ¬ ((1 : Int32) < (1 : Int32)))).1 ?_
   refine c6 X4 f d aN1 rfl rfl ?_
   obtain ⟨_, T6, Lc6, X6, hQ6, st6⟩ := al9 X4 f d r Y e4 O (aD8 w) (aD9 w) (aE0 w) (aE1 w) (u9 w) (aE2 w) E_oa (aV1 l Z a0 w [] oa w_oa xn h0 n0 Z0 B_oa) L_1 aN2 [] [] 0 0 0 (lenOf v7 rfl)
   obtain ⟨rfl, Nq6, e6⟩ := hQ6
   have N6 := Fr.app N0 Nq6
   refine c8 st6 ?_
   show c5 p e U m T6 19 L_1 [.int 0]
   exact r8 X6 f R (hb d aN3) (by rw [e6]; exact ⟨by rw [u2_oa], N6, rfl⟩) (by decide) (by decide)
 · skip
   show c5 p e U m s₁ 0 L_1 []
   refine f4 X0 f d ak9 rfl ?_
   refine o2 (pc := 1) (pc' := 6) X0 f d al0 ((if0 _ _).trans (flt (by decide : ¬ ((1 : Int32) < (0 : Int32)))).2.1) ?_
   refine f4 X0 f d al1 rfl ?_
   refine c6 X0 f d al2 rfl rfl ?_
   refine d3 X0 f d Y e0 O (u5 w) Fm_oa al3 (fun T7 X7 e7 => ?_)
   refine m7 X7 f d Y e7 At_oa aj5 ?_
   refine j5 (pc := 12) (pc' := 20) X7 f d aj6 (tlt (by decide : (1 : Int32) < (2 : Int32))).1 ?_
   refine c6 X7 f d aN4 rfl rfl ?_
   refine d3 X7 f d Y e7 O (u5 w) Fm_oa aN5 (fun T9 X9 e9 => ?_)
   refine c6 X9 f d aN6 rfl rfl ?_
   refine d3 X9 f d Y e9 O (u5 w) Fm_oa aN7 (fun T10 X10 e10 => ?_)
   refine m7 X10 f d Y e10 At_oa aN8 ?_
   refine f4 X10 f d aN9 rfl ?_
   refine x7 X10 f d aO0 ?_
   show c5 p e U m T10 31 L_1 [.int 1, .ref t_oa]
   refine f6 X10 f d aO1 (z := (1 : Int32)) rfl ?_
   refine x7 X10 f d aO2 ?_
   show c5 p e U m T10 33 L_1 [.int 0, .ref t_oa]
   refine n3 X10 f d Y e10 At_oa ⟨by decide, by decide⟩ rfl aO3 ?_
   let L_2 : Array Slot := #[oR oa,oI 1,(oI (p5 xn))]
   refine p8 X10 f d aO4 (l' := L_2) rfl ?_
   refine c6 X10 f d aO5 rfl rfl ?_
   refine d3 X10 f d Y e10 O (B7 w) Fs_oa aO6 (fun T13 X13 e13 => ?_)
   refine m8 X13 f d aO7 ((if0 _ _).trans (flt (by decide : ¬ ((1 : Int32) < (0 : Int32)))).1) ?_
   refine f4 X13 f d aO8 rfl ?_
   refine m5 (pc := 43) (pc' := 62) X13 f d aO9 ?_
   show c5 p e U m T13 62 L_2 [(.int (p5 xn))]
   exact r8 X13 f R (hb d aP0) (by rw [e13]; exact ⟨rfl, N0, rfl⟩) (by decide) (by decide)
theorem aV2:c4 o5 0 (.aload_n 1) 1:=by decide +kernel
theorem aV3:c4 o5 1 (.aload_n 0) 1:=by decide +kernel
theorem al4:c4 o5 2 (.if_acmp .ne 5) 3:=by decide +kernel
theorem aV4:c4 o5 5 (.iconst 1) 1:=by decide +kernel
theorem aV5:c4 o5 6 .ireturn 1:=by decide +kernel
theorem aV6:c4 o5 7 (.aload_n 1) 1:=by decide +kernel
theorem aV7:c4 o5 8 (.instanceof 23) 3:=by decide +kernel
theorem aP1:c4 o5 11 (.ifCond .eq 11) 3:=by decide +kernel
theorem aP2:c4 o5 14 (.aload_n 1) 1:=by decide +kernel
theorem aP3:c4 o5 15 (.checkcast 23) 3:=by decide +kernel
theorem aP4:c4 o5 18 (.astore_n 2) 1:=by decide +kernel
theorem aP5:c4 o5 19 (.goto 5) 3:=by decide +kernel
theorem aP6:c4 o5 24 (.aload_n 2) 1:=by decide +kernel
theorem aP7:c4 o5 25 (.getfield 32) 3:=by decide +kernel
theorem aP8:c4 o5 28 (.aload_n 0) 1:=by decide +kernel
theorem aP9:c4 o5 29 (.getfield 32) 3:=by decide +kernel
theorem aQ0:c4 o5 32 (.if_icmp .eq 5) 3:=by decide +kernel
theorem aQ1:c4 o5 37 (.aload_n 0) 1:=by decide +kernel
theorem aQ2:c4 o5 38 (.getfield 28) 3:=by decide +kernel
theorem aQ3:c4 o5 41 (.astore_n 3) 1:=by decide +kernel
theorem aQ4:c4 o5 42 (.aload_n 3) 1:=by decide +kernel
theorem aQ5:c4 o5 43 .arraylength 1:=by decide +kernel
theorem aQ6:c4 o5 44 (.istore 4) 2:=by decide +kernel
theorem aQ7:c4 o5 46 (.aload_n 2) 1:=by decide +kernel
theorem aQ8:c4 o5 47 (.getfield 28) 3:=by decide +kernel
theorem aQ9:c4 o5 50 (.astore 5) 2:=by decide +kernel
theorem aR0:c4 o5 52 (.iload 4) 2:=by decide +kernel
theorem aR1:c4 o5 54 (.aload 5) 2:=by decide +kernel
theorem aR2:c4 o5 56 .arraylength 1:=by decide +kernel
theorem aR3:c4 o5 57 (.if_icmp .eq 5) 3:=by decide +kernel
theorem aR4:c4 o5 62 (.iconst 0) 1:=by decide +kernel
theorem aR5:c4 o5 63 (.istore 6) 2:=by decide +kernel
theorem aj7:c4 o5 65 (.iload 6) 2:=by decide +kernel
theorem aj8:c4 o5 67 (.iload 4) 2:=by decide +kernel
theorem aj9:c4 o5 69 (.if_icmp .ge 23) 3:=by decide +kernel
theorem aR6:c4 o5 72 (.aload 5) 2:=by decide +kernel
theorem aR7:c4 o5 74 (.iload 6) 2:=by decide +kernel
theorem aR8:c4 o5 76 .iaload 1:=by decide +kernel
theorem aR9:c4 o5 77 (.aload_n 3) 1:=by decide +kernel
theorem aS0:c4 o5 78 (.iload 6) 2:=by decide +kernel
theorem aS1:c4 o5 80 .iaload 1:=by decide +kernel
theorem aS2:c4 o5 81 (.if_icmp .eq 5) 3:=by decide +kernel
theorem aS3:c4 o5 86 (.iinc 6 1) 3:=by decide +kernel
theorem aS4:c4 o5 89 (.goto (-24)) 3:=by decide +kernel
theorem aS5:c4 o5 92 (.iconst 1) 1:=by decide +kernel
theorem aS6:c4 o5 93 .ireturn 1:=by decide +kernel
theorem cb7 (l : Launch) (Z : State) (a0 : Array Value) (w : j9 Z a0) (ws : List Jvm.Cond) (oa : Addr) (w_oa : Nat) (ob : Addr) (w_ob : Nat) (xn : Int64) (h0 : Heap) (n0 : Nat) (Z0 : n0 ≤ h0.size) (B_oa : own_BI Z h0 oa xn w_oa) (B_ob : own_BI Z h0 ob xn w_ob) :
 l0 l Z h0 MN5 o5 7 (some .boolean) ws (Jvm.Room.mk 0 0 0 0) #[.ref oa, .ref ob] (r4 (1 : Int32) h0 n0) := by
 refine l7 (Ls := #[.val (.ref oa), .val (.ref ob), .unset, .unset, .unset, .unset, .unset]) (plainFor_of_name S3) (fun p e s m U meth c s₁ Y hh f d r O hnm hlk R X0 e0 => ?_)
 replace O : s.vm.findClass "java/math/BigInteger" = some m.cls := O
 have N0 := Fr.nil n0
 let L_1 : Array Slot := #[oR oa,oR ob,oU,oU,oU,oU,oU]
 show c5 p e U m s₁ 0 L_1 []
 obtain ⟨l_oa, E_oa, t_oa, k_oa, lt_oa, Fm_oa, O_oa⟩ := id B_oa
 obtain ⟨l_ob, E_ob, t_ob, k_ob, lt_ob, Fm_ob, O_ob⟩ := id B_ob
 rcases O_oa with ⟨u0_oa, Fs_oa, At_oa⟩ | ⟨u1_oa, u2_oa, Fs_oa, At_oa⟩ | ⟨u1_oa, u2_oa, Fs_oa, At_oa⟩
 · obtain ⟨u0_ob, Fs_ob, At_ob⟩ : ag0 Z h0 ob t_ob k_ob xn := by rcases O_ob with q | q | q; exact q; exact absurd (u0_oa ▸ q.1) (by decide); exact absurd (u0_oa ▸ q.1) (by decide)
   show c5 p e U m s₁ 0 L_1 []
   refine c6 X0 f d aV2 rfl rfl ?_
   refine c6 X0 f d aV3 rfl rfl ?_
   show c5 p e U m s₁ 2 L_1 [.ref oa, .ref ob]
   by_cases ha2 : ((.ref ob) : Value) = (.ref oa)
   · refine c8 (fun t k => Jvm.RoadKit.acmp (g := (mkF m 2 L_1 [.ref oa, .ref ob])) X0 f rfl rfl rfl (pc0 := 2) (pc' := 5) (same := true) rfl (hb d al4) rfl (decide_eq_true ha2) (by decide) (by decide) k) ?_
     show c5 p e U m s₁ 5 L_1 []
     refine f6 X0 f d aV4 (z := (1 : Int32)) rfl ?_
     show c5 p e U m s₁ 6 L_1 [.int 1]
     exact t4 X0 f (t := .boolean) R (by simp) (hb d aV5) (by rw [e0]; exact ⟨rfl, N0, rfl⟩) (by decide) (by decide)
   · refine c8 (fun t k => Jvm.RoadKit.acmp (g := (mkF m 2 L_1 [.ref oa, .ref ob])) X0 f rfl rfl rfl (pc0 := 2) (pc' := 7) (same := false) rfl (hb d al4) rfl (decide_eq_false ha2) (by decide) (by decide) k) ?_
     show c5 p e U m s₁ 7 L_1 []
     refine c6 X0 f d aV6 rfl rfl ?_
     obtain ⟨T1, X1, e1, st1⟩ := instY X0 f Y O (T0 w) e0 (Ins.self E_ob) (g := (mkF m 8 L_1 [.ref ob])) rfl rfl (hb d aV7)
     refine c8 st1 ?_
     show c5 p e U m T1 11 L_1 [.int 1]
     refine m8 X1 f d aP1 ((if0 _ _).trans (feq (by decide : ¬ ((1 : Int32) = (0 : Int32)))).1) ?_
     refine c6 X1 f d aP2 rfl rfl ?_
     obtain ⟨T2, X2, e2, st2⟩ := castY X1 f Y O (T0 w) e1 (Ins.self E_ob) (g := (mkF m 15 L_1 [.ref ob])) rfl rfl (hb d aP3)
     refine c8 st2 ?_
     show c5 p e U m T2 18 L_1 [.ref ob]
     let L_2 : Array Slot := #[oR oa,oR ob,oR ob,oU,oU,oU,oU]
     refine w9 X2 f d aP4 rfl (l' := L_2) rfl ?_
     refine m5 (pc := 19) (pc' := 24) X2 f d aP5 ?_
     refine c6 X2 f d aP6 rfl rfl ?_
     refine d3 X2 f d Y e2 O (B7 w) Fs_ob aP7 (fun T3 X3 e3 => ?_)
     refine c6 X3 f d aP8 rfl rfl ?_
     refine d3 X3 f d Y e3 O (B7 w) Fs_oa aP9 (fun T4 X4 e4 => ?_)
     refine j5 (pc := 32) (pc' := 37) X4 f d aQ0 (teq (by decide : (0 : Int32) = (0 : Int32))).1 ?_
     refine c6 X4 f d aQ1 rfl rfl ?_
     refine d3 X4 f d Y e4 O (u5 w) Fm_oa aQ2 (fun T5 X5 e5 => ?_)
     let L_3 : Array Slot := #[oR oa,oR ob,oR ob,oR t_oa,oU,oU,oU]
     refine w9 X5 f d aQ3 rfl (l' := L_3) rfl ?_
     refine c6 X5 f d aQ4 rfl rfl ?_
     refine m7 X5 f d Y e5 At_oa aQ5 ?_
     let L_4 : Array Slot := #[oR oa,oR ob,oR ob,oR t_oa,oI 0,oU,oU]
     refine o4 X5 f d aQ6 (l' := L_4) rfl ?_
     refine c6 X5 f d aQ7 rfl rfl ?_
     refine d3 X5 f d Y e5 O (u5 w) Fm_ob aQ8 (fun T7 X7 e7 => ?_)
     let L_5 : Array Slot := #[oR oa,oR ob,oR ob,oR t_oa,oI 0,oR t_ob,oU]
     refine t5 X7 f d aQ9 rfl (l' := L_5) rfl ?_
     refine f5 X7 f d aR0 rfl ?_
     refine j0 X7 f d aR1 rfl rfl ?_
     refine m7 X7 f d Y e7 At_ob aR2 ?_
     refine j5 (pc := 57) (pc' := 62) X7 f d aR3 (teq (by decide : (0 : Int32) = (0 : Int32))).1 ?_
     refine f6 X7 f d aR4 (z := (0 : Int32)) rfl ?_
     let L_6 : Array Slot := #[oR oa,oR ob,oR ob,oR t_oa,oI 0,oR t_ob,oI 0]
     refine o4 X7 f d aR5 (l' := L_6) rfl ?_
     refine f5 X7 f d aj7 rfl ?_
     refine f5 X7 f d aj8 rfl ?_
     refine j5 (pc := 69) (pc' := 92) X7 f d aj9 (flt (by decide : ¬ ((0 : Int32) < (0 : Int32)))).2.1 ?_
     refine f6 X7 f d aS5 (z := (1 : Int32)) rfl ?_
     show c5 p e U m T7 93 L_6 [.int 1]
     exact t4 X7 f (t := .boolean) R (by simp) (hb d aS6) (by rw [e7]; exact ⟨rfl, N0, rfl⟩) (by decide) (by decide)
 · obtain ⟨u1_ob, u2_ob, Fs_ob, At_ob⟩ : ag1 Z h0 ob t_ob k_ob xn := by rcases O_ob with q | q | q; exact absurd (q.1 ▸ u1_oa) (by decide); exact q; exact absurd u2_oa q.2.1
   show c5 p e U m s₁ 0 L_1 []
   refine c6 X0 f d aV2 rfl rfl ?_
   refine c6 X0 f d aV3 rfl rfl ?_
   show c5 p e U m s₁ 2 L_1 [.ref oa, .ref ob]
   by_cases ha2 : ((.ref ob) : Value) = (.ref oa)
   · refine c8 (fun t k => Jvm.RoadKit.acmp (g := (mkF m 2 L_1 [.ref oa, .ref ob])) X0 f rfl rfl rfl (pc0 := 2) (pc' := 5) (same := true) rfl (hb d al4) rfl (decide_eq_true ha2) (by decide) (by decide) k) ?_
     show c5 p e U m s₁ 5 L_1 []
     refine f6 X0 f d aV4 (z := (1 : Int32)) rfl ?_
     show c5 p e U m s₁ 6 L_1 [.int 1]
     exact t4 X0 f (t := .boolean) R (by simp) (hb d aV5) (by rw [e0]; exact ⟨rfl, N0, rfl⟩) (by decide) (by decide)
   · refine c8 (fun t k => Jvm.RoadKit.acmp (g := (mkF m 2 L_1 [.ref oa, .ref ob])) X0 f rfl rfl rfl (pc0 := 2) (pc' := 7) (same := false) rfl (hb d al4) rfl (decide_eq_false ha2) (by decide) (by decide) k) ?_
     show c5 p e U m s₁ 7 L_1 []
     refine c6 X0 f d aV6 rfl rfl ?_
     obtain ⟨T9, X9, e9, st9⟩ := instY X0 f Y O (T0 w) e0 (Ins.self E_ob) (g := (mkF m 8 L_1 [.ref ob])) rfl rfl (hb d aV7)
     refine c8 st9 ?_
     show c5 p e U m T9 11 L_1 [.int 1]
     refine m8 X9 f d aP1 ((if0 _ _).trans (feq (by decide : ¬ ((1 : Int32) = (0 : Int32)))).1) ?_
     refine c6 X9 f d aP2 rfl rfl ?_
     obtain ⟨T10, X10, e10, st10⟩ := castY X9 f Y O (T0 w) e9 (Ins.self E_ob) (g := (mkF m 15 L_1 [.ref ob])) rfl rfl (hb d aP3)
     refine c8 st10 ?_
     show c5 p e U m T10 18 L_1 [.ref ob]
     let L_7 : Array Slot := #[oR oa,oR ob,oR ob,oU,oU,oU,oU]
     refine w9 X10 f d aP4 rfl (l' := L_7) rfl ?_
     refine m5 (pc := 19) (pc' := 24) X10 f d aP5 ?_
     refine c6 X10 f d aP6 rfl rfl ?_
     refine d3 X10 f d Y e10 O (B7 w) Fs_ob aP7 (fun T11 X11 e11 => ?_)
     refine c6 X11 f d aP8 rfl rfl ?_
     refine d3 X11 f d Y e11 O (B7 w) Fs_oa aP9 (fun T12 X12 e12 => ?_)
     refine j5 (pc := 32) (pc' := 37) X12 f d aQ0 (teq (by decide : (1 : Int32) = (1 : Int32))).1 ?_
     refine c6 X12 f d aQ1 rfl rfl ?_
     refine d3 X12 f d Y e12 O (u5 w) Fm_oa aQ2 (fun T13 X13 e13 => ?_)
     let L_8 : Array Slot := #[oR oa,oR ob,oR ob,oR t_oa,oU,oU,oU]
     refine w9 X13 f d aQ3 rfl (l' := L_8) rfl ?_
     refine c6 X13 f d aQ4 rfl rfl ?_
     refine m7 X13 f d Y e13 At_oa aQ5 ?_
     let L_9 : Array Slot := #[oR oa,oR ob,oR ob,oR t_oa,oI 1,oU,oU]
     refine o4 X13 f d aQ6 (l' := L_9) rfl ?_
     refine c6 X13 f d aQ7 rfl rfl ?_
     refine d3 X13 f d Y e13 O (u5 w) Fm_ob aQ8 (fun T15 X15 e15 => ?_)
     let L_10 : Array Slot := #[oR oa,oR ob,oR ob,oR t_oa,oI 1,oR t_ob,oU]
     refine t5 X15 f d aQ9 rfl (l' := L_10) rfl ?_
     refine f5 X15 f d aR0 rfl ?_
     refine j0 X15 f d aR1 rfl rfl ?_
     refine m7 X15 f d Y e15 At_ob aR2 ?_
     refine j5 (pc := 57) (pc' := 62) X15 f d aR3 (teq (by decide : (1 : Int32) = (1 : Int32))).1 ?_
     refine f6 X15 f d aR4 (z := (0 : Int32)) rfl ?_
     let L_11 : Array Slot := #[oR oa,oR ob,oR ob,oR t_oa,oI 1,oR t_ob,oI 0]
     refine o4 X15 f d aR5 (l' := L_11) rfl ?_
     refine f5 X15 f d aj7 rfl ?_
     refine f5 X15 f d aj8 rfl ?_
     refine m4 X15 f d aj9 (tlt (by decide : (0 : Int32) < (1 : Int32))).2.1 ?_
     refine j0 X15 f d aR6 rfl rfl ?_
     refine f5 X15 f d aR7 rfl ?_
     refine n3 X15 f d Y e15 At_ob ⟨by decide, by decide⟩ rfl aR8 ?_
     refine c6 X15 f d aR9 rfl rfl ?_
     refine f5 X15 f d aS0 rfl ?_
     refine n3 X15 f d Y e15 At_oa ⟨by decide, by decide⟩ rfl aS1 ?_
     refine j5 (pc := 81) (pc' := 86) X15 f d aS2 (teq (rfl : (r9 xn) = (r9 xn))).1 ?_
     show c5 p e U m T15 86 L_11 []
     let L_12 : Array Slot := #[oR oa,oR ob,oR ob,oR t_oa,oI 1,oR t_ob,oI 1]
     refine c8 (fun t k => XS.iinc X15.here f rfl (hb d aS3) rfl (l' := L_12) rfl k) ?_
     show c5 p e U m T15 89 L_12 []
     refine m5 (pc := 89) (pc' := 65) X15 f d aS4 ?_
     refine f5 X15 f d aj7 rfl ?_
     refine f5 X15 f d aj8 rfl ?_
     refine j5 (pc := 69) (pc' := 92) X15 f d aj9 (flt (by decide : ¬ ((1 : Int32) < (1 : Int32)))).2.1 ?_
     refine f6 X15 f d aS5 (z := (1 : Int32)) rfl ?_
     show c5 p e U m T15 93 L_12 [.int 1]
     exact t4 X15 f (t := .boolean) R (by simp) (hb d aS6) (by rw [e15]; exact ⟨rfl, N0, rfl⟩) (by decide) (by decide)
 · obtain ⟨u1_ob, u2_ob, Fs_ob, At_ob⟩ : ag2 Z h0 ob t_ob k_ob xn := by rcases O_ob with q | q | q; exact absurd (q.1 ▸ u1_oa) (by decide); exact absurd q.2.1 u2_oa; exact q
   show c5 p e U m s₁ 0 L_1 []
   refine c6 X0 f d aV2 rfl rfl ?_
   refine c6 X0 f d aV3 rfl rfl ?_
   show c5 p e U m s₁ 2 L_1 [.ref oa, .ref ob]
   by_cases ha2 : ((.ref ob) : Value) = (.ref oa)
   · refine c8 (fun t k => Jvm.RoadKit.acmp (g := (mkF m 2 L_1 [.ref oa, .ref ob])) X0 f rfl rfl rfl (pc0 := 2) (pc' := 5) (same := true) rfl (hb d al4) rfl (decide_eq_true ha2) (by decide) (by decide) k) ?_
     show c5 p e U m s₁ 5 L_1 []
     refine f6 X0 f d aV4 (z := (1 : Int32)) rfl ?_
     show c5 p e U m s₁ 6 L_1 [.int 1]
     exact t4 X0 f (t := .boolean) R (by simp) (hb d aV5) (by rw [e0]; exact ⟨rfl, N0, rfl⟩) (by decide) (by decide)
   · refine c8 (fun t k => Jvm.RoadKit.acmp (g := (mkF m 2 L_1 [.ref oa, .ref ob])) X0 f rfl rfl rfl (pc0 := 2) (pc' := 7) (same := false) rfl (hb d al4) rfl (decide_eq_false ha2) (by decide) (by decide) k) ?_
     show c5 p e U m s₁ 7 L_1 []
     refine c6 X0 f d aV6 rfl rfl ?_
     obtain ⟨T19, X19, e19, st19⟩ := instY X0 f Y O (T0 w) e0 (Ins.self E_ob) (g := (mkF m 8 L_1 [.ref ob])) rfl rfl (hb d aV7)
     refine c8 st19 ?_
     show c5 p e U m T19 11 L_1 [.int 1]
     refine m8 X19 f d aP1 ((if0 _ _).trans (feq (by decide : ¬ ((1 : Int32) = (0 : Int32)))).1) ?_
     refine c6 X19 f d aP2 rfl rfl ?_
     obtain ⟨T20, X20, e20, st20⟩ := castY X19 f Y O (T0 w) e19 (Ins.self E_ob) (g := (mkF m 15 L_1 [.ref ob])) rfl rfl (hb d aP3)
     refine c8 st20 ?_
     show c5 p e U m T20 18 L_1 [.ref ob]
     let L_13 : Array Slot := #[oR oa,oR ob,oR ob,oU,oU,oU,oU]
     refine w9 X20 f d aP4 rfl (l' := L_13) rfl ?_
     refine m5 (pc := 19) (pc' := 24) X20 f d aP5 ?_
     refine c6 X20 f d aP6 rfl rfl ?_
     refine d3 X20 f d Y e20 O (B7 w) Fs_ob aP7 (fun T21 X21 e21 => ?_)
     refine c6 X21 f d aP8 rfl rfl ?_
     refine d3 X21 f d Y e21 O (B7 w) Fs_oa aP9 (fun T22 X22 e22 => ?_)
     refine j5 (pc := 32) (pc' := 37) X22 f d aQ0 (teq (by decide : (1 : Int32) = (1 : Int32))).1 ?_
     refine c6 X22 f d aQ1 rfl rfl ?_
     refine d3 X22 f d Y e22 O (u5 w) Fm_oa aQ2 (fun T23 X23 e23 => ?_)
     let L_14 : Array Slot := #[oR oa,oR ob,oR ob,oR t_oa,oU,oU,oU]
     refine w9 X23 f d aQ3 rfl (l' := L_14) rfl ?_
     refine c6 X23 f d aQ4 rfl rfl ?_
     refine m7 X23 f d Y e23 At_oa aQ5 ?_
     let L_15 : Array Slot := #[oR oa,oR ob,oR ob,oR t_oa,oI 2,oU,oU]
     refine o4 X23 f d aQ6 (l' := L_15) rfl ?_
     refine c6 X23 f d aQ7 rfl rfl ?_
     refine d3 X23 f d Y e23 O (u5 w) Fm_ob aQ8 (fun T25 X25 e25 => ?_)
     let L_16 : Array Slot := #[oR oa,oR ob,oR ob,oR t_oa,oI 2,oR t_ob,oU]
     refine t5 X25 f d aQ9 rfl (l' := L_16) rfl ?_
     refine f5 X25 f d aR0 rfl ?_
     refine j0 X25 f d aR1 rfl rfl ?_
     refine m7 X25 f d Y e25 At_ob aR2 ?_
     refine j5 (pc := 57) (pc' := 62) X25 f d aR3 (teq (by decide : (2 : Int32) = (2 : Int32))).1 ?_
     refine f6 X25 f d aR4 (z := (0 : Int32)) rfl ?_
     let L_17 : Array Slot := #[oR oa,oR ob,oR ob,oR t_oa,oI 2,oR t_ob,oI 0]
     refine o4 X25 f d aR5 (l' := L_17) rfl ?_
     refine f5 X25 f d aj7 rfl ?_
     refine f5 X25 f d aj8 rfl ?_
     refine m4 X25 f d aj9 (tlt (by decide : (0 : Int32) < (2 : Int32))).2.1 ?_
     refine j0 X25 f d aR6 rfl rfl ?_
     refine f5 X25 f d aR7 rfl ?_
     refine n3 X25 f d Y e25 At_ob ⟨by decide, by decide⟩ rfl aR8 ?_
     refine c6 X25 f d aR9 rfl rfl ?_
     refine f5 X25 f d aS0 rfl ?_
     refine n3 X25 f d Y e25 At_oa ⟨by decide, by decide⟩ rfl aS1 ?_
     refine j5 (pc := 81) (pc' := 86) X25 f d aS2 (teq (rfl : (p5 xn) = (p5 xn))).1 ?_
     show c5 p e U m T25 86 L_17 []
     let L_18 : Array Slot := #[oR oa,oR ob,oR ob,oR t_oa,oI 2,oR t_ob,oI 1]
     refine c8 (fun t k => XS.iinc X25.here f rfl (hb d aS3) rfl (l' := L_18) rfl k) ?_
     show c5 p e U m T25 89 L_18 []
     refine m5 (pc := 89) (pc' := 65) X25 f d aS4 ?_
     refine f5 X25 f d aj7 rfl ?_
     refine f5 X25 f d aj8 rfl ?_
     refine m4 X25 f d aj9 (tlt (by decide : (1 : Int32) < (2 : Int32))).2.1 ?_
     refine j0 X25 f d aR6 rfl rfl ?_
     refine f5 X25 f d aR7 rfl ?_
     refine n3 X25 f d Y e25 At_ob ⟨by decide, by decide⟩ rfl aR8 ?_
     refine c6 X25 f d aR9 rfl rfl ?_
     refine f5 X25 f d aS0 rfl ?_
     refine n3 X25 f d Y e25 At_oa ⟨by decide, by decide⟩ rfl aS1 ?_
     refine j5 (pc := 81) (pc' := 86) X25 f d aS2 (teq (rfl : (r9 xn) = (r9 xn))).1 ?_
     show c5 p e U m T25 86 L_18 []
     let L_19 : Array Slot := #[oR oa,oR ob,oR ob,oR t_oa,oI 2,oR t_ob,oI 2]
     refine c8 (fun t k => XS.iinc X25.here f rfl (hb d aS3) rfl (l' := L_19) rfl k) ?_
     show c5 p e U m T25 89 L_19 []
     refine m5 (pc := 89) (pc' := 65) X25 f d aS4 ?_
     refine f5 X25 f d aj7 rfl ?_
     refine f5 X25 f d aj8 rfl ?_
     refine j5 (pc := 69) (pc' := 92) X25 f d aj9 (flt (by decide : ¬ ((2 : Int32) < (2 : Int32)))).2.1 ?_
     refine f6 X25 f d aS5 (z := (1 : Int32)) rfl ?_
     show c5 p e U m T25 93 L_19 [.int 1]
     exact t4 X25 f (t := .boolean) R (by simp) (hb d aS6) (by rw [e25]; exact ⟨rfl, N0, rfl⟩) (by decide) (by decide)
theorem cf0 {x : Int64} (hx : ¬ x < 0) : (((((0 : Int64) <<< ((32 : Int32) &&& 0x3f).toInt64) + ((p5 x).toInt64 &&& (4294967295 : Int64))) <<< ((32 : Int32) &&& 0x3f).toInt64) + ((r9 x).toInt64 &&& (4294967295 : Int64))) = x := by
 have h0 : 0 ≤ x.toInt := by
  rw [Int64.lt_iff_toInt_lt] at hx
  have a0 : (0 : Int64).toInt = 0 := by decide
  omega
 have h1 : x.toInt < 2 ^ 63 := Int64.toInt_lt x
 have z : (0 : Int64) <<< ((32 : Int32) &&& 0x3f).toInt64 = 0 := by decide
 rw [z, Int64.zero_add]
 have hs : ((x.toUInt64 >>> ((32 : Int32) &&& 0x3f).toInt64.toUInt64).toInt64).toInt = x.toInt / 2 ^ 32 := Jvm.Kit.i64_lushr (Jvm.Kit.i64_nonneg.mpr h0) (k := 32) (by decide) (by decide)
 have m1 : ((p5 x).toInt64 &&& (4294967295 : Int64)).toInt = x.toInt / 2 ^ 32 := by
  rw [Jvm.Kit.i64_mask _ _ (k := 32) (by decide) (by decide), Jvm.Kit.i64_of_i32]
  show (Int64.toInt32 _).toInt % 2 ^ 32 = _
  rw [Int64.toInt_toInt32, hs]
  have := Int.bmod_emod (x := x.toInt / 2 ^ 32) (m := 2 ^ 32)
  omega
 have m0 : ((r9 x).toInt64 &&& (4294967295 : Int64)).toInt = x.toInt % 2 ^ 32 := by
  rw [Jvm.Kit.i64_mask _ _ (k := 32) (by decide) (by decide), Jvm.Kit.i64_of_i32]
  show (Int64.toInt32 _).toInt % 2 ^ 32 = _
  rw [Int64.toInt_toInt32]
  have := Int.bmod_emod (x := x.toInt) (m := 2 ^ 32)
  omega
 generalize ((p5 x).toInt64 &&& (4294967295 : Int64)) = a at m1 ⊢
 generalize ((r9 x).toInt64 &&& (4294967295 : Int64)) = b at m0 ⊢
 have s1 : (a <<< ((32 : Int32) &&& 0x3f).toInt64).toInt = a.toInt * 2 ^ 32 := Jvm.Kit.i64_shl a _ (k := 32) (by decide) (by omega) (by omega)
 apply Int64.toInt_inj.mp
 rw [Jvm.Kit.i64_add (by rw [s1]; omega) (by rw [s1]; omega), s1]
 omega
theorem dj0:c4 v8 0 (.lconst 0) 1:=by decide +kernel
theorem dj1:c4 v8 1 (.lstore_n 1) 1:=by decide +kernel
theorem dj2:c4 v8 2 (.iconst 1) 1:=by decide +kernel
theorem dj3:c4 v8 3 (.istore_n 3) 1:=by decide +kernel
theorem aV8:c4 v8 4 (.iload_n 3) 1:=by decide +kernel
theorem aV9:c4 v8 5 (.ifCond .lt 25) 3:=by decide +kernel
theorem cb8:c4 v8 8 (.lload_n 1) 1:=by decide +kernel
theorem cb9:c4 v8 9 (.bipush 32) 2:=by decide +kernel
theorem bG9:c4 v8 11 .lshl 1:=by decide +kernel
theorem bH0:c4 v8 12 (.aload_n 0) 1:=by decide +kernel
theorem bH1:c4 v8 13 (.iload_n 3) 1:=by decide +kernel
theorem bH2:c4 v8 14 (.invokevirtual 736) 3:=by decide +kernel
theorem bH3:c4 v8 17 .i2l 1:=by decide +kernel
theorem bH4:c4 v8 18 (.ldc2_w 130) 3:=by decide +kernel
theorem bH5:c4 v8 21 .land 1:=by decide +kernel
theorem bH6:c4 v8 22 .ladd 1:=by decide +kernel
theorem bH7:c4 v8 23 (.lstore_n 1) 1:=by decide +kernel
theorem bH8:c4 v8 24 (.iinc 3 (-1)) 3:=by decide +kernel
theorem bH9:c4 v8 27 (.goto (-23)) 3:=by decide +kernel
theorem cQ3:c4 v8 30 (.lload_n 1) 1:=by decide +kernel
theorem cQ4:c4 v8 31 .lreturn 1:=by decide +kernel
theorem cc0 : parseMethodDescriptor "(I)I" = some ⟨[.int], some .int⟩ := by decide +kernel
theorem aB3 (l : Launch) (Z : State) (a0 : Array Value) (w : j9 Z a0) (ws : List Jvm.Cond) (oa : Addr) (w_oa : Nat) (xn : Int64) (h0 : Heap) (n0 : Nat) (Z0 : n0 ≤ h0.size) (B_oa : own_BI Z h0 oa xn w_oa) (hnn : ¬ xn < 0) :
 l0 l Z h0 MN6 v8 4 (some .long) ws (Jvm.Room.mk 2 0 0 32) #[.ref oa] (cq3 xn h0 n0) := by
 refine l7 (Ls := #[.val (.ref oa), .unset, .unset, .unset]) (plainFor_of_name S3) (fun p e s m U meth c s₁ Y hh f d r O hnm hlk R X0 e0 => ?_)
 replace O : s.vm.findClass "java/math/BigInteger" = some m.cls := O
 have N0 := Fr.nil n0
 let L_1 : Array Slot := #[oR oa,oU,oU,oU]
 show c5 p e U m s₁ 0 L_1 []
 refine c8 (fun t k => XS.lconst X0.here f rfl (hb d dj0) k) ?_
 show c5 p e U m s₁ 1 L_1 [(.long (0 : Int64))]
 let L_2 : Array Slot := #[oR oa,(oJ (0 : Int64)),.second,oU]
 refine aB9 X0 f d dj1 (l' := L_2) rfl ?_
 refine f6 X0 f d dj2 (z := (1 : Int32)) rfl ?_
 let L_3 : Array Slot := #[oR oa,(oJ (0 : Int64)),.second,oI 1]
 refine p8 X0 f d dj3 (l' := L_3) rfl ?_
 refine f4 X0 f d aV8 rfl ?_
 refine m8 X0 f d aV9 ((if0 _ _).trans (flt (by decide : ¬ ((1 : Int32) < (0 : Int32)))).1) ?_
 refine t8 X0 f d cb8 rfl ?_
 refine t9 X0 f d cb9 (z := (32 : Int32)) rfl ?_
 refine be6 X0 f d bG9 ?_
 show c5 p e U m s₁ 12 L_3 [(.long ((0 : Int64) <<< ((32 : Int32) &&& 0x3f).toInt64))]
 refine c6 X0 f d bH0 rfl rfl ?_
 refine f4 X0 f d bH1 rfl ?_
 obtain ⟨_, T1, Lc1, X1, hQ1, st1⟩ := al9 X0 f d r Y e0 O (bf8 w) (bf9 w) (bg0 w) (bg1 w) (u9 w) (bg2 w) B_oa.2.1 (cQ2 l Z a0 w [] oa w_oa xn h0 n0 Z0 B_oa) L_3 bH2 [.int 1] [(.long ((0 : Int64) <<< ((32 : Int32) &&& 0x3f).toInt64))] 2 0 0 (lenOf cc0 rfl)
 obtain ⟨rfl, Nq1, e1⟩ := hQ1
 have N1 := Fr.app N0 Nq1
 refine c8 st1 ?_
 show c5 p e U m T1 17 L_3 [(.int (p5 xn)), (.long ((0 : Int64) <<< ((32 : Int32) &&& 0x3f).toInt64))]
 refine bD5 X1 f d bH3 ?_
 show c5 p e U m T1 18 L_3 [(.long ((p5 xn).toInt64)), (.long ((0 : Int64) <<< ((32 : Int32) &&& 0x3f).toInt64))]
 refine c8 (fun t k => X1.ldc2Long f O (mvT Y (bg3 w)) (g := (mkF m 18 L_3 [(.long ((p5 xn).toInt64)), (.long ((0 : Int64) <<< ((32 : Int32) &&& 0x3f).toInt64))])) rfl (hb d bH4) t k) ?_
 show c5 p e U m T1 21 L_3 [(.long (4294967295 : Int64)), (.long ((p5 xn).toInt64)), (.long ((0 : Int64) <<< ((32 : Int32) &&& 0x3f).toInt64))]
 refine R1 X1 f d bH5 ?_
 show c5 p e U m T1 22 L_3 [(.long (((p5 xn).toInt64) &&& (4294967295 : Int64))), (.long ((0 : Int64) <<< ((32 : Int32) &&& 0x3f).toInt64))]
 refine P4 X1 f d bH6 ?_
 show c5 p e U m T1 23 L_3 [(.long (((0 : Int64) <<< ((32 : Int32) &&& 0x3f).toInt64) + (((p5 xn).toInt64) &&& (4294967295 : Int64))))]
 let L_4 : Array Slot := #[oR oa,(oJ (((0 : Int64) <<< ((32 : Int32) &&& 0x3f).toInt64) + (((p5 xn).toInt64) &&& (4294967295 : Int64)))),.second,oI 1]
 refine aB9 X1 f d bH7 (l' := L_4) rfl ?_
 show c5 p e U m T1 24 L_4 []
 let L_5 : Array Slot := #[oR oa,(oJ (((0 : Int64) <<< ((32 : Int32) &&& 0x3f).toInt64) + (((p5 xn).toInt64) &&& (4294967295 : Int64)))),.second,oI 0]
 refine c8 (fun t k => XS.iinc X1.here f rfl (hb d bH8) rfl (l' := L_5) rfl k) ?_
 show c5 p e U m T1 27 L_5 []
 refine m5 (pc := 27) (pc' := 4) X1 f d bH9 ?_
 refine f4 X1 f d aV8 rfl ?_
 refine m8 X1 f d aV9 ((if0 _ _).trans (flt (by decide : ¬ ((0 : Int32) < (0 : Int32)))).1) ?_
 refine t8 X1 f d cb8 rfl ?_
 refine t9 X1 f d cb9 (z := (32 : Int32)) rfl ?_
 refine be6 X1 f d bG9 ?_
 show c5 p e U m T1 12 L_5 [(.long ((((0 : Int64) <<< ((32 : Int32) &&& 0x3f).toInt64) + (((p5 xn).toInt64) &&& (4294967295 : Int64))) <<< ((32 : Int32) &&& 0x3f).toInt64))]
 refine c6 X1 f d bH0 rfl rfl ?_
 refine f4 X1 f d bH1 rfl ?_
 obtain ⟨_, T2, Lc2, X2, hQ2, st2⟩ := al9 X1 f d r Y e1 O (bf8 w) (bf9 w) (bg0 w) (bg1 w) (u9 w) (bg2 w) B_oa.2.1 (cQ1 l Z a0 w [] oa w_oa xn h0 n0 Z0 B_oa) L_5 bH2 [.int 0] [(.long ((((0 : Int64) <<< ((32 : Int32) &&& 0x3f).toInt64) + (((p5 xn).toInt64) &&& (4294967295 : Int64))) <<< ((32 : Int32) &&& 0x3f).toInt64))] 2 0 0 (lenOf cc0 rfl)
 obtain ⟨rfl, Nq2, e2⟩ := hQ2
 have N2 := Fr.app N1 Nq2
 refine c8 st2 ?_
 show c5 p e U m T2 17 L_5 [(.int (r9 xn)), (.long ((((0 : Int64) <<< ((32 : Int32) &&& 0x3f).toInt64) + (((p5 xn).toInt64) &&& (4294967295 : Int64))) <<< ((32 : Int32) &&& 0x3f).toInt64))]
 refine bD5 X2 f d bH3 ?_
 show c5 p e U m T2 18 L_5 [(.long ((r9 xn).toInt64)), (.long ((((0 : Int64) <<< ((32 : Int32) &&& 0x3f).toInt64) + (((p5 xn).toInt64) &&& (4294967295 : Int64))) <<< ((32 : Int32) &&& 0x3f).toInt64))]
 refine c8 (fun t k => X2.ldc2Long f O (mvT Y (bg3 w)) (g := (mkF m 18 L_5 [(.long ((r9 xn).toInt64)), (.long ((((0 : Int64) <<< ((32 : Int32) &&& 0x3f).toInt64) + (((p5 xn).toInt64) &&& (4294967295 : Int64))) <<< ((32 : Int32) &&& 0x3f).toInt64))])) rfl (hb d bH4) t k) ?_
 show c5 p e U m T2 21 L_5 [(.long (4294967295 : Int64)), (.long ((r9 xn).toInt64)), (.long ((((0 : Int64) <<< ((32 : Int32) &&& 0x3f).toInt64) + (((p5 xn).toInt64) &&& (4294967295 : Int64))) <<< ((32 : Int32) &&& 0x3f).toInt64))]
 refine R1 X2 f d bH5 ?_
 show c5 p e U m T2 22 L_5 [(.long (((r9 xn).toInt64) &&& (4294967295 : Int64))), (.long ((((0 : Int64) <<< ((32 : Int32) &&& 0x3f).toInt64) + (((p5 xn).toInt64) &&& (4294967295 : Int64))) <<< ((32 : Int32) &&& 0x3f).toInt64))]
 refine P4 X2 f d bH6 ?_
 show c5 p e U m T2 23 L_5 [(.long (((((0 : Int64) <<< ((32 : Int32) &&& 0x3f).toInt64) + (((p5 xn).toInt64) &&& (4294967295 : Int64))) <<< ((32 : Int32) &&& 0x3f).toInt64) + (((r9 xn).toInt64) &&& (4294967295 : Int64))))]
 let L_6 : Array Slot := #[oR oa,(oJ (((((0 : Int64) <<< ((32 : Int32) &&& 0x3f).toInt64) + (((p5 xn).toInt64) &&& (4294967295 : Int64))) <<< ((32 : Int32) &&& 0x3f).toInt64) + (((r9 xn).toInt64) &&& (4294967295 : Int64)))),.second,oI 0]
 refine aB9 X2 f d bH7 (l' := L_6) rfl ?_
 show c5 p e U m T2 24 L_6 []
 let L_7 : Array Slot := #[oR oa,(oJ (((((0 : Int64) <<< ((32 : Int32) &&& 0x3f).toInt64) + (((p5 xn).toInt64) &&& (4294967295 : Int64))) <<< ((32 : Int32) &&& 0x3f).toInt64) + (((r9 xn).toInt64) &&& (4294967295 : Int64)))),.second,(oI (-1))]
 refine c8 (fun t k => XS.iinc X2.here f rfl (hb d bH8) rfl (l' := L_7) rfl k) ?_
 show c5 p e U m T2 27 L_7 []
 refine m5 (pc := 27) (pc' := 4) X2 f d bH9 ?_
 refine f4 X2 f d aV8 rfl ?_
 refine o2 (pc := 5) (pc' := 30) X2 f d aV9 ((if0 _ _).trans (tlt (by decide : (-1 : Int32) < (0 : Int32))).1) ?_
 refine t8 X2 f d cQ3 rfl ?_
 show c5 p e U m T2 31 L_7 [(.long (((((0 : Int64) <<< ((32 : Int32) &&& 0x3f).toInt64) + (((p5 xn).toInt64) &&& (4294967295 : Int64))) <<< ((32 : Int32) &&& 0x3f).toInt64) + (((r9 xn).toInt64) &&& (4294967295 : Int64))))]
 exact ce5 X2 f R (hb d cQ4) (by rw [e2]; exact ⟨congrArg (fun z => some (Value.long z)) (cf0 hnn), N2, rfl⟩) (by decide) (by decide)
def cq4 (n : Int64) (h0 : Heap) (n0 : Nat) (v : Option Value) (h : Heap) (L : List Loc) : Prop := ∃ k : Int32, v = some (.int k) ∧ ¬ k < 0 ∧ Fr n0 L ∧ h = h0
theorem aW0:c4 b9_ 0 (.aload_n 0) 1:=by decide +kernel
theorem aW1:c4 b9_ 1 (.getfield 32) 3:=by decide +kernel
theorem aW2:c4 b9_ 4 .ireturn 1:=by decide +kernel
theorem cc1 (l : Launch) (Z : State) (a0 : Array Value) (w : j9 Z a0) (ws : List Jvm.Cond) (oa : Addr) (w_oa : Nat) (xn : Int64) (h0 : Heap) (n0 : Nat) (Z0 : n0 ≤ h0.size) (B_oa : own_BI Z h0 oa xn w_oa) :
 l0 l Z h0 MN7 b9_ 1 (some .int) ws (Jvm.Room.mk 0 0 0 0) #[.ref oa] (cq4 xn h0 n0) := by
 refine l7 (Ls := #[.val (.ref oa)]) (plainFor_of_name S3) (fun p e s m U meth c s₁ Y hh f d r O hnm hlk R X0 e0 => ?_)
 replace O : s.vm.findClass "java/math/BigInteger" = some m.cls := O
 have N0 := Fr.nil n0
 let L_1 : Array Slot := #[oR oa]
 show c5 p e U m s₁ 0 L_1 []
 obtain ⟨l_oa, E_oa, t_oa, k_oa, lt_oa, Fm_oa, O_oa⟩ := id B_oa
 rcases O_oa with ⟨u0_oa, Fs_oa, At_oa⟩ | ⟨u1_oa, u2_oa, Fs_oa, At_oa⟩ | ⟨u1_oa, u2_oa, Fs_oa, At_oa⟩
 · skip
   show c5 p e U m s₁ 0 L_1 []
   refine c6 X0 f d aW0 rfl rfl ?_
   refine d3 X0 f d Y e0 O (B7 w) Fs_oa aW1 (fun T1 X1 e1 => ?_)
   show c5 p e U m T1 4 L_1 [.int 0]
   exact r8 X1 f R (hb d aW2) (by rw [e1]; exact ⟨_, rfl, by decide, N0, rfl⟩) (by decide) (by decide)
 · skip
   show c5 p e U m s₁ 0 L_1 []
   refine c6 X0 f d aW0 rfl rfl ?_
   refine d3 X0 f d Y e0 O (B7 w) Fs_oa aW1 (fun T2 X2 e2 => ?_)
   show c5 p e U m T2 4 L_1 [.int 1]
   exact r8 X2 f R (hb d aW2) (by rw [e2]; exact ⟨_, rfl, by decide, N0, rfl⟩) (by decide) (by decide)
 · skip
   show c5 p e U m s₁ 0 L_1 []
   refine c6 X0 f d aW0 rfl rfl ?_
   refine d3 X0 f d Y e0 O (B7 w) Fs_oa aW1 (fun T3 X3 e3 => ?_)
   show c5 p e U m T3 4 L_1 [.int 1]
   exact r8 X3 f R (hb d aW2) (by rw [e3]; exact ⟨_, rfl, by decide, N0, rfl⟩) (by decide) (by decide)
theorem bm7 {x : Int32} (h0 : ¬ x < 0) (h1 : x < 128) : nar .char ((x &&& 255).toUInt32.toUInt16.toUInt32.toInt32) = x := by
 simp only [nar]; rw [i2c_mask, i2c_mask]
 rw [Int32.lt_iff_toInt_lt] at h0 h1
 have a0 : (0 : Int32).toInt = 0 := by decide
 have a1 : (128 : Int32).toInt = 128 := by decide
 apply Int32.toInt_inj.mp
 rw [Jvm.Kit.i32_mask x 255 (k := 8) (by decide) (by decide)]
 omega
theorem aC9 {x : Int32} (h0 : ¬ x < 0) (h1 : x < 128) : nar .char x = x := by
 have h := bm7 h0 h1
 rw [i2c_mask] at h
 rw [Int32.lt_iff_toInt_lt] at h0 h1
 have a0 : (0 : Int32).toInt = 0 := by decide
 have a1 : (128 : Int32).toInt = 128 := by decide
 have e : x &&& 255 = x := by
  apply Int32.toInt_inj.mp
  rw [Jvm.Kit.i32_mask x 255 (k := 8) (by decide) (by decide)]
  omega
 rw [e] at h; exact h
theorem aW3 : plainName "jdk/internal/util/Preconditions" = true := by first | (simp [plainName, overriddenIn]; done) | decide +kernel
theorem dj4:c4 R6 0 (.iload_n 0) 1:=by decide +kernel
theorem dj5:c4 R6 1 (.ifCond .lt 8) 3:=by decide +kernel
theorem dj6:c4 R6 4 (.iload_n 0) 1:=by decide +kernel
theorem dj7:c4 R6 5 (.iload_n 1) 1:=by decide +kernel
theorem dj8:c4 R6 6 (.if_icmp .lt 10) 3:=by decide +kernel
theorem cQ5:c4 R6 16 (.iload_n 0) 1:=by decide +kernel
theorem cQ6:c4 R6 17 .ireturn 1:=by decide +kernel
theorem dj9 (l : Launch) (Z : State) (a0 : Array Value) (w : j9 Z a0) (ws : List Jvm.Cond) (xi xl : Int32) (fm : Value) (h0 : Heap) (n0 : Nat) (Z0 : n0 ≤ h0.size) (r_fm : fm.isRef = true) (hi0 : ¬ xi < 0) (hi1 : xi < xl) :
 l0 l Z h0 MN8 R6 3 (some .int) ws (Jvm.Room.mk 0 0 0 0) #[.int xi, .int xl, fm] (r4 xi h0 n0) := by
 refine ao7 (Ls := #[.val (.int xi), .val (.int xl), .val fm]) (plainFor_of_name aW3) (fun m => by simp [entryFrame, mkF, argsToLocals, aC4, aC5, aC6, aC7, aC3 r_fm]) (fun p e s m U meth c s₁ Y hh f d r O hnm hlk R X0 e0 => ?_)
 replace O : s.vm.findClass "jdk/internal/util/Preconditions" = some m.cls := O
 have N0 := Fr.nil n0
 let L_1 : Array Slot := #[oI xi,oI xl,.val fm]
 show c5 p e U m s₁ 0 L_1 []
 refine f4 X0 f d dj4 rfl ?_
 refine m8 X0 f d dj5 ((if0 _ _).trans (flt hi0).1) ?_
 refine f4 X0 f d dj6 rfl ?_
 refine f4 X0 f d dj7 rfl ?_
 refine j5 (pc := 6) (pc' := 16) X0 f d dj8 (tlt hi1).1 ?_
 refine f4 X0 f d cQ5 rfl ?_
 show c5 p e U m s₁ 17 L_1 [.int xi]
 exact r8 X0 f R (hb d cQ6) (by rw [e0]; exact ⟨rfl, N0, rfl⟩) (by decide) (by decide)
theorem C4 : plainName "java/lang/String" = true := by first | (simp [plainName, overriddenIn]; done) | decide +kernel
theorem dk0:c4 Y2 0 (.iload_n 0) 1:=by decide +kernel
theorem dk1:c4 Y2 1 (.iload_n 1) 1:=by decide +kernel
theorem dk2:c4 Y2 2 (.getstatic 1053) 3:=by decide +kernel
theorem dk3:c4 Y2 5 (.invokestatic 1059) 3:=by decide +kernel
theorem dk4:c4 Y2 8 .pop 1:=by decide +kernel
theorem dk5:c4 Y2 9 .return_ 1:=by decide +kernel
theorem dk6 : parseMethodDescriptor "(IILjava/util/function/BiFunction;)I" = some ⟨[.int, .int, (.object "java/util/function/BiFunction")], some .int⟩ := by decide +kernel
theorem dk7 (l : Launch) (Z : State) (a0 : Array Value) (w : j9 Z a0) (ws : List Jvm.Cond) (xi xl : Int32) (z0 pc0 : Addr) (kpc : ClassId) (pcs : List Value) (fm : Value) (al : Addr) (kal : ClassId) (als : List Value) (h0 : Heap) (n0 : Nat) (Z0 : n0 ≤ h0.size) (hi0 : ¬ xi < 0) (hi1 : xi < xl) (XO : Old Z n0 h0) (WW : r5 Z z0 pc0 kpc pcs fm al kal als) :
 l0 l Z h0 MN9 Y2 2 none ws (Jvm.Room.mk 1 0 0 16) #[.int xi, .int xl] (U1 h0 n0) := by
 refine l7 (Ls := #[.val (.int xi), .val (.int xl)]) (plainFor_of_name C4) (fun p e s m U meth c s₁ Y hh f d r O hnm hlk R X0 e0 => ?_)
 replace O : s.vm.findClass "java/lang/String" = some m.cls := O
 have N0 := Fr.nil n0
 obtain ⟨SAl, AAl, r_fm, ⟨cs, hcs, SC⟩, SFM, SZ, BZ, SPc, APc, HPc, HAL, uo, u8, i8, CS⟩ := id WW
 let L_1 : Array Slot := #[oI xi,oI xl]
 show c5 p e U m s₁ 0 L_1 []
 refine f4 X0 f d dk0 rfl ?_
 refine f4 X0 f d dk1 rfl ?_
 obtain ⟨T1, X1, e1, st1⟩ := getS2 X0 f Y O (host := "") (Or.inl (aL8 w)) Via.refl e0 (SFM.ext XO.2) (g := (mkF m 2 L_1 [.int xl, .int xi])) rfl (hb d dk2)
 refine c8 st1 ?_
 obtain ⟨_, T2, Lc2, X2, hQ2, st2⟩ := j8 X1 f d r Y e1 O (cI8 w) (cI9 w) (aL9 w) (cJ0 w) (dj9 l Z a0 w [] xi xl fm h0 n0 Z0 r_fm hi0 hi1) L_1 dk3 [.int xi, .int xl, fm] [] 0 0 0 (lenOf dk6 rfl)
 obtain ⟨rfl, Nq2, e2⟩ := hQ2
 have N2 := Fr.app N0 Nq2
 refine c8 st2 ?_
 show c5 p e U m T2 8 L_1 [.int xi]
 refine az0 X2 f d dk4 rfl ?_
 show c5 p e U m T2 9 L_1 []
 exact q0 X2 f R (hb d dk5) (by rw [e2]; exact ⟨rfl, N2, rfl⟩) (by decide) (by decide)
theorem aW4 : plainName "java/lang/StringLatin1" = true := by first | (simp [plainName, overriddenIn]; done) | decide +kernel
theorem cQ7:c4 G6 0 (.iload_n 1) 1:=by decide +kernel
theorem cQ8:c4 G6 1 (.aload_n 0) 1:=by decide +kernel
theorem cQ9:c4 G6 2 .arraylength 1:=by decide +kernel
theorem cR0:c4 G6 3 (.invokestatic 9) 3:=by decide +kernel
theorem cR1:c4 G6 6 (.aload_n 0) 1:=by decide +kernel
theorem cR2:c4 G6 7 (.iload_n 1) 1:=by decide +kernel
theorem cR3:c4 G6 8 .baload 1:=by decide +kernel
theorem cR4:c4 G6 9 (.sipush 255) 3:=by decide +kernel
theorem cq5:c4 G6 12 .iand 1:=by decide +kernel
theorem cq6:c4 G6 13 .i2c 1:=by decide +kernel
theorem cq7:c4 G6 14 .ireturn 1:=by decide +kernel
theorem aW5 : parseMethodDescriptor "(II)V" = some ⟨[.int, .int], none⟩ := by decide +kernel
theorem dk8 (l : Launch) (Z : State) (a0 : Array Value) (w : j9 Z a0) (ws : List Jvm.Cond) (ot : Addr) (kt : ClassId) (xl : Int32) (vs_ : List Value) (xi xc : Int32) (z0 pc0 : Addr) (kpc : ClassId) (pcs : List Value) (fm : Value) (al : Addr) (kal : ClassId) (als : List Value) (h0 : Heap) (n0 : Nat) (Z0 : n0 ≤ h0.size) (At : Arv Z h0 ot kt .byte xl vs_ (.int 0)) (hi0 : ¬ xi < 0) (hi1 : xi < xl) (hv : vs_.getD xi.toNatClampNeg (.int 0) = .int xc) (hc0 : ¬ xc < 0) (hc1 : xc < 128) (XO : Old Z n0 h0) (WW : r5 Z z0 pc0 kpc pcs fm al kal als) :
 l0 l Z h0 de6 G6 2 (some .char) ws (Jvm.Room.mk 2 0 0 32) #[.ref ot, .int xi] (r4 xc h0 n0) := by
 refine l7 (Ls := #[.val (.ref ot), .val (.int xi)]) (plainFor_of_name aW4) (fun p e s m U meth c s₁ Y hh f d r O hnm hlk R X0 e0 => ?_)
 replace O : s.vm.findClass "java/lang/StringLatin1" = some m.cls := O
 have N0 := Fr.nil n0
 obtain ⟨SAl, AAl, r_fm, ⟨cs, hcs, SC⟩, SFM, SZ, BZ, SPc, APc, HPc, HAL, uo, u8, i8, CS⟩ := id WW
 let L_1 : Array Slot := #[oR ot,oI xi]
 show c5 p e U m s₁ 0 L_1 []
 refine f4 X0 f d cQ7 rfl ?_
 refine c6 X0 f d cQ8 rfl rfl ?_
 refine m7 X0 f d Y e0 At cQ9 ?_
 obtain ⟨_, T2, Lc2, X2, hQ2, st2⟩ := j8 X0 f d r Y e0 O (cI5 w) (cI6 w) (o6 w) (cI7 w) (dk7 l Z a0 w [] xi xl z0 pc0 kpc pcs fm al kal als h0 n0 Z0 hi0 hi1 XO WW) L_1 cR0 [.int xi, .int xl] [] 0 0 0 (lenOf aW5 rfl)
 obtain ⟨rfl, Nq2, e2⟩ := hQ2
 have N2 := Fr.app N0 Nq2
 refine c8 st2 ?_
 show c5 p e U m T2 6 L_1 []
 refine c6 X2 f d cR1 rfl rfl ?_
 refine f4 X2 f d cR2 rfl ?_
 obtain ⟨cl3, Ar3, qa3, Sa3, Na3, Ha3, Ga3⟩ := id At
 have hin3 : ¬ (xi < 0 ∨ cl3.slots.size ≤ xi.toNatClampNeg) := inb_of Sa3 ⟨hi0, hi1⟩
 have hat3 : cl3.slots[xi.toNatClampNeg]? = some (.int xc) := Ha3.at hin3 hv
 refine c8 (fun t k => X2.baloadBytes f (j := xi) (v := .int xc) (by rw [e2]; exact Ar3.1) (State.isArrayOf_alike Y.alike Ar3.2.1) Ar3.2.2 hin3 hat3 (g := (mkF m 8 L_1 [.int xi, .ref ot])) rfl rfl (hb d cR3) t k) ?_
 show c5 p e U m T2 9 L_1 [.int xc]
 refine M2 X2 f d cR4 (z := (255 : Int32)) rfl ?_
 refine H1 X2 f d cq5 ?_
 show c5 p e U m T2 13 L_1 [(.int (xc &&& (255 : Int32)))]
 refine cH4 X2 f d cq6 ?_
 show c5 p e U m T2 14 L_1 [(.int ((xc &&& (255 : Int32)).toUInt32.toUInt16.toUInt32.toInt32))]
 exact t4 X2 f (t := .char) R (by simp) (hb d cq7) (by rw [e2]; exact ⟨congrArg (fun z => some (Value.int z)) (bm7 hc0 hc1), N2, rfl⟩) (by decide) (by decide)
theorem cf1 (x : Int32) : x >>> ((0 : Int32) &&& 31) = x := by
 apply Int32.toInt_inj.mp
 rw [Jvm.Kit.i32_shr x _ (k := 0) (by decide)]; omega
/-- a Latin-1 String: its bytes -/
def own_S (Z : State) (h : Heap) (a t : Addr) (k : ClassId) (n : Int32) (vs : List Value) : Prop := Exa Z h a "java/lang/String" ∧ Fld Z h a "java/lang/String" "coder" "B" (.int 0) ∧ Fld Z h a "java/lang/String" "value" "[B" (.ref t) ∧ Arv Z h t k .byte n vs (.int 0)
theorem own_S.ext {Z : State} {h h' : Heap} {a t : Addr} {k : ClassId} {n : Int32} {vs : List Value} (F : own_S Z h a t k n vs) (E : Ext h h') : own_S Z h' a t k n vs := ⟨F.1.ext E, F.2.1.ext E, F.2.2.1.ext E, F.2.2.2.ext E⟩
theorem own_S.keep {Z : State} {h h' : Heap} {a t : Addr} {k : ClassId} {n : Int32} {vs : List Value} {ws : List Addr} (F : own_S Z h a t k n vs) (K : Keep h h' ws) (q : a ∉ ws) (q' : t ∉ ws) : own_S Z h' a t k n vs := ⟨F.1.keep K, F.2.1.keep K q, F.2.2.1.keep K q, F.2.2.2.keep K q'⟩
theorem cR5:c4 Y1 0 (.getstatic 38) 3:=by decide +kernel
theorem cR6:c4 Y1 3 (.ifCond .eq 10) 3:=by decide +kernel
theorem cR7:c4 Y1 6 (.aload_n 0) 1:=by decide +kernel
theorem cR8:c4 Y1 7 (.getfield 15) 3:=by decide +kernel
theorem cq8:c4 Y1 10 (.goto 4) 3:=by decide +kernel
theorem cq9:c4 Y1 14 .ireturn 1:=by decide +kernel
theorem dk9 (l : Launch) (Z : State) (a0 : Array Value) (w : j9 Z a0) (ws : List Jvm.Cond) (oa ot : Addr) (kt : ClassId) (xl : Int32) (vs_ : List Value) (z0 pc0 : Addr) (kpc : ClassId) (pcs : List Value) (fm : Value) (al : Addr) (kal : ClassId) (als : List Value) (h0 : Heap) (n0 : Nat) (Z0 : n0 ≤ h0.size) (S_oa : own_S Z h0 oa ot kt xl vs_) (XO : Old Z n0 h0) (WW : r5 Z z0 pc0 kpc pcs fm al kal als) :
 l0 l Z h0 de7 Y1 1 (some .byte) ws (Jvm.Room.mk 0 0 0 0) #[.ref oa] (r4 (0 : Int32) h0 n0) := by
 refine l7 (Ls := #[.val (.ref oa)]) (plainFor_of_name C4) (fun p e s m U meth c s₁ Y hh f d r O hnm hlk R X0 e0 => ?_)
 replace O : s.vm.findClass "java/lang/String" = some m.cls := O
 have N0 := Fr.nil n0
 obtain ⟨SAl, AAl, r_fm, ⟨cs, hcs, SC⟩, SFM, SZ, BZ, SPc, APc, HPc, HAL, uo, u8, i8, CS⟩ := id WW
 let L_1 : Array Slot := #[oR oa]
 obtain ⟨T1, X1, e1, st1⟩ := getS2 X0 f Y O (host := "") (Or.inl (R4 w)) Via.refl e0 (SC.ext XO.2) (g := (mkF m 0 L_1 [])) rfl (hb d cR5)
 refine c8 st1 ?_
 show c5 p e U m T1 3 L_1 [.int cs]
 refine m8 X1 f d cR6 ((if0 _ _).trans (feq hcs).1) ?_
 refine c6 X1 f d cR7 rfl rfl ?_
 refine d3 X1 f d Y e1 O (J2 w) S_oa.2.1 cR8 (fun T2 X2 e2 => ?_)
 refine m5 (pc := 10) (pc' := 14) X2 f d cq8 ?_
 show c5 p e U m T2 14 L_1 [.int 0]
 exact t4 X2 f (t := .byte) R (by simp) (hb d cq9) (by rw [e2]; exact ⟨rfl, N0, rfl⟩) (by decide) (by decide)
theorem cR9:c4 Q6 0 (.getstatic 38) 3:=by decide +kernel
theorem cS0:c4 Q6 3 (.ifCond .eq 14) 3:=by decide +kernel
theorem cS1:c4 Q6 6 (.aload_n 0) 1:=by decide +kernel
theorem cS2:c4 Q6 7 (.getfield 15) 3:=by decide +kernel
theorem cr0:c4 Q6 10 (.ifCond .ne 7) 3:=by decide +kernel
theorem cr1:c4 Q6 13 (.iconst 1) 1:=by decide +kernel
theorem cr2:c4 Q6 14 (.goto 4) 3:=by decide +kernel
theorem cr3:c4 Q6 18 .ireturn 1:=by decide +kernel
theorem dl0 (l : Launch) (Z : State) (a0 : Array Value) (w : j9 Z a0) (ws : List Jvm.Cond) (oa ot : Addr) (kt : ClassId) (xl : Int32) (vs_ : List Value) (z0 pc0 : Addr) (kpc : ClassId) (pcs : List Value) (fm : Value) (al : Addr) (kal : ClassId) (als : List Value) (h0 : Heap) (n0 : Nat) (Z0 : n0 ≤ h0.size) (S_oa : own_S Z h0 oa ot kt xl vs_) (XO : Old Z n0 h0) (WW : r5 Z z0 pc0 kpc pcs fm al kal als) :
 l0 l Z h0 de8 Q6 1 (some .boolean) ws (Jvm.Room.mk 0 0 0 0) #[.ref oa] (r4 (1 : Int32) h0 n0) := by
 refine l7 (Ls := #[.val (.ref oa)]) (plainFor_of_name C4) (fun p e s m U meth c s₁ Y hh f d r O hnm hlk R X0 e0 => ?_)
 replace O : s.vm.findClass "java/lang/String" = some m.cls := O
 have N0 := Fr.nil n0
 obtain ⟨SAl, AAl, r_fm, ⟨cs, hcs, SC⟩, SFM, SZ, BZ, SPc, APc, HPc, HAL, uo, u8, i8, CS⟩ := id WW
 let L_1 : Array Slot := #[oR oa]
 obtain ⟨T1, X1, e1, st1⟩ := getS2 X0 f Y O (host := "") (Or.inl (R4 w)) Via.refl e0 (SC.ext XO.2) (g := (mkF m 0 L_1 [])) rfl (hb d cR9)
 refine c8 st1 ?_
 show c5 p e U m T1 3 L_1 [.int cs]
 refine m8 X1 f d cS0 ((if0 _ _).trans (feq hcs).1) ?_
 refine c6 X1 f d cS1 rfl rfl ?_
 refine d3 X1 f d Y e1 O (J2 w) S_oa.2.1 cS2 (fun T2 X2 e2 => ?_)
 refine m8 X2 f d cr0 ((if0 _ _).trans (teq (by decide : (0 : Int32) = (0 : Int32))).2) ?_
 refine f6 X2 f d cr1 (z := (1 : Int32)) rfl ?_
 refine m5 (pc := 14) (pc' := 18) X2 f d cr2 ?_
 show c5 p e U m T2 18 L_1 [.int 1]
 exact t4 X2 f (t := .boolean) R (by simp) (hb d cr3) (by rw [e2]; exact ⟨rfl, N0, rfl⟩) (by decide) (by decide)
theorem cS3:c4 R8 0 (.aload_n 0) 1:=by decide +kernel
theorem cS4:c4 R8 1 (.getfield 9) 3:=by decide +kernel
theorem cS5:c4 R8 4 .arraylength 1:=by decide +kernel
theorem cS6:c4 R8 5 (.aload_n 0) 1:=by decide +kernel
theorem cS7:c4 R8 6 (.invokevirtual 335) 3:=by decide +kernel
theorem cS8:c4 R8 9 .ishr 1:=by decide +kernel
theorem cr4:c4 R8 10 .ireturn 1:=by decide +kernel
theorem dl1 : parseMethodDescriptor "()B" = some ⟨[], some .byte⟩ := by decide +kernel
theorem C5 (l : Launch) (Z : State) (a0 : Array Value) (w : j9 Z a0) (ws : List Jvm.Cond) (oa ot : Addr) (kt : ClassId) (xl : Int32) (vs_ : List Value) (z0 pc0 : Addr) (kpc : ClassId) (pcs : List Value) (fm : Value) (al : Addr) (kal : ClassId) (als : List Value) (h0 : Heap) (n0 : Nat) (Z0 : n0 ≤ h0.size) (S_oa : own_S Z h0 oa ot kt xl vs_) (XO : Old Z n0 h0) (WW : r5 Z z0 pc0 kpc pcs fm al kal als) :
 l0 l Z h0 de9 R8 1 (some .int) ws (Jvm.Room.mk 1 0 0 13) #[.ref oa] (r4 xl h0 n0) := by
 refine l7 (Ls := #[.val (.ref oa)]) (plainFor_of_name C4) (fun p e s m U meth c s₁ Y hh f d r O hnm hlk R X0 e0 => ?_)
 replace O : s.vm.findClass "java/lang/String" = some m.cls := O
 have N0 := Fr.nil n0
 obtain ⟨SAl, AAl, r_fm, ⟨cs, hcs, SC⟩, SFM, SZ, BZ, SPc, APc, HPc, HAL, uo, u8, i8, CS⟩ := id WW
 let L_1 : Array Slot := #[oR oa]
 show c5 p e U m s₁ 0 L_1 []
 refine c6 X0 f d cS3 rfl rfl ?_
 refine d3 X0 f d Y e0 O (J3 w) S_oa.2.2.1 cS4 (fun T1 X1 e1 => ?_)
 refine m7 X1 f d Y e1 S_oa.2.2.2 cS5 ?_
 refine c6 X1 f d cS6 rfl rfl ?_
 obtain ⟨_, T3, Lc3, X3, hQ3, st3⟩ := o1 X1 f d r Y e1 O (cJ2 w) (cJ4 w) (cJ3 w) (cJ5 w) (o6 w) (cJ6 w) S_oa.1 (dk9 l Z a0 w [] oa ot kt xl vs_ z0 pc0 kpc pcs fm al kal als h0 n0 Z0 S_oa XO WW) L_1 cS7 [] [.int xl] 1 0 0 (lenOf dl1 rfl)
 obtain ⟨rfl, Nq3, e3⟩ := hQ3
 have N3 := Fr.app N0 Nq3
 refine c8 st3 ?_
 show c5 p e U m T3 9 L_1 [.int 0, .int xl]
 refine ci3 X3 f d cS8 ?_
 show c5 p e U m T3 10 L_1 [(.int (xl >>> ((0 : Int32) &&& 31)))]
 exact r8 X3 f R (hb d cr4) (by rw [e3]; exact ⟨congrArg (fun z => some (Value.int z)) (cf1 xl), N3, rfl⟩) (by decide) (by decide)
theorem cS9:c4 Q7 0 (.aload_n 0) 1:=by decide +kernel
theorem cT0:c4 Q7 1 (.invokevirtual 492) 3:=by decide +kernel
theorem cT1:c4 Q7 4 (.ifCond .eq 12) 3:=by decide +kernel
theorem cT2:c4 Q7 7 (.aload_n 0) 1:=by decide +kernel
theorem cT3:c4 Q7 8 (.getfield 9) 3:=by decide +kernel
theorem cr5:c4 Q7 11 (.iload_n 1) 1:=by decide +kernel
theorem cr6:c4 Q7 12 (.invokestatic 495) 3:=by decide +kernel
theorem cr7:c4 Q7 15 .ireturn 1:=by decide +kernel
theorem dl2 : parseMethodDescriptor "()Z" = some ⟨[], some .boolean⟩ := by decide +kernel
theorem dl3 : parseMethodDescriptor "([BI)C" = some ⟨[(.array .byte), .int], some .char⟩ := by decide +kernel
theorem I1 (l : Launch) (Z : State) (a0 : Array Value) (w : j9 Z a0) (ws : List Jvm.Cond) (oa ot : Addr) (kt : ClassId) (xl : Int32) (vs_ : List Value) (xi xc : Int32) (z0 pc0 : Addr) (kpc : ClassId) (pcs : List Value) (fm : Value) (al : Addr) (kal : ClassId) (als : List Value) (h0 : Heap) (n0 : Nat) (Z0 : n0 ≤ h0.size) (S_oa : own_S Z h0 oa ot kt xl vs_) (hi0 : ¬ xi < 0) (hi1 : xi < xl) (hv : vs_.getD xi.toNatClampNeg (.int 0) = .int xc) (hc0 : ¬ xc < 0) (hc1 : xc < 128) (XO : Old Z n0 h0) (WW : r5 Z z0 pc0 kpc pcs fm al kal als) :
 l0 l Z h0 df0 Q7 2 (some .char) ws (Jvm.Room.mk 3 0 0 46) #[.ref oa, .int xi] (r4 xc h0 n0) := by
 refine l7 (Ls := #[.val (.ref oa), .val (.int xi)]) (plainFor_of_name C4) (fun p e s m U meth c s₁ Y hh f d r O hnm hlk R X0 e0 => ?_)
 replace O : s.vm.findClass "java/lang/String" = some m.cls := O
 have N0 := Fr.nil n0
 obtain ⟨SAl, AAl, r_fm, ⟨cs, hcs, SC⟩, SFM, SZ, BZ, SPc, APc, HPc, HAL, uo, u8, i8, CS⟩ := id WW
 let L_1 : Array Slot := #[oR oa,oI xi]
 show c5 p e U m s₁ 0 L_1 []
 refine c6 X0 f d cS9 rfl rfl ?_
 obtain ⟨_, T1, Lc1, X1, hQ1, st1⟩ := o1 X0 f d r Y e0 O (cH7 w) (cH9 w) (cH8 w) (cI0 w) (o6 w) (cI1 w) S_oa.1 (dl0 l Z a0 w [] oa ot kt xl vs_ z0 pc0 kpc pcs fm al kal als h0 n0 Z0 S_oa XO WW) L_1 cT0 [] [] 0 0 0 (lenOf dl2 rfl)
 obtain ⟨rfl, Nq1, e1⟩ := hQ1
 have N1 := Fr.app N0 Nq1
 refine c8 st1 ?_
 show c5 p e U m T1 4 L_1 [.int 1]
 refine m8 X1 f d cT1 ((if0 _ _).trans (feq (by decide : ¬ ((1 : Int32) = (0 : Int32)))).1) ?_
 refine c6 X1 f d cT2 rfl rfl ?_
 refine d3 X1 f d Y e1 O (J3 w) S_oa.2.2.1 cT3 (fun T2 X2 e2 => ?_)
 refine f4 X2 f d cr5 rfl ?_
 obtain ⟨_, T3, Lc3, X3, hQ3, st3⟩ := j8 X2 f d r Y e2 O (cI2 w) (cI3 w) (aL7 w) (cI4 w) (dk8 l Z a0 w [] ot kt xl vs_ xi xc z0 pc0 kpc pcs fm al kal als h0 n0 Z0 S_oa.2.2.2 hi0 hi1 hv hc0 hc1 XO WW) L_1 cr6 [.ref ot, .int xi] [] 0 0 0 (lenOf dl3 rfl)
 obtain ⟨rfl, Nq3, e3⟩ := hQ3
 have N3 := Fr.app N1 Nq3
 refine c8 st3 ?_
 show c5 p e U m T3 15 L_1 [.int xc]
 exact t4 X3 f (t := .char) R (by simp) (hb d cr7) (by rw [e3]; exact ⟨congrArg (fun z => some (Value.int z)) (aC9 hc0 hc1), N3, rfl⟩) (by decide) (by decide)
theorem al5 : plainName "com/example/prizewell/prizewell/core/AccountName" = true := by first | (simp [plainName, overriddenIn]; done) | decide +kernel
theorem bI0:c4 r6 0 (.iload_n 1) 1:=by decide +kernel
theorem bI1:c4 r6 1 (.iload_n 2) 1:=by decide +kernel
theorem bI2:c4 r6 2 (.if_icmp .eq 11) 3:=by decide +kernel
theorem bI3:c4 r6 5 (.iload_n 2) 1:=by decide +kernel
theorem bI4:c4 r6 6 (.iload_n 1) 1:=by decide +kernel
theorem bI5:c4 r6 7 .isub 1:=by decide +kernel
theorem bI6:c4 r6 8 (.bipush 64) 2:=by decide +kernel
theorem bm8:c4 r6 10 (.if_icmp .le 5) 3:=by decide +kernel
theorem bm9:c4 r6 15 (.iload_n 1) 1:=by decide +kernel
theorem bn0:c4 r6 16 (.istore_n 3) 1:=by decide +kernel
theorem am2:c4 r6 17 (.iload_n 3) 1:=by decide +kernel
theorem am3:c4 r6 18 (.iload_n 2) 1:=by decide +kernel
theorem am4:c4 r6 19 (.if_icmp .ge 36) 3:=by decide +kernel
theorem aE3:c4 r6 22 (.aload_n 0) 1:=by decide +kernel
theorem aE4:c4 r6 23 (.iload_n 3) 1:=by decide +kernel
theorem aE5:c4 r6 24 (.invokevirtual 60) 3:=by decide +kernel
theorem aE6:c4 r6 27 (.istore 4) 2:=by decide +kernel
theorem aE7:c4 r6 29 (.iload 4) 2:=by decide +kernel
theorem aE8:c4 r6 31 (.getstatic 64) 3:=by decide +kernel
theorem aE9:c4 r6 34 .arraylength 1:=by decide +kernel
theorem aF0:c4 r6 35 (.if_icmp .ge 12) 3:=by decide +kernel
theorem aF1:c4 r6 38 (.getstatic 64) 3:=by decide +kernel
theorem aF2:c4 r6 41 (.iload 4) 2:=by decide +kernel
theorem aF3:c4 r6 43 .baload 1:=by decide +kernel
theorem aF4:c4 r6 44 (.ifCond .ne 5) 3:=by decide +kernel
theorem aF5:c4 r6 49 (.iinc 3 1) 3:=by decide +kernel
theorem aF6:c4 r6 52 (.goto (-35)) 3:=by decide +kernel
theorem bn1:c4 r6 55 (.iconst 1) 1:=by decide +kernel
theorem bn2:c4 r6 56 .ireturn 1:=by decide +kernel
theorem I2 : parseMethodDescriptor "(I)C" = some ⟨[.int], some .char⟩ := by decide +kernel
theorem cT4 (l : Launch) (Z : State) (a0 : Array Value) (w : j9 Z a0) (ws : List Jvm.Cond) (oa ot : Addr) (kt : ClassId) (c0 : Int32) (z0 pc0 : Addr) (kpc : ClassId) (pcs : List Value) (fm : Value) (al : Addr) (kal : ClassId) (als : List Value) (h0 : Heap) (n0 : Nat) (Z0 : n0 ≤ h0.size) (S_oa : own_S Z h0 oa ot kt (1 : Int32) [.int c0]) (ok0 : s8 als c0) (XO : Old Z n0 h0) (WW : r5 Z z0 pc0 kpc pcs fm al kal als) :
 l0 l Z h0 bY6 r6 5 (some .boolean) ws (Jvm.Room.mk 4 0 0 60) #[.ref oa, .int 0, .int 1] (r4 (1 : Int32) h0 n0) := by
 refine l7 (Ls := #[.val (.ref oa), .val (.int 0), .val (.int 1), .unset, .unset]) (plainFor_of_name al5) (fun p e s m U meth c s₁ Y hh f d r O hnm hlk R X0 e0 => ?_)
 replace O : s.vm.findClass "com/example/prizewell/prizewell/core/AccountName" = some m.cls := O
 have N0 := Fr.nil n0
 obtain ⟨SAl, AAl, r_fm, ⟨cs, hcs, SC⟩, SFM, SZ, BZ, SPc, APc, HPc, HAL, uo, u8, i8, CS⟩ := id WW
 let L_1 : Array Slot := #[oR oa,oI 0,oI 1,oU,oU]
 show c5 p e U m s₁ 0 L_1 []
 refine f4 X0 f d bI0 rfl ?_
 refine f4 X0 f d bI1 rfl ?_
 refine m4 X0 f d bI2 (feq (by decide : ¬ ((0 : Int32) = (1 : Int32)))).1 ?_
 refine f4 X0 f d bI3 rfl ?_
 refine f4 X0 f d bI4 rfl ?_
 refine x7 X0 f d bI5 ?_
 show c5 p e U m s₁ 8 L_1 [.int 1]
 refine t9 X0 f d bI6 (z := (64 : Int32)) rfl ?_
 refine j5 (pc := 10) (pc' := 15) X0 f d bm8 (flt (by decide : ¬ ((64 : Int32) < (1 : Int32)))).2.2.2 ?_
 refine f4 X0 f d bm9 rfl ?_
 let L_2 : Array Slot := #[oR oa,oI 0,oI 1,oI 0,oU]
 refine p8 X0 f d bn0 (l' := L_2) rfl ?_
 refine f4 X0 f d am2 rfl ?_
 refine f4 X0 f d am3 rfl ?_
 refine m4 X0 f d am4 (tlt (by decide : (0 : Int32) < (1 : Int32))).2.1 ?_
 refine c6 X0 f d aE3 rfl rfl ?_
 refine f4 X0 f d aE4 rfl ?_
 obtain ⟨_, T1, Lc1, X1, hQ1, st1⟩ := o1 X0 f d r Y e0 O (aM7 w) (H6 w) (H5 w) (H7 w) (o6 w) (H8 w) S_oa.1 (I1 l Z a0 w [] oa ot kt (1 : Int32) [.int c0] (0 : Int32) c0 z0 pc0 kpc pcs fm al kal als h0 n0 Z0 S_oa (by decide) (by decide) rfl ok0.1 ok0.2.1 XO WW) L_2 aE5 [.int 0] [] 0 0 0 (lenOf I2 rfl)
 obtain ⟨rfl, Nq1, e1⟩ := hQ1
 have N1 := Fr.app N0 Nq1
 refine c8 st1 ?_
 show c5 p e U m T1 27 L_2 [.int c0]
 let L_3 : Array Slot := #[oR oa,oI 0,oI 1,oI 0,oI c0]
 refine o4 X1 f d aE6 (l' := L_3) rfl ?_
 refine f5 X1 f d aE7 rfl ?_
 obtain ⟨T2, X2, e2, st2⟩ := getS2 X1 f Y O (host := "") (Or.inl (aj3 w)) Via.refl e1 (SAl.ext XO.2) (g := (mkF m 31 L_3 [.int c0])) rfl (hb d aE8)
 refine c8 st2 ?_
 show c5 p e U m T2 34 L_3 [.ref al, .int c0]
 refine m7 X2 f d Y e2 (AAl.ext XO.2) aE9 ?_
 refine m4 X2 f d aF0 (tlt ok0.2.1).2.1 ?_
 obtain ⟨T4, X4, e4, st4⟩ := getS2 X2 f Y O (host := "") (Or.inl (aj3 w)) Via.refl e2 (SAl.ext XO.2) (g := (mkF m 38 L_3 [])) rfl (hb d aF1)
 refine c8 st4 ?_
 show c5 p e U m T4 41 L_3 [.ref al]
 refine f5 X4 f d aF2 rfl ?_
 obtain ⟨cl5, Ar5, qa5, Sa5, Na5, Ha5, Ga5⟩ := id (AAl.ext XO.2)
 have hin5 : ¬ (c0 < 0 ∨ cl5.slots.size ≤ c0.toNatClampNeg) := inb_of Sa5 ⟨ok0.1, ok0.2.1⟩
 have hat5 : cl5.slots[c0.toNatClampNeg]? = some (.int 1) := Ha5.at hin5 ok0.2.2
 refine c8 (fun t k => X4.baloadBooleans f (j := c0) (v := .int 1) (by rw [e4]; exact Ar5.1) (State.isArrayOf_alike Y.alike Ar5.2.1) Ar5.2.2 hin5 hat5 (g := (mkF m 43 L_3 [.int c0, .ref al])) rfl rfl (hb d aF3) t k) ?_
 show c5 p e U m T4 44 L_3 [.int 1]
 refine o2 (pc := 44) (pc' := 49) X4 f d aF4 ((if0 _ _).trans (feq (by decide : ¬ ((1 : Int32) = (0 : Int32)))).2) ?_
 show c5 p e U m T4 49 L_3 []
 let L_4 : Array Slot := #[oR oa,oI 0,oI 1,oI 1,oI c0]
 refine c8 (fun t k => XS.iinc X4.here f rfl (hb d aF5) rfl (l' := L_4) rfl k) ?_
 show c5 p e U m T4 52 L_4 []
 refine m5 (pc := 52) (pc' := 17) X4 f d aF6 ?_
 refine f4 X4 f d am2 rfl ?_
 refine f4 X4 f d am3 rfl ?_
 refine j5 (pc := 19) (pc' := 55) X4 f d am4 (flt (by decide : ¬ ((1 : Int32) < (1 : Int32)))).2.1 ?_
 refine f6 X4 f d bn1 (z := (1 : Int32)) rfl ?_
 show c5 p e U m T4 56 L_4 [.int 1]
 exact t4 X4 f (t := .boolean) R (by simp) (hb d bn2) (by rw [e4]; exact ⟨rfl, N1, rfl⟩) (by decide) (by decide)
theorem bI7:c4 R9 0 (.aload_n 0) 1:=by decide +kernel
theorem bI8:c4 R9 1 (.iconst 0) 1:=by decide +kernel
theorem bI9:c4 R9 2 (.aload_n 0) 1:=by decide +kernel
theorem bJ0:c4 R9 3 (.invokevirtual 56) 3:=by decide +kernel
theorem bJ1:c4 R9 6 (.invokestatic 38) 3:=by decide +kernel
theorem bJ2:c4 R9 9 .ireturn 1:=by decide +kernel
theorem bJ3 : parseMethodDescriptor "(Ljava/lang/String;II)Z" = some ⟨[(.object "java/lang/String"), .int, .int], some .boolean⟩ := by decide +kernel
theorem cT5 (l : Launch) (Z : State) (a0 : Array Value) (w : j9 Z a0) (ws : List Jvm.Cond) (oa ot : Addr) (kt : ClassId) (c0 : Int32) (z0 pc0 : Addr) (kpc : ClassId) (pcs : List Value) (fm : Value) (al : Addr) (kal : ClassId) (als : List Value) (h0 : Heap) (n0 : Nat) (Z0 : n0 ≤ h0.size) (S_oa : own_S Z h0 oa ot kt (1 : Int32) [.int c0]) (ok0 : s8 als c0) (XO : Old Z n0 h0) (WW : r5 Z z0 pc0 kpc pcs fm al kal als) :
 l0 l Z h0 bY7 R9 1 (some .boolean) ws (Jvm.Room.mk 5 0 0 80) #[.ref oa] (r4 (1 : Int32) h0 n0) := by
 refine l7 (Ls := #[.val (.ref oa)]) (plainFor_of_name al5) (fun p e s m U meth c s₁ Y hh f d r O hnm hlk R X0 e0 => ?_)
 replace O : s.vm.findClass "com/example/prizewell/prizewell/core/AccountName" = some m.cls := O
 have N0 := Fr.nil n0
 obtain ⟨SAl, AAl, r_fm, ⟨cs, hcs, SC⟩, SFM, SZ, BZ, SPc, APc, HPc, HAL, uo, u8, i8, CS⟩ := id WW
 let L_1 : Array Slot := #[oR oa]
 show c5 p e U m s₁ 0 L_1 []
 refine c6 X0 f d bI7 rfl rfl ?_
 refine f6 X0 f d bI8 (z := (0 : Int32)) rfl ?_
 refine c6 X0 f d bI9 rfl rfl ?_
 obtain ⟨_, T1, Lc1, X1, hQ1, st1⟩ := o1 X0 f d r Y e0 O (bG1 w) (C0 w) (B9 w) (C1 w) (o6 w) (C2 w) S_oa.1 (C5 l Z a0 w [] oa ot kt (1 : Int32) [.int c0] z0 pc0 kpc pcs fm al kal als h0 n0 Z0 S_oa XO WW) L_1 bJ0 [] [.int 0, .ref oa] 2 0 0 (lenOf v7 rfl)
 obtain ⟨rfl, Nq1, e1⟩ := hQ1
 have N1 := Fr.app N0 Nq1
 refine c8 st1 ?_
 obtain ⟨_, T2, Lc2, X2, hQ2, st2⟩ := j8 X1 f d r Y e1 O (bG2 w) (bG3 w) (F7 w) (bG4 w) (cT4 l Z a0 w [] oa ot kt c0 z0 pc0 kpc pcs fm al kal als h0 n0 Z0 S_oa ok0 XO WW) L_1 bJ1 [.ref oa, .int 0, .int 1] [] 0 0 0 (lenOf bJ3 rfl)
 obtain ⟨rfl, Nq2, e2⟩ := hQ2
 have N2 := Fr.app N1 Nq2
 refine c8 st2 ?_
 show c5 p e U m T2 9 L_1 [.int 1]
 exact t4 X2 f (t := .boolean) R (by simp) (hb d bJ2) (by rw [e2]; exact ⟨rfl, N2, rfl⟩) (by decide) (by decide)
theorem cT6 (l : Launch) (Z : State) (a0 : Array Value) (w : j9 Z a0) (ws : List Jvm.Cond) (oa ot : Addr) (kt : ClassId) (c0 c1 : Int32) (z0 pc0 : Addr) (kpc : ClassId) (pcs : List Value) (fm : Value) (al : Addr) (kal : ClassId) (als : List Value) (h0 : Heap) (n0 : Nat) (Z0 : n0 ≤ h0.size) (S_oa : own_S Z h0 oa ot kt (2 : Int32) [.int c0, .int c1]) (ok0 : s8 als c0) (ok1 : s8 als c1) (XO : Old Z n0 h0) (WW : r5 Z z0 pc0 kpc pcs fm al kal als) :
 l0 l Z h0 bY6 r6 5 (some .boolean) ws (Jvm.Room.mk 4 0 0 60) #[.ref oa, .int 0, .int 2] (r4 (1 : Int32) h0 n0) := by
 refine l7 (Ls := #[.val (.ref oa), .val (.int 0), .val (.int 2), .unset, .unset]) (plainFor_of_name al5) (fun p e s m U meth c s₁ Y hh f d r O hnm hlk R X0 e0 => ?_)
 replace O : s.vm.findClass "com/example/prizewell/prizewell/core/AccountName" = some m.cls := O
 have N0 := Fr.nil n0
 obtain ⟨SAl, AAl, r_fm, ⟨cs, hcs, SC⟩, SFM, SZ, BZ, SPc, APc, HPc, HAL, uo, u8, i8, CS⟩ := id WW
 let L_1 : Array Slot := #[oR oa,oI 0,oI 2,oU,oU]
 show c5 p e U m s₁ 0 L_1 []
 refine f4 X0 f d bI0 rfl ?_
 refine f4 X0 f d bI1 rfl ?_
 refine m4 X0 f d bI2 (feq (by decide : ¬ ((0 : Int32) = (2 : Int32)))).1 ?_
 refine f4 X0 f d bI3 rfl ?_
 refine f4 X0 f d bI4 rfl ?_
 refine x7 X0 f d bI5 ?_
 show c5 p e U m s₁ 8 L_1 [.int 2]
 refine t9 X0 f d bI6 (z := (64 : Int32)) rfl ?_
 refine j5 (pc := 10) (pc' := 15) X0 f d bm8 (flt (by decide : ¬ ((64 : Int32) < (2 : Int32)))).2.2.2 ?_
 refine f4 X0 f d bm9 rfl ?_
 let L_2 : Array Slot := #[oR oa,oI 0,oI 2,oI 0,oU]
 refine p8 X0 f d bn0 (l' := L_2) rfl ?_
 refine f4 X0 f d am2 rfl ?_
 refine f4 X0 f d am3 rfl ?_
 refine m4 X0 f d am4 (tlt (by decide : (0 : Int32) < (2 : Int32))).2.1 ?_
 refine c6 X0 f d aE3 rfl rfl ?_
 refine f4 X0 f d aE4 rfl ?_
 obtain ⟨_, T1, Lc1, X1, hQ1, st1⟩ := o1 X0 f d r Y e0 O (aM7 w) (H6 w) (H5 w) (H7 w) (o6 w) (H8 w) S_oa.1 (I1 l Z a0 w [] oa ot kt (2 : Int32) [.int c0, .int c1] (0 : Int32) c0 z0 pc0 kpc pcs fm al kal als h0 n0 Z0 S_oa (by decide) (by decide) rfl ok0.1 ok0.2.1 XO WW) L_2 aE5 [.int 0] [] 0 0 0 (lenOf I2 rfl)
 obtain ⟨rfl, Nq1, e1⟩ := hQ1
 have N1 := Fr.app N0 Nq1
 refine c8 st1 ?_
 show c5 p e U m T1 27 L_2 [.int c0]
 let L_3 : Array Slot := #[oR oa,oI 0,oI 2,oI 0,oI c0]
 refine o4 X1 f d aE6 (l' := L_3) rfl ?_
 refine f5 X1 f d aE7 rfl ?_
 obtain ⟨T2, X2, e2, st2⟩ := getS2 X1 f Y O (host := "") (Or.inl (aj3 w)) Via.refl e1 (SAl.ext XO.2) (g := (mkF m 31 L_3 [.int c0])) rfl (hb d aE8)
 refine c8 st2 ?_
 show c5 p e U m T2 34 L_3 [.ref al, .int c0]
 refine m7 X2 f d Y e2 (AAl.ext XO.2) aE9 ?_
 refine m4 X2 f d aF0 (tlt ok0.2.1).2.1 ?_
 obtain ⟨T4, X4, e4, st4⟩ := getS2 X2 f Y O (host := "") (Or.inl (aj3 w)) Via.refl e2 (SAl.ext XO.2) (g := (mkF m 38 L_3 [])) rfl (hb d aF1)
 refine c8 st4 ?_
 show c5 p e U m T4 41 L_3 [.ref al]
 refine f5 X4 f d aF2 rfl ?_
 obtain ⟨cl5, Ar5, qa5, Sa5, Na5, Ha5, Ga5⟩ := id (AAl.ext XO.2)
 have hin5 : ¬ (c0 < 0 ∨ cl5.slots.size ≤ c0.toNatClampNeg) := inb_of Sa5 ⟨ok0.1, ok0.2.1⟩
 have hat5 : cl5.slots[c0.toNatClampNeg]? = some (.int 1) := Ha5.at hin5 ok0.2.2
 refine c8 (fun t k => X4.baloadBooleans f (j := c0) (v := .int 1) (by rw [e4]; exact Ar5.1) (State.isArrayOf_alike Y.alike Ar5.2.1) Ar5.2.2 hin5 hat5 (g := (mkF m 43 L_3 [.int c0, .ref al])) rfl rfl (hb d aF3) t k) ?_
 show c5 p e U m T4 44 L_3 [.int 1]
 refine o2 (pc := 44) (pc' := 49) X4 f d aF4 ((if0 _ _).trans (feq (by decide : ¬ ((1 : Int32) = (0 : Int32)))).2) ?_
 show c5 p e U m T4 49 L_3 []
 let L_4 : Array Slot := #[oR oa,oI 0,oI 2,oI 1,oI c0]
 refine c8 (fun t k => XS.iinc X4.here f rfl (hb d aF5) rfl (l' := L_4) rfl k) ?_
 show c5 p e U m T4 52 L_4 []
 refine m5 (pc := 52) (pc' := 17) X4 f d aF6 ?_
 refine f4 X4 f d am2 rfl ?_
 refine f4 X4 f d am3 rfl ?_
 refine m4 X4 f d am4 (tlt (by decide : (1 : Int32) < (2 : Int32))).2.1 ?_
 refine c6 X4 f d aE3 rfl rfl ?_
 refine f4 X4 f d aE4 rfl ?_
 obtain ⟨_, T6, Lc6, X6, hQ6, st6⟩ := o1 X4 f d r Y e4 O (aM7 w) (H6 w) (H5 w) (H7 w) (o6 w) (H8 w) S_oa.1 (I1 l Z a0 w [] oa ot kt (2 : Int32) [.int c0, .int c1] (1 : Int32) c1 z0 pc0 kpc pcs fm al kal als h0 n0 Z0 S_oa (by decide) (by decide) rfl ok1.1 ok1.2.1 XO WW) L_4 aE5 [.int 1] [] 0 0 0 (lenOf I2 rfl)
 obtain ⟨rfl, Nq6, e6⟩ := hQ6
 have N6 := Fr.app N1 Nq6
 refine c8 st6 ?_
 show c5 p e U m T6 27 L_4 [.int c1]
 let L_5 : Array Slot := #[oR oa,oI 0,oI 2,oI 1,oI c1]
 refine o4 X6 f d aE6 (l' := L_5) rfl ?_
 refine f5 X6 f d aE7 rfl ?_
 obtain ⟨T7, X7, e7, st7⟩ := getS2 X6 f Y O (host := "") (Or.inl (aj3 w)) Via.refl e6 (SAl.ext XO.2) (g := (mkF m 31 L_5 [.int c1])) rfl (hb d aE8)
 refine c8 st7 ?_
 show c5 p e U m T7 34 L_5 [.ref al, .int c1]
 refine m7 X7 f d Y e7 (AAl.ext XO.2) aE9 ?_
 refine m4 X7 f d aF0 (tlt ok1.2.1).2.1 ?_
 obtain ⟨T9, X9, e9, st9⟩ := getS2 X7 f Y O (host := "") (Or.inl (aj3 w)) Via.refl e7 (SAl.ext XO.2) (g := (mkF m 38 L_5 [])) rfl (hb d aF1)
 refine c8 st9 ?_
 show c5 p e U m T9 41 L_5 [.ref al]
 refine f5 X9 f d aF2 rfl ?_
 obtain ⟨cl10, Ar10, qa10, Sa10, Na10, Ha10, Ga10⟩ := id (AAl.ext XO.2)
 have hin10 : ¬ (c1 < 0 ∨ cl10.slots.size ≤ c1.toNatClampNeg) := inb_of Sa10 ⟨ok1.1, ok1.2.1⟩
 have hat10 : cl10.slots[c1.toNatClampNeg]? = some (.int 1) := Ha10.at hin10 ok1.2.2
 refine c8 (fun t k => X9.baloadBooleans f (j := c1) (v := .int 1) (by rw [e9]; exact Ar10.1) (State.isArrayOf_alike Y.alike Ar10.2.1) Ar10.2.2 hin10 hat10 (g := (mkF m 43 L_5 [.int c1, .ref al])) rfl rfl (hb d aF3) t k) ?_
 show c5 p e U m T9 44 L_5 [.int 1]
 refine o2 (pc := 44) (pc' := 49) X9 f d aF4 ((if0 _ _).trans (feq (by decide : ¬ ((1 : Int32) = (0 : Int32)))).2) ?_
 show c5 p e U m T9 49 L_5 []
 let L_6 : Array Slot := #[oR oa,oI 0,oI 2,oI 2,oI c1]
 refine c8 (fun t k => XS.iinc X9.here f rfl (hb d aF5) rfl (l' := L_6) rfl k) ?_
 show c5 p e U m T9 52 L_6 []
 refine m5 (pc := 52) (pc' := 17) X9 f d aF6 ?_
 refine f4 X9 f d am2 rfl ?_
 refine f4 X9 f d am3 rfl ?_
 refine j5 (pc := 19) (pc' := 55) X9 f d am4 (flt (by decide : ¬ ((2 : Int32) < (2 : Int32)))).2.1 ?_
 refine f6 X9 f d bn1 (z := (1 : Int32)) rfl ?_
 show c5 p e U m T9 56 L_6 [.int 1]
 exact t4 X9 f (t := .boolean) R (by simp) (hb d bn2) (by rw [e9]; exact ⟨rfl, N6, rfl⟩) (by decide) (by decide)
theorem cT7 (l : Launch) (Z : State) (a0 : Array Value) (w : j9 Z a0) (ws : List Jvm.Cond) (oa ot : Addr) (kt : ClassId) (c0 c1 : Int32) (z0 pc0 : Addr) (kpc : ClassId) (pcs : List Value) (fm : Value) (al : Addr) (kal : ClassId) (als : List Value) (h0 : Heap) (n0 : Nat) (Z0 : n0 ≤ h0.size) (S_oa : own_S Z h0 oa ot kt (2 : Int32) [.int c0, .int c1]) (ok0 : s8 als c0) (ok1 : s8 als c1) (XO : Old Z n0 h0) (WW : r5 Z z0 pc0 kpc pcs fm al kal als) :
 l0 l Z h0 bY7 R9 1 (some .boolean) ws (Jvm.Room.mk 5 0 0 80) #[.ref oa] (r4 (1 : Int32) h0 n0) := by
 refine l7 (Ls := #[.val (.ref oa)]) (plainFor_of_name al5) (fun p e s m U meth c s₁ Y hh f d r O hnm hlk R X0 e0 => ?_)
 replace O : s.vm.findClass "com/example/prizewell/prizewell/core/AccountName" = some m.cls := O
 have N0 := Fr.nil n0
 obtain ⟨SAl, AAl, r_fm, ⟨cs, hcs, SC⟩, SFM, SZ, BZ, SPc, APc, HPc, HAL, uo, u8, i8, CS⟩ := id WW
 let L_1 : Array Slot := #[oR oa]
 show c5 p e U m s₁ 0 L_1 []
 refine c6 X0 f d bI7 rfl rfl ?_
 refine f6 X0 f d bI8 (z := (0 : Int32)) rfl ?_
 refine c6 X0 f d bI9 rfl rfl ?_
 obtain ⟨_, T1, Lc1, X1, hQ1, st1⟩ := o1 X0 f d r Y e0 O (bG1 w) (C0 w) (B9 w) (C1 w) (o6 w) (C2 w) S_oa.1 (C5 l Z a0 w [] oa ot kt (2 : Int32) [.int c0, .int c1] z0 pc0 kpc pcs fm al kal als h0 n0 Z0 S_oa XO WW) L_1 bJ0 [] [.int 0, .ref oa] 2 0 0 (lenOf v7 rfl)
 obtain ⟨rfl, Nq1, e1⟩ := hQ1
 have N1 := Fr.app N0 Nq1
 refine c8 st1 ?_
 obtain ⟨_, T2, Lc2, X2, hQ2, st2⟩ := j8 X1 f d r Y e1 O (bG2 w) (bG3 w) (F7 w) (bG4 w) (cT6 l Z a0 w [] oa ot kt c0 c1 z0 pc0 kpc pcs fm al kal als h0 n0 Z0 S_oa ok0 ok1 XO WW) L_1 bJ1 [.ref oa, .int 0, .int 2] [] 0 0 0 (lenOf bJ3 rfl)
 obtain ⟨rfl, Nq2, e2⟩ := hQ2
 have N2 := Fr.app N1 Nq2
 refine c8 st2 ?_
 show c5 p e U m T2 9 L_1 [.int 1]
 exact t4 X2 f (t := .boolean) R (by simp) (hb d bJ2) (by rw [e2]; exact ⟨rfl, N2, rfl⟩) (by decide) (by decide)
theorem bJ4:c4 Q5 0 (.iload_n 0) 1:=by decide +kernel
theorem bJ5:c4 Q5 1 (.iload_n 1) 1:=by decide +kernel
theorem bJ6:c4 Q5 2 (.if_icmp .lt 7) 3:=by decide +kernel
theorem cT8:c4 Q5 5 (.iload_n 0) 1:=by decide +kernel
theorem cT9:c4 Q5 6 (.goto 4) 3:=by decide +kernel
theorem bn3:c4 Q5 10 .ireturn 1:=by decide +kernel
theorem Q2 (l : Launch) (Z : State) (a0 : Array Value) (w : j9 Z a0) (ws : List Jvm.Cond) (xa xb : Int32) (h0 : Heap) (n0 : Nat) (Z0 : n0 ≤ h0.size) (hy_ : ¬ xa < xb) :
 l0 l Z h0 bY8 Q5 2 (some .int) ws (Jvm.Room.mk 0 0 0 0) #[.int xa, .int xb] (r4 xa h0 n0) := by
 refine l7 (Ls := #[.val (.int xa), .val (.int xb)]) (Jvm.Free.JP.mathPlain rfl (by decide +kernel)) (fun p e s m U meth c s₁ Y hh f d r O hnm hlk R X0 e0 => ?_)
 replace O : s.vm.findClass "java/lang/Math" = some m.cls := O
 have N0 := Fr.nil n0
 let L_1 : Array Slot := #[oI xa,oI xb]
 show c5 p e U m s₁ 0 L_1 []
 refine f4 X0 f d bJ4 rfl ?_
 refine f4 X0 f d bJ5 rfl ?_
 refine m4 X0 f d bJ6 (flt hy_).1 ?_
 refine f4 X0 f d cT8 rfl ?_
 refine m5 (pc := 6) (pc' := 10) X0 f d cT9 ?_
 show c5 p e U m s₁ 10 L_1 [.int xa]
 exact r8 X0 f R (hb d bn3) (by rw [e0]; exact ⟨rfl, N0, rfl⟩) (by decide) (by decide)
theorem cU0:c4 Q5 9 (.iload_n 1) 1:=by decide +kernel
theorem ak0 (l : Launch) (Z : State) (a0 : Array Value) (w : j9 Z a0) (ws : List Jvm.Cond) (xa xb : Int32) (h0 : Heap) (n0 : Nat) (Z0 : n0 ≤ h0.size) (hy_ : xa < xb) :
 l0 l Z h0 bY8 Q5 2 (some .int) ws (Jvm.Room.mk 0 0 0 0) #[.int xa, .int xb] (r4 xb h0 n0) := by
 refine l7 (Ls := #[.val (.int xa), .val (.int xb)]) (Jvm.Free.JP.mathPlain rfl (by decide +kernel)) (fun p e s m U meth c s₁ Y hh f d r O hnm hlk R X0 e0 => ?_)
 replace O : s.vm.findClass "java/lang/Math" = some m.cls := O
 have N0 := Fr.nil n0
 let L_1 : Array Slot := #[oI xa,oI xb]
 show c5 p e U m s₁ 0 L_1 []
 refine f4 X0 f d bJ4 rfl ?_
 refine f4 X0 f d bJ5 rfl ?_
 refine j5 (pc := 2) (pc' := 9) X0 f d bJ6 (tlt hy_).1 ?_
 refine f4 X0 f d cU0 rfl ?_
 show c5 p e U m s₁ 10 L_1 [.int xb]
 exact r8 X0 f R (hb d bn3) (by rw [e0]; exact ⟨rfl, N0, rfl⟩) (by decide) (by decide)
theorem aS7:c4 L3 0 (.iload_n 0) 1:=by decide +kernel
theorem aS8:c4 L3 1 (.iload_n 1) 1:=by decide +kernel
theorem az5:c4 L3 2 (.if_icmp .gt 7) 3:=by decide +kernel
theorem bJ7:c4 L3 5 (.iload_n 0) 1:=by decide +kernel
theorem bJ8:c4 L3 6 (.goto 4) 3:=by decide +kernel
theorem av0:c4 L3 10 .ireturn 1:=by decide +kernel
theorem R5 (l : Launch) (Z : State) (a0 : Array Value) (w : j9 Z a0) (ws : List Jvm.Cond) (xa xb : Int32) (h0 : Heap) (n0 : Nat) (Z0 : n0 ≤ h0.size) (hy_ : ¬ xb < xa) :
 l0 l Z h0 aU3 L3 2 (some .int) ws (Jvm.Room.mk 0 0 0 0) #[.int xa, .int xb] (r4 xa h0 n0) := by
 refine l7 (Ls := #[.val (.int xa), .val (.int xb)]) (Jvm.Free.JP.mathPlain rfl (by decide +kernel)) (fun p e s m U meth c s₁ Y hh f d r O hnm hlk R X0 e0 => ?_)
 replace O : s.vm.findClass "java/lang/Math" = some m.cls := O
 have N0 := Fr.nil n0
 let L_1 : Array Slot := #[oI xa,oI xb]
 show c5 p e U m s₁ 0 L_1 []
 refine f4 X0 f d aS7 rfl ?_
 refine f4 X0 f d aS8 rfl ?_
 refine m4 X0 f d az5 (flt hy_).2.2.1 ?_
 refine f4 X0 f d bJ7 rfl ?_
 refine m5 (pc := 6) (pc' := 10) X0 f d bJ8 ?_
 show c5 p e U m s₁ 10 L_1 [.int xa]
 exact r8 X0 f R (hb d av0) (by rw [e0]; exact ⟨rfl, N0, rfl⟩) (by decide) (by decide)
theorem bJ9:c4 L3 9 (.iload_n 1) 1:=by decide +kernel
theorem dm7 (l : Launch) (Z : State) (a0 : Array Value) (w : j9 Z a0) (ws : List Jvm.Cond) (xa xb : Int32) (h0 : Heap) (n0 : Nat) (Z0 : n0 ≤ h0.size) (hy_ : xb < xa) :
 l0 l Z h0 aU3 L3 2 (some .int) ws (Jvm.Room.mk 0 0 0 0) #[.int xa, .int xb] (r4 xb h0 n0) := by
 refine l7 (Ls := #[.val (.int xa), .val (.int xb)]) (Jvm.Free.JP.mathPlain rfl (by decide +kernel)) (fun p e s m U meth c s₁ Y hh f d r O hnm hlk R X0 e0 => ?_)
 replace O : s.vm.findClass "java/lang/Math" = some m.cls := O
 have N0 := Fr.nil n0
 let L_1 : Array Slot := #[oI xa,oI xb]
 show c5 p e U m s₁ 0 L_1 []
 refine f4 X0 f d aS7 rfl ?_
 refine f4 X0 f d aS8 rfl ?_
 refine j5 (pc := 2) (pc' := 9) X0 f d az5 (tlt hy_).2.2.1 ?_
 refine f4 X0 f d bJ9 rfl ?_
 show c5 p e U m s₁ 10 L_1 [.int xb]
 exact r8 X0 f R (hb d av0) (by rw [e0]; exact ⟨rfl, N0, rfl⟩) (by decide) (by decide)
theorem bK0 (l : Launch) (Z : State) (a0 : Array Value) (w : j9 Z a0) (ws : List Jvm.Cond) (xa xb : Int32) (h0 : Heap) (n0 : Nat) (Z0 : n0 ≤ h0.size) (hy_ : ¬ xa < xb) :
 l0 l Z h0 aU3 L3 2 (some .int) ws (Jvm.Room.mk 0 0 0 0) #[.int xa, .int xb] (r4 xb h0 n0) := by
 refine l7 (Ls := #[.val (.int xa), .val (.int xb)]) (Jvm.Free.JP.mathPlain rfl (by decide +kernel)) (fun p e s m U meth c s₁ Y hh f d r O hnm hlk R X0 e0 => ?_)
 replace O : s.vm.findClass "java/lang/Math" = some m.cls := O
 have N0 := Fr.nil n0
 let L_1 : Array Slot := #[oI xa,oI xb]
 show c5 p e U m s₁ 0 L_1 []
 refine f4 X0 f d aS7 rfl ?_
 refine f4 X0 f d aS8 rfl ?_
 by_cases hc2 : xb < xa
 · refine j5 (pc := 2) (pc' := 9) X0 f d az5 (tlt hc2).2.2.1 ?_
   refine f4 X0 f d bJ9 rfl ?_
   show c5 p e U m s₁ 10 L_1 [.int xb]
   exact r8 X0 f R (hb d av0) (by rw [e0]; exact ⟨rfl, N0, rfl⟩) (by decide) (by decide)
 · refine m4 X0 f d az5 (flt hc2).2.2.1 ?_
   refine f4 X0 f d bJ7 rfl ?_
   refine m5 (pc := 6) (pc' := 10) X0 f d bJ8 ?_
   show c5 p e U m s₁ 10 L_1 [.int xa]
   exact r8 X0 f R (hb d av0) (by rw [e0]; exact ⟨by rw [ce7 hy_ hc2], N0, rfl⟩) (by decide) (by decide)
theorem G1 : plainName "java/util/Arrays" = true := by first | (simp [plainName, overriddenIn]; done) | decide +kernel
theorem aS9:c4 w8 0 (.iload_n 1) 1:=by decide +kernel
theorem aT0:c4 w8 1 (.aload_n 0) 1:=by decide +kernel
theorem aT1:c4 w8 2 .arraylength 1:=by decide +kernel
theorem aT2:c4 w8 3 (.if_icmp .ne 11) 3:=by decide +kernel
theorem aF7:c4 w8 14 (.iload_n 1) 1:=by decide +kernel
theorem aF8:c4 w8 15 (.newarray .long) 2:=by decide +kernel
theorem aF9:c4 w8 17 (.astore_n 2) 1:=by decide +kernel
theorem aG0:c4 w8 18 (.aload_n 0) 1:=by decide +kernel
theorem aG1:c4 w8 19 (.iconst 0) 1:=by decide +kernel
theorem aG2:c4 w8 20 (.aload_n 2) 1:=by decide +kernel
theorem aG3:c4 w8 21 (.iconst 0) 1:=by decide +kernel
theorem aG4:c4 w8 22 (.aload_n 0) 1:=by decide +kernel
theorem aG5:c4 w8 23 .arraylength 1:=by decide +kernel
theorem aG6:c4 w8 24 (.iload_n 1) 1:=by decide +kernel
theorem aG7:c4 w8 25 (.invokestatic 304) 3:=by decide +kernel
theorem aG8:c4 w8 28 (.invokestatic 150) 3:=by decide +kernel
theorem aG9:c4 w8 31 (.aload_n 2) 1:=by decide +kernel
theorem aH0:c4 w8 32 .areturn 1:=by decide +kernel
theorem s9 : parseMethodDescriptor "(II)I" = some ⟨[.int, .int], some .int⟩ := by decide +kernel
def cd2 (Z : State)  (h0 : Heap) (n0 : Nat) (v : Option Value) (h : Heap) (L : List Loc) : Prop := ∃ (b : Addr) (kb : ClassId), v = some (.ref b) ∧ Fr n0 L ∧ Keep h0 h [] ∧ h0.size ≤ b ∧ Arv Z h b kb .long (1 : Int32) [] (.long (0 : Int64))
theorem cf2 (l : Launch) (Z : State) (a0 : Array Value) (w : j9 Z a0) (ws : List Jvm.Cond) (ot : Addr) (kt : ClassId)  (h0 : Heap) (n0 : Nat) (Z0 : n0 ≤ h0.size) (At : Arv Z h0 ot kt .long (0 : Int32) [] (.long (0 : Int64))) :
 l0 l Z h0 aU4 w8 3 (some (.array .long)) ws (Jvm.Room.mk 1 1 1 40) #[.ref ot, .int 1] (cd2 Z  h0 n0) := by
 refine l7 (Ls := #[.val (.ref ot), .val (.int 1), .unset]) (plainFor_of_name G1) (fun p e s m U meth c s₁ Y hh f d r O hnm hlk R X0 e0 => ?_)
 replace O : s.vm.findClass "java/util/Arrays" = some m.cls := O
 have N0 := Fr.nil n0
 let L_1 : Array Slot := #[oR ot,oI 1,oU]
 show c5 p e U m s₁ 0 L_1 []
 refine f4 X0 f d aS9 rfl ?_
 refine c6 X0 f d aT0 rfl rfl ?_
 refine m7 X0 f d Y e0 At aT1 ?_
 refine j5 (pc := 3) (pc' := 14) X0 f d aT2 (feq (by decide : ¬ ((1 : Int32) = (0 : Int32)))).2 ?_
 refine f4 X0 f d aF7 rfl ?_
 obtain ⟨T2, h2, k2, X2, e2, E2, A2, st2⟩ := newP (aty := .long) X0 f Y (at0 w) e0 (g := (mkF m 15 L_1 [.int 1])) rfl (hb d aF8) rfl (by decide) (cap := 1) (by decide) (by decide) (by decide) (by decide)
 obtain ⟨b2, g2⟩ : ∃ z, z = h0.size := ⟨_, rfl⟩
 rw [← g2] at A2 st2
 have g_b2 : n0 ≤ b2 := c9 Z0 (f7 g2.symm)
 have sz_b2 : h0.size ≤ b2 := c9 (Keep.refl h0 []).1 (f7 g2.symm)
 have At__2 := At.ext E2
 have sz2 := c9 Z0 E2.1
 have KP2 := (Keep.refl h0 []).ext E2
 have V2 : Arv Z h2 b2 k2 .long (1 : Int32) [(.long (0 : Int64))] (.long (0 : Int64)) := (Arv.new A2 (by decide)).pad (pad_rep [] (.long (0 : Int64)) 1)
 refine c8 st2 ?_
 show c5 p e U m T2 17 L_1 [.ref b2]
 let L_2 : Array Slot := #[oR ot,oI 1,oR b2]
 refine w9 X2 f d aF9 rfl (l' := L_2) rfl ?_
 refine c6 X2 f d aG0 rfl rfl ?_
 refine f6 X2 f d aG1 (z := (0 : Int32)) rfl ?_
 refine c6 X2 f d aG2 rfl rfl ?_
 refine f6 X2 f d aG3 (z := (0 : Int32)) rfl ?_
 refine c6 X2 f d aG4 rfl rfl ?_
 refine m7 X2 f d Y e2 At__2 aG5 ?_
 refine f4 X2 f d aG6 rfl ?_
 obtain ⟨_, T4, Lc4, X4, hQ4, st4⟩ := j8 X2 f d r Y e2 O (I8 w) (I9 w) (s6 w) (J0 w) (R5 l Z a0 w [] (0 : Int32) (1 : Int32) h2 n0 sz2 (by decide)) L_2 aG7 [.int 0, .int 1] [.int 0, .ref b2, .int 0, .ref ot] 4 0 0 (lenOf s9 rfl)
 obtain ⟨rfl, Nq4, e4⟩ := hQ4
 have N4 := Fr.app N0 Nq4
 refine c8 st4 ?_
 obtain ⟨T5, h5, L5, X5, e5, N5, K5, A5, st5⟩ := cpA X4 f Y O (J1 w) (v4 w) (v2 w) (v3 w) e4 At__2 V2 (us := []) (Or.inl ⟨rfl, rfl⟩) (by decide) (by decide) (by decide) (by decide) (by decide) rfl (by decide) N4 g_b2 (g := (mkF m 28 L_2 [.int 0, .int 0, .ref b2, .int 0, .ref ot])) rfl (by rw [r]; rfl) rfl (hb d aG8) (by decide) (W := 0) (by show 2 * 0 + _ ≤ _; exact f7 rfl) (by decide)
 have KP5 := KP2.trans K5 (allS (Or.inr sz_b2) all0)
 refine c8 st5 ?_
 show c5 p e U m T5 31 L_2 []
 refine c6 X5 f d aG9 rfl rfl ?_
 show c5 p e U m T5 32 L_2 [.ref b2]
 exact p9 X5 f R rfl rfl (hb d aH0) (by rw [e5]; exact ⟨_, _, rfl, N5, KP5, sz_b2, (Arv.pad A5 (fun i => (pad_rep [] (.long (0 : Int64)) 1 i).symm))⟩) (by decide) (by decide)
def cc6 (Z : State) (v0 : Int64) (h0 : Heap) (n0 : Nat) (v : Option Value) (h : Heap) (L : List Loc) : Prop := ∃ (b : Addr) (kb : ClassId), v = some (.ref b) ∧ Fr n0 L ∧ Keep h0 h [] ∧ h0.size ≤ b ∧ Arv Z h b kb .long (16 : Int32) [.long v0] (.long (0 : Int64))
theorem aC0 (l : Launch) (Z : State) (a0 : Array Value) (w : j9 Z a0) (ws : List Jvm.Cond) (ot : Addr) (kt : ClassId) (v0 : Int64) (h0 : Heap) (n0 : Nat) (Z0 : n0 ≤ h0.size) (At : Arv Z h0 ot kt .long (1 : Int32) [.long v0] (.long (0 : Int64))) :
 l0 l Z h0 aU4 w8 3 (some (.array .long)) ws (Jvm.Room.mk 1 1 16 40) #[.ref ot, .int 16] (cc6 Z v0 h0 n0) := by
 refine l7 (Ls := #[.val (.ref ot), .val (.int 16), .unset]) (plainFor_of_name G1) (fun p e s m U meth c s₁ Y hh f d r O hnm hlk R X0 e0 => ?_)
 replace O : s.vm.findClass "java/util/Arrays" = some m.cls := O
 have N0 := Fr.nil n0
 let L_1 : Array Slot := #[oR ot,oI 16,oU]
 show c5 p e U m s₁ 0 L_1 []
 refine f4 X0 f d aS9 rfl ?_
 refine c6 X0 f d aT0 rfl rfl ?_
 refine m7 X0 f d Y e0 At aT1 ?_
 refine j5 (pc := 3) (pc' := 14) X0 f d aT2 (feq (by decide : ¬ ((16 : Int32) = (1 : Int32)))).2 ?_
 refine f4 X0 f d aF7 rfl ?_
 obtain ⟨T2, h2, k2, X2, e2, E2, A2, st2⟩ := newP (aty := .long) X0 f Y (at0 w) e0 (g := (mkF m 15 L_1 [.int 16])) rfl (hb d aF8) rfl (by decide) (cap := 16) (by decide) (by decide) (by decide) (by decide)
 obtain ⟨b2, g2⟩ : ∃ z, z = h0.size := ⟨_, rfl⟩
 rw [← g2] at A2 st2
 have g_b2 : n0 ≤ b2 := c9 Z0 (f7 g2.symm)
 have sz_b2 : h0.size ≤ b2 := c9 (Keep.refl h0 []).1 (f7 g2.symm)
 have At__2 := At.ext E2
 have sz2 := c9 Z0 E2.1
 have KP2 := (Keep.refl h0 []).ext E2
 have V2 : Arv Z h2 b2 k2 .long (16 : Int32) [(.long (0 : Int64)), (.long (0 : Int64)), (.long (0 : Int64)), (.long (0 : Int64)), (.long (0 : Int64)), (.long (0 : Int64)), (.long (0 : Int64)), (.long (0 : Int64)), (.long (0 : Int64)), (.long (0 : Int64)), (.long (0 : Int64)), (.long (0 : Int64)), (.long (0 : Int64)), (.long (0 : Int64)), (.long (0 : Int64)), (.long (0 : Int64))] (.long (0 : Int64)) := (Arv.new A2 (by decide)).pad (pad_rep [] (.long (0 : Int64)) 16)
 refine c8 st2 ?_
 show c5 p e U m T2 17 L_1 [.ref b2]
 let L_2 : Array Slot := #[oR ot,oI 16,oR b2]
 refine w9 X2 f d aF9 rfl (l' := L_2) rfl ?_
 refine c6 X2 f d aG0 rfl rfl ?_
 refine f6 X2 f d aG1 (z := (0 : Int32)) rfl ?_
 refine c6 X2 f d aG2 rfl rfl ?_
 refine f6 X2 f d aG3 (z := (0 : Int32)) rfl ?_
 refine c6 X2 f d aG4 rfl rfl ?_
 refine m7 X2 f d Y e2 At__2 aG5 ?_
 refine f4 X2 f d aG6 rfl ?_
 obtain ⟨_, T4, Lc4, X4, hQ4, st4⟩ := j8 X2 f d r Y e2 O (I8 w) (I9 w) (s6 w) (J0 w) (R5 l Z a0 w [] (1 : Int32) (16 : Int32) h2 n0 sz2 (by decide)) L_2 aG7 [.int 1, .int 16] [.int 0, .ref b2, .int 0, .ref ot] 4 0 0 (lenOf s9 rfl)
 obtain ⟨rfl, Nq4, e4⟩ := hQ4
 have N4 := Fr.app N0 Nq4
 refine c8 st4 ?_
 obtain ⟨T5, h5, L5, X5, e5, N5, K5, A5, st5⟩ := cpA X4 f Y O (J1 w) (v4 w) (v2 w) (v3 w) e4 At__2 V2 (us := [.long v0]) (Or.inl ⟨rfl, rfl⟩) (by decide) (by decide) (by decide) (by decide) (by decide) rfl (by decide) N4 g_b2 (g := (mkF m 28 L_2 [.int 1, .int 0, .ref b2, .int 0, .ref ot])) rfl (by rw [r]; rfl) rfl (hb d aG8) (by decide) (W := 0) (by show 2 * 0 + _ ≤ _; exact f7 rfl) (by decide)
 have KP5 := KP2.trans K5 (allS (Or.inr sz_b2) all0)
 refine c8 st5 ?_
 show c5 p e U m T5 31 L_2 []
 refine c6 X5 f d aG9 rfl rfl ?_
 show c5 p e U m T5 32 L_2 [.ref b2]
 exact p9 X5 f R rfl rfl (hb d aH0) (by rw [e5]; exact ⟨_, _, rfl, N5, KP5, sz_b2, (Arv.pad A5 (fun i => (pad_rep [.long v0] (.long (0 : Int64)) 15 i).symm))⟩) (by decide) (by decide)
def cc7 (Z : State)  (h0 : Heap) (n0 : Nat) (v : Option Value) (h : Heap) (L : List Loc) : Prop := ∃ (b : Addr) (kb : ClassId), v = some (.ref b) ∧ Fr n0 L ∧ Keep h0 h [] ∧ h0.size ≤ b ∧ Arv Z h b kb .long (16 : Int32) [] (.long (0 : Int64))
theorem aX5 (l : Launch) (Z : State) (a0 : Array Value) (w : j9 Z a0) (ws : List Jvm.Cond) (ot : Addr) (kt : ClassId)  (h0 : Heap) (n0 : Nat) (Z0 : n0 ≤ h0.size) (At : Arv Z h0 ot kt .long (0 : Int32) [] (.long (0 : Int64))) :
 l0 l Z h0 aU4 w8 3 (some (.array .long)) ws (Jvm.Room.mk 1 1 16 40) #[.ref ot, .int 16] (cc7 Z  h0 n0) := by
 refine l7 (Ls := #[.val (.ref ot), .val (.int 16), .unset]) (plainFor_of_name G1) (fun p e s m U meth c s₁ Y hh f d r O hnm hlk R X0 e0 => ?_)
 replace O : s.vm.findClass "java/util/Arrays" = some m.cls := O
 have N0 := Fr.nil n0
 let L_1 : Array Slot := #[oR ot,oI 16,oU]
 show c5 p e U m s₁ 0 L_1 []
 refine f4 X0 f d aS9 rfl ?_
 refine c6 X0 f d aT0 rfl rfl ?_
 refine m7 X0 f d Y e0 At aT1 ?_
 refine j5 (pc := 3) (pc' := 14) X0 f d aT2 (feq (by decide : ¬ ((16 : Int32) = (0 : Int32)))).2 ?_
 refine f4 X0 f d aF7 rfl ?_
 obtain ⟨T2, h2, k2, X2, e2, E2, A2, st2⟩ := newP (aty := .long) X0 f Y (at0 w) e0 (g := (mkF m 15 L_1 [.int 16])) rfl (hb d aF8) rfl (by decide) (cap := 16) (by decide) (by decide) (by decide) (by decide)
 obtain ⟨b2, g2⟩ : ∃ z, z = h0.size := ⟨_, rfl⟩
 rw [← g2] at A2 st2
 have g_b2 : n0 ≤ b2 := c9 Z0 (f7 g2.symm)
 have sz_b2 : h0.size ≤ b2 := c9 (Keep.refl h0 []).1 (f7 g2.symm)
 have At__2 := At.ext E2
 have sz2 := c9 Z0 E2.1
 have KP2 := (Keep.refl h0 []).ext E2
 have V2 : Arv Z h2 b2 k2 .long (16 : Int32) [(.long (0 : Int64)), (.long (0 : Int64)), (.long (0 : Int64)), (.long (0 : Int64)), (.long (0 : Int64)), (.long (0 : Int64)), (.long (0 : Int64)), (.long (0 : Int64)), (.long (0 : Int64)), (.long (0 : Int64)), (.long (0 : Int64)), (.long (0 : Int64)), (.long (0 : Int64)), (.long (0 : Int64)), (.long (0 : Int64)), (.long (0 : Int64))] (.long (0 : Int64)) := (Arv.new A2 (by decide)).pad (pad_rep [] (.long (0 : Int64)) 16)
 refine c8 st2 ?_
 show c5 p e U m T2 17 L_1 [.ref b2]
 let L_2 : Array Slot := #[oR ot,oI 16,oR b2]
 refine w9 X2 f d aF9 rfl (l' := L_2) rfl ?_
 refine c6 X2 f d aG0 rfl rfl ?_
 refine f6 X2 f d aG1 (z := (0 : Int32)) rfl ?_
 refine c6 X2 f d aG2 rfl rfl ?_
 refine f6 X2 f d aG3 (z := (0 : Int32)) rfl ?_
 refine c6 X2 f d aG4 rfl rfl ?_
 refine m7 X2 f d Y e2 At__2 aG5 ?_
 refine f4 X2 f d aG6 rfl ?_
 obtain ⟨_, T4, Lc4, X4, hQ4, st4⟩ := j8 X2 f d r Y e2 O (I8 w) (I9 w) (s6 w) (J0 w) (R5 l Z a0 w [] (0 : Int32) (16 : Int32) h2 n0 sz2 (by decide)) L_2 aG7 [.int 0, .int 16] [.int 0, .ref b2, .int 0, .ref ot] 4 0 0 (lenOf s9 rfl)
 obtain ⟨rfl, Nq4, e4⟩ := hQ4
 have N4 := Fr.app N0 Nq4
 refine c8 st4 ?_
 obtain ⟨T5, h5, L5, X5, e5, N5, K5, A5, st5⟩ := cpA X4 f Y O (J1 w) (v4 w) (v2 w) (v3 w) e4 At__2 V2 (us := []) (Or.inl ⟨rfl, rfl⟩) (by decide) (by decide) (by decide) (by decide) (by decide) rfl (by decide) N4 g_b2 (g := (mkF m 28 L_2 [.int 0, .int 0, .ref b2, .int 0, .ref ot])) rfl (by rw [r]; rfl) rfl (hb d aG8) (by decide) (W := 0) (by show 2 * 0 + _ ≤ _; exact f7 rfl) (by decide)
 have KP5 := KP2.trans K5 (allS (Or.inr sz_b2) all0)
 refine c8 st5 ?_
 show c5 p e U m T5 31 L_2 []
 refine c6 X5 f d aG9 rfl rfl ?_
 show c5 p e U m T5 32 L_2 [.ref b2]
 exact p9 X5 f R rfl rfl (hb d aH0) (by rw [e5]; exact ⟨_, _, rfl, N5, KP5, sz_b2, (Arv.pad A5 (fun i => (pad_rep [] (.long (0 : Int64)) 16 i).symm))⟩) (by decide) (by decide)
theorem aT3:c4 w7 0 (.iload_n 1) 1:=by decide +kernel
theorem aT4:c4 w7 1 (.aload_n 0) 1:=by decide +kernel
theorem aT5:c4 w7 2 .arraylength 1:=by decide +kernel
theorem aT6:c4 w7 3 (.if_icmp .ne 11) 3:=by decide +kernel
theorem aH1:c4 w7 14 (.iload_n 1) 1:=by decide +kernel
theorem aH2:c4 w7 15 (.newarray .int) 2:=by decide +kernel
theorem aH3:c4 w7 17 (.astore_n 2) 1:=by decide +kernel
theorem aH4:c4 w7 18 (.aload_n 0) 1:=by decide +kernel
theorem aH5:c4 w7 19 (.iconst 0) 1:=by decide +kernel
theorem aH6:c4 w7 20 (.aload_n 2) 1:=by decide +kernel
theorem aH7:c4 w7 21 (.iconst 0) 1:=by decide +kernel
theorem aH8:c4 w7 22 (.aload_n 0) 1:=by decide +kernel
theorem aH9:c4 w7 23 .arraylength 1:=by decide +kernel
theorem aI0:c4 w7 24 (.iload_n 1) 1:=by decide +kernel
theorem aI1:c4 w7 25 (.invokestatic 304) 3:=by decide +kernel
theorem aI2:c4 w7 28 (.invokestatic 150) 3:=by decide +kernel
theorem aI3:c4 w7 31 (.aload_n 2) 1:=by decide +kernel
theorem aI4:c4 w7 32 .areturn 1:=by decide +kernel
def cd3 (Z : State) (v0 : Int32) (h0 : Heap) (n0 : Nat) (v : Option Value) (h : Heap) (L : List Loc) : Prop := ∃ (b : Addr) (kb : ClassId), v = some (.ref b) ∧ Fr n0 L ∧ Keep h0 h [] ∧ h0.size ≤ b ∧ Arv Z h b kb .int 2 [.int v0] (.int 0)
theorem cf3 (l : Launch) (Z : State) (a0 : Array Value) (w : j9 Z a0) (ws : List Jvm.Cond) (ot : Addr) (kt : ClassId) (v0 : Int32) (h0 : Heap) (n0 : Nat) (Z0 : n0 ≤ h0.size) (At : Arv Z h0 ot kt .int 1 [.int v0] (.int 0)) :
 l0 l Z h0 aU5 w7 3 (some (.array .int)) ws (Jvm.Room.mk 1 1 2 40) #[.ref ot, .int 2] (cd3 Z v0 h0 n0) := by
 refine l7 (Ls := #[.val (.ref ot), .val (.int 2), .unset]) (plainFor_of_name G1) (fun p e s m U meth c s₁ Y hh f d r O hnm hlk R X0 e0 => ?_)
 replace O : s.vm.findClass "java/util/Arrays" = some m.cls := O
 have N0 := Fr.nil n0
 let L_1 : Array Slot := #[oR ot,oI 2,oU]
 show c5 p e U m s₁ 0 L_1 []
 refine f4 X0 f d aT3 rfl ?_
 refine c6 X0 f d aT4 rfl rfl ?_
 refine m7 X0 f d Y e0 At aT5 ?_
 refine j5 (pc := 3) (pc' := 14) X0 f d aT6 (feq (by decide : ¬ ((2 : Int32) = (1 : Int32)))).2 ?_
 refine f4 X0 f d aH1 rfl ?_
 obtain ⟨T2, h2, k2, X2, e2, E2, A2, st2⟩ := newP (aty := .int) X0 f Y (ae8 w) e0 (g := (mkF m 15 L_1 [.int 2])) rfl (hb d aH2) rfl (by decide) (cap := 2) (by decide) (by decide) (by decide) (by decide)
 obtain ⟨b2, g2⟩ : ∃ z, z = h0.size := ⟨_, rfl⟩
 rw [← g2] at A2 st2
 have g_b2 : n0 ≤ b2 := c9 Z0 (f7 g2.symm)
 have sz_b2 : h0.size ≤ b2 := c9 (Keep.refl h0 []).1 (f7 g2.symm)
 have At__2 := At.ext E2
 have sz2 := c9 Z0 E2.1
 have KP2 := (Keep.refl h0 []).ext E2
 have V2 : Arv Z h2 b2 k2 .int 2 [.int 0, .int 0] (.int 0) := (Arv.new A2 (by decide)).pad (pad_rep [] (.int 0) 2)
 refine c8 st2 ?_
 show c5 p e U m T2 17 L_1 [.ref b2]
 let L_2 : Array Slot := #[oR ot,oI 2,oR b2]
 refine w9 X2 f d aH3 rfl (l' := L_2) rfl ?_
 refine c6 X2 f d aH4 rfl rfl ?_
 refine f6 X2 f d aH5 (z := (0 : Int32)) rfl ?_
 refine c6 X2 f d aH6 rfl rfl ?_
 refine f6 X2 f d aH7 (z := (0 : Int32)) rfl ?_
 refine c6 X2 f d aH8 rfl rfl ?_
 refine m7 X2 f d Y e2 At__2 aH9 ?_
 refine f4 X2 f d aI0 rfl ?_
 obtain ⟨_, T4, Lc4, X4, hQ4, st4⟩ := j8 X2 f d r Y e2 O (I8 w) (I9 w) (s6 w) (J0 w) (R5 l Z a0 w [] (1 : Int32) (2 : Int32) h2 n0 sz2 (by decide)) L_2 aI1 [.int 1, .int 2] [.int 0, .ref b2, .int 0, .ref ot] 4 0 0 (lenOf s9 rfl)
 obtain ⟨rfl, Nq4, e4⟩ := hQ4
 have N4 := Fr.app N0 Nq4
 refine c8 st4 ?_
 obtain ⟨T5, h5, L5, X5, e5, N5, K5, A5, st5⟩ := cpA X4 f Y O (J1 w) (v4 w) (v2 w) (v3 w) e4 At__2 V2 (us := [.int v0]) (Or.inl ⟨rfl, rfl⟩) (by decide) (by decide) (by decide) (by decide) (by decide) rfl (by decide) N4 g_b2 (g := (mkF m 28 L_2 [.int 1, .int 0, .ref b2, .int 0, .ref ot])) rfl (by rw [r]; rfl) rfl (hb d aI2) (by decide) (W := 0) (by show 2 * 0 + _ ≤ _; exact f7 rfl) (by decide)
 have KP5 := KP2.trans K5 (allS (Or.inr sz_b2) all0)
 refine c8 st5 ?_
 show c5 p e U m T5 31 L_2 []
 refine c6 X5 f d aI3 rfl rfl ?_
 show c5 p e U m T5 32 L_2 [.ref b2]
 exact p9 X5 f R rfl rfl (hb d aI4) (by rw [e5]; exact ⟨_, _, rfl, N5, KP5, sz_b2, (Arv.pad A5 (fun i => (pad_rep [.int v0] (.int 0) 1 i).symm))⟩) (by decide) (by decide)
def cc8 (Z : State) (v0 v1 : Int32) (h0 : Heap) (n0 : Nat) (v : Option Value) (h : Heap) (L : List Loc) : Prop := ∃ (b : Addr) (kb : ClassId), v = some (.ref b) ∧ Fr n0 L ∧ Keep h0 h [] ∧ h0.size ≤ b ∧ Arv Z h b kb .int 17 [.int v0, .int v1] (.int 0)
theorem aC1 (l : Launch) (Z : State) (a0 : Array Value) (w : j9 Z a0) (ws : List Jvm.Cond) (ot : Addr) (kt : ClassId) (v0 v1 : Int32) (h0 : Heap) (n0 : Nat) (Z0 : n0 ≤ h0.size) (At : Arv Z h0 ot kt .int 2 [.int v0, .int v1] (.int 0)) :
 l0 l Z h0 aU5 w7 3 (some (.array .int)) ws (Jvm.Room.mk 1 1 17 40) #[.ref ot, .int 17] (cc8 Z v0 v1 h0 n0) := by
 refine l7 (Ls := #[.val (.ref ot), .val (.int 17), .unset]) (plainFor_of_name G1) (fun p e s m U meth c s₁ Y hh f d r O hnm hlk R X0 e0 => ?_)
 replace O : s.vm.findClass "java/util/Arrays" = some m.cls := O
 have N0 := Fr.nil n0
 let L_1 : Array Slot := #[oR ot,oI 17,oU]
 show c5 p e U m s₁ 0 L_1 []
 refine f4 X0 f d aT3 rfl ?_
 refine c6 X0 f d aT4 rfl rfl ?_
 refine m7 X0 f d Y e0 At aT5 ?_
 refine j5 (pc := 3) (pc' := 14) X0 f d aT6 (feq (by decide : ¬ ((17 : Int32) = (2 : Int32)))).2 ?_
 refine f4 X0 f d aH1 rfl ?_
 obtain ⟨T2, h2, k2, X2, e2, E2, A2, st2⟩ := newP (aty := .int) X0 f Y (ae8 w) e0 (g := (mkF m 15 L_1 [.int 17])) rfl (hb d aH2) rfl (by decide) (cap := 17) (by decide) (by decide) (by decide) (by decide)
 obtain ⟨b2, g2⟩ : ∃ z, z = h0.size := ⟨_, rfl⟩
 rw [← g2] at A2 st2
 have g_b2 : n0 ≤ b2 := c9 Z0 (f7 g2.symm)
 have sz_b2 : h0.size ≤ b2 := c9 (Keep.refl h0 []).1 (f7 g2.symm)
 have At__2 := At.ext E2
 have sz2 := c9 Z0 E2.1
 have KP2 := (Keep.refl h0 []).ext E2
 have V2 : Arv Z h2 b2 k2 .int 17 [.int 0, .int 0, .int 0, .int 0, .int 0, .int 0, .int 0, .int 0, .int 0, .int 0, .int 0, .int 0, .int 0, .int 0, .int 0, .int 0, .int 0] (.int 0) := (Arv.new A2 (by decide)).pad (pad_rep [] (.int 0) 17)
 refine c8 st2 ?_
 show c5 p e U m T2 17 L_1 [.ref b2]
 let L_2 : Array Slot := #[oR ot,oI 17,oR b2]
 refine w9 X2 f d aH3 rfl (l' := L_2) rfl ?_
 refine c6 X2 f d aH4 rfl rfl ?_
 refine f6 X2 f d aH5 (z := (0 : Int32)) rfl ?_
 refine c6 X2 f d aH6 rfl rfl ?_
 refine f6 X2 f d aH7 (z := (0 : Int32)) rfl ?_
 refine c6 X2 f d aH8 rfl rfl ?_
 refine m7 X2 f d Y e2 At__2 aH9 ?_
 refine f4 X2 f d aI0 rfl ?_
 obtain ⟨_, T4, Lc4, X4, hQ4, st4⟩ := j8 X2 f d r Y e2 O (I8 w) (I9 w) (s6 w) (J0 w) (R5 l Z a0 w [] (2 : Int32) (17 : Int32) h2 n0 sz2 (by decide)) L_2 aI1 [.int 2, .int 17] [.int 0, .ref b2, .int 0, .ref ot] 4 0 0 (lenOf s9 rfl)
 obtain ⟨rfl, Nq4, e4⟩ := hQ4
 have N4 := Fr.app N0 Nq4
 refine c8 st4 ?_
 obtain ⟨T5, h5, L5, X5, e5, N5, K5, A5, st5⟩ := cpA X4 f Y O (J1 w) (v4 w) (v2 w) (v3 w) e4 At__2 V2 (us := [.int v0, .int v1]) (Or.inl ⟨rfl, rfl⟩) (by decide) (by decide) (by decide) (by decide) (by decide) rfl (by decide) N4 g_b2 (g := (mkF m 28 L_2 [.int 2, .int 0, .ref b2, .int 0, .ref ot])) rfl (by rw [r]; rfl) rfl (hb d aI2) (by decide) (W := 0) (by show 2 * 0 + _ ≤ _; exact f7 rfl) (by decide)
 have KP5 := KP2.trans K5 (allS (Or.inr sz_b2) all0)
 refine c8 st5 ?_
 show c5 p e U m T5 31 L_2 []
 refine c6 X5 f d aI3 rfl rfl ?_
 show c5 p e U m T5 32 L_2 [.ref b2]
 exact p9 X5 f R rfl rfl (hb d aI4) (by rw [e5]; exact ⟨_, _, rfl, N5, KP5, sz_b2, (Arv.pad A5 (fun i => (pad_rep [.int v0, .int v1] (.int 0) 15 i).symm))⟩) (by decide) (by decide)
def cc9 (Z : State) (v0 : Int32) (h0 : Heap) (n0 : Nat) (v : Option Value) (h : Heap) (L : List Loc) : Prop := ∃ (b : Addr) (kb : ClassId), v = some (.ref b) ∧ Fr n0 L ∧ Keep h0 h [] ∧ h0.size ≤ b ∧ Arv Z h b kb .int 17 [.int v0] (.int 0)
theorem aX6 (l : Launch) (Z : State) (a0 : Array Value) (w : j9 Z a0) (ws : List Jvm.Cond) (ot : Addr) (kt : ClassId) (v0 : Int32) (h0 : Heap) (n0 : Nat) (Z0 : n0 ≤ h0.size) (At : Arv Z h0 ot kt .int 1 [.int v0] (.int 0)) :
 l0 l Z h0 aU5 w7 3 (some (.array .int)) ws (Jvm.Room.mk 1 1 17 40) #[.ref ot, .int 17] (cc9 Z v0 h0 n0) := by
 refine l7 (Ls := #[.val (.ref ot), .val (.int 17), .unset]) (plainFor_of_name G1) (fun p e s m U meth c s₁ Y hh f d r O hnm hlk R X0 e0 => ?_)
 replace O : s.vm.findClass "java/util/Arrays" = some m.cls := O
 have N0 := Fr.nil n0
 let L_1 : Array Slot := #[oR ot,oI 17,oU]
 show c5 p e U m s₁ 0 L_1 []
 refine f4 X0 f d aT3 rfl ?_
 refine c6 X0 f d aT4 rfl rfl ?_
 refine m7 X0 f d Y e0 At aT5 ?_
 refine j5 (pc := 3) (pc' := 14) X0 f d aT6 (feq (by decide : ¬ ((17 : Int32) = (1 : Int32)))).2 ?_
 refine f4 X0 f d aH1 rfl ?_
 obtain ⟨T2, h2, k2, X2, e2, E2, A2, st2⟩ := newP (aty := .int) X0 f Y (ae8 w) e0 (g := (mkF m 15 L_1 [.int 17])) rfl (hb d aH2) rfl (by decide) (cap := 17) (by decide) (by decide) (by decide) (by decide)
 obtain ⟨b2, g2⟩ : ∃ z, z = h0.size := ⟨_, rfl⟩
 rw [← g2] at A2 st2
 have g_b2 : n0 ≤ b2 := c9 Z0 (f7 g2.symm)
 have sz_b2 : h0.size ≤ b2 := c9 (Keep.refl h0 []).1 (f7 g2.symm)
 have At__2 := At.ext E2
 have sz2 := c9 Z0 E2.1
 have KP2 := (Keep.refl h0 []).ext E2
 have V2 : Arv Z h2 b2 k2 .int 17 [.int 0, .int 0, .int 0, .int 0, .int 0, .int 0, .int 0, .int 0, .int 0, .int 0, .int 0, .int 0, .int 0, .int 0, .int 0, .int 0, .int 0] (.int 0) := (Arv.new A2 (by decide)).pad (pad_rep [] (.int 0) 17)
 refine c8 st2 ?_
 show c5 p e U m T2 17 L_1 [.ref b2]
 let L_2 : Array Slot := #[oR ot,oI 17,oR b2]
 refine w9 X2 f d aH3 rfl (l' := L_2) rfl ?_
 refine c6 X2 f d aH4 rfl rfl ?_
 refine f6 X2 f d aH5 (z := (0 : Int32)) rfl ?_
 refine c6 X2 f d aH6 rfl rfl ?_
 refine f6 X2 f d aH7 (z := (0 : Int32)) rfl ?_
 refine c6 X2 f d aH8 rfl rfl ?_
 refine m7 X2 f d Y e2 At__2 aH9 ?_
 refine f4 X2 f d aI0 rfl ?_
 obtain ⟨_, T4, Lc4, X4, hQ4, st4⟩ := j8 X2 f d r Y e2 O (I8 w) (I9 w) (s6 w) (J0 w) (R5 l Z a0 w [] (1 : Int32) (17 : Int32) h2 n0 sz2 (by decide)) L_2 aI1 [.int 1, .int 17] [.int 0, .ref b2, .int 0, .ref ot] 4 0 0 (lenOf s9 rfl)
 obtain ⟨rfl, Nq4, e4⟩ := hQ4
 have N4 := Fr.app N0 Nq4
 refine c8 st4 ?_
 obtain ⟨T5, h5, L5, X5, e5, N5, K5, A5, st5⟩ := cpA X4 f Y O (J1 w) (v4 w) (v2 w) (v3 w) e4 At__2 V2 (us := [.int v0]) (Or.inl ⟨rfl, rfl⟩) (by decide) (by decide) (by decide) (by decide) (by decide) rfl (by decide) N4 g_b2 (g := (mkF m 28 L_2 [.int 1, .int 0, .ref b2, .int 0, .ref ot])) rfl (by rw [r]; rfl) rfl (hb d aI2) (by decide) (W := 0) (by show 2 * 0 + _ ≤ _; exact f7 rfl) (by decide)
 have KP5 := KP2.trans K5 (allS (Or.inr sz_b2) all0)
 refine c8 st5 ?_
 show c5 p e U m T5 31 L_2 []
 refine c6 X5 f d aI3 rfl rfl ?_
 show c5 p e U m T5 32 L_2 [.ref b2]
 exact p9 X5 f R rfl rfl (hb d aI4) (by rw [e5]; exact ⟨_, _, rfl, N5, KP5, sz_b2, (Arv.pad A5 (fun i => (pad_rep [.int v0] (.int 0) 16 i).symm))⟩) (by decide) (by decide)
theorem bK1:c4 x3 0 (.iload_n 1) 1:=by decide +kernel
theorem bK2:c4 x3 1 (.aload_n 0) 1:=by decide +kernel
theorem bK3:c4 x3 2 .arraylength 1:=by decide +kernel
theorem bK4:c4 x3 3 (.if_icmp .ne 11) 3:=by decide +kernel
theorem bn4:c4 x3 14 (.iload_n 1) 1:=by decide +kernel
theorem bn5:c4 x3 15 (.newarray .byte) 2:=by decide +kernel
theorem bn6:c4 x3 17 (.astore_n 2) 1:=by decide +kernel
theorem bn7:c4 x3 18 (.aload_n 0) 1:=by decide +kernel
theorem bn8:c4 x3 19 (.iconst 0) 1:=by decide +kernel
theorem bn9:c4 x3 20 (.aload_n 2) 1:=by decide +kernel
theorem bo0:c4 x3 21 (.iconst 0) 1:=by decide +kernel
theorem bo1:c4 x3 22 (.aload_n 0) 1:=by decide +kernel
theorem bo2:c4 x3 23 .arraylength 1:=by decide +kernel
theorem bo3:c4 x3 24 (.iload_n 1) 1:=by decide +kernel
theorem bo4:c4 x3 25 (.invokestatic 304) 3:=by decide +kernel
theorem bo5:c4 x3 28 (.invokestatic 150) 3:=by decide +kernel
theorem bo6:c4 x3 31 (.aload_n 2) 1:=by decide +kernel
theorem bo7:c4 x3 32 .areturn 1:=by decide +kernel
def cd0 (Z : State)  (h0 : Heap) (n0 : Nat) (v : Option Value) (h : Heap) (L : List Loc) : Prop := ∃ (b : Addr) (kb : ClassId), v = some (.ref b) ∧ Fr n0 L ∧ Keep h0 h [] ∧ h0.size ≤ b ∧ Arv Z h b kb .byte (64 : Int32) [] (.int 0) ∧ Exa Z h b "[B"
theorem aX7 (l : Launch) (Z : State) (a0 : Array Value) (w : j9 Z a0) (ws : List Jvm.Cond) (ot : Addr) (kt : ClassId)  (h0 : Heap) (n0 : Nat) (Z0 : n0 ≤ h0.size) (At : Arv Z h0 ot kt .byte (0 : Int32) [] (.int 0)) :
 l0 l Z h0 bY9 x3 3 (some (.array .byte)) ws (Jvm.Room.mk 1 1 64 40) #[.ref ot, .int 64] (cd0 Z  h0 n0) := by
 refine l7 (Ls := #[.val (.ref ot), .val (.int 64), .unset]) (plainFor_of_name G1) (fun p e s m U meth c s₁ Y hh f d r O hnm hlk R X0 e0 => ?_)
 replace O : s.vm.findClass "java/util/Arrays" = some m.cls := O
 have N0 := Fr.nil n0
 let L_1 : Array Slot := #[oR ot,oI 64,oU]
 show c5 p e U m s₁ 0 L_1 []
 refine f4 X0 f d bK1 rfl ?_
 refine c6 X0 f d bK2 rfl rfl ?_
 refine m7 X0 f d Y e0 At bK3 ?_
 refine j5 (pc := 3) (pc' := 14) X0 f d bK4 (feq (by decide : ¬ ((64 : Int32) = (0 : Int32)))).2 ?_
 refine f4 X0 f d bn4 rfl ?_
 obtain ⟨T2, h2, k2, X2, e2, E2, A2, Ey2, st2⟩ := newPE (aty := .byte) X0 f Y (Q8 w) e0 (g := (mkF m 15 L_1 [.int 64])) rfl (hb d bn5) rfl (by decide) (cap := 64) (by decide) (by decide) (by decide) (by decide) (ad := "[B") (by decide)
 obtain ⟨b2, g2⟩ : ∃ z, z = h0.size := ⟨_, rfl⟩
 rw [← g2] at A2 Ey2 st2
 have g_b2 : n0 ≤ b2 := c9 Z0 (f7 g2.symm)
 have sz_b2 : h0.size ≤ b2 := c9 (Keep.refl h0 []).1 (f7 g2.symm)
 have At__2 := At.ext E2
 have sz2 := c9 Z0 E2.1
 have KP2 := (Keep.refl h0 []).ext E2
 have V2 : Arv Z h2 b2 k2 .byte (64 : Int32) [.int 0, .int 0, .int 0, .int 0, .int 0, .int 0, .int 0, .int 0, .int 0, .int 0, .int 0, .int 0, .int 0, .int 0, .int 0, .int 0, .int 0, .int 0, .int 0, .int 0, .int 0, .int 0, .int 0, .int 0, .int 0, .int 0, .int 0, .int 0, .int 0, .int 0, .int 0, .int 0, .int 0, .int 0, .int 0, .int 0, .int 0, .int 0, .int 0, .int 0, .int 0, .int 0, .int 0, .int 0, .int 0, .int 0, .int 0, .int 0, .int 0, .int 0, .int 0, .int 0, .int 0, .int 0, .int 0, .int 0, .int 0, .int 0, .int 0, .int 0, .int 0, .int 0, .int 0, .int 0] (.int 0) := (Arv.new A2 (by decide)).pad (pad_rep [] (.int 0) 64)
 refine c8 st2 ?_
 show c5 p e U m T2 17 L_1 [.ref b2]
 let L_2 : Array Slot := #[oR ot,oI 64,oR b2]
 refine w9 X2 f d bn6 rfl (l' := L_2) rfl ?_
 refine c6 X2 f d bn7 rfl rfl ?_
 refine f6 X2 f d bn8 (z := (0 : Int32)) rfl ?_
 refine c6 X2 f d bn9 rfl rfl ?_
 refine f6 X2 f d bo0 (z := (0 : Int32)) rfl ?_
 refine c6 X2 f d bo1 rfl rfl ?_
 refine m7 X2 f d Y e2 At__2 bo2 ?_
 refine f4 X2 f d bo3 rfl ?_
 obtain ⟨_, T4, Lc4, X4, hQ4, st4⟩ := j8 X2 f d r Y e2 O (I8 w) (I9 w) (s6 w) (J0 w) (R5 l Z a0 w [] (0 : Int32) (64 : Int32) h2 n0 sz2 (by decide)) L_2 bo4 [.int 0, .int 64] [.int 0, .ref b2, .int 0, .ref ot] 4 0 0 (lenOf s9 rfl)
 obtain ⟨rfl, Nq4, e4⟩ := hQ4
 have N4 := Fr.app N0 Nq4
 refine c8 st4 ?_
 obtain ⟨T5, h5, L5, X5, e5, N5, K5, A5, st5⟩ := cpA X4 f Y O (J1 w) (v4 w) (v2 w) (v3 w) e4 At__2 V2 (us := []) (Or.inl ⟨rfl, rfl⟩) (by decide) (by decide) (by decide) (by decide) (by decide) rfl (by decide) N4 g_b2 (g := (mkF m 28 L_2 [.int 0, .int 0, .ref b2, .int 0, .ref ot])) rfl (by rw [r]; rfl) rfl (hb d bo5) (by decide) (W := 0) (by show 2 * 0 + _ ≤ _; exact f7 rfl) (by decide)
 have Ey2__5 := Ey2.keep K5
 have KP5 := KP2.trans K5 (allS (Or.inr sz_b2) all0)
 refine c8 st5 ?_
 show c5 p e U m T5 31 L_2 []
 refine c6 X5 f d bo6 rfl rfl ?_
 show c5 p e U m T5 32 L_2 [.ref b2]
 exact p9 X5 f R rfl rfl (hb d bo7) (by rw [e5]; exact ⟨_, _, rfl, N5, KP5, sz_b2, (Arv.pad A5 (fun i => (pad_rep [] (.int 0) 64 i).symm)), Ey2__5⟩) (by decide) (by decide)
theorem dl4 : plainName "java/util/AbstractCollection" = true := by first | (simp [plainName, overriddenIn]; done) | decide +kernel
theorem cU1:c4 aA4 0 (.aload_n 0) 1:=by decide +kernel
theorem cU2:c4 aA4 1 (.invokespecial 1) 3:=by decide +kernel
theorem cU3:c4 aA4 4 .return_ 1:=by decide +kernel
theorem dl5 (l : Launch) (Z : State) (a0 : Array Value) (w : j9 Z a0) (ws : List Jvm.Cond) (oa : Addr) (h0 : Heap) (n0 : Nat) (Z0 : n0 ≤ h0.size)  :
 l0 l Z h0 df1 aA4 1 none ws (Jvm.Room.mk 1 0 0 12) #[.ref oa] (U1 h0 n0) := by
 refine l7 (Ls := #[.val (.ref oa)]) (plainFor_of_name dl4) (fun p e s m U meth c s₁ Y hh f d r O hnm hlk R X0 e0 => ?_)
 replace O : s.vm.findClass "java/util/AbstractCollection" = some m.cls := O
 have N0 := Fr.nil n0
 let L_1 : Array Slot := #[oR oa]
 show c5 p e U m s₁ 0 L_1 []
 refine c6 X0 f d cU1 rfl rfl ?_
 obtain ⟨T2, X2, e2, st2⟩ := initO X0 f Y O (cj4 w) (U2 w) (U3 w) e0 (g := (mkF m 1 L_1 [.ref oa])) rfl (by rw [r]; rfl) rfl (hb d cU2) (by decide) (W := 0) (by show 2 * 0 + _ ≤ _; exact f7 rfl) (by decide)
 refine c8 st2 ?_
 show c5 p e U m T2 4 L_1 []
 exact q0 X2 f R (hb d cU3) (by rw [e2]; exact ⟨rfl, N0, rfl⟩) (by decide) (by decide)
theorem dl6 : plainName "java/lang/Record" = true := by first | (simp [plainName, overriddenIn]; done) | decide +kernel
theorem cU4:c4 aA5 0 (.aload_n 0) 1:=by decide +kernel
theorem cU5:c4 aA5 1 (.invokespecial 1) 3:=by decide +kernel
theorem cU6:c4 aA5 4 .return_ 1:=by decide +kernel
theorem aW6 (l : Launch) (Z : State) (a0 : Array Value) (w : j9 Z a0) (ws : List Jvm.Cond) (oa : Addr) (h0 : Heap) (n0 : Nat) (Z0 : n0 ≤ h0.size)  :
 l0 l Z h0 df2 aA5 1 none ws (Jvm.Room.mk 1 0 0 12) #[.ref oa] (U1 h0 n0) := by
 refine l7 (Ls := #[.val (.ref oa)]) (plainFor_of_name dl6) (fun p e s m U meth c s₁ Y hh f d r O hnm hlk R X0 e0 => ?_)
 replace O : s.vm.findClass "java/lang/Record" = some m.cls := O
 have N0 := Fr.nil n0
 let L_1 : Array Slot := #[oR oa]
 show c5 p e U m s₁ 0 L_1 []
 refine c6 X0 f d cU4 rfl rfl ?_
 obtain ⟨T2, X2, e2, st2⟩ := initO X0 f Y O (cJ1 w) (U2 w) (U3 w) e0 (g := (mkF m 1 L_1 [.ref oa])) rfl (by rw [r]; rfl) rfl (hb d cU5) (by decide) (W := 0) (by show 2 * 0 + _ ≤ _; exact f7 rfl) (by decide)
 refine c8 st2 ?_
 show c5 p e U m T2 4 L_1 []
 exact q0 X2 f R (hb d cU6) (by rw [e2]; exact ⟨rfl, N0, rfl⟩) (by decide) (by decide)
theorem dl7 : plainName "java/util/AbstractList" = true := by first | (simp [plainName, overriddenIn]; done) | decide +kernel
theorem cU7:c4 Y0 0 (.aload_n 0) 1:=by decide +kernel
theorem cU8:c4 Y0 1 (.invokespecial 1) 3:=by decide +kernel
theorem cU9:c4 Y0 4 (.aload_n 0) 1:=by decide +kernel
theorem cV0:c4 Y0 5 (.iconst 0) 1:=by decide +kernel
theorem cV1:c4 Y0 6 (.putfield 7) 3:=by decide +kernel
theorem cV2:c4 Y0 9 .return_ 1:=by decide +kernel
def cg9 (Z : State) (oa : Addr) (h0 : Heap) (n0 : Nat) (v : Option Value) (h : Heap) (L : List Loc) : Prop := v = none ∧ Fr n0 L ∧ (∃ w, Wr h0 h oa (Jvm.RoadKit.slotOf Z "java/util/AbstractList" "modCount" "I") w) ∧ Fld Z h oa "java/util/AbstractList" "modCount" "I" (.int 0)
theorem dl8 (l : Launch) (Z : State) (a0 : Array Value) (w : j9 Z a0) (ws : List Jvm.Cond) (oa : Addr) (x0 : Int32) (h0 : Heap) (n0 : Nat) (Z0 : n0 ≤ h0.size) (Ea : Exa Z h0 oa "com/example/prizewell/prizewell/core/TicketRanges") (Fm : Fld Z h0 oa "java/util/AbstractList" "modCount" "I" (.int x0)) (g_oa : n0 ≤ oa) :
 l0 l Z h0 df3 Y0 1 none ws (Jvm.Room.mk 2 0 0 24) #[.ref oa] (cg9 Z oa h0 n0) := by
 refine l7 (Ls := #[.val (.ref oa)]) (plainFor_of_name dl7) (fun p e s m U meth c s₁ Y hh f d r O hnm hlk R X0 e0 => ?_)
 replace O : s.vm.findClass "java/util/AbstractList" = some m.cls := O
 have N0 := Fr.nil n0
 let L_1 : Array Slot := #[oR oa]
 show c5 p e U m s₁ 0 L_1 []
 refine c6 X0 f d cU7 rfl rfl ?_
 obtain ⟨_, T1, Lc1, X1, hQ1, st1⟩ := D0 X0 f d r Y e0 O (cj0 w) (cj1 w) (cj2 w) (cj3 w) (o := oa) (dl5 l Z a0 w [] oa h0 n0 Z0) L_1 cU8 [] [] 0 0 0 (lenOf S5 rfl)
 obtain ⟨rfl, Nq1, e1⟩ := hQ1
 have N1 := Fr.app N0 Nq1
 refine c8 st1 ?_
 show c5 p e U m T1 4 L_1 []
 refine c6 X1 f d cU9 rfl rfl ?_
 refine f6 X1 f d cV0 (z := (0 : Int32)) rfl ?_
 obtain ⟨T2, h2, X2, e2, W2, st2⟩ := putF X1 f Y O (host := "") (Or.inl (cj5 w)) Via.refl e1 Fm Ea (Or.inl (H3 w)) (o0 w) (ty := .int) (by decide) rfl rfl (g := (mkF m 6 L_1 [.int 0, .ref oa])) rfl rfl (hb d cV1)
 have Fw2 := Fm.same W2
 have N2 := Fr.snoc X2 N1 g_oa
 refine c8 st2 ?_
 show c5 p e U m T2 9 L_1 []
 exact q0 X2 f R (hb d cV2) (by rw [e2]; exact ⟨rfl, N2, ⟨_, W2⟩, Fw2⟩) (by decide) (by decide)
/-- the fields of a TicketRanges -/
def own_TF (Z : State) (h : Heap) (a : Addr) (sz : Int32) (f n b c : Value) : Prop := Exa Z h a "com/example/prizewell/prizewell/core/TicketRanges" ∧ Fld Z h a "com/example/prizewell/prizewell/core/TicketRanges" "size" "I" (.int sz) ∧ Fld Z h a "com/example/prizewell/prizewell/core/TicketRanges" "firsts" "[J" f ∧ Fld Z h a "com/example/prizewell/prizewell/core/TicketRanges" "nameStarts" "[I" n ∧ Fld Z h a "com/example/prizewell/prizewell/core/TicketRanges" "names" "[B" b ∧ Fld Z h a "com/example/prizewell/prizewell/core/TicketRanges" "lastCount" "Ljava/math/BigInteger;" c
theorem own_nm.len {als : List Value} {cs : List Int32} (F : own_nm als cs) : 1 ≤ cs.length ∧ cs.length ≤ 2 := by
 rcases F with ⟨c0, rfl, -⟩ | ⟨c0, c1, rfl, -, -⟩
 · exact ⟨Nat.le_refl 1, Nat.le_succ 1⟩
 · exact ⟨Nat.le_succ 1, Nat.le_refl 2⟩
theorem own_TF.ext {Z : State} {h h' : Heap} {a : Addr} {sz : Int32} {f n b c : Value} (F : own_TF Z h a sz f n b c) (E : Ext h h') : own_TF Z h' a sz f n b c := ⟨F.1.ext E, F.2.1.ext E, F.2.2.1.ext E, F.2.2.2.1.ext E, F.2.2.2.2.1.ext E, F.2.2.2.2.2.ext E⟩
theorem own_TF.keep {Z : State} {h h' : Heap} {a : Addr} {sz : Int32} {f n b c : Value} {ws : List Addr} (F : own_TF Z h a sz f n b c) (K : Keep h h' ws) (q : a ∉ ws) : own_TF Z h' a sz f n b c := ⟨F.1.keep K, F.2.1.keep K q, F.2.2.1.keep K q, F.2.2.2.1.keep K q, F.2.2.2.2.1.keep K q, F.2.2.2.2.2.keep K q⟩
/-- the TicketRanges at o holds the names css and the firsts fs; W: what may be written of it -/
def own_L (Z : State) (h : Heap) (o : Addr) (css : List (List Int32)) (fs : List Int64) (W : List Addr) (lc : Value) (cf cn cb : Int32) : Prop := ∃ (tf tn tb : Addr) (kf kn kb : ClassId), W = [o, tf, tn, tb] ∧ own_TF Z h o (Int32.ofNat css.length) (.ref tf) (.ref tn) (.ref tb) lc ∧ Arv Z h tf kf .long cf (fs.map Value.long) (.long (0 : Int64)) ∧ Arv Z h tn kn .int cn ((R2 0 css).map Value.int) (.int 0) ∧ Arv Z h tb kb .byte cb (m9 css.flatten) (.int 0) ∧ Exa Z h tb "[B"
theorem own_L.ext {Z : State} {h h' : Heap} {o : Addr} {css : List (List Int32)} {fs : List Int64} {W : List Addr} {lc : Value} {cf cn cb : Int32} (F : own_L Z h o css fs W lc cf cn cb) (E : Ext h h') : own_L Z h' o css fs W lc cf cn cb := by
 obtain ⟨tf, tn, tb, kf, kn, kb, h1, h2, h3, h4, h5, h6⟩ := F
 exact ⟨tf, tn, tb, kf, kn, kb, h1, h2.ext E, h3.ext E, h4.ext E, h5.ext E, h6.ext E⟩
theorem own_L.keep {Z : State} {h h' : Heap} {o : Addr} {css : List (List Int32)} {fs : List Int64} {W ws : List Addr} {lc : Value} {cf cn cb : Int32} (F : own_L Z h o css fs W lc cf cn cb) (K : Keep h h' ws) (q : ∀ y ∈ ws, y ∉ W) : own_L Z h' o css fs W lc cf cn cb := by
 obtain ⟨tf, tn, tb, kf, kn, kb, h1, h2, h3, h4, h5, h6⟩ := F
 subst h1
 exact ⟨tf, tn, tb, kf, kn, kb, rfl, h2.keep K (fun z => q _ z (by simp)), h3.keep K (fun z => q _ z (by simp)), h4.keep K (fun z => q _ z (by simp)), h5.keep K (fun z => q _ z (by simp)), h6.keep K⟩
theorem own_L.lt {Z : State} {h : Heap} {o : Addr} {css : List (List Int32)} {fs : List Int64} {W : List Addr} {lc : Value} {cf cn cb : Int32} (F : own_L Z h o css fs W lc cf cn cb) : ∀ y ∈ W, y < h.size := by
 obtain ⟨tf, tn, tb, kf, kn, kb, rfl, h2, h3, h4, h5, -⟩ := F
 exact allS h2.1.lt (allS h3.lt (allS h4.lt (allS h5.lt all0)))
/-- the AccountName at oc with its String -/
def own_NM (Z : State) (h : Heap) (oc os ot : Addr) (kt : ClassId) (cs : List Int32) (w : Nat) : Prop := (oc < w ∧ os < w ∧ ot < w) ∧ Exa Z h oc "com/example/prizewell/prizewell/core/AccountName" ∧ Fld Z h oc "com/example/prizewell/prizewell/core/AccountName" "value" "Ljava/lang/String;" (.ref os) ∧ own_S Z h os ot kt (p6 cs) (m9 cs)
theorem own_NM.ext {Z : State} {h h' : Heap} {oc os ot : Addr} {kt : ClassId} {cs : List Int32} {w : Nat} (F : own_NM Z h oc os ot kt cs w) (E : Ext h h') : own_NM Z h' oc os ot kt cs w := ⟨F.1, F.2.1.ext E, F.2.2.1.ext E, F.2.2.2.ext E⟩
theorem own_NM.keep {Z : State} {h h' : Heap} {oc os ot : Addr} {kt : ClassId} {cs : List Int32} {w : Nat} {ws : List Addr} (F : own_NM Z h oc os ot kt cs w) (K : Keep h h' ws) (q : ∀ y ∈ ws, w ≤ y) : own_NM Z h' oc os ot kt cs w := ⟨F.1, F.2.1.keep K, F.2.2.1.keep K (M3 F.1.1 q), F.2.2.2.keep K (M3 F.1.2.1 q) (M3 F.1.2.2 q)⟩
/-- the range xi of the TicketRanges at o: its name cs, first f, count c; all of it older than w -/
def own_G (Z : State) (h : Heap) (o : Addr) (xi : Int32) (cs : List Int32) (f c : Int64) (w : Nat) : Prop := ∃ (xs xp xq : Int32) (tf tn tb lc : Addr) (kf kn kb : ClassId) (nf nn nb : Int32) (vf vn vb : List Value),
 (o < w ∧ tf < w ∧ tn < w ∧ tb < w) ∧ own_TF Z h o xs (.ref tf) (.ref tn) (.ref tb) (.ref lc) ∧ Arv Z h tf kf .long nf vf (.long (0 : Int64)) ∧ Arv Z h tn kn .int nn vn (.int 0) ∧ Arv Z h tb kb .byte nb vb (.int 0) ∧ Exa Z h tb "[B" ∧
 (¬ xi < 0 ∧ xi < xs ∧ xi < nf ∧ xi < nn ∧ ¬ xi + 1 < 0 ∧ xi + 1 < nn) ∧ vf.getD xi.toNatClampNeg (.long (0 : Int64)) = .long f ∧ vn.getD xi.toNatClampNeg (.int 0) = .int xp ∧ vn.getD (xi + 1).toNatClampNeg (.int 0) = .int xq ∧ xq - xp = p6 cs ∧
 r0 xp nb cs.length ∧ (∀ j, j < cs.length → vb.getD (xp.toNatClampNeg + j) (.int 0) = .int (cs.getD j 0)) ∧
 ((xi + 1 < xs ∧ xi + 1 < nf ∧ ∃ f2 : Int64, vf.getD (xi + 1).toNatClampNeg (.long (0 : Int64)) = .long f2 ∧ f2 - f = c) ∨ (¬ xi + 1 < xs ∧ own_BI Z h lc c w))
theorem own_G.ext {Z : State} {h h' : Heap} {o : Addr} {xi : Int32} {cs : List Int32} {f c : Int64} {w : Nat} (F : own_G Z h o xi cs f c w) (E : Ext h h') : own_G Z h' o xi cs f c w := by
 obtain ⟨xs, xp, xq, tf, tn, tb, lc, kf, kn, kb, nf, nn, nb, vf, vn, vb, h1, h2, h3, h4, h5, h6, h7, h8, h9, h10, h11, h12, h13, h14⟩ := F
 refine ⟨xs, xp, xq, tf, tn, tb, lc, kf, kn, kb, nf, nn, nb, vf, vn, vb, h1, h2.ext E, h3.ext E, h4.ext E, h5.ext E, h6.ext E, h7, h8, h9, h10, h11, h12, h13, ?_⟩
 rcases h14 with q | ⟨q1, q2⟩
 · exact Or.inl q
 · exact Or.inr ⟨q1, q2.ext E⟩
theorem own_G.keep {Z : State} {h h' : Heap} {o : Addr} {xi : Int32} {cs : List Int32} {f c : Int64} {w : Nat} {ws : List Addr} (F : own_G Z h o xi cs f c w) (K : Keep h h' ws) (q : ∀ y ∈ ws, w ≤ y) : own_G Z h' o xi cs f c w := by
 obtain ⟨xs, xp, xq, tf, tn, tb, lc, kf, kn, kb, nf, nn, nb, vf, vn, vb, h1, h2, h3, h4, h5, h6, h7, h8, h9, h10, h11, h12, h13, h14⟩ := F
 refine ⟨xs, xp, xq, tf, tn, tb, lc, kf, kn, kb, nf, nn, nb, vf, vn, vb, h1, h2.keep K (M3 h1.1 q), h3.keep K (M3 h1.2.1 q), h4.keep K (M3 h1.2.2.1 q), h5.keep K (M3 h1.2.2.2 q), h6.keep K, h7, h8, h9, h10, h11, h12, h13, ?_⟩
 rcases h14 with q | ⟨q1, q2⟩
 · exact Or.inl q
 · exact Or.inr ⟨q1, q2.keep K q⟩
theorem own_G.more {Z : State} {h : Heap} {o : Addr} {xi : Int32} {cs : List Int32} {f c : Int64} {w w' : Nat} (F : own_G Z h o xi cs f c w) (q : w ≤ w') : own_G Z h o xi cs f c w' := by
 obtain ⟨xs, xp, xq, tf, tn, tb, lc, kf, kn, kb, nf, nn, nb, vf, vn, vb, h1, h2, h3, h4, h5, h6, h7, h8, h9, h10, h11, h12, h13, h14⟩ := F
 refine ⟨xs, xp, xq, tf, tn, tb, lc, kf, kn, kb, nf, nn, nb, vf, vn, vb, ⟨j3 h1.1 q, j3 h1.2.1 q, j3 h1.2.2.1 q, j3 h1.2.2.2 q⟩, h2, h3, h4, h5, h6, h7, h8, h9, h10, h11, h12, h13, ?_⟩
 rcases h14 with r | ⟨q1, q2⟩
 · exact Or.inl r
 · exact Or.inr ⟨q1, q2.more q⟩
theorem Z1 {n : Nat} {x : Int32} (q : n < x.toNatClampNeg) : Int32.ofNat n < x := by
 have b := Int32.toInt_lt x
 simp only [Int32.toNatClampNeg] at q
 have e : (Int32.ofNat n).toInt = n := Int32.toInt_ofNat_of_lt (by omega)
 rw [Int32.lt_iff_toInt_lt, e]; omega
theorem al8 {n : Nat} (q : n < 2 ^ 31) : (Int32.ofNat n).toNatClampNeg = n ∧ ¬ Int32.ofNat n < 0 := by
 have e : (Int32.ofNat n).toInt = n := Int32.toInt_ofNat_of_lt q
 have a0 : (0 : Int32).toInt = 0 := by decide
 refine ⟨by simp only [Int32.toNatClampNeg, e]; omega, by rw [Int32.lt_iff_toInt_lt, e]; omega⟩
theorem Z2 {α} (f : α → Value) (l : List α) (i : Nat) (d : α) : (l.map f).getD i (f d) = f (l.getD i d) := by
 simp only [List.getD_eq_getElem?_getD, List.getElem?_map]; cases l[i]? <;> rfl
theorem z7 {Z : State} {h : Heap} {o : Addr} {css : List (List Int32)} {fs : List Int64} {W : List Addr} {lc : Addr} {cf cn cb : Int32} {c : Int64} (F : own_L Z h o css fs W (.ref lc) cf cn cb) (i : Nat) (hi : i < css.length) (h4 : css.length ≤ 4) (hlen : ∀ cs ∈ css, cs.length ≤ 2) (hcf : css.length ≤ cf.toNatClampNeg) (hcn : css.length < cn.toNatClampNeg) (hcb : css.flatten.length ≤ cb.toNatClampNeg)
 {cs : List Int32} (hcs : css[i]? = some cs) {f : Int64} (hf : fs.getD i 0 = f) (hlast : (i + 1 < css.length ∧ ∃ f2, fs.getD (i + 1) 0 = f2 ∧ f2 - f = c) ∨ (i + 1 = css.length ∧ own_BI Z h lc c h.size)) : own_G Z h o (Int32.ofNat i) cs f c h.size := by
 obtain ⟨tf, tn, tb, kf, kn, kb, h1, h2, h3, h4', h5, h6⟩ := F
 have e1 : Int32.ofNat i + 1 = Int32.ofNat (i + 1) := (Int32.ofNat_add i 1).symm
 have n0 := al8 (n := i) (by omega)
 have n1 := al8 (n := i + 1) (by omega)
 have l1 := aX2 css i cs hcs
 have l2 := Z3 css hlen
 have m0 := al8 (n := (css.take i).flatten.length) (by omega)
 have s0 : ((R2 0 css).map Value.int).getD i (.int 0) = .int (Int32.ofNat (css.take i).flatten.length) := by rw [Z2, aB6 0 css 0 i (by omega), Int32.zero_add]
 have s1 : ((R2 0 css).map Value.int).getD (i + 1) (.int 0) = .int (Int32.ofNat ((css.take i).flatten.length + cs.length)) := by rw [Z2, aB6 0 css 0 (i + 1) (by omega), Int32.zero_add, l1.2]
 have hcl : cs.length ≤ 2 := hlen cs (List.mem_of_getElem? hcs)
 refine ⟨_, Int32.ofNat (css.take i).flatten.length, Int32.ofNat ((css.take i).flatten.length + cs.length), tf, tn, tb, lc, kf, kn, kb, cf, cn, cb, _, _, _, ⟨h2.1.lt, h3.lt, h4'.lt, h5.lt⟩, h2, h3, h4', h5, h6, ⟨n0.2, Z1 (by rw [(al8 (by omega)).1]; exact hi), Z1 (by omega), Z1 (by omega), by rw [e1]; exact n1.2, by rw [e1]; exact Z1 (by omega)⟩, ?_, ?_, ?_, ?_, ?_, ?_, ?_⟩
 · rw [n0.1, Z2, hf]
 · rw [n0.1]; exact s0
 · rw [e1, n1.1]; exact s1
 · rw [Int32.ofNat_add, Int32.add_comm, Int32.add_sub_cancel]; rfl
 · have t0 : (Int32.ofNat (css.take i).flatten.length).toInt = ((css.take i).flatten.length : Int) := Int32.toInt_ofNat_of_lt (by omega)
   have tb' : (cb.toNatClampNeg : Int) = cb.toInt := by have := h5; obtain ⟨_, _, _, _, q, _⟩ := this; exact (nat_of q).symm
   exact ⟨by rw [t0]; omega, by rw [t0]; omega⟩
 · intro j hj
   rw [m0.1]
   show (css.flatten.map Value.int).getD _ _ = _
   rw [Z2, aX1 0 css i cs hcs j hj]
 · rcases hlast with ⟨q1, f2, q2, q3⟩ | ⟨q1, q2⟩
   · exact Or.inl ⟨by rw [e1]; exact Z1 (by rw [(al8 (by omega)).1]; exact q1), by rw [e1]; exact Z1 (by omega), f2, by rw [e1, n1.1, Z2, q2], q3⟩
   · exact Or.inr ⟨by rw [e1, q1, Int32.lt_iff_toInt_lt]; omega, q2⟩
theorem u0 {Z : State} {h h' : Heap} {a : Addr} {k : ClassId} {ty : FieldType} {z j : Int32} {vs : List Value} {dv v : Value} {c : Cell} (A : Arr Z h a c ty) (q1 : c.cls = k) (S : c.slots.size = z.toNatClampNeg) (q3 : ¬ z < 0) (H : Has c vs dv) (G : ∀ i, i < c.slots.size → fits ty (vs.getD i dv) = true) (hv : fits ty v = true) (W : Wr h h' a j.toNatClampNeg v) (hj : j.toNatClampNeg = vs.length) : Arv Z h' a k ty z (vs ++ [v]) dv := by
 have e : ∀ i, (vs ++ [dv]).getD i dv = vs.getD i dv := pad_rep vs dv 1
 have r := Arv.set A q1 S q3 (vs := vs ++ [dv]) (fun i hi => by rw [e]; exact H i hi) (fun i hi => by rw [e]; exact G i hi) hv W vs.length hj (by simp)
 rwa [cd5] at r
theorem ao8 {Z : State} {h : Heap} {als : List Value} {ox xs tx oy ys ty s a : Addr} {kx ky : ClassId} {cx cy : List Int32} {w : Nat} {n : Int32} (NX : own_NM Z h ox xs tx kx cx w) (mx : own_nm als cx) (NY : own_NM Z h oy ys ty ky cy w) (my : own_nm als cy) (hs : s = if n = 0 then xs else ys) (ha : a = if n = 0 then ox else oy) : ∃ (t : Addr) (k : ClassId) (cs : List Int32), own_NM Z h a s t k cs w ∧ own_nm als cs := by
 by_cases q : n = 0
 · rw [if_pos q] at hs ha; subst hs ha; exact ⟨_, _, _, NX, mx⟩
 · rw [if_neg q] at hs ha; subst hs ha; exact ⟨_, _, _, NY, my⟩
def own_GI (P : Prop) (Z : State) (h : Heap) (o : Addr) (xi : Int32) (cs : List Int32) (f c : Int64) (w : Nat) : Prop := P → own_G Z h o xi cs f c w
theorem own_GI.ext {P : Prop} {Z : State} {h h' : Heap} {o : Addr} {xi : Int32} {cs : List Int32} {f c : Int64} {w : Nat} (F : own_GI P Z h o xi cs f c w) (E : Ext h h') : own_GI P Z h' o xi cs f c w := fun q => (F q).ext E
theorem own_GI.keep {P : Prop} {Z : State} {h h' : Heap} {o : Addr} {xi : Int32} {cs : List Int32} {f c : Int64} {w : Nat} {ws : List Addr} (F : own_GI P Z h o xi cs f c w) (K : Keep h h' ws) (q : ∀ y ∈ ws, w ≤ y) : own_GI P Z h' o xi cs f c w := fun r => (F r).keep K q
theorem E0 : plainName "com/example/prizewell/prizewell/core/TicketRanges" = true := by first | (simp [plainName, overriddenIn]; done) | decide +kernel
theorem cV3:c4 C3 0 (.aload_n 0) 1:=by decide +kernel
theorem cV4:c4 C3 1 (.invokespecial 3) 3:=by decide +kernel
theorem cV5:c4 C3 4 (.aload_n 0) 1:=by decide +kernel
theorem cV6:c4 C3 5 (.iconst 0) 1:=by decide +kernel
theorem cV7:c4 C3 6 (.newarray .long) 2:=by decide +kernel
theorem cV8:c4 C3 8 (.putfield 9) 3:=by decide +kernel
theorem cr8:c4 C3 11 (.aload_n 0) 1:=by decide +kernel
theorem cr9:c4 C3 12 (.iconst 1) 1:=by decide +kernel
theorem cs0:c4 C3 13 (.newarray .int) 2:=by decide +kernel
theorem cs1:c4 C3 15 (.putfield 15) 3:=by decide +kernel
theorem cs3:c4 C3 18 (.aload_n 0) 1:=by decide +kernel
theorem cs5:c4 C3 19 (.iconst 0) 1:=by decide +kernel
theorem cs6:c4 C3 20 (.newarray .byte) 2:=by decide +kernel
theorem cs7:c4 C3 22 (.putfield 19) 3:=by decide +kernel
theorem cs8:c4 C3 25 .return_ 1:=by decide +kernel
def ch0 (Z : State) (oa : Addr) (h0 : Heap) (n0 : Nat) (v : Option Value) (h : Heap) (L : List Loc) : Prop := v = none ∧ Fr n0 L ∧ Keep h0 h [oa] ∧ ∃ W : List Addr, (∀ y ∈ W, y = oa ∨ h0.size ≤ y) ∧ own_L Z h oa [] [] W .null 0 1 0
theorem cc2 (l : Launch) (Z : State) (a0 : Array Value) (w : j9 Z a0) (ws : List Jvm.Cond) (oa : Addr) (x0 : Int32) (h0 : Heap) (n0 : Nat) (Z0 : n0 ≤ h0.size) (G : own_TF Z h0 oa (0 : Int32) .null .null .null .null) (Fq : Fld Z h0 oa "java/util/AbstractList" "modCount" "I" (.int x0)) (g_oa : n0 ≤ oa) :
 l0 l Z h0 df4 C3 1 none ws (Jvm.Room.mk 3 3 1 36) #[.ref oa] (ch0 Z oa h0 n0) := by
 refine l7 (Ls := #[.val (.ref oa)]) (plainFor_of_name E0) (fun p e s m U meth c s₁ Y hh f d r O hnm hlk R X0 e0 => ?_)
 replace O : s.vm.findClass "com/example/prizewell/prizewell/core/TicketRanges" = some m.cls := O
 have N0 := Fr.nil n0
 obtain ⟨Ea, Fsz, Fff, Fnn, Fbb, Flc⟩ := id G
 let L_1 : Array Slot := #[oR oa]
 show c5 p e U m s₁ 0 L_1 []
 refine c6 X0 f d cV3 rfl rfl ?_
 obtain ⟨_, T1, Lc1, X1, hQ1, st1⟩ := D0 X0 f d r Y e0 O (ci6 w) (ci7 w) (ci8 w) (ci9 w) (o := oa) (dl8 l Z a0 w [] oa x0 h0 n0 Z0 Ea Fq g_oa) L_1 cV4 [] [] 0 0 0 (lenOf S5 rfl)
 obtain ⟨rfl, Nq1, ⟨wv1, W1⟩, Fm1⟩ := hQ1
 have N1 := Fr.app N0 Nq1
 refine c8 st1 ?_
 have Ea__1 := Ea.wr W1
 have Fsz__1 := Fsz.other W1 (Or.inr (dg7 w))
 have Fff__1 := Fff.other W1 (Or.inr (dg8 w))
 have Fnn__1 := Fnn.other W1 (Or.inr (dg9 w))
 have Fbb__1 := Fbb.other W1 (Or.inr (dh0 w))
 have Flc__1 := Flc.other W1 (Or.inr (dh1 w))
 have KP1 := (Keep.refl h0 [oa]).wr W1 (Or.inl (List.mem_of_getElem? (i := 0) rfl))
 show c5 p e U m T1 4 L_1 []
 refine c6 X1 f d cV5 rfl rfl ?_
 refine f6 X1 f d cV6 (z := (0 : Int32)) rfl ?_
 obtain ⟨T2, h2, k2, X2, e2, E2, A2, st2⟩ := newP (aty := .long) X1 f Y (at0 w) rfl (g := (mkF m 6 L_1 [.int 0, .ref oa])) rfl (hb d cV7) rfl (by decide) (cap := 0) (by decide) (by decide) (by decide) (by decide)
 obtain ⟨b2, g2⟩ : ∃ z, z = T1.heap.size := ⟨_, rfl⟩
 rw [← g2] at A2 st2
 have sz_b2 : h0.size ≤ b2 := c9 KP1.1 (f7 g2.symm)
 have ne_oa_b2 : oa ≠ b2 := Nat.ne_of_lt (j3 Ea__1.lt (f7 g2.symm))
 have Ea__2 := Ea__1.ext E2
 have Fsz__2 := Fsz__1.ext E2
 have Fff__2 := Fff__1.ext E2
 have Fnn__2 := Fnn__1.ext E2
 have Fbb__2 := Fbb__1.ext E2
 have Flc__2 := Flc__1.ext E2
 have KP2 := KP1.ext E2
 have V2 : Arv Z h2 b2 k2 .long (0 : Int32) [] (.long (0 : Int64)) := Arv.new A2 (by decide)
 refine c8 st2 ?_
 obtain ⟨T3, h3, X3, e3, W3, st3⟩ := putF X2 f Y O (host := "") (Or.inl (o9 w)) Via.refl e2 Fff__2 Ea__2 (Or.inl (x4 w)) (o0 w) (ty := (.array .long)) (by decide) rfl rfl (g := (mkF m 8 L_1 [.ref b2, .ref oa])) rfl rfl (hb d cV8)
 have Fw3 := Fff__2.same W3
 have Ea__3 := Ea__2.wr W3
 have Fsz__3 := Fsz__2.other W3 (Or.inr (Y4 w))
 have Fnn__3 := Fnn__2.other W3 (Or.inr (Y5 w))
 have Fbb__3 := Fbb__2.other W3 (Or.inr (U4 w))
 have Flc__3 := Flc__2.other W3 (Or.inr (U5 w))
 have V2__3 := V2.other W3 (Ne.symm ne_oa_b2)
 have N3 := Fr.snoc X3 N1 g_oa
 have KP3 := KP2.wr W3 (Or.inl (List.mem_of_getElem? (i := 0) rfl))
 refine c8 st3 ?_
 show c5 p e U m T3 11 L_1 []
 refine c6 X3 f d cr8 rfl rfl ?_
 refine f6 X3 f d cr9 (z := (1 : Int32)) rfl ?_
 obtain ⟨T4, h4, k4, X4, e4, E4, A4, st4⟩ := newP (aty := .int) X3 f Y (ae8 w) e3 (g := (mkF m 13 L_1 [.int 1, .ref oa])) rfl (hb d cs0) rfl (by decide) (cap := 1) (by decide) (by decide) (by decide) (by decide)
 obtain ⟨b4, g4⟩ : ∃ z, z = h3.size := ⟨_, rfl⟩
 rw [← g4] at A4 st4
 have sz_b4 : h0.size ≤ b4 := c9 KP3.1 (f7 g4.symm)
 have ne_oa_b4 : oa ≠ b4 := Nat.ne_of_lt (j3 Ea__3.lt (f7 g4.symm))
 have Ea__4 := Ea__3.ext E4
 have Fsz__4 := Fsz__3.ext E4
 have Fw3__4 := Fw3.ext E4
 have Fnn__4 := Fnn__3.ext E4
 have Fbb__4 := Fbb__3.ext E4
 have Flc__4 := Flc__3.ext E4
 have V2__4 := V2__3.ext E4
 have KP4 := KP3.ext E4
 have V4 : Arv Z h4 b4 k4 .int 1 [.int 0] (.int 0) := (Arv.new A4 (by decide)).pad (pad_rep [] (.int 0) 1)
 refine c8 st4 ?_
 obtain ⟨T5, h5, X5, e5, W5, st5⟩ := putF X4 f Y O (host := "") (Or.inl (m6 w)) Via.refl e4 Fnn__4 Ea__4 (Or.inl (x5 w)) (o0 w) (ty := (.array .int)) (by decide) rfl rfl (g := (mkF m 15 L_1 [.ref b4, .ref oa])) rfl rfl (hb d cs1)
 have Fw5 := Fnn__4.same W5
 have Ea__5 := Ea__4.wr W5
 have Fsz__5 := Fsz__4.other W5 (Or.inr (U6 w))
 have Fw3__5 := Fw3__4.other W5 (Or.inr (U7 w))
 have Fbb__5 := Fbb__4.other W5 (Or.inr (U8 w))
 have Flc__5 := Flc__4.other W5 (Or.inr (U9 w))
 have V2__5 := V2__4.other W5 (Ne.symm ne_oa_b2)
 have V4__5 := V4.other W5 (Ne.symm ne_oa_b4)
 have N5 := Fr.snoc X5 N3 g_oa
 have KP5 := KP4.wr W5 (Or.inl (List.mem_of_getElem? (i := 0) rfl))
 refine c8 st5 ?_
 show c5 p e U m T5 18 L_1 []
 refine c6 X5 f d cs3 rfl rfl ?_
 refine f6 X5 f d cs5 (z := (0 : Int32)) rfl ?_
 obtain ⟨T6, h6, k6, X6, e6, E6, A6, Ey6, st6⟩ := newPE (aty := .byte) X5 f Y (Q8 w) e5 (g := (mkF m 20 L_1 [.int 0, .ref oa])) rfl (hb d cs6) rfl (by decide) (cap := 0) (by decide) (by decide) (by decide) (by decide) (ad := "[B") (by decide)
 obtain ⟨b6, g6⟩ : ∃ z, z = h5.size := ⟨_, rfl⟩
 rw [← g6] at A6 Ey6 st6
 have sz_b6 : h0.size ≤ b6 := c9 KP5.1 (f7 g6.symm)
 have ne_oa_b6 : oa ≠ b6 := Nat.ne_of_lt (j3 Ea__5.lt (f7 g6.symm))
 have Ea__6 := Ea__5.ext E6
 have Fsz__6 := Fsz__5.ext E6
 have Fw3__6 := Fw3__5.ext E6
 have Fw5__6 := Fw5.ext E6
 have Fbb__6 := Fbb__5.ext E6
 have Flc__6 := Flc__5.ext E6
 have V2__6 := V2__5.ext E6
 have V4__6 := V4__5.ext E6
 have KP6 := KP5.ext E6
 have V6 : Arv Z h6 b6 k6 .byte (0 : Int32) [] (.int 0) := Arv.new A6 (by decide)
 refine c8 st6 ?_
 obtain ⟨T7, h7, X7, e7, W7, st7⟩ := putF X6 f Y O (host := "") (Or.inl (o8 w)) Via.refl e6 Fbb__6 Ea__6 (Or.inl (B2 w)) (o0 w) (ty := (.array .byte)) (by decide) rfl rfl (g := (mkF m 22 L_1 [.ref b6, .ref oa])) rfl rfl (hb d cs7)
 have Fw7 := Fbb__6.same W7
 have Ea__7 := Ea__6.wr W7
 have Fsz__7 := Fsz__6.other W7 (Or.inr (an3 w))
 have Fw3__7 := Fw3__6.other W7 (Or.inr (an4 w))
 have Fw5__7 := Fw5__6.other W7 (Or.inr (an5 w))
 have Flc__7 := Flc__6.other W7 (Or.inr (an6 w))
 have V2__7 := V2__6.other W7 (Ne.symm ne_oa_b2)
 have V4__7 := V4__6.other W7 (Ne.symm ne_oa_b4)
 have Ey6__7 := Ey6.wr W7
 have V6__7 := V6.other W7 (Ne.symm ne_oa_b6)
 have N7 := Fr.snoc X7 N5 g_oa
 have KP7 := KP6.wr W7 (Or.inl (List.mem_of_getElem? (i := 0) rfl))
 refine c8 st7 ?_
 show c5 p e U m T7 25 L_1 []
 exact q0 X7 f R (hb d cs8) (by rw [e7]; exact ⟨rfl, N7, KP7, [oa, b2, b4, b6], allS (Or.inl rfl) (allS (Or.inr sz_b2) (allS (Or.inr sz_b4) (allS (Or.inr sz_b6) all0))), _, _, _, _, _, _, rfl, ⟨Ea__7, Fsz__7, Fw3__7, Fw5__7, Fw7, Flc__7⟩, V2__7, V4__7, V6__7, Ey6__7⟩) (by decide) (by decide)
def cd8 (Z : State) (xn : Int32) (h0 : Heap) (n0 : Nat) (v : Option Value) (h : Heap) (L : List Loc) : Prop := ∃ (b : Addr) (kb : ClassId), v = some (.ref b) ∧ Fr n0 L ∧ Keep h0 h [] ∧ h0.size ≤ b ∧ Arv Z h b kb .byte xn [] (.int 0) ∧ Exa Z h b "[B"
theorem bo8 (l : Launch) (Z : State) (a0 : Array Value) (w : j9 Z a0) (ws : List Jvm.Cond) (ot : Addr) (kt : ClassId) (xn : Int32) (h0 : Heap) (n0 : Nat) (Z0 : n0 ≤ h0.size) (At : Arv Z h0 ot kt .byte (0 : Int32) [] (.int 0)) (hx0 : 0 < xn) (hx8 : xn.toNatClampNeg ≤ 8) :
 l0 l Z h0 bY9 x3 3 (some (.array .byte)) ws (Jvm.Room.mk 1 1 8 40) #[.ref ot, .int xn] (cd8 Z xn h0 n0) := by
 refine l7 (Ls := #[.val (.ref ot), .val (.int xn), .unset]) (plainFor_of_name G1) (fun p e s m U meth c s₁ Y hh f d r O hnm hlk R X0 e0 => ?_)
 replace O : s.vm.findClass "java/util/Arrays" = some m.cls := O
 have N0 := Fr.nil n0
 let L_1 : Array Slot := #[oR ot,oI xn,oU]
 show c5 p e U m s₁ 0 L_1 []
 refine f4 X0 f d bK1 rfl ?_
 refine c6 X0 f d bK2 rfl rfl ?_
 refine m7 X0 f d Y e0 At bK3 ?_
 refine j5 (pc := 3) (pc' := 14) X0 f d bK4 (feq (cd6 hx0 : ¬ (xn = (0 : Int32)))).2 ?_
 refine f4 X0 f d bn4 rfl ?_
 obtain ⟨T2, h2, k2, X2, e2, E2, A2, Ey2, st2⟩ := newPE (aty := .byte) X0 f Y (Q8 w) e0 (g := (mkF m 15 L_1 [.int xn])) rfl (hb d bn5) rfl (aB5 hx0) (cap := 8) hx8 (by decide) (by decide) (by decide) (ad := "[B") (by decide)
 obtain ⟨b2, g2⟩ : ∃ z, z = h0.size := ⟨_, rfl⟩
 rw [← g2] at A2 Ey2 st2
 have g_b2 : n0 ≤ b2 := c9 Z0 (f7 g2.symm)
 have sz_b2 : h0.size ≤ b2 := c9 (Keep.refl h0 []).1 (f7 g2.symm)
 have At__2 := At.ext E2
 have sz2 := c9 Z0 E2.1
 have KP2 := (Keep.refl h0 []).ext E2
 have V2 : Arv Z h2 b2 k2 .byte xn [] (.int 0) := Arv.new A2 (aB5 hx0)
 refine c8 st2 ?_
 show c5 p e U m T2 17 L_1 [.ref b2]
 let L_2 : Array Slot := #[oR ot,oI xn,oR b2]
 refine w9 X2 f d bn6 rfl (l' := L_2) rfl ?_
 refine c6 X2 f d bn7 rfl rfl ?_
 refine f6 X2 f d bn8 (z := (0 : Int32)) rfl ?_
 refine c6 X2 f d bn9 rfl rfl ?_
 refine f6 X2 f d bo0 (z := (0 : Int32)) rfl ?_
 refine c6 X2 f d bo1 rfl rfl ?_
 refine m7 X2 f d Y e2 At__2 bo2 ?_
 refine f4 X2 f d bo3 rfl ?_
 obtain ⟨_, T4, Lc4, X4, hQ4, st4⟩ := j8 X2 f d r Y e2 O (I8 w) (I9 w) (s6 w) (J0 w) (R5 l Z a0 w [] (0 : Int32) xn h2 n0 sz2 (aB5 hx0)) L_2 bo4 [.int 0, .int xn] [.int 0, .ref b2, .int 0, .ref ot] 4 0 0 (lenOf s9 rfl)
 obtain ⟨rfl, Nq4, e4⟩ := hQ4
 have N4 := Fr.app N0 Nq4
 refine c8 st4 ?_
 obtain ⟨T5, h5, L5, X5, e5, N5, K5, A5, st5⟩ := cpA X4 f Y O (J1 w) (v4 w) (v2 w) (v3 w) e4 At__2 V2 (us := []) (Or.inl ⟨rfl, rfl⟩) (by decide) (by decide) (by decide) (by decide) (Nat.zero_le _) rfl (Nat.zero_le _) N4 g_b2 (g := (mkF m 28 L_2 [.int 0, .int 0, .ref b2, .int 0, .ref ot])) rfl (by rw [r]; rfl) rfl (hb d bo5) (by decide) (W := 0) (by show 2 * 0 + _ ≤ _; exact f7 rfl) (by decide)
 have Ey2__5 := Ey2.keep K5
 have KP5 := KP2.trans K5 (allS (Or.inr sz_b2) all0)
 refine c8 st5 ?_
 show c5 p e U m T5 31 L_2 []
 refine c6 X5 f d bo6 rfl rfl ?_
 show c5 p e U m T5 32 L_2 [.ref b2]
 exact p9 X5 f R rfl rfl (hb d bo7) (by rw [e5]; exact ⟨_, _, rfl, N5, KP5, sz_b2, A5, Ey2__5⟩) (by decide) (by decide)
theorem bK5 : plainName "java/util/Objects" = true := by first | (simp [plainName, overriddenIn]; done) | decide +kernel
theorem cV9:c4 ao5 0 (.aload_n 0) 1:=by decide +kernel
theorem cW0:c4 ao5 1 (.ifnonnull 12) 3:=by decide +kernel
theorem cs9:c4 ao5 13 (.aload_n 0) 1:=by decide +kernel
theorem ct0:c4 ao5 14 .areturn 1:=by decide +kernel
def ag4 (a : Addr) (h0 : Heap) (n0 : Nat) (v : Option Value) (h : Heap) (L : List Loc) : Prop := v = some (.ref a) ∧ Fr n0 L ∧ h = h0
theorem aW7 (l : Launch) (Z : State) (a0 : Array Value) (w : j9 Z a0) (ws : List Jvm.Cond) (oa ob : Addr) (h0 : Heap) (n0 : Nat) (Z0 : n0 ≤ h0.size)  :
 l0 l Z h0 df5 ao5 2 (some (.object "java/lang/Object")) ws (Jvm.Room.mk 0 0 0 0) #[.ref oa, .ref ob] (ag4 oa h0 n0) := by
 refine l7 (Ls := #[.val (.ref oa), .val (.ref ob)]) (plainFor_of_name bK5) (fun p e s m U meth c s₁ Y hh f d r O hnm hlk R X0 e0 => ?_)
 replace O : s.vm.findClass "java/util/Objects" = some m.cls := O
 have N0 := Fr.nil n0
 let L_1 : Array Slot := #[oR oa,oR ob]
 show c5 p e U m s₁ 0 L_1 []
 refine c6 X0 f d cV9 rfl rfl ?_
 refine aW9 (pc := 1) (pc' := 13) X0 f d cW0 ?_
 refine c6 X0 f d cs9 rfl rfl ?_
 show c5 p e U m s₁ 14 L_1 [.ref oa]
 exact p9 X0 f R rfl rfl (hb d ct0) (by rw [e0]; exact ⟨rfl, N0, rfl⟩) (by decide) (by decide)
theorem cW1:c4 ao4 0 (.aload_n 0) 1:=by decide +kernel
theorem cW2:c4 ao4 1 (.ifnonnull 11) 3:=by decide +kernel
theorem ct1:c4 ao4 12 (.aload_n 0) 1:=by decide +kernel
theorem ct2:c4 ao4 13 .areturn 1:=by decide +kernel
theorem cc3 (l : Launch) (Z : State) (a0 : Array Value) (w : j9 Z a0) (ws : List Jvm.Cond) (oa : Addr) (h0 : Heap) (n0 : Nat) (Z0 : n0 ≤ h0.size)  :
 l0 l Z h0 df6 ao4 1 (some (.object "java/lang/Object")) ws (Jvm.Room.mk 0 0 0 0) #[.ref oa] (ag4 oa h0 n0) := by
 refine l7 (Ls := #[.val (.ref oa)]) (plainFor_of_name bK5) (fun p e s m U meth c s₁ Y hh f d r O hnm hlk R X0 e0 => ?_)
 replace O : s.vm.findClass "java/util/Objects" = some m.cls := O
 have N0 := Fr.nil n0
 let L_1 : Array Slot := #[oR oa]
 show c5 p e U m s₁ 0 L_1 []
 refine c6 X0 f d cW1 rfl rfl ?_
 refine aW9 (pc := 1) (pc' := 12) X0 f d cW2 ?_
 refine c6 X0 f d ct1 rfl rfl ?_
 show c5 p e U m s₁ 13 L_1 [.ref oa]
 exact p9 X0 f R rfl rfl (hb d ct2) (by rw [e0]; exact ⟨rfl, N0, rfl⟩) (by decide) (by decide)
theorem bK6:c4 F8 0 (.aload_n 0) 1:=by decide +kernel
theorem bK7:c4 F8 1 (.invokespecial 3) 3:=by decide +kernel
theorem bK8:c4 F8 4 (.aload_n 1) 1:=by decide +kernel
theorem bK9:c4 F8 5 (.ldc 9) 2:=by decide +kernel
theorem bL0:c4 F8 7 (.invokestatic 11) 3:=by decide +kernel
theorem bo9:c4 F8 10 .pop 1:=by decide +kernel
theorem bp0:c4 F8 11 (.aload_n 1) 1:=by decide +kernel
theorem bp1:c4 F8 12 (.invokestatic 17) 3:=by decide +kernel
theorem bp2:c4 F8 15 (.ifCond .ne 17) 3:=by decide +kernel
theorem bp3:c4 F8 32 (.aload_n 0) 1:=by decide +kernel
theorem bp4:c4 F8 33 (.aload_n 1) 1:=by decide +kernel
theorem bp5:c4 F8 34 (.putfield 30) 3:=by decide +kernel
theorem bp6:c4 F8 37 .return_ 1:=by decide +kernel
theorem aT7 : parseMethodDescriptor "(Ljava/lang/Object;Ljava/lang/String;)Ljava/lang/Object;" = some ⟨[(.object "java/lang/Object"), (.object "java/lang/String")], some (.object "java/lang/Object")⟩ := by decide +kernel
theorem bL1 : parseMethodDescriptor "(Ljava/lang/String;)Z" = some ⟨[(.object "java/lang/String")], some .boolean⟩ := by decide +kernel
def ch1 (Z : State) (oa os : Addr) (h0 : Heap) (n0 : Nat) (v : Option Value) (h : Heap) (L : List Loc) : Prop := v = none ∧ Fr n0 L ∧ Keep h0 h [oa] ∧ Fld Z h oa "com/example/prizewell/prizewell/core/AccountName" "value" "Ljava/lang/String;" (.ref os)
theorem aW8 (l : Launch) (Z : State) (a0 : Array Value) (w : j9 Z a0) (ws : List Jvm.Cond) (oa os ot : Addr) (kt : ClassId) (cs_ : List Int32) (z0 pc0 : Addr) (kpc : ClassId) (pcs : List Value) (fm : Value) (al : Addr) (kal : ClassId) (als : List Value) (h0 : Heap) (n0 : Nat) (Z0 : n0 ≤ h0.size) (Ea : Exa Z h0 oa "com/example/prizewell/prizewell/core/AccountName") (Fv : Fld Z h0 oa "com/example/prizewell/prizewell/core/AccountName" "value" "Ljava/lang/String;" .null) (S_os : own_S Z h0 os ot kt (p6 cs_) (m9 cs_)) (nm_ : own_nm als cs_) (g_oa : n0 ≤ oa) (XO : Old Z n0 h0) (WW : r5 Z z0 pc0 kpc pcs fm al kal als) :
 S7 l3 l Z h0 aB1 F8 2 none ws (Jvm.Room.mk 6 2 24 92) #[.ref oa, .ref os] [] (ch1 Z oa os h0 n0) := by
 refine Y8 (Ls := #[.val (.ref oa), .val (.ref os)]) (plainFor_of_name al5) (fun m => by first | (simp [entryFrame, mkF, argsToLocals, Value.category]; done) | rfl) (fun p e s m U meth c s₁ Y hh hC0 hsf0 f d r O hnm hlk R X0 e0 => ?_)
 replace O : s.vm.findClass "com/example/prizewell/prizewell/core/AccountName" = some m.cls := O
 have N0 := Fr.nil n0
 have hEL := U0 w
 have hR0 : CHr Z l3 s.vm h0 s.vm h0 := CHr.refl hC0
 have hS0 : s.Since s.vm 0 := (State.WarmedH.refl s).since 0
 have hk0 : 0 ≤ h0.size := Nat.zero_le _
 obtain ⟨SAl, AAl, r_fm, ⟨cs, hcs, SC⟩, SFM, SZ, BZ, SPc, APc, HPc, HAL, uo, u8, i8, CS⟩ := id WW
 let L_1 : Array Slot := #[oR oa,oR os]
 show c5 p e U m s₁ 0 L_1 []
 rcases nm_ with ⟨c0, rfl, ok0⟩ | ⟨c0, c1, rfl, ok0, ok1⟩
 · obtain ⟨E_os, Fc_os, Fv_os, At_os⟩ : own_S Z h0 os ot kt (1 : Int32) [.int c0] := S_os
   show c5 p e U m s₁ 0 L_1 []
   refine c6 X0 f d bK6 rfl rfl ?_
   obtain ⟨_, T1, Lc1, X1, hQ1, st1⟩ := D0 X0 f d r Y e0 O (bF6 w) (aM1 w) (aM2 w) (aM3 w) (o := oa) (aW6 l Z a0 w [] oa h0 n0 Z0) L_1 bK7 [] [] 0 0 0 (lenOf S5 rfl)
   obtain ⟨rfl, Nq1, e1⟩ := hQ1
   have N1 := Fr.app N0 Nq1
   refine c8 st1 ?_
   show c5 p e U m T1 4 L_1 []
   refine c6 X1 f d bK8 rfl rfl ?_
   show c5 p e U m T1 5 L_1 [.ref os]
   obtain ⟨s2, T2, h2, j2, c2, kc2, X2, e2, E2, hS2, hk2, hZ2, hown2, Es2, Fc2, Fv2, Ab2, -, -, hC2, -, hne2, st2⟩ := ldcCH X1 f Y O (aM4 w) (au9 w) e1 hS0 hk0 hEL (List.mem_of_getElem? (i := 0) rfl) hC0 (vs := [.int 118, .int 97, .int 108, .int 117, .int 101]) (z := (5 : Int32)) ⟨by decide, by decide +kernel⟩ (by decide) rfl (g := (mkF m 5 L_1 [.ref os])) rfl (hb d bK9) (n := 20) (by decide) (by decide) (by decide) (by decide)
   have Ea__2 := Ea.ext E2
   have Fv__2 := Fv.ext E2
   have XO__2 := XO.ext E2
   have E_os__2 := E_os.ext E2
   have Fc_os__2 := Fc_os.ext E2
   have Fv_os__2 := Fv_os.ext E2
   have At_os__2 := At_os.ext E2
   have hR2 := hR0.trans hC2
   have hD2 := hR2.1
   have sz2 := c9 Z0 E2.1
   have KP2 := (Keep.refl h0 [oa]).ext E2
   refine c8 st2 ?_
   obtain ⟨_, T3, Lc3, X3, hQ3, st3⟩ := j8 X2 f d r hZ2 e2 hown2 (bF7 w) (aM5 w) (an0 w) (aM6 w) (aW7 l Z a0 w [] os s2 h2 n0 sz2) L_1 bL0 [.ref os, .ref s2] [] 0 0 0 (lenOf aT7 rfl)
   obtain ⟨rfl, Nq3, e3⟩ := hQ3
   have N3 := Fr.app N1 Nq3
   refine c8 st3 ?_
   show c5 p e U m T3 10 L_1 [.ref os]
   refine az0 X3 f d bo9 rfl ?_
   refine c6 X3 f d bp0 rfl rfl ?_
   obtain ⟨_, T4, Lc4, X4, hQ4, st4⟩ := j8 X3 f d r hZ2 e3 hown2 (bF8 w) (bF9 w) (F7 w) (bG0 w) (cT5 l Z a0 w [] os ot kt c0 z0 pc0 kpc pcs fm al kal als h2 n0 sz2 ⟨E_os__2, Fc_os__2, Fv_os__2, At_os__2⟩ ok0 XO__2 WW) L_1 bp1 [.ref os] [] 0 0 0 (lenOf bL1 rfl)
   obtain ⟨rfl, Nq4, e4⟩ := hQ4
   have N4 := Fr.app N3 Nq4
   refine c8 st4 ?_
   show c5 p e U m T4 15 L_1 [.int 1]
   refine o2 (pc := 15) (pc' := 32) X4 f d bp2 ((if0 _ _).trans (feq (by decide : ¬ ((1 : Int32) = (0 : Int32)))).2) ?_
   refine c6 X4 f d bp3 rfl rfl ?_
   refine c6 X4 f d bp4 rfl rfl ?_
   obtain ⟨T5, h5, X5, e5, W5, st5⟩ := putF X4 f hZ2 hown2 (host := "") (Or.inl (aM8 w)) Via.refl e4 Fv__2 Ea__2 (Or.inr ⟨(an2 w), rfl, hnm⟩) (am9 w) (ty := (.object "java/lang/String")) (by decide) rfl rfl (g := (mkF m 34 L_1 [.ref os, .ref oa])) rfl rfl (hb d bp5)
   have Fw5 := Fv__2.same W5
   have Sa5 : Safe Z l3 T2.vm h2 oa := (Safe.exa hZ2.alike Ea__2 (by decide) (by decide))
   have hR5 := hR2.trans (CHr.wr W5 Sa5 hD2)
   have hC5 := hR5.1
   have N5 := Fr.snoc X5 N4 g_oa
   have KP5 := KP2.wr W5 (Or.inl (List.mem_of_getElem? (i := 0) rfl))
   have hk5 := c9 hk2 (Keep.of_wr W5).1
   refine c8 st5 ?_
   show c5 p e U m T5 37 L_1 []
   have hF : CHr Z l3 s.vm s.heap T5.vm T5.heap := by rw [hh, e5]; exact hR5.trans (CHv.at X5 hZ2 hEL hC5)
   exact aB8 X5 f R (hb d bp6) hS2 (by rw [e5]; exact hk5) (by rw [e5]; exact ⟨rfl, N5, KP5, Fw5⟩) (hF) (by decide) (by decide)
 · obtain ⟨E_os, Fc_os, Fv_os, At_os⟩ : own_S Z h0 os ot kt (2 : Int32) [.int c0, .int c1] := S_os
   show c5 p e U m s₁ 0 L_1 []
   refine c6 X0 f d bK6 rfl rfl ?_
   obtain ⟨_, T6, Lc6, X6, hQ6, st6⟩ := D0 X0 f d r Y e0 O (bF6 w) (aM1 w) (aM2 w) (aM3 w) (o := oa) (aW6 l Z a0 w [] oa h0 n0 Z0) L_1 bK7 [] [] 0 0 0 (lenOf S5 rfl)
   obtain ⟨rfl, Nq6, e6⟩ := hQ6
   have N6 := Fr.app N0 Nq6
   refine c8 st6 ?_
   show c5 p e U m T6 4 L_1 []
   refine c6 X6 f d bK8 rfl rfl ?_
   show c5 p e U m T6 5 L_1 [.ref os]
   obtain ⟨s7, T7, h7, j7, c7, kc7, X7, e7, E7, hS7, hk7, hZ7, hown7, Es7, Fc7, Fv7, Ab7, -, -, hC7, -, hne7, st7⟩ := ldcCH X6 f Y O (aM4 w) (au9 w) e6 hS0 hk0 hEL (List.mem_of_getElem? (i := 0) rfl) hC0 (vs := [.int 118, .int 97, .int 108, .int 117, .int 101]) (z := (5 : Int32)) ⟨by decide, by decide +kernel⟩ (by decide) rfl (g := (mkF m 5 L_1 [.ref os])) rfl (hb d bK9) (n := 20) (by decide) (by decide) (by decide) (by decide)
   have Ea__7 := Ea.ext E7
   have Fv__7 := Fv.ext E7
   have XO__7 := XO.ext E7
   have E_os__7 := E_os.ext E7
   have Fc_os__7 := Fc_os.ext E7
   have Fv_os__7 := Fv_os.ext E7
   have At_os__7 := At_os.ext E7
   have hR7 := hR0.trans hC7
   have hD7 := hR7.1
   have sz7 := c9 Z0 E7.1
   have KP7 := (Keep.refl h0 [oa]).ext E7
   refine c8 st7 ?_
   obtain ⟨_, T8, Lc8, X8, hQ8, st8⟩ := j8 X7 f d r hZ7 e7 hown7 (bF7 w) (aM5 w) (an0 w) (aM6 w) (aW7 l Z a0 w [] os s7 h7 n0 sz7) L_1 bL0 [.ref os, .ref s7] [] 0 0 0 (lenOf aT7 rfl)
   obtain ⟨rfl, Nq8, e8⟩ := hQ8
   have N8 := Fr.app N6 Nq8
   refine c8 st8 ?_
   show c5 p e U m T8 10 L_1 [.ref os]
   refine az0 X8 f d bo9 rfl ?_
   refine c6 X8 f d bp0 rfl rfl ?_
   obtain ⟨_, T9, Lc9, X9, hQ9, st9⟩ := j8 X8 f d r hZ7 e8 hown7 (bF8 w) (bF9 w) (F7 w) (bG0 w) (cT7 l Z a0 w [] os ot kt c0 c1 z0 pc0 kpc pcs fm al kal als h7 n0 sz7 ⟨E_os__7, Fc_os__7, Fv_os__7, At_os__7⟩ ok0 ok1 XO__7 WW) L_1 bp1 [.ref os] [] 0 0 0 (lenOf bL1 rfl)
   obtain ⟨rfl, Nq9, e9⟩ := hQ9
   have N9 := Fr.app N8 Nq9
   refine c8 st9 ?_
   show c5 p e U m T9 15 L_1 [.int 1]
   refine o2 (pc := 15) (pc' := 32) X9 f d bp2 ((if0 _ _).trans (feq (by decide : ¬ ((1 : Int32) = (0 : Int32)))).2) ?_
   refine c6 X9 f d bp3 rfl rfl ?_
   refine c6 X9 f d bp4 rfl rfl ?_
   obtain ⟨T10, h10, X10, e10, W10, st10⟩ := putF X9 f hZ7 hown7 (host := "") (Or.inl (aM8 w)) Via.refl e9 Fv__7 Ea__7 (Or.inr ⟨(an2 w), rfl, hnm⟩) (am9 w) (ty := (.object "java/lang/String")) (by decide) rfl rfl (g := (mkF m 34 L_1 [.ref os, .ref oa])) rfl rfl (hb d bp5)
   have Fw10 := Fv__7.same W10
   have Sa10 : Safe Z l3 T7.vm h7 oa := (Safe.exa hZ7.alike Ea__7 (by decide) (by decide))
   have hR10 := hR7.trans (CHr.wr W10 Sa10 hD7)
   have hC10 := hR10.1
   have N10 := Fr.snoc X10 N9 g_oa
   have KP10 := KP7.wr W10 (Or.inl (List.mem_of_getElem? (i := 0) rfl))
   have hk10 := c9 hk7 (Keep.of_wr W10).1
   refine c8 st10 ?_
   show c5 p e U m T10 37 L_1 []
   have hF : CHr Z l3 s.vm s.heap T10.vm T10.heap := by rw [hh, e10]; exact hR10.trans (CHv.at X10 hZ7 hEL hC10)
   exact aB8 X10 f R (hb d bp6) hS7 (by rw [e10]; exact hk10) (by rw [e10]; exact ⟨rfl, N10, KP10, Fw10⟩) (hF) (by decide) (by decide)
theorem bp7 {c : Int32} (h0 : ¬ c < 0) (h1 : c < 128) : nar .byte (c.toInt8.toInt32) = c := by
 rw [be7 h0 h1]; simp only [nar]; exact be7 h0 h1
theorem Z7 {c : Int32} (h0 : ¬ c < 0) (h1 : c < 128) : c.toInt8.toInt32.toInt8.toInt32 = c := bp7 h0 h1
theorem aD0 {c : Int32} (h0 : ¬ c < 0) (h1 : c < 128) : nar .byte ((nar .char c).toInt8.toInt32) = c := by
 rw [aC9 h0 h1]; exact bp7 h0 h1
theorem aC8 {c : Int32} (h0 : ¬ c < 0) (h1 : c < 128) : ¬ (255 : Int32) < nar .char c := by
 rw [aC9 h0 h1]; rw [Int32.lt_iff_toInt_lt] at *
 have a1 : (128 : Int32).toInt = 128 := by decide
 have a2 : (255 : Int32).toInt = 255 := by decide
 omega
theorem aZ6 {als : List Value} (H : ∀ c ∈ I3, s8 als c) {j : Int32} (h0 : ¬ j < 0) (h1 : j < 65) : ∃ c, (m9 I3).getD j.toNatClampNeg (.int 0) = .int c ∧ s8 als c := by
 have hn : j.toNatClampNeg < I3.length := by
  rw [Int32.lt_iff_toInt_lt] at h1
  have a1 : (65 : Int32).toInt = 65 := by decide
  have a2 : I3.length = 65 := by decide
  rw [a2]; simp only [Int32.toNatClampNeg]; omega
 refine ⟨I3.getD j.toNatClampNeg 0, Z2 Value.int _ _ _, H _ ?_⟩
 rw [List.getD_eq_getElem?_getD, List.getElem?_eq_getElem hn]
 exact List.getElem_mem hn
theorem ak1 : plainName "java/lang/StringUTF16" = true := by first | (simp [plainName, overriddenIn]; done) | decide +kernel
theorem bL2:c4 t1 0 (.iconst 0) 1:=by decide +kernel
theorem bL3:c4 t1 1 (.istore 5) 2:=by decide +kernel
theorem an7:c4 t1 3 (.iload 5) 2:=by decide +kernel
theorem an8:c4 t1 5 (.iload 4) 2:=by decide +kernel
theorem an9:c4 t1 7 (.if_icmp .ge 37) 3:=by decide +kernel
theorem aI5:c4 t1 10 (.aload_n 0) 1:=by decide +kernel
theorem aI6:c4 t1 11 (.iload_n 1) 1:=by decide +kernel
theorem aI7:c4 t1 12 .caload 1:=by decide +kernel
theorem aI8:c4 t1 13 (.istore 6) 2:=by decide +kernel
theorem aI9:c4 t1 15 (.iload 6) 2:=by decide +kernel
theorem aJ0:c4 t1 17 (.sipush 255) 3:=by decide +kernel
theorem aJ1:c4 t1 20 (.if_icmp .le 6) 3:=by decide +kernel
theorem aJ2:c4 t1 26 (.aload_n 2) 1:=by decide +kernel
theorem aJ3:c4 t1 27 (.iload_n 3) 1:=by decide +kernel
theorem aJ4:c4 t1 28 (.iload 6) 2:=by decide +kernel
theorem aJ5:c4 t1 30 .i2b 1:=by decide +kernel
theorem aJ6:c4 t1 31 .bastore 1:=by decide +kernel
theorem aJ7:c4 t1 32 (.iinc 1 1) 3:=by decide +kernel
theorem aJ8:c4 t1 35 (.iinc 3 1) 3:=by decide +kernel
theorem aJ9:c4 t1 38 (.iinc 5 1) 3:=by decide +kernel
theorem aK0:c4 t1 41 (.goto (-38)) 3:=by decide +kernel
theorem bp8:c4 t1 44 (.iload 4) 2:=by decide +kernel
theorem bp9:c4 t1 46 .ireturn 1:=by decide +kernel
def cf4 (Z : State) (u : Addr) (ku : ClassId) (c0 : Int32) (h0 : Heap) (n0 : Nat) (v : Option Value) (h : Heap) (L : List Loc) : Prop := v = some (.int 1) ∧ Fr n0 L ∧ Keep h0 h [u] ∧ Arv Z h u ku .byte (1 : Int32) [.int (nar .byte (c0.toInt8.toInt32))] (.int 0)
theorem cW3 (l : Launch) (Z : State) (a0 : Array Value) (w : j9 Z a0) (ws : List Jvm.Cond) (cc u : Addr) (kc ku : ClassId) (c0 : Int32) (h0 : Heap) (n0 : Nat) (Z0 : n0 ≤ h0.size) (Ac : Arv Z h0 cc kc .char (1 : Int32) [.int c0] (.int 0)) (Au : Arv Z h0 u ku .byte (1 : Int32) [.int 0] (.int 0)) (g_u : n0 ≤ u) (ne_cu : cc ≠ u) (hp0 : ¬ (255 : Int32) < c0) :
 l0 l Z h0 bZ0 t1 7 (some .int) ws (Jvm.Room.mk 0 0 0 0) #[.ref cc, .int 0, .ref u, .int 0, .int 1] (cf4 Z u ku c0 h0 n0) := by
 refine l7 (Ls := #[.val (.ref cc), .val (.int 0), .val (.ref u), .val (.int 0), .val (.int 1), .unset, .unset]) (plainFor_of_name ak1) (fun p e s m U meth c s₁ Y hh f d r O hnm hlk R X0 e0 => ?_)
 replace O : s.vm.findClass "java/lang/StringUTF16" = some m.cls := O
 have N0 := Fr.nil n0
 let L_1 : Array Slot := #[oR cc,oI 0,oR u,oI 0,oI 1,oU,oU]
 show c5 p e U m s₁ 0 L_1 []
 refine f6 X0 f d bL2 (z := (0 : Int32)) rfl ?_
 let L_2 : Array Slot := #[oR cc,oI 0,oR u,oI 0,oI 1,oI 0,oU]
 refine o4 X0 f d bL3 (l' := L_2) rfl ?_
 refine f5 X0 f d an7 rfl ?_
 refine f5 X0 f d an8 rfl ?_
 refine m4 X0 f d an9 (tlt (by decide : (0 : Int32) < (1 : Int32))).2.1 ?_
 refine c6 X0 f d aI5 rfl rfl ?_
 refine f4 X0 f d aI6 rfl ?_
 show c5 p e U m s₁ 12 L_2 [.int 0, .ref cc]
 obtain ⟨cl1, Ar1, qa1, Sa1, Na1, Ha1, Ga1⟩ := id Ac
 have hin1 : ¬ ((0 : Int32) < 0 ∨ cl1.slots.size ≤ ((0 : Int32)).toNatClampNeg) := inb_of Sa1 ⟨by decide, by decide⟩
 have hat1 : cl1.slots[((0 : Int32)).toNatClampNeg]? = some (.int c0) := Ha1.at hin1 rfl
 refine c8 (fun t k => X0.caload f (j := (0 : Int32)) (v := (.int c0)) (by rw [e0]; exact Ar1.1) (State.isArrayOf_alike Y.alike Ar1.2.1) Ar1.2.2 hin1 hat1 (g := (mkF m 12 L_2 [.int 0, .ref cc])) rfl rfl (hb d aI7) t k) ?_
 show c5 p e U m s₁ 13 L_2 [.int c0]
 let L_3 : Array Slot := #[oR cc,oI 0,oR u,oI 0,oI 1,oI 0,oI c0]
 refine o4 X0 f d aI8 (l' := L_3) rfl ?_
 refine f5 X0 f d aI9 rfl ?_
 refine M2 X0 f d aJ0 (z := (255 : Int32)) rfl ?_
 refine j5 (pc := 20) (pc' := 26) X0 f d aJ1 (flt hp0).2.2.2 ?_
 refine c6 X0 f d aJ2 rfl rfl ?_
 refine f4 X0 f d aJ3 rfl ?_
 refine f5 X0 f d aJ4 rfl ?_
 refine H4 X0 f d aJ5 ?_
 show c5 p e U m s₁ 31 L_3 [(.int (c0.toInt8.toInt32)), .int 0, .ref u]
 obtain ⟨cl2, Ar2, qa2, Sa2, Na2, Ha2, Ga2⟩ := id Au
 have hin2 : ¬ ((0 : Int32) < 0 ∨ cl2.slots.size ≤ ((0 : Int32)).toNatClampNeg) := inb_of Sa2 ⟨by decide, by decide⟩
 obtain ⟨T2, h2, X2, e2, W2, st2⟩ := stB X0 f Y e0 Ar2 (j := (0 : Int32)) hin2 (g := (mkF m 31 L_3 [(.int (c0.toInt8.toInt32)), .int 0, .ref u])) rfl rfl (hb d aJ6)
 have Vw2 : Arv Z h2 u ku .byte (1 : Int32) [(.int (nar .byte (c0.toInt8.toInt32)))] (.int 0) := Arv.set Ar2 qa2 Sa2 Na2 Ha2 Ga2 (fits_nar_byte _) W2 0 rfl (Nat.le_of_ble_eq_true rfl)
 have N2 := Fr.snoc X2 N0 g_u
 have KP2 := (Keep.refl h0 [u]).wr W2 (Or.inl (List.mem_of_getElem? (i := 0) rfl))
 refine c8 st2 ?_
 show c5 p e U m T2 32 L_3 []
 let L_4 : Array Slot := #[oR cc,oI 1,oR u,oI 0,oI 1,oI 0,oI c0]
 refine c8 (fun t k => XS.iinc X2.here f rfl (hb d aJ7) rfl (l' := L_4) rfl k) ?_
 show c5 p e U m T2 35 L_4 []
 let L_5 : Array Slot := #[oR cc,oI 1,oR u,oI 1,oI 1,oI 0,oI c0]
 refine c8 (fun t k => XS.iinc X2.here f rfl (hb d aJ8) rfl (l' := L_5) rfl k) ?_
 show c5 p e U m T2 38 L_5 []
 let L_6 : Array Slot := #[oR cc,oI 1,oR u,oI 1,oI 1,oI 1,oI c0]
 refine c8 (fun t k => XS.iinc X2.here f rfl (hb d aJ9) rfl (l' := L_6) rfl k) ?_
 show c5 p e U m T2 41 L_6 []
 refine m5 (pc := 41) (pc' := 3) X2 f d aK0 ?_
 refine f5 X2 f d an7 rfl ?_
 refine f5 X2 f d an8 rfl ?_
 refine j5 (pc := 7) (pc' := 44) X2 f d an9 (flt (by decide : ¬ ((1 : Int32) < (1 : Int32)))).2.1 ?_
 refine f5 X2 f d bp8 rfl ?_
 show c5 p e U m T2 46 L_6 [.int 1]
 exact r8 X2 f R (hb d bp9) (by rw [e2]; exact ⟨rfl, N2, KP2, Vw2⟩) (by decide) (by decide)
theorem bL4:c4 B4 0 (.iload_n 2) 1:=by decide +kernel
theorem bL5:c4 B4 1 (.newarray .byte) 2:=by decide +kernel
theorem bL6:c4 B4 3 (.astore_n 3) 1:=by decide +kernel
theorem bL7:c4 B4 4 (.aload_n 0) 1:=by decide +kernel
theorem bL8:c4 B4 5 (.iload_n 1) 1:=by decide +kernel
theorem bL9:c4 B4 6 (.aload_n 3) 1:=by decide +kernel
theorem bM0:c4 B4 7 (.iconst 0) 1:=by decide +kernel
theorem bM1:c4 B4 8 (.iload_n 2) 1:=by decide +kernel
theorem bM2:c4 B4 9 (.invokestatic 115) 3:=by decide +kernel
theorem bq0:c4 B4 12 (.istore 4) 2:=by decide +kernel
theorem bq1:c4 B4 14 (.iload 4) 2:=by decide +kernel
theorem bq2:c4 B4 16 (.iload_n 2) 1:=by decide +kernel
theorem bq3:c4 B4 17 (.if_icmp .eq 40) 3:=by decide +kernel
theorem bq4:c4 B4 57 (.aload_n 3) 1:=by decide +kernel
theorem bq5:c4 B4 58 .areturn 1:=by decide +kernel
theorem bM3 : parseMethodDescriptor "([CI[BII)I" = some ⟨[(.array .char), .int, (.array .byte), .int, .int], some .int⟩ := by decide +kernel
def cf5 (Z : State) (c0 : Int32) (h0 : Heap) (n0 : Nat) (v : Option Value) (h : Heap) (L : List Loc) : Prop := ∃ (b : Addr) (kb : ClassId), v = some (.ref b) ∧ Fr n0 L ∧ Keep h0 h [] ∧ h0.size ≤ b ∧ Arv Z h b kb .byte (1 : Int32) [.int (nar .byte (c0.toInt8.toInt32))] (.int 0)
theorem cW4 (l : Launch) (Z : State) (a0 : Array Value) (w : j9 Z a0) (ws : List Jvm.Cond) (cc : Addr) (kc : ClassId) (c0 : Int32) (h0 : Heap) (n0 : Nat) (Z0 : n0 ≤ h0.size) (Ac : Arv Z h0 cc kc .char (1 : Int32) [.int c0] (.int 0)) (hp0 : ¬ (255 : Int32) < c0) :
 l0 l Z h0 bZ1 B4 6 (some (.array .byte)) ws (Jvm.Room.mk 1 1 1 18) #[.ref cc, .int 0, .int 1] (cf5 Z c0 h0 n0) := by
 refine l7 (Ls := #[.val (.ref cc), .val (.int 0), .val (.int 1), .unset, .unset, .unset]) (plainFor_of_name ak1) (fun p e s m U meth c s₁ Y hh f d r O hnm hlk R X0 e0 => ?_)
 replace O : s.vm.findClass "java/lang/StringUTF16" = some m.cls := O
 have N0 := Fr.nil n0
 let L_1 : Array Slot := #[oR cc,oI 0,oI 1,oU,oU,oU]
 show c5 p e U m s₁ 0 L_1 []
 refine f4 X0 f d bL4 rfl ?_
 obtain ⟨T1, h1, k1, X1, e1, E1, A1, Ey1, st1⟩ := newPE (aty := .byte) X0 f Y (Q8 w) e0 (g := (mkF m 1 L_1 [.int 1])) rfl (hb d bL5) rfl (by decide) (cap := 1) (by decide) (by decide) (by decide) (by decide) (ad := "[B") (by decide)
 obtain ⟨b1, g1⟩ : ∃ z, z = h0.size := ⟨_, rfl⟩
 rw [← g1] at A1 Ey1 st1
 have g_b1 : n0 ≤ b1 := c9 Z0 (f7 g1.symm)
 have sz_b1 : h0.size ≤ b1 := c9 (Keep.refl h0 []).1 (f7 g1.symm)
 have ne_cc_b1 : cc ≠ b1 := Nat.ne_of_lt (j3 Ac.lt (f7 g1.symm))
 have Ac__1 := Ac.ext E1
 have sz1 := c9 Z0 E1.1
 have KP1 := (Keep.refl h0 []).ext E1
 have V1 : Arv Z h1 b1 k1 .byte (1 : Int32) [.int 0] (.int 0) := (Arv.new A1 (by decide)).pad (pad_rep [] (.int 0) 1)
 refine c8 st1 ?_
 show c5 p e U m T1 3 L_1 [.ref b1]
 let L_2 : Array Slot := #[oR cc,oI 0,oI 1,oR b1,oU,oU]
 refine w9 X1 f d bL6 rfl (l' := L_2) rfl ?_
 refine c6 X1 f d bL7 rfl rfl ?_
 refine f4 X1 f d bL8 rfl ?_
 refine c6 X1 f d bL9 rfl rfl ?_
 refine f6 X1 f d bM0 (z := (0 : Int32)) rfl ?_
 refine f4 X1 f d bM1 rfl ?_
 obtain ⟨_, T2, Lc2, X2, hQ2, st2⟩ := j8 X1 f d r Y e1 O (bE8 w) (bE9 w) (aj1 w) (bF0 w) (cW3 l Z a0 w [] cc b1 kc k1 c0 h1 n0 sz1 Ac__1 V1 g_b1 ne_cc_b1 hp0) L_2 bM2 [.ref cc, .int 0, .ref b1, .int 0, .int 1] [] 0 0 0 (lenOf bM3 rfl)
 obtain ⟨rfl, Nq2, K2, A2⟩ := hQ2
 have N2 := Fr.app N0 Nq2
 refine c8 st2 ?_
 have KP2 := KP1.trans K2 (allS (Or.inr sz_b1) all0)
 show c5 p e U m T2 12 L_2 [.int 1]
 let L_3 : Array Slot := #[oR cc,oI 0,oI 1,oR b1,oI 1,oU]
 refine o4 X2 f d bq0 (l' := L_3) rfl ?_
 refine f5 X2 f d bq1 rfl ?_
 refine f4 X2 f d bq2 rfl ?_
 refine j5 (pc := 17) (pc' := 57) X2 f d bq3 (teq (by decide : (1 : Int32) = (1 : Int32))).1 ?_
 refine c6 X2 f d bq4 rfl rfl ?_
 show c5 p e U m T2 58 L_3 [.ref b1]
 exact p9 X2 f R rfl rfl (hb d bq5) (⟨_, _, rfl, N2, KP2, sz_b1, A2⟩) (by decide) (by decide)
theorem bM4:c4 M0 0 (.iload_n 1) 1:=by decide +kernel
theorem bM5:c4 M0 1 (.aload_n 0) 1:=by decide +kernel
theorem bM6:c4 M0 2 .arraylength 1:=by decide +kernel
theorem bM7:c4 M0 3 .isub 1:=by decide +kernel
theorem bM8:c4 M0 4 (.bipush 31) 2:=by decide +kernel
theorem bM9:c4 M0 6 .iushr 1:=by decide +kernel
theorem bN0:c4 M0 7 .i2b 1:=by decide +kernel
theorem bN1:c4 M0 8 .ireturn 1:=by decide +kernel
def cf6 (h0 : Heap) (n0 : Nat) (v : Option Value) (h : Heap) (L : List Loc) : Prop := v = some (.int 0) ∧ Fr n0 L ∧ h = h0
theorem cW5 (l : Launch) (Z : State) (a0 : Array Value) (w : j9 Z a0) (ws : List Jvm.Cond) (ot : Addr) (kt : ClassId) (x0 : Int32) (h0 : Heap) (n0 : Nat) (Z0 : n0 ≤ h0.size) (At : Arv Z h0 ot kt .byte (1 : Int32) [.int x0] (.int 0)) :
 l0 l Z h0 bZ2 M0 2 (some .byte) ws (Jvm.Room.mk 0 0 0 0) #[.ref ot, .int 1] (cf6 h0 n0) := by
 refine l7 (Ls := #[.val (.ref ot), .val (.int 1)]) (plainFor_of_name ak1) (fun p e s m U meth c s₁ Y hh f d r O hnm hlk R X0 e0 => ?_)
 replace O : s.vm.findClass "java/lang/StringUTF16" = some m.cls := O
 have N0 := Fr.nil n0
 let L_1 : Array Slot := #[oR ot,oI 1]
 show c5 p e U m s₁ 0 L_1 []
 refine f4 X0 f d bM4 rfl ?_
 refine c6 X0 f d bM5 rfl rfl ?_
 refine m7 X0 f d Y e0 At bM6 ?_
 refine x7 X0 f d bM7 ?_
 refine t9 X0 f d bM8 (z := (31 : Int32)) rfl ?_
 refine ap0 X0 f d bM9 ?_
 refine H4 X0 f d bN0 ?_
 show c5 p e U m s₁ 8 L_1 [(.int (((((1 : Int32) - (1 : Int32)).toUInt32 >>> ((31 : Int32) &&& 31).toUInt32).toInt32).toInt8.toInt32))]
 exact t4 X0 f (t := .byte) R (by simp) (hb d bN1) (by rw [e0]; exact ⟨by decide, N0, rfl⟩) (by decide) (by decide)
theorem bN2:c4 v5 0 (.aload_n 0) 1:=by decide +kernel
theorem bN3:c4 v5 1 (.invokespecial 1) 3:=by decide +kernel
theorem bN4:c4 v5 4 (.iload_n 3) 1:=by decide +kernel
theorem bN5:c4 v5 5 (.ifCond .ne 22) 3:=by decide +kernel
theorem bq6:c4 v5 27 (.getstatic 38) 3:=by decide +kernel
theorem bq7:c4 v5 30 (.ifCond .eq 28) 3:=by decide +kernel
theorem bq8:c4 v5 33 (.aload_n 1) 1:=by decide +kernel
theorem bq9:c4 v5 34 (.iload_n 2) 1:=by decide +kernel
theorem br0:c4 v5 35 (.iload_n 3) 1:=by decide +kernel
theorem br1:c4 v5 36 (.invokestatic 177) 3:=by decide +kernel
theorem br2:c4 v5 39 (.astore 5) 2:=by decide +kernel
theorem br3:c4 v5 41 (.aload_n 0) 1:=by decide +kernel
theorem br4:c4 v5 42 (.aload 5) 2:=by decide +kernel
theorem br5:c4 v5 44 (.iload_n 3) 1:=by decide +kernel
theorem br6:c4 v5 45 (.invokestatic 47) 3:=by decide +kernel
theorem br7:c4 v5 48 (.putfield 15) 3:=by decide +kernel
theorem br8:c4 v5 51 (.aload_n 0) 1:=by decide +kernel
theorem br9:c4 v5 52 (.aload 5) 2:=by decide +kernel
theorem bs0:c4 v5 54 (.putfield 9) 3:=by decide +kernel
theorem bs1:c4 v5 57 .return_ 1:=by decide +kernel
theorem bN6 : parseMethodDescriptor "([CII)[B" = some ⟨[(.array .char), .int, .int], some (.array .byte)⟩ := by decide +kernel
theorem bN7 : parseMethodDescriptor "([BI)B" = some ⟨[(.array .byte), .int], some .byte⟩ := by decide +kernel
def aY1 (Z : State) (a : Addr) (c0 : Int32) (h0 : Heap) (n0 : Nat) (v : Option Value) (h : Heap) (L : List Loc) : Prop := v = none ∧ Fr n0 L ∧ Keep h0 h [a] ∧ Fld Z h a "java/lang/String" "coder" "B" (.int 0) ∧ ∃ (b : Addr) (kb : ClassId), h0.size ≤ b ∧ Fld Z h a "java/lang/String" "value" "[B" (.ref b) ∧ Arv Z h b kb .byte (1 : Int32) [.int (nar .byte (c0.toInt8.toInt32))] (.int 0)
theorem cW6 (l : Launch) (Z : State) (a0 : Array Value) (w : j9 Z a0) (ws : List Jvm.Cond) (oa cc : Addr) (kc : ClassId) (cs : Int32) (c0 : Int32) (h0 : Heap) (n0 : Nat) (Z0 : n0 ≤ h0.size) (Ea : Exa Z h0 oa "java/lang/String") (Fv : Fld Z h0 oa "java/lang/String" "value" "[B" .null) (Fc : Fld Z h0 oa "java/lang/String" "coder" "B" (.int 0)) (g_oa : n0 ≤ oa) (ne_ca : cc ≠ oa) (Ac : Arv Z h0 cc kc .char (1 : Int32) [.int c0] (.int 0)) (SC : Sta Z Z.heap "java/lang/String" "COMPACT_STRINGS" "Z" (.int cs)) (hcs : ¬ cs = 0) (XO : Old Z n0 h0) (hp0 : ¬ (255 : Int32) < c0) :
 l0 l Z h0 bZ3 v5 6 none ws (Jvm.Room.mk 2 1 1 35) #[.ref oa, .ref cc, .int 0, .int 1, .null] (aY1 Z oa c0 h0 n0) := by
 refine l7 (Ls := #[.val (.ref oa), .val (.ref cc), .val (.int 0), .val (.int 1), .val .null, .unset]) (plainFor_of_name C4) (fun p e s m U meth c s₁ Y hh f d r O hnm hlk R X0 e0 => ?_)
 replace O : s.vm.findClass "java/lang/String" = some m.cls := O
 have N0 := Fr.nil n0
 let L_1 : Array Slot := #[oR oa,oR cc,oI 0,oI 1,.val .null,oU]
 show c5 p e U m s₁ 0 L_1 []
 refine c6 X0 f d bN2 rfl rfl ?_
 obtain ⟨T2, X2, e2, st2⟩ := initO X0 f Y O (az1 w) (U2 w) (U3 w) e0 (g := (mkF m 1 L_1 [.ref oa])) rfl (by rw [r]; rfl) rfl (hb d bN3) (by decide) (W := 0) (by show 2 * 0 + _ ≤ _; exact f7 rfl) (by decide)
 refine c8 st2 ?_
 show c5 p e U m T2 4 L_1 []
 refine f4 X2 f d bN4 rfl ?_
 refine o2 (pc := 5) (pc' := 27) X2 f d bN5 ((if0 _ _).trans (feq (by decide : ¬ ((1 : Int32) = (0 : Int32)))).2) ?_
 obtain ⟨T3, X3, e3, st3⟩ := getS2 X2 f Y O (host := "") (Or.inl (R4 w)) Via.refl e2 (SC.ext XO.2) (g := (mkF m 27 L_1 [])) rfl (hb d bq6)
 refine c8 st3 ?_
 show c5 p e U m T3 30 L_1 [.int cs]
 refine m8 X3 f d bq7 ((if0 _ _).trans (feq hcs).1) ?_
 refine c6 X3 f d bq8 rfl rfl ?_
 refine f4 X3 f d bq9 rfl ?_
 refine f4 X3 f d br0 rfl ?_
 obtain ⟨_, T4, Lc4, X4, hQ4, st4⟩ := j8 X3 f d r Y e3 O (bE5 w) (bE6 w) (aj1 w) (bE7 w) (cW4 l Z a0 w [] cc kc c0 h0 n0 Z0 Ac hp0) L_1 br1 [.ref cc, .int 0, .int 1] [] 0 1 1 (lenOf bN6 rfl)
 obtain ⟨d4, kd4, rfl, Nq4, K4, ge4, A4⟩ := hQ4
 have N4 := Fr.app N0 Nq4
 refine c8 st4 ?_
 have sz_d4 : h0.size ≤ d4 := c9 (Keep.refl h0 [oa]).1 ge4
 have ne_oa_d4 : oa ≠ d4 := Nat.ne_of_lt (j3 Ea.lt ge4)
 have Ea__4 := Ea.keep K4
 have Fv__4 := Fv.keep K4 nin0
 have Fc__4 := Fc.keep K4 nin0
 have KP4 := (Keep.refl h0 [oa]).trans K4 all0
 have sz4 := c9 Z0 K4.1
 show c5 p e U m T4 39 L_1 [.ref d4]
 let L_2 : Array Slot := #[oR oa,oR cc,oI 0,oI 1,.val .null,oR d4]
 refine t5 X4 f d br2 rfl (l' := L_2) rfl ?_
 refine c6 X4 f d br3 rfl rfl ?_
 refine j0 X4 f d br4 rfl rfl ?_
 refine f4 X4 f d br5 rfl ?_
 obtain ⟨_, T5, Lc5, X5, hQ5, st5⟩ := j8 X4 f d r Y rfl O (bF1 w) (bF2 w) (aj1 w) (bF3 w) (cW5 l Z a0 w [] d4 kd4 (nar .byte (c0.toInt8.toInt32)) T4.heap n0 sz4 A4) L_2 br6 [.ref d4, .int 1] [.ref oa] 1 0 0 (lenOf bN7 rfl)
 obtain ⟨rfl, Nq5, e5⟩ := hQ5
 have N5 := Fr.app N4 Nq5
 refine c8 st5 ?_
 obtain ⟨T6, h6, X6, e6, W6, st6⟩ := putF X5 f Y O (host := "") (Or.inl (J2 w)) Via.refl e5 Fc__4 Ea__4 (Or.inr ⟨(I0 w), rfl, hnm⟩) (F9 w) (ty := .byte) (by decide) rfl rfl (g := (mkF m 48 L_2 [.int 0, .ref oa])) rfl rfl (hb d br7)
 have Fw6 := Fc__4.same W6
 have Ea__6 := Ea__4.wr W6
 have Fv__6 := Fv__4.other W6 (Or.inr (az3 w))
 have A4__6 := A4.other W6 (Ne.symm ne_oa_d4)
 have N6 := Fr.snoc X6 N5 g_oa
 have KP6 := KP4.wr W6 (Or.inl (List.mem_of_getElem? (i := 0) rfl))
 refine c8 st6 ?_
 show c5 p e U m T6 51 L_2 []
 refine c6 X6 f d br8 rfl rfl ?_
 refine j0 X6 f d br9 rfl rfl ?_
 obtain ⟨T7, h7, X7, e7, W7, st7⟩ := putF X6 f Y O (host := "") (Or.inl (J3 w)) Via.refl e6 Fv__6 Ea__6 (Or.inr ⟨(H9 w), rfl, hnm⟩) (F9 w) (ty := (.array .byte)) (by decide) rfl rfl (g := (mkF m 54 L_2 [.ref d4, .ref oa])) rfl rfl (hb d bs0)
 have Fw7 := Fv__6.same W7
 have Fw6__7 := Fw6.other W7 (Or.inr (az4 w))
 have A4__7 := A4__6.other W7 (Ne.symm ne_oa_d4)
 have N7 := Fr.snoc X7 N6 g_oa
 have KP7 := KP6.wr W7 (Or.inl (List.mem_of_getElem? (i := 0) rfl))
 refine c8 st7 ?_
 show c5 p e U m T7 57 L_2 []
 exact q0 X7 f R (hb d bs1) (by rw [e7]; exact ⟨rfl, N7, KP7, Fw6__7, _, _, sz_d4, Fw7, A4__7⟩) (by decide) (by decide)
theorem bN8:c4 L7 0 (.aload_n 0) 1:=by decide +kernel
theorem bN9:c4 L7 1 (.aload_n 1) 1:=by decide +kernel
theorem bO0:c4 L7 2 (.iconst 0) 1:=by decide +kernel
theorem bO1:c4 L7 3 (.aload_n 1) 1:=by decide +kernel
theorem bO2:c4 L7 4 .arraylength 1:=by decide +kernel
theorem bO3:c4 L7 5 .aconst_null 1:=by decide +kernel
theorem bO4:c4 L7 6 (.invokespecial 27) 3:=by decide +kernel
theorem bO5:c4 L7 9 .return_ 1:=by decide +kernel
theorem bO6 : parseMethodDescriptor "([CIILjava/lang/Void;)V" = some ⟨[(.array .char), .int, .int, (.object "java/lang/Void")], none⟩ := by decide +kernel
theorem cW7 (l : Launch) (Z : State) (a0 : Array Value) (w : j9 Z a0) (ws : List Jvm.Cond) (oa cc : Addr) (kc : ClassId) (cs : Int32) (c0 : Int32) (h0 : Heap) (n0 : Nat) (Z0 : n0 ≤ h0.size) (Ea : Exa Z h0 oa "java/lang/String") (Fv : Fld Z h0 oa "java/lang/String" "value" "[B" .null) (Fc : Fld Z h0 oa "java/lang/String" "coder" "B" (.int 0)) (g_oa : n0 ≤ oa) (ne_ca : cc ≠ oa) (Ac : Arv Z h0 cc kc .char (1 : Int32) [.int c0] (.int 0)) (SC : Sta Z Z.heap "java/lang/String" "COMPACT_STRINGS" "Z" (.int cs)) (hcs : ¬ cs = 0) (XO : Old Z n0 h0) (hp0 : ¬ (255 : Int32) < c0) :
 l0 l Z h0 bZ4 L7 2 none ws (Jvm.Room.mk 3 1 1 52) #[.ref oa, .ref cc] (aY1 Z oa c0 h0 n0) := by
 refine l7 (Ls := #[.val (.ref oa), .val (.ref cc)]) (plainFor_of_name C4) (fun p e s m U meth c s₁ Y hh f d r O hnm hlk R X0 e0 => ?_)
 replace O : s.vm.findClass "java/lang/String" = some m.cls := O
 have N0 := Fr.nil n0
 let L_1 : Array Slot := #[oR oa,oR cc]
 show c5 p e U m s₁ 0 L_1 []
 refine c6 X0 f d bN8 rfl rfl ?_
 refine c6 X0 f d bN9 rfl rfl ?_
 refine f6 X0 f d bO0 (z := (0 : Int32)) rfl ?_
 refine c6 X0 f d bO1 rfl rfl ?_
 refine m7 X0 f d Y e0 Ac bO2 ?_
 refine aX0 X0 f d bO3 ?_
 obtain ⟨_, T2, Lc2, X2, hQ2, st2⟩ := D0 X0 f d r Y e0 O (bE2 w) (bE3 w) (o6 w) (bE4 w) (o := oa) (cW6 l Z a0 w [] oa cc kc cs c0 h0 n0 Z0 Ea Fv Fc g_oa ne_ca Ac SC hcs XO hp0) L_1 bO4 [.ref cc, .int 0, .int 1, .null] [] 0 1 1 (lenOf bO6 rfl)
 obtain ⟨rfl, Nq2, K2, Fc2, d2, kd2, ge2, Fv2, A2⟩ := hQ2
 have N2 := Fr.app N0 Nq2
 refine c8 st2 ?_
 have sz_d2 : h0.size ≤ d2 := c9 (Keep.refl h0 [oa]).1 ge2
 have KP2 := (Keep.refl h0 [oa]).trans K2 (allS (Or.inl (List.mem_of_getElem? (i := 0) rfl)) all0)
 show c5 p e U m T2 9 L_1 []
 exact q0 X2 f R (hb d bO5) (⟨rfl, N2, KP2, Fc2, _, _, sz_d2, Fv2, A2⟩) (by decide) (by decide)
def cf7 (Z : State) (u : Addr) (ku : ClassId) (c0 c1 : Int32) (h0 : Heap) (n0 : Nat) (v : Option Value) (h : Heap) (L : List Loc) : Prop := v = some (.int 2) ∧ Fr n0 L ∧ Keep h0 h [u] ∧ Arv Z h u ku .byte (2 : Int32) [.int (nar .byte (c0.toInt8.toInt32)), .int (nar .byte (c1.toInt8.toInt32))] (.int 0)
theorem cW8 (l : Launch) (Z : State) (a0 : Array Value) (w : j9 Z a0) (ws : List Jvm.Cond) (cc u : Addr) (kc ku : ClassId) (c0 c1 : Int32) (h0 : Heap) (n0 : Nat) (Z0 : n0 ≤ h0.size) (Ac : Arv Z h0 cc kc .char (2 : Int32) [.int c0, .int c1] (.int 0)) (Au : Arv Z h0 u ku .byte (2 : Int32) [.int 0, .int 0] (.int 0)) (g_u : n0 ≤ u) (ne_cu : cc ≠ u) (hp0 : ¬ (255 : Int32) < c0) (hp1 : ¬ (255 : Int32) < c1) :
 l0 l Z h0 bZ0 t1 7 (some .int) ws (Jvm.Room.mk 0 0 0 0) #[.ref cc, .int 0, .ref u, .int 0, .int 2] (cf7 Z u ku c0 c1 h0 n0) := by
 refine l7 (Ls := #[.val (.ref cc), .val (.int 0), .val (.ref u), .val (.int 0), .val (.int 2), .unset, .unset]) (plainFor_of_name ak1) (fun p e s m U meth c s₁ Y hh f d r O hnm hlk R X0 e0 => ?_)
 replace O : s.vm.findClass "java/lang/StringUTF16" = some m.cls := O
 have N0 := Fr.nil n0
 let L_1 : Array Slot := #[oR cc,oI 0,oR u,oI 0,oI 2,oU,oU]
 show c5 p e U m s₁ 0 L_1 []
 refine f6 X0 f d bL2 (z := (0 : Int32)) rfl ?_
 let L_2 : Array Slot := #[oR cc,oI 0,oR u,oI 0,oI 2,oI 0,oU]
 refine o4 X0 f d bL3 (l' := L_2) rfl ?_
 refine f5 X0 f d an7 rfl ?_
 refine f5 X0 f d an8 rfl ?_
 refine m4 X0 f d an9 (tlt (by decide : (0 : Int32) < (2 : Int32))).2.1 ?_
 refine c6 X0 f d aI5 rfl rfl ?_
 refine f4 X0 f d aI6 rfl ?_
 show c5 p e U m s₁ 12 L_2 [.int 0, .ref cc]
 obtain ⟨cl1, Ar1, qa1, Sa1, Na1, Ha1, Ga1⟩ := id Ac
 have hin1 : ¬ ((0 : Int32) < 0 ∨ cl1.slots.size ≤ ((0 : Int32)).toNatClampNeg) := inb_of Sa1 ⟨by decide, by decide⟩
 have hat1 : cl1.slots[((0 : Int32)).toNatClampNeg]? = some (.int c0) := Ha1.at hin1 rfl
 refine c8 (fun t k => X0.caload f (j := (0 : Int32)) (v := (.int c0)) (by rw [e0]; exact Ar1.1) (State.isArrayOf_alike Y.alike Ar1.2.1) Ar1.2.2 hin1 hat1 (g := (mkF m 12 L_2 [.int 0, .ref cc])) rfl rfl (hb d aI7) t k) ?_
 show c5 p e U m s₁ 13 L_2 [.int c0]
 let L_3 : Array Slot := #[oR cc,oI 0,oR u,oI 0,oI 2,oI 0,oI c0]
 refine o4 X0 f d aI8 (l' := L_3) rfl ?_
 refine f5 X0 f d aI9 rfl ?_
 refine M2 X0 f d aJ0 (z := (255 : Int32)) rfl ?_
 refine j5 (pc := 20) (pc' := 26) X0 f d aJ1 (flt hp0).2.2.2 ?_
 refine c6 X0 f d aJ2 rfl rfl ?_
 refine f4 X0 f d aJ3 rfl ?_
 refine f5 X0 f d aJ4 rfl ?_
 refine H4 X0 f d aJ5 ?_
 show c5 p e U m s₁ 31 L_3 [(.int (c0.toInt8.toInt32)), .int 0, .ref u]
 obtain ⟨cl2, Ar2, qa2, Sa2, Na2, Ha2, Ga2⟩ := id Au
 have hin2 : ¬ ((0 : Int32) < 0 ∨ cl2.slots.size ≤ ((0 : Int32)).toNatClampNeg) := inb_of Sa2 ⟨by decide, by decide⟩
 obtain ⟨T2, h2, X2, e2, W2, st2⟩ := stB X0 f Y e0 Ar2 (j := (0 : Int32)) hin2 (g := (mkF m 31 L_3 [(.int (c0.toInt8.toInt32)), .int 0, .ref u])) rfl rfl (hb d aJ6)
 have Vw2 : Arv Z h2 u ku .byte (2 : Int32) [(.int (nar .byte (c0.toInt8.toInt32))), .int 0] (.int 0) := Arv.set Ar2 qa2 Sa2 Na2 Ha2 Ga2 (fits_nar_byte _) W2 0 rfl (Nat.le_of_ble_eq_true rfl)
 have Ac__2 := Ac.other W2 ne_cu
 have N2 := Fr.snoc X2 N0 g_u
 have KP2 := (Keep.refl h0 [u]).wr W2 (Or.inl (List.mem_of_getElem? (i := 0) rfl))
 refine c8 st2 ?_
 show c5 p e U m T2 32 L_3 []
 let L_4 : Array Slot := #[oR cc,oI 1,oR u,oI 0,oI 2,oI 0,oI c0]
 refine c8 (fun t k => XS.iinc X2.here f rfl (hb d aJ7) rfl (l' := L_4) rfl k) ?_
 show c5 p e U m T2 35 L_4 []
 let L_5 : Array Slot := #[oR cc,oI 1,oR u,oI 1,oI 2,oI 0,oI c0]
 refine c8 (fun t k => XS.iinc X2.here f rfl (hb d aJ8) rfl (l' := L_5) rfl k) ?_
 show c5 p e U m T2 38 L_5 []
 let L_6 : Array Slot := #[oR cc,oI 1,oR u,oI 1,oI 2,oI 1,oI c0]
 refine c8 (fun t k => XS.iinc X2.here f rfl (hb d aJ9) rfl (l' := L_6) rfl k) ?_
 show c5 p e U m T2 41 L_6 []
 refine m5 (pc := 41) (pc' := 3) X2 f d aK0 ?_
 refine f5 X2 f d an7 rfl ?_
 refine f5 X2 f d an8 rfl ?_
 refine m4 X2 f d an9 (tlt (by decide : (1 : Int32) < (2 : Int32))).2.1 ?_
 refine c6 X2 f d aI5 rfl rfl ?_
 refine f4 X2 f d aI6 rfl ?_
 show c5 p e U m T2 12 L_6 [.int 1, .ref cc]
 obtain ⟨cl3, Ar3, qa3, Sa3, Na3, Ha3, Ga3⟩ := id Ac__2
 have hin3 : ¬ ((1 : Int32) < 0 ∨ cl3.slots.size ≤ ((1 : Int32)).toNatClampNeg) := inb_of Sa3 ⟨by decide, by decide⟩
 have hat3 : cl3.slots[((1 : Int32)).toNatClampNeg]? = some (.int c1) := Ha3.at hin3 rfl
 refine c8 (fun t k => X2.caload f (j := (1 : Int32)) (v := (.int c1)) (by rw [e2]; exact Ar3.1) (State.isArrayOf_alike Y.alike Ar3.2.1) Ar3.2.2 hin3 hat3 (g := (mkF m 12 L_6 [.int 1, .ref cc])) rfl rfl (hb d aI7) t k) ?_
 show c5 p e U m T2 13 L_6 [.int c1]
 let L_7 : Array Slot := #[oR cc,oI 1,oR u,oI 1,oI 2,oI 1,oI c1]
 refine o4 X2 f d aI8 (l' := L_7) rfl ?_
 refine f5 X2 f d aI9 rfl ?_
 refine M2 X2 f d aJ0 (z := (255 : Int32)) rfl ?_
 refine j5 (pc := 20) (pc' := 26) X2 f d aJ1 (flt hp1).2.2.2 ?_
 refine c6 X2 f d aJ2 rfl rfl ?_
 refine f4 X2 f d aJ3 rfl ?_
 refine f5 X2 f d aJ4 rfl ?_
 refine H4 X2 f d aJ5 ?_
 show c5 p e U m T2 31 L_7 [(.int (c1.toInt8.toInt32)), .int 1, .ref u]
 obtain ⟨cl4, Ar4, qa4, Sa4, Na4, Ha4, Ga4⟩ := id Vw2
 have hin4 : ¬ ((1 : Int32) < 0 ∨ cl4.slots.size ≤ ((1 : Int32)).toNatClampNeg) := inb_of Sa4 ⟨by decide, by decide⟩
 obtain ⟨T4, h4, X4, e4, W4, st4⟩ := stB X2 f Y e2 Ar4 (j := (1 : Int32)) hin4 (g := (mkF m 31 L_7 [(.int (c1.toInt8.toInt32)), .int 1, .ref u])) rfl rfl (hb d aJ6)
 have Vw4 : Arv Z h4 u ku .byte (2 : Int32) [(.int (nar .byte (c0.toInt8.toInt32))), (.int (nar .byte (c1.toInt8.toInt32)))] (.int 0) := Arv.set Ar4 qa4 Sa4 Na4 Ha4 Ga4 (fits_nar_byte _) W4 1 rfl (Nat.le_of_ble_eq_true rfl)
 have N4 := Fr.snoc X4 N2 g_u
 have KP4 := KP2.wr W4 (Or.inl (List.mem_of_getElem? (i := 0) rfl))
 refine c8 st4 ?_
 show c5 p e U m T4 32 L_7 []
 let L_8 : Array Slot := #[oR cc,oI 2,oR u,oI 1,oI 2,oI 1,oI c1]
 refine c8 (fun t k => XS.iinc X4.here f rfl (hb d aJ7) rfl (l' := L_8) rfl k) ?_
 show c5 p e U m T4 35 L_8 []
 let L_9 : Array Slot := #[oR cc,oI 2,oR u,oI 2,oI 2,oI 1,oI c1]
 refine c8 (fun t k => XS.iinc X4.here f rfl (hb d aJ8) rfl (l' := L_9) rfl k) ?_
 show c5 p e U m T4 38 L_9 []
 let L_10 : Array Slot := #[oR cc,oI 2,oR u,oI 2,oI 2,oI 2,oI c1]
 refine c8 (fun t k => XS.iinc X4.here f rfl (hb d aJ9) rfl (l' := L_10) rfl k) ?_
 show c5 p e U m T4 41 L_10 []
 refine m5 (pc := 41) (pc' := 3) X4 f d aK0 ?_
 refine f5 X4 f d an7 rfl ?_
 refine f5 X4 f d an8 rfl ?_
 refine j5 (pc := 7) (pc' := 44) X4 f d an9 (flt (by decide : ¬ ((2 : Int32) < (2 : Int32)))).2.1 ?_
 refine f5 X4 f d bp8 rfl ?_
 show c5 p e U m T4 46 L_10 [.int 2]
 exact r8 X4 f R (hb d bp9) (by rw [e4]; exact ⟨rfl, N4, KP4, Vw4⟩) (by decide) (by decide)
def cf8 (Z : State) (c0 c1 : Int32) (h0 : Heap) (n0 : Nat) (v : Option Value) (h : Heap) (L : List Loc) : Prop := ∃ (b : Addr) (kb : ClassId), v = some (.ref b) ∧ Fr n0 L ∧ Keep h0 h [] ∧ h0.size ≤ b ∧ Arv Z h b kb .byte (2 : Int32) [.int (nar .byte (c0.toInt8.toInt32)), .int (nar .byte (c1.toInt8.toInt32))] (.int 0)
theorem cW9 (l : Launch) (Z : State) (a0 : Array Value) (w : j9 Z a0) (ws : List Jvm.Cond) (cc : Addr) (kc : ClassId) (c0 c1 : Int32) (h0 : Heap) (n0 : Nat) (Z0 : n0 ≤ h0.size) (Ac : Arv Z h0 cc kc .char (2 : Int32) [.int c0, .int c1] (.int 0)) (hp0 : ¬ (255 : Int32) < c0) (hp1 : ¬ (255 : Int32) < c1) :
 l0 l Z h0 bZ1 B4 6 (some (.array .byte)) ws (Jvm.Room.mk 1 1 2 18) #[.ref cc, .int 0, .int 2] (cf8 Z c0 c1 h0 n0) := by
 refine l7 (Ls := #[.val (.ref cc), .val (.int 0), .val (.int 2), .unset, .unset, .unset]) (plainFor_of_name ak1) (fun p e s m U meth c s₁ Y hh f d r O hnm hlk R X0 e0 => ?_)
 replace O : s.vm.findClass "java/lang/StringUTF16" = some m.cls := O
 have N0 := Fr.nil n0
 let L_1 : Array Slot := #[oR cc,oI 0,oI 2,oU,oU,oU]
 show c5 p e U m s₁ 0 L_1 []
 refine f4 X0 f d bL4 rfl ?_
 obtain ⟨T1, h1, k1, X1, e1, E1, A1, Ey1, st1⟩ := newPE (aty := .byte) X0 f Y (Q8 w) e0 (g := (mkF m 1 L_1 [.int 2])) rfl (hb d bL5) rfl (by decide) (cap := 2) (by decide) (by decide) (by decide) (by decide) (ad := "[B") (by decide)
 obtain ⟨b1, g1⟩ : ∃ z, z = h0.size := ⟨_, rfl⟩
 rw [← g1] at A1 Ey1 st1
 have g_b1 : n0 ≤ b1 := c9 Z0 (f7 g1.symm)
 have sz_b1 : h0.size ≤ b1 := c9 (Keep.refl h0 []).1 (f7 g1.symm)
 have ne_cc_b1 : cc ≠ b1 := Nat.ne_of_lt (j3 Ac.lt (f7 g1.symm))
 have Ac__1 := Ac.ext E1
 have sz1 := c9 Z0 E1.1
 have KP1 := (Keep.refl h0 []).ext E1
 have V1 : Arv Z h1 b1 k1 .byte (2 : Int32) [.int 0, .int 0] (.int 0) := (Arv.new A1 (by decide)).pad (pad_rep [] (.int 0) 2)
 refine c8 st1 ?_
 show c5 p e U m T1 3 L_1 [.ref b1]
 let L_2 : Array Slot := #[oR cc,oI 0,oI 2,oR b1,oU,oU]
 refine w9 X1 f d bL6 rfl (l' := L_2) rfl ?_
 refine c6 X1 f d bL7 rfl rfl ?_
 refine f4 X1 f d bL8 rfl ?_
 refine c6 X1 f d bL9 rfl rfl ?_
 refine f6 X1 f d bM0 (z := (0 : Int32)) rfl ?_
 refine f4 X1 f d bM1 rfl ?_
 obtain ⟨_, T2, Lc2, X2, hQ2, st2⟩ := j8 X1 f d r Y e1 O (bE8 w) (bE9 w) (aj1 w) (bF0 w) (cW8 l Z a0 w [] cc b1 kc k1 c0 c1 h1 n0 sz1 Ac__1 V1 g_b1 ne_cc_b1 hp0 hp1) L_2 bM2 [.ref cc, .int 0, .ref b1, .int 0, .int 2] [] 0 0 0 (lenOf bM3 rfl)
 obtain ⟨rfl, Nq2, K2, A2⟩ := hQ2
 have N2 := Fr.app N0 Nq2
 refine c8 st2 ?_
 have KP2 := KP1.trans K2 (allS (Or.inr sz_b1) all0)
 show c5 p e U m T2 12 L_2 [.int 2]
 let L_3 : Array Slot := #[oR cc,oI 0,oI 2,oR b1,oI 2,oU]
 refine o4 X2 f d bq0 (l' := L_3) rfl ?_
 refine f5 X2 f d bq1 rfl ?_
 refine f4 X2 f d bq2 rfl ?_
 refine j5 (pc := 17) (pc' := 57) X2 f d bq3 (teq (by decide : (2 : Int32) = (2 : Int32))).1 ?_
 refine c6 X2 f d bq4 rfl rfl ?_
 show c5 p e U m T2 58 L_3 [.ref b1]
 exact p9 X2 f R rfl rfl (hb d bq5) (⟨_, _, rfl, N2, KP2, sz_b1, A2⟩) (by decide) (by decide)
def cf9 (h0 : Heap) (n0 : Nat) (v : Option Value) (h : Heap) (L : List Loc) : Prop := v = some (.int 0) ∧ Fr n0 L ∧ h = h0
theorem cX0 (l : Launch) (Z : State) (a0 : Array Value) (w : j9 Z a0) (ws : List Jvm.Cond) (ot : Addr) (kt : ClassId) (x0 x1 : Int32) (h0 : Heap) (n0 : Nat) (Z0 : n0 ≤ h0.size) (At : Arv Z h0 ot kt .byte (2 : Int32) [.int x0, .int x1] (.int 0)) :
 l0 l Z h0 bZ2 M0 2 (some .byte) ws (Jvm.Room.mk 0 0 0 0) #[.ref ot, .int 2] (cf9 h0 n0) := by
 refine l7 (Ls := #[.val (.ref ot), .val (.int 2)]) (plainFor_of_name ak1) (fun p e s m U meth c s₁ Y hh f d r O hnm hlk R X0 e0 => ?_)
 replace O : s.vm.findClass "java/lang/StringUTF16" = some m.cls := O
 have N0 := Fr.nil n0
 let L_1 : Array Slot := #[oR ot,oI 2]
 show c5 p e U m s₁ 0 L_1 []
 refine f4 X0 f d bM4 rfl ?_
 refine c6 X0 f d bM5 rfl rfl ?_
 refine m7 X0 f d Y e0 At bM6 ?_
 refine x7 X0 f d bM7 ?_
 refine t9 X0 f d bM8 (z := (31 : Int32)) rfl ?_
 refine ap0 X0 f d bM9 ?_
 refine H4 X0 f d bN0 ?_
 show c5 p e U m s₁ 8 L_1 [(.int (((((2 : Int32) - (2 : Int32)).toUInt32 >>> ((31 : Int32) &&& 31).toUInt32).toInt32).toInt8.toInt32))]
 exact t4 X0 f (t := .byte) R (by simp) (hb d bN1) (by rw [e0]; exact ⟨by decide, N0, rfl⟩) (by decide) (by decide)
def aY2 (Z : State) (a : Addr) (c0 c1 : Int32) (h0 : Heap) (n0 : Nat) (v : Option Value) (h : Heap) (L : List Loc) : Prop := v = none ∧ Fr n0 L ∧ Keep h0 h [a] ∧ Fld Z h a "java/lang/String" "coder" "B" (.int 0) ∧ ∃ (b : Addr) (kb : ClassId), h0.size ≤ b ∧ Fld Z h a "java/lang/String" "value" "[B" (.ref b) ∧ Arv Z h b kb .byte (2 : Int32) [.int (nar .byte (c0.toInt8.toInt32)), .int (nar .byte (c1.toInt8.toInt32))] (.int 0)
theorem cX1 (l : Launch) (Z : State) (a0 : Array Value) (w : j9 Z a0) (ws : List Jvm.Cond) (oa cc : Addr) (kc : ClassId) (cs : Int32) (c0 c1 : Int32) (h0 : Heap) (n0 : Nat) (Z0 : n0 ≤ h0.size) (Ea : Exa Z h0 oa "java/lang/String") (Fv : Fld Z h0 oa "java/lang/String" "value" "[B" .null) (Fc : Fld Z h0 oa "java/lang/String" "coder" "B" (.int 0)) (g_oa : n0 ≤ oa) (ne_ca : cc ≠ oa) (Ac : Arv Z h0 cc kc .char (2 : Int32) [.int c0, .int c1] (.int 0)) (SC : Sta Z Z.heap "java/lang/String" "COMPACT_STRINGS" "Z" (.int cs)) (hcs : ¬ cs = 0) (XO : Old Z n0 h0) (hp0 : ¬ (255 : Int32) < c0) (hp1 : ¬ (255 : Int32) < c1) :
 l0 l Z h0 bZ3 v5 6 none ws (Jvm.Room.mk 2 1 2 35) #[.ref oa, .ref cc, .int 0, .int 2, .null] (aY2 Z oa c0 c1 h0 n0) := by
 refine l7 (Ls := #[.val (.ref oa), .val (.ref cc), .val (.int 0), .val (.int 2), .val .null, .unset]) (plainFor_of_name C4) (fun p e s m U meth c s₁ Y hh f d r O hnm hlk R X0 e0 => ?_)
 replace O : s.vm.findClass "java/lang/String" = some m.cls := O
 have N0 := Fr.nil n0
 let L_1 : Array Slot := #[oR oa,oR cc,oI 0,oI 2,.val .null,oU]
 show c5 p e U m s₁ 0 L_1 []
 refine c6 X0 f d bN2 rfl rfl ?_
 obtain ⟨T2, X2, e2, st2⟩ := initO X0 f Y O (az1 w) (U2 w) (U3 w) e0 (g := (mkF m 1 L_1 [.ref oa])) rfl (by rw [r]; rfl) rfl (hb d bN3) (by decide) (W := 0) (by show 2 * 0 + _ ≤ _; exact f7 rfl) (by decide)
 refine c8 st2 ?_
 show c5 p e U m T2 4 L_1 []
 refine f4 X2 f d bN4 rfl ?_
 refine o2 (pc := 5) (pc' := 27) X2 f d bN5 ((if0 _ _).trans (feq (by decide : ¬ ((2 : Int32) = (0 : Int32)))).2) ?_
 obtain ⟨T3, X3, e3, st3⟩ := getS2 X2 f Y O (host := "") (Or.inl (R4 w)) Via.refl e2 (SC.ext XO.2) (g := (mkF m 27 L_1 [])) rfl (hb d bq6)
 refine c8 st3 ?_
 show c5 p e U m T3 30 L_1 [.int cs]
 refine m8 X3 f d bq7 ((if0 _ _).trans (feq hcs).1) ?_
 refine c6 X3 f d bq8 rfl rfl ?_
 refine f4 X3 f d bq9 rfl ?_
 refine f4 X3 f d br0 rfl ?_
 obtain ⟨_, T4, Lc4, X4, hQ4, st4⟩ := j8 X3 f d r Y e3 O (bE5 w) (bE6 w) (aj1 w) (bE7 w) (cW9 l Z a0 w [] cc kc c0 c1 h0 n0 Z0 Ac hp0 hp1) L_1 br1 [.ref cc, .int 0, .int 2] [] 0 1 2 (lenOf bN6 rfl)
 obtain ⟨d4, kd4, rfl, Nq4, K4, ge4, A4⟩ := hQ4
 have N4 := Fr.app N0 Nq4
 refine c8 st4 ?_
 have sz_d4 : h0.size ≤ d4 := c9 (Keep.refl h0 [oa]).1 ge4
 have ne_oa_d4 : oa ≠ d4 := Nat.ne_of_lt (j3 Ea.lt ge4)
 have Ea__4 := Ea.keep K4
 have Fv__4 := Fv.keep K4 nin0
 have Fc__4 := Fc.keep K4 nin0
 have KP4 := (Keep.refl h0 [oa]).trans K4 all0
 have sz4 := c9 Z0 K4.1
 show c5 p e U m T4 39 L_1 [.ref d4]
 let L_2 : Array Slot := #[oR oa,oR cc,oI 0,oI 2,.val .null,oR d4]
 refine t5 X4 f d br2 rfl (l' := L_2) rfl ?_
 refine c6 X4 f d br3 rfl rfl ?_
 refine j0 X4 f d br4 rfl rfl ?_
 refine f4 X4 f d br5 rfl ?_
 obtain ⟨_, T5, Lc5, X5, hQ5, st5⟩ := j8 X4 f d r Y rfl O (bF1 w) (bF2 w) (aj1 w) (bF3 w) (cX0 l Z a0 w [] d4 kd4 (nar .byte (c0.toInt8.toInt32)) (nar .byte (c1.toInt8.toInt32)) T4.heap n0 sz4 A4) L_2 br6 [.ref d4, .int 2] [.ref oa] 1 0 0 (lenOf bN7 rfl)
 obtain ⟨rfl, Nq5, e5⟩ := hQ5
 have N5 := Fr.app N4 Nq5
 refine c8 st5 ?_
 obtain ⟨T6, h6, X6, e6, W6, st6⟩ := putF X5 f Y O (host := "") (Or.inl (J2 w)) Via.refl e5 Fc__4 Ea__4 (Or.inr ⟨(I0 w), rfl, hnm⟩) (F9 w) (ty := .byte) (by decide) rfl rfl (g := (mkF m 48 L_2 [.int 0, .ref oa])) rfl rfl (hb d br7)
 have Fw6 := Fc__4.same W6
 have Ea__6 := Ea__4.wr W6
 have Fv__6 := Fv__4.other W6 (Or.inr (az3 w))
 have A4__6 := A4.other W6 (Ne.symm ne_oa_d4)
 have N6 := Fr.snoc X6 N5 g_oa
 have KP6 := KP4.wr W6 (Or.inl (List.mem_of_getElem? (i := 0) rfl))
 refine c8 st6 ?_
 show c5 p e U m T6 51 L_2 []
 refine c6 X6 f d br8 rfl rfl ?_
 refine j0 X6 f d br9 rfl rfl ?_
 obtain ⟨T7, h7, X7, e7, W7, st7⟩ := putF X6 f Y O (host := "") (Or.inl (J3 w)) Via.refl e6 Fv__6 Ea__6 (Or.inr ⟨(H9 w), rfl, hnm⟩) (F9 w) (ty := (.array .byte)) (by decide) rfl rfl (g := (mkF m 54 L_2 [.ref d4, .ref oa])) rfl rfl (hb d bs0)
 have Fw7 := Fv__6.same W7
 have Fw6__7 := Fw6.other W7 (Or.inr (az4 w))
 have A4__7 := A4__6.other W7 (Ne.symm ne_oa_d4)
 have N7 := Fr.snoc X7 N6 g_oa
 have KP7 := KP6.wr W7 (Or.inl (List.mem_of_getElem? (i := 0) rfl))
 refine c8 st7 ?_
 show c5 p e U m T7 57 L_2 []
 exact q0 X7 f R (hb d bs1) (by rw [e7]; exact ⟨rfl, N7, KP7, Fw6__7, _, _, sz_d4, Fw7, A4__7⟩) (by decide) (by decide)
theorem cX2 (l : Launch) (Z : State) (a0 : Array Value) (w : j9 Z a0) (ws : List Jvm.Cond) (oa cc : Addr) (kc : ClassId) (cs : Int32) (c0 c1 : Int32) (h0 : Heap) (n0 : Nat) (Z0 : n0 ≤ h0.size) (Ea : Exa Z h0 oa "java/lang/String") (Fv : Fld Z h0 oa "java/lang/String" "value" "[B" .null) (Fc : Fld Z h0 oa "java/lang/String" "coder" "B" (.int 0)) (g_oa : n0 ≤ oa) (ne_ca : cc ≠ oa) (Ac : Arv Z h0 cc kc .char (2 : Int32) [.int c0, .int c1] (.int 0)) (SC : Sta Z Z.heap "java/lang/String" "COMPACT_STRINGS" "Z" (.int cs)) (hcs : ¬ cs = 0) (XO : Old Z n0 h0) (hp0 : ¬ (255 : Int32) < c0) (hp1 : ¬ (255 : Int32) < c1) :
 l0 l Z h0 bZ4 L7 2 none ws (Jvm.Room.mk 3 1 2 52) #[.ref oa, .ref cc] (aY2 Z oa c0 c1 h0 n0) := by
 refine l7 (Ls := #[.val (.ref oa), .val (.ref cc)]) (plainFor_of_name C4) (fun p e s m U meth c s₁ Y hh f d r O hnm hlk R X0 e0 => ?_)
 replace O : s.vm.findClass "java/lang/String" = some m.cls := O
 have N0 := Fr.nil n0
 let L_1 : Array Slot := #[oR oa,oR cc]
 show c5 p e U m s₁ 0 L_1 []
 refine c6 X0 f d bN8 rfl rfl ?_
 refine c6 X0 f d bN9 rfl rfl ?_
 refine f6 X0 f d bO0 (z := (0 : Int32)) rfl ?_
 refine c6 X0 f d bO1 rfl rfl ?_
 refine m7 X0 f d Y e0 Ac bO2 ?_
 refine aX0 X0 f d bO3 ?_
 obtain ⟨_, T2, Lc2, X2, hQ2, st2⟩ := D0 X0 f d r Y e0 O (bE2 w) (bE3 w) (o6 w) (bE4 w) (o := oa) (cX1 l Z a0 w [] oa cc kc cs c0 c1 h0 n0 Z0 Ea Fv Fc g_oa ne_ca Ac SC hcs XO hp0 hp1) L_1 bO4 [.ref cc, .int 0, .int 2, .null] [] 0 1 2 (lenOf bO6 rfl)
 obtain ⟨rfl, Nq2, K2, Fc2, d2, kd2, ge2, Fv2, A2⟩ := hQ2
 have N2 := Fr.app N0 Nq2
 refine c8 st2 ?_
 have sz_d2 : h0.size ≤ d2 := c9 (Keep.refl h0 [oa]).1 ge2
 have KP2 := (Keep.refl h0 [oa]).trans K2 (allS (Or.inl (List.mem_of_getElem? (i := 0) rfl)) all0)
 show c5 p e U m T2 9 L_1 []
 exact q0 X2 f R (hb d bO5) (⟨rfl, N2, KP2, Fc2, _, _, sz_d2, Fv2, A2⟩) (by decide) (by decide)
theorem ao0 : plainName "com/example/prizewell/prizewell/core/TicketRangesAddAllPinLaw" = true := by first | (simp [plainName, overriddenIn]; done) | decide +kernel
theorem cX3:c4 method_2_code 0 (.ldc 7) 2:=by decide +kernel
theorem cX4:c4 method_2_code 2 (.astore_n 2) 1:=by decide +kernel
theorem cX5:c4 method_2_code 3 (.aload_n 2) 1:=by decide +kernel
theorem cX6:c4 method_2_code 4 (.iload_n 0) 1:=by decide +kernel
theorem cX7:c4 method_2_code 5 (.sipush 255) 3:=by decide +kernel
theorem cX8:c4 method_2_code 8 .iand 1:=by decide +kernel
theorem cX9:c4 method_2_code 9 (.bipush 65) 2:=by decide +kernel
theorem ct3:c4 method_2_code 11 .irem 1:=by decide +kernel
theorem ct4:c4 method_2_code 12 (.invokevirtual 9) 3:=by decide +kernel
theorem ct5:c4 method_2_code 15 (.istore_n 3) 1:=by decide +kernel
theorem ct6:c4 method_2_code 16 (.aload_n 2) 1:=by decide +kernel
theorem ct7:c4 method_2_code 17 (.iload_n 0) 1:=by decide +kernel
theorem ct8:c4 method_2_code 18 (.bipush 8) 2:=by decide +kernel
theorem ct9:c4 method_2_code 20 .iushr 1:=by decide +kernel
theorem cu0:c4 method_2_code 21 (.sipush 255) 3:=by decide +kernel
theorem cu1:c4 method_2_code 24 .iand 1:=by decide +kernel
theorem cu2:c4 method_2_code 25 (.bipush 65) 2:=by decide +kernel
theorem cu3:c4 method_2_code 27 .irem 1:=by decide +kernel
theorem cu4:c4 method_2_code 28 (.invokevirtual 9) 3:=by decide +kernel
theorem cu5:c4 method_2_code 31 (.istore 4) 2:=by decide +kernel
theorem cu6:c4 method_2_code 33 (.iload_n 1) 1:=by decide +kernel
theorem bs2:c4 method_2_code 34 (.ifCond .eq 23) 3:=by decide +kernel
theorem cu7:c4 method_2_code 37 (.new 10) 3:=by decide +kernel
theorem cu8:c4 method_2_code 40 .dup 1:=by decide +kernel
theorem cu9:c4 method_2_code 41 (.iconst 2) 1:=by decide +kernel
theorem cv0:c4 method_2_code 42 (.newarray .char) 2:=by decide +kernel
theorem cv1:c4 method_2_code 44 .dup 1:=by decide +kernel
theorem cv2:c4 method_2_code 45 (.iconst 0) 1:=by decide +kernel
theorem cv3:c4 method_2_code 46 (.iload_n 3) 1:=by decide +kernel
theorem cv4:c4 method_2_code 47 .castore 1:=by decide +kernel
theorem cv5:c4 method_2_code 48 .dup 1:=by decide +kernel
theorem cv6:c4 method_2_code 49 (.iconst 1) 1:=by decide +kernel
theorem cv7:c4 method_2_code 50 (.iload 4) 2:=by decide +kernel
theorem cv8:c4 method_2_code 52 .castore 1:=by decide +kernel
theorem cv9:c4 method_2_code 53 (.invokespecial 15) 3:=by decide +kernel
theorem cx2:c4 method_2_code 56 .areturn 1:=by decide +kernel
theorem cx3:c4 method_2_code 57 (.new 10) 3:=by decide +kernel
theorem cx4:c4 method_2_code 60 .dup 1:=by decide +kernel
theorem cx5:c4 method_2_code 61 (.iconst 1) 1:=by decide +kernel
theorem cx6:c4 method_2_code 62 (.newarray .char) 2:=by decide +kernel
theorem cx7:c4 method_2_code 64 .dup 1:=by decide +kernel
theorem cx8:c4 method_2_code 65 (.iconst 0) 1:=by decide +kernel
theorem cx9:c4 method_2_code 66 (.iload_n 3) 1:=by decide +kernel
theorem cy0:c4 method_2_code 67 .castore 1:=by decide +kernel
theorem cy1:c4 method_2_code 68 (.invokespecial 15) 3:=by decide +kernel
theorem cy2:c4 method_2_code 71 .areturn 1:=by decide +kernel
theorem bO7 : parseMethodDescriptor "([C)V" = some ⟨[(.array .char)], none⟩ := by decide +kernel
def ch2 (Z : State) (als : List Value) (h0 : Heap) (n0 : Nat) (v : Option Value) (h : Heap) (L : List Loc) : Prop := ∃ (d t : Addr) (k : ClassId) (cs : List Int32), v = some (.ref d) ∧ Fr n0 L ∧ Keep h0 h [] ∧ h0.size ≤ d ∧ h0.size ≤ t ∧ own_S Z h d t k (p6 cs) (m9 cs) ∧ own_nm als cs
theorem cc4 (l : Launch) (Z : State) (a0 : Array Value) (w : j9 Z a0) (ws : List Jvm.Cond) (xb xt : Int32) (z0 pc0 : Addr) (kpc : ClassId) (pcs : List Value) (fm : Value) (al : Addr) (kal : ClassId) (als : List Value) (h0 : Heap) (n0 : Nat) (Z0 : n0 ≤ h0.size) (XO : Old Z n0 h0) (WW : r5 Z z0 pc0 kpc pcs fm al kal als) :
 S7 l3 l Z h0 aU6 method_2_code 5 (some (.object "java/lang/String")) ws (Jvm.Room.mk 4 5 280 70) #[.int xb, .int xt] [] (ch2 Z als h0 n0) := by
 refine Y8 (Ls := #[.val (.int xb), .val (.int xt), .unset, .unset, .unset]) (plainFor_of_name ao0) (fun m => by first | (simp [entryFrame, mkF, argsToLocals, Value.category]; done) | rfl) (fun p e s m U meth c s₁ Y hh hC0 hsf0 f d r O hnm hlk R X0 e0 => ?_)
 replace O : s.vm.findClass "com/example/prizewell/prizewell/core/TicketRangesAddAllPinLaw" = some m.cls := O
 have N0 := Fr.nil n0
 have hEL := U0 w
 have hR0 : CHr Z l3 s.vm h0 s.vm h0 := CHr.refl hC0
 have hS0 : s.Since s.vm 0 := (State.WarmedH.refl s).since 0
 have hk0 : 0 ≤ h0.size := Nat.zero_le _
 obtain ⟨SAl, AAl, r_fm, ⟨cs, hcs, SC⟩, SFM, SZ, BZ, SPc, APc, HPc, HAL, uo, u8, i8, CS⟩ := id WW
 let L_1 : Array Slot := #[oI xb,oI xt,oU,oU,oU]
 show c5 p e U m s₁ 0 L_1 []
 obtain ⟨s1, T1, h1, j1, c1, kc1, X1, e1, E1, hS1, hk1, hZ1, hown1, Es1, Fc1, Fv1, Ab1, -, -, hC1, -, hne1, st1⟩ := ldcCH X0 f Y O (cb4 w) (au9 w) e0 hS0 hk0 hEL (List.mem_of_getElem? (i := 2) rfl) hC0 (vs := [.int 65, .int 66, .int 67, .int 68, .int 69, .int 70, .int 71, .int 72, .int 73, .int 74, .int 75, .int 76, .int 77, .int 78, .int 79, .int 80, .int 81, .int 82, .int 83, .int 84, .int 85, .int 86, .int 87, .int 88, .int 89, .int 90, .int 97, .int 98, .int 99, .int 100, .int 101, .int 102, .int 103, .int 104, .int 105, .int 106, .int 107, .int 108, .int 109, .int 110, .int 111, .int 112, .int 113, .int 114, .int 115, .int 116, .int 117, .int 118, .int 119, .int 120, .int 121, .int 122, .int 48, .int 49, .int 50, .int 51, .int 52, .int 53, .int 54, .int 55, .int 56, .int 57, .int 46, .int 95, .int 45]) (z := (65 : Int32)) ⟨by decide, by decide +kernel⟩ (by decide) rfl (g := (mkF m 0 L_1 [])) rfl (hb d cX3) (n := 260) (by decide) (by decide) (by decide) (by decide)
 have XO__1 := XO.ext E1
 have hR1 := hR0.trans hC1
 have hD1 := hR1.1
 have sz1 := c9 Z0 E1.1
 have KP1 := (Keep.refl h0 []).ext E1
 refine c8 st1 ?_
 show c5 p e U m T1 2 L_1 [.ref s1]
 let L_2 : Array Slot := #[oI xb,oI xt,oR s1,oU,oU]
 refine w9 X1 f d cX4 rfl (l' := L_2) rfl ?_
 refine c6 X1 f d cX5 rfl rfl ?_
 refine f4 X1 f d cX6 rfl ?_
 refine M2 X1 f d cX7 (z := (255 : Int32)) rfl ?_
 refine H1 X1 f d cX8 ?_
 show c5 p e U m T1 9 L_2 [(.int (xb &&& (255 : Int32))), .ref s1]
 refine t9 X1 f d cX9 (z := (65 : Int32)) rfl ?_
 show c5 p e U m T1 11 L_2 [.int 65, (.int (xb &&& (255 : Int32))), .ref s1]
 refine c8 (fun t k => iremM X1 f rfl (hb d ct3) rfl (by decide) k) ?_
 show c5 p e U m T1 12 L_2 [(.int ((xb &&& (255 : Int32)) % (65 : Int32))), .ref s1]
 obtain ⟨cx0, hv0, ok0⟩ := aZ6 HAL (R0 xb).1 (R0 xb).2
 obtain ⟨_, T2, Lc2, X2, hQ2, st2⟩ := o1 X1 f d r hZ1 e1 hown1 (bD6 w) (H6 w) (H5 w) (H7 w) (o6 w) (H8 w) Es1 (I1 l Z a0 w [] s1 c1 kc1 (65 : Int32) (m9 I3) ((xb &&& (255 : Int32)) % (65 : Int32)) cx0 z0 pc0 kpc pcs fm al kal als h1 n0 sz1 ⟨Es1, Fc1, Fv1, Ab1⟩ (R0 xb).1 (R0 xb).2 hv0 ok0.1 ok0.2.1 XO__1 WW) L_2 ct4 [(.int ((xb &&& (255 : Int32)) % (65 : Int32)))] [] 0 0 0 (lenOf I2 rfl)
 obtain ⟨rfl, Nq2, e2⟩ := hQ2
 have N2 := Fr.app N0 Nq2
 refine c8 st2 ?_
 show c5 p e U m T2 15 L_2 [.int cx0]
 let L_3 : Array Slot := #[oI xb,oI xt,oR s1,oI cx0,oU]
 refine p8 X2 f d ct5 (l' := L_3) rfl ?_
 refine c6 X2 f d ct6 rfl rfl ?_
 refine f4 X2 f d ct7 rfl ?_
 refine t9 X2 f d ct8 (z := (8 : Int32)) rfl ?_
 refine ap0 X2 f d ct9 ?_
 show c5 p e U m T2 21 L_3 [(.int ((xb.toUInt32 >>> ((8 : Int32) &&& 31).toUInt32).toInt32)), .ref s1]
 refine M2 X2 f d cu0 (z := (255 : Int32)) rfl ?_
 refine H1 X2 f d cu1 ?_
 show c5 p e U m T2 25 L_3 [(.int (((xb.toUInt32 >>> ((8 : Int32) &&& 31).toUInt32).toInt32) &&& (255 : Int32))), .ref s1]
 refine t9 X2 f d cu2 (z := (65 : Int32)) rfl ?_
 show c5 p e U m T2 27 L_3 [.int 65, (.int (((xb.toUInt32 >>> ((8 : Int32) &&& 31).toUInt32).toInt32) &&& (255 : Int32))), .ref s1]
 refine c8 (fun t k => iremM X2 f rfl (hb d cu3) rfl (by decide) k) ?_
 show c5 p e U m T2 28 L_3 [(.int ((((xb.toUInt32 >>> ((8 : Int32) &&& 31).toUInt32).toInt32) &&& (255 : Int32)) % (65 : Int32))), .ref s1]
 obtain ⟨cx1, hv1, ok1⟩ := aZ6 HAL (R0 ((xb.toUInt32 >>> ((8 : Int32) &&& 31).toUInt32).toInt32)).1 (R0 ((xb.toUInt32 >>> ((8 : Int32) &&& 31).toUInt32).toInt32)).2
 obtain ⟨_, T3, Lc3, X3, hQ3, st3⟩ := o1 X2 f d r hZ1 e2 hown1 (bD6 w) (H6 w) (H5 w) (H7 w) (o6 w) (H8 w) Es1 (I1 l Z a0 w [] s1 c1 kc1 (65 : Int32) (m9 I3) ((((xb.toUInt32 >>> ((8 : Int32) &&& 31).toUInt32).toInt32) &&& (255 : Int32)) % (65 : Int32)) cx1 z0 pc0 kpc pcs fm al kal als h1 n0 sz1 ⟨Es1, Fc1, Fv1, Ab1⟩ (R0 ((xb.toUInt32 >>> ((8 : Int32) &&& 31).toUInt32).toInt32)).1 (R0 ((xb.toUInt32 >>> ((8 : Int32) &&& 31).toUInt32).toInt32)).2 hv1 ok1.1 ok1.2.1 XO__1 WW) L_3 cu4 [(.int ((((xb.toUInt32 >>> ((8 : Int32) &&& 31).toUInt32).toInt32) &&& (255 : Int32)) % (65 : Int32)))] [] 0 0 0 (lenOf I2 rfl)
 obtain ⟨rfl, Nq3, e3⟩ := hQ3
 have N3 := Fr.app N2 Nq3
 refine c8 st3 ?_
 show c5 p e U m T3 31 L_3 [.int cx1]
 let L_4 : Array Slot := #[oI xb,oI xt,oR s1,oI cx0,oI cx1]
 refine o4 X3 f d cu5 (l' := L_4) rfl ?_
 refine f4 X3 f d cu6 rfl ?_
 by_cases hc34 : xt = (0 : Int32)
 · refine o2 (pc := 34) (pc' := 57) X3 f d bs2 ((if0 _ _).trans (teq hc34).1) ?_
   obtain ⟨T4, h4, X4, e4, E4, A4, D4, -, st4⟩ := newO X3 f hZ1 hown1 (bD7 w) (F9 w) (o6 w) e3 (g := (mkF m 57 L_4 [])) rfl (hb d cx3) (by decide) (by decide)
   obtain ⟨b4, g4⟩ : ∃ z, z = h1.size := ⟨_, rfl⟩
   rw [← g4] at A4 D4 st4
   have g_b4 : n0 ≤ b4 := c9 sz1 (f7 g4.symm)
   have sz_b4 : h0.size ≤ b4 := c9 KP1.1 (f7 g4.symm)
   have XO__4 := XO__1.ext E4
   have hR4 := hR1.trans (CHr.ext E4 hD1)
   have hC4 := hR4.1
   have sz4 := c9 sz1 E4.1
   have KP4 := KP1.ext E4
   have hk4 := c9 hk1 E4.1
   have Zs4 : Safe Z l3 T1.vm h4 b4 := Safe.ext E4 hD1 (Safe.new (f7 g4.symm))
   have F4_value : Fld Z h4 b4 "java/lang/String" "value" "[B" .null := D4 (Or.inr (H9 w)) (ty := (.array .byte)) (by decide)
   have F4_coder : Fld Z h4 b4 "java/lang/String" "coder" "B" (.int 0) := D4 (Or.inr (I0 w)) (ty := .byte) (by decide)
   refine c8 st4 ?_
   show c5 p e U m T4 60 L_4 [.ref b4]
   refine A0 X4 f d cx4 rfl ?_
   refine f6 X4 f d cx5 (z := (1 : Int32)) rfl ?_
   obtain ⟨T5, h5, k5, X5, e5, E5, A5, st5⟩ := newP (aty := .char) X4 f hZ1 (bD8 w) e4 (g := (mkF m 62 L_4 [.int 1, .ref b4, .ref b4])) rfl (hb d cx6) rfl (by decide) (cap := 1) (by decide) (by decide) (by decide) (by decide)
   obtain ⟨b5, g5⟩ : ∃ z, z = h4.size := ⟨_, rfl⟩
   rw [← g5] at A5 st5
   have g_b5 : n0 ≤ b5 := c9 sz4 (f7 g5.symm)
   have sz_b5 : h0.size ≤ b5 := c9 KP4.1 (f7 g5.symm)
   have ne_b4_b5 : b4 ≠ b5 := Nat.ne_of_lt (j3 A4.lt (f7 g5.symm))
   have XO__5 := XO__4.ext E5
   have A4__5 := A4.ext E5
   have F4_value__5 := F4_value.ext E5
   have F4_coder__5 := F4_coder.ext E5
   have Zs4__5 := Zs4.ext E5 hC4
   have hR5 := hR4.trans (CHr.ext E5 hC4)
   have hC5 := hR5.1
   have sz5 := c9 sz4 E5.1
   have KP5 := KP4.ext E5
   have hk5 := c9 hk4 E5.1
   have V5 : Arv Z h5 b5 k5 .char (1 : Int32) [.int 0] (.int 0) := (Arv.new A5 (by decide)).pad (pad_rep [] (.int 0) 1)
   refine c8 st5 ?_
   show c5 p e U m T5 64 L_4 [.ref b5, .ref b4, .ref b4]
   refine A0 X5 f d cx7 rfl ?_
   refine f6 X5 f d cx8 (z := (0 : Int32)) rfl ?_
   refine f4 X5 f d cx9 rfl ?_
   show c5 p e U m T5 67 L_4 [.int cx0, .int 0, .ref b5, .ref b5, .ref b4, .ref b4]
   obtain ⟨cl6, Ar6, qa6, Sa6, Na6, Ha6, Ga6⟩ := id V5
   have hin6 : ¬ ((0 : Int32) < 0 ∨ cl6.slots.size ≤ ((0 : Int32)).toNatClampNeg) := inb_of Sa6 ⟨by decide, by decide⟩
   obtain ⟨T6, h6, X6, e6, W6, st6⟩ := stC X5 f hZ1 e5 Ar6 (j := (0 : Int32)) hin6 (g := (mkF m 67 L_4 [.int cx0, .int 0, .ref b5, .ref b5, .ref b4, .ref b4])) rfl rfl (hb d cy0)
   have Vw6 : Arv Z h6 b5 k5 .char (1 : Int32) [(.int (nar .char cx0))] (.int 0) := Arv.set Ar6 qa6 Sa6 Na6 Ha6 Ga6 (fits_nar_char _) W6 0 rfl (Nat.le_of_ble_eq_true rfl)
   have Sa6 : Safe Z l3 T1.vm h5 b5 := (Safe.arv hZ1.alike V5 (by decide))
   have XO__6 := XO__5.wr W6 g_b5
   have A4__6 := A4__5.wr W6
   have F4_value__6 := F4_value__5.other W6 (Or.inl ne_b4_b5)
   have F4_coder__6 := F4_coder__5.other W6 (Or.inl ne_b4_b5)
   have Zs4__6 := Safe.wr W6 Sa6 hC5 Zs4__5
   have hR6 := hR5.trans (CHr.wr W6 Sa6 hC5)
   have hC6 := hR6.1
   have N6 := Fr.snoc X6 N3 g_b5
   have KP6 := KP5.wr W6 (Or.inr sz_b5)
   have sz6 := c9 sz5 (Keep.of_wr W6).1
   have hk6 := c9 hk5 (Keep.of_wr W6).1
   refine c8 st6 ?_
   obtain ⟨_, T7, Lc7, X7, hQ7, st7⟩ := D0 X6 f d r hZ1 e6 hown1 (bD9 w) (bE0 w) (o6 w) (bE1 w) (o := b4) (cW7 l Z a0 w [] b4 b5 k5 cs (nar .char cx0) h6 n0 sz6 A4__6 F4_value__6 F4_coder__6 g_b4 (Ne.symm ne_b4_b5) Vw6 SC hcs XO__6 (aC8 ok0.1 ok0.2.1)) L_4 cy1 [.ref b5] [.ref b4] 1 1 1 (lenOf bO7 rfl)
   obtain ⟨rfl, Nq7, K7, Fc7, d7, kd7, ge7, Fv7, A7⟩ := hQ7
   have N7 := Fr.app N6 Nq7
   refine c8 st7 ?_
   have sz_d7 : h0.size ≤ d7 := c9 KP6.1 ge7
   have A4__7 := A4__6.keep K7
   have hR7 := hR6.trans (CHr.keep K7 (show ∀ y ∈ ([b4] : List Addr), Safe Z l3 T1.vm h6 y from (sfS Zs4__6 sf0)) hC6)
   have hC7 := hR7.1
   have KP7 := KP6.trans K7 (allS (Or.inr sz_b4) all0)
   have hk7 := c9 hk6 K7.1
   show c5 p e U m T7 71 L_4 [.ref b4]
   have hF : CHr Z l3 s.vm s.heap T7.vm T7.heap := by rw [hh]; exact hR7.trans (CHv.at X7 hZ1 hEL hC7)
   exact aB7 X7 f R rfl rfl (hb d cy2) hS1 hk7 (⟨b4, d7, _, [cx0], rfl, N7, KP7, sz_b4, sz_d7, ⟨A4__7, Fc7, Fv7, by have q := A7; rw [aD0 ok0.1 ok0.2.1] at q; exact q⟩, Or.inl ⟨_, rfl, ok0⟩⟩) (hF) (by decide) (by decide)
 · refine m8 X3 f d bs2 ((if0 _ _).trans (feq hc34).1) ?_
   obtain ⟨T8, h8, X8, e8, E8, A8, D8, -, st8⟩ := newO X3 f hZ1 hown1 (bD7 w) (F9 w) (o6 w) e3 (g := (mkF m 37 L_4 [])) rfl (hb d cu7) (by decide) (by decide)
   obtain ⟨b8, g8⟩ : ∃ z, z = h1.size := ⟨_, rfl⟩
   rw [← g8] at A8 D8 st8
   have g_b8 : n0 ≤ b8 := c9 sz1 (f7 g8.symm)
   have sz_b8 : h0.size ≤ b8 := c9 KP1.1 (f7 g8.symm)
   have XO__8 := XO__1.ext E8
   have hR8 := hR1.trans (CHr.ext E8 hD1)
   have hC8 := hR8.1
   have sz8 := c9 sz1 E8.1
   have KP8 := KP1.ext E8
   have hk8 := c9 hk1 E8.1
   have Zs8 : Safe Z l3 T1.vm h8 b8 := Safe.ext E8 hD1 (Safe.new (f7 g8.symm))
   have F8_value : Fld Z h8 b8 "java/lang/String" "value" "[B" .null := D8 (Or.inr (H9 w)) (ty := (.array .byte)) (by decide)
   have F8_coder : Fld Z h8 b8 "java/lang/String" "coder" "B" (.int 0) := D8 (Or.inr (I0 w)) (ty := .byte) (by decide)
   refine c8 st8 ?_
   show c5 p e U m T8 40 L_4 [.ref b8]
   refine A0 X8 f d cu8 rfl ?_
   refine f6 X8 f d cu9 (z := (2 : Int32)) rfl ?_
   obtain ⟨T9, h9, k9, X9, e9, E9, A9, st9⟩ := newP (aty := .char) X8 f hZ1 (bD8 w) e8 (g := (mkF m 42 L_4 [.int 2, .ref b8, .ref b8])) rfl (hb d cv0) rfl (by decide) (cap := 2) (by decide) (by decide) (by decide) (by decide)
   obtain ⟨b9, g9⟩ : ∃ z, z = h8.size := ⟨_, rfl⟩
   rw [← g9] at A9 st9
   have g_b9 : n0 ≤ b9 := c9 sz8 (f7 g9.symm)
   have sz_b9 : h0.size ≤ b9 := c9 KP8.1 (f7 g9.symm)
   have ne_b8_b9 : b8 ≠ b9 := Nat.ne_of_lt (j3 A8.lt (f7 g9.symm))
   have XO__9 := XO__8.ext E9
   have A8__9 := A8.ext E9
   have F8_value__9 := F8_value.ext E9
   have F8_coder__9 := F8_coder.ext E9
   have Zs8__9 := Zs8.ext E9 hC8
   have hR9 := hR8.trans (CHr.ext E9 hC8)
   have hC9 := hR9.1
   have sz9 := c9 sz8 E9.1
   have KP9 := KP8.ext E9
   have hk9 := c9 hk8 E9.1
   have V9 : Arv Z h9 b9 k9 .char (2 : Int32) [.int 0, .int 0] (.int 0) := (Arv.new A9 (by decide)).pad (pad_rep [] (.int 0) 2)
   refine c8 st9 ?_
   show c5 p e U m T9 44 L_4 [.ref b9, .ref b8, .ref b8]
   refine A0 X9 f d cv1 rfl ?_
   refine f6 X9 f d cv2 (z := (0 : Int32)) rfl ?_
   refine f4 X9 f d cv3 rfl ?_
   show c5 p e U m T9 47 L_4 [.int cx0, .int 0, .ref b9, .ref b9, .ref b8, .ref b8]
   obtain ⟨cl10, Ar10, qa10, Sa10, Na10, Ha10, Ga10⟩ := id V9
   have hin10 : ¬ ((0 : Int32) < 0 ∨ cl10.slots.size ≤ ((0 : Int32)).toNatClampNeg) := inb_of Sa10 ⟨by decide, by decide⟩
   obtain ⟨T10, h10, X10, e10, W10, st10⟩ := stC X9 f hZ1 e9 Ar10 (j := (0 : Int32)) hin10 (g := (mkF m 47 L_4 [.int cx0, .int 0, .ref b9, .ref b9, .ref b8, .ref b8])) rfl rfl (hb d cv4)
   have Vw10 : Arv Z h10 b9 k9 .char (2 : Int32) [(.int (nar .char cx0)), .int 0] (.int 0) := Arv.set Ar10 qa10 Sa10 Na10 Ha10 Ga10 (fits_nar_char _) W10 0 rfl (Nat.le_of_ble_eq_true rfl)
   have Sa10 : Safe Z l3 T1.vm h9 b9 := (Safe.arv hZ1.alike V9 (by decide))
   have XO__10 := XO__9.wr W10 g_b9
   have A8__10 := A8__9.wr W10
   have F8_value__10 := F8_value__9.other W10 (Or.inl ne_b8_b9)
   have F8_coder__10 := F8_coder__9.other W10 (Or.inl ne_b8_b9)
   have Zs8__10 := Safe.wr W10 Sa10 hC9 Zs8__9
   have hR10 := hR9.trans (CHr.wr W10 Sa10 hC9)
   have hC10 := hR10.1
   have N10 := Fr.snoc X10 N3 g_b9
   have KP10 := KP9.wr W10 (Or.inr sz_b9)
   have sz10 := c9 sz9 (Keep.of_wr W10).1
   have hk10 := c9 hk9 (Keep.of_wr W10).1
   refine c8 st10 ?_
   show c5 p e U m T10 48 L_4 [.ref b9, .ref b8, .ref b8]
   refine A0 X10 f d cv5 rfl ?_
   refine f6 X10 f d cv6 (z := (1 : Int32)) rfl ?_
   refine f5 X10 f d cv7 rfl ?_
   show c5 p e U m T10 52 L_4 [.int cx1, .int 1, .ref b9, .ref b9, .ref b8, .ref b8]
   obtain ⟨cl11, Ar11, qa11, Sa11, Na11, Ha11, Ga11⟩ := id Vw10
   have hin11 : ¬ ((1 : Int32) < 0 ∨ cl11.slots.size ≤ ((1 : Int32)).toNatClampNeg) := inb_of Sa11 ⟨by decide, by decide⟩
   obtain ⟨T11, h11, X11, e11, W11, st11⟩ := stC X10 f hZ1 e10 Ar11 (j := (1 : Int32)) hin11 (g := (mkF m 52 L_4 [.int cx1, .int 1, .ref b9, .ref b9, .ref b8, .ref b8])) rfl rfl (hb d cv8)
   have Vw11 : Arv Z h11 b9 k9 .char (2 : Int32) [(.int (nar .char cx0)), (.int (nar .char cx1))] (.int 0) := Arv.set Ar11 qa11 Sa11 Na11 Ha11 Ga11 (fits_nar_char _) W11 1 rfl (Nat.le_of_ble_eq_true rfl)
   have Sa11 : Safe Z l3 T1.vm h10 b9 := (Safe.arv hZ1.alike Vw10 (by decide))
   have XO__11 := XO__10.wr W11 g_b9
   have A8__11 := A8__10.wr W11
   have F8_value__11 := F8_value__10.other W11 (Or.inl ne_b8_b9)
   have F8_coder__11 := F8_coder__10.other W11 (Or.inl ne_b8_b9)
   have Zs8__11 := Safe.wr W11 Sa11 hC10 Zs8__10
   have hR11 := hR10.trans (CHr.wr W11 Sa11 hC10)
   have hC11 := hR11.1
   have N11 := Fr.snoc X11 N10 g_b9
   have KP11 := KP10.wr W11 (Or.inr sz_b9)
   have sz11 := c9 sz10 (Keep.of_wr W11).1
   have hk11 := c9 hk10 (Keep.of_wr W11).1
   refine c8 st11 ?_
   obtain ⟨_, T12, Lc12, X12, hQ12, st12⟩ := D0 X11 f d r hZ1 e11 hown1 (bD9 w) (bE0 w) (o6 w) (bE1 w) (o := b8) (cX2 l Z a0 w [] b8 b9 k9 cs (nar .char cx0) (nar .char cx1) h11 n0 sz11 A8__11 F8_value__11 F8_coder__11 g_b8 (Ne.symm ne_b8_b9) Vw11 SC hcs XO__11 (aC8 ok0.1 ok0.2.1) (aC8 ok1.1 ok1.2.1)) L_4 cv9 [.ref b9] [.ref b8] 1 1 2 (lenOf bO7 rfl)
   obtain ⟨rfl, Nq12, K12, Fc12, d12, kd12, ge12, Fv12, A12⟩ := hQ12
   have N12 := Fr.app N11 Nq12
   refine c8 st12 ?_
   have sz_d12 : h0.size ≤ d12 := c9 KP11.1 ge12
   have A8__12 := A8__11.keep K12
   have hR12 := hR11.trans (CHr.keep K12 (show ∀ y ∈ ([b8] : List Addr), Safe Z l3 T1.vm h11 y from (sfS Zs8__11 sf0)) hC11)
   have hC12 := hR12.1
   have KP12 := KP11.trans K12 (allS (Or.inr sz_b8) all0)
   have hk12 := c9 hk11 K12.1
   show c5 p e U m T12 56 L_4 [.ref b8]
   have hF : CHr Z l3 s.vm s.heap T12.vm T12.heap := by rw [hh]; exact hR12.trans (CHv.at X12 hZ1 hEL hC12)
   exact aB7 X12 f R rfl rfl (hb d cx2) hS1 hk12 (⟨b8, d12, _, [cx0, cx1], rfl, N12, KP12, sz_b8, sz_d12, ⟨A8__12, Fc12, Fv12, by have q := A12; rw [aD0 ok0.1 ok0.2.1, aD0 ok1.1 ok1.2.1] at q; exact q⟩, Or.inr ⟨_, _, rfl, ok0, ok1⟩⟩) (hF) (by decide) (by decide)
theorem aY3 {Z : State} {h : Heap} {a : Addr} {k : ClassId} {ty : FieldType} {z : Int32} {vs vs' : List Value} {dv : Value} (F : Arv Z h a k ty z vs dv) (q : ∀ i, i < z.toNatClampNeg → vs'.getD i dv = vs.getD i dv) : Arv Z h a k ty z vs' dv := by
 obtain ⟨c, A, r1, r2, r3, H, G⟩ := F
 exact ⟨c, A, r1, r2, r3, fun i hi => by rw [q i (r2 ▸ hi)]; exact H i hi, fun i hi => by rw [q i (r2 ▸ hi)]; exact G i hi⟩
theorem az6 : plainName "java/lang/StringCoding" = true := by first | (simp [plainName, overriddenIn]; done) | decide +kernel
theorem bO8:c4 x6 0 (.iload_n 1) 1:=by decide +kernel
theorem bO9:c4 x6 1 (.iload_n 2) 1:=by decide +kernel
theorem bP0:c4 x6 2 .iadd 1:=by decide +kernel
theorem bP1:c4 x6 3 (.istore_n 3) 1:=by decide +kernel
theorem bP2:c4 x6 4 (.iload_n 1) 1:=by decide +kernel
theorem bP3:c4 x6 5 (.istore 4) 2:=by decide +kernel
theorem ao1:c4 x6 7 (.iload 4) 2:=by decide +kernel
theorem ao2:c4 x6 9 (.iload_n 3) 1:=by decide +kernel
theorem am5:c4 x6 10 (.if_icmp .ge 21) 3:=by decide +kernel
theorem aK1:c4 x6 13 (.aload_n 0) 1:=by decide +kernel
theorem aK2:c4 x6 14 (.iload 4) 2:=by decide +kernel
theorem aK3:c4 x6 16 .baload 1:=by decide +kernel
theorem aK4:c4 x6 17 (.ifCond .ge 8) 3:=by decide +kernel
theorem aK5:c4 x6 25 (.iinc 4 1) 3:=by decide +kernel
theorem aK6:c4 x6 28 (.goto (-21)) 3:=by decide +kernel
theorem bs3:c4 x6 31 (.iload_n 2) 1:=by decide +kernel
theorem bs4:c4 x6 32 .ireturn 1:=by decide +kernel
theorem cY0 (l : Launch) (Z : State) (a0 : Array Value) (w : j9 Z a0) (ws : List Jvm.Cond) (ot : Addr) (kt : ClassId) (xo xl : Int32) (vs_ : List Value) (c0 : Int32) (als : List Value) (h0 : Heap) (n0 : Nat) (Z0 : n0 ≤ h0.size) (At : Arv Z h0 ot kt .byte xl vs_ (.int 0)) (pl_ : r0 xo xl 1) (gv0 : vs_.getD (xo.toNatClampNeg + 0) (.int 0) = .int c0) (ok0 : s8 als c0) :
 l0 l Z h0 bZ5 x6 5 (some .int) ws (Jvm.Room.mk 0 0 0 0) #[.ref ot, .int xo, .int 1] (r4 (1 : Int32) h0 n0) := by
 refine l7 (Ls := #[.val (.ref ot), .val (.int xo), .val (.int 1), .unset, .unset]) (plainFor_of_name az6) (fun p e s m U meth c s₁ Y hh f d r O hnm hlk R X0 e0 => ?_)
 replace O : s.vm.findClass "java/lang/StringCoding" = some m.cls := O
 have N0 := Fr.nil n0
 let L_1 : Array Slot := #[oR ot,oI xo,oI 1,oU,oU]
 show c5 p e U m s₁ 0 L_1 []
 refine f4 X0 f d bO8 rfl ?_
 refine f4 X0 f d bO9 rfl ?_
 refine n7 X0 f d bP0 ?_
 show c5 p e U m s₁ 3 L_1 [(.int (xo + (1 : Int32)))]
 let L_2 : Array Slot := #[oR ot,oI xo,oI 1,(oI (xo + (1 : Int32))),oU]
 refine p8 X0 f d bP1 (l' := L_2) rfl ?_
 refine f4 X0 f d bP2 rfl ?_
 let L_3 : Array Slot := #[oR ot,oI xo,oI 1,(oI (xo + (1 : Int32))),oI xo]
 refine o4 X0 f d bP3 (l' := L_3) rfl ?_
 refine f5 X0 f d ao1 rfl ?_
 refine f4 X0 f d ao2 rfl ?_
 refine m4 X0 f d am5 (tlt (aX9 pl_ 1 (by decide) (by decide) (by decide) : xo < (xo + (1 : Int32)))).2.1 ?_
 refine c6 X0 f d aK1 rfl rfl ?_
 refine f5 X0 f d aK2 rfl ?_
 refine P5 X0 f d Y e0 At (v := (.int c0)) (aX8 pl_ (by decide)) gv0 aK3 ?_
 refine o2 (pc := 17) (pc' := 25) X0 f d aK4 ((if0 _ _).trans (flt ok0.1).2.1) ?_
 show c5 p e U m s₁ 25 L_3 []
 let L_4 : Array Slot := #[oR ot,oI xo,oI 1,(oI (xo + (1 : Int32))),(oI (xo + (1 : Int32)))]
 refine c8 (fun t k => XS.iinc X0.here f rfl (hb d aK5) rfl (l' := L_4) rfl k) ?_
 show c5 p e U m s₁ 28 L_4 []
 refine m5 (pc := 28) (pc' := 7) X0 f d aK6 ?_
 refine f5 X0 f d ao1 rfl ?_
 refine f4 X0 f d ao2 rfl ?_
 refine j5 (pc := 10) (pc' := 31) X0 f d am5 (flt (by exact aY0 (xo + Int32.ofNat 1) : ¬ ((xo + (1 : Int32)) < (xo + (1 : Int32))))).2.1 ?_
 refine f4 X0 f d bs3 rfl ?_
 show c5 p e U m s₁ 32 L_4 [.int 1]
 exact r8 X0 f R (hb d bs4) (by rw [e0]; exact ⟨rfl, N0, rfl⟩) (by decide) (by decide)
theorem bP4:c4 M1 0 (.aload_n 0) 1:=by decide +kernel
theorem bP5:c4 M1 1 (.iload_n 1) 1:=by decide +kernel
theorem bP6:c4 M1 2 (.iload_n 2) 1:=by decide +kernel
theorem bP7:c4 M1 3 (.invokestatic 7) 3:=by decide +kernel
theorem bP8:c4 M1 6 (.iload_n 2) 1:=by decide +kernel
theorem bP9:c4 M1 7 (.if_icmp .eq 7) 3:=by decide +kernel
theorem bs5:c4 M1 14 (.iconst 0) 1:=by decide +kernel
theorem bs6:c4 M1 15 .ireturn 1:=by decide +kernel
theorem bQ0 : parseMethodDescriptor "([BII)I" = some ⟨[(.array .byte), .int, .int], some .int⟩ := by decide +kernel
theorem cY1 (l : Launch) (Z : State) (a0 : Array Value) (w : j9 Z a0) (ws : List Jvm.Cond) (ot : Addr) (kt : ClassId) (xo xl : Int32) (vs_ : List Value) (c0 : Int32) (als : List Value) (h0 : Heap) (n0 : Nat) (Z0 : n0 ≤ h0.size) (At : Arv Z h0 ot kt .byte xl vs_ (.int 0)) (pl_ : r0 xo xl 1) (gv0 : vs_.getD (xo.toNatClampNeg + 0) (.int 0) = .int c0) (ok0 : s8 als c0) :
 l0 l Z h0 bZ6 M1 3 (some .boolean) ws (Jvm.Room.mk 1 0 0 16) #[.ref ot, .int xo, .int 1] (r4 (0 : Int32) h0 n0) := by
 refine l7 (Ls := #[.val (.ref ot), .val (.int xo), .val (.int 1)]) (plainFor_of_name az6) (fun p e s m U meth c s₁ Y hh f d r O hnm hlk R X0 e0 => ?_)
 replace O : s.vm.findClass "java/lang/StringCoding" = some m.cls := O
 have N0 := Fr.nil n0
 let L_1 : Array Slot := #[oR ot,oI xo,oI 1]
 show c5 p e U m s₁ 0 L_1 []
 refine c6 X0 f d bP4 rfl rfl ?_
 refine f4 X0 f d bP5 rfl ?_
 refine f4 X0 f d bP6 rfl ?_
 obtain ⟨_, T1, Lc1, X1, hQ1, st1⟩ := j8 X0 f d r Y e0 O (bj0 w) (bj1 w) (au4 w) (bj2 w) (cY0 l Z a0 w [] ot kt xo xl vs_ c0 als h0 n0 Z0 At pl_ gv0 ok0) L_1 bP7 [.ref ot, .int xo, .int 1] [] 0 0 0 (lenOf bQ0 rfl)
 obtain ⟨rfl, Nq1, e1⟩ := hQ1
 have N1 := Fr.app N0 Nq1
 refine c8 st1 ?_
 show c5 p e U m T1 6 L_1 [.int 1]
 refine f4 X1 f d bP8 rfl ?_
 refine j5 (pc := 7) (pc' := 14) X1 f d bP9 (teq (by decide : (1 : Int32) = (1 : Int32))).1 ?_
 refine f6 X1 f d bs5 (z := (0 : Int32)) rfl ?_
 show c5 p e U m T1 15 L_1 [.int 0]
 exact t4 X1 f (t := .boolean) R (by simp) (hb d bs6) (by rw [e1]; exact ⟨rfl, N1, rfl⟩) (by decide) (by decide)
theorem bQ1:c4 ak8 0 (.iload_n 1) 1:=by decide +kernel
theorem bQ2:c4 ak8 1 (.iload_n 0) 1:=by decide +kernel
theorem bQ3:c4 ak8 2 (.if_icmp .ge 35) 3:=by decide +kernel
theorem bs7:c4 ak8 37 .return_ 1:=by decide +kernel
theorem cY2 (l : Launch) (Z : State) (a0 : Array Value) (w : j9 Z a0) (ws : List Jvm.Cond) (xo xl : Int32) (h0 : Heap) (n0 : Nat) (Z0 : n0 ≤ h0.size) (pl_ : r0 xo xl 1) :
 l0 l Z h0 bZ7 ak8 2 none ws (Jvm.Room.mk 0 0 0 0) #[.int xo, (.int (xo + (1 : Int32)))] (U1 h0 n0) := by
 refine l7 (Ls := #[.val (.int xo), .val (.int (xo + (1 : Int32)))]) (plainFor_of_name G1) (fun p e s m U meth c s₁ Y hh f d r O hnm hlk R X0 e0 => ?_)
 replace O : s.vm.findClass "java/util/Arrays" = some m.cls := O
 have N0 := Fr.nil n0
 let L_1 : Array Slot := #[oI xo,(oI (xo + (1 : Int32)))]
 show c5 p e U m s₁ 0 L_1 []
 refine f4 X0 f d bQ1 rfl ?_
 refine f4 X0 f d bQ2 rfl ?_
 refine j5 (pc := 2) (pc' := 37) X0 f d bQ3 (flt (aZ2 pl_ (by decide) : ¬ ((xo + (1 : Int32)) < xo))).2.1 ?_
 show c5 p e U m s₁ 37 L_1 []
 exact q0 X0 f R (hb d bs7) (by rw [e0]; exact ⟨rfl, N0, rfl⟩) (by decide) (by decide)
theorem bQ4:c4 t2 0 (.iload_n 1) 1:=by decide +kernel
theorem bQ5:c4 t2 1 (.iload_n 2) 1:=by decide +kernel
theorem bQ6:c4 t2 2 (.invokestatic 343) 3:=by decide +kernel
theorem bQ7:c4 t2 5 (.iload_n 2) 1:=by decide +kernel
theorem bQ8:c4 t2 6 (.iload_n 1) 1:=by decide +kernel
theorem bQ9:c4 t2 7 .isub 1:=by decide +kernel
theorem bR0:c4 t2 8 (.istore_n 3) 1:=by decide +kernel
theorem bR1:c4 t2 9 (.iload_n 3) 1:=by decide +kernel
theorem bs8:c4 t2 10 (.newarray .byte) 2:=by decide +kernel
theorem bs9:c4 t2 12 (.astore 4) 2:=by decide +kernel
theorem bt0:c4 t2 14 (.aload_n 0) 1:=by decide +kernel
theorem bt1:c4 t2 15 (.iload_n 1) 1:=by decide +kernel
theorem bt2:c4 t2 16 (.aload 4) 2:=by decide +kernel
theorem bt3:c4 t2 18 (.iconst 0) 1:=by decide +kernel
theorem bt4:c4 t2 19 (.aload_n 0) 1:=by decide +kernel
theorem bt5:c4 t2 20 .arraylength 1:=by decide +kernel
theorem bt6:c4 t2 21 (.iload_n 1) 1:=by decide +kernel
theorem bt7:c4 t2 22 .isub 1:=by decide +kernel
theorem bt8:c4 t2 23 (.iload_n 3) 1:=by decide +kernel
theorem bt9:c4 t2 24 (.invokestatic 304) 3:=by decide +kernel
theorem bu0:c4 t2 27 (.invokestatic 150) 3:=by decide +kernel
theorem bu1:c4 t2 30 (.aload 4) 2:=by decide +kernel
theorem bu2:c4 t2 32 .areturn 1:=by decide +kernel
def aY4 (Z : State) (c0 : Int32) (h0 : Heap) (n0 : Nat) (v : Option Value) (h : Heap) (L : List Loc) : Prop := ∃ (b : Addr) (kb : ClassId), v = some (.ref b) ∧ Fr n0 L ∧ Keep h0 h [] ∧ h0.size ≤ b ∧ Arv Z h b kb .byte (1 : Int32) [.int c0] (.int 0)
theorem bR2 (l : Launch) (Z : State) (a0 : Array Value) (w : j9 Z a0) (ws : List Jvm.Cond) (ot : Addr) (kt : ClassId) (xo xl : Int32) (vs_ : List Value) (c0 : Int32) (h0 : Heap) (n0 : Nat) (Z0 : n0 ≤ h0.size) (At : Arv Z h0 ot kt .byte xl vs_ (.int 0)) (pl_ : r0 xo xl 1) (gv0 : vs_.getD (xo.toNatClampNeg + 0) (.int 0) = .int c0) :
 l0 l Z h0 bZ8 t2 5 (some (.array .byte)) ws (Jvm.Room.mk 1 1 1 40) #[.ref ot, .int xo, (.int (xo + (1 : Int32)))] (aY4 Z c0 h0 n0) := by
 refine l7 (Ls := #[.val (.ref ot), .val (.int xo), .val (.int (xo + (1 : Int32))), .unset, .unset]) (plainFor_of_name G1) (fun p e s m U meth c s₁ Y hh f d r O hnm hlk R X0 e0 => ?_)
 replace O : s.vm.findClass "java/util/Arrays" = some m.cls := O
 have N0 := Fr.nil n0
 let L_1 : Array Slot := #[oR ot,oI xo,(oI (xo + (1 : Int32))),oU,oU]
 show c5 p e U m s₁ 0 L_1 []
 refine f4 X0 f d bQ4 rfl ?_
 refine f4 X0 f d bQ5 rfl ?_
 obtain ⟨_, T1, Lc1, X1, hQ1, st1⟩ := j8 X0 f d r Y e0 O (bj6 w) (bj7 w) (t6 w) (bj8 w) (cY2 l Z a0 w [] xo xl h0 n0 Z0 pl_) L_1 bQ6 [.int xo, (.int (xo + (1 : Int32)))] [] 0 0 0 (lenOf aW5 rfl)
 obtain ⟨rfl, Nq1, e1⟩ := hQ1
 have N1 := Fr.app N0 Nq1
 refine c8 st1 ?_
 show c5 p e U m T1 5 L_1 []
 refine f4 X1 f d bQ7 rfl ?_
 refine f4 X1 f d bQ8 rfl ?_
 refine x7 X1 f d bQ9 ?_
 show c5 p e U m T1 8 L_1 [(.int ((xo + (1 : Int32)) - xo))]
 rw [show ((xo + (1 : Int32)) - xo) = (1 : Int32) from aZ1 pl_ 1 (by decide) (by decide)]
 show c5 p e U m T1 8 L_1 [.int 1]
 let L_2 : Array Slot := #[oR ot,oI xo,(oI (xo + (1 : Int32))),oI 1,oU]
 refine p8 X1 f d bR0 (l' := L_2) rfl ?_
 refine f4 X1 f d bR1 rfl ?_
 obtain ⟨T2, h2, k2, X2, e2, E2, A2, Ey2, st2⟩ := newPE (aty := .byte) X1 f Y (Q8 w) e1 (g := (mkF m 10 L_2 [.int 1])) rfl (hb d bs8) rfl (by decide) (cap := 1) (by decide) (by decide) (by decide) (by decide) (ad := "[B") (by decide)
 obtain ⟨b2, g2⟩ : ∃ z, z = h0.size := ⟨_, rfl⟩
 rw [← g2] at A2 Ey2 st2
 have g_b2 : n0 ≤ b2 := c9 Z0 (f7 g2.symm)
 have sz_b2 : h0.size ≤ b2 := c9 (Keep.refl h0 []).1 (f7 g2.symm)
 have At__2 := At.ext E2
 have sz2 := c9 Z0 E2.1
 have KP2 := (Keep.refl h0 []).ext E2
 have V2 : Arv Z h2 b2 k2 .byte (1 : Int32) [.int 0] (.int 0) := (Arv.new A2 (by decide)).pad (pad_rep [] (.int 0) 1)
 refine c8 st2 ?_
 show c5 p e U m T2 12 L_2 [.ref b2]
 let L_3 : Array Slot := #[oR ot,oI xo,(oI (xo + (1 : Int32))),oI 1,oR b2]
 refine t5 X2 f d bs9 rfl (l' := L_3) rfl ?_
 refine c6 X2 f d bt0 rfl rfl ?_
 refine f4 X2 f d bt1 rfl ?_
 refine j0 X2 f d bt2 rfl rfl ?_
 refine f6 X2 f d bt3 (z := (0 : Int32)) rfl ?_
 refine c6 X2 f d bt4 rfl rfl ?_
 refine m7 X2 f d Y e2 At__2 bt5 ?_
 refine f4 X2 f d bt6 rfl ?_
 refine x7 X2 f d bt7 ?_
 show c5 p e U m T2 23 L_3 [(.int (xl - xo)), .int 0, .ref b2, .int xo, .ref ot]
 refine f4 X2 f d bt8 rfl ?_
 obtain ⟨_, T4, Lc4, X4, hQ4, st4⟩ := j8 X2 f d r Y e2 O (I8 w) (I9 w) (s6 w) (J0 w) (bK0 l Z a0 w [] (xl - xo) (1 : Int32) h2 n0 sz2 (ap5 pl_ (by decide))) L_3 bt9 [(.int (xl - xo)), .int 1] [.int 0, .ref b2, .int xo, .ref ot] 4 0 0 (lenOf s9 rfl)
 obtain ⟨rfl, Nq4, e4⟩ := hQ4
 have N4 := Fr.app N1 Nq4
 refine c8 st4 ?_
 obtain ⟨T5, h5, L5, X5, e5, N5, K5, A5, st5⟩ := cpA X4 f Y O (J1 w) (v4 w) (v2 w) (v3 w) e4 At__2 V2 (us := [.int c0]) (Or.inl ⟨rfl, rfl⟩) (ap2 pl_) (by decide) (by decide) (by exact aZ3 (k := 1) pl_) (by decide) (by show _ = [vs_.getD (xo.toNatClampNeg + 0) _]; rw [gv0]) (by decide) N4 g_b2 (g := (mkF m 27 L_3 [.int 1, .int 0, .ref b2, .int xo, .ref ot])) rfl (by rw [r]; rfl) rfl (hb d bu0) (by decide) (W := 0) (by show 2 * 0 + _ ≤ _; exact f7 rfl) (by decide)
 have KP5 := KP2.trans K5 (allS (Or.inr sz_b2) all0)
 refine c8 st5 ?_
 show c5 p e U m T5 30 L_3 []
 refine j0 X5 f d bu1 rfl rfl ?_
 show c5 p e U m T5 32 L_3 [.ref b2]
 exact p9 X5 f R rfl rfl (hb d bu2) (by rw [e5]; exact ⟨_, _, rfl, N5, KP5, sz_b2, A5⟩) (by decide) (by decide)
theorem bR3:c4 B5 0 (.iload_n 1) 1:=by decide +kernel
theorem az7:c4 B5 1 (.ifCond .ne 9) 3:=by decide +kernel
theorem bR4:c4 B5 4 (.iload_n 2) 1:=by decide +kernel
theorem bR5:c4 B5 5 (.aload_n 0) 1:=by decide +kernel
theorem bR6:c4 B5 6 .arraylength 1:=by decide +kernel
theorem az8:c4 B5 7 (.if_icmp .eq 10) 3:=by decide +kernel
theorem av1:c4 B5 10 (.aload_n 0) 1:=by decide +kernel
theorem av2:c4 B5 11 (.iload_n 1) 1:=by decide +kernel
theorem av3:c4 B5 12 (.iload_n 2) 1:=by decide +kernel
theorem av4:c4 B5 13 (.invokestatic 339) 3:=by decide +kernel
theorem av5:c4 B5 16 .areturn 1:=by decide +kernel
theorem bu3:c4 B5 17 (.aload_n 0) 1:=by decide +kernel
theorem bu4:c4 B5 18 (.invokevirtual 310) 3:=by decide +kernel
theorem bu5:c4 B5 21 (.checkcast 311) 3:=by decide +kernel
theorem bu6:c4 B5 24 .areturn 1:=by decide +kernel
theorem ak2 : parseMethodDescriptor "([BII)[B" = some ⟨[(.array .byte), .int, .int], some (.array .byte)⟩ := by decide +kernel
theorem cY3 (l : Launch) (Z : State) (a0 : Array Value) (w : j9 Z a0) (ws : List Jvm.Cond) (ot : Addr) (kt : ClassId) (xo xl : Int32) (vs_ : List Value) (c0 : Int32) (h0 : Heap) (n0 : Nat) (Z0 : n0 ≤ h0.size) (At : Arv Z h0 ot kt .byte xl vs_ (.int 0)) (Eb : Exa Z h0 ot "[B") (pl_ : r0 xo xl 1) (gv0 : vs_.getD (xo.toNatClampNeg + 0) (.int 0) = .int c0) :
 l0 l Z h0 bZ9 B5 3 (some (.array .byte)) ws (Jvm.Room.mk 2 1 1 60) #[.ref ot, .int xo, (.int (xo + (1 : Int32)))] (aY4 Z c0 h0 n0) := by
 refine l7 (Ls := #[.val (.ref ot), .val (.int xo), .val (.int (xo + (1 : Int32)))]) (plainFor_of_name G1) (fun p e s m U meth c s₁ Y hh f d r O hnm hlk R X0 e0 => ?_)
 replace O : s.vm.findClass "java/util/Arrays" = some m.cls := O
 have N0 := Fr.nil n0
 let L_1 : Array Slot := #[oR ot,oI xo,(oI (xo + (1 : Int32)))]
 show c5 p e U m s₁ 0 L_1 []
 refine f4 X0 f d bR3 rfl ?_
 by_cases hc1 : xo = (0 : Int32)
 · refine m8 X0 f d az7 ((if0 _ _).trans (teq hc1).2) ?_
   refine f4 X0 f d bR4 rfl ?_
   refine c6 X0 f d bR5 rfl rfl ?_
   refine m7 X0 f d Y e0 At bR6 ?_
   by_cases hc7 : (xo + (1 : Int32)) = xl
   · refine j5 (pc := 7) (pc' := 17) X0 f d az8 (teq hc7).1 ?_
     refine c6 X0 f d bu3 rfl rfl ?_
     show c5 p e U m s₁ 18 L_1 [.ref ot]
     have hxl : xl = (1 : Int32) := by rw [← hc7, hc1]; decide
     obtain ⟨T2, h2, X2, e2, E2, A2, Ey2, st2⟩ := cloneH X0 f Y O (bm0 w) (bm1 w) (bm4 w) (bm2 w) (bm3 w) (bm5 w) e0 (Arv.arh At) Eb (g := (mkF m 18 L_1 [.ref ot])) rfl (by rw [r]; rfl) rfl (hb d bu4) (by decide) (W := 0) (by show 2 * 0 + _ ≤ _; exact f7 rfl) (by decide) (cap := 1) (by rw [hxl]; decide) (by decide) (by decide)
     obtain ⟨b2, g2⟩ : ∃ z, z = h0.size := ⟨_, rfl⟩
     rw [← g2] at A2 Ey2 st2
     have sz_b2 : h0.size ≤ b2 := c9 (Keep.refl h0 []).1 (f7 g2.symm)
     have V2 : Arv Z h2 b2 kt .byte (1 : Int32) [.int c0] (.int 0) := aY3 (vs := vs_) (hxl ▸ A2) (fun i hi => by
      have z0 : xo.toNatClampNeg = 0 := by rw [hc1]; decide
      match i, hi with
      | 0, _ => have q := gv0; rw [z0, Nat.zero_add] at q; exact q.symm
      | n_ + 1, hi => exact absurd hi (by show ¬ (n_ + 1 < 1); omega))
     have KP2 := (Keep.refl h0 []).ext E2
     refine c8 st2 ?_
     obtain ⟨T3, X3, e3, st3⟩ := castY X2 f Y O (bm6 w) e2 (Ins.self Ey2) (g := (mkF m 21 L_1 [.ref b2])) rfl rfl (hb d bu5)
     refine c8 st3 ?_
     show c5 p e U m T3 24 L_1 [.ref b2]
     exact p9 X3 f R rfl rfl (hb d bu6) (by rw [e3]; exact ⟨_, _, rfl, N0, KP2, sz_b2, V2⟩) (by decide) (by decide)
   · refine m4 X0 f d az8 (feq hc7).1 ?_
     refine c6 X0 f d av1 rfl rfl ?_
     refine f4 X0 f d av2 rfl ?_
     refine f4 X0 f d av3 rfl ?_
     obtain ⟨_, T4, Lc4, X4, hQ4, st4⟩ := j8 X0 f d r Y e0 O (au5 w) (au6 w) (t6 w) (au7 w) (bR2 l Z a0 w [] ot kt xo xl vs_ c0 h0 n0 Z0 At pl_ gv0) L_1 av4 [.ref ot, .int xo, (.int (xo + (1 : Int32)))] [] 0 1 1 (lenOf ak2 rfl)
     obtain ⟨d4, kd4, rfl, Nq4, K4, ge4, A4⟩ := hQ4
     have N4 := Fr.app N0 Nq4
     refine c8 st4 ?_
     have sz_d4 : h0.size ≤ d4 := c9 (Keep.refl h0 []).1 ge4
     have KP4 := (Keep.refl h0 []).trans K4 all0
     show c5 p e U m T4 16 L_1 [.ref d4]
     exact p9 X4 f R rfl rfl (hb d av5) (⟨_, _, rfl, N4, KP4, sz_d4, A4⟩) (by decide) (by decide)
 · refine o2 (pc := 1) (pc' := 10) X0 f d az7 ((if0 _ _).trans (feq hc1).2) ?_
   refine c6 X0 f d av1 rfl rfl ?_
   refine f4 X0 f d av2 rfl ?_
   refine f4 X0 f d av3 rfl ?_
   obtain ⟨_, T5, Lc5, X5, hQ5, st5⟩ := j8 X0 f d r Y e0 O (au5 w) (au6 w) (t6 w) (au7 w) (bR2 l Z a0 w [] ot kt xo xl vs_ c0 h0 n0 Z0 At pl_ gv0) L_1 av4 [.ref ot, .int xo, (.int (xo + (1 : Int32)))] [] 0 1 1 (lenOf ak2 rfl)
   obtain ⟨d5, kd5, rfl, Nq5, K5, ge5, A5⟩ := hQ5
   have N5 := Fr.app N0 Nq5
   refine c8 st5 ?_
   have sz_d5 : h0.size ≤ d5 := c9 (Keep.refl h0 []).1 ge5
   have KP5 := (Keep.refl h0 []).trans K5 all0
   show c5 p e U m T5 16 L_1 [.ref d5]
   exact p9 X5 f R rfl rfl (hb d av5) (⟨_, _, rfl, N5, KP5, sz_d5, A5⟩) (by decide) (by decide)
theorem bR7:c4 F3 0 (.iload_n 2) 1:=by decide +kernel
theorem bR8:c4 F3 1 (.iload_n 0) 1:=by decide +kernel
theorem bR9:c4 F3 2 .ior 1:=by decide +kernel
theorem bS0:c4 F3 3 (.iload_n 1) 1:=by decide +kernel
theorem bS1:c4 F3 4 .ior 1:=by decide +kernel
theorem bS2:c4 F3 5 (.ifCond .lt 10) 3:=by decide +kernel
theorem bS3:c4 F3 8 (.iload_n 1) 1:=by decide +kernel
theorem bS4:c4 F3 9 (.iload_n 2) 1:=by decide +kernel
theorem bu7:c4 F3 10 (.iload_n 0) 1:=by decide +kernel
theorem bu8:c4 F3 11 .isub 1:=by decide +kernel
theorem bu9:c4 F3 12 (.if_icmp .le 11) 3:=by decide +kernel
theorem bv0:c4 F3 23 (.iload_n 0) 1:=by decide +kernel
theorem bv1:c4 F3 24 .ireturn 1:=by decide +kernel
theorem cY4 (l : Launch) (Z : State) (a0 : Array Value) (w : j9 Z a0) (ws : List Jvm.Cond) (xo xl : Int32) (fm : Value) (h0 : Heap) (n0 : Nat) (Z0 : n0 ≤ h0.size) (r_fm : fm.isRef = true) (pl_ : r0 xo xl 1) (hl0 : ¬ xl < 0) :
 l0 l Z h0 ca4 F3 4 (some .int) ws (Jvm.Room.mk 0 0 0 0) #[.int xo, .int 1, .int xl, fm] (r4 xo h0 n0) := by
 refine ao7 (Ls := #[.val (.int xo), .val (.int 1), .val (.int xl), .val fm]) (plainFor_of_name aW3) (fun m => by simp [entryFrame, mkF, argsToLocals, aC4, aC5, aC6, aC7, aC3 r_fm]) (fun p e s m U meth c s₁ Y hh f d r O hnm hlk R X0 e0 => ?_)
 replace O : s.vm.findClass "jdk/internal/util/Preconditions" = some m.cls := O
 have N0 := Fr.nil n0
 let L_1 : Array Slot := #[oI xo,oI 1,oI xl,.val fm]
 show c5 p e U m s₁ 0 L_1 []
 refine f4 X0 f d bR7 rfl ?_
 refine f4 X0 f d bR8 rfl ?_
 refine ay8 X0 f d bR9 ?_
 show c5 p e U m s₁ 3 L_1 [(.int (xl ||| xo))]
 refine f4 X0 f d bS0 rfl ?_
 refine ay8 X0 f d bS1 ?_
 show c5 p e U m s₁ 5 L_1 [(.int ((xl ||| xo) ||| (1 : Int32)))]
 refine m8 X0 f d bS2 ((if0 _ _).trans (flt (ap6 (ap6 hl0 (ap2 pl_)) (by decide) : ¬ (((xl ||| xo) ||| (1 : Int32)) < (0 : Int32)))).1) ?_
 refine f4 X0 f d bS3 rfl ?_
 refine f4 X0 f d bS4 rfl ?_
 refine f4 X0 f d bu7 rfl ?_
 refine x7 X0 f d bu8 ?_
 show c5 p e U m s₁ 12 L_1 [(.int (xl - xo)), .int 1]
 refine j5 (pc := 12) (pc' := 23) X0 f d bu9 (flt (ap5 pl_ (by decide) : ¬ ((xl - xo) < (1 : Int32)))).2.2.2 ?_
 refine f4 X0 f d bv0 rfl ?_
 show c5 p e U m s₁ 24 L_1 [.int xo]
 exact r8 X0 f R (hb d bv1) (by rw [e0]; exact ⟨rfl, N0, rfl⟩) (by decide) (by decide)
theorem bS5:c4 R7 0 (.iload_n 0) 1:=by decide +kernel
theorem bS6:c4 R7 1 (.iload_n 1) 1:=by decide +kernel
theorem bS7:c4 R7 2 (.iload_n 2) 1:=by decide +kernel
theorem bS8:c4 R7 3 (.getstatic 1053) 3:=by decide +kernel
theorem bS9:c4 R7 6 (.invokestatic 1065) 3:=by decide +kernel
theorem bT0:c4 R7 9 .ireturn 1:=by decide +kernel
theorem bT1 : parseMethodDescriptor "(IIILjava/util/function/BiFunction;)I" = some ⟨[.int, .int, .int, (.object "java/util/function/BiFunction")], some .int⟩ := by decide +kernel
theorem cY5 (l : Launch) (Z : State) (a0 : Array Value) (w : j9 Z a0) (ws : List Jvm.Cond) (xo xl : Int32) (z0 pc0 : Addr) (kpc : ClassId) (pcs : List Value) (fm : Value) (al : Addr) (kal : ClassId) (als : List Value) (h0 : Heap) (n0 : Nat) (Z0 : n0 ≤ h0.size) (pl_ : r0 xo xl 1) (hl0 : ¬ xl < 0) (XO : Old Z n0 h0) (WW : r5 Z z0 pc0 kpc pcs fm al kal als) :
 l0 l Z h0 ca5 R7 3 (some .int) ws (Jvm.Room.mk 1 0 0 16) #[.int xo, .int 1, .int xl] (r4 xo h0 n0) := by
 refine l7 (Ls := #[.val (.int xo), .val (.int 1), .val (.int xl)]) (plainFor_of_name C4) (fun p e s m U meth c s₁ Y hh f d r O hnm hlk R X0 e0 => ?_)
 replace O : s.vm.findClass "java/lang/String" = some m.cls := O
 have N0 := Fr.nil n0
 obtain ⟨SAl, AAl, r_fm, ⟨cs, hcs, SC⟩, SFM, SZ, BZ, SPc, APc, HPc, HAL, uo, u8, i8, CS⟩ := id WW
 let L_1 : Array Slot := #[oI xo,oI 1,oI xl]
 show c5 p e U m s₁ 0 L_1 []
 refine f4 X0 f d bS5 rfl ?_
 refine f4 X0 f d bS6 rfl ?_
 refine f4 X0 f d bS7 rfl ?_
 obtain ⟨T1, X1, e1, st1⟩ := getS2 X0 f Y O (host := "") (Or.inl (aL8 w)) Via.refl e0 (SFM.ext XO.2) (g := (mkF m 3 L_1 [.int xl, .int 1, .int xo])) rfl (hb d bS8)
 refine c8 st1 ?_
 obtain ⟨_, T2, Lc2, X2, hQ2, st2⟩ := j8 X1 f d r Y e1 O (bh8 w) (bh9 w) (aL9 w) (bi0 w) (cY4 l Z a0 w [] xo xl fm h0 n0 Z0 r_fm pl_ hl0) L_1 bS9 [.int xo, .int 1, .int xl, fm] [] 0 0 0 (lenOf bT1 rfl)
 obtain ⟨rfl, Nq2, e2⟩ := hQ2
 have N2 := Fr.app N0 Nq2
 refine c8 st2 ?_
 show c5 p e U m T2 9 L_1 [.int xo]
 exact r8 X2 f R (hb d bT0) (by rw [e2]; exact ⟨rfl, N2, rfl⟩) (by decide) (by decide)
theorem bT2:c4 p7 0 (.aload_n 0) 1:=by decide +kernel
theorem bT3:c4 p7 1 (.invokespecial 1) 3:=by decide +kernel
theorem bT4:c4 p7 4 (.iload 4) 2:=by decide +kernel
theorem bT5:c4 p7 6 (.ifCond .ne 24) 3:=by decide +kernel
theorem bv2:c4 p7 30 (.aload_n 1) 1:=by decide +kernel
theorem bv3:c4 p7 31 (.getstatic 86) 3:=by decide +kernel
theorem bv4:c4 p7 34 (.if_acmp .ne 312) 3:=by decide +kernel
theorem aZ7:c4 p7 346 (.aload_n 1) 1:=by decide +kernel
theorem aZ8:c4 p7 347 (.getstatic 116) 3:=by decide +kernel
theorem aZ9:c4 p7 350 (.if_acmp .ne 49) 3:=by decide +kernel
theorem ba0:c4 p7 399 (.aload_n 1) 1:=by decide +kernel
theorem ba1:c4 p7 400 (.getstatic 123) 3:=by decide +kernel
theorem ba2:c4 p7 403 (.if_acmp .ne 105) 3:=by decide +kernel
theorem ba3:c4 p7 406 (.getstatic 38) 3:=by decide +kernel
theorem ba4:c4 p7 409 (.ifCond .eq 34) 3:=by decide +kernel
theorem ba5:c4 p7 412 (.aload_n 2) 1:=by decide +kernel
theorem ba6:c4 p7 413 (.iload_n 3) 1:=by decide +kernel
theorem ba7:c4 p7 414 (.iload 4) 2:=by decide +kernel
theorem ba8:c4 p7 416 (.invokestatic 128) 3:=by decide +kernel
theorem ba9:c4 p7 419 (.ifCond .ne 24) 3:=by decide +kernel
theorem bb0:c4 p7 422 (.aload_n 0) 1:=by decide +kernel
theorem bb1:c4 p7 423 (.aload_n 2) 1:=by decide +kernel
theorem bb2:c4 p7 424 (.iload_n 3) 1:=by decide +kernel
theorem bb3:c4 p7 425 (.iload_n 3) 1:=by decide +kernel
theorem bb4:c4 p7 426 (.iload 4) 2:=by decide +kernel
theorem bb5:c4 p7 428 .iadd 1:=by decide +kernel
theorem bb6:c4 p7 429 (.invokestatic 54) 3:=by decide +kernel
theorem bb7:c4 p7 432 (.putfield 9) 3:=by decide +kernel
theorem bb8:c4 p7 435 (.aload_n 0) 1:=by decide +kernel
theorem bb9:c4 p7 436 (.iconst 0) 1:=by decide +kernel
theorem bc0:c4 p7 437 (.putfield 15) 3:=by decide +kernel
theorem bc2:c4 p7 440 (.goto 439) 3:=by decide +kernel
theorem bc3:c4 p7 879 .return_ 1:=by decide +kernel
theorem bT6 : parseMethodDescriptor "([BII)Z" = some ⟨[(.array .byte), .int, .int], some .boolean⟩ := by decide +kernel
def aY5 (Z : State) (oa : Addr) (c0 : Int32) (h0 : Heap) (n0 : Nat) (v : Option Value) (h : Heap) (L : List Loc) : Prop := v = none ∧ Fr n0 L ∧ Keep h0 h [oa] ∧ Fld Z h oa "java/lang/String" "coder" "B" (.int 0) ∧ ∃ (b : Addr) (kb : ClassId), h0.size ≤ b ∧ Fld Z h oa "java/lang/String" "value" "[B" (.ref b) ∧ Arv Z h b kb .byte (1 : Int32) [.int c0] (.int 0)
theorem cY6 (l : Launch) (Z : State) (a0 : Array Value) (w : j9 Z a0) (ws : List Jvm.Cond) (oa : Addr) (ot : Addr) (kt : ClassId) (xo xl : Int32) (vs_ : List Value) (c0 : Int32) (yo y8 z8 : Addr) (z0 pc0 : Addr) (kpc : ClassId) (pcs : List Value) (fm : Value) (al : Addr) (kal : ClassId) (als : List Value) (h0 : Heap) (n0 : Nat) (Z0 : n0 ≤ h0.size) (Ea : Exa Z h0 oa "java/lang/String") (Fv : Fld Z h0 oa "java/lang/String" "value" "[B" .null) (Fc : Fld Z h0 oa "java/lang/String" "coder" "B" (.int 0)) (g_oa : n0 ≤ oa) (ne_to : ot ≠ oa) (At : Arv Z h0 ot kt .byte xl vs_ (.int 0)) (Eb : Exa Z h0 ot "[B") (pl_ : r0 xo xl 1) (gv0 : vs_.getD (xo.toNatClampNeg + 0) (.int 0) = .int c0) (ok0 : s8 als c0) (CSy : ag3 Z yo y8 z8) (XO : Old Z n0 h0) (WW : r5 Z z0 pc0 kpc pcs fm al kal als) :
 as7 l Z h0 ca6 p7 11 none [(800, 813, 816, 202)] ws (Jvm.Room.mk 3 1 1 80) #[.ref oa, .ref yo, .ref ot, .int xo, .int 1] (aY5 Z oa c0 h0 n0) := by
 refine aX3 (Ls := #[.val (.ref oa), .val (.ref yo), .val (.ref ot), .val (.int xo), .val (.int 1), .unset, .unset, .unset, .unset, .unset, .unset]) (plainFor_of_name C4) (fun p e s m U meth c s₁ Y hh f d r O hnm hlk R X0 e0 => ?_)
 replace O : s.vm.findClass "java/lang/String" = some m.cls := O
 have N0 := Fr.nil n0
 obtain ⟨SAl, AAl, r_fm, ⟨cs, hcs, SC⟩, SFM, SZ, BZ, SPc, APc, HPc, HAL, uo, u8, i8, CS⟩ := id WW
 let L_1 : Array Slot := #[oR oa,oR yo,oR ot,oI xo,oI 1,oU,oU,oU,oU,oU,oU]
 show c5 p e U m s₁ 0 L_1 []
 refine c6 X0 f d bT2 rfl rfl ?_
 obtain ⟨T2, X2, e2, st2⟩ := initO X0 f Y O (az1 w) (U2 w) (U3 w) e0 (g := (mkF m 1 L_1 [.ref oa])) rfl (by rw [r]; rfl) rfl (hb d bT3) (by decide) (W := 0) (by show 2 * 0 + _ ≤ _; exact f7 rfl) (by decide)
 refine c8 st2 ?_
 show c5 p e U m T2 4 L_1 []
 refine f5 X2 f d bT4 rfl ?_
 refine o2 (pc := 6) (pc' := 30) X2 f d bT5 ((if0 _ _).trans (feq (by decide : ¬ ((1 : Int32) = (0 : Int32)))).2) ?_
 refine c6 X2 f d bv2 rfl rfl ?_
 obtain ⟨T3, X3, e3, st3⟩ := getS2 X2 f Y O (host := "") (Or.inl (bi4 w)) Via.refl e2 (CSy.2.2.1.ext XO.2) (g := (mkF m 31 L_1 [.ref yo])) rfl (hb d bv3)
 refine c8 st3 ?_
 show c5 p e U m T3 34 L_1 [.ref y8, .ref yo]
 refine c8 (fun t k => Jvm.RoadKit.acmp (g := (mkF m 34 L_1 [.ref y8, .ref yo])) X3 f rfl rfl rfl (pc0 := 34) (pc' := 346) (same := false) rfl (hb d bv4) rfl (decide_eq_false (fun q => CSy.2.2.2.2.2.1 (Value.ref.inj q))) (by decide) (by decide) k) ?_
 show c5 p e U m T3 346 L_1 []
 refine c6 X3 f d aZ7 rfl rfl ?_
 obtain ⟨T4, X4, e4, st4⟩ := getS2 X3 f Y O (host := "") (Or.inl (bi5 w)) Via.refl e3 (CSy.2.2.2.1.ext XO.2) (g := (mkF m 347 L_1 [.ref yo])) rfl (hb d aZ8)
 refine c8 st4 ?_
 show c5 p e U m T4 350 L_1 [.ref z8, .ref yo]
 refine c8 (fun t k => Jvm.RoadKit.acmp (g := (mkF m 350 L_1 [.ref z8, .ref yo])) X4 f rfl rfl rfl (pc0 := 350) (pc' := 399) (same := false) rfl (hb d aZ9) rfl (decide_eq_false (fun q => CSy.2.2.2.2.2.2 (Value.ref.inj q))) (by decide) (by decide) k) ?_
 show c5 p e U m T4 399 L_1 []
 refine c6 X4 f d ba0 rfl rfl ?_
 obtain ⟨T5, X5, e5, st5⟩ := getS2 X4 f Y O (host := "") (Or.inl (bi6 w)) Via.refl e4 (CSy.2.1.ext XO.2) (g := (mkF m 400 L_1 [.ref yo])) rfl (hb d ba1)
 refine c8 st5 ?_
 show c5 p e U m T5 403 L_1 [.ref yo, .ref yo]
 refine c8 (fun t k => Jvm.RoadKit.acmp (g := (mkF m 403 L_1 [.ref yo, .ref yo])) X5 f rfl rfl rfl (pc0 := 403) (pc' := 406) (same := true) rfl (hb d ba2) rfl (decide_eq_true rfl) (by decide) (by decide) k) ?_
 obtain ⟨T6, X6, e6, st6⟩ := getS2 X5 f Y O (host := "") (Or.inl (R4 w)) Via.refl e5 (SC.ext XO.2) (g := (mkF m 406 L_1 [])) rfl (hb d ba3)
 refine c8 st6 ?_
 show c5 p e U m T6 409 L_1 [.int cs]
 refine m8 X6 f d ba4 ((if0 _ _).trans (feq hcs).1) ?_
 refine c6 X6 f d ba5 rfl rfl ?_
 refine f4 X6 f d ba6 rfl ?_
 refine f5 X6 f d ba7 rfl ?_
 obtain ⟨_, T7, Lc7, X7, hQ7, st7⟩ := j8 X6 f d r Y e6 O (bi7 w) (bi8 w) (au4 w) (bi9 w) (cY1 l Z a0 w [] ot kt xo xl vs_ c0 als h0 n0 Z0 At pl_ gv0 ok0) L_1 ba8 [.ref ot, .int xo, .int 1] [] 0 0 0 (lenOf bT6 rfl)
 obtain ⟨rfl, Nq7, e7⟩ := hQ7
 have N7 := Fr.app N0 Nq7
 refine c8 st7 ?_
 show c5 p e U m T7 419 L_1 [.int 0]
 refine m8 X7 f d ba9 ((if0 _ _).trans (teq (by decide : (0 : Int32) = (0 : Int32))).2) ?_
 refine c6 X7 f d bb0 rfl rfl ?_
 refine c6 X7 f d bb1 rfl rfl ?_
 refine f4 X7 f d bb2 rfl ?_
 refine f4 X7 f d bb3 rfl ?_
 refine f5 X7 f d bb4 rfl ?_
 refine n7 X7 f d bb5 ?_
 obtain ⟨_, T8, Lc8, X8, hQ8, st8⟩ := j8 X7 f d r Y e7 O (bj3 w) (bj4 w) (t6 w) (bj5 w) (cY3 l Z a0 w [] ot kt xo xl vs_ c0 h0 n0 Z0 At Eb pl_ gv0) L_1 bb6 [.ref ot, .int xo, (.int (xo + (1 : Int32)))] [.ref oa] 1 1 1 (lenOf ak2 rfl)
 obtain ⟨d8, kd8, rfl, Nq8, K8, ge8, A8⟩ := hQ8
 have N8 := Fr.app N7 Nq8
 refine c8 st8 ?_
 have sz_d8 : h0.size ≤ d8 := c9 (Keep.refl h0 [oa]).1 ge8
 have ne_oa_d8 : oa ≠ d8 := Nat.ne_of_lt (j3 Ea.lt ge8)
 have Ea__8 := Ea.keep K8
 have Fv__8 := Fv.keep K8 nin0
 have Fc__8 := Fc.keep K8 nin0
 have KP8 := (Keep.refl h0 [oa]).trans K8 all0
 obtain ⟨T9, h9, X9, e9, W9, st9⟩ := putF X8 f Y O (host := "") (Or.inl (J3 w)) Via.refl rfl Fv__8 Ea__8 (Or.inr ⟨(H9 w), rfl, hnm⟩) (F9 w) (ty := (.array .byte)) (by decide) rfl rfl (g := (mkF m 432 L_1 [.ref d8, .ref oa])) rfl rfl (hb d bb7)
 have Fw9 := Fv__8.same W9
 have Ea__9 := Ea__8.wr W9
 have Fc__9 := Fc__8.other W9 (Or.inr (az4 w))
 have A8__9 := A8.other W9 (Ne.symm ne_oa_d8)
 have N9 := Fr.snoc X9 N8 g_oa
 have KP9 := KP8.wr W9 (Or.inl (List.mem_of_getElem? (i := 0) rfl))
 refine c8 st9 ?_
 show c5 p e U m T9 435 L_1 []
 refine c6 X9 f d bb8 rfl rfl ?_
 refine f6 X9 f d bb9 (z := (0 : Int32)) rfl ?_
 obtain ⟨T10, h10, X10, e10, W10, st10⟩ := putF X9 f Y O (host := "") (Or.inl (J2 w)) Via.refl e9 Fc__9 Ea__9 (Or.inr ⟨(I0 w), rfl, hnm⟩) (F9 w) (ty := .byte) (by decide) rfl rfl (g := (mkF m 437 L_1 [.int 0, .ref oa])) rfl rfl (hb d bc0)
 have Fw10 := Fc__9.same W10
 have Fw9__10 := Fw9.other W10 (Or.inr (az3 w))
 have A8__10 := A8__9.other W10 (Ne.symm ne_oa_d8)
 have N10 := Fr.snoc X10 N9 g_oa
 have KP10 := KP9.wr W10 (Or.inl (List.mem_of_getElem? (i := 0) rfl))
 refine c8 st10 ?_
 show c5 p e U m T10 440 L_1 []
 refine m5 (pc := 440) (pc' := 879) X10 f d bc2 ?_
 show c5 p e U m T10 879 L_1 []
 exact q0 X10 f R (hb d bc3) (by rw [e10]; exact ⟨rfl, N10, KP10, Fw10, _, _, sz_d8, Fw9__10, A8__10⟩) (by decide) (by decide)
theorem bT7:c4 F4 0 (.aload_n 0) 1:=by decide +kernel
theorem bT8:c4 F4 1 (.aload 4) 2:=by decide +kernel
theorem bT9:c4 F4 3 (.invokestatic 78) 3:=by decide +kernel
theorem bU0:c4 F4 6 (.checkcast 84) 3:=by decide +kernel
theorem bU1:c4 F4 9 (.aload_n 1) 1:=by decide +kernel
theorem bv5:c4 F4 10 (.iload_n 2) 1:=by decide +kernel
theorem bv6:c4 F4 11 (.iload_n 3) 1:=by decide +kernel
theorem bv7:c4 F4 12 (.aload_n 1) 1:=by decide +kernel
theorem bv8:c4 F4 13 .arraylength 1:=by decide +kernel
theorem bv9:c4 F4 14 (.invokestatic 34) 3:=by decide +kernel
theorem bw0:c4 F4 17 (.iload_n 3) 1:=by decide +kernel
theorem bw1:c4 F4 18 (.invokespecial 75) 3:=by decide +kernel
theorem bw2:c4 F4 21 .return_ 1:=by decide +kernel
theorem bU2 : parseMethodDescriptor "(Ljava/lang/Object;)Ljava/lang/Object;" = some ⟨[(.object "java/lang/Object")], some (.object "java/lang/Object")⟩ := by decide +kernel
theorem bU3 : parseMethodDescriptor "(III)I" = some ⟨[.int, .int, .int], some .int⟩ := by decide +kernel
theorem bU4 : parseMethodDescriptor "(Ljava/nio/charset/Charset;[BII)V" = some ⟨[(.object "java/nio/charset/Charset"), (.array .byte), .int, .int], none⟩ := by decide +kernel
theorem cY7 (l : Launch) (Z : State) (a0 : Array Value) (w : j9 Z a0) (ws : List Jvm.Cond) (oa : Addr) (ot : Addr) (kt : ClassId) (xo xl : Int32) (vs_ : List Value) (c0 : Int32) (yo y8 z8 : Addr) (z0 pc0 : Addr) (kpc : ClassId) (pcs : List Value) (fm : Value) (al : Addr) (kal : ClassId) (als : List Value) (h0 : Heap) (n0 : Nat) (Z0 : n0 ≤ h0.size) (Ea : Exa Z h0 oa "java/lang/String") (Fv : Fld Z h0 oa "java/lang/String" "value" "[B" .null) (Fc : Fld Z h0 oa "java/lang/String" "coder" "B" (.int 0)) (g_oa : n0 ≤ oa) (ne_to : ot ≠ oa) (At : Arv Z h0 ot kt .byte xl vs_ (.int 0)) (Eb : Exa Z h0 ot "[B") (pl_ : r0 xo xl 1) (gv0 : vs_.getD (xo.toNatClampNeg + 0) (.int 0) = .int c0) (ok0 : s8 als c0) (CSy : ag3 Z yo y8 z8) (XO : Old Z n0 h0) (WW : r5 Z z0 pc0 kpc pcs fm al kal als) :
 l0 l Z h0 ca7 F4 5 none ws (Jvm.Room.mk 4 1 1 108) #[.ref oa, .ref ot, .int xo, .int 1, .ref yo] (aY5 Z oa c0 h0 n0) := by
 refine l7 (Ls := #[.val (.ref oa), .val (.ref ot), .val (.int xo), .val (.int 1), .val (.ref yo)]) (plainFor_of_name C4) (fun p e s m U meth c s₁ Y hh f d r O hnm hlk R X0 e0 => ?_)
 replace O : s.vm.findClass "java/lang/String" = some m.cls := O
 have N0 := Fr.nil n0
 obtain ⟨SAl, AAl, r_fm, ⟨cs, hcs, SC⟩, SFM, SZ, BZ, SPc, APc, HPc, HAL, uo, u8, i8, CS⟩ := id WW
 have hl0 : ¬ xl < 0 := by obtain ⟨_, _, _, _, q, _⟩ := At; exact q
 let L_1 : Array Slot := #[oR oa,oR ot,oI xo,oI 1,oR yo]
 show c5 p e U m s₁ 0 L_1 []
 refine c6 X0 f d bT7 rfl rfl ?_
 refine j0 X0 f d bT8 rfl rfl ?_
 obtain ⟨_, T1, Lc1, X1, hQ1, st1⟩ := j8 X0 f d r Y e0 O (bh0 w) (bh1 w) (an0 w) (bh2 w) (cc3 l Z a0 w [] yo h0 n0 Z0) L_1 bT9 [.ref yo] [.ref oa] 1 0 0 (lenOf bU2 rfl)
 obtain ⟨rfl, Nq1, e1⟩ := hQ1
 have N1 := Fr.app N0 Nq1
 refine c8 st1 ?_
 obtain ⟨T2, X2, e2, st2⟩ := castY X1 f Y O (bh3 w) e1 (Ins.of_exa (CSy.2.2.2.2.1.ext XO.2) (bh4 w)) (g := (mkF m 6 L_1 [.ref yo, .ref oa])) rfl rfl (hb d bU0)
 refine c8 st2 ?_
 show c5 p e U m T2 9 L_1 [.ref yo, .ref oa]
 refine c6 X2 f d bU1 rfl rfl ?_
 refine f4 X2 f d bv5 rfl ?_
 refine f4 X2 f d bv6 rfl ?_
 refine c6 X2 f d bv7 rfl rfl ?_
 refine m7 X2 f d Y e2 At bv8 ?_
 obtain ⟨_, T4, Lc4, X4, hQ4, st4⟩ := j8 X2 f d r Y e2 O (bh5 w) (bh6 w) (o6 w) (bh7 w) (cY5 l Z a0 w [] xo xl z0 pc0 kpc pcs fm al kal als h0 n0 Z0 pl_ hl0 XO WW) L_1 bv9 [.int xo, .int 1, .int xl] [.ref ot, .ref yo, .ref oa] 3 0 0 (lenOf bU3 rfl)
 obtain ⟨rfl, Nq4, e4⟩ := hQ4
 have N4 := Fr.app N1 Nq4
 refine c8 st4 ?_
 show c5 p e U m T4 17 L_1 [.int xo, .ref ot, .ref yo, .ref oa]
 refine f4 X4 f d bw0 rfl ?_
 obtain ⟨_, T5, Lc5, X5, hQ5, st5⟩ := aZ0 X4 f d r Y e4 O (bi1 w) (bi2 w) (o6 w) (bi3 w) (o := oa) (cY6 l Z a0 w [] oa ot kt xo xl vs_ c0 yo y8 z8 z0 pc0 kpc pcs fm al kal als h0 n0 Z0 Ea Fv Fc g_oa ne_to At Eb pl_ gv0 ok0 CSy XO WW) L_1 bw1 [.ref yo, .ref ot, .int xo, .int 1] [] 0 1 1 (lenOf bU4 rfl)
 obtain ⟨rfl, Nq5, K5, Fc5, d5, kd5, ge5, Fv5, A5⟩ := hQ5
 have N5 := Fr.app N4 Nq5
 refine c8 st5 ?_
 have sz_d5 : h0.size ≤ d5 := c9 (Keep.refl h0 [oa]).1 ge5
 have KP5 := (Keep.refl h0 [oa]).trans K5 (allS (Or.inl (List.mem_of_getElem? (i := 0) rfl)) all0)
 show c5 p e U m T5 21 L_1 []
 exact q0 X5 f R (hb d bw2) (⟨rfl, N5, KP5, Fc5, _, _, sz_d5, Fv5, A5⟩) (by decide) (by decide)
theorem cY8 (l : Launch) (Z : State) (a0 : Array Value) (w : j9 Z a0) (ws : List Jvm.Cond) (ot : Addr) (kt : ClassId) (xo xl : Int32) (vs_ : List Value) (c0 c1 : Int32) (als : List Value) (h0 : Heap) (n0 : Nat) (Z0 : n0 ≤ h0.size) (At : Arv Z h0 ot kt .byte xl vs_ (.int 0)) (pl_ : r0 xo xl 2) (gv0 : vs_.getD (xo.toNatClampNeg + 0) (.int 0) = .int c0) (gv1 : vs_.getD (xo.toNatClampNeg + 1) (.int 0) = .int c1) (ok0 : s8 als c0) (ok1 : s8 als c1) :
 l0 l Z h0 bZ5 x6 5 (some .int) ws (Jvm.Room.mk 0 0 0 0) #[.ref ot, .int xo, .int 2] (r4 (2 : Int32) h0 n0) := by
 refine l7 (Ls := #[.val (.ref ot), .val (.int xo), .val (.int 2), .unset, .unset]) (plainFor_of_name az6) (fun p e s m U meth c s₁ Y hh f d r O hnm hlk R X0 e0 => ?_)
 replace O : s.vm.findClass "java/lang/StringCoding" = some m.cls := O
 have N0 := Fr.nil n0
 let L_1 : Array Slot := #[oR ot,oI xo,oI 2,oU,oU]
 show c5 p e U m s₁ 0 L_1 []
 refine f4 X0 f d bO8 rfl ?_
 refine f4 X0 f d bO9 rfl ?_
 refine n7 X0 f d bP0 ?_
 show c5 p e U m s₁ 3 L_1 [(.int (xo + (2 : Int32)))]
 let L_2 : Array Slot := #[oR ot,oI xo,oI 2,(oI (xo + (2 : Int32))),oU]
 refine p8 X0 f d bP1 (l' := L_2) rfl ?_
 refine f4 X0 f d bP2 rfl ?_
 let L_3 : Array Slot := #[oR ot,oI xo,oI 2,(oI (xo + (2 : Int32))),oI xo]
 refine o4 X0 f d bP3 (l' := L_3) rfl ?_
 refine f5 X0 f d ao1 rfl ?_
 refine f4 X0 f d ao2 rfl ?_
 refine m4 X0 f d am5 (tlt (aX9 pl_ 2 (by decide) (by decide) (by decide) : xo < (xo + (2 : Int32)))).2.1 ?_
 refine c6 X0 f d aK1 rfl rfl ?_
 refine f5 X0 f d aK2 rfl ?_
 refine P5 X0 f d Y e0 At (v := (.int c0)) (aX8 pl_ (by decide)) gv0 aK3 ?_
 refine o2 (pc := 17) (pc' := 25) X0 f d aK4 ((if0 _ _).trans (flt ok0.1).2.1) ?_
 show c5 p e U m s₁ 25 L_3 []
 let L_4 : Array Slot := #[oR ot,oI xo,oI 2,(oI (xo + (2 : Int32))),(oI (xo + (1 : Int32)))]
 refine c8 (fun t k => XS.iinc X0.here f rfl (hb d aK5) rfl (l' := L_4) rfl k) ?_
 show c5 p e U m s₁ 28 L_4 []
 refine m5 (pc := 28) (pc' := 7) X0 f d aK6 ?_
 refine f5 X0 f d ao1 rfl ?_
 refine f4 X0 f d ao2 rfl ?_
 refine m4 X0 f d am5 (tlt ((cg4 pl_ 1 2 (by decide) (by decide) (by decide)).mpr (by decide) : (xo + (1 : Int32)) < (xo + (2 : Int32)))).2.1 ?_
 refine c6 X0 f d aK1 rfl rfl ?_
 refine f5 X0 f d aK2 rfl ?_
 refine P5 X0 f d Y e0 At (v := (.int c1)) (ap4 pl_ 1 (by decide) (by decide)) (by show vs_.getD (xo + Int32.ofNat 1).toNatClampNeg _ = _; rw [ap3 pl_ 1 (by decide) (by decide)]; exact gv1) aK3 ?_
 refine o2 (pc := 17) (pc' := 25) X0 f d aK4 ((if0 _ _).trans (flt ok1.1).2.1) ?_
 show c5 p e U m s₁ 25 L_4 []
 let L_5 : Array Slot := #[oR ot,oI xo,oI 2,(oI (xo + (2 : Int32))),(oI ((xo + (1 : Int32)) + (1 : Int32)))]
 refine c8 (fun t k => XS.iinc X0.here f rfl (hb d aK5) rfl (l' := L_5) rfl k) ?_
 show c5 p e U m s₁ 28 L_5 []
 refine m5 (pc := 28) (pc' := 7) X0 f d aK6 ?_
 refine f5 X0 f d ao1 rfl ?_
 refine f4 X0 f d ao2 rfl ?_
 refine j5 (pc := 10) (pc' := 31) X0 f d am5 (flt (by rw [Int32.add_assoc]; exact aY0 (xo + Int32.ofNat 2) : ¬ (((xo + (1 : Int32)) + (1 : Int32)) < (xo + (2 : Int32))))).2.1 ?_
 refine f4 X0 f d bs3 rfl ?_
 show c5 p e U m s₁ 32 L_5 [.int 2]
 exact r8 X0 f R (hb d bs4) (by rw [e0]; exact ⟨rfl, N0, rfl⟩) (by decide) (by decide)
theorem cY9 (l : Launch) (Z : State) (a0 : Array Value) (w : j9 Z a0) (ws : List Jvm.Cond) (ot : Addr) (kt : ClassId) (xo xl : Int32) (vs_ : List Value) (c0 c1 : Int32) (als : List Value) (h0 : Heap) (n0 : Nat) (Z0 : n0 ≤ h0.size) (At : Arv Z h0 ot kt .byte xl vs_ (.int 0)) (pl_ : r0 xo xl 2) (gv0 : vs_.getD (xo.toNatClampNeg + 0) (.int 0) = .int c0) (gv1 : vs_.getD (xo.toNatClampNeg + 1) (.int 0) = .int c1) (ok0 : s8 als c0) (ok1 : s8 als c1) :
 l0 l Z h0 bZ6 M1 3 (some .boolean) ws (Jvm.Room.mk 1 0 0 16) #[.ref ot, .int xo, .int 2] (r4 (0 : Int32) h0 n0) := by
 refine l7 (Ls := #[.val (.ref ot), .val (.int xo), .val (.int 2)]) (plainFor_of_name az6) (fun p e s m U meth c s₁ Y hh f d r O hnm hlk R X0 e0 => ?_)
 replace O : s.vm.findClass "java/lang/StringCoding" = some m.cls := O
 have N0 := Fr.nil n0
 let L_1 : Array Slot := #[oR ot,oI xo,oI 2]
 show c5 p e U m s₁ 0 L_1 []
 refine c6 X0 f d bP4 rfl rfl ?_
 refine f4 X0 f d bP5 rfl ?_
 refine f4 X0 f d bP6 rfl ?_
 obtain ⟨_, T1, Lc1, X1, hQ1, st1⟩ := j8 X0 f d r Y e0 O (bj0 w) (bj1 w) (au4 w) (bj2 w) (cY8 l Z a0 w [] ot kt xo xl vs_ c0 c1 als h0 n0 Z0 At pl_ gv0 gv1 ok0 ok1) L_1 bP7 [.ref ot, .int xo, .int 2] [] 0 0 0 (lenOf bQ0 rfl)
 obtain ⟨rfl, Nq1, e1⟩ := hQ1
 have N1 := Fr.app N0 Nq1
 refine c8 st1 ?_
 show c5 p e U m T1 6 L_1 [.int 2]
 refine f4 X1 f d bP8 rfl ?_
 refine j5 (pc := 7) (pc' := 14) X1 f d bP9 (teq (by decide : (2 : Int32) = (2 : Int32))).1 ?_
 refine f6 X1 f d bs5 (z := (0 : Int32)) rfl ?_
 show c5 p e U m T1 15 L_1 [.int 0]
 exact t4 X1 f (t := .boolean) R (by simp) (hb d bs6) (by rw [e1]; exact ⟨rfl, N1, rfl⟩) (by decide) (by decide)
theorem cZ0 (l : Launch) (Z : State) (a0 : Array Value) (w : j9 Z a0) (ws : List Jvm.Cond) (xo xl : Int32) (h0 : Heap) (n0 : Nat) (Z0 : n0 ≤ h0.size) (pl_ : r0 xo xl 2) :
 l0 l Z h0 bZ7 ak8 2 none ws (Jvm.Room.mk 0 0 0 0) #[.int xo, (.int (xo + (2 : Int32)))] (U1 h0 n0) := by
 refine l7 (Ls := #[.val (.int xo), .val (.int (xo + (2 : Int32)))]) (plainFor_of_name G1) (fun p e s m U meth c s₁ Y hh f d r O hnm hlk R X0 e0 => ?_)
 replace O : s.vm.findClass "java/util/Arrays" = some m.cls := O
 have N0 := Fr.nil n0
 let L_1 : Array Slot := #[oI xo,(oI (xo + (2 : Int32)))]
 show c5 p e U m s₁ 0 L_1 []
 refine f4 X0 f d bQ1 rfl ?_
 refine f4 X0 f d bQ2 rfl ?_
 refine j5 (pc := 2) (pc' := 37) X0 f d bQ3 (flt (aZ2 pl_ (by decide) : ¬ ((xo + (2 : Int32)) < xo))).2.1 ?_
 show c5 p e U m s₁ 37 L_1 []
 exact q0 X0 f R (hb d bs7) (by rw [e0]; exact ⟨rfl, N0, rfl⟩) (by decide) (by decide)
def aY6 (Z : State) (c0 c1 : Int32) (h0 : Heap) (n0 : Nat) (v : Option Value) (h : Heap) (L : List Loc) : Prop := ∃ (b : Addr) (kb : ClassId), v = some (.ref b) ∧ Fr n0 L ∧ Keep h0 h [] ∧ h0.size ≤ b ∧ Arv Z h b kb .byte (2 : Int32) [.int c0, .int c1] (.int 0)
theorem bU5 (l : Launch) (Z : State) (a0 : Array Value) (w : j9 Z a0) (ws : List Jvm.Cond) (ot : Addr) (kt : ClassId) (xo xl : Int32) (vs_ : List Value) (c0 c1 : Int32) (h0 : Heap) (n0 : Nat) (Z0 : n0 ≤ h0.size) (At : Arv Z h0 ot kt .byte xl vs_ (.int 0)) (pl_ : r0 xo xl 2) (gv0 : vs_.getD (xo.toNatClampNeg + 0) (.int 0) = .int c0) (gv1 : vs_.getD (xo.toNatClampNeg + 1) (.int 0) = .int c1) :
 l0 l Z h0 bZ8 t2 5 (some (.array .byte)) ws (Jvm.Room.mk 1 1 2 40) #[.ref ot, .int xo, (.int (xo + (2 : Int32)))] (aY6 Z c0 c1 h0 n0) := by
 refine l7 (Ls := #[.val (.ref ot), .val (.int xo), .val (.int (xo + (2 : Int32))), .unset, .unset]) (plainFor_of_name G1) (fun p e s m U meth c s₁ Y hh f d r O hnm hlk R X0 e0 => ?_)
 replace O : s.vm.findClass "java/util/Arrays" = some m.cls := O
 have N0 := Fr.nil n0
 let L_1 : Array Slot := #[oR ot,oI xo,(oI (xo + (2 : Int32))),oU,oU]
 show c5 p e U m s₁ 0 L_1 []
 refine f4 X0 f d bQ4 rfl ?_
 refine f4 X0 f d bQ5 rfl ?_
 obtain ⟨_, T1, Lc1, X1, hQ1, st1⟩ := j8 X0 f d r Y e0 O (bj6 w) (bj7 w) (t6 w) (bj8 w) (cZ0 l Z a0 w [] xo xl h0 n0 Z0 pl_) L_1 bQ6 [.int xo, (.int (xo + (2 : Int32)))] [] 0 0 0 (lenOf aW5 rfl)
 obtain ⟨rfl, Nq1, e1⟩ := hQ1
 have N1 := Fr.app N0 Nq1
 refine c8 st1 ?_
 show c5 p e U m T1 5 L_1 []
 refine f4 X1 f d bQ7 rfl ?_
 refine f4 X1 f d bQ8 rfl ?_
 refine x7 X1 f d bQ9 ?_
 show c5 p e U m T1 8 L_1 [(.int ((xo + (2 : Int32)) - xo))]
 rw [show ((xo + (2 : Int32)) - xo) = (2 : Int32) from aZ1 pl_ 2 (by decide) (by decide)]
 show c5 p e U m T1 8 L_1 [.int 2]
 let L_2 : Array Slot := #[oR ot,oI xo,(oI (xo + (2 : Int32))),oI 2,oU]
 refine p8 X1 f d bR0 (l' := L_2) rfl ?_
 refine f4 X1 f d bR1 rfl ?_
 obtain ⟨T2, h2, k2, X2, e2, E2, A2, Ey2, st2⟩ := newPE (aty := .byte) X1 f Y (Q8 w) e1 (g := (mkF m 10 L_2 [.int 2])) rfl (hb d bs8) rfl (by decide) (cap := 2) (by decide) (by decide) (by decide) (by decide) (ad := "[B") (by decide)
 obtain ⟨b2, g2⟩ : ∃ z, z = h0.size := ⟨_, rfl⟩
 rw [← g2] at A2 Ey2 st2
 have g_b2 : n0 ≤ b2 := c9 Z0 (f7 g2.symm)
 have sz_b2 : h0.size ≤ b2 := c9 (Keep.refl h0 []).1 (f7 g2.symm)
 have At__2 := At.ext E2
 have sz2 := c9 Z0 E2.1
 have KP2 := (Keep.refl h0 []).ext E2
 have V2 : Arv Z h2 b2 k2 .byte (2 : Int32) [.int 0, .int 0] (.int 0) := (Arv.new A2 (by decide)).pad (pad_rep [] (.int 0) 2)
 refine c8 st2 ?_
 show c5 p e U m T2 12 L_2 [.ref b2]
 let L_3 : Array Slot := #[oR ot,oI xo,(oI (xo + (2 : Int32))),oI 2,oR b2]
 refine t5 X2 f d bs9 rfl (l' := L_3) rfl ?_
 refine c6 X2 f d bt0 rfl rfl ?_
 refine f4 X2 f d bt1 rfl ?_
 refine j0 X2 f d bt2 rfl rfl ?_
 refine f6 X2 f d bt3 (z := (0 : Int32)) rfl ?_
 refine c6 X2 f d bt4 rfl rfl ?_
 refine m7 X2 f d Y e2 At__2 bt5 ?_
 refine f4 X2 f d bt6 rfl ?_
 refine x7 X2 f d bt7 ?_
 show c5 p e U m T2 23 L_3 [(.int (xl - xo)), .int 0, .ref b2, .int xo, .ref ot]
 refine f4 X2 f d bt8 rfl ?_
 obtain ⟨_, T4, Lc4, X4, hQ4, st4⟩ := j8 X2 f d r Y e2 O (I8 w) (I9 w) (s6 w) (J0 w) (bK0 l Z a0 w [] (xl - xo) (2 : Int32) h2 n0 sz2 (ap5 pl_ (by decide))) L_3 bt9 [(.int (xl - xo)), .int 2] [.int 0, .ref b2, .int xo, .ref ot] 4 0 0 (lenOf s9 rfl)
 obtain ⟨rfl, Nq4, e4⟩ := hQ4
 have N4 := Fr.app N1 Nq4
 refine c8 st4 ?_
 obtain ⟨T5, h5, L5, X5, e5, N5, K5, A5, st5⟩ := cpA X4 f Y O (J1 w) (v4 w) (v2 w) (v3 w) e4 At__2 V2 (us := [.int c0, .int c1]) (Or.inl ⟨rfl, rfl⟩) (ap2 pl_) (by decide) (by decide) (by exact aZ3 (k := 2) pl_) (by decide) (by show _ = [vs_.getD (xo.toNatClampNeg + 0) _, vs_.getD (xo.toNatClampNeg + 1) _]; rw [gv0, gv1]) (by decide) N4 g_b2 (g := (mkF m 27 L_3 [.int 2, .int 0, .ref b2, .int xo, .ref ot])) rfl (by rw [r]; rfl) rfl (hb d bu0) (by decide) (W := 0) (by show 2 * 0 + _ ≤ _; exact f7 rfl) (by decide)
 have KP5 := KP2.trans K5 (allS (Or.inr sz_b2) all0)
 refine c8 st5 ?_
 show c5 p e U m T5 30 L_3 []
 refine j0 X5 f d bu1 rfl rfl ?_
 show c5 p e U m T5 32 L_3 [.ref b2]
 exact p9 X5 f R rfl rfl (hb d bu2) (by rw [e5]; exact ⟨_, _, rfl, N5, KP5, sz_b2, A5⟩) (by decide) (by decide)
theorem cZ1 (l : Launch) (Z : State) (a0 : Array Value) (w : j9 Z a0) (ws : List Jvm.Cond) (ot : Addr) (kt : ClassId) (xo xl : Int32) (vs_ : List Value) (c0 c1 : Int32) (h0 : Heap) (n0 : Nat) (Z0 : n0 ≤ h0.size) (At : Arv Z h0 ot kt .byte xl vs_ (.int 0)) (Eb : Exa Z h0 ot "[B") (pl_ : r0 xo xl 2) (gv0 : vs_.getD (xo.toNatClampNeg + 0) (.int 0) = .int c0) (gv1 : vs_.getD (xo.toNatClampNeg + 1) (.int 0) = .int c1) :
 l0 l Z h0 bZ9 B5 3 (some (.array .byte)) ws (Jvm.Room.mk 2 1 2 60) #[.ref ot, .int xo, (.int (xo + (2 : Int32)))] (aY6 Z c0 c1 h0 n0) := by
 refine l7 (Ls := #[.val (.ref ot), .val (.int xo), .val (.int (xo + (2 : Int32)))]) (plainFor_of_name G1) (fun p e s m U meth c s₁ Y hh f d r O hnm hlk R X0 e0 => ?_)
 replace O : s.vm.findClass "java/util/Arrays" = some m.cls := O
 have N0 := Fr.nil n0
 let L_1 : Array Slot := #[oR ot,oI xo,(oI (xo + (2 : Int32)))]
 show c5 p e U m s₁ 0 L_1 []
 refine f4 X0 f d bR3 rfl ?_
 by_cases hc1 : xo = (0 : Int32)
 · refine m8 X0 f d az7 ((if0 _ _).trans (teq hc1).2) ?_
   refine f4 X0 f d bR4 rfl ?_
   refine c6 X0 f d bR5 rfl rfl ?_
   refine m7 X0 f d Y e0 At bR6 ?_
   by_cases hc7 : (xo + (2 : Int32)) = xl
   · refine j5 (pc := 7) (pc' := 17) X0 f d az8 (teq hc7).1 ?_
     refine c6 X0 f d bu3 rfl rfl ?_
     show c5 p e U m s₁ 18 L_1 [.ref ot]
     have hxl : xl = (2 : Int32) := by rw [← hc7, hc1]; decide
     obtain ⟨T2, h2, X2, e2, E2, A2, Ey2, st2⟩ := cloneH X0 f Y O (bm0 w) (bm1 w) (bm4 w) (bm2 w) (bm3 w) (bm5 w) e0 (Arv.arh At) Eb (g := (mkF m 18 L_1 [.ref ot])) rfl (by rw [r]; rfl) rfl (hb d bu4) (by decide) (W := 0) (by show 2 * 0 + _ ≤ _; exact f7 rfl) (by decide) (cap := 2) (by rw [hxl]; decide) (by decide) (by decide)
     obtain ⟨b2, g2⟩ : ∃ z, z = h0.size := ⟨_, rfl⟩
     rw [← g2] at A2 Ey2 st2
     have sz_b2 : h0.size ≤ b2 := c9 (Keep.refl h0 []).1 (f7 g2.symm)
     have V2 : Arv Z h2 b2 kt .byte (2 : Int32) [.int c0, .int c1] (.int 0) := aY3 (vs := vs_) (hxl ▸ A2) (fun i hi => by
      have z0 : xo.toNatClampNeg = 0 := by rw [hc1]; decide
      match i, hi with
      | 0, _ => have q := gv0; rw [z0, Nat.zero_add] at q; exact q.symm
      | 1, _ => have q := gv1; rw [z0, Nat.zero_add] at q; exact q.symm
      | n_ + 2, hi => exact absurd hi (by show ¬ (n_ + 2 < 2); omega))
     have KP2 := (Keep.refl h0 []).ext E2
     refine c8 st2 ?_
     obtain ⟨T3, X3, e3, st3⟩ := castY X2 f Y O (bm6 w) e2 (Ins.self Ey2) (g := (mkF m 21 L_1 [.ref b2])) rfl rfl (hb d bu5)
     refine c8 st3 ?_
     show c5 p e U m T3 24 L_1 [.ref b2]
     exact p9 X3 f R rfl rfl (hb d bu6) (by rw [e3]; exact ⟨_, _, rfl, N0, KP2, sz_b2, V2⟩) (by decide) (by decide)
   · refine m4 X0 f d az8 (feq hc7).1 ?_
     refine c6 X0 f d av1 rfl rfl ?_
     refine f4 X0 f d av2 rfl ?_
     refine f4 X0 f d av3 rfl ?_
     obtain ⟨_, T4, Lc4, X4, hQ4, st4⟩ := j8 X0 f d r Y e0 O (au5 w) (au6 w) (t6 w) (au7 w) (bU5 l Z a0 w [] ot kt xo xl vs_ c0 c1 h0 n0 Z0 At pl_ gv0 gv1) L_1 av4 [.ref ot, .int xo, (.int (xo + (2 : Int32)))] [] 0 1 2 (lenOf ak2 rfl)
     obtain ⟨d4, kd4, rfl, Nq4, K4, ge4, A4⟩ := hQ4
     have N4 := Fr.app N0 Nq4
     refine c8 st4 ?_
     have sz_d4 : h0.size ≤ d4 := c9 (Keep.refl h0 []).1 ge4
     have KP4 := (Keep.refl h0 []).trans K4 all0
     show c5 p e U m T4 16 L_1 [.ref d4]
     exact p9 X4 f R rfl rfl (hb d av5) (⟨_, _, rfl, N4, KP4, sz_d4, A4⟩) (by decide) (by decide)
 · refine o2 (pc := 1) (pc' := 10) X0 f d az7 ((if0 _ _).trans (feq hc1).2) ?_
   refine c6 X0 f d av1 rfl rfl ?_
   refine f4 X0 f d av2 rfl ?_
   refine f4 X0 f d av3 rfl ?_
   obtain ⟨_, T5, Lc5, X5, hQ5, st5⟩ := j8 X0 f d r Y e0 O (au5 w) (au6 w) (t6 w) (au7 w) (bU5 l Z a0 w [] ot kt xo xl vs_ c0 c1 h0 n0 Z0 At pl_ gv0 gv1) L_1 av4 [.ref ot, .int xo, (.int (xo + (2 : Int32)))] [] 0 1 2 (lenOf ak2 rfl)
   obtain ⟨d5, kd5, rfl, Nq5, K5, ge5, A5⟩ := hQ5
   have N5 := Fr.app N0 Nq5
   refine c8 st5 ?_
   have sz_d5 : h0.size ≤ d5 := c9 (Keep.refl h0 []).1 ge5
   have KP5 := (Keep.refl h0 []).trans K5 all0
   show c5 p e U m T5 16 L_1 [.ref d5]
   exact p9 X5 f R rfl rfl (hb d av5) (⟨_, _, rfl, N5, KP5, sz_d5, A5⟩) (by decide) (by decide)
theorem cZ2 (l : Launch) (Z : State) (a0 : Array Value) (w : j9 Z a0) (ws : List Jvm.Cond) (xo xl : Int32) (fm : Value) (h0 : Heap) (n0 : Nat) (Z0 : n0 ≤ h0.size) (r_fm : fm.isRef = true) (pl_ : r0 xo xl 2) (hl0 : ¬ xl < 0) :
 l0 l Z h0 ca4 F3 4 (some .int) ws (Jvm.Room.mk 0 0 0 0) #[.int xo, .int 2, .int xl, fm] (r4 xo h0 n0) := by
 refine ao7 (Ls := #[.val (.int xo), .val (.int 2), .val (.int xl), .val fm]) (plainFor_of_name aW3) (fun m => by simp [entryFrame, mkF, argsToLocals, aC4, aC5, aC6, aC7, aC3 r_fm]) (fun p e s m U meth c s₁ Y hh f d r O hnm hlk R X0 e0 => ?_)
 replace O : s.vm.findClass "jdk/internal/util/Preconditions" = some m.cls := O
 have N0 := Fr.nil n0
 let L_1 : Array Slot := #[oI xo,oI 2,oI xl,.val fm]
 show c5 p e U m s₁ 0 L_1 []
 refine f4 X0 f d bR7 rfl ?_
 refine f4 X0 f d bR8 rfl ?_
 refine ay8 X0 f d bR9 ?_
 show c5 p e U m s₁ 3 L_1 [(.int (xl ||| xo))]
 refine f4 X0 f d bS0 rfl ?_
 refine ay8 X0 f d bS1 ?_
 show c5 p e U m s₁ 5 L_1 [(.int ((xl ||| xo) ||| (2 : Int32)))]
 refine m8 X0 f d bS2 ((if0 _ _).trans (flt (ap6 (ap6 hl0 (ap2 pl_)) (by decide) : ¬ (((xl ||| xo) ||| (2 : Int32)) < (0 : Int32)))).1) ?_
 refine f4 X0 f d bS3 rfl ?_
 refine f4 X0 f d bS4 rfl ?_
 refine f4 X0 f d bu7 rfl ?_
 refine x7 X0 f d bu8 ?_
 show c5 p e U m s₁ 12 L_1 [(.int (xl - xo)), .int 2]
 refine j5 (pc := 12) (pc' := 23) X0 f d bu9 (flt (ap5 pl_ (by decide) : ¬ ((xl - xo) < (2 : Int32)))).2.2.2 ?_
 refine f4 X0 f d bv0 rfl ?_
 show c5 p e U m s₁ 24 L_1 [.int xo]
 exact r8 X0 f R (hb d bv1) (by rw [e0]; exact ⟨rfl, N0, rfl⟩) (by decide) (by decide)
theorem cZ3 (l : Launch) (Z : State) (a0 : Array Value) (w : j9 Z a0) (ws : List Jvm.Cond) (xo xl : Int32) (z0 pc0 : Addr) (kpc : ClassId) (pcs : List Value) (fm : Value) (al : Addr) (kal : ClassId) (als : List Value) (h0 : Heap) (n0 : Nat) (Z0 : n0 ≤ h0.size) (pl_ : r0 xo xl 2) (hl0 : ¬ xl < 0) (XO : Old Z n0 h0) (WW : r5 Z z0 pc0 kpc pcs fm al kal als) :
 l0 l Z h0 ca5 R7 3 (some .int) ws (Jvm.Room.mk 1 0 0 16) #[.int xo, .int 2, .int xl] (r4 xo h0 n0) := by
 refine l7 (Ls := #[.val (.int xo), .val (.int 2), .val (.int xl)]) (plainFor_of_name C4) (fun p e s m U meth c s₁ Y hh f d r O hnm hlk R X0 e0 => ?_)
 replace O : s.vm.findClass "java/lang/String" = some m.cls := O
 have N0 := Fr.nil n0
 obtain ⟨SAl, AAl, r_fm, ⟨cs, hcs, SC⟩, SFM, SZ, BZ, SPc, APc, HPc, HAL, uo, u8, i8, CS⟩ := id WW
 let L_1 : Array Slot := #[oI xo,oI 2,oI xl]
 show c5 p e U m s₁ 0 L_1 []
 refine f4 X0 f d bS5 rfl ?_
 refine f4 X0 f d bS6 rfl ?_
 refine f4 X0 f d bS7 rfl ?_
 obtain ⟨T1, X1, e1, st1⟩ := getS2 X0 f Y O (host := "") (Or.inl (aL8 w)) Via.refl e0 (SFM.ext XO.2) (g := (mkF m 3 L_1 [.int xl, .int 2, .int xo])) rfl (hb d bS8)
 refine c8 st1 ?_
 obtain ⟨_, T2, Lc2, X2, hQ2, st2⟩ := j8 X1 f d r Y e1 O (bh8 w) (bh9 w) (aL9 w) (bi0 w) (cZ2 l Z a0 w [] xo xl fm h0 n0 Z0 r_fm pl_ hl0) L_1 bS9 [.int xo, .int 2, .int xl, fm] [] 0 0 0 (lenOf bT1 rfl)
 obtain ⟨rfl, Nq2, e2⟩ := hQ2
 have N2 := Fr.app N0 Nq2
 refine c8 st2 ?_
 show c5 p e U m T2 9 L_1 [.int xo]
 exact r8 X2 f R (hb d bT0) (by rw [e2]; exact ⟨rfl, N2, rfl⟩) (by decide) (by decide)
def aY7 (Z : State) (oa : Addr) (c0 c1 : Int32) (h0 : Heap) (n0 : Nat) (v : Option Value) (h : Heap) (L : List Loc) : Prop := v = none ∧ Fr n0 L ∧ Keep h0 h [oa] ∧ Fld Z h oa "java/lang/String" "coder" "B" (.int 0) ∧ ∃ (b : Addr) (kb : ClassId), h0.size ≤ b ∧ Fld Z h oa "java/lang/String" "value" "[B" (.ref b) ∧ Arv Z h b kb .byte (2 : Int32) [.int c0, .int c1] (.int 0)
theorem cZ4 (l : Launch) (Z : State) (a0 : Array Value) (w : j9 Z a0) (ws : List Jvm.Cond) (oa : Addr) (ot : Addr) (kt : ClassId) (xo xl : Int32) (vs_ : List Value) (c0 c1 : Int32) (yo y8 z8 : Addr) (z0 pc0 : Addr) (kpc : ClassId) (pcs : List Value) (fm : Value) (al : Addr) (kal : ClassId) (als : List Value) (h0 : Heap) (n0 : Nat) (Z0 : n0 ≤ h0.size) (Ea : Exa Z h0 oa "java/lang/String") (Fv : Fld Z h0 oa "java/lang/String" "value" "[B" .null) (Fc : Fld Z h0 oa "java/lang/String" "coder" "B" (.int 0)) (g_oa : n0 ≤ oa) (ne_to : ot ≠ oa) (At : Arv Z h0 ot kt .byte xl vs_ (.int 0)) (Eb : Exa Z h0 ot "[B") (pl_ : r0 xo xl 2) (gv0 : vs_.getD (xo.toNatClampNeg + 0) (.int 0) = .int c0) (gv1 : vs_.getD (xo.toNatClampNeg + 1) (.int 0) = .int c1) (ok0 : s8 als c0) (ok1 : s8 als c1) (CSy : ag3 Z yo y8 z8) (XO : Old Z n0 h0) (WW : r5 Z z0 pc0 kpc pcs fm al kal als) :
 as7 l Z h0 ca6 p7 11 none [(800, 813, 816, 202)] ws (Jvm.Room.mk 3 1 2 80) #[.ref oa, .ref yo, .ref ot, .int xo, .int 2] (aY7 Z oa c0 c1 h0 n0) := by
 refine aX3 (Ls := #[.val (.ref oa), .val (.ref yo), .val (.ref ot), .val (.int xo), .val (.int 2), .unset, .unset, .unset, .unset, .unset, .unset]) (plainFor_of_name C4) (fun p e s m U meth c s₁ Y hh f d r O hnm hlk R X0 e0 => ?_)
 replace O : s.vm.findClass "java/lang/String" = some m.cls := O
 have N0 := Fr.nil n0
 obtain ⟨SAl, AAl, r_fm, ⟨cs, hcs, SC⟩, SFM, SZ, BZ, SPc, APc, HPc, HAL, uo, u8, i8, CS⟩ := id WW
 let L_1 : Array Slot := #[oR oa,oR yo,oR ot,oI xo,oI 2,oU,oU,oU,oU,oU,oU]
 show c5 p e U m s₁ 0 L_1 []
 refine c6 X0 f d bT2 rfl rfl ?_
 obtain ⟨T2, X2, e2, st2⟩ := initO X0 f Y O (az1 w) (U2 w) (U3 w) e0 (g := (mkF m 1 L_1 [.ref oa])) rfl (by rw [r]; rfl) rfl (hb d bT3) (by decide) (W := 0) (by show 2 * 0 + _ ≤ _; exact f7 rfl) (by decide)
 refine c8 st2 ?_
 show c5 p e U m T2 4 L_1 []
 refine f5 X2 f d bT4 rfl ?_
 refine o2 (pc := 6) (pc' := 30) X2 f d bT5 ((if0 _ _).trans (feq (by decide : ¬ ((2 : Int32) = (0 : Int32)))).2) ?_
 refine c6 X2 f d bv2 rfl rfl ?_
 obtain ⟨T3, X3, e3, st3⟩ := getS2 X2 f Y O (host := "") (Or.inl (bi4 w)) Via.refl e2 (CSy.2.2.1.ext XO.2) (g := (mkF m 31 L_1 [.ref yo])) rfl (hb d bv3)
 refine c8 st3 ?_
 show c5 p e U m T3 34 L_1 [.ref y8, .ref yo]
 refine c8 (fun t k => Jvm.RoadKit.acmp (g := (mkF m 34 L_1 [.ref y8, .ref yo])) X3 f rfl rfl rfl (pc0 := 34) (pc' := 346) (same := false) rfl (hb d bv4) rfl (decide_eq_false (fun q => CSy.2.2.2.2.2.1 (Value.ref.inj q))) (by decide) (by decide) k) ?_
 show c5 p e U m T3 346 L_1 []
 refine c6 X3 f d aZ7 rfl rfl ?_
 obtain ⟨T4, X4, e4, st4⟩ := getS2 X3 f Y O (host := "") (Or.inl (bi5 w)) Via.refl e3 (CSy.2.2.2.1.ext XO.2) (g := (mkF m 347 L_1 [.ref yo])) rfl (hb d aZ8)
 refine c8 st4 ?_
 show c5 p e U m T4 350 L_1 [.ref z8, .ref yo]
 refine c8 (fun t k => Jvm.RoadKit.acmp (g := (mkF m 350 L_1 [.ref z8, .ref yo])) X4 f rfl rfl rfl (pc0 := 350) (pc' := 399) (same := false) rfl (hb d aZ9) rfl (decide_eq_false (fun q => CSy.2.2.2.2.2.2 (Value.ref.inj q))) (by decide) (by decide) k) ?_
 show c5 p e U m T4 399 L_1 []
 refine c6 X4 f d ba0 rfl rfl ?_
 obtain ⟨T5, X5, e5, st5⟩ := getS2 X4 f Y O (host := "") (Or.inl (bi6 w)) Via.refl e4 (CSy.2.1.ext XO.2) (g := (mkF m 400 L_1 [.ref yo])) rfl (hb d ba1)
 refine c8 st5 ?_
 show c5 p e U m T5 403 L_1 [.ref yo, .ref yo]
 refine c8 (fun t k => Jvm.RoadKit.acmp (g := (mkF m 403 L_1 [.ref yo, .ref yo])) X5 f rfl rfl rfl (pc0 := 403) (pc' := 406) (same := true) rfl (hb d ba2) rfl (decide_eq_true rfl) (by decide) (by decide) k) ?_
 obtain ⟨T6, X6, e6, st6⟩ := getS2 X5 f Y O (host := "") (Or.inl (R4 w)) Via.refl e5 (SC.ext XO.2) (g := (mkF m 406 L_1 [])) rfl (hb d ba3)
 refine c8 st6 ?_
 show c5 p e U m T6 409 L_1 [.int cs]
 refine m8 X6 f d ba4 ((if0 _ _).trans (feq hcs).1) ?_
 refine c6 X6 f d ba5 rfl rfl ?_
 refine f4 X6 f d ba6 rfl ?_
 refine f5 X6 f d ba7 rfl ?_
 obtain ⟨_, T7, Lc7, X7, hQ7, st7⟩ := j8 X6 f d r Y e6 O (bi7 w) (bi8 w) (au4 w) (bi9 w) (cY9 l Z a0 w [] ot kt xo xl vs_ c0 c1 als h0 n0 Z0 At pl_ gv0 gv1 ok0 ok1) L_1 ba8 [.ref ot, .int xo, .int 2] [] 0 0 0 (lenOf bT6 rfl)
 obtain ⟨rfl, Nq7, e7⟩ := hQ7
 have N7 := Fr.app N0 Nq7
 refine c8 st7 ?_
 show c5 p e U m T7 419 L_1 [.int 0]
 refine m8 X7 f d ba9 ((if0 _ _).trans (teq (by decide : (0 : Int32) = (0 : Int32))).2) ?_
 refine c6 X7 f d bb0 rfl rfl ?_
 refine c6 X7 f d bb1 rfl rfl ?_
 refine f4 X7 f d bb2 rfl ?_
 refine f4 X7 f d bb3 rfl ?_
 refine f5 X7 f d bb4 rfl ?_
 refine n7 X7 f d bb5 ?_
 obtain ⟨_, T8, Lc8, X8, hQ8, st8⟩ := j8 X7 f d r Y e7 O (bj3 w) (bj4 w) (t6 w) (bj5 w) (cZ1 l Z a0 w [] ot kt xo xl vs_ c0 c1 h0 n0 Z0 At Eb pl_ gv0 gv1) L_1 bb6 [.ref ot, .int xo, (.int (xo + (2 : Int32)))] [.ref oa] 1 1 2 (lenOf ak2 rfl)
 obtain ⟨d8, kd8, rfl, Nq8, K8, ge8, A8⟩ := hQ8
 have N8 := Fr.app N7 Nq8
 refine c8 st8 ?_
 have sz_d8 : h0.size ≤ d8 := c9 (Keep.refl h0 [oa]).1 ge8
 have ne_oa_d8 : oa ≠ d8 := Nat.ne_of_lt (j3 Ea.lt ge8)
 have Ea__8 := Ea.keep K8
 have Fv__8 := Fv.keep K8 nin0
 have Fc__8 := Fc.keep K8 nin0
 have KP8 := (Keep.refl h0 [oa]).trans K8 all0
 obtain ⟨T9, h9, X9, e9, W9, st9⟩ := putF X8 f Y O (host := "") (Or.inl (J3 w)) Via.refl rfl Fv__8 Ea__8 (Or.inr ⟨(H9 w), rfl, hnm⟩) (F9 w) (ty := (.array .byte)) (by decide) rfl rfl (g := (mkF m 432 L_1 [.ref d8, .ref oa])) rfl rfl (hb d bb7)
 have Fw9 := Fv__8.same W9
 have Ea__9 := Ea__8.wr W9
 have Fc__9 := Fc__8.other W9 (Or.inr (az4 w))
 have A8__9 := A8.other W9 (Ne.symm ne_oa_d8)
 have N9 := Fr.snoc X9 N8 g_oa
 have KP9 := KP8.wr W9 (Or.inl (List.mem_of_getElem? (i := 0) rfl))
 refine c8 st9 ?_
 show c5 p e U m T9 435 L_1 []
 refine c6 X9 f d bb8 rfl rfl ?_
 refine f6 X9 f d bb9 (z := (0 : Int32)) rfl ?_
 obtain ⟨T10, h10, X10, e10, W10, st10⟩ := putF X9 f Y O (host := "") (Or.inl (J2 w)) Via.refl e9 Fc__9 Ea__9 (Or.inr ⟨(I0 w), rfl, hnm⟩) (F9 w) (ty := .byte) (by decide) rfl rfl (g := (mkF m 437 L_1 [.int 0, .ref oa])) rfl rfl (hb d bc0)
 have Fw10 := Fc__9.same W10
 have Fw9__10 := Fw9.other W10 (Or.inr (az3 w))
 have A8__10 := A8__9.other W10 (Ne.symm ne_oa_d8)
 have N10 := Fr.snoc X10 N9 g_oa
 have KP10 := KP9.wr W10 (Or.inl (List.mem_of_getElem? (i := 0) rfl))
 refine c8 st10 ?_
 show c5 p e U m T10 440 L_1 []
 refine m5 (pc := 440) (pc' := 879) X10 f d bc2 ?_
 show c5 p e U m T10 879 L_1 []
 exact q0 X10 f R (hb d bc3) (by rw [e10]; exact ⟨rfl, N10, KP10, Fw10, _, _, sz_d8, Fw9__10, A8__10⟩) (by decide) (by decide)
theorem cZ5 (l : Launch) (Z : State) (a0 : Array Value) (w : j9 Z a0) (ws : List Jvm.Cond) (oa : Addr) (ot : Addr) (kt : ClassId) (xo xl : Int32) (vs_ : List Value) (c0 c1 : Int32) (yo y8 z8 : Addr) (z0 pc0 : Addr) (kpc : ClassId) (pcs : List Value) (fm : Value) (al : Addr) (kal : ClassId) (als : List Value) (h0 : Heap) (n0 : Nat) (Z0 : n0 ≤ h0.size) (Ea : Exa Z h0 oa "java/lang/String") (Fv : Fld Z h0 oa "java/lang/String" "value" "[B" .null) (Fc : Fld Z h0 oa "java/lang/String" "coder" "B" (.int 0)) (g_oa : n0 ≤ oa) (ne_to : ot ≠ oa) (At : Arv Z h0 ot kt .byte xl vs_ (.int 0)) (Eb : Exa Z h0 ot "[B") (pl_ : r0 xo xl 2) (gv0 : vs_.getD (xo.toNatClampNeg + 0) (.int 0) = .int c0) (gv1 : vs_.getD (xo.toNatClampNeg + 1) (.int 0) = .int c1) (ok0 : s8 als c0) (ok1 : s8 als c1) (CSy : ag3 Z yo y8 z8) (XO : Old Z n0 h0) (WW : r5 Z z0 pc0 kpc pcs fm al kal als) :
 l0 l Z h0 ca7 F4 5 none ws (Jvm.Room.mk 4 1 2 108) #[.ref oa, .ref ot, .int xo, .int 2, .ref yo] (aY7 Z oa c0 c1 h0 n0) := by
 refine l7 (Ls := #[.val (.ref oa), .val (.ref ot), .val (.int xo), .val (.int 2), .val (.ref yo)]) (plainFor_of_name C4) (fun p e s m U meth c s₁ Y hh f d r O hnm hlk R X0 e0 => ?_)
 replace O : s.vm.findClass "java/lang/String" = some m.cls := O
 have N0 := Fr.nil n0
 obtain ⟨SAl, AAl, r_fm, ⟨cs, hcs, SC⟩, SFM, SZ, BZ, SPc, APc, HPc, HAL, uo, u8, i8, CS⟩ := id WW
 have hl0 : ¬ xl < 0 := by obtain ⟨_, _, _, _, q, _⟩ := At; exact q
 let L_1 : Array Slot := #[oR oa,oR ot,oI xo,oI 2,oR yo]
 show c5 p e U m s₁ 0 L_1 []
 refine c6 X0 f d bT7 rfl rfl ?_
 refine j0 X0 f d bT8 rfl rfl ?_
 obtain ⟨_, T1, Lc1, X1, hQ1, st1⟩ := j8 X0 f d r Y e0 O (bh0 w) (bh1 w) (an0 w) (bh2 w) (cc3 l Z a0 w [] yo h0 n0 Z0) L_1 bT9 [.ref yo] [.ref oa] 1 0 0 (lenOf bU2 rfl)
 obtain ⟨rfl, Nq1, e1⟩ := hQ1
 have N1 := Fr.app N0 Nq1
 refine c8 st1 ?_
 obtain ⟨T2, X2, e2, st2⟩ := castY X1 f Y O (bh3 w) e1 (Ins.of_exa (CSy.2.2.2.2.1.ext XO.2) (bh4 w)) (g := (mkF m 6 L_1 [.ref yo, .ref oa])) rfl rfl (hb d bU0)
 refine c8 st2 ?_
 show c5 p e U m T2 9 L_1 [.ref yo, .ref oa]
 refine c6 X2 f d bU1 rfl rfl ?_
 refine f4 X2 f d bv5 rfl ?_
 refine f4 X2 f d bv6 rfl ?_
 refine c6 X2 f d bv7 rfl rfl ?_
 refine m7 X2 f d Y e2 At bv8 ?_
 obtain ⟨_, T4, Lc4, X4, hQ4, st4⟩ := j8 X2 f d r Y e2 O (bh5 w) (bh6 w) (o6 w) (bh7 w) (cZ3 l Z a0 w [] xo xl z0 pc0 kpc pcs fm al kal als h0 n0 Z0 pl_ hl0 XO WW) L_1 bv9 [.int xo, .int 2, .int xl] [.ref ot, .ref yo, .ref oa] 3 0 0 (lenOf bU3 rfl)
 obtain ⟨rfl, Nq4, e4⟩ := hQ4
 have N4 := Fr.app N1 Nq4
 refine c8 st4 ?_
 show c5 p e U m T4 17 L_1 [.int xo, .ref ot, .ref yo, .ref oa]
 refine f4 X4 f d bw0 rfl ?_
 obtain ⟨_, T5, Lc5, X5, hQ5, st5⟩ := aZ0 X4 f d r Y e4 O (bi1 w) (bi2 w) (o6 w) (bi3 w) (o := oa) (cZ4 l Z a0 w [] oa ot kt xo xl vs_ c0 c1 yo y8 z8 z0 pc0 kpc pcs fm al kal als h0 n0 Z0 Ea Fv Fc g_oa ne_to At Eb pl_ gv0 gv1 ok0 ok1 CSy XO WW) L_1 bw1 [.ref yo, .ref ot, .int xo, .int 2] [] 0 1 2 (lenOf bU4 rfl)
 obtain ⟨rfl, Nq5, K5, Fc5, d5, kd5, ge5, Fv5, A5⟩ := hQ5
 have N5 := Fr.app N4 Nq5
 refine c8 st5 ?_
 have sz_d5 : h0.size ≤ d5 := c9 (Keep.refl h0 [oa]).1 ge5
 have KP5 := (Keep.refl h0 [oa]).trans K5 (allS (Or.inl (List.mem_of_getElem? (i := 0) rfl)) all0)
 show c5 p e U m T5 21 L_1 []
 exact q0 X5 f R (hb d bw2) (⟨rfl, N5, KP5, Fc5, _, _, sz_d5, Fv5, A5⟩) (by decide) (by decide)
theorem bU6:c4 v6 0 (.aload_n 0) 1:=by decide +kernel
theorem bU7:c4 v6 1 (.getfield 15) 3:=by decide +kernel
theorem bU8:c4 v6 4 (.iload_n 1) 1:=by decide +kernel
theorem bU9:c4 v6 5 .iaload 1:=by decide +kernel
theorem bV0:c4 v6 6 (.istore_n 2) 1:=by decide +kernel
theorem bV1:c4 v6 7 (.new 47) 3:=by decide +kernel
theorem bw3:c4 v6 10 .dup 1:=by decide +kernel
theorem bw4:c4 v6 11 (.aload_n 0) 1:=by decide +kernel
theorem bw5:c4 v6 12 (.getfield 19) 3:=by decide +kernel
theorem bw6:c4 v6 15 (.iload_n 2) 1:=by decide +kernel
theorem bw7:c4 v6 16 (.aload_n 0) 1:=by decide +kernel
theorem bw8:c4 v6 17 (.getfield 15) 3:=by decide +kernel
theorem bw9:c4 v6 20 (.iload_n 1) 1:=by decide +kernel
theorem bx0:c4 v6 21 (.iconst 1) 1:=by decide +kernel
theorem bx1:c4 v6 22 .iadd 1:=by decide +kernel
theorem bx2:c4 v6 23 .iaload 1:=by decide +kernel
theorem bx3:c4 v6 24 (.iload_n 2) 1:=by decide +kernel
theorem bx4:c4 v6 25 .isub 1:=by decide +kernel
theorem bx5:c4 v6 26 (.getstatic 86) 3:=by decide +kernel
theorem bx6:c4 v6 29 (.invokespecial 92) 3:=by decide +kernel
theorem bx7:c4 v6 32 .areturn 1:=by decide +kernel
theorem bV2 : parseMethodDescriptor "([BIILjava/nio/charset/Charset;)V" = some ⟨[(.array .byte), .int, .int, (.object "java/nio/charset/Charset")], none⟩ := by decide +kernel
def ch3 (Z : State) (cs : List Int32) (h0 : Heap) (n0 : Nat) (v : Option Value) (h : Heap) (L : List Loc) : Prop := ∃ (d t : Addr) (k : ClassId), v = some (.ref d) ∧ Fr n0 L ∧ Keep h0 h [] ∧ h0.size ≤ d ∧ h0.size ≤ t ∧ own_S Z h d t k (p6 cs) (m9 cs)
theorem dl9 (l : Launch) (Z : State) (a0 : Array Value) (w : j9 Z a0) (ws : List Jvm.Cond) (oa : Addr) (xi : Int32) (cs_ : List Int32) (xf xc : Int64) (xw : Nat) (z0 pc0 : Addr) (kpc : ClassId) (pcs : List Value) (fm : Value) (al : Addr) (kal : ClassId) (als : List Value) (h0 : Heap) (n0 : Nat) (Z0 : n0 ≤ h0.size) (G : own_G Z h0 oa xi cs_ xf xc xw) (nm_ : own_nm als cs_) (XO : Old Z n0 h0) (WW : r5 Z z0 pc0 kpc pcs fm al kal als) :
 l0 l Z h0 df7 v6 3 (some (.object "java/lang/String")) ws (Jvm.Room.mk 5 2 8 132) #[.ref oa, .int xi] (ch3 Z cs_ h0 n0) := by
 refine l7 (Ls := #[.val (.ref oa), .val (.int xi), .unset]) (plainFor_of_name E0) (fun p e s m U meth c s₁ Y hh f d r O hnm hlk R X0 e0 => ?_)
 replace O : s.vm.findClass "com/example/prizewell/prizewell/core/TicketRanges" = some m.cls := O
 have N0 := Fr.nil n0
 obtain ⟨SAl, AAl, r_fm, ⟨cs, hcs, SC⟩, SFM, SZ, BZ, SPc, APc, HPc, HAL, uo, u8, i8, CS⟩ := id WW
 obtain ⟨xs, xp, xq, tf, tn, tb, lc, kf, kn, kb, nf, nn, nb, vf, vn, vb, ⟨lo, ltf, ltn, ltb⟩, ⟨Eo, Fsz, Fff, Fnn, Fbb, Flc⟩, Af, Ag, Ab, Eb, ⟨i0, i1, i2, i3, i4, i5⟩, gf, gp, gq, gd, gpl, gnb, glast⟩ := id G
 let L_1 : Array Slot := #[oR oa,oI xi,oU]
 show c5 p e U m s₁ 0 L_1 []
 rcases nm_ with ⟨c0, rfl, ok0⟩ | ⟨c0, c1, rfl, ok0, ok1⟩
 · skip
   show c5 p e U m s₁ 0 L_1 []
   refine c6 X0 f d bU6 rfl rfl ?_
   refine d3 X0 f d Y e0 O (m6 w) Fnn bU7 (fun T1 X1 e1 => ?_)
   refine f4 X1 f d bU8 rfl ?_
   refine n3 X1 f d Y e1 Ag (v := (.int xp)) ⟨i0, i3⟩ gp bU9 ?_
   let L_2 : Array Slot := #[oR oa,oI xi,oI xp]
   refine p8 X1 f d bV0 (l' := L_2) rfl ?_
   obtain ⟨T2, h2, X2, e2, E2, A2, D2, -, st2⟩ := newO X1 f Y O (bg5 w) (F9 w) (o6 w) e1 (g := (mkF m 7 L_2 [])) rfl (hb d bV1) (by decide) (by decide)
   obtain ⟨b2, g2⟩ : ∃ z, z = h0.size := ⟨_, rfl⟩
   rw [← g2] at A2 D2 st2
   have g_b2 : n0 ≤ b2 := c9 Z0 (f7 g2.symm)
   have sz_b2 : h0.size ≤ b2 := c9 (Keep.refl h0 []).1 (f7 g2.symm)
   have ne_tb_b2 : tb ≠ b2 := Nat.ne_of_lt (j3 Ab.lt (f7 g2.symm))
   have XO__2 := XO.ext E2
   have Fnn__2 := Fnn.ext E2
   have Fbb__2 := Fbb.ext E2
   have Ag__2 := Ag.ext E2
   have Ab__2 := Ab.ext E2
   have Eb__2 := Eb.ext E2
   have sz2 := c9 Z0 E2.1
   have KP2 := (Keep.refl h0 []).ext E2
   have F2_value : Fld Z h2 b2 "java/lang/String" "value" "[B" .null := D2 (Or.inr (H9 w)) (ty := (.array .byte)) (by decide)
   have F2_coder : Fld Z h2 b2 "java/lang/String" "coder" "B" (.int 0) := D2 (Or.inr (I0 w)) (ty := .byte) (by decide)
   refine c8 st2 ?_
   show c5 p e U m T2 10 L_2 [.ref b2]
   refine A0 X2 f d bw3 rfl ?_
   refine c6 X2 f d bw4 rfl rfl ?_
   refine d3 X2 f d Y e2 O (o8 w) Fbb__2 bw5 (fun T3 X3 e3 => ?_)
   refine f4 X3 f d bw6 rfl ?_
   refine c6 X3 f d bw7 rfl rfl ?_
   refine d3 X3 f d Y e3 O (m6 w) Fnn__2 bw8 (fun T4 X4 e4 => ?_)
   refine f4 X4 f d bw9 rfl ?_
   refine f6 X4 f d bx0 (z := (1 : Int32)) rfl ?_
   refine n7 X4 f d bx1 ?_
   show c5 p e U m T4 23 L_2 [(.int (xi + (1 : Int32))), .ref tn, .int xp, .ref tb, .ref b2, .ref b2]
   refine n3 X4 f d Y e4 Ag__2 (v := (.int xq)) ⟨i4, i5⟩ gq bx2 ?_
   refine f4 X4 f d bx3 rfl ?_
   refine x7 X4 f d bx4 ?_
   show c5 p e U m T4 26 L_2 [(.int (xq - xp)), .int xp, .ref tb, .ref b2, .ref b2]
   rw [show (xq - xp) = (1 : Int32) from gd]
   obtain ⟨T5, X5, e5, st5⟩ := getS2 X4 f Y O (host := "") (Or.inl (bg6 w)) Via.refl e4 (CS.1.ext XO__2.2) (g := (mkF m 26 L_2 [.int 1, .int xp, .ref tb, .ref b2, .ref b2])) rfl (hb d bx5)
   refine c8 st5 ?_
   obtain ⟨_, T6, Lc6, X6, hQ6, st6⟩ := D0 X5 f d r Y e5 O (bg7 w) (bg8 w) (o6 w) (bg9 w) (o := b2) (cY7 l Z a0 w [] b2 tb kb xp nb vb c0 uo u8 i8 z0 pc0 kpc pcs fm al kal als h2 n0 sz2 A2 F2_value F2_coder g_b2 ne_tb_b2 Ab__2 Eb__2 gpl (gnb 0 (j6 rfl)) ok0 CS XO__2 WW) L_2 bx6 [.ref tb, .int xp, .int 1, .ref uo] [.ref b2] 1 1 1 (lenOf bV2 rfl)
   obtain ⟨rfl, Nq6, K6, Fc6, d6, kd6, ge6, Fv6, A6⟩ := hQ6
   have N6 := Fr.app N0 Nq6
   refine c8 st6 ?_
   have sz_d6 : h0.size ≤ d6 := c9 KP2.1 ge6
   have A2__6 := A2.keep K6
   have KP6 := KP2.trans K6 (allS (Or.inr sz_b2) all0)
   show c5 p e U m T6 32 L_2 [.ref b2]
   exact p9 X6 f R rfl rfl (hb d bx7) (⟨b2, d6, _, rfl, N6, KP6, sz_b2, sz_d6, ⟨A2__6, Fc6, Fv6, A6⟩⟩) (by decide) (by decide)
 · skip
   show c5 p e U m s₁ 0 L_1 []
   refine c6 X0 f d bU6 rfl rfl ?_
   refine d3 X0 f d Y e0 O (m6 w) Fnn bU7 (fun T7 X7 e7 => ?_)
   refine f4 X7 f d bU8 rfl ?_
   refine n3 X7 f d Y e7 Ag (v := (.int xp)) ⟨i0, i3⟩ gp bU9 ?_
   let L_3 : Array Slot := #[oR oa,oI xi,oI xp]
   refine p8 X7 f d bV0 (l' := L_3) rfl ?_
   obtain ⟨T8, h8, X8, e8, E8, A8, D8, -, st8⟩ := newO X7 f Y O (bg5 w) (F9 w) (o6 w) e7 (g := (mkF m 7 L_3 [])) rfl (hb d bV1) (by decide) (by decide)
   obtain ⟨b8, g8⟩ : ∃ z, z = h0.size := ⟨_, rfl⟩
   rw [← g8] at A8 D8 st8
   have g_b8 : n0 ≤ b8 := c9 Z0 (f7 g8.symm)
   have sz_b8 : h0.size ≤ b8 := c9 (Keep.refl h0 []).1 (f7 g8.symm)
   have ne_tb_b8 : tb ≠ b8 := Nat.ne_of_lt (j3 Ab.lt (f7 g8.symm))
   have XO__8 := XO.ext E8
   have Fnn__8 := Fnn.ext E8
   have Fbb__8 := Fbb.ext E8
   have Ag__8 := Ag.ext E8
   have Ab__8 := Ab.ext E8
   have Eb__8 := Eb.ext E8
   have sz8 := c9 Z0 E8.1
   have KP8 := (Keep.refl h0 []).ext E8
   have F8_value : Fld Z h8 b8 "java/lang/String" "value" "[B" .null := D8 (Or.inr (H9 w)) (ty := (.array .byte)) (by decide)
   have F8_coder : Fld Z h8 b8 "java/lang/String" "coder" "B" (.int 0) := D8 (Or.inr (I0 w)) (ty := .byte) (by decide)
   refine c8 st8 ?_
   show c5 p e U m T8 10 L_3 [.ref b8]
   refine A0 X8 f d bw3 rfl ?_
   refine c6 X8 f d bw4 rfl rfl ?_
   refine d3 X8 f d Y e8 O (o8 w) Fbb__8 bw5 (fun T9 X9 e9 => ?_)
   refine f4 X9 f d bw6 rfl ?_
   refine c6 X9 f d bw7 rfl rfl ?_
   refine d3 X9 f d Y e9 O (m6 w) Fnn__8 bw8 (fun T10 X10 e10 => ?_)
   refine f4 X10 f d bw9 rfl ?_
   refine f6 X10 f d bx0 (z := (1 : Int32)) rfl ?_
   refine n7 X10 f d bx1 ?_
   show c5 p e U m T10 23 L_3 [(.int (xi + (1 : Int32))), .ref tn, .int xp, .ref tb, .ref b8, .ref b8]
   refine n3 X10 f d Y e10 Ag__8 (v := (.int xq)) ⟨i4, i5⟩ gq bx2 ?_
   refine f4 X10 f d bx3 rfl ?_
   refine x7 X10 f d bx4 ?_
   show c5 p e U m T10 26 L_3 [(.int (xq - xp)), .int xp, .ref tb, .ref b8, .ref b8]
   rw [show (xq - xp) = (2 : Int32) from gd]
   obtain ⟨T11, X11, e11, st11⟩ := getS2 X10 f Y O (host := "") (Or.inl (bg6 w)) Via.refl e10 (CS.1.ext XO__8.2) (g := (mkF m 26 L_3 [.int 2, .int xp, .ref tb, .ref b8, .ref b8])) rfl (hb d bx5)
   refine c8 st11 ?_
   obtain ⟨_, T12, Lc12, X12, hQ12, st12⟩ := D0 X11 f d r Y e11 O (bg7 w) (bg8 w) (o6 w) (bg9 w) (o := b8) (cZ5 l Z a0 w [] b8 tb kb xp nb vb c0 c1 uo u8 i8 z0 pc0 kpc pcs fm al kal als h8 n0 sz8 A8 F8_value F8_coder g_b8 ne_tb_b8 Ab__8 Eb__8 gpl (gnb 0 (j6 rfl)) (gnb 1 (j6 rfl)) ok0 ok1 CS XO__8 WW) L_3 bx6 [.ref tb, .int xp, .int 2, .ref uo] [.ref b8] 1 1 2 (lenOf bV2 rfl)
   obtain ⟨rfl, Nq12, K12, Fc12, d12, kd12, ge12, Fv12, A12⟩ := hQ12
   have N12 := Fr.app N0 Nq12
   refine c8 st12 ?_
   have sz_d12 : h0.size ≤ d12 := c9 KP8.1 ge12
   have A8__12 := A8.keep K12
   have KP12 := KP8.trans K12 (allS (Or.inr sz_b8) all0)
   show c5 p e U m T12 32 L_3 [.ref b8]
   exact p9 X12 f R rfl rfl (hb d bx7) (⟨b8, d12, _, rfl, N12, KP12, sz_b8, sz_d12, ⟨A8__12, Fc12, Fv12, A12⟩⟩) (by decide) (by decide)
theorem cZ6:c4 G7 0 (.lload_n 0) 1:=by decide +kernel
theorem cZ7:c4 G7 1 (.ldc2_w 118) 3:=by decide +kernel
theorem cZ8:c4 G7 4 .land 1:=by decide +kernel
theorem cZ9:c4 G7 5 (.invokestatic 120) 3:=by decide +kernel
theorem da0:c4 G7 8 (.astore_n 2) 1:=by decide +kernel
theorem da1:c4 G7 9 (.lload_n 0) 1:=by decide +kernel
theorem cy3:c4 G7 10 (.lconst 0) 1:=by decide +kernel
theorem cy4:c4 G7 11 .lcmp 1:=by decide +kernel
theorem cy5:c4 G7 12 (.ifCond .ge 12) 3:=by decide +kernel
theorem cy6:c4 G7 24 (.aload_n 2) 1:=by decide +kernel
theorem cy7:c4 G7 25 .areturn 1:=by decide +kernel
theorem Q3 : parseMethodDescriptor "(J)Ljava/math/BigInteger;" = some ⟨[.long], some (.object "java/math/BigInteger")⟩ := by decide +kernel
theorem cc5 (l : Launch) (Z : State) (a0 : Array Value) (w : j9 Z a0) (ws : List Jvm.Cond) (xn : Int64) (z0 pc0 : Addr) (kpc : ClassId) (pcs : List Value) (fm : Value) (al : Addr) (kal : ClassId) (als : List Value) (h0 : Heap) (n0 : Nat) (Z0 : n0 ≤ h0.size) (hnn : ¬ xn < 0) (XO : Old Z n0 h0) (WW : r5 Z z0 pc0 kpc pcs fm al kal als) :
 l0 l Z h0 df8 G7 3 (some (.object "java/math/BigInteger")) ws (Jvm.Room.mk 4 2 8 56) #[.long xn] (aZ5 Z xn h0 n0) := by
 refine l7 (Ls := #[.val (.long xn), .second, .unset]) (plainFor_of_name E0) (fun p e s m U meth c s₁ Y hh f d r O hnm hlk R X0 e0 => ?_)
 replace O : s.vm.findClass "com/example/prizewell/prizewell/core/TicketRanges" = some m.cls := O
 have N0 := Fr.nil n0
 obtain ⟨SAl, AAl, r_fm, ⟨cs, hcs, SC⟩, SFM, SZ, BZ, SPc, APc, HPc, HAL, uo, u8, i8, CS⟩ := id WW
 let L_1 : Array Slot := #[oJ xn,.second,oU]
 show c5 p e U m s₁ 0 L_1 []
 refine t8 X0 f d cZ6 rfl ?_
 show c5 p e U m s₁ 1 L_1 [.long xn]
 refine c8 (fun t k => X0.ldc2Long f O (mvT Y (cm9 w)) (g := (mkF m 1 L_1 [.long xn])) rfl (hb d cZ7) t k) ?_
 show c5 p e U m s₁ 4 L_1 [(.long (9223372036854775807 : Int64)), .long xn]
 refine R1 X0 f d cZ8 ?_
 show c5 p e U m s₁ 5 L_1 [(.long (xn &&& (9223372036854775807 : Int64)))]
 rw [cd4 hnn]
 obtain ⟨_, T1, Lc1, X1, hQ1, st1⟩ := j8 X0 f d r Y e0 O (cn0 w) (S8 w) (u9 w) (S9 w) (Y6 l Z a0 w [] xn z0 pc0 kpc pcs fm al kal als h0 n0 Z0 hnn XO WW) L_1 cZ9 [.long xn] [] 0 2 8 (lenOf Q3 rfl)
 obtain ⟨d1, rfl, Nq1, K1, Bp1⟩ := hQ1
 have N1 := Fr.app N0 Nq1
 refine c8 st1 ?_
 have KP1 := (Keep.refl h0 []).trans K1 all0
 show c5 p e U m T1 8 L_1 [.ref d1]
 let L_2 : Array Slot := #[oJ xn,.second,oR d1]
 refine w9 X1 f d da0 rfl (l' := L_2) rfl ?_
 refine t8 X1 f d da1 rfl ?_
 show c5 p e U m T1 10 L_2 [.long xn]
 refine c8 (fun t k => XS.lconst X1.here f rfl (hb d cy3) k) ?_
 show c5 p e U m T1 11 L_2 [(.long (0 : Int64)), .long xn]
 refine c8 (fun t k => XS.lcmp X1.here f rfl (hb d cy4) rfl k) ?_
 show c5 p e U m T1 12 L_2 [(.int (lcmpW xn (0 : Int64)))]
 refine o2 (pc := 12) (pc' := 24) X1 f d cy5 ((if0 _ _).trans (flt (by rw [lw_lt]; exact hnn : ¬ ((lcmpW xn (0 : Int64)) < (0 : Int32)))).2.1) ?_
 refine c6 X1 f d cy6 rfl rfl ?_
 show c5 p e U m T1 25 L_2 [.ref d1]
 exact p9 X1 f R rfl rfl (hb d cy7) (⟨_, rfl, N1, KP1, Bp1⟩) (by decide) (by decide)
theorem bV3:c4 u7 0 (.iload_n 1) 1:=by decide +kernel
theorem bV4:c4 u7 1 (.iconst 1) 1:=by decide +kernel
theorem bV5:c4 u7 2 .iadd 1:=by decide +kernel
theorem bV6:c4 u7 3 (.aload_n 0) 1:=by decide +kernel
theorem bV7:c4 u7 4 (.getfield 27) 3:=by decide +kernel
theorem bV8:c4 u7 7 (.if_icmp .ge 24) 3:=by decide +kernel
theorem cy8:c4 u7 10 (.aload_n 0) 1:=by decide +kernel
theorem cy9:c4 u7 11 (.getfield 9) 3:=by decide +kernel
theorem cz0:c4 u7 14 (.iload_n 1) 1:=by decide +kernel
theorem cz1:c4 u7 15 (.iconst 1) 1:=by decide +kernel
theorem cz2:c4 u7 16 .iadd 1:=by decide +kernel
theorem cz3:c4 u7 17 .laload 1:=by decide +kernel
theorem cz4:c4 u7 18 (.aload_n 0) 1:=by decide +kernel
theorem cz5:c4 u7 19 (.getfield 9) 3:=by decide +kernel
theorem cz6:c4 u7 22 (.iload_n 1) 1:=by decide +kernel
theorem cz7:c4 u7 23 .laload 1:=by decide +kernel
theorem cz8:c4 u7 24 .lsub 1:=by decide +kernel
theorem cz9:c4 u7 25 (.invokestatic 95) 3:=by decide +kernel
theorem cA0:c4 u7 28 (.goto 7) 3:=by decide +kernel
theorem cA1:c4 u7 31 (.aload_n 0) 1:=by decide +kernel
theorem cA2:c4 u7 32 (.getfield 65) 3:=by decide +kernel
theorem bx8:c4 u7 35 .areturn 1:=by decide +kernel
def ch4 (Z : State) (xc : Int64) (xw : Nat) (h0 : Heap) (n0 : Nat) (v : Option Value) (h : Heap) (L : List Loc) : Prop := ∃ a, v = some (.ref a) ∧ Fr n0 L ∧ Keep h0 h [] ∧ own_BP Z h a xc (aj4 xw h0.size h.size)
theorem dm0 (l : Launch) (Z : State) (a0 : Array Value) (w : j9 Z a0) (ws : List Jvm.Cond) (oa : Addr) (xi : Int32) (cs_ : List Int32) (xf xc : Int64) (xw : Nat) (z0 pc0 : Addr) (kpc : ClassId) (pcs : List Value) (fm : Value) (al : Addr) (kal : ClassId) (als : List Value) (h0 : Heap) (n0 : Nat) (Z0 : n0 ≤ h0.size) (G : own_G Z h0 oa xi cs_ xf xc xw) (hnc : ¬ xc < 0) (hxw : n0 ≤ xw) (XO : Old Z n0 h0) (WW : r5 Z z0 pc0 kpc pcs fm al kal als) :
 l0 l Z h0 df9 u7 2 (some (.object "java/math/BigInteger")) ws (Jvm.Room.mk 5 2 8 72) #[.ref oa, .int xi] (ch4 Z xc xw h0 n0) := by
 refine l7 (Ls := #[.val (.ref oa), .val (.int xi)]) (plainFor_of_name E0) (fun p e s m U meth c s₁ Y hh f d r O hnm hlk R X0 e0 => ?_)
 replace O : s.vm.findClass "com/example/prizewell/prizewell/core/TicketRanges" = some m.cls := O
 have N0 := Fr.nil n0
 obtain ⟨SAl, AAl, r_fm, ⟨cs, hcs, SC⟩, SFM, SZ, BZ, SPc, APc, HPc, HAL, uo, u8, i8, CS⟩ := id WW
 obtain ⟨xs, xp, xq, tf, tn, tb, lc, kf, kn, kb, nf, nn, nb, vf, vn, vb, ⟨lo, ltf, ltn, ltb⟩, ⟨Eo, Fsz, Fff, Fnn, Fbb, Flc⟩, Af, Ag, Ab, Eb, ⟨i0, i1, i2, i3, i4, i5⟩, gf, gp, gq, gd, gpl, gnb, glast⟩ := id G
 let L_1 : Array Slot := #[oR oa,oI xi]
 show c5 p e U m s₁ 0 L_1 []
 rcases glast with ⟨l1, l2, f2, gf2, gd2⟩ | ⟨l1, Blc⟩
 · skip
   show c5 p e U m s₁ 0 L_1 []
   refine f4 X0 f d bV3 rfl ?_
   refine f6 X0 f d bV4 (z := (1 : Int32)) rfl ?_
   refine n7 X0 f d bV5 ?_
   show c5 p e U m s₁ 3 L_1 [(.int (xi + (1 : Int32)))]
   refine c6 X0 f d bV6 rfl rfl ?_
   refine d3 X0 f d Y e0 O (i6 w) Fsz bV7 (fun T1 X1 e1 => ?_)
   refine m4 X1 f d bV8 (tlt l1).2.1 ?_
   refine c6 X1 f d cy8 rfl rfl ?_
   refine d3 X1 f d Y e1 O (o9 w) Fff cy9 (fun T2 X2 e2 => ?_)
   refine f4 X2 f d cz0 rfl ?_
   refine f6 X2 f d cz1 (z := (1 : Int32)) rfl ?_
   refine n7 X2 f d cz2 ?_
   show c5 p e U m T2 17 L_1 [(.int (xi + (1 : Int32))), .ref tf]
   refine aD2 X2 f d Y e2 Af (v := (.long f2)) ⟨i4, l2⟩ gf2 cz3 ?_
   refine c6 X2 f d cz4 rfl rfl ?_
   refine d3 X2 f d Y e2 O (o9 w) Fff cz5 (fun T3 X3 e3 => ?_)
   refine f4 X3 f d cz6 rfl ?_
   refine aD2 X3 f d Y e3 Af (v := (.long xf)) ⟨i0, i2⟩ gf cz7 ?_
   refine ci4 X3 f d cz8 ?_
   show c5 p e U m T3 25 L_1 [(.long (f2 - xf))]
   rw [gd2]
   obtain ⟨_, T4, Lc4, X4, hQ4, st4⟩ := j8 X3 f d r Y e3 O (bj9 w) (bk0 w) (v9 w) (bk1 w) (cc5 l Z a0 w [] xc z0 pc0 kpc pcs fm al kal als h0 n0 Z0 hnc XO WW) L_1 cz9 [.long xc] [] 0 2 8 (lenOf Q3 rfl)
   obtain ⟨d4, rfl, Nq4, K4, Bp4⟩ := hQ4
   have N4 := Fr.app N0 Nq4
   refine c8 st4 ?_
   have KP4 := (Keep.refl h0 []).trans K4 all0
   show c5 p e U m T4 28 L_1 [.ref d4]
   refine m5 (pc := 28) (pc' := 35) X4 f d cA0 ?_
   show c5 p e U m T4 35 L_1 [.ref d4]
   exact p9 X4 f R rfl rfl (hb d bx8) (⟨_, rfl, N4, KP4, Bp4.imp (fun y hy => hy.elim (fun q => Or.inl (j3 q hxw)) Or.inr)⟩) (by decide) (by decide)
 · skip
   show c5 p e U m s₁ 0 L_1 []
   refine f4 X0 f d bV3 rfl ?_
   refine f6 X0 f d bV4 (z := (1 : Int32)) rfl ?_
   refine n7 X0 f d bV5 ?_
   show c5 p e U m s₁ 3 L_1 [(.int (xi + (1 : Int32)))]
   refine c6 X0 f d bV6 rfl rfl ?_
   refine d3 X0 f d Y e0 O (i6 w) Fsz bV7 (fun T5 X5 e5 => ?_)
   refine j5 (pc := 7) (pc' := 31) X5 f d bV8 (flt l1).2.1 ?_
   refine c6 X5 f d cA1 rfl rfl ?_
   refine d3 X5 f d Y e5 O (B3 w) Flc cA2 (fun T6 X6 e6 => ?_)
   show c5 p e U m T6 35 L_1 [.ref lc]
   exact p9 X6 f R rfl rfl (hb d bx8) (by rw [e6]; exact ⟨_, rfl, N0, (Keep.refl h0 []), Blc.bp (fun y hy => Or.inl hy)⟩) (by decide) (by decide)
theorem az9 : plainName "com/example/prizewell/prizewell/core/TicketRange" = true := by first | (simp [plainName, overriddenIn]; done) | decide +kernel
theorem da2:c4 u6 0 (.aload_n 0) 1:=by decide +kernel
theorem da3:c4 u6 1 (.invokespecial 1) 3:=by decide +kernel
theorem da4:c4 u6 4 (.aload_n 1) 1:=by decide +kernel
theorem da5:c4 u6 5 (.ldc 7) 2:=by decide +kernel
theorem da6:c4 u6 7 (.invokestatic 9) 3:=by decide +kernel
theorem cA3:c4 u6 10 .pop 1:=by decide +kernel
theorem cA4:c4 u6 11 (.aload_n 2) 1:=by decide +kernel
theorem cA5:c4 u6 12 (.invokevirtual 15) 3:=by decide +kernel
theorem cA6:c4 u6 15 (.ifCond .lt 10) 3:=by decide +kernel
theorem cA7:c4 u6 18 (.aload_n 3) 1:=by decide +kernel
theorem cA8:c4 u6 19 (.invokevirtual 15) 3:=by decide +kernel
theorem cA9:c4 u6 22 (.ifCond .ge 24) 3:=by decide +kernel
theorem cB0:c4 u6 46 (.aload_n 0) 1:=by decide +kernel
theorem cB1:c4 u6 47 (.aload_n 1) 1:=by decide +kernel
theorem cB2:c4 u6 48 (.putfield 36) 3:=by decide +kernel
theorem cB3:c4 u6 51 (.aload_n 0) 1:=by decide +kernel
theorem cB4:c4 u6 52 (.aload_n 2) 1:=by decide +kernel
theorem cB5:c4 u6 53 (.putfield 41) 3:=by decide +kernel
theorem cB6:c4 u6 56 (.aload_n 0) 1:=by decide +kernel
theorem cB7:c4 u6 57 (.aload_n 3) 1:=by decide +kernel
theorem cB8:c4 u6 58 (.putfield 45) 3:=by decide +kernel
theorem cB9:c4 u6 61 .return_ 1:=by decide +kernel
def ch5 (Z : State) (oa on bf bc : Addr) (h0 : Heap) (n0 : Nat) (v : Option Value) (h : Heap) (L : List Loc) : Prop := v = none ∧ Fr n0 L ∧ Keep h0 h [oa] ∧ Fld Z h oa "com/example/prizewell/prizewell/core/TicketRange" "account" "Lcom/example/prizewell/prizewell/core/AccountName;" (.ref on) ∧ Fld Z h oa "com/example/prizewell/prizewell/core/TicketRange" "first" "Ljava/math/BigInteger;" (.ref bf) ∧ Fld Z h oa "com/example/prizewell/prizewell/core/TicketRange" "count" "Ljava/math/BigInteger;" (.ref bc)
theorem dm1 (l : Launch) (Z : State) (a0 : Array Value) (w : j9 Z a0) (ws : List Jvm.Cond) (oa on bf bc : Addr) (w_bf w_bc : Nat) (x_bf x_bc : Int64) (h0 : Heap) (n0 : Nat) (Z0 : n0 ≤ h0.size) (Ea : Exa Z h0 oa "com/example/prizewell/prizewell/core/TicketRange") (F0 : Fld Z h0 oa "com/example/prizewell/prizewell/core/TicketRange" "account" "Lcom/example/prizewell/prizewell/core/AccountName;" .null) (F1 : Fld Z h0 oa "com/example/prizewell/prizewell/core/TicketRange" "first" "Ljava/math/BigInteger;" .null) (F2 : Fld Z h0 oa "com/example/prizewell/prizewell/core/TicketRange" "count" "Ljava/math/BigInteger;" .null) (Bf : own_BI Z h0 bf x_bf w_bf) (Bc : own_BI Z h0 bc x_bc w_bc) (g_oa : n0 ≤ oa) :
 S7 l3 l Z h0 ca8 u6 4 none ws (Jvm.Room.mk 2 2 32 30) #[.ref oa, .ref on, .ref bf, .ref bc] [] (ch5 Z oa on bf bc h0 n0) := by
 refine Y8 (Ls := #[.val (.ref oa), .val (.ref on), .val (.ref bf), .val (.ref bc)]) (plainFor_of_name az9) (fun m => by first | (simp [entryFrame, mkF, argsToLocals, Value.category]; done) | rfl) (fun p e s m U meth c s₁ Y hh hC0 hsf0 f d r O hnm hlk R X0 e0 => ?_)
 replace O : s.vm.findClass "com/example/prizewell/prizewell/core/TicketRange" = some m.cls := O
 have N0 := Fr.nil n0
 have hEL := U0 w
 have hR0 : CHr Z l3 s.vm h0 s.vm h0 := CHr.refl hC0
 have hS0 : s.Since s.vm 0 := (State.WarmedH.refl s).since 0
 have hk0 : 0 ≤ h0.size := Nat.zero_le _
 have Ebf := Bf.2.1
 have Ebc := Bc.2.1
 let L_1 : Array Slot := #[oR oa,oR on,oR bf,oR bc]
 show c5 p e U m s₁ 0 L_1 []
 refine c6 X0 f d da2 rfl rfl ?_
 obtain ⟨_, T1, Lc1, X1, hQ1, st1⟩ := D0 X0 f d r Y e0 O (cn8 w) (aM1 w) (aM2 w) (aM3 w) (o := oa) (aW6 l Z a0 w [] oa h0 n0 Z0) L_1 da3 [] [] 0 0 0 (lenOf S5 rfl)
 obtain ⟨rfl, Nq1, e1⟩ := hQ1
 have N1 := Fr.app N0 Nq1
 refine c8 st1 ?_
 show c5 p e U m T1 4 L_1 []
 refine c6 X1 f d da4 rfl rfl ?_
 show c5 p e U m T1 5 L_1 [.ref on]
 obtain ⟨s2, T2, h2, j2, c2, kc2, X2, e2, E2, hS2, hk2, hZ2, hown2, Es2, Fc2, Fv2, Ab2, -, -, hC2, -, hne2, st2⟩ := ldcCH X1 f Y O (bk3 w) (au9 w) e1 hS0 hk0 hEL (List.mem_of_getElem? (i := 1) rfl) hC0 (vs := [.int 97, .int 99, .int 99, .int 111, .int 117, .int 110, .int 116]) (z := (7 : Int32)) ⟨by decide, by decide +kernel⟩ (by decide) rfl (g := (mkF m 5 L_1 [.ref on])) rfl (hb d da5) (n := 28) (by decide) (by decide) (by decide) (by decide)
 have Ea__2 := Ea.ext E2
 have F0__2 := F0.ext E2
 have F1__2 := F1.ext E2
 have F2__2 := F2.ext E2
 have Bf__2 := Bf.ext E2
 have Bc__2 := Bc.ext E2
 have Ebf__2 := Ebf.ext E2
 have Ebc__2 := Ebc.ext E2
 have hR2 := hR0.trans hC2
 have hD2 := hR2.1
 have sz2 := c9 Z0 E2.1
 have KP2 := (Keep.refl h0 [oa]).ext E2
 refine c8 st2 ?_
 obtain ⟨_, T3, Lc3, X3, hQ3, st3⟩ := j8 X2 f d r hZ2 e2 hown2 (cn9 w) (aM5 w) (an0 w) (aM6 w) (aW7 l Z a0 w [] on s2 h2 n0 sz2) L_1 da6 [.ref on, .ref s2] [] 0 0 0 (lenOf aT7 rfl)
 obtain ⟨rfl, Nq3, e3⟩ := hQ3
 have N3 := Fr.app N1 Nq3
 refine c8 st3 ?_
 show c5 p e U m T3 10 L_1 [.ref on]
 refine az0 X3 f d cA3 rfl ?_
 refine c6 X3 f d cA4 rfl rfl ?_
 obtain ⟨_, T4, Lc4, X4, hQ4, st4⟩ := o1 X3 f d r hZ2 e3 hown2 (bk4 w) (bk6 w) (bk5 w) (bk7 w) (u9 w) (bk8 w) Ebf__2 (cc1 l Z a0 w [] bf w_bf x_bf h2 n0 sz2 Bf__2) L_1 cA5 [] [] 0 0 0 (lenOf v7 rfl)
 obtain ⟨sg4, rfl, hsg4, Nq4, e4⟩ := hQ4
 have N4 := Fr.app N3 Nq4
 refine c8 st4 ?_
 show c5 p e U m T4 15 L_1 [.int sg4]
 refine m8 X4 f d cA6 ((if0 _ _).trans (flt hsg4).1) ?_
 refine c6 X4 f d cA7 rfl rfl ?_
 obtain ⟨_, T5, Lc5, X5, hQ5, st5⟩ := o1 X4 f d r hZ2 e4 hown2 (bk4 w) (bk6 w) (bk5 w) (bk7 w) (u9 w) (bk8 w) Ebc__2 (cc1 l Z a0 w [] bc w_bc x_bc h2 n0 sz2 Bc__2) L_1 cA8 [] [] 0 0 0 (lenOf v7 rfl)
 obtain ⟨sg5, rfl, hsg5, Nq5, e5⟩ := hQ5
 have N5 := Fr.app N4 Nq5
 refine c8 st5 ?_
 show c5 p e U m T5 22 L_1 [.int sg5]
 refine o2 (pc := 22) (pc' := 46) X5 f d cA9 ((if0 _ _).trans (flt hsg5).2.1) ?_
 refine c6 X5 f d cB0 rfl rfl ?_
 refine c6 X5 f d cB1 rfl rfl ?_
 obtain ⟨T6, h6, X6, e6, W6, st6⟩ := putF X5 f hZ2 hown2 (host := "") (Or.inl (bk9 w)) Via.refl e5 F0__2 Ea__2 (Or.inr ⟨(af7 w), rfl, hnm⟩) (au3 w) (ty := (.object "com/example/prizewell/prizewell/core/AccountName")) (by decide) rfl rfl (g := (mkF m 48 L_1 [.ref on, .ref oa])) rfl rfl (hb d cB2)
 have Fw6 := F0__2.same W6
 have Sa6 : Safe Z l3 T2.vm h2 oa := (Safe.exa hZ2.alike Ea__2 (by decide) (by decide))
 have Ea__6 := Ea__2.wr W6
 have F1__6 := F1__2.other W6 (Or.inr (cJ9 w))
 have F2__6 := F2__2.other W6 (Or.inr (cK0 w))
 have hR6 := hR2.trans (CHr.wr W6 Sa6 hD2)
 have hC6 := hR6.1
 have N6 := Fr.snoc X6 N5 g_oa
 have KP6 := KP2.wr W6 (Or.inl (List.mem_of_getElem? (i := 0) rfl))
 have hk6 := c9 hk2 (Keep.of_wr W6).1
 refine c8 st6 ?_
 show c5 p e U m T6 51 L_1 []
 refine c6 X6 f d cB3 rfl rfl ?_
 refine c6 X6 f d cB4 rfl rfl ?_
 obtain ⟨T7, h7, X7, e7, W7, st7⟩ := putF X6 f hZ2 hown2 (host := "") (Or.inl (bl0 w)) Via.refl e6 F1__6 Ea__6 (Or.inr ⟨(af8 w), rfl, hnm⟩) (au3 w) (ty := (.object "java/math/BigInteger")) (by decide) rfl rfl (g := (mkF m 53 L_1 [.ref bf, .ref oa])) rfl rfl (hb d cB5)
 have Fw7 := F1__6.same W7
 have Sa7 : Safe Z l3 T2.vm h6 oa := (Safe.exa hZ2.alike Ea__6 (by decide) (by decide))
 have Ea__7 := Ea__6.wr W7
 have Fw6__7 := Fw6.other W7 (Or.inr (cK1 w))
 have F2__7 := F2__6.other W7 (Or.inr (cK2 w))
 have hR7 := hR6.trans (CHr.wr W7 Sa7 hC6)
 have hC7 := hR7.1
 have N7 := Fr.snoc X7 N6 g_oa
 have KP7 := KP6.wr W7 (Or.inl (List.mem_of_getElem? (i := 0) rfl))
 have hk7 := c9 hk6 (Keep.of_wr W7).1
 refine c8 st7 ?_
 show c5 p e U m T7 56 L_1 []
 refine c6 X7 f d cB6 rfl rfl ?_
 refine c6 X7 f d cB7 rfl rfl ?_
 obtain ⟨T8, h8, X8, e8, W8, st8⟩ := putF X7 f hZ2 hown2 (host := "") (Or.inl (bl1 w)) Via.refl e7 F2__7 Ea__7 (Or.inr ⟨(af9 w), rfl, hnm⟩) (au3 w) (ty := (.object "java/math/BigInteger")) (by decide) rfl rfl (g := (mkF m 58 L_1 [.ref bc, .ref oa])) rfl rfl (hb d cB8)
 have Fw8 := F2__7.same W8
 have Sa8 : Safe Z l3 T2.vm h7 oa := (Safe.exa hZ2.alike Ea__7 (by decide) (by decide))
 have Fw6__8 := Fw6__7.other W8 (Or.inr (cK3 w))
 have Fw7__8 := Fw7.other W8 (Or.inr (cK4 w))
 have hR8 := hR7.trans (CHr.wr W8 Sa8 hC7)
 have hC8 := hR8.1
 have N8 := Fr.snoc X8 N7 g_oa
 have KP8 := KP7.wr W8 (Or.inl (List.mem_of_getElem? (i := 0) rfl))
 have hk8 := c9 hk7 (Keep.of_wr W8).1
 refine c8 st8 ?_
 show c5 p e U m T8 61 L_1 []
 have hF : CHr Z l3 s.vm s.heap T8.vm T8.heap := by rw [hh, e8]; exact hR8.trans (CHv.at X8 hZ2 hEL hC8)
 exact aB8 X8 f R (hb d cB9) hS2 (by rw [e8]; exact hk8) (by rw [e8]; exact ⟨rfl, N8, KP8, Fw6__8, Fw7__8, Fw8⟩) (hF) (by decide) (by decide)
theorem da7:c4 t3 0 (.iload_n 1) 1:=by decide +kernel
theorem da8:c4 t3 1 (.ifCond .lt 11) 3:=by decide +kernel
theorem da9:c4 t3 4 (.iload_n 1) 1:=by decide +kernel
theorem db0:c4 t3 5 (.aload_n 0) 1:=by decide +kernel
theorem db1:c4 t3 6 (.getfield 27) 3:=by decide +kernel
theorem db2:c4 t3 9 (.if_icmp .lt 12) 3:=by decide +kernel
theorem cC0:c4 t3 21 (.new 104) 3:=by decide +kernel
theorem cC1:c4 t3 24 .dup 1:=by decide +kernel
theorem cC2:c4 t3 25 (.new 1) 3:=by decide +kernel
theorem cC3:c4 t3 28 .dup 1:=by decide +kernel
theorem cC4:c4 t3 29 (.aload_n 0) 1:=by decide +kernel
theorem cC5:c4 t3 30 (.iload_n 1) 1:=by decide +kernel
theorem cC6:c4 t3 31 (.invokevirtual 106) 3:=by decide +kernel
theorem cC7:c4 t3 34 (.invokespecial 110) 3:=by decide +kernel
theorem cC8:c4 t3 37 (.aload_n 0) 1:=by decide +kernel
theorem cC9:c4 t3 38 (.getfield 9) 3:=by decide +kernel
theorem cD0:c4 t3 41 (.iload_n 1) 1:=by decide +kernel
theorem cD1:c4 t3 42 .laload 1:=by decide +kernel
theorem cD2:c4 t3 43 (.invokestatic 95) 3:=by decide +kernel
theorem cD3:c4 t3 46 (.aload_n 0) 1:=by decide +kernel
theorem cD4:c4 t3 47 (.iload_n 1) 1:=by decide +kernel
theorem cD5:c4 t3 48 (.invokevirtual 79) 3:=by decide +kernel
theorem cD6:c4 t3 51 (.invokespecial 113) 3:=by decide +kernel
theorem cD7:c4 t3 54 .areturn 1:=by decide +kernel
theorem db3 : parseMethodDescriptor "(I)Ljava/lang/String;" = some ⟨[.int], some (.object "java/lang/String")⟩ := by decide +kernel
theorem aT8 : parseMethodDescriptor "(Ljava/lang/String;)V" = some ⟨[(.object "java/lang/String")], none⟩ := by decide +kernel
theorem db4 : parseMethodDescriptor "(I)Ljava/math/BigInteger;" = some ⟨[.int], some (.object "java/math/BigInteger")⟩ := by decide +kernel
theorem aT9 : parseMethodDescriptor "(Lcom/example/prizewell/prizewell/core/AccountName;Ljava/math/BigInteger;Ljava/math/BigInteger;)V" = some ⟨[(.object "com/example/prizewell/prizewell/core/AccountName"), (.object "java/math/BigInteger"), (.object "java/math/BigInteger")], none⟩ := by decide +kernel
def ch6 (Z : State) (cs : List Int32) (xf xc : Int64) (h0 : Heap) (n0 : Nat) (v : Option Value) (h : Heap) (L : List Loc) : Prop := ∃ (r n st t : Addr) (k : ClassId) (bf bc : Addr), v = some (.ref r) ∧ Fr n0 L ∧ Keep h0 h [] ∧ Exa Z h r "com/example/prizewell/prizewell/core/TicketRange" ∧ Exa Z h n "com/example/prizewell/prizewell/core/AccountName" ∧ Fld Z h r "com/example/prizewell/prizewell/core/TicketRange" "account" "Lcom/example/prizewell/prizewell/core/AccountName;" (.ref n) ∧ Fld Z h n "com/example/prizewell/prizewell/core/AccountName" "value" "Ljava/lang/String;" (.ref st) ∧ own_S Z h st t k (p6 cs) (m9 cs) ∧ Fld Z h r "com/example/prizewell/prizewell/core/TicketRange" "first" "Ljava/math/BigInteger;" (.ref bf) ∧ Fld Z h r "com/example/prizewell/prizewell/core/TicketRange" "count" "Ljava/math/BigInteger;" (.ref bc) ∧ own_BI Z h bf xf h.size ∧ own_BI Z h bc xc h.size
theorem dm2 (l : Launch) (Z : State) (a0 : Array Value) (w : j9 Z a0) (ws : List Jvm.Cond) (oa : Addr) (xi : Int32) (cs_ : List Int32) (xf xc : Int64) (xw : Nat) (z0 pc0 : Addr) (kpc : ClassId) (pcs : List Value) (fm : Value) (al : Addr) (kal : ClassId) (als : List Value) (h0 : Heap) (n0 : Nat) (Z0 : n0 ≤ h0.size) (G : own_G Z h0 oa xi cs_ xf xc xw) (nm_ : own_nm als cs_) (hnf : ¬ xf < 0) (hnc : ¬ xc < 0) (hxw : xw ≤ h0.size) (XO : Old Z n0 h0) (WW : r5 Z z0 pc0 kpc pcs fm al kal als) :
 S7 l3 l Z h0 aU7 t3 2 (some (.object "com/example/prizewell/prizewell/core/TicketRange")) ws (Jvm.Room.mk 7 12 88 160) #[.ref oa, .int xi] [] (ch6 Z cs_ xf xc h0 n0) := by
 refine Y8 (Ls := #[.val (.ref oa), .val (.int xi)]) (plainFor_of_name E0) (fun m => by first | (simp [entryFrame, mkF, argsToLocals, Value.category]; done) | rfl) (fun p e s m U meth c s₁ Y hh hC0 hsf0 f d r O hnm hlk R X0 e0 => ?_)
 replace O : s.vm.findClass "com/example/prizewell/prizewell/core/TicketRanges" = some m.cls := O
 have N0 := Fr.nil n0
 have hEL := U0 w
 have hR0 : CHr Z l3 s.vm h0 s.vm h0 := CHr.refl hC0
 have hS0 : s.Since s.vm 0 := (State.WarmedH.refl s).since 0
 have hk0 : 0 ≤ h0.size := Nat.zero_le _
 obtain ⟨SAl, AAl, r_fm, ⟨cs, hcs, SC⟩, SFM, SZ, BZ, SPc, APc, HPc, HAL, uo, u8, i8, CS⟩ := id WW
 obtain ⟨xs, xp, xq, tf, tn, tb, lc, kf, kn, kb, nf, nn, nb, vf, vn, vb, ⟨lo, ltf, ltn, ltb⟩, ⟨Eo, Fsz, Fff, Fnn, Fbb, Flc⟩, Af, Ag, Ab, Eb, ⟨i0, i1, i2, i3, i4, i5⟩, gf, gp, gq, gd, gpl, gnb, glast⟩ := id G
 have G0 := G.more hxw
 let L_1 : Array Slot := #[oR oa,oI xi]
 show c5 p e U m s₁ 0 L_1 []
 refine f4 X0 f d da7 rfl ?_
 refine m8 X0 f d da8 ((if0 _ _).trans (flt i0).1) ?_
 refine f4 X0 f d da9 rfl ?_
 refine c6 X0 f d db0 rfl rfl ?_
 refine d3 X0 f d Y e0 O (i6 w) Fsz db1 (fun T1 X1 e1 => ?_)
 refine j5 (pc := 9) (pc' := 21) X1 f d db2 (tlt i1).1 ?_
 obtain ⟨T2, h2, X2, e2, E2, A2, D2, -, st2⟩ := newO X1 f Y O (cm1 w) (au3 w) (am1 w) e1 (g := (mkF m 21 L_1 [])) rfl (hb d cC0) (by decide) (by decide)
 obtain ⟨b2, g2⟩ : ∃ z, z = h0.size := ⟨_, rfl⟩
 rw [← g2] at A2 D2 st2
 have g_b2 : n0 ≤ b2 := c9 Z0 (f7 g2.symm)
 have sz_b2 : h0.size ≤ b2 := c9 (Keep.refl h0 []).1 (f7 g2.symm)
 have XO__2 := XO.ext E2
 have Eo__2 := Eo.ext E2
 have G0__2 := G0.ext E2
 have hR2 := hR0.trans (CHr.ext E2 hC0)
 have hC2 := hR2.1
 have sz2 := c9 Z0 E2.1
 have KP2 := (Keep.refl h0 []).ext E2
 have hk2 := c9 hk0 E2.1
 have F2_account : Fld Z h2 b2 "com/example/prizewell/prizewell/core/TicketRange" "account" "Lcom/example/prizewell/prizewell/core/AccountName;" .null := D2 (Or.inr (af7 w)) (ty := (.object "com/example/prizewell/prizewell/core/AccountName")) (by decide)
 have F2_first : Fld Z h2 b2 "com/example/prizewell/prizewell/core/TicketRange" "first" "Ljava/math/BigInteger;" .null := D2 (Or.inr (af8 w)) (ty := (.object "java/math/BigInteger")) (by decide)
 have F2_count : Fld Z h2 b2 "com/example/prizewell/prizewell/core/TicketRange" "count" "Ljava/math/BigInteger;" .null := D2 (Or.inr (af9 w)) (ty := (.object "java/math/BigInteger")) (by decide)
 refine c8 st2 ?_
 show c5 p e U m T2 24 L_1 [.ref b2]
 refine A0 X2 f d cC1 rfl ?_
 obtain ⟨T3, h3, X3, e3, E3, A3, D3, -, st3⟩ := newO X2 f Y O (cm2 w) (am9 w) (F7 w) e2 (g := (mkF m 25 L_1 [.ref b2, .ref b2])) rfl (hb d cC2) (by decide) (by decide)
 obtain ⟨b3, g3⟩ : ∃ z, z = h2.size := ⟨_, rfl⟩
 rw [← g3] at A3 D3 st3
 have g_b3 : n0 ≤ b3 := c9 sz2 (f7 g3.symm)
 have sz_b3 : h0.size ≤ b3 := c9 KP2.1 (f7 g3.symm)
 have ne_b2_b3 : b2 ≠ b3 := Nat.ne_of_lt (j3 A2.lt (f7 g3.symm))
 have XO__3 := XO__2.ext E3
 have Eo__3 := Eo__2.ext E3
 have G0__3 := G0__2.ext E3
 have A2__3 := A2.ext E3
 have F2_account__3 := F2_account.ext E3
 have F2_first__3 := F2_first.ext E3
 have F2_count__3 := F2_count.ext E3
 have hR3 := hR2.trans (CHr.ext E3 hC2)
 have hC3 := hR3.1
 have sz3 := c9 sz2 E3.1
 have KP3 := KP2.ext E3
 have hk3 := c9 hk2 E3.1
 have F3_value : Fld Z h3 b3 "com/example/prizewell/prizewell/core/AccountName" "value" "Ljava/lang/String;" .null := D3 (Or.inr (an2 w)) (ty := (.object "java/lang/String")) (by decide)
 refine c8 st3 ?_
 show c5 p e U m T3 28 L_1 [.ref b3, .ref b2, .ref b2]
 refine A0 X3 f d cC3 rfl ?_
 refine c6 X3 f d cC4 rfl rfl ?_
 refine f4 X3 f d cC5 rfl ?_
 obtain ⟨_, T4, Lc4, X4, hQ4, st4⟩ := o1 X3 f d r Y e3 O (cm3 w) (cm5 w) (cm4 w) (cm6 w) (v9 w) (cm7 w) Eo__3 (dl9 l Z a0 w [] oa xi cs_ xf xc h0.size z0 pc0 kpc pcs fm al kal als h3 n0 sz3 G0__3 nm_ XO__3 WW) L_1 cC6 [.int xi] [.ref b3, .ref b3, .ref b2, .ref b2] 4 2 8 (lenOf db3 rfl)
 obtain ⟨d4, td4, kd4, rfl, Nq4, K4, ge4, gt4, S4⟩ := hQ4
 have N4 := Fr.app N0 Nq4
 refine c8 st4 ?_
 have ne_b2_d4 : b2 ≠ d4 := Nat.ne_of_lt (j3 A2__3.lt ge4)
 have ne_b3_d4 : b3 ≠ d4 := Nat.ne_of_lt (j3 A3.lt ge4)
 have ne_b2_td4 : b2 ≠ td4 := Nat.ne_of_lt (j3 A2__3.lt gt4)
 have ne_b3_td4 : b3 ≠ td4 := Nat.ne_of_lt (j3 A3.lt gt4)
 have XO__4 := XO__3.keep K4 all0
 have Eo__4 := Eo__3.keep K4
 have G0__4 := G0__3.keep K4 all0
 have A2__4 := A2__3.keep K4
 have F2_account__4 := F2_account__3.keep K4 nin0
 have F2_first__4 := F2_first__3.keep K4 nin0
 have F2_count__4 := F2_count__3.keep K4 nin0
 have A3__4 := A3.keep K4
 have F3_value__4 := F3_value.keep K4 nin0
 have hR4 := hR3.trans (CHr.keep K4 (show ∀ y ∈ ([] : List Addr), Safe Z l3 s.vm h3 y from sf0) hC3)
 have hC4 := hR4.1
 have KP4 := KP3.trans K4 all0
 have sz4 := c9 sz3 K4.1
 have hk4 := c9 hk3 K4.1
 obtain ⟨Es4, Fc4, Fv4, As4⟩ := id S4
 obtain ⟨_, _, ⟨T5, L5, k5, n5⟩, -, X5, hSq5, hgr5, ⟨Lc5, hQ5, l5, y5, z5, hC5⟩, st5⟩ := X4.specialBackS f (y := aB1) rfl O (mvT Y (cm8 w)) (mvT Y (aM0 w)) (mvT Y (aj2 w)) (by decide) (G8 (s := s) (W := 3) (aW8 l Z a0 w [] b3 d4 td4 kd4 cs_ z0 pc0 kpc pcs fm al kal als T4.heap n0 sz4 A3__4 F3_value__4 ⟨Es4, Fc4, Fv4, As4⟩ nm_ g_b3 XO__4 WW) Y (aj2 w) (F7 w) (by decide) (by decide) hEL hC4 all0) (g := (mkF m 34 L_1 [.ref d4, .ref b3, .ref b3, .ref b2, .ref b2])) rfl (by rw [r]; rfl) (Steps.refl _) (a := b3) (argsL := [.ref d4]) (rest := [.ref b3, .ref b2, .ref b2]) (lenOf aT8 rfl) rfl (by show 2 * 0 + _ ≤ _; exact f7 rfl) (hb d cC7) (fun _ _ => ⟨rfl, rfl, (by decide : 0 + 1 + 1 + 2 + 2 ≤ _), (by decide : 0 + 3 + 1 + 8 + 24 ≤ _)⟩)
 dsimp only [Pt.U, Pt.locs, Pt.cells, Pt.slots] at X5 l5 y5 z5 st5 hQ5 hSq5 hgr5 hC5
 subst l5 y5 z5
 obtain ⟨rfl, Nq5, K5, Fv5⟩ := hQ5
 have N5 := Fr.app N4 Nq5
 refine c8 (fun t k => st5.trans k) ?_
 have hS5 := foldS (T := T4) hS0 hk4 hSq5 hgr5
 have hZ5 : Z.Warmed39 T5.vm := State.Warmed39.trans (t := s.setVm s.vm) Y hSq5.1
 have hown5 : T5.vm.findClass "com/example/prizewell/prizewell/core/TicketRanges" = some m.cls := by rw [hSq5.1.alike.findClass]; exact O
 have hk5 := Nat.le_refl T5.heap.size
 replace X5 : Stand p l e (Jvm.Room.mk 7 12 88 160) (s.setVm T5.vm) m #[.ref oa, .int xi] U meth c T5 _ _ _ := X5
 have XO__5 := XO__4.keep K5 (allS g_b3 all0)
 have Eo__5 := Eo__4.keep K5
 have G0__5 := G0__4.keep K5 (allS sz_b3 all0)
 have A2__5 := A2__4.keep K5
 have F2_account__5 := F2_account__4.keep K5 (ninS ne_b2_b3 nin0)
 have F2_first__5 := F2_first__4.keep K5 (ninS ne_b2_b3 nin0)
 have F2_count__5 := F2_count__4.keep K5 (ninS ne_b2_b3 nin0)
 have A3__5 := A3__4.keep K5
 have Es4__5 := Es4.keep K5
 have Fc4__5 := Fc4.keep K5 (ninS (Ne.symm ne_b3_d4) nin0)
 have Fv4__5 := Fv4.keep K5 (ninS (Ne.symm ne_b3_d4) nin0)
 have As4__5 := As4.keep K5 (ninS (Ne.symm ne_b3_td4) nin0)
 have hR5 := hR4.trans hC5
 have hD5 := hR5.1
 have KP5 := KP4.trans K5 (allS (Or.inr sz_b3) all0)
 have sz5 := c9 sz4 K5.1
 obtain ⟨xsy, xpy, xqy, tfy, tny, tby, lcy, kfy, kny, kby, nfy, nny, nby, vfy, vny, vby, ⟨loy, ltfy, ltny, ltby⟩, ⟨Eoy, Fszy, Fffy, Fnny, Fbby, Flcy⟩, Afy, Agy, Aby, Eby, ⟨i0y, i1y, i2y, i3y, i4y, i5y⟩, gfy, gpy, gqy, gdy, gply, gnby, glasty⟩ := id G0__5
 show c5 p e U m T5 37 L_1 [.ref b3, .ref b2, .ref b2]
 refine c6 X5 f d cC8 rfl rfl ?_
 refine d3 X5 f d hZ5 rfl hown5 (o9 w) Fffy cC9 (fun T6 X6 e6 => ?_)
 refine f4 X6 f d cD0 rfl ?_
 refine aD2 X6 f d hZ5 e6 Afy (v := (.long xf)) ⟨i0y, i2y⟩ gfy cD1 ?_
 obtain ⟨_, T7, Lc7, X7, hQ7, st7⟩ := j8 X6 f d r hZ5 e6 hown5 (bj9 w) (bk0 w) (v9 w) (bk1 w) (cc5 l Z a0 w [] xf z0 pc0 kpc pcs fm al kal als T5.heap n0 sz5 hnf XO__5 WW) L_1 cD2 [.long xf] [.ref b3, .ref b2, .ref b2] 3 2 8 (lenOf Q3 rfl)
 obtain ⟨d7, rfl, Nq7, K7, Bp7⟩ := hQ7
 have N7 := Fr.app N5 Nq7
 refine c8 st7 ?_
 have XO__7 := XO__5.keep K7 all0
 have Eo__7 := Eo__5.keep K7
 have G0__7 := G0__5.keep K7 all0
 have A2__7 := A2__5.keep K7
 have F2_account__7 := F2_account__5.keep K7 nin0
 have F2_first__7 := F2_first__5.keep K7 nin0
 have F2_count__7 := F2_count__5.keep K7 nin0
 have A3__7 := A3__5.keep K7
 have Es4__7 := Es4__5.keep K7
 have Fc4__7 := Fc4__5.keep K7 nin0
 have Fv4__7 := Fv4__5.keep K7 nin0
 have As4__7 := As4__5.keep K7 nin0
 have Fv5__7 := Fv5.keep K7 nin0
 have hR7 := hR5.trans (CHr.keep K7 (show ∀ y ∈ ([] : List Addr), Safe Z l3 T5.vm T5.heap y from sf0) hD5)
 have hC7 := hR7.1
 have KP7 := KP5.trans K7 all0
 have sz7 := c9 sz5 K7.1
 have hk7 := c9 hk5 K7.1
 show c5 p e U m T7 46 L_1 [.ref d7, .ref b3, .ref b2, .ref b2]
 refine c6 X7 f d cD3 rfl rfl ?_
 refine f4 X7 f d cD4 rfl ?_
 obtain ⟨_, T8, Lc8, X8, hQ8, st8⟩ := o1 X7 f d r hZ5 rfl hown5 (cn1 w) (cn3 w) (cn2 w) (cn4 w) (v9 w) (cn5 w) Eo__7 (dm0 l Z a0 w [] oa xi cs_ xf xc h0.size z0 pc0 kpc pcs fm al kal als T7.heap n0 sz7 G0__7 hnc Z0 XO__7 WW) L_1 cD5 [.int xi] [.ref d7, .ref b3, .ref b2, .ref b2] 4 2 8 (lenOf db4 rfl)
 obtain ⟨d8, rfl, Nq8, K8, Bp8⟩ := hQ8
 have N8 := Fr.app N7 Nq8
 refine c8 st8 ?_
 have A2__8 := A2__7.keep K8
 have F2_account__8 := F2_account__7.keep K8 nin0
 have F2_first__8 := F2_first__7.keep K8 nin0
 have F2_count__8 := F2_count__7.keep K8 nin0
 have A3__8 := A3__7.keep K8
 have Es4__8 := Es4__7.keep K8
 have Fc4__8 := Fc4__7.keep K8 nin0
 have Fv4__8 := Fv4__7.keep K8 nin0
 have As4__8 := As4__7.keep K8 nin0
 have Fv5__8 := Fv5__7.keep K8 nin0
 have Bp7__8 := Bp7.keep K8 all0
 have hR8 := hR7.trans (CHr.keep K8 (show ∀ y ∈ ([] : List Addr), Safe Z l3 T5.vm T7.heap y from sf0) hC7)
 have hC8 := hR8.1
 have KP8 := KP7.trans K8 all0
 have sz8 := c9 sz7 K8.1
 have hk8 := c9 hk7 K8.1
 obtain ⟨_, _, ⟨T9, L9, k9, n9⟩, -, X9, hSq9, hgr9, ⟨Lc9, hQ9, l9, y9, z9, hC9⟩, st9⟩ := X8.specialBackS f (y := ca8) rfl hown5 (mvT hZ5 (cn6 w)) (mvT hZ5 (cn7 w)) (mvT hZ5 (bk2 w)) (by decide) (G8 (s := s) (W := 1) (dm1 l Z a0 w [] b2 b3 d7 d8 _ _ _ _ T8.heap n0 sz8 A2__8 F2_account__8 F2_first__8 F2_count__8 Bp7__8.bi Bp8.bi g_b2) hZ5 (bk2 w) (am1 w) (by decide) (by decide) hEL hC8 all0) (g := (mkF m 51 L_1 [.ref d8, .ref d7, .ref b3, .ref b2, .ref b2])) rfl (by rw [r]; rfl) (Steps.refl _) (a := b2) (argsL := [.ref b3, .ref d7, .ref d8]) (rest := [.ref b2]) (lenOf aT9 rfl) rfl (by show 2 * 0 + _ ≤ _; exact f7 rfl) (hb d cD6) (fun _ _ => ⟨rfl, rfl, (by decide : 0 + 1 + 1 + 2 + 2 + 2 + 2 + 2 ≤ _), (by decide : 0 + 3 + 1 + 8 + 24 + 8 + 8 + 32 ≤ _)⟩)
 dsimp only [Pt.U, Pt.locs, Pt.cells, Pt.slots] at X9 l9 y9 z9 st9 hQ9 hSq9 hgr9 hC9
 subst l9 y9 z9
 obtain ⟨rfl, Nq9, K9, F0_9, F1_9, F2_9⟩ := hQ9
 have N9 := Fr.app N8 Nq9
 refine c8 (fun t k => st9.trans k) ?_
 have hS9 := foldS (T := T8) hS5 hk8 hSq9 hgr9
 have hZ9 : Z.Warmed39 T9.vm := State.Warmed39.trans (t := s.setVm T5.vm) hZ5 hSq9.1
 have hk9 := Nat.le_refl T9.heap.size
 replace X9 : Stand p l e (Jvm.Room.mk 7 12 88 160) (s.setVm T9.vm) m #[.ref oa, .int xi] U meth c T9 _ _ _ := X9
 have A2__9 := A2__8.keep K9
 have A3__9 := A3__8.keep K9
 have Es4__9 := Es4__8.keep K9
 have Fc4__9 := Fc4__8.keep K9 (ninS (Ne.symm ne_b2_d4) nin0)
 have Fv4__9 := Fv4__8.keep K9 (ninS (Ne.symm ne_b2_d4) nin0)
 have As4__9 := As4__8.keep K9 (ninS (Ne.symm ne_b2_td4) nin0)
 have Fv5__9 := Fv5__8.keep K9 (ninS (Ne.symm ne_b2_b3) nin0)
 have Bp7__9 := Bp7__8.keep K9 (allS (G2 g_b2 A2__5.lt) all0)
 have Bp8__9 := Bp8.keep K9 (allS (G2 sz_b2 A2__7.lt) all0)
 have hR9 := hR8.trans hC9
 have hD9 := hR9.1
 have KP9 := KP8.trans K9 (allS (Or.inr sz_b2) all0)
 show c5 p e U m T9 54 L_1 [.ref b2]
 have hF : CHr Z l3 s.vm s.heap T9.vm T9.heap := by rw [hh]; exact hR9.trans (CHv.at X9 hZ9 hEL hD9)
 exact aB7 X9 f R rfl rfl (hb d cD7) hS9 hk9 (⟨_, _, _, _, _, _, _, rfl, N9, KP9, A2__9, A3__9, F0_9, Fv5__9, ⟨Es4__9, Fc4__9, Fv4__9, As4__9⟩, F1_9, F2_9, Bp7__9.bi, Bp8__9.bi⟩) (hF) (by decide) (by decide)
theorem db5:c4 aA9 0 (.aload_n 0) 1:=by decide +kernel
theorem db6:c4 aA9 1 (.getfield 36) 3:=by decide +kernel
theorem db7:c4 aA9 4 .areturn 1:=by decide +kernel
theorem cD8 (l : Launch) (Z : State) (a0 : Array Value) (w : j9 Z a0) (ws : List Jvm.Cond) (oa ob : Addr) (h0 : Heap) (n0 : Nat) (Z0 : n0 ≤ h0.size) (Fx : Fld Z h0 oa "com/example/prizewell/prizewell/core/TicketRange" "account" "Lcom/example/prizewell/prizewell/core/AccountName;" (.ref ob)) :
 l0 l Z h0 dg0 aA9 1 (some (.object "com/example/prizewell/prizewell/core/AccountName")) ws (Jvm.Room.mk 0 0 0 0) #[.ref oa] (ag4 ob h0 n0) := by
 refine l7 (Ls := #[.val (.ref oa)]) (plainFor_of_name az9) (fun p e s m U meth c s₁ Y hh f d r O hnm hlk R X0 e0 => ?_)
 replace O : s.vm.findClass "com/example/prizewell/prizewell/core/TicketRange" = some m.cls := O
 have N0 := Fr.nil n0
 let L_1 : Array Slot := #[oR oa]
 show c5 p e U m s₁ 0 L_1 []
 refine c6 X0 f d db5 rfl rfl ?_
 refine d3 X0 f d Y e0 O (bk9 w) Fx db6 (fun T1 X1 e1 => ?_)
 show c5 p e U m T1 4 L_1 [.ref ob]
 exact p9 X1 f R rfl rfl (hb d db7) (by rw [e1]; exact ⟨rfl, N0, rfl⟩) (by decide) (by decide)
theorem db8:c4 aA7 0 (.aload_n 0) 1:=by decide +kernel
theorem db9:c4 aA7 1 (.getfield 41) 3:=by decide +kernel
theorem dc0:c4 aA7 4 .areturn 1:=by decide +kernel
theorem cD9 (l : Launch) (Z : State) (a0 : Array Value) (w : j9 Z a0) (ws : List Jvm.Cond) (oa ob : Addr) (h0 : Heap) (n0 : Nat) (Z0 : n0 ≤ h0.size) (Fx : Fld Z h0 oa "com/example/prizewell/prizewell/core/TicketRange" "first" "Ljava/math/BigInteger;" (.ref ob)) :
 l0 l Z h0 dg1 aA7 1 (some (.object "java/math/BigInteger")) ws (Jvm.Room.mk 0 0 0 0) #[.ref oa] (ag4 ob h0 n0) := by
 refine l7 (Ls := #[.val (.ref oa)]) (plainFor_of_name az9) (fun p e s m U meth c s₁ Y hh f d r O hnm hlk R X0 e0 => ?_)
 replace O : s.vm.findClass "com/example/prizewell/prizewell/core/TicketRange" = some m.cls := O
 have N0 := Fr.nil n0
 let L_1 : Array Slot := #[oR oa]
 show c5 p e U m s₁ 0 L_1 []
 refine c6 X0 f d db8 rfl rfl ?_
 refine d3 X0 f d Y e0 O (bl0 w) Fx db9 (fun T1 X1 e1 => ?_)
 show c5 p e U m T1 4 L_1 [.ref ob]
 exact p9 X1 f R rfl rfl (hb d dc0) (by rw [e1]; exact ⟨rfl, N0, rfl⟩) (by decide) (by decide)
theorem dc1:c4 aA8 0 (.aload_n 0) 1:=by decide +kernel
theorem dc2:c4 aA8 1 (.getfield 45) 3:=by decide +kernel
theorem dc3:c4 aA8 4 .areturn 1:=by decide +kernel
theorem cE0 (l : Launch) (Z : State) (a0 : Array Value) (w : j9 Z a0) (ws : List Jvm.Cond) (oa ob : Addr) (h0 : Heap) (n0 : Nat) (Z0 : n0 ≤ h0.size) (Fx : Fld Z h0 oa "com/example/prizewell/prizewell/core/TicketRange" "count" "Ljava/math/BigInteger;" (.ref ob)) :
 l0 l Z h0 dg2 aA8 1 (some (.object "java/math/BigInteger")) ws (Jvm.Room.mk 0 0 0 0) #[.ref oa] (ag4 ob h0 n0) := by
 refine l7 (Ls := #[.val (.ref oa)]) (plainFor_of_name az9) (fun p e s m U meth c s₁ Y hh f d r O hnm hlk R X0 e0 => ?_)
 replace O : s.vm.findClass "com/example/prizewell/prizewell/core/TicketRange" = some m.cls := O
 have N0 := Fr.nil n0
 let L_1 : Array Slot := #[oR oa]
 show c5 p e U m s₁ 0 L_1 []
 refine c6 X0 f d dc1 rfl rfl ?_
 refine d3 X0 f d Y e0 O (bl1 w) Fx dc2 (fun T1 X1 e1 => ?_)
 show c5 p e U m T1 4 L_1 [.ref ob]
 exact p9 X1 f R rfl rfl (hb d dc3) (by rw [e1]; exact ⟨rfl, N0, rfl⟩) (by decide) (by decide)
theorem dc4:c4 aA6 0 (.aload_n 0) 1:=by decide +kernel
theorem dc5:c4 aA6 1 (.getfield 30) 3:=by decide +kernel
theorem dc6:c4 aA6 4 .areturn 1:=by decide +kernel
theorem aK7 (l : Launch) (Z : State) (a0 : Array Value) (w : j9 Z a0) (ws : List Jvm.Cond) (oa ob : Addr) (h0 : Heap) (n0 : Nat) (Z0 : n0 ≤ h0.size) (Fx : Fld Z h0 oa "com/example/prizewell/prizewell/core/AccountName" "value" "Ljava/lang/String;" (.ref ob)) :
 l0 l Z h0 dg3 aA6 1 (some (.object "java/lang/String")) ws (Jvm.Room.mk 0 0 0 0) #[.ref oa] (ag4 ob h0 n0) := by
 refine l7 (Ls := #[.val (.ref oa)]) (plainFor_of_name al5) (fun p e s m U meth c s₁ Y hh f d r O hnm hlk R X0 e0 => ?_)
 replace O : s.vm.findClass "com/example/prizewell/prizewell/core/AccountName" = some m.cls := O
 have N0 := Fr.nil n0
 let L_1 : Array Slot := #[oR oa]
 show c5 p e U m s₁ 0 L_1 []
 refine c6 X0 f d dc4 rfl rfl ?_
 refine d3 X0 f d Y e0 O (aM8 w) Fx dc5 (fun T1 X1 e1 => ?_)
 show c5 p e U m T1 4 L_1 [.ref ob]
 exact p9 X1 f R rfl rfl (hb d dc6) (by rw [e1]; exact ⟨rfl, N0, rfl⟩) (by decide) (by decide)
theorem bV9:c4 t7 0 (.aload_n 0) 1:=by decide +kernel
theorem bW0:c4 t7 1 .arraylength 1:=by decide +kernel
theorem bW1:c4 t7 2 (.aload_n 1) 1:=by decide +kernel
theorem bW2:c4 t7 3 .arraylength 1:=by decide +kernel
theorem bW3:c4 t7 4 (.if_icmp .ne 30) 3:=by decide +kernel
theorem bW4:c4 t7 7 (.iconst 0) 1:=by decide +kernel
theorem bW5:c4 t7 8 (.istore_n 2) 1:=by decide +kernel
theorem ao3:c4 t7 9 (.iload_n 2) 1:=by decide +kernel
theorem am6:c4 t7 10 (.aload_n 0) 1:=by decide +kernel
theorem am7:c4 t7 11 .arraylength 1:=by decide +kernel
theorem am8:c4 t7 12 (.if_icmp .ge 20) 3:=by decide +kernel
theorem aK8:c4 t7 15 (.aload_n 0) 1:=by decide +kernel
theorem aK9:c4 t7 16 (.iload_n 2) 1:=by decide +kernel
theorem aL0:c4 t7 17 .baload 1:=by decide +kernel
theorem aL1:c4 t7 18 (.aload_n 1) 1:=by decide +kernel
theorem aL2:c4 t7 19 (.iload_n 2) 1:=by decide +kernel
theorem aL3:c4 t7 20 .baload 1:=by decide +kernel
theorem aL4:c4 t7 21 (.if_icmp .eq 5) 3:=by decide +kernel
theorem aL5:c4 t7 26 (.iinc 2 1) 3:=by decide +kernel
theorem aL6:c4 t7 29 (.goto (-20)) 3:=by decide +kernel
theorem bx9:c4 t7 32 (.iconst 1) 1:=by decide +kernel
theorem by0:c4 t7 33 .ireturn 1:=by decide +kernel
theorem dc7 (l : Launch) (Z : State) (a0 : Array Value) (w : j9 Z a0) (ws : List Jvm.Cond) (ot ou : Addr) (kt ku : ClassId) (c0 : Int32) (h0 : Heap) (n0 : Nat) (Z0 : n0 ≤ h0.size) (At : Arv Z h0 ot kt .byte (1 : Int32) [.int c0] (.int 0)) (Au : Arv Z h0 ou ku .byte (1 : Int32) [.int c0] (.int 0)) :
 l0 l Z h0 ca9 t7 3 (some .boolean) ws (Jvm.Room.mk 0 0 0 0) #[.ref ot, .ref ou] (r4 (1 : Int32) h0 n0) := by
 refine l7 (Ls := #[.val (.ref ot), .val (.ref ou), .unset]) (plainFor_of_name aW4) (fun p e s m U meth c s₁ Y hh f d r O hnm hlk R X0 e0 => ?_)
 replace O : s.vm.findClass "java/lang/StringLatin1" = some m.cls := O
 have N0 := Fr.nil n0
 let L_1 : Array Slot := #[oR ot,oR ou,oU]
 show c5 p e U m s₁ 0 L_1 []
 refine c6 X0 f d bV9 rfl rfl ?_
 refine m7 X0 f d Y e0 At bW0 ?_
 refine c6 X0 f d bW1 rfl rfl ?_
 refine m7 X0 f d Y e0 Au bW2 ?_
 refine m4 X0 f d bW3 (teq (by decide : (1 : Int32) = (1 : Int32))).2 ?_
 refine f6 X0 f d bW4 (z := (0 : Int32)) rfl ?_
 let L_2 : Array Slot := #[oR ot,oR ou,oI 0]
 refine p8 X0 f d bW5 (l' := L_2) rfl ?_
 refine f4 X0 f d ao3 rfl ?_
 refine c6 X0 f d am6 rfl rfl ?_
 refine m7 X0 f d Y e0 At am7 ?_
 refine m4 X0 f d am8 (tlt (by decide : (0 : Int32) < (1 : Int32))).2.1 ?_
 refine c6 X0 f d aK8 rfl rfl ?_
 refine f4 X0 f d aK9 rfl ?_
 refine P5 X0 f d Y e0 At ⟨by decide, by decide⟩ rfl aL0 ?_
 refine c6 X0 f d aL1 rfl rfl ?_
 refine f4 X0 f d aL2 rfl ?_
 refine P5 X0 f d Y e0 Au ⟨by decide, by decide⟩ rfl aL3 ?_
 refine j5 (pc := 21) (pc' := 26) X0 f d aL4 (teq (rfl : c0 = c0)).1 ?_
 show c5 p e U m s₁ 26 L_2 []
 let L_3 : Array Slot := #[oR ot,oR ou,oI 1]
 refine c8 (fun t k => XS.iinc X0.here f rfl (hb d aL5) rfl (l' := L_3) rfl k) ?_
 show c5 p e U m s₁ 29 L_3 []
 refine m5 (pc := 29) (pc' := 9) X0 f d aL6 ?_
 refine f4 X0 f d ao3 rfl ?_
 refine c6 X0 f d am6 rfl rfl ?_
 refine m7 X0 f d Y e0 At am7 ?_
 refine j5 (pc := 12) (pc' := 32) X0 f d am8 (flt (by decide : ¬ ((1 : Int32) < (1 : Int32)))).2.1 ?_
 refine f6 X0 f d bx9 (z := (1 : Int32)) rfl ?_
 show c5 p e U m s₁ 33 L_3 [.int 1]
 exact t4 X0 f (t := .boolean) R (by simp) (hb d by0) (by rw [e0]; exact ⟨rfl, N0, rfl⟩) (by decide) (by decide)
theorem dc8 (l : Launch) (Z : State) (a0 : Array Value) (w : j9 Z a0) (ws : List Jvm.Cond) (ot ou : Addr) (kt ku : ClassId) (c0 c1 : Int32) (h0 : Heap) (n0 : Nat) (Z0 : n0 ≤ h0.size) (At : Arv Z h0 ot kt .byte (2 : Int32) [.int c0, .int c1] (.int 0)) (Au : Arv Z h0 ou ku .byte (2 : Int32) [.int c0, .int c1] (.int 0)) :
 l0 l Z h0 ca9 t7 3 (some .boolean) ws (Jvm.Room.mk 0 0 0 0) #[.ref ot, .ref ou] (r4 (1 : Int32) h0 n0) := by
 refine l7 (Ls := #[.val (.ref ot), .val (.ref ou), .unset]) (plainFor_of_name aW4) (fun p e s m U meth c s₁ Y hh f d r O hnm hlk R X0 e0 => ?_)
 replace O : s.vm.findClass "java/lang/StringLatin1" = some m.cls := O
 have N0 := Fr.nil n0
 let L_1 : Array Slot := #[oR ot,oR ou,oU]
 show c5 p e U m s₁ 0 L_1 []
 refine c6 X0 f d bV9 rfl rfl ?_
 refine m7 X0 f d Y e0 At bW0 ?_
 refine c6 X0 f d bW1 rfl rfl ?_
 refine m7 X0 f d Y e0 Au bW2 ?_
 refine m4 X0 f d bW3 (teq (by decide : (2 : Int32) = (2 : Int32))).2 ?_
 refine f6 X0 f d bW4 (z := (0 : Int32)) rfl ?_
 let L_2 : Array Slot := #[oR ot,oR ou,oI 0]
 refine p8 X0 f d bW5 (l' := L_2) rfl ?_
 refine f4 X0 f d ao3 rfl ?_
 refine c6 X0 f d am6 rfl rfl ?_
 refine m7 X0 f d Y e0 At am7 ?_
 refine m4 X0 f d am8 (tlt (by decide : (0 : Int32) < (2 : Int32))).2.1 ?_
 refine c6 X0 f d aK8 rfl rfl ?_
 refine f4 X0 f d aK9 rfl ?_
 refine P5 X0 f d Y e0 At ⟨by decide, by decide⟩ rfl aL0 ?_
 refine c6 X0 f d aL1 rfl rfl ?_
 refine f4 X0 f d aL2 rfl ?_
 refine P5 X0 f d Y e0 Au ⟨by decide, by decide⟩ rfl aL3 ?_
 refine j5 (pc := 21) (pc' := 26) X0 f d aL4 (teq (rfl : c0 = c0)).1 ?_
 show c5 p e U m s₁ 26 L_2 []
 let L_3 : Array Slot := #[oR ot,oR ou,oI 1]
 refine c8 (fun t k => XS.iinc X0.here f rfl (hb d aL5) rfl (l' := L_3) rfl k) ?_
 show c5 p e U m s₁ 29 L_3 []
 refine m5 (pc := 29) (pc' := 9) X0 f d aL6 ?_
 refine f4 X0 f d ao3 rfl ?_
 refine c6 X0 f d am6 rfl rfl ?_
 refine m7 X0 f d Y e0 At am7 ?_
 refine m4 X0 f d am8 (tlt (by decide : (1 : Int32) < (2 : Int32))).2.1 ?_
 refine c6 X0 f d aK8 rfl rfl ?_
 refine f4 X0 f d aK9 rfl ?_
 refine P5 X0 f d Y e0 At ⟨by decide, by decide⟩ rfl aL0 ?_
 refine c6 X0 f d aL1 rfl rfl ?_
 refine f4 X0 f d aL2 rfl ?_
 refine P5 X0 f d Y e0 Au ⟨by decide, by decide⟩ rfl aL3 ?_
 refine j5 (pc := 21) (pc' := 26) X0 f d aL4 (teq (rfl : c1 = c1)).1 ?_
 show c5 p e U m s₁ 26 L_3 []
 let L_4 : Array Slot := #[oR ot,oR ou,oI 2]
 refine c8 (fun t k => XS.iinc X0.here f rfl (hb d aL5) rfl (l' := L_4) rfl k) ?_
 show c5 p e U m s₁ 29 L_4 []
 refine m5 (pc := 29) (pc' := 9) X0 f d aL6 ?_
 refine f4 X0 f d ao3 rfl ?_
 refine c6 X0 f d am6 rfl rfl ?_
 refine m7 X0 f d Y e0 At am7 ?_
 refine j5 (pc := 12) (pc' := 32) X0 f d am8 (flt (by decide : ¬ ((2 : Int32) < (2 : Int32)))).2.1 ?_
 refine f6 X0 f d bx9 (z := (1 : Int32)) rfl ?_
 show c5 p e U m s₁ 33 L_4 [.int 1]
 exact t4 X0 f (t := .boolean) R (by simp) (hb d by0) (by rw [e0]; exact ⟨rfl, N0, rfl⟩) (by decide) (by decide)
theorem bW6:c4 s5 0 (.aload_n 0) 1:=by decide +kernel
theorem bW7:c4 s5 1 (.aload_n 1) 1:=by decide +kernel
theorem aA0:c4 s5 2 (.if_acmp .ne 5) 3:=by decide +kernel
theorem bW8:c4 s5 5 (.iconst 1) 1:=by decide +kernel
theorem bW9:c4 s5 6 .ireturn 1:=by decide +kernel
theorem bX0:c4 s5 7 (.aload_n 1) 1:=by decide +kernel
theorem bX1:c4 s5 8 (.instanceof 10) 3:=by decide +kernel
theorem by1:c4 s5 11 (.ifCond .eq 43) 3:=by decide +kernel
theorem by2:c4 s5 14 (.aload_n 1) 1:=by decide +kernel
theorem by3:c4 s5 15 (.checkcast 10) 3:=by decide +kernel
theorem by4:c4 s5 18 (.astore_n 2) 1:=by decide +kernel
theorem by5:c4 s5 19 (.getstatic 38) 3:=by decide +kernel
theorem by6:c4 s5 22 (.ifCond .eq 14) 3:=by decide +kernel
theorem by7:c4 s5 25 (.aload_n 0) 1:=by decide +kernel
theorem by8:c4 s5 26 (.getfield 15) 3:=by decide +kernel
theorem by9:c4 s5 29 (.aload_n 2) 1:=by decide +kernel
theorem bz0:c4 s5 30 (.getfield 15) 3:=by decide +kernel
theorem bz1:c4 s5 33 (.if_icmp .ne 21) 3:=by decide +kernel
theorem bz2:c4 s5 36 (.aload_n 0) 1:=by decide +kernel
theorem bz3:c4 s5 37 (.getfield 9) 3:=by decide +kernel
theorem bz4:c4 s5 40 (.aload_n 2) 1:=by decide +kernel
theorem bz5:c4 s5 41 (.getfield 9) 3:=by decide +kernel
theorem bz6:c4 s5 44 (.invokestatic 541) 3:=by decide +kernel
theorem bz7:c4 s5 47 (.ifCond .eq 7) 3:=by decide +kernel
theorem bz8:c4 s5 50 (.iconst 1) 1:=by decide +kernel
theorem bz9:c4 s5 51 (.goto 4) 3:=by decide +kernel
theorem bA0:c4 s5 55 .ireturn 1:=by decide +kernel
theorem bX2 : parseMethodDescriptor "([B[B)Z" = some ⟨[(.array .byte), (.array .byte)], some .boolean⟩ := by decide +kernel
theorem dm3 (l : Launch) (Z : State) (a0 : Array Value) (w : j9 Z a0) (ws : List Jvm.Cond) (oa ot : Addr) (kt : ClassId) (ob ou : Addr) (ku : ClassId) (cs_ : List Int32) (z0 pc0 : Addr) (kpc : ClassId) (pcs : List Value) (fm : Value) (al : Addr) (kal : ClassId) (als : List Value) (h0 : Heap) (n0 : Nat) (Z0 : n0 ≤ h0.size) (S_oa : own_S Z h0 oa ot kt (p6 cs_) (m9 cs_)) (S_ob : own_S Z h0 ob ou ku (p6 cs_) (m9 cs_)) (nm_ : own_nm als cs_) (XO : Old Z n0 h0) (WW : r5 Z z0 pc0 kpc pcs fm al kal als) :
 l0 l Z h0 dg4 s5 3 (some .boolean) ws (Jvm.Room.mk 1 0 0 20) #[.ref oa, .ref ob] (r4 (1 : Int32) h0 n0) := by
 refine l7 (Ls := #[.val (.ref oa), .val (.ref ob), .unset]) (plainFor_of_name C4) (fun p e s m U meth c s₁ Y hh f d r O hnm hlk R X0 e0 => ?_)
 replace O : s.vm.findClass "java/lang/String" = some m.cls := O
 have N0 := Fr.nil n0
 obtain ⟨SAl, AAl, r_fm, ⟨cs, hcs, SC⟩, SFM, SZ, BZ, SPc, APc, HPc, HAL, uo, u8, i8, CS⟩ := id WW
 let L_1 : Array Slot := #[oR oa,oR ob,oU]
 show c5 p e U m s₁ 0 L_1 []
 rcases nm_ with ⟨c0, rfl, ok0⟩ | ⟨c0, c1, rfl, ok0, ok1⟩
 · obtain ⟨E_oa, Fc_oa, Fv_oa, At_oa⟩ : own_S Z h0 oa ot kt (1 : Int32) [.int c0] := S_oa
   obtain ⟨E_ob, Fc_ob, Fv_ob, At_ob⟩ : own_S Z h0 ob ou ku (1 : Int32) [.int c0] := S_ob
   show c5 p e U m s₁ 0 L_1 []
   refine c6 X0 f d bW6 rfl rfl ?_
   refine c6 X0 f d bW7 rfl rfl ?_
   show c5 p e U m s₁ 2 L_1 [.ref ob, .ref oa]
   by_cases ha2 : ((.ref oa) : Value) = (.ref ob)
   · refine c8 (fun t k => Jvm.RoadKit.acmp (g := (mkF m 2 L_1 [.ref ob, .ref oa])) X0 f rfl rfl rfl (pc0 := 2) (pc' := 5) (same := true) rfl (hb d aA0) rfl (decide_eq_true ha2) (by decide) (by decide) k) ?_
     show c5 p e U m s₁ 5 L_1 []
     refine f6 X0 f d bW8 (z := (1 : Int32)) rfl ?_
     show c5 p e U m s₁ 6 L_1 [.int 1]
     exact t4 X0 f (t := .boolean) R (by simp) (hb d bW9) (by rw [e0]; exact ⟨rfl, N0, rfl⟩) (by decide) (by decide)
   · refine c8 (fun t k => Jvm.RoadKit.acmp (g := (mkF m 2 L_1 [.ref ob, .ref oa])) X0 f rfl rfl rfl (pc0 := 2) (pc' := 7) (same := false) rfl (hb d aA0) rfl (decide_eq_false ha2) (by decide) (by decide) k) ?_
     show c5 p e U m s₁ 7 L_1 []
     refine c6 X0 f d bX0 rfl rfl ?_
     obtain ⟨T1, X1, e1, st1⟩ := instY X0 f Y O (au8 w) e0 (Ins.self E_ob) (g := (mkF m 8 L_1 [.ref ob])) rfl rfl (hb d bX1)
     refine c8 st1 ?_
     show c5 p e U m T1 11 L_1 [.int 1]
     refine m8 X1 f d by1 ((if0 _ _).trans (feq (by decide : ¬ ((1 : Int32) = (0 : Int32)))).1) ?_
     refine c6 X1 f d by2 rfl rfl ?_
     obtain ⟨T2, X2, e2, st2⟩ := castY X1 f Y O (au8 w) e1 (Ins.self E_ob) (g := (mkF m 15 L_1 [.ref ob])) rfl rfl (hb d by3)
     refine c8 st2 ?_
     show c5 p e U m T2 18 L_1 [.ref ob]
     let L_2 : Array Slot := #[oR oa,oR ob,oR ob]
     refine w9 X2 f d by4 rfl (l' := L_2) rfl ?_
     obtain ⟨T3, X3, e3, st3⟩ := getS2 X2 f Y O (host := "") (Or.inl (R4 w)) Via.refl e2 (SC.ext XO.2) (g := (mkF m 19 L_2 [])) rfl (hb d by5)
     refine c8 st3 ?_
     show c5 p e U m T3 22 L_2 [.int cs]
     refine m8 X3 f d by6 ((if0 _ _).trans (feq hcs).1) ?_
     refine c6 X3 f d by7 rfl rfl ?_
     refine d3 X3 f d Y e3 O (J2 w) Fc_oa by8 (fun T4 X4 e4 => ?_)
     refine c6 X4 f d by9 rfl rfl ?_
     refine d3 X4 f d Y e4 O (J2 w) Fc_ob bz0 (fun T5 X5 e5 => ?_)
     refine m4 X5 f d bz1 (teq (by decide : (0 : Int32) = (0 : Int32))).2 ?_
     refine c6 X5 f d bz2 rfl rfl ?_
     refine d3 X5 f d Y e5 O (J3 w) Fv_oa bz3 (fun T6 X6 e6 => ?_)
     refine c6 X6 f d bz4 rfl rfl ?_
     refine d3 X6 f d Y e6 O (J3 w) Fv_ob bz5 (fun T7 X7 e7 => ?_)
     obtain ⟨_, T8, Lc8, X8, hQ8, st8⟩ := j8 X7 f d r Y e7 O (bl2 w) (bl3 w) (aL7 w) (bl4 w) (dc7 l Z a0 w [] ot ou kt ku c0 h0 n0 Z0 At_oa At_ob) L_2 bz6 [.ref ot, .ref ou] [] 0 0 0 (lenOf bX2 rfl)
     obtain ⟨rfl, Nq8, e8⟩ := hQ8
     have N8 := Fr.app N0 Nq8
     refine c8 st8 ?_
     show c5 p e U m T8 47 L_2 [.int 1]
     refine m8 X8 f d bz7 ((if0 _ _).trans (feq (by decide : ¬ ((1 : Int32) = (0 : Int32)))).1) ?_
     refine f6 X8 f d bz8 (z := (1 : Int32)) rfl ?_
     refine m5 (pc := 51) (pc' := 55) X8 f d bz9 ?_
     show c5 p e U m T8 55 L_2 [.int 1]
     exact t4 X8 f (t := .boolean) R (by simp) (hb d bA0) (by rw [e8]; exact ⟨rfl, N8, rfl⟩) (by decide) (by decide)
 · obtain ⟨E_oa, Fc_oa, Fv_oa, At_oa⟩ : own_S Z h0 oa ot kt (2 : Int32) [.int c0, .int c1] := S_oa
   obtain ⟨E_ob, Fc_ob, Fv_ob, At_ob⟩ : own_S Z h0 ob ou ku (2 : Int32) [.int c0, .int c1] := S_ob
   show c5 p e U m s₁ 0 L_1 []
   refine c6 X0 f d bW6 rfl rfl ?_
   refine c6 X0 f d bW7 rfl rfl ?_
   show c5 p e U m s₁ 2 L_1 [.ref ob, .ref oa]
   by_cases ha2 : ((.ref oa) : Value) = (.ref ob)
   · refine c8 (fun t k => Jvm.RoadKit.acmp (g := (mkF m 2 L_1 [.ref ob, .ref oa])) X0 f rfl rfl rfl (pc0 := 2) (pc' := 5) (same := true) rfl (hb d aA0) rfl (decide_eq_true ha2) (by decide) (by decide) k) ?_
     show c5 p e U m s₁ 5 L_1 []
     refine f6 X0 f d bW8 (z := (1 : Int32)) rfl ?_
     show c5 p e U m s₁ 6 L_1 [.int 1]
     exact t4 X0 f (t := .boolean) R (by simp) (hb d bW9) (by rw [e0]; exact ⟨rfl, N0, rfl⟩) (by decide) (by decide)
   · refine c8 (fun t k => Jvm.RoadKit.acmp (g := (mkF m 2 L_1 [.ref ob, .ref oa])) X0 f rfl rfl rfl (pc0 := 2) (pc' := 7) (same := false) rfl (hb d aA0) rfl (decide_eq_false ha2) (by decide) (by decide) k) ?_
     show c5 p e U m s₁ 7 L_1 []
     refine c6 X0 f d bX0 rfl rfl ?_
     obtain ⟨T9, X9, e9, st9⟩ := instY X0 f Y O (au8 w) e0 (Ins.self E_ob) (g := (mkF m 8 L_1 [.ref ob])) rfl rfl (hb d bX1)
     refine c8 st9 ?_
     show c5 p e U m T9 11 L_1 [.int 1]
     refine m8 X9 f d by1 ((if0 _ _).trans (feq (by decide : ¬ ((1 : Int32) = (0 : Int32)))).1) ?_
     refine c6 X9 f d by2 rfl rfl ?_
     obtain ⟨T10, X10, e10, st10⟩ := castY X9 f Y O (au8 w) e9 (Ins.self E_ob) (g := (mkF m 15 L_1 [.ref ob])) rfl rfl (hb d by3)
     refine c8 st10 ?_
     show c5 p e U m T10 18 L_1 [.ref ob]
     let L_3 : Array Slot := #[oR oa,oR ob,oR ob]
     refine w9 X10 f d by4 rfl (l' := L_3) rfl ?_
     obtain ⟨T11, X11, e11, st11⟩ := getS2 X10 f Y O (host := "") (Or.inl (R4 w)) Via.refl e10 (SC.ext XO.2) (g := (mkF m 19 L_3 [])) rfl (hb d by5)
     refine c8 st11 ?_
     show c5 p e U m T11 22 L_3 [.int cs]
     refine m8 X11 f d by6 ((if0 _ _).trans (feq hcs).1) ?_
     refine c6 X11 f d by7 rfl rfl ?_
     refine d3 X11 f d Y e11 O (J2 w) Fc_oa by8 (fun T12 X12 e12 => ?_)
     refine c6 X12 f d by9 rfl rfl ?_
     refine d3 X12 f d Y e12 O (J2 w) Fc_ob bz0 (fun T13 X13 e13 => ?_)
     refine m4 X13 f d bz1 (teq (by decide : (0 : Int32) = (0 : Int32))).2 ?_
     refine c6 X13 f d bz2 rfl rfl ?_
     refine d3 X13 f d Y e13 O (J3 w) Fv_oa bz3 (fun T14 X14 e14 => ?_)
     refine c6 X14 f d bz4 rfl rfl ?_
     refine d3 X14 f d Y e14 O (J3 w) Fv_ob bz5 (fun T15 X15 e15 => ?_)
     obtain ⟨_, T16, Lc16, X16, hQ16, st16⟩ := j8 X15 f d r Y e15 O (bl2 w) (bl3 w) (aL7 w) (bl4 w) (dc8 l Z a0 w [] ot ou kt ku c0 c1 h0 n0 Z0 At_oa At_ob) L_3 bz6 [.ref ot, .ref ou] [] 0 0 0 (lenOf bX2 rfl)
     obtain ⟨rfl, Nq16, e16⟩ := hQ16
     have N16 := Fr.app N0 Nq16
     refine c8 st16 ?_
     show c5 p e U m T16 47 L_3 [.int 1]
     refine m8 X16 f d bz7 ((if0 _ _).trans (feq (by decide : ¬ ((1 : Int32) = (0 : Int32)))).1) ?_
     refine f6 X16 f d bz8 (z := (1 : Int32)) rfl ?_
     refine m5 (pc := 51) (pc' := 55) X16 f d bz9 ?_
     show c5 p e U m T16 55 L_3 [.int 1]
     exact t4 X16 f (t := .boolean) R (by simp) (hb d bA0) (by rw [e16]; exact ⟨rfl, N16, rfl⟩) (by decide) (by decide)
theorem dc9:c4 method_4_code 0 (.aload_n 0) 1:=by decide +kernel
theorem dd3:c4 method_4_code 1 (.iload_n 1) 1:=by decide +kernel
theorem dd4:c4 method_4_code 2 (.invokevirtual 30) 3:=by decide +kernel
theorem dd5:c4 method_4_code 5 (.astore 7) 2:=by decide +kernel
theorem dd6:c4 method_4_code 7 (.aload 7) 2:=by decide +kernel
theorem dd7:c4 method_4_code 9 (.invokevirtual 34) 3:=by decide +kernel
theorem cE1:c4 method_4_code 12 (.invokevirtual 40) 3:=by decide +kernel
theorem cE2:c4 method_4_code 15 (.aload_n 2) 1:=by decide +kernel
theorem cE3:c4 method_4_code 16 (.invokevirtual 46) 3:=by decide +kernel
theorem cE4:c4 method_4_code 19 (.ifCond .eq 38) 3:=by decide +kernel
theorem cE5:c4 method_4_code 22 (.aload 7) 2:=by decide +kernel
theorem cE6:c4 method_4_code 24 (.invokevirtual 50) 3:=by decide +kernel
theorem cE7:c4 method_4_code 27 (.lload_n 3) 1:=by decide +kernel
theorem cE8:c4 method_4_code 28 (.invokestatic 18) 3:=by decide +kernel
theorem cE9:c4 method_4_code 31 (.invokevirtual 54) 3:=by decide +kernel
theorem cF0:c4 method_4_code 34 (.ifCond .eq 23) 3:=by decide +kernel
theorem cF1:c4 method_4_code 37 (.aload 7) 2:=by decide +kernel
theorem cF2:c4 method_4_code 39 (.invokevirtual 55) 3:=by decide +kernel
theorem cF3:c4 method_4_code 42 (.lload 5) 2:=by decide +kernel
theorem cF4:c4 method_4_code 44 (.invokestatic 18) 3:=by decide +kernel
theorem cF5:c4 method_4_code 47 (.invokevirtual 54) 3:=by decide +kernel
theorem cF6:c4 method_4_code 50 (.ifCond .eq 7) 3:=by decide +kernel
theorem cF7:c4 method_4_code 53 (.iconst 1) 1:=by decide +kernel
theorem cF8:c4 method_4_code 54 (.goto 4) 3:=by decide +kernel
theorem cF9:c4 method_4_code 58 .ireturn 1:=by decide +kernel
theorem dd8 : parseMethodDescriptor "(I)Lcom/example/prizewell/prizewell/core/TicketRange;" = some ⟨[.int], some (.object "com/example/prizewell/prizewell/core/TicketRange")⟩ := by decide +kernel
theorem dd9 : parseMethodDescriptor "()Lcom/example/prizewell/prizewell/core/AccountName;" = some ⟨[], some (.object "com/example/prizewell/prizewell/core/AccountName")⟩ := by decide +kernel
theorem aU0 : parseMethodDescriptor "()Ljava/lang/String;" = some ⟨[], some (.object "java/lang/String")⟩ := by decide +kernel
theorem aU1 : parseMethodDescriptor "(Ljava/lang/Object;)Z" = some ⟨[(.object "java/lang/Object")], some .boolean⟩ := by decide +kernel
theorem bX3 : parseMethodDescriptor "()Ljava/math/BigInteger;" = some ⟨[], some (.object "java/math/BigInteger")⟩ := by decide +kernel
def ch7 (h0 : Heap) (n0 : Nat) (v : Option Value) (h : Heap) (L : List Loc) : Prop := v = some (.int 1) ∧ Fr n0 L ∧ Keep h0 h []
theorem aB4 (l : Launch) (Z : State) (a0 : Array Value) (w : j9 Z a0) (ws : List Jvm.Cond) (oa : Addr) (xi : Int32) (cs_ : List Int32) (xf xc : Int64) (xw : Nat) (os ou : Addr) (ku : ClassId) (z0 pc0 : Addr) (kpc : ClassId) (pcs : List Value) (fm : Value) (al : Addr) (kal : ClassId) (als : List Value) (h0 : Heap) (n0 : Nat) (Z0 : n0 ≤ h0.size) (G : own_G Z h0 oa xi cs_ xf xc xw) (nm_ : own_nm als cs_) (hnf : ¬ xf < 0) (hnc : ¬ xc < 0) (hxw : xw ≤ h0.size) (S_os : own_S Z h0 os ou ku (p6 cs_) (m9 cs_)) (XO : Old Z n0 h0) (WW : r5 Z z0 pc0 kpc pcs fm al kal als) :
 S7 l3 l Z h0 ao6 method_4_code 8 (some .boolean) ws (Jvm.Room.mk 8 16 104 190) #[.ref oa, .int xi, .ref os, .long xf, .long xc] [] (ch7 h0 n0) := by
 refine Y8 (Ls := #[.val (.ref oa), .val (.int xi), .val (.ref os), .val (.long xf), .second, .val (.long xc), .second, .unset]) (plainFor_of_name ao0) (fun m => by first | (simp [entryFrame, mkF, argsToLocals, Value.category]; done) | rfl) (fun p e s m U meth c s₁ Y hh hC0 hsf0 f d r O hnm hlk R X0 e0 => ?_)
 replace O : s.vm.findClass "com/example/prizewell/prizewell/core/TicketRangesAddAllPinLaw" = some m.cls := O
 have N0 := Fr.nil n0
 have hEL := U0 w
 have hR0 : CHr Z l3 s.vm h0 s.vm h0 := CHr.refl hC0
 have hS0 : s.Since s.vm 0 := (State.WarmedH.refl s).since 0
 have hk0 : 0 ≤ h0.size := Nat.zero_le _
 obtain ⟨SAl, AAl, r_fm, ⟨cs, hcs, SC⟩, SFM, SZ, BZ, SPc, APc, HPc, HAL, uo, u8, i8, CS⟩ := id WW
 have Eo := (by obtain ⟨_, _, _, _, _, _, _, _, _, _, _, _, _, _, _, _, _, q, _⟩ := G; exact q.1 : Exa Z h0 oa "com/example/prizewell/prizewell/core/TicketRanges")
 obtain ⟨Es0, Fc0, Fv0, As0⟩ := id S_os
 let L_1 : Array Slot := #[oR oa,oI xi,oR os,oJ xf,.second,oJ xc,.second,oU]
 show c5 p e U m s₁ 0 L_1 []
 refine c6 X0 f d dc9 rfl rfl ?_
 refine f4 X0 f d dd3 rfl ?_
 show c5 p e U m s₁ 2 L_1 [.int xi, .ref oa]
 obtain ⟨cq1, kq1, q1a, q1b, q1c⟩ := isOf Y e0 Eo
 obtain ⟨_, _, ⟨T1, L1, k1, n1⟩, -, X1, hSq1, hgr1, ⟨Lc1, hQ1, l1, y1, z1, hC1⟩, st1⟩ := X0.virtualBackS f (y := aU7) (z := aU7) O (mvT Y (cl7 w)) (mvT Y (cl8 w)) (notFace_of_selects (args := #[]) (mvT Y (bg4 w))) (mvT Y (bg4 w)) (mvT Y (cl9 w)) (by decide) (G8 (s := s) (W := 0) (dm2 l Z a0 w [] oa xi cs_ xf xc xw z0 pc0 kpc pcs fm al kal als h0 n0 Z0 G nm_ hnf hnc hxw XO WW) Y (cm0 w) (v9 w) (by decide) (by decide) hEL hC0 all0) q1a q1c (g := (mkF m 2 L_1 [.int xi, .ref oa])) rfl (by rw [r]; rfl) (Steps.refl _) (argsL := [.int xi]) (rest := []) (lenOf dd8 rfl) rfl (by show 2 * 0 + _ ≤ _; exact f7 rfl) (hb d dd4) (fun _ _ => ⟨rfl, e0, (by decide : 0 + 12 ≤ _), (by decide : 0 + 88 ≤ _)⟩)
 dsimp only [Pt.U, Pt.locs, Pt.cells, Pt.slots] at X1 l1 y1 z1 st1 hQ1 hSq1 hgr1 hC1
 subst l1 y1 z1
 obtain ⟨d1, an1, sv1, tt1, kt1, bf1, bc1, rfl, Nq1, K1, Er1, En1, Fa1, Fw1, S1, Ff1, Fk1, Bf1, Bc1⟩ := hQ1
 have N1 := Fr.app N0 Nq1
 refine c8 (fun t k => st1.trans k) ?_
 have hS1 := foldS (T := s₁) hS0 (by rw [e0]; exact hk0) hSq1 hgr1
 have hZ1 : Z.Warmed39 T1.vm := State.Warmed39.trans (t := s.setVm s.vm) Y hSq1.1
 have hown1 : T1.vm.findClass "com/example/prizewell/prizewell/core/TicketRangesAddAllPinLaw" = some m.cls := by rw [hSq1.1.alike.findClass]; exact O
 have hk1 := Nat.le_refl T1.heap.size
 replace X1 : Stand p l e (Jvm.Room.mk 8 16 104 190) (s.setVm T1.vm) m #[.ref oa, .int xi, .ref os, .long xf, .long xc] U meth c T1 _ _ _ := X1
 have XO__1 := XO.keep K1 all0
 have Es0__1 := Es0.keep K1
 have Fc0__1 := Fc0.keep K1 nin0
 have Fv0__1 := Fv0.keep K1 nin0
 have As0__1 := As0.keep K1 nin0
 have hR1 := hR0.trans hC1
 have hD1 := hR1.1
 have KP1 := (Keep.refl h0 []).trans K1 all0
 have sz1 := c9 Z0 K1.1
 obtain ⟨Es1, Fc1, Fv1, As1⟩ := id S1
 have Ebf1 := Bf1.2.1
 have Ebc1 := Bc1.2.1
 show c5 p e U m T1 5 L_1 [.ref d1]
 let L_2 : Array Slot := #[oR oa,oI xi,oR os,oJ xf,.second,oJ xc,.second,oR d1]
 refine t5 X1 f d dd5 rfl (l' := L_2) rfl ?_
 refine j0 X1 f d dd6 rfl rfl ?_
 obtain ⟨_, T2, Lc2, X2, hQ2, st2⟩ := o1 X1 f d r hZ1 rfl hown1 (co0 w) (co2 w) (co1 w) (co3 w) (am1 w) (co4 w) Er1 (cD8 l Z a0 w [] d1 an1 T1.heap n0 sz1 Fa1) L_2 dd7 [] [] 0 0 0 (lenOf dd9 rfl)
 obtain ⟨rfl, Nq2, e2⟩ := hQ2
 have N2 := Fr.app N1 Nq2
 refine c8 st2 ?_
 obtain ⟨_, T3, Lc3, X3, hQ3, st3⟩ := o1 X2 f d r hZ1 e2 hown1 (co5 w) (aD5 w) (aD4 w) (aD6 w) (F7 w) (aD7 w) En1 (aK7 l Z a0 w [] an1 sv1 T1.heap n0 sz1 Fw1) L_2 cE1 [] [] 0 0 0 (lenOf aU0 rfl)
 obtain ⟨rfl, Nq3, e3⟩ := hQ3
 have N3 := Fr.app N2 Nq3
 refine c8 st3 ?_
 show c5 p e U m T3 15 L_2 [.ref sv1]
 refine c6 X3 f d cE2 rfl rfl ?_
 obtain ⟨_, T4, Lc4, X4, hQ4, st4⟩ := o1 X3 f d r hZ1 e3 hown1 (co6 w) (co8 w) (co7 w) (co9 w) (o6 w) (cp0 w) Es1 (dm3 l Z a0 w [] sv1 tt1 kt1 os ou ku cs_ z0 pc0 kpc pcs fm al kal als T1.heap n0 sz1 ⟨Es1, Fc1, Fv1, As1⟩ ⟨Es0__1, Fc0__1, Fv0__1, As0__1⟩ nm_ XO__1 WW) L_2 cE3 [.ref os] [] 0 0 0 (lenOf aU1 rfl)
 obtain ⟨rfl, Nq4, e4⟩ := hQ4
 have N4 := Fr.app N3 Nq4
 refine c8 st4 ?_
 show c5 p e U m T4 19 L_2 [.int 1]
 refine m8 X4 f d cE4 ((if0 _ _).trans (feq (by decide : ¬ ((1 : Int32) = (0 : Int32)))).1) ?_
 refine j0 X4 f d cE5 rfl rfl ?_
 obtain ⟨_, T5, Lc5, X5, hQ5, st5⟩ := o1 X4 f d r hZ1 e4 hown1 (cp1 w) (cp3 w) (cp2 w) (cp4 w) (am1 w) (cp5 w) Er1 (cD9 l Z a0 w [] d1 bf1 T1.heap n0 sz1 Ff1) L_2 cE6 [] [] 0 0 0 (lenOf bX3 rfl)
 obtain ⟨rfl, Nq5, e5⟩ := hQ5
 have N5 := Fr.app N4 Nq5
 refine c8 st5 ?_
 show c5 p e U m T5 27 L_2 [.ref bf1]
 refine t8 X5 f d cE7 rfl ?_
 obtain ⟨_, T6, Lc6, X6, hQ6, st6⟩ := j8 X5 f d r hZ1 e5 hown1 (ae9 w) (S8 w) (u9 w) (S9 w) (Y6 l Z a0 w [] xf z0 pc0 kpc pcs fm al kal als T1.heap n0 sz1 hnf XO__1 WW) L_2 cE8 [.long xf] [.ref bf1] 1 2 8 (lenOf Q3 rfl)
 obtain ⟨d6, rfl, Nq6, K6, Bp6⟩ := hQ6
 have N6 := Fr.app N5 Nq6
 refine c8 st6 ?_
 have XO__6 := XO__1.keep K6 all0
 have Er1__6 := Er1.keep K6
 have Fk1__6 := Fk1.keep K6 nin0
 have Bf1__6 := Bf1.keep K6 all0
 have Ebf1__6 := Ebf1.keep K6
 have Bc1__6 := Bc1.keep K6 all0
 have Ebc1__6 := Ebc1.keep K6
 have hR6 := hR1.trans (CHr.keep K6 (show ∀ y ∈ ([] : List Addr), Safe Z l3 T1.vm T1.heap y from sf0) hD1)
 have hC6 := hR6.1
 have KP6 := KP1.trans K6 all0
 have sz6 := c9 sz1 K6.1
 have hk6 := c9 hk1 K6.1
 obtain ⟨_, T7, Lc7, X7, hQ7, st7⟩ := o1 X6 f d r hZ1 rfl hown1 (bl5 w) (bl7 w) (bl6 w) (bl8 w) (u9 w) (bl9 w) Ebf1__6 (cb7 l Z a0 w [] bf1 _ d6 _ xf T6.heap n0 sz6 Bf1__6 Bp6.bi) L_2 cE9 [.ref d6] [] 0 0 0 (lenOf aU1 rfl)
 obtain ⟨rfl, Nq7, e7⟩ := hQ7
 have N7 := Fr.app N6 Nq7
 refine c8 st7 ?_
 show c5 p e U m T7 34 L_2 [.int 1]
 refine m8 X7 f d cF0 ((if0 _ _).trans (feq (by decide : ¬ ((1 : Int32) = (0 : Int32)))).1) ?_
 refine j0 X7 f d cF1 rfl rfl ?_
 obtain ⟨_, T8, Lc8, X8, hQ8, st8⟩ := o1 X7 f d r hZ1 e7 hown1 (cp6 w) (cp8 w) (cp7 w) (cp9 w) (am1 w) (cq0 w) Er1__6 (cE0 l Z a0 w [] d1 bc1 T6.heap n0 sz6 Fk1__6) L_2 cF2 [] [] 0 0 0 (lenOf bX3 rfl)
 obtain ⟨rfl, Nq8, e8⟩ := hQ8
 have N8 := Fr.app N7 Nq8
 refine c8 st8 ?_
 show c5 p e U m T8 42 L_2 [.ref bc1]
 refine o3 X8 f d cF3 rfl ?_
 obtain ⟨_, T9, Lc9, X9, hQ9, st9⟩ := j8 X8 f d r hZ1 e8 hown1 (ae9 w) (S8 w) (u9 w) (S9 w) (Y6 l Z a0 w [] xc z0 pc0 kpc pcs fm al kal als T6.heap n0 sz6 hnc XO__6 WW) L_2 cF4 [.long xc] [.ref bc1] 1 2 8 (lenOf Q3 rfl)
 obtain ⟨d9, rfl, Nq9, K9, Bp9⟩ := hQ9
 have N9 := Fr.app N8 Nq9
 refine c8 st9 ?_
 have Bc1__9 := Bc1__6.keep K9 all0
 have Ebc1__9 := Ebc1__6.keep K9
 have hR9 := hR6.trans (CHr.keep K9 (show ∀ y ∈ ([] : List Addr), Safe Z l3 T1.vm T6.heap y from sf0) hC6)
 have hC9 := hR9.1
 have KP9 := KP6.trans K9 all0
 have sz9 := c9 sz6 K9.1
 have hk9 := c9 hk6 K9.1
 obtain ⟨_, T10, Lc10, X10, hQ10, st10⟩ := o1 X9 f d r hZ1 rfl hown1 (bl5 w) (bl7 w) (bl6 w) (bl8 w) (u9 w) (bl9 w) Ebc1__9 (cb7 l Z a0 w [] bc1 _ d9 _ xc T9.heap n0 sz9 Bc1__9 Bp9.bi) L_2 cF5 [.ref d9] [] 0 0 0 (lenOf aU1 rfl)
 obtain ⟨rfl, Nq10, e10⟩ := hQ10
 have N10 := Fr.app N9 Nq10
 refine c8 st10 ?_
 show c5 p e U m T10 50 L_2 [.int 1]
 refine m8 X10 f d cF6 ((if0 _ _).trans (feq (by decide : ¬ ((1 : Int32) = (0 : Int32)))).1) ?_
 refine f6 X10 f d cF7 (z := (1 : Int32)) rfl ?_
 refine m5 (pc := 54) (pc' := 58) X10 f d cF8 ?_
 show c5 p e U m T10 58 L_2 [.int 1]
 have hF : CHr Z l3 s.vm s.heap T10.vm T10.heap := by rw [hh, e10]; exact hR9.trans (CHv.at X10 hZ1 hEL hC9)
 exact Y7 X10 f (t := .boolean) R (by simp) (hb d cF9) hS1 (by rw [e10]; exact hk9) (by rw [e10]; exact ⟨rfl, N10, KP9⟩) (hF) (by decide) (by decide)
theorem F5 {Z : State} {h : Heap} {a b : Addr} {k k' : ClassId} {ty ty' : FieldType} {z z' : Int32} {vs vs' : List Value} {d d' : Value} (A : Arv Z h a k ty z vs d) (B : Arv Z h b k' ty' z' vs' d') (hne : ty ≠ ty') : a ≠ b := fun q => by
 subst q
 obtain ⟨c1, ⟨e1, ⟨-, k1, hk1, comp1, hkd1⟩, -⟩, -⟩ := A
 obtain ⟨c2, ⟨e2, ⟨-, k2, hk2, comp2, hkd2⟩, -⟩, -⟩ := B
 cases e1.symm.trans e2
 cases hk1.symm.trans hk2
 rw [hkd1] at hkd2
 cases hkd2
 exact hne rfl
theorem bX4:c4 j4 0 (.aload_n 1) 1:=by decide +kernel
theorem bX5:c4 j4 1 (.invokevirtual 23) 3:=by decide +kernel
theorem bX6:c4 j4 4 (.astore 4) 2:=by decide +kernel
theorem bX7:c4 j4 6 (.aload_n 0) 1:=by decide +kernel
theorem bX8:c4 j4 7 (.getfield 27) 3:=by decide +kernel
theorem bA1:c4 j4 10 (.aload_n 0) 1:=by decide +kernel
theorem bA2:c4 j4 11 (.getfield 9) 3:=by decide +kernel
theorem bA3:c4 j4 14 .arraylength 1:=by decide +kernel
theorem bA4:c4 j4 15 (.if_icmp .ne 55) 3:=by decide +kernel
theorem bA5:c4 j4 18 (.aload_n 0) 1:=by decide +kernel
theorem bA6:c4 j4 19 (.getfield 27) 3:=by decide +kernel
theorem bA7:c4 j4 22 (.ifCond .ne 7) 3:=by decide +kernel
theorem cG0:c4 j4 25 (.iconst 1) 1:=by decide +kernel
theorem cG1:c4 j4 26 (.goto 14) 3:=by decide +kernel
theorem bA8:c4 j4 40 (.istore 5) 2:=by decide +kernel
theorem bA9:c4 j4 42 (.aload_n 0) 1:=by decide +kernel
theorem bB0:c4 j4 43 (.aload_n 0) 1:=by decide +kernel
theorem bB1:c4 j4 44 (.getfield 9) 3:=by decide +kernel
theorem bB2:c4 j4 47 (.iload 5) 2:=by decide +kernel
theorem bB3:c4 j4 49 (.invokestatic 37) 3:=by decide +kernel
theorem bB4:c4 j4 52 (.putfield 9) 3:=by decide +kernel
theorem bB5:c4 j4 55 (.aload_n 0) 1:=by decide +kernel
theorem bB6:c4 j4 56 (.aload_n 0) 1:=by decide +kernel
theorem bB7:c4 j4 57 (.getfield 15) 3:=by decide +kernel
theorem bB8:c4 j4 60 (.iload 5) 2:=by decide +kernel
theorem bB9:c4 j4 62 (.iconst 1) 1:=by decide +kernel
theorem bC0:c4 j4 63 .iadd 1:=by decide +kernel
theorem bC1:c4 j4 64 (.invokestatic 43) 3:=by decide +kernel
theorem bC2:c4 j4 67 (.putfield 15) 3:=by decide +kernel
theorem bC3:c4 j4 70 (.aload_n 0) 1:=by decide +kernel
theorem bC4:c4 j4 71 (.getfield 15) 3:=by decide +kernel
theorem bC5:c4 j4 74 (.aload_n 0) 1:=by decide +kernel
theorem bC6:c4 j4 75 (.getfield 27) 3:=by decide +kernel
theorem bC7:c4 j4 78 .iaload 1:=by decide +kernel
theorem av6:c4 j4 79 (.aload 4) 2:=by decide +kernel
theorem av7:c4 j4 81 (.invokevirtual 46) 3:=by decide +kernel
theorem av8:c4 j4 84 .iadd 1:=by decide +kernel
theorem av9:c4 j4 85 (.istore 5) 2:=by decide +kernel
theorem aw0:c4 j4 87 (.iload 5) 2:=by decide +kernel
theorem aw1:c4 j4 89 (.aload_n 0) 1:=by decide +kernel
theorem aw2:c4 j4 90 (.getfield 19) 3:=by decide +kernel
theorem aw3:c4 j4 93 .arraylength 1:=by decide +kernel
theorem aw4:c4 j4 94 (.if_icmp .le 31) 3:=by decide +kernel
theorem bC8:c4 j4 97 (.aload_n 0) 1:=by decide +kernel
theorem bC9:c4 j4 98 (.aload_n 0) 1:=by decide +kernel
theorem bD0:c4 j4 99 (.getfield 19) 3:=by decide +kernel
theorem bc4:c4 j4 102 (.bipush 64) 2:=by decide +kernel
theorem bc5:c4 j4 104 (.aload_n 0) 1:=by decide +kernel
theorem bc6:c4 j4 105 (.getfield 19) 3:=by decide +kernel
theorem bc7:c4 j4 108 .arraylength 1:=by decide +kernel
theorem bc8:c4 j4 109 (.iconst 2) 1:=by decide +kernel
theorem bc9:c4 j4 110 .imul 1:=by decide +kernel
theorem bd0:c4 j4 111 (.iload 5) 2:=by decide +kernel
theorem bd1:c4 j4 113 (.invokestatic 31) 3:=by decide +kernel
theorem bd2:c4 j4 116 (.invokestatic 31) 3:=by decide +kernel
theorem bd3:c4 j4 119 (.invokestatic 52) 3:=by decide +kernel
theorem bd4:c4 j4 122 (.putfield 19) 3:=by decide +kernel
theorem ap7:c4 j4 125 (.iconst 0) 1:=by decide +kernel
theorem ap8:c4 j4 126 (.istore 6) 2:=by decide +kernel
theorem ap9:c4 j4 128 (.aload_n 0) 1:=by decide +kernel
theorem aq0:c4 j4 129 (.getfield 15) 3:=by decide +kernel
theorem aq1:c4 j4 132 (.aload_n 0) 1:=by decide +kernel
theorem aq2:c4 j4 133 (.getfield 27) 3:=by decide +kernel
theorem aq3:c4 j4 136 .iaload 1:=by decide +kernel
theorem aq4:c4 j4 137 (.istore 7) 2:=by decide +kernel
theorem I4:c4 j4 139 (.iload 6) 2:=by decide +kernel
theorem I5:c4 j4 141 (.aload 4) 2:=by decide +kernel
theorem I6:c4 j4 143 (.invokevirtual 46) 3:=by decide +kernel
theorem I7:c4 j4 146 (.if_icmp .ge 27) 3:=by decide +kernel
theorem Z8:c4 j4 149 (.aload_n 0) 1:=by decide +kernel
theorem Z9:c4 j4 150 (.getfield 19) 3:=by decide +kernel
theorem aa0:c4 j4 153 (.iload 7) 2:=by decide +kernel
theorem aa1:c4 j4 155 (.iload 6) 2:=by decide +kernel
theorem aa2:c4 j4 157 .iadd 1:=by decide +kernel
theorem aa3:c4 j4 158 (.aload 4) 2:=by decide +kernel
theorem aa4:c4 j4 160 (.iload 6) 2:=by decide +kernel
theorem aa5:c4 j4 162 (.invokevirtual 55) 3:=by decide +kernel
theorem aa6:c4 j4 165 .i2b 1:=by decide +kernel
theorem aa7:c4 j4 166 .bastore 1:=by decide +kernel
theorem aa8:c4 j4 167 (.iinc 6 1) 3:=by decide +kernel
theorem aa9:c4 j4 170 (.goto (-31)) 3:=by decide +kernel
theorem aq5:c4 j4 173 (.aload_n 0) 1:=by decide +kernel
theorem aq6:c4 j4 174 (.getfield 9) 3:=by decide +kernel
theorem aq7:c4 j4 177 (.aload_n 0) 1:=by decide +kernel
theorem aq8:c4 j4 178 (.getfield 27) 3:=by decide +kernel
theorem aq9:c4 j4 181 (.aload_n 2) 1:=by decide +kernel
theorem ar0:c4 j4 182 (.invokevirtual 59) 3:=by decide +kernel
theorem ar1:c4 j4 185 .lastore 1:=by decide +kernel
theorem ar2:c4 j4 186 (.aload_n 0) 1:=by decide +kernel
theorem ar3:c4 j4 187 (.getfield 15) 3:=by decide +kernel
theorem ar4:c4 j4 190 (.aload_n 0) 1:=by decide +kernel
theorem ar5:c4 j4 191 .dup 1:=by decide +kernel
theorem ar6:c4 j4 192 (.getfield 27) 3:=by decide +kernel
theorem ar7:c4 j4 195 (.iconst 1) 1:=by decide +kernel
theorem ar8:c4 j4 196 .iadd 1:=by decide +kernel
theorem ar9:c4 j4 197 .dup_x1 1:=by decide +kernel
theorem as0:c4 j4 198 (.putfield 27) 3:=by decide +kernel
theorem as1:c4 j4 201 (.iload 5) 2:=by decide +kernel
theorem as2:c4 j4 203 .iastore 1:=by decide +kernel
theorem as3:c4 j4 204 (.aload_n 0) 1:=by decide +kernel
theorem as4:c4 j4 205 (.aload_n 3) 1:=by decide +kernel
theorem as5:c4 j4 206 (.putfield 65) 3:=by decide +kernel
theorem as6:c4 j4 209 .return_ 1:=by decide +kernel
theorem ak3 : parseMethodDescriptor "([JI)[J" = some ⟨[(.array .long), .int], some (.array .long)⟩ := by decide +kernel
theorem ak4 : parseMethodDescriptor "([II)[I" = some ⟨[(.array .int), .int], some (.array .int)⟩ := by decide +kernel
theorem aA1 : parseMethodDescriptor "([BI)[B" = some ⟨[(.array .byte), .int], some (.array .byte)⟩ := by decide +kernel
theorem aA2 : parseMethodDescriptor "()J" = some ⟨[], some .long⟩ := by decide +kernel
def cg0 (Z : State) (oa : Addr) (W : List Addr) (cs_ : List Int32) (xn : Int64) (bc : Addr) (h0 : Heap) (n0 : Nat) (v : Option Value) (h : Heap) (L : List Loc) : Prop := v = none ∧ Fr n0 L ∧ Keep h0 h W ∧ ∃ W' : List Addr, (∀ y ∈ W', y ∈ W ∨ h0.size ≤ y) ∧ own_L Z h oa [cs_] [xn] W' (.ref bc) 1 2 64
theorem de0 (l : Launch) (Z : State) (a0 : Array Value) (w : j9 Z a0) (ws : List Jvm.Cond) (oa oc os ot bf bc : Addr) (kt : ClassId) (cs_ : List Int32) (xn : Int64) (W : List Addr) (lc : Value) (P_ : Addr → Prop) (xw : Nat) (z0 pc0 : Addr) (kpc : ClassId) (pcs : List Value) (fm : Value) (al : Addr) (kal : ClassId) (als : List Value) (h0 : Heap) (n0 : Nat) (Z0 : n0 ≤ h0.size) (Lq : own_L Z h0 oa [] [] W lc 0 1 0) (NM : own_NM Z h0 oc os ot kt cs_ xw) (nm_ : own_nm als cs_) (Bf : own_BP Z h0 bf xn P_) (gW : ∀ y ∈ W, n0 ≤ y) (hP : ∀ y ∈ W, ¬ P_ y) (hP2 : ∀ y, P_ y → y < h0.size) (hW0 : ∀ y ∈ W, xw ≤ y) (hxw : xw ≤ h0.size) (hnn : ¬ xn < 0) (r_lc : lc.isRef = true)  (XO : Old Z n0 h0) (WW : r5 Z z0 pc0 kpc pcs fm al kal als) :
 l0 l Z h0 cb0 j4 8 none ws (Jvm.Room.mk 4 3 81 70) #[.ref oa, .ref oc, .ref bf, .ref bc] (cg0 Z oa  W cs_ xn bc h0 n0) := by
 refine l7 (Ls := #[.val (.ref oa), .val (.ref oc), .val (.ref bf), .val (.ref bc), .unset, .unset, .unset, .unset]) (plainFor_of_name E0) (fun p e s m U meth c s₁ Y hh f d r O hnm hlk R X0 e0 => ?_)
 replace O : s.vm.findClass "com/example/prizewell/prizewell/core/TicketRanges" = some m.cls := O
 have N0 := Fr.nil n0
 obtain ⟨SAl, AAl, r_fm, ⟨cs, hcs, SC⟩, SFM, SZ, BZ, SPc, APc, HPc, HAL, uo, u8, i8, CS⟩ := id WW
 obtain ⟨tf, tn, tb, ktf, ktn, ktb, rfl, ⟨Et, Fst, Fft, Fnt, Fbt, Flt⟩, Aft, Agt, Abt, Ebt⟩ := id Lq
 have g_oa := gW _ (List.mem_of_getElem? (i := 0) rfl)
 have ne_otn := Exa.neArv Et Agt (o0 w)
 have ne_otb := Exa.neArv Et Abt (o0 w)
 have Ec := NM.2.1
 have Es := NM.2.2.2.1
 have Ebf := Bf.2.1
 let L_1 : Array Slot := #[oR oa,oR oc,oR bf,oR bc,oU,oU,oU,oU]
 show c5 p e U m s₁ 0 L_1 []
 refine c6 X0 f d bX4 rfl rfl ?_
 obtain ⟨_, T1, Lc1, X1, hQ1, st1⟩ := o1 X0 f d r Y e0 O (bf7 w) (aD5 w) (aD4 w) (aD6 w) (F7 w) (aD7 w) Ec (aK7 l Z a0 w [] oc os h0 n0 Z0 NM.2.2.1) L_1 bX5 [] [] 0 0 0 (lenOf aU0 rfl)
 obtain ⟨rfl, Nq1, e1⟩ := hQ1
 have N1 := Fr.app N0 Nq1
 refine c8 st1 ?_
 show c5 p e U m T1 4 L_1 [.ref os]
 let L_2 : Array Slot := #[oR oa,oR oc,oR bf,oR bc,oR os,oU,oU,oU]
 refine t5 X1 f d bX6 rfl (l' := L_2) rfl ?_
 refine c6 X1 f d bX7 rfl rfl ?_
 refine d3 X1 f d Y e1 O (i6 w) Fst bX8 (fun T2 X2 e2 => ?_)
 refine c6 X2 f d bA1 rfl rfl ?_
 refine d3 X2 f d Y e2 O (o9 w) Fft bA2 (fun T3 X3 e3 => ?_)
 refine m7 X3 f d Y e3 Aft bA3 ?_
 refine m4 X3 f d bA4 (teq (by decide : (0 : Int32) = (0 : Int32))).2 ?_
 refine c6 X3 f d bA5 rfl rfl ?_
 refine d3 X3 f d Y e3 O (i6 w) Fst bA6 (fun T5 X5 e5 => ?_)
 refine m8 X5 f d bA7 ((if0 _ _).trans (teq (by decide : (0 : Int32) = (0 : Int32))).2) ?_
 refine f6 X5 f d cG0 (z := (1 : Int32)) rfl ?_
 refine m5 (pc := 26) (pc' := 40) X5 f d cG1 ?_
 let L_3 : Array Slot := #[oR oa,oR oc,oR bf,oR bc,oR os,oI 1,oU,oU]
 refine o4 X5 f d bA8 (l' := L_3) rfl ?_
 refine c6 X5 f d bA9 rfl rfl ?_
 refine c6 X5 f d bB0 rfl rfl ?_
 refine d3 X5 f d Y e5 O (o9 w) Fft bB1 (fun T6 X6 e6 => ?_)
 refine f5 X6 f d bB2 rfl ?_
 obtain ⟨_, T7, Lc7, X7, hQ7, st7⟩ := j8 X6 f d r Y e6 O (af0 w) (af1 w) (t6 w) (af2 w) (cf2 l Z a0 w [] tf ktf  h0 n0 Z0 Aft) L_3 bB3 [.ref tf, .int 1] [.ref oa] 1 1 1 (lenOf ak3 rfl)
 obtain ⟨d7, kd7, rfl, Nq7, K7, ge7, A7⟩ := hQ7
 have N7 := Fr.app N1 Nq7
 refine c8 st7 ?_
 have g_d7 : n0 ≤ d7 := c9 Z0 ge7
 have sz_d7 : h0.size ≤ d7 := c9 (Keep.refl h0 [oa, tf, tn, tb]).1 ge7
 have ne_oa_d7 : oa ≠ d7 := Nat.ne_of_lt (j3 Et.lt ge7)
 have XO__7 := XO.keep K7 all0
 have Et__7 := Et.keep K7
 have Fst__7 := Fst.keep K7 nin0
 have Fft__7 := Fft.keep K7 nin0
 have Fnt__7 := Fnt.keep K7 nin0
 have Fbt__7 := Fbt.keep K7 nin0
 have Flt__7 := Flt.keep K7 nin0
 have Agt__7 := Agt.keep K7 nin0
 have Abt__7 := Abt.keep K7 nin0
 have Es__7 := Es.keep K7
 have Ebf__7 := Ebf.keep K7
 have NM__7 := NM.keep K7 all0
 have Bf__7 := Bf.keep K7 all0
 have KP7 := (Keep.refl h0 [oa, tf, tn, tb]).trans K7 all0
 have sz7 := c9 Z0 K7.1
 obtain ⟨T8, h8, X8, e8, W8, st8⟩ := putF X7 f Y O (host := "") (Or.inl (o9 w)) Via.refl rfl Fft__7 Et__7 (Or.inl (x4 w)) (o0 w) (ty := (.array .long)) (by decide) rfl rfl (g := (mkF m 52 L_3 [.ref d7, .ref oa])) rfl rfl (hb d bB4)
 have Fw8 := Fft__7.same W8
 have XO__8 := XO__7.wr W8 g_oa
 have Et__8 := Et__7.wr W8
 have Fst__8 := Fst__7.other W8 (Or.inr (Y4 w))
 have Fnt__8 := Fnt__7.other W8 (Or.inr (Y5 w))
 have Fbt__8 := Fbt__7.other W8 (Or.inr (U4 w))
 have Flt__8 := Flt__7.other W8 (Or.inr (U5 w))
 have Agt__8 := Agt__7.other W8 (Ne.symm ne_otn)
 have Abt__8 := Abt__7.other W8 (Ne.symm ne_otb)
 have Es__8 := Es__7.wr W8
 have Ebf__8 := Ebf__7.wr W8
 have NM__8 := NM__7.keep (Keep.of_wr W8) (allS (hW0 _ (List.mem_of_getElem? (i := 0) rfl)) all0)
 have Bf__8 := Bf__7.keep (Keep.of_wr W8) (allS (hP _ (List.mem_of_getElem? (i := 0) rfl)) all0)
 have A7__8 := A7.other W8 (Ne.symm ne_oa_d7)
 have N8 := Fr.snoc X8 N7 g_oa
 have KP8 := KP7.wr W8 (Or.inl (List.mem_of_getElem? (i := 0) rfl))
 have sz8 := c9 sz7 (Keep.of_wr W8).1
 refine c8 st8 ?_
 show c5 p e U m T8 55 L_3 []
 refine c6 X8 f d bB5 rfl rfl ?_
 refine c6 X8 f d bB6 rfl rfl ?_
 refine d3 X8 f d Y e8 O (m6 w) Fnt__8 bB7 (fun T9 X9 e9 => ?_)
 refine f5 X9 f d bB8 rfl ?_
 refine f6 X9 f d bB9 (z := (1 : Int32)) rfl ?_
 refine n7 X9 f d bC0 ?_
 obtain ⟨_, T10, Lc10, X10, hQ10, st10⟩ := j8 X9 f d r Y e9 O (af3 w) (af4 w) (t6 w) (af5 w) (cf3 l Z a0 w [] tn ktn (0 : Int32) h8 n0 sz8 Agt__8) L_3 bC1 [.ref tn, .int 2] [.ref oa] 1 1 2 (lenOf ak4 rfl)
 obtain ⟨d10, kd10, rfl, Nq10, K10, ge10, A10⟩ := hQ10
 have N10 := Fr.app N8 Nq10
 refine c8 st10 ?_
 have g_d10 : n0 ≤ d10 := c9 sz8 ge10
 have sz_d10 : h0.size ≤ d10 := c9 KP8.1 ge10
 have ne_oa_d10 : oa ≠ d10 := Nat.ne_of_lt (j3 Et__8.lt ge10)
 have ne_d7_d10 : d7 ≠ d10 := Nat.ne_of_lt (j3 A7__8.lt ge10)
 have XO__10 := XO__8.keep K10 all0
 have Et__10 := Et__8.keep K10
 have Fst__10 := Fst__8.keep K10 nin0
 have Fw8__10 := Fw8.keep K10 nin0
 have Fnt__10 := Fnt__8.keep K10 nin0
 have Fbt__10 := Fbt__8.keep K10 nin0
 have Flt__10 := Flt__8.keep K10 nin0
 have Abt__10 := Abt__8.keep K10 nin0
 have Es__10 := Es__8.keep K10
 have Ebf__10 := Ebf__8.keep K10
 have NM__10 := NM__8.keep K10 all0
 have Bf__10 := Bf__8.keep K10 all0
 have A7__10 := A7__8.keep K10 nin0
 have KP10 := KP8.trans K10 all0
 have sz10 := c9 sz8 K10.1
 obtain ⟨T11, h11, X11, e11, W11, st11⟩ := putF X10 f Y O (host := "") (Or.inl (m6 w)) Via.refl rfl Fnt__10 Et__10 (Or.inl (x5 w)) (o0 w) (ty := (.array .int)) (by decide) rfl rfl (g := (mkF m 67 L_3 [.ref d10, .ref oa])) rfl rfl (hb d bC2)
 have Fw11 := Fnt__10.same W11
 have XO__11 := XO__10.wr W11 g_oa
 have Et__11 := Et__10.wr W11
 have Fst__11 := Fst__10.other W11 (Or.inr (U6 w))
 have Fw8__11 := Fw8__10.other W11 (Or.inr (U7 w))
 have Fbt__11 := Fbt__10.other W11 (Or.inr (U8 w))
 have Flt__11 := Flt__10.other W11 (Or.inr (U9 w))
 have Abt__11 := Abt__10.other W11 (Ne.symm ne_otb)
 have Es__11 := Es__10.wr W11
 have Ebf__11 := Ebf__10.wr W11
 have NM__11 := NM__10.keep (Keep.of_wr W11) (allS (hW0 _ (List.mem_of_getElem? (i := 0) rfl)) all0)
 have Bf__11 := Bf__10.keep (Keep.of_wr W11) (allS (hP _ (List.mem_of_getElem? (i := 0) rfl)) all0)
 have A7__11 := A7__10.other W11 (Ne.symm ne_oa_d7)
 have A10__11 := A10.other W11 (Ne.symm ne_oa_d10)
 have N11 := Fr.snoc X11 N10 g_oa
 have KP11 := KP10.wr W11 (Or.inl (List.mem_of_getElem? (i := 0) rfl))
 have sz11 := c9 sz10 (Keep.of_wr W11).1
 refine c8 st11 ?_
 show c5 p e U m T11 70 L_3 []
 refine c6 X11 f d bC3 rfl rfl ?_
 refine d3 X11 f d Y e11 O (m6 w) Fw11 bC4 (fun T12 X12 e12 => ?_)
 refine c6 X12 f d bC5 rfl rfl ?_
 refine d3 X12 f d Y e12 O (i6 w) Fst__11 bC6 (fun T13 X13 e13 => ?_)
 refine n3 X13 f d Y e13 A10__11 ⟨by decide, by decide⟩ rfl bC7 ?_
 show c5 p e U m T13 79 L_3 [.int 0]
 rcases nm_ with ⟨c0, rfl, ok0⟩ | ⟨c0, c1, rfl, ok0, ok1⟩
 · skip
   refine j0 X13 f d av6 rfl rfl ?_
   obtain ⟨_, T15, Lc15, X15, hQ15, st15⟩ := o1 X13 f d r Y e13 O (F6 w) (C0 w) (B9 w) (C1 w) (o6 w) (C2 w) Es__11 (C5 l Z a0 w [] os ot kt (1 : Int32) [.int c0] z0 pc0 kpc pcs fm al kal als h11 n0 sz11 NM__11.2.2.2 XO__11 WW) L_3 av7 [] [.int 0] 1 0 0 (lenOf v7 rfl)
   obtain ⟨rfl, Nq15, e15⟩ := hQ15
   have N15 := Fr.app N11 Nq15
   refine c8 st15 ?_
   show c5 p e U m T15 84 L_3 [.int 1, .int 0]
   refine n7 X15 f d av8 ?_
   show c5 p e U m T15 85 L_3 [.int 1]
   refine o4 X15 f d av9 (l' := L_3) rfl ?_
   refine f5 X15 f d aw0 rfl ?_
   refine c6 X15 f d aw1 rfl rfl ?_
   refine d3 X15 f d Y e15 O (o8 w) Fbt__11 aw2 (fun T16 X16 e16 => ?_)
   refine m7 X16 f d Y e16 Abt__11 aw3 ?_
   refine m4 X16 f d aw4 (tlt (by decide : (0 : Int32) < (1 : Int32))).2.2.2 ?_
   refine c6 X16 f d bC8 rfl rfl ?_
   refine c6 X16 f d bC9 rfl rfl ?_
   refine d3 X16 f d Y e16 O (o8 w) Fbt__11 bD0 (fun T18 X18 e18 => ?_)
   refine t9 X18 f d bc4 (z := (64 : Int32)) rfl ?_
   refine c6 X18 f d bc5 rfl rfl ?_
   refine d3 X18 f d Y e18 O (o8 w) Fbt__11 bc6 (fun T19 X19 e19 => ?_)
   refine m7 X19 f d Y e19 Abt__11 bc7 ?_
   refine f6 X19 f d bc8 (z := (2 : Int32)) rfl ?_
   refine P3 X19 f d bc9 ?_
   show c5 p e U m T19 111 L_3 [.int 0, .int 64, .ref tb, .ref oa]
   refine f5 X19 f d bd0 rfl ?_
   obtain ⟨_, T21, Lc21, X21, hQ21, st21⟩ := j8 X19 f d r Y e19 O (D1 w) (D6 w) (s6 w) (D9 w) (ak0 l Z a0 w [] (0 : Int32) (1 : Int32) h11 n0 sz11 (by decide)) L_3 bd1 [.int 0, .int 1] [.int 64, .ref tb, .ref oa] 3 0 0 (lenOf s9 rfl)
   obtain ⟨rfl, Nq21, e21⟩ := hQ21
   have N21 := Fr.app N15 Nq21
   refine c8 st21 ?_
   obtain ⟨_, T22, Lc22, X22, hQ22, st22⟩ := j8 X21 f d r Y e21 O (D1 w) (D6 w) (s6 w) (D9 w) (Q2 l Z a0 w [] (64 : Int32) (1 : Int32) h11 n0 sz11 (by decide)) L_3 bd2 [.int 64, .int 1] [.ref tb, .ref oa] 2 0 0 (lenOf s9 rfl)
   obtain ⟨rfl, Nq22, e22⟩ := hQ22
   have N22 := Fr.app N21 Nq22
   refine c8 st22 ?_
   obtain ⟨_, T23, Lc23, X23, hQ23, st23⟩ := j8 X22 f d r Y e22 O (at1 w) (at2 w) (t6 w) (at3 w) (aX7 l Z a0 w [] tb ktb  h11 n0 sz11 Abt__11) L_3 bd3 [.ref tb, .int 64] [.ref oa] 1 1 64 (lenOf aA1 rfl)
   obtain ⟨d23, kd23, rfl, Nq23, K23, ge23, A23, Ey23⟩ := hQ23
   have N23 := Fr.app N22 Nq23
   refine c8 st23 ?_
   have g_d23 : n0 ≤ d23 := c9 sz11 ge23
   have sz_d23 : h0.size ≤ d23 := c9 KP11.1 ge23
   have ne_oa_d23 : oa ≠ d23 := Nat.ne_of_lt (j3 Et__11.lt ge23)
   have ne_d7_d23 : d7 ≠ d23 := Nat.ne_of_lt (j3 A7__11.lt ge23)
   have ne_d10_d23 : d10 ≠ d23 := Nat.ne_of_lt (j3 A10__11.lt ge23)
   have XO__23 := XO__11.keep K23 all0
   have Et__23 := Et__11.keep K23
   have Fst__23 := Fst__11.keep K23 nin0
   have Fw8__23 := Fw8__11.keep K23 nin0
   have Fw11__23 := Fw11.keep K23 nin0
   have Fbt__23 := Fbt__11.keep K23 nin0
   have Flt__23 := Flt__11.keep K23 nin0
   have Es__23 := Es__11.keep K23
   have Ebf__23 := Ebf__11.keep K23
   have NM__23 := NM__11.keep K23 all0
   have Bf__23 := Bf__11.keep K23 all0
   have A7__23 := A7__11.keep K23 nin0
   have A10__23 := A10__11.keep K23 nin0
   have KP23 := KP11.trans K23 all0
   have sz23 := c9 sz11 K23.1
   obtain ⟨T24, h24, X24, e24, W24, st24⟩ := putF X23 f Y O (host := "") (Or.inl (o8 w)) Via.refl rfl Fbt__23 Et__23 (Or.inl (B2 w)) (o0 w) (ty := (.array .byte)) (by decide) rfl rfl (g := (mkF m 122 L_3 [.ref d23, .ref oa])) rfl rfl (hb d bd4)
   have Fw24 := Fbt__23.same W24
   have XO__24 := XO__23.wr W24 g_oa
   have Et__24 := Et__23.wr W24
   have Fst__24 := Fst__23.other W24 (Or.inr (an3 w))
   have Fw8__24 := Fw8__23.other W24 (Or.inr (an4 w))
   have Fw11__24 := Fw11__23.other W24 (Or.inr (an5 w))
   have Flt__24 := Flt__23.other W24 (Or.inr (an6 w))
   have Es__24 := Es__23.wr W24
   have Ebf__24 := Ebf__23.wr W24
   have NM__24 := NM__23.keep (Keep.of_wr W24) (allS (hW0 _ (List.mem_of_getElem? (i := 0) rfl)) all0)
   have Bf__24 := Bf__23.keep (Keep.of_wr W24) (allS (hP _ (List.mem_of_getElem? (i := 0) rfl)) all0)
   have A7__24 := A7__23.other W24 (Ne.symm ne_oa_d7)
   have A10__24 := A10__23.other W24 (Ne.symm ne_oa_d10)
   have A23__24 := A23.other W24 (Ne.symm ne_oa_d23)
   have Ey23__24 := Ey23.wr W24
   have N24 := Fr.snoc X24 N23 g_oa
   have KP24 := KP23.wr W24 (Or.inl (List.mem_of_getElem? (i := 0) rfl))
   have sz24 := c9 sz23 (Keep.of_wr W24).1
   refine c8 st24 ?_
   show c5 p e U m T24 125 L_3 []
   refine f6 X24 f d ap7 (z := (0 : Int32)) rfl ?_
   let L_4 : Array Slot := #[oR oa,oR oc,oR bf,oR bc,oR os,oI 1,oI 0,oU]
   refine o4 X24 f d ap8 (l' := L_4) rfl ?_
   refine c6 X24 f d ap9 rfl rfl ?_
   refine d3 X24 f d Y e24 O (m6 w) Fw11__24 aq0 (fun T25 X25 e25 => ?_)
   refine c6 X25 f d aq1 rfl rfl ?_
   refine d3 X25 f d Y e25 O (i6 w) Fst__24 aq2 (fun T26 X26 e26 => ?_)
   refine n3 X26 f d Y e26 A10__24 ⟨by decide, by decide⟩ rfl aq3 ?_
   let L_5 : Array Slot := #[oR oa,oR oc,oR bf,oR bc,oR os,oI 1,oI 0,oI 0]
   refine o4 X26 f d aq4 (l' := L_5) rfl ?_
   refine f5 X26 f d I4 rfl ?_
   refine j0 X26 f d I5 rfl rfl ?_
   obtain ⟨_, T28, Lc28, X28, hQ28, st28⟩ := o1 X26 f d r Y e26 O (F6 w) (C0 w) (B9 w) (C1 w) (o6 w) (C2 w) Es__24 (C5 l Z a0 w [] os ot kt (1 : Int32) [.int c0] z0 pc0 kpc pcs fm al kal als h24 n0 sz24 NM__24.2.2.2 XO__24 WW) L_5 I6 [] [.int 0] 1 0 0 (lenOf v7 rfl)
   obtain ⟨rfl, Nq28, e28⟩ := hQ28
   have N28 := Fr.app N24 Nq28
   refine c8 st28 ?_
   show c5 p e U m T28 146 L_5 [.int 1, .int 0]
   refine m4 X28 f d I7 (tlt (by decide : (0 : Int32) < (1 : Int32))).2.1 ?_
   refine c6 X28 f d Z8 rfl rfl ?_
   refine d3 X28 f d Y e28 O (o8 w) Fw24 Z9 (fun T29 X29 e29 => ?_)
   refine f5 X29 f d aa0 rfl ?_
   refine f5 X29 f d aa1 rfl ?_
   refine n7 X29 f d aa2 ?_
   show c5 p e U m T29 158 L_5 [.int 0, .ref d23]
   refine j0 X29 f d aa3 rfl rfl ?_
   refine f5 X29 f d aa4 rfl ?_
   obtain ⟨_, T30, Lc30, X30, hQ30, st30⟩ := o1 X29 f d r Y e29 O (af6 w) (H6 w) (H5 w) (H7 w) (o6 w) (H8 w) Es__24 (I1 l Z a0 w [] os ot kt (1 : Int32) [.int c0] (0 : Int32) c0 z0 pc0 kpc pcs fm al kal als h24 n0 sz24 NM__24.2.2.2 (by decide) (by decide) rfl ok0.1 ok0.2.1 XO__24 WW) L_5 aa5 [.int 0] [.int 0, .ref d23] 2 0 0 (lenOf I2 rfl)
   obtain ⟨rfl, Nq30, e30⟩ := hQ30
   have N30 := Fr.app N28 Nq30
   refine c8 st30 ?_
   show c5 p e U m T30 165 L_5 [.int c0, .int 0, .ref d23]
   refine H4 X30 f d aa6 ?_
   show c5 p e U m T30 166 L_5 [(.int (c0.toInt8.toInt32)), .int 0, .ref d23]
   obtain ⟨cl31, Ar31, qa31, Sa31, Na31, Ha31, Ga31⟩ := id A23__24
   have hin31 : ¬ ((0 : Int32) < 0 ∨ cl31.slots.size ≤ ((0 : Int32)).toNatClampNeg) := inb_of Sa31 ⟨by decide, by decide⟩
   obtain ⟨T31, h31, X31, e31, W31, st31⟩ := stB X30 f Y e30 Ar31 (j := (0 : Int32)) hin31 (g := (mkF m 166 L_5 [(.int (c0.toInt8.toInt32)), .int 0, .ref d23])) rfl rfl (hb d aa7)
   have Vw31 := u0 Ar31 qa31 Sa31 Na31 Ha31 Ga31 (fits_nar_byte _) W31 rfl
   rw [Z7 ok0.1 ok0.2.1] at Vw31
   replace Vw31 : Arv Z h31 d23 kd23 .byte (64 : Int32) [.int c0] (.int 0) := Vw31
   have XO__31 := XO__24.wr W31 g_d23
   have Et__31 := Et__24.wr W31
   have Fst__31 := Fst__24.other W31 (Or.inl ne_oa_d23)
   have Fw8__31 := Fw8__24.other W31 (Or.inl ne_oa_d23)
   have Fw11__31 := Fw11__24.other W31 (Or.inl ne_oa_d23)
   have Fw24__31 := Fw24.other W31 (Or.inl ne_oa_d23)
   have Flt__31 := Flt__24.other W31 (Or.inl ne_oa_d23)
   have Es__31 := Es__24.wr W31
   have Ebf__31 := Ebf__24.wr W31
   have NM__31 := NM__24.keep (Keep.of_wr W31) (allS (c9 hxw sz_d23) all0)
   have Bf__31 := Bf__24.keep (Keep.of_wr W31) (allS (fun z => Nat.not_lt.mpr sz_d23 (hP2 _ z)) all0)
   have A7__31 := A7__24.other W31 ne_d7_d23
   have A10__31 := A10__24.other W31 ne_d10_d23
   have Ey23__31 := Ey23__24.wr W31
   have N31 := Fr.snoc X31 N30 g_d23
   have KP31 := KP24.wr W31 (Or.inr sz_d23)
   have sz31 := c9 sz24 (Keep.of_wr W31).1
   refine c8 st31 ?_
   show c5 p e U m T31 167 L_5 []
   let L_6 : Array Slot := #[oR oa,oR oc,oR bf,oR bc,oR os,oI 1,oI 1,oI 0]
   refine c8 (fun t k => XS.iinc X31.here f rfl (hb d aa8) rfl (l' := L_6) rfl k) ?_
   show c5 p e U m T31 170 L_6 []
   refine m5 (pc := 170) (pc' := 139) X31 f d aa9 ?_
   refine f5 X31 f d I4 rfl ?_
   refine j0 X31 f d I5 rfl rfl ?_
   obtain ⟨_, T32, Lc32, X32, hQ32, st32⟩ := o1 X31 f d r Y e31 O (F6 w) (C0 w) (B9 w) (C1 w) (o6 w) (C2 w) Es__31 (C5 l Z a0 w [] os ot kt (1 : Int32) [.int c0] z0 pc0 kpc pcs fm al kal als h31 n0 sz31 NM__31.2.2.2 XO__31 WW) L_6 I6 [] [.int 1] 1 0 0 (lenOf v7 rfl)
   obtain ⟨rfl, Nq32, e32⟩ := hQ32
   have N32 := Fr.app N31 Nq32
   refine c8 st32 ?_
   show c5 p e U m T32 146 L_6 [.int 1, .int 1]
   refine j5 (pc := 146) (pc' := 173) X32 f d I7 (flt (by decide : ¬ ((1 : Int32) < (1 : Int32)))).2.1 ?_
   refine c6 X32 f d aq5 rfl rfl ?_
   refine d3 X32 f d Y e32 O (o9 w) Fw8__31 aq6 (fun T33 X33 e33 => ?_)
   refine c6 X33 f d aq7 rfl rfl ?_
   refine d3 X33 f d Y e33 O (i6 w) Fst__31 aq8 (fun T34 X34 e34 => ?_)
   refine c6 X34 f d aq9 rfl rfl ?_
   obtain ⟨_, T35, Lc35, X35, hQ35, st35⟩ := o1 X34 f d r Y e34 O (at4 w) (at6 w) (at5 w) (at7 w) (u9 w) (at8 w) Ebf__31 (aB3 l Z a0 w [] bf _ xn h31 n0 sz31 Bf__31.bi hnn) L_6 ar0 [] [.int 0, .ref d7] 2 0 0 (lenOf aA2 rfl)
   obtain ⟨rfl, Nq35, e35⟩ := hQ35
   have N35 := Fr.app N32 Nq35
   refine c8 st35 ?_
   show c5 p e U m T35 185 L_6 [.long xn, .int 0, .ref d7]
   obtain ⟨cl36, Ar36, qa36, Sa36, Na36, Ha36, Ga36⟩ := id A7__31
   have hin36 : ¬ ((0 : Int32) < 0 ∨ cl36.slots.size ≤ ((0 : Int32)).toNatClampNeg) := inb_of Sa36 ⟨by decide, by decide⟩
   obtain ⟨T36, h36, X36, e36, W36, st36⟩ := stJ X35 f Y e35 Ar36 (j := (0 : Int32)) hin36 (g := (mkF m 185 L_6 [.long xn, .int 0, .ref d7])) rfl rfl (hb d ar1)
   have Vw36 := u0 Ar36 qa36 Sa36 Na36 Ha36 Ga36 rfl W36 rfl
   replace Vw36 : Arv Z h36 d7 kd7 .long (1 : Int32) [.long xn] (.long (0 : Int64)) := Vw36
   have Et__36 := Et__31.wr W36
   have Fst__36 := Fst__31.other W36 (Or.inl ne_oa_d7)
   have Fw8__36 := Fw8__31.other W36 (Or.inl ne_oa_d7)
   have Fw11__36 := Fw11__31.other W36 (Or.inl ne_oa_d7)
   have Fw24__36 := Fw24__31.other W36 (Or.inl ne_oa_d7)
   have Flt__36 := Flt__31.other W36 (Or.inl ne_oa_d7)
   have A10__36 := A10__31.other W36 (Ne.symm ne_d7_d10)
   have Vw31__36 := Vw31.other W36 (Ne.symm ne_d7_d23)
   have Ey23__36 := Ey23__31.wr W36
   have N36 := Fr.snoc X36 N35 g_d7
   have KP36 := KP31.wr W36 (Or.inr sz_d7)
   refine c8 st36 ?_
   show c5 p e U m T36 186 L_6 []
   refine c6 X36 f d ar2 rfl rfl ?_
   refine d3 X36 f d Y e36 O (m6 w) Fw11__36 ar3 (fun T37 X37 e37 => ?_)
   refine c6 X37 f d ar4 rfl rfl ?_
   refine A0 X37 f d ar5 rfl ?_
   refine d3 X37 f d Y e37 O (i6 w) Fst__36 ar6 (fun T38 X38 e38 => ?_)
   refine f6 X38 f d ar7 (z := (1 : Int32)) rfl ?_
   refine n7 X38 f d ar8 ?_
   show c5 p e U m T38 197 L_6 [.int 1, .ref oa, .ref d10]
   refine c8 (fun t k => XS.dupX1 X38.here f rfl (hb d ar9) rfl rfl rfl k) ?_
   obtain ⟨T39, h39, X39, e39, W39, st39⟩ := putF X38 f Y O (host := "") (Or.inl (i6 w)) Via.refl e38 Fst__36 Et__36 (Or.inl (w5 w)) (o0 w) (ty := .int) (by decide) rfl rfl (g := (mkF m 198 L_6 [.int 1, .ref oa, .int 1, .ref d10])) rfl rfl (hb d as0)
   have Fw39 := Fst__36.same W39
   have Et__39 := Et__36.wr W39
   have Fw8__39 := Fw8__36.other W39 (Or.inr (J4 w))
   have Fw11__39 := Fw11__36.other W39 (Or.inr (J5 w))
   have Fw24__39 := Fw24__36.other W39 (Or.inr (J6 w))
   have Flt__39 := Flt__36.other W39 (Or.inr (J7 w))
   have Vw36__39 := Vw36.other W39 (Ne.symm ne_oa_d7)
   have A10__39 := A10__36.other W39 (Ne.symm ne_oa_d10)
   have Vw31__39 := Vw31__36.other W39 (Ne.symm ne_oa_d23)
   have Ey23__39 := Ey23__36.wr W39
   have N39 := Fr.snoc X39 N36 g_oa
   have KP39 := KP36.wr W39 (Or.inl (List.mem_of_getElem? (i := 0) rfl))
   refine c8 st39 ?_
   show c5 p e U m T39 201 L_6 [.int 1, .ref d10]
   refine f5 X39 f d as1 rfl ?_
   show c5 p e U m T39 203 L_6 [.int 1, .int 1, .ref d10]
   obtain ⟨cl40, Ar40, qa40, Sa40, Na40, Ha40, Ga40⟩ := id A10__39
   have hin40 : ¬ ((1 : Int32) < 0 ∨ cl40.slots.size ≤ ((1 : Int32)).toNatClampNeg) := inb_of Sa40 ⟨by decide, by decide⟩
   obtain ⟨T40, h40, X40, e40, W40, st40⟩ := stI X39 f Y e39 Ar40 (j := (1 : Int32)) hin40 (g := (mkF m 203 L_6 [.int 1, .int 1, .ref d10])) rfl rfl (hb d as2)
   have Vw40 := u0 Ar40 qa40 Sa40 Na40 Ha40 Ga40 rfl W40 rfl
   replace Vw40 : Arv Z h40 d10 kd10 .int 2 [.int 0, .int 1] (.int 0) := Vw40
   have Et__40 := Et__39.wr W40
   have Fw39__40 := Fw39.other W40 (Or.inl ne_oa_d10)
   have Fw8__40 := Fw8__39.other W40 (Or.inl ne_oa_d10)
   have Fw11__40 := Fw11__39.other W40 (Or.inl ne_oa_d10)
   have Fw24__40 := Fw24__39.other W40 (Or.inl ne_oa_d10)
   have Flt__40 := Flt__39.other W40 (Or.inl ne_oa_d10)
   have Vw36__40 := Vw36__39.other W40 ne_d7_d10
   have Vw31__40 := Vw31__39.other W40 (Ne.symm ne_d10_d23)
   have Ey23__40 := Ey23__39.wr W40
   have N40 := Fr.snoc X40 N39 g_d10
   have KP40 := KP39.wr W40 (Or.inr sz_d10)
   refine c8 st40 ?_
   show c5 p e U m T40 204 L_6 []
   refine c6 X40 f d as3 rfl rfl ?_
   refine c6 X40 f d as4 rfl rfl ?_
   obtain ⟨T41, h41, X41, e41, W41, st41⟩ := putF X40 f Y O (host := "") (Or.inl (B3 w)) Via.refl e40 Flt__40 Et__40 (Or.inl (w6 w)) (o0 w) (ty := (.object "java/math/BigInteger")) (by decide) rfl rfl (g := (mkF m 206 L_6 [.ref bc, .ref oa])) rfl rfl (hb d as5)
   have Fw41 := Flt__40.same W41
   have Et__41 := Et__40.wr W41
   have Fw39__41 := Fw39__40.other W41 (Or.inr (J8 w))
   have Fw8__41 := Fw8__40.other W41 (Or.inr (J9 w))
   have Fw11__41 := Fw11__40.other W41 (Or.inr (K0 w))
   have Fw24__41 := Fw24__40.other W41 (Or.inr (L0 w))
   have Vw36__41 := Vw36__40.other W41 (Ne.symm ne_oa_d7)
   have Vw40__41 := Vw40.other W41 (Ne.symm ne_oa_d10)
   have Vw31__41 := Vw31__40.other W41 (Ne.symm ne_oa_d23)
   have Ey23__41 := Ey23__40.wr W41
   have N41 := Fr.snoc X41 N40 g_oa
   have KP41 := KP40.wr W41 (Or.inl (List.mem_of_getElem? (i := 0) rfl))
   refine c8 st41 ?_
   show c5 p e U m T41 209 L_6 []
   exact q0 X41 f R (hb d as6) (by rw [e41]; exact ⟨rfl, N41, KP41, [oa, d7, d10, d23], allS (Or.inl (List.mem_of_getElem? (i := 0) rfl)) (allS (Or.inr sz_d7) (allS (Or.inr sz_d10) (allS (Or.inr sz_d23) all0))), _, _, _, _, _, _, rfl, ⟨Et__41, Fw39__41, Fw8__41, Fw11__41, Fw24__41, Fw41⟩, Vw36__41, Vw40__41, Vw31__41, Ey23__41⟩) (by decide) (by decide)
 · skip
   refine j0 X13 f d av6 rfl rfl ?_
   obtain ⟨_, T42, Lc42, X42, hQ42, st42⟩ := o1 X13 f d r Y e13 O (F6 w) (C0 w) (B9 w) (C1 w) (o6 w) (C2 w) Es__11 (C5 l Z a0 w [] os ot kt (2 : Int32) [.int c0, .int c1] z0 pc0 kpc pcs fm al kal als h11 n0 sz11 NM__11.2.2.2 XO__11 WW) L_3 av7 [] [.int 0] 1 0 0 (lenOf v7 rfl)
   obtain ⟨rfl, Nq42, e42⟩ := hQ42
   have N42 := Fr.app N11 Nq42
   refine c8 st42 ?_
   show c5 p e U m T42 84 L_3 [.int 2, .int 0]
   refine n7 X42 f d av8 ?_
   show c5 p e U m T42 85 L_3 [.int 2]
   let L_7 : Array Slot := #[oR oa,oR oc,oR bf,oR bc,oR os,oI 2,oU,oU]
   refine o4 X42 f d av9 (l' := L_7) rfl ?_
   refine f5 X42 f d aw0 rfl ?_
   refine c6 X42 f d aw1 rfl rfl ?_
   refine d3 X42 f d Y e42 O (o8 w) Fbt__11 aw2 (fun T43 X43 e43 => ?_)
   refine m7 X43 f d Y e43 Abt__11 aw3 ?_
   refine m4 X43 f d aw4 (tlt (by decide : (0 : Int32) < (2 : Int32))).2.2.2 ?_
   refine c6 X43 f d bC8 rfl rfl ?_
   refine c6 X43 f d bC9 rfl rfl ?_
   refine d3 X43 f d Y e43 O (o8 w) Fbt__11 bD0 (fun T45 X45 e45 => ?_)
   refine t9 X45 f d bc4 (z := (64 : Int32)) rfl ?_
   refine c6 X45 f d bc5 rfl rfl ?_
   refine d3 X45 f d Y e45 O (o8 w) Fbt__11 bc6 (fun T46 X46 e46 => ?_)
   refine m7 X46 f d Y e46 Abt__11 bc7 ?_
   refine f6 X46 f d bc8 (z := (2 : Int32)) rfl ?_
   refine P3 X46 f d bc9 ?_
   show c5 p e U m T46 111 L_7 [.int 0, .int 64, .ref tb, .ref oa]
   refine f5 X46 f d bd0 rfl ?_
   obtain ⟨_, T48, Lc48, X48, hQ48, st48⟩ := j8 X46 f d r Y e46 O (D1 w) (D6 w) (s6 w) (D9 w) (ak0 l Z a0 w [] (0 : Int32) (2 : Int32) h11 n0 sz11 (by decide)) L_7 bd1 [.int 0, .int 2] [.int 64, .ref tb, .ref oa] 3 0 0 (lenOf s9 rfl)
   obtain ⟨rfl, Nq48, e48⟩ := hQ48
   have N48 := Fr.app N42 Nq48
   refine c8 st48 ?_
   obtain ⟨_, T49, Lc49, X49, hQ49, st49⟩ := j8 X48 f d r Y e48 O (D1 w) (D6 w) (s6 w) (D9 w) (Q2 l Z a0 w [] (64 : Int32) (2 : Int32) h11 n0 sz11 (by decide)) L_7 bd2 [.int 64, .int 2] [.ref tb, .ref oa] 2 0 0 (lenOf s9 rfl)
   obtain ⟨rfl, Nq49, e49⟩ := hQ49
   have N49 := Fr.app N48 Nq49
   refine c8 st49 ?_
   obtain ⟨_, T50, Lc50, X50, hQ50, st50⟩ := j8 X49 f d r Y e49 O (at1 w) (at2 w) (t6 w) (at3 w) (aX7 l Z a0 w [] tb ktb  h11 n0 sz11 Abt__11) L_7 bd3 [.ref tb, .int 64] [.ref oa] 1 1 64 (lenOf aA1 rfl)
   obtain ⟨d50, kd50, rfl, Nq50, K50, ge50, A50, Ey50⟩ := hQ50
   have N50 := Fr.app N49 Nq50
   refine c8 st50 ?_
   have g_d50 : n0 ≤ d50 := c9 sz11 ge50
   have sz_d50 : h0.size ≤ d50 := c9 KP11.1 ge50
   have ne_oa_d50 : oa ≠ d50 := Nat.ne_of_lt (j3 Et__11.lt ge50)
   have ne_d7_d50 : d7 ≠ d50 := Nat.ne_of_lt (j3 A7__11.lt ge50)
   have ne_d10_d50 : d10 ≠ d50 := Nat.ne_of_lt (j3 A10__11.lt ge50)
   have XO__50 := XO__11.keep K50 all0
   have Et__50 := Et__11.keep K50
   have Fst__50 := Fst__11.keep K50 nin0
   have Fw8__50 := Fw8__11.keep K50 nin0
   have Fw11__50 := Fw11.keep K50 nin0
   have Fbt__50 := Fbt__11.keep K50 nin0
   have Flt__50 := Flt__11.keep K50 nin0
   have Es__50 := Es__11.keep K50
   have Ebf__50 := Ebf__11.keep K50
   have NM__50 := NM__11.keep K50 all0
   have Bf__50 := Bf__11.keep K50 all0
   have A7__50 := A7__11.keep K50 nin0
   have A10__50 := A10__11.keep K50 nin0
   have KP50 := KP11.trans K50 all0
   have sz50 := c9 sz11 K50.1
   obtain ⟨T51, h51, X51, e51, W51, st51⟩ := putF X50 f Y O (host := "") (Or.inl (o8 w)) Via.refl rfl Fbt__50 Et__50 (Or.inl (B2 w)) (o0 w) (ty := (.array .byte)) (by decide) rfl rfl (g := (mkF m 122 L_7 [.ref d50, .ref oa])) rfl rfl (hb d bd4)
   have Fw51 := Fbt__50.same W51
   have XO__51 := XO__50.wr W51 g_oa
   have Et__51 := Et__50.wr W51
   have Fst__51 := Fst__50.other W51 (Or.inr (an3 w))
   have Fw8__51 := Fw8__50.other W51 (Or.inr (an4 w))
   have Fw11__51 := Fw11__50.other W51 (Or.inr (an5 w))
   have Flt__51 := Flt__50.other W51 (Or.inr (an6 w))
   have Es__51 := Es__50.wr W51
   have Ebf__51 := Ebf__50.wr W51
   have NM__51 := NM__50.keep (Keep.of_wr W51) (allS (hW0 _ (List.mem_of_getElem? (i := 0) rfl)) all0)
   have Bf__51 := Bf__50.keep (Keep.of_wr W51) (allS (hP _ (List.mem_of_getElem? (i := 0) rfl)) all0)
   have A7__51 := A7__50.other W51 (Ne.symm ne_oa_d7)
   have A10__51 := A10__50.other W51 (Ne.symm ne_oa_d10)
   have A50__51 := A50.other W51 (Ne.symm ne_oa_d50)
   have Ey50__51 := Ey50.wr W51
   have N51 := Fr.snoc X51 N50 g_oa
   have KP51 := KP50.wr W51 (Or.inl (List.mem_of_getElem? (i := 0) rfl))
   have sz51 := c9 sz50 (Keep.of_wr W51).1
   refine c8 st51 ?_
   show c5 p e U m T51 125 L_7 []
   refine f6 X51 f d ap7 (z := (0 : Int32)) rfl ?_
   let L_8 : Array Slot := #[oR oa,oR oc,oR bf,oR bc,oR os,oI 2,oI 0,oU]
   refine o4 X51 f d ap8 (l' := L_8) rfl ?_
   refine c6 X51 f d ap9 rfl rfl ?_
   refine d3 X51 f d Y e51 O (m6 w) Fw11__51 aq0 (fun T52 X52 e52 => ?_)
   refine c6 X52 f d aq1 rfl rfl ?_
   refine d3 X52 f d Y e52 O (i6 w) Fst__51 aq2 (fun T53 X53 e53 => ?_)
   refine n3 X53 f d Y e53 A10__51 ⟨by decide, by decide⟩ rfl aq3 ?_
   let L_9 : Array Slot := #[oR oa,oR oc,oR bf,oR bc,oR os,oI 2,oI 0,oI 0]
   refine o4 X53 f d aq4 (l' := L_9) rfl ?_
   refine f5 X53 f d I4 rfl ?_
   refine j0 X53 f d I5 rfl rfl ?_
   obtain ⟨_, T55, Lc55, X55, hQ55, st55⟩ := o1 X53 f d r Y e53 O (F6 w) (C0 w) (B9 w) (C1 w) (o6 w) (C2 w) Es__51 (C5 l Z a0 w [] os ot kt (2 : Int32) [.int c0, .int c1] z0 pc0 kpc pcs fm al kal als h51 n0 sz51 NM__51.2.2.2 XO__51 WW) L_9 I6 [] [.int 0] 1 0 0 (lenOf v7 rfl)
   obtain ⟨rfl, Nq55, e55⟩ := hQ55
   have N55 := Fr.app N51 Nq55
   refine c8 st55 ?_
   show c5 p e U m T55 146 L_9 [.int 2, .int 0]
   refine m4 X55 f d I7 (tlt (by decide : (0 : Int32) < (2 : Int32))).2.1 ?_
   refine c6 X55 f d Z8 rfl rfl ?_
   refine d3 X55 f d Y e55 O (o8 w) Fw51 Z9 (fun T56 X56 e56 => ?_)
   refine f5 X56 f d aa0 rfl ?_
   refine f5 X56 f d aa1 rfl ?_
   refine n7 X56 f d aa2 ?_
   show c5 p e U m T56 158 L_9 [.int 0, .ref d50]
   refine j0 X56 f d aa3 rfl rfl ?_
   refine f5 X56 f d aa4 rfl ?_
   obtain ⟨_, T57, Lc57, X57, hQ57, st57⟩ := o1 X56 f d r Y e56 O (af6 w) (H6 w) (H5 w) (H7 w) (o6 w) (H8 w) Es__51 (I1 l Z a0 w [] os ot kt (2 : Int32) [.int c0, .int c1] (0 : Int32) c0 z0 pc0 kpc pcs fm al kal als h51 n0 sz51 NM__51.2.2.2 (by decide) (by decide) rfl ok0.1 ok0.2.1 XO__51 WW) L_9 aa5 [.int 0] [.int 0, .ref d50] 2 0 0 (lenOf I2 rfl)
   obtain ⟨rfl, Nq57, e57⟩ := hQ57
   have N57 := Fr.app N55 Nq57
   refine c8 st57 ?_
   show c5 p e U m T57 165 L_9 [.int c0, .int 0, .ref d50]
   refine H4 X57 f d aa6 ?_
   show c5 p e U m T57 166 L_9 [(.int (c0.toInt8.toInt32)), .int 0, .ref d50]
   obtain ⟨cl58, Ar58, qa58, Sa58, Na58, Ha58, Ga58⟩ := id A50__51
   have hin58 : ¬ ((0 : Int32) < 0 ∨ cl58.slots.size ≤ ((0 : Int32)).toNatClampNeg) := inb_of Sa58 ⟨by decide, by decide⟩
   obtain ⟨T58, h58, X58, e58, W58, st58⟩ := stB X57 f Y e57 Ar58 (j := (0 : Int32)) hin58 (g := (mkF m 166 L_9 [(.int (c0.toInt8.toInt32)), .int 0, .ref d50])) rfl rfl (hb d aa7)
   have Vw58 := u0 Ar58 qa58 Sa58 Na58 Ha58 Ga58 (fits_nar_byte _) W58 rfl
   rw [Z7 ok0.1 ok0.2.1] at Vw58
   replace Vw58 : Arv Z h58 d50 kd50 .byte (64 : Int32) [.int c0] (.int 0) := Vw58
   have XO__58 := XO__51.wr W58 g_d50
   have Et__58 := Et__51.wr W58
   have Fst__58 := Fst__51.other W58 (Or.inl ne_oa_d50)
   have Fw8__58 := Fw8__51.other W58 (Or.inl ne_oa_d50)
   have Fw11__58 := Fw11__51.other W58 (Or.inl ne_oa_d50)
   have Fw51__58 := Fw51.other W58 (Or.inl ne_oa_d50)
   have Flt__58 := Flt__51.other W58 (Or.inl ne_oa_d50)
   have Es__58 := Es__51.wr W58
   have Ebf__58 := Ebf__51.wr W58
   have NM__58 := NM__51.keep (Keep.of_wr W58) (allS (c9 hxw sz_d50) all0)
   have Bf__58 := Bf__51.keep (Keep.of_wr W58) (allS (fun z => Nat.not_lt.mpr sz_d50 (hP2 _ z)) all0)
   have A7__58 := A7__51.other W58 ne_d7_d50
   have A10__58 := A10__51.other W58 ne_d10_d50
   have Ey50__58 := Ey50__51.wr W58
   have N58 := Fr.snoc X58 N57 g_d50
   have KP58 := KP51.wr W58 (Or.inr sz_d50)
   have sz58 := c9 sz51 (Keep.of_wr W58).1
   refine c8 st58 ?_
   show c5 p e U m T58 167 L_9 []
   let L_10 : Array Slot := #[oR oa,oR oc,oR bf,oR bc,oR os,oI 2,oI 1,oI 0]
   refine c8 (fun t k => XS.iinc X58.here f rfl (hb d aa8) rfl (l' := L_10) rfl k) ?_
   show c5 p e U m T58 170 L_10 []
   refine m5 (pc := 170) (pc' := 139) X58 f d aa9 ?_
   refine f5 X58 f d I4 rfl ?_
   refine j0 X58 f d I5 rfl rfl ?_
   obtain ⟨_, T59, Lc59, X59, hQ59, st59⟩ := o1 X58 f d r Y e58 O (F6 w) (C0 w) (B9 w) (C1 w) (o6 w) (C2 w) Es__58 (C5 l Z a0 w [] os ot kt (2 : Int32) [.int c0, .int c1] z0 pc0 kpc pcs fm al kal als h58 n0 sz58 NM__58.2.2.2 XO__58 WW) L_10 I6 [] [.int 1] 1 0 0 (lenOf v7 rfl)
   obtain ⟨rfl, Nq59, e59⟩ := hQ59
   have N59 := Fr.app N58 Nq59
   refine c8 st59 ?_
   show c5 p e U m T59 146 L_10 [.int 2, .int 1]
   refine m4 X59 f d I7 (tlt (by decide : (1 : Int32) < (2 : Int32))).2.1 ?_
   refine c6 X59 f d Z8 rfl rfl ?_
   refine d3 X59 f d Y e59 O (o8 w) Fw51__58 Z9 (fun T60 X60 e60 => ?_)
   refine f5 X60 f d aa0 rfl ?_
   refine f5 X60 f d aa1 rfl ?_
   refine n7 X60 f d aa2 ?_
   show c5 p e U m T60 158 L_10 [.int 1, .ref d50]
   refine j0 X60 f d aa3 rfl rfl ?_
   refine f5 X60 f d aa4 rfl ?_
   obtain ⟨_, T61, Lc61, X61, hQ61, st61⟩ := o1 X60 f d r Y e60 O (af6 w) (H6 w) (H5 w) (H7 w) (o6 w) (H8 w) Es__58 (I1 l Z a0 w [] os ot kt (2 : Int32) [.int c0, .int c1] (1 : Int32) c1 z0 pc0 kpc pcs fm al kal als h58 n0 sz58 NM__58.2.2.2 (by decide) (by decide) rfl ok1.1 ok1.2.1 XO__58 WW) L_10 aa5 [.int 1] [.int 1, .ref d50] 2 0 0 (lenOf I2 rfl)
   obtain ⟨rfl, Nq61, e61⟩ := hQ61
   have N61 := Fr.app N59 Nq61
   refine c8 st61 ?_
   show c5 p e U m T61 165 L_10 [.int c1, .int 1, .ref d50]
   refine H4 X61 f d aa6 ?_
   show c5 p e U m T61 166 L_10 [(.int (c1.toInt8.toInt32)), .int 1, .ref d50]
   obtain ⟨cl62, Ar62, qa62, Sa62, Na62, Ha62, Ga62⟩ := id Vw58
   have hin62 : ¬ ((1 : Int32) < 0 ∨ cl62.slots.size ≤ ((1 : Int32)).toNatClampNeg) := inb_of Sa62 ⟨by decide, by decide⟩
   obtain ⟨T62, h62, X62, e62, W62, st62⟩ := stB X61 f Y e61 Ar62 (j := (1 : Int32)) hin62 (g := (mkF m 166 L_10 [(.int (c1.toInt8.toInt32)), .int 1, .ref d50])) rfl rfl (hb d aa7)
   have Vw62 := u0 Ar62 qa62 Sa62 Na62 Ha62 Ga62 (fits_nar_byte _) W62 rfl
   rw [Z7 ok1.1 ok1.2.1] at Vw62
   replace Vw62 : Arv Z h62 d50 kd50 .byte (64 : Int32) [.int c0, .int c1] (.int 0) := Vw62
   have XO__62 := XO__58.wr W62 g_d50
   have Et__62 := Et__58.wr W62
   have Fst__62 := Fst__58.other W62 (Or.inl ne_oa_d50)
   have Fw8__62 := Fw8__58.other W62 (Or.inl ne_oa_d50)
   have Fw11__62 := Fw11__58.other W62 (Or.inl ne_oa_d50)
   have Fw51__62 := Fw51__58.other W62 (Or.inl ne_oa_d50)
   have Flt__62 := Flt__58.other W62 (Or.inl ne_oa_d50)
   have Es__62 := Es__58.wr W62
   have Ebf__62 := Ebf__58.wr W62
   have NM__62 := NM__58.keep (Keep.of_wr W62) (allS (c9 hxw sz_d50) all0)
   have Bf__62 := Bf__58.keep (Keep.of_wr W62) (allS (fun z => Nat.not_lt.mpr sz_d50 (hP2 _ z)) all0)
   have A7__62 := A7__58.other W62 ne_d7_d50
   have A10__62 := A10__58.other W62 ne_d10_d50
   have Ey50__62 := Ey50__58.wr W62
   have N62 := Fr.snoc X62 N61 g_d50
   have KP62 := KP58.wr W62 (Or.inr sz_d50)
   have sz62 := c9 sz58 (Keep.of_wr W62).1
   refine c8 st62 ?_
   show c5 p e U m T62 167 L_10 []
   let L_11 : Array Slot := #[oR oa,oR oc,oR bf,oR bc,oR os,oI 2,oI 2,oI 0]
   refine c8 (fun t k => XS.iinc X62.here f rfl (hb d aa8) rfl (l' := L_11) rfl k) ?_
   show c5 p e U m T62 170 L_11 []
   refine m5 (pc := 170) (pc' := 139) X62 f d aa9 ?_
   refine f5 X62 f d I4 rfl ?_
   refine j0 X62 f d I5 rfl rfl ?_
   obtain ⟨_, T63, Lc63, X63, hQ63, st63⟩ := o1 X62 f d r Y e62 O (F6 w) (C0 w) (B9 w) (C1 w) (o6 w) (C2 w) Es__62 (C5 l Z a0 w [] os ot kt (2 : Int32) [.int c0, .int c1] z0 pc0 kpc pcs fm al kal als h62 n0 sz62 NM__62.2.2.2 XO__62 WW) L_11 I6 [] [.int 2] 1 0 0 (lenOf v7 rfl)
   obtain ⟨rfl, Nq63, e63⟩ := hQ63
   have N63 := Fr.app N62 Nq63
   refine c8 st63 ?_
   show c5 p e U m T63 146 L_11 [.int 2, .int 2]
   refine j5 (pc := 146) (pc' := 173) X63 f d I7 (flt (by decide : ¬ ((2 : Int32) < (2 : Int32)))).2.1 ?_
   refine c6 X63 f d aq5 rfl rfl ?_
   refine d3 X63 f d Y e63 O (o9 w) Fw8__62 aq6 (fun T64 X64 e64 => ?_)
   refine c6 X64 f d aq7 rfl rfl ?_
   refine d3 X64 f d Y e64 O (i6 w) Fst__62 aq8 (fun T65 X65 e65 => ?_)
   refine c6 X65 f d aq9 rfl rfl ?_
   obtain ⟨_, T66, Lc66, X66, hQ66, st66⟩ := o1 X65 f d r Y e65 O (at4 w) (at6 w) (at5 w) (at7 w) (u9 w) (at8 w) Ebf__62 (aB3 l Z a0 w [] bf _ xn h62 n0 sz62 Bf__62.bi hnn) L_11 ar0 [] [.int 0, .ref d7] 2 0 0 (lenOf aA2 rfl)
   obtain ⟨rfl, Nq66, e66⟩ := hQ66
   have N66 := Fr.app N63 Nq66
   refine c8 st66 ?_
   show c5 p e U m T66 185 L_11 [.long xn, .int 0, .ref d7]
   obtain ⟨cl67, Ar67, qa67, Sa67, Na67, Ha67, Ga67⟩ := id A7__62
   have hin67 : ¬ ((0 : Int32) < 0 ∨ cl67.slots.size ≤ ((0 : Int32)).toNatClampNeg) := inb_of Sa67 ⟨by decide, by decide⟩
   obtain ⟨T67, h67, X67, e67, W67, st67⟩ := stJ X66 f Y e66 Ar67 (j := (0 : Int32)) hin67 (g := (mkF m 185 L_11 [.long xn, .int 0, .ref d7])) rfl rfl (hb d ar1)
   have Vw67 := u0 Ar67 qa67 Sa67 Na67 Ha67 Ga67 rfl W67 rfl
   replace Vw67 : Arv Z h67 d7 kd7 .long (1 : Int32) [.long xn] (.long (0 : Int64)) := Vw67
   have Et__67 := Et__62.wr W67
   have Fst__67 := Fst__62.other W67 (Or.inl ne_oa_d7)
   have Fw8__67 := Fw8__62.other W67 (Or.inl ne_oa_d7)
   have Fw11__67 := Fw11__62.other W67 (Or.inl ne_oa_d7)
   have Fw51__67 := Fw51__62.other W67 (Or.inl ne_oa_d7)
   have Flt__67 := Flt__62.other W67 (Or.inl ne_oa_d7)
   have A10__67 := A10__62.other W67 (Ne.symm ne_d7_d10)
   have Vw62__67 := Vw62.other W67 (Ne.symm ne_d7_d50)
   have Ey50__67 := Ey50__62.wr W67
   have N67 := Fr.snoc X67 N66 g_d7
   have KP67 := KP62.wr W67 (Or.inr sz_d7)
   refine c8 st67 ?_
   show c5 p e U m T67 186 L_11 []
   refine c6 X67 f d ar2 rfl rfl ?_
   refine d3 X67 f d Y e67 O (m6 w) Fw11__67 ar3 (fun T68 X68 e68 => ?_)
   refine c6 X68 f d ar4 rfl rfl ?_
   refine A0 X68 f d ar5 rfl ?_
   refine d3 X68 f d Y e68 O (i6 w) Fst__67 ar6 (fun T69 X69 e69 => ?_)
   refine f6 X69 f d ar7 (z := (1 : Int32)) rfl ?_
   refine n7 X69 f d ar8 ?_
   show c5 p e U m T69 197 L_11 [.int 1, .ref oa, .ref d10]
   refine c8 (fun t k => XS.dupX1 X69.here f rfl (hb d ar9) rfl rfl rfl k) ?_
   obtain ⟨T70, h70, X70, e70, W70, st70⟩ := putF X69 f Y O (host := "") (Or.inl (i6 w)) Via.refl e69 Fst__67 Et__67 (Or.inl (w5 w)) (o0 w) (ty := .int) (by decide) rfl rfl (g := (mkF m 198 L_11 [.int 1, .ref oa, .int 1, .ref d10])) rfl rfl (hb d as0)
   have Fw70 := Fst__67.same W70
   have Et__70 := Et__67.wr W70
   have Fw8__70 := Fw8__67.other W70 (Or.inr (J4 w))
   have Fw11__70 := Fw11__67.other W70 (Or.inr (J5 w))
   have Fw51__70 := Fw51__67.other W70 (Or.inr (J6 w))
   have Flt__70 := Flt__67.other W70 (Or.inr (J7 w))
   have Vw67__70 := Vw67.other W70 (Ne.symm ne_oa_d7)
   have A10__70 := A10__67.other W70 (Ne.symm ne_oa_d10)
   have Vw62__70 := Vw62__67.other W70 (Ne.symm ne_oa_d50)
   have Ey50__70 := Ey50__67.wr W70
   have N70 := Fr.snoc X70 N67 g_oa
   have KP70 := KP67.wr W70 (Or.inl (List.mem_of_getElem? (i := 0) rfl))
   refine c8 st70 ?_
   show c5 p e U m T70 201 L_11 [.int 1, .ref d10]
   refine f5 X70 f d as1 rfl ?_
   show c5 p e U m T70 203 L_11 [.int 2, .int 1, .ref d10]
   obtain ⟨cl71, Ar71, qa71, Sa71, Na71, Ha71, Ga71⟩ := id A10__70
   have hin71 : ¬ ((1 : Int32) < 0 ∨ cl71.slots.size ≤ ((1 : Int32)).toNatClampNeg) := inb_of Sa71 ⟨by decide, by decide⟩
   obtain ⟨T71, h71, X71, e71, W71, st71⟩ := stI X70 f Y e70 Ar71 (j := (1 : Int32)) hin71 (g := (mkF m 203 L_11 [.int 2, .int 1, .ref d10])) rfl rfl (hb d as2)
   have Vw71 := u0 Ar71 qa71 Sa71 Na71 Ha71 Ga71 rfl W71 rfl
   replace Vw71 : Arv Z h71 d10 kd10 .int 2 [.int 0, .int 2] (.int 0) := Vw71
   have Et__71 := Et__70.wr W71
   have Fw70__71 := Fw70.other W71 (Or.inl ne_oa_d10)
   have Fw8__71 := Fw8__70.other W71 (Or.inl ne_oa_d10)
   have Fw11__71 := Fw11__70.other W71 (Or.inl ne_oa_d10)
   have Fw51__71 := Fw51__70.other W71 (Or.inl ne_oa_d10)
   have Flt__71 := Flt__70.other W71 (Or.inl ne_oa_d10)
   have Vw67__71 := Vw67__70.other W71 ne_d7_d10
   have Vw62__71 := Vw62__70.other W71 (Ne.symm ne_d10_d50)
   have Ey50__71 := Ey50__70.wr W71
   have N71 := Fr.snoc X71 N70 g_d10
   have KP71 := KP70.wr W71 (Or.inr sz_d10)
   refine c8 st71 ?_
   show c5 p e U m T71 204 L_11 []
   refine c6 X71 f d as3 rfl rfl ?_
   refine c6 X71 f d as4 rfl rfl ?_
   obtain ⟨T72, h72, X72, e72, W72, st72⟩ := putF X71 f Y O (host := "") (Or.inl (B3 w)) Via.refl e71 Flt__71 Et__71 (Or.inl (w6 w)) (o0 w) (ty := (.object "java/math/BigInteger")) (by decide) rfl rfl (g := (mkF m 206 L_11 [.ref bc, .ref oa])) rfl rfl (hb d as5)
   have Fw72 := Flt__71.same W72
   have Et__72 := Et__71.wr W72
   have Fw70__72 := Fw70__71.other W72 (Or.inr (J8 w))
   have Fw8__72 := Fw8__71.other W72 (Or.inr (J9 w))
   have Fw11__72 := Fw11__71.other W72 (Or.inr (K0 w))
   have Fw51__72 := Fw51__71.other W72 (Or.inr (L0 w))
   have Vw67__72 := Vw67__71.other W72 (Ne.symm ne_oa_d7)
   have Vw71__72 := Vw71.other W72 (Ne.symm ne_oa_d10)
   have Vw62__72 := Vw62__71.other W72 (Ne.symm ne_oa_d50)
   have Ey50__72 := Ey50__71.wr W72
   have N72 := Fr.snoc X72 N71 g_oa
   have KP72 := KP71.wr W72 (Or.inl (List.mem_of_getElem? (i := 0) rfl))
   refine c8 st72 ?_
   show c5 p e U m T72 209 L_11 []
   exact q0 X72 f R (hb d as6) (by rw [e72]; exact ⟨rfl, N72, KP72, [oa, d7, d10, d50], allS (Or.inl (List.mem_of_getElem? (i := 0) rfl)) (allS (Or.inr sz_d7) (allS (Or.inr sz_d10) (allS (Or.inr sz_d50) all0))), _, _, _, _, _, _, rfl, ⟨Et__72, Fw70__72, Fw8__72, Fw11__72, Fw51__72, Fw72⟩, Vw67__72, Vw71__72, Vw62__72, Ey50__72⟩) (by decide) (by decide)
theorem cG2:c4 j4 29 (.bipush 16) 2:=by decide +kernel
theorem cG3:c4 j4 31 (.aload_n 0) 1:=by decide +kernel
theorem cG4:c4 j4 32 (.getfield 27) 3:=by decide +kernel
theorem cG5:c4 j4 35 (.iconst 2) 1:=by decide +kernel
theorem cG6:c4 j4 36 .imul 1:=by decide +kernel
theorem cG7:c4 j4 37 (.invokestatic 31) 3:=by decide +kernel
def cg1 (Z : State) (oa : Addr) (x0 : List Int32) (f0 : Int64) (W : List Addr) (cs_ : List Int32) (xn : Int64) (bc : Addr) (h0 : Heap) (n0 : Nat) (v : Option Value) (h : Heap) (L : List Loc) : Prop := v = none ∧ Fr n0 L ∧ Keep h0 h W ∧ ∃ W' : List Addr, (∀ y ∈ W', y ∈ W ∨ h0.size ≤ y) ∧ own_L Z h oa [x0, cs_] [f0, xn] W' (.ref bc) 16 17 64
theorem de1 (l : Launch) (Z : State) (a0 : Array Value) (w : j9 Z a0) (ws : List Jvm.Cond) (x0 : List Int32) (f0 : Int64) (oa oc os ot bf bc : Addr) (kt : ClassId) (cs_ : List Int32) (xn : Int64) (W : List Addr) (lc : Value) (P_ : Addr → Prop) (xw : Nat) (z0 pc0 : Addr) (kpc : ClassId) (pcs : List Value) (fm : Value) (al : Addr) (kal : ClassId) (als : List Value) (h0 : Heap) (n0 : Nat) (Z0 : n0 ≤ h0.size) (Lq : own_L Z h0 oa [x0] [f0] W lc 1 2 64) (NM : own_NM Z h0 oc os ot kt cs_ xw) (nm_ : own_nm als cs_) (Bf : own_BP Z h0 bf xn P_) (gW : ∀ y ∈ W, n0 ≤ y) (hP : ∀ y ∈ W, ¬ P_ y) (hP2 : ∀ y, P_ y → y < h0.size) (hW0 : ∀ y ∈ W, xw ≤ y) (hxw : xw ≤ h0.size) (hnn : ¬ xn < 0) (r_lc : lc.isRef = true) (hx0 : 1 ≤ x0.length ∧ x0.length ≤ 2) (XO : Old Z n0 h0) (WW : r5 Z z0 pc0 kpc pcs fm al kal als) :
 l0 l Z h0 cb0 j4 8 none ws (Jvm.Room.mk 4 3 40 70) #[.ref oa, .ref oc, .ref bf, .ref bc] (cg1 Z oa x0 f0 W cs_ xn bc h0 n0) := by
 refine l7 (Ls := #[.val (.ref oa), .val (.ref oc), .val (.ref bf), .val (.ref bc), .unset, .unset, .unset, .unset]) (plainFor_of_name E0) (fun p e s m U meth c s₁ Y hh f d r O hnm hlk R X0 e0 => ?_)
 replace O : s.vm.findClass "com/example/prizewell/prizewell/core/TicketRanges" = some m.cls := O
 have N0 := Fr.nil n0
 obtain ⟨SAl, AAl, r_fm, ⟨cs, hcs, SC⟩, SFM, SZ, BZ, SPc, APc, HPc, HAL, uo, u8, i8, CS⟩ := id WW
 obtain ⟨tf, tn, tb, ktf, ktn, ktb, rfl, ⟨Et, Fst, Fft, Fnt, Fbt, Flt⟩, Aft, Agt, Abt, Ebt⟩ := id Lq
 replace Fst : Fld Z h0 oa "com/example/prizewell/prizewell/core/TicketRanges" "size" "I" (.int 1) := Fst
 obtain ⟨xp, hxp⟩ : ∃ z, z = 0 + p6 x0 := ⟨_, rfl⟩
 replace Agt : Arv Z h0 tn ktn .int 2 [.int 0, .int xp] (.int 0) := by rw [hxp]; exact Agt
 rw [aZ4] at Abt
 have tp := G9 (css := [x0]) hxp (Y9 hx0) (j6 rfl)
 rw [aZ4] at tp
 have pl64 := cg6 tp.1 tp.2.2
 have hxn := H2 tp.1
 have g_oa := gW _ (List.mem_of_getElem? (i := 0) rfl)
 have g_tb := gW _ (List.mem_of_getElem? (i := 3) rfl)
 have ne_otn := Exa.neArv Et Agt (o0 w)
 have ne_otb := Exa.neArv Et Abt (o0 w)
 have Ec := NM.2.1
 have Es := NM.2.2.2.1
 have Ebf := Bf.2.1
 let L_1 : Array Slot := #[oR oa,oR oc,oR bf,oR bc,oU,oU,oU,oU]
 show c5 p e U m s₁ 0 L_1 []
 refine c6 X0 f d bX4 rfl rfl ?_
 obtain ⟨_, T1, Lc1, X1, hQ1, st1⟩ := o1 X0 f d r Y e0 O (bf7 w) (aD5 w) (aD4 w) (aD6 w) (F7 w) (aD7 w) Ec (aK7 l Z a0 w [] oc os h0 n0 Z0 NM.2.2.1) L_1 bX5 [] [] 0 0 0 (lenOf aU0 rfl)
 obtain ⟨rfl, Nq1, e1⟩ := hQ1
 have N1 := Fr.app N0 Nq1
 refine c8 st1 ?_
 show c5 p e U m T1 4 L_1 [.ref os]
 let L_2 : Array Slot := #[oR oa,oR oc,oR bf,oR bc,oR os,oU,oU,oU]
 refine t5 X1 f d bX6 rfl (l' := L_2) rfl ?_
 refine c6 X1 f d bX7 rfl rfl ?_
 refine d3 X1 f d Y e1 O (i6 w) Fst bX8 (fun T2 X2 e2 => ?_)
 refine c6 X2 f d bA1 rfl rfl ?_
 refine d3 X2 f d Y e2 O (o9 w) Fft bA2 (fun T3 X3 e3 => ?_)
 refine m7 X3 f d Y e3 Aft bA3 ?_
 refine m4 X3 f d bA4 (teq (by decide : (1 : Int32) = (1 : Int32))).2 ?_
 refine c6 X3 f d bA5 rfl rfl ?_
 refine d3 X3 f d Y e3 O (i6 w) Fst bA6 (fun T5 X5 e5 => ?_)
 refine o2 (pc := 22) (pc' := 29) X5 f d bA7 ((if0 _ _).trans (feq (by decide : ¬ ((1 : Int32) = (0 : Int32)))).2) ?_
 refine t9 X5 f d cG2 (z := (16 : Int32)) rfl ?_
 refine c6 X5 f d cG3 rfl rfl ?_
 refine d3 X5 f d Y e5 O (i6 w) Fst cG4 (fun T6 X6 e6 => ?_)
 refine f6 X6 f d cG5 (z := (2 : Int32)) rfl ?_
 refine P3 X6 f d cG6 ?_
 obtain ⟨_, T7, Lc7, X7, hQ7, st7⟩ := j8 X6 f d r Y e6 O (D1 w) (D6 w) (s6 w) (D9 w) (Q2 l Z a0 w [] (16 : Int32) (2 : Int32) h0 n0 Z0 (by decide)) L_2 cG7 [.int 16, .int 2] [] 0 0 0 (lenOf s9 rfl)
 obtain ⟨rfl, Nq7, e7⟩ := hQ7
 have N7 := Fr.app N1 Nq7
 refine c8 st7 ?_
 show c5 p e U m T7 40 L_2 [.int 16]
 let L_3 : Array Slot := #[oR oa,oR oc,oR bf,oR bc,oR os,oI 16,oU,oU]
 refine o4 X7 f d bA8 (l' := L_3) rfl ?_
 refine c6 X7 f d bA9 rfl rfl ?_
 refine c6 X7 f d bB0 rfl rfl ?_
 refine d3 X7 f d Y e7 O (o9 w) Fft bB1 (fun T8 X8 e8 => ?_)
 refine f5 X8 f d bB2 rfl ?_
 obtain ⟨_, T9, Lc9, X9, hQ9, st9⟩ := j8 X8 f d r Y e8 O (af0 w) (af1 w) (t6 w) (af2 w) (aC0 l Z a0 w [] tf ktf f0 h0 n0 Z0 Aft) L_3 bB3 [.ref tf, .int 16] [.ref oa] 1 1 16 (lenOf ak3 rfl)
 obtain ⟨d9, kd9, rfl, Nq9, K9, ge9, A9⟩ := hQ9
 have N9 := Fr.app N7 Nq9
 refine c8 st9 ?_
 have g_d9 : n0 ≤ d9 := c9 Z0 ge9
 have sz_d9 : h0.size ≤ d9 := c9 (Keep.refl h0 [oa, tf, tn, tb]).1 ge9
 have ne_oa_d9 : oa ≠ d9 := Nat.ne_of_lt (j3 Et.lt ge9)
 have ne_tb_d9 : tb ≠ d9 := Nat.ne_of_lt (j3 Abt.lt ge9)
 have XO__9 := XO.keep K9 all0
 have Et__9 := Et.keep K9
 have Fst__9 := Fst.keep K9 nin0
 have Fft__9 := Fft.keep K9 nin0
 have Fnt__9 := Fnt.keep K9 nin0
 have Fbt__9 := Fbt.keep K9 nin0
 have Flt__9 := Flt.keep K9 nin0
 have Agt__9 := Agt.keep K9 nin0
 have Abt__9 := Abt.keep K9 nin0
 have Ebt__9 := Ebt.keep K9
 have Es__9 := Es.keep K9
 have Ebf__9 := Ebf.keep K9
 have NM__9 := NM.keep K9 all0
 have Bf__9 := Bf.keep K9 all0
 have KP9 := (Keep.refl h0 [oa, tf, tn, tb]).trans K9 all0
 have sz9 := c9 Z0 K9.1
 obtain ⟨T10, h10, X10, e10, W10, st10⟩ := putF X9 f Y O (host := "") (Or.inl (o9 w)) Via.refl rfl Fft__9 Et__9 (Or.inl (x4 w)) (o0 w) (ty := (.array .long)) (by decide) rfl rfl (g := (mkF m 52 L_3 [.ref d9, .ref oa])) rfl rfl (hb d bB4)
 have Fw10 := Fft__9.same W10
 have XO__10 := XO__9.wr W10 g_oa
 have Et__10 := Et__9.wr W10
 have Fst__10 := Fst__9.other W10 (Or.inr (Y4 w))
 have Fnt__10 := Fnt__9.other W10 (Or.inr (Y5 w))
 have Fbt__10 := Fbt__9.other W10 (Or.inr (U4 w))
 have Flt__10 := Flt__9.other W10 (Or.inr (U5 w))
 have Agt__10 := Agt__9.other W10 (Ne.symm ne_otn)
 have Abt__10 := Abt__9.other W10 (Ne.symm ne_otb)
 have Ebt__10 := Ebt__9.wr W10
 have Es__10 := Es__9.wr W10
 have Ebf__10 := Ebf__9.wr W10
 have NM__10 := NM__9.keep (Keep.of_wr W10) (allS (hW0 _ (List.mem_of_getElem? (i := 0) rfl)) all0)
 have Bf__10 := Bf__9.keep (Keep.of_wr W10) (allS (hP _ (List.mem_of_getElem? (i := 0) rfl)) all0)
 have A9__10 := A9.other W10 (Ne.symm ne_oa_d9)
 have N10 := Fr.snoc X10 N9 g_oa
 have KP10 := KP9.wr W10 (Or.inl (List.mem_of_getElem? (i := 0) rfl))
 have sz10 := c9 sz9 (Keep.of_wr W10).1
 refine c8 st10 ?_
 show c5 p e U m T10 55 L_3 []
 refine c6 X10 f d bB5 rfl rfl ?_
 refine c6 X10 f d bB6 rfl rfl ?_
 refine d3 X10 f d Y e10 O (m6 w) Fnt__10 bB7 (fun T11 X11 e11 => ?_)
 refine f5 X11 f d bB8 rfl ?_
 refine f6 X11 f d bB9 (z := (1 : Int32)) rfl ?_
 refine n7 X11 f d bC0 ?_
 obtain ⟨_, T12, Lc12, X12, hQ12, st12⟩ := j8 X11 f d r Y e11 O (af3 w) (af4 w) (t6 w) (af5 w) (aC1 l Z a0 w [] tn ktn (0 : Int32) xp h10 n0 sz10 Agt__10) L_3 bC1 [.ref tn, .int 17] [.ref oa] 1 1 17 (lenOf ak4 rfl)
 obtain ⟨d12, kd12, rfl, Nq12, K12, ge12, A12⟩ := hQ12
 have N12 := Fr.app N10 Nq12
 refine c8 st12 ?_
 have g_d12 : n0 ≤ d12 := c9 sz10 ge12
 have sz_d12 : h0.size ≤ d12 := c9 KP10.1 ge12
 have ne_oa_d12 : oa ≠ d12 := Nat.ne_of_lt (j3 Et__10.lt ge12)
 have ne_tb_d12 : tb ≠ d12 := Nat.ne_of_lt (j3 Abt__10.lt ge12)
 have ne_d9_d12 : d9 ≠ d12 := Nat.ne_of_lt (j3 A9__10.lt ge12)
 have XO__12 := XO__10.keep K12 all0
 have Et__12 := Et__10.keep K12
 have Fst__12 := Fst__10.keep K12 nin0
 have Fw10__12 := Fw10.keep K12 nin0
 have Fnt__12 := Fnt__10.keep K12 nin0
 have Fbt__12 := Fbt__10.keep K12 nin0
 have Flt__12 := Flt__10.keep K12 nin0
 have Abt__12 := Abt__10.keep K12 nin0
 have Ebt__12 := Ebt__10.keep K12
 have Es__12 := Es__10.keep K12
 have Ebf__12 := Ebf__10.keep K12
 have NM__12 := NM__10.keep K12 all0
 have Bf__12 := Bf__10.keep K12 all0
 have A9__12 := A9__10.keep K12 nin0
 have KP12 := KP10.trans K12 all0
 have sz12 := c9 sz10 K12.1
 obtain ⟨T13, h13, X13, e13, W13, st13⟩ := putF X12 f Y O (host := "") (Or.inl (m6 w)) Via.refl rfl Fnt__12 Et__12 (Or.inl (x5 w)) (o0 w) (ty := (.array .int)) (by decide) rfl rfl (g := (mkF m 67 L_3 [.ref d12, .ref oa])) rfl rfl (hb d bC2)
 have Fw13 := Fnt__12.same W13
 have XO__13 := XO__12.wr W13 g_oa
 have Et__13 := Et__12.wr W13
 have Fst__13 := Fst__12.other W13 (Or.inr (U6 w))
 have Fw10__13 := Fw10__12.other W13 (Or.inr (U7 w))
 have Fbt__13 := Fbt__12.other W13 (Or.inr (U8 w))
 have Flt__13 := Flt__12.other W13 (Or.inr (U9 w))
 have Abt__13 := Abt__12.other W13 (Ne.symm ne_otb)
 have Ebt__13 := Ebt__12.wr W13
 have Es__13 := Es__12.wr W13
 have Ebf__13 := Ebf__12.wr W13
 have NM__13 := NM__12.keep (Keep.of_wr W13) (allS (hW0 _ (List.mem_of_getElem? (i := 0) rfl)) all0)
 have Bf__13 := Bf__12.keep (Keep.of_wr W13) (allS (hP _ (List.mem_of_getElem? (i := 0) rfl)) all0)
 have A9__13 := A9__12.other W13 (Ne.symm ne_oa_d9)
 have A12__13 := A12.other W13 (Ne.symm ne_oa_d12)
 have N13 := Fr.snoc X13 N12 g_oa
 have KP13 := KP12.wr W13 (Or.inl (List.mem_of_getElem? (i := 0) rfl))
 have sz13 := c9 sz12 (Keep.of_wr W13).1
 refine c8 st13 ?_
 show c5 p e U m T13 70 L_3 []
 refine c6 X13 f d bC3 rfl rfl ?_
 refine d3 X13 f d Y e13 O (m6 w) Fw13 bC4 (fun T14 X14 e14 => ?_)
 refine c6 X14 f d bC5 rfl rfl ?_
 refine d3 X14 f d Y e14 O (i6 w) Fst__13 bC6 (fun T15 X15 e15 => ?_)
 refine n3 X15 f d Y e15 A12__13 ⟨by decide, by decide⟩ rfl bC7 ?_
 show c5 p e U m T15 79 L_3 [.int xp]
 rcases nm_ with ⟨c0, rfl, ok0⟩ | ⟨c0, c1, rfl, ok0, ok1⟩
 · skip
   refine j0 X15 f d av6 rfl rfl ?_
   obtain ⟨_, T17, Lc17, X17, hQ17, st17⟩ := o1 X15 f d r Y e15 O (F6 w) (C0 w) (B9 w) (C1 w) (o6 w) (C2 w) Es__13 (C5 l Z a0 w [] os ot kt (1 : Int32) [.int c0] z0 pc0 kpc pcs fm al kal als h13 n0 sz13 NM__13.2.2.2 XO__13 WW) L_3 av7 [] [.int xp] 1 0 0 (lenOf v7 rfl)
   obtain ⟨rfl, Nq17, e17⟩ := hQ17
   have N17 := Fr.app N13 Nq17
   refine c8 st17 ?_
   show c5 p e U m T17 84 L_3 [.int 1, .int xp]
   refine n7 X17 f d av8 ?_
   show c5 p e U m T17 85 L_3 [(.int (xp + (1 : Int32)))]
   let L_4 : Array Slot := #[oR oa,oR oc,oR bf,oR bc,oR os,(oI (xp + (1 : Int32))),oU,oU]
   refine o4 X17 f d av9 (l' := L_4) rfl ?_
   refine f5 X17 f d aw0 rfl ?_
   refine c6 X17 f d aw1 rfl rfl ?_
   refine d3 X17 f d Y e17 O (o8 w) Fbt__13 aw2 (fun T18 X18 e18 => ?_)
   refine m7 X18 f d Y e18 Abt__13 aw3 ?_
   refine j5 (pc := 94) (pc' := 125) X18 f d aw4 (flt (Z5 tp.1 (b := (1 : Int32)) (n := 1) (by decide) tp.2.2 (by decide) : ¬ ((64 : Int32) < (xp + (1 : Int32))))).2.2.2 ?_
   refine f6 X18 f d ap7 (z := (0 : Int32)) rfl ?_
   let L_5 : Array Slot := #[oR oa,oR oc,oR bf,oR bc,oR os,(oI (xp + (1 : Int32))),oI 0,oU]
   refine o4 X18 f d ap8 (l' := L_5) rfl ?_
   refine c6 X18 f d ap9 rfl rfl ?_
   refine d3 X18 f d Y e18 O (m6 w) Fw13 aq0 (fun T20 X20 e20 => ?_)
   refine c6 X20 f d aq1 rfl rfl ?_
   refine d3 X20 f d Y e20 O (i6 w) Fst__13 aq2 (fun T21 X21 e21 => ?_)
   refine n3 X21 f d Y e21 A12__13 ⟨by decide, by decide⟩ rfl aq3 ?_
   let L_6 : Array Slot := #[oR oa,oR oc,oR bf,oR bc,oR os,(oI (xp + (1 : Int32))),oI 0,oI xp]
   refine o4 X21 f d aq4 (l' := L_6) rfl ?_
   refine f5 X21 f d I4 rfl ?_
   refine j0 X21 f d I5 rfl rfl ?_
   obtain ⟨_, T23, Lc23, X23, hQ23, st23⟩ := o1 X21 f d r Y e21 O (F6 w) (C0 w) (B9 w) (C1 w) (o6 w) (C2 w) Es__13 (C5 l Z a0 w [] os ot kt (1 : Int32) [.int c0] z0 pc0 kpc pcs fm al kal als h13 n0 sz13 NM__13.2.2.2 XO__13 WW) L_6 I6 [] [.int 0] 1 0 0 (lenOf v7 rfl)
   obtain ⟨rfl, Nq23, e23⟩ := hQ23
   have N23 := Fr.app N17 Nq23
   refine c8 st23 ?_
   show c5 p e U m T23 146 L_6 [.int 1, .int 0]
   refine m4 X23 f d I7 (tlt (by decide : (0 : Int32) < (1 : Int32))).2.1 ?_
   refine c6 X23 f d Z8 rfl rfl ?_
   refine d3 X23 f d Y e23 O (o8 w) Fbt__13 Z9 (fun T24 X24 e24 => ?_)
   refine f5 X24 f d aa0 rfl ?_
   refine f5 X24 f d aa1 rfl ?_
   refine n7 X24 f d aa2 ?_
   show c5 p e U m T24 158 L_6 [(.int (xp + (0 : Int32))), .ref tb]
   refine j0 X24 f d aa3 rfl rfl ?_
   refine f5 X24 f d aa4 rfl ?_
   obtain ⟨_, T25, Lc25, X25, hQ25, st25⟩ := o1 X24 f d r Y e24 O (af6 w) (H6 w) (H5 w) (H7 w) (o6 w) (H8 w) Es__13 (I1 l Z a0 w [] os ot kt (1 : Int32) [.int c0] (0 : Int32) c0 z0 pc0 kpc pcs fm al kal als h13 n0 sz13 NM__13.2.2.2 (by decide) (by decide) rfl ok0.1 ok0.2.1 XO__13 WW) L_6 aa5 [.int 0] [(.int (xp + (0 : Int32))), .ref tb] 2 0 0 (lenOf I2 rfl)
   obtain ⟨rfl, Nq25, e25⟩ := hQ25
   have N25 := Fr.app N23 Nq25
   refine c8 st25 ?_
   show c5 p e U m T25 165 L_6 [.int c0, (.int (xp + (0 : Int32))), .ref tb]
   refine H4 X25 f d aa6 ?_
   show c5 p e U m T25 166 L_6 [(.int (c0.toInt8.toInt32)), (.int (xp + (0 : Int32))), .ref tb]
   obtain ⟨cl26, Ar26, qa26, Sa26, Na26, Ha26, Ga26⟩ := id Abt__13
   have hin26 : ¬ ((xp + (0 : Int32)) < 0 ∨ cl26.slots.size ≤ ((xp + (0 : Int32))).toNatClampNeg) := inb_of Sa26 (ap4 pl64 0 (by decide) (by decide))
   obtain ⟨T26, h26, X26, e26, W26, st26⟩ := stB X25 f Y e25 Ar26 (j := (xp + (0 : Int32))) hin26 (g := (mkF m 166 L_6 [(.int (c0.toInt8.toInt32)), (.int (xp + (0 : Int32))), .ref tb])) rfl rfl (hb d aa7)
   have Vw26 := u0 Ar26 qa26 Sa26 Na26 Ha26 Ga26 (fits_nar_byte _) W26 (by show (xp + Int32.ofNat 0).toNatClampNeg = _; rw [ap3 pl64 0 (by decide) (by decide), hxn]; simp [m9])
   rw [Z7 ok0.1 ok0.2.1] at Vw26
   have XO__26 := XO__13.wr W26 g_tb
   have Et__26 := Et__13.wr W26
   have Fst__26 := Fst__13.other W26 (Or.inl ne_otb)
   have Fw10__26 := Fw10__13.other W26 (Or.inl ne_otb)
   have Fw13__26 := Fw13.other W26 (Or.inl ne_otb)
   have Fbt__26 := Fbt__13.other W26 (Or.inl ne_otb)
   have Flt__26 := Flt__13.other W26 (Or.inl ne_otb)
   have Ebt__26 := Ebt__13.wr W26
   have Es__26 := Es__13.wr W26
   have Ebf__26 := Ebf__13.wr W26
   have NM__26 := NM__13.keep (Keep.of_wr W26) (allS (hW0 _ (List.mem_of_getElem? (i := 3) rfl)) all0)
   have Bf__26 := Bf__13.keep (Keep.of_wr W26) (allS (hP _ (List.mem_of_getElem? (i := 3) rfl)) all0)
   have A9__26 := A9__13.other W26 (Ne.symm ne_tb_d9)
   have A12__26 := A12__13.other W26 (Ne.symm ne_tb_d12)
   have N26 := Fr.snoc X26 N25 g_tb
   have KP26 := KP13.wr W26 (Or.inl (List.mem_of_getElem? (i := 3) rfl))
   have sz26 := c9 sz13 (Keep.of_wr W26).1
   refine c8 st26 ?_
   show c5 p e U m T26 167 L_6 []
   let L_7 : Array Slot := #[oR oa,oR oc,oR bf,oR bc,oR os,(oI (xp + (1 : Int32))),oI 1,oI xp]
   refine c8 (fun t k => XS.iinc X26.here f rfl (hb d aa8) rfl (l' := L_7) rfl k) ?_
   show c5 p e U m T26 170 L_7 []
   refine m5 (pc := 170) (pc' := 139) X26 f d aa9 ?_
   refine f5 X26 f d I4 rfl ?_
   refine j0 X26 f d I5 rfl rfl ?_
   obtain ⟨_, T27, Lc27, X27, hQ27, st27⟩ := o1 X26 f d r Y e26 O (F6 w) (C0 w) (B9 w) (C1 w) (o6 w) (C2 w) Es__26 (C5 l Z a0 w [] os ot kt (1 : Int32) [.int c0] z0 pc0 kpc pcs fm al kal als h26 n0 sz26 NM__26.2.2.2 XO__26 WW) L_7 I6 [] [.int 1] 1 0 0 (lenOf v7 rfl)
   obtain ⟨rfl, Nq27, e27⟩ := hQ27
   have N27 := Fr.app N26 Nq27
   refine c8 st27 ?_
   show c5 p e U m T27 146 L_7 [.int 1, .int 1]
   refine j5 (pc := 146) (pc' := 173) X27 f d I7 (flt (by decide : ¬ ((1 : Int32) < (1 : Int32)))).2.1 ?_
   refine c6 X27 f d aq5 rfl rfl ?_
   refine d3 X27 f d Y e27 O (o9 w) Fw10__26 aq6 (fun T28 X28 e28 => ?_)
   refine c6 X28 f d aq7 rfl rfl ?_
   refine d3 X28 f d Y e28 O (i6 w) Fst__26 aq8 (fun T29 X29 e29 => ?_)
   refine c6 X29 f d aq9 rfl rfl ?_
   obtain ⟨_, T30, Lc30, X30, hQ30, st30⟩ := o1 X29 f d r Y e29 O (at4 w) (at6 w) (at5 w) (at7 w) (u9 w) (at8 w) Ebf__26 (aB3 l Z a0 w [] bf _ xn h26 n0 sz26 Bf__26.bi hnn) L_7 ar0 [] [.int 1, .ref d9] 2 0 0 (lenOf aA2 rfl)
   obtain ⟨rfl, Nq30, e30⟩ := hQ30
   have N30 := Fr.app N27 Nq30
   refine c8 st30 ?_
   show c5 p e U m T30 185 L_7 [.long xn, .int 1, .ref d9]
   obtain ⟨cl31, Ar31, qa31, Sa31, Na31, Ha31, Ga31⟩ := id A9__26
   have hin31 : ¬ ((1 : Int32) < 0 ∨ cl31.slots.size ≤ ((1 : Int32)).toNatClampNeg) := inb_of Sa31 ⟨by decide, by decide⟩
   obtain ⟨T31, h31, X31, e31, W31, st31⟩ := stJ X30 f Y e30 Ar31 (j := (1 : Int32)) hin31 (g := (mkF m 185 L_7 [.long xn, .int 1, .ref d9])) rfl rfl (hb d ar1)
   have Vw31 := u0 Ar31 qa31 Sa31 Na31 Ha31 Ga31 rfl W31 rfl
   replace Vw31 : Arv Z h31 d9 kd9 .long (16 : Int32) [.long f0, .long xn] (.long (0 : Int64)) := Vw31
   have Et__31 := Et__26.wr W31
   have Fst__31 := Fst__26.other W31 (Or.inl ne_oa_d9)
   have Fw10__31 := Fw10__26.other W31 (Or.inl ne_oa_d9)
   have Fw13__31 := Fw13__26.other W31 (Or.inl ne_oa_d9)
   have Fbt__31 := Fbt__26.other W31 (Or.inl ne_oa_d9)
   have Flt__31 := Flt__26.other W31 (Or.inl ne_oa_d9)
   have Vw26__31 := Vw26.other W31 ne_tb_d9
   have Ebt__31 := Ebt__26.wr W31
   have A12__31 := A12__26.other W31 (Ne.symm ne_d9_d12)
   have N31 := Fr.snoc X31 N30 g_d9
   have KP31 := KP26.wr W31 (Or.inr sz_d9)
   refine c8 st31 ?_
   show c5 p e U m T31 186 L_7 []
   refine c6 X31 f d ar2 rfl rfl ?_
   refine d3 X31 f d Y e31 O (m6 w) Fw13__31 ar3 (fun T32 X32 e32 => ?_)
   refine c6 X32 f d ar4 rfl rfl ?_
   refine A0 X32 f d ar5 rfl ?_
   refine d3 X32 f d Y e32 O (i6 w) Fst__31 ar6 (fun T33 X33 e33 => ?_)
   refine f6 X33 f d ar7 (z := (1 : Int32)) rfl ?_
   refine n7 X33 f d ar8 ?_
   show c5 p e U m T33 197 L_7 [.int 2, .ref oa, .ref d12]
   refine c8 (fun t k => XS.dupX1 X33.here f rfl (hb d ar9) rfl rfl rfl k) ?_
   obtain ⟨T34, h34, X34, e34, W34, st34⟩ := putF X33 f Y O (host := "") (Or.inl (i6 w)) Via.refl e33 Fst__31 Et__31 (Or.inl (w5 w)) (o0 w) (ty := .int) (by decide) rfl rfl (g := (mkF m 198 L_7 [.int 2, .ref oa, .int 2, .ref d12])) rfl rfl (hb d as0)
   have Fw34 := Fst__31.same W34
   have Et__34 := Et__31.wr W34
   have Fw10__34 := Fw10__31.other W34 (Or.inr (J4 w))
   have Fw13__34 := Fw13__31.other W34 (Or.inr (J5 w))
   have Fbt__34 := Fbt__31.other W34 (Or.inr (J6 w))
   have Flt__34 := Flt__31.other W34 (Or.inr (J7 w))
   have Vw26__34 := Vw26__31.other W34 (Ne.symm ne_otb)
   have Ebt__34 := Ebt__31.wr W34
   have Vw31__34 := Vw31.other W34 (Ne.symm ne_oa_d9)
   have A12__34 := A12__31.other W34 (Ne.symm ne_oa_d12)
   have N34 := Fr.snoc X34 N31 g_oa
   have KP34 := KP31.wr W34 (Or.inl (List.mem_of_getElem? (i := 0) rfl))
   refine c8 st34 ?_
   show c5 p e U m T34 201 L_7 [.int 2, .ref d12]
   refine f5 X34 f d as1 rfl ?_
   show c5 p e U m T34 203 L_7 [(.int (xp + (1 : Int32))), .int 2, .ref d12]
   obtain ⟨cl35, Ar35, qa35, Sa35, Na35, Ha35, Ga35⟩ := id A12__34
   have hin35 : ¬ ((2 : Int32) < 0 ∨ cl35.slots.size ≤ ((2 : Int32)).toNatClampNeg) := inb_of Sa35 ⟨by decide, by decide⟩
   obtain ⟨T35, h35, X35, e35, W35, st35⟩ := stI X34 f Y e34 Ar35 (j := (2 : Int32)) hin35 (g := (mkF m 203 L_7 [(.int (xp + (1 : Int32))), .int 2, .ref d12])) rfl rfl (hb d as2)
   have Vw35 := u0 Ar35 qa35 Sa35 Na35 Ha35 Ga35 rfl W35 rfl
   replace Vw35 : Arv Z h35 d12 kd12 .int 17 [.int 0, .int xp, (.int (xp + (1 : Int32)))] (.int 0) := Vw35
   have Et__35 := Et__34.wr W35
   have Fw34__35 := Fw34.other W35 (Or.inl ne_oa_d12)
   have Fw10__35 := Fw10__34.other W35 (Or.inl ne_oa_d12)
   have Fw13__35 := Fw13__34.other W35 (Or.inl ne_oa_d12)
   have Fbt__35 := Fbt__34.other W35 (Or.inl ne_oa_d12)
   have Flt__35 := Flt__34.other W35 (Or.inl ne_oa_d12)
   have Vw26__35 := Vw26__34.other W35 ne_tb_d12
   have Ebt__35 := Ebt__34.wr W35
   have Vw31__35 := Vw31__34.other W35 ne_d9_d12
   have N35 := Fr.snoc X35 N34 g_d12
   have KP35 := KP34.wr W35 (Or.inr sz_d12)
   refine c8 st35 ?_
   show c5 p e U m T35 204 L_7 []
   refine c6 X35 f d as3 rfl rfl ?_
   refine c6 X35 f d as4 rfl rfl ?_
   obtain ⟨T36, h36, X36, e36, W36, st36⟩ := putF X35 f Y O (host := "") (Or.inl (B3 w)) Via.refl e35 Flt__35 Et__35 (Or.inl (w6 w)) (o0 w) (ty := (.object "java/math/BigInteger")) (by decide) rfl rfl (g := (mkF m 206 L_7 [.ref bc, .ref oa])) rfl rfl (hb d as5)
   have Fw36 := Flt__35.same W36
   have Et__36 := Et__35.wr W36
   have Fw34__36 := Fw34__35.other W36 (Or.inr (J8 w))
   have Fw10__36 := Fw10__35.other W36 (Or.inr (J9 w))
   have Fw13__36 := Fw13__35.other W36 (Or.inr (K0 w))
   have Fbt__36 := Fbt__35.other W36 (Or.inr (L0 w))
   have Vw26__36 := Vw26__35.other W36 (Ne.symm ne_otb)
   have Ebt__36 := Ebt__35.wr W36
   have Vw31__36 := Vw31__35.other W36 (Ne.symm ne_oa_d9)
   have Vw35__36 := Vw35.other W36 (Ne.symm ne_oa_d12)
   have N36 := Fr.snoc X36 N35 g_oa
   have KP36 := KP35.wr W36 (Or.inl (List.mem_of_getElem? (i := 0) rfl))
   refine c8 st36 ?_
   show c5 p e U m T36 209 L_7 []
   exact q0 X36 f R (hb d as6) (by rw [e36]; exact ⟨rfl, N36, KP36, [oa, d9, d12, tb], allS (Or.inl (List.mem_of_getElem? (i := 0) rfl)) (allS (Or.inr sz_d9) (allS (Or.inr sz_d12) (allS (Or.inl (List.mem_of_getElem? (i := 3) rfl)) all0))), _, _, _, _, _, _, rfl, ⟨Et__36, Fw34__36, Fw10__36, Fw13__36, Fbt__36, Fw36⟩, Vw31__36, (by have q := Vw35__36; rw [hxp] at q; exact q), (by have q := Vw26__36; simpa [m9] using q), Ebt__36⟩) (by decide) (by decide)
 · skip
   refine j0 X15 f d av6 rfl rfl ?_
   obtain ⟨_, T37, Lc37, X37, hQ37, st37⟩ := o1 X15 f d r Y e15 O (F6 w) (C0 w) (B9 w) (C1 w) (o6 w) (C2 w) Es__13 (C5 l Z a0 w [] os ot kt (2 : Int32) [.int c0, .int c1] z0 pc0 kpc pcs fm al kal als h13 n0 sz13 NM__13.2.2.2 XO__13 WW) L_3 av7 [] [.int xp] 1 0 0 (lenOf v7 rfl)
   obtain ⟨rfl, Nq37, e37⟩ := hQ37
   have N37 := Fr.app N13 Nq37
   refine c8 st37 ?_
   show c5 p e U m T37 84 L_3 [.int 2, .int xp]
   refine n7 X37 f d av8 ?_
   show c5 p e U m T37 85 L_3 [(.int (xp + (2 : Int32)))]
   let L_8 : Array Slot := #[oR oa,oR oc,oR bf,oR bc,oR os,(oI (xp + (2 : Int32))),oU,oU]
   refine o4 X37 f d av9 (l' := L_8) rfl ?_
   refine f5 X37 f d aw0 rfl ?_
   refine c6 X37 f d aw1 rfl rfl ?_
   refine d3 X37 f d Y e37 O (o8 w) Fbt__13 aw2 (fun T38 X38 e38 => ?_)
   refine m7 X38 f d Y e38 Abt__13 aw3 ?_
   refine j5 (pc := 94) (pc' := 125) X38 f d aw4 (flt (Z5 tp.1 (b := (2 : Int32)) (n := 2) (by decide) tp.2.2 (by decide) : ¬ ((64 : Int32) < (xp + (2 : Int32))))).2.2.2 ?_
   refine f6 X38 f d ap7 (z := (0 : Int32)) rfl ?_
   let L_9 : Array Slot := #[oR oa,oR oc,oR bf,oR bc,oR os,(oI (xp + (2 : Int32))),oI 0,oU]
   refine o4 X38 f d ap8 (l' := L_9) rfl ?_
   refine c6 X38 f d ap9 rfl rfl ?_
   refine d3 X38 f d Y e38 O (m6 w) Fw13 aq0 (fun T40 X40 e40 => ?_)
   refine c6 X40 f d aq1 rfl rfl ?_
   refine d3 X40 f d Y e40 O (i6 w) Fst__13 aq2 (fun T41 X41 e41 => ?_)
   refine n3 X41 f d Y e41 A12__13 ⟨by decide, by decide⟩ rfl aq3 ?_
   let L_10 : Array Slot := #[oR oa,oR oc,oR bf,oR bc,oR os,(oI (xp + (2 : Int32))),oI 0,oI xp]
   refine o4 X41 f d aq4 (l' := L_10) rfl ?_
   refine f5 X41 f d I4 rfl ?_
   refine j0 X41 f d I5 rfl rfl ?_
   obtain ⟨_, T43, Lc43, X43, hQ43, st43⟩ := o1 X41 f d r Y e41 O (F6 w) (C0 w) (B9 w) (C1 w) (o6 w) (C2 w) Es__13 (C5 l Z a0 w [] os ot kt (2 : Int32) [.int c0, .int c1] z0 pc0 kpc pcs fm al kal als h13 n0 sz13 NM__13.2.2.2 XO__13 WW) L_10 I6 [] [.int 0] 1 0 0 (lenOf v7 rfl)
   obtain ⟨rfl, Nq43, e43⟩ := hQ43
   have N43 := Fr.app N37 Nq43
   refine c8 st43 ?_
   show c5 p e U m T43 146 L_10 [.int 2, .int 0]
   refine m4 X43 f d I7 (tlt (by decide : (0 : Int32) < (2 : Int32))).2.1 ?_
   refine c6 X43 f d Z8 rfl rfl ?_
   refine d3 X43 f d Y e43 O (o8 w) Fbt__13 Z9 (fun T44 X44 e44 => ?_)
   refine f5 X44 f d aa0 rfl ?_
   refine f5 X44 f d aa1 rfl ?_
   refine n7 X44 f d aa2 ?_
   show c5 p e U m T44 158 L_10 [(.int (xp + (0 : Int32))), .ref tb]
   refine j0 X44 f d aa3 rfl rfl ?_
   refine f5 X44 f d aa4 rfl ?_
   obtain ⟨_, T45, Lc45, X45, hQ45, st45⟩ := o1 X44 f d r Y e44 O (af6 w) (H6 w) (H5 w) (H7 w) (o6 w) (H8 w) Es__13 (I1 l Z a0 w [] os ot kt (2 : Int32) [.int c0, .int c1] (0 : Int32) c0 z0 pc0 kpc pcs fm al kal als h13 n0 sz13 NM__13.2.2.2 (by decide) (by decide) rfl ok0.1 ok0.2.1 XO__13 WW) L_10 aa5 [.int 0] [(.int (xp + (0 : Int32))), .ref tb] 2 0 0 (lenOf I2 rfl)
   obtain ⟨rfl, Nq45, e45⟩ := hQ45
   have N45 := Fr.app N43 Nq45
   refine c8 st45 ?_
   show c5 p e U m T45 165 L_10 [.int c0, (.int (xp + (0 : Int32))), .ref tb]
   refine H4 X45 f d aa6 ?_
   show c5 p e U m T45 166 L_10 [(.int (c0.toInt8.toInt32)), (.int (xp + (0 : Int32))), .ref tb]
   obtain ⟨cl46, Ar46, qa46, Sa46, Na46, Ha46, Ga46⟩ := id Abt__13
   have hin46 : ¬ ((xp + (0 : Int32)) < 0 ∨ cl46.slots.size ≤ ((xp + (0 : Int32))).toNatClampNeg) := inb_of Sa46 (ap4 pl64 0 (by decide) (by decide))
   obtain ⟨T46, h46, X46, e46, W46, st46⟩ := stB X45 f Y e45 Ar46 (j := (xp + (0 : Int32))) hin46 (g := (mkF m 166 L_10 [(.int (c0.toInt8.toInt32)), (.int (xp + (0 : Int32))), .ref tb])) rfl rfl (hb d aa7)
   have Vw46 := u0 Ar46 qa46 Sa46 Na46 Ha46 Ga46 (fits_nar_byte _) W46 (by show (xp + Int32.ofNat 0).toNatClampNeg = _; rw [ap3 pl64 0 (by decide) (by decide), hxn]; simp [m9])
   rw [Z7 ok0.1 ok0.2.1] at Vw46
   have XO__46 := XO__13.wr W46 g_tb
   have Et__46 := Et__13.wr W46
   have Fst__46 := Fst__13.other W46 (Or.inl ne_otb)
   have Fw10__46 := Fw10__13.other W46 (Or.inl ne_otb)
   have Fw13__46 := Fw13.other W46 (Or.inl ne_otb)
   have Fbt__46 := Fbt__13.other W46 (Or.inl ne_otb)
   have Flt__46 := Flt__13.other W46 (Or.inl ne_otb)
   have Ebt__46 := Ebt__13.wr W46
   have Es__46 := Es__13.wr W46
   have Ebf__46 := Ebf__13.wr W46
   have NM__46 := NM__13.keep (Keep.of_wr W46) (allS (hW0 _ (List.mem_of_getElem? (i := 3) rfl)) all0)
   have Bf__46 := Bf__13.keep (Keep.of_wr W46) (allS (hP _ (List.mem_of_getElem? (i := 3) rfl)) all0)
   have A9__46 := A9__13.other W46 (Ne.symm ne_tb_d9)
   have A12__46 := A12__13.other W46 (Ne.symm ne_tb_d12)
   have N46 := Fr.snoc X46 N45 g_tb
   have KP46 := KP13.wr W46 (Or.inl (List.mem_of_getElem? (i := 3) rfl))
   have sz46 := c9 sz13 (Keep.of_wr W46).1
   refine c8 st46 ?_
   show c5 p e U m T46 167 L_10 []
   let L_11 : Array Slot := #[oR oa,oR oc,oR bf,oR bc,oR os,(oI (xp + (2 : Int32))),oI 1,oI xp]
   refine c8 (fun t k => XS.iinc X46.here f rfl (hb d aa8) rfl (l' := L_11) rfl k) ?_
   show c5 p e U m T46 170 L_11 []
   refine m5 (pc := 170) (pc' := 139) X46 f d aa9 ?_
   refine f5 X46 f d I4 rfl ?_
   refine j0 X46 f d I5 rfl rfl ?_
   obtain ⟨_, T47, Lc47, X47, hQ47, st47⟩ := o1 X46 f d r Y e46 O (F6 w) (C0 w) (B9 w) (C1 w) (o6 w) (C2 w) Es__46 (C5 l Z a0 w [] os ot kt (2 : Int32) [.int c0, .int c1] z0 pc0 kpc pcs fm al kal als h46 n0 sz46 NM__46.2.2.2 XO__46 WW) L_11 I6 [] [.int 1] 1 0 0 (lenOf v7 rfl)
   obtain ⟨rfl, Nq47, e47⟩ := hQ47
   have N47 := Fr.app N46 Nq47
   refine c8 st47 ?_
   show c5 p e U m T47 146 L_11 [.int 2, .int 1]
   refine m4 X47 f d I7 (tlt (by decide : (1 : Int32) < (2 : Int32))).2.1 ?_
   refine c6 X47 f d Z8 rfl rfl ?_
   refine d3 X47 f d Y e47 O (o8 w) Fbt__46 Z9 (fun T48 X48 e48 => ?_)
   refine f5 X48 f d aa0 rfl ?_
   refine f5 X48 f d aa1 rfl ?_
   refine n7 X48 f d aa2 ?_
   show c5 p e U m T48 158 L_11 [(.int (xp + (1 : Int32))), .ref tb]
   refine j0 X48 f d aa3 rfl rfl ?_
   refine f5 X48 f d aa4 rfl ?_
   obtain ⟨_, T49, Lc49, X49, hQ49, st49⟩ := o1 X48 f d r Y e48 O (af6 w) (H6 w) (H5 w) (H7 w) (o6 w) (H8 w) Es__46 (I1 l Z a0 w [] os ot kt (2 : Int32) [.int c0, .int c1] (1 : Int32) c1 z0 pc0 kpc pcs fm al kal als h46 n0 sz46 NM__46.2.2.2 (by decide) (by decide) rfl ok1.1 ok1.2.1 XO__46 WW) L_11 aa5 [.int 1] [(.int (xp + (1 : Int32))), .ref tb] 2 0 0 (lenOf I2 rfl)
   obtain ⟨rfl, Nq49, e49⟩ := hQ49
   have N49 := Fr.app N47 Nq49
   refine c8 st49 ?_
   show c5 p e U m T49 165 L_11 [.int c1, (.int (xp + (1 : Int32))), .ref tb]
   refine H4 X49 f d aa6 ?_
   show c5 p e U m T49 166 L_11 [(.int (c1.toInt8.toInt32)), (.int (xp + (1 : Int32))), .ref tb]
   obtain ⟨cl50, Ar50, qa50, Sa50, Na50, Ha50, Ga50⟩ := id Vw46
   have hin50 : ¬ ((xp + (1 : Int32)) < 0 ∨ cl50.slots.size ≤ ((xp + (1 : Int32))).toNatClampNeg) := inb_of Sa50 (ap4 pl64 1 (by decide) (by decide))
   obtain ⟨T50, h50, X50, e50, W50, st50⟩ := stB X49 f Y e49 Ar50 (j := (xp + (1 : Int32))) hin50 (g := (mkF m 166 L_11 [(.int (c1.toInt8.toInt32)), (.int (xp + (1 : Int32))), .ref tb])) rfl rfl (hb d aa7)
   have Vw50 := u0 Ar50 qa50 Sa50 Na50 Ha50 Ga50 (fits_nar_byte _) W50 (by show (xp + Int32.ofNat 1).toNatClampNeg = _; rw [ap3 pl64 1 (by decide) (by decide), hxn]; simp [m9])
   rw [Z7 ok1.1 ok1.2.1] at Vw50
   have XO__50 := XO__46.wr W50 g_tb
   have Et__50 := Et__46.wr W50
   have Fst__50 := Fst__46.other W50 (Or.inl ne_otb)
   have Fw10__50 := Fw10__46.other W50 (Or.inl ne_otb)
   have Fw13__50 := Fw13__46.other W50 (Or.inl ne_otb)
   have Fbt__50 := Fbt__46.other W50 (Or.inl ne_otb)
   have Flt__50 := Flt__46.other W50 (Or.inl ne_otb)
   have Ebt__50 := Ebt__46.wr W50
   have Es__50 := Es__46.wr W50
   have Ebf__50 := Ebf__46.wr W50
   have NM__50 := NM__46.keep (Keep.of_wr W50) (allS (hW0 _ (List.mem_of_getElem? (i := 3) rfl)) all0)
   have Bf__50 := Bf__46.keep (Keep.of_wr W50) (allS (hP _ (List.mem_of_getElem? (i := 3) rfl)) all0)
   have A9__50 := A9__46.other W50 (Ne.symm ne_tb_d9)
   have A12__50 := A12__46.other W50 (Ne.symm ne_tb_d12)
   have N50 := Fr.snoc X50 N49 g_tb
   have KP50 := KP46.wr W50 (Or.inl (List.mem_of_getElem? (i := 3) rfl))
   have sz50 := c9 sz46 (Keep.of_wr W50).1
   refine c8 st50 ?_
   show c5 p e U m T50 167 L_11 []
   let L_12 : Array Slot := #[oR oa,oR oc,oR bf,oR bc,oR os,(oI (xp + (2 : Int32))),oI 2,oI xp]
   refine c8 (fun t k => XS.iinc X50.here f rfl (hb d aa8) rfl (l' := L_12) rfl k) ?_
   show c5 p e U m T50 170 L_12 []
   refine m5 (pc := 170) (pc' := 139) X50 f d aa9 ?_
   refine f5 X50 f d I4 rfl ?_
   refine j0 X50 f d I5 rfl rfl ?_
   obtain ⟨_, T51, Lc51, X51, hQ51, st51⟩ := o1 X50 f d r Y e50 O (F6 w) (C0 w) (B9 w) (C1 w) (o6 w) (C2 w) Es__50 (C5 l Z a0 w [] os ot kt (2 : Int32) [.int c0, .int c1] z0 pc0 kpc pcs fm al kal als h50 n0 sz50 NM__50.2.2.2 XO__50 WW) L_12 I6 [] [.int 2] 1 0 0 (lenOf v7 rfl)
   obtain ⟨rfl, Nq51, e51⟩ := hQ51
   have N51 := Fr.app N50 Nq51
   refine c8 st51 ?_
   show c5 p e U m T51 146 L_12 [.int 2, .int 2]
   refine j5 (pc := 146) (pc' := 173) X51 f d I7 (flt (by decide : ¬ ((2 : Int32) < (2 : Int32)))).2.1 ?_
   refine c6 X51 f d aq5 rfl rfl ?_
   refine d3 X51 f d Y e51 O (o9 w) Fw10__50 aq6 (fun T52 X52 e52 => ?_)
   refine c6 X52 f d aq7 rfl rfl ?_
   refine d3 X52 f d Y e52 O (i6 w) Fst__50 aq8 (fun T53 X53 e53 => ?_)
   refine c6 X53 f d aq9 rfl rfl ?_
   obtain ⟨_, T54, Lc54, X54, hQ54, st54⟩ := o1 X53 f d r Y e53 O (at4 w) (at6 w) (at5 w) (at7 w) (u9 w) (at8 w) Ebf__50 (aB3 l Z a0 w [] bf _ xn h50 n0 sz50 Bf__50.bi hnn) L_12 ar0 [] [.int 1, .ref d9] 2 0 0 (lenOf aA2 rfl)
   obtain ⟨rfl, Nq54, e54⟩ := hQ54
   have N54 := Fr.app N51 Nq54
   refine c8 st54 ?_
   show c5 p e U m T54 185 L_12 [.long xn, .int 1, .ref d9]
   obtain ⟨cl55, Ar55, qa55, Sa55, Na55, Ha55, Ga55⟩ := id A9__50
   have hin55 : ¬ ((1 : Int32) < 0 ∨ cl55.slots.size ≤ ((1 : Int32)).toNatClampNeg) := inb_of Sa55 ⟨by decide, by decide⟩
   obtain ⟨T55, h55, X55, e55, W55, st55⟩ := stJ X54 f Y e54 Ar55 (j := (1 : Int32)) hin55 (g := (mkF m 185 L_12 [.long xn, .int 1, .ref d9])) rfl rfl (hb d ar1)
   have Vw55 := u0 Ar55 qa55 Sa55 Na55 Ha55 Ga55 rfl W55 rfl
   replace Vw55 : Arv Z h55 d9 kd9 .long (16 : Int32) [.long f0, .long xn] (.long (0 : Int64)) := Vw55
   have Et__55 := Et__50.wr W55
   have Fst__55 := Fst__50.other W55 (Or.inl ne_oa_d9)
   have Fw10__55 := Fw10__50.other W55 (Or.inl ne_oa_d9)
   have Fw13__55 := Fw13__50.other W55 (Or.inl ne_oa_d9)
   have Fbt__55 := Fbt__50.other W55 (Or.inl ne_oa_d9)
   have Flt__55 := Flt__50.other W55 (Or.inl ne_oa_d9)
   have Vw50__55 := Vw50.other W55 ne_tb_d9
   have Ebt__55 := Ebt__50.wr W55
   have A12__55 := A12__50.other W55 (Ne.symm ne_d9_d12)
   have N55 := Fr.snoc X55 N54 g_d9
   have KP55 := KP50.wr W55 (Or.inr sz_d9)
   refine c8 st55 ?_
   show c5 p e U m T55 186 L_12 []
   refine c6 X55 f d ar2 rfl rfl ?_
   refine d3 X55 f d Y e55 O (m6 w) Fw13__55 ar3 (fun T56 X56 e56 => ?_)
   refine c6 X56 f d ar4 rfl rfl ?_
   refine A0 X56 f d ar5 rfl ?_
   refine d3 X56 f d Y e56 O (i6 w) Fst__55 ar6 (fun T57 X57 e57 => ?_)
   refine f6 X57 f d ar7 (z := (1 : Int32)) rfl ?_
   refine n7 X57 f d ar8 ?_
   show c5 p e U m T57 197 L_12 [.int 2, .ref oa, .ref d12]
   refine c8 (fun t k => XS.dupX1 X57.here f rfl (hb d ar9) rfl rfl rfl k) ?_
   obtain ⟨T58, h58, X58, e58, W58, st58⟩ := putF X57 f Y O (host := "") (Or.inl (i6 w)) Via.refl e57 Fst__55 Et__55 (Or.inl (w5 w)) (o0 w) (ty := .int) (by decide) rfl rfl (g := (mkF m 198 L_12 [.int 2, .ref oa, .int 2, .ref d12])) rfl rfl (hb d as0)
   have Fw58 := Fst__55.same W58
   have Et__58 := Et__55.wr W58
   have Fw10__58 := Fw10__55.other W58 (Or.inr (J4 w))
   have Fw13__58 := Fw13__55.other W58 (Or.inr (J5 w))
   have Fbt__58 := Fbt__55.other W58 (Or.inr (J6 w))
   have Flt__58 := Flt__55.other W58 (Or.inr (J7 w))
   have Vw50__58 := Vw50__55.other W58 (Ne.symm ne_otb)
   have Ebt__58 := Ebt__55.wr W58
   have Vw55__58 := Vw55.other W58 (Ne.symm ne_oa_d9)
   have A12__58 := A12__55.other W58 (Ne.symm ne_oa_d12)
   have N58 := Fr.snoc X58 N55 g_oa
   have KP58 := KP55.wr W58 (Or.inl (List.mem_of_getElem? (i := 0) rfl))
   refine c8 st58 ?_
   show c5 p e U m T58 201 L_12 [.int 2, .ref d12]
   refine f5 X58 f d as1 rfl ?_
   show c5 p e U m T58 203 L_12 [(.int (xp + (2 : Int32))), .int 2, .ref d12]
   obtain ⟨cl59, Ar59, qa59, Sa59, Na59, Ha59, Ga59⟩ := id A12__58
   have hin59 : ¬ ((2 : Int32) < 0 ∨ cl59.slots.size ≤ ((2 : Int32)).toNatClampNeg) := inb_of Sa59 ⟨by decide, by decide⟩
   obtain ⟨T59, h59, X59, e59, W59, st59⟩ := stI X58 f Y e58 Ar59 (j := (2 : Int32)) hin59 (g := (mkF m 203 L_12 [(.int (xp + (2 : Int32))), .int 2, .ref d12])) rfl rfl (hb d as2)
   have Vw59 := u0 Ar59 qa59 Sa59 Na59 Ha59 Ga59 rfl W59 rfl
   replace Vw59 : Arv Z h59 d12 kd12 .int 17 [.int 0, .int xp, (.int (xp + (2 : Int32)))] (.int 0) := Vw59
   have Et__59 := Et__58.wr W59
   have Fw58__59 := Fw58.other W59 (Or.inl ne_oa_d12)
   have Fw10__59 := Fw10__58.other W59 (Or.inl ne_oa_d12)
   have Fw13__59 := Fw13__58.other W59 (Or.inl ne_oa_d12)
   have Fbt__59 := Fbt__58.other W59 (Or.inl ne_oa_d12)
   have Flt__59 := Flt__58.other W59 (Or.inl ne_oa_d12)
   have Vw50__59 := Vw50__58.other W59 ne_tb_d12
   have Ebt__59 := Ebt__58.wr W59
   have Vw55__59 := Vw55__58.other W59 ne_d9_d12
   have N59 := Fr.snoc X59 N58 g_d12
   have KP59 := KP58.wr W59 (Or.inr sz_d12)
   refine c8 st59 ?_
   show c5 p e U m T59 204 L_12 []
   refine c6 X59 f d as3 rfl rfl ?_
   refine c6 X59 f d as4 rfl rfl ?_
   obtain ⟨T60, h60, X60, e60, W60, st60⟩ := putF X59 f Y O (host := "") (Or.inl (B3 w)) Via.refl e59 Flt__59 Et__59 (Or.inl (w6 w)) (o0 w) (ty := (.object "java/math/BigInteger")) (by decide) rfl rfl (g := (mkF m 206 L_12 [.ref bc, .ref oa])) rfl rfl (hb d as5)
   have Fw60 := Flt__59.same W60
   have Et__60 := Et__59.wr W60
   have Fw58__60 := Fw58__59.other W60 (Or.inr (J8 w))
   have Fw10__60 := Fw10__59.other W60 (Or.inr (J9 w))
   have Fw13__60 := Fw13__59.other W60 (Or.inr (K0 w))
   have Fbt__60 := Fbt__59.other W60 (Or.inr (L0 w))
   have Vw50__60 := Vw50__59.other W60 (Ne.symm ne_otb)
   have Ebt__60 := Ebt__59.wr W60
   have Vw55__60 := Vw55__59.other W60 (Ne.symm ne_oa_d9)
   have Vw59__60 := Vw59.other W60 (Ne.symm ne_oa_d12)
   have N60 := Fr.snoc X60 N59 g_oa
   have KP60 := KP59.wr W60 (Or.inl (List.mem_of_getElem? (i := 0) rfl))
   refine c8 st60 ?_
   show c5 p e U m T60 209 L_12 []
   exact q0 X60 f R (hb d as6) (by rw [e60]; exact ⟨rfl, N60, KP60, [oa, d9, d12, tb], allS (Or.inl (List.mem_of_getElem? (i := 0) rfl)) (allS (Or.inr sz_d9) (allS (Or.inr sz_d12) (allS (Or.inl (List.mem_of_getElem? (i := 3) rfl)) all0))), _, _, _, _, _, _, rfl, ⟨Et__60, Fw58__60, Fw10__60, Fw13__60, Fbt__60, Fw60⟩, Vw55__60, (by have q := Vw59__60; rw [hxp] at q; exact q), (by have q := Vw50__60; simpa [m9] using q), Ebt__60⟩) (by decide) (by decide)
theorem bX9:c4 method_3_code 0 (.aload_n 0) 1:=by decide +kernel
theorem bY0:c4 method_3_code 1 (.aload_n 1) 1:=by decide +kernel
theorem bY1:c4 method_3_code 2 (.lload_n 2) 1:=by decide +kernel
theorem bY2:c4 method_3_code 3 (.invokestatic 18) 3:=by decide +kernel
theorem bY3:c4 method_3_code 6 (.lload 4) 2:=by decide +kernel
theorem bY4:c4 method_3_code 8 (.invokestatic 18) 3:=by decide +kernel
theorem bD1:c4 method_3_code 11 (.invokevirtual 24) 3:=by decide +kernel
theorem bD2:c4 method_3_code 14 .return_ 1:=by decide +kernel
def cg2 (Z : State) (oa : Addr) (W : List Addr) (cs_ : List Int32) (xf xc : Int64) (h0 : Heap) (n0 : Nat) (v : Option Value) (h : Heap) (L : List Loc) : Prop := v = none ∧ Fr n0 L ∧ Keep h0 h W ∧ ∃ (W' : List Addr) (lc' : Addr), (∀ y ∈ W', y ∈ W ∨ h0.size ≤ y) ∧ own_L Z h oa [cs_] [xf] W' (.ref lc') 1 2 64 ∧ own_BP Z h lc' xc (aj4 n0 h0.size h.size)
theorem G5 (l : Launch) (Z : State) (a0 : Array Value) (w : j9 Z a0) (ws : List Jvm.Cond) (oa oc os ot : Addr) (kt : ClassId) (cs_ : List Int32) (xf xc : Int64) (W : List Addr) (lc : Value) (xw : Nat) (z0 pc0 : Addr) (kpc : ClassId) (pcs : List Value) (fm : Value) (al : Addr) (kal : ClassId) (als : List Value) (h0 : Heap) (n0 : Nat) (Z0 : n0 ≤ h0.size) (Lq : own_L Z h0 oa [] [] W lc 0 1 0) (NM : own_NM Z h0 oc os ot kt cs_ xw) (nm_ : own_nm als cs_) (gW : ∀ y ∈ W, n0 ≤ y) (hW0 : ∀ y ∈ W, xw ≤ y) (hxw : xw ≤ h0.size) (hnf : ¬ xf < 0) (hnc : ¬ xc < 0) (r_lc : lc.isRef = true)  (XO : Old Z n0 h0) (WW : r5 Z z0 pc0 kpc pcs fm al kal als) :
 l0 l Z h0 cb1 method_3_code 6 none ws (Jvm.Room.mk 5 7 97 96) #[.ref oa, .ref oc, .long xf, .long xc] (cg2 Z oa  W cs_ xf xc h0 n0) := by
 refine l7 (Ls := #[.val (.ref oa), .val (.ref oc), .val (.long xf), .second, .val (.long xc), .second]) (plainFor_of_name ao0) (fun p e s m U meth c s₁ Y hh f d r O hnm hlk R X0 e0 => ?_)
 replace O : s.vm.findClass "com/example/prizewell/prizewell/core/TicketRangesAddAllPinLaw" = some m.cls := O
 have N0 := Fr.nil n0
 obtain ⟨SAl, AAl, r_fm, ⟨cs, hcs, SC⟩, SFM, SZ, BZ, SPc, APc, HPc, HAL, uo, u8, i8, CS⟩ := id WW
 have Eo := (by obtain ⟨_, _, _, _, _, _, _, q, _⟩ := Lq; exact q.1 : Exa Z h0 oa "com/example/prizewell/prizewell/core/TicketRanges")
 let L_1 : Array Slot := #[oR oa,oR oc,oJ xf,.second,oJ xc,.second]
 show c5 p e U m s₁ 0 L_1 []
 refine c6 X0 f d bX9 rfl rfl ?_
 refine c6 X0 f d bY0 rfl rfl ?_
 refine t8 X0 f d bY1 rfl ?_
 obtain ⟨_, T1, Lc1, X1, hQ1, st1⟩ := j8 X0 f d r Y e0 O (ae9 w) (S8 w) (u9 w) (S9 w) (Y6 l Z a0 w [] xf z0 pc0 kpc pcs fm al kal als h0 n0 Z0 hnf XO WW) L_1 bY2 [.long xf] [.ref oc, .ref oa] 2 2 8 (lenOf Q3 rfl)
 obtain ⟨d1, rfl, Nq1, K1, Bp1⟩ := hQ1
 have N1 := Fr.app N0 Nq1
 refine c8 st1 ?_
 have XO__1 := XO.keep K1 all0
 have Lq__1 := Lq.keep K1 all0
 have NM__1 := NM.keep K1 all0
 have Eo__1 := Eo.keep K1
 have KP1 := (Keep.refl h0 W).trans K1 all0
 have sz1 := c9 Z0 K1.1
 show c5 p e U m T1 6 L_1 [.ref d1, .ref oc, .ref oa]
 refine o3 X1 f d bY3 rfl ?_
 obtain ⟨_, T2, Lc2, X2, hQ2, st2⟩ := j8 X1 f d r Y rfl O (ae9 w) (S8 w) (u9 w) (S9 w) (Y6 l Z a0 w [] xc z0 pc0 kpc pcs fm al kal als T1.heap n0 sz1 hnc XO__1 WW) L_1 bY4 [.long xc] [.ref d1, .ref oc, .ref oa] 3 2 8 (lenOf Q3 rfl)
 obtain ⟨d2, rfl, Nq2, K2, Bp2⟩ := hQ2
 have N2 := Fr.app N1 Nq2
 refine c8 st2 ?_
 have XO__2 := XO__1.keep K2 all0
 have Lq__2 := Lq__1.keep K2 all0
 have NM__2 := NM__1.keep K2 all0
 have Eo__2 := Eo__1.keep K2
 have Bp1__2 := Bp1.keep K2 all0
 have KP2 := KP1.trans K2 all0
 have sz2 := c9 sz1 K2.1
 obtain ⟨_, T3, Lc3, X3, hQ3, st3⟩ := o1 X2 f d r Y rfl O (bf2 w) (bf4 w) (bf3 w) (bf5 w) (v9 w) (bf6 w) Eo__2 (de0 l Z a0 w []  oa oc os ot d1 d2 kt cs_ xf W lc _ xw z0 pc0 kpc pcs fm al kal als T2.heap n0 sz2 Lq__2 NM__2 nm_ Bp1__2 gW (fun y hy => G2 (gW y hy) (Lq.lt y hy)) (fun y hy => hy.elim (fun q => j3 q sz2) (fun q => j3 q.2 K2.1)) hW0 (c9 hxw KP2.1) hnf r_lc  XO__2 WW) L_1 bD1 [.ref oc, .ref d1, .ref d2] [] 0 3 81 (lenOf aT9 rfl)
 obtain ⟨rfl, Nq3, K3, W3, gn3, Lr3⟩ := hQ3
 have N3 := Fr.app N2 Nq3
 refine c8 st3 ?_
 have Bp2__3 := Bp2.keep K3 (fun y hy => G2 (gW y hy) (Lq__1.lt y hy))
 have KP3 := KP2.trans K3 (fun x f => Or.inl f)
 show c5 p e U m T3 14 L_1 []
 exact q0 X3 f R (hb d bD2) (⟨rfl, N3, KP3, W3, d2, (fun y hy => (gn3 y hy).elim Or.inl (fun q => Or.inr (c9 KP2.1 q))), Lr3, Bp2__3.imp (fun y hy => hy.elim Or.inl (fun q => Or.inr ⟨c9 KP1.1 q.1, j3 q.2 K3.1⟩))⟩) (by decide) (by decide)
def cg3 (Z : State) (oa : Addr) (x0 : List Int32) (f0 : Int64) (W : List Addr) (cs_ : List Int32) (xf xc : Int64) (h0 : Heap) (n0 : Nat) (v : Option Value) (h : Heap) (L : List Loc) : Prop := v = none ∧ Fr n0 L ∧ Keep h0 h W ∧ ∃ (W' : List Addr) (lc' : Addr), (∀ y ∈ W', y ∈ W ∨ h0.size ≤ y) ∧ own_L Z h oa [x0, cs_] [f0, xf] W' (.ref lc') 16 17 64 ∧ own_BP Z h lc' xc (aj4 n0 h0.size h.size)
theorem ak5 (l : Launch) (Z : State) (a0 : Array Value) (w : j9 Z a0) (ws : List Jvm.Cond) (x0 : List Int32) (f0 : Int64) (oa oc os ot : Addr) (kt : ClassId) (cs_ : List Int32) (xf xc : Int64) (W : List Addr) (lc : Value) (xw : Nat) (z0 pc0 : Addr) (kpc : ClassId) (pcs : List Value) (fm : Value) (al : Addr) (kal : ClassId) (als : List Value) (h0 : Heap) (n0 : Nat) (Z0 : n0 ≤ h0.size) (Lq : own_L Z h0 oa [x0] [f0] W lc 1 2 64) (NM : own_NM Z h0 oc os ot kt cs_ xw) (nm_ : own_nm als cs_) (gW : ∀ y ∈ W, n0 ≤ y) (hW0 : ∀ y ∈ W, xw ≤ y) (hxw : xw ≤ h0.size) (hnf : ¬ xf < 0) (hnc : ¬ xc < 0) (r_lc : lc.isRef = true) (hx0 : 1 ≤ x0.length ∧ x0.length ≤ 2) (XO : Old Z n0 h0) (WW : r5 Z z0 pc0 kpc pcs fm al kal als) :
 l0 l Z h0 cb1 method_3_code 6 none ws (Jvm.Room.mk 5 7 56 96) #[.ref oa, .ref oc, .long xf, .long xc] (cg3 Z oa x0 f0 W cs_ xf xc h0 n0) := by
 refine l7 (Ls := #[.val (.ref oa), .val (.ref oc), .val (.long xf), .second, .val (.long xc), .second]) (plainFor_of_name ao0) (fun p e s m U meth c s₁ Y hh f d r O hnm hlk R X0 e0 => ?_)
 replace O : s.vm.findClass "com/example/prizewell/prizewell/core/TicketRangesAddAllPinLaw" = some m.cls := O
 have N0 := Fr.nil n0
 obtain ⟨SAl, AAl, r_fm, ⟨cs, hcs, SC⟩, SFM, SZ, BZ, SPc, APc, HPc, HAL, uo, u8, i8, CS⟩ := id WW
 have Eo := (by obtain ⟨_, _, _, _, _, _, _, q, _⟩ := Lq; exact q.1 : Exa Z h0 oa "com/example/prizewell/prizewell/core/TicketRanges")
 let L_1 : Array Slot := #[oR oa,oR oc,oJ xf,.second,oJ xc,.second]
 show c5 p e U m s₁ 0 L_1 []
 refine c6 X0 f d bX9 rfl rfl ?_
 refine c6 X0 f d bY0 rfl rfl ?_
 refine t8 X0 f d bY1 rfl ?_
 obtain ⟨_, T1, Lc1, X1, hQ1, st1⟩ := j8 X0 f d r Y e0 O (ae9 w) (S8 w) (u9 w) (S9 w) (Y6 l Z a0 w [] xf z0 pc0 kpc pcs fm al kal als h0 n0 Z0 hnf XO WW) L_1 bY2 [.long xf] [.ref oc, .ref oa] 2 2 8 (lenOf Q3 rfl)
 obtain ⟨d1, rfl, Nq1, K1, Bp1⟩ := hQ1
 have N1 := Fr.app N0 Nq1
 refine c8 st1 ?_
 have XO__1 := XO.keep K1 all0
 have Lq__1 := Lq.keep K1 all0
 have NM__1 := NM.keep K1 all0
 have Eo__1 := Eo.keep K1
 have KP1 := (Keep.refl h0 W).trans K1 all0
 have sz1 := c9 Z0 K1.1
 show c5 p e U m T1 6 L_1 [.ref d1, .ref oc, .ref oa]
 refine o3 X1 f d bY3 rfl ?_
 obtain ⟨_, T2, Lc2, X2, hQ2, st2⟩ := j8 X1 f d r Y rfl O (ae9 w) (S8 w) (u9 w) (S9 w) (Y6 l Z a0 w [] xc z0 pc0 kpc pcs fm al kal als T1.heap n0 sz1 hnc XO__1 WW) L_1 bY4 [.long xc] [.ref d1, .ref oc, .ref oa] 3 2 8 (lenOf Q3 rfl)
 obtain ⟨d2, rfl, Nq2, K2, Bp2⟩ := hQ2
 have N2 := Fr.app N1 Nq2
 refine c8 st2 ?_
 have XO__2 := XO__1.keep K2 all0
 have Lq__2 := Lq__1.keep K2 all0
 have NM__2 := NM__1.keep K2 all0
 have Eo__2 := Eo__1.keep K2
 have Bp1__2 := Bp1.keep K2 all0
 have KP2 := KP1.trans K2 all0
 have sz2 := c9 sz1 K2.1
 obtain ⟨_, T3, Lc3, X3, hQ3, st3⟩ := o1 X2 f d r Y rfl O (bf2 w) (bf4 w) (bf3 w) (bf5 w) (v9 w) (bf6 w) Eo__2 (de1 l Z a0 w [] x0 f0 oa oc os ot d1 d2 kt cs_ xf W lc _ xw z0 pc0 kpc pcs fm al kal als T2.heap n0 sz2 Lq__2 NM__2 nm_ Bp1__2 gW (fun y hy => G2 (gW y hy) (Lq.lt y hy)) (fun y hy => hy.elim (fun q => j3 q sz2) (fun q => j3 q.2 K2.1)) hW0 (c9 hxw KP2.1) hnf r_lc hx0 XO__2 WW) L_1 bD1 [.ref oc, .ref d1, .ref d2] [] 0 3 40 (lenOf aT9 rfl)
 obtain ⟨rfl, Nq3, K3, W3, gn3, Lr3⟩ := hQ3
 have N3 := Fr.app N2 Nq3
 refine c8 st3 ?_
 have Bp2__3 := Bp2.keep K3 (fun y hy => G2 (gW y hy) (Lq__1.lt y hy))
 have KP3 := KP2.trans K3 (fun x f => Or.inl f)
 show c5 p e U m T3 14 L_1 []
 exact q0 X3 f R (hb d bD2) (⟨rfl, N3, KP3, W3, d2, (fun y hy => (gn3 y hy).elim Or.inl (fun q => Or.inr (c9 KP2.1 q))), Lr3, Bp2__3.imp (fun y hy => hy.elim Or.inl (fun q => Or.inr ⟨c9 KP1.1 q.1, j3 q.2 K3.1⟩))⟩) (by decide) (by decide)
theorem x2 (cs : List Int32) : (m9 cs).length = cs.length := List.length_map ..
theorem V0:c4 f8 0 (.aload_n 1) 1:=by decide +kernel
theorem V8:c4 f8 1 (.getfield 27) 3:=by decide +kernel
theorem W0:c4 f8 4 (.ifCond .ne 4) 3:=by decide +kernel
theorem de2:c4 f8 7 .return_ 1:=by decide +kernel
theorem aU2 (l : Launch) (Z : State) (a0 : Array Value) (w : j9 Z a0) (ws : List Jvm.Cond) (oa ob : Addr) (Wb : List Addr) (lcb : Value) (h0 : Heap) (n0 : Nat) (Z0 : n0 ≤ h0.size) (Lb : own_L Z h0 ob [] [] Wb lcb 0 1 0) :
 l0 l Z h0 Y3 f8 5 none ws (Jvm.Room.mk 0 0 0 0) #[.ref oa, .ref ob] (U1 h0 n0) := by
 refine l7 (Ls := #[.val (.ref oa), .val (.ref ob), .unset, .unset, .unset]) (plainFor_of_name E0) (fun p e s m U meth c s₁ Y hh f d r O hnm hlk R X0 e0 => ?_)
 replace O : s.vm.findClass "com/example/prizewell/prizewell/core/TicketRanges" = some m.cls := O
 have N0 := Fr.nil n0
 obtain ⟨_, _, _, _, _, _, _, ⟨Eb, Fs, _⟩, _⟩ := id Lb
 let L_1 : Array Slot := #[oR oa,oR ob,oU,oU,oU]
 show c5 p e U m s₁ 0 L_1 []
 refine c6 X0 f d V0 rfl rfl ?_
 refine d3 X0 f d Y e0 O (i6 w) Fs V8 (fun T1 X1 e1 => ?_)
 refine m8 X1 f d W0 ((if0 _ _).trans (teq (by decide : (0 : Int32) = (0 : Int32))).2) ?_
 show c5 p e U m T1 7 L_1 []
 exact q0 X1 f R (hb d de2) (by rw [e1]; exact ⟨rfl, N0, rfl⟩) (by decide) (by decide)
theorem ak6:c4 f8 8 (.aload_n 0) 1:=by decide +kernel
theorem ak7:c4 f8 9 (.getfield 27) 3:=by decide +kernel
theorem ag5:c4 f8 12 (.aload_n 1) 1:=by decide +kernel
theorem ag6:c4 f8 13 (.getfield 27) 3:=by decide +kernel
theorem ag7:c4 f8 16 .iadd 1:=by decide +kernel
theorem ag8:c4 f8 17 (.istore_n 2) 1:=by decide +kernel
theorem ag9:c4 f8 18 (.iload_n 2) 1:=by decide +kernel
theorem ah0:c4 f8 19 (.aload_n 0) 1:=by decide +kernel
theorem ah1:c4 f8 20 (.getfield 9) 3:=by decide +kernel
theorem ah2:c4 f8 23 .arraylength 1:=by decide +kernel
theorem ah3:c4 f8 24 (.if_icmp .le 45) 3:=by decide +kernel
theorem aw5:c4 f8 27 (.iload_n 2) 1:=by decide +kernel
theorem aw6:c4 f8 28 (.bipush 16) 2:=by decide +kernel
theorem aw7:c4 f8 30 (.aload_n 0) 1:=by decide +kernel
theorem aw8:c4 f8 31 (.getfield 27) 3:=by decide +kernel
theorem aw9:c4 f8 34 (.iconst 2) 1:=by decide +kernel
theorem ax0:c4 f8 35 .imul 1:=by decide +kernel
theorem ax1:c4 f8 36 (.invokestatic 31) 3:=by decide +kernel
theorem ax2:c4 f8 39 (.invokestatic 31) 3:=by decide +kernel
theorem ax3:c4 f8 42 (.istore_n 3) 1:=by decide +kernel
theorem ax4:c4 f8 43 (.aload_n 0) 1:=by decide +kernel
theorem ax5:c4 f8 44 (.aload_n 0) 1:=by decide +kernel
theorem ax6:c4 f8 45 (.getfield 9) 3:=by decide +kernel
theorem ax7:c4 f8 48 (.iload_n 3) 1:=by decide +kernel
theorem ax8:c4 f8 49 (.invokestatic 37) 3:=by decide +kernel
theorem ax9:c4 f8 52 (.putfield 9) 3:=by decide +kernel
theorem ay0:c4 f8 55 (.aload_n 0) 1:=by decide +kernel
theorem ay1:c4 f8 56 (.aload_n 0) 1:=by decide +kernel
theorem ay2:c4 f8 57 (.getfield 15) 3:=by decide +kernel
theorem ay3:c4 f8 60 (.iload_n 3) 1:=by decide +kernel
theorem ay4:c4 f8 61 (.iconst 1) 1:=by decide +kernel
theorem ay5:c4 f8 62 .iadd 1:=by decide +kernel
theorem ay6:c4 f8 63 (.invokestatic 43) 3:=by decide +kernel
theorem ay7:c4 f8 66 (.putfield 15) 3:=by decide +kernel
theorem ah4:c4 f8 69 (.aload_n 0) 1:=by decide +kernel
theorem ah5:c4 f8 70 (.getfield 15) 3:=by decide +kernel
theorem ah6:c4 f8 73 (.aload_n 0) 1:=by decide +kernel
theorem ah7:c4 f8 74 (.getfield 27) 3:=by decide +kernel
theorem ah8:c4 f8 77 .iaload 1:=by decide +kernel
theorem ah9:c4 f8 78 (.aload_n 1) 1:=by decide +kernel
theorem ai0:c4 f8 79 (.getfield 15) 3:=by decide +kernel
theorem ai1:c4 f8 82 (.aload_n 1) 1:=by decide +kernel
theorem ai2:c4 f8 83 (.getfield 27) 3:=by decide +kernel
theorem ai3:c4 f8 86 .iaload 1:=by decide +kernel
theorem ai4:c4 f8 87 .iadd 1:=by decide +kernel
theorem ai5:c4 f8 88 (.istore_n 3) 1:=by decide +kernel
theorem ai6:c4 f8 89 (.iload_n 3) 1:=by decide +kernel
theorem ai7:c4 f8 90 (.aload_n 0) 1:=by decide +kernel
theorem ai8:c4 f8 91 (.getfield 19) 3:=by decide +kernel
theorem ai9:c4 f8 94 .arraylength 1:=by decide +kernel
theorem aj0:c4 f8 95 (.if_icmp .le 25) 3:=by decide +kernel
theorem bD3:c4 f8 98 (.aload_n 0) 1:=by decide +kernel
theorem bD4:c4 f8 99 (.aload_n 0) 1:=by decide +kernel
theorem bd5:c4 f8 100 (.getfield 19) 3:=by decide +kernel
theorem bd6:c4 f8 103 (.iload_n 3) 1:=by decide +kernel
theorem bd7:c4 f8 104 (.aload_n 0) 1:=by decide +kernel
theorem bd8:c4 f8 105 (.getfield 19) 3:=by decide +kernel
theorem bd9:c4 f8 108 .arraylength 1:=by decide +kernel
theorem be0:c4 f8 109 (.iconst 2) 1:=by decide +kernel
theorem be1:c4 f8 110 .imul 1:=by decide +kernel
theorem be2:c4 f8 111 (.invokestatic 31) 3:=by decide +kernel
theorem be3:c4 f8 114 (.invokestatic 52) 3:=by decide +kernel
theorem be4:c4 f8 117 (.putfield 19) 3:=by decide +kernel
theorem ab0:c4 f8 120 (.aload_n 1) 1:=by decide +kernel
theorem ab1:c4 f8 121 (.getfield 9) 3:=by decide +kernel
theorem ab2:c4 f8 124 (.iconst 0) 1:=by decide +kernel
theorem ab3:c4 f8 125 (.aload_n 0) 1:=by decide +kernel
theorem ab4:c4 f8 126 (.getfield 9) 3:=by decide +kernel
theorem ab5:c4 f8 129 (.aload_n 0) 1:=by decide +kernel
theorem ab6:c4 f8 130 (.getfield 27) 3:=by decide +kernel
theorem ab7:c4 f8 133 (.aload_n 1) 1:=by decide +kernel
theorem ab8:c4 f8 134 (.getfield 27) 3:=by decide +kernel
theorem ab9:c4 f8 137 (.invokestatic 69) 3:=by decide +kernel
theorem ac0:c4 f8 140 (.aload_n 1) 1:=by decide +kernel
theorem ac1:c4 f8 141 (.getfield 19) 3:=by decide +kernel
theorem ac2:c4 f8 144 (.iconst 0) 1:=by decide +kernel
theorem ac3:c4 f8 145 (.aload_n 0) 1:=by decide +kernel
theorem ac4:c4 f8 146 (.getfield 19) 3:=by decide +kernel
theorem ac5:c4 f8 149 (.aload_n 0) 1:=by decide +kernel
theorem ac6:c4 f8 150 (.getfield 15) 3:=by decide +kernel
theorem ac7:c4 f8 153 (.aload_n 0) 1:=by decide +kernel
theorem ac8:c4 f8 154 (.getfield 27) 3:=by decide +kernel
theorem ac9:c4 f8 157 .iaload 1:=by decide +kernel
theorem ad0:c4 f8 158 (.aload_n 1) 1:=by decide +kernel
theorem ad1:c4 f8 159 (.getfield 15) 3:=by decide +kernel
theorem ad2:c4 f8 162 (.aload_n 1) 1:=by decide +kernel
theorem ad3:c4 f8 163 (.getfield 27) 3:=by decide +kernel
theorem ad4:c4 f8 166 .iaload 1:=by decide +kernel
theorem ad5:c4 f8 167 (.invokestatic 69) 3:=by decide +kernel
theorem ad6:c4 f8 170 (.iconst 1) 1:=by decide +kernel
theorem ad7:c4 f8 171 (.istore 4) 2:=by decide +kernel
theorem C6:c4 f8 173 (.iload 4) 2:=by decide +kernel
theorem C7:c4 f8 175 (.aload_n 1) 1:=by decide +kernel
theorem C8:c4 f8 176 (.getfield 27) 3:=by decide +kernel
theorem C9:c4 f8 179 (.if_icmp .gt 38) 3:=by decide +kernel
theorem M4:c4 f8 182 (.aload_n 0) 1:=by decide +kernel
theorem M5:c4 f8 183 (.getfield 15) 3:=by decide +kernel
theorem M6:c4 f8 186 (.aload_n 0) 1:=by decide +kernel
theorem M7:c4 f8 187 (.getfield 27) 3:=by decide +kernel
theorem M8:c4 f8 190 (.iload 4) 2:=by decide +kernel
theorem M9:c4 f8 192 .iadd 1:=by decide +kernel
theorem O0:c4 f8 193 (.aload_n 0) 1:=by decide +kernel
theorem O1:c4 f8 194 (.getfield 15) 3:=by decide +kernel
theorem O2:c4 f8 197 (.aload_n 0) 1:=by decide +kernel
theorem O3:c4 f8 198 (.getfield 27) 3:=by decide +kernel
theorem O4:c4 f8 201 .iaload 1:=by decide +kernel
theorem O5:c4 f8 202 (.aload_n 1) 1:=by decide +kernel
theorem O6:c4 f8 203 (.getfield 15) 3:=by decide +kernel
theorem O7:c4 f8 206 (.iload 4) 2:=by decide +kernel
theorem O8:c4 f8 208 .iaload 1:=by decide +kernel
theorem O9:c4 f8 209 .iadd 1:=by decide +kernel
theorem P0:c4 f8 210 .iastore 1:=by decide +kernel
theorem P1:c4 f8 211 (.iinc 4 1) 3:=by decide +kernel
theorem P2:c4 f8 214 (.goto (-41)) 3:=by decide +kernel
theorem ad8:c4 f8 217 (.aload_n 0) 1:=by decide +kernel
theorem ad9:c4 f8 218 (.iload_n 2) 1:=by decide +kernel
theorem ae0:c4 f8 219 (.putfield 27) 3:=by decide +kernel
theorem ae1:c4 f8 222 (.aload_n 0) 1:=by decide +kernel
theorem ae2:c4 f8 223 (.aload_n 1) 1:=by decide +kernel
theorem ae3:c4 f8 224 (.getfield 65) 3:=by decide +kernel
theorem ae4:c4 f8 227 (.putfield 65) 3:=by decide +kernel
theorem ae5:c4 f8 230 .return_ 1:=by decide +kernel
def cd9 (Z : State) (oa : Addr) (y0 : List Int32) (g0 : Int64) (Wa : List Addr) (lcb : Addr) (h0 : Heap) (n0 : Nat) (v : Option Value) (h : Heap) (L : List Loc) : Prop := v = none ∧ Fr n0 L ∧ Keep h0 h Wa ∧ ∃ (W' : List Addr) (cb : Int32), own_L Z h oa [y0] [g0] W' (.ref lcb) 16 17 cb ∧ [y0].flatten.length ≤ cb.toNatClampNeg
theorem cG8 (l : Launch) (Z : State) (a0 : Array Value) (w : j9 Z a0) (ws : List Jvm.Cond) (y0 : List Int32) (g0 : Int64) (oa ob : Addr) (Wa Wb : List Addr) (lca : Value) (lcb : Addr) (h0 : Heap) (n0 : Nat) (Z0 : n0 ≤ h0.size) (La : own_L Z h0 oa [] [] Wa lca 0 1 0) (Lb : own_L Z h0 ob [y0] [g0] Wb (.ref lcb) 1 2 64) (gW : ∀ y ∈ Wa, n0 ≤ y) (dj : ∀ y ∈ Wb, y ∉ Wa) (r_lca : lca.isRef = true)  (hy0 : 1 ≤ y0.length ∧ y0.length ≤ 2) :
 l0 l Z h0 Y3 f8 5 none ws (Jvm.Room.mk 2 3 41 56) #[.ref oa, .ref ob] (cd9 Z oa  y0 g0 Wa lcb h0 n0) := by
 refine l7 (Ls := #[.val (.ref oa), .val (.ref ob), .unset, .unset, .unset]) (plainFor_of_name E0) (fun p e s m U meth c s₁ Y hh f d r O hnm hlk R X0 e0 => ?_)
 replace O : s.vm.findClass "com/example/prizewell/prizewell/core/TicketRanges" = some m.cls := O
 have N0 := Fr.nil n0
 obtain ⟨tf, tn, tb, ktf, ktn, ktb, rfl, ⟨Et, Fst, Fft, Fnt, Fbt, Flt⟩, Aft, Agt, Abt, Ebt⟩ := id La
 obtain ⟨uf, un, ub, kuf, kun, kub, rfl, ⟨Eu, Fsu, Ffu, Fnu, Fbu, Flu⟩, Afu, Agu, Abu, Ebu⟩ := id Lb
 replace Fsu : Fld Z h0 ob "com/example/prizewell/prizewell/core/TicketRanges" "size" "I" (.int 1) := Fsu
 obtain ⟨q1, hq1⟩ : ∃ z, z = 0 + p6 y0 := ⟨_, rfl⟩
 replace Agu : Arv Z h0 un kun .int 2 [.int 0, .int q1] (.int 0) := by rw [hq1]; exact Agu
 have tq := G9 (css := [y0]) hq1 (Y9 hy0) (j6 rfl)
 have hyn : q1.toNatClampNeg = (m9 [y0].flatten).length := by rw [x2]; exact H2 tq.1
 have hy4 : (m9 [y0].flatten).length ≤ 4 := by rw [x2]; exact tq.2.2
 have g_oa := gW _ (List.mem_of_getElem? (i := 0) rfl)
 have ne_otn := Exa.neArv Et Agt (o0 w)
 have ne_otb := Exa.neArv Et Abt (o0 w)
 let L_1 : Array Slot := #[oR oa,oR ob,oU,oU,oU]
 show c5 p e U m s₁ 0 L_1 []
 refine c6 X0 f d V0 rfl rfl ?_
 refine d3 X0 f d Y e0 O (i6 w) Fsu V8 (fun T1 X1 e1 => ?_)
 refine o2 (pc := 4) (pc' := 8) X1 f d W0 ((if0 _ _).trans (feq (by decide : ¬ ((1 : Int32) = (0 : Int32)))).2) ?_
 refine c6 X1 f d ak6 rfl rfl ?_
 refine d3 X1 f d Y e1 O (i6 w) Fst ak7 (fun T2 X2 e2 => ?_)
 refine c6 X2 f d ag5 rfl rfl ?_
 refine d3 X2 f d Y e2 O (i6 w) Fsu ag6 (fun T3 X3 e3 => ?_)
 refine n7 X3 f d ag7 ?_
 show c5 p e U m T3 17 L_1 [.int 1]
 let L_2 : Array Slot := #[oR oa,oR ob,oI 1,oU,oU]
 refine p8 X3 f d ag8 (l' := L_2) rfl ?_
 refine f4 X3 f d ag9 rfl ?_
 refine c6 X3 f d ah0 rfl rfl ?_
 refine d3 X3 f d Y e3 O (o9 w) Fft ah1 (fun T4 X4 e4 => ?_)
 refine m7 X4 f d Y e4 Aft ah2 ?_
 refine m4 X4 f d ah3 (tlt (by decide : (0 : Int32) < (1 : Int32))).2.2.2 ?_
 refine f4 X4 f d aw5 rfl ?_
 refine t9 X4 f d aw6 (z := (16 : Int32)) rfl ?_
 refine c6 X4 f d aw7 rfl rfl ?_
 refine d3 X4 f d Y e4 O (i6 w) Fst aw8 (fun T6 X6 e6 => ?_)
 refine f6 X6 f d aw9 (z := (2 : Int32)) rfl ?_
 refine P3 X6 f d ax0 ?_
 obtain ⟨_, T7, Lc7, X7, hQ7, st7⟩ := j8 X6 f d r Y e6 O (D1 w) (D6 w) (s6 w) (D9 w) (Q2 l Z a0 w [] (16 : Int32) (0 : Int32) h0 n0 Z0 (by decide)) L_2 ax1 [.int 16, .int 0] [.int 1] 1 0 0 (lenOf s9 rfl)
 obtain ⟨rfl, Nq7, e7⟩ := hQ7
 have N7 := Fr.app N0 Nq7
 refine c8 st7 ?_
 obtain ⟨_, T8, Lc8, X8, hQ8, st8⟩ := j8 X7 f d r Y e7 O (D1 w) (D6 w) (s6 w) (D9 w) (ak0 l Z a0 w [] (1 : Int32) (16 : Int32) h0 n0 Z0 (by decide)) L_2 ax2 [.int 1, .int 16] [] 0 0 0 (lenOf s9 rfl)
 obtain ⟨rfl, Nq8, e8⟩ := hQ8
 have N8 := Fr.app N7 Nq8
 refine c8 st8 ?_
 show c5 p e U m T8 42 L_2 [.int 16]
 let L_3 : Array Slot := #[oR oa,oR ob,oI 1,oI 16,oU]
 refine p8 X8 f d ax3 (l' := L_3) rfl ?_
 refine c6 X8 f d ax4 rfl rfl ?_
 refine c6 X8 f d ax5 rfl rfl ?_
 refine d3 X8 f d Y e8 O (o9 w) Fft ax6 (fun T9 X9 e9 => ?_)
 refine f4 X9 f d ax7 rfl ?_
 obtain ⟨_, T10, Lc10, X10, hQ10, st10⟩ := j8 X9 f d r Y e9 O (af0 w) (af1 w) (t6 w) (af2 w) (aX5 l Z a0 w [] tf ktf  h0 n0 Z0 Aft) L_3 ax8 [.ref tf, .int 16] [.ref oa] 1 1 16 (lenOf ak3 rfl)
 obtain ⟨d10, kd10, rfl, Nq10, K10, ge10, A10⟩ := hQ10
 have N10 := Fr.app N8 Nq10
 refine c8 st10 ?_
 have g_d10 : n0 ≤ d10 := c9 Z0 ge10
 have sz_d10 : h0.size ≤ d10 := c9 (Keep.refl h0 [oa, tf, tn, tb]).1 ge10
 have ne_oa_d10 : oa ≠ d10 := Nat.ne_of_lt (j3 Et.lt ge10)
 have ne_ob_d10 : ob ≠ d10 := Nat.ne_of_lt (j3 Eu.lt ge10)
 have ne_un_d10 : un ≠ d10 := Nat.ne_of_lt (j3 Agu.lt ge10)
 have ne_ub_d10 : ub ≠ d10 := Nat.ne_of_lt (j3 Abu.lt ge10)
 have Et__10 := Et.keep K10
 have Fst__10 := Fst.keep K10 nin0
 have Fft__10 := Fft.keep K10 nin0
 have Fnt__10 := Fnt.keep K10 nin0
 have Fbt__10 := Fbt.keep K10 nin0
 have Flt__10 := Flt.keep K10 nin0
 have Agt__10 := Agt.keep K10 nin0
 have Abt__10 := Abt.keep K10 nin0
 have Eu__10 := Eu.keep K10
 have Fsu__10 := Fsu.keep K10 nin0
 have Ffu__10 := Ffu.keep K10 nin0
 have Fnu__10 := Fnu.keep K10 nin0
 have Fbu__10 := Fbu.keep K10 nin0
 have Flu__10 := Flu.keep K10 nin0
 have Afu__10 := Afu.keep K10 nin0
 have Agu__10 := Agu.keep K10 nin0
 have Abu__10 := Abu.keep K10 nin0
 have KP10 := (Keep.refl h0 [oa, tf, tn, tb]).trans K10 all0
 have sz10 := c9 Z0 K10.1
 obtain ⟨T11, h11, X11, e11, W11, st11⟩ := putF X10 f Y O (host := "") (Or.inl (o9 w)) Via.refl rfl Fft__10 Et__10 (Or.inl (x4 w)) (o0 w) (ty := (.array .long)) (by decide) rfl rfl (g := (mkF m 52 L_3 [.ref d10, .ref oa])) rfl rfl (hb d ax9)
 have Fw11 := Fft__10.same W11
 have Et__11 := Et__10.wr W11
 have Fst__11 := Fst__10.other W11 (Or.inr (Y4 w))
 have Fnt__11 := Fnt__10.other W11 (Or.inr (Y5 w))
 have Fbt__11 := Fbt__10.other W11 (Or.inr (U4 w))
 have Flt__11 := Flt__10.other W11 (Or.inr (U5 w))
 have Agt__11 := Agt__10.other W11 (Ne.symm ne_otn)
 have Abt__11 := Abt__10.other W11 (Ne.symm ne_otb)
 have Eu__11 := Eu__10.wr W11
 have Fsu__11 := Fsu__10.other W11 (Or.inl (i9 dj 0 0 rfl rfl))
 have Ffu__11 := Ffu__10.other W11 (Or.inl (i9 dj 0 0 rfl rfl))
 have Fnu__11 := Fnu__10.other W11 (Or.inl (i9 dj 0 0 rfl rfl))
 have Fbu__11 := Fbu__10.other W11 (Or.inl (i9 dj 0 0 rfl rfl))
 have Flu__11 := Flu__10.other W11 (Or.inl (i9 dj 0 0 rfl rfl))
 have Afu__11 := Afu__10.other W11 (i9 dj 1 0 rfl rfl)
 have Agu__11 := Agu__10.other W11 (i9 dj 2 0 rfl rfl)
 have Abu__11 := Abu__10.other W11 (i9 dj 3 0 rfl rfl)
 have A10__11 := A10.other W11 (Ne.symm ne_oa_d10)
 have N11 := Fr.snoc X11 N10 g_oa
 have KP11 := KP10.wr W11 (Or.inl (List.mem_of_getElem? (i := 0) rfl))
 have sz11 := c9 sz10 (Keep.of_wr W11).1
 refine c8 st11 ?_
 show c5 p e U m T11 55 L_3 []
 refine c6 X11 f d ay0 rfl rfl ?_
 refine c6 X11 f d ay1 rfl rfl ?_
 refine d3 X11 f d Y e11 O (m6 w) Fnt__11 ay2 (fun T12 X12 e12 => ?_)
 refine f4 X12 f d ay3 rfl ?_
 refine f6 X12 f d ay4 (z := (1 : Int32)) rfl ?_
 refine n7 X12 f d ay5 ?_
 obtain ⟨_, T13, Lc13, X13, hQ13, st13⟩ := j8 X12 f d r Y e12 O (af3 w) (af4 w) (t6 w) (af5 w) (aX6 l Z a0 w [] tn ktn (0 : Int32) h11 n0 sz11 Agt__11) L_3 ay6 [.ref tn, .int 17] [.ref oa] 1 1 17 (lenOf ak4 rfl)
 obtain ⟨d13, kd13, rfl, Nq13, K13, ge13, A13⟩ := hQ13
 have N13 := Fr.app N11 Nq13
 refine c8 st13 ?_
 have g_d13 : n0 ≤ d13 := c9 sz11 ge13
 have sz_d13 : h0.size ≤ d13 := c9 KP11.1 ge13
 have ne_oa_d13 : oa ≠ d13 := Nat.ne_of_lt (j3 Et__11.lt ge13)
 have ne_ob_d13 : ob ≠ d13 := Nat.ne_of_lt (j3 Eu__11.lt ge13)
 have ne_d10_d13 : d10 ≠ d13 := Nat.ne_of_lt (j3 A10__11.lt ge13)
 have Et__13 := Et__11.keep K13
 have Fst__13 := Fst__11.keep K13 nin0
 have Fw11__13 := Fw11.keep K13 nin0
 have Fnt__13 := Fnt__11.keep K13 nin0
 have Fbt__13 := Fbt__11.keep K13 nin0
 have Flt__13 := Flt__11.keep K13 nin0
 have Abt__13 := Abt__11.keep K13 nin0
 have Eu__13 := Eu__11.keep K13
 have Fsu__13 := Fsu__11.keep K13 nin0
 have Ffu__13 := Ffu__11.keep K13 nin0
 have Fnu__13 := Fnu__11.keep K13 nin0
 have Fbu__13 := Fbu__11.keep K13 nin0
 have Flu__13 := Flu__11.keep K13 nin0
 have Afu__13 := Afu__11.keep K13 nin0
 have Agu__13 := Agu__11.keep K13 nin0
 have Abu__13 := Abu__11.keep K13 nin0
 have A10__13 := A10__11.keep K13 nin0
 have KP13 := KP11.trans K13 all0
 have sz13 := c9 sz11 K13.1
 obtain ⟨T14, h14, X14, e14, W14, st14⟩ := putF X13 f Y O (host := "") (Or.inl (m6 w)) Via.refl rfl Fnt__13 Et__13 (Or.inl (x5 w)) (o0 w) (ty := (.array .int)) (by decide) rfl rfl (g := (mkF m 66 L_3 [.ref d13, .ref oa])) rfl rfl (hb d ay7)
 have Fw14 := Fnt__13.same W14
 have Et__14 := Et__13.wr W14
 have Fst__14 := Fst__13.other W14 (Or.inr (U6 w))
 have Fw11__14 := Fw11__13.other W14 (Or.inr (U7 w))
 have Fbt__14 := Fbt__13.other W14 (Or.inr (U8 w))
 have Flt__14 := Flt__13.other W14 (Or.inr (U9 w))
 have Abt__14 := Abt__13.other W14 (Ne.symm ne_otb)
 have Eu__14 := Eu__13.wr W14
 have Fsu__14 := Fsu__13.other W14 (Or.inl (i9 dj 0 0 rfl rfl))
 have Ffu__14 := Ffu__13.other W14 (Or.inl (i9 dj 0 0 rfl rfl))
 have Fnu__14 := Fnu__13.other W14 (Or.inl (i9 dj 0 0 rfl rfl))
 have Fbu__14 := Fbu__13.other W14 (Or.inl (i9 dj 0 0 rfl rfl))
 have Flu__14 := Flu__13.other W14 (Or.inl (i9 dj 0 0 rfl rfl))
 have Afu__14 := Afu__13.other W14 (i9 dj 1 0 rfl rfl)
 have Agu__14 := Agu__13.other W14 (i9 dj 2 0 rfl rfl)
 have Abu__14 := Abu__13.other W14 (i9 dj 3 0 rfl rfl)
 have A10__14 := A10__13.other W14 (Ne.symm ne_oa_d10)
 have A13__14 := A13.other W14 (Ne.symm ne_oa_d13)
 have N14 := Fr.snoc X14 N13 g_oa
 have KP14 := KP13.wr W14 (Or.inl (List.mem_of_getElem? (i := 0) rfl))
 have sz14 := c9 sz13 (Keep.of_wr W14).1
 refine c8 st14 ?_
 show c5 p e U m T14 69 L_3 []
 refine c6 X14 f d ah4 rfl rfl ?_
 refine d3 X14 f d Y e14 O (m6 w) Fw14 ah5 (fun T15 X15 e15 => ?_)
 refine c6 X15 f d ah6 rfl rfl ?_
 refine d3 X15 f d Y e15 O (i6 w) Fst__14 ah7 (fun T16 X16 e16 => ?_)
 refine n3 X16 f d Y e16 A13__14 ⟨by decide, by decide⟩ rfl ah8 ?_
 refine c6 X16 f d ah9 rfl rfl ?_
 refine d3 X16 f d Y e16 O (m6 w) Fnu__14 ai0 (fun T18 X18 e18 => ?_)
 refine c6 X18 f d ai1 rfl rfl ?_
 refine d3 X18 f d Y e18 O (i6 w) Fsu__14 ai2 (fun T19 X19 e19 => ?_)
 refine n3 X19 f d Y e19 Agu__14 ⟨by decide, by decide⟩ rfl ai3 ?_
 refine n7 X19 f d ai4 ?_
 show c5 p e U m T19 88 L_3 [(.int ((0 : Int32) + q1))]
 rw [Int32.zero_add]
 show c5 p e U m T19 88 L_3 [.int q1]
 let L_4 : Array Slot := #[oR oa,oR ob,oI 1,oI q1,oU]
 refine p8 X19 f d ai5 (l' := L_4) rfl ?_
 refine f4 X19 f d ai6 rfl ?_
 refine c6 X19 f d ai7 rfl rfl ?_
 refine d3 X19 f d Y e19 O (o8 w) Fbt__14 ai8 (fun T21 X21 e21 => ?_)
 refine m7 X21 f d Y e21 Abt__14 ai9 ?_
 refine m4 X21 f d aj0 (tlt (as9 tq.1 (c9 (j6 rfl) tq.2.1) : (0 : Int32) < q1)).2.2.2 ?_
 refine c6 X21 f d bD3 rfl rfl ?_
 refine c6 X21 f d bD4 rfl rfl ?_
 refine d3 X21 f d Y e21 O (o8 w) Fbt__14 bd5 (fun T23 X23 e23 => ?_)
 refine f4 X23 f d bd6 rfl ?_
 refine c6 X23 f d bd7 rfl rfl ?_
 refine d3 X23 f d Y e23 O (o8 w) Fbt__14 bd8 (fun T24 X24 e24 => ?_)
 refine m7 X24 f d Y e24 Abt__14 bd9 ?_
 refine f6 X24 f d be0 (z := (2 : Int32)) rfl ?_
 refine P3 X24 f d be1 ?_
 obtain ⟨_, T26, Lc26, X26, hQ26, st26⟩ := j8 X24 f d r Y e24 O (D1 w) (D6 w) (s6 w) (D9 w) (Q2 l Z a0 w [] q1 (0 : Int32) h14 n0 sz14 (G3 tq.1)) L_4 be2 [.int q1, .int 0] [.ref tb, .ref oa] 2 0 0 (lenOf s9 rfl)
 obtain ⟨rfl, Nq26, e26⟩ := hQ26
 have N26 := Fr.app N14 Nq26
 refine c8 st26 ?_
 obtain ⟨_, T27, Lc27, X27, hQ27, st27⟩ := j8 X26 f d r Y e26 O (at1 w) (at2 w) (t6 w) (at3 w) (bo8 l Z a0 w [] tb ktb q1 h14 n0 sz14 Abt__14 (as9 tq.1 (c9 (j6 rfl) tq.2.1)) (by rw [hyn]; exact c9 hy4 (by decide))) L_4 be3 [.ref tb, .int q1] [.ref oa] 1 1 8 (lenOf aA1 rfl)
 obtain ⟨d27, kd27, rfl, Nq27, K27, ge27, A27, Ey27⟩ := hQ27
 have N27 := Fr.app N26 Nq27
 refine c8 st27 ?_
 have g_d27 : n0 ≤ d27 := c9 sz14 ge27
 have sz_d27 : h0.size ≤ d27 := c9 KP14.1 ge27
 have ne_oa_d27 : oa ≠ d27 := Nat.ne_of_lt (j3 Et__14.lt ge27)
 have ne_ob_d27 : ob ≠ d27 := Nat.ne_of_lt (j3 Eu__14.lt ge27)
 have ne_un_d27 : un ≠ d27 := Nat.ne_of_lt (j3 Agu__14.lt ge27)
 have ne_d10_d27 : d10 ≠ d27 := Nat.ne_of_lt (j3 A10__14.lt ge27)
 have ne_d13_d27 : d13 ≠ d27 := Nat.ne_of_lt (j3 A13__14.lt ge27)
 have Et__27 := Et__14.keep K27
 have Fst__27 := Fst__14.keep K27 nin0
 have Fw11__27 := Fw11__14.keep K27 nin0
 have Fw14__27 := Fw14.keep K27 nin0
 have Fbt__27 := Fbt__14.keep K27 nin0
 have Flt__27 := Flt__14.keep K27 nin0
 have Fsu__27 := Fsu__14.keep K27 nin0
 have Ffu__27 := Ffu__14.keep K27 nin0
 have Fnu__27 := Fnu__14.keep K27 nin0
 have Fbu__27 := Fbu__14.keep K27 nin0
 have Flu__27 := Flu__14.keep K27 nin0
 have Afu__27 := Afu__14.keep K27 nin0
 have Agu__27 := Agu__14.keep K27 nin0
 have Abu__27 := Abu__14.keep K27 nin0
 have A10__27 := A10__14.keep K27 nin0
 have A13__27 := A13__14.keep K27 nin0
 have KP27 := KP14.trans K27 all0
 obtain ⟨T28, h28, X28, e28, W28, st28⟩ := putF X27 f Y O (host := "") (Or.inl (o8 w)) Via.refl rfl Fbt__27 Et__27 (Or.inl (B2 w)) (o0 w) (ty := (.array .byte)) (by decide) rfl rfl (g := (mkF m 117 L_4 [.ref d27, .ref oa])) rfl rfl (hb d be4)
 have Fw28 := Fbt__27.same W28
 have Et__28 := Et__27.wr W28
 have Fst__28 := Fst__27.other W28 (Or.inr (an3 w))
 have Fw11__28 := Fw11__27.other W28 (Or.inr (an4 w))
 have Fw14__28 := Fw14__27.other W28 (Or.inr (an5 w))
 have Flt__28 := Flt__27.other W28 (Or.inr (an6 w))
 have Fsu__28 := Fsu__27.other W28 (Or.inl (i9 dj 0 0 rfl rfl))
 have Ffu__28 := Ffu__27.other W28 (Or.inl (i9 dj 0 0 rfl rfl))
 have Fnu__28 := Fnu__27.other W28 (Or.inl (i9 dj 0 0 rfl rfl))
 have Fbu__28 := Fbu__27.other W28 (Or.inl (i9 dj 0 0 rfl rfl))
 have Flu__28 := Flu__27.other W28 (Or.inl (i9 dj 0 0 rfl rfl))
 have Afu__28 := Afu__27.other W28 (i9 dj 1 0 rfl rfl)
 have Agu__28 := Agu__27.other W28 (i9 dj 2 0 rfl rfl)
 have Abu__28 := Abu__27.other W28 (i9 dj 3 0 rfl rfl)
 have A10__28 := A10__27.other W28 (Ne.symm ne_oa_d10)
 have A13__28 := A13__27.other W28 (Ne.symm ne_oa_d13)
 have A27__28 := A27.other W28 (Ne.symm ne_oa_d27)
 have Ey27__28 := Ey27.wr W28
 have N28 := Fr.snoc X28 N27 g_oa
 have KP28 := KP27.wr W28 (Or.inl (List.mem_of_getElem? (i := 0) rfl))
 refine c8 st28 ?_
 show c5 p e U m T28 120 L_4 []
 refine c6 X28 f d ab0 rfl rfl ?_
 refine d3 X28 f d Y e28 O (o9 w) Ffu__28 ab1 (fun T29 X29 e29 => ?_)
 refine f6 X29 f d ab2 (z := (0 : Int32)) rfl ?_
 refine c6 X29 f d ab3 rfl rfl ?_
 refine d3 X29 f d Y e29 O (o9 w) Fw11__28 ab4 (fun T30 X30 e30 => ?_)
 refine c6 X30 f d ab5 rfl rfl ?_
 refine d3 X30 f d Y e30 O (i6 w) Fst__28 ab6 (fun T31 X31 e31 => ?_)
 refine c6 X31 f d ab7 rfl rfl ?_
 refine d3 X31 f d Y e31 O (i6 w) Fsu__28 ab8 (fun T32 X32 e32 => ?_)
 obtain ⟨T33, h33, L33, X33, e33, N33, K33, A33, st33⟩ := cpA X32 f Y O (G4 w) (v4 w) (v2 w) (v3 w) e32 Afu__28 (Arv.pad A10__28 (pad_rep [] (.long (0 : Int64)) 1)) (us := [.long g0]) (Or.inl ⟨rfl, rfl⟩) (by decide) (by decide) (by decide) (by decide) (by decide) rfl (by exact j6 rfl) N28 g_d10 (g := (mkF m 137 L_4 [.int 1, .int 0, .ref d10, .int 0, .ref uf])) rfl (by rw [r]; rfl) rfl (hb d ab9) (by decide) (W := 0) (by show 2 * 0 + _ ≤ _; exact f7 rfl) (by decide)
 have Et__33 := Et__28.keep K33
 have Fst__33 := Fst__28.keep K33 (ninS ne_oa_d10 nin0)
 have Fw11__33 := Fw11__28.keep K33 (ninS ne_oa_d10 nin0)
 have Fw14__33 := Fw14__28.keep K33 (ninS ne_oa_d10 nin0)
 have Fw28__33 := Fw28.keep K33 (ninS ne_oa_d10 nin0)
 have Flt__33 := Flt__28.keep K33 (ninS ne_oa_d10 nin0)
 have Fsu__33 := Fsu__28.keep K33 (ninS ne_ob_d10 nin0)
 have Fnu__33 := Fnu__28.keep K33 (ninS ne_ob_d10 nin0)
 have Fbu__33 := Fbu__28.keep K33 (ninS ne_ob_d10 nin0)
 have Flu__33 := Flu__28.keep K33 (ninS ne_ob_d10 nin0)
 have Agu__33 := Agu__28.keep K33 (ninS ne_un_d10 nin0)
 have Abu__33 := Abu__28.keep K33 (ninS ne_ub_d10 nin0)
 have A13__33 := A13__28.keep K33 (ninS (Ne.symm ne_d10_d13) nin0)
 have A27__33 := A27__28.keep K33 (ninS (Ne.symm ne_d10_d27) nin0)
 have Ey27__33 := Ey27__28.keep K33
 have KP33 := KP28.trans K33 (allS (Or.inr sz_d10) all0)
 refine c8 st33 ?_
 show c5 p e U m T33 140 L_4 []
 refine c6 X33 f d ac0 rfl rfl ?_
 refine d3 X33 f d Y e33 O (o8 w) Fbu__33 ac1 (fun T34 X34 e34 => ?_)
 refine f6 X34 f d ac2 (z := (0 : Int32)) rfl ?_
 refine c6 X34 f d ac3 rfl rfl ?_
 refine d3 X34 f d Y e34 O (o8 w) Fw28__33 ac4 (fun T35 X35 e35 => ?_)
 refine c6 X35 f d ac5 rfl rfl ?_
 refine d3 X35 f d Y e35 O (m6 w) Fw14__33 ac6 (fun T36 X36 e36 => ?_)
 refine c6 X36 f d ac7 rfl rfl ?_
 refine d3 X36 f d Y e36 O (i6 w) Fst__33 ac8 (fun T37 X37 e37 => ?_)
 refine n3 X37 f d Y e37 A13__33 ⟨by decide, by decide⟩ rfl ac9 ?_
 refine c6 X37 f d ad0 rfl rfl ?_
 refine d3 X37 f d Y e37 O (m6 w) Fnu__33 ad1 (fun T39 X39 e39 => ?_)
 refine c6 X39 f d ad2 rfl rfl ?_
 refine d3 X39 f d Y e39 O (i6 w) Fsu__33 ad3 (fun T40 X40 e40 => ?_)
 refine n3 X40 f d Y e40 Agu__33 ⟨by decide, by decide⟩ rfl ad4 ?_
 obtain ⟨T42, h42, L42, X42, e42, N42, K42, A42, st42⟩ := cpA X40 f Y O (G4 w) (v4 w) (v2 w) (v3 w) e40 Abu__33 (Arv.pad A27__33 (pad_rep ([] : List Value) (.int 0) 4)) (us := (m9 [y0].flatten)) (Or.inl ⟨rfl, rfl⟩) (by decide) (by decide) (G3 tq.1) (by rw [hyn]; exact c9 (f7 (Nat.zero_add _)) (c9 hy4 (by decide))) (f7 (Nat.zero_add _)) (by rw [hyn]; exact ae6 _ _) (by rw [hyn]; exact c9 (f7 (Nat.zero_add _)) hy4) N33 g_d27 (g := (mkF m 167 L_4 [.int q1, .int 0, .ref d27, .int 0, .ref ub])) rfl (by rw [r]; rfl) rfl (hb d ad5) (by decide) (W := 0) (by show 2 * 0 + _ ≤ _; exact f7 rfl) (by decide)
 have Ac42 := Arv.pad A42 (Z4 ([] : List Value) (m9 [y0].flatten) (.int 0) rfl hyn)
 have Et__42 := Et__33.keep K42
 have Fst__42 := Fst__33.keep K42 (ninS ne_oa_d27 nin0)
 have Fw11__42 := Fw11__33.keep K42 (ninS ne_oa_d27 nin0)
 have Fw14__42 := Fw14__33.keep K42 (ninS ne_oa_d27 nin0)
 have Fw28__42 := Fw28__33.keep K42 (ninS ne_oa_d27 nin0)
 have Flt__42 := Flt__33.keep K42 (ninS ne_oa_d27 nin0)
 have Fsu__42 := Fsu__33.keep K42 (ninS ne_ob_d27 nin0)
 have Fnu__42 := Fnu__33.keep K42 (ninS ne_ob_d27 nin0)
 have Flu__42 := Flu__33.keep K42 (ninS ne_ob_d27 nin0)
 have Agu__42 := Agu__33.keep K42 (ninS ne_un_d27 nin0)
 have A13__42 := A13__33.keep K42 (ninS ne_d13_d27 nin0)
 have Ey27__42 := Ey27__33.keep K42
 have A33__42 := A33.keep K42 (ninS ne_d10_d27 nin0)
 have KP42 := KP33.trans K42 (allS (Or.inr sz_d27) all0)
 refine c8 st42 ?_
 show c5 p e U m T42 170 L_4 []
 refine f6 X42 f d ad6 (z := (1 : Int32)) rfl ?_
 let L_5 : Array Slot := #[oR oa,oR ob,oI 1,oI q1,oI 1]
 refine o4 X42 f d ad7 (l' := L_5) rfl ?_
 refine f5 X42 f d C6 rfl ?_
 refine c6 X42 f d C7 rfl rfl ?_
 refine d3 X42 f d Y e42 O (i6 w) Fsu__42 C8 (fun T43 X43 e43 => ?_)
 refine m4 X43 f d C9 (flt (by decide : ¬ ((1 : Int32) < (1 : Int32)))).2.2.1 ?_
 refine c6 X43 f d M4 rfl rfl ?_
 refine d3 X43 f d Y e43 O (m6 w) Fw14__42 M5 (fun T44 X44 e44 => ?_)
 refine c6 X44 f d M6 rfl rfl ?_
 refine d3 X44 f d Y e44 O (i6 w) Fst__42 M7 (fun T45 X45 e45 => ?_)
 refine f5 X45 f d M8 rfl ?_
 refine n7 X45 f d M9 ?_
 show c5 p e U m T45 193 L_5 [.int 1, .ref d13]
 refine c6 X45 f d O0 rfl rfl ?_
 refine d3 X45 f d Y e45 O (m6 w) Fw14__42 O1 (fun T46 X46 e46 => ?_)
 refine c6 X46 f d O2 rfl rfl ?_
 refine d3 X46 f d Y e46 O (i6 w) Fst__42 O3 (fun T47 X47 e47 => ?_)
 refine n3 X47 f d Y e47 A13__42 ⟨by decide, by decide⟩ rfl O4 ?_
 refine c6 X47 f d O5 rfl rfl ?_
 refine d3 X47 f d Y e47 O (m6 w) Fnu__42 O6 (fun T49 X49 e49 => ?_)
 refine f5 X49 f d O7 rfl ?_
 refine n3 X49 f d Y e49 Agu__42 ⟨by decide, by decide⟩ rfl O8 ?_
 refine n7 X49 f d O9 ?_
 show c5 p e U m T49 210 L_5 [(.int ((0 : Int32) + q1)), .int 1, .ref d13]
 obtain ⟨cl51, Ar51, qa51, Sa51, Na51, Ha51, Ga51⟩ := id A13__42
 have hin51 : ¬ ((1 : Int32) < 0 ∨ cl51.slots.size ≤ ((1 : Int32)).toNatClampNeg) := inb_of Sa51 ⟨by decide, by decide⟩
 obtain ⟨T51, h51, X51, e51, W51, st51⟩ := stI X49 f Y e49 Ar51 (j := (1 : Int32)) hin51 (g := (mkF m 210 L_5 [(.int ((0 : Int32) + q1)), .int 1, .ref d13])) rfl rfl (hb d P0)
 have Vw51 := u0 Ar51 qa51 Sa51 Na51 Ha51 Ga51 rfl W51 rfl
 replace Vw51 : Arv Z h51 d13 kd13 .int 17 [.int 0, (.int ((0 : Int32) + q1))] (.int 0) := Vw51
 have Et__51 := Et__42.wr W51
 have Fst__51 := Fst__42.other W51 (Or.inl ne_oa_d13)
 have Fw11__51 := Fw11__42.other W51 (Or.inl ne_oa_d13)
 have Fw14__51 := Fw14__42.other W51 (Or.inl ne_oa_d13)
 have Fw28__51 := Fw28__42.other W51 (Or.inl ne_oa_d13)
 have Flt__51 := Flt__42.other W51 (Or.inl ne_oa_d13)
 have Fsu__51 := Fsu__42.other W51 (Or.inl ne_ob_d13)
 have Flu__51 := Flu__42.other W51 (Or.inl ne_ob_d13)
 have Ey27__51 := Ey27__42.wr W51
 have A33__51 := A33__42.other W51 ne_d10_d13
 have Ac42__51 := Ac42.other W51 (Ne.symm ne_d13_d27)
 have N51 := Fr.snoc X51 N42 g_d13
 have KP51 := KP42.wr W51 (Or.inr sz_d13)
 refine c8 st51 ?_
 show c5 p e U m T51 211 L_5 []
 let L_6 : Array Slot := #[oR oa,oR ob,oI 1,oI q1,oI 2]
 refine c8 (fun t k => XS.iinc X51.here f rfl (hb d P1) rfl (l' := L_6) rfl k) ?_
 show c5 p e U m T51 214 L_6 []
 refine m5 (pc := 214) (pc' := 173) X51 f d P2 ?_
 refine f5 X51 f d C6 rfl ?_
 refine c6 X51 f d C7 rfl rfl ?_
 refine d3 X51 f d Y e51 O (i6 w) Fsu__51 C8 (fun T52 X52 e52 => ?_)
 refine j5 (pc := 179) (pc' := 217) X52 f d C9 (tlt (by decide : (1 : Int32) < (2 : Int32))).2.2.1 ?_
 refine c6 X52 f d ad8 rfl rfl ?_
 refine f4 X52 f d ad9 rfl ?_
 obtain ⟨T53, h53, X53, e53, W53, st53⟩ := putF X52 f Y O (host := "") (Or.inl (i6 w)) Via.refl e52 Fst__51 Et__51 (Or.inl (w5 w)) (o0 w) (ty := .int) (by decide) rfl rfl (g := (mkF m 219 L_6 [.int 1, .ref oa])) rfl rfl (hb d ae0)
 have Fw53 := Fst__51.same W53
 have Et__53 := Et__51.wr W53
 have Fw11__53 := Fw11__51.other W53 (Or.inr (J4 w))
 have Fw14__53 := Fw14__51.other W53 (Or.inr (J5 w))
 have Fw28__53 := Fw28__51.other W53 (Or.inr (J6 w))
 have Flt__53 := Flt__51.other W53 (Or.inr (J7 w))
 have Flu__53 := Flu__51.other W53 (Or.inl (i9 dj 0 0 rfl rfl))
 have Vw51__53 := Vw51.other W53 (Ne.symm ne_oa_d13)
 have Ey27__53 := Ey27__51.wr W53
 have A33__53 := A33__51.other W53 (Ne.symm ne_oa_d10)
 have Ac42__53 := Ac42__51.other W53 (Ne.symm ne_oa_d27)
 have N53 := Fr.snoc X53 N51 g_oa
 have KP53 := KP51.wr W53 (Or.inl (List.mem_of_getElem? (i := 0) rfl))
 refine c8 st53 ?_
 show c5 p e U m T53 222 L_6 []
 refine c6 X53 f d ae1 rfl rfl ?_
 refine c6 X53 f d ae2 rfl rfl ?_
 refine d3 X53 f d Y e53 O (B3 w) Flu__53 ae3 (fun T54 X54 e54 => ?_)
 obtain ⟨T55, h55, X55, e55, W55, st55⟩ := putF X54 f Y O (host := "") (Or.inl (B3 w)) Via.refl e54 Flt__53 Et__53 (Or.inl (w6 w)) (o0 w) (ty := (.object "java/math/BigInteger")) (by decide) rfl rfl (g := (mkF m 227 L_6 [.ref lcb, .ref oa])) rfl rfl (hb d ae4)
 have Fw55 := Flt__53.same W55
 have Et__55 := Et__53.wr W55
 have Fw53__55 := Fw53.other W55 (Or.inr (J8 w))
 have Fw11__55 := Fw11__53.other W55 (Or.inr (J9 w))
 have Fw14__55 := Fw14__53.other W55 (Or.inr (K0 w))
 have Fw28__55 := Fw28__53.other W55 (Or.inr (L0 w))
 have Vw51__55 := Vw51__53.other W55 (Ne.symm ne_oa_d13)
 have Ey27__55 := Ey27__53.wr W55
 have A33__55 := A33__53.other W55 (Ne.symm ne_oa_d10)
 have Ac42__55 := Ac42__53.other W55 (Ne.symm ne_oa_d27)
 have N55 := Fr.snoc X55 N53 g_oa
 have KP55 := KP53.wr W55 (Or.inl (List.mem_of_getElem? (i := 0) rfl))
 refine c8 st55 ?_
 show c5 p e U m T55 230 L_6 []
 exact q0 X55 f R (hb d ae5) (by rw [e55]; exact ⟨rfl, N55, KP55, [oa, d10, d13, d27], q1, ⟨_, _, _, _, _, _, rfl, ⟨Et__55, Fw53__55, Fw11__55, Fw14__55, Fw28__55, Fw55⟩, A33__55, (by have q := Vw51__55; rw [hq1, ae7] at q; exact q), (by have q := Ac42__55; simpa [m9] using q), Ey27__55⟩, (by have q := hyn; simp [m9] at q ⊢; omega)⟩) (by decide) (by decide)
def ce0 (Z : State) (oa : Addr) (y0 y1 : List Int32) (g0 g1 : Int64) (Wa : List Addr) (lcb : Addr) (h0 : Heap) (n0 : Nat) (v : Option Value) (h : Heap) (L : List Loc) : Prop := v = none ∧ Fr n0 L ∧ Keep h0 h Wa ∧ ∃ (W' : List Addr) (cb : Int32), own_L Z h oa [y0, y1] [g0, g1] W' (.ref lcb) 16 17 cb ∧ [y0, y1].flatten.length ≤ cb.toNatClampNeg
theorem cG9 (l : Launch) (Z : State) (a0 : Array Value) (w : j9 Z a0) (ws : List Jvm.Cond) (y0 y1 : List Int32) (g0 g1 : Int64) (oa ob : Addr) (Wa Wb : List Addr) (lca : Value) (lcb : Addr) (h0 : Heap) (n0 : Nat) (Z0 : n0 ≤ h0.size) (La : own_L Z h0 oa [] [] Wa lca 0 1 0) (Lb : own_L Z h0 ob [y0, y1] [g0, g1] Wb (.ref lcb) 16 17 64) (gW : ∀ y ∈ Wa, n0 ≤ y) (dj : ∀ y ∈ Wb, y ∉ Wa) (r_lca : lca.isRef = true)  (hy0 : 1 ≤ y0.length ∧ y0.length ≤ 2) (hy1 : 1 ≤ y1.length ∧ y1.length ≤ 2) :
 l0 l Z h0 Y3 f8 5 none ws (Jvm.Room.mk 2 3 41 56) #[.ref oa, .ref ob] (ce0 Z oa  y0 y1 g0 g1 Wa lcb h0 n0) := by
 refine l7 (Ls := #[.val (.ref oa), .val (.ref ob), .unset, .unset, .unset]) (plainFor_of_name E0) (fun p e s m U meth c s₁ Y hh f d r O hnm hlk R X0 e0 => ?_)
 replace O : s.vm.findClass "com/example/prizewell/prizewell/core/TicketRanges" = some m.cls := O
 have N0 := Fr.nil n0
 obtain ⟨tf, tn, tb, ktf, ktn, ktb, rfl, ⟨Et, Fst, Fft, Fnt, Fbt, Flt⟩, Aft, Agt, Abt, Ebt⟩ := id La
 obtain ⟨uf, un, ub, kuf, kun, kub, rfl, ⟨Eu, Fsu, Ffu, Fnu, Fbu, Flu⟩, Afu, Agu, Abu, Ebu⟩ := id Lb
 replace Fsu : Fld Z h0 ob "com/example/prizewell/prizewell/core/TicketRanges" "size" "I" (.int 2) := Fsu
 obtain ⟨q1, hq1⟩ : ∃ z, z = 0 + p6 y0 := ⟨_, rfl⟩
 obtain ⟨q2, hq2⟩ : ∃ z, z = 0 + p6 y0 + p6 y1 := ⟨_, rfl⟩
 replace Agu : Arv Z h0 un kun .int 17 [.int 0, .int q1, .int q2] (.int 0) := by rw [hq1, hq2]; exact Agu
 have tq := G9 (css := [y0, y1]) hq2 (al6 hy0 hy1) (j6 rfl)
 have hyn : q2.toNatClampNeg = (m9 [y0, y1].flatten).length := by rw [x2]; exact H2 tq.1
 have hy4 : (m9 [y0, y1].flatten).length ≤ 4 := by rw [x2]; exact tq.2.2
 have g_oa := gW _ (List.mem_of_getElem? (i := 0) rfl)
 have ne_otn := Exa.neArv Et Agt (o0 w)
 have ne_otb := Exa.neArv Et Abt (o0 w)
 let L_1 : Array Slot := #[oR oa,oR ob,oU,oU,oU]
 show c5 p e U m s₁ 0 L_1 []
 refine c6 X0 f d V0 rfl rfl ?_
 refine d3 X0 f d Y e0 O (i6 w) Fsu V8 (fun T1 X1 e1 => ?_)
 refine o2 (pc := 4) (pc' := 8) X1 f d W0 ((if0 _ _).trans (feq (by decide : ¬ ((2 : Int32) = (0 : Int32)))).2) ?_
 refine c6 X1 f d ak6 rfl rfl ?_
 refine d3 X1 f d Y e1 O (i6 w) Fst ak7 (fun T2 X2 e2 => ?_)
 refine c6 X2 f d ag5 rfl rfl ?_
 refine d3 X2 f d Y e2 O (i6 w) Fsu ag6 (fun T3 X3 e3 => ?_)
 refine n7 X3 f d ag7 ?_
 show c5 p e U m T3 17 L_1 [.int 2]
 let L_2 : Array Slot := #[oR oa,oR ob,oI 2,oU,oU]
 refine p8 X3 f d ag8 (l' := L_2) rfl ?_
 refine f4 X3 f d ag9 rfl ?_
 refine c6 X3 f d ah0 rfl rfl ?_
 refine d3 X3 f d Y e3 O (o9 w) Fft ah1 (fun T4 X4 e4 => ?_)
 refine m7 X4 f d Y e4 Aft ah2 ?_
 refine m4 X4 f d ah3 (tlt (by decide : (0 : Int32) < (2 : Int32))).2.2.2 ?_
 refine f4 X4 f d aw5 rfl ?_
 refine t9 X4 f d aw6 (z := (16 : Int32)) rfl ?_
 refine c6 X4 f d aw7 rfl rfl ?_
 refine d3 X4 f d Y e4 O (i6 w) Fst aw8 (fun T6 X6 e6 => ?_)
 refine f6 X6 f d aw9 (z := (2 : Int32)) rfl ?_
 refine P3 X6 f d ax0 ?_
 obtain ⟨_, T7, Lc7, X7, hQ7, st7⟩ := j8 X6 f d r Y e6 O (D1 w) (D6 w) (s6 w) (D9 w) (Q2 l Z a0 w [] (16 : Int32) (0 : Int32) h0 n0 Z0 (by decide)) L_2 ax1 [.int 16, .int 0] [.int 2] 1 0 0 (lenOf s9 rfl)
 obtain ⟨rfl, Nq7, e7⟩ := hQ7
 have N7 := Fr.app N0 Nq7
 refine c8 st7 ?_
 obtain ⟨_, T8, Lc8, X8, hQ8, st8⟩ := j8 X7 f d r Y e7 O (D1 w) (D6 w) (s6 w) (D9 w) (ak0 l Z a0 w [] (2 : Int32) (16 : Int32) h0 n0 Z0 (by decide)) L_2 ax2 [.int 2, .int 16] [] 0 0 0 (lenOf s9 rfl)
 obtain ⟨rfl, Nq8, e8⟩ := hQ8
 have N8 := Fr.app N7 Nq8
 refine c8 st8 ?_
 show c5 p e U m T8 42 L_2 [.int 16]
 let L_3 : Array Slot := #[oR oa,oR ob,oI 2,oI 16,oU]
 refine p8 X8 f d ax3 (l' := L_3) rfl ?_
 refine c6 X8 f d ax4 rfl rfl ?_
 refine c6 X8 f d ax5 rfl rfl ?_
 refine d3 X8 f d Y e8 O (o9 w) Fft ax6 (fun T9 X9 e9 => ?_)
 refine f4 X9 f d ax7 rfl ?_
 obtain ⟨_, T10, Lc10, X10, hQ10, st10⟩ := j8 X9 f d r Y e9 O (af0 w) (af1 w) (t6 w) (af2 w) (aX5 l Z a0 w [] tf ktf  h0 n0 Z0 Aft) L_3 ax8 [.ref tf, .int 16] [.ref oa] 1 1 16 (lenOf ak3 rfl)
 obtain ⟨d10, kd10, rfl, Nq10, K10, ge10, A10⟩ := hQ10
 have N10 := Fr.app N8 Nq10
 refine c8 st10 ?_
 have g_d10 : n0 ≤ d10 := c9 Z0 ge10
 have sz_d10 : h0.size ≤ d10 := c9 (Keep.refl h0 [oa, tf, tn, tb]).1 ge10
 have ne_oa_d10 : oa ≠ d10 := Nat.ne_of_lt (j3 Et.lt ge10)
 have ne_ob_d10 : ob ≠ d10 := Nat.ne_of_lt (j3 Eu.lt ge10)
 have ne_un_d10 : un ≠ d10 := Nat.ne_of_lt (j3 Agu.lt ge10)
 have ne_ub_d10 : ub ≠ d10 := Nat.ne_of_lt (j3 Abu.lt ge10)
 have Et__10 := Et.keep K10
 have Fst__10 := Fst.keep K10 nin0
 have Fft__10 := Fft.keep K10 nin0
 have Fnt__10 := Fnt.keep K10 nin0
 have Fbt__10 := Fbt.keep K10 nin0
 have Flt__10 := Flt.keep K10 nin0
 have Agt__10 := Agt.keep K10 nin0
 have Abt__10 := Abt.keep K10 nin0
 have Eu__10 := Eu.keep K10
 have Fsu__10 := Fsu.keep K10 nin0
 have Ffu__10 := Ffu.keep K10 nin0
 have Fnu__10 := Fnu.keep K10 nin0
 have Fbu__10 := Fbu.keep K10 nin0
 have Flu__10 := Flu.keep K10 nin0
 have Afu__10 := Afu.keep K10 nin0
 have Agu__10 := Agu.keep K10 nin0
 have Abu__10 := Abu.keep K10 nin0
 have KP10 := (Keep.refl h0 [oa, tf, tn, tb]).trans K10 all0
 have sz10 := c9 Z0 K10.1
 obtain ⟨T11, h11, X11, e11, W11, st11⟩ := putF X10 f Y O (host := "") (Or.inl (o9 w)) Via.refl rfl Fft__10 Et__10 (Or.inl (x4 w)) (o0 w) (ty := (.array .long)) (by decide) rfl rfl (g := (mkF m 52 L_3 [.ref d10, .ref oa])) rfl rfl (hb d ax9)
 have Fw11 := Fft__10.same W11
 have Et__11 := Et__10.wr W11
 have Fst__11 := Fst__10.other W11 (Or.inr (Y4 w))
 have Fnt__11 := Fnt__10.other W11 (Or.inr (Y5 w))
 have Fbt__11 := Fbt__10.other W11 (Or.inr (U4 w))
 have Flt__11 := Flt__10.other W11 (Or.inr (U5 w))
 have Agt__11 := Agt__10.other W11 (Ne.symm ne_otn)
 have Abt__11 := Abt__10.other W11 (Ne.symm ne_otb)
 have Eu__11 := Eu__10.wr W11
 have Fsu__11 := Fsu__10.other W11 (Or.inl (i9 dj 0 0 rfl rfl))
 have Ffu__11 := Ffu__10.other W11 (Or.inl (i9 dj 0 0 rfl rfl))
 have Fnu__11 := Fnu__10.other W11 (Or.inl (i9 dj 0 0 rfl rfl))
 have Fbu__11 := Fbu__10.other W11 (Or.inl (i9 dj 0 0 rfl rfl))
 have Flu__11 := Flu__10.other W11 (Or.inl (i9 dj 0 0 rfl rfl))
 have Afu__11 := Afu__10.other W11 (i9 dj 1 0 rfl rfl)
 have Agu__11 := Agu__10.other W11 (i9 dj 2 0 rfl rfl)
 have Abu__11 := Abu__10.other W11 (i9 dj 3 0 rfl rfl)
 have A10__11 := A10.other W11 (Ne.symm ne_oa_d10)
 have N11 := Fr.snoc X11 N10 g_oa
 have KP11 := KP10.wr W11 (Or.inl (List.mem_of_getElem? (i := 0) rfl))
 have sz11 := c9 sz10 (Keep.of_wr W11).1
 refine c8 st11 ?_
 show c5 p e U m T11 55 L_3 []
 refine c6 X11 f d ay0 rfl rfl ?_
 refine c6 X11 f d ay1 rfl rfl ?_
 refine d3 X11 f d Y e11 O (m6 w) Fnt__11 ay2 (fun T12 X12 e12 => ?_)
 refine f4 X12 f d ay3 rfl ?_
 refine f6 X12 f d ay4 (z := (1 : Int32)) rfl ?_
 refine n7 X12 f d ay5 ?_
 obtain ⟨_, T13, Lc13, X13, hQ13, st13⟩ := j8 X12 f d r Y e12 O (af3 w) (af4 w) (t6 w) (af5 w) (aX6 l Z a0 w [] tn ktn (0 : Int32) h11 n0 sz11 Agt__11) L_3 ay6 [.ref tn, .int 17] [.ref oa] 1 1 17 (lenOf ak4 rfl)
 obtain ⟨d13, kd13, rfl, Nq13, K13, ge13, A13⟩ := hQ13
 have N13 := Fr.app N11 Nq13
 refine c8 st13 ?_
 have g_d13 : n0 ≤ d13 := c9 sz11 ge13
 have sz_d13 : h0.size ≤ d13 := c9 KP11.1 ge13
 have ne_oa_d13 : oa ≠ d13 := Nat.ne_of_lt (j3 Et__11.lt ge13)
 have ne_ob_d13 : ob ≠ d13 := Nat.ne_of_lt (j3 Eu__11.lt ge13)
 have ne_un_d13 : un ≠ d13 := Nat.ne_of_lt (j3 Agu__11.lt ge13)
 have ne_d10_d13 : d10 ≠ d13 := Nat.ne_of_lt (j3 A10__11.lt ge13)
 have Et__13 := Et__11.keep K13
 have Fst__13 := Fst__11.keep K13 nin0
 have Fw11__13 := Fw11.keep K13 nin0
 have Fnt__13 := Fnt__11.keep K13 nin0
 have Fbt__13 := Fbt__11.keep K13 nin0
 have Flt__13 := Flt__11.keep K13 nin0
 have Abt__13 := Abt__11.keep K13 nin0
 have Eu__13 := Eu__11.keep K13
 have Fsu__13 := Fsu__11.keep K13 nin0
 have Ffu__13 := Ffu__11.keep K13 nin0
 have Fnu__13 := Fnu__11.keep K13 nin0
 have Fbu__13 := Fbu__11.keep K13 nin0
 have Flu__13 := Flu__11.keep K13 nin0
 have Afu__13 := Afu__11.keep K13 nin0
 have Agu__13 := Agu__11.keep K13 nin0
 have Abu__13 := Abu__11.keep K13 nin0
 have A10__13 := A10__11.keep K13 nin0
 have KP13 := KP11.trans K13 all0
 have sz13 := c9 sz11 K13.1
 obtain ⟨T14, h14, X14, e14, W14, st14⟩ := putF X13 f Y O (host := "") (Or.inl (m6 w)) Via.refl rfl Fnt__13 Et__13 (Or.inl (x5 w)) (o0 w) (ty := (.array .int)) (by decide) rfl rfl (g := (mkF m 66 L_3 [.ref d13, .ref oa])) rfl rfl (hb d ay7)
 have Fw14 := Fnt__13.same W14
 have Et__14 := Et__13.wr W14
 have Fst__14 := Fst__13.other W14 (Or.inr (U6 w))
 have Fw11__14 := Fw11__13.other W14 (Or.inr (U7 w))
 have Fbt__14 := Fbt__13.other W14 (Or.inr (U8 w))
 have Flt__14 := Flt__13.other W14 (Or.inr (U9 w))
 have Abt__14 := Abt__13.other W14 (Ne.symm ne_otb)
 have Eu__14 := Eu__13.wr W14
 have Fsu__14 := Fsu__13.other W14 (Or.inl (i9 dj 0 0 rfl rfl))
 have Ffu__14 := Ffu__13.other W14 (Or.inl (i9 dj 0 0 rfl rfl))
 have Fnu__14 := Fnu__13.other W14 (Or.inl (i9 dj 0 0 rfl rfl))
 have Fbu__14 := Fbu__13.other W14 (Or.inl (i9 dj 0 0 rfl rfl))
 have Flu__14 := Flu__13.other W14 (Or.inl (i9 dj 0 0 rfl rfl))
 have Afu__14 := Afu__13.other W14 (i9 dj 1 0 rfl rfl)
 have Agu__14 := Agu__13.other W14 (i9 dj 2 0 rfl rfl)
 have Abu__14 := Abu__13.other W14 (i9 dj 3 0 rfl rfl)
 have A10__14 := A10__13.other W14 (Ne.symm ne_oa_d10)
 have A13__14 := A13.other W14 (Ne.symm ne_oa_d13)
 have N14 := Fr.snoc X14 N13 g_oa
 have KP14 := KP13.wr W14 (Or.inl (List.mem_of_getElem? (i := 0) rfl))
 have sz14 := c9 sz13 (Keep.of_wr W14).1
 refine c8 st14 ?_
 show c5 p e U m T14 69 L_3 []
 refine c6 X14 f d ah4 rfl rfl ?_
 refine d3 X14 f d Y e14 O (m6 w) Fw14 ah5 (fun T15 X15 e15 => ?_)
 refine c6 X15 f d ah6 rfl rfl ?_
 refine d3 X15 f d Y e15 O (i6 w) Fst__14 ah7 (fun T16 X16 e16 => ?_)
 refine n3 X16 f d Y e16 A13__14 ⟨by decide, by decide⟩ rfl ah8 ?_
 refine c6 X16 f d ah9 rfl rfl ?_
 refine d3 X16 f d Y e16 O (m6 w) Fnu__14 ai0 (fun T18 X18 e18 => ?_)
 refine c6 X18 f d ai1 rfl rfl ?_
 refine d3 X18 f d Y e18 O (i6 w) Fsu__14 ai2 (fun T19 X19 e19 => ?_)
 refine n3 X19 f d Y e19 Agu__14 ⟨by decide, by decide⟩ rfl ai3 ?_
 refine n7 X19 f d ai4 ?_
 show c5 p e U m T19 88 L_3 [(.int ((0 : Int32) + q2))]
 rw [Int32.zero_add]
 show c5 p e U m T19 88 L_3 [.int q2]
 let L_4 : Array Slot := #[oR oa,oR ob,oI 2,oI q2,oU]
 refine p8 X19 f d ai5 (l' := L_4) rfl ?_
 refine f4 X19 f d ai6 rfl ?_
 refine c6 X19 f d ai7 rfl rfl ?_
 refine d3 X19 f d Y e19 O (o8 w) Fbt__14 ai8 (fun T21 X21 e21 => ?_)
 refine m7 X21 f d Y e21 Abt__14 ai9 ?_
 refine m4 X21 f d aj0 (tlt (as9 tq.1 (c9 (j6 rfl) tq.2.1) : (0 : Int32) < q2)).2.2.2 ?_
 refine c6 X21 f d bD3 rfl rfl ?_
 refine c6 X21 f d bD4 rfl rfl ?_
 refine d3 X21 f d Y e21 O (o8 w) Fbt__14 bd5 (fun T23 X23 e23 => ?_)
 refine f4 X23 f d bd6 rfl ?_
 refine c6 X23 f d bd7 rfl rfl ?_
 refine d3 X23 f d Y e23 O (o8 w) Fbt__14 bd8 (fun T24 X24 e24 => ?_)
 refine m7 X24 f d Y e24 Abt__14 bd9 ?_
 refine f6 X24 f d be0 (z := (2 : Int32)) rfl ?_
 refine P3 X24 f d be1 ?_
 obtain ⟨_, T26, Lc26, X26, hQ26, st26⟩ := j8 X24 f d r Y e24 O (D1 w) (D6 w) (s6 w) (D9 w) (Q2 l Z a0 w [] q2 (0 : Int32) h14 n0 sz14 (G3 tq.1)) L_4 be2 [.int q2, .int 0] [.ref tb, .ref oa] 2 0 0 (lenOf s9 rfl)
 obtain ⟨rfl, Nq26, e26⟩ := hQ26
 have N26 := Fr.app N14 Nq26
 refine c8 st26 ?_
 obtain ⟨_, T27, Lc27, X27, hQ27, st27⟩ := j8 X26 f d r Y e26 O (at1 w) (at2 w) (t6 w) (at3 w) (bo8 l Z a0 w [] tb ktb q2 h14 n0 sz14 Abt__14 (as9 tq.1 (c9 (j6 rfl) tq.2.1)) (by rw [hyn]; exact c9 hy4 (by decide))) L_4 be3 [.ref tb, .int q2] [.ref oa] 1 1 8 (lenOf aA1 rfl)
 obtain ⟨d27, kd27, rfl, Nq27, K27, ge27, A27, Ey27⟩ := hQ27
 have N27 := Fr.app N26 Nq27
 refine c8 st27 ?_
 have g_d27 : n0 ≤ d27 := c9 sz14 ge27
 have sz_d27 : h0.size ≤ d27 := c9 KP14.1 ge27
 have ne_oa_d27 : oa ≠ d27 := Nat.ne_of_lt (j3 Et__14.lt ge27)
 have ne_ob_d27 : ob ≠ d27 := Nat.ne_of_lt (j3 Eu__14.lt ge27)
 have ne_un_d27 : un ≠ d27 := Nat.ne_of_lt (j3 Agu__14.lt ge27)
 have ne_d10_d27 : d10 ≠ d27 := Nat.ne_of_lt (j3 A10__14.lt ge27)
 have ne_d13_d27 : d13 ≠ d27 := Nat.ne_of_lt (j3 A13__14.lt ge27)
 have Et__27 := Et__14.keep K27
 have Fst__27 := Fst__14.keep K27 nin0
 have Fw11__27 := Fw11__14.keep K27 nin0
 have Fw14__27 := Fw14.keep K27 nin0
 have Fbt__27 := Fbt__14.keep K27 nin0
 have Flt__27 := Flt__14.keep K27 nin0
 have Fsu__27 := Fsu__14.keep K27 nin0
 have Ffu__27 := Ffu__14.keep K27 nin0
 have Fnu__27 := Fnu__14.keep K27 nin0
 have Fbu__27 := Fbu__14.keep K27 nin0
 have Flu__27 := Flu__14.keep K27 nin0
 have Afu__27 := Afu__14.keep K27 nin0
 have Agu__27 := Agu__14.keep K27 nin0
 have Abu__27 := Abu__14.keep K27 nin0
 have A10__27 := A10__14.keep K27 nin0
 have A13__27 := A13__14.keep K27 nin0
 have KP27 := KP14.trans K27 all0
 obtain ⟨T28, h28, X28, e28, W28, st28⟩ := putF X27 f Y O (host := "") (Or.inl (o8 w)) Via.refl rfl Fbt__27 Et__27 (Or.inl (B2 w)) (o0 w) (ty := (.array .byte)) (by decide) rfl rfl (g := (mkF m 117 L_4 [.ref d27, .ref oa])) rfl rfl (hb d be4)
 have Fw28 := Fbt__27.same W28
 have Et__28 := Et__27.wr W28
 have Fst__28 := Fst__27.other W28 (Or.inr (an3 w))
 have Fw11__28 := Fw11__27.other W28 (Or.inr (an4 w))
 have Fw14__28 := Fw14__27.other W28 (Or.inr (an5 w))
 have Flt__28 := Flt__27.other W28 (Or.inr (an6 w))
 have Fsu__28 := Fsu__27.other W28 (Or.inl (i9 dj 0 0 rfl rfl))
 have Ffu__28 := Ffu__27.other W28 (Or.inl (i9 dj 0 0 rfl rfl))
 have Fnu__28 := Fnu__27.other W28 (Or.inl (i9 dj 0 0 rfl rfl))
 have Fbu__28 := Fbu__27.other W28 (Or.inl (i9 dj 0 0 rfl rfl))
 have Flu__28 := Flu__27.other W28 (Or.inl (i9 dj 0 0 rfl rfl))
 have Afu__28 := Afu__27.other W28 (i9 dj 1 0 rfl rfl)
 have Agu__28 := Agu__27.other W28 (i9 dj 2 0 rfl rfl)
 have Abu__28 := Abu__27.other W28 (i9 dj 3 0 rfl rfl)
 have A10__28 := A10__27.other W28 (Ne.symm ne_oa_d10)
 have A13__28 := A13__27.other W28 (Ne.symm ne_oa_d13)
 have A27__28 := A27.other W28 (Ne.symm ne_oa_d27)
 have Ey27__28 := Ey27.wr W28
 have N28 := Fr.snoc X28 N27 g_oa
 have KP28 := KP27.wr W28 (Or.inl (List.mem_of_getElem? (i := 0) rfl))
 refine c8 st28 ?_
 show c5 p e U m T28 120 L_4 []
 refine c6 X28 f d ab0 rfl rfl ?_
 refine d3 X28 f d Y e28 O (o9 w) Ffu__28 ab1 (fun T29 X29 e29 => ?_)
 refine f6 X29 f d ab2 (z := (0 : Int32)) rfl ?_
 refine c6 X29 f d ab3 rfl rfl ?_
 refine d3 X29 f d Y e29 O (o9 w) Fw11__28 ab4 (fun T30 X30 e30 => ?_)
 refine c6 X30 f d ab5 rfl rfl ?_
 refine d3 X30 f d Y e30 O (i6 w) Fst__28 ab6 (fun T31 X31 e31 => ?_)
 refine c6 X31 f d ab7 rfl rfl ?_
 refine d3 X31 f d Y e31 O (i6 w) Fsu__28 ab8 (fun T32 X32 e32 => ?_)
 obtain ⟨T33, h33, L33, X33, e33, N33, K33, A33, st33⟩ := cpA X32 f Y O (G4 w) (v4 w) (v2 w) (v3 w) e32 Afu__28 (Arv.pad A10__28 (pad_rep [] (.long (0 : Int64)) 2)) (us := [.long g0, .long g1]) (Or.inl ⟨rfl, rfl⟩) (by decide) (by decide) (by decide) (by decide) (by decide) rfl (by exact j6 rfl) N28 g_d10 (g := (mkF m 137 L_4 [.int 2, .int 0, .ref d10, .int 0, .ref uf])) rfl (by rw [r]; rfl) rfl (hb d ab9) (by decide) (W := 0) (by show 2 * 0 + _ ≤ _; exact f7 rfl) (by decide)
 have Et__33 := Et__28.keep K33
 have Fst__33 := Fst__28.keep K33 (ninS ne_oa_d10 nin0)
 have Fw11__33 := Fw11__28.keep K33 (ninS ne_oa_d10 nin0)
 have Fw14__33 := Fw14__28.keep K33 (ninS ne_oa_d10 nin0)
 have Fw28__33 := Fw28.keep K33 (ninS ne_oa_d10 nin0)
 have Flt__33 := Flt__28.keep K33 (ninS ne_oa_d10 nin0)
 have Fsu__33 := Fsu__28.keep K33 (ninS ne_ob_d10 nin0)
 have Fnu__33 := Fnu__28.keep K33 (ninS ne_ob_d10 nin0)
 have Fbu__33 := Fbu__28.keep K33 (ninS ne_ob_d10 nin0)
 have Flu__33 := Flu__28.keep K33 (ninS ne_ob_d10 nin0)
 have Agu__33 := Agu__28.keep K33 (ninS ne_un_d10 nin0)
 have Abu__33 := Abu__28.keep K33 (ninS ne_ub_d10 nin0)
 have A13__33 := A13__28.keep K33 (ninS (Ne.symm ne_d10_d13) nin0)
 have A27__33 := A27__28.keep K33 (ninS (Ne.symm ne_d10_d27) nin0)
 have Ey27__33 := Ey27__28.keep K33
 have KP33 := KP28.trans K33 (allS (Or.inr sz_d10) all0)
 refine c8 st33 ?_
 show c5 p e U m T33 140 L_4 []
 refine c6 X33 f d ac0 rfl rfl ?_
 refine d3 X33 f d Y e33 O (o8 w) Fbu__33 ac1 (fun T34 X34 e34 => ?_)
 refine f6 X34 f d ac2 (z := (0 : Int32)) rfl ?_
 refine c6 X34 f d ac3 rfl rfl ?_
 refine d3 X34 f d Y e34 O (o8 w) Fw28__33 ac4 (fun T35 X35 e35 => ?_)
 refine c6 X35 f d ac5 rfl rfl ?_
 refine d3 X35 f d Y e35 O (m6 w) Fw14__33 ac6 (fun T36 X36 e36 => ?_)
 refine c6 X36 f d ac7 rfl rfl ?_
 refine d3 X36 f d Y e36 O (i6 w) Fst__33 ac8 (fun T37 X37 e37 => ?_)
 refine n3 X37 f d Y e37 A13__33 ⟨by decide, by decide⟩ rfl ac9 ?_
 refine c6 X37 f d ad0 rfl rfl ?_
 refine d3 X37 f d Y e37 O (m6 w) Fnu__33 ad1 (fun T39 X39 e39 => ?_)
 refine c6 X39 f d ad2 rfl rfl ?_
 refine d3 X39 f d Y e39 O (i6 w) Fsu__33 ad3 (fun T40 X40 e40 => ?_)
 refine n3 X40 f d Y e40 Agu__33 ⟨by decide, by decide⟩ rfl ad4 ?_
 obtain ⟨T42, h42, L42, X42, e42, N42, K42, A42, st42⟩ := cpA X40 f Y O (G4 w) (v4 w) (v2 w) (v3 w) e40 Abu__33 (Arv.pad A27__33 (pad_rep ([] : List Value) (.int 0) 4)) (us := (m9 [y0, y1].flatten)) (Or.inl ⟨rfl, rfl⟩) (by decide) (by decide) (G3 tq.1) (by rw [hyn]; exact c9 (f7 (Nat.zero_add _)) (c9 hy4 (by decide))) (f7 (Nat.zero_add _)) (by rw [hyn]; exact ae6 _ _) (by rw [hyn]; exact c9 (f7 (Nat.zero_add _)) hy4) N33 g_d27 (g := (mkF m 167 L_4 [.int q2, .int 0, .ref d27, .int 0, .ref ub])) rfl (by rw [r]; rfl) rfl (hb d ad5) (by decide) (W := 0) (by show 2 * 0 + _ ≤ _; exact f7 rfl) (by decide)
 have Ac42 := Arv.pad A42 (Z4 ([] : List Value) (m9 [y0, y1].flatten) (.int 0) rfl hyn)
 have Et__42 := Et__33.keep K42
 have Fst__42 := Fst__33.keep K42 (ninS ne_oa_d27 nin0)
 have Fw11__42 := Fw11__33.keep K42 (ninS ne_oa_d27 nin0)
 have Fw14__42 := Fw14__33.keep K42 (ninS ne_oa_d27 nin0)
 have Fw28__42 := Fw28__33.keep K42 (ninS ne_oa_d27 nin0)
 have Flt__42 := Flt__33.keep K42 (ninS ne_oa_d27 nin0)
 have Fsu__42 := Fsu__33.keep K42 (ninS ne_ob_d27 nin0)
 have Fnu__42 := Fnu__33.keep K42 (ninS ne_ob_d27 nin0)
 have Flu__42 := Flu__33.keep K42 (ninS ne_ob_d27 nin0)
 have Agu__42 := Agu__33.keep K42 (ninS ne_un_d27 nin0)
 have A13__42 := A13__33.keep K42 (ninS ne_d13_d27 nin0)
 have Ey27__42 := Ey27__33.keep K42
 have A33__42 := A33.keep K42 (ninS ne_d10_d27 nin0)
 have KP42 := KP33.trans K42 (allS (Or.inr sz_d27) all0)
 refine c8 st42 ?_
 show c5 p e U m T42 170 L_4 []
 refine f6 X42 f d ad6 (z := (1 : Int32)) rfl ?_
 let L_5 : Array Slot := #[oR oa,oR ob,oI 2,oI q2,oI 1]
 refine o4 X42 f d ad7 (l' := L_5) rfl ?_
 refine f5 X42 f d C6 rfl ?_
 refine c6 X42 f d C7 rfl rfl ?_
 refine d3 X42 f d Y e42 O (i6 w) Fsu__42 C8 (fun T43 X43 e43 => ?_)
 refine m4 X43 f d C9 (flt (by decide : ¬ ((2 : Int32) < (1 : Int32)))).2.2.1 ?_
 refine c6 X43 f d M4 rfl rfl ?_
 refine d3 X43 f d Y e43 O (m6 w) Fw14__42 M5 (fun T44 X44 e44 => ?_)
 refine c6 X44 f d M6 rfl rfl ?_
 refine d3 X44 f d Y e44 O (i6 w) Fst__42 M7 (fun T45 X45 e45 => ?_)
 refine f5 X45 f d M8 rfl ?_
 refine n7 X45 f d M9 ?_
 show c5 p e U m T45 193 L_5 [.int 1, .ref d13]
 refine c6 X45 f d O0 rfl rfl ?_
 refine d3 X45 f d Y e45 O (m6 w) Fw14__42 O1 (fun T46 X46 e46 => ?_)
 refine c6 X46 f d O2 rfl rfl ?_
 refine d3 X46 f d Y e46 O (i6 w) Fst__42 O3 (fun T47 X47 e47 => ?_)
 refine n3 X47 f d Y e47 A13__42 ⟨by decide, by decide⟩ rfl O4 ?_
 refine c6 X47 f d O5 rfl rfl ?_
 refine d3 X47 f d Y e47 O (m6 w) Fnu__42 O6 (fun T49 X49 e49 => ?_)
 refine f5 X49 f d O7 rfl ?_
 refine n3 X49 f d Y e49 Agu__42 ⟨by decide, by decide⟩ rfl O8 ?_
 refine n7 X49 f d O9 ?_
 show c5 p e U m T49 210 L_5 [(.int ((0 : Int32) + q1)), .int 1, .ref d13]
 obtain ⟨cl51, Ar51, qa51, Sa51, Na51, Ha51, Ga51⟩ := id A13__42
 have hin51 : ¬ ((1 : Int32) < 0 ∨ cl51.slots.size ≤ ((1 : Int32)).toNatClampNeg) := inb_of Sa51 ⟨by decide, by decide⟩
 obtain ⟨T51, h51, X51, e51, W51, st51⟩ := stI X49 f Y e49 Ar51 (j := (1 : Int32)) hin51 (g := (mkF m 210 L_5 [(.int ((0 : Int32) + q1)), .int 1, .ref d13])) rfl rfl (hb d P0)
 have Vw51 := u0 Ar51 qa51 Sa51 Na51 Ha51 Ga51 rfl W51 rfl
 replace Vw51 : Arv Z h51 d13 kd13 .int 17 [.int 0, (.int ((0 : Int32) + q1))] (.int 0) := Vw51
 have Et__51 := Et__42.wr W51
 have Fst__51 := Fst__42.other W51 (Or.inl ne_oa_d13)
 have Fw11__51 := Fw11__42.other W51 (Or.inl ne_oa_d13)
 have Fw14__51 := Fw14__42.other W51 (Or.inl ne_oa_d13)
 have Fw28__51 := Fw28__42.other W51 (Or.inl ne_oa_d13)
 have Flt__51 := Flt__42.other W51 (Or.inl ne_oa_d13)
 have Fsu__51 := Fsu__42.other W51 (Or.inl ne_ob_d13)
 have Fnu__51 := Fnu__42.other W51 (Or.inl ne_ob_d13)
 have Flu__51 := Flu__42.other W51 (Or.inl ne_ob_d13)
 have Agu__51 := Agu__42.other W51 ne_un_d13
 have Ey27__51 := Ey27__42.wr W51
 have A33__51 := A33__42.other W51 ne_d10_d13
 have Ac42__51 := Ac42.other W51 (Ne.symm ne_d13_d27)
 have N51 := Fr.snoc X51 N42 g_d13
 have KP51 := KP42.wr W51 (Or.inr sz_d13)
 refine c8 st51 ?_
 show c5 p e U m T51 211 L_5 []
 let L_6 : Array Slot := #[oR oa,oR ob,oI 2,oI q2,oI 2]
 refine c8 (fun t k => XS.iinc X51.here f rfl (hb d P1) rfl (l' := L_6) rfl k) ?_
 show c5 p e U m T51 214 L_6 []
 refine m5 (pc := 214) (pc' := 173) X51 f d P2 ?_
 refine f5 X51 f d C6 rfl ?_
 refine c6 X51 f d C7 rfl rfl ?_
 refine d3 X51 f d Y e51 O (i6 w) Fsu__51 C8 (fun T52 X52 e52 => ?_)
 refine m4 X52 f d C9 (flt (by decide : ¬ ((2 : Int32) < (2 : Int32)))).2.2.1 ?_
 refine c6 X52 f d M4 rfl rfl ?_
 refine d3 X52 f d Y e52 O (m6 w) Fw14__51 M5 (fun T53 X53 e53 => ?_)
 refine c6 X53 f d M6 rfl rfl ?_
 refine d3 X53 f d Y e53 O (i6 w) Fst__51 M7 (fun T54 X54 e54 => ?_)
 refine f5 X54 f d M8 rfl ?_
 refine n7 X54 f d M9 ?_
 show c5 p e U m T54 193 L_6 [.int 2, .ref d13]
 refine c6 X54 f d O0 rfl rfl ?_
 refine d3 X54 f d Y e54 O (m6 w) Fw14__51 O1 (fun T55 X55 e55 => ?_)
 refine c6 X55 f d O2 rfl rfl ?_
 refine d3 X55 f d Y e55 O (i6 w) Fst__51 O3 (fun T56 X56 e56 => ?_)
 refine n3 X56 f d Y e56 Vw51 ⟨by decide, by decide⟩ rfl O4 ?_
 refine c6 X56 f d O5 rfl rfl ?_
 refine d3 X56 f d Y e56 O (m6 w) Fnu__51 O6 (fun T58 X58 e58 => ?_)
 refine f5 X58 f d O7 rfl ?_
 refine n3 X58 f d Y e58 Agu__51 ⟨by decide, by decide⟩ rfl O8 ?_
 refine n7 X58 f d O9 ?_
 show c5 p e U m T58 210 L_6 [(.int ((0 : Int32) + q2)), .int 2, .ref d13]
 obtain ⟨cl60, Ar60, qa60, Sa60, Na60, Ha60, Ga60⟩ := id Vw51
 have hin60 : ¬ ((2 : Int32) < 0 ∨ cl60.slots.size ≤ ((2 : Int32)).toNatClampNeg) := inb_of Sa60 ⟨by decide, by decide⟩
 obtain ⟨T60, h60, X60, e60, W60, st60⟩ := stI X58 f Y e58 Ar60 (j := (2 : Int32)) hin60 (g := (mkF m 210 L_6 [(.int ((0 : Int32) + q2)), .int 2, .ref d13])) rfl rfl (hb d P0)
 have Vw60 := u0 Ar60 qa60 Sa60 Na60 Ha60 Ga60 rfl W60 rfl
 replace Vw60 : Arv Z h60 d13 kd13 .int 17 [.int 0, (.int ((0 : Int32) + q1)), (.int ((0 : Int32) + q2))] (.int 0) := Vw60
 have Et__60 := Et__51.wr W60
 have Fst__60 := Fst__51.other W60 (Or.inl ne_oa_d13)
 have Fw11__60 := Fw11__51.other W60 (Or.inl ne_oa_d13)
 have Fw14__60 := Fw14__51.other W60 (Or.inl ne_oa_d13)
 have Fw28__60 := Fw28__51.other W60 (Or.inl ne_oa_d13)
 have Flt__60 := Flt__51.other W60 (Or.inl ne_oa_d13)
 have Fsu__60 := Fsu__51.other W60 (Or.inl ne_ob_d13)
 have Flu__60 := Flu__51.other W60 (Or.inl ne_ob_d13)
 have Ey27__60 := Ey27__51.wr W60
 have A33__60 := A33__51.other W60 ne_d10_d13
 have Ac42__60 := Ac42__51.other W60 (Ne.symm ne_d13_d27)
 have N60 := Fr.snoc X60 N51 g_d13
 have KP60 := KP51.wr W60 (Or.inr sz_d13)
 refine c8 st60 ?_
 show c5 p e U m T60 211 L_6 []
 let L_7 : Array Slot := #[oR oa,oR ob,oI 2,oI q2,oI 3]
 refine c8 (fun t k => XS.iinc X60.here f rfl (hb d P1) rfl (l' := L_7) rfl k) ?_
 show c5 p e U m T60 214 L_7 []
 refine m5 (pc := 214) (pc' := 173) X60 f d P2 ?_
 refine f5 X60 f d C6 rfl ?_
 refine c6 X60 f d C7 rfl rfl ?_
 refine d3 X60 f d Y e60 O (i6 w) Fsu__60 C8 (fun T61 X61 e61 => ?_)
 refine j5 (pc := 179) (pc' := 217) X61 f d C9 (tlt (by decide : (2 : Int32) < (3 : Int32))).2.2.1 ?_
 refine c6 X61 f d ad8 rfl rfl ?_
 refine f4 X61 f d ad9 rfl ?_
 obtain ⟨T62, h62, X62, e62, W62, st62⟩ := putF X61 f Y O (host := "") (Or.inl (i6 w)) Via.refl e61 Fst__60 Et__60 (Or.inl (w5 w)) (o0 w) (ty := .int) (by decide) rfl rfl (g := (mkF m 219 L_7 [.int 2, .ref oa])) rfl rfl (hb d ae0)
 have Fw62 := Fst__60.same W62
 have Et__62 := Et__60.wr W62
 have Fw11__62 := Fw11__60.other W62 (Or.inr (J4 w))
 have Fw14__62 := Fw14__60.other W62 (Or.inr (J5 w))
 have Fw28__62 := Fw28__60.other W62 (Or.inr (J6 w))
 have Flt__62 := Flt__60.other W62 (Or.inr (J7 w))
 have Flu__62 := Flu__60.other W62 (Or.inl (i9 dj 0 0 rfl rfl))
 have Vw60__62 := Vw60.other W62 (Ne.symm ne_oa_d13)
 have Ey27__62 := Ey27__60.wr W62
 have A33__62 := A33__60.other W62 (Ne.symm ne_oa_d10)
 have Ac42__62 := Ac42__60.other W62 (Ne.symm ne_oa_d27)
 have N62 := Fr.snoc X62 N60 g_oa
 have KP62 := KP60.wr W62 (Or.inl (List.mem_of_getElem? (i := 0) rfl))
 refine c8 st62 ?_
 show c5 p e U m T62 222 L_7 []
 refine c6 X62 f d ae1 rfl rfl ?_
 refine c6 X62 f d ae2 rfl rfl ?_
 refine d3 X62 f d Y e62 O (B3 w) Flu__62 ae3 (fun T63 X63 e63 => ?_)
 obtain ⟨T64, h64, X64, e64, W64, st64⟩ := putF X63 f Y O (host := "") (Or.inl (B3 w)) Via.refl e63 Flt__62 Et__62 (Or.inl (w6 w)) (o0 w) (ty := (.object "java/math/BigInteger")) (by decide) rfl rfl (g := (mkF m 227 L_7 [.ref lcb, .ref oa])) rfl rfl (hb d ae4)
 have Fw64 := Flt__62.same W64
 have Et__64 := Et__62.wr W64
 have Fw62__64 := Fw62.other W64 (Or.inr (J8 w))
 have Fw11__64 := Fw11__62.other W64 (Or.inr (J9 w))
 have Fw14__64 := Fw14__62.other W64 (Or.inr (K0 w))
 have Fw28__64 := Fw28__62.other W64 (Or.inr (L0 w))
 have Vw60__64 := Vw60__62.other W64 (Ne.symm ne_oa_d13)
 have Ey27__64 := Ey27__62.wr W64
 have A33__64 := A33__62.other W64 (Ne.symm ne_oa_d10)
 have Ac42__64 := Ac42__62.other W64 (Ne.symm ne_oa_d27)
 have N64 := Fr.snoc X64 N62 g_oa
 have KP64 := KP62.wr W64 (Or.inl (List.mem_of_getElem? (i := 0) rfl))
 refine c8 st64 ?_
 show c5 p e U m T64 230 L_7 []
 exact q0 X64 f R (hb d ae5) (by rw [e64]; exact ⟨rfl, N64, KP64, [oa, d10, d13, d27], q2, ⟨_, _, _, _, _, _, rfl, ⟨Et__64, Fw62__64, Fw11__64, Fw14__64, Fw28__64, Fw64⟩, A33__64, (by have q := Vw60__64; rw [hq2, aD3, hq1, ae7] at q; exact q), (by have q := Ac42__64; simpa [m9] using q), Ey27__64⟩, (by have q := hyn; simp [m9] at q ⊢; omega)⟩) (by decide) (by decide)
def ce1 (Z : State) (oa : Addr) (x0 : List Int32) (f0 : Int64) (y0 : List Int32) (g0 : Int64) (Wa : List Addr) (lcb : Addr) (h0 : Heap) (n0 : Nat) (v : Option Value) (h : Heap) (L : List Loc) : Prop := v = none ∧ Fr n0 L ∧ Keep h0 h Wa ∧ ∃ (W' : List Addr) (cb : Int32), own_L Z h oa [x0, y0] [f0, g0] W' (.ref lcb) 16 17 cb ∧ [x0, y0].flatten.length ≤ cb.toNatClampNeg
theorem cH0 (l : Launch) (Z : State) (a0 : Array Value) (w : j9 Z a0) (ws : List Jvm.Cond) (x0 : List Int32) (f0 : Int64) (y0 : List Int32) (g0 : Int64) (oa ob : Addr) (Wa Wb : List Addr) (lca : Value) (lcb : Addr) (h0 : Heap) (n0 : Nat) (Z0 : n0 ≤ h0.size) (La : own_L Z h0 oa [x0] [f0] Wa lca 1 2 64) (Lb : own_L Z h0 ob [y0] [g0] Wb (.ref lcb) 1 2 64) (gW : ∀ y ∈ Wa, n0 ≤ y) (dj : ∀ y ∈ Wb, y ∉ Wa) (r_lca : lca.isRef = true) (hx0 : 1 ≤ x0.length ∧ x0.length ≤ 2) (hy0 : 1 ≤ y0.length ∧ y0.length ≤ 2) :
 l0 l Z h0 Y3 f8 5 none ws (Jvm.Room.mk 2 3 41 56) #[.ref oa, .ref ob] (ce1 Z oa x0 f0 y0 g0 Wa lcb h0 n0) := by
 refine l7 (Ls := #[.val (.ref oa), .val (.ref ob), .unset, .unset, .unset]) (plainFor_of_name E0) (fun p e s m U meth c s₁ Y hh f d r O hnm hlk R X0 e0 => ?_)
 replace O : s.vm.findClass "com/example/prizewell/prizewell/core/TicketRanges" = some m.cls := O
 have N0 := Fr.nil n0
 obtain ⟨tf, tn, tb, ktf, ktn, ktb, rfl, ⟨Et, Fst, Fft, Fnt, Fbt, Flt⟩, Aft, Agt, Abt, Ebt⟩ := id La
 replace Fst : Fld Z h0 oa "com/example/prizewell/prizewell/core/TicketRanges" "size" "I" (.int 1) := Fst
 obtain ⟨uf, un, ub, kuf, kun, kub, rfl, ⟨Eu, Fsu, Ffu, Fnu, Fbu, Flu⟩, Afu, Agu, Abu, Ebu⟩ := id Lb
 replace Fsu : Fld Z h0 ob "com/example/prizewell/prizewell/core/TicketRanges" "size" "I" (.int 1) := Fsu
 obtain ⟨p1, hp1⟩ : ∃ z, z = 0 + p6 x0 := ⟨_, rfl⟩
 replace Agt : Arv Z h0 tn ktn .int 2 [.int 0, .int p1] (.int 0) := by rw [hp1]; exact Agt
 obtain ⟨q1, hq1⟩ : ∃ z, z = 0 + p6 y0 := ⟨_, rfl⟩
 replace Agu : Arv Z h0 un kun .int 2 [.int 0, .int q1] (.int 0) := by rw [hq1]; exact Agu
 have tq := G9 (css := [y0]) hq1 (Y9 hy0) (j6 rfl)
 have tp := G9 (css := [x0]) hp1 (Y9 hx0) (j6 rfl)
 have hyn : q1.toNatClampNeg = (m9 [y0].flatten).length := by rw [x2]; exact H2 tq.1
 have hy4 : (m9 [y0].flatten).length ≤ 4 := by rw [x2]; exact tq.2.2
 have hxn : p1.toNatClampNeg = (m9 [x0].flatten).length := by rw [x2]; exact H2 tp.1
 have hx4 : (m9 [x0].flatten).length ≤ 4 := by rw [x2]; exact tp.2.2
 have g_oa := gW _ (List.mem_of_getElem? (i := 0) rfl)
 have g_tb := gW _ (List.mem_of_getElem? (i := 3) rfl)
 have ne_otn := Exa.neArv Et Agt (o0 w)
 have ne_otb := Exa.neArv Et Abt (o0 w)
 let L_1 : Array Slot := #[oR oa,oR ob,oU,oU,oU]
 show c5 p e U m s₁ 0 L_1 []
 refine c6 X0 f d V0 rfl rfl ?_
 refine d3 X0 f d Y e0 O (i6 w) Fsu V8 (fun T1 X1 e1 => ?_)
 refine o2 (pc := 4) (pc' := 8) X1 f d W0 ((if0 _ _).trans (feq (by decide : ¬ ((1 : Int32) = (0 : Int32)))).2) ?_
 refine c6 X1 f d ak6 rfl rfl ?_
 refine d3 X1 f d Y e1 O (i6 w) Fst ak7 (fun T2 X2 e2 => ?_)
 refine c6 X2 f d ag5 rfl rfl ?_
 refine d3 X2 f d Y e2 O (i6 w) Fsu ag6 (fun T3 X3 e3 => ?_)
 refine n7 X3 f d ag7 ?_
 show c5 p e U m T3 17 L_1 [.int 2]
 let L_2 : Array Slot := #[oR oa,oR ob,oI 2,oU,oU]
 refine p8 X3 f d ag8 (l' := L_2) rfl ?_
 refine f4 X3 f d ag9 rfl ?_
 refine c6 X3 f d ah0 rfl rfl ?_
 refine d3 X3 f d Y e3 O (o9 w) Fft ah1 (fun T4 X4 e4 => ?_)
 refine m7 X4 f d Y e4 Aft ah2 ?_
 refine m4 X4 f d ah3 (tlt (by decide : (1 : Int32) < (2 : Int32))).2.2.2 ?_
 refine f4 X4 f d aw5 rfl ?_
 refine t9 X4 f d aw6 (z := (16 : Int32)) rfl ?_
 refine c6 X4 f d aw7 rfl rfl ?_
 refine d3 X4 f d Y e4 O (i6 w) Fst aw8 (fun T6 X6 e6 => ?_)
 refine f6 X6 f d aw9 (z := (2 : Int32)) rfl ?_
 refine P3 X6 f d ax0 ?_
 obtain ⟨_, T7, Lc7, X7, hQ7, st7⟩ := j8 X6 f d r Y e6 O (D1 w) (D6 w) (s6 w) (D9 w) (Q2 l Z a0 w [] (16 : Int32) (2 : Int32) h0 n0 Z0 (by decide)) L_2 ax1 [.int 16, .int 2] [.int 2] 1 0 0 (lenOf s9 rfl)
 obtain ⟨rfl, Nq7, e7⟩ := hQ7
 have N7 := Fr.app N0 Nq7
 refine c8 st7 ?_
 obtain ⟨_, T8, Lc8, X8, hQ8, st8⟩ := j8 X7 f d r Y e7 O (D1 w) (D6 w) (s6 w) (D9 w) (ak0 l Z a0 w [] (2 : Int32) (16 : Int32) h0 n0 Z0 (by decide)) L_2 ax2 [.int 2, .int 16] [] 0 0 0 (lenOf s9 rfl)
 obtain ⟨rfl, Nq8, e8⟩ := hQ8
 have N8 := Fr.app N7 Nq8
 refine c8 st8 ?_
 show c5 p e U m T8 42 L_2 [.int 16]
 let L_3 : Array Slot := #[oR oa,oR ob,oI 2,oI 16,oU]
 refine p8 X8 f d ax3 (l' := L_3) rfl ?_
 refine c6 X8 f d ax4 rfl rfl ?_
 refine c6 X8 f d ax5 rfl rfl ?_
 refine d3 X8 f d Y e8 O (o9 w) Fft ax6 (fun T9 X9 e9 => ?_)
 refine f4 X9 f d ax7 rfl ?_
 obtain ⟨_, T10, Lc10, X10, hQ10, st10⟩ := j8 X9 f d r Y e9 O (af0 w) (af1 w) (t6 w) (af2 w) (aC0 l Z a0 w [] tf ktf f0 h0 n0 Z0 Aft) L_3 ax8 [.ref tf, .int 16] [.ref oa] 1 1 16 (lenOf ak3 rfl)
 obtain ⟨d10, kd10, rfl, Nq10, K10, ge10, A10⟩ := hQ10
 have N10 := Fr.app N8 Nq10
 refine c8 st10 ?_
 have g_d10 : n0 ≤ d10 := c9 Z0 ge10
 have sz_d10 : h0.size ≤ d10 := c9 (Keep.refl h0 [oa, tf, tn, tb]).1 ge10
 have ne_oa_d10 : oa ≠ d10 := Nat.ne_of_lt (j3 Et.lt ge10)
 have ne_tb_d10 : tb ≠ d10 := Nat.ne_of_lt (j3 Abt.lt ge10)
 have ne_ob_d10 : ob ≠ d10 := Nat.ne_of_lt (j3 Eu.lt ge10)
 have ne_un_d10 : un ≠ d10 := Nat.ne_of_lt (j3 Agu.lt ge10)
 have ne_ub_d10 : ub ≠ d10 := Nat.ne_of_lt (j3 Abu.lt ge10)
 have Et__10 := Et.keep K10
 have Fst__10 := Fst.keep K10 nin0
 have Fft__10 := Fft.keep K10 nin0
 have Fnt__10 := Fnt.keep K10 nin0
 have Fbt__10 := Fbt.keep K10 nin0
 have Flt__10 := Flt.keep K10 nin0
 have Agt__10 := Agt.keep K10 nin0
 have Abt__10 := Abt.keep K10 nin0
 have Ebt__10 := Ebt.keep K10
 have Eu__10 := Eu.keep K10
 have Fsu__10 := Fsu.keep K10 nin0
 have Ffu__10 := Ffu.keep K10 nin0
 have Fnu__10 := Fnu.keep K10 nin0
 have Fbu__10 := Fbu.keep K10 nin0
 have Flu__10 := Flu.keep K10 nin0
 have Afu__10 := Afu.keep K10 nin0
 have Agu__10 := Agu.keep K10 nin0
 have Abu__10 := Abu.keep K10 nin0
 have KP10 := (Keep.refl h0 [oa, tf, tn, tb]).trans K10 all0
 have sz10 := c9 Z0 K10.1
 obtain ⟨T11, h11, X11, e11, W11, st11⟩ := putF X10 f Y O (host := "") (Or.inl (o9 w)) Via.refl rfl Fft__10 Et__10 (Or.inl (x4 w)) (o0 w) (ty := (.array .long)) (by decide) rfl rfl (g := (mkF m 52 L_3 [.ref d10, .ref oa])) rfl rfl (hb d ax9)
 have Fw11 := Fft__10.same W11
 have Et__11 := Et__10.wr W11
 have Fst__11 := Fst__10.other W11 (Or.inr (Y4 w))
 have Fnt__11 := Fnt__10.other W11 (Or.inr (Y5 w))
 have Fbt__11 := Fbt__10.other W11 (Or.inr (U4 w))
 have Flt__11 := Flt__10.other W11 (Or.inr (U5 w))
 have Agt__11 := Agt__10.other W11 (Ne.symm ne_otn)
 have Abt__11 := Abt__10.other W11 (Ne.symm ne_otb)
 have Ebt__11 := Ebt__10.wr W11
 have Eu__11 := Eu__10.wr W11
 have Fsu__11 := Fsu__10.other W11 (Or.inl (i9 dj 0 0 rfl rfl))
 have Ffu__11 := Ffu__10.other W11 (Or.inl (i9 dj 0 0 rfl rfl))
 have Fnu__11 := Fnu__10.other W11 (Or.inl (i9 dj 0 0 rfl rfl))
 have Fbu__11 := Fbu__10.other W11 (Or.inl (i9 dj 0 0 rfl rfl))
 have Flu__11 := Flu__10.other W11 (Or.inl (i9 dj 0 0 rfl rfl))
 have Afu__11 := Afu__10.other W11 (i9 dj 1 0 rfl rfl)
 have Agu__11 := Agu__10.other W11 (i9 dj 2 0 rfl rfl)
 have Abu__11 := Abu__10.other W11 (i9 dj 3 0 rfl rfl)
 have A10__11 := A10.other W11 (Ne.symm ne_oa_d10)
 have N11 := Fr.snoc X11 N10 g_oa
 have KP11 := KP10.wr W11 (Or.inl (List.mem_of_getElem? (i := 0) rfl))
 have sz11 := c9 sz10 (Keep.of_wr W11).1
 refine c8 st11 ?_
 show c5 p e U m T11 55 L_3 []
 refine c6 X11 f d ay0 rfl rfl ?_
 refine c6 X11 f d ay1 rfl rfl ?_
 refine d3 X11 f d Y e11 O (m6 w) Fnt__11 ay2 (fun T12 X12 e12 => ?_)
 refine f4 X12 f d ay3 rfl ?_
 refine f6 X12 f d ay4 (z := (1 : Int32)) rfl ?_
 refine n7 X12 f d ay5 ?_
 obtain ⟨_, T13, Lc13, X13, hQ13, st13⟩ := j8 X12 f d r Y e12 O (af3 w) (af4 w) (t6 w) (af5 w) (aC1 l Z a0 w [] tn ktn (0 : Int32) p1 h11 n0 sz11 Agt__11) L_3 ay6 [.ref tn, .int 17] [.ref oa] 1 1 17 (lenOf ak4 rfl)
 obtain ⟨d13, kd13, rfl, Nq13, K13, ge13, A13⟩ := hQ13
 have N13 := Fr.app N11 Nq13
 refine c8 st13 ?_
 have g_d13 : n0 ≤ d13 := c9 sz11 ge13
 have sz_d13 : h0.size ≤ d13 := c9 KP11.1 ge13
 have ne_oa_d13 : oa ≠ d13 := Nat.ne_of_lt (j3 Et__11.lt ge13)
 have ne_tb_d13 : tb ≠ d13 := Nat.ne_of_lt (j3 Abt__11.lt ge13)
 have ne_ob_d13 : ob ≠ d13 := Nat.ne_of_lt (j3 Eu__11.lt ge13)
 have ne_d10_d13 : d10 ≠ d13 := Nat.ne_of_lt (j3 A10__11.lt ge13)
 have Et__13 := Et__11.keep K13
 have Fst__13 := Fst__11.keep K13 nin0
 have Fw11__13 := Fw11.keep K13 nin0
 have Fnt__13 := Fnt__11.keep K13 nin0
 have Fbt__13 := Fbt__11.keep K13 nin0
 have Flt__13 := Flt__11.keep K13 nin0
 have Abt__13 := Abt__11.keep K13 nin0
 have Ebt__13 := Ebt__11.keep K13
 have Fsu__13 := Fsu__11.keep K13 nin0
 have Ffu__13 := Ffu__11.keep K13 nin0
 have Fnu__13 := Fnu__11.keep K13 nin0
 have Fbu__13 := Fbu__11.keep K13 nin0
 have Flu__13 := Flu__11.keep K13 nin0
 have Afu__13 := Afu__11.keep K13 nin0
 have Agu__13 := Agu__11.keep K13 nin0
 have Abu__13 := Abu__11.keep K13 nin0
 have A10__13 := A10__11.keep K13 nin0
 have KP13 := KP11.trans K13 all0
 obtain ⟨T14, h14, X14, e14, W14, st14⟩ := putF X13 f Y O (host := "") (Or.inl (m6 w)) Via.refl rfl Fnt__13 Et__13 (Or.inl (x5 w)) (o0 w) (ty := (.array .int)) (by decide) rfl rfl (g := (mkF m 66 L_3 [.ref d13, .ref oa])) rfl rfl (hb d ay7)
 have Fw14 := Fnt__13.same W14
 have Et__14 := Et__13.wr W14
 have Fst__14 := Fst__13.other W14 (Or.inr (U6 w))
 have Fw11__14 := Fw11__13.other W14 (Or.inr (U7 w))
 have Fbt__14 := Fbt__13.other W14 (Or.inr (U8 w))
 have Flt__14 := Flt__13.other W14 (Or.inr (U9 w))
 have Abt__14 := Abt__13.other W14 (Ne.symm ne_otb)
 have Ebt__14 := Ebt__13.wr W14
 have Fsu__14 := Fsu__13.other W14 (Or.inl (i9 dj 0 0 rfl rfl))
 have Ffu__14 := Ffu__13.other W14 (Or.inl (i9 dj 0 0 rfl rfl))
 have Fnu__14 := Fnu__13.other W14 (Or.inl (i9 dj 0 0 rfl rfl))
 have Fbu__14 := Fbu__13.other W14 (Or.inl (i9 dj 0 0 rfl rfl))
 have Flu__14 := Flu__13.other W14 (Or.inl (i9 dj 0 0 rfl rfl))
 have Afu__14 := Afu__13.other W14 (i9 dj 1 0 rfl rfl)
 have Agu__14 := Agu__13.other W14 (i9 dj 2 0 rfl rfl)
 have Abu__14 := Abu__13.other W14 (i9 dj 3 0 rfl rfl)
 have A10__14 := A10__13.other W14 (Ne.symm ne_oa_d10)
 have A13__14 := A13.other W14 (Ne.symm ne_oa_d13)
 have N14 := Fr.snoc X14 N13 g_oa
 have KP14 := KP13.wr W14 (Or.inl (List.mem_of_getElem? (i := 0) rfl))
 refine c8 st14 ?_
 show c5 p e U m T14 69 L_3 []
 refine c6 X14 f d ah4 rfl rfl ?_
 refine d3 X14 f d Y e14 O (m6 w) Fw14 ah5 (fun T15 X15 e15 => ?_)
 refine c6 X15 f d ah6 rfl rfl ?_
 refine d3 X15 f d Y e15 O (i6 w) Fst__14 ah7 (fun T16 X16 e16 => ?_)
 refine n3 X16 f d Y e16 A13__14 ⟨by decide, by decide⟩ rfl ah8 ?_
 refine c6 X16 f d ah9 rfl rfl ?_
 refine d3 X16 f d Y e16 O (m6 w) Fnu__14 ai0 (fun T18 X18 e18 => ?_)
 refine c6 X18 f d ai1 rfl rfl ?_
 refine d3 X18 f d Y e18 O (i6 w) Fsu__14 ai2 (fun T19 X19 e19 => ?_)
 refine n3 X19 f d Y e19 Agu__14 ⟨by decide, by decide⟩ rfl ai3 ?_
 refine n7 X19 f d ai4 ?_
 show c5 p e U m T19 88 L_3 [(.int (p1 + q1))]
 let L_4 : Array Slot := #[oR oa,oR ob,oI 2,(oI (p1 + q1)),oU]
 refine p8 X19 f d ai5 (l' := L_4) rfl ?_
 refine f4 X19 f d ai6 rfl ?_
 refine c6 X19 f d ai7 rfl rfl ?_
 refine d3 X19 f d Y e19 O (o8 w) Fbt__14 ai8 (fun T21 X21 e21 => ?_)
 refine m7 X21 f d Y e21 Abt__14 ai9 ?_
 refine j5 (pc := 95) (pc' := 120) X21 f d aj0 (flt (Z5 tp.1 tq.1 tp.2.2 tq.2.2 : ¬ ((64 : Int32) < (p1 + q1)))).2.2.2 ?_
 refine c6 X21 f d ab0 rfl rfl ?_
 refine d3 X21 f d Y e21 O (o9 w) Ffu__14 ab1 (fun T23 X23 e23 => ?_)
 refine f6 X23 f d ab2 (z := (0 : Int32)) rfl ?_
 refine c6 X23 f d ab3 rfl rfl ?_
 refine d3 X23 f d Y e23 O (o9 w) Fw11__14 ab4 (fun T24 X24 e24 => ?_)
 refine c6 X24 f d ab5 rfl rfl ?_
 refine d3 X24 f d Y e24 O (i6 w) Fst__14 ab6 (fun T25 X25 e25 => ?_)
 refine c6 X25 f d ab7 rfl rfl ?_
 refine d3 X25 f d Y e25 O (i6 w) Fsu__14 ab8 (fun T26 X26 e26 => ?_)
 obtain ⟨T27, h27, L27, X27, e27, N27, K27, A27, st27⟩ := cpA X26 f Y O (G4 w) (v4 w) (v2 w) (v3 w) e26 Afu__14 (Arv.pad A10__14 (pad_rep [.long f0] (.long (0 : Int64)) 1)) (us := [.long g0]) (Or.inl ⟨rfl, rfl⟩) (by decide) (by decide) (by decide) (by decide) (by decide) rfl (by exact j6 rfl) N14 g_d10 (g := (mkF m 137 L_4 [.int 1, .int 1, .ref d10, .int 0, .ref uf])) rfl (by rw [r]; rfl) rfl (hb d ab9) (by decide) (W := 0) (by show 2 * 0 + _ ≤ _; exact f7 rfl) (by decide)
 have Et__27 := Et__14.keep K27
 have Fst__27 := Fst__14.keep K27 (ninS ne_oa_d10 nin0)
 have Fw11__27 := Fw11__14.keep K27 (ninS ne_oa_d10 nin0)
 have Fw14__27 := Fw14.keep K27 (ninS ne_oa_d10 nin0)
 have Fbt__27 := Fbt__14.keep K27 (ninS ne_oa_d10 nin0)
 have Flt__27 := Flt__14.keep K27 (ninS ne_oa_d10 nin0)
 have Abt__27 := Abt__14.keep K27 (ninS ne_tb_d10 nin0)
 have Ebt__27 := Ebt__14.keep K27
 have Fsu__27 := Fsu__14.keep K27 (ninS ne_ob_d10 nin0)
 have Fnu__27 := Fnu__14.keep K27 (ninS ne_ob_d10 nin0)
 have Fbu__27 := Fbu__14.keep K27 (ninS ne_ob_d10 nin0)
 have Flu__27 := Flu__14.keep K27 (ninS ne_ob_d10 nin0)
 have Agu__27 := Agu__14.keep K27 (ninS ne_un_d10 nin0)
 have Abu__27 := Abu__14.keep K27 (ninS ne_ub_d10 nin0)
 have A13__27 := A13__14.keep K27 (ninS (Ne.symm ne_d10_d13) nin0)
 have KP27 := KP14.trans K27 (allS (Or.inr sz_d10) all0)
 refine c8 st27 ?_
 show c5 p e U m T27 140 L_4 []
 refine c6 X27 f d ac0 rfl rfl ?_
 refine d3 X27 f d Y e27 O (o8 w) Fbu__27 ac1 (fun T28 X28 e28 => ?_)
 refine f6 X28 f d ac2 (z := (0 : Int32)) rfl ?_
 refine c6 X28 f d ac3 rfl rfl ?_
 refine d3 X28 f d Y e28 O (o8 w) Fbt__27 ac4 (fun T29 X29 e29 => ?_)
 refine c6 X29 f d ac5 rfl rfl ?_
 refine d3 X29 f d Y e29 O (m6 w) Fw14__27 ac6 (fun T30 X30 e30 => ?_)
 refine c6 X30 f d ac7 rfl rfl ?_
 refine d3 X30 f d Y e30 O (i6 w) Fst__27 ac8 (fun T31 X31 e31 => ?_)
 refine n3 X31 f d Y e31 A13__27 ⟨by decide, by decide⟩ rfl ac9 ?_
 refine c6 X31 f d ad0 rfl rfl ?_
 refine d3 X31 f d Y e31 O (m6 w) Fnu__27 ad1 (fun T33 X33 e33 => ?_)
 refine c6 X33 f d ad2 rfl rfl ?_
 refine d3 X33 f d Y e33 O (i6 w) Fsu__27 ad3 (fun T34 X34 e34 => ?_)
 refine n3 X34 f d Y e34 Agu__27 ⟨by decide, by decide⟩ rfl ad4 ?_
 obtain ⟨T36, h36, L36, X36, e36, N36, K36, A36, st36⟩ := cpA X34 f Y O (G4 w) (v4 w) (v2 w) (v3 w) e34 Abu__27 (Arv.pad Abt__27 (pad_rep (m9 [x0].flatten) (.int 0) 4)) (us := (m9 [y0].flatten)) (Or.inl ⟨rfl, rfl⟩) (by decide) (G3 tp.1) (G3 tq.1) (by rw [hyn]; exact c9 (f7 (Nat.zero_add _)) (c9 hy4 (by decide))) (by rw [hxn, hyn]; exact c9 (Nat.add_le_add hx4 hy4) (by decide)) (by rw [hyn]; exact ae6 _ _) (by rw [hxn, hyn, List.length_append]; exact Nat.add_le_add_left hy4 _) N27 g_tb (g := (mkF m 167 L_4 [.int q1, .int p1, .ref tb, .int 0, .ref ub])) rfl (by rw [r]; rfl) rfl (hb d ad5) (by decide) (W := 0) (by show 2 * 0 + _ ≤ _; exact f7 rfl) (by decide)
 have Ac36 := Arv.pad A36 (Z4 (m9 [x0].flatten) (m9 [y0].flatten) (.int 0) hxn hyn)
 have Et__36 := Et__27.keep K36
 have Fst__36 := Fst__27.keep K36 (ninS ne_otb nin0)
 have Fw11__36 := Fw11__27.keep K36 (ninS ne_otb nin0)
 have Fw14__36 := Fw14__27.keep K36 (ninS ne_otb nin0)
 have Fbt__36 := Fbt__27.keep K36 (ninS ne_otb nin0)
 have Flt__36 := Flt__27.keep K36 (ninS ne_otb nin0)
 have Ebt__36 := Ebt__27.keep K36
 have Fsu__36 := Fsu__27.keep K36 (ninS (i9 dj 0 3 rfl rfl) nin0)
 have Fnu__36 := Fnu__27.keep K36 (ninS (i9 dj 0 3 rfl rfl) nin0)
 have Flu__36 := Flu__27.keep K36 (ninS (i9 dj 0 3 rfl rfl) nin0)
 have Agu__36 := Agu__27.keep K36 (ninS (i9 dj 2 3 rfl rfl) nin0)
 have A13__36 := A13__27.keep K36 (ninS (Ne.symm ne_tb_d13) nin0)
 have A27__36 := A27.keep K36 (ninS (Ne.symm ne_tb_d10) nin0)
 have KP36 := KP27.trans K36 (allS (Or.inl (List.mem_of_getElem? (i := 3) rfl)) all0)
 refine c8 st36 ?_
 show c5 p e U m T36 170 L_4 []
 refine f6 X36 f d ad6 (z := (1 : Int32)) rfl ?_
 let L_5 : Array Slot := #[oR oa,oR ob,oI 2,(oI (p1 + q1)),oI 1]
 refine o4 X36 f d ad7 (l' := L_5) rfl ?_
 refine f5 X36 f d C6 rfl ?_
 refine c6 X36 f d C7 rfl rfl ?_
 refine d3 X36 f d Y e36 O (i6 w) Fsu__36 C8 (fun T37 X37 e37 => ?_)
 refine m4 X37 f d C9 (flt (by decide : ¬ ((1 : Int32) < (1 : Int32)))).2.2.1 ?_
 refine c6 X37 f d M4 rfl rfl ?_
 refine d3 X37 f d Y e37 O (m6 w) Fw14__36 M5 (fun T38 X38 e38 => ?_)
 refine c6 X38 f d M6 rfl rfl ?_
 refine d3 X38 f d Y e38 O (i6 w) Fst__36 M7 (fun T39 X39 e39 => ?_)
 refine f5 X39 f d M8 rfl ?_
 refine n7 X39 f d M9 ?_
 show c5 p e U m T39 193 L_5 [.int 2, .ref d13]
 refine c6 X39 f d O0 rfl rfl ?_
 refine d3 X39 f d Y e39 O (m6 w) Fw14__36 O1 (fun T40 X40 e40 => ?_)
 refine c6 X40 f d O2 rfl rfl ?_
 refine d3 X40 f d Y e40 O (i6 w) Fst__36 O3 (fun T41 X41 e41 => ?_)
 refine n3 X41 f d Y e41 A13__36 ⟨by decide, by decide⟩ rfl O4 ?_
 refine c6 X41 f d O5 rfl rfl ?_
 refine d3 X41 f d Y e41 O (m6 w) Fnu__36 O6 (fun T43 X43 e43 => ?_)
 refine f5 X43 f d O7 rfl ?_
 refine n3 X43 f d Y e43 Agu__36 ⟨by decide, by decide⟩ rfl O8 ?_
 refine n7 X43 f d O9 ?_
 show c5 p e U m T43 210 L_5 [(.int (p1 + q1)), .int 2, .ref d13]
 obtain ⟨cl45, Ar45, qa45, Sa45, Na45, Ha45, Ga45⟩ := id A13__36
 have hin45 : ¬ ((2 : Int32) < 0 ∨ cl45.slots.size ≤ ((2 : Int32)).toNatClampNeg) := inb_of Sa45 ⟨by decide, by decide⟩
 obtain ⟨T45, h45, X45, e45, W45, st45⟩ := stI X43 f Y e43 Ar45 (j := (2 : Int32)) hin45 (g := (mkF m 210 L_5 [(.int (p1 + q1)), .int 2, .ref d13])) rfl rfl (hb d P0)
 have Vw45 := u0 Ar45 qa45 Sa45 Na45 Ha45 Ga45 rfl W45 rfl
 replace Vw45 : Arv Z h45 d13 kd13 .int 17 [.int 0, .int p1, (.int (p1 + q1))] (.int 0) := Vw45
 have Et__45 := Et__36.wr W45
 have Fst__45 := Fst__36.other W45 (Or.inl ne_oa_d13)
 have Fw11__45 := Fw11__36.other W45 (Or.inl ne_oa_d13)
 have Fw14__45 := Fw14__36.other W45 (Or.inl ne_oa_d13)
 have Fbt__45 := Fbt__36.other W45 (Or.inl ne_oa_d13)
 have Flt__45 := Flt__36.other W45 (Or.inl ne_oa_d13)
 have Ebt__45 := Ebt__36.wr W45
 have Fsu__45 := Fsu__36.other W45 (Or.inl ne_ob_d13)
 have Flu__45 := Flu__36.other W45 (Or.inl ne_ob_d13)
 have A27__45 := A27__36.other W45 ne_d10_d13
 have Ac36__45 := Ac36.other W45 ne_tb_d13
 have N45 := Fr.snoc X45 N36 g_d13
 have KP45 := KP36.wr W45 (Or.inr sz_d13)
 refine c8 st45 ?_
 show c5 p e U m T45 211 L_5 []
 let L_6 : Array Slot := #[oR oa,oR ob,oI 2,(oI (p1 + q1)),oI 2]
 refine c8 (fun t k => XS.iinc X45.here f rfl (hb d P1) rfl (l' := L_6) rfl k) ?_
 show c5 p e U m T45 214 L_6 []
 refine m5 (pc := 214) (pc' := 173) X45 f d P2 ?_
 refine f5 X45 f d C6 rfl ?_
 refine c6 X45 f d C7 rfl rfl ?_
 refine d3 X45 f d Y e45 O (i6 w) Fsu__45 C8 (fun T46 X46 e46 => ?_)
 refine j5 (pc := 179) (pc' := 217) X46 f d C9 (tlt (by decide : (1 : Int32) < (2 : Int32))).2.2.1 ?_
 refine c6 X46 f d ad8 rfl rfl ?_
 refine f4 X46 f d ad9 rfl ?_
 obtain ⟨T47, h47, X47, e47, W47, st47⟩ := putF X46 f Y O (host := "") (Or.inl (i6 w)) Via.refl e46 Fst__45 Et__45 (Or.inl (w5 w)) (o0 w) (ty := .int) (by decide) rfl rfl (g := (mkF m 219 L_6 [.int 2, .ref oa])) rfl rfl (hb d ae0)
 have Fw47 := Fst__45.same W47
 have Et__47 := Et__45.wr W47
 have Fw11__47 := Fw11__45.other W47 (Or.inr (J4 w))
 have Fw14__47 := Fw14__45.other W47 (Or.inr (J5 w))
 have Fbt__47 := Fbt__45.other W47 (Or.inr (J6 w))
 have Flt__47 := Flt__45.other W47 (Or.inr (J7 w))
 have Ebt__47 := Ebt__45.wr W47
 have Flu__47 := Flu__45.other W47 (Or.inl (i9 dj 0 0 rfl rfl))
 have Vw45__47 := Vw45.other W47 (Ne.symm ne_oa_d13)
 have A27__47 := A27__45.other W47 (Ne.symm ne_oa_d10)
 have Ac36__47 := Ac36__45.other W47 (Ne.symm ne_otb)
 have N47 := Fr.snoc X47 N45 g_oa
 have KP47 := KP45.wr W47 (Or.inl (List.mem_of_getElem? (i := 0) rfl))
 refine c8 st47 ?_
 show c5 p e U m T47 222 L_6 []
 refine c6 X47 f d ae1 rfl rfl ?_
 refine c6 X47 f d ae2 rfl rfl ?_
 refine d3 X47 f d Y e47 O (B3 w) Flu__47 ae3 (fun T48 X48 e48 => ?_)
 obtain ⟨T49, h49, X49, e49, W49, st49⟩ := putF X48 f Y O (host := "") (Or.inl (B3 w)) Via.refl e48 Flt__47 Et__47 (Or.inl (w6 w)) (o0 w) (ty := (.object "java/math/BigInteger")) (by decide) rfl rfl (g := (mkF m 227 L_6 [.ref lcb, .ref oa])) rfl rfl (hb d ae4)
 have Fw49 := Flt__47.same W49
 have Et__49 := Et__47.wr W49
 have Fw47__49 := Fw47.other W49 (Or.inr (J8 w))
 have Fw11__49 := Fw11__47.other W49 (Or.inr (J9 w))
 have Fw14__49 := Fw14__47.other W49 (Or.inr (K0 w))
 have Fbt__49 := Fbt__47.other W49 (Or.inr (L0 w))
 have Ebt__49 := Ebt__47.wr W49
 have Vw45__49 := Vw45__47.other W49 (Ne.symm ne_oa_d13)
 have A27__49 := A27__47.other W49 (Ne.symm ne_oa_d10)
 have Ac36__49 := Ac36__47.other W49 (Ne.symm ne_otb)
 have N49 := Fr.snoc X49 N47 g_oa
 have KP49 := KP47.wr W49 (Or.inl (List.mem_of_getElem? (i := 0) rfl))
 refine c8 st49 ?_
 show c5 p e U m T49 230 L_6 []
 exact q0 X49 f R (hb d ae5) (by rw [e49]; exact ⟨rfl, N49, KP49, [oa, d10, d13, tb], 64, ⟨_, _, _, _, _, _, rfl, ⟨Et__49, Fw47__49, Fw11__49, Fw14__49, Fbt__49, Fw49⟩, A27__49, (by have q := Vw45__49; rw [hq1, ae7, hp1] at q; exact q), (by have q := Ac36__49; simpa [m9] using q), Ebt__49⟩, (by have q1 := tp.2.2; have q2 := tq.2.2; have e1 : (64 : Int32).toNatClampNeg = 64 := (by decide); rw [e1]; simp at q1 q2 ⊢; omega)⟩) (by decide) (by decide)
def ce2 (Z : State) (oa : Addr) (x0 : List Int32) (f0 : Int64) (y0 y1 : List Int32) (g0 g1 : Int64) (Wa : List Addr) (lcb : Addr) (h0 : Heap) (n0 : Nat) (v : Option Value) (h : Heap) (L : List Loc) : Prop := v = none ∧ Fr n0 L ∧ Keep h0 h Wa ∧ ∃ (W' : List Addr) (cb : Int32), own_L Z h oa [x0, y0, y1] [f0, g0, g1] W' (.ref lcb) 16 17 cb ∧ [x0, y0, y1].flatten.length ≤ cb.toNatClampNeg
theorem cH1 (l : Launch) (Z : State) (a0 : Array Value) (w : j9 Z a0) (ws : List Jvm.Cond) (x0 : List Int32) (f0 : Int64) (y0 y1 : List Int32) (g0 g1 : Int64) (oa ob : Addr) (Wa Wb : List Addr) (lca : Value) (lcb : Addr) (h0 : Heap) (n0 : Nat) (Z0 : n0 ≤ h0.size) (La : own_L Z h0 oa [x0] [f0] Wa lca 1 2 64) (Lb : own_L Z h0 ob [y0, y1] [g0, g1] Wb (.ref lcb) 16 17 64) (gW : ∀ y ∈ Wa, n0 ≤ y) (dj : ∀ y ∈ Wb, y ∉ Wa) (r_lca : lca.isRef = true) (hx0 : 1 ≤ x0.length ∧ x0.length ≤ 2) (hy0 : 1 ≤ y0.length ∧ y0.length ≤ 2) (hy1 : 1 ≤ y1.length ∧ y1.length ≤ 2) :
 l0 l Z h0 Y3 f8 5 none ws (Jvm.Room.mk 2 3 41 56) #[.ref oa, .ref ob] (ce2 Z oa x0 f0 y0 y1 g0 g1 Wa lcb h0 n0) := by
 refine l7 (Ls := #[.val (.ref oa), .val (.ref ob), .unset, .unset, .unset]) (plainFor_of_name E0) (fun p e s m U meth c s₁ Y hh f d r O hnm hlk R X0 e0 => ?_)
 replace O : s.vm.findClass "com/example/prizewell/prizewell/core/TicketRanges" = some m.cls := O
 have N0 := Fr.nil n0
 obtain ⟨tf, tn, tb, ktf, ktn, ktb, rfl, ⟨Et, Fst, Fft, Fnt, Fbt, Flt⟩, Aft, Agt, Abt, Ebt⟩ := id La
 replace Fst : Fld Z h0 oa "com/example/prizewell/prizewell/core/TicketRanges" "size" "I" (.int 1) := Fst
 obtain ⟨uf, un, ub, kuf, kun, kub, rfl, ⟨Eu, Fsu, Ffu, Fnu, Fbu, Flu⟩, Afu, Agu, Abu, Ebu⟩ := id Lb
 replace Fsu : Fld Z h0 ob "com/example/prizewell/prizewell/core/TicketRanges" "size" "I" (.int 2) := Fsu
 obtain ⟨p1, hp1⟩ : ∃ z, z = 0 + p6 x0 := ⟨_, rfl⟩
 replace Agt : Arv Z h0 tn ktn .int 2 [.int 0, .int p1] (.int 0) := by rw [hp1]; exact Agt
 obtain ⟨q1, hq1⟩ : ∃ z, z = 0 + p6 y0 := ⟨_, rfl⟩
 obtain ⟨q2, hq2⟩ : ∃ z, z = 0 + p6 y0 + p6 y1 := ⟨_, rfl⟩
 replace Agu : Arv Z h0 un kun .int 17 [.int 0, .int q1, .int q2] (.int 0) := by rw [hq1, hq2]; exact Agu
 have tq := G9 (css := [y0, y1]) hq2 (al6 hy0 hy1) (j6 rfl)
 have tp := G9 (css := [x0]) hp1 (Y9 hx0) (j6 rfl)
 have hyn : q2.toNatClampNeg = (m9 [y0, y1].flatten).length := by rw [x2]; exact H2 tq.1
 have hy4 : (m9 [y0, y1].flatten).length ≤ 4 := by rw [x2]; exact tq.2.2
 have hxn : p1.toNatClampNeg = (m9 [x0].flatten).length := by rw [x2]; exact H2 tp.1
 have hx4 : (m9 [x0].flatten).length ≤ 4 := by rw [x2]; exact tp.2.2
 have g_oa := gW _ (List.mem_of_getElem? (i := 0) rfl)
 have g_tb := gW _ (List.mem_of_getElem? (i := 3) rfl)
 have ne_otn := Exa.neArv Et Agt (o0 w)
 have ne_otb := Exa.neArv Et Abt (o0 w)
 let L_1 : Array Slot := #[oR oa,oR ob,oU,oU,oU]
 show c5 p e U m s₁ 0 L_1 []
 refine c6 X0 f d V0 rfl rfl ?_
 refine d3 X0 f d Y e0 O (i6 w) Fsu V8 (fun T1 X1 e1 => ?_)
 refine o2 (pc := 4) (pc' := 8) X1 f d W0 ((if0 _ _).trans (feq (by decide : ¬ ((2 : Int32) = (0 : Int32)))).2) ?_
 refine c6 X1 f d ak6 rfl rfl ?_
 refine d3 X1 f d Y e1 O (i6 w) Fst ak7 (fun T2 X2 e2 => ?_)
 refine c6 X2 f d ag5 rfl rfl ?_
 refine d3 X2 f d Y e2 O (i6 w) Fsu ag6 (fun T3 X3 e3 => ?_)
 refine n7 X3 f d ag7 ?_
 show c5 p e U m T3 17 L_1 [.int 3]
 let L_2 : Array Slot := #[oR oa,oR ob,oI 3,oU,oU]
 refine p8 X3 f d ag8 (l' := L_2) rfl ?_
 refine f4 X3 f d ag9 rfl ?_
 refine c6 X3 f d ah0 rfl rfl ?_
 refine d3 X3 f d Y e3 O (o9 w) Fft ah1 (fun T4 X4 e4 => ?_)
 refine m7 X4 f d Y e4 Aft ah2 ?_
 refine m4 X4 f d ah3 (tlt (by decide : (1 : Int32) < (3 : Int32))).2.2.2 ?_
 refine f4 X4 f d aw5 rfl ?_
 refine t9 X4 f d aw6 (z := (16 : Int32)) rfl ?_
 refine c6 X4 f d aw7 rfl rfl ?_
 refine d3 X4 f d Y e4 O (i6 w) Fst aw8 (fun T6 X6 e6 => ?_)
 refine f6 X6 f d aw9 (z := (2 : Int32)) rfl ?_
 refine P3 X6 f d ax0 ?_
 obtain ⟨_, T7, Lc7, X7, hQ7, st7⟩ := j8 X6 f d r Y e6 O (D1 w) (D6 w) (s6 w) (D9 w) (Q2 l Z a0 w [] (16 : Int32) (2 : Int32) h0 n0 Z0 (by decide)) L_2 ax1 [.int 16, .int 2] [.int 3] 1 0 0 (lenOf s9 rfl)
 obtain ⟨rfl, Nq7, e7⟩ := hQ7
 have N7 := Fr.app N0 Nq7
 refine c8 st7 ?_
 obtain ⟨_, T8, Lc8, X8, hQ8, st8⟩ := j8 X7 f d r Y e7 O (D1 w) (D6 w) (s6 w) (D9 w) (ak0 l Z a0 w [] (3 : Int32) (16 : Int32) h0 n0 Z0 (by decide)) L_2 ax2 [.int 3, .int 16] [] 0 0 0 (lenOf s9 rfl)
 obtain ⟨rfl, Nq8, e8⟩ := hQ8
 have N8 := Fr.app N7 Nq8
 refine c8 st8 ?_
 show c5 p e U m T8 42 L_2 [.int 16]
 let L_3 : Array Slot := #[oR oa,oR ob,oI 3,oI 16,oU]
 refine p8 X8 f d ax3 (l' := L_3) rfl ?_
 refine c6 X8 f d ax4 rfl rfl ?_
 refine c6 X8 f d ax5 rfl rfl ?_
 refine d3 X8 f d Y e8 O (o9 w) Fft ax6 (fun T9 X9 e9 => ?_)
 refine f4 X9 f d ax7 rfl ?_
 obtain ⟨_, T10, Lc10, X10, hQ10, st10⟩ := j8 X9 f d r Y e9 O (af0 w) (af1 w) (t6 w) (af2 w) (aC0 l Z a0 w [] tf ktf f0 h0 n0 Z0 Aft) L_3 ax8 [.ref tf, .int 16] [.ref oa] 1 1 16 (lenOf ak3 rfl)
 obtain ⟨d10, kd10, rfl, Nq10, K10, ge10, A10⟩ := hQ10
 have N10 := Fr.app N8 Nq10
 refine c8 st10 ?_
 have g_d10 : n0 ≤ d10 := c9 Z0 ge10
 have sz_d10 : h0.size ≤ d10 := c9 (Keep.refl h0 [oa, tf, tn, tb]).1 ge10
 have ne_oa_d10 : oa ≠ d10 := Nat.ne_of_lt (j3 Et.lt ge10)
 have ne_tb_d10 : tb ≠ d10 := Nat.ne_of_lt (j3 Abt.lt ge10)
 have ne_ob_d10 : ob ≠ d10 := Nat.ne_of_lt (j3 Eu.lt ge10)
 have ne_un_d10 : un ≠ d10 := Nat.ne_of_lt (j3 Agu.lt ge10)
 have ne_ub_d10 : ub ≠ d10 := Nat.ne_of_lt (j3 Abu.lt ge10)
 have Et__10 := Et.keep K10
 have Fst__10 := Fst.keep K10 nin0
 have Fft__10 := Fft.keep K10 nin0
 have Fnt__10 := Fnt.keep K10 nin0
 have Fbt__10 := Fbt.keep K10 nin0
 have Flt__10 := Flt.keep K10 nin0
 have Agt__10 := Agt.keep K10 nin0
 have Abt__10 := Abt.keep K10 nin0
 have Ebt__10 := Ebt.keep K10
 have Eu__10 := Eu.keep K10
 have Fsu__10 := Fsu.keep K10 nin0
 have Ffu__10 := Ffu.keep K10 nin0
 have Fnu__10 := Fnu.keep K10 nin0
 have Fbu__10 := Fbu.keep K10 nin0
 have Flu__10 := Flu.keep K10 nin0
 have Afu__10 := Afu.keep K10 nin0
 have Agu__10 := Agu.keep K10 nin0
 have Abu__10 := Abu.keep K10 nin0
 have KP10 := (Keep.refl h0 [oa, tf, tn, tb]).trans K10 all0
 have sz10 := c9 Z0 K10.1
 obtain ⟨T11, h11, X11, e11, W11, st11⟩ := putF X10 f Y O (host := "") (Or.inl (o9 w)) Via.refl rfl Fft__10 Et__10 (Or.inl (x4 w)) (o0 w) (ty := (.array .long)) (by decide) rfl rfl (g := (mkF m 52 L_3 [.ref d10, .ref oa])) rfl rfl (hb d ax9)
 have Fw11 := Fft__10.same W11
 have Et__11 := Et__10.wr W11
 have Fst__11 := Fst__10.other W11 (Or.inr (Y4 w))
 have Fnt__11 := Fnt__10.other W11 (Or.inr (Y5 w))
 have Fbt__11 := Fbt__10.other W11 (Or.inr (U4 w))
 have Flt__11 := Flt__10.other W11 (Or.inr (U5 w))
 have Agt__11 := Agt__10.other W11 (Ne.symm ne_otn)
 have Abt__11 := Abt__10.other W11 (Ne.symm ne_otb)
 have Ebt__11 := Ebt__10.wr W11
 have Eu__11 := Eu__10.wr W11
 have Fsu__11 := Fsu__10.other W11 (Or.inl (i9 dj 0 0 rfl rfl))
 have Ffu__11 := Ffu__10.other W11 (Or.inl (i9 dj 0 0 rfl rfl))
 have Fnu__11 := Fnu__10.other W11 (Or.inl (i9 dj 0 0 rfl rfl))
 have Fbu__11 := Fbu__10.other W11 (Or.inl (i9 dj 0 0 rfl rfl))
 have Flu__11 := Flu__10.other W11 (Or.inl (i9 dj 0 0 rfl rfl))
 have Afu__11 := Afu__10.other W11 (i9 dj 1 0 rfl rfl)
 have Agu__11 := Agu__10.other W11 (i9 dj 2 0 rfl rfl)
 have Abu__11 := Abu__10.other W11 (i9 dj 3 0 rfl rfl)
 have A10__11 := A10.other W11 (Ne.symm ne_oa_d10)
 have N11 := Fr.snoc X11 N10 g_oa
 have KP11 := KP10.wr W11 (Or.inl (List.mem_of_getElem? (i := 0) rfl))
 have sz11 := c9 sz10 (Keep.of_wr W11).1
 refine c8 st11 ?_
 show c5 p e U m T11 55 L_3 []
 refine c6 X11 f d ay0 rfl rfl ?_
 refine c6 X11 f d ay1 rfl rfl ?_
 refine d3 X11 f d Y e11 O (m6 w) Fnt__11 ay2 (fun T12 X12 e12 => ?_)
 refine f4 X12 f d ay3 rfl ?_
 refine f6 X12 f d ay4 (z := (1 : Int32)) rfl ?_
 refine n7 X12 f d ay5 ?_
 obtain ⟨_, T13, Lc13, X13, hQ13, st13⟩ := j8 X12 f d r Y e12 O (af3 w) (af4 w) (t6 w) (af5 w) (aC1 l Z a0 w [] tn ktn (0 : Int32) p1 h11 n0 sz11 Agt__11) L_3 ay6 [.ref tn, .int 17] [.ref oa] 1 1 17 (lenOf ak4 rfl)
 obtain ⟨d13, kd13, rfl, Nq13, K13, ge13, A13⟩ := hQ13
 have N13 := Fr.app N11 Nq13
 refine c8 st13 ?_
 have g_d13 : n0 ≤ d13 := c9 sz11 ge13
 have sz_d13 : h0.size ≤ d13 := c9 KP11.1 ge13
 have ne_oa_d13 : oa ≠ d13 := Nat.ne_of_lt (j3 Et__11.lt ge13)
 have ne_tb_d13 : tb ≠ d13 := Nat.ne_of_lt (j3 Abt__11.lt ge13)
 have ne_ob_d13 : ob ≠ d13 := Nat.ne_of_lt (j3 Eu__11.lt ge13)
 have ne_un_d13 : un ≠ d13 := Nat.ne_of_lt (j3 Agu__11.lt ge13)
 have ne_d10_d13 : d10 ≠ d13 := Nat.ne_of_lt (j3 A10__11.lt ge13)
 have Et__13 := Et__11.keep K13
 have Fst__13 := Fst__11.keep K13 nin0
 have Fw11__13 := Fw11.keep K13 nin0
 have Fnt__13 := Fnt__11.keep K13 nin0
 have Fbt__13 := Fbt__11.keep K13 nin0
 have Flt__13 := Flt__11.keep K13 nin0
 have Abt__13 := Abt__11.keep K13 nin0
 have Ebt__13 := Ebt__11.keep K13
 have Fsu__13 := Fsu__11.keep K13 nin0
 have Ffu__13 := Ffu__11.keep K13 nin0
 have Fnu__13 := Fnu__11.keep K13 nin0
 have Fbu__13 := Fbu__11.keep K13 nin0
 have Flu__13 := Flu__11.keep K13 nin0
 have Afu__13 := Afu__11.keep K13 nin0
 have Agu__13 := Agu__11.keep K13 nin0
 have Abu__13 := Abu__11.keep K13 nin0
 have A10__13 := A10__11.keep K13 nin0
 have KP13 := KP11.trans K13 all0
 obtain ⟨T14, h14, X14, e14, W14, st14⟩ := putF X13 f Y O (host := "") (Or.inl (m6 w)) Via.refl rfl Fnt__13 Et__13 (Or.inl (x5 w)) (o0 w) (ty := (.array .int)) (by decide) rfl rfl (g := (mkF m 66 L_3 [.ref d13, .ref oa])) rfl rfl (hb d ay7)
 have Fw14 := Fnt__13.same W14
 have Et__14 := Et__13.wr W14
 have Fst__14 := Fst__13.other W14 (Or.inr (U6 w))
 have Fw11__14 := Fw11__13.other W14 (Or.inr (U7 w))
 have Fbt__14 := Fbt__13.other W14 (Or.inr (U8 w))
 have Flt__14 := Flt__13.other W14 (Or.inr (U9 w))
 have Abt__14 := Abt__13.other W14 (Ne.symm ne_otb)
 have Ebt__14 := Ebt__13.wr W14
 have Fsu__14 := Fsu__13.other W14 (Or.inl (i9 dj 0 0 rfl rfl))
 have Ffu__14 := Ffu__13.other W14 (Or.inl (i9 dj 0 0 rfl rfl))
 have Fnu__14 := Fnu__13.other W14 (Or.inl (i9 dj 0 0 rfl rfl))
 have Fbu__14 := Fbu__13.other W14 (Or.inl (i9 dj 0 0 rfl rfl))
 have Flu__14 := Flu__13.other W14 (Or.inl (i9 dj 0 0 rfl rfl))
 have Afu__14 := Afu__13.other W14 (i9 dj 1 0 rfl rfl)
 have Agu__14 := Agu__13.other W14 (i9 dj 2 0 rfl rfl)
 have Abu__14 := Abu__13.other W14 (i9 dj 3 0 rfl rfl)
 have A10__14 := A10__13.other W14 (Ne.symm ne_oa_d10)
 have A13__14 := A13.other W14 (Ne.symm ne_oa_d13)
 have N14 := Fr.snoc X14 N13 g_oa
 have KP14 := KP13.wr W14 (Or.inl (List.mem_of_getElem? (i := 0) rfl))
 refine c8 st14 ?_
 show c5 p e U m T14 69 L_3 []
 refine c6 X14 f d ah4 rfl rfl ?_
 refine d3 X14 f d Y e14 O (m6 w) Fw14 ah5 (fun T15 X15 e15 => ?_)
 refine c6 X15 f d ah6 rfl rfl ?_
 refine d3 X15 f d Y e15 O (i6 w) Fst__14 ah7 (fun T16 X16 e16 => ?_)
 refine n3 X16 f d Y e16 A13__14 ⟨by decide, by decide⟩ rfl ah8 ?_
 refine c6 X16 f d ah9 rfl rfl ?_
 refine d3 X16 f d Y e16 O (m6 w) Fnu__14 ai0 (fun T18 X18 e18 => ?_)
 refine c6 X18 f d ai1 rfl rfl ?_
 refine d3 X18 f d Y e18 O (i6 w) Fsu__14 ai2 (fun T19 X19 e19 => ?_)
 refine n3 X19 f d Y e19 Agu__14 ⟨by decide, by decide⟩ rfl ai3 ?_
 refine n7 X19 f d ai4 ?_
 show c5 p e U m T19 88 L_3 [(.int (p1 + q2))]
 let L_4 : Array Slot := #[oR oa,oR ob,oI 3,(oI (p1 + q2)),oU]
 refine p8 X19 f d ai5 (l' := L_4) rfl ?_
 refine f4 X19 f d ai6 rfl ?_
 refine c6 X19 f d ai7 rfl rfl ?_
 refine d3 X19 f d Y e19 O (o8 w) Fbt__14 ai8 (fun T21 X21 e21 => ?_)
 refine m7 X21 f d Y e21 Abt__14 ai9 ?_
 refine j5 (pc := 95) (pc' := 120) X21 f d aj0 (flt (Z5 tp.1 tq.1 tp.2.2 tq.2.2 : ¬ ((64 : Int32) < (p1 + q2)))).2.2.2 ?_
 refine c6 X21 f d ab0 rfl rfl ?_
 refine d3 X21 f d Y e21 O (o9 w) Ffu__14 ab1 (fun T23 X23 e23 => ?_)
 refine f6 X23 f d ab2 (z := (0 : Int32)) rfl ?_
 refine c6 X23 f d ab3 rfl rfl ?_
 refine d3 X23 f d Y e23 O (o9 w) Fw11__14 ab4 (fun T24 X24 e24 => ?_)
 refine c6 X24 f d ab5 rfl rfl ?_
 refine d3 X24 f d Y e24 O (i6 w) Fst__14 ab6 (fun T25 X25 e25 => ?_)
 refine c6 X25 f d ab7 rfl rfl ?_
 refine d3 X25 f d Y e25 O (i6 w) Fsu__14 ab8 (fun T26 X26 e26 => ?_)
 obtain ⟨T27, h27, L27, X27, e27, N27, K27, A27, st27⟩ := cpA X26 f Y O (G4 w) (v4 w) (v2 w) (v3 w) e26 Afu__14 (Arv.pad A10__14 (pad_rep [.long f0] (.long (0 : Int64)) 2)) (us := [.long g0, .long g1]) (Or.inl ⟨rfl, rfl⟩) (by decide) (by decide) (by decide) (by decide) (by decide) rfl (by exact j6 rfl) N14 g_d10 (g := (mkF m 137 L_4 [.int 2, .int 1, .ref d10, .int 0, .ref uf])) rfl (by rw [r]; rfl) rfl (hb d ab9) (by decide) (W := 0) (by show 2 * 0 + _ ≤ _; exact f7 rfl) (by decide)
 have Et__27 := Et__14.keep K27
 have Fst__27 := Fst__14.keep K27 (ninS ne_oa_d10 nin0)
 have Fw11__27 := Fw11__14.keep K27 (ninS ne_oa_d10 nin0)
 have Fw14__27 := Fw14.keep K27 (ninS ne_oa_d10 nin0)
 have Fbt__27 := Fbt__14.keep K27 (ninS ne_oa_d10 nin0)
 have Flt__27 := Flt__14.keep K27 (ninS ne_oa_d10 nin0)
 have Abt__27 := Abt__14.keep K27 (ninS ne_tb_d10 nin0)
 have Ebt__27 := Ebt__14.keep K27
 have Fsu__27 := Fsu__14.keep K27 (ninS ne_ob_d10 nin0)
 have Fnu__27 := Fnu__14.keep K27 (ninS ne_ob_d10 nin0)
 have Fbu__27 := Fbu__14.keep K27 (ninS ne_ob_d10 nin0)
 have Flu__27 := Flu__14.keep K27 (ninS ne_ob_d10 nin0)
 have Agu__27 := Agu__14.keep K27 (ninS ne_un_d10 nin0)
 have Abu__27 := Abu__14.keep K27 (ninS ne_ub_d10 nin0)
 have A13__27 := A13__14.keep K27 (ninS (Ne.symm ne_d10_d13) nin0)
 have KP27 := KP14.trans K27 (allS (Or.inr sz_d10) all0)
 refine c8 st27 ?_
 show c5 p e U m T27 140 L_4 []
 refine c6 X27 f d ac0 rfl rfl ?_
 refine d3 X27 f d Y e27 O (o8 w) Fbu__27 ac1 (fun T28 X28 e28 => ?_)
 refine f6 X28 f d ac2 (z := (0 : Int32)) rfl ?_
 refine c6 X28 f d ac3 rfl rfl ?_
 refine d3 X28 f d Y e28 O (o8 w) Fbt__27 ac4 (fun T29 X29 e29 => ?_)
 refine c6 X29 f d ac5 rfl rfl ?_
 refine d3 X29 f d Y e29 O (m6 w) Fw14__27 ac6 (fun T30 X30 e30 => ?_)
 refine c6 X30 f d ac7 rfl rfl ?_
 refine d3 X30 f d Y e30 O (i6 w) Fst__27 ac8 (fun T31 X31 e31 => ?_)
 refine n3 X31 f d Y e31 A13__27 ⟨by decide, by decide⟩ rfl ac9 ?_
 refine c6 X31 f d ad0 rfl rfl ?_
 refine d3 X31 f d Y e31 O (m6 w) Fnu__27 ad1 (fun T33 X33 e33 => ?_)
 refine c6 X33 f d ad2 rfl rfl ?_
 refine d3 X33 f d Y e33 O (i6 w) Fsu__27 ad3 (fun T34 X34 e34 => ?_)
 refine n3 X34 f d Y e34 Agu__27 ⟨by decide, by decide⟩ rfl ad4 ?_
 obtain ⟨T36, h36, L36, X36, e36, N36, K36, A36, st36⟩ := cpA X34 f Y O (G4 w) (v4 w) (v2 w) (v3 w) e34 Abu__27 (Arv.pad Abt__27 (pad_rep (m9 [x0].flatten) (.int 0) 4)) (us := (m9 [y0, y1].flatten)) (Or.inl ⟨rfl, rfl⟩) (by decide) (G3 tp.1) (G3 tq.1) (by rw [hyn]; exact c9 (f7 (Nat.zero_add _)) (c9 hy4 (by decide))) (by rw [hxn, hyn]; exact c9 (Nat.add_le_add hx4 hy4) (by decide)) (by rw [hyn]; exact ae6 _ _) (by rw [hxn, hyn, List.length_append]; exact Nat.add_le_add_left hy4 _) N27 g_tb (g := (mkF m 167 L_4 [.int q2, .int p1, .ref tb, .int 0, .ref ub])) rfl (by rw [r]; rfl) rfl (hb d ad5) (by decide) (W := 0) (by show 2 * 0 + _ ≤ _; exact f7 rfl) (by decide)
 have Ac36 := Arv.pad A36 (Z4 (m9 [x0].flatten) (m9 [y0, y1].flatten) (.int 0) hxn hyn)
 have Et__36 := Et__27.keep K36
 have Fst__36 := Fst__27.keep K36 (ninS ne_otb nin0)
 have Fw11__36 := Fw11__27.keep K36 (ninS ne_otb nin0)
 have Fw14__36 := Fw14__27.keep K36 (ninS ne_otb nin0)
 have Fbt__36 := Fbt__27.keep K36 (ninS ne_otb nin0)
 have Flt__36 := Flt__27.keep K36 (ninS ne_otb nin0)
 have Ebt__36 := Ebt__27.keep K36
 have Fsu__36 := Fsu__27.keep K36 (ninS (i9 dj 0 3 rfl rfl) nin0)
 have Fnu__36 := Fnu__27.keep K36 (ninS (i9 dj 0 3 rfl rfl) nin0)
 have Flu__36 := Flu__27.keep K36 (ninS (i9 dj 0 3 rfl rfl) nin0)
 have Agu__36 := Agu__27.keep K36 (ninS (i9 dj 2 3 rfl rfl) nin0)
 have A13__36 := A13__27.keep K36 (ninS (Ne.symm ne_tb_d13) nin0)
 have A27__36 := A27.keep K36 (ninS (Ne.symm ne_tb_d10) nin0)
 have KP36 := KP27.trans K36 (allS (Or.inl (List.mem_of_getElem? (i := 3) rfl)) all0)
 refine c8 st36 ?_
 show c5 p e U m T36 170 L_4 []
 refine f6 X36 f d ad6 (z := (1 : Int32)) rfl ?_
 let L_5 : Array Slot := #[oR oa,oR ob,oI 3,(oI (p1 + q2)),oI 1]
 refine o4 X36 f d ad7 (l' := L_5) rfl ?_
 refine f5 X36 f d C6 rfl ?_
 refine c6 X36 f d C7 rfl rfl ?_
 refine d3 X36 f d Y e36 O (i6 w) Fsu__36 C8 (fun T37 X37 e37 => ?_)
 refine m4 X37 f d C9 (flt (by decide : ¬ ((2 : Int32) < (1 : Int32)))).2.2.1 ?_
 refine c6 X37 f d M4 rfl rfl ?_
 refine d3 X37 f d Y e37 O (m6 w) Fw14__36 M5 (fun T38 X38 e38 => ?_)
 refine c6 X38 f d M6 rfl rfl ?_
 refine d3 X38 f d Y e38 O (i6 w) Fst__36 M7 (fun T39 X39 e39 => ?_)
 refine f5 X39 f d M8 rfl ?_
 refine n7 X39 f d M9 ?_
 show c5 p e U m T39 193 L_5 [.int 2, .ref d13]
 refine c6 X39 f d O0 rfl rfl ?_
 refine d3 X39 f d Y e39 O (m6 w) Fw14__36 O1 (fun T40 X40 e40 => ?_)
 refine c6 X40 f d O2 rfl rfl ?_
 refine d3 X40 f d Y e40 O (i6 w) Fst__36 O3 (fun T41 X41 e41 => ?_)
 refine n3 X41 f d Y e41 A13__36 ⟨by decide, by decide⟩ rfl O4 ?_
 refine c6 X41 f d O5 rfl rfl ?_
 refine d3 X41 f d Y e41 O (m6 w) Fnu__36 O6 (fun T43 X43 e43 => ?_)
 refine f5 X43 f d O7 rfl ?_
 refine n3 X43 f d Y e43 Agu__36 ⟨by decide, by decide⟩ rfl O8 ?_
 refine n7 X43 f d O9 ?_
 show c5 p e U m T43 210 L_5 [(.int (p1 + q1)), .int 2, .ref d13]
 obtain ⟨cl45, Ar45, qa45, Sa45, Na45, Ha45, Ga45⟩ := id A13__36
 have hin45 : ¬ ((2 : Int32) < 0 ∨ cl45.slots.size ≤ ((2 : Int32)).toNatClampNeg) := inb_of Sa45 ⟨by decide, by decide⟩
 obtain ⟨T45, h45, X45, e45, W45, st45⟩ := stI X43 f Y e43 Ar45 (j := (2 : Int32)) hin45 (g := (mkF m 210 L_5 [(.int (p1 + q1)), .int 2, .ref d13])) rfl rfl (hb d P0)
 have Vw45 := u0 Ar45 qa45 Sa45 Na45 Ha45 Ga45 rfl W45 rfl
 replace Vw45 : Arv Z h45 d13 kd13 .int 17 [.int 0, .int p1, (.int (p1 + q1))] (.int 0) := Vw45
 have Et__45 := Et__36.wr W45
 have Fst__45 := Fst__36.other W45 (Or.inl ne_oa_d13)
 have Fw11__45 := Fw11__36.other W45 (Or.inl ne_oa_d13)
 have Fw14__45 := Fw14__36.other W45 (Or.inl ne_oa_d13)
 have Fbt__45 := Fbt__36.other W45 (Or.inl ne_oa_d13)
 have Flt__45 := Flt__36.other W45 (Or.inl ne_oa_d13)
 have Ebt__45 := Ebt__36.wr W45
 have Fsu__45 := Fsu__36.other W45 (Or.inl ne_ob_d13)
 have Fnu__45 := Fnu__36.other W45 (Or.inl ne_ob_d13)
 have Flu__45 := Flu__36.other W45 (Or.inl ne_ob_d13)
 have Agu__45 := Agu__36.other W45 ne_un_d13
 have A27__45 := A27__36.other W45 ne_d10_d13
 have Ac36__45 := Ac36.other W45 ne_tb_d13
 have N45 := Fr.snoc X45 N36 g_d13
 have KP45 := KP36.wr W45 (Or.inr sz_d13)
 refine c8 st45 ?_
 show c5 p e U m T45 211 L_5 []
 let L_6 : Array Slot := #[oR oa,oR ob,oI 3,(oI (p1 + q2)),oI 2]
 refine c8 (fun t k => XS.iinc X45.here f rfl (hb d P1) rfl (l' := L_6) rfl k) ?_
 show c5 p e U m T45 214 L_6 []
 refine m5 (pc := 214) (pc' := 173) X45 f d P2 ?_
 refine f5 X45 f d C6 rfl ?_
 refine c6 X45 f d C7 rfl rfl ?_
 refine d3 X45 f d Y e45 O (i6 w) Fsu__45 C8 (fun T46 X46 e46 => ?_)
 refine m4 X46 f d C9 (flt (by decide : ¬ ((2 : Int32) < (2 : Int32)))).2.2.1 ?_
 refine c6 X46 f d M4 rfl rfl ?_
 refine d3 X46 f d Y e46 O (m6 w) Fw14__45 M5 (fun T47 X47 e47 => ?_)
 refine c6 X47 f d M6 rfl rfl ?_
 refine d3 X47 f d Y e47 O (i6 w) Fst__45 M7 (fun T48 X48 e48 => ?_)
 refine f5 X48 f d M8 rfl ?_
 refine n7 X48 f d M9 ?_
 show c5 p e U m T48 193 L_6 [.int 3, .ref d13]
 refine c6 X48 f d O0 rfl rfl ?_
 refine d3 X48 f d Y e48 O (m6 w) Fw14__45 O1 (fun T49 X49 e49 => ?_)
 refine c6 X49 f d O2 rfl rfl ?_
 refine d3 X49 f d Y e49 O (i6 w) Fst__45 O3 (fun T50 X50 e50 => ?_)
 refine n3 X50 f d Y e50 Vw45 ⟨by decide, by decide⟩ rfl O4 ?_
 refine c6 X50 f d O5 rfl rfl ?_
 refine d3 X50 f d Y e50 O (m6 w) Fnu__45 O6 (fun T52 X52 e52 => ?_)
 refine f5 X52 f d O7 rfl ?_
 refine n3 X52 f d Y e52 Agu__45 ⟨by decide, by decide⟩ rfl O8 ?_
 refine n7 X52 f d O9 ?_
 show c5 p e U m T52 210 L_6 [(.int (p1 + q2)), .int 3, .ref d13]
 obtain ⟨cl54, Ar54, qa54, Sa54, Na54, Ha54, Ga54⟩ := id Vw45
 have hin54 : ¬ ((3 : Int32) < 0 ∨ cl54.slots.size ≤ ((3 : Int32)).toNatClampNeg) := inb_of Sa54 ⟨by decide, by decide⟩
 obtain ⟨T54, h54, X54, e54, W54, st54⟩ := stI X52 f Y e52 Ar54 (j := (3 : Int32)) hin54 (g := (mkF m 210 L_6 [(.int (p1 + q2)), .int 3, .ref d13])) rfl rfl (hb d P0)
 have Vw54 := u0 Ar54 qa54 Sa54 Na54 Ha54 Ga54 rfl W54 rfl
 replace Vw54 : Arv Z h54 d13 kd13 .int 17 [.int 0, .int p1, (.int (p1 + q1)), (.int (p1 + q2))] (.int 0) := Vw54
 have Et__54 := Et__45.wr W54
 have Fst__54 := Fst__45.other W54 (Or.inl ne_oa_d13)
 have Fw11__54 := Fw11__45.other W54 (Or.inl ne_oa_d13)
 have Fw14__54 := Fw14__45.other W54 (Or.inl ne_oa_d13)
 have Fbt__54 := Fbt__45.other W54 (Or.inl ne_oa_d13)
 have Flt__54 := Flt__45.other W54 (Or.inl ne_oa_d13)
 have Ebt__54 := Ebt__45.wr W54
 have Fsu__54 := Fsu__45.other W54 (Or.inl ne_ob_d13)
 have Flu__54 := Flu__45.other W54 (Or.inl ne_ob_d13)
 have A27__54 := A27__45.other W54 ne_d10_d13
 have Ac36__54 := Ac36__45.other W54 ne_tb_d13
 have N54 := Fr.snoc X54 N45 g_d13
 have KP54 := KP45.wr W54 (Or.inr sz_d13)
 refine c8 st54 ?_
 show c5 p e U m T54 211 L_6 []
 let L_7 : Array Slot := #[oR oa,oR ob,oI 3,(oI (p1 + q2)),oI 3]
 refine c8 (fun t k => XS.iinc X54.here f rfl (hb d P1) rfl (l' := L_7) rfl k) ?_
 show c5 p e U m T54 214 L_7 []
 refine m5 (pc := 214) (pc' := 173) X54 f d P2 ?_
 refine f5 X54 f d C6 rfl ?_
 refine c6 X54 f d C7 rfl rfl ?_
 refine d3 X54 f d Y e54 O (i6 w) Fsu__54 C8 (fun T55 X55 e55 => ?_)
 refine j5 (pc := 179) (pc' := 217) X55 f d C9 (tlt (by decide : (2 : Int32) < (3 : Int32))).2.2.1 ?_
 refine c6 X55 f d ad8 rfl rfl ?_
 refine f4 X55 f d ad9 rfl ?_
 obtain ⟨T56, h56, X56, e56, W56, st56⟩ := putF X55 f Y O (host := "") (Or.inl (i6 w)) Via.refl e55 Fst__54 Et__54 (Or.inl (w5 w)) (o0 w) (ty := .int) (by decide) rfl rfl (g := (mkF m 219 L_7 [.int 3, .ref oa])) rfl rfl (hb d ae0)
 have Fw56 := Fst__54.same W56
 have Et__56 := Et__54.wr W56
 have Fw11__56 := Fw11__54.other W56 (Or.inr (J4 w))
 have Fw14__56 := Fw14__54.other W56 (Or.inr (J5 w))
 have Fbt__56 := Fbt__54.other W56 (Or.inr (J6 w))
 have Flt__56 := Flt__54.other W56 (Or.inr (J7 w))
 have Ebt__56 := Ebt__54.wr W56
 have Flu__56 := Flu__54.other W56 (Or.inl (i9 dj 0 0 rfl rfl))
 have Vw54__56 := Vw54.other W56 (Ne.symm ne_oa_d13)
 have A27__56 := A27__54.other W56 (Ne.symm ne_oa_d10)
 have Ac36__56 := Ac36__54.other W56 (Ne.symm ne_otb)
 have N56 := Fr.snoc X56 N54 g_oa
 have KP56 := KP54.wr W56 (Or.inl (List.mem_of_getElem? (i := 0) rfl))
 refine c8 st56 ?_
 show c5 p e U m T56 222 L_7 []
 refine c6 X56 f d ae1 rfl rfl ?_
 refine c6 X56 f d ae2 rfl rfl ?_
 refine d3 X56 f d Y e56 O (B3 w) Flu__56 ae3 (fun T57 X57 e57 => ?_)
 obtain ⟨T58, h58, X58, e58, W58, st58⟩ := putF X57 f Y O (host := "") (Or.inl (B3 w)) Via.refl e57 Flt__56 Et__56 (Or.inl (w6 w)) (o0 w) (ty := (.object "java/math/BigInteger")) (by decide) rfl rfl (g := (mkF m 227 L_7 [.ref lcb, .ref oa])) rfl rfl (hb d ae4)
 have Fw58 := Flt__56.same W58
 have Et__58 := Et__56.wr W58
 have Fw56__58 := Fw56.other W58 (Or.inr (J8 w))
 have Fw11__58 := Fw11__56.other W58 (Or.inr (J9 w))
 have Fw14__58 := Fw14__56.other W58 (Or.inr (K0 w))
 have Fbt__58 := Fbt__56.other W58 (Or.inr (L0 w))
 have Ebt__58 := Ebt__56.wr W58
 have Vw54__58 := Vw54__56.other W58 (Ne.symm ne_oa_d13)
 have A27__58 := A27__56.other W58 (Ne.symm ne_oa_d10)
 have Ac36__58 := Ac36__56.other W58 (Ne.symm ne_otb)
 have N58 := Fr.snoc X58 N56 g_oa
 have KP58 := KP56.wr W58 (Or.inl (List.mem_of_getElem? (i := 0) rfl))
 refine c8 st58 ?_
 show c5 p e U m T58 230 L_7 []
 exact q0 X58 f R (hb d ae5) (by rw [e58]; exact ⟨rfl, N58, KP58, [oa, d10, d13, tb], 64, ⟨_, _, _, _, _, _, rfl, ⟨Et__58, Fw56__58, Fw11__58, Fw14__58, Fbt__58, Fw58⟩, A27__58, (by have q := Vw54__58; rw [hq2, aD3, hq1, ae7, hp1] at q; exact q), (by have q := Ac36__58; simpa [m9] using q), Ebt__58⟩, (by have q1 := tp.2.2; have q2 := tq.2.2; have e1 : (64 : Int32).toNatClampNeg = 64 := (by decide); rw [e1]; simp at q1 q2 ⊢; omega)⟩) (by decide) (by decide)
def ce3 (Z : State) (oa : Addr) (x0 x1 : List Int32) (f0 f1 : Int64) (y0 : List Int32) (g0 : Int64) (Wa : List Addr) (lcb : Addr) (h0 : Heap) (n0 : Nat) (v : Option Value) (h : Heap) (L : List Loc) : Prop := v = none ∧ Fr n0 L ∧ Keep h0 h Wa ∧ ∃ (W' : List Addr) (cb : Int32), own_L Z h oa [x0, x1, y0] [f0, f1, g0] W' (.ref lcb) 16 17 cb ∧ [x0, x1, y0].flatten.length ≤ cb.toNatClampNeg
theorem cH2 (l : Launch) (Z : State) (a0 : Array Value) (w : j9 Z a0) (ws : List Jvm.Cond) (x0 x1 : List Int32) (f0 f1 : Int64) (y0 : List Int32) (g0 : Int64) (oa ob : Addr) (Wa Wb : List Addr) (lca : Value) (lcb : Addr) (h0 : Heap) (n0 : Nat) (Z0 : n0 ≤ h0.size) (La : own_L Z h0 oa [x0, x1] [f0, f1] Wa lca 16 17 64) (Lb : own_L Z h0 ob [y0] [g0] Wb (.ref lcb) 1 2 64) (gW : ∀ y ∈ Wa, n0 ≤ y) (dj : ∀ y ∈ Wb, y ∉ Wa) (r_lca : lca.isRef = true) (hx0 : 1 ≤ x0.length ∧ x0.length ≤ 2) (hx1 : 1 ≤ x1.length ∧ x1.length ≤ 2) (hy0 : 1 ≤ y0.length ∧ y0.length ≤ 2) :
 l0 l Z h0 Y3 f8 5 none ws (Jvm.Room.mk 2 3 41 56) #[.ref oa, .ref ob] (ce3 Z oa x0 x1 f0 f1 y0 g0 Wa lcb h0 n0) := by
 refine l7 (Ls := #[.val (.ref oa), .val (.ref ob), .unset, .unset, .unset]) (plainFor_of_name E0) (fun p e s m U meth c s₁ Y hh f d r O hnm hlk R X0 e0 => ?_)
 replace O : s.vm.findClass "com/example/prizewell/prizewell/core/TicketRanges" = some m.cls := O
 have N0 := Fr.nil n0
 obtain ⟨tf, tn, tb, ktf, ktn, ktb, rfl, ⟨Et, Fst, Fft, Fnt, Fbt, Flt⟩, Aft, Agt, Abt, Ebt⟩ := id La
 replace Fst : Fld Z h0 oa "com/example/prizewell/prizewell/core/TicketRanges" "size" "I" (.int 2) := Fst
 obtain ⟨uf, un, ub, kuf, kun, kub, rfl, ⟨Eu, Fsu, Ffu, Fnu, Fbu, Flu⟩, Afu, Agu, Abu, Ebu⟩ := id Lb
 replace Fsu : Fld Z h0 ob "com/example/prizewell/prizewell/core/TicketRanges" "size" "I" (.int 1) := Fsu
 obtain ⟨p1, hp1⟩ : ∃ z, z = 0 + p6 x0 := ⟨_, rfl⟩
 obtain ⟨p2, hp2⟩ : ∃ z, z = 0 + p6 x0 + p6 x1 := ⟨_, rfl⟩
 replace Agt : Arv Z h0 tn ktn .int 17 [.int 0, .int p1, .int p2] (.int 0) := by rw [hp1, hp2]; exact Agt
 obtain ⟨q1, hq1⟩ : ∃ z, z = 0 + p6 y0 := ⟨_, rfl⟩
 replace Agu : Arv Z h0 un kun .int 2 [.int 0, .int q1] (.int 0) := by rw [hq1]; exact Agu
 have tq := G9 (css := [y0]) hq1 (Y9 hy0) (j6 rfl)
 have tp := G9 (css := [x0, x1]) hp2 (al6 hx0 hx1) (j6 rfl)
 have hyn : q1.toNatClampNeg = (m9 [y0].flatten).length := by rw [x2]; exact H2 tq.1
 have hy4 : (m9 [y0].flatten).length ≤ 4 := by rw [x2]; exact tq.2.2
 have hxn : p2.toNatClampNeg = (m9 [x0, x1].flatten).length := by rw [x2]; exact H2 tp.1
 have hx4 : (m9 [x0, x1].flatten).length ≤ 4 := by rw [x2]; exact tp.2.2
 have g_oa := gW _ (List.mem_of_getElem? (i := 0) rfl)
 have g_tf := gW _ (List.mem_of_getElem? (i := 1) rfl)
 have g_tn := gW _ (List.mem_of_getElem? (i := 2) rfl)
 have g_tb := gW _ (List.mem_of_getElem? (i := 3) rfl)
 have ne_otf := Exa.neArv Et Aft (o0 w)
 have ne_otn := Exa.neArv Et Agt (o0 w)
 have ne_otb := Exa.neArv Et Abt (o0 w)
 let L_1 : Array Slot := #[oR oa,oR ob,oU,oU,oU]
 show c5 p e U m s₁ 0 L_1 []
 refine c6 X0 f d V0 rfl rfl ?_
 refine d3 X0 f d Y e0 O (i6 w) Fsu V8 (fun T1 X1 e1 => ?_)
 refine o2 (pc := 4) (pc' := 8) X1 f d W0 ((if0 _ _).trans (feq (by decide : ¬ ((1 : Int32) = (0 : Int32)))).2) ?_
 refine c6 X1 f d ak6 rfl rfl ?_
 refine d3 X1 f d Y e1 O (i6 w) Fst ak7 (fun T2 X2 e2 => ?_)
 refine c6 X2 f d ag5 rfl rfl ?_
 refine d3 X2 f d Y e2 O (i6 w) Fsu ag6 (fun T3 X3 e3 => ?_)
 refine n7 X3 f d ag7 ?_
 show c5 p e U m T3 17 L_1 [.int 3]
 let L_2 : Array Slot := #[oR oa,oR ob,oI 3,oU,oU]
 refine p8 X3 f d ag8 (l' := L_2) rfl ?_
 refine f4 X3 f d ag9 rfl ?_
 refine c6 X3 f d ah0 rfl rfl ?_
 refine d3 X3 f d Y e3 O (o9 w) Fft ah1 (fun T4 X4 e4 => ?_)
 refine m7 X4 f d Y e4 Aft ah2 ?_
 refine j5 (pc := 24) (pc' := 69) X4 f d ah3 (flt (by decide : ¬ ((16 : Int32) < (3 : Int32)))).2.2.2 ?_
 refine c6 X4 f d ah4 rfl rfl ?_
 refine d3 X4 f d Y e4 O (m6 w) Fnt ah5 (fun T6 X6 e6 => ?_)
 refine c6 X6 f d ah6 rfl rfl ?_
 refine d3 X6 f d Y e6 O (i6 w) Fst ah7 (fun T7 X7 e7 => ?_)
 refine n3 X7 f d Y e7 Agt ⟨by decide, by decide⟩ rfl ah8 ?_
 refine c6 X7 f d ah9 rfl rfl ?_
 refine d3 X7 f d Y e7 O (m6 w) Fnu ai0 (fun T9 X9 e9 => ?_)
 refine c6 X9 f d ai1 rfl rfl ?_
 refine d3 X9 f d Y e9 O (i6 w) Fsu ai2 (fun T10 X10 e10 => ?_)
 refine n3 X10 f d Y e10 Agu ⟨by decide, by decide⟩ rfl ai3 ?_
 refine n7 X10 f d ai4 ?_
 show c5 p e U m T10 88 L_2 [(.int (p2 + q1))]
 let L_3 : Array Slot := #[oR oa,oR ob,oI 3,(oI (p2 + q1)),oU]
 refine p8 X10 f d ai5 (l' := L_3) rfl ?_
 refine f4 X10 f d ai6 rfl ?_
 refine c6 X10 f d ai7 rfl rfl ?_
 refine d3 X10 f d Y e10 O (o8 w) Fbt ai8 (fun T12 X12 e12 => ?_)
 refine m7 X12 f d Y e12 Abt ai9 ?_
 refine j5 (pc := 95) (pc' := 120) X12 f d aj0 (flt (Z5 tp.1 tq.1 tp.2.2 tq.2.2 : ¬ ((64 : Int32) < (p2 + q1)))).2.2.2 ?_
 refine c6 X12 f d ab0 rfl rfl ?_
 refine d3 X12 f d Y e12 O (o9 w) Ffu ab1 (fun T14 X14 e14 => ?_)
 refine f6 X14 f d ab2 (z := (0 : Int32)) rfl ?_
 refine c6 X14 f d ab3 rfl rfl ?_
 refine d3 X14 f d Y e14 O (o9 w) Fft ab4 (fun T15 X15 e15 => ?_)
 refine c6 X15 f d ab5 rfl rfl ?_
 refine d3 X15 f d Y e15 O (i6 w) Fst ab6 (fun T16 X16 e16 => ?_)
 refine c6 X16 f d ab7 rfl rfl ?_
 refine d3 X16 f d Y e16 O (i6 w) Fsu ab8 (fun T17 X17 e17 => ?_)
 obtain ⟨T18, h18, L18, X18, e18, N18, K18, A18, st18⟩ := cpA X17 f Y O (G4 w) (v4 w) (v2 w) (v3 w) e17 Afu (Arv.pad Aft (pad_rep [.long f0, .long f1] (.long (0 : Int64)) 1)) (us := [.long g0]) (Or.inl ⟨rfl, rfl⟩) (by decide) (by decide) (by decide) (by decide) (by decide) rfl (by exact j6 rfl) N0 g_tf (g := (mkF m 137 L_3 [.int 1, .int 2, .ref tf, .int 0, .ref uf])) rfl (by rw [r]; rfl) rfl (hb d ab9) (by decide) (W := 0) (by show 2 * 0 + _ ≤ _; exact f7 rfl) (by decide)
 have Et__18 := Et.keep K18
 have Fst__18 := Fst.keep K18 (ninS ne_otf nin0)
 have Fft__18 := Fft.keep K18 (ninS ne_otf nin0)
 have Fnt__18 := Fnt.keep K18 (ninS ne_otf nin0)
 have Fbt__18 := Fbt.keep K18 (ninS ne_otf nin0)
 have Flt__18 := Flt.keep K18 (ninS ne_otf nin0)
 have Agt__18 := Agt.keep K18 (ninS (Ne.symm (F5 Aft Agt (by decide))) nin0)
 have Abt__18 := Abt.keep K18 (ninS (Ne.symm (F5 Aft Abt (by decide))) nin0)
 have Ebt__18 := Ebt.keep K18
 have Fsu__18 := Fsu.keep K18 (ninS (i9 dj 0 1 rfl rfl) nin0)
 have Fnu__18 := Fnu.keep K18 (ninS (i9 dj 0 1 rfl rfl) nin0)
 have Fbu__18 := Fbu.keep K18 (ninS (i9 dj 0 1 rfl rfl) nin0)
 have Flu__18 := Flu.keep K18 (ninS (i9 dj 0 1 rfl rfl) nin0)
 have Agu__18 := Agu.keep K18 (ninS (i9 dj 2 1 rfl rfl) nin0)
 have Abu__18 := Abu.keep K18 (ninS (i9 dj 3 1 rfl rfl) nin0)
 have KP18 := (Keep.refl h0 [oa, tf, tn, tb]).trans K18 (allS (Or.inl (List.mem_of_getElem? (i := 1) rfl)) all0)
 refine c8 st18 ?_
 show c5 p e U m T18 140 L_3 []
 refine c6 X18 f d ac0 rfl rfl ?_
 refine d3 X18 f d Y e18 O (o8 w) Fbu__18 ac1 (fun T19 X19 e19 => ?_)
 refine f6 X19 f d ac2 (z := (0 : Int32)) rfl ?_
 refine c6 X19 f d ac3 rfl rfl ?_
 refine d3 X19 f d Y e19 O (o8 w) Fbt__18 ac4 (fun T20 X20 e20 => ?_)
 refine c6 X20 f d ac5 rfl rfl ?_
 refine d3 X20 f d Y e20 O (m6 w) Fnt__18 ac6 (fun T21 X21 e21 => ?_)
 refine c6 X21 f d ac7 rfl rfl ?_
 refine d3 X21 f d Y e21 O (i6 w) Fst__18 ac8 (fun T22 X22 e22 => ?_)
 refine n3 X22 f d Y e22 Agt__18 ⟨by decide, by decide⟩ rfl ac9 ?_
 refine c6 X22 f d ad0 rfl rfl ?_
 refine d3 X22 f d Y e22 O (m6 w) Fnu__18 ad1 (fun T24 X24 e24 => ?_)
 refine c6 X24 f d ad2 rfl rfl ?_
 refine d3 X24 f d Y e24 O (i6 w) Fsu__18 ad3 (fun T25 X25 e25 => ?_)
 refine n3 X25 f d Y e25 Agu__18 ⟨by decide, by decide⟩ rfl ad4 ?_
 obtain ⟨T27, h27, L27, X27, e27, N27, K27, A27, st27⟩ := cpA X25 f Y O (G4 w) (v4 w) (v2 w) (v3 w) e25 Abu__18 (Arv.pad Abt__18 (pad_rep (m9 [x0, x1].flatten) (.int 0) 4)) (us := (m9 [y0].flatten)) (Or.inl ⟨rfl, rfl⟩) (by decide) (G3 tp.1) (G3 tq.1) (by rw [hyn]; exact c9 (f7 (Nat.zero_add _)) (c9 hy4 (by decide))) (by rw [hxn, hyn]; exact c9 (Nat.add_le_add hx4 hy4) (by decide)) (by rw [hyn]; exact ae6 _ _) (by rw [hxn, hyn, List.length_append]; exact Nat.add_le_add_left hy4 _) N18 g_tb (g := (mkF m 167 L_3 [.int q1, .int p2, .ref tb, .int 0, .ref ub])) rfl (by rw [r]; rfl) rfl (hb d ad5) (by decide) (W := 0) (by show 2 * 0 + _ ≤ _; exact f7 rfl) (by decide)
 have Ac27 := Arv.pad A27 (Z4 (m9 [x0, x1].flatten) (m9 [y0].flatten) (.int 0) hxn hyn)
 have Et__27 := Et__18.keep K27
 have Fst__27 := Fst__18.keep K27 (ninS ne_otb nin0)
 have Fft__27 := Fft__18.keep K27 (ninS ne_otb nin0)
 have Fnt__27 := Fnt__18.keep K27 (ninS ne_otb nin0)
 have Fbt__27 := Fbt__18.keep K27 (ninS ne_otb nin0)
 have Flt__27 := Flt__18.keep K27 (ninS ne_otb nin0)
 have Agt__27 := Agt__18.keep K27 (ninS (F5 Agt Abt (by decide)) nin0)
 have Ebt__27 := Ebt__18.keep K27
 have Fsu__27 := Fsu__18.keep K27 (ninS (i9 dj 0 3 rfl rfl) nin0)
 have Fnu__27 := Fnu__18.keep K27 (ninS (i9 dj 0 3 rfl rfl) nin0)
 have Flu__27 := Flu__18.keep K27 (ninS (i9 dj 0 3 rfl rfl) nin0)
 have Agu__27 := Agu__18.keep K27 (ninS (i9 dj 2 3 rfl rfl) nin0)
 have A18__27 := A18.keep K27 (ninS (F5 Aft Abt (by decide)) nin0)
 have KP27 := KP18.trans K27 (allS (Or.inl (List.mem_of_getElem? (i := 3) rfl)) all0)
 refine c8 st27 ?_
 show c5 p e U m T27 170 L_3 []
 refine f6 X27 f d ad6 (z := (1 : Int32)) rfl ?_
 let L_4 : Array Slot := #[oR oa,oR ob,oI 3,(oI (p2 + q1)),oI 1]
 refine o4 X27 f d ad7 (l' := L_4) rfl ?_
 refine f5 X27 f d C6 rfl ?_
 refine c6 X27 f d C7 rfl rfl ?_
 refine d3 X27 f d Y e27 O (i6 w) Fsu__27 C8 (fun T28 X28 e28 => ?_)
 refine m4 X28 f d C9 (flt (by decide : ¬ ((1 : Int32) < (1 : Int32)))).2.2.1 ?_
 refine c6 X28 f d M4 rfl rfl ?_
 refine d3 X28 f d Y e28 O (m6 w) Fnt__27 M5 (fun T29 X29 e29 => ?_)
 refine c6 X29 f d M6 rfl rfl ?_
 refine d3 X29 f d Y e29 O (i6 w) Fst__27 M7 (fun T30 X30 e30 => ?_)
 refine f5 X30 f d M8 rfl ?_
 refine n7 X30 f d M9 ?_
 show c5 p e U m T30 193 L_4 [.int 3, .ref tn]
 refine c6 X30 f d O0 rfl rfl ?_
 refine d3 X30 f d Y e30 O (m6 w) Fnt__27 O1 (fun T31 X31 e31 => ?_)
 refine c6 X31 f d O2 rfl rfl ?_
 refine d3 X31 f d Y e31 O (i6 w) Fst__27 O3 (fun T32 X32 e32 => ?_)
 refine n3 X32 f d Y e32 Agt__27 ⟨by decide, by decide⟩ rfl O4 ?_
 refine c6 X32 f d O5 rfl rfl ?_
 refine d3 X32 f d Y e32 O (m6 w) Fnu__27 O6 (fun T34 X34 e34 => ?_)
 refine f5 X34 f d O7 rfl ?_
 refine n3 X34 f d Y e34 Agu__27 ⟨by decide, by decide⟩ rfl O8 ?_
 refine n7 X34 f d O9 ?_
 show c5 p e U m T34 210 L_4 [(.int (p2 + q1)), .int 3, .ref tn]
 obtain ⟨cl36, Ar36, qa36, Sa36, Na36, Ha36, Ga36⟩ := id Agt__27
 have hin36 : ¬ ((3 : Int32) < 0 ∨ cl36.slots.size ≤ ((3 : Int32)).toNatClampNeg) := inb_of Sa36 ⟨by decide, by decide⟩
 obtain ⟨T36, h36, X36, e36, W36, st36⟩ := stI X34 f Y e34 Ar36 (j := (3 : Int32)) hin36 (g := (mkF m 210 L_4 [(.int (p2 + q1)), .int 3, .ref tn])) rfl rfl (hb d P0)
 have Vw36 := u0 Ar36 qa36 Sa36 Na36 Ha36 Ga36 rfl W36 rfl
 replace Vw36 : Arv Z h36 tn ktn .int 17 [.int 0, .int p1, .int p2, (.int (p2 + q1))] (.int 0) := Vw36
 have Et__36 := Et__27.wr W36
 have Fst__36 := Fst__27.other W36 (Or.inl ne_otn)
 have Fft__36 := Fft__27.other W36 (Or.inl ne_otn)
 have Fnt__36 := Fnt__27.other W36 (Or.inl ne_otn)
 have Fbt__36 := Fbt__27.other W36 (Or.inl ne_otn)
 have Flt__36 := Flt__27.other W36 (Or.inl ne_otn)
 have Ebt__36 := Ebt__27.wr W36
 have Fsu__36 := Fsu__27.other W36 (Or.inl (i9 dj 0 2 rfl rfl))
 have Flu__36 := Flu__27.other W36 (Or.inl (i9 dj 0 2 rfl rfl))
 have A18__36 := A18__27.other W36 (F5 Aft Agt (by decide))
 have Ac27__36 := Ac27.other W36 (Ne.symm (F5 Agt Abt (by decide)))
 have N36 := Fr.snoc X36 N27 g_tn
 have KP36 := KP27.wr W36 (Or.inl (List.mem_of_getElem? (i := 2) rfl))
 refine c8 st36 ?_
 show c5 p e U m T36 211 L_4 []
 let L_5 : Array Slot := #[oR oa,oR ob,oI 3,(oI (p2 + q1)),oI 2]
 refine c8 (fun t k => XS.iinc X36.here f rfl (hb d P1) rfl (l' := L_5) rfl k) ?_
 show c5 p e U m T36 214 L_5 []
 refine m5 (pc := 214) (pc' := 173) X36 f d P2 ?_
 refine f5 X36 f d C6 rfl ?_
 refine c6 X36 f d C7 rfl rfl ?_
 refine d3 X36 f d Y e36 O (i6 w) Fsu__36 C8 (fun T37 X37 e37 => ?_)
 refine j5 (pc := 179) (pc' := 217) X37 f d C9 (tlt (by decide : (1 : Int32) < (2 : Int32))).2.2.1 ?_
 refine c6 X37 f d ad8 rfl rfl ?_
 refine f4 X37 f d ad9 rfl ?_
 obtain ⟨T38, h38, X38, e38, W38, st38⟩ := putF X37 f Y O (host := "") (Or.inl (i6 w)) Via.refl e37 Fst__36 Et__36 (Or.inl (w5 w)) (o0 w) (ty := .int) (by decide) rfl rfl (g := (mkF m 219 L_5 [.int 3, .ref oa])) rfl rfl (hb d ae0)
 have Fw38 := Fst__36.same W38
 have Et__38 := Et__36.wr W38
 have Fft__38 := Fft__36.other W38 (Or.inr (J4 w))
 have Fnt__38 := Fnt__36.other W38 (Or.inr (J5 w))
 have Fbt__38 := Fbt__36.other W38 (Or.inr (J6 w))
 have Flt__38 := Flt__36.other W38 (Or.inr (J7 w))
 have Vw36__38 := Vw36.other W38 (Ne.symm ne_otn)
 have Ebt__38 := Ebt__36.wr W38
 have Flu__38 := Flu__36.other W38 (Or.inl (i9 dj 0 0 rfl rfl))
 have A18__38 := A18__36.other W38 (Ne.symm ne_otf)
 have Ac27__38 := Ac27__36.other W38 (Ne.symm ne_otb)
 have N38 := Fr.snoc X38 N36 g_oa
 have KP38 := KP36.wr W38 (Or.inl (List.mem_of_getElem? (i := 0) rfl))
 refine c8 st38 ?_
 show c5 p e U m T38 222 L_5 []
 refine c6 X38 f d ae1 rfl rfl ?_
 refine c6 X38 f d ae2 rfl rfl ?_
 refine d3 X38 f d Y e38 O (B3 w) Flu__38 ae3 (fun T39 X39 e39 => ?_)
 obtain ⟨T40, h40, X40, e40, W40, st40⟩ := putF X39 f Y O (host := "") (Or.inl (B3 w)) Via.refl e39 Flt__38 Et__38 (Or.inl (w6 w)) (o0 w) (ty := (.object "java/math/BigInteger")) (by decide) rfl rfl (g := (mkF m 227 L_5 [.ref lcb, .ref oa])) rfl rfl (hb d ae4)
 have Fw40 := Flt__38.same W40
 have Et__40 := Et__38.wr W40
 have Fw38__40 := Fw38.other W40 (Or.inr (J8 w))
 have Fft__40 := Fft__38.other W40 (Or.inr (J9 w))
 have Fnt__40 := Fnt__38.other W40 (Or.inr (K0 w))
 have Fbt__40 := Fbt__38.other W40 (Or.inr (L0 w))
 have Vw36__40 := Vw36__38.other W40 (Ne.symm ne_otn)
 have Ebt__40 := Ebt__38.wr W40
 have A18__40 := A18__38.other W40 (Ne.symm ne_otf)
 have Ac27__40 := Ac27__38.other W40 (Ne.symm ne_otb)
 have N40 := Fr.snoc X40 N38 g_oa
 have KP40 := KP38.wr W40 (Or.inl (List.mem_of_getElem? (i := 0) rfl))
 refine c8 st40 ?_
 show c5 p e U m T40 230 L_5 []
 exact q0 X40 f R (hb d ae5) (by rw [e40]; exact ⟨rfl, N40, KP40, [oa, tf, tn, tb], 64, ⟨_, _, _, _, _, _, rfl, ⟨Et__40, Fw38__40, Fft__40, Fnt__40, Fbt__40, Fw40⟩, A18__40, (by have q := Vw36__40; rw [hq1, ae7, hp2, hp1] at q; exact q), (by have q := Ac27__40; simpa [m9] using q), Ebt__40⟩, (by have q1 := tp.2.2; have q2 := tq.2.2; have e1 : (64 : Int32).toNatClampNeg = 64 := (by decide); rw [e1]; simp at q1 q2 ⊢; omega)⟩) (by decide) (by decide)
def ce4 (Z : State) (oa : Addr) (x0 x1 : List Int32) (f0 f1 : Int64) (y0 y1 : List Int32) (g0 g1 : Int64) (Wa : List Addr) (lcb : Addr) (h0 : Heap) (n0 : Nat) (v : Option Value) (h : Heap) (L : List Loc) : Prop := v = none ∧ Fr n0 L ∧ Keep h0 h Wa ∧ ∃ (W' : List Addr) (cb : Int32), own_L Z h oa [x0, x1, y0, y1] [f0, f1, g0, g1] W' (.ref lcb) 16 17 cb ∧ [x0, x1, y0, y1].flatten.length ≤ cb.toNatClampNeg
theorem cH3 (l : Launch) (Z : State) (a0 : Array Value) (w : j9 Z a0) (ws : List Jvm.Cond) (x0 x1 : List Int32) (f0 f1 : Int64) (y0 y1 : List Int32) (g0 g1 : Int64) (oa ob : Addr) (Wa Wb : List Addr) (lca : Value) (lcb : Addr) (h0 : Heap) (n0 : Nat) (Z0 : n0 ≤ h0.size) (La : own_L Z h0 oa [x0, x1] [f0, f1] Wa lca 16 17 64) (Lb : own_L Z h0 ob [y0, y1] [g0, g1] Wb (.ref lcb) 16 17 64) (gW : ∀ y ∈ Wa, n0 ≤ y) (dj : ∀ y ∈ Wb, y ∉ Wa) (r_lca : lca.isRef = true) (hx0 : 1 ≤ x0.length ∧ x0.length ≤ 2) (hx1 : 1 ≤ x1.length ∧ x1.length ≤ 2) (hy0 : 1 ≤ y0.length ∧ y0.length ≤ 2) (hy1 : 1 ≤ y1.length ∧ y1.length ≤ 2) :
 l0 l Z h0 Y3 f8 5 none ws (Jvm.Room.mk 2 3 41 56) #[.ref oa, .ref ob] (ce4 Z oa x0 x1 f0 f1 y0 y1 g0 g1 Wa lcb h0 n0) := by
 refine l7 (Ls := #[.val (.ref oa), .val (.ref ob), .unset, .unset, .unset]) (plainFor_of_name E0) (fun p e s m U meth c s₁ Y hh f d r O hnm hlk R X0 e0 => ?_)
 replace O : s.vm.findClass "com/example/prizewell/prizewell/core/TicketRanges" = some m.cls := O
 have N0 := Fr.nil n0
 obtain ⟨tf, tn, tb, ktf, ktn, ktb, rfl, ⟨Et, Fst, Fft, Fnt, Fbt, Flt⟩, Aft, Agt, Abt, Ebt⟩ := id La
 replace Fst : Fld Z h0 oa "com/example/prizewell/prizewell/core/TicketRanges" "size" "I" (.int 2) := Fst
 obtain ⟨uf, un, ub, kuf, kun, kub, rfl, ⟨Eu, Fsu, Ffu, Fnu, Fbu, Flu⟩, Afu, Agu, Abu, Ebu⟩ := id Lb
 replace Fsu : Fld Z h0 ob "com/example/prizewell/prizewell/core/TicketRanges" "size" "I" (.int 2) := Fsu
 obtain ⟨p1, hp1⟩ : ∃ z, z = 0 + p6 x0 := ⟨_, rfl⟩
 obtain ⟨p2, hp2⟩ : ∃ z, z = 0 + p6 x0 + p6 x1 := ⟨_, rfl⟩
 replace Agt : Arv Z h0 tn ktn .int 17 [.int 0, .int p1, .int p2] (.int 0) := by rw [hp1, hp2]; exact Agt
 obtain ⟨q1, hq1⟩ : ∃ z, z = 0 + p6 y0 := ⟨_, rfl⟩
 obtain ⟨q2, hq2⟩ : ∃ z, z = 0 + p6 y0 + p6 y1 := ⟨_, rfl⟩
 replace Agu : Arv Z h0 un kun .int 17 [.int 0, .int q1, .int q2] (.int 0) := by rw [hq1, hq2]; exact Agu
 have tq := G9 (css := [y0, y1]) hq2 (al6 hy0 hy1) (j6 rfl)
 have tp := G9 (css := [x0, x1]) hp2 (al6 hx0 hx1) (j6 rfl)
 have hyn : q2.toNatClampNeg = (m9 [y0, y1].flatten).length := by rw [x2]; exact H2 tq.1
 have hy4 : (m9 [y0, y1].flatten).length ≤ 4 := by rw [x2]; exact tq.2.2
 have hxn : p2.toNatClampNeg = (m9 [x0, x1].flatten).length := by rw [x2]; exact H2 tp.1
 have hx4 : (m9 [x0, x1].flatten).length ≤ 4 := by rw [x2]; exact tp.2.2
 have g_oa := gW _ (List.mem_of_getElem? (i := 0) rfl)
 have g_tf := gW _ (List.mem_of_getElem? (i := 1) rfl)
 have g_tn := gW _ (List.mem_of_getElem? (i := 2) rfl)
 have g_tb := gW _ (List.mem_of_getElem? (i := 3) rfl)
 have ne_otf := Exa.neArv Et Aft (o0 w)
 have ne_otn := Exa.neArv Et Agt (o0 w)
 have ne_otb := Exa.neArv Et Abt (o0 w)
 let L_1 : Array Slot := #[oR oa,oR ob,oU,oU,oU]
 show c5 p e U m s₁ 0 L_1 []
 refine c6 X0 f d V0 rfl rfl ?_
 refine d3 X0 f d Y e0 O (i6 w) Fsu V8 (fun T1 X1 e1 => ?_)
 refine o2 (pc := 4) (pc' := 8) X1 f d W0 ((if0 _ _).trans (feq (by decide : ¬ ((2 : Int32) = (0 : Int32)))).2) ?_
 refine c6 X1 f d ak6 rfl rfl ?_
 refine d3 X1 f d Y e1 O (i6 w) Fst ak7 (fun T2 X2 e2 => ?_)
 refine c6 X2 f d ag5 rfl rfl ?_
 refine d3 X2 f d Y e2 O (i6 w) Fsu ag6 (fun T3 X3 e3 => ?_)
 refine n7 X3 f d ag7 ?_
 show c5 p e U m T3 17 L_1 [.int 4]
 let L_2 : Array Slot := #[oR oa,oR ob,oI 4,oU,oU]
 refine p8 X3 f d ag8 (l' := L_2) rfl ?_
 refine f4 X3 f d ag9 rfl ?_
 refine c6 X3 f d ah0 rfl rfl ?_
 refine d3 X3 f d Y e3 O (o9 w) Fft ah1 (fun T4 X4 e4 => ?_)
 refine m7 X4 f d Y e4 Aft ah2 ?_
 refine j5 (pc := 24) (pc' := 69) X4 f d ah3 (flt (by decide : ¬ ((16 : Int32) < (4 : Int32)))).2.2.2 ?_
 refine c6 X4 f d ah4 rfl rfl ?_
 refine d3 X4 f d Y e4 O (m6 w) Fnt ah5 (fun T6 X6 e6 => ?_)
 refine c6 X6 f d ah6 rfl rfl ?_
 refine d3 X6 f d Y e6 O (i6 w) Fst ah7 (fun T7 X7 e7 => ?_)
 refine n3 X7 f d Y e7 Agt ⟨by decide, by decide⟩ rfl ah8 ?_
 refine c6 X7 f d ah9 rfl rfl ?_
 refine d3 X7 f d Y e7 O (m6 w) Fnu ai0 (fun T9 X9 e9 => ?_)
 refine c6 X9 f d ai1 rfl rfl ?_
 refine d3 X9 f d Y e9 O (i6 w) Fsu ai2 (fun T10 X10 e10 => ?_)
 refine n3 X10 f d Y e10 Agu ⟨by decide, by decide⟩ rfl ai3 ?_
 refine n7 X10 f d ai4 ?_
 show c5 p e U m T10 88 L_2 [(.int (p2 + q2))]
 let L_3 : Array Slot := #[oR oa,oR ob,oI 4,(oI (p2 + q2)),oU]
 refine p8 X10 f d ai5 (l' := L_3) rfl ?_
 refine f4 X10 f d ai6 rfl ?_
 refine c6 X10 f d ai7 rfl rfl ?_
 refine d3 X10 f d Y e10 O (o8 w) Fbt ai8 (fun T12 X12 e12 => ?_)
 refine m7 X12 f d Y e12 Abt ai9 ?_
 refine j5 (pc := 95) (pc' := 120) X12 f d aj0 (flt (Z5 tp.1 tq.1 tp.2.2 tq.2.2 : ¬ ((64 : Int32) < (p2 + q2)))).2.2.2 ?_
 refine c6 X12 f d ab0 rfl rfl ?_
 refine d3 X12 f d Y e12 O (o9 w) Ffu ab1 (fun T14 X14 e14 => ?_)
 refine f6 X14 f d ab2 (z := (0 : Int32)) rfl ?_
 refine c6 X14 f d ab3 rfl rfl ?_
 refine d3 X14 f d Y e14 O (o9 w) Fft ab4 (fun T15 X15 e15 => ?_)
 refine c6 X15 f d ab5 rfl rfl ?_
 refine d3 X15 f d Y e15 O (i6 w) Fst ab6 (fun T16 X16 e16 => ?_)
 refine c6 X16 f d ab7 rfl rfl ?_
 refine d3 X16 f d Y e16 O (i6 w) Fsu ab8 (fun T17 X17 e17 => ?_)
 obtain ⟨T18, h18, L18, X18, e18, N18, K18, A18, st18⟩ := cpA X17 f Y O (G4 w) (v4 w) (v2 w) (v3 w) e17 Afu (Arv.pad Aft (pad_rep [.long f0, .long f1] (.long (0 : Int64)) 2)) (us := [.long g0, .long g1]) (Or.inl ⟨rfl, rfl⟩) (by decide) (by decide) (by decide) (by decide) (by decide) rfl (by exact j6 rfl) N0 g_tf (g := (mkF m 137 L_3 [.int 2, .int 2, .ref tf, .int 0, .ref uf])) rfl (by rw [r]; rfl) rfl (hb d ab9) (by decide) (W := 0) (by show 2 * 0 + _ ≤ _; exact f7 rfl) (by decide)
 have Et__18 := Et.keep K18
 have Fst__18 := Fst.keep K18 (ninS ne_otf nin0)
 have Fft__18 := Fft.keep K18 (ninS ne_otf nin0)
 have Fnt__18 := Fnt.keep K18 (ninS ne_otf nin0)
 have Fbt__18 := Fbt.keep K18 (ninS ne_otf nin0)
 have Flt__18 := Flt.keep K18 (ninS ne_otf nin0)
 have Agt__18 := Agt.keep K18 (ninS (Ne.symm (F5 Aft Agt (by decide))) nin0)
 have Abt__18 := Abt.keep K18 (ninS (Ne.symm (F5 Aft Abt (by decide))) nin0)
 have Ebt__18 := Ebt.keep K18
 have Fsu__18 := Fsu.keep K18 (ninS (i9 dj 0 1 rfl rfl) nin0)
 have Fnu__18 := Fnu.keep K18 (ninS (i9 dj 0 1 rfl rfl) nin0)
 have Fbu__18 := Fbu.keep K18 (ninS (i9 dj 0 1 rfl rfl) nin0)
 have Flu__18 := Flu.keep K18 (ninS (i9 dj 0 1 rfl rfl) nin0)
 have Agu__18 := Agu.keep K18 (ninS (i9 dj 2 1 rfl rfl) nin0)
 have Abu__18 := Abu.keep K18 (ninS (i9 dj 3 1 rfl rfl) nin0)
 have KP18 := (Keep.refl h0 [oa, tf, tn, tb]).trans K18 (allS (Or.inl (List.mem_of_getElem? (i := 1) rfl)) all0)
 refine c8 st18 ?_
 show c5 p e U m T18 140 L_3 []
 refine c6 X18 f d ac0 rfl rfl ?_
 refine d3 X18 f d Y e18 O (o8 w) Fbu__18 ac1 (fun T19 X19 e19 => ?_)
 refine f6 X19 f d ac2 (z := (0 : Int32)) rfl ?_
 refine c6 X19 f d ac3 rfl rfl ?_
 refine d3 X19 f d Y e19 O (o8 w) Fbt__18 ac4 (fun T20 X20 e20 => ?_)
 refine c6 X20 f d ac5 rfl rfl ?_
 refine d3 X20 f d Y e20 O (m6 w) Fnt__18 ac6 (fun T21 X21 e21 => ?_)
 refine c6 X21 f d ac7 rfl rfl ?_
 refine d3 X21 f d Y e21 O (i6 w) Fst__18 ac8 (fun T22 X22 e22 => ?_)
 refine n3 X22 f d Y e22 Agt__18 ⟨by decide, by decide⟩ rfl ac9 ?_
 refine c6 X22 f d ad0 rfl rfl ?_
 refine d3 X22 f d Y e22 O (m6 w) Fnu__18 ad1 (fun T24 X24 e24 => ?_)
 refine c6 X24 f d ad2 rfl rfl ?_
 refine d3 X24 f d Y e24 O (i6 w) Fsu__18 ad3 (fun T25 X25 e25 => ?_)
 refine n3 X25 f d Y e25 Agu__18 ⟨by decide, by decide⟩ rfl ad4 ?_
 obtain ⟨T27, h27, L27, X27, e27, N27, K27, A27, st27⟩ := cpA X25 f Y O (G4 w) (v4 w) (v2 w) (v3 w) e25 Abu__18 (Arv.pad Abt__18 (pad_rep (m9 [x0, x1].flatten) (.int 0) 4)) (us := (m9 [y0, y1].flatten)) (Or.inl ⟨rfl, rfl⟩) (by decide) (G3 tp.1) (G3 tq.1) (by rw [hyn]; exact c9 (f7 (Nat.zero_add _)) (c9 hy4 (by decide))) (by rw [hxn, hyn]; exact c9 (Nat.add_le_add hx4 hy4) (by decide)) (by rw [hyn]; exact ae6 _ _) (by rw [hxn, hyn, List.length_append]; exact Nat.add_le_add_left hy4 _) N18 g_tb (g := (mkF m 167 L_3 [.int q2, .int p2, .ref tb, .int 0, .ref ub])) rfl (by rw [r]; rfl) rfl (hb d ad5) (by decide) (W := 0) (by show 2 * 0 + _ ≤ _; exact f7 rfl) (by decide)
 have Ac27 := Arv.pad A27 (Z4 (m9 [x0, x1].flatten) (m9 [y0, y1].flatten) (.int 0) hxn hyn)
 have Et__27 := Et__18.keep K27
 have Fst__27 := Fst__18.keep K27 (ninS ne_otb nin0)
 have Fft__27 := Fft__18.keep K27 (ninS ne_otb nin0)
 have Fnt__27 := Fnt__18.keep K27 (ninS ne_otb nin0)
 have Fbt__27 := Fbt__18.keep K27 (ninS ne_otb nin0)
 have Flt__27 := Flt__18.keep K27 (ninS ne_otb nin0)
 have Agt__27 := Agt__18.keep K27 (ninS (F5 Agt Abt (by decide)) nin0)
 have Ebt__27 := Ebt__18.keep K27
 have Fsu__27 := Fsu__18.keep K27 (ninS (i9 dj 0 3 rfl rfl) nin0)
 have Fnu__27 := Fnu__18.keep K27 (ninS (i9 dj 0 3 rfl rfl) nin0)
 have Flu__27 := Flu__18.keep K27 (ninS (i9 dj 0 3 rfl rfl) nin0)
 have Agu__27 := Agu__18.keep K27 (ninS (i9 dj 2 3 rfl rfl) nin0)
 have A18__27 := A18.keep K27 (ninS (F5 Aft Abt (by decide)) nin0)
 have KP27 := KP18.trans K27 (allS (Or.inl (List.mem_of_getElem? (i := 3) rfl)) all0)
 refine c8 st27 ?_
 show c5 p e U m T27 170 L_3 []
 refine f6 X27 f d ad6 (z := (1 : Int32)) rfl ?_
 let L_4 : Array Slot := #[oR oa,oR ob,oI 4,(oI (p2 + q2)),oI 1]
 refine o4 X27 f d ad7 (l' := L_4) rfl ?_
 refine f5 X27 f d C6 rfl ?_
 refine c6 X27 f d C7 rfl rfl ?_
 refine d3 X27 f d Y e27 O (i6 w) Fsu__27 C8 (fun T28 X28 e28 => ?_)
 refine m4 X28 f d C9 (flt (by decide : ¬ ((2 : Int32) < (1 : Int32)))).2.2.1 ?_
 refine c6 X28 f d M4 rfl rfl ?_
 refine d3 X28 f d Y e28 O (m6 w) Fnt__27 M5 (fun T29 X29 e29 => ?_)
 refine c6 X29 f d M6 rfl rfl ?_
 refine d3 X29 f d Y e29 O (i6 w) Fst__27 M7 (fun T30 X30 e30 => ?_)
 refine f5 X30 f d M8 rfl ?_
 refine n7 X30 f d M9 ?_
 show c5 p e U m T30 193 L_4 [.int 3, .ref tn]
 refine c6 X30 f d O0 rfl rfl ?_
 refine d3 X30 f d Y e30 O (m6 w) Fnt__27 O1 (fun T31 X31 e31 => ?_)
 refine c6 X31 f d O2 rfl rfl ?_
 refine d3 X31 f d Y e31 O (i6 w) Fst__27 O3 (fun T32 X32 e32 => ?_)
 refine n3 X32 f d Y e32 Agt__27 ⟨by decide, by decide⟩ rfl O4 ?_
 refine c6 X32 f d O5 rfl rfl ?_
 refine d3 X32 f d Y e32 O (m6 w) Fnu__27 O6 (fun T34 X34 e34 => ?_)
 refine f5 X34 f d O7 rfl ?_
 refine n3 X34 f d Y e34 Agu__27 ⟨by decide, by decide⟩ rfl O8 ?_
 refine n7 X34 f d O9 ?_
 show c5 p e U m T34 210 L_4 [(.int (p2 + q1)), .int 3, .ref tn]
 obtain ⟨cl36, Ar36, qa36, Sa36, Na36, Ha36, Ga36⟩ := id Agt__27
 have hin36 : ¬ ((3 : Int32) < 0 ∨ cl36.slots.size ≤ ((3 : Int32)).toNatClampNeg) := inb_of Sa36 ⟨by decide, by decide⟩
 obtain ⟨T36, h36, X36, e36, W36, st36⟩ := stI X34 f Y e34 Ar36 (j := (3 : Int32)) hin36 (g := (mkF m 210 L_4 [(.int (p2 + q1)), .int 3, .ref tn])) rfl rfl (hb d P0)
 have Vw36 := u0 Ar36 qa36 Sa36 Na36 Ha36 Ga36 rfl W36 rfl
 replace Vw36 : Arv Z h36 tn ktn .int 17 [.int 0, .int p1, .int p2, (.int (p2 + q1))] (.int 0) := Vw36
 have Et__36 := Et__27.wr W36
 have Fst__36 := Fst__27.other W36 (Or.inl ne_otn)
 have Fft__36 := Fft__27.other W36 (Or.inl ne_otn)
 have Fnt__36 := Fnt__27.other W36 (Or.inl ne_otn)
 have Fbt__36 := Fbt__27.other W36 (Or.inl ne_otn)
 have Flt__36 := Flt__27.other W36 (Or.inl ne_otn)
 have Ebt__36 := Ebt__27.wr W36
 have Fsu__36 := Fsu__27.other W36 (Or.inl (i9 dj 0 2 rfl rfl))
 have Fnu__36 := Fnu__27.other W36 (Or.inl (i9 dj 0 2 rfl rfl))
 have Flu__36 := Flu__27.other W36 (Or.inl (i9 dj 0 2 rfl rfl))
 have Agu__36 := Agu__27.other W36 (i9 dj 2 2 rfl rfl)
 have A18__36 := A18__27.other W36 (F5 Aft Agt (by decide))
 have Ac27__36 := Ac27.other W36 (Ne.symm (F5 Agt Abt (by decide)))
 have N36 := Fr.snoc X36 N27 g_tn
 have KP36 := KP27.wr W36 (Or.inl (List.mem_of_getElem? (i := 2) rfl))
 refine c8 st36 ?_
 show c5 p e U m T36 211 L_4 []
 let L_5 : Array Slot := #[oR oa,oR ob,oI 4,(oI (p2 + q2)),oI 2]
 refine c8 (fun t k => XS.iinc X36.here f rfl (hb d P1) rfl (l' := L_5) rfl k) ?_
 show c5 p e U m T36 214 L_5 []
 refine m5 (pc := 214) (pc' := 173) X36 f d P2 ?_
 refine f5 X36 f d C6 rfl ?_
 refine c6 X36 f d C7 rfl rfl ?_
 refine d3 X36 f d Y e36 O (i6 w) Fsu__36 C8 (fun T37 X37 e37 => ?_)
 refine m4 X37 f d C9 (flt (by decide : ¬ ((2 : Int32) < (2 : Int32)))).2.2.1 ?_
 refine c6 X37 f d M4 rfl rfl ?_
 refine d3 X37 f d Y e37 O (m6 w) Fnt__36 M5 (fun T38 X38 e38 => ?_)
 refine c6 X38 f d M6 rfl rfl ?_
 refine d3 X38 f d Y e38 O (i6 w) Fst__36 M7 (fun T39 X39 e39 => ?_)
 refine f5 X39 f d M8 rfl ?_
 refine n7 X39 f d M9 ?_
 show c5 p e U m T39 193 L_5 [.int 4, .ref tn]
 refine c6 X39 f d O0 rfl rfl ?_
 refine d3 X39 f d Y e39 O (m6 w) Fnt__36 O1 (fun T40 X40 e40 => ?_)
 refine c6 X40 f d O2 rfl rfl ?_
 refine d3 X40 f d Y e40 O (i6 w) Fst__36 O3 (fun T41 X41 e41 => ?_)
 refine n3 X41 f d Y e41 Vw36 ⟨by decide, by decide⟩ rfl O4 ?_
 refine c6 X41 f d O5 rfl rfl ?_
 refine d3 X41 f d Y e41 O (m6 w) Fnu__36 O6 (fun T43 X43 e43 => ?_)
 refine f5 X43 f d O7 rfl ?_
 refine n3 X43 f d Y e43 Agu__36 ⟨by decide, by decide⟩ rfl O8 ?_
 refine n7 X43 f d O9 ?_
 show c5 p e U m T43 210 L_5 [(.int (p2 + q2)), .int 4, .ref tn]
 obtain ⟨cl45, Ar45, qa45, Sa45, Na45, Ha45, Ga45⟩ := id Vw36
 have hin45 : ¬ ((4 : Int32) < 0 ∨ cl45.slots.size ≤ ((4 : Int32)).toNatClampNeg) := inb_of Sa45 ⟨by decide, by decide⟩
 obtain ⟨T45, h45, X45, e45, W45, st45⟩ := stI X43 f Y e43 Ar45 (j := (4 : Int32)) hin45 (g := (mkF m 210 L_5 [(.int (p2 + q2)), .int 4, .ref tn])) rfl rfl (hb d P0)
 have Vw45 := u0 Ar45 qa45 Sa45 Na45 Ha45 Ga45 rfl W45 rfl
 replace Vw45 : Arv Z h45 tn ktn .int 17 [.int 0, .int p1, .int p2, (.int (p2 + q1)), (.int (p2 + q2))] (.int 0) := Vw45
 have Et__45 := Et__36.wr W45
 have Fst__45 := Fst__36.other W45 (Or.inl ne_otn)
 have Fft__45 := Fft__36.other W45 (Or.inl ne_otn)
 have Fnt__45 := Fnt__36.other W45 (Or.inl ne_otn)
 have Fbt__45 := Fbt__36.other W45 (Or.inl ne_otn)
 have Flt__45 := Flt__36.other W45 (Or.inl ne_otn)
 have Ebt__45 := Ebt__36.wr W45
 have Fsu__45 := Fsu__36.other W45 (Or.inl (i9 dj 0 2 rfl rfl))
 have Flu__45 := Flu__36.other W45 (Or.inl (i9 dj 0 2 rfl rfl))
 have A18__45 := A18__36.other W45 (F5 Aft Agt (by decide))
 have Ac27__45 := Ac27__36.other W45 (Ne.symm (F5 Agt Abt (by decide)))
 have N45 := Fr.snoc X45 N36 g_tn
 have KP45 := KP36.wr W45 (Or.inl (List.mem_of_getElem? (i := 2) rfl))
 refine c8 st45 ?_
 show c5 p e U m T45 211 L_5 []
 let L_6 : Array Slot := #[oR oa,oR ob,oI 4,(oI (p2 + q2)),oI 3]
 refine c8 (fun t k => XS.iinc X45.here f rfl (hb d P1) rfl (l' := L_6) rfl k) ?_
 show c5 p e U m T45 214 L_6 []
 refine m5 (pc := 214) (pc' := 173) X45 f d P2 ?_
 refine f5 X45 f d C6 rfl ?_
 refine c6 X45 f d C7 rfl rfl ?_
 refine d3 X45 f d Y e45 O (i6 w) Fsu__45 C8 (fun T46 X46 e46 => ?_)
 refine j5 (pc := 179) (pc' := 217) X46 f d C9 (tlt (by decide : (2 : Int32) < (3 : Int32))).2.2.1 ?_
 refine c6 X46 f d ad8 rfl rfl ?_
 refine f4 X46 f d ad9 rfl ?_
 obtain ⟨T47, h47, X47, e47, W47, st47⟩ := putF X46 f Y O (host := "") (Or.inl (i6 w)) Via.refl e46 Fst__45 Et__45 (Or.inl (w5 w)) (o0 w) (ty := .int) (by decide) rfl rfl (g := (mkF m 219 L_6 [.int 4, .ref oa])) rfl rfl (hb d ae0)
 have Fw47 := Fst__45.same W47
 have Et__47 := Et__45.wr W47
 have Fft__47 := Fft__45.other W47 (Or.inr (J4 w))
 have Fnt__47 := Fnt__45.other W47 (Or.inr (J5 w))
 have Fbt__47 := Fbt__45.other W47 (Or.inr (J6 w))
 have Flt__47 := Flt__45.other W47 (Or.inr (J7 w))
 have Vw45__47 := Vw45.other W47 (Ne.symm ne_otn)
 have Ebt__47 := Ebt__45.wr W47
 have Flu__47 := Flu__45.other W47 (Or.inl (i9 dj 0 0 rfl rfl))
 have A18__47 := A18__45.other W47 (Ne.symm ne_otf)
 have Ac27__47 := Ac27__45.other W47 (Ne.symm ne_otb)
 have N47 := Fr.snoc X47 N45 g_oa
 have KP47 := KP45.wr W47 (Or.inl (List.mem_of_getElem? (i := 0) rfl))
 refine c8 st47 ?_
 show c5 p e U m T47 222 L_6 []
 refine c6 X47 f d ae1 rfl rfl ?_
 refine c6 X47 f d ae2 rfl rfl ?_
 refine d3 X47 f d Y e47 O (B3 w) Flu__47 ae3 (fun T48 X48 e48 => ?_)
 obtain ⟨T49, h49, X49, e49, W49, st49⟩ := putF X48 f Y O (host := "") (Or.inl (B3 w)) Via.refl e48 Flt__47 Et__47 (Or.inl (w6 w)) (o0 w) (ty := (.object "java/math/BigInteger")) (by decide) rfl rfl (g := (mkF m 227 L_6 [.ref lcb, .ref oa])) rfl rfl (hb d ae4)
 have Fw49 := Flt__47.same W49
 have Et__49 := Et__47.wr W49
 have Fw47__49 := Fw47.other W49 (Or.inr (J8 w))
 have Fft__49 := Fft__47.other W49 (Or.inr (J9 w))
 have Fnt__49 := Fnt__47.other W49 (Or.inr (K0 w))
 have Fbt__49 := Fbt__47.other W49 (Or.inr (L0 w))
 have Vw45__49 := Vw45__47.other W49 (Ne.symm ne_otn)
 have Ebt__49 := Ebt__47.wr W49
 have A18__49 := A18__47.other W49 (Ne.symm ne_otf)
 have Ac27__49 := Ac27__47.other W49 (Ne.symm ne_otb)
 have N49 := Fr.snoc X49 N47 g_oa
 have KP49 := KP47.wr W49 (Or.inl (List.mem_of_getElem? (i := 0) rfl))
 refine c8 st49 ?_
 show c5 p e U m T49 230 L_6 []
 exact q0 X49 f R (hb d ae5) (by rw [e49]; exact ⟨rfl, N49, KP49, [oa, tf, tn, tb], 64, ⟨_, _, _, _, _, _, rfl, ⟨Et__49, Fw47__49, Fft__49, Fnt__49, Fbt__49, Fw49⟩, A18__49, (by have q := Vw45__49; rw [hq2, aD3, hq1, ae7, hp2, hp1] at q; exact q), (by have q := Ac27__49; simpa [m9] using q), Ebt__49⟩, (by have q1 := tp.2.2; have q2 := tq.2.2; have e1 : (64 : Int32).toNatClampNeg = 64 := (by decide); rw [e1]; simp at q1 q2 ⊢; omega)⟩) (by decide) (by decide)
theorem de3:c4 aB0 0 (.aload_n 0) 1:=by decide +kernel
theorem de4:c4 aB0 1 (.getfield 27) 3:=by decide +kernel
theorem de5:c4 aB0 4 .ireturn 1:=by decide +kernel
theorem dm4 (l : Launch) (Z : State) (a0 : Array Value) (w : j9 Z a0) (ws : List Jvm.Cond) (oa : Addr) (xs : Int32) (h0 : Heap) (n0 : Nat) (Z0 : n0 ≤ h0.size) (Fs : Fld Z h0 oa "com/example/prizewell/prizewell/core/TicketRanges" "size" "I" (.int xs)) :
 l0 l Z h0 dg5 aB0 1 (some .int) ws (Jvm.Room.mk 0 0 0 0) #[.ref oa] (r4 xs h0 n0) := by
 refine l7 (Ls := #[.val (.ref oa)]) (plainFor_of_name E0) (fun p e s m U meth c s₁ Y hh f d r O hnm hlk R X0 e0 => ?_)
 replace O : s.vm.findClass "com/example/prizewell/prizewell/core/TicketRanges" = some m.cls := O
 have N0 := Fr.nil n0
 let L_1 : Array Slot := #[oR oa]
 show c5 p e U m s₁ 0 L_1 []
 refine c6 X0 f d de3 rfl rfl ?_
 refine d3 X0 f d Y e0 O (i6 w) Fs de4 (fun T1 X1 e1 => ?_)
 show c5 p e U m T1 4 L_1 [.int xs]
 exact r8 X1 f R (hb d de5) (by rw [e1]; exact ⟨rfl, N0, rfl⟩) (by decide) (by decide)
theorem bY5 : parseMethodDescriptor "(IZ)Ljava/lang/String;" = some ⟨[.int, .boolean], some (.object "java/lang/String")⟩ := by decide +kernel
theorem aA3 : parseMethodDescriptor "(Lcom/example/prizewell/prizewell/core/TicketRanges;ILjava/lang/String;JJ)Z" = some ⟨[(.object "com/example/prizewell/prizewell/core/TicketRanges"), .int, (.object "java/lang/String"), .long, .long], some .boolean⟩ := by decide +kernel
theorem Q4 : parseMethodDescriptor "(Lcom/example/prizewell/prizewell/core/TicketRanges;)V" = some ⟨[(.object "com/example/prizewell/prizewell/core/TicketRanges")], none⟩ := by decide +kernel
theorem B0 : parseMethodDescriptor "(Lcom/example/prizewell/prizewell/core/TicketRanges;Lcom/example/prizewell/prizewell/core/AccountName;JJ)V" = some ⟨[(.object "com/example/prizewell/prizewell/core/TicketRanges"), (.object "com/example/prizewell/prizewell/core/AccountName"), .long, .long], none⟩ := by decide +kernel
def B8 (n0 : Nat) (v : Option Value) (h : Heap) (L : List Loc) : Prop := v = some (.int 1) ∧ Fr n0 L
theorem rm0 (l : Launch) (Z : State) (a0 : Array Value) (w : j9 Z a0) (ws : List Jvm.Cond) (p0 p1 : Int64) (p2 p3 p4 : Int32) (z0 pc0 : Addr) (kpc : ClassId) (pcs : List Value) (fm : Value) (al : Addr) (kal : ClassId) (als : List Value) (h0 : Heap) (n0 : Nat) (Z0 : n0 ≤ h0.size) (XO : Old Z n0 h0) (WW : r5 Z z0 pc0 kpc pcs fm al kal als) :
 S7 l3 l Z h0 x code maxLocals ret ws room_1 #[.long p0, .long p1, .int p2, .int p3, .int p4] [] (B8 n0) := by
 refine Y8 (Ls := #[.val (.long p0), .second, .val (.long p1), .second, .val (.int p2), .val (.int p3), .val (.int p4), .unset, .unset, .unset, .unset, .unset, .unset, .unset, .unset, .unset, .unset, .unset, .unset, .unset, .unset, .unset, .unset, .unset, .unset, .unset, .unset, .unset, .unset, .unset, .unset, .unset, .unset, .unset, .unset, .unset, .unset, .unset, .unset, .unset, .unset, .unset, .unset, .unset, .unset]) (plainFor_of_name ao0) (fun m => by first | (simp [entryFrame, mkF, argsToLocals, Value.category, maxLocals]; done) | rfl) (fun p e s m U meth c s₁ Y hh hC0 hsf0 f d r O hnm hlk R X0 e0 => ?_)
 replace O : s.vm.findClass "com/example/prizewell/prizewell/core/TicketRangesAddAllPinLaw" = some m.cls := O
 have N0 := Fr.nil n0
 replace r : c.maxLocals = 45 := r
 replace d : c.code = code := d
 have hEL := U0 w
 have hR0 : CHr Z l3 s.vm h0 s.vm h0 := CHr.refl hC0
 have hS0 : s.Since s.vm 0 := (State.WarmedH.refl s).since 0
 have hk0 : 0 ≤ h0.size := Nat.zero_le _
 obtain ⟨SAl, AAl, r_fm, ⟨cs, hcs, SC⟩, SFM, SZ, BZ, SPc, APc, HPc, HAL, uo, u8, i8, CS⟩ := id WW
 let L_1 : Array Slot := #[oJ p0,.second,oJ p1,.second,oI p2,oI p3,oI p4,oU,oU,oU,oU,oU,oU,oU,oU,oU,oU,oU,oU,oU,oU,oU,oU,oU,oU,oU,oU,oU,oU,oU,oU,oU,oU,oU,oU,oU,oU,oU,oU,oU,oU,oU,oU,oU,oU]
 show c5 p e U m s₁ 0 L_1 []
 refine f5 X0 f d at_0 rfl ?_
 refine f6 X0 f d at_2 (z := (3 : Int32)) rfl ?_
 refine H1 X0 f d at_3 ?_
 show c5 p e U m s₁ 4 L_1 [(.int (p2 &&& (3 : Int32)))]
 refine f6 X0 f d at_4 (z := (3 : Int32)) rfl ?_
 show c5 p e U m s₁ 5 L_1 [.int 3, (.int (p2 &&& (3 : Int32)))]
 refine c8 (fun t k => iremM X0 f rfl (hb d at_5) rfl (by decide) k) ?_
 show c5 p e U m s₁ 6 L_1 [(.int ((p2 &&& (3 : Int32)) % (3 : Int32)))]
 let L_2 : Array Slot := #[oJ p0,.second,oJ p1,.second,oI p2,oI p3,oI p4,(oI ((p2 &&& (3 : Int32)) % (3 : Int32))),oU,oU,oU,oU,oU,oU,oU,oU,oU,oU,oU,oU,oU,oU,oU,oU,oU,oU,oU,oU,oU,oU,oU,oU,oU,oU,oU,oU,oU,oU,oU,oU,oU,oU,oU,oU,oU]
 refine o4 X0 f d at_6 (l' := L_2) rfl ?_
 show c5 p e U m s₁ 8 #[.val (.long p0), .second, .val (.long p1), .second, .val (.int p2), .val (.int p3), .val (.int p4), .val (.int ((p2 &&& (3 : Int32)) % (3 : Int32))), .unset, .unset, .unset, .unset, .unset, .unset, .unset, .unset, .unset, .unset, .unset, .unset, .unset, .unset, .unset, .unset, .unset, .unset, .unset, .unset, .unset, .unset, .unset, .unset, .unset, .unset, .unset, .unset, .unset, .unset, .unset, .unset, .unset, .unset, .unset, .unset, .unset] []
 obtain ⟨ka_, h_ka_⟩ : ∃ z, z = ((p2 &&& (3 : Int32)) % (3 : Int32)) := ⟨_, rfl⟩
 rw [← h_ka_]
 let L_3 : Array Slot := #[oJ p0,.second,oJ p1,.second,oI p2,oI p3,oI p4,oI ka_,oU,oU,oU,oU,oU,oU,oU,oU,oU,oU,oU,oU,oU,oU,oU,oU,oU,oU,oU,oU,oU,oU,oU,oU,oU,oU,oU,oU,oU,oU,oU,oU,oU,oU,oU,oU,oU]
 show c5 p e U m s₁ 8 L_3 []
 refine f5 X0 f d at_8 rfl ?_
 refine f6 X0 f d at_10 (z := (2 : Int32)) rfl ?_
 refine ap0 X0 f d at_11 ?_
 show c5 p e U m s₁ 12 L_3 [(.int ((p2.toUInt32 >>> ((2 : Int32) &&& 31).toUInt32).toInt32))]
 refine f6 X0 f d at_12 (z := (3 : Int32)) rfl ?_
 refine H1 X0 f d at_13 ?_
 show c5 p e U m s₁ 14 L_3 [(.int (((p2.toUInt32 >>> ((2 : Int32) &&& 31).toUInt32).toInt32) &&& (3 : Int32)))]
 refine f6 X0 f d at_14 (z := (3 : Int32)) rfl ?_
 show c5 p e U m s₁ 15 L_3 [.int 3, (.int (((p2.toUInt32 >>> ((2 : Int32) &&& 31).toUInt32).toInt32) &&& (3 : Int32)))]
 refine c8 (fun t k => iremM X0 f rfl (hb d at_15) rfl (by decide) k) ?_
 show c5 p e U m s₁ 16 L_3 [(.int ((((p2.toUInt32 >>> ((2 : Int32) &&& 31).toUInt32).toInt32) &&& (3 : Int32)) % (3 : Int32)))]
 let L_4 : Array Slot := #[oJ p0,.second,oJ p1,.second,oI p2,oI p3,oI p4,oI ka_,(oI ((((p2.toUInt32 >>> ((2 : Int32) &&& 31).toUInt32).toInt32) &&& (3 : Int32)) % (3 : Int32))),oU,oU,oU,oU,oU,oU,oU,oU,oU,oU,oU,oU,oU,oU,oU,oU,oU,oU,oU,oU,oU,oU,oU,oU,oU,oU,oU,oU,oU,oU,oU,oU,oU,oU,oU,oU]
 refine o4 X0 f d at_16 (l' := L_4) rfl ?_
 show c5 p e U m s₁ 18 #[.val (.long p0), .second, .val (.long p1), .second, .val (.int p2), .val (.int p3), .val (.int p4), .val (.int ka_), .val (.int ((((p2.toUInt32 >>> ((2 : Int32) &&& 31).toUInt32).toInt32) &&& (3 : Int32)) % (3 : Int32))), .unset, .unset, .unset, .unset, .unset, .unset, .unset, .unset, .unset, .unset, .unset, .unset, .unset, .unset, .unset, .unset, .unset, .unset, .unset, .unset, .unset, .unset, .unset, .unset, .unset, .unset, .unset, .unset, .unset, .unset, .unset, .unset, .unset, .unset, .unset, .unset] []
 obtain ⟨kb_, h_kb_⟩ : ∃ z, z = ((((p2.toUInt32 >>> ((2 : Int32) &&& 31).toUInt32).toInt32) &&& (3 : Int32)) % (3 : Int32)) := ⟨_, rfl⟩
 rw [← h_kb_]
 let L_5 : Array Slot := #[oJ p0,.second,oJ p1,.second,oI p2,oI p3,oI p4,oI ka_,oI kb_,oU,oU,oU,oU,oU,oU,oU,oU,oU,oU,oU,oU,oU,oU,oU,oU,oU,oU,oU,oU,oU,oU,oU,oU,oU,oU,oU,oU,oU,oU,oU,oU,oU,oU,oU,oU]
 show c5 p e U m s₁ 18 L_5 []
 refine f5 X0 f d at_18 rfl ?_
 refine f5 X0 f d at_20 rfl ?_
 refine n7 X0 f d at_22 ?_
 show c5 p e U m s₁ 23 L_5 [(.int (ka_ + kb_))]
 let L_6 : Array Slot := #[oJ p0,.second,oJ p1,.second,oI p2,oI p3,oI p4,oI ka_,oI kb_,(oI (ka_ + kb_)),oU,oU,oU,oU,oU,oU,oU,oU,oU,oU,oU,oU,oU,oU,oU,oU,oU,oU,oU,oU,oU,oU,oU,oU,oU,oU,oU,oU,oU,oU,oU,oU,oU,oU,oU]
 refine o4 X0 f d at_23 (l' := L_6) rfl ?_
 show c5 p e U m s₁ 25 L_6 []
 have J41 : ∀ (jva : Int32), i7 p e U (fun o U' => ∃ v L, o = .returned v ∧ B8 n0 v U'.heap L ∧ CHr Z l3 s.vm s.heap U'.vm U'.heap ∧ ReturnedEndW s o U' L room_1.cells room_1.slots) (s₁.setTop (mkF m 41 L_6 [.int jva, .int p3])) := by
  intro jva
  obtain ⟨_, _, ⟨T2, L2, k2, n2⟩, -, X2, hSq2, hgr2, ⟨Lc2, hQ2, l2, y2, z2, hC2⟩, st2⟩ := callSS X0 f (y := aU6) O (mvT Y (cb2 w)) (mvT Y (cb3 w)) (mvT Y (r7 w)) (mvT Y (aB2 w)) (by decide) (G8 (s := s) (W := 0) (cc4 l Z a0 w [] p3 jva z0 pc0 kpc pcs fm al kal als h0 n0 Z0 XO WW) Y (aB2 w) (r7 w) (by decide) (by decide) hEL hC0 all0) (g := (mkF m 41 L_6 [.int jva, .int p3])) rfl (by rw [r]; rfl) (argsL := [.int p3, .int jva]) (rest := []) (lenOf bY5 rfl) rfl (by show 2 * 0 + _ ≤ _; exact f7 rfl) (hb d at_41) (fun _ _ => ⟨rfl, e0, (by decide : 0 + 5 ≤ _), (by decide : 0 + 280 ≤ _)⟩)
  dsimp only [Pt.U, Pt.locs, Pt.cells, Pt.slots] at X2 l2 y2 z2 st2 hQ2 hSq2 hgr2 hC2
  subst l2 y2 z2
  obtain ⟨d2, td2, kd2, cs2, rfl, Nq2, K2, ge2, gt2, S2, nm2⟩ := hQ2
  have N2 := Fr.app N0 Nq2
  refine c8 (fun t k => st2.trans k) ?_
  have hS2 := foldS (T := s₁) hS0 (by rw [e0]; exact hk0) hSq2 hgr2
  have hZ2 : Z.Warmed39 T2.vm := State.Warmed39.trans (t := s.setVm s.vm) Y hSq2.1
  have hown2 : T2.vm.findClass "com/example/prizewell/prizewell/core/TicketRangesAddAllPinLaw" = some m.cls := by rw [hSq2.1.alike.findClass]; exact O
  have hk2 := Nat.le_refl T2.heap.size
  replace X2 : Stand p l e room_1 (s.setVm T2.vm) m #[.long p0, .long p1, .int p2, .int p3, .int p4] U meth c T2 _ _ _ := X2
  have XO__2 := XO.keep K2 all0
  have hR2 := hR0.trans hC2
  have hD2 := hR2.1
  have KP2 := (Keep.refl h0 []).trans K2 all0
  have sz2 := c9 Z0 K2.1
  obtain ⟨Es2, Fc2, Fv2, As2⟩ := id S2
  show c5 p e U m T2 44 L_6 [.ref d2]
  let L_7 : Array Slot := #[oJ p0,.second,oJ p1,.second,oI p2,oI p3,oI p4,oI ka_,oI kb_,(oI (ka_ + kb_)),oR d2,oU,oU,oU,oU,oU,oU,oU,oU,oU,oU,oU,oU,oU,oU,oU,oU,oU,oU,oU,oU,oU,oU,oU,oU,oU,oU,oU,oU,oU,oU,oU,oU,oU,oU]
  refine t5 X2 f d at_44 rfl (l' := L_7) rfl ?_
  show c5 p e U m T2 46 L_7 []
  have J62 : ∀ (jvb : Int32), i7 p e U (fun o U' => ∃ v L, o = .returned v ∧ B8 n0 v U'.heap L ∧ CHr Z l3 s.vm s.heap U'.vm U'.heap ∧ ReturnedEndW s o U' L room_1.cells room_1.slots) (T2.setTop (mkF m 62 L_7 [.int jvb, .int p4])) := by
   intro jvb
   obtain ⟨_, _, ⟨T4, L4, k4, n4⟩, -, X4, hSq4, hgr4, ⟨Lc4, hQ4, l4, y4, z4, hC4⟩, st4⟩ := callSS X2 f (y := aU6) hown2 (mvT hZ2 (cb2 w)) (mvT hZ2 (cb3 w)) (mvT hZ2 (r7 w)) (mvT hZ2 (aB2 w)) (by decide) (G8 (s := s) (W := 0) (cc4 l Z a0 w [] p4 jvb z0 pc0 kpc pcs fm al kal als T2.heap n0 sz2 XO__2 WW) hZ2 (aB2 w) (r7 w) (by decide) (by decide) hEL hD2 all0) (g := (mkF m 62 L_7 [.int jvb, .int p4])) rfl (by rw [r]; rfl) (argsL := [.int p4, .int jvb]) (rest := []) (lenOf bY5 rfl) rfl (by show 2 * 0 + _ ≤ _; exact f7 rfl) (hb d at_62) (fun _ _ => ⟨rfl, rfl, (by decide : 0 + 5 + 5 ≤ _), (by decide : 0 + 280 + 280 ≤ _)⟩)
   dsimp only [Pt.U, Pt.locs, Pt.cells, Pt.slots] at X4 l4 y4 z4 st4 hQ4 hSq4 hgr4 hC4
   subst l4 y4 z4
   obtain ⟨d4, td4, kd4, cs4, rfl, Nq4, K4, ge4, gt4, S4, nm4⟩ := hQ4
   have N4 := Fr.app N2 Nq4
   refine c8 (fun t k => st4.trans k) ?_
   have hS4 := foldS (T := T2) hS2 hk2 hSq4 hgr4
   have hZ4 : Z.Warmed39 T4.vm := State.Warmed39.trans (t := s.setVm T2.vm) hZ2 hSq4.1
   have hown4 : T4.vm.findClass "com/example/prizewell/prizewell/core/TicketRangesAddAllPinLaw" = some m.cls := by rw [hSq4.1.alike.findClass]; exact hown2
   have hk4 := Nat.le_refl T4.heap.size
   replace X4 : Stand p l e room_1 (s.setVm T4.vm) m #[.long p0, .long p1, .int p2, .int p3, .int p4] U meth c T4 _ _ _ := X4
   have XO__4 := XO__2.keep K4 all0
   have Es2__4 := Es2.keep K4
   have Fc2__4 := Fc2.keep K4 nin0
   have Fv2__4 := Fv2.keep K4 nin0
   have As2__4 := As2.keep K4 nin0
   have hR4 := hR2.trans hC4
   have hD4 := hR4.1
   have KP4 := KP2.trans K4 all0
   have sz4 := c9 sz2 K4.1
   obtain ⟨Es4, Fc4, Fv4, As4⟩ := id S4
   show c5 p e U m T4 65 L_7 [.ref d4]
   let L_8 : Array Slot := #[oJ p0,.second,oJ p1,.second,oI p2,oI p3,oI p4,oI ka_,oI kb_,(oI (ka_ + kb_)),oR d2,oR d4,oU,oU,oU,oU,oU,oU,oU,oU,oU,oU,oU,oU,oU,oU,oU,oU,oU,oU,oU,oU,oU,oU,oU,oU,oU,oU,oU,oU,oU,oU,oU,oU,oU]
   refine t5 X4 f d at_65 rfl (l' := L_8) rfl ?_
   obtain ⟨T5, h5, X5, e5, E5, A5, D5, -, st5⟩ := newO X4 f hZ4 hown4 (bF4 w) (am9 w) (F7 w) rfl (g := (mkF m 67 L_8 [])) rfl (hb d at_67) (by decide) (by decide)
   obtain ⟨b5, g5⟩ : ∃ z, z = T4.heap.size := ⟨_, rfl⟩
   rw [← g5] at A5 D5 st5
   have g_b5 : n0 ≤ b5 := c9 sz4 (f7 g5.symm)
   have sz_b5 : h0.size ≤ b5 := c9 KP4.1 (f7 g5.symm)
   have ne_d2_b5 : d2 ≠ b5 := Nat.ne_of_lt (j3 Es2__4.lt (f7 g5.symm))
   have ne_td2_b5 : td2 ≠ b5 := Nat.ne_of_lt (j3 As2__4.lt (f7 g5.symm))
   have ne_d4_b5 : d4 ≠ b5 := Nat.ne_of_lt (j3 Es4.lt (f7 g5.symm))
   have ne_td4_b5 : td4 ≠ b5 := Nat.ne_of_lt (j3 As4.lt (f7 g5.symm))
   have XO__5 := XO__4.ext E5
   have Es2__5 := Es2__4.ext E5
   have Fc2__5 := Fc2__4.ext E5
   have Fv2__5 := Fv2__4.ext E5
   have As2__5 := As2__4.ext E5
   have Es4__5 := Es4.ext E5
   have Fc4__5 := Fc4.ext E5
   have Fv4__5 := Fv4.ext E5
   have As4__5 := As4.ext E5
   have hR5 := hR4.trans (CHr.ext E5 hD4)
   have hC5 := hR5.1
   have sz5 := c9 sz4 E5.1
   have KP5 := KP4.ext E5
   have hk5 := c9 hk4 E5.1
   have F5_value : Fld Z h5 b5 "com/example/prizewell/prizewell/core/AccountName" "value" "Ljava/lang/String;" .null := D5 (Or.inr (an2 w)) (ty := (.object "java/lang/String")) (by decide)
   refine c8 st5 ?_
   show c5 p e U m T5 70 L_8 [.ref b5]
   refine A0 X5 f d at_70 rfl ?_
   refine j0 X5 f d at_71 rfl rfl ?_
   obtain ⟨_, _, ⟨T6, L6, k6, n6⟩, -, X6, hSq6, hgr6, ⟨Lc6, hQ6, l6, y6, z6, hC6⟩, st6⟩ := X5.specialBackS f (y := aB1) rfl hown4 (mvT hZ4 (bF5 w)) (mvT hZ4 (aM0 w)) (mvT hZ4 (aj2 w)) (by decide) (G8 (s := s) (W := 1) (aW8 l Z a0 w [] b5 d2 td2 kd2 cs2 z0 pc0 kpc pcs fm al kal als h5 n0 sz5 A5 F5_value ⟨Es2__5, Fc2__5, Fv2__5, As2__5⟩ nm2 g_b5 XO__5 WW) hZ4 (aj2 w) (F7 w) (by decide) (by decide) hEL hC5 all0) (g := (mkF m 73 L_8 [.ref d2, .ref b5, .ref b5])) rfl (by rw [r]; rfl) (Steps.refl _) (a := b5) (argsL := [.ref d2]) (rest := [.ref b5]) (lenOf aT8 rfl) rfl (by show 2 * 0 + _ ≤ _; exact f7 rfl) (hb d at_73) (fun _ _ => ⟨rfl, e5, (by decide : 0 + 5 + 5 + 1 + 2 ≤ _), (by decide : 0 + 280 + 280 + 1 + 24 ≤ _)⟩)
   dsimp only [Pt.U, Pt.locs, Pt.cells, Pt.slots] at X6 l6 y6 z6 st6 hQ6 hSq6 hgr6 hC6
   subst l6 y6 z6
   obtain ⟨rfl, Nq6, K6, Fv6⟩ := hQ6
   have N6 := Fr.app N4 Nq6
   refine c8 (fun t k => st6.trans k) ?_
   have hS6 := foldS (T := T5) hS4 (by rw [e5]; exact hk5) hSq6 hgr6
   have hZ6 : Z.Warmed39 T6.vm := State.Warmed39.trans (t := s.setVm T4.vm) hZ4 hSq6.1
   have hown6 : T6.vm.findClass "com/example/prizewell/prizewell/core/TicketRangesAddAllPinLaw" = some m.cls := by rw [hSq6.1.alike.findClass]; exact hown4
   have hk6 := Nat.le_refl T6.heap.size
   replace X6 : Stand p l e room_1 (s.setVm T6.vm) m #[.long p0, .long p1, .int p2, .int p3, .int p4] U meth c T6 _ _ _ := X6
   have XO__6 := XO__5.keep K6 (allS g_b5 all0)
   have Es2__6 := Es2__5.keep K6
   have Fc2__6 := Fc2__5.keep K6 (ninS ne_d2_b5 nin0)
   have Fv2__6 := Fv2__5.keep K6 (ninS ne_d2_b5 nin0)
   have As2__6 := As2__5.keep K6 (ninS ne_td2_b5 nin0)
   have Es4__6 := Es4__5.keep K6
   have Fc4__6 := Fc4__5.keep K6 (ninS ne_d4_b5 nin0)
   have Fv4__6 := Fv4__5.keep K6 (ninS ne_d4_b5 nin0)
   have As4__6 := As4__5.keep K6 (ninS ne_td4_b5 nin0)
   have A5__6 := A5.keep K6
   have hR6 := hR5.trans hC6
   have hD6 := hR6.1
   have KP6 := KP5.trans K6 (allS (Or.inr sz_b5) all0)
   have sz6 := c9 sz5 K6.1
   show c5 p e U m T6 76 L_8 [.ref b5]
   let L_9 : Array Slot := #[oJ p0,.second,oJ p1,.second,oI p2,oI p3,oI p4,oI ka_,oI kb_,(oI (ka_ + kb_)),oR d2,oR d4,oR b5,oU,oU,oU,oU,oU,oU,oU,oU,oU,oU,oU,oU,oU,oU,oU,oU,oU,oU,oU,oU,oU,oU,oU,oU,oU,oU,oU,oU,oU,oU,oU,oU]
   refine t5 X6 f d at_76 rfl (l' := L_9) rfl ?_
   obtain ⟨T7, h7, X7, e7, E7, A7, D7, -, st7⟩ := newO X6 f hZ6 hown6 (bF4 w) (am9 w) (F7 w) rfl (g := (mkF m 78 L_9 [])) rfl (hb d at_78) (by decide) (by decide)
   obtain ⟨b7, g7⟩ : ∃ z, z = T6.heap.size := ⟨_, rfl⟩
   rw [← g7] at A7 D7 st7
   have g_b7 : n0 ≤ b7 := c9 sz6 (f7 g7.symm)
   have sz_b7 : h0.size ≤ b7 := c9 KP6.1 (f7 g7.symm)
   have ne_d2_b7 : d2 ≠ b7 := Nat.ne_of_lt (j3 Es2__6.lt (f7 g7.symm))
   have ne_td2_b7 : td2 ≠ b7 := Nat.ne_of_lt (j3 As2__6.lt (f7 g7.symm))
   have ne_d4_b7 : d4 ≠ b7 := Nat.ne_of_lt (j3 Es4__6.lt (f7 g7.symm))
   have ne_td4_b7 : td4 ≠ b7 := Nat.ne_of_lt (j3 As4__6.lt (f7 g7.symm))
   have ne_b5_b7 : b5 ≠ b7 := Nat.ne_of_lt (j3 A5__6.lt (f7 g7.symm))
   have XO__7 := XO__6.ext E7
   have Es2__7 := Es2__6.ext E7
   have Fc2__7 := Fc2__6.ext E7
   have Fv2__7 := Fv2__6.ext E7
   have As2__7 := As2__6.ext E7
   have Es4__7 := Es4__6.ext E7
   have Fc4__7 := Fc4__6.ext E7
   have Fv4__7 := Fv4__6.ext E7
   have As4__7 := As4__6.ext E7
   have A5__7 := A5__6.ext E7
   have Fv6__7 := Fv6.ext E7
   have hR7 := hR6.trans (CHr.ext E7 hD6)
   have hC7 := hR7.1
   have sz7 := c9 sz6 E7.1
   have KP7 := KP6.ext E7
   have hk7 := c9 hk6 E7.1
   have F7_value : Fld Z h7 b7 "com/example/prizewell/prizewell/core/AccountName" "value" "Ljava/lang/String;" .null := D7 (Or.inr (an2 w)) (ty := (.object "java/lang/String")) (by decide)
   refine c8 st7 ?_
   show c5 p e U m T7 81 L_9 [.ref b7]
   refine A0 X7 f d at_81 rfl ?_
   refine j0 X7 f d at_82 rfl rfl ?_
   obtain ⟨_, _, ⟨T8, L8, k8, n8⟩, -, X8, hSq8, hgr8, ⟨Lc8, hQ8, l8, y8, z8, hC8⟩, st8⟩ := X7.specialBackS f (y := aB1) rfl hown6 (mvT hZ6 (bF5 w)) (mvT hZ6 (aM0 w)) (mvT hZ6 (aj2 w)) (by decide) (G8 (s := s) (W := 1) (aW8 l Z a0 w [] b7 d4 td4 kd4 cs4 z0 pc0 kpc pcs fm al kal als h7 n0 sz7 A7 F7_value ⟨Es4__7, Fc4__7, Fv4__7, As4__7⟩ nm4 g_b7 XO__7 WW) hZ6 (aj2 w) (F7 w) (by decide) (by decide) hEL hC7 all0) (g := (mkF m 84 L_9 [.ref d4, .ref b7, .ref b7])) rfl (by rw [r]; rfl) (Steps.refl _) (a := b7) (argsL := [.ref d4]) (rest := [.ref b7]) (lenOf aT8 rfl) rfl (by show 2 * 0 + _ ≤ _; exact f7 rfl) (hb d at_84) (fun _ _ => ⟨rfl, e7, (by decide : 0 + 5 + 5 + 1 + 2 + 1 + 2 ≤ _), (by decide : 0 + 280 + 280 + 1 + 24 + 1 + 24 ≤ _)⟩)
   dsimp only [Pt.U, Pt.locs, Pt.cells, Pt.slots] at X8 l8 y8 z8 st8 hQ8 hSq8 hgr8 hC8
   subst l8 y8 z8
   obtain ⟨rfl, Nq8, K8, Fv8⟩ := hQ8
   have N8 := Fr.app N6 Nq8
   refine c8 (fun t k => st8.trans k) ?_
   have hS8 := foldS (T := T7) hS6 (by rw [e7]; exact hk7) hSq8 hgr8
   have hZ8 : Z.Warmed39 T8.vm := State.Warmed39.trans (t := s.setVm T6.vm) hZ6 hSq8.1
   have hown8 : T8.vm.findClass "com/example/prizewell/prizewell/core/TicketRangesAddAllPinLaw" = some m.cls := by rw [hSq8.1.alike.findClass]; exact hown6
   have hk8 := Nat.le_refl T8.heap.size
   replace X8 : Stand p l e room_1 (s.setVm T8.vm) m #[.long p0, .long p1, .int p2, .int p3, .int p4] U meth c T8 _ _ _ := X8
   have XO__8 := XO__7.keep K8 (allS g_b7 all0)
   have Es2__8 := Es2__7.keep K8
   have Fc2__8 := Fc2__7.keep K8 (ninS ne_d2_b7 nin0)
   have Fv2__8 := Fv2__7.keep K8 (ninS ne_d2_b7 nin0)
   have As2__8 := As2__7.keep K8 (ninS ne_td2_b7 nin0)
   have Es4__8 := Es4__7.keep K8
   have Fc4__8 := Fc4__7.keep K8 (ninS ne_d4_b7 nin0)
   have Fv4__8 := Fv4__7.keep K8 (ninS ne_d4_b7 nin0)
   have As4__8 := As4__7.keep K8 (ninS ne_td4_b7 nin0)
   have A5__8 := A5__7.keep K8
   have Fv6__8 := Fv6__7.keep K8 (ninS ne_b5_b7 nin0)
   have A7__8 := A7.keep K8
   have hR8 := hR7.trans hC8
   have hD8 := hR8.1
   have KP8 := KP7.trans K8 (allS (Or.inr sz_b7) all0)
   have sz8 := c9 sz7 K8.1
   show c5 p e U m T8 87 L_9 [.ref b7]
   let L_10 : Array Slot := #[oJ p0,.second,oJ p1,.second,oI p2,oI p3,oI p4,oI ka_,oI kb_,(oI (ka_ + kb_)),oR d2,oR d4,oR b5,oR b7,oU,oU,oU,oU,oU,oU,oU,oU,oU,oU,oU,oU,oU,oU,oU,oU,oU,oU,oU,oU,oU,oU,oU,oU,oU,oU,oU,oU,oU,oU,oU]
   refine t5 X8 f d at_87 rfl (l' := L_10) rfl ?_
   have NX : own_NM Z T8.heap b5 d2 td2 kd2 cs2 T8.heap.size := ⟨⟨A5__8.lt, Es2__8.lt, As2__8.lt⟩, A5__8, Fv6__8, ⟨Es2__8, Fc2__8, Fv2__8, As2__8⟩⟩
   have NY : own_NM Z T8.heap b7 d4 td4 kd4 cs4 T8.heap.size := ⟨⟨A7__8.lt, Es4__8.lt, As4__8.lt⟩, A7__8, Fv8, ⟨Es4__8, Fc4__8, Fv4__8, As4__8⟩⟩
   show c5 p e U m T8 89 L_10 []
   have J102 : ∀ (jvc : Int32), i7 p e U (fun o U' => ∃ v L, o = .returned v ∧ B8 n0 v U'.heap L ∧ CHr Z l3 s.vm s.heap U'.vm U'.heap ∧ ReturnedEndW s o U' L room_1.cells room_1.slots) (T8.setTop (mkF m 102 L_10 [.int jvc])) := by
    intro jvc
    show c5 p e U m T8 102 L_10 [.int jvc]
    let L_11 : Array Slot := #[oJ p0,.second,oJ p1,.second,oI p2,oI p3,oI p4,oI ka_,oI kb_,(oI (ka_ + kb_)),oR d2,oR d4,oR b5,oR b7,oI jvc,oU,oU,oU,oU,oU,oU,oU,oU,oU,oU,oU,oU,oU,oU,oU,oU,oU,oU,oU,oU,oU,oU,oU,oU,oU,oU,oU,oU,oU,oU]
    refine o4 X8 f d at_102 (l' := L_11) rfl ?_
    show c5 p e U m T8 104 L_11 []
    have J117 : ∀ (jvd : Int32), i7 p e U (fun o U' => ∃ v L, o = .returned v ∧ B8 n0 v U'.heap L ∧ CHr Z l3 s.vm s.heap U'.vm U'.heap ∧ ReturnedEndW s o U' L room_1.cells room_1.slots) (T8.setTop (mkF m 117 L_11 [.int jvd])) := by
     intro jvd
     show c5 p e U m T8 117 L_11 [.int jvd]
     let L_12 : Array Slot := #[oJ p0,.second,oJ p1,.second,oI p2,oI p3,oI p4,oI ka_,oI kb_,(oI (ka_ + kb_)),oR d2,oR d4,oR b5,oR b7,oI jvc,oI jvd,oU,oU,oU,oU,oU,oU,oU,oU,oU,oU,oU,oU,oU,oU,oU,oU,oU,oU,oU,oU,oU,oU,oU,oU,oU,oU,oU,oU,oU]
     refine o4 X8 f d at_117 (l' := L_12) rfl ?_
     show c5 p e U m T8 119 L_12 []
     have J132 : ∀ (jve : Int32), i7 p e U (fun o U' => ∃ v L, o = .returned v ∧ B8 n0 v U'.heap L ∧ CHr Z l3 s.vm s.heap U'.vm U'.heap ∧ ReturnedEndW s o U' L room_1.cells room_1.slots) (T8.setTop (mkF m 132 L_12 [.int jve])) := by
      intro jve
      show c5 p e U m T8 132 L_12 [.int jve]
      let L_13 : Array Slot := #[oJ p0,.second,oJ p1,.second,oI p2,oI p3,oI p4,oI ka_,oI kb_,(oI (ka_ + kb_)),oR d2,oR d4,oR b5,oR b7,oI jvc,oI jvd,oI jve,oU,oU,oU,oU,oU,oU,oU,oU,oU,oU,oU,oU,oU,oU,oU,oU,oU,oU,oU,oU,oU,oU,oU,oU,oU,oU,oU,oU]
      refine o4 X8 f d at_132 (l' := L_13) rfl ?_
      show c5 p e U m T8 134 L_13 []
      have J148 : ∀ (jvf : Int32), i7 p e U (fun o U' => ∃ v L, o = .returned v ∧ B8 n0 v U'.heap L ∧ CHr Z l3 s.vm s.heap U'.vm U'.heap ∧ ReturnedEndW s o U' L room_1.cells room_1.slots) (T8.setTop (mkF m 148 L_13 [.int jvf])) := by
       intro jvf
       show c5 p e U m T8 148 L_13 [.int jvf]
       let L_14 : Array Slot := #[oJ p0,.second,oJ p1,.second,oI p2,oI p3,oI p4,oI ka_,oI kb_,(oI (ka_ + kb_)),oR d2,oR d4,oR b5,oR b7,oI jvc,oI jvd,oI jve,oI jvf,oU,oU,oU,oU,oU,oU,oU,oU,oU,oU,oU,oU,oU,oU,oU,oU,oU,oU,oU,oU,oU,oU,oU,oU,oU,oU,oU]
       refine o4 X8 f d at_148 (l' := L_14) rfl ?_
       show c5 p e U m T8 150 L_14 []
       have J162 : ∀ (jvs0 : Addr) (hs0 : jvs0 = if jvc = 0 then d2 else d4), i7 p e U (fun o U' => ∃ v L, o = .returned v ∧ B8 n0 v U'.heap L ∧ CHr Z l3 s.vm s.heap U'.vm U'.heap ∧ ReturnedEndW s o U' L room_1.cells room_1.slots) (T8.setTop (mkF m 162 L_14 [.ref jvs0])) := by
        intro jvs0 hs0
        show c5 p e U m T8 162 L_14 [.ref jvs0]
        let L_15 : Array Slot := #[oJ p0,.second,oJ p1,.second,oI p2,oI p3,oI p4,oI ka_,oI kb_,(oI (ka_ + kb_)),oR d2,oR d4,oR b5,oR b7,oI jvc,oI jvd,oI jve,oI jvf,oR jvs0,oU,oU,oU,oU,oU,oU,oU,oU,oU,oU,oU,oU,oU,oU,oU,oU,oU,oU,oU,oU,oU,oU,oU,oU,oU,oU]
        refine t5 X8 f d at_162 rfl (l' := L_15) rfl ?_
        show c5 p e U m T8 164 L_15 []
        have J176 : ∀ (jvs1 : Addr) (hs1 : jvs1 = if jvd = 0 then d2 else d4), i7 p e U (fun o U' => ∃ v L, o = .returned v ∧ B8 n0 v U'.heap L ∧ CHr Z l3 s.vm s.heap U'.vm U'.heap ∧ ReturnedEndW s o U' L room_1.cells room_1.slots) (T8.setTop (mkF m 176 L_15 [.ref jvs1])) := by
         intro jvs1 hs1
         show c5 p e U m T8 176 L_15 [.ref jvs1]
         let L_16 : Array Slot := #[oJ p0,.second,oJ p1,.second,oI p2,oI p3,oI p4,oI ka_,oI kb_,(oI (ka_ + kb_)),oR d2,oR d4,oR b5,oR b7,oI jvc,oI jvd,oI jve,oI jvf,oR jvs0,oR jvs1,oU,oU,oU,oU,oU,oU,oU,oU,oU,oU,oU,oU,oU,oU,oU,oU,oU,oU,oU,oU,oU,oU,oU,oU,oU]
         refine t5 X8 f d at_176 rfl (l' := L_16) rfl ?_
         show c5 p e U m T8 178 L_16 []
         have J190 : ∀ (jvs2 : Addr) (hs2 : jvs2 = if jve = 0 then d2 else d4), i7 p e U (fun o U' => ∃ v L, o = .returned v ∧ B8 n0 v U'.heap L ∧ CHr Z l3 s.vm s.heap U'.vm U'.heap ∧ ReturnedEndW s o U' L room_1.cells room_1.slots) (T8.setTop (mkF m 190 L_16 [.ref jvs2])) := by
          intro jvs2 hs2
          show c5 p e U m T8 190 L_16 [.ref jvs2]
          let L_17 : Array Slot := #[oJ p0,.second,oJ p1,.second,oI p2,oI p3,oI p4,oI ka_,oI kb_,(oI (ka_ + kb_)),oR d2,oR d4,oR b5,oR b7,oI jvc,oI jvd,oI jve,oI jvf,oR jvs0,oR jvs1,oR jvs2,oU,oU,oU,oU,oU,oU,oU,oU,oU,oU,oU,oU,oU,oU,oU,oU,oU,oU,oU,oU,oU,oU,oU,oU]
          refine t5 X8 f d at_190 rfl (l' := L_17) rfl ?_
          show c5 p e U m T8 192 L_17 []
          have J204 : ∀ (jvs3 : Addr) (hs3 : jvs3 = if jvf = 0 then d2 else d4), i7 p e U (fun o U' => ∃ v L, o = .returned v ∧ B8 n0 v U'.heap L ∧ CHr Z l3 s.vm s.heap U'.vm U'.heap ∧ ReturnedEndW s o U' L room_1.cells room_1.slots) (T8.setTop (mkF m 204 L_17 [.ref jvs3])) := by
           intro jvs3 hs3
           show c5 p e U m T8 204 L_17 [.ref jvs3]
           let L_18 : Array Slot := #[oJ p0,.second,oJ p1,.second,oI p2,oI p3,oI p4,oI ka_,oI kb_,(oI (ka_ + kb_)),oR d2,oR d4,oR b5,oR b7,oI jvc,oI jvd,oI jve,oI jvf,oR jvs0,oR jvs1,oR jvs2,oR jvs3,oU,oU,oU,oU,oU,oU,oU,oU,oU,oU,oU,oU,oU,oU,oU,oU,oU,oU,oU,oU,oU,oU,oU]
           refine t5 X8 f d at_204 rfl (l' := L_18) rfl ?_
           show c5 p e U m T8 206 L_18 []
           have J218 : ∀ (jvt0 : Addr) (ha0 : jvt0 = if jvc = 0 then b5 else b7), i7 p e U (fun o U' => ∃ v L, o = .returned v ∧ B8 n0 v U'.heap L ∧ CHr Z l3 s.vm s.heap U'.vm U'.heap ∧ ReturnedEndW s o U' L room_1.cells room_1.slots) (T8.setTop (mkF m 218 L_18 [.ref jvt0])) := by
            intro jvt0 ha0
            show c5 p e U m T8 218 L_18 [.ref jvt0]
            let L_19 : Array Slot := #[oJ p0,.second,oJ p1,.second,oI p2,oI p3,oI p4,oI ka_,oI kb_,(oI (ka_ + kb_)),oR d2,oR d4,oR b5,oR b7,oI jvc,oI jvd,oI jve,oI jvf,oR jvs0,oR jvs1,oR jvs2,oR jvs3,oR jvt0,oU,oU,oU,oU,oU,oU,oU,oU,oU,oU,oU,oU,oU,oU,oU,oU,oU,oU,oU,oU,oU,oU]
            refine t5 X8 f d at_218 rfl (l' := L_19) rfl ?_
            show c5 p e U m T8 220 L_19 []
            have J232 : ∀ (jvt1 : Addr) (ha1 : jvt1 = if jvd = 0 then b5 else b7), i7 p e U (fun o U' => ∃ v L, o = .returned v ∧ B8 n0 v U'.heap L ∧ CHr Z l3 s.vm s.heap U'.vm U'.heap ∧ ReturnedEndW s o U' L room_1.cells room_1.slots) (T8.setTop (mkF m 232 L_19 [.ref jvt1])) := by
             intro jvt1 ha1
             show c5 p e U m T8 232 L_19 [.ref jvt1]
             let L_20 : Array Slot := #[oJ p0,.second,oJ p1,.second,oI p2,oI p3,oI p4,oI ka_,oI kb_,(oI (ka_ + kb_)),oR d2,oR d4,oR b5,oR b7,oI jvc,oI jvd,oI jve,oI jvf,oR jvs0,oR jvs1,oR jvs2,oR jvs3,oR jvt0,oR jvt1,oU,oU,oU,oU,oU,oU,oU,oU,oU,oU,oU,oU,oU,oU,oU,oU,oU,oU,oU,oU,oU]
             refine t5 X8 f d at_232 rfl (l' := L_20) rfl ?_
             show c5 p e U m T8 234 L_20 []
             have J246 : ∀ (jvt2 : Addr) (ha2 : jvt2 = if jve = 0 then b5 else b7), i7 p e U (fun o U' => ∃ v L, o = .returned v ∧ B8 n0 v U'.heap L ∧ CHr Z l3 s.vm s.heap U'.vm U'.heap ∧ ReturnedEndW s o U' L room_1.cells room_1.slots) (T8.setTop (mkF m 246 L_20 [.ref jvt2])) := by
              intro jvt2 ha2
              show c5 p e U m T8 246 L_20 [.ref jvt2]
              let L_21 : Array Slot := #[oJ p0,.second,oJ p1,.second,oI p2,oI p3,oI p4,oI ka_,oI kb_,(oI (ka_ + kb_)),oR d2,oR d4,oR b5,oR b7,oI jvc,oI jvd,oI jve,oI jvf,oR jvs0,oR jvs1,oR jvs2,oR jvs3,oR jvt0,oR jvt1,oR jvt2,oU,oU,oU,oU,oU,oU,oU,oU,oU,oU,oU,oU,oU,oU,oU,oU,oU,oU,oU,oU]
              refine t5 X8 f d at_246 rfl (l' := L_21) rfl ?_
              show c5 p e U m T8 248 L_21 []
              have J260 : ∀ (jvt3 : Addr) (ha3 : jvt3 = if jvf = 0 then b5 else b7), i7 p e U (fun o U' => ∃ v L, o = .returned v ∧ B8 n0 v U'.heap L ∧ CHr Z l3 s.vm s.heap U'.vm U'.heap ∧ ReturnedEndW s o U' L room_1.cells room_1.slots) (T8.setTop (mkF m 260 L_21 [.ref jvt3])) := by
               intro jvt3 ha3
               show c5 p e U m T8 260 L_21 [.ref jvt3]
               let L_22 : Array Slot := #[oJ p0,.second,oJ p1,.second,oI p2,oI p3,oI p4,oI ka_,oI kb_,(oI (ka_ + kb_)),oR d2,oR d4,oR b5,oR b7,oI jvc,oI jvd,oI jve,oI jvf,oR jvs0,oR jvs1,oR jvs2,oR jvs3,oR jvt0,oR jvt1,oR jvt2,oR jvt3,oU,oU,oU,oU,oU,oU,oU,oU,oU,oU,oU,oU,oU,oU,oU,oU,oU,oU,oU]
               refine t5 X8 f d at_260 rfl (l' := L_22) rfl ?_
               obtain ⟨w0, hw0⟩ : ∃ z, z = T8.heap.size := ⟨_, rfl⟩
               rw [← hw0] at NX NY
               obtain ⟨ta0, ka0, ca0, N0, m0⟩ := ao8 NX nm2 NY nm4 hs0 ha0
               obtain ⟨ta1, ka1, ca1, N1, m1⟩ := ao8 NX nm2 NY nm4 hs1 ha1
               obtain ⟨ta2, ka2, ca2, N2, m2⟩ := ao8 NX nm2 NY nm4 hs2 ha2
               obtain ⟨ta3, ka3, ca3, N3, m3⟩ := ao8 NX nm2 NY nm4 hs3 ha3
               refine t8 X8 f d at_262 rfl ?_
               show c5 p e U m T8 263 L_22 [.long p0]
               refine c8 (fun t k => X8.ldc2Long f hown8 (mvT hZ8 (cJ8 w)) (g := (mkF m 263 L_22 [.long p0])) rfl (hb d at_263) t k) ?_
               show c5 p e U m T8 266 L_22 [(.long (4611686018427387903 : Int64)), .long p0]
               refine R1 X8 f d at_266 ?_
               show c5 p e U m T8 267 L_22 [(.long (p0 &&& (4611686018427387903 : Int64)))]
               let L_23 : Array Slot := #[oJ p0,.second,oJ p1,.second,oI p2,oI p3,oI p4,oI ka_,oI kb_,(oI (ka_ + kb_)),oR d2,oR d4,oR b5,oR b7,oI jvc,oI jvd,oI jve,oI jvf,oR jvs0,oR jvs1,oR jvs2,oR jvs3,oR jvt0,oR jvt1,oR jvt2,oR jvt3,(oJ (p0 &&& (4611686018427387903 : Int64))),.second,oU,oU,oU,oU,oU,oU,oU,oU,oU,oU,oU,oU,oU,oU,oU,oU,oU]
               refine Q9 X8 f d at_267 (l' := L_23) rfl ?_
               show c5 p e U m T8 269 #[.val (.long p0), .second, .val (.long p1), .second, .val (.int p2), .val (.int p3), .val (.int p4), .val (.int ka_), .val (.int kb_), .val (.int (ka_ + kb_)), .val (.ref d2), .val (.ref d4), .val (.ref b5), .val (.ref b7), .val (.int jvc), .val (.int jvd), .val (.int jve), .val (.int jvf), .val (.ref jvs0), .val (.ref jvs1), .val (.ref jvs2), .val (.ref jvs3), .val (.ref jvt0), .val (.ref jvt1), .val (.ref jvt2), .val (.ref jvt3), .val (.long (p0 &&& (4611686018427387903 : Int64))), .second, .unset, .unset, .unset, .unset, .unset, .unset, .unset, .unset, .unset, .unset, .unset, .unset, .unset, .unset, .unset, .unset, .unset] []
               obtain ⟨nf0, h_nf0⟩ : ∃ z, z = (p0 &&& (4611686018427387903 : Int64)) := ⟨_, rfl⟩
               rw [← h_nf0]
               let L_24 : Array Slot := #[oJ p0,.second,oJ p1,.second,oI p2,oI p3,oI p4,oI ka_,oI kb_,(oI (ka_ + kb_)),oR d2,oR d4,oR b5,oR b7,oI jvc,oI jvd,oI jve,oI jvf,oR jvs0,oR jvs1,oR jvs2,oR jvs3,oR jvt0,oR jvt1,oR jvt2,oR jvt3,oJ nf0,.second,oU,oU,oU,oU,oU,oU,oU,oU,oU,oU,oU,oU,oU,oU,oU,oU,oU]
               show c5 p e U m T8 269 L_24 []
               refine t8 X8 f d at_269 rfl ?_
               show c5 p e U m T8 270 L_24 [.long p1]
               refine c8 (fun t k => X8.ldc2Long f hown8 (mvT hZ8 (az2 w)) (g := (mkF m 270 L_24 [.long p1])) rfl (hb d at_270) t k) ?_
               show c5 p e U m T8 273 L_24 [(.long (65535 : Int64)), .long p1]
               refine R1 X8 f d at_273 ?_
               show c5 p e U m T8 274 L_24 [(.long (p1 &&& (65535 : Int64)))]
               refine c8 (fun t k => XS.lconst X8.here f rfl (hb d at_274) k) ?_
               show c5 p e U m T8 275 L_24 [(.long (1 : Int64)), (.long (p1 &&& (65535 : Int64)))]
               refine P4 X8 f d at_275 ?_
               show c5 p e U m T8 276 L_24 [(.long ((p1 &&& (65535 : Int64)) + (1 : Int64)))]
               let L_25 : Array Slot := #[oJ p0,.second,oJ p1,.second,oI p2,oI p3,oI p4,oI ka_,oI kb_,(oI (ka_ + kb_)),oR d2,oR d4,oR b5,oR b7,oI jvc,oI jvd,oI jve,oI jvf,oR jvs0,oR jvs1,oR jvs2,oR jvs3,oR jvt0,oR jvt1,oR jvt2,oR jvt3,oJ nf0,.second,(oJ ((p1 &&& (65535 : Int64)) + (1 : Int64))),.second,oU,oU,oU,oU,oU,oU,oU,oU,oU,oU,oU,oU,oU,oU,oU]
               refine Q9 X8 f d at_276 (l' := L_25) rfl ?_
               show c5 p e U m T8 278 #[.val (.long p0), .second, .val (.long p1), .second, .val (.int p2), .val (.int p3), .val (.int p4), .val (.int ka_), .val (.int kb_), .val (.int (ka_ + kb_)), .val (.ref d2), .val (.ref d4), .val (.ref b5), .val (.ref b7), .val (.int jvc), .val (.int jvd), .val (.int jve), .val (.int jvf), .val (.ref jvs0), .val (.ref jvs1), .val (.ref jvs2), .val (.ref jvs3), .val (.ref jvt0), .val (.ref jvt1), .val (.ref jvt2), .val (.ref jvt3), .val (.long nf0), .second, .val (.long ((p1 &&& (65535 : Int64)) + (1 : Int64))), .second, .unset, .unset, .unset, .unset, .unset, .unset, .unset, .unset, .unset, .unset, .unset, .unset, .unset, .unset, .unset] []
               obtain ⟨nc0, h_nc0⟩ : ∃ z, z = ((p1 &&& (65535 : Int64)) + (1 : Int64)) := ⟨_, rfl⟩
               rw [← h_nc0]
               let L_26 : Array Slot := #[oJ p0,.second,oJ p1,.second,oI p2,oI p3,oI p4,oI ka_,oI kb_,(oI (ka_ + kb_)),oR d2,oR d4,oR b5,oR b7,oI jvc,oI jvd,oI jve,oI jvf,oR jvs0,oR jvs1,oR jvs2,oR jvs3,oR jvt0,oR jvt1,oR jvt2,oR jvt3,oJ nf0,.second,oJ nc0,.second,oU,oU,oU,oU,oU,oU,oU,oU,oU,oU,oU,oU,oU,oU,oU]
               show c5 p e U m T8 278 L_26 []
               refine t8 X8 f d at_278 rfl ?_
               refine t9 X8 f d at_279 (z := (16 : Int32)) rfl ?_
               refine ap1 X8 f d at_281 ?_
               show c5 p e U m T8 282 L_26 [(.long ((p1.toUInt64 >>> ((16 : Int32) &&& 0x3f).toInt64.toUInt64).toInt64))]
               refine c8 (fun t k => X8.ldc2Long f hown8 (mvT hZ8 (az2 w)) (g := (mkF m 282 L_26 [(.long ((p1.toUInt64 >>> ((16 : Int32) &&& 0x3f).toInt64.toUInt64).toInt64))])) rfl (hb d at_282) t k) ?_
               show c5 p e U m T8 285 L_26 [(.long (65535 : Int64)), (.long ((p1.toUInt64 >>> ((16 : Int32) &&& 0x3f).toInt64.toUInt64).toInt64))]
               refine R1 X8 f d at_285 ?_
               show c5 p e U m T8 286 L_26 [(.long (((p1.toUInt64 >>> ((16 : Int32) &&& 0x3f).toInt64.toUInt64).toInt64) &&& (65535 : Int64)))]
               refine c8 (fun t k => XS.lconst X8.here f rfl (hb d at_286) k) ?_
               show c5 p e U m T8 287 L_26 [(.long (1 : Int64)), (.long (((p1.toUInt64 >>> ((16 : Int32) &&& 0x3f).toInt64.toUInt64).toInt64) &&& (65535 : Int64)))]
               refine P4 X8 f d at_287 ?_
               show c5 p e U m T8 288 L_26 [(.long ((((p1.toUInt64 >>> ((16 : Int32) &&& 0x3f).toInt64.toUInt64).toInt64) &&& (65535 : Int64)) + (1 : Int64)))]
               let L_27 : Array Slot := #[oJ p0,.second,oJ p1,.second,oI p2,oI p3,oI p4,oI ka_,oI kb_,(oI (ka_ + kb_)),oR d2,oR d4,oR b5,oR b7,oI jvc,oI jvd,oI jve,oI jvf,oR jvs0,oR jvs1,oR jvs2,oR jvs3,oR jvt0,oR jvt1,oR jvt2,oR jvt3,oJ nf0,.second,oJ nc0,.second,(oJ ((((p1.toUInt64 >>> ((16 : Int32) &&& 0x3f).toInt64.toUInt64).toInt64) &&& (65535 : Int64)) + (1 : Int64))),.second,oU,oU,oU,oU,oU,oU,oU,oU,oU,oU,oU,oU,oU]
               refine Q9 X8 f d at_288 (l' := L_27) rfl ?_
               show c5 p e U m T8 290 #[.val (.long p0), .second, .val (.long p1), .second, .val (.int p2), .val (.int p3), .val (.int p4), .val (.int ka_), .val (.int kb_), .val (.int (ka_ + kb_)), .val (.ref d2), .val (.ref d4), .val (.ref b5), .val (.ref b7), .val (.int jvc), .val (.int jvd), .val (.int jve), .val (.int jvf), .val (.ref jvs0), .val (.ref jvs1), .val (.ref jvs2), .val (.ref jvs3), .val (.ref jvt0), .val (.ref jvt1), .val (.ref jvt2), .val (.ref jvt3), .val (.long nf0), .second, .val (.long nc0), .second, .val (.long ((((p1.toUInt64 >>> ((16 : Int32) &&& 0x3f).toInt64.toUInt64).toInt64) &&& (65535 : Int64)) + (1 : Int64))), .second, .unset, .unset, .unset, .unset, .unset, .unset, .unset, .unset, .unset, .unset, .unset, .unset, .unset] []
               obtain ⟨nc1, h_nc1⟩ : ∃ z, z = ((((p1.toUInt64 >>> ((16 : Int32) &&& 0x3f).toInt64.toUInt64).toInt64) &&& (65535 : Int64)) + (1 : Int64)) := ⟨_, rfl⟩
               rw [← h_nc1]
               let L_28 : Array Slot := #[oJ p0,.second,oJ p1,.second,oI p2,oI p3,oI p4,oI ka_,oI kb_,(oI (ka_ + kb_)),oR d2,oR d4,oR b5,oR b7,oI jvc,oI jvd,oI jve,oI jvf,oR jvs0,oR jvs1,oR jvs2,oR jvs3,oR jvt0,oR jvt1,oR jvt2,oR jvt3,oJ nf0,.second,oJ nc0,.second,oJ nc1,.second,oU,oU,oU,oU,oU,oU,oU,oU,oU,oU,oU,oU,oU]
               show c5 p e U m T8 290 L_28 []
               refine t8 X8 f d at_290 rfl ?_
               refine t9 X8 f d at_291 (z := (32 : Int32)) rfl ?_
               refine ap1 X8 f d at_293 ?_
               show c5 p e U m T8 294 L_28 [(.long ((p1.toUInt64 >>> ((32 : Int32) &&& 0x3f).toInt64.toUInt64).toInt64))]
               refine c8 (fun t k => X8.ldc2Long f hown8 (mvT hZ8 (az2 w)) (g := (mkF m 294 L_28 [(.long ((p1.toUInt64 >>> ((32 : Int32) &&& 0x3f).toInt64.toUInt64).toInt64))])) rfl (hb d at_294) t k) ?_
               show c5 p e U m T8 297 L_28 [(.long (65535 : Int64)), (.long ((p1.toUInt64 >>> ((32 : Int32) &&& 0x3f).toInt64.toUInt64).toInt64))]
               refine R1 X8 f d at_297 ?_
               show c5 p e U m T8 298 L_28 [(.long (((p1.toUInt64 >>> ((32 : Int32) &&& 0x3f).toInt64.toUInt64).toInt64) &&& (65535 : Int64)))]
               refine c8 (fun t k => XS.lconst X8.here f rfl (hb d at_298) k) ?_
               show c5 p e U m T8 299 L_28 [(.long (1 : Int64)), (.long (((p1.toUInt64 >>> ((32 : Int32) &&& 0x3f).toInt64.toUInt64).toInt64) &&& (65535 : Int64)))]
               refine P4 X8 f d at_299 ?_
               show c5 p e U m T8 300 L_28 [(.long ((((p1.toUInt64 >>> ((32 : Int32) &&& 0x3f).toInt64.toUInt64).toInt64) &&& (65535 : Int64)) + (1 : Int64)))]
               let L_29 : Array Slot := #[oJ p0,.second,oJ p1,.second,oI p2,oI p3,oI p4,oI ka_,oI kb_,(oI (ka_ + kb_)),oR d2,oR d4,oR b5,oR b7,oI jvc,oI jvd,oI jve,oI jvf,oR jvs0,oR jvs1,oR jvs2,oR jvs3,oR jvt0,oR jvt1,oR jvt2,oR jvt3,oJ nf0,.second,oJ nc0,.second,oJ nc1,.second,(oJ ((((p1.toUInt64 >>> ((32 : Int32) &&& 0x3f).toInt64.toUInt64).toInt64) &&& (65535 : Int64)) + (1 : Int64))),.second,oU,oU,oU,oU,oU,oU,oU,oU,oU,oU,oU]
               refine Q9 X8 f d at_300 (l' := L_29) rfl ?_
               show c5 p e U m T8 302 #[.val (.long p0), .second, .val (.long p1), .second, .val (.int p2), .val (.int p3), .val (.int p4), .val (.int ka_), .val (.int kb_), .val (.int (ka_ + kb_)), .val (.ref d2), .val (.ref d4), .val (.ref b5), .val (.ref b7), .val (.int jvc), .val (.int jvd), .val (.int jve), .val (.int jvf), .val (.ref jvs0), .val (.ref jvs1), .val (.ref jvs2), .val (.ref jvs3), .val (.ref jvt0), .val (.ref jvt1), .val (.ref jvt2), .val (.ref jvt3), .val (.long nf0), .second, .val (.long nc0), .second, .val (.long nc1), .second, .val (.long ((((p1.toUInt64 >>> ((32 : Int32) &&& 0x3f).toInt64.toUInt64).toInt64) &&& (65535 : Int64)) + (1 : Int64))), .second, .unset, .unset, .unset, .unset, .unset, .unset, .unset, .unset, .unset, .unset, .unset] []
               obtain ⟨nc2, h_nc2⟩ : ∃ z, z = ((((p1.toUInt64 >>> ((32 : Int32) &&& 0x3f).toInt64.toUInt64).toInt64) &&& (65535 : Int64)) + (1 : Int64)) := ⟨_, rfl⟩
               rw [← h_nc2]
               let L_30 : Array Slot := #[oJ p0,.second,oJ p1,.second,oI p2,oI p3,oI p4,oI ka_,oI kb_,(oI (ka_ + kb_)),oR d2,oR d4,oR b5,oR b7,oI jvc,oI jvd,oI jve,oI jvf,oR jvs0,oR jvs1,oR jvs2,oR jvs3,oR jvt0,oR jvt1,oR jvt2,oR jvt3,oJ nf0,.second,oJ nc0,.second,oJ nc1,.second,oJ nc2,.second,oU,oU,oU,oU,oU,oU,oU,oU,oU,oU,oU]
               show c5 p e U m T8 302 L_30 []
               refine t8 X8 f d at_302 rfl ?_
               refine t9 X8 f d at_303 (z := (48 : Int32)) rfl ?_
               refine ap1 X8 f d at_305 ?_
               show c5 p e U m T8 306 L_30 [(.long ((p1.toUInt64 >>> ((48 : Int32) &&& 0x3f).toInt64.toUInt64).toInt64))]
               refine c8 (fun t k => X8.ldc2Long f hown8 (mvT hZ8 (az2 w)) (g := (mkF m 306 L_30 [(.long ((p1.toUInt64 >>> ((48 : Int32) &&& 0x3f).toInt64.toUInt64).toInt64))])) rfl (hb d at_306) t k) ?_
               show c5 p e U m T8 309 L_30 [(.long (65535 : Int64)), (.long ((p1.toUInt64 >>> ((48 : Int32) &&& 0x3f).toInt64.toUInt64).toInt64))]
               refine R1 X8 f d at_309 ?_
               show c5 p e U m T8 310 L_30 [(.long (((p1.toUInt64 >>> ((48 : Int32) &&& 0x3f).toInt64.toUInt64).toInt64) &&& (65535 : Int64)))]
               refine c8 (fun t k => XS.lconst X8.here f rfl (hb d at_310) k) ?_
               show c5 p e U m T8 311 L_30 [(.long (1 : Int64)), (.long (((p1.toUInt64 >>> ((48 : Int32) &&& 0x3f).toInt64.toUInt64).toInt64) &&& (65535 : Int64)))]
               refine P4 X8 f d at_311 ?_
               show c5 p e U m T8 312 L_30 [(.long ((((p1.toUInt64 >>> ((48 : Int32) &&& 0x3f).toInt64.toUInt64).toInt64) &&& (65535 : Int64)) + (1 : Int64)))]
               let L_31 : Array Slot := #[oJ p0,.second,oJ p1,.second,oI p2,oI p3,oI p4,oI ka_,oI kb_,(oI (ka_ + kb_)),oR d2,oR d4,oR b5,oR b7,oI jvc,oI jvd,oI jve,oI jvf,oR jvs0,oR jvs1,oR jvs2,oR jvs3,oR jvt0,oR jvt1,oR jvt2,oR jvt3,oJ nf0,.second,oJ nc0,.second,oJ nc1,.second,oJ nc2,.second,(oJ ((((p1.toUInt64 >>> ((48 : Int32) &&& 0x3f).toInt64.toUInt64).toInt64) &&& (65535 : Int64)) + (1 : Int64))),.second,oU,oU,oU,oU,oU,oU,oU,oU,oU]
               refine Q9 X8 f d at_312 (l' := L_31) rfl ?_
               show c5 p e U m T8 314 #[.val (.long p0), .second, .val (.long p1), .second, .val (.int p2), .val (.int p3), .val (.int p4), .val (.int ka_), .val (.int kb_), .val (.int (ka_ + kb_)), .val (.ref d2), .val (.ref d4), .val (.ref b5), .val (.ref b7), .val (.int jvc), .val (.int jvd), .val (.int jve), .val (.int jvf), .val (.ref jvs0), .val (.ref jvs1), .val (.ref jvs2), .val (.ref jvs3), .val (.ref jvt0), .val (.ref jvt1), .val (.ref jvt2), .val (.ref jvt3), .val (.long nf0), .second, .val (.long nc0), .second, .val (.long nc1), .second, .val (.long nc2), .second, .val (.long ((((p1.toUInt64 >>> ((48 : Int32) &&& 0x3f).toInt64.toUInt64).toInt64) &&& (65535 : Int64)) + (1 : Int64))), .second, .unset, .unset, .unset, .unset, .unset, .unset, .unset, .unset, .unset] []
               obtain ⟨nc3, h_nc3⟩ : ∃ z, z = ((((p1.toUInt64 >>> ((48 : Int32) &&& 0x3f).toInt64.toUInt64).toInt64) &&& (65535 : Int64)) + (1 : Int64)) := ⟨_, rfl⟩
               rw [← h_nc3]
               let L_32 : Array Slot := #[oJ p0,.second,oJ p1,.second,oI p2,oI p3,oI p4,oI ka_,oI kb_,(oI (ka_ + kb_)),oR d2,oR d4,oR b5,oR b7,oI jvc,oI jvd,oI jve,oI jvf,oR jvs0,oR jvs1,oR jvs2,oR jvs3,oR jvt0,oR jvt1,oR jvt2,oR jvt3,oJ nf0,.second,oJ nc0,.second,oJ nc1,.second,oJ nc2,.second,oJ nc3,.second,oU,oU,oU,oU,oU,oU,oU,oU,oU]
               show c5 p e U m T8 314 L_32 []
               refine o3 X8 f d at_314 rfl ?_
               refine o3 X8 f d at_316 rfl ?_
               refine P4 X8 f d at_318 ?_
               show c5 p e U m T8 319 L_32 [(.long (nf0 + nc0))]
               let L_33 : Array Slot := #[oJ p0,.second,oJ p1,.second,oI p2,oI p3,oI p4,oI ka_,oI kb_,(oI (ka_ + kb_)),oR d2,oR d4,oR b5,oR b7,oI jvc,oI jvd,oI jve,oI jvf,oR jvs0,oR jvs1,oR jvs2,oR jvs3,oR jvt0,oR jvt1,oR jvt2,oR jvt3,oJ nf0,.second,oJ nc0,.second,oJ nc1,.second,oJ nc2,.second,oJ nc3,.second,(oJ (nf0 + nc0)),.second,oU,oU,oU,oU,oU,oU,oU]
               refine Q9 X8 f d at_319 (l' := L_33) rfl ?_
               show c5 p e U m T8 321 #[.val (.long p0), .second, .val (.long p1), .second, .val (.int p2), .val (.int p3), .val (.int p4), .val (.int ka_), .val (.int kb_), .val (.int (ka_ + kb_)), .val (.ref d2), .val (.ref d4), .val (.ref b5), .val (.ref b7), .val (.int jvc), .val (.int jvd), .val (.int jve), .val (.int jvf), .val (.ref jvs0), .val (.ref jvs1), .val (.ref jvs2), .val (.ref jvs3), .val (.ref jvt0), .val (.ref jvt1), .val (.ref jvt2), .val (.ref jvt3), .val (.long nf0), .second, .val (.long nc0), .second, .val (.long nc1), .second, .val (.long nc2), .second, .val (.long nc3), .second, .val (.long (nf0 + nc0)), .second, .unset, .unset, .unset, .unset, .unset, .unset, .unset] []
               obtain ⟨nf1, h_nf1⟩ : ∃ z, z = (nf0 + nc0) := ⟨_, rfl⟩
               rw [← h_nf1]
               let L_34 : Array Slot := #[oJ p0,.second,oJ p1,.second,oI p2,oI p3,oI p4,oI ka_,oI kb_,(oI (ka_ + kb_)),oR d2,oR d4,oR b5,oR b7,oI jvc,oI jvd,oI jve,oI jvf,oR jvs0,oR jvs1,oR jvs2,oR jvs3,oR jvt0,oR jvt1,oR jvt2,oR jvt3,oJ nf0,.second,oJ nc0,.second,oJ nc1,.second,oJ nc2,.second,oJ nc3,.second,oJ nf1,.second,oU,oU,oU,oU,oU,oU,oU]
               show c5 p e U m T8 321 L_34 []
               refine o3 X8 f d at_321 rfl ?_
               refine o3 X8 f d at_323 rfl ?_
               refine P4 X8 f d at_325 ?_
               show c5 p e U m T8 326 L_34 [(.long (nf1 + nc1))]
               let L_35 : Array Slot := #[oJ p0,.second,oJ p1,.second,oI p2,oI p3,oI p4,oI ka_,oI kb_,(oI (ka_ + kb_)),oR d2,oR d4,oR b5,oR b7,oI jvc,oI jvd,oI jve,oI jvf,oR jvs0,oR jvs1,oR jvs2,oR jvs3,oR jvt0,oR jvt1,oR jvt2,oR jvt3,oJ nf0,.second,oJ nc0,.second,oJ nc1,.second,oJ nc2,.second,oJ nc3,.second,oJ nf1,.second,(oJ (nf1 + nc1)),.second,oU,oU,oU,oU,oU]
               refine Q9 X8 f d at_326 (l' := L_35) rfl ?_
               show c5 p e U m T8 328 #[.val (.long p0), .second, .val (.long p1), .second, .val (.int p2), .val (.int p3), .val (.int p4), .val (.int ka_), .val (.int kb_), .val (.int (ka_ + kb_)), .val (.ref d2), .val (.ref d4), .val (.ref b5), .val (.ref b7), .val (.int jvc), .val (.int jvd), .val (.int jve), .val (.int jvf), .val (.ref jvs0), .val (.ref jvs1), .val (.ref jvs2), .val (.ref jvs3), .val (.ref jvt0), .val (.ref jvt1), .val (.ref jvt2), .val (.ref jvt3), .val (.long nf0), .second, .val (.long nc0), .second, .val (.long nc1), .second, .val (.long nc2), .second, .val (.long nc3), .second, .val (.long nf1), .second, .val (.long (nf1 + nc1)), .second, .unset, .unset, .unset, .unset, .unset] []
               obtain ⟨nf2, h_nf2⟩ : ∃ z, z = (nf1 + nc1) := ⟨_, rfl⟩
               rw [← h_nf2]
               let L_36 : Array Slot := #[oJ p0,.second,oJ p1,.second,oI p2,oI p3,oI p4,oI ka_,oI kb_,(oI (ka_ + kb_)),oR d2,oR d4,oR b5,oR b7,oI jvc,oI jvd,oI jve,oI jvf,oR jvs0,oR jvs1,oR jvs2,oR jvs3,oR jvt0,oR jvt1,oR jvt2,oR jvt3,oJ nf0,.second,oJ nc0,.second,oJ nc1,.second,oJ nc2,.second,oJ nc3,.second,oJ nf1,.second,oJ nf2,.second,oU,oU,oU,oU,oU]
               show c5 p e U m T8 328 L_36 []
               refine o3 X8 f d at_328 rfl ?_
               refine o3 X8 f d at_330 rfl ?_
               refine P4 X8 f d at_332 ?_
               show c5 p e U m T8 333 L_36 [(.long (nf2 + nc2))]
               let L_37 : Array Slot := #[oJ p0,.second,oJ p1,.second,oI p2,oI p3,oI p4,oI ka_,oI kb_,(oI (ka_ + kb_)),oR d2,oR d4,oR b5,oR b7,oI jvc,oI jvd,oI jve,oI jvf,oR jvs0,oR jvs1,oR jvs2,oR jvs3,oR jvt0,oR jvt1,oR jvt2,oR jvt3,oJ nf0,.second,oJ nc0,.second,oJ nc1,.second,oJ nc2,.second,oJ nc3,.second,oJ nf1,.second,oJ nf2,.second,(oJ (nf2 + nc2)),.second,oU,oU,oU]
               refine Q9 X8 f d at_333 (l' := L_37) rfl ?_
               show c5 p e U m T8 335 #[.val (.long p0), .second, .val (.long p1), .second, .val (.int p2), .val (.int p3), .val (.int p4), .val (.int ka_), .val (.int kb_), .val (.int (ka_ + kb_)), .val (.ref d2), .val (.ref d4), .val (.ref b5), .val (.ref b7), .val (.int jvc), .val (.int jvd), .val (.int jve), .val (.int jvf), .val (.ref jvs0), .val (.ref jvs1), .val (.ref jvs2), .val (.ref jvs3), .val (.ref jvt0), .val (.ref jvt1), .val (.ref jvt2), .val (.ref jvt3), .val (.long nf0), .second, .val (.long nc0), .second, .val (.long nc1), .second, .val (.long nc2), .second, .val (.long nc3), .second, .val (.long nf1), .second, .val (.long nf2), .second, .val (.long (nf2 + nc2)), .second, .unset, .unset, .unset] []
               obtain ⟨nf3, h_nf3⟩ : ∃ z, z = (nf2 + nc2) := ⟨_, rfl⟩
               rw [← h_nf3]
               obtain ⟨⟨nn0, nn1, nn2, nn3⟩, ⟨mm0, mm1, mm2, mm3⟩, dd0, dd1, dd2⟩ := ce6 h_nf0 h_nc0 h_nc1 h_nc2 h_nc3 h_nf1 h_nf2 h_nf3
               let L_38 : Array Slot := #[oJ p0,.second,oJ p1,.second,oI p2,oI p3,oI p4,oI ka_,oI kb_,(oI (ka_ + kb_)),oR d2,oR d4,oR b5,oR b7,oI jvc,oI jvd,oI jve,oI jvf,oR jvs0,oR jvs1,oR jvs2,oR jvs3,oR jvt0,oR jvt1,oR jvt2,oR jvt3,oJ nf0,.second,oJ nc0,.second,oJ nc1,.second,oJ nc2,.second,oJ nc3,.second,oJ nf1,.second,oJ nf2,.second,oJ nf3,.second,oU,oU,oU]
               obtain ⟨T21, h21, X21, e21, E21, A21, D21, -, st21⟩ := newO X8 f hZ8 hown8 (bG5 w) (o0 w) (v9 w) rfl (g := (mkF m 335 L_38 [])) rfl (hb d at_335) (by decide) (by decide)
               obtain ⟨b21, g21⟩ : ∃ z, z = T8.heap.size := ⟨_, rfl⟩
               rw [← g21] at A21 D21 st21
               have g_b21 : n0 ≤ b21 := c9 sz8 (f7 g21.symm)
               have sz_b21 : h0.size ≤ b21 := c9 KP8.1 (f7 g21.symm)
               have XO__21 := XO__8.ext E21
               have N0__21 := N0.ext E21
               have N1__21 := N1.ext E21
               have N2__21 := N2.ext E21
               have N3__21 := N3.ext E21
               have hR21 := hR8.trans (CHr.ext E21 hD8)
               have hC21 := hR21.1
               have sz21 := c9 sz8 E21.1
               have KP21 := KP8.ext E21
               have hk21 := c9 hk8 E21.1
               have F21_modCount : Fld Z h21 b21 "java/util/AbstractList" "modCount" "I" (.int 0) := D21 (Or.inl (H3 w)) (ty := .int) (by decide)
               have F21_firsts : Fld Z h21 b21 "com/example/prizewell/prizewell/core/TicketRanges" "firsts" "[J" .null := D21 (Or.inl (x4 w)) (ty := (.array .long)) (by decide)
               have F21_nameStarts : Fld Z h21 b21 "com/example/prizewell/prizewell/core/TicketRanges" "nameStarts" "[I" .null := D21 (Or.inl (x5 w)) (ty := (.array .int)) (by decide)
               have F21_names : Fld Z h21 b21 "com/example/prizewell/prizewell/core/TicketRanges" "names" "[B" .null := D21 (Or.inl (B2 w)) (ty := (.array .byte)) (by decide)
               have F21_size : Fld Z h21 b21 "com/example/prizewell/prizewell/core/TicketRanges" "size" "I" (.int 0) := D21 (Or.inl (w5 w)) (ty := .int) (by decide)
               have F21_lastCount : Fld Z h21 b21 "com/example/prizewell/prizewell/core/TicketRanges" "lastCount" "Ljava/math/BigInteger;" .null := D21 (Or.inl (w6 w)) (ty := (.object "java/math/BigInteger")) (by decide)
               refine c8 st21 ?_
               have wl_b21 : w0 ≤ b21 := c9 (f7 hw0) (f7 g21.symm)
               show c5 p e U m T21 338 L_38 [.ref b21]
               refine A0 X21 f d at_338 rfl ?_
               obtain ⟨_, T22, Lc22, X22, hQ22, st22⟩ := D0 X21 f d r hZ8 e21 hown8 (be8 w) (be9 w) (v9 w) (bf0 w) (o := b21) (cc2 l Z a0 w [] b21 (0 : Int32) h21 n0 sz21 ⟨A21, F21_size, F21_firsts, F21_nameStarts, F21_names, F21_lastCount⟩ F21_modCount g_b21) L_38 at_339 [] [.ref b21] 1 3 1 (lenOf S5 rfl)
               obtain ⟨rfl, Nq22, K22, W22, gn22, Lr22⟩ := hQ22
               have N22 := Fr.app N8 Nq22
               refine c8 st22 ?_
               have XO__22 := XO__21.keep K22 (allS g_b21 all0)
               have N0__22 := N0__21.keep K22 (allS wl_b21 all0)
               have N1__22 := N1__21.keep K22 (allS wl_b21 all0)
               have N2__22 := N2__21.keep K22 (allS wl_b21 all0)
               have N3__22 := N3__21.keep K22 (allS wl_b21 all0)
               have A21__22 := A21.keep K22
               have hR22 := hR21.trans (CHr.keep K22 (show ∀ y ∈ ([b21] : List Addr), Safe Z l3 T8.vm h21 y from (sfS (Safe.exa hZ8.alike A21 (by decide) (by decide)) sf0)) hC21)
               have hC22 := hR22.1
               have KP22 := KP21.trans K22 (allS (Or.inr sz_b21) all0)
               have sz22 := c9 sz21 K22.1
               have hk22 := c9 hk21 K22.1
               have gz_W22 : ∀ y ∈ W22, h0.size ≤ y := fun y hy => (gn22 y hy).elim (fun q => q ▸ sz_b21) (fun q => c9 KP21.1 q)
               have wl_W22 : ∀ y ∈ W22, w0 ≤ y := fun y hy => (gn22 y hy).elim (fun q => q ▸ wl_b21) (fun q => c9 (Nat.le_of_lt (Nat.lt_of_le_of_lt wl_b21 A21.lt)) q)
               have ZW22 : ∀ y ∈ W22, Safe Z l3 T8.vm T22.heap y := fun y hy => Safe.keep K22 (show ∀ y ∈ ([b21] : List Addr), Safe Z l3 T8.vm h21 y from sfS (Safe.exa hZ8.alike A21 (by decide) (by decide)) sf0) hC21 ((gn22 y hy).elim (fun q => q ▸ (Safe.exa hZ8.alike A21 (by decide) (by decide))) (fun q => Safe.new q))
               show c5 p e U m T22 342 L_38 [.ref b21]
               let L_39 : Array Slot := #[oJ p0,.second,oJ p1,.second,oI p2,oI p3,oI p4,oI ka_,oI kb_,(oI (ka_ + kb_)),oR d2,oR d4,oR b5,oR b7,oI jvc,oI jvd,oI jve,oI jvf,oR jvs0,oR jvs1,oR jvs2,oR jvs3,oR jvt0,oR jvt1,oR jvt2,oR jvt3,oJ nf0,.second,oJ nc0,.second,oJ nc1,.second,oJ nc2,.second,oJ nc3,.second,oJ nf1,.second,oJ nf2,.second,oJ nf3,.second,oR b21,oU,oU]
               refine t5 X22 f d at_342 rfl (l' := L_39) rfl ?_
               obtain ⟨T23, h23, X23, e23, E23, A23, D23, -, st23⟩ := newO X22 f hZ8 hown8 (bG5 w) (o0 w) (v9 w) rfl (g := (mkF m 344 L_39 [])) rfl (hb d at_344) (by decide) (by decide)
               obtain ⟨b23, g23⟩ : ∃ z, z = T22.heap.size := ⟨_, rfl⟩
               rw [← g23] at A23 D23 st23
               have g_b23 : n0 ≤ b23 := c9 sz22 (f7 g23.symm)
               have sz_b23 : h0.size ≤ b23 := c9 KP22.1 (f7 g23.symm)
               have XO__23 := XO__22.ext E23
               have N0__23 := N0__22.ext E23
               have N1__23 := N1__22.ext E23
               have N2__23 := N2__22.ext E23
               have N3__23 := N3__22.ext E23
               have A21__23 := A21__22.ext E23
               have Lr22__23 := Lr22.ext E23
               have ZW22__23 : ∀ y ∈ W22, Safe Z l3 T8.vm h23 y := fun y hy => (ZW22 y hy).ext E23 hC22
               have hR23 := hR22.trans (CHr.ext E23 hC22)
               have hC23 := hR23.1
               have sz23 := c9 sz22 E23.1
               have KP23 := KP22.ext E23
               have hk23 := c9 hk22 E23.1
               have F23_modCount : Fld Z h23 b23 "java/util/AbstractList" "modCount" "I" (.int 0) := D23 (Or.inl (H3 w)) (ty := .int) (by decide)
               have F23_firsts : Fld Z h23 b23 "com/example/prizewell/prizewell/core/TicketRanges" "firsts" "[J" .null := D23 (Or.inl (x4 w)) (ty := (.array .long)) (by decide)
               have F23_nameStarts : Fld Z h23 b23 "com/example/prizewell/prizewell/core/TicketRanges" "nameStarts" "[I" .null := D23 (Or.inl (x5 w)) (ty := (.array .int)) (by decide)
               have F23_names : Fld Z h23 b23 "com/example/prizewell/prizewell/core/TicketRanges" "names" "[B" .null := D23 (Or.inl (B2 w)) (ty := (.array .byte)) (by decide)
               have F23_size : Fld Z h23 b23 "com/example/prizewell/prizewell/core/TicketRanges" "size" "I" (.int 0) := D23 (Or.inl (w5 w)) (ty := .int) (by decide)
               have F23_lastCount : Fld Z h23 b23 "com/example/prizewell/prizewell/core/TicketRanges" "lastCount" "Ljava/math/BigInteger;" .null := D23 (Or.inl (w6 w)) (ty := (.object "java/math/BigInteger")) (by decide)
               refine c8 st23 ?_
               have nb_ : b23 ∉ W22 := fun z => Nat.lt_irrefl _ (j3 (Lr22.lt _ z) (f7 g23.symm))
               have wl_b23 : w0 ≤ b23 := Nat.le_of_lt (Nat.lt_of_le_of_lt wl_b21 (j3 A21__22.lt (f7 g23.symm)))
               show c5 p e U m T23 347 L_39 [.ref b23]
               refine A0 X23 f d at_347 rfl ?_
               obtain ⟨_, T24, Lc24, X24, hQ24, st24⟩ := D0 X23 f d r hZ8 e23 hown8 (be8 w) (be9 w) (v9 w) (bf0 w) (o := b23) (cc2 l Z a0 w [] b23 (0 : Int32) h23 n0 sz23 ⟨A23, F23_size, F23_firsts, F23_nameStarts, F23_names, F23_lastCount⟩ F23_modCount g_b23) L_39 at_348 [] [.ref b23] 1 3 1 (lenOf S5 rfl)
               obtain ⟨rfl, Nq24, K24, W24, gn24, Lr24⟩ := hQ24
               have N24 := Fr.app N22 Nq24
               refine c8 st24 ?_
               have XO__24 := XO__23.keep K24 (allS g_b23 all0)
               have N0__24 := N0__23.keep K24 (allS wl_b23 all0)
               have N1__24 := N1__23.keep K24 (allS wl_b23 all0)
               have N2__24 := N2__23.keep K24 (allS wl_b23 all0)
               have N3__24 := N3__23.keep K24 (allS wl_b23 all0)
               have A21__24 := A21__23.keep K24
               have Lr22__24 := Lr22__23.keep K24 (allS nb_ all0)
               have ZW22__24 : ∀ y ∈ W22, Safe Z l3 T8.vm T24.heap y := fun y hy => (ZW22__23 y hy).keep K24 (show ∀ y ∈ ([b23] : List Addr), Safe Z l3 T8.vm h23 y from (sfS (Safe.exa hZ8.alike A23 (by decide) (by decide)) sf0)) hC23
               have hR24 := hR23.trans (CHr.keep K24 (show ∀ y ∈ ([b23] : List Addr), Safe Z l3 T8.vm h23 y from (sfS (Safe.exa hZ8.alike A23 (by decide) (by decide)) sf0)) hC23)
               have hC24 := hR24.1
               have KP24 := KP23.trans K24 (allS (Or.inr sz_b23) all0)
               have sz24 := c9 sz23 K24.1
               have hk24 := c9 hk23 K24.1
               have gz_W24 : ∀ y ∈ W24, h0.size ≤ y := fun y hy => (gn24 y hy).elim (fun q => q ▸ sz_b23) (fun q => c9 KP23.1 q)
               have wl_W24 : ∀ y ∈ W24, w0 ≤ y := fun y hy => (gn24 y hy).elim (fun q => q ▸ wl_b23) (fun q => c9 (Nat.le_of_lt (Nat.lt_of_le_of_lt wl_b23 A23.lt)) q)
               have ZW24 : ∀ y ∈ W24, Safe Z l3 T8.vm T24.heap y := fun y hy => Safe.keep K24 (show ∀ y ∈ ([b23] : List Addr), Safe Z l3 T8.vm h23 y from sfS (Safe.exa hZ8.alike A23 (by decide) (by decide)) sf0) hC23 ((gn24 y hy).elim (fun q => q ▸ (Safe.exa hZ8.alike A23 (by decide) (by decide))) (fun q => Safe.new q))
               have dj24 : ∀ y ∈ W24, y ∉ W22 := fun y hy z => (gn24 y hy).elim (fun q => nb_ (q ▸ z)) (fun q => Nat.lt_irrefl _ (j3 (Lr22__23.lt y z) q))
               show c5 p e U m T24 351 L_39 [.ref b23]
               let L_40 : Array Slot := #[oJ p0,.second,oJ p1,.second,oI p2,oI p3,oI p4,oI ka_,oI kb_,(oI (ka_ + kb_)),oR d2,oR d4,oR b5,oR b7,oI jvc,oI jvd,oI jve,oI jvf,oR jvs0,oR jvs1,oR jvs2,oR jvs3,oR jvt0,oR jvt1,oR jvt2,oR jvt3,oJ nf0,.second,oJ nc0,.second,oJ nc1,.second,oJ nc2,.second,oJ nc3,.second,oJ nf1,.second,oJ nf2,.second,oJ nf3,.second,oR b21,oR b23,oU]
               refine t5 X24 f d at_351 rfl (l' := L_40) rfl ?_
               show c5 p e U m T24 353 L_40 []
               have J471 : ∀ (tt jk7 jk8 : Int32) (TJ : State) (lo : List Loc) (XJ : Stand p l e room_1 (s.setVm T8.vm) m #[.long p0, .long p1, .int p2, .int p3, .int p4] U meth c TJ lo 55 971) (NJ : Fr n0 lo) (XOJ : Old Z n0 TJ.heap) (EJ : Exa Z TJ.heap b21 "com/example/prizewell/prizewell/core/TicketRanges") (FJ : Fld Z TJ.heap b21 "com/example/prizewell/prizewell/core/TicketRanges" "size" "I" (.int tt)) (NJ0 : own_NM Z TJ.heap jvt0 jvs0 ta0 ka0 ca0 w0) (NJ1 : own_NM Z TJ.heap jvt1 jvs1 ta1 ka1 ca1 w0) (NJ2 : own_NM Z TJ.heap jvt2 jvs2 ta2 ka2 ca2 w0) (NJ3 : own_NM Z TJ.heap jvt3 jvs3 ta3 ka3 ca3 w0) (GJ0 : own_GI ((0 : Int32) < tt) Z TJ.heap b21 (0 : Int32) ca0 nf0 nc0 TJ.heap.size) (GJ1 : own_GI ((1 : Int32) < tt) Z TJ.heap b21 (1 : Int32) ca1 nf1 nc1 TJ.heap.size) (GJ2 : own_GI ((2 : Int32) < tt) Z TJ.heap b21 (2 : Int32) ca2 nf2 nc2 TJ.heap.size) (GJ3 : own_GI ((3 : Int32) < tt) Z TJ.heap b21 (3 : Int32) ca3 nf3 nc3 TJ.heap.size) (KJ : Keep h0 TJ.heap []) (szJ : n0 ≤ TJ.heap.size) (hkJ : T8.heap.size ≤ TJ.heap.size) (hRJ : CHr Z l3 s.vm h0 T8.vm TJ.heap), i7 p e U (fun o U' => ∃ v L, o = .returned v ∧ B8 n0 v U'.heap L ∧ CHr Z l3 s.vm s.heap U'.vm U'.heap ∧ ReturnedEndW s o U' L room_1.cells room_1.slots) (TJ.setTop (mkF m 471 #[.val (.long p0), .second, .val (.long p1), .second, .val (.int p2), .val (.int p3), .val (.int p4), .val (.int jk7), .val (.int jk8), .val (.int tt), .val (.ref d2), .val (.ref d4), .val (.ref b5), .val (.ref b7), .val (.int jvc), .val (.int jvd), .val (.int jve), .val (.int jvf), .val (.ref jvs0), .val (.ref jvs1), .val (.ref jvs2), .val (.ref jvs3), .val (.ref jvt0), .val (.ref jvt1), .val (.ref jvt2), .val (.ref jvt3), .val (.long nf0), .second, .val (.long nc0), .second, .val (.long nc1), .second, .val (.long nc2), .second, .val (.long nc3), .second, .val (.long nf1), .second, .val (.long nf2), .second, .val (.long nf3), .second, .val (.ref b21), .val (.ref b23), .unset] [])) := by
                intro tt jk7 jk8 TJ lo XJ NJ XOJ EJ FJ NJ0 NJ1 NJ2 NJ3 GJ0 GJ1 GJ2 GJ3 KJ szJ hkJ hRJ
                have hCJ := hRJ.1
                let L_41 : Array Slot := #[oJ p0,.second,oJ p1,.second,oI p2,oI p3,oI p4,oI jk7,oI jk8,oI tt,oR d2,oR d4,oR b5,oR b7,oI jvc,oI jvd,oI jve,oI jvf,oR jvs0,oR jvs1,oR jvs2,oR jvs3,oR jvt0,oR jvt1,oR jvt2,oR jvt3,oJ nf0,.second,oJ nc0,.second,oJ nc1,.second,oJ nc2,.second,oJ nc3,.second,oJ nf1,.second,oJ nf2,.second,oJ nf3,.second,oR b21,oR b23,oU]
                show c5 p e U m TJ 471 L_41 []
                refine j0 XJ f d at_471 rfl rfl ?_
                obtain ⟨_, T25, Lc25, X25, hQ25, st25⟩ := o1 XJ f d r hZ8 rfl hown8 (cj6 w) (cj8 w) (cj7 w) (cj9 w) (v9 w) (ck0 w) EJ (dm4 l Z a0 w [] b21 tt TJ.heap n0 szJ FJ) L_41 at_473 [] [] 0 0 0 (lenOf v7 rfl)
                obtain ⟨rfl, Nq25, e25⟩ := hQ25
                have N25 := Fr.app NJ Nq25
                refine c8 st25 ?_
                show c5 p e U m T25 476 L_41 [.int tt]
                refine f5 X25 f d at_476 rfl ?_
                refine j5 (pc := 478) (pc' := 483) X25 f d at_478 (teq (rfl : tt = tt)).1 ?_
                refine f6 X25 f d at_483 (z := (1 : Int32)) rfl ?_
                let L_42 : Array Slot := #[oJ p0,.second,oJ p1,.second,oI p2,oI p3,oI p4,oI jk7,oI jk8,oI tt,oR d2,oR d4,oR b5,oR b7,oI jvc,oI jvd,oI jve,oI jvf,oR jvs0,oR jvs1,oR jvs2,oR jvs3,oR jvt0,oR jvt1,oR jvt2,oR jvt3,oJ nf0,.second,oJ nc0,.second,oJ nc1,.second,oJ nc2,.second,oJ nc3,.second,oJ nf1,.second,oJ nf2,.second,oJ nf3,.second,oR b21,oR b23,oI 1]
                refine o4 X25 f d at_484 (l' := L_42) rfl ?_
                refine f5 X25 f d at_486 rfl ?_
                by_cases hc488 : (0 : Int32) < tt
                · refine m8 X25 f d at_488 ((if0 _ _).trans (tlt hc488).2.2.2) ?_
                  refine f5 X25 f d at_491 rfl ?_
                  refine m8 X25 f d at_493 ((if0 _ _).trans (feq (by decide : ¬ ((1 : Int32) = (0 : Int32)))).1) ?_
                  refine j0 X25 f d at_496 rfl rfl ?_
                  refine f6 X25 f d at_498 (z := (0 : Int32)) rfl ?_
                  refine j0 X25 f d at_499 rfl rfl ?_
                  refine o3 X25 f d at_501 rfl ?_
                  refine o3 X25 f d at_503 rfl ?_
                  obtain ⟨_, _, ⟨T26, L26, k26, n26⟩, -, X26, hSq26, hgr26, ⟨Lc26, hQ26, l26, y26, z26, hC26⟩, st26⟩ := callSS X25 f (y := ao6) hown8 (mvT hZ8 (au1 w)) (mvT hZ8 (au2 w)) (mvT hZ8 (r7 w)) (mvT hZ8 (R3 w)) (by decide) (G8 (s := s) (W := 0) (aB4 l Z a0 w [] b21 (0 : Int32) ca0 nf0 nc0 _ jvs0 ta0 ka0 z0 pc0 kpc pcs fm al kal als TJ.heap n0 szJ (GJ0 hc488) m0 nn0 mm0 (Nat.le_refl _) NJ0.2.2.2 XOJ WW) hZ8 (R3 w) (r7 w) (by decide) (by decide) hEL hCJ all0) (g := (mkF m 505 L_42 [.long nc0, .long nf0, .ref jvs0, .int 0, .ref b21])) rfl (by rw [r]; rfl) (argsL := [.ref b21, .int 0, .ref jvs0, .long nf0, .long nc0]) (rest := []) (lenOf aA3 rfl) rfl (by show 2 * 0 + _ ≤ _; exact f7 rfl) (hb d at_505) (fun _ _ => ⟨rfl, e25, (by decide : 55 + 16 ≤ _), (by decide : 971 + 104 ≤ _)⟩)
                  dsimp only [Pt.U, Pt.locs, Pt.cells, Pt.slots] at X26 l26 y26 z26 st26 hQ26 hSq26 hgr26 hC26
                  subst l26 y26 z26
                  obtain ⟨rfl, Nq26, K26⟩ := hQ26
                  have N26 := Fr.app N25 Nq26
                  refine c8 (fun t k => st26.trans k) ?_
                  have hS26 := foldS (T := T25) hS8 (by rw [e25]; exact hkJ) hSq26 hgr26
                  have hZ26 : Z.Warmed39 T26.vm := State.Warmed39.trans (t := s.setVm T8.vm) hZ8 hSq26.1
                  have hown26 : T26.vm.findClass "com/example/prizewell/prizewell/core/TicketRangesAddAllPinLaw" = some m.cls := by rw [hSq26.1.alike.findClass]; exact hown8
                  have hk26 := Nat.le_refl T26.heap.size
                  replace X26 : Stand p l e room_1 (s.setVm T26.vm) m #[.long p0, .long p1, .int p2, .int p3, .int p4] U meth c T26 _ _ _ := X26
                  have XOJ__26 := XOJ.keep K26 all0
                  have NJ1__26 := NJ1.keep K26 all0
                  have GJ1__26 := GJ1.keep K26 all0
                  have NJ2__26 := NJ2.keep K26 all0
                  have GJ2__26 := GJ2.keep K26 all0
                  have NJ3__26 := NJ3.keep K26 all0
                  have GJ3__26 := GJ3.keep K26 all0
                  have hR26 := hRJ.trans hC26
                  have hD26 := hR26.1
                  have sz26 := c9 szJ K26.1
                  show c5 p e U m T26 508 L_42 [.int 1]
                  refine m8 X26 f d at_508 ((if0 _ _).trans (feq (by decide : ¬ ((1 : Int32) = (0 : Int32)))).1) ?_
                  refine f6 X26 f d at_511 (z := (1 : Int32)) rfl ?_
                  refine m5 (pc := 512) (pc' := 516) X26 f d at_512 ?_
                  refine o4 X26 f d at_516 (l' := L_42) rfl ?_
                  refine f5 X26 f d at_518 rfl ?_
                  refine f6 X26 f d at_520 (z := (1 : Int32)) rfl ?_
                  by_cases hc521 : (1 : Int32) < tt
                  · refine m4 X26 f d at_521 (tlt hc521).2.2.2 ?_
                    refine f5 X26 f d at_524 rfl ?_
                    refine m8 X26 f d at_526 ((if0 _ _).trans (feq (by decide : ¬ ((1 : Int32) = (0 : Int32)))).1) ?_
                    refine j0 X26 f d at_529 rfl rfl ?_
                    refine f6 X26 f d at_531 (z := (1 : Int32)) rfl ?_
                    refine j0 X26 f d at_532 rfl rfl ?_
                    refine o3 X26 f d at_534 rfl ?_
                    refine o3 X26 f d at_536 rfl ?_
                    obtain ⟨_, _, ⟨T27, L27, k27, n27⟩, -, X27, hSq27, hgr27, ⟨Lc27, hQ27, l27, y27, z27, hC27⟩, st27⟩ := callSS X26 f (y := ao6) hown26 (mvT hZ26 (au1 w)) (mvT hZ26 (au2 w)) (mvT hZ26 (r7 w)) (mvT hZ26 (R3 w)) (by decide) (G8 (s := s) (W := 0) (aB4 l Z a0 w [] b21 (1 : Int32) ca1 nf1 nc1 _ jvs1 ta1 ka1 z0 pc0 kpc pcs fm al kal als T26.heap n0 sz26 (GJ1__26 hc521) m1 nn1 mm1 (c9 (Nat.le_refl _) K26.1) NJ1__26.2.2.2 XOJ__26 WW) hZ26 (R3 w) (r7 w) (by decide) (by decide) hEL hD26 all0) (g := (mkF m 538 L_42 [.long nc1, .long nf1, .ref jvs1, .int 1, .ref b21])) rfl (by rw [r]; rfl) (argsL := [.ref b21, .int 1, .ref jvs1, .long nf1, .long nc1]) (rest := []) (lenOf aA3 rfl) rfl (by show 2 * 0 + _ ≤ _; exact f7 rfl) (hb d at_538) (fun _ _ => ⟨rfl, rfl, (by decide : 55 + 16 + 16 ≤ _), (by decide : 971 + 104 + 104 ≤ _)⟩)
                    dsimp only [Pt.U, Pt.locs, Pt.cells, Pt.slots] at X27 l27 y27 z27 st27 hQ27 hSq27 hgr27 hC27
                    subst l27 y27 z27
                    obtain ⟨rfl, Nq27, K27⟩ := hQ27
                    have N27 := Fr.app N26 Nq27
                    refine c8 (fun t k => st27.trans k) ?_
                    have hS27 := foldS (T := T26) hS26 hk26 hSq27 hgr27
                    have hZ27 : Z.Warmed39 T27.vm := State.Warmed39.trans (t := s.setVm T26.vm) hZ26 hSq27.1
                    have hown27 : T27.vm.findClass "com/example/prizewell/prizewell/core/TicketRangesAddAllPinLaw" = some m.cls := by rw [hSq27.1.alike.findClass]; exact hown26
                    have hk27 := Nat.le_refl T27.heap.size
                    replace X27 : Stand p l e room_1 (s.setVm T27.vm) m #[.long p0, .long p1, .int p2, .int p3, .int p4] U meth c T27 _ _ _ := X27
                    have XOJ__27 := XOJ__26.keep K27 all0
                    have NJ2__27 := NJ2__26.keep K27 all0
                    have GJ2__27 := GJ2__26.keep K27 all0
                    have NJ3__27 := NJ3__26.keep K27 all0
                    have GJ3__27 := GJ3__26.keep K27 all0
                    have hR27 := hR26.trans hC27
                    have hD27 := hR27.1
                    have sz27 := c9 sz26 K27.1
                    show c5 p e U m T27 541 L_42 [.int 1]
                    refine m8 X27 f d at_541 ((if0 _ _).trans (feq (by decide : ¬ ((1 : Int32) = (0 : Int32)))).1) ?_
                    refine f6 X27 f d at_544 (z := (1 : Int32)) rfl ?_
                    refine m5 (pc := 545) (pc' := 549) X27 f d at_545 ?_
                    refine o4 X27 f d at_549 (l' := L_42) rfl ?_
                    refine f5 X27 f d at_551 rfl ?_
                    refine f6 X27 f d at_553 (z := (2 : Int32)) rfl ?_
                    by_cases hc554 : (2 : Int32) < tt
                    · refine m4 X27 f d at_554 (tlt hc554).2.2.2 ?_
                      refine f5 X27 f d at_557 rfl ?_
                      refine m8 X27 f d at_559 ((if0 _ _).trans (feq (by decide : ¬ ((1 : Int32) = (0 : Int32)))).1) ?_
                      refine j0 X27 f d at_562 rfl rfl ?_
                      refine f6 X27 f d at_564 (z := (2 : Int32)) rfl ?_
                      refine j0 X27 f d at_565 rfl rfl ?_
                      refine o3 X27 f d at_567 rfl ?_
                      refine o3 X27 f d at_569 rfl ?_
                      obtain ⟨_, _, ⟨T28, L28, k28, n28⟩, -, X28, hSq28, hgr28, ⟨Lc28, hQ28, l28, y28, z28, hC28⟩, st28⟩ := callSS X27 f (y := ao6) hown27 (mvT hZ27 (au1 w)) (mvT hZ27 (au2 w)) (mvT hZ27 (r7 w)) (mvT hZ27 (R3 w)) (by decide) (G8 (s := s) (W := 0) (aB4 l Z a0 w [] b21 (2 : Int32) ca2 nf2 nc2 _ jvs2 ta2 ka2 z0 pc0 kpc pcs fm al kal als T27.heap n0 sz27 (GJ2__27 hc554) m2 nn2 mm2 (c9 (c9 (Nat.le_refl _) K26.1) K27.1) NJ2__27.2.2.2 XOJ__27 WW) hZ27 (R3 w) (r7 w) (by decide) (by decide) hEL hD27 all0) (g := (mkF m 571 L_42 [.long nc2, .long nf2, .ref jvs2, .int 2, .ref b21])) rfl (by rw [r]; rfl) (argsL := [.ref b21, .int 2, .ref jvs2, .long nf2, .long nc2]) (rest := []) (lenOf aA3 rfl) rfl (by show 2 * 0 + _ ≤ _; exact f7 rfl) (hb d at_571) (fun _ _ => ⟨rfl, rfl, (by decide : 55 + 16 + 16 + 16 ≤ _), (by decide : 971 + 104 + 104 + 104 ≤ _)⟩)
                      dsimp only [Pt.U, Pt.locs, Pt.cells, Pt.slots] at X28 l28 y28 z28 st28 hQ28 hSq28 hgr28 hC28
                      subst l28 y28 z28
                      obtain ⟨rfl, Nq28, K28⟩ := hQ28
                      have N28 := Fr.app N27 Nq28
                      refine c8 (fun t k => st28.trans k) ?_
                      have hS28 := foldS (T := T27) hS27 hk27 hSq28 hgr28
                      have hZ28 : Z.Warmed39 T28.vm := State.Warmed39.trans (t := s.setVm T27.vm) hZ27 hSq28.1
                      have hown28 : T28.vm.findClass "com/example/prizewell/prizewell/core/TicketRangesAddAllPinLaw" = some m.cls := by rw [hSq28.1.alike.findClass]; exact hown27
                      have hk28 := Nat.le_refl T28.heap.size
                      replace X28 : Stand p l e room_1 (s.setVm T28.vm) m #[.long p0, .long p1, .int p2, .int p3, .int p4] U meth c T28 _ _ _ := X28
                      have XOJ__28 := XOJ__27.keep K28 all0
                      have NJ3__28 := NJ3__27.keep K28 all0
                      have GJ3__28 := GJ3__27.keep K28 all0
                      have hR28 := hR27.trans hC28
                      have hD28 := hR28.1
                      have sz28 := c9 sz27 K28.1
                      show c5 p e U m T28 574 L_42 [.int 1]
                      refine m8 X28 f d at_574 ((if0 _ _).trans (feq (by decide : ¬ ((1 : Int32) = (0 : Int32)))).1) ?_
                      refine f6 X28 f d at_577 (z := (1 : Int32)) rfl ?_
                      refine m5 (pc := 578) (pc' := 582) X28 f d at_578 ?_
                      refine o4 X28 f d at_582 (l' := L_42) rfl ?_
                      refine f5 X28 f d at_584 rfl ?_
                      refine f6 X28 f d at_586 (z := (3 : Int32)) rfl ?_
                      by_cases hc587 : (3 : Int32) < tt
                      · refine m4 X28 f d at_587 (tlt hc587).2.2.2 ?_
                        refine f5 X28 f d at_590 rfl ?_
                        refine m8 X28 f d at_592 ((if0 _ _).trans (feq (by decide : ¬ ((1 : Int32) = (0 : Int32)))).1) ?_
                        refine j0 X28 f d at_595 rfl rfl ?_
                        refine f6 X28 f d at_597 (z := (3 : Int32)) rfl ?_
                        refine j0 X28 f d at_598 rfl rfl ?_
                        refine o3 X28 f d at_600 rfl ?_
                        refine o3 X28 f d at_602 rfl ?_
                        obtain ⟨_, _, ⟨T29, L29, k29, n29⟩, -, X29, hSq29, hgr29, ⟨Lc29, hQ29, l29, y29, z29, hC29⟩, st29⟩ := callSS X28 f (y := ao6) hown28 (mvT hZ28 (au1 w)) (mvT hZ28 (au2 w)) (mvT hZ28 (r7 w)) (mvT hZ28 (R3 w)) (by decide) (G8 (s := s) (W := 0) (aB4 l Z a0 w [] b21 (3 : Int32) ca3 nf3 nc3 _ jvs3 ta3 ka3 z0 pc0 kpc pcs fm al kal als T28.heap n0 sz28 (GJ3__28 hc587) m3 nn3 mm3 (c9 (c9 (c9 (Nat.le_refl _) K26.1) K27.1) K28.1) NJ3__28.2.2.2 XOJ__28 WW) hZ28 (R3 w) (r7 w) (by decide) (by decide) hEL hD28 all0) (g := (mkF m 604 L_42 [.long nc3, .long nf3, .ref jvs3, .int 3, .ref b21])) rfl (by rw [r]; rfl) (argsL := [.ref b21, .int 3, .ref jvs3, .long nf3, .long nc3]) (rest := []) (lenOf aA3 rfl) rfl (by show 2 * 0 + _ ≤ _; exact f7 rfl) (hb d at_604) (fun _ _ => ⟨rfl, rfl, (by decide : 55 + 16 + 16 + 16 + 16 ≤ _), (by decide : 971 + 104 + 104 + 104 + 104 ≤ _)⟩)
                        dsimp only [Pt.U, Pt.locs, Pt.cells, Pt.slots] at X29 l29 y29 z29 st29 hQ29 hSq29 hgr29 hC29
                        subst l29 y29 z29
                        obtain ⟨rfl, Nq29, K29⟩ := hQ29
                        have N29 := Fr.app N28 Nq29
                        refine c8 (fun t k => st29.trans k) ?_
                        have hS29 := foldS (T := T28) hS28 hk28 hSq29 hgr29
                        have hZ29 : Z.Warmed39 T29.vm := State.Warmed39.trans (t := s.setVm T28.vm) hZ28 hSq29.1
                        have hk29 := Nat.le_refl T29.heap.size
                        replace X29 : Stand p l e room_1 (s.setVm T29.vm) m #[.long p0, .long p1, .int p2, .int p3, .int p4] U meth c T29 _ _ _ := X29
                        have hR29 := hR28.trans hC29
                        have hD29 := hR29.1
                        show c5 p e U m T29 607 L_42 [.int 1]
                        refine m8 X29 f d at_607 ((if0 _ _).trans (feq (by decide : ¬ ((1 : Int32) = (0 : Int32)))).1) ?_
                        refine f6 X29 f d at_610 (z := (1 : Int32)) rfl ?_
                        refine m5 (pc := 611) (pc' := 615) X29 f d at_611 ?_
                        refine o4 X29 f d at_615 (l' := L_42) rfl ?_
                        refine f5 X29 f d at_617 rfl ?_
                        show c5 p e U m T29 619 L_42 [.int 1]
                        have hF : CHr Z l3 s.vm s.heap T29.vm T29.heap := by rw [hh]; exact hR29.trans (CHv.at X29 hZ29 hEL hD29)
                        exact Y7 X29 f (t := .boolean) R (by simp) (hb d at_619) hS29 hk29 (⟨rfl, N29⟩) (hF) (by decide) (by decide)
                      · refine j5 (pc := 587) (pc' := 617) X28 f d at_587 (flt hc587).2.2.2 ?_
                        refine f5 X28 f d at_617 rfl ?_
                        show c5 p e U m T28 619 L_42 [.int 1]
                        have hF : CHr Z l3 s.vm s.heap T28.vm T28.heap := by rw [hh]; exact hR28.trans (CHv.at X28 hZ28 hEL hD28)
                        exact Y7 X28 f (t := .boolean) R (by simp) (hb d at_619) hS28 hk28 (⟨rfl, N28⟩) (hF) (by decide) (by decide)
                    · refine j5 (pc := 554) (pc' := 584) X27 f d at_554 (flt hc554).2.2.2 ?_
                      refine f5 X27 f d at_584 rfl ?_
                      refine f6 X27 f d at_586 (z := (3 : Int32)) rfl ?_
                      refine j5 (pc := 587) (pc' := 617) X27 f d at_587 (flt (Z6 hc554 (by decide) : ¬ ((3 : Int32) < tt))).2.2.2 ?_
                      refine f5 X27 f d at_617 rfl ?_
                      show c5 p e U m T27 619 L_42 [.int 1]
                      have hF : CHr Z l3 s.vm s.heap T27.vm T27.heap := by rw [hh]; exact hR27.trans (CHv.at X27 hZ27 hEL hD27)
                      exact Y7 X27 f (t := .boolean) R (by simp) (hb d at_619) hS27 hk27 (⟨rfl, N27⟩) (hF) (by decide) (by decide)
                  · refine j5 (pc := 521) (pc' := 551) X26 f d at_521 (flt hc521).2.2.2 ?_
                    refine f5 X26 f d at_551 rfl ?_
                    refine f6 X26 f d at_553 (z := (2 : Int32)) rfl ?_
                    refine j5 (pc := 554) (pc' := 584) X26 f d at_554 (flt (Z6 hc521 (by decide) : ¬ ((2 : Int32) < tt))).2.2.2 ?_
                    refine f5 X26 f d at_584 rfl ?_
                    refine f6 X26 f d at_586 (z := (3 : Int32)) rfl ?_
                    refine j5 (pc := 587) (pc' := 617) X26 f d at_587 (flt (Z6 hc521 (by decide) : ¬ ((3 : Int32) < tt))).2.2.2 ?_
                    refine f5 X26 f d at_617 rfl ?_
                    show c5 p e U m T26 619 L_42 [.int 1]
                    have hF : CHr Z l3 s.vm s.heap T26.vm T26.heap := by rw [hh]; exact hR26.trans (CHv.at X26 hZ26 hEL hD26)
                    exact Y7 X26 f (t := .boolean) R (by simp) (hb d at_619) hS26 hk26 (⟨rfl, N26⟩) (hF) (by decide) (by decide)
                · refine o2 (pc := 488) (pc' := 518) X25 f d at_488 ((if0 _ _).trans (flt hc488).2.2.2) ?_
                  refine f5 X25 f d at_518 rfl ?_
                  refine f6 X25 f d at_520 (z := (1 : Int32)) rfl ?_
                  refine j5 (pc := 521) (pc' := 551) X25 f d at_521 (flt (Z6 hc488 (by decide) : ¬ ((1 : Int32) < tt))).2.2.2 ?_
                  refine f5 X25 f d at_551 rfl ?_
                  refine f6 X25 f d at_553 (z := (2 : Int32)) rfl ?_
                  refine j5 (pc := 554) (pc' := 584) X25 f d at_554 (flt (Z6 hc488 (by decide) : ¬ ((2 : Int32) < tt))).2.2.2 ?_
                  refine f5 X25 f d at_584 rfl ?_
                  refine f6 X25 f d at_586 (z := (3 : Int32)) rfl ?_
                  refine j5 (pc := 587) (pc' := 617) X25 f d at_587 (flt (Z6 hc488 (by decide) : ¬ ((3 : Int32) < tt))).2.2.2 ?_
                  refine f5 X25 f d at_617 rfl ?_
                  show c5 p e U m T25 619 L_42 [.int 1]
                  have hF : CHr Z l3 s.vm s.heap T25.vm T25.heap := by rw [hh, e25]; exact hRJ.trans (CHv.at X25 hZ8 hEL hCJ)
                  exact Y7 X25 f (t := .boolean) R (by simp) (hb d at_619) hS8 (by rw [e25]; exact hkJ) (⟨rfl, N25⟩) (hF) (by decide) (by decide)
               rcases as8 _ h_ka_ with rfl | rfl | rfl
               · rcases as8 _ h_kb_ with rfl | rfl | rfl
                 · skip
                   let L_43 : Array Slot := #[oJ p0,.second,oJ p1,.second,oI p2,oI p3,oI p4,oI 0,oI 0,oI 0,oR d2,oR d4,oR b5,oR b7,oI jvc,oI jvd,oI jve,oI jvf,oR jvs0,oR jvs1,oR jvs2,oR jvs3,oR jvt0,oR jvt1,oR jvt2,oR jvt3,oJ nf0,.second,oJ nc0,.second,oJ nc1,.second,oJ nc2,.second,oJ nc3,.second,oJ nf1,.second,oJ nf2,.second,oJ nf3,.second,oR b21,oR b23,oU]
                   show c5 p e U m T24 353 L_43 []
                   refine f5 X24 f d at_353 rfl ?_
                   refine o2 (pc := 355) (pc' := 380) X24 f d at_355 ((if0 _ _).trans (flt (by decide : ¬ ((0 : Int32) < (0 : Int32)))).2.2.2) ?_
                   refine f5 X24 f d at_380 rfl ?_
                   refine f6 X24 f d at_382 (z := (1 : Int32)) rfl ?_
                   refine j5 (pc := 383) (pc' := 408) X24 f d at_383 (flt (by decide : ¬ ((1 : Int32) < (0 : Int32)))).2.2.2 ?_
                   refine f5 X24 f d at_408 rfl ?_
                   refine f6 X24 f d at_410 (z := (2 : Int32)) rfl ?_
                   refine j5 (pc := 411) (pc' := 436) X24 f d at_411 (flt (by decide : ¬ ((2 : Int32) < (0 : Int32)))).2.2.2 ?_
                   refine f5 X24 f d at_436 rfl ?_
                   refine f6 X24 f d at_438 (z := (3 : Int32)) rfl ?_
                   refine j5 (pc := 439) (pc' := 464) X24 f d at_439 (flt (by decide : ¬ ((3 : Int32) < (0 : Int32)))).2.2.2 ?_
                   refine j0 X24 f d at_464 rfl rfl ?_
                   refine j0 X24 f d at_466 rfl rfl ?_
                   obtain ⟨_, T30, Lc30, X30, hQ30, st30⟩ := o1 X24 f d r hZ8 rfl hown8 (P7 w) (P9 w) (P8 w) (Q0 w) (v9 w) (Q1 w) A21__24 (aU2 l Z a0 w [] b21 b23 W24 .null T24.heap n0 sz24 Lr24) L_43 at_468 [.ref b23] [] 0 0 0 (lenOf Q4 rfl)
                   obtain ⟨rfl, Nq30, e30⟩ := hQ30
                   have N30 := Fr.app N24 Nq30
                   refine c8 st30 ?_
                   have hk_ := hk24
                   have KP_ := KP24
                   have sz_ := sz24
                   have hR_ := hR24
                   rw [← e30] at Lr22__24 XO__24 A21__24 N0__24 N1__24 N2__24 N3__24 hk_ KP_ sz_ hR_
                   have hl_ : ∀ cs ∈ ([] : List (List Int32)), cs.length ≤ 2 := P6
                   have Fz := (by obtain ⟨_, _, _, _, _, _, _, q, _⟩ := Lr22__24; exact q.2.1 : Fld Z T30.heap b21 "com/example/prizewell/prizewell/core/TicketRanges" "size" "I" (.int 0))
                   exact J471 _ _ _ _ _ (X30.more (by decide) (by decide)) N30 XO__24 A21__24 Fz N0__24 N1__24 N2__24 N3__24 (fun q => absurd q (by decide)) (fun q => absurd q (by decide)) (fun q => absurd q (by decide)) (fun q => absurd q (by decide)) KP_ sz_ hk_ hR_
                 · skip
                   let L_44 : Array Slot := #[oJ p0,.second,oJ p1,.second,oI p2,oI p3,oI p4,oI 0,oI 1,oI 1,oR d2,oR d4,oR b5,oR b7,oI jvc,oI jvd,oI jve,oI jvf,oR jvs0,oR jvs1,oR jvs2,oR jvs3,oR jvt0,oR jvt1,oR jvt2,oR jvt3,oJ nf0,.second,oJ nc0,.second,oJ nc1,.second,oJ nc2,.second,oJ nc3,.second,oJ nf1,.second,oJ nf2,.second,oJ nf3,.second,oR b21,oR b23,oU]
                   show c5 p e U m T24 353 L_44 []
                   refine f5 X24 f d at_353 rfl ?_
                   refine m8 X24 f d at_355 ((if0 _ _).trans (tlt (by decide : (0 : Int32) < (1 : Int32))).2.2.2) ?_
                   refine f6 X24 f d at_358 (z := (0 : Int32)) rfl ?_
                   refine f5 X24 f d at_359 rfl ?_
                   refine j5 (pc := 361) (pc' := 369) X24 f d at_361 (flt (by decide : ¬ ((0 : Int32) < (0 : Int32)))).2.1 ?_
                   refine j0 X24 f d at_369 rfl rfl ?_
                   refine j0 X24 f d at_371 rfl rfl ?_
                   refine o3 X24 f d at_373 rfl ?_
                   refine o3 X24 f d at_375 rfl ?_
                   obtain ⟨_, T31, Lc31, X31, hQ31, st31⟩ := j8 X24 f d r hZ8 rfl hown8 (x9 w) (y7 w) (r7 w) (z3 w) (G5 l Z a0 w []  b23 jvt0 jvs0 ta0 ka0 ca0 nf0 nc0 W24 .null w0 z0 pc0 kpc pcs fm al kal als T24.heap n0 sz24 Lr24 N0__24 m0 (fun y hy => c9 Z0 (gz_W24 y hy)) wl_W24 (Nat.le_of_lt (Nat.lt_of_le_of_lt wl_b21 A21__24.lt)) nn0 mm0 rfl  XO__24 WW) L_44 at_377 [.ref b23, .ref jvt0, .long nf0, .long nc0] [] 0 7 97 (lenOf B0 rfl)
                   obtain ⟨rfl, Nq31, K31, W31, lc31, gn31, Lr31, Bq31⟩ := hQ31
                   have N31 := Fr.app N24 Nq31
                   refine c8 st31 ?_
                   have XO__31 := XO__24.keep K31 (fun x f => c9 Z0 (gz_W24 x f))
                   have N0__31 := N0__24.keep K31 wl_W24
                   have N1__31 := N1__24.keep K31 wl_W24
                   have N2__31 := N2__24.keep K31 wl_W24
                   have N3__31 := N3__24.keep K31 wl_W24
                   have A21__31 := A21__24.keep K31
                   have Lr22__31 := Lr22__24.keep K31 dj24
                   have ZW22__31 : ∀ y ∈ W22, Safe Z l3 T8.vm T31.heap y := fun y hy => (ZW22__24 y hy).keep K31 ZW24 hC24
                   have hR31 := hR24.trans (CHr.keep K31 ZW24 hC24)
                   have hC31 := hR31.1
                   have KP31 := KP24.trans K31 (fun x f => Or.inr (gz_W24 x f))
                   have sz31 := c9 sz24 K31.1
                   have hk31 := c9 hk24 K31.1
                   have dj31 : ∀ y ∈ W31, y ∉ W22 := fun y hy z => (gn31 y hy).elim (fun q => dj24 y q z) (fun q => Nat.lt_irrefl _ (j3 (Lr22__24.lt y z) q))
                   show c5 p e U m T31 380 L_44 []
                   refine f5 X31 f d at_380 rfl ?_
                   refine f6 X31 f d at_382 (z := (1 : Int32)) rfl ?_
                   refine j5 (pc := 383) (pc' := 408) X31 f d at_383 (flt (by decide : ¬ ((1 : Int32) < (1 : Int32)))).2.2.2 ?_
                   refine f5 X31 f d at_408 rfl ?_
                   refine f6 X31 f d at_410 (z := (2 : Int32)) rfl ?_
                   refine j5 (pc := 411) (pc' := 436) X31 f d at_411 (flt (by decide : ¬ ((2 : Int32) < (1 : Int32)))).2.2.2 ?_
                   refine f5 X31 f d at_436 rfl ?_
                   refine f6 X31 f d at_438 (z := (3 : Int32)) rfl ?_
                   refine j5 (pc := 439) (pc' := 464) X31 f d at_439 (flt (by decide : ¬ ((3 : Int32) < (1 : Int32)))).2.2.2 ?_
                   refine j0 X31 f d at_464 rfl rfl ?_
                   refine j0 X31 f d at_466 rfl rfl ?_
                   obtain ⟨_, T32, Lc32, X32, hQ32, st32⟩ := o1 X31 f d r hZ8 rfl hown8 (P7 w) (P9 w) (P8 w) (Q0 w) (v9 w) (Q1 w) A21__31 (cG8 l Z a0 w []  ca0 nf0 b21 b23 W22 W31 .null lc31 T31.heap n0 sz31 Lr22__31 Lr31 (fun y hy => c9 Z0 (gz_W22 y hy)) dj31 rfl m0.len) L_44 at_468 [.ref b23] [] 0 3 41 (lenOf Q4 rfl)
                   obtain ⟨rfl, Nq32, K32, W32, cb32, Lr32, hcb32⟩ := hQ32
                   have N32 := Fr.app N31 Nq32
                   refine c8 st32 ?_
                   have XO__32 := XO__31.keep K32 (fun x f => c9 Z0 (gz_W22 x f))
                   have N0__32 := N0__31.keep K32 wl_W22
                   have N1__32 := N1__31.keep K32 wl_W22
                   have N2__32 := N2__31.keep K32 wl_W22
                   have N3__32 := N3__31.keep K32 wl_W22
                   have A21__32 := A21__31.keep K32
                   have Bq31__32 := Bq31.keep K32 (fun y hy => G2 (c9 Z0 (gz_W22 y hy)) (Lr22__24.lt y hy))
                   have hR32 := hR31.trans (CHr.keep K32 ZW22__31 hC31)
                   have KP32 := KP31.trans K32 (fun x f => Or.inr (gz_W22 x f))
                   have sz32 := c9 sz31 K32.1
                   have hk32 := c9 hk31 K32.1
                   have hl_ : ∀ cs ∈ ([ca0] : List (List Int32)), cs.length ≤ 2 := (x8 m0.len.2 P6)
                   have Fz := (by obtain ⟨_, _, _, _, _, _, _, q, _⟩ := Lr32; exact q.2.1 : Fld Z T32.heap b21 "com/example/prizewell/prizewell/core/TicketRanges" "size" "I" (.int 1))
                   exact J471 _ _ _ _ _ (X32.more (by decide) (by decide)) N32 XO__32 A21__32 Fz N0__32 N1__32 N2__32 N3__32 (fun _ => z7 Lr32 0 (j6 rfl) (j6 rfl) hl_ (j6 rfl) (j6 rfl) hcb32 rfl rfl (Or.inr ⟨rfl, Bq31__32.bi⟩)) (fun q => absurd q (by decide)) (fun q => absurd q (by decide)) (fun q => absurd q (by decide)) KP32 sz32 hk32 hR32
                 · skip
                   let L_45 : Array Slot := #[oJ p0,.second,oJ p1,.second,oI p2,oI p3,oI p4,oI 0,oI 2,oI 2,oR d2,oR d4,oR b5,oR b7,oI jvc,oI jvd,oI jve,oI jvf,oR jvs0,oR jvs1,oR jvs2,oR jvs3,oR jvt0,oR jvt1,oR jvt2,oR jvt3,oJ nf0,.second,oJ nc0,.second,oJ nc1,.second,oJ nc2,.second,oJ nc3,.second,oJ nf1,.second,oJ nf2,.second,oJ nf3,.second,oR b21,oR b23,oU]
                   show c5 p e U m T24 353 L_45 []
                   refine f5 X24 f d at_353 rfl ?_
                   refine m8 X24 f d at_355 ((if0 _ _).trans (tlt (by decide : (0 : Int32) < (2 : Int32))).2.2.2) ?_
                   refine f6 X24 f d at_358 (z := (0 : Int32)) rfl ?_
                   refine f5 X24 f d at_359 rfl ?_
                   refine j5 (pc := 361) (pc' := 369) X24 f d at_361 (flt (by decide : ¬ ((0 : Int32) < (0 : Int32)))).2.1 ?_
                   refine j0 X24 f d at_369 rfl rfl ?_
                   refine j0 X24 f d at_371 rfl rfl ?_
                   refine o3 X24 f d at_373 rfl ?_
                   refine o3 X24 f d at_375 rfl ?_
                   obtain ⟨_, T33, Lc33, X33, hQ33, st33⟩ := j8 X24 f d r hZ8 rfl hown8 (x9 w) (y7 w) (r7 w) (z3 w) (G5 l Z a0 w []  b23 jvt0 jvs0 ta0 ka0 ca0 nf0 nc0 W24 .null w0 z0 pc0 kpc pcs fm al kal als T24.heap n0 sz24 Lr24 N0__24 m0 (fun y hy => c9 Z0 (gz_W24 y hy)) wl_W24 (Nat.le_of_lt (Nat.lt_of_le_of_lt wl_b21 A21__24.lt)) nn0 mm0 rfl  XO__24 WW) L_45 at_377 [.ref b23, .ref jvt0, .long nf0, .long nc0] [] 0 7 97 (lenOf B0 rfl)
                   obtain ⟨rfl, Nq33, K33, W33, lc33, gn33, Lr33, Bq33⟩ := hQ33
                   have N33 := Fr.app N24 Nq33
                   refine c8 st33 ?_
                   have XO__33 := XO__24.keep K33 (fun x f => c9 Z0 (gz_W24 x f))
                   have N0__33 := N0__24.keep K33 wl_W24
                   have N1__33 := N1__24.keep K33 wl_W24
                   have N2__33 := N2__24.keep K33 wl_W24
                   have N3__33 := N3__24.keep K33 wl_W24
                   have A21__33 := A21__24.keep K33
                   have Lr22__33 := Lr22__24.keep K33 dj24
                   have ZW22__33 : ∀ y ∈ W22, Safe Z l3 T8.vm T33.heap y := fun y hy => (ZW22__24 y hy).keep K33 ZW24 hC24
                   have hR33 := hR24.trans (CHr.keep K33 ZW24 hC24)
                   have hC33 := hR33.1
                   have KP33 := KP24.trans K33 (fun x f => Or.inr (gz_W24 x f))
                   have sz33 := c9 sz24 K33.1
                   have hk33 := c9 hk24 K33.1
                   have gz_W33 : ∀ y ∈ W33, h0.size ≤ y := fun y hy => (gn33 y hy).elim (gz_W24 y) (fun q => c9 KP24.1 q)
                   have wl_W33 : ∀ y ∈ W33, w0 ≤ y := fun y hy => (gn33 y hy).elim (wl_W24 y) (fun q => c9 (Nat.le_of_lt (Nat.lt_of_le_of_lt wl_b21 A21__24.lt)) q)
                   have ZW33 : ∀ y ∈ W33, Safe Z l3 T8.vm T33.heap y := fun y hy => Safe.keep K33 ZW24 hC24 ((gn33 y hy).elim (fun q => ZW24 y q) (fun q => Safe.new q))
                   have dj33 : ∀ y ∈ W33, y ∉ W22 := fun y hy z => (gn33 y hy).elim (fun q => dj24 y q z) (fun q => Nat.lt_irrefl _ (j3 (Lr22__24.lt y z) q))
                   show c5 p e U m T33 380 L_45 []
                   refine f5 X33 f d at_380 rfl ?_
                   refine f6 X33 f d at_382 (z := (1 : Int32)) rfl ?_
                   refine m4 X33 f d at_383 (tlt (by decide : (1 : Int32) < (2 : Int32))).2.2.2 ?_
                   refine f6 X33 f d at_386 (z := (1 : Int32)) rfl ?_
                   refine f5 X33 f d at_387 rfl ?_
                   refine j5 (pc := 389) (pc' := 397) X33 f d at_389 (flt (by decide : ¬ ((1 : Int32) < (0 : Int32)))).2.1 ?_
                   refine j0 X33 f d at_397 rfl rfl ?_
                   refine j0 X33 f d at_399 rfl rfl ?_
                   refine o3 X33 f d at_401 rfl ?_
                   refine o3 X33 f d at_403 rfl ?_
                   obtain ⟨_, T34, Lc34, X34, hQ34, st34⟩ := j8 X33 f d r hZ8 rfl hown8 (x9 w) (y7 w) (r7 w) (z3 w) (ak5 l Z a0 w [] ca0 nf0 b23 jvt1 jvs1 ta1 ka1 ca1 nf1 nc1 W33 (.ref lc33) w0 z0 pc0 kpc pcs fm al kal als T33.heap n0 sz33 Lr33 N1__33 m1 (fun y hy => c9 Z0 (gz_W33 y hy)) wl_W33 (Nat.le_of_lt (Nat.lt_of_le_of_lt wl_b21 A21__33.lt)) nn1 mm1 rfl m0.len XO__33 WW) L_45 at_405 [.ref b23, .ref jvt1, .long nf1, .long nc1] [] 0 7 56 (lenOf B0 rfl)
                   obtain ⟨rfl, Nq34, K34, W34, lc34, gn34, Lr34, Bq34⟩ := hQ34
                   have N34 := Fr.app N33 Nq34
                   refine c8 st34 ?_
                   have XO__34 := XO__33.keep K34 (fun x f => c9 Z0 (gz_W33 x f))
                   have N0__34 := N0__33.keep K34 wl_W33
                   have N1__34 := N1__33.keep K34 wl_W33
                   have N2__34 := N2__33.keep K34 wl_W33
                   have N3__34 := N3__33.keep K34 wl_W33
                   have A21__34 := A21__33.keep K34
                   have Lr22__34 := Lr22__33.keep K34 dj33
                   have ZW22__34 : ∀ y ∈ W22, Safe Z l3 T8.vm T34.heap y := fun y hy => (ZW22__33 y hy).keep K34 ZW33 hC33
                   have hR34 := hR33.trans (CHr.keep K34 ZW33 hC33)
                   have hC34 := hR34.1
                   have KP34 := KP33.trans K34 (fun x f => Or.inr (gz_W33 x f))
                   have sz34 := c9 sz33 K34.1
                   have hk34 := c9 hk33 K34.1
                   have dj34 : ∀ y ∈ W34, y ∉ W22 := fun y hy z => (gn34 y hy).elim (fun q => dj33 y q z) (fun q => Nat.lt_irrefl _ (j3 (Lr22__33.lt y z) q))
                   show c5 p e U m T34 408 L_45 []
                   refine f5 X34 f d at_408 rfl ?_
                   refine f6 X34 f d at_410 (z := (2 : Int32)) rfl ?_
                   refine j5 (pc := 411) (pc' := 436) X34 f d at_411 (flt (by decide : ¬ ((2 : Int32) < (2 : Int32)))).2.2.2 ?_
                   refine f5 X34 f d at_436 rfl ?_
                   refine f6 X34 f d at_438 (z := (3 : Int32)) rfl ?_
                   refine j5 (pc := 439) (pc' := 464) X34 f d at_439 (flt (by decide : ¬ ((3 : Int32) < (2 : Int32)))).2.2.2 ?_
                   refine j0 X34 f d at_464 rfl rfl ?_
                   refine j0 X34 f d at_466 rfl rfl ?_
                   obtain ⟨_, T35, Lc35, X35, hQ35, st35⟩ := o1 X34 f d r hZ8 rfl hown8 (P7 w) (P9 w) (P8 w) (Q0 w) (v9 w) (Q1 w) A21__34 (cG9 l Z a0 w []  ca0 ca1 nf0 nf1 b21 b23 W22 W34 .null lc34 T34.heap n0 sz34 Lr22__34 Lr34 (fun y hy => c9 Z0 (gz_W22 y hy)) dj34 rfl m0.len m1.len) L_45 at_468 [.ref b23] [] 0 3 41 (lenOf Q4 rfl)
                   obtain ⟨rfl, Nq35, K35, W35, cb35, Lr35, hcb35⟩ := hQ35
                   have N35 := Fr.app N34 Nq35
                   refine c8 st35 ?_
                   have XO__35 := XO__34.keep K35 (fun x f => c9 Z0 (gz_W22 x f))
                   have N0__35 := N0__34.keep K35 wl_W22
                   have N1__35 := N1__34.keep K35 wl_W22
                   have N2__35 := N2__34.keep K35 wl_W22
                   have N3__35 := N3__34.keep K35 wl_W22
                   have A21__35 := A21__34.keep K35
                   have Bq34__35 := Bq34.keep K35 (fun y hy => G2 (c9 Z0 (gz_W22 y hy)) (Lr22__33.lt y hy))
                   have hR35 := hR34.trans (CHr.keep K35 ZW22__34 hC34)
                   have KP35 := KP34.trans K35 (fun x f => Or.inr (gz_W22 x f))
                   have sz35 := c9 sz34 K35.1
                   have hk35 := c9 hk34 K35.1
                   have hl_ : ∀ cs ∈ ([ca0, ca1] : List (List Int32)), cs.length ≤ 2 := (x8 m0.len.2 (x8 m1.len.2 P6))
                   have Fz := (by obtain ⟨_, _, _, _, _, _, _, q, _⟩ := Lr35; exact q.2.1 : Fld Z T35.heap b21 "com/example/prizewell/prizewell/core/TicketRanges" "size" "I" (.int 2))
                   exact J471 _ _ _ _ _ (X35.more (by decide) (by decide)) N35 XO__35 A21__35 Fz N0__35 N1__35 N2__35 N3__35 (fun _ => z7 Lr35 0 (j6 rfl) (j6 rfl) hl_ (j6 rfl) (j6 rfl) hcb35 rfl rfl (Or.inl ⟨j6 rfl, nf1, rfl, dd0⟩)) (fun _ => z7 Lr35 1 (j6 rfl) (j6 rfl) hl_ (j6 rfl) (j6 rfl) hcb35 rfl rfl (Or.inr ⟨rfl, Bq34__35.bi⟩)) (fun q => absurd q (by decide)) (fun q => absurd q (by decide)) KP35 sz35 hk35 hR35
               · rcases as8 _ h_kb_ with rfl | rfl | rfl
                 · skip
                   let L_46 : Array Slot := #[oJ p0,.second,oJ p1,.second,oI p2,oI p3,oI p4,oI 1,oI 0,oI 1,oR d2,oR d4,oR b5,oR b7,oI jvc,oI jvd,oI jve,oI jvf,oR jvs0,oR jvs1,oR jvs2,oR jvs3,oR jvt0,oR jvt1,oR jvt2,oR jvt3,oJ nf0,.second,oJ nc0,.second,oJ nc1,.second,oJ nc2,.second,oJ nc3,.second,oJ nf1,.second,oJ nf2,.second,oJ nf3,.second,oR b21,oR b23,oU]
                   show c5 p e U m T24 353 L_46 []
                   refine f5 X24 f d at_353 rfl ?_
                   refine m8 X24 f d at_355 ((if0 _ _).trans (tlt (by decide : (0 : Int32) < (1 : Int32))).2.2.2) ?_
                   refine f6 X24 f d at_358 (z := (0 : Int32)) rfl ?_
                   refine f5 X24 f d at_359 rfl ?_
                   refine m4 X24 f d at_361 (tlt (by decide : (0 : Int32) < (1 : Int32))).2.1 ?_
                   refine j0 X24 f d at_364 rfl rfl ?_
                   refine m5 (pc := 366) (pc' := 371) X24 f d at_366 ?_
                   refine j0 X24 f d at_371 rfl rfl ?_
                   refine o3 X24 f d at_373 rfl ?_
                   refine o3 X24 f d at_375 rfl ?_
                   obtain ⟨_, T36, Lc36, X36, hQ36, st36⟩ := j8 X24 f d r hZ8 rfl hown8 (x9 w) (y7 w) (r7 w) (z3 w) (G5 l Z a0 w []  b21 jvt0 jvs0 ta0 ka0 ca0 nf0 nc0 W22 .null w0 z0 pc0 kpc pcs fm al kal als T24.heap n0 sz24 Lr22__24 N0__24 m0 (fun y hy => c9 Z0 (gz_W22 y hy)) wl_W22 (Nat.le_of_lt (Nat.lt_of_le_of_lt wl_b21 A21__24.lt)) nn0 mm0 rfl  XO__24 WW) L_46 at_377 [.ref b21, .ref jvt0, .long nf0, .long nc0] [] 0 7 97 (lenOf B0 rfl)
                   obtain ⟨rfl, Nq36, K36, W36, lc36, gn36, Lr36, Bq36⟩ := hQ36
                   have N36 := Fr.app N24 Nq36
                   refine c8 st36 ?_
                   have XO__36 := XO__24.keep K36 (fun x f => c9 Z0 (gz_W22 x f))
                   have N0__36 := N0__24.keep K36 wl_W22
                   have N1__36 := N1__24.keep K36 wl_W22
                   have N2__36 := N2__24.keep K36 wl_W22
                   have N3__36 := N3__24.keep K36 wl_W22
                   have A21__36 := A21__24.keep K36
                   have Lr24__36 := Lr24.keep K36 (fun y hy z => dj24 y z hy)
                   have hR36 := hR24.trans (CHr.keep K36 ZW22__24 hC24)
                   have KP36 := KP24.trans K36 (fun x f => Or.inr (gz_W22 x f))
                   have sz36 := c9 sz24 K36.1
                   have hk36 := c9 hk24 K36.1
                   show c5 p e U m T36 380 L_46 []
                   refine f5 X36 f d at_380 rfl ?_
                   refine f6 X36 f d at_382 (z := (1 : Int32)) rfl ?_
                   refine j5 (pc := 383) (pc' := 408) X36 f d at_383 (flt (by decide : ¬ ((1 : Int32) < (1 : Int32)))).2.2.2 ?_
                   refine f5 X36 f d at_408 rfl ?_
                   refine f6 X36 f d at_410 (z := (2 : Int32)) rfl ?_
                   refine j5 (pc := 411) (pc' := 436) X36 f d at_411 (flt (by decide : ¬ ((2 : Int32) < (1 : Int32)))).2.2.2 ?_
                   refine f5 X36 f d at_436 rfl ?_
                   refine f6 X36 f d at_438 (z := (3 : Int32)) rfl ?_
                   refine j5 (pc := 439) (pc' := 464) X36 f d at_439 (flt (by decide : ¬ ((3 : Int32) < (1 : Int32)))).2.2.2 ?_
                   refine j0 X36 f d at_464 rfl rfl ?_
                   refine j0 X36 f d at_466 rfl rfl ?_
                   obtain ⟨_, T37, Lc37, X37, hQ37, st37⟩ := o1 X36 f d r hZ8 rfl hown8 (P7 w) (P9 w) (P8 w) (Q0 w) (v9 w) (Q1 w) A21__36 (aU2 l Z a0 w [] b21 b23 W24 .null T36.heap n0 sz36 Lr24__36) L_46 at_468 [.ref b23] [] 0 0 0 (lenOf Q4 rfl)
                   obtain ⟨rfl, Nq37, e37⟩ := hQ37
                   have N37 := Fr.app N36 Nq37
                   refine c8 st37 ?_
                   have hk_ := hk36
                   have KP_ := KP36
                   have sz_ := sz36
                   have hR_ := hR36
                   rw [← e37] at Lr36 XO__36 A21__36 N0__36 N1__36 N2__36 N3__36 Bq36 hk_ KP_ sz_ hR_
                   have hl_ : ∀ cs ∈ ([ca0] : List (List Int32)), cs.length ≤ 2 := (x8 m0.len.2 P6)
                   have Fz := (by obtain ⟨_, _, _, _, _, _, _, q, _⟩ := Lr36; exact q.2.1 : Fld Z T37.heap b21 "com/example/prizewell/prizewell/core/TicketRanges" "size" "I" (.int 1))
                   exact J471 _ _ _ _ _ (X37.more (by decide) (by decide)) N37 XO__36 A21__36 Fz N0__36 N1__36 N2__36 N3__36 (fun _ => z7 Lr36 0 (j6 rfl) (j6 rfl) hl_ (j6 rfl) (j6 rfl) (c9 (Z3 _ hl_) (j6 rfl)) rfl rfl (Or.inr ⟨rfl, Bq36.bi⟩)) (fun q => absurd q (by decide)) (fun q => absurd q (by decide)) (fun q => absurd q (by decide)) KP_ sz_ hk_ hR_
                 · skip
                   let L_47 : Array Slot := #[oJ p0,.second,oJ p1,.second,oI p2,oI p3,oI p4,oI 1,oI 1,oI 2,oR d2,oR d4,oR b5,oR b7,oI jvc,oI jvd,oI jve,oI jvf,oR jvs0,oR jvs1,oR jvs2,oR jvs3,oR jvt0,oR jvt1,oR jvt2,oR jvt3,oJ nf0,.second,oJ nc0,.second,oJ nc1,.second,oJ nc2,.second,oJ nc3,.second,oJ nf1,.second,oJ nf2,.second,oJ nf3,.second,oR b21,oR b23,oU]
                   show c5 p e U m T24 353 L_47 []
                   refine f5 X24 f d at_353 rfl ?_
                   refine m8 X24 f d at_355 ((if0 _ _).trans (tlt (by decide : (0 : Int32) < (2 : Int32))).2.2.2) ?_
                   refine f6 X24 f d at_358 (z := (0 : Int32)) rfl ?_
                   refine f5 X24 f d at_359 rfl ?_
                   refine m4 X24 f d at_361 (tlt (by decide : (0 : Int32) < (1 : Int32))).2.1 ?_
                   refine j0 X24 f d at_364 rfl rfl ?_
                   refine m5 (pc := 366) (pc' := 371) X24 f d at_366 ?_
                   refine j0 X24 f d at_371 rfl rfl ?_
                   refine o3 X24 f d at_373 rfl ?_
                   refine o3 X24 f d at_375 rfl ?_
                   obtain ⟨_, T38, Lc38, X38, hQ38, st38⟩ := j8 X24 f d r hZ8 rfl hown8 (x9 w) (y7 w) (r7 w) (z3 w) (G5 l Z a0 w []  b21 jvt0 jvs0 ta0 ka0 ca0 nf0 nc0 W22 .null w0 z0 pc0 kpc pcs fm al kal als T24.heap n0 sz24 Lr22__24 N0__24 m0 (fun y hy => c9 Z0 (gz_W22 y hy)) wl_W22 (Nat.le_of_lt (Nat.lt_of_le_of_lt wl_b21 A21__24.lt)) nn0 mm0 rfl  XO__24 WW) L_47 at_377 [.ref b21, .ref jvt0, .long nf0, .long nc0] [] 0 7 97 (lenOf B0 rfl)
                   obtain ⟨rfl, Nq38, K38, W38, lc38, gn38, Lr38, Bq38⟩ := hQ38
                   have N38 := Fr.app N24 Nq38
                   refine c8 st38 ?_
                   have XO__38 := XO__24.keep K38 (fun x f => c9 Z0 (gz_W22 x f))
                   have N0__38 := N0__24.keep K38 wl_W22
                   have N1__38 := N1__24.keep K38 wl_W22
                   have N2__38 := N2__24.keep K38 wl_W22
                   have N3__38 := N3__24.keep K38 wl_W22
                   have A21__38 := A21__24.keep K38
                   have Lr24__38 := Lr24.keep K38 (fun y hy z => dj24 y z hy)
                   have ZW24__38 : ∀ y ∈ W24, Safe Z l3 T8.vm T38.heap y := fun y hy => (ZW24 y hy).keep K38 ZW22__24 hC24
                   have hR38 := hR24.trans (CHr.keep K38 ZW22__24 hC24)
                   have hC38 := hR38.1
                   have KP38 := KP24.trans K38 (fun x f => Or.inr (gz_W22 x f))
                   have sz38 := c9 sz24 K38.1
                   have hk38 := c9 hk24 K38.1
                   have gz_W38 : ∀ y ∈ W38, h0.size ≤ y := fun y hy => (gn38 y hy).elim (gz_W22 y) (fun q => c9 KP24.1 q)
                   have wl_W38 : ∀ y ∈ W38, w0 ≤ y := fun y hy => (gn38 y hy).elim (wl_W22 y) (fun q => c9 (Nat.le_of_lt (Nat.lt_of_le_of_lt wl_b21 A21__24.lt)) q)
                   have ZW38 : ∀ y ∈ W38, Safe Z l3 T8.vm T38.heap y := fun y hy => Safe.keep K38 ZW22__24 hC24 ((gn38 y hy).elim (fun q => ZW22__24 y q) (fun q => Safe.new q))
                   have dj38 : ∀ y ∈ W24, y ∉ W38 := fun y hy z => (gn38 y z).elim (fun q => dj24 y hy q) (fun q => Nat.lt_irrefl _ (j3 (Lr24.lt y hy) q))
                   show c5 p e U m T38 380 L_47 []
                   refine f5 X38 f d at_380 rfl ?_
                   refine f6 X38 f d at_382 (z := (1 : Int32)) rfl ?_
                   refine m4 X38 f d at_383 (tlt (by decide : (1 : Int32) < (2 : Int32))).2.2.2 ?_
                   refine f6 X38 f d at_386 (z := (1 : Int32)) rfl ?_
                   refine f5 X38 f d at_387 rfl ?_
                   refine j5 (pc := 389) (pc' := 397) X38 f d at_389 (flt (by decide : ¬ ((1 : Int32) < (1 : Int32)))).2.1 ?_
                   refine j0 X38 f d at_397 rfl rfl ?_
                   refine j0 X38 f d at_399 rfl rfl ?_
                   refine o3 X38 f d at_401 rfl ?_
                   refine o3 X38 f d at_403 rfl ?_
                   obtain ⟨_, T39, Lc39, X39, hQ39, st39⟩ := j8 X38 f d r hZ8 rfl hown8 (x9 w) (y7 w) (r7 w) (z3 w) (G5 l Z a0 w []  b23 jvt1 jvs1 ta1 ka1 ca1 nf1 nc1 W24 .null w0 z0 pc0 kpc pcs fm al kal als T38.heap n0 sz38 Lr24__38 N1__38 m1 (fun y hy => c9 Z0 (gz_W24 y hy)) wl_W24 (Nat.le_of_lt (Nat.lt_of_le_of_lt wl_b21 A21__38.lt)) nn1 mm1 rfl  XO__38 WW) L_47 at_405 [.ref b23, .ref jvt1, .long nf1, .long nc1] [] 0 7 97 (lenOf B0 rfl)
                   obtain ⟨rfl, Nq39, K39, W39, lc39, gn39, Lr39, Bq39⟩ := hQ39
                   have N39 := Fr.app N38 Nq39
                   refine c8 st39 ?_
                   have XO__39 := XO__38.keep K39 (fun x f => c9 Z0 (gz_W24 x f))
                   have N0__39 := N0__38.keep K39 wl_W24
                   have N1__39 := N1__38.keep K39 wl_W24
                   have N2__39 := N2__38.keep K39 wl_W24
                   have N3__39 := N3__38.keep K39 wl_W24
                   have A21__39 := A21__38.keep K39
                   have Lr38__39 := Lr38.keep K39 dj38
                   have ZW38__39 : ∀ y ∈ W38, Safe Z l3 T8.vm T39.heap y := fun y hy => (ZW38 y hy).keep K39 ZW24__38 hC38
                   have hR39 := hR38.trans (CHr.keep K39 ZW24__38 hC38)
                   have hC39 := hR39.1
                   have KP39 := KP38.trans K39 (fun x f => Or.inr (gz_W24 x f))
                   have sz39 := c9 sz38 K39.1
                   have hk39 := c9 hk38 K39.1
                   have dj39 : ∀ y ∈ W39, y ∉ W38 := fun y hy z => (gn39 y hy).elim (fun q => dj38 y q z) (fun q => Nat.lt_irrefl _ (j3 (Lr38.lt y z) q))
                   show c5 p e U m T39 408 L_47 []
                   refine f5 X39 f d at_408 rfl ?_
                   refine f6 X39 f d at_410 (z := (2 : Int32)) rfl ?_
                   refine j5 (pc := 411) (pc' := 436) X39 f d at_411 (flt (by decide : ¬ ((2 : Int32) < (2 : Int32)))).2.2.2 ?_
                   refine f5 X39 f d at_436 rfl ?_
                   refine f6 X39 f d at_438 (z := (3 : Int32)) rfl ?_
                   refine j5 (pc := 439) (pc' := 464) X39 f d at_439 (flt (by decide : ¬ ((3 : Int32) < (2 : Int32)))).2.2.2 ?_
                   refine j0 X39 f d at_464 rfl rfl ?_
                   refine j0 X39 f d at_466 rfl rfl ?_
                   obtain ⟨_, T40, Lc40, X40, hQ40, st40⟩ := o1 X39 f d r hZ8 rfl hown8 (P7 w) (P9 w) (P8 w) (Q0 w) (v9 w) (Q1 w) A21__39 (cH0 l Z a0 w [] ca0 nf0 ca1 nf1 b21 b23 W38 W39 (.ref lc38) lc39 T39.heap n0 sz39 Lr38__39 Lr39 (fun y hy => c9 Z0 (gz_W38 y hy)) dj39 rfl m0.len m1.len) L_47 at_468 [.ref b23] [] 0 3 41 (lenOf Q4 rfl)
                   obtain ⟨rfl, Nq40, K40, W40, cb40, Lr40, hcb40⟩ := hQ40
                   have N40 := Fr.app N39 Nq40
                   refine c8 st40 ?_
                   have XO__40 := XO__39.keep K40 (fun x f => c9 Z0 (gz_W38 x f))
                   have N0__40 := N0__39.keep K40 wl_W38
                   have N1__40 := N1__39.keep K40 wl_W38
                   have N2__40 := N2__39.keep K40 wl_W38
                   have N3__40 := N3__39.keep K40 wl_W38
                   have A21__40 := A21__39.keep K40
                   have Bq39__40 := Bq39.keep K40 (fun y hy => G2 (c9 Z0 (gz_W38 y hy)) (Lr38.lt y hy))
                   have hR40 := hR39.trans (CHr.keep K40 ZW38__39 hC39)
                   have KP40 := KP39.trans K40 (fun x f => Or.inr (gz_W38 x f))
                   have sz40 := c9 sz39 K40.1
                   have hk40 := c9 hk39 K40.1
                   have hl_ : ∀ cs ∈ ([ca0, ca1] : List (List Int32)), cs.length ≤ 2 := (x8 m0.len.2 (x8 m1.len.2 P6))
                   have Fz := (by obtain ⟨_, _, _, _, _, _, _, q, _⟩ := Lr40; exact q.2.1 : Fld Z T40.heap b21 "com/example/prizewell/prizewell/core/TicketRanges" "size" "I" (.int 2))
                   exact J471 _ _ _ _ _ (X40.more (by decide) (by decide)) N40 XO__40 A21__40 Fz N0__40 N1__40 N2__40 N3__40 (fun _ => z7 Lr40 0 (j6 rfl) (j6 rfl) hl_ (j6 rfl) (j6 rfl) hcb40 rfl rfl (Or.inl ⟨j6 rfl, nf1, rfl, dd0⟩)) (fun _ => z7 Lr40 1 (j6 rfl) (j6 rfl) hl_ (j6 rfl) (j6 rfl) hcb40 rfl rfl (Or.inr ⟨rfl, Bq39__40.bi⟩)) (fun q => absurd q (by decide)) (fun q => absurd q (by decide)) KP40 sz40 hk40 hR40
                 · skip
                   let L_48 : Array Slot := #[oJ p0,.second,oJ p1,.second,oI p2,oI p3,oI p4,oI 1,oI 2,oI 3,oR d2,oR d4,oR b5,oR b7,oI jvc,oI jvd,oI jve,oI jvf,oR jvs0,oR jvs1,oR jvs2,oR jvs3,oR jvt0,oR jvt1,oR jvt2,oR jvt3,oJ nf0,.second,oJ nc0,.second,oJ nc1,.second,oJ nc2,.second,oJ nc3,.second,oJ nf1,.second,oJ nf2,.second,oJ nf3,.second,oR b21,oR b23,oU]
                   show c5 p e U m T24 353 L_48 []
                   refine f5 X24 f d at_353 rfl ?_
                   refine m8 X24 f d at_355 ((if0 _ _).trans (tlt (by decide : (0 : Int32) < (3 : Int32))).2.2.2) ?_
                   refine f6 X24 f d at_358 (z := (0 : Int32)) rfl ?_
                   refine f5 X24 f d at_359 rfl ?_
                   refine m4 X24 f d at_361 (tlt (by decide : (0 : Int32) < (1 : Int32))).2.1 ?_
                   refine j0 X24 f d at_364 rfl rfl ?_
                   refine m5 (pc := 366) (pc' := 371) X24 f d at_366 ?_
                   refine j0 X24 f d at_371 rfl rfl ?_
                   refine o3 X24 f d at_373 rfl ?_
                   refine o3 X24 f d at_375 rfl ?_
                   obtain ⟨_, T41, Lc41, X41, hQ41, st41⟩ := j8 X24 f d r hZ8 rfl hown8 (x9 w) (y7 w) (r7 w) (z3 w) (G5 l Z a0 w []  b21 jvt0 jvs0 ta0 ka0 ca0 nf0 nc0 W22 .null w0 z0 pc0 kpc pcs fm al kal als T24.heap n0 sz24 Lr22__24 N0__24 m0 (fun y hy => c9 Z0 (gz_W22 y hy)) wl_W22 (Nat.le_of_lt (Nat.lt_of_le_of_lt wl_b21 A21__24.lt)) nn0 mm0 rfl  XO__24 WW) L_48 at_377 [.ref b21, .ref jvt0, .long nf0, .long nc0] [] 0 7 97 (lenOf B0 rfl)
                   obtain ⟨rfl, Nq41, K41, W41, lc41, gn41, Lr41, Bq41⟩ := hQ41
                   have N41 := Fr.app N24 Nq41
                   refine c8 st41 ?_
                   have XO__41 := XO__24.keep K41 (fun x f => c9 Z0 (gz_W22 x f))
                   have N0__41 := N0__24.keep K41 wl_W22
                   have N1__41 := N1__24.keep K41 wl_W22
                   have N2__41 := N2__24.keep K41 wl_W22
                   have N3__41 := N3__24.keep K41 wl_W22
                   have A21__41 := A21__24.keep K41
                   have Lr24__41 := Lr24.keep K41 (fun y hy z => dj24 y z hy)
                   have ZW24__41 : ∀ y ∈ W24, Safe Z l3 T8.vm T41.heap y := fun y hy => (ZW24 y hy).keep K41 ZW22__24 hC24
                   have hR41 := hR24.trans (CHr.keep K41 ZW22__24 hC24)
                   have hC41 := hR41.1
                   have KP41 := KP24.trans K41 (fun x f => Or.inr (gz_W22 x f))
                   have sz41 := c9 sz24 K41.1
                   have hk41 := c9 hk24 K41.1
                   have gz_W41 : ∀ y ∈ W41, h0.size ≤ y := fun y hy => (gn41 y hy).elim (gz_W22 y) (fun q => c9 KP24.1 q)
                   have wl_W41 : ∀ y ∈ W41, w0 ≤ y := fun y hy => (gn41 y hy).elim (wl_W22 y) (fun q => c9 (Nat.le_of_lt (Nat.lt_of_le_of_lt wl_b21 A21__24.lt)) q)
                   have ZW41 : ∀ y ∈ W41, Safe Z l3 T8.vm T41.heap y := fun y hy => Safe.keep K41 ZW22__24 hC24 ((gn41 y hy).elim (fun q => ZW22__24 y q) (fun q => Safe.new q))
                   have dj41 : ∀ y ∈ W24, y ∉ W41 := fun y hy z => (gn41 y z).elim (fun q => dj24 y hy q) (fun q => Nat.lt_irrefl _ (j3 (Lr24.lt y hy) q))
                   show c5 p e U m T41 380 L_48 []
                   refine f5 X41 f d at_380 rfl ?_
                   refine f6 X41 f d at_382 (z := (1 : Int32)) rfl ?_
                   refine m4 X41 f d at_383 (tlt (by decide : (1 : Int32) < (3 : Int32))).2.2.2 ?_
                   refine f6 X41 f d at_386 (z := (1 : Int32)) rfl ?_
                   refine f5 X41 f d at_387 rfl ?_
                   refine j5 (pc := 389) (pc' := 397) X41 f d at_389 (flt (by decide : ¬ ((1 : Int32) < (1 : Int32)))).2.1 ?_
                   refine j0 X41 f d at_397 rfl rfl ?_
                   refine j0 X41 f d at_399 rfl rfl ?_
                   refine o3 X41 f d at_401 rfl ?_
                   refine o3 X41 f d at_403 rfl ?_
                   obtain ⟨_, T42, Lc42, X42, hQ42, st42⟩ := j8 X41 f d r hZ8 rfl hown8 (x9 w) (y7 w) (r7 w) (z3 w) (G5 l Z a0 w []  b23 jvt1 jvs1 ta1 ka1 ca1 nf1 nc1 W24 .null w0 z0 pc0 kpc pcs fm al kal als T41.heap n0 sz41 Lr24__41 N1__41 m1 (fun y hy => c9 Z0 (gz_W24 y hy)) wl_W24 (Nat.le_of_lt (Nat.lt_of_le_of_lt wl_b21 A21__41.lt)) nn1 mm1 rfl  XO__41 WW) L_48 at_405 [.ref b23, .ref jvt1, .long nf1, .long nc1] [] 0 7 97 (lenOf B0 rfl)
                   obtain ⟨rfl, Nq42, K42, W42, lc42, gn42, Lr42, Bq42⟩ := hQ42
                   have N42 := Fr.app N41 Nq42
                   refine c8 st42 ?_
                   have XO__42 := XO__41.keep K42 (fun x f => c9 Z0 (gz_W24 x f))
                   have N0__42 := N0__41.keep K42 wl_W24
                   have N1__42 := N1__41.keep K42 wl_W24
                   have N2__42 := N2__41.keep K42 wl_W24
                   have N3__42 := N3__41.keep K42 wl_W24
                   have A21__42 := A21__41.keep K42
                   have Lr41__42 := Lr41.keep K42 dj41
                   have ZW41__42 : ∀ y ∈ W41, Safe Z l3 T8.vm T42.heap y := fun y hy => (ZW41 y hy).keep K42 ZW24__41 hC41
                   have hR42 := hR41.trans (CHr.keep K42 ZW24__41 hC41)
                   have hC42 := hR42.1
                   have KP42 := KP41.trans K42 (fun x f => Or.inr (gz_W24 x f))
                   have sz42 := c9 sz41 K42.1
                   have hk42 := c9 hk41 K42.1
                   have gz_W42 : ∀ y ∈ W42, h0.size ≤ y := fun y hy => (gn42 y hy).elim (gz_W24 y) (fun q => c9 KP41.1 q)
                   have wl_W42 : ∀ y ∈ W42, w0 ≤ y := fun y hy => (gn42 y hy).elim (wl_W24 y) (fun q => c9 (Nat.le_of_lt (Nat.lt_of_le_of_lt wl_b21 A21__41.lt)) q)
                   have ZW42 : ∀ y ∈ W42, Safe Z l3 T8.vm T42.heap y := fun y hy => Safe.keep K42 ZW24__41 hC41 ((gn42 y hy).elim (fun q => ZW24__41 y q) (fun q => Safe.new q))
                   have dj42 : ∀ y ∈ W42, y ∉ W41 := fun y hy z => (gn42 y hy).elim (fun q => dj41 y q z) (fun q => Nat.lt_irrefl _ (j3 (Lr41.lt y z) q))
                   show c5 p e U m T42 408 L_48 []
                   refine f5 X42 f d at_408 rfl ?_
                   refine f6 X42 f d at_410 (z := (2 : Int32)) rfl ?_
                   refine m4 X42 f d at_411 (tlt (by decide : (2 : Int32) < (3 : Int32))).2.2.2 ?_
                   refine f6 X42 f d at_414 (z := (2 : Int32)) rfl ?_
                   refine f5 X42 f d at_415 rfl ?_
                   refine j5 (pc := 417) (pc' := 425) X42 f d at_417 (flt (by decide : ¬ ((2 : Int32) < (1 : Int32)))).2.1 ?_
                   refine j0 X42 f d at_425 rfl rfl ?_
                   refine j0 X42 f d at_427 rfl rfl ?_
                   refine o3 X42 f d at_429 rfl ?_
                   refine o3 X42 f d at_431 rfl ?_
                   obtain ⟨_, T43, Lc43, X43, hQ43, st43⟩ := j8 X42 f d r hZ8 rfl hown8 (x9 w) (y7 w) (r7 w) (z3 w) (ak5 l Z a0 w [] ca1 nf1 b23 jvt2 jvs2 ta2 ka2 ca2 nf2 nc2 W42 (.ref lc42) w0 z0 pc0 kpc pcs fm al kal als T42.heap n0 sz42 Lr42 N2__42 m2 (fun y hy => c9 Z0 (gz_W42 y hy)) wl_W42 (Nat.le_of_lt (Nat.lt_of_le_of_lt wl_b21 A21__42.lt)) nn2 mm2 rfl m1.len XO__42 WW) L_48 at_433 [.ref b23, .ref jvt2, .long nf2, .long nc2] [] 0 7 56 (lenOf B0 rfl)
                   obtain ⟨rfl, Nq43, K43, W43, lc43, gn43, Lr43, Bq43⟩ := hQ43
                   have N43 := Fr.app N42 Nq43
                   refine c8 st43 ?_
                   have XO__43 := XO__42.keep K43 (fun x f => c9 Z0 (gz_W42 x f))
                   have N0__43 := N0__42.keep K43 wl_W42
                   have N1__43 := N1__42.keep K43 wl_W42
                   have N2__43 := N2__42.keep K43 wl_W42
                   have N3__43 := N3__42.keep K43 wl_W42
                   have A21__43 := A21__42.keep K43
                   have Lr41__43 := Lr41__42.keep K43 dj42
                   have ZW41__43 : ∀ y ∈ W41, Safe Z l3 T8.vm T43.heap y := fun y hy => (ZW41__42 y hy).keep K43 ZW42 hC42
                   have hR43 := hR42.trans (CHr.keep K43 ZW42 hC42)
                   have hC43 := hR43.1
                   have KP43 := KP42.trans K43 (fun x f => Or.inr (gz_W42 x f))
                   have sz43 := c9 sz42 K43.1
                   have hk43 := c9 hk42 K43.1
                   have dj43 : ∀ y ∈ W43, y ∉ W41 := fun y hy z => (gn43 y hy).elim (fun q => dj42 y q z) (fun q => Nat.lt_irrefl _ (j3 (Lr41__42.lt y z) q))
                   show c5 p e U m T43 436 L_48 []
                   refine f5 X43 f d at_436 rfl ?_
                   refine f6 X43 f d at_438 (z := (3 : Int32)) rfl ?_
                   refine j5 (pc := 439) (pc' := 464) X43 f d at_439 (flt (by decide : ¬ ((3 : Int32) < (3 : Int32)))).2.2.2 ?_
                   refine j0 X43 f d at_464 rfl rfl ?_
                   refine j0 X43 f d at_466 rfl rfl ?_
                   obtain ⟨_, T44, Lc44, X44, hQ44, st44⟩ := o1 X43 f d r hZ8 rfl hown8 (P7 w) (P9 w) (P8 w) (Q0 w) (v9 w) (Q1 w) A21__43 (cH1 l Z a0 w [] ca0 nf0 ca1 ca2 nf1 nf2 b21 b23 W41 W43 (.ref lc41) lc43 T43.heap n0 sz43 Lr41__43 Lr43 (fun y hy => c9 Z0 (gz_W41 y hy)) dj43 rfl m0.len m1.len m2.len) L_48 at_468 [.ref b23] [] 0 3 41 (lenOf Q4 rfl)
                   obtain ⟨rfl, Nq44, K44, W44, cb44, Lr44, hcb44⟩ := hQ44
                   have N44 := Fr.app N43 Nq44
                   refine c8 st44 ?_
                   have XO__44 := XO__43.keep K44 (fun x f => c9 Z0 (gz_W41 x f))
                   have N0__44 := N0__43.keep K44 wl_W41
                   have N1__44 := N1__43.keep K44 wl_W41
                   have N2__44 := N2__43.keep K44 wl_W41
                   have N3__44 := N3__43.keep K44 wl_W41
                   have A21__44 := A21__43.keep K44
                   have Bq43__44 := Bq43.keep K44 (fun y hy => G2 (c9 Z0 (gz_W41 y hy)) (Lr41__42.lt y hy))
                   have hR44 := hR43.trans (CHr.keep K44 ZW41__43 hC43)
                   have KP44 := KP43.trans K44 (fun x f => Or.inr (gz_W41 x f))
                   have sz44 := c9 sz43 K44.1
                   have hk44 := c9 hk43 K44.1
                   have hl_ : ∀ cs ∈ ([ca0, ca1, ca2] : List (List Int32)), cs.length ≤ 2 := (x8 m0.len.2 (x8 m1.len.2 (x8 m2.len.2 P6)))
                   have Fz := (by obtain ⟨_, _, _, _, _, _, _, q, _⟩ := Lr44; exact q.2.1 : Fld Z T44.heap b21 "com/example/prizewell/prizewell/core/TicketRanges" "size" "I" (.int 3))
                   exact J471 _ _ _ _ _ (X44.more (by decide) (by decide)) N44 XO__44 A21__44 Fz N0__44 N1__44 N2__44 N3__44 (fun _ => z7 Lr44 0 (j6 rfl) (j6 rfl) hl_ (j6 rfl) (j6 rfl) hcb44 rfl rfl (Or.inl ⟨j6 rfl, nf1, rfl, dd0⟩)) (fun _ => z7 Lr44 1 (j6 rfl) (j6 rfl) hl_ (j6 rfl) (j6 rfl) hcb44 rfl rfl (Or.inl ⟨j6 rfl, nf2, rfl, dd1⟩)) (fun _ => z7 Lr44 2 (j6 rfl) (j6 rfl) hl_ (j6 rfl) (j6 rfl) hcb44 rfl rfl (Or.inr ⟨rfl, Bq43__44.bi⟩)) (fun q => absurd q (by decide)) KP44 sz44 hk44 hR44
               · rcases as8 _ h_kb_ with rfl | rfl | rfl
                 · skip
                   let L_49 : Array Slot := #[oJ p0,.second,oJ p1,.second,oI p2,oI p3,oI p4,oI 2,oI 0,oI 2,oR d2,oR d4,oR b5,oR b7,oI jvc,oI jvd,oI jve,oI jvf,oR jvs0,oR jvs1,oR jvs2,oR jvs3,oR jvt0,oR jvt1,oR jvt2,oR jvt3,oJ nf0,.second,oJ nc0,.second,oJ nc1,.second,oJ nc2,.second,oJ nc3,.second,oJ nf1,.second,oJ nf2,.second,oJ nf3,.second,oR b21,oR b23,oU]
                   show c5 p e U m T24 353 L_49 []
                   refine f5 X24 f d at_353 rfl ?_
                   refine m8 X24 f d at_355 ((if0 _ _).trans (tlt (by decide : (0 : Int32) < (2 : Int32))).2.2.2) ?_
                   refine f6 X24 f d at_358 (z := (0 : Int32)) rfl ?_
                   refine f5 X24 f d at_359 rfl ?_
                   refine m4 X24 f d at_361 (tlt (by decide : (0 : Int32) < (2 : Int32))).2.1 ?_
                   refine j0 X24 f d at_364 rfl rfl ?_
                   refine m5 (pc := 366) (pc' := 371) X24 f d at_366 ?_
                   refine j0 X24 f d at_371 rfl rfl ?_
                   refine o3 X24 f d at_373 rfl ?_
                   refine o3 X24 f d at_375 rfl ?_
                   obtain ⟨_, T45, Lc45, X45, hQ45, st45⟩ := j8 X24 f d r hZ8 rfl hown8 (x9 w) (y7 w) (r7 w) (z3 w) (G5 l Z a0 w []  b21 jvt0 jvs0 ta0 ka0 ca0 nf0 nc0 W22 .null w0 z0 pc0 kpc pcs fm al kal als T24.heap n0 sz24 Lr22__24 N0__24 m0 (fun y hy => c9 Z0 (gz_W22 y hy)) wl_W22 (Nat.le_of_lt (Nat.lt_of_le_of_lt wl_b21 A21__24.lt)) nn0 mm0 rfl  XO__24 WW) L_49 at_377 [.ref b21, .ref jvt0, .long nf0, .long nc0] [] 0 7 97 (lenOf B0 rfl)
                   obtain ⟨rfl, Nq45, K45, W45, lc45, gn45, Lr45, Bq45⟩ := hQ45
                   have N45 := Fr.app N24 Nq45
                   refine c8 st45 ?_
                   have XO__45 := XO__24.keep K45 (fun x f => c9 Z0 (gz_W22 x f))
                   have N0__45 := N0__24.keep K45 wl_W22
                   have N1__45 := N1__24.keep K45 wl_W22
                   have N2__45 := N2__24.keep K45 wl_W22
                   have N3__45 := N3__24.keep K45 wl_W22
                   have A21__45 := A21__24.keep K45
                   have Lr24__45 := Lr24.keep K45 (fun y hy z => dj24 y z hy)
                   have hR45 := hR24.trans (CHr.keep K45 ZW22__24 hC24)
                   have hC45 := hR45.1
                   have KP45 := KP24.trans K45 (fun x f => Or.inr (gz_W22 x f))
                   have sz45 := c9 sz24 K45.1
                   have hk45 := c9 hk24 K45.1
                   have gz_W45 : ∀ y ∈ W45, h0.size ≤ y := fun y hy => (gn45 y hy).elim (gz_W22 y) (fun q => c9 KP24.1 q)
                   have wl_W45 : ∀ y ∈ W45, w0 ≤ y := fun y hy => (gn45 y hy).elim (wl_W22 y) (fun q => c9 (Nat.le_of_lt (Nat.lt_of_le_of_lt wl_b21 A21__24.lt)) q)
                   have ZW45 : ∀ y ∈ W45, Safe Z l3 T8.vm T45.heap y := fun y hy => Safe.keep K45 ZW22__24 hC24 ((gn45 y hy).elim (fun q => ZW22__24 y q) (fun q => Safe.new q))
                   have dj45 : ∀ y ∈ W24, y ∉ W45 := fun y hy z => (gn45 y z).elim (fun q => dj24 y hy q) (fun q => Nat.lt_irrefl _ (j3 (Lr24.lt y hy) q))
                   show c5 p e U m T45 380 L_49 []
                   refine f5 X45 f d at_380 rfl ?_
                   refine f6 X45 f d at_382 (z := (1 : Int32)) rfl ?_
                   refine m4 X45 f d at_383 (tlt (by decide : (1 : Int32) < (2 : Int32))).2.2.2 ?_
                   refine f6 X45 f d at_386 (z := (1 : Int32)) rfl ?_
                   refine f5 X45 f d at_387 rfl ?_
                   refine m4 X45 f d at_389 (tlt (by decide : (1 : Int32) < (2 : Int32))).2.1 ?_
                   refine j0 X45 f d at_392 rfl rfl ?_
                   refine m5 (pc := 394) (pc' := 399) X45 f d at_394 ?_
                   refine j0 X45 f d at_399 rfl rfl ?_
                   refine o3 X45 f d at_401 rfl ?_
                   refine o3 X45 f d at_403 rfl ?_
                   obtain ⟨_, T46, Lc46, X46, hQ46, st46⟩ := j8 X45 f d r hZ8 rfl hown8 (x9 w) (y7 w) (r7 w) (z3 w) (ak5 l Z a0 w [] ca0 nf0 b21 jvt1 jvs1 ta1 ka1 ca1 nf1 nc1 W45 (.ref lc45) w0 z0 pc0 kpc pcs fm al kal als T45.heap n0 sz45 Lr45 N1__45 m1 (fun y hy => c9 Z0 (gz_W45 y hy)) wl_W45 (Nat.le_of_lt (Nat.lt_of_le_of_lt wl_b21 A21__45.lt)) nn1 mm1 rfl m0.len XO__45 WW) L_49 at_405 [.ref b21, .ref jvt1, .long nf1, .long nc1] [] 0 7 56 (lenOf B0 rfl)
                   obtain ⟨rfl, Nq46, K46, W46, lc46, gn46, Lr46, Bq46⟩ := hQ46
                   have N46 := Fr.app N45 Nq46
                   refine c8 st46 ?_
                   have XO__46 := XO__45.keep K46 (fun x f => c9 Z0 (gz_W45 x f))
                   have N0__46 := N0__45.keep K46 wl_W45
                   have N1__46 := N1__45.keep K46 wl_W45
                   have N2__46 := N2__45.keep K46 wl_W45
                   have N3__46 := N3__45.keep K46 wl_W45
                   have A21__46 := A21__45.keep K46
                   have Lr24__46 := Lr24__45.keep K46 (fun y hy z => dj45 y z hy)
                   have hR46 := hR45.trans (CHr.keep K46 ZW45 hC45)
                   have KP46 := KP45.trans K46 (fun x f => Or.inr (gz_W45 x f))
                   have sz46 := c9 sz45 K46.1
                   have hk46 := c9 hk45 K46.1
                   show c5 p e U m T46 408 L_49 []
                   refine f5 X46 f d at_408 rfl ?_
                   refine f6 X46 f d at_410 (z := (2 : Int32)) rfl ?_
                   refine j5 (pc := 411) (pc' := 436) X46 f d at_411 (flt (by decide : ¬ ((2 : Int32) < (2 : Int32)))).2.2.2 ?_
                   refine f5 X46 f d at_436 rfl ?_
                   refine f6 X46 f d at_438 (z := (3 : Int32)) rfl ?_
                   refine j5 (pc := 439) (pc' := 464) X46 f d at_439 (flt (by decide : ¬ ((3 : Int32) < (2 : Int32)))).2.2.2 ?_
                   refine j0 X46 f d at_464 rfl rfl ?_
                   refine j0 X46 f d at_466 rfl rfl ?_
                   obtain ⟨_, T47, Lc47, X47, hQ47, st47⟩ := o1 X46 f d r hZ8 rfl hown8 (P7 w) (P9 w) (P8 w) (Q0 w) (v9 w) (Q1 w) A21__46 (aU2 l Z a0 w [] b21 b23 W24 .null T46.heap n0 sz46 Lr24__46) L_49 at_468 [.ref b23] [] 0 0 0 (lenOf Q4 rfl)
                   obtain ⟨rfl, Nq47, e47⟩ := hQ47
                   have N47 := Fr.app N46 Nq47
                   refine c8 st47 ?_
                   have hk_ := hk46
                   have KP_ := KP46
                   have sz_ := sz46
                   have hR_ := hR46
                   rw [← e47] at Lr46 XO__46 A21__46 N0__46 N1__46 N2__46 N3__46 Bq46 hk_ KP_ sz_ hR_
                   have hl_ : ∀ cs ∈ ([ca0, ca1] : List (List Int32)), cs.length ≤ 2 := (x8 m0.len.2 (x8 m1.len.2 P6))
                   have Fz := (by obtain ⟨_, _, _, _, _, _, _, q, _⟩ := Lr46; exact q.2.1 : Fld Z T47.heap b21 "com/example/prizewell/prizewell/core/TicketRanges" "size" "I" (.int 2))
                   exact J471 _ _ _ _ _ (X47.more (by decide) (by decide)) N47 XO__46 A21__46 Fz N0__46 N1__46 N2__46 N3__46 (fun _ => z7 Lr46 0 (j6 rfl) (j6 rfl) hl_ (j6 rfl) (j6 rfl) (c9 (Z3 _ hl_) (j6 rfl)) rfl rfl (Or.inl ⟨j6 rfl, nf1, rfl, dd0⟩)) (fun _ => z7 Lr46 1 (j6 rfl) (j6 rfl) hl_ (j6 rfl) (j6 rfl) (c9 (Z3 _ hl_) (j6 rfl)) rfl rfl (Or.inr ⟨rfl, Bq46.bi⟩)) (fun q => absurd q (by decide)) (fun q => absurd q (by decide)) KP_ sz_ hk_ hR_
                 · skip
                   let L_50 : Array Slot := #[oJ p0,.second,oJ p1,.second,oI p2,oI p3,oI p4,oI 2,oI 1,oI 3,oR d2,oR d4,oR b5,oR b7,oI jvc,oI jvd,oI jve,oI jvf,oR jvs0,oR jvs1,oR jvs2,oR jvs3,oR jvt0,oR jvt1,oR jvt2,oR jvt3,oJ nf0,.second,oJ nc0,.second,oJ nc1,.second,oJ nc2,.second,oJ nc3,.second,oJ nf1,.second,oJ nf2,.second,oJ nf3,.second,oR b21,oR b23,oU]
                   show c5 p e U m T24 353 L_50 []
                   refine f5 X24 f d at_353 rfl ?_
                   refine m8 X24 f d at_355 ((if0 _ _).trans (tlt (by decide : (0 : Int32) < (3 : Int32))).2.2.2) ?_
                   refine f6 X24 f d at_358 (z := (0 : Int32)) rfl ?_
                   refine f5 X24 f d at_359 rfl ?_
                   refine m4 X24 f d at_361 (tlt (by decide : (0 : Int32) < (2 : Int32))).2.1 ?_
                   refine j0 X24 f d at_364 rfl rfl ?_
                   refine m5 (pc := 366) (pc' := 371) X24 f d at_366 ?_
                   refine j0 X24 f d at_371 rfl rfl ?_
                   refine o3 X24 f d at_373 rfl ?_
                   refine o3 X24 f d at_375 rfl ?_
                   obtain ⟨_, T48, Lc48, X48, hQ48, st48⟩ := j8 X24 f d r hZ8 rfl hown8 (x9 w) (y7 w) (r7 w) (z3 w) (G5 l Z a0 w []  b21 jvt0 jvs0 ta0 ka0 ca0 nf0 nc0 W22 .null w0 z0 pc0 kpc pcs fm al kal als T24.heap n0 sz24 Lr22__24 N0__24 m0 (fun y hy => c9 Z0 (gz_W22 y hy)) wl_W22 (Nat.le_of_lt (Nat.lt_of_le_of_lt wl_b21 A21__24.lt)) nn0 mm0 rfl  XO__24 WW) L_50 at_377 [.ref b21, .ref jvt0, .long nf0, .long nc0] [] 0 7 97 (lenOf B0 rfl)
                   obtain ⟨rfl, Nq48, K48, W48, lc48, gn48, Lr48, Bq48⟩ := hQ48
                   have N48 := Fr.app N24 Nq48
                   refine c8 st48 ?_
                   have XO__48 := XO__24.keep K48 (fun x f => c9 Z0 (gz_W22 x f))
                   have N0__48 := N0__24.keep K48 wl_W22
                   have N1__48 := N1__24.keep K48 wl_W22
                   have N2__48 := N2__24.keep K48 wl_W22
                   have N3__48 := N3__24.keep K48 wl_W22
                   have A21__48 := A21__24.keep K48
                   have Lr24__48 := Lr24.keep K48 (fun y hy z => dj24 y z hy)
                   have ZW24__48 : ∀ y ∈ W24, Safe Z l3 T8.vm T48.heap y := fun y hy => (ZW24 y hy).keep K48 ZW22__24 hC24
                   have hR48 := hR24.trans (CHr.keep K48 ZW22__24 hC24)
                   have hC48 := hR48.1
                   have KP48 := KP24.trans K48 (fun x f => Or.inr (gz_W22 x f))
                   have sz48 := c9 sz24 K48.1
                   have hk48 := c9 hk24 K48.1
                   have gz_W48 : ∀ y ∈ W48, h0.size ≤ y := fun y hy => (gn48 y hy).elim (gz_W22 y) (fun q => c9 KP24.1 q)
                   have wl_W48 : ∀ y ∈ W48, w0 ≤ y := fun y hy => (gn48 y hy).elim (wl_W22 y) (fun q => c9 (Nat.le_of_lt (Nat.lt_of_le_of_lt wl_b21 A21__24.lt)) q)
                   have ZW48 : ∀ y ∈ W48, Safe Z l3 T8.vm T48.heap y := fun y hy => Safe.keep K48 ZW22__24 hC24 ((gn48 y hy).elim (fun q => ZW22__24 y q) (fun q => Safe.new q))
                   have dj48 : ∀ y ∈ W24, y ∉ W48 := fun y hy z => (gn48 y z).elim (fun q => dj24 y hy q) (fun q => Nat.lt_irrefl _ (j3 (Lr24.lt y hy) q))
                   show c5 p e U m T48 380 L_50 []
                   refine f5 X48 f d at_380 rfl ?_
                   refine f6 X48 f d at_382 (z := (1 : Int32)) rfl ?_
                   refine m4 X48 f d at_383 (tlt (by decide : (1 : Int32) < (3 : Int32))).2.2.2 ?_
                   refine f6 X48 f d at_386 (z := (1 : Int32)) rfl ?_
                   refine f5 X48 f d at_387 rfl ?_
                   refine m4 X48 f d at_389 (tlt (by decide : (1 : Int32) < (2 : Int32))).2.1 ?_
                   refine j0 X48 f d at_392 rfl rfl ?_
                   refine m5 (pc := 394) (pc' := 399) X48 f d at_394 ?_
                   refine j0 X48 f d at_399 rfl rfl ?_
                   refine o3 X48 f d at_401 rfl ?_
                   refine o3 X48 f d at_403 rfl ?_
                   obtain ⟨_, T49, Lc49, X49, hQ49, st49⟩ := j8 X48 f d r hZ8 rfl hown8 (x9 w) (y7 w) (r7 w) (z3 w) (ak5 l Z a0 w [] ca0 nf0 b21 jvt1 jvs1 ta1 ka1 ca1 nf1 nc1 W48 (.ref lc48) w0 z0 pc0 kpc pcs fm al kal als T48.heap n0 sz48 Lr48 N1__48 m1 (fun y hy => c9 Z0 (gz_W48 y hy)) wl_W48 (Nat.le_of_lt (Nat.lt_of_le_of_lt wl_b21 A21__48.lt)) nn1 mm1 rfl m0.len XO__48 WW) L_50 at_405 [.ref b21, .ref jvt1, .long nf1, .long nc1] [] 0 7 56 (lenOf B0 rfl)
                   obtain ⟨rfl, Nq49, K49, W49, lc49, gn49, Lr49, Bq49⟩ := hQ49
                   have N49 := Fr.app N48 Nq49
                   refine c8 st49 ?_
                   have XO__49 := XO__48.keep K49 (fun x f => c9 Z0 (gz_W48 x f))
                   have N0__49 := N0__48.keep K49 wl_W48
                   have N1__49 := N1__48.keep K49 wl_W48
                   have N2__49 := N2__48.keep K49 wl_W48
                   have N3__49 := N3__48.keep K49 wl_W48
                   have A21__49 := A21__48.keep K49
                   have Lr24__49 := Lr24__48.keep K49 (fun y hy z => dj48 y z hy)
                   have ZW24__49 : ∀ y ∈ W24, Safe Z l3 T8.vm T49.heap y := fun y hy => (ZW24__48 y hy).keep K49 ZW48 hC48
                   have hR49 := hR48.trans (CHr.keep K49 ZW48 hC48)
                   have hC49 := hR49.1
                   have KP49 := KP48.trans K49 (fun x f => Or.inr (gz_W48 x f))
                   have sz49 := c9 sz48 K49.1
                   have hk49 := c9 hk48 K49.1
                   have gz_W49 : ∀ y ∈ W49, h0.size ≤ y := fun y hy => (gn49 y hy).elim (gz_W48 y) (fun q => c9 KP48.1 q)
                   have wl_W49 : ∀ y ∈ W49, w0 ≤ y := fun y hy => (gn49 y hy).elim (wl_W48 y) (fun q => c9 (Nat.le_of_lt (Nat.lt_of_le_of_lt wl_b21 A21__48.lt)) q)
                   have ZW49 : ∀ y ∈ W49, Safe Z l3 T8.vm T49.heap y := fun y hy => Safe.keep K49 ZW48 hC48 ((gn49 y hy).elim (fun q => ZW48 y q) (fun q => Safe.new q))
                   have dj49 : ∀ y ∈ W24, y ∉ W49 := fun y hy z => (gn49 y z).elim (fun q => dj48 y hy q) (fun q => Nat.lt_irrefl _ (j3 (Lr24__48.lt y hy) q))
                   show c5 p e U m T49 408 L_50 []
                   refine f5 X49 f d at_408 rfl ?_
                   refine f6 X49 f d at_410 (z := (2 : Int32)) rfl ?_
                   refine m4 X49 f d at_411 (tlt (by decide : (2 : Int32) < (3 : Int32))).2.2.2 ?_
                   refine f6 X49 f d at_414 (z := (2 : Int32)) rfl ?_
                   refine f5 X49 f d at_415 rfl ?_
                   refine j5 (pc := 417) (pc' := 425) X49 f d at_417 (flt (by decide : ¬ ((2 : Int32) < (2 : Int32)))).2.1 ?_
                   refine j0 X49 f d at_425 rfl rfl ?_
                   refine j0 X49 f d at_427 rfl rfl ?_
                   refine o3 X49 f d at_429 rfl ?_
                   refine o3 X49 f d at_431 rfl ?_
                   obtain ⟨_, T50, Lc50, X50, hQ50, st50⟩ := j8 X49 f d r hZ8 rfl hown8 (x9 w) (y7 w) (r7 w) (z3 w) (G5 l Z a0 w []  b23 jvt2 jvs2 ta2 ka2 ca2 nf2 nc2 W24 .null w0 z0 pc0 kpc pcs fm al kal als T49.heap n0 sz49 Lr24__49 N2__49 m2 (fun y hy => c9 Z0 (gz_W24 y hy)) wl_W24 (Nat.le_of_lt (Nat.lt_of_le_of_lt wl_b21 A21__49.lt)) nn2 mm2 rfl  XO__49 WW) L_50 at_433 [.ref b23, .ref jvt2, .long nf2, .long nc2] [] 0 7 97 (lenOf B0 rfl)
                   obtain ⟨rfl, Nq50, K50, W50, lc50, gn50, Lr50, Bq50⟩ := hQ50
                   have N50 := Fr.app N49 Nq50
                   refine c8 st50 ?_
                   have XO__50 := XO__49.keep K50 (fun x f => c9 Z0 (gz_W24 x f))
                   have N0__50 := N0__49.keep K50 wl_W24
                   have N1__50 := N1__49.keep K50 wl_W24
                   have N2__50 := N2__49.keep K50 wl_W24
                   have N3__50 := N3__49.keep K50 wl_W24
                   have A21__50 := A21__49.keep K50
                   have Lr49__50 := Lr49.keep K50 dj49
                   have ZW49__50 : ∀ y ∈ W49, Safe Z l3 T8.vm T50.heap y := fun y hy => (ZW49 y hy).keep K50 ZW24__49 hC49
                   have hR50 := hR49.trans (CHr.keep K50 ZW24__49 hC49)
                   have hC50 := hR50.1
                   have KP50 := KP49.trans K50 (fun x f => Or.inr (gz_W24 x f))
                   have sz50 := c9 sz49 K50.1
                   have hk50 := c9 hk49 K50.1
                   have dj50 : ∀ y ∈ W50, y ∉ W49 := fun y hy z => (gn50 y hy).elim (fun q => dj49 y q z) (fun q => Nat.lt_irrefl _ (j3 (Lr49.lt y z) q))
                   show c5 p e U m T50 436 L_50 []
                   refine f5 X50 f d at_436 rfl ?_
                   refine f6 X50 f d at_438 (z := (3 : Int32)) rfl ?_
                   refine j5 (pc := 439) (pc' := 464) X50 f d at_439 (flt (by decide : ¬ ((3 : Int32) < (3 : Int32)))).2.2.2 ?_
                   refine j0 X50 f d at_464 rfl rfl ?_
                   refine j0 X50 f d at_466 rfl rfl ?_
                   obtain ⟨_, T51, Lc51, X51, hQ51, st51⟩ := o1 X50 f d r hZ8 rfl hown8 (P7 w) (P9 w) (P8 w) (Q0 w) (v9 w) (Q1 w) A21__50 (cH2 l Z a0 w [] ca0 ca1 nf0 nf1 ca2 nf2 b21 b23 W49 W50 (.ref lc49) lc50 T50.heap n0 sz50 Lr49__50 Lr50 (fun y hy => c9 Z0 (gz_W49 y hy)) dj50 rfl m0.len m1.len m2.len) L_50 at_468 [.ref b23] [] 0 3 41 (lenOf Q4 rfl)
                   obtain ⟨rfl, Nq51, K51, W51, cb51, Lr51, hcb51⟩ := hQ51
                   have N51 := Fr.app N50 Nq51
                   refine c8 st51 ?_
                   have XO__51 := XO__50.keep K51 (fun x f => c9 Z0 (gz_W49 x f))
                   have N0__51 := N0__50.keep K51 wl_W49
                   have N1__51 := N1__50.keep K51 wl_W49
                   have N2__51 := N2__50.keep K51 wl_W49
                   have N3__51 := N3__50.keep K51 wl_W49
                   have A21__51 := A21__50.keep K51
                   have Bq50__51 := Bq50.keep K51 (fun y hy => G2 (c9 Z0 (gz_W49 y hy)) (Lr49.lt y hy))
                   have hR51 := hR50.trans (CHr.keep K51 ZW49__50 hC50)
                   have KP51 := KP50.trans K51 (fun x f => Or.inr (gz_W49 x f))
                   have sz51 := c9 sz50 K51.1
                   have hk51 := c9 hk50 K51.1
                   have hl_ : ∀ cs ∈ ([ca0, ca1, ca2] : List (List Int32)), cs.length ≤ 2 := (x8 m0.len.2 (x8 m1.len.2 (x8 m2.len.2 P6)))
                   have Fz := (by obtain ⟨_, _, _, _, _, _, _, q, _⟩ := Lr51; exact q.2.1 : Fld Z T51.heap b21 "com/example/prizewell/prizewell/core/TicketRanges" "size" "I" (.int 3))
                   exact J471 _ _ _ _ _ (X51.more (by decide) (by decide)) N51 XO__51 A21__51 Fz N0__51 N1__51 N2__51 N3__51 (fun _ => z7 Lr51 0 (j6 rfl) (j6 rfl) hl_ (j6 rfl) (j6 rfl) hcb51 rfl rfl (Or.inl ⟨j6 rfl, nf1, rfl, dd0⟩)) (fun _ => z7 Lr51 1 (j6 rfl) (j6 rfl) hl_ (j6 rfl) (j6 rfl) hcb51 rfl rfl (Or.inl ⟨j6 rfl, nf2, rfl, dd1⟩)) (fun _ => z7 Lr51 2 (j6 rfl) (j6 rfl) hl_ (j6 rfl) (j6 rfl) hcb51 rfl rfl (Or.inr ⟨rfl, Bq50__51.bi⟩)) (fun q => absurd q (by decide)) KP51 sz51 hk51 hR51
                 · skip
                   let L_51 : Array Slot := #[oJ p0,.second,oJ p1,.second,oI p2,oI p3,oI p4,oI 2,oI 2,oI 4,oR d2,oR d4,oR b5,oR b7,oI jvc,oI jvd,oI jve,oI jvf,oR jvs0,oR jvs1,oR jvs2,oR jvs3,oR jvt0,oR jvt1,oR jvt2,oR jvt3,oJ nf0,.second,oJ nc0,.second,oJ nc1,.second,oJ nc2,.second,oJ nc3,.second,oJ nf1,.second,oJ nf2,.second,oJ nf3,.second,oR b21,oR b23,oU]
                   show c5 p e U m T24 353 L_51 []
                   refine f5 X24 f d at_353 rfl ?_
                   refine m8 X24 f d at_355 ((if0 _ _).trans (tlt (by decide : (0 : Int32) < (4 : Int32))).2.2.2) ?_
                   refine f6 X24 f d at_358 (z := (0 : Int32)) rfl ?_
                   refine f5 X24 f d at_359 rfl ?_
                   refine m4 X24 f d at_361 (tlt (by decide : (0 : Int32) < (2 : Int32))).2.1 ?_
                   refine j0 X24 f d at_364 rfl rfl ?_
                   refine m5 (pc := 366) (pc' := 371) X24 f d at_366 ?_
                   refine j0 X24 f d at_371 rfl rfl ?_
                   refine o3 X24 f d at_373 rfl ?_
                   refine o3 X24 f d at_375 rfl ?_
                   obtain ⟨_, T52, Lc52, X52, hQ52, st52⟩ := j8 X24 f d r hZ8 rfl hown8 (x9 w) (y7 w) (r7 w) (z3 w) (G5 l Z a0 w []  b21 jvt0 jvs0 ta0 ka0 ca0 nf0 nc0 W22 .null w0 z0 pc0 kpc pcs fm al kal als T24.heap n0 sz24 Lr22__24 N0__24 m0 (fun y hy => c9 Z0 (gz_W22 y hy)) wl_W22 (Nat.le_of_lt (Nat.lt_of_le_of_lt wl_b21 A21__24.lt)) nn0 mm0 rfl  XO__24 WW) L_51 at_377 [.ref b21, .ref jvt0, .long nf0, .long nc0] [] 0 7 97 (lenOf B0 rfl)
                   obtain ⟨rfl, Nq52, K52, W52, lc52, gn52, Lr52, Bq52⟩ := hQ52
                   have N52 := Fr.app N24 Nq52
                   refine c8 st52 ?_
                   have XO__52 := XO__24.keep K52 (fun x f => c9 Z0 (gz_W22 x f))
                   have N0__52 := N0__24.keep K52 wl_W22
                   have N1__52 := N1__24.keep K52 wl_W22
                   have N2__52 := N2__24.keep K52 wl_W22
                   have N3__52 := N3__24.keep K52 wl_W22
                   have A21__52 := A21__24.keep K52
                   have Lr24__52 := Lr24.keep K52 (fun y hy z => dj24 y z hy)
                   have ZW24__52 : ∀ y ∈ W24, Safe Z l3 T8.vm T52.heap y := fun y hy => (ZW24 y hy).keep K52 ZW22__24 hC24
                   have hR52 := hR24.trans (CHr.keep K52 ZW22__24 hC24)
                   have hC52 := hR52.1
                   have KP52 := KP24.trans K52 (fun x f => Or.inr (gz_W22 x f))
                   have sz52 := c9 sz24 K52.1
                   have hk52 := c9 hk24 K52.1
                   have gz_W52 : ∀ y ∈ W52, h0.size ≤ y := fun y hy => (gn52 y hy).elim (gz_W22 y) (fun q => c9 KP24.1 q)
                   have wl_W52 : ∀ y ∈ W52, w0 ≤ y := fun y hy => (gn52 y hy).elim (wl_W22 y) (fun q => c9 (Nat.le_of_lt (Nat.lt_of_le_of_lt wl_b21 A21__24.lt)) q)
                   have ZW52 : ∀ y ∈ W52, Safe Z l3 T8.vm T52.heap y := fun y hy => Safe.keep K52 ZW22__24 hC24 ((gn52 y hy).elim (fun q => ZW22__24 y q) (fun q => Safe.new q))
                   have dj52 : ∀ y ∈ W24, y ∉ W52 := fun y hy z => (gn52 y z).elim (fun q => dj24 y hy q) (fun q => Nat.lt_irrefl _ (j3 (Lr24.lt y hy) q))
                   show c5 p e U m T52 380 L_51 []
                   refine f5 X52 f d at_380 rfl ?_
                   refine f6 X52 f d at_382 (z := (1 : Int32)) rfl ?_
                   refine m4 X52 f d at_383 (tlt (by decide : (1 : Int32) < (4 : Int32))).2.2.2 ?_
                   refine f6 X52 f d at_386 (z := (1 : Int32)) rfl ?_
                   refine f5 X52 f d at_387 rfl ?_
                   refine m4 X52 f d at_389 (tlt (by decide : (1 : Int32) < (2 : Int32))).2.1 ?_
                   refine j0 X52 f d at_392 rfl rfl ?_
                   refine m5 (pc := 394) (pc' := 399) X52 f d at_394 ?_
                   refine j0 X52 f d at_399 rfl rfl ?_
                   refine o3 X52 f d at_401 rfl ?_
                   refine o3 X52 f d at_403 rfl ?_
                   obtain ⟨_, T53, Lc53, X53, hQ53, st53⟩ := j8 X52 f d r hZ8 rfl hown8 (x9 w) (y7 w) (r7 w) (z3 w) (ak5 l Z a0 w [] ca0 nf0 b21 jvt1 jvs1 ta1 ka1 ca1 nf1 nc1 W52 (.ref lc52) w0 z0 pc0 kpc pcs fm al kal als T52.heap n0 sz52 Lr52 N1__52 m1 (fun y hy => c9 Z0 (gz_W52 y hy)) wl_W52 (Nat.le_of_lt (Nat.lt_of_le_of_lt wl_b21 A21__52.lt)) nn1 mm1 rfl m0.len XO__52 WW) L_51 at_405 [.ref b21, .ref jvt1, .long nf1, .long nc1] [] 0 7 56 (lenOf B0 rfl)
                   obtain ⟨rfl, Nq53, K53, W53, lc53, gn53, Lr53, Bq53⟩ := hQ53
                   have N53 := Fr.app N52 Nq53
                   refine c8 st53 ?_
                   have XO__53 := XO__52.keep K53 (fun x f => c9 Z0 (gz_W52 x f))
                   have N0__53 := N0__52.keep K53 wl_W52
                   have N1__53 := N1__52.keep K53 wl_W52
                   have N2__53 := N2__52.keep K53 wl_W52
                   have N3__53 := N3__52.keep K53 wl_W52
                   have A21__53 := A21__52.keep K53
                   have Lr24__53 := Lr24__52.keep K53 (fun y hy z => dj52 y z hy)
                   have ZW24__53 : ∀ y ∈ W24, Safe Z l3 T8.vm T53.heap y := fun y hy => (ZW24__52 y hy).keep K53 ZW52 hC52
                   have hR53 := hR52.trans (CHr.keep K53 ZW52 hC52)
                   have hC53 := hR53.1
                   have KP53 := KP52.trans K53 (fun x f => Or.inr (gz_W52 x f))
                   have sz53 := c9 sz52 K53.1
                   have hk53 := c9 hk52 K53.1
                   have gz_W53 : ∀ y ∈ W53, h0.size ≤ y := fun y hy => (gn53 y hy).elim (gz_W52 y) (fun q => c9 KP52.1 q)
                   have wl_W53 : ∀ y ∈ W53, w0 ≤ y := fun y hy => (gn53 y hy).elim (wl_W52 y) (fun q => c9 (Nat.le_of_lt (Nat.lt_of_le_of_lt wl_b21 A21__52.lt)) q)
                   have ZW53 : ∀ y ∈ W53, Safe Z l3 T8.vm T53.heap y := fun y hy => Safe.keep K53 ZW52 hC52 ((gn53 y hy).elim (fun q => ZW52 y q) (fun q => Safe.new q))
                   have dj53 : ∀ y ∈ W24, y ∉ W53 := fun y hy z => (gn53 y z).elim (fun q => dj52 y hy q) (fun q => Nat.lt_irrefl _ (j3 (Lr24__52.lt y hy) q))
                   show c5 p e U m T53 408 L_51 []
                   refine f5 X53 f d at_408 rfl ?_
                   refine f6 X53 f d at_410 (z := (2 : Int32)) rfl ?_
                   refine m4 X53 f d at_411 (tlt (by decide : (2 : Int32) < (4 : Int32))).2.2.2 ?_
                   refine f6 X53 f d at_414 (z := (2 : Int32)) rfl ?_
                   refine f5 X53 f d at_415 rfl ?_
                   refine j5 (pc := 417) (pc' := 425) X53 f d at_417 (flt (by decide : ¬ ((2 : Int32) < (2 : Int32)))).2.1 ?_
                   refine j0 X53 f d at_425 rfl rfl ?_
                   refine j0 X53 f d at_427 rfl rfl ?_
                   refine o3 X53 f d at_429 rfl ?_
                   refine o3 X53 f d at_431 rfl ?_
                   obtain ⟨_, T54, Lc54, X54, hQ54, st54⟩ := j8 X53 f d r hZ8 rfl hown8 (x9 w) (y7 w) (r7 w) (z3 w) (G5 l Z a0 w []  b23 jvt2 jvs2 ta2 ka2 ca2 nf2 nc2 W24 .null w0 z0 pc0 kpc pcs fm al kal als T53.heap n0 sz53 Lr24__53 N2__53 m2 (fun y hy => c9 Z0 (gz_W24 y hy)) wl_W24 (Nat.le_of_lt (Nat.lt_of_le_of_lt wl_b21 A21__53.lt)) nn2 mm2 rfl  XO__53 WW) L_51 at_433 [.ref b23, .ref jvt2, .long nf2, .long nc2] [] 0 7 97 (lenOf B0 rfl)
                   obtain ⟨rfl, Nq54, K54, W54, lc54, gn54, Lr54, Bq54⟩ := hQ54
                   have N54 := Fr.app N53 Nq54
                   refine c8 st54 ?_
                   have XO__54 := XO__53.keep K54 (fun x f => c9 Z0 (gz_W24 x f))
                   have N0__54 := N0__53.keep K54 wl_W24
                   have N1__54 := N1__53.keep K54 wl_W24
                   have N2__54 := N2__53.keep K54 wl_W24
                   have N3__54 := N3__53.keep K54 wl_W24
                   have A21__54 := A21__53.keep K54
                   have Lr53__54 := Lr53.keep K54 dj53
                   have ZW53__54 : ∀ y ∈ W53, Safe Z l3 T8.vm T54.heap y := fun y hy => (ZW53 y hy).keep K54 ZW24__53 hC53
                   have hR54 := hR53.trans (CHr.keep K54 ZW24__53 hC53)
                   have hC54 := hR54.1
                   have KP54 := KP53.trans K54 (fun x f => Or.inr (gz_W24 x f))
                   have sz54 := c9 sz53 K54.1
                   have hk54 := c9 hk53 K54.1
                   have gz_W54 : ∀ y ∈ W54, h0.size ≤ y := fun y hy => (gn54 y hy).elim (gz_W24 y) (fun q => c9 KP53.1 q)
                   have wl_W54 : ∀ y ∈ W54, w0 ≤ y := fun y hy => (gn54 y hy).elim (wl_W24 y) (fun q => c9 (Nat.le_of_lt (Nat.lt_of_le_of_lt wl_b21 A21__53.lt)) q)
                   have ZW54 : ∀ y ∈ W54, Safe Z l3 T8.vm T54.heap y := fun y hy => Safe.keep K54 ZW24__53 hC53 ((gn54 y hy).elim (fun q => ZW24__53 y q) (fun q => Safe.new q))
                   have dj54 : ∀ y ∈ W54, y ∉ W53 := fun y hy z => (gn54 y hy).elim (fun q => dj53 y q z) (fun q => Nat.lt_irrefl _ (j3 (Lr53.lt y z) q))
                   show c5 p e U m T54 436 L_51 []
                   refine f5 X54 f d at_436 rfl ?_
                   refine f6 X54 f d at_438 (z := (3 : Int32)) rfl ?_
                   refine m4 X54 f d at_439 (tlt (by decide : (3 : Int32) < (4 : Int32))).2.2.2 ?_
                   refine f6 X54 f d at_442 (z := (3 : Int32)) rfl ?_
                   refine f5 X54 f d at_443 rfl ?_
                   refine j5 (pc := 445) (pc' := 453) X54 f d at_445 (flt (by decide : ¬ ((3 : Int32) < (2 : Int32)))).2.1 ?_
                   refine j0 X54 f d at_453 rfl rfl ?_
                   refine j0 X54 f d at_455 rfl rfl ?_
                   refine o3 X54 f d at_457 rfl ?_
                   refine o3 X54 f d at_459 rfl ?_
                   obtain ⟨_, T55, Lc55, X55, hQ55, st55⟩ := j8 X54 f d r hZ8 rfl hown8 (x9 w) (y7 w) (r7 w) (z3 w) (ak5 l Z a0 w [] ca2 nf2 b23 jvt3 jvs3 ta3 ka3 ca3 nf3 nc3 W54 (.ref lc54) w0 z0 pc0 kpc pcs fm al kal als T54.heap n0 sz54 Lr54 N3__54 m3 (fun y hy => c9 Z0 (gz_W54 y hy)) wl_W54 (Nat.le_of_lt (Nat.lt_of_le_of_lt wl_b21 A21__54.lt)) nn3 mm3 rfl m2.len XO__54 WW) L_51 at_461 [.ref b23, .ref jvt3, .long nf3, .long nc3] [] 0 7 56 (lenOf B0 rfl)
                   obtain ⟨rfl, Nq55, K55, W55, lc55, gn55, Lr55, Bq55⟩ := hQ55
                   have N55 := Fr.app N54 Nq55
                   refine c8 st55 ?_
                   have XO__55 := XO__54.keep K55 (fun x f => c9 Z0 (gz_W54 x f))
                   have N0__55 := N0__54.keep K55 wl_W54
                   have N1__55 := N1__54.keep K55 wl_W54
                   have N2__55 := N2__54.keep K55 wl_W54
                   have N3__55 := N3__54.keep K55 wl_W54
                   have A21__55 := A21__54.keep K55
                   have Lr53__55 := Lr53__54.keep K55 dj54
                   have ZW53__55 : ∀ y ∈ W53, Safe Z l3 T8.vm T55.heap y := fun y hy => (ZW53__54 y hy).keep K55 ZW54 hC54
                   have hR55 := hR54.trans (CHr.keep K55 ZW54 hC54)
                   have hC55 := hR55.1
                   have KP55 := KP54.trans K55 (fun x f => Or.inr (gz_W54 x f))
                   have sz55 := c9 sz54 K55.1
                   have hk55 := c9 hk54 K55.1
                   have dj55 : ∀ y ∈ W55, y ∉ W53 := fun y hy z => (gn55 y hy).elim (fun q => dj54 y q z) (fun q => Nat.lt_irrefl _ (j3 (Lr53__54.lt y z) q))
                   show c5 p e U m T55 464 L_51 []
                   refine j0 X55 f d at_464 rfl rfl ?_
                   refine j0 X55 f d at_466 rfl rfl ?_
                   obtain ⟨_, T56, Lc56, X56, hQ56, st56⟩ := o1 X55 f d r hZ8 rfl hown8 (P7 w) (P9 w) (P8 w) (Q0 w) (v9 w) (Q1 w) A21__55 (cH3 l Z a0 w [] ca0 ca1 nf0 nf1 ca2 ca3 nf2 nf3 b21 b23 W53 W55 (.ref lc53) lc55 T55.heap n0 sz55 Lr53__55 Lr55 (fun y hy => c9 Z0 (gz_W53 y hy)) dj55 rfl m0.len m1.len m2.len m3.len) L_51 at_468 [.ref b23] [] 0 3 41 (lenOf Q4 rfl)
                   obtain ⟨rfl, Nq56, K56, W56, cb56, Lr56, hcb56⟩ := hQ56
                   have N56 := Fr.app N55 Nq56
                   refine c8 st56 ?_
                   have XO__56 := XO__55.keep K56 (fun x f => c9 Z0 (gz_W53 x f))
                   have N0__56 := N0__55.keep K56 wl_W53
                   have N1__56 := N1__55.keep K56 wl_W53
                   have N2__56 := N2__55.keep K56 wl_W53
                   have N3__56 := N3__55.keep K56 wl_W53
                   have A21__56 := A21__55.keep K56
                   have Bq55__56 := Bq55.keep K56 (fun y hy => G2 (c9 Z0 (gz_W53 y hy)) (Lr53__54.lt y hy))
                   have hR56 := hR55.trans (CHr.keep K56 ZW53__55 hC55)
                   have KP56 := KP55.trans K56 (fun x f => Or.inr (gz_W53 x f))
                   have sz56 := c9 sz55 K56.1
                   have hk56 := c9 hk55 K56.1
                   have hl_ : ∀ cs ∈ ([ca0, ca1, ca2, ca3] : List (List Int32)), cs.length ≤ 2 := (x8 m0.len.2 (x8 m1.len.2 (x8 m2.len.2 (x8 m3.len.2 P6))))
                   have Fz := (by obtain ⟨_, _, _, _, _, _, _, q, _⟩ := Lr56; exact q.2.1 : Fld Z T56.heap b21 "com/example/prizewell/prizewell/core/TicketRanges" "size" "I" (.int 4))
                   exact J471 _ _ _ _ _ (X56.more (by decide) (by decide)) N56 XO__56 A21__56 Fz N0__56 N1__56 N2__56 N3__56 (fun _ => z7 Lr56 0 (j6 rfl) (j6 rfl) hl_ (j6 rfl) (j6 rfl) hcb56 rfl rfl (Or.inl ⟨j6 rfl, nf1, rfl, dd0⟩)) (fun _ => z7 Lr56 1 (j6 rfl) (j6 rfl) hl_ (j6 rfl) (j6 rfl) hcb56 rfl rfl (Or.inl ⟨j6 rfl, nf2, rfl, dd1⟩)) (fun _ => z7 Lr56 2 (j6 rfl) (j6 rfl) hl_ (j6 rfl) (j6 rfl) hcb56 rfl rfl (Or.inl ⟨j6 rfl, nf3, rfl, dd2⟩)) (fun _ => z7 Lr56 3 (j6 rfl) (j6 rfl) hl_ (j6 rfl) (j6 rfl) hcb56 rfl rfl (Or.inr ⟨rfl, Bq55__56.bi⟩)) KP56 sz56 hk56 hR56
              show c5 p e U m T8 248 L_21 []
              refine f5 X8 f d at_248 rfl ?_
              by_cases hc250 : jvf = (0 : Int32)
              · refine o2 (pc := 250) (pc' := 258) X8 f d at_250 ((if0 _ _).trans (teq hc250).1) ?_
                refine j0 X8 f d at_258 rfl rfl ?_
                exact J260 _ (by rw [if_pos hc250])
              · refine m8 X8 f d at_250 ((if0 _ _).trans (feq hc250).1) ?_
                refine j0 X8 f d at_253 rfl rfl ?_
                refine m5 (pc := 255) (pc' := 260) X8 f d at_255 ?_
                exact J260 _ (by rw [if_neg hc250])
             show c5 p e U m T8 234 L_20 []
             refine f5 X8 f d at_234 rfl ?_
             by_cases hc236 : jve = (0 : Int32)
             · refine o2 (pc := 236) (pc' := 244) X8 f d at_236 ((if0 _ _).trans (teq hc236).1) ?_
               refine j0 X8 f d at_244 rfl rfl ?_
               exact J246 _ (by rw [if_pos hc236])
             · refine m8 X8 f d at_236 ((if0 _ _).trans (feq hc236).1) ?_
               refine j0 X8 f d at_239 rfl rfl ?_
               refine m5 (pc := 241) (pc' := 246) X8 f d at_241 ?_
               exact J246 _ (by rw [if_neg hc236])
            show c5 p e U m T8 220 L_19 []
            refine f5 X8 f d at_220 rfl ?_
            by_cases hc222 : jvd = (0 : Int32)
            · refine o2 (pc := 222) (pc' := 230) X8 f d at_222 ((if0 _ _).trans (teq hc222).1) ?_
              refine j0 X8 f d at_230 rfl rfl ?_
              exact J232 _ (by rw [if_pos hc222])
            · refine m8 X8 f d at_222 ((if0 _ _).trans (feq hc222).1) ?_
              refine j0 X8 f d at_225 rfl rfl ?_
              refine m5 (pc := 227) (pc' := 232) X8 f d at_227 ?_
              exact J232 _ (by rw [if_neg hc222])
           show c5 p e U m T8 206 L_18 []
           refine f5 X8 f d at_206 rfl ?_
           by_cases hc208 : jvc = (0 : Int32)
           · refine o2 (pc := 208) (pc' := 216) X8 f d at_208 ((if0 _ _).trans (teq hc208).1) ?_
             refine j0 X8 f d at_216 rfl rfl ?_
             exact J218 _ (by rw [if_pos hc208])
           · refine m8 X8 f d at_208 ((if0 _ _).trans (feq hc208).1) ?_
             refine j0 X8 f d at_211 rfl rfl ?_
             refine m5 (pc := 213) (pc' := 218) X8 f d at_213 ?_
             exact J218 _ (by rw [if_neg hc208])
          show c5 p e U m T8 192 L_17 []
          refine f5 X8 f d at_192 rfl ?_
          by_cases hc194 : jvf = (0 : Int32)
          · refine o2 (pc := 194) (pc' := 202) X8 f d at_194 ((if0 _ _).trans (teq hc194).1) ?_
            refine j0 X8 f d at_202 rfl rfl ?_
            exact J204 _ (by rw [if_pos hc194])
          · refine m8 X8 f d at_194 ((if0 _ _).trans (feq hc194).1) ?_
            refine j0 X8 f d at_197 rfl rfl ?_
            refine m5 (pc := 199) (pc' := 204) X8 f d at_199 ?_
            exact J204 _ (by rw [if_neg hc194])
         show c5 p e U m T8 178 L_16 []
         refine f5 X8 f d at_178 rfl ?_
         by_cases hc180 : jve = (0 : Int32)
         · refine o2 (pc := 180) (pc' := 188) X8 f d at_180 ((if0 _ _).trans (teq hc180).1) ?_
           refine j0 X8 f d at_188 rfl rfl ?_
           exact J190 _ (by rw [if_pos hc180])
         · refine m8 X8 f d at_180 ((if0 _ _).trans (feq hc180).1) ?_
           refine j0 X8 f d at_183 rfl rfl ?_
           refine m5 (pc := 185) (pc' := 190) X8 f d at_185 ?_
           exact J190 _ (by rw [if_neg hc180])
        show c5 p e U m T8 164 L_15 []
        refine f5 X8 f d at_164 rfl ?_
        by_cases hc166 : jvd = (0 : Int32)
        · refine o2 (pc := 166) (pc' := 174) X8 f d at_166 ((if0 _ _).trans (teq hc166).1) ?_
          refine j0 X8 f d at_174 rfl rfl ?_
          exact J176 _ (by rw [if_pos hc166])
        · refine m8 X8 f d at_166 ((if0 _ _).trans (feq hc166).1) ?_
          refine j0 X8 f d at_169 rfl rfl ?_
          refine m5 (pc := 171) (pc' := 176) X8 f d at_171 ?_
          exact J176 _ (by rw [if_neg hc166])
       show c5 p e U m T8 150 L_14 []
       refine f5 X8 f d at_150 rfl ?_
       by_cases hc152 : jvc = (0 : Int32)
       · refine o2 (pc := 152) (pc' := 160) X8 f d at_152 ((if0 _ _).trans (teq hc152).1) ?_
         refine j0 X8 f d at_160 rfl rfl ?_
         exact J162 _ (by rw [if_pos hc152])
       · refine m8 X8 f d at_152 ((if0 _ _).trans (feq hc152).1) ?_
         refine j0 X8 f d at_155 rfl rfl ?_
         refine m5 (pc := 157) (pc' := 162) X8 f d at_157 ?_
         exact J162 _ (by rw [if_neg hc152])
      show c5 p e U m T8 134 L_13 []
      refine f5 X8 f d at_134 rfl ?_
      refine M2 X8 f d at_136 (z := (128 : Int32)) rfl ?_
      refine H1 X8 f d at_139 ?_
      show c5 p e U m T8 140 L_13 [(.int (p2 &&& (128 : Int32)))]
      by_cases hc140 : (p2 &&& (128 : Int32)) = (0 : Int32)
      · refine o2 (pc := 140) (pc' := 147) X8 f d at_140 ((if0 _ _).trans (teq hc140).1) ?_
        refine f6 X8 f d at_147 (z := (0 : Int32)) rfl ?_
        exact J148 _
      · refine m8 X8 f d at_140 ((if0 _ _).trans (feq hc140).1) ?_
        refine f6 X8 f d at_143 (z := (1 : Int32)) rfl ?_
        refine m5 (pc := 144) (pc' := 148) X8 f d at_144 ?_
        exact J148 _
     show c5 p e U m T8 119 L_12 []
     refine f5 X8 f d at_119 rfl ?_
     refine t9 X8 f d at_121 (z := (64 : Int32)) rfl ?_
     refine H1 X8 f d at_123 ?_
     show c5 p e U m T8 124 L_12 [(.int (p2 &&& (64 : Int32)))]
     by_cases hc124 : (p2 &&& (64 : Int32)) = (0 : Int32)
     · refine o2 (pc := 124) (pc' := 131) X8 f d at_124 ((if0 _ _).trans (teq hc124).1) ?_
       refine f6 X8 f d at_131 (z := (0 : Int32)) rfl ?_
       exact J132 _
     · refine m8 X8 f d at_124 ((if0 _ _).trans (feq hc124).1) ?_
       refine f6 X8 f d at_127 (z := (1 : Int32)) rfl ?_
       refine m5 (pc := 128) (pc' := 132) X8 f d at_128 ?_
       exact J132 _
    show c5 p e U m T8 104 L_11 []
    refine f5 X8 f d at_104 rfl ?_
    refine t9 X8 f d at_106 (z := (32 : Int32)) rfl ?_
    refine H1 X8 f d at_108 ?_
    show c5 p e U m T8 109 L_11 [(.int (p2 &&& (32 : Int32)))]
    by_cases hc109 : (p2 &&& (32 : Int32)) = (0 : Int32)
    · refine o2 (pc := 109) (pc' := 116) X8 f d at_109 ((if0 _ _).trans (teq hc109).1) ?_
      refine f6 X8 f d at_116 (z := (0 : Int32)) rfl ?_
      exact J117 _
    · refine m8 X8 f d at_109 ((if0 _ _).trans (feq hc109).1) ?_
      refine f6 X8 f d at_112 (z := (1 : Int32)) rfl ?_
      refine m5 (pc := 113) (pc' := 117) X8 f d at_113 ?_
      exact J117 _
   show c5 p e U m T8 89 L_10 []
   refine f5 X8 f d at_89 rfl ?_
   refine t9 X8 f d at_91 (z := (16 : Int32)) rfl ?_
   refine H1 X8 f d at_93 ?_
   show c5 p e U m T8 94 L_10 [(.int (p2 &&& (16 : Int32)))]
   by_cases hc94 : (p2 &&& (16 : Int32)) = (0 : Int32)
   · refine o2 (pc := 94) (pc' := 101) X8 f d at_94 ((if0 _ _).trans (teq hc94).1) ?_
     refine f6 X8 f d at_101 (z := (0 : Int32)) rfl ?_
     exact J102 _
   · refine m8 X8 f d at_94 ((if0 _ _).trans (feq hc94).1) ?_
     refine f6 X8 f d at_97 (z := (1 : Int32)) rfl ?_
     refine m5 (pc := 98) (pc' := 102) X8 f d at_98 ?_
     exact J102 _
  show c5 p e U m T2 46 L_7 []
  refine f5 X2 f d at_46 rfl ?_
  refine f5 X2 f d at_48 rfl ?_
  refine M2 X2 f d at_50 (z := (512 : Int32)) rfl ?_
  refine H1 X2 f d at_53 ?_
  show c5 p e U m T2 54 L_7 [(.int (p2 &&& (512 : Int32))), .int p4]
  by_cases hc54 : (p2 &&& (512 : Int32)) = (0 : Int32)
  · refine o2 (pc := 54) (pc' := 61) X2 f d at_54 ((if0 _ _).trans (teq hc54).1) ?_
    refine f6 X2 f d at_61 (z := (0 : Int32)) rfl ?_
    exact J62 _
  · refine m8 X2 f d at_54 ((if0 _ _).trans (feq hc54).1) ?_
    refine f6 X2 f d at_57 (z := (1 : Int32)) rfl ?_
    refine m5 (pc := 58) (pc' := 62) X2 f d at_58 ?_
    exact J62 _
 show c5 p e U m s₁ 25 L_6 []
 refine f5 X0 f d at_25 rfl ?_
 refine f5 X0 f d at_27 rfl ?_
 refine M2 X0 f d at_29 (z := (256 : Int32)) rfl ?_
 refine H1 X0 f d at_32 ?_
 show c5 p e U m s₁ 33 L_6 [(.int (p2 &&& (256 : Int32))), .int p3]
 by_cases hc33 : (p2 &&& (256 : Int32)) = (0 : Int32)
 · refine o2 (pc := 33) (pc' := 40) X0 f d at_33 ((if0 _ _).trans (teq hc33).1) ?_
   refine f6 X0 f d at_40 (z := (0 : Int32)) rfl ?_
   exact J41 _
 · refine m8 X0 f d at_33 ((if0 _ _).trans (feq hc33).1) ?_
   refine f6 X0 f d at_36 (z := (1 : Int32)) rfl ?_
   refine m5 (pc := 37) (pc' := 41) X0 f d at_37 ?_
   exact J41 _
theorem ch8 {args : Array Value} {first s : State} {o : Option Outcome} {idx : List Nat} {a b : Term} {x y : Int32} (ha : a.eval args first o idx s = some (.int x)) (hb : b.eval args first o idx s = some (.int y)) : (Jvm.Cond.eq a b).value args first o s idx = some (decide (x = y)) := by simp [Cond.value, ha, hb]
theorem H0 {args : Array Value} {first s : State} {o : Option Outcome} {idx : List Nat} {t : Term} {n : Int32} (h : (Jvm.Cond.eq t (.int n)).value args first o s idx = some true) : t.eval args first o idx s = some (.int n) := by
 simp only [Cond.value, Term.eval] at h
 cases ht : t.eval args first o idx s with
 | none => simp [ht] at h
 | some x => cases x <;> simp [ht] at h ⊢ <;> exact h
theorem ao9 {args : Array Value} {s : State} {t : Term} {a : Addr} {cl : Cell} {ty : FieldType} {z : Int32} (h : (Term.length t).eval args s none [] s = some (.int z)) (ht : t.eval args s none [] s = some (.ref a)) (A : Arr s s.heap a cl ty) : cl.slots.size < 2 ^ 31 ∧ cl.slots.size.toInt32 = z := by
 have q := A.fin (Vm.Alike.refl _)
 simp [Term.eval, ht, q] at h
 exact ⟨h.1, h.2⟩
theorem aY8 {c : Cell} : ∀ (l : List Value) (i : Nat), (∀ j v, l[j]? = some v → c.slots[i + j]? = some v) → HasL c i l
 | [], _, _ => trivial
 | x :: r, i, h => ⟨h 0 x rfl, aY8 r (i + 1) fun j v q => by
  have := h (j + 1) v (by simpa using q)
  rwa [show i + 1 + j = i + (j + 1) by omega]⟩
theorem aY9 {Z : State} {a : Addr} {cl : Cell} {ty : FieldType} {z : Int32} {dv : Value} (hf : Fit Z) (A : Arr Z Z.heap a cl ty) (L : cl.slots.size < 2 ^ 31 ∧ cl.slots.size.toInt32 = z) (hz : ¬ z < 0) : Arv Z Z.heap a cl.cls ty z cl.slots.toList dv :=
 Arv.start hf A L.1 L.2 hz (by rw [← L.2]; simp only [Int32.toNatClampNeg, len_toInt L.1]; simp) (aY8 _ 0 (fun j v q => by rw [Nat.zero_add]; simpa using q))
theorem B1 {cl : Cell} {k : Nat} {v dv : Value} (h : cl.slots[k]? = some v) : cl.slots.toList.getD k dv = v := by simp [List.getD_eq_getElem?_getD, h]
theorem be5 {args : Array Value} {first s : State} {o : Option Outcome} {idx : List Nat} {c d : Jvm.Cond} (h : (Jvm.Cond.or c d).value args first o s idx = some true) (q : c.value args first o s idx = some false) : d.value args first o s idx = some true := by
 simpa [Cond.value, q] using h
/-- the elements of a range all hold x -/
theorem aD1 {args : Array Value} {Z : State} {t : Term} {a : Addr} {cl : Cell} {ty : FieldType} {lo hi x : Int32} (ht : ∀ idx, t.eval args Z none idx Z = some (.ref a)) (A : Arr Z Z.heap a cl ty)
 (h : (Jvm.Cond.all t (.or (.lt (.index 0) (.int lo)) (.or (.le (.int hi) (.index 0)) (.eq (.elem t (.index 0)) (.int x))))).value args Z none Z [] = some true) (i : Nat) (h31 : i < 2 ^ 31) (hi2 : i < cl.slots.size) (l1 : lo.toInt ≤ i) (l2 : i < hi.toInt) : cl.slots[i]? = some (.int x) := by
 have q := Cond.all_elim (ht []) (A.fin (Vm.Alike.refl _)) h i hi2
 have e0 : (Term.index 0).eval args Z none [i] Z = some (.int i.toInt32) := by simp [Term.eval]
 have n1 : ¬ i.toInt32 < lo := by rw [Int32.lt_iff_toInt_lt, len_toInt h31]; omega
 have n2 : ¬ hi ≤ i.toInt32 := by rw [Int32.le_iff_toInt_le, len_toInt h31]; omega
 have q2 := be5 q (by simp [Cond.value, Term.eval, n1])
 have q3 := be5 q2 (by simp [Cond.value, Term.eval, n2])
 have r := (elem_in (H0 q3) (ht [i]) e0 A.1).2
 have e1 : i.toInt32.toNatClampNeg = i := by simp only [Int32.toNatClampNeg, len_toInt h31]; rfl
 rwa [e1] at r
theorem ch9 {cl : Cell} (h1 : ∀ i : Nat, 48 ≤ i → i < 58 → cl.slots[i]? = some (.int 1)) (h2 : ∀ i : Nat, 65 ≤ i → i < 91 → cl.slots[i]? = some (.int 1)) (h3 : ∀ i : Nat, 97 ≤ i → i < 123 → cl.slots[i]? = some (.int 1)) (h4 : cl.slots[45]? = some (.int 1)) (h5 : cl.slots[46]? = some (.int 1)) (h6 : cl.slots[95]? = some (.int 1)) : ∀ c ∈ I3, s8 cl.slots.toList c := by
 have k : ∀ c ∈ I3, ¬ c < 0 ∧ c < 128 ∧ ((48 ≤ c.toNatClampNeg ∧ c.toNatClampNeg < 58) ∨ (65 ≤ c.toNatClampNeg ∧ c.toNatClampNeg < 91) ∨ (97 ≤ c.toNatClampNeg ∧ c.toNatClampNeg < 123) ∨ c.toNatClampNeg = 45 ∨ c.toNatClampNeg = 46 ∨ c.toNatClampNeg = 95) := by decide
 intro c hc
 obtain ⟨q1, q2, q⟩ := k c hc
 refine ⟨q1, q2, B1 ?_⟩
 rcases q with q | q | q | q | q | q
 · exact h1 _ q.1 q.2
 · exact h2 _ q.1 q.2
 · exact h3 _ q.1 q.2
 · rw [q]; exact h4
 · rw [q]; exact h5
 · rw [q]; exact h6
/-- a BigInteger of one mag word, off the words -/
theorem B6 {Z : State} {args : Array Value} {t : Term} {n : Int32} {a : Addr} (hf : Fit Z) (v : t.eval args Z none [] Z = some (.ref a)) (h0 : (Jvm.Cond.exactly t "java/math/BigInteger").before args Z = true) (h1 : (Jvm.Cond.eq (.field t "java/math/BigInteger" "signum" "I") (.int 1)).before args Z = true)
 (h2 : (Jvm.Cond.arrayOf (.field t "java/math/BigInteger" "mag" "[I") .int).before args Z = true) (h4 : (Jvm.Cond.eq (.length (.field t "java/math/BigInteger" "mag" "[I")) (.int 1)).before args Z = true) (h5 : (Jvm.Cond.eq (.elem (.field t "java/math/BigInteger" "mag" "[I") (.int 0)) (.int n)).before args Z = true)
 (q : 0 < n.toInt64 ∧ p5 n.toInt64 = 0 ∧ r9 n.toInt64 = n) : own_BI Z Z.heap a n.toInt64 Z.heap.size := by
 have E := Exa.start v (Cond.before_iff.mp h0)
 obtain ⟨t', vt⟩ := arr_v (Cond.before_iff.mp h2)
 obtain ⟨cl, A⟩ := Arr.start vt (Cond.before_iff.mp h2)
 have L := ao9 (H0 (Cond.before_iff.mp h4)) vt A
 have F1 := Fld.start ((fld_at v).symm.trans (H0 (Cond.before_iff.mp h1)))
 have F2 := Fld.start ((fld_at v).symm.trans vt)
 have b := (elem_in (H0 (Cond.before_iff.mp h5)) vt (Term.int_eval 0) A.1).2
 have AV := Arv.start (dv := .int 0) (vs := [.int n]) hf A L.1 L.2 (by decide) rfl ⟨b, trivial⟩
 exact ⟨E.lt, E, t', cl.cls, A.lt, F2, Or.inr (Or.inl ⟨q.1, q.2.1, F1, by rw [q.2.2]; exact AV⟩)⟩
theorem ci0 {Z : State} {args : Array Value} {t : Term} {a : Addr} (hf : Fit Z) (v : t.eval args Z none [] Z = some (.ref a)) (h0 : (Jvm.Cond.exactly t "java/math/BigInteger").before args Z = true) (h1 : (Jvm.Cond.eq (.field t "java/math/BigInteger" "signum" "I") (.int 0)).before args Z = true)
 (h2 : (Jvm.Cond.arrayOf (.field t "java/math/BigInteger" "mag" "[I") .int).before args Z = true) (h4 : (Jvm.Cond.eq (.length (.field t "java/math/BigInteger" "mag" "[I")) (.int 0)).before args Z = true) : own_BI Z Z.heap a 0 Z.heap.size := by
 have E := Exa.start v (Cond.before_iff.mp h0)
 obtain ⟨t', vt⟩ := arr_v (Cond.before_iff.mp h2)
 obtain ⟨cl, A⟩ := Arr.start vt (Cond.before_iff.mp h2)
 have L := ao9 (H0 (Cond.before_iff.mp h4)) vt A
 have F1 := Fld.start ((fld_at v).symm.trans (H0 (Cond.before_iff.mp h1)))
 have F2 := Fld.start ((fld_at v).symm.trans vt)
 have AV := Arv.start (dv := .int 0) (vs := []) hf A L.1 L.2 (by decide) rfl trivial
 exact ⟨E.lt, E, t', cl.cls, A.lt, F2, Or.inl ⟨rfl, F1, AV⟩⟩
theorem ci1 {args : Array Value} {first s : State} {o : Option Outcome} {idx : List Nat} {a b : Term} {x y : Addr} (h : (Jvm.Cond.eq a b).value args first o s idx = some true) (ha : a.eval args first o idx s = some (.ref x)) (hb : b.eval args first o idx s = some (.ref y)) : x = y := by
 have q := gotT (eq_R ha hb rfl rfl) h
 injection q
theorem ci2 {i : Int32} (h0 : 0 < i) (h1 : ¬ 16 < i) : i = 1 ∨ i = 2 ∨ i = 3 ∨ i = 4 ∨ i = 5 ∨ i = 6 ∨ i = 7 ∨ i = 8 ∨ i = 9 ∨ i = 10 ∨ i = 11 ∨ i = 12 ∨ i = 13 ∨ i = 14 ∨ i = 15 ∨ i = 16 := by
 have a := Int32.lt_iff_toInt_lt.mp h0
 have b : ¬ ((16 : Int32).toInt < i.toInt) := fun q => h1 (Int32.lt_iff_toInt_lt.mpr q)
 simp only [← Int32.toInt_inj]
 have e0 : (0 : Int32).toInt = 0 := by decide
 have e16 : (16 : Int32).toInt = 16 := by decide
 rw [e0] at a; rw [e16] at b
 have e : (1 : Int32).toInt = 1 ∧ (2 : Int32).toInt = 2 ∧ (3 : Int32).toInt = 3 ∧ (4 : Int32).toInt = 4 ∧ (5 : Int32).toInt = 5 ∧ (6 : Int32).toInt = 6 ∧ (7 : Int32).toInt = 7 ∧ (8 : Int32).toInt = 8 ∧ (9 : Int32).toInt = 9 ∧ (10 : Int32).toInt = 10 ∧ (11 : Int32).toInt = 11 ∧ (12 : Int32).toInt = 12 ∧ (13 : Int32).toInt = 13 ∧ (14 : Int32).toInt = 14 ∧ (15 : Int32).toInt = 15 := by decide
 omega
theorem f9 {l : List Jvm.Cond} {P : Jvm.Cond → Prop} (h : ∀ d ∈ l, P d) (i : Nat) {c : Jvm.Cond} (q : l[i]? = some c) : P c := h _ (List.mem_of_getElem? q)
theorem comes_1 {Post : Tables → Env → Array Value → State → Outcome → State → Prop} (hpost : ∀ tb e args s v u, (limb_1_1.after args s (.returned v) u = true ∧ limb_1_2.after args s (.returned v) u = true ∧ True) → ReturnedEndW s (.returned v) u (Jvm.fieldLocs frame_1_writes args s ++ Jvm.arrayLocs frame_1_arrays args s ++ Jvm.staticLocs frame_1_statics s) 192 4096 → Post tb e args s (.returned v) u) :
 ArmFor flags0 classFile x code maxLocals ret World_1 tables_1 room_1 Calls_1 rest_1 Pre_1 Post := by
 intro l hfl _ _ p e ha hc hk s m args below hf hA hF happ hP
 obtain ⟨hcalls, hrest, hpre⟩ := hP
 obtain ⟨-, -, -, hnamed, -, -, -, hat⟩ := (Spec.applies_iff hf).mp happ
 obtain ⟨hg, hn⟩ := and_e (Cond.before_iff.mp (show (Jvm.Cond.and given_1 narrow_1).before args s = true from hpre))
 obtain ⟨gc, gr0⟩ := and_e hg
 obtain ⟨ga0, gr1⟩ := and_e gr0
 obtain ⟨ga1, gr2⟩ := and_e gr1
 obtain ⟨ga2, gr3⟩ := and_e gr2
 obtain ⟨ga3, ga4⟩ := and_e gr3
 obtain ⟨w0, w1, w2, w3, w4, rfl⟩ : ∃ w0 w1 w2 w3 w4 : Value, args = #[w0, w1, w2, w3, w4] := by
  have hs : args.size = 5 := by simpa [Cond.value, given_1] using gc
  obtain ⟨L⟩ := args
  match L, hs with
  | [w0, w1, w2, w3, w4], _ => exact ⟨w0, w1, w2, w3, w4, rfl⟩
 have hw := fun d (hd : d ∈ tables_1) => atoms_spec (ws := Jvm.Cond.code x code maxLocals ret :: tables_1) hat d (List.mem_cons_of_mem _ hd)
 have hfit : Fit s := fun {y c} hc i hi => by
  obtain ⟨ha, rfl⟩ := Array.getElem?_eq_some_iff.mp hc
  have q := List.all_eq_true.mp ((Array.all_eq_true_iff_forall_mem.mp hF) _ (Array.getElem_mem ha)) i (List.mem_range.mpr hi)
  simpa [Array.getElem?_eq_getElem hi] using q
 obtain ⟨hsets, hown0⟩ := atoms_of _ (rest_1_c_eq ▸ (show rest_1_c.before _ s = true from hrest))
 obtain ⟨i0, ei0⟩ := isL_v ga0
 obtain rfl : w0 = (.long i0) := Option.some.inj ei0
 obtain ⟨i1, ei1⟩ := isL_v ga1
 obtain rfl : w1 = (.long i1) := Option.some.inj ei1
 obtain ⟨i2, ei2⟩ := is_v ga2
 obtain rfl : w2 = (.int i2) := Option.some.inj ei2
 obtain ⟨i3, ei3⟩ := is_v ga3
 obtain rfl : w3 = (.int i3) := Option.some.inj ei3
 obtain ⟨i4, ei4⟩ := is_v ga4
 obtain rfl : w4 = (.int i4) := Option.some.inj ei4
 obtain ⟨cs, ecs⟩ := is_v (Cond.before_iff.mp (f9 hsets 1 rfl))
 have SC := Sta.start ecs (Or.inl (f9 hsets 0 rfl))
 have hcs : ¬ cs = 0 := gotF (ch8 ecs (Term.int_eval 0)) (not_v (Cond.before_iff.mp (f9 hsets 2 rfl)))
 obtain ⟨fm, efm, rfm⟩ := isR_v (Cond.before_iff.mp (f9 hsets 8 rfl))
 have SFM := Sta.start efm (Or.inl (f9 hsets 7 rfl))
 obtain ⟨pc0, vpc⟩ := arr_v (Cond.before_iff.mp (f9 hsets 17 rfl))
 obtain ⟨clp, Ap⟩ := Arr.start vpc (Cond.before_iff.mp (f9 hsets 17 rfl))
 have SPC := Sta.start vpc (Or.inl (f9 hsets 10 rfl))
 have APC := aY9 (dv := .null) hfit Ap (ao9 (H0 (Cond.before_iff.mp (f9 hsets 19 rfl))) vpc Ap) (by decide)
 obtain ⟨a1, va1⟩ := exa_v (Cond.before_iff.mp (f9 hsets 21 rfl))
 have b1 := B6 (n := 1) hfit va1 (f9 hsets 21 rfl) (f9 hsets 22 rfl) (f9 hsets 23 rfl) (f9 hsets 25 rfl) (f9 hsets 26 rfl) (by decide)
 have q1 : clp.slots.toList.getD (1 : Int32).toNatClampNeg .null = .ref a1 := B1 (elem_in va1 vpc (Term.int_eval 1) Ap.1).2
 obtain ⟨a2, va2⟩ := exa_v (Cond.before_iff.mp (f9 hsets 28 rfl))
 have b2 := B6 (n := 2) hfit va2 (f9 hsets 28 rfl) (f9 hsets 29 rfl) (f9 hsets 30 rfl) (f9 hsets 32 rfl) (f9 hsets 33 rfl) (by decide)
 have q2 : clp.slots.toList.getD (2 : Int32).toNatClampNeg .null = .ref a2 := B1 (elem_in va2 vpc (Term.int_eval 2) Ap.1).2
 obtain ⟨a3, va3⟩ := exa_v (Cond.before_iff.mp (f9 hsets 34 rfl))
 have b3 := B6 (n := 3) hfit va3 (f9 hsets 34 rfl) (f9 hsets 35 rfl) (f9 hsets 36 rfl) (f9 hsets 38 rfl) (f9 hsets 39 rfl) (by decide)
 have q3 : clp.slots.toList.getD (3 : Int32).toNatClampNeg .null = .ref a3 := B1 (elem_in va3 vpc (Term.int_eval 3) Ap.1).2
 obtain ⟨a4, va4⟩ := exa_v (Cond.before_iff.mp (f9 hsets 40 rfl))
 have b4 := B6 (n := 4) hfit va4 (f9 hsets 40 rfl) (f9 hsets 41 rfl) (f9 hsets 42 rfl) (f9 hsets 44 rfl) (f9 hsets 45 rfl) (by decide)
 have q4 : clp.slots.toList.getD (4 : Int32).toNatClampNeg .null = .ref a4 := B1 (elem_in va4 vpc (Term.int_eval 4) Ap.1).2
 obtain ⟨a5, va5⟩ := exa_v (Cond.before_iff.mp (f9 hsets 46 rfl))
 have b5 := B6 (n := 5) hfit va5 (f9 hsets 46 rfl) (f9 hsets 47 rfl) (f9 hsets 48 rfl) (f9 hsets 50 rfl) (f9 hsets 51 rfl) (by decide)
 have q5 : clp.slots.toList.getD (5 : Int32).toNatClampNeg .null = .ref a5 := B1 (elem_in va5 vpc (Term.int_eval 5) Ap.1).2
 obtain ⟨a6, va6⟩ := exa_v (Cond.before_iff.mp (f9 hsets 52 rfl))
 have b6 := B6 (n := 6) hfit va6 (f9 hsets 52 rfl) (f9 hsets 53 rfl) (f9 hsets 54 rfl) (f9 hsets 56 rfl) (f9 hsets 57 rfl) (by decide)
 have q6 : clp.slots.toList.getD (6 : Int32).toNatClampNeg .null = .ref a6 := B1 (elem_in va6 vpc (Term.int_eval 6) Ap.1).2
 obtain ⟨a7, va7⟩ := exa_v (Cond.before_iff.mp (f9 hsets 58 rfl))
 have b7 := B6 (n := 7) hfit va7 (f9 hsets 58 rfl) (f9 hsets 59 rfl) (f9 hsets 60 rfl) (f9 hsets 62 rfl) (f9 hsets 63 rfl) (by decide)
 have q7 : clp.slots.toList.getD (7 : Int32).toNatClampNeg .null = .ref a7 := B1 (elem_in va7 vpc (Term.int_eval 7) Ap.1).2
 obtain ⟨a8, va8⟩ := exa_v (Cond.before_iff.mp (f9 hsets 64 rfl))
 have b8 := B6 (n := 8) hfit va8 (f9 hsets 64 rfl) (f9 hsets 65 rfl) (f9 hsets 66 rfl) (f9 hsets 68 rfl) (f9 hsets 69 rfl) (by decide)
 have q8 : clp.slots.toList.getD (8 : Int32).toNatClampNeg .null = .ref a8 := B1 (elem_in va8 vpc (Term.int_eval 8) Ap.1).2
 obtain ⟨a9, va9⟩ := exa_v (Cond.before_iff.mp (f9 hsets 70 rfl))
 have b9 := B6 (n := 9) hfit va9 (f9 hsets 70 rfl) (f9 hsets 71 rfl) (f9 hsets 72 rfl) (f9 hsets 74 rfl) (f9 hsets 75 rfl) (by decide)
 have q9 : clp.slots.toList.getD (9 : Int32).toNatClampNeg .null = .ref a9 := B1 (elem_in va9 vpc (Term.int_eval 9) Ap.1).2
 obtain ⟨a10, va10⟩ := exa_v (Cond.before_iff.mp (f9 hsets 77 rfl))
 have b10 := B6 (n := 10) hfit va10 (f9 hsets 77 rfl) (f9 hsets 78 rfl) (f9 hsets 79 rfl) (f9 hsets 81 rfl) (f9 hsets 82 rfl) (by decide)
 have q10 : clp.slots.toList.getD (10 : Int32).toNatClampNeg .null = .ref a10 := B1 (elem_in va10 vpc (Term.int_eval 10) Ap.1).2
 obtain ⟨a11, va11⟩ := exa_v (Cond.before_iff.mp (f9 hsets 83 rfl))
 have b11 := B6 (n := 11) hfit va11 (f9 hsets 83 rfl) (f9 hsets 84 rfl) (f9 hsets 85 rfl) (f9 hsets 87 rfl) (f9 hsets 88 rfl) (by decide)
 have q11 : clp.slots.toList.getD (11 : Int32).toNatClampNeg .null = .ref a11 := B1 (elem_in va11 vpc (Term.int_eval 11) Ap.1).2
 obtain ⟨a12, va12⟩ := exa_v (Cond.before_iff.mp (f9 hsets 89 rfl))
 have b12 := B6 (n := 12) hfit va12 (f9 hsets 89 rfl) (f9 hsets 90 rfl) (f9 hsets 91 rfl) (f9 hsets 93 rfl) (f9 hsets 94 rfl) (by decide)
 have q12 : clp.slots.toList.getD (12 : Int32).toNatClampNeg .null = .ref a12 := B1 (elem_in va12 vpc (Term.int_eval 12) Ap.1).2
 obtain ⟨a13, va13⟩ := exa_v (Cond.before_iff.mp (f9 hsets 95 rfl))
 have b13 := B6 (n := 13) hfit va13 (f9 hsets 95 rfl) (f9 hsets 96 rfl) (f9 hsets 97 rfl) (f9 hsets 99 rfl) (f9 hsets 100 rfl) (by decide)
 have q13 : clp.slots.toList.getD (13 : Int32).toNatClampNeg .null = .ref a13 := B1 (elem_in va13 vpc (Term.int_eval 13) Ap.1).2
 obtain ⟨a14, va14⟩ := exa_v (Cond.before_iff.mp (f9 hsets 101 rfl))
 have b14 := B6 (n := 14) hfit va14 (f9 hsets 101 rfl) (f9 hsets 102 rfl) (f9 hsets 103 rfl) (f9 hsets 105 rfl) (f9 hsets 106 rfl) (by decide)
 have q14 : clp.slots.toList.getD (14 : Int32).toNatClampNeg .null = .ref a14 := B1 (elem_in va14 vpc (Term.int_eval 14) Ap.1).2
 obtain ⟨a15, va15⟩ := exa_v (Cond.before_iff.mp (f9 hsets 107 rfl))
 have b15 := B6 (n := 15) hfit va15 (f9 hsets 107 rfl) (f9 hsets 108 rfl) (f9 hsets 109 rfl) (f9 hsets 111 rfl) (f9 hsets 112 rfl) (by decide)
 have q15 : clp.slots.toList.getD (15 : Int32).toNatClampNeg .null = .ref a15 := B1 (elem_in va15 vpc (Term.int_eval 15) Ap.1).2
 obtain ⟨a16, va16⟩ := exa_v (Cond.before_iff.mp (f9 hsets 113 rfl))
 have b16 := B6 (n := 16) hfit va16 (f9 hsets 113 rfl) (f9 hsets 114 rfl) (f9 hsets 115 rfl) (f9 hsets 117 rfl) (f9 hsets 118 rfl) (by decide)
 have q16 : clp.slots.toList.getD (16 : Int32).toNatClampNeg .null = .ref a16 := B1 (elem_in va16 vpc (Term.int_eval 16) Ap.1).2
 have HPC : ∀ i : Int32, 0 < i → ¬ 16 < i → ∃ a, clp.slots.toList.getD i.toNatClampNeg .null = .ref a ∧ own_BI s s.heap a i.toInt64 s.heap.size := by
  intro i h0 h1
  rcases ci2 h0 h1 with rfl | rfl | rfl | rfl | rfl | rfl | rfl | rfl | rfl | rfl | rfl | rfl | rfl | rfl | rfl | rfl
  · exact ⟨a1, q1, b1⟩
  · exact ⟨a2, q2, b2⟩
  · exact ⟨a3, q3, b3⟩
  · exact ⟨a4, q4, b4⟩
  · exact ⟨a5, q5, b5⟩
  · exact ⟨a6, q6, b6⟩
  · exact ⟨a7, q7, b7⟩
  · exact ⟨a8, q8, b8⟩
  · exact ⟨a9, q9, b9⟩
  · exact ⟨a10, q10, b10⟩
  · exact ⟨a11, q11, b11⟩
  · exact ⟨a12, q12, b12⟩
  · exact ⟨a13, q13, b13⟩
  · exact ⟨a14, q14, b14⟩
  · exact ⟨a15, q15, b15⟩
  · exact ⟨a16, q16, b16⟩
 obtain ⟨z0, vz⟩ := exa_v (Cond.before_iff.mp (f9 hsets 136 rfl))
 have SZ := Sta.start vz (Or.inl (f9 hsets 135 rfl))
 have BZ := ci0 hfit vz (f9 hsets 136 rfl) (f9 hsets 137 rfl) (f9 hsets 138 rfl) (f9 hsets 140 rfl)
 obtain ⟨uo, vuo⟩ := exa_v (Cond.before_iff.mp (f9 hsets 124 rfl))
 obtain ⟨uo', vuo'⟩ := exa_v (Cond.before_iff.mp (f9 hsets 133 rfl))
 obtain ⟨u8, vu8⟩ := exa_v (Cond.before_iff.mp (f9 hsets 127 rfl))
 obtain ⟨i8, vi8⟩ := exa_v (Cond.before_iff.mp (f9 hsets 130 rfl))
 obtain rfl := ci1 (Cond.before_iff.mp (f9 hsets 123 rfl)) vuo vuo'
 have CS : ag3 s uo u8 i8 := ⟨Sta.start vuo (Or.inl (f9 hsets 120 rfl)), Sta.start vuo' (Or.inl (f9 hsets 132 rfl)), Sta.start vu8 (Or.inl (f9 hsets 126 rfl)), Sta.start vi8 (Or.inl (f9 hsets 129 rfl)), Exa.start vuo (Cond.before_iff.mp (f9 hsets 124 rfl)), (Exa.start vuo (Cond.before_iff.mp (f9 hsets 124 rfl))).ne (Exa.start vu8 (Cond.before_iff.mp (f9 hsets 127 rfl))) (by decide), (Exa.start vuo (Cond.before_iff.mp (f9 hsets 124 rfl))).ne (Exa.start vi8 (Cond.before_iff.mp (f9 hsets 130 rfl))) (by decide)⟩
 obtain ⟨hn1a, hn1b⟩ := and_e hn
 obtain ⟨hn2a, hn2b⟩ := and_e hn1b
 obtain ⟨hn3a, hn3b⟩ := and_e hn2b
 obtain ⟨hn4a, hn4b⟩ := and_e hn3b
 obtain ⟨hn5a, hn5b⟩ := and_e hn4b
 obtain ⟨hn6a, hn6b⟩ := and_e hn5b
 obtain ⟨hn7a, hn7b⟩ := and_e hn6b
 obtain ⟨hn8a, hn8b⟩ := and_e hn7b
 obtain ⟨hn9a, hn9b⟩ := and_e hn8b
 obtain ⟨hn10a, hn10b⟩ := and_e hn9b
 obtain ⟨hn11a, hn11b⟩ := and_e hn10b
 obtain ⟨hn12a, hn12b⟩ := and_e hn11b
 obtain ⟨hn13a, hn13b⟩ := and_e hn12b
 obtain ⟨al, val_⟩ := arr_v hn1a
 obtain ⟨cla, Aal⟩ := Arr.start val_ hn1a
 have lal := ao9 (H0 hn2a) val_ Aal
 have SAL := Sta.start val_ (Or.inr ⟨(F7 hw), (cJ7 hw)⟩)
 have AAL := aY9 (dv := .int 0) hfit Aal lal (by decide)
 have sal : cla.slots.size = 128 := by have q := len_toInt lal.1; rw [lal.2] at q; exact Int.ofNat_inj.mp (q.symm.trans (by decide))
 have val2 : ∀ idx, (Jvm.Term.static "com/example/prizewell/prizewell/core/AccountName" "ALLOWED" "[Z").eval #[.long i0, .long i1, .int i2, .int i3, .int i4] s none idx s = some (.ref al) := fun idx => val_
 have HAL := ch9 (fun i h1 h2 => aD1 val2 Aal hn7a i (by omega) (by omega) (Int.ofNat_le.mpr h1) (Int.ofNat_lt.mpr h2)) (fun i h1 h2 => aD1 val2 Aal hn9a i (by omega) (by omega) (Int.ofNat_le.mpr h1) (Int.ofNat_lt.mpr h2)) (fun i h1 h2 => aD1 val2 Aal hn13a i (by omega) (by omega) (Int.ofNat_le.mpr h1) (Int.ofNat_lt.mpr h2)) (elem_in (H0 hn4a) val_ (Term.int_eval 45) Aal.1).2 (elem_in (H0 hn5a) val_ (Term.int_eval 46) Aal.1).2 (elem_in (H0 hn11a) val_ (Term.int_eval 95) Aal.1).2
 have WW : r5 s z0 pc0 clp.cls clp.slots.toList fm al cla.cls cla.slots.toList := ⟨SAL, AAL, rfm, ⟨cs, hcs, SC⟩, SFM, SZ, BZ, SPC, APC, HPC, HAL, uo, u8, i8, CS⟩
 have hC : CHv s l3 s.vm s.heap := CHv.start (U0 hw) (fun p hp => hcalls.1 p hp) (f9 hsets 2 rfl) (Q8 hw) (F9 hw)
 obtain ⟨n, o, h1, h2, h3, _, L, rfl, ⟨rfl, N⟩, -, hq⟩ := rm0 l s _ hw tables_1 i0 i1 i2 i3 i4 z0 pc0 clp.cls clp.slots.toList fm al cla.cls cla.slots.toList s.heap s.heap.size (Nat.le_refl _) (Old.start s) WW p e ha hc hk s m _ below hf ((Spec.applies_iff_loose hf).mp happ).1 ⟨rfl, State.Warmed39.refl s, rfl, hC, all0⟩ trivial
 refine ⟨n, _, h1, h2, h3, hpost _ _ _ _ _ _ ⟨Cond.after_iff.mpr rfl, Cond.after_iff.mpr (eq_i res_at (Term.int_eval (1)) rfl), trivial⟩ ⟨hq.1, hq.2.1, hq.2.2.1, (hq.2.2.2.sift fun y hy => Or.inr (N y hy)).mono (by decide) (by decide)⟩⟩
theorem main_1_1 : Claimed_1_1 := comes_1 fun _ _ _ _ _ _ h hF => ⟨h.1, hF⟩
theorem main_1_2 : Claimed_1_2 := comes_1 fun _ _ _ _ _ _ h hF => ⟨h.2.1, hF⟩
end Jvm.Pilot.@@N@@
namespace Jvm.Pilot.@@N@@
open Jvm Jvm.ClassFile Sem Op Lib Jvm.Free Jvm.Stand Jvm.Pilot.@@N@@.Jvm.D
namespace start1
open Jvm.ClassFile
set_option maxRecDepth 65536
def cD (a b : Nat) (c : ByteArray) : Code := { maxStack := a, maxLocals := b, code := c, exceptionTable := #[], attributes := #[] }
def mD (n d : String) (p : List FieldType) (r : Option FieldType) (f : Nat) (c : Option Code) : Method := { name := n, desc := d, sig := { parameters := p, returnType := r }, accessFlags := f, code := c }
def mI (a b c : Nat) : MethodInfo := { accessFlags := a, nameIndex := b, descriptorIndex := c, attributes := #[] }
def fI (a b c : Nat) : FieldInfo := { accessFlags := a, nameIndex := b, descriptorIndex := c, attributes := #[] }
def fD (n : String) (t : FieldType) (a s : Nat) : Field := { name := n, type := t, accessFlags := a, slot := s, constantValue := 0 }
def u (s : String) : CpInfo := .utf8 (stringToUtf16 s)
def gap : Nat → List CpInfo → List CpInfo
  | 0, r => r
  | n + 1, r => .unusable :: gap n r
def poolList (es : List (Nat × CpInfo)) (last : Nat) : List CpInfo := es.foldr (fun e r => gap e.1 (e.2 :: r)) (gap last [])
def pool (es : List (Nat × CpInfo)) (last : Nat) : Array CpInfo := ⟨poolList es last⟩
def fileOf (pool : Array CpInfo) (this : Nat) (attrs : Array Attribute := #[]) (ms : Array MethodInfo := #[]) (fl : Nat := 33) (sup : Nat := 0) (ifs : Array Nat := #[]) (fds : Array FieldInfo := #[]) : ClassFile where
  minorVersion := 0
  majorVersion := 65
  constantPool := pool
  accessFlags := fl
  thisClass := this
  superClass := sup
  interfaces := ifs
  fields := fds
  methods := ms
  attributes := attrs
def plain (name : String) (sup : Option ClassId) : Class where
  name := name
  kind := .ordinary
  loader := none
  accessFlags := 33
  super := sup
  interfaces := #[]
  cf := none
  fields := #[]
  methods := #[]
  instanceTypes := #[]
  staticTypes := #[]
  resolved := #[]
  callSites := []
  init := .initialized
  statics := none
  mirror := none
def pool0 : Array CpInfo := pool [(5, u "<init>"), (0, u "()V"), (1, .class_ 10), (1, u "java/lang/Object"), (85, u "clone"), (0, u "()Ljava/lang/Object;")] 26
def k0c0 : Code := cD 0 1 object_method_1_code
def k0m0 : Method := mD "<init>" "()V" [] none 1 (some k0c0)
def k0m1 : Method := mD "clone" "()Ljava/lang/Object;" [] (some (.object "java/lang/Object")) 260 none
def k0 : Class := { plain "java/lang/Object" none with
  accessFlags := 33
  cf := some (fileOf pool0 8 #[] #[mI 1 5 6, mI 260 96 97] 33 0 #[] #[])
  methods := #[k0m0, k0m1]
  resolved := Array.replicate 124 none }
def pool1 : Array CpInfo := pool [(2, .class_ 4), (0, .nameAndType 5 6), (0, u "java/lang/Object"), (0, u "<init>"), (0, u "()V"), (0, .string 8), (0, u "ABCDEFGHIJKLMNOPQRSTUVWXYZabcdefghijklmnopqrstuvwxyz0123456789._-"), (0, .methodref 10 11), (0, .class_ 12), (0, .nameAndType 13 14), (0, u "java/lang/String"), (0, u "charAt"), (0, u "(I)C"), (0, .methodref 10 16), (0, .nameAndType 5 17), (0, u "([C)V"), (0, .methodref 19 20), (0, .class_ 21), (0, .nameAndType 22 23), (0, u "java/math/BigInteger"), (0, u "valueOf"), (0, u "(J)Ljava/math/BigInteger;"), (0, .methodref 25 26), (0, .class_ 27), (0, .nameAndType 28 29), (0, u "com/example/prizewell/prizewell/core/TicketRanges"), (0, u "add"), (0, u "(Lcom/example/prizewell/prizewell/core/AccountName;Ljava/math/BigInteger;Ljava/math/BigInteger;)V"), (0, .methodref 25 31), (0, .nameAndType 32 33), (0, u "get"), (0, u "(I)Lcom/example/prizewell/prizewell/core/TicketRange;"), (0, .methodref 35 36), (0, .class_ 37), (0, .nameAndType 38 39), (0, u "com/example/prizewell/prizewell/core/TicketRange"), (0, u "account"), (0, u "()Lcom/example/prizewell/prizewell/core/AccountName;"), (0, .methodref 41 42), (0, .class_ 43), (0, .nameAndType 44 45), (0, u "com/example/prizewell/prizewell/core/AccountName"), (0, u "value"), (0, u "()Ljava/lang/String;"), (0, .methodref 10 47), (0, .nameAndType 48 49), (0, u "equals"), (0, u "(Ljava/lang/Object;)Z"), (0, .methodref 35 51), (0, .nameAndType 52 53), (0, u "first"), (0, u "()Ljava/math/BigInteger;"), (0, .methodref 19 47), (0, .methodref 35 56), (0, .nameAndType 57 53), (0, u "count"), (0, .methodref 59 60), (0, .class_ 61), (0, .nameAndType 62 63), (0, u "com/example/prizewell/prizewell/core/TicketRangesAddAllPinLaw"), (0, u "name"), (0, u "(IZ)Ljava/lang/String;"), (0, .methodref 41 65), (0, .nameAndType 5 66), (0, u "(Ljava/lang/String;)V"), (0, .long 4611686018427387903), (1, .long 65535), (1, .methodref 25 3), (0, .methodref 59 73), (0, .nameAndType 74 75), (0, u "put"), (0, u "(Lcom/example/prizewell/prizewell/core/TicketRanges;Lcom/example/prizewell/prizewell/core/AccountName;JJ)V"), (0, .methodref 25 77), (0, .nameAndType 78 79), (0, u "addAll"), (0, u "(Lcom/example/prizewell/prizewell/core/TicketRanges;)V"), (0, .methodref 25 81), (0, .nameAndType 82 83), (0, u "size"), (0, u "()I"), (0, .methodref 59 85), (0, .nameAndType 86 87), (0, u "same"), (0, u "(Lcom/example/prizewell/prizewell/core/TicketRanges;ILjava/lang/String;JJ)Z"), (3, u "law"), (0, u "(JJIII)Z")] 2
def k1m0 : Method := mD "<init>" "()V" [] none 2 none
def k1c1 : Code := cD 6 5 method_2_code
def k1m1 : Method := mD "name" "(IZ)Ljava/lang/String;" [.int, .boolean] (some (.object "java/lang/String")) 10 (some k1c1)
def k1c2 : Code := cD 5 6 method_3_code
def k1m2 : Method := mD "put" "(Lcom/example/prizewell/prizewell/core/TicketRanges;Lcom/example/prizewell/prizewell/core/AccountName;JJ)V" [(.object "com/example/prizewell/prizewell/core/TicketRanges"), (.object "com/example/prizewell/prizewell/core/AccountName"), .long, .long] none 10 (some k1c2)
def k1c3 : Code := cD 3 8 method_4_code
def k1m3 : Method := mD "same" "(Lcom/example/prizewell/prizewell/core/TicketRanges;ILjava/lang/String;JJ)Z" [(.object "com/example/prizewell/prizewell/core/TicketRanges"), .int, (.object "java/lang/String"), .long, .long] (some .boolean) 10 (some k1c3)
def k1c4 : Code := cD 7 45 code
def k1m4 : Method := mD "law" "(JJIII)Z" [.long, .long, .int, .int, .int] (some .boolean) 9 (some k1c4)
def k1 : Class := { plain "com/example/prizewell/prizewell/core/TicketRangesAddAllPinLaw" (some 0) with
  accessFlags := 49
  cf := some (fileOf pool1 59 #[] #[mI 2 5 6, mI 10 62 63, mI 10 74 75, mI 10 86 87, mI 9 91 92] 49 2 #[] #[])
  methods := #[k1m0, k1m1, k1m2, k1m3, k1m4]
  resolved := Array.replicate 95 none }
def pool2 : Array CpInfo := pool [(1, .class_ 2), (0, u "java/io/Serializable"), (0, .class_ 4), (0, u "java/lang/Object")] 2
def k2 : Class := { plain "java/io/Serializable" (some 0) with
  accessFlags := 1537
  cf := some (fileOf pool2 1 #[] #[] 1537 3 #[] #[])
  resolved := Array.replicate 7 none }
def pool3 : Array CpInfo := pool [(1, .class_ 2), (0, u "java/lang/Comparable"), (0, .class_ 4), (0, u "java/lang/Object")] 7
def k3 : Class := { plain "java/lang/Comparable" (some 0) with
  accessFlags := 1537
  cf := some (fileOf pool3 1 #[] #[] 1537 3 #[] #[])
  resolved := Array.replicate 12 none }
def pool4 : Array CpInfo := pool [(2, .class_ 4), (1, u "java/lang/CharSequence"), (42, .class_ 48), (0, u "java/lang/CharSequence$1CodePointIterator"), (10, .class_ 60), (0, u "java/lang/CharSequence$1CharIterator"), (5, .class_ 67), (0, u "java/lang/Object")] 63
def k4 : Class := { plain "java/lang/CharSequence" (some 0) with
  accessFlags := 1537
  cf := some (fileOf pool4 2 #[.nestMembers #[47, 59]] #[] 1537 66 #[] #[])
  resolved := Array.replicate 131 none }
def pool5 : Array CpInfo := pool [(1, .class_ 2), (0, u "java/lang/constant/Constable"), (0, .class_ 4), (0, u "java/lang/Object")] 6
def k5 : Class := { plain "java/lang/constant/Constable" (some 0) with
  accessFlags := 1537
  cf := some (fileOf pool5 1 #[] #[] 1537 3 #[] #[])
  resolved := Array.replicate 11 none }
def pool6 : Array CpInfo := pool [(1, .class_ 2), (0, u "java/lang/constant/ConstantDesc"), (0, .class_ 4), (0, u "java/lang/Object")] 32
def k6 : Class := { plain "java/lang/constant/ConstantDesc" (some 0) with
  accessFlags := 1537
  cf := some (fileOf pool6 1 #[] #[] 1537 3 #[] #[])
  resolved := Array.replicate 37 none }
def pool7 : Array CpInfo := pool [(1, .methodref 2 3), (0, .class_ 4), (0, .nameAndType 5 6), (0, u "java/lang/Object"), (0, u "<init>"), (0, u "()V"), (2, .fieldref 10 11), (0, .class_ 12), (0, .nameAndType 13 14), (0, u "java/lang/String"), (0, u "value"), (0, u "[B"), (0, .fieldref 10 16), (0, .nameAndType 17 18), (0, u "coder"), (0, u "B"), (2, u "hash"), (0, u "I"), (2, u "hashIsZero"), (0, u "Z"), (0, .methodref 10 28), (0, .nameAndType 5 29), (0, u "([CIILjava/lang/Void;)V"), (4, .methodref 10 35), (0, .nameAndType 36 37), (0, u "checkBoundsOffCount"), (0, u "(III)I"), (0, .fieldref 10 39), (0, .nameAndType 40 26), (0, u "COMPACT_STRINGS"), (1, .class_ 44), (1, u "java/lang/StringUTF16"), (0, u "compress"), (1, .methodref 42 48), (0, .nameAndType 49 50), (0, u "coderFromArrayLen"), (0, u "([BI)B"), (3, .methodref 55 56), (0, .class_ 57), (0, .nameAndType 58 59), (0, u "java/util/Arrays"), (0, u "copyOfRange"), (0, u "([BII)[B"), (15, .methodref 10 76), (0, .nameAndType 5 77), (0, u "(Ljava/nio/charset/Charset;[BII)V"), (0, .methodref 79 80), (0, .class_ 81), (0, .nameAndType 82 83), (0, u "java/util/Objects"), (0, u "requireNonNull"), (0, u "(Ljava/lang/Object;)Ljava/lang/Object;"), (0, .class_ 85), (0, u "java/nio/charset/Charset"), (0, .fieldref 87 88), (0, .class_ 89), (0, .nameAndType 90 91), (0, u "sun/nio/cs/UTF_8"), (0, u "INSTANCE"), (0, u "Lsun/nio/cs/UTF_8;"), (1, .class_ 95), (1, u "java/lang/StringCoding"), (11, .class_ 109), (1, u "java/lang/StringLatin1"), (6, .fieldref 117 118), (0, .class_ 119), (0, .nameAndType 90 120), (0, u "sun/nio/cs/ISO_8859_1"), (0, u "Lsun/nio/cs/ISO_8859_1;"), (2, .fieldref 124 125), (0, .class_ 126), (0, .nameAndType 90 127), (0, u "sun/nio/cs/US_ASCII"), (0, u "Lsun/nio/cs/US_ASCII;"), (0, .methodref 93 129), (0, .nameAndType 130 131), (0, u "hasNegatives"), (0, u "([BII)Z"), (10, u "()Z"), (34, .methodref 42 178), (0, .nameAndType 45 179), (0, u "([CII)[B"), (58, u "([BIILjava/nio/charset/Charset;)V"), (95, u "()I"), (0, .methodref 10 336), (0, .nameAndType 17 337), (0, u "()B"), (25, u "([BI)C"), (27, u "(II)V"), (35, u "(I)C"), (64, .methodref 10 493), (0, .nameAndType 494 142), (0, u "isLatin1"), (0, .methodref 107 496), (0, .nameAndType 497 363), (0, u "charAt"), (3, u "checkIndex"), (5, u "length"), (33, .methodref 107 542), (0, .nameAndType 543 544), (0, u "equals"), (0, u "([B[B)Z"), (28, u "(Ljava/lang/Object;)Z"), (1, .class_ 576), (0, u "java/lang/CharSequence"), (22, u "CASE_INSENSITIVE_ORDER"), (0, u "Ljava/util/Comparator;"), (409, u "([C)V"), (42, .fieldref 1054 1055), (0, .class_ 1056), (0, .nameAndType 1057 1058), (0, u "jdk/internal/util/Preconditions"), (0, u "SIOOBE_FORMATTER"), (0, u "Ljava/util/function/BiFunction;"), (0, .methodref 1054 1060), (0, .nameAndType 501 1061), (0, u "(IILjava/util/function/BiFunction;)I"), (2, u "(IIILjava/util/function/BiFunction;)I"), (0, .methodref 1054 1066), (0, .nameAndType 1067 1064), (0, u "checkFromIndexSize"), (33, u "serialPersistentFields"), (0, u "[Ljava/io/ObjectStreamField;"), (0, .class_ 1104), (0, u "java/lang/String$CaseInsensitiveComparator"), (1, .class_ 1107), (0, u "java/io/Serializable"), (0, .class_ 1109), (0, u "java/lang/Comparable"), (0, .class_ 1111), (0, u "java/lang/constant/Constable"), (0, .class_ 1113), (0, u "java/lang/constant/ConstantDesc"), (2, u "serialVersionUID"), (0, u "J"), (3, u "REPL"), (0, u "C"), (2, u "LATIN1"), (1, u "UTF16")] 323
def k7m0 : Method := mD "<init>" "()V" [] none 1 none
def k7c1 : Code := cD 5 2 jdk_42_method_3_code
def k7m1 : Method := mD "<init>" "([C)V" [(.array .char)] none 1 (some k7c1)
def k7c2 : Code := cD 6 5 jdk_42_method_10_code
def k7m2 : Method := mD "<init>" "([BIILjava/nio/charset/Charset;)V" [(.array .byte), .int, .int, (.object "java/nio/charset/Charset")] none 1 (some k7c2)
def k7c3 : Code := { maxStack := 6, maxLocals := 11, code := jdk_42_method_11_code, exceptionTable := #[{ startPc := 800, endPc := 813, handlerPc := 816, catchType := 202 }], attributes := #[] }
def k7m3 : Method := mD "<init>" "(Ljava/nio/charset/Charset;[BII)V" [(.object "java/nio/charset/Charset"), (.array .byte), .int, .int] none 2 (some k7c3)
def k7c4 : Code := cD 2 1 jdk_42_method_54_code
def k7m4 : Method := mD "length" "()I" [] (some .int) 1 (some k7c4)
def k7c5 : Code := cD 2 2 jdk_42_method_56_code
def k7m5 : Method := mD "charAt" "(I)C" [.int] (some .char) 1 (some k7c5)
def k7c6 : Code := cD 2 3 jdk_42_method_66_code
def k7m6 : Method := mD "equals" "(Ljava/lang/Object;)Z" [(.object "java/lang/Object")] (some .boolean) 1 (some k7c6)
def k7c7 : Code := cD 4 6 jdk_42_method_149_code
def k7m7 : Method := mD "<init>" "([CIILjava/lang/Void;)V" [(.array .char), .int, .int, (.object "java/lang/Void")] none 2 (some k7c7)
def k7c8 : Code := cD 1 1 jdk_42_method_152_code
def k7m8 : Method := mD "coder" "()B" [] (some .byte) 0 (some k7c8)
def k7c9 : Code := cD 1 1 jdk_42_method_154_code
def k7m9 : Method := mD "isLatin1" "()Z" [] (some .boolean) 0 (some k7c9)
def k7c10 : Code := cD 3 2 jdk_42_method_155_code
def k7m10 : Method := mD "checkIndex" "(II)V" [.int, .int] none 8 (some k7c10)
def k7c11 : Code := cD 4 3 jdk_42_method_157_code
def k7m11 : Method := mD "checkBoundsOffCount" "(III)I" [.int, .int, .int] (some .int) 8 (some k7c11)
def k7 : Class := { plain "java/lang/String" (some 0) with
  accessFlags := 49
  interfaces := #[2, 3, 4, 5, 6]
  cf := some (fileOf pool7 10 #[.nestMembers #[1103]] #[mI 1 5 6, mI 1 5 1010, mI 1 5 238, mI 2 5 77, mI 1 507 334, mI 1 497 427, mI 1 543 573, mI 2 5 29, mI 0 17 337, mI 0 494 142, mI 8 501 391, mI 8 36 37] 49 2 #[1106, 1108, 575, 1110, 1112] #[fI 18 13 14, fI 18 17 18, fI 2 21 22, fI 2 25 26, fI 26 1116 1117, fI 24 40 26, fI 26 1101 1102, fI 26 1121 1122, fI 25 599 600, fI 24 1125 18, fI 24 1127 18])
  fields := #[fD "value" (.array .byte) 18 0, fD "coder" .byte 18 1, fD "hash" .int 2 2, fD "hashIsZero" .boolean 2 3, fD "serialVersionUID" .long 26 0, fD "COMPACT_STRINGS" .boolean 24 1, fD "serialPersistentFields" (.array (.object "java/io/ObjectStreamField")) 26 2, fD "REPL" .char 26 3, fD "CASE_INSENSITIVE_ORDER" (.object "java/util/Comparator") 25 4, fD "LATIN1" .byte 24 5, fD "UTF16" .byte 24 6]
  methods := #[k7m0, k7m1, k7m2, k7m3, k7m4, k7m5, k7m6, k7m7, k7m8, k7m9, k7m10, k7m11]
  instanceTypes := #[(.array .byte), .byte, .int, .boolean]
  staticTypes := #[.long, .boolean, (.array (.object "java/io/ObjectStreamField")), .char, (.object "java/util/Comparator"), .byte, .byte]
  resolved := Array.replicate 1451 none
  statics := some 0 }
def pool8 : Array CpInfo := pool [(1, .class_ 2), (0, u "java/lang/String"), (1, .class_ 6), (1, u "java/lang/Object"), (0, u "<init>"), (0, u "()V"), (0, .methodref 1 10), (0, .nameAndType 11 12), (0, u "checkIndex"), (0, u "(II)V"), (1, .class_ 16), (1, u "java/lang/StringLatin1"), (36, u "([BI)C"), (67, u "$assertionsDisabled"), (0, u "Z"), (98, .class_ 223), (1, u "java/lang/StringLatin1$LinesSpliterator"), (28, u "charAt"), (28, u "equals"), (0, u "([B[B)Z"), (107, .class_ 391), (0, u "java/lang/StringLatin1$CharsSpliterator")] 3
def k8m0 : Method := mD "<init>" "()V" [] none 0 none
def k8c1 : Code := cD 2 2 jdk_43_method_2_code
def k8m1 : Method := mD "charAt" "([BI)C" [(.array .byte), .int] (some .char) 9 (some k8c1)
def k8c2 : Code := cD 3 3 jdk_43_method_13_code
def k8m2 : Method := mD "equals" "([B[B)Z" [(.array .byte), (.array .byte)] (some .boolean) 9 (some k8c2)
def k8 : Class := { plain "java/lang/StringLatin1" (some 0) with
  accessFlags := 48
  cf := some (fileOf pool8 14 #[.nestMembers #[390, 221]] #[mI 0 7 8, mI 9 252 53, mI 9 281 282] 48 4 #[] #[fI 4120 121 122])
  fields := #[fD "$assertionsDisabled" .boolean 4120 0]
  methods := #[k8m0, k8m1, k8m2]
  staticTypes := #[.boolean]
  resolved := Array.replicate 395 none }
def pool9 : Array CpInfo := pool [(2, .class_ 4), (1, u "java/lang/Object"), (0, u "<init>"), (0, u "()V"), (17, .class_ 26), (1, u "jdk/internal/util/Preconditions"), (6, u "checkIndex"), (15, u "checkFromIndexSize"), (5, .class_ 56), (0, u "jdk/internal/util/Preconditions$4"), (57, .class_ 115), (0, u "jdk/internal/util/Preconditions$1"), (7, u "SIOOBE_FORMATTER"), (0, u "Ljava/util/function/BiFunction;"), (0, .class_ 126), (0, u "jdk/internal/util/Preconditions$2"), (3, u "AIOOBE_FORMATTER"), (0, .class_ 132), (0, u "jdk/internal/util/Preconditions$3"), (3, u "IOOBE_FORMATTER"), (41, u "(IILjava/util/function/BiFunction;)I"), (4, u "(IIILjava/util/function/BiFunction;)I")] 10
def k9m0 : Method := mD "<init>" "()V" [] none 1 none
def k9c1 : Code := cD 3 3 jdk_41_method_11_code
def k9m1 : Method := mD "checkIndex" "(IILjava/util/function/BiFunction;)I" [.int, .int, (.object "java/util/function/BiFunction")] (some .int) 9 (some k9c1)
def k9c2 : Code := cD 4 4 jdk_41_method_13_code
def k9m2 : Method := mD "checkFromIndexSize" "(IIILjava/util/function/BiFunction;)I" [.int, .int, .int, (.object "java/util/function/BiFunction")] (some .int) 9 (some k9c2)
def k9 : Class := { plain "jdk/internal/util/Preconditions" (some 0) with
  accessFlags := 33
  cf := some (fileOf pool9 24 #[.nestMembers #[55, 131, 125, 114]] #[mI 1 5 6, mI 9 33 178, mI 9 49 183] 33 2 #[] #[fI 25 123 124, fI 25 130 124, fI 25 136 124])
  fields := #[fD "SIOOBE_FORMATTER" (.object "java/util/function/BiFunction") 25 0, fD "AIOOBE_FORMATTER" (.object "java/util/function/BiFunction") 25 1, fD "IOOBE_FORMATTER" (.object "java/util/function/BiFunction") 25 2]
  methods := #[k9m0, k9m1, k9m2]
  staticTypes := #[(.object "java/util/function/BiFunction"), (.object "java/util/function/BiFunction"), (.object "java/util/function/BiFunction")]
  resolved := Array.replicate 194 none
  statics := some 1 }
def pool10 : Array CpInfo := pool [(6, .class_ 8), (1, u "java/lang/Object"), (0, u "<init>"), (0, u "()V"), (1, .class_ 14), (1, u "java/lang/StringUTF16"), (31, u "$assertionsDisabled"), (0, u "Z"), (13, u "HI_BYTE_SHIFT"), (0, u "I"), (2, u "LO_BYTE_SHIFT"), (49, .methodref 12 116), (0, .nameAndType 117 118), (0, u "compress"), (0, u "([CI[BII)I"), (3, u "([CII)[B"), (138, u "coderFromArrayLen"), (0, u "([BI)B"), (106, .class_ 371), (1, u "java/lang/StringUTF16$LinesSpliterator"), (58, u "MAX_LENGTH"), (196, .class_ 628), (0, u "java/lang/StringUTF16$CodePointsSpliterator"), (0, .class_ 630), (0, u "java/lang/StringUTF16$CharsSpliterator")] 4
def k10m0 : Method := mD "<init>" "()V" [] none 0 none
def k10c1 : Code := cD 2 2 jdk_52_method_15_code
def k10m1 : Method := mD "coderFromArrayLen" "([BI)B" [(.array .byte), .int] (some .byte) 8 (some k10c1)
def k10c2 : Code := cD 5 6 jdk_52_method_16_code
def k10m2 : Method := mD "compress" "([CII)[B" [(.array .char), .int, .int] (some (.array .byte)) 9 (some k10c2)
def k10c3 : Code := cD 3 7 jdk_52_method_21_code
def k10m3 : Method := mD "compress" "([CI[BII)I" [(.array .char), .int, (.array .byte), .int, .int] (some .int) 9 (some k10c3)
def k10 : Class := { plain "java/lang/StringUTF16" (some 0) with
  accessFlags := 48
  cf := some (fileOf pool10 12 #[.nestMembers #[627, 629, 369]] #[mI 0 9 10, mI 8 261 262, mI 9 117 122, mI 9 117 118] 48 6 #[] #[fI 26 61 62, fI 26 65 62, fI 24 430 62, fI 4120 46 47])
  fields := #[fD "HI_BYTE_SHIFT" .int 26 0, fD "LO_BYTE_SHIFT" .int 26 1, fD "MAX_LENGTH" .int 24 2, fD "$assertionsDisabled" .boolean 4120 3]
  methods := #[k10m0, k10m1, k10m2, k10m3]
  staticTypes := #[.int, .int, .int, .boolean]
  resolved := Array.replicate 635 none }
def pool11 : Array CpInfo := pool [(1, .methodref 2 3), (0, .class_ 4), (0, .nameAndType 5 6), (0, u "java/lang/Object"), (0, u "<init>"), (0, u "()V"), (0, .class_ 8), (0, u "java/lang/Record")] 13
def k11c0 : Code := cD 1 1 jdk_30_method_1_code
def k11m0 : Method := mD "<init>" "()V" [] none 4 (some k11c0)
def k11 : Class := { plain "java/lang/Record" (some 0) with
  accessFlags := 1057
  cf := some (fileOf pool11 7 #[] #[mI 4 5 6] 1057 2 #[] #[])
  methods := #[k11m0]
  resolved := Array.replicate 22 none }
def pool12 : Array CpInfo := pool [(1, .class_ 2), (0, u "com/example/prizewell/prizewell/core/AccountName"), (0, .methodref 4 5), (0, .class_ 6), (0, .nameAndType 7 8), (0, u "java/lang/Record"), (0, u "<init>"), (0, u "()V"), (0, .string 10), (0, u "value"), (0, .methodref 12 13), (0, .class_ 14), (0, .nameAndType 15 16), (0, u "java/util/Objects"), (0, u "requireNonNull"), (0, u "(Ljava/lang/Object;Ljava/lang/String;)Ljava/lang/Object;"), (0, .methodref 1 18), (0, .nameAndType 19 20), (0, u "isWellFormed"), (0, u "(Ljava/lang/String;)Z"), (8, u "(Ljava/lang/String;)V"), (0, .fieldref 1 31), (0, .nameAndType 10 32), (0, u "Ljava/lang/String;"), (5, .methodref 1 39), (0, .nameAndType 19 40), (0, u "(Ljava/lang/String;II)Z"), (1, .class_ 44), (1, u "java/lang/String"), (11, .methodref 42 57), (0, .nameAndType 58 59), (0, u "length"), (0, u "()I"), (0, .methodref 42 61), (0, .nameAndType 62 63), (0, u "charAt"), (0, u "(I)C"), (0, .fieldref 1 65), (0, .nameAndType 66 67), (0, u "ALLOWED"), (0, u "[Z"), (14, u "MAX_LENGTH"), (0, u "I"), (2, u "RULE"), (9, u "()Ljava/lang/String;")] 30
def k12c0 : Code := cD 3 2 prog_10_method_1_code
def k12m0 : Method := mD "<init>" "(Ljava/lang/String;)V" [(.object "java/lang/String")] none 1 (some k12c0)
def k12c1 : Code := cD 3 1 prog_10_method_5_code
def k12m1 : Method := mD "isWellFormed" "(Ljava/lang/String;)Z" [(.object "java/lang/String")] (some .boolean) 8 (some k12c1)
def k12c2 : Code := cD 2 5 prog_10_method_6_code
def k12m2 : Method := mD "isWellFormed" "(Ljava/lang/String;II)Z" [(.object "java/lang/String"), .int, .int] (some .boolean) 10 (some k12c2)
def k12c3 : Code := cD 1 1 prog_10_method_10_code
def k12m3 : Method := mD "value" "()Ljava/lang/String;" [] (some (.object "java/lang/String")) 1 (some k12c3)
def k12 : Class := { plain "com/example/prizewell/prizewell/core/AccountName" (some 11) with
  accessFlags := 49
  cf := some (fileOf pool12 1 #[] #[mI 1 7 29, mI 8 19 20, mI 10 19 40, mI 1 10 96] 49 4 #[] #[fI 18 10 32, fI 25 82 83, fI 24 86 32, fI 26 66 67])
  fields := #[fD "value" (.object "java/lang/String") 18 0, fD "MAX_LENGTH" .int 25 0, fD "RULE" (.object "java/lang/String") 24 1, fD "ALLOWED" (.array .boolean) 26 2]
  methods := #[k12m0, k12m1, k12m2, k12m3]
  instanceTypes := #[(.object "java/lang/String")]
  staticTypes := #[.int, (.object "java/lang/String"), (.array .boolean)]
  resolved := Array.replicate 127 none
  statics := some 2 }
def pool13 : Array CpInfo := pool [(2, .class_ 4), (1, u "java/lang/Object"), (0, u "<init>"), (0, u "()V"), (35, .class_ 44), (1, u "java/util/Objects"), (0, u "requireNonNull"), (0, u "(Ljava/lang/Object;)Ljava/lang/Object;"), (47, u "(Ljava/lang/Object;Ljava/lang/String;)Ljava/lang/Object;")] 89
def k13m0 : Method := mD "<init>" "()V" [] none 2 none
def k13c1 : Code := cD 2 1 jdk_31_method_10_code
def k13m1 : Method := mD "requireNonNull" "(Ljava/lang/Object;)Ljava/lang/Object;" [(.object "java/lang/Object")] (some (.object "java/lang/Object")) 9 (some k13c1)
def k13c2 : Code := cD 3 2 jdk_31_method_11_code
def k13m2 : Method := mD "requireNonNull" "(Ljava/lang/Object;Ljava/lang/String;)Ljava/lang/Object;" [(.object "java/lang/Object"), (.object "java/lang/String")] (some (.object "java/lang/Object")) 9 (some k13c2)
def k13 : Class := { plain "java/util/Objects" (some 0) with
  accessFlags := 49
  cf := some (fileOf pool13 42 #[] #[mI 2 5 6, mI 9 45 46, mI 9 45 94] 49 2 #[] #[])
  methods := #[k13m0, k13m1, k13m2]
  resolved := Array.replicate 184 none }
def pool14 : Array CpInfo := pool [(8, .class_ 10), (1, u "java/lang/Iterable"), (24, .class_ 36), (0, u "java/lang/Object")] 25
def k14 : Class := { plain "java/lang/Iterable" (some 0) with
  accessFlags := 1537
  cf := some (fileOf pool14 8 #[] #[] 1537 35 #[] #[])
  resolved := Array.replicate 62 none }
def pool15 : Array CpInfo := pool [(10, .class_ 12), (1, u "java/util/Collection"), (47, .class_ 61), (0, u "java/lang/Object"), (0, .class_ 63), (0, u "java/lang/Iterable")] 51
def k15 : Class := { plain "java/util/Collection" (some 0) with
  accessFlags := 1537
  interfaces := #[14]
  cf := some (fileOf pool15 10 #[] #[] 1537 60 #[62] #[])
  resolved := Array.replicate 115 none }
def pool16 : Array CpInfo := pool [(1, .methodref 2 3), (0, .class_ 4), (0, .nameAndType 5 6), (0, u "java/lang/Object"), (0, u "<init>"), (0, u "()V"), (1, .class_ 10), (1, u "java/util/AbstractCollection"), (66, .class_ 78), (0, u "java/util/Collection")] 81
def k16c0 : Code := cD 1 1 jdk_22_method_1_code
def k16m0 : Method := mD "<init>" "()V" [] none 4 (some k16c0)
def k16 : Class := { plain "java/util/AbstractCollection" (some 0) with
  accessFlags := 1057
  interfaces := #[15]
  cf := some (fileOf pool16 8 #[] #[mI 4 5 6] 1057 2 #[77] #[])
  methods := #[k16m0]
  resolved := Array.replicate 160 none }
def pool17 : Array CpInfo := pool [(8, .class_ 10), (1, u "java/util/SequencedCollection"), (15, .class_ 27), (0, u "java/lang/Object"), (0, .class_ 29), (0, u "java/util/Collection")] 27
def k17 : Class := { plain "java/util/SequencedCollection" (some 0) with
  accessFlags := 1537
  interfaces := #[15]
  cf := some (fileOf pool17 8 #[] #[] 1537 26 #[28] #[])
  resolved := Array.replicate 57 none }
def pool18 : Array CpInfo := pool [(8, .class_ 10), (1, u "java/util/List"), (92, .class_ 104), (0, u "java/lang/Object"), (15, .class_ 121), (0, u "java/util/SequencedCollection")] 129
def k18 : Class := { plain "java/util/List" (some 0) with
  accessFlags := 1537
  interfaces := #[17]
  cf := some (fileOf pool18 8 #[] #[] 1537 103 #[120] #[])
  resolved := Array.replicate 251 none }
def pool19 : Array CpInfo := pool [(1, .methodref 2 3), (0, .class_ 4), (0, .nameAndType 5 6), (0, u "java/util/AbstractCollection"), (0, u "<init>"), (0, u "()V"), (0, .fieldref 8 9), (0, .class_ 10), (0, .nameAndType 11 12), (0, u "java/util/AbstractList"), (0, u "modCount"), (0, u "I"), (64, .class_ 78), (0, u "java/util/AbstractList$Itr"), (3, .class_ 83), (0, u "java/util/AbstractList$ListItr"), (9, .class_ 94), (0, u "java/util/AbstractList$RandomAccessSubList"), (3, .class_ 99), (0, u "java/util/AbstractList$SubList"), (33, .class_ 134), (0, u "java/util/List"), (73, .class_ 209), (0, u "java/util/AbstractList$SubList$1"), (0, .class_ 211), (0, u "java/util/AbstractList$RandomAccessSpliterator")] 6
def k19c0 : Code := cD 2 1 jdk_39_method_1_code
def k19m0 : Method := mD "<init>" "()V" [] none 4 (some k19c0)
def k19 : Class := { plain "java/util/AbstractList" (some 16) with
  accessFlags := 1057
  interfaces := #[18]
  cf := some (fileOf pool19 8 #[.nestMembers #[93, 98, 208, 210, 82, 77]] #[mI 4 5 6] 1057 2 #[133] #[fI 132 11 12])
  fields := #[fD "modCount" .int 132 0]
  methods := #[k19m0]
  instanceTypes := #[.int]
  resolved := Array.replicate 218 none }
def pool20 : Array CpInfo := pool [(1, .class_ 2), (0, u "java/util/RandomAccess"), (0, .class_ 4), (0, u "java/lang/Object")] 2
def k20 : Class := { plain "java/util/RandomAccess" (some 0) with
  accessFlags := 1537
  cf := some (fileOf pool20 1 #[] #[] 1537 3 #[] #[])
  resolved := Array.replicate 7 none }
def pool21 : Array CpInfo := pool [(1, .class_ 2), (0, u "com/example/prizewell/prizewell/core/AccountName"), (0, .methodref 4 5), (0, .class_ 6), (0, .nameAndType 7 8), (0, u "java/util/AbstractList"), (0, u "<init>"), (0, u "()V"), (0, .fieldref 10 11), (0, .class_ 12), (0, .nameAndType 13 14), (0, u "com/example/prizewell/prizewell/core/TicketRanges"), (0, u "firsts"), (0, u "[J"), (0, .fieldref 10 16), (0, .nameAndType 17 18), (0, u "nameStarts"), (0, u "[I"), (0, .fieldref 10 20), (0, .nameAndType 21 22), (0, u "names"), (0, u "[B"), (0, .methodref 1 24), (0, .nameAndType 25 26), (0, u "value"), (0, u "()Ljava/lang/String;"), (0, .fieldref 10 28), (0, .nameAndType 29 30), (0, u "size"), (0, u "I"), (0, .methodref 32 33), (0, .class_ 34), (0, .nameAndType 35 36), (0, u "java/lang/Math"), (0, u "max"), (0, u "(II)I"), (0, .methodref 38 39), (0, .class_ 40), (0, .nameAndType 41 42), (0, u "java/util/Arrays"), (0, u "copyOf"), (0, u "([JI)[J"), (0, .methodref 38 44), (0, .nameAndType 41 45), (0, u "([II)[I"), (0, .methodref 47 48), (0, .class_ 49), (0, .nameAndType 50 51), (0, u "java/lang/String"), (0, u "length"), (0, u "()I"), (0, .methodref 38 53), (0, .nameAndType 41 54), (0, u "([BI)[B"), (0, .methodref 47 56), (0, .nameAndType 57 58), (0, u "charAt"), (0, u "(I)C"), (0, .methodref 60 61), (0, .class_ 62), (0, .nameAndType 63 64), (0, u "java/math/BigInteger"), (0, u "longValue"), (0, u "()J"), (0, .fieldref 10 66), (0, .nameAndType 67 68), (0, u "lastCount"), (0, u "Ljava/math/BigInteger;"), (0, .methodref 70 71), (0, .class_ 72), (0, .nameAndType 73 74), (0, u "java/lang/System"), (0, u "arraycopy"), (0, u "(Ljava/lang/Object;ILjava/lang/Object;II)V"), (4, .methodref 10 80), (0, .nameAndType 81 82), (0, u "count"), (0, u "(I)Ljava/math/BigInteger;"), (3, .fieldref 87 88), (0, .class_ 89), (0, .nameAndType 90 91), (0, u "java/nio/charset/StandardCharsets"), (0, u "US_ASCII"), (0, u "Ljava/nio/charset/Charset;"), (0, .methodref 47 93), (0, .nameAndType 7 94), (0, u "([BIILjava/nio/charset/Charset;)V"), (0, .methodref 10 96), (0, .nameAndType 97 98), (0, u "unsigned"), (0, u "(J)Ljava/math/BigInteger;"), (5, .class_ 105), (0, u "com/example/prizewell/prizewell/core/TicketRange"), (0, .methodref 10 107), (0, .nameAndType 108 109), (0, u "accountName"), (0, u "(I)Ljava/lang/String;"), (0, .methodref 1 111), (0, .nameAndType 7 112), (0, u "(Ljava/lang/String;)V"), (0, .methodref 104 114), (0, .nameAndType 7 115), (0, u "(Lcom/example/prizewell/prizewell/core/AccountName;Ljava/math/BigInteger;Ljava/math/BigInteger;)V"), (2, .long 9223372036854775807), (1, .methodref 60 121), (0, .nameAndType 122 98), (0, u "valueOf"), (5, u "get"), (0, u "(I)Lcom/example/prizewell/prizewell/core/TicketRange;"), (0, .class_ 131), (0, u "java/util/RandomAccess"), (0, u "INITIAL_CAPACITY"), (2, u "INITIAL_NAME_CAPACITY"), (3, u "add"), (1, u "addAll"), (0, u "(Lcom/example/prizewell/prizewell/core/TicketRanges;)V")] 8
def k21c0 : Code := cD 2 1 prog_64_method_1_code
def k21m0 : Method := mD "<init>" "()V" [] none 0 (some k21c0)
def k21c1 : Code := cD 5 8 prog_64_method_2_code
def k21m1 : Method := mD "add" "(Lcom/example/prizewell/prizewell/core/AccountName;Ljava/math/BigInteger;Ljava/math/BigInteger;)V" [(.object "com/example/prizewell/prizewell/core/AccountName"), (.object "java/math/BigInteger"), (.object "java/math/BigInteger")] none 0 (some k21c1)
def k21c2 : Code := cD 6 5 prog_64_method_3_code
def k21m2 : Method := mD "addAll" "(Lcom/example/prizewell/prizewell/core/TicketRanges;)V" [(.object "com/example/prizewell/prizewell/core/TicketRanges")] none 0 (some k21c2)
def k21c3 : Code := cD 7 3 prog_64_method_5_code
def k21m3 : Method := mD "accountName" "(I)Ljava/lang/String;" [.int] (some (.object "java/lang/String")) 0 (some k21c3)
def k21c4 : Code := cD 4 2 prog_64_method_6_code
def k21m4 : Method := mD "count" "(I)Ljava/math/BigInteger;" [.int] (some (.object "java/math/BigInteger")) 0 (some k21c4)
def k21c5 : Code := cD 6 2 prog_64_method_7_code
def k21m5 : Method := mD "get" "(I)Lcom/example/prizewell/prizewell/core/TicketRange;" [.int] (some (.object "com/example/prizewell/prizewell/core/TicketRange")) 1 (some k21c5)
def k21c6 : Code := cD 1 1 prog_64_method_8_code
def k21m6 : Method := mD "size" "()I" [] (some .int) 1 (some k21c6)
def k21c7 : Code := cD 4 3 prog_64_method_9_code
def k21m7 : Method := mD "unsigned" "(J)Ljava/math/BigInteger;" [.long] (some (.object "java/math/BigInteger")) 10 (some k21c7)
def k21 : Class := { plain "com/example/prizewell/prizewell/core/TicketRanges" (some 19) with
  accessFlags := 48
  interfaces := #[20]
  cf := some (fileOf pool21 10 #[] #[mI 0 7 8, mI 0 139 115, mI 0 141 142, mI 0 108 109, mI 0 81 82, mI 1 128 129, mI 1 29 51, mI 10 97 98] 48 4 #[130] #[fI 26 132 30, fI 26 135 30, fI 2 29 30, fI 2 13 14, fI 2 17 18, fI 2 21 22, fI 2 67 68])
  fields := #[fD "INITIAL_CAPACITY" .int 26 0, fD "INITIAL_NAME_CAPACITY" .int 26 1, fD "size" .int 2 1, fD "firsts" (.array .long) 2 2, fD "nameStarts" (.array .int) 2 3, fD "names" (.array .byte) 2 4, fD "lastCount" (.object "java/math/BigInteger") 2 5]
  methods := #[k21m0, k21m1, k21m2, k21m3, k21m4, k21m5, k21m6, k21m7]
  instanceTypes := #[.int, .int, (.array .long), (.array .int), (.array .byte), (.object "java/math/BigInteger")]
  staticTypes := #[.int, .int]
  resolved := Array.replicate 151 none }
def pool22 : Array CpInfo := pool [(1, .methodref 2 3), (0, .class_ 4), (0, .nameAndType 5 6), (0, u "java/lang/Object"), (0, u "<init>"), (0, u "()V"), (1, .class_ 10), (1, u "java/lang/Number"), (2, .class_ 14), (0, u "java/io/Serializable"), (0, u "serialVersionUID"), (0, u "J")] 20
def k22c0 : Code := cD 1 1 jdk_18_method_1_code
def k22m0 : Method := mD "<init>" "()V" [] none 1 (some k22c0)
def k22 : Class := { plain "java/lang/Number" (some 0) with
  accessFlags := 1057
  interfaces := #[2]
  cf := some (fileOf pool22 8 #[] #[mI 1 5 6] 1057 2 #[13] #[fI 26 15 16])
  fields := #[fD "serialVersionUID" .long 26 0]
  methods := #[k22m0]
  staticTypes := #[.long]
  resolved := Array.replicate 37 none }
def pool23 : Array CpInfo := pool [(3, .methodref 4 5), (0, .class_ 6), (0, .nameAndType 7 8), (0, u "java/lang/Number"), (0, u "<init>"), (0, u "()V"), (13, .fieldref 23 24), (0, .class_ 25), (0, .nameAndType 26 27), (0, u "java/math/BigInteger"), (0, u "ZERO"), (0, u "Ljava/math/BigInteger;"), (0, .fieldref 23 29), (0, .nameAndType 30 31), (0, u "mag"), (0, u "[I"), (0, .fieldref 23 33), (0, .nameAndType 34 35), (0, u "signum"), (0, u "I"), (38, u "()I"), (7, u "(I)I"), (12, u "bitsPerDigit"), (0, u "[J"), (9, u "digitsPerInt"), (12, u "intRadix"), (10, .long 4294967295), (49, u "SMALL_PRIME_PRODUCT"), (6, u "longValue"), (0, u "()J"), (48, u "valueOf"), (0, u "(J)Ljava/math/BigInteger;"), (21, u "ONE"), (2, u "equals"), (0, u "(Ljava/lang/Object;)Z"), (2, u "TWO"), (43, u "$assertionsDisabled"), (0, u "Z"), (32, .long 16), (1, .fieldref 23 348), (0, .nameAndType 349 350), (0, u "posConst"), (0, u "[Ljava/math/BigInteger;"), (4, u "negConst"), (0, .methodref 23 357), (0, .nameAndType 7 358), (0, u "(J)V"), (113, .class_ 474), (1, u "java/math/BigInteger$RecursiveOp"), (106, u "NEGATIVE_ONE"), (91, u "bnExpModThreshTable"), (62, .methodref 23 737), (0, .nameAndType 738 82), (0, u "getInt"), (7, u "lowestSetBitPlusTwo"), (2, u "bitLengthPlusOne"), (2, u "bitCountPlusOne"), (6, u "LOG_TWO"), (0, u "D"), (2, u "logCache"), (0, u "[D"), (13, u "NUM_ZEROS"), (2, u "ZEROS"), (0, u "Ljava/lang/String;"), (9, u "longRadix"), (5, u "digitsPerLong"), (22, u "powerCache"), (0, u "[[Ljava/math/BigInteger;"), (37, .methodref 23 861), (0, .nameAndType 862 74), (0, u "signInt"), (5, u "firstNonzeroIntNumPlusTwo"), (38, .class_ 909), (1, u "java/math/BigInteger$UnsafeHolder"), (141, u "TEN"), (106, u "serialPersistentFields"), (0, u "[Ljava/io/ObjectStreamField;"), (0, .class_ 1161), (0, u "java/lang/Comparable"), (0, u "LONG_MASK"), (0, u "J"), (1, u "MAX_MAG_LENGTH"), (0, u "PRIME_SEARCH_BIT_LENGTH_LIMIT"), (1, u "KARATSUBA_THRESHOLD"), (1, u "TOOM_COOK_THRESHOLD"), (1, u "KARATSUBA_SQUARE_THRESHOLD"), (1, u "TOOM_COOK_SQUARE_THRESHOLD"), (1, u "BURNIKEL_ZIEGLER_THRESHOLD"), (0, u "BURNIKEL_ZIEGLER_OFFSET"), (1, u "SCHOENHAGE_BASE_CONVERSION_THRESHOLD"), (1, u "MULTIPLY_SQUARE_THRESHOLD"), (0, u "MONTGOMERY_INTRINSIC_THRESHOLD"), (1, u "SMALL_PRIME_THRESHOLD"), (1, u "DEFAULT_PRIME_CERTAINTY"), (1, u "MAX_CONSTANT"), (3, u "serialVersionUID"), (338, .class_ 1532), (0, u "java/math/BigInteger$RecursiveOp$RecursiveSquare"), (0, .class_ 1534), (0, u "java/math/BigInteger$RecursiveOp$RecursiveMultiply")] 7
def k23c0 : Code := cD 4 2 jdk_2097_method_29_code
def k23m0 : Method := mD "valueOf" "(J)Ljava/math/BigInteger;" [.long] (some (.object "java/math/BigInteger")) 9 (some k23c0)
def k23c1 : Code := cD 4 4 jdk_2097_method_30_code
def k23m1 : Method := mD "<init>" "(J)V" [.long] none 2 (some k23c1)
def k23c2 : Code := cD 1 1 jdk_2097_method_81_code
def k23m2 : Method := mD "signum" "()I" [] (some .int) 1 (some k23c2)
def k23c3 : Code := cD 3 7 jdk_2097_method_124_code
def k23m3 : Method := mD "equals" "(Ljava/lang/Object;)Z" [(.object "java/lang/Object")] (some .boolean) 1 (some k23c3)
def k23c4 : Code := cD 6 4 jdk_2097_method_136_code
def k23m4 : Method := mD "longValue" "()J" [] (some .long) 1 (some k23c4)
def k23c5 : Code := cD 1 1 jdk_2097_method_147_code
def k23m5 : Method := mD "signInt" "()I" [] (some .int) 2 (some k23c5)
def k23c6 : Code := cD 3 3 jdk_2097_method_148_code
def k23m6 : Method := mD "getInt" "(I)I" [.int] (some .int) 2 (some k23c6)
def k23 : Class := { plain "java/math/BigInteger" (some 22) with
  accessFlags := 33
  interfaces := #[3]
  cf := some (fileOf pool23 23 #[.nestMembers #[907, 472, 1531, 1533]] #[mI 9 237 238, mI 2 7 358, mI 1 34 74, mI 1 263 264, mI 1 187 188, mI 2 862 74, mI 2 738 82] 33 4 #[1160] #[fI 16 34 35, fI 16 30 31, fI 2 752 35, fI 2 749 35, fI 2 746 35, fI 2 868 35, fI 24 1162 1163, fI 26 1165 35, fI 26 1166 35, fI 26 1168 35, fI 26 1170 35, fI 26 1172 35, fI 26 1174 35, fI 24 1176 35, fI 24 1177 35, fI 26 1179 35, fI 26 1181 35, fI 26 1182 35, fI 10 95 96, fI 26 1184 35, fI 26 1186 35, fI 26 180 27, fI 26 1188 35, fI 26 349 350, fI 26 355 350, fI 74 821 822, fI 26 763 764, fI 26 759 760, fI 25 26 27, fI 25 260 27, fI 25 267 27, fI 26 581 27, fI 25 1051 27, fI 8 673 31, fI 10 778 35, fI 26 781 782, fI 10 798 31, fI 10 792 350, fI 10 106 31, fI 10 119 31, fI 26 1192 1163, fI 26 1158 1159, fI 4120 311 312])
  fields := #[fD "signum" .int 16 0, fD "mag" (.array .int) 16 1, fD "bitCountPlusOne" .int 2 2, fD "bitLengthPlusOne" .int 2 3, fD "lowestSetBitPlusTwo" .int 2 4, fD "firstNonzeroIntNumPlusTwo" .int 2 5, fD "LONG_MASK" .long 24 0, fD "MAX_MAG_LENGTH" .int 26 1, fD "PRIME_SEARCH_BIT_LENGTH_LIMIT" .int 26 2, fD "KARATSUBA_THRESHOLD" .int 26 3, fD "TOOM_COOK_THRESHOLD" .int 26 4, fD "KARATSUBA_SQUARE_THRESHOLD" .int 26 5, fD "TOOM_COOK_SQUARE_THRESHOLD" .int 26 6, fD "BURNIKEL_ZIEGLER_THRESHOLD" .int 24 7, fD "BURNIKEL_ZIEGLER_OFFSET" .int 24 8, fD "SCHOENHAGE_BASE_CONVERSION_THRESHOLD" .int 26 9, fD "MULTIPLY_SQUARE_THRESHOLD" .int 26 10, fD "MONTGOMERY_INTRINSIC_THRESHOLD" .int 26 11, fD "bitsPerDigit" (.array .long) 10 12, fD "SMALL_PRIME_THRESHOLD" .int 26 13, fD "DEFAULT_PRIME_CERTAINTY" .int 26 14, fD "SMALL_PRIME_PRODUCT" (.object "java/math/BigInteger") 26 15, fD "MAX_CONSTANT" .int 26 16, fD "posConst" (.array (.object "java/math/BigInteger")) 26 17, fD "negConst" (.array (.object "java/math/BigInteger")) 26 18, fD "powerCache" (.array (.array (.object "java/math/BigInteger"))) 74 19, fD "logCache" (.array .double) 26 20, fD "LOG_TWO" .double 26 21, fD "ZERO" (.object "java/math/BigInteger") 25 22, fD "ONE" (.object "java/math/BigInteger") 25 23, fD "TWO" (.object "java/math/BigInteger") 25 24, fD "NEGATIVE_ONE" (.object "java/math/BigInteger") 26 25, fD "TEN" (.object "java/math/BigInteger") 25 26, fD "bnExpModThreshTable" (.array .int) 8 27, fD "NUM_ZEROS" .int 10 28, fD "ZEROS" (.object "java/lang/String") 26 29, fD "digitsPerLong" (.array .int) 10 30, fD "longRadix" (.array (.object "java/math/BigInteger")) 10 31, fD "digitsPerInt" (.array .int) 10 32, fD "intRadix" (.array .int) 10 33, fD "serialVersionUID" .long 26 34, fD "serialPersistentFields" (.array (.object "java/io/ObjectStreamField")) 26 35, fD "$assertionsDisabled" .boolean 4120 36]
  methods := #[k23m0, k23m1, k23m2, k23m3, k23m4, k23m5, k23m6]
  instanceTypes := #[.int, (.array .int), .int, .int, .int, .int]
  staticTypes := #[.long, .int, .int, .int, .int, .int, .int, .int, .int, .int, .int, .int, (.array .long), .int, .int, (.object "java/math/BigInteger"), .int, (.array (.object "java/math/BigInteger")), (.array (.object "java/math/BigInteger")), (.array (.array (.object "java/math/BigInteger"))), (.array .double), .double, (.object "java/math/BigInteger"), (.object "java/math/BigInteger"), (.object "java/math/BigInteger"), (.object "java/math/BigInteger"), (.object "java/math/BigInteger"), (.array .int), .int, (.object "java/lang/String"), (.array .int), (.array (.object "java/math/BigInteger")), (.array .int), (.array .int), .long, (.array (.object "java/io/ObjectStreamField")), .boolean]
  resolved := Array.replicate 1542 none
  statics := some 3 }
def pool24 : Array CpInfo := pool [(2, .class_ 4), (1, u "java/lang/Object"), (0, u "<init>"), (0, u "()V"), (7, .class_ 16), (1, u "java/util/Arrays"), (57, .class_ 76), (1, u "java/util/Arrays$NaturalOrder"), (32, u "()Ljava/lang/Object;"), (3, .class_ 115), (1, u "java/util/Arrays$LegacyMergeSort"), (1, u "Z"), (10, .nameAndType 129 109), (0, u "clone"), (9, u "copyOfRange"), (10, .methodref 151 152), (0, .class_ 153), (0, .nameAndType 154 155), (0, u "java/lang/System"), (0, u "arraycopy"), (0, u "(Ljava/lang/Object;ILjava/lang/Object;II)V"), (146, u "copyOf"), (1, .methodref 305 306), (0, .class_ 307), (0, .nameAndType 308 309), (0, u "java/lang/Math"), (0, u "min"), (0, u "(II)I"), (0, .methodref 311 128), (0, .class_ 312), (0, u "[B"), (26, .methodref 14 340), (0, .nameAndType 341 342), (0, u "copyOfRangeByte"), (0, u "([BII)[B"), (0, .methodref 14 344), (0, .nameAndType 345 346), (0, u "checkLength"), (0, u "(II)V"), (28, .class_ 376), (0, u "java/util/Arrays$ArrayList"), (68, u "$assertionsDisabled"), (269, u "MIN_ARRAY_SORT_GRAN"), (0, u "I"), (2, u "INSERTIONSORT_THRESHOLD"), (149, u "([BI)[B"), (1, u "([II)[I"), (0, u "([JI)[J"), (102, .class_ 976), (0, u "java/util/Arrays$ArrayItr")] 52
def k24m0 : Method := mD "<init>" "()V" [] none 2 none
def k24c1 : Code := cD 6 3 jdk_65_method_121_code
def k24m1 : Method := mD "copyOf" "([BI)[B" [(.array .byte), .int] (some (.array .byte)) 9 (some k24c1)
def k24c2 : Code := cD 6 3 jdk_65_method_123_code
def k24m2 : Method := mD "copyOf" "([II)[I" [(.array .int), .int] (some (.array .int)) 9 (some k24c2)
def k24c3 : Code := cD 6 3 jdk_65_method_124_code
def k24m3 : Method := mD "copyOf" "([JI)[J" [(.array .long), .int] (some (.array .long)) 9 (some k24c3)
def k24c4 : Code := cD 4 2 jdk_65_method_131_code
def k24m4 : Method := mD "checkLength" "(II)V" [.int, .int] none 10 (some k24c4)
def k24c5 : Code := cD 3 3 jdk_65_method_132_code
def k24m5 : Method := mD "copyOfRange" "([BII)[B" [(.array .byte), .int, .int] (some (.array .byte)) 9 (some k24c5)
def k24c6 : Code := cD 6 5 jdk_65_method_133_code
def k24m6 : Method := mD "copyOfRangeByte" "([BII)[B" [(.array .byte), .int, .int] (some (.array .byte)) 10 (some k24c6)
def k24 : Class := { plain "java/util/Arrays" (some 0) with
  accessFlags := 49
  cf := some (fileOf pool24 14 #[.nestMembers #[975, 375, 113, 74]] #[mI 2 5 6, mI 9 302 869, mI 9 302 871, mI 9 302 872, mI 10 345 346, mI 9 139 342, mI 10 341 342] 49 2 #[] #[fI 26 715 716, fI 26 719 716, fI 4120 445 117])
  fields := #[fD "MIN_ARRAY_SORT_GRAN" .int 26 0, fD "INSERTIONSORT_THRESHOLD" .int 26 1, fD "$assertionsDisabled" .boolean 4120 2]
  methods := #[k24m0, k24m1, k24m2, k24m3, k24m4, k24m5, k24m6]
  staticTypes := #[.int, .int, .boolean]
  resolved := Array.replicate 1029 none }
def pool25 : Array CpInfo := pool [(1, .class_ 2), (0, u "java/lang/Math"), (1, .class_ 6), (1, u "java/lang/Object"), (0, u "<init>"), (0, u "()V"), (89, .class_ 100), (1, u "java/lang/Math$RandomNumberGeneratorHolder"), (71, u "negativeZeroFloatBits"), (0, u "J"), (2, u "negativeZeroDoubleBits"), (21, u "max"), (2, u "min"), (43, u "$assertionsDisabled"), (0, u "Z"), (88, u "(II)I"), (2, u "twoToTheDoubleScaleDown"), (0, u "D"), (4, u "twoToTheDoubleScaleUp"), (9, u "E"), (3, u "PI"), (2, u "TAU"), (2, u "DEGREES_TO_RADIANS"), (0, u "RADIANS_TO_DEGREES")] 94
def k25m0 : Method := mD "<init>" "()V" [] none 2 none
def k25c1 : Code := cD 2 2 jdk_29_method_65_code
def k25m1 : Method := mD "max" "(II)I" [.int, .int] (some .int) 9 (some k25c1)
def k25c2 : Code := cD 2 2 jdk_29_method_69_code
def k25m2 : Method := mD "min" "(II)I" [.int, .int] (some .int) 9 (some k25c2)
def k25 : Class := { plain "java/lang/Math" (some 0) with
  accessFlags := 49
  cf := some (fileOf pool25 1 #[.nestMembers #[98]] #[mI 2 7 8, mI 9 198 335, mI 9 201 335] 49 4 #[] #[fI 25 354 339, fI 25 358 339, fI 25 361 339, fI 26 364 339, fI 26 365 339, fI 26 172 173, fI 26 176 173, fI 8 344 339, fI 8 338 339, fI 4120 245 246])
  fields := #[fD "E" .double 25 0, fD "PI" .double 25 1, fD "TAU" .double 25 2, fD "DEGREES_TO_RADIANS" .double 26 3, fD "RADIANS_TO_DEGREES" .double 26 4, fD "negativeZeroFloatBits" .long 26 5, fD "negativeZeroDoubleBits" .long 26 6, fD "twoToTheDoubleScaleUp" .double 8 7, fD "twoToTheDoubleScaleDown" .double 8 8, fD "$assertionsDisabled" .boolean 4120 9]
  methods := #[k25m0, k25m1, k25m2]
  staticTypes := #[.double, .double, .double, .double, .double, .long, .long, .double, .double, .boolean]
  resolved := Array.replicate 460 none }
def pool26 : Array CpInfo := pool [(2, .class_ 4), (1, u "java/lang/Object"), (0, u "<init>"), (0, u "()V"), (1, .class_ 10), (1, u "java/lang/System"), (0, u "allowSecurityManager"), (0, u "I"), (16, u "cons"), (0, u "Ljava/io/Console;"), (77, .class_ 110), (1, u "java/lang/System$CallersHolder"), (43, u "initialErrStream"), (0, u "Ljava/io/PrintStream;"), (19, u "security"), (0, u "Ljava/lang/SecurityManager;"), (31, .class_ 209), (0, u "java/lang/System$1"), (7, u "props"), (0, u "Ljava/util/Properties;"), (2, u "lineSeparator"), (0, u "Ljava/lang/String;"), (96, .class_ 321), (1, u "java/lang/System$LoggerFinder"), (5, .class_ 328), (0, u "java/lang/System$Logger"), (67, u "err"), (2, u "out"), (91, u "notSupportedJnuEncoding"), (15, u "in"), (17, u "initialIn"), (0, u "Ljava/io/InputStream;"), (35, u "bootLayer"), (0, u "Ljava/lang/ModuleLayer;"), (99, .class_ 664), (0, u "java/lang/System$2"), (9, u "NEVER"), (2, u "MAYBE"), (49, u "arraycopy"), (0, u "(Ljava/lang/Object;ILjava/lang/Object;II)V"), (72, .class_ 802), (0, u "java/lang/System$Logger$Level")] 31
def k26m0 : Method := mD "<init>" "()V" [] none 2 none
def k26m1 : Method := mD "arraycopy" "(Ljava/lang/Object;ILjava/lang/Object;II)V" [(.object "java/lang/Object"), .int, (.object "java/lang/Object"), .int, .int] none 265 none
def k26 : Class := { plain "java/lang/System" (some 0) with
  accessFlags := 49
  cf := some (fileOf pool26 8 #[.nestMembers #[319, 327, 801, 108, 663, 208]] #[mI 2 5 6, mI 265 727 728] 49 2 #[] #[fI 25 507 526, fI 25 399 155, fI 25 396 155, fI 10 525 526, fI 26 674 12, fI 26 677 12, fI 10 11 12, fI 74 175 176, fI 10 491 222, fI 74 29 30, fI 74 154 155, fI 10 217 218, fI 10 221 222, fI 8 562 563])
  fields := #[fD "in" (.object "java/io/InputStream") 25 0, fD "out" (.object "java/io/PrintStream") 25 1, fD "err" (.object "java/io/PrintStream") 25 2, fD "initialIn" (.object "java/io/InputStream") 10 3, fD "NEVER" .int 26 4, fD "MAYBE" .int 26 5, fD "allowSecurityManager" .int 10 6, fD "security" (.object "java/lang/SecurityManager") 74 7, fD "notSupportedJnuEncoding" (.object "java/lang/String") 10 8, fD "cons" (.object "java/io/Console") 74 9, fD "initialErrStream" (.object "java/io/PrintStream") 74 10, fD "props" (.object "java/util/Properties") 10 11, fD "lineSeparator" (.object "java/lang/String") 10 12, fD "bootLayer" (.object "java/lang/ModuleLayer") 8 13]
  methods := #[k26m0, k26m1]
  staticTypes := #[(.object "java/io/InputStream"), (.object "java/io/PrintStream"), (.object "java/io/PrintStream"), (.object "java/io/InputStream"), .int, .int, .int, (.object "java/lang/SecurityManager"), (.object "java/lang/String"), (.object "java/io/Console"), (.object "java/io/PrintStream"), (.object "java/util/Properties"), (.object "java/lang/String"), (.object "java/lang/ModuleLayer")]
  resolved := Array.replicate 834 none }
def pool27 : Array CpInfo := pool [(1, .methodref 2 3), (0, .class_ 4), (0, .nameAndType 5 6), (0, u "java/lang/Record"), (0, u "<init>"), (0, u "()V"), (0, .string 8), (0, u "account"), (0, .methodref 10 11), (0, .class_ 12), (0, .nameAndType 13 14), (0, u "java/util/Objects"), (0, u "requireNonNull"), (0, u "(Ljava/lang/Object;Ljava/lang/String;)Ljava/lang/Object;"), (0, .methodref 16 17), (0, .class_ 18), (0, .nameAndType 19 20), (0, u "java/math/BigInteger"), (0, u "signum"), (0, u "()I"), (15, .fieldref 37 38), (0, .class_ 39), (0, .nameAndType 8 40), (0, u "com/example/prizewell/prizewell/core/TicketRange"), (0, u "Lcom/example/prizewell/prizewell/core/AccountName;"), (0, .fieldref 37 42), (0, .nameAndType 43 44), (0, u "first"), (0, u "Ljava/math/BigInteger;"), (0, .fieldref 37 46), (0, .nameAndType 47 44), (0, u "count"), (16, u "()Lcom/example/prizewell/prizewell/core/AccountName;"), (13, u "()Ljava/math/BigInteger;"), (22, u "(Lcom/example/prizewell/prizewell/core/AccountName;Ljava/math/BigInteger;Ljava/math/BigInteger;)V")] 45
def k27c0 : Code := cD 4 4 prog_63_method_1_code
def k27m0 : Method := mD "<init>" "(Lcom/example/prizewell/prizewell/core/AccountName;Ljava/math/BigInteger;Ljava/math/BigInteger;)V" [(.object "com/example/prizewell/prizewell/core/AccountName"), (.object "java/math/BigInteger"), (.object "java/math/BigInteger")] none 1 (some k27c0)
def k27c1 : Code := cD 1 1 prog_63_method_9_code
def k27m1 : Method := mD "account" "()Lcom/example/prizewell/prizewell/core/AccountName;" [] (some (.object "com/example/prizewell/prizewell/core/AccountName")) 1 (some k27c1)
def k27c2 : Code := cD 1 1 prog_63_method_10_code
def k27m2 : Method := mD "first" "()Ljava/math/BigInteger;" [] (some (.object "java/math/BigInteger")) 1 (some k27c2)
def k27c3 : Code := cD 1 1 prog_63_method_11_code
def k27m3 : Method := mD "count" "()Ljava/math/BigInteger;" [] (some (.object "java/math/BigInteger")) 1 (some k27c3)
def k27 : Class := { plain "com/example/prizewell/prizewell/core/TicketRange" (some 11) with
  accessFlags := 49
  cf := some (fileOf pool27 37 #[] #[mI 1 5 101, mI 1 8 64, mI 1 43 78, mI 1 47 78] 49 2 #[] #[fI 18 8 40, fI 18 43 44, fI 18 47 44])
  fields := #[fD "account" (.object "com/example/prizewell/prizewell/core/AccountName") 18 0, fD "first" (.object "java/math/BigInteger") 18 1, fD "count" (.object "java/math/BigInteger") 18 2]
  methods := #[k27m0, k27m1, k27m2, k27m3]
  instanceTypes := #[(.object "com/example/prizewell/prizewell/core/AccountName"), (.object "java/math/BigInteger"), (.object "java/math/BigInteger")]
  resolved := Array.replicate 147 none }
def pool28 : Array CpInfo := pool [(2, .class_ 4), (1, u "java/lang/Object"), (0, u "<init>"), (0, u "()V"), (14, .class_ 23), (1, u "java/nio/charset/StandardCharsets"), (0, u "US_ASCII"), (0, u "Ljava/nio/charset/Charset;"), (7, u "ISO_8859_1"), (7, u "UTF_8"), (5, u "UTF_16BE"), (5, u "UTF_16LE"), (5, u "UTF_16")] 8
def k28m0 : Method := mD "<init>" "()V" [] none 2 none
def k28 : Class := { plain "java/nio/charset/StandardCharsets" (some 0) with
  accessFlags := 49
  cf := some (fileOf pool28 21 #[] #[mI 2 5 6] 49 2 #[] #[fI 25 24 25, fI 25 33 25, fI 25 41 25, fI 25 47 25, fI 25 53 25, fI 25 59 25])
  fields := #[fD "US_ASCII" (.object "java/nio/charset/Charset") 25 0, fD "ISO_8859_1" (.object "java/nio/charset/Charset") 25 1, fD "UTF_8" (.object "java/nio/charset/Charset") 25 2, fD "UTF_16BE" (.object "java/nio/charset/Charset") 25 3, fD "UTF_16LE" (.object "java/nio/charset/Charset") 25 4, fD "UTF_16" (.object "java/nio/charset/Charset") 25 5]
  methods := #[k28m0]
  staticTypes := #[(.object "java/nio/charset/Charset"), (.object "java/nio/charset/Charset"), (.object "java/nio/charset/Charset"), (.object "java/nio/charset/Charset"), (.object "java/nio/charset/Charset"), (.object "java/nio/charset/Charset")]
  resolved := Array.replicate 68 none
  statics := some 4 }
def pool29 : Array CpInfo := pool [(18, .class_ 20), (1, u "java/nio/charset/Charset"), (0, u "cache1"), (0, u "[Ljava/lang/Object;"), (2, u "cache2"), (0, .class_ 27), (0, u "java/lang/Object"), (0, .class_ 29), (0, u "java/nio/charset/Charset$1"), (4, .class_ 36), (1, u "java/nio/charset/Charset$ThreadTrackHolder"), (21, .class_ 59), (0, u "java/nio/charset/Charset$2"), (11, .class_ 73), (1, u "java/nio/charset/Charset$ExtendedProviderHolder"), (22, u "standardProvider"), (0, u "Ljava/nio/charset/spi/CharsetProvider;"), (29, u "name"), (7, .class_ 136), (0, u "java/nio/charset/Charset$3"), (5, u "defaultCharset"), (0, u "Ljava/nio/charset/Charset;"), (14, u "zeroAliases"), (0, u "[Ljava/lang/String;"), (29, u "Ljava/lang/String;"), (2, u "aliases"), (2, u "aliasSet"), (0, u "Ljava/util/Set;"), (82, .class_ 280), (0, u "java/lang/Comparable"), (84, .class_ 366), (0, u "java/nio/charset/Charset$ExtendedProviderHolder$1")] 3
def k29 : Class := { plain "java/nio/charset/Charset" (some 0) with
  accessFlags := 1057
  interfaces := #[3]
  cf := some (fileOf pool29 18 #[.nestMembers #[71, 365, 34, 135, 58, 28]] #[] 1057 26 #[279] #[fI 26 96 97, fI 26 158 159, fI 74 21 22, fI 74 25 22, fI 10 142 143, fI 18 127 189, fI 18 192 159, fI 2 195 196])
  fields := #[fD "standardProvider" (.object "java/nio/charset/spi/CharsetProvider") 26 0, fD "zeroAliases" (.array (.object "java/lang/String")) 26 1, fD "cache1" (.array (.object "java/lang/Object")) 74 2, fD "cache2" (.array (.object "java/lang/Object")) 74 3, fD "defaultCharset" (.object "java/nio/charset/Charset") 10 4, fD "name" (.object "java/lang/String") 18 0, fD "aliases" (.array (.object "java/lang/String")) 18 1, fD "aliasSet" (.object "java/util/Set") 2 2]
  instanceTypes := #[(.object "java/lang/String"), (.array (.object "java/lang/String")), (.object "java/util/Set")]
  staticTypes := #[(.object "java/nio/charset/spi/CharsetProvider"), (.array (.object "java/lang/String")), (.array (.object "java/lang/Object")), (.array (.object "java/lang/Object")), (.object "java/nio/charset/Charset")]
  resolved := Array.replicate 370 none }
def pool30 : Array CpInfo := pool [(1, .class_ 2), (0, u "sun/nio/cs/HistoricallyNamedCharset"), (0, .class_ 4), (0, u "java/lang/Object")] 4
def k30 : Class := { plain "sun/nio/cs/HistoricallyNamedCharset" (some 0) with
  accessFlags := 1537
  cf := some (fileOf pool30 1 #[] #[] 1537 3 #[] #[])
  resolved := Array.replicate 9 none }
def pool31 : Array CpInfo := pool [(10, .class_ 12), (1, u "java/nio/charset/Charset"), (0, u "<init>"), (3, .class_ 18), (0, u "sun/nio/cs/US_ASCII"), (0, .class_ 20), (0, u "sun/nio/cs/US_ASCII$Decoder"), (3, .class_ 25), (0, u "sun/nio/cs/US_ASCII$Encoder"), (3, u "()V"), (2, u "INSTANCE"), (0, u "Lsun/nio/cs/US_ASCII;"), (8, u "JLA"), (0, u "Ljdk/internal/access/JavaLangAccess;"), (0, .class_ 45), (0, u "sun/nio/cs/HistoricallyNamedCharset")] 21
def k31m0 : Method := mD "<init>" "()V" [] none 1 none
def k31 : Class := { plain "sun/nio/cs/US_ASCII" (some 29) with
  accessFlags := 33
  interfaces := #[30]
  cf := some (fileOf pool31 17 #[.nestMembers #[24, 19]] #[mI 1 13 29] 33 10 #[44] #[fI 25 32 33, fI 26 42 43])
  fields := #[fD "INSTANCE" (.object "sun/nio/cs/US_ASCII") 25 0, fD "JLA" (.object "jdk/internal/access/JavaLangAccess") 26 1]
  methods := #[k31m0]
  instanceTypes := #[(.object "java/lang/String"), (.array (.object "java/lang/String")), (.object "java/util/Set")]
  staticTypes := #[(.object "sun/nio/cs/US_ASCII"), (.object "jdk/internal/access/JavaLangAccess")]
  resolved := Array.replicate 67 none
  statics := some 5 }
def pool32 : Array CpInfo := pool [(2, .class_ 4), (1, u "java/nio/charset/Charset"), (130, .class_ 136), (0, u "sun/nio/cs/Unicode"), (0, .class_ 138), (0, u "sun/nio/cs/HistoricallyNamedCharset")] 15
def k32 : Class := { plain "sun/nio/cs/Unicode" (some 29) with
  accessFlags := 1056
  interfaces := #[30]
  cf := some (fileOf pool32 135 #[] #[] 1056 2 #[137] #[])
  instanceTypes := #[(.object "java/lang/String"), (.array (.object "java/lang/String")), (.object "java/util/Set")]
  resolved := Array.replicate 154 none }
def pool33 : Array CpInfo := pool [(10, .class_ 12), (1, u "sun/nio/cs/Unicode"), (0, u "<init>"), (3, .class_ 18), (0, u "sun/nio/cs/UTF_8$Decoder"), (3, .class_ 23), (0, u "sun/nio/cs/UTF_8$Encoder"), (15, .class_ 40), (0, u "sun/nio/cs/UTF_8"), (2, u "()V"), (2, u "INSTANCE"), (0, u "Lsun/nio/cs/UTF_8;"), (8, u "JLA"), (0, u "Ljdk/internal/access/JavaLangAccess;")] 26
def k33m0 : Method := mD "<init>" "()V" [] none 1 none
def k33 : Class := { plain "sun/nio/cs/UTF_8" (some 32) with
  accessFlags := 49
  cf := some (fileOf pool33 39 #[.nestMembers #[22, 17]] #[mI 1 13 43] 49 10 #[] #[fI 25 46 47, fI 26 56 57])
  fields := #[fD "INSTANCE" (.object "sun/nio/cs/UTF_8") 25 0, fD "JLA" (.object "jdk/internal/access/JavaLangAccess") 26 1]
  methods := #[k33m0]
  instanceTypes := #[(.object "java/lang/String"), (.array (.object "java/lang/String")), (.object "java/util/Set")]
  staticTypes := #[(.object "sun/nio/cs/UTF_8"), (.object "jdk/internal/access/JavaLangAccess")]
  resolved := Array.replicate 84 none
  statics := some 6 }
def pool34 : Array CpInfo := pool [(10, .class_ 12), (1, u "java/nio/charset/Charset"), (0, u "<init>"), (5, .class_ 20), (0, u "sun/nio/cs/ISO_8859_1"), (0, .class_ 22), (0, u "sun/nio/cs/ISO_8859_1$Decoder"), (3, .class_ 27), (0, u "sun/nio/cs/ISO_8859_1$Encoder"), (3, u "()V"), (2, u "INSTANCE"), (0, u "Lsun/nio/cs/ISO_8859_1;"), (0, .class_ 37), (0, u "sun/nio/cs/HistoricallyNamedCharset")] 22
def k34m0 : Method := mD "<init>" "()V" [] none 1 none
def k34 : Class := { plain "sun/nio/cs/ISO_8859_1" (some 29) with
  accessFlags := 33
  interfaces := #[30]
  cf := some (fileOf pool34 19 #[.nestMembers #[26, 21]] #[mI 1 13 31] 33 10 #[36] #[fI 25 34 35])
  fields := #[fD "INSTANCE" (.object "sun/nio/cs/ISO_8859_1") 25 0]
  methods := #[k34m0]
  instanceTypes := #[(.object "java/lang/String"), (.array (.object "java/lang/String")), (.object "java/util/Set")]
  staticTypes := #[(.object "sun/nio/cs/ISO_8859_1")]
  resolved := Array.replicate 60 none
  statics := some 7 }
def pool35 : Array CpInfo := pool [(2, .class_ 4), (1, u "java/lang/Object"), (0, u "<init>"), (0, u "()V"), (0, .methodref 8 9), (0, .class_ 10), (0, .nameAndType 11 12), (0, u "java/lang/StringCoding"), (0, u "countPositives"), (0, u "([BII)I"), (11, u "hasNegatives"), (0, u "([BII)Z")] 23
def k35m0 : Method := mD "<init>" "()V" [] none 2 none
def k35c1 : Code := cD 3 3 jdk_123_method_2_code
def k35m1 : Method := mD "hasNegatives" "([BII)Z" [(.array .byte), .int, .int] (some .boolean) 9 (some k35c1)
def k35c2 : Code := cD 2 5 jdk_123_method_3_code
def k35m2 : Method := mD "countPositives" "([BII)I" [(.array .byte), .int, .int] (some .int) 9 (some k35c2)
def k35 : Class := { plain "java/lang/StringCoding" (some 0) with
  accessFlags := 32
  cf := some (fileOf pool35 8 #[] #[mI 2 5 6, mI 9 24 25, mI 9 11 12] 32 2 #[] #[])
  methods := #[k35m0, k35m1, k35m2]
  resolved := Array.replicate 49 none }
def pool36 : Array CpInfo := pool [(1, .class_ 2), (0, u "java/lang/Cloneable"), (0, .class_ 4), (0, u "java/lang/Object")] 2
def k36 : Class := { plain "java/lang/Cloneable" (some 0) with
  accessFlags := 1537
  cf := some (fileOf pool36 1 #[] #[] 1537 3 #[] #[])
  resolved := Array.replicate 7 none }
def k37 : Class := { plain "boolean" none with kind := .primitive 'Z', accessFlags := 0x411 }
def k38 : Class := { plain "[Z" (some 0) with kind := .array 37 .boolean, interfaces := #[36, 2], accessFlags := 1041 }
def k39 : Class := { plain "byte" none with kind := .primitive 'B', accessFlags := 0x411 }
def k40 : Class := { plain "[B" (some 0) with kind := .array 39 .byte, interfaces := #[36, 2], accessFlags := 1041 }
def k41 : Class := { plain "char" none with kind := .primitive 'C', accessFlags := 0x411 }
def k42 : Class := { plain "[C" (some 0) with kind := .array 41 .char, interfaces := #[36, 2], accessFlags := 1041 }
def k43 : Class := { plain "int" none with kind := .primitive 'I', accessFlags := 0x411 }
def k44 : Class := { plain "[I" (some 0) with kind := .array 43 .int, interfaces := #[36, 2], accessFlags := 1041 }
def k45 : Class := { plain "long" none with kind := .primitive 'J', accessFlags := 0x411 }
def k46 : Class := { plain "[J" (some 0) with kind := .array 45 .long, interfaces := #[36, 2], accessFlags := 1041 }
def k47 : Class := { plain "[Ljava/math/BigInteger;" (some 0) with kind := .array 23 (.object "java/math/BigInteger"), interfaces := #[36, 2], accessFlags := 1041 }
def heap : Heap := #[{ cls := 7, slots := #[.long 0, .int 1, .null, .int 0, .null, .int 0, .int 0], vm := .statics 7 },
  { cls := 9, slots := #[.null, .null, .null], vm := .statics 9 },
  { cls := 12, slots := #[.int 0, .null, .ref 8], vm := .statics 12 },
  { cls := 23, slots := #[.long 0, .int 0, .int 0, .int 0, .int 0, .int 0, .int 0, .int 0, .int 0, .int 0, .int 0, .int 0, .null, .int 0, .int 0, .null, .int 0, .ref 43, .null, .null, .null, .double 0, .ref 10, .ref 27, .ref 28, .null, .ref 36, .null, .int 0, .null, .null, .null, .null, .null, .long 0, .null, .int 0], vm := .statics 23 },
  { cls := 28, slots := #[.ref 44, .null, .null, .null, .null, .null], vm := .statics 28 },
  { cls := 31, slots := #[.ref 44, .null], vm := .statics 31 },
  { cls := 33, slots := #[.ref 45, .null], vm := .statics 33 },
  { cls := 34, slots := #[.ref 46], vm := .statics 34 },
  { cls := 38, slots := #[.int 0, .int 0, .int 0, .int 0, .int 0, .int 0, .int 0, .int 0, .int 0, .int 0, .int 0, .int 0, .int 0, .int 0, .int 0, .int 0, .int 0, .int 0, .int 0, .int 0, .int 0, .int 0, .int 0, .int 0, .int 0, .int 0, .int 0, .int 0, .int 0, .int 0, .int 0, .int 0, .int 0, .int 0, .int 0, .int 0, .int 0, .int 0, .int 0, .int 0, .int 0, .int 0, .int 0, .int 0, .int 0, .int 1, .int 1, .int 0, .int 1, .int 1, .int 1, .int 1, .int 1, .int 1, .int 1, .int 1, .int 1, .int 1, .int 0, .int 0, .int 0, .int 0, .int 0, .int 0, .int 0, .int 1, .int 1, .int 1, .int 1, .int 1, .int 1, .int 1, .int 1, .int 1, .int 1, .int 1, .int 1, .int 1, .int 1, .int 1, .int 1, .int 1, .int 1, .int 1, .int 1, .int 1, .int 1, .int 1, .int 1, .int 1, .int 1, .int 0, .int 0, .int 0, .int 0, .int 1, .int 0, .int 1, .int 1, .int 1, .int 1, .int 1, .int 1, .int 1, .int 1, .int 1, .int 1, .int 1, .int 1, .int 1, .int 1, .int 1, .int 1, .int 1, .int 1, .int 1, .int 1, .int 1, .int 1, .int 1, .int 1, .int 1, .int 1, .int 0, .int 0, .int 0, .int 0, .int 0], vm := .none },
  { cls := 44, slots := #[], vm := .none },
  { cls := 23, slots := #[.int 0, .ref 9, .int 0, .int 0, .int 0, .int 0], vm := .none },
  { cls := 44, slots := #[.int 1], vm := .none },
  { cls := 44, slots := #[.int 2], vm := .none },
  { cls := 44, slots := #[.int 3], vm := .none },
  { cls := 44, slots := #[.int 4], vm := .none },
  { cls := 44, slots := #[.int 5], vm := .none },
  { cls := 44, slots := #[.int 6], vm := .none },
  { cls := 44, slots := #[.int 7], vm := .none },
  { cls := 44, slots := #[.int 8], vm := .none },
  { cls := 44, slots := #[.int 9], vm := .none },
  { cls := 44, slots := #[.int 10], vm := .none },
  { cls := 44, slots := #[.int 11], vm := .none },
  { cls := 44, slots := #[.int 12], vm := .none },
  { cls := 44, slots := #[.int 13], vm := .none },
  { cls := 44, slots := #[.int 14], vm := .none },
  { cls := 44, slots := #[.int 15], vm := .none },
  { cls := 44, slots := #[.int 16], vm := .none },
  { cls := 23, slots := #[.int 1, .ref 11, .int 0, .int 0, .int 0, .int 0], vm := .none },
  { cls := 23, slots := #[.int 1, .ref 12, .int 0, .int 0, .int 0, .int 0], vm := .none },
  { cls := 23, slots := #[.int 1, .ref 13, .int 0, .int 0, .int 0, .int 0], vm := .none },
  { cls := 23, slots := #[.int 1, .ref 14, .int 0, .int 0, .int 0, .int 0], vm := .none },
  { cls := 23, slots := #[.int 1, .ref 15, .int 0, .int 0, .int 0, .int 0], vm := .none },
  { cls := 23, slots := #[.int 1, .ref 16, .int 0, .int 0, .int 0, .int 0], vm := .none },
  { cls := 23, slots := #[.int 1, .ref 17, .int 0, .int 0, .int 0, .int 0], vm := .none },
  { cls := 23, slots := #[.int 1, .ref 18, .int 0, .int 0, .int 0, .int 0], vm := .none },
  { cls := 23, slots := #[.int 1, .ref 19, .int 0, .int 0, .int 0, .int 0], vm := .none },
  { cls := 23, slots := #[.int 1, .ref 20, .int 0, .int 0, .int 0, .int 0], vm := .none },
  { cls := 23, slots := #[.int 1, .ref 21, .int 0, .int 0, .int 0, .int 0], vm := .none },
  { cls := 23, slots := #[.int 1, .ref 22, .int 0, .int 0, .int 0, .int 0], vm := .none },
  { cls := 23, slots := #[.int 1, .ref 23, .int 0, .int 0, .int 0, .int 0], vm := .none },
  { cls := 23, slots := #[.int 1, .ref 24, .int 0, .int 0, .int 0, .int 0], vm := .none },
  { cls := 23, slots := #[.int 1, .ref 25, .int 0, .int 0, .int 0, .int 0], vm := .none },
  { cls := 23, slots := #[.int 1, .ref 26, .int 0, .int 0, .int 0, .int 0], vm := .none },
  { cls := 47, slots := #[.null, .ref 27, .ref 28, .ref 29, .ref 30, .ref 31, .ref 32, .ref 33, .ref 34, .ref 35, .ref 36, .ref 37, .ref 38, .ref 39, .ref 40, .ref 41, .ref 42], vm := .none },
  { cls := 31, slots := #[.null, .null, .null], vm := .none },
  { cls := 33, slots := #[.null, .null, .null], vm := .none },
  { cls := 34, slots := #[.null, .null, .null], vm := .none }]
def k48 : Class := plain "jdk/internal/util/ArraysSupport" (some 0)
def classes : Array Class := #[k0, k1, k2, k3, k4, k5, k6, k7, k8, k9, k10, k11, k12, k13, k14, k15, k16, k17, k18, k19, k20, k21, k22, k23, k24, k25, k26, k27, k28, k29, k30, k31, k32, k33, k34, k35, k36, k37, k38, k39, k40, k41, k42, k43, k44, k45, k46, k47, k48]
def interned : List (Array UInt16 × Addr) := []
def slotsUsed : Nat := 333
def theMethod : MethodId := ⟨1, 4⟩
def args0 : Array Value := #[.long 3, .long 3, .int 3, .int 3, .int 3]
def aboutOver (below : List Frame) : State where
  vm := { classes := classes, interned := interned.toArray }
  heap := heap
  slotsUsed := slotsUsed
  threads := #[{ frames := .invoking theMethod args0 :: below }]
def below0 : List Frame := [.native { method := ⟨0, 0⟩, args := #[] }]
def about1 : State := aboutOver below0
def p0 : Program := .bare "" "" ""
def e0 : Env := launch0.env 0 0 0
theorem w_frames : about1.frames = Frame.invoking theMethod args0 :: below0 := rfl
theorem w_args : argsFit about1.vm theMethod args0 = true := by decide +kernel
theorem w_heap : heapFits about1 = true := by decide +kernel
theorem w_runnable : about1.curStatus? = some .runnable := by decide +kernel
theorem w_alone : about1.alone = true := by decide +kernel
theorem w_named : about1.methodNamed? x = some theMethod := by decide +kernel
theorem w_hears : about1.hears theMethod below0 = true := by decide +kernel
theorem w_ripe : about1.ripe theMethod args0 below0 = true := by decide +kernel
theorem w_running : about1.status = .running := rfl
theorem w_room : about1.hasRoom e0.platform room_1 = true :=
  launch0.hasRoom_least _ room_1 (by decide +kernel) (by decide +kernel) (by decide +kernel) (by decide +kernel) (by decide +kernel) (by decide +kernel)
theorem allAtoms_all (ts : List Jvm.Cond) (a : Array Jvm.Value) (st : Jvm.State) : (allAtoms ts).before a st = ts.all (fun c => c.before a st) := by
  induction ts with
  | nil => rfl
  | cons c t ih =>
    show (Jvm.Cond.and c (allAtoms t)).before a st = _
    rw [Jvm.Cond.before_and, ih, List.all_cons]
def words1 : List Jvm.Cond := Jvm.Cond.code x code maxLocals ret :: tables_1
theorem code_word {y : MethodName} {bytes : ByteArray} {mx : Nat} {rt : Option FieldType} {a : Array Value} {s : State} {m : MethodId} {meth : Method} {c : Code} (h1 : s.methodNamed? y = some m) (h2 : s.vm.method? m = some meth) (h3 : meth.code = some c) (h4 : c.code = bytes)
    (h5 : (c.maxLocals == mx && c.exceptionTable.isEmpty && decide (c.maxStack ≤ mostOperands) && decide (meth.sig.returnType = rt) && !meth.locks && decide (parseMethodDescriptor y.desc = some meth.sig)) = true) : (Jvm.Cond.code y bytes mx rt).before a s = true := by
  simp only [Bool.and_eq_true, beq_iff_eq, Bool.not_eq_true', decide_eq_true_eq] at h5
  obtain ⟨⟨⟨⟨⟨g1, g2⟩, g3⟩, g4⟩, g5⟩, g6⟩ := h5
  simp [Cond.before, Cond.holds, Cond.value, h1, h2, h3, h4, g1, g2, g3, g4, g5, g6]
theorem code_wordW {y : MethodName} {bytes : ByteArray} {mx : Nat} {rt : Option FieldType} {hs : List (Nat × Nat × Nat × Nat)} {a : Array Value} {s : State} {m : MethodId} {meth : Method} {c : Code} (h1 : s.methodNamed? y = some m) (h2 : s.vm.method? m = some meth) (h3 : meth.code = some c) (h4 : c.code = bytes)
    (h5 : (c.maxLocals == mx && decide (c.exceptionTable.toList.map (fun h => (h.startPc, h.endPc, h.handlerPc, h.catchType)) = hs) && decide (c.maxStack ≤ mostOperands) && decide (meth.sig.returnType = rt) && !meth.locks && decide (parseMethodDescriptor y.desc = some meth.sig)) = true) : (Jvm.Cond.codeWith y bytes mx rt hs).before a s = true := by
  simp only [Bool.and_eq_true, beq_iff_eq, Bool.not_eq_true', decide_eq_true_eq] at h5
  obtain ⟨⟨⟨⟨⟨g1, g2⟩, g3⟩, g4⟩, g5⟩, g6⟩ := h5
  simp [Cond.before, Cond.holds, Cond.value, h1, h2, h3, h4, g1, g2, g3, g4, g5, g6]
def isCode : Jvm.Cond → Bool
  | .code _ _ _ _ => true
  | .codeWith _ _ _ _ _ => true
  | _ => false
theorem all_split {L : List Jvm.Cond} {P : Jvm.Cond → Bool} (h1 : L.all (fun c => isCode c || P c) = true) (h2 : ∀ c ∈ L.filter isCode, P c = true) : L.all P = true := by
  refine List.all_eq_true.mpr fun c hc => ?_
  have h := List.all_eq_true.mp h1 c hc
  rcases Bool.eq_false_or_eq_true (isCode c) with hi | hi
  · exact h2 c (List.mem_filter.mpr ⟨hc, hi⟩)
  · simpa [hi] using h
abbrev cw0 : Jvm.Cond := Jvm.Cond.code x code maxLocals ret
abbrev cw1 : Jvm.Cond := Jvm.Cond.code ⟨"com/example/prizewell/prizewell/core/TicketRangesAddAllPinLaw", "name", "(IZ)Ljava/lang/String;"⟩ method_2_code (5 : Nat) (Option.some (FieldType.object "java/lang/String"))
abbrev cw2 : Jvm.Cond := Jvm.Cond.code ⟨"java/lang/String", "charAt", "(I)C"⟩ jdk_42_method_56_code (2 : Nat) (Option.some FieldType.char)
abbrev cw3 : Jvm.Cond := Jvm.Cond.code ⟨"java/lang/String", "isLatin1", "()Z"⟩ jdk_42_method_154_code (1 : Nat) (Option.some FieldType.boolean)
abbrev cw4 : Jvm.Cond := Jvm.Cond.code ⟨"java/lang/StringLatin1", "charAt", "([BI)C"⟩ jdk_43_method_2_code (2 : Nat) (Option.some FieldType.char)
abbrev cw5 : Jvm.Cond := Jvm.Cond.code ⟨"java/lang/String", "checkIndex", "(II)V"⟩ jdk_42_method_155_code (2 : Nat) (Option.none : Option FieldType)
abbrev cw6 : Jvm.Cond := Jvm.Cond.code ⟨"jdk/internal/util/Preconditions", "checkIndex", "(IILjava/util/function/BiFunction;)I"⟩ jdk_41_method_11_code (3 : Nat) (Option.some FieldType.int)
abbrev cw7 : Jvm.Cond := Jvm.Cond.code ⟨"java/lang/String", "<init>", "([C)V"⟩ jdk_42_method_3_code (2 : Nat) (Option.none : Option FieldType)
abbrev cw8 : Jvm.Cond := Jvm.Cond.code ⟨"java/lang/String", "<init>", "([CIILjava/lang/Void;)V"⟩ jdk_42_method_149_code (6 : Nat) (Option.none : Option FieldType)
abbrev cw9 : Jvm.Cond := Jvm.Cond.code ⟨"java/lang/Object", "<init>", "()V"⟩ object_method_1_code (1 : Nat) (Option.none : Option FieldType)
abbrev cw10 : Jvm.Cond := Jvm.Cond.code ⟨"java/lang/StringUTF16", "compress", "([CII)[B"⟩ jdk_52_method_16_code (6 : Nat) (Option.some (FieldType.array FieldType.byte))
abbrev cw11 : Jvm.Cond := Jvm.Cond.code ⟨"java/lang/StringUTF16", "compress", "([CI[BII)I"⟩ jdk_52_method_21_code (7 : Nat) (Option.some FieldType.int)
abbrev cw12 : Jvm.Cond := Jvm.Cond.code ⟨"java/lang/StringUTF16", "coderFromArrayLen", "([BI)B"⟩ jdk_52_method_15_code (2 : Nat) (Option.some FieldType.byte)
abbrev cw13 : Jvm.Cond := Jvm.Cond.code ⟨"com/example/prizewell/prizewell/core/AccountName", "<init>", "(Ljava/lang/String;)V"⟩ prog_10_method_1_code (2 : Nat) (Option.none : Option FieldType)
abbrev cw14 : Jvm.Cond := Jvm.Cond.code ⟨"java/lang/Record", "<init>", "()V"⟩ jdk_30_method_1_code (1 : Nat) (Option.none : Option FieldType)
abbrev cw15 : Jvm.Cond := Jvm.Cond.code ⟨"java/util/Objects", "requireNonNull", "(Ljava/lang/Object;Ljava/lang/String;)Ljava/lang/Object;"⟩ jdk_31_method_11_code (2 : Nat) (Option.some (FieldType.object "java/lang/Object"))
abbrev cw16 : Jvm.Cond := Jvm.Cond.code ⟨"com/example/prizewell/prizewell/core/AccountName", "isWellFormed", "(Ljava/lang/String;)Z"⟩ prog_10_method_5_code (1 : Nat) (Option.some FieldType.boolean)
abbrev cw17 : Jvm.Cond := Jvm.Cond.code ⟨"java/lang/String", "length", "()I"⟩ jdk_42_method_54_code (1 : Nat) (Option.some FieldType.int)
abbrev cw18 : Jvm.Cond := Jvm.Cond.code ⟨"java/lang/String", "coder", "()B"⟩ jdk_42_method_152_code (1 : Nat) (Option.some FieldType.byte)
abbrev cw19 : Jvm.Cond := Jvm.Cond.code ⟨"com/example/prizewell/prizewell/core/AccountName", "isWellFormed", "(Ljava/lang/String;II)Z"⟩ prog_10_method_6_code (5 : Nat) (Option.some FieldType.boolean)
abbrev cw20 : Jvm.Cond := Jvm.Cond.code ⟨"com/example/prizewell/prizewell/core/TicketRanges", "<init>", "()V"⟩ prog_64_method_1_code (1 : Nat) (Option.none : Option FieldType)
abbrev cw21 : Jvm.Cond := Jvm.Cond.code ⟨"java/util/AbstractList", "<init>", "()V"⟩ jdk_39_method_1_code (1 : Nat) (Option.none : Option FieldType)
abbrev cw22 : Jvm.Cond := Jvm.Cond.code ⟨"java/util/AbstractCollection", "<init>", "()V"⟩ jdk_22_method_1_code (1 : Nat) (Option.none : Option FieldType)
abbrev cw23 : Jvm.Cond := Jvm.Cond.code ⟨"com/example/prizewell/prizewell/core/TicketRanges", "addAll", "(Lcom/example/prizewell/prizewell/core/TicketRanges;)V"⟩ prog_64_method_3_code (5 : Nat) (Option.none : Option FieldType)
abbrev cw24 : Jvm.Cond := Jvm.Cond.code ⟨"com/example/prizewell/prizewell/core/TicketRanges", "size", "()I"⟩ prog_64_method_8_code (1 : Nat) (Option.some FieldType.int)
abbrev cw25 : Jvm.Cond := Jvm.Cond.code ⟨"com/example/prizewell/prizewell/core/TicketRangesAddAllPinLaw", "put", "(Lcom/example/prizewell/prizewell/core/TicketRanges;Lcom/example/prizewell/prizewell/core/AccountName;JJ)V"⟩ method_3_code (6 : Nat) (Option.none : Option FieldType)
abbrev cw26 : Jvm.Cond := Jvm.Cond.code ⟨"java/math/BigInteger", "valueOf", "(J)Ljava/math/BigInteger;"⟩ jdk_2097_method_29_code (2 : Nat) (Option.some (FieldType.object "java/math/BigInteger"))
abbrev cw27 : Jvm.Cond := Jvm.Cond.code ⟨"com/example/prizewell/prizewell/core/TicketRanges", "add", "(Lcom/example/prizewell/prizewell/core/AccountName;Ljava/math/BigInteger;Ljava/math/BigInteger;)V"⟩ prog_64_method_2_code (8 : Nat) (Option.none : Option FieldType)
abbrev cw28 : Jvm.Cond := Jvm.Cond.code ⟨"com/example/prizewell/prizewell/core/AccountName", "value", "()Ljava/lang/String;"⟩ prog_10_method_10_code (1 : Nat) (Option.some (FieldType.object "java/lang/String"))
abbrev cw29 : Jvm.Cond := Jvm.Cond.code ⟨"java/util/Arrays", "copyOf", "([JI)[J"⟩ jdk_65_method_124_code (3 : Nat) (Option.some (FieldType.array FieldType.long))
abbrev cw30 : Jvm.Cond := Jvm.Cond.code ⟨"java/lang/Math", "min", "(II)I"⟩ jdk_29_method_69_code (2 : Nat) (Option.some FieldType.int)
abbrev cw31 : Jvm.Cond := Jvm.Cond.code ⟨"java/util/Arrays", "copyOf", "([II)[I"⟩ jdk_65_method_123_code (3 : Nat) (Option.some (FieldType.array FieldType.int))
abbrev cw32 : Jvm.Cond := Jvm.Cond.code ⟨"java/lang/Math", "max", "(II)I"⟩ jdk_29_method_65_code (2 : Nat) (Option.some FieldType.int)
abbrev cw33 : Jvm.Cond := Jvm.Cond.code ⟨"java/util/Arrays", "copyOf", "([BI)[B"⟩ jdk_65_method_121_code (3 : Nat) (Option.some (FieldType.array FieldType.byte))
abbrev cw34 : Jvm.Cond := Jvm.Cond.code ⟨"java/math/BigInteger", "longValue", "()J"⟩ jdk_2097_method_136_code (4 : Nat) (Option.some FieldType.long)
abbrev cw35 : Jvm.Cond := Jvm.Cond.code ⟨"java/math/BigInteger", "getInt", "(I)I"⟩ jdk_2097_method_148_code (3 : Nat) (Option.some FieldType.int)
abbrev cw36 : Jvm.Cond := Jvm.Cond.code ⟨"java/math/BigInteger", "signInt", "()I"⟩ jdk_2097_method_147_code (1 : Nat) (Option.some FieldType.int)
abbrev cw37 : Jvm.Cond := Jvm.Cond.code ⟨"java/math/BigInteger", "<init>", "(J)V"⟩ jdk_2097_method_30_code (4 : Nat) (Option.none : Option FieldType)
abbrev cw38 : Jvm.Cond := Jvm.Cond.code ⟨"java/lang/Number", "<init>", "()V"⟩ jdk_18_method_1_code (1 : Nat) (Option.none : Option FieldType)
abbrev cw39 : Jvm.Cond := Jvm.Cond.code ⟨"com/example/prizewell/prizewell/core/TicketRangesAddAllPinLaw", "same", "(Lcom/example/prizewell/prizewell/core/TicketRanges;ILjava/lang/String;JJ)Z"⟩ method_4_code (8 : Nat) (Option.some FieldType.boolean)
abbrev cw40 : Jvm.Cond := Jvm.Cond.code ⟨"com/example/prizewell/prizewell/core/TicketRanges", "get", "(I)Lcom/example/prizewell/prizewell/core/TicketRange;"⟩ prog_64_method_7_code (2 : Nat) (Option.some (FieldType.object "com/example/prizewell/prizewell/core/TicketRange"))
abbrev cw41 : Jvm.Cond := Jvm.Cond.code ⟨"com/example/prizewell/prizewell/core/TicketRanges", "accountName", "(I)Ljava/lang/String;"⟩ prog_64_method_5_code (3 : Nat) (Option.some (FieldType.object "java/lang/String"))
abbrev cw42 : Jvm.Cond := Jvm.Cond.code ⟨"java/lang/String", "<init>", "([BIILjava/nio/charset/Charset;)V"⟩ jdk_42_method_10_code (5 : Nat) (Option.none : Option FieldType)
abbrev cw43 : Jvm.Cond := Jvm.Cond.code ⟨"java/util/Objects", "requireNonNull", "(Ljava/lang/Object;)Ljava/lang/Object;"⟩ jdk_31_method_10_code (1 : Nat) (Option.some (FieldType.object "java/lang/Object"))
abbrev cw44 : Jvm.Cond := Jvm.Cond.code ⟨"java/lang/String", "checkBoundsOffCount", "(III)I"⟩ jdk_42_method_157_code (3 : Nat) (Option.some FieldType.int)
abbrev cw45 : Jvm.Cond := Jvm.Cond.code ⟨"jdk/internal/util/Preconditions", "checkFromIndexSize", "(IIILjava/util/function/BiFunction;)I"⟩ jdk_41_method_13_code (4 : Nat) (Option.some FieldType.int)
abbrev cw46 : Jvm.Cond := Jvm.Cond.code ⟨"java/lang/StringCoding", "hasNegatives", "([BII)Z"⟩ jdk_123_method_2_code (3 : Nat) (Option.some FieldType.boolean)
abbrev cw47 : Jvm.Cond := Jvm.Cond.code ⟨"java/lang/StringCoding", "countPositives", "([BII)I"⟩ jdk_123_method_3_code (5 : Nat) (Option.some FieldType.int)
abbrev cw48 : Jvm.Cond := Jvm.Cond.code ⟨"java/util/Arrays", "copyOfRange", "([BII)[B"⟩ jdk_65_method_132_code (3 : Nat) (Option.some (FieldType.array FieldType.byte))
abbrev cw49 : Jvm.Cond := Jvm.Cond.code ⟨"java/util/Arrays", "copyOfRangeByte", "([BII)[B"⟩ jdk_65_method_133_code (5 : Nat) (Option.some (FieldType.array FieldType.byte))
abbrev cw50 : Jvm.Cond := Jvm.Cond.code ⟨"java/util/Arrays", "checkLength", "(II)V"⟩ jdk_65_method_131_code (2 : Nat) (Option.none : Option FieldType)
abbrev cw51 : Jvm.Cond := Jvm.Cond.code ⟨"com/example/prizewell/prizewell/core/TicketRanges", "unsigned", "(J)Ljava/math/BigInteger;"⟩ prog_64_method_9_code (3 : Nat) (Option.some (FieldType.object "java/math/BigInteger"))
abbrev cw52 : Jvm.Cond := Jvm.Cond.code ⟨"com/example/prizewell/prizewell/core/TicketRanges", "count", "(I)Ljava/math/BigInteger;"⟩ prog_64_method_6_code (2 : Nat) (Option.some (FieldType.object "java/math/BigInteger"))
abbrev cw53 : Jvm.Cond := Jvm.Cond.code ⟨"com/example/prizewell/prizewell/core/TicketRange", "<init>", "(Lcom/example/prizewell/prizewell/core/AccountName;Ljava/math/BigInteger;Ljava/math/BigInteger;)V"⟩ prog_63_method_1_code (4 : Nat) (Option.none : Option FieldType)
abbrev cw54 : Jvm.Cond := Jvm.Cond.code ⟨"java/math/BigInteger", "signum", "()I"⟩ jdk_2097_method_81_code (1 : Nat) (Option.some FieldType.int)
abbrev cw55 : Jvm.Cond := Jvm.Cond.code ⟨"com/example/prizewell/prizewell/core/TicketRange", "account", "()Lcom/example/prizewell/prizewell/core/AccountName;"⟩ prog_63_method_9_code (1 : Nat) (Option.some (FieldType.object "com/example/prizewell/prizewell/core/AccountName"))
abbrev cw56 : Jvm.Cond := Jvm.Cond.code ⟨"java/lang/String", "equals", "(Ljava/lang/Object;)Z"⟩ jdk_42_method_66_code (3 : Nat) (Option.some FieldType.boolean)
abbrev cw57 : Jvm.Cond := Jvm.Cond.code ⟨"java/lang/StringLatin1", "equals", "([B[B)Z"⟩ jdk_43_method_13_code (3 : Nat) (Option.some FieldType.boolean)
abbrev cw58 : Jvm.Cond := Jvm.Cond.code ⟨"com/example/prizewell/prizewell/core/TicketRange", "first", "()Ljava/math/BigInteger;"⟩ prog_63_method_10_code (1 : Nat) (Option.some (FieldType.object "java/math/BigInteger"))
abbrev cw59 : Jvm.Cond := Jvm.Cond.code ⟨"java/math/BigInteger", "equals", "(Ljava/lang/Object;)Z"⟩ jdk_2097_method_124_code (7 : Nat) (Option.some FieldType.boolean)
abbrev cw60 : Jvm.Cond := Jvm.Cond.code ⟨"com/example/prizewell/prizewell/core/TicketRange", "count", "()Ljava/math/BigInteger;"⟩ prog_63_method_11_code (1 : Nat) (Option.some (FieldType.object "java/math/BigInteger"))
theorem w_c0 : cw0.before args0 about1 = true := code_word (m := ⟨1, 4⟩) (meth := k1m4) (c := k1c4) (by decide +kernel) rfl rfl rfl (by decide +kernel)
theorem w_c1 : cw1.before args0 about1 = true := code_word (m := ⟨1, 1⟩) (meth := k1m1) (c := k1c1) (by decide +kernel) rfl rfl rfl (by decide +kernel)
theorem w_c2 : cw2.before args0 about1 = true := code_word (m := ⟨7, 5⟩) (meth := k7m5) (c := k7c5) (by decide +kernel) rfl rfl rfl (by decide +kernel)
theorem w_c3 : cw3.before args0 about1 = true := code_word (m := ⟨7, 9⟩) (meth := k7m9) (c := k7c9) (by decide +kernel) rfl rfl rfl (by decide +kernel)
theorem w_c4 : cw4.before args0 about1 = true := code_word (m := ⟨8, 1⟩) (meth := k8m1) (c := k8c1) (by decide +kernel) rfl rfl rfl (by decide +kernel)
theorem w_c5 : cw5.before args0 about1 = true := code_word (m := ⟨7, 10⟩) (meth := k7m10) (c := k7c10) (by decide +kernel) rfl rfl rfl (by decide +kernel)
theorem w_c6 : cw6.before args0 about1 = true := code_word (m := ⟨9, 1⟩) (meth := k9m1) (c := k9c1) (by decide +kernel) rfl rfl rfl (by decide +kernel)
theorem w_c7 : cw7.before args0 about1 = true := code_word (m := ⟨7, 1⟩) (meth := k7m1) (c := k7c1) (by decide +kernel) rfl rfl rfl (by decide +kernel)
theorem w_c8 : cw8.before args0 about1 = true := code_word (m := ⟨7, 7⟩) (meth := k7m7) (c := k7c7) (by decide +kernel) rfl rfl rfl (by decide +kernel)
theorem w_c9 : cw9.before args0 about1 = true := code_word (m := ⟨0, 0⟩) (meth := k0m0) (c := k0c0) (by decide +kernel) rfl rfl rfl (by decide +kernel)
theorem w_c10 : cw10.before args0 about1 = true := code_word (m := ⟨10, 2⟩) (meth := k10m2) (c := k10c2) (by decide +kernel) rfl rfl rfl (by decide +kernel)
theorem w_c11 : cw11.before args0 about1 = true := code_word (m := ⟨10, 3⟩) (meth := k10m3) (c := k10c3) (by decide +kernel) rfl rfl rfl (by decide +kernel)
theorem w_c12 : cw12.before args0 about1 = true := code_word (m := ⟨10, 1⟩) (meth := k10m1) (c := k10c1) (by decide +kernel) rfl rfl rfl (by decide +kernel)
theorem w_c13 : cw13.before args0 about1 = true := code_word (m := ⟨12, 0⟩) (meth := k12m0) (c := k12c0) (by decide +kernel) rfl rfl rfl (by decide +kernel)
theorem w_c14 : cw14.before args0 about1 = true := code_word (m := ⟨11, 0⟩) (meth := k11m0) (c := k11c0) (by decide +kernel) rfl rfl rfl (by decide +kernel)
theorem w_c15 : cw15.before args0 about1 = true := code_word (m := ⟨13, 2⟩) (meth := k13m2) (c := k13c2) (by decide +kernel) rfl rfl rfl (by decide +kernel)
theorem w_c16 : cw16.before args0 about1 = true := code_word (m := ⟨12, 1⟩) (meth := k12m1) (c := k12c1) (by decide +kernel) rfl rfl rfl (by decide +kernel)
theorem w_c17 : cw17.before args0 about1 = true := code_word (m := ⟨7, 4⟩) (meth := k7m4) (c := k7c4) (by decide +kernel) rfl rfl rfl (by decide +kernel)
theorem w_c18 : cw18.before args0 about1 = true := code_word (m := ⟨7, 8⟩) (meth := k7m8) (c := k7c8) (by decide +kernel) rfl rfl rfl (by decide +kernel)
theorem w_c19 : cw19.before args0 about1 = true := code_word (m := ⟨12, 2⟩) (meth := k12m2) (c := k12c2) (by decide +kernel) rfl rfl rfl (by decide +kernel)
theorem w_c20 : cw20.before args0 about1 = true := code_word (m := ⟨21, 0⟩) (meth := k21m0) (c := k21c0) (by decide +kernel) rfl rfl rfl (by decide +kernel)
theorem w_c21 : cw21.before args0 about1 = true := code_word (m := ⟨19, 0⟩) (meth := k19m0) (c := k19c0) (by decide +kernel) rfl rfl rfl (by decide +kernel)
theorem w_c22 : cw22.before args0 about1 = true := code_word (m := ⟨16, 0⟩) (meth := k16m0) (c := k16c0) (by decide +kernel) rfl rfl rfl (by decide +kernel)
theorem w_c23 : cw23.before args0 about1 = true := code_word (m := ⟨21, 2⟩) (meth := k21m2) (c := k21c2) (by decide +kernel) rfl rfl rfl (by decide +kernel)
theorem w_c24 : cw24.before args0 about1 = true := code_word (m := ⟨21, 6⟩) (meth := k21m6) (c := k21c6) (by decide +kernel) rfl rfl rfl (by decide +kernel)
theorem w_c25 : cw25.before args0 about1 = true := code_word (m := ⟨1, 2⟩) (meth := k1m2) (c := k1c2) (by decide +kernel) rfl rfl rfl (by decide +kernel)
theorem w_c26 : cw26.before args0 about1 = true := code_word (m := ⟨23, 0⟩) (meth := k23m0) (c := k23c0) (by decide +kernel) rfl rfl rfl (by decide +kernel)
theorem w_c27 : cw27.before args0 about1 = true := code_word (m := ⟨21, 1⟩) (meth := k21m1) (c := k21c1) (by decide +kernel) rfl rfl rfl (by decide +kernel)
theorem w_c28 : cw28.before args0 about1 = true := code_word (m := ⟨12, 3⟩) (meth := k12m3) (c := k12c3) (by decide +kernel) rfl rfl rfl (by decide +kernel)
theorem w_c29 : cw29.before args0 about1 = true := code_word (m := ⟨24, 3⟩) (meth := k24m3) (c := k24c3) (by decide +kernel) rfl rfl rfl (by decide +kernel)
theorem w_c30 : cw30.before args0 about1 = true := code_word (m := ⟨25, 2⟩) (meth := k25m2) (c := k25c2) (by decide +kernel) rfl rfl rfl (by decide +kernel)
theorem w_c31 : cw31.before args0 about1 = true := code_word (m := ⟨24, 2⟩) (meth := k24m2) (c := k24c2) (by decide +kernel) rfl rfl rfl (by decide +kernel)
theorem w_c32 : cw32.before args0 about1 = true := code_word (m := ⟨25, 1⟩) (meth := k25m1) (c := k25c1) (by decide +kernel) rfl rfl rfl (by decide +kernel)
theorem w_c33 : cw33.before args0 about1 = true := code_word (m := ⟨24, 1⟩) (meth := k24m1) (c := k24c1) (by decide +kernel) rfl rfl rfl (by decide +kernel)
theorem w_c34 : cw34.before args0 about1 = true := code_word (m := ⟨23, 4⟩) (meth := k23m4) (c := k23c4) (by decide +kernel) rfl rfl rfl (by decide +kernel)
theorem w_c35 : cw35.before args0 about1 = true := code_word (m := ⟨23, 6⟩) (meth := k23m6) (c := k23c6) (by decide +kernel) rfl rfl rfl (by decide +kernel)
theorem w_c36 : cw36.before args0 about1 = true := code_word (m := ⟨23, 5⟩) (meth := k23m5) (c := k23c5) (by decide +kernel) rfl rfl rfl (by decide +kernel)
theorem w_c37 : cw37.before args0 about1 = true := code_word (m := ⟨23, 1⟩) (meth := k23m1) (c := k23c1) (by decide +kernel) rfl rfl rfl (by decide +kernel)
theorem w_c38 : cw38.before args0 about1 = true := code_word (m := ⟨22, 0⟩) (meth := k22m0) (c := k22c0) (by decide +kernel) rfl rfl rfl (by decide +kernel)
theorem w_c39 : cw39.before args0 about1 = true := code_word (m := ⟨1, 3⟩) (meth := k1m3) (c := k1c3) (by decide +kernel) rfl rfl rfl (by decide +kernel)
theorem w_c40 : cw40.before args0 about1 = true := code_word (m := ⟨21, 5⟩) (meth := k21m5) (c := k21c5) (by decide +kernel) rfl rfl rfl (by decide +kernel)
theorem w_c41 : cw41.before args0 about1 = true := code_word (m := ⟨21, 3⟩) (meth := k21m3) (c := k21c3) (by decide +kernel) rfl rfl rfl (by decide +kernel)
theorem w_c42 : cw42.before args0 about1 = true := code_word (m := ⟨7, 2⟩) (meth := k7m2) (c := k7c2) (by decide +kernel) rfl rfl rfl (by decide +kernel)
theorem w_c43 : cw43.before args0 about1 = true := code_word (m := ⟨13, 1⟩) (meth := k13m1) (c := k13c1) (by decide +kernel) rfl rfl rfl (by decide +kernel)
theorem w_c44 : cw44.before args0 about1 = true := code_word (m := ⟨7, 11⟩) (meth := k7m11) (c := k7c11) (by decide +kernel) rfl rfl rfl (by decide +kernel)
theorem w_c45 : cw45.before args0 about1 = true := code_word (m := ⟨9, 2⟩) (meth := k9m2) (c := k9c2) (by decide +kernel) rfl rfl rfl (by decide +kernel)
theorem w_c46 : cw46.before args0 about1 = true := code_word (m := ⟨35, 1⟩) (meth := k35m1) (c := k35c1) (by decide +kernel) rfl rfl rfl (by decide +kernel)
theorem w_c47 : cw47.before args0 about1 = true := code_word (m := ⟨35, 2⟩) (meth := k35m2) (c := k35c2) (by decide +kernel) rfl rfl rfl (by decide +kernel)
theorem w_c48 : cw48.before args0 about1 = true := code_word (m := ⟨24, 5⟩) (meth := k24m5) (c := k24c5) (by decide +kernel) rfl rfl rfl (by decide +kernel)
theorem w_c49 : cw49.before args0 about1 = true := code_word (m := ⟨24, 6⟩) (meth := k24m6) (c := k24c6) (by decide +kernel) rfl rfl rfl (by decide +kernel)
theorem w_c50 : cw50.before args0 about1 = true := code_word (m := ⟨24, 4⟩) (meth := k24m4) (c := k24c4) (by decide +kernel) rfl rfl rfl (by decide +kernel)
theorem w_c51 : cw51.before args0 about1 = true := code_word (m := ⟨21, 7⟩) (meth := k21m7) (c := k21c7) (by decide +kernel) rfl rfl rfl (by decide +kernel)
theorem w_c52 : cw52.before args0 about1 = true := code_word (m := ⟨21, 4⟩) (meth := k21m4) (c := k21c4) (by decide +kernel) rfl rfl rfl (by decide +kernel)
theorem w_c53 : cw53.before args0 about1 = true := code_word (m := ⟨27, 0⟩) (meth := k27m0) (c := k27c0) (by decide +kernel) rfl rfl rfl (by decide +kernel)
theorem w_c54 : cw54.before args0 about1 = true := code_word (m := ⟨23, 2⟩) (meth := k23m2) (c := k23c2) (by decide +kernel) rfl rfl rfl (by decide +kernel)
theorem w_c55 : cw55.before args0 about1 = true := code_word (m := ⟨27, 1⟩) (meth := k27m1) (c := k27c1) (by decide +kernel) rfl rfl rfl (by decide +kernel)
theorem w_c56 : cw56.before args0 about1 = true := code_word (m := ⟨7, 6⟩) (meth := k7m6) (c := k7c6) (by decide +kernel) rfl rfl rfl (by decide +kernel)
theorem w_c57 : cw57.before args0 about1 = true := code_word (m := ⟨8, 2⟩) (meth := k8m2) (c := k8c2) (by decide +kernel) rfl rfl rfl (by decide +kernel)
theorem w_c58 : cw58.before args0 about1 = true := code_word (m := ⟨27, 2⟩) (meth := k27m2) (c := k27c2) (by decide +kernel) rfl rfl rfl (by decide +kernel)
theorem w_c59 : cw59.before args0 about1 = true := code_word (m := ⟨23, 3⟩) (meth := k23m3) (c := k23c3) (by decide +kernel) rfl rfl rfl (by decide +kernel)
theorem w_c60 : cw60.before args0 about1 = true := code_word (m := ⟨27, 3⟩) (meth := k27m3) (c := k27c3) (by decide +kernel) rfl rfl rfl (by decide +kernel)
abbrev cw61 : Jvm.Cond := Jvm.Cond.codeWith ({ cls := "java/lang/String", name := "<init>", desc := "(Ljava/nio/charset/Charset;[BII)V" } : Jvm.MethodName) jdk_42_method_11_code (11 : Nat) (Option.none : Option Jvm.ClassFile.FieldType) [((800 : Nat), (813 : Nat), (816 : Nat), (202 : Nat))]
theorem w_c61 : cw61.before args0 about1 = true := code_wordW (m := ⟨7, 3⟩) (meth := k7m3) (c := k7c3) (by decide +kernel) rfl rfl rfl (by decide +kernel)
def codes1 : List Jvm.Cond := [cw0, cw1, cw2, cw3, cw4, cw5, cw6, cw7, cw8, cw9, cw10, cw11, cw12, cw13, cw14, cw15, cw16, cw17, cw18, cw19, cw20, cw21, cw22, cw23, cw24, cw25, cw26, cw27, cw28, cw29, cw30, cw31, cw32, cw33, cw34, cw35, cw36, cw37, cw38, cw39, cw40, cw41, cw42, cw43, cw44, cw45, cw61, cw46, cw47, cw48, cw49, cw50, cw51, cw52, cw53, cw54, cw55, cw56, cw57, cw58, cw59, cw60]
theorem codes_eq : words1.filter isCode = codes1 := rfl
theorem w_codes : ∀ c ∈ words1.filter isCode, c.before args0 about1 = true := by
  rw [codes_eq]
  intro c hc
  simp only [codes1, List.mem_cons, List.not_mem_nil, or_false] at hc
  rcases hc with rfl | rfl | rfl | rfl | rfl | rfl | rfl | rfl | rfl | rfl | rfl | rfl | rfl | rfl | rfl | rfl | rfl | rfl | rfl | rfl | rfl | rfl | rfl | rfl | rfl | rfl | rfl | rfl | rfl | rfl | rfl | rfl | rfl | rfl | rfl | rfl | rfl | rfl | rfl | rfl | rfl | rfl | rfl | rfl | rfl | rfl | rfl | rfl | rfl | rfl | rfl | rfl | rfl | rfl | rfl | rfl | rfl | rfl | rfl | rfl | rfl | rfl
  · exact w_c0
  · exact w_c1
  · exact w_c2
  · exact w_c3
  · exact w_c4
  · exact w_c5
  · exact w_c6
  · exact w_c7
  · exact w_c8
  · exact w_c9
  · exact w_c10
  · exact w_c11
  · exact w_c12
  · exact w_c13
  · exact w_c14
  · exact w_c15
  · exact w_c16
  · exact w_c17
  · exact w_c18
  · exact w_c19
  · exact w_c20
  · exact w_c21
  · exact w_c22
  · exact w_c23
  · exact w_c24
  · exact w_c25
  · exact w_c26
  · exact w_c27
  · exact w_c28
  · exact w_c29
  · exact w_c30
  · exact w_c31
  · exact w_c32
  · exact w_c33
  · exact w_c34
  · exact w_c35
  · exact w_c36
  · exact w_c37
  · exact w_c38
  · exact w_c39
  · exact w_c40
  · exact w_c41
  · exact w_c42
  · exact w_c43
  · exact w_c44
  · exact w_c45
  · exact w_c61
  · exact w_c46
  · exact w_c47
  · exact w_c48
  · exact w_c49
  · exact w_c50
  · exact w_c51
  · exact w_c52
  · exact w_c53
  · exact w_c54
  · exact w_c55
  · exact w_c56
  · exact w_c57
  · exact w_c58
  · exact w_c59
  · exact w_c60
theorem w_t1 : (words1.take 24).all (fun c => isCode c || c.before args0 about1) = true := by decide +kernel
theorem w_t2 : ((words1.drop 24).take 24).all (fun c => isCode c || c.before args0 about1) = true := by decide +kernel
theorem w_t3 : (((words1.drop 24).drop 24).take 24).all (fun c => isCode c || c.before args0 about1) = true := by decide +kernel
theorem w_t4 : ((((words1.drop 24).drop 24).drop 24).take 24).all (fun c => isCode c || c.before args0 about1) = true := by decide +kernel
theorem w_t5 : (((((words1.drop 24).drop 24).drop 24).drop 24).take 24).all (fun c => isCode c || c.before args0 about1) = true := by decide +kernel
theorem w_t6 : ((((((words1.drop 24).drop 24).drop 24).drop 24).drop 24).take 24).all (fun c => isCode c || c.before args0 about1) = true := by decide +kernel
theorem w_t7 : (((((((words1.drop 24).drop 24).drop 24).drop 24).drop 24).drop 24).take 24).all (fun c => isCode c || c.before args0 about1) = true := by decide +kernel
theorem w_t8 : ((((((((words1.drop 24).drop 24).drop 24).drop 24).drop 24).drop 24).drop 24).take 24).all (fun c => isCode c || c.before args0 about1) = true := by decide +kernel
theorem w_t9 : (((((((((words1.drop 24).drop 24).drop 24).drop 24).drop 24).drop 24).drop 24).drop 24).take 24).all (fun c => isCode c || c.before args0 about1) = true := by decide +kernel
theorem w_t10 : ((((((((((words1.drop 24).drop 24).drop 24).drop 24).drop 24).drop 24).drop 24).drop 24).drop 24).take 24).all (fun c => isCode c || c.before args0 about1) = true := by decide +kernel
theorem w_t11 : (((((((((((words1.drop 24).drop 24).drop 24).drop 24).drop 24).drop 24).drop 24).drop 24).drop 24).drop 24).take 24).all (fun c => isCode c || c.before args0 about1) = true := by decide +kernel
theorem w_t12 : ((((((((((((words1.drop 24).drop 24).drop 24).drop 24).drop 24).drop 24).drop 24).drop 24).drop 24).drop 24).drop 24).take 24).all (fun c => isCode c || c.before args0 about1) = true := by decide +kernel
theorem w_t13 : (((((((((((((words1.drop 24).drop 24).drop 24).drop 24).drop 24).drop 24).drop 24).drop 24).drop 24).drop 24).drop 24).drop 24).take 24).all (fun c => isCode c || c.before args0 about1) = true := by decide +kernel
theorem w_t14 : ((((((((((((((words1.drop 24).drop 24).drop 24).drop 24).drop 24).drop 24).drop 24).drop 24).drop 24).drop 24).drop 24).drop 24).drop 24).take 24).all (fun c => isCode c || c.before args0 about1) = true := by decide +kernel
theorem w_t15 : ((((((((((((((words1.drop 24).drop 24).drop 24).drop 24).drop 24).drop 24).drop 24).drop 24).drop 24).drop 24).drop 24).drop 24).drop 24).drop 24).all (fun c => isCode c || c.before args0 about1) = true := by decide +kernel
theorem w_tables : (allAtoms (Jvm.Cond.code x code maxLocals ret :: tables_1)).before args0 about1 = true := by
  rw [allAtoms_all]
  show words1.all (fun c => c.before args0 about1) = true
  refine all_split ?_ w_codes
  rw [← List.take_append_drop 24 words1, List.all_append, w_t1, ← List.take_append_drop 24 (words1.drop 24), List.all_append, w_t2, ← List.take_append_drop 24 ((words1.drop 24).drop 24), List.all_append, w_t3, ← List.take_append_drop 24 (((words1.drop 24).drop 24).drop 24), List.all_append, w_t4, ← List.take_append_drop 24 ((((words1.drop 24).drop 24).drop 24).drop 24), List.all_append, w_t5, ← List.take_append_drop 24 (((((words1.drop 24).drop 24).drop 24).drop 24).drop 24), List.all_append, w_t6, ← List.take_append_drop 24 ((((((words1.drop 24).drop 24).drop 24).drop 24).drop 24).drop 24), List.all_append, w_t7, ← List.take_append_drop 24 (((((((words1.drop 24).drop 24).drop 24).drop 24).drop 24).drop 24).drop 24), List.all_append, w_t8, ← List.take_append_drop 24 ((((((((words1.drop 24).drop 24).drop 24).drop 24).drop 24).drop 24).drop 24).drop 24), List.all_append, w_t9, ← List.take_append_drop 24 (((((((((words1.drop 24).drop 24).drop 24).drop 24).drop 24).drop 24).drop 24).drop 24).drop 24), List.all_append, w_t10, ← List.take_append_drop 24 ((((((((((words1.drop 24).drop 24).drop 24).drop 24).drop 24).drop 24).drop 24).drop 24).drop 24).drop 24), List.all_append, w_t11, ← List.take_append_drop 24 (((((((((((words1.drop 24).drop 24).drop 24).drop 24).drop 24).drop 24).drop 24).drop 24).drop 24).drop 24).drop 24), List.all_append, w_t12, ← List.take_append_drop 24 ((((((((((((words1.drop 24).drop 24).drop 24).drop 24).drop 24).drop 24).drop 24).drop 24).drop 24).drop 24).drop 24).drop 24), List.all_append, w_t13, ← List.take_append_drop 24 (((((((((((((words1.drop 24).drop 24).drop 24).drop 24).drop 24).drop 24).drop 24).drop 24).drop 24).drop 24).drop 24).drop 24).drop 24), List.all_append, w_t14, w_t15]
  rfl
theorem w_rest : rest_1_c.before args0 about1 = true := by decide +kernel
theorem w_case : (Jvm.Cond.and given_1 narrow_1).before args0 about1 = true := by decide +kernel
theorem w_consts : constsHeld consts_1 about1 := Jvm.Lit.constsHeldB_iff.mp (by decide +kernel)
theorem w_applies : (headSpec (Jvm.Cond.code x code maxLocals ret :: tables_1) room_1).applies x e0.platform about1 = true :=
  (Spec.applies_iff w_frames).mpr ⟨w_running, w_runnable, w_alone, w_named, w_hears, w_ripe, w_room, w_tables⟩
theorem atStart : AtStart classFile x code maxLocals ret World_1 tables_1 room_1 Calls_1 rest_1 Pre_1 launch0 p0 e0 about1 theMethod args0 below0 :=
  ⟨lists_1, trivial, launch0.admits_env _ _ _, launch0.least_env, fairChoices_fair.cas, fairChoices_fair.clock, w_frames, w_args, w_heap, w_applies, ⟨w_consts, trivial⟩, w_rest, w_case⟩
end start1
theorem witness_1 : WitnessClaimed_1 := ⟨start1.p0, start1.e0, start1.about1, start1.theMethod, start1.args0, start1.below0, start1.atStart⟩
end Jvm.Pilot.@@N@@
