import JvmDerived
import JvmDerived.Pilot.@@N@@Statement
import JvmDerived.Pilot.@@N@@Code
set_option linter.unusedVariables false
set_option linter.unusedSimpArgs false

namespace Jvm.RoadKit
open Sem ClassFile Op Lib Jvm.Stand Jvm.Free Jvm.LawKit
section New
variable {p : Program} {l : Launch} {e : Env} {R : Room} {s : State} {m : MethodId} {args : Array Value} {below : List Frame} {meth : Method} {c : Code} {T : State} {locs : List Loc} {cells slots : Nat}
theorem retI (X : Stand p l e R s m args below meth c T locs cells slots) (hx : p.tables.exec = Jvm.exec) {pc : Nat} {Ls : Array Slot} {z : Int32} {rest : List Value} (hret : meth.sig.returnType = some .int) (hd : decode c.code pc = .ok (.ireturn, 1)) {fs : List Frame}
    (hl : ∀ (f : JFrame) (acts : List Action), f.method = m → f.locked = none → f.entered = [] → (doReturn e (T.setTop f) acts (some (.int z))).1 = T.setFrames fs) : Steps p.tables e below (T.setTop (mkF m pc Ls (.int z :: rest))) (T.setFrames fs) := by
  have hm' : T.vm.method? m = some meth := X.method'
  have hn : narrow .int (.int z) = .int z := rfl
  show Steps p.tables e below (T.setTop { method := m, pc := pc, locals := Ls, stack := _ :: rest, locked := none }) _
  jvm_step X.here [X.here.top, hx, hd, hm', hret, hn]
  first | (intro acts; rw [hl _ acts rfl rfl rfl]) | rw [hl _ _ rfl rfl rfl]
  exact Steps.refl _
theorem retAO (X : Stand p l e R s m args below meth c T locs cells slots) (hx : p.tables.exec = Jvm.exec) {pc : Nat} {Ls : Array Slot} {z : Addr} {rest : List Value} {C : String} (hret : meth.sig.returnType = some (.object C)) (hd : decode c.code pc = .ok (.areturn, 1)) {fs : List Frame}
    (hl : ∀ (f : JFrame) (acts : List Action), f.method = m → f.locked = none → f.entered = [] → (doReturn e (T.setTop f) acts (some (.ref z))).1 = T.setFrames fs) : Steps p.tables e below (T.setTop (mkF m pc Ls (.ref z :: rest))) (T.setFrames fs) := by
  have hm' : T.vm.method? m = some meth := X.method'
  show Steps p.tables e below (T.setTop { method := m, pc := pc, locals := Ls, stack := _ :: rest, locked := none }) _
  jvm_step X.here [X.here.top, hx, hd, hm', hret, Value.isRef, FieldType.isReference]
  first | (intro acts; rw [hl _ acts rfl rfl rfl]) | rw [hl _ _ rfl rfl rfl]
  exact Steps.refl _
theorem retAA (X : Stand p l e R s m args below meth c T locs cells slots) (hx : p.tables.exec = Jvm.exec) {pc : Nat} {Ls : Array Slot} {z : Addr} {rest : List Value} {C : FieldType} (hret : meth.sig.returnType = some (.array C)) (hd : decode c.code pc = .ok (.areturn, 1)) {fs : List Frame}
    (hl : ∀ (f : JFrame) (acts : List Action), f.method = m → f.locked = none → f.entered = [] → (doReturn e (T.setTop f) acts (some (.ref z))).1 = T.setFrames fs) : Steps p.tables e below (T.setTop (mkF m pc Ls (.ref z :: rest))) (T.setFrames fs) := by
  have hm' : T.vm.method? m = some meth := X.method'
  show Steps p.tables e below (T.setTop { method := m, pc := pc, locals := Ls, stack := _ :: rest, locked := none }) _
  jvm_step X.here [X.here.top, hx, hd, hm', hret, Value.isRef, FieldType.isReference]
  first | (intro acts; rw [hl _ acts rfl rfl rfl]) | rw [hl _ _ rfl rfl rfl]
  exact Steps.refl _
/-- the walk's goal, at any point of it -/
def Gl (p : Program) (e : Env) (below : List Frame) (s : State) (Q : Option Value → Heap → List Loc → Prop) (C N : Nat) (T : State) (g : JFrame) : Prop :=
  ∃ s₂ o, Steps p.tables e below (T.setTop g) s₂ ∧ s₂.status = .running ∧ Ended s₂ below o ∧ ∃ v L, o = .returned v ∧ Q v s₂.heap L ∧ FrameEnd s o s₂ L C N
variable {Q : Option Value → Heap → List Loc → Prop} {C N : Nat} {T' : State} {g g' : JFrame} {h : Heap}
theorem Gl.st (f : ∀ t, Steps p.tables e below (T'.setTop g') t → Steps p.tables e below (T.setTop g) t) (k : Gl p e below s Q C N T' g') : Gl p e below s Q C N T g := by
  obtain ⟨s₂, o, h1, r⟩ := k
  exact ⟨s₂, o, f _ h1, r⟩
theorem Gl.ret (X : Stand p l e R s m args below meth c T locs cells slots) (hlk : meth.locks = false) {v : Option Value} (hv : meth.sig.returnType = none → v = none) (eT : T.heap = h)
    (f : ∀ fs, (∀ (f : JFrame) (acts : List Action), f.method = m → f.locked = none → f.entered = [] → (doReturn e (T.setTop f) acts v).1 = T.setFrames fs) → Steps p.tables e below (T.setTop g) (T.setFrames fs)) (hc : cells ≤ C) (hn : slots ≤ N) (hQ : Q v h locs) : Gl p e below s Q C N T g := by
  obtain ⟨fs, hr, hrun, hended, hW, hsame⟩ := X.leave (v := v) hv hlk
  exact ⟨_, _, f fs hr, hrun, hended, _, _, rfl, by show Q v T.heap _; rw [eT]; exact hQ, ⟨_, rfl⟩, hW, hsame.mono hc hn⟩
theorem Arv.cellX {Z : State} {h : Heap} {a : Addr} {k : ClassId} {ty : FieldType} {z : Int32} {vs : List Value} {dv : Value} (F : Arv Z h a k ty z vs dv) : ∃ c : Cell, h[a]? = some c ∧ ∀ q, c.vm ≠ .statics q := by
  obtain ⟨c, A, -⟩ := F; exact ⟨c, A.1, A.2.1.1⟩
theorem selPrivate {s : State} {args : Array Value} {y z : MethodName} (hzy : z.cls = y.cls) (hsel : (Cond.selects z.cls z z).before args s = true) (hpriv : s.PrivateAt y) (hinst : (Cond.instanceMethod y).before args s = true) (hy : y.cls ≠ "java/lang/invoke/MethodHandle" ∧ y.cls ≠ "java/lang/invoke/VarHandle") : (Cond.selects y.cls y y).before args s = true := by
  obtain ⟨c2, r2, m2, -, -, q3, -, kP, hkP, hkPi⟩ := Cond.selects_spec hsel
  exact selects_self_of_private (by rw [← hzy]; exact findClass_of_methodNamed q3) hkP hkPi hpriv hinst hy
theorem Sta.keepX {Z : State} {h h' : Heap} {C n d : String} {v : Value} {ws : List Addr} (F : Sta Z h C n d v) (K : Keep h h' ws) (q : ∀ x ∈ ws, ∃ c : Cell, h[x]? = some c ∧ ∀ q, c.vm ≠ .statics q) : Sta Z h' C n d v := by
  obtain ⟨cf, i, k, f, st, cell, h1, h2, h3, h4, h5, h6, h7⟩ := F
  refine ⟨cf, i, k, f, st, cell, h1, h2, h3, h4, K.2.1 st cell h5 fun z => ?_, h6, h7⟩
  obtain ⟨c, e1, e2⟩ := q st z
  cases h5.symm.trans e1
  cases hv : cell.vm <;> simp [hv, VmData.isStatics] at h6
  exact e2 _ hv
end New
end Jvm.RoadKit
namespace Jvm.RoadKit
open Sem ClassFile Op Lib Jvm.Stand Jvm.Free Jvm.LawKit
section NewW
variable {p : Program} {l : Launch} {e : Env} {R : Room} {s : State} {m : MethodId} {args : Array Value} {below : List Frame} {meth : Method} {c : Code} {T : State} {locs : List Loc} {cells slots : Nat}
/-- the walk's goal where a String constant may be loaded on the way -/
def GlW (p : Program) (e : Env) (below : List Frame) (s : State) (Q : Option Value → Heap → List Loc → Prop) (C N : Nat) (T : State) (g : JFrame) : Prop :=
  ∃ s₂ o, Steps p.tables e below (T.setTop g) s₂ ∧ s₂.status = .running ∧ Ended s₂ below o ∧ ∃ v L, o = .returned v ∧ Q v s₂.heap L ∧ ReturnedEndW s o s₂ L C N
variable {Q : Option Value → Heap → List Loc → Prop} {C N : Nat} {T' : State} {g g' : JFrame} {h : Heap}
theorem GlW.st (f : ∀ t, Steps p.tables e below (T'.setTop g') t → Steps p.tables e below (T.setTop g) t) (k : GlW p e below s Q C N T' g') : GlW p e below s Q C N T g := by
  obtain ⟨s₂, o, h1, r⟩ := k
  exact ⟨s₂, o, f _ h1, r⟩
theorem GlW.ret {vm₁ : Vm} {k : Nat} (hS : s.Since vm₁ k) (hk : k ≤ h.size) (X : Stand p l e R (s.setVm vm₁) m args below meth c T locs cells slots) (hlk : meth.locks = false) {v : Option Value} (hv : meth.sig.returnType = none → v = none) (eT : T.heap = h)
    (f : ∀ fs, (∀ (f : JFrame) (acts : List Action), f.method = m → f.locked = none → f.entered = [] → (doReturn e (T.setTop f) acts v).1 = T.setFrames fs) → Steps p.tables e below (T.setTop g) (T.setFrames fs)) (hc : cells ≤ C) (hn : slots ≤ N) (hQ : Q v h locs) : GlW p e below s Q C N T g := by
  obtain ⟨fs, hr, hrun, hended, h1, h2, h3, h4⟩ := X.leaveW hS (by rw [eT]; exact hk) (v := v) hv hlk
  exact ⟨_, _, f fs hr, hrun, hended, _, _, rfl, by show Q v T.heap _; rw [eT]; exact hQ, h1, h2, h3, h4.mono hc hn⟩
end NewW
end Jvm.RoadKit
namespace Jvm.RoadKit
open Sem ClassFile Op Lib Bundle Jvm.Stand Jvm.Free Jvm.LawKit Jvm.Free.SB Jvm.Free.SBG
section NewH
variable {p : Program} {l : Launch} {e : Env} {R : Room} {s : State} {m : MethodId} {args : Array Value} {below : List Frame} {Z : State} {a0 : Array Value} {EL : List (String × Nat)} {h : Heap} {vm0 : Vm}
/-- a callee that reads a constant: it asks the invariant at its start, and says nothing of it at its end -/
theorem backOfSI {y : MethodName} {bytes : ByteArray} {maxL : Nat} {ret : Option FieldType} {rm : Room} {len W : Nat} {as' : Array Value} {Q : Option Value → Heap → List Loc → Prop} {xs : List Addr}
    (hM : MetFree l y (head1 [Cond.code y bytes maxL ret] rm) (fun a U => a = as' ∧ Z.Warmed39 U.vm ∧ U.heap = h ∧ CHv Z EL U.vm h ∧ ∀ x ∈ xs, Safe Z EL U.vm h x) (fun _ _ _ _ _ => True) (fun _ U o U' => ∃ v L, o = .returned v ∧ Q v U'.heap L ∧ ReturnedEndW U o U' L rm.cells rm.slots))
    (hZ : Z.Warmed39 vm0) (wc : (Cond.code y bytes maxL ret).before a0 Z = true) (wz : (Cond.initialized y.cls).before a0 Z = true) (hf : rm.frames + 1 ≤ R.frames) (hl : W + (maxL + 11) + rm.locals ≤ R.locals) (hEL : EW Z a0 EL) (H : CHv Z EL vm0 h) (hxs : ∀ x ∈ xs, x < h.size ∧ Safe Z EL vm0 h x) :
    BackS l R p e below (s.setVm vm0) args y len W (fun A a => a = as' ∧ A.U.heap = h ∧ A.cells + rm.cells ≤ R.cells ∧ A.slots + rm.slots ≤ R.slots)
      (fun A _ v B => ∃ L, Q v B.U.heap L ∧ B.locs = A.locs ++ L ∧ B.cells = A.cells + rm.cells ∧ B.slots = A.slots + rm.slots) :=
  BackS.of_freeW (bytes := bytes) (maxL := maxL) (ret := ret) (E := fun _ _ o t L k n => k = rm.cells ∧ n = rm.slots ∧ ∃ v, o = .returned v ∧ Q v t.heap L) hM hf hl
    (fun m meth c A a Y hp => have hU : Z.Warmed39 A.U.vm := wtrans (s := s.setVm vm0) hZ Y.warmed
      ⟨by show (Cond.and _ .tt).before a A.U = true; rw [Cond.before_and, mv hU wc]; rfl, mv hU wc, mv hU wz, hp.2.2.1, hp.2.2.2⟩)
    (fun m meth c A a g mk Y hp => ⟨hp.1, wtrans (s := s.setVm vm0) hZ Y.warmed, hp.2.1, (CHv.at Y hZ hEL H).1, fun x hx => (CHv.at Y hZ hEL H).safe (hxs x hx).1 (hxs x hx).2⟩) (fun _ _ _ _ _ _ _ _ _ => trivial)
    (fun _ _ _ _ ⟨v, L, h1, h2, h3⟩ => ⟨L, _, _, h3, rfl, rfl, v, h1, h2⟩)
    (fun m meth c A a g mk v t L k n Y hp _ _ ⟨e1, e2, v', e3, e4⟩ => by cases e3; subst e1 e2; exact ⟨L, e4, rfl, rfl, rfl⟩)
theorem sfx0 {vm : Vm} : ∀ x ∈ ([] : List Addr), x < h.size ∧ Safe Z EL vm h x := fun _ q => nomatch q
theorem sfx1 {vm : Vm} {a : Addr} (q : a < h.size) (n : Safe Z EL vm h a) : ∀ x ∈ [a], x < h.size ∧ Safe Z EL vm h x := fun x hx => by
  rcases List.mem_singleton.mp hx with rfl; exact ⟨q, n⟩
end NewH
end Jvm.RoadKit
namespace Jvm.RoadKit
open Sem ClassFile Op Lib Bundle Jvm.Stand Jvm.Free Jvm.LawKit Jvm.Free.SB Jvm.Free.SBG
section NewX
variable {p : Program} {l : Launch} {e : Env} {R : Room} {s : State} {m : MethodId} {args : Array Value} {below : List Frame} {meth : Method} {c : Code} {T : State} {locs : List Loc} {cells slots : Nat} {Z : State} {a0 : Array Value} {EL : List (String × Nat)} {h : Heap} {vm0 : Vm}
/-- the walk's goal with a word on the end's tables and heap -/
def GlX (p : Program) (e : Env) (below : List Frame) (s : State) (Q : Option Value → Heap → List Loc → Prop) (EX : Vm → Heap → Prop) (C N : Nat) (T : State) (g : JFrame) : Prop :=
  ∃ s₂ o, Steps p.tables e below (T.setTop g) s₂ ∧ s₂.status = .running ∧ Ended s₂ below o ∧ ∃ v L, o = .returned v ∧ Q v s₂.heap L ∧ EX s₂.vm s₂.heap ∧ ReturnedEndW s o s₂ L C N
variable {Q : Option Value → Heap → List Loc → Prop} {EX : Vm → Heap → Prop} {C N : Nat} {T' : State} {g g' : JFrame}
theorem GlX.st (f : ∀ t, Steps p.tables e below (T'.setTop g') t → Steps p.tables e below (T.setTop g) t) (k : GlX p e below s Q EX C N T' g') : GlX p e below s Q EX C N T g := by
  obtain ⟨s₂, o, h1, r⟩ := k
  exact ⟨s₂, o, f _ h1, r⟩
theorem GlX.ret {vm₁ : Vm} {k : Nat} (hS : s.Since vm₁ k) (hk : k ≤ h.size) (X : Stand p l e R (s.setVm vm₁) m args below meth c T locs cells slots) (hlk : meth.locks = false) {v : Option Value} (hv : meth.sig.returnType = none → v = none) (eT : T.heap = h)
    (f : ∀ fs, (∀ (f : JFrame) (acts : List Action), f.method = m → f.locked = none → f.entered = [] → (doReturn e (T.setTop f) acts v).1 = T.setFrames fs) → Steps p.tables e below (T.setTop g) (T.setFrames fs)) (hc : cells ≤ C) (hn : slots ≤ N) (hQ : Q v h locs) (hE : EX T.vm h) : GlX p e below s Q EX C N T g := by
  obtain ⟨fs, hr, hrun, hended, h1, h2, h3, h4⟩ := X.leaveW hS (by rw [eT]; exact hk) (v := v) hv hlk
  exact ⟨_, _, f fs hr, hrun, hended, _, _, rfl, by show Q v T.heap _; rw [eT]; exact hQ, by show EX T.vm T.heap; rw [eT]; exact hE, h1, h2, h3, h4.mono hc hn⟩
/-- a callee that loads a constant and says at its end where it lies -/
theorem backOfSX {y : MethodName} {bytes : ByteArray} {maxL : Nat} {ret : Option FieldType} {rm : Room} {len W : Nat} {as' : Array Value} {xs : List Addr}
    (hM : MetFree l y (head1 [Cond.code y bytes maxL ret] rm) (fun a U => a = as' ∧ Z.Warmed39 U.vm ∧ U.heap = h ∧ CHv Z EL U.vm h ∧ ∀ x ∈ xs, Safe Z EL U.vm h x) (fun _ _ _ _ _ => True) (fun _ U o U' => ∃ v L, o = .returned v ∧ Q v U'.heap L ∧ EX U'.vm U'.heap ∧ ReturnedEndW U o U' L rm.cells rm.slots))
    (hZ : Z.Warmed39 vm0) (wc : (Cond.code y bytes maxL ret).before a0 Z = true) (wz : (Cond.initialized y.cls).before a0 Z = true) (hf : rm.frames + 1 ≤ R.frames) (hl : W + (maxL + 11) + rm.locals ≤ R.locals) (hEL : EW Z a0 EL) (H : CHv Z EL vm0 h) (hxs : ∀ x ∈ xs, x < h.size ∧ Safe Z EL vm0 h x) :
    BackS l R p e below (s.setVm vm0) args y len W (fun A a => a = as' ∧ A.U.heap = h ∧ A.cells + rm.cells ≤ R.cells ∧ A.slots + rm.slots ≤ R.slots)
      (fun A _ v B => ∃ L, (Q v B.U.heap L ∧ EX B.U.vm B.U.heap) ∧ B.locs = A.locs ++ L ∧ B.cells = A.cells + rm.cells ∧ B.slots = A.slots + rm.slots) :=
  BackS.of_freeW (bytes := bytes) (maxL := maxL) (ret := ret) (E := fun _ _ o t L k n => k = rm.cells ∧ n = rm.slots ∧ ∃ v, o = .returned v ∧ Q v t.heap L ∧ EX t.vm t.heap) hM hf hl
    (fun m meth c A a Y hp => have hU : Z.Warmed39 A.U.vm := wtrans (s := s.setVm vm0) hZ Y.warmed
      ⟨by show (Cond.and _ .tt).before a A.U = true; rw [Cond.before_and, mv hU wc]; rfl, mv hU wc, mv hU wz, hp.2.2.1, hp.2.2.2⟩)
    (fun m meth c A a g mk Y hp => ⟨hp.1, wtrans (s := s.setVm vm0) hZ Y.warmed, hp.2.1, (CHv.at Y hZ hEL H).1, fun x hx => (CHv.at Y hZ hEL H).safe (hxs x hx).1 (hxs x hx).2⟩) (fun _ _ _ _ _ _ _ _ _ => trivial)
    (fun _ _ _ _ ⟨v, L, h1, h2, h3, h4⟩ => ⟨L, _, _, h4, rfl, rfl, v, h1, h2, h3⟩)
    (fun m meth c A a g mk v t L k n Y hp _ _ ⟨e1, e2, v', e3, e4, e5⟩ => by cases e3; subst e1 e2; exact ⟨L, ⟨e4, e5⟩, rfl, rfl, rfl⟩)
/-- a callee that loads a constant which stands resolved at its start: the library's backOf, with that word carried -/
theorem backOfL {y : MethodName} {bytes : ByteArray} {maxL : Nat} {ret : Option FieldType} {rm : Room} {len W : Nat} {as' : Array Value} {own : String} {ix : Nat} {la : Addr}
    (hM : MetFree l y (head1 [Cond.code y bytes maxL ret] rm) (fun a U => a = as' ∧ Z.Warmed39 U.vm ∧ U.heap = h ∧ Lit U own ix la) (fun _ _ _ _ _ => True) (fun _ U o U' => ∃ v L, o = .returned v ∧ Q v U'.heap L ∧ FrameEnd U o U' L rm.cells rm.slots))
    (hZ : Z.Warmed39 s.vm) (wc : (Cond.code y bytes maxL ret).before a0 Z = true) (wz : (Cond.initialized y.cls).before a0 Z = true) (hf : rm.frames + 1 ≤ R.frames) (hl : W + (maxL + 11) + rm.locals ≤ R.locals) (hL : Lit s own ix la) :
    Back l R p e below s args y len W (fun A a => a = as' ∧ A.U.heap = h ∧ A.cells + rm.cells ≤ R.cells ∧ A.slots + rm.slots ≤ R.slots)
      (fun A _ v B => ∃ L, Q v B.U.heap L ∧ B.locs = A.locs ++ L ∧ B.cells = A.cells + rm.cells ∧ B.slots = A.slots + rm.slots) :=
  Back.of_free (bytes := bytes) (maxL := maxL) (ret := ret) (E := fun _ _ o t L k n => k = rm.cells ∧ n = rm.slots ∧ ∃ v, o = .returned v ∧ Q v t.heap L) hM hf hl
    (fun m meth c A a Y hp => have hU : Z.Warmed39 A.U.vm := wtrans hZ Y.warmed
      ⟨by show (Cond.and _ .tt).before a A.U = true; rw [Cond.before_and, mv hU wc]; rfl, mv hU wc, mv hU wz, hp.2.2.1, hp.2.2.2⟩)
    (fun m meth c A a g mk Y hp => ⟨hp.1, wtrans hZ Y.warmed, hp.2.1, (State.resolvedAt?_warmed39 (s := s) Y.warmed.wide hL : Lit (s.setVm A.U.vm) own ix la)⟩) (fun _ _ _ _ _ _ _ _ _ => trivial)
    (fun _ _ _ _ ⟨v, L, h1, h2, h3⟩ => ⟨L, _, _, h3, rfl, rfl, v, h1, h2⟩)
    (fun m meth c A a g mk v t L k n Y hp _ _ ⟨e1, e2, v', e3, e4⟩ => by cases e3; subst e1 e2; exact ⟨L, e4, rfl, rfl, rfl⟩)
end NewX
end Jvm.RoadKit
namespace Jvm.Pilot.@@N@@
open Jvm Jvm.ClassFile Sem Op Lib Jvm.Free Jvm.Stand Jvm.LawKit Jvm.RoadKit Bundle Jvm.Pilot.@@N@@.Jvm.D
theorem own_strA {Z : State} {a0 : Array Value} (hw : ∀ d ∈ tables_1, d.before a0 Z = true) : ∀ d ∈ Bundle.stringAtoms, d.before a0 Z = true := by
  intro d hd
  simp only [Bundle.stringAtoms, List.mem_cons, List.not_mem_nil, or_false] at hd
  rcases hd with rfl | rfl | rfl | rfl | rfl | rfl | rfl
  · exact (hw _ (List.mem_of_getElem? (i := 29) rfl))
  · exact (hw _ (List.mem_of_getElem? (i := 30) rfl))
  · exact (hw _ (List.mem_of_getElem? (i := 0) rfl))
  · exact (hw _ (List.mem_of_getElem? (i := 31) rfl))
  · exact (hw _ (List.mem_of_getElem? (i := 32) rfl))
  · exact (hw _ (List.mem_of_getElem? (i := 33) rfl))
  · exact (hw _ (List.mem_of_getElem? (i := 34) rfl))

theorem w1_ {Z : State} {a0 : Array Value} (hw : ∀ d ∈ tables_1, d.before a0 Z = true) : (Jvm.Cond.methodLink "com/example/wanderpath/wanderpath/GridCanStepPinLaw" (13 : Nat) ({ cls := "com/example/wanderpath/wanderpath/GridCanStepPinLaw", name := "tile", desc := "(II)B" } : Jvm.MethodName)).before a0 Z = true := hw _ (List.mem_of_getElem? (i := 1) rfl)
theorem w2_ {Z : State} {a0 : Array Value} (hw : ∀ d ∈ tables_1, d.before a0 Z = true) : (Jvm.Cond.static ({ cls := "com/example/wanderpath/wanderpath/GridCanStepPinLaw", name := "tile", desc := "(II)B" } : Jvm.MethodName)).before a0 Z = true := hw _ (List.mem_of_getElem? (i := 2) rfl)
theorem w3_ {Z : State} {a0 : Array Value} (hw : ∀ d ∈ tables_1, d.before a0 Z = true) : (Jvm.Cond.initialized "com/example/wanderpath/wanderpath/GridCanStepPinLaw").before a0 Z = true := hw _ (List.mem_of_getElem? (i := 3) rfl)
theorem w4_ {Z : State} {a0 : Array Value} (hw : ∀ d ∈ tables_1, d.before a0 Z = true) : (Jvm.Cond.code ({ cls := "com/example/wanderpath/wanderpath/GridCanStepPinLaw", name := "tile", desc := "(II)B" } : Jvm.MethodName) method_3_code (2 : Nat) (Option.some Jvm.ClassFile.FieldType.byte)).before a0 Z = true := hw _ (List.mem_of_getElem? (i := 4) rfl)
theorem w5_ {Z : State} {a0 : Array Value} (hw : ∀ d ∈ tables_1, d.before a0 Z = true) : (Jvm.Cond.methodLink "com/example/wanderpath/wanderpath/GridCanStepPinLaw" (7 : Nat) ({ cls := "com/example/wanderpath/wanderpath/GridCanStepPinLaw", name := "bit", desc := "(II)Z" } : Jvm.MethodName)).before a0 Z = true := hw _ (List.mem_of_getElem? (i := 5) rfl)
theorem w6_ {Z : State} {a0 : Array Value} (hw : ∀ d ∈ tables_1, d.before a0 Z = true) : (Jvm.Cond.static ({ cls := "com/example/wanderpath/wanderpath/GridCanStepPinLaw", name := "bit", desc := "(II)Z" } : Jvm.MethodName)).before a0 Z = true := hw _ (List.mem_of_getElem? (i := 6) rfl)
theorem w7_ {Z : State} {a0 : Array Value} (hw : ∀ d ∈ tables_1, d.before a0 Z = true) : (Jvm.Cond.code ({ cls := "com/example/wanderpath/wanderpath/GridCanStepPinLaw", name := "bit", desc := "(II)Z" } : Jvm.MethodName) method_2_code (2 : Nat) (Option.some Jvm.ClassFile.FieldType.boolean)).before a0 Z = true := hw _ (List.mem_of_getElem? (i := 7) rfl)
theorem w9_ {Z : State} {a0 : Array Value} (hw : ∀ d ∈ tables_1, d.before a0 Z = true) : (Jvm.Cond.constant "com/example/wanderpath/wanderpath/GridCanStepPinLaw" (17 : Nat) (2147483647 : Int32)).before a0 Z = true := hw _ (List.mem_of_getElem? (i := 9) rfl)
theorem w10_ {Z : State} {a0 : Array Value} (hw : ∀ d ∈ tables_1, d.before a0 Z = true) : (Jvm.Cond.classLink "com/example/wanderpath/wanderpath/GridCanStepPinLaw" (18 : Nat) "com/example/wanderpath/wanderpath/TileMap").before a0 Z = true := hw _ (List.mem_of_getElem? (i := 10) rfl)
theorem w11_ {Z : State} {a0 : Array Value} (hw : ∀ d ∈ tables_1, d.before a0 Z = true) : (Jvm.Cond.instantiable "com/example/wanderpath/wanderpath/TileMap" (4 : Nat)).before a0 Z = true := hw _ (List.mem_of_getElem? (i := 11) rfl)
theorem w12_ {Z : State} {a0 : Array Value} (hw : ∀ d ∈ tables_1, d.before a0 Z = true) : (Jvm.Cond.initialized "com/example/wanderpath/wanderpath/TileMap").before a0 Z = true := hw _ (List.mem_of_getElem? (i := 12) rfl)
theorem w13_ {Z : State} {a0 : Array Value} (hw : ∀ d ∈ tables_1, d.before a0 Z = true) : (Jvm.Cond.methodLink "com/example/wanderpath/wanderpath/GridCanStepPinLaw" (20 : Nat) ({ cls := "com/example/wanderpath/wanderpath/TileMap", name := "<init>", desc := "(II[B)V" } : Jvm.MethodName)).before a0 Z = true := hw _ (List.mem_of_getElem? (i := 13) rfl)
theorem w14_ {Z : State} {a0 : Array Value} (hw : ∀ d ∈ tables_1, d.before a0 Z = true) : (Jvm.Cond.instanceMethod ({ cls := "com/example/wanderpath/wanderpath/TileMap", name := "<init>", desc := "(II[B)V" } : Jvm.MethodName)).before a0 Z = true := hw _ (List.mem_of_getElem? (i := 14) rfl)
theorem w15_ {Z : State} {a0 : Array Value} (hw : ∀ d ∈ tables_1, d.before a0 Z = true) : (Jvm.Cond.code ({ cls := "com/example/wanderpath/wanderpath/TileMap", name := "<init>", desc := "(II[B)V" } : Jvm.MethodName) prog_30_method_1_code (9 : Nat) (Option.none : Option Jvm.ClassFile.FieldType)).before a0 Z = true := hw _ (List.mem_of_getElem? (i := 15) rfl)
theorem w16_ {Z : State} {a0 : Array Value} (hw : ∀ d ∈ tables_1, d.before a0 Z = true) : (Jvm.Cond.methodLink "com/example/wanderpath/wanderpath/TileMap" (1 : Nat) ({ cls := "java/lang/Object", name := "<init>", desc := "()V" } : Jvm.MethodName)).before a0 Z = true := hw _ (List.mem_of_getElem? (i := 16) rfl)
theorem w17_ {Z : State} {a0 : Array Value} (hw : ∀ d ∈ tables_1, d.before a0 Z = true) : (Jvm.Cond.instanceMethod ({ cls := "java/lang/Object", name := "<init>", desc := "()V" } : Jvm.MethodName)).before a0 Z = true := hw _ (List.mem_of_getElem? (i := 17) rfl)
theorem w18_ {Z : State} {a0 : Array Value} (hw : ∀ d ∈ tables_1, d.before a0 Z = true) : (Jvm.Cond.code ({ cls := "java/lang/Object", name := "<init>", desc := "()V" } : Jvm.MethodName) object_method_1_code (1 : Nat) (Option.none : Option Jvm.ClassFile.FieldType)).before a0 Z = true := hw _ (List.mem_of_getElem? (i := 18) rfl)
theorem w19_ {Z : State} {a0 : Array Value} (hw : ∀ d ∈ tables_1, d.before a0 Z = true) : (Jvm.Cond.fieldLink "com/example/wanderpath/wanderpath/TileMap" (16 : Nat) "com/example/wanderpath/wanderpath/TileMap" "width" "I").before a0 Z = true := hw _ (List.mem_of_getElem? (i := 19) rfl)
theorem w20_ {Z : State} {a0 : Array Value} (hw : ∀ d ∈ tables_1, d.before a0 Z = true) : (Jvm.Cond.laysFinal "com/example/wanderpath/wanderpath/TileMap" "com/example/wanderpath/wanderpath/TileMap" "width" "I").before a0 Z = true := hw _ (List.mem_of_getElem? (i := 20) rfl)
theorem w21_ {Z : State} {a0 : Array Value} (hw : ∀ d ∈ tables_1, d.before a0 Z = true) : (Jvm.Cond.fieldLink "com/example/wanderpath/wanderpath/TileMap" (22 : Nat) "com/example/wanderpath/wanderpath/TileMap" "height" "I").before a0 Z = true := hw _ (List.mem_of_getElem? (i := 21) rfl)
theorem w22_ {Z : State} {a0 : Array Value} (hw : ∀ d ∈ tables_1, d.before a0 Z = true) : (Jvm.Cond.laysFinal "com/example/wanderpath/wanderpath/TileMap" "com/example/wanderpath/wanderpath/TileMap" "height" "I").before a0 Z = true := hw _ (List.mem_of_getElem? (i := 22) rfl)
theorem w23_ {Z : State} {a0 : Array Value} (hw : ∀ d ∈ tables_1, d.before a0 Z = true) : (Jvm.Cond.fieldLink "com/example/wanderpath/wanderpath/TileMap" (25 : Nat) "com/example/wanderpath/wanderpath/TileMap" "tiles" "[B").before a0 Z = true := hw _ (List.mem_of_getElem? (i := 23) rfl)
theorem w24_ {Z : State} {a0 : Array Value} (hw : ∀ d ∈ tables_1, d.before a0 Z = true) : (Jvm.Cond.laysFinal "com/example/wanderpath/wanderpath/TileMap" "com/example/wanderpath/wanderpath/TileMap" "tiles" "[B").before a0 Z = true := hw _ (List.mem_of_getElem? (i := 24) rfl)
theorem w25_ {Z : State} {a0 : Array Value} (hw : ∀ d ∈ tables_1, d.before a0 Z = true) : (Jvm.Cond.methodLink "com/example/wanderpath/wanderpath/TileMap" (29 : Nat) ({ cls := "com/example/wanderpath/wanderpath/TileMap", name := "isPassableTile", desc := "(I)Z" } : Jvm.MethodName)).before a0 Z = true := hw _ (List.mem_of_getElem? (i := 25) rfl)
theorem w26_ {Z : State} {a0 : Array Value} (hw : ∀ d ∈ tables_1, d.before a0 Z = true) : (Jvm.Cond.static ({ cls := "com/example/wanderpath/wanderpath/TileMap", name := "isPassableTile", desc := "(I)Z" } : Jvm.MethodName)).before a0 Z = true := hw _ (List.mem_of_getElem? (i := 26) rfl)
theorem w27_ {Z : State} {a0 : Array Value} (hw : ∀ d ∈ tables_1, d.before a0 Z = true) : (Jvm.Cond.code ({ cls := "com/example/wanderpath/wanderpath/TileMap", name := "isPassableTile", desc := "(I)Z" } : Jvm.MethodName) prog_30_method_13_code (1 : Nat) (Option.some Jvm.ClassFile.FieldType.boolean)).before a0 Z = true := hw _ (List.mem_of_getElem? (i := 27) rfl)
theorem w28_ {Z : State} {a0 : Array Value} (hw : ∀ d ∈ tables_1, d.before a0 Z = true) : (Jvm.Cond.stringLink "com/example/wanderpath/wanderpath/TileMap" (120 : Nat) ".GS").before a0 Z = true := hw _ (List.mem_of_getElem? (i := 28) rfl)
theorem w29_ {Z : State} {a0 : Array Value} (hw : ∀ d ∈ tables_1, d.before a0 Z = true) : (Jvm.Cond.initialized "java/lang/String").before a0 Z = true := hw _ (List.mem_of_getElem? (i := 29) rfl)
theorem w30_ {Z : State} {a0 : Array Value} (hw : ∀ d ∈ tables_1, d.before a0 Z = true) : (Jvm.Cond.instantiable "java/lang/String" (4 : Nat)).before a0 Z = true := hw _ (List.mem_of_getElem? (i := 30) rfl)
theorem w35_ {Z : State} {a0 : Array Value} (hw : ∀ d ∈ tables_1, d.before a0 Z = true) : (Jvm.Cond.methodLink "com/example/wanderpath/wanderpath/TileMap" (116 : Nat) ({ cls := "java/lang/String", name := "indexOf", desc := "(I)I" } : Jvm.MethodName)).before a0 Z = true := hw _ (List.mem_of_getElem? (i := 35) rfl)
theorem w36_ {Z : State} {a0 : Array Value} (hw : ∀ d ∈ tables_1, d.before a0 Z = true) : (Jvm.Cond.declares ({ cls := "java/lang/String", name := "indexOf", desc := "(I)I" } : Jvm.MethodName)).before a0 Z = true := hw _ (List.mem_of_getElem? (i := 36) rfl)
theorem w37_ {Z : State} {a0 : Array Value} (hw : ∀ d ∈ tables_1, d.before a0 Z = true) : (Jvm.Cond.instanceMethod ({ cls := "java/lang/String", name := "indexOf", desc := "(I)I" } : Jvm.MethodName)).before a0 Z = true := hw _ (List.mem_of_getElem? (i := 37) rfl)
theorem w38_ {Z : State} {a0 : Array Value} (hw : ∀ d ∈ tables_1, d.before a0 Z = true) : (Jvm.Cond.selects "java/lang/String" ({ cls := "java/lang/String", name := "indexOf", desc := "(I)I" } : Jvm.MethodName) ({ cls := "java/lang/String", name := "indexOf", desc := "(I)I" } : Jvm.MethodName)).before a0 Z = true := hw _ (List.mem_of_getElem? (i := 38) rfl)
theorem w39_ {Z : State} {a0 : Array Value} (hw : ∀ d ∈ tables_1, d.before a0 Z = true) : (Jvm.Cond.code ({ cls := "java/lang/String", name := "indexOf", desc := "(I)I" } : Jvm.MethodName) jdk_42_method_79_code (2 : Nat) (Option.some Jvm.ClassFile.FieldType.int)).before a0 Z = true := hw _ (List.mem_of_getElem? (i := 39) rfl)
theorem w40_ {Z : State} {a0 : Array Value} (hw : ∀ d ∈ tables_1, d.before a0 Z = true) : (Jvm.Cond.methodLink "java/lang/String" (633 : Nat) ({ cls := "java/lang/String", name := "indexOf", desc := "(II)I" } : Jvm.MethodName)).before a0 Z = true := hw _ (List.mem_of_getElem? (i := 40) rfl)
theorem w41_ {Z : State} {a0 : Array Value} (hw : ∀ d ∈ tables_1, d.before a0 Z = true) : (Jvm.Cond.declares ({ cls := "java/lang/String", name := "indexOf", desc := "(II)I" } : Jvm.MethodName)).before a0 Z = true := hw _ (List.mem_of_getElem? (i := 41) rfl)
theorem w42_ {Z : State} {a0 : Array Value} (hw : ∀ d ∈ tables_1, d.before a0 Z = true) : (Jvm.Cond.instanceMethod ({ cls := "java/lang/String", name := "indexOf", desc := "(II)I" } : Jvm.MethodName)).before a0 Z = true := hw _ (List.mem_of_getElem? (i := 42) rfl)
theorem w43_ {Z : State} {a0 : Array Value} (hw : ∀ d ∈ tables_1, d.before a0 Z = true) : (Jvm.Cond.selects "java/lang/String" ({ cls := "java/lang/String", name := "indexOf", desc := "(II)I" } : Jvm.MethodName) ({ cls := "java/lang/String", name := "indexOf", desc := "(II)I" } : Jvm.MethodName)).before a0 Z = true := hw _ (List.mem_of_getElem? (i := 43) rfl)
theorem w44_ {Z : State} {a0 : Array Value} (hw : ∀ d ∈ tables_1, d.before a0 Z = true) : (Jvm.Cond.code ({ cls := "java/lang/String", name := "indexOf", desc := "(II)I" } : Jvm.MethodName) jdk_42_method_80_code (3 : Nat) (Option.some Jvm.ClassFile.FieldType.int)).before a0 Z = true := hw _ (List.mem_of_getElem? (i := 44) rfl)
theorem w45_ {Z : State} {a0 : Array Value} (hw : ∀ d ∈ tables_1, d.before a0 Z = true) : (Jvm.Cond.methodLink "java/lang/String" (492 : Nat) ({ cls := "java/lang/String", name := "isLatin1", desc := "()Z" } : Jvm.MethodName)).before a0 Z = true := hw _ (List.mem_of_getElem? (i := 45) rfl)
theorem w46_ {Z : State} {a0 : Array Value} (hw : ∀ d ∈ tables_1, d.before a0 Z = true) : (Jvm.Cond.declares ({ cls := "java/lang/String", name := "isLatin1", desc := "()Z" } : Jvm.MethodName)).before a0 Z = true := hw _ (List.mem_of_getElem? (i := 46) rfl)
theorem w47_ {Z : State} {a0 : Array Value} (hw : ∀ d ∈ tables_1, d.before a0 Z = true) : (Jvm.Cond.instanceMethod ({ cls := "java/lang/String", name := "isLatin1", desc := "()Z" } : Jvm.MethodName)).before a0 Z = true := hw _ (List.mem_of_getElem? (i := 47) rfl)
theorem w48_ {Z : State} {a0 : Array Value} (hw : ∀ d ∈ tables_1, d.before a0 Z = true) : (Jvm.Cond.selects "java/lang/String" ({ cls := "java/lang/String", name := "isLatin1", desc := "()Z" } : Jvm.MethodName) ({ cls := "java/lang/String", name := "isLatin1", desc := "()Z" } : Jvm.MethodName)).before a0 Z = true := hw _ (List.mem_of_getElem? (i := 48) rfl)
theorem w49_ {Z : State} {a0 : Array Value} (hw : ∀ d ∈ tables_1, d.before a0 Z = true) : (Jvm.Cond.code ({ cls := "java/lang/String", name := "isLatin1", desc := "()Z" } : Jvm.MethodName) jdk_42_method_154_code (1 : Nat) (Option.some Jvm.ClassFile.FieldType.boolean)).before a0 Z = true := hw _ (List.mem_of_getElem? (i := 49) rfl)
theorem w50_ {Z : State} {a0 : Array Value} (hw : ∀ d ∈ tables_1, d.before a0 Z = true) : (Jvm.Cond.fieldLink "java/lang/String" (38 : Nat) "java/lang/String" "COMPACT_STRINGS" "Z").before a0 Z = true := hw _ (List.mem_of_getElem? (i := 50) rfl)
theorem w51_ {Z : State} {a0 : Array Value} (hw : ∀ d ∈ tables_1, d.before a0 Z = true) : (Jvm.Cond.fieldLink "java/lang/String" (15 : Nat) "java/lang/String" "coder" "B").before a0 Z = true := hw _ (List.mem_of_getElem? (i := 51) rfl)
theorem w52_ {Z : State} {a0 : Array Value} (hw : ∀ d ∈ tables_1, d.before a0 Z = true) : (Jvm.Cond.fieldLink "java/lang/String" (9 : Nat) "java/lang/String" "value" "[B").before a0 Z = true := hw _ (List.mem_of_getElem? (i := 52) rfl)
theorem w53_ {Z : State} {a0 : Array Value} (hw : ∀ d ∈ tables_1, d.before a0 Z = true) : (Jvm.Cond.methodLink "java/lang/String" (505 : Nat) ({ cls := "java/lang/String", name := "length", desc := "()I" } : Jvm.MethodName)).before a0 Z = true := hw _ (List.mem_of_getElem? (i := 53) rfl)
theorem w54_ {Z : State} {a0 : Array Value} (hw : ∀ d ∈ tables_1, d.before a0 Z = true) : (Jvm.Cond.declares ({ cls := "java/lang/String", name := "length", desc := "()I" } : Jvm.MethodName)).before a0 Z = true := hw _ (List.mem_of_getElem? (i := 54) rfl)
theorem w55_ {Z : State} {a0 : Array Value} (hw : ∀ d ∈ tables_1, d.before a0 Z = true) : (Jvm.Cond.instanceMethod ({ cls := "java/lang/String", name := "length", desc := "()I" } : Jvm.MethodName)).before a0 Z = true := hw _ (List.mem_of_getElem? (i := 55) rfl)
theorem w56_ {Z : State} {a0 : Array Value} (hw : ∀ d ∈ tables_1, d.before a0 Z = true) : (Jvm.Cond.selects "java/lang/String" ({ cls := "java/lang/String", name := "length", desc := "()I" } : Jvm.MethodName) ({ cls := "java/lang/String", name := "length", desc := "()I" } : Jvm.MethodName)).before a0 Z = true := hw _ (List.mem_of_getElem? (i := 56) rfl)
theorem w57_ {Z : State} {a0 : Array Value} (hw : ∀ d ∈ tables_1, d.before a0 Z = true) : (Jvm.Cond.code ({ cls := "java/lang/String", name := "length", desc := "()I" } : Jvm.MethodName) jdk_42_method_54_code (1 : Nat) (Option.some Jvm.ClassFile.FieldType.int)).before a0 Z = true := hw _ (List.mem_of_getElem? (i := 57) rfl)
theorem w58_ {Z : State} {a0 : Array Value} (hw : ∀ d ∈ tables_1, d.before a0 Z = true) : (Jvm.Cond.methodLink "java/lang/String" (335 : Nat) ({ cls := "java/lang/String", name := "coder", desc := "()B" } : Jvm.MethodName)).before a0 Z = true := hw _ (List.mem_of_getElem? (i := 58) rfl)
theorem w59_ {Z : State} {a0 : Array Value} (hw : ∀ d ∈ tables_1, d.before a0 Z = true) : (Jvm.Cond.declares ({ cls := "java/lang/String", name := "coder", desc := "()B" } : Jvm.MethodName)).before a0 Z = true := hw _ (List.mem_of_getElem? (i := 59) rfl)
theorem w60_ {Z : State} {a0 : Array Value} (hw : ∀ d ∈ tables_1, d.before a0 Z = true) : (Jvm.Cond.instanceMethod ({ cls := "java/lang/String", name := "coder", desc := "()B" } : Jvm.MethodName)).before a0 Z = true := hw _ (List.mem_of_getElem? (i := 60) rfl)
theorem w61_ {Z : State} {a0 : Array Value} (hw : ∀ d ∈ tables_1, d.before a0 Z = true) : (Jvm.Cond.selects "java/lang/String" ({ cls := "java/lang/String", name := "coder", desc := "()B" } : Jvm.MethodName) ({ cls := "java/lang/String", name := "coder", desc := "()B" } : Jvm.MethodName)).before a0 Z = true := hw _ (List.mem_of_getElem? (i := 61) rfl)
theorem w62_ {Z : State} {a0 : Array Value} (hw : ∀ d ∈ tables_1, d.before a0 Z = true) : (Jvm.Cond.code ({ cls := "java/lang/String", name := "coder", desc := "()B" } : Jvm.MethodName) jdk_42_method_152_code (1 : Nat) (Option.some Jvm.ClassFile.FieldType.byte)).before a0 Z = true := hw _ (List.mem_of_getElem? (i := 62) rfl)
theorem w63_ {Z : State} {a0 : Array Value} (hw : ∀ d ∈ tables_1, d.before a0 Z = true) : (Jvm.Cond.methodLink "java/lang/String" (637 : Nat) ({ cls := "java/lang/StringLatin1", name := "indexOf", desc := "([BIII)I" } : Jvm.MethodName)).before a0 Z = true := hw _ (List.mem_of_getElem? (i := 63) rfl)
theorem w64_ {Z : State} {a0 : Array Value} (hw : ∀ d ∈ tables_1, d.before a0 Z = true) : (Jvm.Cond.static ({ cls := "java/lang/StringLatin1", name := "indexOf", desc := "([BIII)I" } : Jvm.MethodName)).before a0 Z = true := hw _ (List.mem_of_getElem? (i := 64) rfl)
theorem w65_ {Z : State} {a0 : Array Value} (hw : ∀ d ∈ tables_1, d.before a0 Z = true) : (Jvm.Cond.initialized "java/lang/StringLatin1").before a0 Z = true := hw _ (List.mem_of_getElem? (i := 65) rfl)
theorem w66_ {Z : State} {a0 : Array Value} (hw : ∀ d ∈ tables_1, d.before a0 Z = true) : (Jvm.Cond.code ({ cls := "java/lang/StringLatin1", name := "indexOf", desc := "([BIII)I" } : Jvm.MethodName) jdk_43_method_22_code (4 : Nat) (Option.some Jvm.ClassFile.FieldType.int)).before a0 Z = true := hw _ (List.mem_of_getElem? (i := 66) rfl)
theorem w67_ {Z : State} {a0 : Array Value} (hw : ∀ d ∈ tables_1, d.before a0 Z = true) : (Jvm.Cond.methodLink "java/lang/StringLatin1" (88 : Nat) ({ cls := "java/lang/StringLatin1", name := "canEncode", desc := "(I)Z" } : Jvm.MethodName)).before a0 Z = true := hw _ (List.mem_of_getElem? (i := 67) rfl)
theorem w68_ {Z : State} {a0 : Array Value} (hw : ∀ d ∈ tables_1, d.before a0 Z = true) : (Jvm.Cond.static ({ cls := "java/lang/StringLatin1", name := "canEncode", desc := "(I)Z" } : Jvm.MethodName)).before a0 Z = true := hw _ (List.mem_of_getElem? (i := 68) rfl)
theorem w69_ {Z : State} {a0 : Array Value} (hw : ∀ d ∈ tables_1, d.before a0 Z = true) : (Jvm.Cond.code ({ cls := "java/lang/StringLatin1", name := "canEncode", desc := "(I)Z" } : Jvm.MethodName) jdk_43_method_4_code (1 : Nat) (Option.some Jvm.ClassFile.FieldType.boolean)).before a0 Z = true := hw _ (List.mem_of_getElem? (i := 69) rfl)
theorem w70_ {Z : State} {a0 : Array Value} (hw : ∀ d ∈ tables_1, d.before a0 Z = true) : (Jvm.Cond.methodLink "java/lang/StringLatin1" (92 : Nat) ({ cls := "java/lang/Math", name := "max", desc := "(II)I" } : Jvm.MethodName)).before a0 Z = true := hw _ (List.mem_of_getElem? (i := 70) rfl)
theorem w71_ {Z : State} {a0 : Array Value} (hw : ∀ d ∈ tables_1, d.before a0 Z = true) : (Jvm.Cond.static ({ cls := "java/lang/Math", name := "max", desc := "(II)I" } : Jvm.MethodName)).before a0 Z = true := hw _ (List.mem_of_getElem? (i := 71) rfl)
theorem w72_ {Z : State} {a0 : Array Value} (hw : ∀ d ∈ tables_1, d.before a0 Z = true) : (Jvm.Cond.initialized "java/lang/Math").before a0 Z = true := hw _ (List.mem_of_getElem? (i := 72) rfl)
theorem w73_ {Z : State} {a0 : Array Value} (hw : ∀ d ∈ tables_1, d.before a0 Z = true) : (Jvm.Cond.code ({ cls := "java/lang/Math", name := "max", desc := "(II)I" } : Jvm.MethodName) jdk_29_method_65_code (2 : Nat) (Option.some Jvm.ClassFile.FieldType.int)).before a0 Z = true := hw _ (List.mem_of_getElem? (i := 73) rfl)
theorem w74_ {Z : State} {a0 : Array Value} (hw : ∀ d ∈ tables_1, d.before a0 Z = true) : (Jvm.Cond.methodLink "java/lang/StringLatin1" (38 : Nat) ({ cls := "java/lang/Math", name := "min", desc := "(II)I" } : Jvm.MethodName)).before a0 Z = true := hw _ (List.mem_of_getElem? (i := 74) rfl)
theorem w75_ {Z : State} {a0 : Array Value} (hw : ∀ d ∈ tables_1, d.before a0 Z = true) : (Jvm.Cond.static ({ cls := "java/lang/Math", name := "min", desc := "(II)I" } : Jvm.MethodName)).before a0 Z = true := hw _ (List.mem_of_getElem? (i := 75) rfl)
theorem w76_ {Z : State} {a0 : Array Value} (hw : ∀ d ∈ tables_1, d.before a0 Z = true) : (Jvm.Cond.code ({ cls := "java/lang/Math", name := "min", desc := "(II)I" } : Jvm.MethodName) jdk_29_method_69_code (2 : Nat) (Option.some Jvm.ClassFile.FieldType.int)).before a0 Z = true := hw _ (List.mem_of_getElem? (i := 76) rfl)
theorem w77_ {Z : State} {a0 : Array Value} (hw : ∀ d ∈ tables_1, d.before a0 Z = true) : (Jvm.Cond.methodLink "java/lang/StringLatin1" (95 : Nat) ({ cls := "java/lang/StringLatin1", name := "indexOfChar", desc := "([BIII)I" } : Jvm.MethodName)).before a0 Z = true := hw _ (List.mem_of_getElem? (i := 77) rfl)
theorem w78_ {Z : State} {a0 : Array Value} (hw : ∀ d ∈ tables_1, d.before a0 Z = true) : (Jvm.Cond.static ({ cls := "java/lang/StringLatin1", name := "indexOfChar", desc := "([BIII)I" } : Jvm.MethodName)).before a0 Z = true := hw _ (List.mem_of_getElem? (i := 78) rfl)
theorem w79_ {Z : State} {a0 : Array Value} (hw : ∀ d ∈ tables_1, d.before a0 Z = true) : (Jvm.Cond.code ({ cls := "java/lang/StringLatin1", name := "indexOfChar", desc := "([BIII)I" } : Jvm.MethodName) jdk_43_method_23_code (6 : Nat) (Option.some Jvm.ClassFile.FieldType.int)).before a0 Z = true := hw _ (List.mem_of_getElem? (i := 79) rfl)
theorem w80_ {Z : State} {a0 : Array Value} (hw : ∀ d ∈ tables_1, d.before a0 Z = true) : (Jvm.Cond.fieldLink "com/example/wanderpath/wanderpath/TileMap" (33 : Nat) "com/example/wanderpath/wanderpath/TileMap" "passableCount" "I").before a0 Z = true := hw _ (List.mem_of_getElem? (i := 80) rfl)
theorem w81_ {Z : State} {a0 : Array Value} (hw : ∀ d ∈ tables_1, d.before a0 Z = true) : (Jvm.Cond.laysFinal "com/example/wanderpath/wanderpath/TileMap" "com/example/wanderpath/wanderpath/TileMap" "passableCount" "I").before a0 Z = true := hw _ (List.mem_of_getElem? (i := 81) rfl)
theorem w82_ {Z : State} {a0 : Array Value} (hw : ∀ d ∈ tables_1, d.before a0 Z = true) : (Jvm.Cond.classLink "com/example/wanderpath/wanderpath/GridCanStepPinLaw" (23 : Nat) "com/example/wanderpath/wanderpath/Grid").before a0 Z = true := hw _ (List.mem_of_getElem? (i := 82) rfl)
theorem w83_ {Z : State} {a0 : Array Value} (hw : ∀ d ∈ tables_1, d.before a0 Z = true) : (Jvm.Cond.instantiable "com/example/wanderpath/wanderpath/Grid" (5 : Nat)).before a0 Z = true := hw _ (List.mem_of_getElem? (i := 83) rfl)
theorem w84_ {Z : State} {a0 : Array Value} (hw : ∀ d ∈ tables_1, d.before a0 Z = true) : (Jvm.Cond.initialized "com/example/wanderpath/wanderpath/Grid").before a0 Z = true := hw _ (List.mem_of_getElem? (i := 84) rfl)
theorem w85_ {Z : State} {a0 : Array Value} (hw : ∀ d ∈ tables_1, d.before a0 Z = true) : (Jvm.Cond.fieldLink "com/example/wanderpath/wanderpath/GridCanStepPinLaw" (31 : Nat) "com/example/wanderpath/wanderpath/Moves" "FOUR" "Lcom/example/wanderpath/wanderpath/Moves;").before a0 Z = true := hw _ (List.mem_of_getElem? (i := 85) rfl)
theorem w86_ {Z : State} {a0 : Array Value} (hw : ∀ d ∈ tables_1, d.before a0 Z = true) : (Jvm.Cond.initialized "com/example/wanderpath/wanderpath/Moves").before a0 Z = true := hw _ (List.mem_of_getElem? (i := 86) rfl)
theorem w87_ {Z : State} {a0 : Array Value} (hw : ∀ d ∈ tables_1, d.before a0 Z = true) : (Jvm.Cond.laysStatic "com/example/wanderpath/wanderpath/Moves" "FOUR" "Lcom/example/wanderpath/wanderpath/Moves;").before a0 Z = true := hw _ (List.mem_of_getElem? (i := 87) rfl)
theorem w88_ {Z : State} {a0 : Array Value} (hw : ∀ d ∈ tables_1, d.before a0 Z = true) : (Jvm.Cond.methodLink "com/example/wanderpath/wanderpath/GridCanStepPinLaw" (34 : Nat) ({ cls := "com/example/wanderpath/wanderpath/Grid", name := "<init>", desc := "(Lcom/example/wanderpath/wanderpath/TileMap;Lcom/example/wanderpath/wanderpath/Moves;)V" } : Jvm.MethodName)).before a0 Z = true := hw _ (List.mem_of_getElem? (i := 88) rfl)
theorem w89_ {Z : State} {a0 : Array Value} (hw : ∀ d ∈ tables_1, d.before a0 Z = true) : (Jvm.Cond.instanceMethod ({ cls := "com/example/wanderpath/wanderpath/Grid", name := "<init>", desc := "(Lcom/example/wanderpath/wanderpath/TileMap;Lcom/example/wanderpath/wanderpath/Moves;)V" } : Jvm.MethodName)).before a0 Z = true := hw _ (List.mem_of_getElem? (i := 89) rfl)
theorem w90_ {Z : State} {a0 : Array Value} (hw : ∀ d ∈ tables_1, d.before a0 Z = true) : (Jvm.Cond.code ({ cls := "com/example/wanderpath/wanderpath/Grid", name := "<init>", desc := "(Lcom/example/wanderpath/wanderpath/TileMap;Lcom/example/wanderpath/wanderpath/Moves;)V" } : Jvm.MethodName) prog_11_method_1_code (7 : Nat) (Option.none : Option Jvm.ClassFile.FieldType)).before a0 Z = true := hw _ (List.mem_of_getElem? (i := 90) rfl)
theorem w91_ {Z : State} {a0 : Array Value} (hw : ∀ d ∈ tables_1, d.before a0 Z = true) : (Jvm.Cond.methodLink "com/example/wanderpath/wanderpath/Grid" (1 : Nat) ({ cls := "java/lang/Object", name := "<init>", desc := "()V" } : Jvm.MethodName)).before a0 Z = true := hw _ (List.mem_of_getElem? (i := 91) rfl)
theorem w92_ {Z : State} {a0 : Array Value} (hw : ∀ d ∈ tables_1, d.before a0 Z = true) : (Jvm.Cond.methodLink "com/example/wanderpath/wanderpath/Grid" (7 : Nat) ({ cls := "com/example/wanderpath/wanderpath/TileMap", name := "width", desc := "()I" } : Jvm.MethodName)).before a0 Z = true := hw _ (List.mem_of_getElem? (i := 92) rfl)
theorem w93_ {Z : State} {a0 : Array Value} (hw : ∀ d ∈ tables_1, d.before a0 Z = true) : (Jvm.Cond.declares ({ cls := "com/example/wanderpath/wanderpath/TileMap", name := "width", desc := "()I" } : Jvm.MethodName)).before a0 Z = true := hw _ (List.mem_of_getElem? (i := 93) rfl)
theorem w94_ {Z : State} {a0 : Array Value} (hw : ∀ d ∈ tables_1, d.before a0 Z = true) : (Jvm.Cond.instanceMethod ({ cls := "com/example/wanderpath/wanderpath/TileMap", name := "width", desc := "()I" } : Jvm.MethodName)).before a0 Z = true := hw _ (List.mem_of_getElem? (i := 94) rfl)
theorem w95_ {Z : State} {a0 : Array Value} (hw : ∀ d ∈ tables_1, d.before a0 Z = true) : (Jvm.Cond.selects "com/example/wanderpath/wanderpath/TileMap" ({ cls := "com/example/wanderpath/wanderpath/TileMap", name := "width", desc := "()I" } : Jvm.MethodName) ({ cls := "com/example/wanderpath/wanderpath/TileMap", name := "width", desc := "()I" } : Jvm.MethodName)).before a0 Z = true := hw _ (List.mem_of_getElem? (i := 95) rfl)
theorem w96_ {Z : State} {a0 : Array Value} (hw : ∀ d ∈ tables_1, d.before a0 Z = true) : (Jvm.Cond.code ({ cls := "com/example/wanderpath/wanderpath/TileMap", name := "width", desc := "()I" } : Jvm.MethodName) prog_30_method_4_code (1 : Nat) (Option.some Jvm.ClassFile.FieldType.int)).before a0 Z = true := hw _ (List.mem_of_getElem? (i := 96) rfl)
theorem w97_ {Z : State} {a0 : Array Value} (hw : ∀ d ∈ tables_1, d.before a0 Z = true) : (Jvm.Cond.fieldLink "com/example/wanderpath/wanderpath/Grid" (13 : Nat) "com/example/wanderpath/wanderpath/Grid" "stride" "I").before a0 Z = true := hw _ (List.mem_of_getElem? (i := 97) rfl)
theorem w98_ {Z : State} {a0 : Array Value} (hw : ∀ d ∈ tables_1, d.before a0 Z = true) : (Jvm.Cond.laysFinal "com/example/wanderpath/wanderpath/Grid" "com/example/wanderpath/wanderpath/Grid" "stride" "I").before a0 Z = true := hw _ (List.mem_of_getElem? (i := 98) rfl)
theorem w99_ {Z : State} {a0 : Array Value} (hw : ∀ d ∈ tables_1, d.before a0 Z = true) : (Jvm.Cond.fieldLink "com/example/wanderpath/wanderpath/Grid" (19 : Nat) "com/example/wanderpath/wanderpath/Moves" "EIGHT" "Lcom/example/wanderpath/wanderpath/Moves;").before a0 Z = true := hw _ (List.mem_of_getElem? (i := 99) rfl)
theorem w100_ {Z : State} {a0 : Array Value} (hw : ∀ d ∈ tables_1, d.before a0 Z = true) : (Jvm.Cond.laysStatic "com/example/wanderpath/wanderpath/Moves" "EIGHT" "Lcom/example/wanderpath/wanderpath/Moves;").before a0 Z = true := hw _ (List.mem_of_getElem? (i := 100) rfl)
theorem w102_ {Z : State} {a0 : Array Value} (hw : ∀ d ∈ tables_1, d.before a0 Z = true) : (Jvm.Cond.fieldLink "com/example/wanderpath/wanderpath/Grid" (25 : Nat) "com/example/wanderpath/wanderpath/Grid" "steps" "[I").before a0 Z = true := hw _ (List.mem_of_getElem? (i := 102) rfl)
theorem w103_ {Z : State} {a0 : Array Value} (hw : ∀ d ∈ tables_1, d.before a0 Z = true) : (Jvm.Cond.laysFinal "com/example/wanderpath/wanderpath/Grid" "com/example/wanderpath/wanderpath/Grid" "steps" "[I").before a0 Z = true := hw _ (List.mem_of_getElem? (i := 103) rfl)
theorem w104_ {Z : State} {a0 : Array Value} (hw : ∀ d ∈ tables_1, d.before a0 Z = true) : (Jvm.Cond.fieldLink "com/example/wanderpath/wanderpath/Grid" (29 : Nat) "com/example/wanderpath/wanderpath/Grid" "rowPart" "[I").before a0 Z = true := hw _ (List.mem_of_getElem? (i := 104) rfl)
theorem w105_ {Z : State} {a0 : Array Value} (hw : ∀ d ∈ tables_1, d.before a0 Z = true) : (Jvm.Cond.laysFinal "com/example/wanderpath/wanderpath/Grid" "com/example/wanderpath/wanderpath/Grid" "rowPart" "[I").before a0 Z = true := hw _ (List.mem_of_getElem? (i := 105) rfl)
theorem w106_ {Z : State} {a0 : Array Value} (hw : ∀ d ∈ tables_1, d.before a0 Z = true) : (Jvm.Cond.fieldLink "com/example/wanderpath/wanderpath/Grid" (32 : Nat) "com/example/wanderpath/wanderpath/Grid" "columnPart" "[I").before a0 Z = true := hw _ (List.mem_of_getElem? (i := 106) rfl)
theorem w107_ {Z : State} {a0 : Array Value} (hw : ∀ d ∈ tables_1, d.before a0 Z = true) : (Jvm.Cond.laysFinal "com/example/wanderpath/wanderpath/Grid" "com/example/wanderpath/wanderpath/Grid" "columnPart" "[I").before a0 Z = true := hw _ (List.mem_of_getElem? (i := 107) rfl)
theorem w108_ {Z : State} {a0 : Array Value} (hw : ∀ d ∈ tables_1, d.before a0 Z = true) : (Jvm.Cond.methodLink "com/example/wanderpath/wanderpath/Grid" (35 : Nat) ({ cls := "com/example/wanderpath/wanderpath/TileMap", name := "height", desc := "()I" } : Jvm.MethodName)).before a0 Z = true := hw _ (List.mem_of_getElem? (i := 108) rfl)
theorem w109_ {Z : State} {a0 : Array Value} (hw : ∀ d ∈ tables_1, d.before a0 Z = true) : (Jvm.Cond.declares ({ cls := "com/example/wanderpath/wanderpath/TileMap", name := "height", desc := "()I" } : Jvm.MethodName)).before a0 Z = true := hw _ (List.mem_of_getElem? (i := 109) rfl)
theorem w110_ {Z : State} {a0 : Array Value} (hw : ∀ d ∈ tables_1, d.before a0 Z = true) : (Jvm.Cond.instanceMethod ({ cls := "com/example/wanderpath/wanderpath/TileMap", name := "height", desc := "()I" } : Jvm.MethodName)).before a0 Z = true := hw _ (List.mem_of_getElem? (i := 110) rfl)
theorem w111_ {Z : State} {a0 : Array Value} (hw : ∀ d ∈ tables_1, d.before a0 Z = true) : (Jvm.Cond.selects "com/example/wanderpath/wanderpath/TileMap" ({ cls := "com/example/wanderpath/wanderpath/TileMap", name := "height", desc := "()I" } : Jvm.MethodName) ({ cls := "com/example/wanderpath/wanderpath/TileMap", name := "height", desc := "()I" } : Jvm.MethodName)).before a0 Z = true := hw _ (List.mem_of_getElem? (i := 111) rfl)
theorem w112_ {Z : State} {a0 : Array Value} (hw : ∀ d ∈ tables_1, d.before a0 Z = true) : (Jvm.Cond.code ({ cls := "com/example/wanderpath/wanderpath/TileMap", name := "height", desc := "()I" } : Jvm.MethodName) prog_30_method_5_code (1 : Nat) (Option.some Jvm.ClassFile.FieldType.int)).before a0 Z = true := hw _ (List.mem_of_getElem? (i := 112) rfl)
theorem w113_ {Z : State} {a0 : Array Value} (hw : ∀ d ∈ tables_1, d.before a0 Z = true) : (Jvm.Cond.fieldLink "com/example/wanderpath/wanderpath/Grid" (38 : Nat) "com/example/wanderpath/wanderpath/Grid" "blocked" "[Z").before a0 Z = true := hw _ (List.mem_of_getElem? (i := 113) rfl)
theorem w114_ {Z : State} {a0 : Array Value} (hw : ∀ d ∈ tables_1, d.before a0 Z = true) : (Jvm.Cond.laysFinal "com/example/wanderpath/wanderpath/Grid" "com/example/wanderpath/wanderpath/Grid" "blocked" "[Z").before a0 Z = true := hw _ (List.mem_of_getElem? (i := 114) rfl)
theorem w115_ {Z : State} {a0 : Array Value} (hw : ∀ d ∈ tables_1, d.before a0 Z = true) : (Jvm.Cond.methodLink "com/example/wanderpath/wanderpath/Grid" (42 : Nat) ({ cls := "com/example/wanderpath/wanderpath/TileMap", name := "contains", desc := "(II)Z" } : Jvm.MethodName)).before a0 Z = true := hw _ (List.mem_of_getElem? (i := 115) rfl)
theorem w116_ {Z : State} {a0 : Array Value} (hw : ∀ d ∈ tables_1, d.before a0 Z = true) : (Jvm.Cond.declares ({ cls := "com/example/wanderpath/wanderpath/TileMap", name := "contains", desc := "(II)Z" } : Jvm.MethodName)).before a0 Z = true := hw _ (List.mem_of_getElem? (i := 116) rfl)
theorem w117_ {Z : State} {a0 : Array Value} (hw : ∀ d ∈ tables_1, d.before a0 Z = true) : (Jvm.Cond.instanceMethod ({ cls := "com/example/wanderpath/wanderpath/TileMap", name := "contains", desc := "(II)Z" } : Jvm.MethodName)).before a0 Z = true := hw _ (List.mem_of_getElem? (i := 117) rfl)
theorem w118_ {Z : State} {a0 : Array Value} (hw : ∀ d ∈ tables_1, d.before a0 Z = true) : (Jvm.Cond.selects "com/example/wanderpath/wanderpath/TileMap" ({ cls := "com/example/wanderpath/wanderpath/TileMap", name := "contains", desc := "(II)Z" } : Jvm.MethodName) ({ cls := "com/example/wanderpath/wanderpath/TileMap", name := "contains", desc := "(II)Z" } : Jvm.MethodName)).before a0 Z = true := hw _ (List.mem_of_getElem? (i := 118) rfl)
theorem w119_ {Z : State} {a0 : Array Value} (hw : ∀ d ∈ tables_1, d.before a0 Z = true) : (Jvm.Cond.code ({ cls := "com/example/wanderpath/wanderpath/TileMap", name := "contains", desc := "(II)Z" } : Jvm.MethodName) prog_30_method_7_code (3 : Nat) (Option.some Jvm.ClassFile.FieldType.boolean)).before a0 Z = true := hw _ (List.mem_of_getElem? (i := 119) rfl)
theorem w120_ {Z : State} {a0 : Array Value} (hw : ∀ d ∈ tables_1, d.before a0 Z = true) : (Jvm.Cond.methodLink "com/example/wanderpath/wanderpath/Grid" (46 : Nat) ({ cls := "com/example/wanderpath/wanderpath/TileMap", name := "isPassable", desc := "(II)Z" } : Jvm.MethodName)).before a0 Z = true := hw _ (List.mem_of_getElem? (i := 120) rfl)
theorem w121_ {Z : State} {a0 : Array Value} (hw : ∀ d ∈ tables_1, d.before a0 Z = true) : (Jvm.Cond.declares ({ cls := "com/example/wanderpath/wanderpath/TileMap", name := "isPassable", desc := "(II)Z" } : Jvm.MethodName)).before a0 Z = true := hw _ (List.mem_of_getElem? (i := 121) rfl)
theorem w122_ {Z : State} {a0 : Array Value} (hw : ∀ d ∈ tables_1, d.before a0 Z = true) : (Jvm.Cond.instanceMethod ({ cls := "com/example/wanderpath/wanderpath/TileMap", name := "isPassable", desc := "(II)Z" } : Jvm.MethodName)).before a0 Z = true := hw _ (List.mem_of_getElem? (i := 122) rfl)
theorem w123_ {Z : State} {a0 : Array Value} (hw : ∀ d ∈ tables_1, d.before a0 Z = true) : (Jvm.Cond.selects "com/example/wanderpath/wanderpath/TileMap" ({ cls := "com/example/wanderpath/wanderpath/TileMap", name := "isPassable", desc := "(II)Z" } : Jvm.MethodName) ({ cls := "com/example/wanderpath/wanderpath/TileMap", name := "isPassable", desc := "(II)Z" } : Jvm.MethodName)).before a0 Z = true := hw _ (List.mem_of_getElem? (i := 123) rfl)
theorem w124_ {Z : State} {a0 : Array Value} (hw : ∀ d ∈ tables_1, d.before a0 Z = true) : (Jvm.Cond.code ({ cls := "com/example/wanderpath/wanderpath/TileMap", name := "isPassable", desc := "(II)Z" } : Jvm.MethodName) prog_30_method_9_code (3 : Nat) (Option.some Jvm.ClassFile.FieldType.boolean)).before a0 Z = true := hw _ (List.mem_of_getElem? (i := 124) rfl)
theorem w125_ {Z : State} {a0 : Array Value} (hw : ∀ d ∈ tables_1, d.before a0 Z = true) : (Jvm.Cond.methodLink "com/example/wanderpath/wanderpath/TileMap" (75 : Nat) ({ cls := "com/example/wanderpath/wanderpath/TileMap", name := "index", desc := "(II)I" } : Jvm.MethodName)).before a0 Z = true := hw _ (List.mem_of_getElem? (i := 125) rfl)
theorem w126_ {Z : State} {a0 : Array Value} (hw : ∀ d ∈ tables_1, d.before a0 Z = true) : (Jvm.Cond.instanceMethod ({ cls := "com/example/wanderpath/wanderpath/TileMap", name := "index", desc := "(II)I" } : Jvm.MethodName)).before a0 Z = true := hw _ (List.mem_of_getElem? (i := 126) rfl)
theorem w127_ {Z : State} {a0 : Array Value} (hw : ∀ d ∈ tables_1, d.before a0 Z = true) : (Jvm.Cond.privateMethod ({ cls := "com/example/wanderpath/wanderpath/TileMap", name := "index", desc := "(II)I" } : Jvm.MethodName)).before a0 Z = true := hw _ (List.mem_of_getElem? (i := 127) rfl)
theorem w128_ {Z : State} {a0 : Array Value} (hw : ∀ d ∈ tables_1, d.before a0 Z = true) : (Jvm.Cond.code ({ cls := "com/example/wanderpath/wanderpath/TileMap", name := "index", desc := "(II)I" } : Jvm.MethodName) prog_30_method_11_code (3 : Nat) (Option.some Jvm.ClassFile.FieldType.int)).before a0 Z = true := hw _ (List.mem_of_getElem? (i := 128) rfl)
theorem w129_ {Z : State} {a0 : Array Value} (hw : ∀ d ∈ tables_1, d.before a0 Z = true) : (Jvm.Cond.methodLink "com/example/wanderpath/wanderpath/TileMap" (111 : Nat) ({ cls := "java/util/Objects", name := "checkIndex", desc := "(II)I" } : Jvm.MethodName)).before a0 Z = true := hw _ (List.mem_of_getElem? (i := 129) rfl)
theorem w130_ {Z : State} {a0 : Array Value} (hw : ∀ d ∈ tables_1, d.before a0 Z = true) : (Jvm.Cond.static ({ cls := "java/util/Objects", name := "checkIndex", desc := "(II)I" } : Jvm.MethodName)).before a0 Z = true := hw _ (List.mem_of_getElem? (i := 130) rfl)
theorem w131_ {Z : State} {a0 : Array Value} (hw : ∀ d ∈ tables_1, d.before a0 Z = true) : (Jvm.Cond.initialized "java/util/Objects").before a0 Z = true := hw _ (List.mem_of_getElem? (i := 131) rfl)
theorem w132_ {Z : State} {a0 : Array Value} (hw : ∀ d ∈ tables_1, d.before a0 Z = true) : (Jvm.Cond.code ({ cls := "java/util/Objects", name := "checkIndex", desc := "(II)I" } : Jvm.MethodName) jdk_31_method_17_code (2 : Nat) (Option.some Jvm.ClassFile.FieldType.int)).before a0 Z = true := hw _ (List.mem_of_getElem? (i := 132) rfl)
theorem w133_ {Z : State} {a0 : Array Value} (hw : ∀ d ∈ tables_1, d.before a0 Z = true) : (Jvm.Cond.methodLink "java/util/Objects" (105 : Nat) ({ cls := "jdk/internal/util/Preconditions", name := "checkIndex", desc := "(IILjava/util/function/BiFunction;)I" } : Jvm.MethodName)).before a0 Z = true := hw _ (List.mem_of_getElem? (i := 133) rfl)
theorem w134_ {Z : State} {a0 : Array Value} (hw : ∀ d ∈ tables_1, d.before a0 Z = true) : (Jvm.Cond.static ({ cls := "jdk/internal/util/Preconditions", name := "checkIndex", desc := "(IILjava/util/function/BiFunction;)I" } : Jvm.MethodName)).before a0 Z = true := hw _ (List.mem_of_getElem? (i := 134) rfl)
theorem w135_ {Z : State} {a0 : Array Value} (hw : ∀ d ∈ tables_1, d.before a0 Z = true) : (Jvm.Cond.initialized "jdk/internal/util/Preconditions").before a0 Z = true := hw _ (List.mem_of_getElem? (i := 135) rfl)
theorem w136_ {Z : State} {a0 : Array Value} (hw : ∀ d ∈ tables_1, d.before a0 Z = true) : (Jvm.Cond.code ({ cls := "jdk/internal/util/Preconditions", name := "checkIndex", desc := "(IILjava/util/function/BiFunction;)I" } : Jvm.MethodName) jdk_41_method_11_code (3 : Nat) (Option.some Jvm.ClassFile.FieldType.int)).before a0 Z = true := hw _ (List.mem_of_getElem? (i := 136) rfl)
theorem w137_ {Z : State} {a0 : Array Value} (hw : ∀ d ∈ tables_1, d.before a0 Z = true) : (Jvm.Cond.methodLink "com/example/wanderpath/wanderpath/GridCanStepPinLaw" (37 : Nat) ({ cls := "com/example/wanderpath/wanderpath/Grid", name := "canStep", desc := "([ZII)Z" } : Jvm.MethodName)).before a0 Z = true := hw _ (List.mem_of_getElem? (i := 137) rfl)
theorem w138_ {Z : State} {a0 : Array Value} (hw : ∀ d ∈ tables_1, d.before a0 Z = true) : (Jvm.Cond.declares ({ cls := "com/example/wanderpath/wanderpath/Grid", name := "canStep", desc := "([ZII)Z" } : Jvm.MethodName)).before a0 Z = true := hw _ (List.mem_of_getElem? (i := 138) rfl)
theorem w139_ {Z : State} {a0 : Array Value} (hw : ∀ d ∈ tables_1, d.before a0 Z = true) : (Jvm.Cond.instanceMethod ({ cls := "com/example/wanderpath/wanderpath/Grid", name := "canStep", desc := "([ZII)Z" } : Jvm.MethodName)).before a0 Z = true := hw _ (List.mem_of_getElem? (i := 139) rfl)
theorem w140_ {Z : State} {a0 : Array Value} (hw : ∀ d ∈ tables_1, d.before a0 Z = true) : (Jvm.Cond.selects "com/example/wanderpath/wanderpath/Grid" ({ cls := "com/example/wanderpath/wanderpath/Grid", name := "canStep", desc := "([ZII)Z" } : Jvm.MethodName) ({ cls := "com/example/wanderpath/wanderpath/Grid", name := "canStep", desc := "([ZII)Z" } : Jvm.MethodName)).before a0 Z = true := hw _ (List.mem_of_getElem? (i := 140) rfl)
theorem w141_ {Z : State} {a0 : Array Value} (hw : ∀ d ∈ tables_1, d.before a0 Z = true) : (Jvm.Cond.code ({ cls := "com/example/wanderpath/wanderpath/Grid", name := "canStep", desc := "([ZII)Z" } : Jvm.MethodName) prog_11_method_14_code (4 : Nat) (Option.some Jvm.ClassFile.FieldType.boolean)).before a0 Z = true := hw _ (List.mem_of_getElem? (i := 141) rfl)
theorem w142_ {Z : State} {a0 : Array Value} (hw : ∀ d ∈ tables_1, d.before a0 Z = true) : (Jvm.Cond.methodLink "com/example/wanderpath/wanderpath/GridCanStepPinLaw" (41 : Nat) ({ cls := "com/example/wanderpath/wanderpath/GridCanStepPinLaw", name := "dx", desc := "(I)I" } : Jvm.MethodName)).before a0 Z = true := hw _ (List.mem_of_getElem? (i := 142) rfl)
theorem w143_ {Z : State} {a0 : Array Value} (hw : ∀ d ∈ tables_1, d.before a0 Z = true) : (Jvm.Cond.static ({ cls := "com/example/wanderpath/wanderpath/GridCanStepPinLaw", name := "dx", desc := "(I)I" } : Jvm.MethodName)).before a0 Z = true := hw _ (List.mem_of_getElem? (i := 143) rfl)
theorem w144_ {Z : State} {a0 : Array Value} (hw : ∀ d ∈ tables_1, d.before a0 Z = true) : (Jvm.Cond.code ({ cls := "com/example/wanderpath/wanderpath/GridCanStepPinLaw", name := "dx", desc := "(I)I" } : Jvm.MethodName) method_4_code (1 : Nat) (Option.some Jvm.ClassFile.FieldType.int)).before a0 Z = true := hw _ (List.mem_of_getElem? (i := 144) rfl)
theorem w145_ {Z : State} {a0 : Array Value} (hw : ∀ d ∈ tables_1, d.before a0 Z = true) : (Jvm.Cond.methodLink "com/example/wanderpath/wanderpath/GridCanStepPinLaw" (45 : Nat) ({ cls := "com/example/wanderpath/wanderpath/GridCanStepPinLaw", name := "dy", desc := "(I)I" } : Jvm.MethodName)).before a0 Z = true := hw _ (List.mem_of_getElem? (i := 145) rfl)
theorem w146_ {Z : State} {a0 : Array Value} (hw : ∀ d ∈ tables_1, d.before a0 Z = true) : (Jvm.Cond.static ({ cls := "com/example/wanderpath/wanderpath/GridCanStepPinLaw", name := "dy", desc := "(I)I" } : Jvm.MethodName)).before a0 Z = true := hw _ (List.mem_of_getElem? (i := 146) rfl)
theorem w147_ {Z : State} {a0 : Array Value} (hw : ∀ d ∈ tables_1, d.before a0 Z = true) : (Jvm.Cond.code ({ cls := "com/example/wanderpath/wanderpath/GridCanStepPinLaw", name := "dy", desc := "(I)I" } : Jvm.MethodName) method_5_code (1 : Nat) (Option.some Jvm.ClassFile.FieldType.int)).before a0 Z = true := hw _ (List.mem_of_getElem? (i := 147) rfl)
theorem w148_ {Z : State} {a0 : Array Value} (hw : ∀ d ∈ tables_1, d.before a0 Z = true) : (Jvm.Cond.fieldLink "com/example/wanderpath/wanderpath/GridCanStepPinLaw" (25 : Nat) "com/example/wanderpath/wanderpath/Moves" "EIGHT" "Lcom/example/wanderpath/wanderpath/Moves;").before a0 Z = true := hw _ (List.mem_of_getElem? (i := 148) rfl)
theorem w149_ {Z : State} {a0 : Array Value} (hw : ∀ d ∈ tables_1, d.before a0 Z = true) : (Jvm.Cond.methodLink "com/example/wanderpath/wanderpath/GridCanStepPinLaw" (48 : Nat) ({ cls := "com/example/wanderpath/wanderpath/GridCanStepPinLaw", name := "passable", desc := "(III)Z" } : Jvm.MethodName)).before a0 Z = true := hw _ (List.mem_of_getElem? (i := 149) rfl)
theorem w150_ {Z : State} {a0 : Array Value} (hw : ∀ d ∈ tables_1, d.before a0 Z = true) : (Jvm.Cond.static ({ cls := "com/example/wanderpath/wanderpath/GridCanStepPinLaw", name := "passable", desc := "(III)Z" } : Jvm.MethodName)).before a0 Z = true := hw _ (List.mem_of_getElem? (i := 150) rfl)
theorem w151_ {Z : State} {a0 : Array Value} (hw : ∀ d ∈ tables_1, d.before a0 Z = true) : (Jvm.Cond.code ({ cls := "com/example/wanderpath/wanderpath/GridCanStepPinLaw", name := "passable", desc := "(III)Z" } : Jvm.MethodName) method_6_code (3 : Nat) (Option.some Jvm.ClassFile.FieldType.boolean)).before a0 Z = true := hw _ (List.mem_of_getElem? (i := 151) rfl)
abbrev vI (x : Int32) : Slot := .val (.int x)
abbrev vR (x : Addr) : Slot := .val (.ref x)
def own_EL : List (String × Nat) := [("com/example/wanderpath/wanderpath/TileMap", 120)]
theorem own_EW {Z : State} {a0 : Array Value} (hw : ∀ d ∈ tables_1, d.before a0 Z = true) : EW Z a0 own_EL := (EW.cons (hw _ (List.mem_of_getElem? (i := 28) rfl)) (by decide) EW.nil)
theorem own_eqi {args : Array Value} {s : State} {t : Term} {k : Int32} (h : (Cond.eq t (.int k)).value args s none s [] = some true) : t.eval args s none [] s = some (.int k) := by
  obtain ⟨x, y, h1, h2, h3, -⟩ := cmp_v (Or.inl h)
  cases (Term.int_eval k).symm.trans h2
  cases x <;> simp [Cond.value, h1, Term.int_eval] at h ⊢
  exact h
theorem own_locG {p : Program} {l : Launch} {e : Env} {R : Room} {s : State} {m : MethodId} {args : Array Value} {below : List Frame} {meth : Method} {c : Code} {T : State} {locs : List Loc} {cells slots n0 : Nat} (X : Stand p l e R s m args below meth c T locs cells slots) (N : Fr n0 locs) : ∃ L, Stand p l e R s m args below meth c T L cells slots ∧ Fr n0 L := ⟨_, X, N⟩
theorem own_ne0 {args : Array Value} {s : State} {t : Term} {k : Int32} (h : (Cond.not (.eq t (.int 0))).value args s none s [] = some true) (ev : t.eval args s none [] s = some (.int k)) : ¬ k = (0 : Int32) := by
  have q := not_v h
  intro e; subst e
  simp [Cond.value, ev, Term.int_eval] at q
def own_bit (v k : Int32) : Int32 := if (((v.toUInt32 >>> (k &&& 31).toUInt32).toInt32) &&& (1 : Int32)) = (0 : Int32) then 0 else 1
theorem own_bit01 (v k : Int32) : own_bit v k = 0 ∨ own_bit v k = 1 := by
  unfold own_bit; split
  · exact Or.inl rfl
  · exact Or.inr rfl
def own_tile (v k : Int32) : Int32 := if own_bit v k = (0 : Int32) then 64 else 46
theorem own_t46 (v k : Int32) : own_tile v k = 46 ∨ own_tile v k = 64 := by
  unfold own_tile; split
  · exact Or.inr rfl
  · exact Or.inl rfl
theorem own_narT (v k : Int32) : nar .byte (own_tile v k) = own_tile v k := by rcases own_t46 v k with h | h <;> rw [h] <;> rfl
theorem own_narB (v k : Int32) : nar .boolean (own_bit v k) = own_bit v k := by rcases own_bit01 v k with h | h <;> rw [h] <;> rfl
def own_pt (ch : Int32) : Int32 := if ch = 46 then 1 else 0
theorem own_ptT (v k : Int32) : own_pt (own_tile v k) = own_bit v k := by
  unfold own_tile
  rcases own_bit01 v k with h | h <;> rw [h] <;> decide
theorem own_r9 {q : Int32} (h0 : ¬ q < 0) (h1 : q < 9) : q = 0 ∨ q = 1 ∨ q = 2 ∨ q = 3 ∨ q = 4 ∨ q = 5 ∨ q = 6 ∨ q = 7 ∨ q = 8 := by
  rw [Int32.lt_iff_toInt_lt] at h0 h1
  simp only [← Int32.toInt_inj, show (0 : Int32).toInt = 0 from rfl, show (1 : Int32).toInt = 1 from rfl, show (2 : Int32).toInt = 2 from rfl, show (3 : Int32).toInt = 3 from rfl, show (4 : Int32).toInt = 4 from rfl, show (5 : Int32).toInt = 5 from rfl, show (6 : Int32).toInt = 6 from rfl, show (7 : Int32).toInt = 7 from rfl, show (8 : Int32).toInt = 8 from rfl, show (9 : Int32).toInt = 9 from rfl] at *
  omega
theorem own_r25 {q : Int32} (h0 : ¬ q < 0) (h1 : q < 25) : q = 0 ∨ q = 1 ∨ q = 2 ∨ q = 3 ∨ q = 4 ∨ q = 5 ∨ q = 6 ∨ q = 7 ∨ q = 8 ∨ q = 9 ∨ q = 10 ∨ q = 11 ∨ q = 12 ∨ q = 13 ∨ q = 14 ∨ q = 15 ∨ q = 16 ∨ q = 17 ∨ q = 18 ∨ q = 19 ∨ q = 20 ∨ q = 21 ∨ q = 22 ∨ q = 23 ∨ q = 24 := by
  rw [Int32.lt_iff_toInt_lt] at h0 h1
  simp only [← Int32.toInt_inj, show (0 : Int32).toInt = 0 from rfl, show (1 : Int32).toInt = 1 from rfl, show (2 : Int32).toInt = 2 from rfl, show (3 : Int32).toInt = 3 from rfl, show (4 : Int32).toInt = 4 from rfl, show (5 : Int32).toInt = 5 from rfl, show (6 : Int32).toInt = 6 from rfl, show (7 : Int32).toInt = 7 from rfl, show (8 : Int32).toInt = 8 from rfl, show (9 : Int32).toInt = 9 from rfl, show (10 : Int32).toInt = 10 from rfl, show (11 : Int32).toInt = 11 from rfl, show (12 : Int32).toInt = 12 from rfl, show (13 : Int32).toInt = 13 from rfl, show (14 : Int32).toInt = 14 from rfl, show (15 : Int32).toInt = 15 from rfl, show (16 : Int32).toInt = 16 from rfl, show (17 : Int32).toInt = 17 from rfl, show (18 : Int32).toInt = 18 from rfl, show (19 : Int32).toInt = 19 from rfl, show (20 : Int32).toInt = 20 from rfl, show (21 : Int32).toInt = 21 from rfl, show (22 : Int32).toInt = 22 from rfl, show (23 : Int32).toInt = 23 from rfl, show (24 : Int32).toInt = 24 from rfl, show (25 : Int32).toInt = 25 from rfl] at *
  omega
def own_LX (Z : State) (xs : List Addr) (vm : Vm) (h : Heap) : Prop := ∃ la lb lk, Lit (Z.setVm vm) "com/example/wanderpath/wanderpath/TileMap" 120 la ∧ Exa Z h la "java/lang/String" ∧ Fld Z h la "java/lang/String" "coder" "B" (.int (0 : Int32)) ∧ Fld Z h la "java/lang/String" "value" "[B" (.ref lb) ∧ Arv Z h lb lk .byte (3 : Int32) [(.int (46 : Int32)), (.int (71 : Int32)), (.int (83 : Int32))] (.int (0 : Int32)) ∧ ∀ x ∈ xs, x ≠ la ∧ x ≠ lb
theorem d8_0 : decode jdk_42_method_154_code 0 = .ok (.getstatic 38, 3) := by decide +kernel
theorem d8_3 : decode jdk_42_method_154_code 3 = .ok (.ifCond .eq 14, 3) := by decide +kernel
theorem d8_6 : decode jdk_42_method_154_code 6 = .ok (.aload_n 0, 1) := by decide +kernel
theorem d8_7 : decode jdk_42_method_154_code 7 = .ok (.getfield 15, 3) := by decide +kernel
theorem d8_10 : decode jdk_42_method_154_code 10 = .ok (.ifCond .ne 7, 3) := by decide +kernel
theorem d8_13 : decode jdk_42_method_154_code 13 = .ok (.iconst 1, 1) := by decide +kernel
theorem d8_14 : decode jdk_42_method_154_code 14 = .ok (.goto 4, 3) := by decide +kernel
theorem d8_18 : decode jdk_42_method_154_code 18 = .ok (.ireturn, 1) := by decide +kernel
theorem pn_java_lang_String : plainName "java/lang/String" = true := by first | (simp [plainName, overriddenIn]; done) | decide +kernel
theorem ef_rm8 (m : MethodId) (la : Addr) : entryFrame m #[(.ref la)] 1 = mkF m 0 #[vR la] [] := by first | (simp [entryFrame, mkF, argsToLocals, Value.category]; done) | rfl
def Q_rm8 (Z : State) (la : Addr) (lb : Addr) (lk : ClassId) (cs : Int32) (h0 : Heap) (n0 : Nat) (v : Option Value) (h : Heap) (L : List Loc) : Prop := v = some (.int (1 : Int32)) ∧ Fr n0 L ∧ h = h0
set_option maxRecDepth 65536 in
set_option maxHeartbeats 40000000 in
theorem rm8 (l : Launch) (Z : State) (a0 : Array Value) (hw : ∀ d ∈ tables_1, d.before a0 Z = true) (ws : List Jvm.Cond) (la : Addr) (lb : Addr) (lk : ClassId) (cs : Int32) (h0 : Heap) (n0 : Nat) (Z0 : n0 ≤ h0.size) (S0 : Sta Z h0 "java/lang/String" "COMPACT_STRINGS" "Z" (.int cs)) (hcs : ¬ cs = (0 : Int32)) (EL : Exa Z h0 la "java/lang/String") (FC : Fld Z h0 la "java/lang/String" "coder" "B" (.int (0 : Int32))) (FV : Fld Z h0 la "java/lang/String" "value" "[B" (.ref lb)) (VB : Arv Z h0 lb lk .byte (3 : Int32) [(.int (46 : Int32)), (.int (71 : Int32)), (.int (83 : Int32))] (.int (0 : Int32))) :
    MetFree l (⟨"java/lang/String", "isLatin1", "()Z"⟩ : MethodName) (head1 (Jvm.Cond.code (⟨"java/lang/String", "isLatin1", "()Z"⟩ : MethodName) jdk_42_method_154_code 1 (some .boolean) :: ws) ({ frames := 0, cells := 0, slots := 0, locals := 0 } : Room)) (fun aα Uα => aα = #[(.ref la)] ∧ Z.Warmed39 Uα.vm ∧ Uα.heap = h0) (fun _ _ _ _ _ => True) (fun _ Uα oα Uβ => ∃ vα Lα, oα = .returned vα ∧ Q_rm8 Z la lb lk cs h0 n0 vα Uβ.heap Lα ∧ FrameEnd Uα oα Uβ Lα ({ frames := 0, cells := 0, slots := 0, locals := 0 } : Room).cells ({ frames := 0, cells := 0, slots := 0, locals := 0 } : Room).slots) := by
  refine MetFree.of_bodySF (plainFor_of_name pn_java_lang_String) hisR ?_
  intro p e s m args below meth c s₁ Bd hml0 hP hKα
  obtain ⟨rfl, hZ, hh⟩ := hP
  have hx := Bd.exec
  have hby := Bd.bytes
  have hml : c.maxLocals = 1 := hml0
  have hown : s.vm.findClass "java/lang/String" = some m.cls := findClass_of_methodNamed Bd.named
  have hnm := (name_of_methodNamed Bd.named Bd.method).1
  have X0 : Stand p l e ({ frames := 0, cells := 0, slots := 0, locals := 0 } : Room) s m #[(.ref la)] below meth c s₁ [] 0 0 := Stand.of_body Bd
  have e0 : s₁.heap = h0 := by rw [← hh, Bd.state]; rfl
  have N0 := Fr.nil n0
  suffices k0 : Gl p e below s (Q_rm8 Z la lb lk cs h0 n0) ({ frames := 0, cells := 0, slots := 0, locals := 0 } : Room).cells ({ frames := 0, cells := 0, slots := 0, locals := 0 } : Room).slots s₁ (mkF m 0 #[vR la] []) from Gl.st (fun τ κ => castTop (ef_rm8 m la) κ) k0
  obtain ⟨T1, X1, e1, st1⟩ := getS2 X0 hx hZ hown (host := "") (Or.inl (w50_ hw)) Via.refl e0 S0 (g := (mkF m 0 #[vR la] [])) rfl (hb hby d8_0)
  refine Gl.st (g' := (mkF m 3 #[vR la] [(.int cs)])) (fun τ κ => st1 _ κ) ?_
  have hc2 : ¬ (cs = (0 : Int32)) := hcs
  refine Gl.st (g' := (mkF m 7 #[vR la] [(.ref la)])) (fun τ κ => XS.ifNo X1.here hx rfl (hb hby d8_3) rfl ((if0 _ _).trans (feq hc2).1) (XS.aloadN X1.here hx rfl (hb hby d8_6) rfl rfl κ)) ?_
  obtain ⟨T3, X3, e3, st3⟩ := getF X1 hx hZ hown (host := "") (Or.inl (w51_ hw)) Via.refl e1 FC (g := (mkF m 7 #[vR la] [(.ref la)])) rfl rfl (hb hby d8_7)
  refine Gl.st (g' := (mkF m 10 #[vR la] [(.int (0 : Int32))])) (fun τ κ => st3 _ κ) ?_
  have hc4 : (0 : Int32) = (0 : Int32) := by decide
  refine Gl.st (g' := (mkF m 14 #[vR la] [(.int (1 : Int32))])) (fun τ κ => XS.ifNo X3.here hx rfl (hb hby d8_10) rfl ((if0 _ _).trans (teq hc4).2) (XS.iconst X3.here hx rfl (hb hby d8_13) κ)) ?_
  refine Gl.st (g' := (mkF m 18 #[vR la] [(.int (1 : Int32))])) (fun τ κ => XS.goto X3.here hx rfl (pc0 := 14) (pc' := 18) rfl (hb hby d8_14) (by decide) (by decide) κ) ?_
  exact Gl.ret (v := some (.int (1 : Int32))) X3 Bd.notSynchronized (fun h => by rw [Bd.returns] at h; cases h) e3 (fun fs hr => retN X3 hx (t := .boolean) Bd.returns (by simp) (hb hby d8_18) hr) (by decide) (by decide) ⟨rfl, N0, rfl⟩
theorem d10_0 : decode jdk_42_method_152_code 0 = .ok (.getstatic 38, 3) := by decide +kernel
theorem d10_3 : decode jdk_42_method_152_code 3 = .ok (.ifCond .eq 10, 3) := by decide +kernel
theorem d10_6 : decode jdk_42_method_152_code 6 = .ok (.aload_n 0, 1) := by decide +kernel
theorem d10_7 : decode jdk_42_method_152_code 7 = .ok (.getfield 15, 3) := by decide +kernel
theorem d10_10 : decode jdk_42_method_152_code 10 = .ok (.goto 4, 3) := by decide +kernel
theorem d10_14 : decode jdk_42_method_152_code 14 = .ok (.ireturn, 1) := by decide +kernel
theorem ef_rm10 (m : MethodId) (la : Addr) : entryFrame m #[(.ref la)] 1 = mkF m 0 #[vR la] [] := by first | (simp [entryFrame, mkF, argsToLocals, Value.category]; done) | rfl
def Q_rm10 (Z : State) (la : Addr) (lb : Addr) (lk : ClassId) (cs : Int32) (h0 : Heap) (n0 : Nat) (v : Option Value) (h : Heap) (L : List Loc) : Prop := v = some (.int (0 : Int32)) ∧ Fr n0 L ∧ h = h0
set_option maxRecDepth 65536 in
set_option maxHeartbeats 40000000 in
theorem rm10 (l : Launch) (Z : State) (a0 : Array Value) (hw : ∀ d ∈ tables_1, d.before a0 Z = true) (ws : List Jvm.Cond) (la : Addr) (lb : Addr) (lk : ClassId) (cs : Int32) (h0 : Heap) (n0 : Nat) (Z0 : n0 ≤ h0.size) (S0 : Sta Z h0 "java/lang/String" "COMPACT_STRINGS" "Z" (.int cs)) (hcs : ¬ cs = (0 : Int32)) (EL : Exa Z h0 la "java/lang/String") (FC : Fld Z h0 la "java/lang/String" "coder" "B" (.int (0 : Int32))) (FV : Fld Z h0 la "java/lang/String" "value" "[B" (.ref lb)) (VB : Arv Z h0 lb lk .byte (3 : Int32) [(.int (46 : Int32)), (.int (71 : Int32)), (.int (83 : Int32))] (.int (0 : Int32))) :
    MetFree l (⟨"java/lang/String", "coder", "()B"⟩ : MethodName) (head1 (Jvm.Cond.code (⟨"java/lang/String", "coder", "()B"⟩ : MethodName) jdk_42_method_152_code 1 (some .byte) :: ws) ({ frames := 0, cells := 0, slots := 0, locals := 0 } : Room)) (fun aα Uα => aα = #[(.ref la)] ∧ Z.Warmed39 Uα.vm ∧ Uα.heap = h0) (fun _ _ _ _ _ => True) (fun _ Uα oα Uβ => ∃ vα Lα, oα = .returned vα ∧ Q_rm10 Z la lb lk cs h0 n0 vα Uβ.heap Lα ∧ FrameEnd Uα oα Uβ Lα ({ frames := 0, cells := 0, slots := 0, locals := 0 } : Room).cells ({ frames := 0, cells := 0, slots := 0, locals := 0 } : Room).slots) := by
  refine MetFree.of_bodySF (plainFor_of_name pn_java_lang_String) hisR ?_
  intro p e s m args below meth c s₁ Bd hml0 hP hKα
  obtain ⟨rfl, hZ, hh⟩ := hP
  have hx := Bd.exec
  have hby := Bd.bytes
  have hml : c.maxLocals = 1 := hml0
  have hown : s.vm.findClass "java/lang/String" = some m.cls := findClass_of_methodNamed Bd.named
  have hnm := (name_of_methodNamed Bd.named Bd.method).1
  have X0 : Stand p l e ({ frames := 0, cells := 0, slots := 0, locals := 0 } : Room) s m #[(.ref la)] below meth c s₁ [] 0 0 := Stand.of_body Bd
  have e0 : s₁.heap = h0 := by rw [← hh, Bd.state]; rfl
  have N0 := Fr.nil n0
  suffices k0 : Gl p e below s (Q_rm10 Z la lb lk cs h0 n0) ({ frames := 0, cells := 0, slots := 0, locals := 0 } : Room).cells ({ frames := 0, cells := 0, slots := 0, locals := 0 } : Room).slots s₁ (mkF m 0 #[vR la] []) from Gl.st (fun τ κ => castTop (ef_rm10 m la) κ) k0
  obtain ⟨T5, X5, e5, st5⟩ := getS2 X0 hx hZ hown (host := "") (Or.inl (w50_ hw)) Via.refl e0 S0 (g := (mkF m 0 #[vR la] [])) rfl (hb hby d10_0)
  refine Gl.st (g' := (mkF m 3 #[vR la] [(.int cs)])) (fun τ κ => st5 _ κ) ?_
  have hc6 : ¬ (cs = (0 : Int32)) := hcs
  refine Gl.st (g' := (mkF m 7 #[vR la] [(.ref la)])) (fun τ κ => XS.ifNo X5.here hx rfl (hb hby d10_3) rfl ((if0 _ _).trans (feq hc6).1) (XS.aloadN X5.here hx rfl (hb hby d10_6) rfl rfl κ)) ?_
  obtain ⟨T7, X7, e7, st7⟩ := getF X5 hx hZ hown (host := "") (Or.inl (w51_ hw)) Via.refl e5 FC (g := (mkF m 7 #[vR la] [(.ref la)])) rfl rfl (hb hby d10_7)
  refine Gl.st (g' := (mkF m 10 #[vR la] [(.int (0 : Int32))])) (fun τ κ => st7 _ κ) ?_
  refine Gl.st (g' := (mkF m 14 #[vR la] [(.int (0 : Int32))])) (fun τ κ => XS.goto X7.here hx rfl (pc0 := 10) (pc' := 14) rfl (hb hby d10_10) (by decide) (by decide) κ) ?_
  exact Gl.ret (v := some (.int (0 : Int32))) X7 Bd.notSynchronized (fun h => by rw [Bd.returns] at h; cases h) e7 (fun fs hr => retN X7 hx (t := .byte) Bd.returns (by simp) (hb hby d10_14) hr) (by decide) (by decide) ⟨rfl, N0, rfl⟩
theorem d9_0 : decode jdk_42_method_54_code 0 = .ok (.aload_n 0, 1) := by decide +kernel
theorem d9_1 : decode jdk_42_method_54_code 1 = .ok (.getfield 9, 3) := by decide +kernel
theorem d9_4 : decode jdk_42_method_54_code 4 = .ok (.arraylength, 1) := by decide +kernel
theorem d9_5 : decode jdk_42_method_54_code 5 = .ok (.aload_n 0, 1) := by decide +kernel
theorem d9_6 : decode jdk_42_method_54_code 6 = .ok (.invokevirtual 335, 3) := by decide +kernel
theorem pd_0 : parseMethodDescriptor "()B" = some ⟨[], some .byte⟩ := by decide +kernel
theorem d9_9 : decode jdk_42_method_54_code 9 = .ok (.ishr, 1) := by decide +kernel
theorem d9_10 : decode jdk_42_method_54_code 10 = .ok (.ireturn, 1) := by decide +kernel
theorem ef_rm9 (m : MethodId) (la : Addr) : entryFrame m #[(.ref la)] 1 = mkF m 0 #[vR la] [] := by first | (simp [entryFrame, mkF, argsToLocals, Value.category]; done) | rfl
def Q_rm9 (Z : State) (la : Addr) (lb : Addr) (lk : ClassId) (cs : Int32) (h0 : Heap) (n0 : Nat) (v : Option Value) (h : Heap) (L : List Loc) : Prop := v = some (.int (3 : Int32)) ∧ Fr n0 L ∧ h = h0
set_option maxRecDepth 65536 in
set_option maxHeartbeats 40000000 in
theorem rm9 (l : Launch) (Z : State) (a0 : Array Value) (hw : ∀ d ∈ tables_1, d.before a0 Z = true) (ws : List Jvm.Cond) (la : Addr) (lb : Addr) (lk : ClassId) (cs : Int32) (h0 : Heap) (n0 : Nat) (Z0 : n0 ≤ h0.size) (S0 : Sta Z h0 "java/lang/String" "COMPACT_STRINGS" "Z" (.int cs)) (hcs : ¬ cs = (0 : Int32)) (EL : Exa Z h0 la "java/lang/String") (FC : Fld Z h0 la "java/lang/String" "coder" "B" (.int (0 : Int32))) (FV : Fld Z h0 la "java/lang/String" "value" "[B" (.ref lb)) (VB : Arv Z h0 lb lk .byte (3 : Int32) [(.int (46 : Int32)), (.int (71 : Int32)), (.int (83 : Int32))] (.int (0 : Int32))) :
    MetFree l (⟨"java/lang/String", "length", "()I"⟩ : MethodName) (head1 (Jvm.Cond.code (⟨"java/lang/String", "length", "()I"⟩ : MethodName) jdk_42_method_54_code 1 (some .int) :: ws) ({ frames := 1, cells := 0, slots := 0, locals := 13 } : Room)) (fun aα Uα => aα = #[(.ref la)] ∧ Z.Warmed39 Uα.vm ∧ Uα.heap = h0) (fun _ _ _ _ _ => True) (fun _ Uα oα Uβ => ∃ vα Lα, oα = .returned vα ∧ Q_rm9 Z la lb lk cs h0 n0 vα Uβ.heap Lα ∧ FrameEnd Uα oα Uβ Lα ({ frames := 1, cells := 0, slots := 0, locals := 13 } : Room).cells ({ frames := 1, cells := 0, slots := 0, locals := 13 } : Room).slots) := by
  refine MetFree.of_bodySF (plainFor_of_name pn_java_lang_String) hisR ?_
  intro p e s m args below meth c s₁ Bd hml0 hP hKα
  obtain ⟨rfl, hZ, hh⟩ := hP
  have hx := Bd.exec
  have hby := Bd.bytes
  have hml : c.maxLocals = 1 := hml0
  have hown : s.vm.findClass "java/lang/String" = some m.cls := findClass_of_methodNamed Bd.named
  have hnm := (name_of_methodNamed Bd.named Bd.method).1
  have X0 : Stand p l e ({ frames := 1, cells := 0, slots := 0, locals := 13 } : Room) s m #[(.ref la)] below meth c s₁ [] 0 0 := Stand.of_body Bd
  have e0 : s₁.heap = h0 := by rw [← hh, Bd.state]; rfl
  have N0 := Fr.nil n0
  suffices k0 : Gl p e below s (Q_rm9 Z la lb lk cs h0 n0) ({ frames := 1, cells := 0, slots := 0, locals := 13 } : Room).cells ({ frames := 1, cells := 0, slots := 0, locals := 13 } : Room).slots s₁ (mkF m 0 #[vR la] []) from Gl.st (fun τ κ => castTop (ef_rm9 m la) κ) k0
  refine Gl.st (g' := (mkF m 1 #[vR la] [(.ref la)])) (fun τ κ => XS.aloadN X0.here hx rfl (hb hby d9_0) rfl rfl κ) ?_
  obtain ⟨T8, X8, e8, st8⟩ := getF X0 hx hZ hown (host := "") (Or.inl (w52_ hw)) Via.refl e0 FV (g := (mkF m 1 #[vR la] [(.ref la)])) rfl rfl (hb hby d9_1)
  refine Gl.st (g' := (mkF m 4 #[vR la] [(.ref lb)])) (fun τ κ => st8 _ κ) ?_
  obtain ⟨cl_o9, Ar_o9, q_o9, S_o9, M_o9, H_o9, G_o9⟩ := id VB
  refine Gl.st (g' := (mkF m 5 #[vR la] [(.int (3 : Int32))])) (fun τ κ => X8.arraylength hx (by rw [e8]; exact Ar_o9.1) (State.isArrayOf_alike hZ.alike Ar_o9.2.1) (g := (mkF m 4 #[vR la] [(.ref lb)])) rfl rfl (hb hby d9_4) _ (by rw [len_of S_o9 M_o9]; exact κ)) ?_
  refine Gl.st (g' := (mkF m 6 #[vR la] [(.ref la), (.int (3 : Int32))])) (fun τ κ => XS.aloadN X8.here hx rfl (hb hby d9_5) rfl rfl κ) ?_
  obtain ⟨cq10, kq10, q10a, q10b, q10c⟩ := isOf hZ e8 EL
  obtain ⟨rv10, _, ⟨T10, L10, k10, n10⟩, -, X10, ⟨Lc10, hQ10, l10, y10, z10⟩, st10⟩ := X8.virtualBack hx (y := (⟨"java/lang/String", "coder", "()B"⟩ : MethodName)) (z := (⟨"java/lang/String", "coder", "()B"⟩ : MethodName)) hown (mvT hZ (w58_ hw)) (mvT hZ (w59_ hw)) (notFace_of_selects (args := #[]) (mvT hZ (w61_ hw))) (mvT hZ (w61_ hw)) (mvT hZ (w60_ hw)) (by decide) (backOf (W := 1) (rm10 l Z a0 hw [] la lb lk cs h0 n0 Z0 S0 hcs EL FC FV VB) hZ (w62_ hw) (w29_ hw) (by decide) (by decide)) q10a q10c (g := (mkF m 6 #[vR la] [(.ref la), (.int (3 : Int32))])) rfl (by rw [hml]; rfl) (Steps.refl _) (argsL := []) (rest := [(.int (3 : Int32))]) (lenOf pd_0 rfl) rfl (by show 2 * 0 + _ ≤ _; exact Nat.le_of_eq rfl) (hb hby d9_6) (fun _ _ => ⟨rfl, e8, Nat.le_of_ble_eq_true rfl, Nat.le_of_ble_eq_true rfl⟩)
  dsimp only [Pt.U, Pt.locs, Pt.cells, Pt.slots] at X10 l10 y10 z10 st10 hQ10
  subst l10 y10 z10
  have X10 := X10.more (cells' := 0) (slots' := 0) (by decide) (by decide)
  obtain ⟨hq10, N10q, e10⟩ := hQ10
  have hq10 : rv10 = some (.int (0 : Int32)) := hq10
  subst hq10
  have N10 := Fr.app N0 N10q
  obtain ⟨Lw10, X10, N10⟩ := own_locG X10 N10
  refine Gl.st (g' := (mkF m 9 #[vR la] [(.int (0 : Int32)), (.int (3 : Int32))])) (fun τ κ => st10.trans κ) ?_
  refine Gl.st (g' := (mkF m 10 #[vR la] [(.int ((3 : Int32) >>> ((0 : Int32) &&& 31)))])) (fun τ κ => XS.ishr X10.here hx rfl (hb hby d9_9) rfl κ) ?_
  rw [show ((3 : Int32) >>> ((0 : Int32) &&& 31)) = (3 : Int32) from by decide]
  exact Gl.ret (v := some (.int (3 : Int32))) X10 Bd.notSynchronized (fun h => by rw [Bd.returns] at h; cases h) e10 (fun fs hr => retI X10 hx Bd.returns (hb hby d9_10) hr) (by decide) (by decide) ⟨rfl, N10, rfl⟩
theorem d13_0 : decode jdk_29_method_65_code 0 = .ok (.iload_n 0, 1) := by decide +kernel
theorem d13_1 : decode jdk_29_method_65_code 1 = .ok (.iload_n 1, 1) := by decide +kernel
theorem d13_2 : decode jdk_29_method_65_code 2 = .ok (.if_icmp .lt 7, 3) := by decide +kernel
theorem d13_5 : decode jdk_29_method_65_code 5 = .ok (.iload_n 0, 1) := by decide +kernel
theorem d13_6 : decode jdk_29_method_65_code 6 = .ok (.goto 4, 3) := by decide +kernel
theorem d13_10 : decode jdk_29_method_65_code 10 = .ok (.ireturn, 1) := by decide +kernel
theorem ef_rm13 (m : MethodId)  : entryFrame m #[(.int (0 : Int32)), (.int (0 : Int32))] 2 = mkF m 0 #[vI (0 : Int32), vI (0 : Int32)] [] := by first | (simp [entryFrame, mkF, argsToLocals, Value.category]; done) | rfl
def Q_rm13 (Z : State)   (h0 : Heap) (n0 : Nat) (v : Option Value) (h : Heap) (L : List Loc) : Prop := v = some (.int (0 : Int32)) ∧ Fr n0 L ∧ h = h0
set_option maxRecDepth 65536 in
set_option maxHeartbeats 40000000 in
theorem rm13 (l : Launch) (Z : State) (a0 : Array Value) (hw : ∀ d ∈ tables_1, d.before a0 Z = true) (ws : List Jvm.Cond)   (h0 : Heap) (n0 : Nat) (Z0 : n0 ≤ h0.size)  :
    MetFree l (⟨"java/lang/Math", "max", "(II)I"⟩ : MethodName) (head1 (Jvm.Cond.code (⟨"java/lang/Math", "max", "(II)I"⟩ : MethodName) jdk_29_method_65_code 2 (some .int) :: ws) ({ frames := 0, cells := 0, slots := 0, locals := 0 } : Room)) (fun aα Uα => aα = #[(.int (0 : Int32)), (.int (0 : Int32))] ∧ Z.Warmed39 Uα.vm ∧ Uα.heap = h0) (fun _ _ _ _ _ => True) (fun _ Uα oα Uβ => ∃ vα Lα, oα = .returned vα ∧ Q_rm13 Z   h0 n0 vα Uβ.heap Lα ∧ FrameEnd Uα oα Uβ Lα ({ frames := 0, cells := 0, slots := 0, locals := 0 } : Room).cells ({ frames := 0, cells := 0, slots := 0, locals := 0 } : Room).slots) := by
  refine MetFree.of_bodySF (Jvm.Free.JP.mathPlain rfl (by decide +kernel)) hisR ?_
  intro p e s m args below meth c s₁ Bd hml0 hP hKα
  obtain ⟨rfl, hZ, hh⟩ := hP
  have hx := Bd.exec
  have hby := Bd.bytes
  have hml : c.maxLocals = 2 := hml0
  have hown : s.vm.findClass "java/lang/Math" = some m.cls := findClass_of_methodNamed Bd.named
  have hnm := (name_of_methodNamed Bd.named Bd.method).1
  have X0 : Stand p l e ({ frames := 0, cells := 0, slots := 0, locals := 0 } : Room) s m #[(.int (0 : Int32)), (.int (0 : Int32))] below meth c s₁ [] 0 0 := Stand.of_body Bd
  have e0 : s₁.heap = h0 := by rw [← hh, Bd.state]; rfl
  have N0 := Fr.nil n0
  suffices k0 : Gl p e below s (Q_rm13 Z   h0 n0) ({ frames := 0, cells := 0, slots := 0, locals := 0 } : Room).cells ({ frames := 0, cells := 0, slots := 0, locals := 0 } : Room).slots s₁ (mkF m 0 #[vI (0 : Int32), vI (0 : Int32)] []) from Gl.st (fun τ κ => castTop (ef_rm13 m ) κ) k0
  refine Gl.st (g' := (mkF m 2 #[vI (0 : Int32), vI (0 : Int32)] [(.int (0 : Int32)), (.int (0 : Int32))])) (fun τ κ => XS.iloadN X0.here hx rfl (hb hby d13_0) rfl (XS.iloadN X0.here hx rfl (hb hby d13_1) rfl κ)) ?_
  have hc11 : ¬ ((0 : Int32) < (0 : Int32)) := by decide
  refine Gl.st (g' := (mkF m 6 #[vI (0 : Int32), vI (0 : Int32)] [(.int (0 : Int32))])) (fun τ κ => XS.icmpNo X0.here hx rfl (hb hby d13_2) rfl (flt hc11).1 (XS.iloadN X0.here hx rfl (hb hby d13_5) rfl κ)) ?_
  refine Gl.st (g' := (mkF m 10 #[vI (0 : Int32), vI (0 : Int32)] [(.int (0 : Int32))])) (fun τ κ => XS.goto X0.here hx rfl (pc0 := 6) (pc' := 10) rfl (hb hby d13_6) (by decide) (by decide) κ) ?_
  exact Gl.ret (v := some (.int (0 : Int32))) X0 Bd.notSynchronized (fun h => by rw [Bd.returns] at h; cases h) e0 (fun fs hr => retI X0 hx Bd.returns (hb hby d13_10) hr) (by decide) (by decide) ⟨rfl, N0, rfl⟩
theorem d14_0 : decode jdk_29_method_69_code 0 = .ok (.iload_n 0, 1) := by decide +kernel
theorem d14_1 : decode jdk_29_method_69_code 1 = .ok (.iload_n 1, 1) := by decide +kernel
theorem d14_2 : decode jdk_29_method_69_code 2 = .ok (.if_icmp .gt 7, 3) := by decide +kernel
theorem d14_5 : decode jdk_29_method_69_code 5 = .ok (.iload_n 0, 1) := by decide +kernel
theorem d14_6 : decode jdk_29_method_69_code 6 = .ok (.goto 4, 3) := by decide +kernel
theorem d14_10 : decode jdk_29_method_69_code 10 = .ok (.ireturn, 1) := by decide +kernel
theorem ef_rm14 (m : MethodId)  : entryFrame m #[(.int (3 : Int32)), (.int (3 : Int32))] 2 = mkF m 0 #[vI (3 : Int32), vI (3 : Int32)] [] := by first | (simp [entryFrame, mkF, argsToLocals, Value.category]; done) | rfl
def Q_rm14 (Z : State)   (h0 : Heap) (n0 : Nat) (v : Option Value) (h : Heap) (L : List Loc) : Prop := v = some (.int (3 : Int32)) ∧ Fr n0 L ∧ h = h0
set_option maxRecDepth 65536 in
set_option maxHeartbeats 40000000 in
theorem rm14 (l : Launch) (Z : State) (a0 : Array Value) (hw : ∀ d ∈ tables_1, d.before a0 Z = true) (ws : List Jvm.Cond)   (h0 : Heap) (n0 : Nat) (Z0 : n0 ≤ h0.size)  :
    MetFree l (⟨"java/lang/Math", "min", "(II)I"⟩ : MethodName) (head1 (Jvm.Cond.code (⟨"java/lang/Math", "min", "(II)I"⟩ : MethodName) jdk_29_method_69_code 2 (some .int) :: ws) ({ frames := 0, cells := 0, slots := 0, locals := 0 } : Room)) (fun aα Uα => aα = #[(.int (3 : Int32)), (.int (3 : Int32))] ∧ Z.Warmed39 Uα.vm ∧ Uα.heap = h0) (fun _ _ _ _ _ => True) (fun _ Uα oα Uβ => ∃ vα Lα, oα = .returned vα ∧ Q_rm14 Z   h0 n0 vα Uβ.heap Lα ∧ FrameEnd Uα oα Uβ Lα ({ frames := 0, cells := 0, slots := 0, locals := 0 } : Room).cells ({ frames := 0, cells := 0, slots := 0, locals := 0 } : Room).slots) := by
  refine MetFree.of_bodySF (Jvm.Free.JP.mathPlain rfl (by decide +kernel)) hisR ?_
  intro p e s m args below meth c s₁ Bd hml0 hP hKα
  obtain ⟨rfl, hZ, hh⟩ := hP
  have hx := Bd.exec
  have hby := Bd.bytes
  have hml : c.maxLocals = 2 := hml0
  have hown : s.vm.findClass "java/lang/Math" = some m.cls := findClass_of_methodNamed Bd.named
  have hnm := (name_of_methodNamed Bd.named Bd.method).1
  have X0 : Stand p l e ({ frames := 0, cells := 0, slots := 0, locals := 0 } : Room) s m #[(.int (3 : Int32)), (.int (3 : Int32))] below meth c s₁ [] 0 0 := Stand.of_body Bd
  have e0 : s₁.heap = h0 := by rw [← hh, Bd.state]; rfl
  have N0 := Fr.nil n0
  suffices k0 : Gl p e below s (Q_rm14 Z   h0 n0) ({ frames := 0, cells := 0, slots := 0, locals := 0 } : Room).cells ({ frames := 0, cells := 0, slots := 0, locals := 0 } : Room).slots s₁ (mkF m 0 #[vI (3 : Int32), vI (3 : Int32)] []) from Gl.st (fun τ κ => castTop (ef_rm14 m ) κ) k0
  refine Gl.st (g' := (mkF m 2 #[vI (3 : Int32), vI (3 : Int32)] [(.int (3 : Int32)), (.int (3 : Int32))])) (fun τ κ => XS.iloadN X0.here hx rfl (hb hby d14_0) rfl (XS.iloadN X0.here hx rfl (hb hby d14_1) rfl κ)) ?_
  have hc12 : ¬ ((3 : Int32) < (3 : Int32)) := by decide
  refine Gl.st (g' := (mkF m 6 #[vI (3 : Int32), vI (3 : Int32)] [(.int (3 : Int32))])) (fun τ κ => XS.icmpNo X0.here hx rfl (hb hby d14_2) rfl (flt hc12).2.2.1 (XS.iloadN X0.here hx rfl (hb hby d14_5) rfl κ)) ?_
  refine Gl.st (g' := (mkF m 10 #[vI (3 : Int32), vI (3 : Int32)] [(.int (3 : Int32))])) (fun τ κ => XS.goto X0.here hx rfl (pc0 := 6) (pc' := 10) rfl (hb hby d14_6) (by decide) (by decide) κ) ?_
  exact Gl.ret (v := some (.int (3 : Int32))) X0 Bd.notSynchronized (fun h => by rw [Bd.returns] at h; cases h) e0 (fun fs hr => retI X0 hx Bd.returns (hb hby d14_10) hr) (by decide) (by decide) ⟨rfl, N0, rfl⟩
theorem d12_0 : decode jdk_43_method_4_code 0 = .ok (.iload_n 0, 1) := by decide +kernel
theorem d12_1 : decode jdk_43_method_4_code 1 = .ok (.ifCond .lt 14, 3) := by decide +kernel
theorem d12_4 : decode jdk_43_method_4_code 4 = .ok (.iload_n 0, 1) := by decide +kernel
theorem d12_5 : decode jdk_43_method_4_code 5 = .ok (.sipush 255, 3) := by decide +kernel
theorem d12_8 : decode jdk_43_method_4_code 8 = .ok (.if_icmp .gt 7, 3) := by decide +kernel
theorem d12_11 : decode jdk_43_method_4_code 11 = .ok (.iconst 1, 1) := by decide +kernel
theorem d12_12 : decode jdk_43_method_4_code 12 = .ok (.goto 4, 3) := by decide +kernel
theorem d12_16 : decode jdk_43_method_4_code 16 = .ok (.ireturn, 1) := by decide +kernel
theorem pn_java_lang_StringLatin1 : plainName "java/lang/StringLatin1" = true := by first | (simp [plainName, overriddenIn]; done) | decide +kernel
theorem ef_rm12_46 (m : MethodId)  : entryFrame m #[(.int (46 : Int32))] 1 = mkF m 0 #[vI (46 : Int32)] [] := by first | (simp [entryFrame, mkF, argsToLocals, Value.category]; done) | rfl
def Q_rm12_46 (Z : State)   (h0 : Heap) (n0 : Nat) (v : Option Value) (h : Heap) (L : List Loc) : Prop := v = some (.int (1 : Int32)) ∧ Fr n0 L ∧ h = h0
set_option maxRecDepth 65536 in
set_option maxHeartbeats 40000000 in
theorem rm12_46 (l : Launch) (Z : State) (a0 : Array Value) (hw : ∀ d ∈ tables_1, d.before a0 Z = true) (ws : List Jvm.Cond)   (h0 : Heap) (n0 : Nat) (Z0 : n0 ≤ h0.size)  :
    MetFree l (⟨"java/lang/StringLatin1", "canEncode", "(I)Z"⟩ : MethodName) (head1 (Jvm.Cond.code (⟨"java/lang/StringLatin1", "canEncode", "(I)Z"⟩ : MethodName) jdk_43_method_4_code 1 (some .boolean) :: ws) ({ frames := 0, cells := 0, slots := 0, locals := 0 } : Room)) (fun aα Uα => aα = #[(.int (46 : Int32))] ∧ Z.Warmed39 Uα.vm ∧ Uα.heap = h0) (fun _ _ _ _ _ => True) (fun _ Uα oα Uβ => ∃ vα Lα, oα = .returned vα ∧ Q_rm12_46 Z   h0 n0 vα Uβ.heap Lα ∧ FrameEnd Uα oα Uβ Lα ({ frames := 0, cells := 0, slots := 0, locals := 0 } : Room).cells ({ frames := 0, cells := 0, slots := 0, locals := 0 } : Room).slots) := by
  refine MetFree.of_bodySF (plainFor_of_name pn_java_lang_StringLatin1) hisR ?_
  intro p e s m args below meth c s₁ Bd hml0 hP hKα
  obtain ⟨rfl, hZ, hh⟩ := hP
  have hx := Bd.exec
  have hby := Bd.bytes
  have hml : c.maxLocals = 1 := hml0
  have hown : s.vm.findClass "java/lang/StringLatin1" = some m.cls := findClass_of_methodNamed Bd.named
  have hnm := (name_of_methodNamed Bd.named Bd.method).1
  have X0 : Stand p l e ({ frames := 0, cells := 0, slots := 0, locals := 0 } : Room) s m #[(.int (46 : Int32))] below meth c s₁ [] 0 0 := Stand.of_body Bd
  have e0 : s₁.heap = h0 := by rw [← hh, Bd.state]; rfl
  have N0 := Fr.nil n0
  suffices k0 : Gl p e below s (Q_rm12_46 Z   h0 n0) ({ frames := 0, cells := 0, slots := 0, locals := 0 } : Room).cells ({ frames := 0, cells := 0, slots := 0, locals := 0 } : Room).slots s₁ (mkF m 0 #[vI (46 : Int32)] []) from Gl.st (fun τ κ => castTop (ef_rm12_46 m ) κ) k0
  refine Gl.st (g' := (mkF m 1 #[vI (46 : Int32)] [(.int (46 : Int32))])) (fun τ κ => XS.iloadN X0.here hx rfl (hb hby d12_0) rfl κ) ?_
  have hc13 : ¬ ((46 : Int32) < (0 : Int32)) := by decide
  refine Gl.st (g' := (mkF m 5 #[vI (46 : Int32)] [(.int (46 : Int32))])) (fun τ κ => XS.ifNo X0.here hx rfl (hb hby d12_1) rfl ((if0 _ _).trans (flt hc13).1) (XS.iloadN X0.here hx rfl (hb hby d12_4) rfl κ)) ?_
  refine Gl.st (g' := (mkF m 8 #[vI (46 : Int32)] [(.int (255 : Int32)), (.int (46 : Int32))])) (fun τ κ => XS.sipush X0.here hx rfl (hb hby d12_5) κ) ?_
  have hc14 : ¬ ((255 : Int32) < (46 : Int32)) := by decide
  refine Gl.st (g' := (mkF m 12 #[vI (46 : Int32)] [(.int (1 : Int32))])) (fun τ κ => XS.icmpNo X0.here hx rfl (hb hby d12_8) rfl (flt hc14).2.2.1 (XS.iconst X0.here hx rfl (hb hby d12_11) κ)) ?_
  refine Gl.st (g' := (mkF m 16 #[vI (46 : Int32)] [(.int (1 : Int32))])) (fun τ κ => XS.goto X0.here hx rfl (pc0 := 12) (pc' := 16) rfl (hb hby d12_12) (by decide) (by decide) κ) ?_
  exact Gl.ret (v := some (.int (1 : Int32))) X0 Bd.notSynchronized (fun h => by rw [Bd.returns] at h; cases h) e0 (fun fs hr => retN X0 hx (t := .boolean) Bd.returns (by simp) (hb hby d12_16) hr) (by decide) (by decide) ⟨rfl, N0, rfl⟩
theorem d15_0 : decode jdk_43_method_23_code 0 = .ok (.iload_n 1, 1) := by decide +kernel
theorem d15_1 : decode jdk_43_method_23_code 1 = .ok (.i2b, 1) := by decide +kernel
theorem d15_2 : decode jdk_43_method_23_code 2 = .ok (.istore 4, 2) := by decide +kernel
theorem d15_4 : decode jdk_43_method_23_code 4 = .ok (.iload_n 2, 1) := by decide +kernel
theorem d15_5 : decode jdk_43_method_23_code 5 = .ok (.istore 5, 2) := by decide +kernel
theorem d15_7 : decode jdk_43_method_23_code 7 = .ok (.iload 5, 2) := by decide +kernel
theorem d15_9 : decode jdk_43_method_23_code 9 = .ok (.iload_n 3, 1) := by decide +kernel
theorem d15_10 : decode jdk_43_method_23_code 10 = .ok (.if_icmp .ge 21, 3) := by decide +kernel
theorem d15_13 : decode jdk_43_method_23_code 13 = .ok (.aload_n 0, 1) := by decide +kernel
theorem d15_14 : decode jdk_43_method_23_code 14 = .ok (.iload 5, 2) := by decide +kernel
theorem d15_16 : decode jdk_43_method_23_code 16 = .ok (.baload, 1) := by decide +kernel
theorem d15_17 : decode jdk_43_method_23_code 17 = .ok (.iload 4, 2) := by decide +kernel
theorem d15_19 : decode jdk_43_method_23_code 19 = .ok (.if_icmp .ne 6, 3) := by decide +kernel
theorem d15_22 : decode jdk_43_method_23_code 22 = .ok (.iload 5, 2) := by decide +kernel
theorem d15_24 : decode jdk_43_method_23_code 24 = .ok (.ireturn, 1) := by decide +kernel
theorem ef_rm15_46 (m : MethodId) (lb : Addr) : entryFrame m #[(.ref lb), (.int (46 : Int32)), (.int (0 : Int32)), (.int (3 : Int32))] 6 = mkF m 0 #[vR lb, vI (46 : Int32), vI (0 : Int32), vI (3 : Int32), .unset, .unset] [] := by first | (simp [entryFrame, mkF, argsToLocals, Value.category]; done) | rfl
def Q_rm15_46 (Z : State) (lb : Addr) (lk : ClassId) (h0 : Heap) (n0 : Nat) (v : Option Value) (h : Heap) (L : List Loc) : Prop := v = some (.int (0 : Int32)) ∧ Fr n0 L ∧ h = h0
set_option maxRecDepth 65536 in
set_option maxHeartbeats 40000000 in
theorem rm15_46 (l : Launch) (Z : State) (a0 : Array Value) (hw : ∀ d ∈ tables_1, d.before a0 Z = true) (ws : List Jvm.Cond) (lb : Addr) (lk : ClassId) (h0 : Heap) (n0 : Nat) (Z0 : n0 ≤ h0.size) (VB : Arv Z h0 lb lk .byte (3 : Int32) [(.int (46 : Int32)), (.int (71 : Int32)), (.int (83 : Int32))] (.int (0 : Int32))) :
    MetFree l (⟨"java/lang/StringLatin1", "indexOfChar", "([BIII)I"⟩ : MethodName) (head1 (Jvm.Cond.code (⟨"java/lang/StringLatin1", "indexOfChar", "([BIII)I"⟩ : MethodName) jdk_43_method_23_code 6 (some .int) :: ws) ({ frames := 0, cells := 0, slots := 0, locals := 0 } : Room)) (fun aα Uα => aα = #[(.ref lb), (.int (46 : Int32)), (.int (0 : Int32)), (.int (3 : Int32))] ∧ Z.Warmed39 Uα.vm ∧ Uα.heap = h0) (fun _ _ _ _ _ => True) (fun _ Uα oα Uβ => ∃ vα Lα, oα = .returned vα ∧ Q_rm15_46 Z lb lk h0 n0 vα Uβ.heap Lα ∧ FrameEnd Uα oα Uβ Lα ({ frames := 0, cells := 0, slots := 0, locals := 0 } : Room).cells ({ frames := 0, cells := 0, slots := 0, locals := 0 } : Room).slots) := by
  refine MetFree.of_bodySF (plainFor_of_name pn_java_lang_StringLatin1) hisR ?_
  intro p e s m args below meth c s₁ Bd hml0 hP hKα
  obtain ⟨rfl, hZ, hh⟩ := hP
  have hx := Bd.exec
  have hby := Bd.bytes
  have hml : c.maxLocals = 6 := hml0
  have hown : s.vm.findClass "java/lang/StringLatin1" = some m.cls := findClass_of_methodNamed Bd.named
  have hnm := (name_of_methodNamed Bd.named Bd.method).1
  have X0 : Stand p l e ({ frames := 0, cells := 0, slots := 0, locals := 0 } : Room) s m #[(.ref lb), (.int (46 : Int32)), (.int (0 : Int32)), (.int (3 : Int32))] below meth c s₁ [] 0 0 := Stand.of_body Bd
  have e0 : s₁.heap = h0 := by rw [← hh, Bd.state]; rfl
  have N0 := Fr.nil n0
  suffices k0 : Gl p e below s (Q_rm15_46 Z lb lk h0 n0) ({ frames := 0, cells := 0, slots := 0, locals := 0 } : Room).cells ({ frames := 0, cells := 0, slots := 0, locals := 0 } : Room).slots s₁ (mkF m 0 #[vR lb, vI (46 : Int32), vI (0 : Int32), vI (3 : Int32), .unset, .unset] []) from Gl.st (fun τ κ => castTop (ef_rm15_46 m lb) κ) k0
  refine Gl.st (g' := (mkF m 2 #[vR lb, vI (46 : Int32), vI (0 : Int32), vI (3 : Int32), .unset, .unset] [(.int ((46 : Int32).toInt8.toInt32))])) (fun τ κ => XS.iloadN X0.here hx rfl (hb hby d15_0) rfl (XS.i2b X0.here hx rfl (hb hby d15_1) rfl κ)) ?_
  rw [show ((46 : Int32).toInt8.toInt32) = (46 : Int32) from by decide]
  refine Gl.st (g' := (mkF m 5 #[vR lb, vI (46 : Int32), vI (0 : Int32), vI (3 : Int32), vI (46 : Int32), .unset] [(.int (0 : Int32))])) (fun τ κ => XS.istore X0.here hx rfl (hb hby d15_2) rfl (l' := #[vR lb, vI (46 : Int32), vI (0 : Int32), vI (3 : Int32), vI (46 : Int32), .unset]) rfl (XS.iloadN X0.here hx rfl (hb hby d15_4) rfl κ)) ?_
  refine Gl.st (g' := (mkF m 9 #[vR lb, vI (46 : Int32), vI (0 : Int32), vI (3 : Int32), vI (46 : Int32), vI (0 : Int32)] [(.int (0 : Int32))])) (fun τ κ => XS.istore X0.here hx rfl (hb hby d15_5) rfl (l' := #[vR lb, vI (46 : Int32), vI (0 : Int32), vI (3 : Int32), vI (46 : Int32), vI (0 : Int32)]) rfl (XS.iload X0.here hx rfl (hb hby d15_7) rfl κ)) ?_
  refine Gl.st (g' := (mkF m 10 #[vR lb, vI (46 : Int32), vI (0 : Int32), vI (3 : Int32), vI (46 : Int32), vI (0 : Int32)] [(.int (3 : Int32)), (.int (0 : Int32))])) (fun τ κ => XS.iloadN X0.here hx rfl (hb hby d15_9) rfl κ) ?_
  have hc15 : (0 : Int32) < (3 : Int32) := by decide
  refine Gl.st (g' := (mkF m 14 #[vR lb, vI (46 : Int32), vI (0 : Int32), vI (3 : Int32), vI (46 : Int32), vI (0 : Int32)] [(.ref lb)])) (fun τ κ => XS.icmpNo X0.here hx rfl (hb hby d15_10) rfl (tlt hc15).2.1 (XS.aloadN X0.here hx rfl (hb hby d15_13) rfl rfl κ)) ?_
  refine Gl.st (g' := (mkF m 16 #[vR lb, vI (46 : Int32), vI (0 : Int32), vI (3 : Int32), vI (46 : Int32), vI (0 : Int32)] [(.int (0 : Int32)), (.ref lb)])) (fun τ κ => XS.iload X0.here hx rfl (hb hby d15_14) rfl κ) ?_
  obtain ⟨cl_o16, Ar_o16, q_o16, S_o16, M_o16, H_o16, G_o16⟩ := id VB
  have hin_o16 : ¬ ((0 : Int32) < 0 ∨ cl_o16.slots.size ≤ ((0 : Int32)).toNatClampNeg) := inb_of S_o16 ⟨by decide, by decide⟩
  refine Gl.st (g' := (mkF m 17 #[vR lb, vI (46 : Int32), vI (0 : Int32), vI (3 : Int32), vI (46 : Int32), vI (0 : Int32)] [(.int (46 : Int32))])) (fun τ κ => X0.baloadBytes hx (j := (0 : Int32)) (v := (.int (46 : Int32))) (by rw [e0]; exact Ar_o16.1) (State.isArrayOf_alike hZ.alike Ar_o16.2.1) Ar_o16.2.2 hin_o16 (H_o16 0 (by rw [S_o16]; decide)) (g := (mkF m 16 #[vR lb, vI (46 : Int32), vI (0 : Int32), vI (3 : Int32), vI (46 : Int32), vI (0 : Int32)] [(.int (0 : Int32)), (.ref lb)])) rfl rfl (hb hby d15_16) _ κ) ?_
  refine Gl.st (g' := (mkF m 19 #[vR lb, vI (46 : Int32), vI (0 : Int32), vI (3 : Int32), vI (46 : Int32), vI (0 : Int32)] [(.int (46 : Int32)), (.int (46 : Int32))])) (fun τ κ => XS.iload X0.here hx rfl (hb hby d15_17) rfl κ) ?_
  have hc17 : (46 : Int32) = (46 : Int32) := by decide
  refine Gl.st (g' := (mkF m 24 #[vR lb, vI (46 : Int32), vI (0 : Int32), vI (3 : Int32), vI (46 : Int32), vI (0 : Int32)] [(.int (0 : Int32))])) (fun τ κ => XS.icmpNo X0.here hx rfl (hb hby d15_19) rfl (teq hc17).2 (XS.iload X0.here hx rfl (hb hby d15_22) rfl κ)) ?_
  exact Gl.ret (v := some (.int (0 : Int32))) X0 Bd.notSynchronized (fun h => by rw [Bd.returns] at h; cases h) e0 (fun fs hr => retI X0 hx Bd.returns (hb hby d15_24) hr) (by decide) (by decide) ⟨rfl, N0, rfl⟩
theorem d11_0 : decode jdk_43_method_22_code 0 = .ok (.iload_n 1, 1) := by decide +kernel
theorem d11_1 : decode jdk_43_method_22_code 1 = .ok (.invokestatic 88, 3) := by decide +kernel
theorem pd_1 : parseMethodDescriptor "(I)Z" = some ⟨[.int], some .boolean⟩ := by decide +kernel
theorem d11_4 : decode jdk_43_method_22_code 4 = .ok (.ifCond .ne 5, 3) := by decide +kernel
theorem d11_9 : decode jdk_43_method_22_code 9 = .ok (.iload_n 2, 1) := by decide +kernel
theorem d11_10 : decode jdk_43_method_22_code 10 = .ok (.iconst 0, 1) := by decide +kernel
theorem d11_11 : decode jdk_43_method_22_code 11 = .ok (.invokestatic 92, 3) := by decide +kernel
theorem pd_2 : parseMethodDescriptor "(II)I" = some ⟨[.int, .int], some .int⟩ := by decide +kernel
theorem d11_14 : decode jdk_43_method_22_code 14 = .ok (.istore_n 2, 1) := by decide +kernel
theorem d11_15 : decode jdk_43_method_22_code 15 = .ok (.iload_n 3, 1) := by decide +kernel
theorem d11_16 : decode jdk_43_method_22_code 16 = .ok (.aload_n 0, 1) := by decide +kernel
theorem d11_17 : decode jdk_43_method_22_code 17 = .ok (.arraylength, 1) := by decide +kernel
theorem d11_18 : decode jdk_43_method_22_code 18 = .ok (.invokestatic 38, 3) := by decide +kernel
theorem d11_21 : decode jdk_43_method_22_code 21 = .ok (.istore_n 3, 1) := by decide +kernel
theorem d11_22 : decode jdk_43_method_22_code 22 = .ok (.iload_n 2, 1) := by decide +kernel
theorem d11_23 : decode jdk_43_method_22_code 23 = .ok (.iload_n 3, 1) := by decide +kernel
theorem d11_24 : decode jdk_43_method_22_code 24 = .ok (.if_icmp .lt 5, 3) := by decide +kernel
theorem d11_29 : decode jdk_43_method_22_code 29 = .ok (.aload_n 0, 1) := by decide +kernel
theorem d11_30 : decode jdk_43_method_22_code 30 = .ok (.iload_n 1, 1) := by decide +kernel
theorem d11_31 : decode jdk_43_method_22_code 31 = .ok (.iload_n 2, 1) := by decide +kernel
theorem d11_32 : decode jdk_43_method_22_code 32 = .ok (.iload_n 3, 1) := by decide +kernel
theorem d11_33 : decode jdk_43_method_22_code 33 = .ok (.invokestatic 95, 3) := by decide +kernel
theorem pd_3 : parseMethodDescriptor "([BIII)I" = some ⟨[(.array .byte), .int, .int, .int], some .int⟩ := by decide +kernel
theorem d11_36 : decode jdk_43_method_22_code 36 = .ok (.ireturn, 1) := by decide +kernel
theorem ef_rm11_46 (m : MethodId) (lb : Addr) : entryFrame m #[(.ref lb), (.int (46 : Int32)), (.int (0 : Int32)), (.int (3 : Int32))] 4 = mkF m 0 #[vR lb, vI (46 : Int32), vI (0 : Int32), vI (3 : Int32)] [] := by first | (simp [entryFrame, mkF, argsToLocals, Value.category]; done) | rfl
def Q_rm11_46 (Z : State) (lb : Addr) (lk : ClassId) (h0 : Heap) (n0 : Nat) (v : Option Value) (h : Heap) (L : List Loc) : Prop := v = some (.int (0 : Int32)) ∧ Fr n0 L ∧ h = h0
set_option maxRecDepth 65536 in
set_option maxHeartbeats 40000000 in
theorem rm11_46 (l : Launch) (Z : State) (a0 : Array Value) (hw : ∀ d ∈ tables_1, d.before a0 Z = true) (ws : List Jvm.Cond) (lb : Addr) (lk : ClassId) (h0 : Heap) (n0 : Nat) (Z0 : n0 ≤ h0.size) (VB : Arv Z h0 lb lk .byte (3 : Int32) [(.int (46 : Int32)), (.int (71 : Int32)), (.int (83 : Int32))] (.int (0 : Int32))) :
    MetFree l (⟨"java/lang/StringLatin1", "indexOf", "([BIII)I"⟩ : MethodName) (head1 (Jvm.Cond.code (⟨"java/lang/StringLatin1", "indexOf", "([BIII)I"⟩ : MethodName) jdk_43_method_22_code 4 (some .int) :: ws) ({ frames := 1, cells := 0, slots := 0, locals := 17 } : Room)) (fun aα Uα => aα = #[(.ref lb), (.int (46 : Int32)), (.int (0 : Int32)), (.int (3 : Int32))] ∧ Z.Warmed39 Uα.vm ∧ Uα.heap = h0) (fun _ _ _ _ _ => True) (fun _ Uα oα Uβ => ∃ vα Lα, oα = .returned vα ∧ Q_rm11_46 Z lb lk h0 n0 vα Uβ.heap Lα ∧ FrameEnd Uα oα Uβ Lα ({ frames := 1, cells := 0, slots := 0, locals := 17 } : Room).cells ({ frames := 1, cells := 0, slots := 0, locals := 17 } : Room).slots) := by
  refine MetFree.of_bodySF (plainFor_of_name pn_java_lang_StringLatin1) hisR ?_
  intro p e s m args below meth c s₁ Bd hml0 hP hKα
  obtain ⟨rfl, hZ, hh⟩ := hP
  have hx := Bd.exec
  have hby := Bd.bytes
  have hml : c.maxLocals = 4 := hml0
  have hown : s.vm.findClass "java/lang/StringLatin1" = some m.cls := findClass_of_methodNamed Bd.named
  have hnm := (name_of_methodNamed Bd.named Bd.method).1
  have X0 : Stand p l e ({ frames := 1, cells := 0, slots := 0, locals := 17 } : Room) s m #[(.ref lb), (.int (46 : Int32)), (.int (0 : Int32)), (.int (3 : Int32))] below meth c s₁ [] 0 0 := Stand.of_body Bd
  have e0 : s₁.heap = h0 := by rw [← hh, Bd.state]; rfl
  have N0 := Fr.nil n0
  suffices k0 : Gl p e below s (Q_rm11_46 Z lb lk h0 n0) ({ frames := 1, cells := 0, slots := 0, locals := 17 } : Room).cells ({ frames := 1, cells := 0, slots := 0, locals := 17 } : Room).slots s₁ (mkF m 0 #[vR lb, vI (46 : Int32), vI (0 : Int32), vI (3 : Int32)] []) from Gl.st (fun τ κ => castTop (ef_rm11_46 m lb) κ) k0
  refine Gl.st (g' := (mkF m 1 #[vR lb, vI (46 : Int32), vI (0 : Int32), vI (3 : Int32)] [(.int (46 : Int32))])) (fun τ κ => XS.iloadN X0.here hx rfl (hb hby d11_0) rfl κ) ?_
  obtain ⟨rv18, _, ⟨T18, L18, k18, n18⟩, -, X18, ⟨Lc18, hQ18, l18, y18, z18⟩, st18⟩ := Jvm.LawKit.callS X0 hx (y := (⟨"java/lang/StringLatin1", "canEncode", "(I)Z"⟩ : MethodName)) hown (mvT hZ (w67_ hw)) (mvT hZ (w68_ hw)) (mvT hZ (w65_ hw)) (mvT hZ (w69_ hw)) (by decide) (backOf (W := 0) (rm12_46 l Z a0 hw []  h0 n0 Z0 ) hZ (w69_ hw) (w65_ hw) (by decide) (by decide)) (g := (mkF m 1 #[vR lb, vI (46 : Int32), vI (0 : Int32), vI (3 : Int32)] [(.int (46 : Int32))])) rfl (by rw [hml]; rfl) (argsL := [(.int (46 : Int32))]) (rest := []) (lenOf pd_1 rfl) rfl (by show 2 * 0 + _ ≤ _; exact Nat.le_of_eq rfl) (hb hby d11_1) (fun _ _ => ⟨rfl, e0, Nat.le_of_ble_eq_true rfl, Nat.le_of_ble_eq_true rfl⟩)
  dsimp only [Pt.U, Pt.locs, Pt.cells, Pt.slots] at X18 l18 y18 z18 st18 hQ18
  subst l18 y18 z18
  have X18 := X18.more (cells' := 0) (slots' := 0) (by decide) (by decide)
  obtain ⟨hq18, N18q, e18⟩ := hQ18
  have hq18 : rv18 = some (.int (1 : Int32)) := hq18
  subst hq18
  have N18 := Fr.app N0 N18q
  obtain ⟨Lw18, X18, N18⟩ := own_locG X18 N18
  refine Gl.st (g' := (mkF m 4 #[vR lb, vI (46 : Int32), vI (0 : Int32), vI (3 : Int32)] [(.int (1 : Int32))])) (fun τ κ => st18 _ κ) ?_
  have hc19 : ¬ ((1 : Int32) = (0 : Int32)) := by decide
  refine Gl.st (g' := (mkF m 10 #[vR lb, vI (46 : Int32), vI (0 : Int32), vI (3 : Int32)] [(.int (0 : Int32))])) (fun τ κ => XS.ifYes X18.here hx rfl (pc0 := 4) (pc' := 9) rfl (hb hby d11_4) rfl ((if0 _ _).trans (feq hc19).2) (by decide) (by decide) (XS.iloadN X18.here hx rfl (hb hby d11_9) rfl κ)) ?_
  refine Gl.st (g' := (mkF m 11 #[vR lb, vI (46 : Int32), vI (0 : Int32), vI (3 : Int32)] [(.int (0 : Int32)), (.int (0 : Int32))])) (fun τ κ => XS.iconst X18.here hx rfl (hb hby d11_10) κ) ?_
  obtain ⟨rv20, _, ⟨T20, L20, k20, n20⟩, -, X20, ⟨Lc20, hQ20, l20, y20, z20⟩, st20⟩ := Jvm.LawKit.callS X18 hx (y := (⟨"java/lang/Math", "max", "(II)I"⟩ : MethodName)) hown (mvT hZ (w70_ hw)) (mvT hZ (w71_ hw)) (mvT hZ (w72_ hw)) (mvT hZ (w73_ hw)) (by decide) (backOf (W := 0) (rm13 l Z a0 hw []  h0 n0 Z0 ) hZ (w73_ hw) (w72_ hw) (by decide) (by decide)) (g := (mkF m 11 #[vR lb, vI (46 : Int32), vI (0 : Int32), vI (3 : Int32)] [(.int (0 : Int32)), (.int (0 : Int32))])) rfl (by rw [hml]; rfl) (argsL := [(.int (0 : Int32)), (.int (0 : Int32))]) (rest := []) (lenOf pd_2 rfl) rfl (by show 2 * 0 + _ ≤ _; exact Nat.le_of_eq rfl) (hb hby d11_11) (fun _ _ => ⟨rfl, e18, Nat.le_of_ble_eq_true rfl, Nat.le_of_ble_eq_true rfl⟩)
  dsimp only [Pt.U, Pt.locs, Pt.cells, Pt.slots] at X20 l20 y20 z20 st20 hQ20
  subst l20 y20 z20
  have X20 := X20.more (cells' := 0) (slots' := 0) (by decide) (by decide)
  obtain ⟨hq20, N20q, e20⟩ := hQ20
  have hq20 : rv20 = some (.int (0 : Int32)) := hq20
  subst hq20
  have N20 := Fr.app N18 N20q
  obtain ⟨Lw20, X20, N20⟩ := own_locG X20 N20
  refine Gl.st (g' := (mkF m 14 #[vR lb, vI (46 : Int32), vI (0 : Int32), vI (3 : Int32)] [(.int (0 : Int32))])) (fun τ κ => st20 _ κ) ?_
  refine Gl.st (g' := (mkF m 16 #[vR lb, vI (46 : Int32), vI (0 : Int32), vI (3 : Int32)] [(.int (3 : Int32))])) (fun τ κ => XS.istoreN X20.here hx rfl (hb hby d11_14) rfl (l' := #[vR lb, vI (46 : Int32), vI (0 : Int32), vI (3 : Int32)]) rfl (XS.iloadN X20.here hx rfl (hb hby d11_15) rfl κ)) ?_
  refine Gl.st (g' := (mkF m 17 #[vR lb, vI (46 : Int32), vI (0 : Int32), vI (3 : Int32)] [(.ref lb), (.int (3 : Int32))])) (fun τ κ => XS.aloadN X20.here hx rfl (hb hby d11_16) rfl rfl κ) ?_
  obtain ⟨cl_o21, Ar_o21, q_o21, S_o21, M_o21, H_o21, G_o21⟩ := id VB
  refine Gl.st (g' := (mkF m 18 #[vR lb, vI (46 : Int32), vI (0 : Int32), vI (3 : Int32)] [(.int (3 : Int32)), (.int (3 : Int32))])) (fun τ κ => X20.arraylength hx (by rw [e20]; exact Ar_o21.1) (State.isArrayOf_alike hZ.alike Ar_o21.2.1) (g := (mkF m 17 #[vR lb, vI (46 : Int32), vI (0 : Int32), vI (3 : Int32)] [(.ref lb), (.int (3 : Int32))])) rfl rfl (hb hby d11_17) _ (by rw [len_of S_o21 M_o21]; exact κ)) ?_
  obtain ⟨rv22, _, ⟨T22, L22, k22, n22⟩, -, X22, ⟨Lc22, hQ22, l22, y22, z22⟩, st22⟩ := Jvm.LawKit.callS X20 hx (y := (⟨"java/lang/Math", "min", "(II)I"⟩ : MethodName)) hown (mvT hZ (w74_ hw)) (mvT hZ (w75_ hw)) (mvT hZ (w72_ hw)) (mvT hZ (w76_ hw)) (by decide) (backOf (W := 0) (rm14 l Z a0 hw []  h0 n0 Z0 ) hZ (w76_ hw) (w72_ hw) (by decide) (by decide)) (g := (mkF m 18 #[vR lb, vI (46 : Int32), vI (0 : Int32), vI (3 : Int32)] [(.int (3 : Int32)), (.int (3 : Int32))])) rfl (by rw [hml]; rfl) (argsL := [(.int (3 : Int32)), (.int (3 : Int32))]) (rest := []) (lenOf pd_2 rfl) rfl (by show 2 * 0 + _ ≤ _; exact Nat.le_of_eq rfl) (hb hby d11_18) (fun _ _ => ⟨rfl, e20, Nat.le_of_ble_eq_true rfl, Nat.le_of_ble_eq_true rfl⟩)
  dsimp only [Pt.U, Pt.locs, Pt.cells, Pt.slots] at X22 l22 y22 z22 st22 hQ22
  subst l22 y22 z22
  have X22 := X22.more (cells' := 0) (slots' := 0) (by decide) (by decide)
  obtain ⟨hq22, N22q, e22⟩ := hQ22
  have hq22 : rv22 = some (.int (3 : Int32)) := hq22
  subst hq22
  have N22 := Fr.app N20 N22q
  obtain ⟨Lw22, X22, N22⟩ := own_locG X22 N22
  refine Gl.st (g' := (mkF m 21 #[vR lb, vI (46 : Int32), vI (0 : Int32), vI (3 : Int32)] [(.int (3 : Int32))])) (fun τ κ => st22 _ κ) ?_
  refine Gl.st (g' := (mkF m 23 #[vR lb, vI (46 : Int32), vI (0 : Int32), vI (3 : Int32)] [(.int (0 : Int32))])) (fun τ κ => XS.istoreN X22.here hx rfl (hb hby d11_21) rfl (l' := #[vR lb, vI (46 : Int32), vI (0 : Int32), vI (3 : Int32)]) rfl (XS.iloadN X22.here hx rfl (hb hby d11_22) rfl κ)) ?_
  refine Gl.st (g' := (mkF m 24 #[vR lb, vI (46 : Int32), vI (0 : Int32), vI (3 : Int32)] [(.int (3 : Int32)), (.int (0 : Int32))])) (fun τ κ => XS.iloadN X22.here hx rfl (hb hby d11_23) rfl κ) ?_
  have hc23 : (0 : Int32) < (3 : Int32) := by decide
  refine Gl.st (g' := (mkF m 30 #[vR lb, vI (46 : Int32), vI (0 : Int32), vI (3 : Int32)] [(.ref lb)])) (fun τ κ => XS.icmpYes X22.here hx rfl (pc0 := 24) (pc' := 29) rfl (hb hby d11_24) rfl (tlt hc23).1 (by decide) (by decide) (XS.aloadN X22.here hx rfl (hb hby d11_29) rfl rfl κ)) ?_
  refine Gl.st (g' := (mkF m 32 #[vR lb, vI (46 : Int32), vI (0 : Int32), vI (3 : Int32)] [(.int (0 : Int32)), (.int (46 : Int32)), (.ref lb)])) (fun τ κ => XS.iloadN X22.here hx rfl (hb hby d11_30) rfl (XS.iloadN X22.here hx rfl (hb hby d11_31) rfl κ)) ?_
  refine Gl.st (g' := (mkF m 33 #[vR lb, vI (46 : Int32), vI (0 : Int32), vI (3 : Int32)] [(.int (3 : Int32)), (.int (0 : Int32)), (.int (46 : Int32)), (.ref lb)])) (fun τ κ => XS.iloadN X22.here hx rfl (hb hby d11_32) rfl κ) ?_
  obtain ⟨rv24, _, ⟨T24, L24, k24, n24⟩, -, X24, ⟨Lc24, hQ24, l24, y24, z24⟩, st24⟩ := Jvm.LawKit.callS X22 hx (y := (⟨"java/lang/StringLatin1", "indexOfChar", "([BIII)I"⟩ : MethodName)) hown (mvT hZ (w77_ hw)) (mvT hZ (w78_ hw)) (mvT hZ (w65_ hw)) (mvT hZ (w79_ hw)) (by decide) (backOf (W := 0) (rm15_46 l Z a0 hw [] lb lk h0 n0 Z0 VB) hZ (w79_ hw) (w65_ hw) (by decide) (by decide)) (g := (mkF m 33 #[vR lb, vI (46 : Int32), vI (0 : Int32), vI (3 : Int32)] [(.int (3 : Int32)), (.int (0 : Int32)), (.int (46 : Int32)), (.ref lb)])) rfl (by rw [hml]; rfl) (argsL := [(.ref lb), (.int (46 : Int32)), (.int (0 : Int32)), (.int (3 : Int32))]) (rest := []) (lenOf pd_3 rfl) rfl (by show 2 * 0 + _ ≤ _; exact Nat.le_of_eq rfl) (hb hby d11_33) (fun _ _ => ⟨rfl, e22, Nat.le_of_ble_eq_true rfl, Nat.le_of_ble_eq_true rfl⟩)
  dsimp only [Pt.U, Pt.locs, Pt.cells, Pt.slots] at X24 l24 y24 z24 st24 hQ24
  subst l24 y24 z24
  have X24 := X24.more (cells' := 0) (slots' := 0) (by decide) (by decide)
  obtain ⟨hq24, N24q, e24⟩ := hQ24
  have hq24 : rv24 = some (.int (0 : Int32)) := hq24
  subst hq24
  have N24 := Fr.app N22 N24q
  obtain ⟨Lw24, X24, N24⟩ := own_locG X24 N24
  refine Gl.st (g' := (mkF m 36 #[vR lb, vI (46 : Int32), vI (0 : Int32), vI (3 : Int32)] [(.int (0 : Int32))])) (fun τ κ => st24 _ κ) ?_
  exact Gl.ret (v := some (.int (0 : Int32))) X24 Bd.notSynchronized (fun h => by rw [Bd.returns] at h; cases h) e24 (fun fs hr => retI X24 hx Bd.returns (hb hby d11_36) hr) (by decide) (by decide) ⟨rfl, N24, rfl⟩
theorem d7_0 : decode jdk_42_method_80_code 0 = .ok (.aload_n 0, 1) := by decide +kernel
theorem d7_1 : decode jdk_42_method_80_code 1 = .ok (.invokevirtual 492, 3) := by decide +kernel
theorem pd_4 : parseMethodDescriptor "()Z" = some ⟨[], some .boolean⟩ := by decide +kernel
theorem d7_4 : decode jdk_42_method_80_code 4 = .ok (.ifCond .eq 19, 3) := by decide +kernel
theorem d7_7 : decode jdk_42_method_80_code 7 = .ok (.aload_n 0, 1) := by decide +kernel
theorem d7_8 : decode jdk_42_method_80_code 8 = .ok (.getfield 9, 3) := by decide +kernel
theorem d7_11 : decode jdk_42_method_80_code 11 = .ok (.iload_n 1, 1) := by decide +kernel
theorem d7_12 : decode jdk_42_method_80_code 12 = .ok (.iload_n 2, 1) := by decide +kernel
theorem d7_13 : decode jdk_42_method_80_code 13 = .ok (.aload_n 0, 1) := by decide +kernel
theorem d7_14 : decode jdk_42_method_80_code 14 = .ok (.invokevirtual 505, 3) := by decide +kernel
theorem pd_5 : parseMethodDescriptor "()I" = some ⟨[], some .int⟩ := by decide +kernel
theorem d7_17 : decode jdk_42_method_80_code 17 = .ok (.invokestatic 637, 3) := by decide +kernel
theorem d7_20 : decode jdk_42_method_80_code 20 = .ok (.goto 16, 3) := by decide +kernel
theorem d7_36 : decode jdk_42_method_80_code 36 = .ok (.ireturn, 1) := by decide +kernel
theorem ef_rm7_46 (m : MethodId) (la : Addr) : entryFrame m #[(.ref la), (.int (46 : Int32)), (.int (0 : Int32))] 3 = mkF m 0 #[vR la, vI (46 : Int32), vI (0 : Int32)] [] := by first | (simp [entryFrame, mkF, argsToLocals, Value.category]; done) | rfl
def Q_rm7_46 (Z : State) (la : Addr) (lb : Addr) (lk : ClassId) (cs : Int32) (h0 : Heap) (n0 : Nat) (v : Option Value) (h : Heap) (L : List Loc) : Prop := v = some (.int (0 : Int32)) ∧ Fr n0 L ∧ h = h0
set_option maxRecDepth 65536 in
set_option maxHeartbeats 40000000 in
theorem rm7_46 (l : Launch) (Z : State) (a0 : Array Value) (hw : ∀ d ∈ tables_1, d.before a0 Z = true) (ws : List Jvm.Cond) (la : Addr) (lb : Addr) (lk : ClassId) (cs : Int32) (h0 : Heap) (n0 : Nat) (Z0 : n0 ≤ h0.size) (S0 : Sta Z h0 "java/lang/String" "COMPACT_STRINGS" "Z" (.int cs)) (hcs : ¬ cs = (0 : Int32)) (EL : Exa Z h0 la "java/lang/String") (FC : Fld Z h0 la "java/lang/String" "coder" "B" (.int (0 : Int32))) (FV : Fld Z h0 la "java/lang/String" "value" "[B" (.ref lb)) (VB : Arv Z h0 lb lk .byte (3 : Int32) [(.int (46 : Int32)), (.int (71 : Int32)), (.int (83 : Int32))] (.int (0 : Int32))) :
    MetFree l (⟨"java/lang/String", "indexOf", "(II)I"⟩ : MethodName) (head1 (Jvm.Cond.code (⟨"java/lang/String", "indexOf", "(II)I"⟩ : MethodName) jdk_42_method_80_code 3 (some .int) :: ws) ({ frames := 2, cells := 0, slots := 0, locals := 32 } : Room)) (fun aα Uα => aα = #[(.ref la), (.int (46 : Int32)), (.int (0 : Int32))] ∧ Z.Warmed39 Uα.vm ∧ Uα.heap = h0) (fun _ _ _ _ _ => True) (fun _ Uα oα Uβ => ∃ vα Lα, oα = .returned vα ∧ Q_rm7_46 Z la lb lk cs h0 n0 vα Uβ.heap Lα ∧ FrameEnd Uα oα Uβ Lα ({ frames := 2, cells := 0, slots := 0, locals := 32 } : Room).cells ({ frames := 2, cells := 0, slots := 0, locals := 32 } : Room).slots) := by
  refine MetFree.of_bodySF (plainFor_of_name pn_java_lang_String) hisR ?_
  intro p e s m args below meth c s₁ Bd hml0 hP hKα
  obtain ⟨rfl, hZ, hh⟩ := hP
  have hx := Bd.exec
  have hby := Bd.bytes
  have hml : c.maxLocals = 3 := hml0
  have hown : s.vm.findClass "java/lang/String" = some m.cls := findClass_of_methodNamed Bd.named
  have hnm := (name_of_methodNamed Bd.named Bd.method).1
  have X0 : Stand p l e ({ frames := 2, cells := 0, slots := 0, locals := 32 } : Room) s m #[(.ref la), (.int (46 : Int32)), (.int (0 : Int32))] below meth c s₁ [] 0 0 := Stand.of_body Bd
  have e0 : s₁.heap = h0 := by rw [← hh, Bd.state]; rfl
  have N0 := Fr.nil n0
  suffices k0 : Gl p e below s (Q_rm7_46 Z la lb lk cs h0 n0) ({ frames := 2, cells := 0, slots := 0, locals := 32 } : Room).cells ({ frames := 2, cells := 0, slots := 0, locals := 32 } : Room).slots s₁ (mkF m 0 #[vR la, vI (46 : Int32), vI (0 : Int32)] []) from Gl.st (fun τ κ => castTop (ef_rm7_46 m la) κ) k0
  refine Gl.st (g' := (mkF m 1 #[vR la, vI (46 : Int32), vI (0 : Int32)] [(.ref la)])) (fun τ κ => XS.aloadN X0.here hx rfl (hb hby d7_0) rfl rfl κ) ?_
  obtain ⟨cq25, kq25, q25a, q25b, q25c⟩ := isOf hZ e0 EL
  obtain ⟨rv25, _, ⟨T25, L25, k25, n25⟩, -, X25, ⟨Lc25, hQ25, l25, y25, z25⟩, st25⟩ := X0.virtualBack hx (y := (⟨"java/lang/String", "isLatin1", "()Z"⟩ : MethodName)) (z := (⟨"java/lang/String", "isLatin1", "()Z"⟩ : MethodName)) hown (mvT hZ (w45_ hw)) (mvT hZ (w46_ hw)) (notFace_of_selects (args := #[]) (mvT hZ (w48_ hw))) (mvT hZ (w48_ hw)) (mvT hZ (w47_ hw)) (by decide) (backOf (W := 0) (rm8 l Z a0 hw [] la lb lk cs h0 n0 Z0 S0 hcs EL FC FV VB) hZ (w49_ hw) (w29_ hw) (by decide) (by decide)) q25a q25c (g := (mkF m 1 #[vR la, vI (46 : Int32), vI (0 : Int32)] [(.ref la)])) rfl (by rw [hml]; rfl) (Steps.refl _) (argsL := []) (rest := []) (lenOf pd_4 rfl) rfl (by show 2 * 0 + _ ≤ _; exact Nat.le_of_eq rfl) (hb hby d7_1) (fun _ _ => ⟨rfl, e0, Nat.le_of_ble_eq_true rfl, Nat.le_of_ble_eq_true rfl⟩)
  dsimp only [Pt.U, Pt.locs, Pt.cells, Pt.slots] at X25 l25 y25 z25 st25 hQ25
  subst l25 y25 z25
  have X25 := X25.more (cells' := 0) (slots' := 0) (by decide) (by decide)
  obtain ⟨hq25, N25q, e25⟩ := hQ25
  have hq25 : rv25 = some (.int (1 : Int32)) := hq25
  subst hq25
  have N25 := Fr.app N0 N25q
  obtain ⟨Lw25, X25, N25⟩ := own_locG X25 N25
  refine Gl.st (g' := (mkF m 4 #[vR la, vI (46 : Int32), vI (0 : Int32)] [(.int (1 : Int32))])) (fun τ κ => st25.trans κ) ?_
  have hc26 : ¬ ((1 : Int32) = (0 : Int32)) := by decide
  refine Gl.st (g' := (mkF m 8 #[vR la, vI (46 : Int32), vI (0 : Int32)] [(.ref la)])) (fun τ κ => XS.ifNo X25.here hx rfl (hb hby d7_4) rfl ((if0 _ _).trans (feq hc26).1) (XS.aloadN X25.here hx rfl (hb hby d7_7) rfl rfl κ)) ?_
  obtain ⟨T27, X27, e27, st27⟩ := getF X25 hx hZ hown (host := "") (Or.inl (w52_ hw)) Via.refl e25 FV (g := (mkF m 8 #[vR la, vI (46 : Int32), vI (0 : Int32)] [(.ref la)])) rfl rfl (hb hby d7_8)
  refine Gl.st (g' := (mkF m 11 #[vR la, vI (46 : Int32), vI (0 : Int32)] [(.ref lb)])) (fun τ κ => st27 _ κ) ?_
  refine Gl.st (g' := (mkF m 13 #[vR la, vI (46 : Int32), vI (0 : Int32)] [(.int (0 : Int32)), (.int (46 : Int32)), (.ref lb)])) (fun τ κ => XS.iloadN X27.here hx rfl (hb hby d7_11) rfl (XS.iloadN X27.here hx rfl (hb hby d7_12) rfl κ)) ?_
  refine Gl.st (g' := (mkF m 14 #[vR la, vI (46 : Int32), vI (0 : Int32)] [(.ref la), (.int (0 : Int32)), (.int (46 : Int32)), (.ref lb)])) (fun τ κ => XS.aloadN X27.here hx rfl (hb hby d7_13) rfl rfl κ) ?_
  obtain ⟨cq28, kq28, q28a, q28b, q28c⟩ := isOf hZ e27 EL
  obtain ⟨rv28, _, ⟨T28, L28, k28, n28⟩, -, X28, ⟨Lc28, hQ28, l28, y28, z28⟩, st28⟩ := X27.virtualBack hx (y := (⟨"java/lang/String", "length", "()I"⟩ : MethodName)) (z := (⟨"java/lang/String", "length", "()I"⟩ : MethodName)) hown (mvT hZ (w53_ hw)) (mvT hZ (w54_ hw)) (notFace_of_selects (args := #[]) (mvT hZ (w56_ hw))) (mvT hZ (w56_ hw)) (mvT hZ (w55_ hw)) (by decide) (backOf (W := 3) (rm9 l Z a0 hw [] la lb lk cs h0 n0 Z0 S0 hcs EL FC FV VB) hZ (w57_ hw) (w29_ hw) (by decide) (by decide)) q28a q28c (g := (mkF m 14 #[vR la, vI (46 : Int32), vI (0 : Int32)] [(.ref la), (.int (0 : Int32)), (.int (46 : Int32)), (.ref lb)])) rfl (by rw [hml]; rfl) (Steps.refl _) (argsL := []) (rest := [(.int (0 : Int32)), (.int (46 : Int32)), (.ref lb)]) (lenOf pd_5 rfl) rfl (by show 2 * 0 + _ ≤ _; exact Nat.le_of_eq rfl) (hb hby d7_14) (fun _ _ => ⟨rfl, e27, Nat.le_of_ble_eq_true rfl, Nat.le_of_ble_eq_true rfl⟩)
  dsimp only [Pt.U, Pt.locs, Pt.cells, Pt.slots] at X28 l28 y28 z28 st28 hQ28
  subst l28 y28 z28
  have X28 := X28.more (cells' := 0) (slots' := 0) (by decide) (by decide)
  obtain ⟨hq28, N28q, e28⟩ := hQ28
  have hq28 : rv28 = some (.int (3 : Int32)) := hq28
  subst hq28
  have N28 := Fr.app N25 N28q
  obtain ⟨Lw28, X28, N28⟩ := own_locG X28 N28
  refine Gl.st (g' := (mkF m 17 #[vR la, vI (46 : Int32), vI (0 : Int32)] [(.int (3 : Int32)), (.int (0 : Int32)), (.int (46 : Int32)), (.ref lb)])) (fun τ κ => st28.trans κ) ?_
  obtain ⟨rv29, _, ⟨T29, L29, k29, n29⟩, -, X29, ⟨Lc29, hQ29, l29, y29, z29⟩, st29⟩ := Jvm.LawKit.callS X28 hx (y := (⟨"java/lang/StringLatin1", "indexOf", "([BIII)I"⟩ : MethodName)) hown (mvT hZ (w63_ hw)) (mvT hZ (w64_ hw)) (mvT hZ (w65_ hw)) (mvT hZ (w66_ hw)) (by decide) (backOf (W := 0) (rm11_46 l Z a0 hw [] lb lk h0 n0 Z0 VB) hZ (w66_ hw) (w65_ hw) (by decide) (by decide)) (g := (mkF m 17 #[vR la, vI (46 : Int32), vI (0 : Int32)] [(.int (3 : Int32)), (.int (0 : Int32)), (.int (46 : Int32)), (.ref lb)])) rfl (by rw [hml]; rfl) (argsL := [(.ref lb), (.int (46 : Int32)), (.int (0 : Int32)), (.int (3 : Int32))]) (rest := []) (lenOf pd_3 rfl) rfl (by show 2 * 0 + _ ≤ _; exact Nat.le_of_eq rfl) (hb hby d7_17) (fun _ _ => ⟨rfl, e28, Nat.le_of_ble_eq_true rfl, Nat.le_of_ble_eq_true rfl⟩)
  dsimp only [Pt.U, Pt.locs, Pt.cells, Pt.slots] at X29 l29 y29 z29 st29 hQ29
  subst l29 y29 z29
  have X29 := X29.more (cells' := 0) (slots' := 0) (by decide) (by decide)
  obtain ⟨hq29, N29q, e29⟩ := hQ29
  have hq29 : rv29 = some (.int (0 : Int32)) := hq29
  subst hq29
  have N29 := Fr.app N28 N29q
  obtain ⟨Lw29, X29, N29⟩ := own_locG X29 N29
  refine Gl.st (g' := (mkF m 20 #[vR la, vI (46 : Int32), vI (0 : Int32)] [(.int (0 : Int32))])) (fun τ κ => st29 _ κ) ?_
  refine Gl.st (g' := (mkF m 36 #[vR la, vI (46 : Int32), vI (0 : Int32)] [(.int (0 : Int32))])) (fun τ κ => XS.goto X29.here hx rfl (pc0 := 20) (pc' := 36) rfl (hb hby d7_20) (by decide) (by decide) κ) ?_
  exact Gl.ret (v := some (.int (0 : Int32))) X29 Bd.notSynchronized (fun h => by rw [Bd.returns] at h; cases h) e29 (fun fs hr => retI X29 hx Bd.returns (hb hby d7_36) hr) (by decide) (by decide) ⟨rfl, N29, rfl⟩
theorem d6_0 : decode jdk_42_method_79_code 0 = .ok (.aload_n 0, 1) := by decide +kernel
theorem d6_1 : decode jdk_42_method_79_code 1 = .ok (.iload_n 1, 1) := by decide +kernel
theorem d6_2 : decode jdk_42_method_79_code 2 = .ok (.iconst 0, 1) := by decide +kernel
theorem d6_3 : decode jdk_42_method_79_code 3 = .ok (.invokevirtual 633, 3) := by decide +kernel
theorem d6_6 : decode jdk_42_method_79_code 6 = .ok (.ireturn, 1) := by decide +kernel
theorem ef_rm6_46 (m : MethodId) (la : Addr) : entryFrame m #[(.ref la), (.int (46 : Int32))] 2 = mkF m 0 #[vR la, vI (46 : Int32)] [] := by first | (simp [entryFrame, mkF, argsToLocals, Value.category]; done) | rfl
def Q_rm6_46 (Z : State) (la : Addr) (lb : Addr) (lk : ClassId) (cs : Int32) (h0 : Heap) (n0 : Nat) (v : Option Value) (h : Heap) (L : List Loc) : Prop := v = some (.int (0 : Int32)) ∧ Fr n0 L ∧ h = h0
set_option maxRecDepth 65536 in
set_option maxHeartbeats 40000000 in
theorem rm6_46 (l : Launch) (Z : State) (a0 : Array Value) (hw : ∀ d ∈ tables_1, d.before a0 Z = true) (ws : List Jvm.Cond) (la : Addr) (lb : Addr) (lk : ClassId) (cs : Int32) (h0 : Heap) (n0 : Nat) (Z0 : n0 ≤ h0.size) (S0 : Sta Z h0 "java/lang/String" "COMPACT_STRINGS" "Z" (.int cs)) (hcs : ¬ cs = (0 : Int32)) (EL : Exa Z h0 la "java/lang/String") (FC : Fld Z h0 la "java/lang/String" "coder" "B" (.int (0 : Int32))) (FV : Fld Z h0 la "java/lang/String" "value" "[B" (.ref lb)) (VB : Arv Z h0 lb lk .byte (3 : Int32) [(.int (46 : Int32)), (.int (71 : Int32)), (.int (83 : Int32))] (.int (0 : Int32))) :
    MetFree l (⟨"java/lang/String", "indexOf", "(I)I"⟩ : MethodName) (head1 (Jvm.Cond.code (⟨"java/lang/String", "indexOf", "(I)I"⟩ : MethodName) jdk_42_method_79_code 2 (some .int) :: ws) ({ frames := 3, cells := 0, slots := 0, locals := 46 } : Room)) (fun aα Uα => aα = #[(.ref la), (.int (46 : Int32))] ∧ Z.Warmed39 Uα.vm ∧ Uα.heap = h0) (fun _ _ _ _ _ => True) (fun _ Uα oα Uβ => ∃ vα Lα, oα = .returned vα ∧ Q_rm6_46 Z la lb lk cs h0 n0 vα Uβ.heap Lα ∧ FrameEnd Uα oα Uβ Lα ({ frames := 3, cells := 0, slots := 0, locals := 46 } : Room).cells ({ frames := 3, cells := 0, slots := 0, locals := 46 } : Room).slots) := by
  refine MetFree.of_bodySF (plainFor_of_name pn_java_lang_String) hisR ?_
  intro p e s m args below meth c s₁ Bd hml0 hP hKα
  obtain ⟨rfl, hZ, hh⟩ := hP
  have hx := Bd.exec
  have hby := Bd.bytes
  have hml : c.maxLocals = 2 := hml0
  have hown : s.vm.findClass "java/lang/String" = some m.cls := findClass_of_methodNamed Bd.named
  have hnm := (name_of_methodNamed Bd.named Bd.method).1
  have X0 : Stand p l e ({ frames := 3, cells := 0, slots := 0, locals := 46 } : Room) s m #[(.ref la), (.int (46 : Int32))] below meth c s₁ [] 0 0 := Stand.of_body Bd
  have e0 : s₁.heap = h0 := by rw [← hh, Bd.state]; rfl
  have N0 := Fr.nil n0
  suffices k0 : Gl p e below s (Q_rm6_46 Z la lb lk cs h0 n0) ({ frames := 3, cells := 0, slots := 0, locals := 46 } : Room).cells ({ frames := 3, cells := 0, slots := 0, locals := 46 } : Room).slots s₁ (mkF m 0 #[vR la, vI (46 : Int32)] []) from Gl.st (fun τ κ => castTop (ef_rm6_46 m la) κ) k0
  refine Gl.st (g' := (mkF m 2 #[vR la, vI (46 : Int32)] [(.int (46 : Int32)), (.ref la)])) (fun τ κ => XS.aloadN X0.here hx rfl (hb hby d6_0) rfl rfl (XS.iloadN X0.here hx rfl (hb hby d6_1) rfl κ)) ?_
  refine Gl.st (g' := (mkF m 3 #[vR la, vI (46 : Int32)] [(.int (0 : Int32)), (.int (46 : Int32)), (.ref la)])) (fun τ κ => XS.iconst X0.here hx rfl (hb hby d6_2) κ) ?_
  obtain ⟨cq30, kq30, q30a, q30b, q30c⟩ := isOf hZ e0 EL
  obtain ⟨rv30, _, ⟨T30, L30, k30, n30⟩, -, X30, ⟨Lc30, hQ30, l30, y30, z30⟩, st30⟩ := X0.virtualBack hx (y := (⟨"java/lang/String", "indexOf", "(II)I"⟩ : MethodName)) (z := (⟨"java/lang/String", "indexOf", "(II)I"⟩ : MethodName)) hown (mvT hZ (w40_ hw)) (mvT hZ (w41_ hw)) (notFace_of_selects (args := #[]) (mvT hZ (w43_ hw))) (mvT hZ (w43_ hw)) (mvT hZ (w42_ hw)) (by decide) (backOf (W := 0) (rm7_46 l Z a0 hw [] la lb lk cs h0 n0 Z0 S0 hcs EL FC FV VB) hZ (w44_ hw) (w29_ hw) (by decide) (by decide)) q30a q30c (g := (mkF m 3 #[vR la, vI (46 : Int32)] [(.int (0 : Int32)), (.int (46 : Int32)), (.ref la)])) rfl (by rw [hml]; rfl) (Steps.refl _) (argsL := [(.int (46 : Int32)), (.int (0 : Int32))]) (rest := []) (lenOf pd_2 rfl) rfl (by show 2 * 0 + _ ≤ _; exact Nat.le_of_eq rfl) (hb hby d6_3) (fun _ _ => ⟨rfl, e0, Nat.le_of_ble_eq_true rfl, Nat.le_of_ble_eq_true rfl⟩)
  dsimp only [Pt.U, Pt.locs, Pt.cells, Pt.slots] at X30 l30 y30 z30 st30 hQ30
  subst l30 y30 z30
  have X30 := X30.more (cells' := 0) (slots' := 0) (by decide) (by decide)
  obtain ⟨hq30, N30q, e30⟩ := hQ30
  have hq30 : rv30 = some (.int (0 : Int32)) := hq30
  subst hq30
  have N30 := Fr.app N0 N30q
  obtain ⟨Lw30, X30, N30⟩ := own_locG X30 N30
  refine Gl.st (g' := (mkF m 6 #[vR la, vI (46 : Int32)] [(.int (0 : Int32))])) (fun τ κ => st30.trans κ) ?_
  exact Gl.ret (v := some (.int (0 : Int32))) X30 Bd.notSynchronized (fun h => by rw [Bd.returns] at h; cases h) e30 (fun fs hr => retI X30 hx Bd.returns (hb hby d6_6) hr) (by decide) (by decide) ⟨rfl, N30, rfl⟩
theorem ef_rm12_64 (m : MethodId)  : entryFrame m #[(.int (64 : Int32))] 1 = mkF m 0 #[vI (64 : Int32)] [] := by first | (simp [entryFrame, mkF, argsToLocals, Value.category]; done) | rfl
def Q_rm12_64 (Z : State)   (h0 : Heap) (n0 : Nat) (v : Option Value) (h : Heap) (L : List Loc) : Prop := v = some (.int (1 : Int32)) ∧ Fr n0 L ∧ h = h0
set_option maxRecDepth 65536 in
set_option maxHeartbeats 40000000 in
theorem rm12_64 (l : Launch) (Z : State) (a0 : Array Value) (hw : ∀ d ∈ tables_1, d.before a0 Z = true) (ws : List Jvm.Cond)   (h0 : Heap) (n0 : Nat) (Z0 : n0 ≤ h0.size)  :
    MetFree l (⟨"java/lang/StringLatin1", "canEncode", "(I)Z"⟩ : MethodName) (head1 (Jvm.Cond.code (⟨"java/lang/StringLatin1", "canEncode", "(I)Z"⟩ : MethodName) jdk_43_method_4_code 1 (some .boolean) :: ws) ({ frames := 0, cells := 0, slots := 0, locals := 0 } : Room)) (fun aα Uα => aα = #[(.int (64 : Int32))] ∧ Z.Warmed39 Uα.vm ∧ Uα.heap = h0) (fun _ _ _ _ _ => True) (fun _ Uα oα Uβ => ∃ vα Lα, oα = .returned vα ∧ Q_rm12_64 Z   h0 n0 vα Uβ.heap Lα ∧ FrameEnd Uα oα Uβ Lα ({ frames := 0, cells := 0, slots := 0, locals := 0 } : Room).cells ({ frames := 0, cells := 0, slots := 0, locals := 0 } : Room).slots) := by
  refine MetFree.of_bodySF (plainFor_of_name pn_java_lang_StringLatin1) hisR ?_
  intro p e s m args below meth c s₁ Bd hml0 hP hKα
  obtain ⟨rfl, hZ, hh⟩ := hP
  have hx := Bd.exec
  have hby := Bd.bytes
  have hml : c.maxLocals = 1 := hml0
  have hown : s.vm.findClass "java/lang/StringLatin1" = some m.cls := findClass_of_methodNamed Bd.named
  have hnm := (name_of_methodNamed Bd.named Bd.method).1
  have X0 : Stand p l e ({ frames := 0, cells := 0, slots := 0, locals := 0 } : Room) s m #[(.int (64 : Int32))] below meth c s₁ [] 0 0 := Stand.of_body Bd
  have e0 : s₁.heap = h0 := by rw [← hh, Bd.state]; rfl
  have N0 := Fr.nil n0
  suffices k0 : Gl p e below s (Q_rm12_64 Z   h0 n0) ({ frames := 0, cells := 0, slots := 0, locals := 0 } : Room).cells ({ frames := 0, cells := 0, slots := 0, locals := 0 } : Room).slots s₁ (mkF m 0 #[vI (64 : Int32)] []) from Gl.st (fun τ κ => castTop (ef_rm12_64 m ) κ) k0
  refine Gl.st (g' := (mkF m 1 #[vI (64 : Int32)] [(.int (64 : Int32))])) (fun τ κ => XS.iloadN X0.here hx rfl (hb hby d12_0) rfl κ) ?_
  have hc31 : ¬ ((64 : Int32) < (0 : Int32)) := by decide
  refine Gl.st (g' := (mkF m 5 #[vI (64 : Int32)] [(.int (64 : Int32))])) (fun τ κ => XS.ifNo X0.here hx rfl (hb hby d12_1) rfl ((if0 _ _).trans (flt hc31).1) (XS.iloadN X0.here hx rfl (hb hby d12_4) rfl κ)) ?_
  refine Gl.st (g' := (mkF m 8 #[vI (64 : Int32)] [(.int (255 : Int32)), (.int (64 : Int32))])) (fun τ κ => XS.sipush X0.here hx rfl (hb hby d12_5) κ) ?_
  have hc32 : ¬ ((255 : Int32) < (64 : Int32)) := by decide
  refine Gl.st (g' := (mkF m 12 #[vI (64 : Int32)] [(.int (1 : Int32))])) (fun τ κ => XS.icmpNo X0.here hx rfl (hb hby d12_8) rfl (flt hc32).2.2.1 (XS.iconst X0.here hx rfl (hb hby d12_11) κ)) ?_
  refine Gl.st (g' := (mkF m 16 #[vI (64 : Int32)] [(.int (1 : Int32))])) (fun τ κ => XS.goto X0.here hx rfl (pc0 := 12) (pc' := 16) rfl (hb hby d12_12) (by decide) (by decide) κ) ?_
  exact Gl.ret (v := some (.int (1 : Int32))) X0 Bd.notSynchronized (fun h => by rw [Bd.returns] at h; cases h) e0 (fun fs hr => retN X0 hx (t := .boolean) Bd.returns (by simp) (hb hby d12_16) hr) (by decide) (by decide) ⟨rfl, N0, rfl⟩
theorem d15_25 : decode jdk_43_method_23_code 25 = .ok (.iinc 5 1, 3) := by decide +kernel
theorem d15_28 : decode jdk_43_method_23_code 28 = .ok (.goto (-21), 3) := by decide +kernel
theorem d15_31 : decode jdk_43_method_23_code 31 = .ok (.iconst (-1), 1) := by decide +kernel
theorem d15_32 : decode jdk_43_method_23_code 32 = .ok (.ireturn, 1) := by decide +kernel
theorem ef_rm15_64 (m : MethodId) (lb : Addr) : entryFrame m #[(.ref lb), (.int (64 : Int32)), (.int (0 : Int32)), (.int (3 : Int32))] 6 = mkF m 0 #[vR lb, vI (64 : Int32), vI (0 : Int32), vI (3 : Int32), .unset, .unset] [] := by first | (simp [entryFrame, mkF, argsToLocals, Value.category]; done) | rfl
def Q_rm15_64 (Z : State) (lb : Addr) (lk : ClassId) (h0 : Heap) (n0 : Nat) (v : Option Value) (h : Heap) (L : List Loc) : Prop := v = some (.int (-1 : Int32)) ∧ Fr n0 L ∧ h = h0
set_option maxRecDepth 65536 in
set_option maxHeartbeats 40000000 in
theorem rm15_64 (l : Launch) (Z : State) (a0 : Array Value) (hw : ∀ d ∈ tables_1, d.before a0 Z = true) (ws : List Jvm.Cond) (lb : Addr) (lk : ClassId) (h0 : Heap) (n0 : Nat) (Z0 : n0 ≤ h0.size) (VB : Arv Z h0 lb lk .byte (3 : Int32) [(.int (46 : Int32)), (.int (71 : Int32)), (.int (83 : Int32))] (.int (0 : Int32))) :
    MetFree l (⟨"java/lang/StringLatin1", "indexOfChar", "([BIII)I"⟩ : MethodName) (head1 (Jvm.Cond.code (⟨"java/lang/StringLatin1", "indexOfChar", "([BIII)I"⟩ : MethodName) jdk_43_method_23_code 6 (some .int) :: ws) ({ frames := 0, cells := 0, slots := 0, locals := 0 } : Room)) (fun aα Uα => aα = #[(.ref lb), (.int (64 : Int32)), (.int (0 : Int32)), (.int (3 : Int32))] ∧ Z.Warmed39 Uα.vm ∧ Uα.heap = h0) (fun _ _ _ _ _ => True) (fun _ Uα oα Uβ => ∃ vα Lα, oα = .returned vα ∧ Q_rm15_64 Z lb lk h0 n0 vα Uβ.heap Lα ∧ FrameEnd Uα oα Uβ Lα ({ frames := 0, cells := 0, slots := 0, locals := 0 } : Room).cells ({ frames := 0, cells := 0, slots := 0, locals := 0 } : Room).slots) := by
  refine MetFree.of_bodySF (plainFor_of_name pn_java_lang_StringLatin1) hisR ?_
  intro p e s m args below meth c s₁ Bd hml0 hP hKα
  obtain ⟨rfl, hZ, hh⟩ := hP
  have hx := Bd.exec
  have hby := Bd.bytes
  have hml : c.maxLocals = 6 := hml0
  have hown : s.vm.findClass "java/lang/StringLatin1" = some m.cls := findClass_of_methodNamed Bd.named
  have hnm := (name_of_methodNamed Bd.named Bd.method).1
  have X0 : Stand p l e ({ frames := 0, cells := 0, slots := 0, locals := 0 } : Room) s m #[(.ref lb), (.int (64 : Int32)), (.int (0 : Int32)), (.int (3 : Int32))] below meth c s₁ [] 0 0 := Stand.of_body Bd
  have e0 : s₁.heap = h0 := by rw [← hh, Bd.state]; rfl
  have N0 := Fr.nil n0
  suffices k0 : Gl p e below s (Q_rm15_64 Z lb lk h0 n0) ({ frames := 0, cells := 0, slots := 0, locals := 0 } : Room).cells ({ frames := 0, cells := 0, slots := 0, locals := 0 } : Room).slots s₁ (mkF m 0 #[vR lb, vI (64 : Int32), vI (0 : Int32), vI (3 : Int32), .unset, .unset] []) from Gl.st (fun τ κ => castTop (ef_rm15_64 m lb) κ) k0
  refine Gl.st (g' := (mkF m 2 #[vR lb, vI (64 : Int32), vI (0 : Int32), vI (3 : Int32), .unset, .unset] [(.int ((64 : Int32).toInt8.toInt32))])) (fun τ κ => XS.iloadN X0.here hx rfl (hb hby d15_0) rfl (XS.i2b X0.here hx rfl (hb hby d15_1) rfl κ)) ?_
  rw [show ((64 : Int32).toInt8.toInt32) = (64 : Int32) from by decide]
  refine Gl.st (g' := (mkF m 5 #[vR lb, vI (64 : Int32), vI (0 : Int32), vI (3 : Int32), vI (64 : Int32), .unset] [(.int (0 : Int32))])) (fun τ κ => XS.istore X0.here hx rfl (hb hby d15_2) rfl (l' := #[vR lb, vI (64 : Int32), vI (0 : Int32), vI (3 : Int32), vI (64 : Int32), .unset]) rfl (XS.iloadN X0.here hx rfl (hb hby d15_4) rfl κ)) ?_
  refine Gl.st (g' := (mkF m 9 #[vR lb, vI (64 : Int32), vI (0 : Int32), vI (3 : Int32), vI (64 : Int32), vI (0 : Int32)] [(.int (0 : Int32))])) (fun τ κ => XS.istore X0.here hx rfl (hb hby d15_5) rfl (l' := #[vR lb, vI (64 : Int32), vI (0 : Int32), vI (3 : Int32), vI (64 : Int32), vI (0 : Int32)]) rfl (XS.iload X0.here hx rfl (hb hby d15_7) rfl κ)) ?_
  refine Gl.st (g' := (mkF m 10 #[vR lb, vI (64 : Int32), vI (0 : Int32), vI (3 : Int32), vI (64 : Int32), vI (0 : Int32)] [(.int (3 : Int32)), (.int (0 : Int32))])) (fun τ κ => XS.iloadN X0.here hx rfl (hb hby d15_9) rfl κ) ?_
  have hc33 : (0 : Int32) < (3 : Int32) := by decide
  refine Gl.st (g' := (mkF m 14 #[vR lb, vI (64 : Int32), vI (0 : Int32), vI (3 : Int32), vI (64 : Int32), vI (0 : Int32)] [(.ref lb)])) (fun τ κ => XS.icmpNo X0.here hx rfl (hb hby d15_10) rfl (tlt hc33).2.1 (XS.aloadN X0.here hx rfl (hb hby d15_13) rfl rfl κ)) ?_
  refine Gl.st (g' := (mkF m 16 #[vR lb, vI (64 : Int32), vI (0 : Int32), vI (3 : Int32), vI (64 : Int32), vI (0 : Int32)] [(.int (0 : Int32)), (.ref lb)])) (fun τ κ => XS.iload X0.here hx rfl (hb hby d15_14) rfl κ) ?_
  obtain ⟨cl_o34, Ar_o34, q_o34, S_o34, M_o34, H_o34, G_o34⟩ := id VB
  have hin_o34 : ¬ ((0 : Int32) < 0 ∨ cl_o34.slots.size ≤ ((0 : Int32)).toNatClampNeg) := inb_of S_o34 ⟨by decide, by decide⟩
  refine Gl.st (g' := (mkF m 17 #[vR lb, vI (64 : Int32), vI (0 : Int32), vI (3 : Int32), vI (64 : Int32), vI (0 : Int32)] [(.int (46 : Int32))])) (fun τ κ => X0.baloadBytes hx (j := (0 : Int32)) (v := (.int (46 : Int32))) (by rw [e0]; exact Ar_o34.1) (State.isArrayOf_alike hZ.alike Ar_o34.2.1) Ar_o34.2.2 hin_o34 (H_o34 0 (by rw [S_o34]; decide)) (g := (mkF m 16 #[vR lb, vI (64 : Int32), vI (0 : Int32), vI (3 : Int32), vI (64 : Int32), vI (0 : Int32)] [(.int (0 : Int32)), (.ref lb)])) rfl rfl (hb hby d15_16) _ κ) ?_
  refine Gl.st (g' := (mkF m 19 #[vR lb, vI (64 : Int32), vI (0 : Int32), vI (3 : Int32), vI (64 : Int32), vI (0 : Int32)] [(.int (64 : Int32)), (.int (46 : Int32))])) (fun τ κ => XS.iload X0.here hx rfl (hb hby d15_17) rfl κ) ?_
  have hc35 : ¬ ((46 : Int32) = (64 : Int32)) := by decide
  refine Gl.st (g' := (mkF m 28 #[vR lb, vI (64 : Int32), vI (0 : Int32), vI (3 : Int32), vI (64 : Int32), vI (1 : Int32)] [])) (fun τ κ => XS.icmpYes X0.here hx rfl (pc0 := 19) (pc' := 25) rfl (hb hby d15_19) rfl (feq hc35).2 (by decide) (by decide) (XS.iinc X0.here hx rfl (hb hby d15_25) rfl (l' := #[vR lb, vI (64 : Int32), vI (0 : Int32), vI (3 : Int32), vI (64 : Int32), vI (1 : Int32)]) rfl κ)) ?_
  refine Gl.st (g' := (mkF m 9 #[vR lb, vI (64 : Int32), vI (0 : Int32), vI (3 : Int32), vI (64 : Int32), vI (1 : Int32)] [(.int (1 : Int32))])) (fun τ κ => XS.goto X0.here hx rfl (pc0 := 28) (pc' := 7) rfl (hb hby d15_28) (by decide) (by decide) (XS.iload X0.here hx rfl (hb hby d15_7) rfl κ)) ?_
  refine Gl.st (g' := (mkF m 10 #[vR lb, vI (64 : Int32), vI (0 : Int32), vI (3 : Int32), vI (64 : Int32), vI (1 : Int32)] [(.int (3 : Int32)), (.int (1 : Int32))])) (fun τ κ => XS.iloadN X0.here hx rfl (hb hby d15_9) rfl κ) ?_
  have hc36 : (1 : Int32) < (3 : Int32) := by decide
  refine Gl.st (g' := (mkF m 14 #[vR lb, vI (64 : Int32), vI (0 : Int32), vI (3 : Int32), vI (64 : Int32), vI (1 : Int32)] [(.ref lb)])) (fun τ κ => XS.icmpNo X0.here hx rfl (hb hby d15_10) rfl (tlt hc36).2.1 (XS.aloadN X0.here hx rfl (hb hby d15_13) rfl rfl κ)) ?_
  refine Gl.st (g' := (mkF m 16 #[vR lb, vI (64 : Int32), vI (0 : Int32), vI (3 : Int32), vI (64 : Int32), vI (1 : Int32)] [(.int (1 : Int32)), (.ref lb)])) (fun τ κ => XS.iload X0.here hx rfl (hb hby d15_14) rfl κ) ?_
  obtain ⟨cl_o37, Ar_o37, q_o37, S_o37, M_o37, H_o37, G_o37⟩ := id VB
  have hin_o37 : ¬ ((1 : Int32) < 0 ∨ cl_o37.slots.size ≤ ((1 : Int32)).toNatClampNeg) := inb_of S_o37 ⟨by decide, by decide⟩
  refine Gl.st (g' := (mkF m 17 #[vR lb, vI (64 : Int32), vI (0 : Int32), vI (3 : Int32), vI (64 : Int32), vI (1 : Int32)] [(.int (71 : Int32))])) (fun τ κ => X0.baloadBytes hx (j := (1 : Int32)) (v := (.int (71 : Int32))) (by rw [e0]; exact Ar_o37.1) (State.isArrayOf_alike hZ.alike Ar_o37.2.1) Ar_o37.2.2 hin_o37 (H_o37 1 (by rw [S_o37]; decide)) (g := (mkF m 16 #[vR lb, vI (64 : Int32), vI (0 : Int32), vI (3 : Int32), vI (64 : Int32), vI (1 : Int32)] [(.int (1 : Int32)), (.ref lb)])) rfl rfl (hb hby d15_16) _ κ) ?_
  refine Gl.st (g' := (mkF m 19 #[vR lb, vI (64 : Int32), vI (0 : Int32), vI (3 : Int32), vI (64 : Int32), vI (1 : Int32)] [(.int (64 : Int32)), (.int (71 : Int32))])) (fun τ κ => XS.iload X0.here hx rfl (hb hby d15_17) rfl κ) ?_
  have hc38 : ¬ ((71 : Int32) = (64 : Int32)) := by decide
  refine Gl.st (g' := (mkF m 28 #[vR lb, vI (64 : Int32), vI (0 : Int32), vI (3 : Int32), vI (64 : Int32), vI (2 : Int32)] [])) (fun τ κ => XS.icmpYes X0.here hx rfl (pc0 := 19) (pc' := 25) rfl (hb hby d15_19) rfl (feq hc38).2 (by decide) (by decide) (XS.iinc X0.here hx rfl (hb hby d15_25) rfl (l' := #[vR lb, vI (64 : Int32), vI (0 : Int32), vI (3 : Int32), vI (64 : Int32), vI (2 : Int32)]) rfl κ)) ?_
  refine Gl.st (g' := (mkF m 9 #[vR lb, vI (64 : Int32), vI (0 : Int32), vI (3 : Int32), vI (64 : Int32), vI (2 : Int32)] [(.int (2 : Int32))])) (fun τ κ => XS.goto X0.here hx rfl (pc0 := 28) (pc' := 7) rfl (hb hby d15_28) (by decide) (by decide) (XS.iload X0.here hx rfl (hb hby d15_7) rfl κ)) ?_
  refine Gl.st (g' := (mkF m 10 #[vR lb, vI (64 : Int32), vI (0 : Int32), vI (3 : Int32), vI (64 : Int32), vI (2 : Int32)] [(.int (3 : Int32)), (.int (2 : Int32))])) (fun τ κ => XS.iloadN X0.here hx rfl (hb hby d15_9) rfl κ) ?_
  have hc39 : (2 : Int32) < (3 : Int32) := by decide
  refine Gl.st (g' := (mkF m 14 #[vR lb, vI (64 : Int32), vI (0 : Int32), vI (3 : Int32), vI (64 : Int32), vI (2 : Int32)] [(.ref lb)])) (fun τ κ => XS.icmpNo X0.here hx rfl (hb hby d15_10) rfl (tlt hc39).2.1 (XS.aloadN X0.here hx rfl (hb hby d15_13) rfl rfl κ)) ?_
  refine Gl.st (g' := (mkF m 16 #[vR lb, vI (64 : Int32), vI (0 : Int32), vI (3 : Int32), vI (64 : Int32), vI (2 : Int32)] [(.int (2 : Int32)), (.ref lb)])) (fun τ κ => XS.iload X0.here hx rfl (hb hby d15_14) rfl κ) ?_
  obtain ⟨cl_o40, Ar_o40, q_o40, S_o40, M_o40, H_o40, G_o40⟩ := id VB
  have hin_o40 : ¬ ((2 : Int32) < 0 ∨ cl_o40.slots.size ≤ ((2 : Int32)).toNatClampNeg) := inb_of S_o40 ⟨by decide, by decide⟩
  refine Gl.st (g' := (mkF m 17 #[vR lb, vI (64 : Int32), vI (0 : Int32), vI (3 : Int32), vI (64 : Int32), vI (2 : Int32)] [(.int (83 : Int32))])) (fun τ κ => X0.baloadBytes hx (j := (2 : Int32)) (v := (.int (83 : Int32))) (by rw [e0]; exact Ar_o40.1) (State.isArrayOf_alike hZ.alike Ar_o40.2.1) Ar_o40.2.2 hin_o40 (H_o40 2 (by rw [S_o40]; decide)) (g := (mkF m 16 #[vR lb, vI (64 : Int32), vI (0 : Int32), vI (3 : Int32), vI (64 : Int32), vI (2 : Int32)] [(.int (2 : Int32)), (.ref lb)])) rfl rfl (hb hby d15_16) _ κ) ?_
  refine Gl.st (g' := (mkF m 19 #[vR lb, vI (64 : Int32), vI (0 : Int32), vI (3 : Int32), vI (64 : Int32), vI (2 : Int32)] [(.int (64 : Int32)), (.int (83 : Int32))])) (fun τ κ => XS.iload X0.here hx rfl (hb hby d15_17) rfl κ) ?_
  have hc41 : ¬ ((83 : Int32) = (64 : Int32)) := by decide
  refine Gl.st (g' := (mkF m 28 #[vR lb, vI (64 : Int32), vI (0 : Int32), vI (3 : Int32), vI (64 : Int32), vI (3 : Int32)] [])) (fun τ κ => XS.icmpYes X0.here hx rfl (pc0 := 19) (pc' := 25) rfl (hb hby d15_19) rfl (feq hc41).2 (by decide) (by decide) (XS.iinc X0.here hx rfl (hb hby d15_25) rfl (l' := #[vR lb, vI (64 : Int32), vI (0 : Int32), vI (3 : Int32), vI (64 : Int32), vI (3 : Int32)]) rfl κ)) ?_
  refine Gl.st (g' := (mkF m 9 #[vR lb, vI (64 : Int32), vI (0 : Int32), vI (3 : Int32), vI (64 : Int32), vI (3 : Int32)] [(.int (3 : Int32))])) (fun τ κ => XS.goto X0.here hx rfl (pc0 := 28) (pc' := 7) rfl (hb hby d15_28) (by decide) (by decide) (XS.iload X0.here hx rfl (hb hby d15_7) rfl κ)) ?_
  refine Gl.st (g' := (mkF m 10 #[vR lb, vI (64 : Int32), vI (0 : Int32), vI (3 : Int32), vI (64 : Int32), vI (3 : Int32)] [(.int (3 : Int32)), (.int (3 : Int32))])) (fun τ κ => XS.iloadN X0.here hx rfl (hb hby d15_9) rfl κ) ?_
  have hc42 : ¬ ((3 : Int32) < (3 : Int32)) := by decide
  refine Gl.st (g' := (mkF m 32 #[vR lb, vI (64 : Int32), vI (0 : Int32), vI (3 : Int32), vI (64 : Int32), vI (3 : Int32)] [(.int (-1 : Int32))])) (fun τ κ => XS.icmpYes X0.here hx rfl (pc0 := 10) (pc' := 31) rfl (hb hby d15_10) rfl (flt hc42).2.1 (by decide) (by decide) (XS.iconst X0.here hx rfl (hb hby d15_31) κ)) ?_
  exact Gl.ret (v := some (.int (-1 : Int32))) X0 Bd.notSynchronized (fun h => by rw [Bd.returns] at h; cases h) e0 (fun fs hr => retI X0 hx Bd.returns (hb hby d15_32) hr) (by decide) (by decide) ⟨rfl, N0, rfl⟩
theorem ef_rm11_64 (m : MethodId) (lb : Addr) : entryFrame m #[(.ref lb), (.int (64 : Int32)), (.int (0 : Int32)), (.int (3 : Int32))] 4 = mkF m 0 #[vR lb, vI (64 : Int32), vI (0 : Int32), vI (3 : Int32)] [] := by first | (simp [entryFrame, mkF, argsToLocals, Value.category]; done) | rfl
def Q_rm11_64 (Z : State) (lb : Addr) (lk : ClassId) (h0 : Heap) (n0 : Nat) (v : Option Value) (h : Heap) (L : List Loc) : Prop := v = some (.int (-1 : Int32)) ∧ Fr n0 L ∧ h = h0
set_option maxRecDepth 65536 in
set_option maxHeartbeats 40000000 in
theorem rm11_64 (l : Launch) (Z : State) (a0 : Array Value) (hw : ∀ d ∈ tables_1, d.before a0 Z = true) (ws : List Jvm.Cond) (lb : Addr) (lk : ClassId) (h0 : Heap) (n0 : Nat) (Z0 : n0 ≤ h0.size) (VB : Arv Z h0 lb lk .byte (3 : Int32) [(.int (46 : Int32)), (.int (71 : Int32)), (.int (83 : Int32))] (.int (0 : Int32))) :
    MetFree l (⟨"java/lang/StringLatin1", "indexOf", "([BIII)I"⟩ : MethodName) (head1 (Jvm.Cond.code (⟨"java/lang/StringLatin1", "indexOf", "([BIII)I"⟩ : MethodName) jdk_43_method_22_code 4 (some .int) :: ws) ({ frames := 1, cells := 0, slots := 0, locals := 17 } : Room)) (fun aα Uα => aα = #[(.ref lb), (.int (64 : Int32)), (.int (0 : Int32)), (.int (3 : Int32))] ∧ Z.Warmed39 Uα.vm ∧ Uα.heap = h0) (fun _ _ _ _ _ => True) (fun _ Uα oα Uβ => ∃ vα Lα, oα = .returned vα ∧ Q_rm11_64 Z lb lk h0 n0 vα Uβ.heap Lα ∧ FrameEnd Uα oα Uβ Lα ({ frames := 1, cells := 0, slots := 0, locals := 17 } : Room).cells ({ frames := 1, cells := 0, slots := 0, locals := 17 } : Room).slots) := by
  refine MetFree.of_bodySF (plainFor_of_name pn_java_lang_StringLatin1) hisR ?_
  intro p e s m args below meth c s₁ Bd hml0 hP hKα
  obtain ⟨rfl, hZ, hh⟩ := hP
  have hx := Bd.exec
  have hby := Bd.bytes
  have hml : c.maxLocals = 4 := hml0
  have hown : s.vm.findClass "java/lang/StringLatin1" = some m.cls := findClass_of_methodNamed Bd.named
  have hnm := (name_of_methodNamed Bd.named Bd.method).1
  have X0 : Stand p l e ({ frames := 1, cells := 0, slots := 0, locals := 17 } : Room) s m #[(.ref lb), (.int (64 : Int32)), (.int (0 : Int32)), (.int (3 : Int32))] below meth c s₁ [] 0 0 := Stand.of_body Bd
  have e0 : s₁.heap = h0 := by rw [← hh, Bd.state]; rfl
  have N0 := Fr.nil n0
  suffices k0 : Gl p e below s (Q_rm11_64 Z lb lk h0 n0) ({ frames := 1, cells := 0, slots := 0, locals := 17 } : Room).cells ({ frames := 1, cells := 0, slots := 0, locals := 17 } : Room).slots s₁ (mkF m 0 #[vR lb, vI (64 : Int32), vI (0 : Int32), vI (3 : Int32)] []) from Gl.st (fun τ κ => castTop (ef_rm11_64 m lb) κ) k0
  refine Gl.st (g' := (mkF m 1 #[vR lb, vI (64 : Int32), vI (0 : Int32), vI (3 : Int32)] [(.int (64 : Int32))])) (fun τ κ => XS.iloadN X0.here hx rfl (hb hby d11_0) rfl κ) ?_
  obtain ⟨rv43, _, ⟨T43, L43, k43, n43⟩, -, X43, ⟨Lc43, hQ43, l43, y43, z43⟩, st43⟩ := Jvm.LawKit.callS X0 hx (y := (⟨"java/lang/StringLatin1", "canEncode", "(I)Z"⟩ : MethodName)) hown (mvT hZ (w67_ hw)) (mvT hZ (w68_ hw)) (mvT hZ (w65_ hw)) (mvT hZ (w69_ hw)) (by decide) (backOf (W := 0) (rm12_64 l Z a0 hw []  h0 n0 Z0 ) hZ (w69_ hw) (w65_ hw) (by decide) (by decide)) (g := (mkF m 1 #[vR lb, vI (64 : Int32), vI (0 : Int32), vI (3 : Int32)] [(.int (64 : Int32))])) rfl (by rw [hml]; rfl) (argsL := [(.int (64 : Int32))]) (rest := []) (lenOf pd_1 rfl) rfl (by show 2 * 0 + _ ≤ _; exact Nat.le_of_eq rfl) (hb hby d11_1) (fun _ _ => ⟨rfl, e0, Nat.le_of_ble_eq_true rfl, Nat.le_of_ble_eq_true rfl⟩)
  dsimp only [Pt.U, Pt.locs, Pt.cells, Pt.slots] at X43 l43 y43 z43 st43 hQ43
  subst l43 y43 z43
  have X43 := X43.more (cells' := 0) (slots' := 0) (by decide) (by decide)
  obtain ⟨hq43, N43q, e43⟩ := hQ43
  have hq43 : rv43 = some (.int (1 : Int32)) := hq43
  subst hq43
  have N43 := Fr.app N0 N43q
  obtain ⟨Lw43, X43, N43⟩ := own_locG X43 N43
  refine Gl.st (g' := (mkF m 4 #[vR lb, vI (64 : Int32), vI (0 : Int32), vI (3 : Int32)] [(.int (1 : Int32))])) (fun τ κ => st43 _ κ) ?_
  have hc44 : ¬ ((1 : Int32) = (0 : Int32)) := by decide
  refine Gl.st (g' := (mkF m 10 #[vR lb, vI (64 : Int32), vI (0 : Int32), vI (3 : Int32)] [(.int (0 : Int32))])) (fun τ κ => XS.ifYes X43.here hx rfl (pc0 := 4) (pc' := 9) rfl (hb hby d11_4) rfl ((if0 _ _).trans (feq hc44).2) (by decide) (by decide) (XS.iloadN X43.here hx rfl (hb hby d11_9) rfl κ)) ?_
  refine Gl.st (g' := (mkF m 11 #[vR lb, vI (64 : Int32), vI (0 : Int32), vI (3 : Int32)] [(.int (0 : Int32)), (.int (0 : Int32))])) (fun τ κ => XS.iconst X43.here hx rfl (hb hby d11_10) κ) ?_
  obtain ⟨rv45, _, ⟨T45, L45, k45, n45⟩, -, X45, ⟨Lc45, hQ45, l45, y45, z45⟩, st45⟩ := Jvm.LawKit.callS X43 hx (y := (⟨"java/lang/Math", "max", "(II)I"⟩ : MethodName)) hown (mvT hZ (w70_ hw)) (mvT hZ (w71_ hw)) (mvT hZ (w72_ hw)) (mvT hZ (w73_ hw)) (by decide) (backOf (W := 0) (rm13 l Z a0 hw []  h0 n0 Z0 ) hZ (w73_ hw) (w72_ hw) (by decide) (by decide)) (g := (mkF m 11 #[vR lb, vI (64 : Int32), vI (0 : Int32), vI (3 : Int32)] [(.int (0 : Int32)), (.int (0 : Int32))])) rfl (by rw [hml]; rfl) (argsL := [(.int (0 : Int32)), (.int (0 : Int32))]) (rest := []) (lenOf pd_2 rfl) rfl (by show 2 * 0 + _ ≤ _; exact Nat.le_of_eq rfl) (hb hby d11_11) (fun _ _ => ⟨rfl, e43, Nat.le_of_ble_eq_true rfl, Nat.le_of_ble_eq_true rfl⟩)
  dsimp only [Pt.U, Pt.locs, Pt.cells, Pt.slots] at X45 l45 y45 z45 st45 hQ45
  subst l45 y45 z45
  have X45 := X45.more (cells' := 0) (slots' := 0) (by decide) (by decide)
  obtain ⟨hq45, N45q, e45⟩ := hQ45
  have hq45 : rv45 = some (.int (0 : Int32)) := hq45
  subst hq45
  have N45 := Fr.app N43 N45q
  obtain ⟨Lw45, X45, N45⟩ := own_locG X45 N45
  refine Gl.st (g' := (mkF m 14 #[vR lb, vI (64 : Int32), vI (0 : Int32), vI (3 : Int32)] [(.int (0 : Int32))])) (fun τ κ => st45 _ κ) ?_
  refine Gl.st (g' := (mkF m 16 #[vR lb, vI (64 : Int32), vI (0 : Int32), vI (3 : Int32)] [(.int (3 : Int32))])) (fun τ κ => XS.istoreN X45.here hx rfl (hb hby d11_14) rfl (l' := #[vR lb, vI (64 : Int32), vI (0 : Int32), vI (3 : Int32)]) rfl (XS.iloadN X45.here hx rfl (hb hby d11_15) rfl κ)) ?_
  refine Gl.st (g' := (mkF m 17 #[vR lb, vI (64 : Int32), vI (0 : Int32), vI (3 : Int32)] [(.ref lb), (.int (3 : Int32))])) (fun τ κ => XS.aloadN X45.here hx rfl (hb hby d11_16) rfl rfl κ) ?_
  obtain ⟨cl_o46, Ar_o46, q_o46, S_o46, M_o46, H_o46, G_o46⟩ := id VB
  refine Gl.st (g' := (mkF m 18 #[vR lb, vI (64 : Int32), vI (0 : Int32), vI (3 : Int32)] [(.int (3 : Int32)), (.int (3 : Int32))])) (fun τ κ => X45.arraylength hx (by rw [e45]; exact Ar_o46.1) (State.isArrayOf_alike hZ.alike Ar_o46.2.1) (g := (mkF m 17 #[vR lb, vI (64 : Int32), vI (0 : Int32), vI (3 : Int32)] [(.ref lb), (.int (3 : Int32))])) rfl rfl (hb hby d11_17) _ (by rw [len_of S_o46 M_o46]; exact κ)) ?_
  obtain ⟨rv47, _, ⟨T47, L47, k47, n47⟩, -, X47, ⟨Lc47, hQ47, l47, y47, z47⟩, st47⟩ := Jvm.LawKit.callS X45 hx (y := (⟨"java/lang/Math", "min", "(II)I"⟩ : MethodName)) hown (mvT hZ (w74_ hw)) (mvT hZ (w75_ hw)) (mvT hZ (w72_ hw)) (mvT hZ (w76_ hw)) (by decide) (backOf (W := 0) (rm14 l Z a0 hw []  h0 n0 Z0 ) hZ (w76_ hw) (w72_ hw) (by decide) (by decide)) (g := (mkF m 18 #[vR lb, vI (64 : Int32), vI (0 : Int32), vI (3 : Int32)] [(.int (3 : Int32)), (.int (3 : Int32))])) rfl (by rw [hml]; rfl) (argsL := [(.int (3 : Int32)), (.int (3 : Int32))]) (rest := []) (lenOf pd_2 rfl) rfl (by show 2 * 0 + _ ≤ _; exact Nat.le_of_eq rfl) (hb hby d11_18) (fun _ _ => ⟨rfl, e45, Nat.le_of_ble_eq_true rfl, Nat.le_of_ble_eq_true rfl⟩)
  dsimp only [Pt.U, Pt.locs, Pt.cells, Pt.slots] at X47 l47 y47 z47 st47 hQ47
  subst l47 y47 z47
  have X47 := X47.more (cells' := 0) (slots' := 0) (by decide) (by decide)
  obtain ⟨hq47, N47q, e47⟩ := hQ47
  have hq47 : rv47 = some (.int (3 : Int32)) := hq47
  subst hq47
  have N47 := Fr.app N45 N47q
  obtain ⟨Lw47, X47, N47⟩ := own_locG X47 N47
  refine Gl.st (g' := (mkF m 21 #[vR lb, vI (64 : Int32), vI (0 : Int32), vI (3 : Int32)] [(.int (3 : Int32))])) (fun τ κ => st47 _ κ) ?_
  refine Gl.st (g' := (mkF m 23 #[vR lb, vI (64 : Int32), vI (0 : Int32), vI (3 : Int32)] [(.int (0 : Int32))])) (fun τ κ => XS.istoreN X47.here hx rfl (hb hby d11_21) rfl (l' := #[vR lb, vI (64 : Int32), vI (0 : Int32), vI (3 : Int32)]) rfl (XS.iloadN X47.here hx rfl (hb hby d11_22) rfl κ)) ?_
  refine Gl.st (g' := (mkF m 24 #[vR lb, vI (64 : Int32), vI (0 : Int32), vI (3 : Int32)] [(.int (3 : Int32)), (.int (0 : Int32))])) (fun τ κ => XS.iloadN X47.here hx rfl (hb hby d11_23) rfl κ) ?_
  have hc48 : (0 : Int32) < (3 : Int32) := by decide
  refine Gl.st (g' := (mkF m 30 #[vR lb, vI (64 : Int32), vI (0 : Int32), vI (3 : Int32)] [(.ref lb)])) (fun τ κ => XS.icmpYes X47.here hx rfl (pc0 := 24) (pc' := 29) rfl (hb hby d11_24) rfl (tlt hc48).1 (by decide) (by decide) (XS.aloadN X47.here hx rfl (hb hby d11_29) rfl rfl κ)) ?_
  refine Gl.st (g' := (mkF m 32 #[vR lb, vI (64 : Int32), vI (0 : Int32), vI (3 : Int32)] [(.int (0 : Int32)), (.int (64 : Int32)), (.ref lb)])) (fun τ κ => XS.iloadN X47.here hx rfl (hb hby d11_30) rfl (XS.iloadN X47.here hx rfl (hb hby d11_31) rfl κ)) ?_
  refine Gl.st (g' := (mkF m 33 #[vR lb, vI (64 : Int32), vI (0 : Int32), vI (3 : Int32)] [(.int (3 : Int32)), (.int (0 : Int32)), (.int (64 : Int32)), (.ref lb)])) (fun τ κ => XS.iloadN X47.here hx rfl (hb hby d11_32) rfl κ) ?_
  obtain ⟨rv49, _, ⟨T49, L49, k49, n49⟩, -, X49, ⟨Lc49, hQ49, l49, y49, z49⟩, st49⟩ := Jvm.LawKit.callS X47 hx (y := (⟨"java/lang/StringLatin1", "indexOfChar", "([BIII)I"⟩ : MethodName)) hown (mvT hZ (w77_ hw)) (mvT hZ (w78_ hw)) (mvT hZ (w65_ hw)) (mvT hZ (w79_ hw)) (by decide) (backOf (W := 0) (rm15_64 l Z a0 hw [] lb lk h0 n0 Z0 VB) hZ (w79_ hw) (w65_ hw) (by decide) (by decide)) (g := (mkF m 33 #[vR lb, vI (64 : Int32), vI (0 : Int32), vI (3 : Int32)] [(.int (3 : Int32)), (.int (0 : Int32)), (.int (64 : Int32)), (.ref lb)])) rfl (by rw [hml]; rfl) (argsL := [(.ref lb), (.int (64 : Int32)), (.int (0 : Int32)), (.int (3 : Int32))]) (rest := []) (lenOf pd_3 rfl) rfl (by show 2 * 0 + _ ≤ _; exact Nat.le_of_eq rfl) (hb hby d11_33) (fun _ _ => ⟨rfl, e47, Nat.le_of_ble_eq_true rfl, Nat.le_of_ble_eq_true rfl⟩)
  dsimp only [Pt.U, Pt.locs, Pt.cells, Pt.slots] at X49 l49 y49 z49 st49 hQ49
  subst l49 y49 z49
  have X49 := X49.more (cells' := 0) (slots' := 0) (by decide) (by decide)
  obtain ⟨hq49, N49q, e49⟩ := hQ49
  have hq49 : rv49 = some (.int (-1 : Int32)) := hq49
  subst hq49
  have N49 := Fr.app N47 N49q
  obtain ⟨Lw49, X49, N49⟩ := own_locG X49 N49
  refine Gl.st (g' := (mkF m 36 #[vR lb, vI (64 : Int32), vI (0 : Int32), vI (3 : Int32)] [(.int (-1 : Int32))])) (fun τ κ => st49 _ κ) ?_
  exact Gl.ret (v := some (.int (-1 : Int32))) X49 Bd.notSynchronized (fun h => by rw [Bd.returns] at h; cases h) e49 (fun fs hr => retI X49 hx Bd.returns (hb hby d11_36) hr) (by decide) (by decide) ⟨rfl, N49, rfl⟩
theorem ef_rm7_64 (m : MethodId) (la : Addr) : entryFrame m #[(.ref la), (.int (64 : Int32)), (.int (0 : Int32))] 3 = mkF m 0 #[vR la, vI (64 : Int32), vI (0 : Int32)] [] := by first | (simp [entryFrame, mkF, argsToLocals, Value.category]; done) | rfl
def Q_rm7_64 (Z : State) (la : Addr) (lb : Addr) (lk : ClassId) (cs : Int32) (h0 : Heap) (n0 : Nat) (v : Option Value) (h : Heap) (L : List Loc) : Prop := v = some (.int (-1 : Int32)) ∧ Fr n0 L ∧ h = h0
set_option maxRecDepth 65536 in
set_option maxHeartbeats 40000000 in
theorem rm7_64 (l : Launch) (Z : State) (a0 : Array Value) (hw : ∀ d ∈ tables_1, d.before a0 Z = true) (ws : List Jvm.Cond) (la : Addr) (lb : Addr) (lk : ClassId) (cs : Int32) (h0 : Heap) (n0 : Nat) (Z0 : n0 ≤ h0.size) (S0 : Sta Z h0 "java/lang/String" "COMPACT_STRINGS" "Z" (.int cs)) (hcs : ¬ cs = (0 : Int32)) (EL : Exa Z h0 la "java/lang/String") (FC : Fld Z h0 la "java/lang/String" "coder" "B" (.int (0 : Int32))) (FV : Fld Z h0 la "java/lang/String" "value" "[B" (.ref lb)) (VB : Arv Z h0 lb lk .byte (3 : Int32) [(.int (46 : Int32)), (.int (71 : Int32)), (.int (83 : Int32))] (.int (0 : Int32))) :
    MetFree l (⟨"java/lang/String", "indexOf", "(II)I"⟩ : MethodName) (head1 (Jvm.Cond.code (⟨"java/lang/String", "indexOf", "(II)I"⟩ : MethodName) jdk_42_method_80_code 3 (some .int) :: ws) ({ frames := 2, cells := 0, slots := 0, locals := 32 } : Room)) (fun aα Uα => aα = #[(.ref la), (.int (64 : Int32)), (.int (0 : Int32))] ∧ Z.Warmed39 Uα.vm ∧ Uα.heap = h0) (fun _ _ _ _ _ => True) (fun _ Uα oα Uβ => ∃ vα Lα, oα = .returned vα ∧ Q_rm7_64 Z la lb lk cs h0 n0 vα Uβ.heap Lα ∧ FrameEnd Uα oα Uβ Lα ({ frames := 2, cells := 0, slots := 0, locals := 32 } : Room).cells ({ frames := 2, cells := 0, slots := 0, locals := 32 } : Room).slots) := by
  refine MetFree.of_bodySF (plainFor_of_name pn_java_lang_String) hisR ?_
  intro p e s m args below meth c s₁ Bd hml0 hP hKα
  obtain ⟨rfl, hZ, hh⟩ := hP
  have hx := Bd.exec
  have hby := Bd.bytes
  have hml : c.maxLocals = 3 := hml0
  have hown : s.vm.findClass "java/lang/String" = some m.cls := findClass_of_methodNamed Bd.named
  have hnm := (name_of_methodNamed Bd.named Bd.method).1
  have X0 : Stand p l e ({ frames := 2, cells := 0, slots := 0, locals := 32 } : Room) s m #[(.ref la), (.int (64 : Int32)), (.int (0 : Int32))] below meth c s₁ [] 0 0 := Stand.of_body Bd
  have e0 : s₁.heap = h0 := by rw [← hh, Bd.state]; rfl
  have N0 := Fr.nil n0
  suffices k0 : Gl p e below s (Q_rm7_64 Z la lb lk cs h0 n0) ({ frames := 2, cells := 0, slots := 0, locals := 32 } : Room).cells ({ frames := 2, cells := 0, slots := 0, locals := 32 } : Room).slots s₁ (mkF m 0 #[vR la, vI (64 : Int32), vI (0 : Int32)] []) from Gl.st (fun τ κ => castTop (ef_rm7_64 m la) κ) k0
  refine Gl.st (g' := (mkF m 1 #[vR la, vI (64 : Int32), vI (0 : Int32)] [(.ref la)])) (fun τ κ => XS.aloadN X0.here hx rfl (hb hby d7_0) rfl rfl κ) ?_
  obtain ⟨cq50, kq50, q50a, q50b, q50c⟩ := isOf hZ e0 EL
  obtain ⟨rv50, _, ⟨T50, L50, k50, n50⟩, -, X50, ⟨Lc50, hQ50, l50, y50, z50⟩, st50⟩ := X0.virtualBack hx (y := (⟨"java/lang/String", "isLatin1", "()Z"⟩ : MethodName)) (z := (⟨"java/lang/String", "isLatin1", "()Z"⟩ : MethodName)) hown (mvT hZ (w45_ hw)) (mvT hZ (w46_ hw)) (notFace_of_selects (args := #[]) (mvT hZ (w48_ hw))) (mvT hZ (w48_ hw)) (mvT hZ (w47_ hw)) (by decide) (backOf (W := 0) (rm8 l Z a0 hw [] la lb lk cs h0 n0 Z0 S0 hcs EL FC FV VB) hZ (w49_ hw) (w29_ hw) (by decide) (by decide)) q50a q50c (g := (mkF m 1 #[vR la, vI (64 : Int32), vI (0 : Int32)] [(.ref la)])) rfl (by rw [hml]; rfl) (Steps.refl _) (argsL := []) (rest := []) (lenOf pd_4 rfl) rfl (by show 2 * 0 + _ ≤ _; exact Nat.le_of_eq rfl) (hb hby d7_1) (fun _ _ => ⟨rfl, e0, Nat.le_of_ble_eq_true rfl, Nat.le_of_ble_eq_true rfl⟩)
  dsimp only [Pt.U, Pt.locs, Pt.cells, Pt.slots] at X50 l50 y50 z50 st50 hQ50
  subst l50 y50 z50
  have X50 := X50.more (cells' := 0) (slots' := 0) (by decide) (by decide)
  obtain ⟨hq50, N50q, e50⟩ := hQ50
  have hq50 : rv50 = some (.int (1 : Int32)) := hq50
  subst hq50
  have N50 := Fr.app N0 N50q
  obtain ⟨Lw50, X50, N50⟩ := own_locG X50 N50
  refine Gl.st (g' := (mkF m 4 #[vR la, vI (64 : Int32), vI (0 : Int32)] [(.int (1 : Int32))])) (fun τ κ => st50.trans κ) ?_
  have hc51 : ¬ ((1 : Int32) = (0 : Int32)) := by decide
  refine Gl.st (g' := (mkF m 8 #[vR la, vI (64 : Int32), vI (0 : Int32)] [(.ref la)])) (fun τ κ => XS.ifNo X50.here hx rfl (hb hby d7_4) rfl ((if0 _ _).trans (feq hc51).1) (XS.aloadN X50.here hx rfl (hb hby d7_7) rfl rfl κ)) ?_
  obtain ⟨T52, X52, e52, st52⟩ := getF X50 hx hZ hown (host := "") (Or.inl (w52_ hw)) Via.refl e50 FV (g := (mkF m 8 #[vR la, vI (64 : Int32), vI (0 : Int32)] [(.ref la)])) rfl rfl (hb hby d7_8)
  refine Gl.st (g' := (mkF m 11 #[vR la, vI (64 : Int32), vI (0 : Int32)] [(.ref lb)])) (fun τ κ => st52 _ κ) ?_
  refine Gl.st (g' := (mkF m 13 #[vR la, vI (64 : Int32), vI (0 : Int32)] [(.int (0 : Int32)), (.int (64 : Int32)), (.ref lb)])) (fun τ κ => XS.iloadN X52.here hx rfl (hb hby d7_11) rfl (XS.iloadN X52.here hx rfl (hb hby d7_12) rfl κ)) ?_
  refine Gl.st (g' := (mkF m 14 #[vR la, vI (64 : Int32), vI (0 : Int32)] [(.ref la), (.int (0 : Int32)), (.int (64 : Int32)), (.ref lb)])) (fun τ κ => XS.aloadN X52.here hx rfl (hb hby d7_13) rfl rfl κ) ?_
  obtain ⟨cq53, kq53, q53a, q53b, q53c⟩ := isOf hZ e52 EL
  obtain ⟨rv53, _, ⟨T53, L53, k53, n53⟩, -, X53, ⟨Lc53, hQ53, l53, y53, z53⟩, st53⟩ := X52.virtualBack hx (y := (⟨"java/lang/String", "length", "()I"⟩ : MethodName)) (z := (⟨"java/lang/String", "length", "()I"⟩ : MethodName)) hown (mvT hZ (w53_ hw)) (mvT hZ (w54_ hw)) (notFace_of_selects (args := #[]) (mvT hZ (w56_ hw))) (mvT hZ (w56_ hw)) (mvT hZ (w55_ hw)) (by decide) (backOf (W := 3) (rm9 l Z a0 hw [] la lb lk cs h0 n0 Z0 S0 hcs EL FC FV VB) hZ (w57_ hw) (w29_ hw) (by decide) (by decide)) q53a q53c (g := (mkF m 14 #[vR la, vI (64 : Int32), vI (0 : Int32)] [(.ref la), (.int (0 : Int32)), (.int (64 : Int32)), (.ref lb)])) rfl (by rw [hml]; rfl) (Steps.refl _) (argsL := []) (rest := [(.int (0 : Int32)), (.int (64 : Int32)), (.ref lb)]) (lenOf pd_5 rfl) rfl (by show 2 * 0 + _ ≤ _; exact Nat.le_of_eq rfl) (hb hby d7_14) (fun _ _ => ⟨rfl, e52, Nat.le_of_ble_eq_true rfl, Nat.le_of_ble_eq_true rfl⟩)
  dsimp only [Pt.U, Pt.locs, Pt.cells, Pt.slots] at X53 l53 y53 z53 st53 hQ53
  subst l53 y53 z53
  have X53 := X53.more (cells' := 0) (slots' := 0) (by decide) (by decide)
  obtain ⟨hq53, N53q, e53⟩ := hQ53
  have hq53 : rv53 = some (.int (3 : Int32)) := hq53
  subst hq53
  have N53 := Fr.app N50 N53q
  obtain ⟨Lw53, X53, N53⟩ := own_locG X53 N53
  refine Gl.st (g' := (mkF m 17 #[vR la, vI (64 : Int32), vI (0 : Int32)] [(.int (3 : Int32)), (.int (0 : Int32)), (.int (64 : Int32)), (.ref lb)])) (fun τ κ => st53.trans κ) ?_
  obtain ⟨rv54, _, ⟨T54, L54, k54, n54⟩, -, X54, ⟨Lc54, hQ54, l54, y54, z54⟩, st54⟩ := Jvm.LawKit.callS X53 hx (y := (⟨"java/lang/StringLatin1", "indexOf", "([BIII)I"⟩ : MethodName)) hown (mvT hZ (w63_ hw)) (mvT hZ (w64_ hw)) (mvT hZ (w65_ hw)) (mvT hZ (w66_ hw)) (by decide) (backOf (W := 0) (rm11_64 l Z a0 hw [] lb lk h0 n0 Z0 VB) hZ (w66_ hw) (w65_ hw) (by decide) (by decide)) (g := (mkF m 17 #[vR la, vI (64 : Int32), vI (0 : Int32)] [(.int (3 : Int32)), (.int (0 : Int32)), (.int (64 : Int32)), (.ref lb)])) rfl (by rw [hml]; rfl) (argsL := [(.ref lb), (.int (64 : Int32)), (.int (0 : Int32)), (.int (3 : Int32))]) (rest := []) (lenOf pd_3 rfl) rfl (by show 2 * 0 + _ ≤ _; exact Nat.le_of_eq rfl) (hb hby d7_17) (fun _ _ => ⟨rfl, e53, Nat.le_of_ble_eq_true rfl, Nat.le_of_ble_eq_true rfl⟩)
  dsimp only [Pt.U, Pt.locs, Pt.cells, Pt.slots] at X54 l54 y54 z54 st54 hQ54
  subst l54 y54 z54
  have X54 := X54.more (cells' := 0) (slots' := 0) (by decide) (by decide)
  obtain ⟨hq54, N54q, e54⟩ := hQ54
  have hq54 : rv54 = some (.int (-1 : Int32)) := hq54
  subst hq54
  have N54 := Fr.app N53 N54q
  obtain ⟨Lw54, X54, N54⟩ := own_locG X54 N54
  refine Gl.st (g' := (mkF m 20 #[vR la, vI (64 : Int32), vI (0 : Int32)] [(.int (-1 : Int32))])) (fun τ κ => st54 _ κ) ?_
  refine Gl.st (g' := (mkF m 36 #[vR la, vI (64 : Int32), vI (0 : Int32)] [(.int (-1 : Int32))])) (fun τ κ => XS.goto X54.here hx rfl (pc0 := 20) (pc' := 36) rfl (hb hby d7_20) (by decide) (by decide) κ) ?_
  exact Gl.ret (v := some (.int (-1 : Int32))) X54 Bd.notSynchronized (fun h => by rw [Bd.returns] at h; cases h) e54 (fun fs hr => retI X54 hx Bd.returns (hb hby d7_36) hr) (by decide) (by decide) ⟨rfl, N54, rfl⟩
theorem ef_rm6_64 (m : MethodId) (la : Addr) : entryFrame m #[(.ref la), (.int (64 : Int32))] 2 = mkF m 0 #[vR la, vI (64 : Int32)] [] := by first | (simp [entryFrame, mkF, argsToLocals, Value.category]; done) | rfl
def Q_rm6_64 (Z : State) (la : Addr) (lb : Addr) (lk : ClassId) (cs : Int32) (h0 : Heap) (n0 : Nat) (v : Option Value) (h : Heap) (L : List Loc) : Prop := v = some (.int (-1 : Int32)) ∧ Fr n0 L ∧ h = h0
set_option maxRecDepth 65536 in
set_option maxHeartbeats 40000000 in
theorem rm6_64 (l : Launch) (Z : State) (a0 : Array Value) (hw : ∀ d ∈ tables_1, d.before a0 Z = true) (ws : List Jvm.Cond) (la : Addr) (lb : Addr) (lk : ClassId) (cs : Int32) (h0 : Heap) (n0 : Nat) (Z0 : n0 ≤ h0.size) (S0 : Sta Z h0 "java/lang/String" "COMPACT_STRINGS" "Z" (.int cs)) (hcs : ¬ cs = (0 : Int32)) (EL : Exa Z h0 la "java/lang/String") (FC : Fld Z h0 la "java/lang/String" "coder" "B" (.int (0 : Int32))) (FV : Fld Z h0 la "java/lang/String" "value" "[B" (.ref lb)) (VB : Arv Z h0 lb lk .byte (3 : Int32) [(.int (46 : Int32)), (.int (71 : Int32)), (.int (83 : Int32))] (.int (0 : Int32))) :
    MetFree l (⟨"java/lang/String", "indexOf", "(I)I"⟩ : MethodName) (head1 (Jvm.Cond.code (⟨"java/lang/String", "indexOf", "(I)I"⟩ : MethodName) jdk_42_method_79_code 2 (some .int) :: ws) ({ frames := 3, cells := 0, slots := 0, locals := 46 } : Room)) (fun aα Uα => aα = #[(.ref la), (.int (64 : Int32))] ∧ Z.Warmed39 Uα.vm ∧ Uα.heap = h0) (fun _ _ _ _ _ => True) (fun _ Uα oα Uβ => ∃ vα Lα, oα = .returned vα ∧ Q_rm6_64 Z la lb lk cs h0 n0 vα Uβ.heap Lα ∧ FrameEnd Uα oα Uβ Lα ({ frames := 3, cells := 0, slots := 0, locals := 46 } : Room).cells ({ frames := 3, cells := 0, slots := 0, locals := 46 } : Room).slots) := by
  refine MetFree.of_bodySF (plainFor_of_name pn_java_lang_String) hisR ?_
  intro p e s m args below meth c s₁ Bd hml0 hP hKα
  obtain ⟨rfl, hZ, hh⟩ := hP
  have hx := Bd.exec
  have hby := Bd.bytes
  have hml : c.maxLocals = 2 := hml0
  have hown : s.vm.findClass "java/lang/String" = some m.cls := findClass_of_methodNamed Bd.named
  have hnm := (name_of_methodNamed Bd.named Bd.method).1
  have X0 : Stand p l e ({ frames := 3, cells := 0, slots := 0, locals := 46 } : Room) s m #[(.ref la), (.int (64 : Int32))] below meth c s₁ [] 0 0 := Stand.of_body Bd
  have e0 : s₁.heap = h0 := by rw [← hh, Bd.state]; rfl
  have N0 := Fr.nil n0
  suffices k0 : Gl p e below s (Q_rm6_64 Z la lb lk cs h0 n0) ({ frames := 3, cells := 0, slots := 0, locals := 46 } : Room).cells ({ frames := 3, cells := 0, slots := 0, locals := 46 } : Room).slots s₁ (mkF m 0 #[vR la, vI (64 : Int32)] []) from Gl.st (fun τ κ => castTop (ef_rm6_64 m la) κ) k0
  refine Gl.st (g' := (mkF m 2 #[vR la, vI (64 : Int32)] [(.int (64 : Int32)), (.ref la)])) (fun τ κ => XS.aloadN X0.here hx rfl (hb hby d6_0) rfl rfl (XS.iloadN X0.here hx rfl (hb hby d6_1) rfl κ)) ?_
  refine Gl.st (g' := (mkF m 3 #[vR la, vI (64 : Int32)] [(.int (0 : Int32)), (.int (64 : Int32)), (.ref la)])) (fun τ κ => XS.iconst X0.here hx rfl (hb hby d6_2) κ) ?_
  obtain ⟨cq55, kq55, q55a, q55b, q55c⟩ := isOf hZ e0 EL
  obtain ⟨rv55, _, ⟨T55, L55, k55, n55⟩, -, X55, ⟨Lc55, hQ55, l55, y55, z55⟩, st55⟩ := X0.virtualBack hx (y := (⟨"java/lang/String", "indexOf", "(II)I"⟩ : MethodName)) (z := (⟨"java/lang/String", "indexOf", "(II)I"⟩ : MethodName)) hown (mvT hZ (w40_ hw)) (mvT hZ (w41_ hw)) (notFace_of_selects (args := #[]) (mvT hZ (w43_ hw))) (mvT hZ (w43_ hw)) (mvT hZ (w42_ hw)) (by decide) (backOf (W := 0) (rm7_64 l Z a0 hw [] la lb lk cs h0 n0 Z0 S0 hcs EL FC FV VB) hZ (w44_ hw) (w29_ hw) (by decide) (by decide)) q55a q55c (g := (mkF m 3 #[vR la, vI (64 : Int32)] [(.int (0 : Int32)), (.int (64 : Int32)), (.ref la)])) rfl (by rw [hml]; rfl) (Steps.refl _) (argsL := [(.int (64 : Int32)), (.int (0 : Int32))]) (rest := []) (lenOf pd_2 rfl) rfl (by show 2 * 0 + _ ≤ _; exact Nat.le_of_eq rfl) (hb hby d6_3) (fun _ _ => ⟨rfl, e0, Nat.le_of_ble_eq_true rfl, Nat.le_of_ble_eq_true rfl⟩)
  dsimp only [Pt.U, Pt.locs, Pt.cells, Pt.slots] at X55 l55 y55 z55 st55 hQ55
  subst l55 y55 z55
  have X55 := X55.more (cells' := 0) (slots' := 0) (by decide) (by decide)
  obtain ⟨hq55, N55q, e55⟩ := hQ55
  have hq55 : rv55 = some (.int (-1 : Int32)) := hq55
  subst hq55
  have N55 := Fr.app N0 N55q
  obtain ⟨Lw55, X55, N55⟩ := own_locG X55 N55
  refine Gl.st (g' := (mkF m 6 #[vR la, vI (64 : Int32)] [(.int (-1 : Int32))])) (fun τ κ => st55.trans κ) ?_
  exact Gl.ret (v := some (.int (-1 : Int32))) X55 Bd.notSynchronized (fun h => by rw [Bd.returns] at h; cases h) e55 (fun fs hr => retI X55 hx Bd.returns (hb hby d6_6) hr) (by decide) (by decide) ⟨rfl, N55, rfl⟩
theorem d5_0 : decode prog_30_method_13_code 0 = .ok (.ldc 120, 2) := by decide +kernel
theorem d5_2 : decode prog_30_method_13_code 2 = .ok (.iload_n 0, 1) := by decide +kernel
theorem d5_3 : decode prog_30_method_13_code 3 = .ok (.invokevirtual 116, 3) := by decide +kernel
theorem pd_6 : parseMethodDescriptor "(I)I" = some ⟨[.int], some .int⟩ := by decide +kernel
theorem d5_6 : decode prog_30_method_13_code 6 = .ok (.ifCond .lt 7, 3) := by decide +kernel
theorem d5_9 : decode prog_30_method_13_code 9 = .ok (.iconst 1, 1) := by decide +kernel
theorem d5_10 : decode prog_30_method_13_code 10 = .ok (.goto 4, 3) := by decide +kernel
theorem d5_14 : decode prog_30_method_13_code 14 = .ok (.ireturn, 1) := by decide +kernel
theorem d5_13 : decode prog_30_method_13_code 13 = .ok (.iconst 0, 1) := by decide +kernel
theorem pn_com_example_wanderpath_wanderpath_TileMap : plainName "com/example/wanderpath/wanderpath/TileMap" = true := by first | (simp [plainName, overriddenIn]; done) | decide +kernel
theorem ef_rm5_w (m : MethodId) (ch : Int32) : entryFrame m #[(.int ch)] 1 = mkF m 0 #[vI ch] [] := by first | (simp [entryFrame, mkF, argsToLocals, Value.category]; done) | rfl
def Q_rm5_w (Z : State) (ch : Int32) (la : Addr) (lb : Addr) (lk : ClassId) (cs : Int32) (h0 : Heap) (n0 : Nat) (v : Option Value) (h : Heap) (L : List Loc) : Prop := v = some (.int (own_pt ch)) ∧ Fr n0 L ∧ h = h0
set_option maxRecDepth 65536 in
set_option maxHeartbeats 40000000 in
theorem rm5_w (l : Launch) (Z : State) (a0 : Array Value) (hw : ∀ d ∈ tables_1, d.before a0 Z = true) (ws : List Jvm.Cond) (ch : Int32) (la : Addr) (lb : Addr) (lk : ClassId) (cs : Int32) (h0 : Heap) (n0 : Nat) (Z0 : n0 ≤ h0.size) (S0 : Sta Z h0 "java/lang/String" "COMPACT_STRINGS" "Z" (.int cs)) (hcs : ¬ cs = (0 : Int32)) (EL : Exa Z h0 la "java/lang/String") (FC : Fld Z h0 la "java/lang/String" "coder" "B" (.int (0 : Int32))) (FV : Fld Z h0 la "java/lang/String" "value" "[B" (.ref lb)) (VB : Arv Z h0 lb lk .byte (3 : Int32) [(.int (46 : Int32)), (.int (71 : Int32)), (.int (83 : Int32))] (.int (0 : Int32))) (hch : ch = 46 ∨ ch = 64) :
    MetFree l (⟨"com/example/wanderpath/wanderpath/TileMap", "isPassableTile", "(I)Z"⟩ : MethodName) (head1 (Jvm.Cond.code (⟨"com/example/wanderpath/wanderpath/TileMap", "isPassableTile", "(I)Z"⟩ : MethodName) prog_30_method_13_code 1 (some .boolean) :: ws) ({ frames := 4, cells := 0, slots := 0, locals := 59 } : Room)) (fun aα Uα => aα = #[(.int ch)] ∧ Z.Warmed39 Uα.vm ∧ Uα.heap = h0 ∧ Lit Uα "com/example/wanderpath/wanderpath/TileMap" 120 la) (fun _ _ _ _ _ => True) (fun _ Uα oα Uβ => ∃ vα Lα, oα = .returned vα ∧ Q_rm5_w Z ch la lb lk cs h0 n0 vα Uβ.heap Lα ∧ FrameEnd Uα oα Uβ Lα ({ frames := 4, cells := 0, slots := 0, locals := 59 } : Room).cells ({ frames := 4, cells := 0, slots := 0, locals := 59 } : Room).slots) := by
  refine MetFree.of_bodySF (plainFor_of_name pn_com_example_wanderpath_wanderpath_TileMap) hisR ?_
  intro p e s m args below meth c s₁ Bd hml0 hP hKα
  obtain ⟨rfl, hZ, hh, hL0⟩ := hP
  have hx := Bd.exec
  have hby := Bd.bytes
  have hml : c.maxLocals = 1 := hml0
  have hown : s.vm.findClass "com/example/wanderpath/wanderpath/TileMap" = some m.cls := findClass_of_methodNamed Bd.named
  have hnm := (name_of_methodNamed Bd.named Bd.method).1
  have X0 : Stand p l e ({ frames := 4, cells := 0, slots := 0, locals := 59 } : Room) s m #[(.int ch)] below meth c s₁ [] 0 0 := Stand.of_body Bd
  have e0 : s₁.heap = h0 := by rw [← hh, Bd.state]; rfl
  have N0 := Fr.nil n0
  suffices k0 : Gl p e below s (Q_rm5_w Z ch la lb lk cs h0 n0) ({ frames := 4, cells := 0, slots := 0, locals := 59 } : Room).cells ({ frames := 4, cells := 0, slots := 0, locals := 59 } : Room).slots s₁ (mkF m 0 #[vI ch] []) from Gl.st (fun τ κ => castTop (ef_rm5_w m ch) κ) k0
  rcases hch with rfl | rfl
  · -- 46
    refine Gl.st (g' := (mkF m 2 #[vI (46 : Int32)] [(.ref la)])) (fun τ κ => ldcR (Z := s) X0 hx (State.Warmed39.refl _) hown (refOfLit (args := #[]) (mvS hZ (w28_ hw)) hL0) hL0 (g := (mkF m 0 #[vI (46 : Int32)] [])) rfl (hb hby d5_0) _ κ) ?_
    refine Gl.st (g' := (mkF m 3 #[vI (46 : Int32)] [(.int (46 : Int32)), (.ref la)])) (fun τ κ => XS.iloadN X0.here hx rfl (hb hby d5_2) rfl κ) ?_
    obtain ⟨cq56, kq56, q56a, q56b, q56c⟩ := isOf hZ e0 EL
    obtain ⟨rv56, _, ⟨T56, L56, k56, n56⟩, -, X56, ⟨Lc56, hQ56, l56, y56, z56⟩, st56⟩ := X0.virtualBack hx (y := (⟨"java/lang/String", "indexOf", "(I)I"⟩ : MethodName)) (z := (⟨"java/lang/String", "indexOf", "(I)I"⟩ : MethodName)) hown (mvT hZ (w35_ hw)) (mvT hZ (w36_ hw)) (notFace_of_selects (args := #[]) (mvT hZ (w38_ hw))) (mvT hZ (w38_ hw)) (mvT hZ (w37_ hw)) (by decide) (backOf (W := 0) (rm6_46 l Z a0 hw [] la lb lk cs h0 n0 Z0 S0 hcs EL FC FV VB) hZ (w39_ hw) (w29_ hw) (by decide) (by decide)) q56a q56c (g := (mkF m 3 #[vI (46 : Int32)] [(.int (46 : Int32)), (.ref la)])) rfl (by rw [hml]; rfl) (Steps.refl _) (argsL := [(.int (46 : Int32))]) (rest := []) (lenOf pd_6 rfl) rfl (by show 2 * 0 + _ ≤ _; exact Nat.le_of_eq rfl) (hb hby d5_3) (fun _ _ => ⟨rfl, e0, Nat.le_of_ble_eq_true rfl, Nat.le_of_ble_eq_true rfl⟩)
    dsimp only [Pt.U, Pt.locs, Pt.cells, Pt.slots] at X56 l56 y56 z56 st56 hQ56
    subst l56 y56 z56
    have X56 := X56.more (cells' := 0) (slots' := 0) (by decide) (by decide)
    obtain ⟨hq56, N56q, e56⟩ := hQ56
    have hq56 : rv56 = some (.int (0 : Int32)) := hq56
    subst hq56
    have N56 := Fr.app N0 N56q
    obtain ⟨Lw56, X56, N56⟩ := own_locG X56 N56
    refine Gl.st (g' := (mkF m 6 #[vI (46 : Int32)] [(.int (0 : Int32))])) (fun τ κ => st56.trans κ) ?_
    have hc57 : ¬ ((0 : Int32) < (0 : Int32)) := by decide
    refine Gl.st (g' := (mkF m 10 #[vI (46 : Int32)] [(.int (1 : Int32))])) (fun τ κ => XS.ifNo X56.here hx rfl (hb hby d5_6) rfl ((if0 _ _).trans (flt hc57).1) (XS.iconst X56.here hx rfl (hb hby d5_9) κ)) ?_
    refine Gl.st (g' := (mkF m 14 #[vI (46 : Int32)] [(.int (1 : Int32))])) (fun τ κ => XS.goto X56.here hx rfl (pc0 := 10) (pc' := 14) rfl (hb hby d5_10) (by decide) (by decide) κ) ?_
    exact Gl.ret (v := some (.int (1 : Int32))) X56 Bd.notSynchronized (fun h => by rw [Bd.returns] at h; cases h) e56 (fun fs hr => retN X56 hx (t := .boolean) Bd.returns (by simp) (hb hby d5_14) hr) (by decide) (by decide) ⟨congrArg (fun t => some (Value.int t)) (by decide : (1 : Int32) = own_pt (46 : Int32)), N56, rfl⟩
  · -- 64
    refine Gl.st (g' := (mkF m 2 #[vI (64 : Int32)] [(.ref la)])) (fun τ κ => ldcR (Z := s) X0 hx (State.Warmed39.refl _) hown (refOfLit (args := #[]) (mvS hZ (w28_ hw)) hL0) hL0 (g := (mkF m 0 #[vI (64 : Int32)] [])) rfl (hb hby d5_0) _ κ) ?_
    refine Gl.st (g' := (mkF m 3 #[vI (64 : Int32)] [(.int (64 : Int32)), (.ref la)])) (fun τ κ => XS.iloadN X0.here hx rfl (hb hby d5_2) rfl κ) ?_
    obtain ⟨cq58, kq58, q58a, q58b, q58c⟩ := isOf hZ e0 EL
    obtain ⟨rv58, _, ⟨T58, L58, k58, n58⟩, -, X58, ⟨Lc58, hQ58, l58, y58, z58⟩, st58⟩ := X0.virtualBack hx (y := (⟨"java/lang/String", "indexOf", "(I)I"⟩ : MethodName)) (z := (⟨"java/lang/String", "indexOf", "(I)I"⟩ : MethodName)) hown (mvT hZ (w35_ hw)) (mvT hZ (w36_ hw)) (notFace_of_selects (args := #[]) (mvT hZ (w38_ hw))) (mvT hZ (w38_ hw)) (mvT hZ (w37_ hw)) (by decide) (backOf (W := 0) (rm6_64 l Z a0 hw [] la lb lk cs h0 n0 Z0 S0 hcs EL FC FV VB) hZ (w39_ hw) (w29_ hw) (by decide) (by decide)) q58a q58c (g := (mkF m 3 #[vI (64 : Int32)] [(.int (64 : Int32)), (.ref la)])) rfl (by rw [hml]; rfl) (Steps.refl _) (argsL := [(.int (64 : Int32))]) (rest := []) (lenOf pd_6 rfl) rfl (by show 2 * 0 + _ ≤ _; exact Nat.le_of_eq rfl) (hb hby d5_3) (fun _ _ => ⟨rfl, e0, Nat.le_of_ble_eq_true rfl, Nat.le_of_ble_eq_true rfl⟩)
    dsimp only [Pt.U, Pt.locs, Pt.cells, Pt.slots] at X58 l58 y58 z58 st58 hQ58
    subst l58 y58 z58
    have X58 := X58.more (cells' := 0) (slots' := 0) (by decide) (by decide)
    obtain ⟨hq58, N58q, e58⟩ := hQ58
    have hq58 : rv58 = some (.int (-1 : Int32)) := hq58
    subst hq58
    have N58 := Fr.app N0 N58q
    obtain ⟨Lw58, X58, N58⟩ := own_locG X58 N58
    refine Gl.st (g' := (mkF m 6 #[vI (64 : Int32)] [(.int (-1 : Int32))])) (fun τ κ => st58.trans κ) ?_
    have hc59 : (-1 : Int32) < (0 : Int32) := by decide
    refine Gl.st (g' := (mkF m 14 #[vI (64 : Int32)] [(.int (0 : Int32))])) (fun τ κ => XS.ifYes X58.here hx rfl (pc0 := 6) (pc' := 13) rfl (hb hby d5_6) rfl ((if0 _ _).trans (tlt hc59).1) (by decide) (by decide) (XS.iconst X58.here hx rfl (hb hby d5_13) κ)) ?_
    exact Gl.ret (v := some (.int (0 : Int32))) X58 Bd.notSynchronized (fun h => by rw [Bd.returns] at h; cases h) e58 (fun fs hr => retN X58 hx (t := .boolean) Bd.returns (by simp) (hb hby d5_14) hr) (by decide) (by decide) ⟨congrArg (fun t => some (Value.int t)) (by decide : (0 : Int32) = own_pt (64 : Int32)), N58, rfl⟩
theorem ef_rm5_c (m : MethodId) (ch : Int32) : entryFrame m #[(.int ch)] 1 = mkF m 0 #[vI ch] [] := by first | (simp [entryFrame, mkF, argsToLocals, Value.category]; done) | rfl
def Q_rm5_c (Z : State) (ch : Int32) (xa : Addr) (cs : Int32) (h0 : Heap) (n0 : Nat) (v : Option Value) (h : Heap) (L : List Loc) : Prop := v = some (.int (own_pt ch)) ∧ Fr n0 L ∧ Keep h0 h []
set_option maxRecDepth 65536 in
set_option maxHeartbeats 40000000 in
theorem rm5_c (l : Launch) (Z : State) (a0 : Array Value) (hw : ∀ d ∈ tables_1, d.before a0 Z = true) (ws : List Jvm.Cond) (ch : Int32) (xa : Addr) (cs : Int32) (h0 : Heap) (n0 : Nat) (Z0 : n0 ≤ h0.size) (S0 : Sta Z h0 "java/lang/String" "COMPACT_STRINGS" "Z" (.int cs)) (hcs : ¬ cs = (0 : Int32)) (Ea : Exa Z h0 xa "com/example/wanderpath/wanderpath/TileMap") (hch : ch = 46 ∨ ch = 64) :
    MetFree l (⟨"com/example/wanderpath/wanderpath/TileMap", "isPassableTile", "(I)Z"⟩ : MethodName) (head1 (Jvm.Cond.code (⟨"com/example/wanderpath/wanderpath/TileMap", "isPassableTile", "(I)Z"⟩ : MethodName) prog_30_method_13_code 1 (some .boolean) :: ws) ({ frames := 4, cells := 2, slots := 16, locals := 59 } : Room)) (fun aα Uα => aα = #[(.int ch)] ∧ Z.Warmed39 Uα.vm ∧ Uα.heap = h0 ∧ CHv Z own_EL Uα.vm h0 ∧ ∀ x ∈ ([xa] : List Addr), Safe Z own_EL Uα.vm h0 x) (fun _ _ _ _ _ => True) (fun _ Uα oα Uβ => ∃ vα Lα, oα = .returned vα ∧ Q_rm5_c Z ch xa cs h0 n0 vα Uβ.heap Lα ∧ own_LX Z [xa] Uβ.vm Uβ.heap ∧ ReturnedEndW Uα oα Uβ Lα ({ frames := 4, cells := 2, slots := 16, locals := 59 } : Room).cells ({ frames := 4, cells := 2, slots := 16, locals := 59 } : Room).slots) := by
  refine MetFree.of_bodySF (plainFor_of_name pn_com_example_wanderpath_wanderpath_TileMap) hisR ?_
  intro p e s m args below meth c s₁ Bd hml0 hP hKα
  obtain ⟨rfl, hZ, hh, hCH0, hsf0⟩ := hP
  have hx := Bd.exec
  have hby := Bd.bytes
  have hml : c.maxLocals = 1 := hml0
  have hown : s.vm.findClass "com/example/wanderpath/wanderpath/TileMap" = some m.cls := findClass_of_methodNamed Bd.named
  have hnm := (name_of_methodNamed Bd.named Bd.method).1
  have hZ : Z.Warmed39 (s.setVm s.vm).vm := hZ
  have hown : (s.setVm s.vm).vm.findClass "com/example/wanderpath/wanderpath/TileMap" = some m.cls := hown
  have hS0 : s.Since s.vm 0 := (State.WarmedH.refl s).since 0
  have X0 : Stand p l e ({ frames := 4, cells := 2, slots := 16, locals := 59 } : Room) (s.setVm s.vm) m #[(.int ch)] below meth c s₁ [] 0 0 := Stand.of_body Bd
  have e0 : s₁.heap = h0 := by rw [← hh, Bd.state]; rfl
  have N0 := Fr.nil n0
  have Y0_xa := hsf0 xa (by simp)
  suffices k0 : GlX p e below s (Q_rm5_c Z ch xa cs h0 n0) (own_LX Z [xa]) ({ frames := 4, cells := 2, slots := 16, locals := 59 } : Room).cells ({ frames := 4, cells := 2, slots := 16, locals := 59 } : Room).slots s₁ (mkF m 0 #[vI ch] []) from GlX.st (fun τ κ => castTop (ef_rm5_c m ch) κ) k0
  rcases hch with rfl | rfl
  · -- 46
    obtain ⟨a60, T60, h60, ks60, b60, kk60, X60, e60, E60, hS60, hk60, hZ60, hown60, Ex60, FC60, FV60, V60, la60, lb60, C60, Lt60, ns60, st60⟩ := ldcCH (s := s) (vm0 := s.vm) X0 hx hZ hown (w28_ hw) (own_strA hw) e0 hS0 (Nat.zero_le _) (own_EW hw) (by decide) hCH0 (vs := [(.int (46 : Int32)), (.int (71 : Int32)), (.int (83 : Int32))]) (z := (3 : Int32)) ⟨by decide, by decide⟩ (by decide) (by decide) (g := (mkF m 0 #[vI (46 : Int32)] [])) rfl (hb hby d5_0) (n := 12) (by decide) (by decide) (by decide) (by decide)
    have Y60_xa := C60.safe Ea.lt Y0_xa
    have CH60 := C60.1
    have ny60_xa := ns60 xa Y60_xa
    have S_61 := S0.ext E60
    have E_62 := Ea.ext E60
    have Z60 : n0 ≤ h60.size := Nat.le_trans Z0 E60.1
    have K60 : Keep h0 h60 [] := (Keep.refl h0 []).ext E60
    refine GlX.st (g' := (mkF m 2 #[vI (46 : Int32)] [(.ref a60)])) (fun τ κ => st60 _ κ) ?_
    refine GlX.st (g' := (mkF m 3 #[vI (46 : Int32)] [(.int (46 : Int32)), (.ref a60)])) (fun τ κ => XS.iloadN X60.here hx rfl (hb hby d5_2) rfl κ) ?_
    obtain ⟨cq63, kq63, q63a, q63b, q63c⟩ := isOf hZ60 e60 Ex60
    obtain ⟨rv63, _, ⟨T63, L63, k63, n63⟩, -, X63, ⟨Lc63, hQ63, l63, y63, z63⟩, st63⟩ := X60.virtualBack hx (y := (⟨"java/lang/String", "indexOf", "(I)I"⟩ : MethodName)) (z := (⟨"java/lang/String", "indexOf", "(I)I"⟩ : MethodName)) hown60 (mvT hZ60 (w35_ hw)) (mvT hZ60 (w36_ hw)) (notFace_of_selects (args := #[]) (mvT hZ60 (w38_ hw))) (mvT hZ60 (w38_ hw)) (mvT hZ60 (w37_ hw)) (by decide) (backOf (W := 0) (rm6_46 l Z a0 hw [] a60 b60 kk60 cs h60 n0 Z60 S_61 hcs Ex60 FC60 FV60 V60) hZ60 (w39_ hw) (w29_ hw) (by decide) (by decide)) q63a q63c (g := (mkF m 3 #[vI (46 : Int32)] [(.int (46 : Int32)), (.ref a60)])) rfl (by rw [hml]; rfl) (Steps.refl _) (argsL := [(.int (46 : Int32))]) (rest := []) (lenOf pd_6 rfl) rfl (by show 2 * 0 + _ ≤ _; exact Nat.le_of_eq rfl) (hb hby d5_3) (fun _ _ => ⟨rfl, e60, Nat.le_of_ble_eq_true rfl, Nat.le_of_ble_eq_true rfl⟩)
    dsimp only [Pt.U, Pt.locs, Pt.cells, Pt.slots] at X63 l63 y63 z63 st63 hQ63
    subst l63 y63 z63
    have X63 := X63.more (cells' := 2) (slots' := 16) (by decide) (by decide)
    obtain ⟨hq63, N63q, e63⟩ := hQ63
    have hq63 : rv63 = some (.int (0 : Int32)) := hq63
    subst hq63
    have N63 := Fr.app N0 N63q
    obtain ⟨Lw63, X63, N63⟩ := own_locG X63 N63
    refine GlX.st (g' := (mkF m 6 #[vI (46 : Int32)] [(.int (0 : Int32))])) (fun τ κ => st63.trans κ) ?_
    have hc64 : ¬ ((0 : Int32) < (0 : Int32)) := by decide
    refine GlX.st (g' := (mkF m 10 #[vI (46 : Int32)] [(.int (1 : Int32))])) (fun τ κ => XS.ifNo X63.here hx rfl (hb hby d5_6) rfl ((if0 _ _).trans (flt hc64).1) (XS.iconst X63.here hx rfl (hb hby d5_9) κ)) ?_
    refine GlX.st (g' := (mkF m 14 #[vI (46 : Int32)] [(.int (1 : Int32))])) (fun τ κ => XS.goto X63.here hx rfl (pc0 := 10) (pc' := 14) rfl (hb hby d5_10) (by decide) (by decide) κ) ?_
    exact GlX.ret hS60 hk60 (v := some (.int (1 : Int32))) X63 Bd.notSynchronized (fun h => by rw [Bd.returns] at h; cases h) e63 (fun fs hr => retN X63 hx (t := .boolean) Bd.returns (by simp) (hb hby d5_14) hr) (by decide) (by decide) ⟨congrArg (fun t => some (Value.int t)) (by decide : (1 : Int32) = own_pt (46 : Int32)), N63, K60⟩ ⟨a60, b60, kk60, Lit.stays Lt60 X63.warmed.wide, Ex60, FC60, FV60, V60, fun x hx => by rcases List.mem_singleton.mp hx with rfl; exact ⟨ny60_xa.1, ny60_xa.2⟩⟩
  · -- 64
    obtain ⟨a65, T65, h65, ks65, b65, kk65, X65, e65, E65, hS65, hk65, hZ65, hown65, Ex65, FC65, FV65, V65, la65, lb65, C65, Lt65, ns65, st65⟩ := ldcCH (s := s) (vm0 := s.vm) X0 hx hZ hown (w28_ hw) (own_strA hw) e0 hS0 (Nat.zero_le _) (own_EW hw) (by decide) hCH0 (vs := [(.int (46 : Int32)), (.int (71 : Int32)), (.int (83 : Int32))]) (z := (3 : Int32)) ⟨by decide, by decide⟩ (by decide) (by decide) (g := (mkF m 0 #[vI (64 : Int32)] [])) rfl (hb hby d5_0) (n := 12) (by decide) (by decide) (by decide) (by decide)
    have Y65_xa := C65.safe Ea.lt Y0_xa
    have CH65 := C65.1
    have ny65_xa := ns65 xa Y65_xa
    have S_66 := S0.ext E65
    have E_67 := Ea.ext E65
    have Z65 : n0 ≤ h65.size := Nat.le_trans Z0 E65.1
    have K65 : Keep h0 h65 [] := (Keep.refl h0 []).ext E65
    refine GlX.st (g' := (mkF m 2 #[vI (64 : Int32)] [(.ref a65)])) (fun τ κ => st65 _ κ) ?_
    refine GlX.st (g' := (mkF m 3 #[vI (64 : Int32)] [(.int (64 : Int32)), (.ref a65)])) (fun τ κ => XS.iloadN X65.here hx rfl (hb hby d5_2) rfl κ) ?_
    obtain ⟨cq68, kq68, q68a, q68b, q68c⟩ := isOf hZ65 e65 Ex65
    obtain ⟨rv68, _, ⟨T68, L68, k68, n68⟩, -, X68, ⟨Lc68, hQ68, l68, y68, z68⟩, st68⟩ := X65.virtualBack hx (y := (⟨"java/lang/String", "indexOf", "(I)I"⟩ : MethodName)) (z := (⟨"java/lang/String", "indexOf", "(I)I"⟩ : MethodName)) hown65 (mvT hZ65 (w35_ hw)) (mvT hZ65 (w36_ hw)) (notFace_of_selects (args := #[]) (mvT hZ65 (w38_ hw))) (mvT hZ65 (w38_ hw)) (mvT hZ65 (w37_ hw)) (by decide) (backOf (W := 0) (rm6_64 l Z a0 hw [] a65 b65 kk65 cs h65 n0 Z65 S_66 hcs Ex65 FC65 FV65 V65) hZ65 (w39_ hw) (w29_ hw) (by decide) (by decide)) q68a q68c (g := (mkF m 3 #[vI (64 : Int32)] [(.int (64 : Int32)), (.ref a65)])) rfl (by rw [hml]; rfl) (Steps.refl _) (argsL := [(.int (64 : Int32))]) (rest := []) (lenOf pd_6 rfl) rfl (by show 2 * 0 + _ ≤ _; exact Nat.le_of_eq rfl) (hb hby d5_3) (fun _ _ => ⟨rfl, e65, Nat.le_of_ble_eq_true rfl, Nat.le_of_ble_eq_true rfl⟩)
    dsimp only [Pt.U, Pt.locs, Pt.cells, Pt.slots] at X68 l68 y68 z68 st68 hQ68
    subst l68 y68 z68
    have X68 := X68.more (cells' := 2) (slots' := 16) (by decide) (by decide)
    obtain ⟨hq68, N68q, e68⟩ := hQ68
    have hq68 : rv68 = some (.int (-1 : Int32)) := hq68
    subst hq68
    have N68 := Fr.app N0 N68q
    obtain ⟨Lw68, X68, N68⟩ := own_locG X68 N68
    refine GlX.st (g' := (mkF m 6 #[vI (64 : Int32)] [(.int (-1 : Int32))])) (fun τ κ => st68.trans κ) ?_
    have hc69 : (-1 : Int32) < (0 : Int32) := by decide
    refine GlX.st (g' := (mkF m 14 #[vI (64 : Int32)] [(.int (0 : Int32))])) (fun τ κ => XS.ifYes X68.here hx rfl (pc0 := 6) (pc' := 13) rfl (hb hby d5_6) rfl ((if0 _ _).trans (tlt hc69).1) (by decide) (by decide) (XS.iconst X68.here hx rfl (hb hby d5_13) κ)) ?_
    exact GlX.ret hS65 hk65 (v := some (.int (0 : Int32))) X68 Bd.notSynchronized (fun h => by rw [Bd.returns] at h; cases h) e68 (fun fs hr => retN X68 hx (t := .boolean) Bd.returns (by simp) (hb hby d5_14) hr) (by decide) (by decide) ⟨congrArg (fun t => some (Value.int t)) (by decide : (0 : Int32) = own_pt (64 : Int32)), N68, K65⟩ ⟨a65, b65, kk65, Lit.stays Lt65 X68.warmed.wide, Ex65, FC65, FV65, V65, fun x hx => by rcases List.mem_singleton.mp hx with rfl; exact ⟨ny65_xa.1, ny65_xa.2⟩⟩
theorem own_j1 {j : Int32} {n : Nat} (h : j.toInt + ((n + 1 : Nat) : Int) = 9) (h0 : 0 ≤ j.toInt) : (j + 1).toInt + (n : Int) = 9 ∧ 0 ≤ (j + 1).toInt := by
  have q := c_iadd j 1
  have b1 := Int32.le_toInt (j + 1); have b2 := Int32.toInt_lt (j + 1)
  rw [show (1 : Int32).toInt = 1 from rfl] at q
  omega
theorem own_jl {j : Int32} {n : Nat} (h : j.toInt + ((n + 1 : Nat) : Int) = 9) (h0 : 0 ≤ j.toInt) : ¬ j < 0 ∧ j < 9 := by
  rw [Int32.lt_iff_toInt_lt, Int32.lt_iff_toInt_lt, show (0 : Int32).toInt = 0 from rfl, show (9 : Int32).toInt = 9 from rfl]; omega
theorem own_je {j : Int32} (h : j.toInt + ((0 : Nat) : Int) = 9) : ¬ j < 9 := by
  rw [Int32.lt_iff_toInt_lt, show (9 : Int32).toInt = 9 from rfl]; omega
theorem d3_58 : decode prog_30_method_1_code 58 = .ok (.iload 7, 2) := by decide +kernel
theorem d3_60 : decode prog_30_method_1_code 60 = .ok (.iload 6, 2) := by decide +kernel
theorem d3_62 : decode prog_30_method_1_code 62 = .ok (.if_icmp .ge 27, 3) := by decide +kernel
theorem d3_65 : decode prog_30_method_1_code 65 = .ok (.aload 5, 2) := by decide +kernel
theorem d3_67 : decode prog_30_method_1_code 67 = .ok (.iload 7, 2) := by decide +kernel
theorem d3_69 : decode prog_30_method_1_code 69 = .ok (.baload, 1) := by decide +kernel
theorem d3_70 : decode prog_30_method_1_code 70 = .ok (.istore 8, 2) := by decide +kernel
theorem d3_72 : decode prog_30_method_1_code 72 = .ok (.iload 8, 2) := by decide +kernel
theorem d3_74 : decode prog_30_method_1_code 74 = .ok (.invokestatic 29, 3) := by decide +kernel
theorem d3_77 : decode prog_30_method_1_code 77 = .ok (.ifCond .eq 6, 3) := by decide +kernel
theorem d3_83 : decode prog_30_method_1_code 83 = .ok (.iinc 7 1, 3) := by decide +kernel
theorem d3_86 : decode prog_30_method_1_code 86 = .ok (.goto (-28), 3) := by decide +kernel
theorem d3_80 : decode prog_30_method_1_code 80 = .ok (.iinc 4 1, 3) := by decide +kernel
set_option maxRecDepth 65536 in
set_option maxHeartbeats 40000000 in
theorem own_lp {EXX : Vm → Heap → Prop} {vmx : Vm} {p : Program} {l : Launch} {e : Env} {s : State} {m : MethodId} {args : Array Value} {below : List Frame} {meth : Method} {c : Code} {Z : State} {a0 : Array Value} {QQ : Option Value → Heap → List Loc → Prop} {CC NN : Nat} (hx : p.tables.exec = Jvm.exec) (hZ : Z.Warmed39 (s.setVm vmx).vm) (hw : ∀ d ∈ tables_1, d.before a0 Z = true) (hby : c.code = prog_30_method_1_code) (hml : c.maxLocals = 9) (hown : (s.setVm vmx).vm.findClass "com/example/wanderpath/wanderpath/TileMap" = some m.cls) {a tb la lb : Addr} {kt lk : ClassId} {tv cs : Int32} {vt : List Value} {n0 : Nat} {h1 : Heap} (Z0 : n0 ≤ h1.size) (S0 : Sta Z h1 "java/lang/String" "COMPACT_STRINGS" "Z" (.int cs)) (hcs : ¬ cs = (0 : Int32)) (EL : Exa Z h1 la "java/lang/String") (FC : Fld Z h1 la "java/lang/String" "coder" "B" (.int (0 : Int32))) (FV : Fld Z h1 la "java/lang/String" "value" "[B" (.ref lb)) (VB : Arv Z h1 lb lk .byte (3 : Int32) [(.int (46 : Int32)), (.int (71 : Int32)), (.int (83 : Int32))] (.int (0 : Int32))) (Vt : Arv Z h1 tb kt .byte (9 : Int32) vt (.int (0 : Int32))) (HT : ∀ i, ¬ i < 0 → i < (9 : Int32) → vt.getD i.toNatClampNeg (.int (0 : Int32)) = .int (own_tile tv i)) (hL0 : Lit (s.setVm vmx) "com/example/wanderpath/wanderpath/TileMap" 120 la)
    (cont : ∀ (T' : State) (locs' : List Loc) (cnt j : Int32) (t8 : Int32), Stand p l e ({ frames := 5, cells := 2, slots := 16, locals := 71 } : Room) (s.setVm vmx) m args below meth c T' locs' 2 16 → T'.heap = h1 → Fr n0 locs' → GlX p e below s QQ EXX CC NN T' (mkF m 89 #[vR a, vI (3 : Int32), vI (3 : Int32), vR tb, vI cnt, vR tb, vI (9 : Int32), vI j, vI t8] [])) :
    ∀ (n : Nat) (j cnt : Int32) (t8 : Int32) (T0 : State) (locs : List Loc), j.toInt + (n : Int) = 9 → 0 ≤ j.toInt → Stand p l e ({ frames := 5, cells := 2, slots := 16, locals := 71 } : Room) (s.setVm vmx) m args below meth c T0 locs 2 16 → T0.heap = h1 → Fr n0 locs → GlX p e below s QQ EXX CC NN T0 (mkF m 58 #[vR a, vI (3 : Int32), vI (3 : Int32), vR tb, vI cnt, vR tb, vI (9 : Int32), vI j, vI t8] []) := by
  intro n
  induction n with
  | zero =>
    intro j cnt t8 T0 locs hj hj0 X0 e1 N0
    refine GlX.st (g' := (mkF m 62 #[vR a, vI (3 : Int32), vI (3 : Int32), vR tb, vI cnt, vR tb, vI (9 : Int32), vI j, vI t8] [(.int (9 : Int32)), (.int j)])) (fun τ κ => XS.iload X0.here hx rfl (hb hby d3_58) rfl (XS.iload X0.here hx rfl (hb hby d3_60) rfl κ)) ?_
    have hc70 : ¬ (j < (9 : Int32)) := own_je hj
    refine GlX.st (g' := (mkF m 89 #[vR a, vI (3 : Int32), vI (3 : Int32), vR tb, vI cnt, vR tb, vI (9 : Int32), vI j, vI t8] [])) (fun τ κ => XS.icmpYes X0.here hx rfl (pc0 := 62) (pc' := 89) rfl (hb hby d3_62) rfl (flt hc70).2.1 (by decide) (by decide) κ) ?_
    exact cont T0 _ _ _ _ X0 e1 N0
  | succ n ih =>
    intro j cnt t8 T0 locs hj hj0 X0 e1 N0
    refine GlX.st (g' := (mkF m 62 #[vR a, vI (3 : Int32), vI (3 : Int32), vR tb, vI cnt, vR tb, vI (9 : Int32), vI j, vI t8] [(.int (9 : Int32)), (.int j)])) (fun τ κ => XS.iload X0.here hx rfl (hb hby d3_58) rfl (XS.iload X0.here hx rfl (hb hby d3_60) rfl κ)) ?_
    have hc71 : j < (9 : Int32) := (own_jl hj hj0).2
    refine GlX.st (g' := (mkF m 67 #[vR a, vI (3 : Int32), vI (3 : Int32), vR tb, vI cnt, vR tb, vI (9 : Int32), vI j, vI t8] [(.ref tb)])) (fun τ κ => XS.icmpNo X0.here hx rfl (hb hby d3_62) rfl (tlt hc71).2.1 (XS.aload X0.here hx rfl (hb hby d3_65) rfl rfl κ)) ?_
    refine GlX.st (g' := (mkF m 69 #[vR a, vI (3 : Int32), vI (3 : Int32), vR tb, vI cnt, vR tb, vI (9 : Int32), vI j, vI t8] [(.int j), (.ref tb)])) (fun τ κ => XS.iload X0.here hx rfl (hb hby d3_67) rfl κ) ?_
    obtain ⟨cl_o72, Ar_o72, q_o72, S_o72, M_o72, H_o72, G_o72⟩ := id Vt
    have hin_o72 : ¬ (j < 0 ∨ cl_o72.slots.size ≤ (j).toNatClampNeg) := inb_of S_o72 (own_jl hj hj0)
    refine GlX.st (g' := (mkF m 70 #[vR a, vI (3 : Int32), vI (3 : Int32), vR tb, vI cnt, vR tb, vI (9 : Int32), vI j, vI t8] [(.int (own_tile tv j))])) (fun τ κ => X0.baloadBytes hx (j := j) (v := (.int (own_tile tv j))) (by rw [e1]; exact Ar_o72.1) (State.isArrayOf_alike hZ.alike Ar_o72.2.1) Ar_o72.2.2 hin_o72 ((H_o72 _ (Nat.lt_of_not_le fun q => hin_o72 (Or.inr q))).trans (congrArg some (HT j (own_jl hj hj0).1 (own_jl hj hj0).2))) (g := (mkF m 69 #[vR a, vI (3 : Int32), vI (3 : Int32), vR tb, vI cnt, vR tb, vI (9 : Int32), vI j, vI t8] [(.int j), (.ref tb)])) rfl rfl (hb hby d3_69) _ κ) ?_
    refine GlX.st (g' := (mkF m 74 #[vR a, vI (3 : Int32), vI (3 : Int32), vR tb, vI cnt, vR tb, vI (9 : Int32), vI j, vI (own_tile tv j)] [(.int (own_tile tv j))])) (fun τ κ => XS.istore X0.here hx rfl (hb hby d3_70) rfl (l' := #[vR a, vI (3 : Int32), vI (3 : Int32), vR tb, vI cnt, vR tb, vI (9 : Int32), vI j, vI (own_tile tv j)]) rfl (XS.iload X0.here hx rfl (hb hby d3_72) rfl κ)) ?_
    obtain ⟨rv73, _, ⟨T73, L73, k73, n73⟩, -, X73, ⟨Lc73, hQ73, l73, y73, z73⟩, st73⟩ := Jvm.LawKit.callS X0 hx (y := (⟨"com/example/wanderpath/wanderpath/TileMap", "isPassableTile", "(I)Z"⟩ : MethodName)) hown (mvT hZ (w25_ hw)) (mvT hZ (w26_ hw)) (mvT hZ (w12_ hw)) (mvT hZ (w27_ hw)) (by decide) (backOfL (W := 0) (rm5_w l Z a0 hw [] (own_tile tv j) la lb lk cs h1 n0 Z0 S0 hcs EL FC FV VB (own_t46 _ _)) hZ (w27_ hw) (w12_ hw) (by decide) (by decide) hL0) (g := (mkF m 74 #[vR a, vI (3 : Int32), vI (3 : Int32), vR tb, vI cnt, vR tb, vI (9 : Int32), vI j, vI (own_tile tv j)] [(.int (own_tile tv j))])) rfl (by rw [hml]; rfl) (argsL := [(.int (own_tile tv j))]) (rest := []) (lenOf pd_1 rfl) rfl (by show 2 * 0 + _ ≤ _; exact Nat.le_of_eq rfl) (hb hby d3_74) (fun _ _ => ⟨rfl, e1, Nat.le_of_ble_eq_true rfl, Nat.le_of_ble_eq_true rfl⟩)
    dsimp only [Pt.U, Pt.locs, Pt.cells, Pt.slots] at X73 l73 y73 z73 st73 hQ73
    subst l73 y73 z73
    have X73 := X73.more (cells' := 2) (slots' := 16) (by decide) (by decide)
    obtain ⟨hq73, N73q, e73⟩ := hQ73
    have hq73 : rv73 = some (.int (own_pt (own_tile tv j))) := hq73
    subst hq73
    have N73 := Fr.app N0 N73q
    obtain ⟨Lw73, X73, N73⟩ := own_locG X73 N73
    refine GlX.st (g' := (mkF m 77 #[vR a, vI (3 : Int32), vI (3 : Int32), vR tb, vI cnt, vR tb, vI (9 : Int32), vI j, vI (own_tile tv j)] [(.int (own_pt (own_tile tv j)))])) (fun τ κ => st73 _ κ) ?_
    by_cases hc74 : (own_pt (own_tile tv j)) = (0 : Int32)
    · -- pc 77: (own_pt (own_tile tv j)) = (0 : Int32)
      refine GlX.st (g' := (mkF m 86 #[vR a, vI (3 : Int32), vI (3 : Int32), vR tb, vI cnt, vR tb, vI (9 : Int32), vI (j + (1 : Int32)), vI (own_tile tv j)] [])) (fun τ κ => XS.ifYes X73.here hx rfl (pc0 := 77) (pc' := 83) rfl (hb hby d3_77) rfl ((if0 _ _).trans (teq hc74).1) (by decide) (by decide) (XS.iinc X73.here hx rfl (hb hby d3_83) rfl (l' := #[vR a, vI (3 : Int32), vI (3 : Int32), vR tb, vI cnt, vR tb, vI (9 : Int32), vI (j + (1 : Int32)), vI (own_tile tv j)]) rfl κ)) ?_
      refine GlX.st (g' := (mkF m 58 #[vR a, vI (3 : Int32), vI (3 : Int32), vR tb, vI cnt, vR tb, vI (9 : Int32), vI (j + (1 : Int32)), vI (own_tile tv j)] [])) (fun τ κ => XS.goto X73.here hx rfl (pc0 := 86) (pc' := 58) rfl (hb hby d3_86) (by decide) (by decide) κ) ?_
      exact ih _ _ _ _ _ (own_j1 hj hj0).1 (own_j1 hj hj0).2 X73 e73 N73
    · -- pc 77: not (own_pt (own_tile tv j)) = (0 : Int32)
      refine GlX.st (g' := (mkF m 83 #[vR a, vI (3 : Int32), vI (3 : Int32), vR tb, vI (cnt + (1 : Int32)), vR tb, vI (9 : Int32), vI j, vI (own_tile tv j)] [])) (fun τ κ => XS.ifNo X73.here hx rfl (hb hby d3_77) rfl ((if0 _ _).trans (feq hc74).1) (XS.iinc X73.here hx rfl (hb hby d3_80) rfl (l' := #[vR a, vI (3 : Int32), vI (3 : Int32), vR tb, vI (cnt + (1 : Int32)), vR tb, vI (9 : Int32), vI j, vI (own_tile tv j)]) rfl κ)) ?_
      refine GlX.st (g' := (mkF m 58 #[vR a, vI (3 : Int32), vI (3 : Int32), vR tb, vI (cnt + (1 : Int32)), vR tb, vI (9 : Int32), vI (j + (1 : Int32)), vI (own_tile tv j)] [])) (fun τ κ => XS.iinc X73.here hx rfl (hb hby d3_83) rfl (l' := #[vR a, vI (3 : Int32), vI (3 : Int32), vR tb, vI (cnt + (1 : Int32)), vR tb, vI (9 : Int32), vI (j + (1 : Int32)), vI (own_tile tv j)]) rfl (XS.goto X73.here hx rfl (pc0 := 86) (pc' := 58) rfl (hb hby d3_86) (by decide) (by decide) κ)) ?_
      exact ih _ _ _ _ _ (own_j1 hj hj0).1 (own_j1 hj hj0).2 X73 e73 N73
theorem d3_0 : decode prog_30_method_1_code 0 = .ok (.aload_n 0, 1) := by decide +kernel
theorem d3_1 : decode prog_30_method_1_code 1 = .ok (.invokespecial 1, 3) := by decide +kernel
theorem d3_4 : decode prog_30_method_1_code 4 = .ok (.aload_n 3, 1) := by decide +kernel
theorem d3_5 : decode prog_30_method_1_code 5 = .ok (.arraylength, 1) := by decide +kernel
theorem d3_6 : decode prog_30_method_1_code 6 = .ok (.iload_n 1, 1) := by decide +kernel
theorem d3_7 : decode prog_30_method_1_code 7 = .ok (.iload_n 2, 1) := by decide +kernel
theorem d3_8 : decode prog_30_method_1_code 8 = .ok (.imul, 1) := by decide +kernel
theorem d3_9 : decode prog_30_method_1_code 9 = .ok (.if_icmp .eq 20, 3) := by decide +kernel
theorem d3_29 : decode prog_30_method_1_code 29 = .ok (.aload_n 0, 1) := by decide +kernel
theorem d3_30 : decode prog_30_method_1_code 30 = .ok (.iload_n 1, 1) := by decide +kernel
theorem d3_31 : decode prog_30_method_1_code 31 = .ok (.putfield 16, 3) := by decide +kernel
theorem d3_34 : decode prog_30_method_1_code 34 = .ok (.aload_n 0, 1) := by decide +kernel
theorem d3_35 : decode prog_30_method_1_code 35 = .ok (.iload_n 2, 1) := by decide +kernel
theorem d3_36 : decode prog_30_method_1_code 36 = .ok (.putfield 22, 3) := by decide +kernel
theorem d3_39 : decode prog_30_method_1_code 39 = .ok (.aload_n 0, 1) := by decide +kernel
theorem d3_40 : decode prog_30_method_1_code 40 = .ok (.aload_n 3, 1) := by decide +kernel
theorem d3_41 : decode prog_30_method_1_code 41 = .ok (.putfield 25, 3) := by decide +kernel
theorem d3_44 : decode prog_30_method_1_code 44 = .ok (.iconst 0, 1) := by decide +kernel
theorem d3_45 : decode prog_30_method_1_code 45 = .ok (.istore 4, 2) := by decide +kernel
theorem d3_47 : decode prog_30_method_1_code 47 = .ok (.aload_n 3, 1) := by decide +kernel
theorem d3_48 : decode prog_30_method_1_code 48 = .ok (.astore 5, 2) := by decide +kernel
theorem d3_50 : decode prog_30_method_1_code 50 = .ok (.aload 5, 2) := by decide +kernel
theorem d3_52 : decode prog_30_method_1_code 52 = .ok (.arraylength, 1) := by decide +kernel
theorem d3_53 : decode prog_30_method_1_code 53 = .ok (.istore 6, 2) := by decide +kernel
theorem d3_55 : decode prog_30_method_1_code 55 = .ok (.iconst 0, 1) := by decide +kernel
theorem d3_56 : decode prog_30_method_1_code 56 = .ok (.istore 7, 2) := by decide +kernel
theorem d3_89 : decode prog_30_method_1_code 89 = .ok (.aload_n 0, 1) := by decide +kernel
theorem d3_90 : decode prog_30_method_1_code 90 = .ok (.iload 4, 2) := by decide +kernel
theorem d3_92 : decode prog_30_method_1_code 92 = .ok (.putfield 33, 3) := by decide +kernel
theorem d3_95 : decode prog_30_method_1_code 95 = .ok (.return_, 1) := by decide +kernel
theorem ef_rm3 (m : MethodId) (a : Addr) (tb : Addr) : entryFrame m #[(.ref a), (.int (3 : Int32)), (.int (3 : Int32)), (.ref tb)] 9 = mkF m 0 #[vR a, vI (3 : Int32), vI (3 : Int32), vR tb, .unset, .unset, .unset, .unset, .unset] [] := by first | (simp [entryFrame, mkF, argsToLocals, Value.category]; done) | rfl
def Q_rm3 (Z : State) (a : Addr) (tb : Addr) (kt : ClassId) (vt : List Value) (tv cs : Int32) (h0 : Heap) (n0 : Nat) (v : Option Value) (h : Heap) (L : List Loc) : Prop := v = none ∧ Fr n0 L ∧ Keep h0 h [a] ∧ Exa Z h a "com/example/wanderpath/wanderpath/TileMap" ∧ Fld Z h a "com/example/wanderpath/wanderpath/TileMap" "width" "I" (.int (3 : Int32)) ∧ Fld Z h a "com/example/wanderpath/wanderpath/TileMap" "height" "I" (.int (3 : Int32)) ∧ Fld Z h a "com/example/wanderpath/wanderpath/TileMap" "tiles" "[B" (.ref tb)
set_option maxRecDepth 65536 in
set_option maxHeartbeats 40000000 in
theorem rm3 (l : Launch) (Z : State) (a0 : Array Value) (hw : ∀ d ∈ tables_1, d.before a0 Z = true) (ws : List Jvm.Cond) (a : Addr) (tb : Addr) (kt : ClassId) (vt : List Value) (tv cs : Int32) (h0 : Heap) (n0 : Nat) (Z0 : n0 ≤ h0.size) (S0 : Sta Z h0 "java/lang/String" "COMPACT_STRINGS" "Z" (.int cs)) (hcs : ¬ cs = (0 : Int32)) (E0 : Exa Z h0 a "com/example/wanderpath/wanderpath/TileMap") (g0 : n0 ≤ a) (hat : a ≠ tb) (F0 : Fld Z h0 a "com/example/wanderpath/wanderpath/TileMap" "width" "I" (.int (0 : Int32))) (F1 : Fld Z h0 a "com/example/wanderpath/wanderpath/TileMap" "height" "I" (.int (0 : Int32))) (F2 : Fld Z h0 a "com/example/wanderpath/wanderpath/TileMap" "tiles" "[B" .null) (F3 : Fld Z h0 a "com/example/wanderpath/wanderpath/TileMap" "passableCount" "I" (.int (0 : Int32))) (Vt : Arv Z h0 tb kt .byte (9 : Int32) vt (.int (0 : Int32))) (HT : ∀ i, ¬ i < 0 → i < (9 : Int32) → vt.getD i.toNatClampNeg (.int (0 : Int32)) = .int (own_tile tv i)) :
    MetFree l (⟨"com/example/wanderpath/wanderpath/TileMap", "<init>", "(II[B)V"⟩ : MethodName) (head1 (Jvm.Cond.code (⟨"com/example/wanderpath/wanderpath/TileMap", "<init>", "(II[B)V"⟩ : MethodName) prog_30_method_1_code 9 none :: ws) ({ frames := 5, cells := 2, slots := 16, locals := 71 } : Room)) (fun aα Uα => aα = #[(.ref a), (.int (3 : Int32)), (.int (3 : Int32)), (.ref tb)] ∧ Z.Warmed39 Uα.vm ∧ Uα.heap = h0 ∧ CHv Z own_EL Uα.vm h0 ∧ ∀ x ∈ ([a] : List Addr), Safe Z own_EL Uα.vm h0 x) (fun _ _ _ _ _ => True) (fun _ Uα oα Uβ => ∃ vα Lα, oα = .returned vα ∧ Q_rm3 Z a tb kt vt tv cs h0 n0 vα Uβ.heap Lα ∧ own_LX Z [] Uβ.vm Uβ.heap ∧ ReturnedEndW Uα oα Uβ Lα ({ frames := 5, cells := 2, slots := 16, locals := 71 } : Room).cells ({ frames := 5, cells := 2, slots := 16, locals := 71 } : Room).slots) := by
  refine MetFree.of_bodySF (plainFor_of_name pn_com_example_wanderpath_wanderpath_TileMap) hisR ?_
  intro p e s m args below meth c s₁ Bd hml0 hP hKα
  obtain ⟨rfl, hZ, hh, hCH0, hsf0⟩ := hP
  have hx := Bd.exec
  have hby := Bd.bytes
  have hml : c.maxLocals = 9 := hml0
  have hown : s.vm.findClass "com/example/wanderpath/wanderpath/TileMap" = some m.cls := findClass_of_methodNamed Bd.named
  have hnm := (name_of_methodNamed Bd.named Bd.method).1
  have hZ : Z.Warmed39 (s.setVm s.vm).vm := hZ
  have hown : (s.setVm s.vm).vm.findClass "com/example/wanderpath/wanderpath/TileMap" = some m.cls := hown
  have hS0 : s.Since s.vm 0 := (State.WarmedH.refl s).since 0
  have X0 : Stand p l e ({ frames := 5, cells := 2, slots := 16, locals := 71 } : Room) (s.setVm s.vm) m #[(.ref a), (.int (3 : Int32)), (.int (3 : Int32)), (.ref tb)] below meth c s₁ [] 0 0 := Stand.of_body Bd
  have e0 : s₁.heap = h0 := by rw [← hh, Bd.state]; rfl
  have N0 := Fr.nil n0
  have Y0_a := hsf0 a (by simp)
  suffices k0 : GlX p e below s (Q_rm3 Z a tb kt vt tv cs h0 n0) (own_LX Z []) ({ frames := 5, cells := 2, slots := 16, locals := 71 } : Room).cells ({ frames := 5, cells := 2, slots := 16, locals := 71 } : Room).slots s₁ (mkF m 0 #[vR a, vI (3 : Int32), vI (3 : Int32), vR tb, .unset, .unset, .unset, .unset, .unset] []) from GlX.st (fun τ κ => castTop (ef_rm3 m a tb) κ) k0
  refine GlX.st (g' := (mkF m 1 #[vR a, vI (3 : Int32), vI (3 : Int32), vR tb, .unset, .unset, .unset, .unset, .unset] [(.ref a)])) (fun τ κ => XS.aloadN X0.here hx rfl (hb hby d3_0) rfl rfl κ) ?_
  obtain ⟨T75, X75, e75, st75⟩ := initO X0 hx hZ hown (w16_ hw) (w17_ hw) (w18_ hw) e0 (g := (mkF m 1 #[vR a, vI (3 : Int32), vI (3 : Int32), vR tb, .unset, .unset, .unset, .unset, .unset] [(.ref a)])) rfl (by rw [hml]; rfl) rfl (hb hby d3_1) (by decide) (W := 0) (by show 2 * 0 + _ ≤ _; exact Nat.le_of_eq rfl) (by decide)
  refine GlX.st (g' := (mkF m 4 #[vR a, vI (3 : Int32), vI (3 : Int32), vR tb, .unset, .unset, .unset, .unset, .unset] [])) (fun τ κ => st75 _ κ) ?_
  refine GlX.st (g' := (mkF m 5 #[vR a, vI (3 : Int32), vI (3 : Int32), vR tb, .unset, .unset, .unset, .unset, .unset] [(.ref tb)])) (fun τ κ => XS.aloadN X75.here hx rfl (hb hby d3_4) rfl rfl κ) ?_
  obtain ⟨cl_o76, Ar_o76, q_o76, S_o76, M_o76, H_o76, G_o76⟩ := id Vt
  refine GlX.st (g' := (mkF m 6 #[vR a, vI (3 : Int32), vI (3 : Int32), vR tb, .unset, .unset, .unset, .unset, .unset] [(.int (9 : Int32))])) (fun τ κ => X75.arraylength hx (by rw [e75]; exact Ar_o76.1) (State.isArrayOf_alike hZ.alike Ar_o76.2.1) (g := (mkF m 5 #[vR a, vI (3 : Int32), vI (3 : Int32), vR tb, .unset, .unset, .unset, .unset, .unset] [(.ref tb)])) rfl rfl (hb hby d3_5) _ (by rw [len_of S_o76 M_o76]; exact κ)) ?_
  refine GlX.st (g' := (mkF m 8 #[vR a, vI (3 : Int32), vI (3 : Int32), vR tb, .unset, .unset, .unset, .unset, .unset] [(.int (3 : Int32)), (.int (3 : Int32)), (.int (9 : Int32))])) (fun τ κ => XS.iloadN X75.here hx rfl (hb hby d3_6) rfl (XS.iloadN X75.here hx rfl (hb hby d3_7) rfl κ)) ?_
  refine GlX.st (g' := (mkF m 9 #[vR a, vI (3 : Int32), vI (3 : Int32), vR tb, .unset, .unset, .unset, .unset, .unset] [(.int (9 : Int32)), (.int (9 : Int32))])) (fun τ κ => XS.imul X75.here hx rfl (hb hby d3_8) rfl κ) ?_
  have hc77 : (9 : Int32) = (9 : Int32) := by decide
  refine GlX.st (g' := (mkF m 30 #[vR a, vI (3 : Int32), vI (3 : Int32), vR tb, .unset, .unset, .unset, .unset, .unset] [(.ref a)])) (fun τ κ => XS.icmpYes X75.here hx rfl (pc0 := 9) (pc' := 29) rfl (hb hby d3_9) rfl (teq hc77).1 (by decide) (by decide) (XS.aloadN X75.here hx rfl (hb hby d3_29) rfl rfl κ)) ?_
  refine GlX.st (g' := (mkF m 31 #[vR a, vI (3 : Int32), vI (3 : Int32), vR tb, .unset, .unset, .unset, .unset, .unset] [(.int (3 : Int32)), (.ref a)])) (fun τ κ => XS.iloadN X75.here hx rfl (hb hby d3_30) rfl κ) ?_
  obtain ⟨T78, h78, X78, e78, W78, st78⟩ := putF X75 hx hZ hown (host := "") (Or.inl (w19_ hw)) Via.refl e75 F0 E0 (Or.inr ⟨(w20_ hw), rfl, hnm⟩) (w11_ hw) (ty := .int) (by decide) rfl rfl (g := (mkF m 31 #[vR a, vI (3 : Int32), vI (3 : Int32), vR tb, .unset, .unset, .unset, .unset, .unset] [(.int (3 : Int32)), (.ref a)])) rfl rfl (hb hby d3_31)
  have Y78_a := Safe.wr W78 Y0_a hCH0 Y0_a
  have CH78 := hCH0.wr W78 Y0_a
  have S_79 := S0.wr W78
  have E_80 := E0.wr W78
  have V_81 := Vt.other W78 (Ne.symm hat)
  have F_83 := F1.other W78 (Or.inr (slot_ne (Or.inr (w22_ hw)) (Or.inr (w20_ hw)) (by decide) (t := .int) (t' := .int) (by decide) (by decide)))
  have F_84 := F2.other W78 (Or.inr (slot_ne (Or.inr (w24_ hw)) (Or.inr (w20_ hw)) (by decide) (t := (.array .byte)) (t' := .int) (by decide) (by decide)))
  have F_85 := F3.other W78 (Or.inr (slot_ne (Or.inr (w81_ hw)) (Or.inr (w20_ hw)) (by decide) (t := .int) (t' := .int) (by decide) (by decide)))
  obtain ⟨Lw78, X78, N78⟩ := own_locG X78 (Fr.snoc X78 N0 g0)
  have Z78 : n0 ≤ h78.size := Nat.le_trans Z0 (Nat.le_of_eq W78.size.symm)
  have hk78 := Nat.le_trans (Nat.zero_le _) (Nat.le_of_eq W78.size.symm)
  have K78 : Keep h0 h78 [a] := (Keep.refl h0 [a]).wr W78 (Or.inl (List.mem_of_getElem? (i := 0) rfl))
  have F_86 := F0.same W78
  refine GlX.st (g' := (mkF m 34 #[vR a, vI (3 : Int32), vI (3 : Int32), vR tb, .unset, .unset, .unset, .unset, .unset] [])) (fun τ κ => st78 _ κ) ?_
  refine GlX.st (g' := (mkF m 36 #[vR a, vI (3 : Int32), vI (3 : Int32), vR tb, .unset, .unset, .unset, .unset, .unset] [(.int (3 : Int32)), (.ref a)])) (fun τ κ => XS.aloadN X78.here hx rfl (hb hby d3_34) rfl rfl (XS.iloadN X78.here hx rfl (hb hby d3_35) rfl κ)) ?_
  obtain ⟨T87, h87, X87, e87, W87, st87⟩ := putF X78 hx hZ hown (host := "") (Or.inl (w21_ hw)) Via.refl e78 F_83 E_80 (Or.inr ⟨(w22_ hw), rfl, hnm⟩) (w11_ hw) (ty := .int) (by decide) rfl rfl (g := (mkF m 36 #[vR a, vI (3 : Int32), vI (3 : Int32), vR tb, .unset, .unset, .unset, .unset, .unset] [(.int (3 : Int32)), (.ref a)])) rfl rfl (hb hby d3_36)
  have Y87_a := Safe.wr W87 Y78_a CH78 Y78_a
  have CH87 := CH78.wr W87 Y78_a
  have S_88 := S_79.wr W87
  have E_89 := E_80.wr W87
  have V_90 := V_81.other W87 (Ne.symm hat)
  have F_91 := F_86.other W87 (Or.inr (slot_ne (Or.inr (w20_ hw)) (Or.inr (w22_ hw)) (by decide) (t := .int) (t' := .int) (by decide) (by decide)))
  have F_93 := F_84.other W87 (Or.inr (slot_ne (Or.inr (w24_ hw)) (Or.inr (w22_ hw)) (by decide) (t := (.array .byte)) (t' := .int) (by decide) (by decide)))
  have F_94 := F_85.other W87 (Or.inr (slot_ne (Or.inr (w81_ hw)) (Or.inr (w22_ hw)) (by decide) (t := .int) (t' := .int) (by decide) (by decide)))
  obtain ⟨Lw87, X87, N87⟩ := own_locG X87 (Fr.snoc X87 N78 g0)
  have Z87 : n0 ≤ h87.size := Nat.le_trans Z78 (Nat.le_of_eq W87.size.symm)
  have hk87 := Nat.le_trans hk78 (Nat.le_of_eq W87.size.symm)
  have K87 : Keep h0 h87 [a] := K78.wr W87 (Or.inl (List.mem_of_getElem? (i := 0) rfl))
  have F_95 := F_83.same W87
  refine GlX.st (g' := (mkF m 39 #[vR a, vI (3 : Int32), vI (3 : Int32), vR tb, .unset, .unset, .unset, .unset, .unset] [])) (fun τ κ => st87 _ κ) ?_
  refine GlX.st (g' := (mkF m 41 #[vR a, vI (3 : Int32), vI (3 : Int32), vR tb, .unset, .unset, .unset, .unset, .unset] [(.ref tb), (.ref a)])) (fun τ κ => XS.aloadN X87.here hx rfl (hb hby d3_39) rfl rfl (XS.aloadN X87.here hx rfl (hb hby d3_40) rfl rfl κ)) ?_
  obtain ⟨T96, h96, X96, e96, W96, st96⟩ := putF X87 hx hZ hown (host := "") (Or.inl (w23_ hw)) Via.refl e87 F_93 E_89 (Or.inr ⟨(w24_ hw), rfl, hnm⟩) (w11_ hw) (ty := (.array .byte)) (by decide) rfl rfl (g := (mkF m 41 #[vR a, vI (3 : Int32), vI (3 : Int32), vR tb, .unset, .unset, .unset, .unset, .unset] [(.ref tb), (.ref a)])) rfl rfl (hb hby d3_41)
  have Y96_a := Safe.wr W96 Y87_a CH87 Y87_a
  have CH96 := CH87.wr W96 Y87_a
  have S_97 := S_88.wr W96
  have E_98 := E_89.wr W96
  have V_99 := V_90.other W96 (Ne.symm hat)
  have F_100 := F_91.other W96 (Or.inr (slot_ne (Or.inr (w20_ hw)) (Or.inr (w24_ hw)) (by decide) (t := .int) (t' := (.array .byte)) (by decide) (by decide)))
  have F_101 := F_95.other W96 (Or.inr (slot_ne (Or.inr (w22_ hw)) (Or.inr (w24_ hw)) (by decide) (t := .int) (t' := (.array .byte)) (by decide) (by decide)))
  have F_103 := F_94.other W96 (Or.inr (slot_ne (Or.inr (w81_ hw)) (Or.inr (w24_ hw)) (by decide) (t := .int) (t' := (.array .byte)) (by decide) (by decide)))
  obtain ⟨Lw96, X96, N96⟩ := own_locG X96 (Fr.snoc X96 N87 g0)
  have Z96 : n0 ≤ h96.size := Nat.le_trans Z87 (Nat.le_of_eq W96.size.symm)
  have hk96 := Nat.le_trans hk87 (Nat.le_of_eq W96.size.symm)
  have K96 : Keep h0 h96 [a] := K87.wr W96 (Or.inl (List.mem_of_getElem? (i := 0) rfl))
  have F_104 := F_93.same W96
  refine GlX.st (g' := (mkF m 44 #[vR a, vI (3 : Int32), vI (3 : Int32), vR tb, .unset, .unset, .unset, .unset, .unset] [])) (fun τ κ => st96 _ κ) ?_
  refine GlX.st (g' := (mkF m 47 #[vR a, vI (3 : Int32), vI (3 : Int32), vR tb, vI (0 : Int32), .unset, .unset, .unset, .unset] [])) (fun τ κ => XS.iconst X96.here hx rfl (hb hby d3_44) (XS.istore X96.here hx rfl (hb hby d3_45) rfl (l' := #[vR a, vI (3 : Int32), vI (3 : Int32), vR tb, vI (0 : Int32), .unset, .unset, .unset, .unset]) rfl κ)) ?_
  refine GlX.st (g' := (mkF m 50 #[vR a, vI (3 : Int32), vI (3 : Int32), vR tb, vI (0 : Int32), vR tb, .unset, .unset, .unset] [])) (fun τ κ => XS.aloadN X96.here hx rfl (hb hby d3_47) rfl rfl (XS.astore X96.here hx rfl (hb hby d3_48) rfl rfl (l' := #[vR a, vI (3 : Int32), vI (3 : Int32), vR tb, vI (0 : Int32), vR tb, .unset, .unset, .unset]) rfl κ)) ?_
  refine GlX.st (g' := (mkF m 52 #[vR a, vI (3 : Int32), vI (3 : Int32), vR tb, vI (0 : Int32), vR tb, .unset, .unset, .unset] [(.ref tb)])) (fun τ κ => XS.aload X96.here hx rfl (hb hby d3_50) rfl rfl κ) ?_
  obtain ⟨cl_o105, Ar_o105, q_o105, S_o105, M_o105, H_o105, G_o105⟩ := id V_99
  refine GlX.st (g' := (mkF m 53 #[vR a, vI (3 : Int32), vI (3 : Int32), vR tb, vI (0 : Int32), vR tb, .unset, .unset, .unset] [(.int (9 : Int32))])) (fun τ κ => X96.arraylength hx (by rw [e96]; exact Ar_o105.1) (State.isArrayOf_alike hZ.alike Ar_o105.2.1) (g := (mkF m 52 #[vR a, vI (3 : Int32), vI (3 : Int32), vR tb, vI (0 : Int32), vR tb, .unset, .unset, .unset] [(.ref tb)])) rfl rfl (hb hby d3_52) _ (by rw [len_of S_o105 M_o105]; exact κ)) ?_
  refine GlX.st (g' := (mkF m 56 #[vR a, vI (3 : Int32), vI (3 : Int32), vR tb, vI (0 : Int32), vR tb, vI (9 : Int32), .unset, .unset] [(.int (0 : Int32))])) (fun τ κ => XS.istore X96.here hx rfl (hb hby d3_53) rfl (l' := #[vR a, vI (3 : Int32), vI (3 : Int32), vR tb, vI (0 : Int32), vR tb, vI (9 : Int32), .unset, .unset]) rfl (XS.iconst X96.here hx rfl (hb hby d3_55) κ)) ?_
  refine GlX.st (g' := (mkF m 60 #[vR a, vI (3 : Int32), vI (3 : Int32), vR tb, vI (0 : Int32), vR tb, vI (9 : Int32), vI (0 : Int32), .unset] [(.int (0 : Int32))])) (fun τ κ => XS.istore X96.here hx rfl (hb hby d3_56) rfl (l' := #[vR a, vI (3 : Int32), vI (3 : Int32), vR tb, vI (0 : Int32), vR tb, vI (9 : Int32), vI (0 : Int32), .unset]) rfl (XS.iload X96.here hx rfl (hb hby d3_58) rfl κ)) ?_
  refine GlX.st (g' := (mkF m 62 #[vR a, vI (3 : Int32), vI (3 : Int32), vR tb, vI (0 : Int32), vR tb, vI (9 : Int32), vI (0 : Int32), .unset] [(.int (9 : Int32)), (.int (0 : Int32))])) (fun τ κ => XS.iload X96.here hx rfl (hb hby d3_60) rfl κ) ?_
  have hc106 : (0 : Int32) < (9 : Int32) := by decide
  refine GlX.st (g' := (mkF m 67 #[vR a, vI (3 : Int32), vI (3 : Int32), vR tb, vI (0 : Int32), vR tb, vI (9 : Int32), vI (0 : Int32), .unset] [(.ref tb)])) (fun τ κ => XS.icmpNo X96.here hx rfl (hb hby d3_62) rfl (tlt hc106).2.1 (XS.aload X96.here hx rfl (hb hby d3_65) rfl rfl κ)) ?_
  refine GlX.st (g' := (mkF m 69 #[vR a, vI (3 : Int32), vI (3 : Int32), vR tb, vI (0 : Int32), vR tb, vI (9 : Int32), vI (0 : Int32), .unset] [(.int (0 : Int32)), (.ref tb)])) (fun τ κ => XS.iload X96.here hx rfl (hb hby d3_67) rfl κ) ?_
  obtain ⟨cl_o107, Ar_o107, q_o107, S_o107, M_o107, H_o107, G_o107⟩ := id V_99
  have hin_o107 : ¬ ((0 : Int32) < 0 ∨ cl_o107.slots.size ≤ ((0 : Int32)).toNatClampNeg) := inb_of S_o107 ⟨by decide, by decide⟩
  refine GlX.st (g' := (mkF m 70 #[vR a, vI (3 : Int32), vI (3 : Int32), vR tb, vI (0 : Int32), vR tb, vI (9 : Int32), vI (0 : Int32), .unset] [(.int (own_tile tv (0 : Int32)))])) (fun τ κ => X96.baloadBytes hx (j := (0 : Int32)) (v := (.int (own_tile tv (0 : Int32)))) (by rw [e96]; exact Ar_o107.1) (State.isArrayOf_alike hZ.alike Ar_o107.2.1) Ar_o107.2.2 hin_o107 ((H_o107 _ (Nat.lt_of_not_le fun q => hin_o107 (Or.inr q))).trans (congrArg some (HT _ (by decide) (by decide)))) (g := (mkF m 69 #[vR a, vI (3 : Int32), vI (3 : Int32), vR tb, vI (0 : Int32), vR tb, vI (9 : Int32), vI (0 : Int32), .unset] [(.int (0 : Int32)), (.ref tb)])) rfl rfl (hb hby d3_69) _ κ) ?_
  refine GlX.st (g' := (mkF m 74 #[vR a, vI (3 : Int32), vI (3 : Int32), vR tb, vI (0 : Int32), vR tb, vI (9 : Int32), vI (0 : Int32), vI (own_tile tv (0 : Int32))] [(.int (own_tile tv (0 : Int32)))])) (fun τ κ => XS.istore X96.here hx rfl (hb hby d3_70) rfl (l' := #[vR a, vI (3 : Int32), vI (3 : Int32), vR tb, vI (0 : Int32), vR tb, vI (9 : Int32), vI (0 : Int32), vI (own_tile tv (0 : Int32))]) rfl (XS.iload X96.here hx rfl (hb hby d3_72) rfl κ)) ?_
  obtain ⟨rv108, _, ⟨T108, L108, k108, n108⟩, -, X108, hSb108, hgb108, ⟨Lc108, hQ108, l108, y108, z108⟩, st108⟩ := callSS X96 hx (y := (⟨"com/example/wanderpath/wanderpath/TileMap", "isPassableTile", "(I)Z"⟩ : MethodName)) hown (mvT hZ (w25_ hw)) (mvT hZ (w26_ hw)) (mvT hZ (w12_ hw)) (mvT hZ (w27_ hw)) (by decide) (backOfSX (W := 0) (rm5_c l Z a0 hw [] (own_tile tv (0 : Int32)) a cs h96 n0 Z96 S_97 hcs E_98 (own_t46 _ _)) hZ (w27_ hw) (w12_ hw) (by decide) (by decide) (own_EW hw) CH96 (sfx1 E_98.lt Y96_a)) (g := (mkF m 74 #[vR a, vI (3 : Int32), vI (3 : Int32), vR tb, vI (0 : Int32), vR tb, vI (9 : Int32), vI (0 : Int32), vI (own_tile tv (0 : Int32))] [(.int (own_tile tv (0 : Int32)))])) rfl (by rw [hml]; rfl) (argsL := [(.int (own_tile tv (0 : Int32)))]) (rest := []) (lenOf pd_1 rfl) rfl (by show 2 * 0 + _ ≤ _; exact Nat.le_of_eq rfl) (hb hby d3_74) (fun _ _ => ⟨rfl, e96, Nat.le_of_ble_eq_true rfl, Nat.le_of_ble_eq_true rfl⟩)
  dsimp only [Pt.U, Pt.locs, Pt.cells, Pt.slots] at X108 l108 y108 z108 st108 hQ108 hSb108 hgb108
  subst l108 y108 z108
  obtain ⟨X108, hS108, hZ108, hown108⟩ := rebS hS0 hk96 X108 hSb108 (Nat.le_trans (Nat.le_of_eq (congrArg Array.size e96).symm) hgb108) hZ hown
  obtain ⟨hQ108, hE108⟩ := hQ108
  have X108 := X108.more (cells' := 2) (slots' := 16) (by decide) (by decide)
  obtain ⟨rfl, N108q, Kc108⟩ := hQ108
  have S_109 := Sta.keepX S_97 Kc108 all0
  have E_110 := E_98.keep Kc108
  have V_111 := V_99.keep Kc108 nin0
  have F_112 := F_100.keep Kc108 nin0
  have F_113 := F_101.keep Kc108 nin0
  have F_114 := F_104.keep Kc108 nin0
  have F_115 := F_103.keep Kc108 nin0
  have N108 := Fr.app N96 N108q
  have Z108 : n0 ≤ T108.heap.size := Nat.le_trans Z96 Kc108.1
  have K108 : Keep h0 T108.heap [a] := K96.trans Kc108 all0
  obtain ⟨la, lb, lk, hLt, EL, FC, FV, VB, hxx⟩ := hE108
  have hLt : Lit (s.setVm T108.vm) "com/example/wanderpath/wanderpath/TileMap" 120 la := hLt
  have nx_a := hxx a (List.mem_of_getElem? (i := 0) rfl)
  obtain ⟨Lw108, X108, N108⟩ := own_locG X108 N108
  refine GlX.st (g' := (mkF m 77 #[vR a, vI (3 : Int32), vI (3 : Int32), vR tb, vI (0 : Int32), vR tb, vI (9 : Int32), vI (0 : Int32), vI (own_tile tv (0 : Int32))] [(.int (own_pt (own_tile tv (0 : Int32))))])) (fun τ κ => st108.trans κ) ?_
  by_cases hc116 : (own_pt (own_tile tv (0 : Int32))) = (0 : Int32)
  · -- pc 77: (own_pt (own_tile tv (0 : Int32))) = (0 : Int32)
    refine GlX.st (g' := (mkF m 86 #[vR a, vI (3 : Int32), vI (3 : Int32), vR tb, vI (0 : Int32), vR tb, vI (9 : Int32), vI (1 : Int32), vI (own_tile tv (0 : Int32))] [])) (fun τ κ => XS.ifYes X108.here hx rfl (pc0 := 77) (pc' := 83) rfl (hb hby d3_77) rfl ((if0 _ _).trans (teq hc116).1) (by decide) (by decide) (XS.iinc X108.here hx rfl (hb hby d3_83) rfl (l' := #[vR a, vI (3 : Int32), vI (3 : Int32), vR tb, vI (0 : Int32), vR tb, vI (9 : Int32), vI (1 : Int32), vI (own_tile tv (0 : Int32))]) rfl κ)) ?_
    refine GlX.st (g' := (mkF m 58 #[vR a, vI (3 : Int32), vI (3 : Int32), vR tb, vI (0 : Int32), vR tb, vI (9 : Int32), vI (1 : Int32), vI (own_tile tv (0 : Int32))] [])) (fun τ κ => XS.goto X108.here hx rfl (pc0 := 86) (pc' := 58) rfl (hb hby d3_86) (by decide) (by decide) κ) ?_
    refine own_lp hx hZ108 hw hby hml hown108 Z108 S_109 hcs EL FC FV VB V_111 HT hLt ?_ 8 _ _ _ _ _ (by decide) (by decide) X108 rfl N108
    intro T' locs' cnt j t8 X' e' N'
    refine GlX.st (g' := (mkF m 92 #[vR a, vI (3 : Int32), vI (3 : Int32), vR tb, vI cnt, vR tb, vI (9 : Int32), vI j, vI t8] [(.int cnt), (.ref a)])) (fun τ κ => XS.aloadN X'.here hx rfl (hb hby d3_89) rfl rfl (XS.iload X'.here hx rfl (hb hby d3_90) rfl κ)) ?_
    obtain ⟨T117, h117, X117, e117, W117, st117⟩ := putF X' hx hZ108 hown108 (host := "") (Or.inl (w80_ hw)) Via.refl e' F_115 E_110 (Or.inr ⟨(w81_ hw), rfl, hnm⟩) (w11_ hw) (ty := .int) (by decide) rfl rfl (g := (mkF m 92 #[vR a, vI (3 : Int32), vI (3 : Int32), vR tb, vI cnt, vR tb, vI (9 : Int32), vI j, vI t8] [(.int cnt), (.ref a)])) rfl rfl (hb hby d3_92)
    have S_118 := S_109.wr W117
    have E_119 := E_110.wr W117
    have V_120 := V_111.other W117 (Ne.symm hat)
    have F_121 := F_112.other W117 (Or.inr (slot_ne (Or.inr (w20_ hw)) (Or.inr (w81_ hw)) (by decide) (t := .int) (t' := .int) (by decide) (by decide)))
    have F_122 := F_113.other W117 (Or.inr (slot_ne (Or.inr (w22_ hw)) (Or.inr (w81_ hw)) (by decide) (t := .int) (t' := .int) (by decide) (by decide)))
    have F_123 := F_114.other W117 (Or.inr (slot_ne (Or.inr (w24_ hw)) (Or.inr (w81_ hw)) (by decide) (t := (.array .byte)) (t' := .int) (by decide) (by decide)))
    have V_125 := VB.other W117 (Ne.symm nx_a.2)
    have E_126 := EL.wr W117
    have F_127 := FC.other W117 (Or.inl (Ne.symm nx_a.1))
    have F_128 := FV.other W117 (Or.inl (Ne.symm nx_a.1))
    obtain ⟨Lw117, X117, N117⟩ := own_locG X117 (Fr.snoc X117 N' g0)
    have Z117 : n0 ≤ h117.size := Nat.le_trans Z108 (Nat.le_of_eq W117.size.symm)
    have hk117 := Nat.le_trans (Nat.le_refl _) (Nat.le_of_eq W117.size.symm)
    have K117 : Keep h0 h117 [a] := K108.wr W117 (Or.inl (List.mem_of_getElem? (i := 0) rfl))
    have F_129 := F_115.same W117
    refine GlX.st (g' := (mkF m 95 #[vR a, vI (3 : Int32), vI (3 : Int32), vR tb, vI cnt, vR tb, vI (9 : Int32), vI j, vI t8] [])) (fun τ κ => st117 _ κ) ?_
    exact GlX.ret hS108 hk117 (v := none) X117 Bd.notSynchronized (fun _ => rfl) e117 (fun fs hr => X117.returnOut hx Bd.returns (hb hby d3_95) hr) (by decide) (by decide) ⟨rfl, N117, K117, E_119, F_121, F_122, F_123⟩ ⟨la, lb, lk, Lit.stays hLt X117.warmed.wide, E_126, F_127, F_128, V_125, fun x q => nomatch q⟩
  · -- pc 77: not (own_pt (own_tile tv (0 : Int32))) = (0 : Int32)
    refine GlX.st (g' := (mkF m 83 #[vR a, vI (3 : Int32), vI (3 : Int32), vR tb, vI (1 : Int32), vR tb, vI (9 : Int32), vI (0 : Int32), vI (own_tile tv (0 : Int32))] [])) (fun τ κ => XS.ifNo X108.here hx rfl (hb hby d3_77) rfl ((if0 _ _).trans (feq hc116).1) (XS.iinc X108.here hx rfl (hb hby d3_80) rfl (l' := #[vR a, vI (3 : Int32), vI (3 : Int32), vR tb, vI (1 : Int32), vR tb, vI (9 : Int32), vI (0 : Int32), vI (own_tile tv (0 : Int32))]) rfl κ)) ?_
    refine GlX.st (g' := (mkF m 58 #[vR a, vI (3 : Int32), vI (3 : Int32), vR tb, vI (1 : Int32), vR tb, vI (9 : Int32), vI (1 : Int32), vI (own_tile tv (0 : Int32))] [])) (fun τ κ => XS.iinc X108.here hx rfl (hb hby d3_83) rfl (l' := #[vR a, vI (3 : Int32), vI (3 : Int32), vR tb, vI (1 : Int32), vR tb, vI (9 : Int32), vI (1 : Int32), vI (own_tile tv (0 : Int32))]) rfl (XS.goto X108.here hx rfl (pc0 := 86) (pc' := 58) rfl (hb hby d3_86) (by decide) (by decide) κ)) ?_
    refine own_lp hx hZ108 hw hby hml hown108 Z108 S_109 hcs EL FC FV VB V_111 HT hLt ?_ 8 _ _ _ _ _ (by decide) (by decide) X108 rfl N108
    intro T' locs' cnt j t8 X' e' N'
    refine GlX.st (g' := (mkF m 92 #[vR a, vI (3 : Int32), vI (3 : Int32), vR tb, vI cnt, vR tb, vI (9 : Int32), vI j, vI t8] [(.int cnt), (.ref a)])) (fun τ κ => XS.aloadN X'.here hx rfl (hb hby d3_89) rfl rfl (XS.iload X'.here hx rfl (hb hby d3_90) rfl κ)) ?_
    obtain ⟨T130, h130, X130, e130, W130, st130⟩ := putF X' hx hZ108 hown108 (host := "") (Or.inl (w80_ hw)) Via.refl e' F_115 E_110 (Or.inr ⟨(w81_ hw), rfl, hnm⟩) (w11_ hw) (ty := .int) (by decide) rfl rfl (g := (mkF m 92 #[vR a, vI (3 : Int32), vI (3 : Int32), vR tb, vI cnt, vR tb, vI (9 : Int32), vI j, vI t8] [(.int cnt), (.ref a)])) rfl rfl (hb hby d3_92)
    have S_131 := S_109.wr W130
    have E_132 := E_110.wr W130
    have V_133 := V_111.other W130 (Ne.symm hat)
    have F_134 := F_112.other W130 (Or.inr (slot_ne (Or.inr (w20_ hw)) (Or.inr (w81_ hw)) (by decide) (t := .int) (t' := .int) (by decide) (by decide)))
    have F_135 := F_113.other W130 (Or.inr (slot_ne (Or.inr (w22_ hw)) (Or.inr (w81_ hw)) (by decide) (t := .int) (t' := .int) (by decide) (by decide)))
    have F_136 := F_114.other W130 (Or.inr (slot_ne (Or.inr (w24_ hw)) (Or.inr (w81_ hw)) (by decide) (t := (.array .byte)) (t' := .int) (by decide) (by decide)))
    have V_138 := VB.other W130 (Ne.symm nx_a.2)
    have E_139 := EL.wr W130
    have F_140 := FC.other W130 (Or.inl (Ne.symm nx_a.1))
    have F_141 := FV.other W130 (Or.inl (Ne.symm nx_a.1))
    obtain ⟨Lw130, X130, N130⟩ := own_locG X130 (Fr.snoc X130 N' g0)
    have Z130 : n0 ≤ h130.size := Nat.le_trans Z108 (Nat.le_of_eq W130.size.symm)
    have hk130 := Nat.le_trans (Nat.le_refl _) (Nat.le_of_eq W130.size.symm)
    have K130 : Keep h0 h130 [a] := K108.wr W130 (Or.inl (List.mem_of_getElem? (i := 0) rfl))
    have F_142 := F_115.same W130
    refine GlX.st (g' := (mkF m 95 #[vR a, vI (3 : Int32), vI (3 : Int32), vR tb, vI cnt, vR tb, vI (9 : Int32), vI j, vI t8] [])) (fun τ κ => st130 _ κ) ?_
    exact GlX.ret hS108 hk130 (v := none) X130 Bd.notSynchronized (fun _ => rfl) e130 (fun fs hr => X130.returnOut hx Bd.returns (hb hby d3_95) hr) (by decide) (by decide) ⟨rfl, N130, K130, E_132, F_134, F_135, F_136⟩ ⟨la, lb, lk, Lit.stays hLt X130.warmed.wide, E_139, F_140, F_141, V_138, fun x q => nomatch q⟩
theorem d17_0 : decode prog_30_method_4_code 0 = .ok (.aload_n 0, 1) := by decide +kernel
theorem d17_1 : decode prog_30_method_4_code 1 = .ok (.getfield 16, 3) := by decide +kernel
theorem d17_4 : decode prog_30_method_4_code 4 = .ok (.ireturn, 1) := by decide +kernel
theorem ef_rm17 (m : MethodId) (a : Addr) : entryFrame m #[(.ref a)] 1 = mkF m 0 #[vR a] [] := by first | (simp [entryFrame, mkF, argsToLocals, Value.category]; done) | rfl
def Q_rm17 (Z : State) (a : Addr)  (h0 : Heap) (n0 : Nat) (v : Option Value) (h : Heap) (L : List Loc) : Prop := v = some (.int (3 : Int32)) ∧ Fr n0 L ∧ h = h0
set_option maxRecDepth 65536 in
set_option maxHeartbeats 40000000 in
theorem rm17 (l : Launch) (Z : State) (a0 : Array Value) (hw : ∀ d ∈ tables_1, d.before a0 Z = true) (ws : List Jvm.Cond) (a : Addr)  (h0 : Heap) (n0 : Nat) (Z0 : n0 ≤ h0.size) (Em : Exa Z h0 a "com/example/wanderpath/wanderpath/TileMap") (F0 : Fld Z h0 a "com/example/wanderpath/wanderpath/TileMap" "width" "I" (.int (3 : Int32))) (F1 : Fld Z h0 a "com/example/wanderpath/wanderpath/TileMap" "height" "I" (.int (3 : Int32))) :
    MetFree l (⟨"com/example/wanderpath/wanderpath/TileMap", "width", "()I"⟩ : MethodName) (head1 (Jvm.Cond.code (⟨"com/example/wanderpath/wanderpath/TileMap", "width", "()I"⟩ : MethodName) prog_30_method_4_code 1 (some .int) :: ws) ({ frames := 0, cells := 0, slots := 0, locals := 0 } : Room)) (fun aα Uα => aα = #[(.ref a)] ∧ Z.Warmed39 Uα.vm ∧ Uα.heap = h0) (fun _ _ _ _ _ => True) (fun _ Uα oα Uβ => ∃ vα Lα, oα = .returned vα ∧ Q_rm17 Z a  h0 n0 vα Uβ.heap Lα ∧ FrameEnd Uα oα Uβ Lα ({ frames := 0, cells := 0, slots := 0, locals := 0 } : Room).cells ({ frames := 0, cells := 0, slots := 0, locals := 0 } : Room).slots) := by
  refine MetFree.of_bodySF (plainFor_of_name pn_com_example_wanderpath_wanderpath_TileMap) hisR ?_
  intro p e s m args below meth c s₁ Bd hml0 hP hKα
  obtain ⟨rfl, hZ, hh⟩ := hP
  have hx := Bd.exec
  have hby := Bd.bytes
  have hml : c.maxLocals = 1 := hml0
  have hown : s.vm.findClass "com/example/wanderpath/wanderpath/TileMap" = some m.cls := findClass_of_methodNamed Bd.named
  have hnm := (name_of_methodNamed Bd.named Bd.method).1
  have X0 : Stand p l e ({ frames := 0, cells := 0, slots := 0, locals := 0 } : Room) s m #[(.ref a)] below meth c s₁ [] 0 0 := Stand.of_body Bd
  have e0 : s₁.heap = h0 := by rw [← hh, Bd.state]; rfl
  have N0 := Fr.nil n0
  suffices k0 : Gl p e below s (Q_rm17 Z a  h0 n0) ({ frames := 0, cells := 0, slots := 0, locals := 0 } : Room).cells ({ frames := 0, cells := 0, slots := 0, locals := 0 } : Room).slots s₁ (mkF m 0 #[vR a] []) from Gl.st (fun τ κ => castTop (ef_rm17 m a) κ) k0
  refine Gl.st (g' := (mkF m 1 #[vR a] [(.ref a)])) (fun τ κ => XS.aloadN X0.here hx rfl (hb hby d17_0) rfl rfl κ) ?_
  obtain ⟨T143, X143, e143, st143⟩ := getF X0 hx hZ hown (host := "") (Or.inl (w19_ hw)) Via.refl e0 F0 (g := (mkF m 1 #[vR a] [(.ref a)])) rfl rfl (hb hby d17_1)
  refine Gl.st (g' := (mkF m 4 #[vR a] [(.int (3 : Int32))])) (fun τ κ => st143 _ κ) ?_
  exact Gl.ret (v := some (.int (3 : Int32))) X143 Bd.notSynchronized (fun h => by rw [Bd.returns] at h; cases h) e143 (fun fs hr => retI X143 hx Bd.returns (hb hby d17_4) hr) (by decide) (by decide) ⟨rfl, N0, rfl⟩
theorem d18_0 : decode prog_30_method_5_code 0 = .ok (.aload_n 0, 1) := by decide +kernel
theorem d18_1 : decode prog_30_method_5_code 1 = .ok (.getfield 22, 3) := by decide +kernel
theorem d18_4 : decode prog_30_method_5_code 4 = .ok (.ireturn, 1) := by decide +kernel
theorem ef_rm18 (m : MethodId) (a : Addr) : entryFrame m #[(.ref a)] 1 = mkF m 0 #[vR a] [] := by first | (simp [entryFrame, mkF, argsToLocals, Value.category]; done) | rfl
def Q_rm18 (Z : State) (a : Addr)  (h0 : Heap) (n0 : Nat) (v : Option Value) (h : Heap) (L : List Loc) : Prop := v = some (.int (3 : Int32)) ∧ Fr n0 L ∧ h = h0
set_option maxRecDepth 65536 in
set_option maxHeartbeats 40000000 in
theorem rm18 (l : Launch) (Z : State) (a0 : Array Value) (hw : ∀ d ∈ tables_1, d.before a0 Z = true) (ws : List Jvm.Cond) (a : Addr)  (h0 : Heap) (n0 : Nat) (Z0 : n0 ≤ h0.size) (Em : Exa Z h0 a "com/example/wanderpath/wanderpath/TileMap") (F0 : Fld Z h0 a "com/example/wanderpath/wanderpath/TileMap" "width" "I" (.int (3 : Int32))) (F1 : Fld Z h0 a "com/example/wanderpath/wanderpath/TileMap" "height" "I" (.int (3 : Int32))) :
    MetFree l (⟨"com/example/wanderpath/wanderpath/TileMap", "height", "()I"⟩ : MethodName) (head1 (Jvm.Cond.code (⟨"com/example/wanderpath/wanderpath/TileMap", "height", "()I"⟩ : MethodName) prog_30_method_5_code 1 (some .int) :: ws) ({ frames := 0, cells := 0, slots := 0, locals := 0 } : Room)) (fun aα Uα => aα = #[(.ref a)] ∧ Z.Warmed39 Uα.vm ∧ Uα.heap = h0) (fun _ _ _ _ _ => True) (fun _ Uα oα Uβ => ∃ vα Lα, oα = .returned vα ∧ Q_rm18 Z a  h0 n0 vα Uβ.heap Lα ∧ FrameEnd Uα oα Uβ Lα ({ frames := 0, cells := 0, slots := 0, locals := 0 } : Room).cells ({ frames := 0, cells := 0, slots := 0, locals := 0 } : Room).slots) := by
  refine MetFree.of_bodySF (plainFor_of_name pn_com_example_wanderpath_wanderpath_TileMap) hisR ?_
  intro p e s m args below meth c s₁ Bd hml0 hP hKα
  obtain ⟨rfl, hZ, hh⟩ := hP
  have hx := Bd.exec
  have hby := Bd.bytes
  have hml : c.maxLocals = 1 := hml0
  have hown : s.vm.findClass "com/example/wanderpath/wanderpath/TileMap" = some m.cls := findClass_of_methodNamed Bd.named
  have hnm := (name_of_methodNamed Bd.named Bd.method).1
  have X0 : Stand p l e ({ frames := 0, cells := 0, slots := 0, locals := 0 } : Room) s m #[(.ref a)] below meth c s₁ [] 0 0 := Stand.of_body Bd
  have e0 : s₁.heap = h0 := by rw [← hh, Bd.state]; rfl
  have N0 := Fr.nil n0
  suffices k0 : Gl p e below s (Q_rm18 Z a  h0 n0) ({ frames := 0, cells := 0, slots := 0, locals := 0 } : Room).cells ({ frames := 0, cells := 0, slots := 0, locals := 0 } : Room).slots s₁ (mkF m 0 #[vR a] []) from Gl.st (fun τ κ => castTop (ef_rm18 m a) κ) k0
  refine Gl.st (g' := (mkF m 1 #[vR a] [(.ref a)])) (fun τ κ => XS.aloadN X0.here hx rfl (hb hby d18_0) rfl rfl κ) ?_
  obtain ⟨T144, X144, e144, st144⟩ := getF X0 hx hZ hown (host := "") (Or.inl (w21_ hw)) Via.refl e0 F1 (g := (mkF m 1 #[vR a] [(.ref a)])) rfl rfl (hb hby d18_1)
  refine Gl.st (g' := (mkF m 4 #[vR a] [(.int (3 : Int32))])) (fun τ κ => st144 _ κ) ?_
  exact Gl.ret (v := some (.int (3 : Int32))) X144 Bd.notSynchronized (fun h => by rw [Bd.returns] at h; cases h) e144 (fun fs hr => retI X144 hx Bd.returns (hb hby d18_4) hr) (by decide) (by decide) ⟨rfl, N0, rfl⟩
def own_in (x y : Int32) : Int32 := if x < 0 then 0 else if x < 3 then (if y < 0 then 0 else if y < 3 then 1 else 0) else 0
theorem own_in1 {x y : Int32} (h : ¬ own_in x y = 0) : (¬ x < 0 ∧ x < 3) ∧ (¬ y < 0 ∧ y < 3) := by
  unfold own_in at h
  split at h
  · exact absurd rfl h
  · split at h
    · split at h
      · exact absurd rfl h
      · split at h
        · exact ⟨⟨‹_›, ‹_›⟩, ‹_›, ‹_›⟩
        · exact absurd rfl h
    · exact absurd rfl h
def own_id (x y : Int32) : Int32 := (y * (3 : Int32)) + x
theorem own_id9 {x y : Int32} (h : (¬ x < 0 ∧ x < 3) ∧ (¬ y < 0 ∧ y < 3)) : ¬ own_id x y < 0 ∧ own_id x y < 9 := by
  obtain ⟨⟨h1, h2⟩, h3, h4⟩ := h
  unfold own_id
  have q := c_imul y 3; have q' := c_iadd (y * 3) x
  have b1 := Int32.le_toInt (y * 3); have b2 := Int32.toInt_lt (y * 3); have b3 := Int32.le_toInt (y * 3 + x); have b4 := Int32.toInt_lt (y * 3 + x)
  simp only [Int32.lt_iff_toInt_lt, show (0 : Int32).toInt = 0 from rfl, show (3 : Int32).toInt = 3 from rfl, show (9 : Int32).toInt = 9 from rfl] at *
  have e1 : (y * 3).toInt = y.toInt * 3 := by omega
  have e2 : (y * 3 + x).toInt = y.toInt * 3 + x.toInt := by omega
  omega
theorem d19_0 : decode prog_30_method_7_code 0 = .ok (.iload_n 1, 1) := by decide +kernel
theorem d19_1 : decode prog_30_method_7_code 1 = .ok (.ifCond .lt 27, 3) := by decide +kernel
theorem d19_28 : decode prog_30_method_7_code 28 = .ok (.iconst 0, 1) := by decide +kernel
theorem d19_29 : decode prog_30_method_7_code 29 = .ok (.ireturn, 1) := by decide +kernel
theorem d19_4 : decode prog_30_method_7_code 4 = .ok (.iload_n 1, 1) := by decide +kernel
theorem d19_5 : decode prog_30_method_7_code 5 = .ok (.aload_n 0, 1) := by decide +kernel
theorem d19_6 : decode prog_30_method_7_code 6 = .ok (.getfield 16, 3) := by decide +kernel
theorem d19_9 : decode prog_30_method_7_code 9 = .ok (.if_icmp .ge 19, 3) := by decide +kernel
theorem d19_12 : decode prog_30_method_7_code 12 = .ok (.iload_n 2, 1) := by decide +kernel
theorem d19_13 : decode prog_30_method_7_code 13 = .ok (.ifCond .lt 15, 3) := by decide +kernel
theorem d19_16 : decode prog_30_method_7_code 16 = .ok (.iload_n 2, 1) := by decide +kernel
theorem d19_17 : decode prog_30_method_7_code 17 = .ok (.aload_n 0, 1) := by decide +kernel
theorem d19_18 : decode prog_30_method_7_code 18 = .ok (.getfield 22, 3) := by decide +kernel
theorem d19_21 : decode prog_30_method_7_code 21 = .ok (.if_icmp .ge 7, 3) := by decide +kernel
theorem d19_24 : decode prog_30_method_7_code 24 = .ok (.iconst 1, 1) := by decide +kernel
theorem d19_25 : decode prog_30_method_7_code 25 = .ok (.goto 4, 3) := by decide +kernel
theorem ef_rm19 (m : MethodId) (a : Addr) (px : Int32) (py : Int32) : entryFrame m #[(.ref a), (.int px), (.int py)] 3 = mkF m 0 #[vR a, vI px, vI py] [] := by first | (simp [entryFrame, mkF, argsToLocals, Value.category]; done) | rfl
def Q_rm19 (Z : State) (a : Addr) (px : Int32) (py : Int32)  (h0 : Heap) (n0 : Nat) (v : Option Value) (h : Heap) (L : List Loc) : Prop := v = some (.int (own_in px py)) ∧ Fr n0 L ∧ h = h0
set_option maxRecDepth 65536 in
set_option maxHeartbeats 40000000 in
theorem rm19 (l : Launch) (Z : State) (a0 : Array Value) (hw : ∀ d ∈ tables_1, d.before a0 Z = true) (ws : List Jvm.Cond) (a : Addr) (px : Int32) (py : Int32)  (h0 : Heap) (n0 : Nat) (Z0 : n0 ≤ h0.size) (Em : Exa Z h0 a "com/example/wanderpath/wanderpath/TileMap") (F0 : Fld Z h0 a "com/example/wanderpath/wanderpath/TileMap" "width" "I" (.int (3 : Int32))) (F1 : Fld Z h0 a "com/example/wanderpath/wanderpath/TileMap" "height" "I" (.int (3 : Int32))) :
    MetFree l (⟨"com/example/wanderpath/wanderpath/TileMap", "contains", "(II)Z"⟩ : MethodName) (head1 (Jvm.Cond.code (⟨"com/example/wanderpath/wanderpath/TileMap", "contains", "(II)Z"⟩ : MethodName) prog_30_method_7_code 3 (some .boolean) :: ws) ({ frames := 0, cells := 0, slots := 0, locals := 0 } : Room)) (fun aα Uα => aα = #[(.ref a), (.int px), (.int py)] ∧ Z.Warmed39 Uα.vm ∧ Uα.heap = h0) (fun _ _ _ _ _ => True) (fun _ Uα oα Uβ => ∃ vα Lα, oα = .returned vα ∧ Q_rm19 Z a px py  h0 n0 vα Uβ.heap Lα ∧ FrameEnd Uα oα Uβ Lα ({ frames := 0, cells := 0, slots := 0, locals := 0 } : Room).cells ({ frames := 0, cells := 0, slots := 0, locals := 0 } : Room).slots) := by
  refine MetFree.of_bodySF (plainFor_of_name pn_com_example_wanderpath_wanderpath_TileMap) hisR ?_
  intro p e s m args below meth c s₁ Bd hml0 hP hKα
  obtain ⟨rfl, hZ, hh⟩ := hP
  have hx := Bd.exec
  have hby := Bd.bytes
  have hml : c.maxLocals = 3 := hml0
  have hown : s.vm.findClass "com/example/wanderpath/wanderpath/TileMap" = some m.cls := findClass_of_methodNamed Bd.named
  have hnm := (name_of_methodNamed Bd.named Bd.method).1
  have X0 : Stand p l e ({ frames := 0, cells := 0, slots := 0, locals := 0 } : Room) s m #[(.ref a), (.int px), (.int py)] below meth c s₁ [] 0 0 := Stand.of_body Bd
  have e0 : s₁.heap = h0 := by rw [← hh, Bd.state]; rfl
  have N0 := Fr.nil n0
  suffices k0 : Gl p e below s (Q_rm19 Z a px py  h0 n0) ({ frames := 0, cells := 0, slots := 0, locals := 0 } : Room).cells ({ frames := 0, cells := 0, slots := 0, locals := 0 } : Room).slots s₁ (mkF m 0 #[vR a, vI px, vI py] []) from Gl.st (fun τ κ => castTop (ef_rm19 m a px py) κ) k0
  refine Gl.st (g' := (mkF m 1 #[vR a, vI px, vI py] [(.int px)])) (fun τ κ => XS.iloadN X0.here hx rfl (hb hby d19_0) rfl κ) ?_
  by_cases hc145 : px < (0 : Int32)
  · -- pc 1: px < (0 : Int32)
    refine Gl.st (g' := (mkF m 29 #[vR a, vI px, vI py] [(.int (0 : Int32))])) (fun τ κ => XS.ifYes X0.here hx rfl (pc0 := 1) (pc' := 28) rfl (hb hby d19_1) rfl ((if0 _ _).trans (tlt hc145).1) (by decide) (by decide) (XS.iconst X0.here hx rfl (hb hby d19_28) κ)) ?_
    exact Gl.ret (v := some (.int (0 : Int32))) X0 Bd.notSynchronized (fun h => by rw [Bd.returns] at h; cases h) e0 (fun fs hr => retN X0 hx (t := .boolean) Bd.returns (by simp) (hb hby d19_29) hr) (by decide) (by decide) ⟨by simp only [own_in, hc145, if_true, if_false], N0, rfl⟩
  · -- pc 1: not px < (0 : Int32)
    refine Gl.st (g' := (mkF m 5 #[vR a, vI px, vI py] [(.int px)])) (fun τ κ => XS.ifNo X0.here hx rfl (hb hby d19_1) rfl ((if0 _ _).trans (flt hc145).1) (XS.iloadN X0.here hx rfl (hb hby d19_4) rfl κ)) ?_
    refine Gl.st (g' := (mkF m 6 #[vR a, vI px, vI py] [(.ref a), (.int px)])) (fun τ κ => XS.aloadN X0.here hx rfl (hb hby d19_5) rfl rfl κ) ?_
    obtain ⟨T146, X146, e146, st146⟩ := getF X0 hx hZ hown (host := "") (Or.inl (w19_ hw)) Via.refl e0 F0 (g := (mkF m 6 #[vR a, vI px, vI py] [(.ref a), (.int px)])) rfl rfl (hb hby d19_6)
    refine Gl.st (g' := (mkF m 9 #[vR a, vI px, vI py] [(.int (3 : Int32)), (.int px)])) (fun τ κ => st146 _ κ) ?_
    by_cases hc147 : px < (3 : Int32)
    · -- pc 9: px < (3 : Int32)
      refine Gl.st (g' := (mkF m 13 #[vR a, vI px, vI py] [(.int py)])) (fun τ κ => XS.icmpNo X146.here hx rfl (hb hby d19_9) rfl (tlt hc147).2.1 (XS.iloadN X146.here hx rfl (hb hby d19_12) rfl κ)) ?_
      by_cases hc148 : py < (0 : Int32)
      · -- pc 13: py < (0 : Int32)
        refine Gl.st (g' := (mkF m 29 #[vR a, vI px, vI py] [(.int (0 : Int32))])) (fun τ κ => XS.ifYes X146.here hx rfl (pc0 := 13) (pc' := 28) rfl (hb hby d19_13) rfl ((if0 _ _).trans (tlt hc148).1) (by decide) (by decide) (XS.iconst X146.here hx rfl (hb hby d19_28) κ)) ?_
        exact Gl.ret (v := some (.int (0 : Int32))) X146 Bd.notSynchronized (fun h => by rw [Bd.returns] at h; cases h) e146 (fun fs hr => retN X146 hx (t := .boolean) Bd.returns (by simp) (hb hby d19_29) hr) (by decide) (by decide) ⟨by simp only [own_in, hc145, hc147, hc148, if_true, if_false], N0, rfl⟩
      · -- pc 13: not py < (0 : Int32)
        refine Gl.st (g' := (mkF m 17 #[vR a, vI px, vI py] [(.int py)])) (fun τ κ => XS.ifNo X146.here hx rfl (hb hby d19_13) rfl ((if0 _ _).trans (flt hc148).1) (XS.iloadN X146.here hx rfl (hb hby d19_16) rfl κ)) ?_
        refine Gl.st (g' := (mkF m 18 #[vR a, vI px, vI py] [(.ref a), (.int py)])) (fun τ κ => XS.aloadN X146.here hx rfl (hb hby d19_17) rfl rfl κ) ?_
        obtain ⟨T149, X149, e149, st149⟩ := getF X146 hx hZ hown (host := "") (Or.inl (w21_ hw)) Via.refl e146 F1 (g := (mkF m 18 #[vR a, vI px, vI py] [(.ref a), (.int py)])) rfl rfl (hb hby d19_18)
        refine Gl.st (g' := (mkF m 21 #[vR a, vI px, vI py] [(.int (3 : Int32)), (.int py)])) (fun τ κ => st149 _ κ) ?_
        by_cases hc150 : py < (3 : Int32)
        · -- pc 21: py < (3 : Int32)
          refine Gl.st (g' := (mkF m 25 #[vR a, vI px, vI py] [(.int (1 : Int32))])) (fun τ κ => XS.icmpNo X149.here hx rfl (hb hby d19_21) rfl (tlt hc150).2.1 (XS.iconst X149.here hx rfl (hb hby d19_24) κ)) ?_
          refine Gl.st (g' := (mkF m 29 #[vR a, vI px, vI py] [(.int (1 : Int32))])) (fun τ κ => XS.goto X149.here hx rfl (pc0 := 25) (pc' := 29) rfl (hb hby d19_25) (by decide) (by decide) κ) ?_
          exact Gl.ret (v := some (.int (1 : Int32))) X149 Bd.notSynchronized (fun h => by rw [Bd.returns] at h; cases h) e149 (fun fs hr => retN X149 hx (t := .boolean) Bd.returns (by simp) (hb hby d19_29) hr) (by decide) (by decide) ⟨by simp only [own_in, hc145, hc147, hc148, hc150, if_true, if_false], N0, rfl⟩
        · -- pc 21: not py < (3 : Int32)
          refine Gl.st (g' := (mkF m 29 #[vR a, vI px, vI py] [(.int (0 : Int32))])) (fun τ κ => XS.icmpYes X149.here hx rfl (pc0 := 21) (pc' := 28) rfl (hb hby d19_21) rfl (flt hc150).2.1 (by decide) (by decide) (XS.iconst X149.here hx rfl (hb hby d19_28) κ)) ?_
          exact Gl.ret (v := some (.int (0 : Int32))) X149 Bd.notSynchronized (fun h => by rw [Bd.returns] at h; cases h) e149 (fun fs hr => retN X149 hx (t := .boolean) Bd.returns (by simp) (hb hby d19_29) hr) (by decide) (by decide) ⟨by simp only [own_in, hc145, hc147, hc148, hc150, if_true, if_false], N0, rfl⟩
    · -- pc 9: not px < (3 : Int32)
      refine Gl.st (g' := (mkF m 29 #[vR a, vI px, vI py] [(.int (0 : Int32))])) (fun τ κ => XS.icmpYes X146.here hx rfl (pc0 := 9) (pc' := 28) rfl (hb hby d19_9) rfl (flt hc147).2.1 (by decide) (by decide) (XS.iconst X146.here hx rfl (hb hby d19_28) κ)) ?_
      exact Gl.ret (v := some (.int (0 : Int32))) X146 Bd.notSynchronized (fun h => by rw [Bd.returns] at h; cases h) e146 (fun fs hr => retN X146 hx (t := .boolean) Bd.returns (by simp) (hb hby d19_29) hr) (by decide) (by decide) ⟨by simp only [own_in, hc145, hc147, if_true, if_false], N0, rfl⟩
theorem d23_0 : decode jdk_41_method_11_code 0 = .ok (.iload_n 0, 1) := by decide +kernel
theorem d23_1 : decode jdk_41_method_11_code 1 = .ok (.ifCond .lt 8, 3) := by decide +kernel
theorem d23_4 : decode jdk_41_method_11_code 4 = .ok (.iload_n 0, 1) := by decide +kernel
theorem d23_5 : decode jdk_41_method_11_code 5 = .ok (.iload_n 1, 1) := by decide +kernel
theorem d23_6 : decode jdk_41_method_11_code 6 = .ok (.if_icmp .lt 10, 3) := by decide +kernel
theorem d23_16 : decode jdk_41_method_11_code 16 = .ok (.iload_n 0, 1) := by decide +kernel
theorem d23_17 : decode jdk_41_method_11_code 17 = .ok (.ireturn, 1) := by decide +kernel
theorem pn_jdk_internal_util_Preconditions : plainName "jdk/internal/util/Preconditions" = true := by first | (simp [plainName, overriddenIn]; done) | decide +kernel
theorem ef_rm23 (m : MethodId) (ix : Int32) (nn : Int32) : entryFrame m #[(.int ix), (.int nn), .null] 3 = mkF m 0 #[vI ix, vI nn, .val .null] [] := by first | (simp [entryFrame, mkF, argsToLocals, Value.category]; done) | rfl
def Q_rm23 (Z : State) (ix : Int32) (nn : Int32)  (h0 : Heap) (n0 : Nat) (v : Option Value) (h : Heap) (L : List Loc) : Prop := v = some (.int ix) ∧ Fr n0 L ∧ h = h0
set_option maxRecDepth 65536 in
set_option maxHeartbeats 40000000 in
theorem rm23 (l : Launch) (Z : State) (a0 : Array Value) (hw : ∀ d ∈ tables_1, d.before a0 Z = true) (ws : List Jvm.Cond) (ix : Int32) (nn : Int32)  (h0 : Heap) (n0 : Nat) (Z0 : n0 ≤ h0.size) (hi0 : ¬ ix < 0) (hin : ix < nn) :
    MetFree l (⟨"jdk/internal/util/Preconditions", "checkIndex", "(IILjava/util/function/BiFunction;)I"⟩ : MethodName) (head1 (Jvm.Cond.code (⟨"jdk/internal/util/Preconditions", "checkIndex", "(IILjava/util/function/BiFunction;)I"⟩ : MethodName) jdk_41_method_11_code 3 (some .int) :: ws) ({ frames := 0, cells := 0, slots := 0, locals := 0 } : Room)) (fun aα Uα => aα = #[(.int ix), (.int nn), .null] ∧ Z.Warmed39 Uα.vm ∧ Uα.heap = h0) (fun _ _ _ _ _ => True) (fun _ Uα oα Uβ => ∃ vα Lα, oα = .returned vα ∧ Q_rm23 Z ix nn  h0 n0 vα Uβ.heap Lα ∧ FrameEnd Uα oα Uβ Lα ({ frames := 0, cells := 0, slots := 0, locals := 0 } : Room).cells ({ frames := 0, cells := 0, slots := 0, locals := 0 } : Room).slots) := by
  refine MetFree.of_bodySF (plainFor_of_name pn_jdk_internal_util_Preconditions) hisR ?_
  intro p e s m args below meth c s₁ Bd hml0 hP hKα
  obtain ⟨rfl, hZ, hh⟩ := hP
  have hx := Bd.exec
  have hby := Bd.bytes
  have hml : c.maxLocals = 3 := hml0
  have hown : s.vm.findClass "jdk/internal/util/Preconditions" = some m.cls := findClass_of_methodNamed Bd.named
  have hnm := (name_of_methodNamed Bd.named Bd.method).1
  have X0 : Stand p l e ({ frames := 0, cells := 0, slots := 0, locals := 0 } : Room) s m #[(.int ix), (.int nn), .null] below meth c s₁ [] 0 0 := Stand.of_body Bd
  have e0 : s₁.heap = h0 := by rw [← hh, Bd.state]; rfl
  have N0 := Fr.nil n0
  suffices k0 : Gl p e below s (Q_rm23 Z ix nn  h0 n0) ({ frames := 0, cells := 0, slots := 0, locals := 0 } : Room).cells ({ frames := 0, cells := 0, slots := 0, locals := 0 } : Room).slots s₁ (mkF m 0 #[vI ix, vI nn, .val .null] []) from Gl.st (fun τ κ => castTop (ef_rm23 m ix nn) κ) k0
  refine Gl.st (g' := (mkF m 1 #[vI ix, vI nn, .val .null] [(.int ix)])) (fun τ κ => XS.iloadN X0.here hx rfl (hb hby d23_0) rfl κ) ?_
  have hc151 : ¬ (ix < (0 : Int32)) := hi0
  refine Gl.st (g' := (mkF m 5 #[vI ix, vI nn, .val .null] [(.int ix)])) (fun τ κ => XS.ifNo X0.here hx rfl (hb hby d23_1) rfl ((if0 _ _).trans (flt hc151).1) (XS.iloadN X0.here hx rfl (hb hby d23_4) rfl κ)) ?_
  refine Gl.st (g' := (mkF m 6 #[vI ix, vI nn, .val .null] [(.int nn), (.int ix)])) (fun τ κ => XS.iloadN X0.here hx rfl (hb hby d23_5) rfl κ) ?_
  have hc152 : ix < nn := hin
  refine Gl.st (g' := (mkF m 17 #[vI ix, vI nn, .val .null] [(.int ix)])) (fun τ κ => XS.icmpYes X0.here hx rfl (pc0 := 6) (pc' := 16) rfl (hb hby d23_6) rfl (tlt hc152).1 (by decide) (by decide) (XS.iloadN X0.here hx rfl (hb hby d23_16) rfl κ)) ?_
  exact Gl.ret (v := some (.int ix)) X0 Bd.notSynchronized (fun h => by rw [Bd.returns] at h; cases h) e0 (fun fs hr => retI X0 hx Bd.returns (hb hby d23_17) hr) (by decide) (by decide) ⟨rfl, N0, rfl⟩
theorem d22_0 : decode jdk_31_method_17_code 0 = .ok (.iload_n 0, 1) := by decide +kernel
theorem d22_1 : decode jdk_31_method_17_code 1 = .ok (.iload_n 1, 1) := by decide +kernel
theorem d22_2 : decode jdk_31_method_17_code 2 = .ok (.aconst_null, 1) := by decide +kernel
theorem d22_3 : decode jdk_31_method_17_code 3 = .ok (.invokestatic 105, 3) := by decide +kernel
theorem pd_7 : parseMethodDescriptor "(IILjava/util/function/BiFunction;)I" = some ⟨[.int, .int, (.object "java/util/function/BiFunction")], some .int⟩ := by decide +kernel
theorem d22_6 : decode jdk_31_method_17_code 6 = .ok (.ireturn, 1) := by decide +kernel
theorem pn_java_util_Objects : plainName "java/util/Objects" = true := by first | (simp [plainName, overriddenIn]; done) | decide +kernel
theorem ef_rm22 (m : MethodId) (ix : Int32) (nn : Int32) : entryFrame m #[(.int ix), (.int nn)] 2 = mkF m 0 #[vI ix, vI nn] [] := by first | (simp [entryFrame, mkF, argsToLocals, Value.category]; done) | rfl
def Q_rm22 (Z : State) (ix : Int32) (nn : Int32)  (h0 : Heap) (n0 : Nat) (v : Option Value) (h : Heap) (L : List Loc) : Prop := v = some (.int ix) ∧ Fr n0 L ∧ h = h0
set_option maxRecDepth 65536 in
set_option maxHeartbeats 40000000 in
theorem rm22 (l : Launch) (Z : State) (a0 : Array Value) (hw : ∀ d ∈ tables_1, d.before a0 Z = true) (ws : List Jvm.Cond) (ix : Int32) (nn : Int32)  (h0 : Heap) (n0 : Nat) (Z0 : n0 ≤ h0.size) (hi0 : ¬ ix < 0) (hin : ix < nn) :
    MetFree l (⟨"java/util/Objects", "checkIndex", "(II)I"⟩ : MethodName) (head1 (Jvm.Cond.code (⟨"java/util/Objects", "checkIndex", "(II)I"⟩ : MethodName) jdk_31_method_17_code 2 (some .int) :: ws) ({ frames := 1, cells := 0, slots := 0, locals := 14 } : Room)) (fun aα Uα => aα = #[(.int ix), (.int nn)] ∧ Z.Warmed39 Uα.vm ∧ Uα.heap = h0) (fun _ _ _ _ _ => True) (fun _ Uα oα Uβ => ∃ vα Lα, oα = .returned vα ∧ Q_rm22 Z ix nn  h0 n0 vα Uβ.heap Lα ∧ FrameEnd Uα oα Uβ Lα ({ frames := 1, cells := 0, slots := 0, locals := 14 } : Room).cells ({ frames := 1, cells := 0, slots := 0, locals := 14 } : Room).slots) := by
  refine MetFree.of_bodySF (plainFor_of_name pn_java_util_Objects) hisR ?_
  intro p e s m args below meth c s₁ Bd hml0 hP hKα
  obtain ⟨rfl, hZ, hh⟩ := hP
  have hx := Bd.exec
  have hby := Bd.bytes
  have hml : c.maxLocals = 2 := hml0
  have hown : s.vm.findClass "java/util/Objects" = some m.cls := findClass_of_methodNamed Bd.named
  have hnm := (name_of_methodNamed Bd.named Bd.method).1
  have X0 : Stand p l e ({ frames := 1, cells := 0, slots := 0, locals := 14 } : Room) s m #[(.int ix), (.int nn)] below meth c s₁ [] 0 0 := Stand.of_body Bd
  have e0 : s₁.heap = h0 := by rw [← hh, Bd.state]; rfl
  have N0 := Fr.nil n0
  suffices k0 : Gl p e below s (Q_rm22 Z ix nn  h0 n0) ({ frames := 1, cells := 0, slots := 0, locals := 14 } : Room).cells ({ frames := 1, cells := 0, slots := 0, locals := 14 } : Room).slots s₁ (mkF m 0 #[vI ix, vI nn] []) from Gl.st (fun τ κ => castTop (ef_rm22 m ix nn) κ) k0
  refine Gl.st (g' := (mkF m 2 #[vI ix, vI nn] [(.int nn), (.int ix)])) (fun τ κ => XS.iloadN X0.here hx rfl (hb hby d22_0) rfl (XS.iloadN X0.here hx rfl (hb hby d22_1) rfl κ)) ?_
  refine Gl.st (g' := (mkF m 3 #[vI ix, vI nn] [.null, (.int nn), (.int ix)])) (fun τ κ => XS.aconstNull X0.here hx rfl (hb hby d22_2) κ) ?_
  obtain ⟨rv153, _, ⟨T153, L153, k153, n153⟩, -, X153, ⟨Lc153, hQ153, l153, y153, z153⟩, st153⟩ := Jvm.LawKit.callS X0 hx (y := (⟨"jdk/internal/util/Preconditions", "checkIndex", "(IILjava/util/function/BiFunction;)I"⟩ : MethodName)) hown (mvT hZ (w133_ hw)) (mvT hZ (w134_ hw)) (mvT hZ (w135_ hw)) (mvT hZ (w136_ hw)) (by decide) (backOf (W := 0) (rm23 l Z a0 hw [] ix nn h0 n0 Z0 hi0 hin) hZ (w136_ hw) (w135_ hw) (by decide) (by decide)) (g := (mkF m 3 #[vI ix, vI nn] [.null, (.int nn), (.int ix)])) rfl (by rw [hml]; rfl) (argsL := [(.int ix), (.int nn), .null]) (rest := []) (lenOf pd_7 rfl) rfl (by show 2 * 0 + _ ≤ _; exact Nat.le_of_eq rfl) (hb hby d22_3) (fun _ _ => ⟨rfl, e0, Nat.le_of_ble_eq_true rfl, Nat.le_of_ble_eq_true rfl⟩)
  dsimp only [Pt.U, Pt.locs, Pt.cells, Pt.slots] at X153 l153 y153 z153 st153 hQ153
  subst l153 y153 z153
  have X153 := X153.more (cells' := 0) (slots' := 0) (by decide) (by decide)
  obtain ⟨hq153, N153q, e153⟩ := hQ153
  have hq153 : rv153 = some (.int ix) := hq153
  subst hq153
  have N153 := Fr.app N0 N153q
  obtain ⟨Lw153, X153, N153⟩ := own_locG X153 N153
  refine Gl.st (g' := (mkF m 6 #[vI ix, vI nn] [(.int ix)])) (fun τ κ => st153 _ κ) ?_
  exact Gl.ret (v := some (.int ix)) X153 Bd.notSynchronized (fun h => by rw [Bd.returns] at h; cases h) e153 (fun fs hr => retI X153 hx Bd.returns (hb hby d22_6) hr) (by decide) (by decide) ⟨rfl, N153, rfl⟩
theorem d21_0 : decode prog_30_method_11_code 0 = .ok (.iload_n 1, 1) := by decide +kernel
theorem d21_1 : decode prog_30_method_11_code 1 = .ok (.aload_n 0, 1) := by decide +kernel
theorem d21_2 : decode prog_30_method_11_code 2 = .ok (.getfield 16, 3) := by decide +kernel
theorem d21_5 : decode prog_30_method_11_code 5 = .ok (.invokestatic 111, 3) := by decide +kernel
theorem d21_8 : decode prog_30_method_11_code 8 = .ok (.pop, 1) := by decide +kernel
theorem d21_9 : decode prog_30_method_11_code 9 = .ok (.iload_n 2, 1) := by decide +kernel
theorem d21_10 : decode prog_30_method_11_code 10 = .ok (.aload_n 0, 1) := by decide +kernel
theorem d21_11 : decode prog_30_method_11_code 11 = .ok (.getfield 22, 3) := by decide +kernel
theorem d21_14 : decode prog_30_method_11_code 14 = .ok (.invokestatic 111, 3) := by decide +kernel
theorem d21_17 : decode prog_30_method_11_code 17 = .ok (.pop, 1) := by decide +kernel
theorem d21_18 : decode prog_30_method_11_code 18 = .ok (.iload_n 2, 1) := by decide +kernel
theorem d21_19 : decode prog_30_method_11_code 19 = .ok (.aload_n 0, 1) := by decide +kernel
theorem d21_20 : decode prog_30_method_11_code 20 = .ok (.getfield 16, 3) := by decide +kernel
theorem d21_23 : decode prog_30_method_11_code 23 = .ok (.imul, 1) := by decide +kernel
theorem d21_24 : decode prog_30_method_11_code 24 = .ok (.iload_n 1, 1) := by decide +kernel
theorem d21_25 : decode prog_30_method_11_code 25 = .ok (.iadd, 1) := by decide +kernel
theorem d21_26 : decode prog_30_method_11_code 26 = .ok (.ireturn, 1) := by decide +kernel
theorem ef_rm21 (m : MethodId) (a : Addr) (px : Int32) (py : Int32) : entryFrame m #[(.ref a), (.int px), (.int py)] 3 = mkF m 0 #[vR a, vI px, vI py] [] := by first | (simp [entryFrame, mkF, argsToLocals, Value.category]; done) | rfl
def Q_rm21 (Z : State) (a : Addr) (px : Int32) (py : Int32)  (h0 : Heap) (n0 : Nat) (v : Option Value) (h : Heap) (L : List Loc) : Prop := v = some (.int (own_id px py)) ∧ Fr n0 L ∧ h = h0
set_option maxRecDepth 65536 in
set_option maxHeartbeats 40000000 in
theorem rm21 (l : Launch) (Z : State) (a0 : Array Value) (hw : ∀ d ∈ tables_1, d.before a0 Z = true) (ws : List Jvm.Cond) (a : Addr) (px : Int32) (py : Int32)  (h0 : Heap) (n0 : Nat) (Z0 : n0 ≤ h0.size) (Em : Exa Z h0 a "com/example/wanderpath/wanderpath/TileMap") (F0 : Fld Z h0 a "com/example/wanderpath/wanderpath/TileMap" "width" "I" (.int (3 : Int32))) (F1 : Fld Z h0 a "com/example/wanderpath/wanderpath/TileMap" "height" "I" (.int (3 : Int32))) (hin : (¬ px < 0 ∧ px < 3) ∧ (¬ py < 0 ∧ py < 3)) :
    MetFree l (⟨"com/example/wanderpath/wanderpath/TileMap", "index", "(II)I"⟩ : MethodName) (head1 (Jvm.Cond.code (⟨"com/example/wanderpath/wanderpath/TileMap", "index", "(II)I"⟩ : MethodName) prog_30_method_11_code 3 (some .int) :: ws) ({ frames := 2, cells := 0, slots := 0, locals := 27 } : Room)) (fun aα Uα => aα = #[(.ref a), (.int px), (.int py)] ∧ Z.Warmed39 Uα.vm ∧ Uα.heap = h0) (fun _ _ _ _ _ => True) (fun _ Uα oα Uβ => ∃ vα Lα, oα = .returned vα ∧ Q_rm21 Z a px py  h0 n0 vα Uβ.heap Lα ∧ FrameEnd Uα oα Uβ Lα ({ frames := 2, cells := 0, slots := 0, locals := 27 } : Room).cells ({ frames := 2, cells := 0, slots := 0, locals := 27 } : Room).slots) := by
  refine MetFree.of_bodySF (plainFor_of_name pn_com_example_wanderpath_wanderpath_TileMap) hisR ?_
  intro p e s m args below meth c s₁ Bd hml0 hP hKα
  obtain ⟨rfl, hZ, hh⟩ := hP
  have hx := Bd.exec
  have hby := Bd.bytes
  have hml : c.maxLocals = 3 := hml0
  have hown : s.vm.findClass "com/example/wanderpath/wanderpath/TileMap" = some m.cls := findClass_of_methodNamed Bd.named
  have hnm := (name_of_methodNamed Bd.named Bd.method).1
  have X0 : Stand p l e ({ frames := 2, cells := 0, slots := 0, locals := 27 } : Room) s m #[(.ref a), (.int px), (.int py)] below meth c s₁ [] 0 0 := Stand.of_body Bd
  have e0 : s₁.heap = h0 := by rw [← hh, Bd.state]; rfl
  have N0 := Fr.nil n0
  suffices k0 : Gl p e below s (Q_rm21 Z a px py  h0 n0) ({ frames := 2, cells := 0, slots := 0, locals := 27 } : Room).cells ({ frames := 2, cells := 0, slots := 0, locals := 27 } : Room).slots s₁ (mkF m 0 #[vR a, vI px, vI py] []) from Gl.st (fun τ κ => castTop (ef_rm21 m a px py) κ) k0
  refine Gl.st (g' := (mkF m 2 #[vR a, vI px, vI py] [(.ref a), (.int px)])) (fun τ κ => XS.iloadN X0.here hx rfl (hb hby d21_0) rfl (XS.aloadN X0.here hx rfl (hb hby d21_1) rfl rfl κ)) ?_
  obtain ⟨T154, X154, e154, st154⟩ := getF X0 hx hZ hown (host := "") (Or.inl (w19_ hw)) Via.refl e0 F0 (g := (mkF m 2 #[vR a, vI px, vI py] [(.ref a), (.int px)])) rfl rfl (hb hby d21_2)
  refine Gl.st (g' := (mkF m 5 #[vR a, vI px, vI py] [(.int (3 : Int32)), (.int px)])) (fun τ κ => st154 _ κ) ?_
  obtain ⟨rv155, _, ⟨T155, L155, k155, n155⟩, -, X155, ⟨Lc155, hQ155, l155, y155, z155⟩, st155⟩ := Jvm.LawKit.callS X154 hx (y := (⟨"java/util/Objects", "checkIndex", "(II)I"⟩ : MethodName)) hown (mvT hZ (w129_ hw)) (mvT hZ (w130_ hw)) (mvT hZ (w131_ hw)) (mvT hZ (w132_ hw)) (by decide) (backOf (W := 0) (rm22 l Z a0 hw [] px (3 : Int32) h0 n0 Z0 hin.1.1 hin.1.2) hZ (w132_ hw) (w131_ hw) (by decide) (by decide)) (g := (mkF m 5 #[vR a, vI px, vI py] [(.int (3 : Int32)), (.int px)])) rfl (by rw [hml]; rfl) (argsL := [(.int px), (.int (3 : Int32))]) (rest := []) (lenOf pd_2 rfl) rfl (by show 2 * 0 + _ ≤ _; exact Nat.le_of_eq rfl) (hb hby d21_5) (fun _ _ => ⟨rfl, e154, Nat.le_of_ble_eq_true rfl, Nat.le_of_ble_eq_true rfl⟩)
  dsimp only [Pt.U, Pt.locs, Pt.cells, Pt.slots] at X155 l155 y155 z155 st155 hQ155
  subst l155 y155 z155
  have X155 := X155.more (cells' := 0) (slots' := 0) (by decide) (by decide)
  obtain ⟨hq155, N155q, e155⟩ := hQ155
  have hq155 : rv155 = some (.int px) := hq155
  subst hq155
  have N155 := Fr.app N0 N155q
  obtain ⟨Lw155, X155, N155⟩ := own_locG X155 N155
  refine Gl.st (g' := (mkF m 8 #[vR a, vI px, vI py] [(.int px)])) (fun τ κ => st155 _ κ) ?_
  refine Gl.st (g' := (mkF m 10 #[vR a, vI px, vI py] [(.int py)])) (fun τ κ => XS.pop X155.here hx rfl (hb hby d21_8) rfl rfl (XS.iloadN X155.here hx rfl (hb hby d21_9) rfl κ)) ?_
  refine Gl.st (g' := (mkF m 11 #[vR a, vI px, vI py] [(.ref a), (.int py)])) (fun τ κ => XS.aloadN X155.here hx rfl (hb hby d21_10) rfl rfl κ) ?_
  obtain ⟨T156, X156, e156, st156⟩ := getF X155 hx hZ hown (host := "") (Or.inl (w21_ hw)) Via.refl e155 F1 (g := (mkF m 11 #[vR a, vI px, vI py] [(.ref a), (.int py)])) rfl rfl (hb hby d21_11)
  refine Gl.st (g' := (mkF m 14 #[vR a, vI px, vI py] [(.int (3 : Int32)), (.int py)])) (fun τ κ => st156 _ κ) ?_
  obtain ⟨rv157, _, ⟨T157, L157, k157, n157⟩, -, X157, ⟨Lc157, hQ157, l157, y157, z157⟩, st157⟩ := Jvm.LawKit.callS X156 hx (y := (⟨"java/util/Objects", "checkIndex", "(II)I"⟩ : MethodName)) hown (mvT hZ (w129_ hw)) (mvT hZ (w130_ hw)) (mvT hZ (w131_ hw)) (mvT hZ (w132_ hw)) (by decide) (backOf (W := 0) (rm22 l Z a0 hw [] py (3 : Int32) h0 n0 Z0 hin.2.1 hin.2.2) hZ (w132_ hw) (w131_ hw) (by decide) (by decide)) (g := (mkF m 14 #[vR a, vI px, vI py] [(.int (3 : Int32)), (.int py)])) rfl (by rw [hml]; rfl) (argsL := [(.int py), (.int (3 : Int32))]) (rest := []) (lenOf pd_2 rfl) rfl (by show 2 * 0 + _ ≤ _; exact Nat.le_of_eq rfl) (hb hby d21_14) (fun _ _ => ⟨rfl, e156, Nat.le_of_ble_eq_true rfl, Nat.le_of_ble_eq_true rfl⟩)
  dsimp only [Pt.U, Pt.locs, Pt.cells, Pt.slots] at X157 l157 y157 z157 st157 hQ157
  subst l157 y157 z157
  have X157 := X157.more (cells' := 0) (slots' := 0) (by decide) (by decide)
  obtain ⟨hq157, N157q, e157⟩ := hQ157
  have hq157 : rv157 = some (.int py) := hq157
  subst hq157
  have N157 := Fr.app N155 N157q
  obtain ⟨Lw157, X157, N157⟩ := own_locG X157 N157
  refine Gl.st (g' := (mkF m 17 #[vR a, vI px, vI py] [(.int py)])) (fun τ κ => st157 _ κ) ?_
  refine Gl.st (g' := (mkF m 19 #[vR a, vI px, vI py] [(.int py)])) (fun τ κ => XS.pop X157.here hx rfl (hb hby d21_17) rfl rfl (XS.iloadN X157.here hx rfl (hb hby d21_18) rfl κ)) ?_
  refine Gl.st (g' := (mkF m 20 #[vR a, vI px, vI py] [(.ref a), (.int py)])) (fun τ κ => XS.aloadN X157.here hx rfl (hb hby d21_19) rfl rfl κ) ?_
  obtain ⟨T158, X158, e158, st158⟩ := getF X157 hx hZ hown (host := "") (Or.inl (w19_ hw)) Via.refl e157 F0 (g := (mkF m 20 #[vR a, vI px, vI py] [(.ref a), (.int py)])) rfl rfl (hb hby d21_20)
  refine Gl.st (g' := (mkF m 23 #[vR a, vI px, vI py] [(.int (3 : Int32)), (.int py)])) (fun τ κ => st158 _ κ) ?_
  refine Gl.st (g' := (mkF m 25 #[vR a, vI px, vI py] [(.int px), (.int (py * (3 : Int32)))])) (fun τ κ => XS.imul X158.here hx rfl (hb hby d21_23) rfl (XS.iloadN X158.here hx rfl (hb hby d21_24) rfl κ)) ?_
  refine Gl.st (g' := (mkF m 26 #[vR a, vI px, vI py] [(.int ((py * (3 : Int32)) + px))])) (fun τ κ => XS.iadd X158.here hx rfl (hb hby d21_25) rfl κ) ?_
  exact Gl.ret (v := some (.int ((py * (3 : Int32)) + px))) X158 Bd.notSynchronized (fun h => by rw [Bd.returns] at h; cases h) e158 (fun fs hr => retI X158 hx Bd.returns (hb hby d21_26) hr) (by decide) (by decide) ⟨rfl, N157, rfl⟩
theorem d20_0 : decode prog_30_method_9_code 0 = .ok (.aload_n 0, 1) := by decide +kernel
theorem d20_1 : decode prog_30_method_9_code 1 = .ok (.getfield 25, 3) := by decide +kernel
theorem d20_4 : decode prog_30_method_9_code 4 = .ok (.aload_n 0, 1) := by decide +kernel
theorem d20_5 : decode prog_30_method_9_code 5 = .ok (.iload_n 1, 1) := by decide +kernel
theorem d20_6 : decode prog_30_method_9_code 6 = .ok (.iload_n 2, 1) := by decide +kernel
theorem d20_7 : decode prog_30_method_9_code 7 = .ok (.invokevirtual 75, 3) := by decide +kernel
theorem d20_10 : decode prog_30_method_9_code 10 = .ok (.baload, 1) := by decide +kernel
theorem d20_11 : decode prog_30_method_9_code 11 = .ok (.invokestatic 29, 3) := by decide +kernel
theorem d20_14 : decode prog_30_method_9_code 14 = .ok (.ireturn, 1) := by decide +kernel
theorem ef_rm20 (m : MethodId) (a : Addr) (px : Int32) (py : Int32) : entryFrame m #[(.ref a), (.int px), (.int py)] 3 = mkF m 0 #[vR a, vI px, vI py] [] := by first | (simp [entryFrame, mkF, argsToLocals, Value.category]; done) | rfl
def Q_rm20 (Z : State) (a : Addr) (px : Int32) (py : Int32) (tb la : Addr) (kt : ClassId) (vt : List Value) (tv : Int32) (lb : Addr) (lk : ClassId) (cs : Int32) (h0 : Heap) (n0 : Nat) (v : Option Value) (h : Heap) (L : List Loc) : Prop := v = some (.int (own_bit tv (own_id px py))) ∧ Fr n0 L ∧ h = h0
set_option maxRecDepth 65536 in
set_option maxHeartbeats 40000000 in
theorem rm20 (l : Launch) (Z : State) (a0 : Array Value) (hw : ∀ d ∈ tables_1, d.before a0 Z = true) (ws : List Jvm.Cond) (a : Addr) (px : Int32) (py : Int32) (tb la : Addr) (kt : ClassId) (vt : List Value) (tv : Int32) (lb : Addr) (lk : ClassId) (cs : Int32) (h0 : Heap) (n0 : Nat) (Z0 : n0 ≤ h0.size) (S0 : Sta Z h0 "java/lang/String" "COMPACT_STRINGS" "Z" (.int cs)) (hcs : ¬ cs = (0 : Int32)) (EL : Exa Z h0 la "java/lang/String") (FC : Fld Z h0 la "java/lang/String" "coder" "B" (.int (0 : Int32))) (FV : Fld Z h0 la "java/lang/String" "value" "[B" (.ref lb)) (VB : Arv Z h0 lb lk .byte (3 : Int32) [(.int (46 : Int32)), (.int (71 : Int32)), (.int (83 : Int32))] (.int (0 : Int32))) (Em : Exa Z h0 a "com/example/wanderpath/wanderpath/TileMap") (F0 : Fld Z h0 a "com/example/wanderpath/wanderpath/TileMap" "width" "I" (.int (3 : Int32))) (F1 : Fld Z h0 a "com/example/wanderpath/wanderpath/TileMap" "height" "I" (.int (3 : Int32))) (F2 : Fld Z h0 a "com/example/wanderpath/wanderpath/TileMap" "tiles" "[B" (.ref tb)) (Vt : Arv Z h0 tb kt .byte (9 : Int32) vt (.int (0 : Int32))) (HT : ∀ i, ¬ i < 0 → i < (9 : Int32) → vt.getD i.toNatClampNeg (.int (0 : Int32)) = .int (own_tile tv i)) (hin : (¬ px < 0 ∧ px < 3) ∧ (¬ py < 0 ∧ py < 3)) :
    MetFree l (⟨"com/example/wanderpath/wanderpath/TileMap", "isPassable", "(II)Z"⟩ : MethodName) (head1 (Jvm.Cond.code (⟨"com/example/wanderpath/wanderpath/TileMap", "isPassable", "(II)Z"⟩ : MethodName) prog_30_method_9_code 3 (some .boolean) :: ws) ({ frames := 5, cells := 0, slots := 0, locals := 71 } : Room)) (fun aα Uα => aα = #[(.ref a), (.int px), (.int py)] ∧ Z.Warmed39 Uα.vm ∧ Uα.heap = h0 ∧ Lit Uα "com/example/wanderpath/wanderpath/TileMap" 120 la) (fun _ _ _ _ _ => True) (fun _ Uα oα Uβ => ∃ vα Lα, oα = .returned vα ∧ Q_rm20 Z a px py tb la kt vt tv lb lk cs h0 n0 vα Uβ.heap Lα ∧ FrameEnd Uα oα Uβ Lα ({ frames := 5, cells := 0, slots := 0, locals := 71 } : Room).cells ({ frames := 5, cells := 0, slots := 0, locals := 71 } : Room).slots) := by
  refine MetFree.of_bodySF (plainFor_of_name pn_com_example_wanderpath_wanderpath_TileMap) hisR ?_
  intro p e s m args below meth c s₁ Bd hml0 hP hKα
  obtain ⟨rfl, hZ, hh, hL0⟩ := hP
  have hx := Bd.exec
  have hby := Bd.bytes
  have hml : c.maxLocals = 3 := hml0
  have hown : s.vm.findClass "com/example/wanderpath/wanderpath/TileMap" = some m.cls := findClass_of_methodNamed Bd.named
  have hnm := (name_of_methodNamed Bd.named Bd.method).1
  have X0 : Stand p l e ({ frames := 5, cells := 0, slots := 0, locals := 71 } : Room) s m #[(.ref a), (.int px), (.int py)] below meth c s₁ [] 0 0 := Stand.of_body Bd
  have e0 : s₁.heap = h0 := by rw [← hh, Bd.state]; rfl
  have N0 := Fr.nil n0
  suffices k0 : Gl p e below s (Q_rm20 Z a px py tb la kt vt tv lb lk cs h0 n0) ({ frames := 5, cells := 0, slots := 0, locals := 71 } : Room).cells ({ frames := 5, cells := 0, slots := 0, locals := 71 } : Room).slots s₁ (mkF m 0 #[vR a, vI px, vI py] []) from Gl.st (fun τ κ => castTop (ef_rm20 m a px py) κ) k0
  refine Gl.st (g' := (mkF m 1 #[vR a, vI px, vI py] [(.ref a)])) (fun τ κ => XS.aloadN X0.here hx rfl (hb hby d20_0) rfl rfl κ) ?_
  obtain ⟨T159, X159, e159, st159⟩ := getF X0 hx hZ hown (host := "") (Or.inl (w23_ hw)) Via.refl e0 F2 (g := (mkF m 1 #[vR a, vI px, vI py] [(.ref a)])) rfl rfl (hb hby d20_1)
  refine Gl.st (g' := (mkF m 4 #[vR a, vI px, vI py] [(.ref tb)])) (fun τ κ => st159 _ κ) ?_
  refine Gl.st (g' := (mkF m 6 #[vR a, vI px, vI py] [(.int px), (.ref a), (.ref tb)])) (fun τ κ => XS.aloadN X159.here hx rfl (hb hby d20_4) rfl rfl (XS.iloadN X159.here hx rfl (hb hby d20_5) rfl κ)) ?_
  refine Gl.st (g' := (mkF m 7 #[vR a, vI px, vI py] [(.int py), (.int px), (.ref a), (.ref tb)])) (fun τ κ => XS.iloadN X159.here hx rfl (hb hby d20_6) rfl κ) ?_
  obtain ⟨cq160, q160, q160'⟩ := Em.cell
  obtain ⟨rv160, _, ⟨T160, L160, k160, n160⟩, -, X160, ⟨Lc160, hQ160, l160, y160, z160⟩, st160⟩ := X159.privateBack hx (y := (⟨"com/example/wanderpath/wanderpath/TileMap", "index", "(II)I"⟩ : MethodName)) hown (mvT hZ (w125_ hw)) (mvT hZ (w126_ hw)) (selPrivate (z := (⟨"com/example/wanderpath/wanderpath/TileMap", "width", "()I"⟩ : MethodName)) rfl (mvT hZ (w95_ hw)) (Cond.privateMethod_at (mvP hZ (w127_ hw) (args := #[]))) (mvT hZ (w126_ hw)) (by decide)) (Cond.privateMethod_at (mvP hZ (w127_ hw) (args := #[]))) (mvT hZ (w128_ hw)) (by decide) (backOf (W := 1) (rm21 l Z a0 hw [] a px py h0 n0 Z0 Em F0 F1 hin) hZ (w128_ hw) (w12_ hw) (by decide) (by decide)) (g := (mkF m 7 #[vR a, vI px, vI py] [(.int py), (.int px), (.ref a), (.ref tb)])) rfl (by rw [hml]; rfl) (Steps.refl _) (a := a) (by rw [e159]; exact q160) q160' (argsL := [(.int px), (.int py)]) (rest := [(.ref tb)]) (lenOf pd_2 rfl) rfl (by show 2 * 0 + _ ≤ _; exact Nat.le_of_eq rfl) (hb hby d20_7) (fun _ _ => ⟨rfl, e159, Nat.le_of_ble_eq_true rfl, Nat.le_of_ble_eq_true rfl⟩)
  dsimp only [Pt.U, Pt.locs, Pt.cells, Pt.slots] at X160 l160 y160 z160 st160 hQ160
  subst l160 y160 z160
  have X160 := X160.more (cells' := 0) (slots' := 0) (by decide) (by decide)
  obtain ⟨hq160, N160q, e160⟩ := hQ160
  have hq160 : rv160 = some (.int (own_id px py)) := hq160
  subst hq160
  have N160 := Fr.app N0 N160q
  obtain ⟨Lw160, X160, N160⟩ := own_locG X160 N160
  refine Gl.st (g' := (mkF m 10 #[vR a, vI px, vI py] [(.int (own_id px py)), (.ref tb)])) (fun τ κ => st160.trans κ) ?_
  obtain ⟨cl_o161, Ar_o161, q_o161, S_o161, M_o161, H_o161, G_o161⟩ := id Vt
  have hin_o161 : ¬ ((own_id px py) < 0 ∨ cl_o161.slots.size ≤ ((own_id px py)).toNatClampNeg) := inb_of S_o161 (own_id9 hin)
  refine Gl.st (g' := (mkF m 11 #[vR a, vI px, vI py] [(.int (own_tile tv (own_id px py)))])) (fun τ κ => X160.baloadBytes hx (j := (own_id px py)) (v := (.int (own_tile tv (own_id px py)))) (by rw [e160]; exact Ar_o161.1) (State.isArrayOf_alike hZ.alike Ar_o161.2.1) Ar_o161.2.2 hin_o161 ((H_o161 _ (Nat.lt_of_not_le fun q => hin_o161 (Or.inr q))).trans (congrArg some (HT _ (own_id9 hin).1 (own_id9 hin).2))) (g := (mkF m 10 #[vR a, vI px, vI py] [(.int (own_id px py)), (.ref tb)])) rfl rfl (hb hby d20_10) _ κ) ?_
  obtain ⟨rv162, _, ⟨T162, L162, k162, n162⟩, -, X162, ⟨Lc162, hQ162, l162, y162, z162⟩, st162⟩ := Jvm.LawKit.callS X160 hx (y := (⟨"com/example/wanderpath/wanderpath/TileMap", "isPassableTile", "(I)Z"⟩ : MethodName)) hown (mvT hZ (w25_ hw)) (mvT hZ (w26_ hw)) (mvT hZ (w12_ hw)) (mvT hZ (w27_ hw)) (by decide) (backOfL (W := 0) (rm5_w l Z a0 hw [] (own_tile tv (own_id px py)) la lb lk cs h0 n0 Z0 S0 hcs EL FC FV VB (own_t46 _ _)) hZ (w27_ hw) (w12_ hw) (by decide) (by decide) hL0) (g := (mkF m 11 #[vR a, vI px, vI py] [(.int (own_tile tv (own_id px py)))])) rfl (by rw [hml]; rfl) (argsL := [(.int (own_tile tv (own_id px py)))]) (rest := []) (lenOf pd_1 rfl) rfl (by show 2 * 0 + _ ≤ _; exact Nat.le_of_eq rfl) (hb hby d20_11) (fun _ _ => ⟨rfl, e160, Nat.le_of_ble_eq_true rfl, Nat.le_of_ble_eq_true rfl⟩)
  dsimp only [Pt.U, Pt.locs, Pt.cells, Pt.slots] at X162 l162 y162 z162 st162 hQ162
  subst l162 y162 z162
  have X162 := X162.more (cells' := 0) (slots' := 0) (by decide) (by decide)
  obtain ⟨hq162, N162q, e162⟩ := hQ162
  have hq162 : rv162 = some (.int (own_pt (own_tile tv (own_id px py)))) := hq162
  subst hq162
  have N162 := Fr.app N160 N162q
  obtain ⟨Lw162, X162, N162⟩ := own_locG X162 N162
  refine Gl.st (g' := (mkF m 14 #[vR a, vI px, vI py] [(.int (own_pt (own_tile tv (own_id px py))))])) (fun τ κ => st162 _ κ) ?_
  exact Gl.ret (v := some (.int (nar .boolean (own_pt (own_tile tv (own_id px py)))))) X162 Bd.notSynchronized (fun h => by rw [Bd.returns] at h; cases h) e162 (fun fs hr => retN X162 hx (t := .boolean) Bd.returns (by simp) (hb hby d20_14) hr) (by decide) (by decide) ⟨congrArg (fun t => some (Value.int t)) ((congrArg (nar .boolean) (own_ptT _ _)).trans (own_narB _ _)), N162, rfl⟩
theorem own_in0 : own_in (((0 : Int32) % (5 : Int32)) - (1 : Int32)) (((0 : Int32) / (5 : Int32)) - (1 : Int32)) = (0 : Int32) := by decide +kernel
def own_blk (tv q : Int32) : Int32 := if own_in ((q % (5 : Int32)) - (1 : Int32)) ((q / (5 : Int32)) - (1 : Int32)) = (0 : Int32) then 1 else if own_bit tv (own_id ((q % (5 : Int32)) - (1 : Int32)) ((q / (5 : Int32)) - (1 : Int32))) = (0 : Int32) then 1 else 0
theorem own_k1 {j : Int32} {n : Nat} (h : j.toInt + ((n + 1 : Nat) : Int) = 25) (h0 : 0 ≤ j.toInt) : (j + 1).toInt + (n : Int) = 25 ∧ 0 ≤ (j + 1).toInt := by
  have q := c_iadd j 1
  have b1 := Int32.le_toInt (j + 1); have b2 := Int32.toInt_lt (j + 1)
  rw [show (1 : Int32).toInt = 1 from rfl] at q
  omega
theorem own_kl {j : Int32} {n : Nat} (h : j.toInt + ((n + 1 : Nat) : Int) = 25) (h0 : 0 ≤ j.toInt) : ¬ j < 0 ∧ j < 25 := by
  rw [Int32.lt_iff_toInt_lt, Int32.lt_iff_toInt_lt, show (0 : Int32).toInt = 0 from rfl, show (25 : Int32).toInt = 25 from rfl]; omega
theorem own_ke {j : Int32} (h : j.toInt + ((0 : Nat) : Int) = 25) : ¬ j < 25 := by
  rw [Int32.lt_iff_toInt_lt, show (25 : Int32).toInt = 25 from rfl]; omega
/-- the cells below j are laid -/
def own_inv (tv j : Int32) (vs : List Value) : Prop := ∀ q, ¬ q < 0 → q < j → vs.getD q.toNatClampNeg (.int (0 : Int32)) = .int (own_blk tv q)
theorem own_inv1 {tv j : Int32} {n : Nat} {vs vs' : List Value} (I : own_inv tv j vs) (h : j.toInt + ((n + 1 : Nat) : Int) = 25) (h0 : 0 ≤ j.toInt) {x : Int32} (e : ∀ i, vs'.getD i (.int (0 : Int32)) = if i = j.toNatClampNeg then .int x else vs.getD i (.int (0 : Int32))) (ex : x = own_blk tv j) : own_inv tv (j + 1) vs' := by
  intro q hq hj
  have k := own_k1 h h0
  have w := c_iadd j 1
  have b1 := Int32.le_toInt (j + 1); have b2 := Int32.toInt_lt (j + 1)
  rw [show (1 : Int32).toInt = 1 from rfl] at w
  rw [Int32.lt_iff_toInt_lt, show (0 : Int32).toInt = 0 from rfl] at hq
  rw [Int32.lt_iff_toInt_lt] at hj
  rw [e]
  by_cases c : q = j
  · subst c; rw [if_pos rfl, ex]
  · have c' : q.toInt ≠ j.toInt := fun z => c (Int32.toInt_inj.mp z)
    rw [if_neg (by simp only [Int32.toNatClampNeg]; omega)]
    exact I q (by rw [Int32.lt_iff_toInt_lt, show (0 : Int32).toInt = 0 from rfl]; omega) (by rw [Int32.lt_iff_toInt_lt]; omega)
theorem own_inv0 (tv : Int32) (vs : List Value) : own_inv tv (0 : Int32) vs := fun q h1 h2 => absurd h2 h1
theorem own_b1 {tv j : Int32} (h : own_in ((j % (5 : Int32)) - (1 : Int32)) ((j / (5 : Int32)) - (1 : Int32)) = (0 : Int32)) : (1 : Int32) = own_blk tv j := (if_pos h).symm
theorem own_b2 {tv j : Int32} (h : ¬ own_in ((j % (5 : Int32)) - (1 : Int32)) ((j / (5 : Int32)) - (1 : Int32)) = (0 : Int32)) (k : own_bit tv (own_id ((j % (5 : Int32)) - (1 : Int32)) ((j / (5 : Int32)) - (1 : Int32))) = (0 : Int32)) : (1 : Int32) = own_blk tv j := by unfold own_blk; rw [if_neg h, if_pos k]
theorem own_b3 {tv j : Int32} (h : ¬ own_in ((j % (5 : Int32)) - (1 : Int32)) ((j / (5 : Int32)) - (1 : Int32)) = (0 : Int32)) (k : ¬ own_bit tv (own_id ((j % (5 : Int32)) - (1 : Int32)) ((j / (5 : Int32)) - (1 : Int32))) = (0 : Int32)) : (0 : Int32) = own_blk tv j := by unfold own_blk; rw [if_neg h, if_neg k]
theorem own_upd (vs : List Value) (j : Nat) (v dv : Value) : ∃ vs' : List Value, ∀ i, vs'.getD i dv = if i = j then v else vs.getD i dv := by
  refine ⟨(vs ++ List.replicate (j + 1) dv).set j v, fun i => ?_⟩
  rw [List.getD_eq_getElem?_getD, List.getElem?_set]
  by_cases e : j = i
  · subst e
    have hl : j < (vs ++ List.replicate (j + 1) dv).length := by rw [List.length_append, List.length_replicate]; omega
    simp only [if_true, hl, Option.getD_some]
  · have e' : ¬ i = j := fun h => e h.symm
    rw [if_neg e, if_neg e', ← List.getD_eq_getElem?_getD]; exact pad_rep vs dv (j + 1) i
theorem own_set {Z : State} {h h' : Heap} {a : Addr} {c : Cell} {ty : FieldType} {k : ClassId} {z : Int32} {vs vs' : List Value} {dv v : Value} {j : Nat} (A : Arr Z h a c ty) (q1 : c.cls = k) (S : c.slots.size = z.toNatClampNeg) (q3 : ¬ z < 0) (H : Has c vs dv) (G : ∀ i, i < c.slots.size → fits ty (vs.getD i dv) = true) (hv : fits ty v = true) (W : Wr h h' a j v)
    (e : ∀ i, vs'.getD i dv = if i = j then v else vs.getD i dv) : Arv Z h' a k ty z vs' dv := by
  refine ⟨c.setSlot j v, A.same W, q1, by rw [sz_set]; exact S, q3, fun i hi => ?_, fun i hi => ?_⟩
  · rw [sz_set] at hi
    rw [e]
    show (c.slots.setIfInBounds j v)[i]? = _
    rw [Array.getElem?_setIfInBounds]
    by_cases q : j = i
    · subst q; simp [hi]
    · rw [if_neg q, if_neg (fun h => q h.symm)]; exact H i hi
  · rw [sz_set] at hi
    rw [e]
    by_cases q : i = j
    · rw [if_pos q]; exact hv
    · rw [if_neg q]; exact G i hi
theorem own_invs {tv : Int32} {vs : List Value} (h : vs.getD 0 (.int (0 : Int32)) = .int (own_blk tv 0)) : own_inv tv (1 : Int32) vs := fun q h1 h2 => by
  have e : q = 0 := by
    rw [Int32.lt_iff_toInt_lt] at h1 h2; rw [show (0 : Int32).toInt = 0 from rfl] at h1; rw [show (1 : Int32).toInt = 1 from rfl] at h2
    rw [← Int32.toInt_inj, show (0 : Int32).toInt = 0 from rfl]; omega
  subst e; exact h
theorem own_inve {tv j : Int32} {vs : List Value} (h : j.toInt + ((0 : Nat) : Int) = 25) (I : own_inv tv j vs) : own_inv tv (25 : Int32) vs := by
  have e : j = 25 := by rw [← Int32.toInt_inj, show (25 : Int32).toInt = 25 from rfl]; omega
  subst e; exact I
theorem d16_277 : decode prog_11_method_1_code 277 = .ok (.iload 4, 2) := by decide +kernel
theorem d16_279 : decode prog_11_method_1_code 279 = .ok (.iload_n 3, 1) := by decide +kernel
theorem d16_280 : decode prog_11_method_1_code 280 = .ok (.if_icmp .ge 65, 3) := by decide +kernel
theorem d16_283 : decode prog_11_method_1_code 283 = .ok (.iload 4, 2) := by decide +kernel
theorem d16_285 : decode prog_11_method_1_code 285 = .ok (.aload_n 0, 1) := by decide +kernel
theorem d16_286 : decode prog_11_method_1_code 286 = .ok (.getfield 13, 3) := by decide +kernel
theorem d16_289 : decode prog_11_method_1_code 289 = .ok (.irem, 1) := by decide +kernel
theorem d16_290 : decode prog_11_method_1_code 290 = .ok (.iconst 1, 1) := by decide +kernel
theorem d16_291 : decode prog_11_method_1_code 291 = .ok (.isub, 1) := by decide +kernel
theorem d16_292 : decode prog_11_method_1_code 292 = .ok (.istore 5, 2) := by decide +kernel
theorem d16_294 : decode prog_11_method_1_code 294 = .ok (.iload 4, 2) := by decide +kernel
theorem d16_296 : decode prog_11_method_1_code 296 = .ok (.aload_n 0, 1) := by decide +kernel
theorem d16_297 : decode prog_11_method_1_code 297 = .ok (.getfield 13, 3) := by decide +kernel
theorem d16_300 : decode prog_11_method_1_code 300 = .ok (.idiv, 1) := by decide +kernel
theorem d16_301 : decode prog_11_method_1_code 301 = .ok (.iconst 1, 1) := by decide +kernel
theorem d16_302 : decode prog_11_method_1_code 302 = .ok (.isub, 1) := by decide +kernel
theorem d16_303 : decode prog_11_method_1_code 303 = .ok (.istore 6, 2) := by decide +kernel
theorem d16_305 : decode prog_11_method_1_code 305 = .ok (.aload_n 0, 1) := by decide +kernel
theorem d16_306 : decode prog_11_method_1_code 306 = .ok (.getfield 38, 3) := by decide +kernel
theorem d16_309 : decode prog_11_method_1_code 309 = .ok (.iload 4, 2) := by decide +kernel
theorem d16_311 : decode prog_11_method_1_code 311 = .ok (.aload_n 1, 1) := by decide +kernel
theorem d16_312 : decode prog_11_method_1_code 312 = .ok (.iload 5, 2) := by decide +kernel
theorem d16_314 : decode prog_11_method_1_code 314 = .ok (.iload 6, 2) := by decide +kernel
theorem d16_316 : decode prog_11_method_1_code 316 = .ok (.invokevirtual 42, 3) := by decide +kernel
theorem pd_8 : parseMethodDescriptor "(II)Z" = some ⟨[.int, .int], some .boolean⟩ := by decide +kernel
theorem d16_319 : decode prog_11_method_1_code 319 = .ok (.ifCond .eq 14, 3) := by decide +kernel
theorem d16_333 : decode prog_11_method_1_code 333 = .ok (.iconst 1, 1) := by decide +kernel
theorem d16_334 : decode prog_11_method_1_code 334 = .ok (.goto 4, 3) := by decide +kernel
theorem d16_338 : decode prog_11_method_1_code 338 = .ok (.bastore, 1) := by decide +kernel
theorem d16_339 : decode prog_11_method_1_code 339 = .ok (.iinc 4 1, 3) := by decide +kernel
theorem d16_342 : decode prog_11_method_1_code 342 = .ok (.goto (-65), 3) := by decide +kernel
theorem d16_322 : decode prog_11_method_1_code 322 = .ok (.aload_n 1, 1) := by decide +kernel
theorem d16_323 : decode prog_11_method_1_code 323 = .ok (.iload 5, 2) := by decide +kernel
theorem d16_325 : decode prog_11_method_1_code 325 = .ok (.iload 6, 2) := by decide +kernel
theorem d16_327 : decode prog_11_method_1_code 327 = .ok (.invokevirtual 46, 3) := by decide +kernel
theorem d16_330 : decode prog_11_method_1_code 330 = .ok (.ifCond .ne 7, 3) := by decide +kernel
theorem d16_337 : decode prog_11_method_1_code 337 = .ok (.iconst 0, 1) := by decide +kernel
set_option maxRecDepth 65536 in
set_option maxHeartbeats 40000000 in
theorem own_gl {p : Program} {l : Launch} {e : Env} {s : State} {m : MethodId} {args : Array Value} {below : List Frame} {meth : Method} {c : Code} {Z : State} {a0 : Array Value} {QQ : Option Value → Heap → List Loc → Prop} {CC NN : Nat} (hx : p.tables.exec = Jvm.exec) (hZ : Z.Warmed39 s.vm) (hw : ∀ d ∈ tables_1, d.before a0 Z = true) (hby : c.code = prog_11_method_1_code) (hml : c.maxLocals = 7) (hown : s.vm.findClass "com/example/wanderpath/wanderpath/Grid" = some m.cls) {gr a mv tb la lb bk : Addr} {kt lk kb : ClassId} {tv cs : Int32} {vt : List Value} {n0 : Nat} {hs : Heap} (hcs : ¬ cs = (0 : Int32)) (HT : ∀ i, ¬ i < 0 → i < (9 : Int32) → vt.getD i.toNatClampNeg (.int (0 : Int32)) = .int (own_tile tv i)) (hL0 : Lit s "com/example/wanderpath/wanderpath/TileMap" 120 la) (gb : n0 ≤ bk) (n_gr : gr ≠ bk) (n_a : a ≠ bk) (n_tb : tb ≠ bk) (n_la : la ≠ bk) (n_lb : lb ≠ bk)
    (cont : ∀ (T' : State) (h' : Heap) (locs' : List Loc) (vs : List Value) (j p5 p6 : Int32), Stand p l e ({ frames := 6, cells := 4, slots := 49, locals := 88 } : Room) s m args below meth c T' locs' 4 49 → T'.heap = h' → Fr n0 locs' → Keep hs h' [bk] → Arv Z h' bk kb .boolean (25 : Int32) vs (.int (0 : Int32)) → own_inv tv (25 : Int32) vs → Gl p e below s QQ CC NN T' (mkF m 345 #[vR gr, vR a, vR mv, vI (25 : Int32), vI j, vI p5, vI p6] [])) :
    ∀ (n : Nat) (j p5 p6 : Int32) (T0 : State) (h1 : Heap) (locs : List Loc) (vs : List Value), j.toInt + (n : Int) = 25 → 0 ≤ j.toInt → Stand p l e ({ frames := 6, cells := 4, slots := 49, locals := 88 } : Room) s m args below meth c T0 locs 4 49 → T0.heap = h1 → Fr n0 locs → n0 ≤ h1.size → Keep hs h1 [bk] → Sta Z h1 "java/lang/String" "COMPACT_STRINGS" "Z" (.int cs) → Exa Z h1 la "java/lang/String" → Fld Z h1 la "java/lang/String" "coder" "B" (.int (0 : Int32)) → Fld Z h1 la "java/lang/String" "value" "[B" (.ref lb) → Arv Z h1 lb lk .byte (3 : Int32) [(.int (46 : Int32)), (.int (71 : Int32)), (.int (83 : Int32))] (.int (0 : Int32)) → Exa Z h1 a "com/example/wanderpath/wanderpath/TileMap" → Fld Z h1 a "com/example/wanderpath/wanderpath/TileMap" "width" "I" (.int (3 : Int32)) → Fld Z h1 a "com/example/wanderpath/wanderpath/TileMap" "height" "I" (.int (3 : Int32)) → Fld Z h1 a "com/example/wanderpath/wanderpath/TileMap" "tiles" "[B" (.ref tb) → Arv Z h1 tb kt .byte (9 : Int32) vt (.int (0 : Int32)) → Exa Z h1 gr "com/example/wanderpath/wanderpath/Grid" → Fld Z h1 gr "com/example/wanderpath/wanderpath/Grid" "stride" "I" (.int (5 : Int32)) → Fld Z h1 gr "com/example/wanderpath/wanderpath/Grid" "blocked" "[Z" (.ref bk) → Arv Z h1 bk kb .boolean (25 : Int32) vs (.int (0 : Int32)) → own_inv tv j vs → Gl p e below s QQ CC NN T0 (mkF m 277 #[vR gr, vR a, vR mv, vI (25 : Int32), vI j, vI p5, vI p6] []) := by
  intro n
  induction n with
  | zero =>
    intro j p5 p6 T0 h1 locs vs hj hj0 X0 e1 N0 Z0 K0 S0 EL FC FV VB Em F0 F1 F2 Vt Eg FS FB Vb I
    refine Gl.st (g' := (mkF m 280 #[vR gr, vR a, vR mv, vI (25 : Int32), vI j, vI p5, vI p6] [(.int (25 : Int32)), (.int j)])) (fun τ κ => XS.iload X0.here hx rfl (hb hby d16_277) rfl (XS.iloadN X0.here hx rfl (hb hby d16_279) rfl κ)) ?_
    have hc163 : ¬ (j < (25 : Int32)) := own_ke hj
    refine Gl.st (g' := (mkF m 345 #[vR gr, vR a, vR mv, vI (25 : Int32), vI j, vI p5, vI p6] [])) (fun τ κ => XS.icmpYes X0.here hx rfl (pc0 := 280) (pc' := 345) rfl (hb hby d16_280) rfl (flt hc163).2.1 (by decide) (by decide) κ) ?_
    exact cont _ _ _ _ _ _ _ X0 e1 N0 K0 Vb (own_inve hj I)
  | succ n ih =>
    intro j p5 p6 T0 h1 locs vs hj hj0 X0 e1 N0 Z0 K0 S0 EL FC FV VB Em F0 F1 F2 Vt Eg FS FB Vb I
    refine Gl.st (g' := (mkF m 280 #[vR gr, vR a, vR mv, vI (25 : Int32), vI j, vI p5, vI p6] [(.int (25 : Int32)), (.int j)])) (fun τ κ => XS.iload X0.here hx rfl (hb hby d16_277) rfl (XS.iloadN X0.here hx rfl (hb hby d16_279) rfl κ)) ?_
    have hc164 : j < (25 : Int32) := (own_kl hj hj0).2
    refine Gl.st (g' := (mkF m 285 #[vR gr, vR a, vR mv, vI (25 : Int32), vI j, vI p5, vI p6] [(.int j)])) (fun τ κ => XS.icmpNo X0.here hx rfl (hb hby d16_280) rfl (tlt hc164).2.1 (XS.iload X0.here hx rfl (hb hby d16_283) rfl κ)) ?_
    refine Gl.st (g' := (mkF m 286 #[vR gr, vR a, vR mv, vI (25 : Int32), vI j, vI p5, vI p6] [(.ref gr), (.int j)])) (fun τ κ => XS.aloadN X0.here hx rfl (hb hby d16_285) rfl rfl κ) ?_
    obtain ⟨T165, X165, e165, st165⟩ := getF X0 hx hZ hown (host := "") (Or.inl (w97_ hw)) Via.refl e1 FS (g := (mkF m 286 #[vR gr, vR a, vR mv, vI (25 : Int32), vI j, vI p5, vI p6] [(.ref gr), (.int j)])) rfl rfl (hb hby d16_286)
    refine Gl.st (g' := (mkF m 289 #[vR gr, vR a, vR mv, vI (25 : Int32), vI j, vI p5, vI p6] [(.int (5 : Int32)), (.int j)])) (fun τ κ => st165 _ κ) ?_
    refine Gl.st (g' := (mkF m 290 #[vR gr, vR a, vR mv, vI (25 : Int32), vI j, vI p5, vI p6] [(.int (j % (5 : Int32)))])) (fun τ κ => iremM (g := (mkF m 289 #[vR gr, vR a, vR mv, vI (25 : Int32), vI j, vI p5, vI p6] [(.int (5 : Int32)), (.int j)])) X165 hx rfl (hb hby d16_289) rfl (by decide) κ) ?_
    refine Gl.st (g' := (mkF m 292 #[vR gr, vR a, vR mv, vI (25 : Int32), vI j, vI p5, vI p6] [(.int ((j % (5 : Int32)) - (1 : Int32)))])) (fun τ κ => XS.iconst X165.here hx rfl (hb hby d16_290) (XS.isub X165.here hx rfl (hb hby d16_291) rfl κ)) ?_
    refine Gl.st (g' := (mkF m 296 #[vR gr, vR a, vR mv, vI (25 : Int32), vI j, vI ((j % (5 : Int32)) - (1 : Int32)), vI p6] [(.int j)])) (fun τ κ => XS.istore X165.here hx rfl (hb hby d16_292) rfl (l' := #[vR gr, vR a, vR mv, vI (25 : Int32), vI j, vI ((j % (5 : Int32)) - (1 : Int32)), vI p6]) rfl (XS.iload X165.here hx rfl (hb hby d16_294) rfl κ)) ?_
    refine Gl.st (g' := (mkF m 297 #[vR gr, vR a, vR mv, vI (25 : Int32), vI j, vI ((j % (5 : Int32)) - (1 : Int32)), vI p6] [(.ref gr), (.int j)])) (fun τ κ => XS.aloadN X165.here hx rfl (hb hby d16_296) rfl rfl κ) ?_
    obtain ⟨T166, X166, e166, st166⟩ := getF X165 hx hZ hown (host := "") (Or.inl (w97_ hw)) Via.refl e165 FS (g := (mkF m 297 #[vR gr, vR a, vR mv, vI (25 : Int32), vI j, vI ((j % (5 : Int32)) - (1 : Int32)), vI p6] [(.ref gr), (.int j)])) rfl rfl (hb hby d16_297)
    refine Gl.st (g' := (mkF m 300 #[vR gr, vR a, vR mv, vI (25 : Int32), vI j, vI ((j % (5 : Int32)) - (1 : Int32)), vI p6] [(.int (5 : Int32)), (.int j)])) (fun τ κ => st166 _ κ) ?_
    refine Gl.st (g' := (mkF m 302 #[vR gr, vR a, vR mv, vI (25 : Int32), vI j, vI ((j % (5 : Int32)) - (1 : Int32)), vI p6] [(.int (1 : Int32)), (.int (j / (5 : Int32)))])) (fun τ κ => XS.idiv X166.here hx rfl (hb hby d16_300) rfl (by decide) (XS.iconst X166.here hx rfl (hb hby d16_301) κ)) ?_
    refine Gl.st (g' := (mkF m 305 #[vR gr, vR a, vR mv, vI (25 : Int32), vI j, vI ((j % (5 : Int32)) - (1 : Int32)), vI ((j / (5 : Int32)) - (1 : Int32))] [])) (fun τ κ => XS.isub X166.here hx rfl (hb hby d16_302) rfl (XS.istore X166.here hx rfl (hb hby d16_303) rfl (l' := #[vR gr, vR a, vR mv, vI (25 : Int32), vI j, vI ((j % (5 : Int32)) - (1 : Int32)), vI ((j / (5 : Int32)) - (1 : Int32))]) rfl κ)) ?_
    refine Gl.st (g' := (mkF m 306 #[vR gr, vR a, vR mv, vI (25 : Int32), vI j, vI ((j % (5 : Int32)) - (1 : Int32)), vI ((j / (5 : Int32)) - (1 : Int32))] [(.ref gr)])) (fun τ κ => XS.aloadN X166.here hx rfl (hb hby d16_305) rfl rfl κ) ?_
    obtain ⟨T167, X167, e167, st167⟩ := getF X166 hx hZ hown (host := "") (Or.inl (w113_ hw)) Via.refl e166 FB (g := (mkF m 306 #[vR gr, vR a, vR mv, vI (25 : Int32), vI j, vI ((j % (5 : Int32)) - (1 : Int32)), vI ((j / (5 : Int32)) - (1 : Int32))] [(.ref gr)])) rfl rfl (hb hby d16_306)
    refine Gl.st (g' := (mkF m 309 #[vR gr, vR a, vR mv, vI (25 : Int32), vI j, vI ((j % (5 : Int32)) - (1 : Int32)), vI ((j / (5 : Int32)) - (1 : Int32))] [(.ref bk)])) (fun τ κ => st167 _ κ) ?_
    refine Gl.st (g' := (mkF m 312 #[vR gr, vR a, vR mv, vI (25 : Int32), vI j, vI ((j % (5 : Int32)) - (1 : Int32)), vI ((j / (5 : Int32)) - (1 : Int32))] [(.ref a), (.int j), (.ref bk)])) (fun τ κ => XS.iload X167.here hx rfl (hb hby d16_309) rfl (XS.aloadN X167.here hx rfl (hb hby d16_311) rfl rfl κ)) ?_
    refine Gl.st (g' := (mkF m 316 #[vR gr, vR a, vR mv, vI (25 : Int32), vI j, vI ((j % (5 : Int32)) - (1 : Int32)), vI ((j / (5 : Int32)) - (1 : Int32))] [(.int ((j / (5 : Int32)) - (1 : Int32))), (.int ((j % (5 : Int32)) - (1 : Int32))), (.ref a), (.int j), (.ref bk)])) (fun τ κ => XS.iload X167.here hx rfl (hb hby d16_312) rfl (XS.iload X167.here hx rfl (hb hby d16_314) rfl κ)) ?_
    obtain ⟨cq168, kq168, q168a, q168b, q168c⟩ := isOf hZ e167 Em
    obtain ⟨rv168, _, ⟨T168, L168, k168, n168⟩, -, X168, ⟨Lc168, hQ168, l168, y168, z168⟩, st168⟩ := X167.virtualBack hx (y := (⟨"com/example/wanderpath/wanderpath/TileMap", "contains", "(II)Z"⟩ : MethodName)) (z := (⟨"com/example/wanderpath/wanderpath/TileMap", "contains", "(II)Z"⟩ : MethodName)) hown (mvT hZ (w115_ hw)) (mvT hZ (w116_ hw)) (notFace_of_selects (args := #[]) (mvT hZ (w118_ hw))) (mvT hZ (w118_ hw)) (mvT hZ (w117_ hw)) (by decide) (backOf (W := 2) (rm19 l Z a0 hw [] a ((j % (5 : Int32)) - (1 : Int32)) ((j / (5 : Int32)) - (1 : Int32)) h1 n0 Z0 Em F0 F1) hZ (w119_ hw) (w12_ hw) (by decide) (by decide)) q168a q168c (g := (mkF m 316 #[vR gr, vR a, vR mv, vI (25 : Int32), vI j, vI ((j % (5 : Int32)) - (1 : Int32)), vI ((j / (5 : Int32)) - (1 : Int32))] [(.int ((j / (5 : Int32)) - (1 : Int32))), (.int ((j % (5 : Int32)) - (1 : Int32))), (.ref a), (.int j), (.ref bk)])) rfl (by rw [hml]; rfl) (Steps.refl _) (argsL := [(.int ((j % (5 : Int32)) - (1 : Int32))), (.int ((j / (5 : Int32)) - (1 : Int32)))]) (rest := [(.int j), (.ref bk)]) (lenOf pd_8 rfl) rfl (by show 2 * 0 + _ ≤ _; exact Nat.le_of_eq rfl) (hb hby d16_316) (fun _ _ => ⟨rfl, e167, Nat.le_of_ble_eq_true rfl, Nat.le_of_ble_eq_true rfl⟩)
    dsimp only [Pt.U, Pt.locs, Pt.cells, Pt.slots] at X168 l168 y168 z168 st168 hQ168
    subst l168 y168 z168
    have X168 := X168.more (cells' := 4) (slots' := 49) (by decide) (by decide)
    obtain ⟨hq168, N168q, e168⟩ := hQ168
    have hq168 : rv168 = some (.int (own_in ((j % (5 : Int32)) - (1 : Int32)) ((j / (5 : Int32)) - (1 : Int32)))) := hq168
    subst hq168
    have N168 := Fr.app N0 N168q
    obtain ⟨Lw168, X168, N168⟩ := own_locG X168 N168
    refine Gl.st (g' := (mkF m 319 #[vR gr, vR a, vR mv, vI (25 : Int32), vI j, vI ((j % (5 : Int32)) - (1 : Int32)), vI ((j / (5 : Int32)) - (1 : Int32))] [(.int (own_in ((j % (5 : Int32)) - (1 : Int32)) ((j / (5 : Int32)) - (1 : Int32)))), (.int j), (.ref bk)])) (fun τ κ => st168.trans κ) ?_
    by_cases hc169 : (own_in ((j % (5 : Int32)) - (1 : Int32)) ((j / (5 : Int32)) - (1 : Int32))) = (0 : Int32)
    · -- pc 319: (own_in ((j % (5 : Int32)) - (1 : Int32)) ((j / (5 : Int32)) - (1 : Int32))) = (0 : Int32)
      refine Gl.st (g' := (mkF m 334 #[vR gr, vR a, vR mv, vI (25 : Int32), vI j, vI ((j % (5 : Int32)) - (1 : Int32)), vI ((j / (5 : Int32)) - (1 : Int32))] [(.int (1 : Int32)), (.int j), (.ref bk)])) (fun τ κ => XS.ifYes X168.here hx rfl (pc0 := 319) (pc' := 333) rfl (hb hby d16_319) rfl ((if0 _ _).trans (teq hc169).1) (by decide) (by decide) (XS.iconst X168.here hx rfl (hb hby d16_333) κ)) ?_
      refine Gl.st (g' := (mkF m 338 #[vR gr, vR a, vR mv, vI (25 : Int32), vI j, vI ((j % (5 : Int32)) - (1 : Int32)), vI ((j / (5 : Int32)) - (1 : Int32))] [(.int (1 : Int32)), (.int j), (.ref bk)])) (fun τ κ => XS.goto X168.here hx rfl (pc0 := 334) (pc' := 338) rfl (hb hby d16_334) (by decide) (by decide) κ) ?_
      obtain ⟨cl_o170, Ar_o170, q_o170, S_o170, M_o170, H_o170, G_o170⟩ := id Vb
      have hin_o170 : ¬ (j < 0 ∨ cl_o170.slots.size ≤ (j).toNatClampNeg) := inb_of S_o170 (own_kl hj hj0)
      obtain ⟨T171, h171, X171, e171, W171, st171⟩ := stZ X168 hx hZ e168 Ar_o170 (j := j) hin_o170 (g := (mkF m 338 #[vR gr, vR a, vR mv, vI (25 : Int32), vI j, vI ((j % (5 : Int32)) - (1 : Int32)), vI ((j / (5 : Int32)) - (1 : Int32))] [(.int (1 : Int32)), (.int j), (.ref bk)])) rfl rfl (hb hby d16_338)
      obtain ⟨vs171, hvs171⟩ := own_upd vs (j).toNatClampNeg (.int (1 : Int32)) (.int (0 : Int32))
      have V_172 := VB.other W171 n_lb
      have E_173 := EL.wr W171
      have F_174 := FC.other W171 (Or.inl n_la)
      have F_175 := FV.other W171 (Or.inl n_la)
      have S_176 := S0.wr W171
      have E_177 := Em.wr W171
      have F_178 := F0.other W171 (Or.inl n_a)
      have F_179 := F1.other W171 (Or.inl n_a)
      have F_180 := F2.other W171 (Or.inl n_a)
      have V_181 := Vt.other W171 n_tb
      have E_182 := Eg.wr W171
      have F_183 := FS.other W171 (Or.inl n_gr)
      have F_184 := FB.other W171 (Or.inl n_gr)
      obtain ⟨Lw171, X171, N171⟩ := own_locG X171 (Fr.snoc X171 N168 gb)
      have Z171 : n0 ≤ h171.size := Nat.le_trans Z0 (Nat.le_of_eq W171.size.symm)
      have K171 : Keep hs h171 [bk] := K0.wr W171 (Or.inl (List.mem_of_getElem? (i := 0) rfl))
      have V_bk_171 : Arv Z h171 bk kb .boolean (25 : Int32) vs171 (.int (0 : Int32)) := own_set Ar_o170 q_o170 S_o170 M_o170 H_o170 G_o170 rfl W171 hvs171
      refine Gl.st (g' := (mkF m 339 #[vR gr, vR a, vR mv, vI (25 : Int32), vI j, vI ((j % (5 : Int32)) - (1 : Int32)), vI ((j / (5 : Int32)) - (1 : Int32))] [])) (fun τ κ => st171 _ κ) ?_
      refine Gl.st (g' := (mkF m 277 #[vR gr, vR a, vR mv, vI (25 : Int32), vI (j + (1 : Int32)), vI ((j % (5 : Int32)) - (1 : Int32)), vI ((j / (5 : Int32)) - (1 : Int32))] [])) (fun τ κ => XS.iinc X171.here hx rfl (hb hby d16_339) rfl (l' := #[vR gr, vR a, vR mv, vI (25 : Int32), vI (j + (1 : Int32)), vI ((j % (5 : Int32)) - (1 : Int32)), vI ((j / (5 : Int32)) - (1 : Int32))]) rfl (XS.goto X171.here hx rfl (pc0 := 342) (pc' := 277) rfl (hb hby d16_342) (by decide) (by decide) κ)) ?_
      exact ih _ _ _ _ _ _ _ (own_k1 hj hj0).1 (own_k1 hj hj0).2 X171 e171 N171 Z171 K171 S_176 E_173 F_174 F_175 V_172 E_177 F_178 F_179 F_180 V_181 E_182 F_183 F_184 V_bk_171 (own_inv1 I hj hj0 hvs171 (own_b1 hc169))
    · -- pc 319: not (own_in ((j % (5 : Int32)) - (1 : Int32)) ((j / (5 : Int32)) - (1 : Int32))) = (0 : Int32)
      refine Gl.st (g' := (mkF m 323 #[vR gr, vR a, vR mv, vI (25 : Int32), vI j, vI ((j % (5 : Int32)) - (1 : Int32)), vI ((j / (5 : Int32)) - (1 : Int32))] [(.ref a), (.int j), (.ref bk)])) (fun τ κ => XS.ifNo X168.here hx rfl (hb hby d16_319) rfl ((if0 _ _).trans (feq hc169).1) (XS.aloadN X168.here hx rfl (hb hby d16_322) rfl rfl κ)) ?_
      refine Gl.st (g' := (mkF m 327 #[vR gr, vR a, vR mv, vI (25 : Int32), vI j, vI ((j % (5 : Int32)) - (1 : Int32)), vI ((j / (5 : Int32)) - (1 : Int32))] [(.int ((j / (5 : Int32)) - (1 : Int32))), (.int ((j % (5 : Int32)) - (1 : Int32))), (.ref a), (.int j), (.ref bk)])) (fun τ κ => XS.iload X168.here hx rfl (hb hby d16_323) rfl (XS.iload X168.here hx rfl (hb hby d16_325) rfl κ)) ?_
      obtain ⟨cq186, kq186, q186a, q186b, q186c⟩ := isOf hZ e168 Em
      obtain ⟨rv186, _, ⟨T186, L186, k186, n186⟩, -, X186, ⟨Lc186, hQ186, l186, y186, z186⟩, st186⟩ := X168.virtualBack hx (y := (⟨"com/example/wanderpath/wanderpath/TileMap", "isPassable", "(II)Z"⟩ : MethodName)) (z := (⟨"com/example/wanderpath/wanderpath/TileMap", "isPassable", "(II)Z"⟩ : MethodName)) hown (mvT hZ (w120_ hw)) (mvT hZ (w121_ hw)) (notFace_of_selects (args := #[]) (mvT hZ (w123_ hw))) (mvT hZ (w123_ hw)) (mvT hZ (w122_ hw)) (by decide) (backOfL (W := 2) (rm20 l Z a0 hw [] a ((j % (5 : Int32)) - (1 : Int32)) ((j / (5 : Int32)) - (1 : Int32)) tb la kt vt tv lb lk cs h1 n0 Z0 S0 hcs EL FC FV VB Em F0 F1 F2 Vt HT (own_in1 hc169)) hZ (w124_ hw) (w12_ hw) (by decide) (by decide) hL0) q186a q186c (g := (mkF m 327 #[vR gr, vR a, vR mv, vI (25 : Int32), vI j, vI ((j % (5 : Int32)) - (1 : Int32)), vI ((j / (5 : Int32)) - (1 : Int32))] [(.int ((j / (5 : Int32)) - (1 : Int32))), (.int ((j % (5 : Int32)) - (1 : Int32))), (.ref a), (.int j), (.ref bk)])) rfl (by rw [hml]; rfl) (Steps.refl _) (argsL := [(.int ((j % (5 : Int32)) - (1 : Int32))), (.int ((j / (5 : Int32)) - (1 : Int32)))]) (rest := [(.int j), (.ref bk)]) (lenOf pd_8 rfl) rfl (by show 2 * 0 + _ ≤ _; exact Nat.le_of_eq rfl) (hb hby d16_327) (fun _ _ => ⟨rfl, e168, Nat.le_of_ble_eq_true rfl, Nat.le_of_ble_eq_true rfl⟩)
      dsimp only [Pt.U, Pt.locs, Pt.cells, Pt.slots] at X186 l186 y186 z186 st186 hQ186
      subst l186 y186 z186
      have X186 := X186.more (cells' := 4) (slots' := 49) (by decide) (by decide)
      obtain ⟨hq186, N186q, e186⟩ := hQ186
      have hq186 : rv186 = some (.int (own_bit tv (own_id ((j % (5 : Int32)) - (1 : Int32)) ((j / (5 : Int32)) - (1 : Int32))))) := hq186
      subst hq186
      have N186 := Fr.app N168 N186q
      obtain ⟨Lw186, X186, N186⟩ := own_locG X186 N186
      refine Gl.st (g' := (mkF m 330 #[vR gr, vR a, vR mv, vI (25 : Int32), vI j, vI ((j % (5 : Int32)) - (1 : Int32)), vI ((j / (5 : Int32)) - (1 : Int32))] [(.int (own_bit tv (own_id ((j % (5 : Int32)) - (1 : Int32)) ((j / (5 : Int32)) - (1 : Int32))))), (.int j), (.ref bk)])) (fun τ κ => st186.trans κ) ?_
      by_cases hc187 : (own_bit tv (own_id ((j % (5 : Int32)) - (1 : Int32)) ((j / (5 : Int32)) - (1 : Int32)))) = (0 : Int32)
      · -- pc 330: (own_bit tv (own_id ((j % (5 : Int32)) - (1 : Int32)) ((j / (5 : Int32)) - (1 : Int32)))) = (0 : Int32)
        refine Gl.st (g' := (mkF m 334 #[vR gr, vR a, vR mv, vI (25 : Int32), vI j, vI ((j % (5 : Int32)) - (1 : Int32)), vI ((j / (5 : Int32)) - (1 : Int32))] [(.int (1 : Int32)), (.int j), (.ref bk)])) (fun τ κ => XS.ifNo X186.here hx rfl (hb hby d16_330) rfl ((if0 _ _).trans (teq hc187).2) (XS.iconst X186.here hx rfl (hb hby d16_333) κ)) ?_
        refine Gl.st (g' := (mkF m 338 #[vR gr, vR a, vR mv, vI (25 : Int32), vI j, vI ((j % (5 : Int32)) - (1 : Int32)), vI ((j / (5 : Int32)) - (1 : Int32))] [(.int (1 : Int32)), (.int j), (.ref bk)])) (fun τ κ => XS.goto X186.here hx rfl (pc0 := 334) (pc' := 338) rfl (hb hby d16_334) (by decide) (by decide) κ) ?_
        obtain ⟨cl_o188, Ar_o188, q_o188, S_o188, M_o188, H_o188, G_o188⟩ := id Vb
        have hin_o188 : ¬ (j < 0 ∨ cl_o188.slots.size ≤ (j).toNatClampNeg) := inb_of S_o188 (own_kl hj hj0)
        obtain ⟨T189, h189, X189, e189, W189, st189⟩ := stZ X186 hx hZ e186 Ar_o188 (j := j) hin_o188 (g := (mkF m 338 #[vR gr, vR a, vR mv, vI (25 : Int32), vI j, vI ((j % (5 : Int32)) - (1 : Int32)), vI ((j / (5 : Int32)) - (1 : Int32))] [(.int (1 : Int32)), (.int j), (.ref bk)])) rfl rfl (hb hby d16_338)
        obtain ⟨vs189, hvs189⟩ := own_upd vs (j).toNatClampNeg (.int (1 : Int32)) (.int (0 : Int32))
        have V_190 := VB.other W189 n_lb
        have E_191 := EL.wr W189
        have F_192 := FC.other W189 (Or.inl n_la)
        have F_193 := FV.other W189 (Or.inl n_la)
        have S_194 := S0.wr W189
        have E_195 := Em.wr W189
        have F_196 := F0.other W189 (Or.inl n_a)
        have F_197 := F1.other W189 (Or.inl n_a)
        have F_198 := F2.other W189 (Or.inl n_a)
        have V_199 := Vt.other W189 n_tb
        have E_200 := Eg.wr W189
        have F_201 := FS.other W189 (Or.inl n_gr)
        have F_202 := FB.other W189 (Or.inl n_gr)
        obtain ⟨Lw189, X189, N189⟩ := own_locG X189 (Fr.snoc X189 N186 gb)
        have Z189 : n0 ≤ h189.size := Nat.le_trans Z0 (Nat.le_of_eq W189.size.symm)
        have K189 : Keep hs h189 [bk] := K0.wr W189 (Or.inl (List.mem_of_getElem? (i := 0) rfl))
        have V_bk_189 : Arv Z h189 bk kb .boolean (25 : Int32) vs189 (.int (0 : Int32)) := own_set Ar_o188 q_o188 S_o188 M_o188 H_o188 G_o188 rfl W189 hvs189
        refine Gl.st (g' := (mkF m 339 #[vR gr, vR a, vR mv, vI (25 : Int32), vI j, vI ((j % (5 : Int32)) - (1 : Int32)), vI ((j / (5 : Int32)) - (1 : Int32))] [])) (fun τ κ => st189 _ κ) ?_
        refine Gl.st (g' := (mkF m 277 #[vR gr, vR a, vR mv, vI (25 : Int32), vI (j + (1 : Int32)), vI ((j % (5 : Int32)) - (1 : Int32)), vI ((j / (5 : Int32)) - (1 : Int32))] [])) (fun τ κ => XS.iinc X189.here hx rfl (hb hby d16_339) rfl (l' := #[vR gr, vR a, vR mv, vI (25 : Int32), vI (j + (1 : Int32)), vI ((j % (5 : Int32)) - (1 : Int32)), vI ((j / (5 : Int32)) - (1 : Int32))]) rfl (XS.goto X189.here hx rfl (pc0 := 342) (pc' := 277) rfl (hb hby d16_342) (by decide) (by decide) κ)) ?_
        exact ih _ _ _ _ _ _ _ (own_k1 hj hj0).1 (own_k1 hj hj0).2 X189 e189 N189 Z189 K189 S_194 E_191 F_192 F_193 V_190 E_195 F_196 F_197 F_198 V_199 E_200 F_201 F_202 V_bk_189 (own_inv1 I hj hj0 hvs189 (own_b2 hc169 hc187))
      · -- pc 330: not (own_bit tv (own_id ((j % (5 : Int32)) - (1 : Int32)) ((j / (5 : Int32)) - (1 : Int32)))) = (0 : Int32)
        refine Gl.st (g' := (mkF m 338 #[vR gr, vR a, vR mv, vI (25 : Int32), vI j, vI ((j % (5 : Int32)) - (1 : Int32)), vI ((j / (5 : Int32)) - (1 : Int32))] [(.int (0 : Int32)), (.int j), (.ref bk)])) (fun τ κ => XS.ifYes X186.here hx rfl (pc0 := 330) (pc' := 337) rfl (hb hby d16_330) rfl ((if0 _ _).trans (feq hc187).2) (by decide) (by decide) (XS.iconst X186.here hx rfl (hb hby d16_337) κ)) ?_
        obtain ⟨cl_o204, Ar_o204, q_o204, S_o204, M_o204, H_o204, G_o204⟩ := id Vb
        have hin_o204 : ¬ (j < 0 ∨ cl_o204.slots.size ≤ (j).toNatClampNeg) := inb_of S_o204 (own_kl hj hj0)
        obtain ⟨T205, h205, X205, e205, W205, st205⟩ := stZ X186 hx hZ e186 Ar_o204 (j := j) hin_o204 (g := (mkF m 338 #[vR gr, vR a, vR mv, vI (25 : Int32), vI j, vI ((j % (5 : Int32)) - (1 : Int32)), vI ((j / (5 : Int32)) - (1 : Int32))] [(.int (0 : Int32)), (.int j), (.ref bk)])) rfl rfl (hb hby d16_338)
        obtain ⟨vs205, hvs205⟩ := own_upd vs (j).toNatClampNeg (.int (0 : Int32)) (.int (0 : Int32))
        have V_206 := VB.other W205 n_lb
        have E_207 := EL.wr W205
        have F_208 := FC.other W205 (Or.inl n_la)
        have F_209 := FV.other W205 (Or.inl n_la)
        have S_210 := S0.wr W205
        have E_211 := Em.wr W205
        have F_212 := F0.other W205 (Or.inl n_a)
        have F_213 := F1.other W205 (Or.inl n_a)
        have F_214 := F2.other W205 (Or.inl n_a)
        have V_215 := Vt.other W205 n_tb
        have E_216 := Eg.wr W205
        have F_217 := FS.other W205 (Or.inl n_gr)
        have F_218 := FB.other W205 (Or.inl n_gr)
        obtain ⟨Lw205, X205, N205⟩ := own_locG X205 (Fr.snoc X205 N186 gb)
        have Z205 : n0 ≤ h205.size := Nat.le_trans Z0 (Nat.le_of_eq W205.size.symm)
        have K205 : Keep hs h205 [bk] := K0.wr W205 (Or.inl (List.mem_of_getElem? (i := 0) rfl))
        have V_bk_205 : Arv Z h205 bk kb .boolean (25 : Int32) vs205 (.int (0 : Int32)) := own_set Ar_o204 q_o204 S_o204 M_o204 H_o204 G_o204 rfl W205 hvs205
        refine Gl.st (g' := (mkF m 339 #[vR gr, vR a, vR mv, vI (25 : Int32), vI j, vI ((j % (5 : Int32)) - (1 : Int32)), vI ((j / (5 : Int32)) - (1 : Int32))] [])) (fun τ κ => st205 _ κ) ?_
        refine Gl.st (g' := (mkF m 277 #[vR gr, vR a, vR mv, vI (25 : Int32), vI (j + (1 : Int32)), vI ((j % (5 : Int32)) - (1 : Int32)), vI ((j / (5 : Int32)) - (1 : Int32))] [])) (fun τ κ => XS.iinc X205.here hx rfl (hb hby d16_339) rfl (l' := #[vR gr, vR a, vR mv, vI (25 : Int32), vI (j + (1 : Int32)), vI ((j % (5 : Int32)) - (1 : Int32)), vI ((j / (5 : Int32)) - (1 : Int32))]) rfl (XS.goto X205.here hx rfl (pc0 := 342) (pc' := 277) rfl (hb hby d16_342) (by decide) (by decide) κ)) ?_
        exact ih _ _ _ _ _ _ _ (own_k1 hj hj0).1 (own_k1 hj hj0).2 X205 e205 N205 Z205 K205 S_210 E_207 F_208 F_209 V_206 E_211 F_212 F_213 F_214 V_215 E_216 F_217 F_218 V_bk_205 (own_inv1 I hj hj0 hvs205 (own_b3 hc169 hc187))
set_option maxRecDepth 65536 in
set_option maxHeartbeats 40000000 in
theorem own_g0 {p : Program} {l : Launch} {e : Env} {s : State} {m : MethodId} {args : Array Value} {below : List Frame} {meth : Method} {c : Code} {Z : State} {a0 : Array Value} {QQ : Option Value → Heap → List Loc → Prop} {CC NN : Nat} (hx : p.tables.exec = Jvm.exec) (hZ : Z.Warmed39 s.vm) (hw : ∀ d ∈ tables_1, d.before a0 Z = true) (hby : c.code = prog_11_method_1_code) (hml : c.maxLocals = 7) (hown : s.vm.findClass "com/example/wanderpath/wanderpath/Grid" = some m.cls) {gr a mv tb la lb bk : Addr} {kt lk kb : ClassId} {tv cs : Int32} {vt : List Value} {n0 : Nat} {hs : Heap} (hcs : ¬ cs = (0 : Int32)) (HT : ∀ i, ¬ i < 0 → i < (9 : Int32) → vt.getD i.toNatClampNeg (.int (0 : Int32)) = .int (own_tile tv i)) (hL0 : Lit s "com/example/wanderpath/wanderpath/TileMap" 120 la) (gb : n0 ≤ bk) (n_gr : gr ≠ bk) (n_a : a ≠ bk) (n_tb : tb ≠ bk) (n_la : la ≠ bk) (n_lb : lb ≠ bk) (cont : ∀ (T' : State) (h' : Heap) (locs' : List Loc) (vs : List Value) (j p5 p6 : Int32), Stand p l e ({ frames := 6, cells := 4, slots := 49, locals := 88 } : Room) s m args below meth c T' locs' 4 49 → T'.heap = h' → Fr n0 locs' → Keep hs h' [bk] → Arv Z h' bk kb .boolean (25 : Int32) vs (.int (0 : Int32)) → own_inv tv (25 : Int32) vs → Gl p e below s QQ CC NN T' (mkF m 345 #[vR gr, vR a, vR mv, vI (25 : Int32), vI j, vI p5, vI p6] [])) :
    ∀ (j : Int32) (T0 : State) (h1 : Heap) (locs : List Loc) (vs : List Value), j.toInt + ((24 + 1 : Nat) : Int) = 25 → 0 ≤ j.toInt → Stand p l e ({ frames := 6, cells := 4, slots := 49, locals := 88 } : Room) s m args below meth c T0 locs 4 49 → T0.heap = h1 → Fr n0 locs → n0 ≤ h1.size → Keep hs h1 [bk] → Sta Z h1 "java/lang/String" "COMPACT_STRINGS" "Z" (.int cs) → Exa Z h1 la "java/lang/String" → Fld Z h1 la "java/lang/String" "coder" "B" (.int (0 : Int32)) → Fld Z h1 la "java/lang/String" "value" "[B" (.ref lb) → Arv Z h1 lb lk .byte (3 : Int32) [(.int (46 : Int32)), (.int (71 : Int32)), (.int (83 : Int32))] (.int (0 : Int32)) → Exa Z h1 a "com/example/wanderpath/wanderpath/TileMap" → Fld Z h1 a "com/example/wanderpath/wanderpath/TileMap" "width" "I" (.int (3 : Int32)) → Fld Z h1 a "com/example/wanderpath/wanderpath/TileMap" "height" "I" (.int (3 : Int32)) → Fld Z h1 a "com/example/wanderpath/wanderpath/TileMap" "tiles" "[B" (.ref tb) → Arv Z h1 tb kt .byte (9 : Int32) vt (.int (0 : Int32)) → Exa Z h1 gr "com/example/wanderpath/wanderpath/Grid" → Fld Z h1 gr "com/example/wanderpath/wanderpath/Grid" "stride" "I" (.int (5 : Int32)) → Fld Z h1 gr "com/example/wanderpath/wanderpath/Grid" "blocked" "[Z" (.ref bk) → Arv Z h1 bk kb .boolean (25 : Int32) vs (.int (0 : Int32)) → own_inv tv j vs → Gl p e below s QQ CC NN T0 (mkF m 277 #[vR gr, vR a, vR mv, vI (25 : Int32), vI j, .unset, .unset] []) := by
  intro j T0 h1 locs vs hj hj0 X0 e1 N0 Z0 K0 S0 EL FC FV VB Em F0 F1 F2 Vt Eg FS FB Vb I
  refine Gl.st (g' := (mkF m 280 #[vR gr, vR a, vR mv, vI (25 : Int32), vI j, .unset, .unset] [(.int (25 : Int32)), (.int j)])) (fun τ κ => XS.iload X0.here hx rfl (hb hby d16_277) rfl (XS.iloadN X0.here hx rfl (hb hby d16_279) rfl κ)) ?_
  have hc220 : j < (25 : Int32) := (own_kl hj hj0).2
  refine Gl.st (g' := (mkF m 285 #[vR gr, vR a, vR mv, vI (25 : Int32), vI j, .unset, .unset] [(.int j)])) (fun τ κ => XS.icmpNo X0.here hx rfl (hb hby d16_280) rfl (tlt hc220).2.1 (XS.iload X0.here hx rfl (hb hby d16_283) rfl κ)) ?_
  refine Gl.st (g' := (mkF m 286 #[vR gr, vR a, vR mv, vI (25 : Int32), vI j, .unset, .unset] [(.ref gr), (.int j)])) (fun τ κ => XS.aloadN X0.here hx rfl (hb hby d16_285) rfl rfl κ) ?_
  obtain ⟨T221, X221, e221, st221⟩ := getF X0 hx hZ hown (host := "") (Or.inl (w97_ hw)) Via.refl e1 FS (g := (mkF m 286 #[vR gr, vR a, vR mv, vI (25 : Int32), vI j, .unset, .unset] [(.ref gr), (.int j)])) rfl rfl (hb hby d16_286)
  refine Gl.st (g' := (mkF m 289 #[vR gr, vR a, vR mv, vI (25 : Int32), vI j, .unset, .unset] [(.int (5 : Int32)), (.int j)])) (fun τ κ => st221 _ κ) ?_
  refine Gl.st (g' := (mkF m 290 #[vR gr, vR a, vR mv, vI (25 : Int32), vI j, .unset, .unset] [(.int (j % (5 : Int32)))])) (fun τ κ => iremM (g := (mkF m 289 #[vR gr, vR a, vR mv, vI (25 : Int32), vI j, .unset, .unset] [(.int (5 : Int32)), (.int j)])) X221 hx rfl (hb hby d16_289) rfl (by decide) κ) ?_
  refine Gl.st (g' := (mkF m 292 #[vR gr, vR a, vR mv, vI (25 : Int32), vI j, .unset, .unset] [(.int ((j % (5 : Int32)) - (1 : Int32)))])) (fun τ κ => XS.iconst X221.here hx rfl (hb hby d16_290) (XS.isub X221.here hx rfl (hb hby d16_291) rfl κ)) ?_
  refine Gl.st (g' := (mkF m 296 #[vR gr, vR a, vR mv, vI (25 : Int32), vI j, vI ((j % (5 : Int32)) - (1 : Int32)), .unset] [(.int j)])) (fun τ κ => XS.istore X221.here hx rfl (hb hby d16_292) rfl (l' := #[vR gr, vR a, vR mv, vI (25 : Int32), vI j, vI ((j % (5 : Int32)) - (1 : Int32)), .unset]) rfl (XS.iload X221.here hx rfl (hb hby d16_294) rfl κ)) ?_
  refine Gl.st (g' := (mkF m 297 #[vR gr, vR a, vR mv, vI (25 : Int32), vI j, vI ((j % (5 : Int32)) - (1 : Int32)), .unset] [(.ref gr), (.int j)])) (fun τ κ => XS.aloadN X221.here hx rfl (hb hby d16_296) rfl rfl κ) ?_
  obtain ⟨T222, X222, e222, st222⟩ := getF X221 hx hZ hown (host := "") (Or.inl (w97_ hw)) Via.refl e221 FS (g := (mkF m 297 #[vR gr, vR a, vR mv, vI (25 : Int32), vI j, vI ((j % (5 : Int32)) - (1 : Int32)), .unset] [(.ref gr), (.int j)])) rfl rfl (hb hby d16_297)
  refine Gl.st (g' := (mkF m 300 #[vR gr, vR a, vR mv, vI (25 : Int32), vI j, vI ((j % (5 : Int32)) - (1 : Int32)), .unset] [(.int (5 : Int32)), (.int j)])) (fun τ κ => st222 _ κ) ?_
  refine Gl.st (g' := (mkF m 302 #[vR gr, vR a, vR mv, vI (25 : Int32), vI j, vI ((j % (5 : Int32)) - (1 : Int32)), .unset] [(.int (1 : Int32)), (.int (j / (5 : Int32)))])) (fun τ κ => XS.idiv X222.here hx rfl (hb hby d16_300) rfl (by decide) (XS.iconst X222.here hx rfl (hb hby d16_301) κ)) ?_
  refine Gl.st (g' := (mkF m 305 #[vR gr, vR a, vR mv, vI (25 : Int32), vI j, vI ((j % (5 : Int32)) - (1 : Int32)), vI ((j / (5 : Int32)) - (1 : Int32))] [])) (fun τ κ => XS.isub X222.here hx rfl (hb hby d16_302) rfl (XS.istore X222.here hx rfl (hb hby d16_303) rfl (l' := #[vR gr, vR a, vR mv, vI (25 : Int32), vI j, vI ((j % (5 : Int32)) - (1 : Int32)), vI ((j / (5 : Int32)) - (1 : Int32))]) rfl κ)) ?_
  refine Gl.st (g' := (mkF m 306 #[vR gr, vR a, vR mv, vI (25 : Int32), vI j, vI ((j % (5 : Int32)) - (1 : Int32)), vI ((j / (5 : Int32)) - (1 : Int32))] [(.ref gr)])) (fun τ κ => XS.aloadN X222.here hx rfl (hb hby d16_305) rfl rfl κ) ?_
  obtain ⟨T223, X223, e223, st223⟩ := getF X222 hx hZ hown (host := "") (Or.inl (w113_ hw)) Via.refl e222 FB (g := (mkF m 306 #[vR gr, vR a, vR mv, vI (25 : Int32), vI j, vI ((j % (5 : Int32)) - (1 : Int32)), vI ((j / (5 : Int32)) - (1 : Int32))] [(.ref gr)])) rfl rfl (hb hby d16_306)
  refine Gl.st (g' := (mkF m 309 #[vR gr, vR a, vR mv, vI (25 : Int32), vI j, vI ((j % (5 : Int32)) - (1 : Int32)), vI ((j / (5 : Int32)) - (1 : Int32))] [(.ref bk)])) (fun τ κ => st223 _ κ) ?_
  refine Gl.st (g' := (mkF m 312 #[vR gr, vR a, vR mv, vI (25 : Int32), vI j, vI ((j % (5 : Int32)) - (1 : Int32)), vI ((j / (5 : Int32)) - (1 : Int32))] [(.ref a), (.int j), (.ref bk)])) (fun τ κ => XS.iload X223.here hx rfl (hb hby d16_309) rfl (XS.aloadN X223.here hx rfl (hb hby d16_311) rfl rfl κ)) ?_
  refine Gl.st (g' := (mkF m 316 #[vR gr, vR a, vR mv, vI (25 : Int32), vI j, vI ((j % (5 : Int32)) - (1 : Int32)), vI ((j / (5 : Int32)) - (1 : Int32))] [(.int ((j / (5 : Int32)) - (1 : Int32))), (.int ((j % (5 : Int32)) - (1 : Int32))), (.ref a), (.int j), (.ref bk)])) (fun τ κ => XS.iload X223.here hx rfl (hb hby d16_312) rfl (XS.iload X223.here hx rfl (hb hby d16_314) rfl κ)) ?_
  obtain ⟨cq224, kq224, q224a, q224b, q224c⟩ := isOf hZ e223 Em
  obtain ⟨rv224, _, ⟨T224, L224, k224, n224⟩, -, X224, ⟨Lc224, hQ224, l224, y224, z224⟩, st224⟩ := X223.virtualBack hx (y := (⟨"com/example/wanderpath/wanderpath/TileMap", "contains", "(II)Z"⟩ : MethodName)) (z := (⟨"com/example/wanderpath/wanderpath/TileMap", "contains", "(II)Z"⟩ : MethodName)) hown (mvT hZ (w115_ hw)) (mvT hZ (w116_ hw)) (notFace_of_selects (args := #[]) (mvT hZ (w118_ hw))) (mvT hZ (w118_ hw)) (mvT hZ (w117_ hw)) (by decide) (backOf (W := 2) (rm19 l Z a0 hw [] a ((j % (5 : Int32)) - (1 : Int32)) ((j / (5 : Int32)) - (1 : Int32)) h1 n0 Z0 Em F0 F1) hZ (w119_ hw) (w12_ hw) (by decide) (by decide)) q224a q224c (g := (mkF m 316 #[vR gr, vR a, vR mv, vI (25 : Int32), vI j, vI ((j % (5 : Int32)) - (1 : Int32)), vI ((j / (5 : Int32)) - (1 : Int32))] [(.int ((j / (5 : Int32)) - (1 : Int32))), (.int ((j % (5 : Int32)) - (1 : Int32))), (.ref a), (.int j), (.ref bk)])) rfl (by rw [hml]; rfl) (Steps.refl _) (argsL := [(.int ((j % (5 : Int32)) - (1 : Int32))), (.int ((j / (5 : Int32)) - (1 : Int32)))]) (rest := [(.int j), (.ref bk)]) (lenOf pd_8 rfl) rfl (by show 2 * 0 + _ ≤ _; exact Nat.le_of_eq rfl) (hb hby d16_316) (fun _ _ => ⟨rfl, e223, Nat.le_of_ble_eq_true rfl, Nat.le_of_ble_eq_true rfl⟩)
  dsimp only [Pt.U, Pt.locs, Pt.cells, Pt.slots] at X224 l224 y224 z224 st224 hQ224
  subst l224 y224 z224
  have X224 := X224.more (cells' := 4) (slots' := 49) (by decide) (by decide)
  obtain ⟨hq224, N224q, e224⟩ := hQ224
  have hq224 : rv224 = some (.int (own_in ((j % (5 : Int32)) - (1 : Int32)) ((j / (5 : Int32)) - (1 : Int32)))) := hq224
  subst hq224
  have N224 := Fr.app N0 N224q
  obtain ⟨Lw224, X224, N224⟩ := own_locG X224 N224
  refine Gl.st (g' := (mkF m 319 #[vR gr, vR a, vR mv, vI (25 : Int32), vI j, vI ((j % (5 : Int32)) - (1 : Int32)), vI ((j / (5 : Int32)) - (1 : Int32))] [(.int (own_in ((j % (5 : Int32)) - (1 : Int32)) ((j / (5 : Int32)) - (1 : Int32)))), (.int j), (.ref bk)])) (fun τ κ => st224.trans κ) ?_
  by_cases hc225 : (own_in ((j % (5 : Int32)) - (1 : Int32)) ((j / (5 : Int32)) - (1 : Int32))) = (0 : Int32)
  · -- pc 319: (own_in ((j % (5 : Int32)) - (1 : Int32)) ((j / (5 : Int32)) - (1 : Int32))) = (0 : Int32)
    refine Gl.st (g' := (mkF m 334 #[vR gr, vR a, vR mv, vI (25 : Int32), vI j, vI ((j % (5 : Int32)) - (1 : Int32)), vI ((j / (5 : Int32)) - (1 : Int32))] [(.int (1 : Int32)), (.int j), (.ref bk)])) (fun τ κ => XS.ifYes X224.here hx rfl (pc0 := 319) (pc' := 333) rfl (hb hby d16_319) rfl ((if0 _ _).trans (teq hc225).1) (by decide) (by decide) (XS.iconst X224.here hx rfl (hb hby d16_333) κ)) ?_
    refine Gl.st (g' := (mkF m 338 #[vR gr, vR a, vR mv, vI (25 : Int32), vI j, vI ((j % (5 : Int32)) - (1 : Int32)), vI ((j / (5 : Int32)) - (1 : Int32))] [(.int (1 : Int32)), (.int j), (.ref bk)])) (fun τ κ => XS.goto X224.here hx rfl (pc0 := 334) (pc' := 338) rfl (hb hby d16_334) (by decide) (by decide) κ) ?_
    obtain ⟨cl_o226, Ar_o226, q_o226, S_o226, M_o226, H_o226, G_o226⟩ := id Vb
    have hin_o226 : ¬ (j < 0 ∨ cl_o226.slots.size ≤ (j).toNatClampNeg) := inb_of S_o226 (own_kl hj hj0)
    obtain ⟨T227, h227, X227, e227, W227, st227⟩ := stZ X224 hx hZ e224 Ar_o226 (j := j) hin_o226 (g := (mkF m 338 #[vR gr, vR a, vR mv, vI (25 : Int32), vI j, vI ((j % (5 : Int32)) - (1 : Int32)), vI ((j / (5 : Int32)) - (1 : Int32))] [(.int (1 : Int32)), (.int j), (.ref bk)])) rfl rfl (hb hby d16_338)
    obtain ⟨vs227, hvs227⟩ := own_upd vs (j).toNatClampNeg (.int (1 : Int32)) (.int (0 : Int32))
    have V_228 := VB.other W227 n_lb
    have E_229 := EL.wr W227
    have F_230 := FC.other W227 (Or.inl n_la)
    have F_231 := FV.other W227 (Or.inl n_la)
    have S_232 := S0.wr W227
    have E_233 := Em.wr W227
    have F_234 := F0.other W227 (Or.inl n_a)
    have F_235 := F1.other W227 (Or.inl n_a)
    have F_236 := F2.other W227 (Or.inl n_a)
    have V_237 := Vt.other W227 n_tb
    have E_238 := Eg.wr W227
    have F_239 := FS.other W227 (Or.inl n_gr)
    have F_240 := FB.other W227 (Or.inl n_gr)
    obtain ⟨Lw227, X227, N227⟩ := own_locG X227 (Fr.snoc X227 N224 gb)
    have Z227 : n0 ≤ h227.size := Nat.le_trans Z0 (Nat.le_of_eq W227.size.symm)
    have K227 : Keep hs h227 [bk] := K0.wr W227 (Or.inl (List.mem_of_getElem? (i := 0) rfl))
    have V_bk_227 : Arv Z h227 bk kb .boolean (25 : Int32) vs227 (.int (0 : Int32)) := own_set Ar_o226 q_o226 S_o226 M_o226 H_o226 G_o226 rfl W227 hvs227
    refine Gl.st (g' := (mkF m 339 #[vR gr, vR a, vR mv, vI (25 : Int32), vI j, vI ((j % (5 : Int32)) - (1 : Int32)), vI ((j / (5 : Int32)) - (1 : Int32))] [])) (fun τ κ => st227 _ κ) ?_
    refine Gl.st (g' := (mkF m 277 #[vR gr, vR a, vR mv, vI (25 : Int32), vI (j + (1 : Int32)), vI ((j % (5 : Int32)) - (1 : Int32)), vI ((j / (5 : Int32)) - (1 : Int32))] [])) (fun τ κ => XS.iinc X227.here hx rfl (hb hby d16_339) rfl (l' := #[vR gr, vR a, vR mv, vI (25 : Int32), vI (j + (1 : Int32)), vI ((j % (5 : Int32)) - (1 : Int32)), vI ((j / (5 : Int32)) - (1 : Int32))]) rfl (XS.goto X227.here hx rfl (pc0 := 342) (pc' := 277) rfl (hb hby d16_342) (by decide) (by decide) κ)) ?_
    exact own_gl hx hZ hw hby hml hown hcs HT hL0 gb n_gr n_a n_tb n_la n_lb cont 24 _ _ _ _ _ _ _ (own_k1 hj hj0).1 (own_k1 hj hj0).2 X227 e227 N227 Z227 K227 S_232 E_229 F_230 F_231 V_228 E_233 F_234 F_235 F_236 V_237 E_238 F_239 F_240 V_bk_227 (own_inv1 I hj hj0 hvs227 (own_b1 hc225))
  · -- pc 319: not (own_in ((j % (5 : Int32)) - (1 : Int32)) ((j / (5 : Int32)) - (1 : Int32))) = (0 : Int32)
    refine Gl.st (g' := (mkF m 323 #[vR gr, vR a, vR mv, vI (25 : Int32), vI j, vI ((j % (5 : Int32)) - (1 : Int32)), vI ((j / (5 : Int32)) - (1 : Int32))] [(.ref a), (.int j), (.ref bk)])) (fun τ κ => XS.ifNo X224.here hx rfl (hb hby d16_319) rfl ((if0 _ _).trans (feq hc225).1) (XS.aloadN X224.here hx rfl (hb hby d16_322) rfl rfl κ)) ?_
    refine Gl.st (g' := (mkF m 327 #[vR gr, vR a, vR mv, vI (25 : Int32), vI j, vI ((j % (5 : Int32)) - (1 : Int32)), vI ((j / (5 : Int32)) - (1 : Int32))] [(.int ((j / (5 : Int32)) - (1 : Int32))), (.int ((j % (5 : Int32)) - (1 : Int32))), (.ref a), (.int j), (.ref bk)])) (fun τ κ => XS.iload X224.here hx rfl (hb hby d16_323) rfl (XS.iload X224.here hx rfl (hb hby d16_325) rfl κ)) ?_
    obtain ⟨cq242, kq242, q242a, q242b, q242c⟩ := isOf hZ e224 Em
    obtain ⟨rv242, _, ⟨T242, L242, k242, n242⟩, -, X242, ⟨Lc242, hQ242, l242, y242, z242⟩, st242⟩ := X224.virtualBack hx (y := (⟨"com/example/wanderpath/wanderpath/TileMap", "isPassable", "(II)Z"⟩ : MethodName)) (z := (⟨"com/example/wanderpath/wanderpath/TileMap", "isPassable", "(II)Z"⟩ : MethodName)) hown (mvT hZ (w120_ hw)) (mvT hZ (w121_ hw)) (notFace_of_selects (args := #[]) (mvT hZ (w123_ hw))) (mvT hZ (w123_ hw)) (mvT hZ (w122_ hw)) (by decide) (backOfL (W := 2) (rm20 l Z a0 hw [] a ((j % (5 : Int32)) - (1 : Int32)) ((j / (5 : Int32)) - (1 : Int32)) tb la kt vt tv lb lk cs h1 n0 Z0 S0 hcs EL FC FV VB Em F0 F1 F2 Vt HT (own_in1 hc225)) hZ (w124_ hw) (w12_ hw) (by decide) (by decide) hL0) q242a q242c (g := (mkF m 327 #[vR gr, vR a, vR mv, vI (25 : Int32), vI j, vI ((j % (5 : Int32)) - (1 : Int32)), vI ((j / (5 : Int32)) - (1 : Int32))] [(.int ((j / (5 : Int32)) - (1 : Int32))), (.int ((j % (5 : Int32)) - (1 : Int32))), (.ref a), (.int j), (.ref bk)])) rfl (by rw [hml]; rfl) (Steps.refl _) (argsL := [(.int ((j % (5 : Int32)) - (1 : Int32))), (.int ((j / (5 : Int32)) - (1 : Int32)))]) (rest := [(.int j), (.ref bk)]) (lenOf pd_8 rfl) rfl (by show 2 * 0 + _ ≤ _; exact Nat.le_of_eq rfl) (hb hby d16_327) (fun _ _ => ⟨rfl, e224, Nat.le_of_ble_eq_true rfl, Nat.le_of_ble_eq_true rfl⟩)
    dsimp only [Pt.U, Pt.locs, Pt.cells, Pt.slots] at X242 l242 y242 z242 st242 hQ242
    subst l242 y242 z242
    have X242 := X242.more (cells' := 4) (slots' := 49) (by decide) (by decide)
    obtain ⟨hq242, N242q, e242⟩ := hQ242
    have hq242 : rv242 = some (.int (own_bit tv (own_id ((j % (5 : Int32)) - (1 : Int32)) ((j / (5 : Int32)) - (1 : Int32))))) := hq242
    subst hq242
    have N242 := Fr.app N224 N242q
    obtain ⟨Lw242, X242, N242⟩ := own_locG X242 N242
    refine Gl.st (g' := (mkF m 330 #[vR gr, vR a, vR mv, vI (25 : Int32), vI j, vI ((j % (5 : Int32)) - (1 : Int32)), vI ((j / (5 : Int32)) - (1 : Int32))] [(.int (own_bit tv (own_id ((j % (5 : Int32)) - (1 : Int32)) ((j / (5 : Int32)) - (1 : Int32))))), (.int j), (.ref bk)])) (fun τ κ => st242.trans κ) ?_
    by_cases hc243 : (own_bit tv (own_id ((j % (5 : Int32)) - (1 : Int32)) ((j / (5 : Int32)) - (1 : Int32)))) = (0 : Int32)
    · -- pc 330: (own_bit tv (own_id ((j % (5 : Int32)) - (1 : Int32)) ((j / (5 : Int32)) - (1 : Int32)))) = (0 : Int32)
      refine Gl.st (g' := (mkF m 334 #[vR gr, vR a, vR mv, vI (25 : Int32), vI j, vI ((j % (5 : Int32)) - (1 : Int32)), vI ((j / (5 : Int32)) - (1 : Int32))] [(.int (1 : Int32)), (.int j), (.ref bk)])) (fun τ κ => XS.ifNo X242.here hx rfl (hb hby d16_330) rfl ((if0 _ _).trans (teq hc243).2) (XS.iconst X242.here hx rfl (hb hby d16_333) κ)) ?_
      refine Gl.st (g' := (mkF m 338 #[vR gr, vR a, vR mv, vI (25 : Int32), vI j, vI ((j % (5 : Int32)) - (1 : Int32)), vI ((j / (5 : Int32)) - (1 : Int32))] [(.int (1 : Int32)), (.int j), (.ref bk)])) (fun τ κ => XS.goto X242.here hx rfl (pc0 := 334) (pc' := 338) rfl (hb hby d16_334) (by decide) (by decide) κ) ?_
      obtain ⟨cl_o244, Ar_o244, q_o244, S_o244, M_o244, H_o244, G_o244⟩ := id Vb
      have hin_o244 : ¬ (j < 0 ∨ cl_o244.slots.size ≤ (j).toNatClampNeg) := inb_of S_o244 (own_kl hj hj0)
      obtain ⟨T245, h245, X245, e245, W245, st245⟩ := stZ X242 hx hZ e242 Ar_o244 (j := j) hin_o244 (g := (mkF m 338 #[vR gr, vR a, vR mv, vI (25 : Int32), vI j, vI ((j % (5 : Int32)) - (1 : Int32)), vI ((j / (5 : Int32)) - (1 : Int32))] [(.int (1 : Int32)), (.int j), (.ref bk)])) rfl rfl (hb hby d16_338)
      obtain ⟨vs245, hvs245⟩ := own_upd vs (j).toNatClampNeg (.int (1 : Int32)) (.int (0 : Int32))
      have V_246 := VB.other W245 n_lb
      have E_247 := EL.wr W245
      have F_248 := FC.other W245 (Or.inl n_la)
      have F_249 := FV.other W245 (Or.inl n_la)
      have S_250 := S0.wr W245
      have E_251 := Em.wr W245
      have F_252 := F0.other W245 (Or.inl n_a)
      have F_253 := F1.other W245 (Or.inl n_a)
      have F_254 := F2.other W245 (Or.inl n_a)
      have V_255 := Vt.other W245 n_tb
      have E_256 := Eg.wr W245
      have F_257 := FS.other W245 (Or.inl n_gr)
      have F_258 := FB.other W245 (Or.inl n_gr)
      obtain ⟨Lw245, X245, N245⟩ := own_locG X245 (Fr.snoc X245 N242 gb)
      have Z245 : n0 ≤ h245.size := Nat.le_trans Z0 (Nat.le_of_eq W245.size.symm)
      have K245 : Keep hs h245 [bk] := K0.wr W245 (Or.inl (List.mem_of_getElem? (i := 0) rfl))
      have V_bk_245 : Arv Z h245 bk kb .boolean (25 : Int32) vs245 (.int (0 : Int32)) := own_set Ar_o244 q_o244 S_o244 M_o244 H_o244 G_o244 rfl W245 hvs245
      refine Gl.st (g' := (mkF m 339 #[vR gr, vR a, vR mv, vI (25 : Int32), vI j, vI ((j % (5 : Int32)) - (1 : Int32)), vI ((j / (5 : Int32)) - (1 : Int32))] [])) (fun τ κ => st245 _ κ) ?_
      refine Gl.st (g' := (mkF m 277 #[vR gr, vR a, vR mv, vI (25 : Int32), vI (j + (1 : Int32)), vI ((j % (5 : Int32)) - (1 : Int32)), vI ((j / (5 : Int32)) - (1 : Int32))] [])) (fun τ κ => XS.iinc X245.here hx rfl (hb hby d16_339) rfl (l' := #[vR gr, vR a, vR mv, vI (25 : Int32), vI (j + (1 : Int32)), vI ((j % (5 : Int32)) - (1 : Int32)), vI ((j / (5 : Int32)) - (1 : Int32))]) rfl (XS.goto X245.here hx rfl (pc0 := 342) (pc' := 277) rfl (hb hby d16_342) (by decide) (by decide) κ)) ?_
      exact own_gl hx hZ hw hby hml hown hcs HT hL0 gb n_gr n_a n_tb n_la n_lb cont 24 _ _ _ _ _ _ _ (own_k1 hj hj0).1 (own_k1 hj hj0).2 X245 e245 N245 Z245 K245 S_250 E_247 F_248 F_249 V_246 E_251 F_252 F_253 F_254 V_255 E_256 F_257 F_258 V_bk_245 (own_inv1 I hj hj0 hvs245 (own_b2 hc225 hc243))
    · -- pc 330: not (own_bit tv (own_id ((j % (5 : Int32)) - (1 : Int32)) ((j / (5 : Int32)) - (1 : Int32)))) = (0 : Int32)
      refine Gl.st (g' := (mkF m 338 #[vR gr, vR a, vR mv, vI (25 : Int32), vI j, vI ((j % (5 : Int32)) - (1 : Int32)), vI ((j / (5 : Int32)) - (1 : Int32))] [(.int (0 : Int32)), (.int j), (.ref bk)])) (fun τ κ => XS.ifYes X242.here hx rfl (pc0 := 330) (pc' := 337) rfl (hb hby d16_330) rfl ((if0 _ _).trans (feq hc243).2) (by decide) (by decide) (XS.iconst X242.here hx rfl (hb hby d16_337) κ)) ?_
      obtain ⟨cl_o260, Ar_o260, q_o260, S_o260, M_o260, H_o260, G_o260⟩ := id Vb
      have hin_o260 : ¬ (j < 0 ∨ cl_o260.slots.size ≤ (j).toNatClampNeg) := inb_of S_o260 (own_kl hj hj0)
      obtain ⟨T261, h261, X261, e261, W261, st261⟩ := stZ X242 hx hZ e242 Ar_o260 (j := j) hin_o260 (g := (mkF m 338 #[vR gr, vR a, vR mv, vI (25 : Int32), vI j, vI ((j % (5 : Int32)) - (1 : Int32)), vI ((j / (5 : Int32)) - (1 : Int32))] [(.int (0 : Int32)), (.int j), (.ref bk)])) rfl rfl (hb hby d16_338)
      obtain ⟨vs261, hvs261⟩ := own_upd vs (j).toNatClampNeg (.int (0 : Int32)) (.int (0 : Int32))
      have V_262 := VB.other W261 n_lb
      have E_263 := EL.wr W261
      have F_264 := FC.other W261 (Or.inl n_la)
      have F_265 := FV.other W261 (Or.inl n_la)
      have S_266 := S0.wr W261
      have E_267 := Em.wr W261
      have F_268 := F0.other W261 (Or.inl n_a)
      have F_269 := F1.other W261 (Or.inl n_a)
      have F_270 := F2.other W261 (Or.inl n_a)
      have V_271 := Vt.other W261 n_tb
      have E_272 := Eg.wr W261
      have F_273 := FS.other W261 (Or.inl n_gr)
      have F_274 := FB.other W261 (Or.inl n_gr)
      obtain ⟨Lw261, X261, N261⟩ := own_locG X261 (Fr.snoc X261 N242 gb)
      have Z261 : n0 ≤ h261.size := Nat.le_trans Z0 (Nat.le_of_eq W261.size.symm)
      have K261 : Keep hs h261 [bk] := K0.wr W261 (Or.inl (List.mem_of_getElem? (i := 0) rfl))
      have V_bk_261 : Arv Z h261 bk kb .boolean (25 : Int32) vs261 (.int (0 : Int32)) := own_set Ar_o260 q_o260 S_o260 M_o260 H_o260 G_o260 rfl W261 hvs261
      refine Gl.st (g' := (mkF m 339 #[vR gr, vR a, vR mv, vI (25 : Int32), vI j, vI ((j % (5 : Int32)) - (1 : Int32)), vI ((j / (5 : Int32)) - (1 : Int32))] [])) (fun τ κ => st261 _ κ) ?_
      refine Gl.st (g' := (mkF m 277 #[vR gr, vR a, vR mv, vI (25 : Int32), vI (j + (1 : Int32)), vI ((j % (5 : Int32)) - (1 : Int32)), vI ((j / (5 : Int32)) - (1 : Int32))] [])) (fun τ κ => XS.iinc X261.here hx rfl (hb hby d16_339) rfl (l' := #[vR gr, vR a, vR mv, vI (25 : Int32), vI (j + (1 : Int32)), vI ((j % (5 : Int32)) - (1 : Int32)), vI ((j / (5 : Int32)) - (1 : Int32))]) rfl (XS.goto X261.here hx rfl (pc0 := 342) (pc' := 277) rfl (hb hby d16_342) (by decide) (by decide) κ)) ?_
      exact own_gl hx hZ hw hby hml hown hcs HT hL0 gb n_gr n_a n_tb n_la n_lb cont 24 _ _ _ _ _ _ _ (own_k1 hj hj0).1 (own_k1 hj hj0).2 X261 e261 N261 Z261 K261 S_266 E_263 F_264 F_265 V_262 E_267 F_268 F_269 F_270 V_271 E_272 F_273 F_274 V_bk_261 (own_inv1 I hj hj0 hvs261 (own_b3 hc225 hc243))
theorem d16_0 : decode prog_11_method_1_code 0 = .ok (.aload_n 0, 1) := by decide +kernel
theorem d16_1 : decode prog_11_method_1_code 1 = .ok (.invokespecial 1, 3) := by decide +kernel
theorem d16_4 : decode prog_11_method_1_code 4 = .ok (.aload_n 0, 1) := by decide +kernel
theorem d16_5 : decode prog_11_method_1_code 5 = .ok (.aload_n 1, 1) := by decide +kernel
theorem d16_6 : decode prog_11_method_1_code 6 = .ok (.invokevirtual 7, 3) := by decide +kernel
theorem d16_9 : decode prog_11_method_1_code 9 = .ok (.iconst 2, 1) := by decide +kernel
theorem d16_10 : decode prog_11_method_1_code 10 = .ok (.iadd, 1) := by decide +kernel
theorem d16_11 : decode prog_11_method_1_code 11 = .ok (.putfield 13, 3) := by decide +kernel
theorem d16_14 : decode prog_11_method_1_code 14 = .ok (.aload_n 2, 1) := by decide +kernel
theorem d16_15 : decode prog_11_method_1_code 15 = .ok (.getstatic 19, 3) := by decide +kernel
theorem d16_18 : decode prog_11_method_1_code 18 = .ok (.if_acmp .ne 161, 3) := by decide +kernel
theorem d16_21 : decode prog_11_method_1_code 21 = .ok (.aload_n 0, 1) := by decide +kernel
theorem d16_22 : decode prog_11_method_1_code 22 = .ok (.bipush 8, 2) := by decide +kernel
theorem d16_24 : decode prog_11_method_1_code 24 = .ok (.newarray .int, 2) := by decide +kernel
theorem d16_26 : decode prog_11_method_1_code 26 = .ok (.dup, 1) := by decide +kernel
theorem d16_27 : decode prog_11_method_1_code 27 = .ok (.iconst 0, 1) := by decide +kernel
theorem d16_28 : decode prog_11_method_1_code 28 = .ok (.aload_n 0, 1) := by decide +kernel
theorem d16_29 : decode prog_11_method_1_code 29 = .ok (.getfield 13, 3) := by decide +kernel
theorem d16_32 : decode prog_11_method_1_code 32 = .ok (.ineg, 1) := by decide +kernel
theorem d16_33 : decode prog_11_method_1_code 33 = .ok (.iastore, 1) := by decide +kernel
theorem d16_34 : decode prog_11_method_1_code 34 = .ok (.dup, 1) := by decide +kernel
theorem d16_35 : decode prog_11_method_1_code 35 = .ok (.iconst 1, 1) := by decide +kernel
theorem d16_36 : decode prog_11_method_1_code 36 = .ok (.iconst (-1), 1) := by decide +kernel
theorem d16_37 : decode prog_11_method_1_code 37 = .ok (.iastore, 1) := by decide +kernel
theorem d16_38 : decode prog_11_method_1_code 38 = .ok (.dup, 1) := by decide +kernel
theorem d16_39 : decode prog_11_method_1_code 39 = .ok (.iconst 2, 1) := by decide +kernel
theorem d16_40 : decode prog_11_method_1_code 40 = .ok (.iconst 1, 1) := by decide +kernel
theorem d16_41 : decode prog_11_method_1_code 41 = .ok (.iastore, 1) := by decide +kernel
theorem d16_42 : decode prog_11_method_1_code 42 = .ok (.dup, 1) := by decide +kernel
theorem d16_43 : decode prog_11_method_1_code 43 = .ok (.iconst 3, 1) := by decide +kernel
theorem d16_44 : decode prog_11_method_1_code 44 = .ok (.aload_n 0, 1) := by decide +kernel
theorem d16_45 : decode prog_11_method_1_code 45 = .ok (.getfield 13, 3) := by decide +kernel
theorem d16_48 : decode prog_11_method_1_code 48 = .ok (.iastore, 1) := by decide +kernel
theorem d16_49 : decode prog_11_method_1_code 49 = .ok (.dup, 1) := by decide +kernel
theorem d16_50 : decode prog_11_method_1_code 50 = .ok (.iconst 4, 1) := by decide +kernel
theorem d16_51 : decode prog_11_method_1_code 51 = .ok (.aload_n 0, 1) := by decide +kernel
theorem d16_52 : decode prog_11_method_1_code 52 = .ok (.getfield 13, 3) := by decide +kernel
theorem d16_55 : decode prog_11_method_1_code 55 = .ok (.ineg, 1) := by decide +kernel
theorem d16_56 : decode prog_11_method_1_code 56 = .ok (.iconst 1, 1) := by decide +kernel
theorem d16_57 : decode prog_11_method_1_code 57 = .ok (.isub, 1) := by decide +kernel
theorem d16_58 : decode prog_11_method_1_code 58 = .ok (.iastore, 1) := by decide +kernel
theorem d16_59 : decode prog_11_method_1_code 59 = .ok (.dup, 1) := by decide +kernel
theorem d16_60 : decode prog_11_method_1_code 60 = .ok (.iconst 5, 1) := by decide +kernel
theorem d16_61 : decode prog_11_method_1_code 61 = .ok (.aload_n 0, 1) := by decide +kernel
theorem d16_62 : decode prog_11_method_1_code 62 = .ok (.getfield 13, 3) := by decide +kernel
theorem d16_65 : decode prog_11_method_1_code 65 = .ok (.ineg, 1) := by decide +kernel
theorem d16_66 : decode prog_11_method_1_code 66 = .ok (.iconst 1, 1) := by decide +kernel
theorem d16_67 : decode prog_11_method_1_code 67 = .ok (.iadd, 1) := by decide +kernel
theorem d16_68 : decode prog_11_method_1_code 68 = .ok (.iastore, 1) := by decide +kernel
theorem d16_69 : decode prog_11_method_1_code 69 = .ok (.dup, 1) := by decide +kernel
theorem d16_70 : decode prog_11_method_1_code 70 = .ok (.bipush 6, 2) := by decide +kernel
theorem d16_72 : decode prog_11_method_1_code 72 = .ok (.aload_n 0, 1) := by decide +kernel
theorem d16_73 : decode prog_11_method_1_code 73 = .ok (.getfield 13, 3) := by decide +kernel
theorem d16_76 : decode prog_11_method_1_code 76 = .ok (.iconst 1, 1) := by decide +kernel
theorem d16_77 : decode prog_11_method_1_code 77 = .ok (.isub, 1) := by decide +kernel
theorem d16_78 : decode prog_11_method_1_code 78 = .ok (.iastore, 1) := by decide +kernel
theorem d16_79 : decode prog_11_method_1_code 79 = .ok (.dup, 1) := by decide +kernel
theorem d16_80 : decode prog_11_method_1_code 80 = .ok (.bipush 7, 2) := by decide +kernel
theorem d16_82 : decode prog_11_method_1_code 82 = .ok (.aload_n 0, 1) := by decide +kernel
theorem d16_83 : decode prog_11_method_1_code 83 = .ok (.getfield 13, 3) := by decide +kernel
theorem d16_86 : decode prog_11_method_1_code 86 = .ok (.iconst 1, 1) := by decide +kernel
theorem d16_87 : decode prog_11_method_1_code 87 = .ok (.iadd, 1) := by decide +kernel
theorem d16_88 : decode prog_11_method_1_code 88 = .ok (.iastore, 1) := by decide +kernel
theorem d16_89 : decode prog_11_method_1_code 89 = .ok (.putfield 25, 3) := by decide +kernel
theorem d16_92 : decode prog_11_method_1_code 92 = .ok (.aload_n 0, 1) := by decide +kernel
theorem d16_93 : decode prog_11_method_1_code 93 = .ok (.bipush 8, 2) := by decide +kernel
theorem d16_95 : decode prog_11_method_1_code 95 = .ok (.newarray .int, 2) := by decide +kernel
theorem d16_97 : decode prog_11_method_1_code 97 = .ok (.dup, 1) := by decide +kernel
theorem d16_98 : decode prog_11_method_1_code 98 = .ok (.iconst 0, 1) := by decide +kernel
theorem d16_99 : decode prog_11_method_1_code 99 = .ok (.iconst 0, 1) := by decide +kernel
theorem d16_100 : decode prog_11_method_1_code 100 = .ok (.iastore, 1) := by decide +kernel
theorem d16_101 : decode prog_11_method_1_code 101 = .ok (.dup, 1) := by decide +kernel
theorem d16_102 : decode prog_11_method_1_code 102 = .ok (.iconst 1, 1) := by decide +kernel
theorem d16_103 : decode prog_11_method_1_code 103 = .ok (.iconst (-1), 1) := by decide +kernel
theorem d16_104 : decode prog_11_method_1_code 104 = .ok (.iastore, 1) := by decide +kernel
theorem d16_105 : decode prog_11_method_1_code 105 = .ok (.dup, 1) := by decide +kernel
theorem d16_106 : decode prog_11_method_1_code 106 = .ok (.iconst 2, 1) := by decide +kernel
theorem d16_107 : decode prog_11_method_1_code 107 = .ok (.iconst 1, 1) := by decide +kernel
theorem d16_108 : decode prog_11_method_1_code 108 = .ok (.iastore, 1) := by decide +kernel
theorem d16_109 : decode prog_11_method_1_code 109 = .ok (.dup, 1) := by decide +kernel
theorem d16_110 : decode prog_11_method_1_code 110 = .ok (.iconst 3, 1) := by decide +kernel
theorem d16_111 : decode prog_11_method_1_code 111 = .ok (.iconst 0, 1) := by decide +kernel
theorem d16_112 : decode prog_11_method_1_code 112 = .ok (.iastore, 1) := by decide +kernel
theorem d16_113 : decode prog_11_method_1_code 113 = .ok (.dup, 1) := by decide +kernel
theorem d16_114 : decode prog_11_method_1_code 114 = .ok (.iconst 4, 1) := by decide +kernel
theorem d16_115 : decode prog_11_method_1_code 115 = .ok (.iconst (-1), 1) := by decide +kernel
theorem d16_116 : decode prog_11_method_1_code 116 = .ok (.iastore, 1) := by decide +kernel
theorem d16_117 : decode prog_11_method_1_code 117 = .ok (.dup, 1) := by decide +kernel
theorem d16_118 : decode prog_11_method_1_code 118 = .ok (.iconst 5, 1) := by decide +kernel
theorem d16_119 : decode prog_11_method_1_code 119 = .ok (.iconst 1, 1) := by decide +kernel
theorem d16_120 : decode prog_11_method_1_code 120 = .ok (.iastore, 1) := by decide +kernel
theorem d16_121 : decode prog_11_method_1_code 121 = .ok (.dup, 1) := by decide +kernel
theorem d16_122 : decode prog_11_method_1_code 122 = .ok (.bipush 6, 2) := by decide +kernel
theorem d16_124 : decode prog_11_method_1_code 124 = .ok (.iconst (-1), 1) := by decide +kernel
theorem d16_125 : decode prog_11_method_1_code 125 = .ok (.iastore, 1) := by decide +kernel
theorem d16_126 : decode prog_11_method_1_code 126 = .ok (.dup, 1) := by decide +kernel
theorem d16_127 : decode prog_11_method_1_code 127 = .ok (.bipush 7, 2) := by decide +kernel
theorem d16_129 : decode prog_11_method_1_code 129 = .ok (.iconst 1, 1) := by decide +kernel
theorem d16_130 : decode prog_11_method_1_code 130 = .ok (.iastore, 1) := by decide +kernel
theorem d16_131 : decode prog_11_method_1_code 131 = .ok (.putfield 29, 3) := by decide +kernel
theorem d16_134 : decode prog_11_method_1_code 134 = .ok (.aload_n 0, 1) := by decide +kernel
theorem d16_135 : decode prog_11_method_1_code 135 = .ok (.bipush 8, 2) := by decide +kernel
theorem d16_137 : decode prog_11_method_1_code 137 = .ok (.newarray .int, 2) := by decide +kernel
theorem d16_139 : decode prog_11_method_1_code 139 = .ok (.dup, 1) := by decide +kernel
theorem d16_140 : decode prog_11_method_1_code 140 = .ok (.iconst 0, 1) := by decide +kernel
theorem d16_141 : decode prog_11_method_1_code 141 = .ok (.iconst (-1), 1) := by decide +kernel
theorem d16_142 : decode prog_11_method_1_code 142 = .ok (.iastore, 1) := by decide +kernel
theorem d16_143 : decode prog_11_method_1_code 143 = .ok (.dup, 1) := by decide +kernel
theorem d16_144 : decode prog_11_method_1_code 144 = .ok (.iconst 1, 1) := by decide +kernel
theorem d16_145 : decode prog_11_method_1_code 145 = .ok (.iconst 0, 1) := by decide +kernel
theorem d16_146 : decode prog_11_method_1_code 146 = .ok (.iastore, 1) := by decide +kernel
theorem d16_147 : decode prog_11_method_1_code 147 = .ok (.dup, 1) := by decide +kernel
theorem d16_148 : decode prog_11_method_1_code 148 = .ok (.iconst 2, 1) := by decide +kernel
theorem d16_149 : decode prog_11_method_1_code 149 = .ok (.iconst 0, 1) := by decide +kernel
theorem d16_150 : decode prog_11_method_1_code 150 = .ok (.iastore, 1) := by decide +kernel
theorem d16_151 : decode prog_11_method_1_code 151 = .ok (.dup, 1) := by decide +kernel
theorem d16_152 : decode prog_11_method_1_code 152 = .ok (.iconst 3, 1) := by decide +kernel
theorem d16_153 : decode prog_11_method_1_code 153 = .ok (.iconst 1, 1) := by decide +kernel
theorem d16_154 : decode prog_11_method_1_code 154 = .ok (.iastore, 1) := by decide +kernel
theorem d16_155 : decode prog_11_method_1_code 155 = .ok (.dup, 1) := by decide +kernel
theorem d16_156 : decode prog_11_method_1_code 156 = .ok (.iconst 4, 1) := by decide +kernel
theorem d16_157 : decode prog_11_method_1_code 157 = .ok (.iconst (-1), 1) := by decide +kernel
theorem d16_158 : decode prog_11_method_1_code 158 = .ok (.iastore, 1) := by decide +kernel
theorem d16_159 : decode prog_11_method_1_code 159 = .ok (.dup, 1) := by decide +kernel
theorem d16_160 : decode prog_11_method_1_code 160 = .ok (.iconst 5, 1) := by decide +kernel
theorem d16_161 : decode prog_11_method_1_code 161 = .ok (.iconst (-1), 1) := by decide +kernel
theorem d16_162 : decode prog_11_method_1_code 162 = .ok (.iastore, 1) := by decide +kernel
theorem d16_163 : decode prog_11_method_1_code 163 = .ok (.dup, 1) := by decide +kernel
theorem d16_164 : decode prog_11_method_1_code 164 = .ok (.bipush 6, 2) := by decide +kernel
theorem d16_166 : decode prog_11_method_1_code 166 = .ok (.iconst 1, 1) := by decide +kernel
theorem d16_167 : decode prog_11_method_1_code 167 = .ok (.iastore, 1) := by decide +kernel
theorem d16_168 : decode prog_11_method_1_code 168 = .ok (.dup, 1) := by decide +kernel
theorem d16_169 : decode prog_11_method_1_code 169 = .ok (.bipush 7, 2) := by decide +kernel
theorem d16_171 : decode prog_11_method_1_code 171 = .ok (.iconst 1, 1) := by decide +kernel
theorem d16_172 : decode prog_11_method_1_code 172 = .ok (.iastore, 1) := by decide +kernel
theorem d16_173 : decode prog_11_method_1_code 173 = .ok (.putfield 32, 3) := by decide +kernel
theorem d16_176 : decode prog_11_method_1_code 176 = .ok (.goto 79, 3) := by decide +kernel
theorem d16_255 : decode prog_11_method_1_code 255 = .ok (.aload_n 0, 1) := by decide +kernel
theorem d16_256 : decode prog_11_method_1_code 256 = .ok (.getfield 13, 3) := by decide +kernel
theorem d16_259 : decode prog_11_method_1_code 259 = .ok (.aload_n 1, 1) := by decide +kernel
theorem d16_260 : decode prog_11_method_1_code 260 = .ok (.invokevirtual 35, 3) := by decide +kernel
theorem d16_263 : decode prog_11_method_1_code 263 = .ok (.iconst 2, 1) := by decide +kernel
theorem d16_264 : decode prog_11_method_1_code 264 = .ok (.iadd, 1) := by decide +kernel
theorem d16_265 : decode prog_11_method_1_code 265 = .ok (.imul, 1) := by decide +kernel
theorem d16_266 : decode prog_11_method_1_code 266 = .ok (.istore_n 3, 1) := by decide +kernel
theorem d16_267 : decode prog_11_method_1_code 267 = .ok (.aload_n 0, 1) := by decide +kernel
theorem d16_268 : decode prog_11_method_1_code 268 = .ok (.iload_n 3, 1) := by decide +kernel
theorem d16_269 : decode prog_11_method_1_code 269 = .ok (.newarray .boolean, 2) := by decide +kernel
theorem d16_271 : decode prog_11_method_1_code 271 = .ok (.putfield 38, 3) := by decide +kernel
theorem d16_274 : decode prog_11_method_1_code 274 = .ok (.iconst 0, 1) := by decide +kernel
theorem d16_275 : decode prog_11_method_1_code 275 = .ok (.istore 4, 2) := by decide +kernel
theorem d16_345 : decode prog_11_method_1_code 345 = .ok (.return_, 1) := by decide +kernel
theorem pn_com_example_wanderpath_wanderpath_Grid : plainName "com/example/wanderpath/wanderpath/Grid" = true := by first | (simp [plainName, overriddenIn]; done) | decide +kernel
theorem ef_rm16_8 (m : MethodId) (gr : Addr) (a : Addr) (e8 : Addr) : entryFrame m #[(.ref gr), (.ref a), (.ref e8)] 7 = mkF m 0 #[vR gr, vR a, vR e8, .unset, .unset, .unset, .unset] [] := by first | (simp [entryFrame, mkF, argsToLocals, Value.category]; done) | rfl
def Q_rm16_8 (Z : State) (gr : Addr) (a : Addr) (e8 : Addr) (tb la : Addr) (kt : ClassId) (vt : List Value) (tv : Int32) (lb : Addr) (lk : ClassId) (cs : Int32) (h0 : Heap) (n0 : Nat) (v : Option Value) (h : Heap) (L : List Loc) : Prop := v = none ∧ Fr n0 L ∧ Keep h0 h [gr] ∧ ∃ s1 s2 bk k1 k2 kb vs, Exa Z h gr "com/example/wanderpath/wanderpath/Grid" ∧ Fld Z h gr "com/example/wanderpath/wanderpath/Grid" "steps" "[I" (.ref s1) ∧ Fld Z h gr "com/example/wanderpath/wanderpath/Grid" "rowPart" "[I" (.ref s2) ∧ Fld Z h gr "com/example/wanderpath/wanderpath/Grid" "blocked" "[Z" (.ref bk) ∧ Arv Z h s1 k1 .int (8 : Int32) [(.int (-5 : Int32)), (.int (-1 : Int32)), (.int (1 : Int32)), (.int (5 : Int32)), (.int (-6 : Int32)), (.int (-4 : Int32)), (.int (4 : Int32)), (.int (6 : Int32))] (.int (0 : Int32)) ∧ Arv Z h s2 k2 .int (8 : Int32) [(.int (0 : Int32)), (.int (-1 : Int32)), (.int (1 : Int32)), (.int (0 : Int32)), (.int (-1 : Int32)), (.int (1 : Int32)), (.int (-1 : Int32)), (.int (1 : Int32))] (.int (0 : Int32)) ∧ Arv Z h bk kb .boolean (25 : Int32) vs (.int (0 : Int32)) ∧ own_inv tv (25 : Int32) vs
set_option maxRecDepth 65536 in
set_option maxHeartbeats 40000000 in
theorem rm16_8 (l : Launch) (Z : State) (a0 : Array Value) (hw : ∀ d ∈ tables_1, d.before a0 Z = true) (ws : List Jvm.Cond) (gr : Addr) (a : Addr) (e8 : Addr) (tb la : Addr) (kt : ClassId) (vt : List Value) (tv : Int32) (lb : Addr) (lk : ClassId) (cs : Int32) (h0 : Heap) (n0 : Nat) (Z0 : n0 ≤ h0.size) (S0 : Sta Z h0 "java/lang/String" "COMPACT_STRINGS" "Z" (.int cs)) (hcs : ¬ cs = (0 : Int32)) (EL : Exa Z h0 la "java/lang/String") (FC : Fld Z h0 la "java/lang/String" "coder" "B" (.int (0 : Int32))) (FV : Fld Z h0 la "java/lang/String" "value" "[B" (.ref lb)) (VB : Arv Z h0 lb lk .byte (3 : Int32) [(.int (46 : Int32)), (.int (71 : Int32)), (.int (83 : Int32))] (.int (0 : Int32))) (Em : Exa Z h0 a "com/example/wanderpath/wanderpath/TileMap") (F0 : Fld Z h0 a "com/example/wanderpath/wanderpath/TileMap" "width" "I" (.int (3 : Int32))) (F1 : Fld Z h0 a "com/example/wanderpath/wanderpath/TileMap" "height" "I" (.int (3 : Int32))) (F2 : Fld Z h0 a "com/example/wanderpath/wanderpath/TileMap" "tiles" "[B" (.ref tb)) (Vt : Arv Z h0 tb kt .byte (9 : Int32) vt (.int (0 : Int32))) (HT : ∀ i, ¬ i < 0 → i < (9 : Int32) → vt.getD i.toNatClampNeg (.int (0 : Int32)) = .int (own_tile tv i)) (S8 : Sta Z h0 "com/example/wanderpath/wanderpath/Moves" "EIGHT" "Lcom/example/wanderpath/wanderpath/Moves;" (.ref e8)) (Eg : Exa Z h0 gr "com/example/wanderpath/wanderpath/Grid") (gg : n0 ≤ gr) (G0 : Fld Z h0 gr "com/example/wanderpath/wanderpath/Grid" "stride" "I" (.int (0 : Int32))) (G1 : Fld Z h0 gr "com/example/wanderpath/wanderpath/Grid" "steps" "[I" .null) (G2 : Fld Z h0 gr "com/example/wanderpath/wanderpath/Grid" "rowPart" "[I" .null) (G3 : Fld Z h0 gr "com/example/wanderpath/wanderpath/Grid" "columnPart" "[I" .null) (G4 : Fld Z h0 gr "com/example/wanderpath/wanderpath/Grid" "blocked" "[Z" .null) (n_a : gr ≠ a) (n_tb : gr ≠ tb) (n_la : gr ≠ la) (n_lb : gr ≠ lb) :
    MetFree l (⟨"com/example/wanderpath/wanderpath/Grid", "<init>", "(Lcom/example/wanderpath/wanderpath/TileMap;Lcom/example/wanderpath/wanderpath/Moves;)V"⟩ : MethodName) (head1 (Jvm.Cond.code (⟨"com/example/wanderpath/wanderpath/Grid", "<init>", "(Lcom/example/wanderpath/wanderpath/TileMap;Lcom/example/wanderpath/wanderpath/Moves;)V"⟩ : MethodName) prog_11_method_1_code 7 none :: ws) ({ frames := 6, cells := 4, slots := 49, locals := 88 } : Room)) (fun aα Uα => aα = #[(.ref gr), (.ref a), (.ref e8)] ∧ Z.Warmed39 Uα.vm ∧ Uα.heap = h0 ∧ Lit Uα "com/example/wanderpath/wanderpath/TileMap" 120 la) (fun _ _ _ _ _ => True) (fun _ Uα oα Uβ => ∃ vα Lα, oα = .returned vα ∧ Q_rm16_8 Z gr a e8 tb la kt vt tv lb lk cs h0 n0 vα Uβ.heap Lα ∧ FrameEnd Uα oα Uβ Lα ({ frames := 6, cells := 4, slots := 49, locals := 88 } : Room).cells ({ frames := 6, cells := 4, slots := 49, locals := 88 } : Room).slots) := by
  refine MetFree.of_bodySF (plainFor_of_name pn_com_example_wanderpath_wanderpath_Grid) hisR ?_
  intro p e s m args below meth c s₁ Bd hml0 hP hKα
  obtain ⟨rfl, hZ, hh, hL0⟩ := hP
  have hx := Bd.exec
  have hby := Bd.bytes
  have hml : c.maxLocals = 7 := hml0
  have hown : s.vm.findClass "com/example/wanderpath/wanderpath/Grid" = some m.cls := findClass_of_methodNamed Bd.named
  have hnm := (name_of_methodNamed Bd.named Bd.method).1
  have X0 : Stand p l e ({ frames := 6, cells := 4, slots := 49, locals := 88 } : Room) s m #[(.ref gr), (.ref a), (.ref e8)] below meth c s₁ [] 0 0 := Stand.of_body Bd
  have e0 : s₁.heap = h0 := by rw [← hh, Bd.state]; rfl
  have N0 := Fr.nil n0
  suffices k0 : Gl p e below s (Q_rm16_8 Z gr a e8 tb la kt vt tv lb lk cs h0 n0) ({ frames := 6, cells := 4, slots := 49, locals := 88 } : Room).cells ({ frames := 6, cells := 4, slots := 49, locals := 88 } : Room).slots s₁ (mkF m 0 #[vR gr, vR a, vR e8, .unset, .unset, .unset, .unset] []) from Gl.st (fun τ κ => castTop (ef_rm16_8 m gr a e8) κ) k0
  refine Gl.st (g' := (mkF m 1 #[vR gr, vR a, vR e8, .unset, .unset, .unset, .unset] [(.ref gr)])) (fun τ κ => XS.aloadN X0.here hx rfl (hb hby d16_0) rfl rfl κ) ?_
  obtain ⟨T276, X276, e276, st276⟩ := initO X0 hx hZ hown (w91_ hw) (w17_ hw) (w18_ hw) e0 (g := (mkF m 1 #[vR gr, vR a, vR e8, .unset, .unset, .unset, .unset] [(.ref gr)])) rfl (by rw [hml]; rfl) rfl (hb hby d16_1) (by decide) (W := 0) (by show 2 * 0 + _ ≤ _; exact Nat.le_of_eq rfl) (by decide)
  refine Gl.st (g' := (mkF m 4 #[vR gr, vR a, vR e8, .unset, .unset, .unset, .unset] [])) (fun τ κ => st276 _ κ) ?_
  refine Gl.st (g' := (mkF m 6 #[vR gr, vR a, vR e8, .unset, .unset, .unset, .unset] [(.ref a), (.ref gr)])) (fun τ κ => XS.aloadN X276.here hx rfl (hb hby d16_4) rfl rfl (XS.aloadN X276.here hx rfl (hb hby d16_5) rfl rfl κ)) ?_
  obtain ⟨cq277, kq277, q277a, q277b, q277c⟩ := isOf hZ e276 Em
  obtain ⟨rv277, _, ⟨T277, L277, k277, n277⟩, -, X277, ⟨Lc277, hQ277, l277, y277, z277⟩, st277⟩ := X276.virtualBack hx (y := (⟨"com/example/wanderpath/wanderpath/TileMap", "width", "()I"⟩ : MethodName)) (z := (⟨"com/example/wanderpath/wanderpath/TileMap", "width", "()I"⟩ : MethodName)) hown (mvT hZ (w92_ hw)) (mvT hZ (w93_ hw)) (notFace_of_selects (args := #[]) (mvT hZ (w95_ hw))) (mvT hZ (w95_ hw)) (mvT hZ (w94_ hw)) (by decide) (backOf (W := 1) (rm17 l Z a0 hw [] a h0 n0 Z0 Em F0 F1) hZ (w96_ hw) (w12_ hw) (by decide) (by decide)) q277a q277c (g := (mkF m 6 #[vR gr, vR a, vR e8, .unset, .unset, .unset, .unset] [(.ref a), (.ref gr)])) rfl (by rw [hml]; rfl) (Steps.refl _) (argsL := []) (rest := [(.ref gr)]) (lenOf pd_5 rfl) rfl (by show 2 * 0 + _ ≤ _; exact Nat.le_of_eq rfl) (hb hby d16_6) (fun _ _ => ⟨rfl, e276, Nat.le_of_ble_eq_true rfl, Nat.le_of_ble_eq_true rfl⟩)
  dsimp only [Pt.U, Pt.locs, Pt.cells, Pt.slots] at X277 l277 y277 z277 st277 hQ277
  subst l277 y277 z277
  have X277 := X277.more (cells' := 0) (slots' := 0) (by decide) (by decide)
  obtain ⟨hq277, N277q, e277⟩ := hQ277
  have hq277 : rv277 = some (.int (3 : Int32)) := hq277
  subst hq277
  have N277 := Fr.app N0 N277q
  obtain ⟨Lw277, X277, N277⟩ := own_locG X277 N277
  refine Gl.st (g' := (mkF m 9 #[vR gr, vR a, vR e8, .unset, .unset, .unset, .unset] [(.int (3 : Int32)), (.ref gr)])) (fun τ κ => st277.trans κ) ?_
  refine Gl.st (g' := (mkF m 11 #[vR gr, vR a, vR e8, .unset, .unset, .unset, .unset] [(.int (5 : Int32)), (.ref gr)])) (fun τ κ => XS.iconst X277.here hx rfl (hb hby d16_9) (XS.iadd X277.here hx rfl (hb hby d16_10) rfl κ)) ?_
  obtain ⟨T278, h278, X278, e278, W278, st278⟩ := putF X277 hx hZ hown (host := "") (Or.inl (w97_ hw)) Via.refl e277 G0 Eg (Or.inr ⟨(w98_ hw), rfl, hnm⟩) (w83_ hw) (ty := .int) (by decide) rfl rfl (g := (mkF m 11 #[vR gr, vR a, vR e8, .unset, .unset, .unset, .unset] [(.int (5 : Int32)), (.ref gr)])) rfl rfl (hb hby d16_11)
  have V_279 := VB.other W278 (Ne.symm n_lb)
  have E_280 := EL.wr W278
  have F_281 := FC.other W278 (Or.inl (Ne.symm n_la))
  have F_282 := FV.other W278 (Or.inl (Ne.symm n_la))
  have S_283 := S0.wr W278
  have E_284 := Em.wr W278
  have F_285 := F0.other W278 (Or.inl (Ne.symm n_a))
  have F_286 := F1.other W278 (Or.inl (Ne.symm n_a))
  have F_287 := F2.other W278 (Or.inl (Ne.symm n_a))
  have V_288 := Vt.other W278 (Ne.symm n_tb)
  have S_289 := S8.wr W278
  have E_290 := Eg.wr W278
  have F_292 := G1.other W278 (Or.inr (slot_ne (Or.inr (w103_ hw)) (Or.inr (w98_ hw)) (by decide) (t := (.array .int)) (t' := .int) (by decide) (by decide)))
  have F_293 := G2.other W278 (Or.inr (slot_ne (Or.inr (w105_ hw)) (Or.inr (w98_ hw)) (by decide) (t := (.array .int)) (t' := .int) (by decide) (by decide)))
  have F_294 := G3.other W278 (Or.inr (slot_ne (Or.inr (w107_ hw)) (Or.inr (w98_ hw)) (by decide) (t := (.array .int)) (t' := .int) (by decide) (by decide)))
  have F_295 := G4.other W278 (Or.inr (slot_ne (Or.inr (w114_ hw)) (Or.inr (w98_ hw)) (by decide) (t := (.array .boolean)) (t' := .int) (by decide) (by decide)))
  obtain ⟨Lw278, X278, N278⟩ := own_locG X278 (Fr.snoc X278 N277 gg)
  have Z278 : n0 ≤ h278.size := Nat.le_trans Z0 (Nat.le_of_eq W278.size.symm)
  have K278 : Keep h0 h278 [gr] := (Keep.refl h0 [gr]).wr W278 (Or.inl (List.mem_of_getElem? (i := 0) rfl))
  have F_296 := G0.same W278
  refine Gl.st (g' := (mkF m 14 #[vR gr, vR a, vR e8, .unset, .unset, .unset, .unset] [])) (fun τ κ => st278 _ κ) ?_
  refine Gl.st (g' := (mkF m 15 #[vR gr, vR a, vR e8, .unset, .unset, .unset, .unset] [(.ref e8)])) (fun τ κ => XS.aloadN X278.here hx rfl (hb hby d16_14) rfl rfl κ) ?_
  obtain ⟨T297, X297, e297, st297⟩ := getS2 X278 hx hZ hown (host := "") (Or.inl (w99_ hw)) Via.refl e278 S_289 (g := (mkF m 15 #[vR gr, vR a, vR e8, .unset, .unset, .unset, .unset] [(.ref e8)])) rfl (hb hby d16_15)
  refine Gl.st (g' := (mkF m 18 #[vR gr, vR a, vR e8, .unset, .unset, .unset, .unset] [(.ref e8), (.ref e8)])) (fun τ κ => st297 _ κ) ?_
  refine Gl.st (g' := (mkF m 21 #[vR gr, vR a, vR e8, .unset, .unset, .unset, .unset] [])) (fun τ κ => Jvm.RoadKit.acmp (g := (mkF m 18 #[vR gr, vR a, vR e8, .unset, .unset, .unset, .unset] [(.ref e8), (.ref e8)])) X297 hx rfl rfl rfl (pc0 := 18) (pc' := 21) (same := true) rfl (hb hby d16_18) rfl (decide_eq_true rfl) (by decide) (by decide) κ) ?_
  refine Gl.st (g' := (mkF m 24 #[vR gr, vR a, vR e8, .unset, .unset, .unset, .unset] [(.int (8 : Int32)), (.ref gr)])) (fun τ κ => XS.aloadN X297.here hx rfl (hb hby d16_21) rfl rfl (XS.bipush X297.here hx rfl (hb hby d16_22) κ)) ?_
  obtain ⟨T298, h298, k298, X298, e298, E298, A298, st298⟩ := newP X297 hx hZ (hw _ (List.mem_of_getElem? (i := 101) rfl)) e297 (g := (mkF m 24 #[vR gr, vR a, vR e8, .unset, .unset, .unset, .unset] [(.int (8 : Int32)), (.ref gr)])) rfl (hb hby d16_24) rfl (by decide) (cap := 8) (by decide) (by decide) (by decide) (by decide)
  obtain ⟨b298, g298⟩ : ∃ z, z = h278.size := ⟨_, rfl⟩
  rw [← g298] at A298 st298
  have ne_gr_b298 : gr ≠ b298 := Nat.ne_of_lt (Nat.lt_of_lt_of_le E_290.lt (Nat.le_of_eq g298.symm))
  have E_299 := E_290.ext E298
  have F_300 := F_296.ext E298
  have F_301 := F_292.ext E298
  have F_302 := F_293.ext E298
  have F_303 := F_294.ext E298
  have F_304 := F_295.ext E298
  have g_b298 : n0 ≤ b298 := Nat.le_trans Z278 (Nat.le_of_eq g298.symm)
  have sz_b298 : h0.size ≤ b298 := Nat.le_trans K278.1 (Nat.le_of_eq g298.symm)
  have Z298 : n0 ≤ h298.size := Nat.le_trans Z278 E298.1
  have K298 : Keep h0 h298 [gr] := K278.ext E298
  have V_b298 : Arv Z h298 b298 k298 .int (8 : Int32) [(.int (0 : Int32)), (.int (0 : Int32)), (.int (0 : Int32)), (.int (0 : Int32)), (.int (0 : Int32)), (.int (0 : Int32)), (.int (0 : Int32)), (.int (0 : Int32))] (.int (0 : Int32)) := (Arv.new A298 (by decide)).pad (pad_rep [] (.int (0 : Int32)) 8)
  have X298 := X298.more (cells' := 1) (slots' := 8) (by decide) (by decide)
  refine Gl.st (g' := (mkF m 26 #[vR gr, vR a, vR e8, .unset, .unset, .unset, .unset] [(.ref b298), (.ref gr)])) (fun τ κ => st298 _ κ) ?_
  refine Gl.st (g' := (mkF m 28 #[vR gr, vR a, vR e8, .unset, .unset, .unset, .unset] [(.int (0 : Int32)), (.ref b298), (.ref b298), (.ref gr)])) (fun τ κ => XS.dup X298.here hx rfl (hb hby d16_26) rfl rfl (XS.iconst X298.here hx rfl (hb hby d16_27) κ)) ?_
  refine Gl.st (g' := (mkF m 29 #[vR gr, vR a, vR e8, .unset, .unset, .unset, .unset] [(.ref gr), (.int (0 : Int32)), (.ref b298), (.ref b298), (.ref gr)])) (fun τ κ => XS.aloadN X298.here hx rfl (hb hby d16_28) rfl rfl κ) ?_
  obtain ⟨T305, X305, e305, st305⟩ := getF X298 hx hZ hown (host := "") (Or.inl (w97_ hw)) Via.refl e298 F_300 (g := (mkF m 29 #[vR gr, vR a, vR e8, .unset, .unset, .unset, .unset] [(.ref gr), (.int (0 : Int32)), (.ref b298), (.ref b298), (.ref gr)])) rfl rfl (hb hby d16_29)
  refine Gl.st (g' := (mkF m 32 #[vR gr, vR a, vR e8, .unset, .unset, .unset, .unset] [(.int (5 : Int32)), (.int (0 : Int32)), (.ref b298), (.ref b298), (.ref gr)])) (fun τ κ => st305 _ κ) ?_
  refine Gl.st (g' := (mkF m 33 #[vR gr, vR a, vR e8, .unset, .unset, .unset, .unset] [(.int (-5 : Int32)), (.int (0 : Int32)), (.ref b298), (.ref b298), (.ref gr)])) (fun τ κ => XS.ineg X305.here hx rfl (hb hby d16_32) rfl κ) ?_
  obtain ⟨cl_o306, Ar_o306, q_o306, S_o306, M_o306, H_o306, G_o306⟩ := id V_b298
  have hin_o306 : ¬ ((0 : Int32) < 0 ∨ cl_o306.slots.size ≤ ((0 : Int32)).toNatClampNeg) := inb_of S_o306 ⟨by decide, by decide⟩
  obtain ⟨T307, h307, X307, e307, W307, st307⟩ := stI X305 hx hZ e305 Ar_o306 (j := (0 : Int32)) hin_o306 (g := (mkF m 33 #[vR gr, vR a, vR e8, .unset, .unset, .unset, .unset] [(.int (-5 : Int32)), (.int (0 : Int32)), (.ref b298), (.ref b298), (.ref gr)])) rfl rfl (hb hby d16_33)
  have E_308 := E_299.wr W307
  have F_309 := F_300.other W307 (Or.inl ne_gr_b298)
  have F_310 := F_301.other W307 (Or.inl ne_gr_b298)
  have F_311 := F_302.other W307 (Or.inl ne_gr_b298)
  have F_312 := F_303.other W307 (Or.inl ne_gr_b298)
  have F_313 := F_304.other W307 (Or.inl ne_gr_b298)
  obtain ⟨Lw307, X307, N307⟩ := own_locG X307 (Fr.snoc X307 N278 g_b298)
  have Z307 : n0 ≤ h307.size := Nat.le_trans Z298 (Nat.le_of_eq W307.size.symm)
  have K307 : Keep h0 h307 [gr] := K298.wr W307 (Or.inr sz_b298)
  have V_b298_307 : Arv Z h307 b298 k298 .int (8 : Int32) [(.int (-5 : Int32)), (.int (0 : Int32)), (.int (0 : Int32)), (.int (0 : Int32)), (.int (0 : Int32)), (.int (0 : Int32)), (.int (0 : Int32)), (.int (0 : Int32))] (.int (0 : Int32)) := Arv.set Ar_o306 q_o306 S_o306 M_o306 H_o306 G_o306 rfl W307 0 rfl (Nat.le_of_ble_eq_true rfl)
  refine Gl.st (g' := (mkF m 34 #[vR gr, vR a, vR e8, .unset, .unset, .unset, .unset] [(.ref b298), (.ref gr)])) (fun τ κ => st307 _ κ) ?_
  refine Gl.st (g' := (mkF m 36 #[vR gr, vR a, vR e8, .unset, .unset, .unset, .unset] [(.int (1 : Int32)), (.ref b298), (.ref b298), (.ref gr)])) (fun τ κ => XS.dup X307.here hx rfl (hb hby d16_34) rfl rfl (XS.iconst X307.here hx rfl (hb hby d16_35) κ)) ?_
  refine Gl.st (g' := (mkF m 37 #[vR gr, vR a, vR e8, .unset, .unset, .unset, .unset] [(.int (-1 : Int32)), (.int (1 : Int32)), (.ref b298), (.ref b298), (.ref gr)])) (fun τ κ => XS.iconst X307.here hx rfl (hb hby d16_36) κ) ?_
  obtain ⟨cl_o315, Ar_o315, q_o315, S_o315, M_o315, H_o315, G_o315⟩ := id V_b298_307
  have hin_o315 : ¬ ((1 : Int32) < 0 ∨ cl_o315.slots.size ≤ ((1 : Int32)).toNatClampNeg) := inb_of S_o315 ⟨by decide, by decide⟩
  obtain ⟨T316, h316, X316, e316, W316, st316⟩ := stI X307 hx hZ e307 Ar_o315 (j := (1 : Int32)) hin_o315 (g := (mkF m 37 #[vR gr, vR a, vR e8, .unset, .unset, .unset, .unset] [(.int (-1 : Int32)), (.int (1 : Int32)), (.ref b298), (.ref b298), (.ref gr)])) rfl rfl (hb hby d16_37)
  have E_317 := E_308.wr W316
  have F_318 := F_309.other W316 (Or.inl ne_gr_b298)
  have F_319 := F_310.other W316 (Or.inl ne_gr_b298)
  have F_320 := F_311.other W316 (Or.inl ne_gr_b298)
  have F_321 := F_312.other W316 (Or.inl ne_gr_b298)
  have F_322 := F_313.other W316 (Or.inl ne_gr_b298)
  obtain ⟨Lw316, X316, N316⟩ := own_locG X316 (Fr.snoc X316 N307 g_b298)
  have Z316 : n0 ≤ h316.size := Nat.le_trans Z307 (Nat.le_of_eq W316.size.symm)
  have K316 : Keep h0 h316 [gr] := K307.wr W316 (Or.inr sz_b298)
  have V_b298_316 : Arv Z h316 b298 k298 .int (8 : Int32) [(.int (-5 : Int32)), (.int (-1 : Int32)), (.int (0 : Int32)), (.int (0 : Int32)), (.int (0 : Int32)), (.int (0 : Int32)), (.int (0 : Int32)), (.int (0 : Int32))] (.int (0 : Int32)) := Arv.set Ar_o315 q_o315 S_o315 M_o315 H_o315 G_o315 rfl W316 1 rfl (Nat.le_of_ble_eq_true rfl)
  refine Gl.st (g' := (mkF m 38 #[vR gr, vR a, vR e8, .unset, .unset, .unset, .unset] [(.ref b298), (.ref gr)])) (fun τ κ => st316 _ κ) ?_
  refine Gl.st (g' := (mkF m 40 #[vR gr, vR a, vR e8, .unset, .unset, .unset, .unset] [(.int (2 : Int32)), (.ref b298), (.ref b298), (.ref gr)])) (fun τ κ => XS.dup X316.here hx rfl (hb hby d16_38) rfl rfl (XS.iconst X316.here hx rfl (hb hby d16_39) κ)) ?_
  refine Gl.st (g' := (mkF m 41 #[vR gr, vR a, vR e8, .unset, .unset, .unset, .unset] [(.int (1 : Int32)), (.int (2 : Int32)), (.ref b298), (.ref b298), (.ref gr)])) (fun τ κ => XS.iconst X316.here hx rfl (hb hby d16_40) κ) ?_
  obtain ⟨cl_o324, Ar_o324, q_o324, S_o324, M_o324, H_o324, G_o324⟩ := id V_b298_316
  have hin_o324 : ¬ ((2 : Int32) < 0 ∨ cl_o324.slots.size ≤ ((2 : Int32)).toNatClampNeg) := inb_of S_o324 ⟨by decide, by decide⟩
  obtain ⟨T325, h325, X325, e325, W325, st325⟩ := stI X316 hx hZ e316 Ar_o324 (j := (2 : Int32)) hin_o324 (g := (mkF m 41 #[vR gr, vR a, vR e8, .unset, .unset, .unset, .unset] [(.int (1 : Int32)), (.int (2 : Int32)), (.ref b298), (.ref b298), (.ref gr)])) rfl rfl (hb hby d16_41)
  have E_326 := E_317.wr W325
  have F_327 := F_318.other W325 (Or.inl ne_gr_b298)
  have F_328 := F_319.other W325 (Or.inl ne_gr_b298)
  have F_329 := F_320.other W325 (Or.inl ne_gr_b298)
  have F_330 := F_321.other W325 (Or.inl ne_gr_b298)
  have F_331 := F_322.other W325 (Or.inl ne_gr_b298)
  obtain ⟨Lw325, X325, N325⟩ := own_locG X325 (Fr.snoc X325 N316 g_b298)
  have Z325 : n0 ≤ h325.size := Nat.le_trans Z316 (Nat.le_of_eq W325.size.symm)
  have K325 : Keep h0 h325 [gr] := K316.wr W325 (Or.inr sz_b298)
  have V_b298_325 : Arv Z h325 b298 k298 .int (8 : Int32) [(.int (-5 : Int32)), (.int (-1 : Int32)), (.int (1 : Int32)), (.int (0 : Int32)), (.int (0 : Int32)), (.int (0 : Int32)), (.int (0 : Int32)), (.int (0 : Int32))] (.int (0 : Int32)) := Arv.set Ar_o324 q_o324 S_o324 M_o324 H_o324 G_o324 rfl W325 2 rfl (Nat.le_of_ble_eq_true rfl)
  refine Gl.st (g' := (mkF m 42 #[vR gr, vR a, vR e8, .unset, .unset, .unset, .unset] [(.ref b298), (.ref gr)])) (fun τ κ => st325 _ κ) ?_
  refine Gl.st (g' := (mkF m 44 #[vR gr, vR a, vR e8, .unset, .unset, .unset, .unset] [(.int (3 : Int32)), (.ref b298), (.ref b298), (.ref gr)])) (fun τ κ => XS.dup X325.here hx rfl (hb hby d16_42) rfl rfl (XS.iconst X325.here hx rfl (hb hby d16_43) κ)) ?_
  refine Gl.st (g' := (mkF m 45 #[vR gr, vR a, vR e8, .unset, .unset, .unset, .unset] [(.ref gr), (.int (3 : Int32)), (.ref b298), (.ref b298), (.ref gr)])) (fun τ κ => XS.aloadN X325.here hx rfl (hb hby d16_44) rfl rfl κ) ?_
  obtain ⟨T333, X333, e333, st333⟩ := getF X325 hx hZ hown (host := "") (Or.inl (w97_ hw)) Via.refl e325 F_327 (g := (mkF m 45 #[vR gr, vR a, vR e8, .unset, .unset, .unset, .unset] [(.ref gr), (.int (3 : Int32)), (.ref b298), (.ref b298), (.ref gr)])) rfl rfl (hb hby d16_45)
  refine Gl.st (g' := (mkF m 48 #[vR gr, vR a, vR e8, .unset, .unset, .unset, .unset] [(.int (5 : Int32)), (.int (3 : Int32)), (.ref b298), (.ref b298), (.ref gr)])) (fun τ κ => st333 _ κ) ?_
  obtain ⟨cl_o334, Ar_o334, q_o334, S_o334, M_o334, H_o334, G_o334⟩ := id V_b298_325
  have hin_o334 : ¬ ((3 : Int32) < 0 ∨ cl_o334.slots.size ≤ ((3 : Int32)).toNatClampNeg) := inb_of S_o334 ⟨by decide, by decide⟩
  obtain ⟨T335, h335, X335, e335, W335, st335⟩ := stI X333 hx hZ e333 Ar_o334 (j := (3 : Int32)) hin_o334 (g := (mkF m 48 #[vR gr, vR a, vR e8, .unset, .unset, .unset, .unset] [(.int (5 : Int32)), (.int (3 : Int32)), (.ref b298), (.ref b298), (.ref gr)])) rfl rfl (hb hby d16_48)
  have E_336 := E_326.wr W335
  have F_337 := F_327.other W335 (Or.inl ne_gr_b298)
  have F_338 := F_328.other W335 (Or.inl ne_gr_b298)
  have F_339 := F_329.other W335 (Or.inl ne_gr_b298)
  have F_340 := F_330.other W335 (Or.inl ne_gr_b298)
  have F_341 := F_331.other W335 (Or.inl ne_gr_b298)
  obtain ⟨Lw335, X335, N335⟩ := own_locG X335 (Fr.snoc X335 N325 g_b298)
  have Z335 : n0 ≤ h335.size := Nat.le_trans Z325 (Nat.le_of_eq W335.size.symm)
  have K335 : Keep h0 h335 [gr] := K325.wr W335 (Or.inr sz_b298)
  have V_b298_335 : Arv Z h335 b298 k298 .int (8 : Int32) [(.int (-5 : Int32)), (.int (-1 : Int32)), (.int (1 : Int32)), (.int (5 : Int32)), (.int (0 : Int32)), (.int (0 : Int32)), (.int (0 : Int32)), (.int (0 : Int32))] (.int (0 : Int32)) := Arv.set Ar_o334 q_o334 S_o334 M_o334 H_o334 G_o334 rfl W335 3 rfl (Nat.le_of_ble_eq_true rfl)
  refine Gl.st (g' := (mkF m 49 #[vR gr, vR a, vR e8, .unset, .unset, .unset, .unset] [(.ref b298), (.ref gr)])) (fun τ κ => st335 _ κ) ?_
  refine Gl.st (g' := (mkF m 51 #[vR gr, vR a, vR e8, .unset, .unset, .unset, .unset] [(.int (4 : Int32)), (.ref b298), (.ref b298), (.ref gr)])) (fun τ κ => XS.dup X335.here hx rfl (hb hby d16_49) rfl rfl (XS.iconst X335.here hx rfl (hb hby d16_50) κ)) ?_
  refine Gl.st (g' := (mkF m 52 #[vR gr, vR a, vR e8, .unset, .unset, .unset, .unset] [(.ref gr), (.int (4 : Int32)), (.ref b298), (.ref b298), (.ref gr)])) (fun τ κ => XS.aloadN X335.here hx rfl (hb hby d16_51) rfl rfl κ) ?_
  obtain ⟨T343, X343, e343, st343⟩ := getF X335 hx hZ hown (host := "") (Or.inl (w97_ hw)) Via.refl e335 F_337 (g := (mkF m 52 #[vR gr, vR a, vR e8, .unset, .unset, .unset, .unset] [(.ref gr), (.int (4 : Int32)), (.ref b298), (.ref b298), (.ref gr)])) rfl rfl (hb hby d16_52)
  refine Gl.st (g' := (mkF m 55 #[vR gr, vR a, vR e8, .unset, .unset, .unset, .unset] [(.int (5 : Int32)), (.int (4 : Int32)), (.ref b298), (.ref b298), (.ref gr)])) (fun τ κ => st343 _ κ) ?_
  refine Gl.st (g' := (mkF m 57 #[vR gr, vR a, vR e8, .unset, .unset, .unset, .unset] [(.int (1 : Int32)), (.int (-5 : Int32)), (.int (4 : Int32)), (.ref b298), (.ref b298), (.ref gr)])) (fun τ κ => XS.ineg X343.here hx rfl (hb hby d16_55) rfl (XS.iconst X343.here hx rfl (hb hby d16_56) κ)) ?_
  refine Gl.st (g' := (mkF m 58 #[vR gr, vR a, vR e8, .unset, .unset, .unset, .unset] [(.int (-6 : Int32)), (.int (4 : Int32)), (.ref b298), (.ref b298), (.ref gr)])) (fun τ κ => XS.isub X343.here hx rfl (hb hby d16_57) rfl κ) ?_
  obtain ⟨cl_o344, Ar_o344, q_o344, S_o344, M_o344, H_o344, G_o344⟩ := id V_b298_335
  have hin_o344 : ¬ ((4 : Int32) < 0 ∨ cl_o344.slots.size ≤ ((4 : Int32)).toNatClampNeg) := inb_of S_o344 ⟨by decide, by decide⟩
  obtain ⟨T345, h345, X345, e345, W345, st345⟩ := stI X343 hx hZ e343 Ar_o344 (j := (4 : Int32)) hin_o344 (g := (mkF m 58 #[vR gr, vR a, vR e8, .unset, .unset, .unset, .unset] [(.int (-6 : Int32)), (.int (4 : Int32)), (.ref b298), (.ref b298), (.ref gr)])) rfl rfl (hb hby d16_58)
  have E_346 := E_336.wr W345
  have F_347 := F_337.other W345 (Or.inl ne_gr_b298)
  have F_348 := F_338.other W345 (Or.inl ne_gr_b298)
  have F_349 := F_339.other W345 (Or.inl ne_gr_b298)
  have F_350 := F_340.other W345 (Or.inl ne_gr_b298)
  have F_351 := F_341.other W345 (Or.inl ne_gr_b298)
  obtain ⟨Lw345, X345, N345⟩ := own_locG X345 (Fr.snoc X345 N335 g_b298)
  have Z345 : n0 ≤ h345.size := Nat.le_trans Z335 (Nat.le_of_eq W345.size.symm)
  have K345 : Keep h0 h345 [gr] := K335.wr W345 (Or.inr sz_b298)
  have V_b298_345 : Arv Z h345 b298 k298 .int (8 : Int32) [(.int (-5 : Int32)), (.int (-1 : Int32)), (.int (1 : Int32)), (.int (5 : Int32)), (.int (-6 : Int32)), (.int (0 : Int32)), (.int (0 : Int32)), (.int (0 : Int32))] (.int (0 : Int32)) := Arv.set Ar_o344 q_o344 S_o344 M_o344 H_o344 G_o344 rfl W345 4 rfl (Nat.le_of_ble_eq_true rfl)
  refine Gl.st (g' := (mkF m 59 #[vR gr, vR a, vR e8, .unset, .unset, .unset, .unset] [(.ref b298), (.ref gr)])) (fun τ κ => st345 _ κ) ?_
  refine Gl.st (g' := (mkF m 61 #[vR gr, vR a, vR e8, .unset, .unset, .unset, .unset] [(.int (5 : Int32)), (.ref b298), (.ref b298), (.ref gr)])) (fun τ κ => XS.dup X345.here hx rfl (hb hby d16_59) rfl rfl (XS.iconst X345.here hx rfl (hb hby d16_60) κ)) ?_
  refine Gl.st (g' := (mkF m 62 #[vR gr, vR a, vR e8, .unset, .unset, .unset, .unset] [(.ref gr), (.int (5 : Int32)), (.ref b298), (.ref b298), (.ref gr)])) (fun τ κ => XS.aloadN X345.here hx rfl (hb hby d16_61) rfl rfl κ) ?_
  obtain ⟨T353, X353, e353, st353⟩ := getF X345 hx hZ hown (host := "") (Or.inl (w97_ hw)) Via.refl e345 F_347 (g := (mkF m 62 #[vR gr, vR a, vR e8, .unset, .unset, .unset, .unset] [(.ref gr), (.int (5 : Int32)), (.ref b298), (.ref b298), (.ref gr)])) rfl rfl (hb hby d16_62)
  refine Gl.st (g' := (mkF m 65 #[vR gr, vR a, vR e8, .unset, .unset, .unset, .unset] [(.int (5 : Int32)), (.int (5 : Int32)), (.ref b298), (.ref b298), (.ref gr)])) (fun τ κ => st353 _ κ) ?_
  refine Gl.st (g' := (mkF m 67 #[vR gr, vR a, vR e8, .unset, .unset, .unset, .unset] [(.int (1 : Int32)), (.int (-5 : Int32)), (.int (5 : Int32)), (.ref b298), (.ref b298), (.ref gr)])) (fun τ κ => XS.ineg X353.here hx rfl (hb hby d16_65) rfl (XS.iconst X353.here hx rfl (hb hby d16_66) κ)) ?_
  refine Gl.st (g' := (mkF m 68 #[vR gr, vR a, vR e8, .unset, .unset, .unset, .unset] [(.int (-4 : Int32)), (.int (5 : Int32)), (.ref b298), (.ref b298), (.ref gr)])) (fun τ κ => XS.iadd X353.here hx rfl (hb hby d16_67) rfl κ) ?_
  obtain ⟨cl_o354, Ar_o354, q_o354, S_o354, M_o354, H_o354, G_o354⟩ := id V_b298_345
  have hin_o354 : ¬ ((5 : Int32) < 0 ∨ cl_o354.slots.size ≤ ((5 : Int32)).toNatClampNeg) := inb_of S_o354 ⟨by decide, by decide⟩
  obtain ⟨T355, h355, X355, e355, W355, st355⟩ := stI X353 hx hZ e353 Ar_o354 (j := (5 : Int32)) hin_o354 (g := (mkF m 68 #[vR gr, vR a, vR e8, .unset, .unset, .unset, .unset] [(.int (-4 : Int32)), (.int (5 : Int32)), (.ref b298), (.ref b298), (.ref gr)])) rfl rfl (hb hby d16_68)
  have E_356 := E_346.wr W355
  have F_357 := F_347.other W355 (Or.inl ne_gr_b298)
  have F_358 := F_348.other W355 (Or.inl ne_gr_b298)
  have F_359 := F_349.other W355 (Or.inl ne_gr_b298)
  have F_360 := F_350.other W355 (Or.inl ne_gr_b298)
  have F_361 := F_351.other W355 (Or.inl ne_gr_b298)
  obtain ⟨Lw355, X355, N355⟩ := own_locG X355 (Fr.snoc X355 N345 g_b298)
  have Z355 : n0 ≤ h355.size := Nat.le_trans Z345 (Nat.le_of_eq W355.size.symm)
  have K355 : Keep h0 h355 [gr] := K345.wr W355 (Or.inr sz_b298)
  have V_b298_355 : Arv Z h355 b298 k298 .int (8 : Int32) [(.int (-5 : Int32)), (.int (-1 : Int32)), (.int (1 : Int32)), (.int (5 : Int32)), (.int (-6 : Int32)), (.int (-4 : Int32)), (.int (0 : Int32)), (.int (0 : Int32))] (.int (0 : Int32)) := Arv.set Ar_o354 q_o354 S_o354 M_o354 H_o354 G_o354 rfl W355 5 rfl (Nat.le_of_ble_eq_true rfl)
  refine Gl.st (g' := (mkF m 69 #[vR gr, vR a, vR e8, .unset, .unset, .unset, .unset] [(.ref b298), (.ref gr)])) (fun τ κ => st355 _ κ) ?_
  refine Gl.st (g' := (mkF m 72 #[vR gr, vR a, vR e8, .unset, .unset, .unset, .unset] [(.int (6 : Int32)), (.ref b298), (.ref b298), (.ref gr)])) (fun τ κ => XS.dup X355.here hx rfl (hb hby d16_69) rfl rfl (XS.bipush X355.here hx rfl (hb hby d16_70) κ)) ?_
  refine Gl.st (g' := (mkF m 73 #[vR gr, vR a, vR e8, .unset, .unset, .unset, .unset] [(.ref gr), (.int (6 : Int32)), (.ref b298), (.ref b298), (.ref gr)])) (fun τ κ => XS.aloadN X355.here hx rfl (hb hby d16_72) rfl rfl κ) ?_
  obtain ⟨T363, X363, e363, st363⟩ := getF X355 hx hZ hown (host := "") (Or.inl (w97_ hw)) Via.refl e355 F_357 (g := (mkF m 73 #[vR gr, vR a, vR e8, .unset, .unset, .unset, .unset] [(.ref gr), (.int (6 : Int32)), (.ref b298), (.ref b298), (.ref gr)])) rfl rfl (hb hby d16_73)
  refine Gl.st (g' := (mkF m 76 #[vR gr, vR a, vR e8, .unset, .unset, .unset, .unset] [(.int (5 : Int32)), (.int (6 : Int32)), (.ref b298), (.ref b298), (.ref gr)])) (fun τ κ => st363 _ κ) ?_
  refine Gl.st (g' := (mkF m 78 #[vR gr, vR a, vR e8, .unset, .unset, .unset, .unset] [(.int (4 : Int32)), (.int (6 : Int32)), (.ref b298), (.ref b298), (.ref gr)])) (fun τ κ => XS.iconst X363.here hx rfl (hb hby d16_76) (XS.isub X363.here hx rfl (hb hby d16_77) rfl κ)) ?_
  obtain ⟨cl_o364, Ar_o364, q_o364, S_o364, M_o364, H_o364, G_o364⟩ := id V_b298_355
  have hin_o364 : ¬ ((6 : Int32) < 0 ∨ cl_o364.slots.size ≤ ((6 : Int32)).toNatClampNeg) := inb_of S_o364 ⟨by decide, by decide⟩
  obtain ⟨T365, h365, X365, e365, W365, st365⟩ := stI X363 hx hZ e363 Ar_o364 (j := (6 : Int32)) hin_o364 (g := (mkF m 78 #[vR gr, vR a, vR e8, .unset, .unset, .unset, .unset] [(.int (4 : Int32)), (.int (6 : Int32)), (.ref b298), (.ref b298), (.ref gr)])) rfl rfl (hb hby d16_78)
  have E_366 := E_356.wr W365
  have F_367 := F_357.other W365 (Or.inl ne_gr_b298)
  have F_368 := F_358.other W365 (Or.inl ne_gr_b298)
  have F_369 := F_359.other W365 (Or.inl ne_gr_b298)
  have F_370 := F_360.other W365 (Or.inl ne_gr_b298)
  have F_371 := F_361.other W365 (Or.inl ne_gr_b298)
  obtain ⟨Lw365, X365, N365⟩ := own_locG X365 (Fr.snoc X365 N355 g_b298)
  have Z365 : n0 ≤ h365.size := Nat.le_trans Z355 (Nat.le_of_eq W365.size.symm)
  have K365 : Keep h0 h365 [gr] := K355.wr W365 (Or.inr sz_b298)
  have V_b298_365 : Arv Z h365 b298 k298 .int (8 : Int32) [(.int (-5 : Int32)), (.int (-1 : Int32)), (.int (1 : Int32)), (.int (5 : Int32)), (.int (-6 : Int32)), (.int (-4 : Int32)), (.int (4 : Int32)), (.int (0 : Int32))] (.int (0 : Int32)) := Arv.set Ar_o364 q_o364 S_o364 M_o364 H_o364 G_o364 rfl W365 6 rfl (Nat.le_of_ble_eq_true rfl)
  refine Gl.st (g' := (mkF m 79 #[vR gr, vR a, vR e8, .unset, .unset, .unset, .unset] [(.ref b298), (.ref gr)])) (fun τ κ => st365 _ κ) ?_
  refine Gl.st (g' := (mkF m 82 #[vR gr, vR a, vR e8, .unset, .unset, .unset, .unset] [(.int (7 : Int32)), (.ref b298), (.ref b298), (.ref gr)])) (fun τ κ => XS.dup X365.here hx rfl (hb hby d16_79) rfl rfl (XS.bipush X365.here hx rfl (hb hby d16_80) κ)) ?_
  refine Gl.st (g' := (mkF m 83 #[vR gr, vR a, vR e8, .unset, .unset, .unset, .unset] [(.ref gr), (.int (7 : Int32)), (.ref b298), (.ref b298), (.ref gr)])) (fun τ κ => XS.aloadN X365.here hx rfl (hb hby d16_82) rfl rfl κ) ?_
  obtain ⟨T373, X373, e373, st373⟩ := getF X365 hx hZ hown (host := "") (Or.inl (w97_ hw)) Via.refl e365 F_367 (g := (mkF m 83 #[vR gr, vR a, vR e8, .unset, .unset, .unset, .unset] [(.ref gr), (.int (7 : Int32)), (.ref b298), (.ref b298), (.ref gr)])) rfl rfl (hb hby d16_83)
  refine Gl.st (g' := (mkF m 86 #[vR gr, vR a, vR e8, .unset, .unset, .unset, .unset] [(.int (5 : Int32)), (.int (7 : Int32)), (.ref b298), (.ref b298), (.ref gr)])) (fun τ κ => st373 _ κ) ?_
  refine Gl.st (g' := (mkF m 88 #[vR gr, vR a, vR e8, .unset, .unset, .unset, .unset] [(.int (6 : Int32)), (.int (7 : Int32)), (.ref b298), (.ref b298), (.ref gr)])) (fun τ κ => XS.iconst X373.here hx rfl (hb hby d16_86) (XS.iadd X373.here hx rfl (hb hby d16_87) rfl κ)) ?_
  obtain ⟨cl_o374, Ar_o374, q_o374, S_o374, M_o374, H_o374, G_o374⟩ := id V_b298_365
  have hin_o374 : ¬ ((7 : Int32) < 0 ∨ cl_o374.slots.size ≤ ((7 : Int32)).toNatClampNeg) := inb_of S_o374 ⟨by decide, by decide⟩
  obtain ⟨T375, h375, X375, e375, W375, st375⟩ := stI X373 hx hZ e373 Ar_o374 (j := (7 : Int32)) hin_o374 (g := (mkF m 88 #[vR gr, vR a, vR e8, .unset, .unset, .unset, .unset] [(.int (6 : Int32)), (.int (7 : Int32)), (.ref b298), (.ref b298), (.ref gr)])) rfl rfl (hb hby d16_88)
  have E_376 := E_366.wr W375
  have F_377 := F_367.other W375 (Or.inl ne_gr_b298)
  have F_378 := F_368.other W375 (Or.inl ne_gr_b298)
  have F_379 := F_369.other W375 (Or.inl ne_gr_b298)
  have F_380 := F_370.other W375 (Or.inl ne_gr_b298)
  have F_381 := F_371.other W375 (Or.inl ne_gr_b298)
  obtain ⟨Lw375, X375, N375⟩ := own_locG X375 (Fr.snoc X375 N365 g_b298)
  have Z375 : n0 ≤ h375.size := Nat.le_trans Z365 (Nat.le_of_eq W375.size.symm)
  have K375 : Keep h0 h375 [gr] := K365.wr W375 (Or.inr sz_b298)
  have V_b298_375 : Arv Z h375 b298 k298 .int (8 : Int32) [(.int (-5 : Int32)), (.int (-1 : Int32)), (.int (1 : Int32)), (.int (5 : Int32)), (.int (-6 : Int32)), (.int (-4 : Int32)), (.int (4 : Int32)), (.int (6 : Int32))] (.int (0 : Int32)) := Arv.set Ar_o374 q_o374 S_o374 M_o374 H_o374 G_o374 rfl W375 7 rfl (Nat.le_of_ble_eq_true rfl)
  refine Gl.st (g' := (mkF m 89 #[vR gr, vR a, vR e8, .unset, .unset, .unset, .unset] [(.ref b298), (.ref gr)])) (fun τ κ => st375 _ κ) ?_
  obtain ⟨T383, h383, X383, e383, W383, st383⟩ := putF X375 hx hZ hown (host := "") (Or.inl (w102_ hw)) Via.refl e375 F_378 E_376 (Or.inr ⟨(w103_ hw), rfl, hnm⟩) (w83_ hw) (ty := (.array .int)) (by decide) rfl rfl (g := (mkF m 89 #[vR gr, vR a, vR e8, .unset, .unset, .unset, .unset] [(.ref b298), (.ref gr)])) rfl rfl (hb hby d16_89)
  have E_384 := E_376.wr W383
  have F_385 := F_377.other W383 (Or.inr (slot_ne (Or.inr (w98_ hw)) (Or.inr (w103_ hw)) (by decide) (t := .int) (t' := (.array .int)) (by decide) (by decide)))
  have F_387 := F_379.other W383 (Or.inr (slot_ne (Or.inr (w105_ hw)) (Or.inr (w103_ hw)) (by decide) (t := (.array .int)) (t' := (.array .int)) (by decide) (by decide)))
  have F_388 := F_380.other W383 (Or.inr (slot_ne (Or.inr (w107_ hw)) (Or.inr (w103_ hw)) (by decide) (t := (.array .int)) (t' := (.array .int)) (by decide) (by decide)))
  have F_389 := F_381.other W383 (Or.inr (slot_ne (Or.inr (w114_ hw)) (Or.inr (w103_ hw)) (by decide) (t := (.array .boolean)) (t' := (.array .int)) (by decide) (by decide)))
  have V_390 := V_b298_375.other W383 (Ne.symm ne_gr_b298)
  obtain ⟨Lw383, X383, N383⟩ := own_locG X383 (Fr.snoc X383 N375 gg)
  have Z383 : n0 ≤ h383.size := Nat.le_trans Z375 (Nat.le_of_eq W383.size.symm)
  have K383 : Keep h0 h383 [gr] := K375.wr W383 (Or.inl (List.mem_of_getElem? (i := 0) rfl))
  have F_391 := F_378.same W383
  refine Gl.st (g' := (mkF m 92 #[vR gr, vR a, vR e8, .unset, .unset, .unset, .unset] [])) (fun τ κ => st383 _ κ) ?_
  refine Gl.st (g' := (mkF m 95 #[vR gr, vR a, vR e8, .unset, .unset, .unset, .unset] [(.int (8 : Int32)), (.ref gr)])) (fun τ κ => XS.aloadN X383.here hx rfl (hb hby d16_92) rfl rfl (XS.bipush X383.here hx rfl (hb hby d16_93) κ)) ?_
  obtain ⟨T392, h392, k392, X392, e392, E392, A392, st392⟩ := newP X383 hx hZ (hw _ (List.mem_of_getElem? (i := 101) rfl)) e383 (g := (mkF m 95 #[vR gr, vR a, vR e8, .unset, .unset, .unset, .unset] [(.int (8 : Int32)), (.ref gr)])) rfl (hb hby d16_95) rfl (by decide) (cap := 8) (by decide) (by decide) (by decide) (by decide)
  obtain ⟨b392, g392⟩ : ∃ z, z = h383.size := ⟨_, rfl⟩
  rw [← g392] at A392 st392
  have ne_gr_b392 : gr ≠ b392 := Nat.ne_of_lt (Nat.lt_of_lt_of_le E_384.lt (Nat.le_of_eq g392.symm))
  have ne_b298_b392 : b298 ≠ b392 := Nat.ne_of_lt (Nat.lt_of_lt_of_le V_390.lt (Nat.le_of_eq g392.symm))
  have E_393 := E_384.ext E392
  have F_394 := F_385.ext E392
  have F_395 := F_391.ext E392
  have F_396 := F_387.ext E392
  have F_397 := F_388.ext E392
  have F_398 := F_389.ext E392
  have V_399 := V_390.ext E392
  have g_b392 : n0 ≤ b392 := Nat.le_trans Z383 (Nat.le_of_eq g392.symm)
  have sz_b392 : h0.size ≤ b392 := Nat.le_trans K383.1 (Nat.le_of_eq g392.symm)
  have Z392 : n0 ≤ h392.size := Nat.le_trans Z383 E392.1
  have K392 : Keep h0 h392 [gr] := K383.ext E392
  have V_b392 : Arv Z h392 b392 k392 .int (8 : Int32) [(.int (0 : Int32)), (.int (0 : Int32)), (.int (0 : Int32)), (.int (0 : Int32)), (.int (0 : Int32)), (.int (0 : Int32)), (.int (0 : Int32)), (.int (0 : Int32))] (.int (0 : Int32)) := (Arv.new A392 (by decide)).pad (pad_rep [] (.int (0 : Int32)) 8)
  have X392 := X392.more (cells' := 2) (slots' := 16) (by decide) (by decide)
  refine Gl.st (g' := (mkF m 97 #[vR gr, vR a, vR e8, .unset, .unset, .unset, .unset] [(.ref b392), (.ref gr)])) (fun τ κ => st392 _ κ) ?_
  refine Gl.st (g' := (mkF m 99 #[vR gr, vR a, vR e8, .unset, .unset, .unset, .unset] [(.int (0 : Int32)), (.ref b392), (.ref b392), (.ref gr)])) (fun τ κ => XS.dup X392.here hx rfl (hb hby d16_97) rfl rfl (XS.iconst X392.here hx rfl (hb hby d16_98) κ)) ?_
  refine Gl.st (g' := (mkF m 100 #[vR gr, vR a, vR e8, .unset, .unset, .unset, .unset] [(.int (0 : Int32)), (.int (0 : Int32)), (.ref b392), (.ref b392), (.ref gr)])) (fun τ κ => XS.iconst X392.here hx rfl (hb hby d16_99) κ) ?_
  obtain ⟨cl_o400, Ar_o400, q_o400, S_o400, M_o400, H_o400, G_o400⟩ := id V_b392
  have hin_o400 : ¬ ((0 : Int32) < 0 ∨ cl_o400.slots.size ≤ ((0 : Int32)).toNatClampNeg) := inb_of S_o400 ⟨by decide, by decide⟩
  obtain ⟨T401, h401, X401, e401, W401, st401⟩ := stI X392 hx hZ e392 Ar_o400 (j := (0 : Int32)) hin_o400 (g := (mkF m 100 #[vR gr, vR a, vR e8, .unset, .unset, .unset, .unset] [(.int (0 : Int32)), (.int (0 : Int32)), (.ref b392), (.ref b392), (.ref gr)])) rfl rfl (hb hby d16_100)
  have E_402 := E_393.wr W401
  have F_403 := F_394.other W401 (Or.inl ne_gr_b392)
  have F_404 := F_395.other W401 (Or.inl ne_gr_b392)
  have F_405 := F_396.other W401 (Or.inl ne_gr_b392)
  have F_406 := F_397.other W401 (Or.inl ne_gr_b392)
  have F_407 := F_398.other W401 (Or.inl ne_gr_b392)
  have V_408 := V_399.other W401 ne_b298_b392
  obtain ⟨Lw401, X401, N401⟩ := own_locG X401 (Fr.snoc X401 N383 g_b392)
  have Z401 : n0 ≤ h401.size := Nat.le_trans Z392 (Nat.le_of_eq W401.size.symm)
  have K401 : Keep h0 h401 [gr] := K392.wr W401 (Or.inr sz_b392)
  have V_b392_401 : Arv Z h401 b392 k392 .int (8 : Int32) [(.int (0 : Int32)), (.int (0 : Int32)), (.int (0 : Int32)), (.int (0 : Int32)), (.int (0 : Int32)), (.int (0 : Int32)), (.int (0 : Int32)), (.int (0 : Int32))] (.int (0 : Int32)) := Arv.set Ar_o400 q_o400 S_o400 M_o400 H_o400 G_o400 rfl W401 0 rfl (Nat.le_of_ble_eq_true rfl)
  refine Gl.st (g' := (mkF m 101 #[vR gr, vR a, vR e8, .unset, .unset, .unset, .unset] [(.ref b392), (.ref gr)])) (fun τ κ => st401 _ κ) ?_
  refine Gl.st (g' := (mkF m 103 #[vR gr, vR a, vR e8, .unset, .unset, .unset, .unset] [(.int (1 : Int32)), (.ref b392), (.ref b392), (.ref gr)])) (fun τ κ => XS.dup X401.here hx rfl (hb hby d16_101) rfl rfl (XS.iconst X401.here hx rfl (hb hby d16_102) κ)) ?_
  refine Gl.st (g' := (mkF m 104 #[vR gr, vR a, vR e8, .unset, .unset, .unset, .unset] [(.int (-1 : Int32)), (.int (1 : Int32)), (.ref b392), (.ref b392), (.ref gr)])) (fun τ κ => XS.iconst X401.here hx rfl (hb hby d16_103) κ) ?_
  obtain ⟨cl_o410, Ar_o410, q_o410, S_o410, M_o410, H_o410, G_o410⟩ := id V_b392_401
  have hin_o410 : ¬ ((1 : Int32) < 0 ∨ cl_o410.slots.size ≤ ((1 : Int32)).toNatClampNeg) := inb_of S_o410 ⟨by decide, by decide⟩
  obtain ⟨T411, h411, X411, e411, W411, st411⟩ := stI X401 hx hZ e401 Ar_o410 (j := (1 : Int32)) hin_o410 (g := (mkF m 104 #[vR gr, vR a, vR e8, .unset, .unset, .unset, .unset] [(.int (-1 : Int32)), (.int (1 : Int32)), (.ref b392), (.ref b392), (.ref gr)])) rfl rfl (hb hby d16_104)
  have E_412 := E_402.wr W411
  have F_413 := F_403.other W411 (Or.inl ne_gr_b392)
  have F_414 := F_404.other W411 (Or.inl ne_gr_b392)
  have F_415 := F_405.other W411 (Or.inl ne_gr_b392)
  have F_416 := F_406.other W411 (Or.inl ne_gr_b392)
  have F_417 := F_407.other W411 (Or.inl ne_gr_b392)
  have V_418 := V_408.other W411 ne_b298_b392
  obtain ⟨Lw411, X411, N411⟩ := own_locG X411 (Fr.snoc X411 N401 g_b392)
  have Z411 : n0 ≤ h411.size := Nat.le_trans Z401 (Nat.le_of_eq W411.size.symm)
  have K411 : Keep h0 h411 [gr] := K401.wr W411 (Or.inr sz_b392)
  have V_b392_411 : Arv Z h411 b392 k392 .int (8 : Int32) [(.int (0 : Int32)), (.int (-1 : Int32)), (.int (0 : Int32)), (.int (0 : Int32)), (.int (0 : Int32)), (.int (0 : Int32)), (.int (0 : Int32)), (.int (0 : Int32))] (.int (0 : Int32)) := Arv.set Ar_o410 q_o410 S_o410 M_o410 H_o410 G_o410 rfl W411 1 rfl (Nat.le_of_ble_eq_true rfl)
  refine Gl.st (g' := (mkF m 105 #[vR gr, vR a, vR e8, .unset, .unset, .unset, .unset] [(.ref b392), (.ref gr)])) (fun τ κ => st411 _ κ) ?_
  refine Gl.st (g' := (mkF m 107 #[vR gr, vR a, vR e8, .unset, .unset, .unset, .unset] [(.int (2 : Int32)), (.ref b392), (.ref b392), (.ref gr)])) (fun τ κ => XS.dup X411.here hx rfl (hb hby d16_105) rfl rfl (XS.iconst X411.here hx rfl (hb hby d16_106) κ)) ?_
  refine Gl.st (g' := (mkF m 108 #[vR gr, vR a, vR e8, .unset, .unset, .unset, .unset] [(.int (1 : Int32)), (.int (2 : Int32)), (.ref b392), (.ref b392), (.ref gr)])) (fun τ κ => XS.iconst X411.here hx rfl (hb hby d16_107) κ) ?_
  obtain ⟨cl_o420, Ar_o420, q_o420, S_o420, M_o420, H_o420, G_o420⟩ := id V_b392_411
  have hin_o420 : ¬ ((2 : Int32) < 0 ∨ cl_o420.slots.size ≤ ((2 : Int32)).toNatClampNeg) := inb_of S_o420 ⟨by decide, by decide⟩
  obtain ⟨T421, h421, X421, e421, W421, st421⟩ := stI X411 hx hZ e411 Ar_o420 (j := (2 : Int32)) hin_o420 (g := (mkF m 108 #[vR gr, vR a, vR e8, .unset, .unset, .unset, .unset] [(.int (1 : Int32)), (.int (2 : Int32)), (.ref b392), (.ref b392), (.ref gr)])) rfl rfl (hb hby d16_108)
  have E_422 := E_412.wr W421
  have F_423 := F_413.other W421 (Or.inl ne_gr_b392)
  have F_424 := F_414.other W421 (Or.inl ne_gr_b392)
  have F_425 := F_415.other W421 (Or.inl ne_gr_b392)
  have F_426 := F_416.other W421 (Or.inl ne_gr_b392)
  have F_427 := F_417.other W421 (Or.inl ne_gr_b392)
  have V_428 := V_418.other W421 ne_b298_b392
  obtain ⟨Lw421, X421, N421⟩ := own_locG X421 (Fr.snoc X421 N411 g_b392)
  have Z421 : n0 ≤ h421.size := Nat.le_trans Z411 (Nat.le_of_eq W421.size.symm)
  have K421 : Keep h0 h421 [gr] := K411.wr W421 (Or.inr sz_b392)
  have V_b392_421 : Arv Z h421 b392 k392 .int (8 : Int32) [(.int (0 : Int32)), (.int (-1 : Int32)), (.int (1 : Int32)), (.int (0 : Int32)), (.int (0 : Int32)), (.int (0 : Int32)), (.int (0 : Int32)), (.int (0 : Int32))] (.int (0 : Int32)) := Arv.set Ar_o420 q_o420 S_o420 M_o420 H_o420 G_o420 rfl W421 2 rfl (Nat.le_of_ble_eq_true rfl)
  refine Gl.st (g' := (mkF m 109 #[vR gr, vR a, vR e8, .unset, .unset, .unset, .unset] [(.ref b392), (.ref gr)])) (fun τ κ => st421 _ κ) ?_
  refine Gl.st (g' := (mkF m 111 #[vR gr, vR a, vR e8, .unset, .unset, .unset, .unset] [(.int (3 : Int32)), (.ref b392), (.ref b392), (.ref gr)])) (fun τ κ => XS.dup X421.here hx rfl (hb hby d16_109) rfl rfl (XS.iconst X421.here hx rfl (hb hby d16_110) κ)) ?_
  refine Gl.st (g' := (mkF m 112 #[vR gr, vR a, vR e8, .unset, .unset, .unset, .unset] [(.int (0 : Int32)), (.int (3 : Int32)), (.ref b392), (.ref b392), (.ref gr)])) (fun τ κ => XS.iconst X421.here hx rfl (hb hby d16_111) κ) ?_
  obtain ⟨cl_o430, Ar_o430, q_o430, S_o430, M_o430, H_o430, G_o430⟩ := id V_b392_421
  have hin_o430 : ¬ ((3 : Int32) < 0 ∨ cl_o430.slots.size ≤ ((3 : Int32)).toNatClampNeg) := inb_of S_o430 ⟨by decide, by decide⟩
  obtain ⟨T431, h431, X431, e431, W431, st431⟩ := stI X421 hx hZ e421 Ar_o430 (j := (3 : Int32)) hin_o430 (g := (mkF m 112 #[vR gr, vR a, vR e8, .unset, .unset, .unset, .unset] [(.int (0 : Int32)), (.int (3 : Int32)), (.ref b392), (.ref b392), (.ref gr)])) rfl rfl (hb hby d16_112)
  have E_432 := E_422.wr W431
  have F_433 := F_423.other W431 (Or.inl ne_gr_b392)
  have F_434 := F_424.other W431 (Or.inl ne_gr_b392)
  have F_435 := F_425.other W431 (Or.inl ne_gr_b392)
  have F_436 := F_426.other W431 (Or.inl ne_gr_b392)
  have F_437 := F_427.other W431 (Or.inl ne_gr_b392)
  have V_438 := V_428.other W431 ne_b298_b392
  obtain ⟨Lw431, X431, N431⟩ := own_locG X431 (Fr.snoc X431 N421 g_b392)
  have Z431 : n0 ≤ h431.size := Nat.le_trans Z421 (Nat.le_of_eq W431.size.symm)
  have K431 : Keep h0 h431 [gr] := K421.wr W431 (Or.inr sz_b392)
  have V_b392_431 : Arv Z h431 b392 k392 .int (8 : Int32) [(.int (0 : Int32)), (.int (-1 : Int32)), (.int (1 : Int32)), (.int (0 : Int32)), (.int (0 : Int32)), (.int (0 : Int32)), (.int (0 : Int32)), (.int (0 : Int32))] (.int (0 : Int32)) := Arv.set Ar_o430 q_o430 S_o430 M_o430 H_o430 G_o430 rfl W431 3 rfl (Nat.le_of_ble_eq_true rfl)
  refine Gl.st (g' := (mkF m 113 #[vR gr, vR a, vR e8, .unset, .unset, .unset, .unset] [(.ref b392), (.ref gr)])) (fun τ κ => st431 _ κ) ?_
  refine Gl.st (g' := (mkF m 115 #[vR gr, vR a, vR e8, .unset, .unset, .unset, .unset] [(.int (4 : Int32)), (.ref b392), (.ref b392), (.ref gr)])) (fun τ κ => XS.dup X431.here hx rfl (hb hby d16_113) rfl rfl (XS.iconst X431.here hx rfl (hb hby d16_114) κ)) ?_
  refine Gl.st (g' := (mkF m 116 #[vR gr, vR a, vR e8, .unset, .unset, .unset, .unset] [(.int (-1 : Int32)), (.int (4 : Int32)), (.ref b392), (.ref b392), (.ref gr)])) (fun τ κ => XS.iconst X431.here hx rfl (hb hby d16_115) κ) ?_
  obtain ⟨cl_o440, Ar_o440, q_o440, S_o440, M_o440, H_o440, G_o440⟩ := id V_b392_431
  have hin_o440 : ¬ ((4 : Int32) < 0 ∨ cl_o440.slots.size ≤ ((4 : Int32)).toNatClampNeg) := inb_of S_o440 ⟨by decide, by decide⟩
  obtain ⟨T441, h441, X441, e441, W441, st441⟩ := stI X431 hx hZ e431 Ar_o440 (j := (4 : Int32)) hin_o440 (g := (mkF m 116 #[vR gr, vR a, vR e8, .unset, .unset, .unset, .unset] [(.int (-1 : Int32)), (.int (4 : Int32)), (.ref b392), (.ref b392), (.ref gr)])) rfl rfl (hb hby d16_116)
  have E_442 := E_432.wr W441
  have F_443 := F_433.other W441 (Or.inl ne_gr_b392)
  have F_444 := F_434.other W441 (Or.inl ne_gr_b392)
  have F_445 := F_435.other W441 (Or.inl ne_gr_b392)
  have F_446 := F_436.other W441 (Or.inl ne_gr_b392)
  have F_447 := F_437.other W441 (Or.inl ne_gr_b392)
  have V_448 := V_438.other W441 ne_b298_b392
  obtain ⟨Lw441, X441, N441⟩ := own_locG X441 (Fr.snoc X441 N431 g_b392)
  have Z441 : n0 ≤ h441.size := Nat.le_trans Z431 (Nat.le_of_eq W441.size.symm)
  have K441 : Keep h0 h441 [gr] := K431.wr W441 (Or.inr sz_b392)
  have V_b392_441 : Arv Z h441 b392 k392 .int (8 : Int32) [(.int (0 : Int32)), (.int (-1 : Int32)), (.int (1 : Int32)), (.int (0 : Int32)), (.int (-1 : Int32)), (.int (0 : Int32)), (.int (0 : Int32)), (.int (0 : Int32))] (.int (0 : Int32)) := Arv.set Ar_o440 q_o440 S_o440 M_o440 H_o440 G_o440 rfl W441 4 rfl (Nat.le_of_ble_eq_true rfl)
  refine Gl.st (g' := (mkF m 117 #[vR gr, vR a, vR e8, .unset, .unset, .unset, .unset] [(.ref b392), (.ref gr)])) (fun τ κ => st441 _ κ) ?_
  refine Gl.st (g' := (mkF m 119 #[vR gr, vR a, vR e8, .unset, .unset, .unset, .unset] [(.int (5 : Int32)), (.ref b392), (.ref b392), (.ref gr)])) (fun τ κ => XS.dup X441.here hx rfl (hb hby d16_117) rfl rfl (XS.iconst X441.here hx rfl (hb hby d16_118) κ)) ?_
  refine Gl.st (g' := (mkF m 120 #[vR gr, vR a, vR e8, .unset, .unset, .unset, .unset] [(.int (1 : Int32)), (.int (5 : Int32)), (.ref b392), (.ref b392), (.ref gr)])) (fun τ κ => XS.iconst X441.here hx rfl (hb hby d16_119) κ) ?_
  obtain ⟨cl_o450, Ar_o450, q_o450, S_o450, M_o450, H_o450, G_o450⟩ := id V_b392_441
  have hin_o450 : ¬ ((5 : Int32) < 0 ∨ cl_o450.slots.size ≤ ((5 : Int32)).toNatClampNeg) := inb_of S_o450 ⟨by decide, by decide⟩
  obtain ⟨T451, h451, X451, e451, W451, st451⟩ := stI X441 hx hZ e441 Ar_o450 (j := (5 : Int32)) hin_o450 (g := (mkF m 120 #[vR gr, vR a, vR e8, .unset, .unset, .unset, .unset] [(.int (1 : Int32)), (.int (5 : Int32)), (.ref b392), (.ref b392), (.ref gr)])) rfl rfl (hb hby d16_120)
  have E_452 := E_442.wr W451
  have F_453 := F_443.other W451 (Or.inl ne_gr_b392)
  have F_454 := F_444.other W451 (Or.inl ne_gr_b392)
  have F_455 := F_445.other W451 (Or.inl ne_gr_b392)
  have F_456 := F_446.other W451 (Or.inl ne_gr_b392)
  have F_457 := F_447.other W451 (Or.inl ne_gr_b392)
  have V_458 := V_448.other W451 ne_b298_b392
  obtain ⟨Lw451, X451, N451⟩ := own_locG X451 (Fr.snoc X451 N441 g_b392)
  have Z451 : n0 ≤ h451.size := Nat.le_trans Z441 (Nat.le_of_eq W451.size.symm)
  have K451 : Keep h0 h451 [gr] := K441.wr W451 (Or.inr sz_b392)
  have V_b392_451 : Arv Z h451 b392 k392 .int (8 : Int32) [(.int (0 : Int32)), (.int (-1 : Int32)), (.int (1 : Int32)), (.int (0 : Int32)), (.int (-1 : Int32)), (.int (1 : Int32)), (.int (0 : Int32)), (.int (0 : Int32))] (.int (0 : Int32)) := Arv.set Ar_o450 q_o450 S_o450 M_o450 H_o450 G_o450 rfl W451 5 rfl (Nat.le_of_ble_eq_true rfl)
  refine Gl.st (g' := (mkF m 121 #[vR gr, vR a, vR e8, .unset, .unset, .unset, .unset] [(.ref b392), (.ref gr)])) (fun τ κ => st451 _ κ) ?_
  refine Gl.st (g' := (mkF m 124 #[vR gr, vR a, vR e8, .unset, .unset, .unset, .unset] [(.int (6 : Int32)), (.ref b392), (.ref b392), (.ref gr)])) (fun τ κ => XS.dup X451.here hx rfl (hb hby d16_121) rfl rfl (XS.bipush X451.here hx rfl (hb hby d16_122) κ)) ?_
  refine Gl.st (g' := (mkF m 125 #[vR gr, vR a, vR e8, .unset, .unset, .unset, .unset] [(.int (-1 : Int32)), (.int (6 : Int32)), (.ref b392), (.ref b392), (.ref gr)])) (fun τ κ => XS.iconst X451.here hx rfl (hb hby d16_124) κ) ?_
  obtain ⟨cl_o460, Ar_o460, q_o460, S_o460, M_o460, H_o460, G_o460⟩ := id V_b392_451
  have hin_o460 : ¬ ((6 : Int32) < 0 ∨ cl_o460.slots.size ≤ ((6 : Int32)).toNatClampNeg) := inb_of S_o460 ⟨by decide, by decide⟩
  obtain ⟨T461, h461, X461, e461, W461, st461⟩ := stI X451 hx hZ e451 Ar_o460 (j := (6 : Int32)) hin_o460 (g := (mkF m 125 #[vR gr, vR a, vR e8, .unset, .unset, .unset, .unset] [(.int (-1 : Int32)), (.int (6 : Int32)), (.ref b392), (.ref b392), (.ref gr)])) rfl rfl (hb hby d16_125)
  have E_462 := E_452.wr W461
  have F_463 := F_453.other W461 (Or.inl ne_gr_b392)
  have F_464 := F_454.other W461 (Or.inl ne_gr_b392)
  have F_465 := F_455.other W461 (Or.inl ne_gr_b392)
  have F_466 := F_456.other W461 (Or.inl ne_gr_b392)
  have F_467 := F_457.other W461 (Or.inl ne_gr_b392)
  have V_468 := V_458.other W461 ne_b298_b392
  obtain ⟨Lw461, X461, N461⟩ := own_locG X461 (Fr.snoc X461 N451 g_b392)
  have Z461 : n0 ≤ h461.size := Nat.le_trans Z451 (Nat.le_of_eq W461.size.symm)
  have K461 : Keep h0 h461 [gr] := K451.wr W461 (Or.inr sz_b392)
  have V_b392_461 : Arv Z h461 b392 k392 .int (8 : Int32) [(.int (0 : Int32)), (.int (-1 : Int32)), (.int (1 : Int32)), (.int (0 : Int32)), (.int (-1 : Int32)), (.int (1 : Int32)), (.int (-1 : Int32)), (.int (0 : Int32))] (.int (0 : Int32)) := Arv.set Ar_o460 q_o460 S_o460 M_o460 H_o460 G_o460 rfl W461 6 rfl (Nat.le_of_ble_eq_true rfl)
  refine Gl.st (g' := (mkF m 126 #[vR gr, vR a, vR e8, .unset, .unset, .unset, .unset] [(.ref b392), (.ref gr)])) (fun τ κ => st461 _ κ) ?_
  refine Gl.st (g' := (mkF m 129 #[vR gr, vR a, vR e8, .unset, .unset, .unset, .unset] [(.int (7 : Int32)), (.ref b392), (.ref b392), (.ref gr)])) (fun τ κ => XS.dup X461.here hx rfl (hb hby d16_126) rfl rfl (XS.bipush X461.here hx rfl (hb hby d16_127) κ)) ?_
  refine Gl.st (g' := (mkF m 130 #[vR gr, vR a, vR e8, .unset, .unset, .unset, .unset] [(.int (1 : Int32)), (.int (7 : Int32)), (.ref b392), (.ref b392), (.ref gr)])) (fun τ κ => XS.iconst X461.here hx rfl (hb hby d16_129) κ) ?_
  obtain ⟨cl_o470, Ar_o470, q_o470, S_o470, M_o470, H_o470, G_o470⟩ := id V_b392_461
  have hin_o470 : ¬ ((7 : Int32) < 0 ∨ cl_o470.slots.size ≤ ((7 : Int32)).toNatClampNeg) := inb_of S_o470 ⟨by decide, by decide⟩
  obtain ⟨T471, h471, X471, e471, W471, st471⟩ := stI X461 hx hZ e461 Ar_o470 (j := (7 : Int32)) hin_o470 (g := (mkF m 130 #[vR gr, vR a, vR e8, .unset, .unset, .unset, .unset] [(.int (1 : Int32)), (.int (7 : Int32)), (.ref b392), (.ref b392), (.ref gr)])) rfl rfl (hb hby d16_130)
  have E_472 := E_462.wr W471
  have F_473 := F_463.other W471 (Or.inl ne_gr_b392)
  have F_474 := F_464.other W471 (Or.inl ne_gr_b392)
  have F_475 := F_465.other W471 (Or.inl ne_gr_b392)
  have F_476 := F_466.other W471 (Or.inl ne_gr_b392)
  have F_477 := F_467.other W471 (Or.inl ne_gr_b392)
  have V_478 := V_468.other W471 ne_b298_b392
  obtain ⟨Lw471, X471, N471⟩ := own_locG X471 (Fr.snoc X471 N461 g_b392)
  have Z471 : n0 ≤ h471.size := Nat.le_trans Z461 (Nat.le_of_eq W471.size.symm)
  have K471 : Keep h0 h471 [gr] := K461.wr W471 (Or.inr sz_b392)
  have V_b392_471 : Arv Z h471 b392 k392 .int (8 : Int32) [(.int (0 : Int32)), (.int (-1 : Int32)), (.int (1 : Int32)), (.int (0 : Int32)), (.int (-1 : Int32)), (.int (1 : Int32)), (.int (-1 : Int32)), (.int (1 : Int32))] (.int (0 : Int32)) := Arv.set Ar_o470 q_o470 S_o470 M_o470 H_o470 G_o470 rfl W471 7 rfl (Nat.le_of_ble_eq_true rfl)
  refine Gl.st (g' := (mkF m 131 #[vR gr, vR a, vR e8, .unset, .unset, .unset, .unset] [(.ref b392), (.ref gr)])) (fun τ κ => st471 _ κ) ?_
  obtain ⟨T480, h480, X480, e480, W480, st480⟩ := putF X471 hx hZ hown (host := "") (Or.inl (w104_ hw)) Via.refl e471 F_475 E_472 (Or.inr ⟨(w105_ hw), rfl, hnm⟩) (w83_ hw) (ty := (.array .int)) (by decide) rfl rfl (g := (mkF m 131 #[vR gr, vR a, vR e8, .unset, .unset, .unset, .unset] [(.ref b392), (.ref gr)])) rfl rfl (hb hby d16_131)
  have E_481 := E_472.wr W480
  have F_482 := F_473.other W480 (Or.inr (slot_ne (Or.inr (w98_ hw)) (Or.inr (w105_ hw)) (by decide) (t := .int) (t' := (.array .int)) (by decide) (by decide)))
  have F_483 := F_474.other W480 (Or.inr (slot_ne (Or.inr (w103_ hw)) (Or.inr (w105_ hw)) (by decide) (t := (.array .int)) (t' := (.array .int)) (by decide) (by decide)))
  have F_485 := F_476.other W480 (Or.inr (slot_ne (Or.inr (w107_ hw)) (Or.inr (w105_ hw)) (by decide) (t := (.array .int)) (t' := (.array .int)) (by decide) (by decide)))
  have F_486 := F_477.other W480 (Or.inr (slot_ne (Or.inr (w114_ hw)) (Or.inr (w105_ hw)) (by decide) (t := (.array .boolean)) (t' := (.array .int)) (by decide) (by decide)))
  have V_487 := V_478.other W480 (Ne.symm ne_gr_b298)
  have V_488 := V_b392_471.other W480 (Ne.symm ne_gr_b392)
  obtain ⟨Lw480, X480, N480⟩ := own_locG X480 (Fr.snoc X480 N471 gg)
  have Z480 : n0 ≤ h480.size := Nat.le_trans Z471 (Nat.le_of_eq W480.size.symm)
  have K480 : Keep h0 h480 [gr] := K471.wr W480 (Or.inl (List.mem_of_getElem? (i := 0) rfl))
  have F_489 := F_475.same W480
  refine Gl.st (g' := (mkF m 134 #[vR gr, vR a, vR e8, .unset, .unset, .unset, .unset] [])) (fun τ κ => st480 _ κ) ?_
  refine Gl.st (g' := (mkF m 137 #[vR gr, vR a, vR e8, .unset, .unset, .unset, .unset] [(.int (8 : Int32)), (.ref gr)])) (fun τ κ => XS.aloadN X480.here hx rfl (hb hby d16_134) rfl rfl (XS.bipush X480.here hx rfl (hb hby d16_135) κ)) ?_
  obtain ⟨T490, h490, k490, X490, e490, E490, A490, st490⟩ := newP X480 hx hZ (hw _ (List.mem_of_getElem? (i := 101) rfl)) e480 (g := (mkF m 137 #[vR gr, vR a, vR e8, .unset, .unset, .unset, .unset] [(.int (8 : Int32)), (.ref gr)])) rfl (hb hby d16_137) rfl (by decide) (cap := 8) (by decide) (by decide) (by decide) (by decide)
  obtain ⟨b490, g490⟩ : ∃ z, z = h480.size := ⟨_, rfl⟩
  rw [← g490] at A490 st490
  have ne_gr_b490 : gr ≠ b490 := Nat.ne_of_lt (Nat.lt_of_lt_of_le E_481.lt (Nat.le_of_eq g490.symm))
  have ne_b298_b490 : b298 ≠ b490 := Nat.ne_of_lt (Nat.lt_of_lt_of_le V_487.lt (Nat.le_of_eq g490.symm))
  have ne_b392_b490 : b392 ≠ b490 := Nat.ne_of_lt (Nat.lt_of_lt_of_le V_488.lt (Nat.le_of_eq g490.symm))
  have E_491 := E_481.ext E490
  have F_492 := F_482.ext E490
  have F_493 := F_483.ext E490
  have F_494 := F_489.ext E490
  have F_495 := F_485.ext E490
  have F_496 := F_486.ext E490
  have V_497 := V_487.ext E490
  have V_498 := V_488.ext E490
  have g_b490 : n0 ≤ b490 := Nat.le_trans Z480 (Nat.le_of_eq g490.symm)
  have sz_b490 : h0.size ≤ b490 := Nat.le_trans K480.1 (Nat.le_of_eq g490.symm)
  have Z490 : n0 ≤ h490.size := Nat.le_trans Z480 E490.1
  have K490 : Keep h0 h490 [gr] := K480.ext E490
  have V_b490 : Arv Z h490 b490 k490 .int (8 : Int32) [(.int (0 : Int32)), (.int (0 : Int32)), (.int (0 : Int32)), (.int (0 : Int32)), (.int (0 : Int32)), (.int (0 : Int32)), (.int (0 : Int32)), (.int (0 : Int32))] (.int (0 : Int32)) := (Arv.new A490 (by decide)).pad (pad_rep [] (.int (0 : Int32)) 8)
  have X490 := X490.more (cells' := 3) (slots' := 24) (by decide) (by decide)
  refine Gl.st (g' := (mkF m 139 #[vR gr, vR a, vR e8, .unset, .unset, .unset, .unset] [(.ref b490), (.ref gr)])) (fun τ κ => st490 _ κ) ?_
  refine Gl.st (g' := (mkF m 141 #[vR gr, vR a, vR e8, .unset, .unset, .unset, .unset] [(.int (0 : Int32)), (.ref b490), (.ref b490), (.ref gr)])) (fun τ κ => XS.dup X490.here hx rfl (hb hby d16_139) rfl rfl (XS.iconst X490.here hx rfl (hb hby d16_140) κ)) ?_
  refine Gl.st (g' := (mkF m 142 #[vR gr, vR a, vR e8, .unset, .unset, .unset, .unset] [(.int (-1 : Int32)), (.int (0 : Int32)), (.ref b490), (.ref b490), (.ref gr)])) (fun τ κ => XS.iconst X490.here hx rfl (hb hby d16_141) κ) ?_
  obtain ⟨cl_o499, Ar_o499, q_o499, S_o499, M_o499, H_o499, G_o499⟩ := id V_b490
  have hin_o499 : ¬ ((0 : Int32) < 0 ∨ cl_o499.slots.size ≤ ((0 : Int32)).toNatClampNeg) := inb_of S_o499 ⟨by decide, by decide⟩
  obtain ⟨T500, h500, X500, e500, W500, st500⟩ := stI X490 hx hZ e490 Ar_o499 (j := (0 : Int32)) hin_o499 (g := (mkF m 142 #[vR gr, vR a, vR e8, .unset, .unset, .unset, .unset] [(.int (-1 : Int32)), (.int (0 : Int32)), (.ref b490), (.ref b490), (.ref gr)])) rfl rfl (hb hby d16_142)
  have E_501 := E_491.wr W500
  have F_502 := F_492.other W500 (Or.inl ne_gr_b490)
  have F_503 := F_493.other W500 (Or.inl ne_gr_b490)
  have F_504 := F_494.other W500 (Or.inl ne_gr_b490)
  have F_505 := F_495.other W500 (Or.inl ne_gr_b490)
  have F_506 := F_496.other W500 (Or.inl ne_gr_b490)
  have V_507 := V_497.other W500 ne_b298_b490
  have V_508 := V_498.other W500 ne_b392_b490
  obtain ⟨Lw500, X500, N500⟩ := own_locG X500 (Fr.snoc X500 N480 g_b490)
  have Z500 : n0 ≤ h500.size := Nat.le_trans Z490 (Nat.le_of_eq W500.size.symm)
  have K500 : Keep h0 h500 [gr] := K490.wr W500 (Or.inr sz_b490)
  have V_b490_500 : Arv Z h500 b490 k490 .int (8 : Int32) [(.int (-1 : Int32)), (.int (0 : Int32)), (.int (0 : Int32)), (.int (0 : Int32)), (.int (0 : Int32)), (.int (0 : Int32)), (.int (0 : Int32)), (.int (0 : Int32))] (.int (0 : Int32)) := Arv.set Ar_o499 q_o499 S_o499 M_o499 H_o499 G_o499 rfl W500 0 rfl (Nat.le_of_ble_eq_true rfl)
  refine Gl.st (g' := (mkF m 143 #[vR gr, vR a, vR e8, .unset, .unset, .unset, .unset] [(.ref b490), (.ref gr)])) (fun τ κ => st500 _ κ) ?_
  refine Gl.st (g' := (mkF m 145 #[vR gr, vR a, vR e8, .unset, .unset, .unset, .unset] [(.int (1 : Int32)), (.ref b490), (.ref b490), (.ref gr)])) (fun τ κ => XS.dup X500.here hx rfl (hb hby d16_143) rfl rfl (XS.iconst X500.here hx rfl (hb hby d16_144) κ)) ?_
  refine Gl.st (g' := (mkF m 146 #[vR gr, vR a, vR e8, .unset, .unset, .unset, .unset] [(.int (0 : Int32)), (.int (1 : Int32)), (.ref b490), (.ref b490), (.ref gr)])) (fun τ κ => XS.iconst X500.here hx rfl (hb hby d16_145) κ) ?_
  obtain ⟨cl_o510, Ar_o510, q_o510, S_o510, M_o510, H_o510, G_o510⟩ := id V_b490_500
  have hin_o510 : ¬ ((1 : Int32) < 0 ∨ cl_o510.slots.size ≤ ((1 : Int32)).toNatClampNeg) := inb_of S_o510 ⟨by decide, by decide⟩
  obtain ⟨T511, h511, X511, e511, W511, st511⟩ := stI X500 hx hZ e500 Ar_o510 (j := (1 : Int32)) hin_o510 (g := (mkF m 146 #[vR gr, vR a, vR e8, .unset, .unset, .unset, .unset] [(.int (0 : Int32)), (.int (1 : Int32)), (.ref b490), (.ref b490), (.ref gr)])) rfl rfl (hb hby d16_146)
  have E_512 := E_501.wr W511
  have F_513 := F_502.other W511 (Or.inl ne_gr_b490)
  have F_514 := F_503.other W511 (Or.inl ne_gr_b490)
  have F_515 := F_504.other W511 (Or.inl ne_gr_b490)
  have F_516 := F_505.other W511 (Or.inl ne_gr_b490)
  have F_517 := F_506.other W511 (Or.inl ne_gr_b490)
  have V_518 := V_507.other W511 ne_b298_b490
  have V_519 := V_508.other W511 ne_b392_b490
  obtain ⟨Lw511, X511, N511⟩ := own_locG X511 (Fr.snoc X511 N500 g_b490)
  have Z511 : n0 ≤ h511.size := Nat.le_trans Z500 (Nat.le_of_eq W511.size.symm)
  have K511 : Keep h0 h511 [gr] := K500.wr W511 (Or.inr sz_b490)
  have V_b490_511 : Arv Z h511 b490 k490 .int (8 : Int32) [(.int (-1 : Int32)), (.int (0 : Int32)), (.int (0 : Int32)), (.int (0 : Int32)), (.int (0 : Int32)), (.int (0 : Int32)), (.int (0 : Int32)), (.int (0 : Int32))] (.int (0 : Int32)) := Arv.set Ar_o510 q_o510 S_o510 M_o510 H_o510 G_o510 rfl W511 1 rfl (Nat.le_of_ble_eq_true rfl)
  refine Gl.st (g' := (mkF m 147 #[vR gr, vR a, vR e8, .unset, .unset, .unset, .unset] [(.ref b490), (.ref gr)])) (fun τ κ => st511 _ κ) ?_
  refine Gl.st (g' := (mkF m 149 #[vR gr, vR a, vR e8, .unset, .unset, .unset, .unset] [(.int (2 : Int32)), (.ref b490), (.ref b490), (.ref gr)])) (fun τ κ => XS.dup X511.here hx rfl (hb hby d16_147) rfl rfl (XS.iconst X511.here hx rfl (hb hby d16_148) κ)) ?_
  refine Gl.st (g' := (mkF m 150 #[vR gr, vR a, vR e8, .unset, .unset, .unset, .unset] [(.int (0 : Int32)), (.int (2 : Int32)), (.ref b490), (.ref b490), (.ref gr)])) (fun τ κ => XS.iconst X511.here hx rfl (hb hby d16_149) κ) ?_
  obtain ⟨cl_o521, Ar_o521, q_o521, S_o521, M_o521, H_o521, G_o521⟩ := id V_b490_511
  have hin_o521 : ¬ ((2 : Int32) < 0 ∨ cl_o521.slots.size ≤ ((2 : Int32)).toNatClampNeg) := inb_of S_o521 ⟨by decide, by decide⟩
  obtain ⟨T522, h522, X522, e522, W522, st522⟩ := stI X511 hx hZ e511 Ar_o521 (j := (2 : Int32)) hin_o521 (g := (mkF m 150 #[vR gr, vR a, vR e8, .unset, .unset, .unset, .unset] [(.int (0 : Int32)), (.int (2 : Int32)), (.ref b490), (.ref b490), (.ref gr)])) rfl rfl (hb hby d16_150)
  have E_523 := E_512.wr W522
  have F_524 := F_513.other W522 (Or.inl ne_gr_b490)
  have F_525 := F_514.other W522 (Or.inl ne_gr_b490)
  have F_526 := F_515.other W522 (Or.inl ne_gr_b490)
  have F_527 := F_516.other W522 (Or.inl ne_gr_b490)
  have F_528 := F_517.other W522 (Or.inl ne_gr_b490)
  have V_529 := V_518.other W522 ne_b298_b490
  have V_530 := V_519.other W522 ne_b392_b490
  obtain ⟨Lw522, X522, N522⟩ := own_locG X522 (Fr.snoc X522 N511 g_b490)
  have Z522 : n0 ≤ h522.size := Nat.le_trans Z511 (Nat.le_of_eq W522.size.symm)
  have K522 : Keep h0 h522 [gr] := K511.wr W522 (Or.inr sz_b490)
  have V_b490_522 : Arv Z h522 b490 k490 .int (8 : Int32) [(.int (-1 : Int32)), (.int (0 : Int32)), (.int (0 : Int32)), (.int (0 : Int32)), (.int (0 : Int32)), (.int (0 : Int32)), (.int (0 : Int32)), (.int (0 : Int32))] (.int (0 : Int32)) := Arv.set Ar_o521 q_o521 S_o521 M_o521 H_o521 G_o521 rfl W522 2 rfl (Nat.le_of_ble_eq_true rfl)
  refine Gl.st (g' := (mkF m 151 #[vR gr, vR a, vR e8, .unset, .unset, .unset, .unset] [(.ref b490), (.ref gr)])) (fun τ κ => st522 _ κ) ?_
  refine Gl.st (g' := (mkF m 153 #[vR gr, vR a, vR e8, .unset, .unset, .unset, .unset] [(.int (3 : Int32)), (.ref b490), (.ref b490), (.ref gr)])) (fun τ κ => XS.dup X522.here hx rfl (hb hby d16_151) rfl rfl (XS.iconst X522.here hx rfl (hb hby d16_152) κ)) ?_
  refine Gl.st (g' := (mkF m 154 #[vR gr, vR a, vR e8, .unset, .unset, .unset, .unset] [(.int (1 : Int32)), (.int (3 : Int32)), (.ref b490), (.ref b490), (.ref gr)])) (fun τ κ => XS.iconst X522.here hx rfl (hb hby d16_153) κ) ?_
  obtain ⟨cl_o532, Ar_o532, q_o532, S_o532, M_o532, H_o532, G_o532⟩ := id V_b490_522
  have hin_o532 : ¬ ((3 : Int32) < 0 ∨ cl_o532.slots.size ≤ ((3 : Int32)).toNatClampNeg) := inb_of S_o532 ⟨by decide, by decide⟩
  obtain ⟨T533, h533, X533, e533, W533, st533⟩ := stI X522 hx hZ e522 Ar_o532 (j := (3 : Int32)) hin_o532 (g := (mkF m 154 #[vR gr, vR a, vR e8, .unset, .unset, .unset, .unset] [(.int (1 : Int32)), (.int (3 : Int32)), (.ref b490), (.ref b490), (.ref gr)])) rfl rfl (hb hby d16_154)
  have E_534 := E_523.wr W533
  have F_535 := F_524.other W533 (Or.inl ne_gr_b490)
  have F_536 := F_525.other W533 (Or.inl ne_gr_b490)
  have F_537 := F_526.other W533 (Or.inl ne_gr_b490)
  have F_538 := F_527.other W533 (Or.inl ne_gr_b490)
  have F_539 := F_528.other W533 (Or.inl ne_gr_b490)
  have V_540 := V_529.other W533 ne_b298_b490
  have V_541 := V_530.other W533 ne_b392_b490
  obtain ⟨Lw533, X533, N533⟩ := own_locG X533 (Fr.snoc X533 N522 g_b490)
  have Z533 : n0 ≤ h533.size := Nat.le_trans Z522 (Nat.le_of_eq W533.size.symm)
  have K533 : Keep h0 h533 [gr] := K522.wr W533 (Or.inr sz_b490)
  have V_b490_533 : Arv Z h533 b490 k490 .int (8 : Int32) [(.int (-1 : Int32)), (.int (0 : Int32)), (.int (0 : Int32)), (.int (1 : Int32)), (.int (0 : Int32)), (.int (0 : Int32)), (.int (0 : Int32)), (.int (0 : Int32))] (.int (0 : Int32)) := Arv.set Ar_o532 q_o532 S_o532 M_o532 H_o532 G_o532 rfl W533 3 rfl (Nat.le_of_ble_eq_true rfl)
  refine Gl.st (g' := (mkF m 155 #[vR gr, vR a, vR e8, .unset, .unset, .unset, .unset] [(.ref b490), (.ref gr)])) (fun τ κ => st533 _ κ) ?_
  refine Gl.st (g' := (mkF m 157 #[vR gr, vR a, vR e8, .unset, .unset, .unset, .unset] [(.int (4 : Int32)), (.ref b490), (.ref b490), (.ref gr)])) (fun τ κ => XS.dup X533.here hx rfl (hb hby d16_155) rfl rfl (XS.iconst X533.here hx rfl (hb hby d16_156) κ)) ?_
  refine Gl.st (g' := (mkF m 158 #[vR gr, vR a, vR e8, .unset, .unset, .unset, .unset] [(.int (-1 : Int32)), (.int (4 : Int32)), (.ref b490), (.ref b490), (.ref gr)])) (fun τ κ => XS.iconst X533.here hx rfl (hb hby d16_157) κ) ?_
  obtain ⟨cl_o543, Ar_o543, q_o543, S_o543, M_o543, H_o543, G_o543⟩ := id V_b490_533
  have hin_o543 : ¬ ((4 : Int32) < 0 ∨ cl_o543.slots.size ≤ ((4 : Int32)).toNatClampNeg) := inb_of S_o543 ⟨by decide, by decide⟩
  obtain ⟨T544, h544, X544, e544, W544, st544⟩ := stI X533 hx hZ e533 Ar_o543 (j := (4 : Int32)) hin_o543 (g := (mkF m 158 #[vR gr, vR a, vR e8, .unset, .unset, .unset, .unset] [(.int (-1 : Int32)), (.int (4 : Int32)), (.ref b490), (.ref b490), (.ref gr)])) rfl rfl (hb hby d16_158)
  have E_545 := E_534.wr W544
  have F_546 := F_535.other W544 (Or.inl ne_gr_b490)
  have F_547 := F_536.other W544 (Or.inl ne_gr_b490)
  have F_548 := F_537.other W544 (Or.inl ne_gr_b490)
  have F_549 := F_538.other W544 (Or.inl ne_gr_b490)
  have F_550 := F_539.other W544 (Or.inl ne_gr_b490)
  have V_551 := V_540.other W544 ne_b298_b490
  have V_552 := V_541.other W544 ne_b392_b490
  obtain ⟨Lw544, X544, N544⟩ := own_locG X544 (Fr.snoc X544 N533 g_b490)
  have Z544 : n0 ≤ h544.size := Nat.le_trans Z533 (Nat.le_of_eq W544.size.symm)
  have K544 : Keep h0 h544 [gr] := K533.wr W544 (Or.inr sz_b490)
  have V_b490_544 : Arv Z h544 b490 k490 .int (8 : Int32) [(.int (-1 : Int32)), (.int (0 : Int32)), (.int (0 : Int32)), (.int (1 : Int32)), (.int (-1 : Int32)), (.int (0 : Int32)), (.int (0 : Int32)), (.int (0 : Int32))] (.int (0 : Int32)) := Arv.set Ar_o543 q_o543 S_o543 M_o543 H_o543 G_o543 rfl W544 4 rfl (Nat.le_of_ble_eq_true rfl)
  refine Gl.st (g' := (mkF m 159 #[vR gr, vR a, vR e8, .unset, .unset, .unset, .unset] [(.ref b490), (.ref gr)])) (fun τ κ => st544 _ κ) ?_
  refine Gl.st (g' := (mkF m 161 #[vR gr, vR a, vR e8, .unset, .unset, .unset, .unset] [(.int (5 : Int32)), (.ref b490), (.ref b490), (.ref gr)])) (fun τ κ => XS.dup X544.here hx rfl (hb hby d16_159) rfl rfl (XS.iconst X544.here hx rfl (hb hby d16_160) κ)) ?_
  refine Gl.st (g' := (mkF m 162 #[vR gr, vR a, vR e8, .unset, .unset, .unset, .unset] [(.int (-1 : Int32)), (.int (5 : Int32)), (.ref b490), (.ref b490), (.ref gr)])) (fun τ κ => XS.iconst X544.here hx rfl (hb hby d16_161) κ) ?_
  obtain ⟨cl_o554, Ar_o554, q_o554, S_o554, M_o554, H_o554, G_o554⟩ := id V_b490_544
  have hin_o554 : ¬ ((5 : Int32) < 0 ∨ cl_o554.slots.size ≤ ((5 : Int32)).toNatClampNeg) := inb_of S_o554 ⟨by decide, by decide⟩
  obtain ⟨T555, h555, X555, e555, W555, st555⟩ := stI X544 hx hZ e544 Ar_o554 (j := (5 : Int32)) hin_o554 (g := (mkF m 162 #[vR gr, vR a, vR e8, .unset, .unset, .unset, .unset] [(.int (-1 : Int32)), (.int (5 : Int32)), (.ref b490), (.ref b490), (.ref gr)])) rfl rfl (hb hby d16_162)
  have E_556 := E_545.wr W555
  have F_557 := F_546.other W555 (Or.inl ne_gr_b490)
  have F_558 := F_547.other W555 (Or.inl ne_gr_b490)
  have F_559 := F_548.other W555 (Or.inl ne_gr_b490)
  have F_560 := F_549.other W555 (Or.inl ne_gr_b490)
  have F_561 := F_550.other W555 (Or.inl ne_gr_b490)
  have V_562 := V_551.other W555 ne_b298_b490
  have V_563 := V_552.other W555 ne_b392_b490
  obtain ⟨Lw555, X555, N555⟩ := own_locG X555 (Fr.snoc X555 N544 g_b490)
  have Z555 : n0 ≤ h555.size := Nat.le_trans Z544 (Nat.le_of_eq W555.size.symm)
  have K555 : Keep h0 h555 [gr] := K544.wr W555 (Or.inr sz_b490)
  have V_b490_555 : Arv Z h555 b490 k490 .int (8 : Int32) [(.int (-1 : Int32)), (.int (0 : Int32)), (.int (0 : Int32)), (.int (1 : Int32)), (.int (-1 : Int32)), (.int (-1 : Int32)), (.int (0 : Int32)), (.int (0 : Int32))] (.int (0 : Int32)) := Arv.set Ar_o554 q_o554 S_o554 M_o554 H_o554 G_o554 rfl W555 5 rfl (Nat.le_of_ble_eq_true rfl)
  refine Gl.st (g' := (mkF m 163 #[vR gr, vR a, vR e8, .unset, .unset, .unset, .unset] [(.ref b490), (.ref gr)])) (fun τ κ => st555 _ κ) ?_
  refine Gl.st (g' := (mkF m 166 #[vR gr, vR a, vR e8, .unset, .unset, .unset, .unset] [(.int (6 : Int32)), (.ref b490), (.ref b490), (.ref gr)])) (fun τ κ => XS.dup X555.here hx rfl (hb hby d16_163) rfl rfl (XS.bipush X555.here hx rfl (hb hby d16_164) κ)) ?_
  refine Gl.st (g' := (mkF m 167 #[vR gr, vR a, vR e8, .unset, .unset, .unset, .unset] [(.int (1 : Int32)), (.int (6 : Int32)), (.ref b490), (.ref b490), (.ref gr)])) (fun τ κ => XS.iconst X555.here hx rfl (hb hby d16_166) κ) ?_
  obtain ⟨cl_o565, Ar_o565, q_o565, S_o565, M_o565, H_o565, G_o565⟩ := id V_b490_555
  have hin_o565 : ¬ ((6 : Int32) < 0 ∨ cl_o565.slots.size ≤ ((6 : Int32)).toNatClampNeg) := inb_of S_o565 ⟨by decide, by decide⟩
  obtain ⟨T566, h566, X566, e566, W566, st566⟩ := stI X555 hx hZ e555 Ar_o565 (j := (6 : Int32)) hin_o565 (g := (mkF m 167 #[vR gr, vR a, vR e8, .unset, .unset, .unset, .unset] [(.int (1 : Int32)), (.int (6 : Int32)), (.ref b490), (.ref b490), (.ref gr)])) rfl rfl (hb hby d16_167)
  have E_567 := E_556.wr W566
  have F_568 := F_557.other W566 (Or.inl ne_gr_b490)
  have F_569 := F_558.other W566 (Or.inl ne_gr_b490)
  have F_570 := F_559.other W566 (Or.inl ne_gr_b490)
  have F_571 := F_560.other W566 (Or.inl ne_gr_b490)
  have F_572 := F_561.other W566 (Or.inl ne_gr_b490)
  have V_573 := V_562.other W566 ne_b298_b490
  have V_574 := V_563.other W566 ne_b392_b490
  obtain ⟨Lw566, X566, N566⟩ := own_locG X566 (Fr.snoc X566 N555 g_b490)
  have Z566 : n0 ≤ h566.size := Nat.le_trans Z555 (Nat.le_of_eq W566.size.symm)
  have K566 : Keep h0 h566 [gr] := K555.wr W566 (Or.inr sz_b490)
  have V_b490_566 : Arv Z h566 b490 k490 .int (8 : Int32) [(.int (-1 : Int32)), (.int (0 : Int32)), (.int (0 : Int32)), (.int (1 : Int32)), (.int (-1 : Int32)), (.int (-1 : Int32)), (.int (1 : Int32)), (.int (0 : Int32))] (.int (0 : Int32)) := Arv.set Ar_o565 q_o565 S_o565 M_o565 H_o565 G_o565 rfl W566 6 rfl (Nat.le_of_ble_eq_true rfl)
  refine Gl.st (g' := (mkF m 168 #[vR gr, vR a, vR e8, .unset, .unset, .unset, .unset] [(.ref b490), (.ref gr)])) (fun τ κ => st566 _ κ) ?_
  refine Gl.st (g' := (mkF m 171 #[vR gr, vR a, vR e8, .unset, .unset, .unset, .unset] [(.int (7 : Int32)), (.ref b490), (.ref b490), (.ref gr)])) (fun τ κ => XS.dup X566.here hx rfl (hb hby d16_168) rfl rfl (XS.bipush X566.here hx rfl (hb hby d16_169) κ)) ?_
  refine Gl.st (g' := (mkF m 172 #[vR gr, vR a, vR e8, .unset, .unset, .unset, .unset] [(.int (1 : Int32)), (.int (7 : Int32)), (.ref b490), (.ref b490), (.ref gr)])) (fun τ κ => XS.iconst X566.here hx rfl (hb hby d16_171) κ) ?_
  obtain ⟨cl_o576, Ar_o576, q_o576, S_o576, M_o576, H_o576, G_o576⟩ := id V_b490_566
  have hin_o576 : ¬ ((7 : Int32) < 0 ∨ cl_o576.slots.size ≤ ((7 : Int32)).toNatClampNeg) := inb_of S_o576 ⟨by decide, by decide⟩
  obtain ⟨T577, h577, X577, e577, W577, st577⟩ := stI X566 hx hZ e566 Ar_o576 (j := (7 : Int32)) hin_o576 (g := (mkF m 172 #[vR gr, vR a, vR e8, .unset, .unset, .unset, .unset] [(.int (1 : Int32)), (.int (7 : Int32)), (.ref b490), (.ref b490), (.ref gr)])) rfl rfl (hb hby d16_172)
  have E_578 := E_567.wr W577
  have F_579 := F_568.other W577 (Or.inl ne_gr_b490)
  have F_580 := F_569.other W577 (Or.inl ne_gr_b490)
  have F_581 := F_570.other W577 (Or.inl ne_gr_b490)
  have F_582 := F_571.other W577 (Or.inl ne_gr_b490)
  have F_583 := F_572.other W577 (Or.inl ne_gr_b490)
  have V_584 := V_573.other W577 ne_b298_b490
  have V_585 := V_574.other W577 ne_b392_b490
  obtain ⟨Lw577, X577, N577⟩ := own_locG X577 (Fr.snoc X577 N566 g_b490)
  have Z577 : n0 ≤ h577.size := Nat.le_trans Z566 (Nat.le_of_eq W577.size.symm)
  have K577 : Keep h0 h577 [gr] := K566.wr W577 (Or.inr sz_b490)
  have V_b490_577 : Arv Z h577 b490 k490 .int (8 : Int32) [(.int (-1 : Int32)), (.int (0 : Int32)), (.int (0 : Int32)), (.int (1 : Int32)), (.int (-1 : Int32)), (.int (-1 : Int32)), (.int (1 : Int32)), (.int (1 : Int32))] (.int (0 : Int32)) := Arv.set Ar_o576 q_o576 S_o576 M_o576 H_o576 G_o576 rfl W577 7 rfl (Nat.le_of_ble_eq_true rfl)
  refine Gl.st (g' := (mkF m 173 #[vR gr, vR a, vR e8, .unset, .unset, .unset, .unset] [(.ref b490), (.ref gr)])) (fun τ κ => st577 _ κ) ?_
  obtain ⟨T587, h587, X587, e587, W587, st587⟩ := putF X577 hx hZ hown (host := "") (Or.inl (w106_ hw)) Via.refl e577 F_582 E_578 (Or.inr ⟨(w107_ hw), rfl, hnm⟩) (w83_ hw) (ty := (.array .int)) (by decide) rfl rfl (g := (mkF m 173 #[vR gr, vR a, vR e8, .unset, .unset, .unset, .unset] [(.ref b490), (.ref gr)])) rfl rfl (hb hby d16_173)
  have E_588 := E_578.wr W587
  have F_589 := F_579.other W587 (Or.inr (slot_ne (Or.inr (w98_ hw)) (Or.inr (w107_ hw)) (by decide) (t := .int) (t' := (.array .int)) (by decide) (by decide)))
  have F_590 := F_580.other W587 (Or.inr (slot_ne (Or.inr (w103_ hw)) (Or.inr (w107_ hw)) (by decide) (t := (.array .int)) (t' := (.array .int)) (by decide) (by decide)))
  have F_591 := F_581.other W587 (Or.inr (slot_ne (Or.inr (w105_ hw)) (Or.inr (w107_ hw)) (by decide) (t := (.array .int)) (t' := (.array .int)) (by decide) (by decide)))
  have F_593 := F_583.other W587 (Or.inr (slot_ne (Or.inr (w114_ hw)) (Or.inr (w107_ hw)) (by decide) (t := (.array .boolean)) (t' := (.array .int)) (by decide) (by decide)))
  have V_594 := V_584.other W587 (Ne.symm ne_gr_b298)
  have V_595 := V_585.other W587 (Ne.symm ne_gr_b392)
  have V_596 := V_b490_577.other W587 (Ne.symm ne_gr_b490)
  obtain ⟨Lw587, X587, N587⟩ := own_locG X587 (Fr.snoc X587 N577 gg)
  have Z587 : n0 ≤ h587.size := Nat.le_trans Z577 (Nat.le_of_eq W587.size.symm)
  have K587 : Keep h0 h587 [gr] := K577.wr W587 (Or.inl (List.mem_of_getElem? (i := 0) rfl))
  have F_597 := F_582.same W587
  refine Gl.st (g' := (mkF m 176 #[vR gr, vR a, vR e8, .unset, .unset, .unset, .unset] [])) (fun τ κ => st587 _ κ) ?_
  refine Gl.st (g' := (mkF m 255 #[vR gr, vR a, vR e8, .unset, .unset, .unset, .unset] [])) (fun τ κ => XS.goto X587.here hx rfl (pc0 := 176) (pc' := 255) rfl (hb hby d16_176) (by decide) (by decide) κ) ?_
  have Ks598 := K587
  have V_u599 := VB.keep Ks598 (ninS (Ne.symm n_lb) nin0)
  have E_u600 := EL.keep Ks598
  have F_u601 := FC.keep Ks598 (ninS (Ne.symm n_la) nin0)
  have F_u602 := FV.keep Ks598 (ninS (Ne.symm n_la) nin0)
  have S_u603 := Sta.keepX S0 Ks598 (allS (P := fun x => ∃ c : Cell, h0[x]? = some c ∧ ∀ q, c.vm ≠ .statics q) Eg.cell all0)
  have E_u604 := Em.keep Ks598
  have F_u605 := F0.keep Ks598 (ninS (Ne.symm n_a) nin0)
  have F_u606 := F1.keep Ks598 (ninS (Ne.symm n_a) nin0)
  have F_u607 := F2.keep Ks598 (ninS (Ne.symm n_a) nin0)
  have V_u608 := Vt.keep Ks598 (ninS (Ne.symm n_tb) nin0)
  refine Gl.st (g' := (mkF m 256 #[vR gr, vR a, vR e8, .unset, .unset, .unset, .unset] [(.ref gr)])) (fun τ κ => XS.aloadN X587.here hx rfl (hb hby d16_255) rfl rfl κ) ?_
  obtain ⟨T609, X609, e609, st609⟩ := getF X587 hx hZ hown (host := "") (Or.inl (w97_ hw)) Via.refl e587 F_589 (g := (mkF m 256 #[vR gr, vR a, vR e8, .unset, .unset, .unset, .unset] [(.ref gr)])) rfl rfl (hb hby d16_256)
  refine Gl.st (g' := (mkF m 259 #[vR gr, vR a, vR e8, .unset, .unset, .unset, .unset] [(.int (5 : Int32))])) (fun τ κ => st609 _ κ) ?_
  refine Gl.st (g' := (mkF m 260 #[vR gr, vR a, vR e8, .unset, .unset, .unset, .unset] [(.ref a), (.int (5 : Int32))])) (fun τ κ => XS.aloadN X609.here hx rfl (hb hby d16_259) rfl rfl κ) ?_
  obtain ⟨cq610, kq610, q610a, q610b, q610c⟩ := isOf hZ e609 E_u604
  obtain ⟨rv610, _, ⟨T610, L610, k610, n610⟩, -, X610, ⟨Lc610, hQ610, l610, y610, z610⟩, st610⟩ := X609.virtualBack hx (y := (⟨"com/example/wanderpath/wanderpath/TileMap", "height", "()I"⟩ : MethodName)) (z := (⟨"com/example/wanderpath/wanderpath/TileMap", "height", "()I"⟩ : MethodName)) hown (mvT hZ (w108_ hw)) (mvT hZ (w109_ hw)) (notFace_of_selects (args := #[]) (mvT hZ (w111_ hw))) (mvT hZ (w111_ hw)) (mvT hZ (w110_ hw)) (by decide) (backOf (W := 1) (rm18 l Z a0 hw [] a h587 n0 Z587 E_u604 F_u605 F_u606) hZ (w112_ hw) (w12_ hw) (by decide) (by decide)) q610a q610c (g := (mkF m 260 #[vR gr, vR a, vR e8, .unset, .unset, .unset, .unset] [(.ref a), (.int (5 : Int32))])) rfl (by rw [hml]; rfl) (Steps.refl _) (argsL := []) (rest := [(.int (5 : Int32))]) (lenOf pd_5 rfl) rfl (by show 2 * 0 + _ ≤ _; exact Nat.le_of_eq rfl) (hb hby d16_260) (fun _ _ => ⟨rfl, e609, Nat.le_of_ble_eq_true rfl, Nat.le_of_ble_eq_true rfl⟩)
  dsimp only [Pt.U, Pt.locs, Pt.cells, Pt.slots] at X610 l610 y610 z610 st610 hQ610
  subst l610 y610 z610
  have X610 := X610.more (cells' := 3) (slots' := 24) (by decide) (by decide)
  obtain ⟨hq610, N610q, e610⟩ := hQ610
  have hq610 : rv610 = some (.int (3 : Int32)) := hq610
  subst hq610
  have N610 := Fr.app N587 N610q
  obtain ⟨Lw610, X610, N610⟩ := own_locG X610 N610
  refine Gl.st (g' := (mkF m 263 #[vR gr, vR a, vR e8, .unset, .unset, .unset, .unset] [(.int (3 : Int32)), (.int (5 : Int32))])) (fun τ κ => st610.trans κ) ?_
  refine Gl.st (g' := (mkF m 265 #[vR gr, vR a, vR e8, .unset, .unset, .unset, .unset] [(.int (5 : Int32)), (.int (5 : Int32))])) (fun τ κ => XS.iconst X610.here hx rfl (hb hby d16_263) (XS.iadd X610.here hx rfl (hb hby d16_264) rfl κ)) ?_
  refine Gl.st (g' := (mkF m 267 #[vR gr, vR a, vR e8, vI (25 : Int32), .unset, .unset, .unset] [])) (fun τ κ => XS.imul X610.here hx rfl (hb hby d16_265) rfl (XS.istoreN X610.here hx rfl (hb hby d16_266) rfl (l' := #[vR gr, vR a, vR e8, vI (25 : Int32), .unset, .unset, .unset]) rfl κ)) ?_
  refine Gl.st (g' := (mkF m 269 #[vR gr, vR a, vR e8, vI (25 : Int32), .unset, .unset, .unset] [(.int (25 : Int32)), (.ref gr)])) (fun τ κ => XS.aloadN X610.here hx rfl (hb hby d16_267) rfl rfl (XS.iloadN X610.here hx rfl (hb hby d16_268) rfl κ)) ?_
  obtain ⟨T611, h611, k611, X611, e611, E611, A611, st611⟩ := newP X610 hx hZ (hw _ (List.mem_of_getElem? (i := 8) rfl)) e610 (g := (mkF m 269 #[vR gr, vR a, vR e8, vI (25 : Int32), .unset, .unset, .unset] [(.int (25 : Int32)), (.ref gr)])) rfl (hb hby d16_269) rfl (by decide) (cap := 25) (by decide) (by decide) (by decide) (by decide)
  obtain ⟨b611, g611⟩ : ∃ z, z = h587.size := ⟨_, rfl⟩
  rw [← g611] at A611 st611
  have ne_gr_b611 : gr ≠ b611 := Nat.ne_of_lt (Nat.lt_of_lt_of_le E_588.lt (Nat.le_of_eq g611.symm))
  have ne_b298_b611 : b298 ≠ b611 := Nat.ne_of_lt (Nat.lt_of_lt_of_le V_594.lt (Nat.le_of_eq g611.symm))
  have ne_b392_b611 : b392 ≠ b611 := Nat.ne_of_lt (Nat.lt_of_lt_of_le V_595.lt (Nat.le_of_eq g611.symm))
  have ne_b490_b611 : b490 ≠ b611 := Nat.ne_of_lt (Nat.lt_of_lt_of_le V_596.lt (Nat.le_of_eq g611.symm))
  have ne_lb_b611 : lb ≠ b611 := Nat.ne_of_lt (Nat.lt_of_lt_of_le V_u599.lt (Nat.le_of_eq g611.symm))
  have ne_la_b611 : la ≠ b611 := Nat.ne_of_lt (Nat.lt_of_lt_of_le E_u600.lt (Nat.le_of_eq g611.symm))
  have ne_a_b611 : a ≠ b611 := Nat.ne_of_lt (Nat.lt_of_lt_of_le E_u604.lt (Nat.le_of_eq g611.symm))
  have ne_tb_b611 : tb ≠ b611 := Nat.ne_of_lt (Nat.lt_of_lt_of_le V_u608.lt (Nat.le_of_eq g611.symm))
  have E_612 := E_588.ext E611
  have F_613 := F_589.ext E611
  have F_614 := F_590.ext E611
  have F_615 := F_591.ext E611
  have F_616 := F_597.ext E611
  have F_617 := F_593.ext E611
  have V_618 := V_594.ext E611
  have V_619 := V_595.ext E611
  have V_620 := V_596.ext E611
  have V_621 := V_u599.ext E611
  have E_622 := E_u600.ext E611
  have F_623 := F_u601.ext E611
  have F_624 := F_u602.ext E611
  have S_625 := S_u603.ext E611
  have E_626 := E_u604.ext E611
  have F_627 := F_u605.ext E611
  have F_628 := F_u606.ext E611
  have F_629 := F_u607.ext E611
  have V_630 := V_u608.ext E611
  have g_b611 : n0 ≤ b611 := Nat.le_trans Z587 (Nat.le_of_eq g611.symm)
  have sz_b611 : h0.size ≤ b611 := Nat.le_trans K587.1 (Nat.le_of_eq g611.symm)
  have Z611 : n0 ≤ h611.size := Nat.le_trans Z587 E611.1
  have K611 : Keep h0 h611 [gr] := K587.ext E611
  have V_b611 : Arv Z h611 b611 k611 .boolean (25 : Int32) [] (.int (0 : Int32)) := Arv.new A611 (by decide)
  have X611 := X611.more (cells' := 4) (slots' := 49) (by decide) (by decide)
  refine Gl.st (g' := (mkF m 271 #[vR gr, vR a, vR e8, vI (25 : Int32), .unset, .unset, .unset] [(.ref b611), (.ref gr)])) (fun τ κ => st611 _ κ) ?_
  obtain ⟨T631, h631, X631, e631, W631, st631⟩ := putF X611 hx hZ hown (host := "") (Or.inl (w113_ hw)) Via.refl e611 F_617 E_612 (Or.inr ⟨(w114_ hw), rfl, hnm⟩) (w83_ hw) (ty := (.array .boolean)) (by decide) rfl rfl (g := (mkF m 271 #[vR gr, vR a, vR e8, vI (25 : Int32), .unset, .unset, .unset] [(.ref b611), (.ref gr)])) rfl rfl (hb hby d16_271)
  have E_632 := E_612.wr W631
  have F_633 := F_613.other W631 (Or.inr (slot_ne (Or.inr (w98_ hw)) (Or.inr (w114_ hw)) (by decide) (t := .int) (t' := (.array .boolean)) (by decide) (by decide)))
  have F_634 := F_614.other W631 (Or.inr (slot_ne (Or.inr (w103_ hw)) (Or.inr (w114_ hw)) (by decide) (t := (.array .int)) (t' := (.array .boolean)) (by decide) (by decide)))
  have F_635 := F_615.other W631 (Or.inr (slot_ne (Or.inr (w105_ hw)) (Or.inr (w114_ hw)) (by decide) (t := (.array .int)) (t' := (.array .boolean)) (by decide) (by decide)))
  have F_636 := F_616.other W631 (Or.inr (slot_ne (Or.inr (w107_ hw)) (Or.inr (w114_ hw)) (by decide) (t := (.array .int)) (t' := (.array .boolean)) (by decide) (by decide)))
  have V_638 := V_618.other W631 (Ne.symm ne_gr_b298)
  have V_639 := V_619.other W631 (Ne.symm ne_gr_b392)
  have V_640 := V_620.other W631 (Ne.symm ne_gr_b490)
  have V_641 := V_621.other W631 (Ne.symm n_lb)
  have E_642 := E_622.wr W631
  have F_643 := F_623.other W631 (Or.inl (Ne.symm n_la))
  have F_644 := F_624.other W631 (Or.inl (Ne.symm n_la))
  have S_645 := S_625.wr W631
  have E_646 := E_626.wr W631
  have F_647 := F_627.other W631 (Or.inl (Ne.symm n_a))
  have F_648 := F_628.other W631 (Or.inl (Ne.symm n_a))
  have F_649 := F_629.other W631 (Or.inl (Ne.symm n_a))
  have V_650 := V_630.other W631 (Ne.symm n_tb)
  have V_651 := V_b611.other W631 (Ne.symm ne_gr_b611)
  obtain ⟨Lw631, X631, N631⟩ := own_locG X631 (Fr.snoc X631 N610 gg)
  have Z631 : n0 ≤ h631.size := Nat.le_trans Z611 (Nat.le_of_eq W631.size.symm)
  have K631 : Keep h0 h631 [gr] := K611.wr W631 (Or.inl (List.mem_of_getElem? (i := 0) rfl))
  have F_652 := F_617.same W631
  refine Gl.st (g' := (mkF m 274 #[vR gr, vR a, vR e8, vI (25 : Int32), .unset, .unset, .unset] [])) (fun τ κ => st631 _ κ) ?_
  refine Gl.st (g' := (mkF m 277 #[vR gr, vR a, vR e8, vI (25 : Int32), vI (0 : Int32), .unset, .unset] [])) (fun τ κ => XS.iconst X631.here hx rfl (hb hby d16_274) (XS.istore X631.here hx rfl (hb hby d16_275) rfl (l' := #[vR gr, vR a, vR e8, vI (25 : Int32), vI (0 : Int32), .unset, .unset]) rfl κ)) ?_
  refine own_g0 (hs := h631) hx hZ hw hby hml hown hcs HT hL0 g_b611 ne_gr_b611 ne_a_b611 ne_tb_b611 ne_la_b611 ne_lb_b611 ?_ (0 : Int32) _ _ _ _ (by decide) (by decide) (X631.more (by decide) (by decide)) e631 N631 Z631 (Keep.refl _ _) S_645 E_642 F_643 F_644 V_641 E_646 F_647 F_648 F_649 V_650 E_632 F_633 F_652 V_651 (own_inv0 _ _)
  intro T' h' locs' vs' j p5 p6 X' e' N' Kc653 V' I'
  have E_654 := E_632.keep Kc653
  have F_655 := F_633.keep Kc653 (ninS ne_gr_b611 nin0)
  have F_656 := F_634.keep Kc653 (ninS ne_gr_b611 nin0)
  have F_657 := F_635.keep Kc653 (ninS ne_gr_b611 nin0)
  have F_658 := F_636.keep Kc653 (ninS ne_gr_b611 nin0)
  have F_659 := F_652.keep Kc653 (ninS ne_gr_b611 nin0)
  have V_660 := V_638.keep Kc653 (ninS ne_b298_b611 nin0)
  have V_661 := V_639.keep Kc653 (ninS ne_b392_b611 nin0)
  have V_662 := V_640.keep Kc653 (ninS ne_b490_b611 nin0)
  have V_663 := V_641.keep Kc653 (ninS ne_lb_b611 nin0)
  have E_664 := E_642.keep Kc653
  have F_665 := F_643.keep Kc653 (ninS ne_la_b611 nin0)
  have F_666 := F_644.keep Kc653 (ninS ne_la_b611 nin0)
  have S_667 := Sta.keepX S_645 Kc653 (allS (P := fun x => ∃ c : Cell, h631[x]? = some c ∧ ∀ q, c.vm ≠ .statics q) (Arv.cellX V_651) all0)
  have E_668 := E_646.keep Kc653
  have F_669 := F_647.keep Kc653 (ninS ne_a_b611 nin0)
  have F_670 := F_648.keep Kc653 (ninS ne_a_b611 nin0)
  have F_671 := F_649.keep Kc653 (ninS ne_a_b611 nin0)
  have V_672 := V_650.keep Kc653 (ninS ne_tb_b611 nin0)
  have K' : Keep h0 h' [gr] := K631.trans Kc653 (allS (Or.inr sz_b611) all0)
  have Z' : n0 ≤ h'.size := Nat.le_trans Z631 Kc653.1
  exact Gl.ret (v := none) X' Bd.notSynchronized (fun _ => rfl) e' (fun fs hr => X'.returnOut hx Bd.returns (hb hby d16_345) hr) (by decide) (by decide) ⟨rfl, N', K', b298, b392, b611, k298, k392, k611, _, E_654, F_656, F_657, F_659, V_660, V_661, V', I'⟩
theorem d16_179 : decode prog_11_method_1_code 179 = .ok (.aload_n 0, 1) := by decide +kernel
theorem d16_180 : decode prog_11_method_1_code 180 = .ok (.iconst 4, 1) := by decide +kernel
theorem d16_181 : decode prog_11_method_1_code 181 = .ok (.newarray .int, 2) := by decide +kernel
theorem d16_183 : decode prog_11_method_1_code 183 = .ok (.dup, 1) := by decide +kernel
theorem d16_184 : decode prog_11_method_1_code 184 = .ok (.iconst 0, 1) := by decide +kernel
theorem d16_185 : decode prog_11_method_1_code 185 = .ok (.aload_n 0, 1) := by decide +kernel
theorem d16_186 : decode prog_11_method_1_code 186 = .ok (.getfield 13, 3) := by decide +kernel
theorem d16_189 : decode prog_11_method_1_code 189 = .ok (.ineg, 1) := by decide +kernel
theorem d16_190 : decode prog_11_method_1_code 190 = .ok (.iastore, 1) := by decide +kernel
theorem d16_191 : decode prog_11_method_1_code 191 = .ok (.dup, 1) := by decide +kernel
theorem d16_192 : decode prog_11_method_1_code 192 = .ok (.iconst 1, 1) := by decide +kernel
theorem d16_193 : decode prog_11_method_1_code 193 = .ok (.iconst (-1), 1) := by decide +kernel
theorem d16_194 : decode prog_11_method_1_code 194 = .ok (.iastore, 1) := by decide +kernel
theorem d16_195 : decode prog_11_method_1_code 195 = .ok (.dup, 1) := by decide +kernel
theorem d16_196 : decode prog_11_method_1_code 196 = .ok (.iconst 2, 1) := by decide +kernel
theorem d16_197 : decode prog_11_method_1_code 197 = .ok (.iconst 1, 1) := by decide +kernel
theorem d16_198 : decode prog_11_method_1_code 198 = .ok (.iastore, 1) := by decide +kernel
theorem d16_199 : decode prog_11_method_1_code 199 = .ok (.dup, 1) := by decide +kernel
theorem d16_200 : decode prog_11_method_1_code 200 = .ok (.iconst 3, 1) := by decide +kernel
theorem d16_201 : decode prog_11_method_1_code 201 = .ok (.aload_n 0, 1) := by decide +kernel
theorem d16_202 : decode prog_11_method_1_code 202 = .ok (.getfield 13, 3) := by decide +kernel
theorem d16_205 : decode prog_11_method_1_code 205 = .ok (.iastore, 1) := by decide +kernel
theorem d16_206 : decode prog_11_method_1_code 206 = .ok (.putfield 25, 3) := by decide +kernel
theorem d16_209 : decode prog_11_method_1_code 209 = .ok (.aload_n 0, 1) := by decide +kernel
theorem d16_210 : decode prog_11_method_1_code 210 = .ok (.iconst 4, 1) := by decide +kernel
theorem d16_211 : decode prog_11_method_1_code 211 = .ok (.newarray .int, 2) := by decide +kernel
theorem d16_213 : decode prog_11_method_1_code 213 = .ok (.dup, 1) := by decide +kernel
theorem d16_214 : decode prog_11_method_1_code 214 = .ok (.iconst 0, 1) := by decide +kernel
theorem d16_215 : decode prog_11_method_1_code 215 = .ok (.iconst 0, 1) := by decide +kernel
theorem d16_216 : decode prog_11_method_1_code 216 = .ok (.iastore, 1) := by decide +kernel
theorem d16_217 : decode prog_11_method_1_code 217 = .ok (.dup, 1) := by decide +kernel
theorem d16_218 : decode prog_11_method_1_code 218 = .ok (.iconst 1, 1) := by decide +kernel
theorem d16_219 : decode prog_11_method_1_code 219 = .ok (.iconst (-1), 1) := by decide +kernel
theorem d16_220 : decode prog_11_method_1_code 220 = .ok (.iastore, 1) := by decide +kernel
theorem d16_221 : decode prog_11_method_1_code 221 = .ok (.dup, 1) := by decide +kernel
theorem d16_222 : decode prog_11_method_1_code 222 = .ok (.iconst 2, 1) := by decide +kernel
theorem d16_223 : decode prog_11_method_1_code 223 = .ok (.iconst 1, 1) := by decide +kernel
theorem d16_224 : decode prog_11_method_1_code 224 = .ok (.iastore, 1) := by decide +kernel
theorem d16_225 : decode prog_11_method_1_code 225 = .ok (.dup, 1) := by decide +kernel
theorem d16_226 : decode prog_11_method_1_code 226 = .ok (.iconst 3, 1) := by decide +kernel
theorem d16_227 : decode prog_11_method_1_code 227 = .ok (.iconst 0, 1) := by decide +kernel
theorem d16_228 : decode prog_11_method_1_code 228 = .ok (.iastore, 1) := by decide +kernel
theorem d16_229 : decode prog_11_method_1_code 229 = .ok (.putfield 29, 3) := by decide +kernel
theorem d16_232 : decode prog_11_method_1_code 232 = .ok (.aload_n 0, 1) := by decide +kernel
theorem d16_233 : decode prog_11_method_1_code 233 = .ok (.iconst 4, 1) := by decide +kernel
theorem d16_234 : decode prog_11_method_1_code 234 = .ok (.newarray .int, 2) := by decide +kernel
theorem d16_236 : decode prog_11_method_1_code 236 = .ok (.dup, 1) := by decide +kernel
theorem d16_237 : decode prog_11_method_1_code 237 = .ok (.iconst 0, 1) := by decide +kernel
theorem d16_238 : decode prog_11_method_1_code 238 = .ok (.iconst (-1), 1) := by decide +kernel
theorem d16_239 : decode prog_11_method_1_code 239 = .ok (.iastore, 1) := by decide +kernel
theorem d16_240 : decode prog_11_method_1_code 240 = .ok (.dup, 1) := by decide +kernel
theorem d16_241 : decode prog_11_method_1_code 241 = .ok (.iconst 1, 1) := by decide +kernel
theorem d16_242 : decode prog_11_method_1_code 242 = .ok (.iconst 0, 1) := by decide +kernel
theorem d16_243 : decode prog_11_method_1_code 243 = .ok (.iastore, 1) := by decide +kernel
theorem d16_244 : decode prog_11_method_1_code 244 = .ok (.dup, 1) := by decide +kernel
theorem d16_245 : decode prog_11_method_1_code 245 = .ok (.iconst 2, 1) := by decide +kernel
theorem d16_246 : decode prog_11_method_1_code 246 = .ok (.iconst 0, 1) := by decide +kernel
theorem d16_247 : decode prog_11_method_1_code 247 = .ok (.iastore, 1) := by decide +kernel
theorem d16_248 : decode prog_11_method_1_code 248 = .ok (.dup, 1) := by decide +kernel
theorem d16_249 : decode prog_11_method_1_code 249 = .ok (.iconst 3, 1) := by decide +kernel
theorem d16_250 : decode prog_11_method_1_code 250 = .ok (.iconst 1, 1) := by decide +kernel
theorem d16_251 : decode prog_11_method_1_code 251 = .ok (.iastore, 1) := by decide +kernel
theorem d16_252 : decode prog_11_method_1_code 252 = .ok (.putfield 32, 3) := by decide +kernel
theorem ef_rm16_4 (m : MethodId) (gr : Addr) (a : Addr) (f4 : Addr) : entryFrame m #[(.ref gr), (.ref a), (.ref f4)] 7 = mkF m 0 #[vR gr, vR a, vR f4, .unset, .unset, .unset, .unset] [] := by first | (simp [entryFrame, mkF, argsToLocals, Value.category]; done) | rfl
def Q_rm16_4 (Z : State) (gr : Addr) (a : Addr) (f4 : Addr) (e8 tb la : Addr) (kt : ClassId) (vt : List Value) (tv : Int32) (lb : Addr) (lk : ClassId) (cs : Int32) (h0 : Heap) (n0 : Nat) (v : Option Value) (h : Heap) (L : List Loc) : Prop := v = none ∧ Fr n0 L ∧ Keep h0 h [gr] ∧ ∃ s1 s2 bk k1 k2 kb vs, Exa Z h gr "com/example/wanderpath/wanderpath/Grid" ∧ Fld Z h gr "com/example/wanderpath/wanderpath/Grid" "steps" "[I" (.ref s1) ∧ Fld Z h gr "com/example/wanderpath/wanderpath/Grid" "rowPart" "[I" (.ref s2) ∧ Fld Z h gr "com/example/wanderpath/wanderpath/Grid" "blocked" "[Z" (.ref bk) ∧ Arv Z h s1 k1 .int (4 : Int32) [(.int (-5 : Int32)), (.int (-1 : Int32)), (.int (1 : Int32)), (.int (5 : Int32))] (.int (0 : Int32)) ∧ Arv Z h s2 k2 .int (4 : Int32) [(.int (0 : Int32)), (.int (-1 : Int32)), (.int (1 : Int32)), (.int (0 : Int32))] (.int (0 : Int32)) ∧ Arv Z h bk kb .boolean (25 : Int32) vs (.int (0 : Int32)) ∧ own_inv tv (25 : Int32) vs
set_option maxRecDepth 65536 in
set_option maxHeartbeats 40000000 in
theorem rm16_4 (l : Launch) (Z : State) (a0 : Array Value) (hw : ∀ d ∈ tables_1, d.before a0 Z = true) (ws : List Jvm.Cond) (gr : Addr) (a : Addr) (f4 : Addr) (e8 tb la : Addr) (kt : ClassId) (vt : List Value) (tv : Int32) (lb : Addr) (lk : ClassId) (cs : Int32) (h0 : Heap) (n0 : Nat) (Z0 : n0 ≤ h0.size) (S0 : Sta Z h0 "java/lang/String" "COMPACT_STRINGS" "Z" (.int cs)) (hcs : ¬ cs = (0 : Int32)) (EL : Exa Z h0 la "java/lang/String") (FC : Fld Z h0 la "java/lang/String" "coder" "B" (.int (0 : Int32))) (FV : Fld Z h0 la "java/lang/String" "value" "[B" (.ref lb)) (VB : Arv Z h0 lb lk .byte (3 : Int32) [(.int (46 : Int32)), (.int (71 : Int32)), (.int (83 : Int32))] (.int (0 : Int32))) (Em : Exa Z h0 a "com/example/wanderpath/wanderpath/TileMap") (F0 : Fld Z h0 a "com/example/wanderpath/wanderpath/TileMap" "width" "I" (.int (3 : Int32))) (F1 : Fld Z h0 a "com/example/wanderpath/wanderpath/TileMap" "height" "I" (.int (3 : Int32))) (F2 : Fld Z h0 a "com/example/wanderpath/wanderpath/TileMap" "tiles" "[B" (.ref tb)) (Vt : Arv Z h0 tb kt .byte (9 : Int32) vt (.int (0 : Int32))) (HT : ∀ i, ¬ i < 0 → i < (9 : Int32) → vt.getD i.toNatClampNeg (.int (0 : Int32)) = .int (own_tile tv i)) (S8 : Sta Z h0 "com/example/wanderpath/wanderpath/Moves" "EIGHT" "Lcom/example/wanderpath/wanderpath/Moves;" (.ref e8)) (Eg : Exa Z h0 gr "com/example/wanderpath/wanderpath/Grid") (gg : n0 ≤ gr) (G0 : Fld Z h0 gr "com/example/wanderpath/wanderpath/Grid" "stride" "I" (.int (0 : Int32))) (G1 : Fld Z h0 gr "com/example/wanderpath/wanderpath/Grid" "steps" "[I" .null) (G2 : Fld Z h0 gr "com/example/wanderpath/wanderpath/Grid" "rowPart" "[I" .null) (G3 : Fld Z h0 gr "com/example/wanderpath/wanderpath/Grid" "columnPart" "[I" .null) (G4 : Fld Z h0 gr "com/example/wanderpath/wanderpath/Grid" "blocked" "[Z" .null) (n_a : gr ≠ a) (n_tb : gr ≠ tb) (n_la : gr ≠ la) (n_lb : gr ≠ lb) (hfe : f4 ≠ e8) :
    MetFree l (⟨"com/example/wanderpath/wanderpath/Grid", "<init>", "(Lcom/example/wanderpath/wanderpath/TileMap;Lcom/example/wanderpath/wanderpath/Moves;)V"⟩ : MethodName) (head1 (Jvm.Cond.code (⟨"com/example/wanderpath/wanderpath/Grid", "<init>", "(Lcom/example/wanderpath/wanderpath/TileMap;Lcom/example/wanderpath/wanderpath/Moves;)V"⟩ : MethodName) prog_11_method_1_code 7 none :: ws) ({ frames := 6, cells := 4, slots := 49, locals := 88 } : Room)) (fun aα Uα => aα = #[(.ref gr), (.ref a), (.ref f4)] ∧ Z.Warmed39 Uα.vm ∧ Uα.heap = h0 ∧ Lit Uα "com/example/wanderpath/wanderpath/TileMap" 120 la) (fun _ _ _ _ _ => True) (fun _ Uα oα Uβ => ∃ vα Lα, oα = .returned vα ∧ Q_rm16_4 Z gr a f4 e8 tb la kt vt tv lb lk cs h0 n0 vα Uβ.heap Lα ∧ FrameEnd Uα oα Uβ Lα ({ frames := 6, cells := 4, slots := 49, locals := 88 } : Room).cells ({ frames := 6, cells := 4, slots := 49, locals := 88 } : Room).slots) := by
  refine MetFree.of_bodySF (plainFor_of_name pn_com_example_wanderpath_wanderpath_Grid) hisR ?_
  intro p e s m args below meth c s₁ Bd hml0 hP hKα
  obtain ⟨rfl, hZ, hh, hL0⟩ := hP
  have hx := Bd.exec
  have hby := Bd.bytes
  have hml : c.maxLocals = 7 := hml0
  have hown : s.vm.findClass "com/example/wanderpath/wanderpath/Grid" = some m.cls := findClass_of_methodNamed Bd.named
  have hnm := (name_of_methodNamed Bd.named Bd.method).1
  have X0 : Stand p l e ({ frames := 6, cells := 4, slots := 49, locals := 88 } : Room) s m #[(.ref gr), (.ref a), (.ref f4)] below meth c s₁ [] 0 0 := Stand.of_body Bd
  have e0 : s₁.heap = h0 := by rw [← hh, Bd.state]; rfl
  have N0 := Fr.nil n0
  suffices k0 : Gl p e below s (Q_rm16_4 Z gr a f4 e8 tb la kt vt tv lb lk cs h0 n0) ({ frames := 6, cells := 4, slots := 49, locals := 88 } : Room).cells ({ frames := 6, cells := 4, slots := 49, locals := 88 } : Room).slots s₁ (mkF m 0 #[vR gr, vR a, vR f4, .unset, .unset, .unset, .unset] []) from Gl.st (fun τ κ => castTop (ef_rm16_4 m gr a f4) κ) k0
  refine Gl.st (g' := (mkF m 1 #[vR gr, vR a, vR f4, .unset, .unset, .unset, .unset] [(.ref gr)])) (fun τ κ => XS.aloadN X0.here hx rfl (hb hby d16_0) rfl rfl κ) ?_
  obtain ⟨T674, X674, e674, st674⟩ := initO X0 hx hZ hown (w91_ hw) (w17_ hw) (w18_ hw) e0 (g := (mkF m 1 #[vR gr, vR a, vR f4, .unset, .unset, .unset, .unset] [(.ref gr)])) rfl (by rw [hml]; rfl) rfl (hb hby d16_1) (by decide) (W := 0) (by show 2 * 0 + _ ≤ _; exact Nat.le_of_eq rfl) (by decide)
  refine Gl.st (g' := (mkF m 4 #[vR gr, vR a, vR f4, .unset, .unset, .unset, .unset] [])) (fun τ κ => st674 _ κ) ?_
  refine Gl.st (g' := (mkF m 6 #[vR gr, vR a, vR f4, .unset, .unset, .unset, .unset] [(.ref a), (.ref gr)])) (fun τ κ => XS.aloadN X674.here hx rfl (hb hby d16_4) rfl rfl (XS.aloadN X674.here hx rfl (hb hby d16_5) rfl rfl κ)) ?_
  obtain ⟨cq675, kq675, q675a, q675b, q675c⟩ := isOf hZ e674 Em
  obtain ⟨rv675, _, ⟨T675, L675, k675, n675⟩, -, X675, ⟨Lc675, hQ675, l675, y675, z675⟩, st675⟩ := X674.virtualBack hx (y := (⟨"com/example/wanderpath/wanderpath/TileMap", "width", "()I"⟩ : MethodName)) (z := (⟨"com/example/wanderpath/wanderpath/TileMap", "width", "()I"⟩ : MethodName)) hown (mvT hZ (w92_ hw)) (mvT hZ (w93_ hw)) (notFace_of_selects (args := #[]) (mvT hZ (w95_ hw))) (mvT hZ (w95_ hw)) (mvT hZ (w94_ hw)) (by decide) (backOf (W := 1) (rm17 l Z a0 hw [] a h0 n0 Z0 Em F0 F1) hZ (w96_ hw) (w12_ hw) (by decide) (by decide)) q675a q675c (g := (mkF m 6 #[vR gr, vR a, vR f4, .unset, .unset, .unset, .unset] [(.ref a), (.ref gr)])) rfl (by rw [hml]; rfl) (Steps.refl _) (argsL := []) (rest := [(.ref gr)]) (lenOf pd_5 rfl) rfl (by show 2 * 0 + _ ≤ _; exact Nat.le_of_eq rfl) (hb hby d16_6) (fun _ _ => ⟨rfl, e674, Nat.le_of_ble_eq_true rfl, Nat.le_of_ble_eq_true rfl⟩)
  dsimp only [Pt.U, Pt.locs, Pt.cells, Pt.slots] at X675 l675 y675 z675 st675 hQ675
  subst l675 y675 z675
  have X675 := X675.more (cells' := 0) (slots' := 0) (by decide) (by decide)
  obtain ⟨hq675, N675q, e675⟩ := hQ675
  have hq675 : rv675 = some (.int (3 : Int32)) := hq675
  subst hq675
  have N675 := Fr.app N0 N675q
  obtain ⟨Lw675, X675, N675⟩ := own_locG X675 N675
  refine Gl.st (g' := (mkF m 9 #[vR gr, vR a, vR f4, .unset, .unset, .unset, .unset] [(.int (3 : Int32)), (.ref gr)])) (fun τ κ => st675.trans κ) ?_
  refine Gl.st (g' := (mkF m 11 #[vR gr, vR a, vR f4, .unset, .unset, .unset, .unset] [(.int (5 : Int32)), (.ref gr)])) (fun τ κ => XS.iconst X675.here hx rfl (hb hby d16_9) (XS.iadd X675.here hx rfl (hb hby d16_10) rfl κ)) ?_
  obtain ⟨T676, h676, X676, e676, W676, st676⟩ := putF X675 hx hZ hown (host := "") (Or.inl (w97_ hw)) Via.refl e675 G0 Eg (Or.inr ⟨(w98_ hw), rfl, hnm⟩) (w83_ hw) (ty := .int) (by decide) rfl rfl (g := (mkF m 11 #[vR gr, vR a, vR f4, .unset, .unset, .unset, .unset] [(.int (5 : Int32)), (.ref gr)])) rfl rfl (hb hby d16_11)
  have V_677 := VB.other W676 (Ne.symm n_lb)
  have E_678 := EL.wr W676
  have F_679 := FC.other W676 (Or.inl (Ne.symm n_la))
  have F_680 := FV.other W676 (Or.inl (Ne.symm n_la))
  have S_681 := S0.wr W676
  have E_682 := Em.wr W676
  have F_683 := F0.other W676 (Or.inl (Ne.symm n_a))
  have F_684 := F1.other W676 (Or.inl (Ne.symm n_a))
  have F_685 := F2.other W676 (Or.inl (Ne.symm n_a))
  have V_686 := Vt.other W676 (Ne.symm n_tb)
  have S_687 := S8.wr W676
  have E_688 := Eg.wr W676
  have F_690 := G1.other W676 (Or.inr (slot_ne (Or.inr (w103_ hw)) (Or.inr (w98_ hw)) (by decide) (t := (.array .int)) (t' := .int) (by decide) (by decide)))
  have F_691 := G2.other W676 (Or.inr (slot_ne (Or.inr (w105_ hw)) (Or.inr (w98_ hw)) (by decide) (t := (.array .int)) (t' := .int) (by decide) (by decide)))
  have F_692 := G3.other W676 (Or.inr (slot_ne (Or.inr (w107_ hw)) (Or.inr (w98_ hw)) (by decide) (t := (.array .int)) (t' := .int) (by decide) (by decide)))
  have F_693 := G4.other W676 (Or.inr (slot_ne (Or.inr (w114_ hw)) (Or.inr (w98_ hw)) (by decide) (t := (.array .boolean)) (t' := .int) (by decide) (by decide)))
  obtain ⟨Lw676, X676, N676⟩ := own_locG X676 (Fr.snoc X676 N675 gg)
  have Z676 : n0 ≤ h676.size := Nat.le_trans Z0 (Nat.le_of_eq W676.size.symm)
  have K676 : Keep h0 h676 [gr] := (Keep.refl h0 [gr]).wr W676 (Or.inl (List.mem_of_getElem? (i := 0) rfl))
  have F_694 := G0.same W676
  refine Gl.st (g' := (mkF m 14 #[vR gr, vR a, vR f4, .unset, .unset, .unset, .unset] [])) (fun τ κ => st676 _ κ) ?_
  refine Gl.st (g' := (mkF m 15 #[vR gr, vR a, vR f4, .unset, .unset, .unset, .unset] [(.ref f4)])) (fun τ κ => XS.aloadN X676.here hx rfl (hb hby d16_14) rfl rfl κ) ?_
  obtain ⟨T695, X695, e695, st695⟩ := getS2 X676 hx hZ hown (host := "") (Or.inl (w99_ hw)) Via.refl e676 S_687 (g := (mkF m 15 #[vR gr, vR a, vR f4, .unset, .unset, .unset, .unset] [(.ref f4)])) rfl (hb hby d16_15)
  refine Gl.st (g' := (mkF m 18 #[vR gr, vR a, vR f4, .unset, .unset, .unset, .unset] [(.ref e8), (.ref f4)])) (fun τ κ => st695 _ κ) ?_
  refine Gl.st (g' := (mkF m 179 #[vR gr, vR a, vR f4, .unset, .unset, .unset, .unset] [])) (fun τ κ => Jvm.RoadKit.acmp (g := (mkF m 18 #[vR gr, vR a, vR f4, .unset, .unset, .unset, .unset] [(.ref e8), (.ref f4)])) X695 hx rfl rfl rfl (pc0 := 18) (pc' := 179) (same := false) rfl (hb hby d16_18) rfl (decide_eq_false fun q => hfe (Value.ref.inj q)) (by decide) (by decide) κ) ?_
  refine Gl.st (g' := (mkF m 181 #[vR gr, vR a, vR f4, .unset, .unset, .unset, .unset] [(.int (4 : Int32)), (.ref gr)])) (fun τ κ => XS.aloadN X695.here hx rfl (hb hby d16_179) rfl rfl (XS.iconst X695.here hx rfl (hb hby d16_180) κ)) ?_
  obtain ⟨T696, h696, k696, X696, e696, E696, A696, st696⟩ := newP X695 hx hZ (hw _ (List.mem_of_getElem? (i := 101) rfl)) e695 (g := (mkF m 181 #[vR gr, vR a, vR f4, .unset, .unset, .unset, .unset] [(.int (4 : Int32)), (.ref gr)])) rfl (hb hby d16_181) rfl (by decide) (cap := 4) (by decide) (by decide) (by decide) (by decide)
  obtain ⟨b696, g696⟩ : ∃ z, z = h676.size := ⟨_, rfl⟩
  rw [← g696] at A696 st696
  have ne_gr_b696 : gr ≠ b696 := Nat.ne_of_lt (Nat.lt_of_lt_of_le E_688.lt (Nat.le_of_eq g696.symm))
  have E_697 := E_688.ext E696
  have F_698 := F_694.ext E696
  have F_699 := F_690.ext E696
  have F_700 := F_691.ext E696
  have F_701 := F_692.ext E696
  have F_702 := F_693.ext E696
  have g_b696 : n0 ≤ b696 := Nat.le_trans Z676 (Nat.le_of_eq g696.symm)
  have sz_b696 : h0.size ≤ b696 := Nat.le_trans K676.1 (Nat.le_of_eq g696.symm)
  have Z696 : n0 ≤ h696.size := Nat.le_trans Z676 E696.1
  have K696 : Keep h0 h696 [gr] := K676.ext E696
  have V_b696 : Arv Z h696 b696 k696 .int (4 : Int32) [(.int (0 : Int32)), (.int (0 : Int32)), (.int (0 : Int32)), (.int (0 : Int32))] (.int (0 : Int32)) := (Arv.new A696 (by decide)).pad (pad_rep [] (.int (0 : Int32)) 4)
  have X696 := X696.more (cells' := 1) (slots' := 4) (by decide) (by decide)
  refine Gl.st (g' := (mkF m 183 #[vR gr, vR a, vR f4, .unset, .unset, .unset, .unset] [(.ref b696), (.ref gr)])) (fun τ κ => st696 _ κ) ?_
  refine Gl.st (g' := (mkF m 185 #[vR gr, vR a, vR f4, .unset, .unset, .unset, .unset] [(.int (0 : Int32)), (.ref b696), (.ref b696), (.ref gr)])) (fun τ κ => XS.dup X696.here hx rfl (hb hby d16_183) rfl rfl (XS.iconst X696.here hx rfl (hb hby d16_184) κ)) ?_
  refine Gl.st (g' := (mkF m 186 #[vR gr, vR a, vR f4, .unset, .unset, .unset, .unset] [(.ref gr), (.int (0 : Int32)), (.ref b696), (.ref b696), (.ref gr)])) (fun τ κ => XS.aloadN X696.here hx rfl (hb hby d16_185) rfl rfl κ) ?_
  obtain ⟨T703, X703, e703, st703⟩ := getF X696 hx hZ hown (host := "") (Or.inl (w97_ hw)) Via.refl e696 F_698 (g := (mkF m 186 #[vR gr, vR a, vR f4, .unset, .unset, .unset, .unset] [(.ref gr), (.int (0 : Int32)), (.ref b696), (.ref b696), (.ref gr)])) rfl rfl (hb hby d16_186)
  refine Gl.st (g' := (mkF m 189 #[vR gr, vR a, vR f4, .unset, .unset, .unset, .unset] [(.int (5 : Int32)), (.int (0 : Int32)), (.ref b696), (.ref b696), (.ref gr)])) (fun τ κ => st703 _ κ) ?_
  refine Gl.st (g' := (mkF m 190 #[vR gr, vR a, vR f4, .unset, .unset, .unset, .unset] [(.int (-5 : Int32)), (.int (0 : Int32)), (.ref b696), (.ref b696), (.ref gr)])) (fun τ κ => XS.ineg X703.here hx rfl (hb hby d16_189) rfl κ) ?_
  obtain ⟨cl_o704, Ar_o704, q_o704, S_o704, M_o704, H_o704, G_o704⟩ := id V_b696
  have hin_o704 : ¬ ((0 : Int32) < 0 ∨ cl_o704.slots.size ≤ ((0 : Int32)).toNatClampNeg) := inb_of S_o704 ⟨by decide, by decide⟩
  obtain ⟨T705, h705, X705, e705, W705, st705⟩ := stI X703 hx hZ e703 Ar_o704 (j := (0 : Int32)) hin_o704 (g := (mkF m 190 #[vR gr, vR a, vR f4, .unset, .unset, .unset, .unset] [(.int (-5 : Int32)), (.int (0 : Int32)), (.ref b696), (.ref b696), (.ref gr)])) rfl rfl (hb hby d16_190)
  have E_706 := E_697.wr W705
  have F_707 := F_698.other W705 (Or.inl ne_gr_b696)
  have F_708 := F_699.other W705 (Or.inl ne_gr_b696)
  have F_709 := F_700.other W705 (Or.inl ne_gr_b696)
  have F_710 := F_701.other W705 (Or.inl ne_gr_b696)
  have F_711 := F_702.other W705 (Or.inl ne_gr_b696)
  obtain ⟨Lw705, X705, N705⟩ := own_locG X705 (Fr.snoc X705 N676 g_b696)
  have Z705 : n0 ≤ h705.size := Nat.le_trans Z696 (Nat.le_of_eq W705.size.symm)
  have K705 : Keep h0 h705 [gr] := K696.wr W705 (Or.inr sz_b696)
  have V_b696_705 : Arv Z h705 b696 k696 .int (4 : Int32) [(.int (-5 : Int32)), (.int (0 : Int32)), (.int (0 : Int32)), (.int (0 : Int32))] (.int (0 : Int32)) := Arv.set Ar_o704 q_o704 S_o704 M_o704 H_o704 G_o704 rfl W705 0 rfl (Nat.le_of_ble_eq_true rfl)
  refine Gl.st (g' := (mkF m 191 #[vR gr, vR a, vR f4, .unset, .unset, .unset, .unset] [(.ref b696), (.ref gr)])) (fun τ κ => st705 _ κ) ?_
  refine Gl.st (g' := (mkF m 193 #[vR gr, vR a, vR f4, .unset, .unset, .unset, .unset] [(.int (1 : Int32)), (.ref b696), (.ref b696), (.ref gr)])) (fun τ κ => XS.dup X705.here hx rfl (hb hby d16_191) rfl rfl (XS.iconst X705.here hx rfl (hb hby d16_192) κ)) ?_
  refine Gl.st (g' := (mkF m 194 #[vR gr, vR a, vR f4, .unset, .unset, .unset, .unset] [(.int (-1 : Int32)), (.int (1 : Int32)), (.ref b696), (.ref b696), (.ref gr)])) (fun τ κ => XS.iconst X705.here hx rfl (hb hby d16_193) κ) ?_
  obtain ⟨cl_o713, Ar_o713, q_o713, S_o713, M_o713, H_o713, G_o713⟩ := id V_b696_705
  have hin_o713 : ¬ ((1 : Int32) < 0 ∨ cl_o713.slots.size ≤ ((1 : Int32)).toNatClampNeg) := inb_of S_o713 ⟨by decide, by decide⟩
  obtain ⟨T714, h714, X714, e714, W714, st714⟩ := stI X705 hx hZ e705 Ar_o713 (j := (1 : Int32)) hin_o713 (g := (mkF m 194 #[vR gr, vR a, vR f4, .unset, .unset, .unset, .unset] [(.int (-1 : Int32)), (.int (1 : Int32)), (.ref b696), (.ref b696), (.ref gr)])) rfl rfl (hb hby d16_194)
  have E_715 := E_706.wr W714
  have F_716 := F_707.other W714 (Or.inl ne_gr_b696)
  have F_717 := F_708.other W714 (Or.inl ne_gr_b696)
  have F_718 := F_709.other W714 (Or.inl ne_gr_b696)
  have F_719 := F_710.other W714 (Or.inl ne_gr_b696)
  have F_720 := F_711.other W714 (Or.inl ne_gr_b696)
  obtain ⟨Lw714, X714, N714⟩ := own_locG X714 (Fr.snoc X714 N705 g_b696)
  have Z714 : n0 ≤ h714.size := Nat.le_trans Z705 (Nat.le_of_eq W714.size.symm)
  have K714 : Keep h0 h714 [gr] := K705.wr W714 (Or.inr sz_b696)
  have V_b696_714 : Arv Z h714 b696 k696 .int (4 : Int32) [(.int (-5 : Int32)), (.int (-1 : Int32)), (.int (0 : Int32)), (.int (0 : Int32))] (.int (0 : Int32)) := Arv.set Ar_o713 q_o713 S_o713 M_o713 H_o713 G_o713 rfl W714 1 rfl (Nat.le_of_ble_eq_true rfl)
  refine Gl.st (g' := (mkF m 195 #[vR gr, vR a, vR f4, .unset, .unset, .unset, .unset] [(.ref b696), (.ref gr)])) (fun τ κ => st714 _ κ) ?_
  refine Gl.st (g' := (mkF m 197 #[vR gr, vR a, vR f4, .unset, .unset, .unset, .unset] [(.int (2 : Int32)), (.ref b696), (.ref b696), (.ref gr)])) (fun τ κ => XS.dup X714.here hx rfl (hb hby d16_195) rfl rfl (XS.iconst X714.here hx rfl (hb hby d16_196) κ)) ?_
  refine Gl.st (g' := (mkF m 198 #[vR gr, vR a, vR f4, .unset, .unset, .unset, .unset] [(.int (1 : Int32)), (.int (2 : Int32)), (.ref b696), (.ref b696), (.ref gr)])) (fun τ κ => XS.iconst X714.here hx rfl (hb hby d16_197) κ) ?_
  obtain ⟨cl_o722, Ar_o722, q_o722, S_o722, M_o722, H_o722, G_o722⟩ := id V_b696_714
  have hin_o722 : ¬ ((2 : Int32) < 0 ∨ cl_o722.slots.size ≤ ((2 : Int32)).toNatClampNeg) := inb_of S_o722 ⟨by decide, by decide⟩
  obtain ⟨T723, h723, X723, e723, W723, st723⟩ := stI X714 hx hZ e714 Ar_o722 (j := (2 : Int32)) hin_o722 (g := (mkF m 198 #[vR gr, vR a, vR f4, .unset, .unset, .unset, .unset] [(.int (1 : Int32)), (.int (2 : Int32)), (.ref b696), (.ref b696), (.ref gr)])) rfl rfl (hb hby d16_198)
  have E_724 := E_715.wr W723
  have F_725 := F_716.other W723 (Or.inl ne_gr_b696)
  have F_726 := F_717.other W723 (Or.inl ne_gr_b696)
  have F_727 := F_718.other W723 (Or.inl ne_gr_b696)
  have F_728 := F_719.other W723 (Or.inl ne_gr_b696)
  have F_729 := F_720.other W723 (Or.inl ne_gr_b696)
  obtain ⟨Lw723, X723, N723⟩ := own_locG X723 (Fr.snoc X723 N714 g_b696)
  have Z723 : n0 ≤ h723.size := Nat.le_trans Z714 (Nat.le_of_eq W723.size.symm)
  have K723 : Keep h0 h723 [gr] := K714.wr W723 (Or.inr sz_b696)
  have V_b696_723 : Arv Z h723 b696 k696 .int (4 : Int32) [(.int (-5 : Int32)), (.int (-1 : Int32)), (.int (1 : Int32)), (.int (0 : Int32))] (.int (0 : Int32)) := Arv.set Ar_o722 q_o722 S_o722 M_o722 H_o722 G_o722 rfl W723 2 rfl (Nat.le_of_ble_eq_true rfl)
  refine Gl.st (g' := (mkF m 199 #[vR gr, vR a, vR f4, .unset, .unset, .unset, .unset] [(.ref b696), (.ref gr)])) (fun τ κ => st723 _ κ) ?_
  refine Gl.st (g' := (mkF m 201 #[vR gr, vR a, vR f4, .unset, .unset, .unset, .unset] [(.int (3 : Int32)), (.ref b696), (.ref b696), (.ref gr)])) (fun τ κ => XS.dup X723.here hx rfl (hb hby d16_199) rfl rfl (XS.iconst X723.here hx rfl (hb hby d16_200) κ)) ?_
  refine Gl.st (g' := (mkF m 202 #[vR gr, vR a, vR f4, .unset, .unset, .unset, .unset] [(.ref gr), (.int (3 : Int32)), (.ref b696), (.ref b696), (.ref gr)])) (fun τ κ => XS.aloadN X723.here hx rfl (hb hby d16_201) rfl rfl κ) ?_
  obtain ⟨T731, X731, e731, st731⟩ := getF X723 hx hZ hown (host := "") (Or.inl (w97_ hw)) Via.refl e723 F_725 (g := (mkF m 202 #[vR gr, vR a, vR f4, .unset, .unset, .unset, .unset] [(.ref gr), (.int (3 : Int32)), (.ref b696), (.ref b696), (.ref gr)])) rfl rfl (hb hby d16_202)
  refine Gl.st (g' := (mkF m 205 #[vR gr, vR a, vR f4, .unset, .unset, .unset, .unset] [(.int (5 : Int32)), (.int (3 : Int32)), (.ref b696), (.ref b696), (.ref gr)])) (fun τ κ => st731 _ κ) ?_
  obtain ⟨cl_o732, Ar_o732, q_o732, S_o732, M_o732, H_o732, G_o732⟩ := id V_b696_723
  have hin_o732 : ¬ ((3 : Int32) < 0 ∨ cl_o732.slots.size ≤ ((3 : Int32)).toNatClampNeg) := inb_of S_o732 ⟨by decide, by decide⟩
  obtain ⟨T733, h733, X733, e733, W733, st733⟩ := stI X731 hx hZ e731 Ar_o732 (j := (3 : Int32)) hin_o732 (g := (mkF m 205 #[vR gr, vR a, vR f4, .unset, .unset, .unset, .unset] [(.int (5 : Int32)), (.int (3 : Int32)), (.ref b696), (.ref b696), (.ref gr)])) rfl rfl (hb hby d16_205)
  have E_734 := E_724.wr W733
  have F_735 := F_725.other W733 (Or.inl ne_gr_b696)
  have F_736 := F_726.other W733 (Or.inl ne_gr_b696)
  have F_737 := F_727.other W733 (Or.inl ne_gr_b696)
  have F_738 := F_728.other W733 (Or.inl ne_gr_b696)
  have F_739 := F_729.other W733 (Or.inl ne_gr_b696)
  obtain ⟨Lw733, X733, N733⟩ := own_locG X733 (Fr.snoc X733 N723 g_b696)
  have Z733 : n0 ≤ h733.size := Nat.le_trans Z723 (Nat.le_of_eq W733.size.symm)
  have K733 : Keep h0 h733 [gr] := K723.wr W733 (Or.inr sz_b696)
  have V_b696_733 : Arv Z h733 b696 k696 .int (4 : Int32) [(.int (-5 : Int32)), (.int (-1 : Int32)), (.int (1 : Int32)), (.int (5 : Int32))] (.int (0 : Int32)) := Arv.set Ar_o732 q_o732 S_o732 M_o732 H_o732 G_o732 rfl W733 3 rfl (Nat.le_of_ble_eq_true rfl)
  refine Gl.st (g' := (mkF m 206 #[vR gr, vR a, vR f4, .unset, .unset, .unset, .unset] [(.ref b696), (.ref gr)])) (fun τ κ => st733 _ κ) ?_
  obtain ⟨T741, h741, X741, e741, W741, st741⟩ := putF X733 hx hZ hown (host := "") (Or.inl (w102_ hw)) Via.refl e733 F_736 E_734 (Or.inr ⟨(w103_ hw), rfl, hnm⟩) (w83_ hw) (ty := (.array .int)) (by decide) rfl rfl (g := (mkF m 206 #[vR gr, vR a, vR f4, .unset, .unset, .unset, .unset] [(.ref b696), (.ref gr)])) rfl rfl (hb hby d16_206)
  have E_742 := E_734.wr W741
  have F_743 := F_735.other W741 (Or.inr (slot_ne (Or.inr (w98_ hw)) (Or.inr (w103_ hw)) (by decide) (t := .int) (t' := (.array .int)) (by decide) (by decide)))
  have F_745 := F_737.other W741 (Or.inr (slot_ne (Or.inr (w105_ hw)) (Or.inr (w103_ hw)) (by decide) (t := (.array .int)) (t' := (.array .int)) (by decide) (by decide)))
  have F_746 := F_738.other W741 (Or.inr (slot_ne (Or.inr (w107_ hw)) (Or.inr (w103_ hw)) (by decide) (t := (.array .int)) (t' := (.array .int)) (by decide) (by decide)))
  have F_747 := F_739.other W741 (Or.inr (slot_ne (Or.inr (w114_ hw)) (Or.inr (w103_ hw)) (by decide) (t := (.array .boolean)) (t' := (.array .int)) (by decide) (by decide)))
  have V_748 := V_b696_733.other W741 (Ne.symm ne_gr_b696)
  obtain ⟨Lw741, X741, N741⟩ := own_locG X741 (Fr.snoc X741 N733 gg)
  have Z741 : n0 ≤ h741.size := Nat.le_trans Z733 (Nat.le_of_eq W741.size.symm)
  have K741 : Keep h0 h741 [gr] := K733.wr W741 (Or.inl (List.mem_of_getElem? (i := 0) rfl))
  have F_749 := F_736.same W741
  refine Gl.st (g' := (mkF m 209 #[vR gr, vR a, vR f4, .unset, .unset, .unset, .unset] [])) (fun τ κ => st741 _ κ) ?_
  refine Gl.st (g' := (mkF m 211 #[vR gr, vR a, vR f4, .unset, .unset, .unset, .unset] [(.int (4 : Int32)), (.ref gr)])) (fun τ κ => XS.aloadN X741.here hx rfl (hb hby d16_209) rfl rfl (XS.iconst X741.here hx rfl (hb hby d16_210) κ)) ?_
  obtain ⟨T750, h750, k750, X750, e750, E750, A750, st750⟩ := newP X741 hx hZ (hw _ (List.mem_of_getElem? (i := 101) rfl)) e741 (g := (mkF m 211 #[vR gr, vR a, vR f4, .unset, .unset, .unset, .unset] [(.int (4 : Int32)), (.ref gr)])) rfl (hb hby d16_211) rfl (by decide) (cap := 4) (by decide) (by decide) (by decide) (by decide)
  obtain ⟨b750, g750⟩ : ∃ z, z = h741.size := ⟨_, rfl⟩
  rw [← g750] at A750 st750
  have ne_gr_b750 : gr ≠ b750 := Nat.ne_of_lt (Nat.lt_of_lt_of_le E_742.lt (Nat.le_of_eq g750.symm))
  have ne_b696_b750 : b696 ≠ b750 := Nat.ne_of_lt (Nat.lt_of_lt_of_le V_748.lt (Nat.le_of_eq g750.symm))
  have E_751 := E_742.ext E750
  have F_752 := F_743.ext E750
  have F_753 := F_749.ext E750
  have F_754 := F_745.ext E750
  have F_755 := F_746.ext E750
  have F_756 := F_747.ext E750
  have V_757 := V_748.ext E750
  have g_b750 : n0 ≤ b750 := Nat.le_trans Z741 (Nat.le_of_eq g750.symm)
  have sz_b750 : h0.size ≤ b750 := Nat.le_trans K741.1 (Nat.le_of_eq g750.symm)
  have Z750 : n0 ≤ h750.size := Nat.le_trans Z741 E750.1
  have K750 : Keep h0 h750 [gr] := K741.ext E750
  have V_b750 : Arv Z h750 b750 k750 .int (4 : Int32) [(.int (0 : Int32)), (.int (0 : Int32)), (.int (0 : Int32)), (.int (0 : Int32))] (.int (0 : Int32)) := (Arv.new A750 (by decide)).pad (pad_rep [] (.int (0 : Int32)) 4)
  have X750 := X750.more (cells' := 2) (slots' := 8) (by decide) (by decide)
  refine Gl.st (g' := (mkF m 213 #[vR gr, vR a, vR f4, .unset, .unset, .unset, .unset] [(.ref b750), (.ref gr)])) (fun τ κ => st750 _ κ) ?_
  refine Gl.st (g' := (mkF m 215 #[vR gr, vR a, vR f4, .unset, .unset, .unset, .unset] [(.int (0 : Int32)), (.ref b750), (.ref b750), (.ref gr)])) (fun τ κ => XS.dup X750.here hx rfl (hb hby d16_213) rfl rfl (XS.iconst X750.here hx rfl (hb hby d16_214) κ)) ?_
  refine Gl.st (g' := (mkF m 216 #[vR gr, vR a, vR f4, .unset, .unset, .unset, .unset] [(.int (0 : Int32)), (.int (0 : Int32)), (.ref b750), (.ref b750), (.ref gr)])) (fun τ κ => XS.iconst X750.here hx rfl (hb hby d16_215) κ) ?_
  obtain ⟨cl_o758, Ar_o758, q_o758, S_o758, M_o758, H_o758, G_o758⟩ := id V_b750
  have hin_o758 : ¬ ((0 : Int32) < 0 ∨ cl_o758.slots.size ≤ ((0 : Int32)).toNatClampNeg) := inb_of S_o758 ⟨by decide, by decide⟩
  obtain ⟨T759, h759, X759, e759, W759, st759⟩ := stI X750 hx hZ e750 Ar_o758 (j := (0 : Int32)) hin_o758 (g := (mkF m 216 #[vR gr, vR a, vR f4, .unset, .unset, .unset, .unset] [(.int (0 : Int32)), (.int (0 : Int32)), (.ref b750), (.ref b750), (.ref gr)])) rfl rfl (hb hby d16_216)
  have E_760 := E_751.wr W759
  have F_761 := F_752.other W759 (Or.inl ne_gr_b750)
  have F_762 := F_753.other W759 (Or.inl ne_gr_b750)
  have F_763 := F_754.other W759 (Or.inl ne_gr_b750)
  have F_764 := F_755.other W759 (Or.inl ne_gr_b750)
  have F_765 := F_756.other W759 (Or.inl ne_gr_b750)
  have V_766 := V_757.other W759 ne_b696_b750
  obtain ⟨Lw759, X759, N759⟩ := own_locG X759 (Fr.snoc X759 N741 g_b750)
  have Z759 : n0 ≤ h759.size := Nat.le_trans Z750 (Nat.le_of_eq W759.size.symm)
  have K759 : Keep h0 h759 [gr] := K750.wr W759 (Or.inr sz_b750)
  have V_b750_759 : Arv Z h759 b750 k750 .int (4 : Int32) [(.int (0 : Int32)), (.int (0 : Int32)), (.int (0 : Int32)), (.int (0 : Int32))] (.int (0 : Int32)) := Arv.set Ar_o758 q_o758 S_o758 M_o758 H_o758 G_o758 rfl W759 0 rfl (Nat.le_of_ble_eq_true rfl)
  refine Gl.st (g' := (mkF m 217 #[vR gr, vR a, vR f4, .unset, .unset, .unset, .unset] [(.ref b750), (.ref gr)])) (fun τ κ => st759 _ κ) ?_
  refine Gl.st (g' := (mkF m 219 #[vR gr, vR a, vR f4, .unset, .unset, .unset, .unset] [(.int (1 : Int32)), (.ref b750), (.ref b750), (.ref gr)])) (fun τ κ => XS.dup X759.here hx rfl (hb hby d16_217) rfl rfl (XS.iconst X759.here hx rfl (hb hby d16_218) κ)) ?_
  refine Gl.st (g' := (mkF m 220 #[vR gr, vR a, vR f4, .unset, .unset, .unset, .unset] [(.int (-1 : Int32)), (.int (1 : Int32)), (.ref b750), (.ref b750), (.ref gr)])) (fun τ κ => XS.iconst X759.here hx rfl (hb hby d16_219) κ) ?_
  obtain ⟨cl_o768, Ar_o768, q_o768, S_o768, M_o768, H_o768, G_o768⟩ := id V_b750_759
  have hin_o768 : ¬ ((1 : Int32) < 0 ∨ cl_o768.slots.size ≤ ((1 : Int32)).toNatClampNeg) := inb_of S_o768 ⟨by decide, by decide⟩
  obtain ⟨T769, h769, X769, e769, W769, st769⟩ := stI X759 hx hZ e759 Ar_o768 (j := (1 : Int32)) hin_o768 (g := (mkF m 220 #[vR gr, vR a, vR f4, .unset, .unset, .unset, .unset] [(.int (-1 : Int32)), (.int (1 : Int32)), (.ref b750), (.ref b750), (.ref gr)])) rfl rfl (hb hby d16_220)
  have E_770 := E_760.wr W769
  have F_771 := F_761.other W769 (Or.inl ne_gr_b750)
  have F_772 := F_762.other W769 (Or.inl ne_gr_b750)
  have F_773 := F_763.other W769 (Or.inl ne_gr_b750)
  have F_774 := F_764.other W769 (Or.inl ne_gr_b750)
  have F_775 := F_765.other W769 (Or.inl ne_gr_b750)
  have V_776 := V_766.other W769 ne_b696_b750
  obtain ⟨Lw769, X769, N769⟩ := own_locG X769 (Fr.snoc X769 N759 g_b750)
  have Z769 : n0 ≤ h769.size := Nat.le_trans Z759 (Nat.le_of_eq W769.size.symm)
  have K769 : Keep h0 h769 [gr] := K759.wr W769 (Or.inr sz_b750)
  have V_b750_769 : Arv Z h769 b750 k750 .int (4 : Int32) [(.int (0 : Int32)), (.int (-1 : Int32)), (.int (0 : Int32)), (.int (0 : Int32))] (.int (0 : Int32)) := Arv.set Ar_o768 q_o768 S_o768 M_o768 H_o768 G_o768 rfl W769 1 rfl (Nat.le_of_ble_eq_true rfl)
  refine Gl.st (g' := (mkF m 221 #[vR gr, vR a, vR f4, .unset, .unset, .unset, .unset] [(.ref b750), (.ref gr)])) (fun τ κ => st769 _ κ) ?_
  refine Gl.st (g' := (mkF m 223 #[vR gr, vR a, vR f4, .unset, .unset, .unset, .unset] [(.int (2 : Int32)), (.ref b750), (.ref b750), (.ref gr)])) (fun τ κ => XS.dup X769.here hx rfl (hb hby d16_221) rfl rfl (XS.iconst X769.here hx rfl (hb hby d16_222) κ)) ?_
  refine Gl.st (g' := (mkF m 224 #[vR gr, vR a, vR f4, .unset, .unset, .unset, .unset] [(.int (1 : Int32)), (.int (2 : Int32)), (.ref b750), (.ref b750), (.ref gr)])) (fun τ κ => XS.iconst X769.here hx rfl (hb hby d16_223) κ) ?_
  obtain ⟨cl_o778, Ar_o778, q_o778, S_o778, M_o778, H_o778, G_o778⟩ := id V_b750_769
  have hin_o778 : ¬ ((2 : Int32) < 0 ∨ cl_o778.slots.size ≤ ((2 : Int32)).toNatClampNeg) := inb_of S_o778 ⟨by decide, by decide⟩
  obtain ⟨T779, h779, X779, e779, W779, st779⟩ := stI X769 hx hZ e769 Ar_o778 (j := (2 : Int32)) hin_o778 (g := (mkF m 224 #[vR gr, vR a, vR f4, .unset, .unset, .unset, .unset] [(.int (1 : Int32)), (.int (2 : Int32)), (.ref b750), (.ref b750), (.ref gr)])) rfl rfl (hb hby d16_224)
  have E_780 := E_770.wr W779
  have F_781 := F_771.other W779 (Or.inl ne_gr_b750)
  have F_782 := F_772.other W779 (Or.inl ne_gr_b750)
  have F_783 := F_773.other W779 (Or.inl ne_gr_b750)
  have F_784 := F_774.other W779 (Or.inl ne_gr_b750)
  have F_785 := F_775.other W779 (Or.inl ne_gr_b750)
  have V_786 := V_776.other W779 ne_b696_b750
  obtain ⟨Lw779, X779, N779⟩ := own_locG X779 (Fr.snoc X779 N769 g_b750)
  have Z779 : n0 ≤ h779.size := Nat.le_trans Z769 (Nat.le_of_eq W779.size.symm)
  have K779 : Keep h0 h779 [gr] := K769.wr W779 (Or.inr sz_b750)
  have V_b750_779 : Arv Z h779 b750 k750 .int (4 : Int32) [(.int (0 : Int32)), (.int (-1 : Int32)), (.int (1 : Int32)), (.int (0 : Int32))] (.int (0 : Int32)) := Arv.set Ar_o778 q_o778 S_o778 M_o778 H_o778 G_o778 rfl W779 2 rfl (Nat.le_of_ble_eq_true rfl)
  refine Gl.st (g' := (mkF m 225 #[vR gr, vR a, vR f4, .unset, .unset, .unset, .unset] [(.ref b750), (.ref gr)])) (fun τ κ => st779 _ κ) ?_
  refine Gl.st (g' := (mkF m 227 #[vR gr, vR a, vR f4, .unset, .unset, .unset, .unset] [(.int (3 : Int32)), (.ref b750), (.ref b750), (.ref gr)])) (fun τ κ => XS.dup X779.here hx rfl (hb hby d16_225) rfl rfl (XS.iconst X779.here hx rfl (hb hby d16_226) κ)) ?_
  refine Gl.st (g' := (mkF m 228 #[vR gr, vR a, vR f4, .unset, .unset, .unset, .unset] [(.int (0 : Int32)), (.int (3 : Int32)), (.ref b750), (.ref b750), (.ref gr)])) (fun τ κ => XS.iconst X779.here hx rfl (hb hby d16_227) κ) ?_
  obtain ⟨cl_o788, Ar_o788, q_o788, S_o788, M_o788, H_o788, G_o788⟩ := id V_b750_779
  have hin_o788 : ¬ ((3 : Int32) < 0 ∨ cl_o788.slots.size ≤ ((3 : Int32)).toNatClampNeg) := inb_of S_o788 ⟨by decide, by decide⟩
  obtain ⟨T789, h789, X789, e789, W789, st789⟩ := stI X779 hx hZ e779 Ar_o788 (j := (3 : Int32)) hin_o788 (g := (mkF m 228 #[vR gr, vR a, vR f4, .unset, .unset, .unset, .unset] [(.int (0 : Int32)), (.int (3 : Int32)), (.ref b750), (.ref b750), (.ref gr)])) rfl rfl (hb hby d16_228)
  have E_790 := E_780.wr W789
  have F_791 := F_781.other W789 (Or.inl ne_gr_b750)
  have F_792 := F_782.other W789 (Or.inl ne_gr_b750)
  have F_793 := F_783.other W789 (Or.inl ne_gr_b750)
  have F_794 := F_784.other W789 (Or.inl ne_gr_b750)
  have F_795 := F_785.other W789 (Or.inl ne_gr_b750)
  have V_796 := V_786.other W789 ne_b696_b750
  obtain ⟨Lw789, X789, N789⟩ := own_locG X789 (Fr.snoc X789 N779 g_b750)
  have Z789 : n0 ≤ h789.size := Nat.le_trans Z779 (Nat.le_of_eq W789.size.symm)
  have K789 : Keep h0 h789 [gr] := K779.wr W789 (Or.inr sz_b750)
  have V_b750_789 : Arv Z h789 b750 k750 .int (4 : Int32) [(.int (0 : Int32)), (.int (-1 : Int32)), (.int (1 : Int32)), (.int (0 : Int32))] (.int (0 : Int32)) := Arv.set Ar_o788 q_o788 S_o788 M_o788 H_o788 G_o788 rfl W789 3 rfl (Nat.le_of_ble_eq_true rfl)
  refine Gl.st (g' := (mkF m 229 #[vR gr, vR a, vR f4, .unset, .unset, .unset, .unset] [(.ref b750), (.ref gr)])) (fun τ κ => st789 _ κ) ?_
  obtain ⟨T798, h798, X798, e798, W798, st798⟩ := putF X789 hx hZ hown (host := "") (Or.inl (w104_ hw)) Via.refl e789 F_793 E_790 (Or.inr ⟨(w105_ hw), rfl, hnm⟩) (w83_ hw) (ty := (.array .int)) (by decide) rfl rfl (g := (mkF m 229 #[vR gr, vR a, vR f4, .unset, .unset, .unset, .unset] [(.ref b750), (.ref gr)])) rfl rfl (hb hby d16_229)
  have E_799 := E_790.wr W798
  have F_800 := F_791.other W798 (Or.inr (slot_ne (Or.inr (w98_ hw)) (Or.inr (w105_ hw)) (by decide) (t := .int) (t' := (.array .int)) (by decide) (by decide)))
  have F_801 := F_792.other W798 (Or.inr (slot_ne (Or.inr (w103_ hw)) (Or.inr (w105_ hw)) (by decide) (t := (.array .int)) (t' := (.array .int)) (by decide) (by decide)))
  have F_803 := F_794.other W798 (Or.inr (slot_ne (Or.inr (w107_ hw)) (Or.inr (w105_ hw)) (by decide) (t := (.array .int)) (t' := (.array .int)) (by decide) (by decide)))
  have F_804 := F_795.other W798 (Or.inr (slot_ne (Or.inr (w114_ hw)) (Or.inr (w105_ hw)) (by decide) (t := (.array .boolean)) (t' := (.array .int)) (by decide) (by decide)))
  have V_805 := V_796.other W798 (Ne.symm ne_gr_b696)
  have V_806 := V_b750_789.other W798 (Ne.symm ne_gr_b750)
  obtain ⟨Lw798, X798, N798⟩ := own_locG X798 (Fr.snoc X798 N789 gg)
  have Z798 : n0 ≤ h798.size := Nat.le_trans Z789 (Nat.le_of_eq W798.size.symm)
  have K798 : Keep h0 h798 [gr] := K789.wr W798 (Or.inl (List.mem_of_getElem? (i := 0) rfl))
  have F_807 := F_793.same W798
  refine Gl.st (g' := (mkF m 232 #[vR gr, vR a, vR f4, .unset, .unset, .unset, .unset] [])) (fun τ κ => st798 _ κ) ?_
  refine Gl.st (g' := (mkF m 234 #[vR gr, vR a, vR f4, .unset, .unset, .unset, .unset] [(.int (4 : Int32)), (.ref gr)])) (fun τ κ => XS.aloadN X798.here hx rfl (hb hby d16_232) rfl rfl (XS.iconst X798.here hx rfl (hb hby d16_233) κ)) ?_
  obtain ⟨T808, h808, k808, X808, e808, E808, A808, st808⟩ := newP X798 hx hZ (hw _ (List.mem_of_getElem? (i := 101) rfl)) e798 (g := (mkF m 234 #[vR gr, vR a, vR f4, .unset, .unset, .unset, .unset] [(.int (4 : Int32)), (.ref gr)])) rfl (hb hby d16_234) rfl (by decide) (cap := 4) (by decide) (by decide) (by decide) (by decide)
  obtain ⟨b808, g808⟩ : ∃ z, z = h798.size := ⟨_, rfl⟩
  rw [← g808] at A808 st808
  have ne_gr_b808 : gr ≠ b808 := Nat.ne_of_lt (Nat.lt_of_lt_of_le E_799.lt (Nat.le_of_eq g808.symm))
  have ne_b696_b808 : b696 ≠ b808 := Nat.ne_of_lt (Nat.lt_of_lt_of_le V_805.lt (Nat.le_of_eq g808.symm))
  have ne_b750_b808 : b750 ≠ b808 := Nat.ne_of_lt (Nat.lt_of_lt_of_le V_806.lt (Nat.le_of_eq g808.symm))
  have E_809 := E_799.ext E808
  have F_810 := F_800.ext E808
  have F_811 := F_801.ext E808
  have F_812 := F_807.ext E808
  have F_813 := F_803.ext E808
  have F_814 := F_804.ext E808
  have V_815 := V_805.ext E808
  have V_816 := V_806.ext E808
  have g_b808 : n0 ≤ b808 := Nat.le_trans Z798 (Nat.le_of_eq g808.symm)
  have sz_b808 : h0.size ≤ b808 := Nat.le_trans K798.1 (Nat.le_of_eq g808.symm)
  have Z808 : n0 ≤ h808.size := Nat.le_trans Z798 E808.1
  have K808 : Keep h0 h808 [gr] := K798.ext E808
  have V_b808 : Arv Z h808 b808 k808 .int (4 : Int32) [(.int (0 : Int32)), (.int (0 : Int32)), (.int (0 : Int32)), (.int (0 : Int32))] (.int (0 : Int32)) := (Arv.new A808 (by decide)).pad (pad_rep [] (.int (0 : Int32)) 4)
  have X808 := X808.more (cells' := 3) (slots' := 12) (by decide) (by decide)
  refine Gl.st (g' := (mkF m 236 #[vR gr, vR a, vR f4, .unset, .unset, .unset, .unset] [(.ref b808), (.ref gr)])) (fun τ κ => st808 _ κ) ?_
  refine Gl.st (g' := (mkF m 238 #[vR gr, vR a, vR f4, .unset, .unset, .unset, .unset] [(.int (0 : Int32)), (.ref b808), (.ref b808), (.ref gr)])) (fun τ κ => XS.dup X808.here hx rfl (hb hby d16_236) rfl rfl (XS.iconst X808.here hx rfl (hb hby d16_237) κ)) ?_
  refine Gl.st (g' := (mkF m 239 #[vR gr, vR a, vR f4, .unset, .unset, .unset, .unset] [(.int (-1 : Int32)), (.int (0 : Int32)), (.ref b808), (.ref b808), (.ref gr)])) (fun τ κ => XS.iconst X808.here hx rfl (hb hby d16_238) κ) ?_
  obtain ⟨cl_o817, Ar_o817, q_o817, S_o817, M_o817, H_o817, G_o817⟩ := id V_b808
  have hin_o817 : ¬ ((0 : Int32) < 0 ∨ cl_o817.slots.size ≤ ((0 : Int32)).toNatClampNeg) := inb_of S_o817 ⟨by decide, by decide⟩
  obtain ⟨T818, h818, X818, e818, W818, st818⟩ := stI X808 hx hZ e808 Ar_o817 (j := (0 : Int32)) hin_o817 (g := (mkF m 239 #[vR gr, vR a, vR f4, .unset, .unset, .unset, .unset] [(.int (-1 : Int32)), (.int (0 : Int32)), (.ref b808), (.ref b808), (.ref gr)])) rfl rfl (hb hby d16_239)
  have E_819 := E_809.wr W818
  have F_820 := F_810.other W818 (Or.inl ne_gr_b808)
  have F_821 := F_811.other W818 (Or.inl ne_gr_b808)
  have F_822 := F_812.other W818 (Or.inl ne_gr_b808)
  have F_823 := F_813.other W818 (Or.inl ne_gr_b808)
  have F_824 := F_814.other W818 (Or.inl ne_gr_b808)
  have V_825 := V_815.other W818 ne_b696_b808
  have V_826 := V_816.other W818 ne_b750_b808
  obtain ⟨Lw818, X818, N818⟩ := own_locG X818 (Fr.snoc X818 N798 g_b808)
  have Z818 : n0 ≤ h818.size := Nat.le_trans Z808 (Nat.le_of_eq W818.size.symm)
  have K818 : Keep h0 h818 [gr] := K808.wr W818 (Or.inr sz_b808)
  have V_b808_818 : Arv Z h818 b808 k808 .int (4 : Int32) [(.int (-1 : Int32)), (.int (0 : Int32)), (.int (0 : Int32)), (.int (0 : Int32))] (.int (0 : Int32)) := Arv.set Ar_o817 q_o817 S_o817 M_o817 H_o817 G_o817 rfl W818 0 rfl (Nat.le_of_ble_eq_true rfl)
  refine Gl.st (g' := (mkF m 240 #[vR gr, vR a, vR f4, .unset, .unset, .unset, .unset] [(.ref b808), (.ref gr)])) (fun τ κ => st818 _ κ) ?_
  refine Gl.st (g' := (mkF m 242 #[vR gr, vR a, vR f4, .unset, .unset, .unset, .unset] [(.int (1 : Int32)), (.ref b808), (.ref b808), (.ref gr)])) (fun τ κ => XS.dup X818.here hx rfl (hb hby d16_240) rfl rfl (XS.iconst X818.here hx rfl (hb hby d16_241) κ)) ?_
  refine Gl.st (g' := (mkF m 243 #[vR gr, vR a, vR f4, .unset, .unset, .unset, .unset] [(.int (0 : Int32)), (.int (1 : Int32)), (.ref b808), (.ref b808), (.ref gr)])) (fun τ κ => XS.iconst X818.here hx rfl (hb hby d16_242) κ) ?_
  obtain ⟨cl_o828, Ar_o828, q_o828, S_o828, M_o828, H_o828, G_o828⟩ := id V_b808_818
  have hin_o828 : ¬ ((1 : Int32) < 0 ∨ cl_o828.slots.size ≤ ((1 : Int32)).toNatClampNeg) := inb_of S_o828 ⟨by decide, by decide⟩
  obtain ⟨T829, h829, X829, e829, W829, st829⟩ := stI X818 hx hZ e818 Ar_o828 (j := (1 : Int32)) hin_o828 (g := (mkF m 243 #[vR gr, vR a, vR f4, .unset, .unset, .unset, .unset] [(.int (0 : Int32)), (.int (1 : Int32)), (.ref b808), (.ref b808), (.ref gr)])) rfl rfl (hb hby d16_243)
  have E_830 := E_819.wr W829
  have F_831 := F_820.other W829 (Or.inl ne_gr_b808)
  have F_832 := F_821.other W829 (Or.inl ne_gr_b808)
  have F_833 := F_822.other W829 (Or.inl ne_gr_b808)
  have F_834 := F_823.other W829 (Or.inl ne_gr_b808)
  have F_835 := F_824.other W829 (Or.inl ne_gr_b808)
  have V_836 := V_825.other W829 ne_b696_b808
  have V_837 := V_826.other W829 ne_b750_b808
  obtain ⟨Lw829, X829, N829⟩ := own_locG X829 (Fr.snoc X829 N818 g_b808)
  have Z829 : n0 ≤ h829.size := Nat.le_trans Z818 (Nat.le_of_eq W829.size.symm)
  have K829 : Keep h0 h829 [gr] := K818.wr W829 (Or.inr sz_b808)
  have V_b808_829 : Arv Z h829 b808 k808 .int (4 : Int32) [(.int (-1 : Int32)), (.int (0 : Int32)), (.int (0 : Int32)), (.int (0 : Int32))] (.int (0 : Int32)) := Arv.set Ar_o828 q_o828 S_o828 M_o828 H_o828 G_o828 rfl W829 1 rfl (Nat.le_of_ble_eq_true rfl)
  refine Gl.st (g' := (mkF m 244 #[vR gr, vR a, vR f4, .unset, .unset, .unset, .unset] [(.ref b808), (.ref gr)])) (fun τ κ => st829 _ κ) ?_
  refine Gl.st (g' := (mkF m 246 #[vR gr, vR a, vR f4, .unset, .unset, .unset, .unset] [(.int (2 : Int32)), (.ref b808), (.ref b808), (.ref gr)])) (fun τ κ => XS.dup X829.here hx rfl (hb hby d16_244) rfl rfl (XS.iconst X829.here hx rfl (hb hby d16_245) κ)) ?_
  refine Gl.st (g' := (mkF m 247 #[vR gr, vR a, vR f4, .unset, .unset, .unset, .unset] [(.int (0 : Int32)), (.int (2 : Int32)), (.ref b808), (.ref b808), (.ref gr)])) (fun τ κ => XS.iconst X829.here hx rfl (hb hby d16_246) κ) ?_
  obtain ⟨cl_o839, Ar_o839, q_o839, S_o839, M_o839, H_o839, G_o839⟩ := id V_b808_829
  have hin_o839 : ¬ ((2 : Int32) < 0 ∨ cl_o839.slots.size ≤ ((2 : Int32)).toNatClampNeg) := inb_of S_o839 ⟨by decide, by decide⟩
  obtain ⟨T840, h840, X840, e840, W840, st840⟩ := stI X829 hx hZ e829 Ar_o839 (j := (2 : Int32)) hin_o839 (g := (mkF m 247 #[vR gr, vR a, vR f4, .unset, .unset, .unset, .unset] [(.int (0 : Int32)), (.int (2 : Int32)), (.ref b808), (.ref b808), (.ref gr)])) rfl rfl (hb hby d16_247)
  have E_841 := E_830.wr W840
  have F_842 := F_831.other W840 (Or.inl ne_gr_b808)
  have F_843 := F_832.other W840 (Or.inl ne_gr_b808)
  have F_844 := F_833.other W840 (Or.inl ne_gr_b808)
  have F_845 := F_834.other W840 (Or.inl ne_gr_b808)
  have F_846 := F_835.other W840 (Or.inl ne_gr_b808)
  have V_847 := V_836.other W840 ne_b696_b808
  have V_848 := V_837.other W840 ne_b750_b808
  obtain ⟨Lw840, X840, N840⟩ := own_locG X840 (Fr.snoc X840 N829 g_b808)
  have Z840 : n0 ≤ h840.size := Nat.le_trans Z829 (Nat.le_of_eq W840.size.symm)
  have K840 : Keep h0 h840 [gr] := K829.wr W840 (Or.inr sz_b808)
  have V_b808_840 : Arv Z h840 b808 k808 .int (4 : Int32) [(.int (-1 : Int32)), (.int (0 : Int32)), (.int (0 : Int32)), (.int (0 : Int32))] (.int (0 : Int32)) := Arv.set Ar_o839 q_o839 S_o839 M_o839 H_o839 G_o839 rfl W840 2 rfl (Nat.le_of_ble_eq_true rfl)
  refine Gl.st (g' := (mkF m 248 #[vR gr, vR a, vR f4, .unset, .unset, .unset, .unset] [(.ref b808), (.ref gr)])) (fun τ κ => st840 _ κ) ?_
  refine Gl.st (g' := (mkF m 250 #[vR gr, vR a, vR f4, .unset, .unset, .unset, .unset] [(.int (3 : Int32)), (.ref b808), (.ref b808), (.ref gr)])) (fun τ κ => XS.dup X840.here hx rfl (hb hby d16_248) rfl rfl (XS.iconst X840.here hx rfl (hb hby d16_249) κ)) ?_
  refine Gl.st (g' := (mkF m 251 #[vR gr, vR a, vR f4, .unset, .unset, .unset, .unset] [(.int (1 : Int32)), (.int (3 : Int32)), (.ref b808), (.ref b808), (.ref gr)])) (fun τ κ => XS.iconst X840.here hx rfl (hb hby d16_250) κ) ?_
  obtain ⟨cl_o850, Ar_o850, q_o850, S_o850, M_o850, H_o850, G_o850⟩ := id V_b808_840
  have hin_o850 : ¬ ((3 : Int32) < 0 ∨ cl_o850.slots.size ≤ ((3 : Int32)).toNatClampNeg) := inb_of S_o850 ⟨by decide, by decide⟩
  obtain ⟨T851, h851, X851, e851, W851, st851⟩ := stI X840 hx hZ e840 Ar_o850 (j := (3 : Int32)) hin_o850 (g := (mkF m 251 #[vR gr, vR a, vR f4, .unset, .unset, .unset, .unset] [(.int (1 : Int32)), (.int (3 : Int32)), (.ref b808), (.ref b808), (.ref gr)])) rfl rfl (hb hby d16_251)
  have E_852 := E_841.wr W851
  have F_853 := F_842.other W851 (Or.inl ne_gr_b808)
  have F_854 := F_843.other W851 (Or.inl ne_gr_b808)
  have F_855 := F_844.other W851 (Or.inl ne_gr_b808)
  have F_856 := F_845.other W851 (Or.inl ne_gr_b808)
  have F_857 := F_846.other W851 (Or.inl ne_gr_b808)
  have V_858 := V_847.other W851 ne_b696_b808
  have V_859 := V_848.other W851 ne_b750_b808
  obtain ⟨Lw851, X851, N851⟩ := own_locG X851 (Fr.snoc X851 N840 g_b808)
  have Z851 : n0 ≤ h851.size := Nat.le_trans Z840 (Nat.le_of_eq W851.size.symm)
  have K851 : Keep h0 h851 [gr] := K840.wr W851 (Or.inr sz_b808)
  have V_b808_851 : Arv Z h851 b808 k808 .int (4 : Int32) [(.int (-1 : Int32)), (.int (0 : Int32)), (.int (0 : Int32)), (.int (1 : Int32))] (.int (0 : Int32)) := Arv.set Ar_o850 q_o850 S_o850 M_o850 H_o850 G_o850 rfl W851 3 rfl (Nat.le_of_ble_eq_true rfl)
  refine Gl.st (g' := (mkF m 252 #[vR gr, vR a, vR f4, .unset, .unset, .unset, .unset] [(.ref b808), (.ref gr)])) (fun τ κ => st851 _ κ) ?_
  obtain ⟨T861, h861, X861, e861, W861, st861⟩ := putF X851 hx hZ hown (host := "") (Or.inl (w106_ hw)) Via.refl e851 F_856 E_852 (Or.inr ⟨(w107_ hw), rfl, hnm⟩) (w83_ hw) (ty := (.array .int)) (by decide) rfl rfl (g := (mkF m 252 #[vR gr, vR a, vR f4, .unset, .unset, .unset, .unset] [(.ref b808), (.ref gr)])) rfl rfl (hb hby d16_252)
  have E_862 := E_852.wr W861
  have F_863 := F_853.other W861 (Or.inr (slot_ne (Or.inr (w98_ hw)) (Or.inr (w107_ hw)) (by decide) (t := .int) (t' := (.array .int)) (by decide) (by decide)))
  have F_864 := F_854.other W861 (Or.inr (slot_ne (Or.inr (w103_ hw)) (Or.inr (w107_ hw)) (by decide) (t := (.array .int)) (t' := (.array .int)) (by decide) (by decide)))
  have F_865 := F_855.other W861 (Or.inr (slot_ne (Or.inr (w105_ hw)) (Or.inr (w107_ hw)) (by decide) (t := (.array .int)) (t' := (.array .int)) (by decide) (by decide)))
  have F_867 := F_857.other W861 (Or.inr (slot_ne (Or.inr (w114_ hw)) (Or.inr (w107_ hw)) (by decide) (t := (.array .boolean)) (t' := (.array .int)) (by decide) (by decide)))
  have V_868 := V_858.other W861 (Ne.symm ne_gr_b696)
  have V_869 := V_859.other W861 (Ne.symm ne_gr_b750)
  have V_870 := V_b808_851.other W861 (Ne.symm ne_gr_b808)
  obtain ⟨Lw861, X861, N861⟩ := own_locG X861 (Fr.snoc X861 N851 gg)
  have Z861 : n0 ≤ h861.size := Nat.le_trans Z851 (Nat.le_of_eq W861.size.symm)
  have K861 : Keep h0 h861 [gr] := K851.wr W861 (Or.inl (List.mem_of_getElem? (i := 0) rfl))
  have F_871 := F_856.same W861
  refine Gl.st (g' := (mkF m 255 #[vR gr, vR a, vR f4, .unset, .unset, .unset, .unset] [])) (fun τ κ => st861 _ κ) ?_
  have Ks872 := K861
  have V_u873 := VB.keep Ks872 (ninS (Ne.symm n_lb) nin0)
  have E_u874 := EL.keep Ks872
  have F_u875 := FC.keep Ks872 (ninS (Ne.symm n_la) nin0)
  have F_u876 := FV.keep Ks872 (ninS (Ne.symm n_la) nin0)
  have S_u877 := Sta.keepX S0 Ks872 (allS (P := fun x => ∃ c : Cell, h0[x]? = some c ∧ ∀ q, c.vm ≠ .statics q) Eg.cell all0)
  have E_u878 := Em.keep Ks872
  have F_u879 := F0.keep Ks872 (ninS (Ne.symm n_a) nin0)
  have F_u880 := F1.keep Ks872 (ninS (Ne.symm n_a) nin0)
  have F_u881 := F2.keep Ks872 (ninS (Ne.symm n_a) nin0)
  have V_u882 := Vt.keep Ks872 (ninS (Ne.symm n_tb) nin0)
  refine Gl.st (g' := (mkF m 256 #[vR gr, vR a, vR f4, .unset, .unset, .unset, .unset] [(.ref gr)])) (fun τ κ => XS.aloadN X861.here hx rfl (hb hby d16_255) rfl rfl κ) ?_
  obtain ⟨T883, X883, e883, st883⟩ := getF X861 hx hZ hown (host := "") (Or.inl (w97_ hw)) Via.refl e861 F_863 (g := (mkF m 256 #[vR gr, vR a, vR f4, .unset, .unset, .unset, .unset] [(.ref gr)])) rfl rfl (hb hby d16_256)
  refine Gl.st (g' := (mkF m 259 #[vR gr, vR a, vR f4, .unset, .unset, .unset, .unset] [(.int (5 : Int32))])) (fun τ κ => st883 _ κ) ?_
  refine Gl.st (g' := (mkF m 260 #[vR gr, vR a, vR f4, .unset, .unset, .unset, .unset] [(.ref a), (.int (5 : Int32))])) (fun τ κ => XS.aloadN X883.here hx rfl (hb hby d16_259) rfl rfl κ) ?_
  obtain ⟨cq884, kq884, q884a, q884b, q884c⟩ := isOf hZ e883 E_u878
  obtain ⟨rv884, _, ⟨T884, L884, k884, n884⟩, -, X884, ⟨Lc884, hQ884, l884, y884, z884⟩, st884⟩ := X883.virtualBack hx (y := (⟨"com/example/wanderpath/wanderpath/TileMap", "height", "()I"⟩ : MethodName)) (z := (⟨"com/example/wanderpath/wanderpath/TileMap", "height", "()I"⟩ : MethodName)) hown (mvT hZ (w108_ hw)) (mvT hZ (w109_ hw)) (notFace_of_selects (args := #[]) (mvT hZ (w111_ hw))) (mvT hZ (w111_ hw)) (mvT hZ (w110_ hw)) (by decide) (backOf (W := 1) (rm18 l Z a0 hw [] a h861 n0 Z861 E_u878 F_u879 F_u880) hZ (w112_ hw) (w12_ hw) (by decide) (by decide)) q884a q884c (g := (mkF m 260 #[vR gr, vR a, vR f4, .unset, .unset, .unset, .unset] [(.ref a), (.int (5 : Int32))])) rfl (by rw [hml]; rfl) (Steps.refl _) (argsL := []) (rest := [(.int (5 : Int32))]) (lenOf pd_5 rfl) rfl (by show 2 * 0 + _ ≤ _; exact Nat.le_of_eq rfl) (hb hby d16_260) (fun _ _ => ⟨rfl, e883, Nat.le_of_ble_eq_true rfl, Nat.le_of_ble_eq_true rfl⟩)
  dsimp only [Pt.U, Pt.locs, Pt.cells, Pt.slots] at X884 l884 y884 z884 st884 hQ884
  subst l884 y884 z884
  have X884 := X884.more (cells' := 3) (slots' := 12) (by decide) (by decide)
  obtain ⟨hq884, N884q, e884⟩ := hQ884
  have hq884 : rv884 = some (.int (3 : Int32)) := hq884
  subst hq884
  have N884 := Fr.app N861 N884q
  obtain ⟨Lw884, X884, N884⟩ := own_locG X884 N884
  refine Gl.st (g' := (mkF m 263 #[vR gr, vR a, vR f4, .unset, .unset, .unset, .unset] [(.int (3 : Int32)), (.int (5 : Int32))])) (fun τ κ => st884.trans κ) ?_
  refine Gl.st (g' := (mkF m 265 #[vR gr, vR a, vR f4, .unset, .unset, .unset, .unset] [(.int (5 : Int32)), (.int (5 : Int32))])) (fun τ κ => XS.iconst X884.here hx rfl (hb hby d16_263) (XS.iadd X884.here hx rfl (hb hby d16_264) rfl κ)) ?_
  refine Gl.st (g' := (mkF m 267 #[vR gr, vR a, vR f4, vI (25 : Int32), .unset, .unset, .unset] [])) (fun τ κ => XS.imul X884.here hx rfl (hb hby d16_265) rfl (XS.istoreN X884.here hx rfl (hb hby d16_266) rfl (l' := #[vR gr, vR a, vR f4, vI (25 : Int32), .unset, .unset, .unset]) rfl κ)) ?_
  refine Gl.st (g' := (mkF m 269 #[vR gr, vR a, vR f4, vI (25 : Int32), .unset, .unset, .unset] [(.int (25 : Int32)), (.ref gr)])) (fun τ κ => XS.aloadN X884.here hx rfl (hb hby d16_267) rfl rfl (XS.iloadN X884.here hx rfl (hb hby d16_268) rfl κ)) ?_
  obtain ⟨T885, h885, k885, X885, e885, E885, A885, st885⟩ := newP X884 hx hZ (hw _ (List.mem_of_getElem? (i := 8) rfl)) e884 (g := (mkF m 269 #[vR gr, vR a, vR f4, vI (25 : Int32), .unset, .unset, .unset] [(.int (25 : Int32)), (.ref gr)])) rfl (hb hby d16_269) rfl (by decide) (cap := 25) (by decide) (by decide) (by decide) (by decide)
  obtain ⟨b885, g885⟩ : ∃ z, z = h861.size := ⟨_, rfl⟩
  rw [← g885] at A885 st885
  have ne_gr_b885 : gr ≠ b885 := Nat.ne_of_lt (Nat.lt_of_lt_of_le E_862.lt (Nat.le_of_eq g885.symm))
  have ne_b696_b885 : b696 ≠ b885 := Nat.ne_of_lt (Nat.lt_of_lt_of_le V_868.lt (Nat.le_of_eq g885.symm))
  have ne_b750_b885 : b750 ≠ b885 := Nat.ne_of_lt (Nat.lt_of_lt_of_le V_869.lt (Nat.le_of_eq g885.symm))
  have ne_b808_b885 : b808 ≠ b885 := Nat.ne_of_lt (Nat.lt_of_lt_of_le V_870.lt (Nat.le_of_eq g885.symm))
  have ne_lb_b885 : lb ≠ b885 := Nat.ne_of_lt (Nat.lt_of_lt_of_le V_u873.lt (Nat.le_of_eq g885.symm))
  have ne_la_b885 : la ≠ b885 := Nat.ne_of_lt (Nat.lt_of_lt_of_le E_u874.lt (Nat.le_of_eq g885.symm))
  have ne_a_b885 : a ≠ b885 := Nat.ne_of_lt (Nat.lt_of_lt_of_le E_u878.lt (Nat.le_of_eq g885.symm))
  have ne_tb_b885 : tb ≠ b885 := Nat.ne_of_lt (Nat.lt_of_lt_of_le V_u882.lt (Nat.le_of_eq g885.symm))
  have E_886 := E_862.ext E885
  have F_887 := F_863.ext E885
  have F_888 := F_864.ext E885
  have F_889 := F_865.ext E885
  have F_890 := F_871.ext E885
  have F_891 := F_867.ext E885
  have V_892 := V_868.ext E885
  have V_893 := V_869.ext E885
  have V_894 := V_870.ext E885
  have V_895 := V_u873.ext E885
  have E_896 := E_u874.ext E885
  have F_897 := F_u875.ext E885
  have F_898 := F_u876.ext E885
  have S_899 := S_u877.ext E885
  have E_900 := E_u878.ext E885
  have F_901 := F_u879.ext E885
  have F_902 := F_u880.ext E885
  have F_903 := F_u881.ext E885
  have V_904 := V_u882.ext E885
  have g_b885 : n0 ≤ b885 := Nat.le_trans Z861 (Nat.le_of_eq g885.symm)
  have sz_b885 : h0.size ≤ b885 := Nat.le_trans K861.1 (Nat.le_of_eq g885.symm)
  have Z885 : n0 ≤ h885.size := Nat.le_trans Z861 E885.1
  have K885 : Keep h0 h885 [gr] := K861.ext E885
  have V_b885 : Arv Z h885 b885 k885 .boolean (25 : Int32) [] (.int (0 : Int32)) := Arv.new A885 (by decide)
  have X885 := X885.more (cells' := 4) (slots' := 37) (by decide) (by decide)
  refine Gl.st (g' := (mkF m 271 #[vR gr, vR a, vR f4, vI (25 : Int32), .unset, .unset, .unset] [(.ref b885), (.ref gr)])) (fun τ κ => st885 _ κ) ?_
  obtain ⟨T905, h905, X905, e905, W905, st905⟩ := putF X885 hx hZ hown (host := "") (Or.inl (w113_ hw)) Via.refl e885 F_891 E_886 (Or.inr ⟨(w114_ hw), rfl, hnm⟩) (w83_ hw) (ty := (.array .boolean)) (by decide) rfl rfl (g := (mkF m 271 #[vR gr, vR a, vR f4, vI (25 : Int32), .unset, .unset, .unset] [(.ref b885), (.ref gr)])) rfl rfl (hb hby d16_271)
  have E_906 := E_886.wr W905
  have F_907 := F_887.other W905 (Or.inr (slot_ne (Or.inr (w98_ hw)) (Or.inr (w114_ hw)) (by decide) (t := .int) (t' := (.array .boolean)) (by decide) (by decide)))
  have F_908 := F_888.other W905 (Or.inr (slot_ne (Or.inr (w103_ hw)) (Or.inr (w114_ hw)) (by decide) (t := (.array .int)) (t' := (.array .boolean)) (by decide) (by decide)))
  have F_909 := F_889.other W905 (Or.inr (slot_ne (Or.inr (w105_ hw)) (Or.inr (w114_ hw)) (by decide) (t := (.array .int)) (t' := (.array .boolean)) (by decide) (by decide)))
  have F_910 := F_890.other W905 (Or.inr (slot_ne (Or.inr (w107_ hw)) (Or.inr (w114_ hw)) (by decide) (t := (.array .int)) (t' := (.array .boolean)) (by decide) (by decide)))
  have V_912 := V_892.other W905 (Ne.symm ne_gr_b696)
  have V_913 := V_893.other W905 (Ne.symm ne_gr_b750)
  have V_914 := V_894.other W905 (Ne.symm ne_gr_b808)
  have V_915 := V_895.other W905 (Ne.symm n_lb)
  have E_916 := E_896.wr W905
  have F_917 := F_897.other W905 (Or.inl (Ne.symm n_la))
  have F_918 := F_898.other W905 (Or.inl (Ne.symm n_la))
  have S_919 := S_899.wr W905
  have E_920 := E_900.wr W905
  have F_921 := F_901.other W905 (Or.inl (Ne.symm n_a))
  have F_922 := F_902.other W905 (Or.inl (Ne.symm n_a))
  have F_923 := F_903.other W905 (Or.inl (Ne.symm n_a))
  have V_924 := V_904.other W905 (Ne.symm n_tb)
  have V_925 := V_b885.other W905 (Ne.symm ne_gr_b885)
  obtain ⟨Lw905, X905, N905⟩ := own_locG X905 (Fr.snoc X905 N884 gg)
  have Z905 : n0 ≤ h905.size := Nat.le_trans Z885 (Nat.le_of_eq W905.size.symm)
  have K905 : Keep h0 h905 [gr] := K885.wr W905 (Or.inl (List.mem_of_getElem? (i := 0) rfl))
  have F_926 := F_891.same W905
  refine Gl.st (g' := (mkF m 274 #[vR gr, vR a, vR f4, vI (25 : Int32), .unset, .unset, .unset] [])) (fun τ κ => st905 _ κ) ?_
  refine Gl.st (g' := (mkF m 277 #[vR gr, vR a, vR f4, vI (25 : Int32), vI (0 : Int32), .unset, .unset] [])) (fun τ κ => XS.iconst X905.here hx rfl (hb hby d16_274) (XS.istore X905.here hx rfl (hb hby d16_275) rfl (l' := #[vR gr, vR a, vR f4, vI (25 : Int32), vI (0 : Int32), .unset, .unset]) rfl κ)) ?_
  refine own_g0 (hs := h905) hx hZ hw hby hml hown hcs HT hL0 g_b885 ne_gr_b885 ne_a_b885 ne_tb_b885 ne_la_b885 ne_lb_b885 ?_ (0 : Int32) _ _ _ _ (by decide) (by decide) (X905.more (by decide) (by decide)) e905 N905 Z905 (Keep.refl _ _) S_919 E_916 F_917 F_918 V_915 E_920 F_921 F_922 F_923 V_924 E_906 F_907 F_926 V_925 (own_inv0 _ _)
  intro T' h' locs' vs' j p5 p6 X' e' N' Kc927 V' I'
  have E_928 := E_906.keep Kc927
  have F_929 := F_907.keep Kc927 (ninS ne_gr_b885 nin0)
  have F_930 := F_908.keep Kc927 (ninS ne_gr_b885 nin0)
  have F_931 := F_909.keep Kc927 (ninS ne_gr_b885 nin0)
  have F_932 := F_910.keep Kc927 (ninS ne_gr_b885 nin0)
  have F_933 := F_926.keep Kc927 (ninS ne_gr_b885 nin0)
  have V_934 := V_912.keep Kc927 (ninS ne_b696_b885 nin0)
  have V_935 := V_913.keep Kc927 (ninS ne_b750_b885 nin0)
  have V_936 := V_914.keep Kc927 (ninS ne_b808_b885 nin0)
  have V_937 := V_915.keep Kc927 (ninS ne_lb_b885 nin0)
  have E_938 := E_916.keep Kc927
  have F_939 := F_917.keep Kc927 (ninS ne_la_b885 nin0)
  have F_940 := F_918.keep Kc927 (ninS ne_la_b885 nin0)
  have S_941 := Sta.keepX S_919 Kc927 (allS (P := fun x => ∃ c : Cell, h905[x]? = some c ∧ ∀ q, c.vm ≠ .statics q) (Arv.cellX V_925) all0)
  have E_942 := E_920.keep Kc927
  have F_943 := F_921.keep Kc927 (ninS ne_a_b885 nin0)
  have F_944 := F_922.keep Kc927 (ninS ne_a_b885 nin0)
  have F_945 := F_923.keep Kc927 (ninS ne_a_b885 nin0)
  have V_946 := V_924.keep Kc927 (ninS ne_tb_b885 nin0)
  have K' : Keep h0 h' [gr] := K905.trans Kc927 (allS (Or.inr sz_b885) all0)
  have Z' : n0 ≤ h'.size := Nat.le_trans Z905 Kc927.1
  exact Gl.ret (v := none) X' Bd.notSynchronized (fun _ => rfl) e' (fun fs hr => X'.returnOut hx Bd.returns (hb hby d16_345) hr) (by decide) (by decide) ⟨rfl, N', K', b696, b750, b885, k696, k750, k885, _, E_928, F_930, F_931, F_933, V_934, V_935, V', I'⟩
def own_dx (i : Int32) : Int32 := if i = (1 : Int32) then (-1 : Int32) else if i = (4 : Int32) then (-1 : Int32) else if i = (6 : Int32) then (-1 : Int32) else if i = (2 : Int32) then (1 : Int32) else if i = (5 : Int32) then (1 : Int32) else if i = (7 : Int32) then (1 : Int32) else (0 : Int32)
def own_dy (i : Int32) : Int32 := if i = (0 : Int32) then (-1 : Int32) else if i = (4 : Int32) then (-1 : Int32) else if i = (5 : Int32) then (-1 : Int32) else if i = (3 : Int32) then (1 : Int32) else if i = (6 : Int32) then (1 : Int32) else if i = (7 : Int32) then (1 : Int32) else (0 : Int32)
def own_st (i : Int32) : Int32 := if i = (0 : Int32) then (-5 : Int32) else if i = (1 : Int32) then (-1 : Int32) else if i = (2 : Int32) then (1 : Int32) else if i = (3 : Int32) then (5 : Int32) else if i = (4 : Int32) then (-6 : Int32) else if i = (5 : Int32) then (-4 : Int32) else if i = (6 : Int32) then (4 : Int32) else if i = (7 : Int32) then (6 : Int32) else (0 : Int32)
def own_rp (i : Int32) : Int32 := if i = (0 : Int32) then (0 : Int32) else if i = (1 : Int32) then (-1 : Int32) else if i = (2 : Int32) then (1 : Int32) else if i = (3 : Int32) then (0 : Int32) else if i = (4 : Int32) then (-1 : Int32) else if i = (5 : Int32) then (1 : Int32) else if i = (6 : Int32) then (-1 : Int32) else if i = (7 : Int32) then (1 : Int32) else (0 : Int32)
def own_pass (tv a b : Int32) : Int32 := if a < 0 then 0 else if (2 : Int32) < a then 0 else if b < 0 then 0 else if (2 : Int32) < b then 0 else own_bit tv ((b * (3 : Int32)) + a)
def own_cs (bv tv q i : Int32) : Int32 := if own_bit bv (q + own_st i) = 0 then (if i < 4 then 1 else if own_blk tv (q + own_rp i) = 0 then (if own_blk tv ((q + own_st i) - own_rp i) = 0 then 1 else 0) else 0) else 0
theorem own_t9 (f : Int32 → Value) (d : Value) : ∀ i, ¬ i < 0 → i < (9 : Int32) → [f (0 : Int32), f (1 : Int32), f (2 : Int32), f (3 : Int32), f (4 : Int32), f (5 : Int32), f (6 : Int32), f (7 : Int32), f (8 : Int32)].getD i.toNatClampNeg d = f i := by
  intro i h0 h1
  rcases own_r9 h0 h1 with rfl | rfl | rfl | rfl | rfl | rfl | rfl | rfl | rfl <;> rfl
theorem own_t25 (f : Int32 → Value) (d : Value) : ∀ i, ¬ i < 0 → i < (25 : Int32) → [f (0 : Int32), f (1 : Int32), f (2 : Int32), f (3 : Int32), f (4 : Int32), f (5 : Int32), f (6 : Int32), f (7 : Int32), f (8 : Int32), f (9 : Int32), f (10 : Int32), f (11 : Int32), f (12 : Int32), f (13 : Int32), f (14 : Int32), f (15 : Int32), f (16 : Int32), f (17 : Int32), f (18 : Int32), f (19 : Int32), f (20 : Int32), f (21 : Int32), f (22 : Int32), f (23 : Int32), f (24 : Int32)].getD i.toNatClampNeg d = f i := by
  intro i h0 h1
  rcases own_r25 h0 h1 with rfl | rfl | rfl | rfl | rfl | rfl | rfl | rfl | rfl | rfl | rfl | rfl | rfl | rfl | rfl | rfl | rfl | rfl | rfl | rfl | rfl | rfl | rfl | rfl | rfl <;> rfl
theorem own_s8 {i : Int32} (h : i = 0 ∨ i = 1 ∨ i = 2 ∨ i = 3 ∨ i = 4 ∨ i = 5 ∨ i = 6 ∨ i = 7) : ([(.int (-5 : Int32)), (.int (-1 : Int32)), (.int (1 : Int32)), (.int (5 : Int32)), (.int (-6 : Int32)), (.int (-4 : Int32)), (.int (4 : Int32)), (.int (6 : Int32))] : List Value).getD i.toNatClampNeg (.int (0 : Int32)) = .int (own_st i) := by
  rcases h with rfl | rfl | rfl | rfl | rfl | rfl | rfl | rfl <;> rfl
theorem own_s4 {i : Int32} (h : i = 0 ∨ i = 1 ∨ i = 2 ∨ i = 3) : ([(.int (-5 : Int32)), (.int (-1 : Int32)), (.int (1 : Int32)), (.int (5 : Int32))] : List Value).getD i.toNatClampNeg (.int (0 : Int32)) = .int (own_st i) := by
  rcases h with rfl | rfl | rfl | rfl <;> rfl
theorem own_p8 {i : Int32} (h : i = 0 ∨ i = 1 ∨ i = 2 ∨ i = 3 ∨ i = 4 ∨ i = 5 ∨ i = 6 ∨ i = 7) : ([(.int (0 : Int32)), (.int (-1 : Int32)), (.int (1 : Int32)), (.int (0 : Int32)), (.int (-1 : Int32)), (.int (1 : Int32)), (.int (-1 : Int32)), (.int (1 : Int32))] : List Value).getD i.toNatClampNeg (.int (0 : Int32)) = .int (own_rp i) := by
  rcases h with rfl | rfl | rfl | rfl | rfl | rfl | rfl | rfl <;> rfl
theorem own_tabA : ∀ x ∈ [(0 : Int32), 1, 2], ∀ y ∈ [(0 : Int32), 1, 2], ∀ i ∈ [(0 : Int32), 1, 2, 3, 4, 5, 6, 7], (¬ (((((y + 1) * 5) + x) + 1) + own_st i) < 0 ∧ (((((y + 1) * 5) + x) + 1) + own_st i) < 25) ∧ (¬ (((((y + 1) * 5) + x) + 1) + own_rp i) < 0 ∧ (((((y + 1) * 5) + x) + 1) + own_rp i) < 25) ∧ (¬ ((((((y + 1) * 5) + x) + 1) + own_st i) - own_rp i) < 0 ∧ ((((((y + 1) * 5) + x) + 1) + own_st i) - own_rp i) < 25) ∧ (¬ (((((y + own_dy i) + 1) * 5) + (x + own_dx i)) + 1) < 0 ∧ (((((y + own_dy i) + 1) * 5) + (x + own_dx i)) + 1) < 25) ∧ (((((y + own_dy i) + 1) * 5) + (x + own_dx i)) + 1) = (((((y + 1) * 5) + x) + 1) + own_st i) ∧ (((((((y + 1) * 5) + x) + 1) + own_rp i) % 5) - 1) = (x + own_dx i) ∧ (((((((y + 1) * 5) + x) + 1) + own_rp i) / 5) - 1) = y ∧ ((((((((y + 1) * 5) + x) + 1) + own_st i) - own_rp i) % 5) - 1) = x ∧ ((((((((y + 1) * 5) + x) + 1) + own_st i) - own_rp i) / 5) - 1) = (y + own_dy i) := by decide +kernel
theorem own_tab {x y i c : Int32} (hx : x = 0 ∨ x = 1 ∨ x = 2) (hy : y = 0 ∨ y = 1 ∨ y = 2) (hi : i = 0 ∨ i = 1 ∨ i = 2 ∨ i = 3 ∨ i = 4 ∨ i = 5 ∨ i = 6 ∨ i = 7) (hc : ((((y + 1) * 5) + x) + 1) = c) : (¬ (c + own_st i) < 0 ∧ (c + own_st i) < 25) ∧ (¬ (c + own_rp i) < 0 ∧ (c + own_rp i) < 25) ∧ (¬ ((c + own_st i) - own_rp i) < 0 ∧ ((c + own_st i) - own_rp i) < 25) ∧ (¬ (((((y + own_dy i) + 1) * 5) + (x + own_dx i)) + 1) < 0 ∧ (((((y + own_dy i) + 1) * 5) + (x + own_dx i)) + 1) < 25) ∧ (((((y + own_dy i) + 1) * 5) + (x + own_dx i)) + 1) = (c + own_st i) ∧ (((c + own_rp i) % 5) - 1) = (x + own_dx i) ∧ (((c + own_rp i) / 5) - 1) = y ∧ ((((c + own_st i) - own_rp i) % 5) - 1) = x ∧ ((((c + own_st i) - own_rp i) / 5) - 1) = (y + own_dy i) := by
  subst hc
  exact own_tabA x (by rcases hx with rfl | rfl | rfl <;> simp) y (by rcases hy with rfl | rfl | rfl <;> simp) i (by rcases hi with rfl | rfl | rfl | rfl | rfl | rfl | rfl | rfl <;> simp)
theorem own_i8 {i : Int32} (h : i = 0 ∨ i = 1 ∨ i = 2 ∨ i = 3 ∨ i = 4 ∨ i = 5 ∨ i = 6 ∨ i = 7) : ¬ i < 0 ∧ i < 8 := by rcases h with rfl | rfl | rfl | rfl | rfl | rfl | rfl | rfl <;> decide
theorem own_i4 {i : Int32} (h : i = 0 ∨ i = 1 ∨ i = 2 ∨ i = 3) : ¬ i < 0 ∧ i < 4 := by rcases h with rfl | rfl | rfl | rfl <;> decide
theorem own_i48 {i : Int32} (h : i = 0 ∨ i = 1 ∨ i = 2 ∨ i = 3) : i = 0 ∨ i = 1 ∨ i = 2 ∨ i = 3 ∨ i = 4 ∨ i = 5 ∨ i = 6 ∨ i = 7 := by rcases h with h | h | h | h <;> simp [h]
theorem own_m7 (x : Int32) : (x &&& (7 : Int32)) = 0 ∨ (x &&& (7 : Int32)) = 1 ∨ (x &&& (7 : Int32)) = 2 ∨ (x &&& (7 : Int32)) = 3 ∨ (x &&& (7 : Int32)) = 4 ∨ (x &&& (7 : Int32)) = 5 ∨ (x &&& (7 : Int32)) = 6 ∨ (x &&& (7 : Int32)) = 7 := by
  have h := c_mask x 7 3 (by decide) (by decide)
  simp only [← Int32.toInt_inj, show (0 : Int32).toInt = 0 from rfl, show (1 : Int32).toInt = 1 from rfl, show (2 : Int32).toInt = 2 from rfl, show (3 : Int32).toInt = 3 from rfl, show (4 : Int32).toInt = 4 from rfl, show (5 : Int32).toInt = 5 from rfl, show (6 : Int32).toInt = 6 from rfl, show (7 : Int32).toInt = 7 from rfl]
  omega
theorem own_m3 (x : Int32) : (x &&& (3 : Int32)) = 0 ∨ (x &&& (3 : Int32)) = 1 ∨ (x &&& (3 : Int32)) = 2 ∨ (x &&& (3 : Int32)) = 3 := by
  have h := c_mask x 3 2 (by decide) (by decide)
  simp only [← Int32.toInt_inj, show (0 : Int32).toInt = 0 from rfl, show (1 : Int32).toInt = 1 from rfl, show (2 : Int32).toInt = 2 from rfl, show (3 : Int32).toInt = 3 from rfl]
  omega
theorem own_pos (x : Int32) : ¬ ((x &&& (2147483647 : Int32)) % (9 : Int32)) < 0 ∧ ((x &&& (2147483647 : Int32)) % (9 : Int32)) < 9 := by
  have m := c_mask x 2147483647 31 (by decide) (by decide)
  have n9 : (9 : Int32).toInt = 9 := rfl
  have q := (c_iremV (x &&& 2147483647) 9).1 (by rw [m]; omega) (by omega)
  rw [Int32.lt_iff_toInt_lt, Int32.lt_iff_toInt_lt, show (0 : Int32).toInt = 0 from rfl]
  omega
theorem own_x3 {q : Int32} (h : ¬ q < 0 ∧ q < 9) : (q % (3 : Int32)) = 0 ∨ (q % (3 : Int32)) = 1 ∨ (q % (3 : Int32)) = 2 := by
  rcases own_r9 h.1 h.2 with rfl | rfl | rfl | rfl | rfl | rfl | rfl | rfl | rfl <;> decide +kernel
theorem own_y3 {q : Int32} (h : ¬ q < 0 ∧ q < 9) : (q / (3 : Int32)) = 0 ∨ (q / (3 : Int32)) = 1 ∨ (q / (3 : Int32)) = 2 := by
  rcases own_r9 h.1 h.2 with rfl | rfl | rfl | rfl | rfl | rfl | rfl | rfl | rfl <;> decide +kernel
theorem own_2lt (a : Int32) : ((2 : Int32) < a) = ¬ (a < 3) := by
  rw [Int32.lt_iff_toInt_lt, Int32.lt_iff_toInt_lt, show (2 : Int32).toInt = 2 from rfl, show (3 : Int32).toInt = 3 from rfl]
  exact propext ⟨fun h => by omega, fun h => by omega⟩
theorem own_10 : ((1 : Int32) = 0) = False := eq_false (by decide)
theorem own_00 : ((0 : Int32) = 0) = True := eq_true rfl
theorem own_bp {tv q x y : Int32} (e1 : ((q % (5 : Int32)) - (1 : Int32)) = x) (e2 : ((q / (5 : Int32)) - (1 : Int32)) = y) : own_blk tv q = if own_pass tv x y = 0 then 1 else 0 := by
  unfold own_blk own_pass own_in own_id
  rw [e1, e2]
  simp only [own_2lt]
  by_cases h1 : x < 0
  · simp only [h1, if_true, own_00]
  · by_cases h2 : x < 3
    · by_cases h3 : y < 0
      · simp only [h1, h2, h3, if_true, if_false, own_00, not_true]
      · by_cases h4 : y < 3
        · simp only [h1, h2, h3, h4, if_true, if_false, own_10, not_true]
        · simp only [h1, h2, h3, h4, if_true, if_false, own_00, not_true, not_false_iff]
    · simp only [h1, h2, if_true, if_false, own_00, not_false_iff]
theorem d2_0 : decode method_2_code 0 = .ok (.iload_n 0, 1) := by decide +kernel
theorem d2_1 : decode method_2_code 1 = .ok (.iload_n 1, 1) := by decide +kernel
theorem d2_2 : decode method_2_code 2 = .ok (.iushr, 1) := by decide +kernel
theorem d2_3 : decode method_2_code 3 = .ok (.iconst 1, 1) := by decide +kernel
theorem d2_4 : decode method_2_code 4 = .ok (.iand, 1) := by decide +kernel
theorem d2_5 : decode method_2_code 5 = .ok (.ifCond .eq 7, 3) := by decide +kernel
theorem d2_12 : decode method_2_code 12 = .ok (.iconst 0, 1) := by decide +kernel
theorem d2_13 : decode method_2_code 13 = .ok (.ireturn, 1) := by decide +kernel
theorem d2_8 : decode method_2_code 8 = .ok (.iconst 1, 1) := by decide +kernel
theorem d2_9 : decode method_2_code 9 = .ok (.goto 4, 3) := by decide +kernel
theorem pn_com_example_wanderpath_wanderpath_GridCanStepPinLaw : plainName "com/example/wanderpath/wanderpath/GridCanStepPinLaw" = true := by first | (simp [plainName, overriddenIn]; done) | decide +kernel
theorem ef_rm2 (m : MethodId) (wv : Int32) (wk : Int32) : entryFrame m #[(.int wv), (.int wk)] 2 = mkF m 0 #[vI wv, vI wk] [] := by first | (simp [entryFrame, mkF, argsToLocals, Value.category]; done) | rfl
def Q_rm2 (Z : State) (wv : Int32) (wk : Int32)  (h0 : Heap) (n0 : Nat) (v : Option Value) (h : Heap) (L : List Loc) : Prop := v = some (.int (own_bit wv wk)) ∧ Fr n0 L ∧ h = h0
set_option maxRecDepth 65536 in
set_option maxHeartbeats 40000000 in
theorem rm2 (l : Launch) (Z : State) (a0 : Array Value) (hw : ∀ d ∈ tables_1, d.before a0 Z = true) (ws : List Jvm.Cond) (wv : Int32) (wk : Int32)  (h0 : Heap) (n0 : Nat) (Z0 : n0 ≤ h0.size)  :
    MetFree l (⟨"com/example/wanderpath/wanderpath/GridCanStepPinLaw", "bit", "(II)Z"⟩ : MethodName) (head1 (Jvm.Cond.code (⟨"com/example/wanderpath/wanderpath/GridCanStepPinLaw", "bit", "(II)Z"⟩ : MethodName) method_2_code 2 (some .boolean) :: ws) ({ frames := 0, cells := 0, slots := 0, locals := 0 } : Room)) (fun aα Uα => aα = #[(.int wv), (.int wk)] ∧ Z.Warmed39 Uα.vm ∧ Uα.heap = h0) (fun _ _ _ _ _ => True) (fun _ Uα oα Uβ => ∃ vα Lα, oα = .returned vα ∧ Q_rm2 Z wv wk  h0 n0 vα Uβ.heap Lα ∧ FrameEnd Uα oα Uβ Lα ({ frames := 0, cells := 0, slots := 0, locals := 0 } : Room).cells ({ frames := 0, cells := 0, slots := 0, locals := 0 } : Room).slots) := by
  refine MetFree.of_bodySF (plainFor_of_name pn_com_example_wanderpath_wanderpath_GridCanStepPinLaw) hisR ?_
  intro p e s m args below meth c s₁ Bd hml0 hP hKα
  obtain ⟨rfl, hZ, hh⟩ := hP
  have hx := Bd.exec
  have hby := Bd.bytes
  have hml : c.maxLocals = 2 := hml0
  have hown : s.vm.findClass "com/example/wanderpath/wanderpath/GridCanStepPinLaw" = some m.cls := findClass_of_methodNamed Bd.named
  have hnm := (name_of_methodNamed Bd.named Bd.method).1
  have X0 : Stand p l e ({ frames := 0, cells := 0, slots := 0, locals := 0 } : Room) s m #[(.int wv), (.int wk)] below meth c s₁ [] 0 0 := Stand.of_body Bd
  have e0 : s₁.heap = h0 := by rw [← hh, Bd.state]; rfl
  have N0 := Fr.nil n0
  suffices k0 : Gl p e below s (Q_rm2 Z wv wk  h0 n0) ({ frames := 0, cells := 0, slots := 0, locals := 0 } : Room).cells ({ frames := 0, cells := 0, slots := 0, locals := 0 } : Room).slots s₁ (mkF m 0 #[vI wv, vI wk] []) from Gl.st (fun τ κ => castTop (ef_rm2 m wv wk) κ) k0
  refine Gl.st (g' := (mkF m 2 #[vI wv, vI wk] [(.int wk), (.int wv)])) (fun τ κ => XS.iloadN X0.here hx rfl (hb hby d2_0) rfl (XS.iloadN X0.here hx rfl (hb hby d2_1) rfl κ)) ?_
  refine Gl.st (g' := (mkF m 4 #[vI wv, vI wk] [(.int (1 : Int32)), (.int ((wv.toUInt32 >>> (wk &&& 31).toUInt32).toInt32))])) (fun τ κ => XS.iushr X0.here hx rfl (hb hby d2_2) rfl (XS.iconst X0.here hx rfl (hb hby d2_3) κ)) ?_
  refine Gl.st (g' := (mkF m 5 #[vI wv, vI wk] [(.int (((wv.toUInt32 >>> (wk &&& 31).toUInt32).toInt32) &&& (1 : Int32)))])) (fun τ κ => XS.iand X0.here hx rfl (hb hby d2_4) rfl κ) ?_
  by_cases hc948 : (((wv.toUInt32 >>> (wk &&& 31).toUInt32).toInt32) &&& (1 : Int32)) = (0 : Int32)
  · -- pc 5: (((wv.toUInt32 >>> (wk &&& 31).toUInt32).toInt32) &&& (1 : Int32)) = (0 : Int32)
    refine Gl.st (g' := (mkF m 13 #[vI wv, vI wk] [(.int (0 : Int32))])) (fun τ κ => XS.ifYes X0.here hx rfl (pc0 := 5) (pc' := 12) rfl (hb hby d2_5) rfl ((if0 _ _).trans (teq hc948).1) (by decide) (by decide) (XS.iconst X0.here hx rfl (hb hby d2_12) κ)) ?_
    exact Gl.ret (v := some (.int (0 : Int32))) X0 Bd.notSynchronized (fun h => by rw [Bd.returns] at h; cases h) e0 (fun fs hr => retN X0 hx (t := .boolean) Bd.returns (by simp) (hb hby d2_13) hr) (by decide) (by decide) ⟨by simp only [own_bit, hc948, if_true, if_false], N0, rfl⟩
  · -- pc 5: not (((wv.toUInt32 >>> (wk &&& 31).toUInt32).toInt32) &&& (1 : Int32)) = (0 : Int32)
    refine Gl.st (g' := (mkF m 9 #[vI wv, vI wk] [(.int (1 : Int32))])) (fun τ κ => XS.ifNo X0.here hx rfl (hb hby d2_5) rfl ((if0 _ _).trans (feq hc948).1) (XS.iconst X0.here hx rfl (hb hby d2_8) κ)) ?_
    refine Gl.st (g' := (mkF m 13 #[vI wv, vI wk] [(.int (1 : Int32))])) (fun τ κ => XS.goto X0.here hx rfl (pc0 := 9) (pc' := 13) rfl (hb hby d2_9) (by decide) (by decide) κ) ?_
    exact Gl.ret (v := some (.int (1 : Int32))) X0 Bd.notSynchronized (fun h => by rw [Bd.returns] at h; cases h) e0 (fun fs hr => retN X0 hx (t := .boolean) Bd.returns (by simp) (hb hby d2_13) hr) (by decide) (by decide) ⟨by simp only [own_bit, hc948, if_true, if_false], N0, rfl⟩
theorem d1_0 : decode method_3_code 0 = .ok (.iload_n 0, 1) := by decide +kernel
theorem d1_1 : decode method_3_code 1 = .ok (.iload_n 1, 1) := by decide +kernel
theorem d1_2 : decode method_3_code 2 = .ok (.invokestatic 7, 3) := by decide +kernel
theorem d1_5 : decode method_3_code 5 = .ok (.ifCond .eq 8, 3) := by decide +kernel
theorem d1_13 : decode method_3_code 13 = .ok (.bipush 64, 2) := by decide +kernel
theorem d1_15 : decode method_3_code 15 = .ok (.ireturn, 1) := by decide +kernel
theorem d1_8 : decode method_3_code 8 = .ok (.bipush 46, 2) := by decide +kernel
theorem d1_10 : decode method_3_code 10 = .ok (.goto 5, 3) := by decide +kernel
theorem ef_rm1 (m : MethodId) (wv : Int32) (wk : Int32) : entryFrame m #[(.int wv), (.int wk)] 2 = mkF m 0 #[vI wv, vI wk] [] := by first | (simp [entryFrame, mkF, argsToLocals, Value.category]; done) | rfl
def Q_rm1 (Z : State) (wv : Int32) (wk : Int32)  (h0 : Heap) (n0 : Nat) (v : Option Value) (h : Heap) (L : List Loc) : Prop := v = some (.int (own_tile wv wk)) ∧ Fr n0 L ∧ h = h0
set_option maxRecDepth 65536 in
set_option maxHeartbeats 40000000 in
theorem rm1 (l : Launch) (Z : State) (a0 : Array Value) (hw : ∀ d ∈ tables_1, d.before a0 Z = true) (ws : List Jvm.Cond) (wv : Int32) (wk : Int32)  (h0 : Heap) (n0 : Nat) (Z0 : n0 ≤ h0.size)  :
    MetFree l (⟨"com/example/wanderpath/wanderpath/GridCanStepPinLaw", "tile", "(II)B"⟩ : MethodName) (head1 (Jvm.Cond.code (⟨"com/example/wanderpath/wanderpath/GridCanStepPinLaw", "tile", "(II)B"⟩ : MethodName) method_3_code 2 (some .byte) :: ws) ({ frames := 1, cells := 0, slots := 0, locals := 13 } : Room)) (fun aα Uα => aα = #[(.int wv), (.int wk)] ∧ Z.Warmed39 Uα.vm ∧ Uα.heap = h0) (fun _ _ _ _ _ => True) (fun _ Uα oα Uβ => ∃ vα Lα, oα = .returned vα ∧ Q_rm1 Z wv wk  h0 n0 vα Uβ.heap Lα ∧ FrameEnd Uα oα Uβ Lα ({ frames := 1, cells := 0, slots := 0, locals := 13 } : Room).cells ({ frames := 1, cells := 0, slots := 0, locals := 13 } : Room).slots) := by
  refine MetFree.of_bodySF (plainFor_of_name pn_com_example_wanderpath_wanderpath_GridCanStepPinLaw) hisR ?_
  intro p e s m args below meth c s₁ Bd hml0 hP hKα
  obtain ⟨rfl, hZ, hh⟩ := hP
  have hx := Bd.exec
  have hby := Bd.bytes
  have hml : c.maxLocals = 2 := hml0
  have hown : s.vm.findClass "com/example/wanderpath/wanderpath/GridCanStepPinLaw" = some m.cls := findClass_of_methodNamed Bd.named
  have hnm := (name_of_methodNamed Bd.named Bd.method).1
  have X0 : Stand p l e ({ frames := 1, cells := 0, slots := 0, locals := 13 } : Room) s m #[(.int wv), (.int wk)] below meth c s₁ [] 0 0 := Stand.of_body Bd
  have e0 : s₁.heap = h0 := by rw [← hh, Bd.state]; rfl
  have N0 := Fr.nil n0
  suffices k0 : Gl p e below s (Q_rm1 Z wv wk  h0 n0) ({ frames := 1, cells := 0, slots := 0, locals := 13 } : Room).cells ({ frames := 1, cells := 0, slots := 0, locals := 13 } : Room).slots s₁ (mkF m 0 #[vI wv, vI wk] []) from Gl.st (fun τ κ => castTop (ef_rm1 m wv wk) κ) k0
  refine Gl.st (g' := (mkF m 2 #[vI wv, vI wk] [(.int wk), (.int wv)])) (fun τ κ => XS.iloadN X0.here hx rfl (hb hby d1_0) rfl (XS.iloadN X0.here hx rfl (hb hby d1_1) rfl κ)) ?_
  obtain ⟨rv949, _, ⟨T949, L949, k949, n949⟩, -, X949, ⟨Lc949, hQ949, l949, y949, z949⟩, st949⟩ := Jvm.LawKit.callS X0 hx (y := (⟨"com/example/wanderpath/wanderpath/GridCanStepPinLaw", "bit", "(II)Z"⟩ : MethodName)) hown (mvT hZ (w5_ hw)) (mvT hZ (w6_ hw)) (mvT hZ (w3_ hw)) (mvT hZ (w7_ hw)) (by decide) (backOf (W := 0) (rm2 l Z a0 hw [] wv wk h0 n0 Z0 ) hZ (w7_ hw) (w3_ hw) (by decide) (by decide)) (g := (mkF m 2 #[vI wv, vI wk] [(.int wk), (.int wv)])) rfl (by rw [hml]; rfl) (argsL := [(.int wv), (.int wk)]) (rest := []) (lenOf pd_8 rfl) rfl (by show 2 * 0 + _ ≤ _; exact Nat.le_of_eq rfl) (hb hby d1_2) (fun _ _ => ⟨rfl, e0, Nat.le_of_ble_eq_true rfl, Nat.le_of_ble_eq_true rfl⟩)
  dsimp only [Pt.U, Pt.locs, Pt.cells, Pt.slots] at X949 l949 y949 z949 st949 hQ949
  subst l949 y949 z949
  have X949 := X949.more (cells' := 0) (slots' := 0) (by decide) (by decide)
  obtain ⟨hq949, N949q, e949⟩ := hQ949
  have hq949 : rv949 = some (.int (own_bit wv wk)) := hq949
  subst hq949
  have N949 := Fr.app N0 N949q
  obtain ⟨Lw949, X949, N949⟩ := own_locG X949 N949
  refine Gl.st (g' := (mkF m 5 #[vI wv, vI wk] [(.int (own_bit wv wk))])) (fun τ κ => st949 _ κ) ?_
  by_cases hc950 : (own_bit wv wk) = (0 : Int32)
  · -- pc 5: (own_bit wv wk) = (0 : Int32)
    refine Gl.st (g' := (mkF m 15 #[vI wv, vI wk] [(.int (64 : Int32))])) (fun τ κ => XS.ifYes X949.here hx rfl (pc0 := 5) (pc' := 13) rfl (hb hby d1_5) rfl ((if0 _ _).trans (teq hc950).1) (by decide) (by decide) (XS.bipush X949.here hx rfl (hb hby d1_13) κ)) ?_
    exact Gl.ret (v := some (.int (64 : Int32))) X949 Bd.notSynchronized (fun h => by rw [Bd.returns] at h; cases h) e949 (fun fs hr => retN X949 hx (t := .byte) Bd.returns (by simp) (hb hby d1_15) hr) (by decide) (by decide) ⟨by simp only [own_tile, hc950, if_true, if_false], N949, rfl⟩
  · -- pc 5: not (own_bit wv wk) = (0 : Int32)
    refine Gl.st (g' := (mkF m 10 #[vI wv, vI wk] [(.int (46 : Int32))])) (fun τ κ => XS.ifNo X949.here hx rfl (hb hby d1_5) rfl ((if0 _ _).trans (feq hc950).1) (XS.bipush X949.here hx rfl (hb hby d1_8) κ)) ?_
    refine Gl.st (g' := (mkF m 15 #[vI wv, vI wk] [(.int (46 : Int32))])) (fun τ κ => XS.goto X949.here hx rfl (pc0 := 10) (pc' := 15) rfl (hb hby d1_10) (by decide) (by decide) κ) ?_
    exact Gl.ret (v := some (.int (46 : Int32))) X949 Bd.notSynchronized (fun h => by rw [Bd.returns] at h; cases h) e949 (fun fs hr => retN X949 hx (t := .byte) Bd.returns (by simp) (hb hby d1_15) hr) (by decide) (by decide) ⟨by simp only [own_tile, hc950, if_true, if_false], N949, rfl⟩
theorem d25_0 : decode method_4_code 0 = .ok (.iload_n 0, 1) := by decide +kernel
theorem d25_1 : decode method_4_code 1 = .ok (.iconst 1, 1) := by decide +kernel
theorem d25_2 : decode method_4_code 2 = .ok (.if_icmp .eq 14, 3) := by decide +kernel
theorem d25_16 : decode method_4_code 16 = .ok (.iconst (-1), 1) := by decide +kernel
theorem d25_17 : decode method_4_code 17 = .ok (.ireturn, 1) := by decide +kernel
theorem d25_5 : decode method_4_code 5 = .ok (.iload_n 0, 1) := by decide +kernel
theorem d25_6 : decode method_4_code 6 = .ok (.iconst 4, 1) := by decide +kernel
theorem d25_7 : decode method_4_code 7 = .ok (.if_icmp .eq 9, 3) := by decide +kernel
theorem d25_10 : decode method_4_code 10 = .ok (.iload_n 0, 1) := by decide +kernel
theorem d25_11 : decode method_4_code 11 = .ok (.bipush 6, 2) := by decide +kernel
theorem d25_13 : decode method_4_code 13 = .ok (.if_icmp .ne 5, 3) := by decide +kernel
theorem d25_18 : decode method_4_code 18 = .ok (.iload_n 0, 1) := by decide +kernel
theorem d25_19 : decode method_4_code 19 = .ok (.iconst 2, 1) := by decide +kernel
theorem d25_20 : decode method_4_code 20 = .ok (.if_icmp .eq 14, 3) := by decide +kernel
theorem d25_34 : decode method_4_code 34 = .ok (.iconst 1, 1) := by decide +kernel
theorem d25_35 : decode method_4_code 35 = .ok (.ireturn, 1) := by decide +kernel
theorem d25_23 : decode method_4_code 23 = .ok (.iload_n 0, 1) := by decide +kernel
theorem d25_24 : decode method_4_code 24 = .ok (.iconst 5, 1) := by decide +kernel
theorem d25_25 : decode method_4_code 25 = .ok (.if_icmp .eq 9, 3) := by decide +kernel
theorem d25_28 : decode method_4_code 28 = .ok (.iload_n 0, 1) := by decide +kernel
theorem d25_29 : decode method_4_code 29 = .ok (.bipush 7, 2) := by decide +kernel
theorem d25_31 : decode method_4_code 31 = .ok (.if_icmp .ne 5, 3) := by decide +kernel
theorem d25_36 : decode method_4_code 36 = .ok (.iconst 0, 1) := by decide +kernel
theorem d25_37 : decode method_4_code 37 = .ok (.ireturn, 1) := by decide +kernel
theorem ef_rm25 (m : MethodId) (wi : Int32) : entryFrame m #[(.int wi)] 1 = mkF m 0 #[vI wi] [] := by first | (simp [entryFrame, mkF, argsToLocals, Value.category]; done) | rfl
def Q_rm25 (Z : State) (wi : Int32)  (h0 : Heap) (n0 : Nat) (v : Option Value) (h : Heap) (L : List Loc) : Prop := v = some (.int (own_dx wi)) ∧ Fr n0 L ∧ h = h0
set_option maxRecDepth 65536 in
set_option maxHeartbeats 40000000 in
theorem rm25 (l : Launch) (Z : State) (a0 : Array Value) (hw : ∀ d ∈ tables_1, d.before a0 Z = true) (ws : List Jvm.Cond) (wi : Int32)  (h0 : Heap) (n0 : Nat) (Z0 : n0 ≤ h0.size)  :
    MetFree l (⟨"com/example/wanderpath/wanderpath/GridCanStepPinLaw", "dx", "(I)I"⟩ : MethodName) (head1 (Jvm.Cond.code (⟨"com/example/wanderpath/wanderpath/GridCanStepPinLaw", "dx", "(I)I"⟩ : MethodName) method_4_code 1 (some .int) :: ws) ({ frames := 0, cells := 0, slots := 0, locals := 0 } : Room)) (fun aα Uα => aα = #[(.int wi)] ∧ Z.Warmed39 Uα.vm ∧ Uα.heap = h0) (fun _ _ _ _ _ => True) (fun _ Uα oα Uβ => ∃ vα Lα, oα = .returned vα ∧ Q_rm25 Z wi  h0 n0 vα Uβ.heap Lα ∧ FrameEnd Uα oα Uβ Lα ({ frames := 0, cells := 0, slots := 0, locals := 0 } : Room).cells ({ frames := 0, cells := 0, slots := 0, locals := 0 } : Room).slots) := by
  refine MetFree.of_bodySF (plainFor_of_name pn_com_example_wanderpath_wanderpath_GridCanStepPinLaw) hisR ?_
  intro p e s m args below meth c s₁ Bd hml0 hP hKα
  obtain ⟨rfl, hZ, hh⟩ := hP
  have hx := Bd.exec
  have hby := Bd.bytes
  have hml : c.maxLocals = 1 := hml0
  have hown : s.vm.findClass "com/example/wanderpath/wanderpath/GridCanStepPinLaw" = some m.cls := findClass_of_methodNamed Bd.named
  have hnm := (name_of_methodNamed Bd.named Bd.method).1
  have X0 : Stand p l e ({ frames := 0, cells := 0, slots := 0, locals := 0 } : Room) s m #[(.int wi)] below meth c s₁ [] 0 0 := Stand.of_body Bd
  have e0 : s₁.heap = h0 := by rw [← hh, Bd.state]; rfl
  have N0 := Fr.nil n0
  suffices k0 : Gl p e below s (Q_rm25 Z wi  h0 n0) ({ frames := 0, cells := 0, slots := 0, locals := 0 } : Room).cells ({ frames := 0, cells := 0, slots := 0, locals := 0 } : Room).slots s₁ (mkF m 0 #[vI wi] []) from Gl.st (fun τ κ => castTop (ef_rm25 m wi) κ) k0
  refine Gl.st (g' := (mkF m 2 #[vI wi] [(.int (1 : Int32)), (.int wi)])) (fun τ κ => XS.iloadN X0.here hx rfl (hb hby d25_0) rfl (XS.iconst X0.here hx rfl (hb hby d25_1) κ)) ?_
  by_cases hc951 : wi = (1 : Int32)
  · -- pc 2: wi = (1 : Int32)
    refine Gl.st (g' := (mkF m 17 #[vI wi] [(.int (-1 : Int32))])) (fun τ κ => XS.icmpYes X0.here hx rfl (pc0 := 2) (pc' := 16) rfl (hb hby d25_2) rfl (teq hc951).1 (by decide) (by decide) (XS.iconst X0.here hx rfl (hb hby d25_16) κ)) ?_
    exact Gl.ret (v := some (.int (-1 : Int32))) X0 Bd.notSynchronized (fun h => by rw [Bd.returns] at h; cases h) e0 (fun fs hr => retI X0 hx Bd.returns (hb hby d25_17) hr) (by decide) (by decide) ⟨congrArg (fun t => some (Value.int t)) (by rw [hc951]; decide : (-1 : Int32) = own_dx wi), N0, rfl⟩
  · -- pc 2: not wi = (1 : Int32)
    refine Gl.st (g' := (mkF m 6 #[vI wi] [(.int wi)])) (fun τ κ => XS.icmpNo X0.here hx rfl (hb hby d25_2) rfl (feq hc951).1 (XS.iloadN X0.here hx rfl (hb hby d25_5) rfl κ)) ?_
    refine Gl.st (g' := (mkF m 7 #[vI wi] [(.int (4 : Int32)), (.int wi)])) (fun τ κ => XS.iconst X0.here hx rfl (hb hby d25_6) κ) ?_
    by_cases hc952 : wi = (4 : Int32)
    · -- pc 7: wi = (4 : Int32)
      refine Gl.st (g' := (mkF m 17 #[vI wi] [(.int (-1 : Int32))])) (fun τ κ => XS.icmpYes X0.here hx rfl (pc0 := 7) (pc' := 16) rfl (hb hby d25_7) rfl (teq hc952).1 (by decide) (by decide) (XS.iconst X0.here hx rfl (hb hby d25_16) κ)) ?_
      exact Gl.ret (v := some (.int (-1 : Int32))) X0 Bd.notSynchronized (fun h => by rw [Bd.returns] at h; cases h) e0 (fun fs hr => retI X0 hx Bd.returns (hb hby d25_17) hr) (by decide) (by decide) ⟨congrArg (fun t => some (Value.int t)) (by rw [hc952]; decide : (-1 : Int32) = own_dx wi), N0, rfl⟩
    · -- pc 7: not wi = (4 : Int32)
      refine Gl.st (g' := (mkF m 11 #[vI wi] [(.int wi)])) (fun τ κ => XS.icmpNo X0.here hx rfl (hb hby d25_7) rfl (feq hc952).1 (XS.iloadN X0.here hx rfl (hb hby d25_10) rfl κ)) ?_
      refine Gl.st (g' := (mkF m 13 #[vI wi] [(.int (6 : Int32)), (.int wi)])) (fun τ κ => XS.bipush X0.here hx rfl (hb hby d25_11) κ) ?_
      by_cases hc953 : wi = (6 : Int32)
      · -- pc 13: wi = (6 : Int32)
        refine Gl.st (g' := (mkF m 17 #[vI wi] [(.int (-1 : Int32))])) (fun τ κ => XS.icmpNo X0.here hx rfl (hb hby d25_13) rfl (teq hc953).2 (XS.iconst X0.here hx rfl (hb hby d25_16) κ)) ?_
        exact Gl.ret (v := some (.int (-1 : Int32))) X0 Bd.notSynchronized (fun h => by rw [Bd.returns] at h; cases h) e0 (fun fs hr => retI X0 hx Bd.returns (hb hby d25_17) hr) (by decide) (by decide) ⟨congrArg (fun t => some (Value.int t)) (by rw [hc953]; decide : (-1 : Int32) = own_dx wi), N0, rfl⟩
      · -- pc 13: not wi = (6 : Int32)
        refine Gl.st (g' := (mkF m 19 #[vI wi] [(.int wi)])) (fun τ κ => XS.icmpYes X0.here hx rfl (pc0 := 13) (pc' := 18) rfl (hb hby d25_13) rfl (feq hc953).2 (by decide) (by decide) (XS.iloadN X0.here hx rfl (hb hby d25_18) rfl κ)) ?_
        refine Gl.st (g' := (mkF m 20 #[vI wi] [(.int (2 : Int32)), (.int wi)])) (fun τ κ => XS.iconst X0.here hx rfl (hb hby d25_19) κ) ?_
        by_cases hc954 : wi = (2 : Int32)
        · -- pc 20: wi = (2 : Int32)
          refine Gl.st (g' := (mkF m 35 #[vI wi] [(.int (1 : Int32))])) (fun τ κ => XS.icmpYes X0.here hx rfl (pc0 := 20) (pc' := 34) rfl (hb hby d25_20) rfl (teq hc954).1 (by decide) (by decide) (XS.iconst X0.here hx rfl (hb hby d25_34) κ)) ?_
          exact Gl.ret (v := some (.int (1 : Int32))) X0 Bd.notSynchronized (fun h => by rw [Bd.returns] at h; cases h) e0 (fun fs hr => retI X0 hx Bd.returns (hb hby d25_35) hr) (by decide) (by decide) ⟨congrArg (fun t => some (Value.int t)) (by rw [hc954]; decide : (1 : Int32) = own_dx wi), N0, rfl⟩
        · -- pc 20: not wi = (2 : Int32)
          refine Gl.st (g' := (mkF m 24 #[vI wi] [(.int wi)])) (fun τ κ => XS.icmpNo X0.here hx rfl (hb hby d25_20) rfl (feq hc954).1 (XS.iloadN X0.here hx rfl (hb hby d25_23) rfl κ)) ?_
          refine Gl.st (g' := (mkF m 25 #[vI wi] [(.int (5 : Int32)), (.int wi)])) (fun τ κ => XS.iconst X0.here hx rfl (hb hby d25_24) κ) ?_
          by_cases hc955 : wi = (5 : Int32)
          · -- pc 25: wi = (5 : Int32)
            refine Gl.st (g' := (mkF m 35 #[vI wi] [(.int (1 : Int32))])) (fun τ κ => XS.icmpYes X0.here hx rfl (pc0 := 25) (pc' := 34) rfl (hb hby d25_25) rfl (teq hc955).1 (by decide) (by decide) (XS.iconst X0.here hx rfl (hb hby d25_34) κ)) ?_
            exact Gl.ret (v := some (.int (1 : Int32))) X0 Bd.notSynchronized (fun h => by rw [Bd.returns] at h; cases h) e0 (fun fs hr => retI X0 hx Bd.returns (hb hby d25_35) hr) (by decide) (by decide) ⟨congrArg (fun t => some (Value.int t)) (by rw [hc955]; decide : (1 : Int32) = own_dx wi), N0, rfl⟩
          · -- pc 25: not wi = (5 : Int32)
            refine Gl.st (g' := (mkF m 29 #[vI wi] [(.int wi)])) (fun τ κ => XS.icmpNo X0.here hx rfl (hb hby d25_25) rfl (feq hc955).1 (XS.iloadN X0.here hx rfl (hb hby d25_28) rfl κ)) ?_
            refine Gl.st (g' := (mkF m 31 #[vI wi] [(.int (7 : Int32)), (.int wi)])) (fun τ κ => XS.bipush X0.here hx rfl (hb hby d25_29) κ) ?_
            by_cases hc956 : wi = (7 : Int32)
            · -- pc 31: wi = (7 : Int32)
              refine Gl.st (g' := (mkF m 35 #[vI wi] [(.int (1 : Int32))])) (fun τ κ => XS.icmpNo X0.here hx rfl (hb hby d25_31) rfl (teq hc956).2 (XS.iconst X0.here hx rfl (hb hby d25_34) κ)) ?_
              exact Gl.ret (v := some (.int (1 : Int32))) X0 Bd.notSynchronized (fun h => by rw [Bd.returns] at h; cases h) e0 (fun fs hr => retI X0 hx Bd.returns (hb hby d25_35) hr) (by decide) (by decide) ⟨congrArg (fun t => some (Value.int t)) (by rw [hc956]; decide : (1 : Int32) = own_dx wi), N0, rfl⟩
            · -- pc 31: not wi = (7 : Int32)
              refine Gl.st (g' := (mkF m 37 #[vI wi] [(.int (0 : Int32))])) (fun τ κ => XS.icmpYes X0.here hx rfl (pc0 := 31) (pc' := 36) rfl (hb hby d25_31) rfl (feq hc956).2 (by decide) (by decide) (XS.iconst X0.here hx rfl (hb hby d25_36) κ)) ?_
              exact Gl.ret (v := some (.int (0 : Int32))) X0 Bd.notSynchronized (fun h => by rw [Bd.returns] at h; cases h) e0 (fun fs hr => retI X0 hx Bd.returns (hb hby d25_37) hr) (by decide) (by decide) ⟨by simp only [own_dx, hc951, hc952, hc953, hc954, hc955, hc956, if_true, if_false], N0, rfl⟩
theorem d26_0 : decode method_5_code 0 = .ok (.iload_n 0, 1) := by decide +kernel
theorem d26_1 : decode method_5_code 1 = .ok (.ifCond .eq 13, 3) := by decide +kernel
theorem d26_14 : decode method_5_code 14 = .ok (.iconst (-1), 1) := by decide +kernel
theorem d26_15 : decode method_5_code 15 = .ok (.ireturn, 1) := by decide +kernel
theorem d26_4 : decode method_5_code 4 = .ok (.iload_n 0, 1) := by decide +kernel
theorem d26_5 : decode method_5_code 5 = .ok (.iconst 4, 1) := by decide +kernel
theorem d26_6 : decode method_5_code 6 = .ok (.if_icmp .eq 8, 3) := by decide +kernel
theorem d26_9 : decode method_5_code 9 = .ok (.iload_n 0, 1) := by decide +kernel
theorem d26_10 : decode method_5_code 10 = .ok (.iconst 5, 1) := by decide +kernel
theorem d26_11 : decode method_5_code 11 = .ok (.if_icmp .ne 5, 3) := by decide +kernel
theorem d26_16 : decode method_5_code 16 = .ok (.iload_n 0, 1) := by decide +kernel
theorem d26_17 : decode method_5_code 17 = .ok (.iconst 3, 1) := by decide +kernel
theorem d26_18 : decode method_5_code 18 = .ok (.if_icmp .eq 15, 3) := by decide +kernel
theorem d26_33 : decode method_5_code 33 = .ok (.iconst 1, 1) := by decide +kernel
theorem d26_34 : decode method_5_code 34 = .ok (.ireturn, 1) := by decide +kernel
theorem d26_21 : decode method_5_code 21 = .ok (.iload_n 0, 1) := by decide +kernel
theorem d26_22 : decode method_5_code 22 = .ok (.bipush 6, 2) := by decide +kernel
theorem d26_24 : decode method_5_code 24 = .ok (.if_icmp .eq 9, 3) := by decide +kernel
theorem d26_27 : decode method_5_code 27 = .ok (.iload_n 0, 1) := by decide +kernel
theorem d26_28 : decode method_5_code 28 = .ok (.bipush 7, 2) := by decide +kernel
theorem d26_30 : decode method_5_code 30 = .ok (.if_icmp .ne 5, 3) := by decide +kernel
theorem d26_35 : decode method_5_code 35 = .ok (.iconst 0, 1) := by decide +kernel
theorem d26_36 : decode method_5_code 36 = .ok (.ireturn, 1) := by decide +kernel
theorem ef_rm26 (m : MethodId) (wi : Int32) : entryFrame m #[(.int wi)] 1 = mkF m 0 #[vI wi] [] := by first | (simp [entryFrame, mkF, argsToLocals, Value.category]; done) | rfl
def Q_rm26 (Z : State) (wi : Int32)  (h0 : Heap) (n0 : Nat) (v : Option Value) (h : Heap) (L : List Loc) : Prop := v = some (.int (own_dy wi)) ∧ Fr n0 L ∧ h = h0
set_option maxRecDepth 65536 in
set_option maxHeartbeats 40000000 in
theorem rm26 (l : Launch) (Z : State) (a0 : Array Value) (hw : ∀ d ∈ tables_1, d.before a0 Z = true) (ws : List Jvm.Cond) (wi : Int32)  (h0 : Heap) (n0 : Nat) (Z0 : n0 ≤ h0.size)  :
    MetFree l (⟨"com/example/wanderpath/wanderpath/GridCanStepPinLaw", "dy", "(I)I"⟩ : MethodName) (head1 (Jvm.Cond.code (⟨"com/example/wanderpath/wanderpath/GridCanStepPinLaw", "dy", "(I)I"⟩ : MethodName) method_5_code 1 (some .int) :: ws) ({ frames := 0, cells := 0, slots := 0, locals := 0 } : Room)) (fun aα Uα => aα = #[(.int wi)] ∧ Z.Warmed39 Uα.vm ∧ Uα.heap = h0) (fun _ _ _ _ _ => True) (fun _ Uα oα Uβ => ∃ vα Lα, oα = .returned vα ∧ Q_rm26 Z wi  h0 n0 vα Uβ.heap Lα ∧ FrameEnd Uα oα Uβ Lα ({ frames := 0, cells := 0, slots := 0, locals := 0 } : Room).cells ({ frames := 0, cells := 0, slots := 0, locals := 0 } : Room).slots) := by
  refine MetFree.of_bodySF (plainFor_of_name pn_com_example_wanderpath_wanderpath_GridCanStepPinLaw) hisR ?_
  intro p e s m args below meth c s₁ Bd hml0 hP hKα
  obtain ⟨rfl, hZ, hh⟩ := hP
  have hx := Bd.exec
  have hby := Bd.bytes
  have hml : c.maxLocals = 1 := hml0
  have hown : s.vm.findClass "com/example/wanderpath/wanderpath/GridCanStepPinLaw" = some m.cls := findClass_of_methodNamed Bd.named
  have hnm := (name_of_methodNamed Bd.named Bd.method).1
  have X0 : Stand p l e ({ frames := 0, cells := 0, slots := 0, locals := 0 } : Room) s m #[(.int wi)] below meth c s₁ [] 0 0 := Stand.of_body Bd
  have e0 : s₁.heap = h0 := by rw [← hh, Bd.state]; rfl
  have N0 := Fr.nil n0
  suffices k0 : Gl p e below s (Q_rm26 Z wi  h0 n0) ({ frames := 0, cells := 0, slots := 0, locals := 0 } : Room).cells ({ frames := 0, cells := 0, slots := 0, locals := 0 } : Room).slots s₁ (mkF m 0 #[vI wi] []) from Gl.st (fun τ κ => castTop (ef_rm26 m wi) κ) k0
  refine Gl.st (g' := (mkF m 1 #[vI wi] [(.int wi)])) (fun τ κ => XS.iloadN X0.here hx rfl (hb hby d26_0) rfl κ) ?_
  by_cases hc957 : wi = (0 : Int32)
  · -- pc 1: wi = (0 : Int32)
    refine Gl.st (g' := (mkF m 15 #[vI wi] [(.int (-1 : Int32))])) (fun τ κ => XS.ifYes X0.here hx rfl (pc0 := 1) (pc' := 14) rfl (hb hby d26_1) rfl ((if0 _ _).trans (teq hc957).1) (by decide) (by decide) (XS.iconst X0.here hx rfl (hb hby d26_14) κ)) ?_
    exact Gl.ret (v := some (.int (-1 : Int32))) X0 Bd.notSynchronized (fun h => by rw [Bd.returns] at h; cases h) e0 (fun fs hr => retI X0 hx Bd.returns (hb hby d26_15) hr) (by decide) (by decide) ⟨congrArg (fun t => some (Value.int t)) (by rw [hc957]; decide : (-1 : Int32) = own_dy wi), N0, rfl⟩
  · -- pc 1: not wi = (0 : Int32)
    refine Gl.st (g' := (mkF m 5 #[vI wi] [(.int wi)])) (fun τ κ => XS.ifNo X0.here hx rfl (hb hby d26_1) rfl ((if0 _ _).trans (feq hc957).1) (XS.iloadN X0.here hx rfl (hb hby d26_4) rfl κ)) ?_
    refine Gl.st (g' := (mkF m 6 #[vI wi] [(.int (4 : Int32)), (.int wi)])) (fun τ κ => XS.iconst X0.here hx rfl (hb hby d26_5) κ) ?_
    by_cases hc958 : wi = (4 : Int32)
    · -- pc 6: wi = (4 : Int32)
      refine Gl.st (g' := (mkF m 15 #[vI wi] [(.int (-1 : Int32))])) (fun τ κ => XS.icmpYes X0.here hx rfl (pc0 := 6) (pc' := 14) rfl (hb hby d26_6) rfl (teq hc958).1 (by decide) (by decide) (XS.iconst X0.here hx rfl (hb hby d26_14) κ)) ?_
      exact Gl.ret (v := some (.int (-1 : Int32))) X0 Bd.notSynchronized (fun h => by rw [Bd.returns] at h; cases h) e0 (fun fs hr => retI X0 hx Bd.returns (hb hby d26_15) hr) (by decide) (by decide) ⟨congrArg (fun t => some (Value.int t)) (by rw [hc958]; decide : (-1 : Int32) = own_dy wi), N0, rfl⟩
    · -- pc 6: not wi = (4 : Int32)
      refine Gl.st (g' := (mkF m 10 #[vI wi] [(.int wi)])) (fun τ κ => XS.icmpNo X0.here hx rfl (hb hby d26_6) rfl (feq hc958).1 (XS.iloadN X0.here hx rfl (hb hby d26_9) rfl κ)) ?_
      refine Gl.st (g' := (mkF m 11 #[vI wi] [(.int (5 : Int32)), (.int wi)])) (fun τ κ => XS.iconst X0.here hx rfl (hb hby d26_10) κ) ?_
      by_cases hc959 : wi = (5 : Int32)
      · -- pc 11: wi = (5 : Int32)
        refine Gl.st (g' := (mkF m 15 #[vI wi] [(.int (-1 : Int32))])) (fun τ κ => XS.icmpNo X0.here hx rfl (hb hby d26_11) rfl (teq hc959).2 (XS.iconst X0.here hx rfl (hb hby d26_14) κ)) ?_
        exact Gl.ret (v := some (.int (-1 : Int32))) X0 Bd.notSynchronized (fun h => by rw [Bd.returns] at h; cases h) e0 (fun fs hr => retI X0 hx Bd.returns (hb hby d26_15) hr) (by decide) (by decide) ⟨congrArg (fun t => some (Value.int t)) (by rw [hc959]; decide : (-1 : Int32) = own_dy wi), N0, rfl⟩
      · -- pc 11: not wi = (5 : Int32)
        refine Gl.st (g' := (mkF m 17 #[vI wi] [(.int wi)])) (fun τ κ => XS.icmpYes X0.here hx rfl (pc0 := 11) (pc' := 16) rfl (hb hby d26_11) rfl (feq hc959).2 (by decide) (by decide) (XS.iloadN X0.here hx rfl (hb hby d26_16) rfl κ)) ?_
        refine Gl.st (g' := (mkF m 18 #[vI wi] [(.int (3 : Int32)), (.int wi)])) (fun τ κ => XS.iconst X0.here hx rfl (hb hby d26_17) κ) ?_
        by_cases hc960 : wi = (3 : Int32)
        · -- pc 18: wi = (3 : Int32)
          refine Gl.st (g' := (mkF m 34 #[vI wi] [(.int (1 : Int32))])) (fun τ κ => XS.icmpYes X0.here hx rfl (pc0 := 18) (pc' := 33) rfl (hb hby d26_18) rfl (teq hc960).1 (by decide) (by decide) (XS.iconst X0.here hx rfl (hb hby d26_33) κ)) ?_
          exact Gl.ret (v := some (.int (1 : Int32))) X0 Bd.notSynchronized (fun h => by rw [Bd.returns] at h; cases h) e0 (fun fs hr => retI X0 hx Bd.returns (hb hby d26_34) hr) (by decide) (by decide) ⟨congrArg (fun t => some (Value.int t)) (by rw [hc960]; decide : (1 : Int32) = own_dy wi), N0, rfl⟩
        · -- pc 18: not wi = (3 : Int32)
          refine Gl.st (g' := (mkF m 22 #[vI wi] [(.int wi)])) (fun τ κ => XS.icmpNo X0.here hx rfl (hb hby d26_18) rfl (feq hc960).1 (XS.iloadN X0.here hx rfl (hb hby d26_21) rfl κ)) ?_
          refine Gl.st (g' := (mkF m 24 #[vI wi] [(.int (6 : Int32)), (.int wi)])) (fun τ κ => XS.bipush X0.here hx rfl (hb hby d26_22) κ) ?_
          by_cases hc961 : wi = (6 : Int32)
          · -- pc 24: wi = (6 : Int32)
            refine Gl.st (g' := (mkF m 34 #[vI wi] [(.int (1 : Int32))])) (fun τ κ => XS.icmpYes X0.here hx rfl (pc0 := 24) (pc' := 33) rfl (hb hby d26_24) rfl (teq hc961).1 (by decide) (by decide) (XS.iconst X0.here hx rfl (hb hby d26_33) κ)) ?_
            exact Gl.ret (v := some (.int (1 : Int32))) X0 Bd.notSynchronized (fun h => by rw [Bd.returns] at h; cases h) e0 (fun fs hr => retI X0 hx Bd.returns (hb hby d26_34) hr) (by decide) (by decide) ⟨congrArg (fun t => some (Value.int t)) (by rw [hc961]; decide : (1 : Int32) = own_dy wi), N0, rfl⟩
          · -- pc 24: not wi = (6 : Int32)
            refine Gl.st (g' := (mkF m 28 #[vI wi] [(.int wi)])) (fun τ κ => XS.icmpNo X0.here hx rfl (hb hby d26_24) rfl (feq hc961).1 (XS.iloadN X0.here hx rfl (hb hby d26_27) rfl κ)) ?_
            refine Gl.st (g' := (mkF m 30 #[vI wi] [(.int (7 : Int32)), (.int wi)])) (fun τ κ => XS.bipush X0.here hx rfl (hb hby d26_28) κ) ?_
            by_cases hc962 : wi = (7 : Int32)
            · -- pc 30: wi = (7 : Int32)
              refine Gl.st (g' := (mkF m 34 #[vI wi] [(.int (1 : Int32))])) (fun τ κ => XS.icmpNo X0.here hx rfl (hb hby d26_30) rfl (teq hc962).2 (XS.iconst X0.here hx rfl (hb hby d26_33) κ)) ?_
              exact Gl.ret (v := some (.int (1 : Int32))) X0 Bd.notSynchronized (fun h => by rw [Bd.returns] at h; cases h) e0 (fun fs hr => retI X0 hx Bd.returns (hb hby d26_34) hr) (by decide) (by decide) ⟨congrArg (fun t => some (Value.int t)) (by rw [hc962]; decide : (1 : Int32) = own_dy wi), N0, rfl⟩
            · -- pc 30: not wi = (7 : Int32)
              refine Gl.st (g' := (mkF m 36 #[vI wi] [(.int (0 : Int32))])) (fun τ κ => XS.icmpYes X0.here hx rfl (pc0 := 30) (pc' := 35) rfl (hb hby d26_30) rfl (feq hc962).2 (by decide) (by decide) (XS.iconst X0.here hx rfl (hb hby d26_35) κ)) ?_
              exact Gl.ret (v := some (.int (0 : Int32))) X0 Bd.notSynchronized (fun h => by rw [Bd.returns] at h; cases h) e0 (fun fs hr => retI X0 hx Bd.returns (hb hby d26_36) hr) (by decide) (by decide) ⟨by simp only [own_dy, hc957, hc958, hc959, hc960, hc961, hc962, if_true, if_false], N0, rfl⟩
theorem d27_0 : decode method_6_code 0 = .ok (.iload_n 1, 1) := by decide +kernel
theorem d27_1 : decode method_6_code 1 = .ok (.ifCond .lt 17, 3) := by decide +kernel
theorem d27_18 : decode method_6_code 18 = .ok (.iconst 0, 1) := by decide +kernel
theorem d27_19 : decode method_6_code 19 = .ok (.ireturn, 1) := by decide +kernel
theorem d27_4 : decode method_6_code 4 = .ok (.iload_n 1, 1) := by decide +kernel
theorem d27_5 : decode method_6_code 5 = .ok (.iconst 2, 1) := by decide +kernel
theorem d27_6 : decode method_6_code 6 = .ok (.if_icmp .gt 12, 3) := by decide +kernel
theorem d27_9 : decode method_6_code 9 = .ok (.iload_n 2, 1) := by decide +kernel
theorem d27_10 : decode method_6_code 10 = .ok (.ifCond .lt 8, 3) := by decide +kernel
theorem d27_13 : decode method_6_code 13 = .ok (.iload_n 2, 1) := by decide +kernel
theorem d27_14 : decode method_6_code 14 = .ok (.iconst 2, 1) := by decide +kernel
theorem d27_15 : decode method_6_code 15 = .ok (.if_icmp .le 5, 3) := by decide +kernel
theorem d27_20 : decode method_6_code 20 = .ok (.iload_n 0, 1) := by decide +kernel
theorem d27_21 : decode method_6_code 21 = .ok (.iload_n 2, 1) := by decide +kernel
theorem d27_22 : decode method_6_code 22 = .ok (.iconst 3, 1) := by decide +kernel
theorem d27_23 : decode method_6_code 23 = .ok (.imul, 1) := by decide +kernel
theorem d27_24 : decode method_6_code 24 = .ok (.iload_n 1, 1) := by decide +kernel
theorem d27_25 : decode method_6_code 25 = .ok (.iadd, 1) := by decide +kernel
theorem d27_26 : decode method_6_code 26 = .ok (.invokestatic 7, 3) := by decide +kernel
theorem d27_29 : decode method_6_code 29 = .ok (.ireturn, 1) := by decide +kernel
theorem ef_rm27 (m : MethodId) (wv : Int32) (wa : Int32) (wb : Int32) : entryFrame m #[(.int wv), (.int wa), (.int wb)] 3 = mkF m 0 #[vI wv, vI wa, vI wb] [] := by first | (simp [entryFrame, mkF, argsToLocals, Value.category]; done) | rfl
def Q_rm27 (Z : State) (wv : Int32) (wa : Int32) (wb : Int32)  (h0 : Heap) (n0 : Nat) (v : Option Value) (h : Heap) (L : List Loc) : Prop := v = some (.int (own_pass wv wa wb)) ∧ Fr n0 L ∧ h = h0
set_option maxRecDepth 65536 in
set_option maxHeartbeats 40000000 in
theorem rm27 (l : Launch) (Z : State) (a0 : Array Value) (hw : ∀ d ∈ tables_1, d.before a0 Z = true) (ws : List Jvm.Cond) (wv : Int32) (wa : Int32) (wb : Int32)  (h0 : Heap) (n0 : Nat) (Z0 : n0 ≤ h0.size)  :
    MetFree l (⟨"com/example/wanderpath/wanderpath/GridCanStepPinLaw", "passable", "(III)Z"⟩ : MethodName) (head1 (Jvm.Cond.code (⟨"com/example/wanderpath/wanderpath/GridCanStepPinLaw", "passable", "(III)Z"⟩ : MethodName) method_6_code 3 (some .boolean) :: ws) ({ frames := 1, cells := 0, slots := 0, locals := 13 } : Room)) (fun aα Uα => aα = #[(.int wv), (.int wa), (.int wb)] ∧ Z.Warmed39 Uα.vm ∧ Uα.heap = h0) (fun _ _ _ _ _ => True) (fun _ Uα oα Uβ => ∃ vα Lα, oα = .returned vα ∧ Q_rm27 Z wv wa wb  h0 n0 vα Uβ.heap Lα ∧ FrameEnd Uα oα Uβ Lα ({ frames := 1, cells := 0, slots := 0, locals := 13 } : Room).cells ({ frames := 1, cells := 0, slots := 0, locals := 13 } : Room).slots) := by
  refine MetFree.of_bodySF (plainFor_of_name pn_com_example_wanderpath_wanderpath_GridCanStepPinLaw) hisR ?_
  intro p e s m args below meth c s₁ Bd hml0 hP hKα
  obtain ⟨rfl, hZ, hh⟩ := hP
  have hx := Bd.exec
  have hby := Bd.bytes
  have hml : c.maxLocals = 3 := hml0
  have hown : s.vm.findClass "com/example/wanderpath/wanderpath/GridCanStepPinLaw" = some m.cls := findClass_of_methodNamed Bd.named
  have hnm := (name_of_methodNamed Bd.named Bd.method).1
  have X0 : Stand p l e ({ frames := 1, cells := 0, slots := 0, locals := 13 } : Room) s m #[(.int wv), (.int wa), (.int wb)] below meth c s₁ [] 0 0 := Stand.of_body Bd
  have e0 : s₁.heap = h0 := by rw [← hh, Bd.state]; rfl
  have N0 := Fr.nil n0
  suffices k0 : Gl p e below s (Q_rm27 Z wv wa wb  h0 n0) ({ frames := 1, cells := 0, slots := 0, locals := 13 } : Room).cells ({ frames := 1, cells := 0, slots := 0, locals := 13 } : Room).slots s₁ (mkF m 0 #[vI wv, vI wa, vI wb] []) from Gl.st (fun τ κ => castTop (ef_rm27 m wv wa wb) κ) k0
  refine Gl.st (g' := (mkF m 1 #[vI wv, vI wa, vI wb] [(.int wa)])) (fun τ κ => XS.iloadN X0.here hx rfl (hb hby d27_0) rfl κ) ?_
  by_cases hc963 : wa < (0 : Int32)
  · -- pc 1: wa < (0 : Int32)
    refine Gl.st (g' := (mkF m 19 #[vI wv, vI wa, vI wb] [(.int (0 : Int32))])) (fun τ κ => XS.ifYes X0.here hx rfl (pc0 := 1) (pc' := 18) rfl (hb hby d27_1) rfl ((if0 _ _).trans (tlt hc963).1) (by decide) (by decide) (XS.iconst X0.here hx rfl (hb hby d27_18) κ)) ?_
    exact Gl.ret (v := some (.int (0 : Int32))) X0 Bd.notSynchronized (fun h => by rw [Bd.returns] at h; cases h) e0 (fun fs hr => retN X0 hx (t := .boolean) Bd.returns (by simp) (hb hby d27_19) hr) (by decide) (by decide) ⟨by simp only [own_pass, own_narB, hc963, if_true, if_false], N0, rfl⟩
  · -- pc 1: not wa < (0 : Int32)
    refine Gl.st (g' := (mkF m 5 #[vI wv, vI wa, vI wb] [(.int wa)])) (fun τ κ => XS.ifNo X0.here hx rfl (hb hby d27_1) rfl ((if0 _ _).trans (flt hc963).1) (XS.iloadN X0.here hx rfl (hb hby d27_4) rfl κ)) ?_
    refine Gl.st (g' := (mkF m 6 #[vI wv, vI wa, vI wb] [(.int (2 : Int32)), (.int wa)])) (fun τ κ => XS.iconst X0.here hx rfl (hb hby d27_5) κ) ?_
    by_cases hc964 : (2 : Int32) < wa
    · -- pc 6: (2 : Int32) < wa
      refine Gl.st (g' := (mkF m 19 #[vI wv, vI wa, vI wb] [(.int (0 : Int32))])) (fun τ κ => XS.icmpYes X0.here hx rfl (pc0 := 6) (pc' := 18) rfl (hb hby d27_6) rfl (tlt hc964).2.2.1 (by decide) (by decide) (XS.iconst X0.here hx rfl (hb hby d27_18) κ)) ?_
      exact Gl.ret (v := some (.int (0 : Int32))) X0 Bd.notSynchronized (fun h => by rw [Bd.returns] at h; cases h) e0 (fun fs hr => retN X0 hx (t := .boolean) Bd.returns (by simp) (hb hby d27_19) hr) (by decide) (by decide) ⟨by simp only [own_pass, own_narB, hc963, hc964, if_true, if_false], N0, rfl⟩
    · -- pc 6: not (2 : Int32) < wa
      refine Gl.st (g' := (mkF m 10 #[vI wv, vI wa, vI wb] [(.int wb)])) (fun τ κ => XS.icmpNo X0.here hx rfl (hb hby d27_6) rfl (flt hc964).2.2.1 (XS.iloadN X0.here hx rfl (hb hby d27_9) rfl κ)) ?_
      by_cases hc965 : wb < (0 : Int32)
      · -- pc 10: wb < (0 : Int32)
        refine Gl.st (g' := (mkF m 19 #[vI wv, vI wa, vI wb] [(.int (0 : Int32))])) (fun τ κ => XS.ifYes X0.here hx rfl (pc0 := 10) (pc' := 18) rfl (hb hby d27_10) rfl ((if0 _ _).trans (tlt hc965).1) (by decide) (by decide) (XS.iconst X0.here hx rfl (hb hby d27_18) κ)) ?_
        exact Gl.ret (v := some (.int (0 : Int32))) X0 Bd.notSynchronized (fun h => by rw [Bd.returns] at h; cases h) e0 (fun fs hr => retN X0 hx (t := .boolean) Bd.returns (by simp) (hb hby d27_19) hr) (by decide) (by decide) ⟨by simp only [own_pass, own_narB, hc963, hc964, hc965, if_true, if_false], N0, rfl⟩
      · -- pc 10: not wb < (0 : Int32)
        refine Gl.st (g' := (mkF m 14 #[vI wv, vI wa, vI wb] [(.int wb)])) (fun τ κ => XS.ifNo X0.here hx rfl (hb hby d27_10) rfl ((if0 _ _).trans (flt hc965).1) (XS.iloadN X0.here hx rfl (hb hby d27_13) rfl κ)) ?_
        refine Gl.st (g' := (mkF m 15 #[vI wv, vI wa, vI wb] [(.int (2 : Int32)), (.int wb)])) (fun τ κ => XS.iconst X0.here hx rfl (hb hby d27_14) κ) ?_
        by_cases hc966 : (2 : Int32) < wb
        · -- pc 15: (2 : Int32) < wb
          refine Gl.st (g' := (mkF m 19 #[vI wv, vI wa, vI wb] [(.int (0 : Int32))])) (fun τ κ => XS.icmpNo X0.here hx rfl (hb hby d27_15) rfl (tlt hc966).2.2.2 (XS.iconst X0.here hx rfl (hb hby d27_18) κ)) ?_
          exact Gl.ret (v := some (.int (0 : Int32))) X0 Bd.notSynchronized (fun h => by rw [Bd.returns] at h; cases h) e0 (fun fs hr => retN X0 hx (t := .boolean) Bd.returns (by simp) (hb hby d27_19) hr) (by decide) (by decide) ⟨by simp only [own_pass, own_narB, hc963, hc964, hc965, hc966, if_true, if_false], N0, rfl⟩
        · -- pc 15: not (2 : Int32) < wb
          refine Gl.st (g' := (mkF m 21 #[vI wv, vI wa, vI wb] [(.int wv)])) (fun τ κ => XS.icmpYes X0.here hx rfl (pc0 := 15) (pc' := 20) rfl (hb hby d27_15) rfl (flt hc966).2.2.2 (by decide) (by decide) (XS.iloadN X0.here hx rfl (hb hby d27_20) rfl κ)) ?_
          refine Gl.st (g' := (mkF m 23 #[vI wv, vI wa, vI wb] [(.int (3 : Int32)), (.int wb), (.int wv)])) (fun τ κ => XS.iloadN X0.here hx rfl (hb hby d27_21) rfl (XS.iconst X0.here hx rfl (hb hby d27_22) κ)) ?_
          refine Gl.st (g' := (mkF m 25 #[vI wv, vI wa, vI wb] [(.int wa), (.int (wb * (3 : Int32))), (.int wv)])) (fun τ κ => XS.imul X0.here hx rfl (hb hby d27_23) rfl (XS.iloadN X0.here hx rfl (hb hby d27_24) rfl κ)) ?_
          refine Gl.st (g' := (mkF m 26 #[vI wv, vI wa, vI wb] [(.int ((wb * (3 : Int32)) + wa)), (.int wv)])) (fun τ κ => XS.iadd X0.here hx rfl (hb hby d27_25) rfl κ) ?_
          obtain ⟨rv967, _, ⟨T967, L967, k967, n967⟩, -, X967, ⟨Lc967, hQ967, l967, y967, z967⟩, st967⟩ := Jvm.LawKit.callS X0 hx (y := (⟨"com/example/wanderpath/wanderpath/GridCanStepPinLaw", "bit", "(II)Z"⟩ : MethodName)) hown (mvT hZ (w5_ hw)) (mvT hZ (w6_ hw)) (mvT hZ (w3_ hw)) (mvT hZ (w7_ hw)) (by decide) (backOf (W := 0) (rm2 l Z a0 hw [] wv ((wb * (3 : Int32)) + wa) h0 n0 Z0 ) hZ (w7_ hw) (w3_ hw) (by decide) (by decide)) (g := (mkF m 26 #[vI wv, vI wa, vI wb] [(.int ((wb * (3 : Int32)) + wa)), (.int wv)])) rfl (by rw [hml]; rfl) (argsL := [(.int wv), (.int ((wb * (3 : Int32)) + wa))]) (rest := []) (lenOf pd_8 rfl) rfl (by show 2 * 0 + _ ≤ _; exact Nat.le_of_eq rfl) (hb hby d27_26) (fun _ _ => ⟨rfl, e0, Nat.le_of_ble_eq_true rfl, Nat.le_of_ble_eq_true rfl⟩)
          dsimp only [Pt.U, Pt.locs, Pt.cells, Pt.slots] at X967 l967 y967 z967 st967 hQ967
          subst l967 y967 z967
          have X967 := X967.more (cells' := 0) (slots' := 0) (by decide) (by decide)
          obtain ⟨hq967, N967q, e967⟩ := hQ967
          have hq967 : rv967 = some (.int (own_bit wv ((wb * (3 : Int32)) + wa))) := hq967
          subst hq967
          have N967 := Fr.app N0 N967q
          obtain ⟨Lw967, X967, N967⟩ := own_locG X967 N967
          refine Gl.st (g' := (mkF m 29 #[vI wv, vI wa, vI wb] [(.int (own_bit wv ((wb * (3 : Int32)) + wa)))])) (fun τ κ => st967 _ κ) ?_
          exact Gl.ret (v := some (.int (nar .boolean (own_bit wv ((wb * (3 : Int32)) + wa))))) X967 Bd.notSynchronized (fun h => by rw [Bd.returns] at h; cases h) e967 (fun fs hr => retN X967 hx (t := .boolean) Bd.returns (by simp) (hb hby d27_29) hr) (by decide) (by decide) ⟨by simp only [own_pass, own_narB, hc963, hc964, hc965, hc966, if_true, if_false], N967, rfl⟩
theorem d24_0 : decode prog_11_method_14_code 0 = .ok (.aload_n 1, 1) := by decide +kernel
theorem d24_1 : decode prog_11_method_14_code 1 = .ok (.iload_n 2, 1) := by decide +kernel
theorem d24_2 : decode prog_11_method_14_code 2 = .ok (.aload_n 0, 1) := by decide +kernel
theorem d24_3 : decode prog_11_method_14_code 3 = .ok (.getfield 25, 3) := by decide +kernel
theorem d24_6 : decode prog_11_method_14_code 6 = .ok (.iload_n 3, 1) := by decide +kernel
theorem d24_7 : decode prog_11_method_14_code 7 = .ok (.iaload, 1) := by decide +kernel
theorem d24_8 : decode prog_11_method_14_code 8 = .ok (.iadd, 1) := by decide +kernel
theorem d24_9 : decode prog_11_method_14_code 9 = .ok (.baload, 1) := by decide +kernel
theorem d24_10 : decode prog_11_method_14_code 10 = .ok (.ifCond .ne 51, 3) := by decide +kernel
theorem d24_13 : decode prog_11_method_14_code 13 = .ok (.iload_n 3, 1) := by decide +kernel
theorem d24_14 : decode prog_11_method_14_code 14 = .ok (.iconst 4, 1) := by decide +kernel
theorem d24_15 : decode prog_11_method_14_code 15 = .ok (.if_icmp .lt 42, 3) := by decide +kernel
theorem d24_57 : decode prog_11_method_14_code 57 = .ok (.iconst 1, 1) := by decide +kernel
theorem d24_58 : decode prog_11_method_14_code 58 = .ok (.goto 4, 3) := by decide +kernel
theorem d24_62 : decode prog_11_method_14_code 62 = .ok (.ireturn, 1) := by decide +kernel
theorem d24_18 : decode prog_11_method_14_code 18 = .ok (.aload_n 0, 1) := by decide +kernel
theorem d24_19 : decode prog_11_method_14_code 19 = .ok (.getfield 38, 3) := by decide +kernel
theorem d24_22 : decode prog_11_method_14_code 22 = .ok (.iload_n 2, 1) := by decide +kernel
theorem d24_23 : decode prog_11_method_14_code 23 = .ok (.aload_n 0, 1) := by decide +kernel
theorem d24_24 : decode prog_11_method_14_code 24 = .ok (.getfield 29, 3) := by decide +kernel
theorem d24_27 : decode prog_11_method_14_code 27 = .ok (.iload_n 3, 1) := by decide +kernel
theorem d24_28 : decode prog_11_method_14_code 28 = .ok (.iaload, 1) := by decide +kernel
theorem d24_29 : decode prog_11_method_14_code 29 = .ok (.iadd, 1) := by decide +kernel
theorem d24_30 : decode prog_11_method_14_code 30 = .ok (.baload, 1) := by decide +kernel
theorem d24_31 : decode prog_11_method_14_code 31 = .ok (.ifCond .ne 30, 3) := by decide +kernel
theorem d24_34 : decode prog_11_method_14_code 34 = .ok (.aload_n 0, 1) := by decide +kernel
theorem d24_35 : decode prog_11_method_14_code 35 = .ok (.getfield 38, 3) := by decide +kernel
theorem d24_38 : decode prog_11_method_14_code 38 = .ok (.iload_n 2, 1) := by decide +kernel
theorem d24_39 : decode prog_11_method_14_code 39 = .ok (.aload_n 0, 1) := by decide +kernel
theorem d24_40 : decode prog_11_method_14_code 40 = .ok (.getfield 25, 3) := by decide +kernel
theorem d24_43 : decode prog_11_method_14_code 43 = .ok (.iload_n 3, 1) := by decide +kernel
theorem d24_44 : decode prog_11_method_14_code 44 = .ok (.iaload, 1) := by decide +kernel
theorem d24_45 : decode prog_11_method_14_code 45 = .ok (.iadd, 1) := by decide +kernel
theorem d24_46 : decode prog_11_method_14_code 46 = .ok (.aload_n 0, 1) := by decide +kernel
theorem d24_47 : decode prog_11_method_14_code 47 = .ok (.getfield 29, 3) := by decide +kernel
theorem d24_50 : decode prog_11_method_14_code 50 = .ok (.iload_n 3, 1) := by decide +kernel
theorem d24_51 : decode prog_11_method_14_code 51 = .ok (.iaload, 1) := by decide +kernel
theorem d24_52 : decode prog_11_method_14_code 52 = .ok (.isub, 1) := by decide +kernel
theorem d24_53 : decode prog_11_method_14_code 53 = .ok (.baload, 1) := by decide +kernel
theorem d24_54 : decode prog_11_method_14_code 54 = .ok (.ifCond .ne 7, 3) := by decide +kernel
theorem d24_61 : decode prog_11_method_14_code 61 = .ok (.iconst 0, 1) := by decide +kernel
theorem ef_rm24 (m : MethodId) (gr : Addr) (bb : Addr) (qc : Int32) (ix : Int32) : entryFrame m #[(.ref gr), (.ref bb), (.int qc), (.int ix)] 4 = mkF m 0 #[vR gr, vR bb, vI qc, vI ix] [] := by first | (simp [entryFrame, mkF, argsToLocals, Value.category]; done) | rfl
def Q_rm24 (Z : State) (gr : Addr) (bb : Addr) (qc : Int32) (ix : Int32) (s1 s2 bk : Addr) (k1 k2 kb kq : ClassId) (n1 n2 tv bv : Int32) (v1 v2 vs vb : List Value) (h0 : Heap) (n0 : Nat) (v : Option Value) (h : Heap) (L : List Loc) : Prop := v = some (.int (own_cs bv tv qc ix)) ∧ Fr n0 L ∧ h = h0
set_option maxRecDepth 65536 in
set_option maxHeartbeats 40000000 in
theorem rm24 (l : Launch) (Z : State) (a0 : Array Value) (hw : ∀ d ∈ tables_1, d.before a0 Z = true) (ws : List Jvm.Cond) (gr : Addr) (bb : Addr) (qc : Int32) (ix : Int32) (s1 s2 bk : Addr) (k1 k2 kb kq : ClassId) (n1 n2 tv bv : Int32) (v1 v2 vs vb : List Value) (h0 : Heap) (n0 : Nat) (Z0 : n0 ≤ h0.size) (FT : Fld Z h0 gr "com/example/wanderpath/wanderpath/Grid" "steps" "[I" (.ref s1)) (FR : Fld Z h0 gr "com/example/wanderpath/wanderpath/Grid" "rowPart" "[I" (.ref s2)) (FB : Fld Z h0 gr "com/example/wanderpath/wanderpath/Grid" "blocked" "[Z" (.ref bk)) (V1 : Arv Z h0 s1 k1 .int n1 v1 (.int (0 : Int32))) (V2 : Arv Z h0 s2 k2 .int n2 v2 (.int (0 : Int32))) (Vk : Arv Z h0 bk kb .boolean (25 : Int32) vs (.int (0 : Int32))) (Vq : Arv Z h0 bb kq .boolean (25 : Int32) vb (.int (0 : Int32))) (I : own_inv tv (25 : Int32) vs) (J : ∀ i, ¬ i < 0 → i < (25 : Int32) → vb.getD i.toNatClampNeg (.int (0 : Int32)) = .int (own_bit bv i)) (hi : ¬ ix < 0 ∧ ix < n1) (H1 : v1.getD ix.toNatClampNeg (.int (0 : Int32)) = .int (own_st ix)) (hj : ¬ ix < (4 : Int32) → ¬ ix < 0 ∧ ix < n2) (H2 : ¬ ix < (4 : Int32) → v2.getD ix.toNatClampNeg (.int (0 : Int32)) = .int (own_rp ix)) (b1 : (¬ (qc + (own_st ix)) < 0 ∧ (qc + (own_st ix)) < 25)) (b2 : (¬ (qc + (own_rp ix)) < 0 ∧ (qc + (own_rp ix)) < 25)) (b3 : (¬ ((qc + (own_st ix)) - (own_rp ix)) < 0 ∧ ((qc + (own_st ix)) - (own_rp ix)) < 25)) :
    MetFree l (⟨"com/example/wanderpath/wanderpath/Grid", "canStep", "([ZII)Z"⟩ : MethodName) (head1 (Jvm.Cond.code (⟨"com/example/wanderpath/wanderpath/Grid", "canStep", "([ZII)Z"⟩ : MethodName) prog_11_method_14_code 4 (some .boolean) :: ws) ({ frames := 0, cells := 0, slots := 0, locals := 0 } : Room)) (fun aα Uα => aα = #[(.ref gr), (.ref bb), (.int qc), (.int ix)] ∧ Z.Warmed39 Uα.vm ∧ Uα.heap = h0) (fun _ _ _ _ _ => True) (fun _ Uα oα Uβ => ∃ vα Lα, oα = .returned vα ∧ Q_rm24 Z gr bb qc ix s1 s2 bk k1 k2 kb kq n1 n2 tv bv v1 v2 vs vb h0 n0 vα Uβ.heap Lα ∧ FrameEnd Uα oα Uβ Lα ({ frames := 0, cells := 0, slots := 0, locals := 0 } : Room).cells ({ frames := 0, cells := 0, slots := 0, locals := 0 } : Room).slots) := by
  refine MetFree.of_bodySF (plainFor_of_name pn_com_example_wanderpath_wanderpath_Grid) hisR ?_
  intro p e s m args below meth c s₁ Bd hml0 hP hKα
  obtain ⟨rfl, hZ, hh⟩ := hP
  have hx := Bd.exec
  have hby := Bd.bytes
  have hml : c.maxLocals = 4 := hml0
  have hown : s.vm.findClass "com/example/wanderpath/wanderpath/Grid" = some m.cls := findClass_of_methodNamed Bd.named
  have hnm := (name_of_methodNamed Bd.named Bd.method).1
  have X0 : Stand p l e ({ frames := 0, cells := 0, slots := 0, locals := 0 } : Room) s m #[(.ref gr), (.ref bb), (.int qc), (.int ix)] below meth c s₁ [] 0 0 := Stand.of_body Bd
  have e0 : s₁.heap = h0 := by rw [← hh, Bd.state]; rfl
  have N0 := Fr.nil n0
  suffices k0 : Gl p e below s (Q_rm24 Z gr bb qc ix s1 s2 bk k1 k2 kb kq n1 n2 tv bv v1 v2 vs vb h0 n0) ({ frames := 0, cells := 0, slots := 0, locals := 0 } : Room).cells ({ frames := 0, cells := 0, slots := 0, locals := 0 } : Room).slots s₁ (mkF m 0 #[vR gr, vR bb, vI qc, vI ix] []) from Gl.st (fun τ κ => castTop (ef_rm24 m gr bb qc ix) κ) k0
  refine Gl.st (g' := (mkF m 2 #[vR gr, vR bb, vI qc, vI ix] [(.int qc), (.ref bb)])) (fun τ κ => XS.aloadN X0.here hx rfl (hb hby d24_0) rfl rfl (XS.iloadN X0.here hx rfl (hb hby d24_1) rfl κ)) ?_
  refine Gl.st (g' := (mkF m 3 #[vR gr, vR bb, vI qc, vI ix] [(.ref gr), (.int qc), (.ref bb)])) (fun τ κ => XS.aloadN X0.here hx rfl (hb hby d24_2) rfl rfl κ) ?_
  obtain ⟨T968, X968, e968, st968⟩ := getF X0 hx hZ hown (host := "") (Or.inl (w102_ hw)) Via.refl e0 FT (g := (mkF m 3 #[vR gr, vR bb, vI qc, vI ix] [(.ref gr), (.int qc), (.ref bb)])) rfl rfl (hb hby d24_3)
  refine Gl.st (g' := (mkF m 6 #[vR gr, vR bb, vI qc, vI ix] [(.ref s1), (.int qc), (.ref bb)])) (fun τ κ => st968 _ κ) ?_
  refine Gl.st (g' := (mkF m 7 #[vR gr, vR bb, vI qc, vI ix] [(.int ix), (.ref s1), (.int qc), (.ref bb)])) (fun τ κ => XS.iloadN X968.here hx rfl (hb hby d24_6) rfl κ) ?_
  obtain ⟨cl_o969, Ar_o969, q_o969, S_o969, M_o969, H_o969, G_o969⟩ := id V1
  have hin_o969 : ¬ (ix < 0 ∨ cl_o969.slots.size ≤ (ix).toNatClampNeg) := inb_of S_o969 hi
  refine Gl.st (g' := (mkF m 8 #[vR gr, vR bb, vI qc, vI ix] [(.int (own_st ix)), (.int qc), (.ref bb)])) (fun τ κ => X968.iaload hx (j := ix) (v := (.int (own_st ix))) (by rw [e968]; exact Ar_o969.1) (State.isArrayOf_alike hZ.alike Ar_o969.2.1) Ar_o969.2.2 hin_o969 ((H_o969 _ (Nat.lt_of_not_le fun q => hin_o969 (Or.inr q))).trans (congrArg some H1)) (g := (mkF m 7 #[vR gr, vR bb, vI qc, vI ix] [(.int ix), (.ref s1), (.int qc), (.ref bb)])) rfl rfl (hb hby d24_7) _ κ) ?_
  refine Gl.st (g' := (mkF m 9 #[vR gr, vR bb, vI qc, vI ix] [(.int (qc + (own_st ix))), (.ref bb)])) (fun τ κ => XS.iadd X968.here hx rfl (hb hby d24_8) rfl κ) ?_
  obtain ⟨cl_o970, Ar_o970, q_o970, S_o970, M_o970, H_o970, G_o970⟩ := id Vq
  have hin_o970 : ¬ ((qc + (own_st ix)) < 0 ∨ cl_o970.slots.size ≤ ((qc + (own_st ix))).toNatClampNeg) := inb_of S_o970 b1
  refine Gl.st (g' := (mkF m 10 #[vR gr, vR bb, vI qc, vI ix] [(.int (own_bit bv (qc + (own_st ix))))])) (fun τ κ => X968.baloadBooleans hx (j := (qc + (own_st ix))) (v := (.int (own_bit bv (qc + (own_st ix))))) (by rw [e968]; exact Ar_o970.1) (State.isArrayOf_alike hZ.alike Ar_o970.2.1) Ar_o970.2.2 hin_o970 ((H_o970 _ (Nat.lt_of_not_le fun q => hin_o970 (Or.inr q))).trans (congrArg some (J _ b1.1 b1.2))) (g := (mkF m 9 #[vR gr, vR bb, vI qc, vI ix] [(.int (qc + (own_st ix))), (.ref bb)])) rfl rfl (hb hby d24_9) _ κ) ?_
  by_cases hc971 : (own_bit bv (qc + (own_st ix))) = (0 : Int32)
  · -- pc 10: (own_bit bv (qc + (own_st ix))) = (0 : Int32)
    refine Gl.st (g' := (mkF m 14 #[vR gr, vR bb, vI qc, vI ix] [(.int ix)])) (fun τ κ => XS.ifNo X968.here hx rfl (hb hby d24_10) rfl ((if0 _ _).trans (teq hc971).2) (XS.iloadN X968.here hx rfl (hb hby d24_13) rfl κ)) ?_
    refine Gl.st (g' := (mkF m 15 #[vR gr, vR bb, vI qc, vI ix] [(.int (4 : Int32)), (.int ix)])) (fun τ κ => XS.iconst X968.here hx rfl (hb hby d24_14) κ) ?_
    by_cases hc972 : ix < (4 : Int32)
    · -- pc 15: ix < (4 : Int32)
      refine Gl.st (g' := (mkF m 58 #[vR gr, vR bb, vI qc, vI ix] [(.int (1 : Int32))])) (fun τ κ => XS.icmpYes X968.here hx rfl (pc0 := 15) (pc' := 57) rfl (hb hby d24_15) rfl (tlt hc972).1 (by decide) (by decide) (XS.iconst X968.here hx rfl (hb hby d24_57) κ)) ?_
      refine Gl.st (g' := (mkF m 62 #[vR gr, vR bb, vI qc, vI ix] [(.int (1 : Int32))])) (fun τ κ => XS.goto X968.here hx rfl (pc0 := 58) (pc' := 62) rfl (hb hby d24_58) (by decide) (by decide) κ) ?_
      exact Gl.ret (v := some (.int (1 : Int32))) X968 Bd.notSynchronized (fun h => by rw [Bd.returns] at h; cases h) e968 (fun fs hr => retN X968 hx (t := .boolean) Bd.returns (by simp) (hb hby d24_62) hr) (by decide) (by decide) ⟨by simp only [own_cs, hc971, hc972, if_true, if_false], N0, rfl⟩
    · -- pc 15: not ix < (4 : Int32)
      refine Gl.st (g' := (mkF m 19 #[vR gr, vR bb, vI qc, vI ix] [(.ref gr)])) (fun τ κ => XS.icmpNo X968.here hx rfl (hb hby d24_15) rfl (flt hc972).1 (XS.aloadN X968.here hx rfl (hb hby d24_18) rfl rfl κ)) ?_
      obtain ⟨T973, X973, e973, st973⟩ := getF X968 hx hZ hown (host := "") (Or.inl (w113_ hw)) Via.refl e968 FB (g := (mkF m 19 #[vR gr, vR bb, vI qc, vI ix] [(.ref gr)])) rfl rfl (hb hby d24_19)
      refine Gl.st (g' := (mkF m 22 #[vR gr, vR bb, vI qc, vI ix] [(.ref bk)])) (fun τ κ => st973 _ κ) ?_
      refine Gl.st (g' := (mkF m 24 #[vR gr, vR bb, vI qc, vI ix] [(.ref gr), (.int qc), (.ref bk)])) (fun τ κ => XS.iloadN X973.here hx rfl (hb hby d24_22) rfl (XS.aloadN X973.here hx rfl (hb hby d24_23) rfl rfl κ)) ?_
      obtain ⟨T974, X974, e974, st974⟩ := getF X973 hx hZ hown (host := "") (Or.inl (w104_ hw)) Via.refl e973 FR (g := (mkF m 24 #[vR gr, vR bb, vI qc, vI ix] [(.ref gr), (.int qc), (.ref bk)])) rfl rfl (hb hby d24_24)
      refine Gl.st (g' := (mkF m 27 #[vR gr, vR bb, vI qc, vI ix] [(.ref s2), (.int qc), (.ref bk)])) (fun τ κ => st974 _ κ) ?_
      refine Gl.st (g' := (mkF m 28 #[vR gr, vR bb, vI qc, vI ix] [(.int ix), (.ref s2), (.int qc), (.ref bk)])) (fun τ κ => XS.iloadN X974.here hx rfl (hb hby d24_27) rfl κ) ?_
      obtain ⟨cl_o975, Ar_o975, q_o975, S_o975, M_o975, H_o975, G_o975⟩ := id V2
      have hin_o975 : ¬ (ix < 0 ∨ cl_o975.slots.size ≤ (ix).toNatClampNeg) := inb_of S_o975 (hj hc972)
      refine Gl.st (g' := (mkF m 29 #[vR gr, vR bb, vI qc, vI ix] [(.int (own_rp ix)), (.int qc), (.ref bk)])) (fun τ κ => X974.iaload hx (j := ix) (v := (.int (own_rp ix))) (by rw [e974]; exact Ar_o975.1) (State.isArrayOf_alike hZ.alike Ar_o975.2.1) Ar_o975.2.2 hin_o975 ((H_o975 _ (Nat.lt_of_not_le fun q => hin_o975 (Or.inr q))).trans (congrArg some (H2 hc972))) (g := (mkF m 28 #[vR gr, vR bb, vI qc, vI ix] [(.int ix), (.ref s2), (.int qc), (.ref bk)])) rfl rfl (hb hby d24_28) _ κ) ?_
      refine Gl.st (g' := (mkF m 30 #[vR gr, vR bb, vI qc, vI ix] [(.int (qc + (own_rp ix))), (.ref bk)])) (fun τ κ => XS.iadd X974.here hx rfl (hb hby d24_29) rfl κ) ?_
      obtain ⟨cl_o976, Ar_o976, q_o976, S_o976, M_o976, H_o976, G_o976⟩ := id Vk
      have hin_o976 : ¬ ((qc + (own_rp ix)) < 0 ∨ cl_o976.slots.size ≤ ((qc + (own_rp ix))).toNatClampNeg) := inb_of S_o976 b2
      refine Gl.st (g' := (mkF m 31 #[vR gr, vR bb, vI qc, vI ix] [(.int (own_blk tv (qc + (own_rp ix))))])) (fun τ κ => X974.baloadBooleans hx (j := (qc + (own_rp ix))) (v := (.int (own_blk tv (qc + (own_rp ix))))) (by rw [e974]; exact Ar_o976.1) (State.isArrayOf_alike hZ.alike Ar_o976.2.1) Ar_o976.2.2 hin_o976 ((H_o976 _ (Nat.lt_of_not_le fun q => hin_o976 (Or.inr q))).trans (congrArg some (I _ b2.1 b2.2))) (g := (mkF m 30 #[vR gr, vR bb, vI qc, vI ix] [(.int (qc + (own_rp ix))), (.ref bk)])) rfl rfl (hb hby d24_30) _ κ) ?_
      by_cases hc977 : (own_blk tv (qc + (own_rp ix))) = (0 : Int32)
      · -- pc 31: (own_blk tv (qc + (own_rp ix))) = (0 : Int32)
        refine Gl.st (g' := (mkF m 35 #[vR gr, vR bb, vI qc, vI ix] [(.ref gr)])) (fun τ κ => XS.ifNo X974.here hx rfl (hb hby d24_31) rfl ((if0 _ _).trans (teq hc977).2) (XS.aloadN X974.here hx rfl (hb hby d24_34) rfl rfl κ)) ?_
        obtain ⟨T978, X978, e978, st978⟩ := getF X974 hx hZ hown (host := "") (Or.inl (w113_ hw)) Via.refl e974 FB (g := (mkF m 35 #[vR gr, vR bb, vI qc, vI ix] [(.ref gr)])) rfl rfl (hb hby d24_35)
        refine Gl.st (g' := (mkF m 38 #[vR gr, vR bb, vI qc, vI ix] [(.ref bk)])) (fun τ κ => st978 _ κ) ?_
        refine Gl.st (g' := (mkF m 40 #[vR gr, vR bb, vI qc, vI ix] [(.ref gr), (.int qc), (.ref bk)])) (fun τ κ => XS.iloadN X978.here hx rfl (hb hby d24_38) rfl (XS.aloadN X978.here hx rfl (hb hby d24_39) rfl rfl κ)) ?_
        obtain ⟨T979, X979, e979, st979⟩ := getF X978 hx hZ hown (host := "") (Or.inl (w102_ hw)) Via.refl e978 FT (g := (mkF m 40 #[vR gr, vR bb, vI qc, vI ix] [(.ref gr), (.int qc), (.ref bk)])) rfl rfl (hb hby d24_40)
        refine Gl.st (g' := (mkF m 43 #[vR gr, vR bb, vI qc, vI ix] [(.ref s1), (.int qc), (.ref bk)])) (fun τ κ => st979 _ κ) ?_
        refine Gl.st (g' := (mkF m 44 #[vR gr, vR bb, vI qc, vI ix] [(.int ix), (.ref s1), (.int qc), (.ref bk)])) (fun τ κ => XS.iloadN X979.here hx rfl (hb hby d24_43) rfl κ) ?_
        obtain ⟨cl_o980, Ar_o980, q_o980, S_o980, M_o980, H_o980, G_o980⟩ := id V1
        have hin_o980 : ¬ (ix < 0 ∨ cl_o980.slots.size ≤ (ix).toNatClampNeg) := inb_of S_o980 hi
        refine Gl.st (g' := (mkF m 45 #[vR gr, vR bb, vI qc, vI ix] [(.int (own_st ix)), (.int qc), (.ref bk)])) (fun τ κ => X979.iaload hx (j := ix) (v := (.int (own_st ix))) (by rw [e979]; exact Ar_o980.1) (State.isArrayOf_alike hZ.alike Ar_o980.2.1) Ar_o980.2.2 hin_o980 ((H_o980 _ (Nat.lt_of_not_le fun q => hin_o980 (Or.inr q))).trans (congrArg some H1)) (g := (mkF m 44 #[vR gr, vR bb, vI qc, vI ix] [(.int ix), (.ref s1), (.int qc), (.ref bk)])) rfl rfl (hb hby d24_44) _ κ) ?_
        refine Gl.st (g' := (mkF m 47 #[vR gr, vR bb, vI qc, vI ix] [(.ref gr), (.int (qc + (own_st ix))), (.ref bk)])) (fun τ κ => XS.iadd X979.here hx rfl (hb hby d24_45) rfl (XS.aloadN X979.here hx rfl (hb hby d24_46) rfl rfl κ)) ?_
        obtain ⟨T981, X981, e981, st981⟩ := getF X979 hx hZ hown (host := "") (Or.inl (w104_ hw)) Via.refl e979 FR (g := (mkF m 47 #[vR gr, vR bb, vI qc, vI ix] [(.ref gr), (.int (qc + (own_st ix))), (.ref bk)])) rfl rfl (hb hby d24_47)
        refine Gl.st (g' := (mkF m 50 #[vR gr, vR bb, vI qc, vI ix] [(.ref s2), (.int (qc + (own_st ix))), (.ref bk)])) (fun τ κ => st981 _ κ) ?_
        refine Gl.st (g' := (mkF m 51 #[vR gr, vR bb, vI qc, vI ix] [(.int ix), (.ref s2), (.int (qc + (own_st ix))), (.ref bk)])) (fun τ κ => XS.iloadN X981.here hx rfl (hb hby d24_50) rfl κ) ?_
        obtain ⟨cl_o982, Ar_o982, q_o982, S_o982, M_o982, H_o982, G_o982⟩ := id V2
        have hin_o982 : ¬ (ix < 0 ∨ cl_o982.slots.size ≤ (ix).toNatClampNeg) := inb_of S_o982 (hj hc972)
        refine Gl.st (g' := (mkF m 52 #[vR gr, vR bb, vI qc, vI ix] [(.int (own_rp ix)), (.int (qc + (own_st ix))), (.ref bk)])) (fun τ κ => X981.iaload hx (j := ix) (v := (.int (own_rp ix))) (by rw [e981]; exact Ar_o982.1) (State.isArrayOf_alike hZ.alike Ar_o982.2.1) Ar_o982.2.2 hin_o982 ((H_o982 _ (Nat.lt_of_not_le fun q => hin_o982 (Or.inr q))).trans (congrArg some (H2 hc972))) (g := (mkF m 51 #[vR gr, vR bb, vI qc, vI ix] [(.int ix), (.ref s2), (.int (qc + (own_st ix))), (.ref bk)])) rfl rfl (hb hby d24_51) _ κ) ?_
        refine Gl.st (g' := (mkF m 53 #[vR gr, vR bb, vI qc, vI ix] [(.int ((qc + (own_st ix)) - (own_rp ix))), (.ref bk)])) (fun τ κ => XS.isub X981.here hx rfl (hb hby d24_52) rfl κ) ?_
        obtain ⟨cl_o983, Ar_o983, q_o983, S_o983, M_o983, H_o983, G_o983⟩ := id Vk
        have hin_o983 : ¬ (((qc + (own_st ix)) - (own_rp ix)) < 0 ∨ cl_o983.slots.size ≤ (((qc + (own_st ix)) - (own_rp ix))).toNatClampNeg) := inb_of S_o983 b3
        refine Gl.st (g' := (mkF m 54 #[vR gr, vR bb, vI qc, vI ix] [(.int (own_blk tv ((qc + (own_st ix)) - (own_rp ix))))])) (fun τ κ => X981.baloadBooleans hx (j := ((qc + (own_st ix)) - (own_rp ix))) (v := (.int (own_blk tv ((qc + (own_st ix)) - (own_rp ix))))) (by rw [e981]; exact Ar_o983.1) (State.isArrayOf_alike hZ.alike Ar_o983.2.1) Ar_o983.2.2 hin_o983 ((H_o983 _ (Nat.lt_of_not_le fun q => hin_o983 (Or.inr q))).trans (congrArg some (I _ b3.1 b3.2))) (g := (mkF m 53 #[vR gr, vR bb, vI qc, vI ix] [(.int ((qc + (own_st ix)) - (own_rp ix))), (.ref bk)])) rfl rfl (hb hby d24_53) _ κ) ?_
        by_cases hc984 : (own_blk tv ((qc + (own_st ix)) - (own_rp ix))) = (0 : Int32)
        · -- pc 54: (own_blk tv ((qc + (own_st ix)) - (own_rp ix))) = (0 : Int32)
          refine Gl.st (g' := (mkF m 58 #[vR gr, vR bb, vI qc, vI ix] [(.int (1 : Int32))])) (fun τ κ => XS.ifNo X981.here hx rfl (hb hby d24_54) rfl ((if0 _ _).trans (teq hc984).2) (XS.iconst X981.here hx rfl (hb hby d24_57) κ)) ?_
          refine Gl.st (g' := (mkF m 62 #[vR gr, vR bb, vI qc, vI ix] [(.int (1 : Int32))])) (fun τ κ => XS.goto X981.here hx rfl (pc0 := 58) (pc' := 62) rfl (hb hby d24_58) (by decide) (by decide) κ) ?_
          exact Gl.ret (v := some (.int (1 : Int32))) X981 Bd.notSynchronized (fun h => by rw [Bd.returns] at h; cases h) e981 (fun fs hr => retN X981 hx (t := .boolean) Bd.returns (by simp) (hb hby d24_62) hr) (by decide) (by decide) ⟨by simp only [own_cs, hc971, hc972, hc977, hc984, if_true, if_false], N0, rfl⟩
        · -- pc 54: not (own_blk tv ((qc + (own_st ix)) - (own_rp ix))) = (0 : Int32)
          refine Gl.st (g' := (mkF m 62 #[vR gr, vR bb, vI qc, vI ix] [(.int (0 : Int32))])) (fun τ κ => XS.ifYes X981.here hx rfl (pc0 := 54) (pc' := 61) rfl (hb hby d24_54) rfl ((if0 _ _).trans (feq hc984).2) (by decide) (by decide) (XS.iconst X981.here hx rfl (hb hby d24_61) κ)) ?_
          exact Gl.ret (v := some (.int (0 : Int32))) X981 Bd.notSynchronized (fun h => by rw [Bd.returns] at h; cases h) e981 (fun fs hr => retN X981 hx (t := .boolean) Bd.returns (by simp) (hb hby d24_62) hr) (by decide) (by decide) ⟨by simp only [own_cs, hc971, hc972, hc977, hc984, if_true, if_false], N0, rfl⟩
      · -- pc 31: not (own_blk tv (qc + (own_rp ix))) = (0 : Int32)
        refine Gl.st (g' := (mkF m 62 #[vR gr, vR bb, vI qc, vI ix] [(.int (0 : Int32))])) (fun τ κ => XS.ifYes X974.here hx rfl (pc0 := 31) (pc' := 61) rfl (hb hby d24_31) rfl ((if0 _ _).trans (feq hc977).2) (by decide) (by decide) (XS.iconst X974.here hx rfl (hb hby d24_61) κ)) ?_
        exact Gl.ret (v := some (.int (0 : Int32))) X974 Bd.notSynchronized (fun h => by rw [Bd.returns] at h; cases h) e974 (fun fs hr => retN X974 hx (t := .boolean) Bd.returns (by simp) (hb hby d24_62) hr) (by decide) (by decide) ⟨by simp only [own_cs, hc971, hc972, hc977, if_true, if_false], N0, rfl⟩
  · -- pc 10: not (own_bit bv (qc + (own_st ix))) = (0 : Int32)
    refine Gl.st (g' := (mkF m 62 #[vR gr, vR bb, vI qc, vI ix] [(.int (0 : Int32))])) (fun τ κ => XS.ifYes X968.here hx rfl (pc0 := 10) (pc' := 61) rfl (hb hby d24_10) rfl ((if0 _ _).trans (feq hc971).2) (by decide) (by decide) (XS.iconst X968.here hx rfl (hb hby d24_61) κ)) ?_
    exact Gl.ret (v := some (.int (0 : Int32))) X968 Bd.notSynchronized (fun h => by rw [Bd.returns] at h; cases h) e968 (fun fs hr => retN X968 hx (t := .boolean) Bd.returns (by simp) (hb hby d24_62) hr) (by decide) (by decide) ⟨by simp only [own_cs, hc971, if_true, if_false], N0, rfl⟩
theorem pd_9 : parseMethodDescriptor "(II)B" = some ⟨[.int, .int], some .byte⟩ := by decide +kernel
theorem pd_10 : parseMethodDescriptor "(II[B)V" = some ⟨[.int, .int, (.array .byte)], none⟩ := by decide +kernel
theorem pd_11 : parseMethodDescriptor "(Lcom/example/wanderpath/wanderpath/TileMap;Lcom/example/wanderpath/wanderpath/Moves;)V" = some ⟨[(.object "com/example/wanderpath/wanderpath/TileMap"), (.object "com/example/wanderpath/wanderpath/Moves")], none⟩ := by decide +kernel
theorem pd_12 : parseMethodDescriptor "([ZII)Z" = some ⟨[(.array .boolean), .int, .int], some .boolean⟩ := by decide +kernel
theorem pd_13 : parseMethodDescriptor "(III)Z" = some ⟨[.int, .int, .int], some .boolean⟩ := by decide +kernel
theorem ef_rm0 (m : MethodId) (x0 : Int32) (x1 : Int32) (x2 : Int32) (x3 : Int32) (x4 : Int32) : entryFrame m #[(.int x0), (.int x1), (.int x2), (.int x3), (.int x4)] maxLocals = mkF m 0 #[vI x0, vI x1, vI x2, vI x3, vI x4, .unset, .unset, .unset, .unset, .unset, .unset, .unset, .unset, .unset, .unset, .unset, .unset, .unset, .unset, .unset] [] := by first | (simp [entryFrame, mkF, argsToLocals, Value.category, maxLocals]; done) | rfl
def Q_rm0 (Z : State) (x0 : Int32) (x1 : Int32) (x2 : Int32) (x3 : Int32) (x4 : Int32) (cs : Int32) (e8 f4 : Addr) (h0 : Heap) (n0 : Nat) (v : Option Value) (h : Heap) (L : List Loc) : Prop := v = some (.int 1) ∧ Fr n0 L
set_option maxRecDepth 65536 in
set_option maxHeartbeats 40000000 in
theorem rm0 (l : Launch) (Z : State) (a0 : Array Value) (hw : ∀ d ∈ tables_1, d.before a0 Z = true) (ws : List Jvm.Cond) (x0 : Int32) (x1 : Int32) (x2 : Int32) (x3 : Int32) (x4 : Int32) (cs : Int32) (e8 f4 : Addr) (h0 : Heap) (n0 : Nat) (Z0 : n0 ≤ h0.size) (S0 : Sta Z h0 "java/lang/String" "COMPACT_STRINGS" "Z" (.int cs)) (hcs : ¬ cs = (0 : Int32)) (S8 : Sta Z h0 "com/example/wanderpath/wanderpath/Moves" "EIGHT" "Lcom/example/wanderpath/wanderpath/Moves;" (.ref e8)) (S4 : Sta Z h0 "com/example/wanderpath/wanderpath/Moves" "FOUR" "Lcom/example/wanderpath/wanderpath/Moves;" (.ref f4)) (hfe : f4 ≠ e8) :
    MetFree l x (head1 (Jvm.Cond.code x code maxLocals ret :: ws) room_1) (fun aα Uα => aα = #[(.int x0), (.int x1), (.int x2), (.int x3), (.int x4)] ∧ Z.Warmed39 Uα.vm ∧ Uα.heap = h0 ∧ CHv Z own_EL Uα.vm h0 ∧ ∀ x ∈ ([] : List Addr), Safe Z own_EL Uα.vm h0 x) (fun _ _ _ _ _ => True) (fun _ Uα oα Uβ => ∃ vα Lα, oα = .returned vα ∧ Q_rm0 Z x0 x1 x2 x3 x4 cs e8 f4 h0 n0 vα Uβ.heap Lα ∧ ReturnedEndW Uα oα Uβ Lα 32 1280) := by
  refine MetFree.of_bodySF (plainFor_of_name pn_com_example_wanderpath_wanderpath_GridCanStepPinLaw) hisR ?_
  intro p e s m args below meth c s₁ Bd hml0 hP hKα
  obtain ⟨rfl, hZ, hh, hCH0, hsf0⟩ := hP
  have hx := Bd.exec
  have hby := Bd.bytes
  have hml : c.maxLocals = 20 := hml0
  have hown : s.vm.findClass "com/example/wanderpath/wanderpath/GridCanStepPinLaw" = some m.cls := findClass_of_methodNamed Bd.named
  have hnm := (name_of_methodNamed Bd.named Bd.method).1
  have hZ : Z.Warmed39 (s.setVm s.vm).vm := hZ
  have hown : (s.setVm s.vm).vm.findClass "com/example/wanderpath/wanderpath/GridCanStepPinLaw" = some m.cls := hown
  have hS0 : s.Since s.vm 0 := (State.WarmedH.refl s).since 0
  have X0 : Stand p l e room_1 (s.setVm s.vm) m #[(.int x0), (.int x1), (.int x2), (.int x3), (.int x4)] below meth c s₁ [] 0 0 := Stand.of_body Bd
  have e0 : s₁.heap = h0 := by rw [← hh, Bd.state]; rfl
  have N0 := Fr.nil n0
  suffices k0 : GlW p e below s (Q_rm0 Z x0 x1 x2 x3 x4 cs e8 f4 h0 n0) 32 1280 s₁ (mkF m 0 #[vI x0, vI x1, vI x2, vI x3, vI x4, .unset, .unset, .unset, .unset, .unset, .unset, .unset, .unset, .unset, .unset, .unset, .unset, .unset, .unset, .unset] []) from GlW.st (fun τ κ => castTop (ef_rm0 m x0 x1 x2 x3 x4) κ) k0
  refine GlW.st (g' := (mkF m 2 #[vI x0, vI x1, vI x2, vI x3, vI x4, .unset, .unset, .unset, .unset, .unset, .unset, .unset, .unset, .unset, .unset, .unset, .unset, .unset, .unset, .unset] [(.int (9 : Int32))])) (fun τ κ => XS.bipush X0.here hx rfl (hb hby at_0) κ) ?_
  obtain ⟨T985, h985, k985, X985, e985, E985, A985, st985⟩ := newP X0 hx hZ (hw _ (List.mem_of_getElem? (i := 0) rfl)) e0 (g := (mkF m 2 #[vI x0, vI x1, vI x2, vI x3, vI x4, .unset, .unset, .unset, .unset, .unset, .unset, .unset, .unset, .unset, .unset, .unset, .unset, .unset, .unset, .unset] [(.int (9 : Int32))])) rfl (hb hby at_2) rfl (by decide) (cap := 9) (by decide) (by decide) (by decide) (by decide)
  obtain ⟨b985, g985⟩ : ∃ z, z = h0.size := ⟨_, rfl⟩
  rw [← g985] at A985 st985
  have Yn985 : Safe Z own_EL s.vm h0 b985 := Safe.new (Nat.le_of_eq g985.symm)
  have Y985_b985 := Safe.ext E985 hCH0 Yn985
  have CH985 := hCH0.ext E985
  have hk985 := Nat.le_trans (Nat.zero_le _) E985.1
  have g_b985 : n0 ≤ b985 := Nat.le_trans Z0 (Nat.le_of_eq g985.symm)
  have sz_b985 : h0.size ≤ b985 := Nat.le_trans (Keep.refl h0 []).1 (Nat.le_of_eq g985.symm)
  have Z985 : n0 ≤ h985.size := Nat.le_trans Z0 E985.1
  have K985 : Keep h0 h985 [] := (Keep.refl h0 []).ext E985
  have V_b985 : Arv Z h985 b985 k985 .byte (9 : Int32) [(.int (0 : Int32)), (.int (0 : Int32)), (.int (0 : Int32)), (.int (0 : Int32)), (.int (0 : Int32)), (.int (0 : Int32)), (.int (0 : Int32)), (.int (0 : Int32)), (.int (0 : Int32))] (.int (0 : Int32)) := (Arv.new A985 (by decide)).pad (pad_rep [] (.int (0 : Int32)) 9)
  have X985 := X985.more (cells' := 1) (slots' := 9) (by decide) (by decide)
  refine GlW.st (g' := (mkF m 4 #[vI x0, vI x1, vI x2, vI x3, vI x4, .unset, .unset, .unset, .unset, .unset, .unset, .unset, .unset, .unset, .unset, .unset, .unset, .unset, .unset, .unset] [(.ref b985)])) (fun τ κ => st985 _ κ) ?_
  refine GlW.st (g' := (mkF m 6 #[vI x0, vI x1, vI x2, vI x3, vI x4, .unset, .unset, .unset, .unset, .unset, .unset, .unset, .unset, .unset, .unset, .unset, .unset, .unset, .unset, .unset] [(.int (0 : Int32)), (.ref b985), (.ref b985)])) (fun τ κ => XS.dup X985.here hx rfl (hb hby at_4) rfl rfl (XS.iconst X985.here hx rfl (hb hby at_5) κ)) ?_
  refine GlW.st (g' := (mkF m 8 #[vI x0, vI x1, vI x2, vI x3, vI x4, .unset, .unset, .unset, .unset, .unset, .unset, .unset, .unset, .unset, .unset, .unset, .unset, .unset, .unset, .unset] [(.int (0 : Int32)), (.int x0), (.int (0 : Int32)), (.ref b985), (.ref b985)])) (fun τ κ => XS.iloadN X985.here hx rfl (hb hby at_6) rfl (XS.iconst X985.here hx rfl (hb hby at_7) κ)) ?_
  obtain ⟨rv986, _, ⟨T986, L986, k986, n986⟩, -, X986, ⟨Lc986, hQ986, l986, y986, z986⟩, st986⟩ := Jvm.LawKit.callS X985 hx (y := (⟨"com/example/wanderpath/wanderpath/GridCanStepPinLaw", "tile", "(II)B"⟩ : MethodName)) hown (mvT hZ (w1_ hw)) (mvT hZ (w2_ hw)) (mvT hZ (w3_ hw)) (mvT hZ (w4_ hw)) (by decide) (backOf (W := 3) (rm1 l Z a0 hw [] x0 (0 : Int32) h985 n0 Z985 ) hZ (w4_ hw) (w3_ hw) (by decide) (by decide)) (g := (mkF m 8 #[vI x0, vI x1, vI x2, vI x3, vI x4, .unset, .unset, .unset, .unset, .unset, .unset, .unset, .unset, .unset, .unset, .unset, .unset, .unset, .unset, .unset] [(.int (0 : Int32)), (.int x0), (.int (0 : Int32)), (.ref b985), (.ref b985)])) rfl (by rw [hml]; rfl) (argsL := [(.int x0), (.int (0 : Int32))]) (rest := [(.int (0 : Int32)), (.ref b985), (.ref b985)]) (lenOf pd_9 rfl) rfl (by show 2 * 0 + _ ≤ _; exact Nat.le_of_eq rfl) (hb hby at_8) (fun _ _ => ⟨rfl, e985, Nat.le_of_ble_eq_true rfl, Nat.le_of_ble_eq_true rfl⟩)
  dsimp only [Pt.U, Pt.locs, Pt.cells, Pt.slots] at X986 l986 y986 z986 st986 hQ986
  subst l986 y986 z986
  have X986 := X986.more (cells' := 1) (slots' := 9) (by decide) (by decide)
  obtain ⟨hq986, N986q, e986⟩ := hQ986
  have hq986 : rv986 = some (.int (own_tile x0 (0 : Int32))) := hq986
  subst hq986
  have N986 := Fr.app N0 N986q
  obtain ⟨Lw986, X986, N986⟩ := own_locG X986 N986
  refine GlW.st (g' := (mkF m 11 #[vI x0, vI x1, vI x2, vI x3, vI x4, .unset, .unset, .unset, .unset, .unset, .unset, .unset, .unset, .unset, .unset, .unset, .unset, .unset, .unset, .unset] [(.int (own_tile x0 (0 : Int32))), (.int (0 : Int32)), (.ref b985), (.ref b985)])) (fun τ κ => st986 _ κ) ?_
  obtain ⟨cl_o987, Ar_o987, q_o987, S_o987, M_o987, H_o987, G_o987⟩ := id V_b985
  have hin_o987 : ¬ ((0 : Int32) < 0 ∨ cl_o987.slots.size ≤ ((0 : Int32)).toNatClampNeg) := inb_of S_o987 ⟨by decide, by decide⟩
  obtain ⟨T988, h988, X988, e988, W988, st988⟩ := stB X986 hx hZ e986 Ar_o987 (j := (0 : Int32)) hin_o987 (g := (mkF m 11 #[vI x0, vI x1, vI x2, vI x3, vI x4, .unset, .unset, .unset, .unset, .unset, .unset, .unset, .unset, .unset, .unset, .unset, .unset, .unset, .unset, .unset] [(.int (own_tile x0 (0 : Int32))), (.int (0 : Int32)), (.ref b985), (.ref b985)])) rfl rfl (hb hby at_11)
  have Y988_b985 := Safe.wr W988 Y985_b985 CH985 Y985_b985
  have CH988 := CH985.wr W988 Y985_b985
  obtain ⟨Lw988, X988, N988⟩ := own_locG X988 (Fr.snoc X988 N986 g_b985)
  have Z988 : n0 ≤ h988.size := Nat.le_trans Z985 (Nat.le_of_eq W988.size.symm)
  have hk988 := Nat.le_trans hk985 (Nat.le_of_eq W988.size.symm)
  have K988 : Keep h0 h988 [] := K985.wr W988 (Or.inr sz_b985)
  have V_b985_988 : Arv Z h988 b985 k985 .byte (9 : Int32) [(.int (nar .byte (own_tile x0 (0 : Int32)))), (.int (0 : Int32)), (.int (0 : Int32)), (.int (0 : Int32)), (.int (0 : Int32)), (.int (0 : Int32)), (.int (0 : Int32)), (.int (0 : Int32)), (.int (0 : Int32))] (.int (0 : Int32)) := Arv.set Ar_o987 q_o987 S_o987 M_o987 H_o987 G_o987 (fits_nar_byte _) W988 0 rfl (Nat.le_of_ble_eq_true rfl)
  rw [own_narT _ _] at V_b985_988
  refine GlW.st (g' := (mkF m 12 #[vI x0, vI x1, vI x2, vI x3, vI x4, .unset, .unset, .unset, .unset, .unset, .unset, .unset, .unset, .unset, .unset, .unset, .unset, .unset, .unset, .unset] [(.ref b985)])) (fun τ κ => st988 _ κ) ?_
  refine GlW.st (g' := (mkF m 14 #[vI x0, vI x1, vI x2, vI x3, vI x4, .unset, .unset, .unset, .unset, .unset, .unset, .unset, .unset, .unset, .unset, .unset, .unset, .unset, .unset, .unset] [(.int (1 : Int32)), (.ref b985), (.ref b985)])) (fun τ κ => XS.dup X988.here hx rfl (hb hby at_12) rfl rfl (XS.iconst X988.here hx rfl (hb hby at_13) κ)) ?_
  refine GlW.st (g' := (mkF m 16 #[vI x0, vI x1, vI x2, vI x3, vI x4, .unset, .unset, .unset, .unset, .unset, .unset, .unset, .unset, .unset, .unset, .unset, .unset, .unset, .unset, .unset] [(.int (1 : Int32)), (.int x0), (.int (1 : Int32)), (.ref b985), (.ref b985)])) (fun τ κ => XS.iloadN X988.here hx rfl (hb hby at_14) rfl (XS.iconst X988.here hx rfl (hb hby at_15) κ)) ?_
  obtain ⟨rv990, _, ⟨T990, L990, k990, n990⟩, -, X990, ⟨Lc990, hQ990, l990, y990, z990⟩, st990⟩ := Jvm.LawKit.callS X988 hx (y := (⟨"com/example/wanderpath/wanderpath/GridCanStepPinLaw", "tile", "(II)B"⟩ : MethodName)) hown (mvT hZ (w1_ hw)) (mvT hZ (w2_ hw)) (mvT hZ (w3_ hw)) (mvT hZ (w4_ hw)) (by decide) (backOf (W := 3) (rm1 l Z a0 hw [] x0 (1 : Int32) h988 n0 Z988 ) hZ (w4_ hw) (w3_ hw) (by decide) (by decide)) (g := (mkF m 16 #[vI x0, vI x1, vI x2, vI x3, vI x4, .unset, .unset, .unset, .unset, .unset, .unset, .unset, .unset, .unset, .unset, .unset, .unset, .unset, .unset, .unset] [(.int (1 : Int32)), (.int x0), (.int (1 : Int32)), (.ref b985), (.ref b985)])) rfl (by rw [hml]; rfl) (argsL := [(.int x0), (.int (1 : Int32))]) (rest := [(.int (1 : Int32)), (.ref b985), (.ref b985)]) (lenOf pd_9 rfl) rfl (by show 2 * 0 + _ ≤ _; exact Nat.le_of_eq rfl) (hb hby at_16) (fun _ _ => ⟨rfl, e988, Nat.le_of_ble_eq_true rfl, Nat.le_of_ble_eq_true rfl⟩)
  dsimp only [Pt.U, Pt.locs, Pt.cells, Pt.slots] at X990 l990 y990 z990 st990 hQ990
  subst l990 y990 z990
  have X990 := X990.more (cells' := 1) (slots' := 9) (by decide) (by decide)
  obtain ⟨hq990, N990q, e990⟩ := hQ990
  have hq990 : rv990 = some (.int (own_tile x0 (1 : Int32))) := hq990
  subst hq990
  have N990 := Fr.app N988 N990q
  obtain ⟨Lw990, X990, N990⟩ := own_locG X990 N990
  refine GlW.st (g' := (mkF m 19 #[vI x0, vI x1, vI x2, vI x3, vI x4, .unset, .unset, .unset, .unset, .unset, .unset, .unset, .unset, .unset, .unset, .unset, .unset, .unset, .unset, .unset] [(.int (own_tile x0 (1 : Int32))), (.int (1 : Int32)), (.ref b985), (.ref b985)])) (fun τ κ => st990 _ κ) ?_
  obtain ⟨cl_o991, Ar_o991, q_o991, S_o991, M_o991, H_o991, G_o991⟩ := id V_b985_988
  have hin_o991 : ¬ ((1 : Int32) < 0 ∨ cl_o991.slots.size ≤ ((1 : Int32)).toNatClampNeg) := inb_of S_o991 ⟨by decide, by decide⟩
  obtain ⟨T992, h992, X992, e992, W992, st992⟩ := stB X990 hx hZ e990 Ar_o991 (j := (1 : Int32)) hin_o991 (g := (mkF m 19 #[vI x0, vI x1, vI x2, vI x3, vI x4, .unset, .unset, .unset, .unset, .unset, .unset, .unset, .unset, .unset, .unset, .unset, .unset, .unset, .unset, .unset] [(.int (own_tile x0 (1 : Int32))), (.int (1 : Int32)), (.ref b985), (.ref b985)])) rfl rfl (hb hby at_19)
  have Y992_b985 := Safe.wr W992 Y988_b985 CH988 Y988_b985
  have CH992 := CH988.wr W992 Y988_b985
  obtain ⟨Lw992, X992, N992⟩ := own_locG X992 (Fr.snoc X992 N990 g_b985)
  have Z992 : n0 ≤ h992.size := Nat.le_trans Z988 (Nat.le_of_eq W992.size.symm)
  have hk992 := Nat.le_trans hk988 (Nat.le_of_eq W992.size.symm)
  have K992 : Keep h0 h992 [] := K988.wr W992 (Or.inr sz_b985)
  have V_b985_992 : Arv Z h992 b985 k985 .byte (9 : Int32) [(.int (own_tile x0 (0 : Int32))), (.int (nar .byte (own_tile x0 (1 : Int32)))), (.int (0 : Int32)), (.int (0 : Int32)), (.int (0 : Int32)), (.int (0 : Int32)), (.int (0 : Int32)), (.int (0 : Int32)), (.int (0 : Int32))] (.int (0 : Int32)) := Arv.set Ar_o991 q_o991 S_o991 M_o991 H_o991 G_o991 (fits_nar_byte _) W992 1 rfl (Nat.le_of_ble_eq_true rfl)
  rw [own_narT _ _] at V_b985_992
  refine GlW.st (g' := (mkF m 20 #[vI x0, vI x1, vI x2, vI x3, vI x4, .unset, .unset, .unset, .unset, .unset, .unset, .unset, .unset, .unset, .unset, .unset, .unset, .unset, .unset, .unset] [(.ref b985)])) (fun τ κ => st992 _ κ) ?_
  refine GlW.st (g' := (mkF m 22 #[vI x0, vI x1, vI x2, vI x3, vI x4, .unset, .unset, .unset, .unset, .unset, .unset, .unset, .unset, .unset, .unset, .unset, .unset, .unset, .unset, .unset] [(.int (2 : Int32)), (.ref b985), (.ref b985)])) (fun τ κ => XS.dup X992.here hx rfl (hb hby at_20) rfl rfl (XS.iconst X992.here hx rfl (hb hby at_21) κ)) ?_
  refine GlW.st (g' := (mkF m 24 #[vI x0, vI x1, vI x2, vI x3, vI x4, .unset, .unset, .unset, .unset, .unset, .unset, .unset, .unset, .unset, .unset, .unset, .unset, .unset, .unset, .unset] [(.int (2 : Int32)), (.int x0), (.int (2 : Int32)), (.ref b985), (.ref b985)])) (fun τ κ => XS.iloadN X992.here hx rfl (hb hby at_22) rfl (XS.iconst X992.here hx rfl (hb hby at_23) κ)) ?_
  obtain ⟨rv994, _, ⟨T994, L994, k994, n994⟩, -, X994, ⟨Lc994, hQ994, l994, y994, z994⟩, st994⟩ := Jvm.LawKit.callS X992 hx (y := (⟨"com/example/wanderpath/wanderpath/GridCanStepPinLaw", "tile", "(II)B"⟩ : MethodName)) hown (mvT hZ (w1_ hw)) (mvT hZ (w2_ hw)) (mvT hZ (w3_ hw)) (mvT hZ (w4_ hw)) (by decide) (backOf (W := 3) (rm1 l Z a0 hw [] x0 (2 : Int32) h992 n0 Z992 ) hZ (w4_ hw) (w3_ hw) (by decide) (by decide)) (g := (mkF m 24 #[vI x0, vI x1, vI x2, vI x3, vI x4, .unset, .unset, .unset, .unset, .unset, .unset, .unset, .unset, .unset, .unset, .unset, .unset, .unset, .unset, .unset] [(.int (2 : Int32)), (.int x0), (.int (2 : Int32)), (.ref b985), (.ref b985)])) rfl (by rw [hml]; rfl) (argsL := [(.int x0), (.int (2 : Int32))]) (rest := [(.int (2 : Int32)), (.ref b985), (.ref b985)]) (lenOf pd_9 rfl) rfl (by show 2 * 0 + _ ≤ _; exact Nat.le_of_eq rfl) (hb hby at_24) (fun _ _ => ⟨rfl, e992, Nat.le_of_ble_eq_true rfl, Nat.le_of_ble_eq_true rfl⟩)
  dsimp only [Pt.U, Pt.locs, Pt.cells, Pt.slots] at X994 l994 y994 z994 st994 hQ994
  subst l994 y994 z994
  have X994 := X994.more (cells' := 1) (slots' := 9) (by decide) (by decide)
  obtain ⟨hq994, N994q, e994⟩ := hQ994
  have hq994 : rv994 = some (.int (own_tile x0 (2 : Int32))) := hq994
  subst hq994
  have N994 := Fr.app N992 N994q
  obtain ⟨Lw994, X994, N994⟩ := own_locG X994 N994
  refine GlW.st (g' := (mkF m 27 #[vI x0, vI x1, vI x2, vI x3, vI x4, .unset, .unset, .unset, .unset, .unset, .unset, .unset, .unset, .unset, .unset, .unset, .unset, .unset, .unset, .unset] [(.int (own_tile x0 (2 : Int32))), (.int (2 : Int32)), (.ref b985), (.ref b985)])) (fun τ κ => st994 _ κ) ?_
  obtain ⟨cl_o995, Ar_o995, q_o995, S_o995, M_o995, H_o995, G_o995⟩ := id V_b985_992
  have hin_o995 : ¬ ((2 : Int32) < 0 ∨ cl_o995.slots.size ≤ ((2 : Int32)).toNatClampNeg) := inb_of S_o995 ⟨by decide, by decide⟩
  obtain ⟨T996, h996, X996, e996, W996, st996⟩ := stB X994 hx hZ e994 Ar_o995 (j := (2 : Int32)) hin_o995 (g := (mkF m 27 #[vI x0, vI x1, vI x2, vI x3, vI x4, .unset, .unset, .unset, .unset, .unset, .unset, .unset, .unset, .unset, .unset, .unset, .unset, .unset, .unset, .unset] [(.int (own_tile x0 (2 : Int32))), (.int (2 : Int32)), (.ref b985), (.ref b985)])) rfl rfl (hb hby at_27)
  have Y996_b985 := Safe.wr W996 Y992_b985 CH992 Y992_b985
  have CH996 := CH992.wr W996 Y992_b985
  obtain ⟨Lw996, X996, N996⟩ := own_locG X996 (Fr.snoc X996 N994 g_b985)
  have Z996 : n0 ≤ h996.size := Nat.le_trans Z992 (Nat.le_of_eq W996.size.symm)
  have hk996 := Nat.le_trans hk992 (Nat.le_of_eq W996.size.symm)
  have K996 : Keep h0 h996 [] := K992.wr W996 (Or.inr sz_b985)
  have V_b985_996 : Arv Z h996 b985 k985 .byte (9 : Int32) [(.int (own_tile x0 (0 : Int32))), (.int (own_tile x0 (1 : Int32))), (.int (nar .byte (own_tile x0 (2 : Int32)))), (.int (0 : Int32)), (.int (0 : Int32)), (.int (0 : Int32)), (.int (0 : Int32)), (.int (0 : Int32)), (.int (0 : Int32))] (.int (0 : Int32)) := Arv.set Ar_o995 q_o995 S_o995 M_o995 H_o995 G_o995 (fits_nar_byte _) W996 2 rfl (Nat.le_of_ble_eq_true rfl)
  rw [own_narT _ _] at V_b985_996
  refine GlW.st (g' := (mkF m 28 #[vI x0, vI x1, vI x2, vI x3, vI x4, .unset, .unset, .unset, .unset, .unset, .unset, .unset, .unset, .unset, .unset, .unset, .unset, .unset, .unset, .unset] [(.ref b985)])) (fun τ κ => st996 _ κ) ?_
  refine GlW.st (g' := (mkF m 30 #[vI x0, vI x1, vI x2, vI x3, vI x4, .unset, .unset, .unset, .unset, .unset, .unset, .unset, .unset, .unset, .unset, .unset, .unset, .unset, .unset, .unset] [(.int (3 : Int32)), (.ref b985), (.ref b985)])) (fun τ κ => XS.dup X996.here hx rfl (hb hby at_28) rfl rfl (XS.iconst X996.here hx rfl (hb hby at_29) κ)) ?_
  refine GlW.st (g' := (mkF m 32 #[vI x0, vI x1, vI x2, vI x3, vI x4, .unset, .unset, .unset, .unset, .unset, .unset, .unset, .unset, .unset, .unset, .unset, .unset, .unset, .unset, .unset] [(.int (3 : Int32)), (.int x0), (.int (3 : Int32)), (.ref b985), (.ref b985)])) (fun τ κ => XS.iloadN X996.here hx rfl (hb hby at_30) rfl (XS.iconst X996.here hx rfl (hb hby at_31) κ)) ?_
  obtain ⟨rv998, _, ⟨T998, L998, k998, n998⟩, -, X998, ⟨Lc998, hQ998, l998, y998, z998⟩, st998⟩ := Jvm.LawKit.callS X996 hx (y := (⟨"com/example/wanderpath/wanderpath/GridCanStepPinLaw", "tile", "(II)B"⟩ : MethodName)) hown (mvT hZ (w1_ hw)) (mvT hZ (w2_ hw)) (mvT hZ (w3_ hw)) (mvT hZ (w4_ hw)) (by decide) (backOf (W := 3) (rm1 l Z a0 hw [] x0 (3 : Int32) h996 n0 Z996 ) hZ (w4_ hw) (w3_ hw) (by decide) (by decide)) (g := (mkF m 32 #[vI x0, vI x1, vI x2, vI x3, vI x4, .unset, .unset, .unset, .unset, .unset, .unset, .unset, .unset, .unset, .unset, .unset, .unset, .unset, .unset, .unset] [(.int (3 : Int32)), (.int x0), (.int (3 : Int32)), (.ref b985), (.ref b985)])) rfl (by rw [hml]; rfl) (argsL := [(.int x0), (.int (3 : Int32))]) (rest := [(.int (3 : Int32)), (.ref b985), (.ref b985)]) (lenOf pd_9 rfl) rfl (by show 2 * 0 + _ ≤ _; exact Nat.le_of_eq rfl) (hb hby at_32) (fun _ _ => ⟨rfl, e996, Nat.le_of_ble_eq_true rfl, Nat.le_of_ble_eq_true rfl⟩)
  dsimp only [Pt.U, Pt.locs, Pt.cells, Pt.slots] at X998 l998 y998 z998 st998 hQ998
  subst l998 y998 z998
  have X998 := X998.more (cells' := 1) (slots' := 9) (by decide) (by decide)
  obtain ⟨hq998, N998q, e998⟩ := hQ998
  have hq998 : rv998 = some (.int (own_tile x0 (3 : Int32))) := hq998
  subst hq998
  have N998 := Fr.app N996 N998q
  obtain ⟨Lw998, X998, N998⟩ := own_locG X998 N998
  refine GlW.st (g' := (mkF m 35 #[vI x0, vI x1, vI x2, vI x3, vI x4, .unset, .unset, .unset, .unset, .unset, .unset, .unset, .unset, .unset, .unset, .unset, .unset, .unset, .unset, .unset] [(.int (own_tile x0 (3 : Int32))), (.int (3 : Int32)), (.ref b985), (.ref b985)])) (fun τ κ => st998 _ κ) ?_
  obtain ⟨cl_o999, Ar_o999, q_o999, S_o999, M_o999, H_o999, G_o999⟩ := id V_b985_996
  have hin_o999 : ¬ ((3 : Int32) < 0 ∨ cl_o999.slots.size ≤ ((3 : Int32)).toNatClampNeg) := inb_of S_o999 ⟨by decide, by decide⟩
  obtain ⟨T1000, h1000, X1000, e1000, W1000, st1000⟩ := stB X998 hx hZ e998 Ar_o999 (j := (3 : Int32)) hin_o999 (g := (mkF m 35 #[vI x0, vI x1, vI x2, vI x3, vI x4, .unset, .unset, .unset, .unset, .unset, .unset, .unset, .unset, .unset, .unset, .unset, .unset, .unset, .unset, .unset] [(.int (own_tile x0 (3 : Int32))), (.int (3 : Int32)), (.ref b985), (.ref b985)])) rfl rfl (hb hby at_35)
  have Y1000_b985 := Safe.wr W1000 Y996_b985 CH996 Y996_b985
  have CH1000 := CH996.wr W1000 Y996_b985
  obtain ⟨Lw1000, X1000, N1000⟩ := own_locG X1000 (Fr.snoc X1000 N998 g_b985)
  have Z1000 : n0 ≤ h1000.size := Nat.le_trans Z996 (Nat.le_of_eq W1000.size.symm)
  have hk1000 := Nat.le_trans hk996 (Nat.le_of_eq W1000.size.symm)
  have K1000 : Keep h0 h1000 [] := K996.wr W1000 (Or.inr sz_b985)
  have V_b985_1000 : Arv Z h1000 b985 k985 .byte (9 : Int32) [(.int (own_tile x0 (0 : Int32))), (.int (own_tile x0 (1 : Int32))), (.int (own_tile x0 (2 : Int32))), (.int (nar .byte (own_tile x0 (3 : Int32)))), (.int (0 : Int32)), (.int (0 : Int32)), (.int (0 : Int32)), (.int (0 : Int32)), (.int (0 : Int32))] (.int (0 : Int32)) := Arv.set Ar_o999 q_o999 S_o999 M_o999 H_o999 G_o999 (fits_nar_byte _) W1000 3 rfl (Nat.le_of_ble_eq_true rfl)
  rw [own_narT _ _] at V_b985_1000
  refine GlW.st (g' := (mkF m 36 #[vI x0, vI x1, vI x2, vI x3, vI x4, .unset, .unset, .unset, .unset, .unset, .unset, .unset, .unset, .unset, .unset, .unset, .unset, .unset, .unset, .unset] [(.ref b985)])) (fun τ κ => st1000 _ κ) ?_
  refine GlW.st (g' := (mkF m 38 #[vI x0, vI x1, vI x2, vI x3, vI x4, .unset, .unset, .unset, .unset, .unset, .unset, .unset, .unset, .unset, .unset, .unset, .unset, .unset, .unset, .unset] [(.int (4 : Int32)), (.ref b985), (.ref b985)])) (fun τ κ => XS.dup X1000.here hx rfl (hb hby at_36) rfl rfl (XS.iconst X1000.here hx rfl (hb hby at_37) κ)) ?_
  refine GlW.st (g' := (mkF m 40 #[vI x0, vI x1, vI x2, vI x3, vI x4, .unset, .unset, .unset, .unset, .unset, .unset, .unset, .unset, .unset, .unset, .unset, .unset, .unset, .unset, .unset] [(.int (4 : Int32)), (.int x0), (.int (4 : Int32)), (.ref b985), (.ref b985)])) (fun τ κ => XS.iloadN X1000.here hx rfl (hb hby at_38) rfl (XS.iconst X1000.here hx rfl (hb hby at_39) κ)) ?_
  obtain ⟨rv1002, _, ⟨T1002, L1002, k1002, n1002⟩, -, X1002, ⟨Lc1002, hQ1002, l1002, y1002, z1002⟩, st1002⟩ := Jvm.LawKit.callS X1000 hx (y := (⟨"com/example/wanderpath/wanderpath/GridCanStepPinLaw", "tile", "(II)B"⟩ : MethodName)) hown (mvT hZ (w1_ hw)) (mvT hZ (w2_ hw)) (mvT hZ (w3_ hw)) (mvT hZ (w4_ hw)) (by decide) (backOf (W := 3) (rm1 l Z a0 hw [] x0 (4 : Int32) h1000 n0 Z1000 ) hZ (w4_ hw) (w3_ hw) (by decide) (by decide)) (g := (mkF m 40 #[vI x0, vI x1, vI x2, vI x3, vI x4, .unset, .unset, .unset, .unset, .unset, .unset, .unset, .unset, .unset, .unset, .unset, .unset, .unset, .unset, .unset] [(.int (4 : Int32)), (.int x0), (.int (4 : Int32)), (.ref b985), (.ref b985)])) rfl (by rw [hml]; rfl) (argsL := [(.int x0), (.int (4 : Int32))]) (rest := [(.int (4 : Int32)), (.ref b985), (.ref b985)]) (lenOf pd_9 rfl) rfl (by show 2 * 0 + _ ≤ _; exact Nat.le_of_eq rfl) (hb hby at_40) (fun _ _ => ⟨rfl, e1000, Nat.le_of_ble_eq_true rfl, Nat.le_of_ble_eq_true rfl⟩)
  dsimp only [Pt.U, Pt.locs, Pt.cells, Pt.slots] at X1002 l1002 y1002 z1002 st1002 hQ1002
  subst l1002 y1002 z1002
  have X1002 := X1002.more (cells' := 1) (slots' := 9) (by decide) (by decide)
  obtain ⟨hq1002, N1002q, e1002⟩ := hQ1002
  have hq1002 : rv1002 = some (.int (own_tile x0 (4 : Int32))) := hq1002
  subst hq1002
  have N1002 := Fr.app N1000 N1002q
  obtain ⟨Lw1002, X1002, N1002⟩ := own_locG X1002 N1002
  refine GlW.st (g' := (mkF m 43 #[vI x0, vI x1, vI x2, vI x3, vI x4, .unset, .unset, .unset, .unset, .unset, .unset, .unset, .unset, .unset, .unset, .unset, .unset, .unset, .unset, .unset] [(.int (own_tile x0 (4 : Int32))), (.int (4 : Int32)), (.ref b985), (.ref b985)])) (fun τ κ => st1002 _ κ) ?_
  obtain ⟨cl_o1003, Ar_o1003, q_o1003, S_o1003, M_o1003, H_o1003, G_o1003⟩ := id V_b985_1000
  have hin_o1003 : ¬ ((4 : Int32) < 0 ∨ cl_o1003.slots.size ≤ ((4 : Int32)).toNatClampNeg) := inb_of S_o1003 ⟨by decide, by decide⟩
  obtain ⟨T1004, h1004, X1004, e1004, W1004, st1004⟩ := stB X1002 hx hZ e1002 Ar_o1003 (j := (4 : Int32)) hin_o1003 (g := (mkF m 43 #[vI x0, vI x1, vI x2, vI x3, vI x4, .unset, .unset, .unset, .unset, .unset, .unset, .unset, .unset, .unset, .unset, .unset, .unset, .unset, .unset, .unset] [(.int (own_tile x0 (4 : Int32))), (.int (4 : Int32)), (.ref b985), (.ref b985)])) rfl rfl (hb hby at_43)
  have Y1004_b985 := Safe.wr W1004 Y1000_b985 CH1000 Y1000_b985
  have CH1004 := CH1000.wr W1004 Y1000_b985
  obtain ⟨Lw1004, X1004, N1004⟩ := own_locG X1004 (Fr.snoc X1004 N1002 g_b985)
  have Z1004 : n0 ≤ h1004.size := Nat.le_trans Z1000 (Nat.le_of_eq W1004.size.symm)
  have hk1004 := Nat.le_trans hk1000 (Nat.le_of_eq W1004.size.symm)
  have K1004 : Keep h0 h1004 [] := K1000.wr W1004 (Or.inr sz_b985)
  have V_b985_1004 : Arv Z h1004 b985 k985 .byte (9 : Int32) [(.int (own_tile x0 (0 : Int32))), (.int (own_tile x0 (1 : Int32))), (.int (own_tile x0 (2 : Int32))), (.int (own_tile x0 (3 : Int32))), (.int (nar .byte (own_tile x0 (4 : Int32)))), (.int (0 : Int32)), (.int (0 : Int32)), (.int (0 : Int32)), (.int (0 : Int32))] (.int (0 : Int32)) := Arv.set Ar_o1003 q_o1003 S_o1003 M_o1003 H_o1003 G_o1003 (fits_nar_byte _) W1004 4 rfl (Nat.le_of_ble_eq_true rfl)
  rw [own_narT _ _] at V_b985_1004
  refine GlW.st (g' := (mkF m 44 #[vI x0, vI x1, vI x2, vI x3, vI x4, .unset, .unset, .unset, .unset, .unset, .unset, .unset, .unset, .unset, .unset, .unset, .unset, .unset, .unset, .unset] [(.ref b985)])) (fun τ κ => st1004 _ κ) ?_
  refine GlW.st (g' := (mkF m 46 #[vI x0, vI x1, vI x2, vI x3, vI x4, .unset, .unset, .unset, .unset, .unset, .unset, .unset, .unset, .unset, .unset, .unset, .unset, .unset, .unset, .unset] [(.int (5 : Int32)), (.ref b985), (.ref b985)])) (fun τ κ => XS.dup X1004.here hx rfl (hb hby at_44) rfl rfl (XS.iconst X1004.here hx rfl (hb hby at_45) κ)) ?_
  refine GlW.st (g' := (mkF m 48 #[vI x0, vI x1, vI x2, vI x3, vI x4, .unset, .unset, .unset, .unset, .unset, .unset, .unset, .unset, .unset, .unset, .unset, .unset, .unset, .unset, .unset] [(.int (5 : Int32)), (.int x0), (.int (5 : Int32)), (.ref b985), (.ref b985)])) (fun τ κ => XS.iloadN X1004.here hx rfl (hb hby at_46) rfl (XS.iconst X1004.here hx rfl (hb hby at_47) κ)) ?_
  obtain ⟨rv1006, _, ⟨T1006, L1006, k1006, n1006⟩, -, X1006, ⟨Lc1006, hQ1006, l1006, y1006, z1006⟩, st1006⟩ := Jvm.LawKit.callS X1004 hx (y := (⟨"com/example/wanderpath/wanderpath/GridCanStepPinLaw", "tile", "(II)B"⟩ : MethodName)) hown (mvT hZ (w1_ hw)) (mvT hZ (w2_ hw)) (mvT hZ (w3_ hw)) (mvT hZ (w4_ hw)) (by decide) (backOf (W := 3) (rm1 l Z a0 hw [] x0 (5 : Int32) h1004 n0 Z1004 ) hZ (w4_ hw) (w3_ hw) (by decide) (by decide)) (g := (mkF m 48 #[vI x0, vI x1, vI x2, vI x3, vI x4, .unset, .unset, .unset, .unset, .unset, .unset, .unset, .unset, .unset, .unset, .unset, .unset, .unset, .unset, .unset] [(.int (5 : Int32)), (.int x0), (.int (5 : Int32)), (.ref b985), (.ref b985)])) rfl (by rw [hml]; rfl) (argsL := [(.int x0), (.int (5 : Int32))]) (rest := [(.int (5 : Int32)), (.ref b985), (.ref b985)]) (lenOf pd_9 rfl) rfl (by show 2 * 0 + _ ≤ _; exact Nat.le_of_eq rfl) (hb hby at_48) (fun _ _ => ⟨rfl, e1004, Nat.le_of_ble_eq_true rfl, Nat.le_of_ble_eq_true rfl⟩)
  dsimp only [Pt.U, Pt.locs, Pt.cells, Pt.slots] at X1006 l1006 y1006 z1006 st1006 hQ1006
  subst l1006 y1006 z1006
  have X1006 := X1006.more (cells' := 1) (slots' := 9) (by decide) (by decide)
  obtain ⟨hq1006, N1006q, e1006⟩ := hQ1006
  have hq1006 : rv1006 = some (.int (own_tile x0 (5 : Int32))) := hq1006
  subst hq1006
  have N1006 := Fr.app N1004 N1006q
  obtain ⟨Lw1006, X1006, N1006⟩ := own_locG X1006 N1006
  refine GlW.st (g' := (mkF m 51 #[vI x0, vI x1, vI x2, vI x3, vI x4, .unset, .unset, .unset, .unset, .unset, .unset, .unset, .unset, .unset, .unset, .unset, .unset, .unset, .unset, .unset] [(.int (own_tile x0 (5 : Int32))), (.int (5 : Int32)), (.ref b985), (.ref b985)])) (fun τ κ => st1006 _ κ) ?_
  obtain ⟨cl_o1007, Ar_o1007, q_o1007, S_o1007, M_o1007, H_o1007, G_o1007⟩ := id V_b985_1004
  have hin_o1007 : ¬ ((5 : Int32) < 0 ∨ cl_o1007.slots.size ≤ ((5 : Int32)).toNatClampNeg) := inb_of S_o1007 ⟨by decide, by decide⟩
  obtain ⟨T1008, h1008, X1008, e1008, W1008, st1008⟩ := stB X1006 hx hZ e1006 Ar_o1007 (j := (5 : Int32)) hin_o1007 (g := (mkF m 51 #[vI x0, vI x1, vI x2, vI x3, vI x4, .unset, .unset, .unset, .unset, .unset, .unset, .unset, .unset, .unset, .unset, .unset, .unset, .unset, .unset, .unset] [(.int (own_tile x0 (5 : Int32))), (.int (5 : Int32)), (.ref b985), (.ref b985)])) rfl rfl (hb hby at_51)
  have Y1008_b985 := Safe.wr W1008 Y1004_b985 CH1004 Y1004_b985
  have CH1008 := CH1004.wr W1008 Y1004_b985
  obtain ⟨Lw1008, X1008, N1008⟩ := own_locG X1008 (Fr.snoc X1008 N1006 g_b985)
  have Z1008 : n0 ≤ h1008.size := Nat.le_trans Z1004 (Nat.le_of_eq W1008.size.symm)
  have hk1008 := Nat.le_trans hk1004 (Nat.le_of_eq W1008.size.symm)
  have K1008 : Keep h0 h1008 [] := K1004.wr W1008 (Or.inr sz_b985)
  have V_b985_1008 : Arv Z h1008 b985 k985 .byte (9 : Int32) [(.int (own_tile x0 (0 : Int32))), (.int (own_tile x0 (1 : Int32))), (.int (own_tile x0 (2 : Int32))), (.int (own_tile x0 (3 : Int32))), (.int (own_tile x0 (4 : Int32))), (.int (nar .byte (own_tile x0 (5 : Int32)))), (.int (0 : Int32)), (.int (0 : Int32)), (.int (0 : Int32))] (.int (0 : Int32)) := Arv.set Ar_o1007 q_o1007 S_o1007 M_o1007 H_o1007 G_o1007 (fits_nar_byte _) W1008 5 rfl (Nat.le_of_ble_eq_true rfl)
  rw [own_narT _ _] at V_b985_1008
  refine GlW.st (g' := (mkF m 52 #[vI x0, vI x1, vI x2, vI x3, vI x4, .unset, .unset, .unset, .unset, .unset, .unset, .unset, .unset, .unset, .unset, .unset, .unset, .unset, .unset, .unset] [(.ref b985)])) (fun τ κ => st1008 _ κ) ?_
  refine GlW.st (g' := (mkF m 55 #[vI x0, vI x1, vI x2, vI x3, vI x4, .unset, .unset, .unset, .unset, .unset, .unset, .unset, .unset, .unset, .unset, .unset, .unset, .unset, .unset, .unset] [(.int (6 : Int32)), (.ref b985), (.ref b985)])) (fun τ κ => XS.dup X1008.here hx rfl (hb hby at_52) rfl rfl (XS.bipush X1008.here hx rfl (hb hby at_53) κ)) ?_
  refine GlW.st (g' := (mkF m 58 #[vI x0, vI x1, vI x2, vI x3, vI x4, .unset, .unset, .unset, .unset, .unset, .unset, .unset, .unset, .unset, .unset, .unset, .unset, .unset, .unset, .unset] [(.int (6 : Int32)), (.int x0), (.int (6 : Int32)), (.ref b985), (.ref b985)])) (fun τ κ => XS.iloadN X1008.here hx rfl (hb hby at_55) rfl (XS.bipush X1008.here hx rfl (hb hby at_56) κ)) ?_
  obtain ⟨rv1010, _, ⟨T1010, L1010, k1010, n1010⟩, -, X1010, ⟨Lc1010, hQ1010, l1010, y1010, z1010⟩, st1010⟩ := Jvm.LawKit.callS X1008 hx (y := (⟨"com/example/wanderpath/wanderpath/GridCanStepPinLaw", "tile", "(II)B"⟩ : MethodName)) hown (mvT hZ (w1_ hw)) (mvT hZ (w2_ hw)) (mvT hZ (w3_ hw)) (mvT hZ (w4_ hw)) (by decide) (backOf (W := 3) (rm1 l Z a0 hw [] x0 (6 : Int32) h1008 n0 Z1008 ) hZ (w4_ hw) (w3_ hw) (by decide) (by decide)) (g := (mkF m 58 #[vI x0, vI x1, vI x2, vI x3, vI x4, .unset, .unset, .unset, .unset, .unset, .unset, .unset, .unset, .unset, .unset, .unset, .unset, .unset, .unset, .unset] [(.int (6 : Int32)), (.int x0), (.int (6 : Int32)), (.ref b985), (.ref b985)])) rfl (by rw [hml]; rfl) (argsL := [(.int x0), (.int (6 : Int32))]) (rest := [(.int (6 : Int32)), (.ref b985), (.ref b985)]) (lenOf pd_9 rfl) rfl (by show 2 * 0 + _ ≤ _; exact Nat.le_of_eq rfl) (hb hby at_58) (fun _ _ => ⟨rfl, e1008, Nat.le_of_ble_eq_true rfl, Nat.le_of_ble_eq_true rfl⟩)
  dsimp only [Pt.U, Pt.locs, Pt.cells, Pt.slots] at X1010 l1010 y1010 z1010 st1010 hQ1010
  subst l1010 y1010 z1010
  have X1010 := X1010.more (cells' := 1) (slots' := 9) (by decide) (by decide)
  obtain ⟨hq1010, N1010q, e1010⟩ := hQ1010
  have hq1010 : rv1010 = some (.int (own_tile x0 (6 : Int32))) := hq1010
  subst hq1010
  have N1010 := Fr.app N1008 N1010q
  obtain ⟨Lw1010, X1010, N1010⟩ := own_locG X1010 N1010
  refine GlW.st (g' := (mkF m 61 #[vI x0, vI x1, vI x2, vI x3, vI x4, .unset, .unset, .unset, .unset, .unset, .unset, .unset, .unset, .unset, .unset, .unset, .unset, .unset, .unset, .unset] [(.int (own_tile x0 (6 : Int32))), (.int (6 : Int32)), (.ref b985), (.ref b985)])) (fun τ κ => st1010 _ κ) ?_
  obtain ⟨cl_o1011, Ar_o1011, q_o1011, S_o1011, M_o1011, H_o1011, G_o1011⟩ := id V_b985_1008
  have hin_o1011 : ¬ ((6 : Int32) < 0 ∨ cl_o1011.slots.size ≤ ((6 : Int32)).toNatClampNeg) := inb_of S_o1011 ⟨by decide, by decide⟩
  obtain ⟨T1012, h1012, X1012, e1012, W1012, st1012⟩ := stB X1010 hx hZ e1010 Ar_o1011 (j := (6 : Int32)) hin_o1011 (g := (mkF m 61 #[vI x0, vI x1, vI x2, vI x3, vI x4, .unset, .unset, .unset, .unset, .unset, .unset, .unset, .unset, .unset, .unset, .unset, .unset, .unset, .unset, .unset] [(.int (own_tile x0 (6 : Int32))), (.int (6 : Int32)), (.ref b985), (.ref b985)])) rfl rfl (hb hby at_61)
  have Y1012_b985 := Safe.wr W1012 Y1008_b985 CH1008 Y1008_b985
  have CH1012 := CH1008.wr W1012 Y1008_b985
  obtain ⟨Lw1012, X1012, N1012⟩ := own_locG X1012 (Fr.snoc X1012 N1010 g_b985)
  have Z1012 : n0 ≤ h1012.size := Nat.le_trans Z1008 (Nat.le_of_eq W1012.size.symm)
  have hk1012 := Nat.le_trans hk1008 (Nat.le_of_eq W1012.size.symm)
  have K1012 : Keep h0 h1012 [] := K1008.wr W1012 (Or.inr sz_b985)
  have V_b985_1012 : Arv Z h1012 b985 k985 .byte (9 : Int32) [(.int (own_tile x0 (0 : Int32))), (.int (own_tile x0 (1 : Int32))), (.int (own_tile x0 (2 : Int32))), (.int (own_tile x0 (3 : Int32))), (.int (own_tile x0 (4 : Int32))), (.int (own_tile x0 (5 : Int32))), (.int (nar .byte (own_tile x0 (6 : Int32)))), (.int (0 : Int32)), (.int (0 : Int32))] (.int (0 : Int32)) := Arv.set Ar_o1011 q_o1011 S_o1011 M_o1011 H_o1011 G_o1011 (fits_nar_byte _) W1012 6 rfl (Nat.le_of_ble_eq_true rfl)
  rw [own_narT _ _] at V_b985_1012
  refine GlW.st (g' := (mkF m 62 #[vI x0, vI x1, vI x2, vI x3, vI x4, .unset, .unset, .unset, .unset, .unset, .unset, .unset, .unset, .unset, .unset, .unset, .unset, .unset, .unset, .unset] [(.ref b985)])) (fun τ κ => st1012 _ κ) ?_
  refine GlW.st (g' := (mkF m 65 #[vI x0, vI x1, vI x2, vI x3, vI x4, .unset, .unset, .unset, .unset, .unset, .unset, .unset, .unset, .unset, .unset, .unset, .unset, .unset, .unset, .unset] [(.int (7 : Int32)), (.ref b985), (.ref b985)])) (fun τ κ => XS.dup X1012.here hx rfl (hb hby at_62) rfl rfl (XS.bipush X1012.here hx rfl (hb hby at_63) κ)) ?_
  refine GlW.st (g' := (mkF m 68 #[vI x0, vI x1, vI x2, vI x3, vI x4, .unset, .unset, .unset, .unset, .unset, .unset, .unset, .unset, .unset, .unset, .unset, .unset, .unset, .unset, .unset] [(.int (7 : Int32)), (.int x0), (.int (7 : Int32)), (.ref b985), (.ref b985)])) (fun τ κ => XS.iloadN X1012.here hx rfl (hb hby at_65) rfl (XS.bipush X1012.here hx rfl (hb hby at_66) κ)) ?_
  obtain ⟨rv1014, _, ⟨T1014, L1014, k1014, n1014⟩, -, X1014, ⟨Lc1014, hQ1014, l1014, y1014, z1014⟩, st1014⟩ := Jvm.LawKit.callS X1012 hx (y := (⟨"com/example/wanderpath/wanderpath/GridCanStepPinLaw", "tile", "(II)B"⟩ : MethodName)) hown (mvT hZ (w1_ hw)) (mvT hZ (w2_ hw)) (mvT hZ (w3_ hw)) (mvT hZ (w4_ hw)) (by decide) (backOf (W := 3) (rm1 l Z a0 hw [] x0 (7 : Int32) h1012 n0 Z1012 ) hZ (w4_ hw) (w3_ hw) (by decide) (by decide)) (g := (mkF m 68 #[vI x0, vI x1, vI x2, vI x3, vI x4, .unset, .unset, .unset, .unset, .unset, .unset, .unset, .unset, .unset, .unset, .unset, .unset, .unset, .unset, .unset] [(.int (7 : Int32)), (.int x0), (.int (7 : Int32)), (.ref b985), (.ref b985)])) rfl (by rw [hml]; rfl) (argsL := [(.int x0), (.int (7 : Int32))]) (rest := [(.int (7 : Int32)), (.ref b985), (.ref b985)]) (lenOf pd_9 rfl) rfl (by show 2 * 0 + _ ≤ _; exact Nat.le_of_eq rfl) (hb hby at_68) (fun _ _ => ⟨rfl, e1012, Nat.le_of_ble_eq_true rfl, Nat.le_of_ble_eq_true rfl⟩)
  dsimp only [Pt.U, Pt.locs, Pt.cells, Pt.slots] at X1014 l1014 y1014 z1014 st1014 hQ1014
  subst l1014 y1014 z1014
  have X1014 := X1014.more (cells' := 1) (slots' := 9) (by decide) (by decide)
  obtain ⟨hq1014, N1014q, e1014⟩ := hQ1014
  have hq1014 : rv1014 = some (.int (own_tile x0 (7 : Int32))) := hq1014
  subst hq1014
  have N1014 := Fr.app N1012 N1014q
  obtain ⟨Lw1014, X1014, N1014⟩ := own_locG X1014 N1014
  refine GlW.st (g' := (mkF m 71 #[vI x0, vI x1, vI x2, vI x3, vI x4, .unset, .unset, .unset, .unset, .unset, .unset, .unset, .unset, .unset, .unset, .unset, .unset, .unset, .unset, .unset] [(.int (own_tile x0 (7 : Int32))), (.int (7 : Int32)), (.ref b985), (.ref b985)])) (fun τ κ => st1014 _ κ) ?_
  obtain ⟨cl_o1015, Ar_o1015, q_o1015, S_o1015, M_o1015, H_o1015, G_o1015⟩ := id V_b985_1012
  have hin_o1015 : ¬ ((7 : Int32) < 0 ∨ cl_o1015.slots.size ≤ ((7 : Int32)).toNatClampNeg) := inb_of S_o1015 ⟨by decide, by decide⟩
  obtain ⟨T1016, h1016, X1016, e1016, W1016, st1016⟩ := stB X1014 hx hZ e1014 Ar_o1015 (j := (7 : Int32)) hin_o1015 (g := (mkF m 71 #[vI x0, vI x1, vI x2, vI x3, vI x4, .unset, .unset, .unset, .unset, .unset, .unset, .unset, .unset, .unset, .unset, .unset, .unset, .unset, .unset, .unset] [(.int (own_tile x0 (7 : Int32))), (.int (7 : Int32)), (.ref b985), (.ref b985)])) rfl rfl (hb hby at_71)
  have Y1016_b985 := Safe.wr W1016 Y1012_b985 CH1012 Y1012_b985
  have CH1016 := CH1012.wr W1016 Y1012_b985
  obtain ⟨Lw1016, X1016, N1016⟩ := own_locG X1016 (Fr.snoc X1016 N1014 g_b985)
  have Z1016 : n0 ≤ h1016.size := Nat.le_trans Z1012 (Nat.le_of_eq W1016.size.symm)
  have hk1016 := Nat.le_trans hk1012 (Nat.le_of_eq W1016.size.symm)
  have K1016 : Keep h0 h1016 [] := K1012.wr W1016 (Or.inr sz_b985)
  have V_b985_1016 : Arv Z h1016 b985 k985 .byte (9 : Int32) [(.int (own_tile x0 (0 : Int32))), (.int (own_tile x0 (1 : Int32))), (.int (own_tile x0 (2 : Int32))), (.int (own_tile x0 (3 : Int32))), (.int (own_tile x0 (4 : Int32))), (.int (own_tile x0 (5 : Int32))), (.int (own_tile x0 (6 : Int32))), (.int (nar .byte (own_tile x0 (7 : Int32)))), (.int (0 : Int32))] (.int (0 : Int32)) := Arv.set Ar_o1015 q_o1015 S_o1015 M_o1015 H_o1015 G_o1015 (fits_nar_byte _) W1016 7 rfl (Nat.le_of_ble_eq_true rfl)
  rw [own_narT _ _] at V_b985_1016
  refine GlW.st (g' := (mkF m 72 #[vI x0, vI x1, vI x2, vI x3, vI x4, .unset, .unset, .unset, .unset, .unset, .unset, .unset, .unset, .unset, .unset, .unset, .unset, .unset, .unset, .unset] [(.ref b985)])) (fun τ κ => st1016 _ κ) ?_
  refine GlW.st (g' := (mkF m 75 #[vI x0, vI x1, vI x2, vI x3, vI x4, .unset, .unset, .unset, .unset, .unset, .unset, .unset, .unset, .unset, .unset, .unset, .unset, .unset, .unset, .unset] [(.int (8 : Int32)), (.ref b985), (.ref b985)])) (fun τ κ => XS.dup X1016.here hx rfl (hb hby at_72) rfl rfl (XS.bipush X1016.here hx rfl (hb hby at_73) κ)) ?_
  refine GlW.st (g' := (mkF m 78 #[vI x0, vI x1, vI x2, vI x3, vI x4, .unset, .unset, .unset, .unset, .unset, .unset, .unset, .unset, .unset, .unset, .unset, .unset, .unset, .unset, .unset] [(.int (8 : Int32)), (.int x0), (.int (8 : Int32)), (.ref b985), (.ref b985)])) (fun τ κ => XS.iloadN X1016.here hx rfl (hb hby at_75) rfl (XS.bipush X1016.here hx rfl (hb hby at_76) κ)) ?_
  obtain ⟨rv1018, _, ⟨T1018, L1018, k1018, n1018⟩, -, X1018, ⟨Lc1018, hQ1018, l1018, y1018, z1018⟩, st1018⟩ := Jvm.LawKit.callS X1016 hx (y := (⟨"com/example/wanderpath/wanderpath/GridCanStepPinLaw", "tile", "(II)B"⟩ : MethodName)) hown (mvT hZ (w1_ hw)) (mvT hZ (w2_ hw)) (mvT hZ (w3_ hw)) (mvT hZ (w4_ hw)) (by decide) (backOf (W := 3) (rm1 l Z a0 hw [] x0 (8 : Int32) h1016 n0 Z1016 ) hZ (w4_ hw) (w3_ hw) (by decide) (by decide)) (g := (mkF m 78 #[vI x0, vI x1, vI x2, vI x3, vI x4, .unset, .unset, .unset, .unset, .unset, .unset, .unset, .unset, .unset, .unset, .unset, .unset, .unset, .unset, .unset] [(.int (8 : Int32)), (.int x0), (.int (8 : Int32)), (.ref b985), (.ref b985)])) rfl (by rw [hml]; rfl) (argsL := [(.int x0), (.int (8 : Int32))]) (rest := [(.int (8 : Int32)), (.ref b985), (.ref b985)]) (lenOf pd_9 rfl) rfl (by show 2 * 0 + _ ≤ _; exact Nat.le_of_eq rfl) (hb hby at_78) (fun _ _ => ⟨rfl, e1016, Nat.le_of_ble_eq_true rfl, Nat.le_of_ble_eq_true rfl⟩)
  dsimp only [Pt.U, Pt.locs, Pt.cells, Pt.slots] at X1018 l1018 y1018 z1018 st1018 hQ1018
  subst l1018 y1018 z1018
  have X1018 := X1018.more (cells' := 1) (slots' := 9) (by decide) (by decide)
  obtain ⟨hq1018, N1018q, e1018⟩ := hQ1018
  have hq1018 : rv1018 = some (.int (own_tile x0 (8 : Int32))) := hq1018
  subst hq1018
  have N1018 := Fr.app N1016 N1018q
  obtain ⟨Lw1018, X1018, N1018⟩ := own_locG X1018 N1018
  refine GlW.st (g' := (mkF m 81 #[vI x0, vI x1, vI x2, vI x3, vI x4, .unset, .unset, .unset, .unset, .unset, .unset, .unset, .unset, .unset, .unset, .unset, .unset, .unset, .unset, .unset] [(.int (own_tile x0 (8 : Int32))), (.int (8 : Int32)), (.ref b985), (.ref b985)])) (fun τ κ => st1018 _ κ) ?_
  obtain ⟨cl_o1019, Ar_o1019, q_o1019, S_o1019, M_o1019, H_o1019, G_o1019⟩ := id V_b985_1016
  have hin_o1019 : ¬ ((8 : Int32) < 0 ∨ cl_o1019.slots.size ≤ ((8 : Int32)).toNatClampNeg) := inb_of S_o1019 ⟨by decide, by decide⟩
  obtain ⟨T1020, h1020, X1020, e1020, W1020, st1020⟩ := stB X1018 hx hZ e1018 Ar_o1019 (j := (8 : Int32)) hin_o1019 (g := (mkF m 81 #[vI x0, vI x1, vI x2, vI x3, vI x4, .unset, .unset, .unset, .unset, .unset, .unset, .unset, .unset, .unset, .unset, .unset, .unset, .unset, .unset, .unset] [(.int (own_tile x0 (8 : Int32))), (.int (8 : Int32)), (.ref b985), (.ref b985)])) rfl rfl (hb hby at_81)
  have Y1020_b985 := Safe.wr W1020 Y1016_b985 CH1016 Y1016_b985
  have CH1020 := CH1016.wr W1020 Y1016_b985
  obtain ⟨Lw1020, X1020, N1020⟩ := own_locG X1020 (Fr.snoc X1020 N1018 g_b985)
  have Z1020 : n0 ≤ h1020.size := Nat.le_trans Z1016 (Nat.le_of_eq W1020.size.symm)
  have hk1020 := Nat.le_trans hk1016 (Nat.le_of_eq W1020.size.symm)
  have K1020 : Keep h0 h1020 [] := K1016.wr W1020 (Or.inr sz_b985)
  have V_b985_1020 : Arv Z h1020 b985 k985 .byte (9 : Int32) [(.int (own_tile x0 (0 : Int32))), (.int (own_tile x0 (1 : Int32))), (.int (own_tile x0 (2 : Int32))), (.int (own_tile x0 (3 : Int32))), (.int (own_tile x0 (4 : Int32))), (.int (own_tile x0 (5 : Int32))), (.int (own_tile x0 (6 : Int32))), (.int (own_tile x0 (7 : Int32))), (.int (nar .byte (own_tile x0 (8 : Int32))))] (.int (0 : Int32)) := Arv.set Ar_o1019 q_o1019 S_o1019 M_o1019 H_o1019 G_o1019 (fits_nar_byte _) W1020 8 rfl (Nat.le_of_ble_eq_true rfl)
  rw [own_narT _ _] at V_b985_1020
  refine GlW.st (g' := (mkF m 82 #[vI x0, vI x1, vI x2, vI x3, vI x4, .unset, .unset, .unset, .unset, .unset, .unset, .unset, .unset, .unset, .unset, .unset, .unset, .unset, .unset, .unset] [(.ref b985)])) (fun τ κ => st1020 _ κ) ?_
  refine GlW.st (g' := (mkF m 84 #[vI x0, vI x1, vI x2, vI x3, vI x4, vR b985, .unset, .unset, .unset, .unset, .unset, .unset, .unset, .unset, .unset, .unset, .unset, .unset, .unset, .unset] [])) (fun τ κ => XS.astore X1020.here hx rfl (hb hby at_82) rfl rfl (l' := #[vI x0, vI x1, vI x2, vI x3, vI x4, vR b985, .unset, .unset, .unset, .unset, .unset, .unset, .unset, .unset, .unset, .unset, .unset, .unset, .unset, .unset]) rfl κ) ?_
  obtain ⟨vt, Vvt, HT⟩ : ∃ vz, Arv Z h1020 b985 k985 .byte (9 : Int32) vz (.int (0 : Int32)) ∧ ∀ i, ¬ i < 0 → i < (9 : Int32) → vz.getD i.toNatClampNeg (.int (0 : Int32)) = .int (own_tile x0 i) := ⟨_, V_b985_1020, own_t9 (fun z => .int (own_tile x0 z)) _⟩
  refine GlW.st (g' := (mkF m 86 #[vI x0, vI x1, vI x2, vI x3, vI x4, vR b985, .unset, .unset, .unset, .unset, .unset, .unset, .unset, .unset, .unset, .unset, .unset, .unset, .unset, .unset] [(.int (25 : Int32))])) (fun τ κ => XS.bipush X1020.here hx rfl (hb hby at_84) κ) ?_
  obtain ⟨T1022, h1022, k1022, X1022, e1022, E1022, A1022, st1022⟩ := newP X1020 hx hZ (hw _ (List.mem_of_getElem? (i := 8) rfl)) e1020 (g := (mkF m 86 #[vI x0, vI x1, vI x2, vI x3, vI x4, vR b985, .unset, .unset, .unset, .unset, .unset, .unset, .unset, .unset, .unset, .unset, .unset, .unset, .unset, .unset] [(.int (25 : Int32))])) rfl (hb hby at_86) rfl (by decide) (cap := 25) (by decide) (by decide) (by decide) (by decide)
  obtain ⟨b1022, g1022⟩ : ∃ z, z = h1020.size := ⟨_, rfl⟩
  rw [← g1022] at A1022 st1022
  have Yn1022 : Safe Z own_EL s.vm h1020 b1022 := Safe.new (Nat.le_of_eq g1022.symm)
  have Y1022_b985 := Safe.ext E1022 CH1020 Y1020_b985
  have Y1022_b1022 := Safe.ext E1022 CH1020 Yn1022
  have CH1022 := CH1020.ext E1022
  have ne_b985_b1022 : b985 ≠ b1022 := Nat.ne_of_lt (Nat.lt_of_lt_of_le Vvt.lt (Nat.le_of_eq g1022.symm))
  have V_1023 := Vvt.ext E1022
  have hk1022 := Nat.le_trans hk1020 E1022.1
  have g_b1022 : n0 ≤ b1022 := Nat.le_trans Z1020 (Nat.le_of_eq g1022.symm)
  have sz_b1022 : h0.size ≤ b1022 := Nat.le_trans K1020.1 (Nat.le_of_eq g1022.symm)
  have Z1022 : n0 ≤ h1022.size := Nat.le_trans Z1020 E1022.1
  have K1022 : Keep h0 h1022 [] := K1020.ext E1022
  have V_b1022 : Arv Z h1022 b1022 k1022 .boolean (25 : Int32) [(.int (0 : Int32)), (.int (0 : Int32)), (.int (0 : Int32)), (.int (0 : Int32)), (.int (0 : Int32)), (.int (0 : Int32)), (.int (0 : Int32)), (.int (0 : Int32)), (.int (0 : Int32)), (.int (0 : Int32)), (.int (0 : Int32)), (.int (0 : Int32)), (.int (0 : Int32)), (.int (0 : Int32)), (.int (0 : Int32)), (.int (0 : Int32)), (.int (0 : Int32)), (.int (0 : Int32)), (.int (0 : Int32)), (.int (0 : Int32)), (.int (0 : Int32)), (.int (0 : Int32)), (.int (0 : Int32)), (.int (0 : Int32)), (.int (0 : Int32))] (.int (0 : Int32)) := (Arv.new A1022 (by decide)).pad (pad_rep [] (.int (0 : Int32)) 25)
  have X1022 := X1022.more (cells' := 2) (slots' := 34) (by decide) (by decide)
  refine GlW.st (g' := (mkF m 88 #[vI x0, vI x1, vI x2, vI x3, vI x4, vR b985, .unset, .unset, .unset, .unset, .unset, .unset, .unset, .unset, .unset, .unset, .unset, .unset, .unset, .unset] [(.ref b1022)])) (fun τ κ => st1022 _ κ) ?_
  refine GlW.st (g' := (mkF m 90 #[vI x0, vI x1, vI x2, vI x3, vI x4, vR b985, .unset, .unset, .unset, .unset, .unset, .unset, .unset, .unset, .unset, .unset, .unset, .unset, .unset, .unset] [(.int (0 : Int32)), (.ref b1022), (.ref b1022)])) (fun τ κ => XS.dup X1022.here hx rfl (hb hby at_88) rfl rfl (XS.iconst X1022.here hx rfl (hb hby at_89) κ)) ?_
  refine GlW.st (g' := (mkF m 92 #[vI x0, vI x1, vI x2, vI x3, vI x4, vR b985, .unset, .unset, .unset, .unset, .unset, .unset, .unset, .unset, .unset, .unset, .unset, .unset, .unset, .unset] [(.int (0 : Int32)), (.int x1), (.int (0 : Int32)), (.ref b1022), (.ref b1022)])) (fun τ κ => XS.iloadN X1022.here hx rfl (hb hby at_90) rfl (XS.iconst X1022.here hx rfl (hb hby at_91) κ)) ?_
  obtain ⟨rv1024, _, ⟨T1024, L1024, k1024, n1024⟩, -, X1024, ⟨Lc1024, hQ1024, l1024, y1024, z1024⟩, st1024⟩ := Jvm.LawKit.callS X1022 hx (y := (⟨"com/example/wanderpath/wanderpath/GridCanStepPinLaw", "bit", "(II)Z"⟩ : MethodName)) hown (mvT hZ (w5_ hw)) (mvT hZ (w6_ hw)) (mvT hZ (w3_ hw)) (mvT hZ (w7_ hw)) (by decide) (backOf (W := 3) (rm2 l Z a0 hw [] x1 (0 : Int32) h1022 n0 Z1022 ) hZ (w7_ hw) (w3_ hw) (by decide) (by decide)) (g := (mkF m 92 #[vI x0, vI x1, vI x2, vI x3, vI x4, vR b985, .unset, .unset, .unset, .unset, .unset, .unset, .unset, .unset, .unset, .unset, .unset, .unset, .unset, .unset] [(.int (0 : Int32)), (.int x1), (.int (0 : Int32)), (.ref b1022), (.ref b1022)])) rfl (by rw [hml]; rfl) (argsL := [(.int x1), (.int (0 : Int32))]) (rest := [(.int (0 : Int32)), (.ref b1022), (.ref b1022)]) (lenOf pd_8 rfl) rfl (by show 2 * 0 + _ ≤ _; exact Nat.le_of_eq rfl) (hb hby at_92) (fun _ _ => ⟨rfl, e1022, Nat.le_of_ble_eq_true rfl, Nat.le_of_ble_eq_true rfl⟩)
  dsimp only [Pt.U, Pt.locs, Pt.cells, Pt.slots] at X1024 l1024 y1024 z1024 st1024 hQ1024
  subst l1024 y1024 z1024
  have X1024 := X1024.more (cells' := 2) (slots' := 34) (by decide) (by decide)
  obtain ⟨hq1024, N1024q, e1024⟩ := hQ1024
  have hq1024 : rv1024 = some (.int (own_bit x1 (0 : Int32))) := hq1024
  subst hq1024
  have N1024 := Fr.app N1020 N1024q
  obtain ⟨Lw1024, X1024, N1024⟩ := own_locG X1024 N1024
  refine GlW.st (g' := (mkF m 95 #[vI x0, vI x1, vI x2, vI x3, vI x4, vR b985, .unset, .unset, .unset, .unset, .unset, .unset, .unset, .unset, .unset, .unset, .unset, .unset, .unset, .unset] [(.int (own_bit x1 (0 : Int32))), (.int (0 : Int32)), (.ref b1022), (.ref b1022)])) (fun τ κ => st1024 _ κ) ?_
  obtain ⟨cl_o1025, Ar_o1025, q_o1025, S_o1025, M_o1025, H_o1025, G_o1025⟩ := id V_b1022
  have hin_o1025 : ¬ ((0 : Int32) < 0 ∨ cl_o1025.slots.size ≤ ((0 : Int32)).toNatClampNeg) := inb_of S_o1025 ⟨by decide, by decide⟩
  obtain ⟨T1026, h1026, X1026, e1026, W1026, st1026⟩ := stZ X1024 hx hZ e1024 Ar_o1025 (j := (0 : Int32)) hin_o1025 (g := (mkF m 95 #[vI x0, vI x1, vI x2, vI x3, vI x4, vR b985, .unset, .unset, .unset, .unset, .unset, .unset, .unset, .unset, .unset, .unset, .unset, .unset, .unset, .unset] [(.int (own_bit x1 (0 : Int32))), (.int (0 : Int32)), (.ref b1022), (.ref b1022)])) rfl rfl (hb hby at_95)
  have Y1026_b985 := Safe.wr W1026 Y1022_b1022 CH1022 Y1022_b985
  have Y1026_b1022 := Safe.wr W1026 Y1022_b1022 CH1022 Y1022_b1022
  have CH1026 := CH1022.wr W1026 Y1022_b1022
  have V_1027 := V_1023.other W1026 ne_b985_b1022
  obtain ⟨Lw1026, X1026, N1026⟩ := own_locG X1026 (Fr.snoc X1026 N1024 g_b1022)
  have Z1026 : n0 ≤ h1026.size := Nat.le_trans Z1022 (Nat.le_of_eq W1026.size.symm)
  have hk1026 := Nat.le_trans hk1022 (Nat.le_of_eq W1026.size.symm)
  have K1026 : Keep h0 h1026 [] := K1022.wr W1026 (Or.inr sz_b1022)
  have V_b1022_1026 : Arv Z h1026 b1022 k1022 .boolean (25 : Int32) [(.int (nar .boolean (own_bit x1 (0 : Int32)))), (.int (0 : Int32)), (.int (0 : Int32)), (.int (0 : Int32)), (.int (0 : Int32)), (.int (0 : Int32)), (.int (0 : Int32)), (.int (0 : Int32)), (.int (0 : Int32)), (.int (0 : Int32)), (.int (0 : Int32)), (.int (0 : Int32)), (.int (0 : Int32)), (.int (0 : Int32)), (.int (0 : Int32)), (.int (0 : Int32)), (.int (0 : Int32)), (.int (0 : Int32)), (.int (0 : Int32)), (.int (0 : Int32)), (.int (0 : Int32)), (.int (0 : Int32)), (.int (0 : Int32)), (.int (0 : Int32)), (.int (0 : Int32))] (.int (0 : Int32)) := Arv.set Ar_o1025 q_o1025 S_o1025 M_o1025 H_o1025 G_o1025 (fits_nar_bool _) W1026 0 rfl (Nat.le_of_ble_eq_true rfl)
  rw [own_narB _ _] at V_b1022_1026
  refine GlW.st (g' := (mkF m 96 #[vI x0, vI x1, vI x2, vI x3, vI x4, vR b985, .unset, .unset, .unset, .unset, .unset, .unset, .unset, .unset, .unset, .unset, .unset, .unset, .unset, .unset] [(.ref b1022)])) (fun τ κ => st1026 _ κ) ?_
  refine GlW.st (g' := (mkF m 98 #[vI x0, vI x1, vI x2, vI x3, vI x4, vR b985, .unset, .unset, .unset, .unset, .unset, .unset, .unset, .unset, .unset, .unset, .unset, .unset, .unset, .unset] [(.int (1 : Int32)), (.ref b1022), (.ref b1022)])) (fun τ κ => XS.dup X1026.here hx rfl (hb hby at_96) rfl rfl (XS.iconst X1026.here hx rfl (hb hby at_97) κ)) ?_
  refine GlW.st (g' := (mkF m 100 #[vI x0, vI x1, vI x2, vI x3, vI x4, vR b985, .unset, .unset, .unset, .unset, .unset, .unset, .unset, .unset, .unset, .unset, .unset, .unset, .unset, .unset] [(.int (1 : Int32)), (.int x1), (.int (1 : Int32)), (.ref b1022), (.ref b1022)])) (fun τ κ => XS.iloadN X1026.here hx rfl (hb hby at_98) rfl (XS.iconst X1026.here hx rfl (hb hby at_99) κ)) ?_
  obtain ⟨rv1029, _, ⟨T1029, L1029, k1029, n1029⟩, -, X1029, ⟨Lc1029, hQ1029, l1029, y1029, z1029⟩, st1029⟩ := Jvm.LawKit.callS X1026 hx (y := (⟨"com/example/wanderpath/wanderpath/GridCanStepPinLaw", "bit", "(II)Z"⟩ : MethodName)) hown (mvT hZ (w5_ hw)) (mvT hZ (w6_ hw)) (mvT hZ (w3_ hw)) (mvT hZ (w7_ hw)) (by decide) (backOf (W := 3) (rm2 l Z a0 hw [] x1 (1 : Int32) h1026 n0 Z1026 ) hZ (w7_ hw) (w3_ hw) (by decide) (by decide)) (g := (mkF m 100 #[vI x0, vI x1, vI x2, vI x3, vI x4, vR b985, .unset, .unset, .unset, .unset, .unset, .unset, .unset, .unset, .unset, .unset, .unset, .unset, .unset, .unset] [(.int (1 : Int32)), (.int x1), (.int (1 : Int32)), (.ref b1022), (.ref b1022)])) rfl (by rw [hml]; rfl) (argsL := [(.int x1), (.int (1 : Int32))]) (rest := [(.int (1 : Int32)), (.ref b1022), (.ref b1022)]) (lenOf pd_8 rfl) rfl (by show 2 * 0 + _ ≤ _; exact Nat.le_of_eq rfl) (hb hby at_100) (fun _ _ => ⟨rfl, e1026, Nat.le_of_ble_eq_true rfl, Nat.le_of_ble_eq_true rfl⟩)
  dsimp only [Pt.U, Pt.locs, Pt.cells, Pt.slots] at X1029 l1029 y1029 z1029 st1029 hQ1029
  subst l1029 y1029 z1029
  have X1029 := X1029.more (cells' := 2) (slots' := 34) (by decide) (by decide)
  obtain ⟨hq1029, N1029q, e1029⟩ := hQ1029
  have hq1029 : rv1029 = some (.int (own_bit x1 (1 : Int32))) := hq1029
  subst hq1029
  have N1029 := Fr.app N1026 N1029q
  obtain ⟨Lw1029, X1029, N1029⟩ := own_locG X1029 N1029
  refine GlW.st (g' := (mkF m 103 #[vI x0, vI x1, vI x2, vI x3, vI x4, vR b985, .unset, .unset, .unset, .unset, .unset, .unset, .unset, .unset, .unset, .unset, .unset, .unset, .unset, .unset] [(.int (own_bit x1 (1 : Int32))), (.int (1 : Int32)), (.ref b1022), (.ref b1022)])) (fun τ κ => st1029 _ κ) ?_
  obtain ⟨cl_o1030, Ar_o1030, q_o1030, S_o1030, M_o1030, H_o1030, G_o1030⟩ := id V_b1022_1026
  have hin_o1030 : ¬ ((1 : Int32) < 0 ∨ cl_o1030.slots.size ≤ ((1 : Int32)).toNatClampNeg) := inb_of S_o1030 ⟨by decide, by decide⟩
  obtain ⟨T1031, h1031, X1031, e1031, W1031, st1031⟩ := stZ X1029 hx hZ e1029 Ar_o1030 (j := (1 : Int32)) hin_o1030 (g := (mkF m 103 #[vI x0, vI x1, vI x2, vI x3, vI x4, vR b985, .unset, .unset, .unset, .unset, .unset, .unset, .unset, .unset, .unset, .unset, .unset, .unset, .unset, .unset] [(.int (own_bit x1 (1 : Int32))), (.int (1 : Int32)), (.ref b1022), (.ref b1022)])) rfl rfl (hb hby at_103)
  have Y1031_b985 := Safe.wr W1031 Y1026_b1022 CH1026 Y1026_b985
  have Y1031_b1022 := Safe.wr W1031 Y1026_b1022 CH1026 Y1026_b1022
  have CH1031 := CH1026.wr W1031 Y1026_b1022
  have V_1032 := V_1027.other W1031 ne_b985_b1022
  obtain ⟨Lw1031, X1031, N1031⟩ := own_locG X1031 (Fr.snoc X1031 N1029 g_b1022)
  have Z1031 : n0 ≤ h1031.size := Nat.le_trans Z1026 (Nat.le_of_eq W1031.size.symm)
  have hk1031 := Nat.le_trans hk1026 (Nat.le_of_eq W1031.size.symm)
  have K1031 : Keep h0 h1031 [] := K1026.wr W1031 (Or.inr sz_b1022)
  have V_b1022_1031 : Arv Z h1031 b1022 k1022 .boolean (25 : Int32) [(.int (own_bit x1 (0 : Int32))), (.int (nar .boolean (own_bit x1 (1 : Int32)))), (.int (0 : Int32)), (.int (0 : Int32)), (.int (0 : Int32)), (.int (0 : Int32)), (.int (0 : Int32)), (.int (0 : Int32)), (.int (0 : Int32)), (.int (0 : Int32)), (.int (0 : Int32)), (.int (0 : Int32)), (.int (0 : Int32)), (.int (0 : Int32)), (.int (0 : Int32)), (.int (0 : Int32)), (.int (0 : Int32)), (.int (0 : Int32)), (.int (0 : Int32)), (.int (0 : Int32)), (.int (0 : Int32)), (.int (0 : Int32)), (.int (0 : Int32)), (.int (0 : Int32)), (.int (0 : Int32))] (.int (0 : Int32)) := Arv.set Ar_o1030 q_o1030 S_o1030 M_o1030 H_o1030 G_o1030 (fits_nar_bool _) W1031 1 rfl (Nat.le_of_ble_eq_true rfl)
  rw [own_narB _ _] at V_b1022_1031
  refine GlW.st (g' := (mkF m 104 #[vI x0, vI x1, vI x2, vI x3, vI x4, vR b985, .unset, .unset, .unset, .unset, .unset, .unset, .unset, .unset, .unset, .unset, .unset, .unset, .unset, .unset] [(.ref b1022)])) (fun τ κ => st1031 _ κ) ?_
  refine GlW.st (g' := (mkF m 106 #[vI x0, vI x1, vI x2, vI x3, vI x4, vR b985, .unset, .unset, .unset, .unset, .unset, .unset, .unset, .unset, .unset, .unset, .unset, .unset, .unset, .unset] [(.int (2 : Int32)), (.ref b1022), (.ref b1022)])) (fun τ κ => XS.dup X1031.here hx rfl (hb hby at_104) rfl rfl (XS.iconst X1031.here hx rfl (hb hby at_105) κ)) ?_
  refine GlW.st (g' := (mkF m 108 #[vI x0, vI x1, vI x2, vI x3, vI x4, vR b985, .unset, .unset, .unset, .unset, .unset, .unset, .unset, .unset, .unset, .unset, .unset, .unset, .unset, .unset] [(.int (2 : Int32)), (.int x1), (.int (2 : Int32)), (.ref b1022), (.ref b1022)])) (fun τ κ => XS.iloadN X1031.here hx rfl (hb hby at_106) rfl (XS.iconst X1031.here hx rfl (hb hby at_107) κ)) ?_
  obtain ⟨rv1034, _, ⟨T1034, L1034, k1034, n1034⟩, -, X1034, ⟨Lc1034, hQ1034, l1034, y1034, z1034⟩, st1034⟩ := Jvm.LawKit.callS X1031 hx (y := (⟨"com/example/wanderpath/wanderpath/GridCanStepPinLaw", "bit", "(II)Z"⟩ : MethodName)) hown (mvT hZ (w5_ hw)) (mvT hZ (w6_ hw)) (mvT hZ (w3_ hw)) (mvT hZ (w7_ hw)) (by decide) (backOf (W := 3) (rm2 l Z a0 hw [] x1 (2 : Int32) h1031 n0 Z1031 ) hZ (w7_ hw) (w3_ hw) (by decide) (by decide)) (g := (mkF m 108 #[vI x0, vI x1, vI x2, vI x3, vI x4, vR b985, .unset, .unset, .unset, .unset, .unset, .unset, .unset, .unset, .unset, .unset, .unset, .unset, .unset, .unset] [(.int (2 : Int32)), (.int x1), (.int (2 : Int32)), (.ref b1022), (.ref b1022)])) rfl (by rw [hml]; rfl) (argsL := [(.int x1), (.int (2 : Int32))]) (rest := [(.int (2 : Int32)), (.ref b1022), (.ref b1022)]) (lenOf pd_8 rfl) rfl (by show 2 * 0 + _ ≤ _; exact Nat.le_of_eq rfl) (hb hby at_108) (fun _ _ => ⟨rfl, e1031, Nat.le_of_ble_eq_true rfl, Nat.le_of_ble_eq_true rfl⟩)
  dsimp only [Pt.U, Pt.locs, Pt.cells, Pt.slots] at X1034 l1034 y1034 z1034 st1034 hQ1034
  subst l1034 y1034 z1034
  have X1034 := X1034.more (cells' := 2) (slots' := 34) (by decide) (by decide)
  obtain ⟨hq1034, N1034q, e1034⟩ := hQ1034
  have hq1034 : rv1034 = some (.int (own_bit x1 (2 : Int32))) := hq1034
  subst hq1034
  have N1034 := Fr.app N1031 N1034q
  obtain ⟨Lw1034, X1034, N1034⟩ := own_locG X1034 N1034
  refine GlW.st (g' := (mkF m 111 #[vI x0, vI x1, vI x2, vI x3, vI x4, vR b985, .unset, .unset, .unset, .unset, .unset, .unset, .unset, .unset, .unset, .unset, .unset, .unset, .unset, .unset] [(.int (own_bit x1 (2 : Int32))), (.int (2 : Int32)), (.ref b1022), (.ref b1022)])) (fun τ κ => st1034 _ κ) ?_
  obtain ⟨cl_o1035, Ar_o1035, q_o1035, S_o1035, M_o1035, H_o1035, G_o1035⟩ := id V_b1022_1031
  have hin_o1035 : ¬ ((2 : Int32) < 0 ∨ cl_o1035.slots.size ≤ ((2 : Int32)).toNatClampNeg) := inb_of S_o1035 ⟨by decide, by decide⟩
  obtain ⟨T1036, h1036, X1036, e1036, W1036, st1036⟩ := stZ X1034 hx hZ e1034 Ar_o1035 (j := (2 : Int32)) hin_o1035 (g := (mkF m 111 #[vI x0, vI x1, vI x2, vI x3, vI x4, vR b985, .unset, .unset, .unset, .unset, .unset, .unset, .unset, .unset, .unset, .unset, .unset, .unset, .unset, .unset] [(.int (own_bit x1 (2 : Int32))), (.int (2 : Int32)), (.ref b1022), (.ref b1022)])) rfl rfl (hb hby at_111)
  have Y1036_b985 := Safe.wr W1036 Y1031_b1022 CH1031 Y1031_b985
  have Y1036_b1022 := Safe.wr W1036 Y1031_b1022 CH1031 Y1031_b1022
  have CH1036 := CH1031.wr W1036 Y1031_b1022
  have V_1037 := V_1032.other W1036 ne_b985_b1022
  obtain ⟨Lw1036, X1036, N1036⟩ := own_locG X1036 (Fr.snoc X1036 N1034 g_b1022)
  have Z1036 : n0 ≤ h1036.size := Nat.le_trans Z1031 (Nat.le_of_eq W1036.size.symm)
  have hk1036 := Nat.le_trans hk1031 (Nat.le_of_eq W1036.size.symm)
  have K1036 : Keep h0 h1036 [] := K1031.wr W1036 (Or.inr sz_b1022)
  have V_b1022_1036 : Arv Z h1036 b1022 k1022 .boolean (25 : Int32) [(.int (own_bit x1 (0 : Int32))), (.int (own_bit x1 (1 : Int32))), (.int (nar .boolean (own_bit x1 (2 : Int32)))), (.int (0 : Int32)), (.int (0 : Int32)), (.int (0 : Int32)), (.int (0 : Int32)), (.int (0 : Int32)), (.int (0 : Int32)), (.int (0 : Int32)), (.int (0 : Int32)), (.int (0 : Int32)), (.int (0 : Int32)), (.int (0 : Int32)), (.int (0 : Int32)), (.int (0 : Int32)), (.int (0 : Int32)), (.int (0 : Int32)), (.int (0 : Int32)), (.int (0 : Int32)), (.int (0 : Int32)), (.int (0 : Int32)), (.int (0 : Int32)), (.int (0 : Int32)), (.int (0 : Int32))] (.int (0 : Int32)) := Arv.set Ar_o1035 q_o1035 S_o1035 M_o1035 H_o1035 G_o1035 (fits_nar_bool _) W1036 2 rfl (Nat.le_of_ble_eq_true rfl)
  rw [own_narB _ _] at V_b1022_1036
  refine GlW.st (g' := (mkF m 112 #[vI x0, vI x1, vI x2, vI x3, vI x4, vR b985, .unset, .unset, .unset, .unset, .unset, .unset, .unset, .unset, .unset, .unset, .unset, .unset, .unset, .unset] [(.ref b1022)])) (fun τ κ => st1036 _ κ) ?_
  refine GlW.st (g' := (mkF m 114 #[vI x0, vI x1, vI x2, vI x3, vI x4, vR b985, .unset, .unset, .unset, .unset, .unset, .unset, .unset, .unset, .unset, .unset, .unset, .unset, .unset, .unset] [(.int (3 : Int32)), (.ref b1022), (.ref b1022)])) (fun τ κ => XS.dup X1036.here hx rfl (hb hby at_112) rfl rfl (XS.iconst X1036.here hx rfl (hb hby at_113) κ)) ?_
  refine GlW.st (g' := (mkF m 116 #[vI x0, vI x1, vI x2, vI x3, vI x4, vR b985, .unset, .unset, .unset, .unset, .unset, .unset, .unset, .unset, .unset, .unset, .unset, .unset, .unset, .unset] [(.int (3 : Int32)), (.int x1), (.int (3 : Int32)), (.ref b1022), (.ref b1022)])) (fun τ κ => XS.iloadN X1036.here hx rfl (hb hby at_114) rfl (XS.iconst X1036.here hx rfl (hb hby at_115) κ)) ?_
  obtain ⟨rv1039, _, ⟨T1039, L1039, k1039, n1039⟩, -, X1039, ⟨Lc1039, hQ1039, l1039, y1039, z1039⟩, st1039⟩ := Jvm.LawKit.callS X1036 hx (y := (⟨"com/example/wanderpath/wanderpath/GridCanStepPinLaw", "bit", "(II)Z"⟩ : MethodName)) hown (mvT hZ (w5_ hw)) (mvT hZ (w6_ hw)) (mvT hZ (w3_ hw)) (mvT hZ (w7_ hw)) (by decide) (backOf (W := 3) (rm2 l Z a0 hw [] x1 (3 : Int32) h1036 n0 Z1036 ) hZ (w7_ hw) (w3_ hw) (by decide) (by decide)) (g := (mkF m 116 #[vI x0, vI x1, vI x2, vI x3, vI x4, vR b985, .unset, .unset, .unset, .unset, .unset, .unset, .unset, .unset, .unset, .unset, .unset, .unset, .unset, .unset] [(.int (3 : Int32)), (.int x1), (.int (3 : Int32)), (.ref b1022), (.ref b1022)])) rfl (by rw [hml]; rfl) (argsL := [(.int x1), (.int (3 : Int32))]) (rest := [(.int (3 : Int32)), (.ref b1022), (.ref b1022)]) (lenOf pd_8 rfl) rfl (by show 2 * 0 + _ ≤ _; exact Nat.le_of_eq rfl) (hb hby at_116) (fun _ _ => ⟨rfl, e1036, Nat.le_of_ble_eq_true rfl, Nat.le_of_ble_eq_true rfl⟩)
  dsimp only [Pt.U, Pt.locs, Pt.cells, Pt.slots] at X1039 l1039 y1039 z1039 st1039 hQ1039
  subst l1039 y1039 z1039
  have X1039 := X1039.more (cells' := 2) (slots' := 34) (by decide) (by decide)
  obtain ⟨hq1039, N1039q, e1039⟩ := hQ1039
  have hq1039 : rv1039 = some (.int (own_bit x1 (3 : Int32))) := hq1039
  subst hq1039
  have N1039 := Fr.app N1036 N1039q
  obtain ⟨Lw1039, X1039, N1039⟩ := own_locG X1039 N1039
  refine GlW.st (g' := (mkF m 119 #[vI x0, vI x1, vI x2, vI x3, vI x4, vR b985, .unset, .unset, .unset, .unset, .unset, .unset, .unset, .unset, .unset, .unset, .unset, .unset, .unset, .unset] [(.int (own_bit x1 (3 : Int32))), (.int (3 : Int32)), (.ref b1022), (.ref b1022)])) (fun τ κ => st1039 _ κ) ?_
  obtain ⟨cl_o1040, Ar_o1040, q_o1040, S_o1040, M_o1040, H_o1040, G_o1040⟩ := id V_b1022_1036
  have hin_o1040 : ¬ ((3 : Int32) < 0 ∨ cl_o1040.slots.size ≤ ((3 : Int32)).toNatClampNeg) := inb_of S_o1040 ⟨by decide, by decide⟩
  obtain ⟨T1041, h1041, X1041, e1041, W1041, st1041⟩ := stZ X1039 hx hZ e1039 Ar_o1040 (j := (3 : Int32)) hin_o1040 (g := (mkF m 119 #[vI x0, vI x1, vI x2, vI x3, vI x4, vR b985, .unset, .unset, .unset, .unset, .unset, .unset, .unset, .unset, .unset, .unset, .unset, .unset, .unset, .unset] [(.int (own_bit x1 (3 : Int32))), (.int (3 : Int32)), (.ref b1022), (.ref b1022)])) rfl rfl (hb hby at_119)
  have Y1041_b985 := Safe.wr W1041 Y1036_b1022 CH1036 Y1036_b985
  have Y1041_b1022 := Safe.wr W1041 Y1036_b1022 CH1036 Y1036_b1022
  have CH1041 := CH1036.wr W1041 Y1036_b1022
  have V_1042 := V_1037.other W1041 ne_b985_b1022
  obtain ⟨Lw1041, X1041, N1041⟩ := own_locG X1041 (Fr.snoc X1041 N1039 g_b1022)
  have Z1041 : n0 ≤ h1041.size := Nat.le_trans Z1036 (Nat.le_of_eq W1041.size.symm)
  have hk1041 := Nat.le_trans hk1036 (Nat.le_of_eq W1041.size.symm)
  have K1041 : Keep h0 h1041 [] := K1036.wr W1041 (Or.inr sz_b1022)
  have V_b1022_1041 : Arv Z h1041 b1022 k1022 .boolean (25 : Int32) [(.int (own_bit x1 (0 : Int32))), (.int (own_bit x1 (1 : Int32))), (.int (own_bit x1 (2 : Int32))), (.int (nar .boolean (own_bit x1 (3 : Int32)))), (.int (0 : Int32)), (.int (0 : Int32)), (.int (0 : Int32)), (.int (0 : Int32)), (.int (0 : Int32)), (.int (0 : Int32)), (.int (0 : Int32)), (.int (0 : Int32)), (.int (0 : Int32)), (.int (0 : Int32)), (.int (0 : Int32)), (.int (0 : Int32)), (.int (0 : Int32)), (.int (0 : Int32)), (.int (0 : Int32)), (.int (0 : Int32)), (.int (0 : Int32)), (.int (0 : Int32)), (.int (0 : Int32)), (.int (0 : Int32)), (.int (0 : Int32))] (.int (0 : Int32)) := Arv.set Ar_o1040 q_o1040 S_o1040 M_o1040 H_o1040 G_o1040 (fits_nar_bool _) W1041 3 rfl (Nat.le_of_ble_eq_true rfl)
  rw [own_narB _ _] at V_b1022_1041
  refine GlW.st (g' := (mkF m 120 #[vI x0, vI x1, vI x2, vI x3, vI x4, vR b985, .unset, .unset, .unset, .unset, .unset, .unset, .unset, .unset, .unset, .unset, .unset, .unset, .unset, .unset] [(.ref b1022)])) (fun τ κ => st1041 _ κ) ?_
  refine GlW.st (g' := (mkF m 122 #[vI x0, vI x1, vI x2, vI x3, vI x4, vR b985, .unset, .unset, .unset, .unset, .unset, .unset, .unset, .unset, .unset, .unset, .unset, .unset, .unset, .unset] [(.int (4 : Int32)), (.ref b1022), (.ref b1022)])) (fun τ κ => XS.dup X1041.here hx rfl (hb hby at_120) rfl rfl (XS.iconst X1041.here hx rfl (hb hby at_121) κ)) ?_
  refine GlW.st (g' := (mkF m 124 #[vI x0, vI x1, vI x2, vI x3, vI x4, vR b985, .unset, .unset, .unset, .unset, .unset, .unset, .unset, .unset, .unset, .unset, .unset, .unset, .unset, .unset] [(.int (4 : Int32)), (.int x1), (.int (4 : Int32)), (.ref b1022), (.ref b1022)])) (fun τ κ => XS.iloadN X1041.here hx rfl (hb hby at_122) rfl (XS.iconst X1041.here hx rfl (hb hby at_123) κ)) ?_
  obtain ⟨rv1044, _, ⟨T1044, L1044, k1044, n1044⟩, -, X1044, ⟨Lc1044, hQ1044, l1044, y1044, z1044⟩, st1044⟩ := Jvm.LawKit.callS X1041 hx (y := (⟨"com/example/wanderpath/wanderpath/GridCanStepPinLaw", "bit", "(II)Z"⟩ : MethodName)) hown (mvT hZ (w5_ hw)) (mvT hZ (w6_ hw)) (mvT hZ (w3_ hw)) (mvT hZ (w7_ hw)) (by decide) (backOf (W := 3) (rm2 l Z a0 hw [] x1 (4 : Int32) h1041 n0 Z1041 ) hZ (w7_ hw) (w3_ hw) (by decide) (by decide)) (g := (mkF m 124 #[vI x0, vI x1, vI x2, vI x3, vI x4, vR b985, .unset, .unset, .unset, .unset, .unset, .unset, .unset, .unset, .unset, .unset, .unset, .unset, .unset, .unset] [(.int (4 : Int32)), (.int x1), (.int (4 : Int32)), (.ref b1022), (.ref b1022)])) rfl (by rw [hml]; rfl) (argsL := [(.int x1), (.int (4 : Int32))]) (rest := [(.int (4 : Int32)), (.ref b1022), (.ref b1022)]) (lenOf pd_8 rfl) rfl (by show 2 * 0 + _ ≤ _; exact Nat.le_of_eq rfl) (hb hby at_124) (fun _ _ => ⟨rfl, e1041, Nat.le_of_ble_eq_true rfl, Nat.le_of_ble_eq_true rfl⟩)
  dsimp only [Pt.U, Pt.locs, Pt.cells, Pt.slots] at X1044 l1044 y1044 z1044 st1044 hQ1044
  subst l1044 y1044 z1044
  have X1044 := X1044.more (cells' := 2) (slots' := 34) (by decide) (by decide)
  obtain ⟨hq1044, N1044q, e1044⟩ := hQ1044
  have hq1044 : rv1044 = some (.int (own_bit x1 (4 : Int32))) := hq1044
  subst hq1044
  have N1044 := Fr.app N1041 N1044q
  obtain ⟨Lw1044, X1044, N1044⟩ := own_locG X1044 N1044
  refine GlW.st (g' := (mkF m 127 #[vI x0, vI x1, vI x2, vI x3, vI x4, vR b985, .unset, .unset, .unset, .unset, .unset, .unset, .unset, .unset, .unset, .unset, .unset, .unset, .unset, .unset] [(.int (own_bit x1 (4 : Int32))), (.int (4 : Int32)), (.ref b1022), (.ref b1022)])) (fun τ κ => st1044 _ κ) ?_
  obtain ⟨cl_o1045, Ar_o1045, q_o1045, S_o1045, M_o1045, H_o1045, G_o1045⟩ := id V_b1022_1041
  have hin_o1045 : ¬ ((4 : Int32) < 0 ∨ cl_o1045.slots.size ≤ ((4 : Int32)).toNatClampNeg) := inb_of S_o1045 ⟨by decide, by decide⟩
  obtain ⟨T1046, h1046, X1046, e1046, W1046, st1046⟩ := stZ X1044 hx hZ e1044 Ar_o1045 (j := (4 : Int32)) hin_o1045 (g := (mkF m 127 #[vI x0, vI x1, vI x2, vI x3, vI x4, vR b985, .unset, .unset, .unset, .unset, .unset, .unset, .unset, .unset, .unset, .unset, .unset, .unset, .unset, .unset] [(.int (own_bit x1 (4 : Int32))), (.int (4 : Int32)), (.ref b1022), (.ref b1022)])) rfl rfl (hb hby at_127)
  have Y1046_b985 := Safe.wr W1046 Y1041_b1022 CH1041 Y1041_b985
  have Y1046_b1022 := Safe.wr W1046 Y1041_b1022 CH1041 Y1041_b1022
  have CH1046 := CH1041.wr W1046 Y1041_b1022
  have V_1047 := V_1042.other W1046 ne_b985_b1022
  obtain ⟨Lw1046, X1046, N1046⟩ := own_locG X1046 (Fr.snoc X1046 N1044 g_b1022)
  have Z1046 : n0 ≤ h1046.size := Nat.le_trans Z1041 (Nat.le_of_eq W1046.size.symm)
  have hk1046 := Nat.le_trans hk1041 (Nat.le_of_eq W1046.size.symm)
  have K1046 : Keep h0 h1046 [] := K1041.wr W1046 (Or.inr sz_b1022)
  have V_b1022_1046 : Arv Z h1046 b1022 k1022 .boolean (25 : Int32) [(.int (own_bit x1 (0 : Int32))), (.int (own_bit x1 (1 : Int32))), (.int (own_bit x1 (2 : Int32))), (.int (own_bit x1 (3 : Int32))), (.int (nar .boolean (own_bit x1 (4 : Int32)))), (.int (0 : Int32)), (.int (0 : Int32)), (.int (0 : Int32)), (.int (0 : Int32)), (.int (0 : Int32)), (.int (0 : Int32)), (.int (0 : Int32)), (.int (0 : Int32)), (.int (0 : Int32)), (.int (0 : Int32)), (.int (0 : Int32)), (.int (0 : Int32)), (.int (0 : Int32)), (.int (0 : Int32)), (.int (0 : Int32)), (.int (0 : Int32)), (.int (0 : Int32)), (.int (0 : Int32)), (.int (0 : Int32)), (.int (0 : Int32))] (.int (0 : Int32)) := Arv.set Ar_o1045 q_o1045 S_o1045 M_o1045 H_o1045 G_o1045 (fits_nar_bool _) W1046 4 rfl (Nat.le_of_ble_eq_true rfl)
  rw [own_narB _ _] at V_b1022_1046
  refine GlW.st (g' := (mkF m 128 #[vI x0, vI x1, vI x2, vI x3, vI x4, vR b985, .unset, .unset, .unset, .unset, .unset, .unset, .unset, .unset, .unset, .unset, .unset, .unset, .unset, .unset] [(.ref b1022)])) (fun τ κ => st1046 _ κ) ?_
  refine GlW.st (g' := (mkF m 130 #[vI x0, vI x1, vI x2, vI x3, vI x4, vR b985, .unset, .unset, .unset, .unset, .unset, .unset, .unset, .unset, .unset, .unset, .unset, .unset, .unset, .unset] [(.int (5 : Int32)), (.ref b1022), (.ref b1022)])) (fun τ κ => XS.dup X1046.here hx rfl (hb hby at_128) rfl rfl (XS.iconst X1046.here hx rfl (hb hby at_129) κ)) ?_
  refine GlW.st (g' := (mkF m 132 #[vI x0, vI x1, vI x2, vI x3, vI x4, vR b985, .unset, .unset, .unset, .unset, .unset, .unset, .unset, .unset, .unset, .unset, .unset, .unset, .unset, .unset] [(.int (5 : Int32)), (.int x1), (.int (5 : Int32)), (.ref b1022), (.ref b1022)])) (fun τ κ => XS.iloadN X1046.here hx rfl (hb hby at_130) rfl (XS.iconst X1046.here hx rfl (hb hby at_131) κ)) ?_
  obtain ⟨rv1049, _, ⟨T1049, L1049, k1049, n1049⟩, -, X1049, ⟨Lc1049, hQ1049, l1049, y1049, z1049⟩, st1049⟩ := Jvm.LawKit.callS X1046 hx (y := (⟨"com/example/wanderpath/wanderpath/GridCanStepPinLaw", "bit", "(II)Z"⟩ : MethodName)) hown (mvT hZ (w5_ hw)) (mvT hZ (w6_ hw)) (mvT hZ (w3_ hw)) (mvT hZ (w7_ hw)) (by decide) (backOf (W := 3) (rm2 l Z a0 hw [] x1 (5 : Int32) h1046 n0 Z1046 ) hZ (w7_ hw) (w3_ hw) (by decide) (by decide)) (g := (mkF m 132 #[vI x0, vI x1, vI x2, vI x3, vI x4, vR b985, .unset, .unset, .unset, .unset, .unset, .unset, .unset, .unset, .unset, .unset, .unset, .unset, .unset, .unset] [(.int (5 : Int32)), (.int x1), (.int (5 : Int32)), (.ref b1022), (.ref b1022)])) rfl (by rw [hml]; rfl) (argsL := [(.int x1), (.int (5 : Int32))]) (rest := [(.int (5 : Int32)), (.ref b1022), (.ref b1022)]) (lenOf pd_8 rfl) rfl (by show 2 * 0 + _ ≤ _; exact Nat.le_of_eq rfl) (hb hby at_132) (fun _ _ => ⟨rfl, e1046, Nat.le_of_ble_eq_true rfl, Nat.le_of_ble_eq_true rfl⟩)
  dsimp only [Pt.U, Pt.locs, Pt.cells, Pt.slots] at X1049 l1049 y1049 z1049 st1049 hQ1049
  subst l1049 y1049 z1049
  have X1049 := X1049.more (cells' := 2) (slots' := 34) (by decide) (by decide)
  obtain ⟨hq1049, N1049q, e1049⟩ := hQ1049
  have hq1049 : rv1049 = some (.int (own_bit x1 (5 : Int32))) := hq1049
  subst hq1049
  have N1049 := Fr.app N1046 N1049q
  obtain ⟨Lw1049, X1049, N1049⟩ := own_locG X1049 N1049
  refine GlW.st (g' := (mkF m 135 #[vI x0, vI x1, vI x2, vI x3, vI x4, vR b985, .unset, .unset, .unset, .unset, .unset, .unset, .unset, .unset, .unset, .unset, .unset, .unset, .unset, .unset] [(.int (own_bit x1 (5 : Int32))), (.int (5 : Int32)), (.ref b1022), (.ref b1022)])) (fun τ κ => st1049 _ κ) ?_
  obtain ⟨cl_o1050, Ar_o1050, q_o1050, S_o1050, M_o1050, H_o1050, G_o1050⟩ := id V_b1022_1046
  have hin_o1050 : ¬ ((5 : Int32) < 0 ∨ cl_o1050.slots.size ≤ ((5 : Int32)).toNatClampNeg) := inb_of S_o1050 ⟨by decide, by decide⟩
  obtain ⟨T1051, h1051, X1051, e1051, W1051, st1051⟩ := stZ X1049 hx hZ e1049 Ar_o1050 (j := (5 : Int32)) hin_o1050 (g := (mkF m 135 #[vI x0, vI x1, vI x2, vI x3, vI x4, vR b985, .unset, .unset, .unset, .unset, .unset, .unset, .unset, .unset, .unset, .unset, .unset, .unset, .unset, .unset] [(.int (own_bit x1 (5 : Int32))), (.int (5 : Int32)), (.ref b1022), (.ref b1022)])) rfl rfl (hb hby at_135)
  have Y1051_b985 := Safe.wr W1051 Y1046_b1022 CH1046 Y1046_b985
  have Y1051_b1022 := Safe.wr W1051 Y1046_b1022 CH1046 Y1046_b1022
  have CH1051 := CH1046.wr W1051 Y1046_b1022
  have V_1052 := V_1047.other W1051 ne_b985_b1022
  obtain ⟨Lw1051, X1051, N1051⟩ := own_locG X1051 (Fr.snoc X1051 N1049 g_b1022)
  have Z1051 : n0 ≤ h1051.size := Nat.le_trans Z1046 (Nat.le_of_eq W1051.size.symm)
  have hk1051 := Nat.le_trans hk1046 (Nat.le_of_eq W1051.size.symm)
  have K1051 : Keep h0 h1051 [] := K1046.wr W1051 (Or.inr sz_b1022)
  have V_b1022_1051 : Arv Z h1051 b1022 k1022 .boolean (25 : Int32) [(.int (own_bit x1 (0 : Int32))), (.int (own_bit x1 (1 : Int32))), (.int (own_bit x1 (2 : Int32))), (.int (own_bit x1 (3 : Int32))), (.int (own_bit x1 (4 : Int32))), (.int (nar .boolean (own_bit x1 (5 : Int32)))), (.int (0 : Int32)), (.int (0 : Int32)), (.int (0 : Int32)), (.int (0 : Int32)), (.int (0 : Int32)), (.int (0 : Int32)), (.int (0 : Int32)), (.int (0 : Int32)), (.int (0 : Int32)), (.int (0 : Int32)), (.int (0 : Int32)), (.int (0 : Int32)), (.int (0 : Int32)), (.int (0 : Int32)), (.int (0 : Int32)), (.int (0 : Int32)), (.int (0 : Int32)), (.int (0 : Int32)), (.int (0 : Int32))] (.int (0 : Int32)) := Arv.set Ar_o1050 q_o1050 S_o1050 M_o1050 H_o1050 G_o1050 (fits_nar_bool _) W1051 5 rfl (Nat.le_of_ble_eq_true rfl)
  rw [own_narB _ _] at V_b1022_1051
  refine GlW.st (g' := (mkF m 136 #[vI x0, vI x1, vI x2, vI x3, vI x4, vR b985, .unset, .unset, .unset, .unset, .unset, .unset, .unset, .unset, .unset, .unset, .unset, .unset, .unset, .unset] [(.ref b1022)])) (fun τ κ => st1051 _ κ) ?_
  refine GlW.st (g' := (mkF m 139 #[vI x0, vI x1, vI x2, vI x3, vI x4, vR b985, .unset, .unset, .unset, .unset, .unset, .unset, .unset, .unset, .unset, .unset, .unset, .unset, .unset, .unset] [(.int (6 : Int32)), (.ref b1022), (.ref b1022)])) (fun τ κ => XS.dup X1051.here hx rfl (hb hby at_136) rfl rfl (XS.bipush X1051.here hx rfl (hb hby at_137) κ)) ?_
  refine GlW.st (g' := (mkF m 142 #[vI x0, vI x1, vI x2, vI x3, vI x4, vR b985, .unset, .unset, .unset, .unset, .unset, .unset, .unset, .unset, .unset, .unset, .unset, .unset, .unset, .unset] [(.int (6 : Int32)), (.int x1), (.int (6 : Int32)), (.ref b1022), (.ref b1022)])) (fun τ κ => XS.iloadN X1051.here hx rfl (hb hby at_139) rfl (XS.bipush X1051.here hx rfl (hb hby at_140) κ)) ?_
  obtain ⟨rv1054, _, ⟨T1054, L1054, k1054, n1054⟩, -, X1054, ⟨Lc1054, hQ1054, l1054, y1054, z1054⟩, st1054⟩ := Jvm.LawKit.callS X1051 hx (y := (⟨"com/example/wanderpath/wanderpath/GridCanStepPinLaw", "bit", "(II)Z"⟩ : MethodName)) hown (mvT hZ (w5_ hw)) (mvT hZ (w6_ hw)) (mvT hZ (w3_ hw)) (mvT hZ (w7_ hw)) (by decide) (backOf (W := 3) (rm2 l Z a0 hw [] x1 (6 : Int32) h1051 n0 Z1051 ) hZ (w7_ hw) (w3_ hw) (by decide) (by decide)) (g := (mkF m 142 #[vI x0, vI x1, vI x2, vI x3, vI x4, vR b985, .unset, .unset, .unset, .unset, .unset, .unset, .unset, .unset, .unset, .unset, .unset, .unset, .unset, .unset] [(.int (6 : Int32)), (.int x1), (.int (6 : Int32)), (.ref b1022), (.ref b1022)])) rfl (by rw [hml]; rfl) (argsL := [(.int x1), (.int (6 : Int32))]) (rest := [(.int (6 : Int32)), (.ref b1022), (.ref b1022)]) (lenOf pd_8 rfl) rfl (by show 2 * 0 + _ ≤ _; exact Nat.le_of_eq rfl) (hb hby at_142) (fun _ _ => ⟨rfl, e1051, Nat.le_of_ble_eq_true rfl, Nat.le_of_ble_eq_true rfl⟩)
  dsimp only [Pt.U, Pt.locs, Pt.cells, Pt.slots] at X1054 l1054 y1054 z1054 st1054 hQ1054
  subst l1054 y1054 z1054
  have X1054 := X1054.more (cells' := 2) (slots' := 34) (by decide) (by decide)
  obtain ⟨hq1054, N1054q, e1054⟩ := hQ1054
  have hq1054 : rv1054 = some (.int (own_bit x1 (6 : Int32))) := hq1054
  subst hq1054
  have N1054 := Fr.app N1051 N1054q
  obtain ⟨Lw1054, X1054, N1054⟩ := own_locG X1054 N1054
  refine GlW.st (g' := (mkF m 145 #[vI x0, vI x1, vI x2, vI x3, vI x4, vR b985, .unset, .unset, .unset, .unset, .unset, .unset, .unset, .unset, .unset, .unset, .unset, .unset, .unset, .unset] [(.int (own_bit x1 (6 : Int32))), (.int (6 : Int32)), (.ref b1022), (.ref b1022)])) (fun τ κ => st1054 _ κ) ?_
  obtain ⟨cl_o1055, Ar_o1055, q_o1055, S_o1055, M_o1055, H_o1055, G_o1055⟩ := id V_b1022_1051
  have hin_o1055 : ¬ ((6 : Int32) < 0 ∨ cl_o1055.slots.size ≤ ((6 : Int32)).toNatClampNeg) := inb_of S_o1055 ⟨by decide, by decide⟩
  obtain ⟨T1056, h1056, X1056, e1056, W1056, st1056⟩ := stZ X1054 hx hZ e1054 Ar_o1055 (j := (6 : Int32)) hin_o1055 (g := (mkF m 145 #[vI x0, vI x1, vI x2, vI x3, vI x4, vR b985, .unset, .unset, .unset, .unset, .unset, .unset, .unset, .unset, .unset, .unset, .unset, .unset, .unset, .unset] [(.int (own_bit x1 (6 : Int32))), (.int (6 : Int32)), (.ref b1022), (.ref b1022)])) rfl rfl (hb hby at_145)
  have Y1056_b985 := Safe.wr W1056 Y1051_b1022 CH1051 Y1051_b985
  have Y1056_b1022 := Safe.wr W1056 Y1051_b1022 CH1051 Y1051_b1022
  have CH1056 := CH1051.wr W1056 Y1051_b1022
  have V_1057 := V_1052.other W1056 ne_b985_b1022
  obtain ⟨Lw1056, X1056, N1056⟩ := own_locG X1056 (Fr.snoc X1056 N1054 g_b1022)
  have Z1056 : n0 ≤ h1056.size := Nat.le_trans Z1051 (Nat.le_of_eq W1056.size.symm)
  have hk1056 := Nat.le_trans hk1051 (Nat.le_of_eq W1056.size.symm)
  have K1056 : Keep h0 h1056 [] := K1051.wr W1056 (Or.inr sz_b1022)
  have V_b1022_1056 : Arv Z h1056 b1022 k1022 .boolean (25 : Int32) [(.int (own_bit x1 (0 : Int32))), (.int (own_bit x1 (1 : Int32))), (.int (own_bit x1 (2 : Int32))), (.int (own_bit x1 (3 : Int32))), (.int (own_bit x1 (4 : Int32))), (.int (own_bit x1 (5 : Int32))), (.int (nar .boolean (own_bit x1 (6 : Int32)))), (.int (0 : Int32)), (.int (0 : Int32)), (.int (0 : Int32)), (.int (0 : Int32)), (.int (0 : Int32)), (.int (0 : Int32)), (.int (0 : Int32)), (.int (0 : Int32)), (.int (0 : Int32)), (.int (0 : Int32)), (.int (0 : Int32)), (.int (0 : Int32)), (.int (0 : Int32)), (.int (0 : Int32)), (.int (0 : Int32)), (.int (0 : Int32)), (.int (0 : Int32)), (.int (0 : Int32))] (.int (0 : Int32)) := Arv.set Ar_o1055 q_o1055 S_o1055 M_o1055 H_o1055 G_o1055 (fits_nar_bool _) W1056 6 rfl (Nat.le_of_ble_eq_true rfl)
  rw [own_narB _ _] at V_b1022_1056
  refine GlW.st (g' := (mkF m 146 #[vI x0, vI x1, vI x2, vI x3, vI x4, vR b985, .unset, .unset, .unset, .unset, .unset, .unset, .unset, .unset, .unset, .unset, .unset, .unset, .unset, .unset] [(.ref b1022)])) (fun τ κ => st1056 _ κ) ?_
  refine GlW.st (g' := (mkF m 149 #[vI x0, vI x1, vI x2, vI x3, vI x4, vR b985, .unset, .unset, .unset, .unset, .unset, .unset, .unset, .unset, .unset, .unset, .unset, .unset, .unset, .unset] [(.int (7 : Int32)), (.ref b1022), (.ref b1022)])) (fun τ κ => XS.dup X1056.here hx rfl (hb hby at_146) rfl rfl (XS.bipush X1056.here hx rfl (hb hby at_147) κ)) ?_
  refine GlW.st (g' := (mkF m 152 #[vI x0, vI x1, vI x2, vI x3, vI x4, vR b985, .unset, .unset, .unset, .unset, .unset, .unset, .unset, .unset, .unset, .unset, .unset, .unset, .unset, .unset] [(.int (7 : Int32)), (.int x1), (.int (7 : Int32)), (.ref b1022), (.ref b1022)])) (fun τ κ => XS.iloadN X1056.here hx rfl (hb hby at_149) rfl (XS.bipush X1056.here hx rfl (hb hby at_150) κ)) ?_
  obtain ⟨rv1059, _, ⟨T1059, L1059, k1059, n1059⟩, -, X1059, ⟨Lc1059, hQ1059, l1059, y1059, z1059⟩, st1059⟩ := Jvm.LawKit.callS X1056 hx (y := (⟨"com/example/wanderpath/wanderpath/GridCanStepPinLaw", "bit", "(II)Z"⟩ : MethodName)) hown (mvT hZ (w5_ hw)) (mvT hZ (w6_ hw)) (mvT hZ (w3_ hw)) (mvT hZ (w7_ hw)) (by decide) (backOf (W := 3) (rm2 l Z a0 hw [] x1 (7 : Int32) h1056 n0 Z1056 ) hZ (w7_ hw) (w3_ hw) (by decide) (by decide)) (g := (mkF m 152 #[vI x0, vI x1, vI x2, vI x3, vI x4, vR b985, .unset, .unset, .unset, .unset, .unset, .unset, .unset, .unset, .unset, .unset, .unset, .unset, .unset, .unset] [(.int (7 : Int32)), (.int x1), (.int (7 : Int32)), (.ref b1022), (.ref b1022)])) rfl (by rw [hml]; rfl) (argsL := [(.int x1), (.int (7 : Int32))]) (rest := [(.int (7 : Int32)), (.ref b1022), (.ref b1022)]) (lenOf pd_8 rfl) rfl (by show 2 * 0 + _ ≤ _; exact Nat.le_of_eq rfl) (hb hby at_152) (fun _ _ => ⟨rfl, e1056, Nat.le_of_ble_eq_true rfl, Nat.le_of_ble_eq_true rfl⟩)
  dsimp only [Pt.U, Pt.locs, Pt.cells, Pt.slots] at X1059 l1059 y1059 z1059 st1059 hQ1059
  subst l1059 y1059 z1059
  have X1059 := X1059.more (cells' := 2) (slots' := 34) (by decide) (by decide)
  obtain ⟨hq1059, N1059q, e1059⟩ := hQ1059
  have hq1059 : rv1059 = some (.int (own_bit x1 (7 : Int32))) := hq1059
  subst hq1059
  have N1059 := Fr.app N1056 N1059q
  obtain ⟨Lw1059, X1059, N1059⟩ := own_locG X1059 N1059
  refine GlW.st (g' := (mkF m 155 #[vI x0, vI x1, vI x2, vI x3, vI x4, vR b985, .unset, .unset, .unset, .unset, .unset, .unset, .unset, .unset, .unset, .unset, .unset, .unset, .unset, .unset] [(.int (own_bit x1 (7 : Int32))), (.int (7 : Int32)), (.ref b1022), (.ref b1022)])) (fun τ κ => st1059 _ κ) ?_
  obtain ⟨cl_o1060, Ar_o1060, q_o1060, S_o1060, M_o1060, H_o1060, G_o1060⟩ := id V_b1022_1056
  have hin_o1060 : ¬ ((7 : Int32) < 0 ∨ cl_o1060.slots.size ≤ ((7 : Int32)).toNatClampNeg) := inb_of S_o1060 ⟨by decide, by decide⟩
  obtain ⟨T1061, h1061, X1061, e1061, W1061, st1061⟩ := stZ X1059 hx hZ e1059 Ar_o1060 (j := (7 : Int32)) hin_o1060 (g := (mkF m 155 #[vI x0, vI x1, vI x2, vI x3, vI x4, vR b985, .unset, .unset, .unset, .unset, .unset, .unset, .unset, .unset, .unset, .unset, .unset, .unset, .unset, .unset] [(.int (own_bit x1 (7 : Int32))), (.int (7 : Int32)), (.ref b1022), (.ref b1022)])) rfl rfl (hb hby at_155)
  have Y1061_b985 := Safe.wr W1061 Y1056_b1022 CH1056 Y1056_b985
  have Y1061_b1022 := Safe.wr W1061 Y1056_b1022 CH1056 Y1056_b1022
  have CH1061 := CH1056.wr W1061 Y1056_b1022
  have V_1062 := V_1057.other W1061 ne_b985_b1022
  obtain ⟨Lw1061, X1061, N1061⟩ := own_locG X1061 (Fr.snoc X1061 N1059 g_b1022)
  have Z1061 : n0 ≤ h1061.size := Nat.le_trans Z1056 (Nat.le_of_eq W1061.size.symm)
  have hk1061 := Nat.le_trans hk1056 (Nat.le_of_eq W1061.size.symm)
  have K1061 : Keep h0 h1061 [] := K1056.wr W1061 (Or.inr sz_b1022)
  have V_b1022_1061 : Arv Z h1061 b1022 k1022 .boolean (25 : Int32) [(.int (own_bit x1 (0 : Int32))), (.int (own_bit x1 (1 : Int32))), (.int (own_bit x1 (2 : Int32))), (.int (own_bit x1 (3 : Int32))), (.int (own_bit x1 (4 : Int32))), (.int (own_bit x1 (5 : Int32))), (.int (own_bit x1 (6 : Int32))), (.int (nar .boolean (own_bit x1 (7 : Int32)))), (.int (0 : Int32)), (.int (0 : Int32)), (.int (0 : Int32)), (.int (0 : Int32)), (.int (0 : Int32)), (.int (0 : Int32)), (.int (0 : Int32)), (.int (0 : Int32)), (.int (0 : Int32)), (.int (0 : Int32)), (.int (0 : Int32)), (.int (0 : Int32)), (.int (0 : Int32)), (.int (0 : Int32)), (.int (0 : Int32)), (.int (0 : Int32)), (.int (0 : Int32))] (.int (0 : Int32)) := Arv.set Ar_o1060 q_o1060 S_o1060 M_o1060 H_o1060 G_o1060 (fits_nar_bool _) W1061 7 rfl (Nat.le_of_ble_eq_true rfl)
  rw [own_narB _ _] at V_b1022_1061
  refine GlW.st (g' := (mkF m 156 #[vI x0, vI x1, vI x2, vI x3, vI x4, vR b985, .unset, .unset, .unset, .unset, .unset, .unset, .unset, .unset, .unset, .unset, .unset, .unset, .unset, .unset] [(.ref b1022)])) (fun τ κ => st1061 _ κ) ?_
  refine GlW.st (g' := (mkF m 159 #[vI x0, vI x1, vI x2, vI x3, vI x4, vR b985, .unset, .unset, .unset, .unset, .unset, .unset, .unset, .unset, .unset, .unset, .unset, .unset, .unset, .unset] [(.int (8 : Int32)), (.ref b1022), (.ref b1022)])) (fun τ κ => XS.dup X1061.here hx rfl (hb hby at_156) rfl rfl (XS.bipush X1061.here hx rfl (hb hby at_157) κ)) ?_
  refine GlW.st (g' := (mkF m 162 #[vI x0, vI x1, vI x2, vI x3, vI x4, vR b985, .unset, .unset, .unset, .unset, .unset, .unset, .unset, .unset, .unset, .unset, .unset, .unset, .unset, .unset] [(.int (8 : Int32)), (.int x1), (.int (8 : Int32)), (.ref b1022), (.ref b1022)])) (fun τ κ => XS.iloadN X1061.here hx rfl (hb hby at_159) rfl (XS.bipush X1061.here hx rfl (hb hby at_160) κ)) ?_
  obtain ⟨rv1064, _, ⟨T1064, L1064, k1064, n1064⟩, -, X1064, ⟨Lc1064, hQ1064, l1064, y1064, z1064⟩, st1064⟩ := Jvm.LawKit.callS X1061 hx (y := (⟨"com/example/wanderpath/wanderpath/GridCanStepPinLaw", "bit", "(II)Z"⟩ : MethodName)) hown (mvT hZ (w5_ hw)) (mvT hZ (w6_ hw)) (mvT hZ (w3_ hw)) (mvT hZ (w7_ hw)) (by decide) (backOf (W := 3) (rm2 l Z a0 hw [] x1 (8 : Int32) h1061 n0 Z1061 ) hZ (w7_ hw) (w3_ hw) (by decide) (by decide)) (g := (mkF m 162 #[vI x0, vI x1, vI x2, vI x3, vI x4, vR b985, .unset, .unset, .unset, .unset, .unset, .unset, .unset, .unset, .unset, .unset, .unset, .unset, .unset, .unset] [(.int (8 : Int32)), (.int x1), (.int (8 : Int32)), (.ref b1022), (.ref b1022)])) rfl (by rw [hml]; rfl) (argsL := [(.int x1), (.int (8 : Int32))]) (rest := [(.int (8 : Int32)), (.ref b1022), (.ref b1022)]) (lenOf pd_8 rfl) rfl (by show 2 * 0 + _ ≤ _; exact Nat.le_of_eq rfl) (hb hby at_162) (fun _ _ => ⟨rfl, e1061, Nat.le_of_ble_eq_true rfl, Nat.le_of_ble_eq_true rfl⟩)
  dsimp only [Pt.U, Pt.locs, Pt.cells, Pt.slots] at X1064 l1064 y1064 z1064 st1064 hQ1064
  subst l1064 y1064 z1064
  have X1064 := X1064.more (cells' := 2) (slots' := 34) (by decide) (by decide)
  obtain ⟨hq1064, N1064q, e1064⟩ := hQ1064
  have hq1064 : rv1064 = some (.int (own_bit x1 (8 : Int32))) := hq1064
  subst hq1064
  have N1064 := Fr.app N1061 N1064q
  obtain ⟨Lw1064, X1064, N1064⟩ := own_locG X1064 N1064
  refine GlW.st (g' := (mkF m 165 #[vI x0, vI x1, vI x2, vI x3, vI x4, vR b985, .unset, .unset, .unset, .unset, .unset, .unset, .unset, .unset, .unset, .unset, .unset, .unset, .unset, .unset] [(.int (own_bit x1 (8 : Int32))), (.int (8 : Int32)), (.ref b1022), (.ref b1022)])) (fun τ κ => st1064 _ κ) ?_
  obtain ⟨cl_o1065, Ar_o1065, q_o1065, S_o1065, M_o1065, H_o1065, G_o1065⟩ := id V_b1022_1061
  have hin_o1065 : ¬ ((8 : Int32) < 0 ∨ cl_o1065.slots.size ≤ ((8 : Int32)).toNatClampNeg) := inb_of S_o1065 ⟨by decide, by decide⟩
  obtain ⟨T1066, h1066, X1066, e1066, W1066, st1066⟩ := stZ X1064 hx hZ e1064 Ar_o1065 (j := (8 : Int32)) hin_o1065 (g := (mkF m 165 #[vI x0, vI x1, vI x2, vI x3, vI x4, vR b985, .unset, .unset, .unset, .unset, .unset, .unset, .unset, .unset, .unset, .unset, .unset, .unset, .unset, .unset] [(.int (own_bit x1 (8 : Int32))), (.int (8 : Int32)), (.ref b1022), (.ref b1022)])) rfl rfl (hb hby at_165)
  have Y1066_b985 := Safe.wr W1066 Y1061_b1022 CH1061 Y1061_b985
  have Y1066_b1022 := Safe.wr W1066 Y1061_b1022 CH1061 Y1061_b1022
  have CH1066 := CH1061.wr W1066 Y1061_b1022
  have V_1067 := V_1062.other W1066 ne_b985_b1022
  obtain ⟨Lw1066, X1066, N1066⟩ := own_locG X1066 (Fr.snoc X1066 N1064 g_b1022)
  have Z1066 : n0 ≤ h1066.size := Nat.le_trans Z1061 (Nat.le_of_eq W1066.size.symm)
  have hk1066 := Nat.le_trans hk1061 (Nat.le_of_eq W1066.size.symm)
  have K1066 : Keep h0 h1066 [] := K1061.wr W1066 (Or.inr sz_b1022)
  have V_b1022_1066 : Arv Z h1066 b1022 k1022 .boolean (25 : Int32) [(.int (own_bit x1 (0 : Int32))), (.int (own_bit x1 (1 : Int32))), (.int (own_bit x1 (2 : Int32))), (.int (own_bit x1 (3 : Int32))), (.int (own_bit x1 (4 : Int32))), (.int (own_bit x1 (5 : Int32))), (.int (own_bit x1 (6 : Int32))), (.int (own_bit x1 (7 : Int32))), (.int (nar .boolean (own_bit x1 (8 : Int32)))), (.int (0 : Int32)), (.int (0 : Int32)), (.int (0 : Int32)), (.int (0 : Int32)), (.int (0 : Int32)), (.int (0 : Int32)), (.int (0 : Int32)), (.int (0 : Int32)), (.int (0 : Int32)), (.int (0 : Int32)), (.int (0 : Int32)), (.int (0 : Int32)), (.int (0 : Int32)), (.int (0 : Int32)), (.int (0 : Int32)), (.int (0 : Int32))] (.int (0 : Int32)) := Arv.set Ar_o1065 q_o1065 S_o1065 M_o1065 H_o1065 G_o1065 (fits_nar_bool _) W1066 8 rfl (Nat.le_of_ble_eq_true rfl)
  rw [own_narB _ _] at V_b1022_1066
  refine GlW.st (g' := (mkF m 166 #[vI x0, vI x1, vI x2, vI x3, vI x4, vR b985, .unset, .unset, .unset, .unset, .unset, .unset, .unset, .unset, .unset, .unset, .unset, .unset, .unset, .unset] [(.ref b1022)])) (fun τ κ => st1066 _ κ) ?_
  refine GlW.st (g' := (mkF m 169 #[vI x0, vI x1, vI x2, vI x3, vI x4, vR b985, .unset, .unset, .unset, .unset, .unset, .unset, .unset, .unset, .unset, .unset, .unset, .unset, .unset, .unset] [(.int (9 : Int32)), (.ref b1022), (.ref b1022)])) (fun τ κ => XS.dup X1066.here hx rfl (hb hby at_166) rfl rfl (XS.bipush X1066.here hx rfl (hb hby at_167) κ)) ?_
  refine GlW.st (g' := (mkF m 172 #[vI x0, vI x1, vI x2, vI x3, vI x4, vR b985, .unset, .unset, .unset, .unset, .unset, .unset, .unset, .unset, .unset, .unset, .unset, .unset, .unset, .unset] [(.int (9 : Int32)), (.int x1), (.int (9 : Int32)), (.ref b1022), (.ref b1022)])) (fun τ κ => XS.iloadN X1066.here hx rfl (hb hby at_169) rfl (XS.bipush X1066.here hx rfl (hb hby at_170) κ)) ?_
  obtain ⟨rv1069, _, ⟨T1069, L1069, k1069, n1069⟩, -, X1069, ⟨Lc1069, hQ1069, l1069, y1069, z1069⟩, st1069⟩ := Jvm.LawKit.callS X1066 hx (y := (⟨"com/example/wanderpath/wanderpath/GridCanStepPinLaw", "bit", "(II)Z"⟩ : MethodName)) hown (mvT hZ (w5_ hw)) (mvT hZ (w6_ hw)) (mvT hZ (w3_ hw)) (mvT hZ (w7_ hw)) (by decide) (backOf (W := 3) (rm2 l Z a0 hw [] x1 (9 : Int32) h1066 n0 Z1066 ) hZ (w7_ hw) (w3_ hw) (by decide) (by decide)) (g := (mkF m 172 #[vI x0, vI x1, vI x2, vI x3, vI x4, vR b985, .unset, .unset, .unset, .unset, .unset, .unset, .unset, .unset, .unset, .unset, .unset, .unset, .unset, .unset] [(.int (9 : Int32)), (.int x1), (.int (9 : Int32)), (.ref b1022), (.ref b1022)])) rfl (by rw [hml]; rfl) (argsL := [(.int x1), (.int (9 : Int32))]) (rest := [(.int (9 : Int32)), (.ref b1022), (.ref b1022)]) (lenOf pd_8 rfl) rfl (by show 2 * 0 + _ ≤ _; exact Nat.le_of_eq rfl) (hb hby at_172) (fun _ _ => ⟨rfl, e1066, Nat.le_of_ble_eq_true rfl, Nat.le_of_ble_eq_true rfl⟩)
  dsimp only [Pt.U, Pt.locs, Pt.cells, Pt.slots] at X1069 l1069 y1069 z1069 st1069 hQ1069
  subst l1069 y1069 z1069
  have X1069 := X1069.more (cells' := 2) (slots' := 34) (by decide) (by decide)
  obtain ⟨hq1069, N1069q, e1069⟩ := hQ1069
  have hq1069 : rv1069 = some (.int (own_bit x1 (9 : Int32))) := hq1069
  subst hq1069
  have N1069 := Fr.app N1066 N1069q
  obtain ⟨Lw1069, X1069, N1069⟩ := own_locG X1069 N1069
  refine GlW.st (g' := (mkF m 175 #[vI x0, vI x1, vI x2, vI x3, vI x4, vR b985, .unset, .unset, .unset, .unset, .unset, .unset, .unset, .unset, .unset, .unset, .unset, .unset, .unset, .unset] [(.int (own_bit x1 (9 : Int32))), (.int (9 : Int32)), (.ref b1022), (.ref b1022)])) (fun τ κ => st1069 _ κ) ?_
  obtain ⟨cl_o1070, Ar_o1070, q_o1070, S_o1070, M_o1070, H_o1070, G_o1070⟩ := id V_b1022_1066
  have hin_o1070 : ¬ ((9 : Int32) < 0 ∨ cl_o1070.slots.size ≤ ((9 : Int32)).toNatClampNeg) := inb_of S_o1070 ⟨by decide, by decide⟩
  obtain ⟨T1071, h1071, X1071, e1071, W1071, st1071⟩ := stZ X1069 hx hZ e1069 Ar_o1070 (j := (9 : Int32)) hin_o1070 (g := (mkF m 175 #[vI x0, vI x1, vI x2, vI x3, vI x4, vR b985, .unset, .unset, .unset, .unset, .unset, .unset, .unset, .unset, .unset, .unset, .unset, .unset, .unset, .unset] [(.int (own_bit x1 (9 : Int32))), (.int (9 : Int32)), (.ref b1022), (.ref b1022)])) rfl rfl (hb hby at_175)
  have Y1071_b985 := Safe.wr W1071 Y1066_b1022 CH1066 Y1066_b985
  have Y1071_b1022 := Safe.wr W1071 Y1066_b1022 CH1066 Y1066_b1022
  have CH1071 := CH1066.wr W1071 Y1066_b1022
  have V_1072 := V_1067.other W1071 ne_b985_b1022
  obtain ⟨Lw1071, X1071, N1071⟩ := own_locG X1071 (Fr.snoc X1071 N1069 g_b1022)
  have Z1071 : n0 ≤ h1071.size := Nat.le_trans Z1066 (Nat.le_of_eq W1071.size.symm)
  have hk1071 := Nat.le_trans hk1066 (Nat.le_of_eq W1071.size.symm)
  have K1071 : Keep h0 h1071 [] := K1066.wr W1071 (Or.inr sz_b1022)
  have V_b1022_1071 : Arv Z h1071 b1022 k1022 .boolean (25 : Int32) [(.int (own_bit x1 (0 : Int32))), (.int (own_bit x1 (1 : Int32))), (.int (own_bit x1 (2 : Int32))), (.int (own_bit x1 (3 : Int32))), (.int (own_bit x1 (4 : Int32))), (.int (own_bit x1 (5 : Int32))), (.int (own_bit x1 (6 : Int32))), (.int (own_bit x1 (7 : Int32))), (.int (own_bit x1 (8 : Int32))), (.int (nar .boolean (own_bit x1 (9 : Int32)))), (.int (0 : Int32)), (.int (0 : Int32)), (.int (0 : Int32)), (.int (0 : Int32)), (.int (0 : Int32)), (.int (0 : Int32)), (.int (0 : Int32)), (.int (0 : Int32)), (.int (0 : Int32)), (.int (0 : Int32)), (.int (0 : Int32)), (.int (0 : Int32)), (.int (0 : Int32)), (.int (0 : Int32)), (.int (0 : Int32))] (.int (0 : Int32)) := Arv.set Ar_o1070 q_o1070 S_o1070 M_o1070 H_o1070 G_o1070 (fits_nar_bool _) W1071 9 rfl (Nat.le_of_ble_eq_true rfl)
  rw [own_narB _ _] at V_b1022_1071
  refine GlW.st (g' := (mkF m 176 #[vI x0, vI x1, vI x2, vI x3, vI x4, vR b985, .unset, .unset, .unset, .unset, .unset, .unset, .unset, .unset, .unset, .unset, .unset, .unset, .unset, .unset] [(.ref b1022)])) (fun τ κ => st1071 _ κ) ?_
  refine GlW.st (g' := (mkF m 179 #[vI x0, vI x1, vI x2, vI x3, vI x4, vR b985, .unset, .unset, .unset, .unset, .unset, .unset, .unset, .unset, .unset, .unset, .unset, .unset, .unset, .unset] [(.int (10 : Int32)), (.ref b1022), (.ref b1022)])) (fun τ κ => XS.dup X1071.here hx rfl (hb hby at_176) rfl rfl (XS.bipush X1071.here hx rfl (hb hby at_177) κ)) ?_
  refine GlW.st (g' := (mkF m 182 #[vI x0, vI x1, vI x2, vI x3, vI x4, vR b985, .unset, .unset, .unset, .unset, .unset, .unset, .unset, .unset, .unset, .unset, .unset, .unset, .unset, .unset] [(.int (10 : Int32)), (.int x1), (.int (10 : Int32)), (.ref b1022), (.ref b1022)])) (fun τ κ => XS.iloadN X1071.here hx rfl (hb hby at_179) rfl (XS.bipush X1071.here hx rfl (hb hby at_180) κ)) ?_
  obtain ⟨rv1074, _, ⟨T1074, L1074, k1074, n1074⟩, -, X1074, ⟨Lc1074, hQ1074, l1074, y1074, z1074⟩, st1074⟩ := Jvm.LawKit.callS X1071 hx (y := (⟨"com/example/wanderpath/wanderpath/GridCanStepPinLaw", "bit", "(II)Z"⟩ : MethodName)) hown (mvT hZ (w5_ hw)) (mvT hZ (w6_ hw)) (mvT hZ (w3_ hw)) (mvT hZ (w7_ hw)) (by decide) (backOf (W := 3) (rm2 l Z a0 hw [] x1 (10 : Int32) h1071 n0 Z1071 ) hZ (w7_ hw) (w3_ hw) (by decide) (by decide)) (g := (mkF m 182 #[vI x0, vI x1, vI x2, vI x3, vI x4, vR b985, .unset, .unset, .unset, .unset, .unset, .unset, .unset, .unset, .unset, .unset, .unset, .unset, .unset, .unset] [(.int (10 : Int32)), (.int x1), (.int (10 : Int32)), (.ref b1022), (.ref b1022)])) rfl (by rw [hml]; rfl) (argsL := [(.int x1), (.int (10 : Int32))]) (rest := [(.int (10 : Int32)), (.ref b1022), (.ref b1022)]) (lenOf pd_8 rfl) rfl (by show 2 * 0 + _ ≤ _; exact Nat.le_of_eq rfl) (hb hby at_182) (fun _ _ => ⟨rfl, e1071, Nat.le_of_ble_eq_true rfl, Nat.le_of_ble_eq_true rfl⟩)
  dsimp only [Pt.U, Pt.locs, Pt.cells, Pt.slots] at X1074 l1074 y1074 z1074 st1074 hQ1074
  subst l1074 y1074 z1074
  have X1074 := X1074.more (cells' := 2) (slots' := 34) (by decide) (by decide)
  obtain ⟨hq1074, N1074q, e1074⟩ := hQ1074
  have hq1074 : rv1074 = some (.int (own_bit x1 (10 : Int32))) := hq1074
  subst hq1074
  have N1074 := Fr.app N1071 N1074q
  obtain ⟨Lw1074, X1074, N1074⟩ := own_locG X1074 N1074
  refine GlW.st (g' := (mkF m 185 #[vI x0, vI x1, vI x2, vI x3, vI x4, vR b985, .unset, .unset, .unset, .unset, .unset, .unset, .unset, .unset, .unset, .unset, .unset, .unset, .unset, .unset] [(.int (own_bit x1 (10 : Int32))), (.int (10 : Int32)), (.ref b1022), (.ref b1022)])) (fun τ κ => st1074 _ κ) ?_
  obtain ⟨cl_o1075, Ar_o1075, q_o1075, S_o1075, M_o1075, H_o1075, G_o1075⟩ := id V_b1022_1071
  have hin_o1075 : ¬ ((10 : Int32) < 0 ∨ cl_o1075.slots.size ≤ ((10 : Int32)).toNatClampNeg) := inb_of S_o1075 ⟨by decide, by decide⟩
  obtain ⟨T1076, h1076, X1076, e1076, W1076, st1076⟩ := stZ X1074 hx hZ e1074 Ar_o1075 (j := (10 : Int32)) hin_o1075 (g := (mkF m 185 #[vI x0, vI x1, vI x2, vI x3, vI x4, vR b985, .unset, .unset, .unset, .unset, .unset, .unset, .unset, .unset, .unset, .unset, .unset, .unset, .unset, .unset] [(.int (own_bit x1 (10 : Int32))), (.int (10 : Int32)), (.ref b1022), (.ref b1022)])) rfl rfl (hb hby at_185)
  have Y1076_b985 := Safe.wr W1076 Y1071_b1022 CH1071 Y1071_b985
  have Y1076_b1022 := Safe.wr W1076 Y1071_b1022 CH1071 Y1071_b1022
  have CH1076 := CH1071.wr W1076 Y1071_b1022
  have V_1077 := V_1072.other W1076 ne_b985_b1022
  obtain ⟨Lw1076, X1076, N1076⟩ := own_locG X1076 (Fr.snoc X1076 N1074 g_b1022)
  have Z1076 : n0 ≤ h1076.size := Nat.le_trans Z1071 (Nat.le_of_eq W1076.size.symm)
  have hk1076 := Nat.le_trans hk1071 (Nat.le_of_eq W1076.size.symm)
  have K1076 : Keep h0 h1076 [] := K1071.wr W1076 (Or.inr sz_b1022)
  have V_b1022_1076 : Arv Z h1076 b1022 k1022 .boolean (25 : Int32) [(.int (own_bit x1 (0 : Int32))), (.int (own_bit x1 (1 : Int32))), (.int (own_bit x1 (2 : Int32))), (.int (own_bit x1 (3 : Int32))), (.int (own_bit x1 (4 : Int32))), (.int (own_bit x1 (5 : Int32))), (.int (own_bit x1 (6 : Int32))), (.int (own_bit x1 (7 : Int32))), (.int (own_bit x1 (8 : Int32))), (.int (own_bit x1 (9 : Int32))), (.int (nar .boolean (own_bit x1 (10 : Int32)))), (.int (0 : Int32)), (.int (0 : Int32)), (.int (0 : Int32)), (.int (0 : Int32)), (.int (0 : Int32)), (.int (0 : Int32)), (.int (0 : Int32)), (.int (0 : Int32)), (.int (0 : Int32)), (.int (0 : Int32)), (.int (0 : Int32)), (.int (0 : Int32)), (.int (0 : Int32)), (.int (0 : Int32))] (.int (0 : Int32)) := Arv.set Ar_o1075 q_o1075 S_o1075 M_o1075 H_o1075 G_o1075 (fits_nar_bool _) W1076 10 rfl (Nat.le_of_ble_eq_true rfl)
  rw [own_narB _ _] at V_b1022_1076
  refine GlW.st (g' := (mkF m 186 #[vI x0, vI x1, vI x2, vI x3, vI x4, vR b985, .unset, .unset, .unset, .unset, .unset, .unset, .unset, .unset, .unset, .unset, .unset, .unset, .unset, .unset] [(.ref b1022)])) (fun τ κ => st1076 _ κ) ?_
  refine GlW.st (g' := (mkF m 189 #[vI x0, vI x1, vI x2, vI x3, vI x4, vR b985, .unset, .unset, .unset, .unset, .unset, .unset, .unset, .unset, .unset, .unset, .unset, .unset, .unset, .unset] [(.int (11 : Int32)), (.ref b1022), (.ref b1022)])) (fun τ κ => XS.dup X1076.here hx rfl (hb hby at_186) rfl rfl (XS.bipush X1076.here hx rfl (hb hby at_187) κ)) ?_
  refine GlW.st (g' := (mkF m 192 #[vI x0, vI x1, vI x2, vI x3, vI x4, vR b985, .unset, .unset, .unset, .unset, .unset, .unset, .unset, .unset, .unset, .unset, .unset, .unset, .unset, .unset] [(.int (11 : Int32)), (.int x1), (.int (11 : Int32)), (.ref b1022), (.ref b1022)])) (fun τ κ => XS.iloadN X1076.here hx rfl (hb hby at_189) rfl (XS.bipush X1076.here hx rfl (hb hby at_190) κ)) ?_
  obtain ⟨rv1079, _, ⟨T1079, L1079, k1079, n1079⟩, -, X1079, ⟨Lc1079, hQ1079, l1079, y1079, z1079⟩, st1079⟩ := Jvm.LawKit.callS X1076 hx (y := (⟨"com/example/wanderpath/wanderpath/GridCanStepPinLaw", "bit", "(II)Z"⟩ : MethodName)) hown (mvT hZ (w5_ hw)) (mvT hZ (w6_ hw)) (mvT hZ (w3_ hw)) (mvT hZ (w7_ hw)) (by decide) (backOf (W := 3) (rm2 l Z a0 hw [] x1 (11 : Int32) h1076 n0 Z1076 ) hZ (w7_ hw) (w3_ hw) (by decide) (by decide)) (g := (mkF m 192 #[vI x0, vI x1, vI x2, vI x3, vI x4, vR b985, .unset, .unset, .unset, .unset, .unset, .unset, .unset, .unset, .unset, .unset, .unset, .unset, .unset, .unset] [(.int (11 : Int32)), (.int x1), (.int (11 : Int32)), (.ref b1022), (.ref b1022)])) rfl (by rw [hml]; rfl) (argsL := [(.int x1), (.int (11 : Int32))]) (rest := [(.int (11 : Int32)), (.ref b1022), (.ref b1022)]) (lenOf pd_8 rfl) rfl (by show 2 * 0 + _ ≤ _; exact Nat.le_of_eq rfl) (hb hby at_192) (fun _ _ => ⟨rfl, e1076, Nat.le_of_ble_eq_true rfl, Nat.le_of_ble_eq_true rfl⟩)
  dsimp only [Pt.U, Pt.locs, Pt.cells, Pt.slots] at X1079 l1079 y1079 z1079 st1079 hQ1079
  subst l1079 y1079 z1079
  have X1079 := X1079.more (cells' := 2) (slots' := 34) (by decide) (by decide)
  obtain ⟨hq1079, N1079q, e1079⟩ := hQ1079
  have hq1079 : rv1079 = some (.int (own_bit x1 (11 : Int32))) := hq1079
  subst hq1079
  have N1079 := Fr.app N1076 N1079q
  obtain ⟨Lw1079, X1079, N1079⟩ := own_locG X1079 N1079
  refine GlW.st (g' := (mkF m 195 #[vI x0, vI x1, vI x2, vI x3, vI x4, vR b985, .unset, .unset, .unset, .unset, .unset, .unset, .unset, .unset, .unset, .unset, .unset, .unset, .unset, .unset] [(.int (own_bit x1 (11 : Int32))), (.int (11 : Int32)), (.ref b1022), (.ref b1022)])) (fun τ κ => st1079 _ κ) ?_
  obtain ⟨cl_o1080, Ar_o1080, q_o1080, S_o1080, M_o1080, H_o1080, G_o1080⟩ := id V_b1022_1076
  have hin_o1080 : ¬ ((11 : Int32) < 0 ∨ cl_o1080.slots.size ≤ ((11 : Int32)).toNatClampNeg) := inb_of S_o1080 ⟨by decide, by decide⟩
  obtain ⟨T1081, h1081, X1081, e1081, W1081, st1081⟩ := stZ X1079 hx hZ e1079 Ar_o1080 (j := (11 : Int32)) hin_o1080 (g := (mkF m 195 #[vI x0, vI x1, vI x2, vI x3, vI x4, vR b985, .unset, .unset, .unset, .unset, .unset, .unset, .unset, .unset, .unset, .unset, .unset, .unset, .unset, .unset] [(.int (own_bit x1 (11 : Int32))), (.int (11 : Int32)), (.ref b1022), (.ref b1022)])) rfl rfl (hb hby at_195)
  have Y1081_b985 := Safe.wr W1081 Y1076_b1022 CH1076 Y1076_b985
  have Y1081_b1022 := Safe.wr W1081 Y1076_b1022 CH1076 Y1076_b1022
  have CH1081 := CH1076.wr W1081 Y1076_b1022
  have V_1082 := V_1077.other W1081 ne_b985_b1022
  obtain ⟨Lw1081, X1081, N1081⟩ := own_locG X1081 (Fr.snoc X1081 N1079 g_b1022)
  have Z1081 : n0 ≤ h1081.size := Nat.le_trans Z1076 (Nat.le_of_eq W1081.size.symm)
  have hk1081 := Nat.le_trans hk1076 (Nat.le_of_eq W1081.size.symm)
  have K1081 : Keep h0 h1081 [] := K1076.wr W1081 (Or.inr sz_b1022)
  have V_b1022_1081 : Arv Z h1081 b1022 k1022 .boolean (25 : Int32) [(.int (own_bit x1 (0 : Int32))), (.int (own_bit x1 (1 : Int32))), (.int (own_bit x1 (2 : Int32))), (.int (own_bit x1 (3 : Int32))), (.int (own_bit x1 (4 : Int32))), (.int (own_bit x1 (5 : Int32))), (.int (own_bit x1 (6 : Int32))), (.int (own_bit x1 (7 : Int32))), (.int (own_bit x1 (8 : Int32))), (.int (own_bit x1 (9 : Int32))), (.int (own_bit x1 (10 : Int32))), (.int (nar .boolean (own_bit x1 (11 : Int32)))), (.int (0 : Int32)), (.int (0 : Int32)), (.int (0 : Int32)), (.int (0 : Int32)), (.int (0 : Int32)), (.int (0 : Int32)), (.int (0 : Int32)), (.int (0 : Int32)), (.int (0 : Int32)), (.int (0 : Int32)), (.int (0 : Int32)), (.int (0 : Int32)), (.int (0 : Int32))] (.int (0 : Int32)) := Arv.set Ar_o1080 q_o1080 S_o1080 M_o1080 H_o1080 G_o1080 (fits_nar_bool _) W1081 11 rfl (Nat.le_of_ble_eq_true rfl)
  rw [own_narB _ _] at V_b1022_1081
  refine GlW.st (g' := (mkF m 196 #[vI x0, vI x1, vI x2, vI x3, vI x4, vR b985, .unset, .unset, .unset, .unset, .unset, .unset, .unset, .unset, .unset, .unset, .unset, .unset, .unset, .unset] [(.ref b1022)])) (fun τ κ => st1081 _ κ) ?_
  refine GlW.st (g' := (mkF m 199 #[vI x0, vI x1, vI x2, vI x3, vI x4, vR b985, .unset, .unset, .unset, .unset, .unset, .unset, .unset, .unset, .unset, .unset, .unset, .unset, .unset, .unset] [(.int (12 : Int32)), (.ref b1022), (.ref b1022)])) (fun τ κ => XS.dup X1081.here hx rfl (hb hby at_196) rfl rfl (XS.bipush X1081.here hx rfl (hb hby at_197) κ)) ?_
  refine GlW.st (g' := (mkF m 202 #[vI x0, vI x1, vI x2, vI x3, vI x4, vR b985, .unset, .unset, .unset, .unset, .unset, .unset, .unset, .unset, .unset, .unset, .unset, .unset, .unset, .unset] [(.int (12 : Int32)), (.int x1), (.int (12 : Int32)), (.ref b1022), (.ref b1022)])) (fun τ κ => XS.iloadN X1081.here hx rfl (hb hby at_199) rfl (XS.bipush X1081.here hx rfl (hb hby at_200) κ)) ?_
  obtain ⟨rv1084, _, ⟨T1084, L1084, k1084, n1084⟩, -, X1084, ⟨Lc1084, hQ1084, l1084, y1084, z1084⟩, st1084⟩ := Jvm.LawKit.callS X1081 hx (y := (⟨"com/example/wanderpath/wanderpath/GridCanStepPinLaw", "bit", "(II)Z"⟩ : MethodName)) hown (mvT hZ (w5_ hw)) (mvT hZ (w6_ hw)) (mvT hZ (w3_ hw)) (mvT hZ (w7_ hw)) (by decide) (backOf (W := 3) (rm2 l Z a0 hw [] x1 (12 : Int32) h1081 n0 Z1081 ) hZ (w7_ hw) (w3_ hw) (by decide) (by decide)) (g := (mkF m 202 #[vI x0, vI x1, vI x2, vI x3, vI x4, vR b985, .unset, .unset, .unset, .unset, .unset, .unset, .unset, .unset, .unset, .unset, .unset, .unset, .unset, .unset] [(.int (12 : Int32)), (.int x1), (.int (12 : Int32)), (.ref b1022), (.ref b1022)])) rfl (by rw [hml]; rfl) (argsL := [(.int x1), (.int (12 : Int32))]) (rest := [(.int (12 : Int32)), (.ref b1022), (.ref b1022)]) (lenOf pd_8 rfl) rfl (by show 2 * 0 + _ ≤ _; exact Nat.le_of_eq rfl) (hb hby at_202) (fun _ _ => ⟨rfl, e1081, Nat.le_of_ble_eq_true rfl, Nat.le_of_ble_eq_true rfl⟩)
  dsimp only [Pt.U, Pt.locs, Pt.cells, Pt.slots] at X1084 l1084 y1084 z1084 st1084 hQ1084
  subst l1084 y1084 z1084
  have X1084 := X1084.more (cells' := 2) (slots' := 34) (by decide) (by decide)
  obtain ⟨hq1084, N1084q, e1084⟩ := hQ1084
  have hq1084 : rv1084 = some (.int (own_bit x1 (12 : Int32))) := hq1084
  subst hq1084
  have N1084 := Fr.app N1081 N1084q
  obtain ⟨Lw1084, X1084, N1084⟩ := own_locG X1084 N1084
  refine GlW.st (g' := (mkF m 205 #[vI x0, vI x1, vI x2, vI x3, vI x4, vR b985, .unset, .unset, .unset, .unset, .unset, .unset, .unset, .unset, .unset, .unset, .unset, .unset, .unset, .unset] [(.int (own_bit x1 (12 : Int32))), (.int (12 : Int32)), (.ref b1022), (.ref b1022)])) (fun τ κ => st1084 _ κ) ?_
  obtain ⟨cl_o1085, Ar_o1085, q_o1085, S_o1085, M_o1085, H_o1085, G_o1085⟩ := id V_b1022_1081
  have hin_o1085 : ¬ ((12 : Int32) < 0 ∨ cl_o1085.slots.size ≤ ((12 : Int32)).toNatClampNeg) := inb_of S_o1085 ⟨by decide, by decide⟩
  obtain ⟨T1086, h1086, X1086, e1086, W1086, st1086⟩ := stZ X1084 hx hZ e1084 Ar_o1085 (j := (12 : Int32)) hin_o1085 (g := (mkF m 205 #[vI x0, vI x1, vI x2, vI x3, vI x4, vR b985, .unset, .unset, .unset, .unset, .unset, .unset, .unset, .unset, .unset, .unset, .unset, .unset, .unset, .unset] [(.int (own_bit x1 (12 : Int32))), (.int (12 : Int32)), (.ref b1022), (.ref b1022)])) rfl rfl (hb hby at_205)
  have Y1086_b985 := Safe.wr W1086 Y1081_b1022 CH1081 Y1081_b985
  have Y1086_b1022 := Safe.wr W1086 Y1081_b1022 CH1081 Y1081_b1022
  have CH1086 := CH1081.wr W1086 Y1081_b1022
  have V_1087 := V_1082.other W1086 ne_b985_b1022
  obtain ⟨Lw1086, X1086, N1086⟩ := own_locG X1086 (Fr.snoc X1086 N1084 g_b1022)
  have Z1086 : n0 ≤ h1086.size := Nat.le_trans Z1081 (Nat.le_of_eq W1086.size.symm)
  have hk1086 := Nat.le_trans hk1081 (Nat.le_of_eq W1086.size.symm)
  have K1086 : Keep h0 h1086 [] := K1081.wr W1086 (Or.inr sz_b1022)
  have V_b1022_1086 : Arv Z h1086 b1022 k1022 .boolean (25 : Int32) [(.int (own_bit x1 (0 : Int32))), (.int (own_bit x1 (1 : Int32))), (.int (own_bit x1 (2 : Int32))), (.int (own_bit x1 (3 : Int32))), (.int (own_bit x1 (4 : Int32))), (.int (own_bit x1 (5 : Int32))), (.int (own_bit x1 (6 : Int32))), (.int (own_bit x1 (7 : Int32))), (.int (own_bit x1 (8 : Int32))), (.int (own_bit x1 (9 : Int32))), (.int (own_bit x1 (10 : Int32))), (.int (own_bit x1 (11 : Int32))), (.int (nar .boolean (own_bit x1 (12 : Int32)))), (.int (0 : Int32)), (.int (0 : Int32)), (.int (0 : Int32)), (.int (0 : Int32)), (.int (0 : Int32)), (.int (0 : Int32)), (.int (0 : Int32)), (.int (0 : Int32)), (.int (0 : Int32)), (.int (0 : Int32)), (.int (0 : Int32)), (.int (0 : Int32))] (.int (0 : Int32)) := Arv.set Ar_o1085 q_o1085 S_o1085 M_o1085 H_o1085 G_o1085 (fits_nar_bool _) W1086 12 rfl (Nat.le_of_ble_eq_true rfl)
  rw [own_narB _ _] at V_b1022_1086
  refine GlW.st (g' := (mkF m 206 #[vI x0, vI x1, vI x2, vI x3, vI x4, vR b985, .unset, .unset, .unset, .unset, .unset, .unset, .unset, .unset, .unset, .unset, .unset, .unset, .unset, .unset] [(.ref b1022)])) (fun τ κ => st1086 _ κ) ?_
  refine GlW.st (g' := (mkF m 209 #[vI x0, vI x1, vI x2, vI x3, vI x4, vR b985, .unset, .unset, .unset, .unset, .unset, .unset, .unset, .unset, .unset, .unset, .unset, .unset, .unset, .unset] [(.int (13 : Int32)), (.ref b1022), (.ref b1022)])) (fun τ κ => XS.dup X1086.here hx rfl (hb hby at_206) rfl rfl (XS.bipush X1086.here hx rfl (hb hby at_207) κ)) ?_
  refine GlW.st (g' := (mkF m 212 #[vI x0, vI x1, vI x2, vI x3, vI x4, vR b985, .unset, .unset, .unset, .unset, .unset, .unset, .unset, .unset, .unset, .unset, .unset, .unset, .unset, .unset] [(.int (13 : Int32)), (.int x1), (.int (13 : Int32)), (.ref b1022), (.ref b1022)])) (fun τ κ => XS.iloadN X1086.here hx rfl (hb hby at_209) rfl (XS.bipush X1086.here hx rfl (hb hby at_210) κ)) ?_
  obtain ⟨rv1089, _, ⟨T1089, L1089, k1089, n1089⟩, -, X1089, ⟨Lc1089, hQ1089, l1089, y1089, z1089⟩, st1089⟩ := Jvm.LawKit.callS X1086 hx (y := (⟨"com/example/wanderpath/wanderpath/GridCanStepPinLaw", "bit", "(II)Z"⟩ : MethodName)) hown (mvT hZ (w5_ hw)) (mvT hZ (w6_ hw)) (mvT hZ (w3_ hw)) (mvT hZ (w7_ hw)) (by decide) (backOf (W := 3) (rm2 l Z a0 hw [] x1 (13 : Int32) h1086 n0 Z1086 ) hZ (w7_ hw) (w3_ hw) (by decide) (by decide)) (g := (mkF m 212 #[vI x0, vI x1, vI x2, vI x3, vI x4, vR b985, .unset, .unset, .unset, .unset, .unset, .unset, .unset, .unset, .unset, .unset, .unset, .unset, .unset, .unset] [(.int (13 : Int32)), (.int x1), (.int (13 : Int32)), (.ref b1022), (.ref b1022)])) rfl (by rw [hml]; rfl) (argsL := [(.int x1), (.int (13 : Int32))]) (rest := [(.int (13 : Int32)), (.ref b1022), (.ref b1022)]) (lenOf pd_8 rfl) rfl (by show 2 * 0 + _ ≤ _; exact Nat.le_of_eq rfl) (hb hby at_212) (fun _ _ => ⟨rfl, e1086, Nat.le_of_ble_eq_true rfl, Nat.le_of_ble_eq_true rfl⟩)
  dsimp only [Pt.U, Pt.locs, Pt.cells, Pt.slots] at X1089 l1089 y1089 z1089 st1089 hQ1089
  subst l1089 y1089 z1089
  have X1089 := X1089.more (cells' := 2) (slots' := 34) (by decide) (by decide)
  obtain ⟨hq1089, N1089q, e1089⟩ := hQ1089
  have hq1089 : rv1089 = some (.int (own_bit x1 (13 : Int32))) := hq1089
  subst hq1089
  have N1089 := Fr.app N1086 N1089q
  obtain ⟨Lw1089, X1089, N1089⟩ := own_locG X1089 N1089
  refine GlW.st (g' := (mkF m 215 #[vI x0, vI x1, vI x2, vI x3, vI x4, vR b985, .unset, .unset, .unset, .unset, .unset, .unset, .unset, .unset, .unset, .unset, .unset, .unset, .unset, .unset] [(.int (own_bit x1 (13 : Int32))), (.int (13 : Int32)), (.ref b1022), (.ref b1022)])) (fun τ κ => st1089 _ κ) ?_
  obtain ⟨cl_o1090, Ar_o1090, q_o1090, S_o1090, M_o1090, H_o1090, G_o1090⟩ := id V_b1022_1086
  have hin_o1090 : ¬ ((13 : Int32) < 0 ∨ cl_o1090.slots.size ≤ ((13 : Int32)).toNatClampNeg) := inb_of S_o1090 ⟨by decide, by decide⟩
  obtain ⟨T1091, h1091, X1091, e1091, W1091, st1091⟩ := stZ X1089 hx hZ e1089 Ar_o1090 (j := (13 : Int32)) hin_o1090 (g := (mkF m 215 #[vI x0, vI x1, vI x2, vI x3, vI x4, vR b985, .unset, .unset, .unset, .unset, .unset, .unset, .unset, .unset, .unset, .unset, .unset, .unset, .unset, .unset] [(.int (own_bit x1 (13 : Int32))), (.int (13 : Int32)), (.ref b1022), (.ref b1022)])) rfl rfl (hb hby at_215)
  have Y1091_b985 := Safe.wr W1091 Y1086_b1022 CH1086 Y1086_b985
  have Y1091_b1022 := Safe.wr W1091 Y1086_b1022 CH1086 Y1086_b1022
  have CH1091 := CH1086.wr W1091 Y1086_b1022
  have V_1092 := V_1087.other W1091 ne_b985_b1022
  obtain ⟨Lw1091, X1091, N1091⟩ := own_locG X1091 (Fr.snoc X1091 N1089 g_b1022)
  have Z1091 : n0 ≤ h1091.size := Nat.le_trans Z1086 (Nat.le_of_eq W1091.size.symm)
  have hk1091 := Nat.le_trans hk1086 (Nat.le_of_eq W1091.size.symm)
  have K1091 : Keep h0 h1091 [] := K1086.wr W1091 (Or.inr sz_b1022)
  have V_b1022_1091 : Arv Z h1091 b1022 k1022 .boolean (25 : Int32) [(.int (own_bit x1 (0 : Int32))), (.int (own_bit x1 (1 : Int32))), (.int (own_bit x1 (2 : Int32))), (.int (own_bit x1 (3 : Int32))), (.int (own_bit x1 (4 : Int32))), (.int (own_bit x1 (5 : Int32))), (.int (own_bit x1 (6 : Int32))), (.int (own_bit x1 (7 : Int32))), (.int (own_bit x1 (8 : Int32))), (.int (own_bit x1 (9 : Int32))), (.int (own_bit x1 (10 : Int32))), (.int (own_bit x1 (11 : Int32))), (.int (own_bit x1 (12 : Int32))), (.int (nar .boolean (own_bit x1 (13 : Int32)))), (.int (0 : Int32)), (.int (0 : Int32)), (.int (0 : Int32)), (.int (0 : Int32)), (.int (0 : Int32)), (.int (0 : Int32)), (.int (0 : Int32)), (.int (0 : Int32)), (.int (0 : Int32)), (.int (0 : Int32)), (.int (0 : Int32))] (.int (0 : Int32)) := Arv.set Ar_o1090 q_o1090 S_o1090 M_o1090 H_o1090 G_o1090 (fits_nar_bool _) W1091 13 rfl (Nat.le_of_ble_eq_true rfl)
  rw [own_narB _ _] at V_b1022_1091
  refine GlW.st (g' := (mkF m 216 #[vI x0, vI x1, vI x2, vI x3, vI x4, vR b985, .unset, .unset, .unset, .unset, .unset, .unset, .unset, .unset, .unset, .unset, .unset, .unset, .unset, .unset] [(.ref b1022)])) (fun τ κ => st1091 _ κ) ?_
  refine GlW.st (g' := (mkF m 219 #[vI x0, vI x1, vI x2, vI x3, vI x4, vR b985, .unset, .unset, .unset, .unset, .unset, .unset, .unset, .unset, .unset, .unset, .unset, .unset, .unset, .unset] [(.int (14 : Int32)), (.ref b1022), (.ref b1022)])) (fun τ κ => XS.dup X1091.here hx rfl (hb hby at_216) rfl rfl (XS.bipush X1091.here hx rfl (hb hby at_217) κ)) ?_
  refine GlW.st (g' := (mkF m 222 #[vI x0, vI x1, vI x2, vI x3, vI x4, vR b985, .unset, .unset, .unset, .unset, .unset, .unset, .unset, .unset, .unset, .unset, .unset, .unset, .unset, .unset] [(.int (14 : Int32)), (.int x1), (.int (14 : Int32)), (.ref b1022), (.ref b1022)])) (fun τ κ => XS.iloadN X1091.here hx rfl (hb hby at_219) rfl (XS.bipush X1091.here hx rfl (hb hby at_220) κ)) ?_
  obtain ⟨rv1094, _, ⟨T1094, L1094, k1094, n1094⟩, -, X1094, ⟨Lc1094, hQ1094, l1094, y1094, z1094⟩, st1094⟩ := Jvm.LawKit.callS X1091 hx (y := (⟨"com/example/wanderpath/wanderpath/GridCanStepPinLaw", "bit", "(II)Z"⟩ : MethodName)) hown (mvT hZ (w5_ hw)) (mvT hZ (w6_ hw)) (mvT hZ (w3_ hw)) (mvT hZ (w7_ hw)) (by decide) (backOf (W := 3) (rm2 l Z a0 hw [] x1 (14 : Int32) h1091 n0 Z1091 ) hZ (w7_ hw) (w3_ hw) (by decide) (by decide)) (g := (mkF m 222 #[vI x0, vI x1, vI x2, vI x3, vI x4, vR b985, .unset, .unset, .unset, .unset, .unset, .unset, .unset, .unset, .unset, .unset, .unset, .unset, .unset, .unset] [(.int (14 : Int32)), (.int x1), (.int (14 : Int32)), (.ref b1022), (.ref b1022)])) rfl (by rw [hml]; rfl) (argsL := [(.int x1), (.int (14 : Int32))]) (rest := [(.int (14 : Int32)), (.ref b1022), (.ref b1022)]) (lenOf pd_8 rfl) rfl (by show 2 * 0 + _ ≤ _; exact Nat.le_of_eq rfl) (hb hby at_222) (fun _ _ => ⟨rfl, e1091, Nat.le_of_ble_eq_true rfl, Nat.le_of_ble_eq_true rfl⟩)
  dsimp only [Pt.U, Pt.locs, Pt.cells, Pt.slots] at X1094 l1094 y1094 z1094 st1094 hQ1094
  subst l1094 y1094 z1094
  have X1094 := X1094.more (cells' := 2) (slots' := 34) (by decide) (by decide)
  obtain ⟨hq1094, N1094q, e1094⟩ := hQ1094
  have hq1094 : rv1094 = some (.int (own_bit x1 (14 : Int32))) := hq1094
  subst hq1094
  have N1094 := Fr.app N1091 N1094q
  obtain ⟨Lw1094, X1094, N1094⟩ := own_locG X1094 N1094
  refine GlW.st (g' := (mkF m 225 #[vI x0, vI x1, vI x2, vI x3, vI x4, vR b985, .unset, .unset, .unset, .unset, .unset, .unset, .unset, .unset, .unset, .unset, .unset, .unset, .unset, .unset] [(.int (own_bit x1 (14 : Int32))), (.int (14 : Int32)), (.ref b1022), (.ref b1022)])) (fun τ κ => st1094 _ κ) ?_
  obtain ⟨cl_o1095, Ar_o1095, q_o1095, S_o1095, M_o1095, H_o1095, G_o1095⟩ := id V_b1022_1091
  have hin_o1095 : ¬ ((14 : Int32) < 0 ∨ cl_o1095.slots.size ≤ ((14 : Int32)).toNatClampNeg) := inb_of S_o1095 ⟨by decide, by decide⟩
  obtain ⟨T1096, h1096, X1096, e1096, W1096, st1096⟩ := stZ X1094 hx hZ e1094 Ar_o1095 (j := (14 : Int32)) hin_o1095 (g := (mkF m 225 #[vI x0, vI x1, vI x2, vI x3, vI x4, vR b985, .unset, .unset, .unset, .unset, .unset, .unset, .unset, .unset, .unset, .unset, .unset, .unset, .unset, .unset] [(.int (own_bit x1 (14 : Int32))), (.int (14 : Int32)), (.ref b1022), (.ref b1022)])) rfl rfl (hb hby at_225)
  have Y1096_b985 := Safe.wr W1096 Y1091_b1022 CH1091 Y1091_b985
  have Y1096_b1022 := Safe.wr W1096 Y1091_b1022 CH1091 Y1091_b1022
  have CH1096 := CH1091.wr W1096 Y1091_b1022
  have V_1097 := V_1092.other W1096 ne_b985_b1022
  obtain ⟨Lw1096, X1096, N1096⟩ := own_locG X1096 (Fr.snoc X1096 N1094 g_b1022)
  have Z1096 : n0 ≤ h1096.size := Nat.le_trans Z1091 (Nat.le_of_eq W1096.size.symm)
  have hk1096 := Nat.le_trans hk1091 (Nat.le_of_eq W1096.size.symm)
  have K1096 : Keep h0 h1096 [] := K1091.wr W1096 (Or.inr sz_b1022)
  have V_b1022_1096 : Arv Z h1096 b1022 k1022 .boolean (25 : Int32) [(.int (own_bit x1 (0 : Int32))), (.int (own_bit x1 (1 : Int32))), (.int (own_bit x1 (2 : Int32))), (.int (own_bit x1 (3 : Int32))), (.int (own_bit x1 (4 : Int32))), (.int (own_bit x1 (5 : Int32))), (.int (own_bit x1 (6 : Int32))), (.int (own_bit x1 (7 : Int32))), (.int (own_bit x1 (8 : Int32))), (.int (own_bit x1 (9 : Int32))), (.int (own_bit x1 (10 : Int32))), (.int (own_bit x1 (11 : Int32))), (.int (own_bit x1 (12 : Int32))), (.int (own_bit x1 (13 : Int32))), (.int (nar .boolean (own_bit x1 (14 : Int32)))), (.int (0 : Int32)), (.int (0 : Int32)), (.int (0 : Int32)), (.int (0 : Int32)), (.int (0 : Int32)), (.int (0 : Int32)), (.int (0 : Int32)), (.int (0 : Int32)), (.int (0 : Int32)), (.int (0 : Int32))] (.int (0 : Int32)) := Arv.set Ar_o1095 q_o1095 S_o1095 M_o1095 H_o1095 G_o1095 (fits_nar_bool _) W1096 14 rfl (Nat.le_of_ble_eq_true rfl)
  rw [own_narB _ _] at V_b1022_1096
  refine GlW.st (g' := (mkF m 226 #[vI x0, vI x1, vI x2, vI x3, vI x4, vR b985, .unset, .unset, .unset, .unset, .unset, .unset, .unset, .unset, .unset, .unset, .unset, .unset, .unset, .unset] [(.ref b1022)])) (fun τ κ => st1096 _ κ) ?_
  refine GlW.st (g' := (mkF m 229 #[vI x0, vI x1, vI x2, vI x3, vI x4, vR b985, .unset, .unset, .unset, .unset, .unset, .unset, .unset, .unset, .unset, .unset, .unset, .unset, .unset, .unset] [(.int (15 : Int32)), (.ref b1022), (.ref b1022)])) (fun τ κ => XS.dup X1096.here hx rfl (hb hby at_226) rfl rfl (XS.bipush X1096.here hx rfl (hb hby at_227) κ)) ?_
  refine GlW.st (g' := (mkF m 232 #[vI x0, vI x1, vI x2, vI x3, vI x4, vR b985, .unset, .unset, .unset, .unset, .unset, .unset, .unset, .unset, .unset, .unset, .unset, .unset, .unset, .unset] [(.int (15 : Int32)), (.int x1), (.int (15 : Int32)), (.ref b1022), (.ref b1022)])) (fun τ κ => XS.iloadN X1096.here hx rfl (hb hby at_229) rfl (XS.bipush X1096.here hx rfl (hb hby at_230) κ)) ?_
  obtain ⟨rv1099, _, ⟨T1099, L1099, k1099, n1099⟩, -, X1099, ⟨Lc1099, hQ1099, l1099, y1099, z1099⟩, st1099⟩ := Jvm.LawKit.callS X1096 hx (y := (⟨"com/example/wanderpath/wanderpath/GridCanStepPinLaw", "bit", "(II)Z"⟩ : MethodName)) hown (mvT hZ (w5_ hw)) (mvT hZ (w6_ hw)) (mvT hZ (w3_ hw)) (mvT hZ (w7_ hw)) (by decide) (backOf (W := 3) (rm2 l Z a0 hw [] x1 (15 : Int32) h1096 n0 Z1096 ) hZ (w7_ hw) (w3_ hw) (by decide) (by decide)) (g := (mkF m 232 #[vI x0, vI x1, vI x2, vI x3, vI x4, vR b985, .unset, .unset, .unset, .unset, .unset, .unset, .unset, .unset, .unset, .unset, .unset, .unset, .unset, .unset] [(.int (15 : Int32)), (.int x1), (.int (15 : Int32)), (.ref b1022), (.ref b1022)])) rfl (by rw [hml]; rfl) (argsL := [(.int x1), (.int (15 : Int32))]) (rest := [(.int (15 : Int32)), (.ref b1022), (.ref b1022)]) (lenOf pd_8 rfl) rfl (by show 2 * 0 + _ ≤ _; exact Nat.le_of_eq rfl) (hb hby at_232) (fun _ _ => ⟨rfl, e1096, Nat.le_of_ble_eq_true rfl, Nat.le_of_ble_eq_true rfl⟩)
  dsimp only [Pt.U, Pt.locs, Pt.cells, Pt.slots] at X1099 l1099 y1099 z1099 st1099 hQ1099
  subst l1099 y1099 z1099
  have X1099 := X1099.more (cells' := 2) (slots' := 34) (by decide) (by decide)
  obtain ⟨hq1099, N1099q, e1099⟩ := hQ1099
  have hq1099 : rv1099 = some (.int (own_bit x1 (15 : Int32))) := hq1099
  subst hq1099
  have N1099 := Fr.app N1096 N1099q
  obtain ⟨Lw1099, X1099, N1099⟩ := own_locG X1099 N1099
  refine GlW.st (g' := (mkF m 235 #[vI x0, vI x1, vI x2, vI x3, vI x4, vR b985, .unset, .unset, .unset, .unset, .unset, .unset, .unset, .unset, .unset, .unset, .unset, .unset, .unset, .unset] [(.int (own_bit x1 (15 : Int32))), (.int (15 : Int32)), (.ref b1022), (.ref b1022)])) (fun τ κ => st1099 _ κ) ?_
  obtain ⟨cl_o1100, Ar_o1100, q_o1100, S_o1100, M_o1100, H_o1100, G_o1100⟩ := id V_b1022_1096
  have hin_o1100 : ¬ ((15 : Int32) < 0 ∨ cl_o1100.slots.size ≤ ((15 : Int32)).toNatClampNeg) := inb_of S_o1100 ⟨by decide, by decide⟩
  obtain ⟨T1101, h1101, X1101, e1101, W1101, st1101⟩ := stZ X1099 hx hZ e1099 Ar_o1100 (j := (15 : Int32)) hin_o1100 (g := (mkF m 235 #[vI x0, vI x1, vI x2, vI x3, vI x4, vR b985, .unset, .unset, .unset, .unset, .unset, .unset, .unset, .unset, .unset, .unset, .unset, .unset, .unset, .unset] [(.int (own_bit x1 (15 : Int32))), (.int (15 : Int32)), (.ref b1022), (.ref b1022)])) rfl rfl (hb hby at_235)
  have Y1101_b985 := Safe.wr W1101 Y1096_b1022 CH1096 Y1096_b985
  have Y1101_b1022 := Safe.wr W1101 Y1096_b1022 CH1096 Y1096_b1022
  have CH1101 := CH1096.wr W1101 Y1096_b1022
  have V_1102 := V_1097.other W1101 ne_b985_b1022
  obtain ⟨Lw1101, X1101, N1101⟩ := own_locG X1101 (Fr.snoc X1101 N1099 g_b1022)
  have Z1101 : n0 ≤ h1101.size := Nat.le_trans Z1096 (Nat.le_of_eq W1101.size.symm)
  have hk1101 := Nat.le_trans hk1096 (Nat.le_of_eq W1101.size.symm)
  have K1101 : Keep h0 h1101 [] := K1096.wr W1101 (Or.inr sz_b1022)
  have V_b1022_1101 : Arv Z h1101 b1022 k1022 .boolean (25 : Int32) [(.int (own_bit x1 (0 : Int32))), (.int (own_bit x1 (1 : Int32))), (.int (own_bit x1 (2 : Int32))), (.int (own_bit x1 (3 : Int32))), (.int (own_bit x1 (4 : Int32))), (.int (own_bit x1 (5 : Int32))), (.int (own_bit x1 (6 : Int32))), (.int (own_bit x1 (7 : Int32))), (.int (own_bit x1 (8 : Int32))), (.int (own_bit x1 (9 : Int32))), (.int (own_bit x1 (10 : Int32))), (.int (own_bit x1 (11 : Int32))), (.int (own_bit x1 (12 : Int32))), (.int (own_bit x1 (13 : Int32))), (.int (own_bit x1 (14 : Int32))), (.int (nar .boolean (own_bit x1 (15 : Int32)))), (.int (0 : Int32)), (.int (0 : Int32)), (.int (0 : Int32)), (.int (0 : Int32)), (.int (0 : Int32)), (.int (0 : Int32)), (.int (0 : Int32)), (.int (0 : Int32)), (.int (0 : Int32))] (.int (0 : Int32)) := Arv.set Ar_o1100 q_o1100 S_o1100 M_o1100 H_o1100 G_o1100 (fits_nar_bool _) W1101 15 rfl (Nat.le_of_ble_eq_true rfl)
  rw [own_narB _ _] at V_b1022_1101
  refine GlW.st (g' := (mkF m 236 #[vI x0, vI x1, vI x2, vI x3, vI x4, vR b985, .unset, .unset, .unset, .unset, .unset, .unset, .unset, .unset, .unset, .unset, .unset, .unset, .unset, .unset] [(.ref b1022)])) (fun τ κ => st1101 _ κ) ?_
  refine GlW.st (g' := (mkF m 239 #[vI x0, vI x1, vI x2, vI x3, vI x4, vR b985, .unset, .unset, .unset, .unset, .unset, .unset, .unset, .unset, .unset, .unset, .unset, .unset, .unset, .unset] [(.int (16 : Int32)), (.ref b1022), (.ref b1022)])) (fun τ κ => XS.dup X1101.here hx rfl (hb hby at_236) rfl rfl (XS.bipush X1101.here hx rfl (hb hby at_237) κ)) ?_
  refine GlW.st (g' := (mkF m 242 #[vI x0, vI x1, vI x2, vI x3, vI x4, vR b985, .unset, .unset, .unset, .unset, .unset, .unset, .unset, .unset, .unset, .unset, .unset, .unset, .unset, .unset] [(.int (16 : Int32)), (.int x1), (.int (16 : Int32)), (.ref b1022), (.ref b1022)])) (fun τ κ => XS.iloadN X1101.here hx rfl (hb hby at_239) rfl (XS.bipush X1101.here hx rfl (hb hby at_240) κ)) ?_
  obtain ⟨rv1104, _, ⟨T1104, L1104, k1104, n1104⟩, -, X1104, ⟨Lc1104, hQ1104, l1104, y1104, z1104⟩, st1104⟩ := Jvm.LawKit.callS X1101 hx (y := (⟨"com/example/wanderpath/wanderpath/GridCanStepPinLaw", "bit", "(II)Z"⟩ : MethodName)) hown (mvT hZ (w5_ hw)) (mvT hZ (w6_ hw)) (mvT hZ (w3_ hw)) (mvT hZ (w7_ hw)) (by decide) (backOf (W := 3) (rm2 l Z a0 hw [] x1 (16 : Int32) h1101 n0 Z1101 ) hZ (w7_ hw) (w3_ hw) (by decide) (by decide)) (g := (mkF m 242 #[vI x0, vI x1, vI x2, vI x3, vI x4, vR b985, .unset, .unset, .unset, .unset, .unset, .unset, .unset, .unset, .unset, .unset, .unset, .unset, .unset, .unset] [(.int (16 : Int32)), (.int x1), (.int (16 : Int32)), (.ref b1022), (.ref b1022)])) rfl (by rw [hml]; rfl) (argsL := [(.int x1), (.int (16 : Int32))]) (rest := [(.int (16 : Int32)), (.ref b1022), (.ref b1022)]) (lenOf pd_8 rfl) rfl (by show 2 * 0 + _ ≤ _; exact Nat.le_of_eq rfl) (hb hby at_242) (fun _ _ => ⟨rfl, e1101, Nat.le_of_ble_eq_true rfl, Nat.le_of_ble_eq_true rfl⟩)
  dsimp only [Pt.U, Pt.locs, Pt.cells, Pt.slots] at X1104 l1104 y1104 z1104 st1104 hQ1104
  subst l1104 y1104 z1104
  have X1104 := X1104.more (cells' := 2) (slots' := 34) (by decide) (by decide)
  obtain ⟨hq1104, N1104q, e1104⟩ := hQ1104
  have hq1104 : rv1104 = some (.int (own_bit x1 (16 : Int32))) := hq1104
  subst hq1104
  have N1104 := Fr.app N1101 N1104q
  obtain ⟨Lw1104, X1104, N1104⟩ := own_locG X1104 N1104
  refine GlW.st (g' := (mkF m 245 #[vI x0, vI x1, vI x2, vI x3, vI x4, vR b985, .unset, .unset, .unset, .unset, .unset, .unset, .unset, .unset, .unset, .unset, .unset, .unset, .unset, .unset] [(.int (own_bit x1 (16 : Int32))), (.int (16 : Int32)), (.ref b1022), (.ref b1022)])) (fun τ κ => st1104 _ κ) ?_
  obtain ⟨cl_o1105, Ar_o1105, q_o1105, S_o1105, M_o1105, H_o1105, G_o1105⟩ := id V_b1022_1101
  have hin_o1105 : ¬ ((16 : Int32) < 0 ∨ cl_o1105.slots.size ≤ ((16 : Int32)).toNatClampNeg) := inb_of S_o1105 ⟨by decide, by decide⟩
  obtain ⟨T1106, h1106, X1106, e1106, W1106, st1106⟩ := stZ X1104 hx hZ e1104 Ar_o1105 (j := (16 : Int32)) hin_o1105 (g := (mkF m 245 #[vI x0, vI x1, vI x2, vI x3, vI x4, vR b985, .unset, .unset, .unset, .unset, .unset, .unset, .unset, .unset, .unset, .unset, .unset, .unset, .unset, .unset] [(.int (own_bit x1 (16 : Int32))), (.int (16 : Int32)), (.ref b1022), (.ref b1022)])) rfl rfl (hb hby at_245)
  have Y1106_b985 := Safe.wr W1106 Y1101_b1022 CH1101 Y1101_b985
  have Y1106_b1022 := Safe.wr W1106 Y1101_b1022 CH1101 Y1101_b1022
  have CH1106 := CH1101.wr W1106 Y1101_b1022
  have V_1107 := V_1102.other W1106 ne_b985_b1022
  obtain ⟨Lw1106, X1106, N1106⟩ := own_locG X1106 (Fr.snoc X1106 N1104 g_b1022)
  have Z1106 : n0 ≤ h1106.size := Nat.le_trans Z1101 (Nat.le_of_eq W1106.size.symm)
  have hk1106 := Nat.le_trans hk1101 (Nat.le_of_eq W1106.size.symm)
  have K1106 : Keep h0 h1106 [] := K1101.wr W1106 (Or.inr sz_b1022)
  have V_b1022_1106 : Arv Z h1106 b1022 k1022 .boolean (25 : Int32) [(.int (own_bit x1 (0 : Int32))), (.int (own_bit x1 (1 : Int32))), (.int (own_bit x1 (2 : Int32))), (.int (own_bit x1 (3 : Int32))), (.int (own_bit x1 (4 : Int32))), (.int (own_bit x1 (5 : Int32))), (.int (own_bit x1 (6 : Int32))), (.int (own_bit x1 (7 : Int32))), (.int (own_bit x1 (8 : Int32))), (.int (own_bit x1 (9 : Int32))), (.int (own_bit x1 (10 : Int32))), (.int (own_bit x1 (11 : Int32))), (.int (own_bit x1 (12 : Int32))), (.int (own_bit x1 (13 : Int32))), (.int (own_bit x1 (14 : Int32))), (.int (own_bit x1 (15 : Int32))), (.int (nar .boolean (own_bit x1 (16 : Int32)))), (.int (0 : Int32)), (.int (0 : Int32)), (.int (0 : Int32)), (.int (0 : Int32)), (.int (0 : Int32)), (.int (0 : Int32)), (.int (0 : Int32)), (.int (0 : Int32))] (.int (0 : Int32)) := Arv.set Ar_o1105 q_o1105 S_o1105 M_o1105 H_o1105 G_o1105 (fits_nar_bool _) W1106 16 rfl (Nat.le_of_ble_eq_true rfl)
  rw [own_narB _ _] at V_b1022_1106
  refine GlW.st (g' := (mkF m 246 #[vI x0, vI x1, vI x2, vI x3, vI x4, vR b985, .unset, .unset, .unset, .unset, .unset, .unset, .unset, .unset, .unset, .unset, .unset, .unset, .unset, .unset] [(.ref b1022)])) (fun τ κ => st1106 _ κ) ?_
  refine GlW.st (g' := (mkF m 249 #[vI x0, vI x1, vI x2, vI x3, vI x4, vR b985, .unset, .unset, .unset, .unset, .unset, .unset, .unset, .unset, .unset, .unset, .unset, .unset, .unset, .unset] [(.int (17 : Int32)), (.ref b1022), (.ref b1022)])) (fun τ κ => XS.dup X1106.here hx rfl (hb hby at_246) rfl rfl (XS.bipush X1106.here hx rfl (hb hby at_247) κ)) ?_
  refine GlW.st (g' := (mkF m 252 #[vI x0, vI x1, vI x2, vI x3, vI x4, vR b985, .unset, .unset, .unset, .unset, .unset, .unset, .unset, .unset, .unset, .unset, .unset, .unset, .unset, .unset] [(.int (17 : Int32)), (.int x1), (.int (17 : Int32)), (.ref b1022), (.ref b1022)])) (fun τ κ => XS.iloadN X1106.here hx rfl (hb hby at_249) rfl (XS.bipush X1106.here hx rfl (hb hby at_250) κ)) ?_
  obtain ⟨rv1109, _, ⟨T1109, L1109, k1109, n1109⟩, -, X1109, ⟨Lc1109, hQ1109, l1109, y1109, z1109⟩, st1109⟩ := Jvm.LawKit.callS X1106 hx (y := (⟨"com/example/wanderpath/wanderpath/GridCanStepPinLaw", "bit", "(II)Z"⟩ : MethodName)) hown (mvT hZ (w5_ hw)) (mvT hZ (w6_ hw)) (mvT hZ (w3_ hw)) (mvT hZ (w7_ hw)) (by decide) (backOf (W := 3) (rm2 l Z a0 hw [] x1 (17 : Int32) h1106 n0 Z1106 ) hZ (w7_ hw) (w3_ hw) (by decide) (by decide)) (g := (mkF m 252 #[vI x0, vI x1, vI x2, vI x3, vI x4, vR b985, .unset, .unset, .unset, .unset, .unset, .unset, .unset, .unset, .unset, .unset, .unset, .unset, .unset, .unset] [(.int (17 : Int32)), (.int x1), (.int (17 : Int32)), (.ref b1022), (.ref b1022)])) rfl (by rw [hml]; rfl) (argsL := [(.int x1), (.int (17 : Int32))]) (rest := [(.int (17 : Int32)), (.ref b1022), (.ref b1022)]) (lenOf pd_8 rfl) rfl (by show 2 * 0 + _ ≤ _; exact Nat.le_of_eq rfl) (hb hby at_252) (fun _ _ => ⟨rfl, e1106, Nat.le_of_ble_eq_true rfl, Nat.le_of_ble_eq_true rfl⟩)
  dsimp only [Pt.U, Pt.locs, Pt.cells, Pt.slots] at X1109 l1109 y1109 z1109 st1109 hQ1109
  subst l1109 y1109 z1109
  have X1109 := X1109.more (cells' := 2) (slots' := 34) (by decide) (by decide)
  obtain ⟨hq1109, N1109q, e1109⟩ := hQ1109
  have hq1109 : rv1109 = some (.int (own_bit x1 (17 : Int32))) := hq1109
  subst hq1109
  have N1109 := Fr.app N1106 N1109q
  obtain ⟨Lw1109, X1109, N1109⟩ := own_locG X1109 N1109
  refine GlW.st (g' := (mkF m 255 #[vI x0, vI x1, vI x2, vI x3, vI x4, vR b985, .unset, .unset, .unset, .unset, .unset, .unset, .unset, .unset, .unset, .unset, .unset, .unset, .unset, .unset] [(.int (own_bit x1 (17 : Int32))), (.int (17 : Int32)), (.ref b1022), (.ref b1022)])) (fun τ κ => st1109 _ κ) ?_
  obtain ⟨cl_o1110, Ar_o1110, q_o1110, S_o1110, M_o1110, H_o1110, G_o1110⟩ := id V_b1022_1106
  have hin_o1110 : ¬ ((17 : Int32) < 0 ∨ cl_o1110.slots.size ≤ ((17 : Int32)).toNatClampNeg) := inb_of S_o1110 ⟨by decide, by decide⟩
  obtain ⟨T1111, h1111, X1111, e1111, W1111, st1111⟩ := stZ X1109 hx hZ e1109 Ar_o1110 (j := (17 : Int32)) hin_o1110 (g := (mkF m 255 #[vI x0, vI x1, vI x2, vI x3, vI x4, vR b985, .unset, .unset, .unset, .unset, .unset, .unset, .unset, .unset, .unset, .unset, .unset, .unset, .unset, .unset] [(.int (own_bit x1 (17 : Int32))), (.int (17 : Int32)), (.ref b1022), (.ref b1022)])) rfl rfl (hb hby at_255)
  have Y1111_b985 := Safe.wr W1111 Y1106_b1022 CH1106 Y1106_b985
  have Y1111_b1022 := Safe.wr W1111 Y1106_b1022 CH1106 Y1106_b1022
  have CH1111 := CH1106.wr W1111 Y1106_b1022
  have V_1112 := V_1107.other W1111 ne_b985_b1022
  obtain ⟨Lw1111, X1111, N1111⟩ := own_locG X1111 (Fr.snoc X1111 N1109 g_b1022)
  have Z1111 : n0 ≤ h1111.size := Nat.le_trans Z1106 (Nat.le_of_eq W1111.size.symm)
  have hk1111 := Nat.le_trans hk1106 (Nat.le_of_eq W1111.size.symm)
  have K1111 : Keep h0 h1111 [] := K1106.wr W1111 (Or.inr sz_b1022)
  have V_b1022_1111 : Arv Z h1111 b1022 k1022 .boolean (25 : Int32) [(.int (own_bit x1 (0 : Int32))), (.int (own_bit x1 (1 : Int32))), (.int (own_bit x1 (2 : Int32))), (.int (own_bit x1 (3 : Int32))), (.int (own_bit x1 (4 : Int32))), (.int (own_bit x1 (5 : Int32))), (.int (own_bit x1 (6 : Int32))), (.int (own_bit x1 (7 : Int32))), (.int (own_bit x1 (8 : Int32))), (.int (own_bit x1 (9 : Int32))), (.int (own_bit x1 (10 : Int32))), (.int (own_bit x1 (11 : Int32))), (.int (own_bit x1 (12 : Int32))), (.int (own_bit x1 (13 : Int32))), (.int (own_bit x1 (14 : Int32))), (.int (own_bit x1 (15 : Int32))), (.int (own_bit x1 (16 : Int32))), (.int (nar .boolean (own_bit x1 (17 : Int32)))), (.int (0 : Int32)), (.int (0 : Int32)), (.int (0 : Int32)), (.int (0 : Int32)), (.int (0 : Int32)), (.int (0 : Int32)), (.int (0 : Int32))] (.int (0 : Int32)) := Arv.set Ar_o1110 q_o1110 S_o1110 M_o1110 H_o1110 G_o1110 (fits_nar_bool _) W1111 17 rfl (Nat.le_of_ble_eq_true rfl)
  rw [own_narB _ _] at V_b1022_1111
  refine GlW.st (g' := (mkF m 256 #[vI x0, vI x1, vI x2, vI x3, vI x4, vR b985, .unset, .unset, .unset, .unset, .unset, .unset, .unset, .unset, .unset, .unset, .unset, .unset, .unset, .unset] [(.ref b1022)])) (fun τ κ => st1111 _ κ) ?_
  refine GlW.st (g' := (mkF m 259 #[vI x0, vI x1, vI x2, vI x3, vI x4, vR b985, .unset, .unset, .unset, .unset, .unset, .unset, .unset, .unset, .unset, .unset, .unset, .unset, .unset, .unset] [(.int (18 : Int32)), (.ref b1022), (.ref b1022)])) (fun τ κ => XS.dup X1111.here hx rfl (hb hby at_256) rfl rfl (XS.bipush X1111.here hx rfl (hb hby at_257) κ)) ?_
  refine GlW.st (g' := (mkF m 262 #[vI x0, vI x1, vI x2, vI x3, vI x4, vR b985, .unset, .unset, .unset, .unset, .unset, .unset, .unset, .unset, .unset, .unset, .unset, .unset, .unset, .unset] [(.int (18 : Int32)), (.int x1), (.int (18 : Int32)), (.ref b1022), (.ref b1022)])) (fun τ κ => XS.iloadN X1111.here hx rfl (hb hby at_259) rfl (XS.bipush X1111.here hx rfl (hb hby at_260) κ)) ?_
  obtain ⟨rv1114, _, ⟨T1114, L1114, k1114, n1114⟩, -, X1114, ⟨Lc1114, hQ1114, l1114, y1114, z1114⟩, st1114⟩ := Jvm.LawKit.callS X1111 hx (y := (⟨"com/example/wanderpath/wanderpath/GridCanStepPinLaw", "bit", "(II)Z"⟩ : MethodName)) hown (mvT hZ (w5_ hw)) (mvT hZ (w6_ hw)) (mvT hZ (w3_ hw)) (mvT hZ (w7_ hw)) (by decide) (backOf (W := 3) (rm2 l Z a0 hw [] x1 (18 : Int32) h1111 n0 Z1111 ) hZ (w7_ hw) (w3_ hw) (by decide) (by decide)) (g := (mkF m 262 #[vI x0, vI x1, vI x2, vI x3, vI x4, vR b985, .unset, .unset, .unset, .unset, .unset, .unset, .unset, .unset, .unset, .unset, .unset, .unset, .unset, .unset] [(.int (18 : Int32)), (.int x1), (.int (18 : Int32)), (.ref b1022), (.ref b1022)])) rfl (by rw [hml]; rfl) (argsL := [(.int x1), (.int (18 : Int32))]) (rest := [(.int (18 : Int32)), (.ref b1022), (.ref b1022)]) (lenOf pd_8 rfl) rfl (by show 2 * 0 + _ ≤ _; exact Nat.le_of_eq rfl) (hb hby at_262) (fun _ _ => ⟨rfl, e1111, Nat.le_of_ble_eq_true rfl, Nat.le_of_ble_eq_true rfl⟩)
  dsimp only [Pt.U, Pt.locs, Pt.cells, Pt.slots] at X1114 l1114 y1114 z1114 st1114 hQ1114
  subst l1114 y1114 z1114
  have X1114 := X1114.more (cells' := 2) (slots' := 34) (by decide) (by decide)
  obtain ⟨hq1114, N1114q, e1114⟩ := hQ1114
  have hq1114 : rv1114 = some (.int (own_bit x1 (18 : Int32))) := hq1114
  subst hq1114
  have N1114 := Fr.app N1111 N1114q
  obtain ⟨Lw1114, X1114, N1114⟩ := own_locG X1114 N1114
  refine GlW.st (g' := (mkF m 265 #[vI x0, vI x1, vI x2, vI x3, vI x4, vR b985, .unset, .unset, .unset, .unset, .unset, .unset, .unset, .unset, .unset, .unset, .unset, .unset, .unset, .unset] [(.int (own_bit x1 (18 : Int32))), (.int (18 : Int32)), (.ref b1022), (.ref b1022)])) (fun τ κ => st1114 _ κ) ?_
  obtain ⟨cl_o1115, Ar_o1115, q_o1115, S_o1115, M_o1115, H_o1115, G_o1115⟩ := id V_b1022_1111
  have hin_o1115 : ¬ ((18 : Int32) < 0 ∨ cl_o1115.slots.size ≤ ((18 : Int32)).toNatClampNeg) := inb_of S_o1115 ⟨by decide, by decide⟩
  obtain ⟨T1116, h1116, X1116, e1116, W1116, st1116⟩ := stZ X1114 hx hZ e1114 Ar_o1115 (j := (18 : Int32)) hin_o1115 (g := (mkF m 265 #[vI x0, vI x1, vI x2, vI x3, vI x4, vR b985, .unset, .unset, .unset, .unset, .unset, .unset, .unset, .unset, .unset, .unset, .unset, .unset, .unset, .unset] [(.int (own_bit x1 (18 : Int32))), (.int (18 : Int32)), (.ref b1022), (.ref b1022)])) rfl rfl (hb hby at_265)
  have Y1116_b985 := Safe.wr W1116 Y1111_b1022 CH1111 Y1111_b985
  have Y1116_b1022 := Safe.wr W1116 Y1111_b1022 CH1111 Y1111_b1022
  have CH1116 := CH1111.wr W1116 Y1111_b1022
  have V_1117 := V_1112.other W1116 ne_b985_b1022
  obtain ⟨Lw1116, X1116, N1116⟩ := own_locG X1116 (Fr.snoc X1116 N1114 g_b1022)
  have Z1116 : n0 ≤ h1116.size := Nat.le_trans Z1111 (Nat.le_of_eq W1116.size.symm)
  have hk1116 := Nat.le_trans hk1111 (Nat.le_of_eq W1116.size.symm)
  have K1116 : Keep h0 h1116 [] := K1111.wr W1116 (Or.inr sz_b1022)
  have V_b1022_1116 : Arv Z h1116 b1022 k1022 .boolean (25 : Int32) [(.int (own_bit x1 (0 : Int32))), (.int (own_bit x1 (1 : Int32))), (.int (own_bit x1 (2 : Int32))), (.int (own_bit x1 (3 : Int32))), (.int (own_bit x1 (4 : Int32))), (.int (own_bit x1 (5 : Int32))), (.int (own_bit x1 (6 : Int32))), (.int (own_bit x1 (7 : Int32))), (.int (own_bit x1 (8 : Int32))), (.int (own_bit x1 (9 : Int32))), (.int (own_bit x1 (10 : Int32))), (.int (own_bit x1 (11 : Int32))), (.int (own_bit x1 (12 : Int32))), (.int (own_bit x1 (13 : Int32))), (.int (own_bit x1 (14 : Int32))), (.int (own_bit x1 (15 : Int32))), (.int (own_bit x1 (16 : Int32))), (.int (own_bit x1 (17 : Int32))), (.int (nar .boolean (own_bit x1 (18 : Int32)))), (.int (0 : Int32)), (.int (0 : Int32)), (.int (0 : Int32)), (.int (0 : Int32)), (.int (0 : Int32)), (.int (0 : Int32))] (.int (0 : Int32)) := Arv.set Ar_o1115 q_o1115 S_o1115 M_o1115 H_o1115 G_o1115 (fits_nar_bool _) W1116 18 rfl (Nat.le_of_ble_eq_true rfl)
  rw [own_narB _ _] at V_b1022_1116
  refine GlW.st (g' := (mkF m 266 #[vI x0, vI x1, vI x2, vI x3, vI x4, vR b985, .unset, .unset, .unset, .unset, .unset, .unset, .unset, .unset, .unset, .unset, .unset, .unset, .unset, .unset] [(.ref b1022)])) (fun τ κ => st1116 _ κ) ?_
  refine GlW.st (g' := (mkF m 269 #[vI x0, vI x1, vI x2, vI x3, vI x4, vR b985, .unset, .unset, .unset, .unset, .unset, .unset, .unset, .unset, .unset, .unset, .unset, .unset, .unset, .unset] [(.int (19 : Int32)), (.ref b1022), (.ref b1022)])) (fun τ κ => XS.dup X1116.here hx rfl (hb hby at_266) rfl rfl (XS.bipush X1116.here hx rfl (hb hby at_267) κ)) ?_
  refine GlW.st (g' := (mkF m 272 #[vI x0, vI x1, vI x2, vI x3, vI x4, vR b985, .unset, .unset, .unset, .unset, .unset, .unset, .unset, .unset, .unset, .unset, .unset, .unset, .unset, .unset] [(.int (19 : Int32)), (.int x1), (.int (19 : Int32)), (.ref b1022), (.ref b1022)])) (fun τ κ => XS.iloadN X1116.here hx rfl (hb hby at_269) rfl (XS.bipush X1116.here hx rfl (hb hby at_270) κ)) ?_
  obtain ⟨rv1119, _, ⟨T1119, L1119, k1119, n1119⟩, -, X1119, ⟨Lc1119, hQ1119, l1119, y1119, z1119⟩, st1119⟩ := Jvm.LawKit.callS X1116 hx (y := (⟨"com/example/wanderpath/wanderpath/GridCanStepPinLaw", "bit", "(II)Z"⟩ : MethodName)) hown (mvT hZ (w5_ hw)) (mvT hZ (w6_ hw)) (mvT hZ (w3_ hw)) (mvT hZ (w7_ hw)) (by decide) (backOf (W := 3) (rm2 l Z a0 hw [] x1 (19 : Int32) h1116 n0 Z1116 ) hZ (w7_ hw) (w3_ hw) (by decide) (by decide)) (g := (mkF m 272 #[vI x0, vI x1, vI x2, vI x3, vI x4, vR b985, .unset, .unset, .unset, .unset, .unset, .unset, .unset, .unset, .unset, .unset, .unset, .unset, .unset, .unset] [(.int (19 : Int32)), (.int x1), (.int (19 : Int32)), (.ref b1022), (.ref b1022)])) rfl (by rw [hml]; rfl) (argsL := [(.int x1), (.int (19 : Int32))]) (rest := [(.int (19 : Int32)), (.ref b1022), (.ref b1022)]) (lenOf pd_8 rfl) rfl (by show 2 * 0 + _ ≤ _; exact Nat.le_of_eq rfl) (hb hby at_272) (fun _ _ => ⟨rfl, e1116, Nat.le_of_ble_eq_true rfl, Nat.le_of_ble_eq_true rfl⟩)
  dsimp only [Pt.U, Pt.locs, Pt.cells, Pt.slots] at X1119 l1119 y1119 z1119 st1119 hQ1119
  subst l1119 y1119 z1119
  have X1119 := X1119.more (cells' := 2) (slots' := 34) (by decide) (by decide)
  obtain ⟨hq1119, N1119q, e1119⟩ := hQ1119
  have hq1119 : rv1119 = some (.int (own_bit x1 (19 : Int32))) := hq1119
  subst hq1119
  have N1119 := Fr.app N1116 N1119q
  obtain ⟨Lw1119, X1119, N1119⟩ := own_locG X1119 N1119
  refine GlW.st (g' := (mkF m 275 #[vI x0, vI x1, vI x2, vI x3, vI x4, vR b985, .unset, .unset, .unset, .unset, .unset, .unset, .unset, .unset, .unset, .unset, .unset, .unset, .unset, .unset] [(.int (own_bit x1 (19 : Int32))), (.int (19 : Int32)), (.ref b1022), (.ref b1022)])) (fun τ κ => st1119 _ κ) ?_
  obtain ⟨cl_o1120, Ar_o1120, q_o1120, S_o1120, M_o1120, H_o1120, G_o1120⟩ := id V_b1022_1116
  have hin_o1120 : ¬ ((19 : Int32) < 0 ∨ cl_o1120.slots.size ≤ ((19 : Int32)).toNatClampNeg) := inb_of S_o1120 ⟨by decide, by decide⟩
  obtain ⟨T1121, h1121, X1121, e1121, W1121, st1121⟩ := stZ X1119 hx hZ e1119 Ar_o1120 (j := (19 : Int32)) hin_o1120 (g := (mkF m 275 #[vI x0, vI x1, vI x2, vI x3, vI x4, vR b985, .unset, .unset, .unset, .unset, .unset, .unset, .unset, .unset, .unset, .unset, .unset, .unset, .unset, .unset] [(.int (own_bit x1 (19 : Int32))), (.int (19 : Int32)), (.ref b1022), (.ref b1022)])) rfl rfl (hb hby at_275)
  have Y1121_b985 := Safe.wr W1121 Y1116_b1022 CH1116 Y1116_b985
  have Y1121_b1022 := Safe.wr W1121 Y1116_b1022 CH1116 Y1116_b1022
  have CH1121 := CH1116.wr W1121 Y1116_b1022
  have V_1122 := V_1117.other W1121 ne_b985_b1022
  obtain ⟨Lw1121, X1121, N1121⟩ := own_locG X1121 (Fr.snoc X1121 N1119 g_b1022)
  have Z1121 : n0 ≤ h1121.size := Nat.le_trans Z1116 (Nat.le_of_eq W1121.size.symm)
  have hk1121 := Nat.le_trans hk1116 (Nat.le_of_eq W1121.size.symm)
  have K1121 : Keep h0 h1121 [] := K1116.wr W1121 (Or.inr sz_b1022)
  have V_b1022_1121 : Arv Z h1121 b1022 k1022 .boolean (25 : Int32) [(.int (own_bit x1 (0 : Int32))), (.int (own_bit x1 (1 : Int32))), (.int (own_bit x1 (2 : Int32))), (.int (own_bit x1 (3 : Int32))), (.int (own_bit x1 (4 : Int32))), (.int (own_bit x1 (5 : Int32))), (.int (own_bit x1 (6 : Int32))), (.int (own_bit x1 (7 : Int32))), (.int (own_bit x1 (8 : Int32))), (.int (own_bit x1 (9 : Int32))), (.int (own_bit x1 (10 : Int32))), (.int (own_bit x1 (11 : Int32))), (.int (own_bit x1 (12 : Int32))), (.int (own_bit x1 (13 : Int32))), (.int (own_bit x1 (14 : Int32))), (.int (own_bit x1 (15 : Int32))), (.int (own_bit x1 (16 : Int32))), (.int (own_bit x1 (17 : Int32))), (.int (own_bit x1 (18 : Int32))), (.int (nar .boolean (own_bit x1 (19 : Int32)))), (.int (0 : Int32)), (.int (0 : Int32)), (.int (0 : Int32)), (.int (0 : Int32)), (.int (0 : Int32))] (.int (0 : Int32)) := Arv.set Ar_o1120 q_o1120 S_o1120 M_o1120 H_o1120 G_o1120 (fits_nar_bool _) W1121 19 rfl (Nat.le_of_ble_eq_true rfl)
  rw [own_narB _ _] at V_b1022_1121
  refine GlW.st (g' := (mkF m 276 #[vI x0, vI x1, vI x2, vI x3, vI x4, vR b985, .unset, .unset, .unset, .unset, .unset, .unset, .unset, .unset, .unset, .unset, .unset, .unset, .unset, .unset] [(.ref b1022)])) (fun τ κ => st1121 _ κ) ?_
  refine GlW.st (g' := (mkF m 279 #[vI x0, vI x1, vI x2, vI x3, vI x4, vR b985, .unset, .unset, .unset, .unset, .unset, .unset, .unset, .unset, .unset, .unset, .unset, .unset, .unset, .unset] [(.int (20 : Int32)), (.ref b1022), (.ref b1022)])) (fun τ κ => XS.dup X1121.here hx rfl (hb hby at_276) rfl rfl (XS.bipush X1121.here hx rfl (hb hby at_277) κ)) ?_
  refine GlW.st (g' := (mkF m 282 #[vI x0, vI x1, vI x2, vI x3, vI x4, vR b985, .unset, .unset, .unset, .unset, .unset, .unset, .unset, .unset, .unset, .unset, .unset, .unset, .unset, .unset] [(.int (20 : Int32)), (.int x1), (.int (20 : Int32)), (.ref b1022), (.ref b1022)])) (fun τ κ => XS.iloadN X1121.here hx rfl (hb hby at_279) rfl (XS.bipush X1121.here hx rfl (hb hby at_280) κ)) ?_
  obtain ⟨rv1124, _, ⟨T1124, L1124, k1124, n1124⟩, -, X1124, ⟨Lc1124, hQ1124, l1124, y1124, z1124⟩, st1124⟩ := Jvm.LawKit.callS X1121 hx (y := (⟨"com/example/wanderpath/wanderpath/GridCanStepPinLaw", "bit", "(II)Z"⟩ : MethodName)) hown (mvT hZ (w5_ hw)) (mvT hZ (w6_ hw)) (mvT hZ (w3_ hw)) (mvT hZ (w7_ hw)) (by decide) (backOf (W := 3) (rm2 l Z a0 hw [] x1 (20 : Int32) h1121 n0 Z1121 ) hZ (w7_ hw) (w3_ hw) (by decide) (by decide)) (g := (mkF m 282 #[vI x0, vI x1, vI x2, vI x3, vI x4, vR b985, .unset, .unset, .unset, .unset, .unset, .unset, .unset, .unset, .unset, .unset, .unset, .unset, .unset, .unset] [(.int (20 : Int32)), (.int x1), (.int (20 : Int32)), (.ref b1022), (.ref b1022)])) rfl (by rw [hml]; rfl) (argsL := [(.int x1), (.int (20 : Int32))]) (rest := [(.int (20 : Int32)), (.ref b1022), (.ref b1022)]) (lenOf pd_8 rfl) rfl (by show 2 * 0 + _ ≤ _; exact Nat.le_of_eq rfl) (hb hby at_282) (fun _ _ => ⟨rfl, e1121, Nat.le_of_ble_eq_true rfl, Nat.le_of_ble_eq_true rfl⟩)
  dsimp only [Pt.U, Pt.locs, Pt.cells, Pt.slots] at X1124 l1124 y1124 z1124 st1124 hQ1124
  subst l1124 y1124 z1124
  have X1124 := X1124.more (cells' := 2) (slots' := 34) (by decide) (by decide)
  obtain ⟨hq1124, N1124q, e1124⟩ := hQ1124
  have hq1124 : rv1124 = some (.int (own_bit x1 (20 : Int32))) := hq1124
  subst hq1124
  have N1124 := Fr.app N1121 N1124q
  obtain ⟨Lw1124, X1124, N1124⟩ := own_locG X1124 N1124
  refine GlW.st (g' := (mkF m 285 #[vI x0, vI x1, vI x2, vI x3, vI x4, vR b985, .unset, .unset, .unset, .unset, .unset, .unset, .unset, .unset, .unset, .unset, .unset, .unset, .unset, .unset] [(.int (own_bit x1 (20 : Int32))), (.int (20 : Int32)), (.ref b1022), (.ref b1022)])) (fun τ κ => st1124 _ κ) ?_
  obtain ⟨cl_o1125, Ar_o1125, q_o1125, S_o1125, M_o1125, H_o1125, G_o1125⟩ := id V_b1022_1121
  have hin_o1125 : ¬ ((20 : Int32) < 0 ∨ cl_o1125.slots.size ≤ ((20 : Int32)).toNatClampNeg) := inb_of S_o1125 ⟨by decide, by decide⟩
  obtain ⟨T1126, h1126, X1126, e1126, W1126, st1126⟩ := stZ X1124 hx hZ e1124 Ar_o1125 (j := (20 : Int32)) hin_o1125 (g := (mkF m 285 #[vI x0, vI x1, vI x2, vI x3, vI x4, vR b985, .unset, .unset, .unset, .unset, .unset, .unset, .unset, .unset, .unset, .unset, .unset, .unset, .unset, .unset] [(.int (own_bit x1 (20 : Int32))), (.int (20 : Int32)), (.ref b1022), (.ref b1022)])) rfl rfl (hb hby at_285)
  have Y1126_b985 := Safe.wr W1126 Y1121_b1022 CH1121 Y1121_b985
  have Y1126_b1022 := Safe.wr W1126 Y1121_b1022 CH1121 Y1121_b1022
  have CH1126 := CH1121.wr W1126 Y1121_b1022
  have V_1127 := V_1122.other W1126 ne_b985_b1022
  obtain ⟨Lw1126, X1126, N1126⟩ := own_locG X1126 (Fr.snoc X1126 N1124 g_b1022)
  have Z1126 : n0 ≤ h1126.size := Nat.le_trans Z1121 (Nat.le_of_eq W1126.size.symm)
  have hk1126 := Nat.le_trans hk1121 (Nat.le_of_eq W1126.size.symm)
  have K1126 : Keep h0 h1126 [] := K1121.wr W1126 (Or.inr sz_b1022)
  have V_b1022_1126 : Arv Z h1126 b1022 k1022 .boolean (25 : Int32) [(.int (own_bit x1 (0 : Int32))), (.int (own_bit x1 (1 : Int32))), (.int (own_bit x1 (2 : Int32))), (.int (own_bit x1 (3 : Int32))), (.int (own_bit x1 (4 : Int32))), (.int (own_bit x1 (5 : Int32))), (.int (own_bit x1 (6 : Int32))), (.int (own_bit x1 (7 : Int32))), (.int (own_bit x1 (8 : Int32))), (.int (own_bit x1 (9 : Int32))), (.int (own_bit x1 (10 : Int32))), (.int (own_bit x1 (11 : Int32))), (.int (own_bit x1 (12 : Int32))), (.int (own_bit x1 (13 : Int32))), (.int (own_bit x1 (14 : Int32))), (.int (own_bit x1 (15 : Int32))), (.int (own_bit x1 (16 : Int32))), (.int (own_bit x1 (17 : Int32))), (.int (own_bit x1 (18 : Int32))), (.int (own_bit x1 (19 : Int32))), (.int (nar .boolean (own_bit x1 (20 : Int32)))), (.int (0 : Int32)), (.int (0 : Int32)), (.int (0 : Int32)), (.int (0 : Int32))] (.int (0 : Int32)) := Arv.set Ar_o1125 q_o1125 S_o1125 M_o1125 H_o1125 G_o1125 (fits_nar_bool _) W1126 20 rfl (Nat.le_of_ble_eq_true rfl)
  rw [own_narB _ _] at V_b1022_1126
  refine GlW.st (g' := (mkF m 286 #[vI x0, vI x1, vI x2, vI x3, vI x4, vR b985, .unset, .unset, .unset, .unset, .unset, .unset, .unset, .unset, .unset, .unset, .unset, .unset, .unset, .unset] [(.ref b1022)])) (fun τ κ => st1126 _ κ) ?_
  refine GlW.st (g' := (mkF m 289 #[vI x0, vI x1, vI x2, vI x3, vI x4, vR b985, .unset, .unset, .unset, .unset, .unset, .unset, .unset, .unset, .unset, .unset, .unset, .unset, .unset, .unset] [(.int (21 : Int32)), (.ref b1022), (.ref b1022)])) (fun τ κ => XS.dup X1126.here hx rfl (hb hby at_286) rfl rfl (XS.bipush X1126.here hx rfl (hb hby at_287) κ)) ?_
  refine GlW.st (g' := (mkF m 292 #[vI x0, vI x1, vI x2, vI x3, vI x4, vR b985, .unset, .unset, .unset, .unset, .unset, .unset, .unset, .unset, .unset, .unset, .unset, .unset, .unset, .unset] [(.int (21 : Int32)), (.int x1), (.int (21 : Int32)), (.ref b1022), (.ref b1022)])) (fun τ κ => XS.iloadN X1126.here hx rfl (hb hby at_289) rfl (XS.bipush X1126.here hx rfl (hb hby at_290) κ)) ?_
  obtain ⟨rv1129, _, ⟨T1129, L1129, k1129, n1129⟩, -, X1129, ⟨Lc1129, hQ1129, l1129, y1129, z1129⟩, st1129⟩ := Jvm.LawKit.callS X1126 hx (y := (⟨"com/example/wanderpath/wanderpath/GridCanStepPinLaw", "bit", "(II)Z"⟩ : MethodName)) hown (mvT hZ (w5_ hw)) (mvT hZ (w6_ hw)) (mvT hZ (w3_ hw)) (mvT hZ (w7_ hw)) (by decide) (backOf (W := 3) (rm2 l Z a0 hw [] x1 (21 : Int32) h1126 n0 Z1126 ) hZ (w7_ hw) (w3_ hw) (by decide) (by decide)) (g := (mkF m 292 #[vI x0, vI x1, vI x2, vI x3, vI x4, vR b985, .unset, .unset, .unset, .unset, .unset, .unset, .unset, .unset, .unset, .unset, .unset, .unset, .unset, .unset] [(.int (21 : Int32)), (.int x1), (.int (21 : Int32)), (.ref b1022), (.ref b1022)])) rfl (by rw [hml]; rfl) (argsL := [(.int x1), (.int (21 : Int32))]) (rest := [(.int (21 : Int32)), (.ref b1022), (.ref b1022)]) (lenOf pd_8 rfl) rfl (by show 2 * 0 + _ ≤ _; exact Nat.le_of_eq rfl) (hb hby at_292) (fun _ _ => ⟨rfl, e1126, Nat.le_of_ble_eq_true rfl, Nat.le_of_ble_eq_true rfl⟩)
  dsimp only [Pt.U, Pt.locs, Pt.cells, Pt.slots] at X1129 l1129 y1129 z1129 st1129 hQ1129
  subst l1129 y1129 z1129
  have X1129 := X1129.more (cells' := 2) (slots' := 34) (by decide) (by decide)
  obtain ⟨hq1129, N1129q, e1129⟩ := hQ1129
  have hq1129 : rv1129 = some (.int (own_bit x1 (21 : Int32))) := hq1129
  subst hq1129
  have N1129 := Fr.app N1126 N1129q
  obtain ⟨Lw1129, X1129, N1129⟩ := own_locG X1129 N1129
  refine GlW.st (g' := (mkF m 295 #[vI x0, vI x1, vI x2, vI x3, vI x4, vR b985, .unset, .unset, .unset, .unset, .unset, .unset, .unset, .unset, .unset, .unset, .unset, .unset, .unset, .unset] [(.int (own_bit x1 (21 : Int32))), (.int (21 : Int32)), (.ref b1022), (.ref b1022)])) (fun τ κ => st1129 _ κ) ?_
  obtain ⟨cl_o1130, Ar_o1130, q_o1130, S_o1130, M_o1130, H_o1130, G_o1130⟩ := id V_b1022_1126
  have hin_o1130 : ¬ ((21 : Int32) < 0 ∨ cl_o1130.slots.size ≤ ((21 : Int32)).toNatClampNeg) := inb_of S_o1130 ⟨by decide, by decide⟩
  obtain ⟨T1131, h1131, X1131, e1131, W1131, st1131⟩ := stZ X1129 hx hZ e1129 Ar_o1130 (j := (21 : Int32)) hin_o1130 (g := (mkF m 295 #[vI x0, vI x1, vI x2, vI x3, vI x4, vR b985, .unset, .unset, .unset, .unset, .unset, .unset, .unset, .unset, .unset, .unset, .unset, .unset, .unset, .unset] [(.int (own_bit x1 (21 : Int32))), (.int (21 : Int32)), (.ref b1022), (.ref b1022)])) rfl rfl (hb hby at_295)
  have Y1131_b985 := Safe.wr W1131 Y1126_b1022 CH1126 Y1126_b985
  have Y1131_b1022 := Safe.wr W1131 Y1126_b1022 CH1126 Y1126_b1022
  have CH1131 := CH1126.wr W1131 Y1126_b1022
  have V_1132 := V_1127.other W1131 ne_b985_b1022
  obtain ⟨Lw1131, X1131, N1131⟩ := own_locG X1131 (Fr.snoc X1131 N1129 g_b1022)
  have Z1131 : n0 ≤ h1131.size := Nat.le_trans Z1126 (Nat.le_of_eq W1131.size.symm)
  have hk1131 := Nat.le_trans hk1126 (Nat.le_of_eq W1131.size.symm)
  have K1131 : Keep h0 h1131 [] := K1126.wr W1131 (Or.inr sz_b1022)
  have V_b1022_1131 : Arv Z h1131 b1022 k1022 .boolean (25 : Int32) [(.int (own_bit x1 (0 : Int32))), (.int (own_bit x1 (1 : Int32))), (.int (own_bit x1 (2 : Int32))), (.int (own_bit x1 (3 : Int32))), (.int (own_bit x1 (4 : Int32))), (.int (own_bit x1 (5 : Int32))), (.int (own_bit x1 (6 : Int32))), (.int (own_bit x1 (7 : Int32))), (.int (own_bit x1 (8 : Int32))), (.int (own_bit x1 (9 : Int32))), (.int (own_bit x1 (10 : Int32))), (.int (own_bit x1 (11 : Int32))), (.int (own_bit x1 (12 : Int32))), (.int (own_bit x1 (13 : Int32))), (.int (own_bit x1 (14 : Int32))), (.int (own_bit x1 (15 : Int32))), (.int (own_bit x1 (16 : Int32))), (.int (own_bit x1 (17 : Int32))), (.int (own_bit x1 (18 : Int32))), (.int (own_bit x1 (19 : Int32))), (.int (own_bit x1 (20 : Int32))), (.int (nar .boolean (own_bit x1 (21 : Int32)))), (.int (0 : Int32)), (.int (0 : Int32)), (.int (0 : Int32))] (.int (0 : Int32)) := Arv.set Ar_o1130 q_o1130 S_o1130 M_o1130 H_o1130 G_o1130 (fits_nar_bool _) W1131 21 rfl (Nat.le_of_ble_eq_true rfl)
  rw [own_narB _ _] at V_b1022_1131
  refine GlW.st (g' := (mkF m 296 #[vI x0, vI x1, vI x2, vI x3, vI x4, vR b985, .unset, .unset, .unset, .unset, .unset, .unset, .unset, .unset, .unset, .unset, .unset, .unset, .unset, .unset] [(.ref b1022)])) (fun τ κ => st1131 _ κ) ?_
  refine GlW.st (g' := (mkF m 299 #[vI x0, vI x1, vI x2, vI x3, vI x4, vR b985, .unset, .unset, .unset, .unset, .unset, .unset, .unset, .unset, .unset, .unset, .unset, .unset, .unset, .unset] [(.int (22 : Int32)), (.ref b1022), (.ref b1022)])) (fun τ κ => XS.dup X1131.here hx rfl (hb hby at_296) rfl rfl (XS.bipush X1131.here hx rfl (hb hby at_297) κ)) ?_
  refine GlW.st (g' := (mkF m 302 #[vI x0, vI x1, vI x2, vI x3, vI x4, vR b985, .unset, .unset, .unset, .unset, .unset, .unset, .unset, .unset, .unset, .unset, .unset, .unset, .unset, .unset] [(.int (22 : Int32)), (.int x1), (.int (22 : Int32)), (.ref b1022), (.ref b1022)])) (fun τ κ => XS.iloadN X1131.here hx rfl (hb hby at_299) rfl (XS.bipush X1131.here hx rfl (hb hby at_300) κ)) ?_
  obtain ⟨rv1134, _, ⟨T1134, L1134, k1134, n1134⟩, -, X1134, ⟨Lc1134, hQ1134, l1134, y1134, z1134⟩, st1134⟩ := Jvm.LawKit.callS X1131 hx (y := (⟨"com/example/wanderpath/wanderpath/GridCanStepPinLaw", "bit", "(II)Z"⟩ : MethodName)) hown (mvT hZ (w5_ hw)) (mvT hZ (w6_ hw)) (mvT hZ (w3_ hw)) (mvT hZ (w7_ hw)) (by decide) (backOf (W := 3) (rm2 l Z a0 hw [] x1 (22 : Int32) h1131 n0 Z1131 ) hZ (w7_ hw) (w3_ hw) (by decide) (by decide)) (g := (mkF m 302 #[vI x0, vI x1, vI x2, vI x3, vI x4, vR b985, .unset, .unset, .unset, .unset, .unset, .unset, .unset, .unset, .unset, .unset, .unset, .unset, .unset, .unset] [(.int (22 : Int32)), (.int x1), (.int (22 : Int32)), (.ref b1022), (.ref b1022)])) rfl (by rw [hml]; rfl) (argsL := [(.int x1), (.int (22 : Int32))]) (rest := [(.int (22 : Int32)), (.ref b1022), (.ref b1022)]) (lenOf pd_8 rfl) rfl (by show 2 * 0 + _ ≤ _; exact Nat.le_of_eq rfl) (hb hby at_302) (fun _ _ => ⟨rfl, e1131, Nat.le_of_ble_eq_true rfl, Nat.le_of_ble_eq_true rfl⟩)
  dsimp only [Pt.U, Pt.locs, Pt.cells, Pt.slots] at X1134 l1134 y1134 z1134 st1134 hQ1134
  subst l1134 y1134 z1134
  have X1134 := X1134.more (cells' := 2) (slots' := 34) (by decide) (by decide)
  obtain ⟨hq1134, N1134q, e1134⟩ := hQ1134
  have hq1134 : rv1134 = some (.int (own_bit x1 (22 : Int32))) := hq1134
  subst hq1134
  have N1134 := Fr.app N1131 N1134q
  obtain ⟨Lw1134, X1134, N1134⟩ := own_locG X1134 N1134
  refine GlW.st (g' := (mkF m 305 #[vI x0, vI x1, vI x2, vI x3, vI x4, vR b985, .unset, .unset, .unset, .unset, .unset, .unset, .unset, .unset, .unset, .unset, .unset, .unset, .unset, .unset] [(.int (own_bit x1 (22 : Int32))), (.int (22 : Int32)), (.ref b1022), (.ref b1022)])) (fun τ κ => st1134 _ κ) ?_
  obtain ⟨cl_o1135, Ar_o1135, q_o1135, S_o1135, M_o1135, H_o1135, G_o1135⟩ := id V_b1022_1131
  have hin_o1135 : ¬ ((22 : Int32) < 0 ∨ cl_o1135.slots.size ≤ ((22 : Int32)).toNatClampNeg) := inb_of S_o1135 ⟨by decide, by decide⟩
  obtain ⟨T1136, h1136, X1136, e1136, W1136, st1136⟩ := stZ X1134 hx hZ e1134 Ar_o1135 (j := (22 : Int32)) hin_o1135 (g := (mkF m 305 #[vI x0, vI x1, vI x2, vI x3, vI x4, vR b985, .unset, .unset, .unset, .unset, .unset, .unset, .unset, .unset, .unset, .unset, .unset, .unset, .unset, .unset] [(.int (own_bit x1 (22 : Int32))), (.int (22 : Int32)), (.ref b1022), (.ref b1022)])) rfl rfl (hb hby at_305)
  have Y1136_b985 := Safe.wr W1136 Y1131_b1022 CH1131 Y1131_b985
  have Y1136_b1022 := Safe.wr W1136 Y1131_b1022 CH1131 Y1131_b1022
  have CH1136 := CH1131.wr W1136 Y1131_b1022
  have V_1137 := V_1132.other W1136 ne_b985_b1022
  obtain ⟨Lw1136, X1136, N1136⟩ := own_locG X1136 (Fr.snoc X1136 N1134 g_b1022)
  have Z1136 : n0 ≤ h1136.size := Nat.le_trans Z1131 (Nat.le_of_eq W1136.size.symm)
  have hk1136 := Nat.le_trans hk1131 (Nat.le_of_eq W1136.size.symm)
  have K1136 : Keep h0 h1136 [] := K1131.wr W1136 (Or.inr sz_b1022)
  have V_b1022_1136 : Arv Z h1136 b1022 k1022 .boolean (25 : Int32) [(.int (own_bit x1 (0 : Int32))), (.int (own_bit x1 (1 : Int32))), (.int (own_bit x1 (2 : Int32))), (.int (own_bit x1 (3 : Int32))), (.int (own_bit x1 (4 : Int32))), (.int (own_bit x1 (5 : Int32))), (.int (own_bit x1 (6 : Int32))), (.int (own_bit x1 (7 : Int32))), (.int (own_bit x1 (8 : Int32))), (.int (own_bit x1 (9 : Int32))), (.int (own_bit x1 (10 : Int32))), (.int (own_bit x1 (11 : Int32))), (.int (own_bit x1 (12 : Int32))), (.int (own_bit x1 (13 : Int32))), (.int (own_bit x1 (14 : Int32))), (.int (own_bit x1 (15 : Int32))), (.int (own_bit x1 (16 : Int32))), (.int (own_bit x1 (17 : Int32))), (.int (own_bit x1 (18 : Int32))), (.int (own_bit x1 (19 : Int32))), (.int (own_bit x1 (20 : Int32))), (.int (own_bit x1 (21 : Int32))), (.int (nar .boolean (own_bit x1 (22 : Int32)))), (.int (0 : Int32)), (.int (0 : Int32))] (.int (0 : Int32)) := Arv.set Ar_o1135 q_o1135 S_o1135 M_o1135 H_o1135 G_o1135 (fits_nar_bool _) W1136 22 rfl (Nat.le_of_ble_eq_true rfl)
  rw [own_narB _ _] at V_b1022_1136
  refine GlW.st (g' := (mkF m 306 #[vI x0, vI x1, vI x2, vI x3, vI x4, vR b985, .unset, .unset, .unset, .unset, .unset, .unset, .unset, .unset, .unset, .unset, .unset, .unset, .unset, .unset] [(.ref b1022)])) (fun τ κ => st1136 _ κ) ?_
  refine GlW.st (g' := (mkF m 309 #[vI x0, vI x1, vI x2, vI x3, vI x4, vR b985, .unset, .unset, .unset, .unset, .unset, .unset, .unset, .unset, .unset, .unset, .unset, .unset, .unset, .unset] [(.int (23 : Int32)), (.ref b1022), (.ref b1022)])) (fun τ κ => XS.dup X1136.here hx rfl (hb hby at_306) rfl rfl (XS.bipush X1136.here hx rfl (hb hby at_307) κ)) ?_
  refine GlW.st (g' := (mkF m 312 #[vI x0, vI x1, vI x2, vI x3, vI x4, vR b985, .unset, .unset, .unset, .unset, .unset, .unset, .unset, .unset, .unset, .unset, .unset, .unset, .unset, .unset] [(.int (23 : Int32)), (.int x1), (.int (23 : Int32)), (.ref b1022), (.ref b1022)])) (fun τ κ => XS.iloadN X1136.here hx rfl (hb hby at_309) rfl (XS.bipush X1136.here hx rfl (hb hby at_310) κ)) ?_
  obtain ⟨rv1139, _, ⟨T1139, L1139, k1139, n1139⟩, -, X1139, ⟨Lc1139, hQ1139, l1139, y1139, z1139⟩, st1139⟩ := Jvm.LawKit.callS X1136 hx (y := (⟨"com/example/wanderpath/wanderpath/GridCanStepPinLaw", "bit", "(II)Z"⟩ : MethodName)) hown (mvT hZ (w5_ hw)) (mvT hZ (w6_ hw)) (mvT hZ (w3_ hw)) (mvT hZ (w7_ hw)) (by decide) (backOf (W := 3) (rm2 l Z a0 hw [] x1 (23 : Int32) h1136 n0 Z1136 ) hZ (w7_ hw) (w3_ hw) (by decide) (by decide)) (g := (mkF m 312 #[vI x0, vI x1, vI x2, vI x3, vI x4, vR b985, .unset, .unset, .unset, .unset, .unset, .unset, .unset, .unset, .unset, .unset, .unset, .unset, .unset, .unset] [(.int (23 : Int32)), (.int x1), (.int (23 : Int32)), (.ref b1022), (.ref b1022)])) rfl (by rw [hml]; rfl) (argsL := [(.int x1), (.int (23 : Int32))]) (rest := [(.int (23 : Int32)), (.ref b1022), (.ref b1022)]) (lenOf pd_8 rfl) rfl (by show 2 * 0 + _ ≤ _; exact Nat.le_of_eq rfl) (hb hby at_312) (fun _ _ => ⟨rfl, e1136, Nat.le_of_ble_eq_true rfl, Nat.le_of_ble_eq_true rfl⟩)
  dsimp only [Pt.U, Pt.locs, Pt.cells, Pt.slots] at X1139 l1139 y1139 z1139 st1139 hQ1139
  subst l1139 y1139 z1139
  have X1139 := X1139.more (cells' := 2) (slots' := 34) (by decide) (by decide)
  obtain ⟨hq1139, N1139q, e1139⟩ := hQ1139
  have hq1139 : rv1139 = some (.int (own_bit x1 (23 : Int32))) := hq1139
  subst hq1139
  have N1139 := Fr.app N1136 N1139q
  obtain ⟨Lw1139, X1139, N1139⟩ := own_locG X1139 N1139
  refine GlW.st (g' := (mkF m 315 #[vI x0, vI x1, vI x2, vI x3, vI x4, vR b985, .unset, .unset, .unset, .unset, .unset, .unset, .unset, .unset, .unset, .unset, .unset, .unset, .unset, .unset] [(.int (own_bit x1 (23 : Int32))), (.int (23 : Int32)), (.ref b1022), (.ref b1022)])) (fun τ κ => st1139 _ κ) ?_
  obtain ⟨cl_o1140, Ar_o1140, q_o1140, S_o1140, M_o1140, H_o1140, G_o1140⟩ := id V_b1022_1136
  have hin_o1140 : ¬ ((23 : Int32) < 0 ∨ cl_o1140.slots.size ≤ ((23 : Int32)).toNatClampNeg) := inb_of S_o1140 ⟨by decide, by decide⟩
  obtain ⟨T1141, h1141, X1141, e1141, W1141, st1141⟩ := stZ X1139 hx hZ e1139 Ar_o1140 (j := (23 : Int32)) hin_o1140 (g := (mkF m 315 #[vI x0, vI x1, vI x2, vI x3, vI x4, vR b985, .unset, .unset, .unset, .unset, .unset, .unset, .unset, .unset, .unset, .unset, .unset, .unset, .unset, .unset] [(.int (own_bit x1 (23 : Int32))), (.int (23 : Int32)), (.ref b1022), (.ref b1022)])) rfl rfl (hb hby at_315)
  have Y1141_b985 := Safe.wr W1141 Y1136_b1022 CH1136 Y1136_b985
  have Y1141_b1022 := Safe.wr W1141 Y1136_b1022 CH1136 Y1136_b1022
  have CH1141 := CH1136.wr W1141 Y1136_b1022
  have V_1142 := V_1137.other W1141 ne_b985_b1022
  obtain ⟨Lw1141, X1141, N1141⟩ := own_locG X1141 (Fr.snoc X1141 N1139 g_b1022)
  have Z1141 : n0 ≤ h1141.size := Nat.le_trans Z1136 (Nat.le_of_eq W1141.size.symm)
  have hk1141 := Nat.le_trans hk1136 (Nat.le_of_eq W1141.size.symm)
  have K1141 : Keep h0 h1141 [] := K1136.wr W1141 (Or.inr sz_b1022)
  have V_b1022_1141 : Arv Z h1141 b1022 k1022 .boolean (25 : Int32) [(.int (own_bit x1 (0 : Int32))), (.int (own_bit x1 (1 : Int32))), (.int (own_bit x1 (2 : Int32))), (.int (own_bit x1 (3 : Int32))), (.int (own_bit x1 (4 : Int32))), (.int (own_bit x1 (5 : Int32))), (.int (own_bit x1 (6 : Int32))), (.int (own_bit x1 (7 : Int32))), (.int (own_bit x1 (8 : Int32))), (.int (own_bit x1 (9 : Int32))), (.int (own_bit x1 (10 : Int32))), (.int (own_bit x1 (11 : Int32))), (.int (own_bit x1 (12 : Int32))), (.int (own_bit x1 (13 : Int32))), (.int (own_bit x1 (14 : Int32))), (.int (own_bit x1 (15 : Int32))), (.int (own_bit x1 (16 : Int32))), (.int (own_bit x1 (17 : Int32))), (.int (own_bit x1 (18 : Int32))), (.int (own_bit x1 (19 : Int32))), (.int (own_bit x1 (20 : Int32))), (.int (own_bit x1 (21 : Int32))), (.int (own_bit x1 (22 : Int32))), (.int (nar .boolean (own_bit x1 (23 : Int32)))), (.int (0 : Int32))] (.int (0 : Int32)) := Arv.set Ar_o1140 q_o1140 S_o1140 M_o1140 H_o1140 G_o1140 (fits_nar_bool _) W1141 23 rfl (Nat.le_of_ble_eq_true rfl)
  rw [own_narB _ _] at V_b1022_1141
  refine GlW.st (g' := (mkF m 316 #[vI x0, vI x1, vI x2, vI x3, vI x4, vR b985, .unset, .unset, .unset, .unset, .unset, .unset, .unset, .unset, .unset, .unset, .unset, .unset, .unset, .unset] [(.ref b1022)])) (fun τ κ => st1141 _ κ) ?_
  refine GlW.st (g' := (mkF m 319 #[vI x0, vI x1, vI x2, vI x3, vI x4, vR b985, .unset, .unset, .unset, .unset, .unset, .unset, .unset, .unset, .unset, .unset, .unset, .unset, .unset, .unset] [(.int (24 : Int32)), (.ref b1022), (.ref b1022)])) (fun τ κ => XS.dup X1141.here hx rfl (hb hby at_316) rfl rfl (XS.bipush X1141.here hx rfl (hb hby at_317) κ)) ?_
  refine GlW.st (g' := (mkF m 322 #[vI x0, vI x1, vI x2, vI x3, vI x4, vR b985, .unset, .unset, .unset, .unset, .unset, .unset, .unset, .unset, .unset, .unset, .unset, .unset, .unset, .unset] [(.int (24 : Int32)), (.int x1), (.int (24 : Int32)), (.ref b1022), (.ref b1022)])) (fun τ κ => XS.iloadN X1141.here hx rfl (hb hby at_319) rfl (XS.bipush X1141.here hx rfl (hb hby at_320) κ)) ?_
  obtain ⟨rv1144, _, ⟨T1144, L1144, k1144, n1144⟩, -, X1144, ⟨Lc1144, hQ1144, l1144, y1144, z1144⟩, st1144⟩ := Jvm.LawKit.callS X1141 hx (y := (⟨"com/example/wanderpath/wanderpath/GridCanStepPinLaw", "bit", "(II)Z"⟩ : MethodName)) hown (mvT hZ (w5_ hw)) (mvT hZ (w6_ hw)) (mvT hZ (w3_ hw)) (mvT hZ (w7_ hw)) (by decide) (backOf (W := 3) (rm2 l Z a0 hw [] x1 (24 : Int32) h1141 n0 Z1141 ) hZ (w7_ hw) (w3_ hw) (by decide) (by decide)) (g := (mkF m 322 #[vI x0, vI x1, vI x2, vI x3, vI x4, vR b985, .unset, .unset, .unset, .unset, .unset, .unset, .unset, .unset, .unset, .unset, .unset, .unset, .unset, .unset] [(.int (24 : Int32)), (.int x1), (.int (24 : Int32)), (.ref b1022), (.ref b1022)])) rfl (by rw [hml]; rfl) (argsL := [(.int x1), (.int (24 : Int32))]) (rest := [(.int (24 : Int32)), (.ref b1022), (.ref b1022)]) (lenOf pd_8 rfl) rfl (by show 2 * 0 + _ ≤ _; exact Nat.le_of_eq rfl) (hb hby at_322) (fun _ _ => ⟨rfl, e1141, Nat.le_of_ble_eq_true rfl, Nat.le_of_ble_eq_true rfl⟩)
  dsimp only [Pt.U, Pt.locs, Pt.cells, Pt.slots] at X1144 l1144 y1144 z1144 st1144 hQ1144
  subst l1144 y1144 z1144
  have X1144 := X1144.more (cells' := 2) (slots' := 34) (by decide) (by decide)
  obtain ⟨hq1144, N1144q, e1144⟩ := hQ1144
  have hq1144 : rv1144 = some (.int (own_bit x1 (24 : Int32))) := hq1144
  subst hq1144
  have N1144 := Fr.app N1141 N1144q
  obtain ⟨Lw1144, X1144, N1144⟩ := own_locG X1144 N1144
  refine GlW.st (g' := (mkF m 325 #[vI x0, vI x1, vI x2, vI x3, vI x4, vR b985, .unset, .unset, .unset, .unset, .unset, .unset, .unset, .unset, .unset, .unset, .unset, .unset, .unset, .unset] [(.int (own_bit x1 (24 : Int32))), (.int (24 : Int32)), (.ref b1022), (.ref b1022)])) (fun τ κ => st1144 _ κ) ?_
  obtain ⟨cl_o1145, Ar_o1145, q_o1145, S_o1145, M_o1145, H_o1145, G_o1145⟩ := id V_b1022_1141
  have hin_o1145 : ¬ ((24 : Int32) < 0 ∨ cl_o1145.slots.size ≤ ((24 : Int32)).toNatClampNeg) := inb_of S_o1145 ⟨by decide, by decide⟩
  obtain ⟨T1146, h1146, X1146, e1146, W1146, st1146⟩ := stZ X1144 hx hZ e1144 Ar_o1145 (j := (24 : Int32)) hin_o1145 (g := (mkF m 325 #[vI x0, vI x1, vI x2, vI x3, vI x4, vR b985, .unset, .unset, .unset, .unset, .unset, .unset, .unset, .unset, .unset, .unset, .unset, .unset, .unset, .unset] [(.int (own_bit x1 (24 : Int32))), (.int (24 : Int32)), (.ref b1022), (.ref b1022)])) rfl rfl (hb hby at_325)
  have Y1146_b985 := Safe.wr W1146 Y1141_b1022 CH1141 Y1141_b985
  have Y1146_b1022 := Safe.wr W1146 Y1141_b1022 CH1141 Y1141_b1022
  have CH1146 := CH1141.wr W1146 Y1141_b1022
  have V_1147 := V_1142.other W1146 ne_b985_b1022
  obtain ⟨Lw1146, X1146, N1146⟩ := own_locG X1146 (Fr.snoc X1146 N1144 g_b1022)
  have Z1146 : n0 ≤ h1146.size := Nat.le_trans Z1141 (Nat.le_of_eq W1146.size.symm)
  have hk1146 := Nat.le_trans hk1141 (Nat.le_of_eq W1146.size.symm)
  have K1146 : Keep h0 h1146 [] := K1141.wr W1146 (Or.inr sz_b1022)
  have V_b1022_1146 : Arv Z h1146 b1022 k1022 .boolean (25 : Int32) [(.int (own_bit x1 (0 : Int32))), (.int (own_bit x1 (1 : Int32))), (.int (own_bit x1 (2 : Int32))), (.int (own_bit x1 (3 : Int32))), (.int (own_bit x1 (4 : Int32))), (.int (own_bit x1 (5 : Int32))), (.int (own_bit x1 (6 : Int32))), (.int (own_bit x1 (7 : Int32))), (.int (own_bit x1 (8 : Int32))), (.int (own_bit x1 (9 : Int32))), (.int (own_bit x1 (10 : Int32))), (.int (own_bit x1 (11 : Int32))), (.int (own_bit x1 (12 : Int32))), (.int (own_bit x1 (13 : Int32))), (.int (own_bit x1 (14 : Int32))), (.int (own_bit x1 (15 : Int32))), (.int (own_bit x1 (16 : Int32))), (.int (own_bit x1 (17 : Int32))), (.int (own_bit x1 (18 : Int32))), (.int (own_bit x1 (19 : Int32))), (.int (own_bit x1 (20 : Int32))), (.int (own_bit x1 (21 : Int32))), (.int (own_bit x1 (22 : Int32))), (.int (own_bit x1 (23 : Int32))), (.int (nar .boolean (own_bit x1 (24 : Int32))))] (.int (0 : Int32)) := Arv.set Ar_o1145 q_o1145 S_o1145 M_o1145 H_o1145 G_o1145 (fits_nar_bool _) W1146 24 rfl (Nat.le_of_ble_eq_true rfl)
  rw [own_narB _ _] at V_b1022_1146
  refine GlW.st (g' := (mkF m 326 #[vI x0, vI x1, vI x2, vI x3, vI x4, vR b985, .unset, .unset, .unset, .unset, .unset, .unset, .unset, .unset, .unset, .unset, .unset, .unset, .unset, .unset] [(.ref b1022)])) (fun τ κ => st1146 _ κ) ?_
  refine GlW.st (g' := (mkF m 328 #[vI x0, vI x1, vI x2, vI x3, vI x4, vR b985, vR b1022, .unset, .unset, .unset, .unset, .unset, .unset, .unset, .unset, .unset, .unset, .unset, .unset, .unset] [])) (fun τ κ => XS.astore X1146.here hx rfl (hb hby at_326) rfl rfl (l' := #[vI x0, vI x1, vI x2, vI x3, vI x4, vR b985, vR b1022, .unset, .unset, .unset, .unset, .unset, .unset, .unset, .unset, .unset, .unset, .unset, .unset, .unset]) rfl κ) ?_
  obtain ⟨vb, Vvb, HB⟩ : ∃ vz, Arv Z h1146 b1022 k1022 .boolean (25 : Int32) vz (.int (0 : Int32)) ∧ ∀ i, ¬ i < 0 → i < (25 : Int32) → vz.getD i.toNatClampNeg (.int (0 : Int32)) = .int (own_bit x1 i) := ⟨_, V_b1022_1146, own_t25 (fun z => .int (own_bit x1 z)) _⟩
  refine GlW.st (g' := (mkF m 331 #[vI x0, vI x1, vI x2, vI x3, vI x4, vR b985, vR b1022, .unset, .unset, .unset, .unset, .unset, .unset, .unset, .unset, .unset, .unset, .unset, .unset, .unset] [(.int (1 : Int32)), (.int x4)])) (fun τ κ => XS.iload X1146.here hx rfl (hb hby at_328) rfl (XS.iconst X1146.here hx rfl (hb hby at_330) κ)) ?_
  refine GlW.st (g' := (mkF m 332 #[vI x0, vI x1, vI x2, vI x3, vI x4, vR b985, vR b1022, .unset, .unset, .unset, .unset, .unset, .unset, .unset, .unset, .unset, .unset, .unset, .unset, .unset] [(.int (x4 &&& (1 : Int32)))])) (fun τ κ => XS.iand X1146.here hx rfl (hb hby at_331) rfl κ) ?_
  by_cases hc1149 : (x4 &&& (1 : Int32)) = (0 : Int32)
  · -- pc 332: (x4 &&& (1 : Int32)) = (0 : Int32)
    refine GlW.st (g' := (mkF m 340 #[vI x0, vI x1, vI x2, vI x3, vI x4, vR b985, vR b1022, .unset, .unset, .unset, .unset, .unset, .unset, .unset, .unset, .unset, .unset, .unset, .unset, .unset] [(.int (0 : Int32))])) (fun τ κ => XS.ifYes X1146.here hx rfl (pc0 := 332) (pc' := 339) rfl (hb hby at_332) rfl ((if0 _ _).trans (teq hc1149).1) (by decide) (by decide) (XS.iconst X1146.here hx rfl (hb hby at_339) κ)) ?_
    refine GlW.st (g' := (mkF m 344 #[vI x0, vI x1, vI x2, vI x3, vI x4, vR b985, vR b1022, vI (0 : Int32), .unset, .unset, .unset, .unset, .unset, .unset, .unset, .unset, .unset, .unset, .unset, .unset] [(.int (0 : Int32))])) (fun τ κ => XS.istore X1146.here hx rfl (hb hby at_340) rfl (l' := #[vI x0, vI x1, vI x2, vI x3, vI x4, vR b985, vR b1022, vI (0 : Int32), .unset, .unset, .unset, .unset, .unset, .unset, .unset, .unset, .unset, .unset, .unset, .unset]) rfl (XS.iload X1146.here hx rfl (hb hby at_342) rfl κ)) ?_
    have hc1150 : (0 : Int32) = (0 : Int32) := by decide
    refine GlW.st (g' := (mkF m 355 #[vI x0, vI x1, vI x2, vI x3, vI x4, vR b985, vR b1022, vI (0 : Int32), .unset, .unset, .unset, .unset, .unset, .unset, .unset, .unset, .unset, .unset, .unset, .unset] [(.int x3)])) (fun τ κ => XS.ifYes X1146.here hx rfl (pc0 := 344) (pc' := 354) rfl (hb hby at_344) rfl ((if0 _ _).trans (teq hc1150).1) (by decide) (by decide) (XS.iloadN X1146.here hx rfl (hb hby at_354) rfl κ)) ?_
    refine GlW.st (g' := (mkF m 357 #[vI x0, vI x1, vI x2, vI x3, vI x4, vR b985, vR b1022, vI (0 : Int32), .unset, .unset, .unset, .unset, .unset, .unset, .unset, .unset, .unset, .unset, .unset, .unset] [(.int (x3 &&& (3 : Int32)))])) (fun τ κ => XS.iconst X1146.here hx rfl (hb hby at_355) (XS.iand X1146.here hx rfl (hb hby at_356) rfl κ)) ?_
    refine GlW.st (g' := (mkF m 359 #[vI x0, vI x1, vI x2, vI x3, vI x4, vR b985, vR b1022, vI (0 : Int32), vI (x3 &&& (3 : Int32)), .unset, .unset, .unset, .unset, .unset, .unset, .unset, .unset, .unset, .unset, .unset] [])) (fun τ κ => XS.istore X1146.here hx rfl (hb hby at_357) rfl (l' := #[vI x0, vI x1, vI x2, vI x3, vI x4, vR b985, vR b1022, vI (0 : Int32), vI (x3 &&& (3 : Int32)), .unset, .unset, .unset, .unset, .unset, .unset, .unset, .unset, .unset, .unset, .unset]) rfl κ) ?_
    have hi4 := own_m3 x3
    generalize (x3 &&& (3 : Int32)) = qi at hi4 ⊢
    have hi := own_i48 hi4
    refine GlW.st (g' := (mkF m 360 #[vI x0, vI x1, vI x2, vI x3, vI x4, vR b985, vR b1022, vI (0 : Int32), vI qi, .unset, .unset, .unset, .unset, .unset, .unset, .unset, .unset, .unset, .unset, .unset] [(.int x2)])) (fun τ κ => XS.iloadN X1146.here hx rfl (hb hby at_359) rfl κ) ?_
    refine GlW.st (g' := (mkF m 362 #[vI x0, vI x1, vI x2, vI x3, vI x4, vR b985, vR b1022, vI (0 : Int32), vI qi, .unset, .unset, .unset, .unset, .unset, .unset, .unset, .unset, .unset, .unset, .unset] [(.int (2147483647 : Int32)), (.int x2)])) (fun τ κ => X1146.ldcInt hx hown (mvT hZ (w9_ hw)) (g := (mkF m 360 #[vI x0, vI x1, vI x2, vI x3, vI x4, vR b985, vR b1022, vI (0 : Int32), vI qi, .unset, .unset, .unset, .unset, .unset, .unset, .unset, .unset, .unset, .unset, .unset] [(.int x2)])) rfl (hb hby at_360) _ κ) ?_
    refine GlW.st (g' := (mkF m 365 #[vI x0, vI x1, vI x2, vI x3, vI x4, vR b985, vR b1022, vI (0 : Int32), vI qi, .unset, .unset, .unset, .unset, .unset, .unset, .unset, .unset, .unset, .unset, .unset] [(.int (9 : Int32)), (.int (x2 &&& (2147483647 : Int32)))])) (fun τ κ => XS.iand X1146.here hx rfl (hb hby at_362) rfl (XS.bipush X1146.here hx rfl (hb hby at_363) κ)) ?_
    refine GlW.st (g' := (mkF m 366 #[vI x0, vI x1, vI x2, vI x3, vI x4, vR b985, vR b1022, vI (0 : Int32), vI qi, .unset, .unset, .unset, .unset, .unset, .unset, .unset, .unset, .unset, .unset, .unset] [(.int ((x2 &&& (2147483647 : Int32)) % (9 : Int32)))])) (fun τ κ => iremM (g := (mkF m 365 #[vI x0, vI x1, vI x2, vI x3, vI x4, vR b985, vR b1022, vI (0 : Int32), vI qi, .unset, .unset, .unset, .unset, .unset, .unset, .unset, .unset, .unset, .unset, .unset] [(.int (9 : Int32)), (.int (x2 &&& (2147483647 : Int32)))])) X1146 hx rfl (hb hby at_365) rfl (by decide) κ) ?_
    refine GlW.st (g' := (mkF m 368 #[vI x0, vI x1, vI x2, vI x3, vI x4, vR b985, vR b1022, vI (0 : Int32), vI qi, vI ((x2 &&& (2147483647 : Int32)) % (9 : Int32)), .unset, .unset, .unset, .unset, .unset, .unset, .unset, .unset, .unset, .unset] [])) (fun τ κ => XS.istore X1146.here hx rfl (hb hby at_366) rfl (l' := #[vI x0, vI x1, vI x2, vI x3, vI x4, vR b985, vR b1022, vI (0 : Int32), vI qi, vI ((x2 &&& (2147483647 : Int32)) % (9 : Int32)), .unset, .unset, .unset, .unset, .unset, .unset, .unset, .unset, .unset, .unset]) rfl κ) ?_
    have hqp := own_pos x2
    generalize ((x2 &&& (2147483647 : Int32)) % (9 : Int32)) = qp at hqp ⊢
    refine GlW.st (g' := (mkF m 371 #[vI x0, vI x1, vI x2, vI x3, vI x4, vR b985, vR b1022, vI (0 : Int32), vI qi, vI qp, .unset, .unset, .unset, .unset, .unset, .unset, .unset, .unset, .unset, .unset] [(.int (3 : Int32)), (.int qp)])) (fun τ κ => XS.iload X1146.here hx rfl (hb hby at_368) rfl (XS.iconst X1146.here hx rfl (hb hby at_370) κ)) ?_
    refine GlW.st (g' := (mkF m 372 #[vI x0, vI x1, vI x2, vI x3, vI x4, vR b985, vR b1022, vI (0 : Int32), vI qi, vI qp, .unset, .unset, .unset, .unset, .unset, .unset, .unset, .unset, .unset, .unset] [(.int (qp % (3 : Int32)))])) (fun τ κ => iremM (g := (mkF m 371 #[vI x0, vI x1, vI x2, vI x3, vI x4, vR b985, vR b1022, vI (0 : Int32), vI qi, vI qp, .unset, .unset, .unset, .unset, .unset, .unset, .unset, .unset, .unset, .unset] [(.int (3 : Int32)), (.int qp)])) X1146 hx rfl (hb hby at_371) rfl (by decide) κ) ?_
    refine GlW.st (g' := (mkF m 374 #[vI x0, vI x1, vI x2, vI x3, vI x4, vR b985, vR b1022, vI (0 : Int32), vI qi, vI qp, vI (qp % (3 : Int32)), .unset, .unset, .unset, .unset, .unset, .unset, .unset, .unset, .unset] [])) (fun τ κ => XS.istore X1146.here hx rfl (hb hby at_372) rfl (l' := #[vI x0, vI x1, vI x2, vI x3, vI x4, vR b985, vR b1022, vI (0 : Int32), vI qi, vI qp, vI (qp % (3 : Int32)), .unset, .unset, .unset, .unset, .unset, .unset, .unset, .unset, .unset]) rfl κ) ?_
    have hqx := own_x3 hqp
    generalize (qp % (3 : Int32)) = qx at hqx ⊢
    refine GlW.st (g' := (mkF m 377 #[vI x0, vI x1, vI x2, vI x3, vI x4, vR b985, vR b1022, vI (0 : Int32), vI qi, vI qp, vI qx, .unset, .unset, .unset, .unset, .unset, .unset, .unset, .unset, .unset] [(.int (3 : Int32)), (.int qp)])) (fun τ κ => XS.iload X1146.here hx rfl (hb hby at_374) rfl (XS.iconst X1146.here hx rfl (hb hby at_376) κ)) ?_
    refine GlW.st (g' := (mkF m 380 #[vI x0, vI x1, vI x2, vI x3, vI x4, vR b985, vR b1022, vI (0 : Int32), vI qi, vI qp, vI qx, vI (qp / (3 : Int32)), .unset, .unset, .unset, .unset, .unset, .unset, .unset, .unset] [])) (fun τ κ => XS.idiv X1146.here hx rfl (hb hby at_377) rfl (by decide) (XS.istore X1146.here hx rfl (hb hby at_378) rfl (l' := #[vI x0, vI x1, vI x2, vI x3, vI x4, vR b985, vR b1022, vI (0 : Int32), vI qi, vI qp, vI qx, vI (qp / (3 : Int32)), .unset, .unset, .unset, .unset, .unset, .unset, .unset, .unset]) rfl κ)) ?_
    have hqy := own_y3 hqp
    generalize (qp / (3 : Int32)) = qy at hqy ⊢
    refine GlW.st (g' := (mkF m 383 #[vI x0, vI x1, vI x2, vI x3, vI x4, vR b985, vR b1022, vI (0 : Int32), vI qi, vI qp, vI qx, vI qy, .unset, .unset, .unset, .unset, .unset, .unset, .unset, .unset] [(.int (1 : Int32)), (.int qy)])) (fun τ κ => XS.iload X1146.here hx rfl (hb hby at_380) rfl (XS.iconst X1146.here hx rfl (hb hby at_382) κ)) ?_
    refine GlW.st (g' := (mkF m 385 #[vI x0, vI x1, vI x2, vI x3, vI x4, vR b985, vR b1022, vI (0 : Int32), vI qi, vI qp, vI qx, vI qy, .unset, .unset, .unset, .unset, .unset, .unset, .unset, .unset] [(.int (5 : Int32)), (.int (qy + (1 : Int32)))])) (fun τ κ => XS.iadd X1146.here hx rfl (hb hby at_383) rfl (XS.iconst X1146.here hx rfl (hb hby at_384) κ)) ?_
    refine GlW.st (g' := (mkF m 388 #[vI x0, vI x1, vI x2, vI x3, vI x4, vR b985, vR b1022, vI (0 : Int32), vI qi, vI qp, vI qx, vI qy, .unset, .unset, .unset, .unset, .unset, .unset, .unset, .unset] [(.int qx), (.int ((qy + (1 : Int32)) * (5 : Int32)))])) (fun τ κ => XS.imul X1146.here hx rfl (hb hby at_385) rfl (XS.iload X1146.here hx rfl (hb hby at_386) rfl κ)) ?_
    refine GlW.st (g' := (mkF m 390 #[vI x0, vI x1, vI x2, vI x3, vI x4, vR b985, vR b1022, vI (0 : Int32), vI qi, vI qp, vI qx, vI qy, .unset, .unset, .unset, .unset, .unset, .unset, .unset, .unset] [(.int (1 : Int32)), (.int (((qy + (1 : Int32)) * (5 : Int32)) + qx))])) (fun τ κ => XS.iadd X1146.here hx rfl (hb hby at_388) rfl (XS.iconst X1146.here hx rfl (hb hby at_389) κ)) ?_
    refine GlW.st (g' := (mkF m 393 #[vI x0, vI x1, vI x2, vI x3, vI x4, vR b985, vR b1022, vI (0 : Int32), vI qi, vI qp, vI qx, vI qy, vI ((((qy + (1 : Int32)) * (5 : Int32)) + qx) + (1 : Int32)), .unset, .unset, .unset, .unset, .unset, .unset, .unset] [])) (fun τ κ => XS.iadd X1146.here hx rfl (hb hby at_390) rfl (XS.istore X1146.here hx rfl (hb hby at_391) rfl (l' := #[vI x0, vI x1, vI x2, vI x3, vI x4, vR b985, vR b1022, vI (0 : Int32), vI qi, vI qp, vI qx, vI qy, vI ((((qy + (1 : Int32)) * (5 : Int32)) + qx) + (1 : Int32)), .unset, .unset, .unset, .unset, .unset, .unset, .unset]) rfl κ)) ?_
    have S_u1151 := Sta.keepX S0 K1146 all0
    have S_u1152 := Sta.keepX S8 K1146 all0
    have S_u1153 := Sta.keepX S4 K1146 all0
    generalize hqc : ((((qy + (1 : Int32)) * (5 : Int32)) + qx) + (1 : Int32)) = qc
    have TB := own_tab hqx hqy hi hqc
    have L1 := own_bp (tv := x0) TB.2.2.2.2.2.1 TB.2.2.2.2.2.2.1
    have L2 := own_bp (tv := x0) TB.2.2.2.2.2.2.2.1 TB.2.2.2.2.2.2.2.2
    obtain ⟨T1154, h1154, X1154, e1154, E1154, A1154, D1154, -, st1154⟩ := newO X1146 hx hZ hown (w10_ hw) (w11_ hw) (w12_ hw) e1146 (g := (mkF m 393 #[vI x0, vI x1, vI x2, vI x3, vI x4, vR b985, vR b1022, vI (0 : Int32), vI qi, vI qp, vI qx, vI qy, vI qc, .unset, .unset, .unset, .unset, .unset, .unset, .unset] [])) rfl (hb hby at_393) (by decide) (by decide)
    obtain ⟨b1154, g1154⟩ : ∃ z, z = h1146.size := ⟨_, rfl⟩
    rw [← g1154] at A1154 D1154 st1154
    have Yn1154 : Safe Z own_EL s.vm h1146 b1154 := Safe.new (Nat.le_of_eq g1154.symm)
    have Y1154_b985 := Safe.ext E1154 CH1146 Y1146_b985
    have Y1154_b1022 := Safe.ext E1154 CH1146 Y1146_b1022
    have Y1154_b1154 := Safe.ext E1154 CH1146 Yn1154
    have CH1154 := CH1146.ext E1154
    have ne_b985_b1154 : b985 ≠ b1154 := Nat.ne_of_lt (Nat.lt_of_lt_of_le V_1147.lt (Nat.le_of_eq g1154.symm))
    have ne_b1022_b1154 : b1022 ≠ b1154 := Nat.ne_of_lt (Nat.lt_of_lt_of_le Vvb.lt (Nat.le_of_eq g1154.symm))
    have V_1155 := V_1147.ext E1154
    have V_1156 := Vvb.ext E1154
    have S_1157 := S_u1151.ext E1154
    have S_1158 := S_u1152.ext E1154
    have S_1159 := S_u1153.ext E1154
    have hk1154 := Nat.le_trans hk1146 E1154.1
    have g_b1154 : n0 ≤ b1154 := Nat.le_trans Z1146 (Nat.le_of_eq g1154.symm)
    have sz_b1154 : h0.size ≤ b1154 := Nat.le_trans K1146.1 (Nat.le_of_eq g1154.symm)
    have Z1154 : n0 ≤ h1154.size := Nat.le_trans Z1146 E1154.1
    have K1154 : Keep h0 h1154 [] := K1146.ext E1154
    have F_1160 : Fld Z h1154 b1154 "com/example/wanderpath/wanderpath/TileMap" "width" "I" (.int (0 : Int32)) := D1154 (Or.inr (w20_ hw)) (ty := .int) (by decide)
    have F_1161 : Fld Z h1154 b1154 "com/example/wanderpath/wanderpath/TileMap" "height" "I" (.int (0 : Int32)) := D1154 (Or.inr (w22_ hw)) (ty := .int) (by decide)
    have F_1162 : Fld Z h1154 b1154 "com/example/wanderpath/wanderpath/TileMap" "tiles" "[B" .null := D1154 (Or.inr (w24_ hw)) (ty := (.array .byte)) (by decide)
    have F_1163 : Fld Z h1154 b1154 "com/example/wanderpath/wanderpath/TileMap" "passableCount" "I" (.int (0 : Int32)) := D1154 (Or.inr (w81_ hw)) (ty := .int) (by decide)
    have X1154 := X1154.more (cells' := 3) (slots' := 38) (by decide) (by decide)
    refine GlW.st (g' := (mkF m 396 #[vI x0, vI x1, vI x2, vI x3, vI x4, vR b985, vR b1022, vI (0 : Int32), vI qi, vI qp, vI qx, vI qy, vI qc, .unset, .unset, .unset, .unset, .unset, .unset, .unset] [(.ref b1154)])) (fun τ κ => st1154 _ κ) ?_
    refine GlW.st (g' := (mkF m 398 #[vI x0, vI x1, vI x2, vI x3, vI x4, vR b985, vR b1022, vI (0 : Int32), vI qi, vI qp, vI qx, vI qy, vI qc, .unset, .unset, .unset, .unset, .unset, .unset, .unset] [(.int (3 : Int32)), (.ref b1154), (.ref b1154)])) (fun τ κ => XS.dup X1154.here hx rfl (hb hby at_396) rfl rfl (XS.iconst X1154.here hx rfl (hb hby at_397) κ)) ?_
    refine GlW.st (g' := (mkF m 401 #[vI x0, vI x1, vI x2, vI x3, vI x4, vR b985, vR b1022, vI (0 : Int32), vI qi, vI qp, vI qx, vI qy, vI qc, .unset, .unset, .unset, .unset, .unset, .unset, .unset] [(.ref b985), (.int (3 : Int32)), (.int (3 : Int32)), (.ref b1154), (.ref b1154)])) (fun τ κ => XS.iconst X1154.here hx rfl (hb hby at_398) (XS.aload X1154.here hx rfl (hb hby at_399) rfl rfl κ)) ?_
    obtain ⟨rv1164, _, ⟨T1164, L1164, k1164, n1164⟩, -, X1164, hSb1164, hgb1164, ⟨Lc1164, hQ1164, l1164, y1164, z1164⟩, st1164⟩ := X1154.specialBackS hx (y := (⟨"com/example/wanderpath/wanderpath/TileMap", "<init>", "(II[B)V"⟩ : MethodName)) rfl hown (mvT hZ (w13_ hw)) (mvT hZ (w14_ hw)) (mvT hZ (w15_ hw)) (by decide) (backOfSX (W := 1) (rm3 l Z a0 hw [] b1154 b985 k985 vt x0 cs h1154 n0 Z1154 S_1157 hcs A1154 g_b1154 (Ne.symm ne_b985_b1154) F_1160 F_1161 F_1162 F_1163 V_1155 HT) hZ (w15_ hw) (w12_ hw) (by decide) (by decide) (own_EW hw) CH1154 (sfx1 A1154.lt Y1154_b1154)) (g := (mkF m 401 #[vI x0, vI x1, vI x2, vI x3, vI x4, vR b985, vR b1022, vI (0 : Int32), vI qi, vI qp, vI qx, vI qy, vI qc, .unset, .unset, .unset, .unset, .unset, .unset, .unset] [(.ref b985), (.int (3 : Int32)), (.int (3 : Int32)), (.ref b1154), (.ref b1154)])) rfl (by rw [hml]; rfl) (Steps.refl _) (a := b1154) (argsL := [(.int (3 : Int32)), (.int (3 : Int32)), (.ref b985)]) (rest := [(.ref b1154)]) (lenOf pd_10 rfl) rfl (by show 2 * 0 + _ ≤ _; exact Nat.le_of_eq rfl) (hb hby at_401) (fun _ _ => ⟨rfl, e1154, Nat.le_of_ble_eq_true rfl, Nat.le_of_ble_eq_true rfl⟩)
    dsimp only [Pt.U, Pt.locs, Pt.cells, Pt.slots] at X1164 l1164 y1164 z1164 st1164 hQ1164 hSb1164 hgb1164
    subst l1164 y1164 z1164
    obtain ⟨X1164, hS1164, hZ1164, hown1164⟩ := rebS hS0 hk1154 X1164 hSb1164 (Nat.le_trans (Nat.le_of_eq (congrArg Array.size e1154).symm) hgb1164) hZ hown
    obtain ⟨hQ1164, hE1164⟩ := hQ1164
    have X1164 := X1164.more (cells' := 5) (slots' := 54) (by decide) (by decide)
    obtain ⟨rfl, N1164q, Kc1164, Em, F0, F1, F2⟩ := hQ1164
    have V_1165 := V_1155.keep Kc1164 (ninS ne_b985_b1154 nin0)
    have V_1166 := V_1156.keep Kc1164 (ninS ne_b1022_b1154 nin0)
    have S_1167 := Sta.keepX S_1157 Kc1164 (allS (P := fun x => ∃ c : Cell, h1154[x]? = some c ∧ ∀ q, c.vm ≠ .statics q) A1154.cell all0)
    have S_1168 := Sta.keepX S_1158 Kc1164 (allS (P := fun x => ∃ c : Cell, h1154[x]? = some c ∧ ∀ q, c.vm ≠ .statics q) A1154.cell all0)
    have S_1169 := Sta.keepX S_1159 Kc1164 (allS (P := fun x => ∃ c : Cell, h1154[x]? = some c ∧ ∀ q, c.vm ≠ .statics q) A1154.cell all0)
    have E_1170 := A1154.keep Kc1164
    have N1164 := Fr.app N1146 N1164q
    have Z1164 : n0 ≤ T1164.heap.size := Nat.le_trans Z1154 Kc1164.1
    have K1164 : Keep h0 T1164.heap [] := K1154.trans Kc1164 (allS (Or.inr sz_b1154) all0)
    obtain ⟨la, lb, lk, hLt, EL, FC, FV, VB, -⟩ := hE1164
    have hLt : Lit (s.setVm T1164.vm) "com/example/wanderpath/wanderpath/TileMap" 120 la := hLt
    obtain ⟨Lw1164, X1164, N1164⟩ := own_locG X1164 N1164
    refine GlW.st (g' := (mkF m 404 #[vI x0, vI x1, vI x2, vI x3, vI x4, vR b985, vR b1022, vI (0 : Int32), vI qi, vI qp, vI qx, vI qy, vI qc, .unset, .unset, .unset, .unset, .unset, .unset, .unset] [(.ref b1154)])) (fun τ κ => st1164.trans κ) ?_
    refine GlW.st (g' := (mkF m 406 #[vI x0, vI x1, vI x2, vI x3, vI x4, vR b985, vR b1022, vI (0 : Int32), vI qi, vI qp, vI qx, vI qy, vI qc, vR b1154, .unset, .unset, .unset, .unset, .unset, .unset] [])) (fun τ κ => XS.astore X1164.here hx rfl (hb hby at_404) rfl rfl (l' := #[vI x0, vI x1, vI x2, vI x3, vI x4, vR b985, vR b1022, vI (0 : Int32), vI qi, vI qp, vI qx, vI qy, vI qc, vR b1154, .unset, .unset, .unset, .unset, .unset, .unset]) rfl κ) ?_
    obtain ⟨T1175, h1175, X1175, e1175, E1175, A1175, D1175, -, st1175⟩ := newO X1164 hx hZ1164 hown1164 (w82_ hw) (w83_ hw) (w84_ hw) rfl (g := (mkF m 406 #[vI x0, vI x1, vI x2, vI x3, vI x4, vR b985, vR b1022, vI (0 : Int32), vI qi, vI qp, vI qx, vI qy, vI qc, vR b1154, .unset, .unset, .unset, .unset, .unset, .unset] [])) rfl (hb hby at_406) (by decide) (by decide)
    obtain ⟨b1175, g1175⟩ : ∃ z, z = T1164.heap.size := ⟨_, rfl⟩
    rw [← g1175] at A1175 D1175 st1175
    have ne_b985_b1175 : b985 ≠ b1175 := Nat.ne_of_lt (Nat.lt_of_lt_of_le V_1165.lt (Nat.le_of_eq g1175.symm))
    have ne_b1022_b1175 : b1022 ≠ b1175 := Nat.ne_of_lt (Nat.lt_of_lt_of_le V_1166.lt (Nat.le_of_eq g1175.symm))
    have ne_b1154_b1175 : b1154 ≠ b1175 := Nat.ne_of_lt (Nat.lt_of_lt_of_le Em.lt (Nat.le_of_eq g1175.symm))
    have ne_lb_b1175 : lb ≠ b1175 := Nat.ne_of_lt (Nat.lt_of_lt_of_le VB.lt (Nat.le_of_eq g1175.symm))
    have ne_la_b1175 : la ≠ b1175 := Nat.ne_of_lt (Nat.lt_of_lt_of_le EL.lt (Nat.le_of_eq g1175.symm))
    have V_1176 := V_1165.ext E1175
    have V_1177 := V_1166.ext E1175
    have S_1178 := S_1167.ext E1175
    have S_1179 := S_1168.ext E1175
    have S_1180 := S_1169.ext E1175
    have E_1181 := Em.ext E1175
    have V_1182 := VB.ext E1175
    have E_1183 := EL.ext E1175
    have F_1184 := FC.ext E1175
    have F_1185 := FV.ext E1175
    have F_1186 := F0.ext E1175
    have F_1187 := F1.ext E1175
    have F_1188 := F2.ext E1175
    have hk1175 := Nat.le_trans (Nat.le_refl _) E1175.1
    have g_b1175 : n0 ≤ b1175 := Nat.le_trans Z1164 (Nat.le_of_eq g1175.symm)
    have sz_b1175 : h0.size ≤ b1175 := Nat.le_trans K1164.1 (Nat.le_of_eq g1175.symm)
    have Z1175 : n0 ≤ h1175.size := Nat.le_trans Z1164 E1175.1
    have K1175 : Keep h0 h1175 [] := K1164.ext E1175
    have F_1189 : Fld Z h1175 b1175 "com/example/wanderpath/wanderpath/Grid" "stride" "I" (.int (0 : Int32)) := D1175 (Or.inr (w98_ hw)) (ty := .int) (by decide)
    have F_1190 : Fld Z h1175 b1175 "com/example/wanderpath/wanderpath/Grid" "steps" "[I" .null := D1175 (Or.inr (w103_ hw)) (ty := (.array .int)) (by decide)
    have F_1191 : Fld Z h1175 b1175 "com/example/wanderpath/wanderpath/Grid" "rowPart" "[I" .null := D1175 (Or.inr (w105_ hw)) (ty := (.array .int)) (by decide)
    have F_1192 : Fld Z h1175 b1175 "com/example/wanderpath/wanderpath/Grid" "columnPart" "[I" .null := D1175 (Or.inr (w107_ hw)) (ty := (.array .int)) (by decide)
    have F_1193 : Fld Z h1175 b1175 "com/example/wanderpath/wanderpath/Grid" "blocked" "[Z" .null := D1175 (Or.inr (w114_ hw)) (ty := (.array .boolean)) (by decide)
    have X1175 := X1175.more (cells' := 6) (slots' := 59) (by decide) (by decide)
    refine GlW.st (g' := (mkF m 409 #[vI x0, vI x1, vI x2, vI x3, vI x4, vR b985, vR b1022, vI (0 : Int32), vI qi, vI qp, vI qx, vI qy, vI qc, vR b1154, .unset, .unset, .unset, .unset, .unset, .unset] [(.ref b1175)])) (fun τ κ => st1175 _ κ) ?_
    refine GlW.st (g' := (mkF m 412 #[vI x0, vI x1, vI x2, vI x3, vI x4, vR b985, vR b1022, vI (0 : Int32), vI qi, vI qp, vI qx, vI qy, vI qc, vR b1154, .unset, .unset, .unset, .unset, .unset, .unset] [(.ref b1154), (.ref b1175), (.ref b1175)])) (fun τ κ => XS.dup X1175.here hx rfl (hb hby at_409) rfl rfl (XS.aload X1175.here hx rfl (hb hby at_410) rfl rfl κ)) ?_
    refine GlW.st (g' := (mkF m 414 #[vI x0, vI x1, vI x2, vI x3, vI x4, vR b985, vR b1022, vI (0 : Int32), vI qi, vI qp, vI qx, vI qy, vI qc, vR b1154, .unset, .unset, .unset, .unset, .unset, .unset] [(.int (0 : Int32)), (.ref b1154), (.ref b1175), (.ref b1175)])) (fun τ κ => XS.iload X1175.here hx rfl (hb hby at_412) rfl κ) ?_
    have hc1194 : (0 : Int32) = (0 : Int32) := by decide
    refine GlW.st (g' := (mkF m 423 #[vI x0, vI x1, vI x2, vI x3, vI x4, vR b985, vR b1022, vI (0 : Int32), vI qi, vI qp, vI qx, vI qy, vI qc, vR b1154, .unset, .unset, .unset, .unset, .unset, .unset] [(.ref b1154), (.ref b1175), (.ref b1175)])) (fun τ κ => XS.ifYes X1175.here hx rfl (pc0 := 414) (pc' := 423) rfl (hb hby at_414) rfl ((if0 _ _).trans (teq hc1194).1) (by decide) (by decide) κ) ?_
    obtain ⟨T1195, X1195, e1195, st1195⟩ := getS2 X1175 hx hZ1164 hown1164 (host := "") (Or.inl (w85_ hw)) Via.refl e1175 S_1180 (g := (mkF m 423 #[vI x0, vI x1, vI x2, vI x3, vI x4, vR b985, vR b1022, vI (0 : Int32), vI qi, vI qp, vI qx, vI qy, vI qc, vR b1154, .unset, .unset, .unset, .unset, .unset, .unset] [(.ref b1154), (.ref b1175), (.ref b1175)])) rfl (hb hby at_423)
    refine GlW.st (g' := (mkF m 426 #[vI x0, vI x1, vI x2, vI x3, vI x4, vR b985, vR b1022, vI (0 : Int32), vI qi, vI qp, vI qx, vI qy, vI qc, vR b1154, .unset, .unset, .unset, .unset, .unset, .unset] [(.ref f4), (.ref b1154), (.ref b1175), (.ref b1175)])) (fun τ κ => st1195 _ κ) ?_
    obtain ⟨rv1196, _, ⟨T1196, L1196, k1196, n1196⟩, -, X1196, ⟨Lc1196, hQ1196, l1196, y1196, z1196⟩, st1196⟩ := X1195.specialBack hx (y := (⟨"com/example/wanderpath/wanderpath/Grid", "<init>", "(Lcom/example/wanderpath/wanderpath/TileMap;Lcom/example/wanderpath/wanderpath/Moves;)V"⟩ : MethodName)) rfl hown1164 (mvT hZ1164 (w88_ hw)) (mvT hZ1164 (w89_ hw)) (mvT hZ1164 (w90_ hw)) (by decide) (backOfL (W := 1) (rm16_4 l Z a0 hw [] b1175 b1154 f4 e8 b985 la k985 vt x0 lb lk cs h1175 n0 Z1175 S_1178 hcs E_1183 F_1184 F_1185 V_1182 E_1181 F_1186 F_1187 F_1188 V_1176 HT S_1179 A1175 g_b1175 F_1189 F_1190 F_1191 F_1192 F_1193 (Ne.symm ne_b1154_b1175) (Ne.symm ne_b985_b1175) (Ne.symm ne_la_b1175) (Ne.symm ne_lb_b1175) hfe) hZ1164 (w90_ hw) (w84_ hw) (by decide) (by decide) hLt) (g := (mkF m 426 #[vI x0, vI x1, vI x2, vI x3, vI x4, vR b985, vR b1022, vI (0 : Int32), vI qi, vI qp, vI qx, vI qy, vI qc, vR b1154, .unset, .unset, .unset, .unset, .unset, .unset] [(.ref f4), (.ref b1154), (.ref b1175), (.ref b1175)])) rfl (by rw [hml]; rfl) (Steps.refl _) (a := b1175) (argsL := [(.ref b1154), (.ref f4)]) (rest := [(.ref b1175)]) (lenOf pd_11 rfl) rfl (by show 2 * 0 + _ ≤ _; exact Nat.le_of_eq rfl) (hb hby at_426) (fun _ _ => ⟨rfl, e1195, Nat.le_of_ble_eq_true rfl, Nat.le_of_ble_eq_true rfl⟩)
    dsimp only [Pt.U, Pt.locs, Pt.cells, Pt.slots] at X1196 l1196 y1196 z1196 st1196 hQ1196
    subst l1196 y1196 z1196
    have X1196 := X1196.more (cells' := 10) (slots' := 108) (by decide) (by decide)
    obtain ⟨rfl, N1196q, Kc1196, s1, s2, bk, k1, k2, kb, vs, Eg, FT, FR, FB, V1, V2, VB', I⟩ := hQ1196
    have V_1197 := V_1176.keep Kc1196 (ninS ne_b985_b1175 nin0)
    have V_1198 := V_1177.keep Kc1196 (ninS ne_b1022_b1175 nin0)
    have S_1199 := Sta.keepX S_1178 Kc1196 (allS (P := fun x => ∃ c : Cell, h1175[x]? = some c ∧ ∀ q, c.vm ≠ .statics q) A1175.cell all0)
    have S_1200 := Sta.keepX S_1179 Kc1196 (allS (P := fun x => ∃ c : Cell, h1175[x]? = some c ∧ ∀ q, c.vm ≠ .statics q) A1175.cell all0)
    have S_1201 := Sta.keepX S_1180 Kc1196 (allS (P := fun x => ∃ c : Cell, h1175[x]? = some c ∧ ∀ q, c.vm ≠ .statics q) A1175.cell all0)
    have E_1202 := E_1181.keep Kc1196
    have V_1203 := V_1182.keep Kc1196 (ninS ne_lb_b1175 nin0)
    have E_1204 := E_1183.keep Kc1196
    have F_1205 := F_1184.keep Kc1196 (ninS ne_la_b1175 nin0)
    have F_1206 := F_1185.keep Kc1196 (ninS ne_la_b1175 nin0)
    have F_1207 := F_1186.keep Kc1196 (ninS ne_b1154_b1175 nin0)
    have F_1208 := F_1187.keep Kc1196 (ninS ne_b1154_b1175 nin0)
    have F_1209 := F_1188.keep Kc1196 (ninS ne_b1154_b1175 nin0)
    have E_1210 := A1175.keep Kc1196
    have hk1196 := Nat.le_trans hk1175 Kc1196.1
    have N1196 := Fr.app N1164 N1196q
    have Z1196 : n0 ≤ T1196.heap.size := Nat.le_trans Z1175 Kc1196.1
    have K1196 : Keep h0 T1196.heap [] := K1175.trans Kc1196 (allS (Or.inr sz_b1175) all0)
    obtain ⟨Lw1196, X1196, N1196⟩ := own_locG X1196 N1196
    refine GlW.st (g' := (mkF m 429 #[vI x0, vI x1, vI x2, vI x3, vI x4, vR b985, vR b1022, vI (0 : Int32), vI qi, vI qp, vI qx, vI qy, vI qc, vR b1154, .unset, .unset, .unset, .unset, .unset, .unset] [(.ref b1175)])) (fun τ κ => st1196.trans κ) ?_
    refine GlW.st (g' := (mkF m 433 #[vI x0, vI x1, vI x2, vI x3, vI x4, vR b985, vR b1022, vI (0 : Int32), vI qi, vI qp, vI qx, vI qy, vI qc, vR b1154, vR b1175, .unset, .unset, .unset, .unset, .unset] [(.ref b1175)])) (fun τ κ => XS.astore X1196.here hx rfl (hb hby at_429) rfl rfl (l' := #[vI x0, vI x1, vI x2, vI x3, vI x4, vR b985, vR b1022, vI (0 : Int32), vI qi, vI qp, vI qx, vI qy, vI qc, vR b1154, vR b1175, .unset, .unset, .unset, .unset, .unset]) rfl (XS.aload X1196.here hx rfl (hb hby at_431) rfl rfl κ)) ?_
    refine GlW.st (g' := (mkF m 437 #[vI x0, vI x1, vI x2, vI x3, vI x4, vR b985, vR b1022, vI (0 : Int32), vI qi, vI qp, vI qx, vI qy, vI qc, vR b1154, vR b1175, .unset, .unset, .unset, .unset, .unset] [(.int qc), (.ref b1022), (.ref b1175)])) (fun τ κ => XS.aload X1196.here hx rfl (hb hby at_433) rfl rfl (XS.iload X1196.here hx rfl (hb hby at_435) rfl κ)) ?_
    refine GlW.st (g' := (mkF m 439 #[vI x0, vI x1, vI x2, vI x3, vI x4, vR b985, vR b1022, vI (0 : Int32), vI qi, vI qp, vI qx, vI qy, vI qc, vR b1154, vR b1175, .unset, .unset, .unset, .unset, .unset] [(.int qi), (.int qc), (.ref b1022), (.ref b1175)])) (fun τ κ => XS.iload X1196.here hx rfl (hb hby at_437) rfl κ) ?_
    obtain ⟨cq1216, kq1216, q1216a, q1216b, q1216c⟩ := isOf hZ1164 rfl Eg
    obtain ⟨rv1216, _, ⟨T1216, L1216, k1216, n1216⟩, -, X1216, ⟨Lc1216, hQ1216, l1216, y1216, z1216⟩, st1216⟩ := X1196.virtualBack hx (y := (⟨"com/example/wanderpath/wanderpath/Grid", "canStep", "([ZII)Z"⟩ : MethodName)) (z := (⟨"com/example/wanderpath/wanderpath/Grid", "canStep", "([ZII)Z"⟩ : MethodName)) hown1164 (mvT hZ1164 (w137_ hw)) (mvT hZ1164 (w138_ hw)) (notFace_of_selects (args := #[]) (mvT hZ1164 (w140_ hw))) (mvT hZ1164 (w140_ hw)) (mvT hZ1164 (w139_ hw)) (by decide) (backOf (W := 0) (rm24 l Z a0 hw [] b1175 b1022 qc qi s1 s2 bk k1 k2 kb k1022 (4 : Int32) (4 : Int32) x0 x1 [(.int (-5 : Int32)), (.int (-1 : Int32)), (.int (1 : Int32)), (.int (5 : Int32))] [(.int (0 : Int32)), (.int (-1 : Int32)), (.int (1 : Int32)), (.int (0 : Int32))] vs vb T1196.heap n0 Z1196 FT FR FB V1 V2 VB' V_1198 I HB (own_i4 hi4) (own_s4 hi4) (fun q => absurd (own_i4 hi4).2 q) (fun q => absurd (own_i4 hi4).2 q) TB.1 TB.2.1 TB.2.2.1) hZ1164 (w141_ hw) (w84_ hw) (by decide) (by decide)) q1216a q1216c (g := (mkF m 439 #[vI x0, vI x1, vI x2, vI x3, vI x4, vR b985, vR b1022, vI (0 : Int32), vI qi, vI qp, vI qx, vI qy, vI qc, vR b1154, vR b1175, .unset, .unset, .unset, .unset, .unset] [(.int qi), (.int qc), (.ref b1022), (.ref b1175)])) rfl (by rw [hml]; rfl) (Steps.refl _) (argsL := [(.ref b1022), (.int qc), (.int qi)]) (rest := []) (lenOf pd_12 rfl) rfl (by show 2 * 0 + _ ≤ _; exact Nat.le_of_eq rfl) (hb hby at_439) (fun _ _ => ⟨rfl, rfl, Nat.le_of_ble_eq_true rfl, Nat.le_of_ble_eq_true rfl⟩)
    dsimp only [Pt.U, Pt.locs, Pt.cells, Pt.slots] at X1216 l1216 y1216 z1216 st1216 hQ1216
    subst l1216 y1216 z1216
    have X1216 := X1216.more (cells' := 10) (slots' := 108) (by decide) (by decide)
    obtain ⟨hq1216, N1216q, e1216⟩ := hQ1216
    have hq1216 : rv1216 = some (.int (own_cs x1 x0 qc qi)) := hq1216
    subst hq1216
    have N1216 := Fr.app N1196 N1216q
    obtain ⟨Lw1216, X1216, N1216⟩ := own_locG X1216 N1216
    refine GlW.st (g' := (mkF m 442 #[vI x0, vI x1, vI x2, vI x3, vI x4, vR b985, vR b1022, vI (0 : Int32), vI qi, vI qp, vI qx, vI qy, vI qc, vR b1154, vR b1175, .unset, .unset, .unset, .unset, .unset] [(.int (own_cs x1 x0 qc qi))])) (fun τ κ => st1216.trans κ) ?_
    refine GlW.st (g' := (mkF m 446 #[vI x0, vI x1, vI x2, vI x3, vI x4, vR b985, vR b1022, vI (0 : Int32), vI qi, vI qp, vI qx, vI qy, vI qc, vR b1154, vR b1175, vI (own_cs x1 x0 qc qi), .unset, .unset, .unset, .unset] [(.int qx)])) (fun τ κ => XS.istore X1216.here hx rfl (hb hby at_442) rfl (l' := #[vI x0, vI x1, vI x2, vI x3, vI x4, vR b985, vR b1022, vI (0 : Int32), vI qi, vI qp, vI qx, vI qy, vI qc, vR b1154, vR b1175, vI (own_cs x1 x0 qc qi), .unset, .unset, .unset, .unset]) rfl (XS.iload X1216.here hx rfl (hb hby at_444) rfl κ)) ?_
    refine GlW.st (g' := (mkF m 448 #[vI x0, vI x1, vI x2, vI x3, vI x4, vR b985, vR b1022, vI (0 : Int32), vI qi, vI qp, vI qx, vI qy, vI qc, vR b1154, vR b1175, vI (own_cs x1 x0 qc qi), .unset, .unset, .unset, .unset] [(.int qi), (.int qx)])) (fun τ κ => XS.iload X1216.here hx rfl (hb hby at_446) rfl κ) ?_
    obtain ⟨rv1217, _, ⟨T1217, L1217, k1217, n1217⟩, -, X1217, ⟨Lc1217, hQ1217, l1217, y1217, z1217⟩, st1217⟩ := Jvm.LawKit.callS X1216 hx (y := (⟨"com/example/wanderpath/wanderpath/GridCanStepPinLaw", "dx", "(I)I"⟩ : MethodName)) hown1164 (mvT hZ1164 (w142_ hw)) (mvT hZ1164 (w143_ hw)) (mvT hZ1164 (w3_ hw)) (mvT hZ1164 (w144_ hw)) (by decide) (backOf (W := 1) (rm25 l Z a0 hw [] qi T1196.heap n0 Z1196 ) hZ1164 (w144_ hw) (w3_ hw) (by decide) (by decide)) (g := (mkF m 448 #[vI x0, vI x1, vI x2, vI x3, vI x4, vR b985, vR b1022, vI (0 : Int32), vI qi, vI qp, vI qx, vI qy, vI qc, vR b1154, vR b1175, vI (own_cs x1 x0 qc qi), .unset, .unset, .unset, .unset] [(.int qi), (.int qx)])) rfl (by rw [hml]; rfl) (argsL := [(.int qi)]) (rest := [(.int qx)]) (lenOf pd_6 rfl) rfl (by show 2 * 0 + _ ≤ _; exact Nat.le_of_eq rfl) (hb hby at_448) (fun _ _ => ⟨rfl, e1216, Nat.le_of_ble_eq_true rfl, Nat.le_of_ble_eq_true rfl⟩)
    dsimp only [Pt.U, Pt.locs, Pt.cells, Pt.slots] at X1217 l1217 y1217 z1217 st1217 hQ1217
    subst l1217 y1217 z1217
    have X1217 := X1217.more (cells' := 10) (slots' := 108) (by decide) (by decide)
    obtain ⟨hq1217, N1217q, e1217⟩ := hQ1217
    have hq1217 : rv1217 = some (.int (own_dx qi)) := hq1217
    subst hq1217
    have N1217 := Fr.app N1216 N1217q
    obtain ⟨Lw1217, X1217, N1217⟩ := own_locG X1217 N1217
    refine GlW.st (g' := (mkF m 451 #[vI x0, vI x1, vI x2, vI x3, vI x4, vR b985, vR b1022, vI (0 : Int32), vI qi, vI qp, vI qx, vI qy, vI qc, vR b1154, vR b1175, vI (own_cs x1 x0 qc qi), .unset, .unset, .unset, .unset] [(.int (own_dx qi)), (.int qx)])) (fun τ κ => st1217 _ κ) ?_
    refine GlW.st (g' := (mkF m 454 #[vI x0, vI x1, vI x2, vI x3, vI x4, vR b985, vR b1022, vI (0 : Int32), vI qi, vI qp, vI qx, vI qy, vI qc, vR b1154, vR b1175, vI (own_cs x1 x0 qc qi), vI (qx + (own_dx qi)), .unset, .unset, .unset] [])) (fun τ κ => XS.iadd X1217.here hx rfl (hb hby at_451) rfl (XS.istore X1217.here hx rfl (hb hby at_452) rfl (l' := #[vI x0, vI x1, vI x2, vI x3, vI x4, vR b985, vR b1022, vI (0 : Int32), vI qi, vI qp, vI qx, vI qy, vI qc, vR b1154, vR b1175, vI (own_cs x1 x0 qc qi), vI (qx + (own_dx qi)), .unset, .unset, .unset]) rfl κ)) ?_
    refine GlW.st (g' := (mkF m 458 #[vI x0, vI x1, vI x2, vI x3, vI x4, vR b985, vR b1022, vI (0 : Int32), vI qi, vI qp, vI qx, vI qy, vI qc, vR b1154, vR b1175, vI (own_cs x1 x0 qc qi), vI (qx + (own_dx qi)), .unset, .unset, .unset] [(.int qi), (.int qy)])) (fun τ κ => XS.iload X1217.here hx rfl (hb hby at_454) rfl (XS.iload X1217.here hx rfl (hb hby at_456) rfl κ)) ?_
    obtain ⟨rv1218, _, ⟨T1218, L1218, k1218, n1218⟩, -, X1218, ⟨Lc1218, hQ1218, l1218, y1218, z1218⟩, st1218⟩ := Jvm.LawKit.callS X1217 hx (y := (⟨"com/example/wanderpath/wanderpath/GridCanStepPinLaw", "dy", "(I)I"⟩ : MethodName)) hown1164 (mvT hZ1164 (w145_ hw)) (mvT hZ1164 (w146_ hw)) (mvT hZ1164 (w3_ hw)) (mvT hZ1164 (w147_ hw)) (by decide) (backOf (W := 1) (rm26 l Z a0 hw [] qi T1196.heap n0 Z1196 ) hZ1164 (w147_ hw) (w3_ hw) (by decide) (by decide)) (g := (mkF m 458 #[vI x0, vI x1, vI x2, vI x3, vI x4, vR b985, vR b1022, vI (0 : Int32), vI qi, vI qp, vI qx, vI qy, vI qc, vR b1154, vR b1175, vI (own_cs x1 x0 qc qi), vI (qx + (own_dx qi)), .unset, .unset, .unset] [(.int qi), (.int qy)])) rfl (by rw [hml]; rfl) (argsL := [(.int qi)]) (rest := [(.int qy)]) (lenOf pd_6 rfl) rfl (by show 2 * 0 + _ ≤ _; exact Nat.le_of_eq rfl) (hb hby at_458) (fun _ _ => ⟨rfl, e1217, Nat.le_of_ble_eq_true rfl, Nat.le_of_ble_eq_true rfl⟩)
    dsimp only [Pt.U, Pt.locs, Pt.cells, Pt.slots] at X1218 l1218 y1218 z1218 st1218 hQ1218
    subst l1218 y1218 z1218
    have X1218 := X1218.more (cells' := 10) (slots' := 108) (by decide) (by decide)
    obtain ⟨hq1218, N1218q, e1218⟩ := hQ1218
    have hq1218 : rv1218 = some (.int (own_dy qi)) := hq1218
    subst hq1218
    have N1218 := Fr.app N1217 N1218q
    obtain ⟨Lw1218, X1218, N1218⟩ := own_locG X1218 N1218
    refine GlW.st (g' := (mkF m 461 #[vI x0, vI x1, vI x2, vI x3, vI x4, vR b985, vR b1022, vI (0 : Int32), vI qi, vI qp, vI qx, vI qy, vI qc, vR b1154, vR b1175, vI (own_cs x1 x0 qc qi), vI (qx + (own_dx qi)), .unset, .unset, .unset] [(.int (own_dy qi)), (.int qy)])) (fun τ κ => st1218 _ κ) ?_
    refine GlW.st (g' := (mkF m 464 #[vI x0, vI x1, vI x2, vI x3, vI x4, vR b985, vR b1022, vI (0 : Int32), vI qi, vI qp, vI qx, vI qy, vI qc, vR b1154, vR b1175, vI (own_cs x1 x0 qc qi), vI (qx + (own_dx qi)), vI (qy + (own_dy qi)), .unset, .unset] [])) (fun τ κ => XS.iadd X1218.here hx rfl (hb hby at_461) rfl (XS.istore X1218.here hx rfl (hb hby at_462) rfl (l' := #[vI x0, vI x1, vI x2, vI x3, vI x4, vR b985, vR b1022, vI (0 : Int32), vI qi, vI qp, vI qx, vI qy, vI qc, vR b1154, vR b1175, vI (own_cs x1 x0 qc qi), vI (qx + (own_dx qi)), vI (qy + (own_dy qi)), .unset, .unset]) rfl κ)) ?_
    refine GlW.st (g' := (mkF m 467 #[vI x0, vI x1, vI x2, vI x3, vI x4, vR b985, vR b1022, vI (0 : Int32), vI qi, vI qp, vI qx, vI qy, vI qc, vR b1154, vR b1175, vI (own_cs x1 x0 qc qi), vI (qx + (own_dx qi)), vI (qy + (own_dy qi)), .unset, .unset] [(.int (1 : Int32)), (.int (qy + (own_dy qi)))])) (fun τ κ => XS.iload X1218.here hx rfl (hb hby at_464) rfl (XS.iconst X1218.here hx rfl (hb hby at_466) κ)) ?_
    refine GlW.st (g' := (mkF m 469 #[vI x0, vI x1, vI x2, vI x3, vI x4, vR b985, vR b1022, vI (0 : Int32), vI qi, vI qp, vI qx, vI qy, vI qc, vR b1154, vR b1175, vI (own_cs x1 x0 qc qi), vI (qx + (own_dx qi)), vI (qy + (own_dy qi)), .unset, .unset] [(.int (5 : Int32)), (.int ((qy + (own_dy qi)) + (1 : Int32)))])) (fun τ κ => XS.iadd X1218.here hx rfl (hb hby at_467) rfl (XS.iconst X1218.here hx rfl (hb hby at_468) κ)) ?_
    refine GlW.st (g' := (mkF m 472 #[vI x0, vI x1, vI x2, vI x3, vI x4, vR b985, vR b1022, vI (0 : Int32), vI qi, vI qp, vI qx, vI qy, vI qc, vR b1154, vR b1175, vI (own_cs x1 x0 qc qi), vI (qx + (own_dx qi)), vI (qy + (own_dy qi)), .unset, .unset] [(.int (qx + (own_dx qi))), (.int (((qy + (own_dy qi)) + (1 : Int32)) * (5 : Int32)))])) (fun τ κ => XS.imul X1218.here hx rfl (hb hby at_469) rfl (XS.iload X1218.here hx rfl (hb hby at_470) rfl κ)) ?_
    refine GlW.st (g' := (mkF m 474 #[vI x0, vI x1, vI x2, vI x3, vI x4, vR b985, vR b1022, vI (0 : Int32), vI qi, vI qp, vI qx, vI qy, vI qc, vR b1154, vR b1175, vI (own_cs x1 x0 qc qi), vI (qx + (own_dx qi)), vI (qy + (own_dy qi)), .unset, .unset] [(.int (1 : Int32)), (.int ((((qy + (own_dy qi)) + (1 : Int32)) * (5 : Int32)) + (qx + (own_dx qi))))])) (fun τ κ => XS.iadd X1218.here hx rfl (hb hby at_472) rfl (XS.iconst X1218.here hx rfl (hb hby at_473) κ)) ?_
    refine GlW.st (g' := (mkF m 477 #[vI x0, vI x1, vI x2, vI x3, vI x4, vR b985, vR b1022, vI (0 : Int32), vI qi, vI qp, vI qx, vI qy, vI qc, vR b1154, vR b1175, vI (own_cs x1 x0 qc qi), vI (qx + (own_dx qi)), vI (qy + (own_dy qi)), vI (((((qy + (own_dy qi)) + (1 : Int32)) * (5 : Int32)) + (qx + (own_dx qi))) + (1 : Int32)), .unset] [])) (fun τ κ => XS.iadd X1218.here hx rfl (hb hby at_474) rfl (XS.istore X1218.here hx rfl (hb hby at_475) rfl (l' := #[vI x0, vI x1, vI x2, vI x3, vI x4, vR b985, vR b1022, vI (0 : Int32), vI qi, vI qp, vI qx, vI qy, vI qc, vR b1154, vR b1175, vI (own_cs x1 x0 qc qi), vI (qx + (own_dx qi)), vI (qy + (own_dy qi)), vI (((((qy + (own_dy qi)) + (1 : Int32)) * (5 : Int32)) + (qx + (own_dx qi))) + (1 : Int32)), .unset]) rfl κ)) ?_
    refine GlW.st (g' := (mkF m 481 #[vI x0, vI x1, vI x2, vI x3, vI x4, vR b985, vR b1022, vI (0 : Int32), vI qi, vI qp, vI qx, vI qy, vI qc, vR b1154, vR b1175, vI (own_cs x1 x0 qc qi), vI (qx + (own_dx qi)), vI (qy + (own_dy qi)), vI (((((qy + (own_dy qi)) + (1 : Int32)) * (5 : Int32)) + (qx + (own_dx qi))) + (1 : Int32)), .unset] [(.int (((((qy + (own_dy qi)) + (1 : Int32)) * (5 : Int32)) + (qx + (own_dx qi))) + (1 : Int32))), (.ref b1022)])) (fun τ κ => XS.aload X1218.here hx rfl (hb hby at_477) rfl rfl (XS.iload X1218.here hx rfl (hb hby at_479) rfl κ)) ?_
    obtain ⟨cl_o1219, Ar_o1219, q_o1219, S_o1219, M_o1219, H_o1219, G_o1219⟩ := id V_1198
    have hin_o1219 : ¬ ((((((qy + (own_dy qi)) + (1 : Int32)) * (5 : Int32)) + (qx + (own_dx qi))) + (1 : Int32)) < 0 ∨ cl_o1219.slots.size ≤ ((((((qy + (own_dy qi)) + (1 : Int32)) * (5 : Int32)) + (qx + (own_dx qi))) + (1 : Int32))).toNatClampNeg) := inb_of S_o1219 TB.2.2.2.1
    refine GlW.st (g' := (mkF m 482 #[vI x0, vI x1, vI x2, vI x3, vI x4, vR b985, vR b1022, vI (0 : Int32), vI qi, vI qp, vI qx, vI qy, vI qc, vR b1154, vR b1175, vI (own_cs x1 x0 qc qi), vI (qx + (own_dx qi)), vI (qy + (own_dy qi)), vI (((((qy + (own_dy qi)) + (1 : Int32)) * (5 : Int32)) + (qx + (own_dx qi))) + (1 : Int32)), .unset] [(.int (own_bit x1 (qc + (own_st qi))))])) (fun τ κ => X1218.baloadBooleans hx (j := (((((qy + (own_dy qi)) + (1 : Int32)) * (5 : Int32)) + (qx + (own_dx qi))) + (1 : Int32))) (v := (.int (own_bit x1 (qc + (own_st qi))))) (by rw [e1218]; exact Ar_o1219.1) (State.isArrayOf_alike hZ1164.alike Ar_o1219.2.1) Ar_o1219.2.2 hin_o1219 ((H_o1219 _ (Nat.lt_of_not_le fun q => hin_o1219 (Or.inr q))).trans (congrArg some ((HB _ TB.2.2.2.1.1 TB.2.2.2.1.2).trans (congrArg (fun z => Value.int (own_bit x1 z)) TB.2.2.2.2.1)))) (g := (mkF m 481 #[vI x0, vI x1, vI x2, vI x3, vI x4, vR b985, vR b1022, vI (0 : Int32), vI qi, vI qp, vI qx, vI qy, vI qc, vR b1154, vR b1175, vI (own_cs x1 x0 qc qi), vI (qx + (own_dx qi)), vI (qy + (own_dy qi)), vI (((((qy + (own_dy qi)) + (1 : Int32)) * (5 : Int32)) + (qx + (own_dx qi))) + (1 : Int32)), .unset] [(.int (((((qy + (own_dy qi)) + (1 : Int32)) * (5 : Int32)) + (qx + (own_dx qi))) + (1 : Int32))), (.ref b1022)])) rfl rfl (hb hby at_481) _ κ) ?_
    by_cases hc1220 : (own_bit x1 (qc + (own_st qi))) = (0 : Int32)
    · -- pc 482: (own_bit x1 (qc + (own_st qi))) = (0 : Int32)
      refine GlW.st (g' := (mkF m 493 #[vI x0, vI x1, vI x2, vI x3, vI x4, vR b985, vR b1022, vI (0 : Int32), vI qi, vI qp, vI qx, vI qy, vI qc, vR b1154, vR b1175, vI (own_cs x1 x0 qc qi), vI (qx + (own_dx qi)), vI (qy + (own_dy qi)), vI (((((qy + (own_dy qi)) + (1 : Int32)) * (5 : Int32)) + (qx + (own_dx qi))) + (1 : Int32)), .unset] [(.int qi)])) (fun τ κ => XS.ifYes X1218.here hx rfl (pc0 := 482) (pc' := 491) rfl (hb hby at_482) rfl ((if0 _ _).trans (teq hc1220).1) (by decide) (by decide) (XS.iload X1218.here hx rfl (hb hby at_491) rfl κ)) ?_
      refine GlW.st (g' := (mkF m 494 #[vI x0, vI x1, vI x2, vI x3, vI x4, vR b985, vR b1022, vI (0 : Int32), vI qi, vI qp, vI qx, vI qy, vI qc, vR b1154, vR b1175, vI (own_cs x1 x0 qc qi), vI (qx + (own_dx qi)), vI (qy + (own_dy qi)), vI (((((qy + (own_dy qi)) + (1 : Int32)) * (5 : Int32)) + (qx + (own_dx qi))) + (1 : Int32)), .unset] [(.int (4 : Int32)), (.int qi)])) (fun τ κ => XS.iconst X1218.here hx rfl (hb hby at_493) κ) ?_
      have hc1221 : qi < (4 : Int32) := (own_i4 hi4).2
      refine GlW.st (g' := (mkF m 498 #[vI x0, vI x1, vI x2, vI x3, vI x4, vR b985, vR b1022, vI (0 : Int32), vI qi, vI qp, vI qx, vI qy, vI qc, vR b1154, vR b1175, vI (own_cs x1 x0 qc qi), vI (qx + (own_dx qi)), vI (qy + (own_dy qi)), vI (((((qy + (own_dy qi)) + (1 : Int32)) * (5 : Int32)) + (qx + (own_dx qi))) + (1 : Int32)), .unset] [(.int (1 : Int32))])) (fun τ κ => XS.icmpNo X1218.here hx rfl (hb hby at_494) rfl (tlt hc1221).2.1 (XS.iconst X1218.here hx rfl (hb hby at_497) κ)) ?_
      refine GlW.st (g' := (mkF m 532 #[vI x0, vI x1, vI x2, vI x3, vI x4, vR b985, vR b1022, vI (0 : Int32), vI qi, vI qp, vI qx, vI qy, vI qc, vR b1154, vR b1175, vI (own_cs x1 x0 qc qi), vI (qx + (own_dx qi)), vI (qy + (own_dy qi)), vI (((((qy + (own_dy qi)) + (1 : Int32)) * (5 : Int32)) + (qx + (own_dx qi))) + (1 : Int32)), vI (1 : Int32)] [])) (fun τ κ => XS.istore X1218.here hx rfl (hb hby at_498) rfl (l' := #[vI x0, vI x1, vI x2, vI x3, vI x4, vR b985, vR b1022, vI (0 : Int32), vI qi, vI qp, vI qx, vI qy, vI qc, vR b1154, vR b1175, vI (own_cs x1 x0 qc qi), vI (qx + (own_dx qi)), vI (qy + (own_dy qi)), vI (((((qy + (own_dy qi)) + (1 : Int32)) * (5 : Int32)) + (qx + (own_dx qi))) + (1 : Int32)), vI (1 : Int32)]) rfl (XS.goto X1218.here hx rfl (pc0 := 500) (pc' := 532) rfl (hb hby at_500) (by decide) (by decide) κ)) ?_
      refine GlW.st (g' := (mkF m 536 #[vI x0, vI x1, vI x2, vI x3, vI x4, vR b985, vR b1022, vI (0 : Int32), vI qi, vI qp, vI qx, vI qy, vI qc, vR b1154, vR b1175, vI (own_cs x1 x0 qc qi), vI (qx + (own_dx qi)), vI (qy + (own_dy qi)), vI (((((qy + (own_dy qi)) + (1 : Int32)) * (5 : Int32)) + (qx + (own_dx qi))) + (1 : Int32)), vI (1 : Int32)] [(.int (1 : Int32)), (.int (own_cs x1 x0 qc qi))])) (fun τ κ => XS.iload X1218.here hx rfl (hb hby at_532) rfl (XS.iload X1218.here hx rfl (hb hby at_534) rfl κ)) ?_
      have hc1222 : (own_cs x1 x0 qc qi) = (1 : Int32) := by simp only [own_cs, L1, L2, hc1220, (own_i4 hi4).2, own_10, own_00, if_true, if_false]
      refine GlW.st (g' := (mkF m 540 #[vI x0, vI x1, vI x2, vI x3, vI x4, vR b985, vR b1022, vI (0 : Int32), vI qi, vI qp, vI qx, vI qy, vI qc, vR b1154, vR b1175, vI (own_cs x1 x0 qc qi), vI (qx + (own_dx qi)), vI (qy + (own_dy qi)), vI (((((qy + (own_dy qi)) + (1 : Int32)) * (5 : Int32)) + (qx + (own_dx qi))) + (1 : Int32)), vI (1 : Int32)] [(.int (1 : Int32))])) (fun τ κ => XS.icmpNo X1218.here hx rfl (hb hby at_536) rfl (teq hc1222).2 (XS.iconst X1218.here hx rfl (hb hby at_539) κ)) ?_
      refine GlW.st (g' := (mkF m 544 #[vI x0, vI x1, vI x2, vI x3, vI x4, vR b985, vR b1022, vI (0 : Int32), vI qi, vI qp, vI qx, vI qy, vI qc, vR b1154, vR b1175, vI (own_cs x1 x0 qc qi), vI (qx + (own_dx qi)), vI (qy + (own_dy qi)), vI (((((qy + (own_dy qi)) + (1 : Int32)) * (5 : Int32)) + (qx + (own_dx qi))) + (1 : Int32)), vI (1 : Int32)] [(.int (1 : Int32))])) (fun τ κ => XS.goto X1218.here hx rfl (pc0 := 540) (pc' := 544) rfl (hb hby at_540) (by decide) (by decide) κ) ?_
      exact GlW.ret hS1164 hk1196 (v := some (.int (1 : Int32))) X1218 Bd.notSynchronized (fun h => by rw [Bd.returns] at h; cases h) e1218 (fun fs hr => retN X1218 hx (t := .boolean) Bd.returns (by simp) (hb hby at_544) hr) (by decide) (by decide) ⟨rfl, N1218⟩
    · -- pc 482: not (own_bit x1 (qc + (own_st qi))) = (0 : Int32)
      refine GlW.st (g' := (mkF m 486 #[vI x0, vI x1, vI x2, vI x3, vI x4, vR b985, vR b1022, vI (0 : Int32), vI qi, vI qp, vI qx, vI qy, vI qc, vR b1154, vR b1175, vI (own_cs x1 x0 qc qi), vI (qx + (own_dx qi)), vI (qy + (own_dy qi)), vI (((((qy + (own_dy qi)) + (1 : Int32)) * (5 : Int32)) + (qx + (own_dx qi))) + (1 : Int32)), .unset] [(.int (0 : Int32))])) (fun τ κ => XS.ifNo X1218.here hx rfl (hb hby at_482) rfl ((if0 _ _).trans (feq hc1220).1) (XS.iconst X1218.here hx rfl (hb hby at_485) κ)) ?_
      refine GlW.st (g' := (mkF m 532 #[vI x0, vI x1, vI x2, vI x3, vI x4, vR b985, vR b1022, vI (0 : Int32), vI qi, vI qp, vI qx, vI qy, vI qc, vR b1154, vR b1175, vI (own_cs x1 x0 qc qi), vI (qx + (own_dx qi)), vI (qy + (own_dy qi)), vI (((((qy + (own_dy qi)) + (1 : Int32)) * (5 : Int32)) + (qx + (own_dx qi))) + (1 : Int32)), vI (0 : Int32)] [])) (fun τ κ => XS.istore X1218.here hx rfl (hb hby at_486) rfl (l' := #[vI x0, vI x1, vI x2, vI x3, vI x4, vR b985, vR b1022, vI (0 : Int32), vI qi, vI qp, vI qx, vI qy, vI qc, vR b1154, vR b1175, vI (own_cs x1 x0 qc qi), vI (qx + (own_dx qi)), vI (qy + (own_dy qi)), vI (((((qy + (own_dy qi)) + (1 : Int32)) * (5 : Int32)) + (qx + (own_dx qi))) + (1 : Int32)), vI (0 : Int32)]) rfl (XS.goto X1218.here hx rfl (pc0 := 488) (pc' := 532) rfl (hb hby at_488) (by decide) (by decide) κ)) ?_
      refine GlW.st (g' := (mkF m 536 #[vI x0, vI x1, vI x2, vI x3, vI x4, vR b985, vR b1022, vI (0 : Int32), vI qi, vI qp, vI qx, vI qy, vI qc, vR b1154, vR b1175, vI (own_cs x1 x0 qc qi), vI (qx + (own_dx qi)), vI (qy + (own_dy qi)), vI (((((qy + (own_dy qi)) + (1 : Int32)) * (5 : Int32)) + (qx + (own_dx qi))) + (1 : Int32)), vI (0 : Int32)] [(.int (0 : Int32)), (.int (own_cs x1 x0 qc qi))])) (fun τ κ => XS.iload X1218.here hx rfl (hb hby at_532) rfl (XS.iload X1218.here hx rfl (hb hby at_534) rfl κ)) ?_
      have hc1223 : (own_cs x1 x0 qc qi) = (0 : Int32) := by simp only [own_cs, L1, L2, hc1220, (own_i4 hi4).2, own_10, own_00, if_true, if_false]
      refine GlW.st (g' := (mkF m 540 #[vI x0, vI x1, vI x2, vI x3, vI x4, vR b985, vR b1022, vI (0 : Int32), vI qi, vI qp, vI qx, vI qy, vI qc, vR b1154, vR b1175, vI (own_cs x1 x0 qc qi), vI (qx + (own_dx qi)), vI (qy + (own_dy qi)), vI (((((qy + (own_dy qi)) + (1 : Int32)) * (5 : Int32)) + (qx + (own_dx qi))) + (1 : Int32)), vI (0 : Int32)] [(.int (1 : Int32))])) (fun τ κ => XS.icmpNo X1218.here hx rfl (hb hby at_536) rfl (teq hc1223).2 (XS.iconst X1218.here hx rfl (hb hby at_539) κ)) ?_
      refine GlW.st (g' := (mkF m 544 #[vI x0, vI x1, vI x2, vI x3, vI x4, vR b985, vR b1022, vI (0 : Int32), vI qi, vI qp, vI qx, vI qy, vI qc, vR b1154, vR b1175, vI (own_cs x1 x0 qc qi), vI (qx + (own_dx qi)), vI (qy + (own_dy qi)), vI (((((qy + (own_dy qi)) + (1 : Int32)) * (5 : Int32)) + (qx + (own_dx qi))) + (1 : Int32)), vI (0 : Int32)] [(.int (1 : Int32))])) (fun τ κ => XS.goto X1218.here hx rfl (pc0 := 540) (pc' := 544) rfl (hb hby at_540) (by decide) (by decide) κ) ?_
      exact GlW.ret hS1164 hk1196 (v := some (.int (1 : Int32))) X1218 Bd.notSynchronized (fun h => by rw [Bd.returns] at h; cases h) e1218 (fun fs hr => retN X1218 hx (t := .boolean) Bd.returns (by simp) (hb hby at_544) hr) (by decide) (by decide) ⟨rfl, N1218⟩
  · -- pc 332: not (x4 &&& (1 : Int32)) = (0 : Int32)
    refine GlW.st (g' := (mkF m 336 #[vI x0, vI x1, vI x2, vI x3, vI x4, vR b985, vR b1022, .unset, .unset, .unset, .unset, .unset, .unset, .unset, .unset, .unset, .unset, .unset, .unset, .unset] [(.int (1 : Int32))])) (fun τ κ => XS.ifNo X1146.here hx rfl (hb hby at_332) rfl ((if0 _ _).trans (feq hc1149).1) (XS.iconst X1146.here hx rfl (hb hby at_335) κ)) ?_
    refine GlW.st (g' := (mkF m 342 #[vI x0, vI x1, vI x2, vI x3, vI x4, vR b985, vR b1022, vI (1 : Int32), .unset, .unset, .unset, .unset, .unset, .unset, .unset, .unset, .unset, .unset, .unset, .unset] [])) (fun τ κ => XS.goto X1146.here hx rfl (pc0 := 336) (pc' := 340) rfl (hb hby at_336) (by decide) (by decide) (XS.istore X1146.here hx rfl (hb hby at_340) rfl (l' := #[vI x0, vI x1, vI x2, vI x3, vI x4, vR b985, vR b1022, vI (1 : Int32), .unset, .unset, .unset, .unset, .unset, .unset, .unset, .unset, .unset, .unset, .unset, .unset]) rfl κ)) ?_
    refine GlW.st (g' := (mkF m 344 #[vI x0, vI x1, vI x2, vI x3, vI x4, vR b985, vR b1022, vI (1 : Int32), .unset, .unset, .unset, .unset, .unset, .unset, .unset, .unset, .unset, .unset, .unset, .unset] [(.int (1 : Int32))])) (fun τ κ => XS.iload X1146.here hx rfl (hb hby at_342) rfl κ) ?_
    have hc1224 : ¬ ((1 : Int32) = (0 : Int32)) := by decide
    refine GlW.st (g' := (mkF m 348 #[vI x0, vI x1, vI x2, vI x3, vI x4, vR b985, vR b1022, vI (1 : Int32), .unset, .unset, .unset, .unset, .unset, .unset, .unset, .unset, .unset, .unset, .unset, .unset] [(.int x3)])) (fun τ κ => XS.ifNo X1146.here hx rfl (hb hby at_344) rfl ((if0 _ _).trans (feq hc1224).1) (XS.iloadN X1146.here hx rfl (hb hby at_347) rfl κ)) ?_
    refine GlW.st (g' := (mkF m 351 #[vI x0, vI x1, vI x2, vI x3, vI x4, vR b985, vR b1022, vI (1 : Int32), .unset, .unset, .unset, .unset, .unset, .unset, .unset, .unset, .unset, .unset, .unset, .unset] [(.int (x3 &&& (7 : Int32)))])) (fun τ κ => XS.bipush X1146.here hx rfl (hb hby at_348) (XS.iand X1146.here hx rfl (hb hby at_350) rfl κ)) ?_
    refine GlW.st (g' := (mkF m 359 #[vI x0, vI x1, vI x2, vI x3, vI x4, vR b985, vR b1022, vI (1 : Int32), vI (x3 &&& (7 : Int32)), .unset, .unset, .unset, .unset, .unset, .unset, .unset, .unset, .unset, .unset, .unset] [])) (fun τ κ => XS.goto X1146.here hx rfl (pc0 := 351) (pc' := 357) rfl (hb hby at_351) (by decide) (by decide) (XS.istore X1146.here hx rfl (hb hby at_357) rfl (l' := #[vI x0, vI x1, vI x2, vI x3, vI x4, vR b985, vR b1022, vI (1 : Int32), vI (x3 &&& (7 : Int32)), .unset, .unset, .unset, .unset, .unset, .unset, .unset, .unset, .unset, .unset, .unset]) rfl κ)) ?_
    have hi := own_m7 x3
    generalize (x3 &&& (7 : Int32)) = qi at hi ⊢
    refine GlW.st (g' := (mkF m 360 #[vI x0, vI x1, vI x2, vI x3, vI x4, vR b985, vR b1022, vI (1 : Int32), vI qi, .unset, .unset, .unset, .unset, .unset, .unset, .unset, .unset, .unset, .unset, .unset] [(.int x2)])) (fun τ κ => XS.iloadN X1146.here hx rfl (hb hby at_359) rfl κ) ?_
    refine GlW.st (g' := (mkF m 362 #[vI x0, vI x1, vI x2, vI x3, vI x4, vR b985, vR b1022, vI (1 : Int32), vI qi, .unset, .unset, .unset, .unset, .unset, .unset, .unset, .unset, .unset, .unset, .unset] [(.int (2147483647 : Int32)), (.int x2)])) (fun τ κ => X1146.ldcInt hx hown (mvT hZ (w9_ hw)) (g := (mkF m 360 #[vI x0, vI x1, vI x2, vI x3, vI x4, vR b985, vR b1022, vI (1 : Int32), vI qi, .unset, .unset, .unset, .unset, .unset, .unset, .unset, .unset, .unset, .unset, .unset] [(.int x2)])) rfl (hb hby at_360) _ κ) ?_
    refine GlW.st (g' := (mkF m 365 #[vI x0, vI x1, vI x2, vI x3, vI x4, vR b985, vR b1022, vI (1 : Int32), vI qi, .unset, .unset, .unset, .unset, .unset, .unset, .unset, .unset, .unset, .unset, .unset] [(.int (9 : Int32)), (.int (x2 &&& (2147483647 : Int32)))])) (fun τ κ => XS.iand X1146.here hx rfl (hb hby at_362) rfl (XS.bipush X1146.here hx rfl (hb hby at_363) κ)) ?_
    refine GlW.st (g' := (mkF m 366 #[vI x0, vI x1, vI x2, vI x3, vI x4, vR b985, vR b1022, vI (1 : Int32), vI qi, .unset, .unset, .unset, .unset, .unset, .unset, .unset, .unset, .unset, .unset, .unset] [(.int ((x2 &&& (2147483647 : Int32)) % (9 : Int32)))])) (fun τ κ => iremM (g := (mkF m 365 #[vI x0, vI x1, vI x2, vI x3, vI x4, vR b985, vR b1022, vI (1 : Int32), vI qi, .unset, .unset, .unset, .unset, .unset, .unset, .unset, .unset, .unset, .unset, .unset] [(.int (9 : Int32)), (.int (x2 &&& (2147483647 : Int32)))])) X1146 hx rfl (hb hby at_365) rfl (by decide) κ) ?_
    refine GlW.st (g' := (mkF m 368 #[vI x0, vI x1, vI x2, vI x3, vI x4, vR b985, vR b1022, vI (1 : Int32), vI qi, vI ((x2 &&& (2147483647 : Int32)) % (9 : Int32)), .unset, .unset, .unset, .unset, .unset, .unset, .unset, .unset, .unset, .unset] [])) (fun τ κ => XS.istore X1146.here hx rfl (hb hby at_366) rfl (l' := #[vI x0, vI x1, vI x2, vI x3, vI x4, vR b985, vR b1022, vI (1 : Int32), vI qi, vI ((x2 &&& (2147483647 : Int32)) % (9 : Int32)), .unset, .unset, .unset, .unset, .unset, .unset, .unset, .unset, .unset, .unset]) rfl κ) ?_
    have hqp := own_pos x2
    generalize ((x2 &&& (2147483647 : Int32)) % (9 : Int32)) = qp at hqp ⊢
    refine GlW.st (g' := (mkF m 371 #[vI x0, vI x1, vI x2, vI x3, vI x4, vR b985, vR b1022, vI (1 : Int32), vI qi, vI qp, .unset, .unset, .unset, .unset, .unset, .unset, .unset, .unset, .unset, .unset] [(.int (3 : Int32)), (.int qp)])) (fun τ κ => XS.iload X1146.here hx rfl (hb hby at_368) rfl (XS.iconst X1146.here hx rfl (hb hby at_370) κ)) ?_
    refine GlW.st (g' := (mkF m 372 #[vI x0, vI x1, vI x2, vI x3, vI x4, vR b985, vR b1022, vI (1 : Int32), vI qi, vI qp, .unset, .unset, .unset, .unset, .unset, .unset, .unset, .unset, .unset, .unset] [(.int (qp % (3 : Int32)))])) (fun τ κ => iremM (g := (mkF m 371 #[vI x0, vI x1, vI x2, vI x3, vI x4, vR b985, vR b1022, vI (1 : Int32), vI qi, vI qp, .unset, .unset, .unset, .unset, .unset, .unset, .unset, .unset, .unset, .unset] [(.int (3 : Int32)), (.int qp)])) X1146 hx rfl (hb hby at_371) rfl (by decide) κ) ?_
    refine GlW.st (g' := (mkF m 374 #[vI x0, vI x1, vI x2, vI x3, vI x4, vR b985, vR b1022, vI (1 : Int32), vI qi, vI qp, vI (qp % (3 : Int32)), .unset, .unset, .unset, .unset, .unset, .unset, .unset, .unset, .unset] [])) (fun τ κ => XS.istore X1146.here hx rfl (hb hby at_372) rfl (l' := #[vI x0, vI x1, vI x2, vI x3, vI x4, vR b985, vR b1022, vI (1 : Int32), vI qi, vI qp, vI (qp % (3 : Int32)), .unset, .unset, .unset, .unset, .unset, .unset, .unset, .unset, .unset]) rfl κ) ?_
    have hqx := own_x3 hqp
    generalize (qp % (3 : Int32)) = qx at hqx ⊢
    refine GlW.st (g' := (mkF m 377 #[vI x0, vI x1, vI x2, vI x3, vI x4, vR b985, vR b1022, vI (1 : Int32), vI qi, vI qp, vI qx, .unset, .unset, .unset, .unset, .unset, .unset, .unset, .unset, .unset] [(.int (3 : Int32)), (.int qp)])) (fun τ κ => XS.iload X1146.here hx rfl (hb hby at_374) rfl (XS.iconst X1146.here hx rfl (hb hby at_376) κ)) ?_
    refine GlW.st (g' := (mkF m 380 #[vI x0, vI x1, vI x2, vI x3, vI x4, vR b985, vR b1022, vI (1 : Int32), vI qi, vI qp, vI qx, vI (qp / (3 : Int32)), .unset, .unset, .unset, .unset, .unset, .unset, .unset, .unset] [])) (fun τ κ => XS.idiv X1146.here hx rfl (hb hby at_377) rfl (by decide) (XS.istore X1146.here hx rfl (hb hby at_378) rfl (l' := #[vI x0, vI x1, vI x2, vI x3, vI x4, vR b985, vR b1022, vI (1 : Int32), vI qi, vI qp, vI qx, vI (qp / (3 : Int32)), .unset, .unset, .unset, .unset, .unset, .unset, .unset, .unset]) rfl κ)) ?_
    have hqy := own_y3 hqp
    generalize (qp / (3 : Int32)) = qy at hqy ⊢
    refine GlW.st (g' := (mkF m 383 #[vI x0, vI x1, vI x2, vI x3, vI x4, vR b985, vR b1022, vI (1 : Int32), vI qi, vI qp, vI qx, vI qy, .unset, .unset, .unset, .unset, .unset, .unset, .unset, .unset] [(.int (1 : Int32)), (.int qy)])) (fun τ κ => XS.iload X1146.here hx rfl (hb hby at_380) rfl (XS.iconst X1146.here hx rfl (hb hby at_382) κ)) ?_
    refine GlW.st (g' := (mkF m 385 #[vI x0, vI x1, vI x2, vI x3, vI x4, vR b985, vR b1022, vI (1 : Int32), vI qi, vI qp, vI qx, vI qy, .unset, .unset, .unset, .unset, .unset, .unset, .unset, .unset] [(.int (5 : Int32)), (.int (qy + (1 : Int32)))])) (fun τ κ => XS.iadd X1146.here hx rfl (hb hby at_383) rfl (XS.iconst X1146.here hx rfl (hb hby at_384) κ)) ?_
    refine GlW.st (g' := (mkF m 388 #[vI x0, vI x1, vI x2, vI x3, vI x4, vR b985, vR b1022, vI (1 : Int32), vI qi, vI qp, vI qx, vI qy, .unset, .unset, .unset, .unset, .unset, .unset, .unset, .unset] [(.int qx), (.int ((qy + (1 : Int32)) * (5 : Int32)))])) (fun τ κ => XS.imul X1146.here hx rfl (hb hby at_385) rfl (XS.iload X1146.here hx rfl (hb hby at_386) rfl κ)) ?_
    refine GlW.st (g' := (mkF m 390 #[vI x0, vI x1, vI x2, vI x3, vI x4, vR b985, vR b1022, vI (1 : Int32), vI qi, vI qp, vI qx, vI qy, .unset, .unset, .unset, .unset, .unset, .unset, .unset, .unset] [(.int (1 : Int32)), (.int (((qy + (1 : Int32)) * (5 : Int32)) + qx))])) (fun τ κ => XS.iadd X1146.here hx rfl (hb hby at_388) rfl (XS.iconst X1146.here hx rfl (hb hby at_389) κ)) ?_
    refine GlW.st (g' := (mkF m 393 #[vI x0, vI x1, vI x2, vI x3, vI x4, vR b985, vR b1022, vI (1 : Int32), vI qi, vI qp, vI qx, vI qy, vI ((((qy + (1 : Int32)) * (5 : Int32)) + qx) + (1 : Int32)), .unset, .unset, .unset, .unset, .unset, .unset, .unset] [])) (fun τ κ => XS.iadd X1146.here hx rfl (hb hby at_390) rfl (XS.istore X1146.here hx rfl (hb hby at_391) rfl (l' := #[vI x0, vI x1, vI x2, vI x3, vI x4, vR b985, vR b1022, vI (1 : Int32), vI qi, vI qp, vI qx, vI qy, vI ((((qy + (1 : Int32)) * (5 : Int32)) + qx) + (1 : Int32)), .unset, .unset, .unset, .unset, .unset, .unset, .unset]) rfl κ)) ?_
    have S_u1225 := Sta.keepX S0 K1146 all0
    have S_u1226 := Sta.keepX S8 K1146 all0
    have S_u1227 := Sta.keepX S4 K1146 all0
    generalize hqc : ((((qy + (1 : Int32)) * (5 : Int32)) + qx) + (1 : Int32)) = qc
    have TB := own_tab hqx hqy hi hqc
    have L1 := own_bp (tv := x0) TB.2.2.2.2.2.1 TB.2.2.2.2.2.2.1
    have L2 := own_bp (tv := x0) TB.2.2.2.2.2.2.2.1 TB.2.2.2.2.2.2.2.2
    obtain ⟨T1228, h1228, X1228, e1228, E1228, A1228, D1228, -, st1228⟩ := newO X1146 hx hZ hown (w10_ hw) (w11_ hw) (w12_ hw) e1146 (g := (mkF m 393 #[vI x0, vI x1, vI x2, vI x3, vI x4, vR b985, vR b1022, vI (1 : Int32), vI qi, vI qp, vI qx, vI qy, vI qc, .unset, .unset, .unset, .unset, .unset, .unset, .unset] [])) rfl (hb hby at_393) (by decide) (by decide)
    obtain ⟨b1228, g1228⟩ : ∃ z, z = h1146.size := ⟨_, rfl⟩
    rw [← g1228] at A1228 D1228 st1228
    have Yn1228 : Safe Z own_EL s.vm h1146 b1228 := Safe.new (Nat.le_of_eq g1228.symm)
    have Y1228_b985 := Safe.ext E1228 CH1146 Y1146_b985
    have Y1228_b1022 := Safe.ext E1228 CH1146 Y1146_b1022
    have Y1228_b1228 := Safe.ext E1228 CH1146 Yn1228
    have CH1228 := CH1146.ext E1228
    have ne_b985_b1228 : b985 ≠ b1228 := Nat.ne_of_lt (Nat.lt_of_lt_of_le V_1147.lt (Nat.le_of_eq g1228.symm))
    have ne_b1022_b1228 : b1022 ≠ b1228 := Nat.ne_of_lt (Nat.lt_of_lt_of_le Vvb.lt (Nat.le_of_eq g1228.symm))
    have V_1229 := V_1147.ext E1228
    have V_1230 := Vvb.ext E1228
    have S_1231 := S_u1225.ext E1228
    have S_1232 := S_u1226.ext E1228
    have S_1233 := S_u1227.ext E1228
    have hk1228 := Nat.le_trans hk1146 E1228.1
    have g_b1228 : n0 ≤ b1228 := Nat.le_trans Z1146 (Nat.le_of_eq g1228.symm)
    have sz_b1228 : h0.size ≤ b1228 := Nat.le_trans K1146.1 (Nat.le_of_eq g1228.symm)
    have Z1228 : n0 ≤ h1228.size := Nat.le_trans Z1146 E1228.1
    have K1228 : Keep h0 h1228 [] := K1146.ext E1228
    have F_1234 : Fld Z h1228 b1228 "com/example/wanderpath/wanderpath/TileMap" "width" "I" (.int (0 : Int32)) := D1228 (Or.inr (w20_ hw)) (ty := .int) (by decide)
    have F_1235 : Fld Z h1228 b1228 "com/example/wanderpath/wanderpath/TileMap" "height" "I" (.int (0 : Int32)) := D1228 (Or.inr (w22_ hw)) (ty := .int) (by decide)
    have F_1236 : Fld Z h1228 b1228 "com/example/wanderpath/wanderpath/TileMap" "tiles" "[B" .null := D1228 (Or.inr (w24_ hw)) (ty := (.array .byte)) (by decide)
    have F_1237 : Fld Z h1228 b1228 "com/example/wanderpath/wanderpath/TileMap" "passableCount" "I" (.int (0 : Int32)) := D1228 (Or.inr (w81_ hw)) (ty := .int) (by decide)
    have X1228 := X1228.more (cells' := 3) (slots' := 38) (by decide) (by decide)
    refine GlW.st (g' := (mkF m 396 #[vI x0, vI x1, vI x2, vI x3, vI x4, vR b985, vR b1022, vI (1 : Int32), vI qi, vI qp, vI qx, vI qy, vI qc, .unset, .unset, .unset, .unset, .unset, .unset, .unset] [(.ref b1228)])) (fun τ κ => st1228 _ κ) ?_
    refine GlW.st (g' := (mkF m 398 #[vI x0, vI x1, vI x2, vI x3, vI x4, vR b985, vR b1022, vI (1 : Int32), vI qi, vI qp, vI qx, vI qy, vI qc, .unset, .unset, .unset, .unset, .unset, .unset, .unset] [(.int (3 : Int32)), (.ref b1228), (.ref b1228)])) (fun τ κ => XS.dup X1228.here hx rfl (hb hby at_396) rfl rfl (XS.iconst X1228.here hx rfl (hb hby at_397) κ)) ?_
    refine GlW.st (g' := (mkF m 401 #[vI x0, vI x1, vI x2, vI x3, vI x4, vR b985, vR b1022, vI (1 : Int32), vI qi, vI qp, vI qx, vI qy, vI qc, .unset, .unset, .unset, .unset, .unset, .unset, .unset] [(.ref b985), (.int (3 : Int32)), (.int (3 : Int32)), (.ref b1228), (.ref b1228)])) (fun τ κ => XS.iconst X1228.here hx rfl (hb hby at_398) (XS.aload X1228.here hx rfl (hb hby at_399) rfl rfl κ)) ?_
    obtain ⟨rv1238, _, ⟨T1238, L1238, k1238, n1238⟩, -, X1238, hSb1238, hgb1238, ⟨Lc1238, hQ1238, l1238, y1238, z1238⟩, st1238⟩ := X1228.specialBackS hx (y := (⟨"com/example/wanderpath/wanderpath/TileMap", "<init>", "(II[B)V"⟩ : MethodName)) rfl hown (mvT hZ (w13_ hw)) (mvT hZ (w14_ hw)) (mvT hZ (w15_ hw)) (by decide) (backOfSX (W := 1) (rm3 l Z a0 hw [] b1228 b985 k985 vt x0 cs h1228 n0 Z1228 S_1231 hcs A1228 g_b1228 (Ne.symm ne_b985_b1228) F_1234 F_1235 F_1236 F_1237 V_1229 HT) hZ (w15_ hw) (w12_ hw) (by decide) (by decide) (own_EW hw) CH1228 (sfx1 A1228.lt Y1228_b1228)) (g := (mkF m 401 #[vI x0, vI x1, vI x2, vI x3, vI x4, vR b985, vR b1022, vI (1 : Int32), vI qi, vI qp, vI qx, vI qy, vI qc, .unset, .unset, .unset, .unset, .unset, .unset, .unset] [(.ref b985), (.int (3 : Int32)), (.int (3 : Int32)), (.ref b1228), (.ref b1228)])) rfl (by rw [hml]; rfl) (Steps.refl _) (a := b1228) (argsL := [(.int (3 : Int32)), (.int (3 : Int32)), (.ref b985)]) (rest := [(.ref b1228)]) (lenOf pd_10 rfl) rfl (by show 2 * 0 + _ ≤ _; exact Nat.le_of_eq rfl) (hb hby at_401) (fun _ _ => ⟨rfl, e1228, Nat.le_of_ble_eq_true rfl, Nat.le_of_ble_eq_true rfl⟩)
    dsimp only [Pt.U, Pt.locs, Pt.cells, Pt.slots] at X1238 l1238 y1238 z1238 st1238 hQ1238 hSb1238 hgb1238
    subst l1238 y1238 z1238
    obtain ⟨X1238, hS1238, hZ1238, hown1238⟩ := rebS hS0 hk1228 X1238 hSb1238 (Nat.le_trans (Nat.le_of_eq (congrArg Array.size e1228).symm) hgb1238) hZ hown
    obtain ⟨hQ1238, hE1238⟩ := hQ1238
    have X1238 := X1238.more (cells' := 5) (slots' := 54) (by decide) (by decide)
    obtain ⟨rfl, N1238q, Kc1238, Em, F0, F1, F2⟩ := hQ1238
    have V_1239 := V_1229.keep Kc1238 (ninS ne_b985_b1228 nin0)
    have V_1240 := V_1230.keep Kc1238 (ninS ne_b1022_b1228 nin0)
    have S_1241 := Sta.keepX S_1231 Kc1238 (allS (P := fun x => ∃ c : Cell, h1228[x]? = some c ∧ ∀ q, c.vm ≠ .statics q) A1228.cell all0)
    have S_1242 := Sta.keepX S_1232 Kc1238 (allS (P := fun x => ∃ c : Cell, h1228[x]? = some c ∧ ∀ q, c.vm ≠ .statics q) A1228.cell all0)
    have S_1243 := Sta.keepX S_1233 Kc1238 (allS (P := fun x => ∃ c : Cell, h1228[x]? = some c ∧ ∀ q, c.vm ≠ .statics q) A1228.cell all0)
    have E_1244 := A1228.keep Kc1238
    have N1238 := Fr.app N1146 N1238q
    have Z1238 : n0 ≤ T1238.heap.size := Nat.le_trans Z1228 Kc1238.1
    have K1238 : Keep h0 T1238.heap [] := K1228.trans Kc1238 (allS (Or.inr sz_b1228) all0)
    obtain ⟨la, lb, lk, hLt, EL, FC, FV, VB, -⟩ := hE1238
    have hLt : Lit (s.setVm T1238.vm) "com/example/wanderpath/wanderpath/TileMap" 120 la := hLt
    obtain ⟨Lw1238, X1238, N1238⟩ := own_locG X1238 N1238
    refine GlW.st (g' := (mkF m 404 #[vI x0, vI x1, vI x2, vI x3, vI x4, vR b985, vR b1022, vI (1 : Int32), vI qi, vI qp, vI qx, vI qy, vI qc, .unset, .unset, .unset, .unset, .unset, .unset, .unset] [(.ref b1228)])) (fun τ κ => st1238.trans κ) ?_
    refine GlW.st (g' := (mkF m 406 #[vI x0, vI x1, vI x2, vI x3, vI x4, vR b985, vR b1022, vI (1 : Int32), vI qi, vI qp, vI qx, vI qy, vI qc, vR b1228, .unset, .unset, .unset, .unset, .unset, .unset] [])) (fun τ κ => XS.astore X1238.here hx rfl (hb hby at_404) rfl rfl (l' := #[vI x0, vI x1, vI x2, vI x3, vI x4, vR b985, vR b1022, vI (1 : Int32), vI qi, vI qp, vI qx, vI qy, vI qc, vR b1228, .unset, .unset, .unset, .unset, .unset, .unset]) rfl κ) ?_
    obtain ⟨T1249, h1249, X1249, e1249, E1249, A1249, D1249, -, st1249⟩ := newO X1238 hx hZ1238 hown1238 (w82_ hw) (w83_ hw) (w84_ hw) rfl (g := (mkF m 406 #[vI x0, vI x1, vI x2, vI x3, vI x4, vR b985, vR b1022, vI (1 : Int32), vI qi, vI qp, vI qx, vI qy, vI qc, vR b1228, .unset, .unset, .unset, .unset, .unset, .unset] [])) rfl (hb hby at_406) (by decide) (by decide)
    obtain ⟨b1249, g1249⟩ : ∃ z, z = T1238.heap.size := ⟨_, rfl⟩
    rw [← g1249] at A1249 D1249 st1249
    have ne_b985_b1249 : b985 ≠ b1249 := Nat.ne_of_lt (Nat.lt_of_lt_of_le V_1239.lt (Nat.le_of_eq g1249.symm))
    have ne_b1022_b1249 : b1022 ≠ b1249 := Nat.ne_of_lt (Nat.lt_of_lt_of_le V_1240.lt (Nat.le_of_eq g1249.symm))
    have ne_b1228_b1249 : b1228 ≠ b1249 := Nat.ne_of_lt (Nat.lt_of_lt_of_le Em.lt (Nat.le_of_eq g1249.symm))
    have ne_lb_b1249 : lb ≠ b1249 := Nat.ne_of_lt (Nat.lt_of_lt_of_le VB.lt (Nat.le_of_eq g1249.symm))
    have ne_la_b1249 : la ≠ b1249 := Nat.ne_of_lt (Nat.lt_of_lt_of_le EL.lt (Nat.le_of_eq g1249.symm))
    have V_1250 := V_1239.ext E1249
    have V_1251 := V_1240.ext E1249
    have S_1252 := S_1241.ext E1249
    have S_1253 := S_1242.ext E1249
    have S_1254 := S_1243.ext E1249
    have E_1255 := Em.ext E1249
    have V_1256 := VB.ext E1249
    have E_1257 := EL.ext E1249
    have F_1258 := FC.ext E1249
    have F_1259 := FV.ext E1249
    have F_1260 := F0.ext E1249
    have F_1261 := F1.ext E1249
    have F_1262 := F2.ext E1249
    have hk1249 := Nat.le_trans (Nat.le_refl _) E1249.1
    have g_b1249 : n0 ≤ b1249 := Nat.le_trans Z1238 (Nat.le_of_eq g1249.symm)
    have sz_b1249 : h0.size ≤ b1249 := Nat.le_trans K1238.1 (Nat.le_of_eq g1249.symm)
    have Z1249 : n0 ≤ h1249.size := Nat.le_trans Z1238 E1249.1
    have K1249 : Keep h0 h1249 [] := K1238.ext E1249
    have F_1263 : Fld Z h1249 b1249 "com/example/wanderpath/wanderpath/Grid" "stride" "I" (.int (0 : Int32)) := D1249 (Or.inr (w98_ hw)) (ty := .int) (by decide)
    have F_1264 : Fld Z h1249 b1249 "com/example/wanderpath/wanderpath/Grid" "steps" "[I" .null := D1249 (Or.inr (w103_ hw)) (ty := (.array .int)) (by decide)
    have F_1265 : Fld Z h1249 b1249 "com/example/wanderpath/wanderpath/Grid" "rowPart" "[I" .null := D1249 (Or.inr (w105_ hw)) (ty := (.array .int)) (by decide)
    have F_1266 : Fld Z h1249 b1249 "com/example/wanderpath/wanderpath/Grid" "columnPart" "[I" .null := D1249 (Or.inr (w107_ hw)) (ty := (.array .int)) (by decide)
    have F_1267 : Fld Z h1249 b1249 "com/example/wanderpath/wanderpath/Grid" "blocked" "[Z" .null := D1249 (Or.inr (w114_ hw)) (ty := (.array .boolean)) (by decide)
    have X1249 := X1249.more (cells' := 6) (slots' := 59) (by decide) (by decide)
    refine GlW.st (g' := (mkF m 409 #[vI x0, vI x1, vI x2, vI x3, vI x4, vR b985, vR b1022, vI (1 : Int32), vI qi, vI qp, vI qx, vI qy, vI qc, vR b1228, .unset, .unset, .unset, .unset, .unset, .unset] [(.ref b1249)])) (fun τ κ => st1249 _ κ) ?_
    refine GlW.st (g' := (mkF m 412 #[vI x0, vI x1, vI x2, vI x3, vI x4, vR b985, vR b1022, vI (1 : Int32), vI qi, vI qp, vI qx, vI qy, vI qc, vR b1228, .unset, .unset, .unset, .unset, .unset, .unset] [(.ref b1228), (.ref b1249), (.ref b1249)])) (fun τ κ => XS.dup X1249.here hx rfl (hb hby at_409) rfl rfl (XS.aload X1249.here hx rfl (hb hby at_410) rfl rfl κ)) ?_
    refine GlW.st (g' := (mkF m 414 #[vI x0, vI x1, vI x2, vI x3, vI x4, vR b985, vR b1022, vI (1 : Int32), vI qi, vI qp, vI qx, vI qy, vI qc, vR b1228, .unset, .unset, .unset, .unset, .unset, .unset] [(.int (1 : Int32)), (.ref b1228), (.ref b1249), (.ref b1249)])) (fun τ κ => XS.iload X1249.here hx rfl (hb hby at_412) rfl κ) ?_
    have hc1268 : ¬ ((1 : Int32) = (0 : Int32)) := by decide
    refine GlW.st (g' := (mkF m 417 #[vI x0, vI x1, vI x2, vI x3, vI x4, vR b985, vR b1022, vI (1 : Int32), vI qi, vI qp, vI qx, vI qy, vI qc, vR b1228, .unset, .unset, .unset, .unset, .unset, .unset] [(.ref b1228), (.ref b1249), (.ref b1249)])) (fun τ κ => XS.ifNo X1249.here hx rfl (hb hby at_414) rfl ((if0 _ _).trans (feq hc1268).1) κ) ?_
    obtain ⟨T1269, X1269, e1269, st1269⟩ := getS2 X1249 hx hZ1238 hown1238 (host := "") (Or.inl (w148_ hw)) Via.refl e1249 S_1253 (g := (mkF m 417 #[vI x0, vI x1, vI x2, vI x3, vI x4, vR b985, vR b1022, vI (1 : Int32), vI qi, vI qp, vI qx, vI qy, vI qc, vR b1228, .unset, .unset, .unset, .unset, .unset, .unset] [(.ref b1228), (.ref b1249), (.ref b1249)])) rfl (hb hby at_417)
    refine GlW.st (g' := (mkF m 420 #[vI x0, vI x1, vI x2, vI x3, vI x4, vR b985, vR b1022, vI (1 : Int32), vI qi, vI qp, vI qx, vI qy, vI qc, vR b1228, .unset, .unset, .unset, .unset, .unset, .unset] [(.ref e8), (.ref b1228), (.ref b1249), (.ref b1249)])) (fun τ κ => st1269 _ κ) ?_
    refine GlW.st (g' := (mkF m 426 #[vI x0, vI x1, vI x2, vI x3, vI x4, vR b985, vR b1022, vI (1 : Int32), vI qi, vI qp, vI qx, vI qy, vI qc, vR b1228, .unset, .unset, .unset, .unset, .unset, .unset] [(.ref e8), (.ref b1228), (.ref b1249), (.ref b1249)])) (fun τ κ => XS.goto X1269.here hx rfl (pc0 := 420) (pc' := 426) rfl (hb hby at_420) (by decide) (by decide) κ) ?_
    obtain ⟨rv1270, _, ⟨T1270, L1270, k1270, n1270⟩, -, X1270, ⟨Lc1270, hQ1270, l1270, y1270, z1270⟩, st1270⟩ := X1269.specialBack hx (y := (⟨"com/example/wanderpath/wanderpath/Grid", "<init>", "(Lcom/example/wanderpath/wanderpath/TileMap;Lcom/example/wanderpath/wanderpath/Moves;)V"⟩ : MethodName)) rfl hown1238 (mvT hZ1238 (w88_ hw)) (mvT hZ1238 (w89_ hw)) (mvT hZ1238 (w90_ hw)) (by decide) (backOfL (W := 1) (rm16_8 l Z a0 hw [] b1249 b1228 e8 b985 la k985 vt x0 lb lk cs h1249 n0 Z1249 S_1252 hcs E_1257 F_1258 F_1259 V_1256 E_1255 F_1260 F_1261 F_1262 V_1250 HT S_1253 A1249 g_b1249 F_1263 F_1264 F_1265 F_1266 F_1267 (Ne.symm ne_b1228_b1249) (Ne.symm ne_b985_b1249) (Ne.symm ne_la_b1249) (Ne.symm ne_lb_b1249)) hZ1238 (w90_ hw) (w84_ hw) (by decide) (by decide) hLt) (g := (mkF m 426 #[vI x0, vI x1, vI x2, vI x3, vI x4, vR b985, vR b1022, vI (1 : Int32), vI qi, vI qp, vI qx, vI qy, vI qc, vR b1228, .unset, .unset, .unset, .unset, .unset, .unset] [(.ref e8), (.ref b1228), (.ref b1249), (.ref b1249)])) rfl (by rw [hml]; rfl) (Steps.refl _) (a := b1249) (argsL := [(.ref b1228), (.ref e8)]) (rest := [(.ref b1249)]) (lenOf pd_11 rfl) rfl (by show 2 * 0 + _ ≤ _; exact Nat.le_of_eq rfl) (hb hby at_426) (fun _ _ => ⟨rfl, e1269, Nat.le_of_ble_eq_true rfl, Nat.le_of_ble_eq_true rfl⟩)
    dsimp only [Pt.U, Pt.locs, Pt.cells, Pt.slots] at X1270 l1270 y1270 z1270 st1270 hQ1270
    subst l1270 y1270 z1270
    have X1270 := X1270.more (cells' := 10) (slots' := 108) (by decide) (by decide)
    obtain ⟨rfl, N1270q, Kc1270, s1, s2, bk, k1, k2, kb, vs, Eg, FT, FR, FB, V1, V2, VB', I⟩ := hQ1270
    have V_1271 := V_1250.keep Kc1270 (ninS ne_b985_b1249 nin0)
    have V_1272 := V_1251.keep Kc1270 (ninS ne_b1022_b1249 nin0)
    have S_1273 := Sta.keepX S_1252 Kc1270 (allS (P := fun x => ∃ c : Cell, h1249[x]? = some c ∧ ∀ q, c.vm ≠ .statics q) A1249.cell all0)
    have S_1274 := Sta.keepX S_1253 Kc1270 (allS (P := fun x => ∃ c : Cell, h1249[x]? = some c ∧ ∀ q, c.vm ≠ .statics q) A1249.cell all0)
    have S_1275 := Sta.keepX S_1254 Kc1270 (allS (P := fun x => ∃ c : Cell, h1249[x]? = some c ∧ ∀ q, c.vm ≠ .statics q) A1249.cell all0)
    have E_1276 := E_1255.keep Kc1270
    have V_1277 := V_1256.keep Kc1270 (ninS ne_lb_b1249 nin0)
    have E_1278 := E_1257.keep Kc1270
    have F_1279 := F_1258.keep Kc1270 (ninS ne_la_b1249 nin0)
    have F_1280 := F_1259.keep Kc1270 (ninS ne_la_b1249 nin0)
    have F_1281 := F_1260.keep Kc1270 (ninS ne_b1228_b1249 nin0)
    have F_1282 := F_1261.keep Kc1270 (ninS ne_b1228_b1249 nin0)
    have F_1283 := F_1262.keep Kc1270 (ninS ne_b1228_b1249 nin0)
    have E_1284 := A1249.keep Kc1270
    have hk1270 := Nat.le_trans hk1249 Kc1270.1
    have N1270 := Fr.app N1238 N1270q
    have Z1270 : n0 ≤ T1270.heap.size := Nat.le_trans Z1249 Kc1270.1
    have K1270 : Keep h0 T1270.heap [] := K1249.trans Kc1270 (allS (Or.inr sz_b1249) all0)
    obtain ⟨Lw1270, X1270, N1270⟩ := own_locG X1270 N1270
    refine GlW.st (g' := (mkF m 429 #[vI x0, vI x1, vI x2, vI x3, vI x4, vR b985, vR b1022, vI (1 : Int32), vI qi, vI qp, vI qx, vI qy, vI qc, vR b1228, .unset, .unset, .unset, .unset, .unset, .unset] [(.ref b1249)])) (fun τ κ => st1270.trans κ) ?_
    refine GlW.st (g' := (mkF m 433 #[vI x0, vI x1, vI x2, vI x3, vI x4, vR b985, vR b1022, vI (1 : Int32), vI qi, vI qp, vI qx, vI qy, vI qc, vR b1228, vR b1249, .unset, .unset, .unset, .unset, .unset] [(.ref b1249)])) (fun τ κ => XS.astore X1270.here hx rfl (hb hby at_429) rfl rfl (l' := #[vI x0, vI x1, vI x2, vI x3, vI x4, vR b985, vR b1022, vI (1 : Int32), vI qi, vI qp, vI qx, vI qy, vI qc, vR b1228, vR b1249, .unset, .unset, .unset, .unset, .unset]) rfl (XS.aload X1270.here hx rfl (hb hby at_431) rfl rfl κ)) ?_
    refine GlW.st (g' := (mkF m 437 #[vI x0, vI x1, vI x2, vI x3, vI x4, vR b985, vR b1022, vI (1 : Int32), vI qi, vI qp, vI qx, vI qy, vI qc, vR b1228, vR b1249, .unset, .unset, .unset, .unset, .unset] [(.int qc), (.ref b1022), (.ref b1249)])) (fun τ κ => XS.aload X1270.here hx rfl (hb hby at_433) rfl rfl (XS.iload X1270.here hx rfl (hb hby at_435) rfl κ)) ?_
    refine GlW.st (g' := (mkF m 439 #[vI x0, vI x1, vI x2, vI x3, vI x4, vR b985, vR b1022, vI (1 : Int32), vI qi, vI qp, vI qx, vI qy, vI qc, vR b1228, vR b1249, .unset, .unset, .unset, .unset, .unset] [(.int qi), (.int qc), (.ref b1022), (.ref b1249)])) (fun τ κ => XS.iload X1270.here hx rfl (hb hby at_437) rfl κ) ?_
    obtain ⟨cq1290, kq1290, q1290a, q1290b, q1290c⟩ := isOf hZ1238 rfl Eg
    obtain ⟨rv1290, _, ⟨T1290, L1290, k1290, n1290⟩, -, X1290, ⟨Lc1290, hQ1290, l1290, y1290, z1290⟩, st1290⟩ := X1270.virtualBack hx (y := (⟨"com/example/wanderpath/wanderpath/Grid", "canStep", "([ZII)Z"⟩ : MethodName)) (z := (⟨"com/example/wanderpath/wanderpath/Grid", "canStep", "([ZII)Z"⟩ : MethodName)) hown1238 (mvT hZ1238 (w137_ hw)) (mvT hZ1238 (w138_ hw)) (notFace_of_selects (args := #[]) (mvT hZ1238 (w140_ hw))) (mvT hZ1238 (w140_ hw)) (mvT hZ1238 (w139_ hw)) (by decide) (backOf (W := 0) (rm24 l Z a0 hw [] b1249 b1022 qc qi s1 s2 bk k1 k2 kb k1022 (8 : Int32) (8 : Int32) x0 x1 [(.int (-5 : Int32)), (.int (-1 : Int32)), (.int (1 : Int32)), (.int (5 : Int32)), (.int (-6 : Int32)), (.int (-4 : Int32)), (.int (4 : Int32)), (.int (6 : Int32))] [(.int (0 : Int32)), (.int (-1 : Int32)), (.int (1 : Int32)), (.int (0 : Int32)), (.int (-1 : Int32)), (.int (1 : Int32)), (.int (-1 : Int32)), (.int (1 : Int32))] vs vb T1270.heap n0 Z1270 FT FR FB V1 V2 VB' V_1272 I HB (own_i8 hi) (own_s8 hi) (fun _ => own_i8 hi) (fun _ => own_p8 hi) TB.1 TB.2.1 TB.2.2.1) hZ1238 (w141_ hw) (w84_ hw) (by decide) (by decide)) q1290a q1290c (g := (mkF m 439 #[vI x0, vI x1, vI x2, vI x3, vI x4, vR b985, vR b1022, vI (1 : Int32), vI qi, vI qp, vI qx, vI qy, vI qc, vR b1228, vR b1249, .unset, .unset, .unset, .unset, .unset] [(.int qi), (.int qc), (.ref b1022), (.ref b1249)])) rfl (by rw [hml]; rfl) (Steps.refl _) (argsL := [(.ref b1022), (.int qc), (.int qi)]) (rest := []) (lenOf pd_12 rfl) rfl (by show 2 * 0 + _ ≤ _; exact Nat.le_of_eq rfl) (hb hby at_439) (fun _ _ => ⟨rfl, rfl, Nat.le_of_ble_eq_true rfl, Nat.le_of_ble_eq_true rfl⟩)
    dsimp only [Pt.U, Pt.locs, Pt.cells, Pt.slots] at X1290 l1290 y1290 z1290 st1290 hQ1290
    subst l1290 y1290 z1290
    have X1290 := X1290.more (cells' := 10) (slots' := 108) (by decide) (by decide)
    obtain ⟨hq1290, N1290q, e1290⟩ := hQ1290
    have hq1290 : rv1290 = some (.int (own_cs x1 x0 qc qi)) := hq1290
    subst hq1290
    have N1290 := Fr.app N1270 N1290q
    obtain ⟨Lw1290, X1290, N1290⟩ := own_locG X1290 N1290
    refine GlW.st (g' := (mkF m 442 #[vI x0, vI x1, vI x2, vI x3, vI x4, vR b985, vR b1022, vI (1 : Int32), vI qi, vI qp, vI qx, vI qy, vI qc, vR b1228, vR b1249, .unset, .unset, .unset, .unset, .unset] [(.int (own_cs x1 x0 qc qi))])) (fun τ κ => st1290.trans κ) ?_
    refine GlW.st (g' := (mkF m 446 #[vI x0, vI x1, vI x2, vI x3, vI x4, vR b985, vR b1022, vI (1 : Int32), vI qi, vI qp, vI qx, vI qy, vI qc, vR b1228, vR b1249, vI (own_cs x1 x0 qc qi), .unset, .unset, .unset, .unset] [(.int qx)])) (fun τ κ => XS.istore X1290.here hx rfl (hb hby at_442) rfl (l' := #[vI x0, vI x1, vI x2, vI x3, vI x4, vR b985, vR b1022, vI (1 : Int32), vI qi, vI qp, vI qx, vI qy, vI qc, vR b1228, vR b1249, vI (own_cs x1 x0 qc qi), .unset, .unset, .unset, .unset]) rfl (XS.iload X1290.here hx rfl (hb hby at_444) rfl κ)) ?_
    refine GlW.st (g' := (mkF m 448 #[vI x0, vI x1, vI x2, vI x3, vI x4, vR b985, vR b1022, vI (1 : Int32), vI qi, vI qp, vI qx, vI qy, vI qc, vR b1228, vR b1249, vI (own_cs x1 x0 qc qi), .unset, .unset, .unset, .unset] [(.int qi), (.int qx)])) (fun τ κ => XS.iload X1290.here hx rfl (hb hby at_446) rfl κ) ?_
    obtain ⟨rv1291, _, ⟨T1291, L1291, k1291, n1291⟩, -, X1291, ⟨Lc1291, hQ1291, l1291, y1291, z1291⟩, st1291⟩ := Jvm.LawKit.callS X1290 hx (y := (⟨"com/example/wanderpath/wanderpath/GridCanStepPinLaw", "dx", "(I)I"⟩ : MethodName)) hown1238 (mvT hZ1238 (w142_ hw)) (mvT hZ1238 (w143_ hw)) (mvT hZ1238 (w3_ hw)) (mvT hZ1238 (w144_ hw)) (by decide) (backOf (W := 1) (rm25 l Z a0 hw [] qi T1270.heap n0 Z1270 ) hZ1238 (w144_ hw) (w3_ hw) (by decide) (by decide)) (g := (mkF m 448 #[vI x0, vI x1, vI x2, vI x3, vI x4, vR b985, vR b1022, vI (1 : Int32), vI qi, vI qp, vI qx, vI qy, vI qc, vR b1228, vR b1249, vI (own_cs x1 x0 qc qi), .unset, .unset, .unset, .unset] [(.int qi), (.int qx)])) rfl (by rw [hml]; rfl) (argsL := [(.int qi)]) (rest := [(.int qx)]) (lenOf pd_6 rfl) rfl (by show 2 * 0 + _ ≤ _; exact Nat.le_of_eq rfl) (hb hby at_448) (fun _ _ => ⟨rfl, e1290, Nat.le_of_ble_eq_true rfl, Nat.le_of_ble_eq_true rfl⟩)
    dsimp only [Pt.U, Pt.locs, Pt.cells, Pt.slots] at X1291 l1291 y1291 z1291 st1291 hQ1291
    subst l1291 y1291 z1291
    have X1291 := X1291.more (cells' := 10) (slots' := 108) (by decide) (by decide)
    obtain ⟨hq1291, N1291q, e1291⟩ := hQ1291
    have hq1291 : rv1291 = some (.int (own_dx qi)) := hq1291
    subst hq1291
    have N1291 := Fr.app N1290 N1291q
    obtain ⟨Lw1291, X1291, N1291⟩ := own_locG X1291 N1291
    refine GlW.st (g' := (mkF m 451 #[vI x0, vI x1, vI x2, vI x3, vI x4, vR b985, vR b1022, vI (1 : Int32), vI qi, vI qp, vI qx, vI qy, vI qc, vR b1228, vR b1249, vI (own_cs x1 x0 qc qi), .unset, .unset, .unset, .unset] [(.int (own_dx qi)), (.int qx)])) (fun τ κ => st1291 _ κ) ?_
    refine GlW.st (g' := (mkF m 454 #[vI x0, vI x1, vI x2, vI x3, vI x4, vR b985, vR b1022, vI (1 : Int32), vI qi, vI qp, vI qx, vI qy, vI qc, vR b1228, vR b1249, vI (own_cs x1 x0 qc qi), vI (qx + (own_dx qi)), .unset, .unset, .unset] [])) (fun τ κ => XS.iadd X1291.here hx rfl (hb hby at_451) rfl (XS.istore X1291.here hx rfl (hb hby at_452) rfl (l' := #[vI x0, vI x1, vI x2, vI x3, vI x4, vR b985, vR b1022, vI (1 : Int32), vI qi, vI qp, vI qx, vI qy, vI qc, vR b1228, vR b1249, vI (own_cs x1 x0 qc qi), vI (qx + (own_dx qi)), .unset, .unset, .unset]) rfl κ)) ?_
    refine GlW.st (g' := (mkF m 458 #[vI x0, vI x1, vI x2, vI x3, vI x4, vR b985, vR b1022, vI (1 : Int32), vI qi, vI qp, vI qx, vI qy, vI qc, vR b1228, vR b1249, vI (own_cs x1 x0 qc qi), vI (qx + (own_dx qi)), .unset, .unset, .unset] [(.int qi), (.int qy)])) (fun τ κ => XS.iload X1291.here hx rfl (hb hby at_454) rfl (XS.iload X1291.here hx rfl (hb hby at_456) rfl κ)) ?_
    obtain ⟨rv1292, _, ⟨T1292, L1292, k1292, n1292⟩, -, X1292, ⟨Lc1292, hQ1292, l1292, y1292, z1292⟩, st1292⟩ := Jvm.LawKit.callS X1291 hx (y := (⟨"com/example/wanderpath/wanderpath/GridCanStepPinLaw", "dy", "(I)I"⟩ : MethodName)) hown1238 (mvT hZ1238 (w145_ hw)) (mvT hZ1238 (w146_ hw)) (mvT hZ1238 (w3_ hw)) (mvT hZ1238 (w147_ hw)) (by decide) (backOf (W := 1) (rm26 l Z a0 hw [] qi T1270.heap n0 Z1270 ) hZ1238 (w147_ hw) (w3_ hw) (by decide) (by decide)) (g := (mkF m 458 #[vI x0, vI x1, vI x2, vI x3, vI x4, vR b985, vR b1022, vI (1 : Int32), vI qi, vI qp, vI qx, vI qy, vI qc, vR b1228, vR b1249, vI (own_cs x1 x0 qc qi), vI (qx + (own_dx qi)), .unset, .unset, .unset] [(.int qi), (.int qy)])) rfl (by rw [hml]; rfl) (argsL := [(.int qi)]) (rest := [(.int qy)]) (lenOf pd_6 rfl) rfl (by show 2 * 0 + _ ≤ _; exact Nat.le_of_eq rfl) (hb hby at_458) (fun _ _ => ⟨rfl, e1291, Nat.le_of_ble_eq_true rfl, Nat.le_of_ble_eq_true rfl⟩)
    dsimp only [Pt.U, Pt.locs, Pt.cells, Pt.slots] at X1292 l1292 y1292 z1292 st1292 hQ1292
    subst l1292 y1292 z1292
    have X1292 := X1292.more (cells' := 10) (slots' := 108) (by decide) (by decide)
    obtain ⟨hq1292, N1292q, e1292⟩ := hQ1292
    have hq1292 : rv1292 = some (.int (own_dy qi)) := hq1292
    subst hq1292
    have N1292 := Fr.app N1291 N1292q
    obtain ⟨Lw1292, X1292, N1292⟩ := own_locG X1292 N1292
    refine GlW.st (g' := (mkF m 461 #[vI x0, vI x1, vI x2, vI x3, vI x4, vR b985, vR b1022, vI (1 : Int32), vI qi, vI qp, vI qx, vI qy, vI qc, vR b1228, vR b1249, vI (own_cs x1 x0 qc qi), vI (qx + (own_dx qi)), .unset, .unset, .unset] [(.int (own_dy qi)), (.int qy)])) (fun τ κ => st1292 _ κ) ?_
    refine GlW.st (g' := (mkF m 464 #[vI x0, vI x1, vI x2, vI x3, vI x4, vR b985, vR b1022, vI (1 : Int32), vI qi, vI qp, vI qx, vI qy, vI qc, vR b1228, vR b1249, vI (own_cs x1 x0 qc qi), vI (qx + (own_dx qi)), vI (qy + (own_dy qi)), .unset, .unset] [])) (fun τ κ => XS.iadd X1292.here hx rfl (hb hby at_461) rfl (XS.istore X1292.here hx rfl (hb hby at_462) rfl (l' := #[vI x0, vI x1, vI x2, vI x3, vI x4, vR b985, vR b1022, vI (1 : Int32), vI qi, vI qp, vI qx, vI qy, vI qc, vR b1228, vR b1249, vI (own_cs x1 x0 qc qi), vI (qx + (own_dx qi)), vI (qy + (own_dy qi)), .unset, .unset]) rfl κ)) ?_
    refine GlW.st (g' := (mkF m 467 #[vI x0, vI x1, vI x2, vI x3, vI x4, vR b985, vR b1022, vI (1 : Int32), vI qi, vI qp, vI qx, vI qy, vI qc, vR b1228, vR b1249, vI (own_cs x1 x0 qc qi), vI (qx + (own_dx qi)), vI (qy + (own_dy qi)), .unset, .unset] [(.int (1 : Int32)), (.int (qy + (own_dy qi)))])) (fun τ κ => XS.iload X1292.here hx rfl (hb hby at_464) rfl (XS.iconst X1292.here hx rfl (hb hby at_466) κ)) ?_
    refine GlW.st (g' := (mkF m 469 #[vI x0, vI x1, vI x2, vI x3, vI x4, vR b985, vR b1022, vI (1 : Int32), vI qi, vI qp, vI qx, vI qy, vI qc, vR b1228, vR b1249, vI (own_cs x1 x0 qc qi), vI (qx + (own_dx qi)), vI (qy + (own_dy qi)), .unset, .unset] [(.int (5 : Int32)), (.int ((qy + (own_dy qi)) + (1 : Int32)))])) (fun τ κ => XS.iadd X1292.here hx rfl (hb hby at_467) rfl (XS.iconst X1292.here hx rfl (hb hby at_468) κ)) ?_
    refine GlW.st (g' := (mkF m 472 #[vI x0, vI x1, vI x2, vI x3, vI x4, vR b985, vR b1022, vI (1 : Int32), vI qi, vI qp, vI qx, vI qy, vI qc, vR b1228, vR b1249, vI (own_cs x1 x0 qc qi), vI (qx + (own_dx qi)), vI (qy + (own_dy qi)), .unset, .unset] [(.int (qx + (own_dx qi))), (.int (((qy + (own_dy qi)) + (1 : Int32)) * (5 : Int32)))])) (fun τ κ => XS.imul X1292.here hx rfl (hb hby at_469) rfl (XS.iload X1292.here hx rfl (hb hby at_470) rfl κ)) ?_
    refine GlW.st (g' := (mkF m 474 #[vI x0, vI x1, vI x2, vI x3, vI x4, vR b985, vR b1022, vI (1 : Int32), vI qi, vI qp, vI qx, vI qy, vI qc, vR b1228, vR b1249, vI (own_cs x1 x0 qc qi), vI (qx + (own_dx qi)), vI (qy + (own_dy qi)), .unset, .unset] [(.int (1 : Int32)), (.int ((((qy + (own_dy qi)) + (1 : Int32)) * (5 : Int32)) + (qx + (own_dx qi))))])) (fun τ κ => XS.iadd X1292.here hx rfl (hb hby at_472) rfl (XS.iconst X1292.here hx rfl (hb hby at_473) κ)) ?_
    refine GlW.st (g' := (mkF m 477 #[vI x0, vI x1, vI x2, vI x3, vI x4, vR b985, vR b1022, vI (1 : Int32), vI qi, vI qp, vI qx, vI qy, vI qc, vR b1228, vR b1249, vI (own_cs x1 x0 qc qi), vI (qx + (own_dx qi)), vI (qy + (own_dy qi)), vI (((((qy + (own_dy qi)) + (1 : Int32)) * (5 : Int32)) + (qx + (own_dx qi))) + (1 : Int32)), .unset] [])) (fun τ κ => XS.iadd X1292.here hx rfl (hb hby at_474) rfl (XS.istore X1292.here hx rfl (hb hby at_475) rfl (l' := #[vI x0, vI x1, vI x2, vI x3, vI x4, vR b985, vR b1022, vI (1 : Int32), vI qi, vI qp, vI qx, vI qy, vI qc, vR b1228, vR b1249, vI (own_cs x1 x0 qc qi), vI (qx + (own_dx qi)), vI (qy + (own_dy qi)), vI (((((qy + (own_dy qi)) + (1 : Int32)) * (5 : Int32)) + (qx + (own_dx qi))) + (1 : Int32)), .unset]) rfl κ)) ?_
    refine GlW.st (g' := (mkF m 481 #[vI x0, vI x1, vI x2, vI x3, vI x4, vR b985, vR b1022, vI (1 : Int32), vI qi, vI qp, vI qx, vI qy, vI qc, vR b1228, vR b1249, vI (own_cs x1 x0 qc qi), vI (qx + (own_dx qi)), vI (qy + (own_dy qi)), vI (((((qy + (own_dy qi)) + (1 : Int32)) * (5 : Int32)) + (qx + (own_dx qi))) + (1 : Int32)), .unset] [(.int (((((qy + (own_dy qi)) + (1 : Int32)) * (5 : Int32)) + (qx + (own_dx qi))) + (1 : Int32))), (.ref b1022)])) (fun τ κ => XS.aload X1292.here hx rfl (hb hby at_477) rfl rfl (XS.iload X1292.here hx rfl (hb hby at_479) rfl κ)) ?_
    obtain ⟨cl_o1293, Ar_o1293, q_o1293, S_o1293, M_o1293, H_o1293, G_o1293⟩ := id V_1272
    have hin_o1293 : ¬ ((((((qy + (own_dy qi)) + (1 : Int32)) * (5 : Int32)) + (qx + (own_dx qi))) + (1 : Int32)) < 0 ∨ cl_o1293.slots.size ≤ ((((((qy + (own_dy qi)) + (1 : Int32)) * (5 : Int32)) + (qx + (own_dx qi))) + (1 : Int32))).toNatClampNeg) := inb_of S_o1293 TB.2.2.2.1
    refine GlW.st (g' := (mkF m 482 #[vI x0, vI x1, vI x2, vI x3, vI x4, vR b985, vR b1022, vI (1 : Int32), vI qi, vI qp, vI qx, vI qy, vI qc, vR b1228, vR b1249, vI (own_cs x1 x0 qc qi), vI (qx + (own_dx qi)), vI (qy + (own_dy qi)), vI (((((qy + (own_dy qi)) + (1 : Int32)) * (5 : Int32)) + (qx + (own_dx qi))) + (1 : Int32)), .unset] [(.int (own_bit x1 (qc + (own_st qi))))])) (fun τ κ => X1292.baloadBooleans hx (j := (((((qy + (own_dy qi)) + (1 : Int32)) * (5 : Int32)) + (qx + (own_dx qi))) + (1 : Int32))) (v := (.int (own_bit x1 (qc + (own_st qi))))) (by rw [e1292]; exact Ar_o1293.1) (State.isArrayOf_alike hZ1238.alike Ar_o1293.2.1) Ar_o1293.2.2 hin_o1293 ((H_o1293 _ (Nat.lt_of_not_le fun q => hin_o1293 (Or.inr q))).trans (congrArg some ((HB _ TB.2.2.2.1.1 TB.2.2.2.1.2).trans (congrArg (fun z => Value.int (own_bit x1 z)) TB.2.2.2.2.1)))) (g := (mkF m 481 #[vI x0, vI x1, vI x2, vI x3, vI x4, vR b985, vR b1022, vI (1 : Int32), vI qi, vI qp, vI qx, vI qy, vI qc, vR b1228, vR b1249, vI (own_cs x1 x0 qc qi), vI (qx + (own_dx qi)), vI (qy + (own_dy qi)), vI (((((qy + (own_dy qi)) + (1 : Int32)) * (5 : Int32)) + (qx + (own_dx qi))) + (1 : Int32)), .unset] [(.int (((((qy + (own_dy qi)) + (1 : Int32)) * (5 : Int32)) + (qx + (own_dx qi))) + (1 : Int32))), (.ref b1022)])) rfl rfl (hb hby at_481) _ κ) ?_
    by_cases hc1294 : (own_bit x1 (qc + (own_st qi))) = (0 : Int32)
    · -- pc 482: (own_bit x1 (qc + (own_st qi))) = (0 : Int32)
      refine GlW.st (g' := (mkF m 493 #[vI x0, vI x1, vI x2, vI x3, vI x4, vR b985, vR b1022, vI (1 : Int32), vI qi, vI qp, vI qx, vI qy, vI qc, vR b1228, vR b1249, vI (own_cs x1 x0 qc qi), vI (qx + (own_dx qi)), vI (qy + (own_dy qi)), vI (((((qy + (own_dy qi)) + (1 : Int32)) * (5 : Int32)) + (qx + (own_dx qi))) + (1 : Int32)), .unset] [(.int qi)])) (fun τ κ => XS.ifYes X1292.here hx rfl (pc0 := 482) (pc' := 491) rfl (hb hby at_482) rfl ((if0 _ _).trans (teq hc1294).1) (by decide) (by decide) (XS.iload X1292.here hx rfl (hb hby at_491) rfl κ)) ?_
      refine GlW.st (g' := (mkF m 494 #[vI x0, vI x1, vI x2, vI x3, vI x4, vR b985, vR b1022, vI (1 : Int32), vI qi, vI qp, vI qx, vI qy, vI qc, vR b1228, vR b1249, vI (own_cs x1 x0 qc qi), vI (qx + (own_dx qi)), vI (qy + (own_dy qi)), vI (((((qy + (own_dy qi)) + (1 : Int32)) * (5 : Int32)) + (qx + (own_dx qi))) + (1 : Int32)), .unset] [(.int (4 : Int32)), (.int qi)])) (fun τ κ => XS.iconst X1292.here hx rfl (hb hby at_493) κ) ?_
      by_cases hc1295 : qi < (4 : Int32)
      · -- pc 494: qi < (4 : Int32)
        refine GlW.st (g' := (mkF m 498 #[vI x0, vI x1, vI x2, vI x3, vI x4, vR b985, vR b1022, vI (1 : Int32), vI qi, vI qp, vI qx, vI qy, vI qc, vR b1228, vR b1249, vI (own_cs x1 x0 qc qi), vI (qx + (own_dx qi)), vI (qy + (own_dy qi)), vI (((((qy + (own_dy qi)) + (1 : Int32)) * (5 : Int32)) + (qx + (own_dx qi))) + (1 : Int32)), .unset] [(.int (1 : Int32))])) (fun τ κ => XS.icmpNo X1292.here hx rfl (hb hby at_494) rfl (tlt hc1295).2.1 (XS.iconst X1292.here hx rfl (hb hby at_497) κ)) ?_
        refine GlW.st (g' := (mkF m 532 #[vI x0, vI x1, vI x2, vI x3, vI x4, vR b985, vR b1022, vI (1 : Int32), vI qi, vI qp, vI qx, vI qy, vI qc, vR b1228, vR b1249, vI (own_cs x1 x0 qc qi), vI (qx + (own_dx qi)), vI (qy + (own_dy qi)), vI (((((qy + (own_dy qi)) + (1 : Int32)) * (5 : Int32)) + (qx + (own_dx qi))) + (1 : Int32)), vI (1 : Int32)] [])) (fun τ κ => XS.istore X1292.here hx rfl (hb hby at_498) rfl (l' := #[vI x0, vI x1, vI x2, vI x3, vI x4, vR b985, vR b1022, vI (1 : Int32), vI qi, vI qp, vI qx, vI qy, vI qc, vR b1228, vR b1249, vI (own_cs x1 x0 qc qi), vI (qx + (own_dx qi)), vI (qy + (own_dy qi)), vI (((((qy + (own_dy qi)) + (1 : Int32)) * (5 : Int32)) + (qx + (own_dx qi))) + (1 : Int32)), vI (1 : Int32)]) rfl (XS.goto X1292.here hx rfl (pc0 := 500) (pc' := 532) rfl (hb hby at_500) (by decide) (by decide) κ)) ?_
        refine GlW.st (g' := (mkF m 536 #[vI x0, vI x1, vI x2, vI x3, vI x4, vR b985, vR b1022, vI (1 : Int32), vI qi, vI qp, vI qx, vI qy, vI qc, vR b1228, vR b1249, vI (own_cs x1 x0 qc qi), vI (qx + (own_dx qi)), vI (qy + (own_dy qi)), vI (((((qy + (own_dy qi)) + (1 : Int32)) * (5 : Int32)) + (qx + (own_dx qi))) + (1 : Int32)), vI (1 : Int32)] [(.int (1 : Int32)), (.int (own_cs x1 x0 qc qi))])) (fun τ κ => XS.iload X1292.here hx rfl (hb hby at_532) rfl (XS.iload X1292.here hx rfl (hb hby at_534) rfl κ)) ?_
        have hc1296 : (own_cs x1 x0 qc qi) = (1 : Int32) := by simp only [own_cs, L1, L2, hc1294, hc1295, own_10, own_00, if_true, if_false]
        refine GlW.st (g' := (mkF m 540 #[vI x0, vI x1, vI x2, vI x3, vI x4, vR b985, vR b1022, vI (1 : Int32), vI qi, vI qp, vI qx, vI qy, vI qc, vR b1228, vR b1249, vI (own_cs x1 x0 qc qi), vI (qx + (own_dx qi)), vI (qy + (own_dy qi)), vI (((((qy + (own_dy qi)) + (1 : Int32)) * (5 : Int32)) + (qx + (own_dx qi))) + (1 : Int32)), vI (1 : Int32)] [(.int (1 : Int32))])) (fun τ κ => XS.icmpNo X1292.here hx rfl (hb hby at_536) rfl (teq hc1296).2 (XS.iconst X1292.here hx rfl (hb hby at_539) κ)) ?_
        refine GlW.st (g' := (mkF m 544 #[vI x0, vI x1, vI x2, vI x3, vI x4, vR b985, vR b1022, vI (1 : Int32), vI qi, vI qp, vI qx, vI qy, vI qc, vR b1228, vR b1249, vI (own_cs x1 x0 qc qi), vI (qx + (own_dx qi)), vI (qy + (own_dy qi)), vI (((((qy + (own_dy qi)) + (1 : Int32)) * (5 : Int32)) + (qx + (own_dx qi))) + (1 : Int32)), vI (1 : Int32)] [(.int (1 : Int32))])) (fun τ κ => XS.goto X1292.here hx rfl (pc0 := 540) (pc' := 544) rfl (hb hby at_540) (by decide) (by decide) κ) ?_
        exact GlW.ret hS1238 hk1270 (v := some (.int (1 : Int32))) X1292 Bd.notSynchronized (fun h => by rw [Bd.returns] at h; cases h) e1292 (fun fs hr => retN X1292 hx (t := .boolean) Bd.returns (by simp) (hb hby at_544) hr) (by decide) (by decide) ⟨rfl, N1292⟩
      · -- pc 494: not qi < (4 : Int32)
        refine GlW.st (g' := (mkF m 504 #[vI x0, vI x1, vI x2, vI x3, vI x4, vR b985, vR b1022, vI (1 : Int32), vI qi, vI qp, vI qx, vI qy, vI qc, vR b1228, vR b1249, vI (own_cs x1 x0 qc qi), vI (qx + (own_dx qi)), vI (qy + (own_dy qi)), vI (((((qy + (own_dy qi)) + (1 : Int32)) * (5 : Int32)) + (qx + (own_dx qi))) + (1 : Int32)), .unset] [(.int x0)])) (fun τ κ => XS.icmpYes X1292.here hx rfl (pc0 := 494) (pc' := 503) rfl (hb hby at_494) rfl (flt hc1295).2.1 (by decide) (by decide) (XS.iloadN X1292.here hx rfl (hb hby at_503) rfl κ)) ?_
        refine GlW.st (g' := (mkF m 508 #[vI x0, vI x1, vI x2, vI x3, vI x4, vR b985, vR b1022, vI (1 : Int32), vI qi, vI qp, vI qx, vI qy, vI qc, vR b1228, vR b1249, vI (own_cs x1 x0 qc qi), vI (qx + (own_dx qi)), vI (qy + (own_dy qi)), vI (((((qy + (own_dy qi)) + (1 : Int32)) * (5 : Int32)) + (qx + (own_dx qi))) + (1 : Int32)), .unset] [(.int qy), (.int (qx + (own_dx qi))), (.int x0)])) (fun τ κ => XS.iload X1292.here hx rfl (hb hby at_504) rfl (XS.iload X1292.here hx rfl (hb hby at_506) rfl κ)) ?_
        obtain ⟨rv1297, _, ⟨T1297, L1297, k1297, n1297⟩, -, X1297, ⟨Lc1297, hQ1297, l1297, y1297, z1297⟩, st1297⟩ := Jvm.LawKit.callS X1292 hx (y := (⟨"com/example/wanderpath/wanderpath/GridCanStepPinLaw", "passable", "(III)Z"⟩ : MethodName)) hown1238 (mvT hZ1238 (w149_ hw)) (mvT hZ1238 (w150_ hw)) (mvT hZ1238 (w3_ hw)) (mvT hZ1238 (w151_ hw)) (by decide) (backOf (W := 0) (rm27 l Z a0 hw [] x0 (qx + (own_dx qi)) qy T1270.heap n0 Z1270 ) hZ1238 (w151_ hw) (w3_ hw) (by decide) (by decide)) (g := (mkF m 508 #[vI x0, vI x1, vI x2, vI x3, vI x4, vR b985, vR b1022, vI (1 : Int32), vI qi, vI qp, vI qx, vI qy, vI qc, vR b1228, vR b1249, vI (own_cs x1 x0 qc qi), vI (qx + (own_dx qi)), vI (qy + (own_dy qi)), vI (((((qy + (own_dy qi)) + (1 : Int32)) * (5 : Int32)) + (qx + (own_dx qi))) + (1 : Int32)), .unset] [(.int qy), (.int (qx + (own_dx qi))), (.int x0)])) rfl (by rw [hml]; rfl) (argsL := [(.int x0), (.int (qx + (own_dx qi))), (.int qy)]) (rest := []) (lenOf pd_13 rfl) rfl (by show 2 * 0 + _ ≤ _; exact Nat.le_of_eq rfl) (hb hby at_508) (fun _ _ => ⟨rfl, e1292, Nat.le_of_ble_eq_true rfl, Nat.le_of_ble_eq_true rfl⟩)
        dsimp only [Pt.U, Pt.locs, Pt.cells, Pt.slots] at X1297 l1297 y1297 z1297 st1297 hQ1297
        subst l1297 y1297 z1297
        have X1297 := X1297.more (cells' := 10) (slots' := 108) (by decide) (by decide)
        obtain ⟨hq1297, N1297q, e1297⟩ := hQ1297
        have hq1297 : rv1297 = some (.int (own_pass x0 (qx + (own_dx qi)) qy)) := hq1297
        subst hq1297
        have N1297 := Fr.app N1292 N1297q
        obtain ⟨Lw1297, X1297, N1297⟩ := own_locG X1297 N1297
        refine GlW.st (g' := (mkF m 511 #[vI x0, vI x1, vI x2, vI x3, vI x4, vR b985, vR b1022, vI (1 : Int32), vI qi, vI qp, vI qx, vI qy, vI qc, vR b1228, vR b1249, vI (own_cs x1 x0 qc qi), vI (qx + (own_dx qi)), vI (qy + (own_dy qi)), vI (((((qy + (own_dy qi)) + (1 : Int32)) * (5 : Int32)) + (qx + (own_dx qi))) + (1 : Int32)), .unset] [(.int (own_pass x0 (qx + (own_dx qi)) qy))])) (fun τ κ => st1297 _ κ) ?_
        by_cases hc1298 : (own_pass x0 (qx + (own_dx qi)) qy) = (0 : Int32)
        · -- pc 511: (own_pass x0 (qx + (own_dx qi)) qy) = (0 : Int32)
          refine GlW.st (g' := (mkF m 530 #[vI x0, vI x1, vI x2, vI x3, vI x4, vR b985, vR b1022, vI (1 : Int32), vI qi, vI qp, vI qx, vI qy, vI qc, vR b1228, vR b1249, vI (own_cs x1 x0 qc qi), vI (qx + (own_dx qi)), vI (qy + (own_dy qi)), vI (((((qy + (own_dy qi)) + (1 : Int32)) * (5 : Int32)) + (qx + (own_dx qi))) + (1 : Int32)), .unset] [(.int (0 : Int32))])) (fun τ κ => XS.ifYes X1297.here hx rfl (pc0 := 511) (pc' := 529) rfl (hb hby at_511) rfl ((if0 _ _).trans (teq hc1298).1) (by decide) (by decide) (XS.iconst X1297.here hx rfl (hb hby at_529) κ)) ?_
          refine GlW.st (g' := (mkF m 534 #[vI x0, vI x1, vI x2, vI x3, vI x4, vR b985, vR b1022, vI (1 : Int32), vI qi, vI qp, vI qx, vI qy, vI qc, vR b1228, vR b1249, vI (own_cs x1 x0 qc qi), vI (qx + (own_dx qi)), vI (qy + (own_dy qi)), vI (((((qy + (own_dy qi)) + (1 : Int32)) * (5 : Int32)) + (qx + (own_dx qi))) + (1 : Int32)), vI (0 : Int32)] [(.int (own_cs x1 x0 qc qi))])) (fun τ κ => XS.istore X1297.here hx rfl (hb hby at_530) rfl (l' := #[vI x0, vI x1, vI x2, vI x3, vI x4, vR b985, vR b1022, vI (1 : Int32), vI qi, vI qp, vI qx, vI qy, vI qc, vR b1228, vR b1249, vI (own_cs x1 x0 qc qi), vI (qx + (own_dx qi)), vI (qy + (own_dy qi)), vI (((((qy + (own_dy qi)) + (1 : Int32)) * (5 : Int32)) + (qx + (own_dx qi))) + (1 : Int32)), vI (0 : Int32)]) rfl (XS.iload X1297.here hx rfl (hb hby at_532) rfl κ)) ?_
          refine GlW.st (g' := (mkF m 536 #[vI x0, vI x1, vI x2, vI x3, vI x4, vR b985, vR b1022, vI (1 : Int32), vI qi, vI qp, vI qx, vI qy, vI qc, vR b1228, vR b1249, vI (own_cs x1 x0 qc qi), vI (qx + (own_dx qi)), vI (qy + (own_dy qi)), vI (((((qy + (own_dy qi)) + (1 : Int32)) * (5 : Int32)) + (qx + (own_dx qi))) + (1 : Int32)), vI (0 : Int32)] [(.int (0 : Int32)), (.int (own_cs x1 x0 qc qi))])) (fun τ κ => XS.iload X1297.here hx rfl (hb hby at_534) rfl κ) ?_
          have hc1299 : (own_cs x1 x0 qc qi) = (0 : Int32) := by simp only [own_cs, L1, L2, hc1294, hc1295, hc1298, own_10, own_00, if_true, if_false]
          refine GlW.st (g' := (mkF m 540 #[vI x0, vI x1, vI x2, vI x3, vI x4, vR b985, vR b1022, vI (1 : Int32), vI qi, vI qp, vI qx, vI qy, vI qc, vR b1228, vR b1249, vI (own_cs x1 x0 qc qi), vI (qx + (own_dx qi)), vI (qy + (own_dy qi)), vI (((((qy + (own_dy qi)) + (1 : Int32)) * (5 : Int32)) + (qx + (own_dx qi))) + (1 : Int32)), vI (0 : Int32)] [(.int (1 : Int32))])) (fun τ κ => XS.icmpNo X1297.here hx rfl (hb hby at_536) rfl (teq hc1299).2 (XS.iconst X1297.here hx rfl (hb hby at_539) κ)) ?_
          refine GlW.st (g' := (mkF m 544 #[vI x0, vI x1, vI x2, vI x3, vI x4, vR b985, vR b1022, vI (1 : Int32), vI qi, vI qp, vI qx, vI qy, vI qc, vR b1228, vR b1249, vI (own_cs x1 x0 qc qi), vI (qx + (own_dx qi)), vI (qy + (own_dy qi)), vI (((((qy + (own_dy qi)) + (1 : Int32)) * (5 : Int32)) + (qx + (own_dx qi))) + (1 : Int32)), vI (0 : Int32)] [(.int (1 : Int32))])) (fun τ κ => XS.goto X1297.here hx rfl (pc0 := 540) (pc' := 544) rfl (hb hby at_540) (by decide) (by decide) κ) ?_
          exact GlW.ret hS1238 hk1270 (v := some (.int (1 : Int32))) X1297 Bd.notSynchronized (fun h => by rw [Bd.returns] at h; cases h) e1297 (fun fs hr => retN X1297 hx (t := .boolean) Bd.returns (by simp) (hb hby at_544) hr) (by decide) (by decide) ⟨rfl, N1297⟩
        · -- pc 511: not (own_pass x0 (qx + (own_dx qi)) qy) = (0 : Int32)
          refine GlW.st (g' := (mkF m 515 #[vI x0, vI x1, vI x2, vI x3, vI x4, vR b985, vR b1022, vI (1 : Int32), vI qi, vI qp, vI qx, vI qy, vI qc, vR b1228, vR b1249, vI (own_cs x1 x0 qc qi), vI (qx + (own_dx qi)), vI (qy + (own_dy qi)), vI (((((qy + (own_dy qi)) + (1 : Int32)) * (5 : Int32)) + (qx + (own_dx qi))) + (1 : Int32)), .unset] [(.int x0)])) (fun τ κ => XS.ifNo X1297.here hx rfl (hb hby at_511) rfl ((if0 _ _).trans (feq hc1298).1) (XS.iloadN X1297.here hx rfl (hb hby at_514) rfl κ)) ?_
          refine GlW.st (g' := (mkF m 519 #[vI x0, vI x1, vI x2, vI x3, vI x4, vR b985, vR b1022, vI (1 : Int32), vI qi, vI qp, vI qx, vI qy, vI qc, vR b1228, vR b1249, vI (own_cs x1 x0 qc qi), vI (qx + (own_dx qi)), vI (qy + (own_dy qi)), vI (((((qy + (own_dy qi)) + (1 : Int32)) * (5 : Int32)) + (qx + (own_dx qi))) + (1 : Int32)), .unset] [(.int (qy + (own_dy qi))), (.int qx), (.int x0)])) (fun τ κ => XS.iload X1297.here hx rfl (hb hby at_515) rfl (XS.iload X1297.here hx rfl (hb hby at_517) rfl κ)) ?_
          obtain ⟨rv1300, _, ⟨T1300, L1300, k1300, n1300⟩, -, X1300, ⟨Lc1300, hQ1300, l1300, y1300, z1300⟩, st1300⟩ := Jvm.LawKit.callS X1297 hx (y := (⟨"com/example/wanderpath/wanderpath/GridCanStepPinLaw", "passable", "(III)Z"⟩ : MethodName)) hown1238 (mvT hZ1238 (w149_ hw)) (mvT hZ1238 (w150_ hw)) (mvT hZ1238 (w3_ hw)) (mvT hZ1238 (w151_ hw)) (by decide) (backOf (W := 0) (rm27 l Z a0 hw [] x0 qx (qy + (own_dy qi)) T1270.heap n0 Z1270 ) hZ1238 (w151_ hw) (w3_ hw) (by decide) (by decide)) (g := (mkF m 519 #[vI x0, vI x1, vI x2, vI x3, vI x4, vR b985, vR b1022, vI (1 : Int32), vI qi, vI qp, vI qx, vI qy, vI qc, vR b1228, vR b1249, vI (own_cs x1 x0 qc qi), vI (qx + (own_dx qi)), vI (qy + (own_dy qi)), vI (((((qy + (own_dy qi)) + (1 : Int32)) * (5 : Int32)) + (qx + (own_dx qi))) + (1 : Int32)), .unset] [(.int (qy + (own_dy qi))), (.int qx), (.int x0)])) rfl (by rw [hml]; rfl) (argsL := [(.int x0), (.int qx), (.int (qy + (own_dy qi)))]) (rest := []) (lenOf pd_13 rfl) rfl (by show 2 * 0 + _ ≤ _; exact Nat.le_of_eq rfl) (hb hby at_519) (fun _ _ => ⟨rfl, e1297, Nat.le_of_ble_eq_true rfl, Nat.le_of_ble_eq_true rfl⟩)
          dsimp only [Pt.U, Pt.locs, Pt.cells, Pt.slots] at X1300 l1300 y1300 z1300 st1300 hQ1300
          subst l1300 y1300 z1300
          have X1300 := X1300.more (cells' := 10) (slots' := 108) (by decide) (by decide)
          obtain ⟨hq1300, N1300q, e1300⟩ := hQ1300
          have hq1300 : rv1300 = some (.int (own_pass x0 qx (qy + (own_dy qi)))) := hq1300
          subst hq1300
          have N1300 := Fr.app N1297 N1300q
          obtain ⟨Lw1300, X1300, N1300⟩ := own_locG X1300 N1300
          refine GlW.st (g' := (mkF m 522 #[vI x0, vI x1, vI x2, vI x3, vI x4, vR b985, vR b1022, vI (1 : Int32), vI qi, vI qp, vI qx, vI qy, vI qc, vR b1228, vR b1249, vI (own_cs x1 x0 qc qi), vI (qx + (own_dx qi)), vI (qy + (own_dy qi)), vI (((((qy + (own_dy qi)) + (1 : Int32)) * (5 : Int32)) + (qx + (own_dx qi))) + (1 : Int32)), .unset] [(.int (own_pass x0 qx (qy + (own_dy qi))))])) (fun τ κ => st1300 _ κ) ?_
          by_cases hc1301 : (own_pass x0 qx (qy + (own_dy qi))) = (0 : Int32)
          · -- pc 522: (own_pass x0 qx (qy + (own_dy qi))) = (0 : Int32)
            refine GlW.st (g' := (mkF m 530 #[vI x0, vI x1, vI x2, vI x3, vI x4, vR b985, vR b1022, vI (1 : Int32), vI qi, vI qp, vI qx, vI qy, vI qc, vR b1228, vR b1249, vI (own_cs x1 x0 qc qi), vI (qx + (own_dx qi)), vI (qy + (own_dy qi)), vI (((((qy + (own_dy qi)) + (1 : Int32)) * (5 : Int32)) + (qx + (own_dx qi))) + (1 : Int32)), .unset] [(.int (0 : Int32))])) (fun τ κ => XS.ifYes X1300.here hx rfl (pc0 := 522) (pc' := 529) rfl (hb hby at_522) rfl ((if0 _ _).trans (teq hc1301).1) (by decide) (by decide) (XS.iconst X1300.here hx rfl (hb hby at_529) κ)) ?_
            refine GlW.st (g' := (mkF m 534 #[vI x0, vI x1, vI x2, vI x3, vI x4, vR b985, vR b1022, vI (1 : Int32), vI qi, vI qp, vI qx, vI qy, vI qc, vR b1228, vR b1249, vI (own_cs x1 x0 qc qi), vI (qx + (own_dx qi)), vI (qy + (own_dy qi)), vI (((((qy + (own_dy qi)) + (1 : Int32)) * (5 : Int32)) + (qx + (own_dx qi))) + (1 : Int32)), vI (0 : Int32)] [(.int (own_cs x1 x0 qc qi))])) (fun τ κ => XS.istore X1300.here hx rfl (hb hby at_530) rfl (l' := #[vI x0, vI x1, vI x2, vI x3, vI x4, vR b985, vR b1022, vI (1 : Int32), vI qi, vI qp, vI qx, vI qy, vI qc, vR b1228, vR b1249, vI (own_cs x1 x0 qc qi), vI (qx + (own_dx qi)), vI (qy + (own_dy qi)), vI (((((qy + (own_dy qi)) + (1 : Int32)) * (5 : Int32)) + (qx + (own_dx qi))) + (1 : Int32)), vI (0 : Int32)]) rfl (XS.iload X1300.here hx rfl (hb hby at_532) rfl κ)) ?_
            refine GlW.st (g' := (mkF m 536 #[vI x0, vI x1, vI x2, vI x3, vI x4, vR b985, vR b1022, vI (1 : Int32), vI qi, vI qp, vI qx, vI qy, vI qc, vR b1228, vR b1249, vI (own_cs x1 x0 qc qi), vI (qx + (own_dx qi)), vI (qy + (own_dy qi)), vI (((((qy + (own_dy qi)) + (1 : Int32)) * (5 : Int32)) + (qx + (own_dx qi))) + (1 : Int32)), vI (0 : Int32)] [(.int (0 : Int32)), (.int (own_cs x1 x0 qc qi))])) (fun τ κ => XS.iload X1300.here hx rfl (hb hby at_534) rfl κ) ?_
            have hc1302 : (own_cs x1 x0 qc qi) = (0 : Int32) := by simp only [own_cs, L1, L2, hc1294, hc1295, hc1298, hc1301, own_10, own_00, if_true, if_false]
            refine GlW.st (g' := (mkF m 540 #[vI x0, vI x1, vI x2, vI x3, vI x4, vR b985, vR b1022, vI (1 : Int32), vI qi, vI qp, vI qx, vI qy, vI qc, vR b1228, vR b1249, vI (own_cs x1 x0 qc qi), vI (qx + (own_dx qi)), vI (qy + (own_dy qi)), vI (((((qy + (own_dy qi)) + (1 : Int32)) * (5 : Int32)) + (qx + (own_dx qi))) + (1 : Int32)), vI (0 : Int32)] [(.int (1 : Int32))])) (fun τ κ => XS.icmpNo X1300.here hx rfl (hb hby at_536) rfl (teq hc1302).2 (XS.iconst X1300.here hx rfl (hb hby at_539) κ)) ?_
            refine GlW.st (g' := (mkF m 544 #[vI x0, vI x1, vI x2, vI x3, vI x4, vR b985, vR b1022, vI (1 : Int32), vI qi, vI qp, vI qx, vI qy, vI qc, vR b1228, vR b1249, vI (own_cs x1 x0 qc qi), vI (qx + (own_dx qi)), vI (qy + (own_dy qi)), vI (((((qy + (own_dy qi)) + (1 : Int32)) * (5 : Int32)) + (qx + (own_dx qi))) + (1 : Int32)), vI (0 : Int32)] [(.int (1 : Int32))])) (fun τ κ => XS.goto X1300.here hx rfl (pc0 := 540) (pc' := 544) rfl (hb hby at_540) (by decide) (by decide) κ) ?_
            exact GlW.ret hS1238 hk1270 (v := some (.int (1 : Int32))) X1300 Bd.notSynchronized (fun h => by rw [Bd.returns] at h; cases h) e1300 (fun fs hr => retN X1300 hx (t := .boolean) Bd.returns (by simp) (hb hby at_544) hr) (by decide) (by decide) ⟨rfl, N1300⟩
          · -- pc 522: not (own_pass x0 qx (qy + (own_dy qi))) = (0 : Int32)
            refine GlW.st (g' := (mkF m 526 #[vI x0, vI x1, vI x2, vI x3, vI x4, vR b985, vR b1022, vI (1 : Int32), vI qi, vI qp, vI qx, vI qy, vI qc, vR b1228, vR b1249, vI (own_cs x1 x0 qc qi), vI (qx + (own_dx qi)), vI (qy + (own_dy qi)), vI (((((qy + (own_dy qi)) + (1 : Int32)) * (5 : Int32)) + (qx + (own_dx qi))) + (1 : Int32)), .unset] [(.int (1 : Int32))])) (fun τ κ => XS.ifNo X1300.here hx rfl (hb hby at_522) rfl ((if0 _ _).trans (feq hc1301).1) (XS.iconst X1300.here hx rfl (hb hby at_525) κ)) ?_
            refine GlW.st (g' := (mkF m 532 #[vI x0, vI x1, vI x2, vI x3, vI x4, vR b985, vR b1022, vI (1 : Int32), vI qi, vI qp, vI qx, vI qy, vI qc, vR b1228, vR b1249, vI (own_cs x1 x0 qc qi), vI (qx + (own_dx qi)), vI (qy + (own_dy qi)), vI (((((qy + (own_dy qi)) + (1 : Int32)) * (5 : Int32)) + (qx + (own_dx qi))) + (1 : Int32)), vI (1 : Int32)] [])) (fun τ κ => XS.goto X1300.here hx rfl (pc0 := 526) (pc' := 530) rfl (hb hby at_526) (by decide) (by decide) (XS.istore X1300.here hx rfl (hb hby at_530) rfl (l' := #[vI x0, vI x1, vI x2, vI x3, vI x4, vR b985, vR b1022, vI (1 : Int32), vI qi, vI qp, vI qx, vI qy, vI qc, vR b1228, vR b1249, vI (own_cs x1 x0 qc qi), vI (qx + (own_dx qi)), vI (qy + (own_dy qi)), vI (((((qy + (own_dy qi)) + (1 : Int32)) * (5 : Int32)) + (qx + (own_dx qi))) + (1 : Int32)), vI (1 : Int32)]) rfl κ)) ?_
            refine GlW.st (g' := (mkF m 536 #[vI x0, vI x1, vI x2, vI x3, vI x4, vR b985, vR b1022, vI (1 : Int32), vI qi, vI qp, vI qx, vI qy, vI qc, vR b1228, vR b1249, vI (own_cs x1 x0 qc qi), vI (qx + (own_dx qi)), vI (qy + (own_dy qi)), vI (((((qy + (own_dy qi)) + (1 : Int32)) * (5 : Int32)) + (qx + (own_dx qi))) + (1 : Int32)), vI (1 : Int32)] [(.int (1 : Int32)), (.int (own_cs x1 x0 qc qi))])) (fun τ κ => XS.iload X1300.here hx rfl (hb hby at_532) rfl (XS.iload X1300.here hx rfl (hb hby at_534) rfl κ)) ?_
            have hc1303 : (own_cs x1 x0 qc qi) = (1 : Int32) := by simp only [own_cs, L1, L2, hc1294, hc1295, hc1298, hc1301, own_10, own_00, if_true, if_false]
            refine GlW.st (g' := (mkF m 540 #[vI x0, vI x1, vI x2, vI x3, vI x4, vR b985, vR b1022, vI (1 : Int32), vI qi, vI qp, vI qx, vI qy, vI qc, vR b1228, vR b1249, vI (own_cs x1 x0 qc qi), vI (qx + (own_dx qi)), vI (qy + (own_dy qi)), vI (((((qy + (own_dy qi)) + (1 : Int32)) * (5 : Int32)) + (qx + (own_dx qi))) + (1 : Int32)), vI (1 : Int32)] [(.int (1 : Int32))])) (fun τ κ => XS.icmpNo X1300.here hx rfl (hb hby at_536) rfl (teq hc1303).2 (XS.iconst X1300.here hx rfl (hb hby at_539) κ)) ?_
            refine GlW.st (g' := (mkF m 544 #[vI x0, vI x1, vI x2, vI x3, vI x4, vR b985, vR b1022, vI (1 : Int32), vI qi, vI qp, vI qx, vI qy, vI qc, vR b1228, vR b1249, vI (own_cs x1 x0 qc qi), vI (qx + (own_dx qi)), vI (qy + (own_dy qi)), vI (((((qy + (own_dy qi)) + (1 : Int32)) * (5 : Int32)) + (qx + (own_dx qi))) + (1 : Int32)), vI (1 : Int32)] [(.int (1 : Int32))])) (fun τ κ => XS.goto X1300.here hx rfl (pc0 := 540) (pc' := 544) rfl (hb hby at_540) (by decide) (by decide) κ) ?_
            exact GlW.ret hS1238 hk1270 (v := some (.int (1 : Int32))) X1300 Bd.notSynchronized (fun h => by rw [Bd.returns] at h; cases h) e1300 (fun fs hr => retN X1300 hx (t := .boolean) Bd.returns (by simp) (hb hby at_544) hr) (by decide) (by decide) ⟨rfl, N1300⟩
    · -- pc 482: not (own_bit x1 (qc + (own_st qi))) = (0 : Int32)
      refine GlW.st (g' := (mkF m 486 #[vI x0, vI x1, vI x2, vI x3, vI x4, vR b985, vR b1022, vI (1 : Int32), vI qi, vI qp, vI qx, vI qy, vI qc, vR b1228, vR b1249, vI (own_cs x1 x0 qc qi), vI (qx + (own_dx qi)), vI (qy + (own_dy qi)), vI (((((qy + (own_dy qi)) + (1 : Int32)) * (5 : Int32)) + (qx + (own_dx qi))) + (1 : Int32)), .unset] [(.int (0 : Int32))])) (fun τ κ => XS.ifNo X1292.here hx rfl (hb hby at_482) rfl ((if0 _ _).trans (feq hc1294).1) (XS.iconst X1292.here hx rfl (hb hby at_485) κ)) ?_
      refine GlW.st (g' := (mkF m 532 #[vI x0, vI x1, vI x2, vI x3, vI x4, vR b985, vR b1022, vI (1 : Int32), vI qi, vI qp, vI qx, vI qy, vI qc, vR b1228, vR b1249, vI (own_cs x1 x0 qc qi), vI (qx + (own_dx qi)), vI (qy + (own_dy qi)), vI (((((qy + (own_dy qi)) + (1 : Int32)) * (5 : Int32)) + (qx + (own_dx qi))) + (1 : Int32)), vI (0 : Int32)] [])) (fun τ κ => XS.istore X1292.here hx rfl (hb hby at_486) rfl (l' := #[vI x0, vI x1, vI x2, vI x3, vI x4, vR b985, vR b1022, vI (1 : Int32), vI qi, vI qp, vI qx, vI qy, vI qc, vR b1228, vR b1249, vI (own_cs x1 x0 qc qi), vI (qx + (own_dx qi)), vI (qy + (own_dy qi)), vI (((((qy + (own_dy qi)) + (1 : Int32)) * (5 : Int32)) + (qx + (own_dx qi))) + (1 : Int32)), vI (0 : Int32)]) rfl (XS.goto X1292.here hx rfl (pc0 := 488) (pc' := 532) rfl (hb hby at_488) (by decide) (by decide) κ)) ?_
      refine GlW.st (g' := (mkF m 536 #[vI x0, vI x1, vI x2, vI x3, vI x4, vR b985, vR b1022, vI (1 : Int32), vI qi, vI qp, vI qx, vI qy, vI qc, vR b1228, vR b1249, vI (own_cs x1 x0 qc qi), vI (qx + (own_dx qi)), vI (qy + (own_dy qi)), vI (((((qy + (own_dy qi)) + (1 : Int32)) * (5 : Int32)) + (qx + (own_dx qi))) + (1 : Int32)), vI (0 : Int32)] [(.int (0 : Int32)), (.int (own_cs x1 x0 qc qi))])) (fun τ κ => XS.iload X1292.here hx rfl (hb hby at_532) rfl (XS.iload X1292.here hx rfl (hb hby at_534) rfl κ)) ?_
      have hc1304 : (own_cs x1 x0 qc qi) = (0 : Int32) := by simp only [own_cs, L1, L2, hc1294, own_10, own_00, if_true, if_false]
      refine GlW.st (g' := (mkF m 540 #[vI x0, vI x1, vI x2, vI x3, vI x4, vR b985, vR b1022, vI (1 : Int32), vI qi, vI qp, vI qx, vI qy, vI qc, vR b1228, vR b1249, vI (own_cs x1 x0 qc qi), vI (qx + (own_dx qi)), vI (qy + (own_dy qi)), vI (((((qy + (own_dy qi)) + (1 : Int32)) * (5 : Int32)) + (qx + (own_dx qi))) + (1 : Int32)), vI (0 : Int32)] [(.int (1 : Int32))])) (fun τ κ => XS.icmpNo X1292.here hx rfl (hb hby at_536) rfl (teq hc1304).2 (XS.iconst X1292.here hx rfl (hb hby at_539) κ)) ?_
      refine GlW.st (g' := (mkF m 544 #[vI x0, vI x1, vI x2, vI x3, vI x4, vR b985, vR b1022, vI (1 : Int32), vI qi, vI qp, vI qx, vI qy, vI qc, vR b1228, vR b1249, vI (own_cs x1 x0 qc qi), vI (qx + (own_dx qi)), vI (qy + (own_dy qi)), vI (((((qy + (own_dy qi)) + (1 : Int32)) * (5 : Int32)) + (qx + (own_dx qi))) + (1 : Int32)), vI (0 : Int32)] [(.int (1 : Int32))])) (fun τ κ => XS.goto X1292.here hx rfl (pc0 := 540) (pc' := 544) rfl (hb hby at_540) (by decide) (by decide) κ) ?_
      exact GlW.ret hS1238 hk1270 (v := some (.int (1 : Int32))) X1292 Bd.notSynchronized (fun h => by rw [Bd.returns] at h; cases h) e1292 (fun fs hr => retN X1292 hx (t := .boolean) Bd.returns (by simp) (hb hby at_544) hr) (by decide) (by decide) ⟨rfl, N1292⟩
set_option maxRecDepth 65536 in
set_option maxHeartbeats 40000000 in
theorem comes_1 {Post : Tables → Env → Array Value → State → Outcome → State → Prop} (hpost : ∀ tb e args s v u, (limb_1_1.after args s (.returned v) u = true ∧ limb_1_2.after args s (.returned v) u = true ∧ True) → ReturnedEndW s (.returned v) u (Jvm.fieldLocs frame_1_writes args s ++ Jvm.arrayLocs frame_1_arrays args s ++ Jvm.staticLocs frame_1_statics s) 32 1280 → Post tb e args s (.returned v) u) :
    ArmFor flags0 classFile x code maxLocals ret World_1 tables_1 room_1 Calls_1 rest_1 Pre_1 Post := by
  intro l hfl _ _ p e ha hc hk s m args below hf hA hF happ hP
  obtain ⟨hcalls, hrest, hpre⟩ := hP
  obtain ⟨-, -, -, hnamed, -, -, -, hat⟩ := (Spec.applies_iff hf).mp happ
  obtain ⟨hg, hn⟩ := and_e (Cond.before_iff.mp (show (Jvm.Cond.and given_1 narrow_1).before args s = true from hpre))
  obtain ⟨hcount, hg0⟩ := and_e hg
  obtain ⟨gi0, hg1⟩ := and_e hg0
  obtain ⟨gi1, hg2⟩ := and_e hg1
  obtain ⟨gi2, hg3⟩ := and_e hg2
  obtain ⟨gi3, hg4⟩ := and_e hg3
  have gi4 := hg4
  obtain ⟨w0, w1, w2, w3, w4, rfl⟩ : ∃ w0 w1 w2 w3 w4 : Value, args = #[w0, w1, w2, w3, w4] := by
    have hs : args.size = 5 := by simpa [Cond.value, given_1] using hcount
    obtain ⟨L⟩ := args
    match L, hs with
    | [w0, w1, w2, w3, w4], _ => exact ⟨w0, w1, w2, w3, w4, rfl⟩
  have hw := fun d (hd : d ∈ tables_1) => atoms_spec (ws := Jvm.Cond.code x code maxLocals ret :: tables_1) hat d (List.mem_cons_of_mem _ hd)
  obtain ⟨hsets, hown0⟩ := atoms_of _ (rest_1_c_eq ▸ (show rest_1_c.before _ s = true from hrest))
  have hr0 := Cond.before_iff.mp hown0
  obtain ⟨i0, ei0⟩ := is_v gi0
  obtain rfl : w0 = (.int i0) := Option.some.inj ei0
  obtain ⟨i1, ei1⟩ := is_v gi1
  obtain rfl : w1 = (.int i1) := Option.some.inj ei1
  obtain ⟨i2, ei2⟩ := is_v gi2
  obtain rfl : w2 = (.int i2) := Option.some.inj ei2
  obtain ⟨i3, ei3⟩ := is_v gi3
  obtain rfl : w3 = (.int i3) := Option.some.inj ei3
  obtain ⟨i4, ei4⟩ := is_v gi4
  obtain rfl : w4 = (.int i4) := Option.some.inj ei4
  obtain ⟨cn1305, cn1306⟩ := and_e hn
  obtain ⟨cn1307, cn1308⟩ := and_e cn1306
  obtain ⟨cn1309, cn1310⟩ := and_e cn1308
  obtain ⟨f4, ev_FOUR⟩ := exa_v cn1305
  have S4 := Sta.start ev_FOUR (Or.inr ⟨(w86_ hw), (w87_ hw)⟩)
  have eo_FOUR := (fld_at ev_FOUR).symm.trans (own_eqi cn1309)
  obtain ⟨e8, ev_EIGHT⟩ := exa_v cn1307
  have S8 := Sta.start ev_EIGHT (Or.inr ⟨(w86_ hw), (w100_ hw)⟩)
  have eo_EIGHT := (fld_at ev_EIGHT).symm.trans (own_eqi cn1310)
  have hfe : f4 ≠ e8 := by
    intro q
    rw [q] at eo_FOUR
    exact absurd (Value.int.inj (Option.some.inj (eo_FOUR.symm.trans eo_EIGHT))) (by decide)
  obtain ⟨cs, evc⟩ := is_v (Cond.before_iff.mp (hsets _ (List.mem_of_getElem? (i := 1) rfl)))
  have S0 := Sta.start evc (Or.inl (hsets _ (List.mem_of_getElem? (i := 0) rfl)))
  have hcs := own_ne0 (Cond.before_iff.mp (hsets _ (List.mem_of_getElem? (i := 2) rfl))) evc
  have hCH : CHv s own_EL s.vm s.heap := CHv.start (own_EW hw) hcalls.1 (hsets _ (List.mem_of_getElem? (i := 2) rfl)) (hw _ (List.mem_of_getElem? (i := 0) rfl)) (w30_ hw)
  obtain ⟨n, o, h1, h2, h3, _, L, rfl, ⟨rfl, N⟩, hq⟩ := rm0 l s _ hw tables_1 i0 i1 i2 i3 i4 cs e8 f4 s.heap s.heap.size (Nat.le_refl _) S0 hcs S8 S4 hfe p e ha hc hk s m _ below hf ((Spec.applies_iff_loose hf).mp happ).1 ⟨rfl, State.Warmed39.refl s, rfl, hCH, fun _ q => nomatch q⟩ trivial
  refine ⟨n, _, h1, h2, h3, hpost _ _ _ _ _ _ ⟨Cond.after_iff.mpr rfl, Cond.after_iff.mpr (eq_i res_at (Term.int_eval (1)) rfl), trivial⟩ ⟨hq.1, hq.2.1, hq.2.2.1, (hq.2.2.2.sift fun y hy => Or.inr (N y hy)).mono (by decide) (by decide)⟩⟩
theorem main_1_1 : Claimed_1_1 := comes_1 fun _ _ _ _ _ _ h hF => ⟨h.1, hF⟩
theorem main_1_2 : Claimed_1_2 := comes_1 fun _ _ _ _ _ _ h hF => ⟨h.2.1, hF⟩
end Jvm.Pilot.@@N@@
namespace Jvm.Pilot.@@N@@
open Jvm Jvm.ClassFile Sem Op Lib Jvm.Free Jvm.Stand Jvm.Pilot.@@N@@.Jvm.D
/-! MADE BY PROGRAM (witnessworld.py) out of the Statement's table words and the real class files: 24 classes; the members and pool entries that the words name. The judged class is class 1, her method 6. -/
namespace start1
open Jvm.ClassFile
def u (s : String) : CpInfo := .utf8 (stringToUtf16 s)
/-- a pool by its gaps: so many unusable entries, then the entry; so many at the end -/
def gap : Nat → List CpInfo → List CpInfo
  | 0, r => r
  | n + 1, r => .unusable :: gap n r
def poolList (es : List (Nat × CpInfo)) (last : Nat) : List CpInfo := es.foldr (fun e r => gap e.1 (e.2 :: r)) (gap last [])
def pool (es : List (Nat × CpInfo)) (last : Nat) : Array CpInfo := ⟨poolList es last⟩
def fileOf (pool : Array CpInfo) (this : Nat) (attrs : Array Attribute := #[]) (ms : Array MethodInfo := #[]) (fl : Nat := 33) (sup : Nat := 0) (ifs : Array Nat := #[]) (fds : Array FieldInfo := #[]) : ClassFile where
  minorVersion := 0
  majorVersion := 65
  constantPool := pool
  accessFlags := fl
  thisClass := this
  superClass := sup
  interfaces := ifs
  fields := fds
  methods := ms
  attributes := attrs
def plain (name : String) (sup : Option ClassId) : Class where
  name := name
  kind := .ordinary
  loader := none
  accessFlags := 33
  super := sup
  interfaces := #[]
  cf := none
  fields := #[]
  methods := #[]
  instanceTypes := #[]
  staticTypes := #[]
  resolved := #[]
  callSites := []
  init := .initialized
  statics := none
  mirror := none

def pool0 : Array CpInfo := pool [(5, u "<init>"), (0, u "()V"), (1, .class_ 10), (1, u "java/lang/Object")] 113

def k0c0 : Code := { maxStack := 0, maxLocals := 1, code := object_method_1_code, exceptionTable := #[], attributes := #[] }
def k0m0 : Method := { name := "<init>", desc := "()V", sig := { parameters := [], returnType := none }, accessFlags := 1, code := some k0c0 }
/-- java/lang/Object -/
def k0 : Class := { plain "java/lang/Object" none with
  accessFlags := 33
  interfaces := #[]
  cf := some (fileOf pool0 8 #[] #[{ accessFlags := 1, nameIndex := 5, descriptorIndex := 6, attributes := #[] }] 33 0 #[] #[])
  fields := #[]
  methods := #[k0m0]
  instanceTypes := #[]
  staticTypes := #[]
  resolved := Array.replicate 124 none
  statics := none }

def pool1 : Array CpInfo := pool [(2, .class_ 4), (1, u "java/lang/Object"), (0, u "<init>"), (0, u "()V"), (0, .methodref 8 9), (0, .class_ 10), (0, .nameAndType 11 12), (0, u "com/example/wanderpath/wanderpath/GridCanStepPinLaw"), (0, u "bit"), (0, u "(II)Z"), (0, .methodref 8 14), (0, .nameAndType 15 16), (0, u "tile"), (0, u "(II)B"), (0, .integer 2147483647), (0, .class_ 19), (0, u "com/example/wanderpath/wanderpath/TileMap"), (0, .methodref 18 21), (0, .nameAndType 5 22), (0, u "(II[B)V"), (0, .class_ 24), (0, u "com/example/wanderpath/wanderpath/Grid"), (0, .fieldref 26 27), (0, .class_ 28), (0, .nameAndType 29 30), (0, u "com/example/wanderpath/wanderpath/Moves"), (0, u "EIGHT"), (0, u "Lcom/example/wanderpath/wanderpath/Moves;"), (0, .fieldref 26 32), (0, .nameAndType 33 30), (0, u "FOUR"), (0, .methodref 23 35), (0, .nameAndType 5 36), (0, u "(Lcom/example/wanderpath/wanderpath/TileMap;Lcom/example/wanderpath/wanderpath/Moves;)V"), (0, .methodref 23 38), (0, .nameAndType 39 40), (0, u "canStep"), (0, u "([ZII)Z"), (0, .methodref 8 42), (0, .nameAndType 43 44), (0, u "dx"), (0, u "(I)I"), (0, .methodref 8 46), (0, .nameAndType 47 44), (0, u "dy"), (0, .methodref 8 49), (0, .nameAndType 50 51), (0, u "passable"), (0, u "(III)Z"), (3, u "law"), (0, u "(IIIII)Z")] 6

def k1m0 : Method := { name := "<init>", desc := "()V", sig := { parameters := [], returnType := none }, accessFlags := 1, code := none }
def k1c1 : Code := { maxStack := 2, maxLocals := 2, code := method_2_code, exceptionTable := #[], attributes := #[] }
def k1m1 : Method := { name := "bit", desc := "(II)Z", sig := { parameters := [.int, .int], returnType := some .boolean }, accessFlags := 10, code := some k1c1 }
def k1c2 : Code := { maxStack := 2, maxLocals := 2, code := method_3_code, exceptionTable := #[], attributes := #[] }
def k1m2 : Method := { name := "tile", desc := "(II)B", sig := { parameters := [.int, .int], returnType := some .byte }, accessFlags := 10, code := some k1c2 }
def k1c3 : Code := { maxStack := 2, maxLocals := 1, code := method_4_code, exceptionTable := #[], attributes := #[] }
def k1m3 : Method := { name := "dx", desc := "(I)I", sig := { parameters := [.int], returnType := some .int }, accessFlags := 10, code := some k1c3 }
def k1c4 : Code := { maxStack := 2, maxLocals := 1, code := method_5_code, exceptionTable := #[], attributes := #[] }
def k1m4 : Method := { name := "dy", desc := "(I)I", sig := { parameters := [.int], returnType := some .int }, accessFlags := 10, code := some k1c4 }
def k1c5 : Code := { maxStack := 3, maxLocals := 3, code := method_6_code, exceptionTable := #[], attributes := #[] }
def k1m5 : Method := { name := "passable", desc := "(III)Z", sig := { parameters := [.int, .int, .int], returnType := some .boolean }, accessFlags := 10, code := some k1c5 }
def k1c6 : Code := { maxStack := 5, maxLocals := 20, code := code, exceptionTable := #[], attributes := #[] }
def k1m6 : Method := { name := "law", desc := "(IIIII)Z", sig := { parameters := [.int, .int, .int, .int, .int], returnType := some .boolean }, accessFlags := 9, code := some k1c6 }
/-- com/example/wanderpath/wanderpath/GridCanStepPinLaw -/
def k1 : Class := { plain "com/example/wanderpath/wanderpath/GridCanStepPinLaw" (some 0) with
  accessFlags := 49
  interfaces := #[]
  cf := some (fileOf pool1 8 #[] #[{ accessFlags := 1, nameIndex := 5, descriptorIndex := 6, attributes := #[] }, { accessFlags := 10, nameIndex := 11, descriptorIndex := 12, attributes := #[] }, { accessFlags := 10, nameIndex := 15, descriptorIndex := 16, attributes := #[] }, { accessFlags := 10, nameIndex := 43, descriptorIndex := 44, attributes := #[] }, { accessFlags := 10, nameIndex := 47, descriptorIndex := 44, attributes := #[] }, { accessFlags := 10, nameIndex := 50, descriptorIndex := 51, attributes := #[] }, { accessFlags := 9, nameIndex := 55, descriptorIndex := 56, attributes := #[] }] 49 2 #[] #[])
  fields := #[]
  methods := #[k1m0, k1m1, k1m2, k1m3, k1m4, k1m5, k1m6]
  instanceTypes := #[]
  staticTypes := #[]
  resolved := Array.replicate 63 none
  statics := none }

def pool2 : Array CpInfo := pool [(1, .methodref 2 3), (0, .class_ 4), (0, .nameAndType 5 6), (0, u "java/lang/Object"), (0, u "<init>"), (0, u "()V"), (9, .fieldref 17 18), (0, .class_ 19), (0, .nameAndType 20 21), (0, u "com/example/wanderpath/wanderpath/TileMap"), (0, u "width"), (0, u "I"), (0, .fieldref 17 23), (0, .nameAndType 24 21), (0, u "height"), (0, .fieldref 17 26), (0, .nameAndType 27 28), (0, u "tiles"), (0, u "[B"), (0, .methodref 17 30), (0, .nameAndType 31 32), (0, u "isPassableTile"), (0, u "(I)Z"), (0, .fieldref 17 34), (0, .nameAndType 35 21), (0, u "passableCount"), (3, .class_ 41), (1, u "java/util/Objects"), (33, .methodref 17 76), (0, .nameAndType 77 78), (0, u "index"), (0, u "(II)I"), (5, u "()I"), (5, u "contains"), (0, u "(II)Z"), (1, .class_ 95), (1, u "java/lang/String"), (7, u "isPassable"), (7, .methodref 39 112), (0, .nameAndType 113 78), (0, u "checkIndex"), (2, .methodref 93 117), (0, .nameAndType 118 119), (0, u "indexOf"), (0, u "(I)I"), (0, .string 121), (0, u ".GS"), (0, u "MAX_SIDE"), (2, u "PASSABLE_TILES"), (0, u "Ljava/lang/String;"), (0, u "BLOCKED_TILES"), (0, u "(II[B)V")] 34

def k2c0 : Code := { maxStack := 5, maxLocals := 9, code := prog_30_method_1_code, exceptionTable := #[], attributes := #[] }
def k2m0 : Method := { name := "<init>", desc := "(II[B)V", sig := { parameters := [.int, .int, (.array .byte)], returnType := none }, accessFlags := 0, code := some k2c0 }
def k2c1 : Code := { maxStack := 1, maxLocals := 1, code := prog_30_method_4_code, exceptionTable := #[], attributes := #[] }
def k2m1 : Method := { name := "width", desc := "()I", sig := { parameters := [], returnType := some .int }, accessFlags := 1, code := some k2c1 }
def k2c2 : Code := { maxStack := 1, maxLocals := 1, code := prog_30_method_5_code, exceptionTable := #[], attributes := #[] }
def k2m2 : Method := { name := "height", desc := "()I", sig := { parameters := [], returnType := some .int }, accessFlags := 1, code := some k2c2 }
def k2c3 : Code := { maxStack := 2, maxLocals := 3, code := prog_30_method_7_code, exceptionTable := #[], attributes := #[] }
def k2m3 : Method := { name := "contains", desc := "(II)Z", sig := { parameters := [.int, .int], returnType := some .boolean }, accessFlags := 1, code := some k2c3 }
def k2c4 : Code := { maxStack := 4, maxLocals := 3, code := prog_30_method_9_code, exceptionTable := #[], attributes := #[] }
def k2m4 : Method := { name := "isPassable", desc := "(II)Z", sig := { parameters := [.int, .int], returnType := some .boolean }, accessFlags := 1, code := some k2c4 }
def k2c5 : Code := { maxStack := 2, maxLocals := 3, code := prog_30_method_11_code, exceptionTable := #[], attributes := #[] }
def k2m5 : Method := { name := "index", desc := "(II)I", sig := { parameters := [.int, .int], returnType := some .int }, accessFlags := 2, code := some k2c5 }
def k2c6 : Code := { maxStack := 2, maxLocals := 1, code := prog_30_method_13_code, exceptionTable := #[], attributes := #[] }
def k2m6 : Method := { name := "isPassableTile", desc := "(I)Z", sig := { parameters := [.int], returnType := some .boolean }, accessFlags := 10, code := some k2c6 }
/-- com/example/wanderpath/wanderpath/TileMap -/
def k2 : Class := { plain "com/example/wanderpath/wanderpath/TileMap" (some 0) with
  accessFlags := 49
  interfaces := #[]
  cf := some (fileOf pool2 17 #[] #[{ accessFlags := 0, nameIndex := 5, descriptorIndex := 128, attributes := #[] }, { accessFlags := 1, nameIndex := 20, descriptorIndex := 84, attributes := #[] }, { accessFlags := 1, nameIndex := 24, descriptorIndex := 84, attributes := #[] }, { accessFlags := 1, nameIndex := 90, descriptorIndex := 91, attributes := #[] }, { accessFlags := 1, nameIndex := 103, descriptorIndex := 91, attributes := #[] }, { accessFlags := 2, nameIndex := 77, descriptorIndex := 78, attributes := #[] }, { accessFlags := 10, nameIndex := 31, descriptorIndex := 32, attributes := #[] }] 49 2 #[] #[{ accessFlags := 25, nameIndex := 122, descriptorIndex := 21, attributes := #[] }, { accessFlags := 24, nameIndex := 125, descriptorIndex := 126, attributes := #[] }, { accessFlags := 24, nameIndex := 127, descriptorIndex := 126, attributes := #[] }, { accessFlags := 18, nameIndex := 20, descriptorIndex := 21, attributes := #[] }, { accessFlags := 18, nameIndex := 24, descriptorIndex := 21, attributes := #[] }, { accessFlags := 18, nameIndex := 27, descriptorIndex := 28, attributes := #[] }, { accessFlags := 18, nameIndex := 35, descriptorIndex := 21, attributes := #[] }])
  fields := #[{ name := "MAX_SIDE", type := .int, accessFlags := 25, slot := 0, constantValue := 0 }, { name := "PASSABLE_TILES", type := (.object "java/lang/String"), accessFlags := 24, slot := 1, constantValue := 0 }, { name := "BLOCKED_TILES", type := (.object "java/lang/String"), accessFlags := 24, slot := 2, constantValue := 0 }, { name := "width", type := .int, accessFlags := 18, slot := 0, constantValue := 0 }, { name := "height", type := .int, accessFlags := 18, slot := 1, constantValue := 0 }, { name := "tiles", type := (.array .byte), accessFlags := 18, slot := 2, constantValue := 0 }, { name := "passableCount", type := .int, accessFlags := 18, slot := 3, constantValue := 0 }]
  methods := #[k2m0, k2m1, k2m2, k2m3, k2m4, k2m5, k2m6]
  instanceTypes := #[.int, .int, (.array .byte), .int]
  staticTypes := #[.int, (.object "java/lang/String"), (.object "java/lang/String")]
  resolved := Array.replicate 163 none
  statics := none }

def pool3 : Array CpInfo := pool [(1, .class_ 2), (0, u "java/io/Serializable"), (0, .class_ 4), (0, u "java/lang/Object")] 2

/-- java/io/Serializable -/
def k3 : Class := { plain "java/io/Serializable" (some 0) with
  accessFlags := 1537
  interfaces := #[]
  cf := some (fileOf pool3 1 #[] #[] 1537 3 #[] #[])
  fields := #[]
  methods := #[]
  instanceTypes := #[]
  staticTypes := #[]
  resolved := Array.replicate 7 none
  statics := none }

def pool4 : Array CpInfo := pool [(1, .class_ 2), (0, u "java/lang/Comparable"), (0, .class_ 4), (0, u "java/lang/Object")] 7

/-- java/lang/Comparable -/
def k4 : Class := { plain "java/lang/Comparable" (some 0) with
  accessFlags := 1537
  interfaces := #[]
  cf := some (fileOf pool4 1 #[] #[] 1537 3 #[] #[])
  fields := #[]
  methods := #[]
  instanceTypes := #[]
  staticTypes := #[]
  resolved := Array.replicate 12 none
  statics := none }

def pool5 : Array CpInfo := pool [(2, .class_ 4), (1, u "java/lang/CharSequence"), (42, .class_ 48), (0, u "java/lang/CharSequence$1CodePointIterator"), (10, .class_ 60), (0, u "java/lang/CharSequence$1CharIterator"), (5, .class_ 67), (0, u "java/lang/Object")] 63

/-- java/lang/CharSequence -/
def k5 : Class := { plain "java/lang/CharSequence" (some 0) with
  accessFlags := 1537
  interfaces := #[]
  cf := some (fileOf pool5 2 #[.nestMembers #[47, 59]] #[] 1537 66 #[] #[])
  fields := #[]
  methods := #[]
  instanceTypes := #[]
  staticTypes := #[]
  resolved := Array.replicate 131 none
  statics := none }

def pool6 : Array CpInfo := pool [(1, .class_ 2), (0, u "java/lang/constant/Constable"), (0, .class_ 4), (0, u "java/lang/Object")] 6

/-- java/lang/constant/Constable -/
def k6 : Class := { plain "java/lang/constant/Constable" (some 0) with
  accessFlags := 1537
  interfaces := #[]
  cf := some (fileOf pool6 1 #[] #[] 1537 3 #[] #[])
  fields := #[]
  methods := #[]
  instanceTypes := #[]
  staticTypes := #[]
  resolved := Array.replicate 11 none
  statics := none }

def pool7 : Array CpInfo := pool [(1, .class_ 2), (0, u "java/lang/constant/ConstantDesc"), (0, .class_ 4), (0, u "java/lang/Object")] 32

/-- java/lang/constant/ConstantDesc -/
def k7 : Class := { plain "java/lang/constant/ConstantDesc" (some 0) with
  accessFlags := 1537
  interfaces := #[]
  cf := some (fileOf pool7 1 #[] #[] 1537 3 #[] #[])
  fields := #[]
  methods := #[]
  instanceTypes := #[]
  staticTypes := #[]
  resolved := Array.replicate 37 none
  statics := none }

def pool8 : Array CpInfo := pool [(2, .class_ 4), (1, u "java/lang/Object"), (0, u "<init>"), (0, u "()V"), (2, .fieldref 10 11), (0, .class_ 12), (0, .nameAndType 13 14), (0, u "java/lang/String"), (0, u "value"), (0, u "[B"), (0, .fieldref 10 16), (0, .nameAndType 17 18), (0, u "coder"), (0, u "B"), (2, u "hash"), (0, u "I"), (2, u "hashIsZero"), (0, u "Z"), (11, .fieldref 10 39), (0, .nameAndType 40 26), (0, u "COMPACT_STRINGS"), (66, .class_ 109), (1, u "java/lang/StringLatin1"), (32, u "()Z"), (191, u "()I"), (0, .methodref 10 336), (0, .nameAndType 17 337), (0, u "()B"), (154, .methodref 10 493), (0, .nameAndType 494 142), (0, u "isLatin1"), (10, .methodref 10 506), (0, .nameAndType 507 334), (0, u "length"), (67, .class_ 576), (0, u "java/lang/CharSequence"), (22, u "CASE_INSENSITIVE_ORDER"), (0, u "Ljava/util/Comparator;"), (32, .methodref 10 634), (0, .nameAndType 635 636), (0, u "indexOf"), (0, u "(II)I"), (0, .methodref 107 638), (0, .nameAndType 635 639), (0, u "([BIII)I"), (125, u "(I)I"), (335, u "serialPersistentFields"), (0, u "[Ljava/io/ObjectStreamField;"), (0, .class_ 1104), (0, u "java/lang/String$CaseInsensitiveComparator"), (1, .class_ 1107), (0, u "java/io/Serializable"), (0, .class_ 1109), (0, u "java/lang/Comparable"), (0, .class_ 1111), (0, u "java/lang/constant/Constable"), (0, .class_ 1113), (0, u "java/lang/constant/ConstantDesc"), (2, u "serialVersionUID"), (0, u "J"), (3, u "REPL"), (0, u "C"), (2, u "LATIN1"), (1, u "UTF16")] 323

def k8m0 : Method := { name := "<init>", desc := "()V", sig := { parameters := [], returnType := none }, accessFlags := 1, code := none }
def k8c1 : Code := { maxStack := 2, maxLocals := 1, code := jdk_42_method_54_code, exceptionTable := #[], attributes := #[] }
def k8m1 : Method := { name := "length", desc := "()I", sig := { parameters := [], returnType := some .int }, accessFlags := 1, code := some k8c1 }
def k8c2 : Code := { maxStack := 3, maxLocals := 2, code := jdk_42_method_79_code, exceptionTable := #[], attributes := #[] }
def k8m2 : Method := { name := "indexOf", desc := "(I)I", sig := { parameters := [.int], returnType := some .int }, accessFlags := 1, code := some k8c2 }
def k8c3 : Code := { maxStack := 4, maxLocals := 3, code := jdk_42_method_80_code, exceptionTable := #[], attributes := #[] }
def k8m3 : Method := { name := "indexOf", desc := "(II)I", sig := { parameters := [.int, .int], returnType := some .int }, accessFlags := 1, code := some k8c3 }
def k8c4 : Code := { maxStack := 1, maxLocals := 1, code := jdk_42_method_152_code, exceptionTable := #[], attributes := #[] }
def k8m4 : Method := { name := "coder", desc := "()B", sig := { parameters := [], returnType := some .byte }, accessFlags := 0, code := some k8c4 }
def k8c5 : Code := { maxStack := 1, maxLocals := 1, code := jdk_42_method_154_code, exceptionTable := #[], attributes := #[] }
def k8m5 : Method := { name := "isLatin1", desc := "()Z", sig := { parameters := [], returnType := some .boolean }, accessFlags := 0, code := some k8c5 }
/-- java/lang/String -/
def k8 : Class := { plain "java/lang/String" (some 0) with
  accessFlags := 49
  interfaces := #[3, 4, 5, 6, 7]
  cf := some (fileOf pool8 10 #[.nestMembers #[1103]] #[{ accessFlags := 1, nameIndex := 5, descriptorIndex := 6, attributes := #[] }, { accessFlags := 1, nameIndex := 507, descriptorIndex := 334, attributes := #[] }, { accessFlags := 1, nameIndex := 635, descriptorIndex := 765, attributes := #[] }, { accessFlags := 1, nameIndex := 635, descriptorIndex := 636, attributes := #[] }, { accessFlags := 0, nameIndex := 17, descriptorIndex := 337, attributes := #[] }, { accessFlags := 0, nameIndex := 494, descriptorIndex := 142, attributes := #[] }] 49 2 #[1106, 1108, 575, 1110, 1112] #[{ accessFlags := 18, nameIndex := 13, descriptorIndex := 14, attributes := #[] }, { accessFlags := 18, nameIndex := 17, descriptorIndex := 18, attributes := #[] }, { accessFlags := 2, nameIndex := 21, descriptorIndex := 22, attributes := #[] }, { accessFlags := 2, nameIndex := 25, descriptorIndex := 26, attributes := #[] }, { accessFlags := 26, nameIndex := 1116, descriptorIndex := 1117, attributes := #[] }, { accessFlags := 24, nameIndex := 40, descriptorIndex := 26, attributes := #[] }, { accessFlags := 26, nameIndex := 1101, descriptorIndex := 1102, attributes := #[] }, { accessFlags := 26, nameIndex := 1121, descriptorIndex := 1122, attributes := #[] }, { accessFlags := 25, nameIndex := 599, descriptorIndex := 600, attributes := #[] }, { accessFlags := 24, nameIndex := 1125, descriptorIndex := 18, attributes := #[] }, { accessFlags := 24, nameIndex := 1127, descriptorIndex := 18, attributes := #[] }])
  fields := #[{ name := "value", type := (.array .byte), accessFlags := 18, slot := 0, constantValue := 0 }, { name := "coder", type := .byte, accessFlags := 18, slot := 1, constantValue := 0 }, { name := "hash", type := .int, accessFlags := 2, slot := 2, constantValue := 0 }, { name := "hashIsZero", type := .boolean, accessFlags := 2, slot := 3, constantValue := 0 }, { name := "serialVersionUID", type := .long, accessFlags := 26, slot := 0, constantValue := 0 }, { name := "COMPACT_STRINGS", type := .boolean, accessFlags := 24, slot := 1, constantValue := 0 }, { name := "serialPersistentFields", type := (.array (.object "java/io/ObjectStreamField")), accessFlags := 26, slot := 2, constantValue := 0 }, { name := "REPL", type := .char, accessFlags := 26, slot := 3, constantValue := 0 }, { name := "CASE_INSENSITIVE_ORDER", type := (.object "java/util/Comparator"), accessFlags := 25, slot := 4, constantValue := 0 }, { name := "LATIN1", type := .byte, accessFlags := 24, slot := 5, constantValue := 0 }, { name := "UTF16", type := .byte, accessFlags := 24, slot := 6, constantValue := 0 }]
  methods := #[k8m0, k8m1, k8m2, k8m3, k8m4, k8m5]
  instanceTypes := #[(.array .byte), .byte, .int, .boolean]
  staticTypes := #[.long, .boolean, (.array (.object "java/io/ObjectStreamField")), .char, (.object "java/util/Comparator"), .byte, .byte]
  resolved := Array.replicate 1451 none
  statics := some 0 }

def pool9 : Array CpInfo := pool [(4, .class_ 6), (1, u "java/lang/Object"), (0, u "<init>"), (0, u "()V"), (5, .class_ 16), (1, u "java/lang/StringLatin1"), (21, .methodref 39 40), (0, .class_ 41), (0, .nameAndType 42 43), (0, u "java/lang/Math"), (0, u "min"), (0, u "(II)I"), (44, .methodref 14 89), (0, .nameAndType 90 91), (0, u "canEncode"), (0, u "(I)Z"), (0, .methodref 39 93), (0, .nameAndType 94 43), (0, u "max"), (0, .methodref 14 96), (0, .nameAndType 97 98), (0, u "indexOfChar"), (0, u "([BIII)I"), (2, u "indexOf"), (19, u "$assertionsDisabled"), (0, u "Z"), (98, .class_ 223), (1, u "java/lang/StringLatin1$LinesSpliterator"), (166, .class_ 391), (0, u "java/lang/StringLatin1$CharsSpliterator")] 3

def k9m0 : Method := { name := "<init>", desc := "()V", sig := { parameters := [], returnType := none }, accessFlags := 0, code := none }
def k9c1 : Code := { maxStack := 2, maxLocals := 1, code := jdk_43_method_4_code, exceptionTable := #[], attributes := #[] }
def k9m1 : Method := { name := "canEncode", desc := "(I)Z", sig := { parameters := [.int], returnType := some .boolean }, accessFlags := 9, code := some k9c1 }
def k9c2 : Code := { maxStack := 4, maxLocals := 4, code := jdk_43_method_22_code, exceptionTable := #[], attributes := #[] }
def k9m2 : Method := { name := "indexOf", desc := "([BIII)I", sig := { parameters := [(.array .byte), .int, .int, .int], returnType := some .int }, accessFlags := 9, code := some k9c2 }
def k9c3 : Code := { maxStack := 2, maxLocals := 6, code := jdk_43_method_23_code, exceptionTable := #[], attributes := #[] }
def k9m3 : Method := { name := "indexOfChar", desc := "([BIII)I", sig := { parameters := [(.array .byte), .int, .int, .int], returnType := some .int }, accessFlags := 10, code := some k9c3 }
/-- java/lang/StringLatin1 -/
def k9 : Class := { plain "java/lang/StringLatin1" (some 0) with
  accessFlags := 48
  interfaces := #[]
  cf := some (fileOf pool9 14 #[.nestMembers #[390, 221]] #[{ accessFlags := 0, nameIndex := 7, descriptorIndex := 8, attributes := #[] }, { accessFlags := 9, nameIndex := 90, descriptorIndex := 91, attributes := #[] }, { accessFlags := 9, nameIndex := 101, descriptorIndex := 98, attributes := #[] }, { accessFlags := 10, nameIndex := 97, descriptorIndex := 98, attributes := #[] }] 48 4 #[] #[{ accessFlags := 4120, nameIndex := 121, descriptorIndex := 122, attributes := #[] }])
  fields := #[{ name := "$assertionsDisabled", type := .boolean, accessFlags := 4120, slot := 0, constantValue := 0 }]
  methods := #[k9m0, k9m1, k9m2, k9m3]
  instanceTypes := #[]
  staticTypes := #[.boolean]
  resolved := Array.replicate 395 none
  statics := none }

def pool10 : Array CpInfo := pool [(1, .class_ 2), (0, u "java/lang/Math"), (1, .class_ 6), (1, u "java/lang/Object"), (0, u "<init>"), (0, u "()V"), (89, .class_ 100), (1, u "java/lang/Math$RandomNumberGeneratorHolder"), (71, u "negativeZeroFloatBits"), (0, u "J"), (2, u "negativeZeroDoubleBits"), (21, u "max"), (2, u "min"), (43, u "$assertionsDisabled"), (0, u "Z"), (88, u "(II)I"), (2, u "twoToTheDoubleScaleDown"), (0, u "D"), (4, u "twoToTheDoubleScaleUp"), (9, u "E"), (3, u "PI"), (2, u "TAU"), (2, u "DEGREES_TO_RADIANS"), (0, u "RADIANS_TO_DEGREES")] 94

def k10m0 : Method := { name := "<init>", desc := "()V", sig := { parameters := [], returnType := none }, accessFlags := 2, code := none }
def k10c1 : Code := { maxStack := 2, maxLocals := 2, code := jdk_29_method_65_code, exceptionTable := #[], attributes := #[] }
def k10m1 : Method := { name := "max", desc := "(II)I", sig := { parameters := [.int, .int], returnType := some .int }, accessFlags := 9, code := some k10c1 }
def k10c2 : Code := { maxStack := 2, maxLocals := 2, code := jdk_29_method_69_code, exceptionTable := #[], attributes := #[] }
def k10m2 : Method := { name := "min", desc := "(II)I", sig := { parameters := [.int, .int], returnType := some .int }, accessFlags := 9, code := some k10c2 }
/-- java/lang/Math -/
def k10 : Class := { plain "java/lang/Math" (some 0) with
  accessFlags := 49
  interfaces := #[]
  cf := some (fileOf pool10 1 #[.nestMembers #[98]] #[{ accessFlags := 2, nameIndex := 7, descriptorIndex := 8, attributes := #[] }, { accessFlags := 9, nameIndex := 198, descriptorIndex := 335, attributes := #[] }, { accessFlags := 9, nameIndex := 201, descriptorIndex := 335, attributes := #[] }] 49 4 #[] #[{ accessFlags := 25, nameIndex := 354, descriptorIndex := 339, attributes := #[] }, { accessFlags := 25, nameIndex := 358, descriptorIndex := 339, attributes := #[] }, { accessFlags := 25, nameIndex := 361, descriptorIndex := 339, attributes := #[] }, { accessFlags := 26, nameIndex := 364, descriptorIndex := 339, attributes := #[] }, { accessFlags := 26, nameIndex := 365, descriptorIndex := 339, attributes := #[] }, { accessFlags := 26, nameIndex := 172, descriptorIndex := 173, attributes := #[] }, { accessFlags := 26, nameIndex := 176, descriptorIndex := 173, attributes := #[] }, { accessFlags := 8, nameIndex := 344, descriptorIndex := 339, attributes := #[] }, { accessFlags := 8, nameIndex := 338, descriptorIndex := 339, attributes := #[] }, { accessFlags := 4120, nameIndex := 245, descriptorIndex := 246, attributes := #[] }])
  fields := #[{ name := "E", type := .double, accessFlags := 25, slot := 0, constantValue := 0 }, { name := "PI", type := .double, accessFlags := 25, slot := 1, constantValue := 0 }, { name := "TAU", type := .double, accessFlags := 25, slot := 2, constantValue := 0 }, { name := "DEGREES_TO_RADIANS", type := .double, accessFlags := 26, slot := 3, constantValue := 0 }, { name := "RADIANS_TO_DEGREES", type := .double, accessFlags := 26, slot := 4, constantValue := 0 }, { name := "negativeZeroFloatBits", type := .long, accessFlags := 26, slot := 5, constantValue := 0 }, { name := "negativeZeroDoubleBits", type := .long, accessFlags := 26, slot := 6, constantValue := 0 }, { name := "twoToTheDoubleScaleUp", type := .double, accessFlags := 8, slot := 7, constantValue := 0 }, { name := "twoToTheDoubleScaleDown", type := .double, accessFlags := 8, slot := 8, constantValue := 0 }, { name := "$assertionsDisabled", type := .boolean, accessFlags := 4120, slot := 9, constantValue := 0 }]
  methods := #[k10m0, k10m1, k10m2]
  instanceTypes := #[]
  staticTypes := #[.double, .double, .double, .double, .double, .long, .long, .double, .double, .boolean]
  resolved := Array.replicate 460 none
  statics := none }

def pool11 : Array CpInfo := pool [(1, .methodref 2 3), (0, .class_ 4), (0, .nameAndType 5 6), (0, u "java/lang/Object"), (0, u "<init>"), (0, u "()V"), (0, .methodref 8 9), (0, .class_ 10), (0, .nameAndType 11 12), (0, u "com/example/wanderpath/wanderpath/TileMap"), (0, u "width"), (0, u "()I"), (0, .fieldref 14 15), (0, .class_ 16), (0, .nameAndType 17 18), (0, u "com/example/wanderpath/wanderpath/Grid"), (0, u "stride"), (0, u "I"), (0, .fieldref 20 21), (0, .class_ 22), (0, .nameAndType 23 24), (0, u "com/example/wanderpath/wanderpath/Moves"), (0, u "EIGHT"), (0, u "Lcom/example/wanderpath/wanderpath/Moves;"), (0, .fieldref 14 26), (0, .nameAndType 27 28), (0, u "steps"), (0, u "[I"), (0, .fieldref 14 30), (0, .nameAndType 31 28), (0, u "rowPart"), (0, .fieldref 14 33), (0, .nameAndType 34 28), (0, u "columnPart"), (0, .methodref 8 36), (0, .nameAndType 37 12), (0, u "height"), (0, .fieldref 14 39), (0, .nameAndType 40 41), (0, u "blocked"), (0, u "[Z"), (0, .methodref 8 43), (0, .nameAndType 44 45), (0, u "contains"), (0, u "(II)Z"), (0, .methodref 8 47), (0, .nameAndType 48 45), (0, u "isPassable"), (75, u "canStep"), (0, u "([ZII)Z"), (0, u "SIDE_STEPS"), (2, u "(Lcom/example/wanderpath/wanderpath/TileMap;Lcom/example/wanderpath/wanderpath/Moves;)V")] 22

def k11c0 : Code := { maxStack := 6, maxLocals := 7, code := prog_11_method_1_code, exceptionTable := #[], attributes := #[] }
def k11m0 : Method := { name := "<init>", desc := "(Lcom/example/wanderpath/wanderpath/TileMap;Lcom/example/wanderpath/wanderpath/Moves;)V", sig := { parameters := [(.object "com/example/wanderpath/wanderpath/TileMap"), (.object "com/example/wanderpath/wanderpath/Moves")], returnType := none }, accessFlags := 0, code := some k11c0 }
def k11c1 : Code := { maxStack := 4, maxLocals := 4, code := prog_11_method_14_code, exceptionTable := #[], attributes := #[] }
def k11m1 : Method := { name := "canStep", desc := "([ZII)Z", sig := { parameters := [(.array .boolean), .int, .int], returnType := some .boolean }, accessFlags := 0, code := some k11c1 }
/-- com/example/wanderpath/wanderpath/Grid -/
def k11 : Class := { plain "com/example/wanderpath/wanderpath/Grid" (some 0) with
  accessFlags := 48
  interfaces := #[]
  cf := some (fileOf pool11 14 #[] #[{ accessFlags := 0, nameIndex := 5, descriptorIndex := 129, attributes := #[] }, { accessFlags := 0, nameIndex := 124, descriptorIndex := 125, attributes := #[] }] 48 2 #[] #[{ accessFlags := 24, nameIndex := 126, descriptorIndex := 18, attributes := #[] }, { accessFlags := 18, nameIndex := 17, descriptorIndex := 18, attributes := #[] }, { accessFlags := 18, nameIndex := 27, descriptorIndex := 28, attributes := #[] }, { accessFlags := 18, nameIndex := 31, descriptorIndex := 28, attributes := #[] }, { accessFlags := 18, nameIndex := 34, descriptorIndex := 28, attributes := #[] }, { accessFlags := 18, nameIndex := 40, descriptorIndex := 41, attributes := #[] }])
  fields := #[{ name := "SIDE_STEPS", type := .int, accessFlags := 24, slot := 0, constantValue := 0 }, { name := "stride", type := .int, accessFlags := 18, slot := 0, constantValue := 0 }, { name := "steps", type := (.array .int), accessFlags := 18, slot := 1, constantValue := 0 }, { name := "rowPart", type := (.array .int), accessFlags := 18, slot := 2, constantValue := 0 }, { name := "columnPart", type := (.array .int), accessFlags := 18, slot := 3, constantValue := 0 }, { name := "blocked", type := (.array .boolean), accessFlags := 18, slot := 4, constantValue := 0 }]
  methods := #[k11m0, k11m1]
  instanceTypes := #[.int, (.array .int), (.array .int), (.array .int), (.array .boolean)]
  staticTypes := #[.int]
  resolved := Array.replicate 152 none
  statics := none }

def pool12 : Array CpInfo := pool [(2, .class_ 4), (1, u "java/lang/Enum"), (0, u "name"), (0, u "Ljava/lang/String;"), (2, u "ordinal"), (0, u "I"), (1, .class_ 14), (1, u "java/lang/Object"), (4, u "hash"), (86, .class_ 108), (1, u "java/lang/Enum$EnumDesc"), (2, .class_ 112), (0, u "java/lang/constant/Constable"), (0, .class_ 114), (0, u "java/lang/Comparable"), (0, .class_ 116), (0, u "java/io/Serializable")] 87

/-- java/lang/Enum -/
def k12 : Class := { plain "java/lang/Enum" (some 0) with
  accessFlags := 1057
  interfaces := #[6, 4, 3]
  cf := some (fileOf pool12 2 #[.nestMembers #[106]] #[] 1057 12 #[111, 113, 115] #[{ accessFlags := 18, nameIndex := 5, descriptorIndex := 6, attributes := #[] }, { accessFlags := 18, nameIndex := 9, descriptorIndex := 10, attributes := #[] }, { accessFlags := 2, nameIndex := 19, descriptorIndex := 10, attributes := #[] }])
  fields := #[{ name := "name", type := (.object "java/lang/String"), accessFlags := 18, slot := 0, constantValue := 0 }, { name := "ordinal", type := .int, accessFlags := 18, slot := 1, constantValue := 0 }, { name := "hash", type := .int, accessFlags := 2, slot := 2, constantValue := 0 }]
  methods := #[]
  instanceTypes := #[(.object "java/lang/String"), .int, .int]
  staticTypes := #[]
  resolved := Array.replicate 204 none
  statics := none }

def pool13 : Array CpInfo := pool [(1, .class_ 2), (0, u "com/example/wanderpath/wanderpath/Moves"), (2, u "FOUR"), (0, u "Lcom/example/wanderpath/wanderpath/Moves;"), (2, u "EIGHT"), (2, u "$VALUES"), (0, u "[Lcom/example/wanderpath/wanderpath/Moves;"), (6, .class_ 22), (1, u "java/lang/Enum")] 24

/-- com/example/wanderpath/wanderpath/Moves -/
def k13 : Class := { plain "com/example/wanderpath/wanderpath/Moves" (some 12) with
  accessFlags := 16433
  interfaces := #[]
  cf := some (fileOf pool13 1 #[] #[] 16433 20 #[] #[{ accessFlags := 16409, nameIndex := 5, descriptorIndex := 6, attributes := #[] }, { accessFlags := 16409, nameIndex := 9, descriptorIndex := 6, attributes := #[] }, { accessFlags := 4122, nameIndex := 12, descriptorIndex := 13, attributes := #[] }])
  fields := #[{ name := "FOUR", type := (.object "com/example/wanderpath/wanderpath/Moves"), accessFlags := 16409, slot := 0, constantValue := 0 }, { name := "EIGHT", type := (.object "com/example/wanderpath/wanderpath/Moves"), accessFlags := 16409, slot := 1, constantValue := 0 }, { name := "$VALUES", type := (.array (.object "com/example/wanderpath/wanderpath/Moves")), accessFlags := 4122, slot := 2, constantValue := 0 }]
  methods := #[]
  instanceTypes := #[(.object "java/lang/String"), .int, .int]
  staticTypes := #[(.object "com/example/wanderpath/wanderpath/Moves"), (.object "com/example/wanderpath/wanderpath/Moves"), (.array (.object "com/example/wanderpath/wanderpath/Moves"))]
  resolved := Array.replicate 47 none
  statics := some 1 }

def pool14 : Array CpInfo := pool [(2, .class_ 4), (1, u "java/lang/Object"), (0, u "<init>"), (0, u "()V"), (35, .class_ 44), (1, u "java/util/Objects"), (60, .methodref 106 107), (0, .class_ 108), (0, .nameAndType 109 110), (0, u "jdk/internal/util/Preconditions"), (0, u "checkIndex"), (0, u "(IILjava/util/function/BiFunction;)I"), (60, u "(II)I")] 12

def k14m0 : Method := { name := "<init>", desc := "()V", sig := { parameters := [], returnType := none }, accessFlags := 2, code := none }
def k14c1 : Code := { maxStack := 3, maxLocals := 2, code := jdk_31_method_17_code, exceptionTable := #[], attributes := #[] }
def k14m1 : Method := { name := "checkIndex", desc := "(II)I", sig := { parameters := [.int, .int], returnType := some .int }, accessFlags := 9, code := some k14c1 }
/-- java/util/Objects -/
def k14 : Class := { plain "java/util/Objects" (some 0) with
  accessFlags := 49
  interfaces := #[]
  cf := some (fileOf pool14 42 #[] #[{ accessFlags := 2, nameIndex := 5, descriptorIndex := 6, attributes := #[] }, { accessFlags := 9, nameIndex := 109, descriptorIndex := 171, attributes := #[] }] 49 2 #[] #[])
  fields := #[]
  methods := #[k14m0, k14m1]
  instanceTypes := #[]
  staticTypes := #[]
  resolved := Array.replicate 184 none
  statics := none }

def pool15 : Array CpInfo := pool [(2, .class_ 4), (1, u "java/lang/Object"), (0, u "<init>"), (0, u "()V"), (17, .class_ 26), (1, u "jdk/internal/util/Preconditions"), (6, u "checkIndex"), (21, .class_ 56), (0, u "jdk/internal/util/Preconditions$4"), (57, .class_ 115), (0, u "jdk/internal/util/Preconditions$1"), (7, u "SIOOBE_FORMATTER"), (0, u "Ljava/util/function/BiFunction;"), (0, .class_ 126), (0, u "jdk/internal/util/Preconditions$2"), (3, u "AIOOBE_FORMATTER"), (0, .class_ 132), (0, u "jdk/internal/util/Preconditions$3"), (3, u "IOOBE_FORMATTER"), (41, u "(IILjava/util/function/BiFunction;)I")] 15

def k15m0 : Method := { name := "<init>", desc := "()V", sig := { parameters := [], returnType := none }, accessFlags := 1, code := none }
def k15c1 : Code := { maxStack := 3, maxLocals := 3, code := jdk_41_method_11_code, exceptionTable := #[], attributes := #[] }
def k15m1 : Method := { name := "checkIndex", desc := "(IILjava/util/function/BiFunction;)I", sig := { parameters := [.int, .int, (.object "java/util/function/BiFunction")], returnType := some .int }, accessFlags := 9, code := some k15c1 }
/-- jdk/internal/util/Preconditions -/
def k15 : Class := { plain "jdk/internal/util/Preconditions" (some 0) with
  accessFlags := 33
  interfaces := #[]
  cf := some (fileOf pool15 24 #[.nestMembers #[55, 131, 125, 114]] #[{ accessFlags := 1, nameIndex := 5, descriptorIndex := 6, attributes := #[] }, { accessFlags := 9, nameIndex := 33, descriptorIndex := 178, attributes := #[] }] 33 2 #[] #[{ accessFlags := 25, nameIndex := 123, descriptorIndex := 124, attributes := #[] }, { accessFlags := 25, nameIndex := 130, descriptorIndex := 124, attributes := #[] }, { accessFlags := 25, nameIndex := 136, descriptorIndex := 124, attributes := #[] }])
  fields := #[{ name := "SIOOBE_FORMATTER", type := (.object "java/util/function/BiFunction"), accessFlags := 25, slot := 0, constantValue := 0 }, { name := "AIOOBE_FORMATTER", type := (.object "java/util/function/BiFunction"), accessFlags := 25, slot := 1, constantValue := 0 }, { name := "IOOBE_FORMATTER", type := (.object "java/util/function/BiFunction"), accessFlags := 25, slot := 2, constantValue := 0 }]
  methods := #[k15m0, k15m1]
  instanceTypes := #[]
  staticTypes := #[(.object "java/util/function/BiFunction"), (.object "java/util/function/BiFunction"), (.object "java/util/function/BiFunction")]
  resolved := Array.replicate 194 none
  statics := some 2 }

def pool16 : Array CpInfo := pool [(9, u "<init>"), (6, .class_ 18), (1, u "java/lang/Object"), (0, u "()V"), (1, .class_ 23), (1, u "jdk/internal/util/ArraysSupport"), (0, u "LOG2_ARRAY_LONG_INDEX_SCALE"), (0, u "I"), (2, u "U"), (0, u "Ljdk/internal/misc/Unsafe;"), (8, u "BIG_ENDIAN"), (0, u "Z"), (8, u "LOG2_BYTE_BIT_SIZE"), (4, u "LOG2_ARRAY_INT_INDEX_SCALE"), (54, u "JLA"), (0, u "Ljdk/internal/access/JavaLangAccess;"), (11, u "LOG2_ARRAY_BOOLEAN_INDEX_SCALE"), (9, u "LOG2_ARRAY_BYTE_INDEX_SCALE"), (5, u "LOG2_ARRAY_CHAR_INDEX_SCALE"), (5, u "LOG2_ARRAY_SHORT_INDEX_SCALE"), (18, u "LOG2_ARRAY_FLOAT_INDEX_SCALE"), (24, u "LOG2_ARRAY_DOUBLE_INDEX_SCALE"), (89, u "T_BOOLEAN"), (2, u "T_CHAR"), (1, u "T_FLOAT"), (1, u "T_DOUBLE"), (1, u "T_BYTE"), (1, u "T_SHORT"), (1, u "T_INT"), (1, u "T_LONG"), (1, u "SOFT_MAX_ARRAY_LENGTH")] 83

def k16m0 : Method := { name := "<init>", desc := "()V", sig := { parameters := [], returnType := none }, accessFlags := 2, code := none }
/-- jdk/internal/util/ArraysSupport -/
def k16 : Class := { plain "jdk/internal/util/ArraysSupport" (some 0) with
  accessFlags := 33
  interfaces := #[]
  cf := some (fileOf pool16 21 #[] #[{ accessFlags := 2, nameIndex := 9, descriptorIndex := 19, attributes := #[] }] 33 16 #[] #[{ accessFlags := 24, nameIndex := 28, descriptorIndex := 29, attributes := #[] }, { accessFlags := 26, nameIndex := 38, descriptorIndex := 39, attributes := #[] }, { accessFlags := 25, nameIndex := 121, descriptorIndex := 25, attributes := #[] }, { accessFlags := 25, nameIndex := 131, descriptorIndex := 25, attributes := #[] }, { accessFlags := 25, nameIndex := 137, descriptorIndex := 25, attributes := #[] }, { accessFlags := 25, nameIndex := 143, descriptorIndex := 25, attributes := #[] }, { accessFlags := 25, nameIndex := 53, descriptorIndex := 25, attributes := #[] }, { accessFlags := 25, nameIndex := 24, descriptorIndex := 25, attributes := #[] }, { accessFlags := 25, nameIndex := 162, descriptorIndex := 25, attributes := #[] }, { accessFlags := 25, nameIndex := 187, descriptorIndex := 25, attributes := #[] }, { accessFlags := 26, nameIndex := 48, descriptorIndex := 25, attributes := #[] }, { accessFlags := 25, nameIndex := 277, descriptorIndex := 25, attributes := #[] }, { accessFlags := 25, nameIndex := 280, descriptorIndex := 25, attributes := #[] }, { accessFlags := 25, nameIndex := 282, descriptorIndex := 25, attributes := #[] }, { accessFlags := 25, nameIndex := 284, descriptorIndex := 25, attributes := #[] }, { accessFlags := 25, nameIndex := 286, descriptorIndex := 25, attributes := #[] }, { accessFlags := 25, nameIndex := 288, descriptorIndex := 25, attributes := #[] }, { accessFlags := 25, nameIndex := 290, descriptorIndex := 25, attributes := #[] }, { accessFlags := 25, nameIndex := 292, descriptorIndex := 25, attributes := #[] }, { accessFlags := 26, nameIndex := 108, descriptorIndex := 109, attributes := #[] }, { accessFlags := 25, nameIndex := 294, descriptorIndex := 25, attributes := #[] }])
  fields := #[{ name := "U", type := (.object "jdk/internal/misc/Unsafe"), accessFlags := 24, slot := 0, constantValue := 0 }, { name := "BIG_ENDIAN", type := .boolean, accessFlags := 26, slot := 1, constantValue := 0 }, { name := "LOG2_ARRAY_BOOLEAN_INDEX_SCALE", type := .int, accessFlags := 25, slot := 2, constantValue := 0 }, { name := "LOG2_ARRAY_BYTE_INDEX_SCALE", type := .int, accessFlags := 25, slot := 3, constantValue := 0 }, { name := "LOG2_ARRAY_CHAR_INDEX_SCALE", type := .int, accessFlags := 25, slot := 4, constantValue := 0 }, { name := "LOG2_ARRAY_SHORT_INDEX_SCALE", type := .int, accessFlags := 25, slot := 5, constantValue := 0 }, { name := "LOG2_ARRAY_INT_INDEX_SCALE", type := .int, accessFlags := 25, slot := 6, constantValue := 0 }, { name := "LOG2_ARRAY_LONG_INDEX_SCALE", type := .int, accessFlags := 25, slot := 7, constantValue := 0 }, { name := "LOG2_ARRAY_FLOAT_INDEX_SCALE", type := .int, accessFlags := 25, slot := 8, constantValue := 0 }, { name := "LOG2_ARRAY_DOUBLE_INDEX_SCALE", type := .int, accessFlags := 25, slot := 9, constantValue := 0 }, { name := "LOG2_BYTE_BIT_SIZE", type := .int, accessFlags := 26, slot := 10, constantValue := 0 }, { name := "T_BOOLEAN", type := .int, accessFlags := 25, slot := 11, constantValue := 0 }, { name := "T_CHAR", type := .int, accessFlags := 25, slot := 12, constantValue := 0 }, { name := "T_FLOAT", type := .int, accessFlags := 25, slot := 13, constantValue := 0 }, { name := "T_DOUBLE", type := .int, accessFlags := 25, slot := 14, constantValue := 0 }, { name := "T_BYTE", type := .int, accessFlags := 25, slot := 15, constantValue := 0 }, { name := "T_SHORT", type := .int, accessFlags := 25, slot := 16, constantValue := 0 }, { name := "T_INT", type := .int, accessFlags := 25, slot := 17, constantValue := 0 }, { name := "T_LONG", type := .int, accessFlags := 25, slot := 18, constantValue := 0 }, { name := "JLA", type := (.object "jdk/internal/access/JavaLangAccess"), accessFlags := 26, slot := 19, constantValue := 0 }, { name := "SOFT_MAX_ARRAY_LENGTH", type := .int, accessFlags := 25, slot := 20, constantValue := 0 }]
  methods := #[k16m0]
  instanceTypes := #[]
  staticTypes := #[(.object "jdk/internal/misc/Unsafe"), .boolean, .int, .int, .int, .int, .int, .int, .int, .int, .int, .int, .int, .int, .int, .int, .int, .int, .int, (.object "jdk/internal/access/JavaLangAccess"), .int]
  resolved := Array.replicate 378 none
  statics := none }

def pool17 : Array CpInfo := pool [(1, u "java/lang/Cloneable"), (0, .class_ 1), (0, u "java/lang/Object"), (0, .class_ 3)] 3

/-- java/lang/Cloneable -/
def k17 : Class := { plain "java/lang/Cloneable" (some 0) with
  accessFlags := 1537
  interfaces := #[]
  cf := some (fileOf pool17 2 #[] #[] 1537 4 #[] #[])
  fields := #[]
  methods := #[]
  instanceTypes := #[]
  staticTypes := #[]
  resolved := Array.replicate 8 none
  statics := none }

/-- the primitive boolean -/
def k18 : Class := { plain "boolean" none with kind := .primitive 'Z', accessFlags := 0x411 }
/-- [Z -/
def k19 : Class := { plain "[Z" (some 0) with kind := .array 18 .boolean, interfaces := #[17, 3], accessFlags := 1041 }

/-- the primitive byte -/
def k20 : Class := { plain "byte" none with kind := .primitive 'B', accessFlags := 0x411 }
/-- [B -/
def k21 : Class := { plain "[B" (some 0) with kind := .array 20 .byte, interfaces := #[17, 3], accessFlags := 1041 }

/-- the primitive int -/
def k22 : Class := { plain "int" none with kind := .primitive 'I', accessFlags := 0x411 }
/-- [I -/
def k23 : Class := { plain "[I" (some 0) with kind := .array 22 .int, interfaces := #[17, 3], accessFlags := 1041 }

def heap : Heap := #[{ cls := 8, slots := #[.long 0, .int 1, .null, .int 0, .null, .int 0, .int 0], vm := .statics 8 },
  { cls := 13, slots := #[.ref 3, .ref 4, .null], vm := .statics 13 },
  { cls := 15, slots := #[.null, .null, .null], vm := .statics 15 },
  { cls := 13, slots := #[.null, .int 0, .int 0], vm := .none },
  { cls := 13, slots := #[.null, .int 1, .int 0], vm := .none }]
def classes : Array Class := #[k0, k1, k2, k3, k4, k5, k6, k7, k8, k9, k10, k11, k12, k13, k14, k15, k16, k17, k18, k19, k20, k21, k22, k23]
def interned : List (Array UInt16 × Addr) := []
def slotsUsed : Nat := 19
def theMethod : MethodId := ⟨1, 6⟩
def args0 : Array Value := #[.int 5, .int 5, .int 5, .int 5, .int 5]
def aboutOver (below : List Frame) : State where
  vm := { classes := classes, interned := interned.toArray }
  heap := heap
  slotsUsed := slotsUsed
  threads := #[{ frames := .invoking theMethod args0 :: below }]
def below0 : List Frame := [.native { method := ⟨0, 0⟩, args := #[] }]
def about1 : State := aboutOver below0
def p0 : Program := .bare "" "" ""
def e0 : Env := launch0.env 0 0 0
theorem w_frames : about1.frames = Frame.invoking theMethod args0 :: below0 := rfl
set_option maxRecDepth 65536 in
theorem w_args : argsFit about1.vm theMethod args0 = true := by decide +kernel
set_option maxRecDepth 65536 in
theorem w_heap : heapFits about1 = true := by decide +kernel
set_option maxRecDepth 65536 in
theorem w_runnable : about1.curStatus? = some .runnable := by decide +kernel
set_option maxRecDepth 65536 in
theorem w_alone : about1.alone = true := by decide +kernel
set_option maxRecDepth 65536 in
theorem w_named : about1.methodNamed? x = some theMethod := by decide +kernel
set_option maxRecDepth 65536 in
theorem w_hears : about1.hears theMethod below0 = true := by decide +kernel
set_option maxRecDepth 65536 in
theorem w_ripe : about1.ripe theMethod args0 below0 = true := by decide +kernel
theorem w_running : about1.status = .running := rfl
set_option maxRecDepth 65536 in
theorem w_room : about1.hasRoom e0.platform room_1 = true :=
  launch0.hasRoom_least _ room_1 (by decide +kernel) (by decide +kernel) (by decide +kernel) (by decide +kernel) (by decide +kernel) (by decide +kernel)
theorem allAtoms_all (ts : List Jvm.Cond) (a : Array Jvm.Value) (st : Jvm.State) : (allAtoms ts).before a st = ts.all (fun c => c.before a st) := by
  induction ts with
  | nil => rfl
  | cons c t ih =>
    show (Jvm.Cond.and c (allAtoms t)).before a st = _
    rw [Jvm.Cond.before_and, ih, List.all_cons]
def words1 : List Jvm.Cond := Jvm.Cond.code x code maxLocals ret :: tables_1
/-- a 'code' word, met by the world's own term for the bytes: nothing is compared byte by byte -/
theorem code_word {y : MethodName} {bytes : ByteArray} {mx : Nat} {rt : Option FieldType} {a : Array Value} {s : State} {m : MethodId} {meth : Method} {c : Code} (h1 : s.methodNamed? y = some m) (h2 : s.vm.method? m = some meth) (h3 : meth.code = some c) (h4 : c.code = bytes)
    (h5 : (c.maxLocals == mx && c.exceptionTable.isEmpty && decide (c.maxStack ≤ mostOperands) && decide (meth.sig.returnType = rt) && !meth.locks && decide (parseMethodDescriptor y.desc = some meth.sig)) = true) : (Jvm.Cond.code y bytes mx rt).before a s = true := by
  simp only [Bool.and_eq_true, beq_iff_eq, Bool.not_eq_true', decide_eq_true_eq] at h5
  obtain ⟨⟨⟨⟨⟨g1, g2⟩, g3⟩, g4⟩, g5⟩, g6⟩ := h5
  simp [Cond.before, Cond.holds, Cond.value, h1, h2, h3, h4, g1, g2, g3, g4, g5, g6]
def isCode : Jvm.Cond → Bool
  | .code _ _ _ _ => true
  | _ => false
theorem all_split {L : List Jvm.Cond} {P : Jvm.Cond → Bool} (h1 : L.all (fun c => isCode c || P c) = true) (h2 : ∀ c ∈ L.filter isCode, P c = true) : L.all P = true := by
  refine List.all_eq_true.mpr fun c hc => ?_
  have h := List.all_eq_true.mp h1 c hc
  rcases Bool.eq_false_or_eq_true (isCode c) with hi | hi
  · exact h2 c (List.mem_filter.mpr ⟨hc, hi⟩)
  · simpa [hi] using h
set_option maxRecDepth 65536 in
theorem w_c0 : (Jvm.Cond.code x code maxLocals ret).before args0 about1 = true := code_word (m := ⟨1, 6⟩) (meth := k1m6) (c := k1c6) (by decide +kernel) rfl rfl rfl (by decide +kernel)
set_option maxRecDepth 65536 in
theorem w_c1 : (Jvm.Cond.code ({ cls := "com/example/wanderpath/wanderpath/GridCanStepPinLaw", name := "tile", desc := "(II)B" } : Jvm.MethodName) method_3_code (2 : Nat) (Option.some Jvm.ClassFile.FieldType.byte)).before args0 about1 = true := code_word (m := ⟨1, 2⟩) (meth := k1m2) (c := k1c2) (by decide +kernel) rfl rfl rfl (by decide +kernel)
set_option maxRecDepth 65536 in
theorem w_c2 : (Jvm.Cond.code ({ cls := "com/example/wanderpath/wanderpath/GridCanStepPinLaw", name := "bit", desc := "(II)Z" } : Jvm.MethodName) method_2_code (2 : Nat) (Option.some Jvm.ClassFile.FieldType.boolean)).before args0 about1 = true := code_word (m := ⟨1, 1⟩) (meth := k1m1) (c := k1c1) (by decide +kernel) rfl rfl rfl (by decide +kernel)
set_option maxRecDepth 65536 in
theorem w_c3 : (Jvm.Cond.code ({ cls := "com/example/wanderpath/wanderpath/TileMap", name := "<init>", desc := "(II[B)V" } : Jvm.MethodName) prog_30_method_1_code (9 : Nat) (Option.none : Option Jvm.ClassFile.FieldType)).before args0 about1 = true := code_word (m := ⟨2, 0⟩) (meth := k2m0) (c := k2c0) (by decide +kernel) rfl rfl rfl (by decide +kernel)
set_option maxRecDepth 65536 in
theorem w_c4 : (Jvm.Cond.code ({ cls := "java/lang/Object", name := "<init>", desc := "()V" } : Jvm.MethodName) object_method_1_code (1 : Nat) (Option.none : Option Jvm.ClassFile.FieldType)).before args0 about1 = true := code_word (m := ⟨0, 0⟩) (meth := k0m0) (c := k0c0) (by decide +kernel) rfl rfl rfl (by decide +kernel)
set_option maxRecDepth 65536 in
theorem w_c5 : (Jvm.Cond.code ({ cls := "com/example/wanderpath/wanderpath/TileMap", name := "isPassableTile", desc := "(I)Z" } : Jvm.MethodName) prog_30_method_13_code (1 : Nat) (Option.some Jvm.ClassFile.FieldType.boolean)).before args0 about1 = true := code_word (m := ⟨2, 6⟩) (meth := k2m6) (c := k2c6) (by decide +kernel) rfl rfl rfl (by decide +kernel)
set_option maxRecDepth 65536 in
theorem w_c6 : (Jvm.Cond.code ({ cls := "java/lang/String", name := "indexOf", desc := "(I)I" } : Jvm.MethodName) jdk_42_method_79_code (2 : Nat) (Option.some Jvm.ClassFile.FieldType.int)).before args0 about1 = true := code_word (m := ⟨8, 2⟩) (meth := k8m2) (c := k8c2) (by decide +kernel) rfl rfl rfl (by decide +kernel)
set_option maxRecDepth 65536 in
theorem w_c7 : (Jvm.Cond.code ({ cls := "java/lang/String", name := "indexOf", desc := "(II)I" } : Jvm.MethodName) jdk_42_method_80_code (3 : Nat) (Option.some Jvm.ClassFile.FieldType.int)).before args0 about1 = true := code_word (m := ⟨8, 3⟩) (meth := k8m3) (c := k8c3) (by decide +kernel) rfl rfl rfl (by decide +kernel)
set_option maxRecDepth 65536 in
theorem w_c8 : (Jvm.Cond.code ({ cls := "java/lang/String", name := "isLatin1", desc := "()Z" } : Jvm.MethodName) jdk_42_method_154_code (1 : Nat) (Option.some Jvm.ClassFile.FieldType.boolean)).before args0 about1 = true := code_word (m := ⟨8, 5⟩) (meth := k8m5) (c := k8c5) (by decide +kernel) rfl rfl rfl (by decide +kernel)
set_option maxRecDepth 65536 in
theorem w_c9 : (Jvm.Cond.code ({ cls := "java/lang/String", name := "length", desc := "()I" } : Jvm.MethodName) jdk_42_method_54_code (1 : Nat) (Option.some Jvm.ClassFile.FieldType.int)).before args0 about1 = true := code_word (m := ⟨8, 1⟩) (meth := k8m1) (c := k8c1) (by decide +kernel) rfl rfl rfl (by decide +kernel)
set_option maxRecDepth 65536 in
theorem w_c10 : (Jvm.Cond.code ({ cls := "java/lang/String", name := "coder", desc := "()B" } : Jvm.MethodName) jdk_42_method_152_code (1 : Nat) (Option.some Jvm.ClassFile.FieldType.byte)).before args0 about1 = true := code_word (m := ⟨8, 4⟩) (meth := k8m4) (c := k8c4) (by decide +kernel) rfl rfl rfl (by decide +kernel)
set_option maxRecDepth 65536 in
theorem w_c11 : (Jvm.Cond.code ({ cls := "java/lang/StringLatin1", name := "indexOf", desc := "([BIII)I" } : Jvm.MethodName) jdk_43_method_22_code (4 : Nat) (Option.some Jvm.ClassFile.FieldType.int)).before args0 about1 = true := code_word (m := ⟨9, 2⟩) (meth := k9m2) (c := k9c2) (by decide +kernel) rfl rfl rfl (by decide +kernel)
set_option maxRecDepth 65536 in
theorem w_c12 : (Jvm.Cond.code ({ cls := "java/lang/StringLatin1", name := "canEncode", desc := "(I)Z" } : Jvm.MethodName) jdk_43_method_4_code (1 : Nat) (Option.some Jvm.ClassFile.FieldType.boolean)).before args0 about1 = true := code_word (m := ⟨9, 1⟩) (meth := k9m1) (c := k9c1) (by decide +kernel) rfl rfl rfl (by decide +kernel)
set_option maxRecDepth 65536 in
theorem w_c13 : (Jvm.Cond.code ({ cls := "java/lang/Math", name := "max", desc := "(II)I" } : Jvm.MethodName) jdk_29_method_65_code (2 : Nat) (Option.some Jvm.ClassFile.FieldType.int)).before args0 about1 = true := code_word (m := ⟨10, 1⟩) (meth := k10m1) (c := k10c1) (by decide +kernel) rfl rfl rfl (by decide +kernel)
set_option maxRecDepth 65536 in
theorem w_c14 : (Jvm.Cond.code ({ cls := "java/lang/Math", name := "min", desc := "(II)I" } : Jvm.MethodName) jdk_29_method_69_code (2 : Nat) (Option.some Jvm.ClassFile.FieldType.int)).before args0 about1 = true := code_word (m := ⟨10, 2⟩) (meth := k10m2) (c := k10c2) (by decide +kernel) rfl rfl rfl (by decide +kernel)
set_option maxRecDepth 65536 in
theorem w_c15 : (Jvm.Cond.code ({ cls := "java/lang/StringLatin1", name := "indexOfChar", desc := "([BIII)I" } : Jvm.MethodName) jdk_43_method_23_code (6 : Nat) (Option.some Jvm.ClassFile.FieldType.int)).before args0 about1 = true := code_word (m := ⟨9, 3⟩) (meth := k9m3) (c := k9c3) (by decide +kernel) rfl rfl rfl (by decide +kernel)
set_option maxRecDepth 65536 in
theorem w_c16 : (Jvm.Cond.code ({ cls := "com/example/wanderpath/wanderpath/Grid", name := "<init>", desc := "(Lcom/example/wanderpath/wanderpath/TileMap;Lcom/example/wanderpath/wanderpath/Moves;)V" } : Jvm.MethodName) prog_11_method_1_code (7 : Nat) (Option.none : Option Jvm.ClassFile.FieldType)).before args0 about1 = true := code_word (m := ⟨11, 0⟩) (meth := k11m0) (c := k11c0) (by decide +kernel) rfl rfl rfl (by decide +kernel)
set_option maxRecDepth 65536 in
theorem w_c17 : (Jvm.Cond.code ({ cls := "com/example/wanderpath/wanderpath/TileMap", name := "width", desc := "()I" } : Jvm.MethodName) prog_30_method_4_code (1 : Nat) (Option.some Jvm.ClassFile.FieldType.int)).before args0 about1 = true := code_word (m := ⟨2, 1⟩) (meth := k2m1) (c := k2c1) (by decide +kernel) rfl rfl rfl (by decide +kernel)
set_option maxRecDepth 65536 in
theorem w_c18 : (Jvm.Cond.code ({ cls := "com/example/wanderpath/wanderpath/TileMap", name := "height", desc := "()I" } : Jvm.MethodName) prog_30_method_5_code (1 : Nat) (Option.some Jvm.ClassFile.FieldType.int)).before args0 about1 = true := code_word (m := ⟨2, 2⟩) (meth := k2m2) (c := k2c2) (by decide +kernel) rfl rfl rfl (by decide +kernel)
set_option maxRecDepth 65536 in
theorem w_c19 : (Jvm.Cond.code ({ cls := "com/example/wanderpath/wanderpath/TileMap", name := "contains", desc := "(II)Z" } : Jvm.MethodName) prog_30_method_7_code (3 : Nat) (Option.some Jvm.ClassFile.FieldType.boolean)).before args0 about1 = true := code_word (m := ⟨2, 3⟩) (meth := k2m3) (c := k2c3) (by decide +kernel) rfl rfl rfl (by decide +kernel)
set_option maxRecDepth 65536 in
theorem w_c20 : (Jvm.Cond.code ({ cls := "com/example/wanderpath/wanderpath/TileMap", name := "isPassable", desc := "(II)Z" } : Jvm.MethodName) prog_30_method_9_code (3 : Nat) (Option.some Jvm.ClassFile.FieldType.boolean)).before args0 about1 = true := code_word (m := ⟨2, 4⟩) (meth := k2m4) (c := k2c4) (by decide +kernel) rfl rfl rfl (by decide +kernel)
set_option maxRecDepth 65536 in
theorem w_c21 : (Jvm.Cond.code ({ cls := "com/example/wanderpath/wanderpath/TileMap", name := "index", desc := "(II)I" } : Jvm.MethodName) prog_30_method_11_code (3 : Nat) (Option.some Jvm.ClassFile.FieldType.int)).before args0 about1 = true := code_word (m := ⟨2, 5⟩) (meth := k2m5) (c := k2c5) (by decide +kernel) rfl rfl rfl (by decide +kernel)
set_option maxRecDepth 65536 in
theorem w_c22 : (Jvm.Cond.code ({ cls := "java/util/Objects", name := "checkIndex", desc := "(II)I" } : Jvm.MethodName) jdk_31_method_17_code (2 : Nat) (Option.some Jvm.ClassFile.FieldType.int)).before args0 about1 = true := code_word (m := ⟨14, 1⟩) (meth := k14m1) (c := k14c1) (by decide +kernel) rfl rfl rfl (by decide +kernel)
set_option maxRecDepth 65536 in
theorem w_c23 : (Jvm.Cond.code ({ cls := "jdk/internal/util/Preconditions", name := "checkIndex", desc := "(IILjava/util/function/BiFunction;)I" } : Jvm.MethodName) jdk_41_method_11_code (3 : Nat) (Option.some Jvm.ClassFile.FieldType.int)).before args0 about1 = true := code_word (m := ⟨15, 1⟩) (meth := k15m1) (c := k15c1) (by decide +kernel) rfl rfl rfl (by decide +kernel)
set_option maxRecDepth 65536 in
theorem w_c24 : (Jvm.Cond.code ({ cls := "com/example/wanderpath/wanderpath/Grid", name := "canStep", desc := "([ZII)Z" } : Jvm.MethodName) prog_11_method_14_code (4 : Nat) (Option.some Jvm.ClassFile.FieldType.boolean)).before args0 about1 = true := code_word (m := ⟨11, 1⟩) (meth := k11m1) (c := k11c1) (by decide +kernel) rfl rfl rfl (by decide +kernel)
set_option maxRecDepth 65536 in
theorem w_c25 : (Jvm.Cond.code ({ cls := "com/example/wanderpath/wanderpath/GridCanStepPinLaw", name := "dx", desc := "(I)I" } : Jvm.MethodName) method_4_code (1 : Nat) (Option.some Jvm.ClassFile.FieldType.int)).before args0 about1 = true := code_word (m := ⟨1, 3⟩) (meth := k1m3) (c := k1c3) (by decide +kernel) rfl rfl rfl (by decide +kernel)
set_option maxRecDepth 65536 in
theorem w_c26 : (Jvm.Cond.code ({ cls := "com/example/wanderpath/wanderpath/GridCanStepPinLaw", name := "dy", desc := "(I)I" } : Jvm.MethodName) method_5_code (1 : Nat) (Option.some Jvm.ClassFile.FieldType.int)).before args0 about1 = true := code_word (m := ⟨1, 4⟩) (meth := k1m4) (c := k1c4) (by decide +kernel) rfl rfl rfl (by decide +kernel)
set_option maxRecDepth 65536 in
theorem w_c27 : (Jvm.Cond.code ({ cls := "com/example/wanderpath/wanderpath/GridCanStepPinLaw", name := "passable", desc := "(III)Z" } : Jvm.MethodName) method_6_code (3 : Nat) (Option.some Jvm.ClassFile.FieldType.boolean)).before args0 about1 = true := code_word (m := ⟨1, 5⟩) (meth := k1m5) (c := k1c5) (by decide +kernel) rfl rfl rfl (by decide +kernel)
def codes1 : List Jvm.Cond := [Jvm.Cond.code x code maxLocals ret, Jvm.Cond.code ({ cls := "com/example/wanderpath/wanderpath/GridCanStepPinLaw", name := "tile", desc := "(II)B" } : Jvm.MethodName) method_3_code (2 : Nat) (Option.some Jvm.ClassFile.FieldType.byte), Jvm.Cond.code ({ cls := "com/example/wanderpath/wanderpath/GridCanStepPinLaw", name := "bit", desc := "(II)Z" } : Jvm.MethodName) method_2_code (2 : Nat) (Option.some Jvm.ClassFile.FieldType.boolean), Jvm.Cond.code ({ cls := "com/example/wanderpath/wanderpath/TileMap", name := "<init>", desc := "(II[B)V" } : Jvm.MethodName) prog_30_method_1_code (9 : Nat) (Option.none : Option Jvm.ClassFile.FieldType), Jvm.Cond.code ({ cls := "java/lang/Object", name := "<init>", desc := "()V" } : Jvm.MethodName) object_method_1_code (1 : Nat) (Option.none : Option Jvm.ClassFile.FieldType), Jvm.Cond.code ({ cls := "com/example/wanderpath/wanderpath/TileMap", name := "isPassableTile", desc := "(I)Z" } : Jvm.MethodName) prog_30_method_13_code (1 : Nat) (Option.some Jvm.ClassFile.FieldType.boolean), Jvm.Cond.code ({ cls := "java/lang/String", name := "indexOf", desc := "(I)I" } : Jvm.MethodName) jdk_42_method_79_code (2 : Nat) (Option.some Jvm.ClassFile.FieldType.int), Jvm.Cond.code ({ cls := "java/lang/String", name := "indexOf", desc := "(II)I" } : Jvm.MethodName) jdk_42_method_80_code (3 : Nat) (Option.some Jvm.ClassFile.FieldType.int), Jvm.Cond.code ({ cls := "java/lang/String", name := "isLatin1", desc := "()Z" } : Jvm.MethodName) jdk_42_method_154_code (1 : Nat) (Option.some Jvm.ClassFile.FieldType.boolean), Jvm.Cond.code ({ cls := "java/lang/String", name := "length", desc := "()I" } : Jvm.MethodName) jdk_42_method_54_code (1 : Nat) (Option.some Jvm.ClassFile.FieldType.int), Jvm.Cond.code ({ cls := "java/lang/String", name := "coder", desc := "()B" } : Jvm.MethodName) jdk_42_method_152_code (1 : Nat) (Option.some Jvm.ClassFile.FieldType.byte), Jvm.Cond.code ({ cls := "java/lang/StringLatin1", name := "indexOf", desc := "([BIII)I" } : Jvm.MethodName) jdk_43_method_22_code (4 : Nat) (Option.some Jvm.ClassFile.FieldType.int), Jvm.Cond.code ({ cls := "java/lang/StringLatin1", name := "canEncode", desc := "(I)Z" } : Jvm.MethodName) jdk_43_method_4_code (1 : Nat) (Option.some Jvm.ClassFile.FieldType.boolean), Jvm.Cond.code ({ cls := "java/lang/Math", name := "max", desc := "(II)I" } : Jvm.MethodName) jdk_29_method_65_code (2 : Nat) (Option.some Jvm.ClassFile.FieldType.int), Jvm.Cond.code ({ cls := "java/lang/Math", name := "min", desc := "(II)I" } : Jvm.MethodName) jdk_29_method_69_code (2 : Nat) (Option.some Jvm.ClassFile.FieldType.int), Jvm.Cond.code ({ cls := "java/lang/StringLatin1", name := "indexOfChar", desc := "([BIII)I" } : Jvm.MethodName) jdk_43_method_23_code (6 : Nat) (Option.some Jvm.ClassFile.FieldType.int), Jvm.Cond.code ({ cls := "com/example/wanderpath/wanderpath/Grid", name := "<init>", desc := "(Lcom/example/wanderpath/wanderpath/TileMap;Lcom/example/wanderpath/wanderpath/Moves;)V" } : Jvm.MethodName) prog_11_method_1_code (7 : Nat) (Option.none : Option Jvm.ClassFile.FieldType), Jvm.Cond.code ({ cls := "com/example/wanderpath/wanderpath/TileMap", name := "width", desc := "()I" } : Jvm.MethodName) prog_30_method_4_code (1 : Nat) (Option.some Jvm.ClassFile.FieldType.int), Jvm.Cond.code ({ cls := "com/example/wanderpath/wanderpath/TileMap", name := "height", desc := "()I" } : Jvm.MethodName) prog_30_method_5_code (1 : Nat) (Option.some Jvm.ClassFile.FieldType.int), Jvm.Cond.code ({ cls := "com/example/wanderpath/wanderpath/TileMap", name := "contains", desc := "(II)Z" } : Jvm.MethodName) prog_30_method_7_code (3 : Nat) (Option.some Jvm.ClassFile.FieldType.boolean), Jvm.Cond.code ({ cls := "com/example/wanderpath/wanderpath/TileMap", name := "isPassable", desc := "(II)Z" } : Jvm.MethodName) prog_30_method_9_code (3 : Nat) (Option.some Jvm.ClassFile.FieldType.boolean), Jvm.Cond.code ({ cls := "com/example/wanderpath/wanderpath/TileMap", name := "index", desc := "(II)I" } : Jvm.MethodName) prog_30_method_11_code (3 : Nat) (Option.some Jvm.ClassFile.FieldType.int), Jvm.Cond.code ({ cls := "java/util/Objects", name := "checkIndex", desc := "(II)I" } : Jvm.MethodName) jdk_31_method_17_code (2 : Nat) (Option.some Jvm.ClassFile.FieldType.int), Jvm.Cond.code ({ cls := "jdk/internal/util/Preconditions", name := "checkIndex", desc := "(IILjava/util/function/BiFunction;)I" } : Jvm.MethodName) jdk_41_method_11_code (3 : Nat) (Option.some Jvm.ClassFile.FieldType.int), Jvm.Cond.code ({ cls := "com/example/wanderpath/wanderpath/Grid", name := "canStep", desc := "([ZII)Z" } : Jvm.MethodName) prog_11_method_14_code (4 : Nat) (Option.some Jvm.ClassFile.FieldType.boolean), Jvm.Cond.code ({ cls := "com/example/wanderpath/wanderpath/GridCanStepPinLaw", name := "dx", desc := "(I)I" } : Jvm.MethodName) method_4_code (1 : Nat) (Option.some Jvm.ClassFile.FieldType.int), Jvm.Cond.code ({ cls := "com/example/wanderpath/wanderpath/GridCanStepPinLaw", name := "dy", desc := "(I)I" } : Jvm.MethodName) method_5_code (1 : Nat) (Option.some Jvm.ClassFile.FieldType.int), Jvm.Cond.code ({ cls := "com/example/wanderpath/wanderpath/GridCanStepPinLaw", name := "passable", desc := "(III)Z" } : Jvm.MethodName) method_6_code (3 : Nat) (Option.some Jvm.ClassFile.FieldType.boolean)]
set_option maxRecDepth 65536 in
theorem codes_eq : words1.filter isCode = codes1 := rfl
theorem w_codes : ∀ c ∈ words1.filter isCode, c.before args0 about1 = true := by
  rw [codes_eq]
  intro c hc
  simp only [codes1, List.mem_cons, List.not_mem_nil, or_false] at hc
  rcases hc with rfl | rfl | rfl | rfl | rfl | rfl | rfl | rfl | rfl | rfl | rfl | rfl | rfl | rfl | rfl | rfl | rfl | rfl | rfl | rfl | rfl | rfl | rfl | rfl | rfl | rfl | rfl | rfl
  · exact w_c0
  · exact w_c1
  · exact w_c2
  · exact w_c3
  · exact w_c4
  · exact w_c5
  · exact w_c6
  · exact w_c7
  · exact w_c8
  · exact w_c9
  · exact w_c10
  · exact w_c11
  · exact w_c12
  · exact w_c13
  · exact w_c14
  · exact w_c15
  · exact w_c16
  · exact w_c17
  · exact w_c18
  · exact w_c19
  · exact w_c20
  · exact w_c21
  · exact w_c22
  · exact w_c23
  · exact w_c24
  · exact w_c25
  · exact w_c26
  · exact w_c27
set_option maxRecDepth 65536 in
theorem w_t1 : (words1.take 24).all (fun c => isCode c || c.before args0 about1) = true := by decide +kernel
set_option maxRecDepth 65536 in
theorem w_t2 : ((words1.drop 24).take 24).all (fun c => isCode c || c.before args0 about1) = true := by decide +kernel
set_option maxRecDepth 65536 in
theorem w_t3 : (((words1.drop 24).drop 24).take 24).all (fun c => isCode c || c.before args0 about1) = true := by decide +kernel
set_option maxRecDepth 65536 in
theorem w_t4 : ((((words1.drop 24).drop 24).drop 24).take 24).all (fun c => isCode c || c.before args0 about1) = true := by decide +kernel
set_option maxRecDepth 65536 in
theorem w_t5 : (((((words1.drop 24).drop 24).drop 24).drop 24).take 24).all (fun c => isCode c || c.before args0 about1) = true := by decide +kernel
set_option maxRecDepth 65536 in
theorem w_t6 : ((((((words1.drop 24).drop 24).drop 24).drop 24).drop 24).take 24).all (fun c => isCode c || c.before args0 about1) = true := by decide +kernel
set_option maxRecDepth 65536 in
theorem w_t7 : ((((((words1.drop 24).drop 24).drop 24).drop 24).drop 24).drop 24).all (fun c => isCode c || c.before args0 about1) = true := by decide +kernel
theorem w_tables : (allAtoms (Jvm.Cond.code x code maxLocals ret :: tables_1)).before args0 about1 = true := by
  rw [allAtoms_all]
  show words1.all (fun c => c.before args0 about1) = true
  refine all_split ?_ w_codes
  rw [← List.take_append_drop 24 words1, List.all_append, w_t1, ← List.take_append_drop 24 (words1.drop 24), List.all_append, w_t2, ← List.take_append_drop 24 ((words1.drop 24).drop 24), List.all_append, w_t3, ← List.take_append_drop 24 (((words1.drop 24).drop 24).drop 24), List.all_append, w_t4, ← List.take_append_drop 24 ((((words1.drop 24).drop 24).drop 24).drop 24), List.all_append, w_t5, ← List.take_append_drop 24 (((((words1.drop 24).drop 24).drop 24).drop 24).drop 24), List.all_append, w_t6, w_t7]
  rfl
set_option maxRecDepth 65536 in
theorem w_rest : rest_1_c.before args0 about1 = true := by decide +kernel
set_option maxRecDepth 65536 in
theorem w_case : (Jvm.Cond.and given_1 narrow_1).before args0 about1 = true := by decide +kernel
set_option maxRecDepth 65536 in
theorem w_consts : constsHeld consts_1 about1 := Jvm.Lit.constsHeldB_iff.mp (by decide +kernel)
theorem w_applies : (headSpec (Jvm.Cond.code x code maxLocals ret :: tables_1) room_1).applies x e0.platform about1 = true :=
  (Spec.applies_iff w_frames).mpr ⟨w_running, w_runnable, w_alone, w_named, w_hears, w_ripe, w_room, w_tables⟩
theorem atStart : AtStart classFile x code maxLocals ret World_1 tables_1 room_1 Calls_1 rest_1 Pre_1 launch0 p0 e0 about1 theMethod args0 below0 :=
  ⟨lists_1, trivial, launch0.admits_env _ _ _, launch0.least_env, fairChoices_fair.cas, fairChoices_fair.clock, w_frames, w_args, w_heap, w_applies, ⟨w_consts, trivial⟩, w_rest, w_case⟩
end start1
theorem witness_1 : WitnessClaimed_1 := ⟨start1.p0, start1.e0, start1.about1, start1.theMethod, start1.args0, start1.below0, start1.atStart⟩
end Jvm.Pilot.@@N@@
