import JvmDerived
import JvmDerived.Pilot.@@N@@Statement
import JvmDerived.Pilot.@@N@@Code
set_option linter.unusedVariables false
set_option linter.unusedSimpArgs false

namespace Jvm.RoadKit
open Sem ClassFile Op Lib Jvm.Stand Jvm.Free Jvm.LawKit
section New
variable {p : Program} {l : Launch} {e : Env} {R : Room} {s : State} {m : MethodId} {args : Array Value} {below : List Frame} {meth : Method} {c : Code} {T : State} {locs : List Loc} {cells slots : Nat}
theorem retI (X : Stand p l e R s m args below meth c T locs cells slots) (hx : p.tables.exec = Jvm.exec) {pc : Nat} {Ls : Array Slot} {z : Int32} {rest : List Value} (hret : meth.sig.returnType = some .int) (hd : decode c.code pc = .ok (.ireturn, 1)) {fs : List Frame}
    (hl : ∀ (f : JFrame) (acts : List Action), f.method = m → f.locked = none → f.entered = [] → (doReturn e (T.setTop f) acts (some (.int z))).1 = T.setFrames fs) : Steps p.tables e below (T.setTop (mkF m pc Ls (.int z :: rest))) (T.setFrames fs) := by
  have hm' : T.vm.method? m = some meth := X.method'
  have hn : narrow .int (.int z) = .int z := rfl
  show Steps p.tables e below (T.setTop { method := m, pc := pc, locals := Ls, stack := _ :: rest, locked := none }) _
  jvm_step X.here [X.here.top, hx, hd, hm', hret, hn]
  first | (intro acts; rw [hl _ acts rfl rfl rfl]) | rw [hl _ _ rfl rfl rfl]
  exact Steps.refl _
theorem retAO (X : Stand p l e R s m args below meth c T locs cells slots) (hx : p.tables.exec = Jvm.exec) {pc : Nat} {Ls : Array Slot} {z : Addr} {rest : List Value} {C : String} (hret : meth.sig.returnType = some (.object C)) (hd : decode c.code pc = .ok (.areturn, 1)) {fs : List Frame}
    (hl : ∀ (f : JFrame) (acts : List Action), f.method = m → f.locked = none → f.entered = [] → (doReturn e (T.setTop f) acts (some (.ref z))).1 = T.setFrames fs) : Steps p.tables e below (T.setTop (mkF m pc Ls (.ref z :: rest))) (T.setFrames fs) := by
  have hm' : T.vm.method? m = some meth := X.method'
  show Steps p.tables e below (T.setTop { method := m, pc := pc, locals := Ls, stack := _ :: rest, locked := none }) _
  jvm_step X.here [X.here.top, hx, hd, hm', hret, Value.isRef, FieldType.isReference]
  first | (intro acts; rw [hl _ acts rfl rfl rfl]) | rw [hl _ _ rfl rfl rfl]
  exact Steps.refl _
theorem retAA (X : Stand p l e R s m args below meth c T locs cells slots) (hx : p.tables.exec = Jvm.exec) {pc : Nat} {Ls : Array Slot} {z : Addr} {rest : List Value} {C : FieldType} (hret : meth.sig.returnType = some (.array C)) (hd : decode c.code pc = .ok (.areturn, 1)) {fs : List Frame}
    (hl : ∀ (f : JFrame) (acts : List Action), f.method = m → f.locked = none → f.entered = [] → (doReturn e (T.setTop f) acts (some (.ref z))).1 = T.setFrames fs) : Steps p.tables e below (T.setTop (mkF m pc Ls (.ref z :: rest))) (T.setFrames fs) := by
  have hm' : T.vm.method? m = some meth := X.method'
  show Steps p.tables e below (T.setTop { method := m, pc := pc, locals := Ls, stack := _ :: rest, locked := none }) _
  jvm_step X.here [X.here.top, hx, hd, hm', hret, Value.isRef, FieldType.isReference]
  first | (intro acts; rw [hl _ acts rfl rfl rfl]) | rw [hl _ _ rfl rfl rfl]
  exact Steps.refl _
/-- the walk's goal, at any point of it -/
def Gl (p : Program) (e : Env) (below : List Frame) (s : State) (Q : Option Value → Heap → List Loc → Prop) (C N : Nat) (T : State) (g : JFrame) : Prop :=
  ∃ s₂ o, Steps p.tables e below (T.setTop g) s₂ ∧ s₂.status = .running ∧ Ended s₂ below o ∧ ∃ v L, o = .returned v ∧ Q v s₂.heap L ∧ FrameEnd s o s₂ L C N
variable {Q : Option Value → Heap → List Loc → Prop} {C N : Nat} {T' : State} {g g' : JFrame} {h : Heap}
theorem Gl.st (f : ∀ t, Steps p.tables e below (T'.setTop g') t → Steps p.tables e below (T.setTop g) t) (k : Gl p e below s Q C N T' g') : Gl p e below s Q C N T g := by
  obtain ⟨s₂, o, h1, r⟩ := k
  exact ⟨s₂, o, f _ h1, r⟩
theorem Gl.ret (X : Stand p l e R s m args below meth c T locs cells slots) (hlk : meth.locks = false) {v : Option Value} (hv : meth.sig.returnType = none → v = none) (eT : T.heap = h)
    (f : ∀ fs, (∀ (f : JFrame) (acts : List Action), f.method = m → f.locked = none → f.entered = [] → (doReturn e (T.setTop f) acts v).1 = T.setFrames fs) → Steps p.tables e below (T.setTop g) (T.setFrames fs)) (hc : cells ≤ C) (hn : slots ≤ N) (hQ : Q v h locs) : Gl p e below s Q C N T g := by
  obtain ⟨fs, hr, hrun, hended, hW, hsame⟩ := X.leave (v := v) hv hlk
  exact ⟨_, _, f fs hr, hrun, hended, _, _, rfl, by show Q v T.heap _; rw [eT]; exact hQ, ⟨_, rfl⟩, hW, hsame.mono hc hn⟩
theorem Arv.cellX {Z : State} {h : Heap} {a : Addr} {k : ClassId} {ty : FieldType} {z : Int32} {vs : List Value} {dv : Value} (F : Arv Z h a k ty z vs dv) : ∃ c : Cell, h[a]? = some c ∧ ∀ q, c.vm ≠ .statics q := by
  obtain ⟨c, A, -⟩ := F; exact ⟨c, A.1, A.2.1.1⟩
theorem selPrivate {s : State} {args : Array Value} {y z : MethodName} (hzy : z.cls = y.cls) (hsel : (Cond.selects z.cls z z).before args s = true) (hpriv : s.PrivateAt y) (hinst : (Cond.instanceMethod y).before args s = true) (hy : y.cls ≠ "java/lang/invoke/MethodHandle" ∧ y.cls ≠ "java/lang/invoke/VarHandle") : (Cond.selects y.cls y y).before args s = true := by
  obtain ⟨c2, r2, m2, -, -, q3, -, kP, hkP, hkPi⟩ := Cond.selects_spec hsel
  exact selects_self_of_private (by rw [← hzy]; exact findClass_of_methodNamed q3) hkP hkPi hpriv hinst hy
theorem Sta.keepX {Z : State} {h h' : Heap} {C n d : String} {v : Value} {ws : List Addr} (F : Sta Z h C n d v) (K : Keep h h' ws) (q : ∀ x ∈ ws, ∃ c : Cell, h[x]? = some c ∧ ∀ q, c.vm ≠ .statics q) : Sta Z h' C n d v := by
  obtain ⟨cf, i, k, f, st, cell, h1, h2, h3, h4, h5, h6, h7⟩ := F
  refine ⟨cf, i, k, f, st, cell, h1, h2, h3, h4, K.2.1 st cell h5 fun z => ?_, h6, h7⟩
  obtain ⟨c, e1, e2⟩ := q st z
  cases h5.symm.trans e1
  cases hv : cell.vm <;> simp [hv, VmData.isStatics] at h6
  exact e2 _ hv
end New
end Jvm.RoadKit
namespace Jvm.RoadKit
open Sem ClassFile Op Lib Jvm.Stand Jvm.Free Jvm.LawKit
section NewW
variable {p : Program} {l : Launch} {e : Env} {R : Room} {s : State} {m : MethodId} {args : Array Value} {below : List Frame} {meth : Method} {c : Code} {T : State} {locs : List Loc} {cells slots : Nat}
/-- the walk's goal where a String constant may be loaded on the way -/
def GlW (p : Program) (e : Env) (below : List Frame) (s : State) (Q : Option Value → Heap → List Loc → Prop) (C N : Nat) (T : State) (g : JFrame) : Prop :=
  ∃ s₂ o, Steps p.tables e below (T.setTop g) s₂ ∧ s₂.status = .running ∧ Ended s₂ below o ∧ ∃ v L, o = .returned v ∧ Q v s₂.heap L ∧ ReturnedEndW s o s₂ L C N
variable {Q : Option Value → Heap → List Loc → Prop} {C N : Nat} {T' : State} {g g' : JFrame} {h : Heap}
theorem GlW.st (f : ∀ t, Steps p.tables e below (T'.setTop g') t → Steps p.tables e below (T.setTop g) t) (k : GlW p e below s Q C N T' g') : GlW p e below s Q C N T g := by
  obtain ⟨s₂, o, h1, r⟩ := k
  exact ⟨s₂, o, f _ h1, r⟩
theorem GlW.ret {vm₁ : Vm} {k : Nat} (hS : s.Since vm₁ k) (hk : k ≤ h.size) (X : Stand p l e R (s.setVm vm₁) m args below meth c T locs cells slots) (hlk : meth.locks = false) {v : Option Value} (hv : meth.sig.returnType = none → v = none) (eT : T.heap = h)
    (f : ∀ fs, (∀ (f : JFrame) (acts : List Action), f.method = m → f.locked = none → f.entered = [] → (doReturn e (T.setTop f) acts v).1 = T.setFrames fs) → Steps p.tables e below (T.setTop g) (T.setFrames fs)) (hc : cells ≤ C) (hn : slots ≤ N) (hQ : Q v h locs) : GlW p e below s Q C N T g := by
  obtain ⟨fs, hr, hrun, hended, h1, h2, h3, h4⟩ := X.leaveW hS (by rw [eT]; exact hk) (v := v) hv hlk
  exact ⟨_, _, f fs hr, hrun, hended, _, _, rfl, by show Q v T.heap _; rw [eT]; exact hQ, h1, h2, h3, h4.mono hc hn⟩
end NewW
end Jvm.RoadKit
namespace Jvm.RoadKit
open Sem ClassFile Op Lib Bundle Jvm.Stand Jvm.Free Jvm.LawKit Jvm.Free.SB Jvm.Free.SBG
section NewH
variable {p : Program} {l : Launch} {e : Env} {R : Room} {s : State} {m : MethodId} {args : Array Value} {below : List Frame} {Z : State} {a0 : Array Value} {EL : List (String × Nat)} {h : Heap} {vm0 : Vm}
/-- a callee that reads a constant: it asks the invariant at its start, and says nothing of it at its end -/
theorem backOfSI {y : MethodName} {bytes : ByteArray} {maxL : Nat} {ret : Option FieldType} {rm : Room} {len W : Nat} {as' : Array Value} {Q : Option Value → Heap → List Loc → Prop} {xs : List Addr}
    (hM : MetFree l y (head1 [Cond.code y bytes maxL ret] rm) (fun a U => a = as' ∧ Z.Warmed39 U.vm ∧ U.heap = h ∧ CHv Z EL U.vm h ∧ ∀ x ∈ xs, Safe Z EL U.vm h x) (fun _ _ _ _ _ => True) (fun _ U o U' => ∃ v L, o = .returned v ∧ Q v U'.heap L ∧ ReturnedEndW U o U' L rm.cells rm.slots))
    (hZ : Z.Warmed39 vm0) (wc : (Cond.code y bytes maxL ret).before a0 Z = true) (wz : (Cond.initialized y.cls).before a0 Z = true) (hf : rm.frames + 1 ≤ R.frames) (hl : W + (maxL + 11) + rm.locals ≤ R.locals) (hEL : EW Z a0 EL) (H : CHv Z EL vm0 h) (hxs : ∀ x ∈ xs, x < h.size ∧ Safe Z EL vm0 h x) :
    BackS l R p e below (s.setVm vm0) args y len W (fun A a => a = as' ∧ A.U.heap = h ∧ A.cells + rm.cells ≤ R.cells ∧ A.slots + rm.slots ≤ R.slots)
      (fun A _ v B => ∃ L, Q v B.U.heap L ∧ B.locs = A.locs ++ L ∧ B.cells = A.cells + rm.cells ∧ B.slots = A.slots + rm.slots) :=
  BackS.of_freeW (bytes := bytes) (maxL := maxL) (ret := ret) (E := fun _ _ o t L k n => k = rm.cells ∧ n = rm.slots ∧ ∃ v, o = .returned v ∧ Q v t.heap L) hM hf hl
    (fun m meth c A a Y hp => have hU : Z.Warmed39 A.U.vm := wtrans (s := s.setVm vm0) hZ Y.warmed
      ⟨by show (Cond.and _ .tt).before a A.U = true; rw [Cond.before_and, mv hU wc]; rfl, mv hU wc, mv hU wz, hp.2.2.1, hp.2.2.2⟩)
    (fun m meth c A a g mk Y hp => ⟨hp.1, wtrans (s := s.setVm vm0) hZ Y.warmed, hp.2.1, (CHv.at Y hZ hEL H).1, fun x hx => (CHv.at Y hZ hEL H).safe (hxs x hx).1 (hxs x hx).2⟩) (fun _ _ _ _ _ _ _ _ _ => trivial)
    (fun _ _ _ _ ⟨v, L, h1, h2, h3⟩ => ⟨L, _, _, h3, rfl, rfl, v, h1, h2⟩)
    (fun m meth c A a g mk v t L k n Y hp _ _ ⟨e1, e2, v', e3, e4⟩ => by cases e3; subst e1 e2; exact ⟨L, e4, rfl, rfl, rfl⟩)
theorem sfx0 {vm : Vm} : ∀ x ∈ ([] : List Addr), x < h.size ∧ Safe Z EL vm h x := fun _ q => nomatch q
theorem sfx1 {vm : Vm} {a : Addr} (q : a < h.size) (n : Safe Z EL vm h a) : ∀ x ∈ [a], x < h.size ∧ Safe Z EL vm h x := fun x hx => by
  rcases List.mem_singleton.mp hx with rfl; exact ⟨q, n⟩
end NewH
end Jvm.RoadKit
namespace Jvm.Pilot.@@N@@
open Jvm Jvm.ClassFile Sem Op Lib Jvm.Free Jvm.Stand Jvm.LawKit Jvm.RoadKit Bundle Jvm.Pilot.@@N@@.Jvm.D
theorem own_strA {Z : State} {a0 : Array Value} (hw : ∀ d ∈ tables_1, d.before a0 Z = true) : ∀ d ∈ Bundle.stringAtoms, d.before a0 Z = true := by
  intro d hd
  simp only [Bundle.stringAtoms, List.mem_cons, List.not_mem_nil, or_false] at hd
  rcases hd with rfl | rfl | rfl | rfl | rfl | rfl | rfl
  · exact (hw _ (List.mem_of_getElem? (i := 8) rfl))
  · exact (hw _ (List.mem_of_getElem? (i := 7) rfl))
  · exact (hw _ (List.mem_of_getElem? (i := 21) rfl))
  · exact (hw _ (List.mem_of_getElem? (i := 22) rfl))
  · exact (hw _ (List.mem_of_getElem? (i := 23) rfl))
  · exact (hw _ (List.mem_of_getElem? (i := 24) rfl))
  · exact (hw _ (List.mem_of_getElem? (i := 25) rfl))

theorem w0_ {Z : State} {a0 : Array Value} (hw : ∀ d ∈ tables_1, d.before a0 Z = true) : (Jvm.Cond.constant "com/example/sealgrant/sealgrant/AsciiPrintablePinLaw" (7 : Nat) (2147483647 : Int32)).before a0 Z = true := hw _ (List.mem_of_getElem? (i := 0) rfl)
theorem w1_ {Z : State} {a0 : Array Value} (hw : ∀ d ∈ tables_1, d.before a0 Z = true) : (Jvm.Cond.constant "com/example/sealgrant/sealgrant/AsciiPrintablePinLaw" (8 : Nat) (65535 : Int32)).before a0 Z = true := hw _ (List.mem_of_getElem? (i := 1) rfl)
theorem w2_ {Z : State} {a0 : Array Value} (hw : ∀ d ∈ tables_1, d.before a0 Z = true) : (Jvm.Cond.methodLink "com/example/sealgrant/sealgrant/AsciiPrintablePinLaw" (9 : Nat) ({ cls := "com/example/sealgrant/sealgrant/AsciiPrintablePinLaw", name := "make", desc := "(ICCCC)Ljava/lang/String;" } : Jvm.MethodName)).before a0 Z = true := hw _ (List.mem_of_getElem? (i := 2) rfl)
theorem w3_ {Z : State} {a0 : Array Value} (hw : ∀ d ∈ tables_1, d.before a0 Z = true) : (Jvm.Cond.static ({ cls := "com/example/sealgrant/sealgrant/AsciiPrintablePinLaw", name := "make", desc := "(ICCCC)Ljava/lang/String;" } : Jvm.MethodName)).before a0 Z = true := hw _ (List.mem_of_getElem? (i := 3) rfl)
theorem w4_ {Z : State} {a0 : Array Value} (hw : ∀ d ∈ tables_1, d.before a0 Z = true) : (Jvm.Cond.initialized "com/example/sealgrant/sealgrant/AsciiPrintablePinLaw").before a0 Z = true := hw _ (List.mem_of_getElem? (i := 4) rfl)
theorem w5_ {Z : State} {a0 : Array Value} (hw : ∀ d ∈ tables_1, d.before a0 Z = true) : (Jvm.Cond.code ({ cls := "com/example/sealgrant/sealgrant/AsciiPrintablePinLaw", name := "make", desc := "(ICCCC)Ljava/lang/String;" } : Jvm.MethodName) method_4_code (5 : Nat) (Option.some (Jvm.ClassFile.FieldType.object "java/lang/String"))).before a0 Z = true := hw _ (List.mem_of_getElem? (i := 5) rfl)
theorem w6_ {Z : State} {a0 : Array Value} (hw : ∀ d ∈ tables_1, d.before a0 Z = true) : (Jvm.Cond.classLink "com/example/sealgrant/sealgrant/AsciiPrintablePinLaw" (25 : Nat) "java/lang/String").before a0 Z = true := hw _ (List.mem_of_getElem? (i := 6) rfl)
theorem w7_ {Z : State} {a0 : Array Value} (hw : ∀ d ∈ tables_1, d.before a0 Z = true) : (Jvm.Cond.instantiable "java/lang/String" (4 : Nat)).before a0 Z = true := hw _ (List.mem_of_getElem? (i := 7) rfl)
theorem w8_ {Z : State} {a0 : Array Value} (hw : ∀ d ∈ tables_1, d.before a0 Z = true) : (Jvm.Cond.initialized "java/lang/String").before a0 Z = true := hw _ (List.mem_of_getElem? (i := 8) rfl)
theorem w10_ {Z : State} {a0 : Array Value} (hw : ∀ d ∈ tables_1, d.before a0 Z = true) : (Jvm.Cond.methodLink "com/example/sealgrant/sealgrant/AsciiPrintablePinLaw" (27 : Nat) ({ cls := "java/lang/String", name := "<init>", desc := "([C)V" } : Jvm.MethodName)).before a0 Z = true := hw _ (List.mem_of_getElem? (i := 10) rfl)
theorem w11_ {Z : State} {a0 : Array Value} (hw : ∀ d ∈ tables_1, d.before a0 Z = true) : (Jvm.Cond.instanceMethod ({ cls := "java/lang/String", name := "<init>", desc := "([C)V" } : Jvm.MethodName)).before a0 Z = true := hw _ (List.mem_of_getElem? (i := 11) rfl)
theorem w12_ {Z : State} {a0 : Array Value} (hw : ∀ d ∈ tables_1, d.before a0 Z = true) : (Jvm.Cond.code ({ cls := "java/lang/String", name := "<init>", desc := "([C)V" } : Jvm.MethodName) jdk_42_method_3_code (2 : Nat) (Option.none : Option Jvm.ClassFile.FieldType)).before a0 Z = true := hw _ (List.mem_of_getElem? (i := 12) rfl)
theorem w13_ {Z : State} {a0 : Array Value} (hw : ∀ d ∈ tables_1, d.before a0 Z = true) : (Jvm.Cond.methodLink "java/lang/String" (27 : Nat) ({ cls := "java/lang/String", name := "<init>", desc := "([CIILjava/lang/Void;)V" } : Jvm.MethodName)).before a0 Z = true := hw _ (List.mem_of_getElem? (i := 13) rfl)
theorem w14_ {Z : State} {a0 : Array Value} (hw : ∀ d ∈ tables_1, d.before a0 Z = true) : (Jvm.Cond.instanceMethod ({ cls := "java/lang/String", name := "<init>", desc := "([CIILjava/lang/Void;)V" } : Jvm.MethodName)).before a0 Z = true := hw _ (List.mem_of_getElem? (i := 14) rfl)
theorem w16_ {Z : State} {a0 : Array Value} (hw : ∀ d ∈ tables_1, d.before a0 Z = true) : (Jvm.Cond.code ({ cls := "java/lang/String", name := "<init>", desc := "([CIILjava/lang/Void;)V" } : Jvm.MethodName) jdk_42_method_149_code (6 : Nat) (Option.none : Option Jvm.ClassFile.FieldType)).before a0 Z = true := hw _ (List.mem_of_getElem? (i := 16) rfl)
theorem w17_ {Z : State} {a0 : Array Value} (hw : ∀ d ∈ tables_1, d.before a0 Z = true) : (Jvm.Cond.methodLink "java/lang/String" (1 : Nat) ({ cls := "java/lang/Object", name := "<init>", desc := "()V" } : Jvm.MethodName)).before a0 Z = true := hw _ (List.mem_of_getElem? (i := 17) rfl)
theorem w18_ {Z : State} {a0 : Array Value} (hw : ∀ d ∈ tables_1, d.before a0 Z = true) : (Jvm.Cond.instanceMethod ({ cls := "java/lang/Object", name := "<init>", desc := "()V" } : Jvm.MethodName)).before a0 Z = true := hw _ (List.mem_of_getElem? (i := 18) rfl)
theorem w19_ {Z : State} {a0 : Array Value} (hw : ∀ d ∈ tables_1, d.before a0 Z = true) : (Jvm.Cond.code ({ cls := "java/lang/Object", name := "<init>", desc := "()V" } : Jvm.MethodName) object_method_1_code (1 : Nat) (Option.none : Option Jvm.ClassFile.FieldType)).before a0 Z = true := hw _ (List.mem_of_getElem? (i := 19) rfl)
theorem w20_ {Z : State} {a0 : Array Value} (hw : ∀ d ∈ tables_1, d.before a0 Z = true) : (Jvm.Cond.stringLink "java/lang/String" (7 : Nat) "").before a0 Z = true := hw _ (List.mem_of_getElem? (i := 20) rfl)
theorem w21_ {Z : State} {a0 : Array Value} (hw : ∀ d ∈ tables_1, d.before a0 Z = true) : (Jvm.Cond.arrayClass Jvm.ClassFile.FieldType.byte).before a0 Z = true := hw _ (List.mem_of_getElem? (i := 21) rfl)
theorem w22_ {Z : State} {a0 : Array Value} (hw : ∀ d ∈ tables_1, d.before a0 Z = true) : (Jvm.Cond.laysFinal "java/lang/String" "java/lang/String" "value" "[B").before a0 Z = true := hw _ (List.mem_of_getElem? (i := 22) rfl)
theorem w23_ {Z : State} {a0 : Array Value} (hw : ∀ d ∈ tables_1, d.before a0 Z = true) : (Jvm.Cond.laysFinal "java/lang/String" "java/lang/String" "coder" "B").before a0 Z = true := hw _ (List.mem_of_getElem? (i := 23) rfl)
theorem w26_ {Z : State} {a0 : Array Value} (hw : ∀ d ∈ tables_1, d.before a0 Z = true) : (Jvm.Cond.fieldLink "java/lang/String" (9 : Nat) "java/lang/String" "value" "[B").before a0 Z = true := hw _ (List.mem_of_getElem? (i := 26) rfl)
theorem w27_ {Z : State} {a0 : Array Value} (hw : ∀ d ∈ tables_1, d.before a0 Z = true) : (Jvm.Cond.fieldLink "java/lang/String" (15 : Nat) "java/lang/String" "coder" "B").before a0 Z = true := hw _ (List.mem_of_getElem? (i := 27) rfl)
theorem w28_ {Z : State} {a0 : Array Value} (hw : ∀ d ∈ tables_1, d.before a0 Z = true) : (Jvm.Cond.methodLink "com/example/sealgrant/sealgrant/AsciiPrintablePinLaw" (19 : Nat) ({ cls := "com/example/sealgrant/sealgrant/Ascii", name := "printable", desc := "(Ljava/lang/String;)Z" } : Jvm.MethodName)).before a0 Z = true := hw _ (List.mem_of_getElem? (i := 28) rfl)
theorem w29_ {Z : State} {a0 : Array Value} (hw : ∀ d ∈ tables_1, d.before a0 Z = true) : (Jvm.Cond.static ({ cls := "com/example/sealgrant/sealgrant/Ascii", name := "printable", desc := "(Ljava/lang/String;)Z" } : Jvm.MethodName)).before a0 Z = true := hw _ (List.mem_of_getElem? (i := 29) rfl)
theorem w30_ {Z : State} {a0 : Array Value} (hw : ∀ d ∈ tables_1, d.before a0 Z = true) : (Jvm.Cond.initialized "com/example/sealgrant/sealgrant/Ascii").before a0 Z = true := hw _ (List.mem_of_getElem? (i := 30) rfl)
theorem w31_ {Z : State} {a0 : Array Value} (hw : ∀ d ∈ tables_1, d.before a0 Z = true) : (Jvm.Cond.code ({ cls := "com/example/sealgrant/sealgrant/Ascii", name := "printable", desc := "(Ljava/lang/String;)Z" } : Jvm.MethodName) prog_1_method_4_code (2 : Nat) (Option.some Jvm.ClassFile.FieldType.boolean)).before a0 Z = true := hw _ (List.mem_of_getElem? (i := 31) rfl)
theorem w32_ {Z : State} {a0 : Array Value} (hw : ∀ d ∈ tables_1, d.before a0 Z = true) : (Jvm.Cond.methodLink "com/example/sealgrant/sealgrant/Ascii" (13 : Nat) ({ cls := "java/lang/String", name := "length", desc := "()I" } : Jvm.MethodName)).before a0 Z = true := hw _ (List.mem_of_getElem? (i := 32) rfl)
theorem w33_ {Z : State} {a0 : Array Value} (hw : ∀ d ∈ tables_1, d.before a0 Z = true) : (Jvm.Cond.declares ({ cls := "java/lang/String", name := "length", desc := "()I" } : Jvm.MethodName)).before a0 Z = true := hw _ (List.mem_of_getElem? (i := 33) rfl)
theorem w34_ {Z : State} {a0 : Array Value} (hw : ∀ d ∈ tables_1, d.before a0 Z = true) : (Jvm.Cond.instanceMethod ({ cls := "java/lang/String", name := "length", desc := "()I" } : Jvm.MethodName)).before a0 Z = true := hw _ (List.mem_of_getElem? (i := 34) rfl)
theorem w35_ {Z : State} {a0 : Array Value} (hw : ∀ d ∈ tables_1, d.before a0 Z = true) : (Jvm.Cond.selects "java/lang/String" ({ cls := "java/lang/String", name := "length", desc := "()I" } : Jvm.MethodName) ({ cls := "java/lang/String", name := "length", desc := "()I" } : Jvm.MethodName)).before a0 Z = true := hw _ (List.mem_of_getElem? (i := 35) rfl)
theorem w36_ {Z : State} {a0 : Array Value} (hw : ∀ d ∈ tables_1, d.before a0 Z = true) : (Jvm.Cond.code ({ cls := "java/lang/String", name := "length", desc := "()I" } : Jvm.MethodName) jdk_42_method_54_code (1 : Nat) (Option.some Jvm.ClassFile.FieldType.int)).before a0 Z = true := hw _ (List.mem_of_getElem? (i := 36) rfl)
theorem w37_ {Z : State} {a0 : Array Value} (hw : ∀ d ∈ tables_1, d.before a0 Z = true) : (Jvm.Cond.methodLink "java/lang/String" (335 : Nat) ({ cls := "java/lang/String", name := "coder", desc := "()B" } : Jvm.MethodName)).before a0 Z = true := hw _ (List.mem_of_getElem? (i := 37) rfl)
theorem w38_ {Z : State} {a0 : Array Value} (hw : ∀ d ∈ tables_1, d.before a0 Z = true) : (Jvm.Cond.declares ({ cls := "java/lang/String", name := "coder", desc := "()B" } : Jvm.MethodName)).before a0 Z = true := hw _ (List.mem_of_getElem? (i := 38) rfl)
theorem w39_ {Z : State} {a0 : Array Value} (hw : ∀ d ∈ tables_1, d.before a0 Z = true) : (Jvm.Cond.instanceMethod ({ cls := "java/lang/String", name := "coder", desc := "()B" } : Jvm.MethodName)).before a0 Z = true := hw _ (List.mem_of_getElem? (i := 39) rfl)
theorem w40_ {Z : State} {a0 : Array Value} (hw : ∀ d ∈ tables_1, d.before a0 Z = true) : (Jvm.Cond.selects "java/lang/String" ({ cls := "java/lang/String", name := "coder", desc := "()B" } : Jvm.MethodName) ({ cls := "java/lang/String", name := "coder", desc := "()B" } : Jvm.MethodName)).before a0 Z = true := hw _ (List.mem_of_getElem? (i := 40) rfl)
theorem w41_ {Z : State} {a0 : Array Value} (hw : ∀ d ∈ tables_1, d.before a0 Z = true) : (Jvm.Cond.code ({ cls := "java/lang/String", name := "coder", desc := "()B" } : Jvm.MethodName) jdk_42_method_152_code (1 : Nat) (Option.some Jvm.ClassFile.FieldType.byte)).before a0 Z = true := hw _ (List.mem_of_getElem? (i := 41) rfl)
theorem w42_ {Z : State} {a0 : Array Value} (hw : ∀ d ∈ tables_1, d.before a0 Z = true) : (Jvm.Cond.fieldLink "java/lang/String" (38 : Nat) "java/lang/String" "COMPACT_STRINGS" "Z").before a0 Z = true := hw _ (List.mem_of_getElem? (i := 42) rfl)
theorem w43_ {Z : State} {a0 : Array Value} (hw : ∀ d ∈ tables_1, d.before a0 Z = true) : (Jvm.Cond.methodLink "java/lang/String" (177 : Nat) ({ cls := "java/lang/StringUTF16", name := "compress", desc := "([CII)[B" } : Jvm.MethodName)).before a0 Z = true := hw _ (List.mem_of_getElem? (i := 43) rfl)
theorem w44_ {Z : State} {a0 : Array Value} (hw : ∀ d ∈ tables_1, d.before a0 Z = true) : (Jvm.Cond.static ({ cls := "java/lang/StringUTF16", name := "compress", desc := "([CII)[B" } : Jvm.MethodName)).before a0 Z = true := hw _ (List.mem_of_getElem? (i := 44) rfl)
theorem w45_ {Z : State} {a0 : Array Value} (hw : ∀ d ∈ tables_1, d.before a0 Z = true) : (Jvm.Cond.initialized "java/lang/StringUTF16").before a0 Z = true := hw _ (List.mem_of_getElem? (i := 45) rfl)
theorem w46_ {Z : State} {a0 : Array Value} (hw : ∀ d ∈ tables_1, d.before a0 Z = true) : (Jvm.Cond.code ({ cls := "java/lang/StringUTF16", name := "compress", desc := "([CII)[B" } : Jvm.MethodName) jdk_52_method_16_code (6 : Nat) (Option.some (Jvm.ClassFile.FieldType.array Jvm.ClassFile.FieldType.byte))).before a0 Z = true := hw _ (List.mem_of_getElem? (i := 46) rfl)
theorem w47_ {Z : State} {a0 : Array Value} (hw : ∀ d ∈ tables_1, d.before a0 Z = true) : (Jvm.Cond.methodLink "java/lang/StringUTF16" (115 : Nat) ({ cls := "java/lang/StringUTF16", name := "compress", desc := "([CI[BII)I" } : Jvm.MethodName)).before a0 Z = true := hw _ (List.mem_of_getElem? (i := 47) rfl)
theorem w48_ {Z : State} {a0 : Array Value} (hw : ∀ d ∈ tables_1, d.before a0 Z = true) : (Jvm.Cond.static ({ cls := "java/lang/StringUTF16", name := "compress", desc := "([CI[BII)I" } : Jvm.MethodName)).before a0 Z = true := hw _ (List.mem_of_getElem? (i := 48) rfl)
theorem w49_ {Z : State} {a0 : Array Value} (hw : ∀ d ∈ tables_1, d.before a0 Z = true) : (Jvm.Cond.code ({ cls := "java/lang/StringUTF16", name := "compress", desc := "([CI[BII)I" } : Jvm.MethodName) jdk_52_method_21_code (7 : Nat) (Option.some Jvm.ClassFile.FieldType.int)).before a0 Z = true := hw _ (List.mem_of_getElem? (i := 49) rfl)
theorem w50_ {Z : State} {a0 : Array Value} (hw : ∀ d ∈ tables_1, d.before a0 Z = true) : (Jvm.Cond.methodLink "java/lang/String" (47 : Nat) ({ cls := "java/lang/StringUTF16", name := "coderFromArrayLen", desc := "([BI)B" } : Jvm.MethodName)).before a0 Z = true := hw _ (List.mem_of_getElem? (i := 50) rfl)
theorem w51_ {Z : State} {a0 : Array Value} (hw : ∀ d ∈ tables_1, d.before a0 Z = true) : (Jvm.Cond.static ({ cls := "java/lang/StringUTF16", name := "coderFromArrayLen", desc := "([BI)B" } : Jvm.MethodName)).before a0 Z = true := hw _ (List.mem_of_getElem? (i := 51) rfl)
theorem w52_ {Z : State} {a0 : Array Value} (hw : ∀ d ∈ tables_1, d.before a0 Z = true) : (Jvm.Cond.code ({ cls := "java/lang/StringUTF16", name := "coderFromArrayLen", desc := "([BI)B" } : Jvm.MethodName) jdk_52_method_15_code (2 : Nat) (Option.some Jvm.ClassFile.FieldType.byte)).before a0 Z = true := hw _ (List.mem_of_getElem? (i := 52) rfl)
theorem w53_ {Z : State} {a0 : Array Value} (hw : ∀ d ∈ tables_1, d.before a0 Z = true) : (Jvm.Cond.methodLink "com/example/sealgrant/sealgrant/AsciiPrintablePinLaw" (15 : Nat) ({ cls := "com/example/sealgrant/sealgrant/AsciiPrintablePinLaw", name := "ok", desc := "(C)Z" } : Jvm.MethodName)).before a0 Z = true := hw _ (List.mem_of_getElem? (i := 53) rfl)
theorem w54_ {Z : State} {a0 : Array Value} (hw : ∀ d ∈ tables_1, d.before a0 Z = true) : (Jvm.Cond.static ({ cls := "com/example/sealgrant/sealgrant/AsciiPrintablePinLaw", name := "ok", desc := "(C)Z" } : Jvm.MethodName)).before a0 Z = true := hw _ (List.mem_of_getElem? (i := 54) rfl)
theorem w55_ {Z : State} {a0 : Array Value} (hw : ∀ d ∈ tables_1, d.before a0 Z = true) : (Jvm.Cond.code ({ cls := "com/example/sealgrant/sealgrant/AsciiPrintablePinLaw", name := "ok", desc := "(C)Z" } : Jvm.MethodName) method_3_code (2 : Nat) (Option.some Jvm.ClassFile.FieldType.boolean)).before a0 Z = true := hw _ (List.mem_of_getElem? (i := 55) rfl)
theorem w56_ {Z : State} {a0 : Array Value} (hw : ∀ d ∈ tables_1, d.before a0 Z = true) : (Jvm.Cond.methodLink "com/example/sealgrant/sealgrant/Ascii" (17 : Nat) ({ cls := "java/lang/String", name := "charAt", desc := "(I)C" } : Jvm.MethodName)).before a0 Z = true := hw _ (List.mem_of_getElem? (i := 56) rfl)
theorem w57_ {Z : State} {a0 : Array Value} (hw : ∀ d ∈ tables_1, d.before a0 Z = true) : (Jvm.Cond.declares ({ cls := "java/lang/String", name := "charAt", desc := "(I)C" } : Jvm.MethodName)).before a0 Z = true := hw _ (List.mem_of_getElem? (i := 57) rfl)
theorem w58_ {Z : State} {a0 : Array Value} (hw : ∀ d ∈ tables_1, d.before a0 Z = true) : (Jvm.Cond.instanceMethod ({ cls := "java/lang/String", name := "charAt", desc := "(I)C" } : Jvm.MethodName)).before a0 Z = true := hw _ (List.mem_of_getElem? (i := 58) rfl)
theorem w59_ {Z : State} {a0 : Array Value} (hw : ∀ d ∈ tables_1, d.before a0 Z = true) : (Jvm.Cond.selects "java/lang/String" ({ cls := "java/lang/String", name := "charAt", desc := "(I)C" } : Jvm.MethodName) ({ cls := "java/lang/String", name := "charAt", desc := "(I)C" } : Jvm.MethodName)).before a0 Z = true := hw _ (List.mem_of_getElem? (i := 59) rfl)
theorem w60_ {Z : State} {a0 : Array Value} (hw : ∀ d ∈ tables_1, d.before a0 Z = true) : (Jvm.Cond.code ({ cls := "java/lang/String", name := "charAt", desc := "(I)C" } : Jvm.MethodName) jdk_42_method_56_code (2 : Nat) (Option.some Jvm.ClassFile.FieldType.char)).before a0 Z = true := hw _ (List.mem_of_getElem? (i := 60) rfl)
theorem w61_ {Z : State} {a0 : Array Value} (hw : ∀ d ∈ tables_1, d.before a0 Z = true) : (Jvm.Cond.methodLink "java/lang/String" (492 : Nat) ({ cls := "java/lang/String", name := "isLatin1", desc := "()Z" } : Jvm.MethodName)).before a0 Z = true := hw _ (List.mem_of_getElem? (i := 61) rfl)
theorem w62_ {Z : State} {a0 : Array Value} (hw : ∀ d ∈ tables_1, d.before a0 Z = true) : (Jvm.Cond.declares ({ cls := "java/lang/String", name := "isLatin1", desc := "()Z" } : Jvm.MethodName)).before a0 Z = true := hw _ (List.mem_of_getElem? (i := 62) rfl)
theorem w63_ {Z : State} {a0 : Array Value} (hw : ∀ d ∈ tables_1, d.before a0 Z = true) : (Jvm.Cond.instanceMethod ({ cls := "java/lang/String", name := "isLatin1", desc := "()Z" } : Jvm.MethodName)).before a0 Z = true := hw _ (List.mem_of_getElem? (i := 63) rfl)
theorem w64_ {Z : State} {a0 : Array Value} (hw : ∀ d ∈ tables_1, d.before a0 Z = true) : (Jvm.Cond.selects "java/lang/String" ({ cls := "java/lang/String", name := "isLatin1", desc := "()Z" } : Jvm.MethodName) ({ cls := "java/lang/String", name := "isLatin1", desc := "()Z" } : Jvm.MethodName)).before a0 Z = true := hw _ (List.mem_of_getElem? (i := 64) rfl)
theorem w65_ {Z : State} {a0 : Array Value} (hw : ∀ d ∈ tables_1, d.before a0 Z = true) : (Jvm.Cond.code ({ cls := "java/lang/String", name := "isLatin1", desc := "()Z" } : Jvm.MethodName) jdk_42_method_154_code (1 : Nat) (Option.some Jvm.ClassFile.FieldType.boolean)).before a0 Z = true := hw _ (List.mem_of_getElem? (i := 65) rfl)
theorem w66_ {Z : State} {a0 : Array Value} (hw : ∀ d ∈ tables_1, d.before a0 Z = true) : (Jvm.Cond.methodLink "java/lang/String" (495 : Nat) ({ cls := "java/lang/StringLatin1", name := "charAt", desc := "([BI)C" } : Jvm.MethodName)).before a0 Z = true := hw _ (List.mem_of_getElem? (i := 66) rfl)
theorem w67_ {Z : State} {a0 : Array Value} (hw : ∀ d ∈ tables_1, d.before a0 Z = true) : (Jvm.Cond.static ({ cls := "java/lang/StringLatin1", name := "charAt", desc := "([BI)C" } : Jvm.MethodName)).before a0 Z = true := hw _ (List.mem_of_getElem? (i := 67) rfl)
theorem w68_ {Z : State} {a0 : Array Value} (hw : ∀ d ∈ tables_1, d.before a0 Z = true) : (Jvm.Cond.initialized "java/lang/StringLatin1").before a0 Z = true := hw _ (List.mem_of_getElem? (i := 68) rfl)
theorem w69_ {Z : State} {a0 : Array Value} (hw : ∀ d ∈ tables_1, d.before a0 Z = true) : (Jvm.Cond.code ({ cls := "java/lang/StringLatin1", name := "charAt", desc := "([BI)C" } : Jvm.MethodName) jdk_43_method_2_code (2 : Nat) (Option.some Jvm.ClassFile.FieldType.char)).before a0 Z = true := hw _ (List.mem_of_getElem? (i := 69) rfl)
theorem w70_ {Z : State} {a0 : Array Value} (hw : ∀ d ∈ tables_1, d.before a0 Z = true) : (Jvm.Cond.methodLink "java/lang/StringLatin1" (9 : Nat) ({ cls := "java/lang/String", name := "checkIndex", desc := "(II)V" } : Jvm.MethodName)).before a0 Z = true := hw _ (List.mem_of_getElem? (i := 70) rfl)
theorem w71_ {Z : State} {a0 : Array Value} (hw : ∀ d ∈ tables_1, d.before a0 Z = true) : (Jvm.Cond.static ({ cls := "java/lang/String", name := "checkIndex", desc := "(II)V" } : Jvm.MethodName)).before a0 Z = true := hw _ (List.mem_of_getElem? (i := 71) rfl)
theorem w72_ {Z : State} {a0 : Array Value} (hw : ∀ d ∈ tables_1, d.before a0 Z = true) : (Jvm.Cond.code ({ cls := "java/lang/String", name := "checkIndex", desc := "(II)V" } : Jvm.MethodName) jdk_42_method_155_code (2 : Nat) (Option.none : Option Jvm.ClassFile.FieldType)).before a0 Z = true := hw _ (List.mem_of_getElem? (i := 72) rfl)
theorem w73_ {Z : State} {a0 : Array Value} (hw : ∀ d ∈ tables_1, d.before a0 Z = true) : (Jvm.Cond.fieldLink "java/lang/String" (1053 : Nat) "jdk/internal/util/Preconditions" "SIOOBE_FORMATTER" "Ljava/util/function/BiFunction;").before a0 Z = true := hw _ (List.mem_of_getElem? (i := 73) rfl)
theorem w74_ {Z : State} {a0 : Array Value} (hw : ∀ d ∈ tables_1, d.before a0 Z = true) : (Jvm.Cond.initialized "jdk/internal/util/Preconditions").before a0 Z = true := hw _ (List.mem_of_getElem? (i := 74) rfl)
theorem w75_ {Z : State} {a0 : Array Value} (hw : ∀ d ∈ tables_1, d.before a0 Z = true) : (Jvm.Cond.methodLink "java/lang/String" (1059 : Nat) ({ cls := "jdk/internal/util/Preconditions", name := "checkIndex", desc := "(IILjava/util/function/BiFunction;)I" } : Jvm.MethodName)).before a0 Z = true := hw _ (List.mem_of_getElem? (i := 75) rfl)
theorem w76_ {Z : State} {a0 : Array Value} (hw : ∀ d ∈ tables_1, d.before a0 Z = true) : (Jvm.Cond.static ({ cls := "jdk/internal/util/Preconditions", name := "checkIndex", desc := "(IILjava/util/function/BiFunction;)I" } : Jvm.MethodName)).before a0 Z = true := hw _ (List.mem_of_getElem? (i := 76) rfl)
theorem w77_ {Z : State} {a0 : Array Value} (hw : ∀ d ∈ tables_1, d.before a0 Z = true) : (Jvm.Cond.code ({ cls := "jdk/internal/util/Preconditions", name := "checkIndex", desc := "(IILjava/util/function/BiFunction;)I" } : Jvm.MethodName) jdk_41_method_11_code (3 : Nat) (Option.some Jvm.ClassFile.FieldType.int)).before a0 Z = true := hw _ (List.mem_of_getElem? (i := 77) rfl)
theorem w78_ {Z : State} {a0 : Array Value} (hw : ∀ d ∈ tables_1, d.before a0 Z = true) : (Jvm.Cond.methodLink "java/lang/StringUTF16" (119 : Nat) ({ cls := "java/lang/StringUTF16", name := "toBytes", desc := "([CII)[B" } : Jvm.MethodName)).before a0 Z = true := hw _ (List.mem_of_getElem? (i := 78) rfl)
theorem w79_ {Z : State} {a0 : Array Value} (hw : ∀ d ∈ tables_1, d.before a0 Z = true) : (Jvm.Cond.static ({ cls := "java/lang/StringUTF16", name := "toBytes", desc := "([CII)[B" } : Jvm.MethodName)).before a0 Z = true := hw _ (List.mem_of_getElem? (i := 79) rfl)
theorem w80_ {Z : State} {a0 : Array Value} (hw : ∀ d ∈ tables_1, d.before a0 Z = true) : (Jvm.Cond.code ({ cls := "java/lang/StringUTF16", name := "toBytes", desc := "([CII)[B" } : Jvm.MethodName) jdk_52_method_14_code (5 : Nat) (Option.some (Jvm.ClassFile.FieldType.array Jvm.ClassFile.FieldType.byte))).before a0 Z = true := hw _ (List.mem_of_getElem? (i := 80) rfl)
theorem w81_ {Z : State} {a0 : Array Value} (hw : ∀ d ∈ tables_1, d.before a0 Z = true) : (Jvm.Cond.methodLink "java/lang/StringUTF16" (107 : Nat) ({ cls := "java/lang/StringUTF16", name := "newBytesFor", desc := "(I)[B" } : Jvm.MethodName)).before a0 Z = true := hw _ (List.mem_of_getElem? (i := 81) rfl)
theorem w82_ {Z : State} {a0 : Array Value} (hw : ∀ d ∈ tables_1, d.before a0 Z = true) : (Jvm.Cond.static ({ cls := "java/lang/StringUTF16", name := "newBytesFor", desc := "(I)[B" } : Jvm.MethodName)).before a0 Z = true := hw _ (List.mem_of_getElem? (i := 82) rfl)
theorem w83_ {Z : State} {a0 : Array Value} (hw : ∀ d ∈ tables_1, d.before a0 Z = true) : (Jvm.Cond.code ({ cls := "java/lang/StringUTF16", name := "newBytesFor", desc := "(I)[B" } : Jvm.MethodName) jdk_52_method_2_code (1 : Nat) (Option.some (Jvm.ClassFile.FieldType.array Jvm.ClassFile.FieldType.byte))).before a0 Z = true := hw _ (List.mem_of_getElem? (i := 83) rfl)
theorem w84_ {Z : State} {a0 : Array Value} (hw : ∀ d ∈ tables_1, d.before a0 Z = true) : (Jvm.Cond.methodLink "java/lang/StringUTF16" (11 : Nat) ({ cls := "java/lang/StringUTF16", name := "newBytesLength", desc := "(I)I" } : Jvm.MethodName)).before a0 Z = true := hw _ (List.mem_of_getElem? (i := 84) rfl)
theorem w85_ {Z : State} {a0 : Array Value} (hw : ∀ d ∈ tables_1, d.before a0 Z = true) : (Jvm.Cond.static ({ cls := "java/lang/StringUTF16", name := "newBytesLength", desc := "(I)I" } : Jvm.MethodName)).before a0 Z = true := hw _ (List.mem_of_getElem? (i := 85) rfl)
theorem w86_ {Z : State} {a0 : Array Value} (hw : ∀ d ∈ tables_1, d.before a0 Z = true) : (Jvm.Cond.code ({ cls := "java/lang/StringUTF16", name := "newBytesLength", desc := "(I)I" } : Jvm.MethodName) jdk_52_method_3_code (1 : Nat) (Option.some Jvm.ClassFile.FieldType.int)).before a0 Z = true := hw _ (List.mem_of_getElem? (i := 86) rfl)
theorem w87_ {Z : State} {a0 : Array Value} (hw : ∀ d ∈ tables_1, d.before a0 Z = true) : (Jvm.Cond.constant "java/lang/StringUTF16" (20 : Nat) (1073741823 : Int32)).before a0 Z = true := hw _ (List.mem_of_getElem? (i := 87) rfl)
theorem w88_ {Z : State} {a0 : Array Value} (hw : ∀ d ∈ tables_1, d.before a0 Z = true) : (Jvm.Cond.methodLink "java/lang/StringUTF16" (111 : Nat) ({ cls := "java/lang/StringUTF16", name := "putChar", desc := "([BII)V" } : Jvm.MethodName)).before a0 Z = true := hw _ (List.mem_of_getElem? (i := 88) rfl)
theorem w89_ {Z : State} {a0 : Array Value} (hw : ∀ d ∈ tables_1, d.before a0 Z = true) : (Jvm.Cond.static ({ cls := "java/lang/StringUTF16", name := "putChar", desc := "([BII)V" } : Jvm.MethodName)).before a0 Z = true := hw _ (List.mem_of_getElem? (i := 89) rfl)
theorem w90_ {Z : State} {a0 : Array Value} (hw : ∀ d ∈ tables_1, d.before a0 Z = true) : (Jvm.Cond.code ({ cls := "java/lang/StringUTF16", name := "putChar", desc := "([BII)V" } : Jvm.MethodName) jdk_52_method_4_code (3 : Nat) (Option.none : Option Jvm.ClassFile.FieldType)).before a0 Z = true := hw _ (List.mem_of_getElem? (i := 90) rfl)
theorem w91_ {Z : State} {a0 : Array Value} (hw : ∀ d ∈ tables_1, d.before a0 Z = true) : (Jvm.Cond.fieldLink "java/lang/StringUTF16" (44 : Nat) "java/lang/StringUTF16" "$assertionsDisabled" "Z").before a0 Z = true := hw _ (List.mem_of_getElem? (i := 91) rfl)
theorem w92_ {Z : State} {a0 : Array Value} (hw : ∀ d ∈ tables_1, d.before a0 Z = true) : (Jvm.Cond.fieldLink "java/lang/StringUTF16" (59 : Nat) "java/lang/StringUTF16" "HI_BYTE_SHIFT" "I").before a0 Z = true := hw _ (List.mem_of_getElem? (i := 92) rfl)
theorem w93_ {Z : State} {a0 : Array Value} (hw : ∀ d ∈ tables_1, d.before a0 Z = true) : (Jvm.Cond.fieldLink "java/lang/StringUTF16" (63 : Nat) "java/lang/StringUTF16" "LO_BYTE_SHIFT" "I").before a0 Z = true := hw _ (List.mem_of_getElem? (i := 93) rfl)
theorem w94_ {Z : State} {a0 : Array Value} (hw : ∀ d ∈ tables_1, d.before a0 Z = true) : (Jvm.Cond.methodLink "java/lang/StringUTF16" (71 : Nat) ({ cls := "java/lang/StringUTF16", name := "getChar", desc := "([BI)C" } : Jvm.MethodName)).before a0 Z = true := hw _ (List.mem_of_getElem? (i := 94) rfl)
theorem w95_ {Z : State} {a0 : Array Value} (hw : ∀ d ∈ tables_1, d.before a0 Z = true) : (Jvm.Cond.static ({ cls := "java/lang/StringUTF16", name := "getChar", desc := "([BI)C" } : Jvm.MethodName)).before a0 Z = true := hw _ (List.mem_of_getElem? (i := 95) rfl)
theorem w96_ {Z : State} {a0 : Array Value} (hw : ∀ d ∈ tables_1, d.before a0 Z = true) : (Jvm.Cond.code ({ cls := "java/lang/StringUTF16", name := "getChar", desc := "([BI)C" } : Jvm.MethodName) jdk_52_method_5_code (2 : Nat) (Option.some Jvm.ClassFile.FieldType.char)).before a0 Z = true := hw _ (List.mem_of_getElem? (i := 96) rfl)
theorem w97_ {Z : State} {a0 : Array Value} (hw : ∀ d ∈ tables_1, d.before a0 Z = true) : (Jvm.Cond.methodLink "java/lang/String" (498 : Nat) ({ cls := "java/lang/StringUTF16", name := "charAt", desc := "([BI)C" } : Jvm.MethodName)).before a0 Z = true := hw _ (List.mem_of_getElem? (i := 97) rfl)
theorem w98_ {Z : State} {a0 : Array Value} (hw : ∀ d ∈ tables_1, d.before a0 Z = true) : (Jvm.Cond.static ({ cls := "java/lang/StringUTF16", name := "charAt", desc := "([BI)C" } : Jvm.MethodName)).before a0 Z = true := hw _ (List.mem_of_getElem? (i := 98) rfl)
theorem w99_ {Z : State} {a0 : Array Value} (hw : ∀ d ∈ tables_1, d.before a0 Z = true) : (Jvm.Cond.code ({ cls := "java/lang/StringUTF16", name := "charAt", desc := "([BI)C" } : Jvm.MethodName) jdk_52_method_83_code (2 : Nat) (Option.some Jvm.ClassFile.FieldType.char)).before a0 Z = true := hw _ (List.mem_of_getElem? (i := 99) rfl)
theorem w100_ {Z : State} {a0 : Array Value} (hw : ∀ d ∈ tables_1, d.before a0 Z = true) : (Jvm.Cond.methodLink "java/lang/StringUTF16" (67 : Nat) ({ cls := "java/lang/StringUTF16", name := "checkIndex", desc := "(I[B)V" } : Jvm.MethodName)).before a0 Z = true := hw _ (List.mem_of_getElem? (i := 100) rfl)
theorem w101_ {Z : State} {a0 : Array Value} (hw : ∀ d ∈ tables_1, d.before a0 Z = true) : (Jvm.Cond.static ({ cls := "java/lang/StringUTF16", name := "checkIndex", desc := "(I[B)V" } : Jvm.MethodName)).before a0 Z = true := hw _ (List.mem_of_getElem? (i := 101) rfl)
theorem w102_ {Z : State} {a0 : Array Value} (hw : ∀ d ∈ tables_1, d.before a0 Z = true) : (Jvm.Cond.code ({ cls := "java/lang/StringUTF16", name := "checkIndex", desc := "(I[B)V" } : Jvm.MethodName) jdk_52_method_91_code (2 : Nat) (Option.none : Option Jvm.ClassFile.FieldType)).before a0 Z = true := hw _ (List.mem_of_getElem? (i := 102) rfl)
theorem w103_ {Z : State} {a0 : Array Value} (hw : ∀ d ∈ tables_1, d.before a0 Z = true) : (Jvm.Cond.methodLink "java/lang/StringUTF16" (48 : Nat) ({ cls := "java/lang/StringUTF16", name := "length", desc := "([B)I" } : Jvm.MethodName)).before a0 Z = true := hw _ (List.mem_of_getElem? (i := 103) rfl)
theorem w104_ {Z : State} {a0 : Array Value} (hw : ∀ d ∈ tables_1, d.before a0 Z = true) : (Jvm.Cond.static ({ cls := "java/lang/StringUTF16", name := "length", desc := "([B)I" } : Jvm.MethodName)).before a0 Z = true := hw _ (List.mem_of_getElem? (i := 104) rfl)
theorem w105_ {Z : State} {a0 : Array Value} (hw : ∀ d ∈ tables_1, d.before a0 Z = true) : (Jvm.Cond.code ({ cls := "java/lang/StringUTF16", name := "length", desc := "([B)I" } : Jvm.MethodName) jdk_52_method_6_code (1 : Nat) (Option.some Jvm.ClassFile.FieldType.int)).before a0 Z = true := hw _ (List.mem_of_getElem? (i := 105) rfl)
theorem w106_ {Z : State} {a0 : Array Value} (hw : ∀ d ∈ tables_1, d.before a0 Z = true) : (Jvm.Cond.methodLink "java/lang/StringUTF16" (414 : Nat) ({ cls := "java/lang/String", name := "checkIndex", desc := "(II)V" } : Jvm.MethodName)).before a0 Z = true := hw _ (List.mem_of_getElem? (i := 106) rfl)
abbrev vI (x : Int32) : Slot := .val (.int x)
abbrev vR (x : Addr) : Slot := .val (.ref x)
def own_EL : List (String × Nat) := [("java/lang/String", 7)]
theorem own_EW {Z : State} {a0 : Array Value} (hw : ∀ d ∈ tables_1, d.before a0 Z = true) : EW Z a0 own_EL := (EW.cons (hw _ (List.mem_of_getElem? (i := 20) rfl)) (by decide) EW.nil)
theorem own_eqi {args : Array Value} {s : State} {t : Term} {k : Int32} (h : (Cond.eq t (.int k)).value args s none s [] = some true) : t.eval args s none [] s = some (.int k) := by
  obtain ⟨x, y, h1, h2, h3, -⟩ := cmp_v (Or.inl h)
  cases (Term.int_eval k).symm.trans h2
  cases x <;> simp [Cond.value, h1, Term.int_eval] at h ⊢
  exact h
theorem own_ne0 {args : Array Value} {s : State} {t : Term} {k : Int32} (h : (Cond.not (.eq t (.int 0))).value args s none s [] = some true) (ev : t.eval args s none [] s = some (.int k)) : ¬ k = (0 : Int32) := by
  have q := not_v h
  intro e; subst e
  simp [Cond.value, ev, Term.int_eval] at q
def own_ch (c : Int32) : Prop := 0 ≤ c.toInt ∧ c.toInt < 65536
theorem own_i2c (x : Int32) : own_ch (x.toUInt32.toUInt16.toUInt32.toInt32) := (c_i2c x).2
theorem own_narC {c : Int32} (h : own_ch c) : nar .char c = c := by
  have q := c_i2c c
  obtain ⟨h1, h2⟩ := h
  rw [← Int32.toInt_inj]; show (c.toUInt32.toUInt16.toUInt32.toInt32).toInt = _; omega
theorem own_chn (x : Int32) : own_ch (nar .char x) := (c_i2c x).2
def own_latE (y : Int32) : Int32 := nar .char ((y &&& (255 : Int32)).toUInt32.toUInt16.toUInt32.toInt32)
def own_u16E (y z : Int32) : Int32 := nar .char ((((y &&& (255 : Int32)) <<< ((0 : Int32) &&& 31)) ||| ((z &&& (255 : Int32)) <<< ((8 : Int32) &&& 31))).toUInt32.toUInt16.toUInt32.toInt32)
def own_hi (ch : Int32) : Int32 := nar .byte (((ch >>> ((0 : Int32) &&& 31))).toInt8.toInt32)
def own_lo (ch : Int32) : Int32 := nar .byte (((ch >>> ((8 : Int32) &&& 31))).toInt8.toInt32)
def own_lb (ch : Int32) : Int32 := nar .byte (ch.toInt8.toInt32)
theorem own_lat {ch : Int32} (h : own_ch ch) (q : ¬ (255 : Int32) < ch) : own_latE (own_lb ch) = ch := by
  rw [Int32.lt_iff_toInt_lt, show (255 : Int32).toInt = 255 from rfl] at q
  obtain ⟨h1, h2⟩ := h
  unfold own_latE own_lb
  have a1 := c_i2b ch
  have a2 := c_i2b ch.toInt8.toInt32
  have a3 := c_mask (ch.toInt8.toInt32.toInt8.toInt32) 255 8 (by decide) (by decide)
  have e : (nar .byte ch.toInt8.toInt32 &&& (255 : Int32)) = ch := by
    rw [← Int32.toInt_inj]; show (ch.toInt8.toInt32.toInt8.toInt32 &&& (255 : Int32)).toInt = _; rw [a3]; omega
  rw [e]
  exact (own_narC (own_i2c ch)).trans (own_narC (c := ch) ⟨h1, h2⟩)
theorem own_join {ch : Int32} (h : own_ch ch) : own_u16E (own_hi ch) (own_lo ch) = ch := by
  obtain ⟨h1, h2⟩ := h
  unfold own_u16E
  have s0 := c_ishr ch 0 0 rfl
  have s8 := c_ishr ch 8 8 rfl
  have b0 := c_i2b (ch >>> ((0 : Int32) &&& 31)); have b0' := c_i2b (ch >>> ((0 : Int32) &&& 31)).toInt8.toInt32
  have b8 := c_i2b (ch >>> ((8 : Int32) &&& 31)); have b8' := c_i2b (ch >>> ((8 : Int32) &&& 31)).toInt8.toInt32
  have m0 := c_mask (own_hi ch) 255 8 (by decide) (by decide)
  have m8 := c_mask (own_lo ch) 255 8 (by decide) (by decide)
  have e0 : (own_hi ch).toInt = (ch >>> ((0 : Int32) &&& 31)).toInt8.toInt32.toInt8.toInt32.toInt := rfl
  have e8 : (own_lo ch).toInt = (ch >>> ((8 : Int32) &&& 31)).toInt8.toInt32.toInt8.toInt32.toInt := rfl
  have v0 : (own_hi ch &&& (255 : Int32)).toInt = ch.toInt % 256 := by rw [m0]; omega
  have v8 : (own_lo ch &&& (255 : Int32)).toInt = ch.toInt / 256 := by rw [m8]; omega
  have l0 := c_ishl (own_hi ch &&& (255 : Int32)) 0 0 rfl
  have l8 := c_ishl (own_lo ch &&& (255 : Int32)) 8 8 rfl
  generalize (own_hi ch &&& (255 : Int32)) <<< ((0 : Int32) &&& 31) = u at *
  generalize (own_lo ch &&& (255 : Int32)) <<< ((8 : Int32) &&& 31) = w at *
  have bu := Int32.le_toInt u; have bu' := Int32.toInt_lt u; have bw := Int32.le_toInt w; have bw' := Int32.toInt_lt w
  have eu : u.toInt = ch.toInt % 256 := by omega
  have ew : w.toInt = 256 * (ch.toInt / 256) := by omega
  have o := c_or' u w 8 (by decide) 256 rfl (by omega) (by omega) (by omega)
  have bo := Int32.le_toInt (u ||| w); have bo' := Int32.toInt_lt (u ||| w)
  have e : u ||| w = ch := by rw [← Int32.toInt_inj]; omega
  show nar .char ((u ||| w).toUInt32.toUInt16.toUInt32.toInt32) = ch
  rw [e]
  exact (own_narC (own_i2c ch)).trans (own_narC (c := ch) ⟨h1, h2⟩)
def own_small (n : Int32) : Prop := n = 0 ∨ n = 1 ∨ n = 2 ∨ n = 3 ∨ n = 4
theorem own_len0 {n z : Int32} (hn : own_small n) (hz : z = n) : (z >>> ((0 : Int32) &&& 31)) = n := by
  subst hz; rcases hn with rfl | rfl | rfl | rfl | rfl <;> decide
theorem own_len1 {n z : Int32} (hn : own_small n) (hz : z = n + n) : (z >>> ((1 : Int32) &&& 31)) = n := by
  subst hz; rcases hn with rfl | rfl | rfl | rfl | rfl <;> decide
theorem own_lt {ix n : Int32} (h0 : ¬ ix < 0) (h1 : ix < n) : ix.toNatClampNeg < n.toNatClampNeg := by
  rw [Int32.lt_iff_toInt_lt] at h0 h1; rw [show (0 : Int32).toInt = 0 from rfl] at h0
  simp only [Int32.toNatClampNeg]; omega
theorem own_ix {ix n : Int32} (hn : own_small n) (h0 : ¬ ix < 0) (h1 : ix < n) : ix = 0 ∨ ix = 1 ∨ ix = 2 ∨ ix = 3 := by
  rw [Int32.lt_iff_toInt_lt] at h0 h1; rw [show (0 : Int32).toInt = 0 from rfl] at h0
  simp only [← Int32.toInt_inj, show (0 : Int32).toInt = 0 from rfl, show (1 : Int32).toInt = 1 from rfl, show (2 : Int32).toInt = 2 from rfl, show (3 : Int32).toInt = 3 from rfl]
  rcases hn with rfl | rfl | rfl | rfl | rfl
  · rw [show (0 : Int32).toInt = 0 from rfl] at h1; omega
  · rw [show (1 : Int32).toInt = 1 from rfl] at h1; omega
  · rw [show (2 : Int32).toInt = 2 from rfl] at h1; omega
  · rw [show (3 : Int32).toInt = 3 from rfl] at h1; omega
  · rw [show (4 : Int32).toInt = 4 from rfl] at h1; omega
theorem own_idx {ix n z : Int32} (hn : own_small n) (hz : z = n + n) (h0 : ¬ ix < 0) (h1 : ix < n) : (¬ (ix <<< ((1 : Int32) &&& 31)) < 0 ∧ (ix <<< ((1 : Int32) &&& 31)) < z) ∧ (¬ ((ix <<< ((1 : Int32) &&& 31)) + (1 : Int32)) < 0 ∧ ((ix <<< ((1 : Int32) &&& 31)) + (1 : Int32)) < z) ∧ (ix <<< ((1 : Int32) &&& 31)).toNatClampNeg = 2 * ix.toNatClampNeg ∧ ((ix <<< ((1 : Int32) &&& 31)) + (1 : Int32)).toNatClampNeg = 2 * ix.toNatClampNeg + 1 ∧ ix < (z >>> ((1 : Int32) &&& 31)) := by
  have q := own_ix hn h0 h1
  subst hz
  rcases hn with rfl | rfl | rfl | rfl | rfl <;> rcases q with rfl | rfl | rfl | rfl <;> first | (exact absurd h1 (by decide)) | decide
/-- what the array of a short text's String may hold: z its length, n the text's, cs its signs -/
def own_bytes (n : Int32) (cs : List Int32) (z : Int32) (vs : List Value) : Prop :=
  (z = n ∧ ∀ i, i < n.toNatClampNeg → ∃ y, vs.getD i (.int 0) = .int y ∧ own_latE y = cs.getD i 0) ∨ (z = n + n ∧ ∀ i, i < n.toNatClampNeg → ∃ y y', vs.getD (2 * i) (.int 0) = .int y ∧ vs.getD (2 * i + 1) (.int 0) = .int y' ∧ own_u16E y y' = cs.getD i 0)
def own_str (Z : State) (h : Heap) (a : Addr) (n : Int32) (cs : List Int32) : Prop :=
  Exa Z h a "java/lang/String" ∧ own_small n ∧ (∀ i, i < n.toNatClampNeg → own_ch (cs.getD i 0)) ∧ ∃ b kb z vs, Fld Z h a "java/lang/String" "value" "[B" (.ref b) ∧ Arv Z h b kb .byte z vs (.int 0) ∧
    ((Fld Z h a "java/lang/String" "coder" "B" (.int (0 : Int32)) ∧ z = n ∧ ∀ i, i < n.toNatClampNeg → ∃ y, vs.getD i (.int 0) = .int y ∧ own_latE y = cs.getD i 0) ∨
     (Fld Z h a "java/lang/String" "coder" "B" (.int (1 : Int32)) ∧ z = n + n ∧ ∀ i, i < n.toNatClampNeg → ∃ y y', vs.getD (2 * i) (.int 0) = .int y ∧ vs.getD (2 * i + 1) (.int 0) = .int y' ∧ own_u16E y y' = cs.getD i 0))
def own_okc (x : Int32) : Int32 := if x < 32 then 0 else if 126 < x then 0 else 1
def own_pr : List Int32 → Int32
  | [] => 1
  | x :: r => if x < 32 then 0 else if 126 < x then 0 else own_pr r
theorem own_pr_nil : own_pr [] = 1 := rfl
theorem own_pr_cons (x : Int32) (r : List Int32) : own_pr (x :: r) = if own_okc x = 0 then 0 else own_pr r := by
  simp only [own_pr, own_okc]
  by_cases h1 : x < 32
  · simp only [h1, if_true]
  · by_cases h2 : 126 < x
    · simp only [h1, h2, if_true, if_false]
    · simp only [h1, h2, if_true, if_false]; rw [if_neg (by decide)]
theorem own_five (x : Int32) : ((x &&& (2147483647 : Int32)) % (5 : Int32)) = (0 : Int32) ∨ ((x &&& (2147483647 : Int32)) % (5 : Int32)) = (1 : Int32) ∨ ((x &&& (2147483647 : Int32)) % (5 : Int32)) = (2 : Int32) ∨ ((x &&& (2147483647 : Int32)) % (5 : Int32)) = (3 : Int32) ∨ ((x &&& (2147483647 : Int32)) % (5 : Int32)) = (4 : Int32) := by
  have m := c_mask x 2147483647 31 (by decide) (by decide)
  have r := (c_irem (x &&& 2147483647) 5 5 rfl).1 (by rw [m]; omega)
  simp only [← Int32.toInt_inj, show (0 : Int32).toInt = 0 from rfl, show (1 : Int32).toInt = 1 from rfl, show (2 : Int32).toInt = 2 from rfl, show (3 : Int32).toInt = 3 from rfl, show (4 : Int32).toInt = 4 from rfl]
  omega
theorem d7_0 : decode jdk_42_method_152_code 0 = .ok (.getstatic 38, 3) := by decide +kernel
theorem d7_3 : decode jdk_42_method_152_code 3 = .ok (.ifCond .eq 10, 3) := by decide +kernel
theorem d7_6 : decode jdk_42_method_152_code 6 = .ok (.aload_n 0, 1) := by decide +kernel
theorem d7_7 : decode jdk_42_method_152_code 7 = .ok (.getfield 15, 3) := by decide +kernel
theorem d7_10 : decode jdk_42_method_152_code 10 = .ok (.goto 4, 3) := by decide +kernel
theorem d7_14 : decode jdk_42_method_152_code 14 = .ok (.ireturn, 1) := by decide +kernel
theorem pn_java_lang_String : plainName "java/lang/String" = true := by first | (simp [plainName, overriddenIn]; done) | decide +kernel
theorem ef_rm7_0 (m : MethodId) (a : Addr) : entryFrame m #[(.ref a)] 1 = mkF m 0 #[vR a] [] := by first | (simp [entryFrame, mkF, argsToLocals, Value.category]; done) | rfl
def Q_rm7_0 (Z : State) (a : Addr) (cs : Int32) (h0 : Heap) (n0 : Nat) (v : Option Value) (h : Heap) (L : List Loc) : Prop := v = some (.int (0 : Int32)) ∧ Fr n0 L ∧ h = h0
set_option maxRecDepth 65536 in
set_option maxHeartbeats 40000000 in
theorem rm7_0 (l : Launch) (Z : State) (a0 : Array Value) (hw : ∀ d ∈ tables_1, d.before a0 Z = true) (ws : List Jvm.Cond) (a : Addr) (cs : Int32) (h0 : Heap) (n0 : Nat) (Z0 : n0 ≤ h0.size) (S0 : Sta Z h0 "java/lang/String" "COMPACT_STRINGS" "Z" (.int cs)) (hcs : ¬ cs = (0 : Int32)) (FC : Fld Z h0 a "java/lang/String" "coder" "B" (.int (0 : Int32))) :
    MetFree l (⟨"java/lang/String", "coder", "()B"⟩ : MethodName) (head1 (Jvm.Cond.code (⟨"java/lang/String", "coder", "()B"⟩ : MethodName) jdk_42_method_152_code 1 (some .byte) :: ws) ({ frames := 0, cells := 0, slots := 0, locals := 0 } : Room)) (fun aα Uα => aα = #[(.ref a)] ∧ Z.Warmed39 Uα.vm ∧ Uα.heap = h0) (fun _ _ _ _ _ => True) (fun _ Uα oα Uβ => ∃ vα Lα, oα = .returned vα ∧ Q_rm7_0 Z a cs h0 n0 vα Uβ.heap Lα ∧ FrameEnd Uα oα Uβ Lα ({ frames := 0, cells := 0, slots := 0, locals := 0 } : Room).cells ({ frames := 0, cells := 0, slots := 0, locals := 0 } : Room).slots) := by
  refine MetFree.of_bodySF (plainFor_of_name pn_java_lang_String) hisR ?_
  intro p e s m args below meth c s₁ Bd hml0 hP hKα
  obtain ⟨rfl, hZ, hh⟩ := hP
  have hx := Bd.exec
  have hby := Bd.bytes
  have hml : c.maxLocals = 1 := hml0
  have hown : s.vm.findClass "java/lang/String" = some m.cls := findClass_of_methodNamed Bd.named
  have hnm := (name_of_methodNamed Bd.named Bd.method).1
  have X0 : Stand p l e ({ frames := 0, cells := 0, slots := 0, locals := 0 } : Room) s m #[(.ref a)] below meth c s₁ [] 0 0 := Stand.of_body Bd
  have e0 : s₁.heap = h0 := by rw [← hh, Bd.state]; rfl
  have N0 := Fr.nil n0
  suffices k0 : Gl p e below s (Q_rm7_0 Z a cs h0 n0) ({ frames := 0, cells := 0, slots := 0, locals := 0 } : Room).cells ({ frames := 0, cells := 0, slots := 0, locals := 0 } : Room).slots s₁ (mkF m 0 #[vR a] []) from Gl.st (fun τ κ => castTop (ef_rm7_0 m a) κ) k0
  obtain ⟨T1, X1, e1, st1⟩ := getS2 X0 hx hZ hown (host := "") (Or.inl (w42_ hw)) Via.refl e0 S0 (g := (mkF m 0 #[vR a] [])) rfl (hb hby d7_0)
  refine Gl.st (g' := (mkF m 3 #[vR a] [(.int cs)])) (fun τ κ => st1 _ κ) ?_
  have hc2 : ¬ (cs = (0 : Int32)) := hcs
  refine Gl.st (g' := (mkF m 7 #[vR a] [(.ref a)])) (fun τ κ => XS.ifNo X1.here hx rfl (hb hby d7_3) rfl ((if0 _ _).trans (feq hc2).1) (XS.aloadN X1.here hx rfl (hb hby d7_6) rfl rfl κ)) ?_
  obtain ⟨T3, X3, e3, st3⟩ := getF X1 hx hZ hown (host := "") (Or.inl (w27_ hw)) Via.refl e1 FC (g := (mkF m 7 #[vR a] [(.ref a)])) rfl rfl (hb hby d7_7)
  refine Gl.st (g' := (mkF m 10 #[vR a] [(.int (0 : Int32))])) (fun τ κ => st3 _ κ) ?_
  refine Gl.st (g' := (mkF m 14 #[vR a] [(.int (0 : Int32))])) (fun τ κ => XS.goto X3.here hx rfl (pc0 := 10) (pc' := 14) rfl (hb hby d7_10) (by decide) (by decide) κ) ?_
  exact Gl.ret (v := some (.int (0 : Int32))) X3 Bd.notSynchronized (fun h => by rw [Bd.returns] at h; cases h) e3 (fun fs hr => retN X3 hx (t := .byte) Bd.returns (by simp) (hb hby d7_14) hr) (by decide) (by decide) ⟨rfl, N0, rfl⟩
theorem d13_0 : decode jdk_42_method_154_code 0 = .ok (.getstatic 38, 3) := by decide +kernel
theorem d13_3 : decode jdk_42_method_154_code 3 = .ok (.ifCond .eq 14, 3) := by decide +kernel
theorem d13_6 : decode jdk_42_method_154_code 6 = .ok (.aload_n 0, 1) := by decide +kernel
theorem d13_7 : decode jdk_42_method_154_code 7 = .ok (.getfield 15, 3) := by decide +kernel
theorem d13_10 : decode jdk_42_method_154_code 10 = .ok (.ifCond .ne 7, 3) := by decide +kernel
theorem d13_13 : decode jdk_42_method_154_code 13 = .ok (.iconst 1, 1) := by decide +kernel
theorem d13_14 : decode jdk_42_method_154_code 14 = .ok (.goto 4, 3) := by decide +kernel
theorem d13_18 : decode jdk_42_method_154_code 18 = .ok (.ireturn, 1) := by decide +kernel
theorem ef_rm13_0 (m : MethodId) (a : Addr) : entryFrame m #[(.ref a)] 1 = mkF m 0 #[vR a] [] := by first | (simp [entryFrame, mkF, argsToLocals, Value.category]; done) | rfl
def Q_rm13_0 (Z : State) (a : Addr) (cs : Int32) (h0 : Heap) (n0 : Nat) (v : Option Value) (h : Heap) (L : List Loc) : Prop := v = some (.int (1 : Int32)) ∧ Fr n0 L ∧ h = h0
set_option maxRecDepth 65536 in
set_option maxHeartbeats 40000000 in
theorem rm13_0 (l : Launch) (Z : State) (a0 : Array Value) (hw : ∀ d ∈ tables_1, d.before a0 Z = true) (ws : List Jvm.Cond) (a : Addr) (cs : Int32) (h0 : Heap) (n0 : Nat) (Z0 : n0 ≤ h0.size) (S0 : Sta Z h0 "java/lang/String" "COMPACT_STRINGS" "Z" (.int cs)) (hcs : ¬ cs = (0 : Int32)) (FC : Fld Z h0 a "java/lang/String" "coder" "B" (.int (0 : Int32))) :
    MetFree l (⟨"java/lang/String", "isLatin1", "()Z"⟩ : MethodName) (head1 (Jvm.Cond.code (⟨"java/lang/String", "isLatin1", "()Z"⟩ : MethodName) jdk_42_method_154_code 1 (some .boolean) :: ws) ({ frames := 0, cells := 0, slots := 0, locals := 0 } : Room)) (fun aα Uα => aα = #[(.ref a)] ∧ Z.Warmed39 Uα.vm ∧ Uα.heap = h0) (fun _ _ _ _ _ => True) (fun _ Uα oα Uβ => ∃ vα Lα, oα = .returned vα ∧ Q_rm13_0 Z a cs h0 n0 vα Uβ.heap Lα ∧ FrameEnd Uα oα Uβ Lα ({ frames := 0, cells := 0, slots := 0, locals := 0 } : Room).cells ({ frames := 0, cells := 0, slots := 0, locals := 0 } : Room).slots) := by
  refine MetFree.of_bodySF (plainFor_of_name pn_java_lang_String) hisR ?_
  intro p e s m args below meth c s₁ Bd hml0 hP hKα
  obtain ⟨rfl, hZ, hh⟩ := hP
  have hx := Bd.exec
  have hby := Bd.bytes
  have hml : c.maxLocals = 1 := hml0
  have hown : s.vm.findClass "java/lang/String" = some m.cls := findClass_of_methodNamed Bd.named
  have hnm := (name_of_methodNamed Bd.named Bd.method).1
  have X0 : Stand p l e ({ frames := 0, cells := 0, slots := 0, locals := 0 } : Room) s m #[(.ref a)] below meth c s₁ [] 0 0 := Stand.of_body Bd
  have e0 : s₁.heap = h0 := by rw [← hh, Bd.state]; rfl
  have N0 := Fr.nil n0
  suffices k0 : Gl p e below s (Q_rm13_0 Z a cs h0 n0) ({ frames := 0, cells := 0, slots := 0, locals := 0 } : Room).cells ({ frames := 0, cells := 0, slots := 0, locals := 0 } : Room).slots s₁ (mkF m 0 #[vR a] []) from Gl.st (fun τ κ => castTop (ef_rm13_0 m a) κ) k0
  obtain ⟨T4, X4, e4, st4⟩ := getS2 X0 hx hZ hown (host := "") (Or.inl (w42_ hw)) Via.refl e0 S0 (g := (mkF m 0 #[vR a] [])) rfl (hb hby d13_0)
  refine Gl.st (g' := (mkF m 3 #[vR a] [(.int cs)])) (fun τ κ => st4 _ κ) ?_
  have hc5 : ¬ (cs = (0 : Int32)) := hcs
  refine Gl.st (g' := (mkF m 7 #[vR a] [(.ref a)])) (fun τ κ => XS.ifNo X4.here hx rfl (hb hby d13_3) rfl ((if0 _ _).trans (feq hc5).1) (XS.aloadN X4.here hx rfl (hb hby d13_6) rfl rfl κ)) ?_
  obtain ⟨T6, X6, e6, st6⟩ := getF X4 hx hZ hown (host := "") (Or.inl (w27_ hw)) Via.refl e4 FC (g := (mkF m 7 #[vR a] [(.ref a)])) rfl rfl (hb hby d13_7)
  refine Gl.st (g' := (mkF m 10 #[vR a] [(.int (0 : Int32))])) (fun τ κ => st6 _ κ) ?_
  have hc7 : (0 : Int32) = (0 : Int32) := by decide
  refine Gl.st (g' := (mkF m 14 #[vR a] [(.int (1 : Int32))])) (fun τ κ => XS.ifNo X6.here hx rfl (hb hby d13_10) rfl ((if0 _ _).trans (teq hc7).2) (XS.iconst X6.here hx rfl (hb hby d13_13) κ)) ?_
  refine Gl.st (g' := (mkF m 18 #[vR a] [(.int (1 : Int32))])) (fun τ κ => XS.goto X6.here hx rfl (pc0 := 14) (pc' := 18) rfl (hb hby d13_14) (by decide) (by decide) κ) ?_
  exact Gl.ret (v := some (.int (1 : Int32))) X6 Bd.notSynchronized (fun h => by rw [Bd.returns] at h; cases h) e6 (fun fs hr => retN X6 hx (t := .boolean) Bd.returns (by simp) (hb hby d13_18) hr) (by decide) (by decide) ⟨rfl, N0, rfl⟩
theorem ef_rm7_1 (m : MethodId) (a : Addr) : entryFrame m #[(.ref a)] 1 = mkF m 0 #[vR a] [] := by first | (simp [entryFrame, mkF, argsToLocals, Value.category]; done) | rfl
def Q_rm7_1 (Z : State) (a : Addr) (cs : Int32) (h0 : Heap) (n0 : Nat) (v : Option Value) (h : Heap) (L : List Loc) : Prop := v = some (.int (1 : Int32)) ∧ Fr n0 L ∧ h = h0
set_option maxRecDepth 65536 in
set_option maxHeartbeats 40000000 in
theorem rm7_1 (l : Launch) (Z : State) (a0 : Array Value) (hw : ∀ d ∈ tables_1, d.before a0 Z = true) (ws : List Jvm.Cond) (a : Addr) (cs : Int32) (h0 : Heap) (n0 : Nat) (Z0 : n0 ≤ h0.size) (S0 : Sta Z h0 "java/lang/String" "COMPACT_STRINGS" "Z" (.int cs)) (hcs : ¬ cs = (0 : Int32)) (FC : Fld Z h0 a "java/lang/String" "coder" "B" (.int (1 : Int32))) :
    MetFree l (⟨"java/lang/String", "coder", "()B"⟩ : MethodName) (head1 (Jvm.Cond.code (⟨"java/lang/String", "coder", "()B"⟩ : MethodName) jdk_42_method_152_code 1 (some .byte) :: ws) ({ frames := 0, cells := 0, slots := 0, locals := 0 } : Room)) (fun aα Uα => aα = #[(.ref a)] ∧ Z.Warmed39 Uα.vm ∧ Uα.heap = h0) (fun _ _ _ _ _ => True) (fun _ Uα oα Uβ => ∃ vα Lα, oα = .returned vα ∧ Q_rm7_1 Z a cs h0 n0 vα Uβ.heap Lα ∧ FrameEnd Uα oα Uβ Lα ({ frames := 0, cells := 0, slots := 0, locals := 0 } : Room).cells ({ frames := 0, cells := 0, slots := 0, locals := 0 } : Room).slots) := by
  refine MetFree.of_bodySF (plainFor_of_name pn_java_lang_String) hisR ?_
  intro p e s m args below meth c s₁ Bd hml0 hP hKα
  obtain ⟨rfl, hZ, hh⟩ := hP
  have hx := Bd.exec
  have hby := Bd.bytes
  have hml : c.maxLocals = 1 := hml0
  have hown : s.vm.findClass "java/lang/String" = some m.cls := findClass_of_methodNamed Bd.named
  have hnm := (name_of_methodNamed Bd.named Bd.method).1
  have X0 : Stand p l e ({ frames := 0, cells := 0, slots := 0, locals := 0 } : Room) s m #[(.ref a)] below meth c s₁ [] 0 0 := Stand.of_body Bd
  have e0 : s₁.heap = h0 := by rw [← hh, Bd.state]; rfl
  have N0 := Fr.nil n0
  suffices k0 : Gl p e below s (Q_rm7_1 Z a cs h0 n0) ({ frames := 0, cells := 0, slots := 0, locals := 0 } : Room).cells ({ frames := 0, cells := 0, slots := 0, locals := 0 } : Room).slots s₁ (mkF m 0 #[vR a] []) from Gl.st (fun τ κ => castTop (ef_rm7_1 m a) κ) k0
  obtain ⟨T8, X8, e8, st8⟩ := getS2 X0 hx hZ hown (host := "") (Or.inl (w42_ hw)) Via.refl e0 S0 (g := (mkF m 0 #[vR a] [])) rfl (hb hby d7_0)
  refine Gl.st (g' := (mkF m 3 #[vR a] [(.int cs)])) (fun τ κ => st8 _ κ) ?_
  have hc9 : ¬ (cs = (0 : Int32)) := hcs
  refine Gl.st (g' := (mkF m 7 #[vR a] [(.ref a)])) (fun τ κ => XS.ifNo X8.here hx rfl (hb hby d7_3) rfl ((if0 _ _).trans (feq hc9).1) (XS.aloadN X8.here hx rfl (hb hby d7_6) rfl rfl κ)) ?_
  obtain ⟨T10, X10, e10, st10⟩ := getF X8 hx hZ hown (host := "") (Or.inl (w27_ hw)) Via.refl e8 FC (g := (mkF m 7 #[vR a] [(.ref a)])) rfl rfl (hb hby d7_7)
  refine Gl.st (g' := (mkF m 10 #[vR a] [(.int (1 : Int32))])) (fun τ κ => st10 _ κ) ?_
  refine Gl.st (g' := (mkF m 14 #[vR a] [(.int (1 : Int32))])) (fun τ κ => XS.goto X10.here hx rfl (pc0 := 10) (pc' := 14) rfl (hb hby d7_10) (by decide) (by decide) κ) ?_
  exact Gl.ret (v := some (.int (1 : Int32))) X10 Bd.notSynchronized (fun h => by rw [Bd.returns] at h; cases h) e10 (fun fs hr => retN X10 hx (t := .byte) Bd.returns (by simp) (hb hby d7_14) hr) (by decide) (by decide) ⟨rfl, N0, rfl⟩
theorem d13_17 : decode jdk_42_method_154_code 17 = .ok (.iconst 0, 1) := by decide +kernel
theorem ef_rm13_1 (m : MethodId) (a : Addr) : entryFrame m #[(.ref a)] 1 = mkF m 0 #[vR a] [] := by first | (simp [entryFrame, mkF, argsToLocals, Value.category]; done) | rfl
def Q_rm13_1 (Z : State) (a : Addr) (cs : Int32) (h0 : Heap) (n0 : Nat) (v : Option Value) (h : Heap) (L : List Loc) : Prop := v = some (.int (0 : Int32)) ∧ Fr n0 L ∧ h = h0
set_option maxRecDepth 65536 in
set_option maxHeartbeats 40000000 in
theorem rm13_1 (l : Launch) (Z : State) (a0 : Array Value) (hw : ∀ d ∈ tables_1, d.before a0 Z = true) (ws : List Jvm.Cond) (a : Addr) (cs : Int32) (h0 : Heap) (n0 : Nat) (Z0 : n0 ≤ h0.size) (S0 : Sta Z h0 "java/lang/String" "COMPACT_STRINGS" "Z" (.int cs)) (hcs : ¬ cs = (0 : Int32)) (FC : Fld Z h0 a "java/lang/String" "coder" "B" (.int (1 : Int32))) :
    MetFree l (⟨"java/lang/String", "isLatin1", "()Z"⟩ : MethodName) (head1 (Jvm.Cond.code (⟨"java/lang/String", "isLatin1", "()Z"⟩ : MethodName) jdk_42_method_154_code 1 (some .boolean) :: ws) ({ frames := 0, cells := 0, slots := 0, locals := 0 } : Room)) (fun aα Uα => aα = #[(.ref a)] ∧ Z.Warmed39 Uα.vm ∧ Uα.heap = h0) (fun _ _ _ _ _ => True) (fun _ Uα oα Uβ => ∃ vα Lα, oα = .returned vα ∧ Q_rm13_1 Z a cs h0 n0 vα Uβ.heap Lα ∧ FrameEnd Uα oα Uβ Lα ({ frames := 0, cells := 0, slots := 0, locals := 0 } : Room).cells ({ frames := 0, cells := 0, slots := 0, locals := 0 } : Room).slots) := by
  refine MetFree.of_bodySF (plainFor_of_name pn_java_lang_String) hisR ?_
  intro p e s m args below meth c s₁ Bd hml0 hP hKα
  obtain ⟨rfl, hZ, hh⟩ := hP
  have hx := Bd.exec
  have hby := Bd.bytes
  have hml : c.maxLocals = 1 := hml0
  have hown : s.vm.findClass "java/lang/String" = some m.cls := findClass_of_methodNamed Bd.named
  have hnm := (name_of_methodNamed Bd.named Bd.method).1
  have X0 : Stand p l e ({ frames := 0, cells := 0, slots := 0, locals := 0 } : Room) s m #[(.ref a)] below meth c s₁ [] 0 0 := Stand.of_body Bd
  have e0 : s₁.heap = h0 := by rw [← hh, Bd.state]; rfl
  have N0 := Fr.nil n0
  suffices k0 : Gl p e below s (Q_rm13_1 Z a cs h0 n0) ({ frames := 0, cells := 0, slots := 0, locals := 0 } : Room).cells ({ frames := 0, cells := 0, slots := 0, locals := 0 } : Room).slots s₁ (mkF m 0 #[vR a] []) from Gl.st (fun τ κ => castTop (ef_rm13_1 m a) κ) k0
  obtain ⟨T11, X11, e11, st11⟩ := getS2 X0 hx hZ hown (host := "") (Or.inl (w42_ hw)) Via.refl e0 S0 (g := (mkF m 0 #[vR a] [])) rfl (hb hby d13_0)
  refine Gl.st (g' := (mkF m 3 #[vR a] [(.int cs)])) (fun τ κ => st11 _ κ) ?_
  have hc12 : ¬ (cs = (0 : Int32)) := hcs
  refine Gl.st (g' := (mkF m 7 #[vR a] [(.ref a)])) (fun τ κ => XS.ifNo X11.here hx rfl (hb hby d13_3) rfl ((if0 _ _).trans (feq hc12).1) (XS.aloadN X11.here hx rfl (hb hby d13_6) rfl rfl κ)) ?_
  obtain ⟨T13, X13, e13, st13⟩ := getF X11 hx hZ hown (host := "") (Or.inl (w27_ hw)) Via.refl e11 FC (g := (mkF m 7 #[vR a] [(.ref a)])) rfl rfl (hb hby d13_7)
  refine Gl.st (g' := (mkF m 10 #[vR a] [(.int (1 : Int32))])) (fun τ κ => st13 _ κ) ?_
  have hc14 : ¬ ((1 : Int32) = (0 : Int32)) := by decide
  refine Gl.st (g' := (mkF m 18 #[vR a] [(.int (0 : Int32))])) (fun τ κ => XS.ifYes X13.here hx rfl (pc0 := 10) (pc' := 17) rfl (hb hby d13_10) rfl ((if0 _ _).trans (feq hc14).2) (by decide) (by decide) (XS.iconst X13.here hx rfl (hb hby d13_17) κ)) ?_
  exact Gl.ret (v := some (.int (0 : Int32))) X13 Bd.notSynchronized (fun h => by rw [Bd.returns] at h; cases h) e13 (fun fs hr => retN X13 hx (t := .boolean) Bd.returns (by simp) (hb hby d13_18) hr) (by decide) (by decide) ⟨rfl, N0, rfl⟩
theorem d6_0 : decode jdk_42_method_54_code 0 = .ok (.aload_n 0, 1) := by decide +kernel
theorem d6_1 : decode jdk_42_method_54_code 1 = .ok (.getfield 9, 3) := by decide +kernel
theorem d6_4 : decode jdk_42_method_54_code 4 = .ok (.arraylength, 1) := by decide +kernel
theorem d6_5 : decode jdk_42_method_54_code 5 = .ok (.aload_n 0, 1) := by decide +kernel
theorem d6_6 : decode jdk_42_method_54_code 6 = .ok (.invokevirtual 335, 3) := by decide +kernel
theorem pd_0 : parseMethodDescriptor "()B" = some ⟨[], some .byte⟩ := by decide +kernel
theorem d6_9 : decode jdk_42_method_54_code 9 = .ok (.ishr, 1) := by decide +kernel
theorem d6_10 : decode jdk_42_method_54_code 10 = .ok (.ireturn, 1) := by decide +kernel
theorem ef_rm6 (m : MethodId) (a : Addr) : entryFrame m #[(.ref a)] 1 = mkF m 0 #[vR a] [] := by first | (simp [entryFrame, mkF, argsToLocals, Value.category]; done) | rfl
def Q_rm6 (Z : State) (a : Addr) (n cs : Int32) (cl : List Int32) (h0 : Heap) (n0 : Nat) (v : Option Value) (h : Heap) (L : List Loc) : Prop := v = some (.int n) ∧ Fr n0 L ∧ h = h0
set_option maxRecDepth 65536 in
set_option maxHeartbeats 40000000 in
theorem rm6 (l : Launch) (Z : State) (a0 : Array Value) (hw : ∀ d ∈ tables_1, d.before a0 Z = true) (ws : List Jvm.Cond) (a : Addr) (n cs : Int32) (cl : List Int32) (h0 : Heap) (n0 : Nat) (Z0 : n0 ≤ h0.size) (S0 : Sta Z h0 "java/lang/String" "COMPACT_STRINGS" "Z" (.int cs)) (hcs : ¬ cs = (0 : Int32)) (HS : own_str Z h0 a n cl) :
    MetFree l (⟨"java/lang/String", "length", "()I"⟩ : MethodName) (head1 (Jvm.Cond.code (⟨"java/lang/String", "length", "()I"⟩ : MethodName) jdk_42_method_54_code 1 (some .int) :: ws) ({ frames := 1, cells := 0, slots := 0, locals := 13 } : Room)) (fun aα Uα => aα = #[(.ref a)] ∧ Z.Warmed39 Uα.vm ∧ Uα.heap = h0) (fun _ _ _ _ _ => True) (fun _ Uα oα Uβ => ∃ vα Lα, oα = .returned vα ∧ Q_rm6 Z a n cs cl h0 n0 vα Uβ.heap Lα ∧ FrameEnd Uα oα Uβ Lα ({ frames := 1, cells := 0, slots := 0, locals := 13 } : Room).cells ({ frames := 1, cells := 0, slots := 0, locals := 13 } : Room).slots) := by
  refine MetFree.of_bodySF (plainFor_of_name pn_java_lang_String) hisR ?_
  intro p e s m args below meth c s₁ Bd hml0 hP hKα
  obtain ⟨rfl, hZ, hh⟩ := hP
  have hx := Bd.exec
  have hby := Bd.bytes
  have hml : c.maxLocals = 1 := hml0
  have hown : s.vm.findClass "java/lang/String" = some m.cls := findClass_of_methodNamed Bd.named
  have hnm := (name_of_methodNamed Bd.named Bd.method).1
  have X0 : Stand p l e ({ frames := 1, cells := 0, slots := 0, locals := 13 } : Room) s m #[(.ref a)] below meth c s₁ [] 0 0 := Stand.of_body Bd
  have e0 : s₁.heap = h0 := by rw [← hh, Bd.state]; rfl
  have N0 := Fr.nil n0
  suffices k0 : Gl p e below s (Q_rm6 Z a n cs cl h0 n0) ({ frames := 1, cells := 0, slots := 0, locals := 13 } : Room).cells ({ frames := 1, cells := 0, slots := 0, locals := 13 } : Room).slots s₁ (mkF m 0 #[vR a] []) from Gl.st (fun τ κ => castTop (ef_rm6 m a) κ) k0
  obtain ⟨E0, hn, hr, b, kb, z, vs, FV, V0, hc⟩ := HS
  rcases hc with ⟨FC, hz, hv⟩ | ⟨FC, hz, hv⟩
  · -- coder 0
    refine Gl.st (g' := (mkF m 1 #[vR a] [(.ref a)])) (fun τ κ => XS.aloadN X0.here hx rfl (hb hby d6_0) rfl rfl κ) ?_
    obtain ⟨T15, X15, e15, st15⟩ := getF X0 hx hZ hown (host := "") (Or.inl (w26_ hw)) Via.refl e0 FV (g := (mkF m 1 #[vR a] [(.ref a)])) rfl rfl (hb hby d6_1)
    refine Gl.st (g' := (mkF m 4 #[vR a] [(.ref b)])) (fun τ κ => st15 _ κ) ?_
    obtain ⟨cl_o16, Ar_o16, q_o16, S_o16, M_o16, H_o16, G_o16⟩ := id V0
    refine Gl.st (g' := (mkF m 5 #[vR a] [(.int z)])) (fun τ κ => X15.arraylength hx (by rw [e15]; exact Ar_o16.1) (State.isArrayOf_alike hZ.alike Ar_o16.2.1) (g := (mkF m 4 #[vR a] [(.ref b)])) rfl rfl (hb hby d6_4) _ (by rw [len_of S_o16 M_o16]; exact κ)) ?_
    refine Gl.st (g' := (mkF m 6 #[vR a] [(.ref a), (.int z)])) (fun τ κ => XS.aloadN X15.here hx rfl (hb hby d6_5) rfl rfl κ) ?_
    obtain ⟨cq17, kq17, q17a, q17b, q17c⟩ := isOf hZ e15 E0
    obtain ⟨rv17, _, ⟨T17, L17, k17, n17⟩, -, X17, ⟨Lc17, hQ17, l17, y17, z17⟩, st17⟩ := X15.virtualBack hx (y := (⟨"java/lang/String", "coder", "()B"⟩ : MethodName)) (z := (⟨"java/lang/String", "coder", "()B"⟩ : MethodName)) hown (mvT hZ (w37_ hw)) (mvT hZ (w38_ hw)) (notFace_of_selects (args := #[]) (mvT hZ (w40_ hw))) (mvT hZ (w40_ hw)) (mvT hZ (w39_ hw)) (by decide) (backOf (W := 1) (rm7_0 l Z a0 hw [] a cs h0 n0 Z0 S0 hcs FC) hZ (w41_ hw) (w8_ hw) (by decide) (by decide)) q17a q17c (g := (mkF m 6 #[vR a] [(.ref a), (.int z)])) rfl (by rw [hml]; rfl) (Steps.refl _) (argsL := []) (rest := [(.int z)]) (lenOf pd_0 rfl) rfl (by show 2 * 0 + _ ≤ _; exact Nat.le_of_eq rfl) (hb hby d6_6) (fun _ _ => ⟨rfl, e15, (by decide : 0 + 0 ≤ _), (by decide : 0 + 0 ≤ _)⟩)
    dsimp only [Pt.U, Pt.locs, Pt.cells, Pt.slots] at X17 l17 y17 z17 st17 hQ17
    subst l17 y17 z17
    obtain ⟨hq17, N17q, e17⟩ := hQ17
    have hq17 : rv17 = some (.int (0 : Int32)) := hq17
    subst hq17
    have N17 := Fr.app N0 N17q
    refine Gl.st (g' := (mkF m 9 #[vR a] [(.int (0 : Int32)), (.int z)])) (fun τ κ => st17.trans κ) ?_
    refine Gl.st (g' := (mkF m 10 #[vR a] [(.int (z >>> ((0 : Int32) &&& 31)))])) (fun τ κ => XS.ishr X17.here hx rfl (hb hby d6_9) rfl κ) ?_
    exact Gl.ret (v := some (.int (z >>> ((0 : Int32) &&& 31)))) X17 Bd.notSynchronized (fun h => by rw [Bd.returns] at h; cases h) e17 (fun fs hr => retI X17 hx Bd.returns (hb hby d6_10) hr) (by decide) (by decide) ⟨congrArg (fun t => some (Value.int t)) (own_len0 hn hz), N17, rfl⟩
  · -- coder 1
    refine Gl.st (g' := (mkF m 1 #[vR a] [(.ref a)])) (fun τ κ => XS.aloadN X0.here hx rfl (hb hby d6_0) rfl rfl κ) ?_
    obtain ⟨T18, X18, e18, st18⟩ := getF X0 hx hZ hown (host := "") (Or.inl (w26_ hw)) Via.refl e0 FV (g := (mkF m 1 #[vR a] [(.ref a)])) rfl rfl (hb hby d6_1)
    refine Gl.st (g' := (mkF m 4 #[vR a] [(.ref b)])) (fun τ κ => st18 _ κ) ?_
    obtain ⟨cl_o19, Ar_o19, q_o19, S_o19, M_o19, H_o19, G_o19⟩ := id V0
    refine Gl.st (g' := (mkF m 5 #[vR a] [(.int z)])) (fun τ κ => X18.arraylength hx (by rw [e18]; exact Ar_o19.1) (State.isArrayOf_alike hZ.alike Ar_o19.2.1) (g := (mkF m 4 #[vR a] [(.ref b)])) rfl rfl (hb hby d6_4) _ (by rw [len_of S_o19 M_o19]; exact κ)) ?_
    refine Gl.st (g' := (mkF m 6 #[vR a] [(.ref a), (.int z)])) (fun τ κ => XS.aloadN X18.here hx rfl (hb hby d6_5) rfl rfl κ) ?_
    obtain ⟨cq20, kq20, q20a, q20b, q20c⟩ := isOf hZ e18 E0
    obtain ⟨rv20, _, ⟨T20, L20, k20, n20⟩, -, X20, ⟨Lc20, hQ20, l20, y20, z20⟩, st20⟩ := X18.virtualBack hx (y := (⟨"java/lang/String", "coder", "()B"⟩ : MethodName)) (z := (⟨"java/lang/String", "coder", "()B"⟩ : MethodName)) hown (mvT hZ (w37_ hw)) (mvT hZ (w38_ hw)) (notFace_of_selects (args := #[]) (mvT hZ (w40_ hw))) (mvT hZ (w40_ hw)) (mvT hZ (w39_ hw)) (by decide) (backOf (W := 1) (rm7_1 l Z a0 hw [] a cs h0 n0 Z0 S0 hcs FC) hZ (w41_ hw) (w8_ hw) (by decide) (by decide)) q20a q20c (g := (mkF m 6 #[vR a] [(.ref a), (.int z)])) rfl (by rw [hml]; rfl) (Steps.refl _) (argsL := []) (rest := [(.int z)]) (lenOf pd_0 rfl) rfl (by show 2 * 0 + _ ≤ _; exact Nat.le_of_eq rfl) (hb hby d6_6) (fun _ _ => ⟨rfl, e18, (by decide : 0 + 0 ≤ _), (by decide : 0 + 0 ≤ _)⟩)
    dsimp only [Pt.U, Pt.locs, Pt.cells, Pt.slots] at X20 l20 y20 z20 st20 hQ20
    subst l20 y20 z20
    obtain ⟨hq20, N20q, e20⟩ := hQ20
    have hq20 : rv20 = some (.int (1 : Int32)) := hq20
    subst hq20
    have N20 := Fr.app N0 N20q
    refine Gl.st (g' := (mkF m 9 #[vR a] [(.int (1 : Int32)), (.int z)])) (fun τ κ => st20.trans κ) ?_
    refine Gl.st (g' := (mkF m 10 #[vR a] [(.int (z >>> ((1 : Int32) &&& 31)))])) (fun τ κ => XS.ishr X20.here hx rfl (hb hby d6_9) rfl κ) ?_
    exact Gl.ret (v := some (.int (z >>> ((1 : Int32) &&& 31)))) X20 Bd.notSynchronized (fun h => by rw [Bd.returns] at h; cases h) e20 (fun fs hr => retI X20 hx Bd.returns (hb hby d6_10) hr) (by decide) (by decide) ⟨congrArg (fun t => some (Value.int t)) (own_len1 hn hz), N20, rfl⟩
theorem d16_0 : decode jdk_41_method_11_code 0 = .ok (.iload_n 0, 1) := by decide +kernel
theorem d16_1 : decode jdk_41_method_11_code 1 = .ok (.ifCond .lt 8, 3) := by decide +kernel
theorem d16_4 : decode jdk_41_method_11_code 4 = .ok (.iload_n 0, 1) := by decide +kernel
theorem d16_5 : decode jdk_41_method_11_code 5 = .ok (.iload_n 1, 1) := by decide +kernel
theorem d16_6 : decode jdk_41_method_11_code 6 = .ok (.if_icmp .lt 10, 3) := by decide +kernel
theorem d16_16 : decode jdk_41_method_11_code 16 = .ok (.iload_n 0, 1) := by decide +kernel
theorem d16_17 : decode jdk_41_method_11_code 17 = .ok (.ireturn, 1) := by decide +kernel
theorem pn_jdk_internal_util_Preconditions : plainName "jdk/internal/util/Preconditions" = true := by first | (simp [plainName, overriddenIn]; done) | decide +kernel
theorem ef_rm16 (m : MethodId) (ix : Int32) (nn : Int32) (ff : Value) (isr_ff : ff.isRef = true) : entryFrame m #[(.int ix), (.int nn), ff] 3 = mkF m 0 #[vI ix, vI nn, .val ff] [] := by
  cases ff <;> first | (simp [Value.isRef] at *; done) | rfl | (simp [entryFrame, mkF, argsToLocals, Value.category]; done)
def Q_rm16 (Z : State) (ix : Int32) (nn : Int32) (ff : Value)  (h0 : Heap) (n0 : Nat) (v : Option Value) (h : Heap) (L : List Loc) : Prop := v = some (.int ix) ∧ Fr n0 L ∧ h = h0
set_option maxRecDepth 65536 in
set_option maxHeartbeats 40000000 in
theorem rm16 (l : Launch) (Z : State) (a0 : Array Value) (hw : ∀ d ∈ tables_1, d.before a0 Z = true) (ws : List Jvm.Cond) (ix : Int32) (nn : Int32) (ff : Value)  (h0 : Heap) (n0 : Nat) (Z0 : n0 ≤ h0.size) (isr_ff : ff.isRef = true) (hi0 : ¬ ix < 0) (hin : ix < nn) :
    MetFree l (⟨"jdk/internal/util/Preconditions", "checkIndex", "(IILjava/util/function/BiFunction;)I"⟩ : MethodName) (head1 (Jvm.Cond.code (⟨"jdk/internal/util/Preconditions", "checkIndex", "(IILjava/util/function/BiFunction;)I"⟩ : MethodName) jdk_41_method_11_code 3 (some .int) :: ws) ({ frames := 0, cells := 0, slots := 0, locals := 0 } : Room)) (fun aα Uα => aα = #[(.int ix), (.int nn), ff] ∧ Z.Warmed39 Uα.vm ∧ Uα.heap = h0) (fun _ _ _ _ _ => True) (fun _ Uα oα Uβ => ∃ vα Lα, oα = .returned vα ∧ Q_rm16 Z ix nn ff  h0 n0 vα Uβ.heap Lα ∧ FrameEnd Uα oα Uβ Lα ({ frames := 0, cells := 0, slots := 0, locals := 0 } : Room).cells ({ frames := 0, cells := 0, slots := 0, locals := 0 } : Room).slots) := by
  refine MetFree.of_bodySF (plainFor_of_name pn_jdk_internal_util_Preconditions) hisR ?_
  intro p e s m args below meth c s₁ Bd hml0 hP hKα
  obtain ⟨rfl, hZ, hh⟩ := hP
  have hx := Bd.exec
  have hby := Bd.bytes
  have hml : c.maxLocals = 3 := hml0
  have hown : s.vm.findClass "jdk/internal/util/Preconditions" = some m.cls := findClass_of_methodNamed Bd.named
  have hnm := (name_of_methodNamed Bd.named Bd.method).1
  have X0 : Stand p l e ({ frames := 0, cells := 0, slots := 0, locals := 0 } : Room) s m #[(.int ix), (.int nn), ff] below meth c s₁ [] 0 0 := Stand.of_body Bd
  have e0 : s₁.heap = h0 := by rw [← hh, Bd.state]; rfl
  have N0 := Fr.nil n0
  suffices k0 : Gl p e below s (Q_rm16 Z ix nn ff  h0 n0) ({ frames := 0, cells := 0, slots := 0, locals := 0 } : Room).cells ({ frames := 0, cells := 0, slots := 0, locals := 0 } : Room).slots s₁ (mkF m 0 #[vI ix, vI nn, .val ff] []) from Gl.st (fun τ κ => castTop (ef_rm16 m ix nn ff isr_ff) κ) k0
  refine Gl.st (g' := (mkF m 1 #[vI ix, vI nn, .val ff] [(.int ix)])) (fun τ κ => XS.iloadN X0.here hx rfl (hb hby d16_0) rfl κ) ?_
  have hc21 : ¬ (ix < (0 : Int32)) := hi0
  refine Gl.st (g' := (mkF m 5 #[vI ix, vI nn, .val ff] [(.int ix)])) (fun τ κ => XS.ifNo X0.here hx rfl (hb hby d16_1) rfl ((if0 _ _).trans (flt hc21).1) (XS.iloadN X0.here hx rfl (hb hby d16_4) rfl κ)) ?_
  refine Gl.st (g' := (mkF m 6 #[vI ix, vI nn, .val ff] [(.int nn), (.int ix)])) (fun τ κ => XS.iloadN X0.here hx rfl (hb hby d16_5) rfl κ) ?_
  have hc22 : ix < nn := hin
  refine Gl.st (g' := (mkF m 17 #[vI ix, vI nn, .val ff] [(.int ix)])) (fun τ κ => XS.icmpYes X0.here hx rfl (pc0 := 6) (pc' := 16) rfl (hb hby d16_6) rfl (tlt hc22).1 (by decide) (by decide) (XS.iloadN X0.here hx rfl (hb hby d16_16) rfl κ)) ?_
  exact Gl.ret (v := some (.int ix)) X0 Bd.notSynchronized (fun h => by rw [Bd.returns] at h; cases h) e0 (fun fs hr => retI X0 hx Bd.returns (hb hby d16_17) hr) (by decide) (by decide) ⟨rfl, N0, rfl⟩
theorem d15_0 : decode jdk_42_method_155_code 0 = .ok (.iload_n 0, 1) := by decide +kernel
theorem d15_1 : decode jdk_42_method_155_code 1 = .ok (.iload_n 1, 1) := by decide +kernel
theorem d15_2 : decode jdk_42_method_155_code 2 = .ok (.getstatic 1053, 3) := by decide +kernel
theorem d15_5 : decode jdk_42_method_155_code 5 = .ok (.invokestatic 1059, 3) := by decide +kernel
theorem pd_1 : parseMethodDescriptor "(IILjava/util/function/BiFunction;)I" = some ⟨[.int, .int, (.object "java/util/function/BiFunction")], some .int⟩ := by decide +kernel
theorem d15_8 : decode jdk_42_method_155_code 8 = .ok (.pop, 1) := by decide +kernel
theorem d15_9 : decode jdk_42_method_155_code 9 = .ok (.return_, 1) := by decide +kernel
theorem ef_rm15 (m : MethodId) (ix : Int32) (nn : Int32) : entryFrame m #[(.int ix), (.int nn)] 2 = mkF m 0 #[vI ix, vI nn] [] := by first | (simp [entryFrame, mkF, argsToLocals, Value.category]; done) | rfl
def Q_rm15 (Z : State) (ix : Int32) (nn : Int32) (ff : Value) (h0 : Heap) (n0 : Nat) (v : Option Value) (h : Heap) (L : List Loc) : Prop := v = none ∧ Fr n0 L ∧ h = h0
set_option maxRecDepth 65536 in
set_option maxHeartbeats 40000000 in
theorem rm15 (l : Launch) (Z : State) (a0 : Array Value) (hw : ∀ d ∈ tables_1, d.before a0 Z = true) (ws : List Jvm.Cond) (ix : Int32) (nn : Int32) (ff : Value) (h0 : Heap) (n0 : Nat) (Z0 : n0 ≤ h0.size) (SF : Sta Z h0 "jdk/internal/util/Preconditions" "SIOOBE_FORMATTER" "Ljava/util/function/BiFunction;" ff) (isr_ff : ff.isRef = true) (hi0 : ¬ ix < 0) (hin : ix < nn) :
    MetFree l (⟨"java/lang/String", "checkIndex", "(II)V"⟩ : MethodName) (head1 (Jvm.Cond.code (⟨"java/lang/String", "checkIndex", "(II)V"⟩ : MethodName) jdk_42_method_155_code 2 none :: ws) ({ frames := 1, cells := 0, slots := 0, locals := 14 } : Room)) (fun aα Uα => aα = #[(.int ix), (.int nn)] ∧ Z.Warmed39 Uα.vm ∧ Uα.heap = h0) (fun _ _ _ _ _ => True) (fun _ Uα oα Uβ => ∃ vα Lα, oα = .returned vα ∧ Q_rm15 Z ix nn ff h0 n0 vα Uβ.heap Lα ∧ FrameEnd Uα oα Uβ Lα ({ frames := 1, cells := 0, slots := 0, locals := 14 } : Room).cells ({ frames := 1, cells := 0, slots := 0, locals := 14 } : Room).slots) := by
  refine MetFree.of_bodySF (plainFor_of_name pn_java_lang_String) hisR ?_
  intro p e s m args below meth c s₁ Bd hml0 hP hKα
  obtain ⟨rfl, hZ, hh⟩ := hP
  have hx := Bd.exec
  have hby := Bd.bytes
  have hml : c.maxLocals = 2 := hml0
  have hown : s.vm.findClass "java/lang/String" = some m.cls := findClass_of_methodNamed Bd.named
  have hnm := (name_of_methodNamed Bd.named Bd.method).1
  have X0 : Stand p l e ({ frames := 1, cells := 0, slots := 0, locals := 14 } : Room) s m #[(.int ix), (.int nn)] below meth c s₁ [] 0 0 := Stand.of_body Bd
  have e0 : s₁.heap = h0 := by rw [← hh, Bd.state]; rfl
  have N0 := Fr.nil n0
  suffices k0 : Gl p e below s (Q_rm15 Z ix nn ff h0 n0) ({ frames := 1, cells := 0, slots := 0, locals := 14 } : Room).cells ({ frames := 1, cells := 0, slots := 0, locals := 14 } : Room).slots s₁ (mkF m 0 #[vI ix, vI nn] []) from Gl.st (fun τ κ => castTop (ef_rm15 m ix nn) κ) k0
  refine Gl.st (g' := (mkF m 2 #[vI ix, vI nn] [(.int nn), (.int ix)])) (fun τ κ => XS.iloadN X0.here hx rfl (hb hby d15_0) rfl (XS.iloadN X0.here hx rfl (hb hby d15_1) rfl κ)) ?_
  obtain ⟨T23, X23, e23, st23⟩ := getS2 X0 hx hZ hown (host := "") (Or.inl (w73_ hw)) Via.refl e0 SF (g := (mkF m 2 #[vI ix, vI nn] [(.int nn), (.int ix)])) rfl (hb hby d15_2)
  refine Gl.st (g' := (mkF m 5 #[vI ix, vI nn] [ff, (.int nn), (.int ix)])) (fun τ κ => st23 _ κ) ?_
  obtain ⟨rv24, _, ⟨T24, L24, k24, n24⟩, -, X24, ⟨Lc24, hQ24, l24, y24, z24⟩, st24⟩ := Jvm.LawKit.callS X23 hx (y := (⟨"jdk/internal/util/Preconditions", "checkIndex", "(IILjava/util/function/BiFunction;)I"⟩ : MethodName)) hown (mvT hZ (w75_ hw)) (mvT hZ (w76_ hw)) (mvT hZ (w74_ hw)) (mvT hZ (w77_ hw)) (by decide) (backOf (W := 0) (rm16 l Z a0 hw [] ix nn ff h0 n0 Z0 isr_ff hi0 hin) hZ (w77_ hw) (w74_ hw) (by decide) (by decide)) (g := (mkF m 5 #[vI ix, vI nn] [ff, (.int nn), (.int ix)])) rfl (by rw [hml]; rfl) (argsL := [(.int ix), (.int nn), ff]) (rest := []) (lenOf pd_1 rfl) rfl (by show 2 * 0 + _ ≤ _; exact Nat.le_of_eq rfl) (hb hby d15_5) (fun _ _ => ⟨rfl, e23, (by decide : 0 + 0 ≤ _), (by decide : 0 + 0 ≤ _)⟩)
  dsimp only [Pt.U, Pt.locs, Pt.cells, Pt.slots] at X24 l24 y24 z24 st24 hQ24
  subst l24 y24 z24
  obtain ⟨hq24, N24q, e24⟩ := hQ24
  have hq24 : rv24 = some (.int ix) := hq24
  subst hq24
  have N24 := Fr.app N0 N24q
  refine Gl.st (g' := (mkF m 8 #[vI ix, vI nn] [(.int ix)])) (fun τ κ => st24 _ κ) ?_
  refine Gl.st (g' := (mkF m 9 #[vI ix, vI nn] [])) (fun τ κ => XS.pop X24.here hx rfl (hb hby d15_8) rfl rfl κ) ?_
  exact Gl.ret (v := none) X24 Bd.notSynchronized (fun _ => rfl) e24 (fun fs hr => X24.returnOut hx Bd.returns (hb hby d15_9) hr) (by decide) (by decide) ⟨rfl, N24, rfl⟩
theorem d14_0 : decode jdk_43_method_2_code 0 = .ok (.iload_n 1, 1) := by decide +kernel
theorem d14_1 : decode jdk_43_method_2_code 1 = .ok (.aload_n 0, 1) := by decide +kernel
theorem d14_2 : decode jdk_43_method_2_code 2 = .ok (.arraylength, 1) := by decide +kernel
theorem d14_3 : decode jdk_43_method_2_code 3 = .ok (.invokestatic 9, 3) := by decide +kernel
theorem pd_2 : parseMethodDescriptor "(II)V" = some ⟨[.int, .int], none⟩ := by decide +kernel
theorem d14_6 : decode jdk_43_method_2_code 6 = .ok (.aload_n 0, 1) := by decide +kernel
theorem d14_7 : decode jdk_43_method_2_code 7 = .ok (.iload_n 1, 1) := by decide +kernel
theorem d14_8 : decode jdk_43_method_2_code 8 = .ok (.baload, 1) := by decide +kernel
theorem d14_9 : decode jdk_43_method_2_code 9 = .ok (.sipush 255, 3) := by decide +kernel
theorem d14_12 : decode jdk_43_method_2_code 12 = .ok (.iand, 1) := by decide +kernel
theorem d14_13 : decode jdk_43_method_2_code 13 = .ok (.i2c, 1) := by decide +kernel
theorem d14_14 : decode jdk_43_method_2_code 14 = .ok (.ireturn, 1) := by decide +kernel
theorem pn_java_lang_StringLatin1 : plainName "java/lang/StringLatin1" = true := by first | (simp [plainName, overriddenIn]; done) | decide +kernel
theorem ef_rm14 (m : MethodId) (b : Addr) (ix : Int32) : entryFrame m #[(.ref b), (.int ix)] 2 = mkF m 0 #[vR b, vI ix] [] := by first | (simp [entryFrame, mkF, argsToLocals, Value.category]; done) | rfl
def Q_rm14 (Z : State) (b : Addr) (ix : Int32) (ff : Value) (kb : ClassId) (z : Int32) (vs : List Value) (yy : Int32) (h0 : Heap) (n0 : Nat) (v : Option Value) (h : Heap) (L : List Loc) : Prop := v = some (.int (own_latE yy)) ∧ Fr n0 L ∧ h = h0
set_option maxRecDepth 65536 in
set_option maxHeartbeats 40000000 in
theorem rm14 (l : Launch) (Z : State) (a0 : Array Value) (hw : ∀ d ∈ tables_1, d.before a0 Z = true) (ws : List Jvm.Cond) (b : Addr) (ix : Int32) (ff : Value) (kb : ClassId) (z : Int32) (vs : List Value) (yy : Int32) (h0 : Heap) (n0 : Nat) (Z0 : n0 ≤ h0.size) (SF : Sta Z h0 "jdk/internal/util/Preconditions" "SIOOBE_FORMATTER" "Ljava/util/function/BiFunction;" ff) (isr_ff : ff.isRef = true) (V0 : Arv Z h0 b kb .byte z vs (.int (0 : Int32))) (hi0 : ¬ ix < 0) (hin : ix < z) (hy : vs.getD ix.toNatClampNeg (.int 0) = .int yy) :
    MetFree l (⟨"java/lang/StringLatin1", "charAt", "([BI)C"⟩ : MethodName) (head1 (Jvm.Cond.code (⟨"java/lang/StringLatin1", "charAt", "([BI)C"⟩ : MethodName) jdk_43_method_2_code 2 (some .char) :: ws) ({ frames := 2, cells := 0, slots := 0, locals := 27 } : Room)) (fun aα Uα => aα = #[(.ref b), (.int ix)] ∧ Z.Warmed39 Uα.vm ∧ Uα.heap = h0) (fun _ _ _ _ _ => True) (fun _ Uα oα Uβ => ∃ vα Lα, oα = .returned vα ∧ Q_rm14 Z b ix ff kb z vs yy h0 n0 vα Uβ.heap Lα ∧ FrameEnd Uα oα Uβ Lα ({ frames := 2, cells := 0, slots := 0, locals := 27 } : Room).cells ({ frames := 2, cells := 0, slots := 0, locals := 27 } : Room).slots) := by
  refine MetFree.of_bodySF (plainFor_of_name pn_java_lang_StringLatin1) hisR ?_
  intro p e s m args below meth c s₁ Bd hml0 hP hKα
  obtain ⟨rfl, hZ, hh⟩ := hP
  have hx := Bd.exec
  have hby := Bd.bytes
  have hml : c.maxLocals = 2 := hml0
  have hown : s.vm.findClass "java/lang/StringLatin1" = some m.cls := findClass_of_methodNamed Bd.named
  have hnm := (name_of_methodNamed Bd.named Bd.method).1
  have X0 : Stand p l e ({ frames := 2, cells := 0, slots := 0, locals := 27 } : Room) s m #[(.ref b), (.int ix)] below meth c s₁ [] 0 0 := Stand.of_body Bd
  have e0 : s₁.heap = h0 := by rw [← hh, Bd.state]; rfl
  have N0 := Fr.nil n0
  suffices k0 : Gl p e below s (Q_rm14 Z b ix ff kb z vs yy h0 n0) ({ frames := 2, cells := 0, slots := 0, locals := 27 } : Room).cells ({ frames := 2, cells := 0, slots := 0, locals := 27 } : Room).slots s₁ (mkF m 0 #[vR b, vI ix] []) from Gl.st (fun τ κ => castTop (ef_rm14 m b ix) κ) k0
  refine Gl.st (g' := (mkF m 2 #[vR b, vI ix] [(.ref b), (.int ix)])) (fun τ κ => XS.iloadN X0.here hx rfl (hb hby d14_0) rfl (XS.aloadN X0.here hx rfl (hb hby d14_1) rfl rfl κ)) ?_
  obtain ⟨cl_o25, Ar_o25, q_o25, S_o25, M_o25, H_o25, G_o25⟩ := id V0
  refine Gl.st (g' := (mkF m 3 #[vR b, vI ix] [(.int z), (.int ix)])) (fun τ κ => X0.arraylength hx (by rw [e0]; exact Ar_o25.1) (State.isArrayOf_alike hZ.alike Ar_o25.2.1) (g := (mkF m 2 #[vR b, vI ix] [(.ref b), (.int ix)])) rfl rfl (hb hby d14_2) _ (by rw [len_of S_o25 M_o25]; exact κ)) ?_
  obtain ⟨rv26, _, ⟨T26, L26, k26, n26⟩, -, X26, ⟨Lc26, hQ26, l26, y26, z26⟩, st26⟩ := Jvm.LawKit.callS X0 hx (y := (⟨"java/lang/String", "checkIndex", "(II)V"⟩ : MethodName)) hown (mvT hZ (w70_ hw)) (mvT hZ (w71_ hw)) (mvT hZ (w8_ hw)) (mvT hZ (w72_ hw)) (by decide) (backOf (W := 0) (rm15 l Z a0 hw [] ix z ff h0 n0 Z0 SF isr_ff hi0 hin) hZ (w72_ hw) (w8_ hw) (by decide) (by decide)) (g := (mkF m 3 #[vR b, vI ix] [(.int z), (.int ix)])) rfl (by rw [hml]; rfl) (argsL := [(.int ix), (.int z)]) (rest := []) (lenOf pd_2 rfl) rfl (by show 2 * 0 + _ ≤ _; exact Nat.le_of_eq rfl) (hb hby d14_3) (fun _ _ => ⟨rfl, e0, (by decide : 0 + 0 ≤ _), (by decide : 0 + 0 ≤ _)⟩)
  dsimp only [Pt.U, Pt.locs, Pt.cells, Pt.slots] at X26 l26 y26 z26 st26 hQ26
  subst l26 y26 z26
  obtain ⟨hq26, N26q, e26⟩ := hQ26
  subst hq26
  have N26 := Fr.app N0 N26q
  refine Gl.st (g' := (mkF m 6 #[vR b, vI ix] [])) (fun τ κ => st26 _ κ) ?_
  refine Gl.st (g' := (mkF m 8 #[vR b, vI ix] [(.int ix), (.ref b)])) (fun τ κ => XS.aloadN X26.here hx rfl (hb hby d14_6) rfl rfl (XS.iloadN X26.here hx rfl (hb hby d14_7) rfl κ)) ?_
  obtain ⟨cl_o27, Ar_o27, q_o27, S_o27, M_o27, H_o27, G_o27⟩ := id V0
  have hin_o27 : ¬ (ix < 0 ∨ cl_o27.slots.size ≤ (ix).toNatClampNeg) := inb_of S_o27 ⟨hi0, hin⟩
  refine Gl.st (g' := (mkF m 9 #[vR b, vI ix] [(.int yy)])) (fun τ κ => X26.baloadBytes hx (j := ix) (v := (.int yy)) (by rw [e26]; exact Ar_o27.1) (State.isArrayOf_alike hZ.alike Ar_o27.2.1) Ar_o27.2.2 hin_o27 ((H_o27 _ (Nat.lt_of_not_le fun q => hin_o27 (Or.inr q))).trans (congrArg some hy)) (g := (mkF m 8 #[vR b, vI ix] [(.int ix), (.ref b)])) rfl rfl (hb hby d14_8) _ κ) ?_
  refine Gl.st (g' := (mkF m 13 #[vR b, vI ix] [(.int (yy &&& (255 : Int32)))])) (fun τ κ => XS.sipush X26.here hx rfl (hb hby d14_9) (XS.iand X26.here hx rfl (hb hby d14_12) rfl κ)) ?_
  refine Gl.st (g' := (mkF m 14 #[vR b, vI ix] [(.int ((yy &&& (255 : Int32)).toUInt32.toUInt16.toUInt32.toInt32))])) (fun τ κ => XS.i2c X26.here hx rfl (hb hby d14_13) rfl κ) ?_
  exact Gl.ret (v := some (.int (nar .char ((yy &&& (255 : Int32)).toUInt32.toUInt16.toUInt32.toInt32)))) X26 Bd.notSynchronized (fun h => by rw [Bd.returns] at h; cases h) e26 (fun fs hr => retN X26 hx (t := .char) Bd.returns (by simp) (hb hby d14_14) hr) (by decide) (by decide) ⟨rfl, N26, rfl⟩
theorem d24_0 : decode jdk_52_method_6_code 0 = .ok (.aload_n 0, 1) := by decide +kernel
theorem d24_1 : decode jdk_52_method_6_code 1 = .ok (.arraylength, 1) := by decide +kernel
theorem d24_2 : decode jdk_52_method_6_code 2 = .ok (.iconst 1, 1) := by decide +kernel
theorem d24_3 : decode jdk_52_method_6_code 3 = .ok (.ishr, 1) := by decide +kernel
theorem d24_4 : decode jdk_52_method_6_code 4 = .ok (.ireturn, 1) := by decide +kernel
theorem pn_java_lang_StringUTF16 : plainName "java/lang/StringUTF16" = true := by first | (simp [plainName, overriddenIn]; done) | decide +kernel
theorem ef_rm24 (m : MethodId) (b : Addr) : entryFrame m #[(.ref b)] 1 = mkF m 0 #[vR b] [] := by first | (simp [entryFrame, mkF, argsToLocals, Value.category]; done) | rfl
def Q_rm24 (Z : State) (b : Addr) (kb : ClassId) (z : Int32) (vs : List Value) (h0 : Heap) (n0 : Nat) (v : Option Value) (h : Heap) (L : List Loc) : Prop := v = some (.int (z >>> ((1 : Int32) &&& 31))) ∧ Fr n0 L ∧ h = h0
set_option maxRecDepth 65536 in
set_option maxHeartbeats 40000000 in
theorem rm24 (l : Launch) (Z : State) (a0 : Array Value) (hw : ∀ d ∈ tables_1, d.before a0 Z = true) (ws : List Jvm.Cond) (b : Addr) (kb : ClassId) (z : Int32) (vs : List Value) (h0 : Heap) (n0 : Nat) (Z0 : n0 ≤ h0.size) (V0 : Arv Z h0 b kb .byte z vs (.int (0 : Int32))) :
    MetFree l (⟨"java/lang/StringUTF16", "length", "([B)I"⟩ : MethodName) (head1 (Jvm.Cond.code (⟨"java/lang/StringUTF16", "length", "([B)I"⟩ : MethodName) jdk_52_method_6_code 1 (some .int) :: ws) ({ frames := 0, cells := 0, slots := 0, locals := 0 } : Room)) (fun aα Uα => aα = #[(.ref b)] ∧ Z.Warmed39 Uα.vm ∧ Uα.heap = h0) (fun _ _ _ _ _ => True) (fun _ Uα oα Uβ => ∃ vα Lα, oα = .returned vα ∧ Q_rm24 Z b kb z vs h0 n0 vα Uβ.heap Lα ∧ FrameEnd Uα oα Uβ Lα ({ frames := 0, cells := 0, slots := 0, locals := 0 } : Room).cells ({ frames := 0, cells := 0, slots := 0, locals := 0 } : Room).slots) := by
  refine MetFree.of_bodySF (plainFor_of_name pn_java_lang_StringUTF16) hisR ?_
  intro p e s m args below meth c s₁ Bd hml0 hP hKα
  obtain ⟨rfl, hZ, hh⟩ := hP
  have hx := Bd.exec
  have hby := Bd.bytes
  have hml : c.maxLocals = 1 := hml0
  have hown : s.vm.findClass "java/lang/StringUTF16" = some m.cls := findClass_of_methodNamed Bd.named
  have hnm := (name_of_methodNamed Bd.named Bd.method).1
  have X0 : Stand p l e ({ frames := 0, cells := 0, slots := 0, locals := 0 } : Room) s m #[(.ref b)] below meth c s₁ [] 0 0 := Stand.of_body Bd
  have e0 : s₁.heap = h0 := by rw [← hh, Bd.state]; rfl
  have N0 := Fr.nil n0
  suffices k0 : Gl p e below s (Q_rm24 Z b kb z vs h0 n0) ({ frames := 0, cells := 0, slots := 0, locals := 0 } : Room).cells ({ frames := 0, cells := 0, slots := 0, locals := 0 } : Room).slots s₁ (mkF m 0 #[vR b] []) from Gl.st (fun τ κ => castTop (ef_rm24 m b) κ) k0
  refine Gl.st (g' := (mkF m 1 #[vR b] [(.ref b)])) (fun τ κ => XS.aloadN X0.here hx rfl (hb hby d24_0) rfl rfl κ) ?_
  obtain ⟨cl_o28, Ar_o28, q_o28, S_o28, M_o28, H_o28, G_o28⟩ := id V0
  refine Gl.st (g' := (mkF m 2 #[vR b] [(.int z)])) (fun τ κ => X0.arraylength hx (by rw [e0]; exact Ar_o28.1) (State.isArrayOf_alike hZ.alike Ar_o28.2.1) (g := (mkF m 1 #[vR b] [(.ref b)])) rfl rfl (hb hby d24_1) _ (by rw [len_of S_o28 M_o28]; exact κ)) ?_
  refine Gl.st (g' := (mkF m 4 #[vR b] [(.int (z >>> ((1 : Int32) &&& 31)))])) (fun τ κ => XS.iconst X0.here hx rfl (hb hby d24_2) (XS.ishr X0.here hx rfl (hb hby d24_3) rfl κ)) ?_
  exact Gl.ret (v := some (.int (z >>> ((1 : Int32) &&& 31)))) X0 Bd.notSynchronized (fun h => by rw [Bd.returns] at h; cases h) e0 (fun fs hr => retI X0 hx Bd.returns (hb hby d24_4) hr) (by decide) (by decide) ⟨rfl, N0, rfl⟩
theorem d23_0 : decode jdk_52_method_91_code 0 = .ok (.iload_n 0, 1) := by decide +kernel
theorem d23_1 : decode jdk_52_method_91_code 1 = .ok (.aload_n 1, 1) := by decide +kernel
theorem d23_2 : decode jdk_52_method_91_code 2 = .ok (.invokestatic 48, 3) := by decide +kernel
theorem pd_3 : parseMethodDescriptor "([B)I" = some ⟨[(.array .byte)], some .int⟩ := by decide +kernel
theorem d23_5 : decode jdk_52_method_91_code 5 = .ok (.invokestatic 414, 3) := by decide +kernel
theorem d23_8 : decode jdk_52_method_91_code 8 = .ok (.return_, 1) := by decide +kernel
theorem ef_rm23 (m : MethodId) (ix : Int32) (b : Addr) : entryFrame m #[(.int ix), (.ref b)] 2 = mkF m 0 #[vI ix, vR b] [] := by first | (simp [entryFrame, mkF, argsToLocals, Value.category]; done) | rfl
def Q_rm23 (Z : State) (ix : Int32) (b : Addr) (ff : Value) (kb : ClassId) (z : Int32) (vs : List Value) (h0 : Heap) (n0 : Nat) (v : Option Value) (h : Heap) (L : List Loc) : Prop := v = none ∧ Fr n0 L ∧ h = h0
set_option maxRecDepth 65536 in
set_option maxHeartbeats 40000000 in
theorem rm23 (l : Launch) (Z : State) (a0 : Array Value) (hw : ∀ d ∈ tables_1, d.before a0 Z = true) (ws : List Jvm.Cond) (ix : Int32) (b : Addr) (ff : Value) (kb : ClassId) (z : Int32) (vs : List Value) (h0 : Heap) (n0 : Nat) (Z0 : n0 ≤ h0.size) (SF : Sta Z h0 "jdk/internal/util/Preconditions" "SIOOBE_FORMATTER" "Ljava/util/function/BiFunction;" ff) (isr_ff : ff.isRef = true) (V0 : Arv Z h0 b kb .byte z vs (.int (0 : Int32))) (hi0 : ¬ ix < 0) (hin : ix < (z >>> ((1 : Int32) &&& 31))) :
    MetFree l (⟨"java/lang/StringUTF16", "checkIndex", "(I[B)V"⟩ : MethodName) (head1 (Jvm.Cond.code (⟨"java/lang/StringUTF16", "checkIndex", "(I[B)V"⟩ : MethodName) jdk_52_method_91_code 2 none :: ws) ({ frames := 2, cells := 0, slots := 0, locals := 27 } : Room)) (fun aα Uα => aα = #[(.int ix), (.ref b)] ∧ Z.Warmed39 Uα.vm ∧ Uα.heap = h0) (fun _ _ _ _ _ => True) (fun _ Uα oα Uβ => ∃ vα Lα, oα = .returned vα ∧ Q_rm23 Z ix b ff kb z vs h0 n0 vα Uβ.heap Lα ∧ FrameEnd Uα oα Uβ Lα ({ frames := 2, cells := 0, slots := 0, locals := 27 } : Room).cells ({ frames := 2, cells := 0, slots := 0, locals := 27 } : Room).slots) := by
  refine MetFree.of_bodySF (plainFor_of_name pn_java_lang_StringUTF16) hisR ?_
  intro p e s m args below meth c s₁ Bd hml0 hP hKα
  obtain ⟨rfl, hZ, hh⟩ := hP
  have hx := Bd.exec
  have hby := Bd.bytes
  have hml : c.maxLocals = 2 := hml0
  have hown : s.vm.findClass "java/lang/StringUTF16" = some m.cls := findClass_of_methodNamed Bd.named
  have hnm := (name_of_methodNamed Bd.named Bd.method).1
  have X0 : Stand p l e ({ frames := 2, cells := 0, slots := 0, locals := 27 } : Room) s m #[(.int ix), (.ref b)] below meth c s₁ [] 0 0 := Stand.of_body Bd
  have e0 : s₁.heap = h0 := by rw [← hh, Bd.state]; rfl
  have N0 := Fr.nil n0
  suffices k0 : Gl p e below s (Q_rm23 Z ix b ff kb z vs h0 n0) ({ frames := 2, cells := 0, slots := 0, locals := 27 } : Room).cells ({ frames := 2, cells := 0, slots := 0, locals := 27 } : Room).slots s₁ (mkF m 0 #[vI ix, vR b] []) from Gl.st (fun τ κ => castTop (ef_rm23 m ix b) κ) k0
  refine Gl.st (g' := (mkF m 2 #[vI ix, vR b] [(.ref b), (.int ix)])) (fun τ κ => XS.iloadN X0.here hx rfl (hb hby d23_0) rfl (XS.aloadN X0.here hx rfl (hb hby d23_1) rfl rfl κ)) ?_
  obtain ⟨rv29, _, ⟨T29, L29, k29, n29⟩, -, X29, ⟨Lc29, hQ29, l29, y29, z29⟩, st29⟩ := Jvm.LawKit.callS X0 hx (y := (⟨"java/lang/StringUTF16", "length", "([B)I"⟩ : MethodName)) hown (mvT hZ (w103_ hw)) (mvT hZ (w104_ hw)) (mvT hZ (w45_ hw)) (mvT hZ (w105_ hw)) (by decide) (backOf (W := 1) (rm24 l Z a0 hw [] b kb z vs h0 n0 Z0 V0) hZ (w105_ hw) (w45_ hw) (by decide) (by decide)) (g := (mkF m 2 #[vI ix, vR b] [(.ref b), (.int ix)])) rfl (by rw [hml]; rfl) (argsL := [(.ref b)]) (rest := [(.int ix)]) (lenOf pd_3 rfl) rfl (by show 2 * 0 + _ ≤ _; exact Nat.le_of_eq rfl) (hb hby d23_2) (fun _ _ => ⟨rfl, e0, (by decide : 0 + 0 ≤ _), (by decide : 0 + 0 ≤ _)⟩)
  dsimp only [Pt.U, Pt.locs, Pt.cells, Pt.slots] at X29 l29 y29 z29 st29 hQ29
  subst l29 y29 z29
  obtain ⟨hq29, N29q, e29⟩ := hQ29
  have hq29 : rv29 = some (.int (z >>> ((1 : Int32) &&& 31))) := hq29
  subst hq29
  have N29 := Fr.app N0 N29q
  refine Gl.st (g' := (mkF m 5 #[vI ix, vR b] [(.int (z >>> ((1 : Int32) &&& 31))), (.int ix)])) (fun τ κ => st29 _ κ) ?_
  obtain ⟨rv30, _, ⟨T30, L30, k30, n30⟩, -, X30, ⟨Lc30, hQ30, l30, y30, z30⟩, st30⟩ := Jvm.LawKit.callS X29 hx (y := (⟨"java/lang/String", "checkIndex", "(II)V"⟩ : MethodName)) hown (mvT hZ (w106_ hw)) (mvT hZ (w71_ hw)) (mvT hZ (w8_ hw)) (mvT hZ (w72_ hw)) (by decide) (backOf (W := 0) (rm15 l Z a0 hw [] ix (z >>> ((1 : Int32) &&& 31)) ff h0 n0 Z0 SF isr_ff hi0 hin) hZ (w72_ hw) (w8_ hw) (by decide) (by decide)) (g := (mkF m 5 #[vI ix, vR b] [(.int (z >>> ((1 : Int32) &&& 31))), (.int ix)])) rfl (by rw [hml]; rfl) (argsL := [(.int ix), (.int (z >>> ((1 : Int32) &&& 31)))]) (rest := []) (lenOf pd_2 rfl) rfl (by show 2 * 0 + _ ≤ _; exact Nat.le_of_eq rfl) (hb hby d23_5) (fun _ _ => ⟨rfl, e29, (by decide : 0 + 0 ≤ _), (by decide : 0 + 0 ≤ _)⟩)
  dsimp only [Pt.U, Pt.locs, Pt.cells, Pt.slots] at X30 l30 y30 z30 st30 hQ30
  subst l30 y30 z30
  obtain ⟨hq30, N30q, e30⟩ := hQ30
  subst hq30
  have N30 := Fr.app N29 N30q
  refine Gl.st (g' := (mkF m 8 #[vI ix, vR b] [])) (fun τ κ => st30 _ κ) ?_
  exact Gl.ret (v := none) X30 Bd.notSynchronized (fun _ => rfl) e30 (fun fs hr => X30.returnOut hx Bd.returns (hb hby d23_8) hr) (by decide) (by decide) ⟨rfl, N30, rfl⟩
theorem d21_0 : decode jdk_52_method_5_code 0 = .ok (.getstatic 44, 3) := by decide +kernel
theorem d21_3 : decode jdk_52_method_5_code 3 = .ok (.ifCond .ne 25, 3) := by decide +kernel
theorem d21_28 : decode jdk_52_method_5_code 28 = .ok (.iload_n 1, 1) := by decide +kernel
theorem d21_29 : decode jdk_52_method_5_code 29 = .ok (.iconst 1, 1) := by decide +kernel
theorem d21_30 : decode jdk_52_method_5_code 30 = .ok (.ishl, 1) := by decide +kernel
theorem d21_31 : decode jdk_52_method_5_code 31 = .ok (.istore_n 1, 1) := by decide +kernel
theorem d21_32 : decode jdk_52_method_5_code 32 = .ok (.aload_n 0, 1) := by decide +kernel
theorem d21_33 : decode jdk_52_method_5_code 33 = .ok (.iload_n 1, 1) := by decide +kernel
theorem d21_34 : decode jdk_52_method_5_code 34 = .ok (.iinc 1 1, 3) := by decide +kernel
theorem d21_37 : decode jdk_52_method_5_code 37 = .ok (.baload, 1) := by decide +kernel
theorem d21_38 : decode jdk_52_method_5_code 38 = .ok (.sipush 255, 3) := by decide +kernel
theorem d21_41 : decode jdk_52_method_5_code 41 = .ok (.iand, 1) := by decide +kernel
theorem d21_42 : decode jdk_52_method_5_code 42 = .ok (.getstatic 59, 3) := by decide +kernel
theorem d21_45 : decode jdk_52_method_5_code 45 = .ok (.ishl, 1) := by decide +kernel
theorem d21_46 : decode jdk_52_method_5_code 46 = .ok (.aload_n 0, 1) := by decide +kernel
theorem d21_47 : decode jdk_52_method_5_code 47 = .ok (.iload_n 1, 1) := by decide +kernel
theorem d21_48 : decode jdk_52_method_5_code 48 = .ok (.baload, 1) := by decide +kernel
theorem d21_49 : decode jdk_52_method_5_code 49 = .ok (.sipush 255, 3) := by decide +kernel
theorem d21_52 : decode jdk_52_method_5_code 52 = .ok (.iand, 1) := by decide +kernel
theorem d21_53 : decode jdk_52_method_5_code 53 = .ok (.getstatic 63, 3) := by decide +kernel
theorem d21_56 : decode jdk_52_method_5_code 56 = .ok (.ishl, 1) := by decide +kernel
theorem d21_57 : decode jdk_52_method_5_code 57 = .ok (.ior, 1) := by decide +kernel
theorem d21_58 : decode jdk_52_method_5_code 58 = .ok (.i2c, 1) := by decide +kernel
theorem d21_59 : decode jdk_52_method_5_code 59 = .ok (.ireturn, 1) := by decide +kernel
theorem ef_rm21 (m : MethodId) (b : Addr) (ix : Int32) : entryFrame m #[(.ref b), (.int ix)] 2 = mkF m 0 #[vR b, vI ix] [] := by first | (simp [entryFrame, mkF, argsToLocals, Value.category]; done) | rfl
def Q_rm21 (Z : State) (b : Addr) (ix : Int32) (kb : ClassId) (z : Int32) (vs : List Value) (yy yz : Int32) (h0 : Heap) (n0 : Nat) (v : Option Value) (h : Heap) (L : List Loc) : Prop := v = some (.int (own_u16E yy yz)) ∧ Fr n0 L ∧ h = h0
set_option maxRecDepth 65536 in
set_option maxHeartbeats 40000000 in
theorem rm21 (l : Launch) (Z : State) (a0 : Array Value) (hw : ∀ d ∈ tables_1, d.before a0 Z = true) (ws : List Jvm.Cond) (b : Addr) (ix : Int32) (kb : ClassId) (z : Int32) (vs : List Value) (yy yz : Int32) (h0 : Heap) (n0 : Nat) (Z0 : n0 ≤ h0.size) (SA : Sta Z h0 "java/lang/StringUTF16" "$assertionsDisabled" "Z" (.int (1 : Int32))) (SH : Sta Z h0 "java/lang/StringUTF16" "HI_BYTE_SHIFT" "I" (.int (0 : Int32))) (SL : Sta Z h0 "java/lang/StringUTF16" "LO_BYTE_SHIFT" "I" (.int (8 : Int32))) (V0 : Arv Z h0 b kb .byte z vs (.int (0 : Int32))) (h1 : ¬ (ix <<< ((1 : Int32) &&& 31)) < 0 ∧ (ix <<< ((1 : Int32) &&& 31)) < z) (h2 : ¬ ((ix <<< ((1 : Int32) &&& 31)) + (1 : Int32)) < 0 ∧ ((ix <<< ((1 : Int32) &&& 31)) + (1 : Int32)) < z) (hy : vs.getD ((ix <<< ((1 : Int32) &&& 31))).toNatClampNeg (.int 0) = .int yy) (hy' : vs.getD (((ix <<< ((1 : Int32) &&& 31)) + (1 : Int32))).toNatClampNeg (.int 0) = .int yz) :
    MetFree l (⟨"java/lang/StringUTF16", "getChar", "([BI)C"⟩ : MethodName) (head1 (Jvm.Cond.code (⟨"java/lang/StringUTF16", "getChar", "([BI)C"⟩ : MethodName) jdk_52_method_5_code 2 (some .char) :: ws) ({ frames := 0, cells := 0, slots := 0, locals := 0 } : Room)) (fun aα Uα => aα = #[(.ref b), (.int ix)] ∧ Z.Warmed39 Uα.vm ∧ Uα.heap = h0) (fun _ _ _ _ _ => True) (fun _ Uα oα Uβ => ∃ vα Lα, oα = .returned vα ∧ Q_rm21 Z b ix kb z vs yy yz h0 n0 vα Uβ.heap Lα ∧ FrameEnd Uα oα Uβ Lα ({ frames := 0, cells := 0, slots := 0, locals := 0 } : Room).cells ({ frames := 0, cells := 0, slots := 0, locals := 0 } : Room).slots) := by
  refine MetFree.of_bodySF (plainFor_of_name pn_java_lang_StringUTF16) hisR ?_
  intro p e s m args below meth c s₁ Bd hml0 hP hKα
  obtain ⟨rfl, hZ, hh⟩ := hP
  have hx := Bd.exec
  have hby := Bd.bytes
  have hml : c.maxLocals = 2 := hml0
  have hown : s.vm.findClass "java/lang/StringUTF16" = some m.cls := findClass_of_methodNamed Bd.named
  have hnm := (name_of_methodNamed Bd.named Bd.method).1
  have X0 : Stand p l e ({ frames := 0, cells := 0, slots := 0, locals := 0 } : Room) s m #[(.ref b), (.int ix)] below meth c s₁ [] 0 0 := Stand.of_body Bd
  have e0 : s₁.heap = h0 := by rw [← hh, Bd.state]; rfl
  have N0 := Fr.nil n0
  suffices k0 : Gl p e below s (Q_rm21 Z b ix kb z vs yy yz h0 n0) ({ frames := 0, cells := 0, slots := 0, locals := 0 } : Room).cells ({ frames := 0, cells := 0, slots := 0, locals := 0 } : Room).slots s₁ (mkF m 0 #[vR b, vI ix] []) from Gl.st (fun τ κ => castTop (ef_rm21 m b ix) κ) k0
  obtain ⟨T31, X31, e31, st31⟩ := getS2 X0 hx hZ hown (host := "") (Or.inl (w91_ hw)) Via.refl e0 SA (g := (mkF m 0 #[vR b, vI ix] [])) rfl (hb hby d21_0)
  refine Gl.st (g' := (mkF m 3 #[vR b, vI ix] [(.int (1 : Int32))])) (fun τ κ => st31 _ κ) ?_
  have hc32 : ¬ ((1 : Int32) = (0 : Int32)) := by decide
  refine Gl.st (g' := (mkF m 29 #[vR b, vI ix] [(.int ix)])) (fun τ κ => XS.ifYes X31.here hx rfl (pc0 := 3) (pc' := 28) rfl (hb hby d21_3) rfl ((if0 _ _).trans (feq hc32).2) (by decide) (by decide) (XS.iloadN X31.here hx rfl (hb hby d21_28) rfl κ)) ?_
  refine Gl.st (g' := (mkF m 31 #[vR b, vI ix] [(.int (ix <<< ((1 : Int32) &&& 31)))])) (fun τ κ => XS.iconst X31.here hx rfl (hb hby d21_29) (XS.ishl X31.here hx rfl (hb hby d21_30) rfl κ)) ?_
  refine Gl.st (g' := (mkF m 33 #[vR b, vI (ix <<< ((1 : Int32) &&& 31))] [(.ref b)])) (fun τ κ => XS.istoreN X31.here hx rfl (hb hby d21_31) rfl (l' := #[vR b, vI (ix <<< ((1 : Int32) &&& 31))]) rfl (XS.aloadN X31.here hx rfl (hb hby d21_32) rfl rfl κ)) ?_
  refine Gl.st (g' := (mkF m 37 #[vR b, vI ((ix <<< ((1 : Int32) &&& 31)) + (1 : Int32))] [(.int (ix <<< ((1 : Int32) &&& 31))), (.ref b)])) (fun τ κ => XS.iloadN X31.here hx rfl (hb hby d21_33) rfl (XS.iinc X31.here hx rfl (hb hby d21_34) rfl (l' := #[vR b, vI ((ix <<< ((1 : Int32) &&& 31)) + (1 : Int32))]) rfl κ)) ?_
  obtain ⟨cl_o33, Ar_o33, q_o33, S_o33, M_o33, H_o33, G_o33⟩ := id V0
  have hin_o33 : ¬ ((ix <<< ((1 : Int32) &&& 31)) < 0 ∨ cl_o33.slots.size ≤ ((ix <<< ((1 : Int32) &&& 31))).toNatClampNeg) := inb_of S_o33 h1
  refine Gl.st (g' := (mkF m 38 #[vR b, vI ((ix <<< ((1 : Int32) &&& 31)) + (1 : Int32))] [(.int yy)])) (fun τ κ => X31.baloadBytes hx (j := (ix <<< ((1 : Int32) &&& 31))) (v := (.int yy)) (by rw [e31]; exact Ar_o33.1) (State.isArrayOf_alike hZ.alike Ar_o33.2.1) Ar_o33.2.2 hin_o33 ((H_o33 _ (Nat.lt_of_not_le fun q => hin_o33 (Or.inr q))).trans (congrArg some hy)) (g := (mkF m 37 #[vR b, vI ((ix <<< ((1 : Int32) &&& 31)) + (1 : Int32))] [(.int (ix <<< ((1 : Int32) &&& 31))), (.ref b)])) rfl rfl (hb hby d21_37) _ κ) ?_
  refine Gl.st (g' := (mkF m 42 #[vR b, vI ((ix <<< ((1 : Int32) &&& 31)) + (1 : Int32))] [(.int (yy &&& (255 : Int32)))])) (fun τ κ => XS.sipush X31.here hx rfl (hb hby d21_38) (XS.iand X31.here hx rfl (hb hby d21_41) rfl κ)) ?_
  obtain ⟨T34, X34, e34, st34⟩ := getS2 X31 hx hZ hown (host := "") (Or.inl (w92_ hw)) Via.refl e31 SH (g := (mkF m 42 #[vR b, vI ((ix <<< ((1 : Int32) &&& 31)) + (1 : Int32))] [(.int (yy &&& (255 : Int32)))])) rfl (hb hby d21_42)
  refine Gl.st (g' := (mkF m 45 #[vR b, vI ((ix <<< ((1 : Int32) &&& 31)) + (1 : Int32))] [(.int (0 : Int32)), (.int (yy &&& (255 : Int32)))])) (fun τ κ => st34 _ κ) ?_
  refine Gl.st (g' := (mkF m 47 #[vR b, vI ((ix <<< ((1 : Int32) &&& 31)) + (1 : Int32))] [(.ref b), (.int ((yy &&& (255 : Int32)) <<< ((0 : Int32) &&& 31)))])) (fun τ κ => XS.ishl X34.here hx rfl (hb hby d21_45) rfl (XS.aloadN X34.here hx rfl (hb hby d21_46) rfl rfl κ)) ?_
  refine Gl.st (g' := (mkF m 48 #[vR b, vI ((ix <<< ((1 : Int32) &&& 31)) + (1 : Int32))] [(.int ((ix <<< ((1 : Int32) &&& 31)) + (1 : Int32))), (.ref b), (.int ((yy &&& (255 : Int32)) <<< ((0 : Int32) &&& 31)))])) (fun τ κ => XS.iloadN X34.here hx rfl (hb hby d21_47) rfl κ) ?_
  obtain ⟨cl_o35, Ar_o35, q_o35, S_o35, M_o35, H_o35, G_o35⟩ := id V0
  have hin_o35 : ¬ (((ix <<< ((1 : Int32) &&& 31)) + (1 : Int32)) < 0 ∨ cl_o35.slots.size ≤ (((ix <<< ((1 : Int32) &&& 31)) + (1 : Int32))).toNatClampNeg) := inb_of S_o35 h2
  refine Gl.st (g' := (mkF m 49 #[vR b, vI ((ix <<< ((1 : Int32) &&& 31)) + (1 : Int32))] [(.int yz), (.int ((yy &&& (255 : Int32)) <<< ((0 : Int32) &&& 31)))])) (fun τ κ => X34.baloadBytes hx (j := ((ix <<< ((1 : Int32) &&& 31)) + (1 : Int32))) (v := (.int yz)) (by rw [e34]; exact Ar_o35.1) (State.isArrayOf_alike hZ.alike Ar_o35.2.1) Ar_o35.2.2 hin_o35 ((H_o35 _ (Nat.lt_of_not_le fun q => hin_o35 (Or.inr q))).trans (congrArg some hy')) (g := (mkF m 48 #[vR b, vI ((ix <<< ((1 : Int32) &&& 31)) + (1 : Int32))] [(.int ((ix <<< ((1 : Int32) &&& 31)) + (1 : Int32))), (.ref b), (.int ((yy &&& (255 : Int32)) <<< ((0 : Int32) &&& 31)))])) rfl rfl (hb hby d21_48) _ κ) ?_
  refine Gl.st (g' := (mkF m 53 #[vR b, vI ((ix <<< ((1 : Int32) &&& 31)) + (1 : Int32))] [(.int (yz &&& (255 : Int32))), (.int ((yy &&& (255 : Int32)) <<< ((0 : Int32) &&& 31)))])) (fun τ κ => XS.sipush X34.here hx rfl (hb hby d21_49) (XS.iand X34.here hx rfl (hb hby d21_52) rfl κ)) ?_
  obtain ⟨T36, X36, e36, st36⟩ := getS2 X34 hx hZ hown (host := "") (Or.inl (w93_ hw)) Via.refl e34 SL (g := (mkF m 53 #[vR b, vI ((ix <<< ((1 : Int32) &&& 31)) + (1 : Int32))] [(.int (yz &&& (255 : Int32))), (.int ((yy &&& (255 : Int32)) <<< ((0 : Int32) &&& 31)))])) rfl (hb hby d21_53)
  refine Gl.st (g' := (mkF m 56 #[vR b, vI ((ix <<< ((1 : Int32) &&& 31)) + (1 : Int32))] [(.int (8 : Int32)), (.int (yz &&& (255 : Int32))), (.int ((yy &&& (255 : Int32)) <<< ((0 : Int32) &&& 31)))])) (fun τ κ => st36 _ κ) ?_
  refine Gl.st (g' := (mkF m 58 #[vR b, vI ((ix <<< ((1 : Int32) &&& 31)) + (1 : Int32))] [(.int (((yy &&& (255 : Int32)) <<< ((0 : Int32) &&& 31)) ||| ((yz &&& (255 : Int32)) <<< ((8 : Int32) &&& 31))))])) (fun τ κ => XS.ishl X36.here hx rfl (hb hby d21_56) rfl (XS.ior X36.here hx rfl (hb hby d21_57) rfl κ)) ?_
  refine Gl.st (g' := (mkF m 59 #[vR b, vI ((ix <<< ((1 : Int32) &&& 31)) + (1 : Int32))] [(.int ((((yy &&& (255 : Int32)) <<< ((0 : Int32) &&& 31)) ||| ((yz &&& (255 : Int32)) <<< ((8 : Int32) &&& 31))).toUInt32.toUInt16.toUInt32.toInt32))])) (fun τ κ => XS.i2c X36.here hx rfl (hb hby d21_58) rfl κ) ?_
  exact Gl.ret (v := some (.int (nar .char ((((yy &&& (255 : Int32)) <<< ((0 : Int32) &&& 31)) ||| ((yz &&& (255 : Int32)) <<< ((8 : Int32) &&& 31))).toUInt32.toUInt16.toUInt32.toInt32)))) X36 Bd.notSynchronized (fun h => by rw [Bd.returns] at h; cases h) e36 (fun fs hr => retN X36 hx (t := .char) Bd.returns (by simp) (hb hby d21_59) hr) (by decide) (by decide) ⟨rfl, N0, rfl⟩
theorem d22_0 : decode jdk_52_method_83_code 0 = .ok (.iload_n 1, 1) := by decide +kernel
theorem d22_1 : decode jdk_52_method_83_code 1 = .ok (.aload_n 0, 1) := by decide +kernel
theorem d22_2 : decode jdk_52_method_83_code 2 = .ok (.invokestatic 67, 3) := by decide +kernel
theorem pd_4 : parseMethodDescriptor "(I[B)V" = some ⟨[.int, (.array .byte)], none⟩ := by decide +kernel
theorem d22_5 : decode jdk_52_method_83_code 5 = .ok (.aload_n 0, 1) := by decide +kernel
theorem d22_6 : decode jdk_52_method_83_code 6 = .ok (.iload_n 1, 1) := by decide +kernel
theorem d22_7 : decode jdk_52_method_83_code 7 = .ok (.invokestatic 71, 3) := by decide +kernel
theorem pd_5 : parseMethodDescriptor "([BI)C" = some ⟨[(.array .byte), .int], some .char⟩ := by decide +kernel
theorem d22_10 : decode jdk_52_method_83_code 10 = .ok (.ireturn, 1) := by decide +kernel
theorem ef_rm22 (m : MethodId) (b : Addr) (ix : Int32) : entryFrame m #[(.ref b), (.int ix)] 2 = mkF m 0 #[vR b, vI ix] [] := by first | (simp [entryFrame, mkF, argsToLocals, Value.category]; done) | rfl
def Q_rm22 (Z : State) (b : Addr) (ix : Int32) (ff : Value) (kb : ClassId) (z : Int32) (vs : List Value) (yy yz : Int32) (h0 : Heap) (n0 : Nat) (v : Option Value) (h : Heap) (L : List Loc) : Prop := v = some (.int (own_u16E yy yz)) ∧ Fr n0 L ∧ h = h0
set_option maxRecDepth 65536 in
set_option maxHeartbeats 40000000 in
theorem rm22 (l : Launch) (Z : State) (a0 : Array Value) (hw : ∀ d ∈ tables_1, d.before a0 Z = true) (ws : List Jvm.Cond) (b : Addr) (ix : Int32) (ff : Value) (kb : ClassId) (z : Int32) (vs : List Value) (yy yz : Int32) (h0 : Heap) (n0 : Nat) (Z0 : n0 ≤ h0.size) (SA : Sta Z h0 "java/lang/StringUTF16" "$assertionsDisabled" "Z" (.int (1 : Int32))) (SH : Sta Z h0 "java/lang/StringUTF16" "HI_BYTE_SHIFT" "I" (.int (0 : Int32))) (SL : Sta Z h0 "java/lang/StringUTF16" "LO_BYTE_SHIFT" "I" (.int (8 : Int32))) (SF : Sta Z h0 "jdk/internal/util/Preconditions" "SIOOBE_FORMATTER" "Ljava/util/function/BiFunction;" ff) (isr_ff : ff.isRef = true) (V0 : Arv Z h0 b kb .byte z vs (.int (0 : Int32))) (hi0 : ¬ ix < 0) (hin : ix < (z >>> ((1 : Int32) &&& 31))) (h1 : ¬ (ix <<< ((1 : Int32) &&& 31)) < 0 ∧ (ix <<< ((1 : Int32) &&& 31)) < z) (h2 : ¬ ((ix <<< ((1 : Int32) &&& 31)) + (1 : Int32)) < 0 ∧ ((ix <<< ((1 : Int32) &&& 31)) + (1 : Int32)) < z) (hy : vs.getD ((ix <<< ((1 : Int32) &&& 31))).toNatClampNeg (.int 0) = .int yy) (hy' : vs.getD (((ix <<< ((1 : Int32) &&& 31)) + (1 : Int32))).toNatClampNeg (.int 0) = .int yz) :
    MetFree l (⟨"java/lang/StringUTF16", "charAt", "([BI)C"⟩ : MethodName) (head1 (Jvm.Cond.code (⟨"java/lang/StringUTF16", "charAt", "([BI)C"⟩ : MethodName) jdk_52_method_83_code 2 (some .char) :: ws) ({ frames := 3, cells := 0, slots := 0, locals := 40 } : Room)) (fun aα Uα => aα = #[(.ref b), (.int ix)] ∧ Z.Warmed39 Uα.vm ∧ Uα.heap = h0) (fun _ _ _ _ _ => True) (fun _ Uα oα Uβ => ∃ vα Lα, oα = .returned vα ∧ Q_rm22 Z b ix ff kb z vs yy yz h0 n0 vα Uβ.heap Lα ∧ FrameEnd Uα oα Uβ Lα ({ frames := 3, cells := 0, slots := 0, locals := 40 } : Room).cells ({ frames := 3, cells := 0, slots := 0, locals := 40 } : Room).slots) := by
  refine MetFree.of_bodySF (plainFor_of_name pn_java_lang_StringUTF16) hisR ?_
  intro p e s m args below meth c s₁ Bd hml0 hP hKα
  obtain ⟨rfl, hZ, hh⟩ := hP
  have hx := Bd.exec
  have hby := Bd.bytes
  have hml : c.maxLocals = 2 := hml0
  have hown : s.vm.findClass "java/lang/StringUTF16" = some m.cls := findClass_of_methodNamed Bd.named
  have hnm := (name_of_methodNamed Bd.named Bd.method).1
  have X0 : Stand p l e ({ frames := 3, cells := 0, slots := 0, locals := 40 } : Room) s m #[(.ref b), (.int ix)] below meth c s₁ [] 0 0 := Stand.of_body Bd
  have e0 : s₁.heap = h0 := by rw [← hh, Bd.state]; rfl
  have N0 := Fr.nil n0
  suffices k0 : Gl p e below s (Q_rm22 Z b ix ff kb z vs yy yz h0 n0) ({ frames := 3, cells := 0, slots := 0, locals := 40 } : Room).cells ({ frames := 3, cells := 0, slots := 0, locals := 40 } : Room).slots s₁ (mkF m 0 #[vR b, vI ix] []) from Gl.st (fun τ κ => castTop (ef_rm22 m b ix) κ) k0
  refine Gl.st (g' := (mkF m 2 #[vR b, vI ix] [(.ref b), (.int ix)])) (fun τ κ => XS.iloadN X0.here hx rfl (hb hby d22_0) rfl (XS.aloadN X0.here hx rfl (hb hby d22_1) rfl rfl κ)) ?_
  obtain ⟨rv37, _, ⟨T37, L37, k37, n37⟩, -, X37, ⟨Lc37, hQ37, l37, y37, z37⟩, st37⟩ := Jvm.LawKit.callS X0 hx (y := (⟨"java/lang/StringUTF16", "checkIndex", "(I[B)V"⟩ : MethodName)) hown (mvT hZ (w100_ hw)) (mvT hZ (w101_ hw)) (mvT hZ (w45_ hw)) (mvT hZ (w102_ hw)) (by decide) (backOf (W := 0) (rm23 l Z a0 hw [] ix b ff kb z vs h0 n0 Z0 SF isr_ff V0 hi0 hin) hZ (w102_ hw) (w45_ hw) (by decide) (by decide)) (g := (mkF m 2 #[vR b, vI ix] [(.ref b), (.int ix)])) rfl (by rw [hml]; rfl) (argsL := [(.int ix), (.ref b)]) (rest := []) (lenOf pd_4 rfl) rfl (by show 2 * 0 + _ ≤ _; exact Nat.le_of_eq rfl) (hb hby d22_2) (fun _ _ => ⟨rfl, e0, (by decide : 0 + 0 ≤ _), (by decide : 0 + 0 ≤ _)⟩)
  dsimp only [Pt.U, Pt.locs, Pt.cells, Pt.slots] at X37 l37 y37 z37 st37 hQ37
  subst l37 y37 z37
  obtain ⟨hq37, N37q, e37⟩ := hQ37
  subst hq37
  have N37 := Fr.app N0 N37q
  refine Gl.st (g' := (mkF m 5 #[vR b, vI ix] [])) (fun τ κ => st37 _ κ) ?_
  refine Gl.st (g' := (mkF m 7 #[vR b, vI ix] [(.int ix), (.ref b)])) (fun τ κ => XS.aloadN X37.here hx rfl (hb hby d22_5) rfl rfl (XS.iloadN X37.here hx rfl (hb hby d22_6) rfl κ)) ?_
  obtain ⟨rv38, _, ⟨T38, L38, k38, n38⟩, -, X38, ⟨Lc38, hQ38, l38, y38, z38⟩, st38⟩ := Jvm.LawKit.callS X37 hx (y := (⟨"java/lang/StringUTF16", "getChar", "([BI)C"⟩ : MethodName)) hown (mvT hZ (w94_ hw)) (mvT hZ (w95_ hw)) (mvT hZ (w45_ hw)) (mvT hZ (w96_ hw)) (by decide) (backOf (W := 0) (rm21 l Z a0 hw [] b ix kb z vs yy yz h0 n0 Z0 SA SH SL V0 h1 h2 hy hy') hZ (w96_ hw) (w45_ hw) (by decide) (by decide)) (g := (mkF m 7 #[vR b, vI ix] [(.int ix), (.ref b)])) rfl (by rw [hml]; rfl) (argsL := [(.ref b), (.int ix)]) (rest := []) (lenOf pd_5 rfl) rfl (by show 2 * 0 + _ ≤ _; exact Nat.le_of_eq rfl) (hb hby d22_7) (fun _ _ => ⟨rfl, e37, (by decide : 0 + 0 ≤ _), (by decide : 0 + 0 ≤ _)⟩)
  dsimp only [Pt.U, Pt.locs, Pt.cells, Pt.slots] at X38 l38 y38 z38 st38 hQ38
  subst l38 y38 z38
  obtain ⟨hq38, N38q, e38⟩ := hQ38
  have hq38 : rv38 = some (.int (own_u16E yy yz)) := hq38
  subst hq38
  have N38 := Fr.app N37 N38q
  refine Gl.st (g' := (mkF m 10 #[vR b, vI ix] [(.int (own_u16E yy yz))])) (fun τ κ => st38 _ κ) ?_
  exact Gl.ret (v := some (.int (nar .char (own_u16E yy yz)))) X38 Bd.notSynchronized (fun h => by rw [Bd.returns] at h; cases h) e38 (fun fs hr => retN X38 hx (t := .char) Bd.returns (by simp) (hb hby d22_10) hr) (by decide) (by decide) ⟨congrArg (fun t => some (Value.int t)) (own_narC (own_chn _)), N38, rfl⟩
theorem d12_0 : decode jdk_42_method_56_code 0 = .ok (.aload_n 0, 1) := by decide +kernel
theorem d12_1 : decode jdk_42_method_56_code 1 = .ok (.invokevirtual 492, 3) := by decide +kernel
theorem pd_6 : parseMethodDescriptor "()Z" = some ⟨[], some .boolean⟩ := by decide +kernel
theorem d12_4 : decode jdk_42_method_56_code 4 = .ok (.ifCond .eq 12, 3) := by decide +kernel
theorem d12_7 : decode jdk_42_method_56_code 7 = .ok (.aload_n 0, 1) := by decide +kernel
theorem d12_8 : decode jdk_42_method_56_code 8 = .ok (.getfield 9, 3) := by decide +kernel
theorem d12_11 : decode jdk_42_method_56_code 11 = .ok (.iload_n 1, 1) := by decide +kernel
theorem d12_12 : decode jdk_42_method_56_code 12 = .ok (.invokestatic 495, 3) := by decide +kernel
theorem d12_15 : decode jdk_42_method_56_code 15 = .ok (.ireturn, 1) := by decide +kernel
theorem d12_16 : decode jdk_42_method_56_code 16 = .ok (.aload_n 0, 1) := by decide +kernel
theorem d12_17 : decode jdk_42_method_56_code 17 = .ok (.getfield 9, 3) := by decide +kernel
theorem d12_20 : decode jdk_42_method_56_code 20 = .ok (.iload_n 1, 1) := by decide +kernel
theorem d12_21 : decode jdk_42_method_56_code 21 = .ok (.invokestatic 498, 3) := by decide +kernel
theorem d12_24 : decode jdk_42_method_56_code 24 = .ok (.ireturn, 1) := by decide +kernel
theorem ef_rm12 (m : MethodId) (a : Addr) (ix : Int32) : entryFrame m #[(.ref a), (.int ix)] 2 = mkF m 0 #[vR a, vI ix] [] := by first | (simp [entryFrame, mkF, argsToLocals, Value.category]; done) | rfl
def Q_rm12 (Z : State) (a : Addr) (ix : Int32) (n cs : Int32) (cl : List Int32) (ff : Value) (h0 : Heap) (n0 : Nat) (v : Option Value) (h : Heap) (L : List Loc) : Prop := v = some (.int (cl.getD ix.toNatClampNeg 0)) ∧ Fr n0 L ∧ h = h0
set_option maxRecDepth 65536 in
set_option maxHeartbeats 40000000 in
theorem rm12 (l : Launch) (Z : State) (a0 : Array Value) (hw : ∀ d ∈ tables_1, d.before a0 Z = true) (ws : List Jvm.Cond) (a : Addr) (ix : Int32) (n cs : Int32) (cl : List Int32) (ff : Value) (h0 : Heap) (n0 : Nat) (Z0 : n0 ≤ h0.size) (S0 : Sta Z h0 "java/lang/String" "COMPACT_STRINGS" "Z" (.int cs)) (hcs : ¬ cs = (0 : Int32)) (SA : Sta Z h0 "java/lang/StringUTF16" "$assertionsDisabled" "Z" (.int (1 : Int32))) (SH : Sta Z h0 "java/lang/StringUTF16" "HI_BYTE_SHIFT" "I" (.int (0 : Int32))) (SL : Sta Z h0 "java/lang/StringUTF16" "LO_BYTE_SHIFT" "I" (.int (8 : Int32))) (SF : Sta Z h0 "jdk/internal/util/Preconditions" "SIOOBE_FORMATTER" "Ljava/util/function/BiFunction;" ff) (isr_ff : ff.isRef = true) (HS : own_str Z h0 a n cl) (hi0 : ¬ ix < 0) (hin : ix < n) :
    MetFree l (⟨"java/lang/String", "charAt", "(I)C"⟩ : MethodName) (head1 (Jvm.Cond.code (⟨"java/lang/String", "charAt", "(I)C"⟩ : MethodName) jdk_42_method_56_code 2 (some .char) :: ws) ({ frames := 4, cells := 0, slots := 0, locals := 53 } : Room)) (fun aα Uα => aα = #[(.ref a), (.int ix)] ∧ Z.Warmed39 Uα.vm ∧ Uα.heap = h0) (fun _ _ _ _ _ => True) (fun _ Uα oα Uβ => ∃ vα Lα, oα = .returned vα ∧ Q_rm12 Z a ix n cs cl ff h0 n0 vα Uβ.heap Lα ∧ FrameEnd Uα oα Uβ Lα ({ frames := 4, cells := 0, slots := 0, locals := 53 } : Room).cells ({ frames := 4, cells := 0, slots := 0, locals := 53 } : Room).slots) := by
  refine MetFree.of_bodySF (plainFor_of_name pn_java_lang_String) hisR ?_
  intro p e s m args below meth c s₁ Bd hml0 hP hKα
  obtain ⟨rfl, hZ, hh⟩ := hP
  have hx := Bd.exec
  have hby := Bd.bytes
  have hml : c.maxLocals = 2 := hml0
  have hown : s.vm.findClass "java/lang/String" = some m.cls := findClass_of_methodNamed Bd.named
  have hnm := (name_of_methodNamed Bd.named Bd.method).1
  have X0 : Stand p l e ({ frames := 4, cells := 0, slots := 0, locals := 53 } : Room) s m #[(.ref a), (.int ix)] below meth c s₁ [] 0 0 := Stand.of_body Bd
  have e0 : s₁.heap = h0 := by rw [← hh, Bd.state]; rfl
  have N0 := Fr.nil n0
  suffices k0 : Gl p e below s (Q_rm12 Z a ix n cs cl ff h0 n0) ({ frames := 4, cells := 0, slots := 0, locals := 53 } : Room).cells ({ frames := 4, cells := 0, slots := 0, locals := 53 } : Room).slots s₁ (mkF m 0 #[vR a, vI ix] []) from Gl.st (fun τ κ => castTop (ef_rm12 m a ix) κ) k0
  obtain ⟨E0, hn, hr, b, kb, z, vs, FV, V0, hc⟩ := HS
  rcases hc with ⟨FC, hz, hv⟩ | ⟨FC, hz, hv⟩
  · -- coder 0
    obtain ⟨yy, hy, hyc⟩ := hv _ (own_lt hi0 hin)
    refine Gl.st (g' := (mkF m 1 #[vR a, vI ix] [(.ref a)])) (fun τ κ => XS.aloadN X0.here hx rfl (hb hby d12_0) rfl rfl κ) ?_
    obtain ⟨cq39, kq39, q39a, q39b, q39c⟩ := isOf hZ e0 E0
    obtain ⟨rv39, _, ⟨T39, L39, k39, n39⟩, -, X39, ⟨Lc39, hQ39, l39, y39, z39⟩, st39⟩ := X0.virtualBack hx (y := (⟨"java/lang/String", "isLatin1", "()Z"⟩ : MethodName)) (z := (⟨"java/lang/String", "isLatin1", "()Z"⟩ : MethodName)) hown (mvT hZ (w61_ hw)) (mvT hZ (w62_ hw)) (notFace_of_selects (args := #[]) (mvT hZ (w64_ hw))) (mvT hZ (w64_ hw)) (mvT hZ (w63_ hw)) (by decide) (backOf (W := 0) (rm13_0 l Z a0 hw [] a cs h0 n0 Z0 S0 hcs FC) hZ (w65_ hw) (w8_ hw) (by decide) (by decide)) q39a q39c (g := (mkF m 1 #[vR a, vI ix] [(.ref a)])) rfl (by rw [hml]; rfl) (Steps.refl _) (argsL := []) (rest := []) (lenOf pd_6 rfl) rfl (by show 2 * 0 + _ ≤ _; exact Nat.le_of_eq rfl) (hb hby d12_1) (fun _ _ => ⟨rfl, e0, (by decide : 0 + 0 ≤ _), (by decide : 0 + 0 ≤ _)⟩)
    dsimp only [Pt.U, Pt.locs, Pt.cells, Pt.slots] at X39 l39 y39 z39 st39 hQ39
    subst l39 y39 z39
    obtain ⟨hq39, N39q, e39⟩ := hQ39
    have hq39 : rv39 = some (.int (1 : Int32)) := hq39
    subst hq39
    have N39 := Fr.app N0 N39q
    refine Gl.st (g' := (mkF m 4 #[vR a, vI ix] [(.int (1 : Int32))])) (fun τ κ => st39.trans κ) ?_
    have hc40 : ¬ ((1 : Int32) = (0 : Int32)) := by decide
    refine Gl.st (g' := (mkF m 8 #[vR a, vI ix] [(.ref a)])) (fun τ κ => XS.ifNo X39.here hx rfl (hb hby d12_4) rfl ((if0 _ _).trans (feq hc40).1) (XS.aloadN X39.here hx rfl (hb hby d12_7) rfl rfl κ)) ?_
    obtain ⟨T41, X41, e41, st41⟩ := getF X39 hx hZ hown (host := "") (Or.inl (w26_ hw)) Via.refl e39 FV (g := (mkF m 8 #[vR a, vI ix] [(.ref a)])) rfl rfl (hb hby d12_8)
    refine Gl.st (g' := (mkF m 11 #[vR a, vI ix] [(.ref b)])) (fun τ κ => st41 _ κ) ?_
    refine Gl.st (g' := (mkF m 12 #[vR a, vI ix] [(.int ix), (.ref b)])) (fun τ κ => XS.iloadN X41.here hx rfl (hb hby d12_11) rfl κ) ?_
    obtain ⟨rv42, _, ⟨T42, L42, k42, n42⟩, -, X42, ⟨Lc42, hQ42, l42, y42, z42⟩, st42⟩ := Jvm.LawKit.callS X41 hx (y := (⟨"java/lang/StringLatin1", "charAt", "([BI)C"⟩ : MethodName)) hown (mvT hZ (w66_ hw)) (mvT hZ (w67_ hw)) (mvT hZ (w68_ hw)) (mvT hZ (w69_ hw)) (by decide) (backOf (W := 0) (rm14 l Z a0 hw [] b ix ff kb z vs yy h0 n0 Z0 SF isr_ff V0 hi0 (by rw [hz]; exact hin) hy) hZ (w69_ hw) (w68_ hw) (by decide) (by decide)) (g := (mkF m 12 #[vR a, vI ix] [(.int ix), (.ref b)])) rfl (by rw [hml]; rfl) (argsL := [(.ref b), (.int ix)]) (rest := []) (lenOf pd_5 rfl) rfl (by show 2 * 0 + _ ≤ _; exact Nat.le_of_eq rfl) (hb hby d12_12) (fun _ _ => ⟨rfl, e41, (by decide : 0 + 0 ≤ _), (by decide : 0 + 0 ≤ _)⟩)
    dsimp only [Pt.U, Pt.locs, Pt.cells, Pt.slots] at X42 l42 y42 z42 st42 hQ42
    subst l42 y42 z42
    obtain ⟨hq42, N42q, e42⟩ := hQ42
    have hq42 : rv42 = some (.int (own_latE yy)) := hq42
    subst hq42
    have N42 := Fr.app N39 N42q
    refine Gl.st (g' := (mkF m 15 #[vR a, vI ix] [(.int (own_latE yy))])) (fun τ κ => st42 _ κ) ?_
    exact Gl.ret (v := some (.int (nar .char (own_latE yy)))) X42 Bd.notSynchronized (fun h => by rw [Bd.returns] at h; cases h) e42 (fun fs hr => retN X42 hx (t := .char) Bd.returns (by simp) (hb hby d12_15) hr) (by decide) (by decide) ⟨congrArg (fun t => some (Value.int t)) ((congrArg (nar .char) hyc).trans (own_narC (hr _ (own_lt hi0 hin)))), N42, rfl⟩
  · -- coder 1
    obtain ⟨yy, yz, hy, hy', hyc⟩ := hv _ (own_lt hi0 hin)
    have hq := own_idx hn hz hi0 hin
    refine Gl.st (g' := (mkF m 1 #[vR a, vI ix] [(.ref a)])) (fun τ κ => XS.aloadN X0.here hx rfl (hb hby d12_0) rfl rfl κ) ?_
    obtain ⟨cq43, kq43, q43a, q43b, q43c⟩ := isOf hZ e0 E0
    obtain ⟨rv43, _, ⟨T43, L43, k43, n43⟩, -, X43, ⟨Lc43, hQ43, l43, y43, z43⟩, st43⟩ := X0.virtualBack hx (y := (⟨"java/lang/String", "isLatin1", "()Z"⟩ : MethodName)) (z := (⟨"java/lang/String", "isLatin1", "()Z"⟩ : MethodName)) hown (mvT hZ (w61_ hw)) (mvT hZ (w62_ hw)) (notFace_of_selects (args := #[]) (mvT hZ (w64_ hw))) (mvT hZ (w64_ hw)) (mvT hZ (w63_ hw)) (by decide) (backOf (W := 0) (rm13_1 l Z a0 hw [] a cs h0 n0 Z0 S0 hcs FC) hZ (w65_ hw) (w8_ hw) (by decide) (by decide)) q43a q43c (g := (mkF m 1 #[vR a, vI ix] [(.ref a)])) rfl (by rw [hml]; rfl) (Steps.refl _) (argsL := []) (rest := []) (lenOf pd_6 rfl) rfl (by show 2 * 0 + _ ≤ _; exact Nat.le_of_eq rfl) (hb hby d12_1) (fun _ _ => ⟨rfl, e0, (by decide : 0 + 0 ≤ _), (by decide : 0 + 0 ≤ _)⟩)
    dsimp only [Pt.U, Pt.locs, Pt.cells, Pt.slots] at X43 l43 y43 z43 st43 hQ43
    subst l43 y43 z43
    obtain ⟨hq43, N43q, e43⟩ := hQ43
    have hq43 : rv43 = some (.int (0 : Int32)) := hq43
    subst hq43
    have N43 := Fr.app N0 N43q
    refine Gl.st (g' := (mkF m 4 #[vR a, vI ix] [(.int (0 : Int32))])) (fun τ κ => st43.trans κ) ?_
    have hc44 : (0 : Int32) = (0 : Int32) := by decide
    refine Gl.st (g' := (mkF m 17 #[vR a, vI ix] [(.ref a)])) (fun τ κ => XS.ifYes X43.here hx rfl (pc0 := 4) (pc' := 16) rfl (hb hby d12_4) rfl ((if0 _ _).trans (teq hc44).1) (by decide) (by decide) (XS.aloadN X43.here hx rfl (hb hby d12_16) rfl rfl κ)) ?_
    obtain ⟨T45, X45, e45, st45⟩ := getF X43 hx hZ hown (host := "") (Or.inl (w26_ hw)) Via.refl e43 FV (g := (mkF m 17 #[vR a, vI ix] [(.ref a)])) rfl rfl (hb hby d12_17)
    refine Gl.st (g' := (mkF m 20 #[vR a, vI ix] [(.ref b)])) (fun τ κ => st45 _ κ) ?_
    refine Gl.st (g' := (mkF m 21 #[vR a, vI ix] [(.int ix), (.ref b)])) (fun τ κ => XS.iloadN X45.here hx rfl (hb hby d12_20) rfl κ) ?_
    obtain ⟨rv46, _, ⟨T46, L46, k46, n46⟩, -, X46, ⟨Lc46, hQ46, l46, y46, z46⟩, st46⟩ := Jvm.LawKit.callS X45 hx (y := (⟨"java/lang/StringUTF16", "charAt", "([BI)C"⟩ : MethodName)) hown (mvT hZ (w97_ hw)) (mvT hZ (w98_ hw)) (mvT hZ (w45_ hw)) (mvT hZ (w99_ hw)) (by decide) (backOf (W := 0) (rm22 l Z a0 hw [] b ix ff kb z vs yy yz h0 n0 Z0 SA SH SL SF isr_ff V0 hi0 hq.2.2.2.2 hq.1 hq.2.1 (by rw [hq.2.2.1]; exact hy) (by rw [hq.2.2.2.1]; exact hy')) hZ (w99_ hw) (w45_ hw) (by decide) (by decide)) (g := (mkF m 21 #[vR a, vI ix] [(.int ix), (.ref b)])) rfl (by rw [hml]; rfl) (argsL := [(.ref b), (.int ix)]) (rest := []) (lenOf pd_5 rfl) rfl (by show 2 * 0 + _ ≤ _; exact Nat.le_of_eq rfl) (hb hby d12_21) (fun _ _ => ⟨rfl, e45, (by decide : 0 + 0 ≤ _), (by decide : 0 + 0 ≤ _)⟩)
    dsimp only [Pt.U, Pt.locs, Pt.cells, Pt.slots] at X46 l46 y46 z46 st46 hQ46
    subst l46 y46 z46
    obtain ⟨hq46, N46q, e46⟩ := hQ46
    have hq46 : rv46 = some (.int (own_u16E yy yz)) := hq46
    subst hq46
    have N46 := Fr.app N43 N46q
    refine Gl.st (g' := (mkF m 24 #[vR a, vI ix] [(.int (own_u16E yy yz))])) (fun τ κ => st46 _ κ) ?_
    exact Gl.ret (v := some (.int (nar .char (own_u16E yy yz)))) X46 Bd.notSynchronized (fun h => by rw [Bd.returns] at h; cases h) e46 (fun fs hr => retN X46 hx (t := .char) Bd.returns (by simp) (hb hby d12_24) hr) (by decide) (by decide) ⟨congrArg (fun t => some (Value.int t)) ((congrArg (nar .char) hyc).trans (own_narC (hr _ (own_lt hi0 hin)))), N46, rfl⟩
theorem d5_0 : decode prog_1_method_4_code 0 = .ok (.iconst 0, 1) := by decide +kernel
theorem d5_1 : decode prog_1_method_4_code 1 = .ok (.istore_n 1, 1) := by decide +kernel
theorem d5_2 : decode prog_1_method_4_code 2 = .ok (.iload_n 1, 1) := by decide +kernel
theorem d5_3 : decode prog_1_method_4_code 3 = .ok (.aload_n 0, 1) := by decide +kernel
theorem d5_4 : decode prog_1_method_4_code 4 = .ok (.invokevirtual 13, 3) := by decide +kernel
theorem pd_7 : parseMethodDescriptor "()I" = some ⟨[], some .int⟩ := by decide +kernel
theorem d5_7 : decode prog_1_method_4_code 7 = .ok (.if_icmp .ge 31, 3) := by decide +kernel
theorem d5_38 : decode prog_1_method_4_code 38 = .ok (.iconst 1, 1) := by decide +kernel
theorem d5_39 : decode prog_1_method_4_code 39 = .ok (.ireturn, 1) := by decide +kernel
theorem pn_com_example_sealgrant_sealgrant_Ascii : plainName "com/example/sealgrant/sealgrant/Ascii" = true := by first | (simp [plainName, overriddenIn]; done) | decide +kernel
theorem ef_rm5_0 (m : MethodId) (a : Addr) : entryFrame m #[(.ref a)] 2 = mkF m 0 #[vR a, .unset] [] := by first | (simp [entryFrame, mkF, argsToLocals, Value.category]; done) | rfl
def Q_rm5_0 (Z : State) (a : Addr) (cs : Int32) (ff : Value) (h0 : Heap) (n0 : Nat) (v : Option Value) (h : Heap) (L : List Loc) : Prop := v = some (.int (own_pr [])) ∧ Fr n0 L ∧ h = h0
set_option maxRecDepth 65536 in
set_option maxHeartbeats 40000000 in
theorem rm5_0 (l : Launch) (Z : State) (a0 : Array Value) (hw : ∀ d ∈ tables_1, d.before a0 Z = true) (ws : List Jvm.Cond) (a : Addr) (cs : Int32) (ff : Value) (h0 : Heap) (n0 : Nat) (Z0 : n0 ≤ h0.size) (S0 : Sta Z h0 "java/lang/String" "COMPACT_STRINGS" "Z" (.int cs)) (hcs : ¬ cs = (0 : Int32)) (SA : Sta Z h0 "java/lang/StringUTF16" "$assertionsDisabled" "Z" (.int (1 : Int32))) (SH : Sta Z h0 "java/lang/StringUTF16" "HI_BYTE_SHIFT" "I" (.int (0 : Int32))) (SL : Sta Z h0 "java/lang/StringUTF16" "LO_BYTE_SHIFT" "I" (.int (8 : Int32))) (SF : Sta Z h0 "jdk/internal/util/Preconditions" "SIOOBE_FORMATTER" "Ljava/util/function/BiFunction;" ff) (isr_ff : ff.isRef = true) (HS : own_str Z h0 a (0 : Int32) []) :
    MetFree l (⟨"com/example/sealgrant/sealgrant/Ascii", "printable", "(Ljava/lang/String;)Z"⟩ : MethodName) (head1 (Jvm.Cond.code (⟨"com/example/sealgrant/sealgrant/Ascii", "printable", "(Ljava/lang/String;)Z"⟩ : MethodName) prog_1_method_4_code 2 (some .boolean) :: ws) ({ frames := 2, cells := 0, slots := 0, locals := 26 } : Room)) (fun aα Uα => aα = #[(.ref a)] ∧ Z.Warmed39 Uα.vm ∧ Uα.heap = h0) (fun _ _ _ _ _ => True) (fun _ Uα oα Uβ => ∃ vα Lα, oα = .returned vα ∧ Q_rm5_0 Z a cs ff h0 n0 vα Uβ.heap Lα ∧ FrameEnd Uα oα Uβ Lα ({ frames := 2, cells := 0, slots := 0, locals := 26 } : Room).cells ({ frames := 2, cells := 0, slots := 0, locals := 26 } : Room).slots) := by
  refine MetFree.of_bodySF (plainFor_of_name pn_com_example_sealgrant_sealgrant_Ascii) hisR ?_
  intro p e s m args below meth c s₁ Bd hml0 hP hKα
  obtain ⟨rfl, hZ, hh⟩ := hP
  have hx := Bd.exec
  have hby := Bd.bytes
  have hml : c.maxLocals = 2 := hml0
  have hown : s.vm.findClass "com/example/sealgrant/sealgrant/Ascii" = some m.cls := findClass_of_methodNamed Bd.named
  have hnm := (name_of_methodNamed Bd.named Bd.method).1
  have X0 : Stand p l e ({ frames := 2, cells := 0, slots := 0, locals := 26 } : Room) s m #[(.ref a)] below meth c s₁ [] 0 0 := Stand.of_body Bd
  have e0 : s₁.heap = h0 := by rw [← hh, Bd.state]; rfl
  have N0 := Fr.nil n0
  suffices k0 : Gl p e below s (Q_rm5_0 Z a cs ff h0 n0) ({ frames := 2, cells := 0, slots := 0, locals := 26 } : Room).cells ({ frames := 2, cells := 0, slots := 0, locals := 26 } : Room).slots s₁ (mkF m 0 #[vR a, .unset] []) from Gl.st (fun τ κ => castTop (ef_rm5_0 m a) κ) k0
  refine Gl.st (g' := (mkF m 2 #[vR a, vI (0 : Int32)] [])) (fun τ κ => XS.iconst X0.here hx rfl (hb hby d5_0) (XS.istoreN X0.here hx rfl (hb hby d5_1) rfl (l' := #[vR a, vI (0 : Int32)]) rfl κ)) ?_
  refine Gl.st (g' := (mkF m 4 #[vR a, vI (0 : Int32)] [(.ref a), (.int (0 : Int32))])) (fun τ κ => XS.iloadN X0.here hx rfl (hb hby d5_2) rfl (XS.aloadN X0.here hx rfl (hb hby d5_3) rfl rfl κ)) ?_
  obtain ⟨cq47, kq47, q47a, q47b, q47c⟩ := isOf hZ e0 HS.1
  obtain ⟨rv47, _, ⟨T47, L47, k47, n47⟩, -, X47, ⟨Lc47, hQ47, l47, y47, z47⟩, st47⟩ := X0.virtualBack hx (y := (⟨"java/lang/String", "length", "()I"⟩ : MethodName)) (z := (⟨"java/lang/String", "length", "()I"⟩ : MethodName)) hown (mvT hZ (w32_ hw)) (mvT hZ (w33_ hw)) (notFace_of_selects (args := #[]) (mvT hZ (w35_ hw))) (mvT hZ (w35_ hw)) (mvT hZ (w34_ hw)) (by decide) (backOf (W := 1) (rm6 l Z a0 hw [] a (0 : Int32) cs [] h0 n0 Z0 S0 hcs HS) hZ (w36_ hw) (w8_ hw) (by decide) (by decide)) q47a q47c (g := (mkF m 4 #[vR a, vI (0 : Int32)] [(.ref a), (.int (0 : Int32))])) rfl (by rw [hml]; rfl) (Steps.refl _) (argsL := []) (rest := [(.int (0 : Int32))]) (lenOf pd_7 rfl) rfl (by show 2 * 0 + _ ≤ _; exact Nat.le_of_eq rfl) (hb hby d5_4) (fun _ _ => ⟨rfl, e0, (by decide : 0 + 0 ≤ _), (by decide : 0 + 0 ≤ _)⟩)
  dsimp only [Pt.U, Pt.locs, Pt.cells, Pt.slots] at X47 l47 y47 z47 st47 hQ47
  subst l47 y47 z47
  obtain ⟨hq47, N47q, e47⟩ := hQ47
  have hq47 : rv47 = some (.int (0 : Int32)) := hq47
  subst hq47
  have N47 := Fr.app N0 N47q
  refine Gl.st (g' := (mkF m 7 #[vR a, vI (0 : Int32)] [(.int (0 : Int32)), (.int (0 : Int32))])) (fun τ κ => st47.trans κ) ?_
  have hc48 : ¬ ((0 : Int32) < (0 : Int32)) := by decide
  refine Gl.st (g' := (mkF m 39 #[vR a, vI (0 : Int32)] [(.int (1 : Int32))])) (fun τ κ => XS.icmpYes X47.here hx rfl (pc0 := 7) (pc' := 38) rfl (hb hby d5_7) rfl (flt hc48).2.1 (by decide) (by decide) (XS.iconst X47.here hx rfl (hb hby d5_38) κ)) ?_
  exact Gl.ret (v := some (.int (1 : Int32))) X47 Bd.notSynchronized (fun h => by rw [Bd.returns] at h; cases h) e47 (fun fs hr => retN X47 hx (t := .boolean) Bd.returns (by simp) (hb hby d5_39) hr) (by decide) (by decide) ⟨by simp only [own_pr, if_true, if_false], N47, rfl⟩
theorem d5_10 : decode prog_1_method_4_code 10 = .ok (.aload_n 0, 1) := by decide +kernel
theorem d5_11 : decode prog_1_method_4_code 11 = .ok (.iload_n 1, 1) := by decide +kernel
theorem d5_12 : decode prog_1_method_4_code 12 = .ok (.invokevirtual 17, 3) := by decide +kernel
theorem pd_8 : parseMethodDescriptor "(I)C" = some ⟨[.int], some .char⟩ := by decide +kernel
theorem d5_15 : decode prog_1_method_4_code 15 = .ok (.bipush 32, 2) := by decide +kernel
theorem d5_17 : decode prog_1_method_4_code 17 = .ok (.if_icmp .lt 13, 3) := by decide +kernel
theorem d5_30 : decode prog_1_method_4_code 30 = .ok (.iconst 0, 1) := by decide +kernel
theorem d5_31 : decode prog_1_method_4_code 31 = .ok (.ireturn, 1) := by decide +kernel
theorem d5_20 : decode prog_1_method_4_code 20 = .ok (.aload_n 0, 1) := by decide +kernel
theorem d5_21 : decode prog_1_method_4_code 21 = .ok (.iload_n 1, 1) := by decide +kernel
theorem d5_22 : decode prog_1_method_4_code 22 = .ok (.invokevirtual 17, 3) := by decide +kernel
theorem d5_25 : decode prog_1_method_4_code 25 = .ok (.bipush 126, 2) := by decide +kernel
theorem d5_27 : decode prog_1_method_4_code 27 = .ok (.if_icmp .le 5, 3) := by decide +kernel
theorem d5_32 : decode prog_1_method_4_code 32 = .ok (.iinc 1 1, 3) := by decide +kernel
theorem d5_35 : decode prog_1_method_4_code 35 = .ok (.goto (-33), 3) := by decide +kernel
theorem ef_rm5_1 (m : MethodId) (a : Addr) : entryFrame m #[(.ref a)] 2 = mkF m 0 #[vR a, .unset] [] := by first | (simp [entryFrame, mkF, argsToLocals, Value.category]; done) | rfl
def Q_rm5_1 (Z : State) (a : Addr) (cs c0 : Int32) (ff : Value) (h0 : Heap) (n0 : Nat) (v : Option Value) (h : Heap) (L : List Loc) : Prop := v = some (.int (own_pr [c0])) ∧ Fr n0 L ∧ h = h0
set_option maxRecDepth 65536 in
set_option maxHeartbeats 40000000 in
theorem rm5_1 (l : Launch) (Z : State) (a0 : Array Value) (hw : ∀ d ∈ tables_1, d.before a0 Z = true) (ws : List Jvm.Cond) (a : Addr) (cs c0 : Int32) (ff : Value) (h0 : Heap) (n0 : Nat) (Z0 : n0 ≤ h0.size) (S0 : Sta Z h0 "java/lang/String" "COMPACT_STRINGS" "Z" (.int cs)) (hcs : ¬ cs = (0 : Int32)) (SA : Sta Z h0 "java/lang/StringUTF16" "$assertionsDisabled" "Z" (.int (1 : Int32))) (SH : Sta Z h0 "java/lang/StringUTF16" "HI_BYTE_SHIFT" "I" (.int (0 : Int32))) (SL : Sta Z h0 "java/lang/StringUTF16" "LO_BYTE_SHIFT" "I" (.int (8 : Int32))) (SF : Sta Z h0 "jdk/internal/util/Preconditions" "SIOOBE_FORMATTER" "Ljava/util/function/BiFunction;" ff) (isr_ff : ff.isRef = true) (HS : own_str Z h0 a (1 : Int32) [c0]) :
    MetFree l (⟨"com/example/sealgrant/sealgrant/Ascii", "printable", "(Ljava/lang/String;)Z"⟩ : MethodName) (head1 (Jvm.Cond.code (⟨"com/example/sealgrant/sealgrant/Ascii", "printable", "(Ljava/lang/String;)Z"⟩ : MethodName) prog_1_method_4_code 2 (some .boolean) :: ws) ({ frames := 5, cells := 0, slots := 0, locals := 66 } : Room)) (fun aα Uα => aα = #[(.ref a)] ∧ Z.Warmed39 Uα.vm ∧ Uα.heap = h0) (fun _ _ _ _ _ => True) (fun _ Uα oα Uβ => ∃ vα Lα, oα = .returned vα ∧ Q_rm5_1 Z a cs c0 ff h0 n0 vα Uβ.heap Lα ∧ FrameEnd Uα oα Uβ Lα ({ frames := 5, cells := 0, slots := 0, locals := 66 } : Room).cells ({ frames := 5, cells := 0, slots := 0, locals := 66 } : Room).slots) := by
  refine MetFree.of_bodySF (plainFor_of_name pn_com_example_sealgrant_sealgrant_Ascii) hisR ?_
  intro p e s m args below meth c s₁ Bd hml0 hP hKα
  obtain ⟨rfl, hZ, hh⟩ := hP
  have hx := Bd.exec
  have hby := Bd.bytes
  have hml : c.maxLocals = 2 := hml0
  have hown : s.vm.findClass "com/example/sealgrant/sealgrant/Ascii" = some m.cls := findClass_of_methodNamed Bd.named
  have hnm := (name_of_methodNamed Bd.named Bd.method).1
  have X0 : Stand p l e ({ frames := 5, cells := 0, slots := 0, locals := 66 } : Room) s m #[(.ref a)] below meth c s₁ [] 0 0 := Stand.of_body Bd
  have e0 : s₁.heap = h0 := by rw [← hh, Bd.state]; rfl
  have N0 := Fr.nil n0
  suffices k0 : Gl p e below s (Q_rm5_1 Z a cs c0 ff h0 n0) ({ frames := 5, cells := 0, slots := 0, locals := 66 } : Room).cells ({ frames := 5, cells := 0, slots := 0, locals := 66 } : Room).slots s₁ (mkF m 0 #[vR a, .unset] []) from Gl.st (fun τ κ => castTop (ef_rm5_1 m a) κ) k0
  refine Gl.st (g' := (mkF m 2 #[vR a, vI (0 : Int32)] [])) (fun τ κ => XS.iconst X0.here hx rfl (hb hby d5_0) (XS.istoreN X0.here hx rfl (hb hby d5_1) rfl (l' := #[vR a, vI (0 : Int32)]) rfl κ)) ?_
  refine Gl.st (g' := (mkF m 4 #[vR a, vI (0 : Int32)] [(.ref a), (.int (0 : Int32))])) (fun τ κ => XS.iloadN X0.here hx rfl (hb hby d5_2) rfl (XS.aloadN X0.here hx rfl (hb hby d5_3) rfl rfl κ)) ?_
  obtain ⟨cq49, kq49, q49a, q49b, q49c⟩ := isOf hZ e0 HS.1
  obtain ⟨rv49, _, ⟨T49, L49, k49, n49⟩, -, X49, ⟨Lc49, hQ49, l49, y49, z49⟩, st49⟩ := X0.virtualBack hx (y := (⟨"java/lang/String", "length", "()I"⟩ : MethodName)) (z := (⟨"java/lang/String", "length", "()I"⟩ : MethodName)) hown (mvT hZ (w32_ hw)) (mvT hZ (w33_ hw)) (notFace_of_selects (args := #[]) (mvT hZ (w35_ hw))) (mvT hZ (w35_ hw)) (mvT hZ (w34_ hw)) (by decide) (backOf (W := 1) (rm6 l Z a0 hw [] a (1 : Int32) cs [c0] h0 n0 Z0 S0 hcs HS) hZ (w36_ hw) (w8_ hw) (by decide) (by decide)) q49a q49c (g := (mkF m 4 #[vR a, vI (0 : Int32)] [(.ref a), (.int (0 : Int32))])) rfl (by rw [hml]; rfl) (Steps.refl _) (argsL := []) (rest := [(.int (0 : Int32))]) (lenOf pd_7 rfl) rfl (by show 2 * 0 + _ ≤ _; exact Nat.le_of_eq rfl) (hb hby d5_4) (fun _ _ => ⟨rfl, e0, (by decide : 0 + 0 ≤ _), (by decide : 0 + 0 ≤ _)⟩)
  dsimp only [Pt.U, Pt.locs, Pt.cells, Pt.slots] at X49 l49 y49 z49 st49 hQ49
  subst l49 y49 z49
  obtain ⟨hq49, N49q, e49⟩ := hQ49
  have hq49 : rv49 = some (.int (1 : Int32)) := hq49
  subst hq49
  have N49 := Fr.app N0 N49q
  refine Gl.st (g' := (mkF m 7 #[vR a, vI (0 : Int32)] [(.int (1 : Int32)), (.int (0 : Int32))])) (fun τ κ => st49.trans κ) ?_
  have hc50 : (0 : Int32) < (1 : Int32) := by decide
  refine Gl.st (g' := (mkF m 11 #[vR a, vI (0 : Int32)] [(.ref a)])) (fun τ κ => XS.icmpNo X49.here hx rfl (hb hby d5_7) rfl (tlt hc50).2.1 (XS.aloadN X49.here hx rfl (hb hby d5_10) rfl rfl κ)) ?_
  refine Gl.st (g' := (mkF m 12 #[vR a, vI (0 : Int32)] [(.int (0 : Int32)), (.ref a)])) (fun τ κ => XS.iloadN X49.here hx rfl (hb hby d5_11) rfl κ) ?_
  obtain ⟨cq51, kq51, q51a, q51b, q51c⟩ := isOf hZ e49 HS.1
  obtain ⟨rv51, _, ⟨T51, L51, k51, n51⟩, -, X51, ⟨Lc51, hQ51, l51, y51, z51⟩, st51⟩ := X49.virtualBack hx (y := (⟨"java/lang/String", "charAt", "(I)C"⟩ : MethodName)) (z := (⟨"java/lang/String", "charAt", "(I)C"⟩ : MethodName)) hown (mvT hZ (w56_ hw)) (mvT hZ (w57_ hw)) (notFace_of_selects (args := #[]) (mvT hZ (w59_ hw))) (mvT hZ (w59_ hw)) (mvT hZ (w58_ hw)) (by decide) (backOf (W := 0) (rm12 l Z a0 hw [] a (0 : Int32) (1 : Int32) cs [c0] ff h0 n0 Z0 S0 hcs SA SH SL SF isr_ff HS (by decide) (by decide)) hZ (w60_ hw) (w8_ hw) (by decide) (by decide)) q51a q51c (g := (mkF m 12 #[vR a, vI (0 : Int32)] [(.int (0 : Int32)), (.ref a)])) rfl (by rw [hml]; rfl) (Steps.refl _) (argsL := [(.int (0 : Int32))]) (rest := []) (lenOf pd_8 rfl) rfl (by show 2 * 0 + _ ≤ _; exact Nat.le_of_eq rfl) (hb hby d5_12) (fun _ _ => ⟨rfl, e49, (by decide : 0 + 0 ≤ _), (by decide : 0 + 0 ≤ _)⟩)
  dsimp only [Pt.U, Pt.locs, Pt.cells, Pt.slots] at X51 l51 y51 z51 st51 hQ51
  subst l51 y51 z51
  obtain ⟨hq51, N51q, e51⟩ := hQ51
  have hq51 : rv51 = some (.int c0) := hq51
  subst hq51
  have N51 := Fr.app N49 N51q
  refine Gl.st (g' := (mkF m 15 #[vR a, vI (0 : Int32)] [(.int c0)])) (fun τ κ => st51.trans κ) ?_
  refine Gl.st (g' := (mkF m 17 #[vR a, vI (0 : Int32)] [(.int (32 : Int32)), (.int c0)])) (fun τ κ => XS.bipush X51.here hx rfl (hb hby d5_15) κ) ?_
  by_cases hc52 : c0 < (32 : Int32)
  · -- pc 17: c0 < (32 : Int32)
    refine Gl.st (g' := (mkF m 31 #[vR a, vI (0 : Int32)] [(.int (0 : Int32))])) (fun τ κ => XS.icmpYes X51.here hx rfl (pc0 := 17) (pc' := 30) rfl (hb hby d5_17) rfl (tlt hc52).1 (by decide) (by decide) (XS.iconst X51.here hx rfl (hb hby d5_30) κ)) ?_
    exact Gl.ret (v := some (.int (0 : Int32))) X51 Bd.notSynchronized (fun h => by rw [Bd.returns] at h; cases h) e51 (fun fs hr => retN X51 hx (t := .boolean) Bd.returns (by simp) (hb hby d5_31) hr) (by decide) (by decide) ⟨by simp only [own_pr, hc52, if_true, if_false], N51, rfl⟩
  · -- pc 17: not c0 < (32 : Int32)
    refine Gl.st (g' := (mkF m 21 #[vR a, vI (0 : Int32)] [(.ref a)])) (fun τ κ => XS.icmpNo X51.here hx rfl (hb hby d5_17) rfl (flt hc52).1 (XS.aloadN X51.here hx rfl (hb hby d5_20) rfl rfl κ)) ?_
    refine Gl.st (g' := (mkF m 22 #[vR a, vI (0 : Int32)] [(.int (0 : Int32)), (.ref a)])) (fun τ κ => XS.iloadN X51.here hx rfl (hb hby d5_21) rfl κ) ?_
    obtain ⟨cq53, kq53, q53a, q53b, q53c⟩ := isOf hZ e51 HS.1
    obtain ⟨rv53, _, ⟨T53, L53, k53, n53⟩, -, X53, ⟨Lc53, hQ53, l53, y53, z53⟩, st53⟩ := X51.virtualBack hx (y := (⟨"java/lang/String", "charAt", "(I)C"⟩ : MethodName)) (z := (⟨"java/lang/String", "charAt", "(I)C"⟩ : MethodName)) hown (mvT hZ (w56_ hw)) (mvT hZ (w57_ hw)) (notFace_of_selects (args := #[]) (mvT hZ (w59_ hw))) (mvT hZ (w59_ hw)) (mvT hZ (w58_ hw)) (by decide) (backOf (W := 0) (rm12 l Z a0 hw [] a (0 : Int32) (1 : Int32) cs [c0] ff h0 n0 Z0 S0 hcs SA SH SL SF isr_ff HS (by decide) (by decide)) hZ (w60_ hw) (w8_ hw) (by decide) (by decide)) q53a q53c (g := (mkF m 22 #[vR a, vI (0 : Int32)] [(.int (0 : Int32)), (.ref a)])) rfl (by rw [hml]; rfl) (Steps.refl _) (argsL := [(.int (0 : Int32))]) (rest := []) (lenOf pd_8 rfl) rfl (by show 2 * 0 + _ ≤ _; exact Nat.le_of_eq rfl) (hb hby d5_22) (fun _ _ => ⟨rfl, e51, (by decide : 0 + 0 ≤ _), (by decide : 0 + 0 ≤ _)⟩)
    dsimp only [Pt.U, Pt.locs, Pt.cells, Pt.slots] at X53 l53 y53 z53 st53 hQ53
    subst l53 y53 z53
    obtain ⟨hq53, N53q, e53⟩ := hQ53
    have hq53 : rv53 = some (.int c0) := hq53
    subst hq53
    have N53 := Fr.app N51 N53q
    refine Gl.st (g' := (mkF m 25 #[vR a, vI (0 : Int32)] [(.int c0)])) (fun τ κ => st53.trans κ) ?_
    refine Gl.st (g' := (mkF m 27 #[vR a, vI (0 : Int32)] [(.int (126 : Int32)), (.int c0)])) (fun τ κ => XS.bipush X53.here hx rfl (hb hby d5_25) κ) ?_
    by_cases hc54 : (126 : Int32) < c0
    · -- pc 27: (126 : Int32) < c0
      refine Gl.st (g' := (mkF m 31 #[vR a, vI (0 : Int32)] [(.int (0 : Int32))])) (fun τ κ => XS.icmpNo X53.here hx rfl (hb hby d5_27) rfl (tlt hc54).2.2.2 (XS.iconst X53.here hx rfl (hb hby d5_30) κ)) ?_
      exact Gl.ret (v := some (.int (0 : Int32))) X53 Bd.notSynchronized (fun h => by rw [Bd.returns] at h; cases h) e53 (fun fs hr => retN X53 hx (t := .boolean) Bd.returns (by simp) (hb hby d5_31) hr) (by decide) (by decide) ⟨by simp only [own_pr, hc52, hc54, if_true, if_false], N53, rfl⟩
    · -- pc 27: not (126 : Int32) < c0
      refine Gl.st (g' := (mkF m 35 #[vR a, vI (1 : Int32)] [])) (fun τ κ => XS.icmpYes X53.here hx rfl (pc0 := 27) (pc' := 32) rfl (hb hby d5_27) rfl (flt hc54).2.2.2 (by decide) (by decide) (XS.iinc X53.here hx rfl (hb hby d5_32) rfl (l' := #[vR a, vI (1 : Int32)]) rfl κ)) ?_
      refine Gl.st (g' := (mkF m 3 #[vR a, vI (1 : Int32)] [(.int (1 : Int32))])) (fun τ κ => XS.goto X53.here hx rfl (pc0 := 35) (pc' := 2) rfl (hb hby d5_35) (by decide) (by decide) (XS.iloadN X53.here hx rfl (hb hby d5_2) rfl κ)) ?_
      refine Gl.st (g' := (mkF m 4 #[vR a, vI (1 : Int32)] [(.ref a), (.int (1 : Int32))])) (fun τ κ => XS.aloadN X53.here hx rfl (hb hby d5_3) rfl rfl κ) ?_
      obtain ⟨cq55, kq55, q55a, q55b, q55c⟩ := isOf hZ e53 HS.1
      obtain ⟨rv55, _, ⟨T55, L55, k55, n55⟩, -, X55, ⟨Lc55, hQ55, l55, y55, z55⟩, st55⟩ := X53.virtualBack hx (y := (⟨"java/lang/String", "length", "()I"⟩ : MethodName)) (z := (⟨"java/lang/String", "length", "()I"⟩ : MethodName)) hown (mvT hZ (w32_ hw)) (mvT hZ (w33_ hw)) (notFace_of_selects (args := #[]) (mvT hZ (w35_ hw))) (mvT hZ (w35_ hw)) (mvT hZ (w34_ hw)) (by decide) (backOf (W := 1) (rm6 l Z a0 hw [] a (1 : Int32) cs [c0] h0 n0 Z0 S0 hcs HS) hZ (w36_ hw) (w8_ hw) (by decide) (by decide)) q55a q55c (g := (mkF m 4 #[vR a, vI (1 : Int32)] [(.ref a), (.int (1 : Int32))])) rfl (by rw [hml]; rfl) (Steps.refl _) (argsL := []) (rest := [(.int (1 : Int32))]) (lenOf pd_7 rfl) rfl (by show 2 * 0 + _ ≤ _; exact Nat.le_of_eq rfl) (hb hby d5_4) (fun _ _ => ⟨rfl, e53, (by decide : 0 + 0 ≤ _), (by decide : 0 + 0 ≤ _)⟩)
      dsimp only [Pt.U, Pt.locs, Pt.cells, Pt.slots] at X55 l55 y55 z55 st55 hQ55
      subst l55 y55 z55
      obtain ⟨hq55, N55q, e55⟩ := hQ55
      have hq55 : rv55 = some (.int (1 : Int32)) := hq55
      subst hq55
      have N55 := Fr.app N53 N55q
      refine Gl.st (g' := (mkF m 7 #[vR a, vI (1 : Int32)] [(.int (1 : Int32)), (.int (1 : Int32))])) (fun τ κ => st55.trans κ) ?_
      have hc56 : ¬ ((1 : Int32) < (1 : Int32)) := by decide
      refine Gl.st (g' := (mkF m 39 #[vR a, vI (1 : Int32)] [(.int (1 : Int32))])) (fun τ κ => XS.icmpYes X55.here hx rfl (pc0 := 7) (pc' := 38) rfl (hb hby d5_7) rfl (flt hc56).2.1 (by decide) (by decide) (XS.iconst X55.here hx rfl (hb hby d5_38) κ)) ?_
      exact Gl.ret (v := some (.int (1 : Int32))) X55 Bd.notSynchronized (fun h => by rw [Bd.returns] at h; cases h) e55 (fun fs hr => retN X55 hx (t := .boolean) Bd.returns (by simp) (hb hby d5_39) hr) (by decide) (by decide) ⟨by simp only [own_pr, hc52, hc54, if_true, if_false], N55, rfl⟩
theorem ef_rm5_2 (m : MethodId) (a : Addr) : entryFrame m #[(.ref a)] 2 = mkF m 0 #[vR a, .unset] [] := by first | (simp [entryFrame, mkF, argsToLocals, Value.category]; done) | rfl
def Q_rm5_2 (Z : State) (a : Addr) (cs c0 c1 : Int32) (ff : Value) (h0 : Heap) (n0 : Nat) (v : Option Value) (h : Heap) (L : List Loc) : Prop := v = some (.int (own_pr [c0, c1])) ∧ Fr n0 L ∧ h = h0
set_option maxRecDepth 65536 in
set_option maxHeartbeats 40000000 in
theorem rm5_2 (l : Launch) (Z : State) (a0 : Array Value) (hw : ∀ d ∈ tables_1, d.before a0 Z = true) (ws : List Jvm.Cond) (a : Addr) (cs c0 c1 : Int32) (ff : Value) (h0 : Heap) (n0 : Nat) (Z0 : n0 ≤ h0.size) (S0 : Sta Z h0 "java/lang/String" "COMPACT_STRINGS" "Z" (.int cs)) (hcs : ¬ cs = (0 : Int32)) (SA : Sta Z h0 "java/lang/StringUTF16" "$assertionsDisabled" "Z" (.int (1 : Int32))) (SH : Sta Z h0 "java/lang/StringUTF16" "HI_BYTE_SHIFT" "I" (.int (0 : Int32))) (SL : Sta Z h0 "java/lang/StringUTF16" "LO_BYTE_SHIFT" "I" (.int (8 : Int32))) (SF : Sta Z h0 "jdk/internal/util/Preconditions" "SIOOBE_FORMATTER" "Ljava/util/function/BiFunction;" ff) (isr_ff : ff.isRef = true) (HS : own_str Z h0 a (2 : Int32) [c0, c1]) :
    MetFree l (⟨"com/example/sealgrant/sealgrant/Ascii", "printable", "(Ljava/lang/String;)Z"⟩ : MethodName) (head1 (Jvm.Cond.code (⟨"com/example/sealgrant/sealgrant/Ascii", "printable", "(Ljava/lang/String;)Z"⟩ : MethodName) prog_1_method_4_code 2 (some .boolean) :: ws) ({ frames := 5, cells := 0, slots := 0, locals := 66 } : Room)) (fun aα Uα => aα = #[(.ref a)] ∧ Z.Warmed39 Uα.vm ∧ Uα.heap = h0) (fun _ _ _ _ _ => True) (fun _ Uα oα Uβ => ∃ vα Lα, oα = .returned vα ∧ Q_rm5_2 Z a cs c0 c1 ff h0 n0 vα Uβ.heap Lα ∧ FrameEnd Uα oα Uβ Lα ({ frames := 5, cells := 0, slots := 0, locals := 66 } : Room).cells ({ frames := 5, cells := 0, slots := 0, locals := 66 } : Room).slots) := by
  refine MetFree.of_bodySF (plainFor_of_name pn_com_example_sealgrant_sealgrant_Ascii) hisR ?_
  intro p e s m args below meth c s₁ Bd hml0 hP hKα
  obtain ⟨rfl, hZ, hh⟩ := hP
  have hx := Bd.exec
  have hby := Bd.bytes
  have hml : c.maxLocals = 2 := hml0
  have hown : s.vm.findClass "com/example/sealgrant/sealgrant/Ascii" = some m.cls := findClass_of_methodNamed Bd.named
  have hnm := (name_of_methodNamed Bd.named Bd.method).1
  have X0 : Stand p l e ({ frames := 5, cells := 0, slots := 0, locals := 66 } : Room) s m #[(.ref a)] below meth c s₁ [] 0 0 := Stand.of_body Bd
  have e0 : s₁.heap = h0 := by rw [← hh, Bd.state]; rfl
  have N0 := Fr.nil n0
  suffices k0 : Gl p e below s (Q_rm5_2 Z a cs c0 c1 ff h0 n0) ({ frames := 5, cells := 0, slots := 0, locals := 66 } : Room).cells ({ frames := 5, cells := 0, slots := 0, locals := 66 } : Room).slots s₁ (mkF m 0 #[vR a, .unset] []) from Gl.st (fun τ κ => castTop (ef_rm5_2 m a) κ) k0
  refine Gl.st (g' := (mkF m 2 #[vR a, vI (0 : Int32)] [])) (fun τ κ => XS.iconst X0.here hx rfl (hb hby d5_0) (XS.istoreN X0.here hx rfl (hb hby d5_1) rfl (l' := #[vR a, vI (0 : Int32)]) rfl κ)) ?_
  refine Gl.st (g' := (mkF m 4 #[vR a, vI (0 : Int32)] [(.ref a), (.int (0 : Int32))])) (fun τ κ => XS.iloadN X0.here hx rfl (hb hby d5_2) rfl (XS.aloadN X0.here hx rfl (hb hby d5_3) rfl rfl κ)) ?_
  obtain ⟨cq57, kq57, q57a, q57b, q57c⟩ := isOf hZ e0 HS.1
  obtain ⟨rv57, _, ⟨T57, L57, k57, n57⟩, -, X57, ⟨Lc57, hQ57, l57, y57, z57⟩, st57⟩ := X0.virtualBack hx (y := (⟨"java/lang/String", "length", "()I"⟩ : MethodName)) (z := (⟨"java/lang/String", "length", "()I"⟩ : MethodName)) hown (mvT hZ (w32_ hw)) (mvT hZ (w33_ hw)) (notFace_of_selects (args := #[]) (mvT hZ (w35_ hw))) (mvT hZ (w35_ hw)) (mvT hZ (w34_ hw)) (by decide) (backOf (W := 1) (rm6 l Z a0 hw [] a (2 : Int32) cs [c0, c1] h0 n0 Z0 S0 hcs HS) hZ (w36_ hw) (w8_ hw) (by decide) (by decide)) q57a q57c (g := (mkF m 4 #[vR a, vI (0 : Int32)] [(.ref a), (.int (0 : Int32))])) rfl (by rw [hml]; rfl) (Steps.refl _) (argsL := []) (rest := [(.int (0 : Int32))]) (lenOf pd_7 rfl) rfl (by show 2 * 0 + _ ≤ _; exact Nat.le_of_eq rfl) (hb hby d5_4) (fun _ _ => ⟨rfl, e0, (by decide : 0 + 0 ≤ _), (by decide : 0 + 0 ≤ _)⟩)
  dsimp only [Pt.U, Pt.locs, Pt.cells, Pt.slots] at X57 l57 y57 z57 st57 hQ57
  subst l57 y57 z57
  obtain ⟨hq57, N57q, e57⟩ := hQ57
  have hq57 : rv57 = some (.int (2 : Int32)) := hq57
  subst hq57
  have N57 := Fr.app N0 N57q
  refine Gl.st (g' := (mkF m 7 #[vR a, vI (0 : Int32)] [(.int (2 : Int32)), (.int (0 : Int32))])) (fun τ κ => st57.trans κ) ?_
  have hc58 : (0 : Int32) < (2 : Int32) := by decide
  refine Gl.st (g' := (mkF m 11 #[vR a, vI (0 : Int32)] [(.ref a)])) (fun τ κ => XS.icmpNo X57.here hx rfl (hb hby d5_7) rfl (tlt hc58).2.1 (XS.aloadN X57.here hx rfl (hb hby d5_10) rfl rfl κ)) ?_
  refine Gl.st (g' := (mkF m 12 #[vR a, vI (0 : Int32)] [(.int (0 : Int32)), (.ref a)])) (fun τ κ => XS.iloadN X57.here hx rfl (hb hby d5_11) rfl κ) ?_
  obtain ⟨cq59, kq59, q59a, q59b, q59c⟩ := isOf hZ e57 HS.1
  obtain ⟨rv59, _, ⟨T59, L59, k59, n59⟩, -, X59, ⟨Lc59, hQ59, l59, y59, z59⟩, st59⟩ := X57.virtualBack hx (y := (⟨"java/lang/String", "charAt", "(I)C"⟩ : MethodName)) (z := (⟨"java/lang/String", "charAt", "(I)C"⟩ : MethodName)) hown (mvT hZ (w56_ hw)) (mvT hZ (w57_ hw)) (notFace_of_selects (args := #[]) (mvT hZ (w59_ hw))) (mvT hZ (w59_ hw)) (mvT hZ (w58_ hw)) (by decide) (backOf (W := 0) (rm12 l Z a0 hw [] a (0 : Int32) (2 : Int32) cs [c0, c1] ff h0 n0 Z0 S0 hcs SA SH SL SF isr_ff HS (by decide) (by decide)) hZ (w60_ hw) (w8_ hw) (by decide) (by decide)) q59a q59c (g := (mkF m 12 #[vR a, vI (0 : Int32)] [(.int (0 : Int32)), (.ref a)])) rfl (by rw [hml]; rfl) (Steps.refl _) (argsL := [(.int (0 : Int32))]) (rest := []) (lenOf pd_8 rfl) rfl (by show 2 * 0 + _ ≤ _; exact Nat.le_of_eq rfl) (hb hby d5_12) (fun _ _ => ⟨rfl, e57, (by decide : 0 + 0 ≤ _), (by decide : 0 + 0 ≤ _)⟩)
  dsimp only [Pt.U, Pt.locs, Pt.cells, Pt.slots] at X59 l59 y59 z59 st59 hQ59
  subst l59 y59 z59
  obtain ⟨hq59, N59q, e59⟩ := hQ59
  have hq59 : rv59 = some (.int c0) := hq59
  subst hq59
  have N59 := Fr.app N57 N59q
  refine Gl.st (g' := (mkF m 15 #[vR a, vI (0 : Int32)] [(.int c0)])) (fun τ κ => st59.trans κ) ?_
  refine Gl.st (g' := (mkF m 17 #[vR a, vI (0 : Int32)] [(.int (32 : Int32)), (.int c0)])) (fun τ κ => XS.bipush X59.here hx rfl (hb hby d5_15) κ) ?_
  by_cases hc60 : c0 < (32 : Int32)
  · -- pc 17: c0 < (32 : Int32)
    refine Gl.st (g' := (mkF m 31 #[vR a, vI (0 : Int32)] [(.int (0 : Int32))])) (fun τ κ => XS.icmpYes X59.here hx rfl (pc0 := 17) (pc' := 30) rfl (hb hby d5_17) rfl (tlt hc60).1 (by decide) (by decide) (XS.iconst X59.here hx rfl (hb hby d5_30) κ)) ?_
    exact Gl.ret (v := some (.int (0 : Int32))) X59 Bd.notSynchronized (fun h => by rw [Bd.returns] at h; cases h) e59 (fun fs hr => retN X59 hx (t := .boolean) Bd.returns (by simp) (hb hby d5_31) hr) (by decide) (by decide) ⟨by simp only [own_pr, hc60, if_true, if_false], N59, rfl⟩
  · -- pc 17: not c0 < (32 : Int32)
    refine Gl.st (g' := (mkF m 21 #[vR a, vI (0 : Int32)] [(.ref a)])) (fun τ κ => XS.icmpNo X59.here hx rfl (hb hby d5_17) rfl (flt hc60).1 (XS.aloadN X59.here hx rfl (hb hby d5_20) rfl rfl κ)) ?_
    refine Gl.st (g' := (mkF m 22 #[vR a, vI (0 : Int32)] [(.int (0 : Int32)), (.ref a)])) (fun τ κ => XS.iloadN X59.here hx rfl (hb hby d5_21) rfl κ) ?_
    obtain ⟨cq61, kq61, q61a, q61b, q61c⟩ := isOf hZ e59 HS.1
    obtain ⟨rv61, _, ⟨T61, L61, k61, n61⟩, -, X61, ⟨Lc61, hQ61, l61, y61, z61⟩, st61⟩ := X59.virtualBack hx (y := (⟨"java/lang/String", "charAt", "(I)C"⟩ : MethodName)) (z := (⟨"java/lang/String", "charAt", "(I)C"⟩ : MethodName)) hown (mvT hZ (w56_ hw)) (mvT hZ (w57_ hw)) (notFace_of_selects (args := #[]) (mvT hZ (w59_ hw))) (mvT hZ (w59_ hw)) (mvT hZ (w58_ hw)) (by decide) (backOf (W := 0) (rm12 l Z a0 hw [] a (0 : Int32) (2 : Int32) cs [c0, c1] ff h0 n0 Z0 S0 hcs SA SH SL SF isr_ff HS (by decide) (by decide)) hZ (w60_ hw) (w8_ hw) (by decide) (by decide)) q61a q61c (g := (mkF m 22 #[vR a, vI (0 : Int32)] [(.int (0 : Int32)), (.ref a)])) rfl (by rw [hml]; rfl) (Steps.refl _) (argsL := [(.int (0 : Int32))]) (rest := []) (lenOf pd_8 rfl) rfl (by show 2 * 0 + _ ≤ _; exact Nat.le_of_eq rfl) (hb hby d5_22) (fun _ _ => ⟨rfl, e59, (by decide : 0 + 0 ≤ _), (by decide : 0 + 0 ≤ _)⟩)
    dsimp only [Pt.U, Pt.locs, Pt.cells, Pt.slots] at X61 l61 y61 z61 st61 hQ61
    subst l61 y61 z61
    obtain ⟨hq61, N61q, e61⟩ := hQ61
    have hq61 : rv61 = some (.int c0) := hq61
    subst hq61
    have N61 := Fr.app N59 N61q
    refine Gl.st (g' := (mkF m 25 #[vR a, vI (0 : Int32)] [(.int c0)])) (fun τ κ => st61.trans κ) ?_
    refine Gl.st (g' := (mkF m 27 #[vR a, vI (0 : Int32)] [(.int (126 : Int32)), (.int c0)])) (fun τ κ => XS.bipush X61.here hx rfl (hb hby d5_25) κ) ?_
    by_cases hc62 : (126 : Int32) < c0
    · -- pc 27: (126 : Int32) < c0
      refine Gl.st (g' := (mkF m 31 #[vR a, vI (0 : Int32)] [(.int (0 : Int32))])) (fun τ κ => XS.icmpNo X61.here hx rfl (hb hby d5_27) rfl (tlt hc62).2.2.2 (XS.iconst X61.here hx rfl (hb hby d5_30) κ)) ?_
      exact Gl.ret (v := some (.int (0 : Int32))) X61 Bd.notSynchronized (fun h => by rw [Bd.returns] at h; cases h) e61 (fun fs hr => retN X61 hx (t := .boolean) Bd.returns (by simp) (hb hby d5_31) hr) (by decide) (by decide) ⟨by simp only [own_pr, hc60, hc62, if_true, if_false], N61, rfl⟩
    · -- pc 27: not (126 : Int32) < c0
      refine Gl.st (g' := (mkF m 35 #[vR a, vI (1 : Int32)] [])) (fun τ κ => XS.icmpYes X61.here hx rfl (pc0 := 27) (pc' := 32) rfl (hb hby d5_27) rfl (flt hc62).2.2.2 (by decide) (by decide) (XS.iinc X61.here hx rfl (hb hby d5_32) rfl (l' := #[vR a, vI (1 : Int32)]) rfl κ)) ?_
      refine Gl.st (g' := (mkF m 3 #[vR a, vI (1 : Int32)] [(.int (1 : Int32))])) (fun τ κ => XS.goto X61.here hx rfl (pc0 := 35) (pc' := 2) rfl (hb hby d5_35) (by decide) (by decide) (XS.iloadN X61.here hx rfl (hb hby d5_2) rfl κ)) ?_
      refine Gl.st (g' := (mkF m 4 #[vR a, vI (1 : Int32)] [(.ref a), (.int (1 : Int32))])) (fun τ κ => XS.aloadN X61.here hx rfl (hb hby d5_3) rfl rfl κ) ?_
      obtain ⟨cq63, kq63, q63a, q63b, q63c⟩ := isOf hZ e61 HS.1
      obtain ⟨rv63, _, ⟨T63, L63, k63, n63⟩, -, X63, ⟨Lc63, hQ63, l63, y63, z63⟩, st63⟩ := X61.virtualBack hx (y := (⟨"java/lang/String", "length", "()I"⟩ : MethodName)) (z := (⟨"java/lang/String", "length", "()I"⟩ : MethodName)) hown (mvT hZ (w32_ hw)) (mvT hZ (w33_ hw)) (notFace_of_selects (args := #[]) (mvT hZ (w35_ hw))) (mvT hZ (w35_ hw)) (mvT hZ (w34_ hw)) (by decide) (backOf (W := 1) (rm6 l Z a0 hw [] a (2 : Int32) cs [c0, c1] h0 n0 Z0 S0 hcs HS) hZ (w36_ hw) (w8_ hw) (by decide) (by decide)) q63a q63c (g := (mkF m 4 #[vR a, vI (1 : Int32)] [(.ref a), (.int (1 : Int32))])) rfl (by rw [hml]; rfl) (Steps.refl _) (argsL := []) (rest := [(.int (1 : Int32))]) (lenOf pd_7 rfl) rfl (by show 2 * 0 + _ ≤ _; exact Nat.le_of_eq rfl) (hb hby d5_4) (fun _ _ => ⟨rfl, e61, (by decide : 0 + 0 ≤ _), (by decide : 0 + 0 ≤ _)⟩)
      dsimp only [Pt.U, Pt.locs, Pt.cells, Pt.slots] at X63 l63 y63 z63 st63 hQ63
      subst l63 y63 z63
      obtain ⟨hq63, N63q, e63⟩ := hQ63
      have hq63 : rv63 = some (.int (2 : Int32)) := hq63
      subst hq63
      have N63 := Fr.app N61 N63q
      refine Gl.st (g' := (mkF m 7 #[vR a, vI (1 : Int32)] [(.int (2 : Int32)), (.int (1 : Int32))])) (fun τ κ => st63.trans κ) ?_
      have hc64 : (1 : Int32) < (2 : Int32) := by decide
      refine Gl.st (g' := (mkF m 11 #[vR a, vI (1 : Int32)] [(.ref a)])) (fun τ κ => XS.icmpNo X63.here hx rfl (hb hby d5_7) rfl (tlt hc64).2.1 (XS.aloadN X63.here hx rfl (hb hby d5_10) rfl rfl κ)) ?_
      refine Gl.st (g' := (mkF m 12 #[vR a, vI (1 : Int32)] [(.int (1 : Int32)), (.ref a)])) (fun τ κ => XS.iloadN X63.here hx rfl (hb hby d5_11) rfl κ) ?_
      obtain ⟨cq65, kq65, q65a, q65b, q65c⟩ := isOf hZ e63 HS.1
      obtain ⟨rv65, _, ⟨T65, L65, k65, n65⟩, -, X65, ⟨Lc65, hQ65, l65, y65, z65⟩, st65⟩ := X63.virtualBack hx (y := (⟨"java/lang/String", "charAt", "(I)C"⟩ : MethodName)) (z := (⟨"java/lang/String", "charAt", "(I)C"⟩ : MethodName)) hown (mvT hZ (w56_ hw)) (mvT hZ (w57_ hw)) (notFace_of_selects (args := #[]) (mvT hZ (w59_ hw))) (mvT hZ (w59_ hw)) (mvT hZ (w58_ hw)) (by decide) (backOf (W := 0) (rm12 l Z a0 hw [] a (1 : Int32) (2 : Int32) cs [c0, c1] ff h0 n0 Z0 S0 hcs SA SH SL SF isr_ff HS (by decide) (by decide)) hZ (w60_ hw) (w8_ hw) (by decide) (by decide)) q65a q65c (g := (mkF m 12 #[vR a, vI (1 : Int32)] [(.int (1 : Int32)), (.ref a)])) rfl (by rw [hml]; rfl) (Steps.refl _) (argsL := [(.int (1 : Int32))]) (rest := []) (lenOf pd_8 rfl) rfl (by show 2 * 0 + _ ≤ _; exact Nat.le_of_eq rfl) (hb hby d5_12) (fun _ _ => ⟨rfl, e63, (by decide : 0 + 0 ≤ _), (by decide : 0 + 0 ≤ _)⟩)
      dsimp only [Pt.U, Pt.locs, Pt.cells, Pt.slots] at X65 l65 y65 z65 st65 hQ65
      subst l65 y65 z65
      obtain ⟨hq65, N65q, e65⟩ := hQ65
      have hq65 : rv65 = some (.int c1) := hq65
      subst hq65
      have N65 := Fr.app N63 N65q
      refine Gl.st (g' := (mkF m 15 #[vR a, vI (1 : Int32)] [(.int c1)])) (fun τ κ => st65.trans κ) ?_
      refine Gl.st (g' := (mkF m 17 #[vR a, vI (1 : Int32)] [(.int (32 : Int32)), (.int c1)])) (fun τ κ => XS.bipush X65.here hx rfl (hb hby d5_15) κ) ?_
      by_cases hc66 : c1 < (32 : Int32)
      · -- pc 17: c1 < (32 : Int32)
        refine Gl.st (g' := (mkF m 31 #[vR a, vI (1 : Int32)] [(.int (0 : Int32))])) (fun τ κ => XS.icmpYes X65.here hx rfl (pc0 := 17) (pc' := 30) rfl (hb hby d5_17) rfl (tlt hc66).1 (by decide) (by decide) (XS.iconst X65.here hx rfl (hb hby d5_30) κ)) ?_
        exact Gl.ret (v := some (.int (0 : Int32))) X65 Bd.notSynchronized (fun h => by rw [Bd.returns] at h; cases h) e65 (fun fs hr => retN X65 hx (t := .boolean) Bd.returns (by simp) (hb hby d5_31) hr) (by decide) (by decide) ⟨by simp only [own_pr, hc60, hc62, hc66, if_true, if_false], N65, rfl⟩
      · -- pc 17: not c1 < (32 : Int32)
        refine Gl.st (g' := (mkF m 21 #[vR a, vI (1 : Int32)] [(.ref a)])) (fun τ κ => XS.icmpNo X65.here hx rfl (hb hby d5_17) rfl (flt hc66).1 (XS.aloadN X65.here hx rfl (hb hby d5_20) rfl rfl κ)) ?_
        refine Gl.st (g' := (mkF m 22 #[vR a, vI (1 : Int32)] [(.int (1 : Int32)), (.ref a)])) (fun τ κ => XS.iloadN X65.here hx rfl (hb hby d5_21) rfl κ) ?_
        obtain ⟨cq67, kq67, q67a, q67b, q67c⟩ := isOf hZ e65 HS.1
        obtain ⟨rv67, _, ⟨T67, L67, k67, n67⟩, -, X67, ⟨Lc67, hQ67, l67, y67, z67⟩, st67⟩ := X65.virtualBack hx (y := (⟨"java/lang/String", "charAt", "(I)C"⟩ : MethodName)) (z := (⟨"java/lang/String", "charAt", "(I)C"⟩ : MethodName)) hown (mvT hZ (w56_ hw)) (mvT hZ (w57_ hw)) (notFace_of_selects (args := #[]) (mvT hZ (w59_ hw))) (mvT hZ (w59_ hw)) (mvT hZ (w58_ hw)) (by decide) (backOf (W := 0) (rm12 l Z a0 hw [] a (1 : Int32) (2 : Int32) cs [c0, c1] ff h0 n0 Z0 S0 hcs SA SH SL SF isr_ff HS (by decide) (by decide)) hZ (w60_ hw) (w8_ hw) (by decide) (by decide)) q67a q67c (g := (mkF m 22 #[vR a, vI (1 : Int32)] [(.int (1 : Int32)), (.ref a)])) rfl (by rw [hml]; rfl) (Steps.refl _) (argsL := [(.int (1 : Int32))]) (rest := []) (lenOf pd_8 rfl) rfl (by show 2 * 0 + _ ≤ _; exact Nat.le_of_eq rfl) (hb hby d5_22) (fun _ _ => ⟨rfl, e65, (by decide : 0 + 0 ≤ _), (by decide : 0 + 0 ≤ _)⟩)
        dsimp only [Pt.U, Pt.locs, Pt.cells, Pt.slots] at X67 l67 y67 z67 st67 hQ67
        subst l67 y67 z67
        obtain ⟨hq67, N67q, e67⟩ := hQ67
        have hq67 : rv67 = some (.int c1) := hq67
        subst hq67
        have N67 := Fr.app N65 N67q
        refine Gl.st (g' := (mkF m 25 #[vR a, vI (1 : Int32)] [(.int c1)])) (fun τ κ => st67.trans κ) ?_
        refine Gl.st (g' := (mkF m 27 #[vR a, vI (1 : Int32)] [(.int (126 : Int32)), (.int c1)])) (fun τ κ => XS.bipush X67.here hx rfl (hb hby d5_25) κ) ?_
        by_cases hc68 : (126 : Int32) < c1
        · -- pc 27: (126 : Int32) < c1
          refine Gl.st (g' := (mkF m 31 #[vR a, vI (1 : Int32)] [(.int (0 : Int32))])) (fun τ κ => XS.icmpNo X67.here hx rfl (hb hby d5_27) rfl (tlt hc68).2.2.2 (XS.iconst X67.here hx rfl (hb hby d5_30) κ)) ?_
          exact Gl.ret (v := some (.int (0 : Int32))) X67 Bd.notSynchronized (fun h => by rw [Bd.returns] at h; cases h) e67 (fun fs hr => retN X67 hx (t := .boolean) Bd.returns (by simp) (hb hby d5_31) hr) (by decide) (by decide) ⟨by simp only [own_pr, hc60, hc62, hc66, hc68, if_true, if_false], N67, rfl⟩
        · -- pc 27: not (126 : Int32) < c1
          refine Gl.st (g' := (mkF m 35 #[vR a, vI (2 : Int32)] [])) (fun τ κ => XS.icmpYes X67.here hx rfl (pc0 := 27) (pc' := 32) rfl (hb hby d5_27) rfl (flt hc68).2.2.2 (by decide) (by decide) (XS.iinc X67.here hx rfl (hb hby d5_32) rfl (l' := #[vR a, vI (2 : Int32)]) rfl κ)) ?_
          refine Gl.st (g' := (mkF m 3 #[vR a, vI (2 : Int32)] [(.int (2 : Int32))])) (fun τ κ => XS.goto X67.here hx rfl (pc0 := 35) (pc' := 2) rfl (hb hby d5_35) (by decide) (by decide) (XS.iloadN X67.here hx rfl (hb hby d5_2) rfl κ)) ?_
          refine Gl.st (g' := (mkF m 4 #[vR a, vI (2 : Int32)] [(.ref a), (.int (2 : Int32))])) (fun τ κ => XS.aloadN X67.here hx rfl (hb hby d5_3) rfl rfl κ) ?_
          obtain ⟨cq69, kq69, q69a, q69b, q69c⟩ := isOf hZ e67 HS.1
          obtain ⟨rv69, _, ⟨T69, L69, k69, n69⟩, -, X69, ⟨Lc69, hQ69, l69, y69, z69⟩, st69⟩ := X67.virtualBack hx (y := (⟨"java/lang/String", "length", "()I"⟩ : MethodName)) (z := (⟨"java/lang/String", "length", "()I"⟩ : MethodName)) hown (mvT hZ (w32_ hw)) (mvT hZ (w33_ hw)) (notFace_of_selects (args := #[]) (mvT hZ (w35_ hw))) (mvT hZ (w35_ hw)) (mvT hZ (w34_ hw)) (by decide) (backOf (W := 1) (rm6 l Z a0 hw [] a (2 : Int32) cs [c0, c1] h0 n0 Z0 S0 hcs HS) hZ (w36_ hw) (w8_ hw) (by decide) (by decide)) q69a q69c (g := (mkF m 4 #[vR a, vI (2 : Int32)] [(.ref a), (.int (2 : Int32))])) rfl (by rw [hml]; rfl) (Steps.refl _) (argsL := []) (rest := [(.int (2 : Int32))]) (lenOf pd_7 rfl) rfl (by show 2 * 0 + _ ≤ _; exact Nat.le_of_eq rfl) (hb hby d5_4) (fun _ _ => ⟨rfl, e67, (by decide : 0 + 0 ≤ _), (by decide : 0 + 0 ≤ _)⟩)
          dsimp only [Pt.U, Pt.locs, Pt.cells, Pt.slots] at X69 l69 y69 z69 st69 hQ69
          subst l69 y69 z69
          obtain ⟨hq69, N69q, e69⟩ := hQ69
          have hq69 : rv69 = some (.int (2 : Int32)) := hq69
          subst hq69
          have N69 := Fr.app N67 N69q
          refine Gl.st (g' := (mkF m 7 #[vR a, vI (2 : Int32)] [(.int (2 : Int32)), (.int (2 : Int32))])) (fun τ κ => st69.trans κ) ?_
          have hc70 : ¬ ((2 : Int32) < (2 : Int32)) := by decide
          refine Gl.st (g' := (mkF m 39 #[vR a, vI (2 : Int32)] [(.int (1 : Int32))])) (fun τ κ => XS.icmpYes X69.here hx rfl (pc0 := 7) (pc' := 38) rfl (hb hby d5_7) rfl (flt hc70).2.1 (by decide) (by decide) (XS.iconst X69.here hx rfl (hb hby d5_38) κ)) ?_
          exact Gl.ret (v := some (.int (1 : Int32))) X69 Bd.notSynchronized (fun h => by rw [Bd.returns] at h; cases h) e69 (fun fs hr => retN X69 hx (t := .boolean) Bd.returns (by simp) (hb hby d5_39) hr) (by decide) (by decide) ⟨by simp only [own_pr, hc60, hc62, hc66, hc68, if_true, if_false], N69, rfl⟩
theorem ef_rm5_3 (m : MethodId) (a : Addr) : entryFrame m #[(.ref a)] 2 = mkF m 0 #[vR a, .unset] [] := by first | (simp [entryFrame, mkF, argsToLocals, Value.category]; done) | rfl
def Q_rm5_3 (Z : State) (a : Addr) (cs c0 c1 c2 : Int32) (ff : Value) (h0 : Heap) (n0 : Nat) (v : Option Value) (h : Heap) (L : List Loc) : Prop := v = some (.int (own_pr [c0, c1, c2])) ∧ Fr n0 L ∧ h = h0
set_option maxRecDepth 65536 in
set_option maxHeartbeats 40000000 in
theorem rm5_3 (l : Launch) (Z : State) (a0 : Array Value) (hw : ∀ d ∈ tables_1, d.before a0 Z = true) (ws : List Jvm.Cond) (a : Addr) (cs c0 c1 c2 : Int32) (ff : Value) (h0 : Heap) (n0 : Nat) (Z0 : n0 ≤ h0.size) (S0 : Sta Z h0 "java/lang/String" "COMPACT_STRINGS" "Z" (.int cs)) (hcs : ¬ cs = (0 : Int32)) (SA : Sta Z h0 "java/lang/StringUTF16" "$assertionsDisabled" "Z" (.int (1 : Int32))) (SH : Sta Z h0 "java/lang/StringUTF16" "HI_BYTE_SHIFT" "I" (.int (0 : Int32))) (SL : Sta Z h0 "java/lang/StringUTF16" "LO_BYTE_SHIFT" "I" (.int (8 : Int32))) (SF : Sta Z h0 "jdk/internal/util/Preconditions" "SIOOBE_FORMATTER" "Ljava/util/function/BiFunction;" ff) (isr_ff : ff.isRef = true) (HS : own_str Z h0 a (3 : Int32) [c0, c1, c2]) :
    MetFree l (⟨"com/example/sealgrant/sealgrant/Ascii", "printable", "(Ljava/lang/String;)Z"⟩ : MethodName) (head1 (Jvm.Cond.code (⟨"com/example/sealgrant/sealgrant/Ascii", "printable", "(Ljava/lang/String;)Z"⟩ : MethodName) prog_1_method_4_code 2 (some .boolean) :: ws) ({ frames := 5, cells := 0, slots := 0, locals := 66 } : Room)) (fun aα Uα => aα = #[(.ref a)] ∧ Z.Warmed39 Uα.vm ∧ Uα.heap = h0) (fun _ _ _ _ _ => True) (fun _ Uα oα Uβ => ∃ vα Lα, oα = .returned vα ∧ Q_rm5_3 Z a cs c0 c1 c2 ff h0 n0 vα Uβ.heap Lα ∧ FrameEnd Uα oα Uβ Lα ({ frames := 5, cells := 0, slots := 0, locals := 66 } : Room).cells ({ frames := 5, cells := 0, slots := 0, locals := 66 } : Room).slots) := by
  refine MetFree.of_bodySF (plainFor_of_name pn_com_example_sealgrant_sealgrant_Ascii) hisR ?_
  intro p e s m args below meth c s₁ Bd hml0 hP hKα
  obtain ⟨rfl, hZ, hh⟩ := hP
  have hx := Bd.exec
  have hby := Bd.bytes
  have hml : c.maxLocals = 2 := hml0
  have hown : s.vm.findClass "com/example/sealgrant/sealgrant/Ascii" = some m.cls := findClass_of_methodNamed Bd.named
  have hnm := (name_of_methodNamed Bd.named Bd.method).1
  have X0 : Stand p l e ({ frames := 5, cells := 0, slots := 0, locals := 66 } : Room) s m #[(.ref a)] below meth c s₁ [] 0 0 := Stand.of_body Bd
  have e0 : s₁.heap = h0 := by rw [← hh, Bd.state]; rfl
  have N0 := Fr.nil n0
  suffices k0 : Gl p e below s (Q_rm5_3 Z a cs c0 c1 c2 ff h0 n0) ({ frames := 5, cells := 0, slots := 0, locals := 66 } : Room).cells ({ frames := 5, cells := 0, slots := 0, locals := 66 } : Room).slots s₁ (mkF m 0 #[vR a, .unset] []) from Gl.st (fun τ κ => castTop (ef_rm5_3 m a) κ) k0
  refine Gl.st (g' := (mkF m 2 #[vR a, vI (0 : Int32)] [])) (fun τ κ => XS.iconst X0.here hx rfl (hb hby d5_0) (XS.istoreN X0.here hx rfl (hb hby d5_1) rfl (l' := #[vR a, vI (0 : Int32)]) rfl κ)) ?_
  refine Gl.st (g' := (mkF m 4 #[vR a, vI (0 : Int32)] [(.ref a), (.int (0 : Int32))])) (fun τ κ => XS.iloadN X0.here hx rfl (hb hby d5_2) rfl (XS.aloadN X0.here hx rfl (hb hby d5_3) rfl rfl κ)) ?_
  obtain ⟨cq71, kq71, q71a, q71b, q71c⟩ := isOf hZ e0 HS.1
  obtain ⟨rv71, _, ⟨T71, L71, k71, n71⟩, -, X71, ⟨Lc71, hQ71, l71, y71, z71⟩, st71⟩ := X0.virtualBack hx (y := (⟨"java/lang/String", "length", "()I"⟩ : MethodName)) (z := (⟨"java/lang/String", "length", "()I"⟩ : MethodName)) hown (mvT hZ (w32_ hw)) (mvT hZ (w33_ hw)) (notFace_of_selects (args := #[]) (mvT hZ (w35_ hw))) (mvT hZ (w35_ hw)) (mvT hZ (w34_ hw)) (by decide) (backOf (W := 1) (rm6 l Z a0 hw [] a (3 : Int32) cs [c0, c1, c2] h0 n0 Z0 S0 hcs HS) hZ (w36_ hw) (w8_ hw) (by decide) (by decide)) q71a q71c (g := (mkF m 4 #[vR a, vI (0 : Int32)] [(.ref a), (.int (0 : Int32))])) rfl (by rw [hml]; rfl) (Steps.refl _) (argsL := []) (rest := [(.int (0 : Int32))]) (lenOf pd_7 rfl) rfl (by show 2 * 0 + _ ≤ _; exact Nat.le_of_eq rfl) (hb hby d5_4) (fun _ _ => ⟨rfl, e0, (by decide : 0 + 0 ≤ _), (by decide : 0 + 0 ≤ _)⟩)
  dsimp only [Pt.U, Pt.locs, Pt.cells, Pt.slots] at X71 l71 y71 z71 st71 hQ71
  subst l71 y71 z71
  obtain ⟨hq71, N71q, e71⟩ := hQ71
  have hq71 : rv71 = some (.int (3 : Int32)) := hq71
  subst hq71
  have N71 := Fr.app N0 N71q
  refine Gl.st (g' := (mkF m 7 #[vR a, vI (0 : Int32)] [(.int (3 : Int32)), (.int (0 : Int32))])) (fun τ κ => st71.trans κ) ?_
  have hc72 : (0 : Int32) < (3 : Int32) := by decide
  refine Gl.st (g' := (mkF m 11 #[vR a, vI (0 : Int32)] [(.ref a)])) (fun τ κ => XS.icmpNo X71.here hx rfl (hb hby d5_7) rfl (tlt hc72).2.1 (XS.aloadN X71.here hx rfl (hb hby d5_10) rfl rfl κ)) ?_
  refine Gl.st (g' := (mkF m 12 #[vR a, vI (0 : Int32)] [(.int (0 : Int32)), (.ref a)])) (fun τ κ => XS.iloadN X71.here hx rfl (hb hby d5_11) rfl κ) ?_
  obtain ⟨cq73, kq73, q73a, q73b, q73c⟩ := isOf hZ e71 HS.1
  obtain ⟨rv73, _, ⟨T73, L73, k73, n73⟩, -, X73, ⟨Lc73, hQ73, l73, y73, z73⟩, st73⟩ := X71.virtualBack hx (y := (⟨"java/lang/String", "charAt", "(I)C"⟩ : MethodName)) (z := (⟨"java/lang/String", "charAt", "(I)C"⟩ : MethodName)) hown (mvT hZ (w56_ hw)) (mvT hZ (w57_ hw)) (notFace_of_selects (args := #[]) (mvT hZ (w59_ hw))) (mvT hZ (w59_ hw)) (mvT hZ (w58_ hw)) (by decide) (backOf (W := 0) (rm12 l Z a0 hw [] a (0 : Int32) (3 : Int32) cs [c0, c1, c2] ff h0 n0 Z0 S0 hcs SA SH SL SF isr_ff HS (by decide) (by decide)) hZ (w60_ hw) (w8_ hw) (by decide) (by decide)) q73a q73c (g := (mkF m 12 #[vR a, vI (0 : Int32)] [(.int (0 : Int32)), (.ref a)])) rfl (by rw [hml]; rfl) (Steps.refl _) (argsL := [(.int (0 : Int32))]) (rest := []) (lenOf pd_8 rfl) rfl (by show 2 * 0 + _ ≤ _; exact Nat.le_of_eq rfl) (hb hby d5_12) (fun _ _ => ⟨rfl, e71, (by decide : 0 + 0 ≤ _), (by decide : 0 + 0 ≤ _)⟩)
  dsimp only [Pt.U, Pt.locs, Pt.cells, Pt.slots] at X73 l73 y73 z73 st73 hQ73
  subst l73 y73 z73
  obtain ⟨hq73, N73q, e73⟩ := hQ73
  have hq73 : rv73 = some (.int c0) := hq73
  subst hq73
  have N73 := Fr.app N71 N73q
  refine Gl.st (g' := (mkF m 15 #[vR a, vI (0 : Int32)] [(.int c0)])) (fun τ κ => st73.trans κ) ?_
  refine Gl.st (g' := (mkF m 17 #[vR a, vI (0 : Int32)] [(.int (32 : Int32)), (.int c0)])) (fun τ κ => XS.bipush X73.here hx rfl (hb hby d5_15) κ) ?_
  by_cases hc74 : c0 < (32 : Int32)
  · -- pc 17: c0 < (32 : Int32)
    refine Gl.st (g' := (mkF m 31 #[vR a, vI (0 : Int32)] [(.int (0 : Int32))])) (fun τ κ => XS.icmpYes X73.here hx rfl (pc0 := 17) (pc' := 30) rfl (hb hby d5_17) rfl (tlt hc74).1 (by decide) (by decide) (XS.iconst X73.here hx rfl (hb hby d5_30) κ)) ?_
    exact Gl.ret (v := some (.int (0 : Int32))) X73 Bd.notSynchronized (fun h => by rw [Bd.returns] at h; cases h) e73 (fun fs hr => retN X73 hx (t := .boolean) Bd.returns (by simp) (hb hby d5_31) hr) (by decide) (by decide) ⟨by simp only [own_pr, hc74, if_true, if_false], N73, rfl⟩
  · -- pc 17: not c0 < (32 : Int32)
    refine Gl.st (g' := (mkF m 21 #[vR a, vI (0 : Int32)] [(.ref a)])) (fun τ κ => XS.icmpNo X73.here hx rfl (hb hby d5_17) rfl (flt hc74).1 (XS.aloadN X73.here hx rfl (hb hby d5_20) rfl rfl κ)) ?_
    refine Gl.st (g' := (mkF m 22 #[vR a, vI (0 : Int32)] [(.int (0 : Int32)), (.ref a)])) (fun τ κ => XS.iloadN X73.here hx rfl (hb hby d5_21) rfl κ) ?_
    obtain ⟨cq75, kq75, q75a, q75b, q75c⟩ := isOf hZ e73 HS.1
    obtain ⟨rv75, _, ⟨T75, L75, k75, n75⟩, -, X75, ⟨Lc75, hQ75, l75, y75, z75⟩, st75⟩ := X73.virtualBack hx (y := (⟨"java/lang/String", "charAt", "(I)C"⟩ : MethodName)) (z := (⟨"java/lang/String", "charAt", "(I)C"⟩ : MethodName)) hown (mvT hZ (w56_ hw)) (mvT hZ (w57_ hw)) (notFace_of_selects (args := #[]) (mvT hZ (w59_ hw))) (mvT hZ (w59_ hw)) (mvT hZ (w58_ hw)) (by decide) (backOf (W := 0) (rm12 l Z a0 hw [] a (0 : Int32) (3 : Int32) cs [c0, c1, c2] ff h0 n0 Z0 S0 hcs SA SH SL SF isr_ff HS (by decide) (by decide)) hZ (w60_ hw) (w8_ hw) (by decide) (by decide)) q75a q75c (g := (mkF m 22 #[vR a, vI (0 : Int32)] [(.int (0 : Int32)), (.ref a)])) rfl (by rw [hml]; rfl) (Steps.refl _) (argsL := [(.int (0 : Int32))]) (rest := []) (lenOf pd_8 rfl) rfl (by show 2 * 0 + _ ≤ _; exact Nat.le_of_eq rfl) (hb hby d5_22) (fun _ _ => ⟨rfl, e73, (by decide : 0 + 0 ≤ _), (by decide : 0 + 0 ≤ _)⟩)
    dsimp only [Pt.U, Pt.locs, Pt.cells, Pt.slots] at X75 l75 y75 z75 st75 hQ75
    subst l75 y75 z75
    obtain ⟨hq75, N75q, e75⟩ := hQ75
    have hq75 : rv75 = some (.int c0) := hq75
    subst hq75
    have N75 := Fr.app N73 N75q
    refine Gl.st (g' := (mkF m 25 #[vR a, vI (0 : Int32)] [(.int c0)])) (fun τ κ => st75.trans κ) ?_
    refine Gl.st (g' := (mkF m 27 #[vR a, vI (0 : Int32)] [(.int (126 : Int32)), (.int c0)])) (fun τ κ => XS.bipush X75.here hx rfl (hb hby d5_25) κ) ?_
    by_cases hc76 : (126 : Int32) < c0
    · -- pc 27: (126 : Int32) < c0
      refine Gl.st (g' := (mkF m 31 #[vR a, vI (0 : Int32)] [(.int (0 : Int32))])) (fun τ κ => XS.icmpNo X75.here hx rfl (hb hby d5_27) rfl (tlt hc76).2.2.2 (XS.iconst X75.here hx rfl (hb hby d5_30) κ)) ?_
      exact Gl.ret (v := some (.int (0 : Int32))) X75 Bd.notSynchronized (fun h => by rw [Bd.returns] at h; cases h) e75 (fun fs hr => retN X75 hx (t := .boolean) Bd.returns (by simp) (hb hby d5_31) hr) (by decide) (by decide) ⟨by simp only [own_pr, hc74, hc76, if_true, if_false], N75, rfl⟩
    · -- pc 27: not (126 : Int32) < c0
      refine Gl.st (g' := (mkF m 35 #[vR a, vI (1 : Int32)] [])) (fun τ κ => XS.icmpYes X75.here hx rfl (pc0 := 27) (pc' := 32) rfl (hb hby d5_27) rfl (flt hc76).2.2.2 (by decide) (by decide) (XS.iinc X75.here hx rfl (hb hby d5_32) rfl (l' := #[vR a, vI (1 : Int32)]) rfl κ)) ?_
      refine Gl.st (g' := (mkF m 3 #[vR a, vI (1 : Int32)] [(.int (1 : Int32))])) (fun τ κ => XS.goto X75.here hx rfl (pc0 := 35) (pc' := 2) rfl (hb hby d5_35) (by decide) (by decide) (XS.iloadN X75.here hx rfl (hb hby d5_2) rfl κ)) ?_
      refine Gl.st (g' := (mkF m 4 #[vR a, vI (1 : Int32)] [(.ref a), (.int (1 : Int32))])) (fun τ κ => XS.aloadN X75.here hx rfl (hb hby d5_3) rfl rfl κ) ?_
      obtain ⟨cq77, kq77, q77a, q77b, q77c⟩ := isOf hZ e75 HS.1
      obtain ⟨rv77, _, ⟨T77, L77, k77, n77⟩, -, X77, ⟨Lc77, hQ77, l77, y77, z77⟩, st77⟩ := X75.virtualBack hx (y := (⟨"java/lang/String", "length", "()I"⟩ : MethodName)) (z := (⟨"java/lang/String", "length", "()I"⟩ : MethodName)) hown (mvT hZ (w32_ hw)) (mvT hZ (w33_ hw)) (notFace_of_selects (args := #[]) (mvT hZ (w35_ hw))) (mvT hZ (w35_ hw)) (mvT hZ (w34_ hw)) (by decide) (backOf (W := 1) (rm6 l Z a0 hw [] a (3 : Int32) cs [c0, c1, c2] h0 n0 Z0 S0 hcs HS) hZ (w36_ hw) (w8_ hw) (by decide) (by decide)) q77a q77c (g := (mkF m 4 #[vR a, vI (1 : Int32)] [(.ref a), (.int (1 : Int32))])) rfl (by rw [hml]; rfl) (Steps.refl _) (argsL := []) (rest := [(.int (1 : Int32))]) (lenOf pd_7 rfl) rfl (by show 2 * 0 + _ ≤ _; exact Nat.le_of_eq rfl) (hb hby d5_4) (fun _ _ => ⟨rfl, e75, (by decide : 0 + 0 ≤ _), (by decide : 0 + 0 ≤ _)⟩)
      dsimp only [Pt.U, Pt.locs, Pt.cells, Pt.slots] at X77 l77 y77 z77 st77 hQ77
      subst l77 y77 z77
      obtain ⟨hq77, N77q, e77⟩ := hQ77
      have hq77 : rv77 = some (.int (3 : Int32)) := hq77
      subst hq77
      have N77 := Fr.app N75 N77q
      refine Gl.st (g' := (mkF m 7 #[vR a, vI (1 : Int32)] [(.int (3 : Int32)), (.int (1 : Int32))])) (fun τ κ => st77.trans κ) ?_
      have hc78 : (1 : Int32) < (3 : Int32) := by decide
      refine Gl.st (g' := (mkF m 11 #[vR a, vI (1 : Int32)] [(.ref a)])) (fun τ κ => XS.icmpNo X77.here hx rfl (hb hby d5_7) rfl (tlt hc78).2.1 (XS.aloadN X77.here hx rfl (hb hby d5_10) rfl rfl κ)) ?_
      refine Gl.st (g' := (mkF m 12 #[vR a, vI (1 : Int32)] [(.int (1 : Int32)), (.ref a)])) (fun τ κ => XS.iloadN X77.here hx rfl (hb hby d5_11) rfl κ) ?_
      obtain ⟨cq79, kq79, q79a, q79b, q79c⟩ := isOf hZ e77 HS.1
      obtain ⟨rv79, _, ⟨T79, L79, k79, n79⟩, -, X79, ⟨Lc79, hQ79, l79, y79, z79⟩, st79⟩ := X77.virtualBack hx (y := (⟨"java/lang/String", "charAt", "(I)C"⟩ : MethodName)) (z := (⟨"java/lang/String", "charAt", "(I)C"⟩ : MethodName)) hown (mvT hZ (w56_ hw)) (mvT hZ (w57_ hw)) (notFace_of_selects (args := #[]) (mvT hZ (w59_ hw))) (mvT hZ (w59_ hw)) (mvT hZ (w58_ hw)) (by decide) (backOf (W := 0) (rm12 l Z a0 hw [] a (1 : Int32) (3 : Int32) cs [c0, c1, c2] ff h0 n0 Z0 S0 hcs SA SH SL SF isr_ff HS (by decide) (by decide)) hZ (w60_ hw) (w8_ hw) (by decide) (by decide)) q79a q79c (g := (mkF m 12 #[vR a, vI (1 : Int32)] [(.int (1 : Int32)), (.ref a)])) rfl (by rw [hml]; rfl) (Steps.refl _) (argsL := [(.int (1 : Int32))]) (rest := []) (lenOf pd_8 rfl) rfl (by show 2 * 0 + _ ≤ _; exact Nat.le_of_eq rfl) (hb hby d5_12) (fun _ _ => ⟨rfl, e77, (by decide : 0 + 0 ≤ _), (by decide : 0 + 0 ≤ _)⟩)
      dsimp only [Pt.U, Pt.locs, Pt.cells, Pt.slots] at X79 l79 y79 z79 st79 hQ79
      subst l79 y79 z79
      obtain ⟨hq79, N79q, e79⟩ := hQ79
      have hq79 : rv79 = some (.int c1) := hq79
      subst hq79
      have N79 := Fr.app N77 N79q
      refine Gl.st (g' := (mkF m 15 #[vR a, vI (1 : Int32)] [(.int c1)])) (fun τ κ => st79.trans κ) ?_
      refine Gl.st (g' := (mkF m 17 #[vR a, vI (1 : Int32)] [(.int (32 : Int32)), (.int c1)])) (fun τ κ => XS.bipush X79.here hx rfl (hb hby d5_15) κ) ?_
      by_cases hc80 : c1 < (32 : Int32)
      · -- pc 17: c1 < (32 : Int32)
        refine Gl.st (g' := (mkF m 31 #[vR a, vI (1 : Int32)] [(.int (0 : Int32))])) (fun τ κ => XS.icmpYes X79.here hx rfl (pc0 := 17) (pc' := 30) rfl (hb hby d5_17) rfl (tlt hc80).1 (by decide) (by decide) (XS.iconst X79.here hx rfl (hb hby d5_30) κ)) ?_
        exact Gl.ret (v := some (.int (0 : Int32))) X79 Bd.notSynchronized (fun h => by rw [Bd.returns] at h; cases h) e79 (fun fs hr => retN X79 hx (t := .boolean) Bd.returns (by simp) (hb hby d5_31) hr) (by decide) (by decide) ⟨by simp only [own_pr, hc74, hc76, hc80, if_true, if_false], N79, rfl⟩
      · -- pc 17: not c1 < (32 : Int32)
        refine Gl.st (g' := (mkF m 21 #[vR a, vI (1 : Int32)] [(.ref a)])) (fun τ κ => XS.icmpNo X79.here hx rfl (hb hby d5_17) rfl (flt hc80).1 (XS.aloadN X79.here hx rfl (hb hby d5_20) rfl rfl κ)) ?_
        refine Gl.st (g' := (mkF m 22 #[vR a, vI (1 : Int32)] [(.int (1 : Int32)), (.ref a)])) (fun τ κ => XS.iloadN X79.here hx rfl (hb hby d5_21) rfl κ) ?_
        obtain ⟨cq81, kq81, q81a, q81b, q81c⟩ := isOf hZ e79 HS.1
        obtain ⟨rv81, _, ⟨T81, L81, k81, n81⟩, -, X81, ⟨Lc81, hQ81, l81, y81, z81⟩, st81⟩ := X79.virtualBack hx (y := (⟨"java/lang/String", "charAt", "(I)C"⟩ : MethodName)) (z := (⟨"java/lang/String", "charAt", "(I)C"⟩ : MethodName)) hown (mvT hZ (w56_ hw)) (mvT hZ (w57_ hw)) (notFace_of_selects (args := #[]) (mvT hZ (w59_ hw))) (mvT hZ (w59_ hw)) (mvT hZ (w58_ hw)) (by decide) (backOf (W := 0) (rm12 l Z a0 hw [] a (1 : Int32) (3 : Int32) cs [c0, c1, c2] ff h0 n0 Z0 S0 hcs SA SH SL SF isr_ff HS (by decide) (by decide)) hZ (w60_ hw) (w8_ hw) (by decide) (by decide)) q81a q81c (g := (mkF m 22 #[vR a, vI (1 : Int32)] [(.int (1 : Int32)), (.ref a)])) rfl (by rw [hml]; rfl) (Steps.refl _) (argsL := [(.int (1 : Int32))]) (rest := []) (lenOf pd_8 rfl) rfl (by show 2 * 0 + _ ≤ _; exact Nat.le_of_eq rfl) (hb hby d5_22) (fun _ _ => ⟨rfl, e79, (by decide : 0 + 0 ≤ _), (by decide : 0 + 0 ≤ _)⟩)
        dsimp only [Pt.U, Pt.locs, Pt.cells, Pt.slots] at X81 l81 y81 z81 st81 hQ81
        subst l81 y81 z81
        obtain ⟨hq81, N81q, e81⟩ := hQ81
        have hq81 : rv81 = some (.int c1) := hq81
        subst hq81
        have N81 := Fr.app N79 N81q
        refine Gl.st (g' := (mkF m 25 #[vR a, vI (1 : Int32)] [(.int c1)])) (fun τ κ => st81.trans κ) ?_
        refine Gl.st (g' := (mkF m 27 #[vR a, vI (1 : Int32)] [(.int (126 : Int32)), (.int c1)])) (fun τ κ => XS.bipush X81.here hx rfl (hb hby d5_25) κ) ?_
        by_cases hc82 : (126 : Int32) < c1
        · -- pc 27: (126 : Int32) < c1
          refine Gl.st (g' := (mkF m 31 #[vR a, vI (1 : Int32)] [(.int (0 : Int32))])) (fun τ κ => XS.icmpNo X81.here hx rfl (hb hby d5_27) rfl (tlt hc82).2.2.2 (XS.iconst X81.here hx rfl (hb hby d5_30) κ)) ?_
          exact Gl.ret (v := some (.int (0 : Int32))) X81 Bd.notSynchronized (fun h => by rw [Bd.returns] at h; cases h) e81 (fun fs hr => retN X81 hx (t := .boolean) Bd.returns (by simp) (hb hby d5_31) hr) (by decide) (by decide) ⟨by simp only [own_pr, hc74, hc76, hc80, hc82, if_true, if_false], N81, rfl⟩
        · -- pc 27: not (126 : Int32) < c1
          refine Gl.st (g' := (mkF m 35 #[vR a, vI (2 : Int32)] [])) (fun τ κ => XS.icmpYes X81.here hx rfl (pc0 := 27) (pc' := 32) rfl (hb hby d5_27) rfl (flt hc82).2.2.2 (by decide) (by decide) (XS.iinc X81.here hx rfl (hb hby d5_32) rfl (l' := #[vR a, vI (2 : Int32)]) rfl κ)) ?_
          refine Gl.st (g' := (mkF m 3 #[vR a, vI (2 : Int32)] [(.int (2 : Int32))])) (fun τ κ => XS.goto X81.here hx rfl (pc0 := 35) (pc' := 2) rfl (hb hby d5_35) (by decide) (by decide) (XS.iloadN X81.here hx rfl (hb hby d5_2) rfl κ)) ?_
          refine Gl.st (g' := (mkF m 4 #[vR a, vI (2 : Int32)] [(.ref a), (.int (2 : Int32))])) (fun τ κ => XS.aloadN X81.here hx rfl (hb hby d5_3) rfl rfl κ) ?_
          obtain ⟨cq83, kq83, q83a, q83b, q83c⟩ := isOf hZ e81 HS.1
          obtain ⟨rv83, _, ⟨T83, L83, k83, n83⟩, -, X83, ⟨Lc83, hQ83, l83, y83, z83⟩, st83⟩ := X81.virtualBack hx (y := (⟨"java/lang/String", "length", "()I"⟩ : MethodName)) (z := (⟨"java/lang/String", "length", "()I"⟩ : MethodName)) hown (mvT hZ (w32_ hw)) (mvT hZ (w33_ hw)) (notFace_of_selects (args := #[]) (mvT hZ (w35_ hw))) (mvT hZ (w35_ hw)) (mvT hZ (w34_ hw)) (by decide) (backOf (W := 1) (rm6 l Z a0 hw [] a (3 : Int32) cs [c0, c1, c2] h0 n0 Z0 S0 hcs HS) hZ (w36_ hw) (w8_ hw) (by decide) (by decide)) q83a q83c (g := (mkF m 4 #[vR a, vI (2 : Int32)] [(.ref a), (.int (2 : Int32))])) rfl (by rw [hml]; rfl) (Steps.refl _) (argsL := []) (rest := [(.int (2 : Int32))]) (lenOf pd_7 rfl) rfl (by show 2 * 0 + _ ≤ _; exact Nat.le_of_eq rfl) (hb hby d5_4) (fun _ _ => ⟨rfl, e81, (by decide : 0 + 0 ≤ _), (by decide : 0 + 0 ≤ _)⟩)
          dsimp only [Pt.U, Pt.locs, Pt.cells, Pt.slots] at X83 l83 y83 z83 st83 hQ83
          subst l83 y83 z83
          obtain ⟨hq83, N83q, e83⟩ := hQ83
          have hq83 : rv83 = some (.int (3 : Int32)) := hq83
          subst hq83
          have N83 := Fr.app N81 N83q
          refine Gl.st (g' := (mkF m 7 #[vR a, vI (2 : Int32)] [(.int (3 : Int32)), (.int (2 : Int32))])) (fun τ κ => st83.trans κ) ?_
          have hc84 : (2 : Int32) < (3 : Int32) := by decide
          refine Gl.st (g' := (mkF m 11 #[vR a, vI (2 : Int32)] [(.ref a)])) (fun τ κ => XS.icmpNo X83.here hx rfl (hb hby d5_7) rfl (tlt hc84).2.1 (XS.aloadN X83.here hx rfl (hb hby d5_10) rfl rfl κ)) ?_
          refine Gl.st (g' := (mkF m 12 #[vR a, vI (2 : Int32)] [(.int (2 : Int32)), (.ref a)])) (fun τ κ => XS.iloadN X83.here hx rfl (hb hby d5_11) rfl κ) ?_
          obtain ⟨cq85, kq85, q85a, q85b, q85c⟩ := isOf hZ e83 HS.1
          obtain ⟨rv85, _, ⟨T85, L85, k85, n85⟩, -, X85, ⟨Lc85, hQ85, l85, y85, z85⟩, st85⟩ := X83.virtualBack hx (y := (⟨"java/lang/String", "charAt", "(I)C"⟩ : MethodName)) (z := (⟨"java/lang/String", "charAt", "(I)C"⟩ : MethodName)) hown (mvT hZ (w56_ hw)) (mvT hZ (w57_ hw)) (notFace_of_selects (args := #[]) (mvT hZ (w59_ hw))) (mvT hZ (w59_ hw)) (mvT hZ (w58_ hw)) (by decide) (backOf (W := 0) (rm12 l Z a0 hw [] a (2 : Int32) (3 : Int32) cs [c0, c1, c2] ff h0 n0 Z0 S0 hcs SA SH SL SF isr_ff HS (by decide) (by decide)) hZ (w60_ hw) (w8_ hw) (by decide) (by decide)) q85a q85c (g := (mkF m 12 #[vR a, vI (2 : Int32)] [(.int (2 : Int32)), (.ref a)])) rfl (by rw [hml]; rfl) (Steps.refl _) (argsL := [(.int (2 : Int32))]) (rest := []) (lenOf pd_8 rfl) rfl (by show 2 * 0 + _ ≤ _; exact Nat.le_of_eq rfl) (hb hby d5_12) (fun _ _ => ⟨rfl, e83, (by decide : 0 + 0 ≤ _), (by decide : 0 + 0 ≤ _)⟩)
          dsimp only [Pt.U, Pt.locs, Pt.cells, Pt.slots] at X85 l85 y85 z85 st85 hQ85
          subst l85 y85 z85
          obtain ⟨hq85, N85q, e85⟩ := hQ85
          have hq85 : rv85 = some (.int c2) := hq85
          subst hq85
          have N85 := Fr.app N83 N85q
          refine Gl.st (g' := (mkF m 15 #[vR a, vI (2 : Int32)] [(.int c2)])) (fun τ κ => st85.trans κ) ?_
          refine Gl.st (g' := (mkF m 17 #[vR a, vI (2 : Int32)] [(.int (32 : Int32)), (.int c2)])) (fun τ κ => XS.bipush X85.here hx rfl (hb hby d5_15) κ) ?_
          by_cases hc86 : c2 < (32 : Int32)
          · -- pc 17: c2 < (32 : Int32)
            refine Gl.st (g' := (mkF m 31 #[vR a, vI (2 : Int32)] [(.int (0 : Int32))])) (fun τ κ => XS.icmpYes X85.here hx rfl (pc0 := 17) (pc' := 30) rfl (hb hby d5_17) rfl (tlt hc86).1 (by decide) (by decide) (XS.iconst X85.here hx rfl (hb hby d5_30) κ)) ?_
            exact Gl.ret (v := some (.int (0 : Int32))) X85 Bd.notSynchronized (fun h => by rw [Bd.returns] at h; cases h) e85 (fun fs hr => retN X85 hx (t := .boolean) Bd.returns (by simp) (hb hby d5_31) hr) (by decide) (by decide) ⟨by simp only [own_pr, hc74, hc76, hc80, hc82, hc86, if_true, if_false], N85, rfl⟩
          · -- pc 17: not c2 < (32 : Int32)
            refine Gl.st (g' := (mkF m 21 #[vR a, vI (2 : Int32)] [(.ref a)])) (fun τ κ => XS.icmpNo X85.here hx rfl (hb hby d5_17) rfl (flt hc86).1 (XS.aloadN X85.here hx rfl (hb hby d5_20) rfl rfl κ)) ?_
            refine Gl.st (g' := (mkF m 22 #[vR a, vI (2 : Int32)] [(.int (2 : Int32)), (.ref a)])) (fun τ κ => XS.iloadN X85.here hx rfl (hb hby d5_21) rfl κ) ?_
            obtain ⟨cq87, kq87, q87a, q87b, q87c⟩ := isOf hZ e85 HS.1
            obtain ⟨rv87, _, ⟨T87, L87, k87, n87⟩, -, X87, ⟨Lc87, hQ87, l87, y87, z87⟩, st87⟩ := X85.virtualBack hx (y := (⟨"java/lang/String", "charAt", "(I)C"⟩ : MethodName)) (z := (⟨"java/lang/String", "charAt", "(I)C"⟩ : MethodName)) hown (mvT hZ (w56_ hw)) (mvT hZ (w57_ hw)) (notFace_of_selects (args := #[]) (mvT hZ (w59_ hw))) (mvT hZ (w59_ hw)) (mvT hZ (w58_ hw)) (by decide) (backOf (W := 0) (rm12 l Z a0 hw [] a (2 : Int32) (3 : Int32) cs [c0, c1, c2] ff h0 n0 Z0 S0 hcs SA SH SL SF isr_ff HS (by decide) (by decide)) hZ (w60_ hw) (w8_ hw) (by decide) (by decide)) q87a q87c (g := (mkF m 22 #[vR a, vI (2 : Int32)] [(.int (2 : Int32)), (.ref a)])) rfl (by rw [hml]; rfl) (Steps.refl _) (argsL := [(.int (2 : Int32))]) (rest := []) (lenOf pd_8 rfl) rfl (by show 2 * 0 + _ ≤ _; exact Nat.le_of_eq rfl) (hb hby d5_22) (fun _ _ => ⟨rfl, e85, (by decide : 0 + 0 ≤ _), (by decide : 0 + 0 ≤ _)⟩)
            dsimp only [Pt.U, Pt.locs, Pt.cells, Pt.slots] at X87 l87 y87 z87 st87 hQ87
            subst l87 y87 z87
            obtain ⟨hq87, N87q, e87⟩ := hQ87
            have hq87 : rv87 = some (.int c2) := hq87
            subst hq87
            have N87 := Fr.app N85 N87q
            refine Gl.st (g' := (mkF m 25 #[vR a, vI (2 : Int32)] [(.int c2)])) (fun τ κ => st87.trans κ) ?_
            refine Gl.st (g' := (mkF m 27 #[vR a, vI (2 : Int32)] [(.int (126 : Int32)), (.int c2)])) (fun τ κ => XS.bipush X87.here hx rfl (hb hby d5_25) κ) ?_
            by_cases hc88 : (126 : Int32) < c2
            · -- pc 27: (126 : Int32) < c2
              refine Gl.st (g' := (mkF m 31 #[vR a, vI (2 : Int32)] [(.int (0 : Int32))])) (fun τ κ => XS.icmpNo X87.here hx rfl (hb hby d5_27) rfl (tlt hc88).2.2.2 (XS.iconst X87.here hx rfl (hb hby d5_30) κ)) ?_
              exact Gl.ret (v := some (.int (0 : Int32))) X87 Bd.notSynchronized (fun h => by rw [Bd.returns] at h; cases h) e87 (fun fs hr => retN X87 hx (t := .boolean) Bd.returns (by simp) (hb hby d5_31) hr) (by decide) (by decide) ⟨by simp only [own_pr, hc74, hc76, hc80, hc82, hc86, hc88, if_true, if_false], N87, rfl⟩
            · -- pc 27: not (126 : Int32) < c2
              refine Gl.st (g' := (mkF m 35 #[vR a, vI (3 : Int32)] [])) (fun τ κ => XS.icmpYes X87.here hx rfl (pc0 := 27) (pc' := 32) rfl (hb hby d5_27) rfl (flt hc88).2.2.2 (by decide) (by decide) (XS.iinc X87.here hx rfl (hb hby d5_32) rfl (l' := #[vR a, vI (3 : Int32)]) rfl κ)) ?_
              refine Gl.st (g' := (mkF m 3 #[vR a, vI (3 : Int32)] [(.int (3 : Int32))])) (fun τ κ => XS.goto X87.here hx rfl (pc0 := 35) (pc' := 2) rfl (hb hby d5_35) (by decide) (by decide) (XS.iloadN X87.here hx rfl (hb hby d5_2) rfl κ)) ?_
              refine Gl.st (g' := (mkF m 4 #[vR a, vI (3 : Int32)] [(.ref a), (.int (3 : Int32))])) (fun τ κ => XS.aloadN X87.here hx rfl (hb hby d5_3) rfl rfl κ) ?_
              obtain ⟨cq89, kq89, q89a, q89b, q89c⟩ := isOf hZ e87 HS.1
              obtain ⟨rv89, _, ⟨T89, L89, k89, n89⟩, -, X89, ⟨Lc89, hQ89, l89, y89, z89⟩, st89⟩ := X87.virtualBack hx (y := (⟨"java/lang/String", "length", "()I"⟩ : MethodName)) (z := (⟨"java/lang/String", "length", "()I"⟩ : MethodName)) hown (mvT hZ (w32_ hw)) (mvT hZ (w33_ hw)) (notFace_of_selects (args := #[]) (mvT hZ (w35_ hw))) (mvT hZ (w35_ hw)) (mvT hZ (w34_ hw)) (by decide) (backOf (W := 1) (rm6 l Z a0 hw [] a (3 : Int32) cs [c0, c1, c2] h0 n0 Z0 S0 hcs HS) hZ (w36_ hw) (w8_ hw) (by decide) (by decide)) q89a q89c (g := (mkF m 4 #[vR a, vI (3 : Int32)] [(.ref a), (.int (3 : Int32))])) rfl (by rw [hml]; rfl) (Steps.refl _) (argsL := []) (rest := [(.int (3 : Int32))]) (lenOf pd_7 rfl) rfl (by show 2 * 0 + _ ≤ _; exact Nat.le_of_eq rfl) (hb hby d5_4) (fun _ _ => ⟨rfl, e87, (by decide : 0 + 0 ≤ _), (by decide : 0 + 0 ≤ _)⟩)
              dsimp only [Pt.U, Pt.locs, Pt.cells, Pt.slots] at X89 l89 y89 z89 st89 hQ89
              subst l89 y89 z89
              obtain ⟨hq89, N89q, e89⟩ := hQ89
              have hq89 : rv89 = some (.int (3 : Int32)) := hq89
              subst hq89
              have N89 := Fr.app N87 N89q
              refine Gl.st (g' := (mkF m 7 #[vR a, vI (3 : Int32)] [(.int (3 : Int32)), (.int (3 : Int32))])) (fun τ κ => st89.trans κ) ?_
              have hc90 : ¬ ((3 : Int32) < (3 : Int32)) := by decide
              refine Gl.st (g' := (mkF m 39 #[vR a, vI (3 : Int32)] [(.int (1 : Int32))])) (fun τ κ => XS.icmpYes X89.here hx rfl (pc0 := 7) (pc' := 38) rfl (hb hby d5_7) rfl (flt hc90).2.1 (by decide) (by decide) (XS.iconst X89.here hx rfl (hb hby d5_38) κ)) ?_
              exact Gl.ret (v := some (.int (1 : Int32))) X89 Bd.notSynchronized (fun h => by rw [Bd.returns] at h; cases h) e89 (fun fs hr => retN X89 hx (t := .boolean) Bd.returns (by simp) (hb hby d5_39) hr) (by decide) (by decide) ⟨by simp only [own_pr, hc74, hc76, hc80, hc82, hc86, hc88, if_true, if_false], N89, rfl⟩
theorem ef_rm5_4 (m : MethodId) (a : Addr) : entryFrame m #[(.ref a)] 2 = mkF m 0 #[vR a, .unset] [] := by first | (simp [entryFrame, mkF, argsToLocals, Value.category]; done) | rfl
def Q_rm5_4 (Z : State) (a : Addr) (cs c0 c1 c2 c3 : Int32) (ff : Value) (h0 : Heap) (n0 : Nat) (v : Option Value) (h : Heap) (L : List Loc) : Prop := v = some (.int (own_pr [c0, c1, c2, c3])) ∧ Fr n0 L ∧ h = h0
set_option maxRecDepth 65536 in
set_option maxHeartbeats 40000000 in
theorem rm5_4 (l : Launch) (Z : State) (a0 : Array Value) (hw : ∀ d ∈ tables_1, d.before a0 Z = true) (ws : List Jvm.Cond) (a : Addr) (cs c0 c1 c2 c3 : Int32) (ff : Value) (h0 : Heap) (n0 : Nat) (Z0 : n0 ≤ h0.size) (S0 : Sta Z h0 "java/lang/String" "COMPACT_STRINGS" "Z" (.int cs)) (hcs : ¬ cs = (0 : Int32)) (SA : Sta Z h0 "java/lang/StringUTF16" "$assertionsDisabled" "Z" (.int (1 : Int32))) (SH : Sta Z h0 "java/lang/StringUTF16" "HI_BYTE_SHIFT" "I" (.int (0 : Int32))) (SL : Sta Z h0 "java/lang/StringUTF16" "LO_BYTE_SHIFT" "I" (.int (8 : Int32))) (SF : Sta Z h0 "jdk/internal/util/Preconditions" "SIOOBE_FORMATTER" "Ljava/util/function/BiFunction;" ff) (isr_ff : ff.isRef = true) (HS : own_str Z h0 a (4 : Int32) [c0, c1, c2, c3]) :
    MetFree l (⟨"com/example/sealgrant/sealgrant/Ascii", "printable", "(Ljava/lang/String;)Z"⟩ : MethodName) (head1 (Jvm.Cond.code (⟨"com/example/sealgrant/sealgrant/Ascii", "printable", "(Ljava/lang/String;)Z"⟩ : MethodName) prog_1_method_4_code 2 (some .boolean) :: ws) ({ frames := 5, cells := 0, slots := 0, locals := 66 } : Room)) (fun aα Uα => aα = #[(.ref a)] ∧ Z.Warmed39 Uα.vm ∧ Uα.heap = h0) (fun _ _ _ _ _ => True) (fun _ Uα oα Uβ => ∃ vα Lα, oα = .returned vα ∧ Q_rm5_4 Z a cs c0 c1 c2 c3 ff h0 n0 vα Uβ.heap Lα ∧ FrameEnd Uα oα Uβ Lα ({ frames := 5, cells := 0, slots := 0, locals := 66 } : Room).cells ({ frames := 5, cells := 0, slots := 0, locals := 66 } : Room).slots) := by
  refine MetFree.of_bodySF (plainFor_of_name pn_com_example_sealgrant_sealgrant_Ascii) hisR ?_
  intro p e s m args below meth c s₁ Bd hml0 hP hKα
  obtain ⟨rfl, hZ, hh⟩ := hP
  have hx := Bd.exec
  have hby := Bd.bytes
  have hml : c.maxLocals = 2 := hml0
  have hown : s.vm.findClass "com/example/sealgrant/sealgrant/Ascii" = some m.cls := findClass_of_methodNamed Bd.named
  have hnm := (name_of_methodNamed Bd.named Bd.method).1
  have X0 : Stand p l e ({ frames := 5, cells := 0, slots := 0, locals := 66 } : Room) s m #[(.ref a)] below meth c s₁ [] 0 0 := Stand.of_body Bd
  have e0 : s₁.heap = h0 := by rw [← hh, Bd.state]; rfl
  have N0 := Fr.nil n0
  suffices k0 : Gl p e below s (Q_rm5_4 Z a cs c0 c1 c2 c3 ff h0 n0) ({ frames := 5, cells := 0, slots := 0, locals := 66 } : Room).cells ({ frames := 5, cells := 0, slots := 0, locals := 66 } : Room).slots s₁ (mkF m 0 #[vR a, .unset] []) from Gl.st (fun τ κ => castTop (ef_rm5_4 m a) κ) k0
  refine Gl.st (g' := (mkF m 2 #[vR a, vI (0 : Int32)] [])) (fun τ κ => XS.iconst X0.here hx rfl (hb hby d5_0) (XS.istoreN X0.here hx rfl (hb hby d5_1) rfl (l' := #[vR a, vI (0 : Int32)]) rfl κ)) ?_
  refine Gl.st (g' := (mkF m 4 #[vR a, vI (0 : Int32)] [(.ref a), (.int (0 : Int32))])) (fun τ κ => XS.iloadN X0.here hx rfl (hb hby d5_2) rfl (XS.aloadN X0.here hx rfl (hb hby d5_3) rfl rfl κ)) ?_
  obtain ⟨cq91, kq91, q91a, q91b, q91c⟩ := isOf hZ e0 HS.1
  obtain ⟨rv91, _, ⟨T91, L91, k91, n91⟩, -, X91, ⟨Lc91, hQ91, l91, y91, z91⟩, st91⟩ := X0.virtualBack hx (y := (⟨"java/lang/String", "length", "()I"⟩ : MethodName)) (z := (⟨"java/lang/String", "length", "()I"⟩ : MethodName)) hown (mvT hZ (w32_ hw)) (mvT hZ (w33_ hw)) (notFace_of_selects (args := #[]) (mvT hZ (w35_ hw))) (mvT hZ (w35_ hw)) (mvT hZ (w34_ hw)) (by decide) (backOf (W := 1) (rm6 l Z a0 hw [] a (4 : Int32) cs [c0, c1, c2, c3] h0 n0 Z0 S0 hcs HS) hZ (w36_ hw) (w8_ hw) (by decide) (by decide)) q91a q91c (g := (mkF m 4 #[vR a, vI (0 : Int32)] [(.ref a), (.int (0 : Int32))])) rfl (by rw [hml]; rfl) (Steps.refl _) (argsL := []) (rest := [(.int (0 : Int32))]) (lenOf pd_7 rfl) rfl (by show 2 * 0 + _ ≤ _; exact Nat.le_of_eq rfl) (hb hby d5_4) (fun _ _ => ⟨rfl, e0, (by decide : 0 + 0 ≤ _), (by decide : 0 + 0 ≤ _)⟩)
  dsimp only [Pt.U, Pt.locs, Pt.cells, Pt.slots] at X91 l91 y91 z91 st91 hQ91
  subst l91 y91 z91
  obtain ⟨hq91, N91q, e91⟩ := hQ91
  have hq91 : rv91 = some (.int (4 : Int32)) := hq91
  subst hq91
  have N91 := Fr.app N0 N91q
  refine Gl.st (g' := (mkF m 7 #[vR a, vI (0 : Int32)] [(.int (4 : Int32)), (.int (0 : Int32))])) (fun τ κ => st91.trans κ) ?_
  have hc92 : (0 : Int32) < (4 : Int32) := by decide
  refine Gl.st (g' := (mkF m 11 #[vR a, vI (0 : Int32)] [(.ref a)])) (fun τ κ => XS.icmpNo X91.here hx rfl (hb hby d5_7) rfl (tlt hc92).2.1 (XS.aloadN X91.here hx rfl (hb hby d5_10) rfl rfl κ)) ?_
  refine Gl.st (g' := (mkF m 12 #[vR a, vI (0 : Int32)] [(.int (0 : Int32)), (.ref a)])) (fun τ κ => XS.iloadN X91.here hx rfl (hb hby d5_11) rfl κ) ?_
  obtain ⟨cq93, kq93, q93a, q93b, q93c⟩ := isOf hZ e91 HS.1
  obtain ⟨rv93, _, ⟨T93, L93, k93, n93⟩, -, X93, ⟨Lc93, hQ93, l93, y93, z93⟩, st93⟩ := X91.virtualBack hx (y := (⟨"java/lang/String", "charAt", "(I)C"⟩ : MethodName)) (z := (⟨"java/lang/String", "charAt", "(I)C"⟩ : MethodName)) hown (mvT hZ (w56_ hw)) (mvT hZ (w57_ hw)) (notFace_of_selects (args := #[]) (mvT hZ (w59_ hw))) (mvT hZ (w59_ hw)) (mvT hZ (w58_ hw)) (by decide) (backOf (W := 0) (rm12 l Z a0 hw [] a (0 : Int32) (4 : Int32) cs [c0, c1, c2, c3] ff h0 n0 Z0 S0 hcs SA SH SL SF isr_ff HS (by decide) (by decide)) hZ (w60_ hw) (w8_ hw) (by decide) (by decide)) q93a q93c (g := (mkF m 12 #[vR a, vI (0 : Int32)] [(.int (0 : Int32)), (.ref a)])) rfl (by rw [hml]; rfl) (Steps.refl _) (argsL := [(.int (0 : Int32))]) (rest := []) (lenOf pd_8 rfl) rfl (by show 2 * 0 + _ ≤ _; exact Nat.le_of_eq rfl) (hb hby d5_12) (fun _ _ => ⟨rfl, e91, (by decide : 0 + 0 ≤ _), (by decide : 0 + 0 ≤ _)⟩)
  dsimp only [Pt.U, Pt.locs, Pt.cells, Pt.slots] at X93 l93 y93 z93 st93 hQ93
  subst l93 y93 z93
  obtain ⟨hq93, N93q, e93⟩ := hQ93
  have hq93 : rv93 = some (.int c0) := hq93
  subst hq93
  have N93 := Fr.app N91 N93q
  refine Gl.st (g' := (mkF m 15 #[vR a, vI (0 : Int32)] [(.int c0)])) (fun τ κ => st93.trans κ) ?_
  refine Gl.st (g' := (mkF m 17 #[vR a, vI (0 : Int32)] [(.int (32 : Int32)), (.int c0)])) (fun τ κ => XS.bipush X93.here hx rfl (hb hby d5_15) κ) ?_
  by_cases hc94 : c0 < (32 : Int32)
  · -- pc 17: c0 < (32 : Int32)
    refine Gl.st (g' := (mkF m 31 #[vR a, vI (0 : Int32)] [(.int (0 : Int32))])) (fun τ κ => XS.icmpYes X93.here hx rfl (pc0 := 17) (pc' := 30) rfl (hb hby d5_17) rfl (tlt hc94).1 (by decide) (by decide) (XS.iconst X93.here hx rfl (hb hby d5_30) κ)) ?_
    exact Gl.ret (v := some (.int (0 : Int32))) X93 Bd.notSynchronized (fun h => by rw [Bd.returns] at h; cases h) e93 (fun fs hr => retN X93 hx (t := .boolean) Bd.returns (by simp) (hb hby d5_31) hr) (by decide) (by decide) ⟨by simp only [own_pr, hc94, if_true, if_false], N93, rfl⟩
  · -- pc 17: not c0 < (32 : Int32)
    refine Gl.st (g' := (mkF m 21 #[vR a, vI (0 : Int32)] [(.ref a)])) (fun τ κ => XS.icmpNo X93.here hx rfl (hb hby d5_17) rfl (flt hc94).1 (XS.aloadN X93.here hx rfl (hb hby d5_20) rfl rfl κ)) ?_
    refine Gl.st (g' := (mkF m 22 #[vR a, vI (0 : Int32)] [(.int (0 : Int32)), (.ref a)])) (fun τ κ => XS.iloadN X93.here hx rfl (hb hby d5_21) rfl κ) ?_
    obtain ⟨cq95, kq95, q95a, q95b, q95c⟩ := isOf hZ e93 HS.1
    obtain ⟨rv95, _, ⟨T95, L95, k95, n95⟩, -, X95, ⟨Lc95, hQ95, l95, y95, z95⟩, st95⟩ := X93.virtualBack hx (y := (⟨"java/lang/String", "charAt", "(I)C"⟩ : MethodName)) (z := (⟨"java/lang/String", "charAt", "(I)C"⟩ : MethodName)) hown (mvT hZ (w56_ hw)) (mvT hZ (w57_ hw)) (notFace_of_selects (args := #[]) (mvT hZ (w59_ hw))) (mvT hZ (w59_ hw)) (mvT hZ (w58_ hw)) (by decide) (backOf (W := 0) (rm12 l Z a0 hw [] a (0 : Int32) (4 : Int32) cs [c0, c1, c2, c3] ff h0 n0 Z0 S0 hcs SA SH SL SF isr_ff HS (by decide) (by decide)) hZ (w60_ hw) (w8_ hw) (by decide) (by decide)) q95a q95c (g := (mkF m 22 #[vR a, vI (0 : Int32)] [(.int (0 : Int32)), (.ref a)])) rfl (by rw [hml]; rfl) (Steps.refl _) (argsL := [(.int (0 : Int32))]) (rest := []) (lenOf pd_8 rfl) rfl (by show 2 * 0 + _ ≤ _; exact Nat.le_of_eq rfl) (hb hby d5_22) (fun _ _ => ⟨rfl, e93, (by decide : 0 + 0 ≤ _), (by decide : 0 + 0 ≤ _)⟩)
    dsimp only [Pt.U, Pt.locs, Pt.cells, Pt.slots] at X95 l95 y95 z95 st95 hQ95
    subst l95 y95 z95
    obtain ⟨hq95, N95q, e95⟩ := hQ95
    have hq95 : rv95 = some (.int c0) := hq95
    subst hq95
    have N95 := Fr.app N93 N95q
    refine Gl.st (g' := (mkF m 25 #[vR a, vI (0 : Int32)] [(.int c0)])) (fun τ κ => st95.trans κ) ?_
    refine Gl.st (g' := (mkF m 27 #[vR a, vI (0 : Int32)] [(.int (126 : Int32)), (.int c0)])) (fun τ κ => XS.bipush X95.here hx rfl (hb hby d5_25) κ) ?_
    by_cases hc96 : (126 : Int32) < c0
    · -- pc 27: (126 : Int32) < c0
      refine Gl.st (g' := (mkF m 31 #[vR a, vI (0 : Int32)] [(.int (0 : Int32))])) (fun τ κ => XS.icmpNo X95.here hx rfl (hb hby d5_27) rfl (tlt hc96).2.2.2 (XS.iconst X95.here hx rfl (hb hby d5_30) κ)) ?_
      exact Gl.ret (v := some (.int (0 : Int32))) X95 Bd.notSynchronized (fun h => by rw [Bd.returns] at h; cases h) e95 (fun fs hr => retN X95 hx (t := .boolean) Bd.returns (by simp) (hb hby d5_31) hr) (by decide) (by decide) ⟨by simp only [own_pr, hc94, hc96, if_true, if_false], N95, rfl⟩
    · -- pc 27: not (126 : Int32) < c0
      refine Gl.st (g' := (mkF m 35 #[vR a, vI (1 : Int32)] [])) (fun τ κ => XS.icmpYes X95.here hx rfl (pc0 := 27) (pc' := 32) rfl (hb hby d5_27) rfl (flt hc96).2.2.2 (by decide) (by decide) (XS.iinc X95.here hx rfl (hb hby d5_32) rfl (l' := #[vR a, vI (1 : Int32)]) rfl κ)) ?_
      refine Gl.st (g' := (mkF m 3 #[vR a, vI (1 : Int32)] [(.int (1 : Int32))])) (fun τ κ => XS.goto X95.here hx rfl (pc0 := 35) (pc' := 2) rfl (hb hby d5_35) (by decide) (by decide) (XS.iloadN X95.here hx rfl (hb hby d5_2) rfl κ)) ?_
      refine Gl.st (g' := (mkF m 4 #[vR a, vI (1 : Int32)] [(.ref a), (.int (1 : Int32))])) (fun τ κ => XS.aloadN X95.here hx rfl (hb hby d5_3) rfl rfl κ) ?_
      obtain ⟨cq97, kq97, q97a, q97b, q97c⟩ := isOf hZ e95 HS.1
      obtain ⟨rv97, _, ⟨T97, L97, k97, n97⟩, -, X97, ⟨Lc97, hQ97, l97, y97, z97⟩, st97⟩ := X95.virtualBack hx (y := (⟨"java/lang/String", "length", "()I"⟩ : MethodName)) (z := (⟨"java/lang/String", "length", "()I"⟩ : MethodName)) hown (mvT hZ (w32_ hw)) (mvT hZ (w33_ hw)) (notFace_of_selects (args := #[]) (mvT hZ (w35_ hw))) (mvT hZ (w35_ hw)) (mvT hZ (w34_ hw)) (by decide) (backOf (W := 1) (rm6 l Z a0 hw [] a (4 : Int32) cs [c0, c1, c2, c3] h0 n0 Z0 S0 hcs HS) hZ (w36_ hw) (w8_ hw) (by decide) (by decide)) q97a q97c (g := (mkF m 4 #[vR a, vI (1 : Int32)] [(.ref a), (.int (1 : Int32))])) rfl (by rw [hml]; rfl) (Steps.refl _) (argsL := []) (rest := [(.int (1 : Int32))]) (lenOf pd_7 rfl) rfl (by show 2 * 0 + _ ≤ _; exact Nat.le_of_eq rfl) (hb hby d5_4) (fun _ _ => ⟨rfl, e95, (by decide : 0 + 0 ≤ _), (by decide : 0 + 0 ≤ _)⟩)
      dsimp only [Pt.U, Pt.locs, Pt.cells, Pt.slots] at X97 l97 y97 z97 st97 hQ97
      subst l97 y97 z97
      obtain ⟨hq97, N97q, e97⟩ := hQ97
      have hq97 : rv97 = some (.int (4 : Int32)) := hq97
      subst hq97
      have N97 := Fr.app N95 N97q
      refine Gl.st (g' := (mkF m 7 #[vR a, vI (1 : Int32)] [(.int (4 : Int32)), (.int (1 : Int32))])) (fun τ κ => st97.trans κ) ?_
      have hc98 : (1 : Int32) < (4 : Int32) := by decide
      refine Gl.st (g' := (mkF m 11 #[vR a, vI (1 : Int32)] [(.ref a)])) (fun τ κ => XS.icmpNo X97.here hx rfl (hb hby d5_7) rfl (tlt hc98).2.1 (XS.aloadN X97.here hx rfl (hb hby d5_10) rfl rfl κ)) ?_
      refine Gl.st (g' := (mkF m 12 #[vR a, vI (1 : Int32)] [(.int (1 : Int32)), (.ref a)])) (fun τ κ => XS.iloadN X97.here hx rfl (hb hby d5_11) rfl κ) ?_
      obtain ⟨cq99, kq99, q99a, q99b, q99c⟩ := isOf hZ e97 HS.1
      obtain ⟨rv99, _, ⟨T99, L99, k99, n99⟩, -, X99, ⟨Lc99, hQ99, l99, y99, z99⟩, st99⟩ := X97.virtualBack hx (y := (⟨"java/lang/String", "charAt", "(I)C"⟩ : MethodName)) (z := (⟨"java/lang/String", "charAt", "(I)C"⟩ : MethodName)) hown (mvT hZ (w56_ hw)) (mvT hZ (w57_ hw)) (notFace_of_selects (args := #[]) (mvT hZ (w59_ hw))) (mvT hZ (w59_ hw)) (mvT hZ (w58_ hw)) (by decide) (backOf (W := 0) (rm12 l Z a0 hw [] a (1 : Int32) (4 : Int32) cs [c0, c1, c2, c3] ff h0 n0 Z0 S0 hcs SA SH SL SF isr_ff HS (by decide) (by decide)) hZ (w60_ hw) (w8_ hw) (by decide) (by decide)) q99a q99c (g := (mkF m 12 #[vR a, vI (1 : Int32)] [(.int (1 : Int32)), (.ref a)])) rfl (by rw [hml]; rfl) (Steps.refl _) (argsL := [(.int (1 : Int32))]) (rest := []) (lenOf pd_8 rfl) rfl (by show 2 * 0 + _ ≤ _; exact Nat.le_of_eq rfl) (hb hby d5_12) (fun _ _ => ⟨rfl, e97, (by decide : 0 + 0 ≤ _), (by decide : 0 + 0 ≤ _)⟩)
      dsimp only [Pt.U, Pt.locs, Pt.cells, Pt.slots] at X99 l99 y99 z99 st99 hQ99
      subst l99 y99 z99
      obtain ⟨hq99, N99q, e99⟩ := hQ99
      have hq99 : rv99 = some (.int c1) := hq99
      subst hq99
      have N99 := Fr.app N97 N99q
      refine Gl.st (g' := (mkF m 15 #[vR a, vI (1 : Int32)] [(.int c1)])) (fun τ κ => st99.trans κ) ?_
      refine Gl.st (g' := (mkF m 17 #[vR a, vI (1 : Int32)] [(.int (32 : Int32)), (.int c1)])) (fun τ κ => XS.bipush X99.here hx rfl (hb hby d5_15) κ) ?_
      by_cases hc100 : c1 < (32 : Int32)
      · -- pc 17: c1 < (32 : Int32)
        refine Gl.st (g' := (mkF m 31 #[vR a, vI (1 : Int32)] [(.int (0 : Int32))])) (fun τ κ => XS.icmpYes X99.here hx rfl (pc0 := 17) (pc' := 30) rfl (hb hby d5_17) rfl (tlt hc100).1 (by decide) (by decide) (XS.iconst X99.here hx rfl (hb hby d5_30) κ)) ?_
        exact Gl.ret (v := some (.int (0 : Int32))) X99 Bd.notSynchronized (fun h => by rw [Bd.returns] at h; cases h) e99 (fun fs hr => retN X99 hx (t := .boolean) Bd.returns (by simp) (hb hby d5_31) hr) (by decide) (by decide) ⟨by simp only [own_pr, hc94, hc96, hc100, if_true, if_false], N99, rfl⟩
      · -- pc 17: not c1 < (32 : Int32)
        refine Gl.st (g' := (mkF m 21 #[vR a, vI (1 : Int32)] [(.ref a)])) (fun τ κ => XS.icmpNo X99.here hx rfl (hb hby d5_17) rfl (flt hc100).1 (XS.aloadN X99.here hx rfl (hb hby d5_20) rfl rfl κ)) ?_
        refine Gl.st (g' := (mkF m 22 #[vR a, vI (1 : Int32)] [(.int (1 : Int32)), (.ref a)])) (fun τ κ => XS.iloadN X99.here hx rfl (hb hby d5_21) rfl κ) ?_
        obtain ⟨cq101, kq101, q101a, q101b, q101c⟩ := isOf hZ e99 HS.1
        obtain ⟨rv101, _, ⟨T101, L101, k101, n101⟩, -, X101, ⟨Lc101, hQ101, l101, y101, z101⟩, st101⟩ := X99.virtualBack hx (y := (⟨"java/lang/String", "charAt", "(I)C"⟩ : MethodName)) (z := (⟨"java/lang/String", "charAt", "(I)C"⟩ : MethodName)) hown (mvT hZ (w56_ hw)) (mvT hZ (w57_ hw)) (notFace_of_selects (args := #[]) (mvT hZ (w59_ hw))) (mvT hZ (w59_ hw)) (mvT hZ (w58_ hw)) (by decide) (backOf (W := 0) (rm12 l Z a0 hw [] a (1 : Int32) (4 : Int32) cs [c0, c1, c2, c3] ff h0 n0 Z0 S0 hcs SA SH SL SF isr_ff HS (by decide) (by decide)) hZ (w60_ hw) (w8_ hw) (by decide) (by decide)) q101a q101c (g := (mkF m 22 #[vR a, vI (1 : Int32)] [(.int (1 : Int32)), (.ref a)])) rfl (by rw [hml]; rfl) (Steps.refl _) (argsL := [(.int (1 : Int32))]) (rest := []) (lenOf pd_8 rfl) rfl (by show 2 * 0 + _ ≤ _; exact Nat.le_of_eq rfl) (hb hby d5_22) (fun _ _ => ⟨rfl, e99, (by decide : 0 + 0 ≤ _), (by decide : 0 + 0 ≤ _)⟩)
        dsimp only [Pt.U, Pt.locs, Pt.cells, Pt.slots] at X101 l101 y101 z101 st101 hQ101
        subst l101 y101 z101
        obtain ⟨hq101, N101q, e101⟩ := hQ101
        have hq101 : rv101 = some (.int c1) := hq101
        subst hq101
        have N101 := Fr.app N99 N101q
        refine Gl.st (g' := (mkF m 25 #[vR a, vI (1 : Int32)] [(.int c1)])) (fun τ κ => st101.trans κ) ?_
        refine Gl.st (g' := (mkF m 27 #[vR a, vI (1 : Int32)] [(.int (126 : Int32)), (.int c1)])) (fun τ κ => XS.bipush X101.here hx rfl (hb hby d5_25) κ) ?_
        by_cases hc102 : (126 : Int32) < c1
        · -- pc 27: (126 : Int32) < c1
          refine Gl.st (g' := (mkF m 31 #[vR a, vI (1 : Int32)] [(.int (0 : Int32))])) (fun τ κ => XS.icmpNo X101.here hx rfl (hb hby d5_27) rfl (tlt hc102).2.2.2 (XS.iconst X101.here hx rfl (hb hby d5_30) κ)) ?_
          exact Gl.ret (v := some (.int (0 : Int32))) X101 Bd.notSynchronized (fun h => by rw [Bd.returns] at h; cases h) e101 (fun fs hr => retN X101 hx (t := .boolean) Bd.returns (by simp) (hb hby d5_31) hr) (by decide) (by decide) ⟨by simp only [own_pr, hc94, hc96, hc100, hc102, if_true, if_false], N101, rfl⟩
        · -- pc 27: not (126 : Int32) < c1
          refine Gl.st (g' := (mkF m 35 #[vR a, vI (2 : Int32)] [])) (fun τ κ => XS.icmpYes X101.here hx rfl (pc0 := 27) (pc' := 32) rfl (hb hby d5_27) rfl (flt hc102).2.2.2 (by decide) (by decide) (XS.iinc X101.here hx rfl (hb hby d5_32) rfl (l' := #[vR a, vI (2 : Int32)]) rfl κ)) ?_
          refine Gl.st (g' := (mkF m 3 #[vR a, vI (2 : Int32)] [(.int (2 : Int32))])) (fun τ κ => XS.goto X101.here hx rfl (pc0 := 35) (pc' := 2) rfl (hb hby d5_35) (by decide) (by decide) (XS.iloadN X101.here hx rfl (hb hby d5_2) rfl κ)) ?_
          refine Gl.st (g' := (mkF m 4 #[vR a, vI (2 : Int32)] [(.ref a), (.int (2 : Int32))])) (fun τ κ => XS.aloadN X101.here hx rfl (hb hby d5_3) rfl rfl κ) ?_
          obtain ⟨cq103, kq103, q103a, q103b, q103c⟩ := isOf hZ e101 HS.1
          obtain ⟨rv103, _, ⟨T103, L103, k103, n103⟩, -, X103, ⟨Lc103, hQ103, l103, y103, z103⟩, st103⟩ := X101.virtualBack hx (y := (⟨"java/lang/String", "length", "()I"⟩ : MethodName)) (z := (⟨"java/lang/String", "length", "()I"⟩ : MethodName)) hown (mvT hZ (w32_ hw)) (mvT hZ (w33_ hw)) (notFace_of_selects (args := #[]) (mvT hZ (w35_ hw))) (mvT hZ (w35_ hw)) (mvT hZ (w34_ hw)) (by decide) (backOf (W := 1) (rm6 l Z a0 hw [] a (4 : Int32) cs [c0, c1, c2, c3] h0 n0 Z0 S0 hcs HS) hZ (w36_ hw) (w8_ hw) (by decide) (by decide)) q103a q103c (g := (mkF m 4 #[vR a, vI (2 : Int32)] [(.ref a), (.int (2 : Int32))])) rfl (by rw [hml]; rfl) (Steps.refl _) (argsL := []) (rest := [(.int (2 : Int32))]) (lenOf pd_7 rfl) rfl (by show 2 * 0 + _ ≤ _; exact Nat.le_of_eq rfl) (hb hby d5_4) (fun _ _ => ⟨rfl, e101, (by decide : 0 + 0 ≤ _), (by decide : 0 + 0 ≤ _)⟩)
          dsimp only [Pt.U, Pt.locs, Pt.cells, Pt.slots] at X103 l103 y103 z103 st103 hQ103
          subst l103 y103 z103
          obtain ⟨hq103, N103q, e103⟩ := hQ103
          have hq103 : rv103 = some (.int (4 : Int32)) := hq103
          subst hq103
          have N103 := Fr.app N101 N103q
          refine Gl.st (g' := (mkF m 7 #[vR a, vI (2 : Int32)] [(.int (4 : Int32)), (.int (2 : Int32))])) (fun τ κ => st103.trans κ) ?_
          have hc104 : (2 : Int32) < (4 : Int32) := by decide
          refine Gl.st (g' := (mkF m 11 #[vR a, vI (2 : Int32)] [(.ref a)])) (fun τ κ => XS.icmpNo X103.here hx rfl (hb hby d5_7) rfl (tlt hc104).2.1 (XS.aloadN X103.here hx rfl (hb hby d5_10) rfl rfl κ)) ?_
          refine Gl.st (g' := (mkF m 12 #[vR a, vI (2 : Int32)] [(.int (2 : Int32)), (.ref a)])) (fun τ κ => XS.iloadN X103.here hx rfl (hb hby d5_11) rfl κ) ?_
          obtain ⟨cq105, kq105, q105a, q105b, q105c⟩ := isOf hZ e103 HS.1
          obtain ⟨rv105, _, ⟨T105, L105, k105, n105⟩, -, X105, ⟨Lc105, hQ105, l105, y105, z105⟩, st105⟩ := X103.virtualBack hx (y := (⟨"java/lang/String", "charAt", "(I)C"⟩ : MethodName)) (z := (⟨"java/lang/String", "charAt", "(I)C"⟩ : MethodName)) hown (mvT hZ (w56_ hw)) (mvT hZ (w57_ hw)) (notFace_of_selects (args := #[]) (mvT hZ (w59_ hw))) (mvT hZ (w59_ hw)) (mvT hZ (w58_ hw)) (by decide) (backOf (W := 0) (rm12 l Z a0 hw [] a (2 : Int32) (4 : Int32) cs [c0, c1, c2, c3] ff h0 n0 Z0 S0 hcs SA SH SL SF isr_ff HS (by decide) (by decide)) hZ (w60_ hw) (w8_ hw) (by decide) (by decide)) q105a q105c (g := (mkF m 12 #[vR a, vI (2 : Int32)] [(.int (2 : Int32)), (.ref a)])) rfl (by rw [hml]; rfl) (Steps.refl _) (argsL := [(.int (2 : Int32))]) (rest := []) (lenOf pd_8 rfl) rfl (by show 2 * 0 + _ ≤ _; exact Nat.le_of_eq rfl) (hb hby d5_12) (fun _ _ => ⟨rfl, e103, (by decide : 0 + 0 ≤ _), (by decide : 0 + 0 ≤ _)⟩)
          dsimp only [Pt.U, Pt.locs, Pt.cells, Pt.slots] at X105 l105 y105 z105 st105 hQ105
          subst l105 y105 z105
          obtain ⟨hq105, N105q, e105⟩ := hQ105
          have hq105 : rv105 = some (.int c2) := hq105
          subst hq105
          have N105 := Fr.app N103 N105q
          refine Gl.st (g' := (mkF m 15 #[vR a, vI (2 : Int32)] [(.int c2)])) (fun τ κ => st105.trans κ) ?_
          refine Gl.st (g' := (mkF m 17 #[vR a, vI (2 : Int32)] [(.int (32 : Int32)), (.int c2)])) (fun τ κ => XS.bipush X105.here hx rfl (hb hby d5_15) κ) ?_
          by_cases hc106 : c2 < (32 : Int32)
          · -- pc 17: c2 < (32 : Int32)
            refine Gl.st (g' := (mkF m 31 #[vR a, vI (2 : Int32)] [(.int (0 : Int32))])) (fun τ κ => XS.icmpYes X105.here hx rfl (pc0 := 17) (pc' := 30) rfl (hb hby d5_17) rfl (tlt hc106).1 (by decide) (by decide) (XS.iconst X105.here hx rfl (hb hby d5_30) κ)) ?_
            exact Gl.ret (v := some (.int (0 : Int32))) X105 Bd.notSynchronized (fun h => by rw [Bd.returns] at h; cases h) e105 (fun fs hr => retN X105 hx (t := .boolean) Bd.returns (by simp) (hb hby d5_31) hr) (by decide) (by decide) ⟨by simp only [own_pr, hc94, hc96, hc100, hc102, hc106, if_true, if_false], N105, rfl⟩
          · -- pc 17: not c2 < (32 : Int32)
            refine Gl.st (g' := (mkF m 21 #[vR a, vI (2 : Int32)] [(.ref a)])) (fun τ κ => XS.icmpNo X105.here hx rfl (hb hby d5_17) rfl (flt hc106).1 (XS.aloadN X105.here hx rfl (hb hby d5_20) rfl rfl κ)) ?_
            refine Gl.st (g' := (mkF m 22 #[vR a, vI (2 : Int32)] [(.int (2 : Int32)), (.ref a)])) (fun τ κ => XS.iloadN X105.here hx rfl (hb hby d5_21) rfl κ) ?_
            obtain ⟨cq107, kq107, q107a, q107b, q107c⟩ := isOf hZ e105 HS.1
            obtain ⟨rv107, _, ⟨T107, L107, k107, n107⟩, -, X107, ⟨Lc107, hQ107, l107, y107, z107⟩, st107⟩ := X105.virtualBack hx (y := (⟨"java/lang/String", "charAt", "(I)C"⟩ : MethodName)) (z := (⟨"java/lang/String", "charAt", "(I)C"⟩ : MethodName)) hown (mvT hZ (w56_ hw)) (mvT hZ (w57_ hw)) (notFace_of_selects (args := #[]) (mvT hZ (w59_ hw))) (mvT hZ (w59_ hw)) (mvT hZ (w58_ hw)) (by decide) (backOf (W := 0) (rm12 l Z a0 hw [] a (2 : Int32) (4 : Int32) cs [c0, c1, c2, c3] ff h0 n0 Z0 S0 hcs SA SH SL SF isr_ff HS (by decide) (by decide)) hZ (w60_ hw) (w8_ hw) (by decide) (by decide)) q107a q107c (g := (mkF m 22 #[vR a, vI (2 : Int32)] [(.int (2 : Int32)), (.ref a)])) rfl (by rw [hml]; rfl) (Steps.refl _) (argsL := [(.int (2 : Int32))]) (rest := []) (lenOf pd_8 rfl) rfl (by show 2 * 0 + _ ≤ _; exact Nat.le_of_eq rfl) (hb hby d5_22) (fun _ _ => ⟨rfl, e105, (by decide : 0 + 0 ≤ _), (by decide : 0 + 0 ≤ _)⟩)
            dsimp only [Pt.U, Pt.locs, Pt.cells, Pt.slots] at X107 l107 y107 z107 st107 hQ107
            subst l107 y107 z107
            obtain ⟨hq107, N107q, e107⟩ := hQ107
            have hq107 : rv107 = some (.int c2) := hq107
            subst hq107
            have N107 := Fr.app N105 N107q
            refine Gl.st (g' := (mkF m 25 #[vR a, vI (2 : Int32)] [(.int c2)])) (fun τ κ => st107.trans κ) ?_
            refine Gl.st (g' := (mkF m 27 #[vR a, vI (2 : Int32)] [(.int (126 : Int32)), (.int c2)])) (fun τ κ => XS.bipush X107.here hx rfl (hb hby d5_25) κ) ?_
            by_cases hc108 : (126 : Int32) < c2
            · -- pc 27: (126 : Int32) < c2
              refine Gl.st (g' := (mkF m 31 #[vR a, vI (2 : Int32)] [(.int (0 : Int32))])) (fun τ κ => XS.icmpNo X107.here hx rfl (hb hby d5_27) rfl (tlt hc108).2.2.2 (XS.iconst X107.here hx rfl (hb hby d5_30) κ)) ?_
              exact Gl.ret (v := some (.int (0 : Int32))) X107 Bd.notSynchronized (fun h => by rw [Bd.returns] at h; cases h) e107 (fun fs hr => retN X107 hx (t := .boolean) Bd.returns (by simp) (hb hby d5_31) hr) (by decide) (by decide) ⟨by simp only [own_pr, hc94, hc96, hc100, hc102, hc106, hc108, if_true, if_false], N107, rfl⟩
            · -- pc 27: not (126 : Int32) < c2
              refine Gl.st (g' := (mkF m 35 #[vR a, vI (3 : Int32)] [])) (fun τ κ => XS.icmpYes X107.here hx rfl (pc0 := 27) (pc' := 32) rfl (hb hby d5_27) rfl (flt hc108).2.2.2 (by decide) (by decide) (XS.iinc X107.here hx rfl (hb hby d5_32) rfl (l' := #[vR a, vI (3 : Int32)]) rfl κ)) ?_
              refine Gl.st (g' := (mkF m 3 #[vR a, vI (3 : Int32)] [(.int (3 : Int32))])) (fun τ κ => XS.goto X107.here hx rfl (pc0 := 35) (pc' := 2) rfl (hb hby d5_35) (by decide) (by decide) (XS.iloadN X107.here hx rfl (hb hby d5_2) rfl κ)) ?_
              refine Gl.st (g' := (mkF m 4 #[vR a, vI (3 : Int32)] [(.ref a), (.int (3 : Int32))])) (fun τ κ => XS.aloadN X107.here hx rfl (hb hby d5_3) rfl rfl κ) ?_
              obtain ⟨cq109, kq109, q109a, q109b, q109c⟩ := isOf hZ e107 HS.1
              obtain ⟨rv109, _, ⟨T109, L109, k109, n109⟩, -, X109, ⟨Lc109, hQ109, l109, y109, z109⟩, st109⟩ := X107.virtualBack hx (y := (⟨"java/lang/String", "length", "()I"⟩ : MethodName)) (z := (⟨"java/lang/String", "length", "()I"⟩ : MethodName)) hown (mvT hZ (w32_ hw)) (mvT hZ (w33_ hw)) (notFace_of_selects (args := #[]) (mvT hZ (w35_ hw))) (mvT hZ (w35_ hw)) (mvT hZ (w34_ hw)) (by decide) (backOf (W := 1) (rm6 l Z a0 hw [] a (4 : Int32) cs [c0, c1, c2, c3] h0 n0 Z0 S0 hcs HS) hZ (w36_ hw) (w8_ hw) (by decide) (by decide)) q109a q109c (g := (mkF m 4 #[vR a, vI (3 : Int32)] [(.ref a), (.int (3 : Int32))])) rfl (by rw [hml]; rfl) (Steps.refl _) (argsL := []) (rest := [(.int (3 : Int32))]) (lenOf pd_7 rfl) rfl (by show 2 * 0 + _ ≤ _; exact Nat.le_of_eq rfl) (hb hby d5_4) (fun _ _ => ⟨rfl, e107, (by decide : 0 + 0 ≤ _), (by decide : 0 + 0 ≤ _)⟩)
              dsimp only [Pt.U, Pt.locs, Pt.cells, Pt.slots] at X109 l109 y109 z109 st109 hQ109
              subst l109 y109 z109
              obtain ⟨hq109, N109q, e109⟩ := hQ109
              have hq109 : rv109 = some (.int (4 : Int32)) := hq109
              subst hq109
              have N109 := Fr.app N107 N109q
              refine Gl.st (g' := (mkF m 7 #[vR a, vI (3 : Int32)] [(.int (4 : Int32)), (.int (3 : Int32))])) (fun τ κ => st109.trans κ) ?_
              have hc110 : (3 : Int32) < (4 : Int32) := by decide
              refine Gl.st (g' := (mkF m 11 #[vR a, vI (3 : Int32)] [(.ref a)])) (fun τ κ => XS.icmpNo X109.here hx rfl (hb hby d5_7) rfl (tlt hc110).2.1 (XS.aloadN X109.here hx rfl (hb hby d5_10) rfl rfl κ)) ?_
              refine Gl.st (g' := (mkF m 12 #[vR a, vI (3 : Int32)] [(.int (3 : Int32)), (.ref a)])) (fun τ κ => XS.iloadN X109.here hx rfl (hb hby d5_11) rfl κ) ?_
              obtain ⟨cq111, kq111, q111a, q111b, q111c⟩ := isOf hZ e109 HS.1
              obtain ⟨rv111, _, ⟨T111, L111, k111, n111⟩, -, X111, ⟨Lc111, hQ111, l111, y111, z111⟩, st111⟩ := X109.virtualBack hx (y := (⟨"java/lang/String", "charAt", "(I)C"⟩ : MethodName)) (z := (⟨"java/lang/String", "charAt", "(I)C"⟩ : MethodName)) hown (mvT hZ (w56_ hw)) (mvT hZ (w57_ hw)) (notFace_of_selects (args := #[]) (mvT hZ (w59_ hw))) (mvT hZ (w59_ hw)) (mvT hZ (w58_ hw)) (by decide) (backOf (W := 0) (rm12 l Z a0 hw [] a (3 : Int32) (4 : Int32) cs [c0, c1, c2, c3] ff h0 n0 Z0 S0 hcs SA SH SL SF isr_ff HS (by decide) (by decide)) hZ (w60_ hw) (w8_ hw) (by decide) (by decide)) q111a q111c (g := (mkF m 12 #[vR a, vI (3 : Int32)] [(.int (3 : Int32)), (.ref a)])) rfl (by rw [hml]; rfl) (Steps.refl _) (argsL := [(.int (3 : Int32))]) (rest := []) (lenOf pd_8 rfl) rfl (by show 2 * 0 + _ ≤ _; exact Nat.le_of_eq rfl) (hb hby d5_12) (fun _ _ => ⟨rfl, e109, (by decide : 0 + 0 ≤ _), (by decide : 0 + 0 ≤ _)⟩)
              dsimp only [Pt.U, Pt.locs, Pt.cells, Pt.slots] at X111 l111 y111 z111 st111 hQ111
              subst l111 y111 z111
              obtain ⟨hq111, N111q, e111⟩ := hQ111
              have hq111 : rv111 = some (.int c3) := hq111
              subst hq111
              have N111 := Fr.app N109 N111q
              refine Gl.st (g' := (mkF m 15 #[vR a, vI (3 : Int32)] [(.int c3)])) (fun τ κ => st111.trans κ) ?_
              refine Gl.st (g' := (mkF m 17 #[vR a, vI (3 : Int32)] [(.int (32 : Int32)), (.int c3)])) (fun τ κ => XS.bipush X111.here hx rfl (hb hby d5_15) κ) ?_
              by_cases hc112 : c3 < (32 : Int32)
              · -- pc 17: c3 < (32 : Int32)
                refine Gl.st (g' := (mkF m 31 #[vR a, vI (3 : Int32)] [(.int (0 : Int32))])) (fun τ κ => XS.icmpYes X111.here hx rfl (pc0 := 17) (pc' := 30) rfl (hb hby d5_17) rfl (tlt hc112).1 (by decide) (by decide) (XS.iconst X111.here hx rfl (hb hby d5_30) κ)) ?_
                exact Gl.ret (v := some (.int (0 : Int32))) X111 Bd.notSynchronized (fun h => by rw [Bd.returns] at h; cases h) e111 (fun fs hr => retN X111 hx (t := .boolean) Bd.returns (by simp) (hb hby d5_31) hr) (by decide) (by decide) ⟨by simp only [own_pr, hc94, hc96, hc100, hc102, hc106, hc108, hc112, if_true, if_false], N111, rfl⟩
              · -- pc 17: not c3 < (32 : Int32)
                refine Gl.st (g' := (mkF m 21 #[vR a, vI (3 : Int32)] [(.ref a)])) (fun τ κ => XS.icmpNo X111.here hx rfl (hb hby d5_17) rfl (flt hc112).1 (XS.aloadN X111.here hx rfl (hb hby d5_20) rfl rfl κ)) ?_
                refine Gl.st (g' := (mkF m 22 #[vR a, vI (3 : Int32)] [(.int (3 : Int32)), (.ref a)])) (fun τ κ => XS.iloadN X111.here hx rfl (hb hby d5_21) rfl κ) ?_
                obtain ⟨cq113, kq113, q113a, q113b, q113c⟩ := isOf hZ e111 HS.1
                obtain ⟨rv113, _, ⟨T113, L113, k113, n113⟩, -, X113, ⟨Lc113, hQ113, l113, y113, z113⟩, st113⟩ := X111.virtualBack hx (y := (⟨"java/lang/String", "charAt", "(I)C"⟩ : MethodName)) (z := (⟨"java/lang/String", "charAt", "(I)C"⟩ : MethodName)) hown (mvT hZ (w56_ hw)) (mvT hZ (w57_ hw)) (notFace_of_selects (args := #[]) (mvT hZ (w59_ hw))) (mvT hZ (w59_ hw)) (mvT hZ (w58_ hw)) (by decide) (backOf (W := 0) (rm12 l Z a0 hw [] a (3 : Int32) (4 : Int32) cs [c0, c1, c2, c3] ff h0 n0 Z0 S0 hcs SA SH SL SF isr_ff HS (by decide) (by decide)) hZ (w60_ hw) (w8_ hw) (by decide) (by decide)) q113a q113c (g := (mkF m 22 #[vR a, vI (3 : Int32)] [(.int (3 : Int32)), (.ref a)])) rfl (by rw [hml]; rfl) (Steps.refl _) (argsL := [(.int (3 : Int32))]) (rest := []) (lenOf pd_8 rfl) rfl (by show 2 * 0 + _ ≤ _; exact Nat.le_of_eq rfl) (hb hby d5_22) (fun _ _ => ⟨rfl, e111, (by decide : 0 + 0 ≤ _), (by decide : 0 + 0 ≤ _)⟩)
                dsimp only [Pt.U, Pt.locs, Pt.cells, Pt.slots] at X113 l113 y113 z113 st113 hQ113
                subst l113 y113 z113
                obtain ⟨hq113, N113q, e113⟩ := hQ113
                have hq113 : rv113 = some (.int c3) := hq113
                subst hq113
                have N113 := Fr.app N111 N113q
                refine Gl.st (g' := (mkF m 25 #[vR a, vI (3 : Int32)] [(.int c3)])) (fun τ κ => st113.trans κ) ?_
                refine Gl.st (g' := (mkF m 27 #[vR a, vI (3 : Int32)] [(.int (126 : Int32)), (.int c3)])) (fun τ κ => XS.bipush X113.here hx rfl (hb hby d5_25) κ) ?_
                by_cases hc114 : (126 : Int32) < c3
                · -- pc 27: (126 : Int32) < c3
                  refine Gl.st (g' := (mkF m 31 #[vR a, vI (3 : Int32)] [(.int (0 : Int32))])) (fun τ κ => XS.icmpNo X113.here hx rfl (hb hby d5_27) rfl (tlt hc114).2.2.2 (XS.iconst X113.here hx rfl (hb hby d5_30) κ)) ?_
                  exact Gl.ret (v := some (.int (0 : Int32))) X113 Bd.notSynchronized (fun h => by rw [Bd.returns] at h; cases h) e113 (fun fs hr => retN X113 hx (t := .boolean) Bd.returns (by simp) (hb hby d5_31) hr) (by decide) (by decide) ⟨by simp only [own_pr, hc94, hc96, hc100, hc102, hc106, hc108, hc112, hc114, if_true, if_false], N113, rfl⟩
                · -- pc 27: not (126 : Int32) < c3
                  refine Gl.st (g' := (mkF m 35 #[vR a, vI (4 : Int32)] [])) (fun τ κ => XS.icmpYes X113.here hx rfl (pc0 := 27) (pc' := 32) rfl (hb hby d5_27) rfl (flt hc114).2.2.2 (by decide) (by decide) (XS.iinc X113.here hx rfl (hb hby d5_32) rfl (l' := #[vR a, vI (4 : Int32)]) rfl κ)) ?_
                  refine Gl.st (g' := (mkF m 3 #[vR a, vI (4 : Int32)] [(.int (4 : Int32))])) (fun τ κ => XS.goto X113.here hx rfl (pc0 := 35) (pc' := 2) rfl (hb hby d5_35) (by decide) (by decide) (XS.iloadN X113.here hx rfl (hb hby d5_2) rfl κ)) ?_
                  refine Gl.st (g' := (mkF m 4 #[vR a, vI (4 : Int32)] [(.ref a), (.int (4 : Int32))])) (fun τ κ => XS.aloadN X113.here hx rfl (hb hby d5_3) rfl rfl κ) ?_
                  obtain ⟨cq115, kq115, q115a, q115b, q115c⟩ := isOf hZ e113 HS.1
                  obtain ⟨rv115, _, ⟨T115, L115, k115, n115⟩, -, X115, ⟨Lc115, hQ115, l115, y115, z115⟩, st115⟩ := X113.virtualBack hx (y := (⟨"java/lang/String", "length", "()I"⟩ : MethodName)) (z := (⟨"java/lang/String", "length", "()I"⟩ : MethodName)) hown (mvT hZ (w32_ hw)) (mvT hZ (w33_ hw)) (notFace_of_selects (args := #[]) (mvT hZ (w35_ hw))) (mvT hZ (w35_ hw)) (mvT hZ (w34_ hw)) (by decide) (backOf (W := 1) (rm6 l Z a0 hw [] a (4 : Int32) cs [c0, c1, c2, c3] h0 n0 Z0 S0 hcs HS) hZ (w36_ hw) (w8_ hw) (by decide) (by decide)) q115a q115c (g := (mkF m 4 #[vR a, vI (4 : Int32)] [(.ref a), (.int (4 : Int32))])) rfl (by rw [hml]; rfl) (Steps.refl _) (argsL := []) (rest := [(.int (4 : Int32))]) (lenOf pd_7 rfl) rfl (by show 2 * 0 + _ ≤ _; exact Nat.le_of_eq rfl) (hb hby d5_4) (fun _ _ => ⟨rfl, e113, (by decide : 0 + 0 ≤ _), (by decide : 0 + 0 ≤ _)⟩)
                  dsimp only [Pt.U, Pt.locs, Pt.cells, Pt.slots] at X115 l115 y115 z115 st115 hQ115
                  subst l115 y115 z115
                  obtain ⟨hq115, N115q, e115⟩ := hQ115
                  have hq115 : rv115 = some (.int (4 : Int32)) := hq115
                  subst hq115
                  have N115 := Fr.app N113 N115q
                  refine Gl.st (g' := (mkF m 7 #[vR a, vI (4 : Int32)] [(.int (4 : Int32)), (.int (4 : Int32))])) (fun τ κ => st115.trans κ) ?_
                  have hc116 : ¬ ((4 : Int32) < (4 : Int32)) := by decide
                  refine Gl.st (g' := (mkF m 39 #[vR a, vI (4 : Int32)] [(.int (1 : Int32))])) (fun τ κ => XS.icmpYes X115.here hx rfl (pc0 := 7) (pc' := 38) rfl (hb hby d5_7) rfl (flt hc116).2.1 (by decide) (by decide) (XS.iconst X115.here hx rfl (hb hby d5_38) κ)) ?_
                  exact Gl.ret (v := some (.int (1 : Int32))) X115 Bd.notSynchronized (fun h => by rw [Bd.returns] at h; cases h) e115 (fun fs hr => retN X115 hx (t := .boolean) Bd.returns (by simp) (hb hby d5_39) hr) (by decide) (by decide) ⟨by simp only [own_pr, hc94, hc96, hc100, hc102, hc106, hc108, hc112, hc114, if_true, if_false], N115, rfl⟩
theorem d11_0 : decode method_3_code 0 = .ok (.iload_n 0, 1) := by decide +kernel
theorem d11_1 : decode method_3_code 1 = .ok (.istore_n 1, 1) := by decide +kernel
theorem d11_2 : decode method_3_code 2 = .ok (.iload_n 1, 1) := by decide +kernel
theorem d11_3 : decode method_3_code 3 = .ok (.bipush 32, 2) := by decide +kernel
theorem d11_5 : decode method_3_code 5 = .ok (.if_icmp .lt 13, 3) := by decide +kernel
theorem d11_18 : decode method_3_code 18 = .ok (.iconst 0, 1) := by decide +kernel
theorem d11_19 : decode method_3_code 19 = .ok (.ireturn, 1) := by decide +kernel
theorem d11_8 : decode method_3_code 8 = .ok (.iload_n 1, 1) := by decide +kernel
theorem d11_9 : decode method_3_code 9 = .ok (.bipush 126, 2) := by decide +kernel
theorem d11_11 : decode method_3_code 11 = .ok (.if_icmp .gt 7, 3) := by decide +kernel
theorem d11_14 : decode method_3_code 14 = .ok (.iconst 1, 1) := by decide +kernel
theorem d11_15 : decode method_3_code 15 = .ok (.goto 4, 3) := by decide +kernel
theorem pn_com_example_sealgrant_sealgrant_AsciiPrintablePinLaw : plainName "com/example/sealgrant/sealgrant/AsciiPrintablePinLaw" = true := by first | (simp [plainName, overriddenIn]; done) | decide +kernel
theorem ef_rm11 (m : MethodId) (ch : Int32) : entryFrame m #[(.int ch)] 2 = mkF m 0 #[vI ch, .unset] [] := by first | (simp [entryFrame, mkF, argsToLocals, Value.category]; done) | rfl
def Q_rm11 (Z : State) (ch : Int32)  (h0 : Heap) (n0 : Nat) (v : Option Value) (h : Heap) (L : List Loc) : Prop := v = some (.int (own_okc ch)) ∧ Fr n0 L ∧ h = h0
set_option maxRecDepth 65536 in
set_option maxHeartbeats 40000000 in
theorem rm11 (l : Launch) (Z : State) (a0 : Array Value) (hw : ∀ d ∈ tables_1, d.before a0 Z = true) (ws : List Jvm.Cond) (ch : Int32)  (h0 : Heap) (n0 : Nat) (Z0 : n0 ≤ h0.size)  :
    MetFree l (⟨"com/example/sealgrant/sealgrant/AsciiPrintablePinLaw", "ok", "(C)Z"⟩ : MethodName) (head1 (Jvm.Cond.code (⟨"com/example/sealgrant/sealgrant/AsciiPrintablePinLaw", "ok", "(C)Z"⟩ : MethodName) method_3_code 2 (some .boolean) :: ws) ({ frames := 0, cells := 0, slots := 0, locals := 0 } : Room)) (fun aα Uα => aα = #[(.int ch)] ∧ Z.Warmed39 Uα.vm ∧ Uα.heap = h0) (fun _ _ _ _ _ => True) (fun _ Uα oα Uβ => ∃ vα Lα, oα = .returned vα ∧ Q_rm11 Z ch  h0 n0 vα Uβ.heap Lα ∧ FrameEnd Uα oα Uβ Lα ({ frames := 0, cells := 0, slots := 0, locals := 0 } : Room).cells ({ frames := 0, cells := 0, slots := 0, locals := 0 } : Room).slots) := by
  refine MetFree.of_bodySF (plainFor_of_name pn_com_example_sealgrant_sealgrant_AsciiPrintablePinLaw) hisR ?_
  intro p e s m args below meth c s₁ Bd hml0 hP hKα
  obtain ⟨rfl, hZ, hh⟩ := hP
  have hx := Bd.exec
  have hby := Bd.bytes
  have hml : c.maxLocals = 2 := hml0
  have hown : s.vm.findClass "com/example/sealgrant/sealgrant/AsciiPrintablePinLaw" = some m.cls := findClass_of_methodNamed Bd.named
  have hnm := (name_of_methodNamed Bd.named Bd.method).1
  have X0 : Stand p l e ({ frames := 0, cells := 0, slots := 0, locals := 0 } : Room) s m #[(.int ch)] below meth c s₁ [] 0 0 := Stand.of_body Bd
  have e0 : s₁.heap = h0 := by rw [← hh, Bd.state]; rfl
  have N0 := Fr.nil n0
  suffices k0 : Gl p e below s (Q_rm11 Z ch  h0 n0) ({ frames := 0, cells := 0, slots := 0, locals := 0 } : Room).cells ({ frames := 0, cells := 0, slots := 0, locals := 0 } : Room).slots s₁ (mkF m 0 #[vI ch, .unset] []) from Gl.st (fun τ κ => castTop (ef_rm11 m ch) κ) k0
  refine Gl.st (g' := (mkF m 2 #[vI ch, vI ch] [])) (fun τ κ => XS.iloadN X0.here hx rfl (hb hby d11_0) rfl (XS.istoreN X0.here hx rfl (hb hby d11_1) rfl (l' := #[vI ch, vI ch]) rfl κ)) ?_
  refine Gl.st (g' := (mkF m 5 #[vI ch, vI ch] [(.int (32 : Int32)), (.int ch)])) (fun τ κ => XS.iloadN X0.here hx rfl (hb hby d11_2) rfl (XS.bipush X0.here hx rfl (hb hby d11_3) κ)) ?_
  by_cases hc117 : ch < (32 : Int32)
  · -- pc 5: ch < (32 : Int32)
    refine Gl.st (g' := (mkF m 19 #[vI ch, vI ch] [(.int (0 : Int32))])) (fun τ κ => XS.icmpYes X0.here hx rfl (pc0 := 5) (pc' := 18) rfl (hb hby d11_5) rfl (tlt hc117).1 (by decide) (by decide) (XS.iconst X0.here hx rfl (hb hby d11_18) κ)) ?_
    exact Gl.ret (v := some (.int (0 : Int32))) X0 Bd.notSynchronized (fun h => by rw [Bd.returns] at h; cases h) e0 (fun fs hr => retN X0 hx (t := .boolean) Bd.returns (by simp) (hb hby d11_19) hr) (by decide) (by decide) ⟨by simp only [own_okc, hc117, if_true, if_false], N0, rfl⟩
  · -- pc 5: not ch < (32 : Int32)
    refine Gl.st (g' := (mkF m 9 #[vI ch, vI ch] [(.int ch)])) (fun τ κ => XS.icmpNo X0.here hx rfl (hb hby d11_5) rfl (flt hc117).1 (XS.iloadN X0.here hx rfl (hb hby d11_8) rfl κ)) ?_
    refine Gl.st (g' := (mkF m 11 #[vI ch, vI ch] [(.int (126 : Int32)), (.int ch)])) (fun τ κ => XS.bipush X0.here hx rfl (hb hby d11_9) κ) ?_
    by_cases hc118 : (126 : Int32) < ch
    · -- pc 11: (126 : Int32) < ch
      refine Gl.st (g' := (mkF m 19 #[vI ch, vI ch] [(.int (0 : Int32))])) (fun τ κ => XS.icmpYes X0.here hx rfl (pc0 := 11) (pc' := 18) rfl (hb hby d11_11) rfl (tlt hc118).2.2.1 (by decide) (by decide) (XS.iconst X0.here hx rfl (hb hby d11_18) κ)) ?_
      exact Gl.ret (v := some (.int (0 : Int32))) X0 Bd.notSynchronized (fun h => by rw [Bd.returns] at h; cases h) e0 (fun fs hr => retN X0 hx (t := .boolean) Bd.returns (by simp) (hb hby d11_19) hr) (by decide) (by decide) ⟨by simp only [own_okc, hc117, hc118, if_true, if_false], N0, rfl⟩
    · -- pc 11: not (126 : Int32) < ch
      refine Gl.st (g' := (mkF m 15 #[vI ch, vI ch] [(.int (1 : Int32))])) (fun τ κ => XS.icmpNo X0.here hx rfl (hb hby d11_11) rfl (flt hc118).2.2.1 (XS.iconst X0.here hx rfl (hb hby d11_14) κ)) ?_
      refine Gl.st (g' := (mkF m 19 #[vI ch, vI ch] [(.int (1 : Int32))])) (fun τ κ => XS.goto X0.here hx rfl (pc0 := 15) (pc' := 19) rfl (hb hby d11_15) (by decide) (by decide) κ) ?_
      exact Gl.ret (v := some (.int (1 : Int32))) X0 Bd.notSynchronized (fun h => by rw [Bd.returns] at h; cases h) e0 (fun fs hr => retN X0 hx (t := .boolean) Bd.returns (by simp) (hb hby d11_19) hr) (by decide) (by decide) ⟨by simp only [own_okc, hc117, hc118, if_true, if_false], N0, rfl⟩
theorem d20_0 : decode jdk_52_method_4_code 0 = .ok (.getstatic 44, 3) := by decide +kernel
theorem d20_3 : decode jdk_52_method_4_code 3 = .ok (.ifCond .ne 25, 3) := by decide +kernel
theorem d20_28 : decode jdk_52_method_4_code 28 = .ok (.iload_n 1, 1) := by decide +kernel
theorem d20_29 : decode jdk_52_method_4_code 29 = .ok (.iconst 1, 1) := by decide +kernel
theorem d20_30 : decode jdk_52_method_4_code 30 = .ok (.ishl, 1) := by decide +kernel
theorem d20_31 : decode jdk_52_method_4_code 31 = .ok (.istore_n 1, 1) := by decide +kernel
theorem d20_32 : decode jdk_52_method_4_code 32 = .ok (.aload_n 0, 1) := by decide +kernel
theorem d20_33 : decode jdk_52_method_4_code 33 = .ok (.iload_n 1, 1) := by decide +kernel
theorem d20_34 : decode jdk_52_method_4_code 34 = .ok (.iinc 1 1, 3) := by decide +kernel
theorem d20_37 : decode jdk_52_method_4_code 37 = .ok (.iload_n 2, 1) := by decide +kernel
theorem d20_38 : decode jdk_52_method_4_code 38 = .ok (.getstatic 59, 3) := by decide +kernel
theorem d20_41 : decode jdk_52_method_4_code 41 = .ok (.ishr, 1) := by decide +kernel
theorem d20_42 : decode jdk_52_method_4_code 42 = .ok (.i2b, 1) := by decide +kernel
theorem d20_43 : decode jdk_52_method_4_code 43 = .ok (.bastore, 1) := by decide +kernel
theorem d20_44 : decode jdk_52_method_4_code 44 = .ok (.aload_n 0, 1) := by decide +kernel
theorem d20_45 : decode jdk_52_method_4_code 45 = .ok (.iload_n 1, 1) := by decide +kernel
theorem d20_46 : decode jdk_52_method_4_code 46 = .ok (.iload_n 2, 1) := by decide +kernel
theorem d20_47 : decode jdk_52_method_4_code 47 = .ok (.getstatic 63, 3) := by decide +kernel
theorem d20_50 : decode jdk_52_method_4_code 50 = .ok (.ishr, 1) := by decide +kernel
theorem d20_51 : decode jdk_52_method_4_code 51 = .ok (.i2b, 1) := by decide +kernel
theorem d20_52 : decode jdk_52_method_4_code 52 = .ok (.bastore, 1) := by decide +kernel
theorem d20_53 : decode jdk_52_method_4_code 53 = .ok (.return_, 1) := by decide +kernel
theorem ef_rm20_1_0 (m : MethodId) (u : Addr) (ch : Int32) : entryFrame m #[(.ref u), (.int (0 : Int32)), (.int ch)] 3 = mkF m 0 #[vR u, vI (0 : Int32), vI ch] [] := by first | (simp [entryFrame, mkF, argsToLocals, Value.category]; done) | rfl
def Q_rm20_1_0 (Z : State) (u : Addr) (ch : Int32) (ku : ClassId) (w0 w1 : Value) (h0 : Heap) (n0 : Nat) (v : Option Value) (h : Heap) (L : List Loc) : Prop := v = none ∧ Fr n0 L ∧ Keep h0 h [u] ∧ Arv Z h u ku .byte (2 : Int32) [(.int (own_hi ch)), (.int (own_lo ch))] (.int (0 : Int32))
set_option maxRecDepth 65536 in
set_option maxHeartbeats 40000000 in
theorem rm20_1_0 (l : Launch) (Z : State) (a0 : Array Value) (hw : ∀ d ∈ tables_1, d.before a0 Z = true) (ws : List Jvm.Cond) (u : Addr) (ch : Int32) (ku : ClassId) (w0 w1 : Value) (h0 : Heap) (n0 : Nat) (Z0 : n0 ≤ h0.size) (SA : Sta Z h0 "java/lang/StringUTF16" "$assertionsDisabled" "Z" (.int (1 : Int32))) (SH : Sta Z h0 "java/lang/StringUTF16" "HI_BYTE_SHIFT" "I" (.int (0 : Int32))) (SL : Sta Z h0 "java/lang/StringUTF16" "LO_BYTE_SHIFT" "I" (.int (8 : Int32))) (V0 : Arv Z h0 u ku .byte (2 : Int32) [w0, w1] (.int (0 : Int32))) (gu : n0 ≤ u) :
    MetFree l (⟨"java/lang/StringUTF16", "putChar", "([BII)V"⟩ : MethodName) (head1 (Jvm.Cond.code (⟨"java/lang/StringUTF16", "putChar", "([BII)V"⟩ : MethodName) jdk_52_method_4_code 3 none :: ws) ({ frames := 0, cells := 0, slots := 0, locals := 0 } : Room)) (fun aα Uα => aα = #[(.ref u), (.int (0 : Int32)), (.int ch)] ∧ Z.Warmed39 Uα.vm ∧ Uα.heap = h0) (fun _ _ _ _ _ => True) (fun _ Uα oα Uβ => ∃ vα Lα, oα = .returned vα ∧ Q_rm20_1_0 Z u ch ku w0 w1 h0 n0 vα Uβ.heap Lα ∧ FrameEnd Uα oα Uβ Lα ({ frames := 0, cells := 0, slots := 0, locals := 0 } : Room).cells ({ frames := 0, cells := 0, slots := 0, locals := 0 } : Room).slots) := by
  refine MetFree.of_bodySF (plainFor_of_name pn_java_lang_StringUTF16) hisR ?_
  intro p e s m args below meth c s₁ Bd hml0 hP hKα
  obtain ⟨rfl, hZ, hh⟩ := hP
  have hx := Bd.exec
  have hby := Bd.bytes
  have hml : c.maxLocals = 3 := hml0
  have hown : s.vm.findClass "java/lang/StringUTF16" = some m.cls := findClass_of_methodNamed Bd.named
  have hnm := (name_of_methodNamed Bd.named Bd.method).1
  have X0 : Stand p l e ({ frames := 0, cells := 0, slots := 0, locals := 0 } : Room) s m #[(.ref u), (.int (0 : Int32)), (.int ch)] below meth c s₁ [] 0 0 := Stand.of_body Bd
  have e0 : s₁.heap = h0 := by rw [← hh, Bd.state]; rfl
  have N0 := Fr.nil n0
  suffices k0 : Gl p e below s (Q_rm20_1_0 Z u ch ku w0 w1 h0 n0) ({ frames := 0, cells := 0, slots := 0, locals := 0 } : Room).cells ({ frames := 0, cells := 0, slots := 0, locals := 0 } : Room).slots s₁ (mkF m 0 #[vR u, vI (0 : Int32), vI ch] []) from Gl.st (fun τ κ => castTop (ef_rm20_1_0 m u ch) κ) k0
  obtain ⟨T119, X119, e119, st119⟩ := getS2 X0 hx hZ hown (host := "") (Or.inl (w91_ hw)) Via.refl e0 SA (g := (mkF m 0 #[vR u, vI (0 : Int32), vI ch] [])) rfl (hb hby d20_0)
  refine Gl.st (g' := (mkF m 3 #[vR u, vI (0 : Int32), vI ch] [(.int (1 : Int32))])) (fun τ κ => st119 _ κ) ?_
  have hc120 : ¬ ((1 : Int32) = (0 : Int32)) := by decide
  refine Gl.st (g' := (mkF m 29 #[vR u, vI (0 : Int32), vI ch] [(.int (0 : Int32))])) (fun τ κ => XS.ifYes X119.here hx rfl (pc0 := 3) (pc' := 28) rfl (hb hby d20_3) rfl ((if0 _ _).trans (feq hc120).2) (by decide) (by decide) (XS.iloadN X119.here hx rfl (hb hby d20_28) rfl κ)) ?_
  refine Gl.st (g' := (mkF m 31 #[vR u, vI (0 : Int32), vI ch] [(.int ((0 : Int32) <<< ((1 : Int32) &&& 31)))])) (fun τ κ => XS.iconst X119.here hx rfl (hb hby d20_29) (XS.ishl X119.here hx rfl (hb hby d20_30) rfl κ)) ?_
  rw [show ((0 : Int32) <<< ((1 : Int32) &&& 31)) = (0 : Int32) from by decide]
  refine Gl.st (g' := (mkF m 33 #[vR u, vI (0 : Int32), vI ch] [(.ref u)])) (fun τ κ => XS.istoreN X119.here hx rfl (hb hby d20_31) rfl (l' := #[vR u, vI (0 : Int32), vI ch]) rfl (XS.aloadN X119.here hx rfl (hb hby d20_32) rfl rfl κ)) ?_
  refine Gl.st (g' := (mkF m 37 #[vR u, vI (1 : Int32), vI ch] [(.int (0 : Int32)), (.ref u)])) (fun τ κ => XS.iloadN X119.here hx rfl (hb hby d20_33) rfl (XS.iinc X119.here hx rfl (hb hby d20_34) rfl (l' := #[vR u, vI (1 : Int32), vI ch]) rfl κ)) ?_
  refine Gl.st (g' := (mkF m 38 #[vR u, vI (1 : Int32), vI ch] [(.int ch), (.int (0 : Int32)), (.ref u)])) (fun τ κ => XS.iloadN X119.here hx rfl (hb hby d20_37) rfl κ) ?_
  obtain ⟨T121, X121, e121, st121⟩ := getS2 X119 hx hZ hown (host := "") (Or.inl (w92_ hw)) Via.refl e119 SH (g := (mkF m 38 #[vR u, vI (1 : Int32), vI ch] [(.int ch), (.int (0 : Int32)), (.ref u)])) rfl (hb hby d20_38)
  refine Gl.st (g' := (mkF m 41 #[vR u, vI (1 : Int32), vI ch] [(.int (0 : Int32)), (.int ch), (.int (0 : Int32)), (.ref u)])) (fun τ κ => st121 _ κ) ?_
  refine Gl.st (g' := (mkF m 43 #[vR u, vI (1 : Int32), vI ch] [(.int ((ch >>> ((0 : Int32) &&& 31)).toInt8.toInt32)), (.int (0 : Int32)), (.ref u)])) (fun τ κ => XS.ishr X121.here hx rfl (hb hby d20_41) rfl (XS.i2b X121.here hx rfl (hb hby d20_42) rfl κ)) ?_
  obtain ⟨cl_o122, Ar_o122, q_o122, S_o122, M_o122, H_o122, G_o122⟩ := id V0
  have hin_o122 : ¬ ((0 : Int32) < 0 ∨ cl_o122.slots.size ≤ ((0 : Int32)).toNatClampNeg) := inb_of S_o122 ⟨by decide, by decide⟩
  obtain ⟨T123, h123, X123, e123, W123, st123⟩ := stB X121 hx hZ e121 Ar_o122 (j := (0 : Int32)) hin_o122 (g := (mkF m 43 #[vR u, vI (1 : Int32), vI ch] [(.int ((ch >>> ((0 : Int32) &&& 31)).toInt8.toInt32)), (.int (0 : Int32)), (.ref u)])) rfl rfl (hb hby d20_43)
  have S_124 := SA.wr W123
  have S_125 := SH.wr W123
  have S_126 := SL.wr W123
  have N123 := Fr.snoc X123 N0 gu
  have Z123 : n0 ≤ h123.size := Nat.le_trans Z0 (Nat.le_of_eq W123.size.symm)
  have K123 : Keep h0 h123 [u] := (Keep.refl h0 [u]).wr W123 (Or.inl (List.mem_of_getElem? (i := 0) rfl))
  have V_u_123 : Arv Z h123 u ku .byte (2 : Int32) [(.int (nar .byte ((ch >>> ((0 : Int32) &&& 31)).toInt8.toInt32))), w1] (.int (0 : Int32)) := Arv.set Ar_o122 q_o122 S_o122 M_o122 H_o122 G_o122 (fits_nar_byte _) W123 0 rfl (Nat.le_of_ble_eq_true rfl)
  refine Gl.st (g' := (mkF m 44 #[vR u, vI (1 : Int32), vI ch] [])) (fun τ κ => st123 _ κ) ?_
  refine Gl.st (g' := (mkF m 46 #[vR u, vI (1 : Int32), vI ch] [(.int (1 : Int32)), (.ref u)])) (fun τ κ => XS.aloadN X123.here hx rfl (hb hby d20_44) rfl rfl (XS.iloadN X123.here hx rfl (hb hby d20_45) rfl κ)) ?_
  refine Gl.st (g' := (mkF m 47 #[vR u, vI (1 : Int32), vI ch] [(.int ch), (.int (1 : Int32)), (.ref u)])) (fun τ κ => XS.iloadN X123.here hx rfl (hb hby d20_46) rfl κ) ?_
  obtain ⟨T128, X128, e128, st128⟩ := getS2 X123 hx hZ hown (host := "") (Or.inl (w93_ hw)) Via.refl e123 S_126 (g := (mkF m 47 #[vR u, vI (1 : Int32), vI ch] [(.int ch), (.int (1 : Int32)), (.ref u)])) rfl (hb hby d20_47)
  refine Gl.st (g' := (mkF m 50 #[vR u, vI (1 : Int32), vI ch] [(.int (8 : Int32)), (.int ch), (.int (1 : Int32)), (.ref u)])) (fun τ κ => st128 _ κ) ?_
  refine Gl.st (g' := (mkF m 52 #[vR u, vI (1 : Int32), vI ch] [(.int ((ch >>> ((8 : Int32) &&& 31)).toInt8.toInt32)), (.int (1 : Int32)), (.ref u)])) (fun τ κ => XS.ishr X128.here hx rfl (hb hby d20_50) rfl (XS.i2b X128.here hx rfl (hb hby d20_51) rfl κ)) ?_
  obtain ⟨cl_o129, Ar_o129, q_o129, S_o129, M_o129, H_o129, G_o129⟩ := id V_u_123
  have hin_o129 : ¬ ((1 : Int32) < 0 ∨ cl_o129.slots.size ≤ ((1 : Int32)).toNatClampNeg) := inb_of S_o129 ⟨by decide, by decide⟩
  obtain ⟨T130, h130, X130, e130, W130, st130⟩ := stB X128 hx hZ e128 Ar_o129 (j := (1 : Int32)) hin_o129 (g := (mkF m 52 #[vR u, vI (1 : Int32), vI ch] [(.int ((ch >>> ((8 : Int32) &&& 31)).toInt8.toInt32)), (.int (1 : Int32)), (.ref u)])) rfl rfl (hb hby d20_52)
  have S_131 := S_124.wr W130
  have S_132 := S_125.wr W130
  have S_133 := S_126.wr W130
  have N130 := Fr.snoc X130 N123 gu
  have Z130 : n0 ≤ h130.size := Nat.le_trans Z123 (Nat.le_of_eq W130.size.symm)
  have K130 : Keep h0 h130 [u] := K123.wr W130 (Or.inl (List.mem_of_getElem? (i := 0) rfl))
  have V_u_130 : Arv Z h130 u ku .byte (2 : Int32) [(.int (nar .byte ((ch >>> ((0 : Int32) &&& 31)).toInt8.toInt32))), (.int (nar .byte ((ch >>> ((8 : Int32) &&& 31)).toInt8.toInt32)))] (.int (0 : Int32)) := Arv.set Ar_o129 q_o129 S_o129 M_o129 H_o129 G_o129 (fits_nar_byte _) W130 1 rfl (Nat.le_of_ble_eq_true rfl)
  refine Gl.st (g' := (mkF m 53 #[vR u, vI (1 : Int32), vI ch] [])) (fun τ κ => st130 _ κ) ?_
  exact Gl.ret (v := none) X130 Bd.notSynchronized (fun _ => rfl) e130 (fun fs hr => X130.returnOut hx Bd.returns (hb hby d20_53) hr) (by decide) (by decide) ⟨rfl, N130, K130, V_u_130⟩
theorem d19_0 : decode jdk_52_method_3_code 0 = .ok (.iload_n 0, 1) := by decide +kernel
theorem d19_1 : decode jdk_52_method_3_code 1 = .ok (.ifCond .ge 11, 3) := by decide +kernel
theorem d19_12 : decode jdk_52_method_3_code 12 = .ok (.iload_n 0, 1) := by decide +kernel
theorem d19_13 : decode jdk_52_method_3_code 13 = .ok (.ldc 20, 2) := by decide +kernel
theorem d19_15 : decode jdk_52_method_3_code 15 = .ok (.if_icmp .lt 40, 3) := by decide +kernel
theorem d19_55 : decode jdk_52_method_3_code 55 = .ok (.iload_n 0, 1) := by decide +kernel
theorem d19_56 : decode jdk_52_method_3_code 56 = .ok (.iconst 1, 1) := by decide +kernel
theorem d19_57 : decode jdk_52_method_3_code 57 = .ok (.ishl, 1) := by decide +kernel
theorem d19_58 : decode jdk_52_method_3_code 58 = .ok (.ireturn, 1) := by decide +kernel
theorem ef_rm19_1 (m : MethodId)  : entryFrame m #[(.int (1 : Int32))] 1 = mkF m 0 #[vI (1 : Int32)] [] := by first | (simp [entryFrame, mkF, argsToLocals, Value.category]; done) | rfl
def Q_rm19_1 (Z : State)   (h0 : Heap) (n0 : Nat) (v : Option Value) (h : Heap) (L : List Loc) : Prop := v = some (.int (2 : Int32)) ∧ Fr n0 L ∧ h = h0
set_option maxRecDepth 65536 in
set_option maxHeartbeats 40000000 in
theorem rm19_1 (l : Launch) (Z : State) (a0 : Array Value) (hw : ∀ d ∈ tables_1, d.before a0 Z = true) (ws : List Jvm.Cond)   (h0 : Heap) (n0 : Nat) (Z0 : n0 ≤ h0.size)  :
    MetFree l (⟨"java/lang/StringUTF16", "newBytesLength", "(I)I"⟩ : MethodName) (head1 (Jvm.Cond.code (⟨"java/lang/StringUTF16", "newBytesLength", "(I)I"⟩ : MethodName) jdk_52_method_3_code 1 (some .int) :: ws) ({ frames := 0, cells := 0, slots := 0, locals := 0 } : Room)) (fun aα Uα => aα = #[(.int (1 : Int32))] ∧ Z.Warmed39 Uα.vm ∧ Uα.heap = h0) (fun _ _ _ _ _ => True) (fun _ Uα oα Uβ => ∃ vα Lα, oα = .returned vα ∧ Q_rm19_1 Z   h0 n0 vα Uβ.heap Lα ∧ FrameEnd Uα oα Uβ Lα ({ frames := 0, cells := 0, slots := 0, locals := 0 } : Room).cells ({ frames := 0, cells := 0, slots := 0, locals := 0 } : Room).slots) := by
  refine MetFree.of_bodySF (plainFor_of_name pn_java_lang_StringUTF16) hisR ?_
  intro p e s m args below meth c s₁ Bd hml0 hP hKα
  obtain ⟨rfl, hZ, hh⟩ := hP
  have hx := Bd.exec
  have hby := Bd.bytes
  have hml : c.maxLocals = 1 := hml0
  have hown : s.vm.findClass "java/lang/StringUTF16" = some m.cls := findClass_of_methodNamed Bd.named
  have hnm := (name_of_methodNamed Bd.named Bd.method).1
  have X0 : Stand p l e ({ frames := 0, cells := 0, slots := 0, locals := 0 } : Room) s m #[(.int (1 : Int32))] below meth c s₁ [] 0 0 := Stand.of_body Bd
  have e0 : s₁.heap = h0 := by rw [← hh, Bd.state]; rfl
  have N0 := Fr.nil n0
  suffices k0 : Gl p e below s (Q_rm19_1 Z   h0 n0) ({ frames := 0, cells := 0, slots := 0, locals := 0 } : Room).cells ({ frames := 0, cells := 0, slots := 0, locals := 0 } : Room).slots s₁ (mkF m 0 #[vI (1 : Int32)] []) from Gl.st (fun τ κ => castTop (ef_rm19_1 m ) κ) k0
  refine Gl.st (g' := (mkF m 1 #[vI (1 : Int32)] [(.int (1 : Int32))])) (fun τ κ => XS.iloadN X0.here hx rfl (hb hby d19_0) rfl κ) ?_
  have hc135 : ¬ ((1 : Int32) < (0 : Int32)) := by decide
  refine Gl.st (g' := (mkF m 13 #[vI (1 : Int32)] [(.int (1 : Int32))])) (fun τ κ => XS.ifYes X0.here hx rfl (pc0 := 1) (pc' := 12) rfl (hb hby d19_1) rfl ((if0 _ _).trans (flt hc135).2.1) (by decide) (by decide) (XS.iloadN X0.here hx rfl (hb hby d19_12) rfl κ)) ?_
  refine Gl.st (g' := (mkF m 15 #[vI (1 : Int32)] [(.int (1073741823 : Int32)), (.int (1 : Int32))])) (fun τ κ => X0.ldcInt hx hown (mvT hZ (w87_ hw)) (g := (mkF m 13 #[vI (1 : Int32)] [(.int (1 : Int32))])) rfl (hb hby d19_13) _ κ) ?_
  have hc136 : (1 : Int32) < (1073741823 : Int32) := by decide
  refine Gl.st (g' := (mkF m 56 #[vI (1 : Int32)] [(.int (1 : Int32))])) (fun τ κ => XS.icmpYes X0.here hx rfl (pc0 := 15) (pc' := 55) rfl (hb hby d19_15) rfl (tlt hc136).1 (by decide) (by decide) (XS.iloadN X0.here hx rfl (hb hby d19_55) rfl κ)) ?_
  refine Gl.st (g' := (mkF m 58 #[vI (1 : Int32)] [(.int ((1 : Int32) <<< ((1 : Int32) &&& 31)))])) (fun τ κ => XS.iconst X0.here hx rfl (hb hby d19_56) (XS.ishl X0.here hx rfl (hb hby d19_57) rfl κ)) ?_
  rw [show ((1 : Int32) <<< ((1 : Int32) &&& 31)) = (2 : Int32) from by decide]
  exact Gl.ret (v := some (.int (2 : Int32))) X0 Bd.notSynchronized (fun h => by rw [Bd.returns] at h; cases h) e0 (fun fs hr => retI X0 hx Bd.returns (hb hby d19_58) hr) (by decide) (by decide) ⟨rfl, N0, rfl⟩
theorem d18_0 : decode jdk_52_method_2_code 0 = .ok (.iload_n 0, 1) := by decide +kernel
theorem d18_1 : decode jdk_52_method_2_code 1 = .ok (.invokestatic 11, 3) := by decide +kernel
theorem pd_9 : parseMethodDescriptor "(I)I" = some ⟨[.int], some .int⟩ := by decide +kernel
theorem d18_4 : decode jdk_52_method_2_code 4 = .ok (.newarray .byte, 2) := by decide +kernel
theorem d18_6 : decode jdk_52_method_2_code 6 = .ok (.areturn, 1) := by decide +kernel
theorem ef_rm18_1 (m : MethodId)  : entryFrame m #[(.int (1 : Int32))] 1 = mkF m 0 #[vI (1 : Int32)] [] := by first | (simp [entryFrame, mkF, argsToLocals, Value.category]; done) | rfl
def Q_rm18_1 (Z : State)   (h0 : Heap) (n0 : Nat) (v : Option Value) (h : Heap) (L : List Loc) : Prop := ∃ b kk, v = some (.ref b) ∧ Fr n0 L ∧ Keep h0 h [] ∧ h0.size ≤ b ∧ Arv Z h b kk .byte (2 : Int32) [(.int (0 : Int32)), (.int (0 : Int32))] (.int (0 : Int32))
set_option maxRecDepth 65536 in
set_option maxHeartbeats 40000000 in
theorem rm18_1 (l : Launch) (Z : State) (a0 : Array Value) (hw : ∀ d ∈ tables_1, d.before a0 Z = true) (ws : List Jvm.Cond)   (h0 : Heap) (n0 : Nat) (Z0 : n0 ≤ h0.size)  :
    MetFree l (⟨"java/lang/StringUTF16", "newBytesFor", "(I)[B"⟩ : MethodName) (head1 (Jvm.Cond.code (⟨"java/lang/StringUTF16", "newBytesFor", "(I)[B"⟩ : MethodName) jdk_52_method_2_code 1 (some (.array .byte)) :: ws) ({ frames := 1, cells := 1, slots := 2, locals := 12 } : Room)) (fun aα Uα => aα = #[(.int (1 : Int32))] ∧ Z.Warmed39 Uα.vm ∧ Uα.heap = h0) (fun _ _ _ _ _ => True) (fun _ Uα oα Uβ => ∃ vα Lα, oα = .returned vα ∧ Q_rm18_1 Z   h0 n0 vα Uβ.heap Lα ∧ FrameEnd Uα oα Uβ Lα ({ frames := 1, cells := 1, slots := 2, locals := 12 } : Room).cells ({ frames := 1, cells := 1, slots := 2, locals := 12 } : Room).slots) := by
  refine MetFree.of_bodySF (plainFor_of_name pn_java_lang_StringUTF16) hisR ?_
  intro p e s m args below meth c s₁ Bd hml0 hP hKα
  obtain ⟨rfl, hZ, hh⟩ := hP
  have hx := Bd.exec
  have hby := Bd.bytes
  have hml : c.maxLocals = 1 := hml0
  have hown : s.vm.findClass "java/lang/StringUTF16" = some m.cls := findClass_of_methodNamed Bd.named
  have hnm := (name_of_methodNamed Bd.named Bd.method).1
  have X0 : Stand p l e ({ frames := 1, cells := 1, slots := 2, locals := 12 } : Room) s m #[(.int (1 : Int32))] below meth c s₁ [] 0 0 := Stand.of_body Bd
  have e0 : s₁.heap = h0 := by rw [← hh, Bd.state]; rfl
  have N0 := Fr.nil n0
  suffices k0 : Gl p e below s (Q_rm18_1 Z   h0 n0) ({ frames := 1, cells := 1, slots := 2, locals := 12 } : Room).cells ({ frames := 1, cells := 1, slots := 2, locals := 12 } : Room).slots s₁ (mkF m 0 #[vI (1 : Int32)] []) from Gl.st (fun τ κ => castTop (ef_rm18_1 m ) κ) k0
  refine Gl.st (g' := (mkF m 1 #[vI (1 : Int32)] [(.int (1 : Int32))])) (fun τ κ => XS.iloadN X0.here hx rfl (hb hby d18_0) rfl κ) ?_
  obtain ⟨rv137, _, ⟨T137, L137, k137, n137⟩, -, X137, ⟨Lc137, hQ137, l137, y137, z137⟩, st137⟩ := Jvm.LawKit.callS X0 hx (y := (⟨"java/lang/StringUTF16", "newBytesLength", "(I)I"⟩ : MethodName)) hown (mvT hZ (w84_ hw)) (mvT hZ (w85_ hw)) (mvT hZ (w45_ hw)) (mvT hZ (w86_ hw)) (by decide) (backOf (W := 0) (rm19_1 l Z a0 hw []  h0 n0 Z0 ) hZ (w86_ hw) (w45_ hw) (by decide) (by decide)) (g := (mkF m 1 #[vI (1 : Int32)] [(.int (1 : Int32))])) rfl (by rw [hml]; rfl) (argsL := [(.int (1 : Int32))]) (rest := []) (lenOf pd_9 rfl) rfl (by show 2 * 0 + _ ≤ _; exact Nat.le_of_eq rfl) (hb hby d18_1) (fun _ _ => ⟨rfl, e0, (by decide : 0 + 0 ≤ _), (by decide : 0 + 0 ≤ _)⟩)
  dsimp only [Pt.U, Pt.locs, Pt.cells, Pt.slots] at X137 l137 y137 z137 st137 hQ137
  subst l137 y137 z137
  obtain ⟨hq137, N137q, e137⟩ := hQ137
  have hq137 : rv137 = some (.int (2 : Int32)) := hq137
  subst hq137
  have N137 := Fr.app N0 N137q
  refine Gl.st (g' := (mkF m 4 #[vI (1 : Int32)] [(.int (2 : Int32))])) (fun τ κ => st137 _ κ) ?_
  obtain ⟨T138, h138, k138, X138, e138, E138, A138, st138⟩ := newP X137 hx hZ (hw _ (List.mem_of_getElem? (i := 21) rfl)) e137 (g := (mkF m 4 #[vI (1 : Int32)] [(.int (2 : Int32))])) rfl (hb hby d18_4) rfl (by decide) (cap := 2) (by decide) (by decide) (by decide) (by decide)
  obtain ⟨b138, g138⟩ : ∃ z, z = h0.size := ⟨_, rfl⟩
  rw [← g138] at A138 st138
  have g_b138 : n0 ≤ b138 := Nat.le_trans Z0 (Nat.le_of_eq g138.symm)
  have sz_b138 : h0.size ≤ b138 := Nat.le_trans (Keep.refl h0 []).1 (Nat.le_of_eq g138.symm)
  have Z138 : n0 ≤ h138.size := Nat.le_trans Z0 E138.1
  have K138 : Keep h0 h138 [] := (Keep.refl h0 []).ext E138
  have V_b138 : Arv Z h138 b138 k138 .byte (2 : Int32) [(.int (0 : Int32)), (.int (0 : Int32))] (.int (0 : Int32)) := (Arv.new A138 (by decide)).pad (pad_rep [] (.int (0 : Int32)) 2)
  refine Gl.st (g' := (mkF m 6 #[vI (1 : Int32)] [(.ref b138)])) (fun τ κ => st138 _ κ) ?_
  exact Gl.ret (v := some (.ref b138)) X138 Bd.notSynchronized (fun h => by rw [Bd.returns] at h; cases h) e138 (fun fs hr => retAA X138 hx Bd.returns (hb hby d18_6) hr) (by decide) (by decide) ⟨b138, k138, rfl, N137, K138, sz_b138, V_b138⟩
theorem d17_0 : decode jdk_52_method_14_code 0 = .ok (.iload_n 2, 1) := by decide +kernel
theorem d17_1 : decode jdk_52_method_14_code 1 = .ok (.invokestatic 107, 3) := by decide +kernel
theorem pd_10 : parseMethodDescriptor "(I)[B" = some ⟨[.int], some (.array .byte)⟩ := by decide +kernel
theorem d17_4 : decode jdk_52_method_14_code 4 = .ok (.astore_n 3, 1) := by decide +kernel
theorem d17_5 : decode jdk_52_method_14_code 5 = .ok (.iconst 0, 1) := by decide +kernel
theorem d17_6 : decode jdk_52_method_14_code 6 = .ok (.istore 4, 2) := by decide +kernel
theorem d17_8 : decode jdk_52_method_14_code 8 = .ok (.iload 4, 2) := by decide +kernel
theorem d17_10 : decode jdk_52_method_14_code 10 = .ok (.iload_n 2, 1) := by decide +kernel
theorem d17_11 : decode jdk_52_method_14_code 11 = .ok (.if_icmp .ge 21, 3) := by decide +kernel
theorem d17_14 : decode jdk_52_method_14_code 14 = .ok (.aload_n 3, 1) := by decide +kernel
theorem d17_15 : decode jdk_52_method_14_code 15 = .ok (.iload 4, 2) := by decide +kernel
theorem d17_17 : decode jdk_52_method_14_code 17 = .ok (.aload_n 0, 1) := by decide +kernel
theorem d17_18 : decode jdk_52_method_14_code 18 = .ok (.iload_n 1, 1) := by decide +kernel
theorem d17_19 : decode jdk_52_method_14_code 19 = .ok (.caload, 1) := by decide +kernel
theorem d17_20 : decode jdk_52_method_14_code 20 = .ok (.invokestatic 111, 3) := by decide +kernel
theorem pd_11 : parseMethodDescriptor "([BII)V" = some ⟨[(.array .byte), .int, .int], none⟩ := by decide +kernel
theorem d17_23 : decode jdk_52_method_14_code 23 = .ok (.iinc 1 1, 3) := by decide +kernel
theorem d17_26 : decode jdk_52_method_14_code 26 = .ok (.iinc 4 1, 3) := by decide +kernel
theorem d17_29 : decode jdk_52_method_14_code 29 = .ok (.goto (-21), 3) := by decide +kernel
theorem d17_32 : decode jdk_52_method_14_code 32 = .ok (.aload_n 3, 1) := by decide +kernel
theorem d17_33 : decode jdk_52_method_14_code 33 = .ok (.areturn, 1) := by decide +kernel
theorem ef_rm17_1 (m : MethodId) (ca : Addr) : entryFrame m #[(.ref ca), (.int (0 : Int32)), (.int (1 : Int32))] 5 = mkF m 0 #[vR ca, vI (0 : Int32), vI (1 : Int32), .unset, .unset] [] := by first | (simp [entryFrame, mkF, argsToLocals, Value.category]; done) | rfl
def Q_rm17_1 (Z : State) (ca : Addr) (kc : ClassId) (c0 : Int32) (h0 : Heap) (n0 : Nat) (v : Option Value) (h : Heap) (L : List Loc) : Prop := ∃ b kk, v = some (.ref b) ∧ Fr n0 L ∧ Keep h0 h [] ∧ h0.size ≤ b ∧ Arv Z h b kk .byte (2 : Int32) [(.int (own_hi c0)), (.int (own_lo c0))] (.int (0 : Int32))
set_option maxRecDepth 65536 in
set_option maxHeartbeats 40000000 in
theorem rm17_1 (l : Launch) (Z : State) (a0 : Array Value) (hw : ∀ d ∈ tables_1, d.before a0 Z = true) (ws : List Jvm.Cond) (ca : Addr) (kc : ClassId) (c0 : Int32) (h0 : Heap) (n0 : Nat) (Z0 : n0 ≤ h0.size) (SA : Sta Z h0 "java/lang/StringUTF16" "$assertionsDisabled" "Z" (.int (1 : Int32))) (SH : Sta Z h0 "java/lang/StringUTF16" "HI_BYTE_SHIFT" "I" (.int (0 : Int32))) (SL : Sta Z h0 "java/lang/StringUTF16" "LO_BYTE_SHIFT" "I" (.int (8 : Int32))) (V0 : Arv Z h0 ca kc .char (1 : Int32) [(.int c0)] (.int (0 : Int32))) :
    MetFree l (⟨"java/lang/StringUTF16", "toBytes", "([CII)[B"⟩ : MethodName) (head1 (Jvm.Cond.code (⟨"java/lang/StringUTF16", "toBytes", "([CII)[B"⟩ : MethodName) jdk_52_method_14_code 5 (some (.array .byte)) :: ws) ({ frames := 2, cells := 1, slots := 2, locals := 24 } : Room)) (fun aα Uα => aα = #[(.ref ca), (.int (0 : Int32)), (.int (1 : Int32))] ∧ Z.Warmed39 Uα.vm ∧ Uα.heap = h0) (fun _ _ _ _ _ => True) (fun _ Uα oα Uβ => ∃ vα Lα, oα = .returned vα ∧ Q_rm17_1 Z ca kc c0 h0 n0 vα Uβ.heap Lα ∧ FrameEnd Uα oα Uβ Lα ({ frames := 2, cells := 1, slots := 2, locals := 24 } : Room).cells ({ frames := 2, cells := 1, slots := 2, locals := 24 } : Room).slots) := by
  refine MetFree.of_bodySF (plainFor_of_name pn_java_lang_StringUTF16) hisR ?_
  intro p e s m args below meth c s₁ Bd hml0 hP hKα
  obtain ⟨rfl, hZ, hh⟩ := hP
  have hx := Bd.exec
  have hby := Bd.bytes
  have hml : c.maxLocals = 5 := hml0
  have hown : s.vm.findClass "java/lang/StringUTF16" = some m.cls := findClass_of_methodNamed Bd.named
  have hnm := (name_of_methodNamed Bd.named Bd.method).1
  have X0 : Stand p l e ({ frames := 2, cells := 1, slots := 2, locals := 24 } : Room) s m #[(.ref ca), (.int (0 : Int32)), (.int (1 : Int32))] below meth c s₁ [] 0 0 := Stand.of_body Bd
  have e0 : s₁.heap = h0 := by rw [← hh, Bd.state]; rfl
  have N0 := Fr.nil n0
  suffices k0 : Gl p e below s (Q_rm17_1 Z ca kc c0 h0 n0) ({ frames := 2, cells := 1, slots := 2, locals := 24 } : Room).cells ({ frames := 2, cells := 1, slots := 2, locals := 24 } : Room).slots s₁ (mkF m 0 #[vR ca, vI (0 : Int32), vI (1 : Int32), .unset, .unset] []) from Gl.st (fun τ κ => castTop (ef_rm17_1 m ca) κ) k0
  refine Gl.st (g' := (mkF m 1 #[vR ca, vI (0 : Int32), vI (1 : Int32), .unset, .unset] [(.int (1 : Int32))])) (fun τ κ => XS.iloadN X0.here hx rfl (hb hby d17_0) rfl κ) ?_
  obtain ⟨rv139, _, ⟨T139, L139, k139, n139⟩, -, X139, ⟨Lc139, hQ139, l139, y139, z139⟩, st139⟩ := Jvm.LawKit.callS X0 hx (y := (⟨"java/lang/StringUTF16", "newBytesFor", "(I)[B"⟩ : MethodName)) hown (mvT hZ (w81_ hw)) (mvT hZ (w82_ hw)) (mvT hZ (w45_ hw)) (mvT hZ (w83_ hw)) (by decide) (backOf (W := 0) (rm18_1 l Z a0 hw []  h0 n0 Z0 ) hZ (w83_ hw) (w45_ hw) (by decide) (by decide)) (g := (mkF m 1 #[vR ca, vI (0 : Int32), vI (1 : Int32), .unset, .unset] [(.int (1 : Int32))])) rfl (by rw [hml]; rfl) (argsL := [(.int (1 : Int32))]) (rest := []) (lenOf pd_10 rfl) rfl (by show 2 * 0 + _ ≤ _; exact Nat.le_of_eq rfl) (hb hby d17_1) (fun _ _ => ⟨rfl, e0, (by decide : 0 + 1 ≤ _), (by decide : 0 + 2 ≤ _)⟩)
  dsimp only [Pt.U, Pt.locs, Pt.cells, Pt.slots] at X139 l139 y139 z139 st139 hQ139
  subst l139 y139 z139
  obtain ⟨b139, kk139, rfl, N139q, Kc139, s139, V139⟩ := hQ139
  have ne_ca_b139 : ca ≠ b139 := Nat.ne_of_lt (Nat.lt_of_lt_of_le V0.lt s139)
  have g_b139 : n0 ≤ b139 := Nat.le_trans Z0 s139
  have sz_b139 : h0.size ≤ b139 := Nat.le_trans (Keep.refl h0 []).1 s139
  have S_140 := Sta.keepX SA Kc139 all0
  have S_141 := Sta.keepX SH Kc139 all0
  have S_142 := Sta.keepX SL Kc139 all0
  have V_143 := V0.keep Kc139 nin0
  have N139 := Fr.app N0 N139q
  have Z139 : n0 ≤ T139.heap.size := Nat.le_trans Z0 Kc139.1
  have K139 : Keep h0 T139.heap [] := (Keep.refl h0 []).trans Kc139 all0
  refine Gl.st (g' := (mkF m 4 #[vR ca, vI (0 : Int32), vI (1 : Int32), .unset, .unset] [(.ref b139)])) (fun τ κ => st139 _ κ) ?_
  refine Gl.st (g' := (mkF m 6 #[vR ca, vI (0 : Int32), vI (1 : Int32), vR b139, .unset] [(.int (0 : Int32))])) (fun τ κ => XS.astoreN X139.here hx rfl (hb hby d17_4) rfl rfl (l' := #[vR ca, vI (0 : Int32), vI (1 : Int32), vR b139, .unset]) rfl (XS.iconst X139.here hx rfl (hb hby d17_5) κ)) ?_
  refine Gl.st (g' := (mkF m 10 #[vR ca, vI (0 : Int32), vI (1 : Int32), vR b139, vI (0 : Int32)] [(.int (0 : Int32))])) (fun τ κ => XS.istore X139.here hx rfl (hb hby d17_6) rfl (l' := #[vR ca, vI (0 : Int32), vI (1 : Int32), vR b139, vI (0 : Int32)]) rfl (XS.iload X139.here hx rfl (hb hby d17_8) rfl κ)) ?_
  refine Gl.st (g' := (mkF m 11 #[vR ca, vI (0 : Int32), vI (1 : Int32), vR b139, vI (0 : Int32)] [(.int (1 : Int32)), (.int (0 : Int32))])) (fun τ κ => XS.iloadN X139.here hx rfl (hb hby d17_10) rfl κ) ?_
  have hc144 : (0 : Int32) < (1 : Int32) := by decide
  refine Gl.st (g' := (mkF m 15 #[vR ca, vI (0 : Int32), vI (1 : Int32), vR b139, vI (0 : Int32)] [(.ref b139)])) (fun τ κ => XS.icmpNo X139.here hx rfl (hb hby d17_11) rfl (tlt hc144).2.1 (XS.aloadN X139.here hx rfl (hb hby d17_14) rfl rfl κ)) ?_
  refine Gl.st (g' := (mkF m 18 #[vR ca, vI (0 : Int32), vI (1 : Int32), vR b139, vI (0 : Int32)] [(.ref ca), (.int (0 : Int32)), (.ref b139)])) (fun τ κ => XS.iload X139.here hx rfl (hb hby d17_15) rfl (XS.aloadN X139.here hx rfl (hb hby d17_17) rfl rfl κ)) ?_
  refine Gl.st (g' := (mkF m 19 #[vR ca, vI (0 : Int32), vI (1 : Int32), vR b139, vI (0 : Int32)] [(.int (0 : Int32)), (.ref ca), (.int (0 : Int32)), (.ref b139)])) (fun τ κ => XS.iloadN X139.here hx rfl (hb hby d17_18) rfl κ) ?_
  obtain ⟨cl_o145, Ar_o145, q_o145, S_o145, M_o145, H_o145, G_o145⟩ := id V_143
  have hin_o145 : ¬ ((0 : Int32) < 0 ∨ cl_o145.slots.size ≤ ((0 : Int32)).toNatClampNeg) := inb_of S_o145 ⟨by decide, by decide⟩
  refine Gl.st (g' := (mkF m 20 #[vR ca, vI (0 : Int32), vI (1 : Int32), vR b139, vI (0 : Int32)] [(.int c0), (.int (0 : Int32)), (.ref b139)])) (fun τ κ => X139.caload hx (j := (0 : Int32)) (v := (.int c0)) Ar_o145.1 (State.isArrayOf_alike hZ.alike Ar_o145.2.1) Ar_o145.2.2 hin_o145 (H_o145 0 (by rw [S_o145]; decide)) (g := (mkF m 19 #[vR ca, vI (0 : Int32), vI (1 : Int32), vR b139, vI (0 : Int32)] [(.int (0 : Int32)), (.ref ca), (.int (0 : Int32)), (.ref b139)])) rfl rfl (hb hby d17_19) _ κ) ?_
  obtain ⟨rv146, _, ⟨T146, L146, k146, n146⟩, -, X146, ⟨Lc146, hQ146, l146, y146, z146⟩, st146⟩ := Jvm.LawKit.callS X139 hx (y := (⟨"java/lang/StringUTF16", "putChar", "([BII)V"⟩ : MethodName)) hown (mvT hZ (w88_ hw)) (mvT hZ (w89_ hw)) (mvT hZ (w45_ hw)) (mvT hZ (w90_ hw)) (by decide) (backOf (W := 0) (rm20_1_0 l Z a0 hw [] b139 c0 kk139 (.int (0 : Int32)) (.int (0 : Int32)) T139.heap n0 Z139 S_140 S_141 S_142 V139 g_b139) hZ (w90_ hw) (w45_ hw) (by decide) (by decide)) (g := (mkF m 20 #[vR ca, vI (0 : Int32), vI (1 : Int32), vR b139, vI (0 : Int32)] [(.int c0), (.int (0 : Int32)), (.ref b139)])) rfl (by rw [hml]; rfl) (argsL := [(.ref b139), (.int (0 : Int32)), (.int c0)]) (rest := []) (lenOf pd_11 rfl) rfl (by show 2 * 0 + _ ≤ _; exact Nat.le_of_eq rfl) (hb hby d17_20) (fun _ _ => ⟨rfl, rfl, (by decide : 1 + 0 ≤ _), (by decide : 2 + 0 ≤ _)⟩)
  dsimp only [Pt.U, Pt.locs, Pt.cells, Pt.slots] at X146 l146 y146 z146 st146 hQ146
  subst l146 y146 z146
  obtain ⟨rfl, N146q, Kc146, V146⟩ := hQ146
  have S_147 := Sta.keepX S_140 Kc146 (allS (P := fun x => ∃ c : Cell, T139.heap[x]? = some c ∧ ∀ q, c.vm ≠ .statics q) (Arv.cellX V139) all0)
  have S_148 := Sta.keepX S_141 Kc146 (allS (P := fun x => ∃ c : Cell, T139.heap[x]? = some c ∧ ∀ q, c.vm ≠ .statics q) (Arv.cellX V139) all0)
  have S_149 := Sta.keepX S_142 Kc146 (allS (P := fun x => ∃ c : Cell, T139.heap[x]? = some c ∧ ∀ q, c.vm ≠ .statics q) (Arv.cellX V139) all0)
  have V_150 := V_143.keep Kc146 (ninS ne_ca_b139 nin0)
  have N146 := Fr.app N139 N146q
  have Z146 : n0 ≤ T146.heap.size := Nat.le_trans Z139 Kc146.1
  have K146 : Keep h0 T146.heap [] := K139.trans Kc146 (allS (Or.inr sz_b139) all0)
  refine Gl.st (g' := (mkF m 23 #[vR ca, vI (0 : Int32), vI (1 : Int32), vR b139, vI (0 : Int32)] [])) (fun τ κ => st146 _ κ) ?_
  refine Gl.st (g' := (mkF m 29 #[vR ca, vI (1 : Int32), vI (1 : Int32), vR b139, vI (1 : Int32)] [])) (fun τ κ => XS.iinc X146.here hx rfl (hb hby d17_23) rfl (l' := #[vR ca, vI (1 : Int32), vI (1 : Int32), vR b139, vI (0 : Int32)]) rfl (XS.iinc X146.here hx rfl (hb hby d17_26) rfl (l' := #[vR ca, vI (1 : Int32), vI (1 : Int32), vR b139, vI (1 : Int32)]) rfl κ)) ?_
  refine Gl.st (g' := (mkF m 10 #[vR ca, vI (1 : Int32), vI (1 : Int32), vR b139, vI (1 : Int32)] [(.int (1 : Int32))])) (fun τ κ => XS.goto X146.here hx rfl (pc0 := 29) (pc' := 8) rfl (hb hby d17_29) (by decide) (by decide) (XS.iload X146.here hx rfl (hb hby d17_8) rfl κ)) ?_
  refine Gl.st (g' := (mkF m 11 #[vR ca, vI (1 : Int32), vI (1 : Int32), vR b139, vI (1 : Int32)] [(.int (1 : Int32)), (.int (1 : Int32))])) (fun τ κ => XS.iloadN X146.here hx rfl (hb hby d17_10) rfl κ) ?_
  have hc152 : ¬ ((1 : Int32) < (1 : Int32)) := by decide
  refine Gl.st (g' := (mkF m 33 #[vR ca, vI (1 : Int32), vI (1 : Int32), vR b139, vI (1 : Int32)] [(.ref b139)])) (fun τ κ => XS.icmpYes X146.here hx rfl (pc0 := 11) (pc' := 32) rfl (hb hby d17_11) rfl (flt hc152).2.1 (by decide) (by decide) (XS.aloadN X146.here hx rfl (hb hby d17_32) rfl rfl κ)) ?_
  exact Gl.ret (v := some (.ref b139)) X146 Bd.notSynchronized (fun h => by rw [Bd.returns] at h; cases h) rfl (fun fs hr => retAA X146 hx Bd.returns (hb hby d17_33) hr) (by decide) (by decide) ⟨b139, kk139, rfl, N146, K146, sz_b139, V146⟩
theorem d9_0 : decode jdk_52_method_21_code 0 = .ok (.iconst 0, 1) := by decide +kernel
theorem d9_1 : decode jdk_52_method_21_code 1 = .ok (.istore 5, 2) := by decide +kernel
theorem d9_3 : decode jdk_52_method_21_code 3 = .ok (.iload 5, 2) := by decide +kernel
theorem d9_5 : decode jdk_52_method_21_code 5 = .ok (.iload 4, 2) := by decide +kernel
theorem d9_7 : decode jdk_52_method_21_code 7 = .ok (.if_icmp .ge 37, 3) := by decide +kernel
theorem d9_10 : decode jdk_52_method_21_code 10 = .ok (.aload_n 0, 1) := by decide +kernel
theorem d9_11 : decode jdk_52_method_21_code 11 = .ok (.iload_n 1, 1) := by decide +kernel
theorem d9_12 : decode jdk_52_method_21_code 12 = .ok (.caload, 1) := by decide +kernel
theorem d9_13 : decode jdk_52_method_21_code 13 = .ok (.istore 6, 2) := by decide +kernel
theorem d9_15 : decode jdk_52_method_21_code 15 = .ok (.iload 6, 2) := by decide +kernel
theorem d9_17 : decode jdk_52_method_21_code 17 = .ok (.sipush 255, 3) := by decide +kernel
theorem d9_20 : decode jdk_52_method_21_code 20 = .ok (.if_icmp .le 6, 3) := by decide +kernel
theorem d9_23 : decode jdk_52_method_21_code 23 = .ok (.iload 5, 2) := by decide +kernel
theorem d9_25 : decode jdk_52_method_21_code 25 = .ok (.ireturn, 1) := by decide +kernel
theorem d9_26 : decode jdk_52_method_21_code 26 = .ok (.aload_n 2, 1) := by decide +kernel
theorem d9_27 : decode jdk_52_method_21_code 27 = .ok (.iload_n 3, 1) := by decide +kernel
theorem d9_28 : decode jdk_52_method_21_code 28 = .ok (.iload 6, 2) := by decide +kernel
theorem d9_30 : decode jdk_52_method_21_code 30 = .ok (.i2b, 1) := by decide +kernel
theorem d9_31 : decode jdk_52_method_21_code 31 = .ok (.bastore, 1) := by decide +kernel
theorem d9_32 : decode jdk_52_method_21_code 32 = .ok (.iinc 1 1, 3) := by decide +kernel
theorem d9_35 : decode jdk_52_method_21_code 35 = .ok (.iinc 3 1, 3) := by decide +kernel
theorem d9_38 : decode jdk_52_method_21_code 38 = .ok (.iinc 5 1, 3) := by decide +kernel
theorem d9_41 : decode jdk_52_method_21_code 41 = .ok (.goto (-38), 3) := by decide +kernel
theorem d9_44 : decode jdk_52_method_21_code 44 = .ok (.iload 4, 2) := by decide +kernel
theorem d9_46 : decode jdk_52_method_21_code 46 = .ok (.ireturn, 1) := by decide +kernel
theorem ef_rm9_1 (m : MethodId) (ca : Addr) (u : Addr) : entryFrame m #[(.ref ca), (.int (0 : Int32)), (.ref u), (.int (0 : Int32)), (.int (1 : Int32))] 7 = mkF m 0 #[vR ca, vI (0 : Int32), vR u, vI (0 : Int32), vI (1 : Int32), .unset, .unset] [] := by first | (simp [entryFrame, mkF, argsToLocals, Value.category]; done) | rfl
def Q_rm9_1 (Z : State) (ca : Addr) (u : Addr) (kc ku : ClassId) (c0 : Int32) (h0 : Heap) (n0 : Nat) (v : Option Value) (h : Heap) (L : List Loc) : Prop := ∃ j, v = some (.int j) ∧ Fr n0 L ∧ Keep h0 h [u] ∧ ((j = (1 : Int32) ∧ ¬ (255 : Int32) < c0 ∧ Arv Z h u ku .byte (1 : Int32) [(.int (own_lb c0))] (.int (0 : Int32))) ∨ (j = (0 : Int32) ∧ (255 : Int32) < c0))
set_option maxRecDepth 65536 in
set_option maxHeartbeats 40000000 in
theorem rm9_1 (l : Launch) (Z : State) (a0 : Array Value) (hw : ∀ d ∈ tables_1, d.before a0 Z = true) (ws : List Jvm.Cond) (ca : Addr) (u : Addr) (kc ku : ClassId) (c0 : Int32) (h0 : Heap) (n0 : Nat) (Z0 : n0 ≤ h0.size) (V0 : Arv Z h0 ca kc .char (1 : Int32) [(.int c0)] (.int (0 : Int32))) (V1 : Arv Z h0 u ku .byte (1 : Int32) [(.int (0 : Int32))] (.int (0 : Int32))) (gu : n0 ≤ u) (hne : ca ≠ u) :
    MetFree l (⟨"java/lang/StringUTF16", "compress", "([CI[BII)I"⟩ : MethodName) (head1 (Jvm.Cond.code (⟨"java/lang/StringUTF16", "compress", "([CI[BII)I"⟩ : MethodName) jdk_52_method_21_code 7 (some .int) :: ws) ({ frames := 0, cells := 0, slots := 0, locals := 0 } : Room)) (fun aα Uα => aα = #[(.ref ca), (.int (0 : Int32)), (.ref u), (.int (0 : Int32)), (.int (1 : Int32))] ∧ Z.Warmed39 Uα.vm ∧ Uα.heap = h0) (fun _ _ _ _ _ => True) (fun _ Uα oα Uβ => ∃ vα Lα, oα = .returned vα ∧ Q_rm9_1 Z ca u kc ku c0 h0 n0 vα Uβ.heap Lα ∧ FrameEnd Uα oα Uβ Lα ({ frames := 0, cells := 0, slots := 0, locals := 0 } : Room).cells ({ frames := 0, cells := 0, slots := 0, locals := 0 } : Room).slots) := by
  refine MetFree.of_bodySF (plainFor_of_name pn_java_lang_StringUTF16) hisR ?_
  intro p e s m args below meth c s₁ Bd hml0 hP hKα
  obtain ⟨rfl, hZ, hh⟩ := hP
  have hx := Bd.exec
  have hby := Bd.bytes
  have hml : c.maxLocals = 7 := hml0
  have hown : s.vm.findClass "java/lang/StringUTF16" = some m.cls := findClass_of_methodNamed Bd.named
  have hnm := (name_of_methodNamed Bd.named Bd.method).1
  have X0 : Stand p l e ({ frames := 0, cells := 0, slots := 0, locals := 0 } : Room) s m #[(.ref ca), (.int (0 : Int32)), (.ref u), (.int (0 : Int32)), (.int (1 : Int32))] below meth c s₁ [] 0 0 := Stand.of_body Bd
  have e0 : s₁.heap = h0 := by rw [← hh, Bd.state]; rfl
  have N0 := Fr.nil n0
  suffices k0 : Gl p e below s (Q_rm9_1 Z ca u kc ku c0 h0 n0) ({ frames := 0, cells := 0, slots := 0, locals := 0 } : Room).cells ({ frames := 0, cells := 0, slots := 0, locals := 0 } : Room).slots s₁ (mkF m 0 #[vR ca, vI (0 : Int32), vR u, vI (0 : Int32), vI (1 : Int32), .unset, .unset] []) from Gl.st (fun τ κ => castTop (ef_rm9_1 m ca u) κ) k0
  refine Gl.st (g' := (mkF m 3 #[vR ca, vI (0 : Int32), vR u, vI (0 : Int32), vI (1 : Int32), vI (0 : Int32), .unset] [])) (fun τ κ => XS.iconst X0.here hx rfl (hb hby d9_0) (XS.istore X0.here hx rfl (hb hby d9_1) rfl (l' := #[vR ca, vI (0 : Int32), vR u, vI (0 : Int32), vI (1 : Int32), vI (0 : Int32), .unset]) rfl κ)) ?_
  refine Gl.st (g' := (mkF m 7 #[vR ca, vI (0 : Int32), vR u, vI (0 : Int32), vI (1 : Int32), vI (0 : Int32), .unset] [(.int (1 : Int32)), (.int (0 : Int32))])) (fun τ κ => XS.iload X0.here hx rfl (hb hby d9_3) rfl (XS.iload X0.here hx rfl (hb hby d9_5) rfl κ)) ?_
  have hc153 : (0 : Int32) < (1 : Int32) := by decide
  refine Gl.st (g' := (mkF m 11 #[vR ca, vI (0 : Int32), vR u, vI (0 : Int32), vI (1 : Int32), vI (0 : Int32), .unset] [(.ref ca)])) (fun τ κ => XS.icmpNo X0.here hx rfl (hb hby d9_7) rfl (tlt hc153).2.1 (XS.aloadN X0.here hx rfl (hb hby d9_10) rfl rfl κ)) ?_
  refine Gl.st (g' := (mkF m 12 #[vR ca, vI (0 : Int32), vR u, vI (0 : Int32), vI (1 : Int32), vI (0 : Int32), .unset] [(.int (0 : Int32)), (.ref ca)])) (fun τ κ => XS.iloadN X0.here hx rfl (hb hby d9_11) rfl κ) ?_
  obtain ⟨cl_o154, Ar_o154, q_o154, S_o154, M_o154, H_o154, G_o154⟩ := id V0
  have hin_o154 : ¬ ((0 : Int32) < 0 ∨ cl_o154.slots.size ≤ ((0 : Int32)).toNatClampNeg) := inb_of S_o154 ⟨by decide, by decide⟩
  refine Gl.st (g' := (mkF m 13 #[vR ca, vI (0 : Int32), vR u, vI (0 : Int32), vI (1 : Int32), vI (0 : Int32), .unset] [(.int c0)])) (fun τ κ => X0.caload hx (j := (0 : Int32)) (v := (.int c0)) (by rw [e0]; exact Ar_o154.1) (State.isArrayOf_alike hZ.alike Ar_o154.2.1) Ar_o154.2.2 hin_o154 (H_o154 0 (by rw [S_o154]; decide)) (g := (mkF m 12 #[vR ca, vI (0 : Int32), vR u, vI (0 : Int32), vI (1 : Int32), vI (0 : Int32), .unset] [(.int (0 : Int32)), (.ref ca)])) rfl rfl (hb hby d9_12) _ κ) ?_
  refine Gl.st (g' := (mkF m 17 #[vR ca, vI (0 : Int32), vR u, vI (0 : Int32), vI (1 : Int32), vI (0 : Int32), vI c0] [(.int c0)])) (fun τ κ => XS.istore X0.here hx rfl (hb hby d9_13) rfl (l' := #[vR ca, vI (0 : Int32), vR u, vI (0 : Int32), vI (1 : Int32), vI (0 : Int32), vI c0]) rfl (XS.iload X0.here hx rfl (hb hby d9_15) rfl κ)) ?_
  refine Gl.st (g' := (mkF m 20 #[vR ca, vI (0 : Int32), vR u, vI (0 : Int32), vI (1 : Int32), vI (0 : Int32), vI c0] [(.int (255 : Int32)), (.int c0)])) (fun τ κ => XS.sipush X0.here hx rfl (hb hby d9_17) κ) ?_
  by_cases hc155 : (255 : Int32) < c0
  · -- pc 20: (255 : Int32) < c0
    refine Gl.st (g' := (mkF m 25 #[vR ca, vI (0 : Int32), vR u, vI (0 : Int32), vI (1 : Int32), vI (0 : Int32), vI c0] [(.int (0 : Int32))])) (fun τ κ => XS.icmpNo X0.here hx rfl (hb hby d9_20) rfl (tlt hc155).2.2.2 (XS.iload X0.here hx rfl (hb hby d9_23) rfl κ)) ?_
    exact Gl.ret (v := some (.int (0 : Int32))) X0 Bd.notSynchronized (fun h => by rw [Bd.returns] at h; cases h) e0 (fun fs hr => retI X0 hx Bd.returns (hb hby d9_25) hr) (by decide) (by decide) ⟨_, rfl, N0, (Keep.refl h0 [u]), Or.inr (⟨rfl, hc155⟩)⟩
  · -- pc 20: not (255 : Int32) < c0
    refine Gl.st (g' := (mkF m 27 #[vR ca, vI (0 : Int32), vR u, vI (0 : Int32), vI (1 : Int32), vI (0 : Int32), vI c0] [(.ref u)])) (fun τ κ => XS.icmpYes X0.here hx rfl (pc0 := 20) (pc' := 26) rfl (hb hby d9_20) rfl (flt hc155).2.2.2 (by decide) (by decide) (XS.aloadN X0.here hx rfl (hb hby d9_26) rfl rfl κ)) ?_
    refine Gl.st (g' := (mkF m 30 #[vR ca, vI (0 : Int32), vR u, vI (0 : Int32), vI (1 : Int32), vI (0 : Int32), vI c0] [(.int c0), (.int (0 : Int32)), (.ref u)])) (fun τ κ => XS.iloadN X0.here hx rfl (hb hby d9_27) rfl (XS.iload X0.here hx rfl (hb hby d9_28) rfl κ)) ?_
    refine Gl.st (g' := (mkF m 31 #[vR ca, vI (0 : Int32), vR u, vI (0 : Int32), vI (1 : Int32), vI (0 : Int32), vI c0] [(.int (c0.toInt8.toInt32)), (.int (0 : Int32)), (.ref u)])) (fun τ κ => XS.i2b X0.here hx rfl (hb hby d9_30) rfl κ) ?_
    obtain ⟨cl_o156, Ar_o156, q_o156, S_o156, M_o156, H_o156, G_o156⟩ := id V1
    have hin_o156 : ¬ ((0 : Int32) < 0 ∨ cl_o156.slots.size ≤ ((0 : Int32)).toNatClampNeg) := inb_of S_o156 ⟨by decide, by decide⟩
    obtain ⟨T157, h157, X157, e157, W157, st157⟩ := stB X0 hx hZ e0 Ar_o156 (j := (0 : Int32)) hin_o156 (g := (mkF m 31 #[vR ca, vI (0 : Int32), vR u, vI (0 : Int32), vI (1 : Int32), vI (0 : Int32), vI c0] [(.int (c0.toInt8.toInt32)), (.int (0 : Int32)), (.ref u)])) rfl rfl (hb hby d9_31)
    have V_158 := V0.other W157 hne
    have N157 := Fr.snoc X157 N0 gu
    have Z157 : n0 ≤ h157.size := Nat.le_trans Z0 (Nat.le_of_eq W157.size.symm)
    have K157 : Keep h0 h157 [u] := (Keep.refl h0 [u]).wr W157 (Or.inl (List.mem_of_getElem? (i := 0) rfl))
    have V_u_157 : Arv Z h157 u ku .byte (1 : Int32) [(.int (nar .byte (c0.toInt8.toInt32)))] (.int (0 : Int32)) := Arv.set Ar_o156 q_o156 S_o156 M_o156 H_o156 G_o156 (fits_nar_byte _) W157 0 rfl (Nat.le_of_ble_eq_true rfl)
    refine Gl.st (g' := (mkF m 32 #[vR ca, vI (0 : Int32), vR u, vI (0 : Int32), vI (1 : Int32), vI (0 : Int32), vI c0] [])) (fun τ κ => st157 _ κ) ?_
    refine Gl.st (g' := (mkF m 38 #[vR ca, vI (1 : Int32), vR u, vI (1 : Int32), vI (1 : Int32), vI (0 : Int32), vI c0] [])) (fun τ κ => XS.iinc X157.here hx rfl (hb hby d9_32) rfl (l' := #[vR ca, vI (1 : Int32), vR u, vI (0 : Int32), vI (1 : Int32), vI (0 : Int32), vI c0]) rfl (XS.iinc X157.here hx rfl (hb hby d9_35) rfl (l' := #[vR ca, vI (1 : Int32), vR u, vI (1 : Int32), vI (1 : Int32), vI (0 : Int32), vI c0]) rfl κ)) ?_
    refine Gl.st (g' := (mkF m 3 #[vR ca, vI (1 : Int32), vR u, vI (1 : Int32), vI (1 : Int32), vI (1 : Int32), vI c0] [])) (fun τ κ => XS.iinc X157.here hx rfl (hb hby d9_38) rfl (l' := #[vR ca, vI (1 : Int32), vR u, vI (1 : Int32), vI (1 : Int32), vI (1 : Int32), vI c0]) rfl (XS.goto X157.here hx rfl (pc0 := 41) (pc' := 3) rfl (hb hby d9_41) (by decide) (by decide) κ)) ?_
    refine Gl.st (g' := (mkF m 7 #[vR ca, vI (1 : Int32), vR u, vI (1 : Int32), vI (1 : Int32), vI (1 : Int32), vI c0] [(.int (1 : Int32)), (.int (1 : Int32))])) (fun τ κ => XS.iload X157.here hx rfl (hb hby d9_3) rfl (XS.iload X157.here hx rfl (hb hby d9_5) rfl κ)) ?_
    have hc160 : ¬ ((1 : Int32) < (1 : Int32)) := by decide
    refine Gl.st (g' := (mkF m 46 #[vR ca, vI (1 : Int32), vR u, vI (1 : Int32), vI (1 : Int32), vI (1 : Int32), vI c0] [(.int (1 : Int32))])) (fun τ κ => XS.icmpYes X157.here hx rfl (pc0 := 7) (pc' := 44) rfl (hb hby d9_7) rfl (flt hc160).2.1 (by decide) (by decide) (XS.iload X157.here hx rfl (hb hby d9_44) rfl κ)) ?_
    exact Gl.ret (v := some (.int (1 : Int32))) X157 Bd.notSynchronized (fun h => by rw [Bd.returns] at h; cases h) e157 (fun fs hr => retI X157 hx Bd.returns (hb hby d9_46) hr) (by decide) (by decide) ⟨_, rfl, N157, K157, Or.inl ⟨rfl, hc155, V_u_157⟩⟩
theorem d8_0 : decode jdk_52_method_16_code 0 = .ok (.iload_n 2, 1) := by decide +kernel
theorem d8_1 : decode jdk_52_method_16_code 1 = .ok (.newarray .byte, 2) := by decide +kernel
theorem d8_3 : decode jdk_52_method_16_code 3 = .ok (.astore_n 3, 1) := by decide +kernel
theorem d8_4 : decode jdk_52_method_16_code 4 = .ok (.aload_n 0, 1) := by decide +kernel
theorem d8_5 : decode jdk_52_method_16_code 5 = .ok (.iload_n 1, 1) := by decide +kernel
theorem d8_6 : decode jdk_52_method_16_code 6 = .ok (.aload_n 3, 1) := by decide +kernel
theorem d8_7 : decode jdk_52_method_16_code 7 = .ok (.iconst 0, 1) := by decide +kernel
theorem d8_8 : decode jdk_52_method_16_code 8 = .ok (.iload_n 2, 1) := by decide +kernel
theorem d8_9 : decode jdk_52_method_16_code 9 = .ok (.invokestatic 115, 3) := by decide +kernel
theorem pd_12 : parseMethodDescriptor "([CI[BII)I" = some ⟨[(.array .char), .int, (.array .byte), .int, .int], some .int⟩ := by decide +kernel
theorem d8_12 : decode jdk_52_method_16_code 12 = .ok (.istore 4, 2) := by decide +kernel
theorem d8_14 : decode jdk_52_method_16_code 14 = .ok (.iload 4, 2) := by decide +kernel
theorem d8_16 : decode jdk_52_method_16_code 16 = .ok (.iload_n 2, 1) := by decide +kernel
theorem d8_17 : decode jdk_52_method_16_code 17 = .ok (.if_icmp .eq 40, 3) := by decide +kernel
theorem d8_57 : decode jdk_52_method_16_code 57 = .ok (.aload_n 3, 1) := by decide +kernel
theorem d8_58 : decode jdk_52_method_16_code 58 = .ok (.areturn, 1) := by decide +kernel
theorem d8_20 : decode jdk_52_method_16_code 20 = .ok (.aload_n 0, 1) := by decide +kernel
theorem d8_21 : decode jdk_52_method_16_code 21 = .ok (.iload_n 1, 1) := by decide +kernel
theorem d8_22 : decode jdk_52_method_16_code 22 = .ok (.iload_n 2, 1) := by decide +kernel
theorem d8_23 : decode jdk_52_method_16_code 23 = .ok (.invokestatic 119, 3) := by decide +kernel
theorem pd_13 : parseMethodDescriptor "([CII)[B" = some ⟨[(.array .char), .int, .int], some (.array .byte)⟩ := by decide +kernel
theorem d8_26 : decode jdk_52_method_16_code 26 = .ok (.astore 5, 2) := by decide +kernel
theorem d8_28 : decode jdk_52_method_16_code 28 = .ok (.aload 5, 2) := by decide +kernel
theorem d8_30 : decode jdk_52_method_16_code 30 = .ok (.iload 4, 2) := by decide +kernel
theorem d8_32 : decode jdk_52_method_16_code 32 = .ok (.invokestatic 71, 3) := by decide +kernel
theorem d8_35 : decode jdk_52_method_16_code 35 = .ok (.sipush 255, 3) := by decide +kernel
theorem d8_38 : decode jdk_52_method_16_code 38 = .ok (.if_icmp .gt 16, 3) := by decide +kernel
theorem d8_54 : decode jdk_52_method_16_code 54 = .ok (.aload 5, 2) := by decide +kernel
theorem d8_56 : decode jdk_52_method_16_code 56 = .ok (.areturn, 1) := by decide +kernel
theorem ef_rm8_1 (m : MethodId) (ca : Addr) : entryFrame m #[(.ref ca), (.int (0 : Int32)), (.int (1 : Int32))] 6 = mkF m 0 #[vR ca, vI (0 : Int32), vI (1 : Int32), .unset, .unset, .unset] [] := by first | (simp [entryFrame, mkF, argsToLocals, Value.category]; done) | rfl
def Q_rm8_1 (Z : State) (ca : Addr) (kc : ClassId) (c0 : Int32) (h0 : Heap) (n0 : Nat) (v : Option Value) (h : Heap) (L : List Loc) : Prop := ∃ b kk z vs, v = some (.ref b) ∧ Fr n0 L ∧ Keep h0 h [] ∧ h0.size ≤ b ∧ Arv Z h b kk .byte z vs (.int (0 : Int32)) ∧ own_bytes (1 : Int32) [c0] z vs
set_option maxRecDepth 65536 in
set_option maxHeartbeats 40000000 in
theorem rm8_1 (l : Launch) (Z : State) (a0 : Array Value) (hw : ∀ d ∈ tables_1, d.before a0 Z = true) (ws : List Jvm.Cond) (ca : Addr) (kc : ClassId) (c0 : Int32) (h0 : Heap) (n0 : Nat) (Z0 : n0 ≤ h0.size) (SA : Sta Z h0 "java/lang/StringUTF16" "$assertionsDisabled" "Z" (.int (1 : Int32))) (SH : Sta Z h0 "java/lang/StringUTF16" "HI_BYTE_SHIFT" "I" (.int (0 : Int32))) (SL : Sta Z h0 "java/lang/StringUTF16" "LO_BYTE_SHIFT" "I" (.int (8 : Int32))) (V0 : Arv Z h0 ca kc .char (1 : Int32) [(.int c0)] (.int (0 : Int32))) (hc0 : own_ch c0) :
    MetFree l (⟨"java/lang/StringUTF16", "compress", "([CII)[B"⟩ : MethodName) (head1 (Jvm.Cond.code (⟨"java/lang/StringUTF16", "compress", "([CII)[B"⟩ : MethodName) jdk_52_method_16_code 6 (some (.array .byte)) :: ws) ({ frames := 3, cells := 2, slots := 3, locals := 40 } : Room)) (fun aα Uα => aα = #[(.ref ca), (.int (0 : Int32)), (.int (1 : Int32))] ∧ Z.Warmed39 Uα.vm ∧ Uα.heap = h0) (fun _ _ _ _ _ => True) (fun _ Uα oα Uβ => ∃ vα Lα, oα = .returned vα ∧ Q_rm8_1 Z ca kc c0 h0 n0 vα Uβ.heap Lα ∧ FrameEnd Uα oα Uβ Lα ({ frames := 3, cells := 2, slots := 3, locals := 40 } : Room).cells ({ frames := 3, cells := 2, slots := 3, locals := 40 } : Room).slots) := by
  refine MetFree.of_bodySF (plainFor_of_name pn_java_lang_StringUTF16) hisR ?_
  intro p e s m args below meth c s₁ Bd hml0 hP hKα
  obtain ⟨rfl, hZ, hh⟩ := hP
  have hx := Bd.exec
  have hby := Bd.bytes
  have hml : c.maxLocals = 6 := hml0
  have hown : s.vm.findClass "java/lang/StringUTF16" = some m.cls := findClass_of_methodNamed Bd.named
  have hnm := (name_of_methodNamed Bd.named Bd.method).1
  have X0 : Stand p l e ({ frames := 3, cells := 2, slots := 3, locals := 40 } : Room) s m #[(.ref ca), (.int (0 : Int32)), (.int (1 : Int32))] below meth c s₁ [] 0 0 := Stand.of_body Bd
  have e0 : s₁.heap = h0 := by rw [← hh, Bd.state]; rfl
  have N0 := Fr.nil n0
  suffices k0 : Gl p e below s (Q_rm8_1 Z ca kc c0 h0 n0) ({ frames := 3, cells := 2, slots := 3, locals := 40 } : Room).cells ({ frames := 3, cells := 2, slots := 3, locals := 40 } : Room).slots s₁ (mkF m 0 #[vR ca, vI (0 : Int32), vI (1 : Int32), .unset, .unset, .unset] []) from Gl.st (fun τ κ => castTop (ef_rm8_1 m ca) κ) k0
  refine Gl.st (g' := (mkF m 1 #[vR ca, vI (0 : Int32), vI (1 : Int32), .unset, .unset, .unset] [(.int (1 : Int32))])) (fun τ κ => XS.iloadN X0.here hx rfl (hb hby d8_0) rfl κ) ?_
  obtain ⟨T161, h161, k161, X161, e161, E161, A161, st161⟩ := newP X0 hx hZ (hw _ (List.mem_of_getElem? (i := 21) rfl)) e0 (g := (mkF m 1 #[vR ca, vI (0 : Int32), vI (1 : Int32), .unset, .unset, .unset] [(.int (1 : Int32))])) rfl (hb hby d8_1) rfl (by decide) (cap := 1) (by decide) (by decide) (by decide) (by decide)
  obtain ⟨b161, g161⟩ : ∃ z, z = h0.size := ⟨_, rfl⟩
  rw [← g161] at A161 st161
  have ne_ca_b161 : ca ≠ b161 := Nat.ne_of_lt (Nat.lt_of_lt_of_le V0.lt (Nat.le_of_eq g161.symm))
  have S_162 := SA.ext E161
  have S_163 := SH.ext E161
  have S_164 := SL.ext E161
  have V_165 := V0.ext E161
  have g_b161 : n0 ≤ b161 := Nat.le_trans Z0 (Nat.le_of_eq g161.symm)
  have sz_b161 : h0.size ≤ b161 := Nat.le_trans (Keep.refl h0 []).1 (Nat.le_of_eq g161.symm)
  have Z161 : n0 ≤ h161.size := Nat.le_trans Z0 E161.1
  have K161 : Keep h0 h161 [] := (Keep.refl h0 []).ext E161
  have V_b161 : Arv Z h161 b161 k161 .byte (1 : Int32) [(.int (0 : Int32))] (.int (0 : Int32)) := (Arv.new A161 (by decide)).pad (pad_rep [] (.int (0 : Int32)) 1)
  refine Gl.st (g' := (mkF m 3 #[vR ca, vI (0 : Int32), vI (1 : Int32), .unset, .unset, .unset] [(.ref b161)])) (fun τ κ => st161 _ κ) ?_
  refine Gl.st (g' := (mkF m 5 #[vR ca, vI (0 : Int32), vI (1 : Int32), vR b161, .unset, .unset] [(.ref ca)])) (fun τ κ => XS.astoreN X161.here hx rfl (hb hby d8_3) rfl rfl (l' := #[vR ca, vI (0 : Int32), vI (1 : Int32), vR b161, .unset, .unset]) rfl (XS.aloadN X161.here hx rfl (hb hby d8_4) rfl rfl κ)) ?_
  refine Gl.st (g' := (mkF m 7 #[vR ca, vI (0 : Int32), vI (1 : Int32), vR b161, .unset, .unset] [(.ref b161), (.int (0 : Int32)), (.ref ca)])) (fun τ κ => XS.iloadN X161.here hx rfl (hb hby d8_5) rfl (XS.aloadN X161.here hx rfl (hb hby d8_6) rfl rfl κ)) ?_
  refine Gl.st (g' := (mkF m 9 #[vR ca, vI (0 : Int32), vI (1 : Int32), vR b161, .unset, .unset] [(.int (1 : Int32)), (.int (0 : Int32)), (.ref b161), (.int (0 : Int32)), (.ref ca)])) (fun τ κ => XS.iconst X161.here hx rfl (hb hby d8_7) (XS.iloadN X161.here hx rfl (hb hby d8_8) rfl κ)) ?_
  obtain ⟨rv166, _, ⟨T166, L166, k166, n166⟩, -, X166, ⟨Lc166, hQ166, l166, y166, z166⟩, st166⟩ := Jvm.LawKit.callS X161 hx (y := (⟨"java/lang/StringUTF16", "compress", "([CI[BII)I"⟩ : MethodName)) hown (mvT hZ (w47_ hw)) (mvT hZ (w48_ hw)) (mvT hZ (w45_ hw)) (mvT hZ (w49_ hw)) (by decide) (backOf (W := 0) (rm9_1 l Z a0 hw [] ca b161 kc k161 c0 h161 n0 Z161 V_165 V_b161 g_b161 ne_ca_b161) hZ (w49_ hw) (w45_ hw) (by decide) (by decide)) (g := (mkF m 9 #[vR ca, vI (0 : Int32), vI (1 : Int32), vR b161, .unset, .unset] [(.int (1 : Int32)), (.int (0 : Int32)), (.ref b161), (.int (0 : Int32)), (.ref ca)])) rfl (by rw [hml]; rfl) (argsL := [(.ref ca), (.int (0 : Int32)), (.ref b161), (.int (0 : Int32)), (.int (1 : Int32))]) (rest := []) (lenOf pd_12 rfl) rfl (by show 2 * 0 + _ ≤ _; exact Nat.le_of_eq rfl) (hb hby d8_9) (fun _ _ => ⟨rfl, e161, (by decide : 1 + 0 ≤ _), (by decide : 1 + 0 ≤ _)⟩)
  dsimp only [Pt.U, Pt.locs, Pt.cells, Pt.slots] at X166 l166 y166 z166 st166 hQ166
  subst l166 y166 z166
  obtain ⟨j, rfl, N166q, Kc166, hj⟩ := hQ166
  have S_167 := Sta.keepX S_162 Kc166 (allS (P := fun x => ∃ c : Cell, h161[x]? = some c ∧ ∀ q, c.vm ≠ .statics q) (Arv.cellX V_b161) all0)
  have S_168 := Sta.keepX S_163 Kc166 (allS (P := fun x => ∃ c : Cell, h161[x]? = some c ∧ ∀ q, c.vm ≠ .statics q) (Arv.cellX V_b161) all0)
  have S_169 := Sta.keepX S_164 Kc166 (allS (P := fun x => ∃ c : Cell, h161[x]? = some c ∧ ∀ q, c.vm ≠ .statics q) (Arv.cellX V_b161) all0)
  have V_170 := V_165.keep Kc166 (ninS ne_ca_b161 nin0)
  have N166 := Fr.app N0 N166q
  have Z166 : n0 ≤ T166.heap.size := Nat.le_trans Z161 Kc166.1
  have K166 : Keep h0 T166.heap [] := K161.trans Kc166 (allS (Or.inr sz_b161) all0)
  refine Gl.st (g' := (mkF m 12 #[vR ca, vI (0 : Int32), vI (1 : Int32), vR b161, .unset, .unset] [(.int j)])) (fun τ κ => st166 _ κ) ?_
  rcases hj with ⟨rfl, q0, Vj⟩ | hj
  · -- 1
    refine Gl.st (g' := (mkF m 16 #[vR ca, vI (0 : Int32), vI (1 : Int32), vR b161, vI (1 : Int32), .unset] [(.int (1 : Int32))])) (fun τ κ => XS.istore X166.here hx rfl (hb hby d8_12) rfl (l' := #[vR ca, vI (0 : Int32), vI (1 : Int32), vR b161, vI (1 : Int32), .unset]) rfl (XS.iload X166.here hx rfl (hb hby d8_14) rfl κ)) ?_
    refine Gl.st (g' := (mkF m 17 #[vR ca, vI (0 : Int32), vI (1 : Int32), vR b161, vI (1 : Int32), .unset] [(.int (1 : Int32)), (.int (1 : Int32))])) (fun τ κ => XS.iloadN X166.here hx rfl (hb hby d8_16) rfl κ) ?_
    have hc172 : (1 : Int32) = (1 : Int32) := by decide
    refine Gl.st (g' := (mkF m 58 #[vR ca, vI (0 : Int32), vI (1 : Int32), vR b161, vI (1 : Int32), .unset] [(.ref b161)])) (fun τ κ => XS.icmpYes X166.here hx rfl (pc0 := 17) (pc' := 57) rfl (hb hby d8_17) rfl (teq hc172).1 (by decide) (by decide) (XS.aloadN X166.here hx rfl (hb hby d8_57) rfl rfl κ)) ?_
    exact Gl.ret (v := some (.ref b161)) X166 Bd.notSynchronized (fun h => by rw [Bd.returns] at h; cases h) rfl (fun fs hr => retAA X166 hx Bd.returns (hb hby d8_58) hr) (by decide) (by decide) ⟨b161, k161, (1 : Int32), [(.int (own_lb c0))], rfl, N166, K166, sz_b161, Vj, Or.inl ⟨rfl, (fun i hi => match i, hi with | 0, _ => ⟨_, rfl, own_lat hc0 q0⟩ | (i + 1), hi => absurd hi (Nat.not_lt.mpr (Nat.le_add_left 1 _)))⟩⟩
  · -- 0
    obtain ⟨yy, yz, hg, hq⟩ : ∃ yy yz, (¬ j = (1 : Int32) ∧ (¬ (j <<< ((1 : Int32) &&& 31)) < 0 ∧ (j <<< ((1 : Int32) &&& 31)) < (2 : Int32)) ∧ (¬ ((j <<< ((1 : Int32) &&& 31)) + (1 : Int32)) < 0 ∧ ((j <<< ((1 : Int32) &&& 31)) + (1 : Int32)) < (2 : Int32)) ∧ ([(.int (own_hi c0)), (.int (own_lo c0))] : List Value).getD ((j <<< ((1 : Int32) &&& 31))).toNatClampNeg (.int 0) = .int yy ∧ ([(.int (own_hi c0)), (.int (own_lo c0))] : List Value).getD (((j <<< ((1 : Int32) &&& 31)) + (1 : Int32))).toNatClampNeg (.int 0) = .int yz) ∧ (255 : Int32) < own_u16E yy yz := by
      obtain ⟨rfl, q0⟩ := hj
      exact ⟨own_hi c0, own_lo c0, ⟨by decide, by decide, by decide, rfl, rfl⟩, by rw [own_join hc0]; exact q0⟩
    refine Gl.st (g' := (mkF m 16 #[vR ca, vI (0 : Int32), vI (1 : Int32), vR b161, vI j, .unset] [(.int j)])) (fun τ κ => XS.istore X166.here hx rfl (hb hby d8_12) rfl (l' := #[vR ca, vI (0 : Int32), vI (1 : Int32), vR b161, vI j, .unset]) rfl (XS.iload X166.here hx rfl (hb hby d8_14) rfl κ)) ?_
    refine Gl.st (g' := (mkF m 17 #[vR ca, vI (0 : Int32), vI (1 : Int32), vR b161, vI j, .unset] [(.int (1 : Int32)), (.int j)])) (fun τ κ => XS.iloadN X166.here hx rfl (hb hby d8_16) rfl κ) ?_
    have hc173 : ¬ (j = (1 : Int32)) := hg.1
    refine Gl.st (g' := (mkF m 21 #[vR ca, vI (0 : Int32), vI (1 : Int32), vR b161, vI j, .unset] [(.ref ca)])) (fun τ κ => XS.icmpNo X166.here hx rfl (hb hby d8_17) rfl (feq hc173).1 (XS.aloadN X166.here hx rfl (hb hby d8_20) rfl rfl κ)) ?_
    refine Gl.st (g' := (mkF m 23 #[vR ca, vI (0 : Int32), vI (1 : Int32), vR b161, vI j, .unset] [(.int (1 : Int32)), (.int (0 : Int32)), (.ref ca)])) (fun τ κ => XS.iloadN X166.here hx rfl (hb hby d8_21) rfl (XS.iloadN X166.here hx rfl (hb hby d8_22) rfl κ)) ?_
    obtain ⟨rv174, _, ⟨T174, L174, k174, n174⟩, -, X174, ⟨Lc174, hQ174, l174, y174, z174⟩, st174⟩ := Jvm.LawKit.callS X166 hx (y := (⟨"java/lang/StringUTF16", "toBytes", "([CII)[B"⟩ : MethodName)) hown (mvT hZ (w78_ hw)) (mvT hZ (w79_ hw)) (mvT hZ (w45_ hw)) (mvT hZ (w80_ hw)) (by decide) (backOf (W := 0) (rm17_1 l Z a0 hw [] ca kc c0 T166.heap n0 Z166 S_167 S_168 S_169 V_170) hZ (w80_ hw) (w45_ hw) (by decide) (by decide)) (g := (mkF m 23 #[vR ca, vI (0 : Int32), vI (1 : Int32), vR b161, vI j, .unset] [(.int (1 : Int32)), (.int (0 : Int32)), (.ref ca)])) rfl (by rw [hml]; rfl) (argsL := [(.ref ca), (.int (0 : Int32)), (.int (1 : Int32))]) (rest := []) (lenOf pd_13 rfl) rfl (by show 2 * 0 + _ ≤ _; exact Nat.le_of_eq rfl) (hb hby d8_23) (fun _ _ => ⟨rfl, rfl, (by decide : 1 + 1 ≤ _), (by decide : 1 + 2 ≤ _)⟩)
    dsimp only [Pt.U, Pt.locs, Pt.cells, Pt.slots] at X174 l174 y174 z174 st174 hQ174
    subst l174 y174 z174
    obtain ⟨b174, kk174, rfl, N174q, Kc174, s174, V174⟩ := hQ174
    have ne_ca_b174 : ca ≠ b174 := Nat.ne_of_lt (Nat.lt_of_lt_of_le V_170.lt s174)
    have g_b174 : n0 ≤ b174 := Nat.le_trans Z166 s174
    have sz_b174 : h0.size ≤ b174 := Nat.le_trans K166.1 s174
    have S_175 := Sta.keepX S_167 Kc174 all0
    have S_176 := Sta.keepX S_168 Kc174 all0
    have S_177 := Sta.keepX S_169 Kc174 all0
    have V_178 := V_170.keep Kc174 nin0
    have N174 := Fr.app N166 N174q
    have Z174 : n0 ≤ T174.heap.size := Nat.le_trans Z166 Kc174.1
    have K174 : Keep h0 T174.heap [] := K166.trans Kc174 all0
    refine Gl.st (g' := (mkF m 26 #[vR ca, vI (0 : Int32), vI (1 : Int32), vR b161, vI j, .unset] [(.ref b174)])) (fun τ κ => st174 _ κ) ?_
    refine Gl.st (g' := (mkF m 30 #[vR ca, vI (0 : Int32), vI (1 : Int32), vR b161, vI j, vR b174] [(.ref b174)])) (fun τ κ => XS.astore X174.here hx rfl (hb hby d8_26) rfl rfl (l' := #[vR ca, vI (0 : Int32), vI (1 : Int32), vR b161, vI j, vR b174]) rfl (XS.aload X174.here hx rfl (hb hby d8_28) rfl rfl κ)) ?_
    refine Gl.st (g' := (mkF m 32 #[vR ca, vI (0 : Int32), vI (1 : Int32), vR b161, vI j, vR b174] [(.int j), (.ref b174)])) (fun τ κ => XS.iload X174.here hx rfl (hb hby d8_30) rfl κ) ?_
    obtain ⟨rv179, _, ⟨T179, L179, k179, n179⟩, -, X179, ⟨Lc179, hQ179, l179, y179, z179⟩, st179⟩ := Jvm.LawKit.callS X174 hx (y := (⟨"java/lang/StringUTF16", "getChar", "([BI)C"⟩ : MethodName)) hown (mvT hZ (w94_ hw)) (mvT hZ (w95_ hw)) (mvT hZ (w45_ hw)) (mvT hZ (w96_ hw)) (by decide) (backOf (W := 0) (rm21 l Z a0 hw [] b174 j kk174 (2 : Int32) [(.int (own_hi c0)), (.int (own_lo c0))] yy yz T174.heap n0 Z174 S_175 S_176 S_177 V174 hg.2.1 hg.2.2.1 hg.2.2.2.1 hg.2.2.2.2) hZ (w96_ hw) (w45_ hw) (by decide) (by decide)) (g := (mkF m 32 #[vR ca, vI (0 : Int32), vI (1 : Int32), vR b161, vI j, vR b174] [(.int j), (.ref b174)])) rfl (by rw [hml]; rfl) (argsL := [(.ref b174), (.int j)]) (rest := []) (lenOf pd_5 rfl) rfl (by show 2 * 0 + _ ≤ _; exact Nat.le_of_eq rfl) (hb hby d8_32) (fun _ _ => ⟨rfl, rfl, (by decide : 2 + 0 ≤ _), (by decide : 3 + 0 ≤ _)⟩)
    dsimp only [Pt.U, Pt.locs, Pt.cells, Pt.slots] at X179 l179 y179 z179 st179 hQ179
    subst l179 y179 z179
    obtain ⟨hq179, N179q, e179⟩ := hQ179
    have hq179 : rv179 = some (.int (own_u16E yy yz)) := hq179
    subst hq179
    have N179 := Fr.app N174 N179q
    refine Gl.st (g' := (mkF m 35 #[vR ca, vI (0 : Int32), vI (1 : Int32), vR b161, vI j, vR b174] [(.int (own_u16E yy yz))])) (fun τ κ => st179 _ κ) ?_
    refine Gl.st (g' := (mkF m 38 #[vR ca, vI (0 : Int32), vI (1 : Int32), vR b161, vI j, vR b174] [(.int (255 : Int32)), (.int (own_u16E yy yz))])) (fun τ κ => XS.sipush X179.here hx rfl (hb hby d8_35) κ) ?_
    have hc180 : (255 : Int32) < (own_u16E yy yz) := hq
    refine Gl.st (g' := (mkF m 56 #[vR ca, vI (0 : Int32), vI (1 : Int32), vR b161, vI j, vR b174] [(.ref b174)])) (fun τ κ => XS.icmpYes X179.here hx rfl (pc0 := 38) (pc' := 54) rfl (hb hby d8_38) rfl (tlt hc180).2.2.1 (by decide) (by decide) (XS.aload X179.here hx rfl (hb hby d8_54) rfl rfl κ)) ?_
    exact Gl.ret (v := some (.ref b174)) X179 Bd.notSynchronized (fun h => by rw [Bd.returns] at h; cases h) e179 (fun fs hr => retAA X179 hx Bd.returns (hb hby d8_56) hr) (by decide) (by decide) ⟨b174, kk174, (2 : Int32), [(.int (own_hi c0)), (.int (own_lo c0))], rfl, N179, K174, sz_b174, V174, Or.inr ⟨by decide, (fun i hi => match i, hi with | 0, _ => ⟨_, _, rfl, rfl, own_join hc0⟩ | (i + 1), hi => absurd hi (Nat.not_lt.mpr (Nat.le_add_left 1 _)))⟩⟩
theorem d10_0 : decode jdk_52_method_15_code 0 = .ok (.iload_n 1, 1) := by decide +kernel
theorem d10_1 : decode jdk_52_method_15_code 1 = .ok (.aload_n 0, 1) := by decide +kernel
theorem d10_2 : decode jdk_52_method_15_code 2 = .ok (.arraylength, 1) := by decide +kernel
theorem d10_3 : decode jdk_52_method_15_code 3 = .ok (.isub, 1) := by decide +kernel
theorem d10_4 : decode jdk_52_method_15_code 4 = .ok (.bipush 31, 2) := by decide +kernel
theorem d10_6 : decode jdk_52_method_15_code 6 = .ok (.iushr, 1) := by decide +kernel
theorem d10_7 : decode jdk_52_method_15_code 7 = .ok (.i2b, 1) := by decide +kernel
theorem d10_8 : decode jdk_52_method_15_code 8 = .ok (.ireturn, 1) := by decide +kernel
theorem ef_rm10_1_0 (m : MethodId) (b : Addr) : entryFrame m #[(.ref b), (.int (1 : Int32))] 2 = mkF m 0 #[vR b, vI (1 : Int32)] [] := by first | (simp [entryFrame, mkF, argsToLocals, Value.category]; done) | rfl
def Q_rm10_1_0 (Z : State) (b : Addr) (kb : ClassId) (vs : List Value) (h0 : Heap) (n0 : Nat) (v : Option Value) (h : Heap) (L : List Loc) : Prop := v = some (.int (0 : Int32)) ∧ Fr n0 L ∧ h = h0
set_option maxRecDepth 65536 in
set_option maxHeartbeats 40000000 in
theorem rm10_1_0 (l : Launch) (Z : State) (a0 : Array Value) (hw : ∀ d ∈ tables_1, d.before a0 Z = true) (ws : List Jvm.Cond) (b : Addr) (kb : ClassId) (vs : List Value) (h0 : Heap) (n0 : Nat) (Z0 : n0 ≤ h0.size) (V0 : Arv Z h0 b kb .byte (1 : Int32) vs (.int (0 : Int32))) :
    MetFree l (⟨"java/lang/StringUTF16", "coderFromArrayLen", "([BI)B"⟩ : MethodName) (head1 (Jvm.Cond.code (⟨"java/lang/StringUTF16", "coderFromArrayLen", "([BI)B"⟩ : MethodName) jdk_52_method_15_code 2 (some .byte) :: ws) ({ frames := 0, cells := 0, slots := 0, locals := 0 } : Room)) (fun aα Uα => aα = #[(.ref b), (.int (1 : Int32))] ∧ Z.Warmed39 Uα.vm ∧ Uα.heap = h0) (fun _ _ _ _ _ => True) (fun _ Uα oα Uβ => ∃ vα Lα, oα = .returned vα ∧ Q_rm10_1_0 Z b kb vs h0 n0 vα Uβ.heap Lα ∧ FrameEnd Uα oα Uβ Lα ({ frames := 0, cells := 0, slots := 0, locals := 0 } : Room).cells ({ frames := 0, cells := 0, slots := 0, locals := 0 } : Room).slots) := by
  refine MetFree.of_bodySF (plainFor_of_name pn_java_lang_StringUTF16) hisR ?_
  intro p e s m args below meth c s₁ Bd hml0 hP hKα
  obtain ⟨rfl, hZ, hh⟩ := hP
  have hx := Bd.exec
  have hby := Bd.bytes
  have hml : c.maxLocals = 2 := hml0
  have hown : s.vm.findClass "java/lang/StringUTF16" = some m.cls := findClass_of_methodNamed Bd.named
  have hnm := (name_of_methodNamed Bd.named Bd.method).1
  have X0 : Stand p l e ({ frames := 0, cells := 0, slots := 0, locals := 0 } : Room) s m #[(.ref b), (.int (1 : Int32))] below meth c s₁ [] 0 0 := Stand.of_body Bd
  have e0 : s₁.heap = h0 := by rw [← hh, Bd.state]; rfl
  have N0 := Fr.nil n0
  suffices k0 : Gl p e below s (Q_rm10_1_0 Z b kb vs h0 n0) ({ frames := 0, cells := 0, slots := 0, locals := 0 } : Room).cells ({ frames := 0, cells := 0, slots := 0, locals := 0 } : Room).slots s₁ (mkF m 0 #[vR b, vI (1 : Int32)] []) from Gl.st (fun τ κ => castTop (ef_rm10_1_0 m b) κ) k0
  refine Gl.st (g' := (mkF m 2 #[vR b, vI (1 : Int32)] [(.ref b), (.int (1 : Int32))])) (fun τ κ => XS.iloadN X0.here hx rfl (hb hby d10_0) rfl (XS.aloadN X0.here hx rfl (hb hby d10_1) rfl rfl κ)) ?_
  obtain ⟨cl_o181, Ar_o181, q_o181, S_o181, M_o181, H_o181, G_o181⟩ := id V0
  refine Gl.st (g' := (mkF m 3 #[vR b, vI (1 : Int32)] [(.int (1 : Int32)), (.int (1 : Int32))])) (fun τ κ => X0.arraylength hx (by rw [e0]; exact Ar_o181.1) (State.isArrayOf_alike hZ.alike Ar_o181.2.1) (g := (mkF m 2 #[vR b, vI (1 : Int32)] [(.ref b), (.int (1 : Int32))])) rfl rfl (hb hby d10_2) _ (by rw [len_of S_o181 M_o181]; exact κ)) ?_
  refine Gl.st (g' := (mkF m 6 #[vR b, vI (1 : Int32)] [(.int (31 : Int32)), (.int (0 : Int32))])) (fun τ κ => XS.isub X0.here hx rfl (hb hby d10_3) rfl (XS.bipush X0.here hx rfl (hb hby d10_4) κ)) ?_
  refine Gl.st (g' := (mkF m 7 #[vR b, vI (1 : Int32)] [(.int (((0 : Int32).toUInt32 >>> ((31 : Int32) &&& 31).toUInt32).toInt32))])) (fun τ κ => XS.iushr X0.here hx rfl (hb hby d10_6) rfl κ) ?_
  rw [show (((0 : Int32).toUInt32 >>> ((31 : Int32) &&& 31).toUInt32).toInt32) = (0 : Int32) from by decide]
  refine Gl.st (g' := (mkF m 8 #[vR b, vI (1 : Int32)] [(.int ((0 : Int32).toInt8.toInt32))])) (fun τ κ => XS.i2b X0.here hx rfl (hb hby d10_7) rfl κ) ?_
  rw [show ((0 : Int32).toInt8.toInt32) = (0 : Int32) from by decide]
  exact Gl.ret (v := some (.int (0 : Int32))) X0 Bd.notSynchronized (fun h => by rw [Bd.returns] at h; cases h) e0 (fun fs hr => retN X0 hx (t := .byte) Bd.returns (by simp) (hb hby d10_8) hr) (by decide) (by decide) ⟨rfl, N0, rfl⟩
theorem ef_rm10_1_1 (m : MethodId) (b : Addr) : entryFrame m #[(.ref b), (.int (1 : Int32))] 2 = mkF m 0 #[vR b, vI (1 : Int32)] [] := by first | (simp [entryFrame, mkF, argsToLocals, Value.category]; done) | rfl
def Q_rm10_1_1 (Z : State) (b : Addr) (kb : ClassId) (vs : List Value) (h0 : Heap) (n0 : Nat) (v : Option Value) (h : Heap) (L : List Loc) : Prop := v = some (.int (1 : Int32)) ∧ Fr n0 L ∧ h = h0
set_option maxRecDepth 65536 in
set_option maxHeartbeats 40000000 in
theorem rm10_1_1 (l : Launch) (Z : State) (a0 : Array Value) (hw : ∀ d ∈ tables_1, d.before a0 Z = true) (ws : List Jvm.Cond) (b : Addr) (kb : ClassId) (vs : List Value) (h0 : Heap) (n0 : Nat) (Z0 : n0 ≤ h0.size) (V0 : Arv Z h0 b kb .byte (2 : Int32) vs (.int (0 : Int32))) :
    MetFree l (⟨"java/lang/StringUTF16", "coderFromArrayLen", "([BI)B"⟩ : MethodName) (head1 (Jvm.Cond.code (⟨"java/lang/StringUTF16", "coderFromArrayLen", "([BI)B"⟩ : MethodName) jdk_52_method_15_code 2 (some .byte) :: ws) ({ frames := 0, cells := 0, slots := 0, locals := 0 } : Room)) (fun aα Uα => aα = #[(.ref b), (.int (1 : Int32))] ∧ Z.Warmed39 Uα.vm ∧ Uα.heap = h0) (fun _ _ _ _ _ => True) (fun _ Uα oα Uβ => ∃ vα Lα, oα = .returned vα ∧ Q_rm10_1_1 Z b kb vs h0 n0 vα Uβ.heap Lα ∧ FrameEnd Uα oα Uβ Lα ({ frames := 0, cells := 0, slots := 0, locals := 0 } : Room).cells ({ frames := 0, cells := 0, slots := 0, locals := 0 } : Room).slots) := by
  refine MetFree.of_bodySF (plainFor_of_name pn_java_lang_StringUTF16) hisR ?_
  intro p e s m args below meth c s₁ Bd hml0 hP hKα
  obtain ⟨rfl, hZ, hh⟩ := hP
  have hx := Bd.exec
  have hby := Bd.bytes
  have hml : c.maxLocals = 2 := hml0
  have hown : s.vm.findClass "java/lang/StringUTF16" = some m.cls := findClass_of_methodNamed Bd.named
  have hnm := (name_of_methodNamed Bd.named Bd.method).1
  have X0 : Stand p l e ({ frames := 0, cells := 0, slots := 0, locals := 0 } : Room) s m #[(.ref b), (.int (1 : Int32))] below meth c s₁ [] 0 0 := Stand.of_body Bd
  have e0 : s₁.heap = h0 := by rw [← hh, Bd.state]; rfl
  have N0 := Fr.nil n0
  suffices k0 : Gl p e below s (Q_rm10_1_1 Z b kb vs h0 n0) ({ frames := 0, cells := 0, slots := 0, locals := 0 } : Room).cells ({ frames := 0, cells := 0, slots := 0, locals := 0 } : Room).slots s₁ (mkF m 0 #[vR b, vI (1 : Int32)] []) from Gl.st (fun τ κ => castTop (ef_rm10_1_1 m b) κ) k0
  refine Gl.st (g' := (mkF m 2 #[vR b, vI (1 : Int32)] [(.ref b), (.int (1 : Int32))])) (fun τ κ => XS.iloadN X0.here hx rfl (hb hby d10_0) rfl (XS.aloadN X0.here hx rfl (hb hby d10_1) rfl rfl κ)) ?_
  obtain ⟨cl_o182, Ar_o182, q_o182, S_o182, M_o182, H_o182, G_o182⟩ := id V0
  refine Gl.st (g' := (mkF m 3 #[vR b, vI (1 : Int32)] [(.int (2 : Int32)), (.int (1 : Int32))])) (fun τ κ => X0.arraylength hx (by rw [e0]; exact Ar_o182.1) (State.isArrayOf_alike hZ.alike Ar_o182.2.1) (g := (mkF m 2 #[vR b, vI (1 : Int32)] [(.ref b), (.int (1 : Int32))])) rfl rfl (hb hby d10_2) _ (by rw [len_of S_o182 M_o182]; exact κ)) ?_
  refine Gl.st (g' := (mkF m 6 #[vR b, vI (1 : Int32)] [(.int (31 : Int32)), (.int (-1 : Int32))])) (fun τ κ => XS.isub X0.here hx rfl (hb hby d10_3) rfl (XS.bipush X0.here hx rfl (hb hby d10_4) κ)) ?_
  refine Gl.st (g' := (mkF m 7 #[vR b, vI (1 : Int32)] [(.int (((-1 : Int32).toUInt32 >>> ((31 : Int32) &&& 31).toUInt32).toInt32))])) (fun τ κ => XS.iushr X0.here hx rfl (hb hby d10_6) rfl κ) ?_
  rw [show (((-1 : Int32).toUInt32 >>> ((31 : Int32) &&& 31).toUInt32).toInt32) = (1 : Int32) from by decide]
  refine Gl.st (g' := (mkF m 8 #[vR b, vI (1 : Int32)] [(.int ((1 : Int32).toInt8.toInt32))])) (fun τ κ => XS.i2b X0.here hx rfl (hb hby d10_7) rfl κ) ?_
  rw [show ((1 : Int32).toInt8.toInt32) = (1 : Int32) from by decide]
  exact Gl.ret (v := some (.int (1 : Int32))) X0 Bd.notSynchronized (fun h => by rw [Bd.returns] at h; cases h) e0 (fun fs hr => retN X0 hx (t := .byte) Bd.returns (by simp) (hb hby d10_8) hr) (by decide) (by decide) ⟨rfl, N0, rfl⟩
theorem d3_0 : decode jdk_42_method_149_code 0 = .ok (.aload_n 0, 1) := by decide +kernel
theorem d3_1 : decode jdk_42_method_149_code 1 = .ok (.invokespecial 1, 3) := by decide +kernel
theorem d3_4 : decode jdk_42_method_149_code 4 = .ok (.iload_n 3, 1) := by decide +kernel
theorem d3_5 : decode jdk_42_method_149_code 5 = .ok (.ifCond .ne 22, 3) := by decide +kernel
theorem d3_27 : decode jdk_42_method_149_code 27 = .ok (.getstatic 38, 3) := by decide +kernel
theorem d3_30 : decode jdk_42_method_149_code 30 = .ok (.ifCond .eq 28, 3) := by decide +kernel
theorem d3_33 : decode jdk_42_method_149_code 33 = .ok (.aload_n 1, 1) := by decide +kernel
theorem d3_34 : decode jdk_42_method_149_code 34 = .ok (.iload_n 2, 1) := by decide +kernel
theorem d3_35 : decode jdk_42_method_149_code 35 = .ok (.iload_n 3, 1) := by decide +kernel
theorem d3_36 : decode jdk_42_method_149_code 36 = .ok (.invokestatic 177, 3) := by decide +kernel
theorem d3_39 : decode jdk_42_method_149_code 39 = .ok (.astore 5, 2) := by decide +kernel
theorem d3_41 : decode jdk_42_method_149_code 41 = .ok (.aload_n 0, 1) := by decide +kernel
theorem d3_42 : decode jdk_42_method_149_code 42 = .ok (.aload 5, 2) := by decide +kernel
theorem d3_44 : decode jdk_42_method_149_code 44 = .ok (.iload_n 3, 1) := by decide +kernel
theorem d3_45 : decode jdk_42_method_149_code 45 = .ok (.invokestatic 47, 3) := by decide +kernel
theorem pd_14 : parseMethodDescriptor "([BI)B" = some ⟨[(.array .byte), .int], some .byte⟩ := by decide +kernel
theorem d3_48 : decode jdk_42_method_149_code 48 = .ok (.putfield 15, 3) := by decide +kernel
theorem d3_51 : decode jdk_42_method_149_code 51 = .ok (.aload_n 0, 1) := by decide +kernel
theorem d3_52 : decode jdk_42_method_149_code 52 = .ok (.aload 5, 2) := by decide +kernel
theorem d3_54 : decode jdk_42_method_149_code 54 = .ok (.putfield 9, 3) := by decide +kernel
theorem d3_57 : decode jdk_42_method_149_code 57 = .ok (.return_, 1) := by decide +kernel
theorem ef_rm3_1 (m : MethodId) (a : Addr) (ca : Addr) : entryFrame m #[(.ref a), (.ref ca), (.int (0 : Int32)), (.int (1 : Int32)), .null] 6 = mkF m 0 #[vR a, vR ca, vI (0 : Int32), vI (1 : Int32), .val .null, .unset] [] := by first | (simp [entryFrame, mkF, argsToLocals, Value.category]; done) | rfl
def Q_rm3_1 (Z : State) (a : Addr) (ca : Addr) (kc : ClassId) (cs : Int32) (c0 : Int32) (h0 : Heap) (n0 : Nat) (v : Option Value) (h : Heap) (L : List Loc) : Prop := v = none ∧ Fr n0 L ∧ Keep h0 h [a] ∧ own_str Z h a (1 : Int32) [c0]
set_option maxRecDepth 65536 in
set_option maxHeartbeats 40000000 in
theorem rm3_1 (l : Launch) (Z : State) (a0 : Array Value) (hw : ∀ d ∈ tables_1, d.before a0 Z = true) (ws : List Jvm.Cond) (a : Addr) (ca : Addr) (kc : ClassId) (cs : Int32) (c0 : Int32) (h0 : Heap) (n0 : Nat) (Z0 : n0 ≤ h0.size) (E0 : Exa Z h0 a "java/lang/String") (g0 : n0 ≤ a) (FV : Fld Z h0 a "java/lang/String" "value" "[B" .null) (FC : Fld Z h0 a "java/lang/String" "coder" "B" (.int (0 : Int32))) (hac : a ≠ ca) (S0 : Sta Z h0 "java/lang/String" "COMPACT_STRINGS" "Z" (.int cs)) (hcs : ¬ cs = (0 : Int32)) (SA : Sta Z h0 "java/lang/StringUTF16" "$assertionsDisabled" "Z" (.int (1 : Int32))) (SH : Sta Z h0 "java/lang/StringUTF16" "HI_BYTE_SHIFT" "I" (.int (0 : Int32))) (SL : Sta Z h0 "java/lang/StringUTF16" "LO_BYTE_SHIFT" "I" (.int (8 : Int32))) (V0 : Arv Z h0 ca kc .char (1 : Int32) [(.int c0)] (.int (0 : Int32))) (hc0 : own_ch c0) :
    MetFree l (⟨"java/lang/String", "<init>", "([CIILjava/lang/Void;)V"⟩ : MethodName) (head1 (Jvm.Cond.code (⟨"java/lang/String", "<init>", "([CIILjava/lang/Void;)V"⟩ : MethodName) jdk_42_method_149_code 6 none :: ws) ({ frames := 4, cells := 2, slots := 3, locals := 57 } : Room)) (fun aα Uα => aα = #[(.ref a), (.ref ca), (.int (0 : Int32)), (.int (1 : Int32)), .null] ∧ Z.Warmed39 Uα.vm ∧ Uα.heap = h0) (fun _ _ _ _ _ => True) (fun _ Uα oα Uβ => ∃ vα Lα, oα = .returned vα ∧ Q_rm3_1 Z a ca kc cs c0 h0 n0 vα Uβ.heap Lα ∧ FrameEnd Uα oα Uβ Lα ({ frames := 4, cells := 2, slots := 3, locals := 57 } : Room).cells ({ frames := 4, cells := 2, slots := 3, locals := 57 } : Room).slots) := by
  refine MetFree.of_bodySF (plainFor_of_name pn_java_lang_String) hisR ?_
  intro p e s m args below meth c s₁ Bd hml0 hP hKα
  obtain ⟨rfl, hZ, hh⟩ := hP
  have hx := Bd.exec
  have hby := Bd.bytes
  have hml : c.maxLocals = 6 := hml0
  have hown : s.vm.findClass "java/lang/String" = some m.cls := findClass_of_methodNamed Bd.named
  have hnm := (name_of_methodNamed Bd.named Bd.method).1
  have X0 : Stand p l e ({ frames := 4, cells := 2, slots := 3, locals := 57 } : Room) s m #[(.ref a), (.ref ca), (.int (0 : Int32)), (.int (1 : Int32)), .null] below meth c s₁ [] 0 0 := Stand.of_body Bd
  have e0 : s₁.heap = h0 := by rw [← hh, Bd.state]; rfl
  have N0 := Fr.nil n0
  suffices k0 : Gl p e below s (Q_rm3_1 Z a ca kc cs c0 h0 n0) ({ frames := 4, cells := 2, slots := 3, locals := 57 } : Room).cells ({ frames := 4, cells := 2, slots := 3, locals := 57 } : Room).slots s₁ (mkF m 0 #[vR a, vR ca, vI (0 : Int32), vI (1 : Int32), .val .null, .unset] []) from Gl.st (fun τ κ => castTop (ef_rm3_1 m a ca) κ) k0
  refine Gl.st (g' := (mkF m 1 #[vR a, vR ca, vI (0 : Int32), vI (1 : Int32), .val .null, .unset] [(.ref a)])) (fun τ κ => XS.aloadN X0.here hx rfl (hb hby d3_0) rfl rfl κ) ?_
  obtain ⟨T183, X183, e183, st183⟩ := initO X0 hx hZ hown (w17_ hw) (w18_ hw) (w19_ hw) e0 (g := (mkF m 1 #[vR a, vR ca, vI (0 : Int32), vI (1 : Int32), .val .null, .unset] [(.ref a)])) rfl (by rw [hml]; rfl) rfl (hb hby d3_1) (by decide) (W := 0) (by show 2 * 0 + _ ≤ _; exact Nat.le_of_eq rfl) (by decide)
  refine Gl.st (g' := (mkF m 4 #[vR a, vR ca, vI (0 : Int32), vI (1 : Int32), .val .null, .unset] [])) (fun τ κ => st183 _ κ) ?_
  refine Gl.st (g' := (mkF m 5 #[vR a, vR ca, vI (0 : Int32), vI (1 : Int32), .val .null, .unset] [(.int (1 : Int32))])) (fun τ κ => XS.iloadN X183.here hx rfl (hb hby d3_4) rfl κ) ?_
  have hc184 : ¬ ((1 : Int32) = (0 : Int32)) := by decide
  refine Gl.st (g' := (mkF m 27 #[vR a, vR ca, vI (0 : Int32), vI (1 : Int32), .val .null, .unset] [])) (fun τ κ => XS.ifYes X183.here hx rfl (pc0 := 5) (pc' := 27) rfl (hb hby d3_5) rfl ((if0 _ _).trans (feq hc184).2) (by decide) (by decide) κ) ?_
  obtain ⟨T185, X185, e185, st185⟩ := getS2 X183 hx hZ hown (host := "") (Or.inl (w42_ hw)) Via.refl e183 S0 (g := (mkF m 27 #[vR a, vR ca, vI (0 : Int32), vI (1 : Int32), .val .null, .unset] [])) rfl (hb hby d3_27)
  refine Gl.st (g' := (mkF m 30 #[vR a, vR ca, vI (0 : Int32), vI (1 : Int32), .val .null, .unset] [(.int cs)])) (fun τ κ => st185 _ κ) ?_
  have hc186 : ¬ (cs = (0 : Int32)) := hcs
  refine Gl.st (g' := (mkF m 34 #[vR a, vR ca, vI (0 : Int32), vI (1 : Int32), .val .null, .unset] [(.ref ca)])) (fun τ κ => XS.ifNo X185.here hx rfl (hb hby d3_30) rfl ((if0 _ _).trans (feq hc186).1) (XS.aloadN X185.here hx rfl (hb hby d3_33) rfl rfl κ)) ?_
  refine Gl.st (g' := (mkF m 36 #[vR a, vR ca, vI (0 : Int32), vI (1 : Int32), .val .null, .unset] [(.int (1 : Int32)), (.int (0 : Int32)), (.ref ca)])) (fun τ κ => XS.iloadN X185.here hx rfl (hb hby d3_34) rfl (XS.iloadN X185.here hx rfl (hb hby d3_35) rfl κ)) ?_
  obtain ⟨rv187, _, ⟨T187, L187, k187, n187⟩, -, X187, ⟨Lc187, hQ187, l187, y187, z187⟩, st187⟩ := Jvm.LawKit.callS X185 hx (y := (⟨"java/lang/StringUTF16", "compress", "([CII)[B"⟩ : MethodName)) hown (mvT hZ (w43_ hw)) (mvT hZ (w44_ hw)) (mvT hZ (w45_ hw)) (mvT hZ (w46_ hw)) (by decide) (backOf (W := 0) (rm8_1 l Z a0 hw [] ca kc c0 h0 n0 Z0 SA SH SL V0 hc0) hZ (w46_ hw) (w45_ hw) (by decide) (by decide)) (g := (mkF m 36 #[vR a, vR ca, vI (0 : Int32), vI (1 : Int32), .val .null, .unset] [(.int (1 : Int32)), (.int (0 : Int32)), (.ref ca)])) rfl (by rw [hml]; rfl) (argsL := [(.ref ca), (.int (0 : Int32)), (.int (1 : Int32))]) (rest := []) (lenOf pd_13 rfl) rfl (by show 2 * 0 + _ ≤ _; exact Nat.le_of_eq rfl) (hb hby d3_36) (fun _ _ => ⟨rfl, e185, (by decide : 0 + 2 ≤ _), (by decide : 0 + 3 ≤ _)⟩)
  dsimp only [Pt.U, Pt.locs, Pt.cells, Pt.slots] at X187 l187 y187 z187 st187 hQ187
  subst l187 y187 z187
  obtain ⟨b187, kk187, z, vs, rfl, N187q, Kc187, s187, V187, hb⟩ := hQ187
  have ne_ca_b187 : ca ≠ b187 := Nat.ne_of_lt (Nat.lt_of_lt_of_le V0.lt s187)
  have ne_a_b187 : a ≠ b187 := Nat.ne_of_lt (Nat.lt_of_lt_of_le E0.lt s187)
  have g_b187 : n0 ≤ b187 := Nat.le_trans Z0 s187
  have sz_b187 : h0.size ≤ b187 := Nat.le_trans (Keep.refl h0 [a]).1 s187
  have S_188 := Sta.keepX SA Kc187 all0
  have S_189 := Sta.keepX SH Kc187 all0
  have S_190 := Sta.keepX SL Kc187 all0
  have S_191 := Sta.keepX S0 Kc187 all0
  have V_192 := V0.keep Kc187 nin0
  have E_193 := E0.keep Kc187
  have F_194 := FV.keep Kc187 nin0
  have F_195 := FC.keep Kc187 nin0
  have N187 := Fr.app N0 N187q
  have Z187 : n0 ≤ T187.heap.size := Nat.le_trans Z0 Kc187.1
  have K187 : Keep h0 T187.heap [a] := (Keep.refl h0 [a]).trans Kc187 all0
  refine Gl.st (g' := (mkF m 39 #[vR a, vR ca, vI (0 : Int32), vI (1 : Int32), .val .null, .unset] [(.ref b187)])) (fun τ κ => st187 _ κ) ?_
  rcases hb with ⟨hz, hv⟩ | ⟨hz, hv⟩
  · -- coder 0
    obtain rfl : z = (1 : Int32) := hz
    refine Gl.st (g' := (mkF m 42 #[vR a, vR ca, vI (0 : Int32), vI (1 : Int32), .val .null, vR b187] [(.ref a)])) (fun τ κ => XS.astore X187.here hx rfl (hb hby d3_39) rfl rfl (l' := #[vR a, vR ca, vI (0 : Int32), vI (1 : Int32), .val .null, vR b187]) rfl (XS.aloadN X187.here hx rfl (hb hby d3_41) rfl rfl κ)) ?_
    refine Gl.st (g' := (mkF m 45 #[vR a, vR ca, vI (0 : Int32), vI (1 : Int32), .val .null, vR b187] [(.int (1 : Int32)), (.ref b187), (.ref a)])) (fun τ κ => XS.aload X187.here hx rfl (hb hby d3_42) rfl rfl (XS.iloadN X187.here hx rfl (hb hby d3_44) rfl κ)) ?_
    obtain ⟨rv196, _, ⟨T196, L196, k196, n196⟩, -, X196, ⟨Lc196, hQ196, l196, y196, z196⟩, st196⟩ := Jvm.LawKit.callS X187 hx (y := (⟨"java/lang/StringUTF16", "coderFromArrayLen", "([BI)B"⟩ : MethodName)) hown (mvT hZ (w50_ hw)) (mvT hZ (w51_ hw)) (mvT hZ (w45_ hw)) (mvT hZ (w52_ hw)) (by decide) (backOf (W := 1) (rm10_1_0 l Z a0 hw [] b187 kk187 vs T187.heap n0 Z187 V187) hZ (w52_ hw) (w45_ hw) (by decide) (by decide)) (g := (mkF m 45 #[vR a, vR ca, vI (0 : Int32), vI (1 : Int32), .val .null, vR b187] [(.int (1 : Int32)), (.ref b187), (.ref a)])) rfl (by rw [hml]; rfl) (argsL := [(.ref b187), (.int (1 : Int32))]) (rest := [(.ref a)]) (lenOf pd_14 rfl) rfl (by show 2 * 0 + _ ≤ _; exact Nat.le_of_eq rfl) (hb hby d3_45) (fun _ _ => ⟨rfl, rfl, (by decide : 2 + 0 ≤ _), (by decide : 3 + 0 ≤ _)⟩)
    dsimp only [Pt.U, Pt.locs, Pt.cells, Pt.slots] at X196 l196 y196 z196 st196 hQ196
    subst l196 y196 z196
    obtain ⟨hq196, N196q, e196⟩ := hQ196
    have hq196 : rv196 = some (.int (0 : Int32)) := hq196
    subst hq196
    have N196 := Fr.app N187 N196q
    refine Gl.st (g' := (mkF m 48 #[vR a, vR ca, vI (0 : Int32), vI (1 : Int32), .val .null, vR b187] [(.int (0 : Int32)), (.ref a)])) (fun τ κ => st196 _ κ) ?_
    obtain ⟨T197, h197, X197, e197, W197, st197⟩ := putFN X196 hx hZ hown (w27_ hw) Via.refl e196 F_195 E_193 (Or.inr ⟨(w23_ hw), rfl, hnm⟩) (w7_ hw) (ty := .byte) (v' := (.int (0 : Int32))) (by decide) rfl rfl (g := (mkF m 48 #[vR a, vR ca, vI (0 : Int32), vI (1 : Int32), .val .null, vR b187] [(.int (0 : Int32)), (.ref a)])) rfl rfl (hb hby d3_48)
    have S_198 := S_188.wr W197
    have S_199 := S_189.wr W197
    have S_200 := S_190.wr W197
    have S_201 := S_191.wr W197
    have V_202 := V_192.other W197 (Ne.symm hac)
    have E_203 := E_193.wr W197
    have F_204 := F_194.other W197 (Or.inr (slot_ne (Or.inr (w22_ hw)) (Or.inr (w23_ hw)) (by decide) (t := (.array .byte)) (t' := .byte) (by decide) (by decide)))
    have V_206 := V187.other W197 (Ne.symm ne_a_b187)
    have N197 := Fr.snoc X197 N196 g0
    have Z197 : n0 ≤ h197.size := Nat.le_trans Z187 (Nat.le_of_eq W197.size.symm)
    have K197 : Keep h0 h197 [a] := K187.wr W197 (Or.inl (List.mem_of_getElem? (i := 0) rfl))
    have F_207 := F_195.same W197
    refine Gl.st (g' := (mkF m 51 #[vR a, vR ca, vI (0 : Int32), vI (1 : Int32), .val .null, vR b187] [])) (fun τ κ => st197 _ κ) ?_
    refine Gl.st (g' := (mkF m 54 #[vR a, vR ca, vI (0 : Int32), vI (1 : Int32), .val .null, vR b187] [(.ref b187), (.ref a)])) (fun τ κ => XS.aloadN X197.here hx rfl (hb hby d3_51) rfl rfl (XS.aload X197.here hx rfl (hb hby d3_52) rfl rfl κ)) ?_
    obtain ⟨T208, h208, X208, e208, W208, st208⟩ := putF X197 hx hZ hown (host := "") (Or.inl (w26_ hw)) Via.refl e197 F_204 E_203 (Or.inr ⟨(w22_ hw), rfl, hnm⟩) (w7_ hw) (ty := (.array .byte)) (by decide) rfl rfl (g := (mkF m 54 #[vR a, vR ca, vI (0 : Int32), vI (1 : Int32), .val .null, vR b187] [(.ref b187), (.ref a)])) rfl rfl (hb hby d3_54)
    have S_209 := S_198.wr W208
    have S_210 := S_199.wr W208
    have S_211 := S_200.wr W208
    have S_212 := S_201.wr W208
    have V_213 := V_202.other W208 (Ne.symm hac)
    have E_214 := E_203.wr W208
    have F_216 := F_207.other W208 (Or.inr (slot_ne (Or.inr (w23_ hw)) (Or.inr (w22_ hw)) (by decide) (t := .byte) (t' := (.array .byte)) (by decide) (by decide)))
    have V_217 := V_206.other W208 (Ne.symm ne_a_b187)
    have N208 := Fr.snoc X208 N197 g0
    have Z208 : n0 ≤ h208.size := Nat.le_trans Z197 (Nat.le_of_eq W208.size.symm)
    have K208 : Keep h0 h208 [a] := K197.wr W208 (Or.inl (List.mem_of_getElem? (i := 0) rfl))
    have F_218 := F_204.same W208
    refine Gl.st (g' := (mkF m 57 #[vR a, vR ca, vI (0 : Int32), vI (1 : Int32), .val .null, vR b187] [])) (fun τ κ => st208 _ κ) ?_
    exact Gl.ret (v := none) X208 Bd.notSynchronized (fun _ => rfl) e208 (fun fs hr => X208.returnOut hx Bd.returns (hb hby d3_57) hr) (by decide) (by decide) ⟨rfl, N208, K208, E_214, by unfold own_small; decide, (fun i hi => match i, hi with | 0, _ => hc0 | (i + 1), hi => absurd hi (Nat.not_lt.mpr (Nat.le_add_left 1 _))), b187, kk187, _, _, F_218, V_217, Or.inl ⟨F_216, rfl, hv⟩⟩
  · -- coder 1
    obtain rfl : z = (2 : Int32) := hz.trans (by decide)
    refine Gl.st (g' := (mkF m 42 #[vR a, vR ca, vI (0 : Int32), vI (1 : Int32), .val .null, vR b187] [(.ref a)])) (fun τ κ => XS.astore X187.here hx rfl (hb hby d3_39) rfl rfl (l' := #[vR a, vR ca, vI (0 : Int32), vI (1 : Int32), .val .null, vR b187]) rfl (XS.aloadN X187.here hx rfl (hb hby d3_41) rfl rfl κ)) ?_
    refine Gl.st (g' := (mkF m 45 #[vR a, vR ca, vI (0 : Int32), vI (1 : Int32), .val .null, vR b187] [(.int (1 : Int32)), (.ref b187), (.ref a)])) (fun τ κ => XS.aload X187.here hx rfl (hb hby d3_42) rfl rfl (XS.iloadN X187.here hx rfl (hb hby d3_44) rfl κ)) ?_
    obtain ⟨rv219, _, ⟨T219, L219, k219, n219⟩, -, X219, ⟨Lc219, hQ219, l219, y219, z219⟩, st219⟩ := Jvm.LawKit.callS X187 hx (y := (⟨"java/lang/StringUTF16", "coderFromArrayLen", "([BI)B"⟩ : MethodName)) hown (mvT hZ (w50_ hw)) (mvT hZ (w51_ hw)) (mvT hZ (w45_ hw)) (mvT hZ (w52_ hw)) (by decide) (backOf (W := 1) (rm10_1_1 l Z a0 hw [] b187 kk187 vs T187.heap n0 Z187 V187) hZ (w52_ hw) (w45_ hw) (by decide) (by decide)) (g := (mkF m 45 #[vR a, vR ca, vI (0 : Int32), vI (1 : Int32), .val .null, vR b187] [(.int (1 : Int32)), (.ref b187), (.ref a)])) rfl (by rw [hml]; rfl) (argsL := [(.ref b187), (.int (1 : Int32))]) (rest := [(.ref a)]) (lenOf pd_14 rfl) rfl (by show 2 * 0 + _ ≤ _; exact Nat.le_of_eq rfl) (hb hby d3_45) (fun _ _ => ⟨rfl, rfl, (by decide : 2 + 0 ≤ _), (by decide : 3 + 0 ≤ _)⟩)
    dsimp only [Pt.U, Pt.locs, Pt.cells, Pt.slots] at X219 l219 y219 z219 st219 hQ219
    subst l219 y219 z219
    obtain ⟨hq219, N219q, e219⟩ := hQ219
    have hq219 : rv219 = some (.int (1 : Int32)) := hq219
    subst hq219
    have N219 := Fr.app N187 N219q
    refine Gl.st (g' := (mkF m 48 #[vR a, vR ca, vI (0 : Int32), vI (1 : Int32), .val .null, vR b187] [(.int (1 : Int32)), (.ref a)])) (fun τ κ => st219 _ κ) ?_
    obtain ⟨T220, h220, X220, e220, W220, st220⟩ := putFN X219 hx hZ hown (w27_ hw) Via.refl e219 F_195 E_193 (Or.inr ⟨(w23_ hw), rfl, hnm⟩) (w7_ hw) (ty := .byte) (v' := (.int (1 : Int32))) (by decide) rfl rfl (g := (mkF m 48 #[vR a, vR ca, vI (0 : Int32), vI (1 : Int32), .val .null, vR b187] [(.int (1 : Int32)), (.ref a)])) rfl rfl (hb hby d3_48)
    have S_221 := S_188.wr W220
    have S_222 := S_189.wr W220
    have S_223 := S_190.wr W220
    have S_224 := S_191.wr W220
    have V_225 := V_192.other W220 (Ne.symm hac)
    have E_226 := E_193.wr W220
    have F_227 := F_194.other W220 (Or.inr (slot_ne (Or.inr (w22_ hw)) (Or.inr (w23_ hw)) (by decide) (t := (.array .byte)) (t' := .byte) (by decide) (by decide)))
    have V_229 := V187.other W220 (Ne.symm ne_a_b187)
    have N220 := Fr.snoc X220 N219 g0
    have Z220 : n0 ≤ h220.size := Nat.le_trans Z187 (Nat.le_of_eq W220.size.symm)
    have K220 : Keep h0 h220 [a] := K187.wr W220 (Or.inl (List.mem_of_getElem? (i := 0) rfl))
    have F_230 := F_195.same W220
    refine Gl.st (g' := (mkF m 51 #[vR a, vR ca, vI (0 : Int32), vI (1 : Int32), .val .null, vR b187] [])) (fun τ κ => st220 _ κ) ?_
    refine Gl.st (g' := (mkF m 54 #[vR a, vR ca, vI (0 : Int32), vI (1 : Int32), .val .null, vR b187] [(.ref b187), (.ref a)])) (fun τ κ => XS.aloadN X220.here hx rfl (hb hby d3_51) rfl rfl (XS.aload X220.here hx rfl (hb hby d3_52) rfl rfl κ)) ?_
    obtain ⟨T231, h231, X231, e231, W231, st231⟩ := putF X220 hx hZ hown (host := "") (Or.inl (w26_ hw)) Via.refl e220 F_227 E_226 (Or.inr ⟨(w22_ hw), rfl, hnm⟩) (w7_ hw) (ty := (.array .byte)) (by decide) rfl rfl (g := (mkF m 54 #[vR a, vR ca, vI (0 : Int32), vI (1 : Int32), .val .null, vR b187] [(.ref b187), (.ref a)])) rfl rfl (hb hby d3_54)
    have S_232 := S_221.wr W231
    have S_233 := S_222.wr W231
    have S_234 := S_223.wr W231
    have S_235 := S_224.wr W231
    have V_236 := V_225.other W231 (Ne.symm hac)
    have E_237 := E_226.wr W231
    have F_239 := F_230.other W231 (Or.inr (slot_ne (Or.inr (w23_ hw)) (Or.inr (w22_ hw)) (by decide) (t := .byte) (t' := (.array .byte)) (by decide) (by decide)))
    have V_240 := V_229.other W231 (Ne.symm ne_a_b187)
    have N231 := Fr.snoc X231 N220 g0
    have Z231 : n0 ≤ h231.size := Nat.le_trans Z220 (Nat.le_of_eq W231.size.symm)
    have K231 : Keep h0 h231 [a] := K220.wr W231 (Or.inl (List.mem_of_getElem? (i := 0) rfl))
    have F_241 := F_227.same W231
    refine Gl.st (g' := (mkF m 57 #[vR a, vR ca, vI (0 : Int32), vI (1 : Int32), .val .null, vR b187] [])) (fun τ κ => st231 _ κ) ?_
    exact Gl.ret (v := none) X231 Bd.notSynchronized (fun _ => rfl) e231 (fun fs hr => X231.returnOut hx Bd.returns (hb hby d3_57) hr) (by decide) (by decide) ⟨rfl, N231, K231, E_237, by unfold own_small; decide, (fun i hi => match i, hi with | 0, _ => hc0 | (i + 1), hi => absurd hi (Nat.not_lt.mpr (Nat.le_add_left 1 _))), b187, kk187, _, _, F_241, V_240, Or.inr ⟨F_239, by decide, hv⟩⟩
theorem d2_0 : decode jdk_42_method_3_code 0 = .ok (.aload_n 0, 1) := by decide +kernel
theorem d2_1 : decode jdk_42_method_3_code 1 = .ok (.aload_n 1, 1) := by decide +kernel
theorem d2_2 : decode jdk_42_method_3_code 2 = .ok (.iconst 0, 1) := by decide +kernel
theorem d2_3 : decode jdk_42_method_3_code 3 = .ok (.aload_n 1, 1) := by decide +kernel
theorem d2_4 : decode jdk_42_method_3_code 4 = .ok (.arraylength, 1) := by decide +kernel
theorem d2_5 : decode jdk_42_method_3_code 5 = .ok (.aconst_null, 1) := by decide +kernel
theorem d2_6 : decode jdk_42_method_3_code 6 = .ok (.invokespecial 27, 3) := by decide +kernel
theorem pd_15 : parseMethodDescriptor "([CIILjava/lang/Void;)V" = some ⟨[(.array .char), .int, .int, (.object "java/lang/Void")], none⟩ := by decide +kernel
theorem d2_9 : decode jdk_42_method_3_code 9 = .ok (.return_, 1) := by decide +kernel
theorem ef_rm2_1 (m : MethodId) (a : Addr) (ca : Addr) : entryFrame m #[(.ref a), (.ref ca)] 2 = mkF m 0 #[vR a, vR ca] [] := by first | (simp [entryFrame, mkF, argsToLocals, Value.category]; done) | rfl
def Q_rm2_1 (Z : State) (a : Addr) (ca : Addr) (kc : ClassId) (cs : Int32) (c0 : Int32) (h0 : Heap) (n0 : Nat) (v : Option Value) (h : Heap) (L : List Loc) : Prop := v = none ∧ Fr n0 L ∧ Keep h0 h [a] ∧ own_str Z h a (1 : Int32) [c0]
set_option maxRecDepth 65536 in
set_option maxHeartbeats 40000000 in
theorem rm2_1 (l : Launch) (Z : State) (a0 : Array Value) (hw : ∀ d ∈ tables_1, d.before a0 Z = true) (ws : List Jvm.Cond) (a : Addr) (ca : Addr) (kc : ClassId) (cs : Int32) (c0 : Int32) (h0 : Heap) (n0 : Nat) (Z0 : n0 ≤ h0.size) (E0 : Exa Z h0 a "java/lang/String") (g0 : n0 ≤ a) (FV : Fld Z h0 a "java/lang/String" "value" "[B" .null) (FC : Fld Z h0 a "java/lang/String" "coder" "B" (.int (0 : Int32))) (hac : a ≠ ca) (S0 : Sta Z h0 "java/lang/String" "COMPACT_STRINGS" "Z" (.int cs)) (hcs : ¬ cs = (0 : Int32)) (SA : Sta Z h0 "java/lang/StringUTF16" "$assertionsDisabled" "Z" (.int (1 : Int32))) (SH : Sta Z h0 "java/lang/StringUTF16" "HI_BYTE_SHIFT" "I" (.int (0 : Int32))) (SL : Sta Z h0 "java/lang/StringUTF16" "LO_BYTE_SHIFT" "I" (.int (8 : Int32))) (V0 : Arv Z h0 ca kc .char (1 : Int32) [(.int c0)] (.int (0 : Int32))) (hc0 : own_ch c0) :
    MetFree l (⟨"java/lang/String", "<init>", "([C)V"⟩ : MethodName) (head1 (Jvm.Cond.code (⟨"java/lang/String", "<init>", "([C)V"⟩ : MethodName) jdk_42_method_3_code 2 none :: ws) ({ frames := 5, cells := 2, slots := 3, locals := 74 } : Room)) (fun aα Uα => aα = #[(.ref a), (.ref ca)] ∧ Z.Warmed39 Uα.vm ∧ Uα.heap = h0) (fun _ _ _ _ _ => True) (fun _ Uα oα Uβ => ∃ vα Lα, oα = .returned vα ∧ Q_rm2_1 Z a ca kc cs c0 h0 n0 vα Uβ.heap Lα ∧ FrameEnd Uα oα Uβ Lα ({ frames := 5, cells := 2, slots := 3, locals := 74 } : Room).cells ({ frames := 5, cells := 2, slots := 3, locals := 74 } : Room).slots) := by
  refine MetFree.of_bodySF (plainFor_of_name pn_java_lang_String) hisR ?_
  intro p e s m args below meth c s₁ Bd hml0 hP hKα
  obtain ⟨rfl, hZ, hh⟩ := hP
  have hx := Bd.exec
  have hby := Bd.bytes
  have hml : c.maxLocals = 2 := hml0
  have hown : s.vm.findClass "java/lang/String" = some m.cls := findClass_of_methodNamed Bd.named
  have hnm := (name_of_methodNamed Bd.named Bd.method).1
  have X0 : Stand p l e ({ frames := 5, cells := 2, slots := 3, locals := 74 } : Room) s m #[(.ref a), (.ref ca)] below meth c s₁ [] 0 0 := Stand.of_body Bd
  have e0 : s₁.heap = h0 := by rw [← hh, Bd.state]; rfl
  have N0 := Fr.nil n0
  suffices k0 : Gl p e below s (Q_rm2_1 Z a ca kc cs c0 h0 n0) ({ frames := 5, cells := 2, slots := 3, locals := 74 } : Room).cells ({ frames := 5, cells := 2, slots := 3, locals := 74 } : Room).slots s₁ (mkF m 0 #[vR a, vR ca] []) from Gl.st (fun τ κ => castTop (ef_rm2_1 m a ca) κ) k0
  refine Gl.st (g' := (mkF m 2 #[vR a, vR ca] [(.ref ca), (.ref a)])) (fun τ κ => XS.aloadN X0.here hx rfl (hb hby d2_0) rfl rfl (XS.aloadN X0.here hx rfl (hb hby d2_1) rfl rfl κ)) ?_
  refine Gl.st (g' := (mkF m 4 #[vR a, vR ca] [(.ref ca), (.int (0 : Int32)), (.ref ca), (.ref a)])) (fun τ κ => XS.iconst X0.here hx rfl (hb hby d2_2) (XS.aloadN X0.here hx rfl (hb hby d2_3) rfl rfl κ)) ?_
  obtain ⟨cl_o242, Ar_o242, q_o242, S_o242, M_o242, H_o242, G_o242⟩ := id V0
  refine Gl.st (g' := (mkF m 5 #[vR a, vR ca] [(.int (1 : Int32)), (.int (0 : Int32)), (.ref ca), (.ref a)])) (fun τ κ => X0.arraylength hx (by rw [e0]; exact Ar_o242.1) (State.isArrayOf_alike hZ.alike Ar_o242.2.1) (g := (mkF m 4 #[vR a, vR ca] [(.ref ca), (.int (0 : Int32)), (.ref ca), (.ref a)])) rfl rfl (hb hby d2_4) _ (by rw [len_of S_o242 M_o242]; exact κ)) ?_
  refine Gl.st (g' := (mkF m 6 #[vR a, vR ca] [.null, (.int (1 : Int32)), (.int (0 : Int32)), (.ref ca), (.ref a)])) (fun τ κ => XS.aconstNull X0.here hx rfl (hb hby d2_5) κ) ?_
  obtain ⟨rv243, _, ⟨T243, L243, k243, n243⟩, -, X243, ⟨Lc243, hQ243, l243, y243, z243⟩, st243⟩ := X0.specialBack hx (y := (⟨"java/lang/String", "<init>", "([CIILjava/lang/Void;)V"⟩ : MethodName)) rfl hown (mvT hZ (w13_ hw)) (mvT hZ (w14_ hw)) (mvT hZ (w16_ hw)) (by decide) (backOf (W := 0) (rm3_1 l Z a0 hw [] a ca kc cs c0 h0 n0 Z0 E0 g0 FV FC hac S0 hcs SA SH SL V0 hc0) hZ (w16_ hw) (w8_ hw) (by decide) (by decide)) (g := (mkF m 6 #[vR a, vR ca] [.null, (.int (1 : Int32)), (.int (0 : Int32)), (.ref ca), (.ref a)])) rfl (by rw [hml]; rfl) (Steps.refl _) (a := a) (argsL := [(.ref ca), (.int (0 : Int32)), (.int (1 : Int32)), .null]) (rest := []) (lenOf pd_15 rfl) rfl (by show 2 * 0 + _ ≤ _; exact Nat.le_of_eq rfl) (hb hby d2_6) (fun _ _ => ⟨rfl, e0, (by decide : 0 + 2 ≤ _), (by decide : 0 + 3 ≤ _)⟩)
  dsimp only [Pt.U, Pt.locs, Pt.cells, Pt.slots] at X243 l243 y243 z243 st243 hQ243
  subst l243 y243 z243
  obtain ⟨rfl, N243q, Kc243, HS243⟩ := hQ243
  have S_244 := Sta.keepX SA Kc243 (allS (P := fun x => ∃ c : Cell, h0[x]? = some c ∧ ∀ q, c.vm ≠ .statics q) E0.cell all0)
  have S_245 := Sta.keepX SH Kc243 (allS (P := fun x => ∃ c : Cell, h0[x]? = some c ∧ ∀ q, c.vm ≠ .statics q) E0.cell all0)
  have S_246 := Sta.keepX SL Kc243 (allS (P := fun x => ∃ c : Cell, h0[x]? = some c ∧ ∀ q, c.vm ≠ .statics q) E0.cell all0)
  have S_247 := Sta.keepX S0 Kc243 (allS (P := fun x => ∃ c : Cell, h0[x]? = some c ∧ ∀ q, c.vm ≠ .statics q) E0.cell all0)
  have E_248 := E0.keep Kc243
  have N243 := Fr.app N0 N243q
  have Z243 : n0 ≤ T243.heap.size := Nat.le_trans Z0 Kc243.1
  have K243 : Keep h0 T243.heap [a] := (Keep.refl h0 [a]).trans Kc243 (allS (Or.inl (List.mem_of_getElem? (i := 0) rfl)) all0)
  refine Gl.st (g' := (mkF m 9 #[vR a, vR ca] [])) (fun τ κ => st243.trans κ) ?_
  exact Gl.ret (v := none) X243 Bd.notSynchronized (fun _ => rfl) rfl (fun fs hr => X243.returnOut hx Bd.returns (hb hby d2_9) hr) (by decide) (by decide) ⟨rfl, N243, K243, HS243⟩
theorem d1_0 : decode method_4_code 0 = .ok (.iload_n 0, 1) := by decide +kernel
theorem d1_1 : decode method_4_code 1 = .ok (.ifCond .ne 14, 3) := by decide +kernel
theorem d1_15 : decode method_4_code 15 = .ok (.iload_n 0, 1) := by decide +kernel
theorem d1_16 : decode method_4_code 16 = .ok (.iconst 1, 1) := by decide +kernel
theorem d1_17 : decode method_4_code 17 = .ok (.if_icmp .ne 18, 3) := by decide +kernel
theorem d1_20 : decode method_4_code 20 = .ok (.new 25, 3) := by decide +kernel
theorem d1_23 : decode method_4_code 23 = .ok (.dup, 1) := by decide +kernel
theorem d1_24 : decode method_4_code 24 = .ok (.iconst 1, 1) := by decide +kernel
theorem d1_25 : decode method_4_code 25 = .ok (.newarray .char, 2) := by decide +kernel
theorem d1_27 : decode method_4_code 27 = .ok (.dup, 1) := by decide +kernel
theorem d1_28 : decode method_4_code 28 = .ok (.iconst 0, 1) := by decide +kernel
theorem d1_29 : decode method_4_code 29 = .ok (.iload_n 1, 1) := by decide +kernel
theorem d1_30 : decode method_4_code 30 = .ok (.castore, 1) := by decide +kernel
theorem d1_31 : decode method_4_code 31 = .ok (.invokespecial 27, 3) := by decide +kernel
theorem pd_16 : parseMethodDescriptor "([C)V" = some ⟨[(.array .char)], none⟩ := by decide +kernel
theorem d1_34 : decode method_4_code 34 = .ok (.areturn, 1) := by decide +kernel
theorem ef_rm1_1 (m : MethodId) (c0 : Int32) (c1 : Int32) (c2 : Int32) (c3 : Int32) : entryFrame m #[(.int (1 : Int32)), (.int c0), (.int c1), (.int c2), (.int c3)] 5 = mkF m 0 #[vI (1 : Int32), vI c0, vI c1, vI c2, vI c3] [] := by first | (simp [entryFrame, mkF, argsToLocals, Value.category]; done) | rfl
def Q_rm1_1 (Z : State) (c0 : Int32) (c1 : Int32) (c2 : Int32) (c3 : Int32) (cs : Int32) (h0 : Heap) (n0 : Nat) (v : Option Value) (h : Heap) (L : List Loc) : Prop := ∃ b, v = some (.ref b) ∧ Fr n0 L ∧ Keep h0 h [] ∧ own_str Z h b (1 : Int32) [c0]
set_option maxRecDepth 65536 in
set_option maxHeartbeats 40000000 in
theorem rm1_1 (l : Launch) (Z : State) (a0 : Array Value) (hw : ∀ d ∈ tables_1, d.before a0 Z = true) (ws : List Jvm.Cond) (c0 : Int32) (c1 : Int32) (c2 : Int32) (c3 : Int32) (cs : Int32) (h0 : Heap) (n0 : Nat) (Z0 : n0 ≤ h0.size) (S0 : Sta Z h0 "java/lang/String" "COMPACT_STRINGS" "Z" (.int cs)) (hcs : ¬ cs = (0 : Int32)) (SA : Sta Z h0 "java/lang/StringUTF16" "$assertionsDisabled" "Z" (.int (1 : Int32))) (SH : Sta Z h0 "java/lang/StringUTF16" "HI_BYTE_SHIFT" "I" (.int (0 : Int32))) (SL : Sta Z h0 "java/lang/StringUTF16" "LO_BYTE_SHIFT" "I" (.int (8 : Int32))) (hc0 : own_ch c0) (hc1 : own_ch c1) (hc2 : own_ch c2) (hc3 : own_ch c3) :
    MetFree l (⟨"com/example/sealgrant/sealgrant/AsciiPrintablePinLaw", "make", "(ICCCC)Ljava/lang/String;"⟩ : MethodName) (head1 (Jvm.Cond.code (⟨"com/example/sealgrant/sealgrant/AsciiPrintablePinLaw", "make", "(ICCCC)Ljava/lang/String;"⟩ : MethodName) method_4_code 5 (some (.object "java/lang/String")) :: ws) ({ frames := 6, cells := 4, slots := 8, locals := 88 } : Room)) (fun aα Uα => aα = #[(.int (1 : Int32)), (.int c0), (.int c1), (.int c2), (.int c3)] ∧ Z.Warmed39 Uα.vm ∧ Uα.heap = h0) (fun _ _ _ _ _ => True) (fun _ Uα oα Uβ => ∃ vα Lα, oα = .returned vα ∧ Q_rm1_1 Z c0 c1 c2 c3 cs h0 n0 vα Uβ.heap Lα ∧ FrameEnd Uα oα Uβ Lα ({ frames := 6, cells := 4, slots := 8, locals := 88 } : Room).cells ({ frames := 6, cells := 4, slots := 8, locals := 88 } : Room).slots) := by
  refine MetFree.of_bodySF (plainFor_of_name pn_com_example_sealgrant_sealgrant_AsciiPrintablePinLaw) hisR ?_
  intro p e s m args below meth c s₁ Bd hml0 hP hKα
  obtain ⟨rfl, hZ, hh⟩ := hP
  have hx := Bd.exec
  have hby := Bd.bytes
  have hml : c.maxLocals = 5 := hml0
  have hown : s.vm.findClass "com/example/sealgrant/sealgrant/AsciiPrintablePinLaw" = some m.cls := findClass_of_methodNamed Bd.named
  have hnm := (name_of_methodNamed Bd.named Bd.method).1
  have X0 : Stand p l e ({ frames := 6, cells := 4, slots := 8, locals := 88 } : Room) s m #[(.int (1 : Int32)), (.int c0), (.int c1), (.int c2), (.int c3)] below meth c s₁ [] 0 0 := Stand.of_body Bd
  have e0 : s₁.heap = h0 := by rw [← hh, Bd.state]; rfl
  have N0 := Fr.nil n0
  suffices k0 : Gl p e below s (Q_rm1_1 Z c0 c1 c2 c3 cs h0 n0) ({ frames := 6, cells := 4, slots := 8, locals := 88 } : Room).cells ({ frames := 6, cells := 4, slots := 8, locals := 88 } : Room).slots s₁ (mkF m 0 #[vI (1 : Int32), vI c0, vI c1, vI c2, vI c3] []) from Gl.st (fun τ κ => castTop (ef_rm1_1 m c0 c1 c2 c3) κ) k0
  refine Gl.st (g' := (mkF m 1 #[vI (1 : Int32), vI c0, vI c1, vI c2, vI c3] [(.int (1 : Int32))])) (fun τ κ => XS.iloadN X0.here hx rfl (hb hby d1_0) rfl κ) ?_
  have hc251 : ¬ ((1 : Int32) = (0 : Int32)) := by decide
  refine Gl.st (g' := (mkF m 16 #[vI (1 : Int32), vI c0, vI c1, vI c2, vI c3] [(.int (1 : Int32))])) (fun τ κ => XS.ifYes X0.here hx rfl (pc0 := 1) (pc' := 15) rfl (hb hby d1_1) rfl ((if0 _ _).trans (feq hc251).2) (by decide) (by decide) (XS.iloadN X0.here hx rfl (hb hby d1_15) rfl κ)) ?_
  refine Gl.st (g' := (mkF m 17 #[vI (1 : Int32), vI c0, vI c1, vI c2, vI c3] [(.int (1 : Int32)), (.int (1 : Int32))])) (fun τ κ => XS.iconst X0.here hx rfl (hb hby d1_16) κ) ?_
  have hc252 : (1 : Int32) = (1 : Int32) := by decide
  refine Gl.st (g' := (mkF m 20 #[vI (1 : Int32), vI c0, vI c1, vI c2, vI c3] [])) (fun τ κ => XS.icmpNo X0.here hx rfl (hb hby d1_17) rfl (teq hc252).2 κ) ?_
  obtain ⟨T253, h253, X253, e253, E253, A253, D253, -, st253⟩ := newO X0 hx hZ hown (w6_ hw) (w7_ hw) (w8_ hw) e0 (g := (mkF m 20 #[vI (1 : Int32), vI c0, vI c1, vI c2, vI c3] [])) rfl (hb hby d1_20) (by decide) (by decide)
  obtain ⟨b253, g253⟩ : ∃ z, z = h0.size := ⟨_, rfl⟩
  rw [← g253] at A253 D253 st253
  have S_254 := SA.ext E253
  have S_255 := SH.ext E253
  have S_256 := SL.ext E253
  have S_257 := S0.ext E253
  have g_b253 : n0 ≤ b253 := Nat.le_trans Z0 (Nat.le_of_eq g253.symm)
  have sz_b253 : h0.size ≤ b253 := Nat.le_trans (Keep.refl h0 []).1 (Nat.le_of_eq g253.symm)
  have Z253 : n0 ≤ h253.size := Nat.le_trans Z0 E253.1
  have K253 : Keep h0 h253 [] := (Keep.refl h0 []).ext E253
  have F_258 : Fld Z h253 b253 "java/lang/String" "value" "[B" .null := D253 (Or.inr (w22_ hw)) (ty := (.array .byte)) (by decide)
  have F_259 : Fld Z h253 b253 "java/lang/String" "coder" "B" (.int (0 : Int32)) := D253 (Or.inr (w23_ hw)) (ty := .byte) (by decide)
  refine Gl.st (g' := (mkF m 23 #[vI (1 : Int32), vI c0, vI c1, vI c2, vI c3] [(.ref b253)])) (fun τ κ => st253 _ κ) ?_
  refine Gl.st (g' := (mkF m 25 #[vI (1 : Int32), vI c0, vI c1, vI c2, vI c3] [(.int (1 : Int32)), (.ref b253), (.ref b253)])) (fun τ κ => XS.dup X253.here hx rfl (hb hby d1_23) rfl rfl (XS.iconst X253.here hx rfl (hb hby d1_24) κ)) ?_
  obtain ⟨T260, h260, k260, X260, e260, E260, A260, st260⟩ := newP X253 hx hZ (hw _ (List.mem_of_getElem? (i := 9) rfl)) e253 (g := (mkF m 25 #[vI (1 : Int32), vI c0, vI c1, vI c2, vI c3] [(.int (1 : Int32)), (.ref b253), (.ref b253)])) rfl (hb hby d1_25) rfl (by decide) (cap := 1) (by decide) (by decide) (by decide) (by decide)
  obtain ⟨b260, g260⟩ : ∃ z, z = h253.size := ⟨_, rfl⟩
  rw [← g260] at A260 st260
  have ne_b253_b260 : b253 ≠ b260 := Nat.ne_of_lt (Nat.lt_of_lt_of_le A253.lt (Nat.le_of_eq g260.symm))
  have S_261 := S_254.ext E260
  have S_262 := S_255.ext E260
  have S_263 := S_256.ext E260
  have S_264 := S_257.ext E260
  have E_265 := A253.ext E260
  have F_266 := F_258.ext E260
  have F_267 := F_259.ext E260
  have g_b260 : n0 ≤ b260 := Nat.le_trans Z253 (Nat.le_of_eq g260.symm)
  have sz_b260 : h0.size ≤ b260 := Nat.le_trans K253.1 (Nat.le_of_eq g260.symm)
  have Z260 : n0 ≤ h260.size := Nat.le_trans Z253 E260.1
  have K260 : Keep h0 h260 [] := K253.ext E260
  have V_b260 : Arv Z h260 b260 k260 .char (1 : Int32) [(.int (0 : Int32))] (.int (0 : Int32)) := (Arv.new A260 (by decide)).pad (pad_rep [] (.int (0 : Int32)) 1)
  refine Gl.st (g' := (mkF m 27 #[vI (1 : Int32), vI c0, vI c1, vI c2, vI c3] [(.ref b260), (.ref b253), (.ref b253)])) (fun τ κ => st260 _ κ) ?_
  refine Gl.st (g' := (mkF m 29 #[vI (1 : Int32), vI c0, vI c1, vI c2, vI c3] [(.int (0 : Int32)), (.ref b260), (.ref b260), (.ref b253), (.ref b253)])) (fun τ κ => XS.dup X260.here hx rfl (hb hby d1_27) rfl rfl (XS.iconst X260.here hx rfl (hb hby d1_28) κ)) ?_
  refine Gl.st (g' := (mkF m 30 #[vI (1 : Int32), vI c0, vI c1, vI c2, vI c3] [(.int c0), (.int (0 : Int32)), (.ref b260), (.ref b260), (.ref b253), (.ref b253)])) (fun τ κ => XS.iloadN X260.here hx rfl (hb hby d1_29) rfl κ) ?_
  obtain ⟨cl_o268, Ar_o268, q_o268, S_o268, M_o268, H_o268, G_o268⟩ := id V_b260
  have hin_o268 : ¬ ((0 : Int32) < 0 ∨ cl_o268.slots.size ≤ ((0 : Int32)).toNatClampNeg) := inb_of S_o268 ⟨by decide, by decide⟩
  obtain ⟨T269, h269, X269, e269, W269, st269⟩ := stC X260 hx hZ e260 Ar_o268 (j := (0 : Int32)) hin_o268 (g := (mkF m 30 #[vI (1 : Int32), vI c0, vI c1, vI c2, vI c3] [(.int c0), (.int (0 : Int32)), (.ref b260), (.ref b260), (.ref b253), (.ref b253)])) rfl rfl (hb hby d1_30)
  have S_270 := S_261.wr W269
  have S_271 := S_262.wr W269
  have S_272 := S_263.wr W269
  have S_273 := S_264.wr W269
  have E_274 := E_265.wr W269
  have F_275 := F_266.other W269 (Or.inl ne_b253_b260)
  have F_276 := F_267.other W269 (Or.inl ne_b253_b260)
  have N269 := Fr.snoc X269 N0 g_b260
  have Z269 : n0 ≤ h269.size := Nat.le_trans Z260 (Nat.le_of_eq W269.size.symm)
  have K269 : Keep h0 h269 [] := K260.wr W269 (Or.inr sz_b260)
  have V_b260_269 : Arv Z h269 b260 k260 .char (1 : Int32) [(.int (nar .char c0))] (.int (0 : Int32)) := Arv.set Ar_o268 q_o268 S_o268 M_o268 H_o268 G_o268 (fits_nar_char _) W269 0 rfl (Nat.le_of_ble_eq_true rfl)
  rw [own_narC hc0] at V_b260_269
  refine Gl.st (g' := (mkF m 31 #[vI (1 : Int32), vI c0, vI c1, vI c2, vI c3] [(.ref b260), (.ref b253), (.ref b253)])) (fun τ κ => st269 _ κ) ?_
  obtain ⟨rv278, _, ⟨T278, L278, k278, n278⟩, -, X278, ⟨Lc278, hQ278, l278, y278, z278⟩, st278⟩ := X269.specialBack hx (y := (⟨"java/lang/String", "<init>", "([C)V"⟩ : MethodName)) rfl hown (mvT hZ (w10_ hw)) (mvT hZ (w11_ hw)) (mvT hZ (w12_ hw)) (by decide) (backOf (W := 1) (rm2_1 l Z a0 hw [] b253 b260 k260 cs c0 h269 n0 Z269 E_274 g_b253 F_275 F_276 ne_b253_b260 S_273 hcs S_270 S_271 S_272 V_b260_269 hc0) hZ (w12_ hw) (w8_ hw) (by decide) (by decide)) (g := (mkF m 31 #[vI (1 : Int32), vI c0, vI c1, vI c2, vI c3] [(.ref b260), (.ref b253), (.ref b253)])) rfl (by rw [hml]; rfl) (Steps.refl _) (a := b253) (argsL := [(.ref b260)]) (rest := [(.ref b253)]) (lenOf pd_16 rfl) rfl (by show 2 * 0 + _ ≤ _; exact Nat.le_of_eq rfl) (hb hby d1_31) (fun _ _ => ⟨rfl, e269, (by decide : 2 + 2 ≤ _), (by decide : 5 + 3 ≤ _)⟩)
  dsimp only [Pt.U, Pt.locs, Pt.cells, Pt.slots] at X278 l278 y278 z278 st278 hQ278
  subst l278 y278 z278
  obtain ⟨rfl, N278q, Kc278, HS278⟩ := hQ278
  have S_279 := Sta.keepX S_270 Kc278 (allS (P := fun x => ∃ c : Cell, h269[x]? = some c ∧ ∀ q, c.vm ≠ .statics q) E_274.cell all0)
  have S_280 := Sta.keepX S_271 Kc278 (allS (P := fun x => ∃ c : Cell, h269[x]? = some c ∧ ∀ q, c.vm ≠ .statics q) E_274.cell all0)
  have S_281 := Sta.keepX S_272 Kc278 (allS (P := fun x => ∃ c : Cell, h269[x]? = some c ∧ ∀ q, c.vm ≠ .statics q) E_274.cell all0)
  have S_282 := Sta.keepX S_273 Kc278 (allS (P := fun x => ∃ c : Cell, h269[x]? = some c ∧ ∀ q, c.vm ≠ .statics q) E_274.cell all0)
  have E_283 := E_274.keep Kc278
  have N278 := Fr.app N269 N278q
  have Z278 : n0 ≤ T278.heap.size := Nat.le_trans Z269 Kc278.1
  have K278 : Keep h0 T278.heap [] := K269.trans Kc278 (allS (Or.inr sz_b253) all0)
  refine Gl.st (g' := (mkF m 34 #[vI (1 : Int32), vI c0, vI c1, vI c2, vI c3] [(.ref b253)])) (fun τ κ => st278.trans κ) ?_
  exact Gl.ret (v := some (.ref b253)) X278 Bd.notSynchronized (fun h => by rw [Bd.returns] at h; cases h) rfl (fun fs hr => retAO X278 hx Bd.returns (hb hby d1_34) hr) (by decide) (by decide) ⟨b253, rfl, N278, K278, HS278⟩
theorem ef_rm20_2_0 (m : MethodId) (u : Addr) (ch : Int32) : entryFrame m #[(.ref u), (.int (0 : Int32)), (.int ch)] 3 = mkF m 0 #[vR u, vI (0 : Int32), vI ch] [] := by first | (simp [entryFrame, mkF, argsToLocals, Value.category]; done) | rfl
def Q_rm20_2_0 (Z : State) (u : Addr) (ch : Int32) (ku : ClassId) (w0 w1 w2 w3 : Value) (h0 : Heap) (n0 : Nat) (v : Option Value) (h : Heap) (L : List Loc) : Prop := v = none ∧ Fr n0 L ∧ Keep h0 h [u] ∧ Arv Z h u ku .byte (4 : Int32) [(.int (own_hi ch)), (.int (own_lo ch)), w2, w3] (.int (0 : Int32))
set_option maxRecDepth 65536 in
set_option maxHeartbeats 40000000 in
theorem rm20_2_0 (l : Launch) (Z : State) (a0 : Array Value) (hw : ∀ d ∈ tables_1, d.before a0 Z = true) (ws : List Jvm.Cond) (u : Addr) (ch : Int32) (ku : ClassId) (w0 w1 w2 w3 : Value) (h0 : Heap) (n0 : Nat) (Z0 : n0 ≤ h0.size) (SA : Sta Z h0 "java/lang/StringUTF16" "$assertionsDisabled" "Z" (.int (1 : Int32))) (SH : Sta Z h0 "java/lang/StringUTF16" "HI_BYTE_SHIFT" "I" (.int (0 : Int32))) (SL : Sta Z h0 "java/lang/StringUTF16" "LO_BYTE_SHIFT" "I" (.int (8 : Int32))) (V0 : Arv Z h0 u ku .byte (4 : Int32) [w0, w1, w2, w3] (.int (0 : Int32))) (gu : n0 ≤ u) :
    MetFree l (⟨"java/lang/StringUTF16", "putChar", "([BII)V"⟩ : MethodName) (head1 (Jvm.Cond.code (⟨"java/lang/StringUTF16", "putChar", "([BII)V"⟩ : MethodName) jdk_52_method_4_code 3 none :: ws) ({ frames := 0, cells := 0, slots := 0, locals := 0 } : Room)) (fun aα Uα => aα = #[(.ref u), (.int (0 : Int32)), (.int ch)] ∧ Z.Warmed39 Uα.vm ∧ Uα.heap = h0) (fun _ _ _ _ _ => True) (fun _ Uα oα Uβ => ∃ vα Lα, oα = .returned vα ∧ Q_rm20_2_0 Z u ch ku w0 w1 w2 w3 h0 n0 vα Uβ.heap Lα ∧ FrameEnd Uα oα Uβ Lα ({ frames := 0, cells := 0, slots := 0, locals := 0 } : Room).cells ({ frames := 0, cells := 0, slots := 0, locals := 0 } : Room).slots) := by
  refine MetFree.of_bodySF (plainFor_of_name pn_java_lang_StringUTF16) hisR ?_
  intro p e s m args below meth c s₁ Bd hml0 hP hKα
  obtain ⟨rfl, hZ, hh⟩ := hP
  have hx := Bd.exec
  have hby := Bd.bytes
  have hml : c.maxLocals = 3 := hml0
  have hown : s.vm.findClass "java/lang/StringUTF16" = some m.cls := findClass_of_methodNamed Bd.named
  have hnm := (name_of_methodNamed Bd.named Bd.method).1
  have X0 : Stand p l e ({ frames := 0, cells := 0, slots := 0, locals := 0 } : Room) s m #[(.ref u), (.int (0 : Int32)), (.int ch)] below meth c s₁ [] 0 0 := Stand.of_body Bd
  have e0 : s₁.heap = h0 := by rw [← hh, Bd.state]; rfl
  have N0 := Fr.nil n0
  suffices k0 : Gl p e below s (Q_rm20_2_0 Z u ch ku w0 w1 w2 w3 h0 n0) ({ frames := 0, cells := 0, slots := 0, locals := 0 } : Room).cells ({ frames := 0, cells := 0, slots := 0, locals := 0 } : Room).slots s₁ (mkF m 0 #[vR u, vI (0 : Int32), vI ch] []) from Gl.st (fun τ κ => castTop (ef_rm20_2_0 m u ch) κ) k0
  obtain ⟨T286, X286, e286, st286⟩ := getS2 X0 hx hZ hown (host := "") (Or.inl (w91_ hw)) Via.refl e0 SA (g := (mkF m 0 #[vR u, vI (0 : Int32), vI ch] [])) rfl (hb hby d20_0)
  refine Gl.st (g' := (mkF m 3 #[vR u, vI (0 : Int32), vI ch] [(.int (1 : Int32))])) (fun τ κ => st286 _ κ) ?_
  have hc287 : ¬ ((1 : Int32) = (0 : Int32)) := by decide
  refine Gl.st (g' := (mkF m 29 #[vR u, vI (0 : Int32), vI ch] [(.int (0 : Int32))])) (fun τ κ => XS.ifYes X286.here hx rfl (pc0 := 3) (pc' := 28) rfl (hb hby d20_3) rfl ((if0 _ _).trans (feq hc287).2) (by decide) (by decide) (XS.iloadN X286.here hx rfl (hb hby d20_28) rfl κ)) ?_
  refine Gl.st (g' := (mkF m 31 #[vR u, vI (0 : Int32), vI ch] [(.int ((0 : Int32) <<< ((1 : Int32) &&& 31)))])) (fun τ κ => XS.iconst X286.here hx rfl (hb hby d20_29) (XS.ishl X286.here hx rfl (hb hby d20_30) rfl κ)) ?_
  rw [show ((0 : Int32) <<< ((1 : Int32) &&& 31)) = (0 : Int32) from by decide]
  refine Gl.st (g' := (mkF m 33 #[vR u, vI (0 : Int32), vI ch] [(.ref u)])) (fun τ κ => XS.istoreN X286.here hx rfl (hb hby d20_31) rfl (l' := #[vR u, vI (0 : Int32), vI ch]) rfl (XS.aloadN X286.here hx rfl (hb hby d20_32) rfl rfl κ)) ?_
  refine Gl.st (g' := (mkF m 37 #[vR u, vI (1 : Int32), vI ch] [(.int (0 : Int32)), (.ref u)])) (fun τ κ => XS.iloadN X286.here hx rfl (hb hby d20_33) rfl (XS.iinc X286.here hx rfl (hb hby d20_34) rfl (l' := #[vR u, vI (1 : Int32), vI ch]) rfl κ)) ?_
  refine Gl.st (g' := (mkF m 38 #[vR u, vI (1 : Int32), vI ch] [(.int ch), (.int (0 : Int32)), (.ref u)])) (fun τ κ => XS.iloadN X286.here hx rfl (hb hby d20_37) rfl κ) ?_
  obtain ⟨T288, X288, e288, st288⟩ := getS2 X286 hx hZ hown (host := "") (Or.inl (w92_ hw)) Via.refl e286 SH (g := (mkF m 38 #[vR u, vI (1 : Int32), vI ch] [(.int ch), (.int (0 : Int32)), (.ref u)])) rfl (hb hby d20_38)
  refine Gl.st (g' := (mkF m 41 #[vR u, vI (1 : Int32), vI ch] [(.int (0 : Int32)), (.int ch), (.int (0 : Int32)), (.ref u)])) (fun τ κ => st288 _ κ) ?_
  refine Gl.st (g' := (mkF m 43 #[vR u, vI (1 : Int32), vI ch] [(.int ((ch >>> ((0 : Int32) &&& 31)).toInt8.toInt32)), (.int (0 : Int32)), (.ref u)])) (fun τ κ => XS.ishr X288.here hx rfl (hb hby d20_41) rfl (XS.i2b X288.here hx rfl (hb hby d20_42) rfl κ)) ?_
  obtain ⟨cl_o289, Ar_o289, q_o289, S_o289, M_o289, H_o289, G_o289⟩ := id V0
  have hin_o289 : ¬ ((0 : Int32) < 0 ∨ cl_o289.slots.size ≤ ((0 : Int32)).toNatClampNeg) := inb_of S_o289 ⟨by decide, by decide⟩
  obtain ⟨T290, h290, X290, e290, W290, st290⟩ := stB X288 hx hZ e288 Ar_o289 (j := (0 : Int32)) hin_o289 (g := (mkF m 43 #[vR u, vI (1 : Int32), vI ch] [(.int ((ch >>> ((0 : Int32) &&& 31)).toInt8.toInt32)), (.int (0 : Int32)), (.ref u)])) rfl rfl (hb hby d20_43)
  have S_291 := SA.wr W290
  have S_292 := SH.wr W290
  have S_293 := SL.wr W290
  have N290 := Fr.snoc X290 N0 gu
  have Z290 : n0 ≤ h290.size := Nat.le_trans Z0 (Nat.le_of_eq W290.size.symm)
  have K290 : Keep h0 h290 [u] := (Keep.refl h0 [u]).wr W290 (Or.inl (List.mem_of_getElem? (i := 0) rfl))
  have V_u_290 : Arv Z h290 u ku .byte (4 : Int32) [(.int (nar .byte ((ch >>> ((0 : Int32) &&& 31)).toInt8.toInt32))), w1, w2, w3] (.int (0 : Int32)) := Arv.set Ar_o289 q_o289 S_o289 M_o289 H_o289 G_o289 (fits_nar_byte _) W290 0 rfl (Nat.le_of_ble_eq_true rfl)
  refine Gl.st (g' := (mkF m 44 #[vR u, vI (1 : Int32), vI ch] [])) (fun τ κ => st290 _ κ) ?_
  refine Gl.st (g' := (mkF m 46 #[vR u, vI (1 : Int32), vI ch] [(.int (1 : Int32)), (.ref u)])) (fun τ κ => XS.aloadN X290.here hx rfl (hb hby d20_44) rfl rfl (XS.iloadN X290.here hx rfl (hb hby d20_45) rfl κ)) ?_
  refine Gl.st (g' := (mkF m 47 #[vR u, vI (1 : Int32), vI ch] [(.int ch), (.int (1 : Int32)), (.ref u)])) (fun τ κ => XS.iloadN X290.here hx rfl (hb hby d20_46) rfl κ) ?_
  obtain ⟨T295, X295, e295, st295⟩ := getS2 X290 hx hZ hown (host := "") (Or.inl (w93_ hw)) Via.refl e290 S_293 (g := (mkF m 47 #[vR u, vI (1 : Int32), vI ch] [(.int ch), (.int (1 : Int32)), (.ref u)])) rfl (hb hby d20_47)
  refine Gl.st (g' := (mkF m 50 #[vR u, vI (1 : Int32), vI ch] [(.int (8 : Int32)), (.int ch), (.int (1 : Int32)), (.ref u)])) (fun τ κ => st295 _ κ) ?_
  refine Gl.st (g' := (mkF m 52 #[vR u, vI (1 : Int32), vI ch] [(.int ((ch >>> ((8 : Int32) &&& 31)).toInt8.toInt32)), (.int (1 : Int32)), (.ref u)])) (fun τ κ => XS.ishr X295.here hx rfl (hb hby d20_50) rfl (XS.i2b X295.here hx rfl (hb hby d20_51) rfl κ)) ?_
  obtain ⟨cl_o296, Ar_o296, q_o296, S_o296, M_o296, H_o296, G_o296⟩ := id V_u_290
  have hin_o296 : ¬ ((1 : Int32) < 0 ∨ cl_o296.slots.size ≤ ((1 : Int32)).toNatClampNeg) := inb_of S_o296 ⟨by decide, by decide⟩
  obtain ⟨T297, h297, X297, e297, W297, st297⟩ := stB X295 hx hZ e295 Ar_o296 (j := (1 : Int32)) hin_o296 (g := (mkF m 52 #[vR u, vI (1 : Int32), vI ch] [(.int ((ch >>> ((8 : Int32) &&& 31)).toInt8.toInt32)), (.int (1 : Int32)), (.ref u)])) rfl rfl (hb hby d20_52)
  have S_298 := S_291.wr W297
  have S_299 := S_292.wr W297
  have S_300 := S_293.wr W297
  have N297 := Fr.snoc X297 N290 gu
  have Z297 : n0 ≤ h297.size := Nat.le_trans Z290 (Nat.le_of_eq W297.size.symm)
  have K297 : Keep h0 h297 [u] := K290.wr W297 (Or.inl (List.mem_of_getElem? (i := 0) rfl))
  have V_u_297 : Arv Z h297 u ku .byte (4 : Int32) [(.int (nar .byte ((ch >>> ((0 : Int32) &&& 31)).toInt8.toInt32))), (.int (nar .byte ((ch >>> ((8 : Int32) &&& 31)).toInt8.toInt32))), w2, w3] (.int (0 : Int32)) := Arv.set Ar_o296 q_o296 S_o296 M_o296 H_o296 G_o296 (fits_nar_byte _) W297 1 rfl (Nat.le_of_ble_eq_true rfl)
  refine Gl.st (g' := (mkF m 53 #[vR u, vI (1 : Int32), vI ch] [])) (fun τ κ => st297 _ κ) ?_
  exact Gl.ret (v := none) X297 Bd.notSynchronized (fun _ => rfl) e297 (fun fs hr => X297.returnOut hx Bd.returns (hb hby d20_53) hr) (by decide) (by decide) ⟨rfl, N297, K297, V_u_297⟩
theorem ef_rm20_2_1 (m : MethodId) (u : Addr) (ch : Int32) : entryFrame m #[(.ref u), (.int (1 : Int32)), (.int ch)] 3 = mkF m 0 #[vR u, vI (1 : Int32), vI ch] [] := by first | (simp [entryFrame, mkF, argsToLocals, Value.category]; done) | rfl
def Q_rm20_2_1 (Z : State) (u : Addr) (ch : Int32) (ku : ClassId) (w0 w1 w2 w3 : Value) (h0 : Heap) (n0 : Nat) (v : Option Value) (h : Heap) (L : List Loc) : Prop := v = none ∧ Fr n0 L ∧ Keep h0 h [u] ∧ Arv Z h u ku .byte (4 : Int32) [w0, w1, (.int (own_hi ch)), (.int (own_lo ch))] (.int (0 : Int32))
set_option maxRecDepth 65536 in
set_option maxHeartbeats 40000000 in
theorem rm20_2_1 (l : Launch) (Z : State) (a0 : Array Value) (hw : ∀ d ∈ tables_1, d.before a0 Z = true) (ws : List Jvm.Cond) (u : Addr) (ch : Int32) (ku : ClassId) (w0 w1 w2 w3 : Value) (h0 : Heap) (n0 : Nat) (Z0 : n0 ≤ h0.size) (SA : Sta Z h0 "java/lang/StringUTF16" "$assertionsDisabled" "Z" (.int (1 : Int32))) (SH : Sta Z h0 "java/lang/StringUTF16" "HI_BYTE_SHIFT" "I" (.int (0 : Int32))) (SL : Sta Z h0 "java/lang/StringUTF16" "LO_BYTE_SHIFT" "I" (.int (8 : Int32))) (V0 : Arv Z h0 u ku .byte (4 : Int32) [w0, w1, w2, w3] (.int (0 : Int32))) (gu : n0 ≤ u) :
    MetFree l (⟨"java/lang/StringUTF16", "putChar", "([BII)V"⟩ : MethodName) (head1 (Jvm.Cond.code (⟨"java/lang/StringUTF16", "putChar", "([BII)V"⟩ : MethodName) jdk_52_method_4_code 3 none :: ws) ({ frames := 0, cells := 0, slots := 0, locals := 0 } : Room)) (fun aα Uα => aα = #[(.ref u), (.int (1 : Int32)), (.int ch)] ∧ Z.Warmed39 Uα.vm ∧ Uα.heap = h0) (fun _ _ _ _ _ => True) (fun _ Uα oα Uβ => ∃ vα Lα, oα = .returned vα ∧ Q_rm20_2_1 Z u ch ku w0 w1 w2 w3 h0 n0 vα Uβ.heap Lα ∧ FrameEnd Uα oα Uβ Lα ({ frames := 0, cells := 0, slots := 0, locals := 0 } : Room).cells ({ frames := 0, cells := 0, slots := 0, locals := 0 } : Room).slots) := by
  refine MetFree.of_bodySF (plainFor_of_name pn_java_lang_StringUTF16) hisR ?_
  intro p e s m args below meth c s₁ Bd hml0 hP hKα
  obtain ⟨rfl, hZ, hh⟩ := hP
  have hx := Bd.exec
  have hby := Bd.bytes
  have hml : c.maxLocals = 3 := hml0
  have hown : s.vm.findClass "java/lang/StringUTF16" = some m.cls := findClass_of_methodNamed Bd.named
  have hnm := (name_of_methodNamed Bd.named Bd.method).1
  have X0 : Stand p l e ({ frames := 0, cells := 0, slots := 0, locals := 0 } : Room) s m #[(.ref u), (.int (1 : Int32)), (.int ch)] below meth c s₁ [] 0 0 := Stand.of_body Bd
  have e0 : s₁.heap = h0 := by rw [← hh, Bd.state]; rfl
  have N0 := Fr.nil n0
  suffices k0 : Gl p e below s (Q_rm20_2_1 Z u ch ku w0 w1 w2 w3 h0 n0) ({ frames := 0, cells := 0, slots := 0, locals := 0 } : Room).cells ({ frames := 0, cells := 0, slots := 0, locals := 0 } : Room).slots s₁ (mkF m 0 #[vR u, vI (1 : Int32), vI ch] []) from Gl.st (fun τ κ => castTop (ef_rm20_2_1 m u ch) κ) k0
  obtain ⟨T302, X302, e302, st302⟩ := getS2 X0 hx hZ hown (host := "") (Or.inl (w91_ hw)) Via.refl e0 SA (g := (mkF m 0 #[vR u, vI (1 : Int32), vI ch] [])) rfl (hb hby d20_0)
  refine Gl.st (g' := (mkF m 3 #[vR u, vI (1 : Int32), vI ch] [(.int (1 : Int32))])) (fun τ κ => st302 _ κ) ?_
  have hc303 : ¬ ((1 : Int32) = (0 : Int32)) := by decide
  refine Gl.st (g' := (mkF m 29 #[vR u, vI (1 : Int32), vI ch] [(.int (1 : Int32))])) (fun τ κ => XS.ifYes X302.here hx rfl (pc0 := 3) (pc' := 28) rfl (hb hby d20_3) rfl ((if0 _ _).trans (feq hc303).2) (by decide) (by decide) (XS.iloadN X302.here hx rfl (hb hby d20_28) rfl κ)) ?_
  refine Gl.st (g' := (mkF m 31 #[vR u, vI (1 : Int32), vI ch] [(.int ((1 : Int32) <<< ((1 : Int32) &&& 31)))])) (fun τ κ => XS.iconst X302.here hx rfl (hb hby d20_29) (XS.ishl X302.here hx rfl (hb hby d20_30) rfl κ)) ?_
  rw [show ((1 : Int32) <<< ((1 : Int32) &&& 31)) = (2 : Int32) from by decide]
  refine Gl.st (g' := (mkF m 33 #[vR u, vI (2 : Int32), vI ch] [(.ref u)])) (fun τ κ => XS.istoreN X302.here hx rfl (hb hby d20_31) rfl (l' := #[vR u, vI (2 : Int32), vI ch]) rfl (XS.aloadN X302.here hx rfl (hb hby d20_32) rfl rfl κ)) ?_
  refine Gl.st (g' := (mkF m 37 #[vR u, vI (3 : Int32), vI ch] [(.int (2 : Int32)), (.ref u)])) (fun τ κ => XS.iloadN X302.here hx rfl (hb hby d20_33) rfl (XS.iinc X302.here hx rfl (hb hby d20_34) rfl (l' := #[vR u, vI (3 : Int32), vI ch]) rfl κ)) ?_
  refine Gl.st (g' := (mkF m 38 #[vR u, vI (3 : Int32), vI ch] [(.int ch), (.int (2 : Int32)), (.ref u)])) (fun τ κ => XS.iloadN X302.here hx rfl (hb hby d20_37) rfl κ) ?_
  obtain ⟨T304, X304, e304, st304⟩ := getS2 X302 hx hZ hown (host := "") (Or.inl (w92_ hw)) Via.refl e302 SH (g := (mkF m 38 #[vR u, vI (3 : Int32), vI ch] [(.int ch), (.int (2 : Int32)), (.ref u)])) rfl (hb hby d20_38)
  refine Gl.st (g' := (mkF m 41 #[vR u, vI (3 : Int32), vI ch] [(.int (0 : Int32)), (.int ch), (.int (2 : Int32)), (.ref u)])) (fun τ κ => st304 _ κ) ?_
  refine Gl.st (g' := (mkF m 43 #[vR u, vI (3 : Int32), vI ch] [(.int ((ch >>> ((0 : Int32) &&& 31)).toInt8.toInt32)), (.int (2 : Int32)), (.ref u)])) (fun τ κ => XS.ishr X304.here hx rfl (hb hby d20_41) rfl (XS.i2b X304.here hx rfl (hb hby d20_42) rfl κ)) ?_
  obtain ⟨cl_o305, Ar_o305, q_o305, S_o305, M_o305, H_o305, G_o305⟩ := id V0
  have hin_o305 : ¬ ((2 : Int32) < 0 ∨ cl_o305.slots.size ≤ ((2 : Int32)).toNatClampNeg) := inb_of S_o305 ⟨by decide, by decide⟩
  obtain ⟨T306, h306, X306, e306, W306, st306⟩ := stB X304 hx hZ e304 Ar_o305 (j := (2 : Int32)) hin_o305 (g := (mkF m 43 #[vR u, vI (3 : Int32), vI ch] [(.int ((ch >>> ((0 : Int32) &&& 31)).toInt8.toInt32)), (.int (2 : Int32)), (.ref u)])) rfl rfl (hb hby d20_43)
  have S_307 := SA.wr W306
  have S_308 := SH.wr W306
  have S_309 := SL.wr W306
  have N306 := Fr.snoc X306 N0 gu
  have Z306 : n0 ≤ h306.size := Nat.le_trans Z0 (Nat.le_of_eq W306.size.symm)
  have K306 : Keep h0 h306 [u] := (Keep.refl h0 [u]).wr W306 (Or.inl (List.mem_of_getElem? (i := 0) rfl))
  have V_u_306 : Arv Z h306 u ku .byte (4 : Int32) [w0, w1, (.int (nar .byte ((ch >>> ((0 : Int32) &&& 31)).toInt8.toInt32))), w3] (.int (0 : Int32)) := Arv.set Ar_o305 q_o305 S_o305 M_o305 H_o305 G_o305 (fits_nar_byte _) W306 2 rfl (Nat.le_of_ble_eq_true rfl)
  refine Gl.st (g' := (mkF m 44 #[vR u, vI (3 : Int32), vI ch] [])) (fun τ κ => st306 _ κ) ?_
  refine Gl.st (g' := (mkF m 46 #[vR u, vI (3 : Int32), vI ch] [(.int (3 : Int32)), (.ref u)])) (fun τ κ => XS.aloadN X306.here hx rfl (hb hby d20_44) rfl rfl (XS.iloadN X306.here hx rfl (hb hby d20_45) rfl κ)) ?_
  refine Gl.st (g' := (mkF m 47 #[vR u, vI (3 : Int32), vI ch] [(.int ch), (.int (3 : Int32)), (.ref u)])) (fun τ κ => XS.iloadN X306.here hx rfl (hb hby d20_46) rfl κ) ?_
  obtain ⟨T311, X311, e311, st311⟩ := getS2 X306 hx hZ hown (host := "") (Or.inl (w93_ hw)) Via.refl e306 S_309 (g := (mkF m 47 #[vR u, vI (3 : Int32), vI ch] [(.int ch), (.int (3 : Int32)), (.ref u)])) rfl (hb hby d20_47)
  refine Gl.st (g' := (mkF m 50 #[vR u, vI (3 : Int32), vI ch] [(.int (8 : Int32)), (.int ch), (.int (3 : Int32)), (.ref u)])) (fun τ κ => st311 _ κ) ?_
  refine Gl.st (g' := (mkF m 52 #[vR u, vI (3 : Int32), vI ch] [(.int ((ch >>> ((8 : Int32) &&& 31)).toInt8.toInt32)), (.int (3 : Int32)), (.ref u)])) (fun τ κ => XS.ishr X311.here hx rfl (hb hby d20_50) rfl (XS.i2b X311.here hx rfl (hb hby d20_51) rfl κ)) ?_
  obtain ⟨cl_o312, Ar_o312, q_o312, S_o312, M_o312, H_o312, G_o312⟩ := id V_u_306
  have hin_o312 : ¬ ((3 : Int32) < 0 ∨ cl_o312.slots.size ≤ ((3 : Int32)).toNatClampNeg) := inb_of S_o312 ⟨by decide, by decide⟩
  obtain ⟨T313, h313, X313, e313, W313, st313⟩ := stB X311 hx hZ e311 Ar_o312 (j := (3 : Int32)) hin_o312 (g := (mkF m 52 #[vR u, vI (3 : Int32), vI ch] [(.int ((ch >>> ((8 : Int32) &&& 31)).toInt8.toInt32)), (.int (3 : Int32)), (.ref u)])) rfl rfl (hb hby d20_52)
  have S_314 := S_307.wr W313
  have S_315 := S_308.wr W313
  have S_316 := S_309.wr W313
  have N313 := Fr.snoc X313 N306 gu
  have Z313 : n0 ≤ h313.size := Nat.le_trans Z306 (Nat.le_of_eq W313.size.symm)
  have K313 : Keep h0 h313 [u] := K306.wr W313 (Or.inl (List.mem_of_getElem? (i := 0) rfl))
  have V_u_313 : Arv Z h313 u ku .byte (4 : Int32) [w0, w1, (.int (nar .byte ((ch >>> ((0 : Int32) &&& 31)).toInt8.toInt32))), (.int (nar .byte ((ch >>> ((8 : Int32) &&& 31)).toInt8.toInt32)))] (.int (0 : Int32)) := Arv.set Ar_o312 q_o312 S_o312 M_o312 H_o312 G_o312 (fits_nar_byte _) W313 3 rfl (Nat.le_of_ble_eq_true rfl)
  refine Gl.st (g' := (mkF m 53 #[vR u, vI (3 : Int32), vI ch] [])) (fun τ κ => st313 _ κ) ?_
  exact Gl.ret (v := none) X313 Bd.notSynchronized (fun _ => rfl) e313 (fun fs hr => X313.returnOut hx Bd.returns (hb hby d20_53) hr) (by decide) (by decide) ⟨rfl, N313, K313, V_u_313⟩
theorem ef_rm19_2 (m : MethodId)  : entryFrame m #[(.int (2 : Int32))] 1 = mkF m 0 #[vI (2 : Int32)] [] := by first | (simp [entryFrame, mkF, argsToLocals, Value.category]; done) | rfl
def Q_rm19_2 (Z : State)   (h0 : Heap) (n0 : Nat) (v : Option Value) (h : Heap) (L : List Loc) : Prop := v = some (.int (4 : Int32)) ∧ Fr n0 L ∧ h = h0
set_option maxRecDepth 65536 in
set_option maxHeartbeats 40000000 in
theorem rm19_2 (l : Launch) (Z : State) (a0 : Array Value) (hw : ∀ d ∈ tables_1, d.before a0 Z = true) (ws : List Jvm.Cond)   (h0 : Heap) (n0 : Nat) (Z0 : n0 ≤ h0.size)  :
    MetFree l (⟨"java/lang/StringUTF16", "newBytesLength", "(I)I"⟩ : MethodName) (head1 (Jvm.Cond.code (⟨"java/lang/StringUTF16", "newBytesLength", "(I)I"⟩ : MethodName) jdk_52_method_3_code 1 (some .int) :: ws) ({ frames := 0, cells := 0, slots := 0, locals := 0 } : Room)) (fun aα Uα => aα = #[(.int (2 : Int32))] ∧ Z.Warmed39 Uα.vm ∧ Uα.heap = h0) (fun _ _ _ _ _ => True) (fun _ Uα oα Uβ => ∃ vα Lα, oα = .returned vα ∧ Q_rm19_2 Z   h0 n0 vα Uβ.heap Lα ∧ FrameEnd Uα oα Uβ Lα ({ frames := 0, cells := 0, slots := 0, locals := 0 } : Room).cells ({ frames := 0, cells := 0, slots := 0, locals := 0 } : Room).slots) := by
  refine MetFree.of_bodySF (plainFor_of_name pn_java_lang_StringUTF16) hisR ?_
  intro p e s m args below meth c s₁ Bd hml0 hP hKα
  obtain ⟨rfl, hZ, hh⟩ := hP
  have hx := Bd.exec
  have hby := Bd.bytes
  have hml : c.maxLocals = 1 := hml0
  have hown : s.vm.findClass "java/lang/StringUTF16" = some m.cls := findClass_of_methodNamed Bd.named
  have hnm := (name_of_methodNamed Bd.named Bd.method).1
  have X0 : Stand p l e ({ frames := 0, cells := 0, slots := 0, locals := 0 } : Room) s m #[(.int (2 : Int32))] below meth c s₁ [] 0 0 := Stand.of_body Bd
  have e0 : s₁.heap = h0 := by rw [← hh, Bd.state]; rfl
  have N0 := Fr.nil n0
  suffices k0 : Gl p e below s (Q_rm19_2 Z   h0 n0) ({ frames := 0, cells := 0, slots := 0, locals := 0 } : Room).cells ({ frames := 0, cells := 0, slots := 0, locals := 0 } : Room).slots s₁ (mkF m 0 #[vI (2 : Int32)] []) from Gl.st (fun τ κ => castTop (ef_rm19_2 m ) κ) k0
  refine Gl.st (g' := (mkF m 1 #[vI (2 : Int32)] [(.int (2 : Int32))])) (fun τ κ => XS.iloadN X0.here hx rfl (hb hby d19_0) rfl κ) ?_
  have hc318 : ¬ ((2 : Int32) < (0 : Int32)) := by decide
  refine Gl.st (g' := (mkF m 13 #[vI (2 : Int32)] [(.int (2 : Int32))])) (fun τ κ => XS.ifYes X0.here hx rfl (pc0 := 1) (pc' := 12) rfl (hb hby d19_1) rfl ((if0 _ _).trans (flt hc318).2.1) (by decide) (by decide) (XS.iloadN X0.here hx rfl (hb hby d19_12) rfl κ)) ?_
  refine Gl.st (g' := (mkF m 15 #[vI (2 : Int32)] [(.int (1073741823 : Int32)), (.int (2 : Int32))])) (fun τ κ => X0.ldcInt hx hown (mvT hZ (w87_ hw)) (g := (mkF m 13 #[vI (2 : Int32)] [(.int (2 : Int32))])) rfl (hb hby d19_13) _ κ) ?_
  have hc319 : (2 : Int32) < (1073741823 : Int32) := by decide
  refine Gl.st (g' := (mkF m 56 #[vI (2 : Int32)] [(.int (2 : Int32))])) (fun τ κ => XS.icmpYes X0.here hx rfl (pc0 := 15) (pc' := 55) rfl (hb hby d19_15) rfl (tlt hc319).1 (by decide) (by decide) (XS.iloadN X0.here hx rfl (hb hby d19_55) rfl κ)) ?_
  refine Gl.st (g' := (mkF m 58 #[vI (2 : Int32)] [(.int ((2 : Int32) <<< ((1 : Int32) &&& 31)))])) (fun τ κ => XS.iconst X0.here hx rfl (hb hby d19_56) (XS.ishl X0.here hx rfl (hb hby d19_57) rfl κ)) ?_
  rw [show ((2 : Int32) <<< ((1 : Int32) &&& 31)) = (4 : Int32) from by decide]
  exact Gl.ret (v := some (.int (4 : Int32))) X0 Bd.notSynchronized (fun h => by rw [Bd.returns] at h; cases h) e0 (fun fs hr => retI X0 hx Bd.returns (hb hby d19_58) hr) (by decide) (by decide) ⟨rfl, N0, rfl⟩
theorem ef_rm18_2 (m : MethodId)  : entryFrame m #[(.int (2 : Int32))] 1 = mkF m 0 #[vI (2 : Int32)] [] := by first | (simp [entryFrame, mkF, argsToLocals, Value.category]; done) | rfl
def Q_rm18_2 (Z : State)   (h0 : Heap) (n0 : Nat) (v : Option Value) (h : Heap) (L : List Loc) : Prop := ∃ b kk, v = some (.ref b) ∧ Fr n0 L ∧ Keep h0 h [] ∧ h0.size ≤ b ∧ Arv Z h b kk .byte (4 : Int32) [(.int (0 : Int32)), (.int (0 : Int32)), (.int (0 : Int32)), (.int (0 : Int32))] (.int (0 : Int32))
set_option maxRecDepth 65536 in
set_option maxHeartbeats 40000000 in
theorem rm18_2 (l : Launch) (Z : State) (a0 : Array Value) (hw : ∀ d ∈ tables_1, d.before a0 Z = true) (ws : List Jvm.Cond)   (h0 : Heap) (n0 : Nat) (Z0 : n0 ≤ h0.size)  :
    MetFree l (⟨"java/lang/StringUTF16", "newBytesFor", "(I)[B"⟩ : MethodName) (head1 (Jvm.Cond.code (⟨"java/lang/StringUTF16", "newBytesFor", "(I)[B"⟩ : MethodName) jdk_52_method_2_code 1 (some (.array .byte)) :: ws) ({ frames := 1, cells := 1, slots := 4, locals := 12 } : Room)) (fun aα Uα => aα = #[(.int (2 : Int32))] ∧ Z.Warmed39 Uα.vm ∧ Uα.heap = h0) (fun _ _ _ _ _ => True) (fun _ Uα oα Uβ => ∃ vα Lα, oα = .returned vα ∧ Q_rm18_2 Z   h0 n0 vα Uβ.heap Lα ∧ FrameEnd Uα oα Uβ Lα ({ frames := 1, cells := 1, slots := 4, locals := 12 } : Room).cells ({ frames := 1, cells := 1, slots := 4, locals := 12 } : Room).slots) := by
  refine MetFree.of_bodySF (plainFor_of_name pn_java_lang_StringUTF16) hisR ?_
  intro p e s m args below meth c s₁ Bd hml0 hP hKα
  obtain ⟨rfl, hZ, hh⟩ := hP
  have hx := Bd.exec
  have hby := Bd.bytes
  have hml : c.maxLocals = 1 := hml0
  have hown : s.vm.findClass "java/lang/StringUTF16" = some m.cls := findClass_of_methodNamed Bd.named
  have hnm := (name_of_methodNamed Bd.named Bd.method).1
  have X0 : Stand p l e ({ frames := 1, cells := 1, slots := 4, locals := 12 } : Room) s m #[(.int (2 : Int32))] below meth c s₁ [] 0 0 := Stand.of_body Bd
  have e0 : s₁.heap = h0 := by rw [← hh, Bd.state]; rfl
  have N0 := Fr.nil n0
  suffices k0 : Gl p e below s (Q_rm18_2 Z   h0 n0) ({ frames := 1, cells := 1, slots := 4, locals := 12 } : Room).cells ({ frames := 1, cells := 1, slots := 4, locals := 12 } : Room).slots s₁ (mkF m 0 #[vI (2 : Int32)] []) from Gl.st (fun τ κ => castTop (ef_rm18_2 m ) κ) k0
  refine Gl.st (g' := (mkF m 1 #[vI (2 : Int32)] [(.int (2 : Int32))])) (fun τ κ => XS.iloadN X0.here hx rfl (hb hby d18_0) rfl κ) ?_
  obtain ⟨rv320, _, ⟨T320, L320, k320, n320⟩, -, X320, ⟨Lc320, hQ320, l320, y320, z320⟩, st320⟩ := Jvm.LawKit.callS X0 hx (y := (⟨"java/lang/StringUTF16", "newBytesLength", "(I)I"⟩ : MethodName)) hown (mvT hZ (w84_ hw)) (mvT hZ (w85_ hw)) (mvT hZ (w45_ hw)) (mvT hZ (w86_ hw)) (by decide) (backOf (W := 0) (rm19_2 l Z a0 hw []  h0 n0 Z0 ) hZ (w86_ hw) (w45_ hw) (by decide) (by decide)) (g := (mkF m 1 #[vI (2 : Int32)] [(.int (2 : Int32))])) rfl (by rw [hml]; rfl) (argsL := [(.int (2 : Int32))]) (rest := []) (lenOf pd_9 rfl) rfl (by show 2 * 0 + _ ≤ _; exact Nat.le_of_eq rfl) (hb hby d18_1) (fun _ _ => ⟨rfl, e0, (by decide : 0 + 0 ≤ _), (by decide : 0 + 0 ≤ _)⟩)
  dsimp only [Pt.U, Pt.locs, Pt.cells, Pt.slots] at X320 l320 y320 z320 st320 hQ320
  subst l320 y320 z320
  obtain ⟨hq320, N320q, e320⟩ := hQ320
  have hq320 : rv320 = some (.int (4 : Int32)) := hq320
  subst hq320
  have N320 := Fr.app N0 N320q
  refine Gl.st (g' := (mkF m 4 #[vI (2 : Int32)] [(.int (4 : Int32))])) (fun τ κ => st320 _ κ) ?_
  obtain ⟨T321, h321, k321, X321, e321, E321, A321, st321⟩ := newP X320 hx hZ (hw _ (List.mem_of_getElem? (i := 21) rfl)) e320 (g := (mkF m 4 #[vI (2 : Int32)] [(.int (4 : Int32))])) rfl (hb hby d18_4) rfl (by decide) (cap := 4) (by decide) (by decide) (by decide) (by decide)
  obtain ⟨b321, g321⟩ : ∃ z, z = h0.size := ⟨_, rfl⟩
  rw [← g321] at A321 st321
  have g_b321 : n0 ≤ b321 := Nat.le_trans Z0 (Nat.le_of_eq g321.symm)
  have sz_b321 : h0.size ≤ b321 := Nat.le_trans (Keep.refl h0 []).1 (Nat.le_of_eq g321.symm)
  have Z321 : n0 ≤ h321.size := Nat.le_trans Z0 E321.1
  have K321 : Keep h0 h321 [] := (Keep.refl h0 []).ext E321
  have V_b321 : Arv Z h321 b321 k321 .byte (4 : Int32) [(.int (0 : Int32)), (.int (0 : Int32)), (.int (0 : Int32)), (.int (0 : Int32))] (.int (0 : Int32)) := (Arv.new A321 (by decide)).pad (pad_rep [] (.int (0 : Int32)) 4)
  refine Gl.st (g' := (mkF m 6 #[vI (2 : Int32)] [(.ref b321)])) (fun τ κ => st321 _ κ) ?_
  exact Gl.ret (v := some (.ref b321)) X321 Bd.notSynchronized (fun h => by rw [Bd.returns] at h; cases h) e321 (fun fs hr => retAA X321 hx Bd.returns (hb hby d18_6) hr) (by decide) (by decide) ⟨b321, k321, rfl, N320, K321, sz_b321, V_b321⟩
theorem ef_rm17_2 (m : MethodId) (ca : Addr) : entryFrame m #[(.ref ca), (.int (0 : Int32)), (.int (2 : Int32))] 5 = mkF m 0 #[vR ca, vI (0 : Int32), vI (2 : Int32), .unset, .unset] [] := by first | (simp [entryFrame, mkF, argsToLocals, Value.category]; done) | rfl
def Q_rm17_2 (Z : State) (ca : Addr) (kc : ClassId) (c0 c1 : Int32) (h0 : Heap) (n0 : Nat) (v : Option Value) (h : Heap) (L : List Loc) : Prop := ∃ b kk, v = some (.ref b) ∧ Fr n0 L ∧ Keep h0 h [] ∧ h0.size ≤ b ∧ Arv Z h b kk .byte (4 : Int32) [(.int (own_hi c0)), (.int (own_lo c0)), (.int (own_hi c1)), (.int (own_lo c1))] (.int (0 : Int32))
set_option maxRecDepth 65536 in
set_option maxHeartbeats 40000000 in
theorem rm17_2 (l : Launch) (Z : State) (a0 : Array Value) (hw : ∀ d ∈ tables_1, d.before a0 Z = true) (ws : List Jvm.Cond) (ca : Addr) (kc : ClassId) (c0 c1 : Int32) (h0 : Heap) (n0 : Nat) (Z0 : n0 ≤ h0.size) (SA : Sta Z h0 "java/lang/StringUTF16" "$assertionsDisabled" "Z" (.int (1 : Int32))) (SH : Sta Z h0 "java/lang/StringUTF16" "HI_BYTE_SHIFT" "I" (.int (0 : Int32))) (SL : Sta Z h0 "java/lang/StringUTF16" "LO_BYTE_SHIFT" "I" (.int (8 : Int32))) (V0 : Arv Z h0 ca kc .char (2 : Int32) [(.int c0), (.int c1)] (.int (0 : Int32))) :
    MetFree l (⟨"java/lang/StringUTF16", "toBytes", "([CII)[B"⟩ : MethodName) (head1 (Jvm.Cond.code (⟨"java/lang/StringUTF16", "toBytes", "([CII)[B"⟩ : MethodName) jdk_52_method_14_code 5 (some (.array .byte)) :: ws) ({ frames := 2, cells := 1, slots := 4, locals := 24 } : Room)) (fun aα Uα => aα = #[(.ref ca), (.int (0 : Int32)), (.int (2 : Int32))] ∧ Z.Warmed39 Uα.vm ∧ Uα.heap = h0) (fun _ _ _ _ _ => True) (fun _ Uα oα Uβ => ∃ vα Lα, oα = .returned vα ∧ Q_rm17_2 Z ca kc c0 c1 h0 n0 vα Uβ.heap Lα ∧ FrameEnd Uα oα Uβ Lα ({ frames := 2, cells := 1, slots := 4, locals := 24 } : Room).cells ({ frames := 2, cells := 1, slots := 4, locals := 24 } : Room).slots) := by
  refine MetFree.of_bodySF (plainFor_of_name pn_java_lang_StringUTF16) hisR ?_
  intro p e s m args below meth c s₁ Bd hml0 hP hKα
  obtain ⟨rfl, hZ, hh⟩ := hP
  have hx := Bd.exec
  have hby := Bd.bytes
  have hml : c.maxLocals = 5 := hml0
  have hown : s.vm.findClass "java/lang/StringUTF16" = some m.cls := findClass_of_methodNamed Bd.named
  have hnm := (name_of_methodNamed Bd.named Bd.method).1
  have X0 : Stand p l e ({ frames := 2, cells := 1, slots := 4, locals := 24 } : Room) s m #[(.ref ca), (.int (0 : Int32)), (.int (2 : Int32))] below meth c s₁ [] 0 0 := Stand.of_body Bd
  have e0 : s₁.heap = h0 := by rw [← hh, Bd.state]; rfl
  have N0 := Fr.nil n0
  suffices k0 : Gl p e below s (Q_rm17_2 Z ca kc c0 c1 h0 n0) ({ frames := 2, cells := 1, slots := 4, locals := 24 } : Room).cells ({ frames := 2, cells := 1, slots := 4, locals := 24 } : Room).slots s₁ (mkF m 0 #[vR ca, vI (0 : Int32), vI (2 : Int32), .unset, .unset] []) from Gl.st (fun τ κ => castTop (ef_rm17_2 m ca) κ) k0
  refine Gl.st (g' := (mkF m 1 #[vR ca, vI (0 : Int32), vI (2 : Int32), .unset, .unset] [(.int (2 : Int32))])) (fun τ κ => XS.iloadN X0.here hx rfl (hb hby d17_0) rfl κ) ?_
  obtain ⟨rv322, _, ⟨T322, L322, k322, n322⟩, -, X322, ⟨Lc322, hQ322, l322, y322, z322⟩, st322⟩ := Jvm.LawKit.callS X0 hx (y := (⟨"java/lang/StringUTF16", "newBytesFor", "(I)[B"⟩ : MethodName)) hown (mvT hZ (w81_ hw)) (mvT hZ (w82_ hw)) (mvT hZ (w45_ hw)) (mvT hZ (w83_ hw)) (by decide) (backOf (W := 0) (rm18_2 l Z a0 hw []  h0 n0 Z0 ) hZ (w83_ hw) (w45_ hw) (by decide) (by decide)) (g := (mkF m 1 #[vR ca, vI (0 : Int32), vI (2 : Int32), .unset, .unset] [(.int (2 : Int32))])) rfl (by rw [hml]; rfl) (argsL := [(.int (2 : Int32))]) (rest := []) (lenOf pd_10 rfl) rfl (by show 2 * 0 + _ ≤ _; exact Nat.le_of_eq rfl) (hb hby d17_1) (fun _ _ => ⟨rfl, e0, (by decide : 0 + 1 ≤ _), (by decide : 0 + 4 ≤ _)⟩)
  dsimp only [Pt.U, Pt.locs, Pt.cells, Pt.slots] at X322 l322 y322 z322 st322 hQ322
  subst l322 y322 z322
  obtain ⟨b322, kk322, rfl, N322q, Kc322, s322, V322⟩ := hQ322
  have ne_ca_b322 : ca ≠ b322 := Nat.ne_of_lt (Nat.lt_of_lt_of_le V0.lt s322)
  have g_b322 : n0 ≤ b322 := Nat.le_trans Z0 s322
  have sz_b322 : h0.size ≤ b322 := Nat.le_trans (Keep.refl h0 []).1 s322
  have S_323 := Sta.keepX SA Kc322 all0
  have S_324 := Sta.keepX SH Kc322 all0
  have S_325 := Sta.keepX SL Kc322 all0
  have V_326 := V0.keep Kc322 nin0
  have N322 := Fr.app N0 N322q
  have Z322 : n0 ≤ T322.heap.size := Nat.le_trans Z0 Kc322.1
  have K322 : Keep h0 T322.heap [] := (Keep.refl h0 []).trans Kc322 all0
  refine Gl.st (g' := (mkF m 4 #[vR ca, vI (0 : Int32), vI (2 : Int32), .unset, .unset] [(.ref b322)])) (fun τ κ => st322 _ κ) ?_
  refine Gl.st (g' := (mkF m 6 #[vR ca, vI (0 : Int32), vI (2 : Int32), vR b322, .unset] [(.int (0 : Int32))])) (fun τ κ => XS.astoreN X322.here hx rfl (hb hby d17_4) rfl rfl (l' := #[vR ca, vI (0 : Int32), vI (2 : Int32), vR b322, .unset]) rfl (XS.iconst X322.here hx rfl (hb hby d17_5) κ)) ?_
  refine Gl.st (g' := (mkF m 10 #[vR ca, vI (0 : Int32), vI (2 : Int32), vR b322, vI (0 : Int32)] [(.int (0 : Int32))])) (fun τ κ => XS.istore X322.here hx rfl (hb hby d17_6) rfl (l' := #[vR ca, vI (0 : Int32), vI (2 : Int32), vR b322, vI (0 : Int32)]) rfl (XS.iload X322.here hx rfl (hb hby d17_8) rfl κ)) ?_
  refine Gl.st (g' := (mkF m 11 #[vR ca, vI (0 : Int32), vI (2 : Int32), vR b322, vI (0 : Int32)] [(.int (2 : Int32)), (.int (0 : Int32))])) (fun τ κ => XS.iloadN X322.here hx rfl (hb hby d17_10) rfl κ) ?_
  have hc327 : (0 : Int32) < (2 : Int32) := by decide
  refine Gl.st (g' := (mkF m 15 #[vR ca, vI (0 : Int32), vI (2 : Int32), vR b322, vI (0 : Int32)] [(.ref b322)])) (fun τ κ => XS.icmpNo X322.here hx rfl (hb hby d17_11) rfl (tlt hc327).2.1 (XS.aloadN X322.here hx rfl (hb hby d17_14) rfl rfl κ)) ?_
  refine Gl.st (g' := (mkF m 18 #[vR ca, vI (0 : Int32), vI (2 : Int32), vR b322, vI (0 : Int32)] [(.ref ca), (.int (0 : Int32)), (.ref b322)])) (fun τ κ => XS.iload X322.here hx rfl (hb hby d17_15) rfl (XS.aloadN X322.here hx rfl (hb hby d17_17) rfl rfl κ)) ?_
  refine Gl.st (g' := (mkF m 19 #[vR ca, vI (0 : Int32), vI (2 : Int32), vR b322, vI (0 : Int32)] [(.int (0 : Int32)), (.ref ca), (.int (0 : Int32)), (.ref b322)])) (fun τ κ => XS.iloadN X322.here hx rfl (hb hby d17_18) rfl κ) ?_
  obtain ⟨cl_o328, Ar_o328, q_o328, S_o328, M_o328, H_o328, G_o328⟩ := id V_326
  have hin_o328 : ¬ ((0 : Int32) < 0 ∨ cl_o328.slots.size ≤ ((0 : Int32)).toNatClampNeg) := inb_of S_o328 ⟨by decide, by decide⟩
  refine Gl.st (g' := (mkF m 20 #[vR ca, vI (0 : Int32), vI (2 : Int32), vR b322, vI (0 : Int32)] [(.int c0), (.int (0 : Int32)), (.ref b322)])) (fun τ κ => X322.caload hx (j := (0 : Int32)) (v := (.int c0)) Ar_o328.1 (State.isArrayOf_alike hZ.alike Ar_o328.2.1) Ar_o328.2.2 hin_o328 (H_o328 0 (by rw [S_o328]; decide)) (g := (mkF m 19 #[vR ca, vI (0 : Int32), vI (2 : Int32), vR b322, vI (0 : Int32)] [(.int (0 : Int32)), (.ref ca), (.int (0 : Int32)), (.ref b322)])) rfl rfl (hb hby d17_19) _ κ) ?_
  obtain ⟨rv329, _, ⟨T329, L329, k329, n329⟩, -, X329, ⟨Lc329, hQ329, l329, y329, z329⟩, st329⟩ := Jvm.LawKit.callS X322 hx (y := (⟨"java/lang/StringUTF16", "putChar", "([BII)V"⟩ : MethodName)) hown (mvT hZ (w88_ hw)) (mvT hZ (w89_ hw)) (mvT hZ (w45_ hw)) (mvT hZ (w90_ hw)) (by decide) (backOf (W := 0) (rm20_2_0 l Z a0 hw [] b322 c0 kk322 (.int (0 : Int32)) (.int (0 : Int32)) (.int (0 : Int32)) (.int (0 : Int32)) T322.heap n0 Z322 S_323 S_324 S_325 V322 g_b322) hZ (w90_ hw) (w45_ hw) (by decide) (by decide)) (g := (mkF m 20 #[vR ca, vI (0 : Int32), vI (2 : Int32), vR b322, vI (0 : Int32)] [(.int c0), (.int (0 : Int32)), (.ref b322)])) rfl (by rw [hml]; rfl) (argsL := [(.ref b322), (.int (0 : Int32)), (.int c0)]) (rest := []) (lenOf pd_11 rfl) rfl (by show 2 * 0 + _ ≤ _; exact Nat.le_of_eq rfl) (hb hby d17_20) (fun _ _ => ⟨rfl, rfl, (by decide : 1 + 0 ≤ _), (by decide : 4 + 0 ≤ _)⟩)
  dsimp only [Pt.U, Pt.locs, Pt.cells, Pt.slots] at X329 l329 y329 z329 st329 hQ329
  subst l329 y329 z329
  obtain ⟨rfl, N329q, Kc329, V329⟩ := hQ329
  have S_330 := Sta.keepX S_323 Kc329 (allS (P := fun x => ∃ c : Cell, T322.heap[x]? = some c ∧ ∀ q, c.vm ≠ .statics q) (Arv.cellX V322) all0)
  have S_331 := Sta.keepX S_324 Kc329 (allS (P := fun x => ∃ c : Cell, T322.heap[x]? = some c ∧ ∀ q, c.vm ≠ .statics q) (Arv.cellX V322) all0)
  have S_332 := Sta.keepX S_325 Kc329 (allS (P := fun x => ∃ c : Cell, T322.heap[x]? = some c ∧ ∀ q, c.vm ≠ .statics q) (Arv.cellX V322) all0)
  have V_333 := V_326.keep Kc329 (ninS ne_ca_b322 nin0)
  have N329 := Fr.app N322 N329q
  have Z329 : n0 ≤ T329.heap.size := Nat.le_trans Z322 Kc329.1
  have K329 : Keep h0 T329.heap [] := K322.trans Kc329 (allS (Or.inr sz_b322) all0)
  refine Gl.st (g' := (mkF m 23 #[vR ca, vI (0 : Int32), vI (2 : Int32), vR b322, vI (0 : Int32)] [])) (fun τ κ => st329 _ κ) ?_
  refine Gl.st (g' := (mkF m 29 #[vR ca, vI (1 : Int32), vI (2 : Int32), vR b322, vI (1 : Int32)] [])) (fun τ κ => XS.iinc X329.here hx rfl (hb hby d17_23) rfl (l' := #[vR ca, vI (1 : Int32), vI (2 : Int32), vR b322, vI (0 : Int32)]) rfl (XS.iinc X329.here hx rfl (hb hby d17_26) rfl (l' := #[vR ca, vI (1 : Int32), vI (2 : Int32), vR b322, vI (1 : Int32)]) rfl κ)) ?_
  refine Gl.st (g' := (mkF m 10 #[vR ca, vI (1 : Int32), vI (2 : Int32), vR b322, vI (1 : Int32)] [(.int (1 : Int32))])) (fun τ κ => XS.goto X329.here hx rfl (pc0 := 29) (pc' := 8) rfl (hb hby d17_29) (by decide) (by decide) (XS.iload X329.here hx rfl (hb hby d17_8) rfl κ)) ?_
  refine Gl.st (g' := (mkF m 11 #[vR ca, vI (1 : Int32), vI (2 : Int32), vR b322, vI (1 : Int32)] [(.int (2 : Int32)), (.int (1 : Int32))])) (fun τ κ => XS.iloadN X329.here hx rfl (hb hby d17_10) rfl κ) ?_
  have hc335 : (1 : Int32) < (2 : Int32) := by decide
  refine Gl.st (g' := (mkF m 15 #[vR ca, vI (1 : Int32), vI (2 : Int32), vR b322, vI (1 : Int32)] [(.ref b322)])) (fun τ κ => XS.icmpNo X329.here hx rfl (hb hby d17_11) rfl (tlt hc335).2.1 (XS.aloadN X329.here hx rfl (hb hby d17_14) rfl rfl κ)) ?_
  refine Gl.st (g' := (mkF m 18 #[vR ca, vI (1 : Int32), vI (2 : Int32), vR b322, vI (1 : Int32)] [(.ref ca), (.int (1 : Int32)), (.ref b322)])) (fun τ κ => XS.iload X329.here hx rfl (hb hby d17_15) rfl (XS.aloadN X329.here hx rfl (hb hby d17_17) rfl rfl κ)) ?_
  refine Gl.st (g' := (mkF m 19 #[vR ca, vI (1 : Int32), vI (2 : Int32), vR b322, vI (1 : Int32)] [(.int (1 : Int32)), (.ref ca), (.int (1 : Int32)), (.ref b322)])) (fun τ κ => XS.iloadN X329.here hx rfl (hb hby d17_18) rfl κ) ?_
  obtain ⟨cl_o336, Ar_o336, q_o336, S_o336, M_o336, H_o336, G_o336⟩ := id V_333
  have hin_o336 : ¬ ((1 : Int32) < 0 ∨ cl_o336.slots.size ≤ ((1 : Int32)).toNatClampNeg) := inb_of S_o336 ⟨by decide, by decide⟩
  refine Gl.st (g' := (mkF m 20 #[vR ca, vI (1 : Int32), vI (2 : Int32), vR b322, vI (1 : Int32)] [(.int c1), (.int (1 : Int32)), (.ref b322)])) (fun τ κ => X329.caload hx (j := (1 : Int32)) (v := (.int c1)) Ar_o336.1 (State.isArrayOf_alike hZ.alike Ar_o336.2.1) Ar_o336.2.2 hin_o336 (H_o336 1 (by rw [S_o336]; decide)) (g := (mkF m 19 #[vR ca, vI (1 : Int32), vI (2 : Int32), vR b322, vI (1 : Int32)] [(.int (1 : Int32)), (.ref ca), (.int (1 : Int32)), (.ref b322)])) rfl rfl (hb hby d17_19) _ κ) ?_
  obtain ⟨rv337, _, ⟨T337, L337, k337, n337⟩, -, X337, ⟨Lc337, hQ337, l337, y337, z337⟩, st337⟩ := Jvm.LawKit.callS X329 hx (y := (⟨"java/lang/StringUTF16", "putChar", "([BII)V"⟩ : MethodName)) hown (mvT hZ (w88_ hw)) (mvT hZ (w89_ hw)) (mvT hZ (w45_ hw)) (mvT hZ (w90_ hw)) (by decide) (backOf (W := 0) (rm20_2_1 l Z a0 hw [] b322 c1 kk322 (.int (own_hi c0)) (.int (own_lo c0)) (.int (0 : Int32)) (.int (0 : Int32)) T329.heap n0 Z329 S_330 S_331 S_332 V329 g_b322) hZ (w90_ hw) (w45_ hw) (by decide) (by decide)) (g := (mkF m 20 #[vR ca, vI (1 : Int32), vI (2 : Int32), vR b322, vI (1 : Int32)] [(.int c1), (.int (1 : Int32)), (.ref b322)])) rfl (by rw [hml]; rfl) (argsL := [(.ref b322), (.int (1 : Int32)), (.int c1)]) (rest := []) (lenOf pd_11 rfl) rfl (by show 2 * 0 + _ ≤ _; exact Nat.le_of_eq rfl) (hb hby d17_20) (fun _ _ => ⟨rfl, rfl, (by decide : 1 + 0 ≤ _), (by decide : 4 + 0 ≤ _)⟩)
  dsimp only [Pt.U, Pt.locs, Pt.cells, Pt.slots] at X337 l337 y337 z337 st337 hQ337
  subst l337 y337 z337
  obtain ⟨rfl, N337q, Kc337, V337⟩ := hQ337
  have S_338 := Sta.keepX S_330 Kc337 (allS (P := fun x => ∃ c : Cell, T329.heap[x]? = some c ∧ ∀ q, c.vm ≠ .statics q) (Arv.cellX V329) all0)
  have S_339 := Sta.keepX S_331 Kc337 (allS (P := fun x => ∃ c : Cell, T329.heap[x]? = some c ∧ ∀ q, c.vm ≠ .statics q) (Arv.cellX V329) all0)
  have S_340 := Sta.keepX S_332 Kc337 (allS (P := fun x => ∃ c : Cell, T329.heap[x]? = some c ∧ ∀ q, c.vm ≠ .statics q) (Arv.cellX V329) all0)
  have V_341 := V_333.keep Kc337 (ninS ne_ca_b322 nin0)
  have N337 := Fr.app N329 N337q
  have Z337 : n0 ≤ T337.heap.size := Nat.le_trans Z329 Kc337.1
  have K337 : Keep h0 T337.heap [] := K329.trans Kc337 (allS (Or.inr sz_b322) all0)
  refine Gl.st (g' := (mkF m 23 #[vR ca, vI (1 : Int32), vI (2 : Int32), vR b322, vI (1 : Int32)] [])) (fun τ κ => st337 _ κ) ?_
  refine Gl.st (g' := (mkF m 29 #[vR ca, vI (2 : Int32), vI (2 : Int32), vR b322, vI (2 : Int32)] [])) (fun τ κ => XS.iinc X337.here hx rfl (hb hby d17_23) rfl (l' := #[vR ca, vI (2 : Int32), vI (2 : Int32), vR b322, vI (1 : Int32)]) rfl (XS.iinc X337.here hx rfl (hb hby d17_26) rfl (l' := #[vR ca, vI (2 : Int32), vI (2 : Int32), vR b322, vI (2 : Int32)]) rfl κ)) ?_
  refine Gl.st (g' := (mkF m 10 #[vR ca, vI (2 : Int32), vI (2 : Int32), vR b322, vI (2 : Int32)] [(.int (2 : Int32))])) (fun τ κ => XS.goto X337.here hx rfl (pc0 := 29) (pc' := 8) rfl (hb hby d17_29) (by decide) (by decide) (XS.iload X337.here hx rfl (hb hby d17_8) rfl κ)) ?_
  refine Gl.st (g' := (mkF m 11 #[vR ca, vI (2 : Int32), vI (2 : Int32), vR b322, vI (2 : Int32)] [(.int (2 : Int32)), (.int (2 : Int32))])) (fun τ κ => XS.iloadN X337.here hx rfl (hb hby d17_10) rfl κ) ?_
  have hc343 : ¬ ((2 : Int32) < (2 : Int32)) := by decide
  refine Gl.st (g' := (mkF m 33 #[vR ca, vI (2 : Int32), vI (2 : Int32), vR b322, vI (2 : Int32)] [(.ref b322)])) (fun τ κ => XS.icmpYes X337.here hx rfl (pc0 := 11) (pc' := 32) rfl (hb hby d17_11) rfl (flt hc343).2.1 (by decide) (by decide) (XS.aloadN X337.here hx rfl (hb hby d17_32) rfl rfl κ)) ?_
  exact Gl.ret (v := some (.ref b322)) X337 Bd.notSynchronized (fun h => by rw [Bd.returns] at h; cases h) rfl (fun fs hr => retAA X337 hx Bd.returns (hb hby d17_33) hr) (by decide) (by decide) ⟨b322, kk322, rfl, N337, K337, sz_b322, V337⟩
theorem ef_rm9_2 (m : MethodId) (ca : Addr) (u : Addr) : entryFrame m #[(.ref ca), (.int (0 : Int32)), (.ref u), (.int (0 : Int32)), (.int (2 : Int32))] 7 = mkF m 0 #[vR ca, vI (0 : Int32), vR u, vI (0 : Int32), vI (2 : Int32), .unset, .unset] [] := by first | (simp [entryFrame, mkF, argsToLocals, Value.category]; done) | rfl
def Q_rm9_2 (Z : State) (ca : Addr) (u : Addr) (kc ku : ClassId) (c0 c1 : Int32) (h0 : Heap) (n0 : Nat) (v : Option Value) (h : Heap) (L : List Loc) : Prop := ∃ j, v = some (.int j) ∧ Fr n0 L ∧ Keep h0 h [u] ∧ ((j = (2 : Int32) ∧ ¬ (255 : Int32) < c0 ∧ ¬ (255 : Int32) < c1 ∧ Arv Z h u ku .byte (2 : Int32) [(.int (own_lb c0)), (.int (own_lb c1))] (.int (0 : Int32))) ∨ (j = (0 : Int32) ∧ (255 : Int32) < c0) ∨ (j = (1 : Int32) ∧ (255 : Int32) < c1))
set_option maxRecDepth 65536 in
set_option maxHeartbeats 40000000 in
theorem rm9_2 (l : Launch) (Z : State) (a0 : Array Value) (hw : ∀ d ∈ tables_1, d.before a0 Z = true) (ws : List Jvm.Cond) (ca : Addr) (u : Addr) (kc ku : ClassId) (c0 c1 : Int32) (h0 : Heap) (n0 : Nat) (Z0 : n0 ≤ h0.size) (V0 : Arv Z h0 ca kc .char (2 : Int32) [(.int c0), (.int c1)] (.int (0 : Int32))) (V1 : Arv Z h0 u ku .byte (2 : Int32) [(.int (0 : Int32)), (.int (0 : Int32))] (.int (0 : Int32))) (gu : n0 ≤ u) (hne : ca ≠ u) :
    MetFree l (⟨"java/lang/StringUTF16", "compress", "([CI[BII)I"⟩ : MethodName) (head1 (Jvm.Cond.code (⟨"java/lang/StringUTF16", "compress", "([CI[BII)I"⟩ : MethodName) jdk_52_method_21_code 7 (some .int) :: ws) ({ frames := 0, cells := 0, slots := 0, locals := 0 } : Room)) (fun aα Uα => aα = #[(.ref ca), (.int (0 : Int32)), (.ref u), (.int (0 : Int32)), (.int (2 : Int32))] ∧ Z.Warmed39 Uα.vm ∧ Uα.heap = h0) (fun _ _ _ _ _ => True) (fun _ Uα oα Uβ => ∃ vα Lα, oα = .returned vα ∧ Q_rm9_2 Z ca u kc ku c0 c1 h0 n0 vα Uβ.heap Lα ∧ FrameEnd Uα oα Uβ Lα ({ frames := 0, cells := 0, slots := 0, locals := 0 } : Room).cells ({ frames := 0, cells := 0, slots := 0, locals := 0 } : Room).slots) := by
  refine MetFree.of_bodySF (plainFor_of_name pn_java_lang_StringUTF16) hisR ?_
  intro p e s m args below meth c s₁ Bd hml0 hP hKα
  obtain ⟨rfl, hZ, hh⟩ := hP
  have hx := Bd.exec
  have hby := Bd.bytes
  have hml : c.maxLocals = 7 := hml0
  have hown : s.vm.findClass "java/lang/StringUTF16" = some m.cls := findClass_of_methodNamed Bd.named
  have hnm := (name_of_methodNamed Bd.named Bd.method).1
  have X0 : Stand p l e ({ frames := 0, cells := 0, slots := 0, locals := 0 } : Room) s m #[(.ref ca), (.int (0 : Int32)), (.ref u), (.int (0 : Int32)), (.int (2 : Int32))] below meth c s₁ [] 0 0 := Stand.of_body Bd
  have e0 : s₁.heap = h0 := by rw [← hh, Bd.state]; rfl
  have N0 := Fr.nil n0
  suffices k0 : Gl p e below s (Q_rm9_2 Z ca u kc ku c0 c1 h0 n0) ({ frames := 0, cells := 0, slots := 0, locals := 0 } : Room).cells ({ frames := 0, cells := 0, slots := 0, locals := 0 } : Room).slots s₁ (mkF m 0 #[vR ca, vI (0 : Int32), vR u, vI (0 : Int32), vI (2 : Int32), .unset, .unset] []) from Gl.st (fun τ κ => castTop (ef_rm9_2 m ca u) κ) k0
  refine Gl.st (g' := (mkF m 3 #[vR ca, vI (0 : Int32), vR u, vI (0 : Int32), vI (2 : Int32), vI (0 : Int32), .unset] [])) (fun τ κ => XS.iconst X0.here hx rfl (hb hby d9_0) (XS.istore X0.here hx rfl (hb hby d9_1) rfl (l' := #[vR ca, vI (0 : Int32), vR u, vI (0 : Int32), vI (2 : Int32), vI (0 : Int32), .unset]) rfl κ)) ?_
  refine Gl.st (g' := (mkF m 7 #[vR ca, vI (0 : Int32), vR u, vI (0 : Int32), vI (2 : Int32), vI (0 : Int32), .unset] [(.int (2 : Int32)), (.int (0 : Int32))])) (fun τ κ => XS.iload X0.here hx rfl (hb hby d9_3) rfl (XS.iload X0.here hx rfl (hb hby d9_5) rfl κ)) ?_
  have hc344 : (0 : Int32) < (2 : Int32) := by decide
  refine Gl.st (g' := (mkF m 11 #[vR ca, vI (0 : Int32), vR u, vI (0 : Int32), vI (2 : Int32), vI (0 : Int32), .unset] [(.ref ca)])) (fun τ κ => XS.icmpNo X0.here hx rfl (hb hby d9_7) rfl (tlt hc344).2.1 (XS.aloadN X0.here hx rfl (hb hby d9_10) rfl rfl κ)) ?_
  refine Gl.st (g' := (mkF m 12 #[vR ca, vI (0 : Int32), vR u, vI (0 : Int32), vI (2 : Int32), vI (0 : Int32), .unset] [(.int (0 : Int32)), (.ref ca)])) (fun τ κ => XS.iloadN X0.here hx rfl (hb hby d9_11) rfl κ) ?_
  obtain ⟨cl_o345, Ar_o345, q_o345, S_o345, M_o345, H_o345, G_o345⟩ := id V0
  have hin_o345 : ¬ ((0 : Int32) < 0 ∨ cl_o345.slots.size ≤ ((0 : Int32)).toNatClampNeg) := inb_of S_o345 ⟨by decide, by decide⟩
  refine Gl.st (g' := (mkF m 13 #[vR ca, vI (0 : Int32), vR u, vI (0 : Int32), vI (2 : Int32), vI (0 : Int32), .unset] [(.int c0)])) (fun τ κ => X0.caload hx (j := (0 : Int32)) (v := (.int c0)) (by rw [e0]; exact Ar_o345.1) (State.isArrayOf_alike hZ.alike Ar_o345.2.1) Ar_o345.2.2 hin_o345 (H_o345 0 (by rw [S_o345]; decide)) (g := (mkF m 12 #[vR ca, vI (0 : Int32), vR u, vI (0 : Int32), vI (2 : Int32), vI (0 : Int32), .unset] [(.int (0 : Int32)), (.ref ca)])) rfl rfl (hb hby d9_12) _ κ) ?_
  refine Gl.st (g' := (mkF m 17 #[vR ca, vI (0 : Int32), vR u, vI (0 : Int32), vI (2 : Int32), vI (0 : Int32), vI c0] [(.int c0)])) (fun τ κ => XS.istore X0.here hx rfl (hb hby d9_13) rfl (l' := #[vR ca, vI (0 : Int32), vR u, vI (0 : Int32), vI (2 : Int32), vI (0 : Int32), vI c0]) rfl (XS.iload X0.here hx rfl (hb hby d9_15) rfl κ)) ?_
  refine Gl.st (g' := (mkF m 20 #[vR ca, vI (0 : Int32), vR u, vI (0 : Int32), vI (2 : Int32), vI (0 : Int32), vI c0] [(.int (255 : Int32)), (.int c0)])) (fun τ κ => XS.sipush X0.here hx rfl (hb hby d9_17) κ) ?_
  by_cases hc346 : (255 : Int32) < c0
  · -- pc 20: (255 : Int32) < c0
    refine Gl.st (g' := (mkF m 25 #[vR ca, vI (0 : Int32), vR u, vI (0 : Int32), vI (2 : Int32), vI (0 : Int32), vI c0] [(.int (0 : Int32))])) (fun τ κ => XS.icmpNo X0.here hx rfl (hb hby d9_20) rfl (tlt hc346).2.2.2 (XS.iload X0.here hx rfl (hb hby d9_23) rfl κ)) ?_
    exact Gl.ret (v := some (.int (0 : Int32))) X0 Bd.notSynchronized (fun h => by rw [Bd.returns] at h; cases h) e0 (fun fs hr => retI X0 hx Bd.returns (hb hby d9_25) hr) (by decide) (by decide) ⟨_, rfl, N0, (Keep.refl h0 [u]), Or.inr (Or.inl ⟨rfl, hc346⟩)⟩
  · -- pc 20: not (255 : Int32) < c0
    refine Gl.st (g' := (mkF m 27 #[vR ca, vI (0 : Int32), vR u, vI (0 : Int32), vI (2 : Int32), vI (0 : Int32), vI c0] [(.ref u)])) (fun τ κ => XS.icmpYes X0.here hx rfl (pc0 := 20) (pc' := 26) rfl (hb hby d9_20) rfl (flt hc346).2.2.2 (by decide) (by decide) (XS.aloadN X0.here hx rfl (hb hby d9_26) rfl rfl κ)) ?_
    refine Gl.st (g' := (mkF m 30 #[vR ca, vI (0 : Int32), vR u, vI (0 : Int32), vI (2 : Int32), vI (0 : Int32), vI c0] [(.int c0), (.int (0 : Int32)), (.ref u)])) (fun τ κ => XS.iloadN X0.here hx rfl (hb hby d9_27) rfl (XS.iload X0.here hx rfl (hb hby d9_28) rfl κ)) ?_
    refine Gl.st (g' := (mkF m 31 #[vR ca, vI (0 : Int32), vR u, vI (0 : Int32), vI (2 : Int32), vI (0 : Int32), vI c0] [(.int (c0.toInt8.toInt32)), (.int (0 : Int32)), (.ref u)])) (fun τ κ => XS.i2b X0.here hx rfl (hb hby d9_30) rfl κ) ?_
    obtain ⟨cl_o347, Ar_o347, q_o347, S_o347, M_o347, H_o347, G_o347⟩ := id V1
    have hin_o347 : ¬ ((0 : Int32) < 0 ∨ cl_o347.slots.size ≤ ((0 : Int32)).toNatClampNeg) := inb_of S_o347 ⟨by decide, by decide⟩
    obtain ⟨T348, h348, X348, e348, W348, st348⟩ := stB X0 hx hZ e0 Ar_o347 (j := (0 : Int32)) hin_o347 (g := (mkF m 31 #[vR ca, vI (0 : Int32), vR u, vI (0 : Int32), vI (2 : Int32), vI (0 : Int32), vI c0] [(.int (c0.toInt8.toInt32)), (.int (0 : Int32)), (.ref u)])) rfl rfl (hb hby d9_31)
    have V_349 := V0.other W348 hne
    have N348 := Fr.snoc X348 N0 gu
    have Z348 : n0 ≤ h348.size := Nat.le_trans Z0 (Nat.le_of_eq W348.size.symm)
    have K348 : Keep h0 h348 [u] := (Keep.refl h0 [u]).wr W348 (Or.inl (List.mem_of_getElem? (i := 0) rfl))
    have V_u_348 : Arv Z h348 u ku .byte (2 : Int32) [(.int (nar .byte (c0.toInt8.toInt32))), (.int (0 : Int32))] (.int (0 : Int32)) := Arv.set Ar_o347 q_o347 S_o347 M_o347 H_o347 G_o347 (fits_nar_byte _) W348 0 rfl (Nat.le_of_ble_eq_true rfl)
    refine Gl.st (g' := (mkF m 32 #[vR ca, vI (0 : Int32), vR u, vI (0 : Int32), vI (2 : Int32), vI (0 : Int32), vI c0] [])) (fun τ κ => st348 _ κ) ?_
    refine Gl.st (g' := (mkF m 38 #[vR ca, vI (1 : Int32), vR u, vI (1 : Int32), vI (2 : Int32), vI (0 : Int32), vI c0] [])) (fun τ κ => XS.iinc X348.here hx rfl (hb hby d9_32) rfl (l' := #[vR ca, vI (1 : Int32), vR u, vI (0 : Int32), vI (2 : Int32), vI (0 : Int32), vI c0]) rfl (XS.iinc X348.here hx rfl (hb hby d9_35) rfl (l' := #[vR ca, vI (1 : Int32), vR u, vI (1 : Int32), vI (2 : Int32), vI (0 : Int32), vI c0]) rfl κ)) ?_
    refine Gl.st (g' := (mkF m 3 #[vR ca, vI (1 : Int32), vR u, vI (1 : Int32), vI (2 : Int32), vI (1 : Int32), vI c0] [])) (fun τ κ => XS.iinc X348.here hx rfl (hb hby d9_38) rfl (l' := #[vR ca, vI (1 : Int32), vR u, vI (1 : Int32), vI (2 : Int32), vI (1 : Int32), vI c0]) rfl (XS.goto X348.here hx rfl (pc0 := 41) (pc' := 3) rfl (hb hby d9_41) (by decide) (by decide) κ)) ?_
    refine Gl.st (g' := (mkF m 7 #[vR ca, vI (1 : Int32), vR u, vI (1 : Int32), vI (2 : Int32), vI (1 : Int32), vI c0] [(.int (2 : Int32)), (.int (1 : Int32))])) (fun τ κ => XS.iload X348.here hx rfl (hb hby d9_3) rfl (XS.iload X348.here hx rfl (hb hby d9_5) rfl κ)) ?_
    have hc351 : (1 : Int32) < (2 : Int32) := by decide
    refine Gl.st (g' := (mkF m 11 #[vR ca, vI (1 : Int32), vR u, vI (1 : Int32), vI (2 : Int32), vI (1 : Int32), vI c0] [(.ref ca)])) (fun τ κ => XS.icmpNo X348.here hx rfl (hb hby d9_7) rfl (tlt hc351).2.1 (XS.aloadN X348.here hx rfl (hb hby d9_10) rfl rfl κ)) ?_
    refine Gl.st (g' := (mkF m 12 #[vR ca, vI (1 : Int32), vR u, vI (1 : Int32), vI (2 : Int32), vI (1 : Int32), vI c0] [(.int (1 : Int32)), (.ref ca)])) (fun τ κ => XS.iloadN X348.here hx rfl (hb hby d9_11) rfl κ) ?_
    obtain ⟨cl_o352, Ar_o352, q_o352, S_o352, M_o352, H_o352, G_o352⟩ := id V_349
    have hin_o352 : ¬ ((1 : Int32) < 0 ∨ cl_o352.slots.size ≤ ((1 : Int32)).toNatClampNeg) := inb_of S_o352 ⟨by decide, by decide⟩
    refine Gl.st (g' := (mkF m 13 #[vR ca, vI (1 : Int32), vR u, vI (1 : Int32), vI (2 : Int32), vI (1 : Int32), vI c0] [(.int c1)])) (fun τ κ => X348.caload hx (j := (1 : Int32)) (v := (.int c1)) (by rw [e348]; exact Ar_o352.1) (State.isArrayOf_alike hZ.alike Ar_o352.2.1) Ar_o352.2.2 hin_o352 (H_o352 1 (by rw [S_o352]; decide)) (g := (mkF m 12 #[vR ca, vI (1 : Int32), vR u, vI (1 : Int32), vI (2 : Int32), vI (1 : Int32), vI c0] [(.int (1 : Int32)), (.ref ca)])) rfl rfl (hb hby d9_12) _ κ) ?_
    refine Gl.st (g' := (mkF m 17 #[vR ca, vI (1 : Int32), vR u, vI (1 : Int32), vI (2 : Int32), vI (1 : Int32), vI c1] [(.int c1)])) (fun τ κ => XS.istore X348.here hx rfl (hb hby d9_13) rfl (l' := #[vR ca, vI (1 : Int32), vR u, vI (1 : Int32), vI (2 : Int32), vI (1 : Int32), vI c1]) rfl (XS.iload X348.here hx rfl (hb hby d9_15) rfl κ)) ?_
    refine Gl.st (g' := (mkF m 20 #[vR ca, vI (1 : Int32), vR u, vI (1 : Int32), vI (2 : Int32), vI (1 : Int32), vI c1] [(.int (255 : Int32)), (.int c1)])) (fun τ κ => XS.sipush X348.here hx rfl (hb hby d9_17) κ) ?_
    by_cases hc353 : (255 : Int32) < c1
    · -- pc 20: (255 : Int32) < c1
      refine Gl.st (g' := (mkF m 25 #[vR ca, vI (1 : Int32), vR u, vI (1 : Int32), vI (2 : Int32), vI (1 : Int32), vI c1] [(.int (1 : Int32))])) (fun τ κ => XS.icmpNo X348.here hx rfl (hb hby d9_20) rfl (tlt hc353).2.2.2 (XS.iload X348.here hx rfl (hb hby d9_23) rfl κ)) ?_
      exact Gl.ret (v := some (.int (1 : Int32))) X348 Bd.notSynchronized (fun h => by rw [Bd.returns] at h; cases h) e348 (fun fs hr => retI X348 hx Bd.returns (hb hby d9_25) hr) (by decide) (by decide) ⟨_, rfl, N348, K348, Or.inr (Or.inr (⟨rfl, hc353⟩))⟩
    · -- pc 20: not (255 : Int32) < c1
      refine Gl.st (g' := (mkF m 27 #[vR ca, vI (1 : Int32), vR u, vI (1 : Int32), vI (2 : Int32), vI (1 : Int32), vI c1] [(.ref u)])) (fun τ κ => XS.icmpYes X348.here hx rfl (pc0 := 20) (pc' := 26) rfl (hb hby d9_20) rfl (flt hc353).2.2.2 (by decide) (by decide) (XS.aloadN X348.here hx rfl (hb hby d9_26) rfl rfl κ)) ?_
      refine Gl.st (g' := (mkF m 30 #[vR ca, vI (1 : Int32), vR u, vI (1 : Int32), vI (2 : Int32), vI (1 : Int32), vI c1] [(.int c1), (.int (1 : Int32)), (.ref u)])) (fun τ κ => XS.iloadN X348.here hx rfl (hb hby d9_27) rfl (XS.iload X348.here hx rfl (hb hby d9_28) rfl κ)) ?_
      refine Gl.st (g' := (mkF m 31 #[vR ca, vI (1 : Int32), vR u, vI (1 : Int32), vI (2 : Int32), vI (1 : Int32), vI c1] [(.int (c1.toInt8.toInt32)), (.int (1 : Int32)), (.ref u)])) (fun τ κ => XS.i2b X348.here hx rfl (hb hby d9_30) rfl κ) ?_
      obtain ⟨cl_o354, Ar_o354, q_o354, S_o354, M_o354, H_o354, G_o354⟩ := id V_u_348
      have hin_o354 : ¬ ((1 : Int32) < 0 ∨ cl_o354.slots.size ≤ ((1 : Int32)).toNatClampNeg) := inb_of S_o354 ⟨by decide, by decide⟩
      obtain ⟨T355, h355, X355, e355, W355, st355⟩ := stB X348 hx hZ e348 Ar_o354 (j := (1 : Int32)) hin_o354 (g := (mkF m 31 #[vR ca, vI (1 : Int32), vR u, vI (1 : Int32), vI (2 : Int32), vI (1 : Int32), vI c1] [(.int (c1.toInt8.toInt32)), (.int (1 : Int32)), (.ref u)])) rfl rfl (hb hby d9_31)
      have V_356 := V_349.other W355 hne
      have N355 := Fr.snoc X355 N348 gu
      have Z355 : n0 ≤ h355.size := Nat.le_trans Z348 (Nat.le_of_eq W355.size.symm)
      have K355 : Keep h0 h355 [u] := K348.wr W355 (Or.inl (List.mem_of_getElem? (i := 0) rfl))
      have V_u_355 : Arv Z h355 u ku .byte (2 : Int32) [(.int (nar .byte (c0.toInt8.toInt32))), (.int (nar .byte (c1.toInt8.toInt32)))] (.int (0 : Int32)) := Arv.set Ar_o354 q_o354 S_o354 M_o354 H_o354 G_o354 (fits_nar_byte _) W355 1 rfl (Nat.le_of_ble_eq_true rfl)
      refine Gl.st (g' := (mkF m 32 #[vR ca, vI (1 : Int32), vR u, vI (1 : Int32), vI (2 : Int32), vI (1 : Int32), vI c1] [])) (fun τ κ => st355 _ κ) ?_
      refine Gl.st (g' := (mkF m 38 #[vR ca, vI (2 : Int32), vR u, vI (2 : Int32), vI (2 : Int32), vI (1 : Int32), vI c1] [])) (fun τ κ => XS.iinc X355.here hx rfl (hb hby d9_32) rfl (l' := #[vR ca, vI (2 : Int32), vR u, vI (1 : Int32), vI (2 : Int32), vI (1 : Int32), vI c1]) rfl (XS.iinc X355.here hx rfl (hb hby d9_35) rfl (l' := #[vR ca, vI (2 : Int32), vR u, vI (2 : Int32), vI (2 : Int32), vI (1 : Int32), vI c1]) rfl κ)) ?_
      refine Gl.st (g' := (mkF m 3 #[vR ca, vI (2 : Int32), vR u, vI (2 : Int32), vI (2 : Int32), vI (2 : Int32), vI c1] [])) (fun τ κ => XS.iinc X355.here hx rfl (hb hby d9_38) rfl (l' := #[vR ca, vI (2 : Int32), vR u, vI (2 : Int32), vI (2 : Int32), vI (2 : Int32), vI c1]) rfl (XS.goto X355.here hx rfl (pc0 := 41) (pc' := 3) rfl (hb hby d9_41) (by decide) (by decide) κ)) ?_
      refine Gl.st (g' := (mkF m 7 #[vR ca, vI (2 : Int32), vR u, vI (2 : Int32), vI (2 : Int32), vI (2 : Int32), vI c1] [(.int (2 : Int32)), (.int (2 : Int32))])) (fun τ κ => XS.iload X355.here hx rfl (hb hby d9_3) rfl (XS.iload X355.here hx rfl (hb hby d9_5) rfl κ)) ?_
      have hc358 : ¬ ((2 : Int32) < (2 : Int32)) := by decide
      refine Gl.st (g' := (mkF m 46 #[vR ca, vI (2 : Int32), vR u, vI (2 : Int32), vI (2 : Int32), vI (2 : Int32), vI c1] [(.int (2 : Int32))])) (fun τ κ => XS.icmpYes X355.here hx rfl (pc0 := 7) (pc' := 44) rfl (hb hby d9_7) rfl (flt hc358).2.1 (by decide) (by decide) (XS.iload X355.here hx rfl (hb hby d9_44) rfl κ)) ?_
      exact Gl.ret (v := some (.int (2 : Int32))) X355 Bd.notSynchronized (fun h => by rw [Bd.returns] at h; cases h) e355 (fun fs hr => retI X355 hx Bd.returns (hb hby d9_46) hr) (by decide) (by decide) ⟨_, rfl, N355, K355, Or.inl ⟨rfl, hc346, hc353, V_u_355⟩⟩
theorem ef_rm8_2 (m : MethodId) (ca : Addr) : entryFrame m #[(.ref ca), (.int (0 : Int32)), (.int (2 : Int32))] 6 = mkF m 0 #[vR ca, vI (0 : Int32), vI (2 : Int32), .unset, .unset, .unset] [] := by first | (simp [entryFrame, mkF, argsToLocals, Value.category]; done) | rfl
def Q_rm8_2 (Z : State) (ca : Addr) (kc : ClassId) (c0 c1 : Int32) (h0 : Heap) (n0 : Nat) (v : Option Value) (h : Heap) (L : List Loc) : Prop := ∃ b kk z vs, v = some (.ref b) ∧ Fr n0 L ∧ Keep h0 h [] ∧ h0.size ≤ b ∧ Arv Z h b kk .byte z vs (.int (0 : Int32)) ∧ own_bytes (2 : Int32) [c0, c1] z vs
set_option maxRecDepth 65536 in
set_option maxHeartbeats 40000000 in
theorem rm8_2 (l : Launch) (Z : State) (a0 : Array Value) (hw : ∀ d ∈ tables_1, d.before a0 Z = true) (ws : List Jvm.Cond) (ca : Addr) (kc : ClassId) (c0 c1 : Int32) (h0 : Heap) (n0 : Nat) (Z0 : n0 ≤ h0.size) (SA : Sta Z h0 "java/lang/StringUTF16" "$assertionsDisabled" "Z" (.int (1 : Int32))) (SH : Sta Z h0 "java/lang/StringUTF16" "HI_BYTE_SHIFT" "I" (.int (0 : Int32))) (SL : Sta Z h0 "java/lang/StringUTF16" "LO_BYTE_SHIFT" "I" (.int (8 : Int32))) (V0 : Arv Z h0 ca kc .char (2 : Int32) [(.int c0), (.int c1)] (.int (0 : Int32))) (hc0 : own_ch c0) (hc1 : own_ch c1) :
    MetFree l (⟨"java/lang/StringUTF16", "compress", "([CII)[B"⟩ : MethodName) (head1 (Jvm.Cond.code (⟨"java/lang/StringUTF16", "compress", "([CII)[B"⟩ : MethodName) jdk_52_method_16_code 6 (some (.array .byte)) :: ws) ({ frames := 3, cells := 2, slots := 6, locals := 40 } : Room)) (fun aα Uα => aα = #[(.ref ca), (.int (0 : Int32)), (.int (2 : Int32))] ∧ Z.Warmed39 Uα.vm ∧ Uα.heap = h0) (fun _ _ _ _ _ => True) (fun _ Uα oα Uβ => ∃ vα Lα, oα = .returned vα ∧ Q_rm8_2 Z ca kc c0 c1 h0 n0 vα Uβ.heap Lα ∧ FrameEnd Uα oα Uβ Lα ({ frames := 3, cells := 2, slots := 6, locals := 40 } : Room).cells ({ frames := 3, cells := 2, slots := 6, locals := 40 } : Room).slots) := by
  refine MetFree.of_bodySF (plainFor_of_name pn_java_lang_StringUTF16) hisR ?_
  intro p e s m args below meth c s₁ Bd hml0 hP hKα
  obtain ⟨rfl, hZ, hh⟩ := hP
  have hx := Bd.exec
  have hby := Bd.bytes
  have hml : c.maxLocals = 6 := hml0
  have hown : s.vm.findClass "java/lang/StringUTF16" = some m.cls := findClass_of_methodNamed Bd.named
  have hnm := (name_of_methodNamed Bd.named Bd.method).1
  have X0 : Stand p l e ({ frames := 3, cells := 2, slots := 6, locals := 40 } : Room) s m #[(.ref ca), (.int (0 : Int32)), (.int (2 : Int32))] below meth c s₁ [] 0 0 := Stand.of_body Bd
  have e0 : s₁.heap = h0 := by rw [← hh, Bd.state]; rfl
  have N0 := Fr.nil n0
  suffices k0 : Gl p e below s (Q_rm8_2 Z ca kc c0 c1 h0 n0) ({ frames := 3, cells := 2, slots := 6, locals := 40 } : Room).cells ({ frames := 3, cells := 2, slots := 6, locals := 40 } : Room).slots s₁ (mkF m 0 #[vR ca, vI (0 : Int32), vI (2 : Int32), .unset, .unset, .unset] []) from Gl.st (fun τ κ => castTop (ef_rm8_2 m ca) κ) k0
  refine Gl.st (g' := (mkF m 1 #[vR ca, vI (0 : Int32), vI (2 : Int32), .unset, .unset, .unset] [(.int (2 : Int32))])) (fun τ κ => XS.iloadN X0.here hx rfl (hb hby d8_0) rfl κ) ?_
  obtain ⟨T359, h359, k359, X359, e359, E359, A359, st359⟩ := newP X0 hx hZ (hw _ (List.mem_of_getElem? (i := 21) rfl)) e0 (g := (mkF m 1 #[vR ca, vI (0 : Int32), vI (2 : Int32), .unset, .unset, .unset] [(.int (2 : Int32))])) rfl (hb hby d8_1) rfl (by decide) (cap := 2) (by decide) (by decide) (by decide) (by decide)
  obtain ⟨b359, g359⟩ : ∃ z, z = h0.size := ⟨_, rfl⟩
  rw [← g359] at A359 st359
  have ne_ca_b359 : ca ≠ b359 := Nat.ne_of_lt (Nat.lt_of_lt_of_le V0.lt (Nat.le_of_eq g359.symm))
  have S_360 := SA.ext E359
  have S_361 := SH.ext E359
  have S_362 := SL.ext E359
  have V_363 := V0.ext E359
  have g_b359 : n0 ≤ b359 := Nat.le_trans Z0 (Nat.le_of_eq g359.symm)
  have sz_b359 : h0.size ≤ b359 := Nat.le_trans (Keep.refl h0 []).1 (Nat.le_of_eq g359.symm)
  have Z359 : n0 ≤ h359.size := Nat.le_trans Z0 E359.1
  have K359 : Keep h0 h359 [] := (Keep.refl h0 []).ext E359
  have V_b359 : Arv Z h359 b359 k359 .byte (2 : Int32) [(.int (0 : Int32)), (.int (0 : Int32))] (.int (0 : Int32)) := (Arv.new A359 (by decide)).pad (pad_rep [] (.int (0 : Int32)) 2)
  refine Gl.st (g' := (mkF m 3 #[vR ca, vI (0 : Int32), vI (2 : Int32), .unset, .unset, .unset] [(.ref b359)])) (fun τ κ => st359 _ κ) ?_
  refine Gl.st (g' := (mkF m 5 #[vR ca, vI (0 : Int32), vI (2 : Int32), vR b359, .unset, .unset] [(.ref ca)])) (fun τ κ => XS.astoreN X359.here hx rfl (hb hby d8_3) rfl rfl (l' := #[vR ca, vI (0 : Int32), vI (2 : Int32), vR b359, .unset, .unset]) rfl (XS.aloadN X359.here hx rfl (hb hby d8_4) rfl rfl κ)) ?_
  refine Gl.st (g' := (mkF m 7 #[vR ca, vI (0 : Int32), vI (2 : Int32), vR b359, .unset, .unset] [(.ref b359), (.int (0 : Int32)), (.ref ca)])) (fun τ κ => XS.iloadN X359.here hx rfl (hb hby d8_5) rfl (XS.aloadN X359.here hx rfl (hb hby d8_6) rfl rfl κ)) ?_
  refine Gl.st (g' := (mkF m 9 #[vR ca, vI (0 : Int32), vI (2 : Int32), vR b359, .unset, .unset] [(.int (2 : Int32)), (.int (0 : Int32)), (.ref b359), (.int (0 : Int32)), (.ref ca)])) (fun τ κ => XS.iconst X359.here hx rfl (hb hby d8_7) (XS.iloadN X359.here hx rfl (hb hby d8_8) rfl κ)) ?_
  obtain ⟨rv364, _, ⟨T364, L364, k364, n364⟩, -, X364, ⟨Lc364, hQ364, l364, y364, z364⟩, st364⟩ := Jvm.LawKit.callS X359 hx (y := (⟨"java/lang/StringUTF16", "compress", "([CI[BII)I"⟩ : MethodName)) hown (mvT hZ (w47_ hw)) (mvT hZ (w48_ hw)) (mvT hZ (w45_ hw)) (mvT hZ (w49_ hw)) (by decide) (backOf (W := 0) (rm9_2 l Z a0 hw [] ca b359 kc k359 c0 c1 h359 n0 Z359 V_363 V_b359 g_b359 ne_ca_b359) hZ (w49_ hw) (w45_ hw) (by decide) (by decide)) (g := (mkF m 9 #[vR ca, vI (0 : Int32), vI (2 : Int32), vR b359, .unset, .unset] [(.int (2 : Int32)), (.int (0 : Int32)), (.ref b359), (.int (0 : Int32)), (.ref ca)])) rfl (by rw [hml]; rfl) (argsL := [(.ref ca), (.int (0 : Int32)), (.ref b359), (.int (0 : Int32)), (.int (2 : Int32))]) (rest := []) (lenOf pd_12 rfl) rfl (by show 2 * 0 + _ ≤ _; exact Nat.le_of_eq rfl) (hb hby d8_9) (fun _ _ => ⟨rfl, e359, (by decide : 1 + 0 ≤ _), (by decide : 2 + 0 ≤ _)⟩)
  dsimp only [Pt.U, Pt.locs, Pt.cells, Pt.slots] at X364 l364 y364 z364 st364 hQ364
  subst l364 y364 z364
  obtain ⟨j, rfl, N364q, Kc364, hj⟩ := hQ364
  have S_365 := Sta.keepX S_360 Kc364 (allS (P := fun x => ∃ c : Cell, h359[x]? = some c ∧ ∀ q, c.vm ≠ .statics q) (Arv.cellX V_b359) all0)
  have S_366 := Sta.keepX S_361 Kc364 (allS (P := fun x => ∃ c : Cell, h359[x]? = some c ∧ ∀ q, c.vm ≠ .statics q) (Arv.cellX V_b359) all0)
  have S_367 := Sta.keepX S_362 Kc364 (allS (P := fun x => ∃ c : Cell, h359[x]? = some c ∧ ∀ q, c.vm ≠ .statics q) (Arv.cellX V_b359) all0)
  have V_368 := V_363.keep Kc364 (ninS ne_ca_b359 nin0)
  have N364 := Fr.app N0 N364q
  have Z364 : n0 ≤ T364.heap.size := Nat.le_trans Z359 Kc364.1
  have K364 : Keep h0 T364.heap [] := K359.trans Kc364 (allS (Or.inr sz_b359) all0)
  refine Gl.st (g' := (mkF m 12 #[vR ca, vI (0 : Int32), vI (2 : Int32), vR b359, .unset, .unset] [(.int j)])) (fun τ κ => st364 _ κ) ?_
  rcases hj with ⟨rfl, q0, q1, Vj⟩ | hj
  · -- 2
    refine Gl.st (g' := (mkF m 16 #[vR ca, vI (0 : Int32), vI (2 : Int32), vR b359, vI (2 : Int32), .unset] [(.int (2 : Int32))])) (fun τ κ => XS.istore X364.here hx rfl (hb hby d8_12) rfl (l' := #[vR ca, vI (0 : Int32), vI (2 : Int32), vR b359, vI (2 : Int32), .unset]) rfl (XS.iload X364.here hx rfl (hb hby d8_14) rfl κ)) ?_
    refine Gl.st (g' := (mkF m 17 #[vR ca, vI (0 : Int32), vI (2 : Int32), vR b359, vI (2 : Int32), .unset] [(.int (2 : Int32)), (.int (2 : Int32))])) (fun τ κ => XS.iloadN X364.here hx rfl (hb hby d8_16) rfl κ) ?_
    have hc370 : (2 : Int32) = (2 : Int32) := by decide
    refine Gl.st (g' := (mkF m 58 #[vR ca, vI (0 : Int32), vI (2 : Int32), vR b359, vI (2 : Int32), .unset] [(.ref b359)])) (fun τ κ => XS.icmpYes X364.here hx rfl (pc0 := 17) (pc' := 57) rfl (hb hby d8_17) rfl (teq hc370).1 (by decide) (by decide) (XS.aloadN X364.here hx rfl (hb hby d8_57) rfl rfl κ)) ?_
    exact Gl.ret (v := some (.ref b359)) X364 Bd.notSynchronized (fun h => by rw [Bd.returns] at h; cases h) rfl (fun fs hr => retAA X364 hx Bd.returns (hb hby d8_58) hr) (by decide) (by decide) ⟨b359, k359, (2 : Int32), [(.int (own_lb c0)), (.int (own_lb c1))], rfl, N364, K364, sz_b359, Vj, Or.inl ⟨rfl, (fun i hi => match i, hi with | 0, _ => ⟨_, rfl, own_lat hc0 q0⟩ | 1, _ => ⟨_, rfl, own_lat hc1 q1⟩ | (i + 2), hi => absurd hi (Nat.not_lt.mpr (Nat.le_add_left 2 _)))⟩⟩
  · -- 0
    obtain ⟨yy, yz, hg, hq⟩ : ∃ yy yz, (¬ j = (2 : Int32) ∧ (¬ (j <<< ((1 : Int32) &&& 31)) < 0 ∧ (j <<< ((1 : Int32) &&& 31)) < (4 : Int32)) ∧ (¬ ((j <<< ((1 : Int32) &&& 31)) + (1 : Int32)) < 0 ∧ ((j <<< ((1 : Int32) &&& 31)) + (1 : Int32)) < (4 : Int32)) ∧ ([(.int (own_hi c0)), (.int (own_lo c0)), (.int (own_hi c1)), (.int (own_lo c1))] : List Value).getD ((j <<< ((1 : Int32) &&& 31))).toNatClampNeg (.int 0) = .int yy ∧ ([(.int (own_hi c0)), (.int (own_lo c0)), (.int (own_hi c1)), (.int (own_lo c1))] : List Value).getD (((j <<< ((1 : Int32) &&& 31)) + (1 : Int32))).toNatClampNeg (.int 0) = .int yz) ∧ (255 : Int32) < own_u16E yy yz := by
      rcases hj with ⟨rfl, q0⟩ | ⟨rfl, q1⟩
      · exact ⟨own_hi c0, own_lo c0, ⟨by decide, by decide, by decide, rfl, rfl⟩, by rw [own_join hc0]; exact q0⟩
      · exact ⟨own_hi c1, own_lo c1, ⟨by decide, by decide, by decide, rfl, rfl⟩, by rw [own_join hc1]; exact q1⟩
    refine Gl.st (g' := (mkF m 16 #[vR ca, vI (0 : Int32), vI (2 : Int32), vR b359, vI j, .unset] [(.int j)])) (fun τ κ => XS.istore X364.here hx rfl (hb hby d8_12) rfl (l' := #[vR ca, vI (0 : Int32), vI (2 : Int32), vR b359, vI j, .unset]) rfl (XS.iload X364.here hx rfl (hb hby d8_14) rfl κ)) ?_
    refine Gl.st (g' := (mkF m 17 #[vR ca, vI (0 : Int32), vI (2 : Int32), vR b359, vI j, .unset] [(.int (2 : Int32)), (.int j)])) (fun τ κ => XS.iloadN X364.here hx rfl (hb hby d8_16) rfl κ) ?_
    have hc371 : ¬ (j = (2 : Int32)) := hg.1
    refine Gl.st (g' := (mkF m 21 #[vR ca, vI (0 : Int32), vI (2 : Int32), vR b359, vI j, .unset] [(.ref ca)])) (fun τ κ => XS.icmpNo X364.here hx rfl (hb hby d8_17) rfl (feq hc371).1 (XS.aloadN X364.here hx rfl (hb hby d8_20) rfl rfl κ)) ?_
    refine Gl.st (g' := (mkF m 23 #[vR ca, vI (0 : Int32), vI (2 : Int32), vR b359, vI j, .unset] [(.int (2 : Int32)), (.int (0 : Int32)), (.ref ca)])) (fun τ κ => XS.iloadN X364.here hx rfl (hb hby d8_21) rfl (XS.iloadN X364.here hx rfl (hb hby d8_22) rfl κ)) ?_
    obtain ⟨rv372, _, ⟨T372, L372, k372, n372⟩, -, X372, ⟨Lc372, hQ372, l372, y372, z372⟩, st372⟩ := Jvm.LawKit.callS X364 hx (y := (⟨"java/lang/StringUTF16", "toBytes", "([CII)[B"⟩ : MethodName)) hown (mvT hZ (w78_ hw)) (mvT hZ (w79_ hw)) (mvT hZ (w45_ hw)) (mvT hZ (w80_ hw)) (by decide) (backOf (W := 0) (rm17_2 l Z a0 hw [] ca kc c0 c1 T364.heap n0 Z364 S_365 S_366 S_367 V_368) hZ (w80_ hw) (w45_ hw) (by decide) (by decide)) (g := (mkF m 23 #[vR ca, vI (0 : Int32), vI (2 : Int32), vR b359, vI j, .unset] [(.int (2 : Int32)), (.int (0 : Int32)), (.ref ca)])) rfl (by rw [hml]; rfl) (argsL := [(.ref ca), (.int (0 : Int32)), (.int (2 : Int32))]) (rest := []) (lenOf pd_13 rfl) rfl (by show 2 * 0 + _ ≤ _; exact Nat.le_of_eq rfl) (hb hby d8_23) (fun _ _ => ⟨rfl, rfl, (by decide : 1 + 1 ≤ _), (by decide : 2 + 4 ≤ _)⟩)
    dsimp only [Pt.U, Pt.locs, Pt.cells, Pt.slots] at X372 l372 y372 z372 st372 hQ372
    subst l372 y372 z372
    obtain ⟨b372, kk372, rfl, N372q, Kc372, s372, V372⟩ := hQ372
    have ne_ca_b372 : ca ≠ b372 := Nat.ne_of_lt (Nat.lt_of_lt_of_le V_368.lt s372)
    have g_b372 : n0 ≤ b372 := Nat.le_trans Z364 s372
    have sz_b372 : h0.size ≤ b372 := Nat.le_trans K364.1 s372
    have S_373 := Sta.keepX S_365 Kc372 all0
    have S_374 := Sta.keepX S_366 Kc372 all0
    have S_375 := Sta.keepX S_367 Kc372 all0
    have V_376 := V_368.keep Kc372 nin0
    have N372 := Fr.app N364 N372q
    have Z372 : n0 ≤ T372.heap.size := Nat.le_trans Z364 Kc372.1
    have K372 : Keep h0 T372.heap [] := K364.trans Kc372 all0
    refine Gl.st (g' := (mkF m 26 #[vR ca, vI (0 : Int32), vI (2 : Int32), vR b359, vI j, .unset] [(.ref b372)])) (fun τ κ => st372 _ κ) ?_
    refine Gl.st (g' := (mkF m 30 #[vR ca, vI (0 : Int32), vI (2 : Int32), vR b359, vI j, vR b372] [(.ref b372)])) (fun τ κ => XS.astore X372.here hx rfl (hb hby d8_26) rfl rfl (l' := #[vR ca, vI (0 : Int32), vI (2 : Int32), vR b359, vI j, vR b372]) rfl (XS.aload X372.here hx rfl (hb hby d8_28) rfl rfl κ)) ?_
    refine Gl.st (g' := (mkF m 32 #[vR ca, vI (0 : Int32), vI (2 : Int32), vR b359, vI j, vR b372] [(.int j), (.ref b372)])) (fun τ κ => XS.iload X372.here hx rfl (hb hby d8_30) rfl κ) ?_
    obtain ⟨rv377, _, ⟨T377, L377, k377, n377⟩, -, X377, ⟨Lc377, hQ377, l377, y377, z377⟩, st377⟩ := Jvm.LawKit.callS X372 hx (y := (⟨"java/lang/StringUTF16", "getChar", "([BI)C"⟩ : MethodName)) hown (mvT hZ (w94_ hw)) (mvT hZ (w95_ hw)) (mvT hZ (w45_ hw)) (mvT hZ (w96_ hw)) (by decide) (backOf (W := 0) (rm21 l Z a0 hw [] b372 j kk372 (4 : Int32) [(.int (own_hi c0)), (.int (own_lo c0)), (.int (own_hi c1)), (.int (own_lo c1))] yy yz T372.heap n0 Z372 S_373 S_374 S_375 V372 hg.2.1 hg.2.2.1 hg.2.2.2.1 hg.2.2.2.2) hZ (w96_ hw) (w45_ hw) (by decide) (by decide)) (g := (mkF m 32 #[vR ca, vI (0 : Int32), vI (2 : Int32), vR b359, vI j, vR b372] [(.int j), (.ref b372)])) rfl (by rw [hml]; rfl) (argsL := [(.ref b372), (.int j)]) (rest := []) (lenOf pd_5 rfl) rfl (by show 2 * 0 + _ ≤ _; exact Nat.le_of_eq rfl) (hb hby d8_32) (fun _ _ => ⟨rfl, rfl, (by decide : 2 + 0 ≤ _), (by decide : 6 + 0 ≤ _)⟩)
    dsimp only [Pt.U, Pt.locs, Pt.cells, Pt.slots] at X377 l377 y377 z377 st377 hQ377
    subst l377 y377 z377
    obtain ⟨hq377, N377q, e377⟩ := hQ377
    have hq377 : rv377 = some (.int (own_u16E yy yz)) := hq377
    subst hq377
    have N377 := Fr.app N372 N377q
    refine Gl.st (g' := (mkF m 35 #[vR ca, vI (0 : Int32), vI (2 : Int32), vR b359, vI j, vR b372] [(.int (own_u16E yy yz))])) (fun τ κ => st377 _ κ) ?_
    refine Gl.st (g' := (mkF m 38 #[vR ca, vI (0 : Int32), vI (2 : Int32), vR b359, vI j, vR b372] [(.int (255 : Int32)), (.int (own_u16E yy yz))])) (fun τ κ => XS.sipush X377.here hx rfl (hb hby d8_35) κ) ?_
    have hc378 : (255 : Int32) < (own_u16E yy yz) := hq
    refine Gl.st (g' := (mkF m 56 #[vR ca, vI (0 : Int32), vI (2 : Int32), vR b359, vI j, vR b372] [(.ref b372)])) (fun τ κ => XS.icmpYes X377.here hx rfl (pc0 := 38) (pc' := 54) rfl (hb hby d8_38) rfl (tlt hc378).2.2.1 (by decide) (by decide) (XS.aload X377.here hx rfl (hb hby d8_54) rfl rfl κ)) ?_
    exact Gl.ret (v := some (.ref b372)) X377 Bd.notSynchronized (fun h => by rw [Bd.returns] at h; cases h) e377 (fun fs hr => retAA X377 hx Bd.returns (hb hby d8_56) hr) (by decide) (by decide) ⟨b372, kk372, (4 : Int32), [(.int (own_hi c0)), (.int (own_lo c0)), (.int (own_hi c1)), (.int (own_lo c1))], rfl, N377, K372, sz_b372, V372, Or.inr ⟨by decide, (fun i hi => match i, hi with | 0, _ => ⟨_, _, rfl, rfl, own_join hc0⟩ | 1, _ => ⟨_, _, rfl, rfl, own_join hc1⟩ | (i + 2), hi => absurd hi (Nat.not_lt.mpr (Nat.le_add_left 2 _)))⟩⟩
theorem ef_rm10_2_0 (m : MethodId) (b : Addr) : entryFrame m #[(.ref b), (.int (2 : Int32))] 2 = mkF m 0 #[vR b, vI (2 : Int32)] [] := by first | (simp [entryFrame, mkF, argsToLocals, Value.category]; done) | rfl
def Q_rm10_2_0 (Z : State) (b : Addr) (kb : ClassId) (vs : List Value) (h0 : Heap) (n0 : Nat) (v : Option Value) (h : Heap) (L : List Loc) : Prop := v = some (.int (0 : Int32)) ∧ Fr n0 L ∧ h = h0
set_option maxRecDepth 65536 in
set_option maxHeartbeats 40000000 in
theorem rm10_2_0 (l : Launch) (Z : State) (a0 : Array Value) (hw : ∀ d ∈ tables_1, d.before a0 Z = true) (ws : List Jvm.Cond) (b : Addr) (kb : ClassId) (vs : List Value) (h0 : Heap) (n0 : Nat) (Z0 : n0 ≤ h0.size) (V0 : Arv Z h0 b kb .byte (2 : Int32) vs (.int (0 : Int32))) :
    MetFree l (⟨"java/lang/StringUTF16", "coderFromArrayLen", "([BI)B"⟩ : MethodName) (head1 (Jvm.Cond.code (⟨"java/lang/StringUTF16", "coderFromArrayLen", "([BI)B"⟩ : MethodName) jdk_52_method_15_code 2 (some .byte) :: ws) ({ frames := 0, cells := 0, slots := 0, locals := 0 } : Room)) (fun aα Uα => aα = #[(.ref b), (.int (2 : Int32))] ∧ Z.Warmed39 Uα.vm ∧ Uα.heap = h0) (fun _ _ _ _ _ => True) (fun _ Uα oα Uβ => ∃ vα Lα, oα = .returned vα ∧ Q_rm10_2_0 Z b kb vs h0 n0 vα Uβ.heap Lα ∧ FrameEnd Uα oα Uβ Lα ({ frames := 0, cells := 0, slots := 0, locals := 0 } : Room).cells ({ frames := 0, cells := 0, slots := 0, locals := 0 } : Room).slots) := by
  refine MetFree.of_bodySF (plainFor_of_name pn_java_lang_StringUTF16) hisR ?_
  intro p e s m args below meth c s₁ Bd hml0 hP hKα
  obtain ⟨rfl, hZ, hh⟩ := hP
  have hx := Bd.exec
  have hby := Bd.bytes
  have hml : c.maxLocals = 2 := hml0
  have hown : s.vm.findClass "java/lang/StringUTF16" = some m.cls := findClass_of_methodNamed Bd.named
  have hnm := (name_of_methodNamed Bd.named Bd.method).1
  have X0 : Stand p l e ({ frames := 0, cells := 0, slots := 0, locals := 0 } : Room) s m #[(.ref b), (.int (2 : Int32))] below meth c s₁ [] 0 0 := Stand.of_body Bd
  have e0 : s₁.heap = h0 := by rw [← hh, Bd.state]; rfl
  have N0 := Fr.nil n0
  suffices k0 : Gl p e below s (Q_rm10_2_0 Z b kb vs h0 n0) ({ frames := 0, cells := 0, slots := 0, locals := 0 } : Room).cells ({ frames := 0, cells := 0, slots := 0, locals := 0 } : Room).slots s₁ (mkF m 0 #[vR b, vI (2 : Int32)] []) from Gl.st (fun τ κ => castTop (ef_rm10_2_0 m b) κ) k0
  refine Gl.st (g' := (mkF m 2 #[vR b, vI (2 : Int32)] [(.ref b), (.int (2 : Int32))])) (fun τ κ => XS.iloadN X0.here hx rfl (hb hby d10_0) rfl (XS.aloadN X0.here hx rfl (hb hby d10_1) rfl rfl κ)) ?_
  obtain ⟨cl_o379, Ar_o379, q_o379, S_o379, M_o379, H_o379, G_o379⟩ := id V0
  refine Gl.st (g' := (mkF m 3 #[vR b, vI (2 : Int32)] [(.int (2 : Int32)), (.int (2 : Int32))])) (fun τ κ => X0.arraylength hx (by rw [e0]; exact Ar_o379.1) (State.isArrayOf_alike hZ.alike Ar_o379.2.1) (g := (mkF m 2 #[vR b, vI (2 : Int32)] [(.ref b), (.int (2 : Int32))])) rfl rfl (hb hby d10_2) _ (by rw [len_of S_o379 M_o379]; exact κ)) ?_
  refine Gl.st (g' := (mkF m 6 #[vR b, vI (2 : Int32)] [(.int (31 : Int32)), (.int (0 : Int32))])) (fun τ κ => XS.isub X0.here hx rfl (hb hby d10_3) rfl (XS.bipush X0.here hx rfl (hb hby d10_4) κ)) ?_
  refine Gl.st (g' := (mkF m 7 #[vR b, vI (2 : Int32)] [(.int (((0 : Int32).toUInt32 >>> ((31 : Int32) &&& 31).toUInt32).toInt32))])) (fun τ κ => XS.iushr X0.here hx rfl (hb hby d10_6) rfl κ) ?_
  rw [show (((0 : Int32).toUInt32 >>> ((31 : Int32) &&& 31).toUInt32).toInt32) = (0 : Int32) from by decide]
  refine Gl.st (g' := (mkF m 8 #[vR b, vI (2 : Int32)] [(.int ((0 : Int32).toInt8.toInt32))])) (fun τ κ => XS.i2b X0.here hx rfl (hb hby d10_7) rfl κ) ?_
  rw [show ((0 : Int32).toInt8.toInt32) = (0 : Int32) from by decide]
  exact Gl.ret (v := some (.int (0 : Int32))) X0 Bd.notSynchronized (fun h => by rw [Bd.returns] at h; cases h) e0 (fun fs hr => retN X0 hx (t := .byte) Bd.returns (by simp) (hb hby d10_8) hr) (by decide) (by decide) ⟨rfl, N0, rfl⟩
theorem ef_rm10_2_1 (m : MethodId) (b : Addr) : entryFrame m #[(.ref b), (.int (2 : Int32))] 2 = mkF m 0 #[vR b, vI (2 : Int32)] [] := by first | (simp [entryFrame, mkF, argsToLocals, Value.category]; done) | rfl
def Q_rm10_2_1 (Z : State) (b : Addr) (kb : ClassId) (vs : List Value) (h0 : Heap) (n0 : Nat) (v : Option Value) (h : Heap) (L : List Loc) : Prop := v = some (.int (1 : Int32)) ∧ Fr n0 L ∧ h = h0
set_option maxRecDepth 65536 in
set_option maxHeartbeats 40000000 in
theorem rm10_2_1 (l : Launch) (Z : State) (a0 : Array Value) (hw : ∀ d ∈ tables_1, d.before a0 Z = true) (ws : List Jvm.Cond) (b : Addr) (kb : ClassId) (vs : List Value) (h0 : Heap) (n0 : Nat) (Z0 : n0 ≤ h0.size) (V0 : Arv Z h0 b kb .byte (4 : Int32) vs (.int (0 : Int32))) :
    MetFree l (⟨"java/lang/StringUTF16", "coderFromArrayLen", "([BI)B"⟩ : MethodName) (head1 (Jvm.Cond.code (⟨"java/lang/StringUTF16", "coderFromArrayLen", "([BI)B"⟩ : MethodName) jdk_52_method_15_code 2 (some .byte) :: ws) ({ frames := 0, cells := 0, slots := 0, locals := 0 } : Room)) (fun aα Uα => aα = #[(.ref b), (.int (2 : Int32))] ∧ Z.Warmed39 Uα.vm ∧ Uα.heap = h0) (fun _ _ _ _ _ => True) (fun _ Uα oα Uβ => ∃ vα Lα, oα = .returned vα ∧ Q_rm10_2_1 Z b kb vs h0 n0 vα Uβ.heap Lα ∧ FrameEnd Uα oα Uβ Lα ({ frames := 0, cells := 0, slots := 0, locals := 0 } : Room).cells ({ frames := 0, cells := 0, slots := 0, locals := 0 } : Room).slots) := by
  refine MetFree.of_bodySF (plainFor_of_name pn_java_lang_StringUTF16) hisR ?_
  intro p e s m args below meth c s₁ Bd hml0 hP hKα
  obtain ⟨rfl, hZ, hh⟩ := hP
  have hx := Bd.exec
  have hby := Bd.bytes
  have hml : c.maxLocals = 2 := hml0
  have hown : s.vm.findClass "java/lang/StringUTF16" = some m.cls := findClass_of_methodNamed Bd.named
  have hnm := (name_of_methodNamed Bd.named Bd.method).1
  have X0 : Stand p l e ({ frames := 0, cells := 0, slots := 0, locals := 0 } : Room) s m #[(.ref b), (.int (2 : Int32))] below meth c s₁ [] 0 0 := Stand.of_body Bd
  have e0 : s₁.heap = h0 := by rw [← hh, Bd.state]; rfl
  have N0 := Fr.nil n0
  suffices k0 : Gl p e below s (Q_rm10_2_1 Z b kb vs h0 n0) ({ frames := 0, cells := 0, slots := 0, locals := 0 } : Room).cells ({ frames := 0, cells := 0, slots := 0, locals := 0 } : Room).slots s₁ (mkF m 0 #[vR b, vI (2 : Int32)] []) from Gl.st (fun τ κ => castTop (ef_rm10_2_1 m b) κ) k0
  refine Gl.st (g' := (mkF m 2 #[vR b, vI (2 : Int32)] [(.ref b), (.int (2 : Int32))])) (fun τ κ => XS.iloadN X0.here hx rfl (hb hby d10_0) rfl (XS.aloadN X0.here hx rfl (hb hby d10_1) rfl rfl κ)) ?_
  obtain ⟨cl_o380, Ar_o380, q_o380, S_o380, M_o380, H_o380, G_o380⟩ := id V0
  refine Gl.st (g' := (mkF m 3 #[vR b, vI (2 : Int32)] [(.int (4 : Int32)), (.int (2 : Int32))])) (fun τ κ => X0.arraylength hx (by rw [e0]; exact Ar_o380.1) (State.isArrayOf_alike hZ.alike Ar_o380.2.1) (g := (mkF m 2 #[vR b, vI (2 : Int32)] [(.ref b), (.int (2 : Int32))])) rfl rfl (hb hby d10_2) _ (by rw [len_of S_o380 M_o380]; exact κ)) ?_
  refine Gl.st (g' := (mkF m 6 #[vR b, vI (2 : Int32)] [(.int (31 : Int32)), (.int (-2 : Int32))])) (fun τ κ => XS.isub X0.here hx rfl (hb hby d10_3) rfl (XS.bipush X0.here hx rfl (hb hby d10_4) κ)) ?_
  refine Gl.st (g' := (mkF m 7 #[vR b, vI (2 : Int32)] [(.int (((-2 : Int32).toUInt32 >>> ((31 : Int32) &&& 31).toUInt32).toInt32))])) (fun τ κ => XS.iushr X0.here hx rfl (hb hby d10_6) rfl κ) ?_
  rw [show (((-2 : Int32).toUInt32 >>> ((31 : Int32) &&& 31).toUInt32).toInt32) = (1 : Int32) from by decide]
  refine Gl.st (g' := (mkF m 8 #[vR b, vI (2 : Int32)] [(.int ((1 : Int32).toInt8.toInt32))])) (fun τ κ => XS.i2b X0.here hx rfl (hb hby d10_7) rfl κ) ?_
  rw [show ((1 : Int32).toInt8.toInt32) = (1 : Int32) from by decide]
  exact Gl.ret (v := some (.int (1 : Int32))) X0 Bd.notSynchronized (fun h => by rw [Bd.returns] at h; cases h) e0 (fun fs hr => retN X0 hx (t := .byte) Bd.returns (by simp) (hb hby d10_8) hr) (by decide) (by decide) ⟨rfl, N0, rfl⟩
theorem ef_rm3_2 (m : MethodId) (a : Addr) (ca : Addr) : entryFrame m #[(.ref a), (.ref ca), (.int (0 : Int32)), (.int (2 : Int32)), .null] 6 = mkF m 0 #[vR a, vR ca, vI (0 : Int32), vI (2 : Int32), .val .null, .unset] [] := by first | (simp [entryFrame, mkF, argsToLocals, Value.category]; done) | rfl
def Q_rm3_2 (Z : State) (a : Addr) (ca : Addr) (kc : ClassId) (cs : Int32) (c0 c1 : Int32) (h0 : Heap) (n0 : Nat) (v : Option Value) (h : Heap) (L : List Loc) : Prop := v = none ∧ Fr n0 L ∧ Keep h0 h [a] ∧ own_str Z h a (2 : Int32) [c0, c1]
set_option maxRecDepth 65536 in
set_option maxHeartbeats 40000000 in
theorem rm3_2 (l : Launch) (Z : State) (a0 : Array Value) (hw : ∀ d ∈ tables_1, d.before a0 Z = true) (ws : List Jvm.Cond) (a : Addr) (ca : Addr) (kc : ClassId) (cs : Int32) (c0 c1 : Int32) (h0 : Heap) (n0 : Nat) (Z0 : n0 ≤ h0.size) (E0 : Exa Z h0 a "java/lang/String") (g0 : n0 ≤ a) (FV : Fld Z h0 a "java/lang/String" "value" "[B" .null) (FC : Fld Z h0 a "java/lang/String" "coder" "B" (.int (0 : Int32))) (hac : a ≠ ca) (S0 : Sta Z h0 "java/lang/String" "COMPACT_STRINGS" "Z" (.int cs)) (hcs : ¬ cs = (0 : Int32)) (SA : Sta Z h0 "java/lang/StringUTF16" "$assertionsDisabled" "Z" (.int (1 : Int32))) (SH : Sta Z h0 "java/lang/StringUTF16" "HI_BYTE_SHIFT" "I" (.int (0 : Int32))) (SL : Sta Z h0 "java/lang/StringUTF16" "LO_BYTE_SHIFT" "I" (.int (8 : Int32))) (V0 : Arv Z h0 ca kc .char (2 : Int32) [(.int c0), (.int c1)] (.int (0 : Int32))) (hc0 : own_ch c0) (hc1 : own_ch c1) :
    MetFree l (⟨"java/lang/String", "<init>", "([CIILjava/lang/Void;)V"⟩ : MethodName) (head1 (Jvm.Cond.code (⟨"java/lang/String", "<init>", "([CIILjava/lang/Void;)V"⟩ : MethodName) jdk_42_method_149_code 6 none :: ws) ({ frames := 4, cells := 2, slots := 6, locals := 57 } : Room)) (fun aα Uα => aα = #[(.ref a), (.ref ca), (.int (0 : Int32)), (.int (2 : Int32)), .null] ∧ Z.Warmed39 Uα.vm ∧ Uα.heap = h0) (fun _ _ _ _ _ => True) (fun _ Uα oα Uβ => ∃ vα Lα, oα = .returned vα ∧ Q_rm3_2 Z a ca kc cs c0 c1 h0 n0 vα Uβ.heap Lα ∧ FrameEnd Uα oα Uβ Lα ({ frames := 4, cells := 2, slots := 6, locals := 57 } : Room).cells ({ frames := 4, cells := 2, slots := 6, locals := 57 } : Room).slots) := by
  refine MetFree.of_bodySF (plainFor_of_name pn_java_lang_String) hisR ?_
  intro p e s m args below meth c s₁ Bd hml0 hP hKα
  obtain ⟨rfl, hZ, hh⟩ := hP
  have hx := Bd.exec
  have hby := Bd.bytes
  have hml : c.maxLocals = 6 := hml0
  have hown : s.vm.findClass "java/lang/String" = some m.cls := findClass_of_methodNamed Bd.named
  have hnm := (name_of_methodNamed Bd.named Bd.method).1
  have X0 : Stand p l e ({ frames := 4, cells := 2, slots := 6, locals := 57 } : Room) s m #[(.ref a), (.ref ca), (.int (0 : Int32)), (.int (2 : Int32)), .null] below meth c s₁ [] 0 0 := Stand.of_body Bd
  have e0 : s₁.heap = h0 := by rw [← hh, Bd.state]; rfl
  have N0 := Fr.nil n0
  suffices k0 : Gl p e below s (Q_rm3_2 Z a ca kc cs c0 c1 h0 n0) ({ frames := 4, cells := 2, slots := 6, locals := 57 } : Room).cells ({ frames := 4, cells := 2, slots := 6, locals := 57 } : Room).slots s₁ (mkF m 0 #[vR a, vR ca, vI (0 : Int32), vI (2 : Int32), .val .null, .unset] []) from Gl.st (fun τ κ => castTop (ef_rm3_2 m a ca) κ) k0
  refine Gl.st (g' := (mkF m 1 #[vR a, vR ca, vI (0 : Int32), vI (2 : Int32), .val .null, .unset] [(.ref a)])) (fun τ κ => XS.aloadN X0.here hx rfl (hb hby d3_0) rfl rfl κ) ?_
  obtain ⟨T381, X381, e381, st381⟩ := initO X0 hx hZ hown (w17_ hw) (w18_ hw) (w19_ hw) e0 (g := (mkF m 1 #[vR a, vR ca, vI (0 : Int32), vI (2 : Int32), .val .null, .unset] [(.ref a)])) rfl (by rw [hml]; rfl) rfl (hb hby d3_1) (by decide) (W := 0) (by show 2 * 0 + _ ≤ _; exact Nat.le_of_eq rfl) (by decide)
  refine Gl.st (g' := (mkF m 4 #[vR a, vR ca, vI (0 : Int32), vI (2 : Int32), .val .null, .unset] [])) (fun τ κ => st381 _ κ) ?_
  refine Gl.st (g' := (mkF m 5 #[vR a, vR ca, vI (0 : Int32), vI (2 : Int32), .val .null, .unset] [(.int (2 : Int32))])) (fun τ κ => XS.iloadN X381.here hx rfl (hb hby d3_4) rfl κ) ?_
  have hc382 : ¬ ((2 : Int32) = (0 : Int32)) := by decide
  refine Gl.st (g' := (mkF m 27 #[vR a, vR ca, vI (0 : Int32), vI (2 : Int32), .val .null, .unset] [])) (fun τ κ => XS.ifYes X381.here hx rfl (pc0 := 5) (pc' := 27) rfl (hb hby d3_5) rfl ((if0 _ _).trans (feq hc382).2) (by decide) (by decide) κ) ?_
  obtain ⟨T383, X383, e383, st383⟩ := getS2 X381 hx hZ hown (host := "") (Or.inl (w42_ hw)) Via.refl e381 S0 (g := (mkF m 27 #[vR a, vR ca, vI (0 : Int32), vI (2 : Int32), .val .null, .unset] [])) rfl (hb hby d3_27)
  refine Gl.st (g' := (mkF m 30 #[vR a, vR ca, vI (0 : Int32), vI (2 : Int32), .val .null, .unset] [(.int cs)])) (fun τ κ => st383 _ κ) ?_
  have hc384 : ¬ (cs = (0 : Int32)) := hcs
  refine Gl.st (g' := (mkF m 34 #[vR a, vR ca, vI (0 : Int32), vI (2 : Int32), .val .null, .unset] [(.ref ca)])) (fun τ κ => XS.ifNo X383.here hx rfl (hb hby d3_30) rfl ((if0 _ _).trans (feq hc384).1) (XS.aloadN X383.here hx rfl (hb hby d3_33) rfl rfl κ)) ?_
  refine Gl.st (g' := (mkF m 36 #[vR a, vR ca, vI (0 : Int32), vI (2 : Int32), .val .null, .unset] [(.int (2 : Int32)), (.int (0 : Int32)), (.ref ca)])) (fun τ κ => XS.iloadN X383.here hx rfl (hb hby d3_34) rfl (XS.iloadN X383.here hx rfl (hb hby d3_35) rfl κ)) ?_
  obtain ⟨rv385, _, ⟨T385, L385, k385, n385⟩, -, X385, ⟨Lc385, hQ385, l385, y385, z385⟩, st385⟩ := Jvm.LawKit.callS X383 hx (y := (⟨"java/lang/StringUTF16", "compress", "([CII)[B"⟩ : MethodName)) hown (mvT hZ (w43_ hw)) (mvT hZ (w44_ hw)) (mvT hZ (w45_ hw)) (mvT hZ (w46_ hw)) (by decide) (backOf (W := 0) (rm8_2 l Z a0 hw [] ca kc c0 c1 h0 n0 Z0 SA SH SL V0 hc0 hc1) hZ (w46_ hw) (w45_ hw) (by decide) (by decide)) (g := (mkF m 36 #[vR a, vR ca, vI (0 : Int32), vI (2 : Int32), .val .null, .unset] [(.int (2 : Int32)), (.int (0 : Int32)), (.ref ca)])) rfl (by rw [hml]; rfl) (argsL := [(.ref ca), (.int (0 : Int32)), (.int (2 : Int32))]) (rest := []) (lenOf pd_13 rfl) rfl (by show 2 * 0 + _ ≤ _; exact Nat.le_of_eq rfl) (hb hby d3_36) (fun _ _ => ⟨rfl, e383, (by decide : 0 + 2 ≤ _), (by decide : 0 + 6 ≤ _)⟩)
  dsimp only [Pt.U, Pt.locs, Pt.cells, Pt.slots] at X385 l385 y385 z385 st385 hQ385
  subst l385 y385 z385
  obtain ⟨b385, kk385, z, vs, rfl, N385q, Kc385, s385, V385, hb⟩ := hQ385
  have ne_ca_b385 : ca ≠ b385 := Nat.ne_of_lt (Nat.lt_of_lt_of_le V0.lt s385)
  have ne_a_b385 : a ≠ b385 := Nat.ne_of_lt (Nat.lt_of_lt_of_le E0.lt s385)
  have g_b385 : n0 ≤ b385 := Nat.le_trans Z0 s385
  have sz_b385 : h0.size ≤ b385 := Nat.le_trans (Keep.refl h0 [a]).1 s385
  have S_386 := Sta.keepX SA Kc385 all0
  have S_387 := Sta.keepX SH Kc385 all0
  have S_388 := Sta.keepX SL Kc385 all0
  have S_389 := Sta.keepX S0 Kc385 all0
  have V_390 := V0.keep Kc385 nin0
  have E_391 := E0.keep Kc385
  have F_392 := FV.keep Kc385 nin0
  have F_393 := FC.keep Kc385 nin0
  have N385 := Fr.app N0 N385q
  have Z385 : n0 ≤ T385.heap.size := Nat.le_trans Z0 Kc385.1
  have K385 : Keep h0 T385.heap [a] := (Keep.refl h0 [a]).trans Kc385 all0
  refine Gl.st (g' := (mkF m 39 #[vR a, vR ca, vI (0 : Int32), vI (2 : Int32), .val .null, .unset] [(.ref b385)])) (fun τ κ => st385 _ κ) ?_
  rcases hb with ⟨hz, hv⟩ | ⟨hz, hv⟩
  · -- coder 0
    obtain rfl : z = (2 : Int32) := hz
    refine Gl.st (g' := (mkF m 42 #[vR a, vR ca, vI (0 : Int32), vI (2 : Int32), .val .null, vR b385] [(.ref a)])) (fun τ κ => XS.astore X385.here hx rfl (hb hby d3_39) rfl rfl (l' := #[vR a, vR ca, vI (0 : Int32), vI (2 : Int32), .val .null, vR b385]) rfl (XS.aloadN X385.here hx rfl (hb hby d3_41) rfl rfl κ)) ?_
    refine Gl.st (g' := (mkF m 45 #[vR a, vR ca, vI (0 : Int32), vI (2 : Int32), .val .null, vR b385] [(.int (2 : Int32)), (.ref b385), (.ref a)])) (fun τ κ => XS.aload X385.here hx rfl (hb hby d3_42) rfl rfl (XS.iloadN X385.here hx rfl (hb hby d3_44) rfl κ)) ?_
    obtain ⟨rv394, _, ⟨T394, L394, k394, n394⟩, -, X394, ⟨Lc394, hQ394, l394, y394, z394⟩, st394⟩ := Jvm.LawKit.callS X385 hx (y := (⟨"java/lang/StringUTF16", "coderFromArrayLen", "([BI)B"⟩ : MethodName)) hown (mvT hZ (w50_ hw)) (mvT hZ (w51_ hw)) (mvT hZ (w45_ hw)) (mvT hZ (w52_ hw)) (by decide) (backOf (W := 1) (rm10_2_0 l Z a0 hw [] b385 kk385 vs T385.heap n0 Z385 V385) hZ (w52_ hw) (w45_ hw) (by decide) (by decide)) (g := (mkF m 45 #[vR a, vR ca, vI (0 : Int32), vI (2 : Int32), .val .null, vR b385] [(.int (2 : Int32)), (.ref b385), (.ref a)])) rfl (by rw [hml]; rfl) (argsL := [(.ref b385), (.int (2 : Int32))]) (rest := [(.ref a)]) (lenOf pd_14 rfl) rfl (by show 2 * 0 + _ ≤ _; exact Nat.le_of_eq rfl) (hb hby d3_45) (fun _ _ => ⟨rfl, rfl, (by decide : 2 + 0 ≤ _), (by decide : 6 + 0 ≤ _)⟩)
    dsimp only [Pt.U, Pt.locs, Pt.cells, Pt.slots] at X394 l394 y394 z394 st394 hQ394
    subst l394 y394 z394
    obtain ⟨hq394, N394q, e394⟩ := hQ394
    have hq394 : rv394 = some (.int (0 : Int32)) := hq394
    subst hq394
    have N394 := Fr.app N385 N394q
    refine Gl.st (g' := (mkF m 48 #[vR a, vR ca, vI (0 : Int32), vI (2 : Int32), .val .null, vR b385] [(.int (0 : Int32)), (.ref a)])) (fun τ κ => st394 _ κ) ?_
    obtain ⟨T395, h395, X395, e395, W395, st395⟩ := putFN X394 hx hZ hown (w27_ hw) Via.refl e394 F_393 E_391 (Or.inr ⟨(w23_ hw), rfl, hnm⟩) (w7_ hw) (ty := .byte) (v' := (.int (0 : Int32))) (by decide) rfl rfl (g := (mkF m 48 #[vR a, vR ca, vI (0 : Int32), vI (2 : Int32), .val .null, vR b385] [(.int (0 : Int32)), (.ref a)])) rfl rfl (hb hby d3_48)
    have S_396 := S_386.wr W395
    have S_397 := S_387.wr W395
    have S_398 := S_388.wr W395
    have S_399 := S_389.wr W395
    have V_400 := V_390.other W395 (Ne.symm hac)
    have E_401 := E_391.wr W395
    have F_402 := F_392.other W395 (Or.inr (slot_ne (Or.inr (w22_ hw)) (Or.inr (w23_ hw)) (by decide) (t := (.array .byte)) (t' := .byte) (by decide) (by decide)))
    have V_404 := V385.other W395 (Ne.symm ne_a_b385)
    have N395 := Fr.snoc X395 N394 g0
    have Z395 : n0 ≤ h395.size := Nat.le_trans Z385 (Nat.le_of_eq W395.size.symm)
    have K395 : Keep h0 h395 [a] := K385.wr W395 (Or.inl (List.mem_of_getElem? (i := 0) rfl))
    have F_405 := F_393.same W395
    refine Gl.st (g' := (mkF m 51 #[vR a, vR ca, vI (0 : Int32), vI (2 : Int32), .val .null, vR b385] [])) (fun τ κ => st395 _ κ) ?_
    refine Gl.st (g' := (mkF m 54 #[vR a, vR ca, vI (0 : Int32), vI (2 : Int32), .val .null, vR b385] [(.ref b385), (.ref a)])) (fun τ κ => XS.aloadN X395.here hx rfl (hb hby d3_51) rfl rfl (XS.aload X395.here hx rfl (hb hby d3_52) rfl rfl κ)) ?_
    obtain ⟨T406, h406, X406, e406, W406, st406⟩ := putF X395 hx hZ hown (host := "") (Or.inl (w26_ hw)) Via.refl e395 F_402 E_401 (Or.inr ⟨(w22_ hw), rfl, hnm⟩) (w7_ hw) (ty := (.array .byte)) (by decide) rfl rfl (g := (mkF m 54 #[vR a, vR ca, vI (0 : Int32), vI (2 : Int32), .val .null, vR b385] [(.ref b385), (.ref a)])) rfl rfl (hb hby d3_54)
    have S_407 := S_396.wr W406
    have S_408 := S_397.wr W406
    have S_409 := S_398.wr W406
    have S_410 := S_399.wr W406
    have V_411 := V_400.other W406 (Ne.symm hac)
    have E_412 := E_401.wr W406
    have F_414 := F_405.other W406 (Or.inr (slot_ne (Or.inr (w23_ hw)) (Or.inr (w22_ hw)) (by decide) (t := .byte) (t' := (.array .byte)) (by decide) (by decide)))
    have V_415 := V_404.other W406 (Ne.symm ne_a_b385)
    have N406 := Fr.snoc X406 N395 g0
    have Z406 : n0 ≤ h406.size := Nat.le_trans Z395 (Nat.le_of_eq W406.size.symm)
    have K406 : Keep h0 h406 [a] := K395.wr W406 (Or.inl (List.mem_of_getElem? (i := 0) rfl))
    have F_416 := F_402.same W406
    refine Gl.st (g' := (mkF m 57 #[vR a, vR ca, vI (0 : Int32), vI (2 : Int32), .val .null, vR b385] [])) (fun τ κ => st406 _ κ) ?_
    exact Gl.ret (v := none) X406 Bd.notSynchronized (fun _ => rfl) e406 (fun fs hr => X406.returnOut hx Bd.returns (hb hby d3_57) hr) (by decide) (by decide) ⟨rfl, N406, K406, E_412, by unfold own_small; decide, (fun i hi => match i, hi with | 0, _ => hc0 | 1, _ => hc1 | (i + 2), hi => absurd hi (Nat.not_lt.mpr (Nat.le_add_left 2 _))), b385, kk385, _, _, F_416, V_415, Or.inl ⟨F_414, rfl, hv⟩⟩
  · -- coder 1
    obtain rfl : z = (4 : Int32) := hz.trans (by decide)
    refine Gl.st (g' := (mkF m 42 #[vR a, vR ca, vI (0 : Int32), vI (2 : Int32), .val .null, vR b385] [(.ref a)])) (fun τ κ => XS.astore X385.here hx rfl (hb hby d3_39) rfl rfl (l' := #[vR a, vR ca, vI (0 : Int32), vI (2 : Int32), .val .null, vR b385]) rfl (XS.aloadN X385.here hx rfl (hb hby d3_41) rfl rfl κ)) ?_
    refine Gl.st (g' := (mkF m 45 #[vR a, vR ca, vI (0 : Int32), vI (2 : Int32), .val .null, vR b385] [(.int (2 : Int32)), (.ref b385), (.ref a)])) (fun τ κ => XS.aload X385.here hx rfl (hb hby d3_42) rfl rfl (XS.iloadN X385.here hx rfl (hb hby d3_44) rfl κ)) ?_
    obtain ⟨rv417, _, ⟨T417, L417, k417, n417⟩, -, X417, ⟨Lc417, hQ417, l417, y417, z417⟩, st417⟩ := Jvm.LawKit.callS X385 hx (y := (⟨"java/lang/StringUTF16", "coderFromArrayLen", "([BI)B"⟩ : MethodName)) hown (mvT hZ (w50_ hw)) (mvT hZ (w51_ hw)) (mvT hZ (w45_ hw)) (mvT hZ (w52_ hw)) (by decide) (backOf (W := 1) (rm10_2_1 l Z a0 hw [] b385 kk385 vs T385.heap n0 Z385 V385) hZ (w52_ hw) (w45_ hw) (by decide) (by decide)) (g := (mkF m 45 #[vR a, vR ca, vI (0 : Int32), vI (2 : Int32), .val .null, vR b385] [(.int (2 : Int32)), (.ref b385), (.ref a)])) rfl (by rw [hml]; rfl) (argsL := [(.ref b385), (.int (2 : Int32))]) (rest := [(.ref a)]) (lenOf pd_14 rfl) rfl (by show 2 * 0 + _ ≤ _; exact Nat.le_of_eq rfl) (hb hby d3_45) (fun _ _ => ⟨rfl, rfl, (by decide : 2 + 0 ≤ _), (by decide : 6 + 0 ≤ _)⟩)
    dsimp only [Pt.U, Pt.locs, Pt.cells, Pt.slots] at X417 l417 y417 z417 st417 hQ417
    subst l417 y417 z417
    obtain ⟨hq417, N417q, e417⟩ := hQ417
    have hq417 : rv417 = some (.int (1 : Int32)) := hq417
    subst hq417
    have N417 := Fr.app N385 N417q
    refine Gl.st (g' := (mkF m 48 #[vR a, vR ca, vI (0 : Int32), vI (2 : Int32), .val .null, vR b385] [(.int (1 : Int32)), (.ref a)])) (fun τ κ => st417 _ κ) ?_
    obtain ⟨T418, h418, X418, e418, W418, st418⟩ := putFN X417 hx hZ hown (w27_ hw) Via.refl e417 F_393 E_391 (Or.inr ⟨(w23_ hw), rfl, hnm⟩) (w7_ hw) (ty := .byte) (v' := (.int (1 : Int32))) (by decide) rfl rfl (g := (mkF m 48 #[vR a, vR ca, vI (0 : Int32), vI (2 : Int32), .val .null, vR b385] [(.int (1 : Int32)), (.ref a)])) rfl rfl (hb hby d3_48)
    have S_419 := S_386.wr W418
    have S_420 := S_387.wr W418
    have S_421 := S_388.wr W418
    have S_422 := S_389.wr W418
    have V_423 := V_390.other W418 (Ne.symm hac)
    have E_424 := E_391.wr W418
    have F_425 := F_392.other W418 (Or.inr (slot_ne (Or.inr (w22_ hw)) (Or.inr (w23_ hw)) (by decide) (t := (.array .byte)) (t' := .byte) (by decide) (by decide)))
    have V_427 := V385.other W418 (Ne.symm ne_a_b385)
    have N418 := Fr.snoc X418 N417 g0
    have Z418 : n0 ≤ h418.size := Nat.le_trans Z385 (Nat.le_of_eq W418.size.symm)
    have K418 : Keep h0 h418 [a] := K385.wr W418 (Or.inl (List.mem_of_getElem? (i := 0) rfl))
    have F_428 := F_393.same W418
    refine Gl.st (g' := (mkF m 51 #[vR a, vR ca, vI (0 : Int32), vI (2 : Int32), .val .null, vR b385] [])) (fun τ κ => st418 _ κ) ?_
    refine Gl.st (g' := (mkF m 54 #[vR a, vR ca, vI (0 : Int32), vI (2 : Int32), .val .null, vR b385] [(.ref b385), (.ref a)])) (fun τ κ => XS.aloadN X418.here hx rfl (hb hby d3_51) rfl rfl (XS.aload X418.here hx rfl (hb hby d3_52) rfl rfl κ)) ?_
    obtain ⟨T429, h429, X429, e429, W429, st429⟩ := putF X418 hx hZ hown (host := "") (Or.inl (w26_ hw)) Via.refl e418 F_425 E_424 (Or.inr ⟨(w22_ hw), rfl, hnm⟩) (w7_ hw) (ty := (.array .byte)) (by decide) rfl rfl (g := (mkF m 54 #[vR a, vR ca, vI (0 : Int32), vI (2 : Int32), .val .null, vR b385] [(.ref b385), (.ref a)])) rfl rfl (hb hby d3_54)
    have S_430 := S_419.wr W429
    have S_431 := S_420.wr W429
    have S_432 := S_421.wr W429
    have S_433 := S_422.wr W429
    have V_434 := V_423.other W429 (Ne.symm hac)
    have E_435 := E_424.wr W429
    have F_437 := F_428.other W429 (Or.inr (slot_ne (Or.inr (w23_ hw)) (Or.inr (w22_ hw)) (by decide) (t := .byte) (t' := (.array .byte)) (by decide) (by decide)))
    have V_438 := V_427.other W429 (Ne.symm ne_a_b385)
    have N429 := Fr.snoc X429 N418 g0
    have Z429 : n0 ≤ h429.size := Nat.le_trans Z418 (Nat.le_of_eq W429.size.symm)
    have K429 : Keep h0 h429 [a] := K418.wr W429 (Or.inl (List.mem_of_getElem? (i := 0) rfl))
    have F_439 := F_425.same W429
    refine Gl.st (g' := (mkF m 57 #[vR a, vR ca, vI (0 : Int32), vI (2 : Int32), .val .null, vR b385] [])) (fun τ κ => st429 _ κ) ?_
    exact Gl.ret (v := none) X429 Bd.notSynchronized (fun _ => rfl) e429 (fun fs hr => X429.returnOut hx Bd.returns (hb hby d3_57) hr) (by decide) (by decide) ⟨rfl, N429, K429, E_435, by unfold own_small; decide, (fun i hi => match i, hi with | 0, _ => hc0 | 1, _ => hc1 | (i + 2), hi => absurd hi (Nat.not_lt.mpr (Nat.le_add_left 2 _))), b385, kk385, _, _, F_439, V_438, Or.inr ⟨F_437, by decide, hv⟩⟩
theorem ef_rm2_2 (m : MethodId) (a : Addr) (ca : Addr) : entryFrame m #[(.ref a), (.ref ca)] 2 = mkF m 0 #[vR a, vR ca] [] := by first | (simp [entryFrame, mkF, argsToLocals, Value.category]; done) | rfl
def Q_rm2_2 (Z : State) (a : Addr) (ca : Addr) (kc : ClassId) (cs : Int32) (c0 c1 : Int32) (h0 : Heap) (n0 : Nat) (v : Option Value) (h : Heap) (L : List Loc) : Prop := v = none ∧ Fr n0 L ∧ Keep h0 h [a] ∧ own_str Z h a (2 : Int32) [c0, c1]
set_option maxRecDepth 65536 in
set_option maxHeartbeats 40000000 in
theorem rm2_2 (l : Launch) (Z : State) (a0 : Array Value) (hw : ∀ d ∈ tables_1, d.before a0 Z = true) (ws : List Jvm.Cond) (a : Addr) (ca : Addr) (kc : ClassId) (cs : Int32) (c0 c1 : Int32) (h0 : Heap) (n0 : Nat) (Z0 : n0 ≤ h0.size) (E0 : Exa Z h0 a "java/lang/String") (g0 : n0 ≤ a) (FV : Fld Z h0 a "java/lang/String" "value" "[B" .null) (FC : Fld Z h0 a "java/lang/String" "coder" "B" (.int (0 : Int32))) (hac : a ≠ ca) (S0 : Sta Z h0 "java/lang/String" "COMPACT_STRINGS" "Z" (.int cs)) (hcs : ¬ cs = (0 : Int32)) (SA : Sta Z h0 "java/lang/StringUTF16" "$assertionsDisabled" "Z" (.int (1 : Int32))) (SH : Sta Z h0 "java/lang/StringUTF16" "HI_BYTE_SHIFT" "I" (.int (0 : Int32))) (SL : Sta Z h0 "java/lang/StringUTF16" "LO_BYTE_SHIFT" "I" (.int (8 : Int32))) (V0 : Arv Z h0 ca kc .char (2 : Int32) [(.int c0), (.int c1)] (.int (0 : Int32))) (hc0 : own_ch c0) (hc1 : own_ch c1) :
    MetFree l (⟨"java/lang/String", "<init>", "([C)V"⟩ : MethodName) (head1 (Jvm.Cond.code (⟨"java/lang/String", "<init>", "([C)V"⟩ : MethodName) jdk_42_method_3_code 2 none :: ws) ({ frames := 5, cells := 2, slots := 6, locals := 74 } : Room)) (fun aα Uα => aα = #[(.ref a), (.ref ca)] ∧ Z.Warmed39 Uα.vm ∧ Uα.heap = h0) (fun _ _ _ _ _ => True) (fun _ Uα oα Uβ => ∃ vα Lα, oα = .returned vα ∧ Q_rm2_2 Z a ca kc cs c0 c1 h0 n0 vα Uβ.heap Lα ∧ FrameEnd Uα oα Uβ Lα ({ frames := 5, cells := 2, slots := 6, locals := 74 } : Room).cells ({ frames := 5, cells := 2, slots := 6, locals := 74 } : Room).slots) := by
  refine MetFree.of_bodySF (plainFor_of_name pn_java_lang_String) hisR ?_
  intro p e s m args below meth c s₁ Bd hml0 hP hKα
  obtain ⟨rfl, hZ, hh⟩ := hP
  have hx := Bd.exec
  have hby := Bd.bytes
  have hml : c.maxLocals = 2 := hml0
  have hown : s.vm.findClass "java/lang/String" = some m.cls := findClass_of_methodNamed Bd.named
  have hnm := (name_of_methodNamed Bd.named Bd.method).1
  have X0 : Stand p l e ({ frames := 5, cells := 2, slots := 6, locals := 74 } : Room) s m #[(.ref a), (.ref ca)] below meth c s₁ [] 0 0 := Stand.of_body Bd
  have e0 : s₁.heap = h0 := by rw [← hh, Bd.state]; rfl
  have N0 := Fr.nil n0
  suffices k0 : Gl p e below s (Q_rm2_2 Z a ca kc cs c0 c1 h0 n0) ({ frames := 5, cells := 2, slots := 6, locals := 74 } : Room).cells ({ frames := 5, cells := 2, slots := 6, locals := 74 } : Room).slots s₁ (mkF m 0 #[vR a, vR ca] []) from Gl.st (fun τ κ => castTop (ef_rm2_2 m a ca) κ) k0
  refine Gl.st (g' := (mkF m 2 #[vR a, vR ca] [(.ref ca), (.ref a)])) (fun τ κ => XS.aloadN X0.here hx rfl (hb hby d2_0) rfl rfl (XS.aloadN X0.here hx rfl (hb hby d2_1) rfl rfl κ)) ?_
  refine Gl.st (g' := (mkF m 4 #[vR a, vR ca] [(.ref ca), (.int (0 : Int32)), (.ref ca), (.ref a)])) (fun τ κ => XS.iconst X0.here hx rfl (hb hby d2_2) (XS.aloadN X0.here hx rfl (hb hby d2_3) rfl rfl κ)) ?_
  obtain ⟨cl_o440, Ar_o440, q_o440, S_o440, M_o440, H_o440, G_o440⟩ := id V0
  refine Gl.st (g' := (mkF m 5 #[vR a, vR ca] [(.int (2 : Int32)), (.int (0 : Int32)), (.ref ca), (.ref a)])) (fun τ κ => X0.arraylength hx (by rw [e0]; exact Ar_o440.1) (State.isArrayOf_alike hZ.alike Ar_o440.2.1) (g := (mkF m 4 #[vR a, vR ca] [(.ref ca), (.int (0 : Int32)), (.ref ca), (.ref a)])) rfl rfl (hb hby d2_4) _ (by rw [len_of S_o440 M_o440]; exact κ)) ?_
  refine Gl.st (g' := (mkF m 6 #[vR a, vR ca] [.null, (.int (2 : Int32)), (.int (0 : Int32)), (.ref ca), (.ref a)])) (fun τ κ => XS.aconstNull X0.here hx rfl (hb hby d2_5) κ) ?_
  obtain ⟨rv441, _, ⟨T441, L441, k441, n441⟩, -, X441, ⟨Lc441, hQ441, l441, y441, z441⟩, st441⟩ := X0.specialBack hx (y := (⟨"java/lang/String", "<init>", "([CIILjava/lang/Void;)V"⟩ : MethodName)) rfl hown (mvT hZ (w13_ hw)) (mvT hZ (w14_ hw)) (mvT hZ (w16_ hw)) (by decide) (backOf (W := 0) (rm3_2 l Z a0 hw [] a ca kc cs c0 c1 h0 n0 Z0 E0 g0 FV FC hac S0 hcs SA SH SL V0 hc0 hc1) hZ (w16_ hw) (w8_ hw) (by decide) (by decide)) (g := (mkF m 6 #[vR a, vR ca] [.null, (.int (2 : Int32)), (.int (0 : Int32)), (.ref ca), (.ref a)])) rfl (by rw [hml]; rfl) (Steps.refl _) (a := a) (argsL := [(.ref ca), (.int (0 : Int32)), (.int (2 : Int32)), .null]) (rest := []) (lenOf pd_15 rfl) rfl (by show 2 * 0 + _ ≤ _; exact Nat.le_of_eq rfl) (hb hby d2_6) (fun _ _ => ⟨rfl, e0, (by decide : 0 + 2 ≤ _), (by decide : 0 + 6 ≤ _)⟩)
  dsimp only [Pt.U, Pt.locs, Pt.cells, Pt.slots] at X441 l441 y441 z441 st441 hQ441
  subst l441 y441 z441
  obtain ⟨rfl, N441q, Kc441, HS441⟩ := hQ441
  have S_442 := Sta.keepX SA Kc441 (allS (P := fun x => ∃ c : Cell, h0[x]? = some c ∧ ∀ q, c.vm ≠ .statics q) E0.cell all0)
  have S_443 := Sta.keepX SH Kc441 (allS (P := fun x => ∃ c : Cell, h0[x]? = some c ∧ ∀ q, c.vm ≠ .statics q) E0.cell all0)
  have S_444 := Sta.keepX SL Kc441 (allS (P := fun x => ∃ c : Cell, h0[x]? = some c ∧ ∀ q, c.vm ≠ .statics q) E0.cell all0)
  have S_445 := Sta.keepX S0 Kc441 (allS (P := fun x => ∃ c : Cell, h0[x]? = some c ∧ ∀ q, c.vm ≠ .statics q) E0.cell all0)
  have E_446 := E0.keep Kc441
  have N441 := Fr.app N0 N441q
  have Z441 : n0 ≤ T441.heap.size := Nat.le_trans Z0 Kc441.1
  have K441 : Keep h0 T441.heap [a] := (Keep.refl h0 [a]).trans Kc441 (allS (Or.inl (List.mem_of_getElem? (i := 0) rfl)) all0)
  refine Gl.st (g' := (mkF m 9 #[vR a, vR ca] [])) (fun τ κ => st441.trans κ) ?_
  exact Gl.ret (v := none) X441 Bd.notSynchronized (fun _ => rfl) rfl (fun fs hr => X441.returnOut hx Bd.returns (hb hby d2_9) hr) (by decide) (by decide) ⟨rfl, N441, K441, HS441⟩
theorem d1_35 : decode method_4_code 35 = .ok (.iload_n 0, 1) := by decide +kernel
theorem d1_36 : decode method_4_code 36 = .ok (.iconst 2, 1) := by decide +kernel
theorem d1_37 : decode method_4_code 37 = .ok (.if_icmp .ne 22, 3) := by decide +kernel
theorem d1_40 : decode method_4_code 40 = .ok (.new 25, 3) := by decide +kernel
theorem d1_43 : decode method_4_code 43 = .ok (.dup, 1) := by decide +kernel
theorem d1_44 : decode method_4_code 44 = .ok (.iconst 2, 1) := by decide +kernel
theorem d1_45 : decode method_4_code 45 = .ok (.newarray .char, 2) := by decide +kernel
theorem d1_47 : decode method_4_code 47 = .ok (.dup, 1) := by decide +kernel
theorem d1_48 : decode method_4_code 48 = .ok (.iconst 0, 1) := by decide +kernel
theorem d1_49 : decode method_4_code 49 = .ok (.iload_n 1, 1) := by decide +kernel
theorem d1_50 : decode method_4_code 50 = .ok (.castore, 1) := by decide +kernel
theorem d1_51 : decode method_4_code 51 = .ok (.dup, 1) := by decide +kernel
theorem d1_52 : decode method_4_code 52 = .ok (.iconst 1, 1) := by decide +kernel
theorem d1_53 : decode method_4_code 53 = .ok (.iload_n 2, 1) := by decide +kernel
theorem d1_54 : decode method_4_code 54 = .ok (.castore, 1) := by decide +kernel
theorem d1_55 : decode method_4_code 55 = .ok (.invokespecial 27, 3) := by decide +kernel
theorem d1_58 : decode method_4_code 58 = .ok (.areturn, 1) := by decide +kernel
theorem ef_rm1_2 (m : MethodId) (c0 : Int32) (c1 : Int32) (c2 : Int32) (c3 : Int32) : entryFrame m #[(.int (2 : Int32)), (.int c0), (.int c1), (.int c2), (.int c3)] 5 = mkF m 0 #[vI (2 : Int32), vI c0, vI c1, vI c2, vI c3] [] := by first | (simp [entryFrame, mkF, argsToLocals, Value.category]; done) | rfl
def Q_rm1_2 (Z : State) (c0 : Int32) (c1 : Int32) (c2 : Int32) (c3 : Int32) (cs : Int32) (h0 : Heap) (n0 : Nat) (v : Option Value) (h : Heap) (L : List Loc) : Prop := ∃ b, v = some (.ref b) ∧ Fr n0 L ∧ Keep h0 h [] ∧ own_str Z h b (2 : Int32) [c0, c1]
set_option maxRecDepth 65536 in
set_option maxHeartbeats 40000000 in
theorem rm1_2 (l : Launch) (Z : State) (a0 : Array Value) (hw : ∀ d ∈ tables_1, d.before a0 Z = true) (ws : List Jvm.Cond) (c0 : Int32) (c1 : Int32) (c2 : Int32) (c3 : Int32) (cs : Int32) (h0 : Heap) (n0 : Nat) (Z0 : n0 ≤ h0.size) (S0 : Sta Z h0 "java/lang/String" "COMPACT_STRINGS" "Z" (.int cs)) (hcs : ¬ cs = (0 : Int32)) (SA : Sta Z h0 "java/lang/StringUTF16" "$assertionsDisabled" "Z" (.int (1 : Int32))) (SH : Sta Z h0 "java/lang/StringUTF16" "HI_BYTE_SHIFT" "I" (.int (0 : Int32))) (SL : Sta Z h0 "java/lang/StringUTF16" "LO_BYTE_SHIFT" "I" (.int (8 : Int32))) (hc0 : own_ch c0) (hc1 : own_ch c1) (hc2 : own_ch c2) (hc3 : own_ch c3) :
    MetFree l (⟨"com/example/sealgrant/sealgrant/AsciiPrintablePinLaw", "make", "(ICCCC)Ljava/lang/String;"⟩ : MethodName) (head1 (Jvm.Cond.code (⟨"com/example/sealgrant/sealgrant/AsciiPrintablePinLaw", "make", "(ICCCC)Ljava/lang/String;"⟩ : MethodName) method_4_code 5 (some (.object "java/lang/String")) :: ws) ({ frames := 6, cells := 4, slots := 12, locals := 88 } : Room)) (fun aα Uα => aα = #[(.int (2 : Int32)), (.int c0), (.int c1), (.int c2), (.int c3)] ∧ Z.Warmed39 Uα.vm ∧ Uα.heap = h0) (fun _ _ _ _ _ => True) (fun _ Uα oα Uβ => ∃ vα Lα, oα = .returned vα ∧ Q_rm1_2 Z c0 c1 c2 c3 cs h0 n0 vα Uβ.heap Lα ∧ FrameEnd Uα oα Uβ Lα ({ frames := 6, cells := 4, slots := 12, locals := 88 } : Room).cells ({ frames := 6, cells := 4, slots := 12, locals := 88 } : Room).slots) := by
  refine MetFree.of_bodySF (plainFor_of_name pn_com_example_sealgrant_sealgrant_AsciiPrintablePinLaw) hisR ?_
  intro p e s m args below meth c s₁ Bd hml0 hP hKα
  obtain ⟨rfl, hZ, hh⟩ := hP
  have hx := Bd.exec
  have hby := Bd.bytes
  have hml : c.maxLocals = 5 := hml0
  have hown : s.vm.findClass "com/example/sealgrant/sealgrant/AsciiPrintablePinLaw" = some m.cls := findClass_of_methodNamed Bd.named
  have hnm := (name_of_methodNamed Bd.named Bd.method).1
  have X0 : Stand p l e ({ frames := 6, cells := 4, slots := 12, locals := 88 } : Room) s m #[(.int (2 : Int32)), (.int c0), (.int c1), (.int c2), (.int c3)] below meth c s₁ [] 0 0 := Stand.of_body Bd
  have e0 : s₁.heap = h0 := by rw [← hh, Bd.state]; rfl
  have N0 := Fr.nil n0
  suffices k0 : Gl p e below s (Q_rm1_2 Z c0 c1 c2 c3 cs h0 n0) ({ frames := 6, cells := 4, slots := 12, locals := 88 } : Room).cells ({ frames := 6, cells := 4, slots := 12, locals := 88 } : Room).slots s₁ (mkF m 0 #[vI (2 : Int32), vI c0, vI c1, vI c2, vI c3] []) from Gl.st (fun τ κ => castTop (ef_rm1_2 m c0 c1 c2 c3) κ) k0
  refine Gl.st (g' := (mkF m 1 #[vI (2 : Int32), vI c0, vI c1, vI c2, vI c3] [(.int (2 : Int32))])) (fun τ κ => XS.iloadN X0.here hx rfl (hb hby d1_0) rfl κ) ?_
  have hc449 : ¬ ((2 : Int32) = (0 : Int32)) := by decide
  refine Gl.st (g' := (mkF m 16 #[vI (2 : Int32), vI c0, vI c1, vI c2, vI c3] [(.int (2 : Int32))])) (fun τ κ => XS.ifYes X0.here hx rfl (pc0 := 1) (pc' := 15) rfl (hb hby d1_1) rfl ((if0 _ _).trans (feq hc449).2) (by decide) (by decide) (XS.iloadN X0.here hx rfl (hb hby d1_15) rfl κ)) ?_
  refine Gl.st (g' := (mkF m 17 #[vI (2 : Int32), vI c0, vI c1, vI c2, vI c3] [(.int (1 : Int32)), (.int (2 : Int32))])) (fun τ κ => XS.iconst X0.here hx rfl (hb hby d1_16) κ) ?_
  have hc450 : ¬ ((2 : Int32) = (1 : Int32)) := by decide
  refine Gl.st (g' := (mkF m 36 #[vI (2 : Int32), vI c0, vI c1, vI c2, vI c3] [(.int (2 : Int32))])) (fun τ κ => XS.icmpYes X0.here hx rfl (pc0 := 17) (pc' := 35) rfl (hb hby d1_17) rfl (feq hc450).2 (by decide) (by decide) (XS.iloadN X0.here hx rfl (hb hby d1_35) rfl κ)) ?_
  refine Gl.st (g' := (mkF m 37 #[vI (2 : Int32), vI c0, vI c1, vI c2, vI c3] [(.int (2 : Int32)), (.int (2 : Int32))])) (fun τ κ => XS.iconst X0.here hx rfl (hb hby d1_36) κ) ?_
  have hc451 : (2 : Int32) = (2 : Int32) := by decide
  refine Gl.st (g' := (mkF m 40 #[vI (2 : Int32), vI c0, vI c1, vI c2, vI c3] [])) (fun τ κ => XS.icmpNo X0.here hx rfl (hb hby d1_37) rfl (teq hc451).2 κ) ?_
  obtain ⟨T452, h452, X452, e452, E452, A452, D452, -, st452⟩ := newO X0 hx hZ hown (w6_ hw) (w7_ hw) (w8_ hw) e0 (g := (mkF m 40 #[vI (2 : Int32), vI c0, vI c1, vI c2, vI c3] [])) rfl (hb hby d1_40) (by decide) (by decide)
  obtain ⟨b452, g452⟩ : ∃ z, z = h0.size := ⟨_, rfl⟩
  rw [← g452] at A452 D452 st452
  have S_453 := SA.ext E452
  have S_454 := SH.ext E452
  have S_455 := SL.ext E452
  have S_456 := S0.ext E452
  have g_b452 : n0 ≤ b452 := Nat.le_trans Z0 (Nat.le_of_eq g452.symm)
  have sz_b452 : h0.size ≤ b452 := Nat.le_trans (Keep.refl h0 []).1 (Nat.le_of_eq g452.symm)
  have Z452 : n0 ≤ h452.size := Nat.le_trans Z0 E452.1
  have K452 : Keep h0 h452 [] := (Keep.refl h0 []).ext E452
  have F_457 : Fld Z h452 b452 "java/lang/String" "value" "[B" .null := D452 (Or.inr (w22_ hw)) (ty := (.array .byte)) (by decide)
  have F_458 : Fld Z h452 b452 "java/lang/String" "coder" "B" (.int (0 : Int32)) := D452 (Or.inr (w23_ hw)) (ty := .byte) (by decide)
  refine Gl.st (g' := (mkF m 43 #[vI (2 : Int32), vI c0, vI c1, vI c2, vI c3] [(.ref b452)])) (fun τ κ => st452 _ κ) ?_
  refine Gl.st (g' := (mkF m 45 #[vI (2 : Int32), vI c0, vI c1, vI c2, vI c3] [(.int (2 : Int32)), (.ref b452), (.ref b452)])) (fun τ κ => XS.dup X452.here hx rfl (hb hby d1_43) rfl rfl (XS.iconst X452.here hx rfl (hb hby d1_44) κ)) ?_
  obtain ⟨T459, h459, k459, X459, e459, E459, A459, st459⟩ := newP X452 hx hZ (hw _ (List.mem_of_getElem? (i := 9) rfl)) e452 (g := (mkF m 45 #[vI (2 : Int32), vI c0, vI c1, vI c2, vI c3] [(.int (2 : Int32)), (.ref b452), (.ref b452)])) rfl (hb hby d1_45) rfl (by decide) (cap := 2) (by decide) (by decide) (by decide) (by decide)
  obtain ⟨b459, g459⟩ : ∃ z, z = h452.size := ⟨_, rfl⟩
  rw [← g459] at A459 st459
  have ne_b452_b459 : b452 ≠ b459 := Nat.ne_of_lt (Nat.lt_of_lt_of_le A452.lt (Nat.le_of_eq g459.symm))
  have S_460 := S_453.ext E459
  have S_461 := S_454.ext E459
  have S_462 := S_455.ext E459
  have S_463 := S_456.ext E459
  have E_464 := A452.ext E459
  have F_465 := F_457.ext E459
  have F_466 := F_458.ext E459
  have g_b459 : n0 ≤ b459 := Nat.le_trans Z452 (Nat.le_of_eq g459.symm)
  have sz_b459 : h0.size ≤ b459 := Nat.le_trans K452.1 (Nat.le_of_eq g459.symm)
  have Z459 : n0 ≤ h459.size := Nat.le_trans Z452 E459.1
  have K459 : Keep h0 h459 [] := K452.ext E459
  have V_b459 : Arv Z h459 b459 k459 .char (2 : Int32) [(.int (0 : Int32)), (.int (0 : Int32))] (.int (0 : Int32)) := (Arv.new A459 (by decide)).pad (pad_rep [] (.int (0 : Int32)) 2)
  refine Gl.st (g' := (mkF m 47 #[vI (2 : Int32), vI c0, vI c1, vI c2, vI c3] [(.ref b459), (.ref b452), (.ref b452)])) (fun τ κ => st459 _ κ) ?_
  refine Gl.st (g' := (mkF m 49 #[vI (2 : Int32), vI c0, vI c1, vI c2, vI c3] [(.int (0 : Int32)), (.ref b459), (.ref b459), (.ref b452), (.ref b452)])) (fun τ κ => XS.dup X459.here hx rfl (hb hby d1_47) rfl rfl (XS.iconst X459.here hx rfl (hb hby d1_48) κ)) ?_
  refine Gl.st (g' := (mkF m 50 #[vI (2 : Int32), vI c0, vI c1, vI c2, vI c3] [(.int c0), (.int (0 : Int32)), (.ref b459), (.ref b459), (.ref b452), (.ref b452)])) (fun τ κ => XS.iloadN X459.here hx rfl (hb hby d1_49) rfl κ) ?_
  obtain ⟨cl_o467, Ar_o467, q_o467, S_o467, M_o467, H_o467, G_o467⟩ := id V_b459
  have hin_o467 : ¬ ((0 : Int32) < 0 ∨ cl_o467.slots.size ≤ ((0 : Int32)).toNatClampNeg) := inb_of S_o467 ⟨by decide, by decide⟩
  obtain ⟨T468, h468, X468, e468, W468, st468⟩ := stC X459 hx hZ e459 Ar_o467 (j := (0 : Int32)) hin_o467 (g := (mkF m 50 #[vI (2 : Int32), vI c0, vI c1, vI c2, vI c3] [(.int c0), (.int (0 : Int32)), (.ref b459), (.ref b459), (.ref b452), (.ref b452)])) rfl rfl (hb hby d1_50)
  have S_469 := S_460.wr W468
  have S_470 := S_461.wr W468
  have S_471 := S_462.wr W468
  have S_472 := S_463.wr W468
  have E_473 := E_464.wr W468
  have F_474 := F_465.other W468 (Or.inl ne_b452_b459)
  have F_475 := F_466.other W468 (Or.inl ne_b452_b459)
  have N468 := Fr.snoc X468 N0 g_b459
  have Z468 : n0 ≤ h468.size := Nat.le_trans Z459 (Nat.le_of_eq W468.size.symm)
  have K468 : Keep h0 h468 [] := K459.wr W468 (Or.inr sz_b459)
  have V_b459_468 : Arv Z h468 b459 k459 .char (2 : Int32) [(.int (nar .char c0)), (.int (0 : Int32))] (.int (0 : Int32)) := Arv.set Ar_o467 q_o467 S_o467 M_o467 H_o467 G_o467 (fits_nar_char _) W468 0 rfl (Nat.le_of_ble_eq_true rfl)
  rw [own_narC hc0] at V_b459_468
  refine Gl.st (g' := (mkF m 51 #[vI (2 : Int32), vI c0, vI c1, vI c2, vI c3] [(.ref b459), (.ref b452), (.ref b452)])) (fun τ κ => st468 _ κ) ?_
  refine Gl.st (g' := (mkF m 53 #[vI (2 : Int32), vI c0, vI c1, vI c2, vI c3] [(.int (1 : Int32)), (.ref b459), (.ref b459), (.ref b452), (.ref b452)])) (fun τ κ => XS.dup X468.here hx rfl (hb hby d1_51) rfl rfl (XS.iconst X468.here hx rfl (hb hby d1_52) κ)) ?_
  refine Gl.st (g' := (mkF m 54 #[vI (2 : Int32), vI c0, vI c1, vI c2, vI c3] [(.int c1), (.int (1 : Int32)), (.ref b459), (.ref b459), (.ref b452), (.ref b452)])) (fun τ κ => XS.iloadN X468.here hx rfl (hb hby d1_53) rfl κ) ?_
  obtain ⟨cl_o477, Ar_o477, q_o477, S_o477, M_o477, H_o477, G_o477⟩ := id V_b459_468
  have hin_o477 : ¬ ((1 : Int32) < 0 ∨ cl_o477.slots.size ≤ ((1 : Int32)).toNatClampNeg) := inb_of S_o477 ⟨by decide, by decide⟩
  obtain ⟨T478, h478, X478, e478, W478, st478⟩ := stC X468 hx hZ e468 Ar_o477 (j := (1 : Int32)) hin_o477 (g := (mkF m 54 #[vI (2 : Int32), vI c0, vI c1, vI c2, vI c3] [(.int c1), (.int (1 : Int32)), (.ref b459), (.ref b459), (.ref b452), (.ref b452)])) rfl rfl (hb hby d1_54)
  have S_479 := S_469.wr W478
  have S_480 := S_470.wr W478
  have S_481 := S_471.wr W478
  have S_482 := S_472.wr W478
  have E_483 := E_473.wr W478
  have F_484 := F_474.other W478 (Or.inl ne_b452_b459)
  have F_485 := F_475.other W478 (Or.inl ne_b452_b459)
  have N478 := Fr.snoc X478 N468 g_b459
  have Z478 : n0 ≤ h478.size := Nat.le_trans Z468 (Nat.le_of_eq W478.size.symm)
  have K478 : Keep h0 h478 [] := K468.wr W478 (Or.inr sz_b459)
  have V_b459_478 : Arv Z h478 b459 k459 .char (2 : Int32) [(.int c0), (.int (nar .char c1))] (.int (0 : Int32)) := Arv.set Ar_o477 q_o477 S_o477 M_o477 H_o477 G_o477 (fits_nar_char _) W478 1 rfl (Nat.le_of_ble_eq_true rfl)
  rw [own_narC hc1] at V_b459_478
  refine Gl.st (g' := (mkF m 55 #[vI (2 : Int32), vI c0, vI c1, vI c2, vI c3] [(.ref b459), (.ref b452), (.ref b452)])) (fun τ κ => st478 _ κ) ?_
  obtain ⟨rv487, _, ⟨T487, L487, k487, n487⟩, -, X487, ⟨Lc487, hQ487, l487, y487, z487⟩, st487⟩ := X478.specialBack hx (y := (⟨"java/lang/String", "<init>", "([C)V"⟩ : MethodName)) rfl hown (mvT hZ (w10_ hw)) (mvT hZ (w11_ hw)) (mvT hZ (w12_ hw)) (by decide) (backOf (W := 1) (rm2_2 l Z a0 hw [] b452 b459 k459 cs c0 c1 h478 n0 Z478 E_483 g_b452 F_484 F_485 ne_b452_b459 S_482 hcs S_479 S_480 S_481 V_b459_478 hc0 hc1) hZ (w12_ hw) (w8_ hw) (by decide) (by decide)) (g := (mkF m 55 #[vI (2 : Int32), vI c0, vI c1, vI c2, vI c3] [(.ref b459), (.ref b452), (.ref b452)])) rfl (by rw [hml]; rfl) (Steps.refl _) (a := b452) (argsL := [(.ref b459)]) (rest := [(.ref b452)]) (lenOf pd_16 rfl) rfl (by show 2 * 0 + _ ≤ _; exact Nat.le_of_eq rfl) (hb hby d1_55) (fun _ _ => ⟨rfl, e478, (by decide : 2 + 2 ≤ _), (by decide : 6 + 6 ≤ _)⟩)
  dsimp only [Pt.U, Pt.locs, Pt.cells, Pt.slots] at X487 l487 y487 z487 st487 hQ487
  subst l487 y487 z487
  obtain ⟨rfl, N487q, Kc487, HS487⟩ := hQ487
  have S_488 := Sta.keepX S_479 Kc487 (allS (P := fun x => ∃ c : Cell, h478[x]? = some c ∧ ∀ q, c.vm ≠ .statics q) E_483.cell all0)
  have S_489 := Sta.keepX S_480 Kc487 (allS (P := fun x => ∃ c : Cell, h478[x]? = some c ∧ ∀ q, c.vm ≠ .statics q) E_483.cell all0)
  have S_490 := Sta.keepX S_481 Kc487 (allS (P := fun x => ∃ c : Cell, h478[x]? = some c ∧ ∀ q, c.vm ≠ .statics q) E_483.cell all0)
  have S_491 := Sta.keepX S_482 Kc487 (allS (P := fun x => ∃ c : Cell, h478[x]? = some c ∧ ∀ q, c.vm ≠ .statics q) E_483.cell all0)
  have E_492 := E_483.keep Kc487
  have N487 := Fr.app N478 N487q
  have Z487 : n0 ≤ T487.heap.size := Nat.le_trans Z478 Kc487.1
  have K487 : Keep h0 T487.heap [] := K478.trans Kc487 (allS (Or.inr sz_b452) all0)
  refine Gl.st (g' := (mkF m 58 #[vI (2 : Int32), vI c0, vI c1, vI c2, vI c3] [(.ref b452)])) (fun τ κ => st487.trans κ) ?_
  exact Gl.ret (v := some (.ref b452)) X487 Bd.notSynchronized (fun h => by rw [Bd.returns] at h; cases h) rfl (fun fs hr => retAO X487 hx Bd.returns (hb hby d1_58) hr) (by decide) (by decide) ⟨b452, rfl, N487, K487, HS487⟩
theorem ef_rm20_3_0 (m : MethodId) (u : Addr) (ch : Int32) : entryFrame m #[(.ref u), (.int (0 : Int32)), (.int ch)] 3 = mkF m 0 #[vR u, vI (0 : Int32), vI ch] [] := by first | (simp [entryFrame, mkF, argsToLocals, Value.category]; done) | rfl
def Q_rm20_3_0 (Z : State) (u : Addr) (ch : Int32) (ku : ClassId) (w0 w1 w2 w3 w4 w5 : Value) (h0 : Heap) (n0 : Nat) (v : Option Value) (h : Heap) (L : List Loc) : Prop := v = none ∧ Fr n0 L ∧ Keep h0 h [u] ∧ Arv Z h u ku .byte (6 : Int32) [(.int (own_hi ch)), (.int (own_lo ch)), w2, w3, w4, w5] (.int (0 : Int32))
set_option maxRecDepth 65536 in
set_option maxHeartbeats 40000000 in
theorem rm20_3_0 (l : Launch) (Z : State) (a0 : Array Value) (hw : ∀ d ∈ tables_1, d.before a0 Z = true) (ws : List Jvm.Cond) (u : Addr) (ch : Int32) (ku : ClassId) (w0 w1 w2 w3 w4 w5 : Value) (h0 : Heap) (n0 : Nat) (Z0 : n0 ≤ h0.size) (SA : Sta Z h0 "java/lang/StringUTF16" "$assertionsDisabled" "Z" (.int (1 : Int32))) (SH : Sta Z h0 "java/lang/StringUTF16" "HI_BYTE_SHIFT" "I" (.int (0 : Int32))) (SL : Sta Z h0 "java/lang/StringUTF16" "LO_BYTE_SHIFT" "I" (.int (8 : Int32))) (V0 : Arv Z h0 u ku .byte (6 : Int32) [w0, w1, w2, w3, w4, w5] (.int (0 : Int32))) (gu : n0 ≤ u) :
    MetFree l (⟨"java/lang/StringUTF16", "putChar", "([BII)V"⟩ : MethodName) (head1 (Jvm.Cond.code (⟨"java/lang/StringUTF16", "putChar", "([BII)V"⟩ : MethodName) jdk_52_method_4_code 3 none :: ws) ({ frames := 0, cells := 0, slots := 0, locals := 0 } : Room)) (fun aα Uα => aα = #[(.ref u), (.int (0 : Int32)), (.int ch)] ∧ Z.Warmed39 Uα.vm ∧ Uα.heap = h0) (fun _ _ _ _ _ => True) (fun _ Uα oα Uβ => ∃ vα Lα, oα = .returned vα ∧ Q_rm20_3_0 Z u ch ku w0 w1 w2 w3 w4 w5 h0 n0 vα Uβ.heap Lα ∧ FrameEnd Uα oα Uβ Lα ({ frames := 0, cells := 0, slots := 0, locals := 0 } : Room).cells ({ frames := 0, cells := 0, slots := 0, locals := 0 } : Room).slots) := by
  refine MetFree.of_bodySF (plainFor_of_name pn_java_lang_StringUTF16) hisR ?_
  intro p e s m args below meth c s₁ Bd hml0 hP hKα
  obtain ⟨rfl, hZ, hh⟩ := hP
  have hx := Bd.exec
  have hby := Bd.bytes
  have hml : c.maxLocals = 3 := hml0
  have hown : s.vm.findClass "java/lang/StringUTF16" = some m.cls := findClass_of_methodNamed Bd.named
  have hnm := (name_of_methodNamed Bd.named Bd.method).1
  have X0 : Stand p l e ({ frames := 0, cells := 0, slots := 0, locals := 0 } : Room) s m #[(.ref u), (.int (0 : Int32)), (.int ch)] below meth c s₁ [] 0 0 := Stand.of_body Bd
  have e0 : s₁.heap = h0 := by rw [← hh, Bd.state]; rfl
  have N0 := Fr.nil n0
  suffices k0 : Gl p e below s (Q_rm20_3_0 Z u ch ku w0 w1 w2 w3 w4 w5 h0 n0) ({ frames := 0, cells := 0, slots := 0, locals := 0 } : Room).cells ({ frames := 0, cells := 0, slots := 0, locals := 0 } : Room).slots s₁ (mkF m 0 #[vR u, vI (0 : Int32), vI ch] []) from Gl.st (fun τ κ => castTop (ef_rm20_3_0 m u ch) κ) k0
  obtain ⟨T495, X495, e495, st495⟩ := getS2 X0 hx hZ hown (host := "") (Or.inl (w91_ hw)) Via.refl e0 SA (g := (mkF m 0 #[vR u, vI (0 : Int32), vI ch] [])) rfl (hb hby d20_0)
  refine Gl.st (g' := (mkF m 3 #[vR u, vI (0 : Int32), vI ch] [(.int (1 : Int32))])) (fun τ κ => st495 _ κ) ?_
  have hc496 : ¬ ((1 : Int32) = (0 : Int32)) := by decide
  refine Gl.st (g' := (mkF m 29 #[vR u, vI (0 : Int32), vI ch] [(.int (0 : Int32))])) (fun τ κ => XS.ifYes X495.here hx rfl (pc0 := 3) (pc' := 28) rfl (hb hby d20_3) rfl ((if0 _ _).trans (feq hc496).2) (by decide) (by decide) (XS.iloadN X495.here hx rfl (hb hby d20_28) rfl κ)) ?_
  refine Gl.st (g' := (mkF m 31 #[vR u, vI (0 : Int32), vI ch] [(.int ((0 : Int32) <<< ((1 : Int32) &&& 31)))])) (fun τ κ => XS.iconst X495.here hx rfl (hb hby d20_29) (XS.ishl X495.here hx rfl (hb hby d20_30) rfl κ)) ?_
  rw [show ((0 : Int32) <<< ((1 : Int32) &&& 31)) = (0 : Int32) from by decide]
  refine Gl.st (g' := (mkF m 33 #[vR u, vI (0 : Int32), vI ch] [(.ref u)])) (fun τ κ => XS.istoreN X495.here hx rfl (hb hby d20_31) rfl (l' := #[vR u, vI (0 : Int32), vI ch]) rfl (XS.aloadN X495.here hx rfl (hb hby d20_32) rfl rfl κ)) ?_
  refine Gl.st (g' := (mkF m 37 #[vR u, vI (1 : Int32), vI ch] [(.int (0 : Int32)), (.ref u)])) (fun τ κ => XS.iloadN X495.here hx rfl (hb hby d20_33) rfl (XS.iinc X495.here hx rfl (hb hby d20_34) rfl (l' := #[vR u, vI (1 : Int32), vI ch]) rfl κ)) ?_
  refine Gl.st (g' := (mkF m 38 #[vR u, vI (1 : Int32), vI ch] [(.int ch), (.int (0 : Int32)), (.ref u)])) (fun τ κ => XS.iloadN X495.here hx rfl (hb hby d20_37) rfl κ) ?_
  obtain ⟨T497, X497, e497, st497⟩ := getS2 X495 hx hZ hown (host := "") (Or.inl (w92_ hw)) Via.refl e495 SH (g := (mkF m 38 #[vR u, vI (1 : Int32), vI ch] [(.int ch), (.int (0 : Int32)), (.ref u)])) rfl (hb hby d20_38)
  refine Gl.st (g' := (mkF m 41 #[vR u, vI (1 : Int32), vI ch] [(.int (0 : Int32)), (.int ch), (.int (0 : Int32)), (.ref u)])) (fun τ κ => st497 _ κ) ?_
  refine Gl.st (g' := (mkF m 43 #[vR u, vI (1 : Int32), vI ch] [(.int ((ch >>> ((0 : Int32) &&& 31)).toInt8.toInt32)), (.int (0 : Int32)), (.ref u)])) (fun τ κ => XS.ishr X497.here hx rfl (hb hby d20_41) rfl (XS.i2b X497.here hx rfl (hb hby d20_42) rfl κ)) ?_
  obtain ⟨cl_o498, Ar_o498, q_o498, S_o498, M_o498, H_o498, G_o498⟩ := id V0
  have hin_o498 : ¬ ((0 : Int32) < 0 ∨ cl_o498.slots.size ≤ ((0 : Int32)).toNatClampNeg) := inb_of S_o498 ⟨by decide, by decide⟩
  obtain ⟨T499, h499, X499, e499, W499, st499⟩ := stB X497 hx hZ e497 Ar_o498 (j := (0 : Int32)) hin_o498 (g := (mkF m 43 #[vR u, vI (1 : Int32), vI ch] [(.int ((ch >>> ((0 : Int32) &&& 31)).toInt8.toInt32)), (.int (0 : Int32)), (.ref u)])) rfl rfl (hb hby d20_43)
  have S_500 := SA.wr W499
  have S_501 := SH.wr W499
  have S_502 := SL.wr W499
  have N499 := Fr.snoc X499 N0 gu
  have Z499 : n0 ≤ h499.size := Nat.le_trans Z0 (Nat.le_of_eq W499.size.symm)
  have K499 : Keep h0 h499 [u] := (Keep.refl h0 [u]).wr W499 (Or.inl (List.mem_of_getElem? (i := 0) rfl))
  have V_u_499 : Arv Z h499 u ku .byte (6 : Int32) [(.int (nar .byte ((ch >>> ((0 : Int32) &&& 31)).toInt8.toInt32))), w1, w2, w3, w4, w5] (.int (0 : Int32)) := Arv.set Ar_o498 q_o498 S_o498 M_o498 H_o498 G_o498 (fits_nar_byte _) W499 0 rfl (Nat.le_of_ble_eq_true rfl)
  refine Gl.st (g' := (mkF m 44 #[vR u, vI (1 : Int32), vI ch] [])) (fun τ κ => st499 _ κ) ?_
  refine Gl.st (g' := (mkF m 46 #[vR u, vI (1 : Int32), vI ch] [(.int (1 : Int32)), (.ref u)])) (fun τ κ => XS.aloadN X499.here hx rfl (hb hby d20_44) rfl rfl (XS.iloadN X499.here hx rfl (hb hby d20_45) rfl κ)) ?_
  refine Gl.st (g' := (mkF m 47 #[vR u, vI (1 : Int32), vI ch] [(.int ch), (.int (1 : Int32)), (.ref u)])) (fun τ κ => XS.iloadN X499.here hx rfl (hb hby d20_46) rfl κ) ?_
  obtain ⟨T504, X504, e504, st504⟩ := getS2 X499 hx hZ hown (host := "") (Or.inl (w93_ hw)) Via.refl e499 S_502 (g := (mkF m 47 #[vR u, vI (1 : Int32), vI ch] [(.int ch), (.int (1 : Int32)), (.ref u)])) rfl (hb hby d20_47)
  refine Gl.st (g' := (mkF m 50 #[vR u, vI (1 : Int32), vI ch] [(.int (8 : Int32)), (.int ch), (.int (1 : Int32)), (.ref u)])) (fun τ κ => st504 _ κ) ?_
  refine Gl.st (g' := (mkF m 52 #[vR u, vI (1 : Int32), vI ch] [(.int ((ch >>> ((8 : Int32) &&& 31)).toInt8.toInt32)), (.int (1 : Int32)), (.ref u)])) (fun τ κ => XS.ishr X504.here hx rfl (hb hby d20_50) rfl (XS.i2b X504.here hx rfl (hb hby d20_51) rfl κ)) ?_
  obtain ⟨cl_o505, Ar_o505, q_o505, S_o505, M_o505, H_o505, G_o505⟩ := id V_u_499
  have hin_o505 : ¬ ((1 : Int32) < 0 ∨ cl_o505.slots.size ≤ ((1 : Int32)).toNatClampNeg) := inb_of S_o505 ⟨by decide, by decide⟩
  obtain ⟨T506, h506, X506, e506, W506, st506⟩ := stB X504 hx hZ e504 Ar_o505 (j := (1 : Int32)) hin_o505 (g := (mkF m 52 #[vR u, vI (1 : Int32), vI ch] [(.int ((ch >>> ((8 : Int32) &&& 31)).toInt8.toInt32)), (.int (1 : Int32)), (.ref u)])) rfl rfl (hb hby d20_52)
  have S_507 := S_500.wr W506
  have S_508 := S_501.wr W506
  have S_509 := S_502.wr W506
  have N506 := Fr.snoc X506 N499 gu
  have Z506 : n0 ≤ h506.size := Nat.le_trans Z499 (Nat.le_of_eq W506.size.symm)
  have K506 : Keep h0 h506 [u] := K499.wr W506 (Or.inl (List.mem_of_getElem? (i := 0) rfl))
  have V_u_506 : Arv Z h506 u ku .byte (6 : Int32) [(.int (nar .byte ((ch >>> ((0 : Int32) &&& 31)).toInt8.toInt32))), (.int (nar .byte ((ch >>> ((8 : Int32) &&& 31)).toInt8.toInt32))), w2, w3, w4, w5] (.int (0 : Int32)) := Arv.set Ar_o505 q_o505 S_o505 M_o505 H_o505 G_o505 (fits_nar_byte _) W506 1 rfl (Nat.le_of_ble_eq_true rfl)
  refine Gl.st (g' := (mkF m 53 #[vR u, vI (1 : Int32), vI ch] [])) (fun τ κ => st506 _ κ) ?_
  exact Gl.ret (v := none) X506 Bd.notSynchronized (fun _ => rfl) e506 (fun fs hr => X506.returnOut hx Bd.returns (hb hby d20_53) hr) (by decide) (by decide) ⟨rfl, N506, K506, V_u_506⟩
theorem ef_rm20_3_1 (m : MethodId) (u : Addr) (ch : Int32) : entryFrame m #[(.ref u), (.int (1 : Int32)), (.int ch)] 3 = mkF m 0 #[vR u, vI (1 : Int32), vI ch] [] := by first | (simp [entryFrame, mkF, argsToLocals, Value.category]; done) | rfl
def Q_rm20_3_1 (Z : State) (u : Addr) (ch : Int32) (ku : ClassId) (w0 w1 w2 w3 w4 w5 : Value) (h0 : Heap) (n0 : Nat) (v : Option Value) (h : Heap) (L : List Loc) : Prop := v = none ∧ Fr n0 L ∧ Keep h0 h [u] ∧ Arv Z h u ku .byte (6 : Int32) [w0, w1, (.int (own_hi ch)), (.int (own_lo ch)), w4, w5] (.int (0 : Int32))
set_option maxRecDepth 65536 in
set_option maxHeartbeats 40000000 in
theorem rm20_3_1 (l : Launch) (Z : State) (a0 : Array Value) (hw : ∀ d ∈ tables_1, d.before a0 Z = true) (ws : List Jvm.Cond) (u : Addr) (ch : Int32) (ku : ClassId) (w0 w1 w2 w3 w4 w5 : Value) (h0 : Heap) (n0 : Nat) (Z0 : n0 ≤ h0.size) (SA : Sta Z h0 "java/lang/StringUTF16" "$assertionsDisabled" "Z" (.int (1 : Int32))) (SH : Sta Z h0 "java/lang/StringUTF16" "HI_BYTE_SHIFT" "I" (.int (0 : Int32))) (SL : Sta Z h0 "java/lang/StringUTF16" "LO_BYTE_SHIFT" "I" (.int (8 : Int32))) (V0 : Arv Z h0 u ku .byte (6 : Int32) [w0, w1, w2, w3, w4, w5] (.int (0 : Int32))) (gu : n0 ≤ u) :
    MetFree l (⟨"java/lang/StringUTF16", "putChar", "([BII)V"⟩ : MethodName) (head1 (Jvm.Cond.code (⟨"java/lang/StringUTF16", "putChar", "([BII)V"⟩ : MethodName) jdk_52_method_4_code 3 none :: ws) ({ frames := 0, cells := 0, slots := 0, locals := 0 } : Room)) (fun aα Uα => aα = #[(.ref u), (.int (1 : Int32)), (.int ch)] ∧ Z.Warmed39 Uα.vm ∧ Uα.heap = h0) (fun _ _ _ _ _ => True) (fun _ Uα oα Uβ => ∃ vα Lα, oα = .returned vα ∧ Q_rm20_3_1 Z u ch ku w0 w1 w2 w3 w4 w5 h0 n0 vα Uβ.heap Lα ∧ FrameEnd Uα oα Uβ Lα ({ frames := 0, cells := 0, slots := 0, locals := 0 } : Room).cells ({ frames := 0, cells := 0, slots := 0, locals := 0 } : Room).slots) := by
  refine MetFree.of_bodySF (plainFor_of_name pn_java_lang_StringUTF16) hisR ?_
  intro p e s m args below meth c s₁ Bd hml0 hP hKα
  obtain ⟨rfl, hZ, hh⟩ := hP
  have hx := Bd.exec
  have hby := Bd.bytes
  have hml : c.maxLocals = 3 := hml0
  have hown : s.vm.findClass "java/lang/StringUTF16" = some m.cls := findClass_of_methodNamed Bd.named
  have hnm := (name_of_methodNamed Bd.named Bd.method).1
  have X0 : Stand p l e ({ frames := 0, cells := 0, slots := 0, locals := 0 } : Room) s m #[(.ref u), (.int (1 : Int32)), (.int ch)] below meth c s₁ [] 0 0 := Stand.of_body Bd
  have e0 : s₁.heap = h0 := by rw [← hh, Bd.state]; rfl
  have N0 := Fr.nil n0
  suffices k0 : Gl p e below s (Q_rm20_3_1 Z u ch ku w0 w1 w2 w3 w4 w5 h0 n0) ({ frames := 0, cells := 0, slots := 0, locals := 0 } : Room).cells ({ frames := 0, cells := 0, slots := 0, locals := 0 } : Room).slots s₁ (mkF m 0 #[vR u, vI (1 : Int32), vI ch] []) from Gl.st (fun τ κ => castTop (ef_rm20_3_1 m u ch) κ) k0
  obtain ⟨T511, X511, e511, st511⟩ := getS2 X0 hx hZ hown (host := "") (Or.inl (w91_ hw)) Via.refl e0 SA (g := (mkF m 0 #[vR u, vI (1 : Int32), vI ch] [])) rfl (hb hby d20_0)
  refine Gl.st (g' := (mkF m 3 #[vR u, vI (1 : Int32), vI ch] [(.int (1 : Int32))])) (fun τ κ => st511 _ κ) ?_
  have hc512 : ¬ ((1 : Int32) = (0 : Int32)) := by decide
  refine Gl.st (g' := (mkF m 29 #[vR u, vI (1 : Int32), vI ch] [(.int (1 : Int32))])) (fun τ κ => XS.ifYes X511.here hx rfl (pc0 := 3) (pc' := 28) rfl (hb hby d20_3) rfl ((if0 _ _).trans (feq hc512).2) (by decide) (by decide) (XS.iloadN X511.here hx rfl (hb hby d20_28) rfl κ)) ?_
  refine Gl.st (g' := (mkF m 31 #[vR u, vI (1 : Int32), vI ch] [(.int ((1 : Int32) <<< ((1 : Int32) &&& 31)))])) (fun τ κ => XS.iconst X511.here hx rfl (hb hby d20_29) (XS.ishl X511.here hx rfl (hb hby d20_30) rfl κ)) ?_
  rw [show ((1 : Int32) <<< ((1 : Int32) &&& 31)) = (2 : Int32) from by decide]
  refine Gl.st (g' := (mkF m 33 #[vR u, vI (2 : Int32), vI ch] [(.ref u)])) (fun τ κ => XS.istoreN X511.here hx rfl (hb hby d20_31) rfl (l' := #[vR u, vI (2 : Int32), vI ch]) rfl (XS.aloadN X511.here hx rfl (hb hby d20_32) rfl rfl κ)) ?_
  refine Gl.st (g' := (mkF m 37 #[vR u, vI (3 : Int32), vI ch] [(.int (2 : Int32)), (.ref u)])) (fun τ κ => XS.iloadN X511.here hx rfl (hb hby d20_33) rfl (XS.iinc X511.here hx rfl (hb hby d20_34) rfl (l' := #[vR u, vI (3 : Int32), vI ch]) rfl κ)) ?_
  refine Gl.st (g' := (mkF m 38 #[vR u, vI (3 : Int32), vI ch] [(.int ch), (.int (2 : Int32)), (.ref u)])) (fun τ κ => XS.iloadN X511.here hx rfl (hb hby d20_37) rfl κ) ?_
  obtain ⟨T513, X513, e513, st513⟩ := getS2 X511 hx hZ hown (host := "") (Or.inl (w92_ hw)) Via.refl e511 SH (g := (mkF m 38 #[vR u, vI (3 : Int32), vI ch] [(.int ch), (.int (2 : Int32)), (.ref u)])) rfl (hb hby d20_38)
  refine Gl.st (g' := (mkF m 41 #[vR u, vI (3 : Int32), vI ch] [(.int (0 : Int32)), (.int ch), (.int (2 : Int32)), (.ref u)])) (fun τ κ => st513 _ κ) ?_
  refine Gl.st (g' := (mkF m 43 #[vR u, vI (3 : Int32), vI ch] [(.int ((ch >>> ((0 : Int32) &&& 31)).toInt8.toInt32)), (.int (2 : Int32)), (.ref u)])) (fun τ κ => XS.ishr X513.here hx rfl (hb hby d20_41) rfl (XS.i2b X513.here hx rfl (hb hby d20_42) rfl κ)) ?_
  obtain ⟨cl_o514, Ar_o514, q_o514, S_o514, M_o514, H_o514, G_o514⟩ := id V0
  have hin_o514 : ¬ ((2 : Int32) < 0 ∨ cl_o514.slots.size ≤ ((2 : Int32)).toNatClampNeg) := inb_of S_o514 ⟨by decide, by decide⟩
  obtain ⟨T515, h515, X515, e515, W515, st515⟩ := stB X513 hx hZ e513 Ar_o514 (j := (2 : Int32)) hin_o514 (g := (mkF m 43 #[vR u, vI (3 : Int32), vI ch] [(.int ((ch >>> ((0 : Int32) &&& 31)).toInt8.toInt32)), (.int (2 : Int32)), (.ref u)])) rfl rfl (hb hby d20_43)
  have S_516 := SA.wr W515
  have S_517 := SH.wr W515
  have S_518 := SL.wr W515
  have N515 := Fr.snoc X515 N0 gu
  have Z515 : n0 ≤ h515.size := Nat.le_trans Z0 (Nat.le_of_eq W515.size.symm)
  have K515 : Keep h0 h515 [u] := (Keep.refl h0 [u]).wr W515 (Or.inl (List.mem_of_getElem? (i := 0) rfl))
  have V_u_515 : Arv Z h515 u ku .byte (6 : Int32) [w0, w1, (.int (nar .byte ((ch >>> ((0 : Int32) &&& 31)).toInt8.toInt32))), w3, w4, w5] (.int (0 : Int32)) := Arv.set Ar_o514 q_o514 S_o514 M_o514 H_o514 G_o514 (fits_nar_byte _) W515 2 rfl (Nat.le_of_ble_eq_true rfl)
  refine Gl.st (g' := (mkF m 44 #[vR u, vI (3 : Int32), vI ch] [])) (fun τ κ => st515 _ κ) ?_
  refine Gl.st (g' := (mkF m 46 #[vR u, vI (3 : Int32), vI ch] [(.int (3 : Int32)), (.ref u)])) (fun τ κ => XS.aloadN X515.here hx rfl (hb hby d20_44) rfl rfl (XS.iloadN X515.here hx rfl (hb hby d20_45) rfl κ)) ?_
  refine Gl.st (g' := (mkF m 47 #[vR u, vI (3 : Int32), vI ch] [(.int ch), (.int (3 : Int32)), (.ref u)])) (fun τ κ => XS.iloadN X515.here hx rfl (hb hby d20_46) rfl κ) ?_
  obtain ⟨T520, X520, e520, st520⟩ := getS2 X515 hx hZ hown (host := "") (Or.inl (w93_ hw)) Via.refl e515 S_518 (g := (mkF m 47 #[vR u, vI (3 : Int32), vI ch] [(.int ch), (.int (3 : Int32)), (.ref u)])) rfl (hb hby d20_47)
  refine Gl.st (g' := (mkF m 50 #[vR u, vI (3 : Int32), vI ch] [(.int (8 : Int32)), (.int ch), (.int (3 : Int32)), (.ref u)])) (fun τ κ => st520 _ κ) ?_
  refine Gl.st (g' := (mkF m 52 #[vR u, vI (3 : Int32), vI ch] [(.int ((ch >>> ((8 : Int32) &&& 31)).toInt8.toInt32)), (.int (3 : Int32)), (.ref u)])) (fun τ κ => XS.ishr X520.here hx rfl (hb hby d20_50) rfl (XS.i2b X520.here hx rfl (hb hby d20_51) rfl κ)) ?_
  obtain ⟨cl_o521, Ar_o521, q_o521, S_o521, M_o521, H_o521, G_o521⟩ := id V_u_515
  have hin_o521 : ¬ ((3 : Int32) < 0 ∨ cl_o521.slots.size ≤ ((3 : Int32)).toNatClampNeg) := inb_of S_o521 ⟨by decide, by decide⟩
  obtain ⟨T522, h522, X522, e522, W522, st522⟩ := stB X520 hx hZ e520 Ar_o521 (j := (3 : Int32)) hin_o521 (g := (mkF m 52 #[vR u, vI (3 : Int32), vI ch] [(.int ((ch >>> ((8 : Int32) &&& 31)).toInt8.toInt32)), (.int (3 : Int32)), (.ref u)])) rfl rfl (hb hby d20_52)
  have S_523 := S_516.wr W522
  have S_524 := S_517.wr W522
  have S_525 := S_518.wr W522
  have N522 := Fr.snoc X522 N515 gu
  have Z522 : n0 ≤ h522.size := Nat.le_trans Z515 (Nat.le_of_eq W522.size.symm)
  have K522 : Keep h0 h522 [u] := K515.wr W522 (Or.inl (List.mem_of_getElem? (i := 0) rfl))
  have V_u_522 : Arv Z h522 u ku .byte (6 : Int32) [w0, w1, (.int (nar .byte ((ch >>> ((0 : Int32) &&& 31)).toInt8.toInt32))), (.int (nar .byte ((ch >>> ((8 : Int32) &&& 31)).toInt8.toInt32))), w4, w5] (.int (0 : Int32)) := Arv.set Ar_o521 q_o521 S_o521 M_o521 H_o521 G_o521 (fits_nar_byte _) W522 3 rfl (Nat.le_of_ble_eq_true rfl)
  refine Gl.st (g' := (mkF m 53 #[vR u, vI (3 : Int32), vI ch] [])) (fun τ κ => st522 _ κ) ?_
  exact Gl.ret (v := none) X522 Bd.notSynchronized (fun _ => rfl) e522 (fun fs hr => X522.returnOut hx Bd.returns (hb hby d20_53) hr) (by decide) (by decide) ⟨rfl, N522, K522, V_u_522⟩
theorem ef_rm20_3_2 (m : MethodId) (u : Addr) (ch : Int32) : entryFrame m #[(.ref u), (.int (2 : Int32)), (.int ch)] 3 = mkF m 0 #[vR u, vI (2 : Int32), vI ch] [] := by first | (simp [entryFrame, mkF, argsToLocals, Value.category]; done) | rfl
def Q_rm20_3_2 (Z : State) (u : Addr) (ch : Int32) (ku : ClassId) (w0 w1 w2 w3 w4 w5 : Value) (h0 : Heap) (n0 : Nat) (v : Option Value) (h : Heap) (L : List Loc) : Prop := v = none ∧ Fr n0 L ∧ Keep h0 h [u] ∧ Arv Z h u ku .byte (6 : Int32) [w0, w1, w2, w3, (.int (own_hi ch)), (.int (own_lo ch))] (.int (0 : Int32))
set_option maxRecDepth 65536 in
set_option maxHeartbeats 40000000 in
theorem rm20_3_2 (l : Launch) (Z : State) (a0 : Array Value) (hw : ∀ d ∈ tables_1, d.before a0 Z = true) (ws : List Jvm.Cond) (u : Addr) (ch : Int32) (ku : ClassId) (w0 w1 w2 w3 w4 w5 : Value) (h0 : Heap) (n0 : Nat) (Z0 : n0 ≤ h0.size) (SA : Sta Z h0 "java/lang/StringUTF16" "$assertionsDisabled" "Z" (.int (1 : Int32))) (SH : Sta Z h0 "java/lang/StringUTF16" "HI_BYTE_SHIFT" "I" (.int (0 : Int32))) (SL : Sta Z h0 "java/lang/StringUTF16" "LO_BYTE_SHIFT" "I" (.int (8 : Int32))) (V0 : Arv Z h0 u ku .byte (6 : Int32) [w0, w1, w2, w3, w4, w5] (.int (0 : Int32))) (gu : n0 ≤ u) :
    MetFree l (⟨"java/lang/StringUTF16", "putChar", "([BII)V"⟩ : MethodName) (head1 (Jvm.Cond.code (⟨"java/lang/StringUTF16", "putChar", "([BII)V"⟩ : MethodName) jdk_52_method_4_code 3 none :: ws) ({ frames := 0, cells := 0, slots := 0, locals := 0 } : Room)) (fun aα Uα => aα = #[(.ref u), (.int (2 : Int32)), (.int ch)] ∧ Z.Warmed39 Uα.vm ∧ Uα.heap = h0) (fun _ _ _ _ _ => True) (fun _ Uα oα Uβ => ∃ vα Lα, oα = .returned vα ∧ Q_rm20_3_2 Z u ch ku w0 w1 w2 w3 w4 w5 h0 n0 vα Uβ.heap Lα ∧ FrameEnd Uα oα Uβ Lα ({ frames := 0, cells := 0, slots := 0, locals := 0 } : Room).cells ({ frames := 0, cells := 0, slots := 0, locals := 0 } : Room).slots) := by
  refine MetFree.of_bodySF (plainFor_of_name pn_java_lang_StringUTF16) hisR ?_
  intro p e s m args below meth c s₁ Bd hml0 hP hKα
  obtain ⟨rfl, hZ, hh⟩ := hP
  have hx := Bd.exec
  have hby := Bd.bytes
  have hml : c.maxLocals = 3 := hml0
  have hown : s.vm.findClass "java/lang/StringUTF16" = some m.cls := findClass_of_methodNamed Bd.named
  have hnm := (name_of_methodNamed Bd.named Bd.method).1
  have X0 : Stand p l e ({ frames := 0, cells := 0, slots := 0, locals := 0 } : Room) s m #[(.ref u), (.int (2 : Int32)), (.int ch)] below meth c s₁ [] 0 0 := Stand.of_body Bd
  have e0 : s₁.heap = h0 := by rw [← hh, Bd.state]; rfl
  have N0 := Fr.nil n0
  suffices k0 : Gl p e below s (Q_rm20_3_2 Z u ch ku w0 w1 w2 w3 w4 w5 h0 n0) ({ frames := 0, cells := 0, slots := 0, locals := 0 } : Room).cells ({ frames := 0, cells := 0, slots := 0, locals := 0 } : Room).slots s₁ (mkF m 0 #[vR u, vI (2 : Int32), vI ch] []) from Gl.st (fun τ κ => castTop (ef_rm20_3_2 m u ch) κ) k0
  obtain ⟨T527, X527, e527, st527⟩ := getS2 X0 hx hZ hown (host := "") (Or.inl (w91_ hw)) Via.refl e0 SA (g := (mkF m 0 #[vR u, vI (2 : Int32), vI ch] [])) rfl (hb hby d20_0)
  refine Gl.st (g' := (mkF m 3 #[vR u, vI (2 : Int32), vI ch] [(.int (1 : Int32))])) (fun τ κ => st527 _ κ) ?_
  have hc528 : ¬ ((1 : Int32) = (0 : Int32)) := by decide
  refine Gl.st (g' := (mkF m 29 #[vR u, vI (2 : Int32), vI ch] [(.int (2 : Int32))])) (fun τ κ => XS.ifYes X527.here hx rfl (pc0 := 3) (pc' := 28) rfl (hb hby d20_3) rfl ((if0 _ _).trans (feq hc528).2) (by decide) (by decide) (XS.iloadN X527.here hx rfl (hb hby d20_28) rfl κ)) ?_
  refine Gl.st (g' := (mkF m 31 #[vR u, vI (2 : Int32), vI ch] [(.int ((2 : Int32) <<< ((1 : Int32) &&& 31)))])) (fun τ κ => XS.iconst X527.here hx rfl (hb hby d20_29) (XS.ishl X527.here hx rfl (hb hby d20_30) rfl κ)) ?_
  rw [show ((2 : Int32) <<< ((1 : Int32) &&& 31)) = (4 : Int32) from by decide]
  refine Gl.st (g' := (mkF m 33 #[vR u, vI (4 : Int32), vI ch] [(.ref u)])) (fun τ κ => XS.istoreN X527.here hx rfl (hb hby d20_31) rfl (l' := #[vR u, vI (4 : Int32), vI ch]) rfl (XS.aloadN X527.here hx rfl (hb hby d20_32) rfl rfl κ)) ?_
  refine Gl.st (g' := (mkF m 37 #[vR u, vI (5 : Int32), vI ch] [(.int (4 : Int32)), (.ref u)])) (fun τ κ => XS.iloadN X527.here hx rfl (hb hby d20_33) rfl (XS.iinc X527.here hx rfl (hb hby d20_34) rfl (l' := #[vR u, vI (5 : Int32), vI ch]) rfl κ)) ?_
  refine Gl.st (g' := (mkF m 38 #[vR u, vI (5 : Int32), vI ch] [(.int ch), (.int (4 : Int32)), (.ref u)])) (fun τ κ => XS.iloadN X527.here hx rfl (hb hby d20_37) rfl κ) ?_
  obtain ⟨T529, X529, e529, st529⟩ := getS2 X527 hx hZ hown (host := "") (Or.inl (w92_ hw)) Via.refl e527 SH (g := (mkF m 38 #[vR u, vI (5 : Int32), vI ch] [(.int ch), (.int (4 : Int32)), (.ref u)])) rfl (hb hby d20_38)
  refine Gl.st (g' := (mkF m 41 #[vR u, vI (5 : Int32), vI ch] [(.int (0 : Int32)), (.int ch), (.int (4 : Int32)), (.ref u)])) (fun τ κ => st529 _ κ) ?_
  refine Gl.st (g' := (mkF m 43 #[vR u, vI (5 : Int32), vI ch] [(.int ((ch >>> ((0 : Int32) &&& 31)).toInt8.toInt32)), (.int (4 : Int32)), (.ref u)])) (fun τ κ => XS.ishr X529.here hx rfl (hb hby d20_41) rfl (XS.i2b X529.here hx rfl (hb hby d20_42) rfl κ)) ?_
  obtain ⟨cl_o530, Ar_o530, q_o530, S_o530, M_o530, H_o530, G_o530⟩ := id V0
  have hin_o530 : ¬ ((4 : Int32) < 0 ∨ cl_o530.slots.size ≤ ((4 : Int32)).toNatClampNeg) := inb_of S_o530 ⟨by decide, by decide⟩
  obtain ⟨T531, h531, X531, e531, W531, st531⟩ := stB X529 hx hZ e529 Ar_o530 (j := (4 : Int32)) hin_o530 (g := (mkF m 43 #[vR u, vI (5 : Int32), vI ch] [(.int ((ch >>> ((0 : Int32) &&& 31)).toInt8.toInt32)), (.int (4 : Int32)), (.ref u)])) rfl rfl (hb hby d20_43)
  have S_532 := SA.wr W531
  have S_533 := SH.wr W531
  have S_534 := SL.wr W531
  have N531 := Fr.snoc X531 N0 gu
  have Z531 : n0 ≤ h531.size := Nat.le_trans Z0 (Nat.le_of_eq W531.size.symm)
  have K531 : Keep h0 h531 [u] := (Keep.refl h0 [u]).wr W531 (Or.inl (List.mem_of_getElem? (i := 0) rfl))
  have V_u_531 : Arv Z h531 u ku .byte (6 : Int32) [w0, w1, w2, w3, (.int (nar .byte ((ch >>> ((0 : Int32) &&& 31)).toInt8.toInt32))), w5] (.int (0 : Int32)) := Arv.set Ar_o530 q_o530 S_o530 M_o530 H_o530 G_o530 (fits_nar_byte _) W531 4 rfl (Nat.le_of_ble_eq_true rfl)
  refine Gl.st (g' := (mkF m 44 #[vR u, vI (5 : Int32), vI ch] [])) (fun τ κ => st531 _ κ) ?_
  refine Gl.st (g' := (mkF m 46 #[vR u, vI (5 : Int32), vI ch] [(.int (5 : Int32)), (.ref u)])) (fun τ κ => XS.aloadN X531.here hx rfl (hb hby d20_44) rfl rfl (XS.iloadN X531.here hx rfl (hb hby d20_45) rfl κ)) ?_
  refine Gl.st (g' := (mkF m 47 #[vR u, vI (5 : Int32), vI ch] [(.int ch), (.int (5 : Int32)), (.ref u)])) (fun τ κ => XS.iloadN X531.here hx rfl (hb hby d20_46) rfl κ) ?_
  obtain ⟨T536, X536, e536, st536⟩ := getS2 X531 hx hZ hown (host := "") (Or.inl (w93_ hw)) Via.refl e531 S_534 (g := (mkF m 47 #[vR u, vI (5 : Int32), vI ch] [(.int ch), (.int (5 : Int32)), (.ref u)])) rfl (hb hby d20_47)
  refine Gl.st (g' := (mkF m 50 #[vR u, vI (5 : Int32), vI ch] [(.int (8 : Int32)), (.int ch), (.int (5 : Int32)), (.ref u)])) (fun τ κ => st536 _ κ) ?_
  refine Gl.st (g' := (mkF m 52 #[vR u, vI (5 : Int32), vI ch] [(.int ((ch >>> ((8 : Int32) &&& 31)).toInt8.toInt32)), (.int (5 : Int32)), (.ref u)])) (fun τ κ => XS.ishr X536.here hx rfl (hb hby d20_50) rfl (XS.i2b X536.here hx rfl (hb hby d20_51) rfl κ)) ?_
  obtain ⟨cl_o537, Ar_o537, q_o537, S_o537, M_o537, H_o537, G_o537⟩ := id V_u_531
  have hin_o537 : ¬ ((5 : Int32) < 0 ∨ cl_o537.slots.size ≤ ((5 : Int32)).toNatClampNeg) := inb_of S_o537 ⟨by decide, by decide⟩
  obtain ⟨T538, h538, X538, e538, W538, st538⟩ := stB X536 hx hZ e536 Ar_o537 (j := (5 : Int32)) hin_o537 (g := (mkF m 52 #[vR u, vI (5 : Int32), vI ch] [(.int ((ch >>> ((8 : Int32) &&& 31)).toInt8.toInt32)), (.int (5 : Int32)), (.ref u)])) rfl rfl (hb hby d20_52)
  have S_539 := S_532.wr W538
  have S_540 := S_533.wr W538
  have S_541 := S_534.wr W538
  have N538 := Fr.snoc X538 N531 gu
  have Z538 : n0 ≤ h538.size := Nat.le_trans Z531 (Nat.le_of_eq W538.size.symm)
  have K538 : Keep h0 h538 [u] := K531.wr W538 (Or.inl (List.mem_of_getElem? (i := 0) rfl))
  have V_u_538 : Arv Z h538 u ku .byte (6 : Int32) [w0, w1, w2, w3, (.int (nar .byte ((ch >>> ((0 : Int32) &&& 31)).toInt8.toInt32))), (.int (nar .byte ((ch >>> ((8 : Int32) &&& 31)).toInt8.toInt32)))] (.int (0 : Int32)) := Arv.set Ar_o537 q_o537 S_o537 M_o537 H_o537 G_o537 (fits_nar_byte _) W538 5 rfl (Nat.le_of_ble_eq_true rfl)
  refine Gl.st (g' := (mkF m 53 #[vR u, vI (5 : Int32), vI ch] [])) (fun τ κ => st538 _ κ) ?_
  exact Gl.ret (v := none) X538 Bd.notSynchronized (fun _ => rfl) e538 (fun fs hr => X538.returnOut hx Bd.returns (hb hby d20_53) hr) (by decide) (by decide) ⟨rfl, N538, K538, V_u_538⟩
theorem ef_rm19_3 (m : MethodId)  : entryFrame m #[(.int (3 : Int32))] 1 = mkF m 0 #[vI (3 : Int32)] [] := by first | (simp [entryFrame, mkF, argsToLocals, Value.category]; done) | rfl
def Q_rm19_3 (Z : State)   (h0 : Heap) (n0 : Nat) (v : Option Value) (h : Heap) (L : List Loc) : Prop := v = some (.int (6 : Int32)) ∧ Fr n0 L ∧ h = h0
set_option maxRecDepth 65536 in
set_option maxHeartbeats 40000000 in
theorem rm19_3 (l : Launch) (Z : State) (a0 : Array Value) (hw : ∀ d ∈ tables_1, d.before a0 Z = true) (ws : List Jvm.Cond)   (h0 : Heap) (n0 : Nat) (Z0 : n0 ≤ h0.size)  :
    MetFree l (⟨"java/lang/StringUTF16", "newBytesLength", "(I)I"⟩ : MethodName) (head1 (Jvm.Cond.code (⟨"java/lang/StringUTF16", "newBytesLength", "(I)I"⟩ : MethodName) jdk_52_method_3_code 1 (some .int) :: ws) ({ frames := 0, cells := 0, slots := 0, locals := 0 } : Room)) (fun aα Uα => aα = #[(.int (3 : Int32))] ∧ Z.Warmed39 Uα.vm ∧ Uα.heap = h0) (fun _ _ _ _ _ => True) (fun _ Uα oα Uβ => ∃ vα Lα, oα = .returned vα ∧ Q_rm19_3 Z   h0 n0 vα Uβ.heap Lα ∧ FrameEnd Uα oα Uβ Lα ({ frames := 0, cells := 0, slots := 0, locals := 0 } : Room).cells ({ frames := 0, cells := 0, slots := 0, locals := 0 } : Room).slots) := by
  refine MetFree.of_bodySF (plainFor_of_name pn_java_lang_StringUTF16) hisR ?_
  intro p e s m args below meth c s₁ Bd hml0 hP hKα
  obtain ⟨rfl, hZ, hh⟩ := hP
  have hx := Bd.exec
  have hby := Bd.bytes
  have hml : c.maxLocals = 1 := hml0
  have hown : s.vm.findClass "java/lang/StringUTF16" = some m.cls := findClass_of_methodNamed Bd.named
  have hnm := (name_of_methodNamed Bd.named Bd.method).1
  have X0 : Stand p l e ({ frames := 0, cells := 0, slots := 0, locals := 0 } : Room) s m #[(.int (3 : Int32))] below meth c s₁ [] 0 0 := Stand.of_body Bd
  have e0 : s₁.heap = h0 := by rw [← hh, Bd.state]; rfl
  have N0 := Fr.nil n0
  suffices k0 : Gl p e below s (Q_rm19_3 Z   h0 n0) ({ frames := 0, cells := 0, slots := 0, locals := 0 } : Room).cells ({ frames := 0, cells := 0, slots := 0, locals := 0 } : Room).slots s₁ (mkF m 0 #[vI (3 : Int32)] []) from Gl.st (fun τ κ => castTop (ef_rm19_3 m ) κ) k0
  refine Gl.st (g' := (mkF m 1 #[vI (3 : Int32)] [(.int (3 : Int32))])) (fun τ κ => XS.iloadN X0.here hx rfl (hb hby d19_0) rfl κ) ?_
  have hc543 : ¬ ((3 : Int32) < (0 : Int32)) := by decide
  refine Gl.st (g' := (mkF m 13 #[vI (3 : Int32)] [(.int (3 : Int32))])) (fun τ κ => XS.ifYes X0.here hx rfl (pc0 := 1) (pc' := 12) rfl (hb hby d19_1) rfl ((if0 _ _).trans (flt hc543).2.1) (by decide) (by decide) (XS.iloadN X0.here hx rfl (hb hby d19_12) rfl κ)) ?_
  refine Gl.st (g' := (mkF m 15 #[vI (3 : Int32)] [(.int (1073741823 : Int32)), (.int (3 : Int32))])) (fun τ κ => X0.ldcInt hx hown (mvT hZ (w87_ hw)) (g := (mkF m 13 #[vI (3 : Int32)] [(.int (3 : Int32))])) rfl (hb hby d19_13) _ κ) ?_
  have hc544 : (3 : Int32) < (1073741823 : Int32) := by decide
  refine Gl.st (g' := (mkF m 56 #[vI (3 : Int32)] [(.int (3 : Int32))])) (fun τ κ => XS.icmpYes X0.here hx rfl (pc0 := 15) (pc' := 55) rfl (hb hby d19_15) rfl (tlt hc544).1 (by decide) (by decide) (XS.iloadN X0.here hx rfl (hb hby d19_55) rfl κ)) ?_
  refine Gl.st (g' := (mkF m 58 #[vI (3 : Int32)] [(.int ((3 : Int32) <<< ((1 : Int32) &&& 31)))])) (fun τ κ => XS.iconst X0.here hx rfl (hb hby d19_56) (XS.ishl X0.here hx rfl (hb hby d19_57) rfl κ)) ?_
  rw [show ((3 : Int32) <<< ((1 : Int32) &&& 31)) = (6 : Int32) from by decide]
  exact Gl.ret (v := some (.int (6 : Int32))) X0 Bd.notSynchronized (fun h => by rw [Bd.returns] at h; cases h) e0 (fun fs hr => retI X0 hx Bd.returns (hb hby d19_58) hr) (by decide) (by decide) ⟨rfl, N0, rfl⟩
theorem ef_rm18_3 (m : MethodId)  : entryFrame m #[(.int (3 : Int32))] 1 = mkF m 0 #[vI (3 : Int32)] [] := by first | (simp [entryFrame, mkF, argsToLocals, Value.category]; done) | rfl
def Q_rm18_3 (Z : State)   (h0 : Heap) (n0 : Nat) (v : Option Value) (h : Heap) (L : List Loc) : Prop := ∃ b kk, v = some (.ref b) ∧ Fr n0 L ∧ Keep h0 h [] ∧ h0.size ≤ b ∧ Arv Z h b kk .byte (6 : Int32) [(.int (0 : Int32)), (.int (0 : Int32)), (.int (0 : Int32)), (.int (0 : Int32)), (.int (0 : Int32)), (.int (0 : Int32))] (.int (0 : Int32))
set_option maxRecDepth 65536 in
set_option maxHeartbeats 40000000 in
theorem rm18_3 (l : Launch) (Z : State) (a0 : Array Value) (hw : ∀ d ∈ tables_1, d.before a0 Z = true) (ws : List Jvm.Cond)   (h0 : Heap) (n0 : Nat) (Z0 : n0 ≤ h0.size)  :
    MetFree l (⟨"java/lang/StringUTF16", "newBytesFor", "(I)[B"⟩ : MethodName) (head1 (Jvm.Cond.code (⟨"java/lang/StringUTF16", "newBytesFor", "(I)[B"⟩ : MethodName) jdk_52_method_2_code 1 (some (.array .byte)) :: ws) ({ frames := 1, cells := 1, slots := 6, locals := 12 } : Room)) (fun aα Uα => aα = #[(.int (3 : Int32))] ∧ Z.Warmed39 Uα.vm ∧ Uα.heap = h0) (fun _ _ _ _ _ => True) (fun _ Uα oα Uβ => ∃ vα Lα, oα = .returned vα ∧ Q_rm18_3 Z   h0 n0 vα Uβ.heap Lα ∧ FrameEnd Uα oα Uβ Lα ({ frames := 1, cells := 1, slots := 6, locals := 12 } : Room).cells ({ frames := 1, cells := 1, slots := 6, locals := 12 } : Room).slots) := by
  refine MetFree.of_bodySF (plainFor_of_name pn_java_lang_StringUTF16) hisR ?_
  intro p e s m args below meth c s₁ Bd hml0 hP hKα
  obtain ⟨rfl, hZ, hh⟩ := hP
  have hx := Bd.exec
  have hby := Bd.bytes
  have hml : c.maxLocals = 1 := hml0
  have hown : s.vm.findClass "java/lang/StringUTF16" = some m.cls := findClass_of_methodNamed Bd.named
  have hnm := (name_of_methodNamed Bd.named Bd.method).1
  have X0 : Stand p l e ({ frames := 1, cells := 1, slots := 6, locals := 12 } : Room) s m #[(.int (3 : Int32))] below meth c s₁ [] 0 0 := Stand.of_body Bd
  have e0 : s₁.heap = h0 := by rw [← hh, Bd.state]; rfl
  have N0 := Fr.nil n0
  suffices k0 : Gl p e below s (Q_rm18_3 Z   h0 n0) ({ frames := 1, cells := 1, slots := 6, locals := 12 } : Room).cells ({ frames := 1, cells := 1, slots := 6, locals := 12 } : Room).slots s₁ (mkF m 0 #[vI (3 : Int32)] []) from Gl.st (fun τ κ => castTop (ef_rm18_3 m ) κ) k0
  refine Gl.st (g' := (mkF m 1 #[vI (3 : Int32)] [(.int (3 : Int32))])) (fun τ κ => XS.iloadN X0.here hx rfl (hb hby d18_0) rfl κ) ?_
  obtain ⟨rv545, _, ⟨T545, L545, k545, n545⟩, -, X545, ⟨Lc545, hQ545, l545, y545, z545⟩, st545⟩ := Jvm.LawKit.callS X0 hx (y := (⟨"java/lang/StringUTF16", "newBytesLength", "(I)I"⟩ : MethodName)) hown (mvT hZ (w84_ hw)) (mvT hZ (w85_ hw)) (mvT hZ (w45_ hw)) (mvT hZ (w86_ hw)) (by decide) (backOf (W := 0) (rm19_3 l Z a0 hw []  h0 n0 Z0 ) hZ (w86_ hw) (w45_ hw) (by decide) (by decide)) (g := (mkF m 1 #[vI (3 : Int32)] [(.int (3 : Int32))])) rfl (by rw [hml]; rfl) (argsL := [(.int (3 : Int32))]) (rest := []) (lenOf pd_9 rfl) rfl (by show 2 * 0 + _ ≤ _; exact Nat.le_of_eq rfl) (hb hby d18_1) (fun _ _ => ⟨rfl, e0, (by decide : 0 + 0 ≤ _), (by decide : 0 + 0 ≤ _)⟩)
  dsimp only [Pt.U, Pt.locs, Pt.cells, Pt.slots] at X545 l545 y545 z545 st545 hQ545
  subst l545 y545 z545
  obtain ⟨hq545, N545q, e545⟩ := hQ545
  have hq545 : rv545 = some (.int (6 : Int32)) := hq545
  subst hq545
  have N545 := Fr.app N0 N545q
  refine Gl.st (g' := (mkF m 4 #[vI (3 : Int32)] [(.int (6 : Int32))])) (fun τ κ => st545 _ κ) ?_
  obtain ⟨T546, h546, k546, X546, e546, E546, A546, st546⟩ := newP X545 hx hZ (hw _ (List.mem_of_getElem? (i := 21) rfl)) e545 (g := (mkF m 4 #[vI (3 : Int32)] [(.int (6 : Int32))])) rfl (hb hby d18_4) rfl (by decide) (cap := 6) (by decide) (by decide) (by decide) (by decide)
  obtain ⟨b546, g546⟩ : ∃ z, z = h0.size := ⟨_, rfl⟩
  rw [← g546] at A546 st546
  have g_b546 : n0 ≤ b546 := Nat.le_trans Z0 (Nat.le_of_eq g546.symm)
  have sz_b546 : h0.size ≤ b546 := Nat.le_trans (Keep.refl h0 []).1 (Nat.le_of_eq g546.symm)
  have Z546 : n0 ≤ h546.size := Nat.le_trans Z0 E546.1
  have K546 : Keep h0 h546 [] := (Keep.refl h0 []).ext E546
  have V_b546 : Arv Z h546 b546 k546 .byte (6 : Int32) [(.int (0 : Int32)), (.int (0 : Int32)), (.int (0 : Int32)), (.int (0 : Int32)), (.int (0 : Int32)), (.int (0 : Int32))] (.int (0 : Int32)) := (Arv.new A546 (by decide)).pad (pad_rep [] (.int (0 : Int32)) 6)
  refine Gl.st (g' := (mkF m 6 #[vI (3 : Int32)] [(.ref b546)])) (fun τ κ => st546 _ κ) ?_
  exact Gl.ret (v := some (.ref b546)) X546 Bd.notSynchronized (fun h => by rw [Bd.returns] at h; cases h) e546 (fun fs hr => retAA X546 hx Bd.returns (hb hby d18_6) hr) (by decide) (by decide) ⟨b546, k546, rfl, N545, K546, sz_b546, V_b546⟩
theorem ef_rm17_3 (m : MethodId) (ca : Addr) : entryFrame m #[(.ref ca), (.int (0 : Int32)), (.int (3 : Int32))] 5 = mkF m 0 #[vR ca, vI (0 : Int32), vI (3 : Int32), .unset, .unset] [] := by first | (simp [entryFrame, mkF, argsToLocals, Value.category]; done) | rfl
def Q_rm17_3 (Z : State) (ca : Addr) (kc : ClassId) (c0 c1 c2 : Int32) (h0 : Heap) (n0 : Nat) (v : Option Value) (h : Heap) (L : List Loc) : Prop := ∃ b kk, v = some (.ref b) ∧ Fr n0 L ∧ Keep h0 h [] ∧ h0.size ≤ b ∧ Arv Z h b kk .byte (6 : Int32) [(.int (own_hi c0)), (.int (own_lo c0)), (.int (own_hi c1)), (.int (own_lo c1)), (.int (own_hi c2)), (.int (own_lo c2))] (.int (0 : Int32))
set_option maxRecDepth 65536 in
set_option maxHeartbeats 40000000 in
theorem rm17_3 (l : Launch) (Z : State) (a0 : Array Value) (hw : ∀ d ∈ tables_1, d.before a0 Z = true) (ws : List Jvm.Cond) (ca : Addr) (kc : ClassId) (c0 c1 c2 : Int32) (h0 : Heap) (n0 : Nat) (Z0 : n0 ≤ h0.size) (SA : Sta Z h0 "java/lang/StringUTF16" "$assertionsDisabled" "Z" (.int (1 : Int32))) (SH : Sta Z h0 "java/lang/StringUTF16" "HI_BYTE_SHIFT" "I" (.int (0 : Int32))) (SL : Sta Z h0 "java/lang/StringUTF16" "LO_BYTE_SHIFT" "I" (.int (8 : Int32))) (V0 : Arv Z h0 ca kc .char (3 : Int32) [(.int c0), (.int c1), (.int c2)] (.int (0 : Int32))) :
    MetFree l (⟨"java/lang/StringUTF16", "toBytes", "([CII)[B"⟩ : MethodName) (head1 (Jvm.Cond.code (⟨"java/lang/StringUTF16", "toBytes", "([CII)[B"⟩ : MethodName) jdk_52_method_14_code 5 (some (.array .byte)) :: ws) ({ frames := 2, cells := 1, slots := 6, locals := 24 } : Room)) (fun aα Uα => aα = #[(.ref ca), (.int (0 : Int32)), (.int (3 : Int32))] ∧ Z.Warmed39 Uα.vm ∧ Uα.heap = h0) (fun _ _ _ _ _ => True) (fun _ Uα oα Uβ => ∃ vα Lα, oα = .returned vα ∧ Q_rm17_3 Z ca kc c0 c1 c2 h0 n0 vα Uβ.heap Lα ∧ FrameEnd Uα oα Uβ Lα ({ frames := 2, cells := 1, slots := 6, locals := 24 } : Room).cells ({ frames := 2, cells := 1, slots := 6, locals := 24 } : Room).slots) := by
  refine MetFree.of_bodySF (plainFor_of_name pn_java_lang_StringUTF16) hisR ?_
  intro p e s m args below meth c s₁ Bd hml0 hP hKα
  obtain ⟨rfl, hZ, hh⟩ := hP
  have hx := Bd.exec
  have hby := Bd.bytes
  have hml : c.maxLocals = 5 := hml0
  have hown : s.vm.findClass "java/lang/StringUTF16" = some m.cls := findClass_of_methodNamed Bd.named
  have hnm := (name_of_methodNamed Bd.named Bd.method).1
  have X0 : Stand p l e ({ frames := 2, cells := 1, slots := 6, locals := 24 } : Room) s m #[(.ref ca), (.int (0 : Int32)), (.int (3 : Int32))] below meth c s₁ [] 0 0 := Stand.of_body Bd
  have e0 : s₁.heap = h0 := by rw [← hh, Bd.state]; rfl
  have N0 := Fr.nil n0
  suffices k0 : Gl p e below s (Q_rm17_3 Z ca kc c0 c1 c2 h0 n0) ({ frames := 2, cells := 1, slots := 6, locals := 24 } : Room).cells ({ frames := 2, cells := 1, slots := 6, locals := 24 } : Room).slots s₁ (mkF m 0 #[vR ca, vI (0 : Int32), vI (3 : Int32), .unset, .unset] []) from Gl.st (fun τ κ => castTop (ef_rm17_3 m ca) κ) k0
  refine Gl.st (g' := (mkF m 1 #[vR ca, vI (0 : Int32), vI (3 : Int32), .unset, .unset] [(.int (3 : Int32))])) (fun τ κ => XS.iloadN X0.here hx rfl (hb hby d17_0) rfl κ) ?_
  obtain ⟨rv547, _, ⟨T547, L547, k547, n547⟩, -, X547, ⟨Lc547, hQ547, l547, y547, z547⟩, st547⟩ := Jvm.LawKit.callS X0 hx (y := (⟨"java/lang/StringUTF16", "newBytesFor", "(I)[B"⟩ : MethodName)) hown (mvT hZ (w81_ hw)) (mvT hZ (w82_ hw)) (mvT hZ (w45_ hw)) (mvT hZ (w83_ hw)) (by decide) (backOf (W := 0) (rm18_3 l Z a0 hw []  h0 n0 Z0 ) hZ (w83_ hw) (w45_ hw) (by decide) (by decide)) (g := (mkF m 1 #[vR ca, vI (0 : Int32), vI (3 : Int32), .unset, .unset] [(.int (3 : Int32))])) rfl (by rw [hml]; rfl) (argsL := [(.int (3 : Int32))]) (rest := []) (lenOf pd_10 rfl) rfl (by show 2 * 0 + _ ≤ _; exact Nat.le_of_eq rfl) (hb hby d17_1) (fun _ _ => ⟨rfl, e0, (by decide : 0 + 1 ≤ _), (by decide : 0 + 6 ≤ _)⟩)
  dsimp only [Pt.U, Pt.locs, Pt.cells, Pt.slots] at X547 l547 y547 z547 st547 hQ547
  subst l547 y547 z547
  obtain ⟨b547, kk547, rfl, N547q, Kc547, s547, V547⟩ := hQ547
  have ne_ca_b547 : ca ≠ b547 := Nat.ne_of_lt (Nat.lt_of_lt_of_le V0.lt s547)
  have g_b547 : n0 ≤ b547 := Nat.le_trans Z0 s547
  have sz_b547 : h0.size ≤ b547 := Nat.le_trans (Keep.refl h0 []).1 s547
  have S_548 := Sta.keepX SA Kc547 all0
  have S_549 := Sta.keepX SH Kc547 all0
  have S_550 := Sta.keepX SL Kc547 all0
  have V_551 := V0.keep Kc547 nin0
  have N547 := Fr.app N0 N547q
  have Z547 : n0 ≤ T547.heap.size := Nat.le_trans Z0 Kc547.1
  have K547 : Keep h0 T547.heap [] := (Keep.refl h0 []).trans Kc547 all0
  refine Gl.st (g' := (mkF m 4 #[vR ca, vI (0 : Int32), vI (3 : Int32), .unset, .unset] [(.ref b547)])) (fun τ κ => st547 _ κ) ?_
  refine Gl.st (g' := (mkF m 6 #[vR ca, vI (0 : Int32), vI (3 : Int32), vR b547, .unset] [(.int (0 : Int32))])) (fun τ κ => XS.astoreN X547.here hx rfl (hb hby d17_4) rfl rfl (l' := #[vR ca, vI (0 : Int32), vI (3 : Int32), vR b547, .unset]) rfl (XS.iconst X547.here hx rfl (hb hby d17_5) κ)) ?_
  refine Gl.st (g' := (mkF m 10 #[vR ca, vI (0 : Int32), vI (3 : Int32), vR b547, vI (0 : Int32)] [(.int (0 : Int32))])) (fun τ κ => XS.istore X547.here hx rfl (hb hby d17_6) rfl (l' := #[vR ca, vI (0 : Int32), vI (3 : Int32), vR b547, vI (0 : Int32)]) rfl (XS.iload X547.here hx rfl (hb hby d17_8) rfl κ)) ?_
  refine Gl.st (g' := (mkF m 11 #[vR ca, vI (0 : Int32), vI (3 : Int32), vR b547, vI (0 : Int32)] [(.int (3 : Int32)), (.int (0 : Int32))])) (fun τ κ => XS.iloadN X547.here hx rfl (hb hby d17_10) rfl κ) ?_
  have hc552 : (0 : Int32) < (3 : Int32) := by decide
  refine Gl.st (g' := (mkF m 15 #[vR ca, vI (0 : Int32), vI (3 : Int32), vR b547, vI (0 : Int32)] [(.ref b547)])) (fun τ κ => XS.icmpNo X547.here hx rfl (hb hby d17_11) rfl (tlt hc552).2.1 (XS.aloadN X547.here hx rfl (hb hby d17_14) rfl rfl κ)) ?_
  refine Gl.st (g' := (mkF m 18 #[vR ca, vI (0 : Int32), vI (3 : Int32), vR b547, vI (0 : Int32)] [(.ref ca), (.int (0 : Int32)), (.ref b547)])) (fun τ κ => XS.iload X547.here hx rfl (hb hby d17_15) rfl (XS.aloadN X547.here hx rfl (hb hby d17_17) rfl rfl κ)) ?_
  refine Gl.st (g' := (mkF m 19 #[vR ca, vI (0 : Int32), vI (3 : Int32), vR b547, vI (0 : Int32)] [(.int (0 : Int32)), (.ref ca), (.int (0 : Int32)), (.ref b547)])) (fun τ κ => XS.iloadN X547.here hx rfl (hb hby d17_18) rfl κ) ?_
  obtain ⟨cl_o553, Ar_o553, q_o553, S_o553, M_o553, H_o553, G_o553⟩ := id V_551
  have hin_o553 : ¬ ((0 : Int32) < 0 ∨ cl_o553.slots.size ≤ ((0 : Int32)).toNatClampNeg) := inb_of S_o553 ⟨by decide, by decide⟩
  refine Gl.st (g' := (mkF m 20 #[vR ca, vI (0 : Int32), vI (3 : Int32), vR b547, vI (0 : Int32)] [(.int c0), (.int (0 : Int32)), (.ref b547)])) (fun τ κ => X547.caload hx (j := (0 : Int32)) (v := (.int c0)) Ar_o553.1 (State.isArrayOf_alike hZ.alike Ar_o553.2.1) Ar_o553.2.2 hin_o553 (H_o553 0 (by rw [S_o553]; decide)) (g := (mkF m 19 #[vR ca, vI (0 : Int32), vI (3 : Int32), vR b547, vI (0 : Int32)] [(.int (0 : Int32)), (.ref ca), (.int (0 : Int32)), (.ref b547)])) rfl rfl (hb hby d17_19) _ κ) ?_
  obtain ⟨rv554, _, ⟨T554, L554, k554, n554⟩, -, X554, ⟨Lc554, hQ554, l554, y554, z554⟩, st554⟩ := Jvm.LawKit.callS X547 hx (y := (⟨"java/lang/StringUTF16", "putChar", "([BII)V"⟩ : MethodName)) hown (mvT hZ (w88_ hw)) (mvT hZ (w89_ hw)) (mvT hZ (w45_ hw)) (mvT hZ (w90_ hw)) (by decide) (backOf (W := 0) (rm20_3_0 l Z a0 hw [] b547 c0 kk547 (.int (0 : Int32)) (.int (0 : Int32)) (.int (0 : Int32)) (.int (0 : Int32)) (.int (0 : Int32)) (.int (0 : Int32)) T547.heap n0 Z547 S_548 S_549 S_550 V547 g_b547) hZ (w90_ hw) (w45_ hw) (by decide) (by decide)) (g := (mkF m 20 #[vR ca, vI (0 : Int32), vI (3 : Int32), vR b547, vI (0 : Int32)] [(.int c0), (.int (0 : Int32)), (.ref b547)])) rfl (by rw [hml]; rfl) (argsL := [(.ref b547), (.int (0 : Int32)), (.int c0)]) (rest := []) (lenOf pd_11 rfl) rfl (by show 2 * 0 + _ ≤ _; exact Nat.le_of_eq rfl) (hb hby d17_20) (fun _ _ => ⟨rfl, rfl, (by decide : 1 + 0 ≤ _), (by decide : 6 + 0 ≤ _)⟩)
  dsimp only [Pt.U, Pt.locs, Pt.cells, Pt.slots] at X554 l554 y554 z554 st554 hQ554
  subst l554 y554 z554
  obtain ⟨rfl, N554q, Kc554, V554⟩ := hQ554
  have S_555 := Sta.keepX S_548 Kc554 (allS (P := fun x => ∃ c : Cell, T547.heap[x]? = some c ∧ ∀ q, c.vm ≠ .statics q) (Arv.cellX V547) all0)
  have S_556 := Sta.keepX S_549 Kc554 (allS (P := fun x => ∃ c : Cell, T547.heap[x]? = some c ∧ ∀ q, c.vm ≠ .statics q) (Arv.cellX V547) all0)
  have S_557 := Sta.keepX S_550 Kc554 (allS (P := fun x => ∃ c : Cell, T547.heap[x]? = some c ∧ ∀ q, c.vm ≠ .statics q) (Arv.cellX V547) all0)
  have V_558 := V_551.keep Kc554 (ninS ne_ca_b547 nin0)
  have N554 := Fr.app N547 N554q
  have Z554 : n0 ≤ T554.heap.size := Nat.le_trans Z547 Kc554.1
  have K554 : Keep h0 T554.heap [] := K547.trans Kc554 (allS (Or.inr sz_b547) all0)
  refine Gl.st (g' := (mkF m 23 #[vR ca, vI (0 : Int32), vI (3 : Int32), vR b547, vI (0 : Int32)] [])) (fun τ κ => st554 _ κ) ?_
  refine Gl.st (g' := (mkF m 29 #[vR ca, vI (1 : Int32), vI (3 : Int32), vR b547, vI (1 : Int32)] [])) (fun τ κ => XS.iinc X554.here hx rfl (hb hby d17_23) rfl (l' := #[vR ca, vI (1 : Int32), vI (3 : Int32), vR b547, vI (0 : Int32)]) rfl (XS.iinc X554.here hx rfl (hb hby d17_26) rfl (l' := #[vR ca, vI (1 : Int32), vI (3 : Int32), vR b547, vI (1 : Int32)]) rfl κ)) ?_
  refine Gl.st (g' := (mkF m 10 #[vR ca, vI (1 : Int32), vI (3 : Int32), vR b547, vI (1 : Int32)] [(.int (1 : Int32))])) (fun τ κ => XS.goto X554.here hx rfl (pc0 := 29) (pc' := 8) rfl (hb hby d17_29) (by decide) (by decide) (XS.iload X554.here hx rfl (hb hby d17_8) rfl κ)) ?_
  refine Gl.st (g' := (mkF m 11 #[vR ca, vI (1 : Int32), vI (3 : Int32), vR b547, vI (1 : Int32)] [(.int (3 : Int32)), (.int (1 : Int32))])) (fun τ κ => XS.iloadN X554.here hx rfl (hb hby d17_10) rfl κ) ?_
  have hc560 : (1 : Int32) < (3 : Int32) := by decide
  refine Gl.st (g' := (mkF m 15 #[vR ca, vI (1 : Int32), vI (3 : Int32), vR b547, vI (1 : Int32)] [(.ref b547)])) (fun τ κ => XS.icmpNo X554.here hx rfl (hb hby d17_11) rfl (tlt hc560).2.1 (XS.aloadN X554.here hx rfl (hb hby d17_14) rfl rfl κ)) ?_
  refine Gl.st (g' := (mkF m 18 #[vR ca, vI (1 : Int32), vI (3 : Int32), vR b547, vI (1 : Int32)] [(.ref ca), (.int (1 : Int32)), (.ref b547)])) (fun τ κ => XS.iload X554.here hx rfl (hb hby d17_15) rfl (XS.aloadN X554.here hx rfl (hb hby d17_17) rfl rfl κ)) ?_
  refine Gl.st (g' := (mkF m 19 #[vR ca, vI (1 : Int32), vI (3 : Int32), vR b547, vI (1 : Int32)] [(.int (1 : Int32)), (.ref ca), (.int (1 : Int32)), (.ref b547)])) (fun τ κ => XS.iloadN X554.here hx rfl (hb hby d17_18) rfl κ) ?_
  obtain ⟨cl_o561, Ar_o561, q_o561, S_o561, M_o561, H_o561, G_o561⟩ := id V_558
  have hin_o561 : ¬ ((1 : Int32) < 0 ∨ cl_o561.slots.size ≤ ((1 : Int32)).toNatClampNeg) := inb_of S_o561 ⟨by decide, by decide⟩
  refine Gl.st (g' := (mkF m 20 #[vR ca, vI (1 : Int32), vI (3 : Int32), vR b547, vI (1 : Int32)] [(.int c1), (.int (1 : Int32)), (.ref b547)])) (fun τ κ => X554.caload hx (j := (1 : Int32)) (v := (.int c1)) Ar_o561.1 (State.isArrayOf_alike hZ.alike Ar_o561.2.1) Ar_o561.2.2 hin_o561 (H_o561 1 (by rw [S_o561]; decide)) (g := (mkF m 19 #[vR ca, vI (1 : Int32), vI (3 : Int32), vR b547, vI (1 : Int32)] [(.int (1 : Int32)), (.ref ca), (.int (1 : Int32)), (.ref b547)])) rfl rfl (hb hby d17_19) _ κ) ?_
  obtain ⟨rv562, _, ⟨T562, L562, k562, n562⟩, -, X562, ⟨Lc562, hQ562, l562, y562, z562⟩, st562⟩ := Jvm.LawKit.callS X554 hx (y := (⟨"java/lang/StringUTF16", "putChar", "([BII)V"⟩ : MethodName)) hown (mvT hZ (w88_ hw)) (mvT hZ (w89_ hw)) (mvT hZ (w45_ hw)) (mvT hZ (w90_ hw)) (by decide) (backOf (W := 0) (rm20_3_1 l Z a0 hw [] b547 c1 kk547 (.int (own_hi c0)) (.int (own_lo c0)) (.int (0 : Int32)) (.int (0 : Int32)) (.int (0 : Int32)) (.int (0 : Int32)) T554.heap n0 Z554 S_555 S_556 S_557 V554 g_b547) hZ (w90_ hw) (w45_ hw) (by decide) (by decide)) (g := (mkF m 20 #[vR ca, vI (1 : Int32), vI (3 : Int32), vR b547, vI (1 : Int32)] [(.int c1), (.int (1 : Int32)), (.ref b547)])) rfl (by rw [hml]; rfl) (argsL := [(.ref b547), (.int (1 : Int32)), (.int c1)]) (rest := []) (lenOf pd_11 rfl) rfl (by show 2 * 0 + _ ≤ _; exact Nat.le_of_eq rfl) (hb hby d17_20) (fun _ _ => ⟨rfl, rfl, (by decide : 1 + 0 ≤ _), (by decide : 6 + 0 ≤ _)⟩)
  dsimp only [Pt.U, Pt.locs, Pt.cells, Pt.slots] at X562 l562 y562 z562 st562 hQ562
  subst l562 y562 z562
  obtain ⟨rfl, N562q, Kc562, V562⟩ := hQ562
  have S_563 := Sta.keepX S_555 Kc562 (allS (P := fun x => ∃ c : Cell, T554.heap[x]? = some c ∧ ∀ q, c.vm ≠ .statics q) (Arv.cellX V554) all0)
  have S_564 := Sta.keepX S_556 Kc562 (allS (P := fun x => ∃ c : Cell, T554.heap[x]? = some c ∧ ∀ q, c.vm ≠ .statics q) (Arv.cellX V554) all0)
  have S_565 := Sta.keepX S_557 Kc562 (allS (P := fun x => ∃ c : Cell, T554.heap[x]? = some c ∧ ∀ q, c.vm ≠ .statics q) (Arv.cellX V554) all0)
  have V_566 := V_558.keep Kc562 (ninS ne_ca_b547 nin0)
  have N562 := Fr.app N554 N562q
  have Z562 : n0 ≤ T562.heap.size := Nat.le_trans Z554 Kc562.1
  have K562 : Keep h0 T562.heap [] := K554.trans Kc562 (allS (Or.inr sz_b547) all0)
  refine Gl.st (g' := (mkF m 23 #[vR ca, vI (1 : Int32), vI (3 : Int32), vR b547, vI (1 : Int32)] [])) (fun τ κ => st562 _ κ) ?_
  refine Gl.st (g' := (mkF m 29 #[vR ca, vI (2 : Int32), vI (3 : Int32), vR b547, vI (2 : Int32)] [])) (fun τ κ => XS.iinc X562.here hx rfl (hb hby d17_23) rfl (l' := #[vR ca, vI (2 : Int32), vI (3 : Int32), vR b547, vI (1 : Int32)]) rfl (XS.iinc X562.here hx rfl (hb hby d17_26) rfl (l' := #[vR ca, vI (2 : Int32), vI (3 : Int32), vR b547, vI (2 : Int32)]) rfl κ)) ?_
  refine Gl.st (g' := (mkF m 10 #[vR ca, vI (2 : Int32), vI (3 : Int32), vR b547, vI (2 : Int32)] [(.int (2 : Int32))])) (fun τ κ => XS.goto X562.here hx rfl (pc0 := 29) (pc' := 8) rfl (hb hby d17_29) (by decide) (by decide) (XS.iload X562.here hx rfl (hb hby d17_8) rfl κ)) ?_
  refine Gl.st (g' := (mkF m 11 #[vR ca, vI (2 : Int32), vI (3 : Int32), vR b547, vI (2 : Int32)] [(.int (3 : Int32)), (.int (2 : Int32))])) (fun τ κ => XS.iloadN X562.here hx rfl (hb hby d17_10) rfl κ) ?_
  have hc568 : (2 : Int32) < (3 : Int32) := by decide
  refine Gl.st (g' := (mkF m 15 #[vR ca, vI (2 : Int32), vI (3 : Int32), vR b547, vI (2 : Int32)] [(.ref b547)])) (fun τ κ => XS.icmpNo X562.here hx rfl (hb hby d17_11) rfl (tlt hc568).2.1 (XS.aloadN X562.here hx rfl (hb hby d17_14) rfl rfl κ)) ?_
  refine Gl.st (g' := (mkF m 18 #[vR ca, vI (2 : Int32), vI (3 : Int32), vR b547, vI (2 : Int32)] [(.ref ca), (.int (2 : Int32)), (.ref b547)])) (fun τ κ => XS.iload X562.here hx rfl (hb hby d17_15) rfl (XS.aloadN X562.here hx rfl (hb hby d17_17) rfl rfl κ)) ?_
  refine Gl.st (g' := (mkF m 19 #[vR ca, vI (2 : Int32), vI (3 : Int32), vR b547, vI (2 : Int32)] [(.int (2 : Int32)), (.ref ca), (.int (2 : Int32)), (.ref b547)])) (fun τ κ => XS.iloadN X562.here hx rfl (hb hby d17_18) rfl κ) ?_
  obtain ⟨cl_o569, Ar_o569, q_o569, S_o569, M_o569, H_o569, G_o569⟩ := id V_566
  have hin_o569 : ¬ ((2 : Int32) < 0 ∨ cl_o569.slots.size ≤ ((2 : Int32)).toNatClampNeg) := inb_of S_o569 ⟨by decide, by decide⟩
  refine Gl.st (g' := (mkF m 20 #[vR ca, vI (2 : Int32), vI (3 : Int32), vR b547, vI (2 : Int32)] [(.int c2), (.int (2 : Int32)), (.ref b547)])) (fun τ κ => X562.caload hx (j := (2 : Int32)) (v := (.int c2)) Ar_o569.1 (State.isArrayOf_alike hZ.alike Ar_o569.2.1) Ar_o569.2.2 hin_o569 (H_o569 2 (by rw [S_o569]; decide)) (g := (mkF m 19 #[vR ca, vI (2 : Int32), vI (3 : Int32), vR b547, vI (2 : Int32)] [(.int (2 : Int32)), (.ref ca), (.int (2 : Int32)), (.ref b547)])) rfl rfl (hb hby d17_19) _ κ) ?_
  obtain ⟨rv570, _, ⟨T570, L570, k570, n570⟩, -, X570, ⟨Lc570, hQ570, l570, y570, z570⟩, st570⟩ := Jvm.LawKit.callS X562 hx (y := (⟨"java/lang/StringUTF16", "putChar", "([BII)V"⟩ : MethodName)) hown (mvT hZ (w88_ hw)) (mvT hZ (w89_ hw)) (mvT hZ (w45_ hw)) (mvT hZ (w90_ hw)) (by decide) (backOf (W := 0) (rm20_3_2 l Z a0 hw [] b547 c2 kk547 (.int (own_hi c0)) (.int (own_lo c0)) (.int (own_hi c1)) (.int (own_lo c1)) (.int (0 : Int32)) (.int (0 : Int32)) T562.heap n0 Z562 S_563 S_564 S_565 V562 g_b547) hZ (w90_ hw) (w45_ hw) (by decide) (by decide)) (g := (mkF m 20 #[vR ca, vI (2 : Int32), vI (3 : Int32), vR b547, vI (2 : Int32)] [(.int c2), (.int (2 : Int32)), (.ref b547)])) rfl (by rw [hml]; rfl) (argsL := [(.ref b547), (.int (2 : Int32)), (.int c2)]) (rest := []) (lenOf pd_11 rfl) rfl (by show 2 * 0 + _ ≤ _; exact Nat.le_of_eq rfl) (hb hby d17_20) (fun _ _ => ⟨rfl, rfl, (by decide : 1 + 0 ≤ _), (by decide : 6 + 0 ≤ _)⟩)
  dsimp only [Pt.U, Pt.locs, Pt.cells, Pt.slots] at X570 l570 y570 z570 st570 hQ570
  subst l570 y570 z570
  obtain ⟨rfl, N570q, Kc570, V570⟩ := hQ570
  have S_571 := Sta.keepX S_563 Kc570 (allS (P := fun x => ∃ c : Cell, T562.heap[x]? = some c ∧ ∀ q, c.vm ≠ .statics q) (Arv.cellX V562) all0)
  have S_572 := Sta.keepX S_564 Kc570 (allS (P := fun x => ∃ c : Cell, T562.heap[x]? = some c ∧ ∀ q, c.vm ≠ .statics q) (Arv.cellX V562) all0)
  have S_573 := Sta.keepX S_565 Kc570 (allS (P := fun x => ∃ c : Cell, T562.heap[x]? = some c ∧ ∀ q, c.vm ≠ .statics q) (Arv.cellX V562) all0)
  have V_574 := V_566.keep Kc570 (ninS ne_ca_b547 nin0)
  have N570 := Fr.app N562 N570q
  have Z570 : n0 ≤ T570.heap.size := Nat.le_trans Z562 Kc570.1
  have K570 : Keep h0 T570.heap [] := K562.trans Kc570 (allS (Or.inr sz_b547) all0)
  refine Gl.st (g' := (mkF m 23 #[vR ca, vI (2 : Int32), vI (3 : Int32), vR b547, vI (2 : Int32)] [])) (fun τ κ => st570 _ κ) ?_
  refine Gl.st (g' := (mkF m 29 #[vR ca, vI (3 : Int32), vI (3 : Int32), vR b547, vI (3 : Int32)] [])) (fun τ κ => XS.iinc X570.here hx rfl (hb hby d17_23) rfl (l' := #[vR ca, vI (3 : Int32), vI (3 : Int32), vR b547, vI (2 : Int32)]) rfl (XS.iinc X570.here hx rfl (hb hby d17_26) rfl (l' := #[vR ca, vI (3 : Int32), vI (3 : Int32), vR b547, vI (3 : Int32)]) rfl κ)) ?_
  refine Gl.st (g' := (mkF m 10 #[vR ca, vI (3 : Int32), vI (3 : Int32), vR b547, vI (3 : Int32)] [(.int (3 : Int32))])) (fun τ κ => XS.goto X570.here hx rfl (pc0 := 29) (pc' := 8) rfl (hb hby d17_29) (by decide) (by decide) (XS.iload X570.here hx rfl (hb hby d17_8) rfl κ)) ?_
  refine Gl.st (g' := (mkF m 11 #[vR ca, vI (3 : Int32), vI (3 : Int32), vR b547, vI (3 : Int32)] [(.int (3 : Int32)), (.int (3 : Int32))])) (fun τ κ => XS.iloadN X570.here hx rfl (hb hby d17_10) rfl κ) ?_
  have hc576 : ¬ ((3 : Int32) < (3 : Int32)) := by decide
  refine Gl.st (g' := (mkF m 33 #[vR ca, vI (3 : Int32), vI (3 : Int32), vR b547, vI (3 : Int32)] [(.ref b547)])) (fun τ κ => XS.icmpYes X570.here hx rfl (pc0 := 11) (pc' := 32) rfl (hb hby d17_11) rfl (flt hc576).2.1 (by decide) (by decide) (XS.aloadN X570.here hx rfl (hb hby d17_32) rfl rfl κ)) ?_
  exact Gl.ret (v := some (.ref b547)) X570 Bd.notSynchronized (fun h => by rw [Bd.returns] at h; cases h) rfl (fun fs hr => retAA X570 hx Bd.returns (hb hby d17_33) hr) (by decide) (by decide) ⟨b547, kk547, rfl, N570, K570, sz_b547, V570⟩
theorem ef_rm9_3 (m : MethodId) (ca : Addr) (u : Addr) : entryFrame m #[(.ref ca), (.int (0 : Int32)), (.ref u), (.int (0 : Int32)), (.int (3 : Int32))] 7 = mkF m 0 #[vR ca, vI (0 : Int32), vR u, vI (0 : Int32), vI (3 : Int32), .unset, .unset] [] := by first | (simp [entryFrame, mkF, argsToLocals, Value.category]; done) | rfl
def Q_rm9_3 (Z : State) (ca : Addr) (u : Addr) (kc ku : ClassId) (c0 c1 c2 : Int32) (h0 : Heap) (n0 : Nat) (v : Option Value) (h : Heap) (L : List Loc) : Prop := ∃ j, v = some (.int j) ∧ Fr n0 L ∧ Keep h0 h [u] ∧ ((j = (3 : Int32) ∧ ¬ (255 : Int32) < c0 ∧ ¬ (255 : Int32) < c1 ∧ ¬ (255 : Int32) < c2 ∧ Arv Z h u ku .byte (3 : Int32) [(.int (own_lb c0)), (.int (own_lb c1)), (.int (own_lb c2))] (.int (0 : Int32))) ∨ (j = (0 : Int32) ∧ (255 : Int32) < c0) ∨ (j = (1 : Int32) ∧ (255 : Int32) < c1) ∨ (j = (2 : Int32) ∧ (255 : Int32) < c2))
set_option maxRecDepth 65536 in
set_option maxHeartbeats 40000000 in
theorem rm9_3 (l : Launch) (Z : State) (a0 : Array Value) (hw : ∀ d ∈ tables_1, d.before a0 Z = true) (ws : List Jvm.Cond) (ca : Addr) (u : Addr) (kc ku : ClassId) (c0 c1 c2 : Int32) (h0 : Heap) (n0 : Nat) (Z0 : n0 ≤ h0.size) (V0 : Arv Z h0 ca kc .char (3 : Int32) [(.int c0), (.int c1), (.int c2)] (.int (0 : Int32))) (V1 : Arv Z h0 u ku .byte (3 : Int32) [(.int (0 : Int32)), (.int (0 : Int32)), (.int (0 : Int32))] (.int (0 : Int32))) (gu : n0 ≤ u) (hne : ca ≠ u) :
    MetFree l (⟨"java/lang/StringUTF16", "compress", "([CI[BII)I"⟩ : MethodName) (head1 (Jvm.Cond.code (⟨"java/lang/StringUTF16", "compress", "([CI[BII)I"⟩ : MethodName) jdk_52_method_21_code 7 (some .int) :: ws) ({ frames := 0, cells := 0, slots := 0, locals := 0 } : Room)) (fun aα Uα => aα = #[(.ref ca), (.int (0 : Int32)), (.ref u), (.int (0 : Int32)), (.int (3 : Int32))] ∧ Z.Warmed39 Uα.vm ∧ Uα.heap = h0) (fun _ _ _ _ _ => True) (fun _ Uα oα Uβ => ∃ vα Lα, oα = .returned vα ∧ Q_rm9_3 Z ca u kc ku c0 c1 c2 h0 n0 vα Uβ.heap Lα ∧ FrameEnd Uα oα Uβ Lα ({ frames := 0, cells := 0, slots := 0, locals := 0 } : Room).cells ({ frames := 0, cells := 0, slots := 0, locals := 0 } : Room).slots) := by
  refine MetFree.of_bodySF (plainFor_of_name pn_java_lang_StringUTF16) hisR ?_
  intro p e s m args below meth c s₁ Bd hml0 hP hKα
  obtain ⟨rfl, hZ, hh⟩ := hP
  have hx := Bd.exec
  have hby := Bd.bytes
  have hml : c.maxLocals = 7 := hml0
  have hown : s.vm.findClass "java/lang/StringUTF16" = some m.cls := findClass_of_methodNamed Bd.named
  have hnm := (name_of_methodNamed Bd.named Bd.method).1
  have X0 : Stand p l e ({ frames := 0, cells := 0, slots := 0, locals := 0 } : Room) s m #[(.ref ca), (.int (0 : Int32)), (.ref u), (.int (0 : Int32)), (.int (3 : Int32))] below meth c s₁ [] 0 0 := Stand.of_body Bd
  have e0 : s₁.heap = h0 := by rw [← hh, Bd.state]; rfl
  have N0 := Fr.nil n0
  suffices k0 : Gl p e below s (Q_rm9_3 Z ca u kc ku c0 c1 c2 h0 n0) ({ frames := 0, cells := 0, slots := 0, locals := 0 } : Room).cells ({ frames := 0, cells := 0, slots := 0, locals := 0 } : Room).slots s₁ (mkF m 0 #[vR ca, vI (0 : Int32), vR u, vI (0 : Int32), vI (3 : Int32), .unset, .unset] []) from Gl.st (fun τ κ => castTop (ef_rm9_3 m ca u) κ) k0
  refine Gl.st (g' := (mkF m 3 #[vR ca, vI (0 : Int32), vR u, vI (0 : Int32), vI (3 : Int32), vI (0 : Int32), .unset] [])) (fun τ κ => XS.iconst X0.here hx rfl (hb hby d9_0) (XS.istore X0.here hx rfl (hb hby d9_1) rfl (l' := #[vR ca, vI (0 : Int32), vR u, vI (0 : Int32), vI (3 : Int32), vI (0 : Int32), .unset]) rfl κ)) ?_
  refine Gl.st (g' := (mkF m 7 #[vR ca, vI (0 : Int32), vR u, vI (0 : Int32), vI (3 : Int32), vI (0 : Int32), .unset] [(.int (3 : Int32)), (.int (0 : Int32))])) (fun τ κ => XS.iload X0.here hx rfl (hb hby d9_3) rfl (XS.iload X0.here hx rfl (hb hby d9_5) rfl κ)) ?_
  have hc577 : (0 : Int32) < (3 : Int32) := by decide
  refine Gl.st (g' := (mkF m 11 #[vR ca, vI (0 : Int32), vR u, vI (0 : Int32), vI (3 : Int32), vI (0 : Int32), .unset] [(.ref ca)])) (fun τ κ => XS.icmpNo X0.here hx rfl (hb hby d9_7) rfl (tlt hc577).2.1 (XS.aloadN X0.here hx rfl (hb hby d9_10) rfl rfl κ)) ?_
  refine Gl.st (g' := (mkF m 12 #[vR ca, vI (0 : Int32), vR u, vI (0 : Int32), vI (3 : Int32), vI (0 : Int32), .unset] [(.int (0 : Int32)), (.ref ca)])) (fun τ κ => XS.iloadN X0.here hx rfl (hb hby d9_11) rfl κ) ?_
  obtain ⟨cl_o578, Ar_o578, q_o578, S_o578, M_o578, H_o578, G_o578⟩ := id V0
  have hin_o578 : ¬ ((0 : Int32) < 0 ∨ cl_o578.slots.size ≤ ((0 : Int32)).toNatClampNeg) := inb_of S_o578 ⟨by decide, by decide⟩
  refine Gl.st (g' := (mkF m 13 #[vR ca, vI (0 : Int32), vR u, vI (0 : Int32), vI (3 : Int32), vI (0 : Int32), .unset] [(.int c0)])) (fun τ κ => X0.caload hx (j := (0 : Int32)) (v := (.int c0)) (by rw [e0]; exact Ar_o578.1) (State.isArrayOf_alike hZ.alike Ar_o578.2.1) Ar_o578.2.2 hin_o578 (H_o578 0 (by rw [S_o578]; decide)) (g := (mkF m 12 #[vR ca, vI (0 : Int32), vR u, vI (0 : Int32), vI (3 : Int32), vI (0 : Int32), .unset] [(.int (0 : Int32)), (.ref ca)])) rfl rfl (hb hby d9_12) _ κ) ?_
  refine Gl.st (g' := (mkF m 17 #[vR ca, vI (0 : Int32), vR u, vI (0 : Int32), vI (3 : Int32), vI (0 : Int32), vI c0] [(.int c0)])) (fun τ κ => XS.istore X0.here hx rfl (hb hby d9_13) rfl (l' := #[vR ca, vI (0 : Int32), vR u, vI (0 : Int32), vI (3 : Int32), vI (0 : Int32), vI c0]) rfl (XS.iload X0.here hx rfl (hb hby d9_15) rfl κ)) ?_
  refine Gl.st (g' := (mkF m 20 #[vR ca, vI (0 : Int32), vR u, vI (0 : Int32), vI (3 : Int32), vI (0 : Int32), vI c0] [(.int (255 : Int32)), (.int c0)])) (fun τ κ => XS.sipush X0.here hx rfl (hb hby d9_17) κ) ?_
  by_cases hc579 : (255 : Int32) < c0
  · -- pc 20: (255 : Int32) < c0
    refine Gl.st (g' := (mkF m 25 #[vR ca, vI (0 : Int32), vR u, vI (0 : Int32), vI (3 : Int32), vI (0 : Int32), vI c0] [(.int (0 : Int32))])) (fun τ κ => XS.icmpNo X0.here hx rfl (hb hby d9_20) rfl (tlt hc579).2.2.2 (XS.iload X0.here hx rfl (hb hby d9_23) rfl κ)) ?_
    exact Gl.ret (v := some (.int (0 : Int32))) X0 Bd.notSynchronized (fun h => by rw [Bd.returns] at h; cases h) e0 (fun fs hr => retI X0 hx Bd.returns (hb hby d9_25) hr) (by decide) (by decide) ⟨_, rfl, N0, (Keep.refl h0 [u]), Or.inr (Or.inl ⟨rfl, hc579⟩)⟩
  · -- pc 20: not (255 : Int32) < c0
    refine Gl.st (g' := (mkF m 27 #[vR ca, vI (0 : Int32), vR u, vI (0 : Int32), vI (3 : Int32), vI (0 : Int32), vI c0] [(.ref u)])) (fun τ κ => XS.icmpYes X0.here hx rfl (pc0 := 20) (pc' := 26) rfl (hb hby d9_20) rfl (flt hc579).2.2.2 (by decide) (by decide) (XS.aloadN X0.here hx rfl (hb hby d9_26) rfl rfl κ)) ?_
    refine Gl.st (g' := (mkF m 30 #[vR ca, vI (0 : Int32), vR u, vI (0 : Int32), vI (3 : Int32), vI (0 : Int32), vI c0] [(.int c0), (.int (0 : Int32)), (.ref u)])) (fun τ κ => XS.iloadN X0.here hx rfl (hb hby d9_27) rfl (XS.iload X0.here hx rfl (hb hby d9_28) rfl κ)) ?_
    refine Gl.st (g' := (mkF m 31 #[vR ca, vI (0 : Int32), vR u, vI (0 : Int32), vI (3 : Int32), vI (0 : Int32), vI c0] [(.int (c0.toInt8.toInt32)), (.int (0 : Int32)), (.ref u)])) (fun τ κ => XS.i2b X0.here hx rfl (hb hby d9_30) rfl κ) ?_
    obtain ⟨cl_o580, Ar_o580, q_o580, S_o580, M_o580, H_o580, G_o580⟩ := id V1
    have hin_o580 : ¬ ((0 : Int32) < 0 ∨ cl_o580.slots.size ≤ ((0 : Int32)).toNatClampNeg) := inb_of S_o580 ⟨by decide, by decide⟩
    obtain ⟨T581, h581, X581, e581, W581, st581⟩ := stB X0 hx hZ e0 Ar_o580 (j := (0 : Int32)) hin_o580 (g := (mkF m 31 #[vR ca, vI (0 : Int32), vR u, vI (0 : Int32), vI (3 : Int32), vI (0 : Int32), vI c0] [(.int (c0.toInt8.toInt32)), (.int (0 : Int32)), (.ref u)])) rfl rfl (hb hby d9_31)
    have V_582 := V0.other W581 hne
    have N581 := Fr.snoc X581 N0 gu
    have Z581 : n0 ≤ h581.size := Nat.le_trans Z0 (Nat.le_of_eq W581.size.symm)
    have K581 : Keep h0 h581 [u] := (Keep.refl h0 [u]).wr W581 (Or.inl (List.mem_of_getElem? (i := 0) rfl))
    have V_u_581 : Arv Z h581 u ku .byte (3 : Int32) [(.int (nar .byte (c0.toInt8.toInt32))), (.int (0 : Int32)), (.int (0 : Int32))] (.int (0 : Int32)) := Arv.set Ar_o580 q_o580 S_o580 M_o580 H_o580 G_o580 (fits_nar_byte _) W581 0 rfl (Nat.le_of_ble_eq_true rfl)
    refine Gl.st (g' := (mkF m 32 #[vR ca, vI (0 : Int32), vR u, vI (0 : Int32), vI (3 : Int32), vI (0 : Int32), vI c0] [])) (fun τ κ => st581 _ κ) ?_
    refine Gl.st (g' := (mkF m 38 #[vR ca, vI (1 : Int32), vR u, vI (1 : Int32), vI (3 : Int32), vI (0 : Int32), vI c0] [])) (fun τ κ => XS.iinc X581.here hx rfl (hb hby d9_32) rfl (l' := #[vR ca, vI (1 : Int32), vR u, vI (0 : Int32), vI (3 : Int32), vI (0 : Int32), vI c0]) rfl (XS.iinc X581.here hx rfl (hb hby d9_35) rfl (l' := #[vR ca, vI (1 : Int32), vR u, vI (1 : Int32), vI (3 : Int32), vI (0 : Int32), vI c0]) rfl κ)) ?_
    refine Gl.st (g' := (mkF m 3 #[vR ca, vI (1 : Int32), vR u, vI (1 : Int32), vI (3 : Int32), vI (1 : Int32), vI c0] [])) (fun τ κ => XS.iinc X581.here hx rfl (hb hby d9_38) rfl (l' := #[vR ca, vI (1 : Int32), vR u, vI (1 : Int32), vI (3 : Int32), vI (1 : Int32), vI c0]) rfl (XS.goto X581.here hx rfl (pc0 := 41) (pc' := 3) rfl (hb hby d9_41) (by decide) (by decide) κ)) ?_
    refine Gl.st (g' := (mkF m 7 #[vR ca, vI (1 : Int32), vR u, vI (1 : Int32), vI (3 : Int32), vI (1 : Int32), vI c0] [(.int (3 : Int32)), (.int (1 : Int32))])) (fun τ κ => XS.iload X581.here hx rfl (hb hby d9_3) rfl (XS.iload X581.here hx rfl (hb hby d9_5) rfl κ)) ?_
    have hc584 : (1 : Int32) < (3 : Int32) := by decide
    refine Gl.st (g' := (mkF m 11 #[vR ca, vI (1 : Int32), vR u, vI (1 : Int32), vI (3 : Int32), vI (1 : Int32), vI c0] [(.ref ca)])) (fun τ κ => XS.icmpNo X581.here hx rfl (hb hby d9_7) rfl (tlt hc584).2.1 (XS.aloadN X581.here hx rfl (hb hby d9_10) rfl rfl κ)) ?_
    refine Gl.st (g' := (mkF m 12 #[vR ca, vI (1 : Int32), vR u, vI (1 : Int32), vI (3 : Int32), vI (1 : Int32), vI c0] [(.int (1 : Int32)), (.ref ca)])) (fun τ κ => XS.iloadN X581.here hx rfl (hb hby d9_11) rfl κ) ?_
    obtain ⟨cl_o585, Ar_o585, q_o585, S_o585, M_o585, H_o585, G_o585⟩ := id V_582
    have hin_o585 : ¬ ((1 : Int32) < 0 ∨ cl_o585.slots.size ≤ ((1 : Int32)).toNatClampNeg) := inb_of S_o585 ⟨by decide, by decide⟩
    refine Gl.st (g' := (mkF m 13 #[vR ca, vI (1 : Int32), vR u, vI (1 : Int32), vI (3 : Int32), vI (1 : Int32), vI c0] [(.int c1)])) (fun τ κ => X581.caload hx (j := (1 : Int32)) (v := (.int c1)) (by rw [e581]; exact Ar_o585.1) (State.isArrayOf_alike hZ.alike Ar_o585.2.1) Ar_o585.2.2 hin_o585 (H_o585 1 (by rw [S_o585]; decide)) (g := (mkF m 12 #[vR ca, vI (1 : Int32), vR u, vI (1 : Int32), vI (3 : Int32), vI (1 : Int32), vI c0] [(.int (1 : Int32)), (.ref ca)])) rfl rfl (hb hby d9_12) _ κ) ?_
    refine Gl.st (g' := (mkF m 17 #[vR ca, vI (1 : Int32), vR u, vI (1 : Int32), vI (3 : Int32), vI (1 : Int32), vI c1] [(.int c1)])) (fun τ κ => XS.istore X581.here hx rfl (hb hby d9_13) rfl (l' := #[vR ca, vI (1 : Int32), vR u, vI (1 : Int32), vI (3 : Int32), vI (1 : Int32), vI c1]) rfl (XS.iload X581.here hx rfl (hb hby d9_15) rfl κ)) ?_
    refine Gl.st (g' := (mkF m 20 #[vR ca, vI (1 : Int32), vR u, vI (1 : Int32), vI (3 : Int32), vI (1 : Int32), vI c1] [(.int (255 : Int32)), (.int c1)])) (fun τ κ => XS.sipush X581.here hx rfl (hb hby d9_17) κ) ?_
    by_cases hc586 : (255 : Int32) < c1
    · -- pc 20: (255 : Int32) < c1
      refine Gl.st (g' := (mkF m 25 #[vR ca, vI (1 : Int32), vR u, vI (1 : Int32), vI (3 : Int32), vI (1 : Int32), vI c1] [(.int (1 : Int32))])) (fun τ κ => XS.icmpNo X581.here hx rfl (hb hby d9_20) rfl (tlt hc586).2.2.2 (XS.iload X581.here hx rfl (hb hby d9_23) rfl κ)) ?_
      exact Gl.ret (v := some (.int (1 : Int32))) X581 Bd.notSynchronized (fun h => by rw [Bd.returns] at h; cases h) e581 (fun fs hr => retI X581 hx Bd.returns (hb hby d9_25) hr) (by decide) (by decide) ⟨_, rfl, N581, K581, Or.inr (Or.inr (Or.inl ⟨rfl, hc586⟩))⟩
    · -- pc 20: not (255 : Int32) < c1
      refine Gl.st (g' := (mkF m 27 #[vR ca, vI (1 : Int32), vR u, vI (1 : Int32), vI (3 : Int32), vI (1 : Int32), vI c1] [(.ref u)])) (fun τ κ => XS.icmpYes X581.here hx rfl (pc0 := 20) (pc' := 26) rfl (hb hby d9_20) rfl (flt hc586).2.2.2 (by decide) (by decide) (XS.aloadN X581.here hx rfl (hb hby d9_26) rfl rfl κ)) ?_
      refine Gl.st (g' := (mkF m 30 #[vR ca, vI (1 : Int32), vR u, vI (1 : Int32), vI (3 : Int32), vI (1 : Int32), vI c1] [(.int c1), (.int (1 : Int32)), (.ref u)])) (fun τ κ => XS.iloadN X581.here hx rfl (hb hby d9_27) rfl (XS.iload X581.here hx rfl (hb hby d9_28) rfl κ)) ?_
      refine Gl.st (g' := (mkF m 31 #[vR ca, vI (1 : Int32), vR u, vI (1 : Int32), vI (3 : Int32), vI (1 : Int32), vI c1] [(.int (c1.toInt8.toInt32)), (.int (1 : Int32)), (.ref u)])) (fun τ κ => XS.i2b X581.here hx rfl (hb hby d9_30) rfl κ) ?_
      obtain ⟨cl_o587, Ar_o587, q_o587, S_o587, M_o587, H_o587, G_o587⟩ := id V_u_581
      have hin_o587 : ¬ ((1 : Int32) < 0 ∨ cl_o587.slots.size ≤ ((1 : Int32)).toNatClampNeg) := inb_of S_o587 ⟨by decide, by decide⟩
      obtain ⟨T588, h588, X588, e588, W588, st588⟩ := stB X581 hx hZ e581 Ar_o587 (j := (1 : Int32)) hin_o587 (g := (mkF m 31 #[vR ca, vI (1 : Int32), vR u, vI (1 : Int32), vI (3 : Int32), vI (1 : Int32), vI c1] [(.int (c1.toInt8.toInt32)), (.int (1 : Int32)), (.ref u)])) rfl rfl (hb hby d9_31)
      have V_589 := V_582.other W588 hne
      have N588 := Fr.snoc X588 N581 gu
      have Z588 : n0 ≤ h588.size := Nat.le_trans Z581 (Nat.le_of_eq W588.size.symm)
      have K588 : Keep h0 h588 [u] := K581.wr W588 (Or.inl (List.mem_of_getElem? (i := 0) rfl))
      have V_u_588 : Arv Z h588 u ku .byte (3 : Int32) [(.int (nar .byte (c0.toInt8.toInt32))), (.int (nar .byte (c1.toInt8.toInt32))), (.int (0 : Int32))] (.int (0 : Int32)) := Arv.set Ar_o587 q_o587 S_o587 M_o587 H_o587 G_o587 (fits_nar_byte _) W588 1 rfl (Nat.le_of_ble_eq_true rfl)
      refine Gl.st (g' := (mkF m 32 #[vR ca, vI (1 : Int32), vR u, vI (1 : Int32), vI (3 : Int32), vI (1 : Int32), vI c1] [])) (fun τ κ => st588 _ κ) ?_
      refine Gl.st (g' := (mkF m 38 #[vR ca, vI (2 : Int32), vR u, vI (2 : Int32), vI (3 : Int32), vI (1 : Int32), vI c1] [])) (fun τ κ => XS.iinc X588.here hx rfl (hb hby d9_32) rfl (l' := #[vR ca, vI (2 : Int32), vR u, vI (1 : Int32), vI (3 : Int32), vI (1 : Int32), vI c1]) rfl (XS.iinc X588.here hx rfl (hb hby d9_35) rfl (l' := #[vR ca, vI (2 : Int32), vR u, vI (2 : Int32), vI (3 : Int32), vI (1 : Int32), vI c1]) rfl κ)) ?_
      refine Gl.st (g' := (mkF m 3 #[vR ca, vI (2 : Int32), vR u, vI (2 : Int32), vI (3 : Int32), vI (2 : Int32), vI c1] [])) (fun τ κ => XS.iinc X588.here hx rfl (hb hby d9_38) rfl (l' := #[vR ca, vI (2 : Int32), vR u, vI (2 : Int32), vI (3 : Int32), vI (2 : Int32), vI c1]) rfl (XS.goto X588.here hx rfl (pc0 := 41) (pc' := 3) rfl (hb hby d9_41) (by decide) (by decide) κ)) ?_
      refine Gl.st (g' := (mkF m 7 #[vR ca, vI (2 : Int32), vR u, vI (2 : Int32), vI (3 : Int32), vI (2 : Int32), vI c1] [(.int (3 : Int32)), (.int (2 : Int32))])) (fun τ κ => XS.iload X588.here hx rfl (hb hby d9_3) rfl (XS.iload X588.here hx rfl (hb hby d9_5) rfl κ)) ?_
      have hc591 : (2 : Int32) < (3 : Int32) := by decide
      refine Gl.st (g' := (mkF m 11 #[vR ca, vI (2 : Int32), vR u, vI (2 : Int32), vI (3 : Int32), vI (2 : Int32), vI c1] [(.ref ca)])) (fun τ κ => XS.icmpNo X588.here hx rfl (hb hby d9_7) rfl (tlt hc591).2.1 (XS.aloadN X588.here hx rfl (hb hby d9_10) rfl rfl κ)) ?_
      refine Gl.st (g' := (mkF m 12 #[vR ca, vI (2 : Int32), vR u, vI (2 : Int32), vI (3 : Int32), vI (2 : Int32), vI c1] [(.int (2 : Int32)), (.ref ca)])) (fun τ κ => XS.iloadN X588.here hx rfl (hb hby d9_11) rfl κ) ?_
      obtain ⟨cl_o592, Ar_o592, q_o592, S_o592, M_o592, H_o592, G_o592⟩ := id V_589
      have hin_o592 : ¬ ((2 : Int32) < 0 ∨ cl_o592.slots.size ≤ ((2 : Int32)).toNatClampNeg) := inb_of S_o592 ⟨by decide, by decide⟩
      refine Gl.st (g' := (mkF m 13 #[vR ca, vI (2 : Int32), vR u, vI (2 : Int32), vI (3 : Int32), vI (2 : Int32), vI c1] [(.int c2)])) (fun τ κ => X588.caload hx (j := (2 : Int32)) (v := (.int c2)) (by rw [e588]; exact Ar_o592.1) (State.isArrayOf_alike hZ.alike Ar_o592.2.1) Ar_o592.2.2 hin_o592 (H_o592 2 (by rw [S_o592]; decide)) (g := (mkF m 12 #[vR ca, vI (2 : Int32), vR u, vI (2 : Int32), vI (3 : Int32), vI (2 : Int32), vI c1] [(.int (2 : Int32)), (.ref ca)])) rfl rfl (hb hby d9_12) _ κ) ?_
      refine Gl.st (g' := (mkF m 17 #[vR ca, vI (2 : Int32), vR u, vI (2 : Int32), vI (3 : Int32), vI (2 : Int32), vI c2] [(.int c2)])) (fun τ κ => XS.istore X588.here hx rfl (hb hby d9_13) rfl (l' := #[vR ca, vI (2 : Int32), vR u, vI (2 : Int32), vI (3 : Int32), vI (2 : Int32), vI c2]) rfl (XS.iload X588.here hx rfl (hb hby d9_15) rfl κ)) ?_
      refine Gl.st (g' := (mkF m 20 #[vR ca, vI (2 : Int32), vR u, vI (2 : Int32), vI (3 : Int32), vI (2 : Int32), vI c2] [(.int (255 : Int32)), (.int c2)])) (fun τ κ => XS.sipush X588.here hx rfl (hb hby d9_17) κ) ?_
      by_cases hc593 : (255 : Int32) < c2
      · -- pc 20: (255 : Int32) < c2
        refine Gl.st (g' := (mkF m 25 #[vR ca, vI (2 : Int32), vR u, vI (2 : Int32), vI (3 : Int32), vI (2 : Int32), vI c2] [(.int (2 : Int32))])) (fun τ κ => XS.icmpNo X588.here hx rfl (hb hby d9_20) rfl (tlt hc593).2.2.2 (XS.iload X588.here hx rfl (hb hby d9_23) rfl κ)) ?_
        exact Gl.ret (v := some (.int (2 : Int32))) X588 Bd.notSynchronized (fun h => by rw [Bd.returns] at h; cases h) e588 (fun fs hr => retI X588 hx Bd.returns (hb hby d9_25) hr) (by decide) (by decide) ⟨_, rfl, N588, K588, Or.inr (Or.inr (Or.inr (⟨rfl, hc593⟩)))⟩
      · -- pc 20: not (255 : Int32) < c2
        refine Gl.st (g' := (mkF m 27 #[vR ca, vI (2 : Int32), vR u, vI (2 : Int32), vI (3 : Int32), vI (2 : Int32), vI c2] [(.ref u)])) (fun τ κ => XS.icmpYes X588.here hx rfl (pc0 := 20) (pc' := 26) rfl (hb hby d9_20) rfl (flt hc593).2.2.2 (by decide) (by decide) (XS.aloadN X588.here hx rfl (hb hby d9_26) rfl rfl κ)) ?_
        refine Gl.st (g' := (mkF m 30 #[vR ca, vI (2 : Int32), vR u, vI (2 : Int32), vI (3 : Int32), vI (2 : Int32), vI c2] [(.int c2), (.int (2 : Int32)), (.ref u)])) (fun τ κ => XS.iloadN X588.here hx rfl (hb hby d9_27) rfl (XS.iload X588.here hx rfl (hb hby d9_28) rfl κ)) ?_
        refine Gl.st (g' := (mkF m 31 #[vR ca, vI (2 : Int32), vR u, vI (2 : Int32), vI (3 : Int32), vI (2 : Int32), vI c2] [(.int (c2.toInt8.toInt32)), (.int (2 : Int32)), (.ref u)])) (fun τ κ => XS.i2b X588.here hx rfl (hb hby d9_30) rfl κ) ?_
        obtain ⟨cl_o594, Ar_o594, q_o594, S_o594, M_o594, H_o594, G_o594⟩ := id V_u_588
        have hin_o594 : ¬ ((2 : Int32) < 0 ∨ cl_o594.slots.size ≤ ((2 : Int32)).toNatClampNeg) := inb_of S_o594 ⟨by decide, by decide⟩
        obtain ⟨T595, h595, X595, e595, W595, st595⟩ := stB X588 hx hZ e588 Ar_o594 (j := (2 : Int32)) hin_o594 (g := (mkF m 31 #[vR ca, vI (2 : Int32), vR u, vI (2 : Int32), vI (3 : Int32), vI (2 : Int32), vI c2] [(.int (c2.toInt8.toInt32)), (.int (2 : Int32)), (.ref u)])) rfl rfl (hb hby d9_31)
        have V_596 := V_589.other W595 hne
        have N595 := Fr.snoc X595 N588 gu
        have Z595 : n0 ≤ h595.size := Nat.le_trans Z588 (Nat.le_of_eq W595.size.symm)
        have K595 : Keep h0 h595 [u] := K588.wr W595 (Or.inl (List.mem_of_getElem? (i := 0) rfl))
        have V_u_595 : Arv Z h595 u ku .byte (3 : Int32) [(.int (nar .byte (c0.toInt8.toInt32))), (.int (nar .byte (c1.toInt8.toInt32))), (.int (nar .byte (c2.toInt8.toInt32)))] (.int (0 : Int32)) := Arv.set Ar_o594 q_o594 S_o594 M_o594 H_o594 G_o594 (fits_nar_byte _) W595 2 rfl (Nat.le_of_ble_eq_true rfl)
        refine Gl.st (g' := (mkF m 32 #[vR ca, vI (2 : Int32), vR u, vI (2 : Int32), vI (3 : Int32), vI (2 : Int32), vI c2] [])) (fun τ κ => st595 _ κ) ?_
        refine Gl.st (g' := (mkF m 38 #[vR ca, vI (3 : Int32), vR u, vI (3 : Int32), vI (3 : Int32), vI (2 : Int32), vI c2] [])) (fun τ κ => XS.iinc X595.here hx rfl (hb hby d9_32) rfl (l' := #[vR ca, vI (3 : Int32), vR u, vI (2 : Int32), vI (3 : Int32), vI (2 : Int32), vI c2]) rfl (XS.iinc X595.here hx rfl (hb hby d9_35) rfl (l' := #[vR ca, vI (3 : Int32), vR u, vI (3 : Int32), vI (3 : Int32), vI (2 : Int32), vI c2]) rfl κ)) ?_
        refine Gl.st (g' := (mkF m 3 #[vR ca, vI (3 : Int32), vR u, vI (3 : Int32), vI (3 : Int32), vI (3 : Int32), vI c2] [])) (fun τ κ => XS.iinc X595.here hx rfl (hb hby d9_38) rfl (l' := #[vR ca, vI (3 : Int32), vR u, vI (3 : Int32), vI (3 : Int32), vI (3 : Int32), vI c2]) rfl (XS.goto X595.here hx rfl (pc0 := 41) (pc' := 3) rfl (hb hby d9_41) (by decide) (by decide) κ)) ?_
        refine Gl.st (g' := (mkF m 7 #[vR ca, vI (3 : Int32), vR u, vI (3 : Int32), vI (3 : Int32), vI (3 : Int32), vI c2] [(.int (3 : Int32)), (.int (3 : Int32))])) (fun τ κ => XS.iload X595.here hx rfl (hb hby d9_3) rfl (XS.iload X595.here hx rfl (hb hby d9_5) rfl κ)) ?_
        have hc598 : ¬ ((3 : Int32) < (3 : Int32)) := by decide
        refine Gl.st (g' := (mkF m 46 #[vR ca, vI (3 : Int32), vR u, vI (3 : Int32), vI (3 : Int32), vI (3 : Int32), vI c2] [(.int (3 : Int32))])) (fun τ κ => XS.icmpYes X595.here hx rfl (pc0 := 7) (pc' := 44) rfl (hb hby d9_7) rfl (flt hc598).2.1 (by decide) (by decide) (XS.iload X595.here hx rfl (hb hby d9_44) rfl κ)) ?_
        exact Gl.ret (v := some (.int (3 : Int32))) X595 Bd.notSynchronized (fun h => by rw [Bd.returns] at h; cases h) e595 (fun fs hr => retI X595 hx Bd.returns (hb hby d9_46) hr) (by decide) (by decide) ⟨_, rfl, N595, K595, Or.inl ⟨rfl, hc579, hc586, hc593, V_u_595⟩⟩
theorem ef_rm8_3 (m : MethodId) (ca : Addr) : entryFrame m #[(.ref ca), (.int (0 : Int32)), (.int (3 : Int32))] 6 = mkF m 0 #[vR ca, vI (0 : Int32), vI (3 : Int32), .unset, .unset, .unset] [] := by first | (simp [entryFrame, mkF, argsToLocals, Value.category]; done) | rfl
def Q_rm8_3 (Z : State) (ca : Addr) (kc : ClassId) (c0 c1 c2 : Int32) (h0 : Heap) (n0 : Nat) (v : Option Value) (h : Heap) (L : List Loc) : Prop := ∃ b kk z vs, v = some (.ref b) ∧ Fr n0 L ∧ Keep h0 h [] ∧ h0.size ≤ b ∧ Arv Z h b kk .byte z vs (.int (0 : Int32)) ∧ own_bytes (3 : Int32) [c0, c1, c2] z vs
set_option maxRecDepth 65536 in
set_option maxHeartbeats 40000000 in
theorem rm8_3 (l : Launch) (Z : State) (a0 : Array Value) (hw : ∀ d ∈ tables_1, d.before a0 Z = true) (ws : List Jvm.Cond) (ca : Addr) (kc : ClassId) (c0 c1 c2 : Int32) (h0 : Heap) (n0 : Nat) (Z0 : n0 ≤ h0.size) (SA : Sta Z h0 "java/lang/StringUTF16" "$assertionsDisabled" "Z" (.int (1 : Int32))) (SH : Sta Z h0 "java/lang/StringUTF16" "HI_BYTE_SHIFT" "I" (.int (0 : Int32))) (SL : Sta Z h0 "java/lang/StringUTF16" "LO_BYTE_SHIFT" "I" (.int (8 : Int32))) (V0 : Arv Z h0 ca kc .char (3 : Int32) [(.int c0), (.int c1), (.int c2)] (.int (0 : Int32))) (hc0 : own_ch c0) (hc1 : own_ch c1) (hc2 : own_ch c2) :
    MetFree l (⟨"java/lang/StringUTF16", "compress", "([CII)[B"⟩ : MethodName) (head1 (Jvm.Cond.code (⟨"java/lang/StringUTF16", "compress", "([CII)[B"⟩ : MethodName) jdk_52_method_16_code 6 (some (.array .byte)) :: ws) ({ frames := 3, cells := 2, slots := 9, locals := 40 } : Room)) (fun aα Uα => aα = #[(.ref ca), (.int (0 : Int32)), (.int (3 : Int32))] ∧ Z.Warmed39 Uα.vm ∧ Uα.heap = h0) (fun _ _ _ _ _ => True) (fun _ Uα oα Uβ => ∃ vα Lα, oα = .returned vα ∧ Q_rm8_3 Z ca kc c0 c1 c2 h0 n0 vα Uβ.heap Lα ∧ FrameEnd Uα oα Uβ Lα ({ frames := 3, cells := 2, slots := 9, locals := 40 } : Room).cells ({ frames := 3, cells := 2, slots := 9, locals := 40 } : Room).slots) := by
  refine MetFree.of_bodySF (plainFor_of_name pn_java_lang_StringUTF16) hisR ?_
  intro p e s m args below meth c s₁ Bd hml0 hP hKα
  obtain ⟨rfl, hZ, hh⟩ := hP
  have hx := Bd.exec
  have hby := Bd.bytes
  have hml : c.maxLocals = 6 := hml0
  have hown : s.vm.findClass "java/lang/StringUTF16" = some m.cls := findClass_of_methodNamed Bd.named
  have hnm := (name_of_methodNamed Bd.named Bd.method).1
  have X0 : Stand p l e ({ frames := 3, cells := 2, slots := 9, locals := 40 } : Room) s m #[(.ref ca), (.int (0 : Int32)), (.int (3 : Int32))] below meth c s₁ [] 0 0 := Stand.of_body Bd
  have e0 : s₁.heap = h0 := by rw [← hh, Bd.state]; rfl
  have N0 := Fr.nil n0
  suffices k0 : Gl p e below s (Q_rm8_3 Z ca kc c0 c1 c2 h0 n0) ({ frames := 3, cells := 2, slots := 9, locals := 40 } : Room).cells ({ frames := 3, cells := 2, slots := 9, locals := 40 } : Room).slots s₁ (mkF m 0 #[vR ca, vI (0 : Int32), vI (3 : Int32), .unset, .unset, .unset] []) from Gl.st (fun τ κ => castTop (ef_rm8_3 m ca) κ) k0
  refine Gl.st (g' := (mkF m 1 #[vR ca, vI (0 : Int32), vI (3 : Int32), .unset, .unset, .unset] [(.int (3 : Int32))])) (fun τ κ => XS.iloadN X0.here hx rfl (hb hby d8_0) rfl κ) ?_
  obtain ⟨T599, h599, k599, X599, e599, E599, A599, st599⟩ := newP X0 hx hZ (hw _ (List.mem_of_getElem? (i := 21) rfl)) e0 (g := (mkF m 1 #[vR ca, vI (0 : Int32), vI (3 : Int32), .unset, .unset, .unset] [(.int (3 : Int32))])) rfl (hb hby d8_1) rfl (by decide) (cap := 3) (by decide) (by decide) (by decide) (by decide)
  obtain ⟨b599, g599⟩ : ∃ z, z = h0.size := ⟨_, rfl⟩
  rw [← g599] at A599 st599
  have ne_ca_b599 : ca ≠ b599 := Nat.ne_of_lt (Nat.lt_of_lt_of_le V0.lt (Nat.le_of_eq g599.symm))
  have S_600 := SA.ext E599
  have S_601 := SH.ext E599
  have S_602 := SL.ext E599
  have V_603 := V0.ext E599
  have g_b599 : n0 ≤ b599 := Nat.le_trans Z0 (Nat.le_of_eq g599.symm)
  have sz_b599 : h0.size ≤ b599 := Nat.le_trans (Keep.refl h0 []).1 (Nat.le_of_eq g599.symm)
  have Z599 : n0 ≤ h599.size := Nat.le_trans Z0 E599.1
  have K599 : Keep h0 h599 [] := (Keep.refl h0 []).ext E599
  have V_b599 : Arv Z h599 b599 k599 .byte (3 : Int32) [(.int (0 : Int32)), (.int (0 : Int32)), (.int (0 : Int32))] (.int (0 : Int32)) := (Arv.new A599 (by decide)).pad (pad_rep [] (.int (0 : Int32)) 3)
  refine Gl.st (g' := (mkF m 3 #[vR ca, vI (0 : Int32), vI (3 : Int32), .unset, .unset, .unset] [(.ref b599)])) (fun τ κ => st599 _ κ) ?_
  refine Gl.st (g' := (mkF m 5 #[vR ca, vI (0 : Int32), vI (3 : Int32), vR b599, .unset, .unset] [(.ref ca)])) (fun τ κ => XS.astoreN X599.here hx rfl (hb hby d8_3) rfl rfl (l' := #[vR ca, vI (0 : Int32), vI (3 : Int32), vR b599, .unset, .unset]) rfl (XS.aloadN X599.here hx rfl (hb hby d8_4) rfl rfl κ)) ?_
  refine Gl.st (g' := (mkF m 7 #[vR ca, vI (0 : Int32), vI (3 : Int32), vR b599, .unset, .unset] [(.ref b599), (.int (0 : Int32)), (.ref ca)])) (fun τ κ => XS.iloadN X599.here hx rfl (hb hby d8_5) rfl (XS.aloadN X599.here hx rfl (hb hby d8_6) rfl rfl κ)) ?_
  refine Gl.st (g' := (mkF m 9 #[vR ca, vI (0 : Int32), vI (3 : Int32), vR b599, .unset, .unset] [(.int (3 : Int32)), (.int (0 : Int32)), (.ref b599), (.int (0 : Int32)), (.ref ca)])) (fun τ κ => XS.iconst X599.here hx rfl (hb hby d8_7) (XS.iloadN X599.here hx rfl (hb hby d8_8) rfl κ)) ?_
  obtain ⟨rv604, _, ⟨T604, L604, k604, n604⟩, -, X604, ⟨Lc604, hQ604, l604, y604, z604⟩, st604⟩ := Jvm.LawKit.callS X599 hx (y := (⟨"java/lang/StringUTF16", "compress", "([CI[BII)I"⟩ : MethodName)) hown (mvT hZ (w47_ hw)) (mvT hZ (w48_ hw)) (mvT hZ (w45_ hw)) (mvT hZ (w49_ hw)) (by decide) (backOf (W := 0) (rm9_3 l Z a0 hw [] ca b599 kc k599 c0 c1 c2 h599 n0 Z599 V_603 V_b599 g_b599 ne_ca_b599) hZ (w49_ hw) (w45_ hw) (by decide) (by decide)) (g := (mkF m 9 #[vR ca, vI (0 : Int32), vI (3 : Int32), vR b599, .unset, .unset] [(.int (3 : Int32)), (.int (0 : Int32)), (.ref b599), (.int (0 : Int32)), (.ref ca)])) rfl (by rw [hml]; rfl) (argsL := [(.ref ca), (.int (0 : Int32)), (.ref b599), (.int (0 : Int32)), (.int (3 : Int32))]) (rest := []) (lenOf pd_12 rfl) rfl (by show 2 * 0 + _ ≤ _; exact Nat.le_of_eq rfl) (hb hby d8_9) (fun _ _ => ⟨rfl, e599, (by decide : 1 + 0 ≤ _), (by decide : 3 + 0 ≤ _)⟩)
  dsimp only [Pt.U, Pt.locs, Pt.cells, Pt.slots] at X604 l604 y604 z604 st604 hQ604
  subst l604 y604 z604
  obtain ⟨j, rfl, N604q, Kc604, hj⟩ := hQ604
  have S_605 := Sta.keepX S_600 Kc604 (allS (P := fun x => ∃ c : Cell, h599[x]? = some c ∧ ∀ q, c.vm ≠ .statics q) (Arv.cellX V_b599) all0)
  have S_606 := Sta.keepX S_601 Kc604 (allS (P := fun x => ∃ c : Cell, h599[x]? = some c ∧ ∀ q, c.vm ≠ .statics q) (Arv.cellX V_b599) all0)
  have S_607 := Sta.keepX S_602 Kc604 (allS (P := fun x => ∃ c : Cell, h599[x]? = some c ∧ ∀ q, c.vm ≠ .statics q) (Arv.cellX V_b599) all0)
  have V_608 := V_603.keep Kc604 (ninS ne_ca_b599 nin0)
  have N604 := Fr.app N0 N604q
  have Z604 : n0 ≤ T604.heap.size := Nat.le_trans Z599 Kc604.1
  have K604 : Keep h0 T604.heap [] := K599.trans Kc604 (allS (Or.inr sz_b599) all0)
  refine Gl.st (g' := (mkF m 12 #[vR ca, vI (0 : Int32), vI (3 : Int32), vR b599, .unset, .unset] [(.int j)])) (fun τ κ => st604 _ κ) ?_
  rcases hj with ⟨rfl, q0, q1, q2, Vj⟩ | hj
  · -- 3
    refine Gl.st (g' := (mkF m 16 #[vR ca, vI (0 : Int32), vI (3 : Int32), vR b599, vI (3 : Int32), .unset] [(.int (3 : Int32))])) (fun τ κ => XS.istore X604.here hx rfl (hb hby d8_12) rfl (l' := #[vR ca, vI (0 : Int32), vI (3 : Int32), vR b599, vI (3 : Int32), .unset]) rfl (XS.iload X604.here hx rfl (hb hby d8_14) rfl κ)) ?_
    refine Gl.st (g' := (mkF m 17 #[vR ca, vI (0 : Int32), vI (3 : Int32), vR b599, vI (3 : Int32), .unset] [(.int (3 : Int32)), (.int (3 : Int32))])) (fun τ κ => XS.iloadN X604.here hx rfl (hb hby d8_16) rfl κ) ?_
    have hc610 : (3 : Int32) = (3 : Int32) := by decide
    refine Gl.st (g' := (mkF m 58 #[vR ca, vI (0 : Int32), vI (3 : Int32), vR b599, vI (3 : Int32), .unset] [(.ref b599)])) (fun τ κ => XS.icmpYes X604.here hx rfl (pc0 := 17) (pc' := 57) rfl (hb hby d8_17) rfl (teq hc610).1 (by decide) (by decide) (XS.aloadN X604.here hx rfl (hb hby d8_57) rfl rfl κ)) ?_
    exact Gl.ret (v := some (.ref b599)) X604 Bd.notSynchronized (fun h => by rw [Bd.returns] at h; cases h) rfl (fun fs hr => retAA X604 hx Bd.returns (hb hby d8_58) hr) (by decide) (by decide) ⟨b599, k599, (3 : Int32), [(.int (own_lb c0)), (.int (own_lb c1)), (.int (own_lb c2))], rfl, N604, K604, sz_b599, Vj, Or.inl ⟨rfl, (fun i hi => match i, hi with | 0, _ => ⟨_, rfl, own_lat hc0 q0⟩ | 1, _ => ⟨_, rfl, own_lat hc1 q1⟩ | 2, _ => ⟨_, rfl, own_lat hc2 q2⟩ | (i + 3), hi => absurd hi (Nat.not_lt.mpr (Nat.le_add_left 3 _)))⟩⟩
  · -- 0
    obtain ⟨yy, yz, hg, hq⟩ : ∃ yy yz, (¬ j = (3 : Int32) ∧ (¬ (j <<< ((1 : Int32) &&& 31)) < 0 ∧ (j <<< ((1 : Int32) &&& 31)) < (6 : Int32)) ∧ (¬ ((j <<< ((1 : Int32) &&& 31)) + (1 : Int32)) < 0 ∧ ((j <<< ((1 : Int32) &&& 31)) + (1 : Int32)) < (6 : Int32)) ∧ ([(.int (own_hi c0)), (.int (own_lo c0)), (.int (own_hi c1)), (.int (own_lo c1)), (.int (own_hi c2)), (.int (own_lo c2))] : List Value).getD ((j <<< ((1 : Int32) &&& 31))).toNatClampNeg (.int 0) = .int yy ∧ ([(.int (own_hi c0)), (.int (own_lo c0)), (.int (own_hi c1)), (.int (own_lo c1)), (.int (own_hi c2)), (.int (own_lo c2))] : List Value).getD (((j <<< ((1 : Int32) &&& 31)) + (1 : Int32))).toNatClampNeg (.int 0) = .int yz) ∧ (255 : Int32) < own_u16E yy yz := by
      rcases hj with ⟨rfl, q0⟩ | ⟨rfl, q1⟩ | ⟨rfl, q2⟩
      · exact ⟨own_hi c0, own_lo c0, ⟨by decide, by decide, by decide, rfl, rfl⟩, by rw [own_join hc0]; exact q0⟩
      · exact ⟨own_hi c1, own_lo c1, ⟨by decide, by decide, by decide, rfl, rfl⟩, by rw [own_join hc1]; exact q1⟩
      · exact ⟨own_hi c2, own_lo c2, ⟨by decide, by decide, by decide, rfl, rfl⟩, by rw [own_join hc2]; exact q2⟩
    refine Gl.st (g' := (mkF m 16 #[vR ca, vI (0 : Int32), vI (3 : Int32), vR b599, vI j, .unset] [(.int j)])) (fun τ κ => XS.istore X604.here hx rfl (hb hby d8_12) rfl (l' := #[vR ca, vI (0 : Int32), vI (3 : Int32), vR b599, vI j, .unset]) rfl (XS.iload X604.here hx rfl (hb hby d8_14) rfl κ)) ?_
    refine Gl.st (g' := (mkF m 17 #[vR ca, vI (0 : Int32), vI (3 : Int32), vR b599, vI j, .unset] [(.int (3 : Int32)), (.int j)])) (fun τ κ => XS.iloadN X604.here hx rfl (hb hby d8_16) rfl κ) ?_
    have hc611 : ¬ (j = (3 : Int32)) := hg.1
    refine Gl.st (g' := (mkF m 21 #[vR ca, vI (0 : Int32), vI (3 : Int32), vR b599, vI j, .unset] [(.ref ca)])) (fun τ κ => XS.icmpNo X604.here hx rfl (hb hby d8_17) rfl (feq hc611).1 (XS.aloadN X604.here hx rfl (hb hby d8_20) rfl rfl κ)) ?_
    refine Gl.st (g' := (mkF m 23 #[vR ca, vI (0 : Int32), vI (3 : Int32), vR b599, vI j, .unset] [(.int (3 : Int32)), (.int (0 : Int32)), (.ref ca)])) (fun τ κ => XS.iloadN X604.here hx rfl (hb hby d8_21) rfl (XS.iloadN X604.here hx rfl (hb hby d8_22) rfl κ)) ?_
    obtain ⟨rv612, _, ⟨T612, L612, k612, n612⟩, -, X612, ⟨Lc612, hQ612, l612, y612, z612⟩, st612⟩ := Jvm.LawKit.callS X604 hx (y := (⟨"java/lang/StringUTF16", "toBytes", "([CII)[B"⟩ : MethodName)) hown (mvT hZ (w78_ hw)) (mvT hZ (w79_ hw)) (mvT hZ (w45_ hw)) (mvT hZ (w80_ hw)) (by decide) (backOf (W := 0) (rm17_3 l Z a0 hw [] ca kc c0 c1 c2 T604.heap n0 Z604 S_605 S_606 S_607 V_608) hZ (w80_ hw) (w45_ hw) (by decide) (by decide)) (g := (mkF m 23 #[vR ca, vI (0 : Int32), vI (3 : Int32), vR b599, vI j, .unset] [(.int (3 : Int32)), (.int (0 : Int32)), (.ref ca)])) rfl (by rw [hml]; rfl) (argsL := [(.ref ca), (.int (0 : Int32)), (.int (3 : Int32))]) (rest := []) (lenOf pd_13 rfl) rfl (by show 2 * 0 + _ ≤ _; exact Nat.le_of_eq rfl) (hb hby d8_23) (fun _ _ => ⟨rfl, rfl, (by decide : 1 + 1 ≤ _), (by decide : 3 + 6 ≤ _)⟩)
    dsimp only [Pt.U, Pt.locs, Pt.cells, Pt.slots] at X612 l612 y612 z612 st612 hQ612
    subst l612 y612 z612
    obtain ⟨b612, kk612, rfl, N612q, Kc612, s612, V612⟩ := hQ612
    have ne_ca_b612 : ca ≠ b612 := Nat.ne_of_lt (Nat.lt_of_lt_of_le V_608.lt s612)
    have g_b612 : n0 ≤ b612 := Nat.le_trans Z604 s612
    have sz_b612 : h0.size ≤ b612 := Nat.le_trans K604.1 s612
    have S_613 := Sta.keepX S_605 Kc612 all0
    have S_614 := Sta.keepX S_606 Kc612 all0
    have S_615 := Sta.keepX S_607 Kc612 all0
    have V_616 := V_608.keep Kc612 nin0
    have N612 := Fr.app N604 N612q
    have Z612 : n0 ≤ T612.heap.size := Nat.le_trans Z604 Kc612.1
    have K612 : Keep h0 T612.heap [] := K604.trans Kc612 all0
    refine Gl.st (g' := (mkF m 26 #[vR ca, vI (0 : Int32), vI (3 : Int32), vR b599, vI j, .unset] [(.ref b612)])) (fun τ κ => st612 _ κ) ?_
    refine Gl.st (g' := (mkF m 30 #[vR ca, vI (0 : Int32), vI (3 : Int32), vR b599, vI j, vR b612] [(.ref b612)])) (fun τ κ => XS.astore X612.here hx rfl (hb hby d8_26) rfl rfl (l' := #[vR ca, vI (0 : Int32), vI (3 : Int32), vR b599, vI j, vR b612]) rfl (XS.aload X612.here hx rfl (hb hby d8_28) rfl rfl κ)) ?_
    refine Gl.st (g' := (mkF m 32 #[vR ca, vI (0 : Int32), vI (3 : Int32), vR b599, vI j, vR b612] [(.int j), (.ref b612)])) (fun τ κ => XS.iload X612.here hx rfl (hb hby d8_30) rfl κ) ?_
    obtain ⟨rv617, _, ⟨T617, L617, k617, n617⟩, -, X617, ⟨Lc617, hQ617, l617, y617, z617⟩, st617⟩ := Jvm.LawKit.callS X612 hx (y := (⟨"java/lang/StringUTF16", "getChar", "([BI)C"⟩ : MethodName)) hown (mvT hZ (w94_ hw)) (mvT hZ (w95_ hw)) (mvT hZ (w45_ hw)) (mvT hZ (w96_ hw)) (by decide) (backOf (W := 0) (rm21 l Z a0 hw [] b612 j kk612 (6 : Int32) [(.int (own_hi c0)), (.int (own_lo c0)), (.int (own_hi c1)), (.int (own_lo c1)), (.int (own_hi c2)), (.int (own_lo c2))] yy yz T612.heap n0 Z612 S_613 S_614 S_615 V612 hg.2.1 hg.2.2.1 hg.2.2.2.1 hg.2.2.2.2) hZ (w96_ hw) (w45_ hw) (by decide) (by decide)) (g := (mkF m 32 #[vR ca, vI (0 : Int32), vI (3 : Int32), vR b599, vI j, vR b612] [(.int j), (.ref b612)])) rfl (by rw [hml]; rfl) (argsL := [(.ref b612), (.int j)]) (rest := []) (lenOf pd_5 rfl) rfl (by show 2 * 0 + _ ≤ _; exact Nat.le_of_eq rfl) (hb hby d8_32) (fun _ _ => ⟨rfl, rfl, (by decide : 2 + 0 ≤ _), (by decide : 9 + 0 ≤ _)⟩)
    dsimp only [Pt.U, Pt.locs, Pt.cells, Pt.slots] at X617 l617 y617 z617 st617 hQ617
    subst l617 y617 z617
    obtain ⟨hq617, N617q, e617⟩ := hQ617
    have hq617 : rv617 = some (.int (own_u16E yy yz)) := hq617
    subst hq617
    have N617 := Fr.app N612 N617q
    refine Gl.st (g' := (mkF m 35 #[vR ca, vI (0 : Int32), vI (3 : Int32), vR b599, vI j, vR b612] [(.int (own_u16E yy yz))])) (fun τ κ => st617 _ κ) ?_
    refine Gl.st (g' := (mkF m 38 #[vR ca, vI (0 : Int32), vI (3 : Int32), vR b599, vI j, vR b612] [(.int (255 : Int32)), (.int (own_u16E yy yz))])) (fun τ κ => XS.sipush X617.here hx rfl (hb hby d8_35) κ) ?_
    have hc618 : (255 : Int32) < (own_u16E yy yz) := hq
    refine Gl.st (g' := (mkF m 56 #[vR ca, vI (0 : Int32), vI (3 : Int32), vR b599, vI j, vR b612] [(.ref b612)])) (fun τ κ => XS.icmpYes X617.here hx rfl (pc0 := 38) (pc' := 54) rfl (hb hby d8_38) rfl (tlt hc618).2.2.1 (by decide) (by decide) (XS.aload X617.here hx rfl (hb hby d8_54) rfl rfl κ)) ?_
    exact Gl.ret (v := some (.ref b612)) X617 Bd.notSynchronized (fun h => by rw [Bd.returns] at h; cases h) e617 (fun fs hr => retAA X617 hx Bd.returns (hb hby d8_56) hr) (by decide) (by decide) ⟨b612, kk612, (6 : Int32), [(.int (own_hi c0)), (.int (own_lo c0)), (.int (own_hi c1)), (.int (own_lo c1)), (.int (own_hi c2)), (.int (own_lo c2))], rfl, N617, K612, sz_b612, V612, Or.inr ⟨by decide, (fun i hi => match i, hi with | 0, _ => ⟨_, _, rfl, rfl, own_join hc0⟩ | 1, _ => ⟨_, _, rfl, rfl, own_join hc1⟩ | 2, _ => ⟨_, _, rfl, rfl, own_join hc2⟩ | (i + 3), hi => absurd hi (Nat.not_lt.mpr (Nat.le_add_left 3 _)))⟩⟩
theorem ef_rm10_3_0 (m : MethodId) (b : Addr) : entryFrame m #[(.ref b), (.int (3 : Int32))] 2 = mkF m 0 #[vR b, vI (3 : Int32)] [] := by first | (simp [entryFrame, mkF, argsToLocals, Value.category]; done) | rfl
def Q_rm10_3_0 (Z : State) (b : Addr) (kb : ClassId) (vs : List Value) (h0 : Heap) (n0 : Nat) (v : Option Value) (h : Heap) (L : List Loc) : Prop := v = some (.int (0 : Int32)) ∧ Fr n0 L ∧ h = h0
set_option maxRecDepth 65536 in
set_option maxHeartbeats 40000000 in
theorem rm10_3_0 (l : Launch) (Z : State) (a0 : Array Value) (hw : ∀ d ∈ tables_1, d.before a0 Z = true) (ws : List Jvm.Cond) (b : Addr) (kb : ClassId) (vs : List Value) (h0 : Heap) (n0 : Nat) (Z0 : n0 ≤ h0.size) (V0 : Arv Z h0 b kb .byte (3 : Int32) vs (.int (0 : Int32))) :
    MetFree l (⟨"java/lang/StringUTF16", "coderFromArrayLen", "([BI)B"⟩ : MethodName) (head1 (Jvm.Cond.code (⟨"java/lang/StringUTF16", "coderFromArrayLen", "([BI)B"⟩ : MethodName) jdk_52_method_15_code 2 (some .byte) :: ws) ({ frames := 0, cells := 0, slots := 0, locals := 0 } : Room)) (fun aα Uα => aα = #[(.ref b), (.int (3 : Int32))] ∧ Z.Warmed39 Uα.vm ∧ Uα.heap = h0) (fun _ _ _ _ _ => True) (fun _ Uα oα Uβ => ∃ vα Lα, oα = .returned vα ∧ Q_rm10_3_0 Z b kb vs h0 n0 vα Uβ.heap Lα ∧ FrameEnd Uα oα Uβ Lα ({ frames := 0, cells := 0, slots := 0, locals := 0 } : Room).cells ({ frames := 0, cells := 0, slots := 0, locals := 0 } : Room).slots) := by
  refine MetFree.of_bodySF (plainFor_of_name pn_java_lang_StringUTF16) hisR ?_
  intro p e s m args below meth c s₁ Bd hml0 hP hKα
  obtain ⟨rfl, hZ, hh⟩ := hP
  have hx := Bd.exec
  have hby := Bd.bytes
  have hml : c.maxLocals = 2 := hml0
  have hown : s.vm.findClass "java/lang/StringUTF16" = some m.cls := findClass_of_methodNamed Bd.named
  have hnm := (name_of_methodNamed Bd.named Bd.method).1
  have X0 : Stand p l e ({ frames := 0, cells := 0, slots := 0, locals := 0 } : Room) s m #[(.ref b), (.int (3 : Int32))] below meth c s₁ [] 0 0 := Stand.of_body Bd
  have e0 : s₁.heap = h0 := by rw [← hh, Bd.state]; rfl
  have N0 := Fr.nil n0
  suffices k0 : Gl p e below s (Q_rm10_3_0 Z b kb vs h0 n0) ({ frames := 0, cells := 0, slots := 0, locals := 0 } : Room).cells ({ frames := 0, cells := 0, slots := 0, locals := 0 } : Room).slots s₁ (mkF m 0 #[vR b, vI (3 : Int32)] []) from Gl.st (fun τ κ => castTop (ef_rm10_3_0 m b) κ) k0
  refine Gl.st (g' := (mkF m 2 #[vR b, vI (3 : Int32)] [(.ref b), (.int (3 : Int32))])) (fun τ κ => XS.iloadN X0.here hx rfl (hb hby d10_0) rfl (XS.aloadN X0.here hx rfl (hb hby d10_1) rfl rfl κ)) ?_
  obtain ⟨cl_o619, Ar_o619, q_o619, S_o619, M_o619, H_o619, G_o619⟩ := id V0
  refine Gl.st (g' := (mkF m 3 #[vR b, vI (3 : Int32)] [(.int (3 : Int32)), (.int (3 : Int32))])) (fun τ κ => X0.arraylength hx (by rw [e0]; exact Ar_o619.1) (State.isArrayOf_alike hZ.alike Ar_o619.2.1) (g := (mkF m 2 #[vR b, vI (3 : Int32)] [(.ref b), (.int (3 : Int32))])) rfl rfl (hb hby d10_2) _ (by rw [len_of S_o619 M_o619]; exact κ)) ?_
  refine Gl.st (g' := (mkF m 6 #[vR b, vI (3 : Int32)] [(.int (31 : Int32)), (.int (0 : Int32))])) (fun τ κ => XS.isub X0.here hx rfl (hb hby d10_3) rfl (XS.bipush X0.here hx rfl (hb hby d10_4) κ)) ?_
  refine Gl.st (g' := (mkF m 7 #[vR b, vI (3 : Int32)] [(.int (((0 : Int32).toUInt32 >>> ((31 : Int32) &&& 31).toUInt32).toInt32))])) (fun τ κ => XS.iushr X0.here hx rfl (hb hby d10_6) rfl κ) ?_
  rw [show (((0 : Int32).toUInt32 >>> ((31 : Int32) &&& 31).toUInt32).toInt32) = (0 : Int32) from by decide]
  refine Gl.st (g' := (mkF m 8 #[vR b, vI (3 : Int32)] [(.int ((0 : Int32).toInt8.toInt32))])) (fun τ κ => XS.i2b X0.here hx rfl (hb hby d10_7) rfl κ) ?_
  rw [show ((0 : Int32).toInt8.toInt32) = (0 : Int32) from by decide]
  exact Gl.ret (v := some (.int (0 : Int32))) X0 Bd.notSynchronized (fun h => by rw [Bd.returns] at h; cases h) e0 (fun fs hr => retN X0 hx (t := .byte) Bd.returns (by simp) (hb hby d10_8) hr) (by decide) (by decide) ⟨rfl, N0, rfl⟩
theorem ef_rm10_3_1 (m : MethodId) (b : Addr) : entryFrame m #[(.ref b), (.int (3 : Int32))] 2 = mkF m 0 #[vR b, vI (3 : Int32)] [] := by first | (simp [entryFrame, mkF, argsToLocals, Value.category]; done) | rfl
def Q_rm10_3_1 (Z : State) (b : Addr) (kb : ClassId) (vs : List Value) (h0 : Heap) (n0 : Nat) (v : Option Value) (h : Heap) (L : List Loc) : Prop := v = some (.int (1 : Int32)) ∧ Fr n0 L ∧ h = h0
set_option maxRecDepth 65536 in
set_option maxHeartbeats 40000000 in
theorem rm10_3_1 (l : Launch) (Z : State) (a0 : Array Value) (hw : ∀ d ∈ tables_1, d.before a0 Z = true) (ws : List Jvm.Cond) (b : Addr) (kb : ClassId) (vs : List Value) (h0 : Heap) (n0 : Nat) (Z0 : n0 ≤ h0.size) (V0 : Arv Z h0 b kb .byte (6 : Int32) vs (.int (0 : Int32))) :
    MetFree l (⟨"java/lang/StringUTF16", "coderFromArrayLen", "([BI)B"⟩ : MethodName) (head1 (Jvm.Cond.code (⟨"java/lang/StringUTF16", "coderFromArrayLen", "([BI)B"⟩ : MethodName) jdk_52_method_15_code 2 (some .byte) :: ws) ({ frames := 0, cells := 0, slots := 0, locals := 0 } : Room)) (fun aα Uα => aα = #[(.ref b), (.int (3 : Int32))] ∧ Z.Warmed39 Uα.vm ∧ Uα.heap = h0) (fun _ _ _ _ _ => True) (fun _ Uα oα Uβ => ∃ vα Lα, oα = .returned vα ∧ Q_rm10_3_1 Z b kb vs h0 n0 vα Uβ.heap Lα ∧ FrameEnd Uα oα Uβ Lα ({ frames := 0, cells := 0, slots := 0, locals := 0 } : Room).cells ({ frames := 0, cells := 0, slots := 0, locals := 0 } : Room).slots) := by
  refine MetFree.of_bodySF (plainFor_of_name pn_java_lang_StringUTF16) hisR ?_
  intro p e s m args below meth c s₁ Bd hml0 hP hKα
  obtain ⟨rfl, hZ, hh⟩ := hP
  have hx := Bd.exec
  have hby := Bd.bytes
  have hml : c.maxLocals = 2 := hml0
  have hown : s.vm.findClass "java/lang/StringUTF16" = some m.cls := findClass_of_methodNamed Bd.named
  have hnm := (name_of_methodNamed Bd.named Bd.method).1
  have X0 : Stand p l e ({ frames := 0, cells := 0, slots := 0, locals := 0 } : Room) s m #[(.ref b), (.int (3 : Int32))] below meth c s₁ [] 0 0 := Stand.of_body Bd
  have e0 : s₁.heap = h0 := by rw [← hh, Bd.state]; rfl
  have N0 := Fr.nil n0
  suffices k0 : Gl p e below s (Q_rm10_3_1 Z b kb vs h0 n0) ({ frames := 0, cells := 0, slots := 0, locals := 0 } : Room).cells ({ frames := 0, cells := 0, slots := 0, locals := 0 } : Room).slots s₁ (mkF m 0 #[vR b, vI (3 : Int32)] []) from Gl.st (fun τ κ => castTop (ef_rm10_3_1 m b) κ) k0
  refine Gl.st (g' := (mkF m 2 #[vR b, vI (3 : Int32)] [(.ref b), (.int (3 : Int32))])) (fun τ κ => XS.iloadN X0.here hx rfl (hb hby d10_0) rfl (XS.aloadN X0.here hx rfl (hb hby d10_1) rfl rfl κ)) ?_
  obtain ⟨cl_o620, Ar_o620, q_o620, S_o620, M_o620, H_o620, G_o620⟩ := id V0
  refine Gl.st (g' := (mkF m 3 #[vR b, vI (3 : Int32)] [(.int (6 : Int32)), (.int (3 : Int32))])) (fun τ κ => X0.arraylength hx (by rw [e0]; exact Ar_o620.1) (State.isArrayOf_alike hZ.alike Ar_o620.2.1) (g := (mkF m 2 #[vR b, vI (3 : Int32)] [(.ref b), (.int (3 : Int32))])) rfl rfl (hb hby d10_2) _ (by rw [len_of S_o620 M_o620]; exact κ)) ?_
  refine Gl.st (g' := (mkF m 6 #[vR b, vI (3 : Int32)] [(.int (31 : Int32)), (.int (-3 : Int32))])) (fun τ κ => XS.isub X0.here hx rfl (hb hby d10_3) rfl (XS.bipush X0.here hx rfl (hb hby d10_4) κ)) ?_
  refine Gl.st (g' := (mkF m 7 #[vR b, vI (3 : Int32)] [(.int (((-3 : Int32).toUInt32 >>> ((31 : Int32) &&& 31).toUInt32).toInt32))])) (fun τ κ => XS.iushr X0.here hx rfl (hb hby d10_6) rfl κ) ?_
  rw [show (((-3 : Int32).toUInt32 >>> ((31 : Int32) &&& 31).toUInt32).toInt32) = (1 : Int32) from by decide]
  refine Gl.st (g' := (mkF m 8 #[vR b, vI (3 : Int32)] [(.int ((1 : Int32).toInt8.toInt32))])) (fun τ κ => XS.i2b X0.here hx rfl (hb hby d10_7) rfl κ) ?_
  rw [show ((1 : Int32).toInt8.toInt32) = (1 : Int32) from by decide]
  exact Gl.ret (v := some (.int (1 : Int32))) X0 Bd.notSynchronized (fun h => by rw [Bd.returns] at h; cases h) e0 (fun fs hr => retN X0 hx (t := .byte) Bd.returns (by simp) (hb hby d10_8) hr) (by decide) (by decide) ⟨rfl, N0, rfl⟩
theorem ef_rm3_3 (m : MethodId) (a : Addr) (ca : Addr) : entryFrame m #[(.ref a), (.ref ca), (.int (0 : Int32)), (.int (3 : Int32)), .null] 6 = mkF m 0 #[vR a, vR ca, vI (0 : Int32), vI (3 : Int32), .val .null, .unset] [] := by first | (simp [entryFrame, mkF, argsToLocals, Value.category]; done) | rfl
def Q_rm3_3 (Z : State) (a : Addr) (ca : Addr) (kc : ClassId) (cs : Int32) (c0 c1 c2 : Int32) (h0 : Heap) (n0 : Nat) (v : Option Value) (h : Heap) (L : List Loc) : Prop := v = none ∧ Fr n0 L ∧ Keep h0 h [a] ∧ own_str Z h a (3 : Int32) [c0, c1, c2]
set_option maxRecDepth 65536 in
set_option maxHeartbeats 40000000 in
theorem rm3_3 (l : Launch) (Z : State) (a0 : Array Value) (hw : ∀ d ∈ tables_1, d.before a0 Z = true) (ws : List Jvm.Cond) (a : Addr) (ca : Addr) (kc : ClassId) (cs : Int32) (c0 c1 c2 : Int32) (h0 : Heap) (n0 : Nat) (Z0 : n0 ≤ h0.size) (E0 : Exa Z h0 a "java/lang/String") (g0 : n0 ≤ a) (FV : Fld Z h0 a "java/lang/String" "value" "[B" .null) (FC : Fld Z h0 a "java/lang/String" "coder" "B" (.int (0 : Int32))) (hac : a ≠ ca) (S0 : Sta Z h0 "java/lang/String" "COMPACT_STRINGS" "Z" (.int cs)) (hcs : ¬ cs = (0 : Int32)) (SA : Sta Z h0 "java/lang/StringUTF16" "$assertionsDisabled" "Z" (.int (1 : Int32))) (SH : Sta Z h0 "java/lang/StringUTF16" "HI_BYTE_SHIFT" "I" (.int (0 : Int32))) (SL : Sta Z h0 "java/lang/StringUTF16" "LO_BYTE_SHIFT" "I" (.int (8 : Int32))) (V0 : Arv Z h0 ca kc .char (3 : Int32) [(.int c0), (.int c1), (.int c2)] (.int (0 : Int32))) (hc0 : own_ch c0) (hc1 : own_ch c1) (hc2 : own_ch c2) :
    MetFree l (⟨"java/lang/String", "<init>", "([CIILjava/lang/Void;)V"⟩ : MethodName) (head1 (Jvm.Cond.code (⟨"java/lang/String", "<init>", "([CIILjava/lang/Void;)V"⟩ : MethodName) jdk_42_method_149_code 6 none :: ws) ({ frames := 4, cells := 2, slots := 9, locals := 57 } : Room)) (fun aα Uα => aα = #[(.ref a), (.ref ca), (.int (0 : Int32)), (.int (3 : Int32)), .null] ∧ Z.Warmed39 Uα.vm ∧ Uα.heap = h0) (fun _ _ _ _ _ => True) (fun _ Uα oα Uβ => ∃ vα Lα, oα = .returned vα ∧ Q_rm3_3 Z a ca kc cs c0 c1 c2 h0 n0 vα Uβ.heap Lα ∧ FrameEnd Uα oα Uβ Lα ({ frames := 4, cells := 2, slots := 9, locals := 57 } : Room).cells ({ frames := 4, cells := 2, slots := 9, locals := 57 } : Room).slots) := by
  refine MetFree.of_bodySF (plainFor_of_name pn_java_lang_String) hisR ?_
  intro p e s m args below meth c s₁ Bd hml0 hP hKα
  obtain ⟨rfl, hZ, hh⟩ := hP
  have hx := Bd.exec
  have hby := Bd.bytes
  have hml : c.maxLocals = 6 := hml0
  have hown : s.vm.findClass "java/lang/String" = some m.cls := findClass_of_methodNamed Bd.named
  have hnm := (name_of_methodNamed Bd.named Bd.method).1
  have X0 : Stand p l e ({ frames := 4, cells := 2, slots := 9, locals := 57 } : Room) s m #[(.ref a), (.ref ca), (.int (0 : Int32)), (.int (3 : Int32)), .null] below meth c s₁ [] 0 0 := Stand.of_body Bd
  have e0 : s₁.heap = h0 := by rw [← hh, Bd.state]; rfl
  have N0 := Fr.nil n0
  suffices k0 : Gl p e below s (Q_rm3_3 Z a ca kc cs c0 c1 c2 h0 n0) ({ frames := 4, cells := 2, slots := 9, locals := 57 } : Room).cells ({ frames := 4, cells := 2, slots := 9, locals := 57 } : Room).slots s₁ (mkF m 0 #[vR a, vR ca, vI (0 : Int32), vI (3 : Int32), .val .null, .unset] []) from Gl.st (fun τ κ => castTop (ef_rm3_3 m a ca) κ) k0
  refine Gl.st (g' := (mkF m 1 #[vR a, vR ca, vI (0 : Int32), vI (3 : Int32), .val .null, .unset] [(.ref a)])) (fun τ κ => XS.aloadN X0.here hx rfl (hb hby d3_0) rfl rfl κ) ?_
  obtain ⟨T621, X621, e621, st621⟩ := initO X0 hx hZ hown (w17_ hw) (w18_ hw) (w19_ hw) e0 (g := (mkF m 1 #[vR a, vR ca, vI (0 : Int32), vI (3 : Int32), .val .null, .unset] [(.ref a)])) rfl (by rw [hml]; rfl) rfl (hb hby d3_1) (by decide) (W := 0) (by show 2 * 0 + _ ≤ _; exact Nat.le_of_eq rfl) (by decide)
  refine Gl.st (g' := (mkF m 4 #[vR a, vR ca, vI (0 : Int32), vI (3 : Int32), .val .null, .unset] [])) (fun τ κ => st621 _ κ) ?_
  refine Gl.st (g' := (mkF m 5 #[vR a, vR ca, vI (0 : Int32), vI (3 : Int32), .val .null, .unset] [(.int (3 : Int32))])) (fun τ κ => XS.iloadN X621.here hx rfl (hb hby d3_4) rfl κ) ?_
  have hc622 : ¬ ((3 : Int32) = (0 : Int32)) := by decide
  refine Gl.st (g' := (mkF m 27 #[vR a, vR ca, vI (0 : Int32), vI (3 : Int32), .val .null, .unset] [])) (fun τ κ => XS.ifYes X621.here hx rfl (pc0 := 5) (pc' := 27) rfl (hb hby d3_5) rfl ((if0 _ _).trans (feq hc622).2) (by decide) (by decide) κ) ?_
  obtain ⟨T623, X623, e623, st623⟩ := getS2 X621 hx hZ hown (host := "") (Or.inl (w42_ hw)) Via.refl e621 S0 (g := (mkF m 27 #[vR a, vR ca, vI (0 : Int32), vI (3 : Int32), .val .null, .unset] [])) rfl (hb hby d3_27)
  refine Gl.st (g' := (mkF m 30 #[vR a, vR ca, vI (0 : Int32), vI (3 : Int32), .val .null, .unset] [(.int cs)])) (fun τ κ => st623 _ κ) ?_
  have hc624 : ¬ (cs = (0 : Int32)) := hcs
  refine Gl.st (g' := (mkF m 34 #[vR a, vR ca, vI (0 : Int32), vI (3 : Int32), .val .null, .unset] [(.ref ca)])) (fun τ κ => XS.ifNo X623.here hx rfl (hb hby d3_30) rfl ((if0 _ _).trans (feq hc624).1) (XS.aloadN X623.here hx rfl (hb hby d3_33) rfl rfl κ)) ?_
  refine Gl.st (g' := (mkF m 36 #[vR a, vR ca, vI (0 : Int32), vI (3 : Int32), .val .null, .unset] [(.int (3 : Int32)), (.int (0 : Int32)), (.ref ca)])) (fun τ κ => XS.iloadN X623.here hx rfl (hb hby d3_34) rfl (XS.iloadN X623.here hx rfl (hb hby d3_35) rfl κ)) ?_
  obtain ⟨rv625, _, ⟨T625, L625, k625, n625⟩, -, X625, ⟨Lc625, hQ625, l625, y625, z625⟩, st625⟩ := Jvm.LawKit.callS X623 hx (y := (⟨"java/lang/StringUTF16", "compress", "([CII)[B"⟩ : MethodName)) hown (mvT hZ (w43_ hw)) (mvT hZ (w44_ hw)) (mvT hZ (w45_ hw)) (mvT hZ (w46_ hw)) (by decide) (backOf (W := 0) (rm8_3 l Z a0 hw [] ca kc c0 c1 c2 h0 n0 Z0 SA SH SL V0 hc0 hc1 hc2) hZ (w46_ hw) (w45_ hw) (by decide) (by decide)) (g := (mkF m 36 #[vR a, vR ca, vI (0 : Int32), vI (3 : Int32), .val .null, .unset] [(.int (3 : Int32)), (.int (0 : Int32)), (.ref ca)])) rfl (by rw [hml]; rfl) (argsL := [(.ref ca), (.int (0 : Int32)), (.int (3 : Int32))]) (rest := []) (lenOf pd_13 rfl) rfl (by show 2 * 0 + _ ≤ _; exact Nat.le_of_eq rfl) (hb hby d3_36) (fun _ _ => ⟨rfl, e623, (by decide : 0 + 2 ≤ _), (by decide : 0 + 9 ≤ _)⟩)
  dsimp only [Pt.U, Pt.locs, Pt.cells, Pt.slots] at X625 l625 y625 z625 st625 hQ625
  subst l625 y625 z625
  obtain ⟨b625, kk625, z, vs, rfl, N625q, Kc625, s625, V625, hb⟩ := hQ625
  have ne_ca_b625 : ca ≠ b625 := Nat.ne_of_lt (Nat.lt_of_lt_of_le V0.lt s625)
  have ne_a_b625 : a ≠ b625 := Nat.ne_of_lt (Nat.lt_of_lt_of_le E0.lt s625)
  have g_b625 : n0 ≤ b625 := Nat.le_trans Z0 s625
  have sz_b625 : h0.size ≤ b625 := Nat.le_trans (Keep.refl h0 [a]).1 s625
  have S_626 := Sta.keepX SA Kc625 all0
  have S_627 := Sta.keepX SH Kc625 all0
  have S_628 := Sta.keepX SL Kc625 all0
  have S_629 := Sta.keepX S0 Kc625 all0
  have V_630 := V0.keep Kc625 nin0
  have E_631 := E0.keep Kc625
  have F_632 := FV.keep Kc625 nin0
  have F_633 := FC.keep Kc625 nin0
  have N625 := Fr.app N0 N625q
  have Z625 : n0 ≤ T625.heap.size := Nat.le_trans Z0 Kc625.1
  have K625 : Keep h0 T625.heap [a] := (Keep.refl h0 [a]).trans Kc625 all0
  refine Gl.st (g' := (mkF m 39 #[vR a, vR ca, vI (0 : Int32), vI (3 : Int32), .val .null, .unset] [(.ref b625)])) (fun τ κ => st625 _ κ) ?_
  rcases hb with ⟨hz, hv⟩ | ⟨hz, hv⟩
  · -- coder 0
    obtain rfl : z = (3 : Int32) := hz
    refine Gl.st (g' := (mkF m 42 #[vR a, vR ca, vI (0 : Int32), vI (3 : Int32), .val .null, vR b625] [(.ref a)])) (fun τ κ => XS.astore X625.here hx rfl (hb hby d3_39) rfl rfl (l' := #[vR a, vR ca, vI (0 : Int32), vI (3 : Int32), .val .null, vR b625]) rfl (XS.aloadN X625.here hx rfl (hb hby d3_41) rfl rfl κ)) ?_
    refine Gl.st (g' := (mkF m 45 #[vR a, vR ca, vI (0 : Int32), vI (3 : Int32), .val .null, vR b625] [(.int (3 : Int32)), (.ref b625), (.ref a)])) (fun τ κ => XS.aload X625.here hx rfl (hb hby d3_42) rfl rfl (XS.iloadN X625.here hx rfl (hb hby d3_44) rfl κ)) ?_
    obtain ⟨rv634, _, ⟨T634, L634, k634, n634⟩, -, X634, ⟨Lc634, hQ634, l634, y634, z634⟩, st634⟩ := Jvm.LawKit.callS X625 hx (y := (⟨"java/lang/StringUTF16", "coderFromArrayLen", "([BI)B"⟩ : MethodName)) hown (mvT hZ (w50_ hw)) (mvT hZ (w51_ hw)) (mvT hZ (w45_ hw)) (mvT hZ (w52_ hw)) (by decide) (backOf (W := 1) (rm10_3_0 l Z a0 hw [] b625 kk625 vs T625.heap n0 Z625 V625) hZ (w52_ hw) (w45_ hw) (by decide) (by decide)) (g := (mkF m 45 #[vR a, vR ca, vI (0 : Int32), vI (3 : Int32), .val .null, vR b625] [(.int (3 : Int32)), (.ref b625), (.ref a)])) rfl (by rw [hml]; rfl) (argsL := [(.ref b625), (.int (3 : Int32))]) (rest := [(.ref a)]) (lenOf pd_14 rfl) rfl (by show 2 * 0 + _ ≤ _; exact Nat.le_of_eq rfl) (hb hby d3_45) (fun _ _ => ⟨rfl, rfl, (by decide : 2 + 0 ≤ _), (by decide : 9 + 0 ≤ _)⟩)
    dsimp only [Pt.U, Pt.locs, Pt.cells, Pt.slots] at X634 l634 y634 z634 st634 hQ634
    subst l634 y634 z634
    obtain ⟨hq634, N634q, e634⟩ := hQ634
    have hq634 : rv634 = some (.int (0 : Int32)) := hq634
    subst hq634
    have N634 := Fr.app N625 N634q
    refine Gl.st (g' := (mkF m 48 #[vR a, vR ca, vI (0 : Int32), vI (3 : Int32), .val .null, vR b625] [(.int (0 : Int32)), (.ref a)])) (fun τ κ => st634 _ κ) ?_
    obtain ⟨T635, h635, X635, e635, W635, st635⟩ := putFN X634 hx hZ hown (w27_ hw) Via.refl e634 F_633 E_631 (Or.inr ⟨(w23_ hw), rfl, hnm⟩) (w7_ hw) (ty := .byte) (v' := (.int (0 : Int32))) (by decide) rfl rfl (g := (mkF m 48 #[vR a, vR ca, vI (0 : Int32), vI (3 : Int32), .val .null, vR b625] [(.int (0 : Int32)), (.ref a)])) rfl rfl (hb hby d3_48)
    have S_636 := S_626.wr W635
    have S_637 := S_627.wr W635
    have S_638 := S_628.wr W635
    have S_639 := S_629.wr W635
    have V_640 := V_630.other W635 (Ne.symm hac)
    have E_641 := E_631.wr W635
    have F_642 := F_632.other W635 (Or.inr (slot_ne (Or.inr (w22_ hw)) (Or.inr (w23_ hw)) (by decide) (t := (.array .byte)) (t' := .byte) (by decide) (by decide)))
    have V_644 := V625.other W635 (Ne.symm ne_a_b625)
    have N635 := Fr.snoc X635 N634 g0
    have Z635 : n0 ≤ h635.size := Nat.le_trans Z625 (Nat.le_of_eq W635.size.symm)
    have K635 : Keep h0 h635 [a] := K625.wr W635 (Or.inl (List.mem_of_getElem? (i := 0) rfl))
    have F_645 := F_633.same W635
    refine Gl.st (g' := (mkF m 51 #[vR a, vR ca, vI (0 : Int32), vI (3 : Int32), .val .null, vR b625] [])) (fun τ κ => st635 _ κ) ?_
    refine Gl.st (g' := (mkF m 54 #[vR a, vR ca, vI (0 : Int32), vI (3 : Int32), .val .null, vR b625] [(.ref b625), (.ref a)])) (fun τ κ => XS.aloadN X635.here hx rfl (hb hby d3_51) rfl rfl (XS.aload X635.here hx rfl (hb hby d3_52) rfl rfl κ)) ?_
    obtain ⟨T646, h646, X646, e646, W646, st646⟩ := putF X635 hx hZ hown (host := "") (Or.inl (w26_ hw)) Via.refl e635 F_642 E_641 (Or.inr ⟨(w22_ hw), rfl, hnm⟩) (w7_ hw) (ty := (.array .byte)) (by decide) rfl rfl (g := (mkF m 54 #[vR a, vR ca, vI (0 : Int32), vI (3 : Int32), .val .null, vR b625] [(.ref b625), (.ref a)])) rfl rfl (hb hby d3_54)
    have S_647 := S_636.wr W646
    have S_648 := S_637.wr W646
    have S_649 := S_638.wr W646
    have S_650 := S_639.wr W646
    have V_651 := V_640.other W646 (Ne.symm hac)
    have E_652 := E_641.wr W646
    have F_654 := F_645.other W646 (Or.inr (slot_ne (Or.inr (w23_ hw)) (Or.inr (w22_ hw)) (by decide) (t := .byte) (t' := (.array .byte)) (by decide) (by decide)))
    have V_655 := V_644.other W646 (Ne.symm ne_a_b625)
    have N646 := Fr.snoc X646 N635 g0
    have Z646 : n0 ≤ h646.size := Nat.le_trans Z635 (Nat.le_of_eq W646.size.symm)
    have K646 : Keep h0 h646 [a] := K635.wr W646 (Or.inl (List.mem_of_getElem? (i := 0) rfl))
    have F_656 := F_642.same W646
    refine Gl.st (g' := (mkF m 57 #[vR a, vR ca, vI (0 : Int32), vI (3 : Int32), .val .null, vR b625] [])) (fun τ κ => st646 _ κ) ?_
    exact Gl.ret (v := none) X646 Bd.notSynchronized (fun _ => rfl) e646 (fun fs hr => X646.returnOut hx Bd.returns (hb hby d3_57) hr) (by decide) (by decide) ⟨rfl, N646, K646, E_652, by unfold own_small; decide, (fun i hi => match i, hi with | 0, _ => hc0 | 1, _ => hc1 | 2, _ => hc2 | (i + 3), hi => absurd hi (Nat.not_lt.mpr (Nat.le_add_left 3 _))), b625, kk625, _, _, F_656, V_655, Or.inl ⟨F_654, rfl, hv⟩⟩
  · -- coder 1
    obtain rfl : z = (6 : Int32) := hz.trans (by decide)
    refine Gl.st (g' := (mkF m 42 #[vR a, vR ca, vI (0 : Int32), vI (3 : Int32), .val .null, vR b625] [(.ref a)])) (fun τ κ => XS.astore X625.here hx rfl (hb hby d3_39) rfl rfl (l' := #[vR a, vR ca, vI (0 : Int32), vI (3 : Int32), .val .null, vR b625]) rfl (XS.aloadN X625.here hx rfl (hb hby d3_41) rfl rfl κ)) ?_
    refine Gl.st (g' := (mkF m 45 #[vR a, vR ca, vI (0 : Int32), vI (3 : Int32), .val .null, vR b625] [(.int (3 : Int32)), (.ref b625), (.ref a)])) (fun τ κ => XS.aload X625.here hx rfl (hb hby d3_42) rfl rfl (XS.iloadN X625.here hx rfl (hb hby d3_44) rfl κ)) ?_
    obtain ⟨rv657, _, ⟨T657, L657, k657, n657⟩, -, X657, ⟨Lc657, hQ657, l657, y657, z657⟩, st657⟩ := Jvm.LawKit.callS X625 hx (y := (⟨"java/lang/StringUTF16", "coderFromArrayLen", "([BI)B"⟩ : MethodName)) hown (mvT hZ (w50_ hw)) (mvT hZ (w51_ hw)) (mvT hZ (w45_ hw)) (mvT hZ (w52_ hw)) (by decide) (backOf (W := 1) (rm10_3_1 l Z a0 hw [] b625 kk625 vs T625.heap n0 Z625 V625) hZ (w52_ hw) (w45_ hw) (by decide) (by decide)) (g := (mkF m 45 #[vR a, vR ca, vI (0 : Int32), vI (3 : Int32), .val .null, vR b625] [(.int (3 : Int32)), (.ref b625), (.ref a)])) rfl (by rw [hml]; rfl) (argsL := [(.ref b625), (.int (3 : Int32))]) (rest := [(.ref a)]) (lenOf pd_14 rfl) rfl (by show 2 * 0 + _ ≤ _; exact Nat.le_of_eq rfl) (hb hby d3_45) (fun _ _ => ⟨rfl, rfl, (by decide : 2 + 0 ≤ _), (by decide : 9 + 0 ≤ _)⟩)
    dsimp only [Pt.U, Pt.locs, Pt.cells, Pt.slots] at X657 l657 y657 z657 st657 hQ657
    subst l657 y657 z657
    obtain ⟨hq657, N657q, e657⟩ := hQ657
    have hq657 : rv657 = some (.int (1 : Int32)) := hq657
    subst hq657
    have N657 := Fr.app N625 N657q
    refine Gl.st (g' := (mkF m 48 #[vR a, vR ca, vI (0 : Int32), vI (3 : Int32), .val .null, vR b625] [(.int (1 : Int32)), (.ref a)])) (fun τ κ => st657 _ κ) ?_
    obtain ⟨T658, h658, X658, e658, W658, st658⟩ := putFN X657 hx hZ hown (w27_ hw) Via.refl e657 F_633 E_631 (Or.inr ⟨(w23_ hw), rfl, hnm⟩) (w7_ hw) (ty := .byte) (v' := (.int (1 : Int32))) (by decide) rfl rfl (g := (mkF m 48 #[vR a, vR ca, vI (0 : Int32), vI (3 : Int32), .val .null, vR b625] [(.int (1 : Int32)), (.ref a)])) rfl rfl (hb hby d3_48)
    have S_659 := S_626.wr W658
    have S_660 := S_627.wr W658
    have S_661 := S_628.wr W658
    have S_662 := S_629.wr W658
    have V_663 := V_630.other W658 (Ne.symm hac)
    have E_664 := E_631.wr W658
    have F_665 := F_632.other W658 (Or.inr (slot_ne (Or.inr (w22_ hw)) (Or.inr (w23_ hw)) (by decide) (t := (.array .byte)) (t' := .byte) (by decide) (by decide)))
    have V_667 := V625.other W658 (Ne.symm ne_a_b625)
    have N658 := Fr.snoc X658 N657 g0
    have Z658 : n0 ≤ h658.size := Nat.le_trans Z625 (Nat.le_of_eq W658.size.symm)
    have K658 : Keep h0 h658 [a] := K625.wr W658 (Or.inl (List.mem_of_getElem? (i := 0) rfl))
    have F_668 := F_633.same W658
    refine Gl.st (g' := (mkF m 51 #[vR a, vR ca, vI (0 : Int32), vI (3 : Int32), .val .null, vR b625] [])) (fun τ κ => st658 _ κ) ?_
    refine Gl.st (g' := (mkF m 54 #[vR a, vR ca, vI (0 : Int32), vI (3 : Int32), .val .null, vR b625] [(.ref b625), (.ref a)])) (fun τ κ => XS.aloadN X658.here hx rfl (hb hby d3_51) rfl rfl (XS.aload X658.here hx rfl (hb hby d3_52) rfl rfl κ)) ?_
    obtain ⟨T669, h669, X669, e669, W669, st669⟩ := putF X658 hx hZ hown (host := "") (Or.inl (w26_ hw)) Via.refl e658 F_665 E_664 (Or.inr ⟨(w22_ hw), rfl, hnm⟩) (w7_ hw) (ty := (.array .byte)) (by decide) rfl rfl (g := (mkF m 54 #[vR a, vR ca, vI (0 : Int32), vI (3 : Int32), .val .null, vR b625] [(.ref b625), (.ref a)])) rfl rfl (hb hby d3_54)
    have S_670 := S_659.wr W669
    have S_671 := S_660.wr W669
    have S_672 := S_661.wr W669
    have S_673 := S_662.wr W669
    have V_674 := V_663.other W669 (Ne.symm hac)
    have E_675 := E_664.wr W669
    have F_677 := F_668.other W669 (Or.inr (slot_ne (Or.inr (w23_ hw)) (Or.inr (w22_ hw)) (by decide) (t := .byte) (t' := (.array .byte)) (by decide) (by decide)))
    have V_678 := V_667.other W669 (Ne.symm ne_a_b625)
    have N669 := Fr.snoc X669 N658 g0
    have Z669 : n0 ≤ h669.size := Nat.le_trans Z658 (Nat.le_of_eq W669.size.symm)
    have K669 : Keep h0 h669 [a] := K658.wr W669 (Or.inl (List.mem_of_getElem? (i := 0) rfl))
    have F_679 := F_665.same W669
    refine Gl.st (g' := (mkF m 57 #[vR a, vR ca, vI (0 : Int32), vI (3 : Int32), .val .null, vR b625] [])) (fun τ κ => st669 _ κ) ?_
    exact Gl.ret (v := none) X669 Bd.notSynchronized (fun _ => rfl) e669 (fun fs hr => X669.returnOut hx Bd.returns (hb hby d3_57) hr) (by decide) (by decide) ⟨rfl, N669, K669, E_675, by unfold own_small; decide, (fun i hi => match i, hi with | 0, _ => hc0 | 1, _ => hc1 | 2, _ => hc2 | (i + 3), hi => absurd hi (Nat.not_lt.mpr (Nat.le_add_left 3 _))), b625, kk625, _, _, F_679, V_678, Or.inr ⟨F_677, by decide, hv⟩⟩
theorem ef_rm2_3 (m : MethodId) (a : Addr) (ca : Addr) : entryFrame m #[(.ref a), (.ref ca)] 2 = mkF m 0 #[vR a, vR ca] [] := by first | (simp [entryFrame, mkF, argsToLocals, Value.category]; done) | rfl
def Q_rm2_3 (Z : State) (a : Addr) (ca : Addr) (kc : ClassId) (cs : Int32) (c0 c1 c2 : Int32) (h0 : Heap) (n0 : Nat) (v : Option Value) (h : Heap) (L : List Loc) : Prop := v = none ∧ Fr n0 L ∧ Keep h0 h [a] ∧ own_str Z h a (3 : Int32) [c0, c1, c2]
set_option maxRecDepth 65536 in
set_option maxHeartbeats 40000000 in
theorem rm2_3 (l : Launch) (Z : State) (a0 : Array Value) (hw : ∀ d ∈ tables_1, d.before a0 Z = true) (ws : List Jvm.Cond) (a : Addr) (ca : Addr) (kc : ClassId) (cs : Int32) (c0 c1 c2 : Int32) (h0 : Heap) (n0 : Nat) (Z0 : n0 ≤ h0.size) (E0 : Exa Z h0 a "java/lang/String") (g0 : n0 ≤ a) (FV : Fld Z h0 a "java/lang/String" "value" "[B" .null) (FC : Fld Z h0 a "java/lang/String" "coder" "B" (.int (0 : Int32))) (hac : a ≠ ca) (S0 : Sta Z h0 "java/lang/String" "COMPACT_STRINGS" "Z" (.int cs)) (hcs : ¬ cs = (0 : Int32)) (SA : Sta Z h0 "java/lang/StringUTF16" "$assertionsDisabled" "Z" (.int (1 : Int32))) (SH : Sta Z h0 "java/lang/StringUTF16" "HI_BYTE_SHIFT" "I" (.int (0 : Int32))) (SL : Sta Z h0 "java/lang/StringUTF16" "LO_BYTE_SHIFT" "I" (.int (8 : Int32))) (V0 : Arv Z h0 ca kc .char (3 : Int32) [(.int c0), (.int c1), (.int c2)] (.int (0 : Int32))) (hc0 : own_ch c0) (hc1 : own_ch c1) (hc2 : own_ch c2) :
    MetFree l (⟨"java/lang/String", "<init>", "([C)V"⟩ : MethodName) (head1 (Jvm.Cond.code (⟨"java/lang/String", "<init>", "([C)V"⟩ : MethodName) jdk_42_method_3_code 2 none :: ws) ({ frames := 5, cells := 2, slots := 9, locals := 74 } : Room)) (fun aα Uα => aα = #[(.ref a), (.ref ca)] ∧ Z.Warmed39 Uα.vm ∧ Uα.heap = h0) (fun _ _ _ _ _ => True) (fun _ Uα oα Uβ => ∃ vα Lα, oα = .returned vα ∧ Q_rm2_3 Z a ca kc cs c0 c1 c2 h0 n0 vα Uβ.heap Lα ∧ FrameEnd Uα oα Uβ Lα ({ frames := 5, cells := 2, slots := 9, locals := 74 } : Room).cells ({ frames := 5, cells := 2, slots := 9, locals := 74 } : Room).slots) := by
  refine MetFree.of_bodySF (plainFor_of_name pn_java_lang_String) hisR ?_
  intro p e s m args below meth c s₁ Bd hml0 hP hKα
  obtain ⟨rfl, hZ, hh⟩ := hP
  have hx := Bd.exec
  have hby := Bd.bytes
  have hml : c.maxLocals = 2 := hml0
  have hown : s.vm.findClass "java/lang/String" = some m.cls := findClass_of_methodNamed Bd.named
  have hnm := (name_of_methodNamed Bd.named Bd.method).1
  have X0 : Stand p l e ({ frames := 5, cells := 2, slots := 9, locals := 74 } : Room) s m #[(.ref a), (.ref ca)] below meth c s₁ [] 0 0 := Stand.of_body Bd
  have e0 : s₁.heap = h0 := by rw [← hh, Bd.state]; rfl
  have N0 := Fr.nil n0
  suffices k0 : Gl p e below s (Q_rm2_3 Z a ca kc cs c0 c1 c2 h0 n0) ({ frames := 5, cells := 2, slots := 9, locals := 74 } : Room).cells ({ frames := 5, cells := 2, slots := 9, locals := 74 } : Room).slots s₁ (mkF m 0 #[vR a, vR ca] []) from Gl.st (fun τ κ => castTop (ef_rm2_3 m a ca) κ) k0
  refine Gl.st (g' := (mkF m 2 #[vR a, vR ca] [(.ref ca), (.ref a)])) (fun τ κ => XS.aloadN X0.here hx rfl (hb hby d2_0) rfl rfl (XS.aloadN X0.here hx rfl (hb hby d2_1) rfl rfl κ)) ?_
  refine Gl.st (g' := (mkF m 4 #[vR a, vR ca] [(.ref ca), (.int (0 : Int32)), (.ref ca), (.ref a)])) (fun τ κ => XS.iconst X0.here hx rfl (hb hby d2_2) (XS.aloadN X0.here hx rfl (hb hby d2_3) rfl rfl κ)) ?_
  obtain ⟨cl_o680, Ar_o680, q_o680, S_o680, M_o680, H_o680, G_o680⟩ := id V0
  refine Gl.st (g' := (mkF m 5 #[vR a, vR ca] [(.int (3 : Int32)), (.int (0 : Int32)), (.ref ca), (.ref a)])) (fun τ κ => X0.arraylength hx (by rw [e0]; exact Ar_o680.1) (State.isArrayOf_alike hZ.alike Ar_o680.2.1) (g := (mkF m 4 #[vR a, vR ca] [(.ref ca), (.int (0 : Int32)), (.ref ca), (.ref a)])) rfl rfl (hb hby d2_4) _ (by rw [len_of S_o680 M_o680]; exact κ)) ?_
  refine Gl.st (g' := (mkF m 6 #[vR a, vR ca] [.null, (.int (3 : Int32)), (.int (0 : Int32)), (.ref ca), (.ref a)])) (fun τ κ => XS.aconstNull X0.here hx rfl (hb hby d2_5) κ) ?_
  obtain ⟨rv681, _, ⟨T681, L681, k681, n681⟩, -, X681, ⟨Lc681, hQ681, l681, y681, z681⟩, st681⟩ := X0.specialBack hx (y := (⟨"java/lang/String", "<init>", "([CIILjava/lang/Void;)V"⟩ : MethodName)) rfl hown (mvT hZ (w13_ hw)) (mvT hZ (w14_ hw)) (mvT hZ (w16_ hw)) (by decide) (backOf (W := 0) (rm3_3 l Z a0 hw [] a ca kc cs c0 c1 c2 h0 n0 Z0 E0 g0 FV FC hac S0 hcs SA SH SL V0 hc0 hc1 hc2) hZ (w16_ hw) (w8_ hw) (by decide) (by decide)) (g := (mkF m 6 #[vR a, vR ca] [.null, (.int (3 : Int32)), (.int (0 : Int32)), (.ref ca), (.ref a)])) rfl (by rw [hml]; rfl) (Steps.refl _) (a := a) (argsL := [(.ref ca), (.int (0 : Int32)), (.int (3 : Int32)), .null]) (rest := []) (lenOf pd_15 rfl) rfl (by show 2 * 0 + _ ≤ _; exact Nat.le_of_eq rfl) (hb hby d2_6) (fun _ _ => ⟨rfl, e0, (by decide : 0 + 2 ≤ _), (by decide : 0 + 9 ≤ _)⟩)
  dsimp only [Pt.U, Pt.locs, Pt.cells, Pt.slots] at X681 l681 y681 z681 st681 hQ681
  subst l681 y681 z681
  obtain ⟨rfl, N681q, Kc681, HS681⟩ := hQ681
  have S_682 := Sta.keepX SA Kc681 (allS (P := fun x => ∃ c : Cell, h0[x]? = some c ∧ ∀ q, c.vm ≠ .statics q) E0.cell all0)
  have S_683 := Sta.keepX SH Kc681 (allS (P := fun x => ∃ c : Cell, h0[x]? = some c ∧ ∀ q, c.vm ≠ .statics q) E0.cell all0)
  have S_684 := Sta.keepX SL Kc681 (allS (P := fun x => ∃ c : Cell, h0[x]? = some c ∧ ∀ q, c.vm ≠ .statics q) E0.cell all0)
  have S_685 := Sta.keepX S0 Kc681 (allS (P := fun x => ∃ c : Cell, h0[x]? = some c ∧ ∀ q, c.vm ≠ .statics q) E0.cell all0)
  have E_686 := E0.keep Kc681
  have N681 := Fr.app N0 N681q
  have Z681 : n0 ≤ T681.heap.size := Nat.le_trans Z0 Kc681.1
  have K681 : Keep h0 T681.heap [a] := (Keep.refl h0 [a]).trans Kc681 (allS (Or.inl (List.mem_of_getElem? (i := 0) rfl)) all0)
  refine Gl.st (g' := (mkF m 9 #[vR a, vR ca] [])) (fun τ κ => st681.trans κ) ?_
  exact Gl.ret (v := none) X681 Bd.notSynchronized (fun _ => rfl) rfl (fun fs hr => X681.returnOut hx Bd.returns (hb hby d2_9) hr) (by decide) (by decide) ⟨rfl, N681, K681, HS681⟩
theorem d1_59 : decode method_4_code 59 = .ok (.iload_n 0, 1) := by decide +kernel
theorem d1_60 : decode method_4_code 60 = .ok (.iconst 3, 1) := by decide +kernel
theorem d1_61 : decode method_4_code 61 = .ok (.if_icmp .ne 26, 3) := by decide +kernel
theorem d1_64 : decode method_4_code 64 = .ok (.new 25, 3) := by decide +kernel
theorem d1_67 : decode method_4_code 67 = .ok (.dup, 1) := by decide +kernel
theorem d1_68 : decode method_4_code 68 = .ok (.iconst 3, 1) := by decide +kernel
theorem d1_69 : decode method_4_code 69 = .ok (.newarray .char, 2) := by decide +kernel
theorem d1_71 : decode method_4_code 71 = .ok (.dup, 1) := by decide +kernel
theorem d1_72 : decode method_4_code 72 = .ok (.iconst 0, 1) := by decide +kernel
theorem d1_73 : decode method_4_code 73 = .ok (.iload_n 1, 1) := by decide +kernel
theorem d1_74 : decode method_4_code 74 = .ok (.castore, 1) := by decide +kernel
theorem d1_75 : decode method_4_code 75 = .ok (.dup, 1) := by decide +kernel
theorem d1_76 : decode method_4_code 76 = .ok (.iconst 1, 1) := by decide +kernel
theorem d1_77 : decode method_4_code 77 = .ok (.iload_n 2, 1) := by decide +kernel
theorem d1_78 : decode method_4_code 78 = .ok (.castore, 1) := by decide +kernel
theorem d1_79 : decode method_4_code 79 = .ok (.dup, 1) := by decide +kernel
theorem d1_80 : decode method_4_code 80 = .ok (.iconst 2, 1) := by decide +kernel
theorem d1_81 : decode method_4_code 81 = .ok (.iload_n 3, 1) := by decide +kernel
theorem d1_82 : decode method_4_code 82 = .ok (.castore, 1) := by decide +kernel
theorem d1_83 : decode method_4_code 83 = .ok (.invokespecial 27, 3) := by decide +kernel
theorem d1_86 : decode method_4_code 86 = .ok (.areturn, 1) := by decide +kernel
theorem ef_rm1_3 (m : MethodId) (c0 : Int32) (c1 : Int32) (c2 : Int32) (c3 : Int32) : entryFrame m #[(.int (3 : Int32)), (.int c0), (.int c1), (.int c2), (.int c3)] 5 = mkF m 0 #[vI (3 : Int32), vI c0, vI c1, vI c2, vI c3] [] := by first | (simp [entryFrame, mkF, argsToLocals, Value.category]; done) | rfl
def Q_rm1_3 (Z : State) (c0 : Int32) (c1 : Int32) (c2 : Int32) (c3 : Int32) (cs : Int32) (h0 : Heap) (n0 : Nat) (v : Option Value) (h : Heap) (L : List Loc) : Prop := ∃ b, v = some (.ref b) ∧ Fr n0 L ∧ Keep h0 h [] ∧ own_str Z h b (3 : Int32) [c0, c1, c2]
set_option maxRecDepth 65536 in
set_option maxHeartbeats 40000000 in
theorem rm1_3 (l : Launch) (Z : State) (a0 : Array Value) (hw : ∀ d ∈ tables_1, d.before a0 Z = true) (ws : List Jvm.Cond) (c0 : Int32) (c1 : Int32) (c2 : Int32) (c3 : Int32) (cs : Int32) (h0 : Heap) (n0 : Nat) (Z0 : n0 ≤ h0.size) (S0 : Sta Z h0 "java/lang/String" "COMPACT_STRINGS" "Z" (.int cs)) (hcs : ¬ cs = (0 : Int32)) (SA : Sta Z h0 "java/lang/StringUTF16" "$assertionsDisabled" "Z" (.int (1 : Int32))) (SH : Sta Z h0 "java/lang/StringUTF16" "HI_BYTE_SHIFT" "I" (.int (0 : Int32))) (SL : Sta Z h0 "java/lang/StringUTF16" "LO_BYTE_SHIFT" "I" (.int (8 : Int32))) (hc0 : own_ch c0) (hc1 : own_ch c1) (hc2 : own_ch c2) (hc3 : own_ch c3) :
    MetFree l (⟨"com/example/sealgrant/sealgrant/AsciiPrintablePinLaw", "make", "(ICCCC)Ljava/lang/String;"⟩ : MethodName) (head1 (Jvm.Cond.code (⟨"com/example/sealgrant/sealgrant/AsciiPrintablePinLaw", "make", "(ICCCC)Ljava/lang/String;"⟩ : MethodName) method_4_code 5 (some (.object "java/lang/String")) :: ws) ({ frames := 6, cells := 4, slots := 16, locals := 88 } : Room)) (fun aα Uα => aα = #[(.int (3 : Int32)), (.int c0), (.int c1), (.int c2), (.int c3)] ∧ Z.Warmed39 Uα.vm ∧ Uα.heap = h0) (fun _ _ _ _ _ => True) (fun _ Uα oα Uβ => ∃ vα Lα, oα = .returned vα ∧ Q_rm1_3 Z c0 c1 c2 c3 cs h0 n0 vα Uβ.heap Lα ∧ FrameEnd Uα oα Uβ Lα ({ frames := 6, cells := 4, slots := 16, locals := 88 } : Room).cells ({ frames := 6, cells := 4, slots := 16, locals := 88 } : Room).slots) := by
  refine MetFree.of_bodySF (plainFor_of_name pn_com_example_sealgrant_sealgrant_AsciiPrintablePinLaw) hisR ?_
  intro p e s m args below meth c s₁ Bd hml0 hP hKα
  obtain ⟨rfl, hZ, hh⟩ := hP
  have hx := Bd.exec
  have hby := Bd.bytes
  have hml : c.maxLocals = 5 := hml0
  have hown : s.vm.findClass "com/example/sealgrant/sealgrant/AsciiPrintablePinLaw" = some m.cls := findClass_of_methodNamed Bd.named
  have hnm := (name_of_methodNamed Bd.named Bd.method).1
  have X0 : Stand p l e ({ frames := 6, cells := 4, slots := 16, locals := 88 } : Room) s m #[(.int (3 : Int32)), (.int c0), (.int c1), (.int c2), (.int c3)] below meth c s₁ [] 0 0 := Stand.of_body Bd
  have e0 : s₁.heap = h0 := by rw [← hh, Bd.state]; rfl
  have N0 := Fr.nil n0
  suffices k0 : Gl p e below s (Q_rm1_3 Z c0 c1 c2 c3 cs h0 n0) ({ frames := 6, cells := 4, slots := 16, locals := 88 } : Room).cells ({ frames := 6, cells := 4, slots := 16, locals := 88 } : Room).slots s₁ (mkF m 0 #[vI (3 : Int32), vI c0, vI c1, vI c2, vI c3] []) from Gl.st (fun τ κ => castTop (ef_rm1_3 m c0 c1 c2 c3) κ) k0
  refine Gl.st (g' := (mkF m 1 #[vI (3 : Int32), vI c0, vI c1, vI c2, vI c3] [(.int (3 : Int32))])) (fun τ κ => XS.iloadN X0.here hx rfl (hb hby d1_0) rfl κ) ?_
  have hc689 : ¬ ((3 : Int32) = (0 : Int32)) := by decide
  refine Gl.st (g' := (mkF m 16 #[vI (3 : Int32), vI c0, vI c1, vI c2, vI c3] [(.int (3 : Int32))])) (fun τ κ => XS.ifYes X0.here hx rfl (pc0 := 1) (pc' := 15) rfl (hb hby d1_1) rfl ((if0 _ _).trans (feq hc689).2) (by decide) (by decide) (XS.iloadN X0.here hx rfl (hb hby d1_15) rfl κ)) ?_
  refine Gl.st (g' := (mkF m 17 #[vI (3 : Int32), vI c0, vI c1, vI c2, vI c3] [(.int (1 : Int32)), (.int (3 : Int32))])) (fun τ κ => XS.iconst X0.here hx rfl (hb hby d1_16) κ) ?_
  have hc690 : ¬ ((3 : Int32) = (1 : Int32)) := by decide
  refine Gl.st (g' := (mkF m 36 #[vI (3 : Int32), vI c0, vI c1, vI c2, vI c3] [(.int (3 : Int32))])) (fun τ κ => XS.icmpYes X0.here hx rfl (pc0 := 17) (pc' := 35) rfl (hb hby d1_17) rfl (feq hc690).2 (by decide) (by decide) (XS.iloadN X0.here hx rfl (hb hby d1_35) rfl κ)) ?_
  refine Gl.st (g' := (mkF m 37 #[vI (3 : Int32), vI c0, vI c1, vI c2, vI c3] [(.int (2 : Int32)), (.int (3 : Int32))])) (fun τ κ => XS.iconst X0.here hx rfl (hb hby d1_36) κ) ?_
  have hc691 : ¬ ((3 : Int32) = (2 : Int32)) := by decide
  refine Gl.st (g' := (mkF m 60 #[vI (3 : Int32), vI c0, vI c1, vI c2, vI c3] [(.int (3 : Int32))])) (fun τ κ => XS.icmpYes X0.here hx rfl (pc0 := 37) (pc' := 59) rfl (hb hby d1_37) rfl (feq hc691).2 (by decide) (by decide) (XS.iloadN X0.here hx rfl (hb hby d1_59) rfl κ)) ?_
  refine Gl.st (g' := (mkF m 61 #[vI (3 : Int32), vI c0, vI c1, vI c2, vI c3] [(.int (3 : Int32)), (.int (3 : Int32))])) (fun τ κ => XS.iconst X0.here hx rfl (hb hby d1_60) κ) ?_
  have hc692 : (3 : Int32) = (3 : Int32) := by decide
  refine Gl.st (g' := (mkF m 64 #[vI (3 : Int32), vI c0, vI c1, vI c2, vI c3] [])) (fun τ κ => XS.icmpNo X0.here hx rfl (hb hby d1_61) rfl (teq hc692).2 κ) ?_
  obtain ⟨T693, h693, X693, e693, E693, A693, D693, -, st693⟩ := newO X0 hx hZ hown (w6_ hw) (w7_ hw) (w8_ hw) e0 (g := (mkF m 64 #[vI (3 : Int32), vI c0, vI c1, vI c2, vI c3] [])) rfl (hb hby d1_64) (by decide) (by decide)
  obtain ⟨b693, g693⟩ : ∃ z, z = h0.size := ⟨_, rfl⟩
  rw [← g693] at A693 D693 st693
  have S_694 := SA.ext E693
  have S_695 := SH.ext E693
  have S_696 := SL.ext E693
  have S_697 := S0.ext E693
  have g_b693 : n0 ≤ b693 := Nat.le_trans Z0 (Nat.le_of_eq g693.symm)
  have sz_b693 : h0.size ≤ b693 := Nat.le_trans (Keep.refl h0 []).1 (Nat.le_of_eq g693.symm)
  have Z693 : n0 ≤ h693.size := Nat.le_trans Z0 E693.1
  have K693 : Keep h0 h693 [] := (Keep.refl h0 []).ext E693
  have F_698 : Fld Z h693 b693 "java/lang/String" "value" "[B" .null := D693 (Or.inr (w22_ hw)) (ty := (.array .byte)) (by decide)
  have F_699 : Fld Z h693 b693 "java/lang/String" "coder" "B" (.int (0 : Int32)) := D693 (Or.inr (w23_ hw)) (ty := .byte) (by decide)
  refine Gl.st (g' := (mkF m 67 #[vI (3 : Int32), vI c0, vI c1, vI c2, vI c3] [(.ref b693)])) (fun τ κ => st693 _ κ) ?_
  refine Gl.st (g' := (mkF m 69 #[vI (3 : Int32), vI c0, vI c1, vI c2, vI c3] [(.int (3 : Int32)), (.ref b693), (.ref b693)])) (fun τ κ => XS.dup X693.here hx rfl (hb hby d1_67) rfl rfl (XS.iconst X693.here hx rfl (hb hby d1_68) κ)) ?_
  obtain ⟨T700, h700, k700, X700, e700, E700, A700, st700⟩ := newP X693 hx hZ (hw _ (List.mem_of_getElem? (i := 9) rfl)) e693 (g := (mkF m 69 #[vI (3 : Int32), vI c0, vI c1, vI c2, vI c3] [(.int (3 : Int32)), (.ref b693), (.ref b693)])) rfl (hb hby d1_69) rfl (by decide) (cap := 3) (by decide) (by decide) (by decide) (by decide)
  obtain ⟨b700, g700⟩ : ∃ z, z = h693.size := ⟨_, rfl⟩
  rw [← g700] at A700 st700
  have ne_b693_b700 : b693 ≠ b700 := Nat.ne_of_lt (Nat.lt_of_lt_of_le A693.lt (Nat.le_of_eq g700.symm))
  have S_701 := S_694.ext E700
  have S_702 := S_695.ext E700
  have S_703 := S_696.ext E700
  have S_704 := S_697.ext E700
  have E_705 := A693.ext E700
  have F_706 := F_698.ext E700
  have F_707 := F_699.ext E700
  have g_b700 : n0 ≤ b700 := Nat.le_trans Z693 (Nat.le_of_eq g700.symm)
  have sz_b700 : h0.size ≤ b700 := Nat.le_trans K693.1 (Nat.le_of_eq g700.symm)
  have Z700 : n0 ≤ h700.size := Nat.le_trans Z693 E700.1
  have K700 : Keep h0 h700 [] := K693.ext E700
  have V_b700 : Arv Z h700 b700 k700 .char (3 : Int32) [(.int (0 : Int32)), (.int (0 : Int32)), (.int (0 : Int32))] (.int (0 : Int32)) := (Arv.new A700 (by decide)).pad (pad_rep [] (.int (0 : Int32)) 3)
  refine Gl.st (g' := (mkF m 71 #[vI (3 : Int32), vI c0, vI c1, vI c2, vI c3] [(.ref b700), (.ref b693), (.ref b693)])) (fun τ κ => st700 _ κ) ?_
  refine Gl.st (g' := (mkF m 73 #[vI (3 : Int32), vI c0, vI c1, vI c2, vI c3] [(.int (0 : Int32)), (.ref b700), (.ref b700), (.ref b693), (.ref b693)])) (fun τ κ => XS.dup X700.here hx rfl (hb hby d1_71) rfl rfl (XS.iconst X700.here hx rfl (hb hby d1_72) κ)) ?_
  refine Gl.st (g' := (mkF m 74 #[vI (3 : Int32), vI c0, vI c1, vI c2, vI c3] [(.int c0), (.int (0 : Int32)), (.ref b700), (.ref b700), (.ref b693), (.ref b693)])) (fun τ κ => XS.iloadN X700.here hx rfl (hb hby d1_73) rfl κ) ?_
  obtain ⟨cl_o708, Ar_o708, q_o708, S_o708, M_o708, H_o708, G_o708⟩ := id V_b700
  have hin_o708 : ¬ ((0 : Int32) < 0 ∨ cl_o708.slots.size ≤ ((0 : Int32)).toNatClampNeg) := inb_of S_o708 ⟨by decide, by decide⟩
  obtain ⟨T709, h709, X709, e709, W709, st709⟩ := stC X700 hx hZ e700 Ar_o708 (j := (0 : Int32)) hin_o708 (g := (mkF m 74 #[vI (3 : Int32), vI c0, vI c1, vI c2, vI c3] [(.int c0), (.int (0 : Int32)), (.ref b700), (.ref b700), (.ref b693), (.ref b693)])) rfl rfl (hb hby d1_74)
  have S_710 := S_701.wr W709
  have S_711 := S_702.wr W709
  have S_712 := S_703.wr W709
  have S_713 := S_704.wr W709
  have E_714 := E_705.wr W709
  have F_715 := F_706.other W709 (Or.inl ne_b693_b700)
  have F_716 := F_707.other W709 (Or.inl ne_b693_b700)
  have N709 := Fr.snoc X709 N0 g_b700
  have Z709 : n0 ≤ h709.size := Nat.le_trans Z700 (Nat.le_of_eq W709.size.symm)
  have K709 : Keep h0 h709 [] := K700.wr W709 (Or.inr sz_b700)
  have V_b700_709 : Arv Z h709 b700 k700 .char (3 : Int32) [(.int (nar .char c0)), (.int (0 : Int32)), (.int (0 : Int32))] (.int (0 : Int32)) := Arv.set Ar_o708 q_o708 S_o708 M_o708 H_o708 G_o708 (fits_nar_char _) W709 0 rfl (Nat.le_of_ble_eq_true rfl)
  rw [own_narC hc0] at V_b700_709
  refine Gl.st (g' := (mkF m 75 #[vI (3 : Int32), vI c0, vI c1, vI c2, vI c3] [(.ref b700), (.ref b693), (.ref b693)])) (fun τ κ => st709 _ κ) ?_
  refine Gl.st (g' := (mkF m 77 #[vI (3 : Int32), vI c0, vI c1, vI c2, vI c3] [(.int (1 : Int32)), (.ref b700), (.ref b700), (.ref b693), (.ref b693)])) (fun τ κ => XS.dup X709.here hx rfl (hb hby d1_75) rfl rfl (XS.iconst X709.here hx rfl (hb hby d1_76) κ)) ?_
  refine Gl.st (g' := (mkF m 78 #[vI (3 : Int32), vI c0, vI c1, vI c2, vI c3] [(.int c1), (.int (1 : Int32)), (.ref b700), (.ref b700), (.ref b693), (.ref b693)])) (fun τ κ => XS.iloadN X709.here hx rfl (hb hby d1_77) rfl κ) ?_
  obtain ⟨cl_o718, Ar_o718, q_o718, S_o718, M_o718, H_o718, G_o718⟩ := id V_b700_709
  have hin_o718 : ¬ ((1 : Int32) < 0 ∨ cl_o718.slots.size ≤ ((1 : Int32)).toNatClampNeg) := inb_of S_o718 ⟨by decide, by decide⟩
  obtain ⟨T719, h719, X719, e719, W719, st719⟩ := stC X709 hx hZ e709 Ar_o718 (j := (1 : Int32)) hin_o718 (g := (mkF m 78 #[vI (3 : Int32), vI c0, vI c1, vI c2, vI c3] [(.int c1), (.int (1 : Int32)), (.ref b700), (.ref b700), (.ref b693), (.ref b693)])) rfl rfl (hb hby d1_78)
  have S_720 := S_710.wr W719
  have S_721 := S_711.wr W719
  have S_722 := S_712.wr W719
  have S_723 := S_713.wr W719
  have E_724 := E_714.wr W719
  have F_725 := F_715.other W719 (Or.inl ne_b693_b700)
  have F_726 := F_716.other W719 (Or.inl ne_b693_b700)
  have N719 := Fr.snoc X719 N709 g_b700
  have Z719 : n0 ≤ h719.size := Nat.le_trans Z709 (Nat.le_of_eq W719.size.symm)
  have K719 : Keep h0 h719 [] := K709.wr W719 (Or.inr sz_b700)
  have V_b700_719 : Arv Z h719 b700 k700 .char (3 : Int32) [(.int c0), (.int (nar .char c1)), (.int (0 : Int32))] (.int (0 : Int32)) := Arv.set Ar_o718 q_o718 S_o718 M_o718 H_o718 G_o718 (fits_nar_char _) W719 1 rfl (Nat.le_of_ble_eq_true rfl)
  rw [own_narC hc1] at V_b700_719
  refine Gl.st (g' := (mkF m 79 #[vI (3 : Int32), vI c0, vI c1, vI c2, vI c3] [(.ref b700), (.ref b693), (.ref b693)])) (fun τ κ => st719 _ κ) ?_
  refine Gl.st (g' := (mkF m 81 #[vI (3 : Int32), vI c0, vI c1, vI c2, vI c3] [(.int (2 : Int32)), (.ref b700), (.ref b700), (.ref b693), (.ref b693)])) (fun τ κ => XS.dup X719.here hx rfl (hb hby d1_79) rfl rfl (XS.iconst X719.here hx rfl (hb hby d1_80) κ)) ?_
  refine Gl.st (g' := (mkF m 82 #[vI (3 : Int32), vI c0, vI c1, vI c2, vI c3] [(.int c2), (.int (2 : Int32)), (.ref b700), (.ref b700), (.ref b693), (.ref b693)])) (fun τ κ => XS.iloadN X719.here hx rfl (hb hby d1_81) rfl κ) ?_
  obtain ⟨cl_o728, Ar_o728, q_o728, S_o728, M_o728, H_o728, G_o728⟩ := id V_b700_719
  have hin_o728 : ¬ ((2 : Int32) < 0 ∨ cl_o728.slots.size ≤ ((2 : Int32)).toNatClampNeg) := inb_of S_o728 ⟨by decide, by decide⟩
  obtain ⟨T729, h729, X729, e729, W729, st729⟩ := stC X719 hx hZ e719 Ar_o728 (j := (2 : Int32)) hin_o728 (g := (mkF m 82 #[vI (3 : Int32), vI c0, vI c1, vI c2, vI c3] [(.int c2), (.int (2 : Int32)), (.ref b700), (.ref b700), (.ref b693), (.ref b693)])) rfl rfl (hb hby d1_82)
  have S_730 := S_720.wr W729
  have S_731 := S_721.wr W729
  have S_732 := S_722.wr W729
  have S_733 := S_723.wr W729
  have E_734 := E_724.wr W729
  have F_735 := F_725.other W729 (Or.inl ne_b693_b700)
  have F_736 := F_726.other W729 (Or.inl ne_b693_b700)
  have N729 := Fr.snoc X729 N719 g_b700
  have Z729 : n0 ≤ h729.size := Nat.le_trans Z719 (Nat.le_of_eq W729.size.symm)
  have K729 : Keep h0 h729 [] := K719.wr W729 (Or.inr sz_b700)
  have V_b700_729 : Arv Z h729 b700 k700 .char (3 : Int32) [(.int c0), (.int c1), (.int (nar .char c2))] (.int (0 : Int32)) := Arv.set Ar_o728 q_o728 S_o728 M_o728 H_o728 G_o728 (fits_nar_char _) W729 2 rfl (Nat.le_of_ble_eq_true rfl)
  rw [own_narC hc2] at V_b700_729
  refine Gl.st (g' := (mkF m 83 #[vI (3 : Int32), vI c0, vI c1, vI c2, vI c3] [(.ref b700), (.ref b693), (.ref b693)])) (fun τ κ => st729 _ κ) ?_
  obtain ⟨rv738, _, ⟨T738, L738, k738, n738⟩, -, X738, ⟨Lc738, hQ738, l738, y738, z738⟩, st738⟩ := X729.specialBack hx (y := (⟨"java/lang/String", "<init>", "([C)V"⟩ : MethodName)) rfl hown (mvT hZ (w10_ hw)) (mvT hZ (w11_ hw)) (mvT hZ (w12_ hw)) (by decide) (backOf (W := 1) (rm2_3 l Z a0 hw [] b693 b700 k700 cs c0 c1 c2 h729 n0 Z729 E_734 g_b693 F_735 F_736 ne_b693_b700 S_733 hcs S_730 S_731 S_732 V_b700_729 hc0 hc1 hc2) hZ (w12_ hw) (w8_ hw) (by decide) (by decide)) (g := (mkF m 83 #[vI (3 : Int32), vI c0, vI c1, vI c2, vI c3] [(.ref b700), (.ref b693), (.ref b693)])) rfl (by rw [hml]; rfl) (Steps.refl _) (a := b693) (argsL := [(.ref b700)]) (rest := [(.ref b693)]) (lenOf pd_16 rfl) rfl (by show 2 * 0 + _ ≤ _; exact Nat.le_of_eq rfl) (hb hby d1_83) (fun _ _ => ⟨rfl, e729, (by decide : 2 + 2 ≤ _), (by decide : 7 + 9 ≤ _)⟩)
  dsimp only [Pt.U, Pt.locs, Pt.cells, Pt.slots] at X738 l738 y738 z738 st738 hQ738
  subst l738 y738 z738
  obtain ⟨rfl, N738q, Kc738, HS738⟩ := hQ738
  have S_739 := Sta.keepX S_730 Kc738 (allS (P := fun x => ∃ c : Cell, h729[x]? = some c ∧ ∀ q, c.vm ≠ .statics q) E_734.cell all0)
  have S_740 := Sta.keepX S_731 Kc738 (allS (P := fun x => ∃ c : Cell, h729[x]? = some c ∧ ∀ q, c.vm ≠ .statics q) E_734.cell all0)
  have S_741 := Sta.keepX S_732 Kc738 (allS (P := fun x => ∃ c : Cell, h729[x]? = some c ∧ ∀ q, c.vm ≠ .statics q) E_734.cell all0)
  have S_742 := Sta.keepX S_733 Kc738 (allS (P := fun x => ∃ c : Cell, h729[x]? = some c ∧ ∀ q, c.vm ≠ .statics q) E_734.cell all0)
  have E_743 := E_734.keep Kc738
  have N738 := Fr.app N729 N738q
  have Z738 : n0 ≤ T738.heap.size := Nat.le_trans Z729 Kc738.1
  have K738 : Keep h0 T738.heap [] := K729.trans Kc738 (allS (Or.inr sz_b693) all0)
  refine Gl.st (g' := (mkF m 86 #[vI (3 : Int32), vI c0, vI c1, vI c2, vI c3] [(.ref b693)])) (fun τ κ => st738.trans κ) ?_
  exact Gl.ret (v := some (.ref b693)) X738 Bd.notSynchronized (fun h => by rw [Bd.returns] at h; cases h) rfl (fun fs hr => retAO X738 hx Bd.returns (hb hby d1_86) hr) (by decide) (by decide) ⟨b693, rfl, N738, K738, HS738⟩
theorem ef_rm20_4_0 (m : MethodId) (u : Addr) (ch : Int32) : entryFrame m #[(.ref u), (.int (0 : Int32)), (.int ch)] 3 = mkF m 0 #[vR u, vI (0 : Int32), vI ch] [] := by first | (simp [entryFrame, mkF, argsToLocals, Value.category]; done) | rfl
def Q_rm20_4_0 (Z : State) (u : Addr) (ch : Int32) (ku : ClassId) (w0 w1 w2 w3 w4 w5 w6 w7 : Value) (h0 : Heap) (n0 : Nat) (v : Option Value) (h : Heap) (L : List Loc) : Prop := v = none ∧ Fr n0 L ∧ Keep h0 h [u] ∧ Arv Z h u ku .byte (8 : Int32) [(.int (own_hi ch)), (.int (own_lo ch)), w2, w3, w4, w5, w6, w7] (.int (0 : Int32))
set_option maxRecDepth 65536 in
set_option maxHeartbeats 40000000 in
theorem rm20_4_0 (l : Launch) (Z : State) (a0 : Array Value) (hw : ∀ d ∈ tables_1, d.before a0 Z = true) (ws : List Jvm.Cond) (u : Addr) (ch : Int32) (ku : ClassId) (w0 w1 w2 w3 w4 w5 w6 w7 : Value) (h0 : Heap) (n0 : Nat) (Z0 : n0 ≤ h0.size) (SA : Sta Z h0 "java/lang/StringUTF16" "$assertionsDisabled" "Z" (.int (1 : Int32))) (SH : Sta Z h0 "java/lang/StringUTF16" "HI_BYTE_SHIFT" "I" (.int (0 : Int32))) (SL : Sta Z h0 "java/lang/StringUTF16" "LO_BYTE_SHIFT" "I" (.int (8 : Int32))) (V0 : Arv Z h0 u ku .byte (8 : Int32) [w0, w1, w2, w3, w4, w5, w6, w7] (.int (0 : Int32))) (gu : n0 ≤ u) :
    MetFree l (⟨"java/lang/StringUTF16", "putChar", "([BII)V"⟩ : MethodName) (head1 (Jvm.Cond.code (⟨"java/lang/StringUTF16", "putChar", "([BII)V"⟩ : MethodName) jdk_52_method_4_code 3 none :: ws) ({ frames := 0, cells := 0, slots := 0, locals := 0 } : Room)) (fun aα Uα => aα = #[(.ref u), (.int (0 : Int32)), (.int ch)] ∧ Z.Warmed39 Uα.vm ∧ Uα.heap = h0) (fun _ _ _ _ _ => True) (fun _ Uα oα Uβ => ∃ vα Lα, oα = .returned vα ∧ Q_rm20_4_0 Z u ch ku w0 w1 w2 w3 w4 w5 w6 w7 h0 n0 vα Uβ.heap Lα ∧ FrameEnd Uα oα Uβ Lα ({ frames := 0, cells := 0, slots := 0, locals := 0 } : Room).cells ({ frames := 0, cells := 0, slots := 0, locals := 0 } : Room).slots) := by
  refine MetFree.of_bodySF (plainFor_of_name pn_java_lang_StringUTF16) hisR ?_
  intro p e s m args below meth c s₁ Bd hml0 hP hKα
  obtain ⟨rfl, hZ, hh⟩ := hP
  have hx := Bd.exec
  have hby := Bd.bytes
  have hml : c.maxLocals = 3 := hml0
  have hown : s.vm.findClass "java/lang/StringUTF16" = some m.cls := findClass_of_methodNamed Bd.named
  have hnm := (name_of_methodNamed Bd.named Bd.method).1
  have X0 : Stand p l e ({ frames := 0, cells := 0, slots := 0, locals := 0 } : Room) s m #[(.ref u), (.int (0 : Int32)), (.int ch)] below meth c s₁ [] 0 0 := Stand.of_body Bd
  have e0 : s₁.heap = h0 := by rw [← hh, Bd.state]; rfl
  have N0 := Fr.nil n0
  suffices k0 : Gl p e below s (Q_rm20_4_0 Z u ch ku w0 w1 w2 w3 w4 w5 w6 w7 h0 n0) ({ frames := 0, cells := 0, slots := 0, locals := 0 } : Room).cells ({ frames := 0, cells := 0, slots := 0, locals := 0 } : Room).slots s₁ (mkF m 0 #[vR u, vI (0 : Int32), vI ch] []) from Gl.st (fun τ κ => castTop (ef_rm20_4_0 m u ch) κ) k0
  obtain ⟨T746, X746, e746, st746⟩ := getS2 X0 hx hZ hown (host := "") (Or.inl (w91_ hw)) Via.refl e0 SA (g := (mkF m 0 #[vR u, vI (0 : Int32), vI ch] [])) rfl (hb hby d20_0)
  refine Gl.st (g' := (mkF m 3 #[vR u, vI (0 : Int32), vI ch] [(.int (1 : Int32))])) (fun τ κ => st746 _ κ) ?_
  have hc747 : ¬ ((1 : Int32) = (0 : Int32)) := by decide
  refine Gl.st (g' := (mkF m 29 #[vR u, vI (0 : Int32), vI ch] [(.int (0 : Int32))])) (fun τ κ => XS.ifYes X746.here hx rfl (pc0 := 3) (pc' := 28) rfl (hb hby d20_3) rfl ((if0 _ _).trans (feq hc747).2) (by decide) (by decide) (XS.iloadN X746.here hx rfl (hb hby d20_28) rfl κ)) ?_
  refine Gl.st (g' := (mkF m 31 #[vR u, vI (0 : Int32), vI ch] [(.int ((0 : Int32) <<< ((1 : Int32) &&& 31)))])) (fun τ κ => XS.iconst X746.here hx rfl (hb hby d20_29) (XS.ishl X746.here hx rfl (hb hby d20_30) rfl κ)) ?_
  rw [show ((0 : Int32) <<< ((1 : Int32) &&& 31)) = (0 : Int32) from by decide]
  refine Gl.st (g' := (mkF m 33 #[vR u, vI (0 : Int32), vI ch] [(.ref u)])) (fun τ κ => XS.istoreN X746.here hx rfl (hb hby d20_31) rfl (l' := #[vR u, vI (0 : Int32), vI ch]) rfl (XS.aloadN X746.here hx rfl (hb hby d20_32) rfl rfl κ)) ?_
  refine Gl.st (g' := (mkF m 37 #[vR u, vI (1 : Int32), vI ch] [(.int (0 : Int32)), (.ref u)])) (fun τ κ => XS.iloadN X746.here hx rfl (hb hby d20_33) rfl (XS.iinc X746.here hx rfl (hb hby d20_34) rfl (l' := #[vR u, vI (1 : Int32), vI ch]) rfl κ)) ?_
  refine Gl.st (g' := (mkF m 38 #[vR u, vI (1 : Int32), vI ch] [(.int ch), (.int (0 : Int32)), (.ref u)])) (fun τ κ => XS.iloadN X746.here hx rfl (hb hby d20_37) rfl κ) ?_
  obtain ⟨T748, X748, e748, st748⟩ := getS2 X746 hx hZ hown (host := "") (Or.inl (w92_ hw)) Via.refl e746 SH (g := (mkF m 38 #[vR u, vI (1 : Int32), vI ch] [(.int ch), (.int (0 : Int32)), (.ref u)])) rfl (hb hby d20_38)
  refine Gl.st (g' := (mkF m 41 #[vR u, vI (1 : Int32), vI ch] [(.int (0 : Int32)), (.int ch), (.int (0 : Int32)), (.ref u)])) (fun τ κ => st748 _ κ) ?_
  refine Gl.st (g' := (mkF m 43 #[vR u, vI (1 : Int32), vI ch] [(.int ((ch >>> ((0 : Int32) &&& 31)).toInt8.toInt32)), (.int (0 : Int32)), (.ref u)])) (fun τ κ => XS.ishr X748.here hx rfl (hb hby d20_41) rfl (XS.i2b X748.here hx rfl (hb hby d20_42) rfl κ)) ?_
  obtain ⟨cl_o749, Ar_o749, q_o749, S_o749, M_o749, H_o749, G_o749⟩ := id V0
  have hin_o749 : ¬ ((0 : Int32) < 0 ∨ cl_o749.slots.size ≤ ((0 : Int32)).toNatClampNeg) := inb_of S_o749 ⟨by decide, by decide⟩
  obtain ⟨T750, h750, X750, e750, W750, st750⟩ := stB X748 hx hZ e748 Ar_o749 (j := (0 : Int32)) hin_o749 (g := (mkF m 43 #[vR u, vI (1 : Int32), vI ch] [(.int ((ch >>> ((0 : Int32) &&& 31)).toInt8.toInt32)), (.int (0 : Int32)), (.ref u)])) rfl rfl (hb hby d20_43)
  have S_751 := SA.wr W750
  have S_752 := SH.wr W750
  have S_753 := SL.wr W750
  have N750 := Fr.snoc X750 N0 gu
  have Z750 : n0 ≤ h750.size := Nat.le_trans Z0 (Nat.le_of_eq W750.size.symm)
  have K750 : Keep h0 h750 [u] := (Keep.refl h0 [u]).wr W750 (Or.inl (List.mem_of_getElem? (i := 0) rfl))
  have V_u_750 : Arv Z h750 u ku .byte (8 : Int32) [(.int (nar .byte ((ch >>> ((0 : Int32) &&& 31)).toInt8.toInt32))), w1, w2, w3, w4, w5, w6, w7] (.int (0 : Int32)) := Arv.set Ar_o749 q_o749 S_o749 M_o749 H_o749 G_o749 (fits_nar_byte _) W750 0 rfl (Nat.le_of_ble_eq_true rfl)
  refine Gl.st (g' := (mkF m 44 #[vR u, vI (1 : Int32), vI ch] [])) (fun τ κ => st750 _ κ) ?_
  refine Gl.st (g' := (mkF m 46 #[vR u, vI (1 : Int32), vI ch] [(.int (1 : Int32)), (.ref u)])) (fun τ κ => XS.aloadN X750.here hx rfl (hb hby d20_44) rfl rfl (XS.iloadN X750.here hx rfl (hb hby d20_45) rfl κ)) ?_
  refine Gl.st (g' := (mkF m 47 #[vR u, vI (1 : Int32), vI ch] [(.int ch), (.int (1 : Int32)), (.ref u)])) (fun τ κ => XS.iloadN X750.here hx rfl (hb hby d20_46) rfl κ) ?_
  obtain ⟨T755, X755, e755, st755⟩ := getS2 X750 hx hZ hown (host := "") (Or.inl (w93_ hw)) Via.refl e750 S_753 (g := (mkF m 47 #[vR u, vI (1 : Int32), vI ch] [(.int ch), (.int (1 : Int32)), (.ref u)])) rfl (hb hby d20_47)
  refine Gl.st (g' := (mkF m 50 #[vR u, vI (1 : Int32), vI ch] [(.int (8 : Int32)), (.int ch), (.int (1 : Int32)), (.ref u)])) (fun τ κ => st755 _ κ) ?_
  refine Gl.st (g' := (mkF m 52 #[vR u, vI (1 : Int32), vI ch] [(.int ((ch >>> ((8 : Int32) &&& 31)).toInt8.toInt32)), (.int (1 : Int32)), (.ref u)])) (fun τ κ => XS.ishr X755.here hx rfl (hb hby d20_50) rfl (XS.i2b X755.here hx rfl (hb hby d20_51) rfl κ)) ?_
  obtain ⟨cl_o756, Ar_o756, q_o756, S_o756, M_o756, H_o756, G_o756⟩ := id V_u_750
  have hin_o756 : ¬ ((1 : Int32) < 0 ∨ cl_o756.slots.size ≤ ((1 : Int32)).toNatClampNeg) := inb_of S_o756 ⟨by decide, by decide⟩
  obtain ⟨T757, h757, X757, e757, W757, st757⟩ := stB X755 hx hZ e755 Ar_o756 (j := (1 : Int32)) hin_o756 (g := (mkF m 52 #[vR u, vI (1 : Int32), vI ch] [(.int ((ch >>> ((8 : Int32) &&& 31)).toInt8.toInt32)), (.int (1 : Int32)), (.ref u)])) rfl rfl (hb hby d20_52)
  have S_758 := S_751.wr W757
  have S_759 := S_752.wr W757
  have S_760 := S_753.wr W757
  have N757 := Fr.snoc X757 N750 gu
  have Z757 : n0 ≤ h757.size := Nat.le_trans Z750 (Nat.le_of_eq W757.size.symm)
  have K757 : Keep h0 h757 [u] := K750.wr W757 (Or.inl (List.mem_of_getElem? (i := 0) rfl))
  have V_u_757 : Arv Z h757 u ku .byte (8 : Int32) [(.int (nar .byte ((ch >>> ((0 : Int32) &&& 31)).toInt8.toInt32))), (.int (nar .byte ((ch >>> ((8 : Int32) &&& 31)).toInt8.toInt32))), w2, w3, w4, w5, w6, w7] (.int (0 : Int32)) := Arv.set Ar_o756 q_o756 S_o756 M_o756 H_o756 G_o756 (fits_nar_byte _) W757 1 rfl (Nat.le_of_ble_eq_true rfl)
  refine Gl.st (g' := (mkF m 53 #[vR u, vI (1 : Int32), vI ch] [])) (fun τ κ => st757 _ κ) ?_
  exact Gl.ret (v := none) X757 Bd.notSynchronized (fun _ => rfl) e757 (fun fs hr => X757.returnOut hx Bd.returns (hb hby d20_53) hr) (by decide) (by decide) ⟨rfl, N757, K757, V_u_757⟩
theorem ef_rm20_4_1 (m : MethodId) (u : Addr) (ch : Int32) : entryFrame m #[(.ref u), (.int (1 : Int32)), (.int ch)] 3 = mkF m 0 #[vR u, vI (1 : Int32), vI ch] [] := by first | (simp [entryFrame, mkF, argsToLocals, Value.category]; done) | rfl
def Q_rm20_4_1 (Z : State) (u : Addr) (ch : Int32) (ku : ClassId) (w0 w1 w2 w3 w4 w5 w6 w7 : Value) (h0 : Heap) (n0 : Nat) (v : Option Value) (h : Heap) (L : List Loc) : Prop := v = none ∧ Fr n0 L ∧ Keep h0 h [u] ∧ Arv Z h u ku .byte (8 : Int32) [w0, w1, (.int (own_hi ch)), (.int (own_lo ch)), w4, w5, w6, w7] (.int (0 : Int32))
set_option maxRecDepth 65536 in
set_option maxHeartbeats 40000000 in
theorem rm20_4_1 (l : Launch) (Z : State) (a0 : Array Value) (hw : ∀ d ∈ tables_1, d.before a0 Z = true) (ws : List Jvm.Cond) (u : Addr) (ch : Int32) (ku : ClassId) (w0 w1 w2 w3 w4 w5 w6 w7 : Value) (h0 : Heap) (n0 : Nat) (Z0 : n0 ≤ h0.size) (SA : Sta Z h0 "java/lang/StringUTF16" "$assertionsDisabled" "Z" (.int (1 : Int32))) (SH : Sta Z h0 "java/lang/StringUTF16" "HI_BYTE_SHIFT" "I" (.int (0 : Int32))) (SL : Sta Z h0 "java/lang/StringUTF16" "LO_BYTE_SHIFT" "I" (.int (8 : Int32))) (V0 : Arv Z h0 u ku .byte (8 : Int32) [w0, w1, w2, w3, w4, w5, w6, w7] (.int (0 : Int32))) (gu : n0 ≤ u) :
    MetFree l (⟨"java/lang/StringUTF16", "putChar", "([BII)V"⟩ : MethodName) (head1 (Jvm.Cond.code (⟨"java/lang/StringUTF16", "putChar", "([BII)V"⟩ : MethodName) jdk_52_method_4_code 3 none :: ws) ({ frames := 0, cells := 0, slots := 0, locals := 0 } : Room)) (fun aα Uα => aα = #[(.ref u), (.int (1 : Int32)), (.int ch)] ∧ Z.Warmed39 Uα.vm ∧ Uα.heap = h0) (fun _ _ _ _ _ => True) (fun _ Uα oα Uβ => ∃ vα Lα, oα = .returned vα ∧ Q_rm20_4_1 Z u ch ku w0 w1 w2 w3 w4 w5 w6 w7 h0 n0 vα Uβ.heap Lα ∧ FrameEnd Uα oα Uβ Lα ({ frames := 0, cells := 0, slots := 0, locals := 0 } : Room).cells ({ frames := 0, cells := 0, slots := 0, locals := 0 } : Room).slots) := by
  refine MetFree.of_bodySF (plainFor_of_name pn_java_lang_StringUTF16) hisR ?_
  intro p e s m args below meth c s₁ Bd hml0 hP hKα
  obtain ⟨rfl, hZ, hh⟩ := hP
  have hx := Bd.exec
  have hby := Bd.bytes
  have hml : c.maxLocals = 3 := hml0
  have hown : s.vm.findClass "java/lang/StringUTF16" = some m.cls := findClass_of_methodNamed Bd.named
  have hnm := (name_of_methodNamed Bd.named Bd.method).1
  have X0 : Stand p l e ({ frames := 0, cells := 0, slots := 0, locals := 0 } : Room) s m #[(.ref u), (.int (1 : Int32)), (.int ch)] below meth c s₁ [] 0 0 := Stand.of_body Bd
  have e0 : s₁.heap = h0 := by rw [← hh, Bd.state]; rfl
  have N0 := Fr.nil n0
  suffices k0 : Gl p e below s (Q_rm20_4_1 Z u ch ku w0 w1 w2 w3 w4 w5 w6 w7 h0 n0) ({ frames := 0, cells := 0, slots := 0, locals := 0 } : Room).cells ({ frames := 0, cells := 0, slots := 0, locals := 0 } : Room).slots s₁ (mkF m 0 #[vR u, vI (1 : Int32), vI ch] []) from Gl.st (fun τ κ => castTop (ef_rm20_4_1 m u ch) κ) k0
  obtain ⟨T762, X762, e762, st762⟩ := getS2 X0 hx hZ hown (host := "") (Or.inl (w91_ hw)) Via.refl e0 SA (g := (mkF m 0 #[vR u, vI (1 : Int32), vI ch] [])) rfl (hb hby d20_0)
  refine Gl.st (g' := (mkF m 3 #[vR u, vI (1 : Int32), vI ch] [(.int (1 : Int32))])) (fun τ κ => st762 _ κ) ?_
  have hc763 : ¬ ((1 : Int32) = (0 : Int32)) := by decide
  refine Gl.st (g' := (mkF m 29 #[vR u, vI (1 : Int32), vI ch] [(.int (1 : Int32))])) (fun τ κ => XS.ifYes X762.here hx rfl (pc0 := 3) (pc' := 28) rfl (hb hby d20_3) rfl ((if0 _ _).trans (feq hc763).2) (by decide) (by decide) (XS.iloadN X762.here hx rfl (hb hby d20_28) rfl κ)) ?_
  refine Gl.st (g' := (mkF m 31 #[vR u, vI (1 : Int32), vI ch] [(.int ((1 : Int32) <<< ((1 : Int32) &&& 31)))])) (fun τ κ => XS.iconst X762.here hx rfl (hb hby d20_29) (XS.ishl X762.here hx rfl (hb hby d20_30) rfl κ)) ?_
  rw [show ((1 : Int32) <<< ((1 : Int32) &&& 31)) = (2 : Int32) from by decide]
  refine Gl.st (g' := (mkF m 33 #[vR u, vI (2 : Int32), vI ch] [(.ref u)])) (fun τ κ => XS.istoreN X762.here hx rfl (hb hby d20_31) rfl (l' := #[vR u, vI (2 : Int32), vI ch]) rfl (XS.aloadN X762.here hx rfl (hb hby d20_32) rfl rfl κ)) ?_
  refine Gl.st (g' := (mkF m 37 #[vR u, vI (3 : Int32), vI ch] [(.int (2 : Int32)), (.ref u)])) (fun τ κ => XS.iloadN X762.here hx rfl (hb hby d20_33) rfl (XS.iinc X762.here hx rfl (hb hby d20_34) rfl (l' := #[vR u, vI (3 : Int32), vI ch]) rfl κ)) ?_
  refine Gl.st (g' := (mkF m 38 #[vR u, vI (3 : Int32), vI ch] [(.int ch), (.int (2 : Int32)), (.ref u)])) (fun τ κ => XS.iloadN X762.here hx rfl (hb hby d20_37) rfl κ) ?_
  obtain ⟨T764, X764, e764, st764⟩ := getS2 X762 hx hZ hown (host := "") (Or.inl (w92_ hw)) Via.refl e762 SH (g := (mkF m 38 #[vR u, vI (3 : Int32), vI ch] [(.int ch), (.int (2 : Int32)), (.ref u)])) rfl (hb hby d20_38)
  refine Gl.st (g' := (mkF m 41 #[vR u, vI (3 : Int32), vI ch] [(.int (0 : Int32)), (.int ch), (.int (2 : Int32)), (.ref u)])) (fun τ κ => st764 _ κ) ?_
  refine Gl.st (g' := (mkF m 43 #[vR u, vI (3 : Int32), vI ch] [(.int ((ch >>> ((0 : Int32) &&& 31)).toInt8.toInt32)), (.int (2 : Int32)), (.ref u)])) (fun τ κ => XS.ishr X764.here hx rfl (hb hby d20_41) rfl (XS.i2b X764.here hx rfl (hb hby d20_42) rfl κ)) ?_
  obtain ⟨cl_o765, Ar_o765, q_o765, S_o765, M_o765, H_o765, G_o765⟩ := id V0
  have hin_o765 : ¬ ((2 : Int32) < 0 ∨ cl_o765.slots.size ≤ ((2 : Int32)).toNatClampNeg) := inb_of S_o765 ⟨by decide, by decide⟩
  obtain ⟨T766, h766, X766, e766, W766, st766⟩ := stB X764 hx hZ e764 Ar_o765 (j := (2 : Int32)) hin_o765 (g := (mkF m 43 #[vR u, vI (3 : Int32), vI ch] [(.int ((ch >>> ((0 : Int32) &&& 31)).toInt8.toInt32)), (.int (2 : Int32)), (.ref u)])) rfl rfl (hb hby d20_43)
  have S_767 := SA.wr W766
  have S_768 := SH.wr W766
  have S_769 := SL.wr W766
  have N766 := Fr.snoc X766 N0 gu
  have Z766 : n0 ≤ h766.size := Nat.le_trans Z0 (Nat.le_of_eq W766.size.symm)
  have K766 : Keep h0 h766 [u] := (Keep.refl h0 [u]).wr W766 (Or.inl (List.mem_of_getElem? (i := 0) rfl))
  have V_u_766 : Arv Z h766 u ku .byte (8 : Int32) [w0, w1, (.int (nar .byte ((ch >>> ((0 : Int32) &&& 31)).toInt8.toInt32))), w3, w4, w5, w6, w7] (.int (0 : Int32)) := Arv.set Ar_o765 q_o765 S_o765 M_o765 H_o765 G_o765 (fits_nar_byte _) W766 2 rfl (Nat.le_of_ble_eq_true rfl)
  refine Gl.st (g' := (mkF m 44 #[vR u, vI (3 : Int32), vI ch] [])) (fun τ κ => st766 _ κ) ?_
  refine Gl.st (g' := (mkF m 46 #[vR u, vI (3 : Int32), vI ch] [(.int (3 : Int32)), (.ref u)])) (fun τ κ => XS.aloadN X766.here hx rfl (hb hby d20_44) rfl rfl (XS.iloadN X766.here hx rfl (hb hby d20_45) rfl κ)) ?_
  refine Gl.st (g' := (mkF m 47 #[vR u, vI (3 : Int32), vI ch] [(.int ch), (.int (3 : Int32)), (.ref u)])) (fun τ κ => XS.iloadN X766.here hx rfl (hb hby d20_46) rfl κ) ?_
  obtain ⟨T771, X771, e771, st771⟩ := getS2 X766 hx hZ hown (host := "") (Or.inl (w93_ hw)) Via.refl e766 S_769 (g := (mkF m 47 #[vR u, vI (3 : Int32), vI ch] [(.int ch), (.int (3 : Int32)), (.ref u)])) rfl (hb hby d20_47)
  refine Gl.st (g' := (mkF m 50 #[vR u, vI (3 : Int32), vI ch] [(.int (8 : Int32)), (.int ch), (.int (3 : Int32)), (.ref u)])) (fun τ κ => st771 _ κ) ?_
  refine Gl.st (g' := (mkF m 52 #[vR u, vI (3 : Int32), vI ch] [(.int ((ch >>> ((8 : Int32) &&& 31)).toInt8.toInt32)), (.int (3 : Int32)), (.ref u)])) (fun τ κ => XS.ishr X771.here hx rfl (hb hby d20_50) rfl (XS.i2b X771.here hx rfl (hb hby d20_51) rfl κ)) ?_
  obtain ⟨cl_o772, Ar_o772, q_o772, S_o772, M_o772, H_o772, G_o772⟩ := id V_u_766
  have hin_o772 : ¬ ((3 : Int32) < 0 ∨ cl_o772.slots.size ≤ ((3 : Int32)).toNatClampNeg) := inb_of S_o772 ⟨by decide, by decide⟩
  obtain ⟨T773, h773, X773, e773, W773, st773⟩ := stB X771 hx hZ e771 Ar_o772 (j := (3 : Int32)) hin_o772 (g := (mkF m 52 #[vR u, vI (3 : Int32), vI ch] [(.int ((ch >>> ((8 : Int32) &&& 31)).toInt8.toInt32)), (.int (3 : Int32)), (.ref u)])) rfl rfl (hb hby d20_52)
  have S_774 := S_767.wr W773
  have S_775 := S_768.wr W773
  have S_776 := S_769.wr W773
  have N773 := Fr.snoc X773 N766 gu
  have Z773 : n0 ≤ h773.size := Nat.le_trans Z766 (Nat.le_of_eq W773.size.symm)
  have K773 : Keep h0 h773 [u] := K766.wr W773 (Or.inl (List.mem_of_getElem? (i := 0) rfl))
  have V_u_773 : Arv Z h773 u ku .byte (8 : Int32) [w0, w1, (.int (nar .byte ((ch >>> ((0 : Int32) &&& 31)).toInt8.toInt32))), (.int (nar .byte ((ch >>> ((8 : Int32) &&& 31)).toInt8.toInt32))), w4, w5, w6, w7] (.int (0 : Int32)) := Arv.set Ar_o772 q_o772 S_o772 M_o772 H_o772 G_o772 (fits_nar_byte _) W773 3 rfl (Nat.le_of_ble_eq_true rfl)
  refine Gl.st (g' := (mkF m 53 #[vR u, vI (3 : Int32), vI ch] [])) (fun τ κ => st773 _ κ) ?_
  exact Gl.ret (v := none) X773 Bd.notSynchronized (fun _ => rfl) e773 (fun fs hr => X773.returnOut hx Bd.returns (hb hby d20_53) hr) (by decide) (by decide) ⟨rfl, N773, K773, V_u_773⟩
theorem ef_rm20_4_2 (m : MethodId) (u : Addr) (ch : Int32) : entryFrame m #[(.ref u), (.int (2 : Int32)), (.int ch)] 3 = mkF m 0 #[vR u, vI (2 : Int32), vI ch] [] := by first | (simp [entryFrame, mkF, argsToLocals, Value.category]; done) | rfl
def Q_rm20_4_2 (Z : State) (u : Addr) (ch : Int32) (ku : ClassId) (w0 w1 w2 w3 w4 w5 w6 w7 : Value) (h0 : Heap) (n0 : Nat) (v : Option Value) (h : Heap) (L : List Loc) : Prop := v = none ∧ Fr n0 L ∧ Keep h0 h [u] ∧ Arv Z h u ku .byte (8 : Int32) [w0, w1, w2, w3, (.int (own_hi ch)), (.int (own_lo ch)), w6, w7] (.int (0 : Int32))
set_option maxRecDepth 65536 in
set_option maxHeartbeats 40000000 in
theorem rm20_4_2 (l : Launch) (Z : State) (a0 : Array Value) (hw : ∀ d ∈ tables_1, d.before a0 Z = true) (ws : List Jvm.Cond) (u : Addr) (ch : Int32) (ku : ClassId) (w0 w1 w2 w3 w4 w5 w6 w7 : Value) (h0 : Heap) (n0 : Nat) (Z0 : n0 ≤ h0.size) (SA : Sta Z h0 "java/lang/StringUTF16" "$assertionsDisabled" "Z" (.int (1 : Int32))) (SH : Sta Z h0 "java/lang/StringUTF16" "HI_BYTE_SHIFT" "I" (.int (0 : Int32))) (SL : Sta Z h0 "java/lang/StringUTF16" "LO_BYTE_SHIFT" "I" (.int (8 : Int32))) (V0 : Arv Z h0 u ku .byte (8 : Int32) [w0, w1, w2, w3, w4, w5, w6, w7] (.int (0 : Int32))) (gu : n0 ≤ u) :
    MetFree l (⟨"java/lang/StringUTF16", "putChar", "([BII)V"⟩ : MethodName) (head1 (Jvm.Cond.code (⟨"java/lang/StringUTF16", "putChar", "([BII)V"⟩ : MethodName) jdk_52_method_4_code 3 none :: ws) ({ frames := 0, cells := 0, slots := 0, locals := 0 } : Room)) (fun aα Uα => aα = #[(.ref u), (.int (2 : Int32)), (.int ch)] ∧ Z.Warmed39 Uα.vm ∧ Uα.heap = h0) (fun _ _ _ _ _ => True) (fun _ Uα oα Uβ => ∃ vα Lα, oα = .returned vα ∧ Q_rm20_4_2 Z u ch ku w0 w1 w2 w3 w4 w5 w6 w7 h0 n0 vα Uβ.heap Lα ∧ FrameEnd Uα oα Uβ Lα ({ frames := 0, cells := 0, slots := 0, locals := 0 } : Room).cells ({ frames := 0, cells := 0, slots := 0, locals := 0 } : Room).slots) := by
  refine MetFree.of_bodySF (plainFor_of_name pn_java_lang_StringUTF16) hisR ?_
  intro p e s m args below meth c s₁ Bd hml0 hP hKα
  obtain ⟨rfl, hZ, hh⟩ := hP
  have hx := Bd.exec
  have hby := Bd.bytes
  have hml : c.maxLocals = 3 := hml0
  have hown : s.vm.findClass "java/lang/StringUTF16" = some m.cls := findClass_of_methodNamed Bd.named
  have hnm := (name_of_methodNamed Bd.named Bd.method).1
  have X0 : Stand p l e ({ frames := 0, cells := 0, slots := 0, locals := 0 } : Room) s m #[(.ref u), (.int (2 : Int32)), (.int ch)] below meth c s₁ [] 0 0 := Stand.of_body Bd
  have e0 : s₁.heap = h0 := by rw [← hh, Bd.state]; rfl
  have N0 := Fr.nil n0
  suffices k0 : Gl p e below s (Q_rm20_4_2 Z u ch ku w0 w1 w2 w3 w4 w5 w6 w7 h0 n0) ({ frames := 0, cells := 0, slots := 0, locals := 0 } : Room).cells ({ frames := 0, cells := 0, slots := 0, locals := 0 } : Room).slots s₁ (mkF m 0 #[vR u, vI (2 : Int32), vI ch] []) from Gl.st (fun τ κ => castTop (ef_rm20_4_2 m u ch) κ) k0
  obtain ⟨T778, X778, e778, st778⟩ := getS2 X0 hx hZ hown (host := "") (Or.inl (w91_ hw)) Via.refl e0 SA (g := (mkF m 0 #[vR u, vI (2 : Int32), vI ch] [])) rfl (hb hby d20_0)
  refine Gl.st (g' := (mkF m 3 #[vR u, vI (2 : Int32), vI ch] [(.int (1 : Int32))])) (fun τ κ => st778 _ κ) ?_
  have hc779 : ¬ ((1 : Int32) = (0 : Int32)) := by decide
  refine Gl.st (g' := (mkF m 29 #[vR u, vI (2 : Int32), vI ch] [(.int (2 : Int32))])) (fun τ κ => XS.ifYes X778.here hx rfl (pc0 := 3) (pc' := 28) rfl (hb hby d20_3) rfl ((if0 _ _).trans (feq hc779).2) (by decide) (by decide) (XS.iloadN X778.here hx rfl (hb hby d20_28) rfl κ)) ?_
  refine Gl.st (g' := (mkF m 31 #[vR u, vI (2 : Int32), vI ch] [(.int ((2 : Int32) <<< ((1 : Int32) &&& 31)))])) (fun τ κ => XS.iconst X778.here hx rfl (hb hby d20_29) (XS.ishl X778.here hx rfl (hb hby d20_30) rfl κ)) ?_
  rw [show ((2 : Int32) <<< ((1 : Int32) &&& 31)) = (4 : Int32) from by decide]
  refine Gl.st (g' := (mkF m 33 #[vR u, vI (4 : Int32), vI ch] [(.ref u)])) (fun τ κ => XS.istoreN X778.here hx rfl (hb hby d20_31) rfl (l' := #[vR u, vI (4 : Int32), vI ch]) rfl (XS.aloadN X778.here hx rfl (hb hby d20_32) rfl rfl κ)) ?_
  refine Gl.st (g' := (mkF m 37 #[vR u, vI (5 : Int32), vI ch] [(.int (4 : Int32)), (.ref u)])) (fun τ κ => XS.iloadN X778.here hx rfl (hb hby d20_33) rfl (XS.iinc X778.here hx rfl (hb hby d20_34) rfl (l' := #[vR u, vI (5 : Int32), vI ch]) rfl κ)) ?_
  refine Gl.st (g' := (mkF m 38 #[vR u, vI (5 : Int32), vI ch] [(.int ch), (.int (4 : Int32)), (.ref u)])) (fun τ κ => XS.iloadN X778.here hx rfl (hb hby d20_37) rfl κ) ?_
  obtain ⟨T780, X780, e780, st780⟩ := getS2 X778 hx hZ hown (host := "") (Or.inl (w92_ hw)) Via.refl e778 SH (g := (mkF m 38 #[vR u, vI (5 : Int32), vI ch] [(.int ch), (.int (4 : Int32)), (.ref u)])) rfl (hb hby d20_38)
  refine Gl.st (g' := (mkF m 41 #[vR u, vI (5 : Int32), vI ch] [(.int (0 : Int32)), (.int ch), (.int (4 : Int32)), (.ref u)])) (fun τ κ => st780 _ κ) ?_
  refine Gl.st (g' := (mkF m 43 #[vR u, vI (5 : Int32), vI ch] [(.int ((ch >>> ((0 : Int32) &&& 31)).toInt8.toInt32)), (.int (4 : Int32)), (.ref u)])) (fun τ κ => XS.ishr X780.here hx rfl (hb hby d20_41) rfl (XS.i2b X780.here hx rfl (hb hby d20_42) rfl κ)) ?_
  obtain ⟨cl_o781, Ar_o781, q_o781, S_o781, M_o781, H_o781, G_o781⟩ := id V0
  have hin_o781 : ¬ ((4 : Int32) < 0 ∨ cl_o781.slots.size ≤ ((4 : Int32)).toNatClampNeg) := inb_of S_o781 ⟨by decide, by decide⟩
  obtain ⟨T782, h782, X782, e782, W782, st782⟩ := stB X780 hx hZ e780 Ar_o781 (j := (4 : Int32)) hin_o781 (g := (mkF m 43 #[vR u, vI (5 : Int32), vI ch] [(.int ((ch >>> ((0 : Int32) &&& 31)).toInt8.toInt32)), (.int (4 : Int32)), (.ref u)])) rfl rfl (hb hby d20_43)
  have S_783 := SA.wr W782
  have S_784 := SH.wr W782
  have S_785 := SL.wr W782
  have N782 := Fr.snoc X782 N0 gu
  have Z782 : n0 ≤ h782.size := Nat.le_trans Z0 (Nat.le_of_eq W782.size.symm)
  have K782 : Keep h0 h782 [u] := (Keep.refl h0 [u]).wr W782 (Or.inl (List.mem_of_getElem? (i := 0) rfl))
  have V_u_782 : Arv Z h782 u ku .byte (8 : Int32) [w0, w1, w2, w3, (.int (nar .byte ((ch >>> ((0 : Int32) &&& 31)).toInt8.toInt32))), w5, w6, w7] (.int (0 : Int32)) := Arv.set Ar_o781 q_o781 S_o781 M_o781 H_o781 G_o781 (fits_nar_byte _) W782 4 rfl (Nat.le_of_ble_eq_true rfl)
  refine Gl.st (g' := (mkF m 44 #[vR u, vI (5 : Int32), vI ch] [])) (fun τ κ => st782 _ κ) ?_
  refine Gl.st (g' := (mkF m 46 #[vR u, vI (5 : Int32), vI ch] [(.int (5 : Int32)), (.ref u)])) (fun τ κ => XS.aloadN X782.here hx rfl (hb hby d20_44) rfl rfl (XS.iloadN X782.here hx rfl (hb hby d20_45) rfl κ)) ?_
  refine Gl.st (g' := (mkF m 47 #[vR u, vI (5 : Int32), vI ch] [(.int ch), (.int (5 : Int32)), (.ref u)])) (fun τ κ => XS.iloadN X782.here hx rfl (hb hby d20_46) rfl κ) ?_
  obtain ⟨T787, X787, e787, st787⟩ := getS2 X782 hx hZ hown (host := "") (Or.inl (w93_ hw)) Via.refl e782 S_785 (g := (mkF m 47 #[vR u, vI (5 : Int32), vI ch] [(.int ch), (.int (5 : Int32)), (.ref u)])) rfl (hb hby d20_47)
  refine Gl.st (g' := (mkF m 50 #[vR u, vI (5 : Int32), vI ch] [(.int (8 : Int32)), (.int ch), (.int (5 : Int32)), (.ref u)])) (fun τ κ => st787 _ κ) ?_
  refine Gl.st (g' := (mkF m 52 #[vR u, vI (5 : Int32), vI ch] [(.int ((ch >>> ((8 : Int32) &&& 31)).toInt8.toInt32)), (.int (5 : Int32)), (.ref u)])) (fun τ κ => XS.ishr X787.here hx rfl (hb hby d20_50) rfl (XS.i2b X787.here hx rfl (hb hby d20_51) rfl κ)) ?_
  obtain ⟨cl_o788, Ar_o788, q_o788, S_o788, M_o788, H_o788, G_o788⟩ := id V_u_782
  have hin_o788 : ¬ ((5 : Int32) < 0 ∨ cl_o788.slots.size ≤ ((5 : Int32)).toNatClampNeg) := inb_of S_o788 ⟨by decide, by decide⟩
  obtain ⟨T789, h789, X789, e789, W789, st789⟩ := stB X787 hx hZ e787 Ar_o788 (j := (5 : Int32)) hin_o788 (g := (mkF m 52 #[vR u, vI (5 : Int32), vI ch] [(.int ((ch >>> ((8 : Int32) &&& 31)).toInt8.toInt32)), (.int (5 : Int32)), (.ref u)])) rfl rfl (hb hby d20_52)
  have S_790 := S_783.wr W789
  have S_791 := S_784.wr W789
  have S_792 := S_785.wr W789
  have N789 := Fr.snoc X789 N782 gu
  have Z789 : n0 ≤ h789.size := Nat.le_trans Z782 (Nat.le_of_eq W789.size.symm)
  have K789 : Keep h0 h789 [u] := K782.wr W789 (Or.inl (List.mem_of_getElem? (i := 0) rfl))
  have V_u_789 : Arv Z h789 u ku .byte (8 : Int32) [w0, w1, w2, w3, (.int (nar .byte ((ch >>> ((0 : Int32) &&& 31)).toInt8.toInt32))), (.int (nar .byte ((ch >>> ((8 : Int32) &&& 31)).toInt8.toInt32))), w6, w7] (.int (0 : Int32)) := Arv.set Ar_o788 q_o788 S_o788 M_o788 H_o788 G_o788 (fits_nar_byte _) W789 5 rfl (Nat.le_of_ble_eq_true rfl)
  refine Gl.st (g' := (mkF m 53 #[vR u, vI (5 : Int32), vI ch] [])) (fun τ κ => st789 _ κ) ?_
  exact Gl.ret (v := none) X789 Bd.notSynchronized (fun _ => rfl) e789 (fun fs hr => X789.returnOut hx Bd.returns (hb hby d20_53) hr) (by decide) (by decide) ⟨rfl, N789, K789, V_u_789⟩
theorem ef_rm20_4_3 (m : MethodId) (u : Addr) (ch : Int32) : entryFrame m #[(.ref u), (.int (3 : Int32)), (.int ch)] 3 = mkF m 0 #[vR u, vI (3 : Int32), vI ch] [] := by first | (simp [entryFrame, mkF, argsToLocals, Value.category]; done) | rfl
def Q_rm20_4_3 (Z : State) (u : Addr) (ch : Int32) (ku : ClassId) (w0 w1 w2 w3 w4 w5 w6 w7 : Value) (h0 : Heap) (n0 : Nat) (v : Option Value) (h : Heap) (L : List Loc) : Prop := v = none ∧ Fr n0 L ∧ Keep h0 h [u] ∧ Arv Z h u ku .byte (8 : Int32) [w0, w1, w2, w3, w4, w5, (.int (own_hi ch)), (.int (own_lo ch))] (.int (0 : Int32))
set_option maxRecDepth 65536 in
set_option maxHeartbeats 40000000 in
theorem rm20_4_3 (l : Launch) (Z : State) (a0 : Array Value) (hw : ∀ d ∈ tables_1, d.before a0 Z = true) (ws : List Jvm.Cond) (u : Addr) (ch : Int32) (ku : ClassId) (w0 w1 w2 w3 w4 w5 w6 w7 : Value) (h0 : Heap) (n0 : Nat) (Z0 : n0 ≤ h0.size) (SA : Sta Z h0 "java/lang/StringUTF16" "$assertionsDisabled" "Z" (.int (1 : Int32))) (SH : Sta Z h0 "java/lang/StringUTF16" "HI_BYTE_SHIFT" "I" (.int (0 : Int32))) (SL : Sta Z h0 "java/lang/StringUTF16" "LO_BYTE_SHIFT" "I" (.int (8 : Int32))) (V0 : Arv Z h0 u ku .byte (8 : Int32) [w0, w1, w2, w3, w4, w5, w6, w7] (.int (0 : Int32))) (gu : n0 ≤ u) :
    MetFree l (⟨"java/lang/StringUTF16", "putChar", "([BII)V"⟩ : MethodName) (head1 (Jvm.Cond.code (⟨"java/lang/StringUTF16", "putChar", "([BII)V"⟩ : MethodName) jdk_52_method_4_code 3 none :: ws) ({ frames := 0, cells := 0, slots := 0, locals := 0 } : Room)) (fun aα Uα => aα = #[(.ref u), (.int (3 : Int32)), (.int ch)] ∧ Z.Warmed39 Uα.vm ∧ Uα.heap = h0) (fun _ _ _ _ _ => True) (fun _ Uα oα Uβ => ∃ vα Lα, oα = .returned vα ∧ Q_rm20_4_3 Z u ch ku w0 w1 w2 w3 w4 w5 w6 w7 h0 n0 vα Uβ.heap Lα ∧ FrameEnd Uα oα Uβ Lα ({ frames := 0, cells := 0, slots := 0, locals := 0 } : Room).cells ({ frames := 0, cells := 0, slots := 0, locals := 0 } : Room).slots) := by
  refine MetFree.of_bodySF (plainFor_of_name pn_java_lang_StringUTF16) hisR ?_
  intro p e s m args below meth c s₁ Bd hml0 hP hKα
  obtain ⟨rfl, hZ, hh⟩ := hP
  have hx := Bd.exec
  have hby := Bd.bytes
  have hml : c.maxLocals = 3 := hml0
  have hown : s.vm.findClass "java/lang/StringUTF16" = some m.cls := findClass_of_methodNamed Bd.named
  have hnm := (name_of_methodNamed Bd.named Bd.method).1
  have X0 : Stand p l e ({ frames := 0, cells := 0, slots := 0, locals := 0 } : Room) s m #[(.ref u), (.int (3 : Int32)), (.int ch)] below meth c s₁ [] 0 0 := Stand.of_body Bd
  have e0 : s₁.heap = h0 := by rw [← hh, Bd.state]; rfl
  have N0 := Fr.nil n0
  suffices k0 : Gl p e below s (Q_rm20_4_3 Z u ch ku w0 w1 w2 w3 w4 w5 w6 w7 h0 n0) ({ frames := 0, cells := 0, slots := 0, locals := 0 } : Room).cells ({ frames := 0, cells := 0, slots := 0, locals := 0 } : Room).slots s₁ (mkF m 0 #[vR u, vI (3 : Int32), vI ch] []) from Gl.st (fun τ κ => castTop (ef_rm20_4_3 m u ch) κ) k0
  obtain ⟨T794, X794, e794, st794⟩ := getS2 X0 hx hZ hown (host := "") (Or.inl (w91_ hw)) Via.refl e0 SA (g := (mkF m 0 #[vR u, vI (3 : Int32), vI ch] [])) rfl (hb hby d20_0)
  refine Gl.st (g' := (mkF m 3 #[vR u, vI (3 : Int32), vI ch] [(.int (1 : Int32))])) (fun τ κ => st794 _ κ) ?_
  have hc795 : ¬ ((1 : Int32) = (0 : Int32)) := by decide
  refine Gl.st (g' := (mkF m 29 #[vR u, vI (3 : Int32), vI ch] [(.int (3 : Int32))])) (fun τ κ => XS.ifYes X794.here hx rfl (pc0 := 3) (pc' := 28) rfl (hb hby d20_3) rfl ((if0 _ _).trans (feq hc795).2) (by decide) (by decide) (XS.iloadN X794.here hx rfl (hb hby d20_28) rfl κ)) ?_
  refine Gl.st (g' := (mkF m 31 #[vR u, vI (3 : Int32), vI ch] [(.int ((3 : Int32) <<< ((1 : Int32) &&& 31)))])) (fun τ κ => XS.iconst X794.here hx rfl (hb hby d20_29) (XS.ishl X794.here hx rfl (hb hby d20_30) rfl κ)) ?_
  rw [show ((3 : Int32) <<< ((1 : Int32) &&& 31)) = (6 : Int32) from by decide]
  refine Gl.st (g' := (mkF m 33 #[vR u, vI (6 : Int32), vI ch] [(.ref u)])) (fun τ κ => XS.istoreN X794.here hx rfl (hb hby d20_31) rfl (l' := #[vR u, vI (6 : Int32), vI ch]) rfl (XS.aloadN X794.here hx rfl (hb hby d20_32) rfl rfl κ)) ?_
  refine Gl.st (g' := (mkF m 37 #[vR u, vI (7 : Int32), vI ch] [(.int (6 : Int32)), (.ref u)])) (fun τ κ => XS.iloadN X794.here hx rfl (hb hby d20_33) rfl (XS.iinc X794.here hx rfl (hb hby d20_34) rfl (l' := #[vR u, vI (7 : Int32), vI ch]) rfl κ)) ?_
  refine Gl.st (g' := (mkF m 38 #[vR u, vI (7 : Int32), vI ch] [(.int ch), (.int (6 : Int32)), (.ref u)])) (fun τ κ => XS.iloadN X794.here hx rfl (hb hby d20_37) rfl κ) ?_
  obtain ⟨T796, X796, e796, st796⟩ := getS2 X794 hx hZ hown (host := "") (Or.inl (w92_ hw)) Via.refl e794 SH (g := (mkF m 38 #[vR u, vI (7 : Int32), vI ch] [(.int ch), (.int (6 : Int32)), (.ref u)])) rfl (hb hby d20_38)
  refine Gl.st (g' := (mkF m 41 #[vR u, vI (7 : Int32), vI ch] [(.int (0 : Int32)), (.int ch), (.int (6 : Int32)), (.ref u)])) (fun τ κ => st796 _ κ) ?_
  refine Gl.st (g' := (mkF m 43 #[vR u, vI (7 : Int32), vI ch] [(.int ((ch >>> ((0 : Int32) &&& 31)).toInt8.toInt32)), (.int (6 : Int32)), (.ref u)])) (fun τ κ => XS.ishr X796.here hx rfl (hb hby d20_41) rfl (XS.i2b X796.here hx rfl (hb hby d20_42) rfl κ)) ?_
  obtain ⟨cl_o797, Ar_o797, q_o797, S_o797, M_o797, H_o797, G_o797⟩ := id V0
  have hin_o797 : ¬ ((6 : Int32) < 0 ∨ cl_o797.slots.size ≤ ((6 : Int32)).toNatClampNeg) := inb_of S_o797 ⟨by decide, by decide⟩
  obtain ⟨T798, h798, X798, e798, W798, st798⟩ := stB X796 hx hZ e796 Ar_o797 (j := (6 : Int32)) hin_o797 (g := (mkF m 43 #[vR u, vI (7 : Int32), vI ch] [(.int ((ch >>> ((0 : Int32) &&& 31)).toInt8.toInt32)), (.int (6 : Int32)), (.ref u)])) rfl rfl (hb hby d20_43)
  have S_799 := SA.wr W798
  have S_800 := SH.wr W798
  have S_801 := SL.wr W798
  have N798 := Fr.snoc X798 N0 gu
  have Z798 : n0 ≤ h798.size := Nat.le_trans Z0 (Nat.le_of_eq W798.size.symm)
  have K798 : Keep h0 h798 [u] := (Keep.refl h0 [u]).wr W798 (Or.inl (List.mem_of_getElem? (i := 0) rfl))
  have V_u_798 : Arv Z h798 u ku .byte (8 : Int32) [w0, w1, w2, w3, w4, w5, (.int (nar .byte ((ch >>> ((0 : Int32) &&& 31)).toInt8.toInt32))), w7] (.int (0 : Int32)) := Arv.set Ar_o797 q_o797 S_o797 M_o797 H_o797 G_o797 (fits_nar_byte _) W798 6 rfl (Nat.le_of_ble_eq_true rfl)
  refine Gl.st (g' := (mkF m 44 #[vR u, vI (7 : Int32), vI ch] [])) (fun τ κ => st798 _ κ) ?_
  refine Gl.st (g' := (mkF m 46 #[vR u, vI (7 : Int32), vI ch] [(.int (7 : Int32)), (.ref u)])) (fun τ κ => XS.aloadN X798.here hx rfl (hb hby d20_44) rfl rfl (XS.iloadN X798.here hx rfl (hb hby d20_45) rfl κ)) ?_
  refine Gl.st (g' := (mkF m 47 #[vR u, vI (7 : Int32), vI ch] [(.int ch), (.int (7 : Int32)), (.ref u)])) (fun τ κ => XS.iloadN X798.here hx rfl (hb hby d20_46) rfl κ) ?_
  obtain ⟨T803, X803, e803, st803⟩ := getS2 X798 hx hZ hown (host := "") (Or.inl (w93_ hw)) Via.refl e798 S_801 (g := (mkF m 47 #[vR u, vI (7 : Int32), vI ch] [(.int ch), (.int (7 : Int32)), (.ref u)])) rfl (hb hby d20_47)
  refine Gl.st (g' := (mkF m 50 #[vR u, vI (7 : Int32), vI ch] [(.int (8 : Int32)), (.int ch), (.int (7 : Int32)), (.ref u)])) (fun τ κ => st803 _ κ) ?_
  refine Gl.st (g' := (mkF m 52 #[vR u, vI (7 : Int32), vI ch] [(.int ((ch >>> ((8 : Int32) &&& 31)).toInt8.toInt32)), (.int (7 : Int32)), (.ref u)])) (fun τ κ => XS.ishr X803.here hx rfl (hb hby d20_50) rfl (XS.i2b X803.here hx rfl (hb hby d20_51) rfl κ)) ?_
  obtain ⟨cl_o804, Ar_o804, q_o804, S_o804, M_o804, H_o804, G_o804⟩ := id V_u_798
  have hin_o804 : ¬ ((7 : Int32) < 0 ∨ cl_o804.slots.size ≤ ((7 : Int32)).toNatClampNeg) := inb_of S_o804 ⟨by decide, by decide⟩
  obtain ⟨T805, h805, X805, e805, W805, st805⟩ := stB X803 hx hZ e803 Ar_o804 (j := (7 : Int32)) hin_o804 (g := (mkF m 52 #[vR u, vI (7 : Int32), vI ch] [(.int ((ch >>> ((8 : Int32) &&& 31)).toInt8.toInt32)), (.int (7 : Int32)), (.ref u)])) rfl rfl (hb hby d20_52)
  have S_806 := S_799.wr W805
  have S_807 := S_800.wr W805
  have S_808 := S_801.wr W805
  have N805 := Fr.snoc X805 N798 gu
  have Z805 : n0 ≤ h805.size := Nat.le_trans Z798 (Nat.le_of_eq W805.size.symm)
  have K805 : Keep h0 h805 [u] := K798.wr W805 (Or.inl (List.mem_of_getElem? (i := 0) rfl))
  have V_u_805 : Arv Z h805 u ku .byte (8 : Int32) [w0, w1, w2, w3, w4, w5, (.int (nar .byte ((ch >>> ((0 : Int32) &&& 31)).toInt8.toInt32))), (.int (nar .byte ((ch >>> ((8 : Int32) &&& 31)).toInt8.toInt32)))] (.int (0 : Int32)) := Arv.set Ar_o804 q_o804 S_o804 M_o804 H_o804 G_o804 (fits_nar_byte _) W805 7 rfl (Nat.le_of_ble_eq_true rfl)
  refine Gl.st (g' := (mkF m 53 #[vR u, vI (7 : Int32), vI ch] [])) (fun τ κ => st805 _ κ) ?_
  exact Gl.ret (v := none) X805 Bd.notSynchronized (fun _ => rfl) e805 (fun fs hr => X805.returnOut hx Bd.returns (hb hby d20_53) hr) (by decide) (by decide) ⟨rfl, N805, K805, V_u_805⟩
theorem ef_rm19_4 (m : MethodId)  : entryFrame m #[(.int (4 : Int32))] 1 = mkF m 0 #[vI (4 : Int32)] [] := by first | (simp [entryFrame, mkF, argsToLocals, Value.category]; done) | rfl
def Q_rm19_4 (Z : State)   (h0 : Heap) (n0 : Nat) (v : Option Value) (h : Heap) (L : List Loc) : Prop := v = some (.int (8 : Int32)) ∧ Fr n0 L ∧ h = h0
set_option maxRecDepth 65536 in
set_option maxHeartbeats 40000000 in
theorem rm19_4 (l : Launch) (Z : State) (a0 : Array Value) (hw : ∀ d ∈ tables_1, d.before a0 Z = true) (ws : List Jvm.Cond)   (h0 : Heap) (n0 : Nat) (Z0 : n0 ≤ h0.size)  :
    MetFree l (⟨"java/lang/StringUTF16", "newBytesLength", "(I)I"⟩ : MethodName) (head1 (Jvm.Cond.code (⟨"java/lang/StringUTF16", "newBytesLength", "(I)I"⟩ : MethodName) jdk_52_method_3_code 1 (some .int) :: ws) ({ frames := 0, cells := 0, slots := 0, locals := 0 } : Room)) (fun aα Uα => aα = #[(.int (4 : Int32))] ∧ Z.Warmed39 Uα.vm ∧ Uα.heap = h0) (fun _ _ _ _ _ => True) (fun _ Uα oα Uβ => ∃ vα Lα, oα = .returned vα ∧ Q_rm19_4 Z   h0 n0 vα Uβ.heap Lα ∧ FrameEnd Uα oα Uβ Lα ({ frames := 0, cells := 0, slots := 0, locals := 0 } : Room).cells ({ frames := 0, cells := 0, slots := 0, locals := 0 } : Room).slots) := by
  refine MetFree.of_bodySF (plainFor_of_name pn_java_lang_StringUTF16) hisR ?_
  intro p e s m args below meth c s₁ Bd hml0 hP hKα
  obtain ⟨rfl, hZ, hh⟩ := hP
  have hx := Bd.exec
  have hby := Bd.bytes
  have hml : c.maxLocals = 1 := hml0
  have hown : s.vm.findClass "java/lang/StringUTF16" = some m.cls := findClass_of_methodNamed Bd.named
  have hnm := (name_of_methodNamed Bd.named Bd.method).1
  have X0 : Stand p l e ({ frames := 0, cells := 0, slots := 0, locals := 0 } : Room) s m #[(.int (4 : Int32))] below meth c s₁ [] 0 0 := Stand.of_body Bd
  have e0 : s₁.heap = h0 := by rw [← hh, Bd.state]; rfl
  have N0 := Fr.nil n0
  suffices k0 : Gl p e below s (Q_rm19_4 Z   h0 n0) ({ frames := 0, cells := 0, slots := 0, locals := 0 } : Room).cells ({ frames := 0, cells := 0, slots := 0, locals := 0 } : Room).slots s₁ (mkF m 0 #[vI (4 : Int32)] []) from Gl.st (fun τ κ => castTop (ef_rm19_4 m ) κ) k0
  refine Gl.st (g' := (mkF m 1 #[vI (4 : Int32)] [(.int (4 : Int32))])) (fun τ κ => XS.iloadN X0.here hx rfl (hb hby d19_0) rfl κ) ?_
  have hc810 : ¬ ((4 : Int32) < (0 : Int32)) := by decide
  refine Gl.st (g' := (mkF m 13 #[vI (4 : Int32)] [(.int (4 : Int32))])) (fun τ κ => XS.ifYes X0.here hx rfl (pc0 := 1) (pc' := 12) rfl (hb hby d19_1) rfl ((if0 _ _).trans (flt hc810).2.1) (by decide) (by decide) (XS.iloadN X0.here hx rfl (hb hby d19_12) rfl κ)) ?_
  refine Gl.st (g' := (mkF m 15 #[vI (4 : Int32)] [(.int (1073741823 : Int32)), (.int (4 : Int32))])) (fun τ κ => X0.ldcInt hx hown (mvT hZ (w87_ hw)) (g := (mkF m 13 #[vI (4 : Int32)] [(.int (4 : Int32))])) rfl (hb hby d19_13) _ κ) ?_
  have hc811 : (4 : Int32) < (1073741823 : Int32) := by decide
  refine Gl.st (g' := (mkF m 56 #[vI (4 : Int32)] [(.int (4 : Int32))])) (fun τ κ => XS.icmpYes X0.here hx rfl (pc0 := 15) (pc' := 55) rfl (hb hby d19_15) rfl (tlt hc811).1 (by decide) (by decide) (XS.iloadN X0.here hx rfl (hb hby d19_55) rfl κ)) ?_
  refine Gl.st (g' := (mkF m 58 #[vI (4 : Int32)] [(.int ((4 : Int32) <<< ((1 : Int32) &&& 31)))])) (fun τ κ => XS.iconst X0.here hx rfl (hb hby d19_56) (XS.ishl X0.here hx rfl (hb hby d19_57) rfl κ)) ?_
  rw [show ((4 : Int32) <<< ((1 : Int32) &&& 31)) = (8 : Int32) from by decide]
  exact Gl.ret (v := some (.int (8 : Int32))) X0 Bd.notSynchronized (fun h => by rw [Bd.returns] at h; cases h) e0 (fun fs hr => retI X0 hx Bd.returns (hb hby d19_58) hr) (by decide) (by decide) ⟨rfl, N0, rfl⟩
theorem ef_rm18_4 (m : MethodId)  : entryFrame m #[(.int (4 : Int32))] 1 = mkF m 0 #[vI (4 : Int32)] [] := by first | (simp [entryFrame, mkF, argsToLocals, Value.category]; done) | rfl
def Q_rm18_4 (Z : State)   (h0 : Heap) (n0 : Nat) (v : Option Value) (h : Heap) (L : List Loc) : Prop := ∃ b kk, v = some (.ref b) ∧ Fr n0 L ∧ Keep h0 h [] ∧ h0.size ≤ b ∧ Arv Z h b kk .byte (8 : Int32) [(.int (0 : Int32)), (.int (0 : Int32)), (.int (0 : Int32)), (.int (0 : Int32)), (.int (0 : Int32)), (.int (0 : Int32)), (.int (0 : Int32)), (.int (0 : Int32))] (.int (0 : Int32))
set_option maxRecDepth 65536 in
set_option maxHeartbeats 40000000 in
theorem rm18_4 (l : Launch) (Z : State) (a0 : Array Value) (hw : ∀ d ∈ tables_1, d.before a0 Z = true) (ws : List Jvm.Cond)   (h0 : Heap) (n0 : Nat) (Z0 : n0 ≤ h0.size)  :
    MetFree l (⟨"java/lang/StringUTF16", "newBytesFor", "(I)[B"⟩ : MethodName) (head1 (Jvm.Cond.code (⟨"java/lang/StringUTF16", "newBytesFor", "(I)[B"⟩ : MethodName) jdk_52_method_2_code 1 (some (.array .byte)) :: ws) ({ frames := 1, cells := 1, slots := 8, locals := 12 } : Room)) (fun aα Uα => aα = #[(.int (4 : Int32))] ∧ Z.Warmed39 Uα.vm ∧ Uα.heap = h0) (fun _ _ _ _ _ => True) (fun _ Uα oα Uβ => ∃ vα Lα, oα = .returned vα ∧ Q_rm18_4 Z   h0 n0 vα Uβ.heap Lα ∧ FrameEnd Uα oα Uβ Lα ({ frames := 1, cells := 1, slots := 8, locals := 12 } : Room).cells ({ frames := 1, cells := 1, slots := 8, locals := 12 } : Room).slots) := by
  refine MetFree.of_bodySF (plainFor_of_name pn_java_lang_StringUTF16) hisR ?_
  intro p e s m args below meth c s₁ Bd hml0 hP hKα
  obtain ⟨rfl, hZ, hh⟩ := hP
  have hx := Bd.exec
  have hby := Bd.bytes
  have hml : c.maxLocals = 1 := hml0
  have hown : s.vm.findClass "java/lang/StringUTF16" = some m.cls := findClass_of_methodNamed Bd.named
  have hnm := (name_of_methodNamed Bd.named Bd.method).1
  have X0 : Stand p l e ({ frames := 1, cells := 1, slots := 8, locals := 12 } : Room) s m #[(.int (4 : Int32))] below meth c s₁ [] 0 0 := Stand.of_body Bd
  have e0 : s₁.heap = h0 := by rw [← hh, Bd.state]; rfl
  have N0 := Fr.nil n0
  suffices k0 : Gl p e below s (Q_rm18_4 Z   h0 n0) ({ frames := 1, cells := 1, slots := 8, locals := 12 } : Room).cells ({ frames := 1, cells := 1, slots := 8, locals := 12 } : Room).slots s₁ (mkF m 0 #[vI (4 : Int32)] []) from Gl.st (fun τ κ => castTop (ef_rm18_4 m ) κ) k0
  refine Gl.st (g' := (mkF m 1 #[vI (4 : Int32)] [(.int (4 : Int32))])) (fun τ κ => XS.iloadN X0.here hx rfl (hb hby d18_0) rfl κ) ?_
  obtain ⟨rv812, _, ⟨T812, L812, k812, n812⟩, -, X812, ⟨Lc812, hQ812, l812, y812, z812⟩, st812⟩ := Jvm.LawKit.callS X0 hx (y := (⟨"java/lang/StringUTF16", "newBytesLength", "(I)I"⟩ : MethodName)) hown (mvT hZ (w84_ hw)) (mvT hZ (w85_ hw)) (mvT hZ (w45_ hw)) (mvT hZ (w86_ hw)) (by decide) (backOf (W := 0) (rm19_4 l Z a0 hw []  h0 n0 Z0 ) hZ (w86_ hw) (w45_ hw) (by decide) (by decide)) (g := (mkF m 1 #[vI (4 : Int32)] [(.int (4 : Int32))])) rfl (by rw [hml]; rfl) (argsL := [(.int (4 : Int32))]) (rest := []) (lenOf pd_9 rfl) rfl (by show 2 * 0 + _ ≤ _; exact Nat.le_of_eq rfl) (hb hby d18_1) (fun _ _ => ⟨rfl, e0, (by decide : 0 + 0 ≤ _), (by decide : 0 + 0 ≤ _)⟩)
  dsimp only [Pt.U, Pt.locs, Pt.cells, Pt.slots] at X812 l812 y812 z812 st812 hQ812
  subst l812 y812 z812
  obtain ⟨hq812, N812q, e812⟩ := hQ812
  have hq812 : rv812 = some (.int (8 : Int32)) := hq812
  subst hq812
  have N812 := Fr.app N0 N812q
  refine Gl.st (g' := (mkF m 4 #[vI (4 : Int32)] [(.int (8 : Int32))])) (fun τ κ => st812 _ κ) ?_
  obtain ⟨T813, h813, k813, X813, e813, E813, A813, st813⟩ := newP X812 hx hZ (hw _ (List.mem_of_getElem? (i := 21) rfl)) e812 (g := (mkF m 4 #[vI (4 : Int32)] [(.int (8 : Int32))])) rfl (hb hby d18_4) rfl (by decide) (cap := 8) (by decide) (by decide) (by decide) (by decide)
  obtain ⟨b813, g813⟩ : ∃ z, z = h0.size := ⟨_, rfl⟩
  rw [← g813] at A813 st813
  have g_b813 : n0 ≤ b813 := Nat.le_trans Z0 (Nat.le_of_eq g813.symm)
  have sz_b813 : h0.size ≤ b813 := Nat.le_trans (Keep.refl h0 []).1 (Nat.le_of_eq g813.symm)
  have Z813 : n0 ≤ h813.size := Nat.le_trans Z0 E813.1
  have K813 : Keep h0 h813 [] := (Keep.refl h0 []).ext E813
  have V_b813 : Arv Z h813 b813 k813 .byte (8 : Int32) [(.int (0 : Int32)), (.int (0 : Int32)), (.int (0 : Int32)), (.int (0 : Int32)), (.int (0 : Int32)), (.int (0 : Int32)), (.int (0 : Int32)), (.int (0 : Int32))] (.int (0 : Int32)) := (Arv.new A813 (by decide)).pad (pad_rep [] (.int (0 : Int32)) 8)
  refine Gl.st (g' := (mkF m 6 #[vI (4 : Int32)] [(.ref b813)])) (fun τ κ => st813 _ κ) ?_
  exact Gl.ret (v := some (.ref b813)) X813 Bd.notSynchronized (fun h => by rw [Bd.returns] at h; cases h) e813 (fun fs hr => retAA X813 hx Bd.returns (hb hby d18_6) hr) (by decide) (by decide) ⟨b813, k813, rfl, N812, K813, sz_b813, V_b813⟩
theorem ef_rm17_4 (m : MethodId) (ca : Addr) : entryFrame m #[(.ref ca), (.int (0 : Int32)), (.int (4 : Int32))] 5 = mkF m 0 #[vR ca, vI (0 : Int32), vI (4 : Int32), .unset, .unset] [] := by first | (simp [entryFrame, mkF, argsToLocals, Value.category]; done) | rfl
def Q_rm17_4 (Z : State) (ca : Addr) (kc : ClassId) (c0 c1 c2 c3 : Int32) (h0 : Heap) (n0 : Nat) (v : Option Value) (h : Heap) (L : List Loc) : Prop := ∃ b kk, v = some (.ref b) ∧ Fr n0 L ∧ Keep h0 h [] ∧ h0.size ≤ b ∧ Arv Z h b kk .byte (8 : Int32) [(.int (own_hi c0)), (.int (own_lo c0)), (.int (own_hi c1)), (.int (own_lo c1)), (.int (own_hi c2)), (.int (own_lo c2)), (.int (own_hi c3)), (.int (own_lo c3))] (.int (0 : Int32))
set_option maxRecDepth 65536 in
set_option maxHeartbeats 40000000 in
theorem rm17_4 (l : Launch) (Z : State) (a0 : Array Value) (hw : ∀ d ∈ tables_1, d.before a0 Z = true) (ws : List Jvm.Cond) (ca : Addr) (kc : ClassId) (c0 c1 c2 c3 : Int32) (h0 : Heap) (n0 : Nat) (Z0 : n0 ≤ h0.size) (SA : Sta Z h0 "java/lang/StringUTF16" "$assertionsDisabled" "Z" (.int (1 : Int32))) (SH : Sta Z h0 "java/lang/StringUTF16" "HI_BYTE_SHIFT" "I" (.int (0 : Int32))) (SL : Sta Z h0 "java/lang/StringUTF16" "LO_BYTE_SHIFT" "I" (.int (8 : Int32))) (V0 : Arv Z h0 ca kc .char (4 : Int32) [(.int c0), (.int c1), (.int c2), (.int c3)] (.int (0 : Int32))) :
    MetFree l (⟨"java/lang/StringUTF16", "toBytes", "([CII)[B"⟩ : MethodName) (head1 (Jvm.Cond.code (⟨"java/lang/StringUTF16", "toBytes", "([CII)[B"⟩ : MethodName) jdk_52_method_14_code 5 (some (.array .byte)) :: ws) ({ frames := 2, cells := 1, slots := 8, locals := 24 } : Room)) (fun aα Uα => aα = #[(.ref ca), (.int (0 : Int32)), (.int (4 : Int32))] ∧ Z.Warmed39 Uα.vm ∧ Uα.heap = h0) (fun _ _ _ _ _ => True) (fun _ Uα oα Uβ => ∃ vα Lα, oα = .returned vα ∧ Q_rm17_4 Z ca kc c0 c1 c2 c3 h0 n0 vα Uβ.heap Lα ∧ FrameEnd Uα oα Uβ Lα ({ frames := 2, cells := 1, slots := 8, locals := 24 } : Room).cells ({ frames := 2, cells := 1, slots := 8, locals := 24 } : Room).slots) := by
  refine MetFree.of_bodySF (plainFor_of_name pn_java_lang_StringUTF16) hisR ?_
  intro p e s m args below meth c s₁ Bd hml0 hP hKα
  obtain ⟨rfl, hZ, hh⟩ := hP
  have hx := Bd.exec
  have hby := Bd.bytes
  have hml : c.maxLocals = 5 := hml0
  have hown : s.vm.findClass "java/lang/StringUTF16" = some m.cls := findClass_of_methodNamed Bd.named
  have hnm := (name_of_methodNamed Bd.named Bd.method).1
  have X0 : Stand p l e ({ frames := 2, cells := 1, slots := 8, locals := 24 } : Room) s m #[(.ref ca), (.int (0 : Int32)), (.int (4 : Int32))] below meth c s₁ [] 0 0 := Stand.of_body Bd
  have e0 : s₁.heap = h0 := by rw [← hh, Bd.state]; rfl
  have N0 := Fr.nil n0
  suffices k0 : Gl p e below s (Q_rm17_4 Z ca kc c0 c1 c2 c3 h0 n0) ({ frames := 2, cells := 1, slots := 8, locals := 24 } : Room).cells ({ frames := 2, cells := 1, slots := 8, locals := 24 } : Room).slots s₁ (mkF m 0 #[vR ca, vI (0 : Int32), vI (4 : Int32), .unset, .unset] []) from Gl.st (fun τ κ => castTop (ef_rm17_4 m ca) κ) k0
  refine Gl.st (g' := (mkF m 1 #[vR ca, vI (0 : Int32), vI (4 : Int32), .unset, .unset] [(.int (4 : Int32))])) (fun τ κ => XS.iloadN X0.here hx rfl (hb hby d17_0) rfl κ) ?_
  obtain ⟨rv814, _, ⟨T814, L814, k814, n814⟩, -, X814, ⟨Lc814, hQ814, l814, y814, z814⟩, st814⟩ := Jvm.LawKit.callS X0 hx (y := (⟨"java/lang/StringUTF16", "newBytesFor", "(I)[B"⟩ : MethodName)) hown (mvT hZ (w81_ hw)) (mvT hZ (w82_ hw)) (mvT hZ (w45_ hw)) (mvT hZ (w83_ hw)) (by decide) (backOf (W := 0) (rm18_4 l Z a0 hw []  h0 n0 Z0 ) hZ (w83_ hw) (w45_ hw) (by decide) (by decide)) (g := (mkF m 1 #[vR ca, vI (0 : Int32), vI (4 : Int32), .unset, .unset] [(.int (4 : Int32))])) rfl (by rw [hml]; rfl) (argsL := [(.int (4 : Int32))]) (rest := []) (lenOf pd_10 rfl) rfl (by show 2 * 0 + _ ≤ _; exact Nat.le_of_eq rfl) (hb hby d17_1) (fun _ _ => ⟨rfl, e0, (by decide : 0 + 1 ≤ _), (by decide : 0 + 8 ≤ _)⟩)
  dsimp only [Pt.U, Pt.locs, Pt.cells, Pt.slots] at X814 l814 y814 z814 st814 hQ814
  subst l814 y814 z814
  obtain ⟨b814, kk814, rfl, N814q, Kc814, s814, V814⟩ := hQ814
  have ne_ca_b814 : ca ≠ b814 := Nat.ne_of_lt (Nat.lt_of_lt_of_le V0.lt s814)
  have g_b814 : n0 ≤ b814 := Nat.le_trans Z0 s814
  have sz_b814 : h0.size ≤ b814 := Nat.le_trans (Keep.refl h0 []).1 s814
  have S_815 := Sta.keepX SA Kc814 all0
  have S_816 := Sta.keepX SH Kc814 all0
  have S_817 := Sta.keepX SL Kc814 all0
  have V_818 := V0.keep Kc814 nin0
  have N814 := Fr.app N0 N814q
  have Z814 : n0 ≤ T814.heap.size := Nat.le_trans Z0 Kc814.1
  have K814 : Keep h0 T814.heap [] := (Keep.refl h0 []).trans Kc814 all0
  refine Gl.st (g' := (mkF m 4 #[vR ca, vI (0 : Int32), vI (4 : Int32), .unset, .unset] [(.ref b814)])) (fun τ κ => st814 _ κ) ?_
  refine Gl.st (g' := (mkF m 6 #[vR ca, vI (0 : Int32), vI (4 : Int32), vR b814, .unset] [(.int (0 : Int32))])) (fun τ κ => XS.astoreN X814.here hx rfl (hb hby d17_4) rfl rfl (l' := #[vR ca, vI (0 : Int32), vI (4 : Int32), vR b814, .unset]) rfl (XS.iconst X814.here hx rfl (hb hby d17_5) κ)) ?_
  refine Gl.st (g' := (mkF m 10 #[vR ca, vI (0 : Int32), vI (4 : Int32), vR b814, vI (0 : Int32)] [(.int (0 : Int32))])) (fun τ κ => XS.istore X814.here hx rfl (hb hby d17_6) rfl (l' := #[vR ca, vI (0 : Int32), vI (4 : Int32), vR b814, vI (0 : Int32)]) rfl (XS.iload X814.here hx rfl (hb hby d17_8) rfl κ)) ?_
  refine Gl.st (g' := (mkF m 11 #[vR ca, vI (0 : Int32), vI (4 : Int32), vR b814, vI (0 : Int32)] [(.int (4 : Int32)), (.int (0 : Int32))])) (fun τ κ => XS.iloadN X814.here hx rfl (hb hby d17_10) rfl κ) ?_
  have hc819 : (0 : Int32) < (4 : Int32) := by decide
  refine Gl.st (g' := (mkF m 15 #[vR ca, vI (0 : Int32), vI (4 : Int32), vR b814, vI (0 : Int32)] [(.ref b814)])) (fun τ κ => XS.icmpNo X814.here hx rfl (hb hby d17_11) rfl (tlt hc819).2.1 (XS.aloadN X814.here hx rfl (hb hby d17_14) rfl rfl κ)) ?_
  refine Gl.st (g' := (mkF m 18 #[vR ca, vI (0 : Int32), vI (4 : Int32), vR b814, vI (0 : Int32)] [(.ref ca), (.int (0 : Int32)), (.ref b814)])) (fun τ κ => XS.iload X814.here hx rfl (hb hby d17_15) rfl (XS.aloadN X814.here hx rfl (hb hby d17_17) rfl rfl κ)) ?_
  refine Gl.st (g' := (mkF m 19 #[vR ca, vI (0 : Int32), vI (4 : Int32), vR b814, vI (0 : Int32)] [(.int (0 : Int32)), (.ref ca), (.int (0 : Int32)), (.ref b814)])) (fun τ κ => XS.iloadN X814.here hx rfl (hb hby d17_18) rfl κ) ?_
  obtain ⟨cl_o820, Ar_o820, q_o820, S_o820, M_o820, H_o820, G_o820⟩ := id V_818
  have hin_o820 : ¬ ((0 : Int32) < 0 ∨ cl_o820.slots.size ≤ ((0 : Int32)).toNatClampNeg) := inb_of S_o820 ⟨by decide, by decide⟩
  refine Gl.st (g' := (mkF m 20 #[vR ca, vI (0 : Int32), vI (4 : Int32), vR b814, vI (0 : Int32)] [(.int c0), (.int (0 : Int32)), (.ref b814)])) (fun τ κ => X814.caload hx (j := (0 : Int32)) (v := (.int c0)) Ar_o820.1 (State.isArrayOf_alike hZ.alike Ar_o820.2.1) Ar_o820.2.2 hin_o820 (H_o820 0 (by rw [S_o820]; decide)) (g := (mkF m 19 #[vR ca, vI (0 : Int32), vI (4 : Int32), vR b814, vI (0 : Int32)] [(.int (0 : Int32)), (.ref ca), (.int (0 : Int32)), (.ref b814)])) rfl rfl (hb hby d17_19) _ κ) ?_
  obtain ⟨rv821, _, ⟨T821, L821, k821, n821⟩, -, X821, ⟨Lc821, hQ821, l821, y821, z821⟩, st821⟩ := Jvm.LawKit.callS X814 hx (y := (⟨"java/lang/StringUTF16", "putChar", "([BII)V"⟩ : MethodName)) hown (mvT hZ (w88_ hw)) (mvT hZ (w89_ hw)) (mvT hZ (w45_ hw)) (mvT hZ (w90_ hw)) (by decide) (backOf (W := 0) (rm20_4_0 l Z a0 hw [] b814 c0 kk814 (.int (0 : Int32)) (.int (0 : Int32)) (.int (0 : Int32)) (.int (0 : Int32)) (.int (0 : Int32)) (.int (0 : Int32)) (.int (0 : Int32)) (.int (0 : Int32)) T814.heap n0 Z814 S_815 S_816 S_817 V814 g_b814) hZ (w90_ hw) (w45_ hw) (by decide) (by decide)) (g := (mkF m 20 #[vR ca, vI (0 : Int32), vI (4 : Int32), vR b814, vI (0 : Int32)] [(.int c0), (.int (0 : Int32)), (.ref b814)])) rfl (by rw [hml]; rfl) (argsL := [(.ref b814), (.int (0 : Int32)), (.int c0)]) (rest := []) (lenOf pd_11 rfl) rfl (by show 2 * 0 + _ ≤ _; exact Nat.le_of_eq rfl) (hb hby d17_20) (fun _ _ => ⟨rfl, rfl, (by decide : 1 + 0 ≤ _), (by decide : 8 + 0 ≤ _)⟩)
  dsimp only [Pt.U, Pt.locs, Pt.cells, Pt.slots] at X821 l821 y821 z821 st821 hQ821
  subst l821 y821 z821
  obtain ⟨rfl, N821q, Kc821, V821⟩ := hQ821
  have S_822 := Sta.keepX S_815 Kc821 (allS (P := fun x => ∃ c : Cell, T814.heap[x]? = some c ∧ ∀ q, c.vm ≠ .statics q) (Arv.cellX V814) all0)
  have S_823 := Sta.keepX S_816 Kc821 (allS (P := fun x => ∃ c : Cell, T814.heap[x]? = some c ∧ ∀ q, c.vm ≠ .statics q) (Arv.cellX V814) all0)
  have S_824 := Sta.keepX S_817 Kc821 (allS (P := fun x => ∃ c : Cell, T814.heap[x]? = some c ∧ ∀ q, c.vm ≠ .statics q) (Arv.cellX V814) all0)
  have V_825 := V_818.keep Kc821 (ninS ne_ca_b814 nin0)
  have N821 := Fr.app N814 N821q
  have Z821 : n0 ≤ T821.heap.size := Nat.le_trans Z814 Kc821.1
  have K821 : Keep h0 T821.heap [] := K814.trans Kc821 (allS (Or.inr sz_b814) all0)
  refine Gl.st (g' := (mkF m 23 #[vR ca, vI (0 : Int32), vI (4 : Int32), vR b814, vI (0 : Int32)] [])) (fun τ κ => st821 _ κ) ?_
  refine Gl.st (g' := (mkF m 29 #[vR ca, vI (1 : Int32), vI (4 : Int32), vR b814, vI (1 : Int32)] [])) (fun τ κ => XS.iinc X821.here hx rfl (hb hby d17_23) rfl (l' := #[vR ca, vI (1 : Int32), vI (4 : Int32), vR b814, vI (0 : Int32)]) rfl (XS.iinc X821.here hx rfl (hb hby d17_26) rfl (l' := #[vR ca, vI (1 : Int32), vI (4 : Int32), vR b814, vI (1 : Int32)]) rfl κ)) ?_
  refine Gl.st (g' := (mkF m 10 #[vR ca, vI (1 : Int32), vI (4 : Int32), vR b814, vI (1 : Int32)] [(.int (1 : Int32))])) (fun τ κ => XS.goto X821.here hx rfl (pc0 := 29) (pc' := 8) rfl (hb hby d17_29) (by decide) (by decide) (XS.iload X821.here hx rfl (hb hby d17_8) rfl κ)) ?_
  refine Gl.st (g' := (mkF m 11 #[vR ca, vI (1 : Int32), vI (4 : Int32), vR b814, vI (1 : Int32)] [(.int (4 : Int32)), (.int (1 : Int32))])) (fun τ κ => XS.iloadN X821.here hx rfl (hb hby d17_10) rfl κ) ?_
  have hc827 : (1 : Int32) < (4 : Int32) := by decide
  refine Gl.st (g' := (mkF m 15 #[vR ca, vI (1 : Int32), vI (4 : Int32), vR b814, vI (1 : Int32)] [(.ref b814)])) (fun τ κ => XS.icmpNo X821.here hx rfl (hb hby d17_11) rfl (tlt hc827).2.1 (XS.aloadN X821.here hx rfl (hb hby d17_14) rfl rfl κ)) ?_
  refine Gl.st (g' := (mkF m 18 #[vR ca, vI (1 : Int32), vI (4 : Int32), vR b814, vI (1 : Int32)] [(.ref ca), (.int (1 : Int32)), (.ref b814)])) (fun τ κ => XS.iload X821.here hx rfl (hb hby d17_15) rfl (XS.aloadN X821.here hx rfl (hb hby d17_17) rfl rfl κ)) ?_
  refine Gl.st (g' := (mkF m 19 #[vR ca, vI (1 : Int32), vI (4 : Int32), vR b814, vI (1 : Int32)] [(.int (1 : Int32)), (.ref ca), (.int (1 : Int32)), (.ref b814)])) (fun τ κ => XS.iloadN X821.here hx rfl (hb hby d17_18) rfl κ) ?_
  obtain ⟨cl_o828, Ar_o828, q_o828, S_o828, M_o828, H_o828, G_o828⟩ := id V_825
  have hin_o828 : ¬ ((1 : Int32) < 0 ∨ cl_o828.slots.size ≤ ((1 : Int32)).toNatClampNeg) := inb_of S_o828 ⟨by decide, by decide⟩
  refine Gl.st (g' := (mkF m 20 #[vR ca, vI (1 : Int32), vI (4 : Int32), vR b814, vI (1 : Int32)] [(.int c1), (.int (1 : Int32)), (.ref b814)])) (fun τ κ => X821.caload hx (j := (1 : Int32)) (v := (.int c1)) Ar_o828.1 (State.isArrayOf_alike hZ.alike Ar_o828.2.1) Ar_o828.2.2 hin_o828 (H_o828 1 (by rw [S_o828]; decide)) (g := (mkF m 19 #[vR ca, vI (1 : Int32), vI (4 : Int32), vR b814, vI (1 : Int32)] [(.int (1 : Int32)), (.ref ca), (.int (1 : Int32)), (.ref b814)])) rfl rfl (hb hby d17_19) _ κ) ?_
  obtain ⟨rv829, _, ⟨T829, L829, k829, n829⟩, -, X829, ⟨Lc829, hQ829, l829, y829, z829⟩, st829⟩ := Jvm.LawKit.callS X821 hx (y := (⟨"java/lang/StringUTF16", "putChar", "([BII)V"⟩ : MethodName)) hown (mvT hZ (w88_ hw)) (mvT hZ (w89_ hw)) (mvT hZ (w45_ hw)) (mvT hZ (w90_ hw)) (by decide) (backOf (W := 0) (rm20_4_1 l Z a0 hw [] b814 c1 kk814 (.int (own_hi c0)) (.int (own_lo c0)) (.int (0 : Int32)) (.int (0 : Int32)) (.int (0 : Int32)) (.int (0 : Int32)) (.int (0 : Int32)) (.int (0 : Int32)) T821.heap n0 Z821 S_822 S_823 S_824 V821 g_b814) hZ (w90_ hw) (w45_ hw) (by decide) (by decide)) (g := (mkF m 20 #[vR ca, vI (1 : Int32), vI (4 : Int32), vR b814, vI (1 : Int32)] [(.int c1), (.int (1 : Int32)), (.ref b814)])) rfl (by rw [hml]; rfl) (argsL := [(.ref b814), (.int (1 : Int32)), (.int c1)]) (rest := []) (lenOf pd_11 rfl) rfl (by show 2 * 0 + _ ≤ _; exact Nat.le_of_eq rfl) (hb hby d17_20) (fun _ _ => ⟨rfl, rfl, (by decide : 1 + 0 ≤ _), (by decide : 8 + 0 ≤ _)⟩)
  dsimp only [Pt.U, Pt.locs, Pt.cells, Pt.slots] at X829 l829 y829 z829 st829 hQ829
  subst l829 y829 z829
  obtain ⟨rfl, N829q, Kc829, V829⟩ := hQ829
  have S_830 := Sta.keepX S_822 Kc829 (allS (P := fun x => ∃ c : Cell, T821.heap[x]? = some c ∧ ∀ q, c.vm ≠ .statics q) (Arv.cellX V821) all0)
  have S_831 := Sta.keepX S_823 Kc829 (allS (P := fun x => ∃ c : Cell, T821.heap[x]? = some c ∧ ∀ q, c.vm ≠ .statics q) (Arv.cellX V821) all0)
  have S_832 := Sta.keepX S_824 Kc829 (allS (P := fun x => ∃ c : Cell, T821.heap[x]? = some c ∧ ∀ q, c.vm ≠ .statics q) (Arv.cellX V821) all0)
  have V_833 := V_825.keep Kc829 (ninS ne_ca_b814 nin0)
  have N829 := Fr.app N821 N829q
  have Z829 : n0 ≤ T829.heap.size := Nat.le_trans Z821 Kc829.1
  have K829 : Keep h0 T829.heap [] := K821.trans Kc829 (allS (Or.inr sz_b814) all0)
  refine Gl.st (g' := (mkF m 23 #[vR ca, vI (1 : Int32), vI (4 : Int32), vR b814, vI (1 : Int32)] [])) (fun τ κ => st829 _ κ) ?_
  refine Gl.st (g' := (mkF m 29 #[vR ca, vI (2 : Int32), vI (4 : Int32), vR b814, vI (2 : Int32)] [])) (fun τ κ => XS.iinc X829.here hx rfl (hb hby d17_23) rfl (l' := #[vR ca, vI (2 : Int32), vI (4 : Int32), vR b814, vI (1 : Int32)]) rfl (XS.iinc X829.here hx rfl (hb hby d17_26) rfl (l' := #[vR ca, vI (2 : Int32), vI (4 : Int32), vR b814, vI (2 : Int32)]) rfl κ)) ?_
  refine Gl.st (g' := (mkF m 10 #[vR ca, vI (2 : Int32), vI (4 : Int32), vR b814, vI (2 : Int32)] [(.int (2 : Int32))])) (fun τ κ => XS.goto X829.here hx rfl (pc0 := 29) (pc' := 8) rfl (hb hby d17_29) (by decide) (by decide) (XS.iload X829.here hx rfl (hb hby d17_8) rfl κ)) ?_
  refine Gl.st (g' := (mkF m 11 #[vR ca, vI (2 : Int32), vI (4 : Int32), vR b814, vI (2 : Int32)] [(.int (4 : Int32)), (.int (2 : Int32))])) (fun τ κ => XS.iloadN X829.here hx rfl (hb hby d17_10) rfl κ) ?_
  have hc835 : (2 : Int32) < (4 : Int32) := by decide
  refine Gl.st (g' := (mkF m 15 #[vR ca, vI (2 : Int32), vI (4 : Int32), vR b814, vI (2 : Int32)] [(.ref b814)])) (fun τ κ => XS.icmpNo X829.here hx rfl (hb hby d17_11) rfl (tlt hc835).2.1 (XS.aloadN X829.here hx rfl (hb hby d17_14) rfl rfl κ)) ?_
  refine Gl.st (g' := (mkF m 18 #[vR ca, vI (2 : Int32), vI (4 : Int32), vR b814, vI (2 : Int32)] [(.ref ca), (.int (2 : Int32)), (.ref b814)])) (fun τ κ => XS.iload X829.here hx rfl (hb hby d17_15) rfl (XS.aloadN X829.here hx rfl (hb hby d17_17) rfl rfl κ)) ?_
  refine Gl.st (g' := (mkF m 19 #[vR ca, vI (2 : Int32), vI (4 : Int32), vR b814, vI (2 : Int32)] [(.int (2 : Int32)), (.ref ca), (.int (2 : Int32)), (.ref b814)])) (fun τ κ => XS.iloadN X829.here hx rfl (hb hby d17_18) rfl κ) ?_
  obtain ⟨cl_o836, Ar_o836, q_o836, S_o836, M_o836, H_o836, G_o836⟩ := id V_833
  have hin_o836 : ¬ ((2 : Int32) < 0 ∨ cl_o836.slots.size ≤ ((2 : Int32)).toNatClampNeg) := inb_of S_o836 ⟨by decide, by decide⟩
  refine Gl.st (g' := (mkF m 20 #[vR ca, vI (2 : Int32), vI (4 : Int32), vR b814, vI (2 : Int32)] [(.int c2), (.int (2 : Int32)), (.ref b814)])) (fun τ κ => X829.caload hx (j := (2 : Int32)) (v := (.int c2)) Ar_o836.1 (State.isArrayOf_alike hZ.alike Ar_o836.2.1) Ar_o836.2.2 hin_o836 (H_o836 2 (by rw [S_o836]; decide)) (g := (mkF m 19 #[vR ca, vI (2 : Int32), vI (4 : Int32), vR b814, vI (2 : Int32)] [(.int (2 : Int32)), (.ref ca), (.int (2 : Int32)), (.ref b814)])) rfl rfl (hb hby d17_19) _ κ) ?_
  obtain ⟨rv837, _, ⟨T837, L837, k837, n837⟩, -, X837, ⟨Lc837, hQ837, l837, y837, z837⟩, st837⟩ := Jvm.LawKit.callS X829 hx (y := (⟨"java/lang/StringUTF16", "putChar", "([BII)V"⟩ : MethodName)) hown (mvT hZ (w88_ hw)) (mvT hZ (w89_ hw)) (mvT hZ (w45_ hw)) (mvT hZ (w90_ hw)) (by decide) (backOf (W := 0) (rm20_4_2 l Z a0 hw [] b814 c2 kk814 (.int (own_hi c0)) (.int (own_lo c0)) (.int (own_hi c1)) (.int (own_lo c1)) (.int (0 : Int32)) (.int (0 : Int32)) (.int (0 : Int32)) (.int (0 : Int32)) T829.heap n0 Z829 S_830 S_831 S_832 V829 g_b814) hZ (w90_ hw) (w45_ hw) (by decide) (by decide)) (g := (mkF m 20 #[vR ca, vI (2 : Int32), vI (4 : Int32), vR b814, vI (2 : Int32)] [(.int c2), (.int (2 : Int32)), (.ref b814)])) rfl (by rw [hml]; rfl) (argsL := [(.ref b814), (.int (2 : Int32)), (.int c2)]) (rest := []) (lenOf pd_11 rfl) rfl (by show 2 * 0 + _ ≤ _; exact Nat.le_of_eq rfl) (hb hby d17_20) (fun _ _ => ⟨rfl, rfl, (by decide : 1 + 0 ≤ _), (by decide : 8 + 0 ≤ _)⟩)
  dsimp only [Pt.U, Pt.locs, Pt.cells, Pt.slots] at X837 l837 y837 z837 st837 hQ837
  subst l837 y837 z837
  obtain ⟨rfl, N837q, Kc837, V837⟩ := hQ837
  have S_838 := Sta.keepX S_830 Kc837 (allS (P := fun x => ∃ c : Cell, T829.heap[x]? = some c ∧ ∀ q, c.vm ≠ .statics q) (Arv.cellX V829) all0)
  have S_839 := Sta.keepX S_831 Kc837 (allS (P := fun x => ∃ c : Cell, T829.heap[x]? = some c ∧ ∀ q, c.vm ≠ .statics q) (Arv.cellX V829) all0)
  have S_840 := Sta.keepX S_832 Kc837 (allS (P := fun x => ∃ c : Cell, T829.heap[x]? = some c ∧ ∀ q, c.vm ≠ .statics q) (Arv.cellX V829) all0)
  have V_841 := V_833.keep Kc837 (ninS ne_ca_b814 nin0)
  have N837 := Fr.app N829 N837q
  have Z837 : n0 ≤ T837.heap.size := Nat.le_trans Z829 Kc837.1
  have K837 : Keep h0 T837.heap [] := K829.trans Kc837 (allS (Or.inr sz_b814) all0)
  refine Gl.st (g' := (mkF m 23 #[vR ca, vI (2 : Int32), vI (4 : Int32), vR b814, vI (2 : Int32)] [])) (fun τ κ => st837 _ κ) ?_
  refine Gl.st (g' := (mkF m 29 #[vR ca, vI (3 : Int32), vI (4 : Int32), vR b814, vI (3 : Int32)] [])) (fun τ κ => XS.iinc X837.here hx rfl (hb hby d17_23) rfl (l' := #[vR ca, vI (3 : Int32), vI (4 : Int32), vR b814, vI (2 : Int32)]) rfl (XS.iinc X837.here hx rfl (hb hby d17_26) rfl (l' := #[vR ca, vI (3 : Int32), vI (4 : Int32), vR b814, vI (3 : Int32)]) rfl κ)) ?_
  refine Gl.st (g' := (mkF m 10 #[vR ca, vI (3 : Int32), vI (4 : Int32), vR b814, vI (3 : Int32)] [(.int (3 : Int32))])) (fun τ κ => XS.goto X837.here hx rfl (pc0 := 29) (pc' := 8) rfl (hb hby d17_29) (by decide) (by decide) (XS.iload X837.here hx rfl (hb hby d17_8) rfl κ)) ?_
  refine Gl.st (g' := (mkF m 11 #[vR ca, vI (3 : Int32), vI (4 : Int32), vR b814, vI (3 : Int32)] [(.int (4 : Int32)), (.int (3 : Int32))])) (fun τ κ => XS.iloadN X837.here hx rfl (hb hby d17_10) rfl κ) ?_
  have hc843 : (3 : Int32) < (4 : Int32) := by decide
  refine Gl.st (g' := (mkF m 15 #[vR ca, vI (3 : Int32), vI (4 : Int32), vR b814, vI (3 : Int32)] [(.ref b814)])) (fun τ κ => XS.icmpNo X837.here hx rfl (hb hby d17_11) rfl (tlt hc843).2.1 (XS.aloadN X837.here hx rfl (hb hby d17_14) rfl rfl κ)) ?_
  refine Gl.st (g' := (mkF m 18 #[vR ca, vI (3 : Int32), vI (4 : Int32), vR b814, vI (3 : Int32)] [(.ref ca), (.int (3 : Int32)), (.ref b814)])) (fun τ κ => XS.iload X837.here hx rfl (hb hby d17_15) rfl (XS.aloadN X837.here hx rfl (hb hby d17_17) rfl rfl κ)) ?_
  refine Gl.st (g' := (mkF m 19 #[vR ca, vI (3 : Int32), vI (4 : Int32), vR b814, vI (3 : Int32)] [(.int (3 : Int32)), (.ref ca), (.int (3 : Int32)), (.ref b814)])) (fun τ κ => XS.iloadN X837.here hx rfl (hb hby d17_18) rfl κ) ?_
  obtain ⟨cl_o844, Ar_o844, q_o844, S_o844, M_o844, H_o844, G_o844⟩ := id V_841
  have hin_o844 : ¬ ((3 : Int32) < 0 ∨ cl_o844.slots.size ≤ ((3 : Int32)).toNatClampNeg) := inb_of S_o844 ⟨by decide, by decide⟩
  refine Gl.st (g' := (mkF m 20 #[vR ca, vI (3 : Int32), vI (4 : Int32), vR b814, vI (3 : Int32)] [(.int c3), (.int (3 : Int32)), (.ref b814)])) (fun τ κ => X837.caload hx (j := (3 : Int32)) (v := (.int c3)) Ar_o844.1 (State.isArrayOf_alike hZ.alike Ar_o844.2.1) Ar_o844.2.2 hin_o844 (H_o844 3 (by rw [S_o844]; decide)) (g := (mkF m 19 #[vR ca, vI (3 : Int32), vI (4 : Int32), vR b814, vI (3 : Int32)] [(.int (3 : Int32)), (.ref ca), (.int (3 : Int32)), (.ref b814)])) rfl rfl (hb hby d17_19) _ κ) ?_
  obtain ⟨rv845, _, ⟨T845, L845, k845, n845⟩, -, X845, ⟨Lc845, hQ845, l845, y845, z845⟩, st845⟩ := Jvm.LawKit.callS X837 hx (y := (⟨"java/lang/StringUTF16", "putChar", "([BII)V"⟩ : MethodName)) hown (mvT hZ (w88_ hw)) (mvT hZ (w89_ hw)) (mvT hZ (w45_ hw)) (mvT hZ (w90_ hw)) (by decide) (backOf (W := 0) (rm20_4_3 l Z a0 hw [] b814 c3 kk814 (.int (own_hi c0)) (.int (own_lo c0)) (.int (own_hi c1)) (.int (own_lo c1)) (.int (own_hi c2)) (.int (own_lo c2)) (.int (0 : Int32)) (.int (0 : Int32)) T837.heap n0 Z837 S_838 S_839 S_840 V837 g_b814) hZ (w90_ hw) (w45_ hw) (by decide) (by decide)) (g := (mkF m 20 #[vR ca, vI (3 : Int32), vI (4 : Int32), vR b814, vI (3 : Int32)] [(.int c3), (.int (3 : Int32)), (.ref b814)])) rfl (by rw [hml]; rfl) (argsL := [(.ref b814), (.int (3 : Int32)), (.int c3)]) (rest := []) (lenOf pd_11 rfl) rfl (by show 2 * 0 + _ ≤ _; exact Nat.le_of_eq rfl) (hb hby d17_20) (fun _ _ => ⟨rfl, rfl, (by decide : 1 + 0 ≤ _), (by decide : 8 + 0 ≤ _)⟩)
  dsimp only [Pt.U, Pt.locs, Pt.cells, Pt.slots] at X845 l845 y845 z845 st845 hQ845
  subst l845 y845 z845
  obtain ⟨rfl, N845q, Kc845, V845⟩ := hQ845
  have S_846 := Sta.keepX S_838 Kc845 (allS (P := fun x => ∃ c : Cell, T837.heap[x]? = some c ∧ ∀ q, c.vm ≠ .statics q) (Arv.cellX V837) all0)
  have S_847 := Sta.keepX S_839 Kc845 (allS (P := fun x => ∃ c : Cell, T837.heap[x]? = some c ∧ ∀ q, c.vm ≠ .statics q) (Arv.cellX V837) all0)
  have S_848 := Sta.keepX S_840 Kc845 (allS (P := fun x => ∃ c : Cell, T837.heap[x]? = some c ∧ ∀ q, c.vm ≠ .statics q) (Arv.cellX V837) all0)
  have V_849 := V_841.keep Kc845 (ninS ne_ca_b814 nin0)
  have N845 := Fr.app N837 N845q
  have Z845 : n0 ≤ T845.heap.size := Nat.le_trans Z837 Kc845.1
  have K845 : Keep h0 T845.heap [] := K837.trans Kc845 (allS (Or.inr sz_b814) all0)
  refine Gl.st (g' := (mkF m 23 #[vR ca, vI (3 : Int32), vI (4 : Int32), vR b814, vI (3 : Int32)] [])) (fun τ κ => st845 _ κ) ?_
  refine Gl.st (g' := (mkF m 29 #[vR ca, vI (4 : Int32), vI (4 : Int32), vR b814, vI (4 : Int32)] [])) (fun τ κ => XS.iinc X845.here hx rfl (hb hby d17_23) rfl (l' := #[vR ca, vI (4 : Int32), vI (4 : Int32), vR b814, vI (3 : Int32)]) rfl (XS.iinc X845.here hx rfl (hb hby d17_26) rfl (l' := #[vR ca, vI (4 : Int32), vI (4 : Int32), vR b814, vI (4 : Int32)]) rfl κ)) ?_
  refine Gl.st (g' := (mkF m 10 #[vR ca, vI (4 : Int32), vI (4 : Int32), vR b814, vI (4 : Int32)] [(.int (4 : Int32))])) (fun τ κ => XS.goto X845.here hx rfl (pc0 := 29) (pc' := 8) rfl (hb hby d17_29) (by decide) (by decide) (XS.iload X845.here hx rfl (hb hby d17_8) rfl κ)) ?_
  refine Gl.st (g' := (mkF m 11 #[vR ca, vI (4 : Int32), vI (4 : Int32), vR b814, vI (4 : Int32)] [(.int (4 : Int32)), (.int (4 : Int32))])) (fun τ κ => XS.iloadN X845.here hx rfl (hb hby d17_10) rfl κ) ?_
  have hc851 : ¬ ((4 : Int32) < (4 : Int32)) := by decide
  refine Gl.st (g' := (mkF m 33 #[vR ca, vI (4 : Int32), vI (4 : Int32), vR b814, vI (4 : Int32)] [(.ref b814)])) (fun τ κ => XS.icmpYes X845.here hx rfl (pc0 := 11) (pc' := 32) rfl (hb hby d17_11) rfl (flt hc851).2.1 (by decide) (by decide) (XS.aloadN X845.here hx rfl (hb hby d17_32) rfl rfl κ)) ?_
  exact Gl.ret (v := some (.ref b814)) X845 Bd.notSynchronized (fun h => by rw [Bd.returns] at h; cases h) rfl (fun fs hr => retAA X845 hx Bd.returns (hb hby d17_33) hr) (by decide) (by decide) ⟨b814, kk814, rfl, N845, K845, sz_b814, V845⟩
theorem ef_rm9_4 (m : MethodId) (ca : Addr) (u : Addr) : entryFrame m #[(.ref ca), (.int (0 : Int32)), (.ref u), (.int (0 : Int32)), (.int (4 : Int32))] 7 = mkF m 0 #[vR ca, vI (0 : Int32), vR u, vI (0 : Int32), vI (4 : Int32), .unset, .unset] [] := by first | (simp [entryFrame, mkF, argsToLocals, Value.category]; done) | rfl
def Q_rm9_4 (Z : State) (ca : Addr) (u : Addr) (kc ku : ClassId) (c0 c1 c2 c3 : Int32) (h0 : Heap) (n0 : Nat) (v : Option Value) (h : Heap) (L : List Loc) : Prop := ∃ j, v = some (.int j) ∧ Fr n0 L ∧ Keep h0 h [u] ∧ ((j = (4 : Int32) ∧ ¬ (255 : Int32) < c0 ∧ ¬ (255 : Int32) < c1 ∧ ¬ (255 : Int32) < c2 ∧ ¬ (255 : Int32) < c3 ∧ Arv Z h u ku .byte (4 : Int32) [(.int (own_lb c0)), (.int (own_lb c1)), (.int (own_lb c2)), (.int (own_lb c3))] (.int (0 : Int32))) ∨ (j = (0 : Int32) ∧ (255 : Int32) < c0) ∨ (j = (1 : Int32) ∧ (255 : Int32) < c1) ∨ (j = (2 : Int32) ∧ (255 : Int32) < c2) ∨ (j = (3 : Int32) ∧ (255 : Int32) < c3))
set_option maxRecDepth 65536 in
set_option maxHeartbeats 40000000 in
theorem rm9_4 (l : Launch) (Z : State) (a0 : Array Value) (hw : ∀ d ∈ tables_1, d.before a0 Z = true) (ws : List Jvm.Cond) (ca : Addr) (u : Addr) (kc ku : ClassId) (c0 c1 c2 c3 : Int32) (h0 : Heap) (n0 : Nat) (Z0 : n0 ≤ h0.size) (V0 : Arv Z h0 ca kc .char (4 : Int32) [(.int c0), (.int c1), (.int c2), (.int c3)] (.int (0 : Int32))) (V1 : Arv Z h0 u ku .byte (4 : Int32) [(.int (0 : Int32)), (.int (0 : Int32)), (.int (0 : Int32)), (.int (0 : Int32))] (.int (0 : Int32))) (gu : n0 ≤ u) (hne : ca ≠ u) :
    MetFree l (⟨"java/lang/StringUTF16", "compress", "([CI[BII)I"⟩ : MethodName) (head1 (Jvm.Cond.code (⟨"java/lang/StringUTF16", "compress", "([CI[BII)I"⟩ : MethodName) jdk_52_method_21_code 7 (some .int) :: ws) ({ frames := 0, cells := 0, slots := 0, locals := 0 } : Room)) (fun aα Uα => aα = #[(.ref ca), (.int (0 : Int32)), (.ref u), (.int (0 : Int32)), (.int (4 : Int32))] ∧ Z.Warmed39 Uα.vm ∧ Uα.heap = h0) (fun _ _ _ _ _ => True) (fun _ Uα oα Uβ => ∃ vα Lα, oα = .returned vα ∧ Q_rm9_4 Z ca u kc ku c0 c1 c2 c3 h0 n0 vα Uβ.heap Lα ∧ FrameEnd Uα oα Uβ Lα ({ frames := 0, cells := 0, slots := 0, locals := 0 } : Room).cells ({ frames := 0, cells := 0, slots := 0, locals := 0 } : Room).slots) := by
  refine MetFree.of_bodySF (plainFor_of_name pn_java_lang_StringUTF16) hisR ?_
  intro p e s m args below meth c s₁ Bd hml0 hP hKα
  obtain ⟨rfl, hZ, hh⟩ := hP
  have hx := Bd.exec
  have hby := Bd.bytes
  have hml : c.maxLocals = 7 := hml0
  have hown : s.vm.findClass "java/lang/StringUTF16" = some m.cls := findClass_of_methodNamed Bd.named
  have hnm := (name_of_methodNamed Bd.named Bd.method).1
  have X0 : Stand p l e ({ frames := 0, cells := 0, slots := 0, locals := 0 } : Room) s m #[(.ref ca), (.int (0 : Int32)), (.ref u), (.int (0 : Int32)), (.int (4 : Int32))] below meth c s₁ [] 0 0 := Stand.of_body Bd
  have e0 : s₁.heap = h0 := by rw [← hh, Bd.state]; rfl
  have N0 := Fr.nil n0
  suffices k0 : Gl p e below s (Q_rm9_4 Z ca u kc ku c0 c1 c2 c3 h0 n0) ({ frames := 0, cells := 0, slots := 0, locals := 0 } : Room).cells ({ frames := 0, cells := 0, slots := 0, locals := 0 } : Room).slots s₁ (mkF m 0 #[vR ca, vI (0 : Int32), vR u, vI (0 : Int32), vI (4 : Int32), .unset, .unset] []) from Gl.st (fun τ κ => castTop (ef_rm9_4 m ca u) κ) k0
  refine Gl.st (g' := (mkF m 3 #[vR ca, vI (0 : Int32), vR u, vI (0 : Int32), vI (4 : Int32), vI (0 : Int32), .unset] [])) (fun τ κ => XS.iconst X0.here hx rfl (hb hby d9_0) (XS.istore X0.here hx rfl (hb hby d9_1) rfl (l' := #[vR ca, vI (0 : Int32), vR u, vI (0 : Int32), vI (4 : Int32), vI (0 : Int32), .unset]) rfl κ)) ?_
  refine Gl.st (g' := (mkF m 7 #[vR ca, vI (0 : Int32), vR u, vI (0 : Int32), vI (4 : Int32), vI (0 : Int32), .unset] [(.int (4 : Int32)), (.int (0 : Int32))])) (fun τ κ => XS.iload X0.here hx rfl (hb hby d9_3) rfl (XS.iload X0.here hx rfl (hb hby d9_5) rfl κ)) ?_
  have hc852 : (0 : Int32) < (4 : Int32) := by decide
  refine Gl.st (g' := (mkF m 11 #[vR ca, vI (0 : Int32), vR u, vI (0 : Int32), vI (4 : Int32), vI (0 : Int32), .unset] [(.ref ca)])) (fun τ κ => XS.icmpNo X0.here hx rfl (hb hby d9_7) rfl (tlt hc852).2.1 (XS.aloadN X0.here hx rfl (hb hby d9_10) rfl rfl κ)) ?_
  refine Gl.st (g' := (mkF m 12 #[vR ca, vI (0 : Int32), vR u, vI (0 : Int32), vI (4 : Int32), vI (0 : Int32), .unset] [(.int (0 : Int32)), (.ref ca)])) (fun τ κ => XS.iloadN X0.here hx rfl (hb hby d9_11) rfl κ) ?_
  obtain ⟨cl_o853, Ar_o853, q_o853, S_o853, M_o853, H_o853, G_o853⟩ := id V0
  have hin_o853 : ¬ ((0 : Int32) < 0 ∨ cl_o853.slots.size ≤ ((0 : Int32)).toNatClampNeg) := inb_of S_o853 ⟨by decide, by decide⟩
  refine Gl.st (g' := (mkF m 13 #[vR ca, vI (0 : Int32), vR u, vI (0 : Int32), vI (4 : Int32), vI (0 : Int32), .unset] [(.int c0)])) (fun τ κ => X0.caload hx (j := (0 : Int32)) (v := (.int c0)) (by rw [e0]; exact Ar_o853.1) (State.isArrayOf_alike hZ.alike Ar_o853.2.1) Ar_o853.2.2 hin_o853 (H_o853 0 (by rw [S_o853]; decide)) (g := (mkF m 12 #[vR ca, vI (0 : Int32), vR u, vI (0 : Int32), vI (4 : Int32), vI (0 : Int32), .unset] [(.int (0 : Int32)), (.ref ca)])) rfl rfl (hb hby d9_12) _ κ) ?_
  refine Gl.st (g' := (mkF m 17 #[vR ca, vI (0 : Int32), vR u, vI (0 : Int32), vI (4 : Int32), vI (0 : Int32), vI c0] [(.int c0)])) (fun τ κ => XS.istore X0.here hx rfl (hb hby d9_13) rfl (l' := #[vR ca, vI (0 : Int32), vR u, vI (0 : Int32), vI (4 : Int32), vI (0 : Int32), vI c0]) rfl (XS.iload X0.here hx rfl (hb hby d9_15) rfl κ)) ?_
  refine Gl.st (g' := (mkF m 20 #[vR ca, vI (0 : Int32), vR u, vI (0 : Int32), vI (4 : Int32), vI (0 : Int32), vI c0] [(.int (255 : Int32)), (.int c0)])) (fun τ κ => XS.sipush X0.here hx rfl (hb hby d9_17) κ) ?_
  by_cases hc854 : (255 : Int32) < c0
  · -- pc 20: (255 : Int32) < c0
    refine Gl.st (g' := (mkF m 25 #[vR ca, vI (0 : Int32), vR u, vI (0 : Int32), vI (4 : Int32), vI (0 : Int32), vI c0] [(.int (0 : Int32))])) (fun τ κ => XS.icmpNo X0.here hx rfl (hb hby d9_20) rfl (tlt hc854).2.2.2 (XS.iload X0.here hx rfl (hb hby d9_23) rfl κ)) ?_
    exact Gl.ret (v := some (.int (0 : Int32))) X0 Bd.notSynchronized (fun h => by rw [Bd.returns] at h; cases h) e0 (fun fs hr => retI X0 hx Bd.returns (hb hby d9_25) hr) (by decide) (by decide) ⟨_, rfl, N0, (Keep.refl h0 [u]), Or.inr (Or.inl ⟨rfl, hc854⟩)⟩
  · -- pc 20: not (255 : Int32) < c0
    refine Gl.st (g' := (mkF m 27 #[vR ca, vI (0 : Int32), vR u, vI (0 : Int32), vI (4 : Int32), vI (0 : Int32), vI c0] [(.ref u)])) (fun τ κ => XS.icmpYes X0.here hx rfl (pc0 := 20) (pc' := 26) rfl (hb hby d9_20) rfl (flt hc854).2.2.2 (by decide) (by decide) (XS.aloadN X0.here hx rfl (hb hby d9_26) rfl rfl κ)) ?_
    refine Gl.st (g' := (mkF m 30 #[vR ca, vI (0 : Int32), vR u, vI (0 : Int32), vI (4 : Int32), vI (0 : Int32), vI c0] [(.int c0), (.int (0 : Int32)), (.ref u)])) (fun τ κ => XS.iloadN X0.here hx rfl (hb hby d9_27) rfl (XS.iload X0.here hx rfl (hb hby d9_28) rfl κ)) ?_
    refine Gl.st (g' := (mkF m 31 #[vR ca, vI (0 : Int32), vR u, vI (0 : Int32), vI (4 : Int32), vI (0 : Int32), vI c0] [(.int (c0.toInt8.toInt32)), (.int (0 : Int32)), (.ref u)])) (fun τ κ => XS.i2b X0.here hx rfl (hb hby d9_30) rfl κ) ?_
    obtain ⟨cl_o855, Ar_o855, q_o855, S_o855, M_o855, H_o855, G_o855⟩ := id V1
    have hin_o855 : ¬ ((0 : Int32) < 0 ∨ cl_o855.slots.size ≤ ((0 : Int32)).toNatClampNeg) := inb_of S_o855 ⟨by decide, by decide⟩
    obtain ⟨T856, h856, X856, e856, W856, st856⟩ := stB X0 hx hZ e0 Ar_o855 (j := (0 : Int32)) hin_o855 (g := (mkF m 31 #[vR ca, vI (0 : Int32), vR u, vI (0 : Int32), vI (4 : Int32), vI (0 : Int32), vI c0] [(.int (c0.toInt8.toInt32)), (.int (0 : Int32)), (.ref u)])) rfl rfl (hb hby d9_31)
    have V_857 := V0.other W856 hne
    have N856 := Fr.snoc X856 N0 gu
    have Z856 : n0 ≤ h856.size := Nat.le_trans Z0 (Nat.le_of_eq W856.size.symm)
    have K856 : Keep h0 h856 [u] := (Keep.refl h0 [u]).wr W856 (Or.inl (List.mem_of_getElem? (i := 0) rfl))
    have V_u_856 : Arv Z h856 u ku .byte (4 : Int32) [(.int (nar .byte (c0.toInt8.toInt32))), (.int (0 : Int32)), (.int (0 : Int32)), (.int (0 : Int32))] (.int (0 : Int32)) := Arv.set Ar_o855 q_o855 S_o855 M_o855 H_o855 G_o855 (fits_nar_byte _) W856 0 rfl (Nat.le_of_ble_eq_true rfl)
    refine Gl.st (g' := (mkF m 32 #[vR ca, vI (0 : Int32), vR u, vI (0 : Int32), vI (4 : Int32), vI (0 : Int32), vI c0] [])) (fun τ κ => st856 _ κ) ?_
    refine Gl.st (g' := (mkF m 38 #[vR ca, vI (1 : Int32), vR u, vI (1 : Int32), vI (4 : Int32), vI (0 : Int32), vI c0] [])) (fun τ κ => XS.iinc X856.here hx rfl (hb hby d9_32) rfl (l' := #[vR ca, vI (1 : Int32), vR u, vI (0 : Int32), vI (4 : Int32), vI (0 : Int32), vI c0]) rfl (XS.iinc X856.here hx rfl (hb hby d9_35) rfl (l' := #[vR ca, vI (1 : Int32), vR u, vI (1 : Int32), vI (4 : Int32), vI (0 : Int32), vI c0]) rfl κ)) ?_
    refine Gl.st (g' := (mkF m 3 #[vR ca, vI (1 : Int32), vR u, vI (1 : Int32), vI (4 : Int32), vI (1 : Int32), vI c0] [])) (fun τ κ => XS.iinc X856.here hx rfl (hb hby d9_38) rfl (l' := #[vR ca, vI (1 : Int32), vR u, vI (1 : Int32), vI (4 : Int32), vI (1 : Int32), vI c0]) rfl (XS.goto X856.here hx rfl (pc0 := 41) (pc' := 3) rfl (hb hby d9_41) (by decide) (by decide) κ)) ?_
    refine Gl.st (g' := (mkF m 7 #[vR ca, vI (1 : Int32), vR u, vI (1 : Int32), vI (4 : Int32), vI (1 : Int32), vI c0] [(.int (4 : Int32)), (.int (1 : Int32))])) (fun τ κ => XS.iload X856.here hx rfl (hb hby d9_3) rfl (XS.iload X856.here hx rfl (hb hby d9_5) rfl κ)) ?_
    have hc859 : (1 : Int32) < (4 : Int32) := by decide
    refine Gl.st (g' := (mkF m 11 #[vR ca, vI (1 : Int32), vR u, vI (1 : Int32), vI (4 : Int32), vI (1 : Int32), vI c0] [(.ref ca)])) (fun τ κ => XS.icmpNo X856.here hx rfl (hb hby d9_7) rfl (tlt hc859).2.1 (XS.aloadN X856.here hx rfl (hb hby d9_10) rfl rfl κ)) ?_
    refine Gl.st (g' := (mkF m 12 #[vR ca, vI (1 : Int32), vR u, vI (1 : Int32), vI (4 : Int32), vI (1 : Int32), vI c0] [(.int (1 : Int32)), (.ref ca)])) (fun τ κ => XS.iloadN X856.here hx rfl (hb hby d9_11) rfl κ) ?_
    obtain ⟨cl_o860, Ar_o860, q_o860, S_o860, M_o860, H_o860, G_o860⟩ := id V_857
    have hin_o860 : ¬ ((1 : Int32) < 0 ∨ cl_o860.slots.size ≤ ((1 : Int32)).toNatClampNeg) := inb_of S_o860 ⟨by decide, by decide⟩
    refine Gl.st (g' := (mkF m 13 #[vR ca, vI (1 : Int32), vR u, vI (1 : Int32), vI (4 : Int32), vI (1 : Int32), vI c0] [(.int c1)])) (fun τ κ => X856.caload hx (j := (1 : Int32)) (v := (.int c1)) (by rw [e856]; exact Ar_o860.1) (State.isArrayOf_alike hZ.alike Ar_o860.2.1) Ar_o860.2.2 hin_o860 (H_o860 1 (by rw [S_o860]; decide)) (g := (mkF m 12 #[vR ca, vI (1 : Int32), vR u, vI (1 : Int32), vI (4 : Int32), vI (1 : Int32), vI c0] [(.int (1 : Int32)), (.ref ca)])) rfl rfl (hb hby d9_12) _ κ) ?_
    refine Gl.st (g' := (mkF m 17 #[vR ca, vI (1 : Int32), vR u, vI (1 : Int32), vI (4 : Int32), vI (1 : Int32), vI c1] [(.int c1)])) (fun τ κ => XS.istore X856.here hx rfl (hb hby d9_13) rfl (l' := #[vR ca, vI (1 : Int32), vR u, vI (1 : Int32), vI (4 : Int32), vI (1 : Int32), vI c1]) rfl (XS.iload X856.here hx rfl (hb hby d9_15) rfl κ)) ?_
    refine Gl.st (g' := (mkF m 20 #[vR ca, vI (1 : Int32), vR u, vI (1 : Int32), vI (4 : Int32), vI (1 : Int32), vI c1] [(.int (255 : Int32)), (.int c1)])) (fun τ κ => XS.sipush X856.here hx rfl (hb hby d9_17) κ) ?_
    by_cases hc861 : (255 : Int32) < c1
    · -- pc 20: (255 : Int32) < c1
      refine Gl.st (g' := (mkF m 25 #[vR ca, vI (1 : Int32), vR u, vI (1 : Int32), vI (4 : Int32), vI (1 : Int32), vI c1] [(.int (1 : Int32))])) (fun τ κ => XS.icmpNo X856.here hx rfl (hb hby d9_20) rfl (tlt hc861).2.2.2 (XS.iload X856.here hx rfl (hb hby d9_23) rfl κ)) ?_
      exact Gl.ret (v := some (.int (1 : Int32))) X856 Bd.notSynchronized (fun h => by rw [Bd.returns] at h; cases h) e856 (fun fs hr => retI X856 hx Bd.returns (hb hby d9_25) hr) (by decide) (by decide) ⟨_, rfl, N856, K856, Or.inr (Or.inr (Or.inl ⟨rfl, hc861⟩))⟩
    · -- pc 20: not (255 : Int32) < c1
      refine Gl.st (g' := (mkF m 27 #[vR ca, vI (1 : Int32), vR u, vI (1 : Int32), vI (4 : Int32), vI (1 : Int32), vI c1] [(.ref u)])) (fun τ κ => XS.icmpYes X856.here hx rfl (pc0 := 20) (pc' := 26) rfl (hb hby d9_20) rfl (flt hc861).2.2.2 (by decide) (by decide) (XS.aloadN X856.here hx rfl (hb hby d9_26) rfl rfl κ)) ?_
      refine Gl.st (g' := (mkF m 30 #[vR ca, vI (1 : Int32), vR u, vI (1 : Int32), vI (4 : Int32), vI (1 : Int32), vI c1] [(.int c1), (.int (1 : Int32)), (.ref u)])) (fun τ κ => XS.iloadN X856.here hx rfl (hb hby d9_27) rfl (XS.iload X856.here hx rfl (hb hby d9_28) rfl κ)) ?_
      refine Gl.st (g' := (mkF m 31 #[vR ca, vI (1 : Int32), vR u, vI (1 : Int32), vI (4 : Int32), vI (1 : Int32), vI c1] [(.int (c1.toInt8.toInt32)), (.int (1 : Int32)), (.ref u)])) (fun τ κ => XS.i2b X856.here hx rfl (hb hby d9_30) rfl κ) ?_
      obtain ⟨cl_o862, Ar_o862, q_o862, S_o862, M_o862, H_o862, G_o862⟩ := id V_u_856
      have hin_o862 : ¬ ((1 : Int32) < 0 ∨ cl_o862.slots.size ≤ ((1 : Int32)).toNatClampNeg) := inb_of S_o862 ⟨by decide, by decide⟩
      obtain ⟨T863, h863, X863, e863, W863, st863⟩ := stB X856 hx hZ e856 Ar_o862 (j := (1 : Int32)) hin_o862 (g := (mkF m 31 #[vR ca, vI (1 : Int32), vR u, vI (1 : Int32), vI (4 : Int32), vI (1 : Int32), vI c1] [(.int (c1.toInt8.toInt32)), (.int (1 : Int32)), (.ref u)])) rfl rfl (hb hby d9_31)
      have V_864 := V_857.other W863 hne
      have N863 := Fr.snoc X863 N856 gu
      have Z863 : n0 ≤ h863.size := Nat.le_trans Z856 (Nat.le_of_eq W863.size.symm)
      have K863 : Keep h0 h863 [u] := K856.wr W863 (Or.inl (List.mem_of_getElem? (i := 0) rfl))
      have V_u_863 : Arv Z h863 u ku .byte (4 : Int32) [(.int (nar .byte (c0.toInt8.toInt32))), (.int (nar .byte (c1.toInt8.toInt32))), (.int (0 : Int32)), (.int (0 : Int32))] (.int (0 : Int32)) := Arv.set Ar_o862 q_o862 S_o862 M_o862 H_o862 G_o862 (fits_nar_byte _) W863 1 rfl (Nat.le_of_ble_eq_true rfl)
      refine Gl.st (g' := (mkF m 32 #[vR ca, vI (1 : Int32), vR u, vI (1 : Int32), vI (4 : Int32), vI (1 : Int32), vI c1] [])) (fun τ κ => st863 _ κ) ?_
      refine Gl.st (g' := (mkF m 38 #[vR ca, vI (2 : Int32), vR u, vI (2 : Int32), vI (4 : Int32), vI (1 : Int32), vI c1] [])) (fun τ κ => XS.iinc X863.here hx rfl (hb hby d9_32) rfl (l' := #[vR ca, vI (2 : Int32), vR u, vI (1 : Int32), vI (4 : Int32), vI (1 : Int32), vI c1]) rfl (XS.iinc X863.here hx rfl (hb hby d9_35) rfl (l' := #[vR ca, vI (2 : Int32), vR u, vI (2 : Int32), vI (4 : Int32), vI (1 : Int32), vI c1]) rfl κ)) ?_
      refine Gl.st (g' := (mkF m 3 #[vR ca, vI (2 : Int32), vR u, vI (2 : Int32), vI (4 : Int32), vI (2 : Int32), vI c1] [])) (fun τ κ => XS.iinc X863.here hx rfl (hb hby d9_38) rfl (l' := #[vR ca, vI (2 : Int32), vR u, vI (2 : Int32), vI (4 : Int32), vI (2 : Int32), vI c1]) rfl (XS.goto X863.here hx rfl (pc0 := 41) (pc' := 3) rfl (hb hby d9_41) (by decide) (by decide) κ)) ?_
      refine Gl.st (g' := (mkF m 7 #[vR ca, vI (2 : Int32), vR u, vI (2 : Int32), vI (4 : Int32), vI (2 : Int32), vI c1] [(.int (4 : Int32)), (.int (2 : Int32))])) (fun τ κ => XS.iload X863.here hx rfl (hb hby d9_3) rfl (XS.iload X863.here hx rfl (hb hby d9_5) rfl κ)) ?_
      have hc866 : (2 : Int32) < (4 : Int32) := by decide
      refine Gl.st (g' := (mkF m 11 #[vR ca, vI (2 : Int32), vR u, vI (2 : Int32), vI (4 : Int32), vI (2 : Int32), vI c1] [(.ref ca)])) (fun τ κ => XS.icmpNo X863.here hx rfl (hb hby d9_7) rfl (tlt hc866).2.1 (XS.aloadN X863.here hx rfl (hb hby d9_10) rfl rfl κ)) ?_
      refine Gl.st (g' := (mkF m 12 #[vR ca, vI (2 : Int32), vR u, vI (2 : Int32), vI (4 : Int32), vI (2 : Int32), vI c1] [(.int (2 : Int32)), (.ref ca)])) (fun τ κ => XS.iloadN X863.here hx rfl (hb hby d9_11) rfl κ) ?_
      obtain ⟨cl_o867, Ar_o867, q_o867, S_o867, M_o867, H_o867, G_o867⟩ := id V_864
      have hin_o867 : ¬ ((2 : Int32) < 0 ∨ cl_o867.slots.size ≤ ((2 : Int32)).toNatClampNeg) := inb_of S_o867 ⟨by decide, by decide⟩
      refine Gl.st (g' := (mkF m 13 #[vR ca, vI (2 : Int32), vR u, vI (2 : Int32), vI (4 : Int32), vI (2 : Int32), vI c1] [(.int c2)])) (fun τ κ => X863.caload hx (j := (2 : Int32)) (v := (.int c2)) (by rw [e863]; exact Ar_o867.1) (State.isArrayOf_alike hZ.alike Ar_o867.2.1) Ar_o867.2.2 hin_o867 (H_o867 2 (by rw [S_o867]; decide)) (g := (mkF m 12 #[vR ca, vI (2 : Int32), vR u, vI (2 : Int32), vI (4 : Int32), vI (2 : Int32), vI c1] [(.int (2 : Int32)), (.ref ca)])) rfl rfl (hb hby d9_12) _ κ) ?_
      refine Gl.st (g' := (mkF m 17 #[vR ca, vI (2 : Int32), vR u, vI (2 : Int32), vI (4 : Int32), vI (2 : Int32), vI c2] [(.int c2)])) (fun τ κ => XS.istore X863.here hx rfl (hb hby d9_13) rfl (l' := #[vR ca, vI (2 : Int32), vR u, vI (2 : Int32), vI (4 : Int32), vI (2 : Int32), vI c2]) rfl (XS.iload X863.here hx rfl (hb hby d9_15) rfl κ)) ?_
      refine Gl.st (g' := (mkF m 20 #[vR ca, vI (2 : Int32), vR u, vI (2 : Int32), vI (4 : Int32), vI (2 : Int32), vI c2] [(.int (255 : Int32)), (.int c2)])) (fun τ κ => XS.sipush X863.here hx rfl (hb hby d9_17) κ) ?_
      by_cases hc868 : (255 : Int32) < c2
      · -- pc 20: (255 : Int32) < c2
        refine Gl.st (g' := (mkF m 25 #[vR ca, vI (2 : Int32), vR u, vI (2 : Int32), vI (4 : Int32), vI (2 : Int32), vI c2] [(.int (2 : Int32))])) (fun τ κ => XS.icmpNo X863.here hx rfl (hb hby d9_20) rfl (tlt hc868).2.2.2 (XS.iload X863.here hx rfl (hb hby d9_23) rfl κ)) ?_
        exact Gl.ret (v := some (.int (2 : Int32))) X863 Bd.notSynchronized (fun h => by rw [Bd.returns] at h; cases h) e863 (fun fs hr => retI X863 hx Bd.returns (hb hby d9_25) hr) (by decide) (by decide) ⟨_, rfl, N863, K863, Or.inr (Or.inr (Or.inr (Or.inl ⟨rfl, hc868⟩)))⟩
      · -- pc 20: not (255 : Int32) < c2
        refine Gl.st (g' := (mkF m 27 #[vR ca, vI (2 : Int32), vR u, vI (2 : Int32), vI (4 : Int32), vI (2 : Int32), vI c2] [(.ref u)])) (fun τ κ => XS.icmpYes X863.here hx rfl (pc0 := 20) (pc' := 26) rfl (hb hby d9_20) rfl (flt hc868).2.2.2 (by decide) (by decide) (XS.aloadN X863.here hx rfl (hb hby d9_26) rfl rfl κ)) ?_
        refine Gl.st (g' := (mkF m 30 #[vR ca, vI (2 : Int32), vR u, vI (2 : Int32), vI (4 : Int32), vI (2 : Int32), vI c2] [(.int c2), (.int (2 : Int32)), (.ref u)])) (fun τ κ => XS.iloadN X863.here hx rfl (hb hby d9_27) rfl (XS.iload X863.here hx rfl (hb hby d9_28) rfl κ)) ?_
        refine Gl.st (g' := (mkF m 31 #[vR ca, vI (2 : Int32), vR u, vI (2 : Int32), vI (4 : Int32), vI (2 : Int32), vI c2] [(.int (c2.toInt8.toInt32)), (.int (2 : Int32)), (.ref u)])) (fun τ κ => XS.i2b X863.here hx rfl (hb hby d9_30) rfl κ) ?_
        obtain ⟨cl_o869, Ar_o869, q_o869, S_o869, M_o869, H_o869, G_o869⟩ := id V_u_863
        have hin_o869 : ¬ ((2 : Int32) < 0 ∨ cl_o869.slots.size ≤ ((2 : Int32)).toNatClampNeg) := inb_of S_o869 ⟨by decide, by decide⟩
        obtain ⟨T870, h870, X870, e870, W870, st870⟩ := stB X863 hx hZ e863 Ar_o869 (j := (2 : Int32)) hin_o869 (g := (mkF m 31 #[vR ca, vI (2 : Int32), vR u, vI (2 : Int32), vI (4 : Int32), vI (2 : Int32), vI c2] [(.int (c2.toInt8.toInt32)), (.int (2 : Int32)), (.ref u)])) rfl rfl (hb hby d9_31)
        have V_871 := V_864.other W870 hne
        have N870 := Fr.snoc X870 N863 gu
        have Z870 : n0 ≤ h870.size := Nat.le_trans Z863 (Nat.le_of_eq W870.size.symm)
        have K870 : Keep h0 h870 [u] := K863.wr W870 (Or.inl (List.mem_of_getElem? (i := 0) rfl))
        have V_u_870 : Arv Z h870 u ku .byte (4 : Int32) [(.int (nar .byte (c0.toInt8.toInt32))), (.int (nar .byte (c1.toInt8.toInt32))), (.int (nar .byte (c2.toInt8.toInt32))), (.int (0 : Int32))] (.int (0 : Int32)) := Arv.set Ar_o869 q_o869 S_o869 M_o869 H_o869 G_o869 (fits_nar_byte _) W870 2 rfl (Nat.le_of_ble_eq_true rfl)
        refine Gl.st (g' := (mkF m 32 #[vR ca, vI (2 : Int32), vR u, vI (2 : Int32), vI (4 : Int32), vI (2 : Int32), vI c2] [])) (fun τ κ => st870 _ κ) ?_
        refine Gl.st (g' := (mkF m 38 #[vR ca, vI (3 : Int32), vR u, vI (3 : Int32), vI (4 : Int32), vI (2 : Int32), vI c2] [])) (fun τ κ => XS.iinc X870.here hx rfl (hb hby d9_32) rfl (l' := #[vR ca, vI (3 : Int32), vR u, vI (2 : Int32), vI (4 : Int32), vI (2 : Int32), vI c2]) rfl (XS.iinc X870.here hx rfl (hb hby d9_35) rfl (l' := #[vR ca, vI (3 : Int32), vR u, vI (3 : Int32), vI (4 : Int32), vI (2 : Int32), vI c2]) rfl κ)) ?_
        refine Gl.st (g' := (mkF m 3 #[vR ca, vI (3 : Int32), vR u, vI (3 : Int32), vI (4 : Int32), vI (3 : Int32), vI c2] [])) (fun τ κ => XS.iinc X870.here hx rfl (hb hby d9_38) rfl (l' := #[vR ca, vI (3 : Int32), vR u, vI (3 : Int32), vI (4 : Int32), vI (3 : Int32), vI c2]) rfl (XS.goto X870.here hx rfl (pc0 := 41) (pc' := 3) rfl (hb hby d9_41) (by decide) (by decide) κ)) ?_
        refine Gl.st (g' := (mkF m 7 #[vR ca, vI (3 : Int32), vR u, vI (3 : Int32), vI (4 : Int32), vI (3 : Int32), vI c2] [(.int (4 : Int32)), (.int (3 : Int32))])) (fun τ κ => XS.iload X870.here hx rfl (hb hby d9_3) rfl (XS.iload X870.here hx rfl (hb hby d9_5) rfl κ)) ?_
        have hc873 : (3 : Int32) < (4 : Int32) := by decide
        refine Gl.st (g' := (mkF m 11 #[vR ca, vI (3 : Int32), vR u, vI (3 : Int32), vI (4 : Int32), vI (3 : Int32), vI c2] [(.ref ca)])) (fun τ κ => XS.icmpNo X870.here hx rfl (hb hby d9_7) rfl (tlt hc873).2.1 (XS.aloadN X870.here hx rfl (hb hby d9_10) rfl rfl κ)) ?_
        refine Gl.st (g' := (mkF m 12 #[vR ca, vI (3 : Int32), vR u, vI (3 : Int32), vI (4 : Int32), vI (3 : Int32), vI c2] [(.int (3 : Int32)), (.ref ca)])) (fun τ κ => XS.iloadN X870.here hx rfl (hb hby d9_11) rfl κ) ?_
        obtain ⟨cl_o874, Ar_o874, q_o874, S_o874, M_o874, H_o874, G_o874⟩ := id V_871
        have hin_o874 : ¬ ((3 : Int32) < 0 ∨ cl_o874.slots.size ≤ ((3 : Int32)).toNatClampNeg) := inb_of S_o874 ⟨by decide, by decide⟩
        refine Gl.st (g' := (mkF m 13 #[vR ca, vI (3 : Int32), vR u, vI (3 : Int32), vI (4 : Int32), vI (3 : Int32), vI c2] [(.int c3)])) (fun τ κ => X870.caload hx (j := (3 : Int32)) (v := (.int c3)) (by rw [e870]; exact Ar_o874.1) (State.isArrayOf_alike hZ.alike Ar_o874.2.1) Ar_o874.2.2 hin_o874 (H_o874 3 (by rw [S_o874]; decide)) (g := (mkF m 12 #[vR ca, vI (3 : Int32), vR u, vI (3 : Int32), vI (4 : Int32), vI (3 : Int32), vI c2] [(.int (3 : Int32)), (.ref ca)])) rfl rfl (hb hby d9_12) _ κ) ?_
        refine Gl.st (g' := (mkF m 17 #[vR ca, vI (3 : Int32), vR u, vI (3 : Int32), vI (4 : Int32), vI (3 : Int32), vI c3] [(.int c3)])) (fun τ κ => XS.istore X870.here hx rfl (hb hby d9_13) rfl (l' := #[vR ca, vI (3 : Int32), vR u, vI (3 : Int32), vI (4 : Int32), vI (3 : Int32), vI c3]) rfl (XS.iload X870.here hx rfl (hb hby d9_15) rfl κ)) ?_
        refine Gl.st (g' := (mkF m 20 #[vR ca, vI (3 : Int32), vR u, vI (3 : Int32), vI (4 : Int32), vI (3 : Int32), vI c3] [(.int (255 : Int32)), (.int c3)])) (fun τ κ => XS.sipush X870.here hx rfl (hb hby d9_17) κ) ?_
        by_cases hc875 : (255 : Int32) < c3
        · -- pc 20: (255 : Int32) < c3
          refine Gl.st (g' := (mkF m 25 #[vR ca, vI (3 : Int32), vR u, vI (3 : Int32), vI (4 : Int32), vI (3 : Int32), vI c3] [(.int (3 : Int32))])) (fun τ κ => XS.icmpNo X870.here hx rfl (hb hby d9_20) rfl (tlt hc875).2.2.2 (XS.iload X870.here hx rfl (hb hby d9_23) rfl κ)) ?_
          exact Gl.ret (v := some (.int (3 : Int32))) X870 Bd.notSynchronized (fun h => by rw [Bd.returns] at h; cases h) e870 (fun fs hr => retI X870 hx Bd.returns (hb hby d9_25) hr) (by decide) (by decide) ⟨_, rfl, N870, K870, Or.inr (Or.inr (Or.inr (Or.inr (⟨rfl, hc875⟩))))⟩
        · -- pc 20: not (255 : Int32) < c3
          refine Gl.st (g' := (mkF m 27 #[vR ca, vI (3 : Int32), vR u, vI (3 : Int32), vI (4 : Int32), vI (3 : Int32), vI c3] [(.ref u)])) (fun τ κ => XS.icmpYes X870.here hx rfl (pc0 := 20) (pc' := 26) rfl (hb hby d9_20) rfl (flt hc875).2.2.2 (by decide) (by decide) (XS.aloadN X870.here hx rfl (hb hby d9_26) rfl rfl κ)) ?_
          refine Gl.st (g' := (mkF m 30 #[vR ca, vI (3 : Int32), vR u, vI (3 : Int32), vI (4 : Int32), vI (3 : Int32), vI c3] [(.int c3), (.int (3 : Int32)), (.ref u)])) (fun τ κ => XS.iloadN X870.here hx rfl (hb hby d9_27) rfl (XS.iload X870.here hx rfl (hb hby d9_28) rfl κ)) ?_
          refine Gl.st (g' := (mkF m 31 #[vR ca, vI (3 : Int32), vR u, vI (3 : Int32), vI (4 : Int32), vI (3 : Int32), vI c3] [(.int (c3.toInt8.toInt32)), (.int (3 : Int32)), (.ref u)])) (fun τ κ => XS.i2b X870.here hx rfl (hb hby d9_30) rfl κ) ?_
          obtain ⟨cl_o876, Ar_o876, q_o876, S_o876, M_o876, H_o876, G_o876⟩ := id V_u_870
          have hin_o876 : ¬ ((3 : Int32) < 0 ∨ cl_o876.slots.size ≤ ((3 : Int32)).toNatClampNeg) := inb_of S_o876 ⟨by decide, by decide⟩
          obtain ⟨T877, h877, X877, e877, W877, st877⟩ := stB X870 hx hZ e870 Ar_o876 (j := (3 : Int32)) hin_o876 (g := (mkF m 31 #[vR ca, vI (3 : Int32), vR u, vI (3 : Int32), vI (4 : Int32), vI (3 : Int32), vI c3] [(.int (c3.toInt8.toInt32)), (.int (3 : Int32)), (.ref u)])) rfl rfl (hb hby d9_31)
          have V_878 := V_871.other W877 hne
          have N877 := Fr.snoc X877 N870 gu
          have Z877 : n0 ≤ h877.size := Nat.le_trans Z870 (Nat.le_of_eq W877.size.symm)
          have K877 : Keep h0 h877 [u] := K870.wr W877 (Or.inl (List.mem_of_getElem? (i := 0) rfl))
          have V_u_877 : Arv Z h877 u ku .byte (4 : Int32) [(.int (nar .byte (c0.toInt8.toInt32))), (.int (nar .byte (c1.toInt8.toInt32))), (.int (nar .byte (c2.toInt8.toInt32))), (.int (nar .byte (c3.toInt8.toInt32)))] (.int (0 : Int32)) := Arv.set Ar_o876 q_o876 S_o876 M_o876 H_o876 G_o876 (fits_nar_byte _) W877 3 rfl (Nat.le_of_ble_eq_true rfl)
          refine Gl.st (g' := (mkF m 32 #[vR ca, vI (3 : Int32), vR u, vI (3 : Int32), vI (4 : Int32), vI (3 : Int32), vI c3] [])) (fun τ κ => st877 _ κ) ?_
          refine Gl.st (g' := (mkF m 38 #[vR ca, vI (4 : Int32), vR u, vI (4 : Int32), vI (4 : Int32), vI (3 : Int32), vI c3] [])) (fun τ κ => XS.iinc X877.here hx rfl (hb hby d9_32) rfl (l' := #[vR ca, vI (4 : Int32), vR u, vI (3 : Int32), vI (4 : Int32), vI (3 : Int32), vI c3]) rfl (XS.iinc X877.here hx rfl (hb hby d9_35) rfl (l' := #[vR ca, vI (4 : Int32), vR u, vI (4 : Int32), vI (4 : Int32), vI (3 : Int32), vI c3]) rfl κ)) ?_
          refine Gl.st (g' := (mkF m 3 #[vR ca, vI (4 : Int32), vR u, vI (4 : Int32), vI (4 : Int32), vI (4 : Int32), vI c3] [])) (fun τ κ => XS.iinc X877.here hx rfl (hb hby d9_38) rfl (l' := #[vR ca, vI (4 : Int32), vR u, vI (4 : Int32), vI (4 : Int32), vI (4 : Int32), vI c3]) rfl (XS.goto X877.here hx rfl (pc0 := 41) (pc' := 3) rfl (hb hby d9_41) (by decide) (by decide) κ)) ?_
          refine Gl.st (g' := (mkF m 7 #[vR ca, vI (4 : Int32), vR u, vI (4 : Int32), vI (4 : Int32), vI (4 : Int32), vI c3] [(.int (4 : Int32)), (.int (4 : Int32))])) (fun τ κ => XS.iload X877.here hx rfl (hb hby d9_3) rfl (XS.iload X877.here hx rfl (hb hby d9_5) rfl κ)) ?_
          have hc880 : ¬ ((4 : Int32) < (4 : Int32)) := by decide
          refine Gl.st (g' := (mkF m 46 #[vR ca, vI (4 : Int32), vR u, vI (4 : Int32), vI (4 : Int32), vI (4 : Int32), vI c3] [(.int (4 : Int32))])) (fun τ κ => XS.icmpYes X877.here hx rfl (pc0 := 7) (pc' := 44) rfl (hb hby d9_7) rfl (flt hc880).2.1 (by decide) (by decide) (XS.iload X877.here hx rfl (hb hby d9_44) rfl κ)) ?_
          exact Gl.ret (v := some (.int (4 : Int32))) X877 Bd.notSynchronized (fun h => by rw [Bd.returns] at h; cases h) e877 (fun fs hr => retI X877 hx Bd.returns (hb hby d9_46) hr) (by decide) (by decide) ⟨_, rfl, N877, K877, Or.inl ⟨rfl, hc854, hc861, hc868, hc875, V_u_877⟩⟩
theorem ef_rm8_4 (m : MethodId) (ca : Addr) : entryFrame m #[(.ref ca), (.int (0 : Int32)), (.int (4 : Int32))] 6 = mkF m 0 #[vR ca, vI (0 : Int32), vI (4 : Int32), .unset, .unset, .unset] [] := by first | (simp [entryFrame, mkF, argsToLocals, Value.category]; done) | rfl
def Q_rm8_4 (Z : State) (ca : Addr) (kc : ClassId) (c0 c1 c2 c3 : Int32) (h0 : Heap) (n0 : Nat) (v : Option Value) (h : Heap) (L : List Loc) : Prop := ∃ b kk z vs, v = some (.ref b) ∧ Fr n0 L ∧ Keep h0 h [] ∧ h0.size ≤ b ∧ Arv Z h b kk .byte z vs (.int (0 : Int32)) ∧ own_bytes (4 : Int32) [c0, c1, c2, c3] z vs
set_option maxRecDepth 65536 in
set_option maxHeartbeats 40000000 in
theorem rm8_4 (l : Launch) (Z : State) (a0 : Array Value) (hw : ∀ d ∈ tables_1, d.before a0 Z = true) (ws : List Jvm.Cond) (ca : Addr) (kc : ClassId) (c0 c1 c2 c3 : Int32) (h0 : Heap) (n0 : Nat) (Z0 : n0 ≤ h0.size) (SA : Sta Z h0 "java/lang/StringUTF16" "$assertionsDisabled" "Z" (.int (1 : Int32))) (SH : Sta Z h0 "java/lang/StringUTF16" "HI_BYTE_SHIFT" "I" (.int (0 : Int32))) (SL : Sta Z h0 "java/lang/StringUTF16" "LO_BYTE_SHIFT" "I" (.int (8 : Int32))) (V0 : Arv Z h0 ca kc .char (4 : Int32) [(.int c0), (.int c1), (.int c2), (.int c3)] (.int (0 : Int32))) (hc0 : own_ch c0) (hc1 : own_ch c1) (hc2 : own_ch c2) (hc3 : own_ch c3) :
    MetFree l (⟨"java/lang/StringUTF16", "compress", "([CII)[B"⟩ : MethodName) (head1 (Jvm.Cond.code (⟨"java/lang/StringUTF16", "compress", "([CII)[B"⟩ : MethodName) jdk_52_method_16_code 6 (some (.array .byte)) :: ws) ({ frames := 3, cells := 2, slots := 12, locals := 40 } : Room)) (fun aα Uα => aα = #[(.ref ca), (.int (0 : Int32)), (.int (4 : Int32))] ∧ Z.Warmed39 Uα.vm ∧ Uα.heap = h0) (fun _ _ _ _ _ => True) (fun _ Uα oα Uβ => ∃ vα Lα, oα = .returned vα ∧ Q_rm8_4 Z ca kc c0 c1 c2 c3 h0 n0 vα Uβ.heap Lα ∧ FrameEnd Uα oα Uβ Lα ({ frames := 3, cells := 2, slots := 12, locals := 40 } : Room).cells ({ frames := 3, cells := 2, slots := 12, locals := 40 } : Room).slots) := by
  refine MetFree.of_bodySF (plainFor_of_name pn_java_lang_StringUTF16) hisR ?_
  intro p e s m args below meth c s₁ Bd hml0 hP hKα
  obtain ⟨rfl, hZ, hh⟩ := hP
  have hx := Bd.exec
  have hby := Bd.bytes
  have hml : c.maxLocals = 6 := hml0
  have hown : s.vm.findClass "java/lang/StringUTF16" = some m.cls := findClass_of_methodNamed Bd.named
  have hnm := (name_of_methodNamed Bd.named Bd.method).1
  have X0 : Stand p l e ({ frames := 3, cells := 2, slots := 12, locals := 40 } : Room) s m #[(.ref ca), (.int (0 : Int32)), (.int (4 : Int32))] below meth c s₁ [] 0 0 := Stand.of_body Bd
  have e0 : s₁.heap = h0 := by rw [← hh, Bd.state]; rfl
  have N0 := Fr.nil n0
  suffices k0 : Gl p e below s (Q_rm8_4 Z ca kc c0 c1 c2 c3 h0 n0) ({ frames := 3, cells := 2, slots := 12, locals := 40 } : Room).cells ({ frames := 3, cells := 2, slots := 12, locals := 40 } : Room).slots s₁ (mkF m 0 #[vR ca, vI (0 : Int32), vI (4 : Int32), .unset, .unset, .unset] []) from Gl.st (fun τ κ => castTop (ef_rm8_4 m ca) κ) k0
  refine Gl.st (g' := (mkF m 1 #[vR ca, vI (0 : Int32), vI (4 : Int32), .unset, .unset, .unset] [(.int (4 : Int32))])) (fun τ κ => XS.iloadN X0.here hx rfl (hb hby d8_0) rfl κ) ?_
  obtain ⟨T881, h881, k881, X881, e881, E881, A881, st881⟩ := newP X0 hx hZ (hw _ (List.mem_of_getElem? (i := 21) rfl)) e0 (g := (mkF m 1 #[vR ca, vI (0 : Int32), vI (4 : Int32), .unset, .unset, .unset] [(.int (4 : Int32))])) rfl (hb hby d8_1) rfl (by decide) (cap := 4) (by decide) (by decide) (by decide) (by decide)
  obtain ⟨b881, g881⟩ : ∃ z, z = h0.size := ⟨_, rfl⟩
  rw [← g881] at A881 st881
  have ne_ca_b881 : ca ≠ b881 := Nat.ne_of_lt (Nat.lt_of_lt_of_le V0.lt (Nat.le_of_eq g881.symm))
  have S_882 := SA.ext E881
  have S_883 := SH.ext E881
  have S_884 := SL.ext E881
  have V_885 := V0.ext E881
  have g_b881 : n0 ≤ b881 := Nat.le_trans Z0 (Nat.le_of_eq g881.symm)
  have sz_b881 : h0.size ≤ b881 := Nat.le_trans (Keep.refl h0 []).1 (Nat.le_of_eq g881.symm)
  have Z881 : n0 ≤ h881.size := Nat.le_trans Z0 E881.1
  have K881 : Keep h0 h881 [] := (Keep.refl h0 []).ext E881
  have V_b881 : Arv Z h881 b881 k881 .byte (4 : Int32) [(.int (0 : Int32)), (.int (0 : Int32)), (.int (0 : Int32)), (.int (0 : Int32))] (.int (0 : Int32)) := (Arv.new A881 (by decide)).pad (pad_rep [] (.int (0 : Int32)) 4)
  refine Gl.st (g' := (mkF m 3 #[vR ca, vI (0 : Int32), vI (4 : Int32), .unset, .unset, .unset] [(.ref b881)])) (fun τ κ => st881 _ κ) ?_
  refine Gl.st (g' := (mkF m 5 #[vR ca, vI (0 : Int32), vI (4 : Int32), vR b881, .unset, .unset] [(.ref ca)])) (fun τ κ => XS.astoreN X881.here hx rfl (hb hby d8_3) rfl rfl (l' := #[vR ca, vI (0 : Int32), vI (4 : Int32), vR b881, .unset, .unset]) rfl (XS.aloadN X881.here hx rfl (hb hby d8_4) rfl rfl κ)) ?_
  refine Gl.st (g' := (mkF m 7 #[vR ca, vI (0 : Int32), vI (4 : Int32), vR b881, .unset, .unset] [(.ref b881), (.int (0 : Int32)), (.ref ca)])) (fun τ κ => XS.iloadN X881.here hx rfl (hb hby d8_5) rfl (XS.aloadN X881.here hx rfl (hb hby d8_6) rfl rfl κ)) ?_
  refine Gl.st (g' := (mkF m 9 #[vR ca, vI (0 : Int32), vI (4 : Int32), vR b881, .unset, .unset] [(.int (4 : Int32)), (.int (0 : Int32)), (.ref b881), (.int (0 : Int32)), (.ref ca)])) (fun τ κ => XS.iconst X881.here hx rfl (hb hby d8_7) (XS.iloadN X881.here hx rfl (hb hby d8_8) rfl κ)) ?_
  obtain ⟨rv886, _, ⟨T886, L886, k886, n886⟩, -, X886, ⟨Lc886, hQ886, l886, y886, z886⟩, st886⟩ := Jvm.LawKit.callS X881 hx (y := (⟨"java/lang/StringUTF16", "compress", "([CI[BII)I"⟩ : MethodName)) hown (mvT hZ (w47_ hw)) (mvT hZ (w48_ hw)) (mvT hZ (w45_ hw)) (mvT hZ (w49_ hw)) (by decide) (backOf (W := 0) (rm9_4 l Z a0 hw [] ca b881 kc k881 c0 c1 c2 c3 h881 n0 Z881 V_885 V_b881 g_b881 ne_ca_b881) hZ (w49_ hw) (w45_ hw) (by decide) (by decide)) (g := (mkF m 9 #[vR ca, vI (0 : Int32), vI (4 : Int32), vR b881, .unset, .unset] [(.int (4 : Int32)), (.int (0 : Int32)), (.ref b881), (.int (0 : Int32)), (.ref ca)])) rfl (by rw [hml]; rfl) (argsL := [(.ref ca), (.int (0 : Int32)), (.ref b881), (.int (0 : Int32)), (.int (4 : Int32))]) (rest := []) (lenOf pd_12 rfl) rfl (by show 2 * 0 + _ ≤ _; exact Nat.le_of_eq rfl) (hb hby d8_9) (fun _ _ => ⟨rfl, e881, (by decide : 1 + 0 ≤ _), (by decide : 4 + 0 ≤ _)⟩)
  dsimp only [Pt.U, Pt.locs, Pt.cells, Pt.slots] at X886 l886 y886 z886 st886 hQ886
  subst l886 y886 z886
  obtain ⟨j, rfl, N886q, Kc886, hj⟩ := hQ886
  have S_887 := Sta.keepX S_882 Kc886 (allS (P := fun x => ∃ c : Cell, h881[x]? = some c ∧ ∀ q, c.vm ≠ .statics q) (Arv.cellX V_b881) all0)
  have S_888 := Sta.keepX S_883 Kc886 (allS (P := fun x => ∃ c : Cell, h881[x]? = some c ∧ ∀ q, c.vm ≠ .statics q) (Arv.cellX V_b881) all0)
  have S_889 := Sta.keepX S_884 Kc886 (allS (P := fun x => ∃ c : Cell, h881[x]? = some c ∧ ∀ q, c.vm ≠ .statics q) (Arv.cellX V_b881) all0)
  have V_890 := V_885.keep Kc886 (ninS ne_ca_b881 nin0)
  have N886 := Fr.app N0 N886q
  have Z886 : n0 ≤ T886.heap.size := Nat.le_trans Z881 Kc886.1
  have K886 : Keep h0 T886.heap [] := K881.trans Kc886 (allS (Or.inr sz_b881) all0)
  refine Gl.st (g' := (mkF m 12 #[vR ca, vI (0 : Int32), vI (4 : Int32), vR b881, .unset, .unset] [(.int j)])) (fun τ κ => st886 _ κ) ?_
  rcases hj with ⟨rfl, q0, q1, q2, q3, Vj⟩ | hj
  · -- 4
    refine Gl.st (g' := (mkF m 16 #[vR ca, vI (0 : Int32), vI (4 : Int32), vR b881, vI (4 : Int32), .unset] [(.int (4 : Int32))])) (fun τ κ => XS.istore X886.here hx rfl (hb hby d8_12) rfl (l' := #[vR ca, vI (0 : Int32), vI (4 : Int32), vR b881, vI (4 : Int32), .unset]) rfl (XS.iload X886.here hx rfl (hb hby d8_14) rfl κ)) ?_
    refine Gl.st (g' := (mkF m 17 #[vR ca, vI (0 : Int32), vI (4 : Int32), vR b881, vI (4 : Int32), .unset] [(.int (4 : Int32)), (.int (4 : Int32))])) (fun τ κ => XS.iloadN X886.here hx rfl (hb hby d8_16) rfl κ) ?_
    have hc892 : (4 : Int32) = (4 : Int32) := by decide
    refine Gl.st (g' := (mkF m 58 #[vR ca, vI (0 : Int32), vI (4 : Int32), vR b881, vI (4 : Int32), .unset] [(.ref b881)])) (fun τ κ => XS.icmpYes X886.here hx rfl (pc0 := 17) (pc' := 57) rfl (hb hby d8_17) rfl (teq hc892).1 (by decide) (by decide) (XS.aloadN X886.here hx rfl (hb hby d8_57) rfl rfl κ)) ?_
    exact Gl.ret (v := some (.ref b881)) X886 Bd.notSynchronized (fun h => by rw [Bd.returns] at h; cases h) rfl (fun fs hr => retAA X886 hx Bd.returns (hb hby d8_58) hr) (by decide) (by decide) ⟨b881, k881, (4 : Int32), [(.int (own_lb c0)), (.int (own_lb c1)), (.int (own_lb c2)), (.int (own_lb c3))], rfl, N886, K886, sz_b881, Vj, Or.inl ⟨rfl, (fun i hi => match i, hi with | 0, _ => ⟨_, rfl, own_lat hc0 q0⟩ | 1, _ => ⟨_, rfl, own_lat hc1 q1⟩ | 2, _ => ⟨_, rfl, own_lat hc2 q2⟩ | 3, _ => ⟨_, rfl, own_lat hc3 q3⟩ | (i + 4), hi => absurd hi (Nat.not_lt.mpr (Nat.le_add_left 4 _)))⟩⟩
  · -- 0
    obtain ⟨yy, yz, hg, hq⟩ : ∃ yy yz, (¬ j = (4 : Int32) ∧ (¬ (j <<< ((1 : Int32) &&& 31)) < 0 ∧ (j <<< ((1 : Int32) &&& 31)) < (8 : Int32)) ∧ (¬ ((j <<< ((1 : Int32) &&& 31)) + (1 : Int32)) < 0 ∧ ((j <<< ((1 : Int32) &&& 31)) + (1 : Int32)) < (8 : Int32)) ∧ ([(.int (own_hi c0)), (.int (own_lo c0)), (.int (own_hi c1)), (.int (own_lo c1)), (.int (own_hi c2)), (.int (own_lo c2)), (.int (own_hi c3)), (.int (own_lo c3))] : List Value).getD ((j <<< ((1 : Int32) &&& 31))).toNatClampNeg (.int 0) = .int yy ∧ ([(.int (own_hi c0)), (.int (own_lo c0)), (.int (own_hi c1)), (.int (own_lo c1)), (.int (own_hi c2)), (.int (own_lo c2)), (.int (own_hi c3)), (.int (own_lo c3))] : List Value).getD (((j <<< ((1 : Int32) &&& 31)) + (1 : Int32))).toNatClampNeg (.int 0) = .int yz) ∧ (255 : Int32) < own_u16E yy yz := by
      rcases hj with ⟨rfl, q0⟩ | ⟨rfl, q1⟩ | ⟨rfl, q2⟩ | ⟨rfl, q3⟩
      · exact ⟨own_hi c0, own_lo c0, ⟨by decide, by decide, by decide, rfl, rfl⟩, by rw [own_join hc0]; exact q0⟩
      · exact ⟨own_hi c1, own_lo c1, ⟨by decide, by decide, by decide, rfl, rfl⟩, by rw [own_join hc1]; exact q1⟩
      · exact ⟨own_hi c2, own_lo c2, ⟨by decide, by decide, by decide, rfl, rfl⟩, by rw [own_join hc2]; exact q2⟩
      · exact ⟨own_hi c3, own_lo c3, ⟨by decide, by decide, by decide, rfl, rfl⟩, by rw [own_join hc3]; exact q3⟩
    refine Gl.st (g' := (mkF m 16 #[vR ca, vI (0 : Int32), vI (4 : Int32), vR b881, vI j, .unset] [(.int j)])) (fun τ κ => XS.istore X886.here hx rfl (hb hby d8_12) rfl (l' := #[vR ca, vI (0 : Int32), vI (4 : Int32), vR b881, vI j, .unset]) rfl (XS.iload X886.here hx rfl (hb hby d8_14) rfl κ)) ?_
    refine Gl.st (g' := (mkF m 17 #[vR ca, vI (0 : Int32), vI (4 : Int32), vR b881, vI j, .unset] [(.int (4 : Int32)), (.int j)])) (fun τ κ => XS.iloadN X886.here hx rfl (hb hby d8_16) rfl κ) ?_
    have hc893 : ¬ (j = (4 : Int32)) := hg.1
    refine Gl.st (g' := (mkF m 21 #[vR ca, vI (0 : Int32), vI (4 : Int32), vR b881, vI j, .unset] [(.ref ca)])) (fun τ κ => XS.icmpNo X886.here hx rfl (hb hby d8_17) rfl (feq hc893).1 (XS.aloadN X886.here hx rfl (hb hby d8_20) rfl rfl κ)) ?_
    refine Gl.st (g' := (mkF m 23 #[vR ca, vI (0 : Int32), vI (4 : Int32), vR b881, vI j, .unset] [(.int (4 : Int32)), (.int (0 : Int32)), (.ref ca)])) (fun τ κ => XS.iloadN X886.here hx rfl (hb hby d8_21) rfl (XS.iloadN X886.here hx rfl (hb hby d8_22) rfl κ)) ?_
    obtain ⟨rv894, _, ⟨T894, L894, k894, n894⟩, -, X894, ⟨Lc894, hQ894, l894, y894, z894⟩, st894⟩ := Jvm.LawKit.callS X886 hx (y := (⟨"java/lang/StringUTF16", "toBytes", "([CII)[B"⟩ : MethodName)) hown (mvT hZ (w78_ hw)) (mvT hZ (w79_ hw)) (mvT hZ (w45_ hw)) (mvT hZ (w80_ hw)) (by decide) (backOf (W := 0) (rm17_4 l Z a0 hw [] ca kc c0 c1 c2 c3 T886.heap n0 Z886 S_887 S_888 S_889 V_890) hZ (w80_ hw) (w45_ hw) (by decide) (by decide)) (g := (mkF m 23 #[vR ca, vI (0 : Int32), vI (4 : Int32), vR b881, vI j, .unset] [(.int (4 : Int32)), (.int (0 : Int32)), (.ref ca)])) rfl (by rw [hml]; rfl) (argsL := [(.ref ca), (.int (0 : Int32)), (.int (4 : Int32))]) (rest := []) (lenOf pd_13 rfl) rfl (by show 2 * 0 + _ ≤ _; exact Nat.le_of_eq rfl) (hb hby d8_23) (fun _ _ => ⟨rfl, rfl, (by decide : 1 + 1 ≤ _), (by decide : 4 + 8 ≤ _)⟩)
    dsimp only [Pt.U, Pt.locs, Pt.cells, Pt.slots] at X894 l894 y894 z894 st894 hQ894
    subst l894 y894 z894
    obtain ⟨b894, kk894, rfl, N894q, Kc894, s894, V894⟩ := hQ894
    have ne_ca_b894 : ca ≠ b894 := Nat.ne_of_lt (Nat.lt_of_lt_of_le V_890.lt s894)
    have g_b894 : n0 ≤ b894 := Nat.le_trans Z886 s894
    have sz_b894 : h0.size ≤ b894 := Nat.le_trans K886.1 s894
    have S_895 := Sta.keepX S_887 Kc894 all0
    have S_896 := Sta.keepX S_888 Kc894 all0
    have S_897 := Sta.keepX S_889 Kc894 all0
    have V_898 := V_890.keep Kc894 nin0
    have N894 := Fr.app N886 N894q
    have Z894 : n0 ≤ T894.heap.size := Nat.le_trans Z886 Kc894.1
    have K894 : Keep h0 T894.heap [] := K886.trans Kc894 all0
    refine Gl.st (g' := (mkF m 26 #[vR ca, vI (0 : Int32), vI (4 : Int32), vR b881, vI j, .unset] [(.ref b894)])) (fun τ κ => st894 _ κ) ?_
    refine Gl.st (g' := (mkF m 30 #[vR ca, vI (0 : Int32), vI (4 : Int32), vR b881, vI j, vR b894] [(.ref b894)])) (fun τ κ => XS.astore X894.here hx rfl (hb hby d8_26) rfl rfl (l' := #[vR ca, vI (0 : Int32), vI (4 : Int32), vR b881, vI j, vR b894]) rfl (XS.aload X894.here hx rfl (hb hby d8_28) rfl rfl κ)) ?_
    refine Gl.st (g' := (mkF m 32 #[vR ca, vI (0 : Int32), vI (4 : Int32), vR b881, vI j, vR b894] [(.int j), (.ref b894)])) (fun τ κ => XS.iload X894.here hx rfl (hb hby d8_30) rfl κ) ?_
    obtain ⟨rv899, _, ⟨T899, L899, k899, n899⟩, -, X899, ⟨Lc899, hQ899, l899, y899, z899⟩, st899⟩ := Jvm.LawKit.callS X894 hx (y := (⟨"java/lang/StringUTF16", "getChar", "([BI)C"⟩ : MethodName)) hown (mvT hZ (w94_ hw)) (mvT hZ (w95_ hw)) (mvT hZ (w45_ hw)) (mvT hZ (w96_ hw)) (by decide) (backOf (W := 0) (rm21 l Z a0 hw [] b894 j kk894 (8 : Int32) [(.int (own_hi c0)), (.int (own_lo c0)), (.int (own_hi c1)), (.int (own_lo c1)), (.int (own_hi c2)), (.int (own_lo c2)), (.int (own_hi c3)), (.int (own_lo c3))] yy yz T894.heap n0 Z894 S_895 S_896 S_897 V894 hg.2.1 hg.2.2.1 hg.2.2.2.1 hg.2.2.2.2) hZ (w96_ hw) (w45_ hw) (by decide) (by decide)) (g := (mkF m 32 #[vR ca, vI (0 : Int32), vI (4 : Int32), vR b881, vI j, vR b894] [(.int j), (.ref b894)])) rfl (by rw [hml]; rfl) (argsL := [(.ref b894), (.int j)]) (rest := []) (lenOf pd_5 rfl) rfl (by show 2 * 0 + _ ≤ _; exact Nat.le_of_eq rfl) (hb hby d8_32) (fun _ _ => ⟨rfl, rfl, (by decide : 2 + 0 ≤ _), (by decide : 12 + 0 ≤ _)⟩)
    dsimp only [Pt.U, Pt.locs, Pt.cells, Pt.slots] at X899 l899 y899 z899 st899 hQ899
    subst l899 y899 z899
    obtain ⟨hq899, N899q, e899⟩ := hQ899
    have hq899 : rv899 = some (.int (own_u16E yy yz)) := hq899
    subst hq899
    have N899 := Fr.app N894 N899q
    refine Gl.st (g' := (mkF m 35 #[vR ca, vI (0 : Int32), vI (4 : Int32), vR b881, vI j, vR b894] [(.int (own_u16E yy yz))])) (fun τ κ => st899 _ κ) ?_
    refine Gl.st (g' := (mkF m 38 #[vR ca, vI (0 : Int32), vI (4 : Int32), vR b881, vI j, vR b894] [(.int (255 : Int32)), (.int (own_u16E yy yz))])) (fun τ κ => XS.sipush X899.here hx rfl (hb hby d8_35) κ) ?_
    have hc900 : (255 : Int32) < (own_u16E yy yz) := hq
    refine Gl.st (g' := (mkF m 56 #[vR ca, vI (0 : Int32), vI (4 : Int32), vR b881, vI j, vR b894] [(.ref b894)])) (fun τ κ => XS.icmpYes X899.here hx rfl (pc0 := 38) (pc' := 54) rfl (hb hby d8_38) rfl (tlt hc900).2.2.1 (by decide) (by decide) (XS.aload X899.here hx rfl (hb hby d8_54) rfl rfl κ)) ?_
    exact Gl.ret (v := some (.ref b894)) X899 Bd.notSynchronized (fun h => by rw [Bd.returns] at h; cases h) e899 (fun fs hr => retAA X899 hx Bd.returns (hb hby d8_56) hr) (by decide) (by decide) ⟨b894, kk894, (8 : Int32), [(.int (own_hi c0)), (.int (own_lo c0)), (.int (own_hi c1)), (.int (own_lo c1)), (.int (own_hi c2)), (.int (own_lo c2)), (.int (own_hi c3)), (.int (own_lo c3))], rfl, N899, K894, sz_b894, V894, Or.inr ⟨by decide, (fun i hi => match i, hi with | 0, _ => ⟨_, _, rfl, rfl, own_join hc0⟩ | 1, _ => ⟨_, _, rfl, rfl, own_join hc1⟩ | 2, _ => ⟨_, _, rfl, rfl, own_join hc2⟩ | 3, _ => ⟨_, _, rfl, rfl, own_join hc3⟩ | (i + 4), hi => absurd hi (Nat.not_lt.mpr (Nat.le_add_left 4 _)))⟩⟩
theorem ef_rm10_4_0 (m : MethodId) (b : Addr) : entryFrame m #[(.ref b), (.int (4 : Int32))] 2 = mkF m 0 #[vR b, vI (4 : Int32)] [] := by first | (simp [entryFrame, mkF, argsToLocals, Value.category]; done) | rfl
def Q_rm10_4_0 (Z : State) (b : Addr) (kb : ClassId) (vs : List Value) (h0 : Heap) (n0 : Nat) (v : Option Value) (h : Heap) (L : List Loc) : Prop := v = some (.int (0 : Int32)) ∧ Fr n0 L ∧ h = h0
set_option maxRecDepth 65536 in
set_option maxHeartbeats 40000000 in
theorem rm10_4_0 (l : Launch) (Z : State) (a0 : Array Value) (hw : ∀ d ∈ tables_1, d.before a0 Z = true) (ws : List Jvm.Cond) (b : Addr) (kb : ClassId) (vs : List Value) (h0 : Heap) (n0 : Nat) (Z0 : n0 ≤ h0.size) (V0 : Arv Z h0 b kb .byte (4 : Int32) vs (.int (0 : Int32))) :
    MetFree l (⟨"java/lang/StringUTF16", "coderFromArrayLen", "([BI)B"⟩ : MethodName) (head1 (Jvm.Cond.code (⟨"java/lang/StringUTF16", "coderFromArrayLen", "([BI)B"⟩ : MethodName) jdk_52_method_15_code 2 (some .byte) :: ws) ({ frames := 0, cells := 0, slots := 0, locals := 0 } : Room)) (fun aα Uα => aα = #[(.ref b), (.int (4 : Int32))] ∧ Z.Warmed39 Uα.vm ∧ Uα.heap = h0) (fun _ _ _ _ _ => True) (fun _ Uα oα Uβ => ∃ vα Lα, oα = .returned vα ∧ Q_rm10_4_0 Z b kb vs h0 n0 vα Uβ.heap Lα ∧ FrameEnd Uα oα Uβ Lα ({ frames := 0, cells := 0, slots := 0, locals := 0 } : Room).cells ({ frames := 0, cells := 0, slots := 0, locals := 0 } : Room).slots) := by
  refine MetFree.of_bodySF (plainFor_of_name pn_java_lang_StringUTF16) hisR ?_
  intro p e s m args below meth c s₁ Bd hml0 hP hKα
  obtain ⟨rfl, hZ, hh⟩ := hP
  have hx := Bd.exec
  have hby := Bd.bytes
  have hml : c.maxLocals = 2 := hml0
  have hown : s.vm.findClass "java/lang/StringUTF16" = some m.cls := findClass_of_methodNamed Bd.named
  have hnm := (name_of_methodNamed Bd.named Bd.method).1
  have X0 : Stand p l e ({ frames := 0, cells := 0, slots := 0, locals := 0 } : Room) s m #[(.ref b), (.int (4 : Int32))] below meth c s₁ [] 0 0 := Stand.of_body Bd
  have e0 : s₁.heap = h0 := by rw [← hh, Bd.state]; rfl
  have N0 := Fr.nil n0
  suffices k0 : Gl p e below s (Q_rm10_4_0 Z b kb vs h0 n0) ({ frames := 0, cells := 0, slots := 0, locals := 0 } : Room).cells ({ frames := 0, cells := 0, slots := 0, locals := 0 } : Room).slots s₁ (mkF m 0 #[vR b, vI (4 : Int32)] []) from Gl.st (fun τ κ => castTop (ef_rm10_4_0 m b) κ) k0
  refine Gl.st (g' := (mkF m 2 #[vR b, vI (4 : Int32)] [(.ref b), (.int (4 : Int32))])) (fun τ κ => XS.iloadN X0.here hx rfl (hb hby d10_0) rfl (XS.aloadN X0.here hx rfl (hb hby d10_1) rfl rfl κ)) ?_
  obtain ⟨cl_o901, Ar_o901, q_o901, S_o901, M_o901, H_o901, G_o901⟩ := id V0
  refine Gl.st (g' := (mkF m 3 #[vR b, vI (4 : Int32)] [(.int (4 : Int32)), (.int (4 : Int32))])) (fun τ κ => X0.arraylength hx (by rw [e0]; exact Ar_o901.1) (State.isArrayOf_alike hZ.alike Ar_o901.2.1) (g := (mkF m 2 #[vR b, vI (4 : Int32)] [(.ref b), (.int (4 : Int32))])) rfl rfl (hb hby d10_2) _ (by rw [len_of S_o901 M_o901]; exact κ)) ?_
  refine Gl.st (g' := (mkF m 6 #[vR b, vI (4 : Int32)] [(.int (31 : Int32)), (.int (0 : Int32))])) (fun τ κ => XS.isub X0.here hx rfl (hb hby d10_3) rfl (XS.bipush X0.here hx rfl (hb hby d10_4) κ)) ?_
  refine Gl.st (g' := (mkF m 7 #[vR b, vI (4 : Int32)] [(.int (((0 : Int32).toUInt32 >>> ((31 : Int32) &&& 31).toUInt32).toInt32))])) (fun τ κ => XS.iushr X0.here hx rfl (hb hby d10_6) rfl κ) ?_
  rw [show (((0 : Int32).toUInt32 >>> ((31 : Int32) &&& 31).toUInt32).toInt32) = (0 : Int32) from by decide]
  refine Gl.st (g' := (mkF m 8 #[vR b, vI (4 : Int32)] [(.int ((0 : Int32).toInt8.toInt32))])) (fun τ κ => XS.i2b X0.here hx rfl (hb hby d10_7) rfl κ) ?_
  rw [show ((0 : Int32).toInt8.toInt32) = (0 : Int32) from by decide]
  exact Gl.ret (v := some (.int (0 : Int32))) X0 Bd.notSynchronized (fun h => by rw [Bd.returns] at h; cases h) e0 (fun fs hr => retN X0 hx (t := .byte) Bd.returns (by simp) (hb hby d10_8) hr) (by decide) (by decide) ⟨rfl, N0, rfl⟩
theorem ef_rm10_4_1 (m : MethodId) (b : Addr) : entryFrame m #[(.ref b), (.int (4 : Int32))] 2 = mkF m 0 #[vR b, vI (4 : Int32)] [] := by first | (simp [entryFrame, mkF, argsToLocals, Value.category]; done) | rfl
def Q_rm10_4_1 (Z : State) (b : Addr) (kb : ClassId) (vs : List Value) (h0 : Heap) (n0 : Nat) (v : Option Value) (h : Heap) (L : List Loc) : Prop := v = some (.int (1 : Int32)) ∧ Fr n0 L ∧ h = h0
set_option maxRecDepth 65536 in
set_option maxHeartbeats 40000000 in
theorem rm10_4_1 (l : Launch) (Z : State) (a0 : Array Value) (hw : ∀ d ∈ tables_1, d.before a0 Z = true) (ws : List Jvm.Cond) (b : Addr) (kb : ClassId) (vs : List Value) (h0 : Heap) (n0 : Nat) (Z0 : n0 ≤ h0.size) (V0 : Arv Z h0 b kb .byte (8 : Int32) vs (.int (0 : Int32))) :
    MetFree l (⟨"java/lang/StringUTF16", "coderFromArrayLen", "([BI)B"⟩ : MethodName) (head1 (Jvm.Cond.code (⟨"java/lang/StringUTF16", "coderFromArrayLen", "([BI)B"⟩ : MethodName) jdk_52_method_15_code 2 (some .byte) :: ws) ({ frames := 0, cells := 0, slots := 0, locals := 0 } : Room)) (fun aα Uα => aα = #[(.ref b), (.int (4 : Int32))] ∧ Z.Warmed39 Uα.vm ∧ Uα.heap = h0) (fun _ _ _ _ _ => True) (fun _ Uα oα Uβ => ∃ vα Lα, oα = .returned vα ∧ Q_rm10_4_1 Z b kb vs h0 n0 vα Uβ.heap Lα ∧ FrameEnd Uα oα Uβ Lα ({ frames := 0, cells := 0, slots := 0, locals := 0 } : Room).cells ({ frames := 0, cells := 0, slots := 0, locals := 0 } : Room).slots) := by
  refine MetFree.of_bodySF (plainFor_of_name pn_java_lang_StringUTF16) hisR ?_
  intro p e s m args below meth c s₁ Bd hml0 hP hKα
  obtain ⟨rfl, hZ, hh⟩ := hP
  have hx := Bd.exec
  have hby := Bd.bytes
  have hml : c.maxLocals = 2 := hml0
  have hown : s.vm.findClass "java/lang/StringUTF16" = some m.cls := findClass_of_methodNamed Bd.named
  have hnm := (name_of_methodNamed Bd.named Bd.method).1
  have X0 : Stand p l e ({ frames := 0, cells := 0, slots := 0, locals := 0 } : Room) s m #[(.ref b), (.int (4 : Int32))] below meth c s₁ [] 0 0 := Stand.of_body Bd
  have e0 : s₁.heap = h0 := by rw [← hh, Bd.state]; rfl
  have N0 := Fr.nil n0
  suffices k0 : Gl p e below s (Q_rm10_4_1 Z b kb vs h0 n0) ({ frames := 0, cells := 0, slots := 0, locals := 0 } : Room).cells ({ frames := 0, cells := 0, slots := 0, locals := 0 } : Room).slots s₁ (mkF m 0 #[vR b, vI (4 : Int32)] []) from Gl.st (fun τ κ => castTop (ef_rm10_4_1 m b) κ) k0
  refine Gl.st (g' := (mkF m 2 #[vR b, vI (4 : Int32)] [(.ref b), (.int (4 : Int32))])) (fun τ κ => XS.iloadN X0.here hx rfl (hb hby d10_0) rfl (XS.aloadN X0.here hx rfl (hb hby d10_1) rfl rfl κ)) ?_
  obtain ⟨cl_o902, Ar_o902, q_o902, S_o902, M_o902, H_o902, G_o902⟩ := id V0
  refine Gl.st (g' := (mkF m 3 #[vR b, vI (4 : Int32)] [(.int (8 : Int32)), (.int (4 : Int32))])) (fun τ κ => X0.arraylength hx (by rw [e0]; exact Ar_o902.1) (State.isArrayOf_alike hZ.alike Ar_o902.2.1) (g := (mkF m 2 #[vR b, vI (4 : Int32)] [(.ref b), (.int (4 : Int32))])) rfl rfl (hb hby d10_2) _ (by rw [len_of S_o902 M_o902]; exact κ)) ?_
  refine Gl.st (g' := (mkF m 6 #[vR b, vI (4 : Int32)] [(.int (31 : Int32)), (.int (-4 : Int32))])) (fun τ κ => XS.isub X0.here hx rfl (hb hby d10_3) rfl (XS.bipush X0.here hx rfl (hb hby d10_4) κ)) ?_
  refine Gl.st (g' := (mkF m 7 #[vR b, vI (4 : Int32)] [(.int (((-4 : Int32).toUInt32 >>> ((31 : Int32) &&& 31).toUInt32).toInt32))])) (fun τ κ => XS.iushr X0.here hx rfl (hb hby d10_6) rfl κ) ?_
  rw [show (((-4 : Int32).toUInt32 >>> ((31 : Int32) &&& 31).toUInt32).toInt32) = (1 : Int32) from by decide]
  refine Gl.st (g' := (mkF m 8 #[vR b, vI (4 : Int32)] [(.int ((1 : Int32).toInt8.toInt32))])) (fun τ κ => XS.i2b X0.here hx rfl (hb hby d10_7) rfl κ) ?_
  rw [show ((1 : Int32).toInt8.toInt32) = (1 : Int32) from by decide]
  exact Gl.ret (v := some (.int (1 : Int32))) X0 Bd.notSynchronized (fun h => by rw [Bd.returns] at h; cases h) e0 (fun fs hr => retN X0 hx (t := .byte) Bd.returns (by simp) (hb hby d10_8) hr) (by decide) (by decide) ⟨rfl, N0, rfl⟩
theorem ef_rm3_4 (m : MethodId) (a : Addr) (ca : Addr) : entryFrame m #[(.ref a), (.ref ca), (.int (0 : Int32)), (.int (4 : Int32)), .null] 6 = mkF m 0 #[vR a, vR ca, vI (0 : Int32), vI (4 : Int32), .val .null, .unset] [] := by first | (simp [entryFrame, mkF, argsToLocals, Value.category]; done) | rfl
def Q_rm3_4 (Z : State) (a : Addr) (ca : Addr) (kc : ClassId) (cs : Int32) (c0 c1 c2 c3 : Int32) (h0 : Heap) (n0 : Nat) (v : Option Value) (h : Heap) (L : List Loc) : Prop := v = none ∧ Fr n0 L ∧ Keep h0 h [a] ∧ own_str Z h a (4 : Int32) [c0, c1, c2, c3]
set_option maxRecDepth 65536 in
set_option maxHeartbeats 40000000 in
theorem rm3_4 (l : Launch) (Z : State) (a0 : Array Value) (hw : ∀ d ∈ tables_1, d.before a0 Z = true) (ws : List Jvm.Cond) (a : Addr) (ca : Addr) (kc : ClassId) (cs : Int32) (c0 c1 c2 c3 : Int32) (h0 : Heap) (n0 : Nat) (Z0 : n0 ≤ h0.size) (E0 : Exa Z h0 a "java/lang/String") (g0 : n0 ≤ a) (FV : Fld Z h0 a "java/lang/String" "value" "[B" .null) (FC : Fld Z h0 a "java/lang/String" "coder" "B" (.int (0 : Int32))) (hac : a ≠ ca) (S0 : Sta Z h0 "java/lang/String" "COMPACT_STRINGS" "Z" (.int cs)) (hcs : ¬ cs = (0 : Int32)) (SA : Sta Z h0 "java/lang/StringUTF16" "$assertionsDisabled" "Z" (.int (1 : Int32))) (SH : Sta Z h0 "java/lang/StringUTF16" "HI_BYTE_SHIFT" "I" (.int (0 : Int32))) (SL : Sta Z h0 "java/lang/StringUTF16" "LO_BYTE_SHIFT" "I" (.int (8 : Int32))) (V0 : Arv Z h0 ca kc .char (4 : Int32) [(.int c0), (.int c1), (.int c2), (.int c3)] (.int (0 : Int32))) (hc0 : own_ch c0) (hc1 : own_ch c1) (hc2 : own_ch c2) (hc3 : own_ch c3) :
    MetFree l (⟨"java/lang/String", "<init>", "([CIILjava/lang/Void;)V"⟩ : MethodName) (head1 (Jvm.Cond.code (⟨"java/lang/String", "<init>", "([CIILjava/lang/Void;)V"⟩ : MethodName) jdk_42_method_149_code 6 none :: ws) ({ frames := 4, cells := 2, slots := 12, locals := 57 } : Room)) (fun aα Uα => aα = #[(.ref a), (.ref ca), (.int (0 : Int32)), (.int (4 : Int32)), .null] ∧ Z.Warmed39 Uα.vm ∧ Uα.heap = h0) (fun _ _ _ _ _ => True) (fun _ Uα oα Uβ => ∃ vα Lα, oα = .returned vα ∧ Q_rm3_4 Z a ca kc cs c0 c1 c2 c3 h0 n0 vα Uβ.heap Lα ∧ FrameEnd Uα oα Uβ Lα ({ frames := 4, cells := 2, slots := 12, locals := 57 } : Room).cells ({ frames := 4, cells := 2, slots := 12, locals := 57 } : Room).slots) := by
  refine MetFree.of_bodySF (plainFor_of_name pn_java_lang_String) hisR ?_
  intro p e s m args below meth c s₁ Bd hml0 hP hKα
  obtain ⟨rfl, hZ, hh⟩ := hP
  have hx := Bd.exec
  have hby := Bd.bytes
  have hml : c.maxLocals = 6 := hml0
  have hown : s.vm.findClass "java/lang/String" = some m.cls := findClass_of_methodNamed Bd.named
  have hnm := (name_of_methodNamed Bd.named Bd.method).1
  have X0 : Stand p l e ({ frames := 4, cells := 2, slots := 12, locals := 57 } : Room) s m #[(.ref a), (.ref ca), (.int (0 : Int32)), (.int (4 : Int32)), .null] below meth c s₁ [] 0 0 := Stand.of_body Bd
  have e0 : s₁.heap = h0 := by rw [← hh, Bd.state]; rfl
  have N0 := Fr.nil n0
  suffices k0 : Gl p e below s (Q_rm3_4 Z a ca kc cs c0 c1 c2 c3 h0 n0) ({ frames := 4, cells := 2, slots := 12, locals := 57 } : Room).cells ({ frames := 4, cells := 2, slots := 12, locals := 57 } : Room).slots s₁ (mkF m 0 #[vR a, vR ca, vI (0 : Int32), vI (4 : Int32), .val .null, .unset] []) from Gl.st (fun τ κ => castTop (ef_rm3_4 m a ca) κ) k0
  refine Gl.st (g' := (mkF m 1 #[vR a, vR ca, vI (0 : Int32), vI (4 : Int32), .val .null, .unset] [(.ref a)])) (fun τ κ => XS.aloadN X0.here hx rfl (hb hby d3_0) rfl rfl κ) ?_
  obtain ⟨T903, X903, e903, st903⟩ := initO X0 hx hZ hown (w17_ hw) (w18_ hw) (w19_ hw) e0 (g := (mkF m 1 #[vR a, vR ca, vI (0 : Int32), vI (4 : Int32), .val .null, .unset] [(.ref a)])) rfl (by rw [hml]; rfl) rfl (hb hby d3_1) (by decide) (W := 0) (by show 2 * 0 + _ ≤ _; exact Nat.le_of_eq rfl) (by decide)
  refine Gl.st (g' := (mkF m 4 #[vR a, vR ca, vI (0 : Int32), vI (4 : Int32), .val .null, .unset] [])) (fun τ κ => st903 _ κ) ?_
  refine Gl.st (g' := (mkF m 5 #[vR a, vR ca, vI (0 : Int32), vI (4 : Int32), .val .null, .unset] [(.int (4 : Int32))])) (fun τ κ => XS.iloadN X903.here hx rfl (hb hby d3_4) rfl κ) ?_
  have hc904 : ¬ ((4 : Int32) = (0 : Int32)) := by decide
  refine Gl.st (g' := (mkF m 27 #[vR a, vR ca, vI (0 : Int32), vI (4 : Int32), .val .null, .unset] [])) (fun τ κ => XS.ifYes X903.here hx rfl (pc0 := 5) (pc' := 27) rfl (hb hby d3_5) rfl ((if0 _ _).trans (feq hc904).2) (by decide) (by decide) κ) ?_
  obtain ⟨T905, X905, e905, st905⟩ := getS2 X903 hx hZ hown (host := "") (Or.inl (w42_ hw)) Via.refl e903 S0 (g := (mkF m 27 #[vR a, vR ca, vI (0 : Int32), vI (4 : Int32), .val .null, .unset] [])) rfl (hb hby d3_27)
  refine Gl.st (g' := (mkF m 30 #[vR a, vR ca, vI (0 : Int32), vI (4 : Int32), .val .null, .unset] [(.int cs)])) (fun τ κ => st905 _ κ) ?_
  have hc906 : ¬ (cs = (0 : Int32)) := hcs
  refine Gl.st (g' := (mkF m 34 #[vR a, vR ca, vI (0 : Int32), vI (4 : Int32), .val .null, .unset] [(.ref ca)])) (fun τ κ => XS.ifNo X905.here hx rfl (hb hby d3_30) rfl ((if0 _ _).trans (feq hc906).1) (XS.aloadN X905.here hx rfl (hb hby d3_33) rfl rfl κ)) ?_
  refine Gl.st (g' := (mkF m 36 #[vR a, vR ca, vI (0 : Int32), vI (4 : Int32), .val .null, .unset] [(.int (4 : Int32)), (.int (0 : Int32)), (.ref ca)])) (fun τ κ => XS.iloadN X905.here hx rfl (hb hby d3_34) rfl (XS.iloadN X905.here hx rfl (hb hby d3_35) rfl κ)) ?_
  obtain ⟨rv907, _, ⟨T907, L907, k907, n907⟩, -, X907, ⟨Lc907, hQ907, l907, y907, z907⟩, st907⟩ := Jvm.LawKit.callS X905 hx (y := (⟨"java/lang/StringUTF16", "compress", "([CII)[B"⟩ : MethodName)) hown (mvT hZ (w43_ hw)) (mvT hZ (w44_ hw)) (mvT hZ (w45_ hw)) (mvT hZ (w46_ hw)) (by decide) (backOf (W := 0) (rm8_4 l Z a0 hw [] ca kc c0 c1 c2 c3 h0 n0 Z0 SA SH SL V0 hc0 hc1 hc2 hc3) hZ (w46_ hw) (w45_ hw) (by decide) (by decide)) (g := (mkF m 36 #[vR a, vR ca, vI (0 : Int32), vI (4 : Int32), .val .null, .unset] [(.int (4 : Int32)), (.int (0 : Int32)), (.ref ca)])) rfl (by rw [hml]; rfl) (argsL := [(.ref ca), (.int (0 : Int32)), (.int (4 : Int32))]) (rest := []) (lenOf pd_13 rfl) rfl (by show 2 * 0 + _ ≤ _; exact Nat.le_of_eq rfl) (hb hby d3_36) (fun _ _ => ⟨rfl, e905, (by decide : 0 + 2 ≤ _), (by decide : 0 + 12 ≤ _)⟩)
  dsimp only [Pt.U, Pt.locs, Pt.cells, Pt.slots] at X907 l907 y907 z907 st907 hQ907
  subst l907 y907 z907
  obtain ⟨b907, kk907, z, vs, rfl, N907q, Kc907, s907, V907, hb⟩ := hQ907
  have ne_ca_b907 : ca ≠ b907 := Nat.ne_of_lt (Nat.lt_of_lt_of_le V0.lt s907)
  have ne_a_b907 : a ≠ b907 := Nat.ne_of_lt (Nat.lt_of_lt_of_le E0.lt s907)
  have g_b907 : n0 ≤ b907 := Nat.le_trans Z0 s907
  have sz_b907 : h0.size ≤ b907 := Nat.le_trans (Keep.refl h0 [a]).1 s907
  have S_908 := Sta.keepX SA Kc907 all0
  have S_909 := Sta.keepX SH Kc907 all0
  have S_910 := Sta.keepX SL Kc907 all0
  have S_911 := Sta.keepX S0 Kc907 all0
  have V_912 := V0.keep Kc907 nin0
  have E_913 := E0.keep Kc907
  have F_914 := FV.keep Kc907 nin0
  have F_915 := FC.keep Kc907 nin0
  have N907 := Fr.app N0 N907q
  have Z907 : n0 ≤ T907.heap.size := Nat.le_trans Z0 Kc907.1
  have K907 : Keep h0 T907.heap [a] := (Keep.refl h0 [a]).trans Kc907 all0
  refine Gl.st (g' := (mkF m 39 #[vR a, vR ca, vI (0 : Int32), vI (4 : Int32), .val .null, .unset] [(.ref b907)])) (fun τ κ => st907 _ κ) ?_
  rcases hb with ⟨hz, hv⟩ | ⟨hz, hv⟩
  · -- coder 0
    obtain rfl : z = (4 : Int32) := hz
    refine Gl.st (g' := (mkF m 42 #[vR a, vR ca, vI (0 : Int32), vI (4 : Int32), .val .null, vR b907] [(.ref a)])) (fun τ κ => XS.astore X907.here hx rfl (hb hby d3_39) rfl rfl (l' := #[vR a, vR ca, vI (0 : Int32), vI (4 : Int32), .val .null, vR b907]) rfl (XS.aloadN X907.here hx rfl (hb hby d3_41) rfl rfl κ)) ?_
    refine Gl.st (g' := (mkF m 45 #[vR a, vR ca, vI (0 : Int32), vI (4 : Int32), .val .null, vR b907] [(.int (4 : Int32)), (.ref b907), (.ref a)])) (fun τ κ => XS.aload X907.here hx rfl (hb hby d3_42) rfl rfl (XS.iloadN X907.here hx rfl (hb hby d3_44) rfl κ)) ?_
    obtain ⟨rv916, _, ⟨T916, L916, k916, n916⟩, -, X916, ⟨Lc916, hQ916, l916, y916, z916⟩, st916⟩ := Jvm.LawKit.callS X907 hx (y := (⟨"java/lang/StringUTF16", "coderFromArrayLen", "([BI)B"⟩ : MethodName)) hown (mvT hZ (w50_ hw)) (mvT hZ (w51_ hw)) (mvT hZ (w45_ hw)) (mvT hZ (w52_ hw)) (by decide) (backOf (W := 1) (rm10_4_0 l Z a0 hw [] b907 kk907 vs T907.heap n0 Z907 V907) hZ (w52_ hw) (w45_ hw) (by decide) (by decide)) (g := (mkF m 45 #[vR a, vR ca, vI (0 : Int32), vI (4 : Int32), .val .null, vR b907] [(.int (4 : Int32)), (.ref b907), (.ref a)])) rfl (by rw [hml]; rfl) (argsL := [(.ref b907), (.int (4 : Int32))]) (rest := [(.ref a)]) (lenOf pd_14 rfl) rfl (by show 2 * 0 + _ ≤ _; exact Nat.le_of_eq rfl) (hb hby d3_45) (fun _ _ => ⟨rfl, rfl, (by decide : 2 + 0 ≤ _), (by decide : 12 + 0 ≤ _)⟩)
    dsimp only [Pt.U, Pt.locs, Pt.cells, Pt.slots] at X916 l916 y916 z916 st916 hQ916
    subst l916 y916 z916
    obtain ⟨hq916, N916q, e916⟩ := hQ916
    have hq916 : rv916 = some (.int (0 : Int32)) := hq916
    subst hq916
    have N916 := Fr.app N907 N916q
    refine Gl.st (g' := (mkF m 48 #[vR a, vR ca, vI (0 : Int32), vI (4 : Int32), .val .null, vR b907] [(.int (0 : Int32)), (.ref a)])) (fun τ κ => st916 _ κ) ?_
    obtain ⟨T917, h917, X917, e917, W917, st917⟩ := putFN X916 hx hZ hown (w27_ hw) Via.refl e916 F_915 E_913 (Or.inr ⟨(w23_ hw), rfl, hnm⟩) (w7_ hw) (ty := .byte) (v' := (.int (0 : Int32))) (by decide) rfl rfl (g := (mkF m 48 #[vR a, vR ca, vI (0 : Int32), vI (4 : Int32), .val .null, vR b907] [(.int (0 : Int32)), (.ref a)])) rfl rfl (hb hby d3_48)
    have S_918 := S_908.wr W917
    have S_919 := S_909.wr W917
    have S_920 := S_910.wr W917
    have S_921 := S_911.wr W917
    have V_922 := V_912.other W917 (Ne.symm hac)
    have E_923 := E_913.wr W917
    have F_924 := F_914.other W917 (Or.inr (slot_ne (Or.inr (w22_ hw)) (Or.inr (w23_ hw)) (by decide) (t := (.array .byte)) (t' := .byte) (by decide) (by decide)))
    have V_926 := V907.other W917 (Ne.symm ne_a_b907)
    have N917 := Fr.snoc X917 N916 g0
    have Z917 : n0 ≤ h917.size := Nat.le_trans Z907 (Nat.le_of_eq W917.size.symm)
    have K917 : Keep h0 h917 [a] := K907.wr W917 (Or.inl (List.mem_of_getElem? (i := 0) rfl))
    have F_927 := F_915.same W917
    refine Gl.st (g' := (mkF m 51 #[vR a, vR ca, vI (0 : Int32), vI (4 : Int32), .val .null, vR b907] [])) (fun τ κ => st917 _ κ) ?_
    refine Gl.st (g' := (mkF m 54 #[vR a, vR ca, vI (0 : Int32), vI (4 : Int32), .val .null, vR b907] [(.ref b907), (.ref a)])) (fun τ κ => XS.aloadN X917.here hx rfl (hb hby d3_51) rfl rfl (XS.aload X917.here hx rfl (hb hby d3_52) rfl rfl κ)) ?_
    obtain ⟨T928, h928, X928, e928, W928, st928⟩ := putF X917 hx hZ hown (host := "") (Or.inl (w26_ hw)) Via.refl e917 F_924 E_923 (Or.inr ⟨(w22_ hw), rfl, hnm⟩) (w7_ hw) (ty := (.array .byte)) (by decide) rfl rfl (g := (mkF m 54 #[vR a, vR ca, vI (0 : Int32), vI (4 : Int32), .val .null, vR b907] [(.ref b907), (.ref a)])) rfl rfl (hb hby d3_54)
    have S_929 := S_918.wr W928
    have S_930 := S_919.wr W928
    have S_931 := S_920.wr W928
    have S_932 := S_921.wr W928
    have V_933 := V_922.other W928 (Ne.symm hac)
    have E_934 := E_923.wr W928
    have F_936 := F_927.other W928 (Or.inr (slot_ne (Or.inr (w23_ hw)) (Or.inr (w22_ hw)) (by decide) (t := .byte) (t' := (.array .byte)) (by decide) (by decide)))
    have V_937 := V_926.other W928 (Ne.symm ne_a_b907)
    have N928 := Fr.snoc X928 N917 g0
    have Z928 : n0 ≤ h928.size := Nat.le_trans Z917 (Nat.le_of_eq W928.size.symm)
    have K928 : Keep h0 h928 [a] := K917.wr W928 (Or.inl (List.mem_of_getElem? (i := 0) rfl))
    have F_938 := F_924.same W928
    refine Gl.st (g' := (mkF m 57 #[vR a, vR ca, vI (0 : Int32), vI (4 : Int32), .val .null, vR b907] [])) (fun τ κ => st928 _ κ) ?_
    exact Gl.ret (v := none) X928 Bd.notSynchronized (fun _ => rfl) e928 (fun fs hr => X928.returnOut hx Bd.returns (hb hby d3_57) hr) (by decide) (by decide) ⟨rfl, N928, K928, E_934, by unfold own_small; decide, (fun i hi => match i, hi with | 0, _ => hc0 | 1, _ => hc1 | 2, _ => hc2 | 3, _ => hc3 | (i + 4), hi => absurd hi (Nat.not_lt.mpr (Nat.le_add_left 4 _))), b907, kk907, _, _, F_938, V_937, Or.inl ⟨F_936, rfl, hv⟩⟩
  · -- coder 1
    obtain rfl : z = (8 : Int32) := hz.trans (by decide)
    refine Gl.st (g' := (mkF m 42 #[vR a, vR ca, vI (0 : Int32), vI (4 : Int32), .val .null, vR b907] [(.ref a)])) (fun τ κ => XS.astore X907.here hx rfl (hb hby d3_39) rfl rfl (l' := #[vR a, vR ca, vI (0 : Int32), vI (4 : Int32), .val .null, vR b907]) rfl (XS.aloadN X907.here hx rfl (hb hby d3_41) rfl rfl κ)) ?_
    refine Gl.st (g' := (mkF m 45 #[vR a, vR ca, vI (0 : Int32), vI (4 : Int32), .val .null, vR b907] [(.int (4 : Int32)), (.ref b907), (.ref a)])) (fun τ κ => XS.aload X907.here hx rfl (hb hby d3_42) rfl rfl (XS.iloadN X907.here hx rfl (hb hby d3_44) rfl κ)) ?_
    obtain ⟨rv939, _, ⟨T939, L939, k939, n939⟩, -, X939, ⟨Lc939, hQ939, l939, y939, z939⟩, st939⟩ := Jvm.LawKit.callS X907 hx (y := (⟨"java/lang/StringUTF16", "coderFromArrayLen", "([BI)B"⟩ : MethodName)) hown (mvT hZ (w50_ hw)) (mvT hZ (w51_ hw)) (mvT hZ (w45_ hw)) (mvT hZ (w52_ hw)) (by decide) (backOf (W := 1) (rm10_4_1 l Z a0 hw [] b907 kk907 vs T907.heap n0 Z907 V907) hZ (w52_ hw) (w45_ hw) (by decide) (by decide)) (g := (mkF m 45 #[vR a, vR ca, vI (0 : Int32), vI (4 : Int32), .val .null, vR b907] [(.int (4 : Int32)), (.ref b907), (.ref a)])) rfl (by rw [hml]; rfl) (argsL := [(.ref b907), (.int (4 : Int32))]) (rest := [(.ref a)]) (lenOf pd_14 rfl) rfl (by show 2 * 0 + _ ≤ _; exact Nat.le_of_eq rfl) (hb hby d3_45) (fun _ _ => ⟨rfl, rfl, (by decide : 2 + 0 ≤ _), (by decide : 12 + 0 ≤ _)⟩)
    dsimp only [Pt.U, Pt.locs, Pt.cells, Pt.slots] at X939 l939 y939 z939 st939 hQ939
    subst l939 y939 z939
    obtain ⟨hq939, N939q, e939⟩ := hQ939
    have hq939 : rv939 = some (.int (1 : Int32)) := hq939
    subst hq939
    have N939 := Fr.app N907 N939q
    refine Gl.st (g' := (mkF m 48 #[vR a, vR ca, vI (0 : Int32), vI (4 : Int32), .val .null, vR b907] [(.int (1 : Int32)), (.ref a)])) (fun τ κ => st939 _ κ) ?_
    obtain ⟨T940, h940, X940, e940, W940, st940⟩ := putFN X939 hx hZ hown (w27_ hw) Via.refl e939 F_915 E_913 (Or.inr ⟨(w23_ hw), rfl, hnm⟩) (w7_ hw) (ty := .byte) (v' := (.int (1 : Int32))) (by decide) rfl rfl (g := (mkF m 48 #[vR a, vR ca, vI (0 : Int32), vI (4 : Int32), .val .null, vR b907] [(.int (1 : Int32)), (.ref a)])) rfl rfl (hb hby d3_48)
    have S_941 := S_908.wr W940
    have S_942 := S_909.wr W940
    have S_943 := S_910.wr W940
    have S_944 := S_911.wr W940
    have V_945 := V_912.other W940 (Ne.symm hac)
    have E_946 := E_913.wr W940
    have F_947 := F_914.other W940 (Or.inr (slot_ne (Or.inr (w22_ hw)) (Or.inr (w23_ hw)) (by decide) (t := (.array .byte)) (t' := .byte) (by decide) (by decide)))
    have V_949 := V907.other W940 (Ne.symm ne_a_b907)
    have N940 := Fr.snoc X940 N939 g0
    have Z940 : n0 ≤ h940.size := Nat.le_trans Z907 (Nat.le_of_eq W940.size.symm)
    have K940 : Keep h0 h940 [a] := K907.wr W940 (Or.inl (List.mem_of_getElem? (i := 0) rfl))
    have F_950 := F_915.same W940
    refine Gl.st (g' := (mkF m 51 #[vR a, vR ca, vI (0 : Int32), vI (4 : Int32), .val .null, vR b907] [])) (fun τ κ => st940 _ κ) ?_
    refine Gl.st (g' := (mkF m 54 #[vR a, vR ca, vI (0 : Int32), vI (4 : Int32), .val .null, vR b907] [(.ref b907), (.ref a)])) (fun τ κ => XS.aloadN X940.here hx rfl (hb hby d3_51) rfl rfl (XS.aload X940.here hx rfl (hb hby d3_52) rfl rfl κ)) ?_
    obtain ⟨T951, h951, X951, e951, W951, st951⟩ := putF X940 hx hZ hown (host := "") (Or.inl (w26_ hw)) Via.refl e940 F_947 E_946 (Or.inr ⟨(w22_ hw), rfl, hnm⟩) (w7_ hw) (ty := (.array .byte)) (by decide) rfl rfl (g := (mkF m 54 #[vR a, vR ca, vI (0 : Int32), vI (4 : Int32), .val .null, vR b907] [(.ref b907), (.ref a)])) rfl rfl (hb hby d3_54)
    have S_952 := S_941.wr W951
    have S_953 := S_942.wr W951
    have S_954 := S_943.wr W951
    have S_955 := S_944.wr W951
    have V_956 := V_945.other W951 (Ne.symm hac)
    have E_957 := E_946.wr W951
    have F_959 := F_950.other W951 (Or.inr (slot_ne (Or.inr (w23_ hw)) (Or.inr (w22_ hw)) (by decide) (t := .byte) (t' := (.array .byte)) (by decide) (by decide)))
    have V_960 := V_949.other W951 (Ne.symm ne_a_b907)
    have N951 := Fr.snoc X951 N940 g0
    have Z951 : n0 ≤ h951.size := Nat.le_trans Z940 (Nat.le_of_eq W951.size.symm)
    have K951 : Keep h0 h951 [a] := K940.wr W951 (Or.inl (List.mem_of_getElem? (i := 0) rfl))
    have F_961 := F_947.same W951
    refine Gl.st (g' := (mkF m 57 #[vR a, vR ca, vI (0 : Int32), vI (4 : Int32), .val .null, vR b907] [])) (fun τ κ => st951 _ κ) ?_
    exact Gl.ret (v := none) X951 Bd.notSynchronized (fun _ => rfl) e951 (fun fs hr => X951.returnOut hx Bd.returns (hb hby d3_57) hr) (by decide) (by decide) ⟨rfl, N951, K951, E_957, by unfold own_small; decide, (fun i hi => match i, hi with | 0, _ => hc0 | 1, _ => hc1 | 2, _ => hc2 | 3, _ => hc3 | (i + 4), hi => absurd hi (Nat.not_lt.mpr (Nat.le_add_left 4 _))), b907, kk907, _, _, F_961, V_960, Or.inr ⟨F_959, by decide, hv⟩⟩
theorem ef_rm2_4 (m : MethodId) (a : Addr) (ca : Addr) : entryFrame m #[(.ref a), (.ref ca)] 2 = mkF m 0 #[vR a, vR ca] [] := by first | (simp [entryFrame, mkF, argsToLocals, Value.category]; done) | rfl
def Q_rm2_4 (Z : State) (a : Addr) (ca : Addr) (kc : ClassId) (cs : Int32) (c0 c1 c2 c3 : Int32) (h0 : Heap) (n0 : Nat) (v : Option Value) (h : Heap) (L : List Loc) : Prop := v = none ∧ Fr n0 L ∧ Keep h0 h [a] ∧ own_str Z h a (4 : Int32) [c0, c1, c2, c3]
set_option maxRecDepth 65536 in
set_option maxHeartbeats 40000000 in
theorem rm2_4 (l : Launch) (Z : State) (a0 : Array Value) (hw : ∀ d ∈ tables_1, d.before a0 Z = true) (ws : List Jvm.Cond) (a : Addr) (ca : Addr) (kc : ClassId) (cs : Int32) (c0 c1 c2 c3 : Int32) (h0 : Heap) (n0 : Nat) (Z0 : n0 ≤ h0.size) (E0 : Exa Z h0 a "java/lang/String") (g0 : n0 ≤ a) (FV : Fld Z h0 a "java/lang/String" "value" "[B" .null) (FC : Fld Z h0 a "java/lang/String" "coder" "B" (.int (0 : Int32))) (hac : a ≠ ca) (S0 : Sta Z h0 "java/lang/String" "COMPACT_STRINGS" "Z" (.int cs)) (hcs : ¬ cs = (0 : Int32)) (SA : Sta Z h0 "java/lang/StringUTF16" "$assertionsDisabled" "Z" (.int (1 : Int32))) (SH : Sta Z h0 "java/lang/StringUTF16" "HI_BYTE_SHIFT" "I" (.int (0 : Int32))) (SL : Sta Z h0 "java/lang/StringUTF16" "LO_BYTE_SHIFT" "I" (.int (8 : Int32))) (V0 : Arv Z h0 ca kc .char (4 : Int32) [(.int c0), (.int c1), (.int c2), (.int c3)] (.int (0 : Int32))) (hc0 : own_ch c0) (hc1 : own_ch c1) (hc2 : own_ch c2) (hc3 : own_ch c3) :
    MetFree l (⟨"java/lang/String", "<init>", "([C)V"⟩ : MethodName) (head1 (Jvm.Cond.code (⟨"java/lang/String", "<init>", "([C)V"⟩ : MethodName) jdk_42_method_3_code 2 none :: ws) ({ frames := 5, cells := 2, slots := 12, locals := 74 } : Room)) (fun aα Uα => aα = #[(.ref a), (.ref ca)] ∧ Z.Warmed39 Uα.vm ∧ Uα.heap = h0) (fun _ _ _ _ _ => True) (fun _ Uα oα Uβ => ∃ vα Lα, oα = .returned vα ∧ Q_rm2_4 Z a ca kc cs c0 c1 c2 c3 h0 n0 vα Uβ.heap Lα ∧ FrameEnd Uα oα Uβ Lα ({ frames := 5, cells := 2, slots := 12, locals := 74 } : Room).cells ({ frames := 5, cells := 2, slots := 12, locals := 74 } : Room).slots) := by
  refine MetFree.of_bodySF (plainFor_of_name pn_java_lang_String) hisR ?_
  intro p e s m args below meth c s₁ Bd hml0 hP hKα
  obtain ⟨rfl, hZ, hh⟩ := hP
  have hx := Bd.exec
  have hby := Bd.bytes
  have hml : c.maxLocals = 2 := hml0
  have hown : s.vm.findClass "java/lang/String" = some m.cls := findClass_of_methodNamed Bd.named
  have hnm := (name_of_methodNamed Bd.named Bd.method).1
  have X0 : Stand p l e ({ frames := 5, cells := 2, slots := 12, locals := 74 } : Room) s m #[(.ref a), (.ref ca)] below meth c s₁ [] 0 0 := Stand.of_body Bd
  have e0 : s₁.heap = h0 := by rw [← hh, Bd.state]; rfl
  have N0 := Fr.nil n0
  suffices k0 : Gl p e below s (Q_rm2_4 Z a ca kc cs c0 c1 c2 c3 h0 n0) ({ frames := 5, cells := 2, slots := 12, locals := 74 } : Room).cells ({ frames := 5, cells := 2, slots := 12, locals := 74 } : Room).slots s₁ (mkF m 0 #[vR a, vR ca] []) from Gl.st (fun τ κ => castTop (ef_rm2_4 m a ca) κ) k0
  refine Gl.st (g' := (mkF m 2 #[vR a, vR ca] [(.ref ca), (.ref a)])) (fun τ κ => XS.aloadN X0.here hx rfl (hb hby d2_0) rfl rfl (XS.aloadN X0.here hx rfl (hb hby d2_1) rfl rfl κ)) ?_
  refine Gl.st (g' := (mkF m 4 #[vR a, vR ca] [(.ref ca), (.int (0 : Int32)), (.ref ca), (.ref a)])) (fun τ κ => XS.iconst X0.here hx rfl (hb hby d2_2) (XS.aloadN X0.here hx rfl (hb hby d2_3) rfl rfl κ)) ?_
  obtain ⟨cl_o962, Ar_o962, q_o962, S_o962, M_o962, H_o962, G_o962⟩ := id V0
  refine Gl.st (g' := (mkF m 5 #[vR a, vR ca] [(.int (4 : Int32)), (.int (0 : Int32)), (.ref ca), (.ref a)])) (fun τ κ => X0.arraylength hx (by rw [e0]; exact Ar_o962.1) (State.isArrayOf_alike hZ.alike Ar_o962.2.1) (g := (mkF m 4 #[vR a, vR ca] [(.ref ca), (.int (0 : Int32)), (.ref ca), (.ref a)])) rfl rfl (hb hby d2_4) _ (by rw [len_of S_o962 M_o962]; exact κ)) ?_
  refine Gl.st (g' := (mkF m 6 #[vR a, vR ca] [.null, (.int (4 : Int32)), (.int (0 : Int32)), (.ref ca), (.ref a)])) (fun τ κ => XS.aconstNull X0.here hx rfl (hb hby d2_5) κ) ?_
  obtain ⟨rv963, _, ⟨T963, L963, k963, n963⟩, -, X963, ⟨Lc963, hQ963, l963, y963, z963⟩, st963⟩ := X0.specialBack hx (y := (⟨"java/lang/String", "<init>", "([CIILjava/lang/Void;)V"⟩ : MethodName)) rfl hown (mvT hZ (w13_ hw)) (mvT hZ (w14_ hw)) (mvT hZ (w16_ hw)) (by decide) (backOf (W := 0) (rm3_4 l Z a0 hw [] a ca kc cs c0 c1 c2 c3 h0 n0 Z0 E0 g0 FV FC hac S0 hcs SA SH SL V0 hc0 hc1 hc2 hc3) hZ (w16_ hw) (w8_ hw) (by decide) (by decide)) (g := (mkF m 6 #[vR a, vR ca] [.null, (.int (4 : Int32)), (.int (0 : Int32)), (.ref ca), (.ref a)])) rfl (by rw [hml]; rfl) (Steps.refl _) (a := a) (argsL := [(.ref ca), (.int (0 : Int32)), (.int (4 : Int32)), .null]) (rest := []) (lenOf pd_15 rfl) rfl (by show 2 * 0 + _ ≤ _; exact Nat.le_of_eq rfl) (hb hby d2_6) (fun _ _ => ⟨rfl, e0, (by decide : 0 + 2 ≤ _), (by decide : 0 + 12 ≤ _)⟩)
  dsimp only [Pt.U, Pt.locs, Pt.cells, Pt.slots] at X963 l963 y963 z963 st963 hQ963
  subst l963 y963 z963
  obtain ⟨rfl, N963q, Kc963, HS963⟩ := hQ963
  have S_964 := Sta.keepX SA Kc963 (allS (P := fun x => ∃ c : Cell, h0[x]? = some c ∧ ∀ q, c.vm ≠ .statics q) E0.cell all0)
  have S_965 := Sta.keepX SH Kc963 (allS (P := fun x => ∃ c : Cell, h0[x]? = some c ∧ ∀ q, c.vm ≠ .statics q) E0.cell all0)
  have S_966 := Sta.keepX SL Kc963 (allS (P := fun x => ∃ c : Cell, h0[x]? = some c ∧ ∀ q, c.vm ≠ .statics q) E0.cell all0)
  have S_967 := Sta.keepX S0 Kc963 (allS (P := fun x => ∃ c : Cell, h0[x]? = some c ∧ ∀ q, c.vm ≠ .statics q) E0.cell all0)
  have E_968 := E0.keep Kc963
  have N963 := Fr.app N0 N963q
  have Z963 : n0 ≤ T963.heap.size := Nat.le_trans Z0 Kc963.1
  have K963 : Keep h0 T963.heap [a] := (Keep.refl h0 [a]).trans Kc963 (allS (Or.inl (List.mem_of_getElem? (i := 0) rfl)) all0)
  refine Gl.st (g' := (mkF m 9 #[vR a, vR ca] [])) (fun τ κ => st963.trans κ) ?_
  exact Gl.ret (v := none) X963 Bd.notSynchronized (fun _ => rfl) rfl (fun fs hr => X963.returnOut hx Bd.returns (hb hby d2_9) hr) (by decide) (by decide) ⟨rfl, N963, K963, HS963⟩
theorem d1_87 : decode method_4_code 87 = .ok (.new 25, 3) := by decide +kernel
theorem d1_90 : decode method_4_code 90 = .ok (.dup, 1) := by decide +kernel
theorem d1_91 : decode method_4_code 91 = .ok (.iconst 4, 1) := by decide +kernel
theorem d1_92 : decode method_4_code 92 = .ok (.newarray .char, 2) := by decide +kernel
theorem d1_94 : decode method_4_code 94 = .ok (.dup, 1) := by decide +kernel
theorem d1_95 : decode method_4_code 95 = .ok (.iconst 0, 1) := by decide +kernel
theorem d1_96 : decode method_4_code 96 = .ok (.iload_n 1, 1) := by decide +kernel
theorem d1_97 : decode method_4_code 97 = .ok (.castore, 1) := by decide +kernel
theorem d1_98 : decode method_4_code 98 = .ok (.dup, 1) := by decide +kernel
theorem d1_99 : decode method_4_code 99 = .ok (.iconst 1, 1) := by decide +kernel
theorem d1_100 : decode method_4_code 100 = .ok (.iload_n 2, 1) := by decide +kernel
theorem d1_101 : decode method_4_code 101 = .ok (.castore, 1) := by decide +kernel
theorem d1_102 : decode method_4_code 102 = .ok (.dup, 1) := by decide +kernel
theorem d1_103 : decode method_4_code 103 = .ok (.iconst 2, 1) := by decide +kernel
theorem d1_104 : decode method_4_code 104 = .ok (.iload_n 3, 1) := by decide +kernel
theorem d1_105 : decode method_4_code 105 = .ok (.castore, 1) := by decide +kernel
theorem d1_106 : decode method_4_code 106 = .ok (.dup, 1) := by decide +kernel
theorem d1_107 : decode method_4_code 107 = .ok (.iconst 3, 1) := by decide +kernel
theorem d1_108 : decode method_4_code 108 = .ok (.iload 4, 2) := by decide +kernel
theorem d1_110 : decode method_4_code 110 = .ok (.castore, 1) := by decide +kernel
theorem d1_111 : decode method_4_code 111 = .ok (.invokespecial 27, 3) := by decide +kernel
theorem d1_114 : decode method_4_code 114 = .ok (.areturn, 1) := by decide +kernel
theorem ef_rm1_4 (m : MethodId) (c0 : Int32) (c1 : Int32) (c2 : Int32) (c3 : Int32) : entryFrame m #[(.int (4 : Int32)), (.int c0), (.int c1), (.int c2), (.int c3)] 5 = mkF m 0 #[vI (4 : Int32), vI c0, vI c1, vI c2, vI c3] [] := by first | (simp [entryFrame, mkF, argsToLocals, Value.category]; done) | rfl
def Q_rm1_4 (Z : State) (c0 : Int32) (c1 : Int32) (c2 : Int32) (c3 : Int32) (cs : Int32) (h0 : Heap) (n0 : Nat) (v : Option Value) (h : Heap) (L : List Loc) : Prop := ∃ b, v = some (.ref b) ∧ Fr n0 L ∧ Keep h0 h [] ∧ own_str Z h b (4 : Int32) [c0, c1, c2, c3]
set_option maxRecDepth 65536 in
set_option maxHeartbeats 40000000 in
theorem rm1_4 (l : Launch) (Z : State) (a0 : Array Value) (hw : ∀ d ∈ tables_1, d.before a0 Z = true) (ws : List Jvm.Cond) (c0 : Int32) (c1 : Int32) (c2 : Int32) (c3 : Int32) (cs : Int32) (h0 : Heap) (n0 : Nat) (Z0 : n0 ≤ h0.size) (S0 : Sta Z h0 "java/lang/String" "COMPACT_STRINGS" "Z" (.int cs)) (hcs : ¬ cs = (0 : Int32)) (SA : Sta Z h0 "java/lang/StringUTF16" "$assertionsDisabled" "Z" (.int (1 : Int32))) (SH : Sta Z h0 "java/lang/StringUTF16" "HI_BYTE_SHIFT" "I" (.int (0 : Int32))) (SL : Sta Z h0 "java/lang/StringUTF16" "LO_BYTE_SHIFT" "I" (.int (8 : Int32))) (hc0 : own_ch c0) (hc1 : own_ch c1) (hc2 : own_ch c2) (hc3 : own_ch c3) :
    MetFree l (⟨"com/example/sealgrant/sealgrant/AsciiPrintablePinLaw", "make", "(ICCCC)Ljava/lang/String;"⟩ : MethodName) (head1 (Jvm.Cond.code (⟨"com/example/sealgrant/sealgrant/AsciiPrintablePinLaw", "make", "(ICCCC)Ljava/lang/String;"⟩ : MethodName) method_4_code 5 (some (.object "java/lang/String")) :: ws) ({ frames := 6, cells := 4, slots := 20, locals := 88 } : Room)) (fun aα Uα => aα = #[(.int (4 : Int32)), (.int c0), (.int c1), (.int c2), (.int c3)] ∧ Z.Warmed39 Uα.vm ∧ Uα.heap = h0) (fun _ _ _ _ _ => True) (fun _ Uα oα Uβ => ∃ vα Lα, oα = .returned vα ∧ Q_rm1_4 Z c0 c1 c2 c3 cs h0 n0 vα Uβ.heap Lα ∧ FrameEnd Uα oα Uβ Lα ({ frames := 6, cells := 4, slots := 20, locals := 88 } : Room).cells ({ frames := 6, cells := 4, slots := 20, locals := 88 } : Room).slots) := by
  refine MetFree.of_bodySF (plainFor_of_name pn_com_example_sealgrant_sealgrant_AsciiPrintablePinLaw) hisR ?_
  intro p e s m args below meth c s₁ Bd hml0 hP hKα
  obtain ⟨rfl, hZ, hh⟩ := hP
  have hx := Bd.exec
  have hby := Bd.bytes
  have hml : c.maxLocals = 5 := hml0
  have hown : s.vm.findClass "com/example/sealgrant/sealgrant/AsciiPrintablePinLaw" = some m.cls := findClass_of_methodNamed Bd.named
  have hnm := (name_of_methodNamed Bd.named Bd.method).1
  have X0 : Stand p l e ({ frames := 6, cells := 4, slots := 20, locals := 88 } : Room) s m #[(.int (4 : Int32)), (.int c0), (.int c1), (.int c2), (.int c3)] below meth c s₁ [] 0 0 := Stand.of_body Bd
  have e0 : s₁.heap = h0 := by rw [← hh, Bd.state]; rfl
  have N0 := Fr.nil n0
  suffices k0 : Gl p e below s (Q_rm1_4 Z c0 c1 c2 c3 cs h0 n0) ({ frames := 6, cells := 4, slots := 20, locals := 88 } : Room).cells ({ frames := 6, cells := 4, slots := 20, locals := 88 } : Room).slots s₁ (mkF m 0 #[vI (4 : Int32), vI c0, vI c1, vI c2, vI c3] []) from Gl.st (fun τ κ => castTop (ef_rm1_4 m c0 c1 c2 c3) κ) k0
  refine Gl.st (g' := (mkF m 1 #[vI (4 : Int32), vI c0, vI c1, vI c2, vI c3] [(.int (4 : Int32))])) (fun τ κ => XS.iloadN X0.here hx rfl (hb hby d1_0) rfl κ) ?_
  have hc971 : ¬ ((4 : Int32) = (0 : Int32)) := by decide
  refine Gl.st (g' := (mkF m 16 #[vI (4 : Int32), vI c0, vI c1, vI c2, vI c3] [(.int (4 : Int32))])) (fun τ κ => XS.ifYes X0.here hx rfl (pc0 := 1) (pc' := 15) rfl (hb hby d1_1) rfl ((if0 _ _).trans (feq hc971).2) (by decide) (by decide) (XS.iloadN X0.here hx rfl (hb hby d1_15) rfl κ)) ?_
  refine Gl.st (g' := (mkF m 17 #[vI (4 : Int32), vI c0, vI c1, vI c2, vI c3] [(.int (1 : Int32)), (.int (4 : Int32))])) (fun τ κ => XS.iconst X0.here hx rfl (hb hby d1_16) κ) ?_
  have hc972 : ¬ ((4 : Int32) = (1 : Int32)) := by decide
  refine Gl.st (g' := (mkF m 36 #[vI (4 : Int32), vI c0, vI c1, vI c2, vI c3] [(.int (4 : Int32))])) (fun τ κ => XS.icmpYes X0.here hx rfl (pc0 := 17) (pc' := 35) rfl (hb hby d1_17) rfl (feq hc972).2 (by decide) (by decide) (XS.iloadN X0.here hx rfl (hb hby d1_35) rfl κ)) ?_
  refine Gl.st (g' := (mkF m 37 #[vI (4 : Int32), vI c0, vI c1, vI c2, vI c3] [(.int (2 : Int32)), (.int (4 : Int32))])) (fun τ κ => XS.iconst X0.here hx rfl (hb hby d1_36) κ) ?_
  have hc973 : ¬ ((4 : Int32) = (2 : Int32)) := by decide
  refine Gl.st (g' := (mkF m 60 #[vI (4 : Int32), vI c0, vI c1, vI c2, vI c3] [(.int (4 : Int32))])) (fun τ κ => XS.icmpYes X0.here hx rfl (pc0 := 37) (pc' := 59) rfl (hb hby d1_37) rfl (feq hc973).2 (by decide) (by decide) (XS.iloadN X0.here hx rfl (hb hby d1_59) rfl κ)) ?_
  refine Gl.st (g' := (mkF m 61 #[vI (4 : Int32), vI c0, vI c1, vI c2, vI c3] [(.int (3 : Int32)), (.int (4 : Int32))])) (fun τ κ => XS.iconst X0.here hx rfl (hb hby d1_60) κ) ?_
  have hc974 : ¬ ((4 : Int32) = (3 : Int32)) := by decide
  refine Gl.st (g' := (mkF m 87 #[vI (4 : Int32), vI c0, vI c1, vI c2, vI c3] [])) (fun τ κ => XS.icmpYes X0.here hx rfl (pc0 := 61) (pc' := 87) rfl (hb hby d1_61) rfl (feq hc974).2 (by decide) (by decide) κ) ?_
  obtain ⟨T975, h975, X975, e975, E975, A975, D975, -, st975⟩ := newO X0 hx hZ hown (w6_ hw) (w7_ hw) (w8_ hw) e0 (g := (mkF m 87 #[vI (4 : Int32), vI c0, vI c1, vI c2, vI c3] [])) rfl (hb hby d1_87) (by decide) (by decide)
  obtain ⟨b975, g975⟩ : ∃ z, z = h0.size := ⟨_, rfl⟩
  rw [← g975] at A975 D975 st975
  have S_976 := SA.ext E975
  have S_977 := SH.ext E975
  have S_978 := SL.ext E975
  have S_979 := S0.ext E975
  have g_b975 : n0 ≤ b975 := Nat.le_trans Z0 (Nat.le_of_eq g975.symm)
  have sz_b975 : h0.size ≤ b975 := Nat.le_trans (Keep.refl h0 []).1 (Nat.le_of_eq g975.symm)
  have Z975 : n0 ≤ h975.size := Nat.le_trans Z0 E975.1
  have K975 : Keep h0 h975 [] := (Keep.refl h0 []).ext E975
  have F_980 : Fld Z h975 b975 "java/lang/String" "value" "[B" .null := D975 (Or.inr (w22_ hw)) (ty := (.array .byte)) (by decide)
  have F_981 : Fld Z h975 b975 "java/lang/String" "coder" "B" (.int (0 : Int32)) := D975 (Or.inr (w23_ hw)) (ty := .byte) (by decide)
  refine Gl.st (g' := (mkF m 90 #[vI (4 : Int32), vI c0, vI c1, vI c2, vI c3] [(.ref b975)])) (fun τ κ => st975 _ κ) ?_
  refine Gl.st (g' := (mkF m 92 #[vI (4 : Int32), vI c0, vI c1, vI c2, vI c3] [(.int (4 : Int32)), (.ref b975), (.ref b975)])) (fun τ κ => XS.dup X975.here hx rfl (hb hby d1_90) rfl rfl (XS.iconst X975.here hx rfl (hb hby d1_91) κ)) ?_
  obtain ⟨T982, h982, k982, X982, e982, E982, A982, st982⟩ := newP X975 hx hZ (hw _ (List.mem_of_getElem? (i := 9) rfl)) e975 (g := (mkF m 92 #[vI (4 : Int32), vI c0, vI c1, vI c2, vI c3] [(.int (4 : Int32)), (.ref b975), (.ref b975)])) rfl (hb hby d1_92) rfl (by decide) (cap := 4) (by decide) (by decide) (by decide) (by decide)
  obtain ⟨b982, g982⟩ : ∃ z, z = h975.size := ⟨_, rfl⟩
  rw [← g982] at A982 st982
  have ne_b975_b982 : b975 ≠ b982 := Nat.ne_of_lt (Nat.lt_of_lt_of_le A975.lt (Nat.le_of_eq g982.symm))
  have S_983 := S_976.ext E982
  have S_984 := S_977.ext E982
  have S_985 := S_978.ext E982
  have S_986 := S_979.ext E982
  have E_987 := A975.ext E982
  have F_988 := F_980.ext E982
  have F_989 := F_981.ext E982
  have g_b982 : n0 ≤ b982 := Nat.le_trans Z975 (Nat.le_of_eq g982.symm)
  have sz_b982 : h0.size ≤ b982 := Nat.le_trans K975.1 (Nat.le_of_eq g982.symm)
  have Z982 : n0 ≤ h982.size := Nat.le_trans Z975 E982.1
  have K982 : Keep h0 h982 [] := K975.ext E982
  have V_b982 : Arv Z h982 b982 k982 .char (4 : Int32) [(.int (0 : Int32)), (.int (0 : Int32)), (.int (0 : Int32)), (.int (0 : Int32))] (.int (0 : Int32)) := (Arv.new A982 (by decide)).pad (pad_rep [] (.int (0 : Int32)) 4)
  refine Gl.st (g' := (mkF m 94 #[vI (4 : Int32), vI c0, vI c1, vI c2, vI c3] [(.ref b982), (.ref b975), (.ref b975)])) (fun τ κ => st982 _ κ) ?_
  refine Gl.st (g' := (mkF m 96 #[vI (4 : Int32), vI c0, vI c1, vI c2, vI c3] [(.int (0 : Int32)), (.ref b982), (.ref b982), (.ref b975), (.ref b975)])) (fun τ κ => XS.dup X982.here hx rfl (hb hby d1_94) rfl rfl (XS.iconst X982.here hx rfl (hb hby d1_95) κ)) ?_
  refine Gl.st (g' := (mkF m 97 #[vI (4 : Int32), vI c0, vI c1, vI c2, vI c3] [(.int c0), (.int (0 : Int32)), (.ref b982), (.ref b982), (.ref b975), (.ref b975)])) (fun τ κ => XS.iloadN X982.here hx rfl (hb hby d1_96) rfl κ) ?_
  obtain ⟨cl_o990, Ar_o990, q_o990, S_o990, M_o990, H_o990, G_o990⟩ := id V_b982
  have hin_o990 : ¬ ((0 : Int32) < 0 ∨ cl_o990.slots.size ≤ ((0 : Int32)).toNatClampNeg) := inb_of S_o990 ⟨by decide, by decide⟩
  obtain ⟨T991, h991, X991, e991, W991, st991⟩ := stC X982 hx hZ e982 Ar_o990 (j := (0 : Int32)) hin_o990 (g := (mkF m 97 #[vI (4 : Int32), vI c0, vI c1, vI c2, vI c3] [(.int c0), (.int (0 : Int32)), (.ref b982), (.ref b982), (.ref b975), (.ref b975)])) rfl rfl (hb hby d1_97)
  have S_992 := S_983.wr W991
  have S_993 := S_984.wr W991
  have S_994 := S_985.wr W991
  have S_995 := S_986.wr W991
  have E_996 := E_987.wr W991
  have F_997 := F_988.other W991 (Or.inl ne_b975_b982)
  have F_998 := F_989.other W991 (Or.inl ne_b975_b982)
  have N991 := Fr.snoc X991 N0 g_b982
  have Z991 : n0 ≤ h991.size := Nat.le_trans Z982 (Nat.le_of_eq W991.size.symm)
  have K991 : Keep h0 h991 [] := K982.wr W991 (Or.inr sz_b982)
  have V_b982_991 : Arv Z h991 b982 k982 .char (4 : Int32) [(.int (nar .char c0)), (.int (0 : Int32)), (.int (0 : Int32)), (.int (0 : Int32))] (.int (0 : Int32)) := Arv.set Ar_o990 q_o990 S_o990 M_o990 H_o990 G_o990 (fits_nar_char _) W991 0 rfl (Nat.le_of_ble_eq_true rfl)
  rw [own_narC hc0] at V_b982_991
  refine Gl.st (g' := (mkF m 98 #[vI (4 : Int32), vI c0, vI c1, vI c2, vI c3] [(.ref b982), (.ref b975), (.ref b975)])) (fun τ κ => st991 _ κ) ?_
  refine Gl.st (g' := (mkF m 100 #[vI (4 : Int32), vI c0, vI c1, vI c2, vI c3] [(.int (1 : Int32)), (.ref b982), (.ref b982), (.ref b975), (.ref b975)])) (fun τ κ => XS.dup X991.here hx rfl (hb hby d1_98) rfl rfl (XS.iconst X991.here hx rfl (hb hby d1_99) κ)) ?_
  refine Gl.st (g' := (mkF m 101 #[vI (4 : Int32), vI c0, vI c1, vI c2, vI c3] [(.int c1), (.int (1 : Int32)), (.ref b982), (.ref b982), (.ref b975), (.ref b975)])) (fun τ κ => XS.iloadN X991.here hx rfl (hb hby d1_100) rfl κ) ?_
  obtain ⟨cl_o1000, Ar_o1000, q_o1000, S_o1000, M_o1000, H_o1000, G_o1000⟩ := id V_b982_991
  have hin_o1000 : ¬ ((1 : Int32) < 0 ∨ cl_o1000.slots.size ≤ ((1 : Int32)).toNatClampNeg) := inb_of S_o1000 ⟨by decide, by decide⟩
  obtain ⟨T1001, h1001, X1001, e1001, W1001, st1001⟩ := stC X991 hx hZ e991 Ar_o1000 (j := (1 : Int32)) hin_o1000 (g := (mkF m 101 #[vI (4 : Int32), vI c0, vI c1, vI c2, vI c3] [(.int c1), (.int (1 : Int32)), (.ref b982), (.ref b982), (.ref b975), (.ref b975)])) rfl rfl (hb hby d1_101)
  have S_1002 := S_992.wr W1001
  have S_1003 := S_993.wr W1001
  have S_1004 := S_994.wr W1001
  have S_1005 := S_995.wr W1001
  have E_1006 := E_996.wr W1001
  have F_1007 := F_997.other W1001 (Or.inl ne_b975_b982)
  have F_1008 := F_998.other W1001 (Or.inl ne_b975_b982)
  have N1001 := Fr.snoc X1001 N991 g_b982
  have Z1001 : n0 ≤ h1001.size := Nat.le_trans Z991 (Nat.le_of_eq W1001.size.symm)
  have K1001 : Keep h0 h1001 [] := K991.wr W1001 (Or.inr sz_b982)
  have V_b982_1001 : Arv Z h1001 b982 k982 .char (4 : Int32) [(.int c0), (.int (nar .char c1)), (.int (0 : Int32)), (.int (0 : Int32))] (.int (0 : Int32)) := Arv.set Ar_o1000 q_o1000 S_o1000 M_o1000 H_o1000 G_o1000 (fits_nar_char _) W1001 1 rfl (Nat.le_of_ble_eq_true rfl)
  rw [own_narC hc1] at V_b982_1001
  refine Gl.st (g' := (mkF m 102 #[vI (4 : Int32), vI c0, vI c1, vI c2, vI c3] [(.ref b982), (.ref b975), (.ref b975)])) (fun τ κ => st1001 _ κ) ?_
  refine Gl.st (g' := (mkF m 104 #[vI (4 : Int32), vI c0, vI c1, vI c2, vI c3] [(.int (2 : Int32)), (.ref b982), (.ref b982), (.ref b975), (.ref b975)])) (fun τ κ => XS.dup X1001.here hx rfl (hb hby d1_102) rfl rfl (XS.iconst X1001.here hx rfl (hb hby d1_103) κ)) ?_
  refine Gl.st (g' := (mkF m 105 #[vI (4 : Int32), vI c0, vI c1, vI c2, vI c3] [(.int c2), (.int (2 : Int32)), (.ref b982), (.ref b982), (.ref b975), (.ref b975)])) (fun τ κ => XS.iloadN X1001.here hx rfl (hb hby d1_104) rfl κ) ?_
  obtain ⟨cl_o1010, Ar_o1010, q_o1010, S_o1010, M_o1010, H_o1010, G_o1010⟩ := id V_b982_1001
  have hin_o1010 : ¬ ((2 : Int32) < 0 ∨ cl_o1010.slots.size ≤ ((2 : Int32)).toNatClampNeg) := inb_of S_o1010 ⟨by decide, by decide⟩
  obtain ⟨T1011, h1011, X1011, e1011, W1011, st1011⟩ := stC X1001 hx hZ e1001 Ar_o1010 (j := (2 : Int32)) hin_o1010 (g := (mkF m 105 #[vI (4 : Int32), vI c0, vI c1, vI c2, vI c3] [(.int c2), (.int (2 : Int32)), (.ref b982), (.ref b982), (.ref b975), (.ref b975)])) rfl rfl (hb hby d1_105)
  have S_1012 := S_1002.wr W1011
  have S_1013 := S_1003.wr W1011
  have S_1014 := S_1004.wr W1011
  have S_1015 := S_1005.wr W1011
  have E_1016 := E_1006.wr W1011
  have F_1017 := F_1007.other W1011 (Or.inl ne_b975_b982)
  have F_1018 := F_1008.other W1011 (Or.inl ne_b975_b982)
  have N1011 := Fr.snoc X1011 N1001 g_b982
  have Z1011 : n0 ≤ h1011.size := Nat.le_trans Z1001 (Nat.le_of_eq W1011.size.symm)
  have K1011 : Keep h0 h1011 [] := K1001.wr W1011 (Or.inr sz_b982)
  have V_b982_1011 : Arv Z h1011 b982 k982 .char (4 : Int32) [(.int c0), (.int c1), (.int (nar .char c2)), (.int (0 : Int32))] (.int (0 : Int32)) := Arv.set Ar_o1010 q_o1010 S_o1010 M_o1010 H_o1010 G_o1010 (fits_nar_char _) W1011 2 rfl (Nat.le_of_ble_eq_true rfl)
  rw [own_narC hc2] at V_b982_1011
  refine Gl.st (g' := (mkF m 106 #[vI (4 : Int32), vI c0, vI c1, vI c2, vI c3] [(.ref b982), (.ref b975), (.ref b975)])) (fun τ κ => st1011 _ κ) ?_
  refine Gl.st (g' := (mkF m 108 #[vI (4 : Int32), vI c0, vI c1, vI c2, vI c3] [(.int (3 : Int32)), (.ref b982), (.ref b982), (.ref b975), (.ref b975)])) (fun τ κ => XS.dup X1011.here hx rfl (hb hby d1_106) rfl rfl (XS.iconst X1011.here hx rfl (hb hby d1_107) κ)) ?_
  refine Gl.st (g' := (mkF m 110 #[vI (4 : Int32), vI c0, vI c1, vI c2, vI c3] [(.int c3), (.int (3 : Int32)), (.ref b982), (.ref b982), (.ref b975), (.ref b975)])) (fun τ κ => XS.iload X1011.here hx rfl (hb hby d1_108) rfl κ) ?_
  obtain ⟨cl_o1020, Ar_o1020, q_o1020, S_o1020, M_o1020, H_o1020, G_o1020⟩ := id V_b982_1011
  have hin_o1020 : ¬ ((3 : Int32) < 0 ∨ cl_o1020.slots.size ≤ ((3 : Int32)).toNatClampNeg) := inb_of S_o1020 ⟨by decide, by decide⟩
  obtain ⟨T1021, h1021, X1021, e1021, W1021, st1021⟩ := stC X1011 hx hZ e1011 Ar_o1020 (j := (3 : Int32)) hin_o1020 (g := (mkF m 110 #[vI (4 : Int32), vI c0, vI c1, vI c2, vI c3] [(.int c3), (.int (3 : Int32)), (.ref b982), (.ref b982), (.ref b975), (.ref b975)])) rfl rfl (hb hby d1_110)
  have S_1022 := S_1012.wr W1021
  have S_1023 := S_1013.wr W1021
  have S_1024 := S_1014.wr W1021
  have S_1025 := S_1015.wr W1021
  have E_1026 := E_1016.wr W1021
  have F_1027 := F_1017.other W1021 (Or.inl ne_b975_b982)
  have F_1028 := F_1018.other W1021 (Or.inl ne_b975_b982)
  have N1021 := Fr.snoc X1021 N1011 g_b982
  have Z1021 : n0 ≤ h1021.size := Nat.le_trans Z1011 (Nat.le_of_eq W1021.size.symm)
  have K1021 : Keep h0 h1021 [] := K1011.wr W1021 (Or.inr sz_b982)
  have V_b982_1021 : Arv Z h1021 b982 k982 .char (4 : Int32) [(.int c0), (.int c1), (.int c2), (.int (nar .char c3))] (.int (0 : Int32)) := Arv.set Ar_o1020 q_o1020 S_o1020 M_o1020 H_o1020 G_o1020 (fits_nar_char _) W1021 3 rfl (Nat.le_of_ble_eq_true rfl)
  rw [own_narC hc3] at V_b982_1021
  refine Gl.st (g' := (mkF m 111 #[vI (4 : Int32), vI c0, vI c1, vI c2, vI c3] [(.ref b982), (.ref b975), (.ref b975)])) (fun τ κ => st1021 _ κ) ?_
  obtain ⟨rv1030, _, ⟨T1030, L1030, k1030, n1030⟩, -, X1030, ⟨Lc1030, hQ1030, l1030, y1030, z1030⟩, st1030⟩ := X1021.specialBack hx (y := (⟨"java/lang/String", "<init>", "([C)V"⟩ : MethodName)) rfl hown (mvT hZ (w10_ hw)) (mvT hZ (w11_ hw)) (mvT hZ (w12_ hw)) (by decide) (backOf (W := 1) (rm2_4 l Z a0 hw [] b975 b982 k982 cs c0 c1 c2 c3 h1021 n0 Z1021 E_1026 g_b975 F_1027 F_1028 ne_b975_b982 S_1025 hcs S_1022 S_1023 S_1024 V_b982_1021 hc0 hc1 hc2 hc3) hZ (w12_ hw) (w8_ hw) (by decide) (by decide)) (g := (mkF m 111 #[vI (4 : Int32), vI c0, vI c1, vI c2, vI c3] [(.ref b982), (.ref b975), (.ref b975)])) rfl (by rw [hml]; rfl) (Steps.refl _) (a := b975) (argsL := [(.ref b982)]) (rest := [(.ref b975)]) (lenOf pd_16 rfl) rfl (by show 2 * 0 + _ ≤ _; exact Nat.le_of_eq rfl) (hb hby d1_111) (fun _ _ => ⟨rfl, e1021, (by decide : 2 + 2 ≤ _), (by decide : 8 + 12 ≤ _)⟩)
  dsimp only [Pt.U, Pt.locs, Pt.cells, Pt.slots] at X1030 l1030 y1030 z1030 st1030 hQ1030
  subst l1030 y1030 z1030
  obtain ⟨rfl, N1030q, Kc1030, HS1030⟩ := hQ1030
  have S_1031 := Sta.keepX S_1022 Kc1030 (allS (P := fun x => ∃ c : Cell, h1021[x]? = some c ∧ ∀ q, c.vm ≠ .statics q) E_1026.cell all0)
  have S_1032 := Sta.keepX S_1023 Kc1030 (allS (P := fun x => ∃ c : Cell, h1021[x]? = some c ∧ ∀ q, c.vm ≠ .statics q) E_1026.cell all0)
  have S_1033 := Sta.keepX S_1024 Kc1030 (allS (P := fun x => ∃ c : Cell, h1021[x]? = some c ∧ ∀ q, c.vm ≠ .statics q) E_1026.cell all0)
  have S_1034 := Sta.keepX S_1025 Kc1030 (allS (P := fun x => ∃ c : Cell, h1021[x]? = some c ∧ ∀ q, c.vm ≠ .statics q) E_1026.cell all0)
  have E_1035 := E_1026.keep Kc1030
  have N1030 := Fr.app N1021 N1030q
  have Z1030 : n0 ≤ T1030.heap.size := Nat.le_trans Z1021 Kc1030.1
  have K1030 : Keep h0 T1030.heap [] := K1021.trans Kc1030 (allS (Or.inr sz_b975) all0)
  refine Gl.st (g' := (mkF m 114 #[vI (4 : Int32), vI c0, vI c1, vI c2, vI c3] [(.ref b975)])) (fun τ κ => st1030.trans κ) ?_
  exact Gl.ret (v := some (.ref b975)) X1030 Bd.notSynchronized (fun h => by rw [Bd.returns] at h; cases h) rfl (fun fs hr => retAO X1030 hx Bd.returns (hb hby d1_114) hr) (by decide) (by decide) ⟨b975, rfl, N1030, K1030, HS1030⟩
theorem d3_8 : decode jdk_42_method_149_code 8 = .ok (.aload_n 0, 1) := by decide +kernel
theorem d3_9 : decode jdk_42_method_149_code 9 = .ok (.ldc 7, 2) := by decide +kernel
theorem d3_11 : decode jdk_42_method_149_code 11 = .ok (.getfield 9, 3) := by decide +kernel
theorem d3_14 : decode jdk_42_method_149_code 14 = .ok (.putfield 9, 3) := by decide +kernel
theorem d3_17 : decode jdk_42_method_149_code 17 = .ok (.aload_n 0, 1) := by decide +kernel
theorem d3_18 : decode jdk_42_method_149_code 18 = .ok (.ldc 7, 2) := by decide +kernel
theorem d3_20 : decode jdk_42_method_149_code 20 = .ok (.getfield 15, 3) := by decide +kernel
theorem d3_23 : decode jdk_42_method_149_code 23 = .ok (.putfield 15, 3) := by decide +kernel
theorem d3_26 : decode jdk_42_method_149_code 26 = .ok (.return_, 1) := by decide +kernel
theorem ef_rm3_0 (m : MethodId) (a : Addr) (ca : Addr) : entryFrame m #[(.ref a), (.ref ca), (.int (0 : Int32)), (.int (0 : Int32)), .null] 6 = mkF m 0 #[vR a, vR ca, vI (0 : Int32), vI (0 : Int32), .val .null, .unset] [] := by first | (simp [entryFrame, mkF, argsToLocals, Value.category]; done) | rfl
def Q_rm3_0 (Z : State) (a : Addr) (ca : Addr) (kc : ClassId) (h0 : Heap) (n0 : Nat) (v : Option Value) (h : Heap) (L : List Loc) : Prop := v = none ∧ Fr n0 L ∧ Keep h0 h [a] ∧ own_str Z h a (0 : Int32) []
set_option maxRecDepth 65536 in
set_option maxHeartbeats 40000000 in
theorem rm3_0 (l : Launch) (Z : State) (a0 : Array Value) (hw : ∀ d ∈ tables_1, d.before a0 Z = true) (ws : List Jvm.Cond) (a : Addr) (ca : Addr) (kc : ClassId) (h0 : Heap) (n0 : Nat) (Z0 : n0 ≤ h0.size) (E0 : Exa Z h0 a "java/lang/String") (g0 : n0 ≤ a) (FV : Fld Z h0 a "java/lang/String" "value" "[B" .null) (FC : Fld Z h0 a "java/lang/String" "coder" "B" (.int (0 : Int32))) (V0 : Arv Z h0 ca kc .char (0 : Int32) [] (.int (0 : Int32))) (hac : a ≠ ca) :
    MetFree l (⟨"java/lang/String", "<init>", "([CIILjava/lang/Void;)V"⟩ : MethodName) (head1 (Jvm.Cond.code (⟨"java/lang/String", "<init>", "([CIILjava/lang/Void;)V"⟩ : MethodName) jdk_42_method_149_code 6 none :: ws) ({ frames := 1, cells := 4, slots := 8, locals := 12 } : Room)) (fun aα Uα => aα = #[(.ref a), (.ref ca), (.int (0 : Int32)), (.int (0 : Int32)), .null] ∧ Z.Warmed39 Uα.vm ∧ Uα.heap = h0 ∧ CHv Z own_EL Uα.vm h0 ∧ ∀ x ∈ ([a] : List Addr), Safe Z own_EL Uα.vm h0 x) (fun _ _ _ _ _ => True) (fun _ Uα oα Uβ => ∃ vα Lα, oα = .returned vα ∧ Q_rm3_0 Z a ca kc h0 n0 vα Uβ.heap Lα ∧ ReturnedEndW Uα oα Uβ Lα ({ frames := 1, cells := 4, slots := 8, locals := 12 } : Room).cells ({ frames := 1, cells := 4, slots := 8, locals := 12 } : Room).slots) := by
  refine MetFree.of_bodySF (plainFor_of_name pn_java_lang_String) hisR ?_
  intro p e s m args below meth c s₁ Bd hml0 hP hKα
  obtain ⟨rfl, hZ, hh, hCH0, hsf0⟩ := hP
  have hx := Bd.exec
  have hby := Bd.bytes
  have hml : c.maxLocals = 6 := hml0
  have hown : s.vm.findClass "java/lang/String" = some m.cls := findClass_of_methodNamed Bd.named
  have hnm := (name_of_methodNamed Bd.named Bd.method).1
  have hZ : Z.Warmed39 (s.setVm s.vm).vm := hZ
  have hown : (s.setVm s.vm).vm.findClass "java/lang/String" = some m.cls := hown
  have hS0 : s.Since s.vm 0 := (State.WarmedH.refl s).since 0
  have X0 : Stand p l e ({ frames := 1, cells := 4, slots := 8, locals := 12 } : Room) (s.setVm s.vm) m #[(.ref a), (.ref ca), (.int (0 : Int32)), (.int (0 : Int32)), .null] below meth c s₁ [] 0 0 := Stand.of_body Bd
  have e0 : s₁.heap = h0 := by rw [← hh, Bd.state]; rfl
  have N0 := Fr.nil n0
  have Y0_a := hsf0 a (by simp)
  suffices k0 : GlW p e below s (Q_rm3_0 Z a ca kc h0 n0) ({ frames := 1, cells := 4, slots := 8, locals := 12 } : Room).cells ({ frames := 1, cells := 4, slots := 8, locals := 12 } : Room).slots s₁ (mkF m 0 #[vR a, vR ca, vI (0 : Int32), vI (0 : Int32), .val .null, .unset] []) from GlW.st (fun τ κ => castTop (ef_rm3_0 m a ca) κ) k0
  refine GlW.st (g' := (mkF m 1 #[vR a, vR ca, vI (0 : Int32), vI (0 : Int32), .val .null, .unset] [(.ref a)])) (fun τ κ => XS.aloadN X0.here hx rfl (hb hby d3_0) rfl rfl κ) ?_
  obtain ⟨T1038, X1038, e1038, st1038⟩ := initO X0 hx hZ hown (w17_ hw) (w18_ hw) (w19_ hw) e0 (g := (mkF m 1 #[vR a, vR ca, vI (0 : Int32), vI (0 : Int32), .val .null, .unset] [(.ref a)])) rfl (by rw [hml]; rfl) rfl (hb hby d3_1) (by decide) (W := 0) (by show 2 * 0 + _ ≤ _; exact Nat.le_of_eq rfl) (by decide)
  refine GlW.st (g' := (mkF m 4 #[vR a, vR ca, vI (0 : Int32), vI (0 : Int32), .val .null, .unset] [])) (fun τ κ => st1038 _ κ) ?_
  refine GlW.st (g' := (mkF m 5 #[vR a, vR ca, vI (0 : Int32), vI (0 : Int32), .val .null, .unset] [(.int (0 : Int32))])) (fun τ κ => XS.iloadN X1038.here hx rfl (hb hby d3_4) rfl κ) ?_
  have hc1039 : (0 : Int32) = (0 : Int32) := by decide
  refine GlW.st (g' := (mkF m 9 #[vR a, vR ca, vI (0 : Int32), vI (0 : Int32), .val .null, .unset] [(.ref a)])) (fun τ κ => XS.ifNo X1038.here hx rfl (hb hby d3_5) rfl ((if0 _ _).trans (teq hc1039).2) (XS.aloadN X1038.here hx rfl (hb hby d3_8) rfl rfl κ)) ?_
  obtain ⟨a1040, T1040, h1040, ks1040, b1040, kk1040, X1040, e1040, E1040, hS1040, hk1040, hZ1040, hown1040, Ex1040, FC1040, FV1040, V1040, la1040, lb1040, C1040, -, ns1040, st1040⟩ := ldcCH (s := s) (vm0 := s.vm) X1038 hx hZ hown (w20_ hw) (own_strA hw) e1038 hS0 (Nat.zero_le _) (own_EW hw) (by decide) hCH0 (vs := []) (z := (0 : Int32)) ⟨by decide, rfl⟩ (by decide) (by decide) (g := (mkF m 9 #[vR a, vR ca, vI (0 : Int32), vI (0 : Int32), .val .null, .unset] [(.ref a)])) rfl (hb hby d3_9) (n := 0) (by decide) (by decide) (by decide) (by decide)
  have Y1040_a := C1040.safe E0.lt Y0_a
  have CH1040 := C1040.1
  have ny1040_a := ns1040 a Y1040_a
  have E_1041 := E0.ext E1040
  have F_1042 := FV.ext E1040
  have F_1043 := FC.ext E1040
  have V_1044 := V0.ext E1040
  have Z1040 : n0 ≤ h1040.size := Nat.le_trans Z0 E1040.1
  have K1040 : Keep h0 h1040 [a] := (Keep.refl h0 [a]).ext E1040
  refine GlW.st (g' := (mkF m 11 #[vR a, vR ca, vI (0 : Int32), vI (0 : Int32), .val .null, .unset] [(.ref a1040), (.ref a)])) (fun τ κ => st1040 _ κ) ?_
  obtain ⟨T1045, X1045, e1045, st1045⟩ := getF X1040 hx hZ1040 hown1040 (host := "") (Or.inl (w26_ hw)) Via.refl e1040 FV1040 (g := (mkF m 11 #[vR a, vR ca, vI (0 : Int32), vI (0 : Int32), .val .null, .unset] [(.ref a1040), (.ref a)])) rfl rfl (hb hby d3_11)
  refine GlW.st (g' := (mkF m 14 #[vR a, vR ca, vI (0 : Int32), vI (0 : Int32), .val .null, .unset] [(.ref b1040), (.ref a)])) (fun τ κ => st1045 _ κ) ?_
  obtain ⟨T1046, h1046, X1046, e1046, W1046, st1046⟩ := putF X1045 hx hZ1040 hown1040 (host := "") (Or.inl (w26_ hw)) Via.refl e1045 F_1042 E_1041 (Or.inr ⟨(w22_ hw), rfl, hnm⟩) (w7_ hw) (ty := (.array .byte)) (by decide) rfl rfl (g := (mkF m 14 #[vR a, vR ca, vI (0 : Int32), vI (0 : Int32), .val .null, .unset] [(.ref b1040), (.ref a)])) rfl rfl (hb hby d3_14)
  have Y1046_a := Safe.wr W1046 Y1040_a CH1040 Y1040_a
  have CH1046 := CH1040.wr W1046 Y1040_a
  have E_1047 := E_1041.wr W1046
  have F_1049 := F_1043.other W1046 (Or.inr (slot_ne (Or.inr (w23_ hw)) (Or.inr (w22_ hw)) (by decide) (t := .byte) (t' := (.array .byte)) (by decide) (by decide)))
  have V_1050 := V_1044.other W1046 (Ne.symm hac)
  have E_1051 := Ex1040.wr W1046
  have F_1052 := FC1040.other W1046 (Or.inl (Ne.symm ny1040_a.1))
  have F_1053 := FV1040.other W1046 (Or.inl (Ne.symm ny1040_a.1))
  have V_1054 := V1040.other W1046 (Ne.symm ny1040_a.2)
  have N1046 := Fr.snoc X1046 N0 g0
  have Z1046 : n0 ≤ h1046.size := Nat.le_trans Z1040 (Nat.le_of_eq W1046.size.symm)
  have hk1046 := Nat.le_trans hk1040 (Nat.le_of_eq W1046.size.symm)
  have K1046 : Keep h0 h1046 [a] := K1040.wr W1046 (Or.inl (List.mem_of_getElem? (i := 0) rfl))
  have F_1055 := F_1042.same W1046
  refine GlW.st (g' := (mkF m 17 #[vR a, vR ca, vI (0 : Int32), vI (0 : Int32), .val .null, .unset] [])) (fun τ κ => st1046 _ κ) ?_
  refine GlW.st (g' := (mkF m 18 #[vR a, vR ca, vI (0 : Int32), vI (0 : Int32), .val .null, .unset] [(.ref a)])) (fun τ κ => XS.aloadN X1046.here hx rfl (hb hby d3_17) rfl rfl κ) ?_
  obtain ⟨a1056, T1056, h1056, ks1056, b1056, kk1056, X1056, e1056, E1056, hS1056, hk1056, hZ1056, hown1056, Ex1056, FC1056, FV1056, V1056, la1056, lb1056, C1056, -, ns1056, st1056⟩ := ldcCH (s := s) (vm0 := T1040.vm) X1046 hx hZ1040 hown1040 (w20_ hw) (own_strA hw) e1046 hS1040 hk1046 (own_EW hw) (by decide) CH1046 (vs := []) (z := (0 : Int32)) ⟨by decide, rfl⟩ (by decide) (by decide) (g := (mkF m 18 #[vR a, vR ca, vI (0 : Int32), vI (0 : Int32), .val .null, .unset] [(.ref a)])) rfl (hb hby d3_18) (n := 0) (by decide) (by decide) (by decide) (by decide)
  have Y1056_a := C1056.safe E_1047.lt Y1046_a
  have CH1056 := C1056.1
  have ny1056_a := ns1056 a Y1056_a
  have E_1057 := E_1047.ext E1056
  have F_1058 := F_1055.ext E1056
  have F_1059 := F_1049.ext E1056
  have V_1060 := V_1050.ext E1056
  have E_1061 := E_1051.ext E1056
  have F_1062 := F_1052.ext E1056
  have F_1063 := F_1053.ext E1056
  have V_1064 := V_1054.ext E1056
  have Z1056 : n0 ≤ h1056.size := Nat.le_trans Z1046 E1056.1
  have K1056 : Keep h0 h1056 [a] := K1046.ext E1056
  refine GlW.st (g' := (mkF m 20 #[vR a, vR ca, vI (0 : Int32), vI (0 : Int32), .val .null, .unset] [(.ref a1056), (.ref a)])) (fun τ κ => st1056 _ κ) ?_
  obtain ⟨T1065, X1065, e1065, st1065⟩ := getF X1056 hx hZ1056 hown1056 (host := "") (Or.inl (w27_ hw)) Via.refl e1056 FC1056 (g := (mkF m 20 #[vR a, vR ca, vI (0 : Int32), vI (0 : Int32), .val .null, .unset] [(.ref a1056), (.ref a)])) rfl rfl (hb hby d3_20)
  refine GlW.st (g' := (mkF m 23 #[vR a, vR ca, vI (0 : Int32), vI (0 : Int32), .val .null, .unset] [(.int (0 : Int32)), (.ref a)])) (fun τ κ => st1065 _ κ) ?_
  obtain ⟨T1066, h1066, X1066, e1066, W1066, st1066⟩ := putFN X1065 hx hZ1056 hown1056 (w27_ hw) Via.refl e1065 F_1059 E_1057 (Or.inr ⟨(w23_ hw), rfl, hnm⟩) (w7_ hw) (ty := .byte) (v' := (.int (0 : Int32))) (by decide) rfl rfl (g := (mkF m 23 #[vR a, vR ca, vI (0 : Int32), vI (0 : Int32), .val .null, .unset] [(.int (0 : Int32)), (.ref a)])) rfl rfl (hb hby d3_23)
  have Y1066_a := Safe.wr W1066 Y1056_a CH1056 Y1056_a
  have CH1066 := CH1056.wr W1066 Y1056_a
  have E_1067 := E_1057.wr W1066
  have F_1068 := F_1058.other W1066 (Or.inr (slot_ne (Or.inr (w22_ hw)) (Or.inr (w23_ hw)) (by decide) (t := (.array .byte)) (t' := .byte) (by decide) (by decide)))
  have V_1070 := V_1060.other W1066 (Ne.symm hac)
  have E_1071 := E_1061.wr W1066
  have F_1072 := F_1062.other W1066 (Or.inl (Ne.symm ny1040_a.1))
  have F_1073 := F_1063.other W1066 (Or.inl (Ne.symm ny1040_a.1))
  have V_1074 := V_1064.other W1066 (Ne.symm ny1040_a.2)
  have E_1075 := Ex1056.wr W1066
  have F_1076 := FC1056.other W1066 (Or.inl (Ne.symm ny1056_a.1))
  have F_1077 := FV1056.other W1066 (Or.inl (Ne.symm ny1056_a.1))
  have V_1078 := V1056.other W1066 (Ne.symm ny1056_a.2)
  have N1066 := Fr.snoc X1066 N1046 g0
  have Z1066 : n0 ≤ h1066.size := Nat.le_trans Z1056 (Nat.le_of_eq W1066.size.symm)
  have hk1066 := Nat.le_trans hk1056 (Nat.le_of_eq W1066.size.symm)
  have K1066 : Keep h0 h1066 [a] := K1056.wr W1066 (Or.inl (List.mem_of_getElem? (i := 0) rfl))
  have F_1079 := F_1059.same W1066
  refine GlW.st (g' := (mkF m 26 #[vR a, vR ca, vI (0 : Int32), vI (0 : Int32), .val .null, .unset] [])) (fun τ κ => st1066 _ κ) ?_
  exact GlW.ret hS1056 hk1066 (v := none) X1066 Bd.notSynchronized (fun _ => rfl) e1066 (fun fs hr => X1066.returnOut hx Bd.returns (hb hby d3_26) hr) (by decide) (by decide) ⟨rfl, N1066, K1066, E_1067, by unfold own_small; decide, (fun i hi => absurd hi (Nat.not_lt_zero _)), b1040, kk1040, _, _, F_1068, V_1074, Or.inl ⟨F_1079, rfl, (fun i hi => absurd hi (Nat.not_lt_zero _))⟩⟩
theorem ef_rm2_0 (m : MethodId) (a : Addr) (ca : Addr) : entryFrame m #[(.ref a), (.ref ca)] 2 = mkF m 0 #[vR a, vR ca] [] := by first | (simp [entryFrame, mkF, argsToLocals, Value.category]; done) | rfl
def Q_rm2_0 (Z : State) (a : Addr) (ca : Addr) (kc : ClassId) (h0 : Heap) (n0 : Nat) (v : Option Value) (h : Heap) (L : List Loc) : Prop := v = none ∧ Fr n0 L ∧ Keep h0 h [a] ∧ own_str Z h a (0 : Int32) []
set_option maxRecDepth 65536 in
set_option maxHeartbeats 40000000 in
theorem rm2_0 (l : Launch) (Z : State) (a0 : Array Value) (hw : ∀ d ∈ tables_1, d.before a0 Z = true) (ws : List Jvm.Cond) (a : Addr) (ca : Addr) (kc : ClassId) (h0 : Heap) (n0 : Nat) (Z0 : n0 ≤ h0.size) (E0 : Exa Z h0 a "java/lang/String") (g0 : n0 ≤ a) (FV : Fld Z h0 a "java/lang/String" "value" "[B" .null) (FC : Fld Z h0 a "java/lang/String" "coder" "B" (.int (0 : Int32))) (V0 : Arv Z h0 ca kc .char (0 : Int32) [] (.int (0 : Int32))) (hac : a ≠ ca) :
    MetFree l (⟨"java/lang/String", "<init>", "([C)V"⟩ : MethodName) (head1 (Jvm.Cond.code (⟨"java/lang/String", "<init>", "([C)V"⟩ : MethodName) jdk_42_method_3_code 2 none :: ws) ({ frames := 2, cells := 4, slots := 8, locals := 29 } : Room)) (fun aα Uα => aα = #[(.ref a), (.ref ca)] ∧ Z.Warmed39 Uα.vm ∧ Uα.heap = h0 ∧ CHv Z own_EL Uα.vm h0 ∧ ∀ x ∈ ([a] : List Addr), Safe Z own_EL Uα.vm h0 x) (fun _ _ _ _ _ => True) (fun _ Uα oα Uβ => ∃ vα Lα, oα = .returned vα ∧ Q_rm2_0 Z a ca kc h0 n0 vα Uβ.heap Lα ∧ ReturnedEndW Uα oα Uβ Lα ({ frames := 2, cells := 4, slots := 8, locals := 29 } : Room).cells ({ frames := 2, cells := 4, slots := 8, locals := 29 } : Room).slots) := by
  refine MetFree.of_bodySF (plainFor_of_name pn_java_lang_String) hisR ?_
  intro p e s m args below meth c s₁ Bd hml0 hP hKα
  obtain ⟨rfl, hZ, hh, hCH0, hsf0⟩ := hP
  have hx := Bd.exec
  have hby := Bd.bytes
  have hml : c.maxLocals = 2 := hml0
  have hown : s.vm.findClass "java/lang/String" = some m.cls := findClass_of_methodNamed Bd.named
  have hnm := (name_of_methodNamed Bd.named Bd.method).1
  have hZ : Z.Warmed39 (s.setVm s.vm).vm := hZ
  have hown : (s.setVm s.vm).vm.findClass "java/lang/String" = some m.cls := hown
  have hS0 : s.Since s.vm 0 := (State.WarmedH.refl s).since 0
  have X0 : Stand p l e ({ frames := 2, cells := 4, slots := 8, locals := 29 } : Room) (s.setVm s.vm) m #[(.ref a), (.ref ca)] below meth c s₁ [] 0 0 := Stand.of_body Bd
  have e0 : s₁.heap = h0 := by rw [← hh, Bd.state]; rfl
  have N0 := Fr.nil n0
  have Y0_a := hsf0 a (by simp)
  suffices k0 : GlW p e below s (Q_rm2_0 Z a ca kc h0 n0) ({ frames := 2, cells := 4, slots := 8, locals := 29 } : Room).cells ({ frames := 2, cells := 4, slots := 8, locals := 29 } : Room).slots s₁ (mkF m 0 #[vR a, vR ca] []) from GlW.st (fun τ κ => castTop (ef_rm2_0 m a ca) κ) k0
  refine GlW.st (g' := (mkF m 2 #[vR a, vR ca] [(.ref ca), (.ref a)])) (fun τ κ => XS.aloadN X0.here hx rfl (hb hby d2_0) rfl rfl (XS.aloadN X0.here hx rfl (hb hby d2_1) rfl rfl κ)) ?_
  refine GlW.st (g' := (mkF m 4 #[vR a, vR ca] [(.ref ca), (.int (0 : Int32)), (.ref ca), (.ref a)])) (fun τ κ => XS.iconst X0.here hx rfl (hb hby d2_2) (XS.aloadN X0.here hx rfl (hb hby d2_3) rfl rfl κ)) ?_
  obtain ⟨cl_o1080, Ar_o1080, q_o1080, S_o1080, M_o1080, H_o1080, G_o1080⟩ := id V0
  refine GlW.st (g' := (mkF m 5 #[vR a, vR ca] [(.int (0 : Int32)), (.int (0 : Int32)), (.ref ca), (.ref a)])) (fun τ κ => X0.arraylength hx (by rw [e0]; exact Ar_o1080.1) (State.isArrayOf_alike hZ.alike Ar_o1080.2.1) (g := (mkF m 4 #[vR a, vR ca] [(.ref ca), (.int (0 : Int32)), (.ref ca), (.ref a)])) rfl rfl (hb hby d2_4) _ (by rw [len_of S_o1080 M_o1080]; exact κ)) ?_
  refine GlW.st (g' := (mkF m 6 #[vR a, vR ca] [.null, (.int (0 : Int32)), (.int (0 : Int32)), (.ref ca), (.ref a)])) (fun τ κ => XS.aconstNull X0.here hx rfl (hb hby d2_5) κ) ?_
  obtain ⟨rv1081, _, ⟨T1081, L1081, k1081, n1081⟩, -, X1081, hSb1081, hgb1081, ⟨Lc1081, hQ1081, l1081, y1081, z1081⟩, st1081⟩ := X0.specialBackS hx (y := (⟨"java/lang/String", "<init>", "([CIILjava/lang/Void;)V"⟩ : MethodName)) rfl hown (mvT hZ (w13_ hw)) (mvT hZ (w14_ hw)) (mvT hZ (w16_ hw)) (by decide) (backOfSI (W := 0) (rm3_0 l Z a0 hw [] a ca kc h0 n0 Z0 E0 g0 FV FC V0 hac) hZ (w16_ hw) (w8_ hw) (by decide) (by decide) (own_EW hw) hCH0 (sfx1 E0.lt Y0_a)) (g := (mkF m 6 #[vR a, vR ca] [.null, (.int (0 : Int32)), (.int (0 : Int32)), (.ref ca), (.ref a)])) rfl (by rw [hml]; rfl) (Steps.refl _) (a := a) (argsL := [(.ref ca), (.int (0 : Int32)), (.int (0 : Int32)), .null]) (rest := []) (lenOf pd_15 rfl) rfl (by show 2 * 0 + _ ≤ _; exact Nat.le_of_eq rfl) (hb hby d2_6) (fun _ _ => ⟨rfl, e0, (by decide : 0 + 4 ≤ _), (by decide : 0 + 8 ≤ _)⟩)
  dsimp only [Pt.U, Pt.locs, Pt.cells, Pt.slots] at X1081 l1081 y1081 z1081 st1081 hQ1081 hSb1081 hgb1081
  subst l1081 y1081 z1081
  obtain ⟨X1081, hS1081, hZ1081, hown1081⟩ := rebS hS0 (Nat.zero_le _) X1081 hSb1081 (Nat.le_trans (Nat.le_of_eq (congrArg Array.size e0).symm) hgb1081) hZ hown
  obtain ⟨rfl, N1081q, Kc1081, HS1081⟩ := hQ1081
  have E_1082 := E0.keep Kc1081
  have N1081 := Fr.app N0 N1081q
  have Z1081 : n0 ≤ T1081.heap.size := Nat.le_trans Z0 Kc1081.1
  have K1081 : Keep h0 T1081.heap [a] := (Keep.refl h0 [a]).trans Kc1081 (allS (Or.inl (List.mem_of_getElem? (i := 0) rfl)) all0)
  refine GlW.st (g' := (mkF m 9 #[vR a, vR ca] [])) (fun τ κ => st1081.trans κ) ?_
  exact GlW.ret hS1081 (Nat.le_refl _) (v := none) X1081 Bd.notSynchronized (fun _ => rfl) rfl (fun fs hr => X1081.returnOut hx Bd.returns (hb hby d2_9) hr) (by decide) (by decide) ⟨rfl, N1081, K1081, HS1081⟩
theorem d1_4 : decode method_4_code 4 = .ok (.new 25, 3) := by decide +kernel
theorem d1_7 : decode method_4_code 7 = .ok (.dup, 1) := by decide +kernel
theorem d1_8 : decode method_4_code 8 = .ok (.iconst 0, 1) := by decide +kernel
theorem d1_9 : decode method_4_code 9 = .ok (.newarray .char, 2) := by decide +kernel
theorem d1_11 : decode method_4_code 11 = .ok (.invokespecial 27, 3) := by decide +kernel
theorem d1_14 : decode method_4_code 14 = .ok (.areturn, 1) := by decide +kernel
theorem ef_rm1_0 (m : MethodId) (c0 : Int32) (c1 : Int32) (c2 : Int32) (c3 : Int32) : entryFrame m #[(.int (0 : Int32)), (.int c0), (.int c1), (.int c2), (.int c3)] 5 = mkF m 0 #[vI (0 : Int32), vI c0, vI c1, vI c2, vI c3] [] := by first | (simp [entryFrame, mkF, argsToLocals, Value.category]; done) | rfl
def Q_rm1_0 (Z : State) (c0 : Int32) (c1 : Int32) (c2 : Int32) (c3 : Int32)  (h0 : Heap) (n0 : Nat) (v : Option Value) (h : Heap) (L : List Loc) : Prop := ∃ b, v = some (.ref b) ∧ Fr n0 L ∧ Keep h0 h [] ∧ own_str Z h b (0 : Int32) []
set_option maxRecDepth 65536 in
set_option maxHeartbeats 40000000 in
theorem rm1_0 (l : Launch) (Z : State) (a0 : Array Value) (hw : ∀ d ∈ tables_1, d.before a0 Z = true) (ws : List Jvm.Cond) (c0 : Int32) (c1 : Int32) (c2 : Int32) (c3 : Int32)  (h0 : Heap) (n0 : Nat) (Z0 : n0 ≤ h0.size)  :
    MetFree l (⟨"com/example/sealgrant/sealgrant/AsciiPrintablePinLaw", "make", "(ICCCC)Ljava/lang/String;"⟩ : MethodName) (head1 (Jvm.Cond.code (⟨"com/example/sealgrant/sealgrant/AsciiPrintablePinLaw", "make", "(ICCCC)Ljava/lang/String;"⟩ : MethodName) method_4_code 5 (some (.object "java/lang/String")) :: ws) ({ frames := 3, cells := 6, slots := 12, locals := 43 } : Room)) (fun aα Uα => aα = #[(.int (0 : Int32)), (.int c0), (.int c1), (.int c2), (.int c3)] ∧ Z.Warmed39 Uα.vm ∧ Uα.heap = h0 ∧ CHv Z own_EL Uα.vm h0 ∧ ∀ x ∈ ([] : List Addr), Safe Z own_EL Uα.vm h0 x) (fun _ _ _ _ _ => True) (fun _ Uα oα Uβ => ∃ vα Lα, oα = .returned vα ∧ Q_rm1_0 Z c0 c1 c2 c3  h0 n0 vα Uβ.heap Lα ∧ ReturnedEndW Uα oα Uβ Lα ({ frames := 3, cells := 6, slots := 12, locals := 43 } : Room).cells ({ frames := 3, cells := 6, slots := 12, locals := 43 } : Room).slots) := by
  refine MetFree.of_bodySF (plainFor_of_name pn_com_example_sealgrant_sealgrant_AsciiPrintablePinLaw) hisR ?_
  intro p e s m args below meth c s₁ Bd hml0 hP hKα
  obtain ⟨rfl, hZ, hh, hCH0, hsf0⟩ := hP
  have hx := Bd.exec
  have hby := Bd.bytes
  have hml : c.maxLocals = 5 := hml0
  have hown : s.vm.findClass "com/example/sealgrant/sealgrant/AsciiPrintablePinLaw" = some m.cls := findClass_of_methodNamed Bd.named
  have hnm := (name_of_methodNamed Bd.named Bd.method).1
  have hZ : Z.Warmed39 (s.setVm s.vm).vm := hZ
  have hown : (s.setVm s.vm).vm.findClass "com/example/sealgrant/sealgrant/AsciiPrintablePinLaw" = some m.cls := hown
  have hS0 : s.Since s.vm 0 := (State.WarmedH.refl s).since 0
  have X0 : Stand p l e ({ frames := 3, cells := 6, slots := 12, locals := 43 } : Room) (s.setVm s.vm) m #[(.int (0 : Int32)), (.int c0), (.int c1), (.int c2), (.int c3)] below meth c s₁ [] 0 0 := Stand.of_body Bd
  have e0 : s₁.heap = h0 := by rw [← hh, Bd.state]; rfl
  have N0 := Fr.nil n0
  suffices k0 : GlW p e below s (Q_rm1_0 Z c0 c1 c2 c3  h0 n0) ({ frames := 3, cells := 6, slots := 12, locals := 43 } : Room).cells ({ frames := 3, cells := 6, slots := 12, locals := 43 } : Room).slots s₁ (mkF m 0 #[vI (0 : Int32), vI c0, vI c1, vI c2, vI c3] []) from GlW.st (fun τ κ => castTop (ef_rm1_0 m c0 c1 c2 c3) κ) k0
  refine GlW.st (g' := (mkF m 1 #[vI (0 : Int32), vI c0, vI c1, vI c2, vI c3] [(.int (0 : Int32))])) (fun τ κ => XS.iloadN X0.here hx rfl (hb hby d1_0) rfl κ) ?_
  have hc1085 : (0 : Int32) = (0 : Int32) := by decide
  refine GlW.st (g' := (mkF m 4 #[vI (0 : Int32), vI c0, vI c1, vI c2, vI c3] [])) (fun τ κ => XS.ifNo X0.here hx rfl (hb hby d1_1) rfl ((if0 _ _).trans (teq hc1085).2) κ) ?_
  obtain ⟨T1086, h1086, X1086, e1086, E1086, A1086, D1086, -, st1086⟩ := newO X0 hx hZ hown (w6_ hw) (w7_ hw) (w8_ hw) e0 (g := (mkF m 4 #[vI (0 : Int32), vI c0, vI c1, vI c2, vI c3] [])) rfl (hb hby d1_4) (by decide) (by decide)
  obtain ⟨b1086, g1086⟩ : ∃ z, z = h0.size := ⟨_, rfl⟩
  rw [← g1086] at A1086 D1086 st1086
  have Yn1086 : Safe Z own_EL s.vm h0 b1086 := Safe.new (Nat.le_of_eq g1086.symm)
  have Y1086_b1086 := Safe.ext E1086 hCH0 Yn1086
  have CH1086 := hCH0.ext E1086
  have hk1086 := Nat.le_trans (Nat.zero_le _) E1086.1
  have g_b1086 : n0 ≤ b1086 := Nat.le_trans Z0 (Nat.le_of_eq g1086.symm)
  have sz_b1086 : h0.size ≤ b1086 := Nat.le_trans (Keep.refl h0 []).1 (Nat.le_of_eq g1086.symm)
  have Z1086 : n0 ≤ h1086.size := Nat.le_trans Z0 E1086.1
  have K1086 : Keep h0 h1086 [] := (Keep.refl h0 []).ext E1086
  have F_1087 : Fld Z h1086 b1086 "java/lang/String" "value" "[B" .null := D1086 (Or.inr (w22_ hw)) (ty := (.array .byte)) (by decide)
  have F_1088 : Fld Z h1086 b1086 "java/lang/String" "coder" "B" (.int (0 : Int32)) := D1086 (Or.inr (w23_ hw)) (ty := .byte) (by decide)
  refine GlW.st (g' := (mkF m 7 #[vI (0 : Int32), vI c0, vI c1, vI c2, vI c3] [(.ref b1086)])) (fun τ κ => st1086 _ κ) ?_
  refine GlW.st (g' := (mkF m 9 #[vI (0 : Int32), vI c0, vI c1, vI c2, vI c3] [(.int (0 : Int32)), (.ref b1086), (.ref b1086)])) (fun τ κ => XS.dup X1086.here hx rfl (hb hby d1_7) rfl rfl (XS.iconst X1086.here hx rfl (hb hby d1_8) κ)) ?_
  obtain ⟨T1089, h1089, k1089, X1089, e1089, E1089, A1089, st1089⟩ := newP X1086 hx hZ (hw _ (List.mem_of_getElem? (i := 9) rfl)) e1086 (g := (mkF m 9 #[vI (0 : Int32), vI c0, vI c1, vI c2, vI c3] [(.int (0 : Int32)), (.ref b1086), (.ref b1086)])) rfl (hb hby d1_9) rfl (by decide) (cap := 0) (by decide) (by decide) (by decide) (by decide)
  obtain ⟨b1089, g1089⟩ : ∃ z, z = h1086.size := ⟨_, rfl⟩
  rw [← g1089] at A1089 st1089
  have Yn1089 : Safe Z own_EL s.vm h1086 b1089 := Safe.new (Nat.le_of_eq g1089.symm)
  have Y1089_b1086 := Safe.ext E1089 CH1086 Y1086_b1086
  have Y1089_b1089 := Safe.ext E1089 CH1086 Yn1089
  have CH1089 := CH1086.ext E1089
  have ne_b1086_b1089 : b1086 ≠ b1089 := Nat.ne_of_lt (Nat.lt_of_lt_of_le A1086.lt (Nat.le_of_eq g1089.symm))
  have E_1090 := A1086.ext E1089
  have F_1091 := F_1087.ext E1089
  have F_1092 := F_1088.ext E1089
  have hk1089 := Nat.le_trans hk1086 E1089.1
  have g_b1089 : n0 ≤ b1089 := Nat.le_trans Z1086 (Nat.le_of_eq g1089.symm)
  have sz_b1089 : h0.size ≤ b1089 := Nat.le_trans K1086.1 (Nat.le_of_eq g1089.symm)
  have Z1089 : n0 ≤ h1089.size := Nat.le_trans Z1086 E1089.1
  have K1089 : Keep h0 h1089 [] := K1086.ext E1089
  have V_b1089 : Arv Z h1089 b1089 k1089 .char (0 : Int32) [] (.int (0 : Int32)) := (Arv.new A1089 (by decide)).pad (pad_rep [] (.int (0 : Int32)) 0)
  refine GlW.st (g' := (mkF m 11 #[vI (0 : Int32), vI c0, vI c1, vI c2, vI c3] [(.ref b1089), (.ref b1086), (.ref b1086)])) (fun τ κ => st1089 _ κ) ?_
  obtain ⟨rv1093, _, ⟨T1093, L1093, k1093, n1093⟩, -, X1093, hSb1093, hgb1093, ⟨Lc1093, hQ1093, l1093, y1093, z1093⟩, st1093⟩ := X1089.specialBackS hx (y := (⟨"java/lang/String", "<init>", "([C)V"⟩ : MethodName)) rfl hown (mvT hZ (w10_ hw)) (mvT hZ (w11_ hw)) (mvT hZ (w12_ hw)) (by decide) (backOfSI (W := 1) (rm2_0 l Z a0 hw [] b1086 b1089 k1089 h1089 n0 Z1089 E_1090 g_b1086 F_1091 F_1092 V_b1089 ne_b1086_b1089) hZ (w12_ hw) (w8_ hw) (by decide) (by decide) (own_EW hw) CH1089 (sfx1 E_1090.lt Y1089_b1086)) (g := (mkF m 11 #[vI (0 : Int32), vI c0, vI c1, vI c2, vI c3] [(.ref b1089), (.ref b1086), (.ref b1086)])) rfl (by rw [hml]; rfl) (Steps.refl _) (a := b1086) (argsL := [(.ref b1089)]) (rest := [(.ref b1086)]) (lenOf pd_16 rfl) rfl (by show 2 * 0 + _ ≤ _; exact Nat.le_of_eq rfl) (hb hby d1_11) (fun _ _ => ⟨rfl, e1089, (by decide : 2 + 4 ≤ _), (by decide : 4 + 8 ≤ _)⟩)
  dsimp only [Pt.U, Pt.locs, Pt.cells, Pt.slots] at X1093 l1093 y1093 z1093 st1093 hQ1093 hSb1093 hgb1093
  subst l1093 y1093 z1093
  obtain ⟨X1093, hS1093, hZ1093, hown1093⟩ := rebS hS0 hk1089 X1093 hSb1093 (Nat.le_trans (Nat.le_of_eq (congrArg Array.size e1089).symm) hgb1093) hZ hown
  obtain ⟨rfl, N1093q, Kc1093, HS1093⟩ := hQ1093
  have E_1094 := E_1090.keep Kc1093
  have N1093 := Fr.app N0 N1093q
  have Z1093 : n0 ≤ T1093.heap.size := Nat.le_trans Z1089 Kc1093.1
  have K1093 : Keep h0 T1093.heap [] := K1089.trans Kc1093 (allS (Or.inr sz_b1086) all0)
  refine GlW.st (g' := (mkF m 14 #[vI (0 : Int32), vI c0, vI c1, vI c2, vI c3] [(.ref b1086)])) (fun τ κ => st1093.trans κ) ?_
  exact GlW.ret hS1093 (Nat.le_refl _) (v := some (.ref b1086)) X1093 Bd.notSynchronized (fun h => by rw [Bd.returns] at h; cases h) rfl (fun fs hr => retAO X1093 hx Bd.returns (hb hby d1_14) hr) (by decide) (by decide) ⟨b1086, rfl, N1093, K1093, HS1093⟩
theorem pd_17 : parseMethodDescriptor "(ICCCC)Ljava/lang/String;" = some ⟨[.int, .char, .char, .char, .char], some (.object "java/lang/String")⟩ := by decide +kernel
theorem pd_18 : parseMethodDescriptor "(Ljava/lang/String;)Z" = some ⟨[(.object "java/lang/String")], some .boolean⟩ := by decide +kernel
theorem pd_19 : parseMethodDescriptor "(C)Z" = some ⟨[.char], some .boolean⟩ := by decide +kernel
theorem ef_rm0 (m : MethodId) (x0 : Int32) (x1 : Int32) (x2 : Int32) (x3 : Int32) (x4 : Int32) : entryFrame m #[(.int x0), (.int x1), (.int x2), (.int x3), (.int x4)] maxLocals = mkF m 0 #[vI x0, vI x1, vI x2, vI x3, vI x4, .unset, .unset, .unset, .unset, .unset, .unset, .unset] [] := by first | (simp [entryFrame, mkF, argsToLocals, Value.category, maxLocals]; done) | rfl
def Q_rm0 (Z : State) (x0 : Int32) (x1 : Int32) (x2 : Int32) (x3 : Int32) (x4 : Int32) (cs : Int32) (ff : Value) (h0 : Heap) (n0 : Nat) (v : Option Value) (h : Heap) (L : List Loc) : Prop := v = some (.int 1) ∧ Fr n0 L
set_option maxRecDepth 65536 in
set_option maxHeartbeats 40000000 in
theorem rm0 (l : Launch) (Z : State) (a0 : Array Value) (hw : ∀ d ∈ tables_1, d.before a0 Z = true) (ws : List Jvm.Cond) (x0 : Int32) (x1 : Int32) (x2 : Int32) (x3 : Int32) (x4 : Int32) (cs : Int32) (ff : Value) (h0 : Heap) (n0 : Nat) (Z0 : n0 ≤ h0.size) (S0 : Sta Z h0 "java/lang/String" "COMPACT_STRINGS" "Z" (.int cs)) (hcs : ¬ cs = (0 : Int32)) (SA : Sta Z h0 "java/lang/StringUTF16" "$assertionsDisabled" "Z" (.int (1 : Int32))) (SH : Sta Z h0 "java/lang/StringUTF16" "HI_BYTE_SHIFT" "I" (.int (0 : Int32))) (SL : Sta Z h0 "java/lang/StringUTF16" "LO_BYTE_SHIFT" "I" (.int (8 : Int32))) (SF : Sta Z h0 "jdk/internal/util/Preconditions" "SIOOBE_FORMATTER" "Ljava/util/function/BiFunction;" ff) (isr_ff : ff.isRef = true) :
    MetFree l x (head1 (Jvm.Cond.code x code maxLocals ret :: ws) room_1) (fun aα Uα => aα = #[(.int x0), (.int x1), (.int x2), (.int x3), (.int x4)] ∧ Z.Warmed39 Uα.vm ∧ Uα.heap = h0 ∧ CHv Z own_EL Uα.vm h0 ∧ ∀ x ∈ ([] : List Addr), Safe Z own_EL Uα.vm h0 x) (fun _ _ _ _ _ => True) (fun _ Uα oα Uβ => ∃ vα Lα, oα = .returned vα ∧ Q_rm0 Z x0 x1 x2 x3 x4 cs ff h0 n0 vα Uβ.heap Lα ∧ ReturnedEndW Uα oα Uβ Lα 6 20) := by
  refine MetFree.of_bodySF (plainFor_of_name pn_com_example_sealgrant_sealgrant_AsciiPrintablePinLaw) hisR ?_
  intro p e s m args below meth c s₁ Bd hml0 hP hKα
  obtain ⟨rfl, hZ, hh, hCH0, hsf0⟩ := hP
  have hx := Bd.exec
  have hby := Bd.bytes
  have hml : c.maxLocals = 12 := hml0
  have hown : s.vm.findClass "com/example/sealgrant/sealgrant/AsciiPrintablePinLaw" = some m.cls := findClass_of_methodNamed Bd.named
  have hnm := (name_of_methodNamed Bd.named Bd.method).1
  have hZ : Z.Warmed39 (s.setVm s.vm).vm := hZ
  have hown : (s.setVm s.vm).vm.findClass "com/example/sealgrant/sealgrant/AsciiPrintablePinLaw" = some m.cls := hown
  have hS0 : s.Since s.vm 0 := (State.WarmedH.refl s).since 0
  have X0 : Stand p l e room_1 (s.setVm s.vm) m #[(.int x0), (.int x1), (.int x2), (.int x3), (.int x4)] below meth c s₁ [] 0 0 := Stand.of_body Bd
  have e0 : s₁.heap = h0 := by rw [← hh, Bd.state]; rfl
  have N0 := Fr.nil n0
  suffices k0 : GlW p e below s (Q_rm0 Z x0 x1 x2 x3 x4 cs ff h0 n0) 6 20 s₁ (mkF m 0 #[vI x0, vI x1, vI x2, vI x3, vI x4, .unset, .unset, .unset, .unset, .unset, .unset, .unset] []) from GlW.st (fun τ κ => castTop (ef_rm0 m x0 x1 x2 x3 x4) κ) k0
  refine GlW.st (g' := (mkF m 1 #[vI x0, vI x1, vI x2, vI x3, vI x4, .unset, .unset, .unset, .unset, .unset, .unset, .unset] [(.int x0)])) (fun τ κ => XS.iloadN X0.here hx rfl (hb hby at_0) rfl κ) ?_
  refine GlW.st (g' := (mkF m 3 #[vI x0, vI x1, vI x2, vI x3, vI x4, .unset, .unset, .unset, .unset, .unset, .unset, .unset] [(.int (2147483647 : Int32)), (.int x0)])) (fun τ κ => X0.ldcInt hx hown (mvT hZ (w0_ hw)) (g := (mkF m 1 #[vI x0, vI x1, vI x2, vI x3, vI x4, .unset, .unset, .unset, .unset, .unset, .unset, .unset] [(.int x0)])) rfl (hb hby at_1) _ κ) ?_
  refine GlW.st (g' := (mkF m 5 #[vI x0, vI x1, vI x2, vI x3, vI x4, .unset, .unset, .unset, .unset, .unset, .unset, .unset] [(.int (5 : Int32)), (.int (x0 &&& (2147483647 : Int32)))])) (fun τ κ => XS.iand X0.here hx rfl (hb hby at_3) rfl (XS.iconst X0.here hx rfl (hb hby at_4) κ)) ?_
  refine GlW.st (g' := (mkF m 6 #[vI x0, vI x1, vI x2, vI x3, vI x4, .unset, .unset, .unset, .unset, .unset, .unset, .unset] [(.int ((x0 &&& (2147483647 : Int32)) % (5 : Int32)))])) (fun τ κ => iremM (g := (mkF m 5 #[vI x0, vI x1, vI x2, vI x3, vI x4, .unset, .unset, .unset, .unset, .unset, .unset, .unset] [(.int (5 : Int32)), (.int (x0 &&& (2147483647 : Int32)))])) X0 hx rfl (hb hby at_5) rfl (by decide) κ) ?_
  refine GlW.st (g' := (mkF m 9 #[vI x0, vI x1, vI x2, vI x3, vI x4, vI ((x0 &&& (2147483647 : Int32)) % (5 : Int32)), .unset, .unset, .unset, .unset, .unset, .unset] [(.int x1)])) (fun τ κ => XS.istore X0.here hx rfl (hb hby at_6) rfl (l' := #[vI x0, vI x1, vI x2, vI x3, vI x4, vI ((x0 &&& (2147483647 : Int32)) % (5 : Int32)), .unset, .unset, .unset, .unset, .unset, .unset]) rfl (XS.iloadN X0.here hx rfl (hb hby at_8) rfl κ)) ?_
  refine GlW.st (g' := (mkF m 11 #[vI x0, vI x1, vI x2, vI x3, vI x4, vI ((x0 &&& (2147483647 : Int32)) % (5 : Int32)), .unset, .unset, .unset, .unset, .unset, .unset] [(.int (65535 : Int32)), (.int x1)])) (fun τ κ => X0.ldcInt hx hown (mvT hZ (w1_ hw)) (g := (mkF m 9 #[vI x0, vI x1, vI x2, vI x3, vI x4, vI ((x0 &&& (2147483647 : Int32)) % (5 : Int32)), .unset, .unset, .unset, .unset, .unset, .unset] [(.int x1)])) rfl (hb hby at_9) _ κ) ?_
  refine GlW.st (g' := (mkF m 13 #[vI x0, vI x1, vI x2, vI x3, vI x4, vI ((x0 &&& (2147483647 : Int32)) % (5 : Int32)), .unset, .unset, .unset, .unset, .unset, .unset] [(.int ((x1 &&& (65535 : Int32)).toUInt32.toUInt16.toUInt32.toInt32))])) (fun τ κ => XS.iand X0.here hx rfl (hb hby at_11) rfl (XS.i2c X0.here hx rfl (hb hby at_12) rfl κ)) ?_
  have f0 := own_i2c (x1 &&& (65535 : Int32))
  generalize ((x1 &&& (65535 : Int32)).toUInt32.toUInt16.toUInt32.toInt32) = c0 at f0 ⊢
  refine GlW.st (g' := (mkF m 16 #[vI x0, vI x1, vI x2, vI x3, vI x4, vI ((x0 &&& (2147483647 : Int32)) % (5 : Int32)), vI c0, .unset, .unset, .unset, .unset, .unset] [(.int x2)])) (fun τ κ => XS.istore X0.here hx rfl (hb hby at_13) rfl (l' := #[vI x0, vI x1, vI x2, vI x3, vI x4, vI ((x0 &&& (2147483647 : Int32)) % (5 : Int32)), vI c0, .unset, .unset, .unset, .unset, .unset]) rfl (XS.iloadN X0.here hx rfl (hb hby at_15) rfl κ)) ?_
  refine GlW.st (g' := (mkF m 18 #[vI x0, vI x1, vI x2, vI x3, vI x4, vI ((x0 &&& (2147483647 : Int32)) % (5 : Int32)), vI c0, .unset, .unset, .unset, .unset, .unset] [(.int (65535 : Int32)), (.int x2)])) (fun τ κ => X0.ldcInt hx hown (mvT hZ (w1_ hw)) (g := (mkF m 16 #[vI x0, vI x1, vI x2, vI x3, vI x4, vI ((x0 &&& (2147483647 : Int32)) % (5 : Int32)), vI c0, .unset, .unset, .unset, .unset, .unset] [(.int x2)])) rfl (hb hby at_16) _ κ) ?_
  refine GlW.st (g' := (mkF m 20 #[vI x0, vI x1, vI x2, vI x3, vI x4, vI ((x0 &&& (2147483647 : Int32)) % (5 : Int32)), vI c0, .unset, .unset, .unset, .unset, .unset] [(.int ((x2 &&& (65535 : Int32)).toUInt32.toUInt16.toUInt32.toInt32))])) (fun τ κ => XS.iand X0.here hx rfl (hb hby at_18) rfl (XS.i2c X0.here hx rfl (hb hby at_19) rfl κ)) ?_
  have f1 := own_i2c (x2 &&& (65535 : Int32))
  generalize ((x2 &&& (65535 : Int32)).toUInt32.toUInt16.toUInt32.toInt32) = c1 at f1 ⊢
  refine GlW.st (g' := (mkF m 23 #[vI x0, vI x1, vI x2, vI x3, vI x4, vI ((x0 &&& (2147483647 : Int32)) % (5 : Int32)), vI c0, vI c1, .unset, .unset, .unset, .unset] [(.int x3)])) (fun τ κ => XS.istore X0.here hx rfl (hb hby at_20) rfl (l' := #[vI x0, vI x1, vI x2, vI x3, vI x4, vI ((x0 &&& (2147483647 : Int32)) % (5 : Int32)), vI c0, vI c1, .unset, .unset, .unset, .unset]) rfl (XS.iloadN X0.here hx rfl (hb hby at_22) rfl κ)) ?_
  refine GlW.st (g' := (mkF m 25 #[vI x0, vI x1, vI x2, vI x3, vI x4, vI ((x0 &&& (2147483647 : Int32)) % (5 : Int32)), vI c0, vI c1, .unset, .unset, .unset, .unset] [(.int (65535 : Int32)), (.int x3)])) (fun τ κ => X0.ldcInt hx hown (mvT hZ (w1_ hw)) (g := (mkF m 23 #[vI x0, vI x1, vI x2, vI x3, vI x4, vI ((x0 &&& (2147483647 : Int32)) % (5 : Int32)), vI c0, vI c1, .unset, .unset, .unset, .unset] [(.int x3)])) rfl (hb hby at_23) _ κ) ?_
  refine GlW.st (g' := (mkF m 27 #[vI x0, vI x1, vI x2, vI x3, vI x4, vI ((x0 &&& (2147483647 : Int32)) % (5 : Int32)), vI c0, vI c1, .unset, .unset, .unset, .unset] [(.int ((x3 &&& (65535 : Int32)).toUInt32.toUInt16.toUInt32.toInt32))])) (fun τ κ => XS.iand X0.here hx rfl (hb hby at_25) rfl (XS.i2c X0.here hx rfl (hb hby at_26) rfl κ)) ?_
  have f2 := own_i2c (x3 &&& (65535 : Int32))
  generalize ((x3 &&& (65535 : Int32)).toUInt32.toUInt16.toUInt32.toInt32) = c2 at f2 ⊢
  refine GlW.st (g' := (mkF m 31 #[vI x0, vI x1, vI x2, vI x3, vI x4, vI ((x0 &&& (2147483647 : Int32)) % (5 : Int32)), vI c0, vI c1, vI c2, .unset, .unset, .unset] [(.int x4)])) (fun τ κ => XS.istore X0.here hx rfl (hb hby at_27) rfl (l' := #[vI x0, vI x1, vI x2, vI x3, vI x4, vI ((x0 &&& (2147483647 : Int32)) % (5 : Int32)), vI c0, vI c1, vI c2, .unset, .unset, .unset]) rfl (XS.iload X0.here hx rfl (hb hby at_29) rfl κ)) ?_
  refine GlW.st (g' := (mkF m 33 #[vI x0, vI x1, vI x2, vI x3, vI x4, vI ((x0 &&& (2147483647 : Int32)) % (5 : Int32)), vI c0, vI c1, vI c2, .unset, .unset, .unset] [(.int (65535 : Int32)), (.int x4)])) (fun τ κ => X0.ldcInt hx hown (mvT hZ (w1_ hw)) (g := (mkF m 31 #[vI x0, vI x1, vI x2, vI x3, vI x4, vI ((x0 &&& (2147483647 : Int32)) % (5 : Int32)), vI c0, vI c1, vI c2, .unset, .unset, .unset] [(.int x4)])) rfl (hb hby at_31) _ κ) ?_
  refine GlW.st (g' := (mkF m 35 #[vI x0, vI x1, vI x2, vI x3, vI x4, vI ((x0 &&& (2147483647 : Int32)) % (5 : Int32)), vI c0, vI c1, vI c2, .unset, .unset, .unset] [(.int ((x4 &&& (65535 : Int32)).toUInt32.toUInt16.toUInt32.toInt32))])) (fun τ κ => XS.iand X0.here hx rfl (hb hby at_33) rfl (XS.i2c X0.here hx rfl (hb hby at_34) rfl κ)) ?_
  have f3 := own_i2c (x4 &&& (65535 : Int32))
  generalize ((x4 &&& (65535 : Int32)).toUInt32.toUInt16.toUInt32.toInt32) = c3 at f3 ⊢
  refine GlW.st (g' := (mkF m 39 #[vI x0, vI x1, vI x2, vI x3, vI x4, vI ((x0 &&& (2147483647 : Int32)) % (5 : Int32)), vI c0, vI c1, vI c2, vI c3, .unset, .unset] [(.int ((x0 &&& (2147483647 : Int32)) % (5 : Int32)))])) (fun τ κ => XS.istore X0.here hx rfl (hb hby at_35) rfl (l' := #[vI x0, vI x1, vI x2, vI x3, vI x4, vI ((x0 &&& (2147483647 : Int32)) % (5 : Int32)), vI c0, vI c1, vI c2, vI c3, .unset, .unset]) rfl (XS.iload X0.here hx rfl (hb hby at_37) rfl κ)) ?_
  refine GlW.st (g' := (mkF m 43 #[vI x0, vI x1, vI x2, vI x3, vI x4, vI ((x0 &&& (2147483647 : Int32)) % (5 : Int32)), vI c0, vI c1, vI c2, vI c3, .unset, .unset] [(.int c1), (.int c0), (.int ((x0 &&& (2147483647 : Int32)) % (5 : Int32)))])) (fun τ κ => XS.iload X0.here hx rfl (hb hby at_39) rfl (XS.iload X0.here hx rfl (hb hby at_41) rfl κ)) ?_
  refine GlW.st (g' := (mkF m 47 #[vI x0, vI x1, vI x2, vI x3, vI x4, vI ((x0 &&& (2147483647 : Int32)) % (5 : Int32)), vI c0, vI c1, vI c2, vI c3, .unset, .unset] [(.int c3), (.int c2), (.int c1), (.int c0), (.int ((x0 &&& (2147483647 : Int32)) % (5 : Int32)))])) (fun τ κ => XS.iload X0.here hx rfl (hb hby at_43) rfl (XS.iload X0.here hx rfl (hb hby at_45) rfl κ)) ?_
  rcases own_five x0 with hs1097 | hs1097 | hs1097 | hs1097 | hs1097
  · rw [hs1097]
    obtain ⟨rv1098, _, ⟨T1098, L1098, k1098, n1098⟩, -, X1098, hSb1098, hgb1098, ⟨Lc1098, hQ1098, l1098, y1098, z1098⟩, st1098⟩ := callSS X0 hx (y := (⟨"com/example/sealgrant/sealgrant/AsciiPrintablePinLaw", "make", "(ICCCC)Ljava/lang/String;"⟩ : MethodName)) hown (mvT hZ (w2_ hw)) (mvT hZ (w3_ hw)) (mvT hZ (w4_ hw)) (mvT hZ (w5_ hw)) (by decide) (backOfSI (W := 0) (rm1_0 l Z a0 hw [] c0 c1 c2 c3 h0 n0 Z0 ) hZ (w5_ hw) (w4_ hw) (by decide) (by decide) (own_EW hw) hCH0 sfx0) (g := (mkF m 47 #[vI x0, vI x1, vI x2, vI x3, vI x4, vI (0 : Int32), vI c0, vI c1, vI c2, vI c3, .unset, .unset] [(.int c3), (.int c2), (.int c1), (.int c0), (.int (0 : Int32))])) rfl (by rw [hml]; rfl) (argsL := [(.int (0 : Int32)), (.int c0), (.int c1), (.int c2), (.int c3)]) (rest := []) (lenOf pd_17 rfl) rfl (by show 2 * 0 + _ ≤ _; exact Nat.le_of_eq rfl) (hb hby at_47) (fun _ _ => ⟨rfl, e0, (by decide : 0 + 6 ≤ _), (by decide : 0 + 12 ≤ _)⟩)
    dsimp only [Pt.U, Pt.locs, Pt.cells, Pt.slots] at X1098 l1098 y1098 z1098 st1098 hQ1098 hSb1098 hgb1098
    subst l1098 y1098 z1098
    obtain ⟨X1098, hS1098, hZ1098, hown1098⟩ := rebS hS0 (Nat.zero_le _) X1098 hSb1098 (Nat.le_trans (Nat.le_of_eq (congrArg Array.size e0).symm) hgb1098) hZ hown
    obtain ⟨b1098, rfl, N1098q, Kc1098, HS1098⟩ := hQ1098
    have S_1099 := Sta.keepX S0 Kc1098 all0
    have S_1100 := Sta.keepX SA Kc1098 all0
    have S_1101 := Sta.keepX SH Kc1098 all0
    have S_1102 := Sta.keepX SL Kc1098 all0
    have S_1103 := Sta.keepX SF Kc1098 all0
    have N1098 := Fr.app N0 N1098q
    have Z1098 : n0 ≤ T1098.heap.size := Nat.le_trans Z0 Kc1098.1
    have K1098 : Keep h0 T1098.heap [] := (Keep.refl h0 []).trans Kc1098 all0
    refine GlW.st (g' := (mkF m 50 #[vI x0, vI x1, vI x2, vI x3, vI x4, vI (0 : Int32), vI c0, vI c1, vI c2, vI c3, .unset, .unset] [(.ref b1098)])) (fun τ κ => st1098.trans κ) ?_
    refine GlW.st (g' := (mkF m 54 #[vI x0, vI x1, vI x2, vI x3, vI x4, vI (0 : Int32), vI c0, vI c1, vI c2, vI c3, vR b1098, .unset] [(.int (0 : Int32))])) (fun τ κ => XS.astore X1098.here hx rfl (hb hby at_50) rfl rfl (l' := #[vI x0, vI x1, vI x2, vI x3, vI x4, vI (0 : Int32), vI c0, vI c1, vI c2, vI c3, vR b1098, .unset]) rfl (XS.iload X1098.here hx rfl (hb hby at_52) rfl κ)) ?_
    refine GlW.st (g' := (mkF m 55 #[vI x0, vI x1, vI x2, vI x3, vI x4, vI (0 : Int32), vI c0, vI c1, vI c2, vI c3, vR b1098, .unset] [(.int (1 : Int32)), (.int (0 : Int32))])) (fun τ κ => XS.iconst X1098.here hx rfl (hb hby at_54) κ) ?_
    have hc1104 : (0 : Int32) < (1 : Int32) := by decide
    refine GlW.st (g' := (mkF m 68 #[vI x0, vI x1, vI x2, vI x3, vI x4, vI (0 : Int32), vI c0, vI c1, vI c2, vI c3, vR b1098, .unset] [(.int (0 : Int32))])) (fun τ κ => XS.icmpYes X1098.here hx rfl (pc0 := 55) (pc' := 66) rfl (hb hby at_55) rfl (tlt hc1104).1 (by decide) (by decide) (XS.iload X1098.here hx rfl (hb hby at_66) rfl κ)) ?_
    refine GlW.st (g' := (mkF m 69 #[vI x0, vI x1, vI x2, vI x3, vI x4, vI (0 : Int32), vI c0, vI c1, vI c2, vI c3, vR b1098, .unset] [(.int (2 : Int32)), (.int (0 : Int32))])) (fun τ κ => XS.iconst X1098.here hx rfl (hb hby at_68) κ) ?_
    have hc1105 : (0 : Int32) < (2 : Int32) := by decide
    refine GlW.st (g' := (mkF m 82 #[vI x0, vI x1, vI x2, vI x3, vI x4, vI (0 : Int32), vI c0, vI c1, vI c2, vI c3, vR b1098, .unset] [(.int (0 : Int32))])) (fun τ κ => XS.icmpYes X1098.here hx rfl (pc0 := 69) (pc' := 80) rfl (hb hby at_69) rfl (tlt hc1105).1 (by decide) (by decide) (XS.iload X1098.here hx rfl (hb hby at_80) rfl κ)) ?_
    refine GlW.st (g' := (mkF m 83 #[vI x0, vI x1, vI x2, vI x3, vI x4, vI (0 : Int32), vI c0, vI c1, vI c2, vI c3, vR b1098, .unset] [(.int (3 : Int32)), (.int (0 : Int32))])) (fun τ κ => XS.iconst X1098.here hx rfl (hb hby at_82) κ) ?_
    have hc1106 : (0 : Int32) < (3 : Int32) := by decide
    refine GlW.st (g' := (mkF m 96 #[vI x0, vI x1, vI x2, vI x3, vI x4, vI (0 : Int32), vI c0, vI c1, vI c2, vI c3, vR b1098, .unset] [(.int (0 : Int32))])) (fun τ κ => XS.icmpYes X1098.here hx rfl (pc0 := 83) (pc' := 94) rfl (hb hby at_83) rfl (tlt hc1106).1 (by decide) (by decide) (XS.iload X1098.here hx rfl (hb hby at_94) rfl κ)) ?_
    refine GlW.st (g' := (mkF m 97 #[vI x0, vI x1, vI x2, vI x3, vI x4, vI (0 : Int32), vI c0, vI c1, vI c2, vI c3, vR b1098, .unset] [(.int (4 : Int32)), (.int (0 : Int32))])) (fun τ κ => XS.iconst X1098.here hx rfl (hb hby at_96) κ) ?_
    have hc1107 : (0 : Int32) < (4 : Int32) := by decide
    refine GlW.st (g' := (mkF m 109 #[vI x0, vI x1, vI x2, vI x3, vI x4, vI (0 : Int32), vI c0, vI c1, vI c2, vI c3, vR b1098, .unset] [(.int (1 : Int32))])) (fun τ κ => XS.icmpYes X1098.here hx rfl (pc0 := 97) (pc' := 108) rfl (hb hby at_97) rfl (tlt hc1107).1 (by decide) (by decide) (XS.iconst X1098.here hx rfl (hb hby at_108) κ)) ?_
    refine GlW.st (g' := (mkF m 115 #[vI x0, vI x1, vI x2, vI x3, vI x4, vI (0 : Int32), vI c0, vI c1, vI c2, vI c3, vR b1098, vI (1 : Int32)] [])) (fun τ κ => XS.goto X1098.here hx rfl (pc0 := 109) (pc' := 113) rfl (hb hby at_109) (by decide) (by decide) (XS.istore X1098.here hx rfl (hb hby at_113) rfl (l' := #[vI x0, vI x1, vI x2, vI x3, vI x4, vI (0 : Int32), vI c0, vI c1, vI c2, vI c3, vR b1098, vI (1 : Int32)]) rfl κ)) ?_
    refine GlW.st (g' := (mkF m 117 #[vI x0, vI x1, vI x2, vI x3, vI x4, vI (0 : Int32), vI c0, vI c1, vI c2, vI c3, vR b1098, vI (1 : Int32)] [(.ref b1098)])) (fun τ κ => XS.aload X1098.here hx rfl (hb hby at_115) rfl rfl κ) ?_
    obtain ⟨rv1108, _, ⟨T1108, L1108, k1108, n1108⟩, -, X1108, ⟨Lc1108, hQ1108, l1108, y1108, z1108⟩, st1108⟩ := Jvm.LawKit.callS X1098 hx (y := (⟨"com/example/sealgrant/sealgrant/Ascii", "printable", "(Ljava/lang/String;)Z"⟩ : MethodName)) hown1098 (mvT hZ1098 (w28_ hw)) (mvT hZ1098 (w29_ hw)) (mvT hZ1098 (w30_ hw)) (mvT hZ1098 (w31_ hw)) (by decide) (backOf (W := 0) (rm5_0 l Z a0 hw [] b1098 cs  ff T1098.heap n0 Z1098 S_1099 hcs S_1100 S_1101 S_1102 S_1103 isr_ff HS1098) hZ1098 (w31_ hw) (w30_ hw) (by decide) (by decide)) (g := (mkF m 117 #[vI x0, vI x1, vI x2, vI x3, vI x4, vI (0 : Int32), vI c0, vI c1, vI c2, vI c3, vR b1098, vI (1 : Int32)] [(.ref b1098)])) rfl (by rw [hml]; rfl) (argsL := [(.ref b1098)]) (rest := []) (lenOf pd_18 rfl) rfl (by show 2 * 0 + _ ≤ _; exact Nat.le_of_eq rfl) (hb hby at_117) (fun _ _ => ⟨rfl, rfl, (by decide : 6 + 0 ≤ _), (by decide : 12 + 0 ≤ _)⟩)
    dsimp only [Pt.U, Pt.locs, Pt.cells, Pt.slots] at X1108 l1108 y1108 z1108 st1108 hQ1108
    subst l1108 y1108 z1108
    obtain ⟨hq1108, N1108q, e1108⟩ := hQ1108
    have hq1108 : rv1108 = some (.int (own_pr [])) := hq1108
    subst hq1108
    have N1108 := Fr.app N1098 N1108q
    refine GlW.st (g' := (mkF m 120 #[vI x0, vI x1, vI x2, vI x3, vI x4, vI (0 : Int32), vI c0, vI c1, vI c2, vI c3, vR b1098, vI (1 : Int32)] [(.int (own_pr []))])) (fun τ κ => st1108 _ κ) ?_
    refine GlW.st (g' := (mkF m 122 #[vI x0, vI x1, vI x2, vI x3, vI x4, vI (0 : Int32), vI c0, vI c1, vI c2, vI c3, vR b1098, vI (1 : Int32)] [(.int (1 : Int32)), (.int (own_pr []))])) (fun τ κ => XS.iload X1108.here hx rfl (hb hby at_120) rfl κ) ?_
    have hc1109 : (own_pr []) = (1 : Int32) := by simp only [own_pr_cons, own_pr_nil, if_true, if_false]
    refine GlW.st (g' := (mkF m 126 #[vI x0, vI x1, vI x2, vI x3, vI x4, vI (0 : Int32), vI c0, vI c1, vI c2, vI c3, vR b1098, vI (1 : Int32)] [(.int (1 : Int32))])) (fun τ κ => XS.icmpNo X1108.here hx rfl (hb hby at_122) rfl (teq hc1109).2 (XS.iconst X1108.here hx rfl (hb hby at_125) κ)) ?_
    refine GlW.st (g' := (mkF m 130 #[vI x0, vI x1, vI x2, vI x3, vI x4, vI (0 : Int32), vI c0, vI c1, vI c2, vI c3, vR b1098, vI (1 : Int32)] [(.int (1 : Int32))])) (fun τ κ => XS.goto X1108.here hx rfl (pc0 := 126) (pc' := 130) rfl (hb hby at_126) (by decide) (by decide) κ) ?_
    exact GlW.ret hS1098 (Nat.le_refl _) (v := some (.int (1 : Int32))) X1108 Bd.notSynchronized (fun h => by rw [Bd.returns] at h; cases h) e1108 (fun fs hr => retN X1108 hx (t := .boolean) Bd.returns (by simp) (hb hby at_130) hr) (by decide) (by decide) ⟨rfl, N1108⟩
  · rw [hs1097]
    obtain ⟨rv1110, _, ⟨T1110, L1110, k1110, n1110⟩, -, X1110, ⟨Lc1110, hQ1110, l1110, y1110, z1110⟩, st1110⟩ := Jvm.LawKit.callS X0 hx (y := (⟨"com/example/sealgrant/sealgrant/AsciiPrintablePinLaw", "make", "(ICCCC)Ljava/lang/String;"⟩ : MethodName)) hown (mvT hZ (w2_ hw)) (mvT hZ (w3_ hw)) (mvT hZ (w4_ hw)) (mvT hZ (w5_ hw)) (by decide) (backOf (W := 0) (rm1_1 l Z a0 hw [] c0 c1 c2 c3 cs h0 n0 Z0 S0 hcs SA SH SL f0 f1 f2 f3) hZ (w5_ hw) (w4_ hw) (by decide) (by decide)) (g := (mkF m 47 #[vI x0, vI x1, vI x2, vI x3, vI x4, vI (1 : Int32), vI c0, vI c1, vI c2, vI c3, .unset, .unset] [(.int c3), (.int c2), (.int c1), (.int c0), (.int (1 : Int32))])) rfl (by rw [hml]; rfl) (argsL := [(.int (1 : Int32)), (.int c0), (.int c1), (.int c2), (.int c3)]) (rest := []) (lenOf pd_17 rfl) rfl (by show 2 * 0 + _ ≤ _; exact Nat.le_of_eq rfl) (hb hby at_47) (fun _ _ => ⟨rfl, e0, (by decide : 0 + 4 ≤ _), (by decide : 0 + 8 ≤ _)⟩)
    dsimp only [Pt.U, Pt.locs, Pt.cells, Pt.slots] at X1110 l1110 y1110 z1110 st1110 hQ1110
    subst l1110 y1110 z1110
    obtain ⟨b1110, rfl, N1110q, Kc1110, HS1110⟩ := hQ1110
    have S_1111 := Sta.keepX S0 Kc1110 all0
    have S_1112 := Sta.keepX SA Kc1110 all0
    have S_1113 := Sta.keepX SH Kc1110 all0
    have S_1114 := Sta.keepX SL Kc1110 all0
    have S_1115 := Sta.keepX SF Kc1110 all0
    have hk1110 := Nat.le_trans (Nat.zero_le _) Kc1110.1
    have N1110 := Fr.app N0 N1110q
    have Z1110 : n0 ≤ T1110.heap.size := Nat.le_trans Z0 Kc1110.1
    have K1110 : Keep h0 T1110.heap [] := (Keep.refl h0 []).trans Kc1110 all0
    refine GlW.st (g' := (mkF m 50 #[vI x0, vI x1, vI x2, vI x3, vI x4, vI (1 : Int32), vI c0, vI c1, vI c2, vI c3, .unset, .unset] [(.ref b1110)])) (fun τ κ => st1110 _ κ) ?_
    refine GlW.st (g' := (mkF m 54 #[vI x0, vI x1, vI x2, vI x3, vI x4, vI (1 : Int32), vI c0, vI c1, vI c2, vI c3, vR b1110, .unset] [(.int (1 : Int32))])) (fun τ κ => XS.astore X1110.here hx rfl (hb hby at_50) rfl rfl (l' := #[vI x0, vI x1, vI x2, vI x3, vI x4, vI (1 : Int32), vI c0, vI c1, vI c2, vI c3, vR b1110, .unset]) rfl (XS.iload X1110.here hx rfl (hb hby at_52) rfl κ)) ?_
    refine GlW.st (g' := (mkF m 55 #[vI x0, vI x1, vI x2, vI x3, vI x4, vI (1 : Int32), vI c0, vI c1, vI c2, vI c3, vR b1110, .unset] [(.int (1 : Int32)), (.int (1 : Int32))])) (fun τ κ => XS.iconst X1110.here hx rfl (hb hby at_54) κ) ?_
    have hc1116 : ¬ ((1 : Int32) < (1 : Int32)) := by decide
    refine GlW.st (g' := (mkF m 60 #[vI x0, vI x1, vI x2, vI x3, vI x4, vI (1 : Int32), vI c0, vI c1, vI c2, vI c3, vR b1110, .unset] [(.int c0)])) (fun τ κ => XS.icmpNo X1110.here hx rfl (hb hby at_55) rfl (flt hc1116).1 (XS.iload X1110.here hx rfl (hb hby at_58) rfl κ)) ?_
    obtain ⟨rv1117, _, ⟨T1117, L1117, k1117, n1117⟩, -, X1117, ⟨Lc1117, hQ1117, l1117, y1117, z1117⟩, st1117⟩ := Jvm.LawKit.callS X1110 hx (y := (⟨"com/example/sealgrant/sealgrant/AsciiPrintablePinLaw", "ok", "(C)Z"⟩ : MethodName)) hown (mvT hZ (w53_ hw)) (mvT hZ (w54_ hw)) (mvT hZ (w4_ hw)) (mvT hZ (w55_ hw)) (by decide) (backOf (W := 0) (rm11 l Z a0 hw [] c0 T1110.heap n0 Z1110 ) hZ (w55_ hw) (w4_ hw) (by decide) (by decide)) (g := (mkF m 60 #[vI x0, vI x1, vI x2, vI x3, vI x4, vI (1 : Int32), vI c0, vI c1, vI c2, vI c3, vR b1110, .unset] [(.int c0)])) rfl (by rw [hml]; rfl) (argsL := [(.int c0)]) (rest := []) (lenOf pd_19 rfl) rfl (by show 2 * 0 + _ ≤ _; exact Nat.le_of_eq rfl) (hb hby at_60) (fun _ _ => ⟨rfl, rfl, (by decide : 4 + 0 ≤ _), (by decide : 8 + 0 ≤ _)⟩)
    dsimp only [Pt.U, Pt.locs, Pt.cells, Pt.slots] at X1117 l1117 y1117 z1117 st1117 hQ1117
    subst l1117 y1117 z1117
    obtain ⟨rfl, N1117q, e1117⟩ := hQ1117
    have N1117 := Fr.app N1110 N1117q
    refine GlW.st (g' := (mkF m 63 #[vI x0, vI x1, vI x2, vI x3, vI x4, vI (1 : Int32), vI c0, vI c1, vI c2, vI c3, vR b1110, .unset] [(.int (own_okc c0))])) (fun τ κ => st1117 _ κ) ?_
    by_cases hc1118 : (own_okc c0) = (0 : Int32)
    · -- pc 63: (own_okc c0) = (0 : Int32)
      refine GlW.st (g' := (mkF m 113 #[vI x0, vI x1, vI x2, vI x3, vI x4, vI (1 : Int32), vI c0, vI c1, vI c2, vI c3, vR b1110, .unset] [(.int (0 : Int32))])) (fun τ κ => XS.ifYes X1117.here hx rfl (pc0 := 63) (pc' := 112) rfl (hb hby at_63) rfl ((if0 _ _).trans (teq hc1118).1) (by decide) (by decide) (XS.iconst X1117.here hx rfl (hb hby at_112) κ)) ?_
      refine GlW.st (g' := (mkF m 117 #[vI x0, vI x1, vI x2, vI x3, vI x4, vI (1 : Int32), vI c0, vI c1, vI c2, vI c3, vR b1110, vI (0 : Int32)] [(.ref b1110)])) (fun τ κ => XS.istore X1117.here hx rfl (hb hby at_113) rfl (l' := #[vI x0, vI x1, vI x2, vI x3, vI x4, vI (1 : Int32), vI c0, vI c1, vI c2, vI c3, vR b1110, vI (0 : Int32)]) rfl (XS.aload X1117.here hx rfl (hb hby at_115) rfl rfl κ)) ?_
      obtain ⟨rv1119, _, ⟨T1119, L1119, k1119, n1119⟩, -, X1119, ⟨Lc1119, hQ1119, l1119, y1119, z1119⟩, st1119⟩ := Jvm.LawKit.callS X1117 hx (y := (⟨"com/example/sealgrant/sealgrant/Ascii", "printable", "(Ljava/lang/String;)Z"⟩ : MethodName)) hown (mvT hZ (w28_ hw)) (mvT hZ (w29_ hw)) (mvT hZ (w30_ hw)) (mvT hZ (w31_ hw)) (by decide) (backOf (W := 0) (rm5_1 l Z a0 hw [] b1110 cs c0 ff T1110.heap n0 Z1110 S_1111 hcs S_1112 S_1113 S_1114 S_1115 isr_ff HS1110) hZ (w31_ hw) (w30_ hw) (by decide) (by decide)) (g := (mkF m 117 #[vI x0, vI x1, vI x2, vI x3, vI x4, vI (1 : Int32), vI c0, vI c1, vI c2, vI c3, vR b1110, vI (0 : Int32)] [(.ref b1110)])) rfl (by rw [hml]; rfl) (argsL := [(.ref b1110)]) (rest := []) (lenOf pd_18 rfl) rfl (by show 2 * 0 + _ ≤ _; exact Nat.le_of_eq rfl) (hb hby at_117) (fun _ _ => ⟨rfl, e1117, (by decide : 4 + 0 ≤ _), (by decide : 8 + 0 ≤ _)⟩)
      dsimp only [Pt.U, Pt.locs, Pt.cells, Pt.slots] at X1119 l1119 y1119 z1119 st1119 hQ1119
      subst l1119 y1119 z1119
      obtain ⟨hq1119, N1119q, e1119⟩ := hQ1119
      have hq1119 : rv1119 = some (.int (own_pr [c0])) := hq1119
      subst hq1119
      have N1119 := Fr.app N1117 N1119q
      refine GlW.st (g' := (mkF m 120 #[vI x0, vI x1, vI x2, vI x3, vI x4, vI (1 : Int32), vI c0, vI c1, vI c2, vI c3, vR b1110, vI (0 : Int32)] [(.int (own_pr [c0]))])) (fun τ κ => st1119 _ κ) ?_
      refine GlW.st (g' := (mkF m 122 #[vI x0, vI x1, vI x2, vI x3, vI x4, vI (1 : Int32), vI c0, vI c1, vI c2, vI c3, vR b1110, vI (0 : Int32)] [(.int (0 : Int32)), (.int (own_pr [c0]))])) (fun τ κ => XS.iload X1119.here hx rfl (hb hby at_120) rfl κ) ?_
      have hc1120 : (own_pr [c0]) = (0 : Int32) := by simp only [own_pr_cons, own_pr_nil, hc1118, if_true, if_false]
      refine GlW.st (g' := (mkF m 126 #[vI x0, vI x1, vI x2, vI x3, vI x4, vI (1 : Int32), vI c0, vI c1, vI c2, vI c3, vR b1110, vI (0 : Int32)] [(.int (1 : Int32))])) (fun τ κ => XS.icmpNo X1119.here hx rfl (hb hby at_122) rfl (teq hc1120).2 (XS.iconst X1119.here hx rfl (hb hby at_125) κ)) ?_
      refine GlW.st (g' := (mkF m 130 #[vI x0, vI x1, vI x2, vI x3, vI x4, vI (1 : Int32), vI c0, vI c1, vI c2, vI c3, vR b1110, vI (0 : Int32)] [(.int (1 : Int32))])) (fun τ κ => XS.goto X1119.here hx rfl (pc0 := 126) (pc' := 130) rfl (hb hby at_126) (by decide) (by decide) κ) ?_
      exact GlW.ret hS0 hk1110 (v := some (.int (1 : Int32))) X1119 Bd.notSynchronized (fun h => by rw [Bd.returns] at h; cases h) e1119 (fun fs hr => retN X1119 hx (t := .boolean) Bd.returns (by simp) (hb hby at_130) hr) (by decide) (by decide) ⟨rfl, N1119⟩
    · -- pc 63: not (own_okc c0) = (0 : Int32)
      refine GlW.st (g' := (mkF m 68 #[vI x0, vI x1, vI x2, vI x3, vI x4, vI (1 : Int32), vI c0, vI c1, vI c2, vI c3, vR b1110, .unset] [(.int (1 : Int32))])) (fun τ κ => XS.ifNo X1117.here hx rfl (hb hby at_63) rfl ((if0 _ _).trans (feq hc1118).1) (XS.iload X1117.here hx rfl (hb hby at_66) rfl κ)) ?_
      refine GlW.st (g' := (mkF m 69 #[vI x0, vI x1, vI x2, vI x3, vI x4, vI (1 : Int32), vI c0, vI c1, vI c2, vI c3, vR b1110, .unset] [(.int (2 : Int32)), (.int (1 : Int32))])) (fun τ κ => XS.iconst X1117.here hx rfl (hb hby at_68) κ) ?_
      have hc1121 : (1 : Int32) < (2 : Int32) := by decide
      refine GlW.st (g' := (mkF m 82 #[vI x0, vI x1, vI x2, vI x3, vI x4, vI (1 : Int32), vI c0, vI c1, vI c2, vI c3, vR b1110, .unset] [(.int (1 : Int32))])) (fun τ κ => XS.icmpYes X1117.here hx rfl (pc0 := 69) (pc' := 80) rfl (hb hby at_69) rfl (tlt hc1121).1 (by decide) (by decide) (XS.iload X1117.here hx rfl (hb hby at_80) rfl κ)) ?_
      refine GlW.st (g' := (mkF m 83 #[vI x0, vI x1, vI x2, vI x3, vI x4, vI (1 : Int32), vI c0, vI c1, vI c2, vI c3, vR b1110, .unset] [(.int (3 : Int32)), (.int (1 : Int32))])) (fun τ κ => XS.iconst X1117.here hx rfl (hb hby at_82) κ) ?_
      have hc1122 : (1 : Int32) < (3 : Int32) := by decide
      refine GlW.st (g' := (mkF m 96 #[vI x0, vI x1, vI x2, vI x3, vI x4, vI (1 : Int32), vI c0, vI c1, vI c2, vI c3, vR b1110, .unset] [(.int (1 : Int32))])) (fun τ κ => XS.icmpYes X1117.here hx rfl (pc0 := 83) (pc' := 94) rfl (hb hby at_83) rfl (tlt hc1122).1 (by decide) (by decide) (XS.iload X1117.here hx rfl (hb hby at_94) rfl κ)) ?_
      refine GlW.st (g' := (mkF m 97 #[vI x0, vI x1, vI x2, vI x3, vI x4, vI (1 : Int32), vI c0, vI c1, vI c2, vI c3, vR b1110, .unset] [(.int (4 : Int32)), (.int (1 : Int32))])) (fun τ κ => XS.iconst X1117.here hx rfl (hb hby at_96) κ) ?_
      have hc1123 : (1 : Int32) < (4 : Int32) := by decide
      refine GlW.st (g' := (mkF m 109 #[vI x0, vI x1, vI x2, vI x3, vI x4, vI (1 : Int32), vI c0, vI c1, vI c2, vI c3, vR b1110, .unset] [(.int (1 : Int32))])) (fun τ κ => XS.icmpYes X1117.here hx rfl (pc0 := 97) (pc' := 108) rfl (hb hby at_97) rfl (tlt hc1123).1 (by decide) (by decide) (XS.iconst X1117.here hx rfl (hb hby at_108) κ)) ?_
      refine GlW.st (g' := (mkF m 115 #[vI x0, vI x1, vI x2, vI x3, vI x4, vI (1 : Int32), vI c0, vI c1, vI c2, vI c3, vR b1110, vI (1 : Int32)] [])) (fun τ κ => XS.goto X1117.here hx rfl (pc0 := 109) (pc' := 113) rfl (hb hby at_109) (by decide) (by decide) (XS.istore X1117.here hx rfl (hb hby at_113) rfl (l' := #[vI x0, vI x1, vI x2, vI x3, vI x4, vI (1 : Int32), vI c0, vI c1, vI c2, vI c3, vR b1110, vI (1 : Int32)]) rfl κ)) ?_
      refine GlW.st (g' := (mkF m 117 #[vI x0, vI x1, vI x2, vI x3, vI x4, vI (1 : Int32), vI c0, vI c1, vI c2, vI c3, vR b1110, vI (1 : Int32)] [(.ref b1110)])) (fun τ κ => XS.aload X1117.here hx rfl (hb hby at_115) rfl rfl κ) ?_
      obtain ⟨rv1124, _, ⟨T1124, L1124, k1124, n1124⟩, -, X1124, ⟨Lc1124, hQ1124, l1124, y1124, z1124⟩, st1124⟩ := Jvm.LawKit.callS X1117 hx (y := (⟨"com/example/sealgrant/sealgrant/Ascii", "printable", "(Ljava/lang/String;)Z"⟩ : MethodName)) hown (mvT hZ (w28_ hw)) (mvT hZ (w29_ hw)) (mvT hZ (w30_ hw)) (mvT hZ (w31_ hw)) (by decide) (backOf (W := 0) (rm5_1 l Z a0 hw [] b1110 cs c0 ff T1110.heap n0 Z1110 S_1111 hcs S_1112 S_1113 S_1114 S_1115 isr_ff HS1110) hZ (w31_ hw) (w30_ hw) (by decide) (by decide)) (g := (mkF m 117 #[vI x0, vI x1, vI x2, vI x3, vI x4, vI (1 : Int32), vI c0, vI c1, vI c2, vI c3, vR b1110, vI (1 : Int32)] [(.ref b1110)])) rfl (by rw [hml]; rfl) (argsL := [(.ref b1110)]) (rest := []) (lenOf pd_18 rfl) rfl (by show 2 * 0 + _ ≤ _; exact Nat.le_of_eq rfl) (hb hby at_117) (fun _ _ => ⟨rfl, e1117, (by decide : 4 + 0 ≤ _), (by decide : 8 + 0 ≤ _)⟩)
      dsimp only [Pt.U, Pt.locs, Pt.cells, Pt.slots] at X1124 l1124 y1124 z1124 st1124 hQ1124
      subst l1124 y1124 z1124
      obtain ⟨hq1124, N1124q, e1124⟩ := hQ1124
      have hq1124 : rv1124 = some (.int (own_pr [c0])) := hq1124
      subst hq1124
      have N1124 := Fr.app N1117 N1124q
      refine GlW.st (g' := (mkF m 120 #[vI x0, vI x1, vI x2, vI x3, vI x4, vI (1 : Int32), vI c0, vI c1, vI c2, vI c3, vR b1110, vI (1 : Int32)] [(.int (own_pr [c0]))])) (fun τ κ => st1124 _ κ) ?_
      refine GlW.st (g' := (mkF m 122 #[vI x0, vI x1, vI x2, vI x3, vI x4, vI (1 : Int32), vI c0, vI c1, vI c2, vI c3, vR b1110, vI (1 : Int32)] [(.int (1 : Int32)), (.int (own_pr [c0]))])) (fun τ κ => XS.iload X1124.here hx rfl (hb hby at_120) rfl κ) ?_
      have hc1125 : (own_pr [c0]) = (1 : Int32) := by simp only [own_pr_cons, own_pr_nil, hc1118, if_true, if_false]
      refine GlW.st (g' := (mkF m 126 #[vI x0, vI x1, vI x2, vI x3, vI x4, vI (1 : Int32), vI c0, vI c1, vI c2, vI c3, vR b1110, vI (1 : Int32)] [(.int (1 : Int32))])) (fun τ κ => XS.icmpNo X1124.here hx rfl (hb hby at_122) rfl (teq hc1125).2 (XS.iconst X1124.here hx rfl (hb hby at_125) κ)) ?_
      refine GlW.st (g' := (mkF m 130 #[vI x0, vI x1, vI x2, vI x3, vI x4, vI (1 : Int32), vI c0, vI c1, vI c2, vI c3, vR b1110, vI (1 : Int32)] [(.int (1 : Int32))])) (fun τ κ => XS.goto X1124.here hx rfl (pc0 := 126) (pc' := 130) rfl (hb hby at_126) (by decide) (by decide) κ) ?_
      exact GlW.ret hS0 hk1110 (v := some (.int (1 : Int32))) X1124 Bd.notSynchronized (fun h => by rw [Bd.returns] at h; cases h) e1124 (fun fs hr => retN X1124 hx (t := .boolean) Bd.returns (by simp) (hb hby at_130) hr) (by decide) (by decide) ⟨rfl, N1124⟩
  · rw [hs1097]
    obtain ⟨rv1126, _, ⟨T1126, L1126, k1126, n1126⟩, -, X1126, ⟨Lc1126, hQ1126, l1126, y1126, z1126⟩, st1126⟩ := Jvm.LawKit.callS X0 hx (y := (⟨"com/example/sealgrant/sealgrant/AsciiPrintablePinLaw", "make", "(ICCCC)Ljava/lang/String;"⟩ : MethodName)) hown (mvT hZ (w2_ hw)) (mvT hZ (w3_ hw)) (mvT hZ (w4_ hw)) (mvT hZ (w5_ hw)) (by decide) (backOf (W := 0) (rm1_2 l Z a0 hw [] c0 c1 c2 c3 cs h0 n0 Z0 S0 hcs SA SH SL f0 f1 f2 f3) hZ (w5_ hw) (w4_ hw) (by decide) (by decide)) (g := (mkF m 47 #[vI x0, vI x1, vI x2, vI x3, vI x4, vI (2 : Int32), vI c0, vI c1, vI c2, vI c3, .unset, .unset] [(.int c3), (.int c2), (.int c1), (.int c0), (.int (2 : Int32))])) rfl (by rw [hml]; rfl) (argsL := [(.int (2 : Int32)), (.int c0), (.int c1), (.int c2), (.int c3)]) (rest := []) (lenOf pd_17 rfl) rfl (by show 2 * 0 + _ ≤ _; exact Nat.le_of_eq rfl) (hb hby at_47) (fun _ _ => ⟨rfl, e0, (by decide : 0 + 4 ≤ _), (by decide : 0 + 12 ≤ _)⟩)
    dsimp only [Pt.U, Pt.locs, Pt.cells, Pt.slots] at X1126 l1126 y1126 z1126 st1126 hQ1126
    subst l1126 y1126 z1126
    obtain ⟨b1126, rfl, N1126q, Kc1126, HS1126⟩ := hQ1126
    have S_1127 := Sta.keepX S0 Kc1126 all0
    have S_1128 := Sta.keepX SA Kc1126 all0
    have S_1129 := Sta.keepX SH Kc1126 all0
    have S_1130 := Sta.keepX SL Kc1126 all0
    have S_1131 := Sta.keepX SF Kc1126 all0
    have hk1126 := Nat.le_trans (Nat.zero_le _) Kc1126.1
    have N1126 := Fr.app N0 N1126q
    have Z1126 : n0 ≤ T1126.heap.size := Nat.le_trans Z0 Kc1126.1
    have K1126 : Keep h0 T1126.heap [] := (Keep.refl h0 []).trans Kc1126 all0
    refine GlW.st (g' := (mkF m 50 #[vI x0, vI x1, vI x2, vI x3, vI x4, vI (2 : Int32), vI c0, vI c1, vI c2, vI c3, .unset, .unset] [(.ref b1126)])) (fun τ κ => st1126 _ κ) ?_
    refine GlW.st (g' := (mkF m 54 #[vI x0, vI x1, vI x2, vI x3, vI x4, vI (2 : Int32), vI c0, vI c1, vI c2, vI c3, vR b1126, .unset] [(.int (2 : Int32))])) (fun τ κ => XS.astore X1126.here hx rfl (hb hby at_50) rfl rfl (l' := #[vI x0, vI x1, vI x2, vI x3, vI x4, vI (2 : Int32), vI c0, vI c1, vI c2, vI c3, vR b1126, .unset]) rfl (XS.iload X1126.here hx rfl (hb hby at_52) rfl κ)) ?_
    refine GlW.st (g' := (mkF m 55 #[vI x0, vI x1, vI x2, vI x3, vI x4, vI (2 : Int32), vI c0, vI c1, vI c2, vI c3, vR b1126, .unset] [(.int (1 : Int32)), (.int (2 : Int32))])) (fun τ κ => XS.iconst X1126.here hx rfl (hb hby at_54) κ) ?_
    have hc1132 : ¬ ((2 : Int32) < (1 : Int32)) := by decide
    refine GlW.st (g' := (mkF m 60 #[vI x0, vI x1, vI x2, vI x3, vI x4, vI (2 : Int32), vI c0, vI c1, vI c2, vI c3, vR b1126, .unset] [(.int c0)])) (fun τ κ => XS.icmpNo X1126.here hx rfl (hb hby at_55) rfl (flt hc1132).1 (XS.iload X1126.here hx rfl (hb hby at_58) rfl κ)) ?_
    obtain ⟨rv1133, _, ⟨T1133, L1133, k1133, n1133⟩, -, X1133, ⟨Lc1133, hQ1133, l1133, y1133, z1133⟩, st1133⟩ := Jvm.LawKit.callS X1126 hx (y := (⟨"com/example/sealgrant/sealgrant/AsciiPrintablePinLaw", "ok", "(C)Z"⟩ : MethodName)) hown (mvT hZ (w53_ hw)) (mvT hZ (w54_ hw)) (mvT hZ (w4_ hw)) (mvT hZ (w55_ hw)) (by decide) (backOf (W := 0) (rm11 l Z a0 hw [] c0 T1126.heap n0 Z1126 ) hZ (w55_ hw) (w4_ hw) (by decide) (by decide)) (g := (mkF m 60 #[vI x0, vI x1, vI x2, vI x3, vI x4, vI (2 : Int32), vI c0, vI c1, vI c2, vI c3, vR b1126, .unset] [(.int c0)])) rfl (by rw [hml]; rfl) (argsL := [(.int c0)]) (rest := []) (lenOf pd_19 rfl) rfl (by show 2 * 0 + _ ≤ _; exact Nat.le_of_eq rfl) (hb hby at_60) (fun _ _ => ⟨rfl, rfl, (by decide : 4 + 0 ≤ _), (by decide : 12 + 0 ≤ _)⟩)
    dsimp only [Pt.U, Pt.locs, Pt.cells, Pt.slots] at X1133 l1133 y1133 z1133 st1133 hQ1133
    subst l1133 y1133 z1133
    obtain ⟨rfl, N1133q, e1133⟩ := hQ1133
    have N1133 := Fr.app N1126 N1133q
    refine GlW.st (g' := (mkF m 63 #[vI x0, vI x1, vI x2, vI x3, vI x4, vI (2 : Int32), vI c0, vI c1, vI c2, vI c3, vR b1126, .unset] [(.int (own_okc c0))])) (fun τ κ => st1133 _ κ) ?_
    by_cases hc1134 : (own_okc c0) = (0 : Int32)
    · -- pc 63: (own_okc c0) = (0 : Int32)
      refine GlW.st (g' := (mkF m 113 #[vI x0, vI x1, vI x2, vI x3, vI x4, vI (2 : Int32), vI c0, vI c1, vI c2, vI c3, vR b1126, .unset] [(.int (0 : Int32))])) (fun τ κ => XS.ifYes X1133.here hx rfl (pc0 := 63) (pc' := 112) rfl (hb hby at_63) rfl ((if0 _ _).trans (teq hc1134).1) (by decide) (by decide) (XS.iconst X1133.here hx rfl (hb hby at_112) κ)) ?_
      refine GlW.st (g' := (mkF m 117 #[vI x0, vI x1, vI x2, vI x3, vI x4, vI (2 : Int32), vI c0, vI c1, vI c2, vI c3, vR b1126, vI (0 : Int32)] [(.ref b1126)])) (fun τ κ => XS.istore X1133.here hx rfl (hb hby at_113) rfl (l' := #[vI x0, vI x1, vI x2, vI x3, vI x4, vI (2 : Int32), vI c0, vI c1, vI c2, vI c3, vR b1126, vI (0 : Int32)]) rfl (XS.aload X1133.here hx rfl (hb hby at_115) rfl rfl κ)) ?_
      obtain ⟨rv1135, _, ⟨T1135, L1135, k1135, n1135⟩, -, X1135, ⟨Lc1135, hQ1135, l1135, y1135, z1135⟩, st1135⟩ := Jvm.LawKit.callS X1133 hx (y := (⟨"com/example/sealgrant/sealgrant/Ascii", "printable", "(Ljava/lang/String;)Z"⟩ : MethodName)) hown (mvT hZ (w28_ hw)) (mvT hZ (w29_ hw)) (mvT hZ (w30_ hw)) (mvT hZ (w31_ hw)) (by decide) (backOf (W := 0) (rm5_2 l Z a0 hw [] b1126 cs c0 c1 ff T1126.heap n0 Z1126 S_1127 hcs S_1128 S_1129 S_1130 S_1131 isr_ff HS1126) hZ (w31_ hw) (w30_ hw) (by decide) (by decide)) (g := (mkF m 117 #[vI x0, vI x1, vI x2, vI x3, vI x4, vI (2 : Int32), vI c0, vI c1, vI c2, vI c3, vR b1126, vI (0 : Int32)] [(.ref b1126)])) rfl (by rw [hml]; rfl) (argsL := [(.ref b1126)]) (rest := []) (lenOf pd_18 rfl) rfl (by show 2 * 0 + _ ≤ _; exact Nat.le_of_eq rfl) (hb hby at_117) (fun _ _ => ⟨rfl, e1133, (by decide : 4 + 0 ≤ _), (by decide : 12 + 0 ≤ _)⟩)
      dsimp only [Pt.U, Pt.locs, Pt.cells, Pt.slots] at X1135 l1135 y1135 z1135 st1135 hQ1135
      subst l1135 y1135 z1135
      obtain ⟨hq1135, N1135q, e1135⟩ := hQ1135
      have hq1135 : rv1135 = some (.int (own_pr [c0, c1])) := hq1135
      subst hq1135
      have N1135 := Fr.app N1133 N1135q
      refine GlW.st (g' := (mkF m 120 #[vI x0, vI x1, vI x2, vI x3, vI x4, vI (2 : Int32), vI c0, vI c1, vI c2, vI c3, vR b1126, vI (0 : Int32)] [(.int (own_pr [c0, c1]))])) (fun τ κ => st1135 _ κ) ?_
      refine GlW.st (g' := (mkF m 122 #[vI x0, vI x1, vI x2, vI x3, vI x4, vI (2 : Int32), vI c0, vI c1, vI c2, vI c3, vR b1126, vI (0 : Int32)] [(.int (0 : Int32)), (.int (own_pr [c0, c1]))])) (fun τ κ => XS.iload X1135.here hx rfl (hb hby at_120) rfl κ) ?_
      have hc1136 : (own_pr [c0, c1]) = (0 : Int32) := by simp only [own_pr_cons, own_pr_nil, hc1134, if_true, if_false]
      refine GlW.st (g' := (mkF m 126 #[vI x0, vI x1, vI x2, vI x3, vI x4, vI (2 : Int32), vI c0, vI c1, vI c2, vI c3, vR b1126, vI (0 : Int32)] [(.int (1 : Int32))])) (fun τ κ => XS.icmpNo X1135.here hx rfl (hb hby at_122) rfl (teq hc1136).2 (XS.iconst X1135.here hx rfl (hb hby at_125) κ)) ?_
      refine GlW.st (g' := (mkF m 130 #[vI x0, vI x1, vI x2, vI x3, vI x4, vI (2 : Int32), vI c0, vI c1, vI c2, vI c3, vR b1126, vI (0 : Int32)] [(.int (1 : Int32))])) (fun τ κ => XS.goto X1135.here hx rfl (pc0 := 126) (pc' := 130) rfl (hb hby at_126) (by decide) (by decide) κ) ?_
      exact GlW.ret hS0 hk1126 (v := some (.int (1 : Int32))) X1135 Bd.notSynchronized (fun h => by rw [Bd.returns] at h; cases h) e1135 (fun fs hr => retN X1135 hx (t := .boolean) Bd.returns (by simp) (hb hby at_130) hr) (by decide) (by decide) ⟨rfl, N1135⟩
    · -- pc 63: not (own_okc c0) = (0 : Int32)
      refine GlW.st (g' := (mkF m 68 #[vI x0, vI x1, vI x2, vI x3, vI x4, vI (2 : Int32), vI c0, vI c1, vI c2, vI c3, vR b1126, .unset] [(.int (2 : Int32))])) (fun τ κ => XS.ifNo X1133.here hx rfl (hb hby at_63) rfl ((if0 _ _).trans (feq hc1134).1) (XS.iload X1133.here hx rfl (hb hby at_66) rfl κ)) ?_
      refine GlW.st (g' := (mkF m 69 #[vI x0, vI x1, vI x2, vI x3, vI x4, vI (2 : Int32), vI c0, vI c1, vI c2, vI c3, vR b1126, .unset] [(.int (2 : Int32)), (.int (2 : Int32))])) (fun τ κ => XS.iconst X1133.here hx rfl (hb hby at_68) κ) ?_
      have hc1137 : ¬ ((2 : Int32) < (2 : Int32)) := by decide
      refine GlW.st (g' := (mkF m 74 #[vI x0, vI x1, vI x2, vI x3, vI x4, vI (2 : Int32), vI c0, vI c1, vI c2, vI c3, vR b1126, .unset] [(.int c1)])) (fun τ κ => XS.icmpNo X1133.here hx rfl (hb hby at_69) rfl (flt hc1137).1 (XS.iload X1133.here hx rfl (hb hby at_72) rfl κ)) ?_
      obtain ⟨rv1138, _, ⟨T1138, L1138, k1138, n1138⟩, -, X1138, ⟨Lc1138, hQ1138, l1138, y1138, z1138⟩, st1138⟩ := Jvm.LawKit.callS X1133 hx (y := (⟨"com/example/sealgrant/sealgrant/AsciiPrintablePinLaw", "ok", "(C)Z"⟩ : MethodName)) hown (mvT hZ (w53_ hw)) (mvT hZ (w54_ hw)) (mvT hZ (w4_ hw)) (mvT hZ (w55_ hw)) (by decide) (backOf (W := 0) (rm11 l Z a0 hw [] c1 T1126.heap n0 Z1126 ) hZ (w55_ hw) (w4_ hw) (by decide) (by decide)) (g := (mkF m 74 #[vI x0, vI x1, vI x2, vI x3, vI x4, vI (2 : Int32), vI c0, vI c1, vI c2, vI c3, vR b1126, .unset] [(.int c1)])) rfl (by rw [hml]; rfl) (argsL := [(.int c1)]) (rest := []) (lenOf pd_19 rfl) rfl (by show 2 * 0 + _ ≤ _; exact Nat.le_of_eq rfl) (hb hby at_74) (fun _ _ => ⟨rfl, e1133, (by decide : 4 + 0 ≤ _), (by decide : 12 + 0 ≤ _)⟩)
      dsimp only [Pt.U, Pt.locs, Pt.cells, Pt.slots] at X1138 l1138 y1138 z1138 st1138 hQ1138
      subst l1138 y1138 z1138
      obtain ⟨rfl, N1138q, e1138⟩ := hQ1138
      have N1138 := Fr.app N1133 N1138q
      refine GlW.st (g' := (mkF m 77 #[vI x0, vI x1, vI x2, vI x3, vI x4, vI (2 : Int32), vI c0, vI c1, vI c2, vI c3, vR b1126, .unset] [(.int (own_okc c1))])) (fun τ κ => st1138 _ κ) ?_
      by_cases hc1139 : (own_okc c1) = (0 : Int32)
      · -- pc 77: (own_okc c1) = (0 : Int32)
        refine GlW.st (g' := (mkF m 113 #[vI x0, vI x1, vI x2, vI x3, vI x4, vI (2 : Int32), vI c0, vI c1, vI c2, vI c3, vR b1126, .unset] [(.int (0 : Int32))])) (fun τ κ => XS.ifYes X1138.here hx rfl (pc0 := 77) (pc' := 112) rfl (hb hby at_77) rfl ((if0 _ _).trans (teq hc1139).1) (by decide) (by decide) (XS.iconst X1138.here hx rfl (hb hby at_112) κ)) ?_
        refine GlW.st (g' := (mkF m 117 #[vI x0, vI x1, vI x2, vI x3, vI x4, vI (2 : Int32), vI c0, vI c1, vI c2, vI c3, vR b1126, vI (0 : Int32)] [(.ref b1126)])) (fun τ κ => XS.istore X1138.here hx rfl (hb hby at_113) rfl (l' := #[vI x0, vI x1, vI x2, vI x3, vI x4, vI (2 : Int32), vI c0, vI c1, vI c2, vI c3, vR b1126, vI (0 : Int32)]) rfl (XS.aload X1138.here hx rfl (hb hby at_115) rfl rfl κ)) ?_
        obtain ⟨rv1140, _, ⟨T1140, L1140, k1140, n1140⟩, -, X1140, ⟨Lc1140, hQ1140, l1140, y1140, z1140⟩, st1140⟩ := Jvm.LawKit.callS X1138 hx (y := (⟨"com/example/sealgrant/sealgrant/Ascii", "printable", "(Ljava/lang/String;)Z"⟩ : MethodName)) hown (mvT hZ (w28_ hw)) (mvT hZ (w29_ hw)) (mvT hZ (w30_ hw)) (mvT hZ (w31_ hw)) (by decide) (backOf (W := 0) (rm5_2 l Z a0 hw [] b1126 cs c0 c1 ff T1126.heap n0 Z1126 S_1127 hcs S_1128 S_1129 S_1130 S_1131 isr_ff HS1126) hZ (w31_ hw) (w30_ hw) (by decide) (by decide)) (g := (mkF m 117 #[vI x0, vI x1, vI x2, vI x3, vI x4, vI (2 : Int32), vI c0, vI c1, vI c2, vI c3, vR b1126, vI (0 : Int32)] [(.ref b1126)])) rfl (by rw [hml]; rfl) (argsL := [(.ref b1126)]) (rest := []) (lenOf pd_18 rfl) rfl (by show 2 * 0 + _ ≤ _; exact Nat.le_of_eq rfl) (hb hby at_117) (fun _ _ => ⟨rfl, e1138, (by decide : 4 + 0 ≤ _), (by decide : 12 + 0 ≤ _)⟩)
        dsimp only [Pt.U, Pt.locs, Pt.cells, Pt.slots] at X1140 l1140 y1140 z1140 st1140 hQ1140
        subst l1140 y1140 z1140
        obtain ⟨hq1140, N1140q, e1140⟩ := hQ1140
        have hq1140 : rv1140 = some (.int (own_pr [c0, c1])) := hq1140
        subst hq1140
        have N1140 := Fr.app N1138 N1140q
        refine GlW.st (g' := (mkF m 120 #[vI x0, vI x1, vI x2, vI x3, vI x4, vI (2 : Int32), vI c0, vI c1, vI c2, vI c3, vR b1126, vI (0 : Int32)] [(.int (own_pr [c0, c1]))])) (fun τ κ => st1140 _ κ) ?_
        refine GlW.st (g' := (mkF m 122 #[vI x0, vI x1, vI x2, vI x3, vI x4, vI (2 : Int32), vI c0, vI c1, vI c2, vI c3, vR b1126, vI (0 : Int32)] [(.int (0 : Int32)), (.int (own_pr [c0, c1]))])) (fun τ κ => XS.iload X1140.here hx rfl (hb hby at_120) rfl κ) ?_
        have hc1141 : (own_pr [c0, c1]) = (0 : Int32) := by simp only [own_pr_cons, own_pr_nil, hc1134, hc1139, if_true, if_false]
        refine GlW.st (g' := (mkF m 126 #[vI x0, vI x1, vI x2, vI x3, vI x4, vI (2 : Int32), vI c0, vI c1, vI c2, vI c3, vR b1126, vI (0 : Int32)] [(.int (1 : Int32))])) (fun τ κ => XS.icmpNo X1140.here hx rfl (hb hby at_122) rfl (teq hc1141).2 (XS.iconst X1140.here hx rfl (hb hby at_125) κ)) ?_
        refine GlW.st (g' := (mkF m 130 #[vI x0, vI x1, vI x2, vI x3, vI x4, vI (2 : Int32), vI c0, vI c1, vI c2, vI c3, vR b1126, vI (0 : Int32)] [(.int (1 : Int32))])) (fun τ κ => XS.goto X1140.here hx rfl (pc0 := 126) (pc' := 130) rfl (hb hby at_126) (by decide) (by decide) κ) ?_
        exact GlW.ret hS0 hk1126 (v := some (.int (1 : Int32))) X1140 Bd.notSynchronized (fun h => by rw [Bd.returns] at h; cases h) e1140 (fun fs hr => retN X1140 hx (t := .boolean) Bd.returns (by simp) (hb hby at_130) hr) (by decide) (by decide) ⟨rfl, N1140⟩
      · -- pc 77: not (own_okc c1) = (0 : Int32)
        refine GlW.st (g' := (mkF m 82 #[vI x0, vI x1, vI x2, vI x3, vI x4, vI (2 : Int32), vI c0, vI c1, vI c2, vI c3, vR b1126, .unset] [(.int (2 : Int32))])) (fun τ κ => XS.ifNo X1138.here hx rfl (hb hby at_77) rfl ((if0 _ _).trans (feq hc1139).1) (XS.iload X1138.here hx rfl (hb hby at_80) rfl κ)) ?_
        refine GlW.st (g' := (mkF m 83 #[vI x0, vI x1, vI x2, vI x3, vI x4, vI (2 : Int32), vI c0, vI c1, vI c2, vI c3, vR b1126, .unset] [(.int (3 : Int32)), (.int (2 : Int32))])) (fun τ κ => XS.iconst X1138.here hx rfl (hb hby at_82) κ) ?_
        have hc1142 : (2 : Int32) < (3 : Int32) := by decide
        refine GlW.st (g' := (mkF m 96 #[vI x0, vI x1, vI x2, vI x3, vI x4, vI (2 : Int32), vI c0, vI c1, vI c2, vI c3, vR b1126, .unset] [(.int (2 : Int32))])) (fun τ κ => XS.icmpYes X1138.here hx rfl (pc0 := 83) (pc' := 94) rfl (hb hby at_83) rfl (tlt hc1142).1 (by decide) (by decide) (XS.iload X1138.here hx rfl (hb hby at_94) rfl κ)) ?_
        refine GlW.st (g' := (mkF m 97 #[vI x0, vI x1, vI x2, vI x3, vI x4, vI (2 : Int32), vI c0, vI c1, vI c2, vI c3, vR b1126, .unset] [(.int (4 : Int32)), (.int (2 : Int32))])) (fun τ κ => XS.iconst X1138.here hx rfl (hb hby at_96) κ) ?_
        have hc1143 : (2 : Int32) < (4 : Int32) := by decide
        refine GlW.st (g' := (mkF m 109 #[vI x0, vI x1, vI x2, vI x3, vI x4, vI (2 : Int32), vI c0, vI c1, vI c2, vI c3, vR b1126, .unset] [(.int (1 : Int32))])) (fun τ κ => XS.icmpYes X1138.here hx rfl (pc0 := 97) (pc' := 108) rfl (hb hby at_97) rfl (tlt hc1143).1 (by decide) (by decide) (XS.iconst X1138.here hx rfl (hb hby at_108) κ)) ?_
        refine GlW.st (g' := (mkF m 115 #[vI x0, vI x1, vI x2, vI x3, vI x4, vI (2 : Int32), vI c0, vI c1, vI c2, vI c3, vR b1126, vI (1 : Int32)] [])) (fun τ κ => XS.goto X1138.here hx rfl (pc0 := 109) (pc' := 113) rfl (hb hby at_109) (by decide) (by decide) (XS.istore X1138.here hx rfl (hb hby at_113) rfl (l' := #[vI x0, vI x1, vI x2, vI x3, vI x4, vI (2 : Int32), vI c0, vI c1, vI c2, vI c3, vR b1126, vI (1 : Int32)]) rfl κ)) ?_
        refine GlW.st (g' := (mkF m 117 #[vI x0, vI x1, vI x2, vI x3, vI x4, vI (2 : Int32), vI c0, vI c1, vI c2, vI c3, vR b1126, vI (1 : Int32)] [(.ref b1126)])) (fun τ κ => XS.aload X1138.here hx rfl (hb hby at_115) rfl rfl κ) ?_
        obtain ⟨rv1144, _, ⟨T1144, L1144, k1144, n1144⟩, -, X1144, ⟨Lc1144, hQ1144, l1144, y1144, z1144⟩, st1144⟩ := Jvm.LawKit.callS X1138 hx (y := (⟨"com/example/sealgrant/sealgrant/Ascii", "printable", "(Ljava/lang/String;)Z"⟩ : MethodName)) hown (mvT hZ (w28_ hw)) (mvT hZ (w29_ hw)) (mvT hZ (w30_ hw)) (mvT hZ (w31_ hw)) (by decide) (backOf (W := 0) (rm5_2 l Z a0 hw [] b1126 cs c0 c1 ff T1126.heap n0 Z1126 S_1127 hcs S_1128 S_1129 S_1130 S_1131 isr_ff HS1126) hZ (w31_ hw) (w30_ hw) (by decide) (by decide)) (g := (mkF m 117 #[vI x0, vI x1, vI x2, vI x3, vI x4, vI (2 : Int32), vI c0, vI c1, vI c2, vI c3, vR b1126, vI (1 : Int32)] [(.ref b1126)])) rfl (by rw [hml]; rfl) (argsL := [(.ref b1126)]) (rest := []) (lenOf pd_18 rfl) rfl (by show 2 * 0 + _ ≤ _; exact Nat.le_of_eq rfl) (hb hby at_117) (fun _ _ => ⟨rfl, e1138, (by decide : 4 + 0 ≤ _), (by decide : 12 + 0 ≤ _)⟩)
        dsimp only [Pt.U, Pt.locs, Pt.cells, Pt.slots] at X1144 l1144 y1144 z1144 st1144 hQ1144
        subst l1144 y1144 z1144
        obtain ⟨hq1144, N1144q, e1144⟩ := hQ1144
        have hq1144 : rv1144 = some (.int (own_pr [c0, c1])) := hq1144
        subst hq1144
        have N1144 := Fr.app N1138 N1144q
        refine GlW.st (g' := (mkF m 120 #[vI x0, vI x1, vI x2, vI x3, vI x4, vI (2 : Int32), vI c0, vI c1, vI c2, vI c3, vR b1126, vI (1 : Int32)] [(.int (own_pr [c0, c1]))])) (fun τ κ => st1144 _ κ) ?_
        refine GlW.st (g' := (mkF m 122 #[vI x0, vI x1, vI x2, vI x3, vI x4, vI (2 : Int32), vI c0, vI c1, vI c2, vI c3, vR b1126, vI (1 : Int32)] [(.int (1 : Int32)), (.int (own_pr [c0, c1]))])) (fun τ κ => XS.iload X1144.here hx rfl (hb hby at_120) rfl κ) ?_
        have hc1145 : (own_pr [c0, c1]) = (1 : Int32) := by simp only [own_pr_cons, own_pr_nil, hc1134, hc1139, if_true, if_false]
        refine GlW.st (g' := (mkF m 126 #[vI x0, vI x1, vI x2, vI x3, vI x4, vI (2 : Int32), vI c0, vI c1, vI c2, vI c3, vR b1126, vI (1 : Int32)] [(.int (1 : Int32))])) (fun τ κ => XS.icmpNo X1144.here hx rfl (hb hby at_122) rfl (teq hc1145).2 (XS.iconst X1144.here hx rfl (hb hby at_125) κ)) ?_
        refine GlW.st (g' := (mkF m 130 #[vI x0, vI x1, vI x2, vI x3, vI x4, vI (2 : Int32), vI c0, vI c1, vI c2, vI c3, vR b1126, vI (1 : Int32)] [(.int (1 : Int32))])) (fun τ κ => XS.goto X1144.here hx rfl (pc0 := 126) (pc' := 130) rfl (hb hby at_126) (by decide) (by decide) κ) ?_
        exact GlW.ret hS0 hk1126 (v := some (.int (1 : Int32))) X1144 Bd.notSynchronized (fun h => by rw [Bd.returns] at h; cases h) e1144 (fun fs hr => retN X1144 hx (t := .boolean) Bd.returns (by simp) (hb hby at_130) hr) (by decide) (by decide) ⟨rfl, N1144⟩
  · rw [hs1097]
    obtain ⟨rv1146, _, ⟨T1146, L1146, k1146, n1146⟩, -, X1146, ⟨Lc1146, hQ1146, l1146, y1146, z1146⟩, st1146⟩ := Jvm.LawKit.callS X0 hx (y := (⟨"com/example/sealgrant/sealgrant/AsciiPrintablePinLaw", "make", "(ICCCC)Ljava/lang/String;"⟩ : MethodName)) hown (mvT hZ (w2_ hw)) (mvT hZ (w3_ hw)) (mvT hZ (w4_ hw)) (mvT hZ (w5_ hw)) (by decide) (backOf (W := 0) (rm1_3 l Z a0 hw [] c0 c1 c2 c3 cs h0 n0 Z0 S0 hcs SA SH SL f0 f1 f2 f3) hZ (w5_ hw) (w4_ hw) (by decide) (by decide)) (g := (mkF m 47 #[vI x0, vI x1, vI x2, vI x3, vI x4, vI (3 : Int32), vI c0, vI c1, vI c2, vI c3, .unset, .unset] [(.int c3), (.int c2), (.int c1), (.int c0), (.int (3 : Int32))])) rfl (by rw [hml]; rfl) (argsL := [(.int (3 : Int32)), (.int c0), (.int c1), (.int c2), (.int c3)]) (rest := []) (lenOf pd_17 rfl) rfl (by show 2 * 0 + _ ≤ _; exact Nat.le_of_eq rfl) (hb hby at_47) (fun _ _ => ⟨rfl, e0, (by decide : 0 + 4 ≤ _), (by decide : 0 + 16 ≤ _)⟩)
    dsimp only [Pt.U, Pt.locs, Pt.cells, Pt.slots] at X1146 l1146 y1146 z1146 st1146 hQ1146
    subst l1146 y1146 z1146
    obtain ⟨b1146, rfl, N1146q, Kc1146, HS1146⟩ := hQ1146
    have S_1147 := Sta.keepX S0 Kc1146 all0
    have S_1148 := Sta.keepX SA Kc1146 all0
    have S_1149 := Sta.keepX SH Kc1146 all0
    have S_1150 := Sta.keepX SL Kc1146 all0
    have S_1151 := Sta.keepX SF Kc1146 all0
    have hk1146 := Nat.le_trans (Nat.zero_le _) Kc1146.1
    have N1146 := Fr.app N0 N1146q
    have Z1146 : n0 ≤ T1146.heap.size := Nat.le_trans Z0 Kc1146.1
    have K1146 : Keep h0 T1146.heap [] := (Keep.refl h0 []).trans Kc1146 all0
    refine GlW.st (g' := (mkF m 50 #[vI x0, vI x1, vI x2, vI x3, vI x4, vI (3 : Int32), vI c0, vI c1, vI c2, vI c3, .unset, .unset] [(.ref b1146)])) (fun τ κ => st1146 _ κ) ?_
    refine GlW.st (g' := (mkF m 54 #[vI x0, vI x1, vI x2, vI x3, vI x4, vI (3 : Int32), vI c0, vI c1, vI c2, vI c3, vR b1146, .unset] [(.int (3 : Int32))])) (fun τ κ => XS.astore X1146.here hx rfl (hb hby at_50) rfl rfl (l' := #[vI x0, vI x1, vI x2, vI x3, vI x4, vI (3 : Int32), vI c0, vI c1, vI c2, vI c3, vR b1146, .unset]) rfl (XS.iload X1146.here hx rfl (hb hby at_52) rfl κ)) ?_
    refine GlW.st (g' := (mkF m 55 #[vI x0, vI x1, vI x2, vI x3, vI x4, vI (3 : Int32), vI c0, vI c1, vI c2, vI c3, vR b1146, .unset] [(.int (1 : Int32)), (.int (3 : Int32))])) (fun τ κ => XS.iconst X1146.here hx rfl (hb hby at_54) κ) ?_
    have hc1152 : ¬ ((3 : Int32) < (1 : Int32)) := by decide
    refine GlW.st (g' := (mkF m 60 #[vI x0, vI x1, vI x2, vI x3, vI x4, vI (3 : Int32), vI c0, vI c1, vI c2, vI c3, vR b1146, .unset] [(.int c0)])) (fun τ κ => XS.icmpNo X1146.here hx rfl (hb hby at_55) rfl (flt hc1152).1 (XS.iload X1146.here hx rfl (hb hby at_58) rfl κ)) ?_
    obtain ⟨rv1153, _, ⟨T1153, L1153, k1153, n1153⟩, -, X1153, ⟨Lc1153, hQ1153, l1153, y1153, z1153⟩, st1153⟩ := Jvm.LawKit.callS X1146 hx (y := (⟨"com/example/sealgrant/sealgrant/AsciiPrintablePinLaw", "ok", "(C)Z"⟩ : MethodName)) hown (mvT hZ (w53_ hw)) (mvT hZ (w54_ hw)) (mvT hZ (w4_ hw)) (mvT hZ (w55_ hw)) (by decide) (backOf (W := 0) (rm11 l Z a0 hw [] c0 T1146.heap n0 Z1146 ) hZ (w55_ hw) (w4_ hw) (by decide) (by decide)) (g := (mkF m 60 #[vI x0, vI x1, vI x2, vI x3, vI x4, vI (3 : Int32), vI c0, vI c1, vI c2, vI c3, vR b1146, .unset] [(.int c0)])) rfl (by rw [hml]; rfl) (argsL := [(.int c0)]) (rest := []) (lenOf pd_19 rfl) rfl (by show 2 * 0 + _ ≤ _; exact Nat.le_of_eq rfl) (hb hby at_60) (fun _ _ => ⟨rfl, rfl, (by decide : 4 + 0 ≤ _), (by decide : 16 + 0 ≤ _)⟩)
    dsimp only [Pt.U, Pt.locs, Pt.cells, Pt.slots] at X1153 l1153 y1153 z1153 st1153 hQ1153
    subst l1153 y1153 z1153
    obtain ⟨rfl, N1153q, e1153⟩ := hQ1153
    have N1153 := Fr.app N1146 N1153q
    refine GlW.st (g' := (mkF m 63 #[vI x0, vI x1, vI x2, vI x3, vI x4, vI (3 : Int32), vI c0, vI c1, vI c2, vI c3, vR b1146, .unset] [(.int (own_okc c0))])) (fun τ κ => st1153 _ κ) ?_
    by_cases hc1154 : (own_okc c0) = (0 : Int32)
    · -- pc 63: (own_okc c0) = (0 : Int32)
      refine GlW.st (g' := (mkF m 113 #[vI x0, vI x1, vI x2, vI x3, vI x4, vI (3 : Int32), vI c0, vI c1, vI c2, vI c3, vR b1146, .unset] [(.int (0 : Int32))])) (fun τ κ => XS.ifYes X1153.here hx rfl (pc0 := 63) (pc' := 112) rfl (hb hby at_63) rfl ((if0 _ _).trans (teq hc1154).1) (by decide) (by decide) (XS.iconst X1153.here hx rfl (hb hby at_112) κ)) ?_
      refine GlW.st (g' := (mkF m 117 #[vI x0, vI x1, vI x2, vI x3, vI x4, vI (3 : Int32), vI c0, vI c1, vI c2, vI c3, vR b1146, vI (0 : Int32)] [(.ref b1146)])) (fun τ κ => XS.istore X1153.here hx rfl (hb hby at_113) rfl (l' := #[vI x0, vI x1, vI x2, vI x3, vI x4, vI (3 : Int32), vI c0, vI c1, vI c2, vI c3, vR b1146, vI (0 : Int32)]) rfl (XS.aload X1153.here hx rfl (hb hby at_115) rfl rfl κ)) ?_
      obtain ⟨rv1155, _, ⟨T1155, L1155, k1155, n1155⟩, -, X1155, ⟨Lc1155, hQ1155, l1155, y1155, z1155⟩, st1155⟩ := Jvm.LawKit.callS X1153 hx (y := (⟨"com/example/sealgrant/sealgrant/Ascii", "printable", "(Ljava/lang/String;)Z"⟩ : MethodName)) hown (mvT hZ (w28_ hw)) (mvT hZ (w29_ hw)) (mvT hZ (w30_ hw)) (mvT hZ (w31_ hw)) (by decide) (backOf (W := 0) (rm5_3 l Z a0 hw [] b1146 cs c0 c1 c2 ff T1146.heap n0 Z1146 S_1147 hcs S_1148 S_1149 S_1150 S_1151 isr_ff HS1146) hZ (w31_ hw) (w30_ hw) (by decide) (by decide)) (g := (mkF m 117 #[vI x0, vI x1, vI x2, vI x3, vI x4, vI (3 : Int32), vI c0, vI c1, vI c2, vI c3, vR b1146, vI (0 : Int32)] [(.ref b1146)])) rfl (by rw [hml]; rfl) (argsL := [(.ref b1146)]) (rest := []) (lenOf pd_18 rfl) rfl (by show 2 * 0 + _ ≤ _; exact Nat.le_of_eq rfl) (hb hby at_117) (fun _ _ => ⟨rfl, e1153, (by decide : 4 + 0 ≤ _), (by decide : 16 + 0 ≤ _)⟩)
      dsimp only [Pt.U, Pt.locs, Pt.cells, Pt.slots] at X1155 l1155 y1155 z1155 st1155 hQ1155
      subst l1155 y1155 z1155
      obtain ⟨hq1155, N1155q, e1155⟩ := hQ1155
      have hq1155 : rv1155 = some (.int (own_pr [c0, c1, c2])) := hq1155
      subst hq1155
      have N1155 := Fr.app N1153 N1155q
      refine GlW.st (g' := (mkF m 120 #[vI x0, vI x1, vI x2, vI x3, vI x4, vI (3 : Int32), vI c0, vI c1, vI c2, vI c3, vR b1146, vI (0 : Int32)] [(.int (own_pr [c0, c1, c2]))])) (fun τ κ => st1155 _ κ) ?_
      refine GlW.st (g' := (mkF m 122 #[vI x0, vI x1, vI x2, vI x3, vI x4, vI (3 : Int32), vI c0, vI c1, vI c2, vI c3, vR b1146, vI (0 : Int32)] [(.int (0 : Int32)), (.int (own_pr [c0, c1, c2]))])) (fun τ κ => XS.iload X1155.here hx rfl (hb hby at_120) rfl κ) ?_
      have hc1156 : (own_pr [c0, c1, c2]) = (0 : Int32) := by simp only [own_pr_cons, own_pr_nil, hc1154, if_true, if_false]
      refine GlW.st (g' := (mkF m 126 #[vI x0, vI x1, vI x2, vI x3, vI x4, vI (3 : Int32), vI c0, vI c1, vI c2, vI c3, vR b1146, vI (0 : Int32)] [(.int (1 : Int32))])) (fun τ κ => XS.icmpNo X1155.here hx rfl (hb hby at_122) rfl (teq hc1156).2 (XS.iconst X1155.here hx rfl (hb hby at_125) κ)) ?_
      refine GlW.st (g' := (mkF m 130 #[vI x0, vI x1, vI x2, vI x3, vI x4, vI (3 : Int32), vI c0, vI c1, vI c2, vI c3, vR b1146, vI (0 : Int32)] [(.int (1 : Int32))])) (fun τ κ => XS.goto X1155.here hx rfl (pc0 := 126) (pc' := 130) rfl (hb hby at_126) (by decide) (by decide) κ) ?_
      exact GlW.ret hS0 hk1146 (v := some (.int (1 : Int32))) X1155 Bd.notSynchronized (fun h => by rw [Bd.returns] at h; cases h) e1155 (fun fs hr => retN X1155 hx (t := .boolean) Bd.returns (by simp) (hb hby at_130) hr) (by decide) (by decide) ⟨rfl, N1155⟩
    · -- pc 63: not (own_okc c0) = (0 : Int32)
      refine GlW.st (g' := (mkF m 68 #[vI x0, vI x1, vI x2, vI x3, vI x4, vI (3 : Int32), vI c0, vI c1, vI c2, vI c3, vR b1146, .unset] [(.int (3 : Int32))])) (fun τ κ => XS.ifNo X1153.here hx rfl (hb hby at_63) rfl ((if0 _ _).trans (feq hc1154).1) (XS.iload X1153.here hx rfl (hb hby at_66) rfl κ)) ?_
      refine GlW.st (g' := (mkF m 69 #[vI x0, vI x1, vI x2, vI x3, vI x4, vI (3 : Int32), vI c0, vI c1, vI c2, vI c3, vR b1146, .unset] [(.int (2 : Int32)), (.int (3 : Int32))])) (fun τ κ => XS.iconst X1153.here hx rfl (hb hby at_68) κ) ?_
      have hc1157 : ¬ ((3 : Int32) < (2 : Int32)) := by decide
      refine GlW.st (g' := (mkF m 74 #[vI x0, vI x1, vI x2, vI x3, vI x4, vI (3 : Int32), vI c0, vI c1, vI c2, vI c3, vR b1146, .unset] [(.int c1)])) (fun τ κ => XS.icmpNo X1153.here hx rfl (hb hby at_69) rfl (flt hc1157).1 (XS.iload X1153.here hx rfl (hb hby at_72) rfl κ)) ?_
      obtain ⟨rv1158, _, ⟨T1158, L1158, k1158, n1158⟩, -, X1158, ⟨Lc1158, hQ1158, l1158, y1158, z1158⟩, st1158⟩ := Jvm.LawKit.callS X1153 hx (y := (⟨"com/example/sealgrant/sealgrant/AsciiPrintablePinLaw", "ok", "(C)Z"⟩ : MethodName)) hown (mvT hZ (w53_ hw)) (mvT hZ (w54_ hw)) (mvT hZ (w4_ hw)) (mvT hZ (w55_ hw)) (by decide) (backOf (W := 0) (rm11 l Z a0 hw [] c1 T1146.heap n0 Z1146 ) hZ (w55_ hw) (w4_ hw) (by decide) (by decide)) (g := (mkF m 74 #[vI x0, vI x1, vI x2, vI x3, vI x4, vI (3 : Int32), vI c0, vI c1, vI c2, vI c3, vR b1146, .unset] [(.int c1)])) rfl (by rw [hml]; rfl) (argsL := [(.int c1)]) (rest := []) (lenOf pd_19 rfl) rfl (by show 2 * 0 + _ ≤ _; exact Nat.le_of_eq rfl) (hb hby at_74) (fun _ _ => ⟨rfl, e1153, (by decide : 4 + 0 ≤ _), (by decide : 16 + 0 ≤ _)⟩)
      dsimp only [Pt.U, Pt.locs, Pt.cells, Pt.slots] at X1158 l1158 y1158 z1158 st1158 hQ1158
      subst l1158 y1158 z1158
      obtain ⟨rfl, N1158q, e1158⟩ := hQ1158
      have N1158 := Fr.app N1153 N1158q
      refine GlW.st (g' := (mkF m 77 #[vI x0, vI x1, vI x2, vI x3, vI x4, vI (3 : Int32), vI c0, vI c1, vI c2, vI c3, vR b1146, .unset] [(.int (own_okc c1))])) (fun τ κ => st1158 _ κ) ?_
      by_cases hc1159 : (own_okc c1) = (0 : Int32)
      · -- pc 77: (own_okc c1) = (0 : Int32)
        refine GlW.st (g' := (mkF m 113 #[vI x0, vI x1, vI x2, vI x3, vI x4, vI (3 : Int32), vI c0, vI c1, vI c2, vI c3, vR b1146, .unset] [(.int (0 : Int32))])) (fun τ κ => XS.ifYes X1158.here hx rfl (pc0 := 77) (pc' := 112) rfl (hb hby at_77) rfl ((if0 _ _).trans (teq hc1159).1) (by decide) (by decide) (XS.iconst X1158.here hx rfl (hb hby at_112) κ)) ?_
        refine GlW.st (g' := (mkF m 117 #[vI x0, vI x1, vI x2, vI x3, vI x4, vI (3 : Int32), vI c0, vI c1, vI c2, vI c3, vR b1146, vI (0 : Int32)] [(.ref b1146)])) (fun τ κ => XS.istore X1158.here hx rfl (hb hby at_113) rfl (l' := #[vI x0, vI x1, vI x2, vI x3, vI x4, vI (3 : Int32), vI c0, vI c1, vI c2, vI c3, vR b1146, vI (0 : Int32)]) rfl (XS.aload X1158.here hx rfl (hb hby at_115) rfl rfl κ)) ?_
        obtain ⟨rv1160, _, ⟨T1160, L1160, k1160, n1160⟩, -, X1160, ⟨Lc1160, hQ1160, l1160, y1160, z1160⟩, st1160⟩ := Jvm.LawKit.callS X1158 hx (y := (⟨"com/example/sealgrant/sealgrant/Ascii", "printable", "(Ljava/lang/String;)Z"⟩ : MethodName)) hown (mvT hZ (w28_ hw)) (mvT hZ (w29_ hw)) (mvT hZ (w30_ hw)) (mvT hZ (w31_ hw)) (by decide) (backOf (W := 0) (rm5_3 l Z a0 hw [] b1146 cs c0 c1 c2 ff T1146.heap n0 Z1146 S_1147 hcs S_1148 S_1149 S_1150 S_1151 isr_ff HS1146) hZ (w31_ hw) (w30_ hw) (by decide) (by decide)) (g := (mkF m 117 #[vI x0, vI x1, vI x2, vI x3, vI x4, vI (3 : Int32), vI c0, vI c1, vI c2, vI c3, vR b1146, vI (0 : Int32)] [(.ref b1146)])) rfl (by rw [hml]; rfl) (argsL := [(.ref b1146)]) (rest := []) (lenOf pd_18 rfl) rfl (by show 2 * 0 + _ ≤ _; exact Nat.le_of_eq rfl) (hb hby at_117) (fun _ _ => ⟨rfl, e1158, (by decide : 4 + 0 ≤ _), (by decide : 16 + 0 ≤ _)⟩)
        dsimp only [Pt.U, Pt.locs, Pt.cells, Pt.slots] at X1160 l1160 y1160 z1160 st1160 hQ1160
        subst l1160 y1160 z1160
        obtain ⟨hq1160, N1160q, e1160⟩ := hQ1160
        have hq1160 : rv1160 = some (.int (own_pr [c0, c1, c2])) := hq1160
        subst hq1160
        have N1160 := Fr.app N1158 N1160q
        refine GlW.st (g' := (mkF m 120 #[vI x0, vI x1, vI x2, vI x3, vI x4, vI (3 : Int32), vI c0, vI c1, vI c2, vI c3, vR b1146, vI (0 : Int32)] [(.int (own_pr [c0, c1, c2]))])) (fun τ κ => st1160 _ κ) ?_
        refine GlW.st (g' := (mkF m 122 #[vI x0, vI x1, vI x2, vI x3, vI x4, vI (3 : Int32), vI c0, vI c1, vI c2, vI c3, vR b1146, vI (0 : Int32)] [(.int (0 : Int32)), (.int (own_pr [c0, c1, c2]))])) (fun τ κ => XS.iload X1160.here hx rfl (hb hby at_120) rfl κ) ?_
        have hc1161 : (own_pr [c0, c1, c2]) = (0 : Int32) := by simp only [own_pr_cons, own_pr_nil, hc1154, hc1159, if_true, if_false]
        refine GlW.st (g' := (mkF m 126 #[vI x0, vI x1, vI x2, vI x3, vI x4, vI (3 : Int32), vI c0, vI c1, vI c2, vI c3, vR b1146, vI (0 : Int32)] [(.int (1 : Int32))])) (fun τ κ => XS.icmpNo X1160.here hx rfl (hb hby at_122) rfl (teq hc1161).2 (XS.iconst X1160.here hx rfl (hb hby at_125) κ)) ?_
        refine GlW.st (g' := (mkF m 130 #[vI x0, vI x1, vI x2, vI x3, vI x4, vI (3 : Int32), vI c0, vI c1, vI c2, vI c3, vR b1146, vI (0 : Int32)] [(.int (1 : Int32))])) (fun τ κ => XS.goto X1160.here hx rfl (pc0 := 126) (pc' := 130) rfl (hb hby at_126) (by decide) (by decide) κ) ?_
        exact GlW.ret hS0 hk1146 (v := some (.int (1 : Int32))) X1160 Bd.notSynchronized (fun h => by rw [Bd.returns] at h; cases h) e1160 (fun fs hr => retN X1160 hx (t := .boolean) Bd.returns (by simp) (hb hby at_130) hr) (by decide) (by decide) ⟨rfl, N1160⟩
      · -- pc 77: not (own_okc c1) = (0 : Int32)
        refine GlW.st (g' := (mkF m 82 #[vI x0, vI x1, vI x2, vI x3, vI x4, vI (3 : Int32), vI c0, vI c1, vI c2, vI c3, vR b1146, .unset] [(.int (3 : Int32))])) (fun τ κ => XS.ifNo X1158.here hx rfl (hb hby at_77) rfl ((if0 _ _).trans (feq hc1159).1) (XS.iload X1158.here hx rfl (hb hby at_80) rfl κ)) ?_
        refine GlW.st (g' := (mkF m 83 #[vI x0, vI x1, vI x2, vI x3, vI x4, vI (3 : Int32), vI c0, vI c1, vI c2, vI c3, vR b1146, .unset] [(.int (3 : Int32)), (.int (3 : Int32))])) (fun τ κ => XS.iconst X1158.here hx rfl (hb hby at_82) κ) ?_
        have hc1162 : ¬ ((3 : Int32) < (3 : Int32)) := by decide
        refine GlW.st (g' := (mkF m 88 #[vI x0, vI x1, vI x2, vI x3, vI x4, vI (3 : Int32), vI c0, vI c1, vI c2, vI c3, vR b1146, .unset] [(.int c2)])) (fun τ κ => XS.icmpNo X1158.here hx rfl (hb hby at_83) rfl (flt hc1162).1 (XS.iload X1158.here hx rfl (hb hby at_86) rfl κ)) ?_
        obtain ⟨rv1163, _, ⟨T1163, L1163, k1163, n1163⟩, -, X1163, ⟨Lc1163, hQ1163, l1163, y1163, z1163⟩, st1163⟩ := Jvm.LawKit.callS X1158 hx (y := (⟨"com/example/sealgrant/sealgrant/AsciiPrintablePinLaw", "ok", "(C)Z"⟩ : MethodName)) hown (mvT hZ (w53_ hw)) (mvT hZ (w54_ hw)) (mvT hZ (w4_ hw)) (mvT hZ (w55_ hw)) (by decide) (backOf (W := 0) (rm11 l Z a0 hw [] c2 T1146.heap n0 Z1146 ) hZ (w55_ hw) (w4_ hw) (by decide) (by decide)) (g := (mkF m 88 #[vI x0, vI x1, vI x2, vI x3, vI x4, vI (3 : Int32), vI c0, vI c1, vI c2, vI c3, vR b1146, .unset] [(.int c2)])) rfl (by rw [hml]; rfl) (argsL := [(.int c2)]) (rest := []) (lenOf pd_19 rfl) rfl (by show 2 * 0 + _ ≤ _; exact Nat.le_of_eq rfl) (hb hby at_88) (fun _ _ => ⟨rfl, e1158, (by decide : 4 + 0 ≤ _), (by decide : 16 + 0 ≤ _)⟩)
        dsimp only [Pt.U, Pt.locs, Pt.cells, Pt.slots] at X1163 l1163 y1163 z1163 st1163 hQ1163
        subst l1163 y1163 z1163
        obtain ⟨rfl, N1163q, e1163⟩ := hQ1163
        have N1163 := Fr.app N1158 N1163q
        refine GlW.st (g' := (mkF m 91 #[vI x0, vI x1, vI x2, vI x3, vI x4, vI (3 : Int32), vI c0, vI c1, vI c2, vI c3, vR b1146, .unset] [(.int (own_okc c2))])) (fun τ κ => st1163 _ κ) ?_
        by_cases hc1164 : (own_okc c2) = (0 : Int32)
        · -- pc 91: (own_okc c2) = (0 : Int32)
          refine GlW.st (g' := (mkF m 113 #[vI x0, vI x1, vI x2, vI x3, vI x4, vI (3 : Int32), vI c0, vI c1, vI c2, vI c3, vR b1146, .unset] [(.int (0 : Int32))])) (fun τ κ => XS.ifYes X1163.here hx rfl (pc0 := 91) (pc' := 112) rfl (hb hby at_91) rfl ((if0 _ _).trans (teq hc1164).1) (by decide) (by decide) (XS.iconst X1163.here hx rfl (hb hby at_112) κ)) ?_
          refine GlW.st (g' := (mkF m 117 #[vI x0, vI x1, vI x2, vI x3, vI x4, vI (3 : Int32), vI c0, vI c1, vI c2, vI c3, vR b1146, vI (0 : Int32)] [(.ref b1146)])) (fun τ κ => XS.istore X1163.here hx rfl (hb hby at_113) rfl (l' := #[vI x0, vI x1, vI x2, vI x3, vI x4, vI (3 : Int32), vI c0, vI c1, vI c2, vI c3, vR b1146, vI (0 : Int32)]) rfl (XS.aload X1163.here hx rfl (hb hby at_115) rfl rfl κ)) ?_
          obtain ⟨rv1165, _, ⟨T1165, L1165, k1165, n1165⟩, -, X1165, ⟨Lc1165, hQ1165, l1165, y1165, z1165⟩, st1165⟩ := Jvm.LawKit.callS X1163 hx (y := (⟨"com/example/sealgrant/sealgrant/Ascii", "printable", "(Ljava/lang/String;)Z"⟩ : MethodName)) hown (mvT hZ (w28_ hw)) (mvT hZ (w29_ hw)) (mvT hZ (w30_ hw)) (mvT hZ (w31_ hw)) (by decide) (backOf (W := 0) (rm5_3 l Z a0 hw [] b1146 cs c0 c1 c2 ff T1146.heap n0 Z1146 S_1147 hcs S_1148 S_1149 S_1150 S_1151 isr_ff HS1146) hZ (w31_ hw) (w30_ hw) (by decide) (by decide)) (g := (mkF m 117 #[vI x0, vI x1, vI x2, vI x3, vI x4, vI (3 : Int32), vI c0, vI c1, vI c2, vI c3, vR b1146, vI (0 : Int32)] [(.ref b1146)])) rfl (by rw [hml]; rfl) (argsL := [(.ref b1146)]) (rest := []) (lenOf pd_18 rfl) rfl (by show 2 * 0 + _ ≤ _; exact Nat.le_of_eq rfl) (hb hby at_117) (fun _ _ => ⟨rfl, e1163, (by decide : 4 + 0 ≤ _), (by decide : 16 + 0 ≤ _)⟩)
          dsimp only [Pt.U, Pt.locs, Pt.cells, Pt.slots] at X1165 l1165 y1165 z1165 st1165 hQ1165
          subst l1165 y1165 z1165
          obtain ⟨hq1165, N1165q, e1165⟩ := hQ1165
          have hq1165 : rv1165 = some (.int (own_pr [c0, c1, c2])) := hq1165
          subst hq1165
          have N1165 := Fr.app N1163 N1165q
          refine GlW.st (g' := (mkF m 120 #[vI x0, vI x1, vI x2, vI x3, vI x4, vI (3 : Int32), vI c0, vI c1, vI c2, vI c3, vR b1146, vI (0 : Int32)] [(.int (own_pr [c0, c1, c2]))])) (fun τ κ => st1165 _ κ) ?_
          refine GlW.st (g' := (mkF m 122 #[vI x0, vI x1, vI x2, vI x3, vI x4, vI (3 : Int32), vI c0, vI c1, vI c2, vI c3, vR b1146, vI (0 : Int32)] [(.int (0 : Int32)), (.int (own_pr [c0, c1, c2]))])) (fun τ κ => XS.iload X1165.here hx rfl (hb hby at_120) rfl κ) ?_
          have hc1166 : (own_pr [c0, c1, c2]) = (0 : Int32) := by simp only [own_pr_cons, own_pr_nil, hc1154, hc1159, hc1164, if_true, if_false]
          refine GlW.st (g' := (mkF m 126 #[vI x0, vI x1, vI x2, vI x3, vI x4, vI (3 : Int32), vI c0, vI c1, vI c2, vI c3, vR b1146, vI (0 : Int32)] [(.int (1 : Int32))])) (fun τ κ => XS.icmpNo X1165.here hx rfl (hb hby at_122) rfl (teq hc1166).2 (XS.iconst X1165.here hx rfl (hb hby at_125) κ)) ?_
          refine GlW.st (g' := (mkF m 130 #[vI x0, vI x1, vI x2, vI x3, vI x4, vI (3 : Int32), vI c0, vI c1, vI c2, vI c3, vR b1146, vI (0 : Int32)] [(.int (1 : Int32))])) (fun τ κ => XS.goto X1165.here hx rfl (pc0 := 126) (pc' := 130) rfl (hb hby at_126) (by decide) (by decide) κ) ?_
          exact GlW.ret hS0 hk1146 (v := some (.int (1 : Int32))) X1165 Bd.notSynchronized (fun h => by rw [Bd.returns] at h; cases h) e1165 (fun fs hr => retN X1165 hx (t := .boolean) Bd.returns (by simp) (hb hby at_130) hr) (by decide) (by decide) ⟨rfl, N1165⟩
        · -- pc 91: not (own_okc c2) = (0 : Int32)
          refine GlW.st (g' := (mkF m 96 #[vI x0, vI x1, vI x2, vI x3, vI x4, vI (3 : Int32), vI c0, vI c1, vI c2, vI c3, vR b1146, .unset] [(.int (3 : Int32))])) (fun τ κ => XS.ifNo X1163.here hx rfl (hb hby at_91) rfl ((if0 _ _).trans (feq hc1164).1) (XS.iload X1163.here hx rfl (hb hby at_94) rfl κ)) ?_
          refine GlW.st (g' := (mkF m 97 #[vI x0, vI x1, vI x2, vI x3, vI x4, vI (3 : Int32), vI c0, vI c1, vI c2, vI c3, vR b1146, .unset] [(.int (4 : Int32)), (.int (3 : Int32))])) (fun τ κ => XS.iconst X1163.here hx rfl (hb hby at_96) κ) ?_
          have hc1167 : (3 : Int32) < (4 : Int32) := by decide
          refine GlW.st (g' := (mkF m 109 #[vI x0, vI x1, vI x2, vI x3, vI x4, vI (3 : Int32), vI c0, vI c1, vI c2, vI c3, vR b1146, .unset] [(.int (1 : Int32))])) (fun τ κ => XS.icmpYes X1163.here hx rfl (pc0 := 97) (pc' := 108) rfl (hb hby at_97) rfl (tlt hc1167).1 (by decide) (by decide) (XS.iconst X1163.here hx rfl (hb hby at_108) κ)) ?_
          refine GlW.st (g' := (mkF m 115 #[vI x0, vI x1, vI x2, vI x3, vI x4, vI (3 : Int32), vI c0, vI c1, vI c2, vI c3, vR b1146, vI (1 : Int32)] [])) (fun τ κ => XS.goto X1163.here hx rfl (pc0 := 109) (pc' := 113) rfl (hb hby at_109) (by decide) (by decide) (XS.istore X1163.here hx rfl (hb hby at_113) rfl (l' := #[vI x0, vI x1, vI x2, vI x3, vI x4, vI (3 : Int32), vI c0, vI c1, vI c2, vI c3, vR b1146, vI (1 : Int32)]) rfl κ)) ?_
          refine GlW.st (g' := (mkF m 117 #[vI x0, vI x1, vI x2, vI x3, vI x4, vI (3 : Int32), vI c0, vI c1, vI c2, vI c3, vR b1146, vI (1 : Int32)] [(.ref b1146)])) (fun τ κ => XS.aload X1163.here hx rfl (hb hby at_115) rfl rfl κ) ?_
          obtain ⟨rv1168, _, ⟨T1168, L1168, k1168, n1168⟩, -, X1168, ⟨Lc1168, hQ1168, l1168, y1168, z1168⟩, st1168⟩ := Jvm.LawKit.callS X1163 hx (y := (⟨"com/example/sealgrant/sealgrant/Ascii", "printable", "(Ljava/lang/String;)Z"⟩ : MethodName)) hown (mvT hZ (w28_ hw)) (mvT hZ (w29_ hw)) (mvT hZ (w30_ hw)) (mvT hZ (w31_ hw)) (by decide) (backOf (W := 0) (rm5_3 l Z a0 hw [] b1146 cs c0 c1 c2 ff T1146.heap n0 Z1146 S_1147 hcs S_1148 S_1149 S_1150 S_1151 isr_ff HS1146) hZ (w31_ hw) (w30_ hw) (by decide) (by decide)) (g := (mkF m 117 #[vI x0, vI x1, vI x2, vI x3, vI x4, vI (3 : Int32), vI c0, vI c1, vI c2, vI c3, vR b1146, vI (1 : Int32)] [(.ref b1146)])) rfl (by rw [hml]; rfl) (argsL := [(.ref b1146)]) (rest := []) (lenOf pd_18 rfl) rfl (by show 2 * 0 + _ ≤ _; exact Nat.le_of_eq rfl) (hb hby at_117) (fun _ _ => ⟨rfl, e1163, (by decide : 4 + 0 ≤ _), (by decide : 16 + 0 ≤ _)⟩)
          dsimp only [Pt.U, Pt.locs, Pt.cells, Pt.slots] at X1168 l1168 y1168 z1168 st1168 hQ1168
          subst l1168 y1168 z1168
          obtain ⟨hq1168, N1168q, e1168⟩ := hQ1168
          have hq1168 : rv1168 = some (.int (own_pr [c0, c1, c2])) := hq1168
          subst hq1168
          have N1168 := Fr.app N1163 N1168q
          refine GlW.st (g' := (mkF m 120 #[vI x0, vI x1, vI x2, vI x3, vI x4, vI (3 : Int32), vI c0, vI c1, vI c2, vI c3, vR b1146, vI (1 : Int32)] [(.int (own_pr [c0, c1, c2]))])) (fun τ κ => st1168 _ κ) ?_
          refine GlW.st (g' := (mkF m 122 #[vI x0, vI x1, vI x2, vI x3, vI x4, vI (3 : Int32), vI c0, vI c1, vI c2, vI c3, vR b1146, vI (1 : Int32)] [(.int (1 : Int32)), (.int (own_pr [c0, c1, c2]))])) (fun τ κ => XS.iload X1168.here hx rfl (hb hby at_120) rfl κ) ?_
          have hc1169 : (own_pr [c0, c1, c2]) = (1 : Int32) := by simp only [own_pr_cons, own_pr_nil, hc1154, hc1159, hc1164, if_true, if_false]
          refine GlW.st (g' := (mkF m 126 #[vI x0, vI x1, vI x2, vI x3, vI x4, vI (3 : Int32), vI c0, vI c1, vI c2, vI c3, vR b1146, vI (1 : Int32)] [(.int (1 : Int32))])) (fun τ κ => XS.icmpNo X1168.here hx rfl (hb hby at_122) rfl (teq hc1169).2 (XS.iconst X1168.here hx rfl (hb hby at_125) κ)) ?_
          refine GlW.st (g' := (mkF m 130 #[vI x0, vI x1, vI x2, vI x3, vI x4, vI (3 : Int32), vI c0, vI c1, vI c2, vI c3, vR b1146, vI (1 : Int32)] [(.int (1 : Int32))])) (fun τ κ => XS.goto X1168.here hx rfl (pc0 := 126) (pc' := 130) rfl (hb hby at_126) (by decide) (by decide) κ) ?_
          exact GlW.ret hS0 hk1146 (v := some (.int (1 : Int32))) X1168 Bd.notSynchronized (fun h => by rw [Bd.returns] at h; cases h) e1168 (fun fs hr => retN X1168 hx (t := .boolean) Bd.returns (by simp) (hb hby at_130) hr) (by decide) (by decide) ⟨rfl, N1168⟩
  · rw [hs1097]
    obtain ⟨rv1170, _, ⟨T1170, L1170, k1170, n1170⟩, -, X1170, ⟨Lc1170, hQ1170, l1170, y1170, z1170⟩, st1170⟩ := Jvm.LawKit.callS X0 hx (y := (⟨"com/example/sealgrant/sealgrant/AsciiPrintablePinLaw", "make", "(ICCCC)Ljava/lang/String;"⟩ : MethodName)) hown (mvT hZ (w2_ hw)) (mvT hZ (w3_ hw)) (mvT hZ (w4_ hw)) (mvT hZ (w5_ hw)) (by decide) (backOf (W := 0) (rm1_4 l Z a0 hw [] c0 c1 c2 c3 cs h0 n0 Z0 S0 hcs SA SH SL f0 f1 f2 f3) hZ (w5_ hw) (w4_ hw) (by decide) (by decide)) (g := (mkF m 47 #[vI x0, vI x1, vI x2, vI x3, vI x4, vI (4 : Int32), vI c0, vI c1, vI c2, vI c3, .unset, .unset] [(.int c3), (.int c2), (.int c1), (.int c0), (.int (4 : Int32))])) rfl (by rw [hml]; rfl) (argsL := [(.int (4 : Int32)), (.int c0), (.int c1), (.int c2), (.int c3)]) (rest := []) (lenOf pd_17 rfl) rfl (by show 2 * 0 + _ ≤ _; exact Nat.le_of_eq rfl) (hb hby at_47) (fun _ _ => ⟨rfl, e0, (by decide : 0 + 4 ≤ _), (by decide : 0 + 20 ≤ _)⟩)
    dsimp only [Pt.U, Pt.locs, Pt.cells, Pt.slots] at X1170 l1170 y1170 z1170 st1170 hQ1170
    subst l1170 y1170 z1170
    obtain ⟨b1170, rfl, N1170q, Kc1170, HS1170⟩ := hQ1170
    have S_1171 := Sta.keepX S0 Kc1170 all0
    have S_1172 := Sta.keepX SA Kc1170 all0
    have S_1173 := Sta.keepX SH Kc1170 all0
    have S_1174 := Sta.keepX SL Kc1170 all0
    have S_1175 := Sta.keepX SF Kc1170 all0
    have hk1170 := Nat.le_trans (Nat.zero_le _) Kc1170.1
    have N1170 := Fr.app N0 N1170q
    have Z1170 : n0 ≤ T1170.heap.size := Nat.le_trans Z0 Kc1170.1
    have K1170 : Keep h0 T1170.heap [] := (Keep.refl h0 []).trans Kc1170 all0
    refine GlW.st (g' := (mkF m 50 #[vI x0, vI x1, vI x2, vI x3, vI x4, vI (4 : Int32), vI c0, vI c1, vI c2, vI c3, .unset, .unset] [(.ref b1170)])) (fun τ κ => st1170 _ κ) ?_
    refine GlW.st (g' := (mkF m 54 #[vI x0, vI x1, vI x2, vI x3, vI x4, vI (4 : Int32), vI c0, vI c1, vI c2, vI c3, vR b1170, .unset] [(.int (4 : Int32))])) (fun τ κ => XS.astore X1170.here hx rfl (hb hby at_50) rfl rfl (l' := #[vI x0, vI x1, vI x2, vI x3, vI x4, vI (4 : Int32), vI c0, vI c1, vI c2, vI c3, vR b1170, .unset]) rfl (XS.iload X1170.here hx rfl (hb hby at_52) rfl κ)) ?_
    refine GlW.st (g' := (mkF m 55 #[vI x0, vI x1, vI x2, vI x3, vI x4, vI (4 : Int32), vI c0, vI c1, vI c2, vI c3, vR b1170, .unset] [(.int (1 : Int32)), (.int (4 : Int32))])) (fun τ κ => XS.iconst X1170.here hx rfl (hb hby at_54) κ) ?_
    have hc1176 : ¬ ((4 : Int32) < (1 : Int32)) := by decide
    refine GlW.st (g' := (mkF m 60 #[vI x0, vI x1, vI x2, vI x3, vI x4, vI (4 : Int32), vI c0, vI c1, vI c2, vI c3, vR b1170, .unset] [(.int c0)])) (fun τ κ => XS.icmpNo X1170.here hx rfl (hb hby at_55) rfl (flt hc1176).1 (XS.iload X1170.here hx rfl (hb hby at_58) rfl κ)) ?_
    obtain ⟨rv1177, _, ⟨T1177, L1177, k1177, n1177⟩, -, X1177, ⟨Lc1177, hQ1177, l1177, y1177, z1177⟩, st1177⟩ := Jvm.LawKit.callS X1170 hx (y := (⟨"com/example/sealgrant/sealgrant/AsciiPrintablePinLaw", "ok", "(C)Z"⟩ : MethodName)) hown (mvT hZ (w53_ hw)) (mvT hZ (w54_ hw)) (mvT hZ (w4_ hw)) (mvT hZ (w55_ hw)) (by decide) (backOf (W := 0) (rm11 l Z a0 hw [] c0 T1170.heap n0 Z1170 ) hZ (w55_ hw) (w4_ hw) (by decide) (by decide)) (g := (mkF m 60 #[vI x0, vI x1, vI x2, vI x3, vI x4, vI (4 : Int32), vI c0, vI c1, vI c2, vI c3, vR b1170, .unset] [(.int c0)])) rfl (by rw [hml]; rfl) (argsL := [(.int c0)]) (rest := []) (lenOf pd_19 rfl) rfl (by show 2 * 0 + _ ≤ _; exact Nat.le_of_eq rfl) (hb hby at_60) (fun _ _ => ⟨rfl, rfl, (by decide : 4 + 0 ≤ _), (by decide : 20 + 0 ≤ _)⟩)
    dsimp only [Pt.U, Pt.locs, Pt.cells, Pt.slots] at X1177 l1177 y1177 z1177 st1177 hQ1177
    subst l1177 y1177 z1177
    obtain ⟨rfl, N1177q, e1177⟩ := hQ1177
    have N1177 := Fr.app N1170 N1177q
    refine GlW.st (g' := (mkF m 63 #[vI x0, vI x1, vI x2, vI x3, vI x4, vI (4 : Int32), vI c0, vI c1, vI c2, vI c3, vR b1170, .unset] [(.int (own_okc c0))])) (fun τ κ => st1177 _ κ) ?_
    by_cases hc1178 : (own_okc c0) = (0 : Int32)
    · -- pc 63: (own_okc c0) = (0 : Int32)
      refine GlW.st (g' := (mkF m 113 #[vI x0, vI x1, vI x2, vI x3, vI x4, vI (4 : Int32), vI c0, vI c1, vI c2, vI c3, vR b1170, .unset] [(.int (0 : Int32))])) (fun τ κ => XS.ifYes X1177.here hx rfl (pc0 := 63) (pc' := 112) rfl (hb hby at_63) rfl ((if0 _ _).trans (teq hc1178).1) (by decide) (by decide) (XS.iconst X1177.here hx rfl (hb hby at_112) κ)) ?_
      refine GlW.st (g' := (mkF m 117 #[vI x0, vI x1, vI x2, vI x3, vI x4, vI (4 : Int32), vI c0, vI c1, vI c2, vI c3, vR b1170, vI (0 : Int32)] [(.ref b1170)])) (fun τ κ => XS.istore X1177.here hx rfl (hb hby at_113) rfl (l' := #[vI x0, vI x1, vI x2, vI x3, vI x4, vI (4 : Int32), vI c0, vI c1, vI c2, vI c3, vR b1170, vI (0 : Int32)]) rfl (XS.aload X1177.here hx rfl (hb hby at_115) rfl rfl κ)) ?_
      obtain ⟨rv1179, _, ⟨T1179, L1179, k1179, n1179⟩, -, X1179, ⟨Lc1179, hQ1179, l1179, y1179, z1179⟩, st1179⟩ := Jvm.LawKit.callS X1177 hx (y := (⟨"com/example/sealgrant/sealgrant/Ascii", "printable", "(Ljava/lang/String;)Z"⟩ : MethodName)) hown (mvT hZ (w28_ hw)) (mvT hZ (w29_ hw)) (mvT hZ (w30_ hw)) (mvT hZ (w31_ hw)) (by decide) (backOf (W := 0) (rm5_4 l Z a0 hw [] b1170 cs c0 c1 c2 c3 ff T1170.heap n0 Z1170 S_1171 hcs S_1172 S_1173 S_1174 S_1175 isr_ff HS1170) hZ (w31_ hw) (w30_ hw) (by decide) (by decide)) (g := (mkF m 117 #[vI x0, vI x1, vI x2, vI x3, vI x4, vI (4 : Int32), vI c0, vI c1, vI c2, vI c3, vR b1170, vI (0 : Int32)] [(.ref b1170)])) rfl (by rw [hml]; rfl) (argsL := [(.ref b1170)]) (rest := []) (lenOf pd_18 rfl) rfl (by show 2 * 0 + _ ≤ _; exact Nat.le_of_eq rfl) (hb hby at_117) (fun _ _ => ⟨rfl, e1177, (by decide : 4 + 0 ≤ _), (by decide : 20 + 0 ≤ _)⟩)
      dsimp only [Pt.U, Pt.locs, Pt.cells, Pt.slots] at X1179 l1179 y1179 z1179 st1179 hQ1179
      subst l1179 y1179 z1179
      obtain ⟨hq1179, N1179q, e1179⟩ := hQ1179
      have hq1179 : rv1179 = some (.int (own_pr [c0, c1, c2, c3])) := hq1179
      subst hq1179
      have N1179 := Fr.app N1177 N1179q
      refine GlW.st (g' := (mkF m 120 #[vI x0, vI x1, vI x2, vI x3, vI x4, vI (4 : Int32), vI c0, vI c1, vI c2, vI c3, vR b1170, vI (0 : Int32)] [(.int (own_pr [c0, c1, c2, c3]))])) (fun τ κ => st1179 _ κ) ?_
      refine GlW.st (g' := (mkF m 122 #[vI x0, vI x1, vI x2, vI x3, vI x4, vI (4 : Int32), vI c0, vI c1, vI c2, vI c3, vR b1170, vI (0 : Int32)] [(.int (0 : Int32)), (.int (own_pr [c0, c1, c2, c3]))])) (fun τ κ => XS.iload X1179.here hx rfl (hb hby at_120) rfl κ) ?_
      have hc1180 : (own_pr [c0, c1, c2, c3]) = (0 : Int32) := by simp only [own_pr_cons, own_pr_nil, hc1178, if_true, if_false]
      refine GlW.st (g' := (mkF m 126 #[vI x0, vI x1, vI x2, vI x3, vI x4, vI (4 : Int32), vI c0, vI c1, vI c2, vI c3, vR b1170, vI (0 : Int32)] [(.int (1 : Int32))])) (fun τ κ => XS.icmpNo X1179.here hx rfl (hb hby at_122) rfl (teq hc1180).2 (XS.iconst X1179.here hx rfl (hb hby at_125) κ)) ?_
      refine GlW.st (g' := (mkF m 130 #[vI x0, vI x1, vI x2, vI x3, vI x4, vI (4 : Int32), vI c0, vI c1, vI c2, vI c3, vR b1170, vI (0 : Int32)] [(.int (1 : Int32))])) (fun τ κ => XS.goto X1179.here hx rfl (pc0 := 126) (pc' := 130) rfl (hb hby at_126) (by decide) (by decide) κ) ?_
      exact GlW.ret hS0 hk1170 (v := some (.int (1 : Int32))) X1179 Bd.notSynchronized (fun h => by rw [Bd.returns] at h; cases h) e1179 (fun fs hr => retN X1179 hx (t := .boolean) Bd.returns (by simp) (hb hby at_130) hr) (by decide) (by decide) ⟨rfl, N1179⟩
    · -- pc 63: not (own_okc c0) = (0 : Int32)
      refine GlW.st (g' := (mkF m 68 #[vI x0, vI x1, vI x2, vI x3, vI x4, vI (4 : Int32), vI c0, vI c1, vI c2, vI c3, vR b1170, .unset] [(.int (4 : Int32))])) (fun τ κ => XS.ifNo X1177.here hx rfl (hb hby at_63) rfl ((if0 _ _).trans (feq hc1178).1) (XS.iload X1177.here hx rfl (hb hby at_66) rfl κ)) ?_
      refine GlW.st (g' := (mkF m 69 #[vI x0, vI x1, vI x2, vI x3, vI x4, vI (4 : Int32), vI c0, vI c1, vI c2, vI c3, vR b1170, .unset] [(.int (2 : Int32)), (.int (4 : Int32))])) (fun τ κ => XS.iconst X1177.here hx rfl (hb hby at_68) κ) ?_
      have hc1181 : ¬ ((4 : Int32) < (2 : Int32)) := by decide
      refine GlW.st (g' := (mkF m 74 #[vI x0, vI x1, vI x2, vI x3, vI x4, vI (4 : Int32), vI c0, vI c1, vI c2, vI c3, vR b1170, .unset] [(.int c1)])) (fun τ κ => XS.icmpNo X1177.here hx rfl (hb hby at_69) rfl (flt hc1181).1 (XS.iload X1177.here hx rfl (hb hby at_72) rfl κ)) ?_
      obtain ⟨rv1182, _, ⟨T1182, L1182, k1182, n1182⟩, -, X1182, ⟨Lc1182, hQ1182, l1182, y1182, z1182⟩, st1182⟩ := Jvm.LawKit.callS X1177 hx (y := (⟨"com/example/sealgrant/sealgrant/AsciiPrintablePinLaw", "ok", "(C)Z"⟩ : MethodName)) hown (mvT hZ (w53_ hw)) (mvT hZ (w54_ hw)) (mvT hZ (w4_ hw)) (mvT hZ (w55_ hw)) (by decide) (backOf (W := 0) (rm11 l Z a0 hw [] c1 T1170.heap n0 Z1170 ) hZ (w55_ hw) (w4_ hw) (by decide) (by decide)) (g := (mkF m 74 #[vI x0, vI x1, vI x2, vI x3, vI x4, vI (4 : Int32), vI c0, vI c1, vI c2, vI c3, vR b1170, .unset] [(.int c1)])) rfl (by rw [hml]; rfl) (argsL := [(.int c1)]) (rest := []) (lenOf pd_19 rfl) rfl (by show 2 * 0 + _ ≤ _; exact Nat.le_of_eq rfl) (hb hby at_74) (fun _ _ => ⟨rfl, e1177, (by decide : 4 + 0 ≤ _), (by decide : 20 + 0 ≤ _)⟩)
      dsimp only [Pt.U, Pt.locs, Pt.cells, Pt.slots] at X1182 l1182 y1182 z1182 st1182 hQ1182
      subst l1182 y1182 z1182
      obtain ⟨rfl, N1182q, e1182⟩ := hQ1182
      have N1182 := Fr.app N1177 N1182q
      refine GlW.st (g' := (mkF m 77 #[vI x0, vI x1, vI x2, vI x3, vI x4, vI (4 : Int32), vI c0, vI c1, vI c2, vI c3, vR b1170, .unset] [(.int (own_okc c1))])) (fun τ κ => st1182 _ κ) ?_
      by_cases hc1183 : (own_okc c1) = (0 : Int32)
      · -- pc 77: (own_okc c1) = (0 : Int32)
        refine GlW.st (g' := (mkF m 113 #[vI x0, vI x1, vI x2, vI x3, vI x4, vI (4 : Int32), vI c0, vI c1, vI c2, vI c3, vR b1170, .unset] [(.int (0 : Int32))])) (fun τ κ => XS.ifYes X1182.here hx rfl (pc0 := 77) (pc' := 112) rfl (hb hby at_77) rfl ((if0 _ _).trans (teq hc1183).1) (by decide) (by decide) (XS.iconst X1182.here hx rfl (hb hby at_112) κ)) ?_
        refine GlW.st (g' := (mkF m 117 #[vI x0, vI x1, vI x2, vI x3, vI x4, vI (4 : Int32), vI c0, vI c1, vI c2, vI c3, vR b1170, vI (0 : Int32)] [(.ref b1170)])) (fun τ κ => XS.istore X1182.here hx rfl (hb hby at_113) rfl (l' := #[vI x0, vI x1, vI x2, vI x3, vI x4, vI (4 : Int32), vI c0, vI c1, vI c2, vI c3, vR b1170, vI (0 : Int32)]) rfl (XS.aload X1182.here hx rfl (hb hby at_115) rfl rfl κ)) ?_
        obtain ⟨rv1184, _, ⟨T1184, L1184, k1184, n1184⟩, -, X1184, ⟨Lc1184, hQ1184, l1184, y1184, z1184⟩, st1184⟩ := Jvm.LawKit.callS X1182 hx (y := (⟨"com/example/sealgrant/sealgrant/Ascii", "printable", "(Ljava/lang/String;)Z"⟩ : MethodName)) hown (mvT hZ (w28_ hw)) (mvT hZ (w29_ hw)) (mvT hZ (w30_ hw)) (mvT hZ (w31_ hw)) (by decide) (backOf (W := 0) (rm5_4 l Z a0 hw [] b1170 cs c0 c1 c2 c3 ff T1170.heap n0 Z1170 S_1171 hcs S_1172 S_1173 S_1174 S_1175 isr_ff HS1170) hZ (w31_ hw) (w30_ hw) (by decide) (by decide)) (g := (mkF m 117 #[vI x0, vI x1, vI x2, vI x3, vI x4, vI (4 : Int32), vI c0, vI c1, vI c2, vI c3, vR b1170, vI (0 : Int32)] [(.ref b1170)])) rfl (by rw [hml]; rfl) (argsL := [(.ref b1170)]) (rest := []) (lenOf pd_18 rfl) rfl (by show 2 * 0 + _ ≤ _; exact Nat.le_of_eq rfl) (hb hby at_117) (fun _ _ => ⟨rfl, e1182, (by decide : 4 + 0 ≤ _), (by decide : 20 + 0 ≤ _)⟩)
        dsimp only [Pt.U, Pt.locs, Pt.cells, Pt.slots] at X1184 l1184 y1184 z1184 st1184 hQ1184
        subst l1184 y1184 z1184
        obtain ⟨hq1184, N1184q, e1184⟩ := hQ1184
        have hq1184 : rv1184 = some (.int (own_pr [c0, c1, c2, c3])) := hq1184
        subst hq1184
        have N1184 := Fr.app N1182 N1184q
        refine GlW.st (g' := (mkF m 120 #[vI x0, vI x1, vI x2, vI x3, vI x4, vI (4 : Int32), vI c0, vI c1, vI c2, vI c3, vR b1170, vI (0 : Int32)] [(.int (own_pr [c0, c1, c2, c3]))])) (fun τ κ => st1184 _ κ) ?_
        refine GlW.st (g' := (mkF m 122 #[vI x0, vI x1, vI x2, vI x3, vI x4, vI (4 : Int32), vI c0, vI c1, vI c2, vI c3, vR b1170, vI (0 : Int32)] [(.int (0 : Int32)), (.int (own_pr [c0, c1, c2, c3]))])) (fun τ κ => XS.iload X1184.here hx rfl (hb hby at_120) rfl κ) ?_
        have hc1185 : (own_pr [c0, c1, c2, c3]) = (0 : Int32) := by simp only [own_pr_cons, own_pr_nil, hc1178, hc1183, if_true, if_false]
        refine GlW.st (g' := (mkF m 126 #[vI x0, vI x1, vI x2, vI x3, vI x4, vI (4 : Int32), vI c0, vI c1, vI c2, vI c3, vR b1170, vI (0 : Int32)] [(.int (1 : Int32))])) (fun τ κ => XS.icmpNo X1184.here hx rfl (hb hby at_122) rfl (teq hc1185).2 (XS.iconst X1184.here hx rfl (hb hby at_125) κ)) ?_
        refine GlW.st (g' := (mkF m 130 #[vI x0, vI x1, vI x2, vI x3, vI x4, vI (4 : Int32), vI c0, vI c1, vI c2, vI c3, vR b1170, vI (0 : Int32)] [(.int (1 : Int32))])) (fun τ κ => XS.goto X1184.here hx rfl (pc0 := 126) (pc' := 130) rfl (hb hby at_126) (by decide) (by decide) κ) ?_
        exact GlW.ret hS0 hk1170 (v := some (.int (1 : Int32))) X1184 Bd.notSynchronized (fun h => by rw [Bd.returns] at h; cases h) e1184 (fun fs hr => retN X1184 hx (t := .boolean) Bd.returns (by simp) (hb hby at_130) hr) (by decide) (by decide) ⟨rfl, N1184⟩
      · -- pc 77: not (own_okc c1) = (0 : Int32)
        refine GlW.st (g' := (mkF m 82 #[vI x0, vI x1, vI x2, vI x3, vI x4, vI (4 : Int32), vI c0, vI c1, vI c2, vI c3, vR b1170, .unset] [(.int (4 : Int32))])) (fun τ κ => XS.ifNo X1182.here hx rfl (hb hby at_77) rfl ((if0 _ _).trans (feq hc1183).1) (XS.iload X1182.here hx rfl (hb hby at_80) rfl κ)) ?_
        refine GlW.st (g' := (mkF m 83 #[vI x0, vI x1, vI x2, vI x3, vI x4, vI (4 : Int32), vI c0, vI c1, vI c2, vI c3, vR b1170, .unset] [(.int (3 : Int32)), (.int (4 : Int32))])) (fun τ κ => XS.iconst X1182.here hx rfl (hb hby at_82) κ) ?_
        have hc1186 : ¬ ((4 : Int32) < (3 : Int32)) := by decide
        refine GlW.st (g' := (mkF m 88 #[vI x0, vI x1, vI x2, vI x3, vI x4, vI (4 : Int32), vI c0, vI c1, vI c2, vI c3, vR b1170, .unset] [(.int c2)])) (fun τ κ => XS.icmpNo X1182.here hx rfl (hb hby at_83) rfl (flt hc1186).1 (XS.iload X1182.here hx rfl (hb hby at_86) rfl κ)) ?_
        obtain ⟨rv1187, _, ⟨T1187, L1187, k1187, n1187⟩, -, X1187, ⟨Lc1187, hQ1187, l1187, y1187, z1187⟩, st1187⟩ := Jvm.LawKit.callS X1182 hx (y := (⟨"com/example/sealgrant/sealgrant/AsciiPrintablePinLaw", "ok", "(C)Z"⟩ : MethodName)) hown (mvT hZ (w53_ hw)) (mvT hZ (w54_ hw)) (mvT hZ (w4_ hw)) (mvT hZ (w55_ hw)) (by decide) (backOf (W := 0) (rm11 l Z a0 hw [] c2 T1170.heap n0 Z1170 ) hZ (w55_ hw) (w4_ hw) (by decide) (by decide)) (g := (mkF m 88 #[vI x0, vI x1, vI x2, vI x3, vI x4, vI (4 : Int32), vI c0, vI c1, vI c2, vI c3, vR b1170, .unset] [(.int c2)])) rfl (by rw [hml]; rfl) (argsL := [(.int c2)]) (rest := []) (lenOf pd_19 rfl) rfl (by show 2 * 0 + _ ≤ _; exact Nat.le_of_eq rfl) (hb hby at_88) (fun _ _ => ⟨rfl, e1182, (by decide : 4 + 0 ≤ _), (by decide : 20 + 0 ≤ _)⟩)
        dsimp only [Pt.U, Pt.locs, Pt.cells, Pt.slots] at X1187 l1187 y1187 z1187 st1187 hQ1187
        subst l1187 y1187 z1187
        obtain ⟨rfl, N1187q, e1187⟩ := hQ1187
        have N1187 := Fr.app N1182 N1187q
        refine GlW.st (g' := (mkF m 91 #[vI x0, vI x1, vI x2, vI x3, vI x4, vI (4 : Int32), vI c0, vI c1, vI c2, vI c3, vR b1170, .unset] [(.int (own_okc c2))])) (fun τ κ => st1187 _ κ) ?_
        by_cases hc1188 : (own_okc c2) = (0 : Int32)
        · -- pc 91: (own_okc c2) = (0 : Int32)
          refine GlW.st (g' := (mkF m 113 #[vI x0, vI x1, vI x2, vI x3, vI x4, vI (4 : Int32), vI c0, vI c1, vI c2, vI c3, vR b1170, .unset] [(.int (0 : Int32))])) (fun τ κ => XS.ifYes X1187.here hx rfl (pc0 := 91) (pc' := 112) rfl (hb hby at_91) rfl ((if0 _ _).trans (teq hc1188).1) (by decide) (by decide) (XS.iconst X1187.here hx rfl (hb hby at_112) κ)) ?_
          refine GlW.st (g' := (mkF m 117 #[vI x0, vI x1, vI x2, vI x3, vI x4, vI (4 : Int32), vI c0, vI c1, vI c2, vI c3, vR b1170, vI (0 : Int32)] [(.ref b1170)])) (fun τ κ => XS.istore X1187.here hx rfl (hb hby at_113) rfl (l' := #[vI x0, vI x1, vI x2, vI x3, vI x4, vI (4 : Int32), vI c0, vI c1, vI c2, vI c3, vR b1170, vI (0 : Int32)]) rfl (XS.aload X1187.here hx rfl (hb hby at_115) rfl rfl κ)) ?_
          obtain ⟨rv1189, _, ⟨T1189, L1189, k1189, n1189⟩, -, X1189, ⟨Lc1189, hQ1189, l1189, y1189, z1189⟩, st1189⟩ := Jvm.LawKit.callS X1187 hx (y := (⟨"com/example/sealgrant/sealgrant/Ascii", "printable", "(Ljava/lang/String;)Z"⟩ : MethodName)) hown (mvT hZ (w28_ hw)) (mvT hZ (w29_ hw)) (mvT hZ (w30_ hw)) (mvT hZ (w31_ hw)) (by decide) (backOf (W := 0) (rm5_4 l Z a0 hw [] b1170 cs c0 c1 c2 c3 ff T1170.heap n0 Z1170 S_1171 hcs S_1172 S_1173 S_1174 S_1175 isr_ff HS1170) hZ (w31_ hw) (w30_ hw) (by decide) (by decide)) (g := (mkF m 117 #[vI x0, vI x1, vI x2, vI x3, vI x4, vI (4 : Int32), vI c0, vI c1, vI c2, vI c3, vR b1170, vI (0 : Int32)] [(.ref b1170)])) rfl (by rw [hml]; rfl) (argsL := [(.ref b1170)]) (rest := []) (lenOf pd_18 rfl) rfl (by show 2 * 0 + _ ≤ _; exact Nat.le_of_eq rfl) (hb hby at_117) (fun _ _ => ⟨rfl, e1187, (by decide : 4 + 0 ≤ _), (by decide : 20 + 0 ≤ _)⟩)
          dsimp only [Pt.U, Pt.locs, Pt.cells, Pt.slots] at X1189 l1189 y1189 z1189 st1189 hQ1189
          subst l1189 y1189 z1189
          obtain ⟨hq1189, N1189q, e1189⟩ := hQ1189
          have hq1189 : rv1189 = some (.int (own_pr [c0, c1, c2, c3])) := hq1189
          subst hq1189
          have N1189 := Fr.app N1187 N1189q
          refine GlW.st (g' := (mkF m 120 #[vI x0, vI x1, vI x2, vI x3, vI x4, vI (4 : Int32), vI c0, vI c1, vI c2, vI c3, vR b1170, vI (0 : Int32)] [(.int (own_pr [c0, c1, c2, c3]))])) (fun τ κ => st1189 _ κ) ?_
          refine GlW.st (g' := (mkF m 122 #[vI x0, vI x1, vI x2, vI x3, vI x4, vI (4 : Int32), vI c0, vI c1, vI c2, vI c3, vR b1170, vI (0 : Int32)] [(.int (0 : Int32)), (.int (own_pr [c0, c1, c2, c3]))])) (fun τ κ => XS.iload X1189.here hx rfl (hb hby at_120) rfl κ) ?_
          have hc1190 : (own_pr [c0, c1, c2, c3]) = (0 : Int32) := by simp only [own_pr_cons, own_pr_nil, hc1178, hc1183, hc1188, if_true, if_false]
          refine GlW.st (g' := (mkF m 126 #[vI x0, vI x1, vI x2, vI x3, vI x4, vI (4 : Int32), vI c0, vI c1, vI c2, vI c3, vR b1170, vI (0 : Int32)] [(.int (1 : Int32))])) (fun τ κ => XS.icmpNo X1189.here hx rfl (hb hby at_122) rfl (teq hc1190).2 (XS.iconst X1189.here hx rfl (hb hby at_125) κ)) ?_
          refine GlW.st (g' := (mkF m 130 #[vI x0, vI x1, vI x2, vI x3, vI x4, vI (4 : Int32), vI c0, vI c1, vI c2, vI c3, vR b1170, vI (0 : Int32)] [(.int (1 : Int32))])) (fun τ κ => XS.goto X1189.here hx rfl (pc0 := 126) (pc' := 130) rfl (hb hby at_126) (by decide) (by decide) κ) ?_
          exact GlW.ret hS0 hk1170 (v := some (.int (1 : Int32))) X1189 Bd.notSynchronized (fun h => by rw [Bd.returns] at h; cases h) e1189 (fun fs hr => retN X1189 hx (t := .boolean) Bd.returns (by simp) (hb hby at_130) hr) (by decide) (by decide) ⟨rfl, N1189⟩
        · -- pc 91: not (own_okc c2) = (0 : Int32)
          refine GlW.st (g' := (mkF m 96 #[vI x0, vI x1, vI x2, vI x3, vI x4, vI (4 : Int32), vI c0, vI c1, vI c2, vI c3, vR b1170, .unset] [(.int (4 : Int32))])) (fun τ κ => XS.ifNo X1187.here hx rfl (hb hby at_91) rfl ((if0 _ _).trans (feq hc1188).1) (XS.iload X1187.here hx rfl (hb hby at_94) rfl κ)) ?_
          refine GlW.st (g' := (mkF m 97 #[vI x0, vI x1, vI x2, vI x3, vI x4, vI (4 : Int32), vI c0, vI c1, vI c2, vI c3, vR b1170, .unset] [(.int (4 : Int32)), (.int (4 : Int32))])) (fun τ κ => XS.iconst X1187.here hx rfl (hb hby at_96) κ) ?_
          have hc1191 : ¬ ((4 : Int32) < (4 : Int32)) := by decide
          refine GlW.st (g' := (mkF m 102 #[vI x0, vI x1, vI x2, vI x3, vI x4, vI (4 : Int32), vI c0, vI c1, vI c2, vI c3, vR b1170, .unset] [(.int c3)])) (fun τ κ => XS.icmpNo X1187.here hx rfl (hb hby at_97) rfl (flt hc1191).1 (XS.iload X1187.here hx rfl (hb hby at_100) rfl κ)) ?_
          obtain ⟨rv1192, _, ⟨T1192, L1192, k1192, n1192⟩, -, X1192, ⟨Lc1192, hQ1192, l1192, y1192, z1192⟩, st1192⟩ := Jvm.LawKit.callS X1187 hx (y := (⟨"com/example/sealgrant/sealgrant/AsciiPrintablePinLaw", "ok", "(C)Z"⟩ : MethodName)) hown (mvT hZ (w53_ hw)) (mvT hZ (w54_ hw)) (mvT hZ (w4_ hw)) (mvT hZ (w55_ hw)) (by decide) (backOf (W := 0) (rm11 l Z a0 hw [] c3 T1170.heap n0 Z1170 ) hZ (w55_ hw) (w4_ hw) (by decide) (by decide)) (g := (mkF m 102 #[vI x0, vI x1, vI x2, vI x3, vI x4, vI (4 : Int32), vI c0, vI c1, vI c2, vI c3, vR b1170, .unset] [(.int c3)])) rfl (by rw [hml]; rfl) (argsL := [(.int c3)]) (rest := []) (lenOf pd_19 rfl) rfl (by show 2 * 0 + _ ≤ _; exact Nat.le_of_eq rfl) (hb hby at_102) (fun _ _ => ⟨rfl, e1187, (by decide : 4 + 0 ≤ _), (by decide : 20 + 0 ≤ _)⟩)
          dsimp only [Pt.U, Pt.locs, Pt.cells, Pt.slots] at X1192 l1192 y1192 z1192 st1192 hQ1192
          subst l1192 y1192 z1192
          obtain ⟨rfl, N1192q, e1192⟩ := hQ1192
          have N1192 := Fr.app N1187 N1192q
          refine GlW.st (g' := (mkF m 105 #[vI x0, vI x1, vI x2, vI x3, vI x4, vI (4 : Int32), vI c0, vI c1, vI c2, vI c3, vR b1170, .unset] [(.int (own_okc c3))])) (fun τ κ => st1192 _ κ) ?_
          by_cases hc1193 : (own_okc c3) = (0 : Int32)
          · -- pc 105: (own_okc c3) = (0 : Int32)
            refine GlW.st (g' := (mkF m 113 #[vI x0, vI x1, vI x2, vI x3, vI x4, vI (4 : Int32), vI c0, vI c1, vI c2, vI c3, vR b1170, .unset] [(.int (0 : Int32))])) (fun τ κ => XS.ifYes X1192.here hx rfl (pc0 := 105) (pc' := 112) rfl (hb hby at_105) rfl ((if0 _ _).trans (teq hc1193).1) (by decide) (by decide) (XS.iconst X1192.here hx rfl (hb hby at_112) κ)) ?_
            refine GlW.st (g' := (mkF m 117 #[vI x0, vI x1, vI x2, vI x3, vI x4, vI (4 : Int32), vI c0, vI c1, vI c2, vI c3, vR b1170, vI (0 : Int32)] [(.ref b1170)])) (fun τ κ => XS.istore X1192.here hx rfl (hb hby at_113) rfl (l' := #[vI x0, vI x1, vI x2, vI x3, vI x4, vI (4 : Int32), vI c0, vI c1, vI c2, vI c3, vR b1170, vI (0 : Int32)]) rfl (XS.aload X1192.here hx rfl (hb hby at_115) rfl rfl κ)) ?_
            obtain ⟨rv1194, _, ⟨T1194, L1194, k1194, n1194⟩, -, X1194, ⟨Lc1194, hQ1194, l1194, y1194, z1194⟩, st1194⟩ := Jvm.LawKit.callS X1192 hx (y := (⟨"com/example/sealgrant/sealgrant/Ascii", "printable", "(Ljava/lang/String;)Z"⟩ : MethodName)) hown (mvT hZ (w28_ hw)) (mvT hZ (w29_ hw)) (mvT hZ (w30_ hw)) (mvT hZ (w31_ hw)) (by decide) (backOf (W := 0) (rm5_4 l Z a0 hw [] b1170 cs c0 c1 c2 c3 ff T1170.heap n0 Z1170 S_1171 hcs S_1172 S_1173 S_1174 S_1175 isr_ff HS1170) hZ (w31_ hw) (w30_ hw) (by decide) (by decide)) (g := (mkF m 117 #[vI x0, vI x1, vI x2, vI x3, vI x4, vI (4 : Int32), vI c0, vI c1, vI c2, vI c3, vR b1170, vI (0 : Int32)] [(.ref b1170)])) rfl (by rw [hml]; rfl) (argsL := [(.ref b1170)]) (rest := []) (lenOf pd_18 rfl) rfl (by show 2 * 0 + _ ≤ _; exact Nat.le_of_eq rfl) (hb hby at_117) (fun _ _ => ⟨rfl, e1192, (by decide : 4 + 0 ≤ _), (by decide : 20 + 0 ≤ _)⟩)
            dsimp only [Pt.U, Pt.locs, Pt.cells, Pt.slots] at X1194 l1194 y1194 z1194 st1194 hQ1194
            subst l1194 y1194 z1194
            obtain ⟨hq1194, N1194q, e1194⟩ := hQ1194
            have hq1194 : rv1194 = some (.int (own_pr [c0, c1, c2, c3])) := hq1194
            subst hq1194
            have N1194 := Fr.app N1192 N1194q
            refine GlW.st (g' := (mkF m 120 #[vI x0, vI x1, vI x2, vI x3, vI x4, vI (4 : Int32), vI c0, vI c1, vI c2, vI c3, vR b1170, vI (0 : Int32)] [(.int (own_pr [c0, c1, c2, c3]))])) (fun τ κ => st1194 _ κ) ?_
            refine GlW.st (g' := (mkF m 122 #[vI x0, vI x1, vI x2, vI x3, vI x4, vI (4 : Int32), vI c0, vI c1, vI c2, vI c3, vR b1170, vI (0 : Int32)] [(.int (0 : Int32)), (.int (own_pr [c0, c1, c2, c3]))])) (fun τ κ => XS.iload X1194.here hx rfl (hb hby at_120) rfl κ) ?_
            have hc1195 : (own_pr [c0, c1, c2, c3]) = (0 : Int32) := by simp only [own_pr_cons, own_pr_nil, hc1178, hc1183, hc1188, hc1193, if_true, if_false]
            refine GlW.st (g' := (mkF m 126 #[vI x0, vI x1, vI x2, vI x3, vI x4, vI (4 : Int32), vI c0, vI c1, vI c2, vI c3, vR b1170, vI (0 : Int32)] [(.int (1 : Int32))])) (fun τ κ => XS.icmpNo X1194.here hx rfl (hb hby at_122) rfl (teq hc1195).2 (XS.iconst X1194.here hx rfl (hb hby at_125) κ)) ?_
            refine GlW.st (g' := (mkF m 130 #[vI x0, vI x1, vI x2, vI x3, vI x4, vI (4 : Int32), vI c0, vI c1, vI c2, vI c3, vR b1170, vI (0 : Int32)] [(.int (1 : Int32))])) (fun τ κ => XS.goto X1194.here hx rfl (pc0 := 126) (pc' := 130) rfl (hb hby at_126) (by decide) (by decide) κ) ?_
            exact GlW.ret hS0 hk1170 (v := some (.int (1 : Int32))) X1194 Bd.notSynchronized (fun h => by rw [Bd.returns] at h; cases h) e1194 (fun fs hr => retN X1194 hx (t := .boolean) Bd.returns (by simp) (hb hby at_130) hr) (by decide) (by decide) ⟨rfl, N1194⟩
          · -- pc 105: not (own_okc c3) = (0 : Int32)
            refine GlW.st (g' := (mkF m 109 #[vI x0, vI x1, vI x2, vI x3, vI x4, vI (4 : Int32), vI c0, vI c1, vI c2, vI c3, vR b1170, .unset] [(.int (1 : Int32))])) (fun τ κ => XS.ifNo X1192.here hx rfl (hb hby at_105) rfl ((if0 _ _).trans (feq hc1193).1) (XS.iconst X1192.here hx rfl (hb hby at_108) κ)) ?_
            refine GlW.st (g' := (mkF m 115 #[vI x0, vI x1, vI x2, vI x3, vI x4, vI (4 : Int32), vI c0, vI c1, vI c2, vI c3, vR b1170, vI (1 : Int32)] [])) (fun τ κ => XS.goto X1192.here hx rfl (pc0 := 109) (pc' := 113) rfl (hb hby at_109) (by decide) (by decide) (XS.istore X1192.here hx rfl (hb hby at_113) rfl (l' := #[vI x0, vI x1, vI x2, vI x3, vI x4, vI (4 : Int32), vI c0, vI c1, vI c2, vI c3, vR b1170, vI (1 : Int32)]) rfl κ)) ?_
            refine GlW.st (g' := (mkF m 117 #[vI x0, vI x1, vI x2, vI x3, vI x4, vI (4 : Int32), vI c0, vI c1, vI c2, vI c3, vR b1170, vI (1 : Int32)] [(.ref b1170)])) (fun τ κ => XS.aload X1192.here hx rfl (hb hby at_115) rfl rfl κ) ?_
            obtain ⟨rv1196, _, ⟨T1196, L1196, k1196, n1196⟩, -, X1196, ⟨Lc1196, hQ1196, l1196, y1196, z1196⟩, st1196⟩ := Jvm.LawKit.callS X1192 hx (y := (⟨"com/example/sealgrant/sealgrant/Ascii", "printable", "(Ljava/lang/String;)Z"⟩ : MethodName)) hown (mvT hZ (w28_ hw)) (mvT hZ (w29_ hw)) (mvT hZ (w30_ hw)) (mvT hZ (w31_ hw)) (by decide) (backOf (W := 0) (rm5_4 l Z a0 hw [] b1170 cs c0 c1 c2 c3 ff T1170.heap n0 Z1170 S_1171 hcs S_1172 S_1173 S_1174 S_1175 isr_ff HS1170) hZ (w31_ hw) (w30_ hw) (by decide) (by decide)) (g := (mkF m 117 #[vI x0, vI x1, vI x2, vI x3, vI x4, vI (4 : Int32), vI c0, vI c1, vI c2, vI c3, vR b1170, vI (1 : Int32)] [(.ref b1170)])) rfl (by rw [hml]; rfl) (argsL := [(.ref b1170)]) (rest := []) (lenOf pd_18 rfl) rfl (by show 2 * 0 + _ ≤ _; exact Nat.le_of_eq rfl) (hb hby at_117) (fun _ _ => ⟨rfl, e1192, (by decide : 4 + 0 ≤ _), (by decide : 20 + 0 ≤ _)⟩)
            dsimp only [Pt.U, Pt.locs, Pt.cells, Pt.slots] at X1196 l1196 y1196 z1196 st1196 hQ1196
            subst l1196 y1196 z1196
            obtain ⟨hq1196, N1196q, e1196⟩ := hQ1196
            have hq1196 : rv1196 = some (.int (own_pr [c0, c1, c2, c3])) := hq1196
            subst hq1196
            have N1196 := Fr.app N1192 N1196q
            refine GlW.st (g' := (mkF m 120 #[vI x0, vI x1, vI x2, vI x3, vI x4, vI (4 : Int32), vI c0, vI c1, vI c2, vI c3, vR b1170, vI (1 : Int32)] [(.int (own_pr [c0, c1, c2, c3]))])) (fun τ κ => st1196 _ κ) ?_
            refine GlW.st (g' := (mkF m 122 #[vI x0, vI x1, vI x2, vI x3, vI x4, vI (4 : Int32), vI c0, vI c1, vI c2, vI c3, vR b1170, vI (1 : Int32)] [(.int (1 : Int32)), (.int (own_pr [c0, c1, c2, c3]))])) (fun τ κ => XS.iload X1196.here hx rfl (hb hby at_120) rfl κ) ?_
            have hc1197 : (own_pr [c0, c1, c2, c3]) = (1 : Int32) := by simp only [own_pr_cons, own_pr_nil, hc1178, hc1183, hc1188, hc1193, if_true, if_false]
            refine GlW.st (g' := (mkF m 126 #[vI x0, vI x1, vI x2, vI x3, vI x4, vI (4 : Int32), vI c0, vI c1, vI c2, vI c3, vR b1170, vI (1 : Int32)] [(.int (1 : Int32))])) (fun τ κ => XS.icmpNo X1196.here hx rfl (hb hby at_122) rfl (teq hc1197).2 (XS.iconst X1196.here hx rfl (hb hby at_125) κ)) ?_
            refine GlW.st (g' := (mkF m 130 #[vI x0, vI x1, vI x2, vI x3, vI x4, vI (4 : Int32), vI c0, vI c1, vI c2, vI c3, vR b1170, vI (1 : Int32)] [(.int (1 : Int32))])) (fun τ κ => XS.goto X1196.here hx rfl (pc0 := 126) (pc' := 130) rfl (hb hby at_126) (by decide) (by decide) κ) ?_
            exact GlW.ret hS0 hk1170 (v := some (.int (1 : Int32))) X1196 Bd.notSynchronized (fun h => by rw [Bd.returns] at h; cases h) e1196 (fun fs hr => retN X1196 hx (t := .boolean) Bd.returns (by simp) (hb hby at_130) hr) (by decide) (by decide) ⟨rfl, N1196⟩
set_option maxRecDepth 65536 in
set_option maxHeartbeats 40000000 in
theorem comes_1 {Post : Tables → Env → Array Value → State → Outcome → State → Prop} (hpost : ∀ tb e args s v u, (limb_1_1.after args s (.returned v) u = true ∧ limb_1_2.after args s (.returned v) u = true ∧ True) → ReturnedEndW s (.returned v) u (Jvm.fieldLocs frame_1_writes args s ++ Jvm.arrayLocs frame_1_arrays args s ++ Jvm.staticLocs frame_1_statics s) 24 1152 → Post tb e args s (.returned v) u) :
    ArmFor flags0 classFile x code maxLocals ret World_1 tables_1 room_1 Calls_1 rest_1 Pre_1 Post := by
  intro l hfl _ _ p e ha hc hk s m args below hf hA hF happ hP
  obtain ⟨hcalls, hrest, hpre⟩ := hP
  obtain ⟨-, -, -, hnamed, -, -, -, hat⟩ := (Spec.applies_iff hf).mp happ
  obtain ⟨hg, hn⟩ := and_e (Cond.before_iff.mp (show (Jvm.Cond.and given_1 narrow_1).before args s = true from hpre))
  obtain ⟨hcount, hg0⟩ := and_e hg
  obtain ⟨gi0, hg1⟩ := and_e hg0
  obtain ⟨gi1, hg2⟩ := and_e hg1
  obtain ⟨gi2, hg3⟩ := and_e hg2
  obtain ⟨gi3, hg4⟩ := and_e hg3
  have gi4 := hg4
  obtain ⟨w0, w1, w2, w3, w4, rfl⟩ : ∃ w0 w1 w2 w3 w4 : Value, args = #[w0, w1, w2, w3, w4] := by
    have hs : args.size = 5 := by simpa [Cond.value, given_1] using hcount
    obtain ⟨L⟩ := args
    match L, hs with
    | [w0, w1, w2, w3, w4], _ => exact ⟨w0, w1, w2, w3, w4, rfl⟩
  have hw := fun d (hd : d ∈ tables_1) => atoms_spec (ws := Jvm.Cond.code x code maxLocals ret :: tables_1) hat d (List.mem_cons_of_mem _ hd)
  obtain ⟨hsets, hown0⟩ := atoms_of _ (rest_1_c_eq ▸ (show rest_1_c.before _ s = true from hrest))
  have hr0 := Cond.before_iff.mp hown0
  obtain ⟨i0, ei0⟩ := is_v gi0
  obtain rfl : w0 = (.int i0) := Option.some.inj ei0
  obtain ⟨i1, ei1⟩ := is_v gi1
  obtain rfl : w1 = (.int i1) := Option.some.inj ei1
  obtain ⟨i2, ei2⟩ := is_v gi2
  obtain rfl : w2 = (.int i2) := Option.some.inj ei2
  obtain ⟨i3, ei3⟩ := is_v gi3
  obtain rfl : w3 = (.int i3) := Option.some.inj ei3
  obtain ⟨i4, ei4⟩ := is_v gi4
  obtain rfl : w4 = (.int i4) := Option.some.inj ei4
  obtain ⟨cs, evc⟩ := is_v (Cond.before_iff.mp (hsets _ (List.mem_of_getElem? (i := 1) rfl)))
  have S0 := Sta.start evc (Or.inl (hsets _ (List.mem_of_getElem? (i := 0) rfl)))
  have hcs := own_ne0 (Cond.before_iff.mp (hsets _ (List.mem_of_getElem? (i := 2) rfl))) evc
  obtain ⟨ff, evf, isr_ff⟩ := isR_v (Cond.before_iff.mp (hsets _ (List.mem_of_getElem? (i := 8) rfl)))
  have SF := Sta.start evf (Or.inl (hsets _ (List.mem_of_getElem? (i := 7) rfl)))
  have SA := Sta.start (own_eqi (Cond.before_iff.mp (hsets _ (List.mem_of_getElem? (i := 12) rfl)))) (Or.inl (hsets _ (List.mem_of_getElem? (i := 11) rfl)))
  have SH := Sta.start (own_eqi (Cond.before_iff.mp (hsets _ (List.mem_of_getElem? (i := 15) rfl)))) (Or.inl (hsets _ (List.mem_of_getElem? (i := 14) rfl)))
  have SL := Sta.start (own_eqi (Cond.before_iff.mp (hsets _ (List.mem_of_getElem? (i := 18) rfl)))) (Or.inl (hsets _ (List.mem_of_getElem? (i := 17) rfl)))
  have hCH : CHv s own_EL s.vm s.heap := CHv.start (own_EW hw) hcalls.1 (hsets _ (List.mem_of_getElem? (i := 2) rfl)) (w21_ hw) (w7_ hw)
  obtain ⟨n, o, h1, h2, h3, _, L, rfl, ⟨rfl, N⟩, hq⟩ := rm0 l s _ hw tables_1 i0 i1 i2 i3 i4 cs ff s.heap s.heap.size (Nat.le_refl _) S0 hcs SA SH SL SF isr_ff p e ha hc hk s m _ below hf ((Spec.applies_iff_loose hf).mp happ).1 ⟨rfl, State.Warmed39.refl s, rfl, hCH, fun _ q => nomatch q⟩ trivial
  refine ⟨n, _, h1, h2, h3, hpost _ _ _ _ _ _ ⟨Cond.after_iff.mpr rfl, Cond.after_iff.mpr (eq_i res_at (Term.int_eval (1)) rfl), trivial⟩ ⟨hq.1, hq.2.1, hq.2.2.1, (hq.2.2.2.sift fun y hy => Or.inr (N y hy)).mono (by decide) (by decide)⟩⟩
theorem main_1_1 : Claimed_1_1 := comes_1 fun _ _ _ _ _ _ h hF => ⟨h.1, hF⟩
theorem main_1_2 : Claimed_1_2 := comes_1 fun _ _ _ _ _ _ h hF => ⟨h.2.1, hF⟩
end Jvm.Pilot.@@N@@
namespace Jvm.Pilot.@@N@@
open Jvm Jvm.ClassFile Sem Op Lib Jvm.Free Jvm.Stand Jvm.Pilot.@@N@@.Jvm.D
/-! MADE BY PROGRAM (witnessworld.py) out of the Statement's table words and the real class files: 20 classes; the members and pool entries that the words name. The judged class is class 1, her method 1. -/
namespace start1
open Jvm.ClassFile
def u (s : String) : CpInfo := .utf8 (stringToUtf16 s)
/-- a pool by its gaps: so many unusable entries, then the entry; so many at the end -/
def gap : Nat → List CpInfo → List CpInfo
  | 0, r => r
  | n + 1, r => .unusable :: gap n r
def poolList (es : List (Nat × CpInfo)) (last : Nat) : List CpInfo := es.foldr (fun e r => gap e.1 (e.2 :: r)) (gap last [])
def pool (es : List (Nat × CpInfo)) (last : Nat) : Array CpInfo := ⟨poolList es last⟩
def fileOf (pool : Array CpInfo) (this : Nat) (attrs : Array Attribute := #[]) (ms : Array MethodInfo := #[]) (fl : Nat := 33) (sup : Nat := 0) (ifs : Array Nat := #[]) (fds : Array FieldInfo := #[]) : ClassFile where
  minorVersion := 0
  majorVersion := 65
  constantPool := pool
  accessFlags := fl
  thisClass := this
  superClass := sup
  interfaces := ifs
  fields := fds
  methods := ms
  attributes := attrs
def plain (name : String) (sup : Option ClassId) : Class where
  name := name
  kind := .ordinary
  loader := none
  accessFlags := 33
  super := sup
  interfaces := #[]
  cf := none
  fields := #[]
  methods := #[]
  instanceTypes := #[]
  staticTypes := #[]
  resolved := #[]
  callSites := []
  init := .initialized
  statics := none
  mirror := none

def pool0 : Array CpInfo := pool [(5, u "<init>"), (0, u "()V"), (1, .class_ 10), (1, u "java/lang/Object")] 113

def k0c0 : Code := { maxStack := 0, maxLocals := 1, code := object_method_1_code, exceptionTable := #[], attributes := #[] }
def k0m0 : Method := { name := "<init>", desc := "()V", sig := { parameters := [], returnType := none }, accessFlags := 1, code := some k0c0 }
/-- java/lang/Object -/
def k0 : Class := { plain "java/lang/Object" none with
  accessFlags := 33
  interfaces := #[]
  cf := some (fileOf pool0 8 #[] #[{ accessFlags := 1, nameIndex := 5, descriptorIndex := 6, attributes := #[] }] 33 0 #[] #[])
  fields := #[]
  methods := #[k0m0]
  instanceTypes := #[]
  staticTypes := #[]
  resolved := Array.replicate 124 none
  statics := none }

def pool1 : Array CpInfo := pool [(2, .class_ 4), (1, u "java/lang/Object"), (0, u "<init>"), (0, u "()V"), (0, .integer 2147483647), (0, .integer 65535), (0, .methodref 10 11), (0, .class_ 12), (0, .nameAndType 13 14), (0, u "com/example/sealgrant/sealgrant/AsciiPrintablePinLaw"), (0, u "make"), (0, u "(ICCCC)Ljava/lang/String;"), (0, .methodref 10 16), (0, .nameAndType 17 18), (0, u "ok"), (0, u "(C)Z"), (0, .methodref 20 21), (0, .class_ 22), (0, .nameAndType 23 24), (0, u "com/example/sealgrant/sealgrant/Ascii"), (0, u "printable"), (0, u "(Ljava/lang/String;)Z"), (0, .class_ 26), (0, u "java/lang/String"), (0, .methodref 25 28), (0, .nameAndType 5 29), (0, u "([C)V"), (2, u "law"), (0, u "(IIIII)Z")] 3

def k1m0 : Method := { name := "<init>", desc := "()V", sig := { parameters := [], returnType := none }, accessFlags := 2, code := none }
def k1c1 : Code := { maxStack := 5, maxLocals := 12, code := code, exceptionTable := #[], attributes := #[] }
def k1m1 : Method := { name := "law", desc := "(IIIII)Z", sig := { parameters := [.int, .int, .int, .int, .int], returnType := some .boolean }, accessFlags := 9, code := some k1c1 }
def k1c2 : Code := { maxStack := 2, maxLocals := 2, code := method_3_code, exceptionTable := #[], attributes := #[] }
def k1m2 : Method := { name := "ok", desc := "(C)Z", sig := { parameters := [.char], returnType := some .boolean }, accessFlags := 10, code := some k1c2 }
def k1c3 : Code := { maxStack := 6, maxLocals := 5, code := method_4_code, exceptionTable := #[], attributes := #[] }
def k1m3 : Method := { name := "make", desc := "(ICCCC)Ljava/lang/String;", sig := { parameters := [.int, .char, .char, .char, .char], returnType := some (.object "java/lang/String") }, accessFlags := 10, code := some k1c3 }
/-- com/example/sealgrant/sealgrant/AsciiPrintablePinLaw -/
def k1 : Class := { plain "com/example/sealgrant/sealgrant/AsciiPrintablePinLaw" (some 0) with
  accessFlags := 49
  interfaces := #[]
  cf := some (fileOf pool1 10 #[] #[{ accessFlags := 2, nameIndex := 5, descriptorIndex := 6, attributes := #[] }, { accessFlags := 9, nameIndex := 32, descriptorIndex := 33, attributes := #[] }, { accessFlags := 10, nameIndex := 17, descriptorIndex := 18, attributes := #[] }, { accessFlags := 10, nameIndex := 13, descriptorIndex := 14, attributes := #[] }] 49 2 #[] #[])
  fields := #[]
  methods := #[k1m0, k1m1, k1m2, k1m3]
  instanceTypes := #[]
  staticTypes := #[]
  resolved := Array.replicate 37 none
  statics := none }

def pool2 : Array CpInfo := pool [(1, .class_ 2), (0, u "java/io/Serializable"), (0, .class_ 4), (0, u "java/lang/Object")] 2

/-- java/io/Serializable -/
def k2 : Class := { plain "java/io/Serializable" (some 0) with
  accessFlags := 1537
  interfaces := #[]
  cf := some (fileOf pool2 1 #[] #[] 1537 3 #[] #[])
  fields := #[]
  methods := #[]
  instanceTypes := #[]
  staticTypes := #[]
  resolved := Array.replicate 7 none
  statics := none }

def pool3 : Array CpInfo := pool [(1, .class_ 2), (0, u "java/lang/Comparable"), (0, .class_ 4), (0, u "java/lang/Object")] 7

/-- java/lang/Comparable -/
def k3 : Class := { plain "java/lang/Comparable" (some 0) with
  accessFlags := 1537
  interfaces := #[]
  cf := some (fileOf pool3 1 #[] #[] 1537 3 #[] #[])
  fields := #[]
  methods := #[]
  instanceTypes := #[]
  staticTypes := #[]
  resolved := Array.replicate 12 none
  statics := none }

def pool4 : Array CpInfo := pool [(2, .class_ 4), (1, u "java/lang/CharSequence"), (42, .class_ 48), (0, u "java/lang/CharSequence$1CodePointIterator"), (10, .class_ 60), (0, u "java/lang/CharSequence$1CharIterator"), (5, .class_ 67), (0, u "java/lang/Object")] 63

/-- java/lang/CharSequence -/
def k4 : Class := { plain "java/lang/CharSequence" (some 0) with
  accessFlags := 1537
  interfaces := #[]
  cf := some (fileOf pool4 2 #[.nestMembers #[47, 59]] #[] 1537 66 #[] #[])
  fields := #[]
  methods := #[]
  instanceTypes := #[]
  staticTypes := #[]
  resolved := Array.replicate 131 none
  statics := none }

def pool5 : Array CpInfo := pool [(1, .class_ 2), (0, u "java/lang/constant/Constable"), (0, .class_ 4), (0, u "java/lang/Object")] 6

/-- java/lang/constant/Constable -/
def k5 : Class := { plain "java/lang/constant/Constable" (some 0) with
  accessFlags := 1537
  interfaces := #[]
  cf := some (fileOf pool5 1 #[] #[] 1537 3 #[] #[])
  fields := #[]
  methods := #[]
  instanceTypes := #[]
  staticTypes := #[]
  resolved := Array.replicate 11 none
  statics := none }

def pool6 : Array CpInfo := pool [(1, .class_ 2), (0, u "java/lang/constant/ConstantDesc"), (0, .class_ 4), (0, u "java/lang/Object")] 32

/-- java/lang/constant/ConstantDesc -/
def k6 : Class := { plain "java/lang/constant/ConstantDesc" (some 0) with
  accessFlags := 1537
  interfaces := #[]
  cf := some (fileOf pool6 1 #[] #[] 1537 3 #[] #[])
  fields := #[]
  methods := #[]
  instanceTypes := #[]
  staticTypes := #[]
  resolved := Array.replicate 37 none
  statics := none }

def pool7 : Array CpInfo := pool [(1, .methodref 2 3), (0, .class_ 4), (0, .nameAndType 5 6), (0, u "java/lang/Object"), (0, u "<init>"), (0, u "()V"), (0, .string 8), (0, u ""), (0, .fieldref 10 11), (0, .class_ 12), (0, .nameAndType 13 14), (0, u "java/lang/String"), (0, u "value"), (0, u "[B"), (0, .fieldref 10 16), (0, .nameAndType 17 18), (0, u "coder"), (0, u "B"), (2, u "hash"), (0, u "I"), (2, u "hashIsZero"), (0, u "Z"), (0, .methodref 10 28), (0, .nameAndType 5 29), (0, u "([CIILjava/lang/Void;)V"), (8, .fieldref 10 39), (0, .nameAndType 40 26), (0, u "COMPACT_STRINGS"), (1, .class_ 44), (1, u "java/lang/StringUTF16"), (0, u "compress"), (1, .methodref 42 48), (0, .nameAndType 49 50), (0, u "coderFromArrayLen"), (0, u "([BI)B"), (56, .class_ 109), (1, u "java/lang/StringLatin1"), (32, u "()Z"), (34, .methodref 42 178), (0, .nameAndType 45 179), (0, u "([CII)[B"), (154, u "()I"), (0, .methodref 10 336), (0, .nameAndType 17 337), (0, u "()B"), (25, u "([BI)C"), (27, u "(II)V"), (35, u "(I)C"), (64, .methodref 10 493), (0, .nameAndType 494 142), (0, u "isLatin1"), (0, .methodref 107 496), (0, .nameAndType 497 363), (0, u "charAt"), (0, .methodref 42 496), (2, u "checkIndex"), (5, u "length"), (67, .class_ 576), (0, u "java/lang/CharSequence"), (22, u "CASE_INSENSITIVE_ORDER"), (0, u "Ljava/util/Comparator;"), (409, u "([C)V"), (42, .fieldref 1054 1055), (0, .class_ 1056), (0, .nameAndType 1057 1058), (0, u "jdk/internal/util/Preconditions"), (0, u "SIOOBE_FORMATTER"), (0, u "Ljava/util/function/BiFunction;"), (0, .methodref 1054 1060), (0, .nameAndType 501 1061), (0, u "(IILjava/util/function/BiFunction;)I"), (39, u "serialPersistentFields"), (0, u "[Ljava/io/ObjectStreamField;"), (0, .class_ 1104), (0, u "java/lang/String$CaseInsensitiveComparator"), (1, .class_ 1107), (0, u "java/io/Serializable"), (0, .class_ 1109), (0, u "java/lang/Comparable"), (0, .class_ 1111), (0, u "java/lang/constant/Constable"), (0, .class_ 1113), (0, u "java/lang/constant/ConstantDesc"), (2, u "serialVersionUID"), (0, u "J"), (3, u "REPL"), (0, u "C"), (2, u "LATIN1"), (1, u "UTF16")] 323

def k7m0 : Method := { name := "<init>", desc := "()V", sig := { parameters := [], returnType := none }, accessFlags := 1, code := none }
def k7c1 : Code := { maxStack := 5, maxLocals := 2, code := jdk_42_method_3_code, exceptionTable := #[], attributes := #[] }
def k7m1 : Method := { name := "<init>", desc := "([C)V", sig := { parameters := [(.array .char)], returnType := none }, accessFlags := 1, code := some k7c1 }
def k7c2 : Code := { maxStack := 2, maxLocals := 1, code := jdk_42_method_54_code, exceptionTable := #[], attributes := #[] }
def k7m2 : Method := { name := "length", desc := "()I", sig := { parameters := [], returnType := some .int }, accessFlags := 1, code := some k7c2 }
def k7c3 : Code := { maxStack := 2, maxLocals := 2, code := jdk_42_method_56_code, exceptionTable := #[], attributes := #[] }
def k7m3 : Method := { name := "charAt", desc := "(I)C", sig := { parameters := [.int], returnType := some .char }, accessFlags := 1, code := some k7c3 }
def k7c4 : Code := { maxStack := 4, maxLocals := 6, code := jdk_42_method_149_code, exceptionTable := #[], attributes := #[] }
def k7m4 : Method := { name := "<init>", desc := "([CIILjava/lang/Void;)V", sig := { parameters := [(.array .char), .int, .int, (.object "java/lang/Void")], returnType := none }, accessFlags := 2, code := some k7c4 }
def k7c5 : Code := { maxStack := 1, maxLocals := 1, code := jdk_42_method_152_code, exceptionTable := #[], attributes := #[] }
def k7m5 : Method := { name := "coder", desc := "()B", sig := { parameters := [], returnType := some .byte }, accessFlags := 0, code := some k7c5 }
def k7c6 : Code := { maxStack := 1, maxLocals := 1, code := jdk_42_method_154_code, exceptionTable := #[], attributes := #[] }
def k7m6 : Method := { name := "isLatin1", desc := "()Z", sig := { parameters := [], returnType := some .boolean }, accessFlags := 0, code := some k7c6 }
def k7c7 : Code := { maxStack := 3, maxLocals := 2, code := jdk_42_method_155_code, exceptionTable := #[], attributes := #[] }
def k7m7 : Method := { name := "checkIndex", desc := "(II)V", sig := { parameters := [.int, .int], returnType := none }, accessFlags := 8, code := some k7c7 }
/-- java/lang/String -/
def k7 : Class := { plain "java/lang/String" (some 0) with
  accessFlags := 49
  interfaces := #[2, 3, 4, 5, 6]
  cf := some (fileOf pool7 10 #[.nestMembers #[1103]] #[{ accessFlags := 1, nameIndex := 5, descriptorIndex := 6, attributes := #[] }, { accessFlags := 1, nameIndex := 5, descriptorIndex := 1010, attributes := #[] }, { accessFlags := 1, nameIndex := 507, descriptorIndex := 334, attributes := #[] }, { accessFlags := 1, nameIndex := 497, descriptorIndex := 427, attributes := #[] }, { accessFlags := 2, nameIndex := 5, descriptorIndex := 29, attributes := #[] }, { accessFlags := 0, nameIndex := 17, descriptorIndex := 337, attributes := #[] }, { accessFlags := 0, nameIndex := 494, descriptorIndex := 142, attributes := #[] }, { accessFlags := 8, nameIndex := 501, descriptorIndex := 391, attributes := #[] }] 49 2 #[1106, 1108, 575, 1110, 1112] #[{ accessFlags := 18, nameIndex := 13, descriptorIndex := 14, attributes := #[] }, { accessFlags := 18, nameIndex := 17, descriptorIndex := 18, attributes := #[] }, { accessFlags := 2, nameIndex := 21, descriptorIndex := 22, attributes := #[] }, { accessFlags := 2, nameIndex := 25, descriptorIndex := 26, attributes := #[] }, { accessFlags := 26, nameIndex := 1116, descriptorIndex := 1117, attributes := #[] }, { accessFlags := 24, nameIndex := 40, descriptorIndex := 26, attributes := #[] }, { accessFlags := 26, nameIndex := 1101, descriptorIndex := 1102, attributes := #[] }, { accessFlags := 26, nameIndex := 1121, descriptorIndex := 1122, attributes := #[] }, { accessFlags := 25, nameIndex := 599, descriptorIndex := 600, attributes := #[] }, { accessFlags := 24, nameIndex := 1125, descriptorIndex := 18, attributes := #[] }, { accessFlags := 24, nameIndex := 1127, descriptorIndex := 18, attributes := #[] }])
  fields := #[{ name := "value", type := (.array .byte), accessFlags := 18, slot := 0, constantValue := 0 }, { name := "coder", type := .byte, accessFlags := 18, slot := 1, constantValue := 0 }, { name := "hash", type := .int, accessFlags := 2, slot := 2, constantValue := 0 }, { name := "hashIsZero", type := .boolean, accessFlags := 2, slot := 3, constantValue := 0 }, { name := "serialVersionUID", type := .long, accessFlags := 26, slot := 0, constantValue := 0 }, { name := "COMPACT_STRINGS", type := .boolean, accessFlags := 24, slot := 1, constantValue := 0 }, { name := "serialPersistentFields", type := (.array (.object "java/io/ObjectStreamField")), accessFlags := 26, slot := 2, constantValue := 0 }, { name := "REPL", type := .char, accessFlags := 26, slot := 3, constantValue := 0 }, { name := "CASE_INSENSITIVE_ORDER", type := (.object "java/util/Comparator"), accessFlags := 25, slot := 4, constantValue := 0 }, { name := "LATIN1", type := .byte, accessFlags := 24, slot := 5, constantValue := 0 }, { name := "UTF16", type := .byte, accessFlags := 24, slot := 6, constantValue := 0 }]
  methods := #[k7m0, k7m1, k7m2, k7m3, k7m4, k7m5, k7m6, k7m7]
  instanceTypes := #[(.array .byte), .byte, .int, .boolean]
  staticTypes := #[.long, .boolean, (.array (.object "java/io/ObjectStreamField")), .char, (.object "java/util/Comparator"), .byte, .byte]
  resolved := Array.replicate 1451 none
  statics := some 0 }

def pool8 : Array CpInfo := pool [(2, .class_ 4), (1, u "java/lang/Object"), (0, u "<init>"), (0, u "()V"), (1, .class_ 10), (1, u "java/lang/String"), (2, .methodref 8 14), (0, .nameAndType 15 16), (0, u "length"), (0, u "()I"), (0, .methodref 8 18), (0, .nameAndType 19 20), (0, u "charAt"), (0, u "(I)C"), (1, .class_ 24), (1, u "com/example/sealgrant/sealgrant/Ascii"), (5, u "(Ljava/lang/String;)Z"), (2, u "printable")] 2

def k8m0 : Method := { name := "<init>", desc := "()V", sig := { parameters := [], returnType := none }, accessFlags := 2, code := none }
def k8c1 : Code := { maxStack := 2, maxLocals := 2, code := prog_1_method_4_code, exceptionTable := #[], attributes := #[] }
def k8m1 : Method := { name := "printable", desc := "(Ljava/lang/String;)Z", sig := { parameters := [(.object "java/lang/String")], returnType := some .boolean }, accessFlags := 8, code := some k8c1 }
/-- com/example/sealgrant/sealgrant/Ascii -/
def k8 : Class := { plain "com/example/sealgrant/sealgrant/Ascii" (some 0) with
  accessFlags := 48
  interfaces := #[]
  cf := some (fileOf pool8 22 #[] #[{ accessFlags := 2, nameIndex := 5, descriptorIndex := 6, attributes := #[] }, { accessFlags := 8, nameIndex := 33, descriptorIndex := 30, attributes := #[] }] 48 2 #[] #[])
  fields := #[]
  methods := #[k8m0, k8m1]
  instanceTypes := #[]
  staticTypes := #[]
  resolved := Array.replicate 36 none
  statics := none }

def pool9 : Array CpInfo := pool [(3, .class_ 4), (0, u "java/lang/String"), (1, .class_ 8), (1, u "java/lang/Object"), (0, u "<init>"), (0, u "()V"), (0, .methodref 12 13), (0, .class_ 14), (0, .nameAndType 15 16), (0, u "java/lang/StringUTF16"), (0, u "newBytesLength"), (0, u "(I)I"), (3, .integer 1073741823), (23, .fieldref 12 45), (0, .nameAndType 46 47), (0, u "$assertionsDisabled"), (0, u "Z"), (0, .methodref 12 49), (0, .nameAndType 50 51), (0, u "length"), (0, u "([B)I"), (7, .fieldref 12 60), (0, .nameAndType 61 62), (0, u "HI_BYTE_SHIFT"), (0, u "I"), (0, .fieldref 12 64), (0, .nameAndType 65 62), (0, u "LO_BYTE_SHIFT"), (1, .methodref 12 68), (0, .nameAndType 69 70), (0, u "checkIndex"), (0, u "(I[B)V"), (0, .methodref 12 72), (0, .nameAndType 73 74), (0, u "getChar"), (0, u "([BI)C"), (32, .methodref 12 108), (0, .nameAndType 109 110), (0, u "newBytesFor"), (0, u "(I)[B"), (0, .methodref 12 112), (0, .nameAndType 113 114), (0, u "putChar"), (0, u "([BII)V"), (0, .methodref 12 116), (0, .nameAndType 117 118), (0, u "compress"), (0, u "([CI[BII)I"), (0, .methodref 12 120), (0, .nameAndType 121 122), (0, u "toBytes"), (0, u "([CII)[B"), (138, u "coderFromArrayLen"), (0, u "([BI)B"), (106, .class_ 371), (1, u "java/lang/StringUTF16$LinesSpliterator"), (20, u "charAt"), (21, .methodref 3 415), (0, .nameAndType 69 416), (0, u "(II)V"), (13, u "MAX_LENGTH"), (196, .class_ 628), (0, u "java/lang/StringUTF16$CodePointsSpliterator"), (0, .class_ 630), (0, u "java/lang/StringUTF16$CharsSpliterator")] 4

def k9m0 : Method := { name := "<init>", desc := "()V", sig := { parameters := [], returnType := none }, accessFlags := 0, code := none }
def k9c1 : Code := { maxStack := 1, maxLocals := 1, code := jdk_52_method_2_code, exceptionTable := #[], attributes := #[] }
def k9m1 : Method := { name := "newBytesFor", desc := "(I)[B", sig := { parameters := [.int], returnType := some (.array .byte) }, accessFlags := 9, code := some k9c1 }
def k9c2 : Code := { maxStack := 4, maxLocals := 1, code := jdk_52_method_3_code, exceptionTable := #[], attributes := #[] }
def k9m2 : Method := { name := "newBytesLength", desc := "(I)I", sig := { parameters := [.int], returnType := some .int }, accessFlags := 9, code := some k9c2 }
def k9c3 : Code := { maxStack := 4, maxLocals := 3, code := jdk_52_method_4_code, exceptionTable := #[], attributes := #[] }
def k9m3 : Method := { name := "putChar", desc := "([BII)V", sig := { parameters := [(.array .byte), .int, .int], returnType := none }, accessFlags := 8, code := some k9c3 }
def k9c4 : Code := { maxStack := 3, maxLocals := 2, code := jdk_52_method_5_code, exceptionTable := #[], attributes := #[] }
def k9m4 : Method := { name := "getChar", desc := "([BI)C", sig := { parameters := [(.array .byte), .int], returnType := some .char }, accessFlags := 8, code := some k9c4 }
def k9c5 : Code := { maxStack := 2, maxLocals := 1, code := jdk_52_method_6_code, exceptionTable := #[], attributes := #[] }
def k9m5 : Method := { name := "length", desc := "([B)I", sig := { parameters := [(.array .byte)], returnType := some .int }, accessFlags := 9, code := some k9c5 }
def k9c6 : Code := { maxStack := 4, maxLocals := 5, code := jdk_52_method_14_code, exceptionTable := #[], attributes := #[] }
def k9m6 : Method := { name := "toBytes", desc := "([CII)[B", sig := { parameters := [(.array .char), .int, .int], returnType := some (.array .byte) }, accessFlags := 9, code := some k9c6 }
def k9c7 : Code := { maxStack := 2, maxLocals := 2, code := jdk_52_method_15_code, exceptionTable := #[], attributes := #[] }
def k9m7 : Method := { name := "coderFromArrayLen", desc := "([BI)B", sig := { parameters := [(.array .byte), .int], returnType := some .byte }, accessFlags := 8, code := some k9c7 }
def k9c8 : Code := { maxStack := 5, maxLocals := 6, code := jdk_52_method_16_code, exceptionTable := #[], attributes := #[] }
def k9m8 : Method := { name := "compress", desc := "([CII)[B", sig := { parameters := [(.array .char), .int, .int], returnType := some (.array .byte) }, accessFlags := 9, code := some k9c8 }
def k9c9 : Code := { maxStack := 3, maxLocals := 7, code := jdk_52_method_21_code, exceptionTable := #[], attributes := #[] }
def k9m9 : Method := { name := "compress", desc := "([CI[BII)I", sig := { parameters := [(.array .char), .int, (.array .byte), .int, .int], returnType := some .int }, accessFlags := 9, code := some k9c9 }
def k9c10 : Code := { maxStack := 2, maxLocals := 2, code := jdk_52_method_83_code, exceptionTable := #[], attributes := #[] }
def k9m10 : Method := { name := "charAt", desc := "([BI)C", sig := { parameters := [(.array .byte), .int], returnType := some .char }, accessFlags := 9, code := some k9c10 }
def k9c11 : Code := { maxStack := 2, maxLocals := 2, code := jdk_52_method_91_code, exceptionTable := #[], attributes := #[] }
def k9m11 : Method := { name := "checkIndex", desc := "(I[B)V", sig := { parameters := [.int, (.array .byte)], returnType := none }, accessFlags := 9, code := some k9c11 }
/-- java/lang/StringUTF16 -/
def k9 : Class := { plain "java/lang/StringUTF16" (some 0) with
  accessFlags := 48
  interfaces := #[]
  cf := some (fileOf pool9 12 #[.nestMembers #[627, 629, 369]] #[{ accessFlags := 0, nameIndex := 9, descriptorIndex := 10, attributes := #[] }, { accessFlags := 9, nameIndex := 109, descriptorIndex := 110, attributes := #[] }, { accessFlags := 9, nameIndex := 15, descriptorIndex := 16, attributes := #[] }, { accessFlags := 8, nameIndex := 113, descriptorIndex := 114, attributes := #[] }, { accessFlags := 8, nameIndex := 73, descriptorIndex := 74, attributes := #[] }, { accessFlags := 9, nameIndex := 50, descriptorIndex := 51, attributes := #[] }, { accessFlags := 9, nameIndex := 121, descriptorIndex := 122, attributes := #[] }, { accessFlags := 8, nameIndex := 261, descriptorIndex := 262, attributes := #[] }, { accessFlags := 9, nameIndex := 117, descriptorIndex := 122, attributes := #[] }, { accessFlags := 9, nameIndex := 117, descriptorIndex := 118, attributes := #[] }, { accessFlags := 9, nameIndex := 392, descriptorIndex := 74, attributes := #[] }, { accessFlags := 9, nameIndex := 69, descriptorIndex := 70, attributes := #[] }] 48 6 #[] #[{ accessFlags := 26, nameIndex := 61, descriptorIndex := 62, attributes := #[] }, { accessFlags := 26, nameIndex := 65, descriptorIndex := 62, attributes := #[] }, { accessFlags := 24, nameIndex := 430, descriptorIndex := 62, attributes := #[] }, { accessFlags := 4120, nameIndex := 46, descriptorIndex := 47, attributes := #[] }])
  fields := #[{ name := "HI_BYTE_SHIFT", type := .int, accessFlags := 26, slot := 0, constantValue := 0 }, { name := "LO_BYTE_SHIFT", type := .int, accessFlags := 26, slot := 1, constantValue := 0 }, { name := "MAX_LENGTH", type := .int, accessFlags := 24, slot := 2, constantValue := 0 }, { name := "$assertionsDisabled", type := .boolean, accessFlags := 4120, slot := 3, constantValue := 0 }]
  methods := #[k9m0, k9m1, k9m2, k9m3, k9m4, k9m5, k9m6, k9m7, k9m8, k9m9, k9m10, k9m11]
  instanceTypes := #[]
  staticTypes := #[.int, .int, .int, .boolean]
  resolved := Array.replicate 635 none
  statics := some 1 }

def pool10 : Array CpInfo := pool [(1, .class_ 2), (0, u "java/lang/String"), (1, .class_ 6), (1, u "java/lang/Object"), (0, u "<init>"), (0, u "()V"), (0, .methodref 1 10), (0, .nameAndType 11 12), (0, u "checkIndex"), (0, u "(II)V"), (1, .class_ 16), (1, u "java/lang/StringLatin1"), (36, u "([BI)C"), (67, u "$assertionsDisabled"), (0, u "Z"), (98, .class_ 223), (1, u "java/lang/StringLatin1$LinesSpliterator"), (28, u "charAt"), (137, .class_ 391), (0, u "java/lang/StringLatin1$CharsSpliterator")] 3

def k10m0 : Method := { name := "<init>", desc := "()V", sig := { parameters := [], returnType := none }, accessFlags := 0, code := none }
def k10c1 : Code := { maxStack := 2, maxLocals := 2, code := jdk_43_method_2_code, exceptionTable := #[], attributes := #[] }
def k10m1 : Method := { name := "charAt", desc := "([BI)C", sig := { parameters := [(.array .byte), .int], returnType := some .char }, accessFlags := 9, code := some k10c1 }
/-- java/lang/StringLatin1 -/
def k10 : Class := { plain "java/lang/StringLatin1" (some 0) with
  accessFlags := 48
  interfaces := #[]
  cf := some (fileOf pool10 14 #[.nestMembers #[390, 221]] #[{ accessFlags := 0, nameIndex := 7, descriptorIndex := 8, attributes := #[] }, { accessFlags := 9, nameIndex := 252, descriptorIndex := 53, attributes := #[] }] 48 4 #[] #[{ accessFlags := 4120, nameIndex := 121, descriptorIndex := 122, attributes := #[] }])
  fields := #[{ name := "$assertionsDisabled", type := .boolean, accessFlags := 4120, slot := 0, constantValue := 0 }]
  methods := #[k10m0, k10m1]
  instanceTypes := #[]
  staticTypes := #[.boolean]
  resolved := Array.replicate 395 none
  statics := none }

def pool11 : Array CpInfo := pool [(2, .class_ 4), (1, u "java/lang/Object"), (0, u "<init>"), (0, u "()V"), (17, .class_ 26), (1, u "jdk/internal/util/Preconditions"), (6, u "checkIndex"), (21, .class_ 56), (0, u "jdk/internal/util/Preconditions$4"), (57, .class_ 115), (0, u "jdk/internal/util/Preconditions$1"), (7, u "SIOOBE_FORMATTER"), (0, u "Ljava/util/function/BiFunction;"), (0, .class_ 126), (0, u "jdk/internal/util/Preconditions$2"), (3, u "AIOOBE_FORMATTER"), (0, .class_ 132), (0, u "jdk/internal/util/Preconditions$3"), (3, u "IOOBE_FORMATTER"), (41, u "(IILjava/util/function/BiFunction;)I")] 15

def k11m0 : Method := { name := "<init>", desc := "()V", sig := { parameters := [], returnType := none }, accessFlags := 1, code := none }
def k11c1 : Code := { maxStack := 3, maxLocals := 3, code := jdk_41_method_11_code, exceptionTable := #[], attributes := #[] }
def k11m1 : Method := { name := "checkIndex", desc := "(IILjava/util/function/BiFunction;)I", sig := { parameters := [.int, .int, (.object "java/util/function/BiFunction")], returnType := some .int }, accessFlags := 9, code := some k11c1 }
/-- jdk/internal/util/Preconditions -/
def k11 : Class := { plain "jdk/internal/util/Preconditions" (some 0) with
  accessFlags := 33
  interfaces := #[]
  cf := some (fileOf pool11 24 #[.nestMembers #[55, 131, 125, 114]] #[{ accessFlags := 1, nameIndex := 5, descriptorIndex := 6, attributes := #[] }, { accessFlags := 9, nameIndex := 33, descriptorIndex := 178, attributes := #[] }] 33 2 #[] #[{ accessFlags := 25, nameIndex := 123, descriptorIndex := 124, attributes := #[] }, { accessFlags := 25, nameIndex := 130, descriptorIndex := 124, attributes := #[] }, { accessFlags := 25, nameIndex := 136, descriptorIndex := 124, attributes := #[] }])
  fields := #[{ name := "SIOOBE_FORMATTER", type := (.object "java/util/function/BiFunction"), accessFlags := 25, slot := 0, constantValue := 0 }, { name := "AIOOBE_FORMATTER", type := (.object "java/util/function/BiFunction"), accessFlags := 25, slot := 1, constantValue := 0 }, { name := "IOOBE_FORMATTER", type := (.object "java/util/function/BiFunction"), accessFlags := 25, slot := 2, constantValue := 0 }]
  methods := #[k11m0, k11m1]
  instanceTypes := #[]
  staticTypes := #[(.object "java/util/function/BiFunction"), (.object "java/util/function/BiFunction"), (.object "java/util/function/BiFunction")]
  resolved := Array.replicate 194 none
  statics := some 2 }

def pool12 : Array CpInfo := pool [(9, u "<init>"), (6, .class_ 18), (1, u "java/lang/Object"), (0, u "()V"), (1, .class_ 23), (1, u "jdk/internal/util/ArraysSupport"), (0, u "LOG2_ARRAY_LONG_INDEX_SCALE"), (0, u "I"), (2, u "U"), (0, u "Ljdk/internal/misc/Unsafe;"), (8, u "BIG_ENDIAN"), (0, u "Z"), (8, u "LOG2_BYTE_BIT_SIZE"), (4, u "LOG2_ARRAY_INT_INDEX_SCALE"), (54, u "JLA"), (0, u "Ljdk/internal/access/JavaLangAccess;"), (11, u "LOG2_ARRAY_BOOLEAN_INDEX_SCALE"), (9, u "LOG2_ARRAY_BYTE_INDEX_SCALE"), (5, u "LOG2_ARRAY_CHAR_INDEX_SCALE"), (5, u "LOG2_ARRAY_SHORT_INDEX_SCALE"), (18, u "LOG2_ARRAY_FLOAT_INDEX_SCALE"), (24, u "LOG2_ARRAY_DOUBLE_INDEX_SCALE"), (89, u "T_BOOLEAN"), (2, u "T_CHAR"), (1, u "T_FLOAT"), (1, u "T_DOUBLE"), (1, u "T_BYTE"), (1, u "T_SHORT"), (1, u "T_INT"), (1, u "T_LONG"), (1, u "SOFT_MAX_ARRAY_LENGTH")] 83

def k12m0 : Method := { name := "<init>", desc := "()V", sig := { parameters := [], returnType := none }, accessFlags := 2, code := none }
/-- jdk/internal/util/ArraysSupport -/
def k12 : Class := { plain "jdk/internal/util/ArraysSupport" (some 0) with
  accessFlags := 33
  interfaces := #[]
  cf := some (fileOf pool12 21 #[] #[{ accessFlags := 2, nameIndex := 9, descriptorIndex := 19, attributes := #[] }] 33 16 #[] #[{ accessFlags := 24, nameIndex := 28, descriptorIndex := 29, attributes := #[] }, { accessFlags := 26, nameIndex := 38, descriptorIndex := 39, attributes := #[] }, { accessFlags := 25, nameIndex := 121, descriptorIndex := 25, attributes := #[] }, { accessFlags := 25, nameIndex := 131, descriptorIndex := 25, attributes := #[] }, { accessFlags := 25, nameIndex := 137, descriptorIndex := 25, attributes := #[] }, { accessFlags := 25, nameIndex := 143, descriptorIndex := 25, attributes := #[] }, { accessFlags := 25, nameIndex := 53, descriptorIndex := 25, attributes := #[] }, { accessFlags := 25, nameIndex := 24, descriptorIndex := 25, attributes := #[] }, { accessFlags := 25, nameIndex := 162, descriptorIndex := 25, attributes := #[] }, { accessFlags := 25, nameIndex := 187, descriptorIndex := 25, attributes := #[] }, { accessFlags := 26, nameIndex := 48, descriptorIndex := 25, attributes := #[] }, { accessFlags := 25, nameIndex := 277, descriptorIndex := 25, attributes := #[] }, { accessFlags := 25, nameIndex := 280, descriptorIndex := 25, attributes := #[] }, { accessFlags := 25, nameIndex := 282, descriptorIndex := 25, attributes := #[] }, { accessFlags := 25, nameIndex := 284, descriptorIndex := 25, attributes := #[] }, { accessFlags := 25, nameIndex := 286, descriptorIndex := 25, attributes := #[] }, { accessFlags := 25, nameIndex := 288, descriptorIndex := 25, attributes := #[] }, { accessFlags := 25, nameIndex := 290, descriptorIndex := 25, attributes := #[] }, { accessFlags := 25, nameIndex := 292, descriptorIndex := 25, attributes := #[] }, { accessFlags := 26, nameIndex := 108, descriptorIndex := 109, attributes := #[] }, { accessFlags := 25, nameIndex := 294, descriptorIndex := 25, attributes := #[] }])
  fields := #[{ name := "U", type := (.object "jdk/internal/misc/Unsafe"), accessFlags := 24, slot := 0, constantValue := 0 }, { name := "BIG_ENDIAN", type := .boolean, accessFlags := 26, slot := 1, constantValue := 0 }, { name := "LOG2_ARRAY_BOOLEAN_INDEX_SCALE", type := .int, accessFlags := 25, slot := 2, constantValue := 0 }, { name := "LOG2_ARRAY_BYTE_INDEX_SCALE", type := .int, accessFlags := 25, slot := 3, constantValue := 0 }, { name := "LOG2_ARRAY_CHAR_INDEX_SCALE", type := .int, accessFlags := 25, slot := 4, constantValue := 0 }, { name := "LOG2_ARRAY_SHORT_INDEX_SCALE", type := .int, accessFlags := 25, slot := 5, constantValue := 0 }, { name := "LOG2_ARRAY_INT_INDEX_SCALE", type := .int, accessFlags := 25, slot := 6, constantValue := 0 }, { name := "LOG2_ARRAY_LONG_INDEX_SCALE", type := .int, accessFlags := 25, slot := 7, constantValue := 0 }, { name := "LOG2_ARRAY_FLOAT_INDEX_SCALE", type := .int, accessFlags := 25, slot := 8, constantValue := 0 }, { name := "LOG2_ARRAY_DOUBLE_INDEX_SCALE", type := .int, accessFlags := 25, slot := 9, constantValue := 0 }, { name := "LOG2_BYTE_BIT_SIZE", type := .int, accessFlags := 26, slot := 10, constantValue := 0 }, { name := "T_BOOLEAN", type := .int, accessFlags := 25, slot := 11, constantValue := 0 }, { name := "T_CHAR", type := .int, accessFlags := 25, slot := 12, constantValue := 0 }, { name := "T_FLOAT", type := .int, accessFlags := 25, slot := 13, constantValue := 0 }, { name := "T_DOUBLE", type := .int, accessFlags := 25, slot := 14, constantValue := 0 }, { name := "T_BYTE", type := .int, accessFlags := 25, slot := 15, constantValue := 0 }, { name := "T_SHORT", type := .int, accessFlags := 25, slot := 16, constantValue := 0 }, { name := "T_INT", type := .int, accessFlags := 25, slot := 17, constantValue := 0 }, { name := "T_LONG", type := .int, accessFlags := 25, slot := 18, constantValue := 0 }, { name := "JLA", type := (.object "jdk/internal/access/JavaLangAccess"), accessFlags := 26, slot := 19, constantValue := 0 }, { name := "SOFT_MAX_ARRAY_LENGTH", type := .int, accessFlags := 25, slot := 20, constantValue := 0 }]
  methods := #[k12m0]
  instanceTypes := #[]
  staticTypes := #[(.object "jdk/internal/misc/Unsafe"), .boolean, .int, .int, .int, .int, .int, .int, .int, .int, .int, .int, .int, .int, .int, .int, .int, .int, .int, (.object "jdk/internal/access/JavaLangAccess"), .int]
  resolved := Array.replicate 378 none
  statics := none }

def pool13 : Array CpInfo := pool [(1, u "java/lang/Cloneable"), (0, .class_ 1), (0, u "java/lang/Object"), (0, .class_ 3)] 3

/-- java/lang/Cloneable -/
def k13 : Class := { plain "java/lang/Cloneable" (some 0) with
  accessFlags := 1537
  interfaces := #[]
  cf := some (fileOf pool13 2 #[] #[] 1537 4 #[] #[])
  fields := #[]
  methods := #[]
  instanceTypes := #[]
  staticTypes := #[]
  resolved := Array.replicate 8 none
  statics := none }

/-- the primitive byte -/
def k14 : Class := { plain "byte" none with kind := .primitive 'B', accessFlags := 0x411 }
/-- [B -/
def k15 : Class := { plain "[B" (some 0) with kind := .array 14 .byte, interfaces := #[13, 2], accessFlags := 1041 }

/-- the primitive char -/
def k16 : Class := { plain "char" none with kind := .primitive 'C', accessFlags := 0x411 }
/-- [C -/
def k17 : Class := { plain "[C" (some 0) with kind := .array 16 .char, interfaces := #[13, 2], accessFlags := 1041 }

/-- the primitive int -/
def k18 : Class := { plain "int" none with kind := .primitive 'I', accessFlags := 0x411 }
/-- [I -/
def k19 : Class := { plain "[I" (some 0) with kind := .array 18 .int, interfaces := #[13, 2], accessFlags := 1041 }

def heap : Heap := #[{ cls := 7, slots := #[.long 0, .int 1, .null, .int 0, .null, .int 0, .int 0], vm := .statics 7 },
  { cls := 9, slots := #[.int 0, .int 8, .int 0, .int 1], vm := .statics 9 },
  { cls := 11, slots := #[.null, .null, .null], vm := .statics 11 }]
def classes : Array Class := #[k0, k1, k2, k3, k4, k5, k6, k7, k8, k9, k10, k11, k12, k13, k14, k15, k16, k17, k18, k19]
def interned : List (Array UInt16 × Addr) := []
def slotsUsed : Nat := 14
def theMethod : MethodId := ⟨1, 1⟩
def args0 : Array Value := #[.int 5, .int 5, .int 5, .int 5, .int 5]
def aboutOver (below : List Frame) : State where
  vm := { classes := classes, interned := interned.toArray }
  heap := heap
  slotsUsed := slotsUsed
  threads := #[{ frames := .invoking theMethod args0 :: below }]
def below0 : List Frame := [.native { method := ⟨0, 0⟩, args := #[] }]
def about1 : State := aboutOver below0
def p0 : Program := .bare "" "" ""
def e0 : Env := launch0.env 0 0 0
theorem w_frames : about1.frames = Frame.invoking theMethod args0 :: below0 := rfl
set_option maxRecDepth 65536 in
theorem w_args : argsFit about1.vm theMethod args0 = true := by decide +kernel
set_option maxRecDepth 65536 in
theorem w_heap : heapFits about1 = true := by decide +kernel
set_option maxRecDepth 65536 in
theorem w_runnable : about1.curStatus? = some .runnable := by decide +kernel
set_option maxRecDepth 65536 in
theorem w_alone : about1.alone = true := by decide +kernel
set_option maxRecDepth 65536 in
theorem w_named : about1.methodNamed? x = some theMethod := by decide +kernel
set_option maxRecDepth 65536 in
theorem w_hears : about1.hears theMethod below0 = true := by decide +kernel
set_option maxRecDepth 65536 in
theorem w_ripe : about1.ripe theMethod args0 below0 = true := by decide +kernel
theorem w_running : about1.status = .running := rfl
set_option maxRecDepth 65536 in
theorem w_room : about1.hasRoom e0.platform room_1 = true :=
  launch0.hasRoom_least _ room_1 (by decide +kernel) (by decide +kernel) (by decide +kernel) (by decide +kernel) (by decide +kernel) (by decide +kernel)
theorem allAtoms_all (ts : List Jvm.Cond) (a : Array Jvm.Value) (st : Jvm.State) : (allAtoms ts).before a st = ts.all (fun c => c.before a st) := by
  induction ts with
  | nil => rfl
  | cons c t ih =>
    show (Jvm.Cond.and c (allAtoms t)).before a st = _
    rw [Jvm.Cond.before_and, ih, List.all_cons]
def words1 : List Jvm.Cond := Jvm.Cond.code x code maxLocals ret :: tables_1
/-- a 'code' word, met by the world's own term for the bytes: nothing is compared byte by byte -/
theorem code_word {y : MethodName} {bytes : ByteArray} {mx : Nat} {rt : Option FieldType} {a : Array Value} {s : State} {m : MethodId} {meth : Method} {c : Code} (h1 : s.methodNamed? y = some m) (h2 : s.vm.method? m = some meth) (h3 : meth.code = some c) (h4 : c.code = bytes)
    (h5 : (c.maxLocals == mx && c.exceptionTable.isEmpty && decide (c.maxStack ≤ mostOperands) && decide (meth.sig.returnType = rt) && !meth.locks && decide (parseMethodDescriptor y.desc = some meth.sig)) = true) : (Jvm.Cond.code y bytes mx rt).before a s = true := by
  simp only [Bool.and_eq_true, beq_iff_eq, Bool.not_eq_true', decide_eq_true_eq] at h5
  obtain ⟨⟨⟨⟨⟨g1, g2⟩, g3⟩, g4⟩, g5⟩, g6⟩ := h5
  simp [Cond.before, Cond.holds, Cond.value, h1, h2, h3, h4, g1, g2, g3, g4, g5, g6]
def isCode : Jvm.Cond → Bool
  | .code _ _ _ _ => true
  | _ => false
theorem all_split {L : List Jvm.Cond} {P : Jvm.Cond → Bool} (h1 : L.all (fun c => isCode c || P c) = true) (h2 : ∀ c ∈ L.filter isCode, P c = true) : L.all P = true := by
  refine List.all_eq_true.mpr fun c hc => ?_
  have h := List.all_eq_true.mp h1 c hc
  rcases Bool.eq_false_or_eq_true (isCode c) with hi | hi
  · exact h2 c (List.mem_filter.mpr ⟨hc, hi⟩)
  · simpa [hi] using h
set_option maxRecDepth 65536 in
theorem w_c0 : (Jvm.Cond.code x code maxLocals ret).before args0 about1 = true := code_word (m := ⟨1, 1⟩) (meth := k1m1) (c := k1c1) (by decide +kernel) rfl rfl rfl (by decide +kernel)
set_option maxRecDepth 65536 in
theorem w_c1 : (Jvm.Cond.code ({ cls := "com/example/sealgrant/sealgrant/AsciiPrintablePinLaw", name := "make", desc := "(ICCCC)Ljava/lang/String;" } : Jvm.MethodName) method_4_code (5 : Nat) (Option.some (Jvm.ClassFile.FieldType.object "java/lang/String"))).before args0 about1 = true := code_word (m := ⟨1, 3⟩) (meth := k1m3) (c := k1c3) (by decide +kernel) rfl rfl rfl (by decide +kernel)
set_option maxRecDepth 65536 in
theorem w_c2 : (Jvm.Cond.code ({ cls := "java/lang/String", name := "<init>", desc := "([C)V" } : Jvm.MethodName) jdk_42_method_3_code (2 : Nat) (Option.none : Option Jvm.ClassFile.FieldType)).before args0 about1 = true := code_word (m := ⟨7, 1⟩) (meth := k7m1) (c := k7c1) (by decide +kernel) rfl rfl rfl (by decide +kernel)
set_option maxRecDepth 65536 in
theorem w_c3 : (Jvm.Cond.code ({ cls := "java/lang/String", name := "<init>", desc := "([CIILjava/lang/Void;)V" } : Jvm.MethodName) jdk_42_method_149_code (6 : Nat) (Option.none : Option Jvm.ClassFile.FieldType)).before args0 about1 = true := code_word (m := ⟨7, 4⟩) (meth := k7m4) (c := k7c4) (by decide +kernel) rfl rfl rfl (by decide +kernel)
set_option maxRecDepth 65536 in
theorem w_c4 : (Jvm.Cond.code ({ cls := "java/lang/Object", name := "<init>", desc := "()V" } : Jvm.MethodName) object_method_1_code (1 : Nat) (Option.none : Option Jvm.ClassFile.FieldType)).before args0 about1 = true := code_word (m := ⟨0, 0⟩) (meth := k0m0) (c := k0c0) (by decide +kernel) rfl rfl rfl (by decide +kernel)
set_option maxRecDepth 65536 in
theorem w_c5 : (Jvm.Cond.code ({ cls := "com/example/sealgrant/sealgrant/Ascii", name := "printable", desc := "(Ljava/lang/String;)Z" } : Jvm.MethodName) prog_1_method_4_code (2 : Nat) (Option.some Jvm.ClassFile.FieldType.boolean)).before args0 about1 = true := code_word (m := ⟨8, 1⟩) (meth := k8m1) (c := k8c1) (by decide +kernel) rfl rfl rfl (by decide +kernel)
set_option maxRecDepth 65536 in
theorem w_c6 : (Jvm.Cond.code ({ cls := "java/lang/String", name := "length", desc := "()I" } : Jvm.MethodName) jdk_42_method_54_code (1 : Nat) (Option.some Jvm.ClassFile.FieldType.int)).before args0 about1 = true := code_word (m := ⟨7, 2⟩) (meth := k7m2) (c := k7c2) (by decide +kernel) rfl rfl rfl (by decide +kernel)
set_option maxRecDepth 65536 in
theorem w_c7 : (Jvm.Cond.code ({ cls := "java/lang/String", name := "coder", desc := "()B" } : Jvm.MethodName) jdk_42_method_152_code (1 : Nat) (Option.some Jvm.ClassFile.FieldType.byte)).before args0 about1 = true := code_word (m := ⟨7, 5⟩) (meth := k7m5) (c := k7c5) (by decide +kernel) rfl rfl rfl (by decide +kernel)
set_option maxRecDepth 65536 in
theorem w_c8 : (Jvm.Cond.code ({ cls := "java/lang/StringUTF16", name := "compress", desc := "([CII)[B" } : Jvm.MethodName) jdk_52_method_16_code (6 : Nat) (Option.some (Jvm.ClassFile.FieldType.array Jvm.ClassFile.FieldType.byte))).before args0 about1 = true := code_word (m := ⟨9, 8⟩) (meth := k9m8) (c := k9c8) (by decide +kernel) rfl rfl rfl (by decide +kernel)
set_option maxRecDepth 65536 in
theorem w_c9 : (Jvm.Cond.code ({ cls := "java/lang/StringUTF16", name := "compress", desc := "([CI[BII)I" } : Jvm.MethodName) jdk_52_method_21_code (7 : Nat) (Option.some Jvm.ClassFile.FieldType.int)).before args0 about1 = true := code_word (m := ⟨9, 9⟩) (meth := k9m9) (c := k9c9) (by decide +kernel) rfl rfl rfl (by decide +kernel)
set_option maxRecDepth 65536 in
theorem w_c10 : (Jvm.Cond.code ({ cls := "java/lang/StringUTF16", name := "coderFromArrayLen", desc := "([BI)B" } : Jvm.MethodName) jdk_52_method_15_code (2 : Nat) (Option.some Jvm.ClassFile.FieldType.byte)).before args0 about1 = true := code_word (m := ⟨9, 7⟩) (meth := k9m7) (c := k9c7) (by decide +kernel) rfl rfl rfl (by decide +kernel)
set_option maxRecDepth 65536 in
theorem w_c11 : (Jvm.Cond.code ({ cls := "com/example/sealgrant/sealgrant/AsciiPrintablePinLaw", name := "ok", desc := "(C)Z" } : Jvm.MethodName) method_3_code (2 : Nat) (Option.some Jvm.ClassFile.FieldType.boolean)).before args0 about1 = true := code_word (m := ⟨1, 2⟩) (meth := k1m2) (c := k1c2) (by decide +kernel) rfl rfl rfl (by decide +kernel)
set_option maxRecDepth 65536 in
theorem w_c12 : (Jvm.Cond.code ({ cls := "java/lang/String", name := "charAt", desc := "(I)C" } : Jvm.MethodName) jdk_42_method_56_code (2 : Nat) (Option.some Jvm.ClassFile.FieldType.char)).before args0 about1 = true := code_word (m := ⟨7, 3⟩) (meth := k7m3) (c := k7c3) (by decide +kernel) rfl rfl rfl (by decide +kernel)
set_option maxRecDepth 65536 in
theorem w_c13 : (Jvm.Cond.code ({ cls := "java/lang/String", name := "isLatin1", desc := "()Z" } : Jvm.MethodName) jdk_42_method_154_code (1 : Nat) (Option.some Jvm.ClassFile.FieldType.boolean)).before args0 about1 = true := code_word (m := ⟨7, 6⟩) (meth := k7m6) (c := k7c6) (by decide +kernel) rfl rfl rfl (by decide +kernel)
set_option maxRecDepth 65536 in
theorem w_c14 : (Jvm.Cond.code ({ cls := "java/lang/StringLatin1", name := "charAt", desc := "([BI)C" } : Jvm.MethodName) jdk_43_method_2_code (2 : Nat) (Option.some Jvm.ClassFile.FieldType.char)).before args0 about1 = true := code_word (m := ⟨10, 1⟩) (meth := k10m1) (c := k10c1) (by decide +kernel) rfl rfl rfl (by decide +kernel)
set_option maxRecDepth 65536 in
theorem w_c15 : (Jvm.Cond.code ({ cls := "java/lang/String", name := "checkIndex", desc := "(II)V" } : Jvm.MethodName) jdk_42_method_155_code (2 : Nat) (Option.none : Option Jvm.ClassFile.FieldType)).before args0 about1 = true := code_word (m := ⟨7, 7⟩) (meth := k7m7) (c := k7c7) (by decide +kernel) rfl rfl rfl (by decide +kernel)
set_option maxRecDepth 65536 in
theorem w_c16 : (Jvm.Cond.code ({ cls := "jdk/internal/util/Preconditions", name := "checkIndex", desc := "(IILjava/util/function/BiFunction;)I" } : Jvm.MethodName) jdk_41_method_11_code (3 : Nat) (Option.some Jvm.ClassFile.FieldType.int)).before args0 about1 = true := code_word (m := ⟨11, 1⟩) (meth := k11m1) (c := k11c1) (by decide +kernel) rfl rfl rfl (by decide +kernel)
set_option maxRecDepth 65536 in
theorem w_c17 : (Jvm.Cond.code ({ cls := "java/lang/StringUTF16", name := "toBytes", desc := "([CII)[B" } : Jvm.MethodName) jdk_52_method_14_code (5 : Nat) (Option.some (Jvm.ClassFile.FieldType.array Jvm.ClassFile.FieldType.byte))).before args0 about1 = true := code_word (m := ⟨9, 6⟩) (meth := k9m6) (c := k9c6) (by decide +kernel) rfl rfl rfl (by decide +kernel)
set_option maxRecDepth 65536 in
theorem w_c18 : (Jvm.Cond.code ({ cls := "java/lang/StringUTF16", name := "newBytesFor", desc := "(I)[B" } : Jvm.MethodName) jdk_52_method_2_code (1 : Nat) (Option.some (Jvm.ClassFile.FieldType.array Jvm.ClassFile.FieldType.byte))).before args0 about1 = true := code_word (m := ⟨9, 1⟩) (meth := k9m1) (c := k9c1) (by decide +kernel) rfl rfl rfl (by decide +kernel)
set_option maxRecDepth 65536 in
theorem w_c19 : (Jvm.Cond.code ({ cls := "java/lang/StringUTF16", name := "newBytesLength", desc := "(I)I" } : Jvm.MethodName) jdk_52_method_3_code (1 : Nat) (Option.some Jvm.ClassFile.FieldType.int)).before args0 about1 = true := code_word (m := ⟨9, 2⟩) (meth := k9m2) (c := k9c2) (by decide +kernel) rfl rfl rfl (by decide +kernel)
set_option maxRecDepth 65536 in
theorem w_c20 : (Jvm.Cond.code ({ cls := "java/lang/StringUTF16", name := "putChar", desc := "([BII)V" } : Jvm.MethodName) jdk_52_method_4_code (3 : Nat) (Option.none : Option Jvm.ClassFile.FieldType)).before args0 about1 = true := code_word (m := ⟨9, 3⟩) (meth := k9m3) (c := k9c3) (by decide +kernel) rfl rfl rfl (by decide +kernel)
set_option maxRecDepth 65536 in
theorem w_c21 : (Jvm.Cond.code ({ cls := "java/lang/StringUTF16", name := "getChar", desc := "([BI)C" } : Jvm.MethodName) jdk_52_method_5_code (2 : Nat) (Option.some Jvm.ClassFile.FieldType.char)).before args0 about1 = true := code_word (m := ⟨9, 4⟩) (meth := k9m4) (c := k9c4) (by decide +kernel) rfl rfl rfl (by decide +kernel)
set_option maxRecDepth 65536 in
theorem w_c22 : (Jvm.Cond.code ({ cls := "java/lang/StringUTF16", name := "charAt", desc := "([BI)C" } : Jvm.MethodName) jdk_52_method_83_code (2 : Nat) (Option.some Jvm.ClassFile.FieldType.char)).before args0 about1 = true := code_word (m := ⟨9, 10⟩) (meth := k9m10) (c := k9c10) (by decide +kernel) rfl rfl rfl (by decide +kernel)
set_option maxRecDepth 65536 in
theorem w_c23 : (Jvm.Cond.code ({ cls := "java/lang/StringUTF16", name := "checkIndex", desc := "(I[B)V" } : Jvm.MethodName) jdk_52_method_91_code (2 : Nat) (Option.none : Option Jvm.ClassFile.FieldType)).before args0 about1 = true := code_word (m := ⟨9, 11⟩) (meth := k9m11) (c := k9c11) (by decide +kernel) rfl rfl rfl (by decide +kernel)
set_option maxRecDepth 65536 in
theorem w_c24 : (Jvm.Cond.code ({ cls := "java/lang/StringUTF16", name := "length", desc := "([B)I" } : Jvm.MethodName) jdk_52_method_6_code (1 : Nat) (Option.some Jvm.ClassFile.FieldType.int)).before args0 about1 = true := code_word (m := ⟨9, 5⟩) (meth := k9m5) (c := k9c5) (by decide +kernel) rfl rfl rfl (by decide +kernel)
def codes1 : List Jvm.Cond := [Jvm.Cond.code x code maxLocals ret, Jvm.Cond.code ({ cls := "com/example/sealgrant/sealgrant/AsciiPrintablePinLaw", name := "make", desc := "(ICCCC)Ljava/lang/String;" } : Jvm.MethodName) method_4_code (5 : Nat) (Option.some (Jvm.ClassFile.FieldType.object "java/lang/String")), Jvm.Cond.code ({ cls := "java/lang/String", name := "<init>", desc := "([C)V" } : Jvm.MethodName) jdk_42_method_3_code (2 : Nat) (Option.none : Option Jvm.ClassFile.FieldType), Jvm.Cond.code ({ cls := "java/lang/String", name := "<init>", desc := "([CIILjava/lang/Void;)V" } : Jvm.MethodName) jdk_42_method_149_code (6 : Nat) (Option.none : Option Jvm.ClassFile.FieldType), Jvm.Cond.code ({ cls := "java/lang/Object", name := "<init>", desc := "()V" } : Jvm.MethodName) object_method_1_code (1 : Nat) (Option.none : Option Jvm.ClassFile.FieldType), Jvm.Cond.code ({ cls := "com/example/sealgrant/sealgrant/Ascii", name := "printable", desc := "(Ljava/lang/String;)Z" } : Jvm.MethodName) prog_1_method_4_code (2 : Nat) (Option.some Jvm.ClassFile.FieldType.boolean), Jvm.Cond.code ({ cls := "java/lang/String", name := "length", desc := "()I" } : Jvm.MethodName) jdk_42_method_54_code (1 : Nat) (Option.some Jvm.ClassFile.FieldType.int), Jvm.Cond.code ({ cls := "java/lang/String", name := "coder", desc := "()B" } : Jvm.MethodName) jdk_42_method_152_code (1 : Nat) (Option.some Jvm.ClassFile.FieldType.byte), Jvm.Cond.code ({ cls := "java/lang/StringUTF16", name := "compress", desc := "([CII)[B" } : Jvm.MethodName) jdk_52_method_16_code (6 : Nat) (Option.some (Jvm.ClassFile.FieldType.array Jvm.ClassFile.FieldType.byte)), Jvm.Cond.code ({ cls := "java/lang/StringUTF16", name := "compress", desc := "([CI[BII)I" } : Jvm.MethodName) jdk_52_method_21_code (7 : Nat) (Option.some Jvm.ClassFile.FieldType.int), Jvm.Cond.code ({ cls := "java/lang/StringUTF16", name := "coderFromArrayLen", desc := "([BI)B" } : Jvm.MethodName) jdk_52_method_15_code (2 : Nat) (Option.some Jvm.ClassFile.FieldType.byte), Jvm.Cond.code ({ cls := "com/example/sealgrant/sealgrant/AsciiPrintablePinLaw", name := "ok", desc := "(C)Z" } : Jvm.MethodName) method_3_code (2 : Nat) (Option.some Jvm.ClassFile.FieldType.boolean), Jvm.Cond.code ({ cls := "java/lang/String", name := "charAt", desc := "(I)C" } : Jvm.MethodName) jdk_42_method_56_code (2 : Nat) (Option.some Jvm.ClassFile.FieldType.char), Jvm.Cond.code ({ cls := "java/lang/String", name := "isLatin1", desc := "()Z" } : Jvm.MethodName) jdk_42_method_154_code (1 : Nat) (Option.some Jvm.ClassFile.FieldType.boolean), Jvm.Cond.code ({ cls := "java/lang/StringLatin1", name := "charAt", desc := "([BI)C" } : Jvm.MethodName) jdk_43_method_2_code (2 : Nat) (Option.some Jvm.ClassFile.FieldType.char), Jvm.Cond.code ({ cls := "java/lang/String", name := "checkIndex", desc := "(II)V" } : Jvm.MethodName) jdk_42_method_155_code (2 : Nat) (Option.none : Option Jvm.ClassFile.FieldType), Jvm.Cond.code ({ cls := "jdk/internal/util/Preconditions", name := "checkIndex", desc := "(IILjava/util/function/BiFunction;)I" } : Jvm.MethodName) jdk_41_method_11_code (3 : Nat) (Option.some Jvm.ClassFile.FieldType.int), Jvm.Cond.code ({ cls := "java/lang/StringUTF16", name := "toBytes", desc := "([CII)[B" } : Jvm.MethodName) jdk_52_method_14_code (5 : Nat) (Option.some (Jvm.ClassFile.FieldType.array Jvm.ClassFile.FieldType.byte)), Jvm.Cond.code ({ cls := "java/lang/StringUTF16", name := "newBytesFor", desc := "(I)[B" } : Jvm.MethodName) jdk_52_method_2_code (1 : Nat) (Option.some (Jvm.ClassFile.FieldType.array Jvm.ClassFile.FieldType.byte)), Jvm.Cond.code ({ cls := "java/lang/StringUTF16", name := "newBytesLength", desc := "(I)I" } : Jvm.MethodName) jdk_52_method_3_code (1 : Nat) (Option.some Jvm.ClassFile.FieldType.int), Jvm.Cond.code ({ cls := "java/lang/StringUTF16", name := "putChar", desc := "([BII)V" } : Jvm.MethodName) jdk_52_method_4_code (3 : Nat) (Option.none : Option Jvm.ClassFile.FieldType), Jvm.Cond.code ({ cls := "java/lang/StringUTF16", name := "getChar", desc := "([BI)C" } : Jvm.MethodName) jdk_52_method_5_code (2 : Nat) (Option.some Jvm.ClassFile.FieldType.char), Jvm.Cond.code ({ cls := "java/lang/StringUTF16", name := "charAt", desc := "([BI)C" } : Jvm.MethodName) jdk_52_method_83_code (2 : Nat) (Option.some Jvm.ClassFile.FieldType.char), Jvm.Cond.code ({ cls := "java/lang/StringUTF16", name := "checkIndex", desc := "(I[B)V" } : Jvm.MethodName) jdk_52_method_91_code (2 : Nat) (Option.none : Option Jvm.ClassFile.FieldType), Jvm.Cond.code ({ cls := "java/lang/StringUTF16", name := "length", desc := "([B)I" } : Jvm.MethodName) jdk_52_method_6_code (1 : Nat) (Option.some Jvm.ClassFile.FieldType.int)]
set_option maxRecDepth 65536 in
theorem codes_eq : words1.filter isCode = codes1 := rfl
theorem w_codes : ∀ c ∈ words1.filter isCode, c.before args0 about1 = true := by
  rw [codes_eq]
  intro c hc
  simp only [codes1, List.mem_cons, List.not_mem_nil, or_false] at hc
  rcases hc with rfl | rfl | rfl | rfl | rfl | rfl | rfl | rfl | rfl | rfl | rfl | rfl | rfl | rfl | rfl | rfl | rfl | rfl | rfl | rfl | rfl | rfl | rfl | rfl | rfl
  · exact w_c0
  · exact w_c1
  · exact w_c2
  · exact w_c3
  · exact w_c4
  · exact w_c5
  · exact w_c6
  · exact w_c7
  · exact w_c8
  · exact w_c9
  · exact w_c10
  · exact w_c11
  · exact w_c12
  · exact w_c13
  · exact w_c14
  · exact w_c15
  · exact w_c16
  · exact w_c17
  · exact w_c18
  · exact w_c19
  · exact w_c20
  · exact w_c21
  · exact w_c22
  · exact w_c23
  · exact w_c24
set_option maxRecDepth 65536 in
theorem w_t1 : (words1.take 24).all (fun c => isCode c || c.before args0 about1) = true := by decide +kernel
set_option maxRecDepth 65536 in
theorem w_t2 : ((words1.drop 24).take 24).all (fun c => isCode c || c.before args0 about1) = true := by decide +kernel
set_option maxRecDepth 65536 in
theorem w_t3 : (((words1.drop 24).drop 24).take 24).all (fun c => isCode c || c.before args0 about1) = true := by decide +kernel
set_option maxRecDepth 65536 in
theorem w_t4 : ((((words1.drop 24).drop 24).drop 24).take 24).all (fun c => isCode c || c.before args0 about1) = true := by decide +kernel
set_option maxRecDepth 65536 in
theorem w_t5 : ((((words1.drop 24).drop 24).drop 24).drop 24).all (fun c => isCode c || c.before args0 about1) = true := by decide +kernel
theorem w_tables : (allAtoms (Jvm.Cond.code x code maxLocals ret :: tables_1)).before args0 about1 = true := by
  rw [allAtoms_all]
  show words1.all (fun c => c.before args0 about1) = true
  refine all_split ?_ w_codes
  rw [← List.take_append_drop 24 words1, List.all_append, w_t1, ← List.take_append_drop 24 (words1.drop 24), List.all_append, w_t2, ← List.take_append_drop 24 ((words1.drop 24).drop 24), List.all_append, w_t3, ← List.take_append_drop 24 (((words1.drop 24).drop 24).drop 24), List.all_append, w_t4, w_t5]
  rfl
set_option maxRecDepth 65536 in
theorem w_rest : rest_1_c.before args0 about1 = true := by decide +kernel
set_option maxRecDepth 65536 in
theorem w_case : (Jvm.Cond.and given_1 narrow_1).before args0 about1 = true := by decide +kernel
set_option maxRecDepth 65536 in
theorem w_consts : constsHeld consts_1 about1 := Jvm.Lit.constsHeldB_iff.mp (by decide +kernel)
theorem w_applies : (headSpec (Jvm.Cond.code x code maxLocals ret :: tables_1) room_1).applies x e0.platform about1 = true :=
  (Spec.applies_iff w_frames).mpr ⟨w_running, w_runnable, w_alone, w_named, w_hears, w_ripe, w_room, w_tables⟩
theorem atStart : AtStart classFile x code maxLocals ret World_1 tables_1 room_1 Calls_1 rest_1 Pre_1 launch0 p0 e0 about1 theMethod args0 below0 :=
  ⟨lists_1, trivial, launch0.admits_env _ _ _, launch0.least_env, fairChoices_fair.cas, fairChoices_fair.clock, w_frames, w_args, w_heap, w_applies, ⟨w_consts, trivial⟩, w_rest, w_case⟩
end start1
theorem witness_1 : WitnessClaimed_1 := ⟨start1.p0, start1.e0, start1.about1, start1.theMethod, start1.args0, start1.below0, start1.atStart⟩
end Jvm.Pilot.@@N@@
